import Derived.Test.Qxb6617338aNumbers
import Derived.Test.Qxb6617338aRead
namespace Go.Proofs.Qxb6617338a
open Go.RowKit

/-- What a yes of digitsOnly says. -/
def DigOf (s : ByteArray) (e : Ending) : Prop := ∃ r, e = .returned (.bool r) ∧ (r = true → digs s)
theorem DigOf.no (s : ByteArray) : DigOf s (.returned (.bool false)) := ⟨false, rfl, fun h => by cases h⟩

theorem empty_iff (s : ByteArray) : s.toList.isEmpty = decide (s.size = 0) := by
  rw [ByteArray.toList_eq]
  cases s with
  | mk d =>
    cases d with
    | mk l => cases l <;> rfl

/-- The first k bytes are digits. -/
def digTo (s : ByteArray) (k : Nat) : Prop := ∀ j, (h : j < s.size) → j < k → 48 ≤ (s[j]'h).toNat ∧ (s[j]'h).toNat ≤ 57

theorem digTo.all {s : ByteArray} (h : digTo s s.size) (h0 : 0 < s.size) : digs s := by
  refine ⟨h0, fun b hb => ?_⟩
  obtain ⟨j, hj, rfl⟩ := List.mem_iff_getElem.1 hb
  have hj' : j < s.size := by rw [← len_bytes]; exact hj
  have h1 := h j hj' hj'
  rw [byte_getD s j hj'] at h1
  have e : s.data.toList.getD j 0 = s.data.toList[j] := by
    simp only [List.getD]
    rw [List.getElem?_eq_getElem hj]
    rfl
  rw [e] at h1
  exact h1

theorem digTo.snoc {s : ByteArray} {k : Nat} (h : digTo s k) (hk : k < s.size) (hb : 48 ≤ (s[k]'hk).toNat ∧ (s[k]'hk).toNat ≤ 57) : digTo s (k + 1) := by
  intro j hj hjk
  by_cases e : j = k
  · subst e; exact hb
  · exact h j hj (by omega)

set_option maxHeartbeats 1000000 in
set_option maxRecDepth 100000 in
theorem digits_any (s : ByteArray) (w : World) (hs : s.size ≤ 1048576) : Calls Try.prog 19 #[.string s] w fun e w' => DigOf s e ∧ w' = w := by
  by_cases h0 : 0 < s.size
  · have hE : s.toList.isEmpty = false := by rw [empty_iff]; exact decide_eq_false (by omega)
    go_enter Try.func19, Try.ntmps19
    go_wp2
    go_loop [3] (fun i => ∃ k : Nat, k ≤ s.size ∧ i = .int .i64 k ∧ digTo s k) (fun i => s.size - (intOf i).toNat)
    case atStart => exact ⟨0, Nat.zero_le _, rfl, fun j _ hj => by omega⟩
    case round =>
      obtain ⟨k, hk, rfl, hd⟩ := hrel
      have HD := hidden hd
      clear hd
      by_cases hlt : k < s.size
      · go_wp2
        all_goals first
          | (go_ret; exact ⟨DigOf.no _, rfl⟩)
          | skip
        have hb : 48 ≤ ((s[k]'hlt).toNat : Int) ∧ ((s[k]'hlt).toNat : Int) ≤ 57 := by assumption
        go_round
        case rel => exact ⟨k + 1, by omega, by go_num, digTo.snoc HD.out hlt (by omega)⟩
        case measure => simp [intOf]; omega
      · obtain rfl : k = s.size := by omega
        have HA := hidden (HD.out.all h0)
        go_wp2
        go_ret
        exact ⟨⟨_, rfl, fun _ => HA.out⟩, rfl⟩
  · have hE : s.toList.isEmpty = true := by rw [empty_iff]; exact decide_eq_true (by omega)
    go_enter Try.func19, Try.ntmps19
    go_wp2
    go_ret
    exact ⟨DigOf.no _, rfl⟩

/-- Every First and Last is a string of digits, up to k. -/
def AllDig (rs : List Rg) (k : Nat) : Prop := ∀ i, i < k → digs (rs.getD i Rg.none).first ∧ digs (rs.getD i Rg.none).last
def DigsOf (rs : List Rg) (e : Ending) : Prop := ∃ r, e = .returned (.bool r) ∧ (r = true → AllDig rs rs.length)
theorem DigsOf.no (rs : List Rg) : DigsOf rs (.returned (.bool false)) := ⟨false, rfl, fun h => by cases h⟩
theorem AllDig.snoc {rs : List Rg} {k : Nat} (h : AllDig rs k) (hk : digs (rs.getD k Rg.none).first ∧ digs (rs.getD k Rg.none).last) : AllDig rs (k + 1) := by
  intro i hi
  by_cases e : i = k
  · subst e; exact hk
  · exact h i (by omega)

set_option maxHeartbeats 1000000 in
set_option maxRecDepth 100000 in
theorem alldig_some (b off cap : Nat) (rs : List Rg) (w : World) (h0 : 0 < rs.length) (hn : rs.length ≤ 65536) (hs : sumLen rs ≤ 1048576)
    (hc : ∀ i, i < rs.length → RgAt w b (off + i * 3) (rs.getD i Rg.none)) :
    Calls Try.prog 12 #[.slice (some ⟨b, off, none⟩) rs.length cap] w fun e w' => DigsOf rs e ∧ w' = w := by
  generalize hnn : rs.length = n at *
  have HN := hidden hnn
  clear hnn
  go_enter Try.func12, Try.ntmps12
  go_wp2_with fail
  go_loop [3] (fun i => ∃ k : Nat, k ≤ n ∧ i = .int .i64 k ∧ AllDig rs k) (fun i => n - (intOf i).toNat)
  case atStart => exact ⟨0, Nat.zero_le _, rfl, fun j hj => by omega⟩
  case round =>
    obtain ⟨k, hk, rfl, hd⟩ := hrel
    have HD := hidden hd
    clear hd
    by_cases hlt : k < n
    · obtain ⟨c0, c1, c2⟩ := hc k hlt
      have hle := getD_le rs k (by rw [HN.out]; exact hlt)
      have HS := hidden (fun h => HD.out.snoc (k := k) h)
      clear hc c0
      generalize rs.getD k Rg.none = r at *
      go_wp2_with fail
      refine (digits_any r.first _ (by omega)).mono ?_
      rintro e w1 ⟨⟨r1, rfl, hd1⟩, rfl⟩
      have H1 := hidden hd1
      clear hd1
      cases r1
      · go_wp2_with fail
        go_ret
        exact ⟨DigsOf.no _, rfl⟩
      · go_wp2_with fail
        refine (digits_any r.last _ (by omega)).mono ?_
        rintro e w2 ⟨⟨r2, rfl, hd2⟩, rfl⟩
        have H2 := hidden hd2
        clear hd2
        cases r2
        · go_wp2_with fail
          go_ret
          exact ⟨DigsOf.no _, rfl⟩
        · go_wp2_with fail
          go_round
          case rel => exact ⟨k + 1, by omega, by go_num, HS.out ⟨H1.out (by trivial), H2.out (by trivial)⟩⟩
          case measure => simp [intOf]; omega
    · obtain rfl : k = n := by omega
      clear hc
      go_wp2_with fail
      go_ret
      exact ⟨⟨_, rfl, fun _ => by rw [HN.out]; exact HD.out⟩, rfl⟩

set_option maxHeartbeats 1000000 in
set_option maxRecDepth 100000 in
theorem alldig_none (a : Option Addr) (c : Nat) (w : World) : Calls Try.prog 12 #[.slice a 0 c] w fun e w' => DigsOf [] e ∧ w' = w := by
  go_enter Try.func12, Try.ntmps12
  go_wp2_with fail
  go_loop [3] (fun i => i = .int .i64 0) (fun _ => 0)
  case atStart => rfl
  case round =>
    subst hrel
    go_wp2_with fail
    go_ret
    exact ⟨⟨_, rfl, fun _ i hi => by simp at hi⟩, rfl⟩

/-- allDigits: where it says yes every First and Last is a string of digits. -/
theorem alldig_any (v : Value) (rs : List Rg) (w : World) (h : RL w v rs) (hn : rs.length ≤ 65536) (hs : sumLen rs ≤ 1048576) :
    Calls Try.prog 12 #[v] w fun e w' => DigsOf rs e ∧ w' = w := by
  by_cases h0 : 0 < rs.length
  · obtain ⟨b, off, cap, rfl, h1, h2, hc⟩ := h.pos h0
    exact alldig_some b off cap rs w h0 hn hs hc
  · have h0 : rs = [] := List.eq_nil_of_length_eq_zero (by omega)
    subst h0
    obtain ⟨a, c, rfl, _⟩ := h.len
    exact alldig_none a c w

end Go.Proofs.Qxb6617338a
