import Derived.Test.Qxb6617338aNumbers
namespace Go.Proofs.Qxb6617338a
open Go.RowKit

/-- The call ended by returning a bool. -/
def AnyBool (e : Ending) : Prop := ∃ r, e = .returned (.bool r)

set_option maxHeartbeats 1000000 in
set_option maxRecDepth 100000 in
theorem bytes11_some (b off cap n : Nat) (rs : List Rg) (w : World) (h0 : 0 < n) (hm : n ≤ maxLen)
    (hc : ∀ i, i < n → RgAt w b (off + i * 3) (rs.getD i Rg.none)) :
    Calls Try.prog 11 #[.slice (some ⟨b, off, none⟩) n cap] w fun e w' => AnyBool e ∧ w' = w := by
  unfold maxLen at hm
  go_enter Try.func11, Try.ntmps11
  go_wp2
  all_goals first
    | (go_ret; exact ⟨⟨_, rfl⟩, rfl⟩)
    | skip
  go_loop [3, 4] (fun t i => ∃ (k : Nat) (q : Int), k ≤ n ∧ t = .int .i64 q ∧ i = .int .i64 k) (fun _ i => n - (intOf i).toNat)
  case atStart => exact ⟨0, _, Nat.zero_le _, rfl, rfl⟩
  case round =>
    obtain ⟨k, q, hk, rfl, rfl⟩ := hrel
    by_cases hlt : k < n
    · obtain ⟨c0, c1, c2⟩ := hc k hlt
      clear hc
      generalize rs.getD k Rg.none = r at *
      go_wp2
      all_goals first
        | (go_ret; exact ⟨⟨_, rfl⟩, rfl⟩)
        | (go_round
           case rel => exact ⟨k + 1, _, by omega, rfl, by go_num⟩
           case measure => simp [intOf]; omega)
    · clear hc
      go_wp2
      go_ret
      exact ⟨⟨_, rfl⟩, rfl⟩

set_option maxHeartbeats 1000000 in
set_option maxRecDepth 100000 in
theorem bytes11_none (a : Option Addr) (c : Nat) (w : World) :
    Calls Try.prog 11 #[.slice a 0 c] w fun e w' => AnyBool e ∧ w' = w := by
  go_enter Try.func11, Try.ntmps11
  go_wp2
  go_loop [3, 4] (fun t i => (∃ q : Int, t = .int .i64 q) ∧ i = .int .i64 0) (fun _ _ => 0)
  case atStart => exact ⟨⟨_, rfl⟩, rfl⟩
  case round =>
    obtain ⟨⟨q, rfl⟩, rfl⟩ := hrel
    go_wp2
    go_ret
    exact ⟨⟨_, rfl⟩, rfl⟩

theorem bytes11_any (v : Value) (rs : List Rg) (w : World) (h : RL w v rs) :
    Calls Try.prog 11 #[v] w fun e w' => AnyBool e ∧ w' = w := by
  by_cases h0 : 0 < rs.length
  · obtain ⟨b, off, cap, rfl, h1, h2, hc⟩ := h.pos h0
    exact bytes11_some b off cap rs.length rs w h0 (by omega) hc
  · have h0 : rs = [] := List.eq_nil_of_length_eq_zero (by omega)
    subst h0
    obtain ⟨a, c, rfl, _⟩ := h.len
    exact bytes11_none a c w

set_option maxHeartbeats 1000000 in
set_option maxRecDepth 100000 in
theorem bytes17_some (b off cap n : Nat) (rs : List Rg) (w : World) (h0 : 0 < n) (hm : n ≤ maxLen)
    (hc : ∀ i, i < n → RgAt w b (off + i * 3) (rs.getD i Rg.none)) :
    Calls Try.prog 17 #[.slice (some ⟨b, off, none⟩) n cap] w fun e w' => AnyBool e ∧ w' = w := by
  unfold maxLen at hm
  go_enter Try.func17, Try.ntmps17
  go_wp2
  all_goals first
    | (go_ret; exact ⟨⟨_, rfl⟩, rfl⟩)
    | skip
  go_loop [3, 4] (fun t i => ∃ (k : Nat) (q : Int), k ≤ n ∧ t = .int .i64 q ∧ i = .int .i64 k) (fun _ i => n - (intOf i).toNat)
  case atStart => exact ⟨0, _, Nat.zero_le _, rfl, rfl⟩
  case round =>
    obtain ⟨k, q, hk, rfl, rfl⟩ := hrel
    by_cases hlt : k < n
    · obtain ⟨c0, c1, c2⟩ := hc k hlt
      clear hc
      generalize rs.getD k Rg.none = r at *
      go_wp2
      all_goals first
        | (go_ret; exact ⟨⟨_, rfl⟩, rfl⟩)
        | (go_round
           case rel => exact ⟨k + 1, _, by omega, rfl, by go_num⟩
           case measure => simp [intOf]; omega)
    · clear hc
      go_wp2
      go_ret
      exact ⟨⟨_, rfl⟩, rfl⟩

set_option maxHeartbeats 1000000 in
set_option maxRecDepth 100000 in
theorem bytes17_none (a : Option Addr) (c : Nat) (w : World) :
    Calls Try.prog 17 #[.slice a 0 c] w fun e w' => AnyBool e ∧ w' = w := by
  go_enter Try.func17, Try.ntmps17
  go_wp2
  go_loop [3, 4] (fun t i => (∃ q : Int, t = .int .i64 q) ∧ i = .int .i64 0) (fun _ _ => 0)
  case atStart => exact ⟨⟨_, rfl⟩, rfl⟩
  case round =>
    obtain ⟨⟨q, rfl⟩, rfl⟩ := hrel
    go_wp2
    go_ret
    exact ⟨⟨_, rfl⟩, rfl⟩

theorem bytes17_any (v : Value) (rs : List Rg) (w : World) (h : RL w v rs) :
    Calls Try.prog 17 #[v] w fun e w' => AnyBool e ∧ w' = w := by
  by_cases h0 : 0 < rs.length
  · obtain ⟨b, off, cap, rfl, h1, h2, hc⟩ := h.pos h0
    exact bytes17_some b off cap rs.length rs w h0 (by omega) hc
  · have h0 : rs = [] := List.eq_nil_of_length_eq_zero (by omega)
    subst h0
    obtain ⟨a, c, rfl, _⟩ := h.len
    exact bytes17_none a c w

set_option maxHeartbeats 1000000 in
set_option maxRecDepth 100000 in
theorem bytes7_some (b off cap n : Nat) (rs : List Rg) (i : Int) (w : World) (h0 : 0 < n) (hm : n ≤ maxLen)
    (hc : ∀ i, i < n → RgAt w b (off + i * 3) (rs.getD i Rg.none)) :
    Calls Try.prog 7 #[.slice (some ⟨b, off, none⟩) n cap, .int .i64 i] w fun e w' => AnyBool e ∧ w' = w := by
  unfold maxLen at hm
  go_enter Try.func7, Try.ntmps7
  go_wp2
  all_goals first
    | (go_ret; exact ⟨⟨_, rfl⟩, rfl⟩)
    | skip
  go_loop [5, 6] (fun t i => ∃ (k : Nat) (q : Int), k ≤ n ∧ t = .int .i64 q ∧ i = .int .i64 k) (fun _ i => n - (intOf i).toNat)
  case atStart => exact ⟨0, _, Nat.zero_le _, rfl, rfl⟩
  case round =>
    obtain ⟨k, q, hk, rfl, rfl⟩ := hrel
    by_cases hlt : k < n
    · obtain ⟨c0, c1, c2⟩ := hc k hlt
      clear hc
      generalize rs.getD k Rg.none = r at *
      go_wp2
      all_goals first
        | (go_ret; exact ⟨⟨_, rfl⟩, rfl⟩)
        | (go_round
           case rel => exact ⟨k + 1, _, by omega, rfl, by go_num⟩
           case measure => simp [intOf]; omega)
    · clear hc
      go_wp2
      go_ret
      exact ⟨⟨_, rfl⟩, rfl⟩

set_option maxHeartbeats 1000000 in
set_option maxRecDepth 100000 in
theorem bytes7_none (a : Option Addr) (c : Nat) (i : Int) (w : World) :
    Calls Try.prog 7 #[.slice a 0 c, .int .i64 i] w fun e w' => AnyBool e ∧ w' = w := by
  go_enter Try.func7, Try.ntmps7
  go_wp2
  go_loop [5, 6] (fun t i => (∃ q : Int, t = .int .i64 q) ∧ i = .int .i64 0) (fun _ _ => 0)
  case atStart => exact ⟨⟨_, rfl⟩, rfl⟩
  case round =>
    obtain ⟨⟨q, rfl⟩, rfl⟩ := hrel
    go_wp2
    go_ret
    exact ⟨⟨_, rfl⟩, rfl⟩

theorem bytes7_any (v : Value) (rs : List Rg) (i : Int) (w : World) (h : RL w v rs) :
    Calls Try.prog 7 #[v, .int .i64 i] w fun e w' => AnyBool e ∧ w' = w := by
  by_cases h0 : 0 < rs.length
  · obtain ⟨b, off, cap, rfl, h1, h2, hc⟩ := h.pos h0
    exact bytes7_some b off cap rs.length rs i w h0 (by omega) hc
  · have h0 : rs = [] := List.eq_nil_of_length_eq_zero (by omega)
    subst h0
    obtain ⟨a, c, rfl, _⟩ := h.len
    exact bytes7_none a c i w

/-- What rangesFit's yes says. -/
def Fits (rs : List Rg) (e : Ending) : Prop := ∃ r, e = .returned (.bool r) ∧ (r = true → rs.length ≤ 65536 ∧ sumLen rs ≤ 1048576)

theorem Fits.no (rs : List Rg) : Fits rs (.returned (.bool false)) := ⟨false, rfl, fun h => by cases h⟩

set_option maxHeartbeats 1000000 in
set_option maxRecDepth 100000 in
theorem fit_some (b off cap : Nat) (rs : List Rg) (w : World) (h0 : 0 < rs.length) (hm : rs.length ≤ maxLen)
    (hc : ∀ i, i < rs.length → RgAt w b (off + i * 3) (rs.getD i Rg.none)) :
    Calls Try.prog 8 #[.slice (some ⟨b, off, none⟩) rs.length cap] w fun e w' => Fits rs e ∧ w' = w := by
  unfold maxLen at hm
  generalize hnn : rs.length = n at *
  have HN := hidden hnn
  clear hnn
  go_enter Try.func8, Try.ntmps8
  go_wp2
  all_goals first
    | (go_ret; exact ⟨Fits.no _, rfl⟩)
    | skip
  go_loop [3, 4] (fun t i => ∃ (k q : Nat), k ≤ n ∧ t = .int .i64 q ∧ i = .int .i64 k ∧ q ≤ 1048576 ∧ q = n * 48 + sumLen (rs.take k)) (fun _ i => n - (intOf i).toNat)
  case atStart => exact ⟨0, n * 48, Nat.zero_le _, by go_num, rfl, by omega, by simp [sumLen]⟩
  case round =>
    obtain ⟨k, q, hk, rfl, rfl, hq, hqs⟩ := hrel
    by_cases hlt : k < n
    · obtain ⟨c0, c1, c2⟩ := hc k hlt
      have HQ := hidden (sumLen_snoc rs k (by rw [HN.out]; exact hlt))
      have HQ2 := hidden hqs
      clear hc hqs
      generalize rs.getD k Rg.none = r at *
      generalize sumLen (rs.take k) = S at *
      go_wp2
      all_goals first
        | (go_ret; exact ⟨Fits.no _, rfl⟩)
        | (go_round
           case rel => exact ⟨k + 1, q + r.nrn.size + r.first.size + r.last.size, by omega, by go_num, by go_num, by omega, by rw [HQ.out, HQ2.out]; omega⟩
           case measure => simp [intOf]; omega)
    · obtain rfl : k = n := by omega
      rw [List.take_of_length_le (by rw [HN.out]; exact Nat.le_refl _)] at hqs
      have HF : Hid (rs.length ≤ 65536 ∧ sumLen rs ≤ 1048576) := ⟨by rw [HN.out]; omega, by omega⟩
      clear hc hqs
      go_wp2
      go_ret
      exact ⟨⟨_, rfl, fun _ => HF.out⟩, rfl⟩

set_option maxHeartbeats 1000000 in
set_option maxRecDepth 100000 in
theorem fit_none (a : Option Addr) (c : Nat) (w : World) :
    Calls Try.prog 8 #[.slice a 0 c] w fun e w' => Fits [] e ∧ w' = w := by
  go_enter Try.func8, Try.ntmps8
  go_wp2
  go_loop [3, 4] (fun t i => (∃ q : Int, t = .int .i64 q) ∧ i = .int .i64 0) (fun _ _ => 0)
  case atStart => exact ⟨⟨_, rfl⟩, rfl⟩
  case round =>
    obtain ⟨⟨q, rfl⟩, rfl⟩ := hrel
    go_wp2
    go_ret
    exact ⟨⟨_, rfl, fun _ => ⟨by simp, by simp [sumLen]⟩⟩, rfl⟩

/-- rangesFit: where it says yes the lengths are small. -/
theorem fit_any (v : Value) (rs : List Rg) (w : World) (h : RL w v rs) : Calls Try.prog 8 #[v] w fun e w' => Fits rs e ∧ w' = w := by
  by_cases h0 : 0 < rs.length
  · obtain ⟨b, off, cap, rfl, h1, h2, hc⟩ := h.pos h0
    exact fit_some b off cap rs w h0 (by omega) hc
  · have h0 : rs = [] := List.eq_nil_of_length_eq_zero (by omega)
    subst h0
    obtain ⟨a, c, rfl, _⟩ := h.len
    exact fit_none a c w

end Go.Proofs.Qxb6617338a
