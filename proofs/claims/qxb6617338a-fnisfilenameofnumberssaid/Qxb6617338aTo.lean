import Derived.Test.Qxb6617338aNumbers
import Derived.Deep.RegionHeld3
namespace Go.Proofs.Qxb6617338a
open Go.RowKit

theorem Try.info35 : (Try.prog.info? 35).map (fun i => (i.zero, i.size, i.bytes)) = some (some (.agg #[.string ⟨#[]⟩, .string ⟨#[]⟩, .string ⟨#[]⟩]), 3, 48) := by kernel_rfl

/-- What has been handed over after k rounds. -/
def Over (xs : List Value) (rs : List Rg) (k : Nat) : Prop := ∀ i, i < k → xs[i * 3]? = some (.string (rs.getD i Rg.none).nrn) ∧ xs[i * 3 + 1]? = some (.string (rs.getD i Rg.none).first) ∧ xs[i * 3 + 2]? = some (.string (rs.getD i Rg.none).last)

/-- Three stores into block B. -/
def put3 (w : World) (B o : Nat) (x0 x1 x2 : Value) : World := ((w.setCell ⟨B, o, none⟩ x0).setCell ⟨B, o + 1, none⟩ x1).setCell ⟨B, o + 2, none⟩ x2

theorem put3_far (w : World) {B b : Nat} (h : b ≠ B) (x0 x1 x2 : Value) (o q : Nat) {v : Value} (hv : w.cell? ⟨b, q, none⟩ = some v) :
    (((w.setCell ⟨B, o, none⟩ x0).setCell ⟨B, o + 1, none⟩ x1).setCell ⟨B, o + 2, none⟩ x2).drew.cell? ⟨b, q, none⟩ = some v := by
  rw [← hv]
  refine World.cell?_of_block ?_
  show (((w.setCell ⟨B, o, none⟩ x0).setCell ⟨B, o + 1, none⟩ x1).setCell ⟨B, o + 2, none⟩ x2).heap[b]? = w.heap[b]?
  rw [Below.heap_setCell _ _ _ _ h, Below.heap_setCell _ _ _ _ h, Below.heap_setCell _ _ _ _ h]

theorem put3_owns {w : World} {B n k : Nat} {xs : List Value} (hown : w.ownsRow B 35 3 (.slice (some ⟨B, 0, none⟩) n n) n xs) (x0 x1 x2 : Value) :
    (put3 w B (k * 3) x0 x1 x2).drew.ownsRow B 35 3 (.slice (some ⟨B, 0, none⟩) n n) n (((xs.set (k * 3) x0).set (k * 3 + 1) x1).set (k * 3 + 2) x2) := by
  have h1 := (hown.stored (k * 3) x0).1
  have h2 := (h1.stored (k * 3 + 1) x1).1
  exact ((h2.stored (k * 3 + 2) x2).1).drew

theorem Over.put {xs : List Value} {rs : List Rg} {k n : Nat} (h : Over xs rs k) (hxl : xs.length = n * 3) (hk : k < n) :
    Over (((xs.set (k * 3) (.string (rs.getD k Rg.none).nrn)).set (k * 3 + 1) (.string (rs.getD k Rg.none).first)).set (k * 3 + 2) (.string (rs.getD k Rg.none).last)) rs (k + 1) := by
  intro i hi
  by_cases e : i = k
  · subst e
    refine ⟨?_, ?_, ?_⟩
    · rw [List.getElem?_set_ne (by omega), List.getElem?_set_ne (by omega), List.getElem?_set_self (by omega)]
    · rw [List.getElem?_set_ne (by omega), List.getElem?_set_self (by simp; omega)]
    · rw [List.getElem?_set_self (by simp; omega)]
  · have h1 := h i (by omega)
    refine ⟨?_, ?_, ?_⟩
    · rw [List.getElem?_set_ne (by omega), List.getElem?_set_ne (by omega), List.getElem?_set_ne (by omega)]; exact h1.1
    · rw [List.getElem?_set_ne (by omega), List.getElem?_set_ne (by omega), List.getElem?_set_ne (by omega)]; exact h1.2.1
    · rw [List.getElem?_set_ne (by omega), List.getElem?_set_ne (by omega), List.getElem?_set_ne (by omega)]; exact h1.2.2

theorem RL_of_owns {w : World} {B n : Nat} {xs : List Value} {rs : List Rg} (hown : w.ownsRow B 35 3 (.slice (some ⟨B, 0, none⟩) n n) n xs) (hn : rs.length = n) (hm : n ≤ maxLen) (ho : Over xs rs n) : RL w (.slice (some ⟨B, 0, none⟩) n n) rs := by
  subst hn
  refine .inr ⟨B, 0, none, rs.length, rfl, Nat.le_refl _, hm, fun _ => rfl, fun i hi => ?_⟩
  obtain ⟨h0, h1, h2⟩ := ho i hi
  rw [Nat.zero_add]
  refine ⟨?_, ?_, ?_⟩
  · rw [hown.cellAt (i * 3) (by omega)]; exact h0
  · rw [hown.cellAt (i * 3 + 1) (by omega)]; exact h1
  · rw [hown.cellAt (i * 3 + 2) (by omega)]; exact h2

set_option maxHeartbeats 1000000 in
set_option maxRecDepth 100000 in
theorem to_some (b off cap : Nat) (rs : List Rg) (w : World) (h0 : 0 < rs.length) (hm : rs.length ≤ 65536)
    (hc : ∀ i, i < rs.length → RgAt w b (off + i * 3) (rs.getD i Rg.none)) :
    Calls Try.prog 9 #[.slice (some ⟨b, off, none⟩) rs.length cap] w fun e w' => ∃ g, e = .returned (.slice (some ⟨g, 0, none⟩) rs.length rs.length) ∧ RL w' (.slice (some ⟨g, 0, none⟩) rs.length rs.length) rs ∧ Below w.heap.size w w' := by
  obtain ⟨i0, hi, hz0, hz1, hz2⟩ := info_parts Try.info35
  generalize hnn : rs.length = n at *
  have HN := hidden hnn
  have hbb : b < w.heap.size := World.block_lt_of_cell? _ _ (hc 0 h0).1
  clear hnn
  go_enter Try.func9, Try.ntmps9
  go_wp2_with (first
    | (at_make; refine wpList_make_full _ rfl _ _ 25 rfl w.heap.size 35 i0 (.agg #[.string ⟨#[]⟩, .string ⟨#[]⟩, .string ⟨#[]⟩]) 3 Try.underlying25 hi hz0 hz1 _ _ _ _ n rfl rfl rfl rfl ?b2 ?b3 ?b4 ?_))
  case b2 => rw [hz2]; omega
  case b3 => unfold maxLen; omega
  case b4 => exact Nat.le_refl _
  intro w1 hown1 hgrow1
  have HO1 := hidden hown1
  have HB1 := hidden ((Below.refl _ w).grown hgrow1 (Nat.le_refl _) (by simp))
  clear hgrow1 hi hz0 hz1 hz2 hown1
  generalize hB : w.heap.size = B at *
  have HBB := hidden hB
  clear hB
  go_wp2_with fail
  go_loopw [4] (fun i wr => ∃ (k : Nat) (xs : List Value), k ≤ n ∧ i = .int .i64 k ∧ xs.length = n * 3 ∧ wr.ownsRow B 35 3 (.slice (some ⟨B, 0, none⟩) n n) n xs ∧ Over xs rs k ∧ Below B w wr) (fun i _ => n - (intOf i).toNat)
  case atStart => exact ⟨0, _, Nat.zero_le _, rfl, by simp [size_madeCells], HO1.out, fun i hi => by omega, HB1.out⟩
  case round =>
    obtain ⟨k, xs, hk, rfl, hxl, hown, hov, hbel⟩ := hrel
    clear HO1 HB1
    by_cases hlt : k < n
    · obtain ⟨c0, c1, c2⟩ := hc k hlt
      have d0 := (hbel.cell (p := ⟨b, off + k * 3, none⟩) hbb).trans c0
      have d1 := (hbel.cell (p := ⟨b, off + k * 3 + 1, none⟩) hbb).trans c1
      have d2 := (hbel.cell (p := ⟨b, off + k * 3 + 2, none⟩) hbb).trans c2
      have e0 : wr.cell? ⟨B, k * 3, none⟩ = some (xs[k * 3]'(by omega)) := by rw [hown.cellAt (k * 3) (by omega)]; exact List.getElem?_eq_getElem _
      have e1 : wr.cell? ⟨B, k * 3 + 1, none⟩ = some (xs[k * 3 + 1]'(by omega)) := by rw [hown.cellAt (k * 3 + 1) (by omega)]; exact List.getElem?_eq_getElem _
      have e2 : wr.cell? ⟨B, k * 3 + 2, none⟩ = some (xs[k * 3 + 2]'(by omega)) := by rw [hown.cellAt (k * 3 + 2) (by omega)]; exact List.getElem?_eq_getElem _
      have f0 := hown.frozenAt (k * 3)
      have f1 := hown.frozenAt (k * 3 + 1)
      have f2 := hown.frozenAt (k * 3 + 2)
      have HO := hidden hown
      have HV := hidden hov
      have HE := hidden hbel
      have hi0 : (0 : Int) ≤ (k : Int) := Int.natCast_nonneg _
      have hi1 : (k : Int) < (n : Int) := by omega
      have hnb : b ≠ B := by omega
      have hnb' : B ≠ b := by omega
      clear c0 c1 c2 hc hown hov hbel
      generalize hx0 : xs[k * 3]'(by omega) = x0 at *
      generalize hx1 : xs[k * 3 + 1]'(by omega) = x1 at *
      generalize hx2 : xs[k * 3 + 2]'(by omega) = x2 at *
      clear hx0 hx1 hx2
      generalize hr : rs.getD k Rg.none = r at *
      have HRR := hidden hr
      clear hr
      go_wp2
      go_region_held3 (fun w' => w'.cell? ⟨b, off + k * 3, none⟩ = some (.string r.nrn) ∧ w'.cell? ⟨b, off + k * 3 + 1, none⟩ = some (.string r.first) ∧ w'.cell? ⟨b, off + k * 3 + 2, none⟩ = some (.string r.last))
        (first | go_keep | (go_split_ands; refine ⟨?_, ?_, ?_⟩; exact put3_far _ hnb _ _ _ _ _ d0; exact put3_far _ hnb _ _ _ _ _ d1; exact put3_far _ hnb _ _ _ _ _ d2))
        (fail)
      have HP := hidden (put3_owns (k := k) HO.out (.string r.nrn) (.string r.first) (.string r.last))
      have HQ := hidden (HV.out.put hxl hlt)
      rw [HRR.out] at HQ
      have HZ : Hid (Below B w (put3 wr B (k * 3) (.string r.nrn) (.string r.first) (.string r.last)).drew) := ((((HE.out).setCell (Nat.le_refl _) _).setCell (Nat.le_refl _) _).setCell (Nat.le_refl _) _).drew
      go_wp2
      go_roundw
      case rel => exact ⟨k + 1, ((xs.set (k * 3) (.string r.nrn)).set (k * 3 + 1) (.string r.first)).set (k * 3 + 2) (.string r.last), by omega, by go_num, by simpa using hxl, HP.out, HQ.out, HZ.out⟩
      case measure => simp [intOf]; omega
    · obtain rfl : k = n := by omega
      have HR := hidden (RL_of_owns hown HN.out (by unfold maxLen; omega) hov)
      have HE := hidden hbel
      clear hown hov hbel hc
      go_wp2
      go_ret
      exact ⟨_, rfl, HR.out, by rw [HBB.out]; exact HE.out⟩

set_option maxHeartbeats 1000000 in
set_option maxRecDepth 100000 in
theorem to_none (a : Option Addr) (c : Nat) (w : World) :
    Calls Try.prog 9 #[.slice a 0 c] w fun e w' => ∃ g, e = .returned (.slice (some ⟨g, 0, none⟩) 0 0) ∧ RL w' (.slice (some ⟨g, 0, none⟩) 0 0) [] ∧ Below w.heap.size w w' := by
  obtain ⟨i0, hi, hz0, hz1, hz2⟩ := info_parts Try.info35
  go_enter Try.func9, Try.ntmps9
  go_wp2_with (first
    | (at_make; refine wpList_make_full _ rfl _ _ 25 rfl w.heap.size 35 i0 (.agg #[.string ⟨#[]⟩, .string ⟨#[]⟩, .string ⟨#[]⟩]) 3 Try.underlying25 hi hz0 hz1 _ _ _ _ 0 rfl rfl rfl rfl ?b2 ?b3 ?b4 ?_))
  case b2 => rw [hz2]; omega
  case b3 => unfold maxLen; omega
  case b4 => exact Nat.le_refl _
  intro w1 hown1 hgrow1
  have HB1 := hidden ((Below.refl _ w).grown hgrow1 (Nat.le_refl _) (by simp))
  clear hgrow1 hi hz0 hz1 hz2 hown1
  go_wp2_with fail
  go_loop [4] (fun i => i = .int .i64 0) (fun _ => 0)
  case atStart => rfl
  case round =>
    subst hrel
    go_wp2
    go_ret
    exact ⟨_, rfl, .inr ⟨_, 0, none, 0, rfl, Nat.le_refl _, by simp, fun _ => rfl, fun i hi => by simp at hi⟩, HB1.out⟩

/-- toRanges: a new slice that reads as the same ranges. -/
theorem to_any (v : Value) (rs : List Rg) (w : World) (h : RL w v rs) (hm : rs.length ≤ 65536) :
    Calls Try.prog 9 #[v] w fun e w' => ∃ g, e = .returned (.slice (some ⟨g, 0, none⟩) rs.length rs.length) ∧ RL w' (.slice (some ⟨g, 0, none⟩) rs.length rs.length) rs ∧ Below w.heap.size w w' := by
  by_cases h0 : 0 < rs.length
  · obtain ⟨b, off, cap, rfl, h1, h2, hc⟩ := h.pos h0
    exact to_some b off cap rs w h0 hm hc
  · have h0 : rs = [] := List.eq_nil_of_length_eq_zero (by omega)
    subst h0
    obtain ⟨a, c, rfl, _⟩ := h.len
    exact to_none a c w

end Go.Proofs.Qxb6617338a
