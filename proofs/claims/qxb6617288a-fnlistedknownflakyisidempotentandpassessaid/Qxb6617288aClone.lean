import Derived.Test.Qxb6617288aBase
namespace Go.Proofs.Qxb6617288a
open Go.RowKit

theorem Try.info9 : (Try.prog.info? 9).map (fun i => (i.zero, i.size, i.bytes)) = some (some (.string ByteArray.empty), 1, 16) := by kernel_rfl

theorem nil22 (w : World) (a : Option Addr) (n c : Nat) : (binOp .eql 22 (.slice a n c) (.slice none 0 0)).run Try.prog w = .ok (.bool a.isNone) w :=
  Lib.run_eql_slice_nil w _ _ _ _ _ _ _ Try.underlying22

theorem clone_nil (w : World) : Calls Try.prog 8 #[.slice none 0 0] w fun e w' => e = .returned (.slice none 0 0) ∧ w' = w := by
  have hq := nil22
  go_enter Try.func8, Try.ntmps8
  go_wp2
  go_ret
  exact ⟨rfl, rfl⟩

/-- What has been copied after k rounds. -/
def Copied (xs : List Value) (ss : List ByteArray) (k : Nat) : Prop := ∀ j, j < k → xs[j]? = some (.string (ss.getD j ByteArray.empty))

theorem Copied.set {xs : List Value} {ss : List ByteArray} {k : Nat} (h : Copied xs ss k) (hk : k < xs.length) : Copied (xs.set k (.string (ss.getD k ByteArray.empty))) ss (k + 1) := by
  intro j hj
  rw [List.getElem?_set]
  by_cases e : k = j
  · subst e; simp [hk]
  · rw [if_neg e]; exact h j (by omega)

theorem SN_of_owns {w : World} {base g n cap : Nat} {xs : List Value} {ss : List ByteArray} (hown : w.ownsRow base 9 1 (.slice (some ⟨g, 0, none⟩) n cap) n xs) (hn : n = ss.length) (hc : Copied xs ss n) :
    SN w (.slice (some ⟨g, 0, none⟩) n cap) ss := by
  subst hn
  have h2 := hown.2
  rcases h2 with ⟨h', _⟩ | ⟨g', cap', cur, h', hb, hg, hnc, hcm, hcs, htake⟩
  · simp at h'
  · simp only [Value.slice.injEq, Option.some.injEq, Addr.mk.injEq, and_true, true_and] at h'
    obtain ⟨rfl, rfl⟩ := h'
    exact ⟨g, 0, none, cap, rfl, hnc, hcm, fun _ => rfl, fun i hi => by rw [Nat.zero_add, hown.cellAt i (by omega)]; exact hc i hi⟩

set_option maxHeartbeats 400000 in
theorem clone_some (v : Value) (ss : List ByteArray) (w : World) (hs : SN w v ss) (hn : ss.length ≤ 1048576) :
    Calls Try.prog 8 #[v] w fun e w' => ∃ v', e = .returned v' ∧ SN w' v' ss ∧ Below w.heap.size w w' := by
  have hq := nil22
  obtain ⟨bb, off, spot, cap, rfl, hcap, hmax, hsp, hc⟩ := hs
  obtain ⟨i0, hi, hz0, hz1, hz2⟩ := info_parts Try.info9
  generalize hnn : ss.length = n at *
  have HN : Hid (ss.length = n) := hnn
  clear hnn
  have hbb : 0 < n → bb < w.heap.size := fun h0 => World.block_lt_of_cell? _ _ (hc 0 h0)
  go_enter Try.func8, Try.ntmps8
  go_wp2_with (first
    | (at_make; refine wpList_make_full _ rfl _ _ 22 rfl w.heap.size 9 i0 (.string ByteArray.empty) 1 Try.underlying22 hi hz0 hz1 _ _ _ _ n rfl rfl rfl rfl ?b2 ?b3 ?b4 ?_))
  case b2 => rw [hz2]; omega
  case b3 => unfold maxLen; omega
  case b4 => exact Nat.le_refl _
  intro w1 hown1 hgrow1
  have hbel1 : Below w.heap.size w w1 := (Below.refl _ w).grown hgrow1 (Nat.le_refl _) (by simp)
  clear hgrow1 hi hz0 hz1 hz2
  generalize hB : w.heap.size = B at *
  have HB : Hid (w.heap.size = B) := hB
  clear hB
  go_wp2_with fail
  go_loopw [4] (fun i wr => ∃ (k : Nat) (xs : List Value), k ≤ n ∧ i = .int .i64 k ∧ xs.length = n ∧ wr.ownsRow B 9 1 (.slice (some ⟨B, 0, none⟩) n n) n xs ∧ Copied xs ss k ∧ Below B w wr) (fun i _ => n - (intOf i).toNat)
  case atStart => exact ⟨0, _, Nat.zero_le _, rfl, by simp [size_madeCells], hown1, fun j hj => by omega, hbel1⟩
  case round =>
    obtain ⟨k, xs, hk, rfl, hxl, hown, hcop, hbel⟩ := hrel
    clear hown1 hbel1
    by_cases hlt : k < n
    · have hsp' := hsp (by omega)
      subst hsp'
      have hbB := hbb (by omega)
      have hcell : wr.cell? ⟨bb, off + k, none⟩ = some (.string (ss.getD k ByteArray.empty)) := (hbel.cell (by exact hbB)).trans (hc k hlt)
      have hold : wr.cell? ⟨B, k, none⟩ = some (xs[k]'(by omega)) := by rw [hown.cellAt k (by omega)]; exact List.getElem?_eq_getElem _
      have hfr := hown.frozenAt k
      have hst := hown.stored k (.string (ss.getD k ByteArray.empty))
      have hcs := hcop.set (k := k) (by omega)
      have hb2 := hbel.setCell (p := ⟨B, k, none⟩) (Nat.le_refl _) (.string (ss.getD k ByteArray.empty))
      have HX : Hid ((wr.setCell ⟨B, k, none⟩ (.string (ss.getD k ByteArray.empty))).ownsRow B 9 1 (.slice (some ⟨B, 0, none⟩) n n) n (xs.set k (.string (ss.getD k ByteArray.empty))) ∧ Copied (xs.set k (.string (ss.getD k ByteArray.empty))) ss (k + 1) ∧ Below B w (wr.setCell ⟨B, k, none⟩ (.string (ss.getD k ByteArray.empty)))) := ⟨hst.1, hcs, hb2⟩
      clear hst hcs hb2 hown hcop hbel hc hsp hbb
      go_wp2
      go_roundw
      case rel => exact ⟨k + 1, xs.set k (.string (ss.getD k ByteArray.empty)), by omega, by go_num, by simpa using hxl, by simpa using HX.out.1, by simpa using HX.out.2.1, by simpa using HX.out.2.2⟩
      case measure => simp [intOf]; omega
    · obtain rfl : k = n := by omega
      have hfin : SN wr (.slice (some ⟨B, 0, none⟩) k k) ss := SN_of_owns hown HN.out.symm hcop
      clear hown hcop hc hsp hbb
      go_wp2
      go_ret
      exact ⟨_, rfl, hfin, by rw [HB.out]; exact hbel⟩

/-- reportB1Clone: a slice that reads as the same strings, nil where it was nil, in memory of its own. -/
theorem clone_any (v : Value) (ss : List ByteArray) (nl : Bool) (w : World) (hs : SL w nl v ss) (hn : ss.length ≤ 1048576) :
    Calls Try.prog 8 #[v] w fun e w' => ∃ v', e = .returned v' ∧ SL w' nl v' ss ∧ Below w.heap.size w w' := by
  cases nl with
  | true =>
    obtain ⟨rfl, rfl⟩ := hs
    exact (clone_nil w).mono fun e w' ⟨he, hw⟩ => ⟨_, he, ⟨rfl, rfl⟩, by rw [hw]; exact Below.refl _ _⟩
  | false => exact clone_some v ss w hs hn

end Go.Proofs.Qxb6617288a
