import Derived.Test.Qxb6617288aForms
namespace Go.Proofs.Qxb6617288a
open Go.RowKit

theorem clone_empty (v : Value) (nl : Bool) (w : World) (hs : SL w nl v []) :
    Calls Try.prog 8 #[v] w fun e w' => ∃ a c, e = .returned (.slice a 0 c) ∧ SL w' nl (.slice a 0 c) [] ∧ Below w.heap.size w w' :=
  clone_form v [] nl w hs (by simp)

set_option maxHeartbeats 1000000 in
set_option maxRecDepth 100000 in
/-- known-failing, no reason. -/
theorem three_kf_passes (name l : ByteArray) (a : Option Addr) (c : Nat) (nl : Bool) (w : World) (hs : SL w nl (.slice a 0 c) []) (hl : isKf l = true) :
    Calls Try.prog 5 #[.string name, .slice a 0 c, .string l] w fun e w' => e = .returned (.bool true) ∧ Below w.heap.size w w' := by
  have HS := hide hs
  have HL := hide hl
  clear hs
  have hq := nil22
  unfold isKf at hl
  go_enter Try.func5, Try.ntmps5
  go_wp2_with fail
  refine (bytes14_any _ _ _ _ _ _ HS.out).mono ?_
  rintro e w' ⟨⟨r, rfl⟩, rfl⟩
  cases r
  · go_wp2
    go_ret
    exact ⟨rfl, Below.refl _ _⟩
  go_wp2_with fail
  all_goals first
    | (go_ret; exact ⟨rfl, Below.refl _ _⟩)
    | skip
  refine (fits_any _ _ _ _ _ _ HS.out).mono ?_
  rintro e w' ⟨⟨r, rfl⟩, rfl⟩
  cases r
  · go_wp2
    go_ret
    exact ⟨rfl, Below.refl _ _⟩
  go_wp2_with fail
  refine (clone_empty _ _ _ HS.out).mono ?_
  rintro e w1 ⟨a1, c1, rfl, h1, b1⟩
  have H1 := hide h1
  have B1 := hide b1
  clear h1 b1
  go_wp2_with fail
  refine (clone_empty _ _ _ H1.out).mono ?_
  rintro e w2 ⟨a2, c2, rfl, h2, b2⟩
  have B2 := hide b2
  clear h2 b2
  go_wp2_with fail
  refine (judged_passes name _ _ _).mono ?_
  rintro e w3 ⟨rfl, b3⟩
  have B3 := hide b3
  clear b3
  go_wp2_with fail
  refine (listed_kf_passed_form name _ l _ _ _ _ HL.out pa_fa pa_pa).mono ?_
  rintro e w4 ⟨pb, poff, pc, rfl, h4, pc1, pc2, b4⟩
  have B4 := hide (nx_trans (nx_alloc _ _) b4)
  obtain ⟨s4, k40, k41, k42⟩ := box_later b4
  have p0 := h4.head
  have hpb : pb < w4.heap.size := World.block_lt_of_cell? _ _ p0
  unfold maxLen at pc2
  clear b4 h4
  have hq0 : (0 : Int) < 1 := by omega
  have HB := hide (nx_trans B1.out (nx_trans B2.out (nx_trans B3.out B4.out)))
  clear H1 HS B1 B2 B3 B4
  go_wp2_with fail
  refine (hasB _).mono ?_
  rintro e w7 ⟨rfl, rfl⟩
  go_wp2
  go_ret
  exact ⟨rfl, nx_trans HB.out (nx_alloc _ _)⟩

set_option maxHeartbeats 1000000 in
set_option maxRecDepth 100000 in
/-- known-flaky, no reason. -/
theorem three_ky_passes (name l : ByteArray) (a : Option Addr) (c : Nat) (nl : Bool) (w : World) (hs : SL w nl (.slice a 0 c) []) (hl : isKf l = false) (hy : isKy l = true) :
    Calls Try.prog 5 #[.string name, .slice a 0 c, .string l] w fun e w' => e = .returned (.bool true) ∧ Below w.heap.size w w' := by
  have HS := hide hs
  have HL := hide hl
  have HY := hide hy
  clear hs
  have hq := nil22
  unfold isKf at hl
  unfold isKy at hy
  go_enter Try.func5, Try.ntmps5
  go_wp2_with fail
  refine (bytes14_any _ _ _ _ _ _ HS.out).mono ?_
  rintro e w' ⟨⟨r, rfl⟩, rfl⟩
  cases r
  · go_wp2
    go_ret
    exact ⟨rfl, Below.refl _ _⟩
  go_wp2_with fail
  all_goals first
    | (go_ret; exact ⟨rfl, Below.refl _ _⟩)
    | skip
  refine (fits_any _ _ _ _ _ _ HS.out).mono ?_
  rintro e w' ⟨⟨r, rfl⟩, rfl⟩
  cases r
  · go_wp2
    go_ret
    exact ⟨rfl, Below.refl _ _⟩
  go_wp2_with fail
  refine (clone_empty _ _ _ HS.out).mono ?_
  rintro e w1 ⟨a1, c1, rfl, h1, b1⟩
  have H1 := hide h1
  have B1 := hide b1
  clear h1 b1
  go_wp2_with fail
  refine (clone_empty _ _ _ H1.out).mono ?_
  rintro e w2 ⟨a2, c2, rfl, h2, b2⟩
  have B2 := hide b2
  clear h2 b2
  go_wp2_with fail
  refine (judged_passes name _ _ _).mono ?_
  rintro e w3 ⟨rfl, b3⟩
  have B3 := hide b3
  clear b3
  go_wp2_with fail
  refine (listed_ky_other name _ l _ _ _ _ HL.out HY.out pa_fa).mono ?_
  rintro e w4 ⟨rfl, b4⟩
  have B4 := hide (nx_trans (nx_alloc _ _) b4)
  obtain ⟨s4, k40, k41, k42⟩ := box_later b4
  clear b4
  have HB := hide (nx_trans B1.out (nx_trans B2.out (nx_trans B3.out B4.out)))
  clear H1 HS B1 B2 B3 B4
  go_wp2
  go_ret
  exact ⟨rfl, nx_trans HB.out (nx_alloc _ _)⟩

set_option maxHeartbeats 1000000 in
set_option maxRecDepth 100000 in
/-- Neither list, no reason. -/
theorem three_none_passes (name l : ByteArray) (a : Option Addr) (c : Nat) (nl : Bool) (w : World) (hs : SL w nl (.slice a 0 c) []) (hl : isKf l = false) (hy : isKy l = false) :
    Calls Try.prog 5 #[.string name, .slice a 0 c, .string l] w fun e w' => e = .returned (.bool true) ∧ Below w.heap.size w w' := by
  have HS := hide hs
  have HL := hide hl
  have HY := hide hy
  clear hs
  have hq := nil22
  unfold isKf at hl
  unfold isKy at hy
  go_enter Try.func5, Try.ntmps5
  go_wp2_with fail
  refine (bytes14_any _ _ _ _ _ _ HS.out).mono ?_
  rintro e w' ⟨⟨r, rfl⟩, rfl⟩
  cases r
  · go_wp2
    go_ret
    exact ⟨rfl, Below.refl _ _⟩
  go_wp2_with fail
  all_goals first
    | (go_ret; exact ⟨rfl, Below.refl _ _⟩)
    | skip
  refine (fits_any _ _ _ _ _ _ HS.out).mono ?_
  rintro e w' ⟨⟨r, rfl⟩, rfl⟩
  cases r
  · go_wp2
    go_ret
    exact ⟨rfl, Below.refl _ _⟩
  go_wp2_with fail
  refine (clone_empty _ _ _ HS.out).mono ?_
  rintro e w1 ⟨a1, c1, rfl, h1, b1⟩
  have H1 := hide h1
  have B1 := hide b1
  clear h1 b1
  go_wp2_with fail
  refine (clone_empty _ _ _ H1.out).mono ?_
  rintro e w2 ⟨a2, c2, rfl, h2, b2⟩
  have B2 := hide b2
  clear h2 b2
  go_wp2_with fail
  refine (judged_passes name _ _ _).mono ?_
  rintro e w3 ⟨rfl, b3⟩
  have B3 := hide b3
  clear b3
  go_wp2_with fail
  refine (listed_none name _ l _ _ _ _ HL.out HY.out).mono ?_
  rintro e w4 ⟨rfl, b4⟩
  have B4 := hide (nx_trans (nx_alloc _ _) b4)
  obtain ⟨s4, k40, k41, k42⟩ := box_later b4
  clear b4
  have HB := hide (nx_trans B1.out (nx_trans B2.out (nx_trans B3.out B4.out)))
  clear H1 HS B1 B2 B3 B4
  go_wp2
  go_ret
  exact ⟨rfl, nx_trans HB.out (nx_alloc _ _)⟩

end Go.Proofs.Qxb6617288a
