import Derived.Test.Qxb6617288aForms
namespace Go.Proofs.Qxb6617288a
open Go.RowKit

set_option maxHeartbeats 1000000 in
set_option maxRecDepth 100000 in
/-- known-failing, with reasons. -/
theorem three_kf_fails (name l : ByteArray) (v : Value) (nl : Bool) (ss : List ByteArray) (w : World) (hs : SL w nl v ss) (hl : isKf l = true) (h0 : 0 < ss.length) :
    Calls Try.prog 5 #[.string name, v, .string l] w fun e w' => e = .returned (.bool true) ∧ Below w.heap.size w w' := by
  obtain ⟨a, c, rfl, hm, ha⟩ := hs.len
  have HS := hide hs
  have HL := hide hl
  clear hs ha
  unfold maxLen at hm
  unfold isKf at hl
  go_enter Try.func5, Try.ntmps5
  go_wp2_with fail
  refine (bytes14_any _ _ _ _ _ _ HS.out).mono ?_
  rintro e w' ⟨⟨r, rfl⟩, rfl⟩
  cases r
  · go_wp2
    go_ret
    exact ⟨rfl, Below.refl _ _⟩
  go_wp2_with fail
  all_goals first
    | (go_ret; exact ⟨rfl, Below.refl _ _⟩)
    | skip
  refine (fits_any _ _ _ _ _ _ HS.out).mono ?_
  rintro e w' ⟨⟨r, rfl⟩, rfl⟩
  cases r
  · go_wp2
    go_ret
    exact ⟨rfl, Below.refl _ _⟩
  go_wp2_with fail
  refine (clone_form _ _ _ _ HS.out (by omega)).mono ?_
  rintro e w1 ⟨a1, c1, rfl, h1, b1⟩
  have H1 := hide h1
  have B1 := hide b1
  clear h1 b1
  go_wp2_with fail
  refine (clone_form _ _ _ _ H1.out (by omega)).mono ?_
  rintro e w2 ⟨a2, c2, rfl, h2, b2⟩
  have H2 := hide h2
  have B2 := hide b2
  clear h2 b2
  go_wp2_with fail
  refine (judged_fails name _ _ _ _ h0).mono ?_
  rintro e w3 ⟨rfl, b3⟩
  have B3 := hide b3
  clear b3
  go_wp2_with fail
  refine (listed_kf_failed_form name _ l _ nl ss _ HL.out fa_fa (H2.out.later (nx_trans B3.out (nx_alloc _ _))) (by omega)).mono ?_
  rintro e w4 ⟨pb, poff, pc, rfl, h4, pc1, pc2, b4⟩
  have B4 := hide (nx_trans (nx_alloc _ _) b4)
  obtain ⟨s4, k40, k41, k42⟩ := box_later b4
  have p0 := h4.head
  have hpb : pb < w4.heap.size := World.block_lt_of_cell? _ _ p0
  have S3 := hide h4
  unfold maxLen at pc2
  clear b4 h4
  have hl0 : (0 : Int) < (ss.length : Int) + 1 := by omega
  have HB := hide (nx_trans B1.out (nx_trans B2.out (nx_trans B3.out B4.out)))
  have S1 := hide (H1.out.later (nx_trans B2.out (nx_trans B3.out B4.out)))
  clear H1 H2 HS B1 B2 B3 B4
  have hpc : ¬ pc = 1 := by omega
  go_wp2_with fail
  have S5 := fun o => (S3.out.later (nx_alloc _ o))
  have S6 := fun o => (S1.out.later (nx_alloc _ o))
  refine (same_any _ _ ss false nl _ (SL.tail' (S5 _) _ (by first | exact fun _ => rfl | exact fun h => absurd h (by omega)) (by omega) (by omega)) (S6 _)).mono ?_
  rintro e w6 ⟨rfl, m6, rfl⟩
  clear S5 S6
  go_wp2_with fail
  refine (hasA _).mono ?_
  rintro e w7 ⟨rfl, rfl⟩
  go_wp2
  go_ret
  exact ⟨rfl, nx_trans HB.out (nx_trans (nx_alloc _ _) (nx_drewN _ _))⟩

set_option maxHeartbeats 1000000 in
set_option maxRecDepth 100000 in
/-- known-flaky, with reasons. -/
theorem three_ky_fails (name l : ByteArray) (v : Value) (nl : Bool) (ss : List ByteArray) (w : World) (hs : SL w nl v ss) (hl : isKf l = false) (hy : isKy l = true) (h0 : 0 < ss.length) :
    Calls Try.prog 5 #[.string name, v, .string l] w fun e w' => e = .returned (.bool true) ∧ Below w.heap.size w w' := by
  obtain ⟨a, c, rfl, hm, ha⟩ := hs.len
  have HS := hide hs
  have HL := hide hl
  have HY := hide hy
  clear hs ha
  unfold maxLen at hm
  unfold isKf at hl
  unfold isKy at hy
  go_enter Try.func5, Try.ntmps5
  go_wp2_with fail
  refine (bytes14_any _ _ _ _ _ _ HS.out).mono ?_
  rintro e w' ⟨⟨r, rfl⟩, rfl⟩
  cases r
  · go_wp2
    go_ret
    exact ⟨rfl, Below.refl _ _⟩
  go_wp2_with fail
  all_goals first
    | (go_ret; exact ⟨rfl, Below.refl _ _⟩)
    | skip
  refine (fits_any _ _ _ _ _ _ HS.out).mono ?_
  rintro e w' ⟨⟨r, rfl⟩, rfl⟩
  cases r
  · go_wp2
    go_ret
    exact ⟨rfl, Below.refl _ _⟩
  go_wp2_with fail
  refine (clone_form _ _ _ _ HS.out (by omega)).mono ?_
  rintro e w1 ⟨a1, c1, rfl, h1, b1⟩
  have H1 := hide h1
  have B1 := hide b1
  clear h1 b1
  go_wp2_with fail
  refine (clone_form _ _ _ _ H1.out (by omega)).mono ?_
  rintro e w2 ⟨a2, c2, rfl, h2, b2⟩
  have H2 := hide h2
  have B2 := hide b2
  clear h2 b2
  go_wp2_with fail
  refine (judged_fails name _ _ _ _ h0).mono ?_
  rintro e w3 ⟨rfl, b3⟩
  have B3 := hide b3
  clear b3
  go_wp2_with fail
  refine (listed_ky_failed_form name _ l _ nl ss _ HL.out HY.out fa_fa (H2.out.later (nx_trans B3.out (nx_alloc _ _))) (by omega)).mono ?_
  rintro e w4 ⟨pb, poff, pc, rfl, h4, pc1, pc2, b4⟩
  have B4 := hide (nx_trans (nx_alloc _ _) b4)
  obtain ⟨s4, k40, k41, k42⟩ := box_later b4
  have p0 := h4.head
  have hpb : pb < w4.heap.size := World.block_lt_of_cell? _ _ p0
  have S3 := hide h4
  unfold maxLen at pc2
  clear b4 h4
  have hl0 : (0 : Int) < (ss.length : Int) + 1 := by omega
  have HB := hide (nx_trans B1.out (nx_trans B2.out (nx_trans B3.out B4.out)))
  have S1 := hide (H1.out.later (nx_trans B2.out (nx_trans B3.out B4.out)))
  clear H1 H2 HS B1 B2 B3 B4
  have hpc : ¬ pc = 1 := by omega
  go_wp2_with fail
  have S5 := fun o => (S3.out.later (nx_alloc _ o))
  have S6 := fun o => (S1.out.later (nx_alloc _ o))
  refine (same_any _ _ ss false nl _ (SL.tail' (S5 _) _ (by first | exact fun _ => rfl | exact fun h => absurd h (by omega)) (by omega) (by omega)) (S6 _)).mono ?_
  rintro e w6 ⟨rfl, m6, rfl⟩
  clear S5 S6
  go_wp2_with fail
  refine (hasC _).mono ?_
  rintro e w7 ⟨rfl, rfl⟩
  go_wp2
  go_ret
  exact ⟨rfl, nx_trans HB.out (nx_trans (nx_alloc _ _) (nx_drewN _ _))⟩

set_option maxHeartbeats 1000000 in
set_option maxRecDepth 100000 in
/-- Neither list, with reasons. -/
theorem three_none_fails (name l : ByteArray) (v : Value) (nl : Bool) (ss : List ByteArray) (w : World) (hs : SL w nl v ss) (hl : isKf l = false) (hy : isKy l = false) (h0 : 0 < ss.length) :
    Calls Try.prog 5 #[.string name, v, .string l] w fun e w' => e = .returned (.bool true) ∧ Below w.heap.size w w' := by
  obtain ⟨a, c, rfl, hm, ha⟩ := hs.len
  have HS := hide hs
  have HL := hide hl
  have HY := hide hy
  clear hs ha
  unfold maxLen at hm
  unfold isKf at hl
  unfold isKy at hy
  go_enter Try.func5, Try.ntmps5
  go_wp2_with fail
  refine (bytes14_any _ _ _ _ _ _ HS.out).mono ?_
  rintro e w' ⟨⟨r, rfl⟩, rfl⟩
  cases r
  · go_wp2
    go_ret
    exact ⟨rfl, Below.refl _ _⟩
  go_wp2_with fail
  all_goals first
    | (go_ret; exact ⟨rfl, Below.refl _ _⟩)
    | skip
  refine (fits_any _ _ _ _ _ _ HS.out).mono ?_
  rintro e w' ⟨⟨r, rfl⟩, rfl⟩
  cases r
  · go_wp2
    go_ret
    exact ⟨rfl, Below.refl _ _⟩
  go_wp2_with fail
  refine (clone_form _ _ _ _ HS.out (by omega)).mono ?_
  rintro e w1 ⟨a1, c1, rfl, h1, b1⟩
  have H1 := hide h1
  have B1 := hide b1
  clear h1 b1
  go_wp2_with fail
  refine (clone_form _ _ _ _ H1.out (by omega)).mono ?_
  rintro e w2 ⟨a2, c2, rfl, h2, b2⟩
  have H2 := hide h2
  have B2 := hide b2
  clear h2 b2
  go_wp2_with fail
  refine (judged_fails name _ _ _ _ h0).mono ?_
  rintro e w3 ⟨rfl, b3⟩
  have B3 := hide b3
  clear b3
  go_wp2_with fail
  refine (listed_none name _ l _ _ _ _ HL.out HY.out).mono ?_
  rintro e w4 ⟨rfl, b4⟩
  have B4 := hide (nx_trans (nx_alloc _ _) b4)
  obtain ⟨s4, k40, k41, k42⟩ := box_later b4
  clear b4
  have HB := hide (nx_trans B1.out (nx_trans B2.out (nx_trans B3.out B4.out)))
  have S1 := hide (H1.out.later (nx_trans B2.out (nx_trans B3.out B4.out)))
  have S2 := hide (H2.out.later (nx_trans B3.out B4.out))
  clear H1 H2 HS B1 B2 B3 B4
  go_wp2_with fail
  refine (unchanged_any _ _ ss nl _ (S2.out.later (nx_alloc _ _)) (S1.out.later (nx_alloc _ _))).mono ?_
  rintro e w6 ⟨rfl, m6, rfl⟩
  go_wp2
  go_ret
  exact ⟨rfl, nx_trans HB.out (nx_trans (nx_alloc _ _) (nx_drewN _ _))⟩

end Go.Proofs.Qxb6617288a
