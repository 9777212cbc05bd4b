import Derived.Test.Qxb6617288aForms
namespace Go.Proofs.Qxb6617288a
open Go.RowKit

set_option maxHeartbeats 1000000 in
set_option maxRecDepth 100000 in
/-- FAILED. -/
theorem two_failed (name status : ByteArray) (v : Value) (nl : Bool) (ss : List ByteArray) (w : World) (hs : SL w nl v ss) (hf : isFailed status = true) :
    Calls Try.prog 4 #[.string name, .string status, v] w fun e w' => e = .returned (.bool true) ∧ Below w.heap.size w w' := by
  obtain ⟨a, c, rfl, hm, ha⟩ := hs.len
  have HS := hide hs
  have HF := hide hf
  clear hs ha
  unfold maxLen at hm
  unfold isFailed at hf
  go_enter Try.func4, Try.ntmps4
  go_wp2_with fail
  refine (bytes13_any _ _ _ _ _ _ HS.out).mono ?_
  rintro e w' ⟨⟨r, rfl⟩, rfl⟩
  cases r
  · go_wp2
    go_ret
    exact ⟨rfl, Below.refl _ _⟩
  go_wp2_with fail
  all_goals first
    | (go_ret; exact ⟨rfl, Below.refl _ _⟩)
    | skip
  refine (fits_any _ _ _ _ _ _ HS.out).mono ?_
  rintro e w' ⟨⟨r, rfl⟩, rfl⟩
  cases r
  · go_wp2
    go_ret
    exact ⟨rfl, Below.refl _ _⟩
  go_wp2_with fail
  refine (clone_form _ _ _ _ HS.out (by omega)).mono ?_
  rintro e w1 ⟨a1, c1, rfl, h1, b1⟩
  have H1 := hide h1
  have B1 := hide b1
  clear h1 b1
  go_wp2_with fail
  refine (clone_form _ _ _ _ H1.out (by omega)).mono ?_
  rintro e w2 ⟨a2, c2, rfl, h2, b2⟩
  have H2 := hide h2
  have B2 := hide b2
  clear h2 b2
  go_wp2_with fail
  refine (listed_ky_failed_form name status _ _ nl ss _ ky_kf ky_ky HF.out (H2.out.later (nx_alloc _ _)) (by omega)).mono ?_
  rintro e w3 ⟨pb, poff, pc, rfl, h3, pc1, pc2, b3⟩
  have H3 := hide h3
  have B3 := hide (nx_trans (nx_alloc _ _) b3)
  unfold maxLen at pc2
  clear b3 h3
  go_wp2_with fail
  refine (listed_ky_other name _ _ _ _ _ _ ky_kf ky_ky pa_fa).mono ?_
  rintro e w4 ⟨rfl, b4⟩
  have B4 := hide (nx_trans (nx_alloc _ _) b4)
  obtain ⟨s4, k40, k41, k42⟩ := box_later b4
  have p0 := (H3.out.later B4.out).head
  have hpb : pb < w4.heap.size := World.block_lt_of_cell? _ _ p0
  clear b4
  have hl0 : (0 : Int) < (ss.length : Int) + 1 := by omega
  have HB := hide (nx_trans B1.out (nx_trans B2.out (nx_trans B3.out B4.out)))
  have S3 := hide (H3.out.later B4.out)
  have S1 := hide (H1.out.later (nx_trans B2.out (nx_trans B3.out B4.out)))
  clear H3 H1 H2 HS B1 B2 B3 B4
  by_cases hpc : pc = 1
  · have S9 : Hid (SL w4 false (.slice (some ⟨pb, poff, none⟩) (ss.length + 1) 1) (msgC :: ss)) := by
      have h9 := S3.out
      rw [hpc] at h9
      exact h9
    go_wp2_with fail
    have S4 := fun o => (S9.out.later (nx_alloc _ o))
    refine (unchanged_any _ _ (msgC :: ss) false _ (S4 _) (S4 _)).mono ?_
    rintro e w5 ⟨rfl, m5, rfl⟩
    clear S4
    go_wp2_with fail
    have S5 := fun o m => (S3.out.later (nx_trans (nx_alloc _ o) (nx_drewN _ m)))
    have S6 := fun o m => (S1.out.later (nx_trans (nx_alloc _ o) (nx_drewN _ m)))
    refine (same_any _ _ ss false nl _ (SL.tail' (S5 _ _) _ (by first | exact fun _ => rfl | exact fun h => absurd h (by omega)) (by omega) (by omega)) (S6 _ _)).mono ?_
    rintro e w6 ⟨rfl, m6, rfl⟩
    clear S5 S6
    go_wp2_with fail
    refine (hasC _).mono ?_
    rintro e w7 ⟨rfl, rfl⟩
    go_wp2
    go_ret
    exact ⟨rfl, nx_trans HB.out (nx_trans (nx_alloc _ _) (nx_drewN _ _))⟩
  · have S9 := S3
    go_wp2_with fail
    have S4 := fun o => (S9.out.later (nx_alloc _ o))
    refine (unchanged_any _ _ (msgC :: ss) false _ (S4 _) (S4 _)).mono ?_
    rintro e w5 ⟨rfl, m5, rfl⟩
    clear S4
    go_wp2_with fail
    have S5 := fun o m => (S3.out.later (nx_trans (nx_alloc _ o) (nx_drewN _ m)))
    have S6 := fun o m => (S1.out.later (nx_trans (nx_alloc _ o) (nx_drewN _ m)))
    refine (same_any _ _ ss false nl _ (SL.tail' (S5 _ _) _ (by first | exact fun _ => rfl | exact fun h => absurd h (by omega)) (by omega) (by omega)) (S6 _ _)).mono ?_
    rintro e w6 ⟨rfl, m6, rfl⟩
    clear S5 S6
    go_wp2_with fail
    refine (hasC _).mono ?_
    rintro e w7 ⟨rfl, rfl⟩
    go_wp2
    go_ret
    exact ⟨rfl, nx_trans HB.out (nx_trans (nx_alloc _ _) (nx_drewN _ _))⟩

set_option maxHeartbeats 1000000 in
set_option maxRecDepth 100000 in
/-- Not FAILED. -/
theorem two_other (name status : ByteArray) (v : Value) (nl : Bool) (ss : List ByteArray) (w : World) (hs : SL w nl v ss) (hf : isFailed status = false) :
    Calls Try.prog 4 #[.string name, .string status, v] w fun e w' => e = .returned (.bool true) ∧ Below w.heap.size w w' := by
  obtain ⟨a, c, rfl, hm, ha⟩ := hs.len
  have HS := hide hs
  have HF := hide hf
  clear hs ha
  unfold maxLen at hm
  unfold isFailed at hf
  go_enter Try.func4, Try.ntmps4
  go_wp2_with fail
  refine (bytes13_any _ _ _ _ _ _ HS.out).mono ?_
  rintro e w' ⟨⟨r, rfl⟩, rfl⟩
  cases r
  · go_wp2
    go_ret
    exact ⟨rfl, Below.refl _ _⟩
  go_wp2_with fail
  all_goals first
    | (go_ret; exact ⟨rfl, Below.refl _ _⟩)
    | skip
  refine (fits_any _ _ _ _ _ _ HS.out).mono ?_
  rintro e w' ⟨⟨r, rfl⟩, rfl⟩
  cases r
  · go_wp2
    go_ret
    exact ⟨rfl, Below.refl _ _⟩
  go_wp2_with fail
  refine (clone_form _ _ _ _ HS.out (by omega)).mono ?_
  rintro e w1 ⟨a1, c1, rfl, h1, b1⟩
  have H1 := hide h1
  have B1 := hide b1
  clear h1 b1
  go_wp2_with fail
  refine (clone_form _ _ _ _ H1.out (by omega)).mono ?_
  rintro e w2 ⟨a2, c2, rfl, h2, b2⟩
  have H2 := hide h2
  have B2 := hide b2
  clear h2 b2
  go_wp2_with fail
  refine (listed_ky_other name status _ a2 ss.length c2 _ ky_kf ky_ky HF.out).mono ?_
  rintro e w3 ⟨rfl, b3⟩
  have B3 := hide (nx_trans (nx_alloc _ _) b3)
  clear b3
  go_wp2_with fail
  refine (listed_ky_other name status _ a2 ss.length c2 _ ky_kf ky_ky HF.out).mono ?_
  rintro e w4 ⟨rfl, b4⟩
  have B4 := hide (nx_trans (nx_alloc _ _) b4)
  obtain ⟨s4, k40, k41, k42⟩ := box_later b4
  clear b4
  have HB := hide (nx_trans B1.out (nx_trans B2.out (nx_trans B3.out B4.out)))
  have S2 := hide (H2.out.later (nx_trans B3.out B4.out))
  have S1 := hide (H1.out.later (nx_trans B2.out (nx_trans B3.out B4.out)))
  clear H1 H2 HS B1 B2 B3 B4
  go_wp2_with fail
  refine (unchanged_any _ _ ss nl _ (S2.out.later (nx_alloc _ _)) (S2.out.later (nx_alloc _ _))).mono ?_
  rintro e w5 ⟨rfl, m5, rfl⟩
  go_wp2_with fail
  refine (unchanged_any _ _ ss nl _ (S2.out.later (nx_trans (nx_alloc _ _) (nx_drewN _ _))) (S1.out.later (nx_trans (nx_alloc _ _) (nx_drewN _ _)))).mono ?_
  rintro e w6 ⟨rfl, m6, rfl⟩
  go_wp2
  go_ret
  exact ⟨rfl, nx_trans HB.out (nx_trans (nx_alloc _ _) (nx_drewN _ _))⟩

end Go.Proofs.Qxb6617288a
