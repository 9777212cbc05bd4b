import Derived.Test.Qxb6617288aForms
namespace Go.Proofs.Qxb6617288a
open Go.RowKit

set_option maxHeartbeats 1000000 in
set_option maxRecDepth 100000 in
/-- Neither FAILED nor PASSED. -/
theorem one_other (name status : ByteArray) (v : Value) (nl : Bool) (ss : List ByteArray) (w : World) (hs : SL w nl v ss) (hf : isFailed status = false) (hp : isPassed status = false) :
    Calls Try.prog 3 #[.string name, .string status, v] w fun e w' => e = .returned (.bool true) ∧ Below w.heap.size w w' := by
  obtain ⟨a, c, rfl, hm, ha⟩ := hs.len
  have HS := hide hs
  have HF := hide hf
  have HP := hide hp
  clear hs ha
  unfold maxLen at hm
  unfold isFailed at hf
  unfold isPassed at hp
  go_enter Try.func3, Try.ntmps3
  go_wp2_with fail
  refine (bytes6_any _ _ _ _ _ _ HS.out).mono ?_
  rintro e w' ⟨⟨r, rfl⟩, rfl⟩
  cases r
  · go_wp2
    go_ret
    exact ⟨rfl, Below.refl _ _⟩
  go_wp2_with fail
  all_goals first
    | (go_ret; exact ⟨rfl, Below.refl _ _⟩)
    | skip
  refine (fits_any _ _ _ _ _ _ HS.out).mono ?_
  rintro e w' ⟨⟨r, rfl⟩, rfl⟩
  cases r
  · go_wp2
    go_ret
    exact ⟨rfl, Below.refl _ _⟩
  go_wp2_with fail
  refine (clone_form _ _ _ _ HS.out (by omega)).mono ?_
  rintro e w1 ⟨a1, c1, rfl, h1, b1⟩
  have H1 := hide h1
  have B1 := hide b1
  clear h1 b1
  go_wp2_with fail
  refine (clone_form _ _ _ _ H1.out (by omega)).mono ?_
  rintro e w2 ⟨a2, c2, rfl, h2, b2⟩
  have H2 := hide h2
  have B2 := hide b2
  clear h2 b2
  go_wp2_with fail
  refine (listed_kf_other name status _ a2 ss.length c2 _ kf_kf kf_ky HF.out HP.out).mono ?_
  rintro e w3 ⟨rfl, b3⟩
  have B3 := hide (nx_trans (nx_alloc _ _) b3)
  clear b3
  go_wp2_with fail
  refine (listed_kf_other name status _ a2 ss.length c2 _ kf_kf kf_ky HF.out HP.out).mono ?_
  rintro e w4 ⟨rfl, b4⟩
  have B4 := hide (nx_trans (nx_alloc _ _) b4)
  obtain ⟨s4, k40, k41, k42⟩ := box_later b4
  clear b4
  go_wp2_with fail
  refine (unchanged_any _ _ ss nl _ (H2.out.later (nx_trans B3.out (nx_trans B4.out (nx_alloc _ _)))) (H1.out.later (nx_trans B2.out (nx_trans B3.out (nx_trans B4.out (nx_alloc _ _)))))).mono ?_
  rintro e w5 ⟨rfl, m5, rfl⟩
  go_wp2_with fail
  refine (unchanged_any _ _ ss nl _ (H2.out.later (nx_trans B3.out (nx_trans B4.out (nx_trans (nx_alloc _ _) (nx_drewN _ _))))) (H1.out.later (nx_trans B2.out (nx_trans B3.out (nx_trans B4.out (nx_trans (nx_alloc _ _) (nx_drewN _ _))))))).mono ?_
  rintro e w6 ⟨rfl, m6, rfl⟩
  have HB := hide (nx_trans B1.out (nx_trans B2.out (nx_trans B3.out B4.out)))
  go_wp2
  go_ret
  exact ⟨rfl, nx_trans HB.out (nx_trans (nx_alloc _ _) (nx_drewN _ _))⟩

end Go.Proofs.Qxb6617288a
