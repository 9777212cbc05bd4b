import Derived.Test.Qxb6617288aForms
namespace Go.Proofs.Qxb6617288a
open Go.RowKit

set_option maxHeartbeats 1000000 in
set_option maxRecDepth 100000 in
/-- PASSED. -/
theorem one_passed (name status : ByteArray) (v : Value) (nl : Bool) (ss : List ByteArray) (w : World) (hs : SL w nl v ss) (hp : isPassed status = true) :
    Calls Try.prog 3 #[.string name, .string status, v] w fun e w' => e = .returned (.bool true) ∧ Below w.heap.size w w' := by
  obtain ⟨a, c, rfl, hm, ha⟩ := hs.len
  have HS := hide hs
  have HP := hide hp
  have hff := passed_flip hp
  have hf := passed_not_failed hp
  have HF := hide hf
  clear hs ha
  unfold maxLen at hm
  unfold isFailed at hf
  unfold isPassed at hp
  have hnAB := neAB
  have hnBA := neBA
  go_enter Try.func3, Try.ntmps3
  go_wp2_with fail
  refine (bytes6_any _ _ _ _ _ _ HS.out).mono ?_
  rintro e w' ⟨⟨r, rfl⟩, rfl⟩
  cases r
  · go_wp2
    go_ret
    exact ⟨rfl, Below.refl _ _⟩
  go_wp2_with fail
  all_goals first
    | (go_ret; exact ⟨rfl, Below.refl _ _⟩)
    | skip
  refine (fits_any _ _ _ _ _ _ HS.out).mono ?_
  rintro e w' ⟨⟨r, rfl⟩, rfl⟩
  cases r
  · go_wp2
    go_ret
    exact ⟨rfl, Below.refl _ _⟩
  go_wp2_with fail
  refine (clone_form _ _ _ _ HS.out (by omega)).mono ?_
  rintro e w1 ⟨a1, c1, rfl, h1, b1⟩
  have H1 := hide h1
  have B1 := hide b1
  clear h1 b1
  go_wp2_with fail
  refine (clone_form _ _ _ _ H1.out (by omega)).mono ?_
  rintro e w2 ⟨a2, c2, rfl, h2, b2⟩
  have H2 := hide h2
  have B2 := hide b2
  clear h2 b2
  go_wp2_with fail
  refine (listed_kf_passed_form name status _ _ _ _ _ kf_kf HF.out HP.out).mono ?_
  rintro e w3 ⟨pb, poff, pc, rfl, h3, pc1, pc2, b3⟩
  have H3 := hide h3
  have B3 := hide (nx_trans (nx_alloc _ _) b3)
  unfold maxLen at pc2
  clear b3 h3
  go_wp2_with fail
  refine (listed_kf_failed_one name _ _ _ _ _ _ kf_kf fa_fa (H3.out.later (nx_alloc _ _))).mono ?_
  rintro e w4 ⟨qb, qoff, qc, rfl, h4, qc1, qc2, b4⟩
  have H4 := hide h4
  have B4 := hide (nx_trans (nx_alloc _ _) b4)
  obtain ⟨s4, k40, k41, k42⟩ := box_later b4
  have p0 := (H3.out.later B4.out).head
  have q0 := h4.head
  have q1 := h4.second
  have hpb : pb < w4.heap.size := World.block_lt_of_cell? _ _ p0
  have hqb : qb < w4.heap.size := World.block_lt_of_cell? _ _ q0
  unfold maxLen at qc2
  clear b4 h4
  have hq0 : (0 : Int) < 1 := by omega
  have hq1 : (0 : Int) < 2 := by omega
  have hq2 : (1 : Int) < 2 := by omega
  have HB := hide (nx_trans B1.out (nx_trans B2.out (nx_trans B3.out B4.out)))
  go_wp2_with fail
  refine (hasB _).mono ?_
  rintro e w6 ⟨rfl, rfl⟩
  go_wp2
  go_quiet ((go_at_call 11; exact (hasA _).mono fun e w6 h6 => ⟨h6.1, _, h6.2⟩))
  go_wp2
  go_ret
  exact ⟨rfl, nx_trans HB.out (nx_trans (nx_alloc _ _) (nx_drewN _ _))⟩

end Go.Proofs.Qxb6617288a
