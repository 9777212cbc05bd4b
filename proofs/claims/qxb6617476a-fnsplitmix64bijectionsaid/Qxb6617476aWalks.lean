import Derived.Test.Qxb6617476aRows
import Derived.Test.Qxb6617476aPlain
import Derived.WalkKit
import Derived.WalkSpells
import Derived.WalkLawsBesides
namespace Go.Proofs.Qxb6617476a
open Go.RowKit

theorem hidden {p : Prop} (h : p) : Hid p := h

theorem x30 (z : BitVec 64) : bits .xor .u64 (nm z) (nm z / 1073741824) = nm (xs 30 z) := nm_xs z 30
theorem x27 (z : BitVec 64) : bits .xor .u64 (nm z) (nm z / 134217728) = nm (xs 27 z) := nm_xs z 27
theorem x31 (z : BitVec 64) : bits .xor .u64 (nm z) (nm z / 2147483648) = nm (xs 31 z) := nm_xs z 31
theorem m1 (z : BitVec 64) : IntKind.u64.wrap (nm z * 13787848793156543929) = nm (z * c1) := nm_mul z c1
theorem m2 (z : BitVec 64) : IntKind.u64.wrap (nm z * 10723151780598845931) = nm (z * c2) := nm_mul z c2
theorem n0 (z : BitVec 64) : 0 ≤ nm z := (nm_lt z).1

set_option maxHeartbeats 400000 in
theorem mix6 (z : BitVec 64) (w : World) : Calls Try.prog 6 #[.int .u64 (nm z)] w fun e w' => e = .returned (.int .u64 (nm (mix z))) ∧ w' = w := by
  have h30 := x30
  have h27 := x27
  have h31 := x31
  have hm1 := m1
  have hm2 := m2
  have hn0 := n0
  go_enter Try.func6, Try.ntmps6
  go_wp2
  go_ret
  exact ⟨rfl, rfl⟩

set_option maxHeartbeats 400000 in
theorem mix4 (z : BitVec 64) (w : World) : Calls Try.prog 4 #[.int .u64 (nm z)] w fun e w' => e = .returned (.int .u64 (nm (mix z))) ∧ w' = w := by
  go_enter Try.func4, Try.ntmps4
  go_wp2_with fail
  refine (mix6 z _).mono ?_
  rintro e w' ⟨rfl, rfl⟩
  go_wp2
  go_ret
  exact ⟨rfl, rfl⟩

theorem acc_step (k m s : Nat) (y : BitVec 64) (hs : s = k * (m + 1)) : bits .xor .u64 (nm (acc k y m)) (nm y / 2 ^ s) = nm (acc k y (m + 1)) := by
  subst hs
  rw [nm_shr, nm_xor]
  rfl

set_option maxHeartbeats 400000 in
theorem unx7 (y : BitVec 64) (k : Nat) (w : World) (h1 : 2 * k < 64) (h2 : 64 ≤ 3 * k) : Calls Try.prog 7 #[.int .u64 (nm y), .int .u64 k] w fun e w' => e = .returned (.int .u64 (nm (unx k y))) ∧ w' = w := by
  have hn0 := n0 y
  have hk64 : k ≤ 64 := by omega
  go_enter Try.func7, Try.ntmps7
  go_wp2
  go_loop [5, 6] (fun x i => ∃ (s m : Nat), m ≤ 2 ∧ i = .int .u64 s ∧ x = .int .u64 (nm (acc k y m)) ∧ s = k * (m + 1)) (fun _ i => 64 - (intOf i).toNat)
  case atStart => exact ⟨k, 0, by omega, rfl, rfl, by omega⟩
  case round =>
    obtain ⟨s, m, hm, rfl, rfl, hs⟩ := hrel
    have HS := hidden hs
    by_cases hlt : s < 64
    · have hm2 : m < 2 := by
        rcases Nat.lt_or_ge m 2 with h | h
        · exact h
        · have : m = 2 := by omega
          subst this
          omega
      have HA := hidden (acc_step k m s y hs)
      clear hs
      go_wp2
      go_round
      case rel => exact ⟨s + k, m + 1, by omega, by go_num, by rw [HA.out], by rw [HS.out, Nat.mul_add k (m + 1) 1, Nat.mul_one]⟩
      case measure => simp [intOf]; omega
    · have hm2 : m = 2 := by
        have h3 : m = 0 ∨ m = 1 ∨ m = 2 := by omega
        rcases h3 with rfl | rfl | rfl
        · omega
        · omega
        · rfl
      subst hm2
      clear hs
      go_wp2
      go_ret
      exact ⟨rfl, rfl⟩

theorem newt_step (c v : BitVec 64) : IntKind.u64.wrap (nm v * IntKind.u64.wrap (2 - IntKind.u64.wrap (nm c * nm v))) = nm (v * (2#64 - c * v)) := by
  rw [nm_mul, show (2 : Int) = nm 2#64 from rfl, nm_sub, nm_mul]

set_option maxHeartbeats 400000 in
theorem inv8 (c : BitVec 64) (w : World) : Calls Try.prog 8 #[.int .u64 (nm c)] w fun e w' => e = .returned (.int .u64 (nm (inv c))) ∧ w' = w := by
  go_enter Try.func8, Try.ntmps8
  go_wp2
  go_loop [3, 4] (fun x i => ∃ k : Nat, k ≤ 5 ∧ i = .int .i64 k ∧ x = .int .u64 (nm (newt c k))) (fun _ i => 5 - (intOf i).toNat)
  case atStart => exact ⟨0, by omega, rfl, rfl⟩
  case round =>
    obtain ⟨k, hk, rfl, rfl⟩ := hrel
    by_cases hlt : k < 5
    · have HA := hidden (newt_step c (newt c k))
      go_wp2
      go_round
      case rel => exact ⟨k + 1, by omega, by go_num, by rw [HA.out]; rfl⟩
      case measure => simp [intOf]; omega
    · obtain rfl : k = 5 := by omega
      go_wp2
      go_ret
      exact ⟨rfl, rfl⟩

theorem unx31 (y : BitVec 64) (w : World) : Calls Try.prog 7 #[.int .u64 (nm y), .int .u64 31] w fun e w' => e = .returned (.int .u64 (nm (unx 31 y))) ∧ w' = w := unx7 y 31 w (by omega) (by omega)
theorem unx27 (y : BitVec 64) (w : World) : Calls Try.prog 7 #[.int .u64 (nm y), .int .u64 27] w fun e w' => e = .returned (.int .u64 (nm (unx 27 y))) ∧ w' = w := unx7 y 27 w (by omega) (by omega)
theorem unx30 (y : BitVec 64) (w : World) : Calls Try.prog 7 #[.int .u64 (nm y), .int .u64 30] w fun e w' => e = .returned (.int .u64 (nm (unx 30 y))) ∧ w' = w := unx7 y 30 w (by omega) (by omega)
theorem nm_c1 : nm c1 = 13787848793156543929 := by decide +kernel
theorem nm_c2 : nm c2 = 10723151780598845931 := by decide +kernel
theorem inv8a (w : World) : Calls Try.prog 8 #[.int .u64 10723151780598845931] w fun e w' => e = .returned (.int .u64 (nm (inv c2))) ∧ w' = w := by
  have h := inv8 c2 w
  rw [nm_c2] at h
  exact h
theorem inv8b (w : World) : Calls Try.prog 8 #[.int .u64 13787848793156543929] w fun e w' => e = .returned (.int .u64 (nm (inv c1))) ∧ w' = w := by
  have h := inv8 c1 w
  rw [nm_c1] at h
  exact h

set_option maxHeartbeats 400000 in
theorem unmix5 (z : BitVec 64) (w : World) : Calls Try.prog 5 #[.int .u64 (nm z)] w fun e w' => e = .returned (.int .u64 (nm (unmix z))) ∧ w' = w := by
  have hmul := nm_mul
  go_enter Try.func5, Try.ntmps5
  go_wp2_with fail
  refine (unx31 z _).mono ?_
  rintro e w' ⟨rfl, rfl⟩
  go_wp2_with fail
  refine (inv8a _).mono ?_
  rintro e w' ⟨rfl, rfl⟩
  go_wp2_with fail
  refine (unx27 _ _).mono ?_
  rintro e w' ⟨rfl, rfl⟩
  go_wp2_with fail
  refine (inv8b _).mono ?_
  rintro e w' ⟨rfl, rfl⟩
  go_wp2_with fail
  refine (unx30 _ _).mono ?_
  rintro e w' ⟨rfl, rfl⟩
  go_wp2
  go_ret
  exact ⟨rfl, rfl⟩

set_option maxHeartbeats 400000 in
/-- The law, over words. -/
theorem law3 (a b : BitVec 64) (w : World) : Calls Try.prog 3 #[.int .u64 (nm a), .int .u64 (nm b)] w fun e w' => e = .returned (.bool true) ∧ w' = w := by
  have h1 : (nm (unmix (mix a)) != nm a) = false := by rw [unmix_mix]; simp
  have h2 : (nm (mix (unmix b)) != nm b) = false := by rw [mix_unmix]; simp
  have h3 : (nm (mix a) == nm (mix b)) = (nm a == nm b) := by
    rw [Bool.eq_iff_iff, beq_iff_eq, beq_iff_eq]
    constructor
    · intro h
      rw [mix_inj (nm_inj h)]
    · intro h
      rw [nm_inj h]
  go_enter Try.func3, Try.ntmps3
  go_wp2_with fail
  refine (mix4 a _).mono ?_
  rintro e w' ⟨rfl, rfl⟩
  go_wp2_with fail
  refine (mix4 b _).mono ?_
  rintro e w' ⟨rfl, rfl⟩
  go_wp2_with fail
  refine (unmix5 _ _).mono ?_
  rintro e w' ⟨rfl, rfl⟩
  go_wp2_with fail
  refine (unmix5 _ _).mono ?_
  rintro e w' ⟨rfl, rfl⟩
  go_wp2_with fail
  refine (mix4 _ _).mono ?_
  rintro e w' ⟨rfl, rfl⟩
  go_wp2
  go_ret
  exact ⟨rfl, rfl⟩

end Go.Proofs.Qxb6617476a
