import Derived.Test.Qxb6617288aBase
namespace Go.Proofs.Qxb6617288a
open Go.RowKit

set_option maxHeartbeats 400000 in
/-- reportB1Contains answers true where sub, not empty, stands in s at p. -/
theorem has_any (s sub : ByteArray) (p : Nat) (w : World) (hs : s.size ≤ 1048576) (h0 : 0 < sub.size) (hp : p + sub.size ≤ s.size) (hat : s.extract p (p + sub.size) = sub) :
    Calls Try.prog 11 #[.string s, .string sub] w fun e w' => e = .returned (.bool true) ∧ w' = w := by
  have HAT : Hid (s.extract p (p + sub.size) = sub) := hat
  clear hat
  have hne : ((sub.size : Int) == 0) = false := beq_eq_false_iff_ne.2 (by omega)
  go_enter Try.func11, Try.ntmps11
  go_wp2
  go_loop [5] (fun i => ∃ k : Nat, k ≤ p ∧ i = .int .i64 k) (fun i => p - (intOf i).toNat)
  case atStart => exact ⟨0, Nat.zero_le _, rfl⟩
  case round =>
    obtain ⟨k, hk, rfl⟩ := hrel
    have hle : (k : Int) + (sub.size : Int) ≤ (s.size : Int) := by omega
    go_wp2
    · go_ret
      exact ⟨rfl, rfl⟩
    · have hno : ((s.extract k (k + sub.size)).toList == sub.toList) = false := by assumption
      have hkp : k ≠ p := by
        intro e
        subst e
        rw [HAT.out] at hno
        simp at hno
      go_round
      case rel => exact ⟨k + 1, by omega, by go_num⟩
      case measure => simp [intOf]; omega

end Go.Proofs.Qxb6617288a
