import Derived.Laws.BitsAllLaws
import Derived.Laws.Bits64
namespace Go.Proofs.Qxb6617476a

/-! The plain law, over 64-bit words: no Go in sight. -/
def xs (k : Nat) (z : BitVec 64) : BitVec 64 := z ^^^ (z >>> k)
/-- What the undoing loop holds after m rounds. -/
def acc (k : Nat) (y : BitVec 64) : Nat → BitVec 64
  | 0 => y
  | m + 1 => acc k y m ^^^ (y >>> (k * (m + 1)))
def unx (k : Nat) (y : BitVec 64) : BitVec 64 := acc k y 2
def c1 : BitVec 64 := 13787848793156543929#64
def c2 : BitVec 64 := 10723151780598845931#64
/-- Newton's iteration. -/
def newt (c : BitVec 64) : Nat → BitVec 64
  | 0 => c
  | m + 1 => newt c m * (2#64 - c * newt c m)
def inv (c : BitVec 64) : BitVec 64 := newt c 5
def mix (z : BitVec 64) : BitVec 64 := xs 31 (xs 27 (xs 30 z * c1) * c2)
def unmix (z : BitVec 64) : BitVec 64 := unx 30 (unx 27 (unx 31 z * inv c2) * inv c1)

theorem inv1 : c1 * inv c1 = 1#64 := by decide +kernel
theorem inv2 : c2 * inv c2 = 1#64 := by decide +kernel
theorem inv1' : inv c1 * c1 = 1#64 := by decide +kernel
theorem inv2' : inv c2 * c2 = 1#64 := by decide +kernel

theorem unx_eq (k : Nat) (y : BitVec 64) : unx k y = y ^^^ (y >>> k) ^^^ (y >>> (k + k)) := by
  show y ^^^ (y >>> (k * (0 + 1))) ^^^ (y >>> (k * (1 + 1))) = _
  rw [show k * (0 + 1) = k by omega, show k * (1 + 1) = k + k by omega]

theorem unx_xs (k : Nat) (h : 64 ≤ 3 * k) (z : BitVec 64) : unx k (xs k z) = z := by
  rw [unx_eq]
  unfold xs
  apply BitVec.eq_of_getLsbD_eq
  intro i hi
  simp only [BitVec.getLsbD_xor, BitVec.getLsbD_ushiftRight]
  have e1 : k + (k + i) = k + k + i := by omega
  have e2 : z.getLsbD (k + (k + k + i)) = false := BitVec.getLsbD_of_ge _ _ (by omega)
  rw [e1, e2]
  cases z.getLsbD i <;> cases z.getLsbD (k + i) <;> cases z.getLsbD (k + k + i) <;> rfl

theorem xs_unx (k : Nat) (h : 64 ≤ 3 * k) (y : BitVec 64) : xs k (unx k y) = y := by
  rw [unx_eq]
  unfold xs
  apply BitVec.eq_of_getLsbD_eq
  intro i hi
  simp only [BitVec.getLsbD_xor, BitVec.getLsbD_ushiftRight]
  have e1 : k + (k + i) = k + k + i := by omega
  have e2 : y.getLsbD (k + k + (k + i)) = false := BitVec.getLsbD_of_ge _ _ (by omega)
  rw [e1, e2]
  cases y.getLsbD i <;> cases y.getLsbD (k + i) <;> cases y.getLsbD (k + k + i) <;> rfl

theorem unmix_mix (z : BitVec 64) : unmix (mix z) = z := by
  unfold unmix mix
  rw [unx_xs 31 (by omega), BitVec.mul_assoc, inv2, BitVec.mul_one, unx_xs 27 (by omega), BitVec.mul_assoc, inv1, BitVec.mul_one, unx_xs 30 (by omega)]

theorem mix_unmix (z : BitVec 64) : mix (unmix z) = z := by
  unfold unmix mix
  rw [xs_unx 30 (by omega), BitVec.mul_assoc, inv1', BitVec.mul_one, xs_unx 27 (by omega), BitVec.mul_assoc, inv2', BitVec.mul_one, xs_unx 31 (by omega)]

theorem mix_inj {a b : BitVec 64} (h : mix a = mix b) : a = b := by
  rw [← unmix_mix a, h, unmix_mix]

/-! How the walk writes a word: its number. -/
def nm (z : BitVec 64) : Int := (z.toNat : Int)

theorem nm_lt (z : BitVec 64) : 0 ≤ nm z ∧ nm z < 18446744073709551616 := by
  have h := z.isLt
  unfold nm
  omega

theorem nm_inj {a b : BitVec 64} (h : nm a = nm b) : a = b := by
  apply BitVec.eq_of_toNat_eq
  unfold nm at h
  omega

theorem nm_xor (a b : BitVec 64) : bits .xor .u64 (nm a) (nm b) = nm (a ^^^ b) := by
  unfold nm
  rw [u64_xor_nat _ _ (by have := a.isLt; omega) (by have := b.isLt; omega), BitVec.toNat_xor]

theorem nm_shr (a : BitVec 64) (k : Nat) : nm a / 2 ^ k = nm (a >>> k) := by
  unfold nm
  rw [BitVec.toNat_ushiftRight, Nat.shiftRight_eq_div_pow]
  simp

theorem nm_mul (a b : BitVec 64) : IntKind.u64.wrap (nm a * nm b) = nm (a * b) := by
  unfold nm
  rw [IntKind.wrap_u64, BitVec.toNat_mul]
  simp

theorem nm_sub (a b : BitVec 64) : IntKind.u64.wrap (nm a - nm b) = nm (a - b) := by
  have ha := a.isLt
  have hb := b.isLt
  unfold nm
  rw [IntKind.wrap_u64, BitVec.toNat_sub]
  omega

theorem nm_xs (z : BitVec 64) (k : Nat) : bits .xor .u64 (nm z) (nm z / 2 ^ k) = nm (xs k z) := by
  rw [nm_shr, nm_xor]
  rfl

end Go.Proofs.Qxb6617476a
