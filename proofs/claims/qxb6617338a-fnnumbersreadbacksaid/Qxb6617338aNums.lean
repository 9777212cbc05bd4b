import Derived.Lib.AppendStr
import Derived.Shelf.Strings.Builder1
import Derived.Lib.Strings
namespace Go.Proofs.Qxb6617338a

/-- One range: the Go struct's three strings. -/
structure Rg where
  nrn : ByteArray
  first : ByteArray
  last : ByteArray

def Rg.none : Rg := ⟨ByteArray.empty, ByteArray.empty, ByteArray.empty⟩

/-- Is the range more than one number? In the walk's form: 'rg.Last != rg.First'. -/
def Rg.two (r : Rg) : Bool := !(r.last.toList == r.first.toList)

/-- How one range is written. -/
def Rg.item (r : Rg) : List UInt8 := r.first.data.toList ++ (if r.two then 45 :: r.last.data.toList else [])

/-- .. with ', ' ahead of each. -/
def sep : List Rg → List UInt8
  | [] => []
  | r :: rs => 44 :: 32 :: (r.item ++ sep rs)

/-- What numbers writes. -/
def numT : List Rg → List UInt8
  | [] => []
  | r :: rs => r.item ++ sep rs

theorem sep_append (xs ys : List Rg) : sep (xs ++ ys) = sep xs ++ sep ys := by
  induction xs with
  | nil => rfl
  | cons x xs ih => simp [sep, ih]

theorem sep_cons_num (y : Rg) (ys : List Rg) : sep (y :: ys) = 44 :: 32 :: numT (y :: ys) := rfl

theorem numT_append_nil (ys : List Rg) : numT ([] ++ ys) = numT [] ++ numT ys := rfl

theorem numT_append {xs ys : List Rg} (hx : xs ≠ []) (hy : ys ≠ []) : numT (xs ++ ys) = numT xs ++ [44, 32] ++ numT ys := by
  cases xs with
  | nil => exact absurd rfl hx
  | cons x xs =>
    cases ys with
    | nil => exact absurd rfl hy
    | cons y ys =>
      show x.item ++ sep (xs ++ y :: ys) = _
      rw [sep_append, sep_cons_num]
      simp [numT]

theorem numT_one (r : Rg) : numT [r] = r.item := by simp [numT, sep]

theorem numT_snoc_first (r : Rg) : numT ([] ++ [r]) = numT [] ++ r.item := by simp [numT, sep]
theorem numT_snoc {xs : List Rg} (hx : xs ≠ []) (r : Rg) : numT (xs ++ [r]) = numT xs ++ [44, 32] ++ r.item := by
  rw [numT_append hx (by simp), numT_one]

/-- The lengths that the guard adds up. -/
def sumLen : List Rg → Nat
  | [] => 0
  | r :: rs => r.nrn.size + r.first.size + r.last.size + sumLen rs

theorem sumLen_append (xs ys : List Rg) : sumLen (xs ++ ys) = sumLen xs + sumLen ys := by
  induction xs with
  | nil => simp [sumLen]
  | cons x xs ih => simp [sumLen, ih]; omega

theorem len_bytes (s : ByteArray) : s.data.toList.length = s.size := by simp

theorem item_len (r : Rg) : r.item.length ≤ r.first.size + r.last.size + 1 := by
  unfold Rg.item
  split
  · simp; omega
  · simp; omega

theorem sep_len (rs : List Rg) : (sep rs).length ≤ sumLen rs + 3 * rs.length := by
  induction rs with
  | nil => simp [sep]
  | cons r rs ih =>
    have := item_len r
    simp [sep, sumLen]
    omega

theorem numT_len (rs : List Rg) : (numT rs).length ≤ sumLen rs + 3 * rs.length := by
  cases rs with
  | nil => simp [numT]
  | cons r rs =>
    have := item_len r
    have := sep_len rs
    simp [numT, sumLen]
    omega

theorem take_snoc_rg (rs : List Rg) (k : Nat) (h : k < rs.length) : rs.take (k + 1) = rs.take k ++ [rs.getD k Rg.none] := by
  rw [List.take_succ_eq_append_getElem h]
  simp [List.getD, h]

theorem sumLen_take_le (rs : List Rg) (k : Nat) : sumLen (rs.take k) ≤ sumLen rs := by
  have h := sumLen_append (rs.take k) (rs.drop k)
  rw [List.take_append_drop] at h
  omega

theorem sumLen_drop_le (rs : List Rg) (k : Nat) : sumLen (rs.drop k) ≤ sumLen rs := by
  have h := sumLen_append (rs.take k) (rs.drop k)
  rw [List.take_append_drop] at h
  omega

theorem sumLen_snoc (rs : List Rg) (k : Nat) (h : k < rs.length) : sumLen (rs.take (k + 1)) = sumLen (rs.take k) + ((rs.getD k Rg.none).nrn.size + (rs.getD k Rg.none).first.size + (rs.getD k Rg.none).last.size) := by
  rw [take_snoc_rg rs k h, sumLen_append]
  simp [sumLen]

/-- One range's lengths are within the sum. -/
theorem getD_le (rs : List Rg) (k : Nat) (h : k < rs.length) : (rs.getD k Rg.none).nrn.size + (rs.getD k Rg.none).first.size + (rs.getD k Rg.none).last.size ≤ sumLen rs := by
  have h1 := sumLen_snoc rs k h
  have h2 := sumLen_take_le rs (k + 1)
  omega

/-- What numbers has written after one range more, in the builder's cells. -/
theorem cells_append (a b : List UInt8) : Lib.byteCells (a ++ b) = Lib.byteCells a ++ Lib.byteCells b := by simp [Lib.byteCells]
theorem cells_str (s : ByteArray) : Lib.strCells s = Lib.byteCells s.data.toList := rfl
theorem cells_len (a : List UInt8) : (Lib.byteCells a).length = a.length := by simp [Lib.byteCells]
theorem dash_data (s : ByteArray) : ((⟨#[45]⟩ : ByteArray) ++ s).data.toList = 45 :: s.data.toList := by
  rw [ByteArray.data_append, Array.toList_append]
  rfl

theorem round_first_two (rs : List Rg) (h : 0 < rs.length) (ht : (rs.getD 0 Rg.none).two = true) :
    Lib.byteCells (numT (rs.take (0 + 1))) = (Lib.byteCells (numT (rs.take 0)) ++ Lib.strCells (rs.getD 0 Rg.none).first) ++ Lib.strCells (⟨#[45]⟩ ++ (rs.getD 0 Rg.none).last) := by
  rw [take_snoc_rg rs 0 h, List.take_zero, numT_snoc_first, cells_str, cells_str, dash_data, ← cells_append, ← cells_append, Rg.item, ht, if_pos rfl, List.append_assoc]
theorem round_first_one (rs : List Rg) (h : 0 < rs.length) (ht : (rs.getD 0 Rg.none).two = false) :
    Lib.byteCells (numT (rs.take (0 + 1))) = Lib.byteCells (numT (rs.take 0)) ++ Lib.strCells (rs.getD 0 Rg.none).first := by
  rw [take_snoc_rg rs 0 h, List.take_zero, numT_snoc_first, cells_str, ← cells_append, Rg.item, ht, if_neg (by simp), List.append_nil]
theorem take_ne {rs : List Rg} {k : Nat} (hk : k < rs.length) (h0 : 0 < k) : rs.take k ≠ [] := by
  intro e
  have h1 := congrArg List.length e
  rw [List.length_take, List.length_nil] at h1
  omega
theorem round_two (rs : List Rg) (k : Nat) (h : k < rs.length) (h0 : 0 < k) (ht : (rs.getD k Rg.none).two = true) :
    Lib.byteCells (numT (rs.take (k + 1))) = ((Lib.byteCells (numT (rs.take k)) ++ Lib.strCells ⟨#[44, 32]⟩) ++ Lib.strCells (rs.getD k Rg.none).first) ++ Lib.strCells (⟨#[45]⟩ ++ (rs.getD k Rg.none).last) := by
  rw [take_snoc_rg rs k h, numT_snoc (take_ne h h0), cells_str, cells_str, cells_str, dash_data, ← cells_append, ← cells_append, ← cells_append, Rg.item, ht, if_pos rfl]
  simp only [List.append_assoc]
theorem round_one (rs : List Rg) (k : Nat) (h : k < rs.length) (h0 : 0 < k) (ht : (rs.getD k Rg.none).two = false) :
    Lib.byteCells (numT (rs.take (k + 1))) = (Lib.byteCells (numT (rs.take k)) ++ Lib.strCells ⟨#[44, 32]⟩) ++ Lib.strCells (rs.getD k Rg.none).first := by
  rw [take_snoc_rg rs k h, numT_snoc (take_ne h h0), cells_str, cells_str, ← cells_append, ← cells_append, Rg.item, ht, if_neg (by simp)]
  simp only [List.append_nil, List.append_assoc]

end Go.Proofs.Qxb6617338a
