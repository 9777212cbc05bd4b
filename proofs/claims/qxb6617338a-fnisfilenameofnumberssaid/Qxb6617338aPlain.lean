import Derived.Lib.ConvBytes
namespace Go.Proofs.Qxb6617338a

/-- May the byte stand in a file's name? -/
def okn (n : Nat) : Bool := (decide (97 ≤ n) && decide (n ≤ 122)) || (decide (65 ≤ n) && decide (n ≤ 90)) || (decide (48 ≤ n) && decide (n ≤ 57)) || n == 46 || n == 95 || n == 45
def okc (b : UInt8) : Bool := okn b.toNat

theorem okn_yes {n : Nat} (h : okn n = true) : (97 ≤ (n : Int) ∧ (n : Int) ≤ 122) ∨ (65 ≤ (n : Int) ∧ (n : Int) ≤ 90) ∨ (48 ≤ (n : Int) ∧ (n : Int) ≤ 57) ∨ (46 ≤ (n : Int) ∧ (n : Int) ≤ 46) ∨ (95 ≤ (n : Int) ∧ (n : Int) ≤ 95) ∨ (45 ≤ (n : Int) ∧ (n : Int) ≤ 45) := by
  simp [okn] at h
  omega
theorem okn_no {n : Nat} (h : okn n = false) : ((n : Int) == 46) = false ∧ ((n : Int) == 95) = false ∧ ((n : Int) == 45) = false ∧ ((0 ≤ (n : Int) ∧ (n : Int) ≤ 44) ∨ (47 ≤ (n : Int) ∧ (n : Int) ≤ 47) ∨ (58 ≤ (n : Int) ∧ (n : Int) ≤ 64) ∨ (91 ≤ (n : Int) ∧ (n : Int) ≤ 94) ∨ (96 ≤ (n : Int) ∧ (n : Int) ≤ 96) ∨ (123 ≤ (n : Int) ∧ 123 ≤ (n : Int))) := by
  simp [okn] at h
  refine ⟨beq_eq_false_iff_ne.2 (by omega), beq_eq_false_iff_ne.2 (by omega), beq_eq_false_iff_ne.2 (by omega), by omega⟩

/-- isFileName, on the bytes. -/
def fileOk (l : List UInt8) : Bool := !l.isEmpty && !((l.headD 0).toNat == 46) && decide (l.length ≤ 255) && l.all okc

theorem fileOk_empty : fileOk [] = false := rfl
theorem fileOk_dot {l : List UInt8} (h : (l.headD 0).toNat = 46) : fileOk l = false := by
  unfold fileOk
  rw [h]
  simp
theorem fileOk_long {l : List UInt8} (h : 255 < l.length) : fileOk l = false := by
  have : ¬ l.length ≤ 255 := by omega
  simp [fileOk, this]
theorem fileOk_else {l : List UInt8} (h0 : l ≠ []) (h1 : (l.headD 0).toNat ≠ 46) (h2 : l.length ≤ 255) : fileOk l = l.all okc := by
  have e1 : l.isEmpty = false := by cases l <;> simp_all
  have e2 : ((l.headD 0).toNat == 46) = false := beq_eq_false_iff_ne.2 h1
  simp [fileOk, e1, h2]
  intro _
  simpa using h1

/-- One byte more. -/
theorem take_snoc (l : List UInt8) (k : Nat) (h : k < l.length) : l.take (k + 1) = l.take k ++ [l.getD k 0] := by
  rw [List.take_succ_eq_append_getElem h]
  simp [List.getD, h]

theorem all_snoc (l : List UInt8) (k : Nat) (h : k < l.length) (ha : (l.take k).all okc = true) (hk : okc (l.getD k 0) = true) : (l.take (k + 1)).all okc = true := by
  rw [take_snoc l k h, List.all_append, ha]
  simp at hk ⊢
  exact hk

theorem all_no (l : List UInt8) (k : Nat) (h : k < l.length) (hk : okc (l.getD k 0) = false) : l.all okc = false := by
  rw [List.all_eq_false]
  refine ⟨l.getD k 0, ?_, by rw [hk]; simp⟩
  simp [List.getD, h]

/-- A name that is cut: both parts. -/
theorem fileOk_cut {l : List UInt8} {k : Nat} (hk0 : 0 < k) (hk : k ≤ l.length) (hl : l.length ≤ 255) : fileOk l = (fileOk (l.take k) && fileOk (97 :: l.drop k)) := by
  cases l with
  | nil => simp at hk; omega
  | cons x l =>
    obtain ⟨k, rfl⟩ : ∃ j, k = j + 1 := ⟨k - 1, by omega⟩
    simp only [List.length_cons] at hk hl
    have e1 : decide ((x :: l).length ≤ 255) = true := decide_eq_true (by simp only [List.length_cons]; omega)
    have e2 : decide ((x :: l.take k).length ≤ 255) = true := decide_eq_true (by simp only [List.length_cons, List.length_take]; omega)
    have e3 : decide ((97 :: l.drop k).length ≤ 255) = true := decide_eq_true (by simp only [List.length_cons, List.length_drop]; omega)
    have e4 : (x :: l).all okc = ((x :: l.take k).all okc && (97 :: l.drop k).all okc) := by
      have h97 : okc 97 = true := by decide
      have hs : l.all okc = ((l.take k).all okc && (l.drop k).all okc) := by rw [← List.all_append, List.take_append_drop]
      simp only [List.all_cons, h97, hs, Bool.true_and, Bool.and_assoc]
    have e5 : (!((97 : UInt8).toNat == 46)) = true := by decide
    simp only [List.take_succ_cons, List.drop_succ_cons]
    simp only [fileOk, e1, e2, e3, e4, e5, List.isEmpty_cons, List.headD_cons, Bool.not_false, Bool.true_and, Bool.and_true, Bool.and_assoc]

end Go.Proofs.Qxb6617338a
