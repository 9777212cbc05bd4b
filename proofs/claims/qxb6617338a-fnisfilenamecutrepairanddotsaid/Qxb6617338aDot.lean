import Derived.Test.Qxb6617338aLetter
import Derived.Lib.IndexBytes
namespace Go.Proofs.Qxb6617338a
open Go.RowKit

/-- The call ended by returning a bool. -/
def IsBool (e : Ending) : Prop := ∃ r, e = .returned (.bool r)

theorem bytes14_any (s : ByteArray) (i : Int) (w : World) (hs : s.size ≤ maxLen) : Calls Try.prog 14 #[.string s, .int .i64 i] w fun e w' => IsBool e ∧ w' = w := by
  unfold maxLen at hs
  go_enter Try.func14, Try.ntmps14
  go_wp2
  all_goals (go_ret; exact ⟨⟨_, rfl⟩, rfl⟩)

theorem nx_trans {a b c : World} (h : Below a.heap.size a b) (k : Below b.heap.size b c) : Below a.heap.size a c := h.trans (k.mono h.size)

/-- A name that is cut. -/
theorem fOk_cut {s : ByteArray} {k : Nat} (hk0 : 0 < k) (hk : k ≤ s.size) (hl : s.size ≤ 255) : fOk s = (fOk (s.extract 0 k) && fOk (⟨#[97]⟩ ++ s.extract k s.size)) := by
  have e2 : s.data.toList.length = s.size := by simp
  unfold fOk
  rw [fileOk_cut (k := k) hk0 (by omega) (by omega), Lib.extract_data]
  have e3 : ((⟨#[97]⟩ : ByteArray) ++ s.extract k s.size).data.toList = 97 :: s.data.toList.drop k := by
    rw [ByteArray.data_append, Array.toList_append, Lib.extract_to_end]
    rfl
  rw [e3, List.drop_zero, Nat.sub_zero]

theorem fOk_dotted (s : ByteArray) : fOk (⟨#[46]⟩ ++ s) = false := by
  unfold fOk
  refine fileOk_dot ?_
  rw [ByteArray.data_append, Array.toList_append]
  rfl

theorem fOk_none {s : ByteArray} (h : s.size = 0) : fOk s = false := by
  have e2 : s.data.toList.length = s.size := by simp
  unfold fOk
  rw [List.eq_nil_of_length_eq_zero (by omega : s.data.toList.length = 0)]
  rfl
theorem fOk_wide {s : ByteArray} (h : 255 < s.size) : fOk s = false := by
  have e2 : s.data.toList.length = s.size := by simp
  exact fileOk_long (by omega)

set_option maxHeartbeats 1000000 in
set_option maxRecDepth 100000 in
theorem dot_mid (s : ByteArray) (k : Nat) (w : World) (h0 : 0 < s.size) (hl : (s.size : Int) ≤ 255) (hk : k ≤ s.size) (hk0 : 0 < k) :
    Calls Try.prog 5 #[.string s, .int .i64 k] w fun e w' => e = .returned (.bool true) ∧ Below w.heap.size w w' := by
  have hE : s.toList.isEmpty = false := by rw [toList_empty_iff]; exact decide_eq_false (by omega)
  have hk1 : ((k : Int) == 0) = false := beq_eq_false_iff_ne.2 (by omega)
  have hW := fOk_cut hk0 hk (by omega)
  have hD := fOk_dotted s
  go_enter Try.func5, Try.ntmps5
  go_wp2_with fail
  refine (bytes14_any s _ _ (by unfold maxLen; omega)).mono ?_
  rintro e w' ⟨⟨r, rfl⟩, rfl⟩
  cases r
  · go_wp2
    go_ret
    exact ⟨rfl, Below.refl _ _⟩
  go_wp2_with fail
  refine (zzfile_any s _).mono ?_
  rintro e w1 ⟨rfl, b1⟩
  have B1 := hide b1
  clear b1
  go_wp2_with fail
  refine (zzfile_any (s.extract 0 k) _).mono ?_
  rintro e w2 ⟨rfl, b2⟩
  have B2 := hide b2
  clear b2
  cases hA : fOk (s.extract 0 k)
  · rw [hA] at hW
    simp only [Bool.false_and] at hW
    go_wp2_with fail
    refine (letter_any s _ (by omega)).mono ?_
    rintro e w4 ⟨t, rfl, ht, ht2, b4⟩
    have B4 := hide b4
    clear b4
    go_wp2_with fail
    refine (zzfile_any t _).mono ?_
    rintro e w5 ⟨rfl, b5⟩
    have B5 := hide b5
    clear b5
    go_wp2_with fail
    refine (zzfile_any _ _).mono ?_
    rintro e w6 ⟨rfl, b6⟩
    have B6 := hide b6
    clear b6
    go_wp2
    go_ret
    exact ⟨rfl, nx_trans B1.out (nx_trans B2.out (nx_trans B4.out (nx_trans B5.out B6.out)))⟩
  · rw [hA] at hW
    simp only [Bool.true_and] at hW
    go_wp2_with fail
    refine (zzfile_any _ _).mono ?_
    rintro e w3 ⟨rfl, b3⟩
    have B3 := hide b3
    clear b3
    cases hB : fOk (⟨#[97]⟩ ++ s.extract k s.size)
    all_goals
      rw [hB] at hW
      go_wp2_with fail
      refine (letter_any s _ (by omega)).mono ?_
      rintro e w4 ⟨t, rfl, ht, ht2, b4⟩
      have B4 := hide b4
      clear b4
      go_wp2_with fail
      refine (zzfile_any t _).mono ?_
      rintro e w5 ⟨rfl, b5⟩
      have B5 := hide b5
      clear b5
      go_wp2_with fail
      refine (zzfile_any _ _).mono ?_
      rintro e w6 ⟨rfl, b6⟩
      have B6 := hide b6
      clear b6
      go_wp2
      go_ret
      exact ⟨rfl, nx_trans B1.out (nx_trans B2.out (nx_trans B3.out (nx_trans B4.out (nx_trans B5.out B6.out))))⟩

set_option maxHeartbeats 1000000 in
set_option maxRecDepth 100000 in
theorem dot_zero (s : ByteArray) (w : World) (h0 : 0 < s.size) (hl : (s.size : Int) ≤ 255) :
    Calls Try.prog 5 #[.string s, .int .i64 0] w fun e w' => e = .returned (.bool true) ∧ Below w.heap.size w w' := by
  have hE : s.toList.isEmpty = false := by rw [toList_empty_iff]; exact decide_eq_false (by omega)
  have h1 : (1 : Int) ≤ (s.size : Int) := by omega
  have hW := fOk_cut (s := s) (k := 1) (by omega) (by omega) (by omega)
  have hD := fOk_dotted s
  go_enter Try.func5, Try.ntmps5
  go_wp2_with fail
  refine (bytes14_any s _ _ (by unfold maxLen; omega)).mono ?_
  rintro e w' ⟨⟨r, rfl⟩, rfl⟩
  cases r
  · go_wp2
    go_ret
    exact ⟨rfl, Below.refl _ _⟩
  go_wp2_with fail
  refine (zzfile_any s _).mono ?_
  rintro e w1 ⟨rfl, b1⟩
  have B1 := hide b1
  clear b1
  go_wp2_with fail
  refine (zzfile_any (s.extract 0 1) _).mono ?_
  rintro e w2 ⟨rfl, b2⟩
  have B2 := hide b2
  clear b2
  cases hA : fOk (s.extract 0 1)
  · rw [hA] at hW
    simp only [Bool.false_and] at hW
    go_wp2_with fail
    refine (letter_any s _ (by omega)).mono ?_
    rintro e w4 ⟨t, rfl, ht, ht2, b4⟩
    have B4 := hide b4
    clear b4
    go_wp2_with fail
    refine (zzfile_any t _).mono ?_
    rintro e w5 ⟨rfl, b5⟩
    have B5 := hide b5
    clear b5
    go_wp2_with fail
    refine (zzfile_any _ _).mono ?_
    rintro e w6 ⟨rfl, b6⟩
    have B6 := hide b6
    clear b6
    go_wp2
    go_ret
    exact ⟨rfl, nx_trans B1.out (nx_trans B2.out (nx_trans B4.out (nx_trans B5.out B6.out)))⟩
  · rw [hA] at hW
    simp only [Bool.true_and] at hW
    go_wp2_with fail
    refine (zzfile_any _ _).mono ?_
    rintro e w3 ⟨rfl, b3⟩
    have B3 := hide b3
    clear b3
    cases hB : fOk (⟨#[97]⟩ ++ s.extract 1 s.size)
    all_goals
      rw [hB] at hW
      go_wp2_with fail
      refine (letter_any s _ (by omega)).mono ?_
      rintro e w4 ⟨t, rfl, ht, ht2, b4⟩
      have B4 := hide b4
      clear b4
      go_wp2_with fail
      refine (zzfile_any t _).mono ?_
      rintro e w5 ⟨rfl, b5⟩
      have B5 := hide b5
      clear b5
      go_wp2_with fail
      refine (zzfile_any _ _).mono ?_
      rintro e w6 ⟨rfl, b6⟩
      have B6 := hide b6
      clear b6
      go_wp2
      go_ret
      exact ⟨rfl, nx_trans B1.out (nx_trans B2.out (nx_trans B3.out (nx_trans B4.out (nx_trans B5.out B6.out))))⟩

set_option maxHeartbeats 1000000 in
set_option maxRecDepth 100000 in
theorem dot_none (s : ByteArray) (w : World) (h0 : s.size = 0) :
    Calls Try.prog 5 #[.string s, .int .i64 0] w fun e w' => e = .returned (.bool true) ∧ Below w.heap.size w w' := by
  have hE : s.toList.isEmpty = true := by rw [toList_empty_iff]; exact decide_eq_true h0
  have hD := fOk_dotted s
  have hW := fOk_none h0
  go_enter Try.func5, Try.ntmps5
  go_wp2_with fail
  refine (bytes14_any s _ _ (by unfold maxLen; omega)).mono ?_
  rintro e w' ⟨⟨r, rfl⟩, rfl⟩
  cases r
  · go_wp2
    go_ret
    exact ⟨rfl, Below.refl _ _⟩
  go_wp2_with fail
  refine (zzfile_any s _).mono ?_
  rintro e w1 ⟨rfl, b1⟩
  have B1 := hide b1
  clear b1
  go_wp2_with fail
  refine (letter_any s _ (by omega)).mono ?_
  rintro e w4 ⟨t, rfl, ht, ht2, b4⟩
  have B4 := hide b4
  clear b4
  go_wp2_with fail
  refine (zzfile_any t _).mono ?_
  rintro e w5 ⟨rfl, b5⟩
  have B5 := hide b5
  clear b5
  go_wp2_with fail
  refine (zzfile_any _ _).mono ?_
  rintro e w6 ⟨rfl, b6⟩
  have B6 := hide b6
  clear b6
  go_wp2
  go_ret
  exact ⟨rfl, nx_trans B1.out (nx_trans B4.out (nx_trans B5.out B6.out))⟩

set_option maxHeartbeats 1000000 in
set_option maxRecDepth 100000 in
theorem dot_wide (s : ByteArray) (k : Nat) (w : World) (hl : (255 : Int) < (s.size : Int)) (hl2 : (s.size : Int) ≤ 65536) (hk : k ≤ s.size) (hk0 : 0 < k) :
    Calls Try.prog 5 #[.string s, .int .i64 k] w fun e w' => e = .returned (.bool true) ∧ Below w.heap.size w w' := by
  have hE : s.toList.isEmpty = false := by rw [toList_empty_iff]; exact decide_eq_false (by omega)
  have hk1 : ((k : Int) == 0) = false := beq_eq_false_iff_ne.2 (by omega)
  have hW := fOk_wide (s := s) (by omega)
  have hD := fOk_dotted s
  go_enter Try.func5, Try.ntmps5
  go_wp2_with fail
  refine (bytes14_any s _ _ (by unfold maxLen; omega)).mono ?_
  rintro e w' ⟨⟨r, rfl⟩, rfl⟩
  cases r
  · go_wp2
    go_ret
    exact ⟨rfl, Below.refl _ _⟩
  go_wp2_with fail
  refine (zzfile_any s _).mono ?_
  rintro e w1 ⟨rfl, b1⟩
  have B1 := hide b1
  clear b1
  go_wp2_with fail
  refine (letter_any s _ (by omega)).mono ?_
  rintro e w4 ⟨t, rfl, ht, ht2, b4⟩
  have B4 := hide b4
  clear b4
  go_wp2_with fail
  refine (zzfile_any t _).mono ?_
  rintro e w5 ⟨rfl, b5⟩
  have B5 := hide b5
  clear b5
  go_wp2_with fail
  refine (zzfile_any _ _).mono ?_
  rintro e w6 ⟨rfl, b6⟩
  have B6 := hide b6
  clear b6
  go_wp2
  go_ret
  exact ⟨rfl, nx_trans B1.out (nx_trans B4.out (nx_trans B5.out B6.out))⟩

set_option maxHeartbeats 1000000 in
set_option maxRecDepth 100000 in
theorem dot_wide0 (s : ByteArray) (w : World) (hl : (255 : Int) < (s.size : Int)) (hl2 : (s.size : Int) ≤ 65536) :
    Calls Try.prog 5 #[.string s, .int .i64 0] w fun e w' => e = .returned (.bool true) ∧ Below w.heap.size w w' := by
  have hE : s.toList.isEmpty = false := by rw [toList_empty_iff]; exact decide_eq_false (by omega)
  have hW := fOk_wide (s := s) (by omega)
  have hD := fOk_dotted s
  go_enter Try.func5, Try.ntmps5
  go_wp2_with fail
  refine (bytes14_any s _ _ (by unfold maxLen; omega)).mono ?_
  rintro e w' ⟨⟨r, rfl⟩, rfl⟩
  cases r
  · go_wp2
    go_ret
    exact ⟨rfl, Below.refl _ _⟩
  go_wp2_with fail
  refine (zzfile_any s _).mono ?_
  rintro e w1 ⟨rfl, b1⟩
  have B1 := hide b1
  clear b1
  go_wp2_with fail
  refine (letter_any s _ (by omega)).mono ?_
  rintro e w4 ⟨t, rfl, ht, ht2, b4⟩
  have B4 := hide b4
  clear b4
  go_wp2_with fail
  refine (zzfile_any t _).mono ?_
  rintro e w5 ⟨rfl, b5⟩
  have B5 := hide b5
  clear b5
  go_wp2_with fail
  refine (zzfile_any _ _).mono ?_
  rintro e w6 ⟨rfl, b6⟩
  have B6 := hide b6
  clear b6
  go_wp2
  go_ret
  exact ⟨rfl, nx_trans B1.out (nx_trans B4.out (nx_trans B5.out B6.out))⟩

set_option maxHeartbeats 1000000 in
set_option maxRecDepth 100000 in
theorem dot_early (s : ByteArray) (i : Int) (w : World) (hs : s.size ≤ maxLen) (h : 65536 < (s.size : Int) ∨ i < 0 ∨ (s.size : Int) < i) :
    Calls Try.prog 5 #[.string s, .int .i64 i] w fun e w' => e = .returned (.bool true) ∧ Below w.heap.size w w' := by
  have HS := hide hs
  unfold maxLen at hs
  by_cases h1 : 65536 < (s.size : Int)
  · clear h
    go_enter Try.func5, Try.ntmps5
    go_wp2_with fail
    refine (bytes14_any s _ _ HS.out).mono ?_
    rintro e w' ⟨⟨r, rfl⟩, rfl⟩
    cases r
    all_goals
      go_wp2
      go_ret
      exact ⟨rfl, Below.refl _ _⟩
  · have h2 : (s.size : Int) ≤ 65536 := by omega
    by_cases h3 : i < 0
    all_goals
      have h4 : i < 0 ∨ (s.size : Int) < i := by omega
      clear h
      go_enter Try.func5, Try.ntmps5
      go_wp2_with fail
      refine (bytes14_any s _ _ HS.out).mono ?_
      rintro e w' ⟨⟨r, rfl⟩, rfl⟩
      cases r
      all_goals
        go_wp2
        all_goals
          go_ret
          exact ⟨rfl, Below.refl _ _⟩

end Go.Proofs.Qxb6617338a
