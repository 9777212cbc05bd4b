import Derived.Test.Qxb6617338aFile
namespace Go.Proofs.Qxb6617338a
open Go.RowKit

theorem toList_empty_iff (s : ByteArray) : s.toList.isEmpty = decide (s.size = 0) := by
  rw [ByteArray.toList_eq]
  cases s with
  | mk d =>
    cases d with
    | mk l => cases l <;> rfl

/-- isFileName answers fOk. -/
theorem file_any (s : ByteArray) (w : World) : Calls Try.prog 20 #[.string s] w fun e w' => e = .returned (.bool (fOk s)) ∧ Below w.heap.size w w' := by
  by_cases h0 : 0 < s.size
  · have hE : s.toList.isEmpty = false := by rw [toList_empty_iff]; exact decide_eq_false (by omega)
    cases hd : (((s[0]'h0).toNat : Int) == 46)
    · by_cases hl : (s.size : Int) ≤ 255
      · exact file_loop s w h0 hE hd hl
      · refine (file_long s w h0 hE hd (by omega)).mono ?_
        rintro e w' ⟨rfl, rfl⟩
        exact ⟨by rw [show fOk s = false from fileOk_long (by have e2 : s.data.toList.length = s.size := by simp
                                                              omega)], Below.refl _ _⟩
    · refine (file_dot s w h0 hE hd).mono ?_
      rintro e w' ⟨rfl, rfl⟩
      have e : s.data.toList.headD 0 = s[0]'h0 := by
        rw [List.headD_eq_head?_getD, List.head?_eq_getElem?]
        simp
        rw [Array.getElem?_eq_getElem (show 0 < s.data.size from h0)]
        rfl
      have h46 : ((s[0]'h0).toNat : Int) = 46 := by simpa using hd
      exact ⟨by rw [show fOk s = false from fileOk_dot (by rw [e]; omega)], Below.refl _ _⟩
  · obtain rfl : s = ⟨#[]⟩ := by
      cases s with
      | mk d =>
        have : d = #[] := Array.eq_empty_of_size_eq_zero (by simpa [ByteArray.size] using h0)
        rw [this]
    refine (file_empty w).mono ?_
    rintro e w' ⟨rfl, rfl⟩
    exact ⟨rfl, Below.refl _ _⟩

/-- ZZisFileName passes on to isFileName. -/
theorem zzfile_any (s : ByteArray) (w : World) : Calls Try.prog 15 #[.string s] w fun e w' => e = .returned (.bool (fOk s)) ∧ Below w.heap.size w w' := by
  go_enter Try.func15, Try.ntmps15
  go_wp2_with fail
  refine (file_any s _).mono ?_
  rintro e w' ⟨rfl, hb⟩
  go_wp2
  go_ret
  exact ⟨rfl, hb⟩

theorem Try.info5 : (Try.prog.info? 5).map (fun i => (i.zero, i.size, i.bytes)) = some (some (.int .u8 0), 1, 1) := by kernel_rfl

/-- The first k numbers are small letters. -/
def Lett (xs : List Int) (k : Nat) : Prop := ∀ j, j < k → 97 ≤ xs.getD j 0 ∧ xs.getD j 0 ≤ 122

theorem Lett.set {xs : List Int} {k : Nat} {v : Int} (h : Lett xs k) (hk : k < xs.length) (hv : 97 ≤ v ∧ v ≤ 122) : Lett (xs.set k v) (k + 1) := by
  intro j hj
  simp only [List.getD, List.getElem?_set]
  by_cases e : k = j
  · subst e; simpa [hk] using hv
  · rw [if_neg e]; exact h j (by omega)

theorem fOk_lett {xs : List Int} (h0 : 0 < xs.length) (hl : xs.length ≤ 255) (h : Lett xs xs.length) : fOk (strOfNums xs) = true := by
  unfold fOk
  rw [strOfNums_data]
  have hm : ∀ x ∈ xs, 97 ≤ x ∧ x ≤ 122 := by
    intro x hx
    obtain ⟨j, hj⟩ := List.getElem?_of_mem hx
    have hj' := (List.getElem?_eq_some_iff.1 hj).1
    have := h j hj'
    simpa [List.getD, hj] using this
  have hb : ∀ x ∈ xs, (UInt8.ofNat x.toNat).toNat = x.toNat := by
    intro x hx
    have := hm x hx
    simp
    omega
  rw [fileOk_else]
  · rw [List.all_eq_true]
    intro b hb'
    obtain ⟨x, hx, rfl⟩ := List.mem_map.1 hb'
    have h1 := hm x hx
    have h2 := hb x hx
    unfold okc okn
    rw [h2]
    have e1 : decide (97 ≤ x.toNat) = true := decide_eq_true (by omega)
    have e2 : decide (x.toNat ≤ 122) = true := decide_eq_true (by omega)
    rw [e1, e2]
    rfl
  · cases xs with
    | nil => simp at h0
    | cons x xs => simp
  · cases xs with
    | nil => simp at h0
    | cons x xs =>
      have h1 := hm x (by simp)
      have h2 := hb x (by simp)
      simp only [List.map_cons, List.headD_cons]
      omega
  · simpa using hl

theorem letter_empty (s : ByteArray) (w : World) (h0 : s.size = 0) : Calls Try.prog 16 #[.string s] w fun e w' => ∃ t, e = .returned (.string t) ∧ fOk t = true ∧ t.size ≤ 255 ∧ Below w.heap.size w w' := by
  go_enter Try.func16, Try.ntmps16
  go_wp2
  go_ret
  exact ⟨_, rfl, by decide +kernel, by decide +kernel, Below.refl _ _⟩

set_option maxHeartbeats 1000000 in
set_option maxRecDepth 100000 in
theorem letter_short (s : ByteArray) (w : World) (h0 : 0 < s.size) (hl : (s.size : Int) ≤ 255) : Calls Try.prog 16 #[.string s] w fun e w' => ∃ t, e = .returned (.string t) ∧ fOk t = true ∧ t.size ≤ 255 ∧ Below w.heap.size w w' := by
  obtain ⟨i0, hi, hz0, hz1, hz2⟩ := info_parts Try.info5
  generalize hn : s.size = n at *
  have hne : ((n : Int) == 0) = false := beq_eq_false_iff_ne.2 (by omega)
  go_enter Try.func16, Try.ntmps16
  go_wp2_with (first
    | (at_make; refine wpList_make_full _ rfl _ _ 36 rfl w.heap.size 5 i0 (.int .u8 0) 1 Try.underlying36 hi hz0 hz1 _ _ _ _ n rfl rfl rfl rfl ?b2 ?b3 ?b4 ?_))
  case b2 => rw [hz2]; omega
  case b3 => unfold maxLen; omega
  case b4 => exact Nat.le_refl _
  intro w1 hown1 hgrow1
  have hbel1 : Below w.heap.size w w1 := (Below.refl _ w).grown hgrow1 (Nat.le_refl _) (by simp)
  clear hgrow1 hi hz0 hz1 hz2
  generalize hB : w.heap.size = B at *
  have HBB := hide hB
  have HNN := hide hn
  have hsn : n ≤ s.size := by omega
  clear hB hn
  have hown0 : w1.ownsRow B 5 1 (.slice (some ⟨B, 0, none⟩) n n) n ((List.replicate n (0 : Int)).map (Value.int .u8)) := by
    have e : (madeCells #[Value.int .u8 0] n).toList = (List.replicate n (0 : Int)).map (Value.int .u8) := by
      rw [List.map_replicate]
      exact toList_madeCells_one _ _
    rw [← e]
    exact hown1
  have H0 := hide hown0
  clear hown1 hown0
  go_wp2_with fail
  go_loopw [5] (fun i wr => ∃ (k : Nat) (xs : List Int), k ≤ n ∧ i = .int .i64 k ∧ xs.length = n ∧ wr.ownsRow B 5 1 (.slice (some ⟨B, 0, none⟩) n n) n (xs.map (Value.int .u8)) ∧ Lett xs k ∧ Below B w wr) (fun i _ => n - (intOf i).toNat)
  case atStart => exact ⟨0, List.replicate n 0, Nat.zero_le _, rfl, by simp, H0.out, fun j hj => by omega, hbel1⟩
  case round =>
    obtain ⟨k, xs, hk, rfl, hxl, hown, hlet, hbel⟩ := hrel
    clear H0 hbel1
    by_cases hlt : k < n
    · have hlts : k < s.size := by omega
      have hold : wr.cell? ⟨B, k, none⟩ = some (.int .u8 (xs.getD k 0)) := by
        rw [hown.cellAt k (by omega)]
        simp [List.getD, show k < xs.length by omega]
      have hfr := hown.frozenAt k
      have HO := hide hown
      have HL := hide hlet
      have HE := hide hbel
      clear hown hlet hbel
      go_wp2
      have hv : 97 ≤ 97 + ((s[k]'hlts).toNat : Int) % 26 ∧ 97 + ((s[k]'hlts).toNat : Int) % 26 ≤ 122 := by omega
      have hst := HO.out.stored k (.int .u8 (97 + ((s[k]'hlts).toNat : Int) % 26))
      rw [show (xs.map (Value.int .u8)).set k (.int .u8 (97 + ((s[k]'hlts).toNat : Int) % 26)) = (xs.set k (97 + ((s[k]'hlts).toNat : Int) % 26)).map (Value.int .u8) from List.map_set.symm] at hst
      go_roundw
      case rel => exact ⟨k + 1, xs.set k (97 + ((s[k]'hlts).toNat : Int) % 26), by omega, by go_num, by simpa using hxl, hst.1, HL.out.set (by omega) hv, HE.out.setCell (Nat.le_refl _) _⟩
      case measure => simp [intOf]; omega
    · obtain rfl : k = n := by omega
      have hcell : ∀ i, i < k → wr.cell? ⟨B, 0 + i, none⟩ = some (.int .u8 (xs.getD i 0)) := fun i hi => by
        rw [Nat.zero_add, hown.cellAt i (by omega)]
        simp [List.getD, show i < xs.length by omega]
      have kc := run_convert_bytes_arg (P := Try.prog) wr 36 5 Try.underlying36 Try.underlying5 B 0 k k xs hxl hcell 9 Try.underlying9
      have HF := hide (fOk_lett (xs := xs) (by omega) (by omega) (by rw [hxl]; exact hlet))
      have HS := hide (show (strOfNums xs).size ≤ 255 by rw [strOfNums_size]; omega)
      have HE := hide hbel
      clear hcell hown hlet hbel
      go_wp2
      go_ret
      exact ⟨_, rfl, HF.out, HS.out, by rw [HBB.out]; exact HE.out⟩

set_option maxHeartbeats 1000000 in
set_option maxRecDepth 100000 in
theorem letter_long (s : ByteArray) (w : World) (hl : (255 : Int) < (s.size : Int)) (hm : s.size ≤ 1048576) : Calls Try.prog 16 #[.string s] w fun e w' => ∃ t, e = .returned (.string t) ∧ fOk t = true ∧ t.size ≤ 255 ∧ Below w.heap.size w w' := by
  obtain ⟨i0, hi, hz0, hz1, hz2⟩ := info_parts Try.info5
  go_enter Try.func16, Try.ntmps16
  go_wp2_with (first
    | (at_make; refine wpList_make_full _ rfl _ _ 36 rfl w.heap.size 5 i0 (.int .u8 0) 1 Try.underlying36 hi hz0 hz1 _ _ _ _ 255 rfl rfl rfl rfl ?b2 ?b3 ?b4 ?_))
  case b2 => rw [hz2]; omega
  case b3 => unfold maxLen; omega
  case b4 => exact Nat.le_refl _
  intro w1 hown1 hgrow1
  have hbel1 : Below w.heap.size w w1 := (Below.refl _ w).grown hgrow1 (Nat.le_refl _) (by simp)
  clear hgrow1 hi hz0 hz1 hz2
  generalize hB : w.heap.size = B at *
  have HBB := hide hB
  clear hB
  have hown0 : w1.ownsRow B 5 1 (.slice (some ⟨B, 0, none⟩) 255 255) 255 ((List.replicate 255 (0 : Int)).map (Value.int .u8)) := by
    have e : (madeCells #[Value.int .u8 0] 255).toList = (List.replicate 255 (0 : Int)).map (Value.int .u8) := by
      rw [List.map_replicate]
      exact toList_madeCells_one _ _
    rw [← e]
    exact hown1
  have H0 := hide hown0
  clear hown1 hown0
  go_wp2_with fail
  go_loopw [5] (fun i wr => ∃ (k : Nat) (xs : List Int), k ≤ 255 ∧ i = .int .i64 k ∧ xs.length = 255 ∧ wr.ownsRow B 5 1 (.slice (some ⟨B, 0, none⟩) 255 255) 255 (xs.map (Value.int .u8)) ∧ Lett xs k ∧ Below B w wr) (fun i _ => 255 - (intOf i).toNat)
  case atStart => exact ⟨0, List.replicate 255 0, Nat.zero_le _, rfl, by simp, H0.out, fun j hj => by omega, hbel1⟩
  case round =>
    obtain ⟨k, xs, hk, rfl, hxl, hown, hlet, hbel⟩ := hrel
    clear H0 hbel1
    by_cases hlt : k < 255
    · have hlts : k < s.size := by omega
      have hold : wr.cell? ⟨B, k, none⟩ = some (.int .u8 (xs.getD k 0)) := by
        rw [hown.cellAt k (by omega)]
        simp [List.getD, show k < xs.length by omega]
      have hfr := hown.frozenAt k
      have HO := hide hown
      have HL := hide hlet
      have HE := hide hbel
      clear hown hlet hbel
      go_wp2
      have hv : 97 ≤ 97 + ((s[k]'hlts).toNat : Int) % 26 ∧ 97 + ((s[k]'hlts).toNat : Int) % 26 ≤ 122 := by omega
      have hst := HO.out.stored k (.int .u8 (97 + ((s[k]'hlts).toNat : Int) % 26))
      rw [show (xs.map (Value.int .u8)).set k (.int .u8 (97 + ((s[k]'hlts).toNat : Int) % 26)) = (xs.set k (97 + ((s[k]'hlts).toNat : Int) % 26)).map (Value.int .u8) from List.map_set.symm] at hst
      go_roundw
      case rel => exact ⟨k + 1, xs.set k (97 + ((s[k]'hlts).toNat : Int) % 26), by omega, by go_num, by simpa using hxl, hst.1, HL.out.set (by omega) hv, HE.out.setCell (Nat.le_refl _) _⟩
      case measure => simp [intOf]; omega
    · obtain rfl : k = 255 := by omega
      have hcell : ∀ i, i < 255 → wr.cell? ⟨B, 0 + i, none⟩ = some (.int .u8 (xs.getD i 0)) := fun i hi => by
        rw [Nat.zero_add, hown.cellAt i (by omega)]
        simp [List.getD, show i < xs.length by omega]
      have kc := run_convert_bytes_arg (P := Try.prog) wr 36 5 Try.underlying36 Try.underlying5 B 0 255 255 xs hxl hcell 9 Try.underlying9
      have HF := hide (fOk_lett (xs := xs) (by omega) (by omega) (by rw [hxl]; exact hlet))
      have HS := hide (show (strOfNums xs).size ≤ 255 by rw [strOfNums_size]; omega)
      have HE := hide hbel
      clear hcell hown hlet hbel
      go_wp2
      go_ret
      exact ⟨_, rfl, HF.out, HS.out, by rw [HBB.out]; exact HE.out⟩

/-- letterName gives a file's name. -/
theorem letter_any (s : ByteArray) (w : World) (hm : s.size ≤ 1048576) : Calls Try.prog 16 #[.string s] w fun e w' => ∃ t, e = .returned (.string t) ∧ fOk t = true ∧ t.size ≤ 255 ∧ Below w.heap.size w w' := by
  by_cases h0 : 0 < s.size
  · by_cases hl : (s.size : Int) ≤ 255
    · exact letter_short s w h0 hl
    · exact letter_long s w (by omega) hm
  · exact letter_empty s w (by omega)

end Go.Proofs.Qxb6617338a
