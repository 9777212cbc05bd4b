import Derived.Test.Qxb6617338aNums
namespace Go.Proofs.Qxb6617338a

/-- A string of digits, not empty. -/
def digs (s : ByteArray) : Prop := 0 < s.size ∧ ∀ b ∈ s.data.toList, 48 ≤ b.toNat ∧ b.toNat ≤ 57

theorem byte_getD (s : ByteArray) (k : Nat) (h : k < s.size) : s[k]'h = s.data.toList.getD k 0 := by
  show s.data[k] = _
  simp only [List.getD, Array.getElem?_toList]
  rw [Array.getElem?_eq_getElem (show k < s.data.size from h)]
  rfl

/-- A byte behind a place in a text. -/
theorem byte_at {t : ByteArray} {pos : Nat} {l : List UInt8} (h : t.data.toList.drop pos = l) (e : Nat) (he : pos ≤ e) (hl : e - pos < l.length) : ∃ hlt : e < t.size, t[e]'hlt = l.getD (e - pos) 0 := by
  have hlen : l.length = t.size - pos := by rw [← h, List.length_drop, len_bytes]
  have hlt : e < t.size := by omega
  refine ⟨hlt, ?_⟩
  rw [byte_getD t e hlt, ← h]
  simp only [List.getD, List.getElem?_drop]
  rw [show pos + (e - pos) = e by omega]

theorem getD_mem {l : List UInt8} {k : Nat} (h : k < l.length) : l.getD k 0 ∈ l := by
  simp [List.getD, h]

theorem item_byte {r : Rg} (h1 : digs r.first) (h2 : digs r.last) : ∀ b ∈ r.item, b.toNat = 45 ∨ (48 ≤ b.toNat ∧ b.toNat ≤ 57) := by
  intro b hb
  unfold Rg.item at hb
  rw [List.mem_append] at hb
  rcases hb with hb | hb
  · exact .inr (h1.2 b hb)
  · split at hb
    · rcases List.mem_cons.1 hb with rfl | hb
      · exact .inl rfl
      · exact .inr (h2.2 b hb)
    · simp at hb

theorem num_drop (rs : List Rg) (i : Nat) (h : i < rs.length) : numT (rs.drop i) = (rs.getD i Rg.none).item ++ sep (rs.drop (i + 1)) := by
  rw [List.drop_eq_getElem_cons h]
  simp only [numT, List.getD, List.getElem?_eq_getElem h, Option.getD_some]

theorem sep_last (rs : List Rg) (i : Nat) (h : rs.length ≤ i) : sep (rs.drop i) = [] := by
  rw [List.drop_eq_nil_of_le h]
  rfl
theorem sep_more (rs : List Rg) (i : Nat) (h : i < rs.length) : sep (rs.drop i) = 44 :: 32 :: numT (rs.drop i) := by
  rw [List.drop_eq_getElem_cons h]
  rfl

/-- What the scan for a comma meets. -/
theorem scan_in {t : ByteArray} {pos : Nat} {r : Rg} {rest : List UInt8} (h : t.data.toList.drop pos = r.item ++ rest) (h1 : digs r.first) (h2 : digs r.last) (e : Nat) (he : pos ≤ e) (hl : e < pos + r.item.length) :
    ∃ hlt : e < t.size, (((t[e]'hlt).toNat : Int) != 44) = true := by
  obtain ⟨hlt, hb⟩ := byte_at h e he (by rw [List.length_append]; omega)
  refine ⟨hlt, ?_⟩
  have hm : t[e]'hlt ∈ r.item := by
    rw [hb]
    simp only [List.getD]
    rw [List.getElem?_append_left (by omega), List.getElem?_eq_getElem (by omega)]
    exact List.getElem_mem _
  have := item_byte h1 h2 _ hm
  rw [bne_iff_ne]
  omega

theorem scan_stop {t : ByteArray} {pos : Nat} {l rest : List UInt8} (h : t.data.toList.drop pos = l ++ 44 :: 32 :: rest) :
    ∃ (h1 : pos + l.length < t.size) (h2 : pos + l.length + 1 < t.size), (((t[pos + l.length]'h1).toNat : Int) != 44) = false ∧ (((t[pos + l.length + 1]'h2).toNat : Int) != 32) = false ∧ t.data.toList.drop (pos + l.length + 2) = rest := by
  obtain ⟨h1, b1⟩ := byte_at h (pos + l.length) (by omega) (by rw [List.length_append, List.length_cons]; omega)
  obtain ⟨h2, b2⟩ := byte_at h (pos + l.length + 1) (by omega) (by rw [List.length_append, List.length_cons, List.length_cons]; omega)
  refine ⟨h1, h2, ?_, ?_, ?_⟩
  · rw [b1, show pos + l.length - pos = l.length by omega]
    simp [List.getD]
  · rw [b2, show pos + l.length + 1 - pos = l.length + 1 by omega]
    simp [List.getD]
  · rw [show pos + l.length + 2 = pos + (l.length + 2) by omega, ← List.drop_drop, h]
    rw [List.drop_append, List.drop_eq_nil_of_le (by omega), show l.length + 2 - l.length = 2 by omega]
    rfl

theorem piece_data {t : ByteArray} {pos : Nat} {l rest : List UInt8} (h : t.data.toList.drop pos = l ++ rest) : (t.extract pos (pos + l.length)).data.toList = l := by
  rw [Lib.extract_data, h, show pos + l.length - pos = l.length by omega]
  simp

theorem size_of_data {s : ByteArray} {l : List UInt8} (h : s.data.toList = l) : s.size = l.length := by
  rw [← h, len_bytes]

theorem beq_data {s t : ByteArray} (h : s.data.toList = t.data.toList) : (s.toList == t.toList) = true := by
  rw [ByteArray.toList_eq, ByteArray.toList_eq, h]
  simp

/-- A piece of two numbers. -/
theorem piece_two {p : ByteArray} {r : Rg} (h : p.data.toList = r.item) (ht : r.two = true) (h1 : digs r.first) :
    r.first.size < p.size ∧ (∀ d, (hd : d < r.first.size) → ∃ hlt : d < p.size, (((p[d]'hlt).toNat : Int) == 45) = false) ∧ (∃ hlt : r.first.size < p.size, (((p[r.first.size]'hlt).toNat : Int) == 45) = true) ∧
      ((p.extract 0 r.first.size).toList == r.first.toList) = true ∧ ((p.extract (r.first.size + 1) p.size).toList == r.last.toList) = true := by
  have hi : r.item = r.first.data.toList ++ 45 :: r.last.data.toList := by unfold Rg.item; rw [ht, if_pos rfl]
  rw [hi] at h
  have hs : p.size = r.first.size + 1 + r.last.size := by
    rw [size_of_data h, List.length_append, List.length_cons, len_bytes, len_bytes]
    omega
  have hlt : r.first.size < p.size := by omega
  refine ⟨hlt, fun d hd => ⟨by omega, ?_⟩, ⟨hlt, ?_⟩, beq_data ?_, beq_data ?_⟩
  · have hb := byte_getD p d (by omega)
    rw [h] at hb
    have hm : (p[d]'(by omega)) ∈ r.first.data.toList := by
      rw [hb]
      simp only [List.getD]
      rw [List.getElem?_append_left (by rw [len_bytes]; exact hd), List.getElem?_eq_getElem (by rw [len_bytes]; exact hd)]
      exact List.getElem_mem _
    have := h1.2 _ hm
    rw [beq_eq_false_iff_ne]
    omega
  · have hb := byte_getD p r.first.size hlt
    rw [h] at hb
    rw [hb]
    have e : (r.first.data.toList ++ 45 :: r.last.data.toList).getD r.first.size 0 = 45 := by
      simp only [List.getD]
      rw [List.getElem?_append_right (by rw [len_bytes]; exact Nat.le_refl _), len_bytes, Nat.sub_self]
      rfl
    rw [e]
    rfl
  · rw [Lib.extract_data, h, List.drop_zero, Nat.sub_zero]
    rw [List.take_append_of_le_length (by rw [len_bytes]; exact Nat.le_refl _), List.take_of_length_le (by rw [len_bytes]; exact Nat.le_refl _)]
  · rw [Lib.extract_data, h]
    have e : (r.first.data.toList ++ 45 :: r.last.data.toList).drop (r.first.size + 1) = r.last.data.toList := by
      rw [← len_bytes r.first, List.drop_append]
      simp
    rw [e, List.take_of_length_le (by rw [len_bytes]; omega)]

/-- A piece of one number. -/
theorem piece_one {p : ByteArray} {r : Rg} (h : p.data.toList = r.item) (ht : r.two = false) (h1 : digs r.first) :
    (∀ d, (hd : d < p.size) → (((p[d]'hd).toNat : Int) == 45) = false) ∧ (p.toList == r.first.toList) = true ∧ (p.toList == r.last.toList) = true := by
  have hi : r.item = r.first.data.toList := by unfold Rg.item; rw [ht]; simp
  rw [hi] at h
  refine ⟨fun d hd => ?_, beq_data h, ?_⟩
  · have hb := byte_getD p d hd
    rw [h] at hb
    have hd' : d < r.first.data.toList.length := by rw [← h, len_bytes]; exact hd
    have hm : (p[d]'hd) ∈ r.first.data.toList := by
      rw [hb]
      exact getD_mem hd'
    have := h1.2 _ hm
    rw [beq_eq_false_iff_ne]
    omega
  · have e : r.last.toList = r.first.toList := by
      unfold Rg.two at ht
      simpa using ht
    rw [e]
    exact beq_data h

end Go.Proofs.Qxb6617338a
