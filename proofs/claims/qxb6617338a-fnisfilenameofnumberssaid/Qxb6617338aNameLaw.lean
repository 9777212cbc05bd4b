import Derived.Test.Qxb6617338aLetter
import Derived.Test.Qxb6617338aDigits
import Derived.Test.Qxb6617338aJoinLaw
namespace Go.Proofs.Qxb6617338a
open Go.RowKit

/-! The plain law: what numbers writes of ranges of digits is a file's name just where there is one range, and it is short. -/
theorem okc_item {b : UInt8} (h : b.toNat = 45 ∨ (48 ≤ b.toNat ∧ b.toNat ≤ 57)) : okc b = true := by
  unfold okc okn
  rcases h with h | ⟨h1, h2⟩
  · rw [h]; rfl
  · have e1 : decide (48 ≤ b.toNat) = true := decide_eq_true h1
    have e2 : decide (b.toNat ≤ 57) = true := decide_eq_true h2
    rw [e1, e2]
    simp

theorem name_none {t : ByteArray} (h : t.data.toList = numT []) : fOk t = false := by
  unfold fOk
  rw [h]
  rfl

theorem name_many {t : ByteArray} {rs : List Rg} (h : t.data.toList = numT rs) (hn : 2 ≤ rs.length) : fOk t = false := by
  unfold fOk
  rw [h]
  match rs, hn with
  | x :: y :: rs, _ =>
    have hm : (44 : UInt8) ∈ numT (x :: y :: rs) := by
      show 44 ∈ x.item ++ sep (y :: rs)
      rw [List.mem_append]
      exact .inr (by simp [sep])
    have ha : (numT (x :: y :: rs)).all okc = false := by
      rw [List.all_eq_false]
      exact ⟨44, hm, by decide⟩
    unfold fileOk
    rw [ha]
    simp

theorem name_one {t : ByteArray} {r : Rg} (h : t.data.toList = r.item) (h1 : digs r.first) (h2 : digs r.last) : fOk t = decide (r.item.length ≤ 255) := by
  unfold fOk
  rw [h]
  have hb := item_byte h1 h2
  have h0 : 0 < r.item.length := by
    unfold Rg.item
    rw [List.length_append, len_bytes]
    have := h1.1
    omega
  by_cases hl : r.item.length ≤ 255
  · rw [fileOk_else]
    · rw [decide_eq_true hl, List.all_eq_true]
      exact fun b hbm => okc_item (hb b hbm)
    · intro e
      rw [e] at h0
      simp at h0
    · have hm : r.item.headD 0 ∈ r.item := by
        cases hi : r.item with
        | nil => rw [hi] at h0; simp at h0
        | cons x l => simp
      have := hb _ hm
      omega
    · exact hl
  · rw [fileOk_long (by omega), decide_eq_false hl]

theorem item_len_one {r : Rg} (h : r.two = false) : r.item.length = r.first.size := by
  unfold Rg.item
  rw [h]
  simp
theorem item_len_two {r : Rg} (h : r.two = true) : r.item.length = r.first.size + 1 + r.last.size := by
  unfold Rg.item
  rw [h, if_pos rfl, List.length_append, List.length_cons, len_bytes, len_bytes]
  omega

set_option maxHeartbeats 1000000 in
set_option maxRecDepth 100000 in
/-- No range, or more than one. -/
theorem name_not_one (v : Value) (rs : List Rg) (w : World) (hr : RL w v rs) (h1 : rs.length ≠ 1) :
    Calls Try.prog 6 #[v] w fun e w' => e = .returned (.bool true) ∧ Below w.heap.size w w' := by
  obtain ⟨a, c, rfl, _, hcc, hcm⟩ := hr.len
  have hn1 : ((rs.length : Int) == 1) = false := beq_eq_false_iff_ne.2 (by omega)
  unfold maxLen at hcm
  have HR := hidden hr
  clear hr
  go_enter Try.func6, Try.ntmps6
  go_wp2_with fail
  refine (bytes17_any _ rs _ HR.out).mono ?_
  rintro e w' ⟨⟨r0, rfl⟩, rfl⟩
  cases r0
  · go_wp2
    go_ret
    exact ⟨rfl, Below.refl _ _⟩
  go_wp2_with fail
  refine (fit_any _ rs _ HR.out).mono ?_
  rintro e w' ⟨⟨r0, rfl, hfit⟩, rfl⟩
  cases r0
  · go_wp2
    go_ret
    exact ⟨rfl, Below.refl _ _⟩
  obtain ⟨hl, hs⟩ := hfit rfl
  have HL := hidden hl
  have HS := hidden hs
  clear hfit hl hs
  go_wp2_with fail
  refine (alldig_any _ rs _ HR.out HL.out HS.out).mono ?_
  rintro e w' ⟨⟨r0, rfl, hdig⟩, rfl⟩
  cases r0
  · go_wp2
    go_ret
    exact ⟨rfl, Below.refl _ _⟩
  have HD := hidden (hdig rfl)
  clear hdig
  go_wp2_with fail
  refine (to_any _ rs _ HR.out HL.out).mono ?_
  rintro e w1 ⟨g1, rfl, r1, b1⟩
  have R1 := hidden r1
  have B1 := hidden b1
  clear r1 b1
  go_wp2_with fail
  refine (text_any _ rs _ R1.out HL.out HS.out).mono ?_
  rintro e w2 ⟨t, rfl, ht, hts, b2⟩
  have T2 := hidden ht
  have B2 := hidden b2
  clear ht b2
  have hF : fOk t = false := by
    by_cases h2 : 2 ≤ rs.length
    · exact name_many T2.out h2
    · have e : rs = [] := List.eq_nil_of_length_eq_zero (by omega)
      have h3 := T2.out
      rw [e] at h3
      exact name_none h3
  go_wp2_with fail
  refine (zzfile_any t _).mono ?_
  rintro e w3 ⟨rfl, b3⟩
  have B3 := hidden (nx_tr B1.out (nx_tr B2.out b3))
  clear b3
  go_wp2
  go_ret
  exact ⟨rfl, B3.out⟩

set_option maxHeartbeats 1000000 in
set_option maxRecDepth 100000 in
/-- One number, short. -/
theorem name_one_short (b off cap : Nat) (r : Rg) (w : World) (hr : RL w (.slice (some ⟨b, off, none⟩) 1 cap) [r]) (htw : (r.last.toList == r.first.toList) = true) (hlen : (r.first.size) ≤ 255) :
    Calls Try.prog 6 #[.slice (some ⟨b, off, none⟩) 1 cap] w fun e w' => e = .returned (.bool true) ∧ Below w.heap.size w w' := by
  have hat := hr.place (i := 0) (by omega)
  have hat2 : RgAt w b off r := by simpa using hat
  have HAT := hidden hat2
  clear hat hat2
  have HR := hidden hr
  clear hr
  go_enter Try.func6, Try.ntmps6
  go_wp2_with fail
  refine (bytes17_any _ [r] _ HR.out).mono ?_
  rintro e w' ⟨⟨r0, rfl⟩, rfl⟩
  cases r0
  · go_wp2
    go_ret
    exact ⟨rfl, Below.refl _ _⟩
  go_wp2_with fail
  refine (fit_any _ [r] _ HR.out).mono ?_
  rintro e w' ⟨⟨r0, rfl, hfit⟩, rfl⟩
  cases r0
  · go_wp2
    go_ret
    exact ⟨rfl, Below.refl _ _⟩
  obtain ⟨hl, hs⟩ := hfit rfl
  have HL := hidden hl
  have HS := hidden hs
  clear hfit hl hs
  go_wp2_with fail
  refine (alldig_any _ [r] _ HR.out HL.out HS.out).mono ?_
  rintro e w' ⟨⟨r0, rfl, hdig⟩, rfl⟩
  cases r0
  · go_wp2
    go_ret
    exact ⟨rfl, Below.refl _ _⟩
  have HD := hidden (hdig rfl)
  clear hdig
  go_wp2_with fail
  refine (to_any _ [r] _ HR.out HL.out).mono ?_
  rintro e w1 ⟨g1, rfl, r1, b1⟩
  have R1 := hidden r1
  have B1 := hidden b1
  clear r1 b1
  go_wp2_with fail
  refine (text_any _ [r] _ R1.out HL.out HS.out).mono ?_
  rintro e w2 ⟨t, rfl, ht, hts, b2⟩
  have T2 := hidden ht
  have B2 := hidden b2
  clear ht b2
  obtain ⟨d1, d2⟩ := HD.out 0 (by simp)
  have hF : fOk t = true := by
    have h3 := T2.out
    rw [numT_one] at h3
    rw [name_one (r := r) h3 (by simpa using d1) (by simpa using d2), item_len_one (by unfold Rg.two; rw [htw]; rfl)]
    exact decide_eq_true (by omega)
  have HB2 := hidden (nx_tr B1.out B2.out)
  obtain ⟨_, c1, c2⟩ := HAT.out.later HB2.out
  have hsz := HS.out
  simp only [sumLen] at hsz
  have hz1 : r.first.size ≤ 1048576 := by omega
  have hz2 : r.last.size ≤ 1048576 := by omega
  clear d1 d2 hsz HAT
  have hq0 : (0 : Int) < 1 := by omega
  have hdl : decide ((r.first.size : Int) ≤ 255) = true := decide_eq_true (by omega)
  go_wp2_with fail
  go_quiet (fail)
  go_wp2_with fail
  refine (zzfile_any t _).mono ?_
  rintro e w3 ⟨rfl, b3⟩
  have B3 := hidden (nx_tr HB2.out (nx_tr (nx_dr _ _) b3))
  clear b3
  go_wp2
  go_ret
  exact ⟨rfl, B3.out⟩

set_option maxHeartbeats 1000000 in
set_option maxRecDepth 100000 in
/-- One number, long. -/
theorem name_one_long (b off cap : Nat) (r : Rg) (w : World) (hr : RL w (.slice (some ⟨b, off, none⟩) 1 cap) [r]) (htw : (r.last.toList == r.first.toList) = true) (hlen : 255 < r.first.size) :
    Calls Try.prog 6 #[.slice (some ⟨b, off, none⟩) 1 cap] w fun e w' => e = .returned (.bool true) ∧ Below w.heap.size w w' := by
  have hat := hr.place (i := 0) (by omega)
  have hat2 : RgAt w b off r := by simpa using hat
  have HAT := hidden hat2
  clear hat hat2
  have HR := hidden hr
  clear hr
  go_enter Try.func6, Try.ntmps6
  go_wp2_with fail
  refine (bytes17_any _ [r] _ HR.out).mono ?_
  rintro e w' ⟨⟨r0, rfl⟩, rfl⟩
  cases r0
  · go_wp2
    go_ret
    exact ⟨rfl, Below.refl _ _⟩
  go_wp2_with fail
  refine (fit_any _ [r] _ HR.out).mono ?_
  rintro e w' ⟨⟨r0, rfl, hfit⟩, rfl⟩
  cases r0
  · go_wp2
    go_ret
    exact ⟨rfl, Below.refl _ _⟩
  obtain ⟨hl, hs⟩ := hfit rfl
  have HL := hidden hl
  have HS := hidden hs
  clear hfit hl hs
  go_wp2_with fail
  refine (alldig_any _ [r] _ HR.out HL.out HS.out).mono ?_
  rintro e w' ⟨⟨r0, rfl, hdig⟩, rfl⟩
  cases r0
  · go_wp2
    go_ret
    exact ⟨rfl, Below.refl _ _⟩
  have HD := hidden (hdig rfl)
  clear hdig
  go_wp2_with fail
  refine (to_any _ [r] _ HR.out HL.out).mono ?_
  rintro e w1 ⟨g1, rfl, r1, b1⟩
  have R1 := hidden r1
  have B1 := hidden b1
  clear r1 b1
  go_wp2_with fail
  refine (text_any _ [r] _ R1.out HL.out HS.out).mono ?_
  rintro e w2 ⟨t, rfl, ht, hts, b2⟩
  have T2 := hidden ht
  have B2 := hidden b2
  clear ht b2
  obtain ⟨d1, d2⟩ := HD.out 0 (by simp)
  have hF : fOk t = false := by
    have h3 := T2.out
    rw [numT_one] at h3
    rw [name_one (r := r) h3 (by simpa using d1) (by simpa using d2), item_len_one (by unfold Rg.two; rw [htw]; rfl)]
    exact decide_eq_false (by omega)
  have HB2 := hidden (nx_tr B1.out B2.out)
  obtain ⟨_, c1, c2⟩ := HAT.out.later HB2.out
  have hsz := HS.out
  simp only [sumLen] at hsz
  have hz1 : r.first.size ≤ 1048576 := by omega
  have hz2 : r.last.size ≤ 1048576 := by omega
  clear d1 d2 hsz HAT
  have hq0 : (0 : Int) < 1 := by omega
  have hdl : decide ((r.first.size : Int) ≤ 255) = false := decide_eq_false (by omega)
  go_wp2_with fail
  go_quiet (fail)
  go_wp2_with fail
  refine (zzfile_any t _).mono ?_
  rintro e w3 ⟨rfl, b3⟩
  have B3 := hidden (nx_tr HB2.out (nx_tr (nx_dr _ _) b3))
  clear b3
  go_wp2
  go_ret
  exact ⟨rfl, B3.out⟩

set_option maxHeartbeats 1000000 in
set_option maxRecDepth 100000 in
/-- Two numbers, short. -/
theorem name_two_short (b off cap : Nat) (r : Rg) (w : World) (hr : RL w (.slice (some ⟨b, off, none⟩) 1 cap) [r]) (htw : (r.last.toList == r.first.toList) = false) (hlen : (r.first.size + 1 + r.last.size) ≤ 255) :
    Calls Try.prog 6 #[.slice (some ⟨b, off, none⟩) 1 cap] w fun e w' => e = .returned (.bool true) ∧ Below w.heap.size w w' := by
  have hat := hr.place (i := 0) (by omega)
  have hat2 : RgAt w b off r := by simpa using hat
  have HAT := hidden hat2
  clear hat hat2
  have HR := hidden hr
  clear hr
  go_enter Try.func6, Try.ntmps6
  go_wp2_with fail
  refine (bytes17_any _ [r] _ HR.out).mono ?_
  rintro e w' ⟨⟨r0, rfl⟩, rfl⟩
  cases r0
  · go_wp2
    go_ret
    exact ⟨rfl, Below.refl _ _⟩
  go_wp2_with fail
  refine (fit_any _ [r] _ HR.out).mono ?_
  rintro e w' ⟨⟨r0, rfl, hfit⟩, rfl⟩
  cases r0
  · go_wp2
    go_ret
    exact ⟨rfl, Below.refl _ _⟩
  obtain ⟨hl, hs⟩ := hfit rfl
  have HL := hidden hl
  have HS := hidden hs
  clear hfit hl hs
  go_wp2_with fail
  refine (alldig_any _ [r] _ HR.out HL.out HS.out).mono ?_
  rintro e w' ⟨⟨r0, rfl, hdig⟩, rfl⟩
  cases r0
  · go_wp2
    go_ret
    exact ⟨rfl, Below.refl _ _⟩
  have HD := hidden (hdig rfl)
  clear hdig
  go_wp2_with fail
  refine (to_any _ [r] _ HR.out HL.out).mono ?_
  rintro e w1 ⟨g1, rfl, r1, b1⟩
  have R1 := hidden r1
  have B1 := hidden b1
  clear r1 b1
  go_wp2_with fail
  refine (text_any _ [r] _ R1.out HL.out HS.out).mono ?_
  rintro e w2 ⟨t, rfl, ht, hts, b2⟩
  have T2 := hidden ht
  have B2 := hidden b2
  clear ht b2
  obtain ⟨d1, d2⟩ := HD.out 0 (by simp)
  have hF : fOk t = true := by
    have h3 := T2.out
    rw [numT_one] at h3
    rw [name_one (r := r) h3 (by simpa using d1) (by simpa using d2), item_len_two (by unfold Rg.two; rw [htw]; rfl)]
    exact decide_eq_true (by omega)
  have HB2 := hidden (nx_tr B1.out B2.out)
  obtain ⟨_, c1, c2⟩ := HAT.out.later HB2.out
  have hsz := HS.out
  simp only [sumLen] at hsz
  have hz1 : r.first.size ≤ 1048576 := by omega
  have hz2 : r.last.size ≤ 1048576 := by omega
  clear d1 d2 hsz HAT
  have hq0 : (0 : Int) < 1 := by omega
  have hdl : decide ((r.first.size : Int) + 1 + (r.last.size : Int) ≤ 255) = true := decide_eq_true (by omega)
  go_wp2_with fail
  go_quiet (fail)
  go_wp2_with fail
  refine (zzfile_any t _).mono ?_
  rintro e w3 ⟨rfl, b3⟩
  have B3 := hidden (nx_tr HB2.out (nx_tr (nx_dr _ _) b3))
  clear b3
  go_wp2
  go_ret
  exact ⟨rfl, B3.out⟩

set_option maxHeartbeats 1000000 in
set_option maxRecDepth 100000 in
/-- Two numbers, long. -/
theorem name_two_long (b off cap : Nat) (r : Rg) (w : World) (hr : RL w (.slice (some ⟨b, off, none⟩) 1 cap) [r]) (htw : (r.last.toList == r.first.toList) = false) (hlen : 255 < r.first.size + 1 + r.last.size) :
    Calls Try.prog 6 #[.slice (some ⟨b, off, none⟩) 1 cap] w fun e w' => e = .returned (.bool true) ∧ Below w.heap.size w w' := by
  have hat := hr.place (i := 0) (by omega)
  have hat2 : RgAt w b off r := by simpa using hat
  have HAT := hidden hat2
  clear hat hat2
  have HR := hidden hr
  clear hr
  go_enter Try.func6, Try.ntmps6
  go_wp2_with fail
  refine (bytes17_any _ [r] _ HR.out).mono ?_
  rintro e w' ⟨⟨r0, rfl⟩, rfl⟩
  cases r0
  · go_wp2
    go_ret
    exact ⟨rfl, Below.refl _ _⟩
  go_wp2_with fail
  refine (fit_any _ [r] _ HR.out).mono ?_
  rintro e w' ⟨⟨r0, rfl, hfit⟩, rfl⟩
  cases r0
  · go_wp2
    go_ret
    exact ⟨rfl, Below.refl _ _⟩
  obtain ⟨hl, hs⟩ := hfit rfl
  have HL := hidden hl
  have HS := hidden hs
  clear hfit hl hs
  go_wp2_with fail
  refine (alldig_any _ [r] _ HR.out HL.out HS.out).mono ?_
  rintro e w' ⟨⟨r0, rfl, hdig⟩, rfl⟩
  cases r0
  · go_wp2
    go_ret
    exact ⟨rfl, Below.refl _ _⟩
  have HD := hidden (hdig rfl)
  clear hdig
  go_wp2_with fail
  refine (to_any _ [r] _ HR.out HL.out).mono ?_
  rintro e w1 ⟨g1, rfl, r1, b1⟩
  have R1 := hidden r1
  have B1 := hidden b1
  clear r1 b1
  go_wp2_with fail
  refine (text_any _ [r] _ R1.out HL.out HS.out).mono ?_
  rintro e w2 ⟨t, rfl, ht, hts, b2⟩
  have T2 := hidden ht
  have B2 := hidden b2
  clear ht b2
  obtain ⟨d1, d2⟩ := HD.out 0 (by simp)
  have hF : fOk t = false := by
    have h3 := T2.out
    rw [numT_one] at h3
    rw [name_one (r := r) h3 (by simpa using d1) (by simpa using d2), item_len_two (by unfold Rg.two; rw [htw]; rfl)]
    exact decide_eq_false (by omega)
  have HB2 := hidden (nx_tr B1.out B2.out)
  obtain ⟨_, c1, c2⟩ := HAT.out.later HB2.out
  have hsz := HS.out
  simp only [sumLen] at hsz
  have hz1 : r.first.size ≤ 1048576 := by omega
  have hz2 : r.last.size ≤ 1048576 := by omega
  clear d1 d2 hsz HAT
  have hq0 : (0 : Int) < 1 := by omega
  have hdl : decide ((r.first.size : Int) + 1 + (r.last.size : Int) ≤ 255) = false := decide_eq_false (by omega)
  go_wp2_with fail
  go_quiet (fail)
  go_wp2_with fail
  refine (zzfile_any t _).mono ?_
  rintro e w3 ⟨rfl, b3⟩
  have B3 := hidden (nx_tr HB2.out (nx_tr (nx_dr _ _) b3))
  clear b3
  go_wp2
  go_ret
  exact ⟨rfl, B3.out⟩

/-- The law returns true; nothing that was there has turned. -/
theorem name_any (v : Value) (rs : List Rg) (w : World) (hr : RL w v rs) :
    Calls Try.prog 6 #[v] w fun e w' => e = .returned (.bool true) ∧ Below w.heap.size w w' := by
  by_cases h1 : rs.length = 1
  · obtain ⟨r, rfl⟩ := List.length_eq_one_iff.1 h1
    obtain ⟨b, off, cap, rfl, _, _, _⟩ := hr.pos (by simp)
    cases htw : (r.last.toList == r.first.toList)
    · by_cases hlen : r.first.size + 1 + r.last.size ≤ 255
      · exact name_two_short b off cap r w hr htw hlen
      · exact name_two_long b off cap r w hr htw (by omega)
    · by_cases hlen : r.first.size ≤ 255
      · exact name_one_short b off cap r w hr htw hlen
      · exact name_one_long b off cap r w hr htw (by omega)
  · exact name_not_one v rs w hr h1

end Go.Proofs.Qxb6617338a
