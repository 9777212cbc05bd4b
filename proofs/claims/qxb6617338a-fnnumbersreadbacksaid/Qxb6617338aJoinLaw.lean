import Derived.Test.Qxb6617338aText
import Derived.Test.Qxb6617338aGuards
import Derived.Test.Qxb6617338aTo
import Derived.Deep.QuietTactic
import Derived.BigQuiet
namespace Go.Proofs.Qxb6617338a
open Go.RowKit

theorem RL.bounds {w : World} {a : Option Addr} {n c : Nat} {rs : List Rg} (h : RL w (.slice a n c) rs) : n ≤ c ∧ c ≤ maxLen := by
  obtain ⟨_, _, hv, _, h1, h2⟩ := h.len
  simp only [Value.slice.injEq] at hv
  obtain ⟨_, rfl, rfl⟩ := hv
  exact ⟨h1, h2⟩

theorem RL.place {w : World} {b off n c i : Nat} {rs : List Rg} (h : RL w (.slice (some ⟨b, off, none⟩) n c) rs) (hi : i < n) : RgAt w b (off + i * 3) (rs.getD i Rg.none) := by
  rcases h with ⟨h, _⟩ | ⟨b', off', spot', cap', hv, h1, h2, _, hc⟩
  · cases h
  · simp only [Value.slice.injEq, Option.some.injEq, Addr.mk.injEq] at hv
    obtain ⟨⟨rfl, rfl, rfl⟩, rfl, rfl⟩ := hv
    exact hc i hi

/-! Slices of a slice of ranges. -/
theorem RL.take {w : World} {b off n cap k : Nat} {rs : List Rg} (h : RL w (.slice (some ⟨b, off, none⟩) n cap) rs) (hn : rs.length = n) (hk : k ≤ n) : RL w (.slice (some ⟨b, off, none⟩) k cap) (rs.take k) := by
  rcases h with ⟨h, _⟩ | ⟨b', off', spot', cap', hv, h1, h2, _, hc⟩
  · cases h
  · simp only [Value.slice.injEq, Option.some.injEq, Addr.mk.injEq] at hv
    obtain ⟨⟨rfl, rfl, rfl⟩, _, rfl⟩ := hv
    have e : (rs.take k).length = k := by rw [List.length_take]; omega
    refine .inr ⟨b, off, none, cap, by rw [e], by omega, h2, fun _ => rfl, fun i hi => ?_⟩
    have hg : (rs.take k).getD i Rg.none = rs.getD i Rg.none := by
      simp only [List.getD, List.getElem?_take]
      rw [if_pos (by omega)]
    rw [hg]
    exact hc i (by omega)

theorem RL.drop {w : World} {b off n cap k m c : Nat} {rs : List Rg} (h : RL w (.slice (some ⟨b, off, none⟩) n cap) rs) (hn : rs.length = n) (hk : k ≤ n) (a : Addr) (ha : k < n → a = ⟨b, off + k * 3, none⟩) (hm : m = n - k) (hcc : c = cap - k) :
    RL w (.slice (some a) m c) (rs.drop k) := by
  rcases h with ⟨h, _⟩ | ⟨b', off', spot', cap', hv, h1, h2, _, hc⟩
  · cases h
  · simp only [Value.slice.injEq, Option.some.injEq, Addr.mk.injEq] at hv
    obtain ⟨⟨rfl, rfl, rfl⟩, _, rfl⟩ := hv
    have e : (rs.drop k).length = m := by rw [List.length_drop]; omega
    obtain ⟨b1, o1, p1⟩ := a
    refine .inr ⟨b1, o1, p1, c, by rw [e], by omega, by omega, fun h0 => ?_, fun i hi => ?_⟩
    · have := ha (by omega)
      simp only [Addr.mk.injEq] at this
      exact this.2.2
    · have := ha (by omega)
      simp only [Addr.mk.injEq] at this
      obtain ⟨rfl, rfl, rfl⟩ := this
      have hg : (rs.drop k).getD i Rg.none = rs.getD (k + i) Rg.none := by simp [List.getD]
      rw [hg, show off + k * 3 + i * 3 = off + (k + i) * 3 by omega]
      exact hc (k + i) (by omega)

theorem nx_tr {a b c : World} (h : Below a.heap.size a b) (k : Below b.heap.size b c) : Below a.heap.size a c := h.trans (k.mono h.size)

/-- ZZnumbers, its text as a string t. -/
theorem text_any (v : Value) (rs : List Rg) (w : World) (h : RL w v rs) (hn : rs.length ≤ 65536) (hs : sumLen rs ≤ 1048576) :
    Calls Try.prog 10 #[v] w fun e w' => ∃ t : ByteArray, e = .returned (.string t) ∧ t.data.toList = numT rs ∧ t.size ≤ 1245184 ∧ Below w.heap.size w w' := by
  refine (zznumbers_any v rs w h hn hs).mono ?_
  rintro e w' ⟨rfl, hb⟩
  have hl := numT_len rs
  refine ⟨_, rfl, rfl, ?_, hb⟩
  show (numT rs).toArray.size ≤ _
  simp
  omega

theorem beq_of_data {s t : ByteArray} (h : s.data.toList = t.data.toList) : (s.toList == t.toList) = true := by
  rw [ByteArray.toList_eq, ByteArray.toList_eq, h]
  simp
theorem data_app (s t : ByteArray) : (s ++ t).data.toList = s.data.toList ++ t.data.toList := by
  rw [ByteArray.data_append, Array.toList_append]

theorem one_as {t : ByteArray} {r : Rg} (h : t.data.toList = numT [r]) (h1 : (r.first.toList == r.last.toList) = true) : (t.toList == r.first.toList) = true := by
  refine beq_of_data ?_
  have e : r.two = false := by
    unfold Rg.two
    rw [beq_iff_eq] at h1
    rw [h1]
    simp
  rw [h, numT_one, Rg.item, e]
  simp
theorem two_as {t : ByteArray} {r : Rg} (h : t.data.toList = numT [r]) (h1 : (r.first.toList == r.last.toList) = false) : (t.toList == (r.first ++ ⟨#[45]⟩ ++ r.last).toList) = true := by
  refine beq_of_data ?_
  have e : r.two = true := by
    unfold Rg.two
    rw [beq_eq_false_iff_ne] at h1
    rw [Bool.not_eq_true', beq_eq_false_iff_ne]
    exact fun e => h1 e.symm
  rw [h, numT_one, Rg.item, e, data_app, data_app]
  simp

theorem drop_one (rs : List Rg) (k : Nat) (h : k < rs.length) : (rs.drop k).take 1 = [rs.getD k Rg.none] := by
  rw [List.drop_eq_getElem_cons h, List.take_succ_cons, List.take_zero]
  simp [List.getD, h]

/-- toRanges, its slice written out. -/
theorem to_form (v : Value) (rs : List Rg) (n : Nat) (w : World) (h : RL w v rs) (hn : rs.length = n) (hm : n ≤ 65536) :
    Calls Try.prog 9 #[v] w fun e w' => ∃ g, e = .returned (.slice (some ⟨g, 0, none⟩) n n) ∧ RL w' (.slice (some ⟨g, 0, none⟩) n n) rs ∧ Below w.heap.size w w' := by
  subst hn
  exact to_any v rs w h hm

theorem join_two {t tl tr : ByteArray} {rs : List Rg} {k : Nat} (h : t.data.toList = numT rs) (hl : tl.data.toList = numT (rs.take k)) (hr : tr.data.toList = numT (rs.drop k)) (hk0 : 0 < k) (hk : k < rs.length) :
    (t.toList == (tl ++ ⟨#[44, 32]⟩ ++ tr).toList) = true := by
  refine beq_of_data ?_
  rw [data_app, data_app, h, hl, hr]
  have e := numT_append (xs := rs.take k) (ys := rs.drop k) (take_ne hk hk0) (by intro e; have h1 := congrArg List.length e; rw [List.length_drop, List.length_nil] at h1; omega)
  rw [List.take_append_drop] at e
  rw [e]
theorem join_first {t tl tr : ByteArray} {rs : List Rg} (h : t.data.toList = numT rs) (hl : tl.data.toList = numT (rs.take 0)) (hr : tr.data.toList = numT (rs.drop 0)) : (t.toList == (tl ++ tr).toList) = true := by
  refine beq_of_data ?_
  rw [data_app, h, hl, hr]
  rfl
theorem join_last {t tl tr : ByteArray} {rs : List Rg} {n : Nat} (hn : rs.length = n) (h : t.data.toList = numT rs) (hl : tl.data.toList = numT (rs.take n)) (hr : tr.data.toList = numT (rs.drop n)) : (t.toList == (tl ++ tr).toList) = true := by
  refine beq_of_data ?_
  rw [data_app, h, hl, hr, List.take_of_length_le (by omega), List.drop_eq_nil_of_le (by omega)]
  simp [numT]

theorem nx_dr (w : World) (n : Nat) : Below w.heap.size w (w.drewN n) := below_drewN (Below.refl _ _) n

set_option maxHeartbeats 1000000 in
set_option maxRecDepth 100000 in
/-- A cut in the midst. -/
theorem join_mid (b off n cap k : Nat) (rs : List Rg) (w : World) (hn : rs.length = n) (hr : RL w (.slice (some ⟨b, off, none⟩) n cap) rs) (hk0 : 0 < k) (hk : k < n) :
    Calls Try.prog 3 #[.slice (some ⟨b, off, none⟩) n cap, .int .i64 k] w fun e w' => e = .returned (.bool true) ∧ Below w.heap.size w w' := by
  obtain ⟨hnc, hcm⟩ := hr.bounds
  have HN := hidden hn
  have HR := hidden hr
  unfold maxLen at hcm
  have hkn : ((k : Int) == (n : Int)) = false := beq_eq_false_iff_ne.2 (by omega)
  have hck : ¬ cap = k := by omega
  have hnk : ¬ n = k := by omega
  clear hn hr
  go_enter Try.func3, Try.ntmps3
  go_wp2_with fail
  refine (bytes7_any _ rs _ _ HR.out).mono ?_
  rintro e w' ⟨⟨r, rfl⟩, rfl⟩
  cases r
  · go_wp2
    go_ret
    exact ⟨rfl, Below.refl _ _⟩
  go_wp2_with fail
  refine (fit_any _ rs _ HR.out).mono ?_
  rintro e w' ⟨⟨r, rfl, hfit⟩, rfl⟩
  cases r
  · go_wp2
    go_ret
    exact ⟨rfl, Below.refl _ _⟩
  obtain ⟨hl, hs⟩ := hfit rfl
  have HL := hidden hl
  rw [HN.out] at hl
  clear hfit
  go_wp2_with fail
  refine (to_form _ rs n _ HR.out HN.out hl).mono ?_
  rintro e w1 ⟨g1, rfl, r1, b1⟩
  have R1 := hidden r1
  have B1 := hidden b1
  clear r1 b1
  go_wp2_with fail
  refine (to_form _ (rs.take k) k _ (RL.take (HR.out.later B1.out) HN.out (by omega)) (by have h := HN.out; rw [List.length_take]; omega) (by omega)).mono ?_
  rintro e w2 ⟨g2, rfl, r2, b2⟩
  have R2 := hidden r2
  have B2 := hidden b2
  clear r2 b2
  go_wp2_with fail
  refine (to_form _ (rs.drop k) (n - k) _ (RL.drop (HR.out.later (nx_tr B1.out B2.out)) HN.out (by omega) _ (fun _ => rfl) (by omega) (by omega)) (by have h := HN.out; rw [List.length_drop]; omega) (by omega)).mono ?_
  rintro e w3 ⟨g3, rfl, r3, b3⟩
  have R3 := hidden r3
  have B3 := hidden b3
  clear r3 b3
  go_wp2_with fail
  refine (text_any _ rs _ (R1.out.later (nx_tr B2.out B3.out)) HL.out hs).mono ?_
  rintro e w4 ⟨t, rfl, ht, hts, b4⟩
  have T4 := hidden ht
  have B4 := hidden b4
  clear ht b4
  have hs2 := sumLen_take_le rs k
  have hs3 := sumLen_drop_le rs k
  have hl2 : (rs.take k).length ≤ 65536 := by rw [List.length_take]; have := HL.out; omega
  have hl3 : (rs.drop k).length ≤ 65536 := by rw [List.length_drop]; have := HL.out; omega
  have HL2 := hidden hl2
  have HL3 := hidden hl3
  have HS2 := hidden (Nat.le_trans hs2 hs)
  have HS3 := hidden (Nat.le_trans hs3 hs)
  clear hs2 hs3 hl2 hl3
  go_wp2_with fail
  refine (text_any _ (rs.take k) _ (R2.out.later (nx_tr B3.out B4.out)) HL2.out HS2.out).mono ?_
  rintro e w5 ⟨tl, rfl, htl, htls, b5⟩
  have T5 := hidden htl
  have B5 := hidden b5
  clear htl b5
  go_wp2_with fail
  refine (text_any _ (rs.drop k) _ (R3.out.later (nx_tr B4.out B5.out)) HL3.out HS3.out).mono ?_
  rintro e w6 ⟨tr, rfl, htr, htrs, b6⟩
  have T6 := hidden htr
  have B6 := hidden b6
  clear htr b6
  have hEq := join_two T4.out T5.out T6.out hk0 (by rw [HN.out]; exact hk)
  have hB := nx_tr B1.out (nx_tr B2.out (nx_tr B3.out (nx_tr B4.out (nx_tr B5.out B6.out))))
  have hat := HR.out.place (i := k) (by omega)
  have hr1 := (RL.drop R1.out HN.out (k := k) (m := n - k) (c := n - k) (by omega) ⟨g1, k * 3, none⟩ (fun _ => by rw [Nat.zero_add]) (by omega) (by omega)).take (k := 1) (by have h := HN.out; rw [List.length_drop]; omega) (by omega)
  rw [drop_one rs k (by rw [HN.out]; omega)] at hr1
  have hle := getD_le rs k (by rw [HN.out]; omega)
  have hs1 : sumLen [rs.getD k Rg.none] ≤ 1048576 := by simp only [sumLen]; omega
  generalize rs.getD k Rg.none = r at *
  have HS1 := hidden hs1
  have R7 := hidden hr1
  have HB := hidden hB
  have HAT := hidden hat
  clear hat hr1 hB hs1
  go_wp2_with fail
  refine (text_any _ [r] _ (R7.out.later (nx_tr B2.out (nx_tr B3.out (nx_tr B4.out (nx_tr B5.out B6.out))))) (by simp) HS1.out).mono ?_
  rintro e w7 ⟨t1, rfl, ht1, ht1s, b7⟩
  have HB7 := hidden (nx_tr HB.out b7)
  obtain ⟨_, c1, c2⟩ := HAT.out.later HB7.out
  have T7 := hidden ht1
  clear ht1 b7 R1 R2 R3 R7 B1 B2 B3 B4 B5 B6 T4 T5 T6 HAT HB hEq
  have hi0 : (0 : Int) ≤ (k : Int) := by omega
  have hi1 : (k : Int) < (n : Int) := by omega
  cases hfl : (r.first.toList == r.last.toList)
  · have hf := two_as T7.out hfl
    go_wp2
    go_quiet (fail)
    go_wp2
    go_quiet (fail)
    go_wp2
    go_ret
    exact ⟨rfl, nx_tr HB7.out (nx_dr _ _)⟩
  · have hf := one_as T7.out hfl
    go_wp2
    go_quiet (fail)
    go_wp2
    go_ret
    exact ⟨rfl, nx_tr HB7.out (nx_dr _ _)⟩

set_option maxHeartbeats 1000000 in
set_option maxRecDepth 100000 in
/-- A cut at the start. -/
theorem join_start (b off n cap : Nat) (rs : List Rg) (w : World) (hn : rs.length = n) (hr : RL w (.slice (some ⟨b, off, none⟩) n cap) rs) (hk : 0 < n) :
    Calls Try.prog 3 #[.slice (some ⟨b, off, none⟩) n cap, .int .i64 0] w fun e w' => e = .returned (.bool true) ∧ Below w.heap.size w w' := by
  obtain ⟨hnc, hcm⟩ := hr.bounds
  have HN := hidden hn
  have HR := hidden hr
  unfold maxLen at hcm
  have hkn : ((0 : Int) == (n : Int)) = false := beq_eq_false_iff_ne.2 (by omega)
  have hck : ¬ cap = 0 := by omega
  have hnk : ¬ n = 0 := by omega
  clear hn hr
  go_enter Try.func3, Try.ntmps3
  go_wp2_with fail
  refine (bytes7_any _ rs _ _ HR.out).mono ?_
  rintro e w' ⟨⟨r, rfl⟩, rfl⟩
  cases r
  · go_wp2
    go_ret
    exact ⟨rfl, Below.refl _ _⟩
  go_wp2_with fail
  refine (fit_any _ rs _ HR.out).mono ?_
  rintro e w' ⟨⟨r, rfl, hfit⟩, rfl⟩
  cases r
  · go_wp2
    go_ret
    exact ⟨rfl, Below.refl _ _⟩
  obtain ⟨hl, hs⟩ := hfit rfl
  have HL := hidden hl
  rw [HN.out] at hl
  clear hfit
  go_wp2_with fail
  refine (to_form _ rs n _ HR.out HN.out hl).mono ?_
  rintro e w1 ⟨g1, rfl, r1, b1⟩
  have R1 := hidden r1
  have B1 := hidden b1
  clear r1 b1
  go_wp2_with fail
  refine (to_form _ (rs.take 0) 0 _ (RL.take (HR.out.later B1.out) HN.out (by omega)) (by have h := HN.out; rw [List.length_take]; omega) (by omega)).mono ?_
  rintro e w2 ⟨g2, rfl, r2, b2⟩
  have R2 := hidden r2
  have B2 := hidden b2
  clear r2 b2
  go_wp2_with fail
  refine (to_form _ (rs.drop 0) (n) _ (RL.drop (HR.out.later (nx_tr B1.out B2.out)) HN.out (by omega) _ (fun _ => rfl) (by omega) (by omega)) (by have h := HN.out; rw [List.length_drop]; omega) (by omega)).mono ?_
  rintro e w3 ⟨g3, rfl, r3, b3⟩
  have R3 := hidden r3
  have B3 := hidden b3
  clear r3 b3
  go_wp2_with fail
  refine (text_any _ rs _ (R1.out.later (nx_tr B2.out B3.out)) HL.out hs).mono ?_
  rintro e w4 ⟨t, rfl, ht, hts, b4⟩
  have T4 := hidden ht
  have B4 := hidden b4
  clear ht b4
  have hs2 := sumLen_take_le rs 0
  have hs3 := sumLen_drop_le rs 0
  have hl2 : (rs.take 0).length ≤ 65536 := by rw [List.length_take]; have := HL.out; omega
  have hl3 : (rs.drop 0).length ≤ 65536 := by rw [List.length_drop]; have := HL.out; omega
  have HL2 := hidden hl2
  have HL3 := hidden hl3
  have HS2 := hidden (Nat.le_trans hs2 hs)
  have HS3 := hidden (Nat.le_trans hs3 hs)
  clear hs2 hs3 hl2 hl3
  go_wp2_with fail
  refine (text_any _ (rs.take 0) _ (R2.out.later (nx_tr B3.out B4.out)) HL2.out HS2.out).mono ?_
  rintro e w5 ⟨tl, rfl, htl, htls, b5⟩
  have T5 := hidden htl
  have B5 := hidden b5
  clear htl b5
  go_wp2_with fail
  refine (text_any _ (rs.drop 0) _ (R3.out.later (nx_tr B4.out B5.out)) HL3.out HS3.out).mono ?_
  rintro e w6 ⟨tr, rfl, htr, htrs, b6⟩
  have T6 := hidden htr
  have B6 := hidden b6
  clear htr b6
  have hEq := join_first T4.out T5.out T6.out
  have hB := nx_tr B1.out (nx_tr B2.out (nx_tr B3.out (nx_tr B4.out (nx_tr B5.out B6.out))))
  have hat := HR.out.place (i := 0) (by omega)
  have hr1 := (RL.drop R1.out HN.out (k := 0) (m := n) (c := n) (by omega) ⟨g1, 0, none⟩ (fun _ => rfl) (by omega) (by omega)).take (k := 1) (by have h := HN.out; rw [List.length_drop]; omega) (by omega)
  rw [drop_one rs 0 (by rw [HN.out]; omega)] at hr1
  have hle := getD_le rs 0 (by rw [HN.out]; omega)
  have hs1 : sumLen [rs.getD 0 Rg.none] ≤ 1048576 := by simp only [sumLen]; omega
  generalize rs.getD 0 Rg.none = r at *
  have HS1 := hidden hs1
  have R7 := hidden hr1
  have HB := hidden hB
  have HAT := hidden hat
  clear hat hr1 hB hs1
  go_wp2_with fail
  refine (text_any _ [r] _ (R7.out.later (nx_tr B2.out (nx_tr B3.out (nx_tr B4.out (nx_tr B5.out B6.out))))) (by simp) HS1.out).mono ?_
  rintro e w7 ⟨t1, rfl, ht1, ht1s, b7⟩
  have HB7 := hidden (nx_tr HB.out b7)
  obtain ⟨_, c1, c2⟩ := HAT.out.later HB7.out
  have T7 := hidden ht1
  clear ht1 b7 R1 R2 R3 R7 B1 B2 B3 B4 B5 B6 T4 T5 T6 HAT HB hEq
  have hi0 : (0 : Int) ≤ (0 : Int) := by omega
  have hi1 : (0 : Int) < (n : Int) := by omega
  simp only [Nat.zero_mul, Nat.add_zero] at c1 c2
  cases hfl : (r.first.toList == r.last.toList)
  · have hf := two_as T7.out hfl
    go_wp2
    go_quiet (fail)
    go_wp2
    go_quiet (fail)
    go_wp2
    go_ret
    exact ⟨rfl, nx_tr HB7.out (nx_dr _ _)⟩
  · have hf := one_as T7.out hfl
    go_wp2
    go_quiet (fail)
    go_wp2
    go_ret
    exact ⟨rfl, nx_tr HB7.out (nx_dr _ _)⟩

set_option maxHeartbeats 1000000 in
set_option maxRecDepth 100000 in
/-- A cut at the end. -/
theorem join_end (b off n cap : Nat) (rs : List Rg) (w : World) (hn : rs.length = n) (hr : RL w (.slice (some ⟨b, off, none⟩) n cap) rs) (hk : 0 < n) (hck : ¬ cap = n) :
    Calls Try.prog 3 #[.slice (some ⟨b, off, none⟩) n cap, .int .i64 n] w fun e w' => e = .returned (.bool true) ∧ Below w.heap.size w w' := by
  obtain ⟨hnc, hcm⟩ := hr.bounds
  have HN := hidden hn
  have HR := hidden hr
  unfold maxLen at hcm
  have hkn : ((n : Int) == (n : Int)) = true := beq_iff_eq.2 rfl
  clear hn hr
  go_enter Try.func3, Try.ntmps3
  go_wp2_with fail
  refine (bytes7_any _ rs _ _ HR.out).mono ?_
  rintro e w' ⟨⟨r, rfl⟩, rfl⟩
  cases r
  · go_wp2
    go_ret
    exact ⟨rfl, Below.refl _ _⟩
  go_wp2_with fail
  refine (fit_any _ rs _ HR.out).mono ?_
  rintro e w' ⟨⟨r, rfl, hfit⟩, rfl⟩
  cases r
  · go_wp2
    go_ret
    exact ⟨rfl, Below.refl _ _⟩
  obtain ⟨hl, hs⟩ := hfit rfl
  have HL := hidden hl
  rw [HN.out] at hl
  clear hfit
  go_wp2_with fail
  refine (to_form _ rs n _ HR.out HN.out hl).mono ?_
  rintro e w1 ⟨g1, rfl, r1, b1⟩
  have R1 := hidden r1
  have B1 := hidden b1
  clear r1 b1
  go_wp2_with fail
  refine (to_form _ (rs.take n) n _ (RL.take (HR.out.later B1.out) HN.out (by omega)) (by have h := HN.out; rw [List.length_take]; omega) (by omega)).mono ?_
  rintro e w2 ⟨g2, rfl, r2, b2⟩
  have R2 := hidden r2
  have B2 := hidden b2
  clear r2 b2
  go_wp2_with fail
  refine (to_form _ (rs.drop n) (0) _ (RL.drop (HR.out.later (nx_tr B1.out B2.out)) HN.out (by omega) _ (fun h => absurd h (by omega)) (by omega) (by omega)) (by have h := HN.out; rw [List.length_drop]; omega) (by omega)).mono ?_
  rintro e w3 ⟨g3, rfl, r3, b3⟩
  have R3 := hidden r3
  have B3 := hidden b3
  clear r3 b3
  go_wp2_with fail
  refine (text_any _ rs _ (R1.out.later (nx_tr B2.out B3.out)) HL.out hs).mono ?_
  rintro e w4 ⟨t, rfl, ht, hts, b4⟩
  have T4 := hidden ht
  have B4 := hidden b4
  clear ht b4
  have hs2 := sumLen_take_le rs n
  have hs3 := sumLen_drop_le rs n
  have hl2 : (rs.take n).length ≤ 65536 := by rw [List.length_take]; have := HL.out; omega
  have hl3 : (rs.drop n).length ≤ 65536 := by rw [List.length_drop]; have := HL.out; omega
  have HL2 := hidden hl2
  have HL3 := hidden hl3
  have HS2 := hidden (Nat.le_trans hs2 hs)
  have HS3 := hidden (Nat.le_trans hs3 hs)
  clear hs2 hs3 hl2 hl3
  go_wp2_with fail
  refine (text_any _ (rs.take n) _ (R2.out.later (nx_tr B3.out B4.out)) HL2.out HS2.out).mono ?_
  rintro e w5 ⟨tl, rfl, htl, htls, b5⟩
  have T5 := hidden htl
  have B5 := hidden b5
  clear htl b5
  go_wp2_with fail
  refine (text_any _ (rs.drop n) _ (R3.out.later (nx_tr B4.out B5.out)) HL3.out HS3.out).mono ?_
  rintro e w6 ⟨tr, rfl, htr, htrs, b6⟩
  have T6 := hidden htr
  have B6 := hidden b6
  clear htr b6
  have hEq := join_last HN.out T4.out T5.out T6.out
  have hB := nx_tr B1.out (nx_tr B2.out (nx_tr B3.out (nx_tr B4.out (nx_tr B5.out B6.out))))
  have HB := hidden hB
  clear hB T4 T5 T6 R1 R2 R3 B1 B2 B3 B4 B5 B6
  go_wp2
  go_ret
  exact ⟨rfl, HB.out⟩

set_option maxHeartbeats 1000000 in
set_option maxRecDepth 100000 in
/-- A cut at the end, which is the capacity's end too. -/
theorem join_end_full (b off n : Nat) (rs : List Rg) (w : World) (hn : rs.length = n) (hr : RL w (.slice (some ⟨b, off, none⟩) n n) rs) (hk : 0 < n) :
    Calls Try.prog 3 #[.slice (some ⟨b, off, none⟩) n n, .int .i64 n] w fun e w' => e = .returned (.bool true) ∧ Below w.heap.size w w' := by
  obtain ⟨hnc, hcm⟩ := hr.bounds
  have HN := hidden hn
  have HR := hidden hr
  unfold maxLen at hcm
  have hkn : ((n : Int) == (n : Int)) = true := beq_iff_eq.2 rfl
  clear hn hr
  go_enter Try.func3, Try.ntmps3
  go_wp2_with fail
  refine (bytes7_any _ rs _ _ HR.out).mono ?_
  rintro e w' ⟨⟨r, rfl⟩, rfl⟩
  cases r
  · go_wp2
    go_ret
    exact ⟨rfl, Below.refl _ _⟩
  go_wp2_with fail
  refine (fit_any _ rs _ HR.out).mono ?_
  rintro e w' ⟨⟨r, rfl, hfit⟩, rfl⟩
  cases r
  · go_wp2
    go_ret
    exact ⟨rfl, Below.refl _ _⟩
  obtain ⟨hl, hs⟩ := hfit rfl
  have HL := hidden hl
  rw [HN.out] at hl
  clear hfit
  go_wp2_with fail
  refine (to_form _ rs n _ HR.out HN.out hl).mono ?_
  rintro e w1 ⟨g1, rfl, r1, b1⟩
  have R1 := hidden r1
  have B1 := hidden b1
  clear r1 b1
  go_wp2_with fail
  refine (to_form _ (rs.take n) n _ (RL.take (HR.out.later B1.out) HN.out (by omega)) (by have h := HN.out; rw [List.length_take]; omega) (by omega)).mono ?_
  rintro e w2 ⟨g2, rfl, r2, b2⟩
  have R2 := hidden r2
  have B2 := hidden b2
  clear r2 b2
  go_wp2_with fail
  refine (to_form _ (rs.drop n) (0) _ (RL.drop (HR.out.later (nx_tr B1.out B2.out)) HN.out (by omega) _ (fun h => absurd h (by omega)) (by omega) (by omega)) (by have h := HN.out; rw [List.length_drop]; omega) (by omega)).mono ?_
  rintro e w3 ⟨g3, rfl, r3, b3⟩
  have R3 := hidden r3
  have B3 := hidden b3
  clear r3 b3
  go_wp2_with fail
  refine (text_any _ rs _ (R1.out.later (nx_tr B2.out B3.out)) HL.out hs).mono ?_
  rintro e w4 ⟨t, rfl, ht, hts, b4⟩
  have T4 := hidden ht
  have B4 := hidden b4
  clear ht b4
  have hs2 := sumLen_take_le rs n
  have hs3 := sumLen_drop_le rs n
  have hl2 : (rs.take n).length ≤ 65536 := by rw [List.length_take]; have := HL.out; omega
  have hl3 : (rs.drop n).length ≤ 65536 := by rw [List.length_drop]; have := HL.out; omega
  have HL2 := hidden hl2
  have HL3 := hidden hl3
  have HS2 := hidden (Nat.le_trans hs2 hs)
  have HS3 := hidden (Nat.le_trans hs3 hs)
  clear hs2 hs3 hl2 hl3
  go_wp2_with fail
  refine (text_any _ (rs.take n) _ (R2.out.later (nx_tr B3.out B4.out)) HL2.out HS2.out).mono ?_
  rintro e w5 ⟨tl, rfl, htl, htls, b5⟩
  have T5 := hidden htl
  have B5 := hidden b5
  clear htl b5
  go_wp2_with fail
  refine (text_any _ (rs.drop n) _ (R3.out.later (nx_tr B4.out B5.out)) HL3.out HS3.out).mono ?_
  rintro e w6 ⟨tr, rfl, htr, htrs, b6⟩
  have T6 := hidden htr
  have B6 := hidden b6
  clear htr b6
  have hEq := join_last HN.out T4.out T5.out T6.out
  have hB := nx_tr B1.out (nx_tr B2.out (nx_tr B3.out (nx_tr B4.out (nx_tr B5.out B6.out))))
  have HB := hidden hB
  clear hB T4 T5 T6 R1 R2 R3 B1 B2 B3 B4 B5 B6
  go_wp2
  go_ret
  exact ⟨rfl, HB.out⟩

theorem RL_empty (w : World) (a : Addr) (c : Nat) (hc : c ≤ maxLen) : RL w (.slice (some a) 0 c) [] := by
  obtain ⟨b, o, p⟩ := a
  exact .inr ⟨b, o, p, c, rfl, Nat.zero_le _, hc, fun h => by simp at h, fun i hi => by simp at hi⟩
theorem RL_nil (w : World) : RL w (.slice none 0 0) [] := .inl ⟨rfl, rfl⟩

set_option maxHeartbeats 1000000 in
set_option maxRecDepth 100000 in
theorem join_nil (w : World) :
    Calls Try.prog 3 #[.slice none 0 0, .int .i64 0] w fun e w' => e = .returned (.bool true) ∧ Below w.heap.size w w' := by
  have hkn : ((0 : Int) == (0 : Int)) = true := rfl
  go_enter Try.func3, Try.ntmps3
  go_wp2_with fail
  refine (bytes7_any _ [] _ _ (RL_nil _)).mono ?_
  rintro e w' ⟨⟨r, rfl⟩, rfl⟩
  cases r
  · go_wp2
    go_ret
    exact ⟨rfl, Below.refl _ _⟩
  go_wp2_with fail
  refine (fit_any _ [] _ (RL_nil _)).mono ?_
  rintro e w' ⟨⟨r, rfl, hfit⟩, rfl⟩
  clear hfit
  cases r
  · go_wp2
    go_ret
    exact ⟨rfl, Below.refl _ _⟩
  go_wp2_with fail
  refine (to_form _ [] 0 _ (RL_nil _) rfl (by omega)).mono ?_
  rintro e w1 ⟨g1, rfl, r1, b1⟩
  have R1 := hidden r1
  have B1 := hidden b1
  clear r1 b1
  go_wp2_with fail
  refine (to_form _ [] 0 _ (RL_nil _) rfl (by omega)).mono ?_
  rintro e w2 ⟨g2, rfl, r2, b2⟩
  have R2 := hidden r2
  have B2 := hidden b2
  clear r2 b2
  go_wp2_with fail
  refine (to_form _ [] 0 _ (RL_nil _) rfl (by omega)).mono ?_
  rintro e w3 ⟨g3, rfl, r3, b3⟩
  have R3 := hidden r3
  have B3 := hidden b3
  clear r3 b3
  go_wp2_with fail
  refine (text_any _ [] _ (R1.out.later (nx_tr B2.out B3.out)) (by simp) (by simp [sumLen])).mono ?_
  rintro e w4 ⟨t, rfl, ht, hts, b4⟩
  have B4 := hidden b4
  have T4 := hidden ht
  clear b4 ht
  go_wp2_with fail
  refine (text_any _ [] _ (R2.out.later (nx_tr B3.out B4.out)) (by simp) (by simp [sumLen])).mono ?_
  rintro e w5 ⟨tl, rfl, htl, htls, b5⟩
  have B5 := hidden b5
  have T5 := hidden htl
  clear b5 htl
  go_wp2_with fail
  refine (text_any _ [] _ (R3.out.later (nx_tr B4.out B5.out)) (by simp) (by simp [sumLen])).mono ?_
  rintro e w6 ⟨tr, rfl, htr, htrs, b6⟩
  have B6 := hidden b6
  have hEq : (t.toList == (tl ++ tr).toList) = true := by
    refine beq_of_data ?_
    rw [data_app, T4.out, T5.out, htr]
    rfl
  have HB := hidden (nx_tr B1.out (nx_tr B2.out (nx_tr B3.out (nx_tr B4.out (nx_tr B5.out B6.out)))))
  clear b6 htr T4 T5 R1 R2 R3 B1 B2 B3 B4 B5 B6
  go_wp2
  go_ret
  exact ⟨rfl, HB.out⟩

set_option maxHeartbeats 1000000 in
set_option maxRecDepth 100000 in
theorem join_empty (a : Addr) (c : Nat) (hc : c ≤ maxLen) (h0 : ¬ c = 0) (w : World) :
    Calls Try.prog 3 #[.slice (some a) 0 c, .int .i64 0] w fun e w' => e = .returned (.bool true) ∧ Below w.heap.size w w' := by
  have HC := hidden hc
  unfold maxLen at hc
  have hkn : ((0 : Int) == (0 : Int)) = true := rfl
  go_enter Try.func3, Try.ntmps3
  go_wp2_with fail
  refine (bytes7_any _ [] _ _ (RL_empty _ _ _ HC.out)).mono ?_
  rintro e w' ⟨⟨r, rfl⟩, rfl⟩
  cases r
  · go_wp2
    go_ret
    exact ⟨rfl, Below.refl _ _⟩
  go_wp2_with fail
  refine (fit_any _ [] _ (RL_empty _ _ _ HC.out)).mono ?_
  rintro e w' ⟨⟨r, rfl, hfit⟩, rfl⟩
  clear hfit
  cases r
  · go_wp2
    go_ret
    exact ⟨rfl, Below.refl _ _⟩
  go_wp2_with fail
  refine (to_form _ [] 0 _ (RL_empty _ _ _ HC.out) rfl (by omega)).mono ?_
  rintro e w1 ⟨g1, rfl, r1, b1⟩
  have R1 := hidden r1
  have B1 := hidden b1
  clear r1 b1
  go_wp2_with fail
  refine (to_form _ [] 0 _ (RL_empty _ _ _ HC.out) rfl (by omega)).mono ?_
  rintro e w2 ⟨g2, rfl, r2, b2⟩
  have R2 := hidden r2
  have B2 := hidden b2
  clear r2 b2
  go_wp2_with fail
  refine (to_form _ [] 0 _ (RL_empty _ _ _ HC.out) rfl (by omega)).mono ?_
  rintro e w3 ⟨g3, rfl, r3, b3⟩
  have R3 := hidden r3
  have B3 := hidden b3
  clear r3 b3
  go_wp2_with fail
  refine (text_any _ [] _ (R1.out.later (nx_tr B2.out B3.out)) (by simp) (by simp [sumLen])).mono ?_
  rintro e w4 ⟨t, rfl, ht, hts, b4⟩
  have B4 := hidden b4
  have T4 := hidden ht
  clear b4 ht
  go_wp2_with fail
  refine (text_any _ [] _ (R2.out.later (nx_tr B3.out B4.out)) (by simp) (by simp [sumLen])).mono ?_
  rintro e w5 ⟨tl, rfl, htl, htls, b5⟩
  have B5 := hidden b5
  have T5 := hidden htl
  clear b5 htl
  go_wp2_with fail
  refine (text_any _ [] _ (R3.out.later (nx_tr B4.out B5.out)) (by simp) (by simp [sumLen])).mono ?_
  rintro e w6 ⟨tr, rfl, htr, htrs, b6⟩
  have B6 := hidden b6
  have hEq : (t.toList == (tl ++ tr).toList) = true := by
    refine beq_of_data ?_
    rw [data_app, T4.out, T5.out, htr]
    rfl
  have HB := hidden (nx_tr B1.out (nx_tr B2.out (nx_tr B3.out (nx_tr B4.out (nx_tr B5.out B6.out)))))
  clear b6 htr T4 T5 R1 R2 R3 B1 B2 B3 B4 B5 B6
  go_wp2
  go_ret
  exact ⟨rfl, HB.out⟩

set_option maxHeartbeats 1000000 in
set_option maxRecDepth 100000 in
theorem join_empty0 (a : Addr) (w : World) :
    Calls Try.prog 3 #[.slice (some a) 0 0, .int .i64 0] w fun e w' => e = .returned (.bool true) ∧ Below w.heap.size w w' := by
  have hkn : ((0 : Int) == (0 : Int)) = true := rfl
  go_enter Try.func3, Try.ntmps3
  go_wp2_with fail
  refine (bytes7_any _ [] _ _ (RL_empty _ _ _ (by simp))).mono ?_
  rintro e w' ⟨⟨r, rfl⟩, rfl⟩
  cases r
  · go_wp2
    go_ret
    exact ⟨rfl, Below.refl _ _⟩
  go_wp2_with fail
  refine (fit_any _ [] _ (RL_empty _ _ _ (by simp))).mono ?_
  rintro e w' ⟨⟨r, rfl, hfit⟩, rfl⟩
  clear hfit
  cases r
  · go_wp2
    go_ret
    exact ⟨rfl, Below.refl _ _⟩
  go_wp2_with fail
  refine (to_form _ [] 0 _ (RL_empty _ _ _ (by simp)) rfl (by omega)).mono ?_
  rintro e w1 ⟨g1, rfl, r1, b1⟩
  have R1 := hidden r1
  have B1 := hidden b1
  clear r1 b1
  go_wp2_with fail
  refine (to_form _ [] 0 _ (RL_empty _ _ _ (by simp)) rfl (by omega)).mono ?_
  rintro e w2 ⟨g2, rfl, r2, b2⟩
  have R2 := hidden r2
  have B2 := hidden b2
  clear r2 b2
  go_wp2_with fail
  refine (to_form _ [] 0 _ (RL_empty _ _ _ (by simp)) rfl (by omega)).mono ?_
  rintro e w3 ⟨g3, rfl, r3, b3⟩
  have R3 := hidden r3
  have B3 := hidden b3
  clear r3 b3
  go_wp2_with fail
  refine (text_any _ [] _ (R1.out.later (nx_tr B2.out B3.out)) (by simp) (by simp [sumLen])).mono ?_
  rintro e w4 ⟨t, rfl, ht, hts, b4⟩
  have B4 := hidden b4
  have T4 := hidden ht
  clear b4 ht
  go_wp2_with fail
  refine (text_any _ [] _ (R2.out.later (nx_tr B3.out B4.out)) (by simp) (by simp [sumLen])).mono ?_
  rintro e w5 ⟨tl, rfl, htl, htls, b5⟩
  have B5 := hidden b5
  have T5 := hidden htl
  clear b5 htl
  go_wp2_with fail
  refine (text_any _ [] _ (R3.out.later (nx_tr B4.out B5.out)) (by simp) (by simp [sumLen])).mono ?_
  rintro e w6 ⟨tr, rfl, htr, htrs, b6⟩
  have B6 := hidden b6
  have hEq : (t.toList == (tl ++ tr).toList) = true := by
    refine beq_of_data ?_
    rw [data_app, T4.out, T5.out, htr]
    rfl
  have HB := hidden (nx_tr B1.out (nx_tr B2.out (nx_tr B3.out (nx_tr B4.out (nx_tr B5.out B6.out)))))
  clear b6 htr T4 T5 R1 R2 R3 B1 B2 B3 B4 B5 B6
  go_wp2
  go_ret
  exact ⟨rfl, HB.out⟩


set_option maxHeartbeats 1000000 in
set_option maxRecDepth 100000 in
/-- A cut out of range. -/
theorem join_out (a : Option Addr) (n cap : Nat) (i : Int) (rs : List Rg) (w : World) (hr : RL w (.slice a n cap) rs) (hi : i < 0 ∨ (n : Int) < i) :
    Calls Try.prog 3 #[.slice a n cap, .int .i64 i] w fun e w' => e = .returned (.bool true) ∧ Below w.heap.size w w' := by
  obtain ⟨hnc, hcm⟩ := hr.bounds
  have HR := hidden hr
  unfold maxLen at hcm
  clear hr
  by_cases h1 : i < 0
  all_goals
    have h2 : i < 0 ∨ (n : Int) < i := hi
    go_enter Try.func3, Try.ntmps3
    go_wp2_with fail
    refine (bytes7_any _ rs _ _ HR.out).mono ?_
    rintro e w' ⟨⟨r, rfl⟩, rfl⟩
    cases r
    · go_wp2
      go_ret
      exact ⟨rfl, Below.refl _ _⟩
    go_wp2_with fail
    refine (fit_any _ rs _ HR.out).mono ?_
    rintro e w' ⟨⟨r, rfl, hfit⟩, rfl⟩
    clear hfit
    cases r
    · go_wp2
      go_ret
      exact ⟨rfl, Below.refl _ _⟩
    go_wp2_with fail
    go_ret
    exact ⟨rfl, Below.refl _ _⟩

/-- The law returns true; nothing that was there has turned. -/
theorem join_any (v : Value) (i : Int) (rs : List Rg) (w : World) (hr : RL w v rs) :
    Calls Try.prog 3 #[v, .int .i64 i] w fun e w' => e = .returned (.bool true) ∧ Below w.heap.size w w' := by
  obtain ⟨a, c, rfl, _, hc, hcm⟩ := hr.len
  by_cases hi : i < 0 ∨ (rs.length : Int) < i
  · exact join_out a rs.length c i rs w hr hi
  · obtain ⟨k, rfl⟩ := Int.eq_ofNat_of_zero_le (show 0 ≤ i by omega)
    by_cases h0 : 0 < rs.length
    · obtain ⟨b, off, cap, hv, _, _, _⟩ := hr.pos h0
      simp only [Value.slice.injEq] at hv
      obtain ⟨rfl, _, rfl⟩ := hv
      by_cases hk0 : 0 < k
      · by_cases hkn : k < rs.length
        · exact join_mid b off rs.length c k rs w rfl hr hk0 hkn
        · obtain rfl : k = rs.length := by omega
          by_cases hcn : c = rs.length
          · subst hcn
            exact join_end_full b off rs.length rs w rfl hr h0
          · exact join_end b off rs.length c rs w rfl hr h0 hcn
      · obtain rfl : k = 0 := by omega
        exact join_start b off rs.length c rs w rfl hr h0
    · have e : rs = [] := List.eq_nil_of_length_eq_zero (by omega)
      subst e
      obtain rfl : k = 0 := by simp at hi; omega
      cases a with
      | none =>
        rcases hr with ⟨hv, _⟩ | ⟨_, _, _, _, hv, _⟩
        · simp only [Value.slice.injEq] at hv
          obtain ⟨_, _, rfl⟩ := hv
          exact join_nil w
        · simp at hv
      | some a =>
        by_cases hc0 : c = 0
        · subst hc0
          exact join_empty0 a w
        · exact join_empty a c hcm hc0 w

end Go.Proofs.Qxb6617338a
