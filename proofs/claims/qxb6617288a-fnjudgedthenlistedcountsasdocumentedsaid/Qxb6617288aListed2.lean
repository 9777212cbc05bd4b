import Derived.Test.Qxb6617288aListed
namespace Go.Proofs.Qxb6617288a
open Go.RowKit

def msgC : ByteArray := ⟨#[102, 97, 105, 108, 101, 100, 44, 32, 119, 104, 105, 99, 104, 32, 99, 111, 117, 110, 116, 115, 32, 97, 115, 32, 112, 97, 115, 115, 101, 100, 32, 115, 105, 110, 99, 101, 32, 105, 116, 32, 105, 115, 32, 108, 105, 115, 116, 101, 100, 32, 97, 115, 32, 107, 110, 111, 119, 110, 45, 102, 108, 97, 107, 121]⟩

set_option maxHeartbeats 400000 in
theorem listed_ky_failed_empty (name status l : ByteArray) (a : Option Addr) (c : Nat) (w : World) (h1 : isKf l = false) (h2 : isKy l = true) (h3 : isFailed status = true) :
    Calls Try.prog 9 #[.agg #[.string name, .string status, .slice a 0 c], .string l] w fun e w' => ∃ v, e = .returned (.agg #[.string name, .string ⟨#[80, 65, 83, 83, 69, 68]⟩, v]) ∧ SL w' false v [msgC] ∧ Below w.heap.size w w' := by
  unfold isKf at h1
  unfold isKy at h2
  unfold isFailed at h3
  cases a
  all_goals
    go_enter Try.func9, Try.ntmps9
    go_wp2
    go_region
    all_goals go_wp2
    all_goals exact bodyPost_ret (v := .agg #[.string name, .string ⟨#[80, 65, 83, 83, 69, 68]⟩, .slice (some ⟨w.heap.size + 1 + 1, 0, none⟩) 1 1]) (by simp [results, Try.results9, go_sem]) rfl ⟨_, rfl, SL_one _ _ _ (by simp), below3 _ _ _ _⟩

set_option maxHeartbeats 1000000 in
set_option maxRecDepth 100000 in
theorem listed_ky_failed_some (name status l : ByteArray) (b off n c : Nat) (ss : List ByteArray) (w : World) (h1 : isKf l = false) (h2 : isKy l = true) (h3 : isFailed status = true) (hn : ss.length = n) (h0 : 0 < n) (hn2 : n ≤ 1048576)
    (hc : ∀ i, i < n → w.cell? ⟨b, off + i, none⟩ = some (.string (ss.getD i ByteArray.empty))) :
    Calls Try.prog 9 #[.agg #[.string name, .string status, .slice (some ⟨b, off, none⟩) n c], .string l] w fun e w' => ∃ v, e = .returned (.agg #[.string name, .string ⟨#[80, 65, 83, 83, 69, 68]⟩, v]) ∧ SL w' false v (msgC :: ss) ∧ Below w.heap.size w w' := by
  unfold isKf at h1
  unfold isKy at h2
  unfold isFailed at h3
  obtain ⟨i0, hi0, hz0, hz1, hz2⟩ := info_parts Try.info9
  have hbw : b < w.heap.size := World.block_lt_of_cell? _ _ (hc 0 h0)
  have HN : Hid (ss.length = n) := hn
  clear hn
  go_enter Try.func9, Try.ntmps9
  go_wp2
  go_region_held3 (fun w' => w'.cell? ⟨w.heap.size, 0, none⟩ = some (.string name) ∧ w'.cell? ⟨w.heap.size, 2, none⟩ = some (.slice (some ⟨b, off, none⟩) n c))
    (first
      | go_keep
      | (go_split_ands
         refine ⟨?_, ?_⟩
         · (rw [hgrow.cell_far _ (by simp; omega) (far_ne (by omega))]; assumption)
         · (rw [hgrow.cell_far _ (by simp; omega) (far_ne (by omega))]; assumption)))
    ((refine step_append_lies _ (by rfl) _ _ _ (by rfl) w.heap.size 9 i0 _ 1 16 Try.underlying22 hi0 hz0 hz1 hz2 rfl (by omega) (.slice (some ⟨w.heap.size + 1 + 1, 0, none⟩) 1 1) 1 [.string msgC] (by rfl) (owns_one _ _ _ _ (by simp) (by omega))
        ⟨b, off, none⟩ n c (ss.map Value.string) (by rfl) (by rw [List.length_map, HN.out, Nat.mul_one]) (news_cells (below3 _ _ _ _) HN.out hc) (strs_oneCell ss)
        h0 (by unfold maxLen; omega) (by omega) (by simp; omega) (w.heap.size + 1 + 1 + 1) (by simp) ?_; intro gg cap w1 hown1 hgrow hat hlt; have hf := fun o => hgrow.cell_far ⟨w.heap.size + 1, o, none⟩ (by simp) (far_ne (by omega)); have hf2 := fun o => hgrow.frozen_far ⟨w.heap.size + 1, o, none⟩ (by simp) (far_ne (by omega))))
  have q0 : w1.cell? ⟨w.heap.size + 1, 0, none⟩ = some (.string ⟨#[]⟩) := by rw [hf]; go_simp
  have q1 : w1.cell? ⟨w.heap.size + 1, 1, none⟩ = some (.string ⟨#[]⟩) := by rw [hf]; go_simp
  have q2 : w1.cell? ⟨w.heap.size + 1, 2, none⟩ = some (.slice none 0 0) := by rw [hf]; go_simp
  have HE := hide (listed_end (x0 := .string name) (x1 := .string ⟨#[80, 65, 83, 83, 69, 68]⟩) (w := w) hown1 HN.out hgrow hat rfl (below3 _ _ _ _))
  clear hf hf2 hown1 hgrow hat
  go_wp2
  obtain ⟨r0, r1, r2⟩ := stored3_cells (x0 := .string name) (x1 := .string ⟨#[80, 65, 83, 83, 69, 68]⟩) (x2 := .slice (some ⟨gg, 0, none⟩) (1 + n) cap) q0 q1 q2
  unfold stored3 at r0 r1 r2
  exact bodyPost_ret (v := .agg #[.string name, .string ⟨#[80, 65, 83, 83, 69, 68]⟩, .slice (some ⟨gg, 0, none⟩) (1 + n) cap]) (by simp [results, Try.results9, go_sem, r0, r1, r2]) rfl ⟨_, rfl, (HE.out).1, (HE.out).2⟩

/-- known-failing and FAILED: PASSED, one reason more at the head. -/
theorem listed_kf_failed (name status l : ByteArray) (v : Value) (nl : Bool) (ss : List ByteArray) (w : World) (h1 : isKf l = true) (h3 : isFailed status = true) (hs : SL w nl v ss) (hn : ss.length ≤ 1048576) :
    Calls Try.prog 9 #[.agg #[.string name, .string status, v], .string l] w fun e w' => ∃ v, e = .returned (.agg #[.string name, .string ⟨#[80, 65, 83, 83, 69, 68]⟩, v]) ∧ SL w' false v (msgA :: ss) ∧ Below w.heap.size w w' := by
  by_cases h0 : 0 < ss.length
  · obtain ⟨b, off, cap, rfl, hcap, hmax, hc⟩ := hs.pos h0
    exact listed_kf_failed_some name status l b off ss.length cap ss w h1 h3 rfl h0 hn hc
  · have h0 : ss = [] := List.eq_nil_of_length_eq_zero (by omega)
    subst h0
    obtain ⟨a, c, rfl, _, _⟩ := hs.len
    exact listed_kf_failed_empty name status l a c w h1 h3

/-- known-flaky and FAILED: PASSED, one reason more at the head. -/
theorem listed_ky_failed (name status l : ByteArray) (v : Value) (nl : Bool) (ss : List ByteArray) (w : World) (h1 : isKf l = false) (h2 : isKy l = true) (h3 : isFailed status = true) (hs : SL w nl v ss) (hn : ss.length ≤ 1048576) :
    Calls Try.prog 9 #[.agg #[.string name, .string status, v], .string l] w fun e w' => ∃ v, e = .returned (.agg #[.string name, .string ⟨#[80, 65, 83, 83, 69, 68]⟩, v]) ∧ SL w' false v (msgC :: ss) ∧ Below w.heap.size w w' := by
  by_cases h0 : 0 < ss.length
  · obtain ⟨b, off, cap, rfl, hcap, hmax, hc⟩ := hs.pos h0
    exact listed_ky_failed_some name status l b off ss.length cap ss w h1 h2 h3 rfl h0 hn hc
  · have h0 : ss = [] := List.eq_nil_of_length_eq_zero (by omega)
    subst h0
    obtain ⟨a, c, rfl, _, _⟩ := hs.len
    exact listed_ky_failed_empty name status l a c w h1 h2 h3

end Go.Proofs.Qxb6617288a
