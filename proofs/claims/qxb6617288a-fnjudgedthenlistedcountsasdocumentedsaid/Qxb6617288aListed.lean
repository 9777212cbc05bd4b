import Derived.Test.Qxb6617288aSame
import Derived.Deep.RegionHeld3
import Derived.Deep.AppendLies
namespace Go.Proofs.Qxb6617288a
open Go.RowKit

/-- The four tests of Listed, in the walk's own form. -/
def isKf (l : ByteArray) : Bool := l.toList == [107, 110, 111, 119, 110, 45, 102, 97, 105, 108, 105, 110, 103]
def isKy (l : ByteArray) : Bool := l.toList == [107, 110, 111, 119, 110, 45, 102, 108, 97, 107, 121]
def isFailed (s : ByteArray) : Bool := s.toList == [70, 65, 73, 76, 69, 68]
def isPassed (s : ByteArray) : Bool := s.toList == [80, 65, 83, 83, 69, 68]

set_option maxHeartbeats 400000 in
theorem judged_fails (name : ByteArray) (a : Option Addr) (n c : Nat) (w : World) (hn : 0 < n) :
    Calls Try.prog 15 #[.string name, .slice a n c] w fun e w' => e = .returned (.agg #[.string name, .string ⟨#[70, 65, 73, 76, 69, 68]⟩, .slice a n c]) ∧ Below w.heap.size w w' := by
  go_enter Try.func15, Try.ntmps15
  go_wp2
  exact bodyPost_ret (v := .agg #[.string name, .string ⟨#[70, 65, 73, 76, 69, 68]⟩, .slice a n c]) (by simp [results, Try.results15, go_sem]) rfl ⟨rfl, (Below.refl _ _).alloc (Nat.le_refl _) _⟩

set_option maxHeartbeats 400000 in
theorem judged_passes (name : ByteArray) (a : Option Addr) (c : Nat) (w : World) :
    Calls Try.prog 15 #[.string name, .slice a 0 c] w fun e w' => e = .returned (.agg #[.string name, .string ⟨#[80, 65, 83, 83, 69, 68]⟩, .slice none 0 0]) ∧ Below w.heap.size w w' := by
  go_enter Try.func15, Try.ntmps15
  go_wp2
  exact bodyPost_ret (v := .agg #[.string name, .string ⟨#[80, 65, 83, 83, 69, 68]⟩, .slice none 0 0]) (by simp [results, Try.results15, go_sem]) rfl ⟨rfl, (Below.refl _ _).alloc (Nat.le_refl _) _⟩

/-- Neither list: o as it was. -/
theorem listed_none (name status l : ByteArray) (a : Option Addr) (n c : Nat) (w : World) (h1 : isKf l = false) (h2 : isKy l = false) :
    Calls Try.prog 9 #[.agg #[.string name, .string status, .slice a n c], .string l] w fun e w' => e = .returned (.agg #[.string name, .string status, .slice a n c]) ∧ Below w.heap.size w w' := by
  unfold isKf at h1
  unfold isKy at h2
  go_enter Try.func9, Try.ntmps9
  go_wp2
  exact bodyPost_ret (v := .agg #[.string name, .string status, .slice a n c]) (by simp [results, Try.results9, go_sem]) rfl ⟨rfl, ((Below.refl _ _).alloc (Nat.le_refl _) _).alloc (by simp) _⟩

/-- known-failing, neither FAILED nor PASSED: o as it was. -/
theorem listed_kf_other (name status l : ByteArray) (a : Option Addr) (n c : Nat) (w : World) (h1 : isKf l = true) (h2 : isKy l = false) (h3 : isFailed status = false) (h4 : isPassed status = false) :
    Calls Try.prog 9 #[.agg #[.string name, .string status, .slice a n c], .string l] w fun e w' => e = .returned (.agg #[.string name, .string status, .slice a n c]) ∧ Below w.heap.size w w' := by
  unfold isKf at h1
  unfold isKy at h2
  unfold isFailed at h3
  unfold isPassed at h4
  go_enter Try.func9, Try.ntmps9
  go_wp2
  exact bodyPost_ret (v := .agg #[.string name, .string status, .slice a n c]) (by simp [results, Try.results9, go_sem]) rfl ⟨rfl, ((Below.refl _ _).alloc (Nat.le_refl _) _).alloc (by simp) _⟩

/-- known-flaky, not FAILED: o as it was. -/
theorem listed_ky_other (name status l : ByteArray) (a : Option Addr) (n c : Nat) (w : World) (h1 : isKf l = false) (h2 : isKy l = true) (h3 : isFailed status = false) :
    Calls Try.prog 9 #[.agg #[.string name, .string status, .slice a n c], .string l] w fun e w' => e = .returned (.agg #[.string name, .string status, .slice a n c]) ∧ Below w.heap.size w w' := by
  unfold isKf at h1
  unfold isKy at h2
  unfold isFailed at h3
  go_enter Try.func9, Try.ntmps9
  go_wp2
  exact bodyPost_ret (v := .agg #[.string name, .string status, .slice a n c]) (by simp [results, Try.results9, go_sem]) rfl ⟨rfl, ((Below.refl _ _).alloc (Nat.le_refl _) _).alloc (by simp) _⟩

def msgA : ByteArray := ⟨#[102, 97, 105, 108, 101, 100, 44, 32, 97, 115, 32, 97, 32, 99, 97, 115, 101, 32, 108, 105, 115, 116, 101, 100, 32, 97, 115, 32, 107, 110, 111, 119, 110, 45, 102, 97, 105, 108, 105, 110, 103, 32, 109, 117, 115, 116]⟩
def msgB : ByteArray := ⟨#[112, 97, 115, 115, 101, 100, 44, 32, 97, 108, 116, 104, 111, 117, 103, 104, 32, 105, 116, 32, 105, 115, 32, 108, 105, 115, 116, 101, 100, 32, 97, 115, 32, 107, 110, 111, 119, 110, 45, 102, 97, 105, 108, 105, 110, 103]⟩

theorem far_ne {k o g n c : Nat} (h : k ≠ g) : some (⟨k, o, none⟩ : Addr).block ≠ (Value.slice (some ⟨g, 0, none⟩) n c).ownBlock := by
  simp only [Value.ownBlock, ne_eq, Option.some.injEq]
  exact h

theorem below3 (w : World) (o1 o2 o3 : Obj) : Below w.heap.size w (((w.alloc o1).alloc o2).alloc o3).drew :=
  ((((Below.refl _ _).alloc (Nat.le_refl _) _).alloc (by simp) _).alloc (by simp; omega) _).drew

theorem SL_one (w : World) (s : ByteArray) (g : Nat) (hg : g = w.heap.size) : SL (w.alloc (.cells #[.string s] 9)) false (.slice (some ⟨g, 0, none⟩) 1 1) [s] := by
  refine ⟨g, 0, none, 1, rfl, Nat.le_refl _, by decide, fun _ => rfl, fun i hi => ?_⟩
  obtain rfl : i = 0 := by simpa using hi
  rw [World.cell?_alloc_at _ _ _ _ hg]
  simp

/-- known-failing and PASSED: FAILED, one reason. -/
theorem listed_kf_passed (name status l : ByteArray) (a : Option Addr) (n c : Nat) (w : World) (h1 : isKf l = true) (h3 : isFailed status = false) (h4 : isPassed status = true) :
    Calls Try.prog 9 #[.agg #[.string name, .string status, .slice a n c], .string l] w fun e w' => ∃ v, e = .returned (.agg #[.string name, .string ⟨#[70, 65, 73, 76, 69, 68]⟩, v]) ∧ SL w' false v [msgB] ∧ Below w.heap.size w w' := by
  unfold isKf at h1
  unfold isFailed at h3
  unfold isPassed at h4
  go_enter Try.func9, Try.ntmps9
  go_wp2
  exact bodyPost_ret (v := .agg #[.string name, .string ⟨#[70, 65, 73, 76, 69, 68]⟩, .slice (some ⟨w.heap.size + 1 + 1, 0, none⟩) 1 1]) (by simp [results, Try.results9, go_sem]) rfl ⟨_, rfl, SL_one _ _ _ (by simp), (((Below.refl _ _).alloc (Nat.le_refl _) _).alloc (by simp) _).alloc (by simp; omega) _⟩

set_option maxHeartbeats 400000 in
theorem listed_kf_failed_empty (name status l : ByteArray) (a : Option Addr) (c : Nat) (w : World) (h1 : isKf l = true) (h3 : isFailed status = true) :
    Calls Try.prog 9 #[.agg #[.string name, .string status, .slice a 0 c], .string l] w fun e w' => ∃ v, e = .returned (.agg #[.string name, .string ⟨#[80, 65, 83, 83, 69, 68]⟩, v]) ∧ SL w' false v [msgA] ∧ Below w.heap.size w w' := by
  unfold isKf at h1
  unfold isFailed at h3
  cases a
  all_goals
    go_enter Try.func9, Try.ntmps9
    go_wp2
    go_region
    all_goals go_wp2
    all_goals exact bodyPost_ret (v := .agg #[.string name, .string ⟨#[80, 65, 83, 83, 69, 68]⟩, .slice (some ⟨w.heap.size + 1 + 1, 0, none⟩) 1 1]) (by simp [results, Try.results9, go_sem]) rfl ⟨_, rfl, SL_one _ _ _ (by simp), below3 _ _ _ _⟩

theorem owns_one (w2 : World) (s : ByteArray) (g base : Nat) (hg : g = w2.heap.size) (hb : base ≤ g) : (w2.alloc (.cells #[.string s] 9)).drew.ownsRow base 9 1 (.slice (some ⟨g, 0, none⟩) 1 1) 1 [.string s] := by
  subst hg
  exact (World.ownsRow_lit w2 #[.string s] 1 hb (by decide) rfl).drew

theorem news_cells {w w' : World} {b off n : Nat} {ss : List ByteArray} (hb : Below w.heap.size w w') (hn : ss.length = n) (hc : ∀ i, i < n → w.cell? ⟨b, off + i, none⟩ = some (.string (ss.getD i ByteArray.empty))) :
    ∀ j u, (ss.map Value.string)[j]? = some u → w'.cell? ((⟨b, off, none⟩ : Addr).add j) = some u := by
  intro j u hu
  have hj : j < ss.length := by
    have := (List.getElem?_eq_some_iff.1 hu).1
    simpa using this
  rw [Addr.add_lit]
  rw [cell_later hb (hc j (by omega))]
  rw [List.getElem?_map, List.getElem?_eq_getElem hj] at hu
  simpa [List.getD, hj] using hu

theorem strs_oneCell (ss : List ByteArray) : ∀ u ∈ ss.map Value.string, u.oneCell' = true := by
  intro u hu
  obtain ⟨_, _, rfl⟩ := List.mem_map.1 hu
  rfl

/-- Three stores into block B. -/
def stored3 (w1 : World) (B : Nat) (x0 x1 x2 : Value) : World := ((w1.setCell ⟨B, 0, none⟩ x0).setCell ⟨B, 1, none⟩ x1).setCell ⟨B, 2, none⟩ x2

theorem stored3_grown (w1 : World) (B : Nat) (x0 x1 x2 : Value) : w1.grownBy (stored3 w1 B x0 x1 x2) (some B) := by
  refine ⟨rfl, rfl, rfl, by simp [stored3, World.setCell], fun k _ hk => ?_⟩
  have hk' : k ≠ B := fun e => hk (by rw [e])
  unfold stored3
  rw [Below.heap_setCell _ _ _ _ hk', Below.heap_setCell _ _ _ _ hk', Below.heap_setCell _ _ _ _ hk']

theorem stored3_cells {w1 : World} {B : Nat} {x0 x1 x2 y0 y1 y2 : Value} (h0 : w1.cell? ⟨B, 0, none⟩ = some y0) (h1 : w1.cell? ⟨B, 1, none⟩ = some y1) (h2 : w1.cell? ⟨B, 2, none⟩ = some y2) :
    (stored3 w1 B x0 x1 x2).cell? ⟨B, 0, none⟩ = some x0 ∧ (stored3 w1 B x0 x1 x2).cell? ⟨B, 1, none⟩ = some x1 ∧ (stored3 w1 B x0 x1 x2).cell? ⟨B, 2, none⟩ = some x2 := by
  unfold stored3
  refine ⟨?_, ?_, ?_⟩ <;> go_simp

theorem SL_of_owns {w1 : World} {base gg cap n : Nat} {m : ByteArray} {ss : List ByteArray} (hown : w1.ownsRow base 9 1 (.slice (some ⟨gg, 0, none⟩) (1 + n) cap) (1 + n) ([.string m] ++ ss.map Value.string)) (hn : ss.length = n) :
    SL w1 false (.slice (some ⟨gg, 0, none⟩) (1 + n) cap) (m :: ss) := by
  refine SN_of_owns hown (by simp; omega) fun j hj => ?_
  cases j with
  | zero => simp
  | succ j =>
    have : j < ss.length := by omega
    simp [List.getD, this]

/-- What Listed leaves behind the append. -/
theorem listed_end {w1 : World} {wa w : World} {base gg cap n B : Nat} {m : ByteArray} {ss : List ByteArray} {x0 x1 : Value} (hown : w1.ownsRow base 9 1 (.slice (some ⟨gg, 0, none⟩) (1 + n) cap) (1 + n) ([.string m] ++ ss.map Value.string)) (hn : ss.length = n)
    (hgrow : wa.grownBy w1 (Value.slice (some ⟨B + 1, 0, none⟩) 1 1).ownBlock) (hat : (Value.slice (some ⟨B + 1, 0, none⟩) 1 1).ownBlock = some gg ∨ gg = B + 1 + 1) (hB : B = w.heap.size + 1) (hwa : Below w.heap.size w wa) :
    SL (stored3 w1 B x0 x1 (.slice (some ⟨gg, 0, none⟩) (1 + n) cap)) false (.slice (some ⟨gg, 0, none⟩) (1 + n) cap) (m :: ss) ∧ Below w.heap.size w (stored3 w1 B x0 x1 (.slice (some ⟨gg, 0, none⟩) (1 + n) cap)) := by
  have hg := stored3_grown w1 B x0 x1 (.slice (some ⟨gg, 0, none⟩) (1 + n) cap)
  have hgB : gg ≠ B := by
    rcases hat with h | h
    · simp only [Value.ownBlock, Option.some.injEq] at h; omega
    · omega
  have hs1 := hwa.size
  have hb1 : Below w.heap.size w w1 := hwa.grown hgrow hs1 (fun k hk => by simp only [Value.ownBlock, Option.some.injEq] at hk; omega)
  have hs2 := hb1.size
  refine ⟨SL_of_owns (hown.kept hg (.inr ?_)) hn, hb1.grown hg hs2 (fun k hk => by simp only [Option.some.injEq] at hk; omega)⟩
  simp only [Value.ownBlock, ne_eq, Option.some.injEq]
  exact hgB

set_option maxHeartbeats 1000000 in
set_option maxRecDepth 100000 in
theorem listed_kf_failed_some (name status l : ByteArray) (b off n c : Nat) (ss : List ByteArray) (w : World) (h1 : isKf l = true) (h3 : isFailed status = true) (hn : ss.length = n) (h0 : 0 < n) (hn2 : n ≤ 1048576)
    (hc : ∀ i, i < n → w.cell? ⟨b, off + i, none⟩ = some (.string (ss.getD i ByteArray.empty))) :
    Calls Try.prog 9 #[.agg #[.string name, .string status, .slice (some ⟨b, off, none⟩) n c], .string l] w fun e w' => ∃ v, e = .returned (.agg #[.string name, .string ⟨#[80, 65, 83, 83, 69, 68]⟩, v]) ∧ SL w' false v (msgA :: ss) ∧ Below w.heap.size w w' := by
  unfold isKf at h1
  unfold isFailed at h3
  obtain ⟨i0, hi0, hz0, hz1, hz2⟩ := info_parts Try.info9
  have hbw : b < w.heap.size := World.block_lt_of_cell? _ _ (hc 0 h0)
  have HN : Hid (ss.length = n) := hn
  clear hn
  go_enter Try.func9, Try.ntmps9
  go_wp2
  go_region_held3 (fun w' => w'.cell? ⟨w.heap.size, 0, none⟩ = some (.string name) ∧ w'.cell? ⟨w.heap.size, 2, none⟩ = some (.slice (some ⟨b, off, none⟩) n c))
    (first
      | go_keep
      | (go_split_ands
         refine ⟨?_, ?_⟩
         · (rw [hgrow.cell_far _ (by simp; omega) (far_ne (by omega))]; assumption)
         · (rw [hgrow.cell_far _ (by simp; omega) (far_ne (by omega))]; assumption)))
    ((refine step_append_lies _ (by rfl) _ _ _ (by rfl) w.heap.size 9 i0 _ 1 16 Try.underlying22 hi0 hz0 hz1 hz2 rfl (by omega) (.slice (some ⟨w.heap.size + 1 + 1, 0, none⟩) 1 1) 1 [.string msgA] (by rfl) (owns_one _ _ _ _ (by simp) (by omega))
        ⟨b, off, none⟩ n c (ss.map Value.string) (by rfl) (by rw [List.length_map, HN.out, Nat.mul_one]) (news_cells (below3 _ _ _ _) HN.out hc) (strs_oneCell ss)
        h0 (by unfold maxLen; omega) (by omega) (by simp; omega) (w.heap.size + 1 + 1 + 1) (by simp) ?_; intro gg cap w1 hown1 hgrow hat hlt; have hf := fun o => hgrow.cell_far ⟨w.heap.size + 1, o, none⟩ (by simp) (far_ne (by omega)); have hf2 := fun o => hgrow.frozen_far ⟨w.heap.size + 1, o, none⟩ (by simp) (far_ne (by omega))))
  have q0 : w1.cell? ⟨w.heap.size + 1, 0, none⟩ = some (.string ⟨#[]⟩) := by rw [hf]; go_simp
  have q1 : w1.cell? ⟨w.heap.size + 1, 1, none⟩ = some (.string ⟨#[]⟩) := by rw [hf]; go_simp
  have q2 : w1.cell? ⟨w.heap.size + 1, 2, none⟩ = some (.slice none 0 0) := by rw [hf]; go_simp
  have HE := hide (listed_end (x0 := .string name) (x1 := .string ⟨#[80, 65, 83, 83, 69, 68]⟩) (w := w) hown1 HN.out hgrow hat rfl (below3 _ _ _ _))
  clear hf hf2 hown1 hgrow hat
  go_wp2
  obtain ⟨r0, r1, r2⟩ := stored3_cells (x0 := .string name) (x1 := .string ⟨#[80, 65, 83, 83, 69, 68]⟩) (x2 := .slice (some ⟨gg, 0, none⟩) (1 + n) cap) q0 q1 q2
  unfold stored3 at r0 r1 r2
  exact bodyPost_ret (v := .agg #[.string name, .string ⟨#[80, 65, 83, 83, 69, 68]⟩, .slice (some ⟨gg, 0, none⟩) (1 + n) cap]) (by simp [results, Try.results9, go_sem, r0, r1, r2]) rfl ⟨_, rfl, (HE.out).1, (HE.out).2⟩

end Go.Proofs.Qxb6617288a
