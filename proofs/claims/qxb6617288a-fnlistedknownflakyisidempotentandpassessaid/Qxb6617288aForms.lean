import Derived.Test.Qxb6617288aListed2
import Derived.Test.Qxb6617288aFits
import Derived.Test.Qxb6617288aHas
namespace Go.Proofs.Qxb6617288a
open Go.RowKit

/-! The contracts once more, the slice that is handed back written out. -/
theorem clone_form (v : Value) (ss : List ByteArray) (nl : Bool) (w : World) (hs : SL w nl v ss) (hn : ss.length ≤ 1048576) :
    Calls Try.prog 8 #[v] w fun e w' => ∃ a c, e = .returned (.slice a ss.length c) ∧ SL w' nl (.slice a ss.length c) ss ∧ Below w.heap.size w w' := by
  refine (clone_any v ss nl w hs hn).mono ?_
  rintro e w' ⟨v', rfl, h1, h2⟩
  obtain ⟨a, c, rfl, _, _⟩ := h1.len
  exact ⟨a, c, rfl, h1, h2⟩

theorem listed_kf_failed_form (name status l : ByteArray) (v : Value) (nl : Bool) (ss : List ByteArray) (w : World) (h1 : isKf l = true) (h3 : isFailed status = true) (hs : SL w nl v ss) (hn : ss.length ≤ 1048576) :
    Calls Try.prog 9 #[.agg #[.string name, .string status, v], .string l] w fun e w' => ∃ b off c, e = .returned (.agg #[.string name, .string ⟨#[80, 65, 83, 83, 69, 68]⟩, .slice (some ⟨b, off, none⟩) (ss.length + 1) c]) ∧ SL w' false (.slice (some ⟨b, off, none⟩) (ss.length + 1) c) (msgA :: ss) ∧ ss.length + 1 ≤ c ∧ c ≤ maxLen ∧ Below w.heap.size w w' := by
  refine (listed_kf_failed name status l v nl ss w h1 h3 hs hn).mono ?_
  rintro e w' ⟨v', rfl, h1, h2⟩
  obtain ⟨b, off, c, rfl, hc, hm, _⟩ := h1.pos (by simp)
  exact ⟨b, off, c, rfl, h1, hc, hm, h2⟩

theorem listed_ky_failed_form (name status l : ByteArray) (v : Value) (nl : Bool) (ss : List ByteArray) (w : World) (h1 : isKf l = false) (h2 : isKy l = true) (h3 : isFailed status = true) (hs : SL w nl v ss) (hn : ss.length ≤ 1048576) :
    Calls Try.prog 9 #[.agg #[.string name, .string status, v], .string l] w fun e w' => ∃ b off c, e = .returned (.agg #[.string name, .string ⟨#[80, 65, 83, 83, 69, 68]⟩, .slice (some ⟨b, off, none⟩) (ss.length + 1) c]) ∧ SL w' false (.slice (some ⟨b, off, none⟩) (ss.length + 1) c) (msgC :: ss) ∧ ss.length + 1 ≤ c ∧ c ≤ maxLen ∧ Below w.heap.size w w' := by
  refine (listed_ky_failed name status l v nl ss w h1 h2 h3 hs hn).mono ?_
  rintro e w' ⟨v', rfl, h1, h2⟩
  obtain ⟨b, off, c, rfl, hc, hm, _⟩ := h1.pos (by simp)
  exact ⟨b, off, c, rfl, h1, hc, hm, h2⟩

theorem listed_kf_passed_form (name status l : ByteArray) (a : Option Addr) (n c : Nat) (w : World) (h1 : isKf l = true) (h3 : isFailed status = false) (h4 : isPassed status = true) :
    Calls Try.prog 9 #[.agg #[.string name, .string status, .slice a n c], .string l] w fun e w' => ∃ b off c, e = .returned (.agg #[.string name, .string ⟨#[70, 65, 73, 76, 69, 68]⟩, .slice (some ⟨b, off, none⟩) 1 c]) ∧ SL w' false (.slice (some ⟨b, off, none⟩) 1 c) [msgB] ∧ 1 ≤ c ∧ c ≤ maxLen ∧ Below w.heap.size w w' := by
  refine (listed_kf_passed name status l a n c w h1 h3 h4).mono ?_
  rintro e w' ⟨v', rfl, h1, h2⟩
  obtain ⟨b, off, c, rfl, hc, hm, _⟩ := h1.pos (by simp)
  exact ⟨b, off, c, rfl, h1, hc, hm, h2⟩

theorem listed_kf_failed_one (name status l : ByteArray) (b off c : Nat) (w : World) (h1 : isKf l = true) (h3 : isFailed status = true) (hs : SL w false (.slice (some ⟨b, off, none⟩) 1 c) [msgB]) :
    Calls Try.prog 9 #[.agg #[.string name, .string status, .slice (some ⟨b, off, none⟩) 1 c], .string l] w fun e w' => ∃ b off c, e = .returned (.agg #[.string name, .string ⟨#[80, 65, 83, 83, 69, 68]⟩, .slice (some ⟨b, off, none⟩) 2 c]) ∧ SL w' false (.slice (some ⟨b, off, none⟩) 2 c) [msgA, msgB] ∧ 2 ≤ c ∧ c ≤ maxLen ∧ Below w.heap.size w w' :=
  listed_kf_failed_form name status l _ false [msgB] w h1 h3 hs (by simp)

/-! The constants' tests. -/
theorem kf_kf : isKf ⟨#[107, 110, 111, 119, 110, 45, 102, 97, 105, 108, 105, 110, 103]⟩ = true := by decide +kernel
theorem kf_ky : isKy ⟨#[107, 110, 111, 119, 110, 45, 102, 97, 105, 108, 105, 110, 103]⟩ = false := by decide +kernel
theorem ky_kf : isKf ⟨#[107, 110, 111, 119, 110, 45, 102, 108, 97, 107, 121]⟩ = false := by decide +kernel
theorem ky_ky : isKy ⟨#[107, 110, 111, 119, 110, 45, 102, 108, 97, 107, 121]⟩ = true := by decide +kernel
theorem fa_fa : isFailed ⟨#[70, 65, 73, 76, 69, 68]⟩ = true := by decide +kernel
theorem fa_pa : isPassed ⟨#[70, 65, 73, 76, 69, 68]⟩ = false := by decide +kernel
theorem pa_fa : isFailed ⟨#[80, 65, 83, 83, 69, 68]⟩ = false := by decide +kernel
theorem pa_pa : isPassed ⟨#[80, 65, 83, 83, 69, 68]⟩ = true := by decide +kernel

/-! The same tests, the constant ahead. -/
theorem failed_flip {s : ByteArray} (h : isFailed s = true) : ([70, 65, 73, 76, 69, 68] == s.toList) = true := by
  have : s.toList = [70, 65, 73, 76, 69, 68] := by simpa [isFailed] using h
  rw [this]; rfl
theorem passed_flip {s : ByteArray} (h : isPassed s = true) : ([80, 65, 83, 83, 69, 68] == s.toList) = true := by
  have : s.toList = [80, 65, 83, 83, 69, 68] := by simpa [isPassed] using h
  rw [this]; rfl
theorem failed_not_passed {s : ByteArray} (h : isFailed s = true) : isPassed s = false := by
  have : s.toList = [70, 65, 73, 76, 69, 68] := by simpa [isFailed] using h
  unfold isPassed; rw [this]; rfl
theorem passed_not_failed {s : ByteArray} (h : isPassed s = true) : isFailed s = false := by
  have : s.toList = [80, 65, 83, 83, 69, 68] := by simpa [isPassed] using h
  unfold isFailed; rw [this]; rfl

/-! Each new reason names its list. -/
theorem hasA (w : World) : Calls Try.prog 11 #[.string msgA, .string ⟨#[107, 110, 111, 119, 110, 45, 102, 97, 105, 108, 105, 110, 103]⟩] w fun e w' => e = .returned (.bool true) ∧ w' = w :=
  has_any _ _ 28 w (by decide +kernel) (by decide +kernel) (by decide +kernel) (by decide +kernel)
theorem hasB (w : World) : Calls Try.prog 11 #[.string msgB, .string ⟨#[107, 110, 111, 119, 110, 45, 102, 97, 105, 108, 105, 110, 103]⟩] w fun e w' => e = .returned (.bool true) ∧ w' = w :=
  has_any _ _ 33 w (by decide +kernel) (by decide +kernel) (by decide +kernel) (by decide +kernel)
theorem hasC (w : World) : Calls Try.prog 11 #[.string msgC, .string ⟨#[107, 110, 111, 119, 110, 45, 102, 108, 97, 107, 121]⟩] w fun e w' => e = .returned (.bool true) ∧ w' = w :=
  has_any _ _ 53 w (by decide +kernel) (by decide +kernel) (by decide +kernel) (by decide +kernel)
theorem neAB : (msgA.toList == msgB.toList) = false := by decide +kernel
theorem neBA : (msgB.toList == msgA.toList) = false := by decide +kernel

/-- The first of the strings, and the others. -/
theorem SL.head {w : World} {b off n c : Nat} {s : ByteArray} {ss : List ByteArray} (h : SL w false (.slice (some ⟨b, off, none⟩) n c) (s :: ss)) : w.cell? ⟨b, off, none⟩ = some (.string s) := by
  obtain ⟨b', off', cap', hv, _, _, hc⟩ := h.pos (by simp)
  simp only [Value.slice.injEq, Option.some.injEq, Addr.mk.injEq, and_true] at hv
  obtain ⟨⟨rfl, rfl⟩, _⟩ := hv
  simpa using hc 0 (by simp)
theorem SL.second {w : World} {b off n c : Nat} {s t : ByteArray} {ss : List ByteArray} (h : SL w false (.slice (some ⟨b, off, none⟩) n c) (s :: t :: ss)) : w.cell? ⟨b, off + 1, none⟩ = some (.string t) := by
  obtain ⟨b', off', cap', hv, _, _, hc⟩ := h.pos (by simp)
  simp only [Value.slice.injEq, Option.some.injEq, Addr.mk.injEq, and_true] at hv
  obtain ⟨⟨rfl, rfl⟩, _⟩ := hv
  simpa using hc 1 (by simp)
/-- 's[1:]', as the walk writes it: at the capacity's end the address stays. -/
theorem SL.tail {w : World} {b off n c : Nat} {s : ByteArray} {ss : List ByteArray} (h : SL w false (.slice (some ⟨b, off, none⟩) n c) (s :: ss)) (a : Addr) (ha : 0 < ss.length → a = ⟨b, off + 1, none⟩) (hc1 : 1 ≤ c) :
    SL w false (.slice (some a) (n - 1) (c - 1)) ss := by
  obtain ⟨b', off', cap', hv, h1, h2, hc⟩ := h.pos (by simp)
  simp only [Value.slice.injEq, Option.some.injEq, Addr.mk.injEq, and_true] at hv
  obtain ⟨⟨rfl, rfl⟩, hn, rfl⟩ := hv
  simp at hn h1
  subst hn
  obtain ⟨b1, o1, p1⟩ := a
  refine ⟨b1, o1, p1, c - 1, by simp, by omega, by omega, fun h0 => ?_, fun i hi => ?_⟩
  · have := ha h0
    simp at this
    exact this.2.2
  · have := ha (by omega)
    simp at this
    obtain ⟨rfl, rfl, rfl⟩ := this
    have := hc (i + 1) (by simpa using hi)
    rw [show off + 1 + i = off + (i + 1) by omega]
    simpa using this

theorem SL.tail' {w : World} {b off m c d : Nat} {s : ByteArray} {ss : List ByteArray} (h : SL w false (.slice (some ⟨b, off, none⟩) (m + 1) c) (s :: ss)) (a : Addr) (ha : 0 < ss.length → a = ⟨b, off + 1, none⟩) (hc1 : 1 ≤ c) (hd : d = c - 1) :
    SL w false (.slice (some a) m d) ss := by
  subst hd
  exact h.tail a ha hc1

/-! Small steps between worlds. -/
theorem nx_trans {a b c : World} (h : Below a.heap.size a b) (k : Below b.heap.size b c) : Below a.heap.size a c := h.trans (k.mono h.size)
theorem nx_alloc (w : World) (o : Obj) : Below w.heap.size w (w.alloc o) := (Below.refl _ _).alloc (Nat.le_refl _) _
theorem nx_drewN (w : World) (n : Nat) : Below w.heap.size w (w.drewN n) := below_drewN (Below.refl _ _) n
/-- A struct of three fields in a box reads in every later world as it was laid. -/
theorem box_later {w w' : World} {x0 x1 x2 : Value} {t : TypeId} (hb : Below (w.alloc (.cells #[x0, x1, x2] t)).heap.size (w.alloc (.cells #[x0, x1, x2] t)) w') :
    w.heap.size < w'.heap.size ∧ w'.cell? ⟨w.heap.size, 0, none⟩ = some x0 ∧ w'.cell? ⟨w.heap.size, 1, none⟩ = some x1 ∧ w'.cell? ⟨w.heap.size, 2, none⟩ = some x2 := by
  have h := hb.size
  simp at h
  refine ⟨by omega, ?_, ?_, ?_⟩
  all_goals
    rw [hb.cell (by simp)]
    rw [World.cell?_alloc_at _ _ _ _ rfl]
    simp

end Go.Proofs.Qxb6617288a
