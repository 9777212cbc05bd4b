import Derived.Test.Qxb6617288aOpen
import Derived.Test.Qxb6617288aLawThree
import Derived.Test.Qxb6617288aLawThreeE
namespace Go.Proofs.Qxb6617288a.three
open Go.ChangeShapes Go.WideShapes Go.ChangeAt Go.RowKit
open Go.ChangeMaps (open_string shut_string)
set_option linter.unusedVariables false

theorem walk (name l : ByteArray) (v : Value) (nl : Bool) (ss : List ByteArray) (w : World) (hs : SL w nl v ss) :
    Calls Try.prog 5 #[.string name, v, .string l] w fun e w' => e = .returned (.bool true) ∧ Below w.heap.size w w' := by
  by_cases h0 : 0 < ss.length
  · cases hl : isKf l
    · cases hy : isKy l
      · exact three_none_fails name l v nl ss w hs hl hy h0
      · exact three_ky_fails name l v nl ss w hs hl hy h0
    · exact three_kf_fails name l v nl ss w hs hl h0
  · have h0 : ss = [] := List.eq_nil_of_length_eq_zero (by omega)
    subst h0
    obtain ⟨a, c, rfl, _, _⟩ := hs.len
    cases hl : isKf l
    · cases hy : isKy l
      · exact three_none_passes name l a c nl w hs hl hy
      · exact three_ky_passes name l a c nl w hs hl hy
    · exact three_kf_passes name l a c nl w hs hl

set_option maxRecDepth 100000 in
theorem lifted (os : Os) (started : os.Started) (H : Type) (enc : TypeId × Value → H) :
    ReturnsInHanded {} Try.checked os 5 .any (Rows.fnJudgedThenListedCountsAsDocumentedSpec.pre6 enc Try.prog Try.f5 Rows.fnJudgedThenListedCountsAsDocumentedRow.domain false) (Rows.fnJudgedThenListedCountsAsDocumentedSpec.post enc Try.prog Try.f5 false true false false) := by
  refine returnsInHanded_of_change (C := Try.checked) own started (by kernel_rfl) Try.func5
    (ChangeSpec.witness6 (enc := enc) (C := Try.checked) false ⟨#[], #[.string ByteArray.empty, .slice none 0 0, .string ByteArray.empty], []⟩ 8 (by kernel_rfl) (by kernel_rfl) (by kernel_rfl) (by kernel_rfl)) ?_
  intro W base args ds gs before hval0 hW hcnd _
  have hval : ∀ (j : Nat) t v, Try.f5.params[j]? = some t → args[j]? = some v → Value.okWide Try.prog W .any base t v := hval0
  have hW' := hW
  obtain ⟨p, q, hA0, hV, rfl, hfz, hnd⟩ := hW
  have hA : DataW.TrodAll enc Try.prog W 0 (fun _ => true) true Try.f5.params.toList args.toList ds p := hA0
  rw [Try.params5] at hA hval
  obtain ⟨v0, vs0, d0, ds0, p0, q0, hargs, rfl, rfl, h0, r0⟩ := trodAll_cons hA
  obtain ⟨v1, vs1, d1, ds1, p1, q1, rfl, rfl, rfl, h1, r1⟩ := trodAll_cons r0
  obtain ⟨v2, vs2, d2, ds2, p2, q2, rfl, rfl, rfl, h2, r2⟩ := trodAll_cons r1
  obtain ⟨rfl, rfl, rfl⟩ := trodAll_nil r2
  obtain rfl : args = #[v0, v1, v2] := by cases args; simp_all
  obtain ⟨rfl, rfl⟩ := trodVars_none hV
  obtain ⟨a0, rfl, rfl, rfl, w0⟩ := open_string Try.underlying9 (hval 0 9 v0 rfl rfl) h0
  obtain ⟨a1, len1, cap1, rfl⟩ := okWide_slice Try.underlying22 (hval 1 22 v1 rfl rfl)
  obtain ⟨a2, rfl, rfl, rfl, w2⟩ := open_string Try.underlying9 (hval 2 9 v2 rfl rfl) h2
  have k1 := h1
  have lt1 : ∀ x ∈ p1, x.block < W.heap.size := by obtain ⟨m, hm⟩ := k1; exact DataW.trod_lt m _ _ _ hm
  obtain ⟨nl, ss, w1⟩ := open_SL h1
  clear hA0 hval0
  refine (walk a0 a2 _ nl ss W w1).mono fun e W' ⟨he, bel⟩ => ?_
  subst he
  exact ⟨_, rfl, _, _, _, [], _, [], hW', trodAll_mk1 (shut_bool Try.underlying4 _), (trodAll_cons_mk (shut_string Try.underlying9 w0) (trodAll_cons_mk (Below.trod laidOut (by kernel_rfl) (of_decide_eq_true (by kernel_rfl)) k1 bel lt1) (trodAll_cons_mk (shut_string Try.underlying9 w2) trodAll_mk0))), rfl, bel.frame _, fun h => by cases h⟩

theorem over : Rows.fnJudgedThenListedCountsAsDocumentedRow.holds Try.pinned (OpenSpec.ofChange Rows.fnJudgedThenListedCountsAsDocumentedSpec) :=
  OpenClaim.holds_of_wide 5 Try.f5 rfl rfl rfl rfl rfl rfl rfl ⟨rfl, rfl, rfl, rfl, rfl⟩ rfl rfl rfl rfl rfl (by kernel_rfl) Try.func5 (by kernel_rfl)
    (of_decide_eq_true (by kernel_rfl)) (by unfold Func.isWrapper; first | (rw [if_pos (by decide +kernel)]; kernel_rfl) | (rw [if_neg (by decide +kernel)]; exact ⟨rfl, rfl⟩))
    (fun os started H enc _ => lifted os started H enc)

end Go.Proofs.Qxb6617288a.three
namespace Go.Proofs.Qxb6617288a
/-- THE STATEMENT. -/
theorem threeProved : Rows.FnJudgedThenListedCountsAsDocumentedSaid := three.over
#print axioms threeProved
end Go.Proofs.Qxb6617288a
