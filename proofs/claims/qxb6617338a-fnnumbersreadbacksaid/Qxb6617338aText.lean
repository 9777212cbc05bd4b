import Derived.Test.Qxb6617338aNumbers
namespace Go.Proofs.Qxb6617338a
open Go.RowKit

set_option maxHeartbeats 1000000 in
set_option maxRecDepth 100000 in
theorem numbers_none (a : Option Addr) (c : Nat) (w : World) :
    Calls Try.prog 18 #[.slice a 0 c] w fun e w' => e = .returned (.string ⟨#[]⟩) ∧ Below w.heap.size w w' := by
  go_enter Try.func18, Try.ntmps18
  go_wp2_with fail
  have HI := hidden (Lib.fresh_isBuilder 39 5 w)
  have HB1 := hidden ((Below.refl w.heap.size w).alloc (Nat.le_refl _) (.cells #[.pointer none, .slice none 0 0] 39))
  have HS : w.heap.size ≤ (w.alloc (.cells #[.pointer none, .slice none 0 0] 39)).heap.size := by simp
  generalize w.alloc (.cells #[.pointer none, .slice none 0 0] 39) = w1 at *
  go_loop [4, 5, 8] (fun _ _ i => i = .int .i64 0) (fun _ _ _ => 0)
  case atStart => rfl
  case round =>
    subst hrel
    go_wp2_with fail
    refine (Try.Builder_String_any w.heap.size w.heap.size [] _ HI.out HS).mono ?_
    rintro e w5 ⟨rfl, b5⟩
    have B5 := hidden (HB1.out.trans b5)
    clear b5
    go_wp2
    go_ret
    exact ⟨rfl, B5.out⟩

/-- numbers writes numT. -/
theorem numbers_any (v : Value) (rs : List Rg) (w : World) (h : RL w v rs) (hn : rs.length ≤ 65536) (hs : sumLen rs ≤ 1048576) :
    Calls Try.prog 18 #[v] w fun e w' => e = .returned (.string ⟨(numT rs).toArray⟩) ∧ Below w.heap.size w w' := by
  by_cases h0 : 0 < rs.length
  · obtain ⟨b, off, cap, rfl, _, _, hc⟩ := h.pos h0
    exact numbers_some b off cap rs w h0 hn hs hc
  · have h0 : rs = [] := List.eq_nil_of_length_eq_zero (by omega)
    subst h0
    obtain ⟨a, c, rfl, _⟩ := h.len
    exact numbers_none a c w

theorem zznumbers_any (v : Value) (rs : List Rg) (w : World) (h : RL w v rs) (hn : rs.length ≤ 65536) (hs : sumLen rs ≤ 1048576) :
    Calls Try.prog 10 #[v] w fun e w' => e = .returned (.string ⟨(numT rs).toArray⟩) ∧ Below w.heap.size w w' := by
  go_enter Try.func10, Try.ntmps10
  go_wp2_with fail
  refine (numbers_any v rs _ h hn hs).mono ?_
  rintro e w' ⟨rfl, hb⟩
  go_wp2
  go_ret
  exact ⟨rfl, hb⟩

end Go.Proofs.Qxb6617338a
