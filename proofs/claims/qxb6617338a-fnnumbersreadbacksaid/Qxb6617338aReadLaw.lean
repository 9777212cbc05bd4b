import Derived.Test.Qxb6617338aBack
import Derived.Test.Qxb6617338aJoinLaw
namespace Go.Proofs.Qxb6617338a
open Go.RowKit

set_option maxHeartbeats 400000 in
theorem back_none (t : ByteArray) (a : Option Addr) (c : Nat) (w : World) (ht : t.toList.isEmpty = true) :
    Calls Try.prog 13 #[.string t, .slice a 0 c] w fun e w' => e = .returned (.bool true) ∧ w' = w := by
  go_enter Try.func13, Try.ntmps13
  go_wp2
  go_ret
  exact ⟨rfl, rfl⟩

/-- readsBackAs says yes to what numbers has written. -/
theorem back_any (t : ByteArray) (v : Value) (rs : List Rg) (w : World) (h : RL w v rs) (hn : rs.length ≤ 65536) (hts : t.size ≤ 1245184) (ht : t.data.toList = numT rs) (hd : AllDig rs rs.length) :
    Calls Try.prog 13 #[.string t, v] w fun e w' => e = .returned (.bool true) ∧ w' = w := by
  by_cases h0 : 0 < rs.length
  · obtain ⟨b, off, cap, rfl, h1, h2, hc⟩ := h.pos h0
    exact back_some t b off cap rs w h0 hn hts hc ht hd
  · have h0 : rs = [] := List.eq_nil_of_length_eq_zero (by omega)
    subst h0
    obtain ⟨a, c, rfl, _⟩ := h.len
    refine back_none t a c w ?_
    rw [ByteArray.toList_eq, ht]
    rfl

set_option maxHeartbeats 1000000 in
set_option maxRecDepth 100000 in
/-- The law returns true; nothing that was there has turned. -/
theorem read_any (v : Value) (rs : List Rg) (w : World) (hr : RL w v rs) :
    Calls Try.prog 4 #[v] w fun e w' => e = .returned (.bool true) ∧ Below w.heap.size w w' := by
  have HR := hidden hr
  clear hr
  go_enter Try.func4, Try.ntmps4
  go_wp2_with fail
  refine (bytes11_any _ rs _ HR.out).mono ?_
  rintro e w' ⟨⟨r, rfl⟩, rfl⟩
  cases r
  · go_wp2
    go_ret
    exact ⟨rfl, Below.refl _ _⟩
  go_wp2_with fail
  refine (fit_any _ rs _ HR.out).mono ?_
  rintro e w' ⟨⟨r, rfl, hfit⟩, rfl⟩
  cases r
  · go_wp2
    go_ret
    exact ⟨rfl, Below.refl _ _⟩
  obtain ⟨hl, hs⟩ := hfit rfl
  have HL := hidden hl
  have HS := hidden hs
  clear hfit hl hs
  go_wp2_with fail
  refine (alldig_any _ rs _ HR.out HL.out HS.out).mono ?_
  rintro e w' ⟨⟨r, rfl, hdig⟩, rfl⟩
  cases r
  · go_wp2
    go_ret
    exact ⟨rfl, Below.refl _ _⟩
  have HD := hidden (hdig rfl)
  clear hdig
  go_wp2_with fail
  refine (to_any _ rs _ HR.out HL.out).mono ?_
  rintro e w1 ⟨g1, rfl, r1, b1⟩
  have R1 := hidden r1
  have B1 := hidden b1
  clear r1 b1
  go_wp2_with fail
  refine (text_any _ rs _ R1.out HL.out HS.out).mono ?_
  rintro e w2 ⟨t, rfl, ht, hts, b2⟩
  have T2 := hidden ht
  have B2 := hidden b2
  clear ht b2
  go_wp2_with fail
  refine (back_any t _ rs _ (HR.out.later (nx_tr B1.out B2.out)) HL.out hts T2.out HD.out).mono ?_
  rintro e w3 ⟨rfl, rfl⟩
  go_wp2
  go_ret
  exact ⟨rfl, nx_tr B1.out B2.out⟩

end Go.Proofs.Qxb6617338a
