import Derived.Test.Qxb6617338aRows
import Derived.Test.Qxb6617338aPlain
import Derived.WalkKit
import Derived.WalkSpells
import Derived.WalkLawsBesides
namespace Go.Proofs.Qxb6617338a
open Go.RowKit

theorem hide {p : Prop} (h : p) : Hid p := h

/-- isFileName, on a string. -/
def fOk (s : ByteArray) : Bool := fileOk s.data.toList

theorem fOk_all {s : ByteArray} (h0 : 0 < s.size) (hd : (((s[0]'h0).toNat : Int) == 46) = false) (hl : (s.size : Int) ≤ 255) : fOk s = s.data.toList.all okc := by
  refine fileOk_else ?_ ?_ ?_
  · intro e
    have : s.data.toList.length = 0 := by rw [e]; rfl
    have e2 : s.data.toList.length = s.size := by simp
    omega
  · have e : s.data.toList.headD 0 = s[0]'h0 := by
      rw [List.headD_eq_head?_getD, List.head?_eq_getElem?]
      simp
      rw [Array.getElem?_eq_getElem (show 0 < s.data.size from h0)]
      rfl
    rw [e]
    intro h
    simp [h] at hd
  · have e2 : s.data.toList.length = s.size := by simp
    omega

theorem conv936 (w : World) (s : ByteArray) : (convert 9 36 (.string s)).run Try.prog w = .ok (.slice (some ⟨w.heap.size, 0, none⟩) s.size (grownCap w s.size 0 5)) (Lib.bytesWorld w 5 s) :=
  Lib.run_convert_string_bytes w 9 36 5 s Try.underlying9 Try.underlying36 Try.underlying5

theorem below_bytes (w : World) (s : ByteArray) : Below w.heap.size w (Lib.bytesWorld w 5 s) :=
  ⟨rfl, rfl, rfl, by rw [Lib.bytesWorld_size]; omega, fun k hk => Lib.bytesWorld_at_old w 5 s k hk⟩

set_option maxHeartbeats 400000 in
theorem file_empty (w : World) : Calls Try.prog 20 #[.string ⟨#[]⟩] w fun e w' => e = .returned (.bool false) ∧ w' = w := by
  go_enter Try.func20, Try.ntmps20
  go_wp2
  go_ret
  exact ⟨rfl, rfl⟩

set_option maxHeartbeats 400000 in
theorem file_dot (s : ByteArray) (w : World) (h0 : 0 < s.size) (hE : s.toList.isEmpty = false) (hd : (((s[0]'h0).toNat : Int) == 46) = true) : Calls Try.prog 20 #[.string s] w fun e w' => e = .returned (.bool false) ∧ w' = w := by
  go_enter Try.func20, Try.ntmps20
  go_wp2
  go_ret
  exact ⟨rfl, rfl⟩

set_option maxHeartbeats 400000 in
theorem file_long (s : ByteArray) (w : World) (h0 : 0 < s.size) (hE : s.toList.isEmpty = false) (hd : (((s[0]'h0).toNat : Int) == 46) = false) (hl : (255 : Int) < (s.size : Int)) : Calls Try.prog 20 #[.string s] w fun e w' => e = .returned (.bool false) ∧ w' = w := by
  go_enter Try.func20, Try.ntmps20
  go_wp2
  go_ret
  exact ⟨rfl, rfl⟩

set_option maxHeartbeats 1000000 in
set_option maxRecDepth 100000 in
theorem file_loop (s : ByteArray) (w : World) (h0 : 0 < s.size) (hE : s.toList.isEmpty = false) (hd : (((s[0]'h0).toNat : Int) == 46) = false) (hl : (s.size : Int) ≤ 255) :
    Calls Try.prog 20 #[.string s] w fun e w' => e = .returned (.bool (fOk s)) ∧ Below w.heap.size w w' := by
  have kc := conv936
  go_enter Try.func20, Try.ntmps20
  go_wp2
  clear kc
  have hc : ∀ j, j < s.size → (Lib.bytesWorld w 5 s).cell? ⟨w.heap.size, j, none⟩ = some (.int .u8 (s.data.toList.getD j 0).toNat) := fun j hj => Lib.bytesWorld_cell w 5 s j hj
  have HB := hide (below_bytes w s)
  generalize Lib.bytesWorld w 5 s = W at *
  generalize grownCap w s.size 0 5 = cap at *
  go_loop [4, 20] (fun _ i => ∃ k : Nat, k ≤ s.size ∧ i = .int .i64 k ∧ (s.data.toList.take k).all okc = true) (fun _ i => s.size - (intOf i).toNat)
  case atStart => exact ⟨0, Nat.zero_le _, rfl, rfl⟩
  case round =>
    obtain ⟨k, hk, rfl, hall⟩ := hrel
    by_cases hlt : k < s.size
    · have hcell := hc k hlt
      have hlt' : k < s.data.toList.length := by simpa using hlt
      cases hok : okn (s.data.toList.getD k 0).toNat
      · have HN := hide ((fOk_all h0 hd hl).trans (all_no s.data.toList k hlt' hok))
        obtain ⟨e46, e95, e45, hcs⟩ := okn_no hok
        clear hc hall hok
        generalize (s.data.toList.getD k 0).toNat = n at *
        rcases hcs with ⟨h1, h2⟩ | ⟨h1, h2⟩ | ⟨h1, h2⟩ | ⟨h1, h2⟩ | ⟨h1, h2⟩ | ⟨h1, h2⟩
        all_goals
          first | have d97 : decide (97 ≤ (n : Int)) = true := decide_eq_true (by omega) | have d97 : decide (97 ≤ (n : Int)) = false := decide_eq_false (by omega)
          first | have d122 : decide ((n : Int) ≤ 122) = true := decide_eq_true (by omega) | have d122 : decide ((n : Int) ≤ 122) = false := decide_eq_false (by omega)
          first | have d65 : decide (65 ≤ (n : Int)) = true := decide_eq_true (by omega) | have d65 : decide (65 ≤ (n : Int)) = false := decide_eq_false (by omega)
          first | have d90 : decide ((n : Int) ≤ 90) = true := decide_eq_true (by omega) | have d90 : decide ((n : Int) ≤ 90) = false := decide_eq_false (by omega)
          first | have d48 : decide (48 ≤ (n : Int)) = true := decide_eq_true (by omega) | have d48 : decide (48 ≤ (n : Int)) = false := decide_eq_false (by omega)
          first | have d57 : decide ((n : Int) ≤ 57) = true := decide_eq_true (by omega) | have d57 : decide ((n : Int) ≤ 57) = false := decide_eq_false (by omega)
          go_wp2
          go_ret
          exact ⟨by rw [HN.out]; rfl, HB.out⟩
      · have HY := hide (all_snoc s.data.toList k hlt' hall hok)
        have hcs := okn_yes hok
        clear hc hall hok
        generalize (s.data.toList.getD k 0).toNat = n at *
        rcases hcs with ⟨h1, h2⟩ | ⟨h1, h2⟩ | ⟨h1, h2⟩ | ⟨h1, h2⟩ | ⟨h1, h2⟩ | ⟨h1, h2⟩
        all_goals
          first | have d97 : decide (97 ≤ (n : Int)) = true := decide_eq_true (by omega) | have d97 : decide (97 ≤ (n : Int)) = false := decide_eq_false (by omega)
          first | have d122 : decide ((n : Int) ≤ 122) = true := decide_eq_true (by omega) | have d122 : decide ((n : Int) ≤ 122) = false := decide_eq_false (by omega)
          first | have d65 : decide (65 ≤ (n : Int)) = true := decide_eq_true (by omega) | have d65 : decide (65 ≤ (n : Int)) = false := decide_eq_false (by omega)
          first | have d90 : decide ((n : Int) ≤ 90) = true := decide_eq_true (by omega) | have d90 : decide ((n : Int) ≤ 90) = false := decide_eq_false (by omega)
          first | have d48 : decide (48 ≤ (n : Int)) = true := decide_eq_true (by omega) | have d48 : decide (48 ≤ (n : Int)) = false := decide_eq_false (by omega)
          first | have d57 : decide ((n : Int) ≤ 57) = true := decide_eq_true (by omega) | have d57 : decide ((n : Int) ≤ 57) = false := decide_eq_false (by omega)
          first | have e46 : ((n : Int) == 46) = true := beq_iff_eq.2 (by omega) | have e46 : ((n : Int) == 46) = false := beq_eq_false_iff_ne.2 (by omega)
          first | have e95 : ((n : Int) == 95) = true := beq_iff_eq.2 (by omega) | have e95 : ((n : Int) == 95) = false := beq_eq_false_iff_ne.2 (by omega)
          first | have e45 : ((n : Int) == 45) = true := beq_iff_eq.2 (by omega) | have e45 : ((n : Int) == 45) = false := beq_eq_false_iff_ne.2 (by omega)
          go_wp2
          go_round
          case rel => exact ⟨k + 1, by omega, by go_num, HY.out⟩
          case measure => simp [intOf]; omega
    · rw [List.take_of_length_le (by simp; omega)] at hall
      have HY := hide ((fOk_all h0 hd hl).trans hall)
      clear hall hc
      go_wp2
      go_ret
      exact ⟨by rw [HY.out]; rfl, HB.out⟩

end Go.Proofs.Qxb6617338a
