import Derived.Test.Qxb6617288aClone
import Derived.Deep.QuietTactic
import Derived.BigQuiet
namespace Go.Proofs.Qxb6617288a
open Go.RowKit

theorem SL.pos {w : World} {nl : Bool} {v : Value} {ss : List ByteArray} (h : SL w nl v ss) (h0 : 0 < ss.length) :
    ∃ b off cap, v = .slice (some ⟨b, off, none⟩) ss.length cap ∧ ss.length ≤ cap ∧ cap ≤ maxLen ∧ (∀ i, i < ss.length → w.cell? ⟨b, off + i, none⟩ = some (.string (ss.getD i ByteArray.empty))) := by
  cases nl with
  | true => obtain ⟨_, rfl⟩ := h; simp at h0
  | false =>
    obtain ⟨b, off, spot, cap, h1, h2, h3, h4, h5⟩ := h
    obtain rfl := h4 h0
    exact ⟨b, off, cap, h1, h2, h3, h5⟩

set_option maxHeartbeats 400000 in
/-- reportB1Same answers true where both slices read as the same strings. -/
theorem same_any (v u : Value) (ss : List ByteArray) (nl ml : Bool) (w : World) (hs : SL w nl v ss) (ht : SL w ml u ss) :
    Calls Try.prog 10 #[v, u] w fun e w' => e = .returned (.bool true) ∧ ∃ n, w' = w.drewN n := by
  by_cases h0 : 0 < ss.length
  · obtain ⟨b, off, cap, rfl, hcap, hmax, hc⟩ := hs.pos h0
    obtain ⟨b', off', cap', rfl, hcap', hmax', hc'⟩ := ht.pos h0
    clear hs ht
    unfold maxLen at hmax hmax'
    generalize ss.length = n at *
    go_enter Try.func10, Try.ntmps10
    go_wp2
    go_loopw [5] (fun i wr => ∃ k m : Nat, k ≤ n ∧ i = .int .i64 k ∧ wr = w.drewN m) (fun i _ => n - (intOf i).toNat)
    case atStart => exact ⟨0, 0, Nat.zero_le _, rfl, rfl⟩
    case round =>
      obtain ⟨k, m, hk, rfl, rfl⟩ := hrel
      by_cases hlt : k < n
      · have h1 := hc k hlt
        have h2 := hc' k hlt
        clear hc hc'
        generalize ss.getD k ByteArray.empty = s at *
        have hlt' : (k : Int) < (n : Int) := by omega
        go_wp2
        go_quiet (fail)
        go_wp2
        go_roundw
        case rel => exact ⟨k + 1, _, by omega, by go_num, rfl⟩
        case measure => simp [intOf]; omega
      · go_wp2
        go_ret
        exact ⟨rfl, _, rfl⟩
  · have h0 : ss = [] := List.eq_nil_of_length_eq_zero (by omega)
    subst h0
    obtain ⟨a, c, rfl, _, _⟩ := hs.len
    obtain ⟨a', c', rfl, _, _⟩ := ht.len
    clear hs ht
    go_enter Try.func10, Try.ntmps10
    go_wp2
    go_loop [5] (fun i => i = .int .i64 0) (fun _ => 0)
    case atStart => rfl
    case round =>
      subst hrel
      go_wp2
      go_ret
      exact ⟨rfl, 0, rfl⟩

set_option maxHeartbeats 400000 in
/-- reportB1Unchanged answers true where both are nil or both are not, and read as the same strings. -/
theorem unchanged_any (v u : Value) (ss : List ByteArray) (nl : Bool) (w : World) (hs : SL w nl v ss) (ht : SL w nl u ss) :
    Calls Try.prog 12 #[v, u] w fun e w' => e = .returned (.bool true) ∧ ∃ n, w' = w.drewN n := by
  have hq := nil22
  have hcall := same_any v u ss nl nl w hs ht
  obtain ⟨a, c, rfl, _, ha⟩ := hs.len
  obtain ⟨a', c', rfl, _, ha'⟩ := ht.len
  generalize ss.length = n at *
  clear hs ht
  cases nl
  · cases a with
    | none => simp at ha
    | some a =>
      cases a' with
      | none => simp at ha'
      | some a' =>
        have H := hcall
        clear hcall ha ha'
        go_enter Try.func12, Try.ntmps12
        go_wp2_with (go_at_call 10; refine H.mono ?_; rintro e w' ⟨rfl, m, rfl⟩)
        go_ret
        exact ⟨rfl, _, rfl⟩
  · cases a with
    | some a => simp at ha
    | none =>
      cases a' with
      | some a' => simp at ha'
      | none =>
        have H := hcall
        clear hcall ha ha'
        go_enter Try.func12, Try.ntmps12
        go_wp2_with (go_at_call 10; refine H.mono ?_; rintro e w' ⟨rfl, m, rfl⟩)
        go_ret
        exact ⟨rfl, _, rfl⟩

end Go.Proofs.Qxb6617288a
