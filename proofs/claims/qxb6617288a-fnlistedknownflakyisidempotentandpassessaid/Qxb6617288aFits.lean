import Derived.Test.Qxb6617288aBase
namespace Go.Proofs.Qxb6617288a
open Go.RowKit

set_option maxHeartbeats 400000 in
/-- reportB1FitsBytes answers a bool and touches nothing. -/
theorem fits_any (a b : ByteArray) (v : Value) (ss : List ByteArray) (nl : Bool) (w : World) (hs : SL w nl v ss) :
    Calls Try.prog 7 #[.string a, .string b, v] w fun e w' => IsBool e ∧ w' = w := by
  cases nl with
  | true =>
    obtain ⟨rfl, rfl⟩ := hs
    go_enter Try.func7, Try.ntmps7
    go_wp2
    · go_ret
      exact ⟨⟨_, rfl⟩, rfl⟩
    · go_loop [7, 8] (fun t i => (∃ q : Int, t = .int .i64 q) ∧ i = .int .i64 0) (fun _ i => (0 - intOf i).toNat)
      case atStart => exact ⟨⟨_, rfl⟩, rfl⟩
      case round =>
        obtain ⟨⟨q, rfl⟩, rfl⟩ := hrel
        go_wp2
        go_ret
        exact ⟨⟨_, rfl⟩, rfl⟩
  | false =>
    obtain ⟨bb, off, spot, cap, rfl, hcap, hmax, hsp, hc⟩ := hs
    have hm : ss.length ≤ 9223372036854775807 := by unfold maxLen at hmax; omega
    generalize ss.length = n at *
    go_enter Try.func7, Try.ntmps7
    go_wp2
    · go_ret
      exact ⟨⟨_, rfl⟩, rfl⟩
    · go_loop [7, 8] (fun t i => ∃ (k : Nat) (q : Int), k ≤ n ∧ t = .int .i64 q ∧ i = .int .i64 k) (fun _ i => n - (intOf i).toNat)
      case atStart => exact ⟨0, _, Nat.zero_le _, rfl, rfl⟩
      case round =>
        obtain ⟨k, q, hk, rfl, rfl⟩ := hrel
        by_cases hlt : k < n
        · have hsp' := hsp (by omega)
          subst hsp'
          have hcell := hc k hlt
          clear hc hsp
          go_wp2
          · go_ret
            exact ⟨⟨_, rfl⟩, rfl⟩
          · go_round
            case rel => exact ⟨k + 1, _, by omega, rfl, by go_num⟩
            case measure => simp [intOf]; omega
        · go_wp2
          go_ret
          exact ⟨⟨_, rfl⟩, rfl⟩

set_option maxHeartbeats 400000 in
/-- zzBytes_FnListedKnownFailingTwiceRestoresStatus answers a bool and touches nothing. -/
theorem bytes6_any (a b : ByteArray) (v : Value) (ss : List ByteArray) (nl : Bool) (w : World) (hs : SL w nl v ss) :
    Calls Try.prog 6 #[.string a, .string b, v] w fun e w' => IsBool e ∧ w' = w := by
  cases nl with
  | true =>
    obtain ⟨rfl, rfl⟩ := hs
    go_enter Try.func6, Try.ntmps6
    go_wp2
    all_goals first
      | (go_ret; exact ⟨⟨_, rfl⟩, rfl⟩)
      | skip
    · go_loop [7, 8] (fun t i => (∃ q : Int, t = .int .i64 q) ∧ i = .int .i64 0) (fun _ i => (0 - intOf i).toNat)
      case atStart => exact ⟨⟨_, rfl⟩, rfl⟩
      case round =>
        obtain ⟨⟨q, rfl⟩, rfl⟩ := hrel
        go_wp2
        go_ret
        exact ⟨⟨_, rfl⟩, rfl⟩
  | false =>
    obtain ⟨bb, off, spot, cap, rfl, hcap, hmax, hsp, hc⟩ := hs
    have hm : ss.length ≤ 9223372036854775807 := by unfold maxLen at hmax; omega
    generalize ss.length = n at *
    go_enter Try.func6, Try.ntmps6
    go_wp2
    all_goals first
      | (go_ret; exact ⟨⟨_, rfl⟩, rfl⟩)
      | skip
    · go_loop [7, 8] (fun t i => ∃ (k : Nat) (q : Int), k ≤ n ∧ t = .int .i64 q ∧ i = .int .i64 k) (fun _ i => n - (intOf i).toNat)
      case atStart => exact ⟨0, _, Nat.zero_le _, rfl, rfl⟩
      case round =>
        obtain ⟨k, q, hk, rfl, rfl⟩ := hrel
        by_cases hlt : k < n
        · have hsp' := hsp (by omega)
          subst hsp'
          have hcell := hc k hlt
          clear hc hsp
          go_wp2
          all_goals first
            | (go_ret; exact ⟨⟨_, rfl⟩, rfl⟩)
            | (go_round
               case rel => exact ⟨k + 1, _, by omega, rfl, by go_num⟩
               case measure => simp [intOf]; omega)
        · go_wp2
          go_ret
          exact ⟨⟨_, rfl⟩, rfl⟩

set_option maxHeartbeats 400000 in
/-- zzBytes_FnListedKnownFlakyIsIdempotentAndPasses answers a bool and touches nothing. -/
theorem bytes13_any (a b : ByteArray) (v : Value) (ss : List ByteArray) (nl : Bool) (w : World) (hs : SL w nl v ss) :
    Calls Try.prog 13 #[.string a, .string b, v] w fun e w' => IsBool e ∧ w' = w := by
  cases nl with
  | true =>
    obtain ⟨rfl, rfl⟩ := hs
    go_enter Try.func13, Try.ntmps13
    go_wp2
    all_goals first
      | (go_ret; exact ⟨⟨_, rfl⟩, rfl⟩)
      | skip
    · go_loop [7, 8] (fun t i => (∃ q : Int, t = .int .i64 q) ∧ i = .int .i64 0) (fun _ i => (0 - intOf i).toNat)
      case atStart => exact ⟨⟨_, rfl⟩, rfl⟩
      case round =>
        obtain ⟨⟨q, rfl⟩, rfl⟩ := hrel
        go_wp2
        go_ret
        exact ⟨⟨_, rfl⟩, rfl⟩
  | false =>
    obtain ⟨bb, off, spot, cap, rfl, hcap, hmax, hsp, hc⟩ := hs
    have hm : ss.length ≤ 9223372036854775807 := by unfold maxLen at hmax; omega
    generalize ss.length = n at *
    go_enter Try.func13, Try.ntmps13
    go_wp2
    all_goals first
      | (go_ret; exact ⟨⟨_, rfl⟩, rfl⟩)
      | skip
    · go_loop [7, 8] (fun t i => ∃ (k : Nat) (q : Int), k ≤ n ∧ t = .int .i64 q ∧ i = .int .i64 k) (fun _ i => n - (intOf i).toNat)
      case atStart => exact ⟨0, _, Nat.zero_le _, rfl, rfl⟩
      case round =>
        obtain ⟨k, q, hk, rfl, rfl⟩ := hrel
        by_cases hlt : k < n
        · have hsp' := hsp (by omega)
          subst hsp'
          have hcell := hc k hlt
          clear hc hsp
          go_wp2
          all_goals first
            | (go_ret; exact ⟨⟨_, rfl⟩, rfl⟩)
            | (go_round
               case rel => exact ⟨k + 1, _, by omega, rfl, by go_num⟩
               case measure => simp [intOf]; omega)
        · go_wp2
          go_ret
          exact ⟨⟨_, rfl⟩, rfl⟩

set_option maxHeartbeats 400000 in
/-- zzBytes_FnJudgedThenListedCountsAsDocumented answers a bool and touches nothing. -/
theorem bytes14_any (a b : ByteArray) (v : Value) (ss : List ByteArray) (nl : Bool) (w : World) (hs : SL w nl v ss) :
    Calls Try.prog 14 #[.string a, v, .string b] w fun e w' => IsBool e ∧ w' = w := by
  cases nl with
  | true =>
    obtain ⟨rfl, rfl⟩ := hs
    go_enter Try.func14, Try.ntmps14
    go_wp2
    all_goals first
      | (go_ret; exact ⟨⟨_, rfl⟩, rfl⟩)
      | skip
    · go_loop [7, 8] (fun t i => (∃ q : Int, t = .int .i64 q) ∧ i = .int .i64 0) (fun _ i => (0 - intOf i).toNat)
      case atStart => exact ⟨⟨_, rfl⟩, rfl⟩
      case round =>
        obtain ⟨⟨q, rfl⟩, rfl⟩ := hrel
        go_wp2
        all_goals (go_ret; exact ⟨⟨_, rfl⟩, rfl⟩)
  | false =>
    obtain ⟨bb, off, spot, cap, rfl, hcap, hmax, hsp, hc⟩ := hs
    have hm : ss.length ≤ 9223372036854775807 := by unfold maxLen at hmax; omega
    generalize ss.length = n at *
    go_enter Try.func14, Try.ntmps14
    go_wp2
    all_goals first
      | (go_ret; exact ⟨⟨_, rfl⟩, rfl⟩)
      | skip
    · go_loop [7, 8] (fun t i => ∃ (k : Nat) (q : Int), k ≤ n ∧ t = .int .i64 q ∧ i = .int .i64 k) (fun _ i => n - (intOf i).toNat)
      case atStart => exact ⟨0, _, Nat.zero_le _, rfl, rfl⟩
      case round =>
        obtain ⟨k, q, hk, rfl, rfl⟩ := hrel
        by_cases hlt : k < n
        · have hsp' := hsp (by omega)
          subst hsp'
          have hcell := hc k hlt
          clear hc hsp
          go_wp2
          all_goals first
            | (go_ret; exact ⟨⟨_, rfl⟩, rfl⟩)
            | (go_round
               case rel => exact ⟨k + 1, _, by omega, rfl, by go_num⟩
               case measure => simp [intOf]; omega)
        · go_wp2
          all_goals (go_ret; exact ⟨⟨_, rfl⟩, rfl⟩)

end Go.Proofs.Qxb6617288a
