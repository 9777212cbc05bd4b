import Derived.Test.Qxb6617338aDigits
namespace Go.Proofs.Qxb6617338a
open Go.RowKit

set_option maxHeartbeats 4000000 in
set_option maxRecDepth 100000 in
theorem back_some (t : ByteArray) (b off cap : Nat) (rs : List Rg) (w : World) (h0 : 0 < rs.length) (hn : rs.length ≤ 65536) (hts : t.size ≤ 1245184)
    (hc : ∀ i, i < rs.length → RgAt w b (off + i * 3) (rs.getD i Rg.none)) (ht : t.data.toList = numT rs) (hd : AllDig rs rs.length) :
    Calls Try.prog 13 #[.string t, .slice (some ⟨b, off, none⟩) rs.length cap] w fun e w' => e = .returned (.bool true) ∧ w' = w := by
  generalize hnn : rs.length = n at *
  have HN := hidden hnn
  have HT := hidden ht
  have HD := hidden hd
  clear hnn ht hd
  have hne : ((n : Int) == 0) = false := beq_eq_false_iff_ne.2 (by omega)
  go_enter Try.func13, Try.ntmps13
  go_wp2_with fail
  go_loop [5, 6, 7, 8, 9, 10, 11] (fun p i _ _ _ _ _ => ∃ (k pos : Nat), k ≤ n ∧ i = .int .i64 k ∧ p = .int .i64 pos ∧ pos ≤ t.size ∧ (k < n → t.data.toList.drop pos = numT (rs.drop k))) (fun _ i _ _ _ _ _ => n - (intOf i).toNat)
  case atStart => exact ⟨0, 0, Nat.zero_le _, rfl, rfl, Nat.zero_le _, fun _ => HT.out⟩
  case round =>
    obtain ⟨k, pos, hk, rfl, rfl, hpos, hdrop⟩ := hrel
    by_cases hlt : k < n
    · obtain ⟨c0, c1, c2⟩ := hc k hlt
      obtain ⟨g1, g2⟩ := HD.out k hlt
      have hdr := hdrop hlt
      rw [num_drop rs k (by rw [HN.out]; exact hlt)] at hdr
      have G1 := hidden g1
      have G2 := hidden g2
      have HDR := hidden hdr
      clear hc c0 hdrop hdr g1 g2
      generalize rs.getD k Rg.none = r at *
      by_cases hm : k + 1 < n
      · skip
        have hkm : (k : Int) < (n : Int) - 1 := by omega
        rw [sep_more rs (k + 1) (by rw [HN.out]; omega)] at HDR
        obtain ⟨s1, s2, b1, b2, nx⟩ := scan_stop HDR.out
        have HNX := hidden nx
        clear nx
        have hSC := hidden (fun e h1 h2 => scan_in HDR.out G1.out G2.out e h1 h2)
        have hEb' : pos + r.item.length ≤ t.size := by omega
        have hEp : pos ≤ pos + r.item.length := by omega
        generalize hE : pos + r.item.length = E at *
        have hEE := hidden hE.symm
        clear hE
        go_wp2_with fail
        go_loop [7] (fun x => ∃ e : Nat, pos ≤ e ∧ e ≤ E ∧ x = .int .i64 e) (fun x => E - (intOf x).toNat)
        case atStart => exact ⟨pos, Nat.le_refl _, hEp, rfl⟩
        case round =>
          obtain ⟨e, he1, he2, rfl⟩ := hrel
          by_cases hle : e < E
          · obtain ⟨hl1, hb1⟩ := hSC.out e he1 hle
            go_wp2_with fail
            go_round
            case rel => exact ⟨e + 1, by omega, by omega, by go_num⟩
            case measure => simp [intOf]; omega
          · obtain rfl : E = e := by omega
            clear hSC
            go_wp2_with fail
            generalize hp : t.extract pos E = p at *
            have HP := hidden (show p.data.toList = r.item by rw [← hp, hEE.out]; exact piece_data HDR.out)
            clear hp
            cases htw : r.two
            · obtain ⟨q1, q2, q3⟩ := piece_one HP.out htw G1.out
              have Q1 := hidden q1
              have hps : p.size ≤ 1245184 := by have hx := hEE.out; rw [size_of_data HP.out]; omega
              clear q1
              go_loop [9, 10, 11] (fun f l d => f = .string p ∧ l = .string p ∧ ∃ dd : Nat, dd ≤ p.size ∧ d = .int .i64 dd) (fun _ _ d => p.size - (intOf d).toNat)
              case atStart => exact ⟨rfl, rfl, 0, Nat.zero_le _, rfl⟩
              case round =>
                obtain ⟨rfl, rfl, dd, hdd, rfl⟩ := hrel
                by_cases hdl : dd < p.size
                · have hb := Q1.out dd hdl
                  go_wp2_with fail
                  go_round
                  case rel => exact ⟨rfl, rfl, dd + 1, by omega, by go_num⟩
                  case measure => simp [intOf]; omega
                · clear Q1
                  go_wp2_with fail
                  go_round
                  case rel => exact ⟨k + 1, E + 2, by omega, by go_num, by go_num, by omega, fun _ => HNX.out⟩
                  case measure => simp [intOf]; omega
            · obtain ⟨z0, z1, z2, z3, z4⟩ := piece_two HP.out htw G1.out
              obtain ⟨z2', z2⟩ := z2
              have Z1 := hidden z1
              have hps : p.size ≤ 1245184 := by have hx := hEE.out; rw [size_of_data HP.out]; omega
              clear z1
              go_loop [9, 10, 11] (fun f l d => f = .string p ∧ l = .string p ∧ ∃ dd : Nat, dd ≤ r.first.size ∧ d = .int .i64 dd) (fun _ _ d => p.size - (intOf d).toNat)
              case atStart => exact ⟨rfl, rfl, 0, Nat.zero_le _, rfl⟩
              case round =>
                obtain ⟨rfl, rfl, dd, hdd, rfl⟩ := hrel
                by_cases hdl : dd < r.first.size
                · obtain ⟨hdp, hb⟩ := Z1.out dd hdl
                  go_wp2_with fail
                  go_round
                  case rel => exact ⟨rfl, rfl, dd + 1, by omega, by go_num⟩
                  case measure => simp [intOf]; omega
                · have hde : dd = r.first.size := by omega
                  subst hde
                  clear Z1
                  go_wp2_with fail
                  go_round
                  case rel => exact ⟨k + 1, E + 2, by omega, by go_num, by go_num, by omega, fun _ => HNX.out⟩
                  case measure => simp [intOf]; omega
      · skip
        have hkm : ¬ (k : Int) < (n : Int) - 1 := by omega
        rw [sep_last rs (k + 1) (by rw [HN.out]; omega)] at HDR
        have hend1 : pos + r.item.length = t.size := by
          have h1 := congrArg List.length HDR.out
          rw [List.length_drop, len_bytes, List.append_nil] at h1
          omega
        have hend : t.size ≤ pos + r.item.length := by omega
        have hend2 : (((pos + r.item.length : Nat) : Int) != (t.size : Int)) = false := by rw [hend1]; simp
        have hEb : pos + r.item.length ≤ t.size := by omega
        clear hend1
        have hSC := hidden (fun e h1 h2 => scan_in HDR.out G1.out G2.out e h1 h2)
        have hEb' : pos + r.item.length ≤ t.size := by omega
        have hEp : pos ≤ pos + r.item.length := by omega
        generalize hE : pos + r.item.length = E at *
        have hEE := hidden hE.symm
        clear hE
        go_wp2_with fail
        go_loop [7] (fun x => ∃ e : Nat, pos ≤ e ∧ e ≤ E ∧ x = .int .i64 e) (fun x => E - (intOf x).toNat)
        case atStart => exact ⟨pos, Nat.le_refl _, hEp, rfl⟩
        case round =>
          obtain ⟨e, he1, he2, rfl⟩ := hrel
          by_cases hle : e < E
          · obtain ⟨hl1, hb1⟩ := hSC.out e he1 hle
            go_wp2_with fail
            go_round
            case rel => exact ⟨e + 1, by omega, by omega, by go_num⟩
            case measure => simp [intOf]; omega
          · obtain rfl : E = e := by omega
            clear hSC
            go_wp2_with fail
            generalize hp : t.extract pos E = p at *
            have HP := hidden (show p.data.toList = r.item by rw [← hp, hEE.out]; exact piece_data HDR.out)
            clear hp
            cases htw : r.two
            · obtain ⟨q1, q2, q3⟩ := piece_one HP.out htw G1.out
              have Q1 := hidden q1
              have hps : p.size ≤ 1245184 := by have hx := hEE.out; rw [size_of_data HP.out]; omega
              clear q1
              go_loop [9, 10, 11] (fun f l d => f = .string p ∧ l = .string p ∧ ∃ dd : Nat, dd ≤ p.size ∧ d = .int .i64 dd) (fun _ _ d => p.size - (intOf d).toNat)
              case atStart => exact ⟨rfl, rfl, 0, Nat.zero_le _, rfl⟩
              case round =>
                obtain ⟨rfl, rfl, dd, hdd, rfl⟩ := hrel
                by_cases hdl : dd < p.size
                · have hb := Q1.out dd hdl
                  go_wp2_with fail
                  go_round
                  case rel => exact ⟨rfl, rfl, dd + 1, by omega, by go_num⟩
                  case measure => simp [intOf]; omega
                · clear Q1
                  go_wp2_with fail
                  go_round
                  case rel => exact ⟨k + 1, pos, by omega, by go_num, rfl, by omega, fun h => absurd h (by omega)⟩
                  case measure => simp [intOf]; omega
            · obtain ⟨z0, z1, z2, z3, z4⟩ := piece_two HP.out htw G1.out
              obtain ⟨z2', z2⟩ := z2
              have Z1 := hidden z1
              have hps : p.size ≤ 1245184 := by have hx := hEE.out; rw [size_of_data HP.out]; omega
              clear z1
              go_loop [9, 10, 11] (fun f l d => f = .string p ∧ l = .string p ∧ ∃ dd : Nat, dd ≤ r.first.size ∧ d = .int .i64 dd) (fun _ _ d => p.size - (intOf d).toNat)
              case atStart => exact ⟨rfl, rfl, 0, Nat.zero_le _, rfl⟩
              case round =>
                obtain ⟨rfl, rfl, dd, hdd, rfl⟩ := hrel
                by_cases hdl : dd < r.first.size
                · obtain ⟨hdp, hb⟩ := Z1.out dd hdl
                  go_wp2_with fail
                  go_round
                  case rel => exact ⟨rfl, rfl, dd + 1, by omega, by go_num⟩
                  case measure => simp [intOf]; omega
                · have hde : dd = r.first.size := by omega
                  subst hde
                  clear Z1
                  go_wp2_with fail
                  go_round
                  case rel => exact ⟨k + 1, pos, by omega, by go_num, rfl, by omega, fun h => absurd h (by omega)⟩
                  case measure => simp [intOf]; omega
    · clear hc hdrop
      go_wp2_with fail
      go_ret
      exact ⟨rfl, rfl⟩

end Go.Proofs.Qxb6617338a
