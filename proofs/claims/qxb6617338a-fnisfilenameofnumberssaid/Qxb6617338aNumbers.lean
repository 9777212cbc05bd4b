import Derived.Test.Qxb6617338aBuild
import Derived.Test.Qxb6617338aShelf
import Derived.Test.Qxb6617338aNums
namespace Go.Proofs.Qxb6617338a
open Go.RowKit

theorem hidden {p : Prop} (h : p) : Hid p := h

/-- A range that lies at ⟨b, o⟩ .. ⟨b, o + 2⟩. -/
def RgAt (w : World) (b o : Nat) (r : Rg) : Prop :=
  w.cell? ⟨b, o, none⟩ = some (.string r.nrn) ∧ w.cell? ⟨b, o + 1, none⟩ = some (.string r.first) ∧ w.cell? ⟨b, o + 2, none⟩ = some (.string r.last)

/-- THE SLICE VALUE v READS, IN THE WORLD w, AS THE RANGES rs (nil, or not). -/
def RL (w : World) (v : Value) (rs : List Rg) : Prop :=
  (v = .slice none 0 0 ∧ rs = []) ∨
  ∃ b off spot cap, v = .slice (some ⟨b, off, spot⟩) rs.length cap ∧ rs.length ≤ cap ∧ cap ≤ maxLen ∧ (0 < rs.length → spot = none) ∧
    (∀ i, i < rs.length → RgAt w b (off + i * 3) (rs.getD i Rg.none))

theorem RgAt.later {w w' : World} {b o : Nat} {r : Rg} (h : RgAt w b o r) (hb : Below w.heap.size w w') : RgAt w' b o r :=
  ⟨cell_later hb h.1, cell_later hb h.2.1, cell_later hb h.2.2⟩

theorem RL.later {w w' : World} {v : Value} {rs : List Rg} (h : RL w v rs) (hb : Below w.heap.size w w') : RL w' v rs := by
  rcases h with h | ⟨b, off, spot, cap, h1, h2, h3, h4, h5⟩
  · exact .inl h
  · exact .inr ⟨b, off, spot, cap, h1, h2, h3, h4, fun i hi => (h5 i hi).later hb⟩

theorem RL.len {w : World} {v : Value} {rs : List Rg} (h : RL w v rs) : ∃ a c, v = .slice a rs.length c ∧ rs.length ≤ maxLen ∧ rs.length ≤ c ∧ c ≤ maxLen := by
  rcases h with ⟨rfl, rfl⟩ | ⟨b, off, spot, cap, h1, h2, h3, h4, h5⟩
  · exact ⟨none, 0, rfl, by simp, by simp, by simp⟩
  · exact ⟨_, _, h1, by omega, h2, h3⟩

theorem RL.pos {w : World} {v : Value} {rs : List Rg} (h : RL w v rs) (h0 : 0 < rs.length) :
    ∃ b off cap, v = .slice (some ⟨b, off, none⟩) rs.length cap ∧ rs.length ≤ cap ∧ cap ≤ maxLen ∧ (∀ i, i < rs.length → RgAt w b (off + i * 3) (rs.getD i Rg.none)) := by
  rcases h with ⟨rfl, rfl⟩ | ⟨b, off, spot, cap, h1, h2, h3, h4, h5⟩
  · simp at h0
  · obtain rfl := h4 h0
    exact ⟨b, off, cap, h1, h2, h3, h5⟩

theorem isb_alloc {B b : Nat} {bs : List Value} {w : World} (h : Lib.IsBuilder 39 5 B b bs w) (o : Obj) : Lib.IsBuilder 39 5 B b bs (w.alloc o) := by
  have step : ∀ p, Lib.BuilderAt 39 5 B b p bs w → Lib.BuilderAt 39 5 B b p bs (w.alloc o) := by
    rintro p ⟨hB, v, hb, hown, hne⟩
    have hlt : b < w.heap.size := (Array.getElem?_eq_some_iff.1 hb).1
    exact ⟨hB, v, by rw [Below.heap_alloc _ _ _ hlt]; exact hb, hown.alloc o, hne⟩
  rcases h with h | h
  · exact .inl (step _ h)
  · exact .inr (step _ h)

theorem isb_lt {B b : Nat} {bs : List Value} {w : World} (h : Lib.IsBuilder 39 5 B b bs w) : b < w.heap.size := by
  rcases h with h | h
  · exact h.lt
  · exact h.lt

/-- A box of three cells that lies in a world, and lies there still. -/
def Box (w : World) (k : Nat) (x0 x1 x2 : Value) : Prop := w.heap[k]? = some (.cells #[x0, x1, x2] 35 (0, 0))
theorem Box.new (w : World) (x0 x1 x2 : Value) : Box (w.alloc (.cells #[x0, x1, x2] 35)) w.heap.size x0 x1 x2 := heap_alloc_new w _
theorem Box.kept {w w' : World} {k b : Nat} {x0 x1 x2 : Value} (h : Box w k x0 x1 x2) (hk : Kept b w w') (hne : k ≠ b) : Box w' k x0 x1 x2 := hk k _ _ _ h hne (by decide)
theorem Box.cells {w : World} {k : Nat} {x0 x1 x2 : Value} (h : Box w k x0 x1 x2) : w.cell? ⟨k, 1, none⟩ = some x1 ∧ w.cell? ⟨k, 2, none⟩ = some x2 := by
  constructor
  · rw [Lib.cell_of_heap h]; rfl
  · rw [Lib.cell_of_heap h]; rfl

set_option maxHeartbeats 1000000 in
set_option maxRecDepth 100000 in
theorem numbers_some (b off cap : Nat) (rs : List Rg) (w : World) (h0 : 0 < rs.length) (hn : rs.length ≤ 65536) (hs : sumLen rs ≤ 1048576)
    (hc : ∀ i, i < rs.length → RgAt w b (off + i * 3) (rs.getD i Rg.none)) :
    Calls Try.prog 18 #[.slice (some ⟨b, off, none⟩) rs.length cap] w fun e w' => e = .returned (.string ⟨(numT rs).toArray⟩) ∧ Below w.heap.size w w' := by
  generalize hnn : rs.length = n at *
  have HN := hidden hnn
  have hbb : b < w.heap.size := World.block_lt_of_cell? _ _ (hc 0 h0).1
  clear hnn
  go_enter Try.func18, Try.ntmps18
  go_wp2_with fail
  have HI := hidden (Lib.fresh_isBuilder 39 5 w)
  have HB1 := hidden ((Below.refl w.heap.size w).alloc (Nat.le_refl _) (.cells #[.pointer none, .slice none 0 0] 39))
  generalize w.alloc (.cells #[.pointer none, .slice none 0 0] 39) = w1 at *
  generalize hB : w.heap.size = B at *
  have HBB := hidden hB
  clear hB
  go_loopw [4, 5, 8] (fun _ _ i wr => ∃ k : Nat, k ≤ n ∧ i = .int .i64 k ∧ Lib.IsBuilder 39 5 B B (Lib.byteCells (numT (rs.take k))) wr ∧ Below B w wr) (fun _ _ i _ => n - (intOf i).toNat)
  case atStart => exact ⟨0, Nat.zero_le _, rfl, HI.out, HB1.out⟩
  case round =>
    obtain ⟨k, hk, rfl, hib, hbel⟩ := hrel
    clear HI HB1
    by_cases hlt : k < n
    · obtain ⟨c0, c1, c2⟩ := hc k hlt
      have d0 := (hbel.cell (p := ⟨b, off + k * 3, none⟩) hbb).trans c0
      have d1 := (hbel.cell (p := ⟨b, off + k * 3 + 1, none⟩) hbb).trans c1
      have d2 := (hbel.cell (p := ⟨b, off + k * 3 + 2, none⟩) hbb).trans c2
      have hle := getD_le rs k (by rw [HN.out]; exact hlt)
      have hacc := numT_len (rs.take k)
      have hacc2 := sumLen_take_le rs k
      have hacc3 : (rs.take k).length ≤ k := List.length_take_le _ _
      have hBl : B < wr.heap.size := isb_lt hib
      have hBr : B ≤ wr.heap.size := by omega
      have hBn : wr.heap.size ≠ B := by omega
      have HI := hidden hib
      have HE := hidden hbel
      have sz2 : (⟨#[44, 32]⟩ : ByteArray).size = 2 := rfl
      have szd : ∀ s : ByteArray, ((⟨#[45]⟩ : ByteArray) ++ s).size = 1 + s.size := fun s => by rw [ByteArray.size_append]; rfl
      have hlr : k < rs.length := by rw [HN.out]; exact hlt
      clear c0 c1 c2
      by_cases hk0 : 0 < k
      · skip
        have HR0 := hidden (round_one rs k (by omega) hk0)
        have HR1 := hidden (round_two rs k (by omega) hk0)
        clear hc hib hbel
        unfold Rg.two at HR0 HR1
        generalize rs.getD k Rg.none = r at *
        generalize numT (rs.take k) = acc at *
        cases ht : (r.last.toList == r.first.toList)
        · have HR := hidden (HR1.out (by rw [ht]; rfl))
          clear HR0 HR1
          go_wp2_with fail
          have bx := Box.new wr (.string r.nrn) (.string r.first) (.string r.last)
          refine (write_any B B _ _ _ (isb_alloc HI.out _) (by rw [cells_len, sz2]; omega) (by have h := isb_lt HI.out; simp; omega)).mono ?_
          rintro e w2 ⟨rfl, hi2, hb2, hk2⟩
          have bx2 := bx.kept hk2 hBn
          obtain ⟨f2, l2⟩ := bx2.cells
          have I2 := hidden hi2
          have B2 := hidden ((HE.out.alloc hBr _).trans hb2)
          have S2 := hb2.size
          have X2 := hidden bx2
          clear hi2 hb2 hk2 bx bx2
          rw [World.size_alloc] at S2
          go_wp2_with fail
          refine (write_any B B _ _ _ I2.out (by simp only [List.length_append, cells_len, Lib.strCells_length, sz2]; omega) (by omega)).mono ?_
          rintro e w3 ⟨rfl, hi3, hb3, hk3⟩
          have bx3 := X2.out.kept hk3 hBn
          obtain ⟨f3, l3⟩ := bx3.cells
          have I3 := hidden hi3
          have B3 := hidden (B2.out.trans hb3)
          have S3 := hb3.size
          clear hi3 hb3 hk3 bx3 I2 B2 f2 l2 X2
          go_wp2_with fail
          refine (write_any B B _ _ _ I3.out (by simp only [List.length_append, cells_len, Lib.strCells_length, sz2, szd]; omega) (by omega)).mono ?_
          rintro e w4 ⟨rfl, hi4, hb4, hk4⟩
          have I4 := hidden hi4
          have B4 := hidden (B3.out.trans hb4)
          clear hi4 hb4 hk4
          go_wp2
          go_roundw
          case rel => exact ⟨k + 1, by omega, by go_num, by rw [HR.out]; exact I4.out, B4.out⟩
          case measure => simp [intOf]; omega
        · have HR := hidden (HR0.out (by rw [ht]; rfl))
          clear HR0 HR1
          go_wp2_with fail
          have bx := Box.new wr (.string r.nrn) (.string r.first) (.string r.last)
          refine (write_any B B _ _ _ (isb_alloc HI.out _) (by rw [cells_len, sz2]; omega) (by have h := isb_lt HI.out; simp; omega)).mono ?_
          rintro e w2 ⟨rfl, hi2, hb2, hk2⟩
          have bx2 := bx.kept hk2 hBn
          obtain ⟨f2, l2⟩ := bx2.cells
          have I2 := hidden hi2
          have B2 := hidden ((HE.out.alloc hBr _).trans hb2)
          have S2 := hb2.size
          have X2 := hidden bx2
          clear hi2 hb2 hk2 bx bx2
          rw [World.size_alloc] at S2
          go_wp2_with fail
          refine (write_any B B _ _ _ I2.out (by simp only [List.length_append, cells_len, Lib.strCells_length, sz2]; omega) (by omega)).mono ?_
          rintro e w3 ⟨rfl, hi3, hb3, hk3⟩
          have bx3 := X2.out.kept hk3 hBn
          obtain ⟨f3, l3⟩ := bx3.cells
          have I3 := hidden hi3
          have B3 := hidden (B2.out.trans hb3)
          have S3 := hb3.size
          clear hi3 hb3 hk3 bx3 I2 B2 f2 l2 X2
          go_wp2
          go_roundw
          case rel => exact ⟨k + 1, by omega, by go_num, by rw [HR.out]; exact I3.out, B3.out⟩
          case measure => simp [intOf]; omega
      · obtain rfl : k = 0 := by omega
        simp only [Nat.zero_mul, Nat.add_zero] at d0 d1 d2
        have HR0 := hidden (round_first_one rs (by omega))
        have HR1 := hidden (round_first_two rs (by omega))
        clear hc hib hbel
        unfold Rg.two at HR0 HR1
        generalize rs.getD 0 Rg.none = r at *
        generalize numT (rs.take 0) = acc at *
        cases ht : (r.last.toList == r.first.toList)
        · have HR := hidden (HR1.out (by rw [ht]; rfl))
          clear HR0 HR1
          go_wp2_with fail
          have bx := Box.new wr (.string r.nrn) (.string r.first) (.string r.last)
          refine (write_any B B _ _ _ (isb_alloc HI.out _) (by rw [cells_len]; omega) (by have h := isb_lt HI.out; simp; omega)).mono ?_
          rintro e w3 ⟨rfl, hi3, hb3, hk3⟩
          have bx3 := bx.kept hk3 hBn
          obtain ⟨f3, l3⟩ := bx3.cells
          have I3 := hidden hi3
          have B3 := hidden ((HE.out.alloc hBr _).trans hb3)
          have S3 := hb3.size
          have bel3 := hidden bx3
          clear hi3 hb3 hk3 bx bx3
          rw [World.size_alloc] at S3
          go_wp2_with fail
          refine (write_any B B _ _ _ I3.out (by simp only [List.length_append, cells_len, Lib.strCells_length, szd]; omega) (by omega)).mono ?_
          rintro e w4 ⟨rfl, hi4, hb4, hk4⟩
          have I4 := hidden hi4
          have B4 := hidden (B3.out.trans hb4)
          clear hi4 hb4 hk4
          go_wp2
          go_roundw
          case rel => exact ⟨0 + 1, by omega, by go_num, by rw [HR.out]; exact I4.out, B4.out⟩
          case measure => simp [intOf]; omega
        · have HR := hidden (HR0.out (by rw [ht]; rfl))
          clear HR0 HR1
          go_wp2_with fail
          have bx := Box.new wr (.string r.nrn) (.string r.first) (.string r.last)
          refine (write_any B B _ _ _ (isb_alloc HI.out _) (by rw [cells_len]; omega) (by have h := isb_lt HI.out; simp; omega)).mono ?_
          rintro e w3 ⟨rfl, hi3, hb3, hk3⟩
          have bx3 := bx.kept hk3 hBn
          obtain ⟨f3, l3⟩ := bx3.cells
          have I3 := hidden hi3
          have B3 := hidden ((HE.out.alloc hBr _).trans hb3)
          have S3 := hb3.size
          have bel3 := hidden bx3
          clear hi3 hb3 hk3 bx bx3
          rw [World.size_alloc] at S3
          go_wp2
          go_roundw
          case rel => exact ⟨0 + 1, by omega, by go_num, by rw [HR.out]; exact I3.out, B3.out⟩
          case measure => simp [intOf]; omega
    · obtain rfl : k = n := by omega
      rw [List.take_of_length_le (by rw [HN.out]; exact Nat.le_refl _)] at hib
      have HI := hidden hib
      have HE := hidden hbel
      have hBr : B ≤ wr.heap.size := by have := isb_lt hib; omega
      clear hib hbel hc
      go_wp2_with fail
      refine (Try.Builder_String_any B B _ _ HI.out hBr).mono ?_
      rintro e w5 ⟨rfl, b5⟩
      have B5 := hidden (HE.out.trans b5)
      clear b5
      go_wp2
      go_ret
      exact ⟨rfl, by rw [HBB.out]; exact B5.out⟩

end Go.Proofs.Qxb6617338a
