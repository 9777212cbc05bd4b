import Derived.Test.Qxb6617338aRows
import Derived.WalkKit
import Derived.WalkSpells
import Derived.WalkLawsBesides
import Derived.Lib.Builder
import Derived.Lib.AppendStr
import Derived.Laws.Externs
namespace Go.Proofs.Qxb6617338a
open Go.RowKit

/-! strings.Builder at this program's own numbers: copyCheck (23), WriteString (21). Turned to this program out of the shelf's Builder1 (the shelf's own laying falls here: copyCheck's body bears a refused statement in this cut). -/
theorem Try.infoByte : (Try.prog.info? 5).map (fun i => (i.zero, i.size, i.bytes)) = some (some (.int .u8 0), 1, 1) := by kernel_rfl
theorem sizeBuilder : (Try.prog.info? 39).map (·.size) = some 2 := by kernel_rfl
theorem liesBuilder : liesAt Try.prog Try.prog.depth 39 (2 / Try.prog.cellsOf 39) 0 39 1 = true := by kernel_rfl

/-- The builder's address, turned into a bare pointer and back: as it was. -/
theorem ptr_out (w : World) (b : Nat) (hsh : w.shape? b = some (39, 2)) : (convert 37 46 (.pointer (some ⟨b, 0, none⟩))).run Try.prog w = .ok (.pointer (some ⟨b, 0, none⟩)) w := by
  obtain ⟨j, hj, hjs⟩ := Option.map_eq_some_iff.1 sizeBuilder
  simp only [convert, Sem.run_bind, run_underlying Try.underlying37, run_underlying Try.underlying46, Result.andThen_ok]
  show Sem.run Try.prog (Bind.bind (underlying 37) _) w = _
  simp [run_underlying Try.underlying37, run_underlying Try.underlying46, Conv.seenAt, viewAt, cellsIn, hsh, sizeOf, typeInfo, hj, hjs]
theorem ptr_back (w : World) (b : Nat) (hsh : w.shape? b = some (39, 2)) : (convert 46 37 (.pointer (some ⟨b, 0, none⟩))).run Try.prog w = .ok (.pointer (some ⟨b, 0, none⟩)) w := by
  obtain ⟨j, hj, hjs⟩ := Option.map_eq_some_iff.1 sizeBuilder
  simp only [convert, Sem.run_bind, run_underlying Try.underlying37, run_underlying Try.underlying46, Result.andThen_ok]
  show Sem.run Try.prog (Bind.bind (underlying 46) _) w = _
  simp [run_underlying Try.underlying37, run_underlying Try.underlying46, Conv.seenAt, viewAt, hsh, variablesAt, liesBuilder, sizeOf, typeInfo, hj]

set_option maxHeartbeats 1000000 in
set_option maxRecDepth 100000 in
theorem copyCheck_used (b : Nat) (w : World) (h0 : w.cell? ⟨b, 0, none⟩ = some (.pointer (some ⟨b, 0, none⟩))) :
    Calls Try.prog 23 #[.pointer (some ⟨b, 0, none⟩)] w fun e w' => e = .returned (.tuple #[]) ∧ w' = w := by
  obtain ⟨j, hj, _⟩ := Option.map_eq_some_iff.1 sizeBuilder
  go_enter Try.func23, Try.ntmps23
  go_wp2
  rw [Lib.run_neq_ptr_same w _ Try.underlying37 hj]
  go_wp2
  go_end0
  exact ⟨rfl, rfl⟩

set_option maxHeartbeats 1000000 in
set_option maxRecDepth 100000 in
theorem copyCheck_fresh (b : Nat) (w : World) (h0 : w.cell? ⟨b, 0, none⟩ = some (.pointer none)) (hsh : w.shape? b = some (39, 2)) (hfz : w.frozen? ⟨b, 0, none⟩ = false) :
    Calls Try.prog 23 #[.pointer (some ⟨b, 0, none⟩)] w fun e w' => e = .returned (.tuple #[]) ∧ w' = w.setCell ⟨b, 0, none⟩ (.pointer (some ⟨b, 0, none⟩)) := by
  go_enter Try.func23, Try.ntmps23
  go_wp2
  rw [ptr_out w b hsh]
  simp only [Result.andThen]
  rw [Oper.upon_value]
  go_wp2
  rw [run_callFunc_extern Try.func24 (by kernel_rfl) (by kernel_rfl) (by kernel_rfl) (e := Extern.AbiNoEscape.same) (by kernel_rfl)]
  rw [Lib.run_noEscape]
  simp only [Result.andThen]
  rw [Oper.upon_value]
  go_wp2
  rw [ptr_back w b hsh]
  simp only [Result.andThen]
  rw [Oper.upon_value]
  go_wp2
  go_end0
  exact ⟨rfl, rfl⟩

/-- Every block but b, and but rows of bytes, stands as it stood. -/
def Kept (b : Nat) (w w' : World) : Prop := ∀ k cs T fr, w.heap[k]? = some (.cells cs T fr) → k ≠ b → T ≠ 5 → w'.heap[k]? = some (.cells cs T fr)

theorem Kept.refl (b : Nat) (w : World) : Kept b w w := fun _ _ _ _ h _ _ => h
theorem Kept.trans {b : Nat} {u v w : World} (h : Kept b u v) (k : Kept b v w) : Kept b u w := fun i cs T fr hi hb hT => k i cs T fr (h i cs T fr hi hb hT) hb hT
theorem Kept.setCell (b j : Nat) (w : World) (v : Value) : Kept b w (w.setCell ⟨b, j, none⟩ v) := fun k cs T fr h hb _ => by
  rw [Below.heap_setCell _ _ _ _ hb]
  exact h
theorem Kept.grown {b : Nat} {B : Nat} {w w' : World} {v : Value} {n : Nat} {xs : List Value} (hown : w.ownsRow B 5 1 v n xs) (hg : w.grownBy w' v.ownBlock) : Kept b w w' := fun k cs T fr h hb hT => by
  have hlt : k < w.heap.size := (Array.getElem?_eq_some_iff.1 h).1
  rw [hg.block k hlt (fun e => Lib.ownBlock_ne hown h hT e.symm)]
  exact h

theorem copyCheck_any (B b : Nat) (bs : List Value) (w : World) (h : Lib.IsBuilder 39 5 B b bs w) :
    Calls Try.prog 23 #[.pointer (some ⟨b, 0, none⟩)] w fun e w' => e = .returned (.tuple #[]) ∧ Lib.BuilderAt 39 5 B b (.pointer (some ⟨b, 0, none⟩)) bs w' ∧ Below B w w' ∧ Kept b w w' := by
  rcases h with h | h
  · refine (copyCheck_fresh b w h.cell0 h.shape h.frozen0).mono ?_
    rintro e w' ⟨rfl, rfl⟩
    exact ⟨rfl, h.used _, (Below.refl B w).setCell (p := ⟨b, 0, none⟩) h.1 _, Kept.setCell _ _ _ _⟩
  · refine (copyCheck_used b w h.cell0).mono ?_
    rintro e w' ⟨rfl, rfl⟩
    exact ⟨rfl, h, Below.refl B _, Kept.refl _ _⟩

set_option maxHeartbeats 1000000 in
set_option maxRecDepth 100000 in
/-- (*strings.Builder).WriteString. -/
theorem write_any (B b : Nat) (bs : List Value) (s : ByteArray) (w : World) (h : Lib.IsBuilder 39 5 B b bs w) (hlen : bs.length + s.size ≤ 140737488355328) (hBw : B ≤ w.heap.size) :
    Calls Try.prog 21 #[.pointer (some ⟨b, 0, none⟩), .string s] w fun e w' => e = .returned (.tuple #[.int .i64 s.size, .nilIface]) ∧ Lib.IsBuilder 39 5 B b (bs ++ Lib.strCells s) w' ∧ Below B w w' ∧ Kept b w w' := by
  obtain ⟨i0, hi, hz0, hz1, hz2⟩ := info_parts Try.infoByte
  go_enter Try.func21, Try.ntmps21
  go_wp2_with (go_at_call 23; refine (copyCheck_any B b bs _ h).mono ?_)
  rintro e w1 ⟨rfl, h1, hb1, hk1⟩
  obtain ⟨hB, v, hbk, hown, hne⟩ := h1
  have c0 : w1.cell? ⟨b, 0, none⟩ = some (.pointer (some ⟨b, 0, none⟩)) := by rw [Lib.cell_of_heap hbk]; rfl
  have c1 : w1.cell? ⟨b, 1, none⟩ = some v := by rw [Lib.cell_of_heap hbk]; rfl
  go_wp2_with (at_builtin; refine Lib.wpList_append_own_string _ rfl _ _ 36 9 rfl B 5 i0 Try.underlying36 Try.underlying9 hi hz0 hz1 hz2 _ _ _ rfl hown s rfl ?c3 ?c4 ?c5 ?_)
  case c3 => unfold maxLen; omega
  case c4 => omega
  case c5 => have := hb1.size; omega
  intro v' w2 hown' hgrow _
  have hlt : b < w1.heap.size := by
    rcases Nat.lt_or_ge b w1.heap.size with h' | h'
    · exact h'
    · simp [Array.getElem?_eq_none h'] at hbk
  have hb2 : w2.heap[b]? = some (.cells #[.pointer (some ⟨b, 0, none⟩), v] 39 (0, 0)) := by
    rw [hgrow.block b hlt (fun e => hne e.symm)]
    exact hbk
  have d0 : w2.cell? ⟨b, 0, none⟩ = some (.pointer (some ⟨b, 0, none⟩)) := by rw [Lib.cell_of_heap hb2]; rfl
  have d1 : w2.cell? ⟨b, 1, none⟩ = some v := by rw [Lib.cell_of_heap hb2]; rfl
  have f1 : w2.frozen? ⟨b, 1, none⟩ = false := Lib.frozen_of_heap hb2 1
  obtain ⟨ao, n', cap, rfl⟩ : ∃ ao n' cap, v' = .slice ao n' cap := by
    rcases hown'.2 with ⟨hv, _⟩ | ⟨g, cap, cur, hv, _⟩
    · exact ⟨_, _, _, hv⟩
    · exact ⟨_, _, _, hv⟩
  go_wp2
  go_ret2
  refine ⟨rfl, .inr ?_, ?_, ?_⟩
  · exact Lib.BuilderAt.put (T := 39) (e := 5) hB hb2 (bs' := bs ++ Lib.strCells s) (by simpa [Lib.strCells_length] using hown') (by decide)
  · exact (hb1.grown hgrow (by have := hb1.size; omega) (fun k hk => (hown.lt k hk).1)).setCell (p := ⟨b, 1, none⟩) hB _
  · exact (hk1.trans (Kept.grown hown hgrow)).trans (Kept.setCell _ _ _ _)

end Go.Proofs.Qxb6617338a
