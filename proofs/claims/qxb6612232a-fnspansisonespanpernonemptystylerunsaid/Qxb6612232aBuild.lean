/-
  Contracts of strings.Builder's copyCheck, WriteString, WriteRune and Reset at this dump (its copyCheck has a refused arm, so the shelf's own laying does not fit): after the shelf's proofs, turned to this program.
-/
import Derived.Test.Qxb6612232aShelf
import Derived.Lib.FrozenHead2
import Derived.WalkKit
import Derived.ProofKit
import Derived.BigCall
set_option linter.unusedVariables false
namespace Go.Proofs.Qxb6612232a
open Go.RowKit

theorem sizeBuilder : (Try.prog.info? 82).map (·.size) = some 2 := by kernel_rfl
theorem liesBuilder : liesAt Try.prog Try.prog.depth 82 (2 / Try.prog.cellsOf 82) 0 82 1 = true := by kernel_rfl
theorem infoByte : (Try.prog.info? 5).map (fun i => (i.zero, i.size, i.bytes)) = some (some (.int .u8 0), 1, 1) := by kernel_rfl

set_option maxHeartbeats 1000000 in
set_option maxRecDepth 100000 in
theorem check_used (b : Nat) (w : World) (h0 : w.cell? ⟨b, 0, none⟩ = some (.pointer (some ⟨b, 0, none⟩))) :
    Calls Try.prog 35 #[.pointer (some ⟨b, 0, none⟩)] w fun e w' => e = .returned (.tuple #[]) ∧ w' = w := by
  obtain ⟨j, hj, _⟩ := Option.map_eq_some_iff.1 sizeBuilder
  go_enter Try.func35, Try.ntmps35
  go_wp2
  rw [Lib.run_neq_ptr_same w _ Try.underlying80 hj]
  go_wp2
  go_end0
  exact ⟨rfl, rfl⟩

set_option maxHeartbeats 1000000 in
set_option maxRecDepth 100000 in
theorem check_fresh (b : Nat) (w : World) (h0 : w.cell? ⟨b, 0, none⟩ = some (.pointer none)) (hsh : w.shape? b = some (82, 2)) (hfz : w.frozen? ⟨b, 0, none⟩ = false) :
    Calls Try.prog 35 #[.pointer (some ⟨b, 0, none⟩)] w fun e w' => e = .returned (.tuple #[]) ∧ w' = w.setCell ⟨b, 0, none⟩ (.pointer (some ⟨b, 0, none⟩)) := by
  obtain ⟨j, hj, hjs⟩ := Option.map_eq_some_iff.1 sizeBuilder
  go_enter Try.func35, Try.ntmps35
  go_wp2
  rw [Lib.run_to_unsafe w ⟨b, 0, none⟩ Try.underlying80 Try.underlying100 hj (by rw [hjs]; decide) hsh (Nat.zero_lt_succ 1)]
  simp only [Result.andThen]
  rw [Oper.upon_value]
  go_wp2
  rw [run_callFunc_extern Try.func38 (by kernel_rfl) (by kernel_rfl) (by kernel_rfl) (e := Extern.AbiNoEscape.same) (by kernel_rfl)]
  rw [Lib.run_noEscape]
  simp only [Result.andThen]
  rw [Oper.upon_value]
  go_wp2
  rw [Lib.run_from_unsafe w ⟨b, 0, none⟩ Try.underlying100 Try.underlying80 hj hsh liesBuilder]
  simp only [Result.andThen]
  rw [Oper.upon_value]
  go_wp2
  go_end0
  exact ⟨rfl, rfl⟩

theorem copyCheck_k (B b : Nat) (bs : List Value) (w : World) (h : Lib.IsBuilderF 82 5 B b bs w) :
    Calls Try.prog 35 #[.pointer (some ⟨b, 0, none⟩)] w fun e w' => e = .returned (.tuple #[]) ∧ (Lib.BuilderAtF 82 5 B b (.pointer (some ⟨b, 0, none⟩)) bs w' ∧ Below B w w' ∧ Lib.OthersKept 5 (some b) w w') := by
  rcases h with h | h
  · refine (check_fresh b w h.cell0 h.shape h.frozen0).mono ?_
    rintro e w' ⟨rfl, rfl⟩
    exact ⟨rfl, h.used _, (Below.refl B w).setCell (p := ⟨b, 0, none⟩) h.1 _, (Lib.OthersKept.refl _ _ w).setCell ⟨b, 0, none⟩ rfl _⟩
  · refine (check_used b w h.cell0).mono ?_
    rintro e w' ⟨rfl, rfl⟩
    exact ⟨rfl, h, Below.refl B _, Lib.OthersKept.refl _ _ _⟩

set_option maxHeartbeats 2000000 in
set_option maxRecDepth 100000 in
theorem WriteString_k (B b : Nat) (bs : List Value) (s : ByteArray) (w : World) (h : Lib.IsBuilderF 82 5 B b bs w) (hlen : bs.length + s.size ≤ 140737488355328) (hBw : B ≤ w.heap.size) :
    Calls Try.prog 32 #[.pointer (some ⟨b, 0, none⟩), .string s] w fun e w' => e = .returned (.tuple #[.int .i64 s.size, .nilIface]) ∧ (Lib.BuilderAtF 82 5 B b (.pointer (some ⟨b, 0, none⟩)) (bs ++ Lib.strCells s) w' ∧ Below B w w' ∧ Lib.OthersKept 5 (some b) w w') := by
  obtain ⟨i0, hi, hz0, hz1, hz2⟩ := info_parts infoByte
  go_enter Try.func32, Try.ntmps32
  go_wp2_with (go_at_call 35; refine (copyCheck_k B b bs _ h).mono ?_)
  rintro e w1 ⟨rfl, h1, hb1, hk1⟩
  obtain ⟨hB, v, hbk, hown, hne⟩ := h1
  have c0 : w1.cell? ⟨b, 0, none⟩ = some (.pointer (some ⟨b, 0, none⟩)) := by rw [Lib.cell_of_heap hbk]; rfl
  have c1 : w1.cell? ⟨b, 1, none⟩ = some v := by rw [Lib.cell_of_heap hbk]; rfl
  go_wp2_with (at_builtin; refine Lib.wpList_append_own_stringF _ rfl _ _ 34 9 rfl B 5 i0 Try.underlying34 Try.underlying9 hi hz0 hz1 hz2 _ _ _ rfl hown s rfl ?c3 ?c4 ?c5 ?_)
  case c3 => unfold maxLen; omega
  case c4 => omega
  case c5 => have := hb1.size; omega
  intro v' w2 hown' hgrow _
  have hlt : b < w1.heap.size := by
    rcases Nat.lt_or_ge b w1.heap.size with h' | h'
    · exact h'
    · simp [Array.getElem?_eq_none h'] at hbk
  have hb2 : w2.heap[b]? = some (.cells #[.pointer (some ⟨b, 0, none⟩), v] 82 (0, 0)) := by
    rw [hgrow.block b hlt (fun e => hne e.symm)]
    exact hbk
  have d0 : w2.cell? ⟨b, 0, none⟩ = some (.pointer (some ⟨b, 0, none⟩)) := by rw [Lib.cell_of_heap hb2]; rfl
  have d1 : w2.cell? ⟨b, 1, none⟩ = some v := by rw [Lib.cell_of_heap hb2]; rfl
  have f1 : w2.frozen? ⟨b, 1, none⟩ = false := Lib.frozen_of_heap hb2 1
  obtain ⟨ao, n', cap, rfl⟩ : ∃ ao n' cap, v' = .slice ao n' cap := by
    rcases hown'.2 with ⟨hv, _⟩ | ⟨g, cap, cur, fz, hv, _⟩
    · exact ⟨_, _, _, hv⟩
    · exact ⟨_, _, _, hv⟩
  go_wp2
  go_ret2
  refine ⟨rfl, ?_, ?_, (hk1.grown hgrow (Lib.ownsRowF_kind hown)).setCell ⟨b, 1, none⟩ rfl _⟩
  · exact Lib.BuilderAtF.put (T := 82) (e := 5) hB hb2 (bs' := bs ++ Lib.strCells s) (by simpa [Lib.strCells_length] using hown') (by decide)
  · exact (hb1.grown hgrow (by have := hb1.size; omega) (fun k hk => (hown.lt k hk).1)).setCell (p := ⟨b, 1, none⟩) hB _

set_option maxHeartbeats 4000000 in
set_option maxRecDepth 100000 in
theorem WriteRune_k (B b : Nat) (bs : List Value) (r : Int) (hr0 : -2147483648 ≤ r) (hr1 : r ≤ 2147483647) (w : World) (h : Lib.IsBuilderF 82 5 B b bs w) (hlen : bs.length + 4 ≤ 140737488355328) (hBw : B ≤ w.heap.size) :
    Calls Try.prog 33 #[.pointer (some ⟨b, 0, none⟩), .int .i32 r] w fun e w' => e = .returned (.tuple #[.int .i64 (Lib.runeCells r).length, .nilIface]) ∧ (Lib.BuilderAtF 82 5 B b (.pointer (some ⟨b, 0, none⟩)) (bs ++ Lib.runeCells r) w' ∧ Below B w w' ∧ Lib.OthersKept 5 (some b) w w') := by
  have hk4 := Lib.runeCells_le r
  go_enter Try.func33, Try.ntmps33
  go_wp2_with (go_at_call 35; refine (copyCheck_k B b bs _ h).mono ?_)
  rintro e w1 ⟨rfl, h1, hb1, hk1⟩
  obtain ⟨hB, v, hbk, hown, hne⟩ := h1
  obtain ⟨ao, cap, rfl⟩ : ∃ ao cap, v = .slice ao bs.length cap := by
    rcases hown.2 with ⟨hv, h0⟩ | ⟨g, cap, cur, fz, hv, _⟩
    · exact ⟨none, 0, by rw [hv, h0]⟩
    · exact ⟨_, _, hv⟩
  have c0 : w1.cell? ⟨b, 0, none⟩ = some (.pointer (some ⟨b, 0, none⟩)) := by rw [Lib.cell_of_heap hbk]; rfl
  have c1 : w1.cell? ⟨b, 1, none⟩ = some (.slice ao bs.length cap) := by rw [Lib.cell_of_heap hbk]; rfl
  go_wp2_with (go_at_call 36; refine (Try.utf8_AppendRune_row B _ bs.length bs r hr0 hr1 _ hown hlen (by have := hb1.size; omega)).mono ?_)
  rintro e w2 ⟨v', rfl, hown', o, hgrow⟩
  have hlt : b < w1.heap.size := by
    rcases Nat.lt_or_ge b w1.heap.size with h' | h'
    · exact h'
    · simp [Array.getElem?_eq_none h'] at hbk
  have hb2 : w2.heap[b]? = some (.cells #[.pointer (some ⟨b, 0, none⟩), .slice ao bs.length cap] 82 (0, 0)) := by
    rw [hgrow.block b (by simp; omega) (fun e => hne e.symm), Lib.alloc_old w1 _ b hlt]
    exact hbk
  have d0 : w2.cell? ⟨b, 0, none⟩ = some (.pointer (some ⟨b, 0, none⟩)) := by rw [Lib.cell_of_heap hb2]; rfl
  have d1 : w2.cell? ⟨b, 1, none⟩ = some (.slice ao bs.length cap) := by rw [Lib.cell_of_heap hb2]; rfl
  have f1 : w2.frozen? ⟨b, 1, none⟩ = false := Lib.frozen_of_heap hb2 1
  obtain ⟨g, cap', rfl⟩ : ∃ g cap', v' = .slice (some ⟨g, 0, none⟩) (bs.length + (Lib.runeCells r).length) cap' := by
    rcases hown'.2 with ⟨_, h0⟩ | ⟨g, cap', cur, fz, hv, _⟩
    · omega
    · exact ⟨g, cap', hv⟩
  go_wp2
  go_ret2
  refine ⟨?_, ?_, ?_, ((hk1.alloc _).grown hgrow (Lib.ownsRowF_kind (hown.alloc _))).setCell ⟨b, 1, none⟩ rfl _⟩
  · have e : ((bs.length : Int) + ((Lib.runeCells r).length : Int) - (bs.length : Int)) = ((Lib.runeCells r).length : Int) := by omega
    simp [e]
  · exact Lib.BuilderAtF.put (T := 82) (e := 5) hB hb2 (bs' := bs ++ Lib.runeCells r) (by simpa using hown') (by decide)
  · exact ((hb1.alloc (by have := hb1.size; omega) _).grown hgrow (by have := hb1.size; simp; omega) (fun k hk => (hown.lt k hk).1)).setCell (p := ⟨b, 1, none⟩) hB _

theorem Reset_k (B b : Nat) (bs : List Value) (w : World) (h : Lib.IsBuilderF 82 5 B b bs w) :
    Calls Try.prog 31 #[.pointer (some ⟨b, 0, none⟩)] w fun e w' => e = .returned (.tuple #[]) ∧ (Lib.IsBuilderF 82 5 B b [] w' ∧ Below B w w' ∧ Lib.OthersKept 5 (some b) w w') := by
  obtain ⟨p, hB, v, hbk, hown, hne⟩ : ∃ p, Lib.BuilderAtF 82 5 B b p bs w := by
    rcases h with h | h
    · exact ⟨_, h⟩
    · exact ⟨_, h⟩
  have c0 : w.cell? ⟨b, 0, none⟩ = some p := by rw [Lib.cell_of_heap hbk]; rfl
  have c1 : w.cell? ⟨b, 1, none⟩ = some v := by rw [Lib.cell_of_heap hbk]; rfl
  have f0 : w.frozen? ⟨b, 0, none⟩ = false := Lib.frozen_of_heap hbk 0
  have f1 : w.frozen? ⟨b, 1, none⟩ = false := Lib.frozen_of_heap hbk 1
  have hlt : b < w.heap.size := by
    rcases Nat.lt_or_ge b w.heap.size with h' | h'
    · exact h'
    · simp [Array.getElem?_eq_none h'] at hbk
  have hend : (((w.setCell ⟨b, 0, none⟩ (.pointer none)).setCell ⟨b, 1, none⟩ (.slice none 0 0)).heap[b]?) = some (.cells #[.pointer none, .slice none 0 0] 82 (0, 0)) := by
    simp [World.setCell, Array.getElem?_modify, hbk]
  go_enter Try.func31, Try.ntmps31
  go_wp2
  go_end0
  exact ⟨rfl, Or.inl ⟨hB, .slice none 0 0, hend, World.ownsRowF_nil _ _ _ _, by simp [Value.ownBlock]⟩, ((Below.refl B w).setCell (p := ⟨b, 0, none⟩) hB _).setCell (p := ⟨b, 1, none⟩) hB _, ((Lib.OthersKept.refl _ _ w).setCell ⟨b, 0, none⟩ rfl _).setCell ⟨b, 1, none⟩ rfl _⟩

end Go.Proofs.Qxb6612232a
