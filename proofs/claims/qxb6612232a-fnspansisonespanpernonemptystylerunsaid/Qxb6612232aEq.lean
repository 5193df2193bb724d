/-
  A span, a style against itself.
-/
import Derived.Test.Qxb6612232aKeep
set_option linter.unusedVariables false
namespace Go.Proofs.Qxb6612232a
open Go.RowKit

set_option maxHeartbeats 400000 in
set_option maxRecDepth 100000 in
theorem eq38 (d : Nat) (a0 a1 a2 a3 a4 : Int) (w : World) : (Op.equalIn (d + 2) 38 (.agg #[.int .u8 a0, .int .u8 a1, .int .u8 a2, .int .u8 a3, .int .u8 a4]) (.agg #[.int .u8 a0, .int .u8 a1, .int .u8 a2, .int .u8 a3, .int .u8 a4])).run Try.prog w = .ok true w := by
  rw [run_equalIn_agg w (d + 1) 38 _ _ (by simp [Program.fieldsOf, Try.underlying38]) (by kernel_rfl)]
  simp [Program.fieldsOf, Try.underlying38, Op.eqFields, go_sem]

set_option maxHeartbeats 1000000 in
set_option maxRecDepth 100000 in
theorem eq40 (d : Nat) (s : Sty) (w : World) : (Op.equalIn (d + 3) 40 (.agg #[.int .u8 s.a0, .int .u8 s.a1, .int .u8 s.a2, .int .u8 s.a3, .int .u8 s.a4, .int .u8 s.a5, .int .u8 s.a6, .int .u8 s.a7, .int .u8 s.a8, .int .u8 s.a9, .bool s.b0, .bool s.b1, .bool s.b2, .bool s.b3]) (.agg #[.int .u8 s.a0, .int .u8 s.a1, .int .u8 s.a2, .int .u8 s.a3, .int .u8 s.a4, .int .u8 s.a5, .int .u8 s.a6, .int .u8 s.a7, .int .u8 s.a8, .int .u8 s.a9, .bool s.b0, .bool s.b1, .bool s.b2, .bool s.b3])).run Try.prog w = .ok true w := by
  rw [run_equalIn_agg w (d + 2) 40 _ _ (by simp [Program.fieldsOf, Try.underlying40]) (by kernel_rfl)]
  simp [Program.fieldsOf, Try.underlying40, Op.eqFields, go_sem]

set_option maxHeartbeats 1000000 in
set_option maxRecDepth 100000 in
theorem eq43 (d : Nat) (t : ByteArray) (s : Sty) (w : World) : (Op.equalIn (d + 4) 43 (.agg #[.string t, .int .u8 s.a0, .int .u8 s.a1, .int .u8 s.a2, .int .u8 s.a3, .int .u8 s.a4, .int .u8 s.a5, .int .u8 s.a6, .int .u8 s.a7, .int .u8 s.a8, .int .u8 s.a9, .bool s.b0, .bool s.b1, .bool s.b2, .bool s.b3]) (.agg #[.string t, .int .u8 s.a0, .int .u8 s.a1, .int .u8 s.a2, .int .u8 s.a3, .int .u8 s.a4, .int .u8 s.a5, .int .u8 s.a6, .int .u8 s.a7, .int .u8 s.a8, .int .u8 s.a9, .bool s.b0, .bool s.b1, .bool s.b2, .bool s.b3])).run Try.prog w = .ok true w := by
  rw [run_equalIn_agg w (d + 3) 43 _ _ (by simp [Program.fieldsOf, Try.underlying43]) (by kernel_rfl)]
  simp [Program.fieldsOf, Try.underlying43, Op.eqFields, go_sem]

theorem neq40 (s : Sty) (w : World) : (binOp .neq 40 (.agg #[.int .u8 s.a0, .int .u8 s.a1, .int .u8 s.a2, .int .u8 s.a3, .int .u8 s.a4, .int .u8 s.a5, .int .u8 s.a6, .int .u8 s.a7, .int .u8 s.a8, .int .u8 s.a9, .bool s.b0, .bool s.b1, .bool s.b2, .bool s.b3]) (.agg #[.int .u8 s.a0, .int .u8 s.a1, .int .u8 s.a2, .int .u8 s.a3, .int .u8 s.a4, .int .u8 s.a5, .int .u8 s.a6, .int .u8 s.a7, .int .u8 s.a8, .int .u8 s.a9, .bool s.b0, .bool s.b1, .bool s.b2, .bool s.b3])).run Try.prog w = .ok (.bool false) w := by
  rw [run_neq_struct, eq40 9997 s w]
  rfl
theorem neq43 (t : ByteArray) (s : Sty) (w : World) : (binOp .neq 43 (.agg #[.string t, .int .u8 s.a0, .int .u8 s.a1, .int .u8 s.a2, .int .u8 s.a3, .int .u8 s.a4, .int .u8 s.a5, .int .u8 s.a6, .int .u8 s.a7, .int .u8 s.a8, .int .u8 s.a9, .bool s.b0, .bool s.b1, .bool s.b2, .bool s.b3]) (.agg #[.string t, .int .u8 s.a0, .int .u8 s.a1, .int .u8 s.a2, .int .u8 s.a3, .int .u8 s.a4, .int .u8 s.a5, .int .u8 s.a6, .int .u8 s.a7, .int .u8 s.a8, .int .u8 s.a9, .bool s.b0, .bool s.b1, .bool s.b2, .bool s.b3])).run Try.prog w = .ok (.bool false) w := by
  rw [run_neq_struct, eq43 9996 t s w]
  rfl

/-- The cells of a span in a row of spans. -/
theorem span_at {w : World} {B : Nat} {v : Value} {S : Nat → Sty} {L : List (List UInt8 × Int)} (h : w.ownsRow B 43 15 v L.length (spansCells S L)) {i : Nat} (hi : i < L.length) :
    ∃ g cap, v = .slice (some ⟨g, 0, none⟩) L.length cap ∧ g < w.heap.size ∧ w.rangeAt g (i * 15) (spanCells S L[i]) := by
  rcases h.2 with ⟨_, h0⟩ | ⟨g, cap, cur, rfl, hB, hg, hrest⟩
  · omega
  · refine ⟨g, cap, rfl, (Array.getElem?_eq_some_iff.1 hg).1, fun j u hj => ?_⟩
    have hjl : j < 15 := by have := (List.getElem?_eq_some_iff.1 hj).1; rwa [spanCells_length] at this
    rw [h.cellAt (i * 15 + j) (by have := Nat.mul_le_mul_right 15 hi; rw [Nat.succ_mul] at this; omega), ← hj]
    clear h hg hj hrest
    induction L generalizing i with
    | nil => simp at hi
    | cons p L ih =>
      cases i with
      | zero =>
        simp only [spansCells, List.flatMap_cons, Nat.zero_mul, Nat.zero_add, List.getElem_cons_zero]
        rw [List.getElem?_append_left (by rw [spanCells_length]; exact hjl)]
      | succ i =>
        simp only [spansCells, List.flatMap_cons, List.getElem_cons_succ]
        rw [List.getElem?_append_right (by rw [spanCells_length]; omega), spanCells_length]
        have := ih (i := i) (by simpa using hi)
        rw [show (i + 1) * 15 + j - 15 = i * 15 + j by omega]
        exact this

/-- The fifteen cells of a span, one by one. -/
theorem range15 {w : World} {b o : Nat} {S : Nat → Sty} {t : List UInt8} {x : Int} {s : Sty} (hs : stOf S x = s) (h : w.rangeAt b o (spanCells S (t, x))) :
    w.cell? ⟨b, o, none⟩ = some (.string ⟨t.toArray⟩) ∧ w.cell? ⟨b, o + 1, none⟩ = some (.int .u8 s.a0) ∧ w.cell? ⟨b, o + 2, none⟩ = some (.int .u8 s.a1) ∧ w.cell? ⟨b, o + 3, none⟩ = some (.int .u8 s.a2) ∧ w.cell? ⟨b, o + 4, none⟩ = some (.int .u8 s.a3) ∧ w.cell? ⟨b, o + 5, none⟩ = some (.int .u8 s.a4) ∧
    w.cell? ⟨b, o + 6, none⟩ = some (.int .u8 s.a5) ∧ w.cell? ⟨b, o + 7, none⟩ = some (.int .u8 s.a6) ∧ w.cell? ⟨b, o + 8, none⟩ = some (.int .u8 s.a7) ∧ w.cell? ⟨b, o + 9, none⟩ = some (.int .u8 s.a8) ∧ w.cell? ⟨b, o + 10, none⟩ = some (.int .u8 s.a9) ∧
    w.cell? ⟨b, o + 11, none⟩ = some (.bool s.b0) ∧ w.cell? ⟨b, o + 12, none⟩ = some (.bool s.b1) ∧ w.cell? ⟨b, o + 13, none⟩ = some (.bool s.b2) ∧ w.cell? ⟨b, o + 14, none⟩ = some (.bool s.b3) := by
  subst hs
  exact ⟨h 0 _ rfl, h 1 _ rfl, h 2 _ rfl, h 3 _ rfl, h 4 _ rfl, h 5 _ rfl, h 6 _ rfl, h 7 _ rfl, h 8 _ rfl, h 9 _ rfl, h 10 _ rfl, h 11 _ rfl, h 12 _ rfl, h 13 _ rfl, h 14 _ rfl⟩

end Go.Proofs.Qxb6612232a
