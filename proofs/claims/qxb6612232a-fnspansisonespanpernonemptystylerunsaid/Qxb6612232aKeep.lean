/-
  What stays where: small laws on worlds for the walk of spans.
-/
import Derived.Test.Qxb6612232aBuild
import Derived.Test.Qxb6612232aStyles
import Derived.Deep.AppendLies
set_option linter.unusedVariables false
namespace Go.Proofs.Qxb6612232a
open Go.RowKit

/-- A row of spans that the call owns stands while the builder is written. -/
theorem owns_others {w w' : World} {B b : Nat} {v : Value} {n : Nat} {xs : List Value} {cs : Array Value} (h : w.ownsRow B 43 15 v n xs) (hk : Lib.OthersKept 5 (some b) w w') (hb : w.heap[b]? = some (.cells cs 82 (0, 0))) : w'.ownsRow B 43 15 v n xs := by
  refine ⟨h.1, ?_⟩
  rcases h.2 with h2 | ⟨g, cap, cur, hv, hg, hh, r⟩
  · exact Or.inl h2
  · refine Or.inr ⟨g, cap, cur, hv, hg, hk g _ hh ?_ ?_, r⟩
    · intro e
      have : g = b := by simpa using e
      subst this
      rw [hb] at hh
      simp at hh
    · intro c fz e
      simp at e

/-- A block of another kind stands while the builder is written. -/
theorem block_others {w w' : World} {b k : Nat} {cs : Array Value} (h : w.heap[k]? = some (.cells cs 74 (0, 0))) (hk : Lib.OthersKept 5 (some b) w w') (hne : k ≠ b) : w'.heap[k]? = some (.cells cs 74 (0, 0)) :=
  hk k _ h (fun e => hne (by simpa using e)) (fun c fz e => by simp at e)

theorem builder_block {B b : Nat} {bs : List Value} {w : World} (h : Lib.IsBuilderF 82 5 B b bs w) : ∃ cs, w.heap[b]? = some (.cells cs 82 (0, 0)) := by
  rcases h with ⟨_, v, hb, _⟩ | ⟨_, v, hb, _⟩
  · exact ⟨_, hb⟩
  · exact ⟨_, hb⟩

theorem builder_lt {B b : Nat} {bs : List Value} {w : World} (h : Lib.IsBuilderF 82 5 B b bs w) : b < w.heap.size := by
  rcases h with h | h
  · exact h.lt
  · exact h.lt

/-- The builder stands while a row of spans is appended to. -/
theorem builder_grown {B b : Nat} {bs : List Value} {w w' : World} {v : Value} {n : Nat} {xs : List Value} (h : Lib.IsBuilderF 82 5 B b bs w) (hown : w.ownsRow B 43 15 v n xs) (hg : w.grownBy w' v.ownBlock) : Lib.IsBuilderF 82 5 B b bs w' := by
  have kind : ∀ k cs t fz, w.heap[k]? = some (.cells cs t fz) → t ≠ 43 → some k ≠ v.ownBlock := by
    intro k cs t fz hk ht e
    rcases hown.2 with ⟨rfl, _⟩ | ⟨g, cap, cur, rfl, _, hh, _⟩
    · simp [Value.ownBlock] at e
    · simp only [Value.ownBlock, Option.some.injEq] at e
      subst e
      rw [hh] at hk
      simp at hk
      exact ht hk.2.1.symm
  have one : ∀ p, Lib.BuilderAtF 82 5 B b p bs w → Lib.BuilderAtF 82 5 B b p bs w' := by
    rintro p ⟨hB, u, hb, ho, hne⟩
    refine ⟨hB, u, ?_, ?_, hne⟩
    · rw [hg.block b (Array.getElem?_eq_some_iff.1 hb).1 (kind b _ _ _ hb (by decide))]; exact hb
    · refine ho.kept hg ?_
      cases hu : u.ownBlock with
      | none => exact Or.inl rfl
      | some g =>
        right
        obtain ⟨c, fz, hc⟩ := Lib.ownsRowF_kind ho g hu
        exact kind g _ _ _ hc (by decide)
  rcases h with h | h
  · exact Or.inl (one _ h)
  · exact Or.inr (one _ h)

theorem builder_alloc {B b : Nat} {bs : List Value} {w : World} (h : Lib.IsBuilderF 82 5 B b bs w) (o : Obj) : Lib.IsBuilderF 82 5 B b bs (w.alloc o) := by
  rcases h with h | h
  · exact Or.inl (h.alloc o)
  · exact Or.inr (h.alloc o)

/-- What a walk over older memory is told: nothing below B has turned. -/
def Same (w w' : World) : Prop := ∀ j o, j < w.heap.size → w'.cell? ⟨j, o, none⟩ = w.cell? ⟨j, o, none⟩
theorem same_of {w w' : World} (h : Below w.heap.size w w') : ∀ j o, j < w.heap.size → w'.cell? ⟨j, o, none⟩ = w.cell? ⟨j, o, none⟩ := fun j o hj => h.cell (p := ⟨j, o, none⟩) hj
theorem same_alloc {w w' : World} (h : Below w.heap.size w w') (o : Obj) : ∀ j k, j < w.heap.size → (w'.alloc o).cell? ⟨j, k, none⟩ = w.cell? ⟨j, k, none⟩ := same_of (h.alloc h.size o)
theorem same_alloc2 {w w' : World} (h : Below w.heap.size w w') (o o' : Obj) : ∀ j k, j < w.heap.size → ((w'.alloc o).alloc o').cell? ⟨j, k, none⟩ = w.cell? ⟨j, k, none⟩ :=
  same_of ((h.alloc h.size o).alloc (by have := h.size; simp; omega) o')

theorem field_later {w w' : World} {p : Addr} {v : Value} (h : Below w.heap.size w w') (hf : w.cell? p = some v) : w'.cell? p = some v :=
  (h.cell (World.block_lt_of_cell? w p hf)).trans hf

/-- A slice of strings, as it lies in a world. -/
def StrsAt (w : World) (a : Option Addr) (n : Nat) (cl : Nat → ByteArray) : Prop :=
  n = 0 ∨ ∃ b off, a = some ⟨b, off, none⟩ ∧ ∀ i, i < n → w.cell? ⟨b, off + i, none⟩ = some (.string (cl i))

theorem styleNumbered_lit (bs : Nat) (sa : Option Addr) (ns nc : Nat) (S : Nat → Sty) (x : Int) (s : Sty) (hs : stOf S x = s) (w : World) (hx0 : 0 ≤ x) (hx : x ≤ ns) (hns : ns ≤ 65536)
    (hf : w.cell? ⟨bs, 21, none⟩ = some (.slice sa ns nc)) (hS : StylesAt w sa ns S) :
    Calls Try.prog 30 #[.pointer (some ⟨bs, 0, none⟩), .int .u32 x] w fun e w' =>
      e = .returned (.agg #[.int .u8 s.a0, .int .u8 s.a1, .int .u8 s.a2, .int .u8 s.a3, .int .u8 s.a4, .int .u8 s.a5, .int .u8 s.a6, .int .u8 s.a7, .int .u8 s.a8, .int .u8 s.a9, .bool s.b0, .bool s.b1, .bool s.b2, .bool s.b3]) ∧
      w' = w.alloc (.cells #[.int .u8 s.a0, .int .u8 s.a1, .int .u8 s.a2, .int .u8 s.a3, .int .u8 s.a4, .int .u8 s.a5, .int .u8 s.a6, .int .u8 s.a7, .int .u8 s.a8, .int .u8 s.a9, .bool s.b0, .bool s.b1, .bool s.b2, .bool s.b3] 40) := by
  subst hs
  exact styleNumbered_any bs sa ns nc S x w hx0 hx hns hf hS

/-- The span's cells as the walk lays them. -/
theorem spanCells_lit (S : Nat → Sty) (acc : List UInt8) (x : Int) (s : Sty) (hs : stOf S x = s) :
    spanCells S (acc, x) = [.string ⟨acc.toArray⟩, .int .u8 s.a0, .int .u8 s.a1, .int .u8 s.a2, .int .u8 s.a3, .int .u8 s.a4, .int .u8 s.a5, .int .u8 s.a6, .int .u8 s.a7, .int .u8 s.a8, .int .u8 s.a9, .bool s.b0, .bool s.b1, .bool s.b2, .bool s.b3] := by
  subst hs
  rfl

theorem second_new (w : World) (a b : Obj) : ((w.alloc a).alloc b).heap[w.heap.size + 1]? = some b := by
  show ((w.heap.push a).push b)[w.heap.size + 1]? = _
  rw [Array.getElem?_push, if_pos (by simp)]

theorem below_after {w w1 w4 : World} {a b : Obj} {v : Value} {n : Nat} {xs : List Value} (hb : Below w.heap.size w w1) (ho : w1.ownsRow w.heap.size 43 15 v n xs) (hg : ((w1.alloc a).alloc b).grownBy w4 v.ownBlock) : Below w.heap.size w w4 :=
  Below.grown ((hb.alloc hb.size a).alloc (by have := hb.size; simp; omega) b) hg (by have := hb.size; simp; omega) (fun k hk => (ho.lt k hk).1)

theorem block_after {w1 w4 : World} {B : Nat} {a b : Obj} {v : Value} {n k : Nat} {xs : List Value} {cs : Array Value} (h : w1.heap[k]? = some (.cells cs 74 (0, 0))) (ho : w1.ownsRow B 43 15 v n xs) (hg : ((w1.alloc a).alloc b).grownBy w4 v.ownBlock) : w4.heap[k]? = some (.cells cs 74 (0, 0)) := by
  have hlt : k < w1.heap.size := (Array.getElem?_eq_some_iff.1 h).1
  rw [hg.block k (by simp; omega) ?_, Below.heap_alloc _ _ _ (by simp; omega), Below.heap_alloc _ _ _ hlt]
  · exact h
  · intro e
    rcases ho.2 with ⟨rfl, _⟩ | ⟨g, cap, cur, rfl, _, hh, _⟩
    · simp [Value.ownBlock] at e
    · simp only [Value.ownBlock, Option.some.injEq] at e
      subst e
      rw [hh] at h
      simp at h

theorem owns_span {w : World} {B g cap : Nat} {S : Nat → Sty} {L : List (List UInt8 × Int)} {acc : List UInt8} {y : Int} {xs : List Value} (hx : spanCells S (acc, y) = xs)
    (h : w.ownsRow B 43 15 (.slice (some ⟨g, 0, none⟩) (L.length + 1) cap) (L.length + 1) (spansCells S L ++ xs)) :
    w.ownsRow B 43 15 (.slice (some ⟨g, 0, none⟩) (L.length + 1) cap) (L ++ [(acc, y)]).length (spansCells S (L ++ [(acc, y)])) := by
  rw [spansCells_append, spansCells_one, hx, List.length_append]
  exact h

theorem info43 : (Try.prog.info? 43).map (fun i => (i.zero, i.size, i.bytes)) = some (some (.agg (#[.string ⟨#[]⟩] ++ Sty.zero.arr)), 15, 32) := by kernel_rfl

end Go.Proofs.Qxb6612232a
