/-
  Contracts of zzToColor, zzToStyles and styleNumbered at this dump.
-/
import Derived.Test.Qxb6612232aPlain
import Derived.Test.Qxb6612232aProg
import Derived.WalkKit
import Derived.ProofKit
import Derived.BigCall
import Derived.Deep.RegionHeld3
import Derived.Deep.DrawnRows
set_option linter.unusedVariables false
namespace Go.Proofs.Qxb6612232a
open Go.RowKit
attribute [local go_sem ↓] Go.wp_at_zero Go.wp_at_succ

theorem toColor_any (k i r g b : Int) (w : World) :
    Calls Try.prog 23 #[.agg #[.int .u8 k, .int .u8 i, .int .u8 r, .int .u8 g, .int .u8 b]] w fun e w' => e = .returned (.agg #[.int .u8 k, .int .u8 i, .int .u8 r, .int .u8 g, .int .u8 b]) ∧ Below w.heap.size w w' := by
  go_enter Try.func23, Try.ntmps23
  go_wp2
  exact bodyPost_ret (v := .agg #[.int .u8 k, .int .u8 i, .int .u8 r, .int .u8 g, .int .u8 b]) (by simp [results, Try.results23, go_sem]) rfl ⟨rfl, ((Below.refl _ _).alloc (Nat.le_refl _) _).alloc (by simp) _⟩

set_option maxHeartbeats 1000000 in
theorem styleNumbered_zero (bs : Nat) (w : World) :
    Calls Try.prog 30 #[.pointer (some ⟨bs, 0, none⟩), .int .u32 0] w fun e w' => e = .returned (.agg Sty.zero.arr) ∧ w' = w.alloc (.cells Sty.zero.arr 40) := by
  go_enter Try.func30, Try.ntmps30
  go_wp2
  exact bodyPost_ret (v := .agg Sty.zero.arr) (by simp [results, Try.results30, go_sem, Sty.zero]) rfl ⟨rfl, rfl⟩

theorem cell_later1 {w : World} {p : Addr} {v : Value} (h : w.cell? p = some v) (o : Obj) : (w.alloc o).cell? p = some v := by
  have hlt : p.block < w.heap.size := World.block_lt_of_cell? w p h
  rw [World.cell?_of_block (w := w) (w' := w.alloc o) (a := p) (Below.heap_alloc w o p.block hlt)]
  exact h

/-- The fourteen cells of a style, one by one. -/
theorem range14 {w : World} {b o : Nat} {s : Sty} (h : w.rangeAt b o s.cells) :
    w.cell? ⟨b, o, none⟩ = some (.int .u8 s.a0) ∧ w.cell? ⟨b, o + 1, none⟩ = some (.int .u8 s.a1) ∧ w.cell? ⟨b, o + 2, none⟩ = some (.int .u8 s.a2) ∧ w.cell? ⟨b, o + 3, none⟩ = some (.int .u8 s.a3) ∧ w.cell? ⟨b, o + 4, none⟩ = some (.int .u8 s.a4) ∧
    w.cell? ⟨b, o + 5, none⟩ = some (.int .u8 s.a5) ∧ w.cell? ⟨b, o + 6, none⟩ = some (.int .u8 s.a6) ∧ w.cell? ⟨b, o + 7, none⟩ = some (.int .u8 s.a7) ∧ w.cell? ⟨b, o + 8, none⟩ = some (.int .u8 s.a8) ∧ w.cell? ⟨b, o + 9, none⟩ = some (.int .u8 s.a9) ∧
    w.cell? ⟨b, o + 10, none⟩ = some (.bool s.b0) ∧ w.cell? ⟨b, o + 11, none⟩ = some (.bool s.b1) ∧ w.cell? ⟨b, o + 12, none⟩ = some (.bool s.b2) ∧ w.cell? ⟨b, o + 13, none⟩ = some (.bool s.b3) :=
  ⟨h 0 _ rfl, h 1 _ rfl, h 2 _ rfl, h 3 _ rfl, h 4 _ rfl, h 5 _ rfl, h 6 _ rfl, h 7 _ rfl, h 8 _ rfl, h 9 _ rfl, h 10 _ rfl, h 11 _ rfl, h 12 _ rfl, h 13 _ rfl⟩

set_option maxHeartbeats 1000000 in
theorem styleNumbered_some (bs gb goff ns nc : Nat) (n : Nat) (s : Sty) (w : World) (hn : n < ns) (hns : ns ≤ 65536)
    (hf : w.cell? ⟨bs, 21, none⟩ = some (.slice (some ⟨gb, goff, none⟩) ns nc)) (hs : w.rangeAt gb (goff + n * 14) s.cells) :
    Calls Try.prog 30 #[.pointer (some ⟨bs, 0, none⟩), .int .u32 ((n : Int) + 1)] w fun e w' => e = .returned (.agg s.arr) ∧ w' = w.alloc (.cells s.arr 40) := by
  have h0 : ((n : Int) + 1 == 0) = false := by simp; omega
  have hl : (n : Int) < (ns : Int) := by omega
  have hf' := fun o => cell_later1 hf o
  obtain ⟨k0, k1, k2, k3, k4, k5, k6, k7, k8, k9, k10, k11, k12, k13⟩ := range14 hs
  have j0 := fun o => cell_later1 k0 o
  have j1 := fun o => cell_later1 k1 o
  have j2 := fun o => cell_later1 k2 o
  have j3 := fun o => cell_later1 k3 o
  have j4 := fun o => cell_later1 k4 o
  have j5 := fun o => cell_later1 k5 o
  have j6 := fun o => cell_later1 k6 o
  have j7 := fun o => cell_later1 k7 o
  have j8 := fun o => cell_later1 k8 o
  have j9 := fun o => cell_later1 k9 o
  have j10 := fun o => cell_later1 k10 o
  have j11 := fun o => cell_later1 k11 o
  have j12 := fun o => cell_later1 k12 o
  have j13 := fun o => cell_later1 k13 o
  clear hf hs k0 k1 k2 k3 k4 k5 k6 k7 k8 k9 k10 k11 k12 k13
  go_enter Try.func30, Try.ntmps30
  go_wp2
  exact bodyPost_ret (v := .agg s.arr) (by simp [results, Try.results30, go_sem]) rfl ⟨rfl, rfl⟩

/-- A slice of styles, as it lies in a world. -/
def StylesAt (w : World) (a : Option Addr) (ns : Nat) (S : Nat → Sty) : Prop :=
  ns = 0 ∨ ∃ gb goff, a = some ⟨gb, goff, none⟩ ∧ ∀ n, n < ns → w.rangeAt gb (goff + n * 14) (S n).cells

theorem rangeAt_below {w w' : World} {B b o : Nat} {cs : List Value} (h : w.rangeAt b o cs) (hb : Below B w w') (hlt : b < B) : w'.rangeAt b o cs :=
  fun j v hv => (hb.cell (p := ⟨b, o + j, none⟩) hlt).trans (h j v hv)

theorem StylesAt.later {w w' : World} {a : Option Addr} {ns : Nat} {S : Nat → Sty} (h : StylesAt w a ns S) (hb : Below w.heap.size w w') : StylesAt w' a ns S := by
  rcases h with h | ⟨gb, goff, ha, hS⟩
  · exact .inl h
  · by_cases h0 : ns = 0
    · exact .inl h0
    · refine .inr ⟨gb, goff, ha, fun n hn => rangeAt_below (hS n hn) hb ?_⟩
      exact World.block_lt_of_cell? w _ (hS n hn 0 _ rfl)

theorem styleNumbered_any (bs : Nat) (sa : Option Addr) (ns nc : Nat) (S : Nat → Sty) (x : Int) (w : World) (hx0 : 0 ≤ x) (hx : x ≤ ns) (hns : ns ≤ 65536)
    (hf : w.cell? ⟨bs, 21, none⟩ = some (.slice sa ns nc)) (hS : StylesAt w sa ns S) :
    Calls Try.prog 30 #[.pointer (some ⟨bs, 0, none⟩), .int .u32 x] w fun e w' => e = .returned (.agg (stOf S x).arr) ∧ w' = w.alloc (.cells (stOf S x).arr 40) := by
  by_cases h0 : x = 0
  · subst h0
    exact styleNumbered_zero bs w
  · obtain ⟨n, rfl⟩ : ∃ n : Nat, x = (n : Int) + 1 := ⟨(x - 1).toNat, by omega⟩
    rcases hS with hS | ⟨gb, goff, rfl, hS⟩
    · omega
    · have e : stOf S ((n : Int) + 1) = S n := by
        unfold stOf
        rw [if_neg h0]
        congr 1
        omega
      rw [e]
      exact styleNumbered_some bs gb goff ns nc n (S n) w (by omega) hns hf (hS n (by omega))

end Go.Proofs.Qxb6612232a
