/-
  Contracts of zzStyleOf and zzSameSpans at this dump.
-/
import Derived.Test.Qxb6612232aEq
import Derived.Test.Qxb6612232aSpans
import Derived.Deep.QuietTactic
import Derived.BigQuiet
set_option linter.unusedVariables false
namespace Go.Proofs.Qxb6612232a
open Go.RowKit
attribute [local go_sem ↓] Go.wp_at_zero Go.wp_at_succ

theorem styleOf_zero (ta : Option Addr) (ns tc : Nat) (w : World) :
    Calls Try.prog 11 #[.slice ta ns tc, .int .u32 0] w fun e w' => e = .returned (.agg Sty.zero.arr) ∧ w' = w.alloc (.cells Sty.zero.arr 40) := by
  go_enter Try.func11, Try.ntmps11
  go_wp2
  exact bodyPost_ret (v := .agg Sty.zero.arr) (by simp [results, Try.results11, go_sem, Sty.zero]) rfl ⟨rfl, rfl⟩

set_option maxHeartbeats 1000000 in
theorem styleOf_some (gb goff ns tc : Nat) (n : Nat) (s : Sty) (w : World) (hn : n < ns) (hns : ns ≤ 65536) (hs : w.rangeAt gb (goff + n * 14) s.cells) :
    Calls Try.prog 11 #[.slice (some ⟨gb, goff, none⟩) ns tc, .int .u32 ((n : Int) + 1)] w fun e w' => e = .returned (.agg s.arr) ∧ w' = w.alloc (.cells s.arr 40) := by
  have h0 : ((n : Int) + 1 == 0) = false := by simp; omega
  have hl : (n : Int) < (ns : Int) := by omega
  obtain ⟨k0, k1, k2, k3, k4, k5, k6, k7, k8, k9, k10, k11, k12, k13⟩ := range14 hs
  have j0 := fun o => cell_later1 k0 o
  have j1 := fun o => cell_later1 k1 o
  have j2 := fun o => cell_later1 k2 o
  have j3 := fun o => cell_later1 k3 o
  have j4 := fun o => cell_later1 k4 o
  have j5 := fun o => cell_later1 k5 o
  have j6 := fun o => cell_later1 k6 o
  have j7 := fun o => cell_later1 k7 o
  have j8 := fun o => cell_later1 k8 o
  have j9 := fun o => cell_later1 k9 o
  have j10 := fun o => cell_later1 k10 o
  have j11 := fun o => cell_later1 k11 o
  have j12 := fun o => cell_later1 k12 o
  have j13 := fun o => cell_later1 k13 o
  clear hs k0 k1 k2 k3 k4 k5 k6 k7 k8 k9 k10 k11 k12 k13
  go_enter Try.func11, Try.ntmps11
  go_wp2
  exact bodyPost_ret (v := .agg s.arr) (by simp [results, Try.results11, go_sem]) rfl ⟨rfl, rfl⟩

theorem styleOf_lit (ta : Option Addr) (ns tc : Nat) (S : Nat → Sty) (x : Int) (s : Sty) (hs : stOf S x = s) (w : World) (hx0 : 0 ≤ x) (hx : x ≤ ns) (hns : ns ≤ 65536) (hS : StylesAt w ta ns S) :
    Calls Try.prog 11 #[.slice ta ns tc, .int .u32 x] w fun e w' =>
      e = .returned (.agg #[.int .u8 s.a0, .int .u8 s.a1, .int .u8 s.a2, .int .u8 s.a3, .int .u8 s.a4, .int .u8 s.a5, .int .u8 s.a6, .int .u8 s.a7, .int .u8 s.a8, .int .u8 s.a9, .bool s.b0, .bool s.b1, .bool s.b2, .bool s.b3]) ∧
      w' = w.alloc (.cells #[.int .u8 s.a0, .int .u8 s.a1, .int .u8 s.a2, .int .u8 s.a3, .int .u8 s.a4, .int .u8 s.a5, .int .u8 s.a6, .int .u8 s.a7, .int .u8 s.a8, .int .u8 s.a9, .bool s.b0, .bool s.b1, .bool s.b2, .bool s.b3] 40) := by
  subst hs
  by_cases h0 : x = 0
  · subst h0
    exact styleOf_zero ta ns tc w
  · obtain ⟨n, rfl⟩ : ∃ n : Nat, x = (n : Int) + 1 := ⟨(x - 1).toNat, by omega⟩
    rcases hS with hS | ⟨gb, goff, rfl, hS⟩
    · omega
    · have e : stOf S ((n : Int) + 1) = S n := by
        unfold stOf
        rw [if_neg h0]
        congr 1
        omega
      rw [e]
      exact styleOf_some gb goff ns tc n (S n) w (by omega) hns (hS n (by omega))

set_option maxHeartbeats 4000000 in
set_option maxRecDepth 100000 in
theorem sameSpans_any (B : Nat) (S : Nat → Sty) (L : List (List UInt8 × Int)) (a a' : Option Addr) (c c' : Nat) (w : World) (hl : L.length ≤ 65537)
    (R1 : w.ownsRow B 43 15 (.slice a L.length c) L.length (spansCells S L)) (R2 : w.ownsRow B 43 15 (.slice a' L.length c') L.length (spansCells S L)) :
    Calls Try.prog 12 #[.slice a L.length c, .slice a' L.length c'] w fun e w' => e = .returned (.bool true) ∧ ∃ m, w' = w.drewN m := by
  have HR1 := hide R1
  have HR2 := hide R2
  clear R1 R2
  go_enter Try.func12, Try.ntmps12
  go_wp2
  go_loopw [5] (fun i wr => ∃ j m : Nat, j ≤ L.length ∧ i = .int .i64 j ∧ wr = w.drewN m) (fun i _ => L.length - (intOf i).toNat)
  case atStart => exact ⟨0, 0, Nat.zero_le _, rfl, rfl⟩
  case round =>
    obtain ⟨j, m, hj, rfl, rfl⟩ := hrel
    by_cases hlt : j < L.length
    · obtain ⟨g4, d4, e4, hg4, hr4⟩ := span_at HR1.out hlt
      obtain ⟨g5, d5, e5, hg5, hr5⟩ := span_at HR2.out hlt
      cases e4
      cases e5
      obtain ⟨t, x, ht⟩ : ∃ t x, L[j] = (t, x) := ⟨_, _, rfl⟩
      rw [ht] at hr4 hr5
      obtain ⟨s, Hs⟩ : ∃ s, Hid (stOf S x = s) := ⟨_, rfl⟩
      obtain ⟨str, Hstr⟩ : ∃ str : ByteArray, Hid ((⟨t.toArray⟩ : ByteArray) = str) := ⟨_, rfl⟩
      have r4 := range15 Hs.out hr4
      have r5 := range15 Hs.out hr5
      rw [Hstr.out] at r4 r5
      obtain ⟨x0, x1, x2, x3, x4, x5, x6, x7, x8, x9, x10, x11, x12, x13, x14⟩ := r4
      obtain ⟨y0, y1, y2, y3, y4, y5, y6, y7, y8, y9, y10, y11, y12, y13, y14⟩ := r5
      have hneq := fun w => neq40 s w
      have hlt' : (j : Int) < (L.length : Int) := by omega
      have hj0 : (0 : Int) ≤ (j : Int) := Int.natCast_nonneg _
      have hwj : IntKind.i64.wrap (j : Int) = (j : Int) := by rw [IntKind.wrap_i64]; omega
      clear hr4 hr5 ht
      go_wp2
      go_quiet (fail)
      go_wp2
      go_roundw
      case rel => exact ⟨j + 1, _, by omega, by go_num, rfl⟩
      case measure => simp [intOf]; omega
    · go_wp2
      go_ret
      exact ⟨rfl, m, rfl⟩

end Go.Proofs.Qxb6612232a
