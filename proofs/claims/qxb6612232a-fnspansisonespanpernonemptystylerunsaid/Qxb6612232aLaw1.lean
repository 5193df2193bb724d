/-
  A proof of the given statement on FnSpansIsOneSpanPerNonemptyStyleRun: the pieces joined, and the row's frame.
-/
import Derived.Test.Qxb6612232aRows
import Derived.Test.Qxb6612232aOpen
import Derived.Test.Qxb6612232aP1x0
import Derived.Test.Qxb6612232aP1x3
import Derived.Test.Qxb6612232aP1x4
import Derived.Test.Qxb6612232aP1x5
import Derived.Test.Qxb6612232aP1x6
import Derived.Test.Qxb6612232aP1x8
import Derived.Test.Qxb6612232aP1x10
import Derived.Test.Qxb6612232aP1x12
import Derived.Test.Qxb6612232aP1x14
import Derived.Test.Qxb6612232aP1x17
import Derived.Test.Qxb6612232aP1x18
import Derived.Test.Qxb6612232aV1x0
import Derived.Test.Qxb6612232aV1x1
import Derived.Test.Qxb6612232aV1x2
import Derived.Test.Qxb6612232aV1x3
import Derived.Test.Qxb6612232aV1x4
import Derived.OpenShut
import Derived.ShutString
import Derived.ChangeOld
set_option linter.unusedVariables false
namespace Go.Proofs.Qxb6612232a
open Go.RowKit

set_option maxHeartbeats 4000000 in
set_option maxRecDepth 100000 in
theorem law1_walk (w : World) (ca : Option Addr) (n cc : Nat) (cd : Nat → Int) (ya : Option Addr) (ny yc : Nat) (sy : Nat → Int) (sa : Option Addr) (ns nc : Nat) (S : Nat → Sty) (la : Option Addr) (nl lc : Nat) (cl : Nat → ByteArray) (G : Came w ca n cc cd ya ny yc sy sa ns nc S la nl lc cl) :
    Calls Try.prog 3 #[.slice ca n cc, .slice ya ny yc, .slice sa ns nc, .slice la nl lc] w fun e w' => e = .returned (.bool true) ∧ Below w.heap.size w w' := by
  have h0 := (p1_0 (p1_3 (p1_4 (p1_5 (p1_6 (p1_8 (p1_10 (p1_12 (p1_14 (p1_17 (v1_0 (v1_1 (v1_2 (v1_3 v1_4)))) p1_18))))))))))
  unfold S1_0 T1_0 at h0
  go_enter Try.func3, Try.ntmps3
  exact h0 w ca n cc cd ya ny yc sy sa ns nc S la nl lc cl G _ _ _ _ _ _ _ _ _ _ _ _ _ _ _ _ _ _ _ _ _ _ _ _ _ _ _ _ _ _ _ _ _ _ _ _ _ _ _ _ _ _ _ _ _ _ _ _ _ _ _ _ _ _ _ _ _ _ _ _ _ _ _ _ _ _ _ _ _ _ _ _ _ _ _ _ _ _ _ _ _ _ _ _ _ _ _ _ _ _ _ _ _ _ _ _ _ _ _ _ _ _ _ _ _ _ _ _ _ _ _ _ _ _ _ _ _ _ _ _ _ _ _ _ _ _ _ _ _ _ _ _ _ _ _ _ _ _ _ _ _ _ _ _ _ _ _ _ _ _ _ _ _ _ _ _ _ _ _ _ _ _ _ _ _ _ _ _ _ _ _ _ _ _ _ _ _ _ _ _ _ _ _ _ _ _ _ _ _ _ _ _ _ _ _ _ _ _ _ _ _ _ _ _ _ _ _ _ _ _ _ _ _ _ _ _ _ _ _ _ _

open Go.ChangeShapes Go.WideShapes Go.ChangeAt
namespace law1
theorem own : ownKnob Try.prog.godebug = none := by kernel_rfl
theorem laidOut : laidOutB Try.prog = true := by kernel_rfl

set_option maxRecDepth 100000 in
theorem lifted (os : Os) (started : os.Started) (H : Type) (enc : TypeId × Value → H) :
    ReturnsInHanded {} Try.checked os 3 .any (Rows.fnSpansIsOneSpanPerNonemptyStyleRunSpec.pre6 enc Try.prog Try.f3 Rows.fnSpansIsOneSpanPerNonemptyStyleRunRow.domain false) (Rows.fnSpansIsOneSpanPerNonemptyStyleRunSpec.post enc Try.prog Try.f3 false true false false) := by
  refine returnsInHanded_of_change (C := Try.checked) own started (by kernel_rfl) Try.func3
    (ChangeSpec.witness6 (enc := enc) (C := Try.checked) false ⟨#[], #[.slice none 0 0, .slice none 0 0, .slice none 0 0, .slice none 0 0], []⟩ 8 (by kernel_rfl) (by kernel_rfl) (by kernel_rfl) (by kernel_rfl)) ?_
  intro W base args ds gs before hval0 hW hcnd _
  have hval : ∀ (j : Nat) t v, Try.f3.params[j]? = some t → args[j]? = some v → Value.okWide Try.prog W .any base t v := hval0
  have hW' := hW
  obtain ⟨p, q, hA0, hV, rfl, hfz, hnd⟩ := hW
  have hA : DataW.TrodAll enc Try.prog W 0 (fun _ => true) true Try.f3.params.toList args.toList ds p := hA0
  rw [Try.params3] at hA hval
  obtain ⟨v0, vs0, d0, ds0, p0, q0, hargs, rfl, rfl, h0, r0⟩ := trodAll_cons hA
  obtain ⟨v1, vs1, d1, ds1, p1, q1, rfl, rfl, rfl, h1, r1⟩ := trodAll_cons r0
  obtain ⟨v2, vs2, d2, ds2, p2, q2, rfl, rfl, rfl, h2, r2⟩ := trodAll_cons r1
  obtain ⟨v3, vs3, d3, ds3, p3, q3, rfl, rfl, rfl, h3, r3⟩ := trodAll_cons r2
  obtain ⟨rfl, rfl, rfl⟩ := trodAll_nil r3
  obtain rfl : args = #[v0, v1, v2, v3] := by cases args; simp_all
  obtain ⟨rfl, rfl⟩ := trodVars_none hV
  obtain ⟨a0, len0, cap0, rfl⟩ := okWide_slice Try.underlying22 (hval 0 22 v0 rfl rfl)
  obtain ⟨a1, len1, cap1, rfl⟩ := okWide_slice Try.underlying23 (hval 1 23 v1 rfl rfl)
  obtain ⟨a2, len2, cap2, rfl⟩ := okWide_slice Try.underlying24 (hval 2 24 v2 rfl rfl)
  obtain ⟨a3, len3, cap3, rfl⟩ := okWide_slice Try.underlying25 (hval 3 25 v3 rfl rfl)
  have k0 := h0
  have lt0 : ∀ x ∈ p0, x.block < W.heap.size := by obtain ⟨m, hm⟩ := k0; exact DataW.trod_lt m _ _ _ hm
  have k1 := h1
  have lt1 : ∀ x ∈ p1, x.block < W.heap.size := by obtain ⟨m, hm⟩ := k1; exact DataW.trod_lt m _ _ _ hm
  have k2 := h2
  have lt2 : ∀ x ∈ p2, x.block < W.heap.size := by obtain ⟨m, hm⟩ := k2; exact DataW.trod_lt m _ _ _ hm
  have k3 := h3
  have lt3 : ∀ x ∈ p3, x.block < W.heap.size := by obtain ⟨m, hm⟩ := k3; exact DataW.trod_lt m _ _ _ hm
  obtain ⟨cd, mC, zC, hC, wC⟩ : ∃ f : Nat → Int, len0 ≤ maxLen ∧ (a0 = none → len0 = 0 ∧ cap0 = 0) ∧ IntsAt .i32 W a0 len0 f ∧ ∀ i, i < len0 → (Lit.int .i32 (f i)).wf = true := by obtain ⟨m, hm⟩ := h0; exact open_ints_at Try.underlying22 Try.underlying21 cells21 (by simpa [Value.cells] using hm)
  obtain ⟨sy, mY, zY, hY, wY⟩ : ∃ f : Nat → Int, len1 ≤ maxLen ∧ (a1 = none → len1 = 0 ∧ cap1 = 0) ∧ IntsAt .u32 W a1 len1 f ∧ ∀ i, i < len1 → (Lit.int .u32 (f i)).wf = true := by obtain ⟨m, hm⟩ := h1; exact open_ints_at Try.underlying23 Try.underlying28 cells28 (by simpa [Value.cells] using hm)
  obtain ⟨S, mS, zS, hS⟩ : ∃ S : Nat → Sty, len2 ≤ maxLen ∧ (a2 = none → len2 = 0 ∧ cap2 = 0) ∧ StylesAt W a2 len2 S := by obtain ⟨m, hm⟩ := h2; exact open_styles (by simpa [Value.cells] using hm)
  obtain ⟨cl, mL, zL, hL⟩ : ∃ f : Nat → ByteArray, len3 ≤ maxLen ∧ (a3 = none → len3 = 0 ∧ cap3 = 0) ∧ StrsAt W a3 len3 f := by obtain ⟨m, hm⟩ := h3; exact open_strs_at (by simpa [Value.cells] using hm)
  have G : Came W a0 len0 cap0 cd a1 len1 cap1 sy a2 len2 cap2 S a3 len3 cap3 cl :=
    ⟨mC, mY, mS, mL, zC, zY, zS, zL, hC, hY, hS, hL, fun i hi => wf_i32 (wC i hi), fun i hi => wf_u32 (wY i hi)⟩
  clear hA0 hval0
  refine (law1_walk W a0 len0 cap0 cd a1 len1 cap1 sy a2 len2 cap2 S a3 len3 cap3 cl G).mono fun e W' ⟨he, bel⟩ => ?_
  subst he
  exact ⟨_, rfl, _, _, _, [], _, [], hW', trodAll_mk1 (shut_bool Try.underlying4 _), (trodAll_cons_mk (Below.trod laidOut (by kernel_rfl) (of_decide_eq_true (by kernel_rfl)) k0 bel lt0) (trodAll_cons_mk (Below.trod laidOut (by kernel_rfl) (of_decide_eq_true (by kernel_rfl)) k1 bel lt1) (trodAll_cons_mk (Below.trod laidOut (by kernel_rfl) (of_decide_eq_true (by kernel_rfl)) k2 bel lt2) (trodAll_cons_mk (Below.trod laidOut (by kernel_rfl) (of_decide_eq_true (by kernel_rfl)) k3 bel lt3) trodAll_mk0)))), rfl, bel.frame _, fun h => by cases h⟩

theorem over : Rows.fnSpansIsOneSpanPerNonemptyStyleRunRow.holds Try.pinned (OpenSpec.ofChange Rows.fnSpansIsOneSpanPerNonemptyStyleRunSpec) :=
  OpenClaim.holds_of_wide 3 Try.f3 rfl rfl rfl rfl rfl rfl rfl ⟨rfl, rfl, rfl, rfl, rfl⟩ rfl rfl rfl rfl rfl (by kernel_rfl) Try.func3 (by kernel_rfl)
    (of_decide_eq_true (by kernel_rfl)) (by unfold Func.isWrapper; first | (rw [if_pos (by decide +kernel)]; kernel_rfl) | (rw [if_neg (by decide +kernel)]; exact ⟨rfl, rfl⟩))
    (fun os started H enc _ => lifted os started H enc)
end law1

theorem fnSpansIsOneSpanPerNonemptyStyleRunProved : Rows.FnSpansIsOneSpanPerNonemptyStyleRunSaid := law1.over

end Go.Proofs.Qxb6612232a
