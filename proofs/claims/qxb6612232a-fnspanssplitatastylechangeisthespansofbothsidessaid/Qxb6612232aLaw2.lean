/-
  A proof of the given statement on FnSpansSplitAtAStyleChangeIsTheSpansOfBothSides: the pieces joined, and the row's frame.
-/
import Derived.Test.Qxb6612232aRows
import Derived.Test.Qxb6612232aOpen
import Derived.Test.Qxb6612232aP2x0
import Derived.Test.Qxb6612232aP2x3
import Derived.Test.Qxb6612232aP2x4
import Derived.Test.Qxb6612232aP2x5
import Derived.Test.Qxb6612232aP2x6
import Derived.Test.Qxb6612232aP2x8
import Derived.Test.Qxb6612232aP2x10
import Derived.Test.Qxb6612232aP2x12
import Derived.Test.Qxb6612232aP2x14
import Derived.Test.Qxb6612232aP2x16
import Derived.Test.Qxb6612232aP2x17
import Derived.Test.Qxb6612232aP2x18
import Derived.Test.Qxb6612232aP2x19
import Derived.Test.Qxb6612232aP2x20
import Derived.Test.Qxb6612232aP2x21
import Derived.Test.Qxb6612232aP2x23
import Derived.Test.Qxb6612232aP2x25
import Derived.OpenShut
import Derived.ShutString
import Derived.ChangeOld
set_option linter.unusedVariables false
namespace Go.Proofs.Qxb6612232a
open Go.RowKit

set_option maxHeartbeats 4000000 in
set_option maxRecDepth 100000 in
theorem law2_walk (w : World) (ca : Option Addr) (n cc : Nat) (cd : Nat → Int) (ya : Option Addr) (ny yc : Nat) (sy : Nat → Int) (sa : Option Addr) (ns nc : Nat) (S : Nat → Sty) (la : Option Addr) (nl lc : Nat) (cl : Nat → ByteArray) (kk : Int) (hkk : -9223372036854775808 ≤ kk ∧ kk ≤ 9223372036854775807) (G : Came w ca n cc cd ya ny yc sy sa ns nc S la nl lc cl) :
    Calls Try.prog 4 #[.slice ca n cc, .slice ya ny yc, .slice sa ns nc, .slice la nl lc, .int .i64 kk] w fun e w' => e = .returned (.bool true) ∧ Below w.heap.size w w' := by
  have h0 := (p2_0 (p2_3 (p2_4 (p2_5 (p2_6 (p2_8 (p2_10 (p2_12 (p2_14 (p2_16 (p2_17 (p2_18 (p2_19 (p2_20 (p2_21 (p2_23 p2_25))))))))))))))))
  unfold S2_0 T2_0 at h0
  go_enter Try.func4, Try.ntmps4
  exact h0 w ca n cc cd ya ny yc sy sa ns nc S la nl lc cl kk G hkk _ _ _ _ _ _ _ _ _ _ _ _ _ _ _ _ _ _ _ _ _ _ _ _ _ _ _ _ _ _ _ _ _ _ _ _ _ _ _ _ _ _ _ _ _ _ _ _ _ _ _ _ _ _ _ _ _ _ _ _ _ _ _ _ _ _ _ _ _ _ _ _ _ _ _ _ _ _ _ _ _ _ _ _ _ _ _ _ _ _ _ _ _ _ _ _ _ _ _ _ _ _ _ _ _ _ _ _ _ _ _ _ _ _ _ _ _ _ _ _ _ _ _ _ _ _ _ _ _ _ _ _ _ _ _ _ _ _ _ _ _ _ _ _ _ _ _ _ _ _ _ _ _ _ _ _ _ _ _ _ _ _ _ _ _ _ _ _ _ _ _ _ _ _ _ _ _ _ _ _ _ _ _ _ _ _ _ _ _ _ _ _ _ _ _ _ _ _ _ _ _ _ _ _ _ _ _ _ _ _ _ _ _ _ _ _ _ _ _ _ _ _ _ _ _ _ _ _ _ _ _ _ _ _ _ _ _ _ _ _ _ _ _ _ _ _ _ _ _ _ _ _ _ _ _ _ _ _ _ _ _ _ _ _ _ _ _ _ _ _ _ _ _ _ _ _ _ _ _ _ _ _ _

open Go.ChangeShapes Go.WideShapes Go.ChangeAt
namespace law2
theorem own : ownKnob Try.prog.godebug = none := by kernel_rfl
theorem laidOut : laidOutB Try.prog = true := by kernel_rfl

set_option maxRecDepth 100000 in
theorem lifted (os : Os) (started : os.Started) (H : Type) (enc : TypeId × Value → H) :
    ReturnsInHanded {} Try.checked os 4 .any (Rows.fnSpansSplitAtAStyleChangeIsTheSpansOfBothSidesSpec.pre6 enc Try.prog Try.f4 Rows.fnSpansSplitAtAStyleChangeIsTheSpansOfBothSidesRow.domain false) (Rows.fnSpansSplitAtAStyleChangeIsTheSpansOfBothSidesSpec.post enc Try.prog Try.f4 false true false false) := by
  refine returnsInHanded_of_change (C := Try.checked) own started (by kernel_rfl) Try.func4
    (ChangeSpec.witness6 (enc := enc) (C := Try.checked) false ⟨#[], #[.slice none 0 0, .slice none 0 0, .slice none 0 0, .slice none 0 0, .int .i64 0], []⟩ 8 (by kernel_rfl) (by kernel_rfl) (by kernel_rfl) (by kernel_rfl)) ?_
  intro W base args ds gs before hval0 hW hcnd _
  have hval : ∀ (j : Nat) t v, Try.f4.params[j]? = some t → args[j]? = some v → Value.okWide Try.prog W .any base t v := hval0
  have hW' := hW
  obtain ⟨p, q, hA0, hV, rfl, hfz, hnd⟩ := hW
  have hA : DataW.TrodAll enc Try.prog W 0 (fun _ => true) true Try.f4.params.toList args.toList ds p := hA0
  rw [Try.params4] at hA hval
  obtain ⟨v0, vs0, d0, ds0, p0, q0, hargs, rfl, rfl, h0, r0⟩ := trodAll_cons hA
  obtain ⟨v1, vs1, d1, ds1, p1, q1, rfl, rfl, rfl, h1, r1⟩ := trodAll_cons r0
  obtain ⟨v2, vs2, d2, ds2, p2, q2, rfl, rfl, rfl, h2, r2⟩ := trodAll_cons r1
  obtain ⟨v3, vs3, d3, ds3, p3, q3, rfl, rfl, rfl, h3, r3⟩ := trodAll_cons r2
  obtain ⟨v4, vs4, d4, ds4, p4, q4, rfl, rfl, rfl, h4, r4⟩ := trodAll_cons r3
  obtain ⟨rfl, rfl, rfl⟩ := trodAll_nil r4
  obtain rfl : args = #[v0, v1, v2, v3, v4] := by cases args; simp_all
  obtain ⟨rfl, rfl⟩ := trodVars_none hV
  obtain ⟨a0, len0, cap0, rfl⟩ := okWide_slice Try.underlying22 (hval 0 22 v0 rfl rfl)
  obtain ⟨a1, len1, cap1, rfl⟩ := okWide_slice Try.underlying23 (hval 1 23 v1 rfl rfl)
  obtain ⟨a2, len2, cap2, rfl⟩ := okWide_slice Try.underlying24 (hval 2 24 v2 rfl rfl)
  obtain ⟨a3, len3, cap3, rfl⟩ := okWide_slice Try.underlying25 (hval 3 25 v3 rfl rfl)
  have k0 := h0
  have lt0 : ∀ x ∈ p0, x.block < W.heap.size := by obtain ⟨m, hm⟩ := k0; exact DataW.trod_lt m _ _ _ hm
  have k1 := h1
  have lt1 : ∀ x ∈ p1, x.block < W.heap.size := by obtain ⟨m, hm⟩ := k1; exact DataW.trod_lt m _ _ _ hm
  have k2 := h2
  have lt2 : ∀ x ∈ p2, x.block < W.heap.size := by obtain ⟨m, hm⟩ := k2; exact DataW.trod_lt m _ _ _ hm
  have k3 := h3
  have lt3 : ∀ x ∈ p3, x.block < W.heap.size := by obtain ⟨m, hm⟩ := k3; exact DataW.trod_lt m _ _ _ hm
  have k4 := h4
  have lt4 : ∀ x ∈ p4, x.block < W.heap.size := by obtain ⟨m, hm⟩ := k4; exact DataW.trod_lt m _ _ _ hm
  obtain ⟨kk, rfl, hkk⟩ : ∃ kk : Int, v4 = .int .i64 kk ∧ (-9223372036854775808 ≤ kk ∧ kk ≤ 9223372036854775807) := by
    obtain ⟨kk, rfl, _, _, hk⟩ := open_int Try.underlying3 (hval 4 3 v4 rfl rfl) h4
    exact ⟨kk, rfl, wf_i64 hk⟩
  obtain ⟨cd, mC, zC, hC, wC⟩ : ∃ f : Nat → Int, len0 ≤ maxLen ∧ (a0 = none → len0 = 0 ∧ cap0 = 0) ∧ IntsAt .i32 W a0 len0 f ∧ ∀ i, i < len0 → (Lit.int .i32 (f i)).wf = true := by obtain ⟨m, hm⟩ := h0; exact open_ints_at Try.underlying22 Try.underlying21 cells21 (by simpa [Value.cells] using hm)
  obtain ⟨sy, mY, zY, hY, wY⟩ : ∃ f : Nat → Int, len1 ≤ maxLen ∧ (a1 = none → len1 = 0 ∧ cap1 = 0) ∧ IntsAt .u32 W a1 len1 f ∧ ∀ i, i < len1 → (Lit.int .u32 (f i)).wf = true := by obtain ⟨m, hm⟩ := h1; exact open_ints_at Try.underlying23 Try.underlying28 cells28 (by simpa [Value.cells] using hm)
  obtain ⟨S, mS, zS, hS⟩ : ∃ S : Nat → Sty, len2 ≤ maxLen ∧ (a2 = none → len2 = 0 ∧ cap2 = 0) ∧ StylesAt W a2 len2 S := by obtain ⟨m, hm⟩ := h2; exact open_styles (by simpa [Value.cells] using hm)
  obtain ⟨cl, mL, zL, hL⟩ : ∃ f : Nat → ByteArray, len3 ≤ maxLen ∧ (a3 = none → len3 = 0 ∧ cap3 = 0) ∧ StrsAt W a3 len3 f := by obtain ⟨m, hm⟩ := h3; exact open_strs_at (by simpa [Value.cells] using hm)
  have G : Came W a0 len0 cap0 cd a1 len1 cap1 sy a2 len2 cap2 S a3 len3 cap3 cl :=
    ⟨mC, mY, mS, mL, zC, zY, zS, zL, hC, hY, hS, hL, fun i hi => wf_i32 (wC i hi), fun i hi => wf_u32 (wY i hi)⟩
  clear hA0 hval0
  refine (law2_walk W a0 len0 cap0 cd a1 len1 cap1 sy a2 len2 cap2 S a3 len3 cap3 cl kk hkk G).mono fun e W' ⟨he, bel⟩ => ?_
  subst he
  exact ⟨_, rfl, _, _, _, [], _, [], hW', trodAll_mk1 (shut_bool Try.underlying4 _), (trodAll_cons_mk (Below.trod laidOut (by kernel_rfl) (of_decide_eq_true (by kernel_rfl)) k0 bel lt0) (trodAll_cons_mk (Below.trod laidOut (by kernel_rfl) (of_decide_eq_true (by kernel_rfl)) k1 bel lt1) (trodAll_cons_mk (Below.trod laidOut (by kernel_rfl) (of_decide_eq_true (by kernel_rfl)) k2 bel lt2) (trodAll_cons_mk (Below.trod laidOut (by kernel_rfl) (of_decide_eq_true (by kernel_rfl)) k3 bel lt3) (trodAll_cons_mk (Below.trod laidOut (by kernel_rfl) (of_decide_eq_true (by kernel_rfl)) k4 bel lt4) trodAll_mk0))))), rfl, bel.frame _, fun h => by cases h⟩

theorem over : Rows.fnSpansSplitAtAStyleChangeIsTheSpansOfBothSidesRow.holds Try.pinned (OpenSpec.ofChange Rows.fnSpansSplitAtAStyleChangeIsTheSpansOfBothSidesSpec) :=
  OpenClaim.holds_of_wide 4 Try.f4 rfl rfl rfl rfl rfl rfl rfl ⟨rfl, rfl, rfl, rfl, rfl⟩ rfl rfl rfl rfl rfl (by kernel_rfl) Try.func4 (by kernel_rfl)
    (of_decide_eq_true (by kernel_rfl)) (by unfold Func.isWrapper; first | (rw [if_pos (by decide +kernel)]; kernel_rfl) | (rw [if_neg (by decide +kernel)]; exact ⟨rfl, rfl⟩))
    (fun os started H enc _ => lifted os started H enc)
end law2

theorem fnSpansSplitAtAStyleChangeIsTheSpansOfBothSidesProved : Rows.FnSpansSplitAtAStyleChangeIsTheSpansOfBothSidesSaid := law2.over

end Go.Proofs.Qxb6612232a
