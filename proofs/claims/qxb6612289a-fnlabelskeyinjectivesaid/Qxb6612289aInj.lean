/-
  A proof of the given statement on FnLabelsKeyInjective: the walk and the row's frame.
-/
import Derived.Test.Qxb6612289aRows
import Derived.Test.Qxb6612289aOpen
import Derived.Test.Qxb6612289aGuards
import Derived.Test.Qxb6612289aModel
import Derived.OpenShut
import Derived.ShutString
import Derived.ChangeOld
set_option linter.unusedVariables false
namespace Go.Proofs.Qxb6612289a
open Go.RowKit

theorem str_eq (l m : List UInt8) : ((⟨l.toArray⟩ : ByteArray).toList == (⟨m.toArray⟩ : ByteArray).toList) = (l == m) := by
  rw [ByteArray.toList_eq, ByteArray.toList_eq]

set_option maxHeartbeats 4000000 in
set_option maxRecDepth 100000 in
theorem inj_walk (a : Option Addr) (n c : Nat) (nm vl : Nat → ByteArray) (a' : Option Addr) (n' c' : Nat) (nm' vl' : Nat → ByteArray) (w : World) (G : Came w a n c nm vl) (G' : Came w a' n' c' nm' vl') :
    Calls Try.prog 4 #[.slice a n c, .slice a' n' c'] w fun e w' => e = .returned (.bool true) ∧ Below w.heap.size w w' := by
  have HB := hide (bytes2_any a n c nm vl a' n' c' nm' vl' w G.hm G'.hm G.hL G'.hL)
  have hG := hide G
  have hG' := hide G'
  clear G G'
  go_enter Try.func4, Try.ntmps4
  go_wp2_with fail
  refine (unhide HB).mono ?_
  rintro e w' ⟨⟨r, rfl, hr⟩, hw⟩
  have hw' := hw.symm
  subst hw'
  clear hw
  cases r
  · go_wp2
    go_ret
    exact ⟨rfl, Below.refl _ _⟩
  have HS := hide (hr rfl)
  clear hr
  have H1 := hide (size_any a n c nm vl w hG.out.hm hG.out.hL HS.out.1)
  go_wp2_with fail
  refine (unhide H1).mono ?_
  rintro e w1 ⟨⟨Z1, r1, rfl, hZ1, hZ2, hr1⟩, hb1⟩
  have H2 := hide (size_any a' n' c' nm' vl' w1 hG'.out.hm (hG'.out.hL.later hb1) HS.out.2)
  have hb1s := hb1.size
  go_wp2_with fail
  refine (unhide H2).mono ?_
  rintro e w2 ⟨⟨Z3, r3, rfl, hZ3, hZ4, hr3⟩, hb2⟩
  have hb2' := hb1.trans (hb2.mono hb1s)
  clear hb2
  cases r1
  · go_wp2
    go_ret
    exact ⟨rfl, hb2'⟩
  cases r3
  · go_wp2
    go_ret
    exact ⟨rfl, hb2'⟩
  by_cases hbig : Z1 + Z3 ≤ 1048576
  case neg =>
    go_wp2
    go_ret
    exact ⟨rfl, hb2'⟩
  have n1 := hr1 rfl
  have n2 := hr3 rfl
  clear hr1 hr3
  have hb2s := hb2'.size
  have H3 := hide (toModel_any a n c nm vl w2 n1 hG.out.hz (hG.out.hL.later hb2'))
  go_wp2_with fail
  refine (unhide H3).mono ?_
  rintro e w3 ⟨⟨m1, d1, rfl, hM1⟩, hb3⟩
  have hb3' := hb2'.trans (hb3.mono hb2s)
  have hb3s := hb3'.size
  clear hb3
  have H4 := hide (ZZlabelsKey_any m1 n d1 nm vl w3 n1 hM1 HS.out.1)
  go_wp2_with fail
  refine (unhide H4).mono ?_
  rintro e w4 ⟨rfl, hb4⟩
  have hb4' := hb3'.trans (hb4.mono hb3s)
  have hb4s := hb4'.size
  clear hb4
  have H5 := hide (toModel_any a' n' c' nm' vl' w4 n2 hG'.out.hz (hG'.out.hL.later hb4'))
  go_wp2_with fail
  refine (unhide H5).mono ?_
  rintro e w5 ⟨⟨m2, d2, rfl, hM2⟩, hb5⟩
  have hb5' := hb4'.trans (hb5.mono hb4s)
  have hb5s := hb5'.size
  clear hb5
  have H6 := hide (ZZlabelsKey_any m2 n' d2 nm' vl' w5 n2 hM2 HS.out.2)
  go_wp2_with fail
  refine (unhide H6).mono ?_
  rintro e w6 ⟨rfl, hb6⟩
  have hb6' := hb5'.trans (hb6.mono hb5s)
  have hb6s := hb6'.size
  clear hb6
  have H7 := hide (sameLabels_any a n c nm vl a' n' c' nm' vl' w6 n1 n2 (hG.out.hL.later hb6') (hG'.out.hL.later hb6'))
  go_wp2_with fail
  refine (unhide H7).mono ?_
  rintro e w7 ⟨⟨r, rfl, hr⟩, hb7⟩
  have hb7' := hb6'.trans (hb7.mono hb6s)
  have HR := hide hr
  clear hb7 hr
  go_wp2
  go_ret
  have e : ((key nm vl n == key nm' vl' n') == r) = true := by
    have hk := key_iff nm vl nm' vl' n n'
    have hr := HR.out
    unfold Alike at hr
    rw [← hk] at hr
    cases r
    · simp only [Bool.false_eq_true, false_iff] at hr
      simp [hr]
    · simp only [true_iff] at hr
      simp [hr]
  refine ⟨?_, hb7'⟩
  show Ending.returned (Value.bool ((key nm vl n == key nm' vl' n') == r)) = Ending.returned (Value.bool true)
  rw [e]


open Go.ChangeShapes Go.WideShapes Go.ChangeAt
namespace inj
theorem own : ownKnob Try.prog.godebug = none := by kernel_rfl
theorem laidOut : laidOutB Try.prog = true := by kernel_rfl

set_option maxRecDepth 100000 in
theorem lifted (os : Os) (started : os.Started) (H : Type) (enc : TypeId × Value → H) :
    ReturnsInHanded {} Try.checked os 4 .any (Rows.fnLabelsKeyInjectiveSpec.pre6 enc Try.prog Try.f4 Rows.fnLabelsKeyInjectiveRow.domain false) (Rows.fnLabelsKeyInjectiveSpec.post enc Try.prog Try.f4 false true false false) := by
  refine returnsInHanded_of_change (C := Try.checked) own started (by kernel_rfl) Try.func4
    (ChangeSpec.witness6 (enc := enc) (C := Try.checked) false ⟨#[], #[.slice none 0 0, .slice none 0 0], []⟩ 8 (by kernel_rfl) (by kernel_rfl) (by kernel_rfl) (by kernel_rfl)) ?_
  intro W base args ds gs before hval0 hW hcnd _
  have hval : ∀ (j : Nat) t v, Try.f4.params[j]? = some t → args[j]? = some v → Value.okWide Try.prog W .any base t v := hval0
  have hW' := hW
  obtain ⟨p, q, hA0, hV, rfl, hfz, hnd⟩ := hW
  have hA : DataW.TrodAll enc Try.prog W 0 (fun _ => true) true Try.f4.params.toList args.toList ds p := hA0
  rw [Try.params4] at hA hval
  obtain ⟨v0, vs0, d0, ds0, p0, q0, hargs, rfl, rfl, h0, r0⟩ := trodAll_cons hA
  obtain ⟨v1, vs1, d1, ds1, p1, q1, rfl, rfl, rfl, h1, r1⟩ := trodAll_cons r0
  obtain ⟨rfl, rfl, rfl⟩ := trodAll_nil r1
  obtain rfl : args = #[v0, v1] := by cases args; simp_all
  obtain ⟨rfl, rfl⟩ := trodVars_none hV
  obtain ⟨a0, len0, cap0, rfl⟩ := okWide_slice Try.underlying22 (hval 0 22 v0 rfl rfl)
  obtain ⟨a1, len1, cap1, rfl⟩ := okWide_slice Try.underlying22 (hval 1 22 v1 rfl rfl)
  have k0 := h0
  have k1 := h1
  have lt0 : ∀ x ∈ p0, x.block < W.heap.size := by obtain ⟨m, hm⟩ := k0; exact DataW.trod_lt m _ _ _ hm
  have lt1 : ∀ x ∈ p1, x.block < W.heap.size := by obtain ⟨m, hm⟩ := k1; exact DataW.trod_lt m _ _ _ hm
  obtain ⟨nm0, vl0, G0⟩ : ∃ nm vl, Came W a0 len0 cap0 nm vl := by obtain ⟨m, hm⟩ := h0; exact open_labels (by simpa [Value.cells] using hm)
  obtain ⟨nm1, vl1, G1⟩ : ∃ nm vl, Came W a1 len1 cap1 nm vl := by obtain ⟨m, hm⟩ := h1; exact open_labels (by simpa [Value.cells] using hm)
  clear hA0 hval0
  refine (inj_walk a0 len0 cap0 nm0 vl0 a1 len1 cap1 nm1 vl1 W G0 G1).mono fun e W' ⟨he, bel⟩ => ?_
  subst he
  exact ⟨_, rfl, _, _, _, [], _, [], hW', trodAll_mk1 (shut_bool Try.underlying4 _), (trodAll_cons_mk (Below.trod laidOut (by kernel_rfl) (of_decide_eq_true (by kernel_rfl)) k0 bel lt0) (trodAll_cons_mk (Below.trod laidOut (by kernel_rfl) (of_decide_eq_true (by kernel_rfl)) k1 bel lt1) trodAll_mk0)), rfl, bel.frame _, fun h => by cases h⟩

theorem over : Rows.fnLabelsKeyInjectiveRow.holds Try.pinned (OpenSpec.ofChange Rows.fnLabelsKeyInjectiveSpec) :=
  OpenClaim.holds_of_wide 4 Try.f4 rfl rfl rfl rfl rfl rfl rfl ⟨rfl, rfl, rfl, rfl, rfl⟩ rfl rfl rfl rfl rfl (by kernel_rfl) Try.func4 (by kernel_rfl)
    (of_decide_eq_true (by kernel_rfl)) (by unfold Func.isWrapper; first | (rw [if_pos (by decide +kernel)]; kernel_rfl) | (rw [if_neg (by decide +kernel)]; exact ⟨rfl, rfl⟩))
    (fun os started H enc _ => lifted os started H enc)
end inj

theorem fnLabelsKeyInjectiveProved : Rows.FnLabelsKeyInjectiveSaid := inj.over

end Go.Proofs.Qxb6612289a
