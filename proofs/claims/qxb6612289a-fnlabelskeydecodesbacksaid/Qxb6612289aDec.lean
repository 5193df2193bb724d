/-
  A proof of the given statement on FnLabelsKeyDecodesBack: the walk and the row's frame.
-/
import Derived.Test.Qxb6612289aRows
import Derived.Test.Qxb6612289aOpen
import Derived.Test.Qxb6612289aGuards
import Derived.Test.Qxb6612289aModel
import Derived.Test.Qxb6612289aField
import Derived.OpenShut
import Derived.ShutString
import Derived.ChangeOld
set_option linter.unusedVariables false
namespace Go.Proofs.Qxb6612289a
open Go.RowKit

theorem key_parts (nm vl : Nat → ByteArray) (n k : Nat) (h : k < n) :
    key nm vl n = (Lib.uvarint n ++ body nm vl k) ++ (field (nm k) ++ (field (vl k) ++ rest nm vl (k + 1) (n - (k + 1)))) := by
  have h1 := body_rest nm vl (n - (k + 1)) (k + 1)
  rw [show k + 1 + (n - (k + 1)) = n by omega] at h1
  rw [key, ← h1, body, item]
  simp

theorem key_length (nm vl : Nat → ByteArray) (n : Nat) (hn : n ≤ 65536) (h : ∀ j, j < n → (nm j).size ≤ 1048576 ∧ (vl j).size ≤ 1048576) : (key nm vl n).length ≤ 1099511627776 := by
  have h1 := body_length nm vl n h
  have h2 := Lib.uvarint_length64 (x := n) (by omega)
  rw [key, List.length_append]
  omega

set_option maxHeartbeats 4000000 in
set_option maxRecDepth 100000 in
theorem dec_walk (a : Option Addr) (n c : Nat) (nm vl : Nat → ByteArray) (w : World) (G : Came w a n c nm vl) :
    Calls Try.prog 3 #[.slice a n c] w fun e w' => e = .returned (.bool true) ∧ Below w.heap.size w w' := by
  have HB := hide (bytes1_any a n c nm vl w G.hm G.hL)
  have hG := hide G
  clear G
  go_enter Try.func3, Try.ntmps3
  go_wp2_with fail
  refine (unhide HB).mono ?_
  rintro e w' ⟨⟨r, rfl, hr⟩, hw⟩
  have hw' := hw.symm
  subst hw'
  clear hw
  cases r
  · go_wp2
    go_ret
    exact ⟨rfl, Below.refl _ _⟩
  have HS := hide (hr rfl)
  clear hr
  have H1 := hide (size_any a n c nm vl w hG.out.hm hG.out.hL HS.out)
  go_wp2_with fail
  refine (unhide H1).mono ?_
  rintro e w1 ⟨⟨Z1, r1, rfl, hZ1, hZ2, hr1⟩, hb1⟩
  have hb1s := hb1.size
  cases r1
  · go_wp2
    go_ret
    exact ⟨rfl, hb1⟩
  have n1 := hr1 rfl
  clear hr1
  have H3 := hide (toModel_any a n c nm vl w1 n1 hG.out.hz (hG.out.hL.later hb1))
  go_wp2_with fail
  refine (unhide H3).mono ?_
  rintro e w3 ⟨⟨m1, d1, rfl, hM1⟩, hb3⟩
  have hb3' := hb1.trans (hb3.mono hb1s)
  have hb3s := hb3'.size
  clear hb3
  have H4 := hide (ZZlabelsKey_any m1 n d1 nm vl w3 n1 hM1 HS.out)
  go_wp2_with fail
  refine (unhide H4).mono ?_
  rintro e W ⟨rfl, hb4⟩
  have hb4' := hb3'.trans (hb4.mono hb3s)
  have hL4 := hide (hG.out.hL.later hb4')
  clear hb4 hb3' hb3s hM1 hb1 hb1s H1 H3 H4 HB
  obtain ⟨s, Hs⟩ : ∃ s, Hid ((⟨(key nm vl n).toArray⟩ : ByteArray) = s) := ⟨_, rfl⟩
  have HL : Hid (s.data.toList = key nm vl n) := by rw [← Hs.out]; rfl
  have hss : s.size ≤ 1099511627776 := by
    rw [← size_list, HL.out]
    exact key_length nm vl n n1 HS.out
  rw [Hs.out]
  have H5 := hide (readUvarint_any s 0 n [] (body nm vl n) W hss (by omega) rfl HL.out)
  obtain ⟨p0, Hp0⟩ : ∃ p0, Hid (0 + (Lib.uvarint n).length = p0) := ⟨_, rfl⟩
  rw [Hp0.out] at H5
  go_wp2_with fail
  refine (unhide H5).mono ?_
  rintro e W' ⟨rfl, hw⟩
  have hw' := hw.symm
  subst hw'
  clear hw H5
  go_wp2
  go_loopw [7, 9] (fun p i wr => ∃ k q : Nat, k ≤ n ∧ i = .int .i64 k ∧ p = .int .i64 q ∧ Hid (q = (Lib.uvarint n ++ body nm vl k).length) ∧ wr = W) (fun _ i _ => n - (intOf i).toNat)
  case atStart => exact ⟨0, p0, Nat.zero_le _, rfl, rfl, by show p0 = _; rw [← Hp0.out]; simp [body], rfl⟩
  case round =>
    obtain ⟨k, q, hk, rfl, rfl, HQ, hwr⟩ := hrel
    have hwr' := hwr.symm
    subst hwr'
    clear hwr
    by_cases hlt : k < n
    · obtain ⟨b, off, rfl, hc⟩ : ∃ b off, a = some ⟨b, off, none⟩ ∧ ∀ i, i < n → W.cell? ⟨b, off + i * 2, none⟩ = some (.string (nm i)) ∧ W.cell? ⟨b, off + i * 2 + 1, none⟩ = some (.string (vl i)) := by
        rcases hL4.out with h | h
        · omega
        · exact h
      have hkey := HL.out.trans (key_parts nm vl n k hlt)
      have hz := HS.out k hlt
      have H6 := hide (readField_any s (nm k) q _ _ W hss (by omega) HQ.out hkey)
      have H7 := hide (readField_any s (vl k) (q + (field (nm k)).length) ((Lib.uvarint n ++ body nm vl k) ++ field (nm k)) (rest nm vl (k + 1) (n - (k + 1))) W hss (by omega) (by rw [HQ.out]; simp; omega) (by rw [hkey]; simp))
      have c0 := (hc k hlt).1
      have c1 := (hc k hlt).2
      obtain ⟨q1, Hq1⟩ : ∃ q1, Hid (q + (field (nm k)).length = q1) := ⟨_, rfl⟩
      rw [Hq1.out] at H6 H7
      obtain ⟨q2, Hq2⟩ : ∃ q2, Hid (q1 + (field (vl k)).length = q2) := ⟨_, rfl⟩
      rw [Hq2.out] at H7
      have HQ2 : Hid (q2 = (Lib.uvarint n ++ body nm vl (k + 1)).length) := by
        show q2 = _
        have h1 := HQ.out
        rw [List.length_append] at h1
        rw [← Hq2.out, ← Hq1.out, h1, body, item]
        simp only [List.length_append]
        omega
      obtain ⟨s1, Hs1⟩ : ∃ s, Hid (nm k = s) := ⟨_, rfl⟩
      obtain ⟨t1, Ht1⟩ : ∃ t, Hid (vl k = t) := ⟨_, rfl⟩
      rw [Hs1.out] at c0 H6
      rw [Ht1.out] at c1 H7
      have hlt' : (k : Int) < (n : Int) := by omega
      clear hc hkey hz
      go_wp2_with fail
      refine (unhide H6).mono ?_
      rintro e W' ⟨rfl, hw⟩
      have hw' := hw.symm
      subst hw'
      clear hw H6
      go_wp2_with fail
      refine (unhide H7).mono ?_
      rintro e W' ⟨rfl, hw⟩
      have hw' := hw.symm
      subst hw'
      clear hw H7
      go_wp2
      go_roundw
      case rel => exact ⟨k + 1, q2, by omega, by go_num, rfl, HQ2, trivial⟩
      case measure => simp [intOf]; omega
    · have hkn : k = n := by omega
      subst hkn
      have hq : q = s.size := by rw [HQ.out, ← size_list, HL.out]; rfl
      subst hq
      go_wp2
      go_ret
      exact ⟨rfl, hb4'⟩

open Go.ChangeShapes Go.WideShapes Go.ChangeAt
namespace dec
theorem own : ownKnob Try.prog.godebug = none := by kernel_rfl
theorem laidOut : laidOutB Try.prog = true := by kernel_rfl

set_option maxRecDepth 100000 in
theorem lifted (os : Os) (started : os.Started) (H : Type) (enc : TypeId × Value → H) :
    ReturnsInHanded {} Try.checked os 3 .any (Rows.fnLabelsKeyDecodesBackSpec.pre6 enc Try.prog Try.f3 Rows.fnLabelsKeyDecodesBackRow.domain false) (Rows.fnLabelsKeyDecodesBackSpec.post enc Try.prog Try.f3 false true false false) := by
  refine returnsInHanded_of_change (C := Try.checked) own started (by kernel_rfl) Try.func3
    (ChangeSpec.witness6 (enc := enc) (C := Try.checked) false ⟨#[], #[.slice none 0 0], []⟩ 8 (by kernel_rfl) (by kernel_rfl) (by kernel_rfl) (by kernel_rfl)) ?_
  intro W base args ds gs before hval0 hW hcnd _
  have hval : ∀ (j : Nat) t v, Try.f3.params[j]? = some t → args[j]? = some v → Value.okWide Try.prog W .any base t v := hval0
  have hW' := hW
  obtain ⟨p, q, hA0, hV, rfl, hfz, hnd⟩ := hW
  have hA : DataW.TrodAll enc Try.prog W 0 (fun _ => true) true Try.f3.params.toList args.toList ds p := hA0
  rw [Try.params3] at hA hval
  obtain ⟨v0, vs0, d0, ds0, p0, q0, hargs, rfl, rfl, h0, r0⟩ := trodAll_cons hA
  obtain ⟨rfl, rfl, rfl⟩ := trodAll_nil r0
  obtain rfl : args = #[v0] := by cases args; simp_all
  obtain ⟨rfl, rfl⟩ := trodVars_none hV
  obtain ⟨a0, len0, cap0, rfl⟩ := okWide_slice Try.underlying22 (hval 0 22 v0 rfl rfl)
  have k0 := h0
  have lt0 : ∀ x ∈ p0, x.block < W.heap.size := by obtain ⟨m, hm⟩ := k0; exact DataW.trod_lt m _ _ _ hm
  obtain ⟨nm0, vl0, G0⟩ : ∃ nm vl, Came W a0 len0 cap0 nm vl := by obtain ⟨m, hm⟩ := h0; exact open_labels (by simpa [Value.cells] using hm)
  clear hA0 hval0
  refine (dec_walk a0 len0 cap0 nm0 vl0 W G0).mono fun e W' ⟨he, bel⟩ => ?_
  subst he
  exact ⟨_, rfl, _, _, _, [], _, [], hW', trodAll_mk1 (shut_bool Try.underlying4 _), (trodAll_cons_mk (Below.trod laidOut (by kernel_rfl) (of_decide_eq_true (by kernel_rfl)) k0 bel lt0) trodAll_mk0), rfl, bel.frame _, fun h => by cases h⟩

theorem over : Rows.fnLabelsKeyDecodesBackRow.holds Try.pinned (OpenSpec.ofChange Rows.fnLabelsKeyDecodesBackSpec) :=
  OpenClaim.holds_of_wide 3 Try.f3 rfl rfl rfl rfl rfl rfl rfl ⟨rfl, rfl, rfl, rfl, rfl⟩ rfl rfl rfl rfl rfl (by kernel_rfl) Try.func3 (by kernel_rfl)
    (of_decide_eq_true (by kernel_rfl)) (by unfold Func.isWrapper; first | (rw [if_pos (by decide +kernel)]; kernel_rfl) | (rw [if_neg (by decide +kernel)]; exact ⟨rfl, rfl⟩))
    (fun os started H enc _ => lifted os started H enc)
end dec

theorem fnLabelsKeyDecodesBackProved : Rows.FnLabelsKeyDecodesBackSaid := dec.over

end Go.Proofs.Qxb6612289a
