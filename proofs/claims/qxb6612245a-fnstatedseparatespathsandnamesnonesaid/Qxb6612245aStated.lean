/-
  A proof of the given statement on FnStatedSeparatesPathsAndNamesNone: the frame is the shell that the guide's program wrote for this function; the contracts and the walk are typed by hand.
-/
import Derived.Test.Qxb6612245aRows
import Derived.WalkKit
import Derived.ProofKit
import Derived.OpenShut
import Derived.ShutString
namespace Go.Proofs.Qxb6612245a.fnStatedSeparatesPathsAndNamesNone
open Go.ChangeShapes Go.WideShapes Go.ChangeAt Go.RowKit
open Go.ChangeMaps (open_string shut_string)
set_option linter.unusedVariables false      -- a walk need not use every 'w<i>' (that an integer argument fits its kind)

theorem own : ownKnob Try.prog.godebug = none := by kernel_rfl

theorem grown_trans {a b c : World} (h : Grown a b) (k : Grown b c) : Grown a c := by
  obtain ⟨h1, h2, h3⟩ := h
  obtain ⟨k1, k2, k3⟩ := k
  exact ⟨World.keptBut_trans h1 k1, fun x => (k2 x).trans (h2 x), Nat.le_trans h3 k3⟩

def noneText : ByteArray := ⟨#[60, 110, 111, 110, 101, 62]⟩

theorem statedOr_any (a b : ByteArray) (w : World) :
    Calls Try.prog 8 #[.string a, .string b] w fun e w' => e = .returned (.agg #[.string a, .string b]) ∧ w' = w.alloc (.cells #[.string a, .string b] 27) := by
  go_enter Try.func8, Try.ntmps8
  go_wp2
  exact bodyPost_ret (v := .agg #[.string a, .string b]) (by simp [results, Try.results8, go_sem]) rfl ⟨rfl, rfl⟩

theorem fieldsOr_any (a b : ByteArray) (w : World) :
    Calls Try.prog 6 #[.string a, .string b] w fun e w' => e = .returned (.tuple #[.string a, .string b]) ∧ Grown w w' := by
  go_enter Try.func6, Try.ntmps6
  go_wp2_with (go_at_call 8; refine (statedOr_any _ _ _).mono ?_; rintro e w1 ⟨rfl, rfl⟩)
  go_region
  go_wp2
  go_ret2
  exact ⟨rfl, (((Grown.refl _).alloc _ _).alloc _ _).drew⟩

theorem stated_any (a : ByteArray) (w : World) :
    Calls Try.prog 7 #[.string a] w fun e w' => e = .returned (.agg #[.string a, .string noneText]) ∧ Grown w w' := by
  go_enter Try.func7, Try.ntmps7
  go_wp2_with (go_at_call 8; refine (statedOr_any _ _ _).mono ?_; rintro e w1 ⟨rfl, rfl⟩)
  exact bodyPost_ret (v := .agg #[.string a, .string noneText]) (by simp [results, Try.results7, go_sem, noneText]) rfl ⟨rfl, ((Grown.refl _).alloc _ _).alloc _ _⟩

theorem fields_any (a : ByteArray) (w : World) :
    Calls Try.prog 5 #[.string a] w fun e w' => e = .returned (.tuple #[.string a, .string noneText]) ∧ Grown w w' := by
  go_enter Try.func5, Try.ntmps5
  go_wp2_with (go_at_call 7; refine (stated_any _ _).mono ?_; rintro e w1 ⟨rfl, hg⟩)
  go_region
  go_wp2
  go_ret2
  exact ⟨rfl, (hg.alloc _ _).drew⟩

theorem bytes_any (a b c : ByteArray) (w : World) (ha : a.size ≤ maxLen) (hb : b.size ≤ maxLen) (hc : c.size ≤ maxLen) :
    Calls Try.prog 4 #[.string a, .string b, .string c] w fun e w' => (∃ r, e = .returned (.bool r)) ∧ w' = w := by
  unfold maxLen at ha hb hc
  go_enter Try.func4, Try.ntmps4
  go_wp2
  all_goals
    go_ret
    exact ⟨⟨_, rfl⟩, rfl⟩

theorem walk (a0 : ByteArray) (a1 : ByteArray) (a2 : ByteArray) (w0 : a0.size ≤ maxLen) (w1 : a1.size ≤ maxLen) (w2 : a2.size ≤ maxLen) (w : World) :
    Calls Try.prog 3 #[.string a0, .string a1, .string a2] w fun e w' => e = .returned (.bool true) ∧ Grown w w' := by
  have hb := bytes_any a0 a1 a2 w w0 w1 w2
  unfold maxLen at w0 w1 w2
  by_cases h : a0.size + a1.size + a2.size ≤ 1048576
  · go_enter Try.func3, Try.ntmps3
    go_wp2_with fail
    refine hb.mono ?_
    rintro e w' ⟨⟨r, rfl⟩, rfl⟩
    cases r
    · go_wp2
      go_ret
      exact ⟨rfl, Grown.refl _⟩
    · go_wp2_with fail
      refine (fields_any _ _).mono ?_
      rintro e w1 ⟨rfl, hg1⟩
      go_wp2_with fail
      refine (fields_any _ _).mono ?_
      rintro e w2 ⟨rfl, hg2⟩
      go_wp2_with fail
      refine (fieldsOr_any _ _ _).mono ?_
      rintro e w3 ⟨rfl, hg3⟩
      go_wp2
      all_goals
        go_ret
        refine ⟨?_, grown_trans hg1 (grown_trans hg2 hg3)⟩
        simp [*, noneText]
  · go_enter Try.func3, Try.ntmps3
    go_wp2_with fail
    refine hb.mono ?_
    rintro e w' ⟨⟨r, rfl⟩, rfl⟩
    cases r
    · go_wp2
      go_ret
      exact ⟨rfl, Grown.refl _⟩
    · go_wp2_with fail
      all_goals
        go_ret
        exact ⟨rfl, Grown.refl _⟩

/-! ### THE ROW's STEP: WRITTEN OUT: LEAVE IT -/
set_option maxRecDepth 100000 in
theorem lifted (os : Os) (started : os.Started) (H : Type) (enc : TypeId × Value → H) :
    ReturnsInHanded {} Try.checked os 3 .any (Rows.fnStatedSeparatesPathsAndNamesNoneSpec.pre6 enc Try.prog Try.f3 Rows.fnStatedSeparatesPathsAndNamesNoneRow.domain false) (Rows.fnStatedSeparatesPathsAndNamesNoneSpec.post enc Try.prog Try.f3 false true false false) := by
  refine returnsInHanded_of_change (C := Try.checked) own started (by kernel_rfl) Try.func3
    (ChangeSpec.witness6 (enc := enc) (C := Try.checked) false ⟨#[], #[.string ByteArray.empty, .string ByteArray.empty, .string ByteArray.empty], []⟩ 8 (by kernel_rfl) (by kernel_rfl) (by kernel_rfl) (by kernel_rfl)) ?_
  intro W base args ds gs before hval0 hW hcnd _
  have hval : ∀ (j : Nat) t v, Try.f3.params[j]? = some t → args[j]? = some v → Value.okWide Try.prog W .any base t v := hval0
  have hW' := hW
  obtain ⟨p, q, hA0, hV, rfl, hfz, hnd⟩ := hW
  have hA : DataW.TrodAll enc Try.prog W 0 (fun _ => true) true Try.f3.params.toList args.toList ds p := hA0
  rw [Try.params3] at hA hval
  obtain ⟨v0, vs0, d0, ds0, p0, q0, hargs, rfl, rfl, h0, r0⟩ := trodAll_cons hA
  obtain ⟨v1, vs1, d1, ds1, p1, q1, rfl, rfl, rfl, h1, r1⟩ := trodAll_cons r0
  obtain ⟨v2, vs2, d2, ds2, p2, q2, rfl, rfl, rfl, h2, r2⟩ := trodAll_cons r1
  obtain ⟨rfl, rfl, rfl⟩ := trodAll_nil r2
  obtain rfl : args = #[v0, v1, v2] := by cases args; simp_all
  obtain ⟨rfl, rfl⟩ := trodVars_none hV
  obtain ⟨a0, rfl, rfl, rfl, w0⟩ := open_string Try.underlying9 (hval 0 9 v0 rfl rfl) h0
  obtain ⟨a1, rfl, rfl, rfl, w1⟩ := open_string Try.underlying9 (hval 1 9 v1 rfl rfl) h1
  obtain ⟨a2, rfl, rfl, rfl, w2⟩ := open_string Try.underlying9 (hval 2 9 v2 rfl rfl) h2
  clear hA0 hval0
  simp only [List.append_nil] at hW'
  refine (walk a0 a1 a2 w0 w1 w2 W).mono fun e W' ⟨he, hg⟩ => ?_
  subst he
  exact ⟨_, rfl, post_of_same (pa := []) (pv := []) hW' (fun _ _ _ => (trodAll_cons_mk (shut_bool Try.underlying4 _) trodAll_mk0)) (fun sp _ => (trodAll_cons_mk (shut_string Try.underlying9 w0) (trodAll_cons_mk (shut_string Try.underlying9 w1) (trodAll_cons_mk (shut_string Try.underlying9 w2) trodAll_mk0)))) (fun _ _ => rfl) rfl
    (hg.frame _) hg.2.1 (ok_one (by kernel_rfl) rfl (okWide_bool_mk Try.underlying4 _))⟩

theorem over : Rows.fnStatedSeparatesPathsAndNamesNoneRow.holds Try.pinned (OpenSpec.ofChange Rows.fnStatedSeparatesPathsAndNamesNoneSpec) :=
  OpenClaim.holds_of_wide 3 Try.f3 rfl rfl rfl rfl rfl rfl rfl ⟨rfl, rfl, rfl, rfl, rfl⟩ rfl rfl rfl rfl rfl (by kernel_rfl) Try.func3 (by kernel_rfl)
    (of_decide_eq_true (by kernel_rfl)) (by unfold Func.isWrapper; first | (rw [if_pos (by decide +kernel)]; kernel_rfl) | (rw [if_neg (by decide +kernel)]; exact ⟨rfl, rfl⟩))
    (fun os started H enc _ => lifted os started H enc)

/-- ████ THE STATEMENT ████ -/
theorem proved : Rows.FnStatedSeparatesPathsAndNamesNoneSaid :=
  over
end Go.Proofs.Qxb6612245a.fnStatedSeparatesPathsAndNamesNone
namespace Go.Proofs.Qxb6612245a
theorem fnStatedSeparatesPathsAndNamesNoneProved : Rows.FnStatedSeparatesPathsAndNamesNoneSaid :=
  fnStatedSeparatesPathsAndNamesNone.proved
end Go.Proofs.Qxb6612245a
