/-
  A proof of the given statement on FnPoliciesGivesAFreshList: the frame is the shell that the guide's program wrote for this function; the contract of Policies and the walk are typed by hand.
-/
import Derived.Test.Qxb6612288aRows
import Derived.WalkKit
import Derived.ProofKit
import Derived.OpenShut
import Derived.ShutString
import Derived.Deep.QuietTactic
import Derived.BigQuiet
namespace Go.Proofs.Qxb6612288a.fnPoliciesGivesAFreshList
open Go.ChangeShapes Go.WideShapes Go.ChangeAt Go.RowKit
open Go.ChangeMaps (open_string shut_string)
set_option linter.unusedVariables false      -- a walk need not use every 'w<i>' (that an integer argument fits its kind)

theorem own : ownKnob Try.prog.godebug = none := by kernel_rfl

/-- The seven policies, as cells. -/
def pol : Array Value := #[.string ⟨#[102, 114, 101, 101, 45, 109, 101, 97, 110]⟩, .string ⟨#[98, 101, 115, 116, 45, 102, 105, 116]⟩, .string ⟨#[100, 111, 116, 45, 112, 114, 111, 100, 117, 99, 116]⟩, .string ⟨#[103, 112, 117, 45, 112, 97, 99, 107, 105, 110, 103]⟩, .string ⟨#[103, 112, 117, 45, 99, 108, 117, 115, 116, 101, 114, 105, 110, 103]⟩, .string ⟨#[114, 97, 110, 100, 111, 109]⟩, .string ⟨#[102, 103, 100]⟩]

theorem pol_at (k : Nat) (h : k < 7) : ∃ s : ByteArray, pol[k]? = some (.string s) ∧ s.toList.isEmpty = false := by
  rcases (show k = 0 ∨ k = 1 ∨ k = 2 ∨ k = 3 ∨ k = 4 ∨ k = 5 ∨ k = 6 from by omega) with rfl | rfl | rfl | rfl | rfl | rfl | rfl <;>
    exact ⟨_, rfl, by decide +kernel⟩

theorem cell_of_block {w : World} {b : Nat} {cs : Array Value} {T : TypeId} {fr : Nat × Nat} (hb : w.heap[b]? = some (.cells cs T fr)) (j : Nat) : w.cell? ⟨b, j, none⟩ = cs[j]? := by
  simp [World.cell?, hb]
theorem free_of_block {w : World} {b : Nat} {cs : Array Value} {T : TypeId} (hb : w.heap[b]? = some (.cells cs T (0, 0))) (j : Nat) : w.frozen? ⟨b, j, none⟩ = false := by
  simp [World.frozen?, hb]

theorem two_new (w : World) (a b : Obj) : ((w.alloc a).alloc b).heap[w.heap.size]? = some a ∧ ((w.alloc a).alloc b).heap[w.heap.size + 1]? = some b := by
  refine ⟨?_, ?_⟩
  · show ((w.heap.push a).push b)[w.heap.size]? = _
    rw [Array.getElem?_push, if_neg (by simp), Array.getElem?_push, if_pos rfl]
  · show ((w.heap.push a).push b)[w.heap.size + 1]? = _
    rw [Array.getElem?_push, if_pos (by simp)]

theorem block_set_other {w : World} {b : Nat} {o : Obj} (h : w.heap[b]? = some o) (a : Addr) (v : Value) (hne : b ≠ a.block) : (w.setCell a v).heap[b]? = some o :=
  (Below.heap_setCell _ _ _ _ hne).trans h

theorem block_set_same {w : World} {b j : Nat} {cs : Array Value} {T : TypeId} (h : w.heap[b]? = some (.cells cs T (0, 0))) (v : Value) :
    (w.setCell ⟨b, j, none⟩ v).heap[b]? = some (.cells (cs.setIfInBounds j v) T (0, 0)) := by
  simp [World.setCell, Array.getElem?_modify, h]

theorem policies_any (w : World) :
    Calls Try.prog 7 #[] w fun e w' => e = .returned (.slice (some ⟨w.heap.size, 0, none⟩) 7 7) ∧ w' = w.alloc (.cells pol 24) := by
  go_enter Try.func7, Try.ntmps7
  go_wp2
  go_ret
  exact ⟨rfl, rfl⟩

/-- What the loops keep: p1's block is a row of seven cells, p2's block holds the seven policies; nothing old has turned. -/
def Kept (w : World) (wr : World) : Prop :=
  ∃ cs : Array Value, cs.size = 7 ∧ wr.heap[w.heap.size]? = some (.cells cs 24 (0, 0)) ∧ wr.heap[w.heap.size + 1]? = some (.cells pol 24 (0, 0)) ∧ wr.heap.size = w.heap.size + 2 ∧ Grown w wr

set_option maxHeartbeats 2000000 in
theorem walk (w : World) :
    Calls Try.prog 3 #[] w fun e w' => e = .returned (.bool true) ∧ Grown w w' := by
  go_enter Try.func3, Try.ntmps3
  go_wp2_with fail
  refine (policies_any _).mono ?_
  rintro e w1 ⟨rfl, rfl⟩
  go_wp2_with fail
  refine (policies_any _).mono ?_
  rintro e w2 ⟨rfl, rfl⟩
  go_wp2
  go_loopw [19] (fun i wr => ∃ k : Nat, k ≤ 7 ∧ i = .int .i64 k ∧ wr.heap[w.heap.size]? = some (.cells pol 24 (0, 0)) ∧ wr.heap[w.heap.size + 1]? = some (.cells pol 24 (0, 0)) ∧ wr.heap.size = w.heap.size + 2 ∧ Grown w wr) (fun i _ => 7 - (intOf i).toNat)
  case atStart => exact ⟨0, by omega, rfl, (two_new _ _ _).1, (two_new _ _ _).2, by simp, ((Grown.refl _).alloc _ _).alloc _ _⟩
  case round =>
    obtain ⟨k, hk, rfl, hb1, hb2, hsz, hg⟩ := hrel
    by_cases hlt : k < 7
    · obtain ⟨s, hs, hne⟩ := pol_at k hlt
      have c1 : wr.cell? ⟨w.heap.size, k, none⟩ = some (.string s) := (cell_of_block hb1 k).trans hs
      have c2 : wr.cell? ⟨w.heap.size + 1, k, none⟩ = some (.string s) := (cell_of_block hb2 k).trans hs
      have hlt' : (k : Int) < 7 := by omega
      clear hs
      go_wp2
      go_quiet (fail)
      go_wp2
      go_roundw
      case rel => exact ⟨k + 1, by omega, by go_num, hb1, hb2, hsz, hg⟩
      case measure => simp [intOf]; omega
    · go_wp2
      go_loopw [41] (fun i wr => ∃ k : Nat, k ≤ 7 ∧ i = .int .i64 k ∧ Kept w wr) (fun i _ => 7 - (intOf i).toNat)
      case atStart => exact ⟨0, by omega, rfl, pol, rfl, hb1, hb2, hsz, hg⟩
      case round =>
        clear hb1 hb2 hsz hg hlt hk
        obtain ⟨j, hj, rfl, cs, hcs, hb1, hb2, hsz, hg⟩ := hrel
        by_cases hlt : j < 7
        · have c1 : wr.cell? ⟨w.heap.size, j, none⟩ = some (cs[j]'(by omega)) := (cell_of_block hb1 j).trans (by simp [hcs, hlt])
          have f1 : wr.frozen? ⟨w.heap.size, j, none⟩ = false := free_of_block hb1 j
          have hlt' : (j : Int) < 7 := by omega
          have hb3 := block_set_same (j := j) hb1 (.string ⟨#[]⟩)
          have hb4 := block_set_other hb2 ⟨w.heap.size, j, none⟩ (.string ⟨#[]⟩) (by simp)
          have hg2 := hg.setCell (a := ⟨w.heap.size, j, none⟩) (Nat.le_refl _) (.string ⟨#[]⟩)
          go_wp2
          go_roundw
          case rel => exact ⟨j + 1, by omega, by go_num, _, by simp [hcs], hb3, hb4, by simp [World.setCell, hsz], hg2⟩
          case measure => simp [intOf]; omega
        · obtain ⟨wo, rfl⟩ : ∃ wo : World, wo = wr := ⟨_, rfl⟩
          go_wp2_with fail
          refine (policies_any _).mono ?_
          rintro e w2 ⟨rfl, rfl⟩
          have hb3 : (wo.alloc (.cells pol 24)).heap[w.heap.size + 1]? = some (.cells pol 24 (0, 0)) := (Below.heap_alloc _ _ _ (by omega)).trans hb2
          have hb4 : (wo.alloc (.cells pol 24)).heap[w.heap.size + 2]? = some (.cells pol 24 (0, 0)) := by rw [← hsz]; exact heap_alloc_new wo _
          have hg3 := hg.alloc pol 24
          clear hb1 hb2 hg
          go_wp2
          go_loopw [54] (fun i wx => ∃ k : Nat, k ≤ 7 ∧ i = .int .i64 k ∧ wx.heap[w.heap.size + 1]? = some (.cells pol 24 (0, 0)) ∧ wx.heap[w.heap.size + 2]? = some (.cells pol 24 (0, 0)) ∧ Grown w wx) (fun i _ => 7 - (intOf i).toNat)
          case atStart => exact ⟨0, by omega, rfl, hb3, hb4, hg3⟩
          case round =>
            clear hb3 hb4 hg3 hlt hj
            obtain ⟨k, hk, rfl, hb1, hb2, hg⟩ := hrel
            by_cases hlt : k < 7
            · obtain ⟨s, hs, hne⟩ := pol_at k hlt
              have c1 : wr.cell? ⟨w.heap.size + 1, k, none⟩ = some (.string s) := (cell_of_block hb1 k).trans hs
              have c2 : wr.cell? ⟨w.heap.size + 2, k, none⟩ = some (.string s) := (cell_of_block hb2 k).trans hs
              have hlt' : (k : Int) < 7 := by omega
              clear hs
              go_wp2
              go_quiet (fail)
              go_wp2
              go_roundw
              case rel => exact ⟨k + 1, by omega, by go_num, hb1, hb2, hg⟩
              case measure => simp [intOf]; omega
            · go_wp2
              go_ret
              exact ⟨rfl, hg⟩

/-! ### THE ROW's STEP: WRITTEN OUT: LEAVE IT -/
set_option maxRecDepth 100000 in
theorem lifted (os : Os) (started : os.Started) (H : Type) (enc : TypeId × Value → H) :
    ReturnsInHanded {} Try.checked os 3 .any (Rows.fnPoliciesGivesAFreshListSpec.pre6 enc Try.prog Try.f3 Rows.fnPoliciesGivesAFreshListRow.domain false) (Rows.fnPoliciesGivesAFreshListSpec.post enc Try.prog Try.f3 false true false false) := by
  refine returnsInHanded_of_change (C := Try.checked) own started (by kernel_rfl) Try.func3
    (ChangeSpec.witness6 (enc := enc) (C := Try.checked) false ⟨#[], #[], []⟩ 8 (by kernel_rfl) (by kernel_rfl) (by kernel_rfl) (by kernel_rfl)) ?_
  intro W base args ds gs before hval0 hW hcnd _
  have hval : ∀ (j : Nat) t v, Try.f3.params[j]? = some t → args[j]? = some v → Value.okWide Try.prog W .any base t v := hval0
  have hW' := hW
  obtain ⟨p, q, hA0, hV, rfl, hfz, hnd⟩ := hW
  have hA : DataW.TrodAll enc Try.prog W 0 (fun _ => true) true Try.f3.params.toList args.toList ds p := hA0
  rw [Try.params3] at hA hval
  obtain ⟨rfl, rfl, rfl⟩ := trodAll_none hA
  obtain ⟨rfl, rfl⟩ := trodVars_none hV
  clear hA0 hval0
  simp only [List.append_nil] at hW'
  refine (walk  W).mono fun e W' ⟨he, hg⟩ => ?_
  subst he
  exact ⟨_, rfl, post_of_same (pa := []) (pv := []) hW' (fun _ _ _ => (trodAll_cons_mk (shut_bool Try.underlying4 _) trodAll_mk0)) (fun sp _ => rfl) (fun _ _ => rfl) rfl
    (hg.frame _) hg.2.1 (ok_one (by kernel_rfl) rfl (okWide_bool_mk Try.underlying4 _))⟩

theorem over : Rows.fnPoliciesGivesAFreshListRow.holds Try.pinned (OpenSpec.ofChange Rows.fnPoliciesGivesAFreshListSpec) :=
  OpenClaim.holds_of_wide 3 Try.f3 rfl rfl rfl rfl rfl rfl rfl ⟨rfl, rfl, rfl, rfl, rfl⟩ rfl rfl rfl rfl rfl (by kernel_rfl) Try.func3 (by kernel_rfl)
    (of_decide_eq_true (by kernel_rfl)) (by unfold Func.isWrapper; first | (rw [if_pos (by decide +kernel)]; kernel_rfl) | (rw [if_neg (by decide +kernel)]; exact ⟨rfl, rfl⟩))
    (fun os started H enc _ => lifted os started H enc)

/-- ████ THE STATEMENT ████ -/
theorem proved : Rows.FnPoliciesGivesAFreshListSaid :=
  over
end Go.Proofs.Qxb6612288a.fnPoliciesGivesAFreshList
namespace Go.Proofs.Qxb6612288a
theorem fnPoliciesGivesAFreshListProved : Rows.FnPoliciesGivesAFreshListSaid :=
  fnPoliciesGivesAFreshList.proved
end Go.Proofs.Qxb6612288a
