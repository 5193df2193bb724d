/-
  A slice that came in, copied into a row of the call's own; the walk's relations for the two laws.
-/
import Derived.Test.Qxb6612232aZZ
import Derived.Test.Qxb6612232aBytes
import Derived.Laws.CopyOwn
set_option linter.unusedVariables false
namespace Go.Proofs.Qxb6612232a
open Go.RowKit

/-- A slice of one-cell values, as it lies in a world. -/
def RowAt (w : World) (a : Option Addr) (n : Nat) (f : Nat → Value) : Prop :=
  n = 0 ∨ ∃ b off, a = some ⟨b, off, none⟩ ∧ ∀ i, i < n → w.cell? ⟨b, off + i, none⟩ = some (f i)

theorem made_block {w : World} {B e g n : Nat} {xs : List Value} (h : w.ownsRow B e 1 (.slice (some ⟨g, 0, none⟩) n n) n xs) : ∃ cur, w.heap[g]? = some (.cells cur e (0, 0)) ∧ cur.size = n := by
  rcases h.2 with ⟨h', _⟩ | ⟨g', cap, cur, h', _, hg, _, _, hs, _⟩
  · simp at h'
  · simp only [Value.slice.injEq, Option.some.injEq, Addr.mk.injEq, and_true, true_and] at h'
    obtain ⟨rfl, rfl⟩ := h'
    exact ⟨cur, hg, by omega⟩

/-- The cells that are copied. -/
def copied (n : Nat) (f : Nat → Value) : List Value := (List.range n).map f
theorem copied_length (n : Nat) (f : Nat → Value) : (copied n f).length = n := by simp [copied]
theorem copied_at {n : Nat} {f : Nat → Value} {j : Nat} {v : Value} (h : (copied n f)[j]? = some v) : j < n ∧ v = f j := by
  have hj : j < n := by have := (List.getElem?_eq_some_iff.1 h).1; rwa [copied_length] at this
  refine ⟨hj, ?_⟩
  simp [copied, hj] at h
  exact h.symm

theorem copied_one {n : Nat} {f : Nat → Value} (h : ∀ i, (f i).oneCell' = true) : ∀ v ∈ copied n f, v.oneCell' = true := by
  intro v hv
  obtain ⟨j, hj⟩ := List.mem_iff_getElem?.1 hv
  rw [(copied_at hj).2]
  exact h j

theorem copied_src {w w1 : World} {ad : Addr} {n : Nat} {f : Nat → Value} (h : RowAt w (some ad) n f) (hb : Below w.heap.size w w1) : ∀ j v, (copied n f)[j]? = some v → w1.cell? (ad.add j) = some v := by
  intro j v hj
  obtain ⟨hjn, rfl⟩ := copied_at hj
  rcases h with h | ⟨b, off, ha, hc⟩
  · omega
  · cases ha
    rw [Addr.add_mid]
    exact field_later hb (hc j hjn)

theorem copied_row {w1 : World} {g e n : Nat} {cur : Array Value} {f : Nat → Value} (hg : w1.heap[g]? = some (.cells cur e (0, 0))) (hs : cur.size = n) :
    RowAt (w1.setRow g (cur.toList.take 0 ++ (copied n f ++ cur.toList.drop (0 + (copied n f).length))).toArray) (some ⟨g, 0, none⟩) n f := by
  refine Or.inr ⟨g, 0, rfl, fun i hi => ?_⟩
  rw [cell_of_row _ g (0 + i) _ e (0, 0) (setRow_heap w1 g cur _ e _ hg)]
  simp only [Nat.zero_add, List.take_zero, List.nil_append, List.getElem?_toArray]
  rw [List.getElem?_append_left (by rw [copied_length]; exact hi)]
  simp [copied, hi]

theorem RowAt.later {w w' : World} {a : Option Addr} {n : Nat} {f : Nat → Value} (h : RowAt w a n f) (hb : Below w.heap.size w w') : RowAt w' a n f := by
  rcases h with h | ⟨b, off, ha, hc⟩
  · exact .inl h
  · exact .inr ⟨b, off, ha, fun i hi => field_later hb (hc i hi)⟩

/-- A slice of n elements that reads f. -/
def SliceIs (w : World) (n : Nat) (f : Nat → Value) (v : Value) : Prop := ∃ a, v = .slice a n n ∧ RowAt w a n f

/-- 'zzc := make(..); copy(zzc, xs)': what the copy does. -/
theorem copy_step {P : Program} {W w1 : World} {e dT ty n cc : Nat} {ad : Addr} {f : Nat → Value} {xs : List Value} (hu : P.underlying dT = some (.slice e)) (hs : (P.info? e).map (·.size) = some 1) (hone : ∀ i, (f i).oneCell' = true)
    (hR : RowAt W (some ad) n f) (hown : w1.ownsRow W.heap.size e 1 (.slice (some ⟨W.heap.size, 0, none⟩) n n) n xs) (hgrow : W.grownBy w1 none) :
    ∃ cur, (Builtin.copy_ #[dT, dT] ty #[.slice (some ⟨W.heap.size, 0, none⟩) n n, .slice (some ad) n cc]).run P w1 = .ok (goInt n) (w1.setRow W.heap.size cur) ∧
      RowAt (w1.setRow W.heap.size cur) (some ⟨W.heap.size, 0, none⟩) n f ∧ Below W.heap.size W (w1.setRow W.heap.size cur) := by
  obtain ⟨cur, hcur, hcs⟩ := made_block hown
  have hb1 : Below W.heap.size W w1 := (Below.refl _ _).grown hgrow (Nat.le_refl _) (fun k hk => by cases hk)
  have hrun := run_copy_row (P := P) w1 dT dT ty e W.heap.size 0 n n ad n cc cur e (copied n f) hu hs hcur (by rw [copied_length]; exact (Nat.min_self n).symm) (copied_src hR hb1) (by rw [copied_length]; omega) (copied_one hone)
  rw [copied_length] at hrun
  have hr := copied_row (f := f) hcur hcs
  rw [copied_length] at hr
  rw [List.append_assoc] at hrun
  exact ⟨_, hrun, hr, below_setRow hb1 (Nat.le_refl _) _⟩

theorem owns_later {w w' : World} {B e size n : Nat} {v : Value} {xs : List Value} (h : w.ownsRow B e size v n xs) (hb : Below w.heap.size w w') : w'.ownsRow B e size v n xs := by
  refine ⟨h.1, ?_⟩
  rcases h.2 with h2 | ⟨g, cap, cur, hv, hg, hh, r⟩
  · exact Or.inl h2
  · exact Or.inr ⟨g, cap, cur, hv, hg, (hb.block g (Array.getElem?_eq_some_iff.1 hh).1).trans hh, r⟩

theorem info21 : (Try.prog.info? 21).map (fun i => (i.zero, i.size, i.bytes)) = some (some (.int .i32 0), 1, 4) := by kernel_rfl
theorem info28 : (Try.prog.info? 28).map (fun i => (i.zero, i.size, i.bytes)) = some (some (.int .u32 0), 1, 4) := by kernel_rfl
theorem info9 : (Try.prog.info? 9).map (fun i => (i.zero, i.size, i.bytes)) = some (some (.string ⟨#[]⟩), 1, 16) := by kernel_rfl
theorem size21 : (Try.prog.info? 21).map (·.size) = some 1 := by kernel_rfl
theorem size28 : (Try.prog.info? 28).map (·.size) = some 1 := by kernel_rfl
theorem size9 : (Try.prog.info? 9).map (·.size) = some 1 := by kernel_rfl

end Go.Proofs.Qxb6612232a
