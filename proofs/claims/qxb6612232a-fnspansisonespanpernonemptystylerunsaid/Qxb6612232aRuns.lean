/-
  Law 1's plain law: a row's spans, run by run.
-/
import Derived.Test.Qxb6612232aPlain
namespace Go.Proofs.Qxb6612232a
open Go.RowKit

/-- No style change that shows inside the first m cells. -/
def Even (cd sy : Nat → Int) (m : Nat) : Prop := ∀ i, 0 < i → i < m → cd i = -1 ∨ sy i = sy (i - 1)

theorem St_even (cl : Nat → ByteArray) (cd sy : Nat → Int) (m : Nat) (h : Even cd sy m) : ∀ k, k ≤ m → St cl cd sy k = ([], cat cl cd k) := by
  intro k
  induction k with
  | zero => intro _; rfl
  | succ k ih =>
    intro hk
    rw [St, cat, ih (by omega)]
    by_cases h1 : cd k = -1
    · rw [if_pos h1, h1]; simp [txt]
    · rw [if_neg h1, if_neg]
      rintro ⟨h2, h3, _⟩
      rcases h k h2 (by omega) with h4 | h4
      · exact h1 h4
      · exact h3 h4

/-- The span of one run, if its text is not empty. -/
def runSpan (t : List UInt8) (x : Int) : List (List UInt8 × Int) := if t = [] then [] else [(t, x)]

theorem spansOf_even (cl : Nat → ByteArray) (cd sy : Nat → Int) (m : Nat) (h : Even cd sy m) : spansOf cl cd sy m = runSpan (cat cl cd m) (sy (m - 1)) := by
  rw [spansOf, St_even cl cd sy m h m (Nat.le_refl _), fin, runSpan]
  by_cases hc : cat cl cd m = []
  · simp [hc]
  · simp [hc]

/-- A place where a run may begin. -/
def Cut (cd sy : Nat → Int) (s : Nat) : Prop := s = 0 ∨ (cd s ≠ -1 ∧ sy s ≠ sy (s - 1))

theorem spansOf_run (cl : Nat → ByteArray) (cd sy : Nat → Int) (s e : Nat) (hs : Cut cd sy s) (hse : s < e) (h : Even (fun i => cd (s + i)) (fun i => sy (s + i)) (e - s)) :
    spansOf cl cd sy e = spansOf cl cd sy s ++ runSpan (cat cl (fun i => cd (s + i)) (e - s)) (sy (e - 1)) := by
  have h1 := spansOf_even cl _ _ _ h
  simp only [show s + (e - s - 1) = e - 1 by omega] at h1
  rcases Nat.eq_zero_or_pos s with h0 | h0
  · subst h0
    simp only [Nat.zero_add, Nat.sub_zero] at h1 ⊢
    rw [h1]
    rfl
  · rcases hs with h2 | ⟨h2, h3⟩
    · omega
    · rw [spansOf_split cl cd sy s e h0 hse h2 h3, h1]

theorem even_step (cd sy : Nat → Int) (s m : Nat) (hm : 0 < m) (h : Even (fun i => cd (s + i)) (fun i => sy (s + i)) m) (hn : cd (s + m) = -1 ∨ sy (s + m) = sy (s + m - 1)) : Even (fun i => cd (s + i)) (fun i => sy (s + i)) (m + 1) := by
  intro i h1 h2
  by_cases hi : i = m
  · subst hi
    simp only [show s + (i - 1) = s + i - 1 by omega]
    exact hn
  · exact h i h1 (by omega)

theorem even_one (cd sy : Nat → Int) : Even cd sy 1 := fun i h1 h2 => by omega

end Go.Proofs.Qxb6612232a
