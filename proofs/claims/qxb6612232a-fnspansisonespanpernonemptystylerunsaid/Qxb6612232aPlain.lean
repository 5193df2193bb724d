/-
  Plain data and plain laws for the two laws on '(*Screen).spans': no Go text in sight.
-/
import Derived.Lib.RuneBytes
import Derived.Below
namespace Go.Proofs.Qxb6612232a
open Go.RowKit

/-- A style: ten bytes and four bools. -/
structure Sty where
  a0 : Int
  a1 : Int
  a2 : Int
  a3 : Int
  a4 : Int
  a5 : Int
  a6 : Int
  a7 : Int
  a8 : Int
  a9 : Int
  b0 : Bool
  b1 : Bool
  b2 : Bool
  b3 : Bool

def Sty.zero : Sty := ⟨0, 0, 0, 0, 0, 0, 0, 0, 0, 0, false, false, false, false⟩

/-- The style's cells, written out. -/
abbrev Sty.arr (s : Sty) : Array Value :=
  #[.int .u8 s.a0, .int .u8 s.a1, .int .u8 s.a2, .int .u8 s.a3, .int .u8 s.a4, .int .u8 s.a5, .int .u8 s.a6, .int .u8 s.a7, .int .u8 s.a8, .int .u8 s.a9, .bool s.b0, .bool s.b1, .bool s.b2, .bool s.b3]
def Sty.cells (s : Sty) : List Value := s.arr.toList

theorem Sty.cells_length (s : Sty) : s.cells.length = 14 := rfl

/-- The style that a number stands for. -/
def stOf (S : Nat → Sty) (n : Int) : Sty := if n = 0 then Sty.zero else S (n - 1).toNat

/-- What one cell shows. -/
def txt (cl : Nat → ByteArray) (c : Int) : List UInt8 :=
  if c = -1 then [] else if c ≤ -2 then (cl (-2 - c).toNat).data.toList else Lib.encodeRune c

/-- What the first k cells show. -/
def cat (cl : Nat → ByteArray) (cd : Nat → Int) : Nat → List UInt8
  | 0 => []
  | k + 1 => cat cl cd k ++ txt cl (cd k)

/-- The state of 'spans' behind k cells: the line so far, and the builder's bytes. -/
def St (cl : Nat → ByteArray) (cd sy : Nat → Int) : Nat → List (List UInt8 × Int) × List UInt8
  | 0 => ([], [])
  | k + 1 =>
    if cd k = -1 then St cl cd sy k
    else if 0 < k ∧ sy k ≠ sy (k - 1) ∧ (St cl cd sy k).2 ≠ [] then
      ((St cl cd sy k).1 ++ [((St cl cd sy k).2, sy (k - 1))], txt cl (cd k))
    else ((St cl cd sy k).1, (St cl cd sy k).2 ++ txt cl (cd k))

/-- The last flush. -/
def fin (sy : Nat → Int) (n : Nat) (s : List (List UInt8 × Int) × List UInt8) : List (List UInt8 × Int) :=
  if s.2 = [] then s.1 else s.1 ++ [(s.2, sy (n - 1))]

/-- What 'spans' gives. -/
def spansOf (cl : Nat → ByteArray) (cd sy : Nat → Int) (n : Nat) : List (List UInt8 × Int) := fin sy n (St cl cd sy n)

/-- One span's cells. -/
def spanCells (S : Nat → Sty) (p : List UInt8 × Int) : List Value := .string ⟨p.1.toArray⟩ :: (stOf S p.2).cells
def spansCells (S : Nat → Sty) (L : List (List UInt8 × Int)) : List Value := L.flatMap (spanCells S)

theorem spanCells_length (S : Nat → Sty) (p : List UInt8 × Int) : (spanCells S p).length = 15 := rfl
theorem spansCells_length (S : Nat → Sty) (L : List (List UInt8 × Int)) : (spansCells S L).length = L.length * 15 := by
  induction L with
  | nil => rfl
  | cons p L ih => simp only [spansCells, List.flatMap_cons, List.length_append, List.length_cons] at ih ⊢; rw [ih, spanCells_length]; omega
theorem spansCells_append (S : Nat → Sty) (L M : List (List UInt8 × Int)) : spansCells S (L ++ M) = spansCells S L ++ spansCells S M := by
  simp [spansCells]
theorem spansCells_one (S : Nat → Sty) (p : List UInt8 × Int) : spansCells S [p] = spanCells S p := by
  simp [spansCells]

/-! ### Three laws on the state -/
theorem St_text (cl : Nat → ByteArray) (cd sy : Nat → Int) (k : Nat) : (St cl cd sy k).1.flatMap (·.1) ++ (St cl cd sy k).2 = cat cl cd k := by
  induction k with
  | zero => rfl
  | succ k ih =>
    unfold St cat
    by_cases h1 : cd k = -1
    · rw [if_pos h1, ih]; simp [txt, h1]
    · rw [if_neg h1]
      by_cases h2 : 0 < k ∧ sy k ≠ sy (k - 1) ∧ (St cl cd sy k).2 ≠ []
      · rw [if_pos h2, ← ih]; simp
      · rw [if_neg h2, ← ih]; simp

theorem St_len (cl : Nat → ByteArray) (cd sy : Nat → Int) (k : Nat) : (St cl cd sy k).1.length ≤ k := by
  induction k with
  | zero => simp [St]
  | succ k ih =>
    unfold St
    split
    · omega
    · split
      · simp; omega
      · simp; omega

theorem St_buf (cl : Nat → ByteArray) (cd sy : Nat → Int) (k : Nat) : (St cl cd sy k).2.length ≤ (cat cl cd k).length := by
  rw [← St_text cl cd sy k]; simp

theorem St_full (cl : Nat → ByteArray) (cd sy : Nat → Int) (k : Nat) : ∀ p ∈ (St cl cd sy k).1, p.1 ≠ [] := by
  induction k with
  | zero => simp [St]
  | succ k ih =>
    unfold St
    split
    · exact ih
    · split
      · rename_i h2
        intro p hp
        rcases List.mem_append.1 hp with hp | hp
        · exact ih p hp
        · simp at hp; subst hp; exact h2.2.2
      · exact ih

theorem cat_mono (cl : Nat → ByteArray) (cd : Nat → Int) {j k : Nat} (h : j ≤ k) : (cat cl cd j).length ≤ (cat cl cd k).length := by
  induction k with
  | zero => have : j = 0 := by omega
            subst this; exact Nat.le_refl _
  | succ k ih =>
    rcases Nat.lt_or_ge j (k + 1) with h' | h'
    · have := ih (by omega); simp only [cat, List.length_append]; omega
    · have : j = k + 1 := by omega
      subst this; exact Nat.le_refl _

theorem spansOf_full (cl : Nat → ByteArray) (cd sy : Nat → Int) (n : Nat) : ∀ p ∈ spansOf cl cd sy n, p.1 ≠ [] := by
  unfold spansOf fin
  split
  · exact St_full cl cd sy n
  · rename_i h
    intro p hp
    rcases List.mem_append.1 hp with hp | hp
    · exact St_full cl cd sy n p hp
    · simp at hp; subst hp; exact h

theorem spansOf_text (cl : Nat → ByteArray) (cd sy : Nat → Int) (n : Nat) : (spansOf cl cd sy n).flatMap (·.1) = cat cl cd n := by
  rw [← St_text cl cd sy n]
  unfold spansOf fin
  split
  · rename_i h; rw [h]; simp
  · simp

theorem spansOf_len (cl : Nat → ByteArray) (cd sy : Nat → Int) (n : Nat) : (spansOf cl cd sy n).length ≤ n + 1 := by
  have := St_len cl cd sy n
  unfold spansOf fin
  split
  · omega
  · simp; omega

/-! ### The split at a style change -/
theorem St_split (cl : Nat → ByteArray) (cd sy : Nat → Int) (k : Nat) (hk : 0 < k) (hc : cd k ≠ -1) (hs : sy k ≠ sy (k - 1)) (j : Nat) :
    St cl cd sy (k + (j + 1)) = (spansOf cl cd sy k ++ (St cl (fun i => cd (k + i)) (fun i => sy (k + i)) (j + 1)).1, (St cl (fun i => cd (k + i)) (fun i => sy (k + i)) (j + 1)).2) := by
  induction j with
  | zero =>
    show St cl cd sy (k + 1) = _
    unfold St spansOf fin
    simp only [hc, if_false, Nat.add_zero, St]
    by_cases hb : (St cl cd sy k).2 = []
    · simp [hb]
    · simp [hb, hk, hs]
  | succ j ih =>
    show St cl cd sy ((k + (j + 1)) + 1) = _
    rw [St, St, ih]
    simp only
    have e : k + (j + 1) - 1 = k + (j + 1 - 1) := by omega
    by_cases h1 : cd (k + (j + 1)) = -1
    · simp only [h1, if_true]
    · simp only [h1, if_false]
      rw [e]
      by_cases h2 : sy (k + (j + 1)) ≠ sy (k + (j + 1 - 1)) ∧ (St cl (fun i => cd (k + i)) (fun i => sy (k + i)) (j + 1)).2 ≠ []
      · rw [if_pos ⟨by omega, h2⟩, if_pos ⟨by omega, h2⟩]; simp
      · rw [if_neg (fun h => h2 h.2), if_neg (fun h => h2 h.2)]

theorem spansOf_split (cl : Nat → ByteArray) (cd sy : Nat → Int) (k n : Nat) (hk : 0 < k) (hn : k < n) (hc : cd k ≠ -1) (hs : sy k ≠ sy (k - 1)) :
    spansOf cl cd sy n = spansOf cl cd sy k ++ spansOf cl (fun i => cd (k + i)) (fun i => sy (k + i)) (n - k) := by
  obtain ⟨j, hj⟩ : ∃ j, n - k = j + 1 := ⟨n - k - 1, by omega⟩
  have hn' : n = k + (j + 1) := by omega
  subst hn'
  rw [hj]
  have h := St_split cl cd sy k hk hc hs j
  conv => lhs; unfold spansOf fin
  conv => rhs; rhs; unfold spansOf fin
  rw [h]
  simp only
  have e : k + (j + 1) - 1 = k + (j + 1 - 1) := by omega
  rw [e]
  split
  · rfl
  · simp

end Go.Proofs.Qxb6612232a
