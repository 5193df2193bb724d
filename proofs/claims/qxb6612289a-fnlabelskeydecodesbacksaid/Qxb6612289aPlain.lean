/-
  Plain data and plain laws for the label key: no Go text in sight.
-/
import Derived.Lib.Varint
import Derived.Lib.UnsafeStr
import Derived.Below
namespace Go.Proofs.Qxb6612289a
open Go.RowKit

/-- A text behind its length. -/
def field (s : ByteArray) : List UInt8 := Lib.uvarint s.size ++ s.data.toList
/-- A label's bytes. -/
def item (nm vl : Nat → ByteArray) (i : Nat) : List UInt8 := field (nm i) ++ field (vl i)
/-- The bytes of the first k labels. -/
def body (nm vl : Nat → ByteArray) : Nat → List UInt8
  | 0 => []
  | k + 1 => body nm vl k ++ item nm vl k
/-- The bytes of the labels from i on, m of them. -/
def rest (nm vl : Nat → ByteArray) : Nat → Nat → List UInt8
  | _, 0 => []
  | i, m + 1 => item nm vl i ++ rest nm vl (i + 1) m
/-- The key of n labels. -/
def key (nm vl : Nat → ByteArray) (n : Nat) : List UInt8 := Lib.uvarint n ++ body nm vl n

theorem body_rest (nm vl : Nat → ByteArray) (m : Nat) : ∀ i, body nm vl i ++ rest nm vl i m = body nm vl (i + m) := by
  induction m with
  | zero => intro i; simp [rest]
  | succ m ih =>
    intro i
    have h := ih (i + 1)
    rw [show i + (m + 1) = i + 1 + m by omega, ← h]
    simp [rest, body]
theorem body_all (nm vl : Nat → ByteArray) (n : Nat) : body nm vl n = rest nm vl 0 n := by
  have h := body_rest nm vl n 0
  simp [body] at h
  exact h.symm

theorem toUInt8_inj {a b : Nat} (ha : a < 256) (hb : b < 256) (h : a.toUInt8 = b.toUInt8) : a = b := by
  have h1 := congrArg UInt8.toNat h
  simp at h1
  omega

/-- A varint is known by its bytes, whatever follows. -/
theorem uvarint_split : ∀ (m x y : Nat) (r s : List UInt8), x ≤ m → Lib.uvarint x ++ r = Lib.uvarint y ++ s → x = y ∧ r = s := by
  intro m
  induction m with
  | zero =>
    intro x y r s hx h
    have : x = 0 := by omega
    subst this
    rw [Lib.uvarint_small (by omega)] at h
    by_cases hy : y < 128
    · rw [Lib.uvarint_small hy] at h
      simp only [List.cons_append, List.nil_append, List.cons.injEq] at h
      exact ⟨toUInt8_inj (by omega) (by omega) h.1, h.2⟩
    · rw [Lib.uvarint_big (by omega)] at h
      simp only [List.cons_append, List.nil_append, List.cons.injEq] at h
      have := toUInt8_inj (by omega) (by omega) h.1
      omega
  | succ m ih =>
    intro x y r s hx h
    by_cases hx1 : x < 128
    · rw [Lib.uvarint_small hx1] at h
      by_cases hy : y < 128
      · rw [Lib.uvarint_small hy] at h
        simp only [List.cons_append, List.nil_append, List.cons.injEq] at h
        exact ⟨toUInt8_inj (by omega) (by omega) h.1, h.2⟩
      · rw [Lib.uvarint_big (by omega)] at h
        simp only [List.cons_append, List.nil_append, List.cons.injEq] at h
        have := toUInt8_inj (by omega) (by omega) h.1
        omega
    · rw [Lib.uvarint_big (by omega)] at h
      by_cases hy : y < 128
      · rw [Lib.uvarint_small hy] at h
        simp only [List.cons_append, List.nil_append, List.cons.injEq] at h
        have := toUInt8_inj (by omega) (by omega) h.1
        omega
      · rw [Lib.uvarint_big (x := y) (by omega)] at h
        simp only [List.cons_append, List.cons.injEq] at h
        have h1 := toUInt8_inj (by omega) (by omega) h.1
        obtain ⟨h2, h3⟩ := ih (x / 128) (y / 128) r s (by omega) h.2
        exact ⟨by omega, h3⟩

theorem size_list (s : ByteArray) : s.data.toList.length = s.size := Array.length_toList (xs := s.data)

theorem bytes_ext {s t : ByteArray} (h : s.data.toList = t.data.toList) : s = t := by
  cases s with | mk s => cases t with | mk t => simp at h; rw [h]

theorem field_split (s t : ByteArray) (r q : List UInt8) (h : field s ++ r = field t ++ q) : s = t ∧ r = q := by
  unfold field at h
  rw [List.append_assoc, List.append_assoc] at h
  obtain ⟨h1, h2⟩ := uvarint_split s.size s.size t.size _ _ (Nat.le_refl _) h
  obtain ⟨h3, h4⟩ := List.append_inj h2 (by rw [size_list, size_list, h1])
  exact ⟨bytes_ext h3, h4⟩

theorem rest_inj (nm vl nm' vl' : Nat → ByteArray) (m : Nat) : ∀ i, rest nm vl i m = rest nm' vl' i m → ∀ j, i ≤ j → j < i + m → nm j = nm' j ∧ vl j = vl' j := by
  induction m with
  | zero => intro i _ j h1 h2; omega
  | succ m ih =>
    intro i h j h1 h2
    simp only [rest, item, List.append_assoc] at h
    obtain ⟨e1, h'⟩ := field_split _ _ _ _ h
    obtain ⟨e2, h''⟩ := field_split _ _ _ _ h'
    by_cases hj : j = i
    · subst hj; exact ⟨e1, e2⟩
    · exact ih (i + 1) h'' j (by omega) (by omega)

theorem key_inj (nm vl nm' vl' : Nat → ByteArray) (n n' : Nat) (h : key nm vl n = key nm' vl' n') : n = n' ∧ ∀ j, j < n → nm j = nm' j ∧ vl j = vl' j := by
  unfold key at h
  obtain ⟨h1, h2⟩ := uvarint_split n n n' _ _ (Nat.le_refl _) h
  subst h1
  refine ⟨rfl, fun j hj => ?_⟩
  rw [body_all, body_all] at h2
  exact rest_inj nm vl nm' vl' n 0 h2 j (by omega) (by omega)

theorem body_congr (nm vl nm' vl' : Nat → ByteArray) (n : Nat) (h : ∀ j, j < n → nm j = nm' j ∧ vl j = vl' j) : body nm vl n = body nm' vl' n := by
  induction n with
  | zero => rfl
  | succ n ih =>
    have h1 := h n (by omega)
    simp only [body, item, ih (fun j hj => h j (by omega)), h1.1, h1.2]

theorem key_iff (nm vl nm' vl' : Nat → ByteArray) (n n' : Nat) : key nm vl n = key nm' vl' n' ↔ n = n' ∧ ∀ j, j < n → nm j = nm' j ∧ vl j = vl' j := by
  refine ⟨key_inj nm vl nm' vl' n n', fun ⟨h1, h2⟩ => ?_⟩
  subst h1
  unfold key
  rw [body_congr nm vl nm' vl' n h2]

theorem field_length (s : ByteArray) (h : s.size ≤ 1048576) : (field s).length ≤ 1048586 := by
  have := Lib.uvarint_length64 (x := s.size) (by omega)
  simp only [field, List.length_append, size_list]
  omega

theorem body_length (nm vl : Nat → ByteArray) (n : Nat) (h : ∀ j, j < n → (nm j).size ≤ 1048576 ∧ (vl j).size ≤ 1048576) : (body nm vl n).length ≤ n * 2097172 := by
  induction n with
  | zero => simp [body]
  | succ n ih =>
    have h1 := h n (by omega)
    have h2 := field_length (nm n) h1.1
    have h3 := field_length (vl n) h1.2
    have h4 := ih (fun j hj => h j (by omega))
    simp only [body, item, List.length_append]
    omega

end Go.Proofs.Qxb6612289a
