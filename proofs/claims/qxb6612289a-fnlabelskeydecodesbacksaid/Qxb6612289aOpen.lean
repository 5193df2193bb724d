/-
  A slice of labels that came in, opened.
-/
import Derived.Test.Qxb6612289aKey
import Derived.Deep.Slices
set_option linter.unusedVariables false
namespace Go.Proofs.Qxb6612289a
open Go.RowKit Go.ChangeShapes Go.WideShapes

/-- What the law is told of a label set that came in. -/
structure Came (w : World) (a : Option Addr) (n c : Nat) (nm vl : Nat → ByteArray) : Prop where
  hm : n ≤ maxLen
  hz : a = none → n = 0 ∧ c = 0
  hL : LabelsAt w a n nm vl


theorem cells36 : Try.prog.cellsOf 36 = 2 := by kernel_rfl
theorem cells9 : Try.prog.cellsOf 9 = 1 := by kernel_rfl

theorem open_labels {H : Type} {enc : TypeId × Value → H} {W : World} {base : Nat} {spare : Nat → Bool} {held : Bool} {fuel : Nat} {a : Option Addr} {n c : Nat} {x : DataW H × List MemPlace}
    (hf : DataW.trod enc Try.prog W base spare held fuel 22 [.slice a n c] = some x) : ∃ nm vl, Came W a n c nm vl := by
  rcases Go.Deep.open_slice Try.underlying22 hf with ⟨hcs, _⟩ | ⟨ad, len, cap, m, k, D, Pl, hcs, hb, hl, hm, hmm, _, hx⟩
  · simp at hcs
    obtain ⟨rfl, rfl, rfl⟩ := hcs
    exact ⟨fun _ => ByteArray.empty, fun _ => ByteArray.empty, ⟨Nat.zero_le _, fun _ => ⟨rfl, rfl⟩, .inl rfl⟩⟩
  · simp at hcs
    obtain ⟨rfl, rfl, rfl⟩ := hcs
    have hnm : n ≤ m := by rw [hmm]; split <;> omega
    have one : ∀ i, i < n → ∃ st : ByteArray × ByteArray, W.cell? (ad.add (i * 2)) = some (.string st.1) ∧ W.cell? (ad.add (i * 2 + 1)) = some (.string st.2) := by
      intro i hi
      obtain ⟨cs', h1, h2⟩ := hx i (by omega)
      rw [cells36] at h1
      obtain ⟨_, hlen, hcell⟩ := World.cells?_some h1
      obtain ⟨y0, y1, k', _, _, hy0, hy1⟩ := trod_struct2 Try.underlying36 h2
      match cs', hlen with
      | [u, v], _ =>
        have e0 := hcell 0 (by omega)
        have e1 := hcell 1 (by omega)
        rw [Go.Deep.add_add] at e0 e1
        simp [cells9] at hy0 hy1
        obtain ⟨s, es, _⟩ := DataW.trod_string Try.underlying9 hy0
        obtain ⟨t, et, _⟩ := DataW.trod_string Try.underlying9 hy1
        simp at es et
        subst es et
        exact ⟨(s, t), by simpa using e0, by simpa using e1⟩
    obtain ⟨f, hfc⟩ := Go.Deep.choose_lt (α := ByteArray × ByteArray) one
    refine ⟨fun i => (f i).1, fun i => (f i).2, ⟨by omega, (fun h => absurd h (by simp)), ?_⟩⟩
    by_cases h0 : n = 0
    · exact .inl h0
    · obtain ⟨b, off, spot⟩ := ad
      have hspot : spot = none := by simpa [Addr.add] using World.cell?_spot (hfc 0 (by omega)).1
      subst hspot
      refine .inr ⟨b, off, rfl, fun i hi => ?_⟩
      have := hfc i hi
      rw [Addr.add_mid, Addr.add_mid] at this
      exact ⟨this.1, by rw [Nat.add_assoc]; exact this.2⟩

end Go.Proofs.Qxb6612289a
