/-
  The laws' arguments, opened.
-/
import Derived.Test.Qxb6612232aCame
import Derived.Deep.Slices
import Derived.SliceStrings
import Derived.ChangeSlices
set_option linter.unusedVariables false
namespace Go.Proofs.Qxb6612232a
open Go.RowKit Go.ChangeShapes Go.WideShapes

theorem cells60 : Try.prog.cellsOf 60 = 14 := by kernel_rfl
theorem cells58 : Try.prog.cellsOf 58 = 5 := by kernel_rfl
theorem cells5 : Try.prog.cellsOf 5 = 1 := by kernel_rfl
theorem cells4 : Try.prog.cellsOf 4 = 1 := by kernel_rfl
theorem cells9 : Try.prog.cellsOf 9 = 1 := by kernel_rfl
theorem cells21 : Try.prog.cellsOf 21 = 1 := by kernel_rfl
theorem cells28 : Try.prog.cellsOf 28 = 1 := by kernel_rfl

instance : Inhabited Sty := ⟨Sty.zero⟩

theorem wf_i32 {n : Int} (h : (Lit.int .i32 n).wf = true) : -2147483648 ≤ n ∧ n ≤ 2147483647 := by
  simp only [Lit.wf, Bool.and_eq_true, decide_eq_true_eq] at h
  obtain ⟨h1, h2⟩ := h
  have e1 : IntKind.i32.min = -2147483648 := by decide
  have e2 : IntKind.i32.max = 2147483647 := by decide
  omega
theorem wf_i64 {n : Int} (h : (Lit.int .i64 n).wf = true) : -9223372036854775808 ≤ n ∧ n ≤ 9223372036854775807 := by
  simp only [Lit.wf, Bool.and_eq_true, decide_eq_true_eq] at h
  obtain ⟨h1, h2⟩ := h
  have e1 : IntKind.i64.min = -9223372036854775808 := by decide
  have e2 : IntKind.i64.max = 9223372036854775807 := by decide
  omega
theorem wf_u32 {n : Int} (h : (Lit.int .u32 n).wf = true) : 0 ≤ n ∧ n ≤ 4294967295 := by
  simp only [Lit.wf, Bool.and_eq_true, decide_eq_true_eq] at h
  obtain ⟨h1, h2⟩ := h
  have e1 : IntKind.u32.min = 0 := by decide
  have e2 : IntKind.u32.max = 4294967295 := by decide
  omega

section
variable {H : Type} {enc : TypeId × Value → H} {W : World} {base : Nat} {spare : Nat → Bool} {held : Bool}

theorem open_ints_at {t e : TypeId} {k : IntKind} {fuel : Nat} {a : Option Addr} {n c : Nat} {x : DataW H × List MemPlace} (ht : Try.prog.underlying t = some (.slice e)) (he : Try.prog.underlying e = some (.int k)) (hc : Try.prog.cellsOf e = 1)
    (h : DataW.trod enc Try.prog W base spare held fuel t [.slice a n c] = some x) :
    ∃ f : Nat → Int, n ≤ maxLen ∧ (a = none → n = 0 ∧ c = 0) ∧ IntsAt k W a n f ∧ ∀ i, i < n → (Lit.int k (f i)).wf = true := by
  rcases open_ints ht he hc h with ⟨hcs, _⟩ | ⟨ad, len, cap, zs, hcs, hb, hl, hm, hlen, _, hcell, hwf⟩
  · simp at hcs
    obtain ⟨rfl, rfl, rfl⟩ := hcs
    exact ⟨fun _ => 0, Nat.zero_le _, fun _ => ⟨rfl, rfl⟩, .inl rfl, fun i hi => absurd hi (Nat.not_lt_zero _)⟩
  · simp at hcs
    obtain ⟨rfl, rfl, rfl⟩ := hcs
    have hnm : n ≤ zs.length := by rw [hlen]; split <;> omega
    refine ⟨fun i => zs.getD i 0, by omega, (fun h => absurd h (by simp)), ?_, fun i hi => hwf _ ?_⟩
    · by_cases h0 : n = 0
      · exact .inl h0
      · obtain ⟨b, off, spot⟩ := ad
        have hspot : spot = none := by simpa [Addr.add] using World.cell?_spot (hcell 0 (by omega))
        subst hspot
        refine .inr ⟨b, off, rfl, fun i hi => ?_⟩
        have := hcell i (by omega)
        rw [Addr.add_mid] at this
        exact this
    · show zs.getD i 0 ∈ zs
      rw [List.getD_eq_getElem?_getD, List.getElem?_eq_getElem (by omega)]
      exact List.getElem_mem _

theorem open_strs_at {fuel : Nat} {a : Option Addr} {n c : Nat} {x : DataW H × List MemPlace}
    (h : DataW.trod enc Try.prog W base spare held fuel 25 [.slice a n c] = some x) :
    ∃ f : Nat → ByteArray, n ≤ maxLen ∧ (a = none → n = 0 ∧ c = 0) ∧ StrsAt W a n f := by
  rcases open_strings Try.underlying25 Try.underlying9 cells9 h with ⟨hcs, _⟩ | ⟨ad, len, cap, zs, hcs, hb, hl, hm, hlen, _, hcell, hwf⟩
  · simp at hcs
    obtain ⟨rfl, rfl, rfl⟩ := hcs
    exact ⟨fun _ => ByteArray.empty, Nat.zero_le _, fun _ => ⟨rfl, rfl⟩, .inl rfl⟩
  · simp at hcs
    obtain ⟨rfl, rfl, rfl⟩ := hcs
    have hnm : n ≤ zs.length := by rw [hlen]; split <;> omega
    refine ⟨fun i => zs.getD i ByteArray.empty, by omega, (fun h => absurd h (by simp)), ?_⟩
    by_cases h0 : n = 0
    · exact .inl h0
    · obtain ⟨b, off, spot⟩ := ad
      have hspot : spot = none := by simpa [Addr.add] using World.cell?_spot (hcell 0 (by omega))
      subst hspot
      refine .inr ⟨b, off, rfl, fun i hi => ?_⟩
      have := hcell i (by omega)
      rw [Addr.add_mid] at this
      exact this

theorem open_color {fuel : Nat} {c0 c1 c2 c3 c4 : Value} {x : DataW H × List MemPlace} (h : DataW.trod enc Try.prog W base spare held fuel 58 [c0, c1, c2, c3, c4] = some x) :
    ∃ n0 n1 n2 n3 n4 : Int, c0 = .int .u8 n0 ∧ c1 = .int .u8 n1 ∧ c2 = .int .u8 n2 ∧ c3 = .int .u8 n3 ∧ c4 = .int .u8 n4 := by
  obtain ⟨xs, n, _, _, hl, hlen, hf⟩ := DataW.trod_struct Try.underlying58 h
  have one : ∀ (i : Nat) (hi : i < xs.length) (c : Value), DataW.trod enc Try.prog W base spare held n 5 [c] = xs[i]? → ∃ m, c = .int .u8 m := by
    intro i hi c hc
    rw [List.getElem?_eq_getElem hi] at hc
    obtain ⟨m, hm, _⟩ := DataW.trod_int Try.underlying5 hc
    simp at hm
    exact ⟨m, hm⟩
  have h5 : xs.length = 5 := by rw [hlen]; rfl
  have e0 := hf 0 _ rfl
  have e1 := hf 1 _ rfl
  have e2 := hf 2 _ rfl
  have e3 := hf 3 _ rfl
  have e4 := hf 4 _ rfl
  simp [cells5] at e0 e1 e2 e3 e4
  obtain ⟨n0, r0⟩ := one 0 (by omega) c0 e0
  obtain ⟨n1, r1⟩ := one 1 (by omega) c1 e1
  obtain ⟨n2, r2⟩ := one 2 (by omega) c2 e2
  obtain ⟨n3, r3⟩ := one 3 (by omega) c3 e3
  obtain ⟨n4, r4⟩ := one 4 (by omega) c4 e4
  exact ⟨n0, n1, n2, n3, n4, r0, r1, r2, r3, r4⟩

set_option maxRecDepth 100000 in
theorem open_style {fuel : Nat} {cs : List Value} {x : DataW H × List MemPlace} (hc : cs.length = 14) (h : DataW.trod enc Try.prog W base spare held fuel 60 cs = some x) : ∃ s : Sty, cs = s.cells := by
  obtain ⟨xs, n, _, _, hl, hlen, hf⟩ := DataW.trod_struct Try.underlying60 h
  have h6 : xs.length = 6 := by rw [hlen]; rfl
  match cs, hc with
  | [c0, c1, c2, c3, c4, c5, c6, c7, c8, c9, c10, c11, c12, c13], _ =>
    have e0 := hf 0 _ rfl
    have e1 := hf 1 _ rfl
    have e2 := hf 2 _ rfl
    have e3 := hf 3 _ rfl
    have e4 := hf 4 _ rfl
    have e5 := hf 5 _ rfl
    simp [cells58, cells4] at e0 e1 e2 e3 e4 e5
    rw [List.getElem?_eq_getElem (by omega)] at e0 e1 e2 e3 e4 e5
    obtain ⟨a0, a1, a2, a3, a4, rfl, rfl, rfl, rfl, rfl⟩ := open_color e0
    obtain ⟨a5, a6, a7, a8, a9, rfl, rfl, rfl, rfl, rfl⟩ := open_color e1
    obtain ⟨b0, r0, _⟩ := DataW.trod_bool Try.underlying4 e2
    obtain ⟨b1, r1, _⟩ := DataW.trod_bool Try.underlying4 e3
    obtain ⟨b2, r2, _⟩ := DataW.trod_bool Try.underlying4 e4
    obtain ⟨b3, r3, _⟩ := DataW.trod_bool Try.underlying4 e5
    simp at r0 r1 r2 r3
    subst r0 r1 r2 r3
    exact ⟨⟨a0, a1, a2, a3, a4, a5, a6, a7, a8, a9, b0, b1, b2, b3⟩, rfl⟩

theorem open_styles {fuel : Nat} {a : Option Addr} {n c : Nat} {x : DataW H × List MemPlace}
    (hf : DataW.trod enc Try.prog W base spare held fuel 24 [.slice a n c] = some x) : ∃ S : Nat → Sty, n ≤ maxLen ∧ (a = none → n = 0 ∧ c = 0) ∧ StylesAt W a n S := by
  rcases Go.Deep.open_slice Try.underlying24 hf with ⟨hcs, _⟩ | ⟨ad, len, cap, m, k, D, Pl, hcs, hb, hl, hm, hmm, _, hx⟩
  · simp at hcs
    obtain ⟨rfl, rfl, rfl⟩ := hcs
    exact ⟨fun _ => Sty.zero, Nat.zero_le _, fun _ => ⟨rfl, rfl⟩, .inl rfl⟩
  · simp at hcs
    obtain ⟨rfl, rfl, rfl⟩ := hcs
    have hnm : n ≤ m := by rw [hmm]; split <;> omega
    have one : ∀ i, i < n → ∃ s : Sty, ∀ j v, s.cells[j]? = some v → W.cell? (ad.add (i * 14 + j)) = some v := by
      intro i hi
      obtain ⟨cs', h1, h2⟩ := hx i (by omega)
      rw [cells60] at h1
      obtain ⟨_, hlen, hcell⟩ := World.cells?_some h1
      obtain ⟨s, rfl⟩ := open_style hlen h2
      refine ⟨s, fun j v hj => ?_⟩
      have hj14 : j < 14 := by have := (List.getElem?_eq_some_iff.1 hj).1; rwa [Sty.cells_length] at this
      have e := hcell j (by omega)
      rw [Go.Deep.add_add] at e
      rw [← hj, ← e]
    obtain ⟨f, hfc⟩ := Go.Deep.choose_lt (α := Sty) one
    refine ⟨f, by omega, (fun h => absurd h (by simp)), ?_⟩
    by_cases h0 : n = 0
    · exact .inl h0
    · obtain ⟨b, off, spot⟩ := ad
      have hspot : spot = none := by simpa [Addr.add] using World.cell?_spot (hfc 0 (by omega) 0 _ rfl)
      subst hspot
      refine .inr ⟨b, off, rfl, fun i hi j v hv => ?_⟩
      have := hfc i hi j v hv
      rw [Addr.add_mid] at this
      rw [Nat.add_assoc]
      exact this
end

end Go.Proofs.Qxb6612232a
