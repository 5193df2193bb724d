/-
  Contracts of zzLabelsSize, zzToModel and zzSameLabels.
-/
import Derived.Test.Qxb6612289aKey
import Derived.Deep.QuietTactic
import Derived.BigQuiet
import Derived.Deep.RegionHeld3
import Derived.Deep.DrawnRows
import Derived.Lib.EndianMore
import Derived.Lib.LazyBuf
set_option linter.unusedVariables false
namespace Go.Proofs.Qxb6612289a
open Go.RowKit
attribute [local go_sem ↓] Go.wp_at_zero Go.wp_at_succ

/-- The size's answer: a number and whether it is within the bound. -/
def SizeRet (n : Nat) (e : Ending) : Prop := ∃ (Z : Int) (r : Bool), e = .returned (.tuple #[.int .i64 Z, .bool r]) ∧ 0 ≤ Z ∧ Z ≤ 4000000 ∧ (r = true → n ≤ 65536)

set_option maxHeartbeats 4000000 in
set_option maxRecDepth 100000 in
theorem size_any (a : Option Addr) (n c : Nat) (nm vl : Nat → ByteArray) (w : World) (hm : n ≤ maxLen) (hL : LabelsAt w a n nm vl) (hz : ∀ j, j < n → (nm j).size ≤ 1048576 ∧ (vl j).size ≤ 1048576) :
    Calls Try.prog 8 #[.slice a n c] w fun e w' => SizeRet n e ∧ Below w.heap.size w w' := by
  unfold maxLen at hm
  have HZ := hide hz
  clear hz
  by_cases hn : n ≤ 65536
  case neg =>
    go_enter Try.func8, Try.ntmps8
    go_wp2
    go_ret2
    exact ⟨⟨_, _, rfl, by omega, by omega, fun h => by cases h⟩, Below.refl _ _⟩
  go_enter Try.func8, Try.ntmps8
  go_wp2
  go_loopw [4, 5] (fun z i wr => ∃ k m : Nat, ∃ Z : Int, k ≤ n ∧ i = .int .i64 k ∧ z = .int .i64 Z ∧ 0 ≤ Z ∧ Z ≤ 4000000 ∧ wr = w.drewN m) (fun _ i _ => n - (intOf i).toNat)
  case atStart => exact ⟨0, 0, _, Nat.zero_le _, rfl, rfl, by omega, by omega, rfl⟩
  case round =>
    obtain ⟨k, m, Z, hk, rfl, rfl, hZ0, hZ1, rfl⟩ := hrel
    by_cases hlt : k < n
    · obtain ⟨b, off, rfl, hc⟩ : ∃ b off, a = some ⟨b, off, none⟩ ∧ ∀ i, i < n → w.cell? ⟨b, off + i * 2, none⟩ = some (.string (nm i)) ∧ w.cell? ⟨b, off + i * 2 + 1, none⟩ = some (.string (vl i)) := by
        rcases hL with h | h
        · omega
        · exact h
      obtain ⟨s, Hs⟩ : ∃ s, Hid (nm k = s) := ⟨_, rfl⟩
      obtain ⟨t, Ht⟩ : ∃ t, Hid (vl k = t) := ⟨_, rfl⟩
      have c0 := (hc k hlt).1
      have c1 := (hc k hlt).2
      obtain ⟨hs, ht⟩ := HZ.out k hlt
      rw [Hs.out] at c0 hs
      rw [Ht.out] at c1 ht
      have hlt' : (k : Int) < (n : Int) := by omega
      have hs' : (s.size : Int) ≤ 1048576 := by omega
      have ht' : (t.size : Int) ≤ 1048576 := by omega
      clear hc
      by_cases h4 : Z + (s.size + t.size) ≤ 1048576
      · go_wp2
        go_quiet (fail)
        go_wp2
        go_roundw
        case rel => exact ⟨k + 1, _, Z + (s.size + t.size), by omega, by go_num, rfl, by omega, by omega, rfl⟩
        case measure => simp [intOf]; omega
      · go_wp2
        go_quiet (fail)
        go_wp2
        go_ret2
        exact ⟨⟨_, _, rfl, by omega, by omega, fun h => by cases h⟩, below_drewN (Below.refl _ _) _⟩
    · go_wp2
      go_ret2
      exact ⟨⟨_, _, rfl, hZ0, hZ1, fun _ => hn⟩, below_drewN (Below.refl _ _) _⟩

/-- What zzToModel hands back. -/
def ModelRet (n : Nat) (nm vl : Nat → ByteArray) (e : Ending) (w' : World) : Prop := ∃ a' c', e = .returned (.slice a' n c') ∧ LabelsAt w' a' n nm vl

theorem info42 : (Try.prog.info? 42).map (fun i => (i.zero, i.size, i.bytes)) = some (some (.agg #[.string ⟨#[]⟩, .string ⟨#[]⟩]), 2, 32) := by kernel_rfl

theorem there_of_row {w : World} {base e size g n cap : Nat} {xs : List Value} (h : w.ownsRow base e size (.slice (some ⟨g, 0, none⟩) n cap) n xs) : w.there g 0 (n * size) := fun j hj => by
  rw [Nat.zero_add]
  have h1 := h.cellAt j hj
  rw [h1]
  have : j < xs.length := by rw [h.1]; exact hj
  simp [this, h.frozenAt j]

theorem there2 {w : World} {b n k : Nat} (h : w.there b 0 (n * 2)) (hk : k < n) : (∃ v0, w.cell? ⟨b, k * 2, none⟩ = some v0) ∧ (∃ v1, w.cell? ⟨b, k * 2 + 1, none⟩ = some v1) ∧ w.frozen? ⟨b, k * 2, none⟩ = false ∧ w.frozen? ⟨b, k * 2 + 1, none⟩ = false := by
  have h0 := h (k * 2) (by omega)
  have h1 := h (k * 2 + 1) (by omega)
  rw [Nat.zero_add] at h0 h1
  exact ⟨Option.isSome_iff_exists.1 h0.1, Option.isSome_iff_exists.1 h1.1, h0.2, h1.2⟩

theorem same_of {w w' : World} (h : Below w.heap.size w w') : ∀ j o, j < w.heap.size → w'.cell? ⟨j, o, none⟩ = w.cell? ⟨j, o, none⟩ := fun j o hj => h.cell (p := ⟨j, o, none⟩) hj
theorem same_set {w a : World} (h : ∀ j o, j < w.heap.size → a.cell? ⟨j, o, none⟩ = w.cell? ⟨j, o, none⟩) {p : Addr} (hp : w.heap.size ≤ p.block) (v : Value) :
    ∀ j o, j < w.heap.size → (a.setCell p v).cell? ⟨j, o, none⟩ = w.cell? ⟨j, o, none⟩ :=
  fun j o hj => (((Below.refl w.heap.size a).setCell hp v).cell (p := ⟨j, o, none⟩) hj).trans (h j o hj)

/-- What a round of zzToModel's loop leaves. -/
def RowsAt (b : Nat) (n : Nat) (nm vl : Nat → ByteArray) (k : Nat) (wr : World) : Prop :=
  (∀ i, i < k → wr.cell? ⟨b, i * 2, none⟩ = some (.string (nm i)) ∧ wr.cell? ⟨b, i * 2 + 1, none⟩ = some (.string (vl i))) ∧ wr.there b 0 (n * 2)

theorem rows_step {w wr : World} {b n k : Nat} {nm vl : Nat → ByteArray} {B : Nat} (hB : B ≤ b) (hk : k < n) (h : RowsAt b n nm vl k wr) (hb : Below B w wr) :
    RowsAt b n nm vl (k + 1) ((wr.setCell ⟨b, k * 2, none⟩ (.string (nm k))).setCell ⟨b, k * 2 + 1, none⟩ (.string (vl k))).drew ∧
    Below B w ((wr.setCell ⟨b, k * 2, none⟩ (.string (nm k))).setCell ⟨b, k * 2 + 1, none⟩ (.string (vl k))).drew := by
  obtain ⟨hd, ht⟩ := h
  have e : ((wr.setCell ⟨b, k * 2, none⟩ (.string (nm k))).setCell ⟨b, k * 2 + 1, none⟩ (.string (vl k))) = wr.setCells b (k * 2) [.string (nm k), .string (vl k)] := rfl
  rw [e]
  have hs : (wr.setCells b (k * 2) [.string (nm k), .string (vl k)]).rangeAt b (k * 2) [.string (nm k), .string (vl k)] :=
    World.rangeAt_setCells_same _ _ _ _ (fun j hj => by
      have := ht (k * 2 + j) (by simp at hj; omega)
      rwa [Nat.zero_add] at this)
  refine ⟨⟨fun i hi => ?_, fun j hj => (World.there_setCells ht _ _ _) j hj⟩, (hb.trans (Lib.below_setCells_w hB _ _ _)).drew⟩
  rw [World.cell?_drew, World.cell?_drew]
  by_cases ek : i = k
  · subst ek
    exact ⟨hs 0 _ rfl, hs 1 _ rfl⟩
  · obtain ⟨c0, c1⟩ := hd i (by omega)
    refine ⟨?_, ?_⟩
    · rw [World.cell?_setCells_out b _ _ _ ⟨b, i * 2, none⟩ (fun _ _ => by show i * 2 < k * 2 ∨ k * 2 + 2 ≤ i * 2; omega)]; exact c0
    · rw [World.cell?_setCells_out b _ _ _ ⟨b, i * 2 + 1, none⟩ (fun _ _ => by show i * 2 + 1 < k * 2 ∨ k * 2 + 2 ≤ i * 2 + 1; omega)]; exact c1

set_option maxHeartbeats 4000000 in
set_option maxRecDepth 100000 in
theorem toModel_any (a : Option Addr) (n c : Nat) (nm vl : Nat → ByteArray) (w : World) (hn : n ≤ 65536) (hnil : a = none → n = 0 ∧ c = 0) (hL : LabelsAt w a n nm vl) :
    Calls Try.prog 10 #[.slice a n c] w fun e w' => ModelRet n nm vl e w' ∧ Below w.heap.size w w' := by
  cases a with
  | none =>
    obtain ⟨rfl, rfl⟩ := hnil rfl
    have hq := fun w => run_eql_slice_nil (P := Try.prog) w 22 36 none 0 0 Try.underlying22
    go_enter Try.func10, Try.ntmps10
    go_wp2
    go_ret
    exact ⟨⟨_, _, rfl, .inl rfl⟩, Below.refl _ _⟩
  | some ad =>
    have hq := fun w => run_eql_slice_nil (P := Try.prog) w 22 36 (some ad) n c Try.underlying22
    obtain ⟨i0, hi, hz0, hz1, hz2⟩ := info_parts info42
    go_enter Try.func10, Try.ntmps10
    go_wp2_with (refine wpList_make_full _ rfl (.tmp 8) (.tmp 8) 28 rfl w.heap.size 42 i0 (.agg #[.string ⟨#[]⟩, .string ⟨#[]⟩]) 2 Try.underlying28 hi hz0 hz1 .i64 .i64 n n n rfl rfl rfl rfl (by rw [hz2]; omega) (by unfold maxLen; omega) (Nat.le_refl _) ?_)
    intro w1 hown hgrow
    have hth := there_of_row hown
    have hb1 : Below w.heap.size w w1 := (Below.refl _ _).grown hgrow (Nat.le_refl _) (fun k hk => by cases hk)
    clear hown hgrow hi hz0 hz1 hz2
    go_wp2
    go_loopw [4] (fun i wr => ∃ k : Nat, k ≤ n ∧ i = .int .i64 k ∧ RowsAt w.heap.size n nm vl k wr ∧ Below w.heap.size w wr) (fun i _ => n - (intOf i).toNat)
    case atStart => exact ⟨0, Nat.zero_le _, rfl, ⟨fun j hj => absurd hj (Nat.not_lt_zero _), hth⟩, hb1⟩
    case round =>
      clear hth hb1
      obtain ⟨k, hk, rfl, hrows, hbr⟩ := hrel
      by_cases hlt : k < n
      · obtain ⟨b, off, hab, hc⟩ : ∃ b off, some ad = some ⟨b, off, none⟩ ∧ ∀ i, i < n → w.cell? ⟨b, off + i * 2, none⟩ = some (.string (nm i)) ∧ w.cell? ⟨b, off + i * 2 + 1, none⟩ = some (.string (vl i)) := by
          rcases hL with h | h
          · omega
          · exact h
        cases hab
        have c0 := (hc k hlt).1
        have c1 := (hc k hlt).2
        have hbl : b < w.heap.size := World.block_lt_of_cell? w _ c0
        obtain ⟨⟨v0, d0⟩, ⟨v1, d1⟩, f0, f1⟩ := there2 hrows.2 hlt
        have st := hide (rows_step (Nat.le_refl _) hlt hrows hbr)
        have hlt' : (k : Int) < (n : Int) := by omega
        have hk0 : (0 : Int) ≤ (k : Int) := Int.natCast_nonneg _
        have hsame : ∀ j o, j < w.heap.size → wr.drew.cell? ⟨j, o, none⟩ = w.cell? ⟨j, o, none⟩ := same_of hbr.drew
        have hsame2 : ∀ j o, j < w.heap.size → ((wr.setCell ⟨w.heap.size, k * 2, none⟩ (.string (nm k))).setCell ⟨w.heap.size, k * 2 + 1, none⟩ (.string (vl k))).drew.cell? ⟨j, o, none⟩ = w.cell? ⟨j, o, none⟩ := same_set (same_set (same_of hbr) (Nat.le_refl _) _) (Nat.le_refl _) _
        have HS2 := hide hsame2
        clear hc hrows hsame2
        go_wp2
        go_region_held3 (fun w' => ∀ j o, j < w.heap.size → w'.cell? ⟨j, o, none⟩ = w.cell? ⟨j, o, none⟩) (first | with_reducible exact hsame | with_reducible exact unhide HS2) (fail)
        go_wp2
        go_roundw
        case rel => exact ⟨k + 1, by omega, by go_num, (unhide st).1, (unhide st).2⟩
        case measure => simp [intOf]; omega
      · have hkn : k = n := by omega
        subst hkn
        go_wp2
        go_ret
        exact ⟨⟨_, _, rfl, .inr ⟨w.heap.size, 0, rfl, fun i hi => by rw [Nat.zero_add]; exact hrows.1 i hi⟩⟩, hbr⟩

/-- What zzSameLabels hands back. -/
def SameRet (p : Prop) (e : Ending) : Prop := ∃ r, e = .returned (.bool r) ∧ (r = true ↔ p)
/-- Two label sets are one, label by label. -/
def Alike (n n' : Nat) (nm vl nm' vl' : Nat → ByteArray) : Prop := n = n' ∧ ∀ j, j < n → nm j = nm' j ∧ vl j = vl' j

theorem toList_ne {s t : ByteArray} (h : s ≠ t) : (s.toList == t.toList) = false := by
  rw [ByteArray.toList_eq, ByteArray.toList_eq]
  apply Bool.eq_false_iff.2
  intro e
  exact h (bytes_ext (by simpa using e))

set_option maxHeartbeats 4000000 in
set_option maxRecDepth 100000 in
theorem sameLabels_any (a : Option Addr) (n c : Nat) (nm vl : Nat → ByteArray) (a' : Option Addr) (n' c' : Nat) (nm' vl' : Nat → ByteArray) (w : World) (hn : n ≤ 65536) (hn' : n' ≤ 65536) (hL : LabelsAt w a n nm vl) (hL' : LabelsAt w a' n' nm' vl') :
    Calls Try.prog 14 #[.slice a n c, .slice a' n' c'] w fun e w' => SameRet (Alike n n' nm vl nm' vl') e ∧ Below w.heap.size w w' := by
  by_cases hne : n = n'
  case neg =>
    have hne' : ((n : Int) == (n' : Int)) = false := by simp; omega
    go_enter Try.func14, Try.ntmps14
    go_wp2
    go_ret
    exact ⟨⟨_, rfl, by simp [Alike, hne]⟩, Below.refl _ _⟩
  subst hne
  go_enter Try.func14, Try.ntmps14
  go_wp2
  go_loopw [5] (fun i wr => ∃ k m : Nat, k ≤ n ∧ i = .int .i64 k ∧ wr = w.drewN m ∧ Hid (∀ j, j < k → nm j = nm' j ∧ vl j = vl' j)) (fun i _ => n - (intOf i).toNat)
  case atStart => exact ⟨0, 0, Nat.zero_le _, rfl, rfl, fun j hj => absurd hj (Nat.not_lt_zero _)⟩
  case round =>
    obtain ⟨k, m, hk, rfl, rfl, HJ⟩ := hrel
    by_cases hlt : k < n
    · obtain ⟨b, off, rfl, hc⟩ : ∃ b off, a = some ⟨b, off, none⟩ ∧ ∀ i, i < n → w.cell? ⟨b, off + i * 2, none⟩ = some (.string (nm i)) ∧ w.cell? ⟨b, off + i * 2 + 1, none⟩ = some (.string (vl i)) := by
        rcases hL with h | h
        · omega
        · exact h
      obtain ⟨b', off', rfl, hc'⟩ : ∃ b off, a' = some ⟨b, off, none⟩ ∧ ∀ i, i < n → w.cell? ⟨b, off + i * 2, none⟩ = some (.string (nm' i)) ∧ w.cell? ⟨b, off + i * 2 + 1, none⟩ = some (.string (vl' i)) := by
        rcases hL' with h | h
        · omega
        · exact h
      obtain ⟨s, Hs⟩ : ∃ s, Hid (nm k = s) := ⟨_, rfl⟩
      obtain ⟨t, Ht⟩ : ∃ t, Hid (vl k = t) := ⟨_, rfl⟩
      obtain ⟨s', Hs'⟩ : ∃ s, Hid (nm' k = s) := ⟨_, rfl⟩
      obtain ⟨t', Ht'⟩ : ∃ t, Hid (vl' k = t) := ⟨_, rfl⟩
      have c0 := (hc k hlt).1
      have c1 := (hc k hlt).2
      have c0' := (hc' k hlt).1
      have c1' := (hc' k hlt).2
      rw [Hs.out] at c0
      rw [Ht.out] at c1
      rw [Hs'.out] at c0'
      rw [Ht'.out] at c1'
      have hlt' : (k : Int) < (n : Int) := by omega
      clear hc hc'
      by_cases hss : s = s'
      case neg =>
        have hd := toList_ne hss
        go_wp2
        go_quiet (fail)
        go_wp2
        go_ret
        refine ⟨⟨_, rfl, ?_⟩, below_drewN (below_drewN (Below.refl _ _) _) _⟩
        simp only [Bool.false_eq_true, false_iff]
        intro h
        exact hss (by rw [← Hs.out, ← Hs'.out]; exact (h.2 k hlt).1)
      subst hss
      by_cases htt : t = t'
      case neg =>
        have hd := toList_ne htt
        go_wp2
        go_quiet (fail)
        go_wp2
        go_ret
        refine ⟨⟨_, rfl, ?_⟩, below_drewN (below_drewN (Below.refl _ _) _) _⟩
        simp only [Bool.false_eq_true, false_iff]
        intro h
        exact htt (by rw [← Ht.out, ← Ht'.out]; exact (h.2 k hlt).2)
      subst htt
      have HJ2 : Hid (∀ j, j < k + 1 → nm j = nm' j ∧ vl j = vl' j) := fun j hj => by
        rcases Nat.lt_succ_iff_lt_or_eq.1 hj with h | h
        · exact HJ.out j h
        · subst h
          exact ⟨by rw [Hs.out, Hs'.out], by rw [Ht.out, Ht'.out]⟩
      go_wp2
      go_quiet (fail)
      go_wp2
      go_roundw
      case rel => exact ⟨k + 1, _, by omega, by go_num, rfl, HJ2⟩
      case measure => simp [intOf]; omega
    · go_wp2
      go_ret
      exact ⟨⟨_, rfl, by simp only [true_iff]; exact ⟨rfl, fun j hj => HJ.out j (by omega)⟩⟩, below_drewN (Below.refl _ _) _⟩

end Go.Proofs.Qxb6612289a
