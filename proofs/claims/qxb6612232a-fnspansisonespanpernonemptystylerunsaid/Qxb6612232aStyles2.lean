/-
  The contract of zzToStyles at this dump.
-/
import Derived.Test.Qxb6612232aStyles
import Derived.WalkSpells
import Derived.Lib.LazyBuf
import Derived.Lib.EndianMore
import Derived.Deep.LoopGhost
set_option linter.unusedVariables false
namespace Go.Proofs.Qxb6612232a
open Go.RowKit
attribute [local go_sem ↓] Go.wp_at_zero Go.wp_at_succ

theorem info40 : (Try.prog.info? 40).map (fun i => (i.zero, i.size, i.bytes)) = some (some (.agg Sty.zero.arr), 14, 14) := by kernel_rfl

/-- What zzToStyles hands back: a slice that holds the same styles. -/
def StylesRet (n : Nat) (S : Nat → Sty) (e : Ending) (w' : World) : Prop := ∃ a' c', e = .returned (.slice a' n c') ∧ StylesAt w' a' n S

theorem there_of_owns {w : World} {base e size g n cap : Nat} {xs : List Value} (h : w.ownsRow base e size (.slice (some ⟨g, 0, none⟩) n cap) n xs) : w.there g 0 (n * size) := fun j hj => by
  rw [Nat.zero_add]
  have h1 := h.cellAt j hj
  rw [h1]
  have : j < xs.length := by rw [h.1]; exact hj
  simp [this, h.frozenAt j]

theorem there_part {w : World} {g m o n : Nat} (h : w.there g 0 m) (hle : o + n ≤ m) : w.there g o n := fun j hj => by
  have := h (o + j) (by omega)
  rwa [Nat.zero_add] at this

theorem keepS {w a b : World} {n : Nat} (bb : Below n a b) (h : w.heap.size < a.heap.size ∧ ∀ j o, j < w.heap.size → a.cell? ⟨j, o, none⟩ = w.cell? ⟨j, o, none⟩) (hn : n = a.heap.size) :
    w.heap.size < b.heap.size ∧ ∀ j o, j < w.heap.size → b.cell? ⟨j, o, none⟩ = w.cell? ⟨j, o, none⟩ :=
  ⟨by have := bb.size; omega, fun j o hj => (bb.cell (p := ⟨j, o, none⟩) (by show j < n; omega)).trans (h.2 j o hj)⟩

theorem keepSet {w a : World} (h : w.heap.size < a.heap.size ∧ ∀ j o, j < w.heap.size → a.cell? ⟨j, o, none⟩ = w.cell? ⟨j, o, none⟩) {p : Addr} (hp : w.heap.size ≤ p.block) (v : Value) :
    w.heap.size < (a.setCell p v).heap.size ∧ ∀ j o, j < w.heap.size → (a.setCell p v).cell? ⟨j, o, none⟩ = w.cell? ⟨j, o, none⟩ :=
  ⟨by simpa [World.setCell] using h.1, fun j o hj => (((Below.refl w.heap.size a).setCell hp v).cell (p := ⟨j, o, none⟩) hj).trans (h.2 j o hj)⟩

theorem below_step {B n : Nat} {a b c : World} (h : Below B a b) (bb : Below n b c) (hn : B ≤ n) : Below B a c := h.trans (bb.mono hn)

/-- Fourteen cells that lie there and may be written. -/
def Dest (b o : Nat) (v0 v1 v2 v3 v4 v5 v6 v7 v8 v9 v10 v11 v12 v13 : Value) (w : World) : Prop := (w.cell? ⟨b, o, none⟩ = some v0 ∧ w.cell? ⟨b, o + 1, none⟩ = some v1 ∧ w.cell? ⟨b, o + 2, none⟩ = some v2 ∧ w.cell? ⟨b, o + 3, none⟩ = some v3 ∧ w.cell? ⟨b, o + 4, none⟩ = some v4 ∧ w.cell? ⟨b, o + 5, none⟩ = some v5 ∧ w.cell? ⟨b, o + 6, none⟩ = some v6 ∧ w.cell? ⟨b, o + 7, none⟩ = some v7 ∧ w.cell? ⟨b, o + 8, none⟩ = some v8 ∧ w.cell? ⟨b, o + 9, none⟩ = some v9 ∧ w.cell? ⟨b, o + 10, none⟩ = some v10 ∧ w.cell? ⟨b, o + 11, none⟩ = some v11 ∧ w.cell? ⟨b, o + 12, none⟩ = some v12 ∧ w.cell? ⟨b, o + 13, none⟩ = some v13) ∧ (w.frozen? ⟨b, o, none⟩ = false ∧ w.frozen? ⟨b, o + 1, none⟩ = false ∧ w.frozen? ⟨b, o + 2, none⟩ = false ∧ w.frozen? ⟨b, o + 3, none⟩ = false ∧ w.frozen? ⟨b, o + 4, none⟩ = false ∧ w.frozen? ⟨b, o + 5, none⟩ = false ∧ w.frozen? ⟨b, o + 6, none⟩ = false ∧ w.frozen? ⟨b, o + 7, none⟩ = false ∧ w.frozen? ⟨b, o + 8, none⟩ = false ∧ w.frozen? ⟨b, o + 9, none⟩ = false ∧ w.frozen? ⟨b, o + 10, none⟩ = false ∧ w.frozen? ⟨b, o + 11, none⟩ = false ∧ w.frozen? ⟨b, o + 12, none⟩ = false ∧ w.frozen? ⟨b, o + 13, none⟩ = false)

theorem Dest.later {b o : Nat} {v0 v1 v2 v3 v4 v5 v6 v7 v8 v9 v10 v11 v12 v13 : Value} {a w : World} {n : Nat} (bb : Below n a w) (h : Dest b o v0 v1 v2 v3 v4 v5 v6 v7 v8 v9 v10 v11 v12 v13 a) (hn : b < n) : Dest b o v0 v1 v2 v3 v4 v5 v6 v7 v8 v9 v10 v11 v12 v13 w := by
  have hc : ∀ j, w.cell? ⟨b, j, none⟩ = a.cell? ⟨b, j, none⟩ := fun j => bb.cell (p := ⟨b, j, none⟩) hn
  have hf : ∀ j, w.frozen? ⟨b, j, none⟩ = a.frozen? ⟨b, j, none⟩ := fun j => bb.frozen (p := ⟨b, j, none⟩) hn
  unfold Dest at h ⊢
  simp only [hc, hf]
  exact h

theorem there14 {w : World} {b o : Nat} (h : w.there b o 14) : ∃ v0 v1 v2 v3 v4 v5 v6 v7 v8 v9 v10 v11 v12 v13 : Value, Dest b o v0 v1 v2 v3 v4 v5 v6 v7 v8 v9 v10 v11 v12 v13 w := by
  have g : ∀ j, j < 14 → ∃ v, w.cell? ⟨b, o + j, none⟩ = some v := fun j hj => Option.isSome_iff_exists.1 (h j hj).1
  obtain ⟨v0, h0⟩ := g 0 (by omega)
  obtain ⟨v1, h1⟩ := g 1 (by omega)
  obtain ⟨v2, h2⟩ := g 2 (by omega)
  obtain ⟨v3, h3⟩ := g 3 (by omega)
  obtain ⟨v4, h4⟩ := g 4 (by omega)
  obtain ⟨v5, h5⟩ := g 5 (by omega)
  obtain ⟨v6, h6⟩ := g 6 (by omega)
  obtain ⟨v7, h7⟩ := g 7 (by omega)
  obtain ⟨v8, h8⟩ := g 8 (by omega)
  obtain ⟨v9, h9⟩ := g 9 (by omega)
  obtain ⟨v10, h10⟩ := g 10 (by omega)
  obtain ⟨v11, h11⟩ := g 11 (by omega)
  obtain ⟨v12, h12⟩ := g 12 (by omega)
  obtain ⟨v13, h13⟩ := g 13 (by omega)
  exact ⟨v0, v1, v2, v3, v4, v5, v6, v7, v8, v9, v10, v11, v12, v13, ⟨h0, h1, h2, h3, h4, h5, h6, h7, h8, h9, h10, h11, h12, h13⟩, ⟨(h 0 (by omega)).2, (h 1 (by omega)).2, (h 2 (by omega)).2, (h 3 (by omega)).2, (h 4 (by omega)).2, (h 5 (by omega)).2, (h 6 (by omega)).2, (h 7 (by omega)).2, (h 8 (by omega)).2, (h 9 (by omega)).2, (h 10 (by omega)).2, (h 11 (by omega)).2, (h 12 (by omega)).2, (h 13 (by omega)).2⟩⟩

/-- What a round does to the loop's relation. -/
theorem styles_step {w wr wx : World} {n k : Nat} {S : Nat → Sty} (hk : k < n) (hd : ∀ j, j < k → wr.rangeAt w.heap.size (j * 14) (S j).cells) (ht : wr.there w.heap.size 0 (n * 14)) (hb : Below w.heap.size w wr)
    (hx : Below (w.heap.size + 1) wr wx) :
    (∀ j, j < k + 1 → (wx.setCells w.heap.size (k * 14) (S k).cells).rangeAt w.heap.size (j * 14) (S j).cells) ∧ (wx.setCells w.heap.size (k * 14) (S k).cells).there w.heap.size 0 (n * 14) ∧ Below w.heap.size w (wx.setCells w.heap.size (k * 14) (S k).cells) := by
  have htx : wx.there w.heap.size 0 (n * 14) := fun j hj => by
    rw [hx.cell (p := ⟨w.heap.size, 0 + j, none⟩) (Nat.lt_succ_self _), hx.frozen (p := ⟨w.heap.size, 0 + j, none⟩) (Nat.lt_succ_self _)]
    exact ht j hj
  refine ⟨fun j hj => ?_, World.there_setCells htx _ _ _, (hb.trans (hx.mono (Nat.le_succ _))).trans ?_⟩
  · by_cases e : j = k
    · subst e
      exact World.rangeAt_setCells_same _ _ _ _ (there_part htx (by rw [Sty.cells_length]; omega))
    · refine World.rangeAt_setCells_apart (rangeAt_below (hd j (by omega)) hx (Nat.lt_succ_self _)) _ _ _ (Or.inr (Or.inl ?_))
      rw [Sty.cells_length]; omega
  · exact Lib.below_setCells_w (Nat.le_refl _) _ _ _

set_option maxHeartbeats 4000000 in
set_option maxRecDepth 100000 in
theorem toStyles_any (a : Option Addr) (n c : Nat) (S : Nat → Sty) (w : World) (hn : n ≤ 65536) (hnil : a = none → n = 0 ∧ c = 0) (hS : StylesAt w a n S) :
    Calls Try.prog 8 #[.slice a n c] w fun e w' => StylesRet n S e w' ∧ Below w.heap.size w w' := by
  cases a with
  | none =>
    obtain ⟨rfl, rfl⟩ := hnil rfl
    have hq := fun w => run_eql_slice_nil (P := Try.prog) w 24 60 none 0 0 Try.underlying24
    go_enter Try.func8, Try.ntmps8
    go_wp2
    go_ret
    exact ⟨⟨_, _, rfl, .inl rfl⟩, Below.refl _ _⟩
  | some ad =>
    have hq := fun w => run_eql_slice_nil (P := Try.prog) w 24 60 (some ad) n c Try.underlying24
    obtain ⟨i0, hi, hz0, hz1, hz2⟩ := info_parts info40
    go_enter Try.func8, Try.ntmps8
    go_wp2_with (refine wpList_make_full _ rfl (.tmp 8) (.tmp 8) 29 rfl w.heap.size 40 i0 (.agg Sty.zero.arr) 14 Try.underlying29 hi hz0 hz1 .i64 .i64 n n n rfl rfl rfl rfl (by rw [hz2]; omega) (by unfold maxLen; omega) (Nat.le_refl _) ?_)
    intro w1 hown hgrow
    have hth := there_of_owns hown
    have hb1 : Below w.heap.size w w1 := (Below.refl _ _).grown hgrow (Nat.le_refl _) (fun k hk => by cases hk)
    clear hown hgrow hi hz0 hz1 hz2
    go_wp2
    go_loopw [4] (fun i wr => ∃ k : Nat, k ≤ n ∧ i = .int .i64 k ∧ (∀ j, j < k → wr.rangeAt w.heap.size (j * 14) (S j).cells) ∧ wr.there w.heap.size 0 (n * 14) ∧ Below w.heap.size w wr) (fun i _ => n - (intOf i).toNat)
    case atStart => exact ⟨0, Nat.zero_le _, rfl, fun j hj => absurd hj (Nat.not_lt_zero _), hth, hb1⟩
    case round =>
      obtain ⟨k, hk, rfl, hdone, hthr, hbr⟩ := hrel
      by_cases hlt : k < n
      · rcases hS with hS | ⟨gb, goff, hgb, hS⟩
        · omega
        · cases hgb
          have hr := hS k hlt
          have hgl : gb < w.heap.size := World.block_lt_of_cell? w _ (hr 0 _ rfl)
          obtain ⟨k0, k1, k2, k3, k4, k5, k6, k7, k8, k9, k10, k11, k12, k13⟩ := range14 hr
          have hthk := there_part (o := k * 14) (n := 14) hthr (by omega)
          have hlt' : (k : Int) < (n : Int) := by omega
          have hk0 : (0 : Int) ≤ (k : Int) := Int.natCast_nonneg _
          have hsz : w.heap.size < wr.heap.size := World.block_lt_of_cell? wr _ (Option.isSome_iff_exists.1 (hthk 0 (by omega)).1).choose_spec
          have hbc : ∀ j o, j < w.heap.size → wr.cell? ⟨j, o, none⟩ = w.cell? ⟨j, o, none⟩ := fun j o hj => hbr.cell (p := ⟨j, o, none⟩) hj
          obtain ⟨v0, v1, v2, v3, v4, v5, v6, v7, v8, v9, v10, v11, v12, v13, hD0⟩ := there14 hthk
          have hD1 : Dest w.heap.size (k * 14) v0 v1 v2 v3 v4 v5 v6 v7 v8 v9 v10 v11 v12 v13 wr.drew := hD0
          have hS0 : w.heap.size < wr.drew.heap.size ∧ ∀ j o, j < w.heap.size → wr.drew.cell? ⟨j, o, none⟩ = w.cell? ⟨j, o, none⟩ := ⟨hsz, hbc⟩
          have hB0 : Below (w.heap.size + 1) wr wr.drew := (Below.refl _ _).drew
          have HD : Hid (∀ j, j < k → wr.rangeAt w.heap.size (j * 14) (S j).cells) := hdone
          have HT : Hid (wr.there w.heap.size 0 (n * 14)) := hthr
          clear hr hS hth hb1 hdone hthr hthk hD0
          go_wp2
          go_region_held3 (fun w' => w.heap.size < w'.heap.size ∧ ∀ j o, j < w.heap.size → w'.cell? ⟨j, o, none⟩ = w.cell? ⟨j, o, none⟩) (first | with_reducible exact hS0 | with_reducible exact keepS (by assumption) (by assumption) rfl | (with_reducible ((repeat (refine keepSet ?_ (Nat.le_refl _) _)); assumption)))
            (first | (go_at_call 23; refine (toColor_any _ _ _ _ _ _).mono ?_; rintro e w' ⟨rfl, bb⟩; have hbx := below_step (B := w.heap.size + 1) (a := wr) (by assumption) bb (by first | omega | (simp; omega)); have hdd := Dest.later bb (by assumption) (by first | omega | (simp; omega)); obtain ⟨⟨d0, d1, d2, d3, d4, d5, d6, d7, d8, d9, d10, d11, d12, d13⟩, ⟨f0, f1, f2, f3, f4, f5, f6, f7, f8, f9, f10, f11, f12, f13⟩⟩ := id hdd))
          go_wp2
          go_roundw
          case rel =>
            have st := styles_step hlt HD.out HT.out hbr (by assumption)
            exact ⟨k + 1, by omega, by go_num, st.1, st.2.1, st.2.2⟩
          case measure => simp [intOf]; omega
      · go_wp2
        go_ret
        have hkn : k = n := by omega
        subst hkn
        exact ⟨⟨_, _, rfl, .inr ⟨w.heap.size, 0, rfl, fun j hj => by rw [Nat.zero_add]; exact hdone j hj⟩⟩, hbr⟩

end Go.Proofs.Qxb6612232a
