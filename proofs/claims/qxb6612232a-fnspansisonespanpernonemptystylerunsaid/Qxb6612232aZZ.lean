/-
  The contract of ZZspans at this dump.
-/
import Derived.Test.Qxb6612232aSpans
import Derived.Lib.EndianMore
set_option linter.unusedVariables false
namespace Go.Proofs.Qxb6612232a
open Go.RowKit
attribute [local go_sem ↓] Go.wp_at_zero Go.wp_at_succ

/-- A slice of integers, as it lies in a world. -/
def IntsAt (k : IntKind) (w : World) (a : Option Addr) (n : Nat) (f : Nat → Int) : Prop :=
  n = 0 ∨ ∃ b off, a = some ⟨b, off, none⟩ ∧ ∀ i, i < n → w.cell? ⟨b, off + i, none⟩ = some (.int k (f i))

theorem IntsAt.later {k : IntKind} {w w' : World} {a : Option Addr} {n : Nat} {f : Nat → Int} (h : IntsAt k w a n f) (hb : Below w.heap.size w w') : IntsAt k w' a n f := by
  rcases h with h | ⟨b, off, ha, hc⟩
  · exact .inl h
  · exact .inr ⟨b, off, ha, fun i hi => field_later hb (hc i hi)⟩

theorem StrsAt.later {w w' : World} {a : Option Addr} {n : Nat} {f : Nat → ByteArray} (h : StrsAt w a n f) (hb : Below w.heap.size w w') : StrsAt w' a n f := by
  rcases h with h | ⟨b, off, ha, hc⟩
  · exact .inl h
  · exact .inr ⟨b, off, ha, fun i hi => field_later hb (hc i hi)⟩

theorem info74 : (Try.prog.info? 74).map (fun i => (i.zero, i.size, i.bytes)) = some (some (.agg #[.int .i32 0, .int .u32 0]), 2, 8) := by kernel_rfl

/-- What ZZspans is handed. -/
structure Handed (w : World) (sa : Option Addr) (ns : Nat) (S : Nat → Sty) (la : Option Addr) (nl : Nat) (cl : Nat → ByteArray) (ca : Option Addr) (n : Nat) (cd : Nat → Int) (ya : Option Addr) (sy : Nat → Int) : Prop where
  hn : n ≤ 65536
  hns : ns ≤ 65536
  hnl : nl ≤ 65536
  hS : StylesAt w sa ns S
  hL : StrsAt w la nl cl
  hC : IntsAt .i32 w ca n cd
  hY : IntsAt .u32 w ya n sy
  hcd : ∀ i, i < n → -2147483648 ≤ cd i ∧ cd i ≤ 2147483647 ∧ (cd i ≤ -2 → (-2 - cd i).toNat < nl)
  hsy : ∀ i, i < n → 0 ≤ sy i ∧ sy i ≤ ns
  hlen : (cat cl cd n).length ≤ 1048576

/-- What a round of the cells' loop leaves. -/
def CellsAt (b : Nat) (n : Nat) (cd sy : Nat → Int) (k : Nat) (wr : World) : Prop :=
  (∀ i, i < k → wr.cell? ⟨b, i * 2, none⟩ = some (.int .i32 (cd i)) ∧ wr.cell? ⟨b, i * 2 + 1, none⟩ = some (.int .u32 (sy i))) ∧ wr.there b 0 (n * 2)

theorem same_set {w a : World} (h : ∀ j o, j < w.heap.size → a.cell? ⟨j, o, none⟩ = w.cell? ⟨j, o, none⟩) {p : Addr} (hp : w.heap.size ≤ p.block) (v : Value) :
    ∀ j o, j < w.heap.size → (a.setCell p v).cell? ⟨j, o, none⟩ = w.cell? ⟨j, o, none⟩ :=
  fun j o hj => (((Below.refl w.heap.size a).setCell hp v).cell (p := ⟨j, o, none⟩) hj).trans (h j o hj)

theorem there_of_row {w : World} {base e size g n cap : Nat} {xs : List Value} (h : w.ownsRow base e size (.slice (some ⟨g, 0, none⟩) n cap) n xs) : w.there g 0 (n * size) := fun j hj => by
  rw [Nat.zero_add]
  have h1 := h.cellAt j hj
  rw [h1]
  have : j < xs.length := by rw [h.1]; exact hj
  simp [this, h.frozenAt j]

theorem there2 {w : World} {b n k : Nat} (h : w.there b 0 (n * 2)) (hk : k < n) : (∃ v0, w.cell? ⟨b, k * 2, none⟩ = some v0) ∧ (∃ v1, w.cell? ⟨b, k * 2 + 1, none⟩ = some v1) ∧ w.frozen? ⟨b, k * 2, none⟩ = false ∧ w.frozen? ⟨b, k * 2 + 1, none⟩ = false := by
  have h0 := h (k * 2) (by omega)
  have h1 := h (k * 2 + 1) (by omega)
  rw [Nat.zero_add] at h0 h1
  exact ⟨Option.isSome_iff_exists.1 h0.1, Option.isSome_iff_exists.1 h1.1, h0.2, h1.2⟩

theorem owns_base {w : World} {B C e size n : Nat} {v : Value} {xs : List Value} (h : w.ownsRow C e size v n xs) (hB : B ≤ C) : w.ownsRow B e size v n xs := by
  refine ⟨h.1, ?_⟩
  rcases h.2 with h2 | ⟨g, cap, cur, hv, hg, r⟩
  · exact Or.inl h2
  · exact Or.inr ⟨g, cap, cur, hv, by omega, r⟩

/-- A round's two stores. -/
theorem cells_step {w1 wr : World} {b n k : Nat} {cd sy : Nat → Int} {B : Nat} (hB : B ≤ b) (hk : k < n) (h : CellsAt b n cd sy k wr) (hb : Below B w1 wr) :
    CellsAt b n cd sy (k + 1) (((wr.drew).setCell ⟨b, k * 2, none⟩ (.int .i32 (cd k))).setCell ⟨b, k * 2 + 1, none⟩ (.int .u32 (sy k))) ∧
    Below B w1 (((wr.drew).setCell ⟨b, k * 2, none⟩ (.int .i32 (cd k))).setCell ⟨b, k * 2 + 1, none⟩ (.int .u32 (sy k))) := by
  obtain ⟨hd, ht⟩ := h
  have e : (((wr.drew).setCell ⟨b, k * 2, none⟩ (.int .i32 (cd k))).setCell ⟨b, k * 2 + 1, none⟩ (.int .u32 (sy k))) = wr.drew.setCells b (k * 2) [.int .i32 (cd k), .int .u32 (sy k)] := rfl
  rw [e]
  have htd : wr.drew.there b 0 (n * 2) := ht
  have hs : (wr.drew.setCells b (k * 2) [.int .i32 (cd k), .int .u32 (sy k)]).rangeAt b (k * 2) [.int .i32 (cd k), .int .u32 (sy k)] :=
    World.rangeAt_setCells_same _ _ _ _ (fun j hj => by
      have := htd (k * 2 + j) (by simp at hj; omega)
      rwa [Nat.zero_add] at this)
  refine ⟨⟨fun i hi => ?_, World.there_setCells htd _ _ _⟩, hb.drew.trans (Lib.below_setCells_w hB _ _ _)⟩
  by_cases ek : i = k
  · subst ek
    exact ⟨hs 0 _ rfl, hs 1 _ rfl⟩
  · obtain ⟨c0, c1⟩ := hd i (by omega)
    refine ⟨?_, ?_⟩
    · rw [World.cell?_setCells_out b _ _ _ ⟨b, i * 2, none⟩ (fun _ _ => by show i * 2 < k * 2 ∨ k * 2 + 2 ≤ i * 2; omega)]; exact c0
    · rw [World.cell?_setCells_out b _ _ _ ⟨b, i * 2 + 1, none⟩ (fun _ _ => by show i * 2 + 1 < k * 2 ∨ k * 2 + 2 ≤ i * 2 + 1; omega)]; exact c1

set_option maxHeartbeats 4000000 in
set_option maxRecDepth 100000 in
theorem ZZspans_any (w : World) (sa : Option Addr) (ns nc : Nat) (S : Nat → Sty) (la : Option Addr) (nl lc : Nat) (cl : Nat → ByteArray) (ca : Option Addr) (n cc : Nat) (cd : Nat → Int) (ya : Option Addr) (ny yc : Nat) (hny : ny = n) (sy : Nat → Int)
    (G : Handed w sa ns S la nl cl ca n cd ya sy) :
    Calls Try.prog 9 #[.slice sa ns nc, .slice la nl lc, .slice ca n cc, .slice ya ny yc] w fun e w' => SpansRet w.heap.size S (spansOf cl cd sy n) e w' ∧ Below w.heap.size w w' := by
  subst hny
  have hn := G.hn
  have hG : Hid (Handed w sa ns S la nl cl ca ny cd ya sy) := G
  clear G
  obtain ⟨i0, hi, hz0, hz1, hz2⟩ := info_parts info74
  go_enter Try.func9, Try.ntmps9
  go_wp2_with (refine wpList_make_full _ rfl (.tmp 17) (.tmp 17) 72 rfl (w.heap.size + 1) 74 i0 (.agg #[.int .i32 0, .int .u32 0]) 2 Try.underlying72 hi hz0 hz1 .i64 .i64 ny ny ny rfl rfl rfl rfl (by rw [hz2]; omega) (by unfold maxLen; omega) (by simp) ?_)
  intro w1 hown hgrow
  have hth := there_of_row hown
  have hsc : ∀ j, w1.cell? ⟨w.heap.size, j, none⟩ = (w.alloc (.cells #[.slice none 0 0, .int .i64 0, .int .i64 0, .slice none 0 0, .slice none 0 0, .slice none 0 0, .int .u8 0, .int .u8 0, .int .u8 0, .int .u8 0, .int .u8 0, .int .u8 0, .int .u8 0, .int .u8 0, .int .u8 0, .int .u8 0, .bool false, .bool false, .bool false, .bool false, .int .u32 0, .slice sa ns nc, .map none, .slice la nl lc, .int .i64 0, .int .i64 0, .bool false, .int .u8 0, .slice none 0 0, .slice none 0 0, .int .i64 0, .bool false] 71)).cell? ⟨w.heap.size, j, none⟩ :=
    fun j => World.cell?_of_block (hgrow.block w.heap.size (by simp) (by simp))
  have s21 : w1.cell? ⟨w.heap.size, 21, none⟩ = some (.slice sa ns nc) := by rw [hsc, World.cell?_alloc_new]; rfl
  have s23 : w1.cell? ⟨w.heap.size, 23, none⟩ = some (.slice la nl lc) := by rw [hsc, World.cell?_alloc_new]; rfl
  have hb1 : Below w.heap.size w w1 := ((Below.refl _ _).alloc (Nat.le_refl _) _).grown hgrow (by simp) (fun k hk => by cases hk)
  have hz : w.heap.size + 1 < w1.heap.size ∨ ny = 0 := by
    rcases Nat.eq_zero_or_pos ny with h | h
    · exact Or.inr h
    · left
      obtain ⟨⟨v0, h0⟩, _⟩ := there2 hth h
      exact World.block_lt_of_cell? w1 _ h0
  have hz2 : w.heap.size < w1.heap.size := World.block_lt_of_cell? w1 _ s21
  have HZ : Hid (w.heap.size + 1 < w1.heap.size ∨ ny = 0) := hz
  clear hown hgrow hi hz0 hz1 hsc hz
  go_wp2
  go_loopw [11] (fun i wr => ∃ k : Nat, k ≤ ny ∧ i = .int .i64 k ∧ CellsAt (w.heap.size + 1) ny cd sy k wr ∧ Below (w.heap.size + 1) w1 wr) (fun i _ => ny - (intOf i).toNat)
  case atStart => exact ⟨0, Nat.zero_le _, rfl, ⟨fun i hi => absurd hi (Nat.not_lt_zero _), hth⟩, Below.refl _ _⟩
  case round =>
    obtain ⟨k, hk, rfl, hcells, hbr⟩ := hrel
    have hbw : Below w.heap.size w wr := hb1.trans (hbr.mono (Nat.le_succ _))
    by_cases hlt : k < ny
    · obtain ⟨cb, coff, rfl, hC⟩ : ∃ b off, ca = some ⟨b, off, none⟩ ∧ ∀ i, i < ny → w.cell? ⟨b, off + i, none⟩ = some (.int .i32 (cd i)) := by
        rcases hG.out.hC with h | h
        · omega
        · exact h
      obtain ⟨yb, yoff, rfl, hY⟩ : ∃ b off, ya = some ⟨b, off, none⟩ ∧ ∀ i, i < ny → w.cell? ⟨b, off + i, none⟩ = some (.int .u32 (sy i)) := by
        rcases hG.out.hY with h | h
        · omega
        · exact h
      have c0 := hC k hlt
      have y0 := hY k hlt
      have hcb : cb < w.heap.size := World.block_lt_of_cell? w _ c0
      have hyb : yb < w.heap.size := World.block_lt_of_cell? w _ y0
      obtain ⟨⟨v0, d0⟩, ⟨v1, d1⟩, f0, f1⟩ := there2 hcells.2 hlt
      have st := hide (cells_step (Nat.le_refl _) hlt hcells hbr)
      have hlt' : (k : Int) < (ny : Int) := by omega
      have hk0 : (0 : Int) ≤ (k : Int) := Int.natCast_nonneg _
      have hsame : ∀ j o, j < w.heap.size → wr.drew.cell? ⟨j, o, none⟩ = w.cell? ⟨j, o, none⟩ := same_of hbw.drew
      have hwx : w.heap.size ≤ w.heap.size + 1 := Nat.le_succ _
      have hsame2 : ∀ j o, j < w.heap.size → ((wr.setCell ⟨w.heap.size + 1, k * 2, none⟩ (.int .i32 (cd k))).setCell ⟨w.heap.size + 1, k * 2 + 1, none⟩ (.int .u32 (sy k))).drew.cell? ⟨j, o, none⟩ = w.cell? ⟨j, o, none⟩ := same_set (same_set (same_of hbw) hwx _) hwx _
      have HS2 := hide hsame2
      clear hC hY hcells hsame2
      go_wp2
      go_region_held3 (fun w' => ∀ j o, j < w.heap.size → w'.cell? ⟨j, o, none⟩ = w.cell? ⟨j, o, none⟩) (first | with_reducible exact hsame | with_reducible exact unhide HS2) (fail)
      go_wp2
      go_roundw
      case rel => exact ⟨k + 1, by omega, by go_num, (unhide st).1, (unhide st).2⟩
      case measure => simp [intOf]; omega
    · have hkn : k = ny := by omega
      subst hkn
      have hsz : w.heap.size ≤ wr.heap.size := hbw.size
      have hGi : Given wr w.heap.size (w.heap.size + 1) k sa ns nc S la nl lc cl cd sy :=
        { hn := hn, hns := hG.out.hns, hnl := hG.out.hnl,
          hf := (hbr.cell (p := ⟨w.heap.size, 21, none⟩) (Nat.lt_succ_self _)).trans s21,
          hS := hG.out.hS.later hbw,
          hg := (hbr.cell (p := ⟨w.heap.size, 23, none⟩) (Nat.lt_succ_self _)).trans s23,
          hL := hG.out.hL.later hbw,
          hc := fun i hi => (hcells.1 i hi).1, hs := fun i hi => (hcells.1 i hi).2,
          hcd := hG.out.hcd, hsy := hG.out.hsy, hlen := hG.out.hlen }
      have HSp := hide (spans_any wr w.heap.size (w.heap.size + 1) k k sa ns nc S la nl lc cl cd sy hGi)
      clear hGi hcells
      go_wp2_with fail
      refine (unhide HSp).mono ?_
      rintro e w5 ⟨⟨v, rfl, hown5⟩, hb5⟩
      go_wp2
      go_ret
      exact ⟨⟨_, rfl, owns_base hown5 hsz⟩, hbw.trans (hb5.mono hsz)⟩

end Go.Proofs.Qxb6612232a
