/-
  The contract of '(*Screen).spans' at this dump.
-/
import Derived.Test.Qxb6612232aKeep
import Derived.Deep.RegionHeld3
import Derived.Deep.DrawnRows
import Derived.Deep.QuietTactic
import Derived.BigQuiet
import Derived.Deep.LoopGhost
import Derived.Deep.CutBlock
import Derived.Deep.DeepCutAuto
import Derived.WalkSmall
set_option linter.unusedVariables false
namespace Go.Proofs.Qxb6612232a
open Go.RowKit
attribute [local go_sem ↓] Go.wp_at_zero Go.wp_at_succ

/-- What spans is handed. -/
structure Given (w : World) (bs bc : Nat) (n : Nat) (sa : Option Addr) (ns nc : Nat) (S : Nat → Sty) (la : Option Addr) (nl lc : Nat) (cl : Nat → ByteArray) (cd sy : Nat → Int) : Prop where
  hn : n ≤ 65536
  hns : ns ≤ 65536
  hnl : nl ≤ 65536
  hf : w.cell? ⟨bs, 21, none⟩ = some (.slice sa ns nc)
  hS : StylesAt w sa ns S
  hg : w.cell? ⟨bs, 23, none⟩ = some (.slice la nl lc)
  hL : StrsAt w la nl cl
  hc : ∀ i, i < n → w.cell? ⟨bc, i * 2, none⟩ = some (.int .i32 (cd i))
  hs : ∀ i, i < n → w.cell? ⟨bc, i * 2 + 1, none⟩ = some (.int .u32 (sy i))
  hcd : ∀ i, i < n → -2147483648 ≤ cd i ∧ cd i ≤ 2147483647 ∧ (cd i ≤ -2 → (-2 - cd i).toNat < nl)
  hsy : ∀ i, i < n → 0 ≤ sy i ∧ sy i ≤ ns
  hlen : (cat cl cd n).length ≤ 1048576

/-- What spans hands back. -/
def SpansRet (B : Nat) (S : Nat → Sty) (L : List (List UInt8 × Int)) (e : Ending) (w' : World) : Prop := ∃ v, e = .returned v ∧ w'.ownsRow B 43 15 v L.length (spansCells S L)

theorem hide {p : Prop} (h : p) : Hid p := h
theorem unhide {p : Prop} (h : Hid p) : p := h

set_option maxHeartbeats 8000000 in
set_option maxRecDepth 100000 in
theorem spans_any (w : World) (bs bc n cc : Nat) (sa : Option Addr) (ns nc : Nat) (S : Nat → Sty) (la : Option Addr) (nl lc : Nat) (cl : Nat → ByteArray) (cd sy : Nat → Int)
    (G : Given w bs bc n sa ns nc S la nl lc cl cd sy) :
    Calls Try.prog 24 #[.pointer (some ⟨bs, 0, none⟩), .slice (some ⟨bc, 0, none⟩) n cc] w fun e w' => SpansRet w.heap.size S (spansOf cl cd sy n) e w' ∧ Below w.heap.size w w' := by
  have hn := G.hn
  have hG : Hid (Given w bs bc n sa ns nc S la nl lc cl cd sy) := G
  clear G
  go_enter Try.func24, Try.ntmps24
  go_wp2
  go_loopw [5, 11] (fun v i wr => ∃ k : Nat, k ≤ n ∧ i = .int .i64 k ∧ wr.ownsRow w.heap.size 43 15 v (St cl cd sy k).1.length (spansCells S (St cl cd sy k).1) ∧ Lib.IsBuilderF 82 5 w.heap.size w.heap.size (Lib.byteCells (St cl cd sy k).2) wr ∧ Below w.heap.size w wr)
    (fun _ i _ => n - (intOf i).toNat)
  case atStart => exact ⟨0, Nat.zero_le _, rfl, World.ownsRow_nil _ _ _ _, Lib.IsBuilderF.of (Lib.fresh_isBuilder 82 5 w), (Below.refl _ _).alloc (Nat.le_refl _) _⟩
  case round =>
    obtain ⟨k, hk, rfl, hown, hI, hbr⟩ := hrel
    by_cases hlt : k < n
    · obtain ⟨c, Hc⟩ : ∃ c, Hid (cd k = c) := ⟨_, rfl⟩
      obtain ⟨x, Hx⟩ : ∃ x, Hid (sy k = x) := ⟨_, rfl⟩
      have c0 : wr.cell? ⟨bc, k * 2, none⟩ = some (.int .i32 c) := by rw [← Hc.out]; exact field_later hbr (hG.out.hc k hlt)
      have c1 : wr.cell? ⟨bc, k * 2 + 1, none⟩ = some (.int .u32 x) := by rw [← Hx.out]; exact field_later hbr (hG.out.hs k hlt)
      have hlt' : (k : Int) < (n : Int) := by omega
      obtain ⟨hcl, hcu, hci⟩ := hG.out.hcd k hlt
      rw [Hc.out] at hcl hcu hci
      have HI : Hid (c ≤ -2 → (-2 - c).toNat < nl) := hci
      clear hci
      obtain ⟨L, acc, Hst⟩ : ∃ L acc, Hid (St cl cd sy k = (L, acc)) := ⟨_, _, rfl⟩
      rw [Hst.out] at hown hI
      have hLk : L.length ≤ k := by have := St_len cl cd sy k; rw [Hst.out] at this; exact this
      have hal : acc.length ≤ 1048576 := by
        have h1 := St_buf cl cd sy k
        have h2 := cat_mono cl cd (j := k) (k := n) (by omega)
        have h3 := hG.out.hlen
        rw [Hst.out] at h1
        simp only at h1
        omega
      simp only at hown hI
      have hbB : w.heap.size < wr.heap.size := builder_lt hI
      by_cases hm1 : c = -1
      · subst hm1
        have HS1 : Hid (St cl cd sy (k + 1) = (L, acc)) := by
          show St cl cd sy (k + 1) = _
          rw [St, if_pos Hc.out, Hst.out]
        go_wp2
        go_roundw
        case rel => exact ⟨k + 1, by omega, by go_num, by rw [HS1.out]; exact hown.alloc _, by rw [HS1.out]; exact builder_alloc hI _, hbr.alloc hbr.size _⟩
        case measure => simp [intOf]; omega
      · have hm1' : (c == -1) = false := by simp [hm1]
        obtain ⟨fl, Hfl⟩ : ∃ fl : Bool, Hid (fl = decide (0 < k ∧ sy k ≠ sy (k - 1) ∧ acc ≠ [])) := ⟨_, rfl⟩
        have hcb : (wr.alloc (.cells #[.int .i32 c, .int .u32 x] 74)).heap[wr.heap.size]? = some (.cells #[.int .i32 c, .int .u32 x] 74 (0, 0)) := heap_alloc_new wr _
        have hI1 := builder_alloc hI (.cells #[.int .i32 c, .int .u32 x] 74)
        have hown1 := hown.alloc (.cells #[.int .i32 c, .int .u32 x] 74)
        have hb1 := hbr.alloc hbr.size (.cells #[.int .i32 c, .int .u32 x] 74)
        have hlen0 : (Lib.byteCells acc).length = acc.length := Lib.byteCells_length _
        go_wp2
        go_cut [35] (fun s wx => s = .bool fl ∧ wx.ownsRow w.heap.size 43 15 u5 L.length (spansCells S L) ∧ Lib.IsBuilderF 82 5 w.heap.size w.heap.size (Lib.byteCells acc) wx ∧ Below w.heap.size w wx ∧ wx.heap[wr.heap.size]? = some (.cells #[.int .i32 c, .int .u32 x] 74 (0, 0)))
        case first =>
          by_cases hk0 : k = 0
          · have HF : Hid (fl = false) := by show fl = false; rw [Hfl.out]; simp [hk0]
            have hkz : (k : Int) = 0 := by omega
            go_quiet ((go_at_call 28; exact Calls.quiet_of_same (Try.Builder_Len_f w.heap.size w.heap.size _ _ hI1)))
            go_wp2
            go_meet
            exact ⟨by rw [HF.out], hown1, hI1, below_drewN hb1 _, hcb⟩
          · obtain ⟨k', rfl⟩ : ∃ k', k = k' + 1 := ⟨k - 1, by omega⟩
            obtain ⟨y, Hy⟩ : ∃ y, Hid (sy k' = y) := ⟨_, rfl⟩
            have d1 : wr.cell? ⟨bc, k' * 2 + 1, none⟩ = some (.int .u32 y) := by rw [← Hy.out]; exact field_later hbr (hG.out.hs k' (by omega))
            have hbc : bc < wr.heap.size := World.block_lt_of_cell? wr _ d1
            have hp1 : (k' : Int) < (n : Int) := by omega
            have hwk : IntKind.i64.wrap (k' : Int) = (k' : Int) := by rw [IntKind.wrap_i64]; omega
            have hp2 : (0 : Int) < (k' : Int) + 1 := by omega
            by_cases hxy : x = y
            · subst hxy
              have HF : Hid (fl = false) := by show fl = false; rw [Hfl.out]; simp [Hx.out, Hy.out]
              go_quiet ((go_at_call 28; exact Calls.quiet_of_same (Try.Builder_Len_f w.heap.size w.heap.size _ _ hI1)))
              go_wp2
              go_meet
              exact ⟨by rw [HF.out], hown1, hI1, below_drewN hb1 _, hcb⟩
            · have hxy' : (x == y) = false := by simp [hxy]
              by_cases hae : acc = []
              · have HF : Hid (fl = false) := by show fl = false; rw [Hfl.out]; simp [hae]
                have hl0 : (acc.length : Int) = 0 := by simp [hae]
                clear hae
                go_quiet ((go_at_call 28; exact Calls.quiet_of_same (Try.Builder_Len_f w.heap.size w.heap.size _ _ hI1)))
                go_wp2
                go_meet
                exact ⟨by rw [HF.out], hown1, hI1, below_drewN hb1 _, hcb⟩
              · have HF : Hid (fl = true) := by show fl = true; rw [Hfl.out]; simp [hae, Hx.out, Hy.out, hxy]
                have hl0 : (0 : Int) < (acc.length : Int) := by
                  have : 0 < acc.length := List.length_pos_iff.2 hae
                  omega
                clear hae
                go_quiet ((go_at_call 28; exact Calls.quiet_of_same (Try.Builder_Len_f w.heap.size w.heap.size _ _ hI1)))
                go_wp2
                go_meet
                exact ⟨by rw [HF.out]; simp; exact ⟨hxy, by omega⟩, hown1, hI1, below_drewN hb1 _, hcb⟩
        case rest =>
          obtain ⟨rfl, hown2, hI2, hb2, hcb2⟩ := hcut
          have e0 : wc.cell? ⟨wr.heap.size, 0, none⟩ = some (.int .i32 c) := by rw [Lib.cell_of_heap hcb2]; rfl
          have e1 : wc.cell? ⟨wr.heap.size, 1, none⟩ = some (.int .u32 x) := by rw [Lib.cell_of_heap hcb2]; rfl
          clear hI1 hown1 hb1 hcb hown hI c0 c1
          go_upto_if 35 with fail
          go_cut [5] (fun v wx => ∃ L' acc', Hid (St cl cd sy (k + 1) = (L', acc' ++ txt cl c)) ∧ wx.ownsRow w.heap.size 43 15 v L'.length (spansCells S L') ∧ Lib.IsBuilderF 82 5 w.heap.size w.heap.size (Lib.byteCells acc') wx ∧ Below w.heap.size w wx ∧ wx.heap[wr.heap.size]? = some (.cells #[.int .i32 c, .int .u32 x] 74 (0, 0)))
          case first =>
            cases fl with
            | false =>
              have HS1 : Hid (St cl cd sy (k + 1) = (L, acc ++ txt cl c)) := by
                show St cl cd sy (k + 1) = _
                have hf := Hfl.out
                rw [St, if_neg (by rw [Hc.out]; exact hm1), Hst.out, Hc.out]
                simp only
                rw [if_neg (by simpa using hf)]
              go_wp2
              go_meet
              exact ⟨L, acc, HS1, hown2, hI2, hb2, hcb2⟩
            | true =>
              obtain ⟨hk0, hsne, hae⟩ : 0 < k ∧ sy k ≠ sy (k - 1) ∧ acc ≠ [] := by simpa using Hfl.out.symm
              obtain ⟨k', rfl⟩ : ∃ k', k = k' + 1 := ⟨k - 1, by omega⟩
              obtain ⟨y, Hy⟩ : ∃ y, Hid (sy k' = y) := ⟨_, rfl⟩
              obtain ⟨st, Hs⟩ : ∃ st, Hid (stOf S y = st) := ⟨_, rfl⟩
              have HS1 : Hid (St cl cd sy (k' + 1 + 1) = (L ++ [(acc, y)], [] ++ txt cl c)) := by
                show St cl cd sy (k' + 1 + 1) = _
                rw [St, if_neg (by rw [Hc.out]; exact hm1), Hst.out, Hc.out]
                simp only
                rw [if_pos ⟨hk0, hsne, hae⟩]
                simp [Hy.out]
              have d1 : w.cell? ⟨bc, k' * 2 + 1, none⟩ = some (.int .u32 y) := by rw [← Hy.out]; exact hG.out.hs k' (by omega)
              have hbc : bc < w.heap.size := World.block_lt_of_cell? w _ d1
              have hbs : bs < w.heap.size := World.block_lt_of_cell? w _ hG.out.hf
              have hp1 : (k' : Int) < (n : Int) := by omega
              have hp0 : (0 : Int) ≤ (k' : Int) := Int.natCast_nonneg _
              have hwk : IntKind.i64.wrap (k' : Int) = (k' : Int) := by rw [IntKind.wrap_i64]; omega
              obtain ⟨hy0, hy1⟩ := hG.out.hsy k' (by omega)
              rw [Hy.out] at hy0 hy1
              have HSa : Hid (sy (k' + 1) ≠ sy (k' + 1 - 1)) := hsne
              clear hsne
              obtain ⟨cs0, hbk⟩ := builder_block hI2
              obtain ⟨i0, hi0, hz0, hz1, hz2⟩ := info_parts info43
              have hI2d : Lib.IsBuilderF 82 5 w.heap.size w.heap.size (Lib.byteCells acc) wc.drew := hI2
              have hown2d : wc.drew.ownsRow w.heap.size 43 15 u5 L.length (spansCells S L) := hown2
              have hcb2d : wc.drew.heap[wr.heap.size]? = some (.cells #[.int .i32 c, .int .u32 x] 74 (0, 0)) := hcb2
              have hbkd : wc.drew.heap[w.heap.size]? = some (.cells cs0 82 (0, 0)) := hbk
              have hsame : ∀ j o, j < w.heap.size → wc.drew.cell? ⟨j, o, none⟩ = w.cell? ⟨j, o, none⟩ := same_of hb2.drew
              go_wp2
              go_region_held3 (fun w' => ∀ j o, j < w.heap.size → w'.cell? ⟨j, o, none⟩ = w.cell? ⟨j, o, none⟩) (first | with_reducible exact hsame | with_reducible exact same_of (by assumption) | with_reducible exact same_alloc (by assumption) _ | with_reducible exact same_alloc2 (by assumption) _ _)
                (first | (go_at_call 29; refine (Try.Builder_String_k w.heap.size w.heap.size acc wc.drew hI2d hae).mono ?_; rintro e w1 ⟨rfl, hI3, b3, o3⟩; have hb3 := Below.trans hb2.drew b3; have hown3 := owns_others hown2d o3 hbkd; have hcb3 := block_others hcb2d o3 (by omega)) | (go_at_call 30; refine (styleNumbered_lit bs sa ns nc S y st Hs.out _ hy0 hy1 hG.out.hns (field_later (by assumption) hG.out.hf) (hG.out.hS.later (by assumption))).mono ?_; rintro e w2 ⟨rfl, rfl⟩) | (refine step_append_lies _ (by rfl) _ _ _ (by rfl) w.heap.size 43 i0 _ 15 32 Try.underlying32 hi0 hz0 hz1 hz2 rfl (by omega) u5 L.length (spansCells S L) (by rfl) ((World.ownsRow.alloc (by assumption) _).alloc _) ⟨w1.heap.size + 1, 0, none⟩ 1 1 [.string ⟨acc.toArray⟩, .int .u8 st.a0, .int .u8 st.a1, .int .u8 st.a2, .int .u8 st.a3, .int .u8 st.a4, .int .u8 st.a5, .int .u8 st.a6, .int .u8 st.a7, .int .u8 st.a8, .int .u8 st.a9, .bool st.b0, .bool st.b1, .bool st.b2, .bool st.b3] (by rfl) (by rfl) (World.news_of_block (cs := #[.string ⟨acc.toArray⟩, .int .u8 st.a0, .int .u8 st.a1, .int .u8 st.a2, .int .u8 st.a3, .int .u8 st.a4, .int .u8 st.a5, .int .u8 st.a6, .int .u8 st.a7, .int .u8 st.a8, .int .u8 st.a9, .bool st.b0, .bool st.b1, .bool st.b2, .bool st.b3]) (t := 43) (fr := (0, 0)) (second_new w1 _ _)) (by simp [Value.oneCell']) (by omega) (by unfold maxLen; omega) (by omega) (by have := hb3.size; simp; omega) _ rfl ?_; intro gg cap w4 hown4 hgrow hat hlt4; have hb4 := below_after hb3 hown3 hgrow))
              have hI4 := builder_grown (builder_alloc (builder_alloc hI3 _) _) ((hown3.alloc _).alloc _) hgrow
              have hcb4 := block_after hcb3 hown3 hgrow
              have hown5 := owns_span (spanCells_lit S acc y st Hs.out) hown4
              obtain ⟨cs4, hbk4⟩ := builder_block hI4
              clear hown4 hown3 hown2 hown2d hgrow hat hI3 hI2 hI2d hb2 b3 o3 hcb2 hcb2d hcb3 hbk hbkd hsame hb3 e0 e1 hi0 hz0 hz1 hz2 hwk
              go_wp2_with (go_at_call 31; refine (Reset_k w.heap.size w.heap.size _ _ hI4).mono ?_)
              rintro e w5 ⟨rfl, hI5, b5, o5⟩
              have hb5 := hb4.trans b5
              have hown6 := owns_others hown5 o5 hbk4
              have hcb5 := block_others hcb4 o5 (by omega)
              clear hown5 hI4 hb4 b5 o5 hbk4 hcb4
              go_wp2
              go_meet
              exact ⟨L ++ [(acc, y)], [], HS1, hown6, hI5, hb5, hcb5⟩
          case rest =>
            clear hown2 hI2 hb2 hcb2 e0 e1
            obtain ⟨L', acc', HS1, hown2, hI2, hb2, hcb2⟩ := hcut
            have e0 : wc.cell? ⟨wr.heap.size, 0, none⟩ = some (.int .i32 c) := by rw [Lib.cell_of_heap hcb2]; rfl
            have e1 : wc.cell? ⟨wr.heap.size, 1, none⟩ = some (.int .u32 x) := by rw [Lib.cell_of_heap hcb2]; rfl
            have hlb : acc'.length + (txt cl c).length ≤ 1048576 := by
              have h1 := St_buf cl cd sy (k + 1)
              have h2 := cat_mono cl cd (j := k + 1) (k := n) (by omega)
              have h3 := hG.out.hlen
              rw [HS1.out] at h1
              simp only [List.length_append] at h1
              omega
            have hcbl : wr.heap.size < wc.heap.size := (Array.getElem?_eq_some_iff.1 hcb2).1
            by_cases h2 : c ≤ -2
            · obtain ⟨m, Hm⟩ : ∃ m : Nat, Hid (-2 - c = (m : Int)) := ⟨(-2 - c).toNat, by show -2 - c = _; omega⟩
              have hml : m < nl := by have := HI.out h2; have := Hm.out; omega
              have hnl := hG.out.hnl
              obtain ⟨lb, loff, hla, hLs⟩ : ∃ b off, la = some ⟨b, off, none⟩ ∧ ∀ i, i < nl → w.cell? ⟨b, off + i, none⟩ = some (.string (cl i)) := by
                rcases hG.out.hL with h | h
                · omega
                · exact h
              have hlm := hLs m hml
              have hgf := hG.out.hg
              rw [hla] at hgf
              have hlbl : lb < w.heap.size := World.block_lt_of_cell? w _ hlm
              have hbs : bs < w.heap.size := World.block_lt_of_cell? w _ hgf
              obtain ⟨str, Hstr⟩ : ∃ str, Hid (cl m = str) := ⟨_, rfl⟩
              rw [Hstr.out] at hlm
              have ht : txt cl c = str.data.toList := by
                unfold txt
                rw [if_neg hm1, if_pos h2, ← Hstr.out]
                rw [Hm.out, Int.toNat_natCast]
              have hsz : str.size = (txt cl c).length := by rw [ht]; exact (Array.length_toList (xs := str.data)).symm
              have hWS := WriteString_k w.heap.size w.heap.size _ str wc.drew hI2 (by rw [Lib.byteCells_length]; omega) (by simp; omega)
              have HWS := hide hWS
              have hm0 : (0 : Int) ≤ (m : Int) := Int.natCast_nonneg _
              have hm1x : (m : Int) < (nl : Int) := by omega
              have hw32 : IntKind.i32.wrap (-2 - c) = (m : Int) := by rw [Hm.out, IntKind.wrap_i32]; omega
              have hsame : ∀ j o, j < w.heap.size → wc.drew.cell? ⟨j, o, none⟩ = w.cell? ⟨j, o, none⟩ := same_of hb2.drew
              have e0d : wc.drew.cell? ⟨wr.heap.size, 0, none⟩ = some (.int .i32 c) := e0
              obtain ⟨cs2, hbk2⟩ := builder_block hI2
              have hbk2d : wc.drew.heap[w.heap.size]? = some (.cells cs2 82 (0, 0)) := hbk2
              have hown2d : wc.drew.ownsRow w.heap.size 43 15 _ L'.length (spansCells S L') := hown2
              have hcb2d : wc.drew.heap[wr.heap.size]? = some (.cells #[.int .i32 c, .int .u32 x] 74 (0, 0)) := hcb2
              have HT : Hid (txt cl c = str.data.toList) := ht
              clear hWS hLs ht
              go_wp2
              go_region_held3 (fun w' => (∀ j o, j < w.heap.size → w'.cell? ⟨j, o, none⟩ = w.cell? ⟨j, o, none⟩) ∧ w'.cell? ⟨wr.heap.size, 0, none⟩ = some (.int .i32 c)) (first | with_reducible exact ⟨hsame, e0d⟩ | with_reducible exact ⟨same_of (by assumption), by assumption⟩)
                (first | (go_at_call 32; refine (unhide HWS).mono ?_; rintro e w5 ⟨rfl, hI5, b5, o5⟩; have hb5 := Below.trans hb2.drew b5; have hown5 := owns_others hown2d o5 hbk2d; have hcb5 := block_others hcb2d o5 (by omega); have e05 : w5.cell? ⟨wr.heap.size, 0, none⟩ = some (.int .i32 c) := (by rw [Lib.cell_of_heap hcb5]; rfl)))
              clear hown2 hown2d hI2 hb2 b5 o5 hcb2 hcb2d hbk2 hbk2d e0 e1 e0d e05 hsame hw32 hcb5
              go_wp2
              go_roundw
              case rel => exact ⟨k + 1, by omega, by go_num, by rw [HS1.out]; exact hown5, by rw [HS1.out, HT.out, Lib.byteCells_append, ← Lib.strCells_eq]; exact Or.inr hI5, hb5⟩
              case measure => simp [intOf]; omega
            · have hc0 : 0 ≤ c := by omega
              have ht : txt cl c = Lib.encodeRune c := by unfold txt; rw [if_neg hm1, if_neg h2]
              have hWR := WriteRune_k w.heap.size w.heap.size _ c (by omega) (by omega) wc hI2 (by rw [Lib.byteCells_length]; omega) (by omega)
              have HWR := hide hWR
              clear hWR
              go_wp2_with fail
              refine (unhide HWR).mono ?_
              rintro e w5 ⟨rfl, hI5, b5, o5⟩
              obtain ⟨cs2, hbk2⟩ := builder_block hI2
              have hown5 := owns_others hown2 o5 hbk2
              have hb5 := hb2.trans b5
              clear hown2 hI2 hb2 b5 o5 hcb2 hbk2 e0 e1
              go_wp2
              go_roundw
              case rel => exact ⟨k + 1, by omega, by go_num, by rw [HS1.out]; exact hown5, by rw [HS1.out, ht, Lib.byteCells_append, Lib.byteCells_encodeRune]; exact Or.inr hI5, hb5⟩
              case measure => simp [intOf]; omega
    · have hkn : k = n := by omega
      subst hkn
      obtain ⟨L, acc, Hst⟩ : ∃ L acc, Hid (St cl cd sy k = (L, acc)) := ⟨_, _, rfl⟩
      rw [Hst.out] at hown hI
      have hLk : L.length ≤ k := by have := St_len cl cd sy k; rw [Hst.out] at this; exact this
      simp only at hown hI
      have hlen0 : (Lib.byteCells acc).length = acc.length := Lib.byteCells_length _
      have hLn := hide (Try.Builder_Len_f w.heap.size w.heap.size _ _ hI)
      by_cases hae : acc = []
      · have hl0 : (acc.length : Int) = 0 := by simp [hae]
        have HF : Hid (spansOf cl cd sy k = L) := by
          show spansOf cl cd sy k = L
          unfold spansOf fin
          rw [Hst.out]
          simp [hae]
        clear hae
        go_wp2_with fail
        refine (unhide hLn).mono ?_
        rintro e w' ⟨rfl, rfl⟩
        go_wp2
        go_ret
        exact ⟨⟨_, rfl, by rw [HF.out]; exact hown⟩, hbr⟩
      · have hl0 : (0 : Int) < (acc.length : Int) := by
          have : 0 < acc.length := List.length_pos_iff.2 hae
          omega
        have hkp : 0 < k := by
          rcases Nat.eq_zero_or_pos k with h | h
          · exfalso
            subst h
            have := Hst.out
            simp [St] at this
            exact hae this.2
          · exact h
        obtain ⟨k', rfl⟩ : ∃ k', k = k' + 1 := ⟨k - 1, by omega⟩
        obtain ⟨y, Hy⟩ : ∃ y, Hid (sy k' = y) := ⟨_, rfl⟩
        obtain ⟨st, Hs⟩ : ∃ st, Hid (stOf S y = st) := ⟨_, rfl⟩
        have HF : Hid (spansOf cl cd sy (k' + 1) = L ++ [(acc, y)]) := by
          show spansOf cl cd sy (k' + 1) = _
          unfold spansOf fin
          rw [Hst.out]
          simp [hae, Hy.out]
        have d1 : w.cell? ⟨bc, k' * 2 + 1, none⟩ = some (.int .u32 y) := by rw [← Hy.out]; exact hG.out.hs k' (by omega)
        have hbc : bc < w.heap.size := World.block_lt_of_cell? w _ d1
        have hbs : bs < w.heap.size := World.block_lt_of_cell? w _ hG.out.hf
        have hp0 : (0 : Int) ≤ (k' : Int) := Int.natCast_nonneg _
        have hp1 : (k' : Int) < (k' : Int) + 1 := by omega
        have hwk : IntKind.i64.wrap (k' : Int) = (k' : Int) := by rw [IntKind.wrap_i64]; omega
        obtain ⟨hy0, hy1⟩ := hG.out.hsy k' (by omega)
        rw [Hy.out] at hy0 hy1
        obtain ⟨cs0, hbk⟩ := builder_block hI
        obtain ⟨i0, hi0, hz0, hz1, hz2⟩ := info_parts info43
        have hI2d : Lib.IsBuilderF 82 5 w.heap.size w.heap.size (Lib.byteCells acc) wr.drew := hI
        have hown2d : wr.drew.ownsRow w.heap.size 43 15 u5 L.length (spansCells S L) := hown
        have hbkd : wr.drew.heap[w.heap.size]? = some (.cells cs0 82 (0, 0)) := hbk
        have hsame : ∀ j o, j < w.heap.size → wr.drew.cell? ⟨j, o, none⟩ = w.cell? ⟨j, o, none⟩ := same_of hbr.drew
        go_wp2_with fail
        refine (unhide hLn).mono ?_
        rintro e w' ⟨rfl, rfl⟩
        go_wp2
        go_region_held3 (fun w' => ∀ j o, j < w.heap.size → w'.cell? ⟨j, o, none⟩ = w.cell? ⟨j, o, none⟩) (first | with_reducible exact hsame | with_reducible exact same_of (by assumption) | with_reducible exact same_alloc (by assumption) _ | with_reducible exact same_alloc2 (by assumption) _ _)
          (first | (go_at_call 29; refine (Try.Builder_String_k w.heap.size w.heap.size acc _ hI2d hae).mono ?_; rintro e w1 ⟨rfl, hI3, b3, o3⟩; have hb3 := Below.trans hbr.drew b3; have hown3 := owns_others hown2d o3 hbkd) | (go_at_call 30; refine (styleNumbered_lit bs sa ns nc S y st Hs.out _ hy0 hy1 hG.out.hns (field_later (by assumption) hG.out.hf) (hG.out.hS.later (by assumption))).mono ?_; rintro e w2 ⟨rfl, rfl⟩) | (refine step_append_lies _ (by rfl) _ _ _ (by rfl) w.heap.size 43 i0 _ 15 32 Try.underlying32 hi0 hz0 hz1 hz2 rfl (by omega) u5 L.length (spansCells S L) (by rfl) ((World.ownsRow.alloc (by assumption) _).alloc _) ⟨w1.heap.size + 1, 0, none⟩ 1 1 [.string ⟨acc.toArray⟩, .int .u8 st.a0, .int .u8 st.a1, .int .u8 st.a2, .int .u8 st.a3, .int .u8 st.a4, .int .u8 st.a5, .int .u8 st.a6, .int .u8 st.a7, .int .u8 st.a8, .int .u8 st.a9, .bool st.b0, .bool st.b1, .bool st.b2, .bool st.b3] (by rfl) (by rfl) (World.news_of_block (cs := #[.string ⟨acc.toArray⟩, .int .u8 st.a0, .int .u8 st.a1, .int .u8 st.a2, .int .u8 st.a3, .int .u8 st.a4, .int .u8 st.a5, .int .u8 st.a6, .int .u8 st.a7, .int .u8 st.a8, .int .u8 st.a9, .bool st.b0, .bool st.b1, .bool st.b2, .bool st.b3]) (t := 43) (fr := (0, 0)) (second_new w1 _ _)) (by simp [Value.oneCell']) (by omega) (by unfold maxLen; omega) (by omega) (by have := hb3.size; simp; omega) _ rfl ?_; intro gg cap w4 hown4 hgrow hat hlt4; have hb4 := below_after hb3 hown3 hgrow))
        have hown5 := owns_span (spanCells_lit S acc y st Hs.out) hown4
        go_wp2
        go_ret
        exact ⟨⟨_, rfl, by rw [HF.out]; exact hown5⟩, hb4⟩

end Go.Proofs.Qxb6612232a
