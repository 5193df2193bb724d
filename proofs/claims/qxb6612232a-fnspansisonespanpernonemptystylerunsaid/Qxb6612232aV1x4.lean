/-
  Law 1: the round from its statement 4 on.
-/
import Derived.Test.Qxb6612232aBase1
import Derived.Deep.RegionHeld3
import Derived.Deep.AppendLies
set_option linter.unusedVariables false
namespace Go.Proofs.Qxb6612232a
open Go.RowKit
attribute [local go_sem ↓] Go.wp_at_zero Go.wp_at_succ

set_option maxHeartbeats 16000000 in
set_option maxRecDepth 100000 in
theorem v1_4 : V1_4 := by
  unfold V1_4
  intro Q W0 W a0 n cd a1 sy sa ns tc S a3 nl cl vgot s av cv e v t s2 s4 s5 s6 s7 s8 s9 s10 s11 s12 s13 s14 s15 s16 s25 s26 s27 s28 s29 s30 s31 s32 s33 s34 s35 s36 s37 s38 s39 s40 s41 s42 s43 s44 s45 s46 s47 s48 s49 s50 s51 s52 s53 s54 s55 s56 s57 s58 s59 s60 s61 s62 s63 s64 s65 s66 s67 s68 s69 s70 s71 s72 s73 s74 s75 s76 s77 s78 s79 s80 s81 s82 s83 s84 s85 s86 s87 s88 s89 s90 s91 s92 s93 s94 s95 s96 s97 s98 s99 s100 s101 s102 s103 s104 s105 s106 s107 s108 s109 s110 s111 s112 s113 s114 s115 s116 s117 s118 s119 s120 s121 s122 s123 s124 s125 s126 s127 s128 s129 s130 s131 s132 s133 s134 s135 s136 s137 s138 s139 s140 s141 s142 s143 s144 s145 s146 s147 s148 s149 s150 s151 s152 s153 s154 s155 s156 s157 s158 s159 s160 s161 s162 s222 s223 s224 H B hs hc R he hce hev ht RT hQ s24 s163 s164 s165 s166 s167 s168 s169 s170 s171 s172 s173 s174 s175 s176 s177 s178 s179 s180 s181 s182 s183 s184 s185 s186 s187 s188 s189 s190 s191 s192 s193 s194 s195 s196 s197 s198 s199 s200 s201 s202 s203 s204 s205 s206 s207 s208 s209 s210 s211 s212 s213 s214 s215 s216 s217 s218 s219 s220 s221
  rw [X1_4_eq]
  refine wp_seq ?_
  conv => arg 2; whnf
  have hH := hide H
  have hn := H.hn
  have HC := hide hc
  have HR := hide R
  have HQ := hide hQ
  clear H hc hQ
  obtain ⟨he0, he1⟩ := he
  have HCE := hide hce
  have hrun := spansOf_run cl cd sy s e (HC.out hs) he0 hev
  rw [← ht] at hrun
  have htl : t.length ≤ 1048576 := by
    have h1 := cat_mono cl cd (show s + (e - s) ≤ n by omega)
    rw [cat_shift, List.length_append, ← ht] at h1
    have := hH.out.hlen
    omega
  clear hce hev ht
  obtain ⟨a7, c7, rfl⟩ := owns_slice RT
  have Bs := B.size
  by_cases ht0 : t = []
  · have hz : t.length = 0 := by rw [ht0]; rfl
    have hse : spansOf cl cd sy e = spansOf cl cd sy s := by rw [hrun, ht0]; simp [runSpan]
    have HZ := hide hz
    have hsame := hide hse
    have hzz : ((0 : Nat) : Int) = 0 := rfl
    subst ht0
    have HR2 := hide R
    clear hrun hse R hz
    go_wp2
    conv => arg 2; whnf
    go_wp2
    have hq := HQ.out W e av cv he0 he1 HCE.out (by rw [hsame.out]; exact HR2.out) B
    rw [hsame.out] at hq
    exact hq _ _ _ _ _ _ _ _ _ _ _ _ _ _ _ _ _ _ _ _ _ _ _ _ _ _ _ _ _ _ _ _ _ _ _ _ _ _ _ _ _ _ _ _ _ _ _ _ _ _ _ _ _ _ _ _ _ _ _ _ _ _
  · have hse : spansOf cl cd sy e = spansOf cl cd sy s ++ [(t, sy (e - 1))] := by rw [hrun]; simp [runSpan, ht0]
    have hl0 : (0 : Int) < (t.length : Int) := by
      have : 0 < t.length := List.length_pos_iff.2 ht0
      omega
    obtain ⟨p, Hp⟩ : ∃ p : Nat, Hid (e = p + 1) := ⟨e - 1, by show e = e - 1 + 1; omega⟩
    rw [show e - 1 = p by have := Hp.out; omega] at hse
    obtain ⟨y, Hy⟩ : ∃ y, Hid (sy p = y) := ⟨_, rfl⟩
    rw [Hy.out] at hse
    obtain ⟨st, Hs⟩ : ∃ st, Hid (stOf S y = st) := ⟨_, rfl⟩
    obtain ⟨str, Hstr⟩ : ∃ str : ByteArray, Hid ((⟨t.toArray⟩ : ByteArray) = str) := ⟨_, rfl⟩
    have HSE := hide hse
    obtain ⟨yb, yoff, rfl, hYs⟩ : ∃ b off, a1 = some ⟨b, off, none⟩ ∧ ∀ i, i < n → W0.cell? ⟨b, off + i, none⟩ = some (.int .u32 (sy i)) := by
      rcases hH.out.hY with h | h
      · omega
      · exact h
    have y0 := hYs p (by have := Hp.out; omega)
    rw [Hy.out] at y0
    have hyb : yb < W0.heap.size := World.block_lt_of_cell? W0 _ y0
    obtain ⟨hy0, hy1⟩ := hH.out.hsy p (by have := Hp.out; omega)
    rw [Hy.out] at hy0 hy1
    have hp0 : (0 : Int) ≤ (p : Int) := Int.natCast_nonneg _
    have hpn : (p : Int) < (n : Int) := by have := Hp.out; omega
    have hsub : (e : Int) - 1 = (p : Int) := by have := Hp.out; omega
    have hwk : IntKind.i64.wrap (e : Int) = (e : Int) := by rw [IntKind.wrap_i64]; omega
    have hwp : IntKind.i64.wrap (p : Int) = (p : Int) := by rw [IntKind.wrap_i64]; omega
    have hwp2 : IntKind.i64.wrap ((e : Int) - 1) = (p : Int) := by rw [hsub, hwp]
    obtain ⟨i0, hi0, hz0, hz1, hz2⟩ := info_parts info43
    have hsl := spansOf_len cl cd sy s
    obtain ⟨L, HLs⟩ : ∃ L, Hid (spansOf cl cd sy s = L) := ⟨_, rfl⟩
    rw [HLs.out] at R hsl HSE ⊢
    have hb0 : Below W.heap.size W W.drew := (Below.refl _ _).drew
    have HRW := hide R
    have HRT := hide RT
    have hconv : Hid (∀ w', (∀ j o, j < W.heap.size → w'.cell? ⟨j, o, none⟩ = W.cell? ⟨j, o, none⟩) → (convert 34 9 (.slice a7 t.length c7)).run Try.prog w' = .ok (.string str) w') := fun w' h => by
      have := conv_same HRT.out h
      rw [Hstr.out] at this
      exact this
    have hcv1 := hconv.out W.drew (same_of hb0)
    have hconv4 : Hid (∀ (w2 : World) (o : Obj) (w4 : World), Below W.heap.size W w2 → (w2.alloc o).grownBy w4 (Value.slice av L.length cv).ownBlock → (convert 34 9 (.slice a7 t.length c7)).run Try.prog w4 = .ok (.string str) w4) := fun w2 o w4 h hg => by
      have := conv_owned (text_kept ((owns_later HRT.out h).alloc o) ((owns_later HRW.out h).alloc o) hg)
      rw [Hstr.out] at this
      exact this
    have hsame : ∀ j o, j < W0.heap.size → W.drew.cell? ⟨j, o, none⟩ = W0.cell? ⟨j, o, none⟩ := same_of B.drew
    have hSt := hide ((hH.out.hS.later B).later hb0)
    have hns := hH.out.hns
    have hafter : Hid (∀ w2, w2 = W.drew.alloc (.cells #[.int .u8 st.a0, .int .u8 st.a1, .int .u8 st.a2, .int .u8 st.a3, .int .u8 st.a4, .int .u8 st.a5, .int .u8 st.a6, .int .u8 st.a7, .int .u8 st.a8, .int .u8 st.a9, .bool st.b0, .bool st.b1, .bool st.b2, .bool st.b3] 40) → Below W.heap.size W w2) := fun w2 h => by rw [h]; exact hb0.alloc hb0.size _
    clear hrun hse hYs R RT hb0
    go_wp2
    go_region_held3 (fun w' => (∀ j o, j < W0.heap.size → w'.cell? ⟨j, o, none⟩ = W0.cell? ⟨j, o, none⟩) ∧ (convert 34 9 (.slice a7 t.length c7)).run Try.prog w' = .ok (.string str) w') (first | with_reducible exact ⟨hsame, hcv1⟩ | with_reducible exact ⟨same_of (by assumption), by assumption⟩ | with_reducible exact ⟨same_alloc (by assumption) _, hcva _⟩)
      (first | (go_at_call 11; refine (styleOf_lit sa ns tc S y st Hs.out _ hy0 hy1 hns hSt.out).mono ?_; rintro e9 w2 ⟨rfl, hw2⟩; have hb2 := hafter.out w2 hw2; have hown2 := owns_later HRW.out hb2; have hcv2 := hconv.out w2 (same_of hb2); have hcva := fun o => hconv.out (w2.alloc o) (same_of (hb2.alloc hb2.size o)); have hb02 := Below.trans B (hb2.mono Bs); clear hw2) | (refine step_append_lies _ (by rfl) _ _ _ (by rfl) W0.heap.size 43 i0 _ 15 32 Try.underlying31 hi0 hz0 hz1 hz2 rfl (by omega) (.slice av L.length cv) L.length (spansCells S L) (by rfl) (World.ownsRow.alloc (by assumption) _) ⟨w2.heap.size, 0, none⟩ 1 1 [.string str, .int .u8 st.a0, .int .u8 st.a1, .int .u8 st.a2, .int .u8 st.a3, .int .u8 st.a4, .int .u8 st.a5, .int .u8 st.a6, .int .u8 st.a7, .int .u8 st.a8, .int .u8 st.a9, .bool st.b0, .bool st.b1, .bool st.b2, .bool st.b3] (by rfl) (by rfl) (World.news_of_block (cs := #[.string str, .int .u8 st.a0, .int .u8 st.a1, .int .u8 st.a2, .int .u8 st.a3, .int .u8 st.a4, .int .u8 st.a5, .int .u8 st.a6, .int .u8 st.a7, .int .u8 st.a8, .int .u8 st.a9, .bool st.b0, .bool st.b1, .bool st.b2, .bool st.b3]) (t := 43) (fr := (0, 0)) (heap_alloc_new w2 _)) (by simp [Value.oneCell']) (by omega) (by unfold maxLen; omega) (by omega) (by have := hb02.size; simp; omega) _ rfl ?_; intro gg cap w4 hown4 hgrow hat hlt4; have hb4 := below_after1 hb02 hown2 hgrow; have hcv4 := hconv4.out w2 _ w4 hb2 hgrow))
    have hown5 := owns_span (by rw [spanCells_lit S t y st Hs.out, Hstr.out]) hown4
    have hll : (L ++ [(t, y)]).length = L.length + 1 := by rw [List.length_append]; rfl
    have HLL := hide hll
    clear hll
    go_wp2
    conv => arg 2; whnf
    go_wp2
    have hq := HQ.out w4 e (some ⟨gg, 0, none⟩) cap he0 he1 HCE.out (by rw [HSE.out]; rw [HLL.out] at hown5 ⊢; exact hown5) hb4
    rw [HSE.out, HLL.out] at hq
    exact hq _ _ _ _ _ _ _ _ _ _ _ _ _ _ _ _ _ _ _ _ _ _ _ _ _ _ _ _ _ _ _ _ _ _ _ _ _ _ _ _ _ _ _ _ _ _ _ _ _ _ _ _ _ _ _ _ _ _ _ _ _ _

end Go.Proofs.Qxb6612232a
