/-
  Law 1: the round from its statement 3 on.
-/
import Derived.Test.Qxb6612232aBase1
set_option linter.unusedVariables false
namespace Go.Proofs.Qxb6612232a
open Go.RowKit
attribute [local go_sem ↓] Go.wp_at_zero Go.wp_at_succ

set_option maxHeartbeats 16000000 in
set_option maxRecDepth 100000 in
theorem v1_3 (next : V1_4) : V1_3 := by
  unfold V1_4 at next
  have NX := hide next
  clear next
  unfold V1_3
  intro Q W0 W a0 n cd a1 sy sa ns tc S a3 nl cl vgot s av cv e s2 s4 s5 s6 s7 s8 s9 s10 s11 s12 s13 s14 s15 s16 s25 s26 s27 s28 s29 s30 s31 s32 s33 s34 s35 s36 s37 s38 s39 s40 s41 s42 s43 s44 s45 s46 s47 s48 s49 s50 s51 s52 s53 s54 s55 s56 s57 s58 s59 s60 s61 s62 s63 s64 s65 s66 s67 s68 s69 s70 s71 s72 s73 s74 s75 s76 s77 s78 s79 s80 s81 s82 s83 s84 s85 s86 s87 s88 s89 s90 s91 s92 s93 s94 s95 s96 s97 s98 s99 s100 s101 s102 s103 s104 s105 s106 s107 s108 s109 s110 s111 s112 s113 s114 s115 s116 s117 s118 s119 s120 s121 s122 s123 s124 s125 s126 s127 s128 s129 s130 s131 s132 s133 s134 s135 s136 s137 s138 s139 s140 s141 s142 s143 s144 s145 s146 s147 s148 s149 s150 s151 s152 s153 s154 s155 s156 s157 s158 s159 s160 s161 s162 s222 s223 s224 H B hs hc R he hce hev hQ s24 s163 s164 s165 s166 s167 s168 s169 s170 s171 s172 s173 s174 s175 s176 s177 s178 s179 s180 s181 s182 s183 s184 s185 s186 s187 s188 s189 s190 s191 s192 s193 s194 s195 s196 s197 s198 s199 s200 s201 s202 s203 s204 s205 s206 s207 s208 s209 s210 s211 s212 s213 s214 s215 s216 s217 s218 s219 s220 s221
  rw [X1_3_eq]
  refine wp_seq ?_
  conv => arg 2; whnf
  have hH := hide H
  have hn := H.hn
  have HC := hide hc
  have HR := hide R
  have HQ := hide hQ
  clear H hc R hQ
  have HE := hide he
  obtain ⟨he0, he1⟩ := he
  have HCE := hide hce
  have HEV := hide hev
  have hcat := hH.out.hlen
  have hnl := hH.out.hnl
  have Bs := B.size
  clear hce hev
  go_wp2
  go_loopw [23, 24] (fun v i wr => ∃ j : Nat, s ≤ j ∧ j ≤ e ∧ i = .int .i64 j ∧ wr.ownsRow W.heap.size 5 1 v (cat cl (fun i => cd (s + i)) (j - s)).length (Lib.byteCells (cat cl (fun i => cd (s + i)) (j - s))) ∧ Below W.heap.size W wr) (fun _ i _ => e - (intOf i).toNat)
  case atStart => exact ⟨s, Nat.le_refl _, by omega, rfl, by rw [Nat.sub_self]; exact ⟨rfl, Or.inl ⟨rfl, rfl⟩⟩, Below.refl _ _⟩
  case round =>
    obtain ⟨j, hj0, hj, rfl, hown, hbr⟩ := hrel
    by_cases hlt : j < e
    · have hbs := hbr.size
      have hb0 := B.trans (hbr.mono Bs)
      obtain ⟨cb, coff, rfl, hCs⟩ : ∃ b off, a0 = some ⟨b, off, none⟩ ∧ ∀ i, i < n → wr.cell? ⟨b, off + i, none⟩ = some (.int .i32 (cd i)) := by
        rcases (hH.out.hC.later hb0) with h | h
        · omega
        · exact h
      have c0 := hCs j (by omega)
      obtain ⟨hc0, hc1, hc2⟩ := hH.out.hcd j (by omega)
      have hstep : cat cl (fun i => cd (s + i)) (j + 1 - s) = cat cl (fun i => cd (s + i)) (j - s) ++ txt cl (cd j) := by
        rw [show j + 1 - s = (j - s) + 1 by omega, cat]
        simp only [show s + (j - s) = j by omega]
      have hle : (cat cl (fun i => cd (s + i)) (j - s)).length + (txt cl (cd j)).length ≤ 2097152 := by
        have h1 := cat_mono cl cd (show s + (j + 1 - s) ≤ n by omega)
        rw [cat_shift, hstep, List.length_append, List.length_append] at h1
        omega
      have H2 := hide (appendCell_any W.heap.size _ _ _ (cd j) a3 nl nl cl wr hown hbs hc0 hc1 hc2 hnl (hH.out.hL.later hb0) hle)
      have HST := hide hstep
      obtain ⟨c, Hc⟩ : ∃ c, Hid (cd j = c) := ⟨_, rfl⟩
      rw [Hc.out] at c0 H2
      have hlt' : (j : Int) < (e : Int) := by omega
      have hjn : (j : Int) < (n : Int) := by omega
      clear hCs hc0 hc1 hc2 hown hstep hle
      go_wp2_with fail
      refine (unhide H2).mono ?_
      rintro e2 w2 ⟨⟨v', rfl, hown'⟩, hb2⟩
      have hend : w2.ownsRow W.heap.size 5 1 v' (cat cl (fun i => cd (s + i)) (j + 1 - s)).length (Lib.byteCells (cat cl (fun i => cd (s + i)) (j + 1 - s))) := by
        rw [HST.out, List.length_append, Lib.byteCells_append, Hc.out]
        exact hown'
      have hb3 := hbr.trans hb2
      clear hown' H2 hb0
      dsimp only
      go_wp2
      go_roundw
      case rel => exact ⟨j + 1, by omega, by omega, by go_num, hend, hb3⟩
      case measure => simp [intOf]; omega
    · have hjl : j = e := by omega
      subst hjl
      have HO := hide (owns_base hown Bs)
      clear hown
      go_wp2
      exact (unhide NX) Q W0 _ a0 n cd a1 sy sa ns tc S a3 nl cl vgot s av cv _ _ _ s2 s4 s5 s6 s7 s8 s9 s10 s11 s12 s13 s14 s15 s16 s25 s26 s27 s28 s29 s30 s31 s32 s33 s34 s35 s36 s37 s38 s39 s40 s41 s42 s43 s44 s45 s46 s47 s48 s49 s50 s51 s52 s53 s54 s55 s56 s57 s58 s59 s60 s61 s62 s63 s64 s65 s66 s67 s68 s69 s70 s71 s72 s73 s74 s75 s76 s77 s78 s79 s80 s81 s82 s83 s84 s85 s86 s87 s88 s89 s90 s91 s92 s93 s94 s95 s96 s97 s98 s99 s100 s101 s102 s103 s104 s105 s106 s107 s108 s109 s110 s111 s112 s113 s114 s115 s116 s117 s118 s119 s120 s121 s122 s123 s124 s125 s126 s127 s128 s129 s130 s131 s132 s133 s134 s135 s136 s137 s138 s139 s140 s141 s142 s143 s144 s145 s146 s147 s148 s149 s150 s151 s152 s153 s154 s155 s156 s157 s158 s159 s160 s161 s162 s222 s223 s224 hH.out (B.trans (hbr.mono Bs)) hs HC.out (owns_later HR.out hbr) HE.out HCE.out HEV.out rfl HO.out HQ.out _ _ _ _ _ _ _ _ _ _ _ _ _ _ _ _ _ _ _ _ _ _ _ _ _ _ _ _ _ _ _ _ _ _ _ _ _ _ _ _ _ _ _ _ _ _ _ _ _ _ _ _ _ _ _ _ _ _ _ _

end Go.Proofs.Qxb6612232a
