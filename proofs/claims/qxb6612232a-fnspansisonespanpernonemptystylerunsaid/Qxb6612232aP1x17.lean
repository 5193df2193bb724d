/-
  Law 1: the piece from statement 17 on.
-/
import Derived.Test.Qxb6612232aPre1
import Derived.Deep.CutBlock
set_option linter.unusedVariables false
namespace Go.Proofs.Qxb6612232a
open Go.RowKit
attribute [local go_sem ↓] Go.wp_at_zero Go.wp_at_succ

set_option maxHeartbeats 16000000 in
set_option maxRecDepth 100000 in
theorem p1_17 (round : V1_0) (next : S1_18) : S1_17 := by
  unfold S1_18 at next
  have NX := hide next
  clear next
  unfold V1_0 X1_0 at round
  have RD := hide round
  clear round
  unfold S1_17
  intro w W a0 n cd a1 sy sa ns tc S a3 nl cl a4 c4 L H B hL R1 s2 s4 s5 s6 s7 s8 s9 s10 s11 s12 s13 s14 s15 s16 s22 s23 s24 s25 s26 s27 s28 s29 s30 s31 s32 s33 s34 s35 s36 s37 s38 s39 s40 s41 s42 s43 s44 s45 s46 s47 s48 s49 s50 s51 s52 s53 s54 s55 s56 s57 s58 s59 s60 s61 s62 s63 s64 s65 s66 s67 s68 s69 s70 s71 s72 s73 s74 s75 s76 s77 s78 s79 s80 s81 s82 s83 s84 s85 s86 s87 s88 s89 s90 s91 s92 s93 s94 s95 s96 s97 s98 s99 s100 s101 s102 s103 s104 s105 s106 s107 s108 s109 s110 s111 s112 s113 s114 s115 s116 s117 s118 s119 s120 s121 s122 s123 s124 s125 s126 s127 s128 s129 s130 s131 s132 s133 s134 s135 s136 s137 s138 s139 s140 s141 s142 s143 s144 s145 s146 s147 s148 s149 s150 s151 s152 s153 s154 s155 s156 s157 s158 s159 s160 s161 s162 s163 s164 s165 s166 s167 s168 s169 s170 s171 s172 s173 s174 s175 s176 s177 s178 s179 s180 s181 s182 s183 s184 s185 s186 s187 s188 s189 s190 s191 s192 s193 s194 s195 s196 s197 s198 s199 s200 s201 s202 s203 s204 s205 s206 s207 s208 s209 s210 s211 s212 s213 s214 s215 s216 s217 s218 s219 s220 s221 s222 s223 s224
  rw [T1_17_eq]
  refine wp_seq ?_
  conv => arg 2; whnf
  have hH := hide H
  have hn := H.hn
  have HL := hide hL
  have HR := hide R1
  have Bs := B.size
  clear H hL R1
  go_wp2
  dsimp only
  go_loopw [20, 21] (fun v i wr => ∃ s : Nat, ∃ a c, s ≤ n ∧ i = .int .i64 s ∧ v = .slice a (spansOf cl cd sy s).length c ∧ Hid (s < n → Cut cd sy s) ∧ wr.ownsRow W.heap.size 43 15 (.slice a (spansOf cl cd sy s).length c) (spansOf cl cd sy s).length (spansCells S (spansOf cl cd sy s)) ∧ Below W.heap.size W wr) (fun _ i _ => n - (intOf i).toNat)
  case atStart => exact ⟨0, none, 0, Nat.zero_le _, rfl, rfl, fun _ => .inl rfl, ⟨rfl, Or.inl ⟨rfl, rfl⟩⟩, Below.refl _ _⟩
  case round =>
    obtain ⟨s, a, c, hs, rfl, rfl, HC, hown, hbr⟩ := hrel
    by_cases hlt : s < n
    · have HO := hide hown
      have hlt' : (s : Int) < (n : Int) := by omega
      clear hown
      go_upto_block 5 with fail
      refine wp_block ?_
      refine (unhide RD) _ W wr a0 n cd a1 sy sa ns tc S a3 nl cl (.slice a4 L.length c4) s a c _ _ _ _ _ _ _ _ _ _ _ _ _ _ _ _ _ _ _ _ _ _ _ _ _ _ _ _ _ _ _ _ _ _ _ _ _ _ _ _ _ _ _ _ _ _ _ _ _ _ _ _ _ _ _ _ _ _ _ _ _ _ _ _ _ _ _ _ _ _ _ _ _ _ _ _ _ _ _ _ _ _ _ _ _ _ _ _ _ _ _ _ _ _ _ _ _ _ _ _ _ _ _ _ _ _ _ _ _ _ _ _ _ _ _ _ _ _ _ _ _ _ _ _ _ _ _ _ _ _ _ _ _ _ _ _ _ _ _ _ _ _ _ _ _ _ _ _ _ _ _ _ _ _ _ hH.out hbr hlt HC.out HO.out ?_ _ _ _ _ _ _ _ _ _ _ _ _ _ _ _ _ _ _ _ _ _ _ _ _ _ _ _ _ _ _ _ _ _ _ _ _ _ _ _ _ _ _ _ _ _ _ _ _ _ _ _ _ _ _ _ _ _ _ _ _ _ _
      intro W' e a' c' he0 he1 hce hown' hb' r22 r23 r24 r163 r164 r165 r166 r167 r168 r169 r170 r171 r172 r173 r174 r175 r176 r177 r178 r179 r180 r181 r182 r183 r184 r185 r186 r187 r188 r189 r190 r191 r192 r193 r194 r195 r196 r197 r198 r199 r200 r201 r202 r203 r204 r205 r206 r207 r208 r209 r210 r211 r212 r213 r214 r215 r216 r217 r218 r219 r220 r221
      go_wp2
      go_roundw
      case rel => exact ⟨e, a', c', he1, rfl, rfl, hce, hown', hb'⟩
      case measure => simp [intOf]; omega
    · have hsn : s = n := by omega
      subst hsn
      have HO := hide (owns_base hown Bs)
      have hll : Hid ((spansOf cl cd sy s).length ≤ 65537) := by have := spansOf_len cl cd sy s; show _ ≤ _; omega
      have HR2 := hide (owns_later HR.out hbr)
      have hL2 := HL.out
      subst hL2
      clear hown
      go_wp2
      exact (unhide NX) w wr S a4 c4 _ a c (B.trans (hbr.mono Bs)) hll.out HR2.out HO.out _ _ _ _ _ _ _ _ _ _ _ _ _ _ _ _ _ _ _ _ _ _ _ _ _ _ _ _ _ _ _ _ _ _ _ _ _ _ _ _ _ _ _ _ _ _ _ _ _ _ _ _ _ _ _ _ _ _ _ _ _ _ _ _ _ _ _ _ _ _ _ _ _ _ _ _ _ _ _ _ _ _ _ _ _ _ _ _ _ _ _ _ _ _ _ _ _ _ _ _ _ _ _ _ _ _ _ _ _ _ _ _ _ _ _ _ _ _ _ _ _ _ _ _ _ _ _ _ _ _ _ _ _ _ _ _ _ _ _ _ _ _ _ _ _ _ _ _ _ _ _ _ _ _ _ _ _ _ _ _ _ _ _ _ _ _ _ _ _ _ _ _ _ _ _ _ _ _ _ _ _ _ _ _ _ _ _ _ _ _ _ _ _ _ _ _ _ _ _ _ _ _ _ _ _ _ _ _ _ _ _ _ _ _ _ _ _ _ _ _ _ _ _

end Go.Proofs.Qxb6612232a
