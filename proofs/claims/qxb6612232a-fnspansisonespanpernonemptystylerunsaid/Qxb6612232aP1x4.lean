/-
  Law 1: the piece from statement 4 on.
-/
import Derived.Test.Qxb6612232aPre1
set_option linter.unusedVariables false
namespace Go.Proofs.Qxb6612232a
open Go.RowKit
attribute [local go_sem ↓] Go.wp_at_zero Go.wp_at_succ

set_option maxHeartbeats 16000000 in
set_option maxRecDepth 100000 in
theorem p1_4 (next : S1_5) : S1_4 := by
  unfold S1_5 at next
  have NX := hide next
  clear next
  unfold S1_4
  intro w ca n cc cd ya ny yc sy sa ns nc S la nl lc cl W a0 G hb hc B R0 s4 s5 s6 s7 s8 s9 s10 s11 s12 s13 s14 s15 s16 s17 s18 s19 s20 s21 s22 s23 s24 s25 s26 s27 s28 s29 s30 s31 s32 s33 s34 s35 s36 s37 s38 s39 s40 s41 s42 s43 s44 s45 s46 s47 s48 s49 s50 s51 s52 s53 s54 s55 s56 s57 s58 s59 s60 s61 s62 s63 s64 s65 s66 s67 s68 s69 s70 s71 s72 s73 s74 s75 s76 s77 s78 s79 s80 s81 s82 s83 s84 s85 s86 s87 s88 s89 s90 s91 s92 s93 s94 s95 s96 s97 s98 s99 s100 s101 s102 s103 s104 s105 s106 s107 s108 s109 s110 s111 s112 s113 s114 s115 s116 s117 s118 s119 s120 s121 s122 s123 s124 s125 s126 s127 s128 s129 s130 s131 s132 s133 s134 s135 s136 s137 s138 s139 s140 s141 s142 s143 s144 s145 s146 s147 s148 s149 s150 s151 s152 s153 s154 s155 s156 s157 s158 s159 s160 s161 s162 s163 s164 s165 s166 s167 s168 s169 s170 s171 s172 s173 s174 s175 s176 s177 s178 s179 s180 s181 s182 s183 s184 s185 s186 s187 s188 s189 s190 s191 s192 s193 s194 s195 s196 s197 s198 s199 s200 s201 s202 s203 s204 s205 s206 s207 s208 s209 s210 s211 s212 s213 s214 s215 s216 s217 s218 s219 s220 s221 s222 s223 s224
  rw [T1_4_eq]
  refine wp_seq ?_
  conv => arg 2; whnf
  have hG := hide G
  have hB := hide hb
  obtain ⟨b1, b2, b3, b4⟩ := hb
  have hcl := hide hc
  clear G hc
  have qn := fun w => run_neq_slice_nil_any (P := Try.prog) w 23 28 ya ny yc 0 0 Try.underlying23
  cases ya with
  | none =>
    obtain ⟨e1, e2⟩ := hG.out.z2 rfl
    subst e1 e2
    go_wp2
    exact (unhide NX) w _ _ _ _ _ _ _ _ _ _ _ _ _ _ _ _ W a0 none hG.out hB.out hcl.out B R0 (.inl rfl) _ _ _ _ _ _ _ _ _ _ _ _ _ _ _ _ _ _ _ _ _ _ _ _ _ _ _ _ _ _ _ _ _ _ _ _ _ _ _ _ _ _ _ _ _ _ _ _ _ _ _ _ _ _ _ _ _ _ _ _ _ _ _ _ _ _ _ _ _ _ _ _ _ _ _ _ _ _ _ _ _ _ _ _ _ _ _ _ _ _ _ _ _ _ _ _ _ _ _ _ _ _ _ _ _ _ _ _ _ _ _ _ _ _ _ _ _ _ _ _ _ _ _ _ _ _ _ _ _ _ _ _ _ _ _ _ _ _ _ _ _ _ _ _ _ _ _ _ _ _ _ _ _ _ _ _ _ _ _ _ _ _ _ _ _ _ _ _ _ _ _ _ _ _ _ _ _ _ _ _ _ _ _ _ _ _ _ _ _ _ _ _ _ _ _ _ _ _ _ _ _ _ _ _ _ _ _ _ _ _ _ _ _ _ _ _ _ _ _ _ _
  | some ad =>
    obtain ⟨i0, hi, hz0, hz1, hz2⟩ := info_parts info28
    have hRow : RowAt W (some ad) ny (fun i => Value.int .u32 (sy i)) := RowAt.later (w := w) hG.out.hY B
    have HR := hide hRow
    clear hRow
    go_wp2_with (refine wpList_make_full _ rfl (.tmp 61) (.tmp 61) 23 rfl W.heap.size 28 i0 (.int .u32 0) 1 Try.underlying23 hi hz0 hz1 .i64 .i64 ny ny ny rfl rfl rfl rfl (by rw [hz2]; omega) (by unfold maxLen; omega) (Nat.le_refl _) ?_)
    intro w1 hown hgrow
    obtain ⟨cur, hrun, hrow, hbel⟩ := copy_step (P := Try.prog) (dT := 23) (ty := 3) (cc := yc) Try.underlying23 size28 (fun _ => rfl) HR.out hown hgrow
    clear hown hgrow hi hz0 hz1 hz2
    go_wp2
    exact (unhide NX) w _ _ _ _ _ _ _ _ _ _ _ _ _ _ _ _ _ a0 _ hG.out hB.out hcl.out (B.trans (hbel.mono B.size)) (R0.later hbel) hrow _ _ _ _ _ _ _ _ _ _ _ _ _ _ _ _ _ _ _ _ _ _ _ _ _ _ _ _ _ _ _ _ _ _ _ _ _ _ _ _ _ _ _ _ _ _ _ _ _ _ _ _ _ _ _ _ _ _ _ _ _ _ _ _ _ _ _ _ _ _ _ _ _ _ _ _ _ _ _ _ _ _ _ _ _ _ _ _ _ _ _ _ _ _ _ _ _ _ _ _ _ _ _ _ _ _ _ _ _ _ _ _ _ _ _ _ _ _ _ _ _ _ _ _ _ _ _ _ _ _ _ _ _ _ _ _ _ _ _ _ _ _ _ _ _ _ _ _ _ _ _ _ _ _ _ _ _ _ _ _ _ _ _ _ _ _ _ _ _ _ _ _ _ _ _ _ _ _ _ _ _ _ _ _ _ _ _ _ _ _ _ _ _ _ _ _ _ _ _ _ _ _ _ _ _ _ _ _ _ _ _ _ _ _ _ _ _ _ _ _ _

end Go.Proofs.Qxb6612232a
