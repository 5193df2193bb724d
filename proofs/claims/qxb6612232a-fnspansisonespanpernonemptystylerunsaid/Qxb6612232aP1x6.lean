/-
  Law 1: the piece from statement 6 on.
-/
import Derived.Test.Qxb6612232aPre1
set_option linter.unusedVariables false
namespace Go.Proofs.Qxb6612232a
open Go.RowKit
attribute [local go_sem ↓] Go.wp_at_zero Go.wp_at_succ

set_option maxHeartbeats 16000000 in
set_option maxRecDepth 100000 in
theorem p1_6 (next : S1_8) : S1_6 := by
  unfold S1_8 at next
  have NX := hide next
  clear next
  unfold S1_6
  intro w W a0 n cd a1 ny sy sa ns nc S a3 nl cl hb hc B R0 R1 R3 hS z3 hcd hsy s4 s5 s6 s7 s8 s9 s10 s11 s12 s13 s14 s15 s16 s17 s18 s19 s20 s21 s22 s23 s24 s25 s26 s27 s28 s29 s30 s31 s32 s33 s34 s35 s36 s37 s38 s39 s40 s41 s42 s43 s44 s45 s46 s47 s48 s49 s50 s51 s52 s53 s54 s55 s56 s57 s58 s59 s60 s61 s62 s63 s64 s65 s66 s67 s68 s69 s70 s71 s72 s73 s74 s75 s76 s77 s78 s79 s80 s81 s82 s83 s84 s85 s86 s87 s88 s89 s90 s91 s92 s93 s94 s95 s96 s97 s98 s99 s100 s101 s102 s103 s104 s105 s106 s107 s108 s109 s110 s111 s112 s113 s114 s115 s116 s117 s118 s119 s120 s121 s122 s123 s124 s125 s126 s127 s128 s129 s130 s131 s132 s133 s134 s135 s136 s137 s138 s139 s140 s141 s142 s143 s144 s145 s146 s147 s148 s149 s150 s151 s152 s153 s154 s155 s156 s157 s158 s159 s160 s161 s162 s163 s164 s165 s166 s167 s168 s169 s170 s171 s172 s173 s174 s175 s176 s177 s178 s179 s180 s181 s182 s183 s184 s185 s186 s187 s188 s189 s190 s191 s192 s193 s194 s195 s196 s197 s198 s199 s200 s201 s202 s203 s204 s205 s206 s207 s208 s209 s210 s211 s212 s213 s214 s215 s216 s217 s218 s219 s220 s221 s222 s223 s224
  rw [T1_6_eq]
  refine wp_seq ?_
  conv => arg 2; whnf
  have hB := hide hb
  obtain ⟨b1, b2, b3, b4⟩ := hb
  have hcl := hide hc
  have HS := hide hS
  have hz3 := hide z3
  have HCD := hide hcd
  have HSY := hide hsy
  have H0 := hide R0
  have H1 := hide R1
  have H3 := hide R3
  clear hc hS z3 hcd hsy R0 R1 R3
  have hl0 : (0 : Int) ≤ 4 * (n : Int) + 4 * (ny : Int) + 16 * (ns : Int) + 16 * (nl : Int) := by omega
  have hl1 : 4 * (n : Int) + 4 * (ny : Int) + 16 * (ns : Int) + 16 * (nl : Int) ≤ 4000000 := by omega
  go_wp2
  rw [T1_7_eq]
  refine wp_seq ?_
  conv => arg 2; whnf
  go_wp2
  go_loop [12, 13] (fun z i => ∃ k : Nat, ∃ Z : Int, k ≤ nl ∧ i = .int .i64 k ∧ z = .int .i64 Z ∧ 0 ≤ Z ∧ Z ≤ 4000000) (fun _ i => nl - (intOf i).toNat)
  case atStart => exact ⟨0, _, Nat.zero_le _, rfl, rfl, by omega, by omega⟩
  case round =>
    obtain ⟨k, Z, hk, rfl, rfl, hZ0, hZ1⟩ := hrel
    clear hl0 hl1
    by_cases hlt : k < nl
    · obtain ⟨lb, loff, rfl, hLs⟩ : ∃ b off, a3 = some ⟨b, off, none⟩ ∧ ∀ i, i < nl → W.cell? ⟨b, off + i, none⟩ = some (.string (cl i)) := by
        rcases H3.out with h | h
        · omega
        · exact h
      have hlm := hLs k hlt
      have hsz := hcl.out k hlt
      obtain ⟨str, hstr⟩ : ∃ str, cl k = str := ⟨_, rfl⟩
      rw [hstr] at hlm hsz
      have hlt' : (k : Int) < (nl : Int) := by omega
      have hs' : (str.size : Int) ≤ 1048576 := by omega
      clear hLs hstr
      by_cases hz : Z + str.size ≤ 1048576
      · go_wp2
        go_round
        case rel => exact ⟨k + 1, Z + str.size, by omega, by go_num, rfl, by omega, by omega⟩
        case measure => simp [intOf]; omega
      · go_wp2
        go_ret
        exact ⟨rfl, B⟩
    · go_wp2
      exact (unhide NX) w W a0 n cd a1 ny sy sa ns nc S a3 nl cl Z hB.out hcl.out B H0.out H1.out H3.out HS.out hz3.out HCD.out HSY.out ⟨hZ0, hZ1⟩ _ _ _ _ _ _ _ _ _ _ _ _ _ _ _ _ _ _ _ _ _ _ _ _ _ _ _ _ _ _ _ _ _ _ _ _ _ _ _ _ _ _ _ _ _ _ _ _ _ _ _ _ _ _ _ _ _ _ _ _ _ _ _ _ _ _ _ _ _ _ _ _ _ _ _ _ _ _ _ _ _ _ _ _ _ _ _ _ _ _ _ _ _ _ _ _ _ _ _ _ _ _ _ _ _ _ _ _ _ _ _ _ _ _ _ _ _ _ _ _ _ _ _ _ _ _ _ _ _ _ _ _ _ _ _ _ _ _ _ _ _ _ _ _ _ _ _ _ _ _ _ _ _ _ _ _ _ _ _ _ _ _ _ _ _ _ _ _ _ _ _ _ _ _ _ _ _ _ _ _ _ _ _ _ _ _ _ _ _ _ _ _ _ _ _ _ _ _ _ _ _ _ _ _ _ _ _ _ _ _ _ _ _ _ _ _ _ _ _ _

end Go.Proofs.Qxb6612232a
