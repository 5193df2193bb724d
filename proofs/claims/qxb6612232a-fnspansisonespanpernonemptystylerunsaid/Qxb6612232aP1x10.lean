/-
  Law 1: the piece from statement 10 on.
-/
import Derived.Test.Qxb6612232aPre1
set_option linter.unusedVariables false
namespace Go.Proofs.Qxb6612232a
open Go.RowKit
attribute [local go_sem ↓] Go.wp_at_zero Go.wp_at_succ

set_option maxHeartbeats 16000000 in
set_option maxRecDepth 100000 in
theorem p1_10 (next : S1_12) : S1_10 := by
  unfold S1_12 at next
  have NX := hide next
  clear next
  unfold S1_10
  intro w W a0 n cd a1 sy sa ns nc S a3 nl cl hb hc B R0 R1 R3 hS z3 hcd hsy s4 s5 s6 s7 s8 s9 s10 s11 s12 s13 s14 s15 s16 s17 s18 s19 s20 s21 s22 s23 s24 s25 s26 s27 s28 s29 s30 s31 s32 s33 s34 s35 s36 s37 s38 s39 s40 s41 s42 s43 s44 s45 s46 s47 s48 s49 s50 s51 s52 s53 s54 s55 s56 s57 s58 s59 s60 s61 s62 s63 s64 s65 s66 s67 s68 s69 s70 s71 s72 s73 s74 s75 s76 s77 s78 s79 s80 s81 s82 s83 s84 s85 s86 s87 s88 s89 s90 s91 s92 s93 s94 s95 s96 s97 s98 s99 s100 s101 s102 s103 s104 s105 s106 s107 s108 s109 s110 s111 s112 s113 s114 s115 s116 s117 s118 s119 s120 s121 s122 s123 s124 s125 s126 s127 s128 s129 s130 s131 s132 s133 s134 s135 s136 s137 s138 s139 s140 s141 s142 s143 s144 s145 s146 s147 s148 s149 s150 s151 s152 s153 s154 s155 s156 s157 s158 s159 s160 s161 s162 s163 s164 s165 s166 s167 s168 s169 s170 s171 s172 s173 s174 s175 s176 s177 s178 s179 s180 s181 s182 s183 s184 s185 s186 s187 s188 s189 s190 s191 s192 s193 s194 s195 s196 s197 s198 s199 s200 s201 s202 s203 s204 s205 s206 s207 s208 s209 s210 s211 s212 s213 s214 s215 s216 s217 s218 s219 s220 s221 s222 s223 s224
  rw [T1_10_eq]
  refine wp_seq ?_
  conv => arg 2; whnf
  obtain ⟨b1, b3, b4⟩ := hb
  have hcl := hide hc
  have HS := hide hS
  have hz3 := hide z3
  have HCD := hide hcd
  have HSY := hide hsy
  have H0 := hide R0
  have H1 := hide R1
  have H3 := hide R3
  clear hc hS z3 hcd hsy R0 R1 R3
  go_wp2
  rw [T1_11_eq]
  refine wp_seq ?_
  conv => arg 2; whnf
  go_wp2
  go_loop [14, 15] (fun o i => ∃ j : Nat, ∃ O : Int, j ≤ n ∧ i = .int .i64 j ∧ o = .int .i64 O ∧ O ≤ 1048576 ∧ ((cat cl cd j).length : Int) ≤ O ∧ Hid (∀ i, i < j → sy i ≤ ns ∧ (cd i ≤ -2 → (-2 - cd i).toNat < nl))) (fun _ i => n - (intOf i).toNat)
  case atStart => exact ⟨0, 0, Nat.zero_le _, rfl, rfl, by omega, by simp [cat], fun i hi => absurd hi (Nat.not_lt_zero _)⟩
  case round =>
    obtain ⟨j, O, hj, rfl, rfl, hO1, hO2, HJ⟩ := hrel
    have hO0 : 0 ≤ O := by omega
    by_cases hlt : j < n
    · skip
      obtain ⟨cb, coff, rfl, hCs⟩ : ∃ b off, a0 = some ⟨b, off, none⟩ ∧ ∀ i, i < n → W.cell? ⟨b, off + i, none⟩ = some (.int .i32 (cd i)) := by
        rcases H0.out with h | h
        · omega
        · exact h
      obtain ⟨yb, yoff, rfl, hYs⟩ : ∃ b off, a1 = some ⟨b, off, none⟩ ∧ ∀ i, i < n → W.cell? ⟨b, off + i, none⟩ = some (.int .u32 (sy i)) := by
        rcases H1.out with h | h
        · omega
        · exact h
      obtain ⟨c, Hc⟩ : ∃ c, Hid (cd j = c) := ⟨_, rfl⟩
      obtain ⟨y, Hy⟩ : ∃ y, Hid (sy j = y) := ⟨_, rfl⟩
      have c0 := hCs j hlt
      have y0 := hYs j hlt
      obtain ⟨hc0, hc1⟩ := HCD.out j hlt
      obtain ⟨hy0, hy1⟩ := HSY.out j hlt
      rw [Hc.out] at c0 hc0 hc1
      rw [Hy.out] at y0 hy0 hy1
      clear hCs hYs
      have hlt' : (j : Int) < (n : Int) := by omega
      by_cases hys : y ≤ ns
      case neg =>
        go_wp2
        go_ret
        exact ⟨rfl, B⟩
      by_cases h2 : c ≤ -2
      · obtain ⟨m, Hm⟩ : ∃ m : Nat, Hid (-2 - c = (m : Int)) := ⟨(-2 - c).toNat, by show -2 - c = _; omega⟩
        have hw64 : IntKind.i64.wrap (-2 - c) = (m : Int) := by rw [Hm.out, IntKind.wrap_i64]; have := Hm.out; omega
        by_cases hml : m < nl
        case neg =>
          have hml' : ¬ (m : Int) < (nl : Int) := by omega
          go_wp2
          go_ret
          exact ⟨rfl, B⟩
        obtain ⟨lb, loff, rfl, hLs⟩ : ∃ b off, a3 = some ⟨b, off, none⟩ ∧ ∀ i, i < nl → W.cell? ⟨b, off + i, none⟩ = some (.string (cl i)) := by
          rcases H3.out with h | h
          · omega
          · exact h
        have hlm := hLs m hml
        have hsz := hcl.out m hml
        obtain ⟨str, Hstr⟩ : ∃ str, Hid (cl m = str) := ⟨_, rfl⟩
        rw [Hstr.out] at hlm hsz
        have hm0 : (0 : Int) ≤ (m : Int) := Int.natCast_nonneg _
        have hml' : (m : Int) < (nl : Int) := by omega
        have hs' : (str.size : Int) ≤ 1048576 := by omega
        have hcat : ((cat cl cd (j + 1)).length : Int) = ((cat cl cd j).length : Int) + (str.size : Int) := by
          have e1 : txt cl (cd j) = str.data.toList := by
            rw [Hc.out]
            unfold txt
            rw [if_neg (by omega), if_pos h2, ← Hstr.out, Hm.out, Int.toNat_natCast]
          have e2 : str.data.toList.length = str.size := Array.length_toList (xs := str.data)
          simp only [cat, List.length_append, e1]
          omega
        have HC := hide hcat
        have HJ2 : Hid (∀ i, i < j + 1 → sy i ≤ ns ∧ (cd i ≤ -2 → (-2 - cd i).toNat < nl)) := fun i hi => by
          rcases Nat.lt_succ_iff_lt_or_eq.1 hi with h | h
          · exact HJ.out i h
          · subst h
            exact ⟨by rw [Hy.out]; exact hys, fun _ => by rw [Hc.out, Hm.out, Int.toNat_natCast]; exact hml⟩
        clear hLs hcat
        by_cases hz : O + str.size ≤ 1048576
        · go_wp2
          go_round
          case rel => exact ⟨j + 1, O + str.size, by omega, by go_num, rfl, hz, by rw [HC.out]; omega, HJ2⟩
          case measure => simp [intOf]; omega
        · go_wp2
          go_ret
          exact ⟨rfl, B⟩
      · have hcat : ((cat cl cd (j + 1)).length : Int) ≤ ((cat cl cd j).length : Int) + 4 := by
          have e1 : (txt cl (cd j)).length ≤ 4 := by
            unfold txt
            split
            · simp
            · rw [if_neg (by rw [Hc.out]; exact h2), ← Lib.runeCells_length]
              exact (Lib.runeCells_le _).2
          simp only [cat, List.length_append]
          omega
        have HC := hide hcat
        have HJ2 : Hid (∀ i, i < j + 1 → sy i ≤ ns ∧ (cd i ≤ -2 → (-2 - cd i).toNat < nl)) := fun i hi => by
          rcases Nat.lt_succ_iff_lt_or_eq.1 hi with h | h
          · exact HJ.out i h
          · subst h
            exact ⟨by rw [Hy.out]; exact hys, fun h => absurd h (by rw [Hc.out]; exact h2)⟩
        clear hcat
        by_cases hz : O + 4 ≤ 1048576
        · go_wp2
          go_round
          case rel => exact ⟨j + 1, O + 4, by omega, by go_num, rfl, hz, by have := HC.out; omega, HJ2⟩
          case measure => simp [intOf]; omega
        · go_wp2
          go_ret
          exact ⟨rfl, B⟩

    · have hjn : j = n := by omega
      subst hjn
      have hlen : Hid ((cat cl cd j).length ≤ 1048576) := by show (cat cl cd j).length ≤ 1048576; omega
      have hH : Hid (Handed W sa ns S a3 nl cl a0 j cd a1 sy) := hide ⟨b1, b3, b4, HS.out, H3.out, H0.out, H1.out, fun i hi => ⟨(HCD.out i hi).1, (HCD.out i hi).2, (HJ.out i hi).2⟩, fun i hi => ⟨(HSY.out i hi).1, (HJ.out i hi).1⟩, hlen.out⟩
      clear HJ hO0 hO1 hO2 hlt
      go_wp2
      exact (unhide NX) w W a0 j cd a1 sy sa ns nc S a3 nl cl hH.out hz3.out B _ _ _ _ _ _ _ _ _ _ _ _ _ _ _ _ _ _ _ _ _ _ _ _ _ _ _ _ _ _ _ _ _ _ _ _ _ _ _ _ _ _ _ _ _ _ _ _ _ _ _ _ _ _ _ _ _ _ _ _ _ _ _ _ _ _ _ _ _ _ _ _ _ _ _ _ _ _ _ _ _ _ _ _ _ _ _ _ _ _ _ _ _ _ _ _ _ _ _ _ _ _ _ _ _ _ _ _ _ _ _ _ _ _ _ _ _ _ _ _ _ _ _ _ _ _ _ _ _ _ _ _ _ _ _ _ _ _ _ _ _ _ _ _ _ _ _ _ _ _ _ _ _ _ _ _ _ _ _ _ _ _ _ _ _ _ _ _ _ _ _ _ _ _ _ _ _ _ _ _ _ _ _ _ _ _ _ _ _ _ _ _ _ _ _ _ _ _ _ _ _ _ _ _ _ _ _ _ _ _ _ _ _ _ _ _ _ _ _ _ _

end Go.Proofs.Qxb6612232a
