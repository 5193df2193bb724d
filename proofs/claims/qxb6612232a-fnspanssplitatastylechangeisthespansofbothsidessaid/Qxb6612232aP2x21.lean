/-
  Law 2: the piece from statement 21 on.
-/
import Derived.Test.Qxb6612232aBase2
set_option linter.unusedVariables false
namespace Go.Proofs.Qxb6612232a
open Go.RowKit
attribute [local go_sem ↓] Go.wp_at_zero Go.wp_at_succ

set_option maxHeartbeats 16000000 in
set_option maxRecDepth 100000 in
theorem p2_21 (next : S2_23) : S2_21 := by
  unfold S2_23 at next
  have NX := hide next
  clear next
  unfold S2_21
  intro w W a0 n cd a1 sy sa ns S a3 nl cl a4 c4 L H B PL R1 s1 s2 s4 s5 s6 s7 s8 s9 s10 s11 s12 s13 s14 s15 s16 s17 s18 s19 s21 s22 s23 s24 s25 s26 s27 s28 s29 s30 s31 s32 s33 s34 s35 s36 s37 s38 s39 s40 s41 s42 s43 s44 s45 s46 s47 s48 s49 s50 s51 s52 s53 s54 s55 s56 s57 s58 s59 s60 s61 s62 s63 s64 s65 s66 s67 s68 s69 s70 s71 s72 s73 s74 s75 s76 s77 s78 s79 s80 s81 s82 s83 s84 s85 s86 s87 s88 s89 s90 s91 s92 s93 s94 s95 s96 s97 s98 s99 s100 s101 s102 s103 s104 s105 s106 s107 s108 s109 s110 s111 s112 s113 s114 s115 s116 s117 s118 s119 s120 s121 s122 s123 s124 s125 s126 s127 s128 s129 s130 s131 s132 s133 s134 s135 s136 s137 s138 s139 s140 s141 s142 s143 s144 s145 s146 s147 s148 s149 s150 s151 s152 s153 s154 s155 s156 s157 s158 s159 s160 s161 s162 s163 s164 s165 s166 s167 s168 s169 s170 s171 s172 s173 s174 s175 s176 s177 s178 s179 s180 s181 s182 s183 s184 s185 s186 s187 s188 s189 s190 s191 s192 s193 s194 s195 s196 s197 s198 s199 s200 s201 s202 s203 s204 s205 s206 s207 s208 s209 s210 s211 s212 s213 s214 s215 s216 s217 s218 s219 s220 s221 s222 s223 s224 s225 s226 s227 s228 s229 s230 s231 s232 s233 s234 s235 s236 s237 s238 s239 s240 s241 s242 s243 s244 s245 s246 s247 s248 s249 s250 s251 s252 s253 s254 s255 s256 s257 s258 s259 s260 s261 s262 s263 s264 s265 s266 s267 s268 s269 s270 s271 s272 s273 s274 s275 s276 s277 s278 s279 s280 s281 s282 s283 s284 s285 s286 s287
  rw [T2_21_eq]
  refine wp_seq ?_
  conv => arg 2; whnf
  have hH := hide H
  have HP := hide PL
  have HR1 := hide R1
  have hl := PL.2.2
  have hcat := H.hlen
  have Bs := B.size
  clear H PL R1
  obtain ⟨i0, hi, hz0, hz1, hz2⟩ := info_parts infoByte
  go_wp2
  rw [T2_22_eq]
  refine wp_seq ?_
  conv => arg 2; whnf
  go_wp2
  go_loopw [25, 26] (fun v i wr => ∃ j : Nat, j ≤ L.length ∧ i = .int .i64 j ∧ wr.ownsRow W.heap.size 5 1 v ((L.take j).flatMap (·.1)).length (Lib.byteCells ((L.take j).flatMap (·.1))) ∧ Below W.heap.size W wr) (fun _ i _ => L.length - (intOf i).toNat)
  case atStart => exact ⟨0, Nat.zero_le _, rfl, ⟨rfl, Or.inl ⟨rfl, rfl⟩⟩, Below.refl _ _⟩
  case round =>
    obtain ⟨j, hj, rfl, hown, hbr⟩ := hrel
    by_cases hlt : j < L.length
    · have hbs := hbr.size
      obtain ⟨g4, d4, e4, hg4, hr4⟩ := span_at (owns_later HR1.out hbr) hlt
      cases e4
      have hfull : L[j].1 ≠ [] := HP.out.1 _ (List.getElem_mem hlt)
      have htake : (L.take (j + 1)).flatMap (·.1) = (L.take j).flatMap (·.1) ++ L[j].1 := by
        rw [List.take_succ_eq_append_getElem hlt, List.flatMap_append]
        simp only [List.flatMap_cons, List.flatMap_nil, List.append_nil]
      have hle : ((L.take (j + 1)).flatMap (·.1)).length ≤ 1048576 := by
        have h1 : L.flatMap (·.1) = (L.take (j + 1)).flatMap (·.1) ++ (L.drop (j + 1)).flatMap (·.1) := by rw [← List.flatMap_append, List.take_append_drop]
        have h2 := congrArg List.length h1
        rw [HP.out.2.1, List.length_append] at h2
        omega
      obtain ⟨t, Ht⟩ : ∃ t, Hid (L[j].1 = t) := ⟨_, hide rfl⟩
      obtain ⟨str, Hstr⟩ : ∃ str : ByteArray, Hid ((⟨t.toArray⟩ : ByteArray) = str) := ⟨_, rfl⟩
      have c0 : wr.cell? ⟨g4, j * 15, none⟩ = some (.string str) := by
        have h := hr4 0 (.string ⟨L[j].1.toArray⟩) rfl
        rw [Nat.add_zero, Ht.out, Hstr.out] at h
        exact h
      have hst : str.data.toList = t := by rw [← Hstr.out]
      have hsz : str.size = t.length := by rw [← hst]; exact (Array.length_toList (xs := str.data)).symm
      rw [Ht.out] at hfull htake
      have hpos : str.size ≠ 0 := by rw [hsz]; intro h; exact hfull (List.eq_nil_of_length_eq_zero h)
      have hne : ((str.size : Int) == 0) = false := by rw [beq_eq_false_iff_ne]; omega
      rw [htake, List.length_append, ← hsz] at hle
      obtain ⟨P, HPr⟩ : ∃ P, Hid ((L.take j).flatMap (·.1) = P) := ⟨_, rfl⟩
      rw [HPr.out] at hown hle htake
      have HT := hide htake
      have HST := hide hst
      have HSZ := hide hsz
      have hlt' : (j : Int) < (L.length : Int) := by omega
      have hs' : (str.size : Int) ≤ 1048576 := by omega
      clear hr4 hst hsz hfull htake hg4
      go_wp2_with (at_builtin; refine Lib.wpList_append_own_string _ rfl _ _ 34 9 rfl W.heap.size 5 i0 Try.underlying34 Try.underlying9 hi hz0 hz1 hz2 _ _ _ rfl hown str rfl (by unfold maxLen; omega) (by omega) (by omega) ?_)
      intro v' w2 hown' hgrow _
      have hb2 := hbr.grown hgrow hbs (fun g hg => (hown.lt g hg).1)
      have hend : w2.ownsRow W.heap.size 5 1 v' ((L.take (j + 1)).flatMap (·.1)).length (Lib.byteCells ((L.take (j + 1)).flatMap (·.1))) := by
        rw [HT.out, List.length_append, ← HSZ.out, Lib.byteCells_append]
        rw [← HST.out, ← Lib.strCells_eq]
        exact hown'
      clear hown hown' hgrow
      go_wp2
      go_roundw
      case rel => exact ⟨j + 1, by omega, by go_num, hend, hb2⟩
      case measure => simp [intOf]; omega
    · have hjl : j = L.length := by omega
      subst hjl
      rw [List.take_length, HP.out.2.1] at hown
      have HO := hide (owns_base hown Bs)
      clear hown
      go_wp2
      exact (unhide NX) w _ a0 n cd a1 sy sa ns S a3 nl cl _ _ (hH.out.later hbr) (B.trans (hbr.mono Bs)) rfl HO.out _ _ _ _ _ _ _ _ _ _ _ _ _ _ _ _ _ _ _ _ _ _ _ _ _ _ _ _ _ _ _ _ _ _ _ _ _ _ _ _ _ _ _ _ _ _ _ _ _ _ _ _ _ _ _ _ _ _ _ _ _ _ _ _ _ _ _ _ _ _ _ _ _ _ _ _ _ _ _ _ _ _ _ _ _ _ _ _ _ _ _ _ _ _ _ _ _ _ _ _ _ _ _ _ _ _ _ _ _ _ _ _ _ _ _ _ _ _ _ _ _ _ _ _ _ _ _ _ _ _ _ _ _ _ _ _ _ _ _ _ _ _ _ _ _ _ _ _ _ _ _ _ _ _ _ _ _ _ _ _ _ _ _ _ _ _ _ _ _ _ _ _ _ _ _ _ _ _ _ _ _ _ _ _ _ _ _ _ _ _ _ _ _ _ _ _ _ _ _ _ _ _ _ _ _ _ _ _ _ _ _ _ _ _ _ _ _ _ _ _ _ _ _ _ _ _ _ _ _ _ _ _ _ _ _ _ _ _ _ _ _ _ _ _ _ _ _ _ _ _ _ _ _ _ _ _ _ _ _ _ _ _ _ _ _ _ _ _ _ _ _ _ _ _ _ _ _ _ _ _ _ _ _ _ _

end Go.Proofs.Qxb6612232a
