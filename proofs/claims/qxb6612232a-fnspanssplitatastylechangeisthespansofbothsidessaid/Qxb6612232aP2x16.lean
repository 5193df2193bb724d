/-
  Law 2: the piece from statement 16 on.
-/
import Derived.Test.Qxb6612232aBase2
set_option linter.unusedVariables false
namespace Go.Proofs.Qxb6612232a
open Go.RowKit
attribute [local go_sem ↓] Go.wp_at_zero Go.wp_at_succ

set_option maxHeartbeats 16000000 in
set_option maxRecDepth 100000 in
theorem p2_16 (next : S2_17) : S2_16 := by
  unfold S2_17 at next
  have NX := hide next
  clear next
  unfold S2_16
  intro w W a0 n cd a1 sy sa ns nc S a3 nl cl k p tc a4 c4 L H B hk hL R1 s2 s5 s6 s7 s8 s9 s10 s11 s12 s13 s14 s15 s16 s17 s18 s21 s22 s23 s24 s25 s26 s27 s28 s29 s30 s31 s32 s33 s34 s35 s36 s37 s38 s39 s40 s41 s42 s43 s44 s45 s46 s47 s48 s49 s50 s51 s52 s53 s54 s55 s56 s57 s58 s59 s60 s61 s62 s63 s64 s65 s66 s67 s68 s69 s70 s71 s72 s73 s74 s75 s76 s77 s78 s79 s80 s81 s82 s83 s84 s85 s86 s87 s88 s89 s90 s91 s92 s93 s94 s95 s96 s97 s98 s99 s100 s101 s102 s103 s104 s105 s106 s107 s108 s109 s110 s111 s112 s113 s114 s115 s116 s117 s118 s119 s120 s121 s122 s123 s124 s125 s126 s127 s128 s129 s130 s131 s132 s133 s134 s135 s136 s137 s138 s139 s140 s141 s142 s143 s144 s145 s146 s147 s148 s149 s150 s151 s152 s153 s154 s155 s156 s157 s158 s159 s160 s161 s162 s163 s164 s165 s166 s167 s168 s169 s170 s171 s172 s173 s174 s175 s176 s177 s178 s179 s180 s181 s182 s183 s184 s185 s186 s187 s188 s189 s190 s191 s192 s193 s194 s195 s196 s197 s198 s199 s200 s201 s202 s203 s204 s205 s206 s207 s208 s209 s210 s211 s212 s213 s214 s215 s216 s217 s218 s219 s220 s221 s222 s223 s224 s225 s226 s227 s228 s229 s230 s231 s232 s233 s234 s235 s236 s237 s238 s239 s240 s241 s242 s243 s244 s245 s246 s247 s248 s249 s250 s251 s252 s253 s254 s255 s256 s257 s258 s259 s260 s261 s262 s263 s264 s265 s266 s267 s268 s269 s270 s271 s272 s273 s274 s275 s276 s277 s278 s279 s280 s281 s282 s283 s284 s285 s286 s287
  rw [T2_16_eq]
  refine wp_seq ?_
  conv => arg 2; whnf
  obtain ⟨hk1, hk2, hk3, hk4⟩ := hk
  have hK := hide (And.intro hk1 (And.intro hk2 (And.intro hk3 hk4)))
  have hn := H.hn
  obtain ⟨cb, coff, rfl, hCs⟩ : ∃ b off, a0 = some ⟨b, off, none⟩ ∧ ∀ i, i < n → W.cell? ⟨b, off + i, none⟩ = some (.int .i32 (cd i)) := by
    rcases H.hC with h | h
    · omega
    · exact h
  obtain ⟨yb, yoff, rfl, hYs⟩ : ∃ b off, a1 = some ⟨b, off, none⟩ ∧ ∀ i, i < n → W.cell? ⟨b, off + i, none⟩ = some (.int .u32 (sy i)) := by
    rcases H.hY with h | h
    · omega
    · exact h
  have hHk : Handed W sa ns S a3 nl cl (some ⟨cb, coff, none⟩) k cd (some ⟨yb, yoff, none⟩) sy :=
    { hn := by omega, hns := H.hns, hnl := H.hnl, hS := H.hS, hL := H.hL, hC := .inr ⟨cb, coff, rfl, fun i hi => hCs i (by omega)⟩, hY := .inr ⟨yb, yoff, rfl, fun i hi => hYs i (by omega)⟩,
      hcd := fun i hi => H.hcd i (by omega), hsy := fun i hi => H.hsy i (by omega), hlen := Nat.le_trans (cat_mono cl cd (by omega)) H.hlen }
  have hb0 : Below W.heap.size W W.drew := (Below.refl _ _).drew
  have HC := hide (hHk.later hb0)
  have hH := hide (H.later hb0)
  have HR1 := hide (owns_later R1 hb0)
  have HL := hide hL
  have Bd := B.drew
  have Bs : w.heap.size ≤ W.drew.heap.size := Bd.size
  have hkn' : (k : Int) ≤ (n : Int) := by omega
  have hk0 : (0 : Int) ≤ (k : Int) := Int.natCast_nonneg _
  have hwk : IntKind.i64.wrap (k : Int) = (k : Int) := by rw [IntKind.wrap_i64]; omega
  have H2 := hide (ZZspans_any W.drew sa ns tc S a3 nl nl cl (some ⟨cb, coff, none⟩) k n cd (some ⟨yb, yoff, none⟩) k n rfl sy HC.out)
  clear hCs hYs hHk H hk1 hk2 hk3 hk4 hL R1 hb0 B
  go_wp2_with fail
  go_region_with (go_at_call 9; refine (unhide H2).mono ?_; rintro e W2 ⟨⟨v, rfl, hown⟩, hb2⟩; obtain ⟨a5, c5, rfl⟩ := owns_slice hown)
  all_goals
    cases ‹Ending.returned _ = Ending.returned _›
    go_wp2
    exact (unhide NX) w _ _ n cd _ sy sa ns nc S a3 nl cl k p tc a4 c4 L a5 c5 _ (hH.out.later hb2) (Bd.trans (hb2.mono Bs)) hK.out HL.out (owns_later HR1.out hb2) rfl (owns_base hown Bs) _ _ _ _ _ _ _ _ _ _ _ _ _ _ _ _ _ _ _ _ _ _ _ _ _ _ _ _ _ _ _ _ _ _ _ _ _ _ _ _ _ _ _ _ _ _ _ _ _ _ _ _ _ _ _ _ _ _ _ _ _ _ _ _ _ _ _ _ _ _ _ _ _ _ _ _ _ _ _ _ _ _ _ _ _ _ _ _ _ _ _ _ _ _ _ _ _ _ _ _ _ _ _ _ _ _ _ _ _ _ _ _ _ _ _ _ _ _ _ _ _ _ _ _ _ _ _ _ _ _ _ _ _ _ _ _ _ _ _ _ _ _ _ _ _ _ _ _ _ _ _ _ _ _ _ _ _ _ _ _ _ _ _ _ _ _ _ _ _ _ _ _ _ _ _ _ _ _ _ _ _ _ _ _ _ _ _ _ _ _ _ _ _ _ _ _ _ _ _ _ _ _ _ _ _ _ _ _ _ _ _ _ _ _ _ _ _ _ _ _ _ _ _ _ _ _ _ _ _ _ _ _ _ _ _ _ _ _ _ _ _ _ _ _ _ _ _ _ _ _ _ _ _ _ _ _ _ _ _ _ _ _ _ _ _ _ _ _ _ _ _ _ _ _ _ _ _ _ _ _ _

end Go.Proofs.Qxb6612232a
