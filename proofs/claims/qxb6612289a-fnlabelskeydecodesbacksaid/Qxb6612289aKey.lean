/-
  Contracts on the way to a label set's key: AppendUvarint (with a frame that keeps every block that is no row of bytes), AppendBytes, labelsKey, ZZlabelsKey. The first after the shelf's own proof, turned to this program.
-/
import Derived.Test.Qxb6612289aPlain
import Derived.Test.Qxb6612289aProg
import Derived.Lib.VarintMem
import Derived.Lib.OthersKept
import Derived.Lib.AppendStr
import Derived.Lib.BufferRead
import Derived.WalkKit
import Derived.ProofKit
import Derived.BigCall
import Derived.WalkSpells
import Derived.WalkLawsBesides
import Derived.Deep.MidRow
set_option linter.unusedVariables false
namespace Go.Proofs.Qxb6612289a
open Go.RowKit

theorem infoByte : (Try.prog.info? 5).map (fun i => (i.zero, i.size, i.bytes)) = some (some (.int .u8 0), 1, 1) := by kernel_rfl

/-- What an appender of bytes hands back. -/
def BytesRet (B n : Nat) (xs : List Value) (e : Ending) (w' : World) : Prop := ∃ v', e = .returned v' ∧ w'.ownsRow B 5 1 v' n xs

theorem others_append {w w1 : World} {a : World} {B n : Nat} {v : Value} {xs : List Value} {o : Obj} (h : Lib.OthersKept 5 none a w) (hown : w.ownsRow B 5 1 v n xs) (hg : (w.alloc o).grownBy w1 v.ownBlock) : Lib.OthersKept 5 none a w1 := by
  refine (h.alloc o).grown hg (fun g hg => ?_)
  obtain ⟨c, fz, hc⟩ := Lib.ownsRowF_kind (World.ownsRowF_of hown) g hg
  have hlt : g < w.heap.size := (Array.getElem?_eq_some_iff.1 hc).1
  exact ⟨c, fz, (Lib.alloc_old w o g hlt).trans hc⟩

theorem others_append0 {w w1 : World} {a : World} {B n : Nat} {v : Value} {xs : List Value} (h : Lib.OthersKept 5 none a w) (hown : w.ownsRow B 5 1 v n xs) (hg : w.grownBy w1 v.ownBlock) : Lib.OthersKept 5 none a w1 :=
  h.grown hg (fun g hg => Lib.ownsRowF_kind (World.ownsRowF_of hown) g hg)

set_option maxHeartbeats 8000000 in
set_option maxRecDepth 100000 in
theorem appendUvarint_any (B n x : Nat) (hx : x < 18446744073709551616) (sv : Value) (xs : List Value) (w : World) (hown : w.ownsRow B 5 1 sv n xs) (hBw : B ≤ w.heap.size) (hlim : n + 10 ≤ 140737488355328) :
    Calls Try.prog 24 #[sv, .int .u64 x] w fun e w' => BytesRet B (n + (Lib.uvarint x).length) (xs ++ Lib.byteCells (Lib.uvarint x)) e w' ∧ Below B w w' ∧ Lib.OthersKept 5 none w w' := by
  obtain ⟨i0, hi, hz0, hz1, hz2⟩ := info_parts infoByte
  have hlen := Lib.uvarint_length64 hx
  go_enter Try.func24, Try.ntmps24
  go_wp2
  go_loopw [0, 1] (fun vb vx wr => ∃ (y : Nat) (pre : List UInt8), vx = .int .u64 y ∧ y ≤ x ∧ Lib.uvarint x = pre ++ Lib.uvarint y ∧ wr.ownsRow B 5 1 vb (n + pre.length) (xs ++ Lib.byteCells pre) ∧ Below B w wr ∧ Lib.OthersKept 5 none w wr)
    (fun _ vx _ => (intOf vx).toNat)
  case atStart => exact ⟨x, [], rfl, Nat.le_refl _, rfl, by simpa [Lib.byteCells] using hown, Below.refl _ _, Lib.OthersKept.refl _ _ _⟩
  case round =>
    obtain ⟨y, pre, rfl, hy, hsplit, hown1, hnx, hok⟩ := hrel
    have hpl : pre.length + (Lib.uvarint y).length ≤ 10 := by
      have h2 := congrArg List.length hsplit
      rw [List.length_append] at h2
      omega
    have hyp := Lib.uvarint_pos y
    have HS : Hid (Lib.uvarint x = pre ++ Lib.uvarint y) := hsplit
    clear hsplit
    by_cases h128 : 128 ≤ y
    · have hor : bits .or .u8 ((y : Int) % 256) 128 = ((y % 128 + 128 : Nat) : Int) := by
        rw [Lib.u8_or128_any _ (by omega) (by omega)]
        omega
      go_wp2_with (at_builtin; refine wpList_append_own _ rfl _ _ 50 rfl B 5 i0 (.int .u8 0) 1 1 Try.underlying50 hi hz0 hz1 hz2 rfl (by decide) _ _ _ rfl (hown1.alloc _) ⟨wr.heap.size, 0, none⟩ 1 1 [Value.int .u8 ((y % 128 + 128 : Nat) : Int)] rfl rfl ?c1 ?c2 ?c3 ?c4 ?c5 ?_)
      case c1 =>
        intro j u hj
        match j, hj with
        | 0, hj => simp at hj; subst hj; simp [Addr.add]
      case c2 => intro u hu; simp at hu; subst hu; rfl
      case c3 => unfold maxLen; omega
      case c4 => omega
      case c5 => have := hnx.size; simp; omega
      intro v' w1 hown' hgrow _
      have hnx1 : Below B w w1 := (hnx.alloc (by have := hnx.size; omega) _).grown hgrow (by have := hnx.size; simp; omega) (fun k hk => (hown1.lt k hk).1)
      have hok1 := others_append hok hown1 hgrow
      go_wp2
      go_roundw
      case rel =>
        refine ⟨y / 128, pre ++ [(y % 128 + 128).toUInt8], by go_num, by omega, by rw [HS.out, Lib.uvarint_big h128]; simp, ?_, hnx1, hok1⟩
        have ec : ((y % 128 + 128 : Nat) : Int) = (y : Int) % 128 + 128 := by omega
        rw [Lib.byteCells_snoc pre (by omega), List.length_append, List.length_singleton, ← Nat.add_assoc, ec]
        exact hown'
      case measure => simp [intOf]; omega
    · have hsm : Lib.uvarint y = [y.toUInt8] := Lib.uvarint_small (by omega)
      have HM := (show Hid (Lib.uvarint y = [y.toUInt8]) from hsm)
      clear hsm
      go_wp2_with (at_builtin; refine wpList_append_own _ rfl _ _ 50 rfl B 5 i0 (.int .u8 0) 1 1 Try.underlying50 hi hz0 hz1 hz2 rfl (by decide) _ _ _ rfl (hown1.alloc _) ⟨wr.heap.size, 0, none⟩ 1 1 [Value.int .u8 (y : Int)] rfl rfl ?c1 ?c2 ?c3 ?c4 ?c5 ?_)
      case c1 =>
        intro j u hj
        match j, hj with
        | 0, hj => simp at hj; subst hj; simp [Addr.add]
      case c2 => intro u hu; simp at hu; subst hu; rfl
      case c3 => unfold maxLen; omega
      case c4 => omega
      case c5 => have := hnx.size; simp; omega
      intro v' w1 hown' hgrow _
      have hnx1 : Below B w w1 := (hnx.alloc (by have := hnx.size; omega) _).grown hgrow (by have := hnx.size; simp; omega) (fun k hk => (hown1.lt k hk).1)
      have hok1 := others_append hok hown1 hgrow
      go_wp2
      go_ret
      refine ⟨⟨v', rfl, ?_⟩, hnx1, hok1⟩
      rw [HS.out, HM.out, Lib.byteCells_snoc pre (by omega), List.length_append, List.length_singleton, ← Nat.add_assoc]
      exact hown'

/-- A slice of labels, as it lies in a world. -/
def LabelsAt (w : World) (a : Option Addr) (n : Nat) (nm vl : Nat → ByteArray) : Prop :=
  n = 0 ∨ ∃ b off, a = some ⟨b, off, none⟩ ∧ ∀ i, i < n → w.cell? ⟨b, off + i * 2, none⟩ = some (.string (nm i)) ∧ w.cell? ⟨b, off + i * 2 + 1, none⟩ = some (.string (vl i))

theorem field_later {w w' : World} {p : Addr} {v : Value} (h : Below w.heap.size w w') (hf : w.cell? p = some v) : w'.cell? p = some v :=
  (h.cell (World.block_lt_of_cell? w p hf)).trans hf

theorem LabelsAt.later {w w' : World} {a : Option Addr} {n : Nat} {nm vl : Nat → ByteArray} (h : LabelsAt w a n nm vl) (hb : Below w.heap.size w w') : LabelsAt w' a n nm vl := by
  rcases h with h | ⟨b, off, ha, hc⟩
  · exact .inl h
  · exact .inr ⟨b, off, ha, fun i hi => ⟨field_later hb (hc i hi).1, field_later hb (hc i hi).2⟩⟩

theorem hide {p : Prop} (h : p) : Hid p := h
theorem unhide {p : Prop} (h : Hid p) : p := h

/-- The cells of the label's own block stand behind an append of bytes. -/
theorem two_cells {w w' : World} {k : Nat} {s t : ByteArray} (hb : w.heap[k]? = some (.cells #[.string s, .string t] 42 (0, 0))) (ho : Lib.OthersKept 5 none w w') :
    w'.heap[k]? = some (.cells #[.string s, .string t] 42 (0, 0)) := ho k _ hb (by simp) (fun c fz e => by simp at e)
theorem two_at {w : World} {k : Nat} {s t : ByteArray} (hb : w.heap[k]? = some (.cells #[.string s, .string t] 42 (0, 0))) :
    w.cell? ⟨k, 0, none⟩ = some (.string s) ∧ w.cell? ⟨k, 1, none⟩ = some (.string t) := by
  constructor <;> simp [World.cell?, hb]

set_option maxHeartbeats 8000000 in
set_option maxRecDepth 100000 in
theorem appendBytes_any (a : Option Addr) (n c : Nat) (nm vl : Nat → ByteArray) (w : World) (hn : n ≤ 65536) (hL : LabelsAt w a n nm vl) (hz : ∀ j, j < n → (nm j).size ≤ 1048576 ∧ (vl j).size ≤ 1048576) :
    Calls Try.prog 22 #[.slice a n c, .slice none 0 0] w fun e w' => BytesRet w.heap.size (key nm vl n).length (Lib.byteCells (key nm vl n)) e w' ∧ Below w.heap.size w w' := by
  obtain ⟨i0, hi, hz0, hz1, hz2⟩ := info_parts infoByte
  have HZ := hide hz
  have HL := hide hL
  clear hz hL
  have hul : (Lib.uvarint n).length ≤ 10 := Lib.uvarint_length64 (by omega)
  have H0 := hide (appendUvarint_any w.heap.size 0 n (by omega) (.slice none 0 0) [] w (World.ownsRow_nil _ _ _ _) (Nat.le_refl _) (by omega))
  go_enter Try.func22, Try.ntmps22
  go_wp2_with fail
  refine (unhide H0).mono ?_
  rintro e w1 ⟨⟨v1, rfl, hown1⟩, hb1, hk1⟩
  clear hk1
  go_wp2
  go_loopw [1, 14] (fun v i wr => ∃ k : Nat, k ≤ n ∧ i = .int .i64 k ∧ wr.ownsRow w.heap.size 5 1 v (Lib.uvarint n ++ body nm vl k).length (Lib.byteCells (Lib.uvarint n ++ body nm vl k)) ∧ Below w.heap.size w wr) (fun _ i _ => n - (intOf i).toNat)
  case atStart => exact ⟨0, Nat.zero_le _, rfl, by simpa [body] using hown1, hb1⟩
  case round =>
    clear hown1 hb1
    obtain ⟨k, hk, rfl, hown, hbr⟩ := hrel
    by_cases hlt : k < n
    · obtain ⟨b, off, rfl, hc⟩ : ∃ b off, a = some ⟨b, off, none⟩ ∧ ∀ i, i < n → w.cell? ⟨b, off + i * 2, none⟩ = some (.string (nm i)) ∧ w.cell? ⟨b, off + i * 2 + 1, none⟩ = some (.string (vl i)) := by
        rcases HL.out with h | h
        · omega
        · exact h
      obtain ⟨s, Hs⟩ : ∃ s, Hid (nm k = s) := ⟨_, rfl⟩
      obtain ⟨t, Ht⟩ : ∃ t, Hid (vl k = t) := ⟨_, rfl⟩
      obtain ⟨P, HP⟩ : ∃ P, Hid (Lib.uvarint n ++ body nm vl k = P) := ⟨_, rfl⟩
      have c0 := field_later hbr (hc k hlt).1
      have c1 := field_later hbr (hc k hlt).2
      obtain ⟨hs, ht⟩ := HZ.out k hlt
      have hPl : P.length ≤ 10 + k * 2097172 := by
        have h1 := body_length nm vl k (fun j hj => HZ.out j (by omega))
        rw [← HP.out, List.length_append]
        omega
      rw [Hs.out] at c0 hs
      rw [Ht.out] at c1 ht
      rw [HP.out] at hown
      have hbw := hbr.size
      have hlt' : (k : Int) < (n : Int) := by omega
      have hus : (Lib.uvarint s.size).length ≤ 10 := Lib.uvarint_length64 (by omega)
      have hut : (Lib.uvarint t.size).length ≤ 10 := Lib.uvarint_length64 (by omega)
      have hl1 : (wr.alloc (.cells #[.string s, .string t] 42)).heap[wr.heap.size]? = some (.cells #[.string s, .string t] 42 (0, 0)) := heap_alloc_new wr _
      have hb1 : Below w.heap.size w (wr.alloc (.cells #[.string s, .string t] 42)) := hbr.alloc hbw _
      have hown1 := hown.alloc (.cells #[.string s, .string t] 42)
      have H1 := hide (appendUvarint_any w.heap.size P.length s.size (by omega) u1 (Lib.byteCells P) (wr.alloc (.cells #[.string s, .string t] 42)) hown1 (by simp; omega) (by omega))
      clear hc
      go_wp2_with fail
      refine (unhide H1).mono ?_
      rintro e w2 ⟨⟨v2, rfl, hown2⟩, hb2, ho2⟩
      have hl2 := two_cells hl1 ho2
      obtain ⟨e0, e1⟩ := two_at hl2
      have hb2' := hb1.trans hb2
      have hbw2 := hb2'.size
      clear hl1 hb1 hown1 hown H1 ho2 hb2 c0 c1
      go_wp2_with (at_builtin; refine Lib.wpList_append_own_string _ rfl _ _ 50 9 rfl w.heap.size 5 i0 Try.underlying50 Try.underlying9 hi hz0 hz1 hz2 _ _ _ rfl hown2 s rfl (by unfold maxLen; omega) (by omega) (by omega) ?_)
      intro v3 w3 hown3 hgrow3 _
      have ho3 := others_append0 (Lib.OthersKept.refl 5 none w2) hown2 hgrow3
      have hl3 := two_cells hl2 ho3
      have hb3 := hb2'.grown hgrow3 (by omega) (fun g hg => (hown2.lt g hg).1)
      have hbw3 := hb3.size
      clear hl2 e0 e1 hown2 ho3 hgrow3 hb2'
      obtain ⟨e0, e1⟩ := two_at hl3
      have H2 := hide (appendUvarint_any w.heap.size _ t.size (by omega) v3 _ w3 hown3 (by omega) (by omega))
      go_wp2_with fail
      refine (unhide H2).mono ?_
      rintro e w4 ⟨⟨v4, rfl, hown4⟩, hb4, ho4⟩
      have hl4 := two_cells hl3 ho4
      have hb4' := hb3.trans hb4
      have hbw4 := hb4'.size
      clear hl3 e0 e1 hown3 H2 ho4 hb4 hb3
      obtain ⟨e0, e1⟩ := two_at hl4
      go_wp2_with (at_builtin; refine Lib.wpList_append_own_string _ rfl _ _ 50 9 rfl w.heap.size 5 i0 Try.underlying50 Try.underlying9 hi hz0 hz1 hz2 _ _ _ rfl hown4 t rfl (by unfold maxLen; omega) (by omega) (by omega) ?_)
      intro v5 w5 hown5 hgrow5 _
      have hb5 := hb4'.grown hgrow5 (by omega) (fun g hg => (hown4.lt g hg).1)
      have hend : w5.ownsRow w.heap.size 5 1 v5 (Lib.uvarint n ++ body nm vl (k + 1)).length (Lib.byteCells (Lib.uvarint n ++ body nm vl (k + 1))) := by
        have e : Lib.uvarint n ++ body nm vl (k + 1) = P ++ (Lib.uvarint s.size ++ s.data.toList ++ (Lib.uvarint t.size ++ t.data.toList)) := by
          rw [body, ← List.append_assoc, HP.out, item, Hs.out, Ht.out]
          rfl
        have e2 : (P ++ (Lib.uvarint s.size ++ s.data.toList ++ (Lib.uvarint t.size ++ t.data.toList))).length = P.length + (Lib.uvarint s.size).length + s.size + (Lib.uvarint t.size).length + t.size := by
          simp only [List.length_append, size_list]
          omega
        rw [e, e2]
        simp only [Lib.byteCells_append, ← Lib.strCells_eq]
        simp only [List.append_assoc] at hown5 ⊢
        exact hown5
      clear hl4 e0 e1 hown4 hown5 hgrow5 hb4'
      go_wp2
      go_roundw
      case rel => exact ⟨k + 1, by omega, by go_num, hend, hb5⟩
      case measure => simp [intOf]; omega
    · have hkn : k = n := by omega
      subst hkn
      go_wp2
      go_ret
      exact ⟨⟨_, rfl, hown⟩, hbr⟩

/-- 'string(b)' at a row of bytes that the call owns. -/
theorem conv_owned {w : World} {B : Nat} {v : Value} {l : List UInt8} (h : w.ownsRow B 5 1 v l.length (Lib.byteCells l)) : (convert 50 9 v).run Try.prog w = .ok (.string ⟨l.toArray⟩) w := by
  rcases h.2 with ⟨rfl, h0⟩ | ⟨g, cap, cur, rfl, _, hg, _⟩
  · have : l = [] := List.eq_nil_of_length_eq_zero h0
    subst this
    exact Lib.run_convert_nil_bytes w 50 9 5 0 Try.underlying50 Try.underlying5 Try.underlying9
  · refine run_convert_bytes_back w 50 9 5 ⟨g, 0, none⟩ cap l Try.underlying50 Try.underlying5 Try.underlying9 (fun j hj => ?_)
    rw [Addr.add_mid, Nat.zero_add, h.cellAt j (by omega)]
    simp [Lib.byteCells, hj]

set_option maxHeartbeats 2000000 in
theorem labelsKey_any (a : Option Addr) (n c : Nat) (nm vl : Nat → ByteArray) (w : World) (hn : n ≤ 65536) (hL : LabelsAt w a n nm vl) (hz : ∀ j, j < n → (nm j).size ≤ 1048576 ∧ (vl j).size ≤ 1048576) :
    Calls Try.prog 20 #[.slice a n c] w fun e w' => e = .returned (.string ⟨(key nm vl n).toArray⟩) ∧ Below w.heap.size w w' := by
  have H := hide (appendBytes_any a n c nm vl w hn hL hz)
  clear hL hz
  go_enter Try.func20, Try.ntmps20
  go_wp2_with fail
  refine (unhide H).mono ?_
  rintro e w1 ⟨⟨v1, rfl, hown1⟩, hb1⟩
  have hcv := conv_owned hown1
  go_wp2
  go_ret
  exact ⟨rfl, hb1⟩

theorem ZZlabelsKey_any (a : Option Addr) (n c : Nat) (nm vl : Nat → ByteArray) (w : World) (hn : n ≤ 65536) (hL : LabelsAt w a n nm vl) (hz : ∀ j, j < n → (nm j).size ≤ 1048576 ∧ (vl j).size ≤ 1048576) :
    Calls Try.prog 9 #[.slice a n c] w fun e w' => e = .returned (.string ⟨(key nm vl n).toArray⟩) ∧ Below w.heap.size w w' := by
  have H := hide (labelsKey_any a n c nm vl w hn hL hz)
  clear hL hz
  go_enter Try.func9, Try.ntmps9
  go_wp2_with fail
  refine (unhide H).mono ?_
  rintro e w1 ⟨rfl, hb1⟩
  go_wp2
  go_ret
  exact ⟨rfl, hb1⟩

end Go.Proofs.Qxb6612289a
