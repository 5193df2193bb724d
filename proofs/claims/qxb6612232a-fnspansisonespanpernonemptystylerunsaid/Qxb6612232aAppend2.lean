/-
  The contract of zzAppendCell at this dump.
-/
import Derived.Test.Qxb6612232aAppend
set_option linter.unusedVariables false
namespace Go.Proofs.Qxb6612232a
open Go.RowKit

set_option maxHeartbeats 4000000 in
set_option maxRecDepth 100000 in
theorem appendCell_any (B : Nat) (v : Value) (n : Nat) (xs : List Value) (c : Int) (la : Option Addr) (nl lc : Nat) (cl : Nat → ByteArray) (w : World) (hown : w.ownsRow B 5 1 v n xs) (hBw : B ≤ w.heap.size)
    (hc0 : -2147483648 ≤ c) (hc1 : c ≤ 2147483647) (hci : c ≤ -2 → (-2 - c).toNat < nl) (hnl : nl ≤ 65536) (hL : StrsAt w la nl cl) (hlen : n + (txt cl c).length ≤ 2097152) :
    Calls Try.prog 10 #[v, .int .i32 c, .slice la nl lc] w fun e w' => BytesRet B (n + (txt cl c).length) (xs ++ Lib.byteCells (txt cl c)) e w' ∧ Below B w w' := by
  obtain ⟨i0, hi, hz0, hz1, hz2⟩ := info_parts infoByte
  by_cases h1 : c = -1
  · subst h1
    have e : txt cl (-1) = [] := by simp [txt]
    rw [e]
    go_enter Try.func10, Try.ntmps10
    go_wp2
    go_ret
    exact ⟨⟨_, rfl, by simpa [Lib.byteCells] using hown⟩, Below.refl _ _⟩
  · have h1' : (c == -1) = false := by simp [h1]
    by_cases h2 : c ≤ -2
    · obtain ⟨m, Hm⟩ : ∃ m : Nat, Hid (-2 - c = (m : Int)) := ⟨(-2 - c).toNat, by show -2 - c = _; omega⟩
      have hml : m < nl := by have := hci h2; have := Hm.out; omega
      obtain ⟨lb, loff, rfl, hLs⟩ : ∃ b off, la = some ⟨b, off, none⟩ ∧ ∀ i, i < nl → w.cell? ⟨b, off + i, none⟩ = some (.string (cl i)) := by
        rcases hL with h | h
        · omega
        · exact h
      obtain ⟨str, Hstr⟩ : ∃ str, Hid (cl m = str) := ⟨_, rfl⟩
      have hlm := hLs m hml
      rw [Hstr.out] at hlm
      have ht : txt cl c = str.data.toList := by
        unfold txt
        rw [if_neg h1, if_pos h2, ← Hstr.out, Hm.out, Int.toNat_natCast]
      have hsz : str.size = str.data.toList.length := (Array.length_toList (xs := str.data)).symm
      rw [ht] at hlen ⊢
      rw [← hsz] at hlen ⊢
      have hm0 : (0 : Int) ≤ (m : Int) := Int.natCast_nonneg _
      have hm1x : (m : Int) < (nl : Int) := by omega
      have hw64 : IntKind.i64.wrap (-2 - c) = (m : Int) := by rw [Hm.out, IntKind.wrap_i64]; omega
      clear hLs ht hci hsz
      go_enter Try.func10, Try.ntmps10
      go_wp2_with (at_builtin; refine Lib.wpList_append_own_string _ rfl _ _ 34 9 rfl B 5 i0 Try.underlying34 Try.underlying9 hi hz0 hz1 hz2 _ _ _ rfl hown str rfl (by unfold maxLen; omega) (by omega) (by omega) ?_)
      intro v' w2 hown' hgrow _
      go_wp2
      go_ret
      exact ⟨⟨_, rfl, hown'⟩, (Below.refl B w).grown hgrow hBw (fun k hk => (hown.lt k hk).1)⟩
    · have ht : txt cl c = Lib.encodeRune c := by unfold txt; rw [if_neg h1, if_neg h2]
      rw [ht, Lib.byteCells_encodeRune, ← Lib.runeCells_length]
      rw [ht, ← Lib.runeCells_length] at hlen
      have hA := appendRune_any B v n xs c (by omega) hc1 w hown (by omega) hBw
      have HA : Hid (Calls Try.prog 25 #[v, .int .i32 c] w fun e w' => BytesRet B (n + (Lib.runeCells c).length) (xs ++ Lib.runeCells c) e w' ∧ Below B w w') := hA
      clear hA
      go_enter Try.func10, Try.ntmps10
      go_wp2_with fail
      refine HA.out.mono ?_
      rintro e w1 ⟨⟨v', rfl, hown'⟩, hb⟩
      go_wp2
      go_ret
      exact ⟨⟨_, rfl, hown'⟩, hb⟩

end Go.Proofs.Qxb6612232a
