/-
  Contracts of the guards on lengths: zzBytes (two of them) and zzLabelsSize.
-/
import Derived.Test.Qxb6612289aKey
import Derived.Deep.QuietTactic
import Derived.BigQuiet
set_option linter.unusedVariables false
namespace Go.Proofs.Qxb6612289a
open Go.RowKit

/-- A guard's answer: true only if every text is short. -/
def BoolRet (p : Prop) (e : Ending) : Prop := ∃ r, e = .returned (.bool r) ∧ (r = true → p)
/-- Every text of the n labels is short. -/
def Short (n : Nat) (nm vl : Nat → ByteArray) : Prop := ∀ j, j < n → (nm j).size ≤ 1048576 ∧ (vl j).size ≤ 1048576

set_option maxHeartbeats 4000000 in
set_option maxRecDepth 100000 in
theorem bytes1_any (a : Option Addr) (n c : Nat) (nm vl : Nat → ByteArray) (w : World) (hm : n ≤ maxLen) (hL : LabelsAt w a n nm vl) :
    Calls Try.prog 7 #[.slice a n c] w fun e w' => BoolRet (Short n nm vl) e ∧ w' = w := by
  unfold maxLen at hm
  go_enter Try.func7, Try.ntmps7
  go_wp2
  all_goals (first | (go_ret; exact ⟨⟨_, rfl, fun h => by cases h⟩, rfl⟩) | skip)
  go_loop [3, 4] (fun z i => ∃ k : Nat, ∃ Z : Int, k ≤ n ∧ i = .int .i64 k ∧ z = .int .i64 Z ∧ 0 ≤ Z ∧ Z ≤ 1048576 ∧ Hid (∀ j, j < k → (nm j).size ≤ 1048576 ∧ (vl j).size ≤ 1048576)) (fun _ i => n - (intOf i).toNat)
  case atStart => exact ⟨0, _, Nat.zero_le _, rfl, rfl, by omega, by omega, fun j hj => absurd hj (Nat.not_lt_zero _)⟩
  case round =>
    obtain ⟨k, Z, hk, rfl, rfl, hZ0, hZ1, HJ⟩ := hrel
    by_cases hlt : k < n
    · obtain ⟨b, off, rfl, hc⟩ : ∃ b off, a = some ⟨b, off, none⟩ ∧ ∀ i, i < n → w.cell? ⟨b, off + i * 2, none⟩ = some (.string (nm i)) ∧ w.cell? ⟨b, off + i * 2 + 1, none⟩ = some (.string (vl i)) := by
        rcases hL with h | h
        · omega
        · exact h
      obtain ⟨s, Hs⟩ : ∃ s, Hid (nm k = s) := ⟨_, rfl⟩
      obtain ⟨t, Ht⟩ : ∃ t, Hid (vl k = t) := ⟨_, rfl⟩
      have c0 := (hc k hlt).1
      have c1 := (hc k hlt).2
      rw [Hs.out] at c0
      rw [Ht.out] at c1
      have hlt' : (k : Int) < (n : Int) := by omega
      clear hc
      by_cases h1 : (s.size : Int) ≤ 1048576
      case neg =>
        go_wp2
        go_ret
        exact ⟨⟨_, rfl, fun h => by cases h⟩, rfl⟩
      by_cases h2 : Z + s.size ≤ 1048576
      case neg =>
        go_wp2
        go_ret
        exact ⟨⟨_, rfl, fun h => by cases h⟩, rfl⟩
      by_cases h3 : (t.size : Int) ≤ 1048576
      case neg =>
        go_wp2
        go_ret
        exact ⟨⟨_, rfl, fun h => by cases h⟩, rfl⟩
      by_cases h4 : Z + s.size + t.size ≤ 1048576
      case neg =>
        go_wp2
        go_ret
        exact ⟨⟨_, rfl, fun h => by cases h⟩, rfl⟩
      have HJ2 : Hid (∀ j, j < k + 1 → (nm j).size ≤ 1048576 ∧ (vl j).size ≤ 1048576) := fun j hj => by
        rcases Nat.lt_succ_iff_lt_or_eq.1 hj with h | h
        · exact HJ.out j h
        · subst h
          rw [Hs.out, Ht.out]
          exact ⟨by omega, by omega⟩
      go_wp2
      go_round
      case rel => exact ⟨k + 1, Z + s.size + t.size, by omega, by go_num, rfl, by omega, h4, HJ2⟩
      case measure => simp [intOf]; omega
    · have hkn : k = n := by omega
      have HA : Hid (∀ j, j < n → (nm j).size ≤ 1048576 ∧ (vl j).size ≤ 1048576) := fun j hj => HJ.out j (by omega)
      clear HJ hkn
      go_wp2
      go_ret
      exact ⟨⟨_, rfl, fun _ => HA.out⟩, rfl⟩

set_option maxHeartbeats 8000000 in
set_option maxRecDepth 100000 in
theorem bytes2_any (a : Option Addr) (n c : Nat) (nm vl : Nat → ByteArray) (a' : Option Addr) (n' c' : Nat) (nm' vl' : Nat → ByteArray) (w : World) (hm : n ≤ maxLen) (hm' : n' ≤ maxLen) (hL : LabelsAt w a n nm vl) (hL' : LabelsAt w a' n' nm' vl') :
    Calls Try.prog 13 #[.slice a n c, .slice a' n' c'] w fun e w' => BoolRet (Short n nm vl ∧ Short n' nm' vl') e ∧ w' = w := by
  unfold maxLen at hm hm'
  go_enter Try.func13, Try.ntmps13
  go_wp2
  all_goals (first | (go_ret; exact ⟨⟨_, rfl, fun h => by cases h⟩, rfl⟩) | skip)
  go_loop [5, 6] (fun z i => ∃ k : Nat, ∃ Z : Int, k ≤ n ∧ i = .int .i64 k ∧ z = .int .i64 Z ∧ 0 ≤ Z ∧ Z ≤ 1048576 ∧ Hid (∀ j, j < k → (nm j).size ≤ 1048576 ∧ (vl j).size ≤ 1048576)) (fun _ i => n - (intOf i).toNat)
  case atStart => exact ⟨0, _, Nat.zero_le _, rfl, rfl, by omega, by omega, fun j hj => absurd hj (Nat.not_lt_zero _)⟩
  case round =>
    obtain ⟨k, Z, hk, rfl, rfl, hZ0, hZ1, HJ⟩ := hrel
    by_cases hlt : k < n
    · obtain ⟨b, off, rfl, hc⟩ : ∃ b off, a = some ⟨b, off, none⟩ ∧ ∀ i, i < n → w.cell? ⟨b, off + i * 2, none⟩ = some (.string (nm i)) ∧ w.cell? ⟨b, off + i * 2 + 1, none⟩ = some (.string (vl i)) := by
        rcases hL with h | h
        · omega
        · exact h
      obtain ⟨s, Hs⟩ : ∃ s, Hid (nm k = s) := ⟨_, rfl⟩
      obtain ⟨t, Ht⟩ : ∃ t, Hid (vl k = t) := ⟨_, rfl⟩
      have c0 := (hc k hlt).1
      have c1 := (hc k hlt).2
      rw [Hs.out] at c0
      rw [Ht.out] at c1
      have hlt' : (k : Int) < (n : Int) := by omega
      clear hc
      by_cases h1 : (s.size : Int) ≤ 1048576
      case neg =>
        go_wp2
        go_ret
        exact ⟨⟨_, rfl, fun h => by cases h⟩, rfl⟩
      by_cases h2 : Z + s.size ≤ 1048576
      case neg =>
        go_wp2
        go_ret
        exact ⟨⟨_, rfl, fun h => by cases h⟩, rfl⟩
      by_cases h3 : (t.size : Int) ≤ 1048576
      case neg =>
        go_wp2
        go_ret
        exact ⟨⟨_, rfl, fun h => by cases h⟩, rfl⟩
      by_cases h4 : Z + s.size + t.size ≤ 1048576
      case neg =>
        go_wp2
        go_ret
        exact ⟨⟨_, rfl, fun h => by cases h⟩, rfl⟩
      have HJ2 : Hid (∀ j, j < k + 1 → (nm j).size ≤ 1048576 ∧ (vl j).size ≤ 1048576) := fun j hj => by
        rcases Nat.lt_succ_iff_lt_or_eq.1 hj with h | h
        · exact HJ.out j h
        · subst h
          rw [Hs.out, Ht.out]
          exact ⟨by omega, by omega⟩
      go_wp2
      go_round
      case rel => exact ⟨k + 1, Z + s.size + t.size, by omega, by go_num, rfl, by omega, h4, HJ2⟩
      case measure => simp [intOf]; omega
    · have hkn : k = n := by omega
      have HA : Hid (∀ j, j < n → (nm j).size ≤ 1048576 ∧ (vl j).size ≤ 1048576) := fun j hj => HJ.out j (by omega)
      clear HJ hkn
      by_cases g1 : (n' : Int) ≤ 1048576
      case neg =>
        go_wp2
        go_ret
        exact ⟨⟨_, rfl, fun h => by cases h⟩, rfl⟩
      by_cases g2 : Z + n' ≤ 1048576
      case neg =>
        go_wp2
        go_ret
        exact ⟨⟨_, rfl, fun h => by cases h⟩, rfl⟩
      have hZn : 0 ≤ Z + (n' : Int) := by omega
      go_wp2
      go_loop [5, 7] (fun z i => ∃ k : Nat, ∃ Z : Int, k ≤ n' ∧ i = .int .i64 k ∧ z = .int .i64 Z ∧ 0 ≤ Z ∧ Z ≤ 1048576 ∧ Hid (∀ j, j < k → (nm' j).size ≤ 1048576 ∧ (vl' j).size ≤ 1048576)) (fun _ i => n' - (intOf i).toNat)
      case atStart => exact ⟨0, _, Nat.zero_le _, rfl, rfl, by omega, by omega, fun j hj => absurd hj (Nat.not_lt_zero _)⟩
      case round =>
        have HA0 := HA
        clear HA hZ0 hZ1 g1 g2 hZn hlt hk
        obtain ⟨k, Z, hk, rfl, rfl, hZ0, hZ1, HJ⟩ := hrel
        by_cases hlt : k < n'
        · obtain ⟨b, off, rfl, hc⟩ : ∃ b off, a' = some ⟨b, off, none⟩ ∧ ∀ i, i < n' → w.cell? ⟨b, off + i * 2, none⟩ = some (.string (nm' i)) ∧ w.cell? ⟨b, off + i * 2 + 1, none⟩ = some (.string (vl' i)) := by
            rcases hL' with h | h
            · omega
            · exact h
          obtain ⟨s, Hs⟩ : ∃ s, Hid (nm' k = s) := ⟨_, rfl⟩
          obtain ⟨t, Ht⟩ : ∃ t, Hid (vl' k = t) := ⟨_, rfl⟩
          have c0 := (hc k hlt).1
          have c1 := (hc k hlt).2
          rw [Hs.out] at c0
          rw [Ht.out] at c1
          have hlt' : (k : Int) < (n' : Int) := by omega
          clear hc
          by_cases h1 : (s.size : Int) ≤ 1048576
          case neg =>
            go_wp2
            go_ret
            exact ⟨⟨_, rfl, fun h => by cases h⟩, rfl⟩
          by_cases h2 : Z + s.size ≤ 1048576
          case neg =>
            go_wp2
            go_ret
            exact ⟨⟨_, rfl, fun h => by cases h⟩, rfl⟩
          by_cases h3 : (t.size : Int) ≤ 1048576
          case neg =>
            go_wp2
            go_ret
            exact ⟨⟨_, rfl, fun h => by cases h⟩, rfl⟩
          by_cases h4 : Z + s.size + t.size ≤ 1048576
          case neg =>
            go_wp2
            go_ret
            exact ⟨⟨_, rfl, fun h => by cases h⟩, rfl⟩
          have HJ2 : Hid (∀ j, j < k + 1 → (nm' j).size ≤ 1048576 ∧ (vl' j).size ≤ 1048576) := fun j hj => by
            rcases Nat.lt_succ_iff_lt_or_eq.1 hj with h | h
            · exact HJ.out j h
            · subst h
              rw [Hs.out, Ht.out]
              exact ⟨by omega, by omega⟩
          go_wp2
          go_round
          case rel => exact ⟨k + 1, Z + s.size + t.size, by omega, by go_num, rfl, by omega, h4, HJ2⟩
          case measure => simp [intOf]; omega
        · have hkn : k = n' := by omega
          have HA : Hid (∀ j, j < n' → (nm' j).size ≤ 1048576 ∧ (vl' j).size ≤ 1048576) := fun j hj => HJ.out j (by omega)
          clear HJ hkn
          go_wp2
          go_ret
          exact ⟨⟨_, rfl, fun _ => ⟨HA0.out, HA.out⟩⟩, rfl⟩

end Go.Proofs.Qxb6612289a
