/-
  Contracts of the two guards on the arguments' lengths: whatever they answer, the world stands.
-/
import Derived.Test.Qxb6612232aKeep
set_option linter.unusedVariables false
namespace Go.Proofs.Qxb6612232a
open Go.RowKit

def BoolRet (nl : Nat) (cl : Nat → ByteArray) (e : Ending) : Prop := ∃ r, e = .returned (.bool r) ∧ (r = true → ∀ i, i < nl → (cl i).size ≤ 1048576)

set_option maxHeartbeats 4000000 in
set_option maxRecDepth 100000 in
theorem bytes1_any (ca : Option Addr) (n cc : Nat) (ya : Option Addr) (ny yc : Nat) (sa : Option Addr) (ns nc : Nat) (la : Option Addr) (nl lc : Nat) (cl : Nat → ByteArray) (w : World)
    (h1 : n ≤ maxLen) (h2 : ny ≤ maxLen) (h3 : ns ≤ maxLen) (h4 : nl ≤ maxLen) (hL : StrsAt w la nl cl) :
    Calls Try.prog 7 #[.slice ca n cc, .slice ya ny yc, .slice sa ns nc, .slice la nl lc] w fun e w' => BoolRet nl cl e ∧ w' = w := by
  unfold maxLen at h1 h2 h3 h4
  go_enter Try.func7, Try.ntmps7
  go_wp2
  all_goals (first | (go_ret; exact ⟨⟨_, rfl, fun h => by cases h⟩, rfl⟩) | skip)
  go_loop [9, 10] (fun z i => ∃ k : Nat, ∃ Z : Int, k ≤ nl ∧ i = .int .i64 k ∧ z = .int .i64 Z ∧ 0 ≤ Z ∧ Z ≤ 1048576 ∧ Hid (∀ j, j < k → (cl j).size ≤ 1048576)) (fun _ i => nl - (intOf i).toNat)
  case atStart => exact ⟨0, _, Nat.zero_le _, rfl, rfl, by omega, by omega, fun j hj => absurd hj (Nat.not_lt_zero _)⟩
  case round =>
    obtain ⟨k, Z, hk, rfl, rfl, hZ0, hZ1, HJ⟩ := hrel
    by_cases hlt : k < nl
    · obtain ⟨lb, loff, rfl, hLs⟩ : ∃ b off, la = some ⟨b, off, none⟩ ∧ ∀ i, i < nl → w.cell? ⟨b, off + i, none⟩ = some (.string (cl i)) := by
        rcases hL with h | h
        · omega
        · exact h
      have hlm := hLs k hlt
      obtain ⟨str, hstr⟩ : ∃ str, cl k = str := ⟨_, rfl⟩
      rw [hstr] at hlm
      have hlt' : (k : Int) < (nl : Int) := by omega
      have HS : Hid (cl k = str) := hstr
      clear hLs hstr
      by_cases hs : str.size ≤ 1048576
      · have hs' : (str.size : Int) ≤ 1048576 := by omega
        by_cases hz : Z + str.size ≤ 1048576
        · go_wp2
          go_round
          case rel => exact ⟨k + 1, Z + str.size, by omega, by go_num, rfl, by omega, hz, fun j hj => by
            rcases Nat.lt_succ_iff_lt_or_eq.1 hj with h | h
            · exact HJ.out j h
            · subst h; rw [HS.out]; exact hs⟩
          case measure => simp [intOf]; omega
        · go_wp2
          go_ret
          exact ⟨⟨_, rfl, fun h => by cases h⟩, rfl⟩
      · have hs' : ¬ (str.size : Int) ≤ 1048576 := by omega
        go_wp2
        go_ret
        exact ⟨⟨_, rfl, fun h => by cases h⟩, rfl⟩
    · go_wp2
      go_ret
      exact ⟨⟨_, rfl, fun _ j hj => HJ.out j (by omega)⟩, rfl⟩

set_option maxHeartbeats 4000000 in
set_option maxRecDepth 100000 in
theorem bytes2_any (ca : Option Addr) (n cc : Nat) (ya : Option Addr) (ny yc : Nat) (sa : Option Addr) (ns nc : Nat) (la : Option Addr) (nl lc : Nat) (cl : Nat → ByteArray) (kk : Int) (w : World)
    (h1 : n ≤ maxLen) (h2 : ny ≤ maxLen) (h3 : ns ≤ maxLen) (h4 : nl ≤ maxLen) (hL : StrsAt w la nl cl) :
    Calls Try.prog 13 #[.slice ca n cc, .slice ya ny yc, .slice sa ns nc, .slice la nl lc, .int .i64 kk] w fun e w' => BoolRet nl cl e ∧ w' = w := by
  unfold maxLen at h1 h2 h3 h4
  go_enter Try.func13, Try.ntmps13
  go_wp2
  all_goals (first | (go_ret; exact ⟨⟨_, rfl, fun h => by cases h⟩, rfl⟩) | skip)
  go_loop [11, 12] (fun z i => ∃ k : Nat, ∃ Z : Int, k ≤ nl ∧ i = .int .i64 k ∧ z = .int .i64 Z ∧ 0 ≤ Z ∧ Z ≤ 1048576 ∧ Hid (∀ j, j < k → (cl j).size ≤ 1048576)) (fun _ i => nl - (intOf i).toNat)
  case atStart => exact ⟨0, _, Nat.zero_le _, rfl, rfl, by omega, by omega, fun j hj => absurd hj (Nat.not_lt_zero _)⟩
  case round =>
    obtain ⟨k, Z, hk, rfl, rfl, hZ0, hZ1, HJ⟩ := hrel
    by_cases hlt : k < nl
    · obtain ⟨lb, loff, rfl, hLs⟩ : ∃ b off, la = some ⟨b, off, none⟩ ∧ ∀ i, i < nl → w.cell? ⟨b, off + i, none⟩ = some (.string (cl i)) := by
        rcases hL with h | h
        · omega
        · exact h
      have hlm := hLs k hlt
      obtain ⟨str, hstr⟩ : ∃ str, cl k = str := ⟨_, rfl⟩
      rw [hstr] at hlm
      have hlt' : (k : Int) < (nl : Int) := by omega
      have HS : Hid (cl k = str) := hstr
      clear hLs hstr
      by_cases hs : str.size ≤ 1048576
      · have hs' : (str.size : Int) ≤ 1048576 := by omega
        by_cases hz : Z + str.size ≤ 1048576
        · go_wp2
          go_round
          case rel => exact ⟨k + 1, Z + str.size, by omega, by go_num, rfl, by omega, hz, fun j hj => by
            rcases Nat.lt_succ_iff_lt_or_eq.1 hj with h | h
            · exact HJ.out j h
            · subst h; rw [HS.out]; exact hs⟩
          case measure => simp [intOf]; omega
        · go_wp2
          go_ret
          exact ⟨⟨_, rfl, fun h => by cases h⟩, rfl⟩
      · have hs' : ¬ (str.size : Int) ≤ 1048576 := by omega
        go_wp2
        go_ret
        exact ⟨⟨_, rfl, fun h => by cases h⟩, rfl⟩
    · go_wp2
      go_ret
      exact ⟨⟨_, rfl, fun _ j hj => HJ.out j (by omega)⟩, rfl⟩

end Go.Proofs.Qxb6612232a
