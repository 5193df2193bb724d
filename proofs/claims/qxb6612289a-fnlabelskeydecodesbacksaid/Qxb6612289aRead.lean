/-
  Contracts of zzReadUvarint and zzReadField.
-/
import Derived.Test.Qxb6612289aKey
import Derived.Lib.VarintBits
set_option linter.unusedVariables false
namespace Go.Proofs.Qxb6612289a
open Go.RowKit Go.Lib

set_option maxHeartbeats 2000000 in
set_option maxRecDepth 100000 in
theorem read1 (s : ByteArray) (p x : Nat) (w : World) (hs : s.size ≤ 1099511627776) (hx : x < 128) (hp : p < s.size) (hb : (s[p]'hp).toNat = x) :
    Calls Try.prog 11 #[.string s, .int .i64 p] w fun e w' => e = .returned (.tuple #[.int .u64 x, .int .i64 ((p + 1 : Nat) : Int), .bool true]) ∧ w' = w := by
  have hand : bits .and .u8 (x : Int) 127 = (x : Int) := by rw [u8_and127 _ (by omega) (by omega)]; omega
  have hor : bits .or .u64 0 (x : Int) = (x : Int) := by rw [u64_orv0 _ _ (by omega) (by omega) (by omega) (by omega) (by omega)]; omega
  have hx' : (x : Int) < 128 := by omega
  have hp' : (p : Int) < (s.size : Int) := by omega
  go_enter Try.func11, Try.ntmps11
  go_wp2
  refine wp_loop_rounds 1 ?_
  rw [rounds_succ]
  go_wp2
  go_ret3
  exact ⟨rfl, rfl⟩

set_option maxHeartbeats 2000000 in
set_option maxRecDepth 100000 in
theorem read2 (s : ByteArray) (p x : Nat) (w : World) (hs : s.size ≤ 1099511627776) (hx0 : 128 ≤ x) (hx : x < 16384) (hp : p + 1 < s.size) (hb : (s[p]'(by omega)).toNat = x % 128 + 128) (hb1 : (s[p + 1]'hp).toNat = x / 128) :
    Calls Try.prog 11 #[.string s, .int .i64 p] w fun e w' => e = .returned (.tuple #[.int .u64 x, .int .i64 ((p + 2 : Nat) : Int), .bool true]) ∧ w' = w := by
  obtain ⟨b0, Hb0⟩ : ∃ b0 : Nat, Hid (x % 128 + 128 = b0) := ⟨_, rfl⟩
  obtain ⟨b1, Hb1⟩ : ∃ b1 : Nat, Hid (x / 128 = b1) := ⟨_, rfl⟩
  rw [Hb0.out] at hb
  rw [Hb1.out] at hb1
  have g0 : (128 : Int) ≤ (b0 : Int) := by have := Hb0.out; omega
  have g0' : (b0 : Int) < 256 := by have := Hb0.out; omega
  have g1 : (b1 : Int) < 128 := by have := Hb1.out; omega
  have g1' : (1 : Int) ≤ (b1 : Int) := by have := Hb1.out; omega
  have ha0 : bits .and .u8 (b0 : Int) 127 = (b0 : Int) - 128 := by rw [u8_and127 _ (by omega) (by omega)]; omega
  have ha1 : bits .and .u8 (b1 : Int) 127 = (b1 : Int) := by rw [u8_and127 _ (by omega) (by omega)]; omega
  have ho0 : bits .or .u64 0 ((b0 : Int) - 128) = (b0 : Int) - 128 := by rw [u64_orv0 _ _ (by omega) (by omega) (by omega) (by omega) (by omega)]; omega
  have ho1 : bits .or .u64 ((b0 : Int) - 128) ((b1 : Int) * 128) = (b0 : Int) - 128 + (b1 : Int) * 128 := u64_orv7 _ _ (by omega) (by omega) (by omega) (by omega) (by omega)
  have hend : (b0 : Int) - 128 + (b1 : Int) * 128 = (x : Int) := by have := Hb0.out; have := Hb1.out; omega
  have HE := hide hend
  have hp' : (p : Int) + 1 < (s.size : Int) := by omega
  have hp0 : (p : Int) < (s.size : Int) := by omega
  clear hend
  go_enter Try.func11, Try.ntmps11
  go_wp2
  refine wp_loop_rounds 2 ?_
  rw [rounds_succ]
  go_wp2
  rw [rounds_succ]
  go_wp2
  go_ret3
  refine ⟨?_, rfl⟩
  show Ending.returned (.tuple #[.int .u64 ((b0 : Int) - 128 + (b1 : Int) * 128), .int .i64 ((p : Int) + 1 + 1), .bool true]) = _
  rw [HE.out]
  congr 5

set_option maxHeartbeats 2000000 in
set_option maxRecDepth 100000 in
theorem read3 (s : ByteArray) (p x : Nat) (w : World) (hs : s.size ≤ 1099511627776) (hx0 : 16384 ≤ x) (hx : x < 2097152) (hp : p + 2 < s.size) (hb : (s[p]'(by omega)).toNat = x % 128 + 128) (hb1 : (s[p + 1]'(by omega)).toNat = x / 128 % 128 + 128) (hb2 : (s[p + 2]'hp).toNat = x / 16384) :
    Calls Try.prog 11 #[.string s, .int .i64 p] w fun e w' => e = .returned (.tuple #[.int .u64 x, .int .i64 ((p + 3 : Nat) : Int), .bool true]) ∧ w' = w := by
  obtain ⟨b0, Hb0⟩ : ∃ b0 : Nat, Hid (x % 128 + 128 = b0) := ⟨_, rfl⟩
  obtain ⟨b1, Hb1⟩ : ∃ b1 : Nat, Hid (x / 128 % 128 + 128 = b1) := ⟨_, rfl⟩
  obtain ⟨b2, Hb2⟩ : ∃ b2 : Nat, Hid (x / 16384 = b2) := ⟨_, rfl⟩
  rw [Hb0.out] at hb
  rw [Hb1.out] at hb1
  rw [Hb2.out] at hb2
  have g0 : (128 : Int) ≤ (b0 : Int) := by have := Hb0.out; omega
  have g0' : (b0 : Int) < 256 := by have := Hb0.out; omega
  have g1 : (128 : Int) ≤ (b1 : Int) := by have := Hb1.out; omega
  have g1' : (b1 : Int) < 256 := by have := Hb1.out; omega
  have g2 : (b2 : Int) < 128 := by have := Hb2.out; omega
  have g2' : (1 : Int) ≤ (b2 : Int) := by have := Hb2.out; omega
  have ha0 : bits .and .u8 (b0 : Int) 127 = (b0 : Int) - 128 := by rw [u8_and127 _ (by omega) (by omega)]; omega
  have ha1 : bits .and .u8 (b1 : Int) 127 = (b1 : Int) - 128 := by rw [u8_and127 _ (by omega) (by omega)]; omega
  have ha2 : bits .and .u8 (b2 : Int) 127 = (b2 : Int) := by rw [u8_and127 _ (by omega) (by omega)]; omega
  have ho0 : bits .or .u64 0 ((b0 : Int) - 128) = (b0 : Int) - 128 := by rw [u64_orv0 _ _ (by omega) (by omega) (by omega) (by omega) (by omega)]; omega
  have ho1 : bits .or .u64 ((b0 : Int) - 128) (((b1 : Int) - 128) * 128) = (b0 : Int) - 128 + ((b1 : Int) - 128) * 128 := u64_orv7 _ _ (by omega) (by omega) (by omega) (by omega) (by omega)
  have ho2 : bits .or .u64 ((b0 : Int) - 128 + ((b1 : Int) - 128) * 128) ((b2 : Int) * 16384) = (b0 : Int) - 128 + ((b1 : Int) - 128) * 128 + (b2 : Int) * 16384 := u64_orv14 _ _ (by omega) (by omega) (by omega) (by omega) (by omega)
  have hend : (b0 : Int) - 128 + ((b1 : Int) - 128) * 128 + (b2 : Int) * 16384 = (x : Int) := by have := Hb0.out; have := Hb1.out; have := Hb2.out; omega
  have HE := hide hend
  have hp' : (p : Int) + 1 < (s.size : Int) := by omega
  have hp0 : (p : Int) < (s.size : Int) := by omega
  have hp2 : (p : Int) + 1 + 1 < (s.size : Int) := by omega
  clear hend
  go_enter Try.func11, Try.ntmps11
  go_wp2
  refine wp_loop_rounds 3 ?_
  rw [rounds_succ]
  go_wp2
  rw [rounds_succ]
  go_wp2
  rw [rounds_succ]
  go_wp2
  go_ret3
  refine ⟨?_, rfl⟩
  show Ending.returned (.tuple #[.int .u64 ((b0 : Int) - 128 + ((b1 : Int) - 128) * 128 + (b2 : Int) * 16384), .int .i64 ((p : Int) + 1 + 1 + 1), .bool true]) = _
  rw [HE.out]
  congr 5

end Go.Proofs.Qxb6612289a
