/-
  Contracts of zzAppendRune and zzAppendCell at this dump.
-/
import Derived.Test.Qxb6612232aKeep
import Derived.Lib.RuneBytes
set_option linter.unusedVariables false
namespace Go.Proofs.Qxb6612232a
open Go.RowKit

/-- What an appender of bytes hands back. -/
def BytesRet (B n : Nat) (xs : List Value) (e : Ending) (w' : World) : Prop := ∃ v', e = .returned v' ∧ w'.ownsRow B 5 1 v' n xs

theorem i32_and63 {x : Int} (h₀ : 0 ≤ x) (h₁ : x < 2147483648) : bits .and .i32 x 63 = x % 64 := bits_mask .i32 31 (by decide) wraps_i32 6 (by decide) x h₀ h₁
theorem i32_or224 {y : Int} (h₀ : 0 ≤ y) (h₁ : y < 16) : bits .or .i32 224 y = 224 + y :=
  bits_join .i32 31 (by decide) wraps_i32 4 224 y (by decide) (by decide) (by decide) h₀ h₁ (by omega)
theorem i32_or240 {y : Int} (h₀ : 0 ≤ y) (h₁ : y < 8) : bits .or .i32 240 y = 240 + y :=
  bits_join .i32 31 (by decide) wraps_i32 3 240 y (by decide) (by decide) (by decide) h₀ h₁ (by omega)

set_option maxHeartbeats 4000000 in
set_option maxRecDepth 100000 in
theorem appendRune_one (B : Nat) (v : Value) (n : Nat) (xs : List Value) (r : Int) (h0 : 0 ≤ r) (h1 : r ≤ 127) (w : World) (hown : w.ownsRow B 5 1 v n xs) (hlen : n + 4 ≤ 140737488355328) (hBw : B ≤ w.heap.size) :
    Calls Try.prog 25 #[v, .int .i32 r] w fun e w' => BytesRet B (n + 1) (xs ++ [.int .u8 (r)]) e w' ∧ Below B w w' := by
  obtain ⟨i0, hi, hz0, hz1, hz2⟩ := info_parts infoByte
  go_enter Try.func25, Try.ntmps25
  go_wp2_with (at_builtin; refine wpList_append_own _ rfl _ _ 34 rfl B 5 i0 (.int .u8 0) 1 1 Try.underlying34 hi hz0 hz1 hz2 rfl (by decide) _ _ _ rfl (hown.alloc _) ⟨w.heap.size, 0, none⟩ 1 1 [.int .u8 (r)] rfl rfl (World.news_of_block (cs := #[.int .u8 (r)]) (t := 5) (fr := (0, 0)) (heap_alloc_new w _)) (by simp [Value.oneCell']) (by unfold maxLen; omega) (by omega) (by simp; omega) ?_)
  intro v' w2 hown' hgrow _
  go_wp2
  go_ret
  exact ⟨⟨_, rfl, hown'⟩, ((Below.refl B w).alloc hBw _).grown hgrow (by simp; omega) (fun k hk => (hown.lt k hk).1)⟩

set_option maxHeartbeats 4000000 in
set_option maxRecDepth 100000 in
theorem appendRune_two (B : Nat) (v : Value) (n : Nat) (xs : List Value) (r : Int) (h0 : 128 ≤ r) (h1 : r ≤ 2047) (w : World) (hown : w.ownsRow B 5 1 v n xs) (hlen : n + 4 ≤ 140737488355328) (hBw : B ≤ w.heap.size) :
    Calls Try.prog 25 #[v, .int .i32 r] w fun e w' => BytesRet B (n + 2) (xs ++ [.int .u8 (192 + r / 64), .int .u8 (128 + r % 64)]) e w' ∧ Below B w w' := by
  obtain ⟨i0, hi, hz0, hz1, hz2⟩ := info_parts infoByte
  have hand1 : bits .and .i32 r 63 = r % 64 := i32_and63 (by omega) (by omega)
  go_enter Try.func25, Try.ntmps25
  go_wp2_with (at_builtin; refine wpList_append_own _ rfl _ _ 34 rfl B 5 i0 (.int .u8 0) 1 1 Try.underlying34 hi hz0 hz1 hz2 rfl (by decide) _ _ _ rfl (hown.alloc _) ⟨w.heap.size, 0, none⟩ 2 2 [.int .u8 (192 + r / 64), .int .u8 (128 + r % 64)] rfl rfl (World.news_of_block (cs := #[.int .u8 (192 + r / 64), .int .u8 (128 + r % 64)]) (t := 5) (fr := (0, 0)) (heap_alloc_new w _)) (by simp [Value.oneCell']) (by unfold maxLen; omega) (by omega) (by simp; omega) ?_)
  intro v' w2 hown' hgrow _
  go_wp2
  go_ret
  exact ⟨⟨_, rfl, hown'⟩, ((Below.refl B w).alloc hBw _).grown hgrow (by simp; omega) (fun k hk => (hown.lt k hk).1)⟩

set_option maxHeartbeats 4000000 in
set_option maxRecDepth 100000 in
theorem appendRune_lo (B : Nat) (v : Value) (n : Nat) (xs : List Value) (r : Int) (h0 : 2048 ≤ r) (h1 : r < 55296) (w : World) (hown : w.ownsRow B 5 1 v n xs) (hlen : n + 4 ≤ 140737488355328) (hBw : B ≤ w.heap.size) :
    Calls Try.prog 25 #[v, .int .i32 r] w fun e w' => BytesRet B (n + 3) (xs ++ [.int .u8 (224 + r / 4096), .int .u8 (128 + r / 64 % 64), .int .u8 (128 + r % 64)]) e w' ∧ Below B w w' := by
  obtain ⟨i0, hi, hz0, hz1, hz2⟩ := info_parts infoByte
  have hand1 : bits .and .i32 r 63 = r % 64 := i32_and63 (by omega) (by omega)
  have hand2 : bits .and .i32 (r / 64) 63 = r / 64 % 64 := i32_and63 (by omega) (by omega)
  have hor1 : bits .or .i32 224 (r / 4096) = 224 + r / 4096 := i32_or224 (by omega) (by omega)
  go_enter Try.func25, Try.ntmps25
  go_wp2_with (at_builtin; refine wpList_append_own _ rfl _ _ 34 rfl B 5 i0 (.int .u8 0) 1 1 Try.underlying34 hi hz0 hz1 hz2 rfl (by decide) _ _ _ rfl (hown.alloc _) ⟨w.heap.size, 0, none⟩ 3 3 [.int .u8 (224 + r / 4096), .int .u8 (128 + r / 64 % 64), .int .u8 (128 + r % 64)] rfl rfl (World.news_of_block (cs := #[.int .u8 (224 + r / 4096), .int .u8 (128 + r / 64 % 64), .int .u8 (128 + r % 64)]) (t := 5) (fr := (0, 0)) (heap_alloc_new w _)) (by simp [Value.oneCell']) (by unfold maxLen; omega) (by omega) (by simp; omega) ?_)
  intro v' w2 hown' hgrow _
  go_wp2
  go_ret
  exact ⟨⟨_, rfl, hown'⟩, ((Below.refl B w).alloc hBw _).grown hgrow (by simp; omega) (fun k hk => (hown.lt k hk).1)⟩

set_option maxHeartbeats 4000000 in
set_option maxRecDepth 100000 in
theorem appendRune_hi (B : Nat) (v : Value) (n : Nat) (xs : List Value) (r : Int) (h0 : 57343 < r) (h1 : r ≤ 65535) (w : World) (hown : w.ownsRow B 5 1 v n xs) (hlen : n + 4 ≤ 140737488355328) (hBw : B ≤ w.heap.size) :
    Calls Try.prog 25 #[v, .int .i32 r] w fun e w' => BytesRet B (n + 3) (xs ++ [.int .u8 (224 + r / 4096), .int .u8 (128 + r / 64 % 64), .int .u8 (128 + r % 64)]) e w' ∧ Below B w w' := by
  obtain ⟨i0, hi, hz0, hz1, hz2⟩ := info_parts infoByte
  have hand1 : bits .and .i32 r 63 = r % 64 := i32_and63 (by omega) (by omega)
  have hand2 : bits .and .i32 (r / 64) 63 = r / 64 % 64 := i32_and63 (by omega) (by omega)
  have hor1 : bits .or .i32 224 (r / 4096) = 224 + r / 4096 := i32_or224 (by omega) (by omega)
  go_enter Try.func25, Try.ntmps25
  go_wp2_with (at_builtin; refine wpList_append_own _ rfl _ _ 34 rfl B 5 i0 (.int .u8 0) 1 1 Try.underlying34 hi hz0 hz1 hz2 rfl (by decide) _ _ _ rfl (hown.alloc _) ⟨w.heap.size, 0, none⟩ 3 3 [.int .u8 (224 + r / 4096), .int .u8 (128 + r / 64 % 64), .int .u8 (128 + r % 64)] rfl rfl (World.news_of_block (cs := #[.int .u8 (224 + r / 4096), .int .u8 (128 + r / 64 % 64), .int .u8 (128 + r % 64)]) (t := 5) (fr := (0, 0)) (heap_alloc_new w _)) (by simp [Value.oneCell']) (by unfold maxLen; omega) (by omega) (by simp; omega) ?_)
  intro v' w2 hown' hgrow _
  go_wp2
  go_ret
  exact ⟨⟨_, rfl, hown'⟩, ((Below.refl B w).alloc hBw _).grown hgrow (by simp; omega) (fun k hk => (hown.lt k hk).1)⟩

set_option maxHeartbeats 4000000 in
set_option maxRecDepth 100000 in
theorem appendRune_sur (B : Nat) (v : Value) (n : Nat) (xs : List Value) (r : Int) (h0 : 55296 ≤ r) (h1 : r ≤ 57343) (w : World) (hown : w.ownsRow B 5 1 v n xs) (hlen : n + 4 ≤ 140737488355328) (hBw : B ≤ w.heap.size) :
    Calls Try.prog 25 #[v, .int .i32 r] w fun e w' => BytesRet B (n + 3) (xs ++ [.int .u8 239, .int .u8 191, .int .u8 189]) e w' ∧ Below B w w' := by
  obtain ⟨i0, hi, hz0, hz1, hz2⟩ := info_parts infoByte
  have q1 : bits .and .i32 65533 63 = 61 := by decide
  have q2 : bits .and .i32 1023 63 = 63 := by decide
  have q3 : bits .or .i32 224 15 = 239 := by decide
  have q4 : bits .or .i32 128 63 = 191 := by decide
  have q5 : bits .or .i32 128 61 = 189 := by decide
  go_enter Try.func25, Try.ntmps25
  go_wp2_with (at_builtin; refine wpList_append_own _ rfl _ _ 34 rfl B 5 i0 (.int .u8 0) 1 1 Try.underlying34 hi hz0 hz1 hz2 rfl (by decide) _ _ _ rfl (hown.alloc _) ⟨w.heap.size, 0, none⟩ 3 3 [.int .u8 239, .int .u8 191, .int .u8 189] rfl rfl (World.news_of_block (cs := #[.int .u8 239, .int .u8 191, .int .u8 189]) (t := 5) (fr := (0, 0)) (heap_alloc_new w _)) (by simp [Value.oneCell']) (by unfold maxLen; omega) (by omega) (by simp; omega) ?_)
  intro v' w2 hown' hgrow _
  go_wp2
  go_ret
  exact ⟨⟨_, rfl, hown'⟩, ((Below.refl B w).alloc hBw _).grown hgrow (by simp; omega) (fun k hk => (hown.lt k hk).1)⟩

set_option maxHeartbeats 4000000 in
set_option maxRecDepth 100000 in
theorem appendRune_big (B : Nat) (v : Value) (n : Nat) (xs : List Value) (r : Int) (h0 : 1114111 < r) (h1 : r ≤ 2147483647) (w : World) (hown : w.ownsRow B 5 1 v n xs) (hlen : n + 4 ≤ 140737488355328) (hBw : B ≤ w.heap.size) :
    Calls Try.prog 25 #[v, .int .i32 r] w fun e w' => BytesRet B (n + 3) (xs ++ [.int .u8 239, .int .u8 191, .int .u8 189]) e w' ∧ Below B w w' := by
  obtain ⟨i0, hi, hz0, hz1, hz2⟩ := info_parts infoByte
  have q1 : bits .and .i32 65533 63 = 61 := by decide
  have q2 : bits .and .i32 1023 63 = 63 := by decide
  have q3 : bits .or .i32 224 15 = 239 := by decide
  have q4 : bits .or .i32 128 63 = 191 := by decide
  have q5 : bits .or .i32 128 61 = 189 := by decide
  go_enter Try.func25, Try.ntmps25
  go_wp2_with (at_builtin; refine wpList_append_own _ rfl _ _ 34 rfl B 5 i0 (.int .u8 0) 1 1 Try.underlying34 hi hz0 hz1 hz2 rfl (by decide) _ _ _ rfl (hown.alloc _) ⟨w.heap.size, 0, none⟩ 3 3 [.int .u8 239, .int .u8 191, .int .u8 189] rfl rfl (World.news_of_block (cs := #[.int .u8 239, .int .u8 191, .int .u8 189]) (t := 5) (fr := (0, 0)) (heap_alloc_new w _)) (by simp [Value.oneCell']) (by unfold maxLen; omega) (by omega) (by simp; omega) ?_)
  intro v' w2 hown' hgrow _
  go_wp2
  go_ret
  exact ⟨⟨_, rfl, hown'⟩, ((Below.refl B w).alloc hBw _).grown hgrow (by simp; omega) (fun k hk => (hown.lt k hk).1)⟩

set_option maxHeartbeats 4000000 in
set_option maxRecDepth 100000 in
theorem appendRune_four (B : Nat) (v : Value) (n : Nat) (xs : List Value) (r : Int) (h0 : 65536 ≤ r) (h1 : r ≤ 1114111) (w : World) (hown : w.ownsRow B 5 1 v n xs) (hlen : n + 4 ≤ 140737488355328) (hBw : B ≤ w.heap.size) :
    Calls Try.prog 25 #[v, .int .i32 r] w fun e w' => BytesRet B (n + 4) (xs ++ [.int .u8 (240 + r / 262144), .int .u8 (128 + r / 4096 % 64), .int .u8 (128 + r / 64 % 64), .int .u8 (128 + r % 64)]) e w' ∧ Below B w w' := by
  obtain ⟨i0, hi, hz0, hz1, hz2⟩ := info_parts infoByte
  have hand1 : bits .and .i32 r 63 = r % 64 := i32_and63 (by omega) (by omega)
  have hand2 : bits .and .i32 (r / 64) 63 = r / 64 % 64 := i32_and63 (by omega) (by omega)
  have hand3 : bits .and .i32 (r / 4096) 63 = r / 4096 % 64 := i32_and63 (by omega) (by omega)
  have hor2 : bits .or .i32 240 (r / 262144) = 240 + r / 262144 := i32_or240 (by omega) (by omega)
  go_enter Try.func25, Try.ntmps25
  go_wp2_with (at_builtin; refine wpList_append_own _ rfl _ _ 34 rfl B 5 i0 (.int .u8 0) 1 1 Try.underlying34 hi hz0 hz1 hz2 rfl (by decide) _ _ _ rfl (hown.alloc _) ⟨w.heap.size, 0, none⟩ 4 4 [.int .u8 (240 + r / 262144), .int .u8 (128 + r / 4096 % 64), .int .u8 (128 + r / 64 % 64), .int .u8 (128 + r % 64)] rfl rfl (World.news_of_block (cs := #[.int .u8 (240 + r / 262144), .int .u8 (128 + r / 4096 % 64), .int .u8 (128 + r / 64 % 64), .int .u8 (128 + r % 64)]) (t := 5) (fr := (0, 0)) (heap_alloc_new w _)) (by simp [Value.oneCell']) (by unfold maxLen; omega) (by omega) (by simp; omega) ?_)
  intro v' w2 hown' hgrow _
  go_wp2
  go_ret
  exact ⟨⟨_, rfl, hown'⟩, ((Below.refl B w).alloc hBw _).grown hgrow (by simp; omega) (fun k hk => (hown.lt k hk).1)⟩

theorem appendRune_any (B : Nat) (v : Value) (n : Nat) (xs : List Value) (r : Int) (h0 : 0 ≤ r) (h1 : r ≤ 2147483647) (w : World) (hown : w.ownsRow B 5 1 v n xs) (hlen : n + 4 ≤ 140737488355328) (hBw : B ≤ w.heap.size) :
    Calls Try.prog 25 #[v, .int .i32 r] w fun e w' => BytesRet B (n + (Lib.runeCells r).length) (xs ++ Lib.runeCells r) e w' ∧ Below B w w' := by
  unfold Lib.runeCells
  by_cases c1 : r ≤ 127
  · rw [Lib.encodeRuneZ_one h0 c1]; exact appendRune_one B v n xs r h0 c1 w hown hlen hBw
  by_cases c2 : r ≤ 2047
  · rw [Lib.encodeRuneZ_two (by omega) c2]; exact appendRune_two B v n xs r (by omega) c2 w hown hlen hBw
  by_cases c3 : r < 55296
  · rw [Lib.encodeRuneZ_three (Or.inl ⟨by omega, c3⟩)]; exact appendRune_lo B v n xs r (by omega) c3 w hown hlen hBw
  by_cases c4 : r ≤ 57343
  · rw [Lib.encodeRuneZ_bad (Or.inr (Or.inl ⟨by omega, c4⟩))]; exact appendRune_sur B v n xs r (by omega) c4 w hown hlen hBw
  by_cases c5 : r ≤ 65535
  · rw [Lib.encodeRuneZ_three (Or.inr ⟨by omega, c5⟩)]; exact appendRune_hi B v n xs r (by omega) c5 w hown hlen hBw
  by_cases c6 : r ≤ 1114111
  · rw [Lib.encodeRuneZ_four (by omega) c6]; exact appendRune_four B v n xs r (by omega) c6 w hown hlen hBw
  · rw [Lib.encodeRuneZ_bad (Or.inr (Or.inr (by omega)))]; exact appendRune_big B v n xs r (by omega) h1 w hown hlen hBw

end Go.Proofs.Qxb6612232a
