/-
  Contracts of zzReadUvarint over a list, and of zzReadField.
-/
import Derived.Test.Qxb6612289aRead
set_option linter.unusedVariables false
namespace Go.Proofs.Qxb6612289a
open Go.RowKit Go.Lib

theorem at_list (s : ByteArray) (p : Nat) (pre : List UInt8) (b : UInt8) (suf : List UInt8) (hp : p = pre.length) (h : s.data.toList = pre ++ b :: suf) : ∃ hp : p < s.size, s[p]'hp = b := by
  subst hp
  have hl : pre.length < s.size := by rw [← size_list, h]; simp
  refine ⟨hl, ?_⟩
  have h1 : s[pre.length]'hl = s.data.toList[pre.length]'(by rw [size_list]; exact hl) := by
    rw [Array.getElem_toList]; rfl
  rw [h1]
  simp [h]

theorem extract_list (s t : ByteArray) (a b : Nat) (pre suf : List UInt8) (ha : a = pre.length) (hb : b = pre.length + t.size) (h : s.data.toList = pre ++ (t.data.toList ++ suf)) : s.extract a b = t := by
  apply bytes_ext
  rw [ByteArray.data_extract, Array.toList_extract, h, ha, hb, List.extract_eq_take_drop]
  rw [show pre.length + t.size - pre.length = t.data.toList.length by rw [size_list]; omega]
  simp

theorem readUvarint_any (s : ByteArray) (p x : Nat) (pre suf : List UInt8) (w : World) (hs : s.size ≤ 1099511627776) (hx : x < 2097152) (hp : p = pre.length) (h : s.data.toList = pre ++ (uvarint x ++ suf)) :
    Calls Try.prog 11 #[.string s, .int .i64 p] w fun e w' => e = .returned (.tuple #[.int .u64 x, .int .i64 ((p + (uvarint x).length : Nat) : Int), .bool true]) ∧ w' = w := by
  by_cases h1 : x < 128
  · rw [uvarint_small h1] at h ⊢
    obtain ⟨q0, e0⟩ := at_list s p pre _ _ hp h
    exact read1 s p x w hs h1 q0 (by rw [e0]; simp; omega)
  rw [uvarint_big (by omega)] at h ⊢
  obtain ⟨q0, e0⟩ := at_list s p pre _ _ hp h
  by_cases h2 : x / 128 < 128
  · rw [uvarint_small h2] at h ⊢
    obtain ⟨q1, e1⟩ := at_list s (p + 1) (pre ++ [(x % 128 + 128).toUInt8]) (x / 128).toUInt8 suf (by simp [hp]) (by rw [h]; simp)
    exact read2 s p x w hs (by omega) (by omega) q1 (by rw [e0]; simp; omega) (by rw [e1]; simp; omega)
  rw [uvarint_big (x := x / 128) (by omega)] at h ⊢
  rw [uvarint_small (x := x / 128 / 128) (by omega)] at h ⊢
  obtain ⟨q1, e1⟩ := at_list s (p + 1) (pre ++ [(x % 128 + 128).toUInt8]) (x / 128 % 128 + 128).toUInt8 ([(x / 128 / 128).toUInt8] ++ suf) (by simp [hp]) (by rw [h]; simp)
  obtain ⟨q2, e2⟩ := at_list s (p + 2) (pre ++ [(x % 128 + 128).toUInt8, (x / 128 % 128 + 128).toUInt8]) (x / 128 / 128).toUInt8 suf (by simp [hp]) (by rw [h]; simp)
  exact read3 s p x w hs (by omega) (by omega) q2 (by rw [e0]; simp; omega) (by rw [e1]; simp; omega) (by rw [e2]; simp; omega)

set_option maxHeartbeats 2000000 in
set_option maxRecDepth 100000 in
theorem readField_any (s t : ByteArray) (p : Nat) (pre suf : List UInt8) (w : World) (hs : s.size ≤ 1099511627776) (ht : t.size < 2097152) (hp : p = pre.length) (h : s.data.toList = pre ++ (field t ++ suf)) :
    Calls Try.prog 12 #[.string s, .int .i64 p] w fun e w' => e = .returned (.tuple #[.string t, .int .i64 ((p + (field t).length : Nat) : Int), .bool true]) ∧ w' = w := by
  have h' : s.data.toList = pre ++ (uvarint t.size ++ (t.data.toList ++ suf)) := by rw [h]; simp [field]
  have H := hide (readUvarint_any s p t.size pre (t.data.toList ++ suf) w hs ht hp h')
  obtain ⟨q, Hq⟩ : ∃ q, Hid (p + (uvarint t.size).length = q) := ⟨_, rfl⟩
  rw [Hq.out] at H
  have hq := Hq.out
  have hsz : q + t.size ≤ s.size := by rw [← size_list s, h']; simp only [List.length_append, size_list]; omega
  have HX := hide (extract_list s t q (q + t.size) (pre ++ uvarint t.size) suf (by simp; omega) (by simp; omega) (by rw [h']; simp))
  have hfl : p + (field t).length = q + t.size := by simp only [field, List.length_append, size_list]; omega
  rw [hfl]
  clear h h' hq hfl hp
  obtain ⟨n, hn⟩ : ∃ n, t.size = n := ⟨_, rfl⟩
  rw [hn] at H HX hsz ht ⊢
  have hsz' : (q : Int) + (n : Int) ≤ (s.size : Int) := by omega
  have hsz2 : (n : Int) ≤ (s.size : Int) - (q : Int) := by omega
  go_enter Try.func12, Try.ntmps12
  go_wp2_with fail
  refine (unhide H).mono ?_
  rintro e w' ⟨rfl, hw⟩
  have hw' := hw.symm
  subst hw'
  clear hw
  go_wp2
  go_ret3
  refine ⟨?_, rfl⟩
  show Ending.returned (.tuple #[.string (s.extract q (q + n)), .int .i64 ((q : Int) + (n : Int)), .bool true]) = _
  rw [HX.out]
  rfl

end Go.Proofs.Qxb6612289a
