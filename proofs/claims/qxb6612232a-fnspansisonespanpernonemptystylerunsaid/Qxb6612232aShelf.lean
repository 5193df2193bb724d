/-
  The shelf's contracts on Len, String (the form with the wide frame) and AppendRune at this dump, in plain words: written by the kit's own tool for this program, cut down to what is used.
-/
import Derived.Shelf.Strings.BuilderF
import Derived.Shelf.Strings.BuilderK
import Derived.Shelf.Utf8.AppendRune
import Derived.Test.Qxb6612232aProg
namespace Go.Proofs
open Go.Shelf
def Try.lays170_ren : Go.Shelf.Ren := ⟨fun | 170 => 28 | n => n, fun | 70 => 80 | 3 => 3 | 0 => 0 | 72 => 82 | 37 => 34 | 5 => 5 | n => n, fun | n => n⟩
theorem Try.lays170 : Go.Proofs.Lays.n170 Try.prog Try.lays170_ren := {
  mixed := by kernel_rfl
  f170 := Try.func28.trans (congrArg some (by kernel_rfl))
  t0 := Try.underlying0
  a0 := Try.isAgg0
  z0 := Try.sizeOf0
  v0 := Try.zeroValue0
  t3 := Try.underlying3
  a3 := Try.isAgg3
  z3 := Try.sizeOf3
  v3 := Try.zeroValue3
  t37 := Try.underlying34
  a37 := Try.isAgg34
  z37 := Try.sizeOf34
  v37 := Try.zeroValue34
  t70 := Try.underlying80
  a70 := Try.isAgg80
  z70 := Try.sizeOf80
  v70 := Try.zeroValue80
  t72 := Try.underlying82
  a72 := Try.isAgg82
  z72 := Try.sizeOf82
  v72 := Try.zeroValue82 }
def Try.lays169_ren : Go.Shelf.Ren := ⟨fun | 169 => 29 | n => n, fun | 70 => 80 | 9 => 9 | 0 => 0 | 72 => 82 | 37 => 34 | 127 => 94 | 3 => 3 | 5 => 5 | n => n, fun | n => n⟩
theorem Try.lays169 : Go.Proofs.Lays.n169 Try.prog Try.lays169_ren := {
  mixed := by kernel_rfl
  f169 := Try.func29.trans (congrArg some (by kernel_rfl))
  t0 := Try.underlying0
  a0 := Try.isAgg0
  z0 := Try.sizeOf0
  v0 := Try.zeroValue0
  t3 := Try.underlying3
  a3 := Try.isAgg3
  z3 := Try.sizeOf3
  v3 := Try.zeroValue3
  t9 := Try.underlying9
  a9 := Try.isAgg9
  z9 := Try.sizeOf9
  v9 := Try.zeroValue9
  t37 := Try.underlying34
  a37 := Try.isAgg34
  z37 := Try.sizeOf34
  v37 := Try.zeroValue34
  t70 := Try.underlying80
  a70 := Try.isAgg80
  z70 := Try.sizeOf80
  v70 := Try.zeroValue80
  t72 := Try.underlying82
  a72 := Try.isAgg82
  z72 := Try.sizeOf82
  v72 := Try.zeroValue82
  t127 := Try.underlying94
  a127 := Try.isAgg94
  z127 := Try.sizeOf94
  v127 := Try.zeroValue94 }
theorem Try.Builder_Extra_169 : Builder.Extra Try.prog Try.lays169_ren := {
  sizeBuilder := by kernel_rfl
  liesBuilder := by kernel_rfl
  t5 := Try.underlying5
  a5 := Try.isAgg5
  z5 := Try.sizeOf5
  v5 := Try.zeroValue5
  infoByte := by kernel_rfl
  cellsByte := by kernel_rfl
  sizeByte := by kernel_rfl
  neB5 := by decide }
open Go.RowKit in
theorem Try.Builder_Len_f (B b : Nat) (bs : List Value) (w : World) (h : Lib.IsBuilderF 82 5 B b bs w) :
    Calls Try.prog 28 #[.pointer (some ⟨b, 0, none⟩)] w fun e w' => e = .returned (.int .i64 bs.length) ∧ w' = w := Any.Builder_Len_f Try.lays170 B b bs w h
open Go.RowKit in
theorem Try.Builder_String_k (B b : Nat) (l : List UInt8) (w : World) (h : Lib.IsBuilderF 82 5 B b (Lib.byteCells l) w) (h0 : l ≠ []) :
    Calls Try.prog 29 #[.pointer (some ⟨b, 0, none⟩)] w fun e w' => e = .returned (.string ⟨l.toArray⟩) ∧ (Lib.IsBuilderF 82 5 B b (Lib.byteCells l) w' ∧ Below B w w' ∧ Lib.OthersKept 5 (some b) w w') := Any.Builder_String_k Try.lays169 Try.Builder_Extra_169 B b l w h h0
def Try.lays278_ren : Go.Shelf.Ren := ⟨fun | 278 => 39 | n => n, fun | 37 => 34 | 21 => 21 | 51 => 28 | 4 => 4 | 46 => 91 | 5 => 5 | n => n, fun | n => n⟩
theorem Try.lays278 : Go.Proofs.Lays.n278 Try.prog Try.lays278_ren := {
  mixed := by kernel_rfl
  f278 := Try.func39.trans (congrArg some (by kernel_rfl))
  t4 := Try.underlying4
  a4 := Try.isAgg4
  z4 := Try.sizeOf4
  v4 := Try.zeroValue4
  t5 := Try.underlying5
  a5 := Try.isAgg5
  z5 := Try.sizeOf5
  v5 := Try.zeroValue5
  t21 := Try.underlying21
  a21 := Try.isAgg21
  z21 := Try.sizeOf21
  v21 := Try.zeroValue21
  t37 := Try.underlying34
  a37 := Try.isAgg34
  z37 := Try.sizeOf34
  v37 := Try.zeroValue34
  t46 := Try.underlying91
  a46 := Try.isAgg91
  z46 := Try.sizeOf91
  v46 := Try.zeroValue91
  t51 := Try.underlying28
  a51 := Try.isAgg28
  z51 := Try.sizeOf28
  v51 := Try.zeroValue28 }
def Try.lays242_ren : Go.Shelf.Ren := ⟨fun | 242 => 36 | 278 => 39 | n => n, fun | 37 => 34 | 21 => 21 | 51 => 28 | 4 => 4 | 5 => 5 | 46 => 91 | n => n, fun | n => n⟩
theorem Try.lays242 : Go.Proofs.Lays.n242 Try.prog Try.lays242_ren := {
  mixed := by kernel_rfl
  f242 := Try.func36.trans (congrArg some (by kernel_rfl))
  f278 := Try.func39.trans (congrArg some (by kernel_rfl))
  t4 := Try.underlying4
  a4 := Try.isAgg4
  z4 := Try.sizeOf4
  v4 := Try.zeroValue4
  t5 := Try.underlying5
  a5 := Try.isAgg5
  z5 := Try.sizeOf5
  v5 := Try.zeroValue5
  t21 := Try.underlying21
  a21 := Try.isAgg21
  z21 := Try.sizeOf21
  v21 := Try.zeroValue21
  t37 := Try.underlying34
  a37 := Try.isAgg34
  z37 := Try.sizeOf34
  v37 := Try.zeroValue34
  t46 := Try.underlying91
  a46 := Try.isAgg91
  z46 := Try.sizeOf91
  v46 := Try.zeroValue91
  t51 := Try.underlying28
  a51 := Try.isAgg28
  z51 := Try.sizeOf28
  v51 := Try.zeroValue28 }
open Go.RowKit in
theorem Try.utf8_AppendRune_row (B : Nat) (v : Value) (n : Nat) (xs : List Value) (r : Int) (hr0 : -2147483648 ≤ r) (hr1 : r ≤ 2147483647) (w : World) (hown : w.ownsRowF B 5 1 v n xs) (hlen : n + 4 ≤ 140737488355328) (hBw : B ≤ w.heap.size) :
    Calls Try.prog 36 #[v, .int .i32 r] w fun e w' => ∃ v', e = .returned v' ∧ w'.ownsRowF B 5 1 v' (n + (Lib.runeCells r).length) (xs ++ Lib.runeCells r) ∧ ∃ o, (w.alloc o).grownBy w' v.ownBlock := Any.utf8_AppendRune_row Try.lays242 (by kernel_rfl) B v n xs r hr0 hr1 w hown hlen hBw
end Go.Proofs
