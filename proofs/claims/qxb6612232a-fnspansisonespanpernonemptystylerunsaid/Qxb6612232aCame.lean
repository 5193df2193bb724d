/-
  What the two laws are handed.
-/
import Derived.Test.Qxb6612232aZZ
set_option linter.unusedVariables false
namespace Go.Proofs.Qxb6612232a
open Go.RowKit

/-- What the law is handed. -/
structure Came (w : World) (ca : Option Addr) (n cc : Nat) (cd : Nat → Int) (ya : Option Addr) (ny yc : Nat) (sy : Nat → Int) (sa : Option Addr) (ns nc : Nat) (S : Nat → Sty) (la : Option Addr) (nl lc : Nat) (cl : Nat → ByteArray) : Prop where
  m1 : n ≤ maxLen
  m2 : ny ≤ maxLen
  m3 : ns ≤ maxLen
  m4 : nl ≤ maxLen
  z1 : ca = none → n = 0 ∧ cc = 0
  z2 : ya = none → ny = 0 ∧ yc = 0
  z3 : sa = none → ns = 0 ∧ nc = 0
  z4 : la = none → nl = 0 ∧ lc = 0
  hC : IntsAt .i32 w ca n cd
  hY : IntsAt .u32 w ya ny sy
  hS : StylesAt w sa ns S
  hL : StrsAt w la nl cl
  hcd : ∀ i, i < n → -2147483648 ≤ cd i ∧ cd i ≤ 2147483647
  hsy : ∀ i, i < ny → 0 ≤ sy i ∧ sy i ≤ 4294967295

end Go.Proofs.Qxb6612232a
