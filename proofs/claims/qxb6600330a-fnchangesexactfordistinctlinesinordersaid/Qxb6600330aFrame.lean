import Derived.Test.Qxb6600330aWorld
import Derived.Test.Qxb6600330aLit
namespace Go.Proofs.Qxb6600330a
open Go.RowKit
set_option linter.unusedVariables false

/-- A part of a text, by the way to it: 0 the first of two, the inside of a block or a loop; 1 the second of two. -/
def nav : List Nat → Code → Code
  | [], c => c
  | 0 :: ps, .seq a _ => nav ps a
  | _ :: ps, .seq _ b => nav ps b
  | 0 :: ps, .cond _ a _ => nav ps a
  | _ :: ps, .cond _ _ b => nav ps b
  | _ :: ps, .block _ c => nav ps c
  | _ :: ps, .loop c => nav ps c
  | _ :: _, c => c

/-- split's frame, in its loop: the slots that are read later. -/
structure F36 (a : Act) (bd bg ba bb alo blo n m ca cb c : Nat) : Prop where
  sz : a.tmps.size = 344
  df : a.defers = []
  t0 : a.tmps.getD 0 undef = .pointer (some ⟨bd, 0, none⟩)
  t1 : a.tmps.getD 1 undef = .int .i64 alo
  t3 : a.tmps.getD 3 undef = .int .i64 blo
  t12 : a.tmps.getD 12 undef = .slice (some ⟨ba, alo, none⟩) n ca
  t13 : a.tmps.getD 13 undef = .slice (some ⟨bb, blo, none⟩) m cb
  t14 : a.tmps.getD 14 undef = .pointer (some ⟨bg, 0, none⟩)
  t15 : a.tmps.getD 15 undef = .int .i64 n
  t16 : a.tmps.getD 16 undef = .int .i64 m
  t17 : a.tmps.getD 17 undef = .int .i64 ((n : Int) - m)
  t18 : a.tmps.getD 18 undef = .int .i64 c
/-- In the search from the start: the last diagonal, the diagonal. -/
structure FK (a : Act) (bd bg ba bb alo blo n m ca cb c : Nat) (hi k : Int) : Prop extends F36 a bd bg ba bb alo blo n m ca cb c where
  t20 : a.tmps.getD 20 undef = .int .i64 hi
  t21 : a.tmps.getD 21 undef = .int .i64 k
/-- .. and the x on it. -/
structure FX (a : Act) (bd bg ba bb alo blo n m ca cb c : Nat) (hi k x : Int) : Prop extends FK a bd bg ba bb alo blo n m ca cb c hi k where
  t22 : a.tmps.getD 22 undef = .int .i64 x
/-- In the search from the end: the last diagonal, the diagonal. -/
structure BK (a : Act) (bd bg ba bb alo blo n m ca cb c : Nat) (hi k : Int) : Prop extends F36 a bd bg ba bb alo blo n m ca cb c where
  t20 : a.tmps.getD 20 undef = .int .i64 hi
  t26 : a.tmps.getD 26 undef = .int .i64 k
structure BX (a : Act) (bd bg ba bb alo blo n m ca cb c : Nat) (hi k x : Int) : Prop extends BK a bd bg ba bb alo blo n m ca cb c hi k where
  t27 : a.tmps.getD 27 undef = .int .i64 x

end Go.Proofs.Qxb6600330a
