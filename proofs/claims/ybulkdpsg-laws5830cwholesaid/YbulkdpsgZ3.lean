/- S5830C: the law's code in pieces; what its slots hold. -/
import Derived.Test.YbulkdpsgZ2
import Derived.Deep.LoopGhost
import Derived.Deep.CutBlock
import Derived.BigQuiet
import Derived.Deep.RegionWith
namespace Go.Proofs.Ybulkdpsg
open Go Go.RowKit Go.Sort Go.Proofs Go.Lib
set_option linter.unusedVariables false
set_option linter.unusedSimpArgs false
def findBlock (id : Nat) : Code → Option Code
  | .block i c => if i = id then some c else findBlock id c
  | .seq a b => match findBlock id a with
    | some c => some c
    | none => findBlock id b
  | .loop c => findBlock id c
  | .scope c => findBlock id c
  | .cond _ a b => match findBlock id a with
    | some c => some c
    | none => findBlock id b
  | _ => none
noncomputable def blk (id : Nat) : Code := (Yba.f4.body.bind (findBlock id)).getD .skip
def sl (a : Act) (i : Nat) : Value := a.tmps.getD i undef
def slc (b n : Nat) : Value := .slice (some ⟨b, 0, none⟩) n n
/-- What the law's slots hold while its model runs. -/
structure Env (X : Inp) (z bj bk bd ba bru bx bn : Nat) (a : Act) : Prop where
  hd : a.defers = []
  hs : a.tmps.size = 817
  s14 : sl a 14 = .bool false
  s15 : sl a 15 = .int .i64 (X.nJ : Int)
  s16 : sl a 16 = .int .i64 (X.nW : Int)
  s18 : sl a 18 = .int .i64 (X.nC : Int)
  s19 : sl a 19 = .int .i64 (X.pd : Int)
  s21 : sl a 21 = .int .i64 (X.n : Int)
  s24 : sl a 24 = slc bj X.n
  s25 : sl a 25 = slc bk X.n
  s26 : sl a 26 = slc bd X.n
  s27 : sl a 27 = slc ba X.n
  s32 : sl a 32 = pn bx 0
  s33 : sl a 33 = pn bn 0
  s35 : sl a 35 = slc bru X.n
  s38 : sl a 38 = .bool X.sticky
  s39 : sl a 39 = slc z 5
  s41 : sl a 41 = slc (z + 1) X.n
  s42 : sl a 42 = slc (z + 2) X.n
  s43 : sl a 43 = slc (z + 3) X.n
  s44 : sl a 44 = slc (z + 4) X.n
  s45 : sl a 45 = slc (z + 5) X.n
  s46 : sl a 46 = slc (z + 6) X.n
  s47 : sl a 47 = slc (z + 7) X.n
  s48 : sl a 48 = slc (z + 8) X.nW
  s50 : sl a 50 = slc (z + 9) X.nW
  s51 : sl a 51 = slc (z + 10) X.nJ
  s52 : sl a 52 = slc (z + 11) X.nJ
/-- The rows that do not turn. -/
structure Cst (X : Inp) (bj bk bd ba : Nat) (wz : World) : Prop where
  j : wz.rowIs bj 3 X.n (fun i => .int .i64 (X.job i : Int))
  k : wz.rowIs bk 3 X.n (fun i => .int .i64 (X.key i : Int))
  d : wz.rowIs bd 44 X.n (fun i => .int .i64 (X.dur i : Int))
  a : wz.rowIs ba 44 X.n (fun i => .int .i64 (X.arr i : Int))
end Go.Proofs.Ybulkdpsg
