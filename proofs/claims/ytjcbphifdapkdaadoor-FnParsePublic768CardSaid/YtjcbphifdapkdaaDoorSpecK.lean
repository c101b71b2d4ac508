/-
  What the four steps of the statement's own Keccak do to the 25 words.
-/
import Derived.Test.YtjcbphifdapkdaaDoorTurn
namespace Go.Proofs.YtjcbphifdapkdaaDoor
open Go.RowKit
open Ev (AV SV)
/-- 25 words as the evaluator has them. -/
def L (x : Nat → BitVec 64) : List SV := [.u64 (x 0), .u64 (x 1), .u64 (x 2), .u64 (x 3), .u64 (x 4), .u64 (x 5), .u64 (x 6), .u64 (x 7), .u64 (x 8), .u64 (x 9), .u64 (x 10), .u64 (x 11), .u64 (x 12), .u64 (x 13), .u64 (x 14), .u64 (x 15), .u64 (x 16), .u64 (x 17), .u64 (x 18), .u64 (x 19), .u64 (x 20), .u64 (x 21), .u64 (x 22), .u64 (x 23), .u64 (x 24)]
/-- The sum of a column. -/
def colF (x : Nat → BitVec 64) (i : Nat) : BitVec 64 := 0#64 ^^^ x i ^^^ x (i + 5) ^^^ x (i + 10) ^^^ x (i + 15) ^^^ x (i + 20)
def dF (x : Nat → BitVec 64) (i : Nat) : BitVec 64 := colF x ((i + 4) % 5) ^^^ rol (colF x ((i + 1) % 5)) 1
def thetaF (x : Nat → BitVec 64) (i : Nat) : BitVec 64 := x i ^^^ dF x (i % 5)
def rhoO : Nat → Nat
  | 0 => 0
  | 1 => 1
  | 2 => 62
  | 3 => 28
  | 4 => 27
  | 5 => 36
  | 6 => 44
  | 7 => 6
  | 8 => 55
  | 9 => 20
  | 10 => 3
  | 11 => 10
  | 12 => 43
  | 13 => 25
  | 14 => 39
  | 15 => 41
  | 16 => 45
  | 17 => 15
  | 18 => 21
  | 19 => 8
  | 20 => 18
  | 21 => 2
  | 22 => 61
  | 23 => 56
  | 24 => 14
  | _ => 0
def rhoF (x : Nat → BitVec 64) (i : Nat) : BitVec 64 := match i with
  | 0 => x 0
  | i => rol (x i) (rhoO i)
def piF (x : Nat → BitVec 64) (i : Nat) : BitVec 64 := x ((i % 5 + 3 * (i / 5)) % 5 + 5 * (i % 5))
def chiF (x : Nat → BitVec 64) (i : Nat) : BitVec 64 := x i ^^^ (~~~(x ((i + 1) % 5 + 5 * (i / 5))) &&& x ((i + 2) % 5 + 5 * (i / 5)))

/-- The body of a function of the program. -/
noncomputable def bodyOf (n : Nat) : Code := match Tryd.prog.funcs[n]? with
  | some f => match f.body with
    | some c => c
    | none => .skip
  | none => .skip

/-- The block to which a slot points, where a call has come to its return. -/
def outOf (r : Option (Ev.Ex × Ev.St)) (c : Ev.Cfg) (t : Nat) : Option (List SV) :=
  match r with
  | some (.ret, s) => match Ev.ev c s (.tmp t) with
    | some (.sc (.ptr g 0)) => s.mem[g]?
    | _ => none
  | _ => none
set_option maxRecDepth 100000 in
theorem pi_out (x : Nat → BitVec 64) : outOf (Ev.evC (cfgT 31) 31 1000 (bodyOf 40) ⟨Ev.args0 0 [.agg (L x)], [], true⟩) (cfgT 31) 2 = some (L (piF x)) := by kernel_rfl
set_option maxRecDepth 100000 in
theorem chi_out (x : Nat → BitVec 64) : outOf (Ev.evC (cfgT 46) 46 1000 (bodyOf 39) ⟨Ev.args0 0 [.agg (L x)], [], true⟩) (cfgT 46) 2 = some (L (chiF x)) := by kernel_rfl
set_option maxRecDepth 100000 in
theorem rho_out (x : Nat → BitVec 64) : outOf (Ev.evC (cfgT 39) 39 1000 (bodyOf 41) ⟨Ev.args0 0 [.agg (L x)], [], true⟩) (cfgT 39) 2 = some (L (rhoF x)) := by kernel_rfl
set_option maxRecDepth 100000 in
theorem theta_out (x : Nat → BitVec 64) : outOf (Ev.evC (cfgT 66) 66 1000 (bodyOf 42) ⟨Ev.args0 0 [.agg (L x)], [], true⟩) (cfgT 66) 2 = some (L (thetaF x)) := by kernel_rfl
end Go.Proofs.YtjcbphifdapkdaaDoor
