/-
  The program's own Keccak permutation, whole: 200 bytes in, 200 bytes out.
-/
import Derived.Test.YtjcbphifdapkdaaDoorImpK
namespace Go.Proofs.YtjcbphifdapkdaaDoor
open Go.RowKit
open Ev (AV SV)

/-! ### The bytes -/
def B200 (d : Nat → BitVec 8) : List SV := [.u8 (d 0), .u8 (d 1), .u8 (d 2), .u8 (d 3), .u8 (d 4), .u8 (d 5), .u8 (d 6), .u8 (d 7), .u8 (d 8), .u8 (d 9), .u8 (d 10), .u8 (d 11), .u8 (d 12), .u8 (d 13), .u8 (d 14), .u8 (d 15), .u8 (d 16), .u8 (d 17), .u8 (d 18), .u8 (d 19), .u8 (d 20), .u8 (d 21), .u8 (d 22), .u8 (d 23), .u8 (d 24), .u8 (d 25), .u8 (d 26), .u8 (d 27), .u8 (d 28), .u8 (d 29), .u8 (d 30), .u8 (d 31), .u8 (d 32), .u8 (d 33), .u8 (d 34), .u8 (d 35), .u8 (d 36), .u8 (d 37), .u8 (d 38), .u8 (d 39), .u8 (d 40), .u8 (d 41), .u8 (d 42), .u8 (d 43), .u8 (d 44), .u8 (d 45), .u8 (d 46), .u8 (d 47), .u8 (d 48), .u8 (d 49), .u8 (d 50), .u8 (d 51), .u8 (d 52), .u8 (d 53), .u8 (d 54), .u8 (d 55), .u8 (d 56), .u8 (d 57), .u8 (d 58), .u8 (d 59), .u8 (d 60), .u8 (d 61), .u8 (d 62), .u8 (d 63), .u8 (d 64), .u8 (d 65), .u8 (d 66), .u8 (d 67), .u8 (d 68), .u8 (d 69), .u8 (d 70), .u8 (d 71), .u8 (d 72), .u8 (d 73), .u8 (d 74), .u8 (d 75), .u8 (d 76), .u8 (d 77), .u8 (d 78), .u8 (d 79), .u8 (d 80), .u8 (d 81), .u8 (d 82), .u8 (d 83), .u8 (d 84), .u8 (d 85), .u8 (d 86), .u8 (d 87), .u8 (d 88), .u8 (d 89), .u8 (d 90), .u8 (d 91), .u8 (d 92), .u8 (d 93), .u8 (d 94), .u8 (d 95), .u8 (d 96), .u8 (d 97), .u8 (d 98), .u8 (d 99), .u8 (d 100), .u8 (d 101), .u8 (d 102), .u8 (d 103), .u8 (d 104), .u8 (d 105), .u8 (d 106), .u8 (d 107), .u8 (d 108), .u8 (d 109), .u8 (d 110), .u8 (d 111), .u8 (d 112), .u8 (d 113), .u8 (d 114), .u8 (d 115), .u8 (d 116), .u8 (d 117), .u8 (d 118), .u8 (d 119), .u8 (d 120), .u8 (d 121), .u8 (d 122), .u8 (d 123), .u8 (d 124), .u8 (d 125), .u8 (d 126), .u8 (d 127), .u8 (d 128), .u8 (d 129), .u8 (d 130), .u8 (d 131), .u8 (d 132), .u8 (d 133), .u8 (d 134), .u8 (d 135), .u8 (d 136), .u8 (d 137), .u8 (d 138), .u8 (d 139), .u8 (d 140), .u8 (d 141), .u8 (d 142), .u8 (d 143), .u8 (d 144), .u8 (d 145), .u8 (d 146), .u8 (d 147), .u8 (d 148), .u8 (d 149), .u8 (d 150), .u8 (d 151), .u8 (d 152), .u8 (d 153), .u8 (d 154), .u8 (d 155), .u8 (d 156), .u8 (d 157), .u8 (d 158), .u8 (d 159), .u8 (d 160), .u8 (d 161), .u8 (d 162), .u8 (d 163), .u8 (d 164), .u8 (d 165), .u8 (d 166), .u8 (d 167), .u8 (d 168), .u8 (d 169), .u8 (d 170), .u8 (d 171), .u8 (d 172), .u8 (d 173), .u8 (d 174), .u8 (d 175), .u8 (d 176), .u8 (d 177), .u8 (d 178), .u8 (d 179), .u8 (d 180), .u8 (d 181), .u8 (d 182), .u8 (d 183), .u8 (d 184), .u8 (d 185), .u8 (d 186), .u8 (d 187), .u8 (d 188), .u8 (d 189), .u8 (d 190), .u8 (d 191), .u8 (d 192), .u8 (d 193), .u8 (d 194), .u8 (d 195), .u8 (d 196), .u8 (d 197), .u8 (d 198), .u8 (d 199)]
def lane (d : Nat → BitVec 8) (i : Nat) : BitVec 64 :=
  (d (8 * i)).setWidth 64 ||| (d (8 * i + 1)).setWidth 64 <<< 8 ||| (d (8 * i + 2)).setWidth 64 <<< 16 ||| (d (8 * i + 3)).setWidth 64 <<< 24 ||| (d (8 * i + 4)).setWidth 64 <<< 32 ||| (d (8 * i + 5)).setWidth 64 <<< 40 ||| (d (8 * i + 6)).setWidth 64 <<< 48 ||| (d (8 * i + 7)).setWidth 64 <<< 56
/-- A byte of the words. -/
def byteOf (x : Nat → BitVec 64) (j : Nat) : BitVec 8 := match j % 8 with
  | 0 => (x (j / 8)).setWidth 8
  | k => (x (j / 8) >>> (8 * k)).setWidth 8
/-- The permutation on bytes. -/
def kecD (d : Nat → BitVec 8) : Nat → BitVec 8 := byteOf (kecF (lane d))
def tl5 (n r : Int) (b : BitVec 8) (o s : Int) : List SV := [.i n, .i r, .u8 b, .i o, .i s]
def tl6 (n r : Int) (b : BitVec 8) (o s : Int) : List SV := [.i n, .i r, .u8 b, .i o, .i s, .nosl]

noncomputable def cfgH : Ev.Cfg := Ev.lift (Ev.lift ⟨Tryd.prog, 2267, [(0, RCN)], fun _ _ _ => none, fun _ _ _ => none, []⟩ [60] 100) [56] 100
noncomputable def cfgE : Ev.Cfg := Ev.lift (Ev.lift ⟨Tryd.prog, 18, [], fun _ _ _ => none, fun _ _ _ => none, []⟩ [61] 100) [58] 100
def hOut (p : Ev.St × Code) : List (Nat × AV) × List (List SV) × Bool := (Ev.only p.1.fr [1, 2], p.1.mem, p.1.still)
def hSt (D : List SV) (xs : List SV) : Ev.St := ⟨[(1, .sc (.ptr 1 0)), (2, .sc (.ptr 2 0))], [D, [.ptr 0 0], [.ptr 3 0], xs], false⟩
def mOut (p : Ev.Ex × Ev.St) : Ev.Ex × List (List SV) := (p.1, p.2.mem)

set_option maxRecDepth 1000000 in
theorem head_tl5 (d : Nat → BitVec 8) (n r : Int) (b : BitVec 8) (o s : Int) : (Ev.evM cfgH 20 1000 4 (bodyOf 55) ⟨Ev.args0 0 [.sc (.ptr 0 0)], [B200 d ++ tl5 n r b o s], true⟩).map hOut = some (hOut (hSt (B200 d ++ tl5 n r b o s) (L (lane d)), .skip)) := by kernel_rfl
set_option maxRecDepth 1000000 in
theorem tail_tl5 (d : Nat → BitVec 8) (n r : Int) (b : BitVec 8) (o s : Int) (x : Nat → BitVec 64) : (Ev.evC cfgE 18 1000 (bodyOf 57) ⟨Ev.args0 0 [.sc (.ptr 1 0), .sc (.ptr 2 0)], [B200 d ++ tl5 n r b o s, [.ptr 0 0], [.ptr 3 0], L x], true⟩).map mOut = some (.normal, [B200 (byteOf x) ++ tl5 n r b o s, [.ptr 0 0], [.ptr 3 0], L x]) := by kernel_rfl
set_option maxRecDepth 1000000 in
theorem head_tl6 (d : Nat → BitVec 8) (n r : Int) (b : BitVec 8) (o s : Int) : (Ev.evM cfgH 20 1000 4 (bodyOf 55) ⟨Ev.args0 0 [.sc (.ptr 0 0)], [B200 d ++ tl6 n r b o s], true⟩).map hOut = some (hOut (hSt (B200 d ++ tl6 n r b o s) (L (lane d)), .skip)) := by kernel_rfl
set_option maxRecDepth 1000000 in
theorem tail_tl6 (d : Nat → BitVec 8) (n r : Int) (b : BitVec 8) (o s : Int) (x : Nat → BitVec 64) : (Ev.evC cfgE 18 1000 (bodyOf 57) ⟨Ev.args0 0 [.sc (.ptr 1 0), .sc (.ptr 2 0)], [B200 d ++ tl6 n r b o s, [.ptr 0 0], [.ptr 3 0], L x], true⟩).map mOut = some (.normal, [B200 (byteOf x) ++ tl6 n r b o s, [.ptr 0 0], [.ptr 3 0], L x]) := by kernel_rfl
end Go.Proofs.YtjcbphifdapkdaaDoor
