/-
  The program's parsing of a key, whole.
-/
import Derived.Test.YtjcbphifdapkdaaDoorVt
namespace Go.Proofs.YtjcbphifdapkdaaDoor
namespace Vk
open Go.RowKit
open Vc (AV SV Blk)
noncomputable def u0 (L : Nat) (p : Nat → BitVec 8) (bad : Nat) : Vc.Cfg := Vc.addW (Vc.addW (Vc.addW (Vc.addW (h7 15 [] [(L, .b p)] 0) 21 E21) 22 E22) 25 (E25 L p bad)) 26 (E26 (kro [(L, .b p)]))
theorem u0_sound (L : Nat) (p : Nat → BitVec 8) (bad : Nat) : (u0 L p bad).Sound :=
  Vc.addW_sound (Vc.addW_sound (Vc.addW_sound (Vc.addW_sound (h7_sound 15 [] [(L, .b p)] 0) Tryd.call21 fun _ _ _ _ _ h _ β w hm hi _ => E21_ok h β w hm hi) Tryd.call22 fun _ _ _ _ _ h _ β w hm hi _ => E22_ok h β w hm hi)
    Tryd.call25 fun _ _ _ _ _ h hp β w hm hi hro => E25_ok (r0 := (24, .q 0 rcF)) (rest := []) h hp β w hm hi hro) Tryd.call26 fun _ _ _ _ _ h hp β w hm hi hro => E26_ok (rest := [(L, .b p)]) h hp β w hm hi hro
noncomputable def u5 (L : Nat) (p : Nat → BitVec 8) (bad : Nat) (c18 : List (Nat × Bool)) : Vc.Cfg := Vc.into (Vc.into (Vc.addW (Vc.into (Vc.into (u0 L p bad) c18 1000 18) [] 100 11) 27 E27) [] 100 19) [] 100 12
theorem u5_sound (L : Nat) (p : Nat → BitVec 8) (bad : Nat) (c18 : List (Nat × Bool)) : (u5 L p bad c18).Sound :=
  Vc.into_sound (Vc.into_sound (Vc.addW_sound (Vc.into_sound (Vc.into_sound (u0_sound L p bad) c18 1000 Tryd.call18) [] 100 Tryd.call11) Tryd.call27 fun _ _ _ _ _ h _ β w hm hi hro => E27_ok h β w hm hi hro) [] 100 Tryd.call19) [] 100 Tryd.call12
/-- The first 32 bytes of the last part; the numbers of a part. -/
def rhoL (p : Nat → BitVec 8) : List SV := (List.range 32).map fun j => .u8 (p (1152 + j))
def decL (p : Nat → BitVec 8) (o : Nat) : List SV := (List.range 256).map fun j => .u16 (decK p o 128 j)
/-- The key told again. -/
def backF (p : Nat → BitVec 8) : Nat → BitVec 8 := Vc.over 1152 32 (Vc.over 768 384 (Vc.over 384 384 (Vc.over 0 384 (fun _ => 0#8) (encF (getw (decL p 0)))) (encF (getw (decL p 384)))) (encF (getw (decL p 768)))) (Vc.getb (rhoL p))
def sumP : List Prop := [1184 ≤ 1184, 1184 ≤ 1184, 1184 ≤ 1184, 1184 ≤ 1184, 1184 ≤ 1184, 1184 ≤ 1184, 1184 ≤ 1184, 1184 ≤ 1184, 1184 ≤ 1184, 96 < 200, 135 < 200, 136 ≤ 200, 32 ≤ 64]
def okS (p : Nat → BitVec 8) (a b : BitVec 8) : Prop := (runS (strS (D0 (Vc.getb (rhoL p)) a b)) 896 0 (fun _ => 0#16) 0).isSome = true
set_option maxRecDepth 1000000 in
theorem u_len (L : Nat) (p : Nat → BitVec 8) (x : Nat) : (Vc.inlE (u5 L p 5000 [(12, true), (13, true)]) [] 100 6 [.sc (.rsl 1 0 L x)] []).map (fun r => (r.1, r.2.2)) = some (.tup [.nosl, .bool false], [((L : Int) != 1184) = true]) := by kernel_rfl
set_option maxRecDepth 1000000 in
theorem u_bad0 (p : Nat → BitVec 8) (x : Nat) : (Vc.inlE (u5 1184 p 0 []) [] 100 6 [.sc (.rsl 1 0 1184 (x + 1184))] []).map (fun r => (r.1, r.2.2)) = some (.tup [.nosl, .bool false], sumP ++ [0 + 384 ≤ 1184, 384 ≤ x + 1184 - 0, ¬ okD p 0]) := by kernel_rfl
set_option maxRecDepth 1000000 in
theorem u_bad1 (p : Nat → BitVec 8) (x : Nat) : (Vc.inlE (u5 1184 p 384 []) [] 100 6 [.sc (.rsl 1 0 1184 (x + 1184))] []).map (fun r => (r.1, r.2.2)) = some (.tup [.nosl, .bool false], sumP ++ [0 + 384 ≤ 1184, 384 ≤ x + 1184 - 0, okD p 0, 384 + 384 ≤ 1184, 384 ≤ x + 1184 - 384 - 0, ¬ okD p 384]) := by kernel_rfl
set_option maxRecDepth 1000000 in
theorem u_bad2 (p : Nat → BitVec 8) (x : Nat) : (Vc.inlE (u5 1184 p 768 []) [] 100 6 [.sc (.rsl 1 0 1184 (x + 1184))] []).map (fun r => (r.1, r.2.2)) = some (.tup [.nosl, .bool false], sumP ++ [0 + 384 ≤ 1184, 384 ≤ x + 1184 - 0, okD p 0, 384 + 384 ≤ 1184, 384 ≤ x + 1184 - 384 - 0, okD p 384, 768 + 384 ≤ 1184, 384 ≤ x + 1184 - 384 - 384 - 0, ¬ okD p 768]) := by kernel_rfl
end Vk
end Go.Proofs.YtjcbphifdapkdaaDoor
