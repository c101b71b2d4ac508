/-
  The program's own Keccak permutation: rounds 8 to 15.
-/
import Derived.Test.YtjcbphifdapkdaaDoorImpK
namespace Go.Proofs.YtjcbphifdapkdaaDoor
open Ev (AV SV)
set_option maxRecDepth 100000 in
theorem kr_8_0 (D : List SV) (x : Nat → BitVec 64) : (Ev.evN cfgK 16 84 (dropC 0 kBody) (kSt D 8 (L (phys 0 x)))).map kOutN = some (kOut (kSt D 8 (L (phys 1 (rndR 0 (getf RC 8) x))))) := by kernel_rfl
set_option maxRecDepth 100000 in
theorem kr_8_1 (D : List SV) (x : Nat → BitVec 64) : (Ev.evN cfgK 16 84 (dropC 84 kBody) (kSt D 8 (L (phys 1 x)))).map kOutN = some (kOut (kSt D 8 (L (phys 2 (rndR 1 (getf RC 9) x))))) := by kernel_rfl
set_option maxRecDepth 100000 in
theorem kr_8_2 (D : List SV) (x : Nat → BitVec 64) : (Ev.evN cfgK 16 84 (dropC 168 kBody) (kSt D 8 (L (phys 2 x)))).map kOutN = some (kOut (kSt D 8 (L (phys 3 (rndR 2 (getf RC 10) x))))) := by kernel_rfl
set_option maxRecDepth 100000 in
theorem kr_8_3 (D : List SV) (x : Nat → BitVec 64) : (Ev.evC cfgK 16 1000 (dropC 252 kBody) (kSt D 8 (L (phys 3 x)))).map kOutE = some (.normal, kOut (kSt D 8 (L (phys 4 (rndR 3 (getf RC 11) x))))) := by kernel_rfl
set_option maxRecDepth 100000 in
theorem kr_12_0 (D : List SV) (x : Nat → BitVec 64) : (Ev.evN cfgK 16 84 (dropC 0 kBody) (kSt D 12 (L (phys 0 x)))).map kOutN = some (kOut (kSt D 12 (L (phys 1 (rndR 0 (getf RC 12) x))))) := by kernel_rfl
set_option maxRecDepth 100000 in
theorem kr_12_1 (D : List SV) (x : Nat → BitVec 64) : (Ev.evN cfgK 16 84 (dropC 84 kBody) (kSt D 12 (L (phys 1 x)))).map kOutN = some (kOut (kSt D 12 (L (phys 2 (rndR 1 (getf RC 13) x))))) := by kernel_rfl
set_option maxRecDepth 100000 in
theorem kr_12_2 (D : List SV) (x : Nat → BitVec 64) : (Ev.evN cfgK 16 84 (dropC 168 kBody) (kSt D 12 (L (phys 2 x)))).map kOutN = some (kOut (kSt D 12 (L (phys 3 (rndR 2 (getf RC 14) x))))) := by kernel_rfl
set_option maxRecDepth 100000 in
theorem kr_12_3 (D : List SV) (x : Nat → BitVec 64) : (Ev.evC cfgK 16 1000 (dropC 252 kBody) (kSt D 12 (L (phys 3 x)))).map kOutE = some (.normal, kOut (kSt D 12 (L (phys 4 (rndR 3 (getf RC 15) x))))) := by kernel_rfl
end Go.Proofs.YtjcbphifdapkdaaDoor
