/-
  The program's own Keccak permutation: rounds 16 to 23.
-/
import Derived.Test.YtjcbphifdapkdaaDoorImpK
namespace Go.Proofs.YtjcbphifdapkdaaDoor
open Ev (AV SV)
set_option maxRecDepth 100000 in
theorem kr_16_0 (D : List SV) (x : Nat → BitVec 64) : (Ev.evN cfgK 16 84 (dropC 0 kBody) (kSt D 16 (L (phys 0 x)))).map kOutN = some (kOut (kSt D 16 (L (phys 1 (rndR 0 (getf RC 16) x))))) := by kernel_rfl
set_option maxRecDepth 100000 in
theorem kr_16_1 (D : List SV) (x : Nat → BitVec 64) : (Ev.evN cfgK 16 84 (dropC 84 kBody) (kSt D 16 (L (phys 1 x)))).map kOutN = some (kOut (kSt D 16 (L (phys 2 (rndR 1 (getf RC 17) x))))) := by kernel_rfl
set_option maxRecDepth 100000 in
theorem kr_16_2 (D : List SV) (x : Nat → BitVec 64) : (Ev.evN cfgK 16 84 (dropC 168 kBody) (kSt D 16 (L (phys 2 x)))).map kOutN = some (kOut (kSt D 16 (L (phys 3 (rndR 2 (getf RC 18) x))))) := by kernel_rfl
set_option maxRecDepth 100000 in
theorem kr_16_3 (D : List SV) (x : Nat → BitVec 64) : (Ev.evC cfgK 16 1000 (dropC 252 kBody) (kSt D 16 (L (phys 3 x)))).map kOutE = some (.normal, kOut (kSt D 16 (L (phys 4 (rndR 3 (getf RC 19) x))))) := by kernel_rfl
set_option maxRecDepth 100000 in
theorem kr_20_0 (D : List SV) (x : Nat → BitVec 64) : (Ev.evN cfgK 16 84 (dropC 0 kBody) (kSt D 20 (L (phys 0 x)))).map kOutN = some (kOut (kSt D 20 (L (phys 1 (rndR 0 (getf RC 20) x))))) := by kernel_rfl
set_option maxRecDepth 100000 in
theorem kr_20_1 (D : List SV) (x : Nat → BitVec 64) : (Ev.evN cfgK 16 84 (dropC 84 kBody) (kSt D 20 (L (phys 1 x)))).map kOutN = some (kOut (kSt D 20 (L (phys 2 (rndR 1 (getf RC 21) x))))) := by kernel_rfl
set_option maxRecDepth 100000 in
theorem kr_20_2 (D : List SV) (x : Nat → BitVec 64) : (Ev.evN cfgK 16 84 (dropC 168 kBody) (kSt D 20 (L (phys 2 x)))).map kOutN = some (kOut (kSt D 20 (L (phys 3 (rndR 2 (getf RC 22) x))))) := by kernel_rfl
set_option maxRecDepth 100000 in
theorem kr_20_3 (D : List SV) (x : Nat → BitVec 64) : (Ev.evC cfgK 16 1000 (dropC 252 kBody) (kSt D 20 (L (phys 3 x)))).map kOutE = some (.normal, kOut (kSt D 20 (L (phys 4 (rndR 3 (getf RC 23) x))))) := by kernel_rfl
end Go.Proofs.YtjcbphifdapkdaaDoor
