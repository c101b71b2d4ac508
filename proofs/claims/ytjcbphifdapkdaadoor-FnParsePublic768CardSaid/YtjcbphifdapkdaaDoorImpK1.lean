/-
  The program's own Keccak permutation: rounds 0 to 7.
-/
import Derived.Test.YtjcbphifdapkdaaDoorImpK
namespace Go.Proofs.YtjcbphifdapkdaaDoor
open Ev (AV SV)
set_option maxRecDepth 100000 in
theorem kr_0_0 (D : List SV) (x : Nat → BitVec 64) : (Ev.evN cfgK 16 84 (dropC 0 kBody) (kSt D 0 (L (phys 0 x)))).map kOutN = some (kOut (kSt D 0 (L (phys 1 (rndR 0 (getf RC 0) x))))) := by kernel_rfl
set_option maxRecDepth 100000 in
theorem kr_0_1 (D : List SV) (x : Nat → BitVec 64) : (Ev.evN cfgK 16 84 (dropC 84 kBody) (kSt D 0 (L (phys 1 x)))).map kOutN = some (kOut (kSt D 0 (L (phys 2 (rndR 1 (getf RC 1) x))))) := by kernel_rfl
set_option maxRecDepth 100000 in
theorem kr_0_2 (D : List SV) (x : Nat → BitVec 64) : (Ev.evN cfgK 16 84 (dropC 168 kBody) (kSt D 0 (L (phys 2 x)))).map kOutN = some (kOut (kSt D 0 (L (phys 3 (rndR 2 (getf RC 2) x))))) := by kernel_rfl
set_option maxRecDepth 100000 in
theorem kr_0_3 (D : List SV) (x : Nat → BitVec 64) : (Ev.evC cfgK 16 1000 (dropC 252 kBody) (kSt D 0 (L (phys 3 x)))).map kOutE = some (.normal, kOut (kSt D 0 (L (phys 4 (rndR 3 (getf RC 3) x))))) := by kernel_rfl
set_option maxRecDepth 100000 in
theorem kr_4_0 (D : List SV) (x : Nat → BitVec 64) : (Ev.evN cfgK 16 84 (dropC 0 kBody) (kSt D 4 (L (phys 0 x)))).map kOutN = some (kOut (kSt D 4 (L (phys 1 (rndR 0 (getf RC 4) x))))) := by kernel_rfl
set_option maxRecDepth 100000 in
theorem kr_4_1 (D : List SV) (x : Nat → BitVec 64) : (Ev.evN cfgK 16 84 (dropC 84 kBody) (kSt D 4 (L (phys 1 x)))).map kOutN = some (kOut (kSt D 4 (L (phys 2 (rndR 1 (getf RC 5) x))))) := by kernel_rfl
set_option maxRecDepth 100000 in
theorem kr_4_2 (D : List SV) (x : Nat → BitVec 64) : (Ev.evN cfgK 16 84 (dropC 168 kBody) (kSt D 4 (L (phys 2 x)))).map kOutN = some (kOut (kSt D 4 (L (phys 3 (rndR 2 (getf RC 6) x))))) := by kernel_rfl
set_option maxRecDepth 100000 in
theorem kr_4_3 (D : List SV) (x : Nat → BitVec 64) : (Ev.evC cfgK 16 1000 (dropC 252 kBody) (kSt D 4 (L (phys 3 x)))).map kOutE = some (.normal, kOut (kSt D 4 (L (phys 4 (rndR 3 (getf RC 7) x))))) := by kernel_rfl
end Go.Proofs.YtjcbphifdapkdaaDoor
