/-
  The program's parsing of a good key, whole.
-/
import Derived.Test.YtjcbphifdapkdaaDoorVu
namespace Go.Proofs.YtjcbphifdapkdaaDoor
namespace Vk
open Go.RowKit
open Vc (AV SV Blk)
set_option maxRecDepth 1000000 in
theorem u_good (p : Nat → BitVec 8) (x : Nat) : (Vc.inlE (u5 1184 p 5000 []) [] 100 6 [.sc (.rsl 1 0 1184 (x + 1184))] []).map (fun r => (r.1, r.2.1[4]?, r.2.2)) = some (.tup [.sl 4 0 1184 1184, .bool true], some (.r8 1184 (backF p)),
    sumP ++ [0 + 384 ≤ 1184, 384 ≤ x + 1184 - 0, okD p 0, 384 + 384 ≤ 1184, 384 ≤ x + 1184 - 384 - 0, okD p 384, 768 + 384 ≤ 1184, 384 ≤ x + 1184 - 384 - 384 - 0, okD p 768, 1152 + 32 ≤ 1184,
      okS p 0#8 0#8, okS p 1#8 0#8, okS p 2#8 0#8, okS p 0#8 1#8, okS p 1#8 1#8, okS p 2#8 1#8, okS p 0#8 2#8, okS p 1#8 2#8, okS p 2#8 2#8]) := by kernel_rfl
end Vk
end Go.Proofs.YtjcbphifdapkdaaDoor
