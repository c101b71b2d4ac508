/-
  Small functions of both sides.
-/
import Derived.Test.YtjcbphifdapkdaaDoorRows
import Derived.WalkKit
import Derived.WalkSpells
import Derived.WalkLawsBesides
import Derived.Deep.QuietTactic
import Derived.BigQuiet
import Derived.Below
namespace Go.Proofs.YtjcbphifdapkdaaDoor
open Go.RowKit

def setV : Value := .agg #[.int .i64 3, .int .i64 10, .int .i64 4]
set_option maxHeartbeats 400000 in
theorem set_any (w : World) : Calls Tryd.prog 4 #[] w fun e w' => e = .returned setV ∧ Below w.heap.size w w' := by
  go_enter Tryd.func4, Tryd.ntmps4
  go_wp2
  exact bodyPost_ret (v := setV) (by simp [results, Tryd.results4, go_sem, setV]) rfl ⟨rfl, (Below.refl _ _).alloc (Nat.le_refl _) _⟩

set_option maxHeartbeats 400000 in
theorem size_any (w : World) : Calls Tryd.prog 13 #[setV] w fun e w' => e = .returned (.int .i64 1184) ∧ Below w.heap.size w w' := by
  unfold setV
  go_enter Tryd.func13, Tryd.ntmps13
  go_wp2
  go_ret
  exact ⟨rfl, (Below.refl _ _).alloc (Nat.le_refl _) _⟩

set_option maxHeartbeats 400000 in
theorem err_any (s : ByteArray) (w : World) : Calls Tryd.prog 21 #[.string s] w fun e w' => e = .returned (.iface 75 (.pointer (some ⟨w.heap.size, 0, none⟩))) ∧ Below w.heap.size w w' := by
  go_enter Tryd.func21, Tryd.ntmps21
  go_wp2
  go_ret
  exact ⟨rfl, (Below.refl _ _).alloc (Nat.le_refl _) _⟩

set_option maxHeartbeats 400000 in
set_option maxRecDepth 100000 in
theorem new256_any (w : World) : Calls Tryd.prog 22 #[] w fun e w' => e = .returned (.pointer (some ⟨w.heap.size, 0, none⟩)) ∧ ∃ cs : Array Value, w' = w.alloc (.cells cs 81) := by
  go_enter Tryd.func22, Tryd.ntmps22
  go_wp2
  go_ret
  exact ⟨rfl, _, rfl⟩
end Go.Proofs.YtjcbphifdapkdaaDoor
