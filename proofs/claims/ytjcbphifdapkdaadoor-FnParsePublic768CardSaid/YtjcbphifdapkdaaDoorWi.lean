/-
  Keys of another length.
-/
import Derived.Test.YtjcbphifdapkdaaDoorSmall
namespace Go.Proofs.YtjcbphifdapkdaaDoor
open Go.RowKit
theorem err_at {n : Nat} {s : ByteArray} {w w1 : World} (hb : Below n w w1) (hn : n ≤ w.heap.size) : Calls Tryd.prog 21 #[.string s] w1 fun e w' => ∃ k, e = .returned (.iface 75 (.pointer (some ⟨k, 0, none⟩))) ∧ Below n w w' :=
  (err_any s w1).mono fun _ _ ⟨h1, h2⟩ => ⟨_, h1, hb.trans (h2.mono (Nat.le_trans hn hb.size))⟩
theorem size_at {n : Nat} {w w1 : World} (hb : Below n w w1) (hn : n ≤ w.heap.size) : Calls Tryd.prog 13 #[setV] w1 fun e w' => e = .returned (.int .i64 1184) ∧ Below n w w' :=
  (size_any w1).mono fun _ _ ⟨h1, h2⟩ => ⟨h1, hb.trans (h2.mono (Nat.le_trans hn hb.size))⟩
set_option maxHeartbeats 1000000 in
theorem parse_len (x : Value) (v : Option Addr) (L C : Nat) (n : Nat) (w0 w : World) (hL : L ≠ 1184) (hb0 : Below n w0 w) (hn : n ≤ w0.heap.size) :
    Calls Tryd.prog 18 #[x, .slice v L C] w fun e w' => ∃ k, e = .returned (.tuple #[.pointer none, .iface 75 (.pointer (some ⟨k, 0, none⟩))]) ∧ Below n w0 w' := by
  have h1 : ((L : Int) == 1184) = false := by simp; omega
  have h2 : ((L : Int) != 1184) = true := by simp; omega
  go_enter Tryd.func18, Tryd.ntmps18
  go_wp2_with (go_at_call 21; refine (err_at (by assumption) hn).mono ?_; rintro e w' ⟨k, rfl, hb⟩)
  exact bodyPost_ret (v := .tuple #[.pointer none, .iface 75 (.pointer (some ⟨k, 0, none⟩))]) (by simp [results, Tryd.results18, go_sem]) rfl ⟨_, rfl, by assumption⟩
set_option maxHeartbeats 1000000 in
theorem new_len (v : Option Addr) (L C : Nat) (n : Nat) (w0 w : World) (hL : L ≠ 1184) (hb0 : Below n w0 w) (hn : n ≤ w0.heap.size) :
    Calls Tryd.prog 11 #[.slice v L C] w fun e w' => ∃ k, e = .returned (.tuple #[.pointer none, .iface 75 (.pointer (some ⟨k, 0, none⟩))]) ∧ Below n w0 w' := by
  go_enter Tryd.func11, Tryd.ntmps11
  go_wp2_with (go_at_call 18; refine (parse_len _ v L C n w0 _ hL (hb0.alloc (Nat.le_trans hn hb0.size) _) hn).mono ?_; rintro e w' ⟨k, rfl, hb⟩)
  exact bodyPost_ret (v := .tuple #[.pointer none, .iface 75 (.pointer (some ⟨k, 0, none⟩))]) (by simp [results, Tryd.results11, go_sem]) rfl ⟨_, rfl, by assumption⟩
set_option maxHeartbeats 1000000 in
theorem six_len (v : Option Addr) (L C : Nat) (n : Nat) (w0 w : World) (hL : L ≠ 1184) (hb0 : Below n w0 w) (hn : n ≤ w0.heap.size) :
    Calls Tryd.prog 6 #[.slice v L C] w fun e w' => e = .returned (.tuple #[.slice none 0 0, .bool false]) ∧ Below n w0 w' := by
  go_enter Tryd.func6, Tryd.ntmps6
  go_wp2_with (go_at_call 11; refine (new_len v L C n w0 _ hL (by assumption) hn).mono ?_; rintro e w' ⟨k, rfl, hb⟩)
  exact bodyPost_ret (v := .tuple #[.slice none 0 0, .bool false]) (by simp [results, Tryd.results6, go_sem]) rfl ⟨rfl, by assumption⟩
set_option maxHeartbeats 1000000 in
theorem seven_len (v : Option Addr) (L C : Nat) (n : Nat) (w0 w : World) (hL : L ≠ 1184) (hb0 : Below n w0 w) (hn : n ≤ w0.heap.size) :
    Calls Tryd.prog 7 #[setV, .slice v L C] w fun e w' => e = .returned (.bool false) ∧ Below n w0 w' := by
  have h1 : ((L : Int) == 1184) = false := by simp; omega
  have h2 : ((L : Int) != 1184) = true := by simp; omega
  unfold setV
  go_enter Tryd.func7, Tryd.ntmps7
  go_wp2_with (go_at_call 13; refine (size_at (w := w0) (n := n) (hb0.alloc (Nat.le_trans hn hb0.size) _) hn).mono ?_; rintro e w' ⟨rfl, hb⟩)
  go_ret
  exact ⟨rfl, by assumption⟩
end Go.Proofs.YtjcbphifdapkdaaDoor
