/-
  The row itself, walked.
-/
import Derived.Test.YtjcbphifdapkdaaDoorSmall
import Derived.Laws.BytesArg
import Derived.Deep.RegionHeld3
namespace Go.Proofs.YtjcbphifdapkdaaDoor
open Go.RowKit
set_option maxHeartbeats 400000 in
theorem alike_any (v1 v2 : Value) (s : ByteArray) (w : World) (h1 : (convert 22 9 v1).run Tryd.prog w = .ok (.string s) w) (h2 : (convert 22 9 v2).run Tryd.prog w = .ok (.string s) w) :
    Calls Tryd.prog 8 #[v1, v2] w fun e w' => e = .returned (.bool true) ∧ w' = w := by
  go_enter Tryd.func8, Tryd.ntmps8
  go_wp2
  go_ret
  exact ⟨by simp, rfl⟩
set_option maxHeartbeats 1000000 in
theorem top_len (v : Option Addr) (L C : Nat) (w : World) (hL : 2147483647 < L) : Calls Tryd.prog 3 #[.slice v L C] w fun e w' => e = .returned (.bool true) ∧ Below w.heap.size w w' := by
  have hL2 : (2147483647 : Int) < L := by omega
  go_enter Tryd.func3, Tryd.ntmps3
  go_wp2
  go_ret
  exact ⟨rfl, Below.refl _ _⟩
theorem set_at {n : Nat} {w w1 : World} (hb : Below n w w1) (hn : n ≤ w.heap.size) : Calls Tryd.prog 4 #[] w1 fun e w' => e = .returned setV ∧ Below n w w' :=
  (set_any w1).mono fun _ _ ⟨h1, h2⟩ => ⟨h1, hb.trans (h2.mono (Nat.le_trans hn hb.size))⟩
set_option maxHeartbeats 1000000 in
theorem top_no (ad : Addr) (C : Nat) (w : World) (hC : 1184 ≤ C)
    (h5 : ∀ w', Below w.heap.size w w' → Calls Tryd.prog 5 #[setV, .slice (some (ad.add 1152)) 32 (C - 1152)] w' fun e w2 => e = .returned (.bool false) ∧ Below w.heap.size w w2) :
    Calls Tryd.prog 3 #[.slice (some ad) 1184 C] w fun e w' => e = .returned (.bool true) ∧ Below w.heap.size w w' := by
  have h0 := Below.refl w.heap.size w
  have hC2 : (1184 : Int) ≤ C := by omega
  go_enter Tryd.func3, Tryd.ntmps3
  go_wp2
  go_region_held3 (fun w' => Below w.heap.size w w') (first | assumption | exact Below.drew (by assumption)) (first | (go_at_call 4; refine (set_at (by assumption) (Nat.le_refl _)).mono ?_; rintro e w' ⟨rfl, hb⟩) | (go_at_call 5; refine (h5 _ (by assumption)).mono ?_; rintro e w' ⟨rfl, hb⟩))
  all_goals go_wp2
  go_ret
  exact ⟨rfl, by assumption⟩
set_option maxHeartbeats 2000000 in
theorem top_bad (ad : Addr) (C : Nat) (w : World) (hC : 1184 ≤ C)
    (h5 : ∀ w', Below w.heap.size w w' → Calls Tryd.prog 5 #[setV, .slice (some (ad.add 1152)) 32 (C - 1152)] w' fun e w2 => e = .returned (.bool true) ∧ Below w.heap.size w w2)
    (h6 : ∀ w', Below w.heap.size w w' → Calls Tryd.prog 6 #[.slice (some ad) 1184 C] w' fun e w2 => e = .returned (.tuple #[.slice none 0 0, .bool false]) ∧ Below w.heap.size w w2)
    (h7 : ∀ w', Below w.heap.size w w' → Calls Tryd.prog 7 #[setV, .slice (some ad) 1184 C] w' fun e w2 => e = .returned (.bool false) ∧ Below w.heap.size w w2) :
    Calls Tryd.prog 3 #[.slice (some ad) 1184 C] w fun e w' => e = .returned (.bool true) ∧ Below w.heap.size w w' := by
  have h0 := Below.refl w.heap.size w
  have hC2 : (1184 : Int) ≤ C := by omega
  go_enter Tryd.func3, Tryd.ntmps3
  go_wp2
  go_region_held3 (fun w' => Below w.heap.size w w') (first | assumption | exact Below.drew (by assumption)) (first | (go_at_call 4; refine (set_at (by assumption) (Nat.le_refl _)).mono ?_; rintro e w' ⟨rfl, hb⟩) | (go_at_call 5; refine (h5 _ (by assumption)).mono ?_; rintro e w' ⟨rfl, hb⟩))
  all_goals go_wp2_with (first | (go_at_call 4; refine (set_at (by assumption) (Nat.le_refl _)).mono ?_; rintro e w' ⟨rfl, hb⟩) | (go_at_call 6; refine (h6 _ (by assumption)).mono ?_; rintro e w' ⟨rfl, hb⟩) | (go_at_call 7; refine (h7 _ (by assumption)).mono ?_; rintro e w' ⟨rfl, hb⟩))
  go_ret
  exact ⟨rfl, by assumption⟩
set_option maxHeartbeats 2000000 in
theorem top_len0 (v : Option Addr) (L C : Nat) (w : World) (hL : L ≠ 1184) (hL2 : L ≤ 2147483647)
    (h6 : ∀ w', Below w.heap.size w w' → Calls Tryd.prog 6 #[.slice v L C] w' fun e w2 => e = .returned (.tuple #[.slice none 0 0, .bool false]) ∧ Below w.heap.size w w2)
    (h7 : ∀ w', Below w.heap.size w w' → Calls Tryd.prog 7 #[setV, .slice v L C] w' fun e w2 => e = .returned (.bool false) ∧ Below w.heap.size w w2) :
    Calls Tryd.prog 3 #[.slice v L C] w fun e w' => e = .returned (.bool true) ∧ Below w.heap.size w w' := by
  have h0 := Below.refl w.heap.size w
  have h0d := h0.drew
  have h1 : ((L : Int) == 1184) = false := by simp; omega
  have h2 : ¬ (2147483647 : Int) < L := by omega
  go_enter Tryd.func3, Tryd.ntmps3
  go_wp2
  go_region
  all_goals go_wp2_with (first | (go_at_call 4; refine (set_at (by assumption) (Nat.le_refl _)).mono ?_; rintro e w' ⟨rfl, hb⟩) | (go_at_call 6; refine (h6 _ (by assumption)).mono ?_; rintro e w' ⟨rfl, hb⟩) | (go_at_call 7; refine (h7 _ (by assumption)).mono ?_; rintro e w' ⟨rfl, hb⟩))
  go_ret
  exact ⟨rfl, by assumption⟩
set_option maxHeartbeats 2000000 in
theorem top_good (G : Nat → World → Prop) (ad : Addr) (C : Nat) (w : World) (hC : 1184 ≤ C) (hG : ∀ k w', G k w' → Below w.heap.size w w')
    (h5 : ∀ w', Below w.heap.size w w' → Calls Tryd.prog 5 #[setV, .slice (some (ad.add 1152)) 32 (C - 1152)] w' fun e w2 => e = .returned (.bool true) ∧ Below w.heap.size w w2)
    (h6 : ∀ w', Below w.heap.size w w' → Calls Tryd.prog 6 #[.slice (some ad) 1184 C] w' fun e w2 => ∃ k, e = .returned (.tuple #[.slice (some ⟨k, 0, none⟩) 1184 1184, .bool true]) ∧ G k w2)
    (h4 : ∀ k w', G k w' → Calls Tryd.prog 4 #[] w' fun e w2 => e = .returned setV ∧ G k w2)
    (h7 : ∀ k w', G k w' → Calls Tryd.prog 7 #[setV, .slice (some ad) 1184 C] w' fun e w2 => e = .returned (.bool true) ∧ G k w2)
    (h8 : ∀ k w', G k w' → Calls Tryd.prog 8 #[.slice (some ⟨k, 0, none⟩) 1184 1184, .slice (some ad) 1184 C] w' fun e w2 => e = .returned (.bool true) ∧ G k w2) :
    Calls Tryd.prog 3 #[.slice (some ad) 1184 C] w fun e w' => e = .returned (.bool true) ∧ Below w.heap.size w w' := by
  have h0 := Below.refl w.heap.size w
  have hC2 : (1184 : Int) ≤ C := by omega
  go_enter Tryd.func3, Tryd.ntmps3
  go_wp2
  go_region_held3 (fun w' => Below w.heap.size w w') (first | assumption | exact Below.drew (by assumption)) (first | (go_at_call 4; refine (set_at (by assumption) (Nat.le_refl _)).mono ?_; rintro e w' ⟨rfl, hb⟩) | (go_at_call 5; refine (h5 _ (by assumption)).mono ?_; rintro e w' ⟨rfl, hb⟩))
  all_goals go_wp2_with (first | (go_at_call 4; refine (h4 _ _ (by assumption)).mono ?_; rintro e w' ⟨rfl, hk⟩) | (go_at_call 6; refine (h6 _ (by assumption)).mono ?_; rintro e w' ⟨k, rfl, hk⟩) | (go_at_call 7; refine (h7 _ _ (by assumption)).mono ?_; rintro e w' ⟨rfl, hk⟩) | (go_at_call 8; refine (h8 _ _ (by assumption)).mono ?_; rintro e w' ⟨rfl, hk⟩))
  go_ret
  exact ⟨rfl, hG _ _ (by assumption)⟩
end Go.Proofs.YtjcbphifdapkdaaDoor
