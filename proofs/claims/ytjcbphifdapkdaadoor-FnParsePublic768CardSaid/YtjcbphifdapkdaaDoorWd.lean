/-
  The statement's own question: do all nine seeds end.
-/
import Derived.Test.YtjcbphifdapkdaaDoorWc
import Derived.Test.YtjcbphifdapkdaaDoorVs
namespace Go.Proofs.YtjcbphifdapkdaaDoor
namespace Vk
open Go.RowKit
open Vc (AV SV Blk)
def seedK (p : Nat → BitVec 8) (k : Nat) : Nat → BitVec 8 := Vc.cat 32 (Vc.cat 0 (fun _ => 0#8) fun j => p (1152 + j)) (Vc.getb [.u8 (BitVec.ofInt 8 (((k % 3 : Nat)) : Int)), .u8 (BitVec.ofInt 8 ((k / 3 : Nat) : Int))])
def gP (p : Nat → BitVec 8) (k : Nat) (b : Bool) : List Prop := [0 = 0, 32 ≤ 1000000, 1152 + 32 ≤ 1184, 32 = 32, 34 ≤ 1000000, Seen (seedK p k) b, 34 ≤ 34]
def gN (p : Nat → BitVec 8) : Nat → Nat → List Prop → List Prop
  | 0, _, l => l
  | n + 1, k, l => gP p k true ++ gN p n (k + 1) l
set_option maxRecDepth 1000000 in
theorem r_bad0 (p : Nat → BitVec 8) (C : Nat) : (Vc.inlE (r5 15 (kro [(1184, .b p)]) 4) [] 300 5 [.agg (.cells [.i 3, .i 10, .i 4]), .sc (.rsl 1 1152 32 C)] []).map (fun r => (r.1, r.2.2)) = some (.sc (.bool false), gN p 0 0 (gP p 0 false)) := by kernel_rfl
set_option maxRecDepth 1000000 in
theorem r_bad1 (p : Nat → BitVec 8) (C : Nat) : (Vc.inlE (r5 15 (kro [(1184, .b p)]) 8) [] 300 5 [.agg (.cells [.i 3, .i 10, .i 4]), .sc (.rsl 1 1152 32 C)] []).map (fun r => (r.1, r.2.2)) = some (.sc (.bool false), gN p 1 0 (gP p 1 false)) := by kernel_rfl
set_option maxRecDepth 1000000 in
theorem r_bad2 (p : Nat → BitVec 8) (C : Nat) : (Vc.inlE (r5 15 (kro [(1184, .b p)]) 12) [] 300 5 [.agg (.cells [.i 3, .i 10, .i 4]), .sc (.rsl 1 1152 32 C)] []).map (fun r => (r.1, r.2.2)) = some (.sc (.bool false), gN p 2 0 (gP p 2 false)) := by kernel_rfl
set_option maxRecDepth 1000000 in
theorem r_bad3 (p : Nat → BitVec 8) (C : Nat) : (Vc.inlE (r5 15 (kro [(1184, .b p)]) 16) [] 300 5 [.agg (.cells [.i 3, .i 10, .i 4]), .sc (.rsl 1 1152 32 C)] []).map (fun r => (r.1, r.2.2)) = some (.sc (.bool false), gN p 3 0 (gP p 3 false)) := by kernel_rfl
set_option maxRecDepth 1000000 in
theorem r_bad4 (p : Nat → BitVec 8) (C : Nat) : (Vc.inlE (r5 15 (kro [(1184, .b p)]) 20) [] 300 5 [.agg (.cells [.i 3, .i 10, .i 4]), .sc (.rsl 1 1152 32 C)] []).map (fun r => (r.1, r.2.2)) = some (.sc (.bool false), gN p 4 0 (gP p 4 false)) := by kernel_rfl
set_option maxRecDepth 1000000 in
theorem r_bad5 (p : Nat → BitVec 8) (C : Nat) : (Vc.inlE (r5 15 (kro [(1184, .b p)]) 24) [] 300 5 [.agg (.cells [.i 3, .i 10, .i 4]), .sc (.rsl 1 1152 32 C)] []).map (fun r => (r.1, r.2.2)) = some (.sc (.bool false), gN p 5 0 (gP p 5 false)) := by kernel_rfl
set_option maxRecDepth 1000000 in
theorem r_bad6 (p : Nat → BitVec 8) (C : Nat) : (Vc.inlE (r5 15 (kro [(1184, .b p)]) 28) [] 300 5 [.agg (.cells [.i 3, .i 10, .i 4]), .sc (.rsl 1 1152 32 C)] []).map (fun r => (r.1, r.2.2)) = some (.sc (.bool false), gN p 6 0 (gP p 6 false)) := by kernel_rfl
set_option maxRecDepth 1000000 in
theorem r_bad7 (p : Nat → BitVec 8) (C : Nat) : (Vc.inlE (r5 15 (kro [(1184, .b p)]) 32) [] 300 5 [.agg (.cells [.i 3, .i 10, .i 4]), .sc (.rsl 1 1152 32 C)] []).map (fun r => (r.1, r.2.2)) = some (.sc (.bool false), gN p 7 0 (gP p 7 false)) := by kernel_rfl
set_option maxRecDepth 1000000 in
theorem r_bad8 (p : Nat → BitVec 8) (C : Nat) : (Vc.inlE (r5 15 (kro [(1184, .b p)]) 36) [] 300 5 [.agg (.cells [.i 3, .i 10, .i 4]), .sc (.rsl 1 1152 32 C)] []).map (fun r => (r.1, r.2.2)) = some (.sc (.bool false), gN p 8 0 (gP p 8 false)) := by kernel_rfl
set_option maxRecDepth 1000000 in
theorem r_good (p : Nat → BitVec 8) (C : Nat) : (Vc.inlE (r5 15 (kro [(1184, .b p)]) 5000) [] 300 5 [.agg (.cells [.i 3, .i 10, .i 4]), .sc (.rsl 1 1152 32 C)] []).map (fun r => (r.1, r.2.2)) = some (.sc (.bool true), gN p 9 0 []) := by kernel_rfl
theorem gP_all {p : Nat → BitVec 8} {k : Nat} {b : Bool} (h : sawN (seedK p k) 12 5 = b) {l : List Prop} (hl : Vc.All l) : Vc.All (gP p k b ++ l) := ⟨rfl, by omega, by omega, rfl, by omega, ⟨h⟩, by omega, hl⟩
theorem gN_all {p : Nat → BitVec 8} : ∀ (n k : Nat) {l : List Prop}, (∀ j, k ≤ j → j < k + n → sawN (seedK p j) 12 5 = true) → Vc.All l → Vc.All (gN p n k l)
  | 0, _, _, _, hl => hl
  | n + 1, k, _, h, hl => gP_all (h k (Nat.le_refl _) (by omega)) (gN_all n (k + 1) (fun j h1 h2 => h j (by omega) (by omega)) hl)
theorem after_nil {β β' : Vc.Env} {mem' : List Blk} {w w' : World} (h : Vc.After β [] w β' mem' w') : Below w.heap.size w w' :=
  ⟨h.keep.os, h.keep.tape, h.keep.output, h.keep.size, fun k hk => h.keep.block k hk (fun ⟨_, h1, _⟩ => absurd h1 (Nat.not_lt_zero _))⟩
theorem inlE_bool {c : Vc.Cfg} (hc : c.Sound) {fuel : Nat} {f : FuncId} {args : List AV} {b : Bool} {ps : List Prop} (h : (Vc.inlE c [] fuel f args []).map (fun r => (r.1, r.2.2)) = some (.sc (.bool b), ps)) (hp : Vc.All ps) {β : Vc.Env} {w : World} (hro : Vc.RoOk β c.ro 0 w) :
    Calls c.P f (args.map (Vc.gv β)).toArray w fun e w' => Below w.heap.size w w' ∧ e = .returned (.bool b) := by
  obtain ⟨⟨v, mem', ps'⟩, h1, h2⟩ := some_map h
  simp only [Prod.mk.injEq] at h2
  obtain ⟨rfl, rfl⟩ := h2
  refine (inlE_calls hc h1 hp (β := β) (w := w) (fun g b h => by simp at h) (fun g g' b b' h => by simp at h) hro).mono ?_
  rintro e w' ⟨β', hA, rfl⟩
  exact ⟨after_nil hA, rfl⟩
/-- All nine end. -/
def allN (p : Nat → BitVec 8) : Bool := (List.range 9).all fun k => sawN (seedK p k) 12 5
theorem first_no {f : Nat → Bool} : ∀ n, (∀ k, k < n → f k = true) ∨ ∃ k, k < n ∧ f k = false ∧ ∀ j, j < k → f j = true
  | 0 => .inl fun k h => absurd h (Nat.not_lt_zero _)
  | n + 1 => by
    rcases first_no (f := f) n with h | ⟨k, h1, h2, h3⟩
    · cases hf : f n with
      | true =>
        refine .inl fun k hk => ?_
        by_cases hkn : k = n
        · rw [hkn, hf]
        · exact h k (by omega)
      | false => exact .inr ⟨n, by omega, hf, h⟩
    · exact .inr ⟨k, by omega, h2, h3⟩
theorem ends_calls {p : Nat → BitVec 8} {β : Vc.Env} {w : World} (hro : Vc.RoOk β (kro [(1184, .b p)]) 0 w) (C : Nat) :
    Calls Tryd.prog 5 (([.agg (.cells [.i 3, .i 10, .i 4]), .sc (.rsl 1 1152 32 C)] : List AV).map (Vc.gv β)).toArray w fun e w' => Below w.heap.size w w' ∧ e = .returned (.bool (allN p)) := by
  rcases first_no (f := fun k => sawN (seedK p k) 12 5) 9 with h | ⟨k, h1, h2, h3⟩
  · have e1 : allN p = true := List.all_eq_true.2 fun k hk => h k (List.mem_range.1 hk)
    rw [e1]
    exact inlE_bool (r5_sound _ _ _) (r_good p C) (gN_all 9 0 (fun j _ hj => h j (by omega)) trivial) hro
  · have e1 : allN p = false := by
      cases hb : allN p with
      | false => rfl
      | true => rw [List.all_eq_true.1 hb k (List.mem_range.2 h1)] at h2; cases h2
    rw [e1]
    have hk : k = 0 ∨ k = 1 ∨ k = 2 ∨ k = 3 ∨ k = 4 ∨ k = 5 ∨ k = 6 ∨ k = 7 ∨ k = 8 := by omega
    rcases hk with rfl | rfl | rfl | rfl | rfl | rfl | rfl | rfl | rfl
    · exact inlE_bool (r5_sound _ _ _) (r_bad0 p C) (gN_all 0 0 (fun j _ hj => h3 j (by omega)) (by have := gP_all (l := []) h2 trivial; rwa [List.append_nil] at this)) hro
    · exact inlE_bool (r5_sound _ _ _) (r_bad1 p C) (gN_all 1 0 (fun j _ hj => h3 j (by omega)) (by have := gP_all (l := []) h2 trivial; rwa [List.append_nil] at this)) hro
    · exact inlE_bool (r5_sound _ _ _) (r_bad2 p C) (gN_all 2 0 (fun j _ hj => h3 j (by omega)) (by have := gP_all (l := []) h2 trivial; rwa [List.append_nil] at this)) hro
    · exact inlE_bool (r5_sound _ _ _) (r_bad3 p C) (gN_all 3 0 (fun j _ hj => h3 j (by omega)) (by have := gP_all (l := []) h2 trivial; rwa [List.append_nil] at this)) hro
    · exact inlE_bool (r5_sound _ _ _) (r_bad4 p C) (gN_all 4 0 (fun j _ hj => h3 j (by omega)) (by have := gP_all (l := []) h2 trivial; rwa [List.append_nil] at this)) hro
    · exact inlE_bool (r5_sound _ _ _) (r_bad5 p C) (gN_all 5 0 (fun j _ hj => h3 j (by omega)) (by have := gP_all (l := []) h2 trivial; rwa [List.append_nil] at this)) hro
    · exact inlE_bool (r5_sound _ _ _) (r_bad6 p C) (gN_all 6 0 (fun j _ hj => h3 j (by omega)) (by have := gP_all (l := []) h2 trivial; rwa [List.append_nil] at this)) hro
    · exact inlE_bool (r5_sound _ _ _) (r_bad7 p C) (gN_all 7 0 (fun j _ hj => h3 j (by omega)) (by have := gP_all (l := []) h2 trivial; rwa [List.append_nil] at this)) hro
    · exact inlE_bool (r5_sound _ _ _) (r_bad8 p C) (gN_all 8 0 (fun j _ hj => h3 j (by omega)) (by have := gP_all (l := []) h2 trivial; rwa [List.append_nil] at this)) hro
end Vk
end Go.Proofs.YtjcbphifdapkdaaDoor
