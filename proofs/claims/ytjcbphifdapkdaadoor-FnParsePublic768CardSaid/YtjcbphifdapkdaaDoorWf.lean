/-
  The statement's own question: is a key one.
-/
import Derived.Test.YtjcbphifdapkdaaDoorWd
import Derived.Test.YtjcbphifdapkdaaDoorWe
namespace Go.Proofs.YtjcbphifdapkdaaDoor
namespace Vk
open Go.RowKit
open Vc (AV SV Blk)
noncomputable def v7 (ch : List (Nat × Bool)) (ro : List (Nat × Vc.Row)) : Vc.Cfg := Vc.addW (Vc.into (k0 35 ch ro 0) [] 100 13) 14 (E14 ro)
theorem v7_sound (ch : List (Nat × Bool)) (ro : List (Nat × Vc.Row)) : (v7 ch ro).Sound :=
  Vc.addW_sound (Vc.into_sound (k0_sound 35 ch ro 0) [] 100 Tryd.call13) Tryd.call14 fun _ _ _ _ _ h hp β w hm hi hro => E14_ok h hp β w hm hi hro
noncomputable def vLoop : Code := inP (inP (dropP 1 (headP (dropP 2 (codeOf 7)))))
noncomputable def vBody : Code := inP (headP (dropP 1 vLoop))
noncomputable def vIn : Code := inP (inP (dropP 2 vBody))
theorem v_rest : dropP 2 (codeOf 7) = .seq (.seq (headP (headP (dropP 2 (codeOf 7)))) (.block 0 (.loop vLoop))) (dropP 3 (codeOf 7)) := by kernel_rfl
theorem v_body : dropP 1 vBody = .seq (headP (dropP 1 vBody)) (.block 2 (.loop vIn)) := by kernel_rfl
theorem v_shape : vLoop = .seq (headP vLoop) (.seq (.block 1 vBody) (dropP 2 vLoop)) := by kernel_rfl
theorem v_into {P : Program} {R : Exit → Act → World → Prop} {a : Act} {w : World} (h : (Code.seq (headP vLoop) (.seq (.block 1 vBody) (dropP 2 vLoop))).wp P R a w) : vLoop.wp P R a w := by
  rw [v_shape]
  exact h
theorem v_binto {P : Program} {R : Exit → Act → World → Prop} {a : Act} {w : World} (h : (Code.seq (headP (dropP 1 vBody)) (.block 2 (.loop vIn))).wp P R a w) : (dropP 1 vBody).wp P R a w := by
  rw [v_body]
  exact h
def sC : Blk := .cells [.i 3, .i 10, .i 4]
def v0 (x : Nat) : List (Nat × AV) := [(1, .sc (.rsl 1 0 1184 (x + 1184))), (2, .sc (.ptr 0 0))]
def v1 (x : Nat) (i : Int) : List (Nat × AV) := [(1, .sc (.rsl 1 0 1184 (x + 1184))), (2, .sc (.ptr 0 0)), (5, .sc (.i i))]
def v2 (x : Nat) (i k : Int) : List (Nat × AV) := [(1, .sc (.rsl 1 0 1184 (x + 1184))), (2, .sc (.ptr 0 0)), (5, .sc (.i i)), (6, .sc (.ptr 1 0)), (7, .sc (.x k))]
/-- The digits of a part. -/
def partP (p : Nat → BitVec 8) (o : Nat) : Nat → Int := dK (fun j => p (o + j)) 0 256 0
section
variable (x : Nat) (p : Nat → BitVec 8) (i k : Int) (f : Nat → Int)
set_option maxRecDepth 100000 in
theorem v_pre : (Vc.evM (v7 [] (kro [(1184, .b p)])) 35 100 2 (codeOf 7) ⟨Vc.args0 0 [.agg sC, .sc (.rsl 1 0 1184 (x + 1184))], []⟩).map (outMk [1, 2] 1) = some (v0 x, [sC], []) := by kernel_rfl
set_option maxRecDepth 100000 in
theorem v_len (L C : Nat) : (Vc.evC (v7 [(9, true), (12, true)] (kro [(L, .b p)])) 35 100 (codeOf 7) ⟨Vc.args0 0 [.agg sC, .sc (.rsl 1 0 L C)], []⟩).map (outk [4] 0) = some (.ret, [(4, .sc (.bool false))], [], [((L : Int) != 1184) = true]) := by kernel_rfl
set_option maxRecDepth 100000 in
theorem v_init : (Vc.evC (v7 [] (kro [(1184, .b p)])) 35 100 (headP (headP (dropP 2 (codeOf 7)))) ⟨v0 x, [sC]⟩).map (outk [1, 2, 5] 1) = some (.normal, v1 x 0, [sC], []) := by kernel_rfl
set_option maxRecDepth 100000 in
theorem v_stop : (Vc.evC (v7 [] (kro [(1184, .b p)])) 35 100 vLoop ⟨v1 x 3, [sC]⟩).map (outk [1, 2, 5] 1) = some (.out 0, v1 x 3, [sC], []) := by kernel_rfl
set_option maxRecDepth 100000 in
theorem v_k : (Vc.evC (v7 [] (kro [(1184, .b p)])) 35 100 (headP (dropP 1 vBody)) ⟨v1 x i ++ [(6, .sc (.ptr 1 0))], [sC, .ri 256 f]⟩).map (outk [1, 2, 5, 6, 7] 2) = some (.normal, v1 x i ++ [(6, .sc (.ptr 1 0)), (7, .sc (.i 0))], [sC, .ri 256 f], []) := by kernel_rfl
set_option maxRecDepth 100000 in
theorem v_ok : (Vc.evC (v7 [(28, true), (34, false)] (kro [(1184, .b p)])) 35 100 vIn ⟨v2 x i k, [sC, .ri 256 f]⟩).map (outk [1, 2, 5, 6, 7] 2) = some (.normal, v2 x i (k + 1), [sC, .ri 256 f], [decide (k < 256) = true, 0 ≤ k, k < 256, 0 + k.toNat * 1 < 256, decide (f (0 + k.toNat * 1) ≥ 3329) = false, Vc.lo64 ≤ k + 1, k + 1 ≤ Vc.hi64]) := by kernel_rfl
set_option maxRecDepth 100000 in
theorem v_no : (Vc.evC (v7 [(28, true), (34, true)] (kro [(1184, .b p)])) 35 100 vIn ⟨v2 x i k, [sC, .ri 256 f]⟩).map (outk [4] 0) = some (.ret, [(4, .sc (.bool false))], [], [decide (k < 256) = true, 0 ≤ k, k < 256, 0 + k.toNat * 1 < 256, decide (f (0 + k.toNat * 1) ≥ 3329) = true]) := by kernel_rfl
set_option maxRecDepth 100000 in
theorem v_kstop : (Vc.evC (v7 [(28, false)] (kro [(1184, .b p)])) 35 100 vIn ⟨v2 x i k, [sC, .ri 256 f]⟩).map (outk [1, 2, 5] 1) = some (.out 2, v1 x i, [sC], [decide (k < 256) = false]) := by kernel_rfl
set_option maxRecDepth 100000 in
theorem v_end : (Vc.evC (v7 [] (kro [(1184, .b p)])) 35 100 (dropP 3 (codeOf 7)) ⟨v1 x i, [sC]⟩).map (outk [4] 0) = some (.ret, [(4, .sc (.bool true))], [], []) := by kernel_rfl
set_option maxRecDepth 100000 in
theorem v_go0 : (Vc.evC (v7 [] (kro [(1184, .b p)])) 35 100 (headP vLoop) ⟨v1 x 0, [sC]⟩).map (outk [1, 2, 5] 1) = some (.normal, v1 x 0, [sC], []) := by kernel_rfl
set_option maxRecDepth 100000 in
theorem v_dig0 : (Vc.evM (v7 [] (kro [(1184, .b p)])) 35 100 1 vBody ⟨v1 x 0, [sC]⟩).map (outMk [1, 2, 5, 6] 2) = some (v1 x 0 ++ [(6, .sc (.ptr 1 0))], [sC, .ri 256 (partP p 0)], [0 + 384 ≤ 1184]) := by kernel_rfl
set_option maxRecDepth 100000 in
theorem v_nx0 : (Vc.evC (v7 [] (kro [(1184, .b p)])) 35 100 (dropP 2 vLoop) ⟨v1 x 0, [sC]⟩).map (outk [1, 2, 5] 1) = some (.normal, v1 x 1, [sC], []) := by kernel_rfl
set_option maxRecDepth 100000 in
theorem v_go1 : (Vc.evC (v7 [] (kro [(1184, .b p)])) 35 100 (headP vLoop) ⟨v1 x 1, [sC]⟩).map (outk [1, 2, 5] 1) = some (.normal, v1 x 1, [sC], []) := by kernel_rfl
set_option maxRecDepth 100000 in
theorem v_dig1 : (Vc.evM (v7 [] (kro [(1184, .b p)])) 35 100 1 vBody ⟨v1 x 1, [sC]⟩).map (outMk [1, 2, 5, 6] 2) = some (v1 x 1 ++ [(6, .sc (.ptr 1 0))], [sC, .ri 256 (partP p 384)], [384 + 384 ≤ 1184]) := by kernel_rfl
set_option maxRecDepth 100000 in
theorem v_nx1 : (Vc.evC (v7 [] (kro [(1184, .b p)])) 35 100 (dropP 2 vLoop) ⟨v1 x 1, [sC]⟩).map (outk [1, 2, 5] 1) = some (.normal, v1 x 2, [sC], []) := by kernel_rfl
set_option maxRecDepth 100000 in
theorem v_go2 : (Vc.evC (v7 [] (kro [(1184, .b p)])) 35 100 (headP vLoop) ⟨v1 x 2, [sC]⟩).map (outk [1, 2, 5] 1) = some (.normal, v1 x 2, [sC], []) := by kernel_rfl
set_option maxRecDepth 100000 in
theorem v_dig2 : (Vc.evM (v7 [] (kro [(1184, .b p)])) 35 100 1 vBody ⟨v1 x 2, [sC]⟩).map (outMk [1, 2, 5, 6] 2) = some (v1 x 2 ++ [(6, .sc (.ptr 1 0))], [sC, .ri 256 (partP p 768)], [768 + 384 ≤ 1184]) := by kernel_rfl
set_option maxRecDepth 100000 in
theorem v_nx2 : (Vc.evC (v7 [] (kro [(1184, .b p)])) 35 100 (dropP 2 vLoop) ⟨v1 x 2, [sC]⟩).map (outk [1, 2, 5] 1) = some (.normal, v1 x 3, [sC], []) := by kernel_rfl
end
section
variable {x : Nat} {p : Nat → BitVec 8} {β0 : Vc.Env} {w0 : World} {Q : Exit → Act → World → Prop}
theorem v_in {f : Nat → Int} {i : Int} : ∀ (r k : Nat), k + r = 256 → ∀ (β : Vc.Env) (a : Act) (w : World), Vc.Rel (v7 [] (kro [(1184, .b p)])) [] 0 β0 w0 β ⟨v2 x i ((k : Nat) : Int), [sC, .ri 256 f]⟩ a w →
    ((∀ j, k ≤ j → j < 256 → f j < 3329) → ∀ β' a' w', Vc.Rel (v7 [] (kro [(1184, .b p)])) [] 0 β0 w0 β' ⟨v1 x i, [sC]⟩ a' w' → Q (.exit 2) a' w') →
    ((¬ ∀ j, k ≤ j → j < 256 → f j < 3329) → ∀ β' a' w', Vc.Rel (v7 [] (kro [(1184, .b p)])) [] 0 β0 w0 β' ⟨[(4, .sc (.bool false))], []⟩ a' w' → Q .ret a' w') → Code.rounds Tryd.prog vIn Q (r + 1) a w
  | 0, k, hk, β, a, w, hr, hY, hN => by
    obtain rfl : k = 256 := by omega
    rw [rounds_succ]
    exact go (v7_sound [(28, false)] _) (v_kstop x p i ((256 : Nat) : Int) f) (by simp [Vc.All]) hr rfl rfl rfl rfl (Nat.zero_le _) fun β' a' w' hr' => hY (fun j h1 h2 => by omega) β' a' w' hr'
  | r + 1, k, hk, β, a, w, hr, hY, hN => by
    rw [rounds_succ]
    have e1 : 0 + ((k : Nat) : Int).toNat * 1 = k := by omega
    by_cases hf : f k < 3329
    · refine go (v7_sound [(28, true), (34, false)] _) (v_ok x p i ((k : Nat) : Int) f) ?_ hr rfl rfl rfl rfl (Nat.zero_le _) fun β' a' w' hr' => ?_
      · rw [e1]
        simp [Vc.All, Vc.lo64, Vc.hi64]
        omega
      · rw [show ((k : Nat) : Int) + 1 = ((k + 1 : Nat) : Int) by omega] at hr'
        refine v_in r (k + 1) (by omega) β' a' w' hr' (fun h => hY fun j h1 h2 => ?_) fun h => hN fun h2 => h fun j h3 h4 => h2 j (by omega) h4
        by_cases hj : j = k
        · rw [hj]; exact hf
        · exact h j (by omega) h2
    · refine go (v7_sound [(28, true), (34, true)] _) (v_no x p i ((k : Nat) : Int) f) ?_ hr rfl rfl rfl rfl (Nat.zero_le _) fun β' a' w' hr' => hN (fun h => hf (h k (Nat.le_refl _) (by omega))) β' a' w' hr'
      rw [e1]
      simp [Vc.All]
      omega
theorem v_round0 {r : Nat} {β : Vc.Env} {a : Act} {w : World} (hr : Vc.Rel (v7 [] (kro [(1184, .b p)])) [] 0 β0 w0 β ⟨v1 x 0, [sC]⟩ a w)
    (hY : (∀ j, 0 ≤ j → j < 256 → partP p 0 j < 3329) → ∀ β' a' w', Vc.Rel (v7 [] (kro [(1184, .b p)])) [] 0 β0 w0 β' ⟨v1 x 1, [sC]⟩ a' w' → Code.rounds Tryd.prog vLoop Q r a' w')
    (hN : (¬ ∀ j, 0 ≤ j → j < 256 → partP p 0 j < 3329) → ∀ β' a' w', Vc.Rel (v7 [] (kro [(1184, .b p)])) [] 0 β0 w0 β' ⟨[(4, .sc (.bool false))], []⟩ a' w' → Q .ret a' w') : Code.rounds Tryd.prog vLoop Q (r + 1) a w := by
  rw [rounds_succ]
  refine v_into (wp_seq (go (v7_sound [] _) (v_go0 x p) trivial hr rfl rfl rfl rfl (Nat.zero_le _) fun β1 a1 w1 hr1 => ?_))
  refine wp_seq (wp_block (goM (v7_sound [] _) (v_dig0 x p) ⟨by omega, trivial⟩ hr1 rfl rfl rfl rfl (Nat.zero_le _) fun β2 a2 w2 hr2 => ?_))
  refine v_binto (wp_seq (go (v7_sound [] _) (v_k x p 0 (partP p 0)) trivial hr2 rfl rfl rfl rfl (Nat.zero_le _) fun β3 a3 w3 hr3 => ?_))
  have hr3' := loose (pre := [_, _, _, _]) (post := []) hr3
  refine wp_block (wp_loop_rounds 257 (v_in 256 0 rfl β3 a3 w3 hr3' (fun hy β4 a4 w4 hr4 => ?_) fun hn β4 a4 w4 hr4 => ?_))
  · simp only [Exit.inBlock, if_true, Exit.then]
    exact go (v7_sound [] _) (v_nx0 x p) trivial hr4 rfl rfl rfl rfl (Nat.zero_le _) fun β5 a5 w5 hr5 => hY hy β5 a5 w5 hr5
  · exact hN hn β4 a4 w4 hr4
theorem v_round1 {r : Nat} {β : Vc.Env} {a : Act} {w : World} (hr : Vc.Rel (v7 [] (kro [(1184, .b p)])) [] 0 β0 w0 β ⟨v1 x 1, [sC]⟩ a w)
    (hY : (∀ j, 0 ≤ j → j < 256 → partP p 384 j < 3329) → ∀ β' a' w', Vc.Rel (v7 [] (kro [(1184, .b p)])) [] 0 β0 w0 β' ⟨v1 x 2, [sC]⟩ a' w' → Code.rounds Tryd.prog vLoop Q r a' w')
    (hN : (¬ ∀ j, 0 ≤ j → j < 256 → partP p 384 j < 3329) → ∀ β' a' w', Vc.Rel (v7 [] (kro [(1184, .b p)])) [] 0 β0 w0 β' ⟨[(4, .sc (.bool false))], []⟩ a' w' → Q .ret a' w') : Code.rounds Tryd.prog vLoop Q (r + 1) a w := by
  rw [rounds_succ]
  refine v_into (wp_seq (go (v7_sound [] _) (v_go1 x p) trivial hr rfl rfl rfl rfl (Nat.zero_le _) fun β1 a1 w1 hr1 => ?_))
  refine wp_seq (wp_block (goM (v7_sound [] _) (v_dig1 x p) ⟨by omega, trivial⟩ hr1 rfl rfl rfl rfl (Nat.zero_le _) fun β2 a2 w2 hr2 => ?_))
  refine v_binto (wp_seq (go (v7_sound [] _) (v_k x p 1 (partP p 384)) trivial hr2 rfl rfl rfl rfl (Nat.zero_le _) fun β3 a3 w3 hr3 => ?_))
  have hr3' := loose (pre := [_, _, _, _]) (post := []) hr3
  refine wp_block (wp_loop_rounds 257 (v_in 256 0 rfl β3 a3 w3 hr3' (fun hy β4 a4 w4 hr4 => ?_) fun hn β4 a4 w4 hr4 => ?_))
  · simp only [Exit.inBlock, if_true, Exit.then]
    exact go (v7_sound [] _) (v_nx1 x p) trivial hr4 rfl rfl rfl rfl (Nat.zero_le _) fun β5 a5 w5 hr5 => hY hy β5 a5 w5 hr5
  · exact hN hn β4 a4 w4 hr4
theorem v_round2 {r : Nat} {β : Vc.Env} {a : Act} {w : World} (hr : Vc.Rel (v7 [] (kro [(1184, .b p)])) [] 0 β0 w0 β ⟨v1 x 2, [sC]⟩ a w)
    (hY : (∀ j, 0 ≤ j → j < 256 → partP p 768 j < 3329) → ∀ β' a' w', Vc.Rel (v7 [] (kro [(1184, .b p)])) [] 0 β0 w0 β' ⟨v1 x 3, [sC]⟩ a' w' → Code.rounds Tryd.prog vLoop Q r a' w')
    (hN : (¬ ∀ j, 0 ≤ j → j < 256 → partP p 768 j < 3329) → ∀ β' a' w', Vc.Rel (v7 [] (kro [(1184, .b p)])) [] 0 β0 w0 β' ⟨[(4, .sc (.bool false))], []⟩ a' w' → Q .ret a' w') : Code.rounds Tryd.prog vLoop Q (r + 1) a w := by
  rw [rounds_succ]
  refine v_into (wp_seq (go (v7_sound [] _) (v_go2 x p) trivial hr rfl rfl rfl rfl (Nat.zero_le _) fun β1 a1 w1 hr1 => ?_))
  refine wp_seq (wp_block (goM (v7_sound [] _) (v_dig2 x p) ⟨by omega, trivial⟩ hr1 rfl rfl rfl rfl (Nat.zero_le _) fun β2 a2 w2 hr2 => ?_))
  refine v_binto (wp_seq (go (v7_sound [] _) (v_k x p 2 (partP p 768)) trivial hr2 rfl rfl rfl rfl (Nat.zero_le _) fun β3 a3 w3 hr3 => ?_))
  have hr3' := loose (pre := [_, _, _, _]) (post := []) hr3
  refine wp_block (wp_loop_rounds 257 (v_in 256 0 rfl β3 a3 w3 hr3' (fun hy β4 a4 w4 hr4 => ?_) fun hn β4 a4 w4 hr4 => ?_))
  · simp only [Exit.inBlock, if_true, Exit.then]
    exact go (v7_sound [] _) (v_nx2 x p) trivial hr4 rfl rfl rfl rfl (Nat.zero_le _) fun β5 a5 w5 hr5 => hY hy β5 a5 w5 hr5
  · exact hN hn β4 a4 w4 hr4
end
def okV (p : Nat → BitVec 8) (o : Nat) : Bool := (List.range 256).all fun k => decide (partP p o k < 3329)
theorem okV_yes {p : Nat → BitVec 8} {o : Nat} (h : ∀ j, 0 ≤ j → j < 256 → partP p o j < 3329) : okV p o = true := List.all_eq_true.2 fun k hk => decide_eq_true (h k (Nat.zero_le _) (List.mem_range.1 hk))
theorem okV_no {p : Nat → BitVec 8} {o : Nat} (h : ¬ ∀ j, 0 ≤ j → j < 256 → partP p o j < 3329) : okV p o = false := by
  cases hb : okV p o with
  | false => rfl
  | true => exact absurd (fun j _ hj => of_decide_eq_true (List.all_eq_true.1 hb j (List.mem_range.2 hj))) h
set_option maxRecDepth 100000 in
theorem v_res (ch : List (Nat × Bool)) (ro : List (Nat × Vc.Row)) (r : Bool) : Vc.result (v7 ch ro) Tryd.f7 ⟨[(4, .sc (.bool r))], []⟩ = some (.sc (.bool r)) := by kernel_rfl
theorem valid_len {p : Nat → BitVec 8} {L C : Nat} {β : Vc.Env} {w : World} (hL : L ≠ 1184) (hro : Vc.RoOk β (kro [(L, .b p)]) 0 w) :
    Calls Tryd.prog 7 (([.agg sC, .sc (.rsl 1 0 L C)] : List AV).map (Vc.gv β)).toArray w fun e w' => Below w.heap.size w w' ∧ e = .returned (.bool false) := by
  have hs := Vc.Rel.start (c := v7 [] (kro [(L, .b p)])) (vs := [.agg sC, .sc (.rsl 1 0 L C)]) (mem := []) (β := β) (w := w) (by show 2 ≤ 35; omega) (fun g b h => by simp at h) (fun g g' b b' h => by simp at h) hro (Nat.le_refl 0)
  refine calls_of_wp (c := codeOf 7) Tryd.func7 (by kernel_rfl) ?_
  refine go (v7_sound [(9, true), (12, true)] _) (v_len p L C) ⟨by simp; omega, trivial⟩ hs rfl rfl rfl rfl (Nat.zero_le _) fun β1 a1 w1 hr1 => ?_
  exact ⟨hr1.defers, _, Vc.result_ok hr1 (v_res _ _ _), below_keep0 hr1.keep, rfl⟩
theorem valid_calls {p : Nat → BitVec 8} {x : Nat} {β : Vc.Env} {w : World} (hro : Vc.RoOk β (kro [(1184, .b p)]) 0 w) :
    Calls Tryd.prog 7 (([.agg sC, .sc (.rsl 1 0 1184 (x + 1184))] : List AV).map (Vc.gv β)).toArray w fun e w' => Below w.heap.size w w' ∧ e = .returned (.bool (okV p 0 && okV p 384 && okV p 768)) := by
  have hs := Vc.Rel.start (c := v7 [] (kro [(1184, .b p)])) (vs := [.agg sC, .sc (.rsl 1 0 1184 (x + 1184))]) (mem := []) (β := β) (w := w) (by show 2 ≤ 35; omega) (fun g b h => by simp at h) (fun g g' b b' h => by simp at h) hro (Nat.le_refl 0)
  refine calls_of_wp (c := codeOf 7) Tryd.func7 (by kernel_rfl) ?_
  refine goM (v7_sound [] _) (v_pre x p) trivial hs rfl rfl rfl rfl (Nat.zero_le _) fun β1 a1 w1 hr1 => ?_
  rw [v_rest]
  refine wp_seq (wp_seq (go (v7_sound [] _) (v_init x p) trivial hr1 rfl rfl rfl rfl (Nat.zero_le _) fun β2 a2 w2 hr2 => ?_))
  refine wp_block (wp_loop_rounds 4 (v_round0 hr2 (fun h0 β3 a3 w3 hr3 => v_round1 hr3 (fun h1 β4 a4 w4 hr4 => v_round2 hr4 (fun h2 β5 a5 w5 hr5 => ?_) fun h β5 a5 w5 hr5 => ?_) fun h β4 a4 w4 hr4 => ?_) fun h β3 a3 w3 hr3 => ?_))
  · rw [rounds_succ]
    refine go (v7_sound [] _) (v_stop x p) trivial hr5 rfl rfl rfl rfl (Nat.zero_le _) fun β6 a6 w6 hr6 => ?_
    simp only [Ev.Ex.to]
    refine go (v7_sound [] _) (v_end x p 3) trivial hr6 rfl rfl rfl rfl (Nat.zero_le _) fun β7 a7 w7 hr7 => ?_
    refine ⟨hr7.defers, _, Vc.result_ok hr7 (v_res _ _ _), below_keep0 hr7.keep, ?_⟩
    rw [okV_yes h0, okV_yes h1, okV_yes h2]
    rfl
  · refine ⟨hr5.defers, _, Vc.result_ok hr5 (v_res _ _ _), below_keep0 hr5.keep, ?_⟩
    rw [okV_no h, Bool.and_false]
    rfl
  · refine ⟨hr4.defers, _, Vc.result_ok hr4 (v_res _ _ _), below_keep0 hr4.keep, ?_⟩
    rw [okV_no h, Bool.and_false, Bool.false_and]
    rfl
  · refine ⟨hr3.defers, _, Vc.result_ok hr3 (v_res _ _ _), below_keep0 hr3.keep, ?_⟩
    rw [okV_no h, Bool.false_and, Bool.false_and]
    rfl
end Vk
end Go.Proofs.YtjcbphifdapkdaaDoor
