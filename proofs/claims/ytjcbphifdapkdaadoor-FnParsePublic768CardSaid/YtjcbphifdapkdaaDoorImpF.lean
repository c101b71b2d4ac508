/-
  The program's own Keccak permutation, whole: what a call leaves.
-/
import Derived.Test.YtjcbphifdapkdaaDoorImpF0
import Derived.Test.YtjcbphifdapkdaaDoorImpK1
import Derived.Test.YtjcbphifdapkdaaDoorImpK2
import Derived.Test.YtjcbphifdapkdaaDoorImpK3
import Derived.Defers
namespace Go.Proofs.YtjcbphifdapkdaaDoor
open Go.RowKit
open Ev (AV SV)

/-! ### The rounds as the statement has them -/
theorem colR_colF (x : Nat → BitVec 64) {r i : Nat} (hr : r < 4) (hi : i < 5) : colR r x i = colF x i := by
  have hr' : r = 0 ∨ r = 1 ∨ r = 2 ∨ r = 3 := by omega
  have hi' : i = 0 ∨ i = 1 ∨ i = 2 ∨ i = 3 ∨ i = 4 := by omega
  rcases hr' with rfl | rfl | rfl | rfl <;> rcases hi' with rfl | rfl | rfl | rfl | rfl
  · show x 0 ^^^ x 5 ^^^ x 10 ^^^ x 15 ^^^ x 20 = 0#64 ^^^ x 0 ^^^ x 5 ^^^ x 10 ^^^ x 15 ^^^ x 20
    rw [BitVec.zero_xor]
  · show x 1 ^^^ x 6 ^^^ x 11 ^^^ x 16 ^^^ x 21 = 0#64 ^^^ x 1 ^^^ x 6 ^^^ x 11 ^^^ x 16 ^^^ x 21
    rw [BitVec.zero_xor]
  · show x 2 ^^^ x 7 ^^^ x 12 ^^^ x 17 ^^^ x 22 = 0#64 ^^^ x 2 ^^^ x 7 ^^^ x 12 ^^^ x 17 ^^^ x 22
    rw [BitVec.zero_xor]
  · show x 3 ^^^ x 8 ^^^ x 13 ^^^ x 18 ^^^ x 23 = 0#64 ^^^ x 3 ^^^ x 8 ^^^ x 13 ^^^ x 18 ^^^ x 23
    rw [BitVec.zero_xor]
  · show x 4 ^^^ x 9 ^^^ x 14 ^^^ x 19 ^^^ x 24 = 0#64 ^^^ x 4 ^^^ x 9 ^^^ x 14 ^^^ x 19 ^^^ x 24
    rw [BitVec.zero_xor]
  · show x 0 ^^^ x 15 ^^^ x 5 ^^^ x 20 ^^^ x 10 = 0#64 ^^^ x 0 ^^^ x 5 ^^^ x 10 ^^^ x 15 ^^^ x 20
    rw [BitVec.zero_xor]
    ac_rfl
  · show x 11 ^^^ x 1 ^^^ x 16 ^^^ x 6 ^^^ x 21 = 0#64 ^^^ x 1 ^^^ x 6 ^^^ x 11 ^^^ x 16 ^^^ x 21
    rw [BitVec.zero_xor]
    ac_rfl
  · show x 22 ^^^ x 12 ^^^ x 2 ^^^ x 17 ^^^ x 7 = 0#64 ^^^ x 2 ^^^ x 7 ^^^ x 12 ^^^ x 17 ^^^ x 22
    rw [BitVec.zero_xor]
    ac_rfl
  · show x 8 ^^^ x 23 ^^^ x 13 ^^^ x 3 ^^^ x 18 = 0#64 ^^^ x 3 ^^^ x 8 ^^^ x 13 ^^^ x 18 ^^^ x 23
    rw [BitVec.zero_xor]
    ac_rfl
  · show x 19 ^^^ x 9 ^^^ x 24 ^^^ x 14 ^^^ x 4 = 0#64 ^^^ x 4 ^^^ x 9 ^^^ x 14 ^^^ x 19 ^^^ x 24
    rw [BitVec.zero_xor]
    ac_rfl
  · show x 0 ^^^ x 20 ^^^ x 15 ^^^ x 10 ^^^ x 5 = 0#64 ^^^ x 0 ^^^ x 5 ^^^ x 10 ^^^ x 15 ^^^ x 20
    rw [BitVec.zero_xor]
    ac_rfl
  · show x 16 ^^^ x 11 ^^^ x 6 ^^^ x 1 ^^^ x 21 = 0#64 ^^^ x 1 ^^^ x 6 ^^^ x 11 ^^^ x 16 ^^^ x 21
    rw [BitVec.zero_xor]
    ac_rfl
  · show x 7 ^^^ x 2 ^^^ x 22 ^^^ x 17 ^^^ x 12 = 0#64 ^^^ x 2 ^^^ x 7 ^^^ x 12 ^^^ x 17 ^^^ x 22
    rw [BitVec.zero_xor]
    ac_rfl
  · show x 23 ^^^ x 18 ^^^ x 13 ^^^ x 8 ^^^ x 3 = 0#64 ^^^ x 3 ^^^ x 8 ^^^ x 13 ^^^ x 18 ^^^ x 23
    rw [BitVec.zero_xor]
    ac_rfl
  · show x 14 ^^^ x 9 ^^^ x 4 ^^^ x 24 ^^^ x 19 = 0#64 ^^^ x 4 ^^^ x 9 ^^^ x 14 ^^^ x 19 ^^^ x 24
    rw [BitVec.zero_xor]
    ac_rfl
  · show x 0 ^^^ x 10 ^^^ x 20 ^^^ x 5 ^^^ x 15 = 0#64 ^^^ x 0 ^^^ x 5 ^^^ x 10 ^^^ x 15 ^^^ x 20
    rw [BitVec.zero_xor]
    ac_rfl
  · show x 6 ^^^ x 16 ^^^ x 1 ^^^ x 11 ^^^ x 21 = 0#64 ^^^ x 1 ^^^ x 6 ^^^ x 11 ^^^ x 16 ^^^ x 21
    rw [BitVec.zero_xor]
    ac_rfl
  · show x 12 ^^^ x 22 ^^^ x 7 ^^^ x 17 ^^^ x 2 = 0#64 ^^^ x 2 ^^^ x 7 ^^^ x 12 ^^^ x 17 ^^^ x 22
    rw [BitVec.zero_xor]
    ac_rfl
  · show x 18 ^^^ x 3 ^^^ x 13 ^^^ x 23 ^^^ x 8 = 0#64 ^^^ x 3 ^^^ x 8 ^^^ x 13 ^^^ x 18 ^^^ x 23
    rw [BitVec.zero_xor]
    ac_rfl
  · show x 24 ^^^ x 9 ^^^ x 19 ^^^ x 4 ^^^ x 14 = 0#64 ^^^ x 4 ^^^ x 9 ^^^ x 14 ^^^ x 19 ^^^ x 24
    rw [BitVec.zero_xor]
    ac_rfl
theorem thetaR_thetaF (x : Nat → BitVec 64) {r : Nat} (hr : r < 4) (i : Nat) : thetaR r x i = thetaF x i := by
  unfold thetaR thetaF dR dF
  rw [colR_colF x hr (Nat.mod_lt _ (by omega)), colR_colF x hr (Nat.mod_lt _ (by omega))]
theorem rndR_rndF (x : Nat → BitVec 64) (c : BitVec 64) {r : Nat} (hr : r < 4) (i : Nat) : rndR r c x i = rndF c x i := by
  have e : thetaR r x = thetaF x := funext fun i => thetaR_thetaF x hr i
  have e2 : ∀ y : Nat → BitVec 64, chiR y = chiF y := fun y => funext fun i => by
    unfold chiR chiF
    rw [BitVec.and_comm]
  unfold rndR rndF
  rw [e, e2]
  cases i <;> rfl
theorem rndR_eq {r : Nat} (hr : r < 4) (c : BitVec 64) (x : Nat → BitVec 64) : rndR r c x = rndF c x := funext fun i => rndR_rndF x c hr i

theorem Rel.other {c c' : Ev.Cfg} (hN : c'.N = c.N) (hg : c'.gl = c.gl) (hr : c'.ro = c.ro) {D : List Deferred} {n0 : Nat} {β0 β : Ev.Env} {w0 w : World} {s : Ev.St} {a : Act} (h : Ev.Rel c D n0 β0 w0 β s a w) : Ev.Rel c' D n0 β0 w0 β s a w :=
  ⟨h.size.trans hN.symm, h.defers, h.fr, h.mem, h.inj, h.lo, h.old, h.row, by rw [hg, hr]; exact h.ro, h.new, h.keep, h.still⟩
theorem Rel.via {c : Ev.Cfg} {D : List Deferred} {n0 : Nat} {β0 β : Ev.Env} {w0 w : World} {s t : Ev.St} {a : Act} {ks : List Nat} (h : Ev.Rel c D n0 β0 w0 β s a w) (e : (Ev.only s.fr ks, s.mem, s.still) = (t.fr, t.mem, t.still)) : Ev.Rel c D n0 β0 w0 β t a w := by
  obtain ⟨fr, mem, still⟩ := t
  simp only [Prod.mk.injEq] at e
  obtain ⟨e1, rfl, rfl⟩ := e
  exact h.less fun d v hv => Ev.look_only (ks := ks) (by rw [e1]; exact hv)

def tailC : Code → Code
  | .seq _ y => y
  | c => c
theorem kLoop_shape : dropC 1 kLoop = .seq (.block 3 kBody) (tailC (dropC 1 kLoop)) := by kernel_rfl
theorem some_map {α β : Type} {f : α → β} {o : Option α} {y : β} (h : o.map f = some y) : ∃ x, o = some x ∧ f x = y := by
  cases o with
  | none => cases h
  | some x => exact ⟨x, rfl, by simpa using h⟩

section
variable {Dd : List Deferred} {n0 : Nat} {β0 : Ev.Env} {w0 : World}
theorem step_n {n : Nat} {code : Code} {s t : Ev.St} (h : (Ev.evN cfgK 16 n code s).map kOutN = some (kOut t)) (ht : kOut t = (t.fr, t.mem, t.still)) {β : Ev.Env} {a : Act} {w : World} {Q : Exit → Act → World → Prop} (hr : Ev.Rel cfgK Dd n0 β0 w0 β s a w)
    (hQ : ∀ β' a' w', Ev.Rel cfgK Dd n0 β0 w0 β' t a' w' → (dropC n code).wp Tryd.prog Q a' w') : code.wp Tryd.prog Q a w := by
  obtain ⟨⟨s', rest⟩, h1, h2⟩ := some_map h
  obtain rfl := evN_rest h1
  exact Ev.evN_ok (cfgR_sound _ _) n code s s' _ h1 β a w hr fun β' a' w' hr' => hQ β' a' w' (Rel.via hr' (h2.trans ht))
theorem step_m {n fuel K : Nat} {c : Ev.Cfg} (hc : c.Sound) {ks : List Nat} {code : Code} {s t : Ev.St} (h : (Ev.evM c K fuel n code s).map (fun p => (Ev.only p.1.fr ks, p.1.mem, p.1.still)) = some (t.fr, t.mem, t.still)) {β : Ev.Env} {a : Act} {w : World} {Q : Exit → Act → World → Prop} (hr : Ev.Rel c Dd n0 β0 w0 β s a w)
    (hQ : ∀ β' a' w', Ev.Rel c Dd n0 β0 w0 β' t a' w' → (dropC n code).wp c.P Q a' w') : code.wp c.P Q a w := by
  obtain ⟨⟨s', rest⟩, h1, h2⟩ := some_map h
  obtain rfl := evM_rest h1
  exact Ev.evM_ok hc n code s s' _ h1 β a w hr fun β' a' w' hr' => hQ β' a' w' (Rel.via hr' h2)
theorem step_c {code : Code} {s t : Ev.St} {e : Ev.Ex} {fuel K : Nat} (h : (Ev.evC cfgK K fuel code s).map kOutE = some (e, kOut t)) (ht : kOut t = (t.fr, t.mem, t.still)) {β : Ev.Env} {a : Act} {w : World} {Q : Exit → Act → World → Prop} (hr : Ev.Rel cfgK Dd n0 β0 w0 β s a w)
    (hQ : ∀ β' a' w', Ev.Rel cfgK Dd n0 β0 w0 β' t a' w' → Q e.to a' w') : code.wp Tryd.prog Q a w := by
  obtain ⟨⟨e', s'⟩, h1, h2⟩ := some_map h
  simp only [kOutE, Prod.mk.injEq] at h2
  obtain ⟨rfl, h2⟩ := h2
  exact (Ev.evC_ok (cfgR_sound _ _) fuel).1 code s _ s' h1 _ β a w hr fun β' a' w' hr' => hQ β' a' w' (Rel.via hr' (h2.trans ht))

theorem iter {D : List SV} {i j : Int} {x0 x1 x2 x3 x4 : Nat → BitVec 64}
    (h0 : (Ev.evN cfgK 16 84 (dropC 0 kBody) (kSt D i (L (phys 0 x0)))).map kOutN = some (kOut (kSt D i (L (phys 1 x1)))))
    (h1 : (Ev.evN cfgK 16 84 (dropC 84 kBody) (kSt D i (L (phys 1 x1)))).map kOutN = some (kOut (kSt D i (L (phys 2 x2)))))
    (h2 : (Ev.evN cfgK 16 84 (dropC 168 kBody) (kSt D i (L (phys 2 x2)))).map kOutN = some (kOut (kSt D i (L (phys 3 x3)))))
    (h3 : (Ev.evC cfgK 16 1000 (dropC 252 kBody) (kSt D i (L (phys 3 x3)))).map kOutE = some (.normal, kOut (kSt D i (L (phys 4 x4)))))
    (hh : (Ev.evM cfgK 40 100 1 kLoop (kSt D i (L x0))).map kOutN = some (kOut (kSt D i (L x0))))
    (ht : (Ev.evC cfgK 16 100 (tailC (dropC 1 kLoop)) (kSt D i (L x4))).map kOutE = some (.normal, kOut (kSt D j (L x4))))
    {β : Ev.Env} {a : Act} {w : World} {Q : Exit → Act → World → Prop} (hr : Ev.Rel cfgK Dd n0 β0 w0 β (kSt D i (L x0)) a w)
    (hQ : ∀ β' a' w', Ev.Rel cfgK Dd n0 β0 w0 β' (kSt D j (L x4)) a' w' → Q .normal a' w') : kLoop.wp Tryd.prog Q a w := by
  refine step_m (cfgR_sound 2267 [(0, RCN)]) (ks := [1, 2, 15]) (t := kSt D i (L x0)) hh hr fun β1 a1 w1 hr1 => ?_
  rw [kLoop_shape]
  refine wp_seq (wp_block ?_)
  refine step_n h0 rfl (s := kSt D i (L (phys 0 x0))) hr1 fun β2 a2 w2 hr2 => ?_
  refine step_n h1 rfl hr2 fun β3 a3 w3 hr3 => ?_
  refine step_n h2 rfl hr3 fun β4 a4 w4 hr4 => ?_
  refine step_c h3 rfl hr4 fun β5 a5 w5 hr5 => ?_
  exact step_c ht rfl hr5 fun β6 a6 w6 hr6 => hQ β6 a6 w6 hr6
end

/-! ### The loop, whole -/
theorem kn_0_0 (D : List SV) (x : Nat → BitVec 64) : (Ev.evN cfgK 16 84 (dropC 0 kBody) (kSt D 0 (L (phys 0 x)))).map kOutN = some (kOut (kSt D 0 (L (phys 1 (rndF (getf RC 0) x))))) := by
  have h := kr_0_0 D x
  rwa [rndR_eq (by omega)] at h
theorem kn_0_1 (D : List SV) (x : Nat → BitVec 64) : (Ev.evN cfgK 16 84 (dropC 84 kBody) (kSt D 0 (L (phys 1 x)))).map kOutN = some (kOut (kSt D 0 (L (phys 2 (rndF (getf RC 1) x))))) := by
  have h := kr_0_1 D x
  rwa [rndR_eq (by omega)] at h
theorem kn_0_2 (D : List SV) (x : Nat → BitVec 64) : (Ev.evN cfgK 16 84 (dropC 168 kBody) (kSt D 0 (L (phys 2 x)))).map kOutN = some (kOut (kSt D 0 (L (phys 3 (rndF (getf RC 2) x))))) := by
  have h := kr_0_2 D x
  rwa [rndR_eq (by omega)] at h
theorem kn_0_3 (D : List SV) (x : Nat → BitVec 64) : (Ev.evC cfgK 16 1000 (dropC 252 kBody) (kSt D 0 (L (phys 3 x)))).map kOutE = some (.normal, kOut (kSt D 0 (L (phys 4 (rndF (getf RC 3) x))))) := by
  have h := kr_0_3 D x
  rwa [rndR_eq (by omega)] at h
set_option maxRecDepth 100000 in
theorem kh_0 (D : List SV) (x : Nat → BitVec 64) : (Ev.evM cfgK 40 100 1 kLoop (kSt D 0 (L x))).map kOutN = some (kOut (kSt D 0 (L x))) := by kernel_rfl
set_option maxRecDepth 100000 in
theorem kt_0 (D : List SV) (x : Nat → BitVec 64) : (Ev.evC cfgK 16 100 (tailC (dropC 1 kLoop)) (kSt D 0 (L x))).map kOutE = some (.normal, kOut (kSt D 4 (L x))) := by kernel_rfl
theorem it_0 {D : List SV} {x : Nat → BitVec 64} {Dd : List Deferred} {n0 : Nat} {β0 : Ev.Env} {w0 : World} {β : Ev.Env} {a : Act} {w : World} {Q : Exit → Act → World → Prop} (hr : Ev.Rel cfgK Dd n0 β0 w0 β (kSt D 0 (L x)) a w)
    (hQ : ∀ β' a' w', Ev.Rel cfgK Dd n0 β0 w0 β' (kSt D 4 (L (rndF (getf RC 3) (rndF (getf RC 2) (rndF (getf RC 1) (rndF (getf RC 0) x)))))) a' w' → Q .normal a' w') : kLoop.wp Tryd.prog Q a w :=
  iter (kn_0_0 D x) (kn_0_1 D _) (kn_0_2 D _) (kn_0_3 D _) (kh_0 D x) (kt_0 D _) hr hQ
theorem kn_4_0 (D : List SV) (x : Nat → BitVec 64) : (Ev.evN cfgK 16 84 (dropC 0 kBody) (kSt D 4 (L (phys 0 x)))).map kOutN = some (kOut (kSt D 4 (L (phys 1 (rndF (getf RC 4) x))))) := by
  have h := kr_4_0 D x
  rwa [rndR_eq (by omega)] at h
theorem kn_4_1 (D : List SV) (x : Nat → BitVec 64) : (Ev.evN cfgK 16 84 (dropC 84 kBody) (kSt D 4 (L (phys 1 x)))).map kOutN = some (kOut (kSt D 4 (L (phys 2 (rndF (getf RC 5) x))))) := by
  have h := kr_4_1 D x
  rwa [rndR_eq (by omega)] at h
theorem kn_4_2 (D : List SV) (x : Nat → BitVec 64) : (Ev.evN cfgK 16 84 (dropC 168 kBody) (kSt D 4 (L (phys 2 x)))).map kOutN = some (kOut (kSt D 4 (L (phys 3 (rndF (getf RC 6) x))))) := by
  have h := kr_4_2 D x
  rwa [rndR_eq (by omega)] at h
theorem kn_4_3 (D : List SV) (x : Nat → BitVec 64) : (Ev.evC cfgK 16 1000 (dropC 252 kBody) (kSt D 4 (L (phys 3 x)))).map kOutE = some (.normal, kOut (kSt D 4 (L (phys 4 (rndF (getf RC 7) x))))) := by
  have h := kr_4_3 D x
  rwa [rndR_eq (by omega)] at h
set_option maxRecDepth 100000 in
theorem kh_4 (D : List SV) (x : Nat → BitVec 64) : (Ev.evM cfgK 40 100 1 kLoop (kSt D 4 (L x))).map kOutN = some (kOut (kSt D 4 (L x))) := by kernel_rfl
set_option maxRecDepth 100000 in
theorem kt_4 (D : List SV) (x : Nat → BitVec 64) : (Ev.evC cfgK 16 100 (tailC (dropC 1 kLoop)) (kSt D 4 (L x))).map kOutE = some (.normal, kOut (kSt D 8 (L x))) := by kernel_rfl
theorem it_4 {D : List SV} {x : Nat → BitVec 64} {Dd : List Deferred} {n0 : Nat} {β0 : Ev.Env} {w0 : World} {β : Ev.Env} {a : Act} {w : World} {Q : Exit → Act → World → Prop} (hr : Ev.Rel cfgK Dd n0 β0 w0 β (kSt D 4 (L x)) a w)
    (hQ : ∀ β' a' w', Ev.Rel cfgK Dd n0 β0 w0 β' (kSt D 8 (L (rndF (getf RC 7) (rndF (getf RC 6) (rndF (getf RC 5) (rndF (getf RC 4) x)))))) a' w' → Q .normal a' w') : kLoop.wp Tryd.prog Q a w :=
  iter (kn_4_0 D x) (kn_4_1 D _) (kn_4_2 D _) (kn_4_3 D _) (kh_4 D x) (kt_4 D _) hr hQ
theorem kn_8_0 (D : List SV) (x : Nat → BitVec 64) : (Ev.evN cfgK 16 84 (dropC 0 kBody) (kSt D 8 (L (phys 0 x)))).map kOutN = some (kOut (kSt D 8 (L (phys 1 (rndF (getf RC 8) x))))) := by
  have h := kr_8_0 D x
  rwa [rndR_eq (by omega)] at h
theorem kn_8_1 (D : List SV) (x : Nat → BitVec 64) : (Ev.evN cfgK 16 84 (dropC 84 kBody) (kSt D 8 (L (phys 1 x)))).map kOutN = some (kOut (kSt D 8 (L (phys 2 (rndF (getf RC 9) x))))) := by
  have h := kr_8_1 D x
  rwa [rndR_eq (by omega)] at h
theorem kn_8_2 (D : List SV) (x : Nat → BitVec 64) : (Ev.evN cfgK 16 84 (dropC 168 kBody) (kSt D 8 (L (phys 2 x)))).map kOutN = some (kOut (kSt D 8 (L (phys 3 (rndF (getf RC 10) x))))) := by
  have h := kr_8_2 D x
  rwa [rndR_eq (by omega)] at h
theorem kn_8_3 (D : List SV) (x : Nat → BitVec 64) : (Ev.evC cfgK 16 1000 (dropC 252 kBody) (kSt D 8 (L (phys 3 x)))).map kOutE = some (.normal, kOut (kSt D 8 (L (phys 4 (rndF (getf RC 11) x))))) := by
  have h := kr_8_3 D x
  rwa [rndR_eq (by omega)] at h
set_option maxRecDepth 100000 in
theorem kh_8 (D : List SV) (x : Nat → BitVec 64) : (Ev.evM cfgK 40 100 1 kLoop (kSt D 8 (L x))).map kOutN = some (kOut (kSt D 8 (L x))) := by kernel_rfl
set_option maxRecDepth 100000 in
theorem kt_8 (D : List SV) (x : Nat → BitVec 64) : (Ev.evC cfgK 16 100 (tailC (dropC 1 kLoop)) (kSt D 8 (L x))).map kOutE = some (.normal, kOut (kSt D 12 (L x))) := by kernel_rfl
theorem it_8 {D : List SV} {x : Nat → BitVec 64} {Dd : List Deferred} {n0 : Nat} {β0 : Ev.Env} {w0 : World} {β : Ev.Env} {a : Act} {w : World} {Q : Exit → Act → World → Prop} (hr : Ev.Rel cfgK Dd n0 β0 w0 β (kSt D 8 (L x)) a w)
    (hQ : ∀ β' a' w', Ev.Rel cfgK Dd n0 β0 w0 β' (kSt D 12 (L (rndF (getf RC 11) (rndF (getf RC 10) (rndF (getf RC 9) (rndF (getf RC 8) x)))))) a' w' → Q .normal a' w') : kLoop.wp Tryd.prog Q a w :=
  iter (kn_8_0 D x) (kn_8_1 D _) (kn_8_2 D _) (kn_8_3 D _) (kh_8 D x) (kt_8 D _) hr hQ
theorem kn_12_0 (D : List SV) (x : Nat → BitVec 64) : (Ev.evN cfgK 16 84 (dropC 0 kBody) (kSt D 12 (L (phys 0 x)))).map kOutN = some (kOut (kSt D 12 (L (phys 1 (rndF (getf RC 12) x))))) := by
  have h := kr_12_0 D x
  rwa [rndR_eq (by omega)] at h
theorem kn_12_1 (D : List SV) (x : Nat → BitVec 64) : (Ev.evN cfgK 16 84 (dropC 84 kBody) (kSt D 12 (L (phys 1 x)))).map kOutN = some (kOut (kSt D 12 (L (phys 2 (rndF (getf RC 13) x))))) := by
  have h := kr_12_1 D x
  rwa [rndR_eq (by omega)] at h
theorem kn_12_2 (D : List SV) (x : Nat → BitVec 64) : (Ev.evN cfgK 16 84 (dropC 168 kBody) (kSt D 12 (L (phys 2 x)))).map kOutN = some (kOut (kSt D 12 (L (phys 3 (rndF (getf RC 14) x))))) := by
  have h := kr_12_2 D x
  rwa [rndR_eq (by omega)] at h
theorem kn_12_3 (D : List SV) (x : Nat → BitVec 64) : (Ev.evC cfgK 16 1000 (dropC 252 kBody) (kSt D 12 (L (phys 3 x)))).map kOutE = some (.normal, kOut (kSt D 12 (L (phys 4 (rndF (getf RC 15) x))))) := by
  have h := kr_12_3 D x
  rwa [rndR_eq (by omega)] at h
set_option maxRecDepth 100000 in
theorem kh_12 (D : List SV) (x : Nat → BitVec 64) : (Ev.evM cfgK 40 100 1 kLoop (kSt D 12 (L x))).map kOutN = some (kOut (kSt D 12 (L x))) := by kernel_rfl
set_option maxRecDepth 100000 in
theorem kt_12 (D : List SV) (x : Nat → BitVec 64) : (Ev.evC cfgK 16 100 (tailC (dropC 1 kLoop)) (kSt D 12 (L x))).map kOutE = some (.normal, kOut (kSt D 16 (L x))) := by kernel_rfl
theorem it_12 {D : List SV} {x : Nat → BitVec 64} {Dd : List Deferred} {n0 : Nat} {β0 : Ev.Env} {w0 : World} {β : Ev.Env} {a : Act} {w : World} {Q : Exit → Act → World → Prop} (hr : Ev.Rel cfgK Dd n0 β0 w0 β (kSt D 12 (L x)) a w)
    (hQ : ∀ β' a' w', Ev.Rel cfgK Dd n0 β0 w0 β' (kSt D 16 (L (rndF (getf RC 15) (rndF (getf RC 14) (rndF (getf RC 13) (rndF (getf RC 12) x)))))) a' w' → Q .normal a' w') : kLoop.wp Tryd.prog Q a w :=
  iter (kn_12_0 D x) (kn_12_1 D _) (kn_12_2 D _) (kn_12_3 D _) (kh_12 D x) (kt_12 D _) hr hQ
theorem kn_16_0 (D : List SV) (x : Nat → BitVec 64) : (Ev.evN cfgK 16 84 (dropC 0 kBody) (kSt D 16 (L (phys 0 x)))).map kOutN = some (kOut (kSt D 16 (L (phys 1 (rndF (getf RC 16) x))))) := by
  have h := kr_16_0 D x
  rwa [rndR_eq (by omega)] at h
theorem kn_16_1 (D : List SV) (x : Nat → BitVec 64) : (Ev.evN cfgK 16 84 (dropC 84 kBody) (kSt D 16 (L (phys 1 x)))).map kOutN = some (kOut (kSt D 16 (L (phys 2 (rndF (getf RC 17) x))))) := by
  have h := kr_16_1 D x
  rwa [rndR_eq (by omega)] at h
theorem kn_16_2 (D : List SV) (x : Nat → BitVec 64) : (Ev.evN cfgK 16 84 (dropC 168 kBody) (kSt D 16 (L (phys 2 x)))).map kOutN = some (kOut (kSt D 16 (L (phys 3 (rndF (getf RC 18) x))))) := by
  have h := kr_16_2 D x
  rwa [rndR_eq (by omega)] at h
theorem kn_16_3 (D : List SV) (x : Nat → BitVec 64) : (Ev.evC cfgK 16 1000 (dropC 252 kBody) (kSt D 16 (L (phys 3 x)))).map kOutE = some (.normal, kOut (kSt D 16 (L (phys 4 (rndF (getf RC 19) x))))) := by
  have h := kr_16_3 D x
  rwa [rndR_eq (by omega)] at h
set_option maxRecDepth 100000 in
theorem kh_16 (D : List SV) (x : Nat → BitVec 64) : (Ev.evM cfgK 40 100 1 kLoop (kSt D 16 (L x))).map kOutN = some (kOut (kSt D 16 (L x))) := by kernel_rfl
set_option maxRecDepth 100000 in
theorem kt_16 (D : List SV) (x : Nat → BitVec 64) : (Ev.evC cfgK 16 100 (tailC (dropC 1 kLoop)) (kSt D 16 (L x))).map kOutE = some (.normal, kOut (kSt D 20 (L x))) := by kernel_rfl
theorem it_16 {D : List SV} {x : Nat → BitVec 64} {Dd : List Deferred} {n0 : Nat} {β0 : Ev.Env} {w0 : World} {β : Ev.Env} {a : Act} {w : World} {Q : Exit → Act → World → Prop} (hr : Ev.Rel cfgK Dd n0 β0 w0 β (kSt D 16 (L x)) a w)
    (hQ : ∀ β' a' w', Ev.Rel cfgK Dd n0 β0 w0 β' (kSt D 20 (L (rndF (getf RC 19) (rndF (getf RC 18) (rndF (getf RC 17) (rndF (getf RC 16) x)))))) a' w' → Q .normal a' w') : kLoop.wp Tryd.prog Q a w :=
  iter (kn_16_0 D x) (kn_16_1 D _) (kn_16_2 D _) (kn_16_3 D _) (kh_16 D x) (kt_16 D _) hr hQ
theorem kn_20_0 (D : List SV) (x : Nat → BitVec 64) : (Ev.evN cfgK 16 84 (dropC 0 kBody) (kSt D 20 (L (phys 0 x)))).map kOutN = some (kOut (kSt D 20 (L (phys 1 (rndF (getf RC 20) x))))) := by
  have h := kr_20_0 D x
  rwa [rndR_eq (by omega)] at h
theorem kn_20_1 (D : List SV) (x : Nat → BitVec 64) : (Ev.evN cfgK 16 84 (dropC 84 kBody) (kSt D 20 (L (phys 1 x)))).map kOutN = some (kOut (kSt D 20 (L (phys 2 (rndF (getf RC 21) x))))) := by
  have h := kr_20_1 D x
  rwa [rndR_eq (by omega)] at h
theorem kn_20_2 (D : List SV) (x : Nat → BitVec 64) : (Ev.evN cfgK 16 84 (dropC 168 kBody) (kSt D 20 (L (phys 2 x)))).map kOutN = some (kOut (kSt D 20 (L (phys 3 (rndF (getf RC 22) x))))) := by
  have h := kr_20_2 D x
  rwa [rndR_eq (by omega)] at h
theorem kn_20_3 (D : List SV) (x : Nat → BitVec 64) : (Ev.evC cfgK 16 1000 (dropC 252 kBody) (kSt D 20 (L (phys 3 x)))).map kOutE = some (.normal, kOut (kSt D 20 (L (phys 4 (rndF (getf RC 23) x))))) := by
  have h := kr_20_3 D x
  rwa [rndR_eq (by omega)] at h
set_option maxRecDepth 100000 in
theorem kh_20 (D : List SV) (x : Nat → BitVec 64) : (Ev.evM cfgK 40 100 1 kLoop (kSt D 20 (L x))).map kOutN = some (kOut (kSt D 20 (L x))) := by kernel_rfl
set_option maxRecDepth 100000 in
theorem kt_20 (D : List SV) (x : Nat → BitVec 64) : (Ev.evC cfgK 16 100 (tailC (dropC 1 kLoop)) (kSt D 20 (L x))).map kOutE = some (.normal, kOut (kSt D 24 (L x))) := by kernel_rfl
theorem it_20 {D : List SV} {x : Nat → BitVec 64} {Dd : List Deferred} {n0 : Nat} {β0 : Ev.Env} {w0 : World} {β : Ev.Env} {a : Act} {w : World} {Q : Exit → Act → World → Prop} (hr : Ev.Rel cfgK Dd n0 β0 w0 β (kSt D 20 (L x)) a w)
    (hQ : ∀ β' a' w', Ev.Rel cfgK Dd n0 β0 w0 β' (kSt D 24 (L (rndF (getf RC 23) (rndF (getf RC 22) (rndF (getf RC 21) (rndF (getf RC 20) x)))))) a' w' → Q .normal a' w') : kLoop.wp Tryd.prog Q a w :=
  iter (kn_20_0 D x) (kn_20_1 D _) (kn_20_2 D _) (kn_20_3 D _) (kh_20 D x) (kt_20 D _) hr hQ
set_option maxRecDepth 100000 in
theorem kx (D : List SV) (x : Nat → BitVec 64) : (Ev.evC cfgK 40 100 kLoop (kSt D 24 (L x))).map kOutE = some (.out 2, kOut (kSt D 24 (L x))) := by kernel_rfl
theorem kecF_24 (x : Nat → BitVec 64) : rndF (getf RC 23) (rndF (getf RC 22) (rndF (getf RC 21) (rndF (getf RC 20) (rndF (getf RC 19) (rndF (getf RC 18) (rndF (getf RC 17) (rndF (getf RC 16) (rndF (getf RC 15) (rndF (getf RC 14) (rndF (getf RC 13) (rndF (getf RC 12) (rndF (getf RC 11) (rndF (getf RC 10) (rndF (getf RC 9) (rndF (getf RC 8) (rndF (getf RC 7) (rndF (getf RC 6) (rndF (getf RC 5) (rndF (getf RC 4) (rndF (getf RC 3) (rndF (getf RC 2) (rndF (getf RC 1) (rndF (getf RC 0) (x)))))))))))))))))))))))) = kecF x := by kernel_rfl
theorem keccak_loop {D : List SV} {x : Nat → BitVec 64} {Dd : List Deferred} {n0 : Nat} {β0 : Ev.Env} {w0 : World} {β : Ev.Env} {a : Act} {w : World} {Q : Exit → Act → World → Prop} (hr : Ev.Rel cfgK Dd n0 β0 w0 β (kSt D 0 (L x)) a w)
    (hQ : ∀ β' a' w', Ev.Rel cfgK Dd n0 β0 w0 β' (kSt D 24 (L (kecF x))) a' w' → Q (.exit 2) a' w') : (Code.loop kLoop).wp Tryd.prog Q a w := by
  rw [← kecF_24] at hQ
  refine wp_loop_rounds 7 ?_
  refine it_0 hr fun _ _ _ hr => ?_
  refine it_4 hr fun _ _ _ hr => ?_
  refine it_8 hr fun _ _ _ hr => ?_
  refine it_12 hr fun _ _ _ hr => ?_
  refine it_16 hr fun _ _ _ hr => ?_
  refine it_20 hr fun _ _ _ hr => ?_
  exact step_c (kx _ _) rfl hr fun _ _ _ hr => hQ _ _ _ hr

/-! ### The call, whole -/
theorem body55 : Tryd.f55.body = some (bodyOf 55) := by kernel_rfl
theorem body57 : Tryd.f57.body = some (bodyOf 57) := by kernel_rfl
theorem cfgH_sound : cfgH.Sound := Ev.lift_sound (Ev.lift_sound ⟨follows, fun _ _ _ _ h => (by cases h), fun _ _ _ _ h => (by cases h), fun _ _ _ _ h => (by cases h), fun _ _ _ _ _ h => (by cases h)⟩ [60] 100 (fun f hf xs w => by
    obtain rfl : f = 60 := by simpa using hf
    exact Tryd.call60 xs w)) [56] 100 (fun f hf xs w => by
    obtain rfl : f = 56 := by simpa using hf
    exact Tryd.call56 xs w)
theorem cfgE_sound : cfgE.Sound := Ev.lift_sound (Ev.lift_sound ⟨follows, fun _ _ _ _ h => (by cases h), fun _ _ _ _ h => (by cases h), fun _ _ _ _ h => (by cases h), fun _ _ _ _ _ h => (by cases h)⟩ [61] 100 (fun f hf xs w => by
    obtain rfl : f = 61 := by simpa using hf
    exact Tryd.call61 xs w)) [58] 100 (fun f hf xs w => by
    obtain rfl : f = 58 := by simpa using hf
    exact Tryd.call58 xs w)
theorem shape4 : dropC 4 (bodyOf 55) = .seq (.region 8 #[⟨some 31, .makeFunc (.func 57) #[] #[.tmp 1, .tmp 2], 1, "keccakf.go:47", #[], none⟩, ⟨none, .defer ⟨.value (.tmp 31), #[], #[]⟩, 0, "keccakf.go:47", #[⟨0, .data⟩], none⟩] false) (dropC 5 (bodyOf 55)) := by kernel_rfl
theorem shape7 : dropC 7 (bodyOf 55) = .block 2 (.loop kLoop) := by kernel_rfl
theorem drop57 : dropC 2 (dropC 5 (bodyOf 55)) = dropC 7 (bodyOf 55) := by kernel_rfl
set_option maxRecDepth 100000 in
theorem mid55 (D : List SV) (xs : List SV) : (Ev.evM cfgK 16 100 2 (dropC 5 (bodyOf 55)) (hSt D xs)).map (fun p => (Ev.only p.1.fr [1, 2, 15], p.1.mem, p.1.still)) = some ((kSt D 0 xs).fr, (kSt D 0 xs).mem, (kSt D 0 xs).still) := by kernel_rfl

/-- The same state, told from here on. -/
theorem Rel.rebase {c : Ev.Cfg} {D : List Deferred} {n0 : Nat} {β0 β : Ev.Env} {w0 w : World} {s : Ev.St} {a : Act} (h : Ev.Rel c D n0 β0 w0 β s a w) : Ev.Rel c D s.mem.length β w β s a w :=
  ⟨h.size, h.defers, h.fr, h.mem, h.inj, Nat.le_refl _, fun _ _ => rfl, rfl, h.ro, fun _ h1 h2 => absurd h2 (Nat.not_lt.2 h1), Ev.Keep.refl _ _, fun _ => ⟨0, rfl⟩⟩
theorem kec_call {tl : List SV} (hh : ∀ d, (Ev.evM cfgH 20 1000 4 (bodyOf 55) ⟨Ev.args0 0 [.sc (.ptr 0 0)], [B200 d ++ tl], true⟩).map hOut = some (hOut (hSt (B200 d ++ tl) (L (lane d)), .skip)))
    (hsc : tl.all (Ev.scS 0) = true) (ht : ∀ d x, (Ev.evC cfgE 18 1000 (bodyOf 57) ⟨Ev.args0 0 [.sc (.ptr 1 0), .sc (.ptr 2 0)], [B200 d ++ tl, [.ptr 0 0], [.ptr 3 0], L x], true⟩).map mOut = some (.normal, [B200 (byteOf x) ++ tl, [.ptr 0 0], [.ptr 3 0], L x]))
    (d : Nat → BitVec 8) {β : Ev.Env} {w : World} (hm : Ev.MemOk β [B200 d ++ tl] w) (hro : Ev.RoOk β [] [(0, RCN)] 1 w) :
    Calls Tryd.prog 55 #[.pointer (some ⟨β 0, 0, none⟩)] w fun e w' => e = .returned undef ∧ Ev.MemOk β [B200 (kecD d) ++ tl] w' ∧ Ev.Keep (fun k => k = β 0) w w' := by
  refine calls_of_wp_defers Tryd.func55 body55 ?_
  have h0 : Ev.Rel cfgH [] 1 β w β ⟨Ev.args0 0 [.sc (.ptr 0 0)], [B200 d ++ tl], true⟩ _ w := Ev.Rel.start (c := cfgH) (vs := [.sc (.ptr 0 0)]) (mem := [B200 d ++ tl]) (β := β) (w := w) (by show 1 ≤ 2267; omega) hm (fun g g' hg hg' _ => by simp at hg hg'; omega) hro
  refine step_m (c := cfgH) cfgH_sound (ks := [1, 2]) (t := hSt (B200 d ++ tl) (L (lane d))) (hh d) h0 fun β1 a1 w1 hr1 => ?_
  rw [shape4]
  have e1 : a1.eval (.tmp 1) = .pointer (some ⟨β1 1, 0, none⟩) := Ev.ev_ok (c := cfgH) hr1.fr (x := .tmp 1) (v := .sc (.ptr 1 0)) rfl
  have e2 : a1.eval (.tmp 2) = .pointer (some ⟨β1 2, 0, none⟩) := Ev.ev_ok (c := cfgH) hr1.fr (x := .tmp 2) (v := .sc (.ptr 2 0)) rfl
  have hsz : 31 < a1.tmps.size := by
    rw [hr1.size]
    show 31 < 2267
    omega
  let f57 : Value := .func (.func 57) #[] #[.pointer (some ⟨β1 1, 0, none⟩), .pointer (some ⟨β1 2, 0, none⟩)]
  let dfr : Deferred := ⟨.fn (.func 57) #[.pointer (some ⟨β1 1, 0, none⟩), .pointer (some ⟨β1 2, 0, none⟩)], #[]⟩
  have ef : (a1.put (some 31) f57).eval (.tmp 31) = f57 := by simp [Act.eval, Act.put, hsz]
  have hr2 : Ev.Rel cfgK [dfr] 4 β1 w1 β1 (hSt (B200 d ++ tl) (L (lane d))) ({ a1.put (some 31) f57 with defers := dfr :: (a1.put (some 31) f57).defers }.put none undef) w1 := by
    have hk := Rel.rebase (Rel.other (c := cfgH) (c' := cfgK) rfl rfl rfl hr1)
    refine ⟨by show (a1.tmps.setIfInBounds 31 f57).size = 2267; rw [Array.size_setIfInBounds]; exact hk.size, by show dfr :: a1.defers = [dfr]; rw [hk.defers], fun k v hv => ?_, hk.mem, hk.inj, hk.lo, hk.old, hk.row, hk.ro, hk.new, hk.keep, hk.still⟩
    by_cases hk31 : k = 31
    · subst hk31
      cases hv
    · rcases hk.fr k v hv with h | h
      · exact .inl h
      · refine .inr ?_
        show (a1.tmps.setIfInBounds 31 f57)[k]? = _
        rw [Array.getElem?_setIfInBounds_ne (Ne.symm hk31)]
        exact h
  refine wp_seq (wp_region_list (wpList_plain rfl fun K hK => ?_))
  show Oper.upon _ _ _ _ _ ((execOp a1.eval _).run _ w1)
  simp only [execOp, Instr.makeFunc, Sem.run_bind, Sem.run_pure, Result.andThen_ok, Oper.upon_value, List.map_toArray, List.map_cons, List.map_nil, e1, e2]
  refine hK _ _ (wpList_plain rfl fun K2 hK2 => ?_)
  show Oper.upon _ _ _ _ _ ((execOp (a1.put (some 31) f57).eval _).run _ w1)
  simp only [execOp, resolve, ef, f57, Deferred.ofValue, Sem.run_bind, Sem.run_pure, Result.andThen_ok, Oper.upon_defer, List.map_toArray, List.map_nil, Array.append_empty]
  refine hK2 _ _ (wpList_nil ?_)
  show (dropC 5 (bodyOf 55)).wp Tryd.prog _ _ w1
  refine step_m (c := cfgK) (cfgR_sound _ _) (ks := [1, 2, 15]) (mid55 _ _) hr2 fun β3 a3 w3 hr3 => ?_
  show (dropC 2 (dropC 5 (bodyOf 55))).wp Tryd.prog _ _ _
  rw [drop57, shape7]
  refine wp_block (keccak_loop hr3 fun β4 a4 w4 hr4 => ?_)
  simp only [Exit.inBlock, if_true]
  show Leaves Tryd.prog Tryd.f55 a4.tmps _ a4.defers .returning w4
  rw [hr4.defers]
  have b1 : β4 1 = β1 1 := hr4.old 1 (by omega)
  have b2 : β4 2 = β1 2 := hr4.old 2 (by omega)
  have hinv : (invoke (.fn (.func 57) #[.pointer (some ⟨β1 1, 0, none⟩), .pointer (some ⟨β1 2, 0, none⟩)]) #[]).run Tryd.prog w4 = .ok (.enter 57 ([AV.sc (.ptr 1 0), .sc (.ptr 2 0)].map (Ev.gv β4)).toArray) w4 := by
    have e : ([AV.sc (.ptr 1 0), .sc (.ptr 2 0)].map (Ev.gv β4)).toArray = #[.pointer (some ⟨β1 1, 0, none⟩), .pointer (some ⟨β1 2, 0, none⟩)] := by
      rw [← b1, ← b2]
      rfl
    rw [e]
    simp only [invoke, Array.empty_append]
    exact Tryd.call57 _ _
  obtain ⟨⟨e5, s5⟩, h5, h5'⟩ := some_map (ht d (kecF (lane d)))
  simp only [mOut, Prod.mk.injEq] at h5'
  obtain ⟨rfl, h5'⟩ := h5'
  have hst := Ev.Rel.start (c := cfgE) (vs := [.sc (.ptr 1 0), .sc (.ptr 2 0)]) (mem := [B200 d ++ tl, [.ptr 0 0], [.ptr 3 0], L (kecF (lane d))]) (β := β4) (w := w4) (by show 2 ≤ 18; omega) hr4.mem hr4.inj Ev.RoOk.nil
  refine leaves_cons (by simp) hinv ((callsD_of_wp (R := fun e w' => e = .returned undef ∧ ∃ β5 a5, Ev.Rel cfgE [] 4 β4 w4 β5 s5 a5 w') Tryd.func57 body57 ?_).mono ?_)
  · exact (Ev.evC_ok cfgE_sound 1000).1 (bodyOf 57) _ .normal s5 h5 _ β4 _ w4 hst fun β5 a5 w5 hr5 => ⟨hr5.defers, _, results_none rfl _ _ _, rfl, β5, a5, hr5⟩
  · rintro e u' w5 ⟨rfl, rfl, β5, a5, hr5⟩
    refine ⟨undef, results_none rfl _ _ _, rfl, fun g cs hg => ?_, ?_⟩
    · have hg0 : g = 0 := by
        have := (List.getElem?_eq_some_iff.1 hg).1
        simp at this
        exact this
      subst hg0
      simp only [List.getElem?_cons_zero, Option.some.injEq] at hg
      subst hg
      obtain ⟨el, hel⟩ := hr5.mem 0 (B200 (kecD d) ++ tl) (by rw [h5']; rfl)
      refine ⟨el, ?_⟩
      have hb : β5 0 = β 0 := (hr5.old 0 (by omega)).trans ((hr4.old 0 (by omega)).trans (hr1.old 0 (by omega)))
      rw [← hb, hel, Ev.gss_same (β := β) (β' := β5) (n := 0) (fun _ hg => by omega) (hr5.row.trans (hr4.row.trans hr1.row)) (xs := B200 (kecD d) ++ tl) (by rw [List.all_append, hsc]; rfl)]
    · have k1 := hr1.keep
      have k2 := hr4.keep
      have k3 := hr5.keep
      have key : ∀ i, i < w.heap.size → (∃ g, g < 4 ∧ β1 g = i) → ∃ g, g < 1 ∧ β g = i := by
        rintro i hi ⟨g, hg, rfl⟩
        by_cases h1 : g < 1
        · exact ⟨g, h1, (hr1.old g h1).symm⟩
        · have := hr1.new g (by omega) hg
          omega
      refine ((k1.trans' k2 key).trans' k3 ?_).mono ?_
      · rintro i hi ⟨g, hg, rfl⟩
        exact key _ hi ⟨g, hg, (hr4.old g hg).symm⟩
      · rintro i hi ⟨g, hg, rfl⟩
        obtain rfl : g = 0 := by omega
        rfl
theorem kec_call5 (d : Nat → BitVec 8) (n r : Int) (b : BitVec 8) (o s : Int) {β : Ev.Env} {w : World} (hm : Ev.MemOk β [B200 d ++ tl5 n r b o s] w) (hro : Ev.RoOk β [] [(0, RCN)] 1 w) :
    Calls Tryd.prog 55 #[.pointer (some ⟨β 0, 0, none⟩)] w fun e w' => e = .returned undef ∧ Ev.MemOk β [B200 (kecD d) ++ tl5 n r b o s] w' ∧ Ev.Keep (fun k => k = β 0) w w' :=
  kec_call (fun d => head_tl5 d n r b o s) rfl (fun d x => tail_tl5 d n r b o s x) d hm hro
theorem kec_call6 (d : Nat → BitVec 8) (n r : Int) (b : BitVec 8) (o s : Int) {β : Ev.Env} {w : World} (hm : Ev.MemOk β [B200 d ++ tl6 n r b o s] w) (hro : Ev.RoOk β [] [(0, RCN)] 1 w) :
    Calls Tryd.prog 55 #[.pointer (some ⟨β 0, 0, none⟩)] w fun e w' => e = .returned undef ∧ Ev.MemOk β [B200 (kecD d) ++ tl6 n r b o s] w' ∧ Ev.Keep (fun k => k = β 0) w w' :=
  kec_call (fun d => head_tl6 d n r b o s) rfl (fun d x => tail_tl6 d n r b o s x) d hm hro

end Go.Proofs.YtjcbphifdapkdaaDoor
