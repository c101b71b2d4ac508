/-
  The statement's own Keccak permutation: 24 rounds on 25 words.
-/
import Derived.Test.YtjcbphifdapkdaaDoorSpecR
namespace Go.Proofs.YtjcbphifdapkdaaDoor
open Go.RowKit
open Ev (AV SV)
/-- The word at a place of a list. -/
def getf (xs : List SV) (i : Nat) : BitVec 64 := match xs[i]? with
  | some (.u64 a) => a
  | _ => 0#64
def allU : Nat → List SV → Bool
  | 0, [] => true
  | n + 1, .u64 _ :: r => allU n r
  | _, _ => false
theorem allU_succ {n : Nat} {xs : List SV} (h : allU (n + 1) xs = true) : ∃ a r, xs = .u64 a :: r ∧ allU n r = true := by
  match xs, h with
  | .u64 a :: r, h => exact ⟨a, r, rfl, h⟩
theorem allU_zero {xs : List SV} (h : allU 0 xs = true) : xs = [] := by
  match xs, h with
  | [], _ => rfl
theorem allU_25 {xs : List SV} (h : allU 25 xs = true) : xs = L (getf xs) := by
  obtain ⟨a0, r0, rfl, h0⟩ := allU_succ h
  obtain ⟨a1, r1, rfl, h1⟩ := allU_succ h0
  obtain ⟨a2, r2, rfl, h2⟩ := allU_succ h1
  obtain ⟨a3, r3, rfl, h3⟩ := allU_succ h2
  obtain ⟨a4, r4, rfl, h4⟩ := allU_succ h3
  obtain ⟨a5, r5, rfl, h5⟩ := allU_succ h4
  obtain ⟨a6, r6, rfl, h6⟩ := allU_succ h5
  obtain ⟨a7, r7, rfl, h7⟩ := allU_succ h6
  obtain ⟨a8, r8, rfl, h8⟩ := allU_succ h7
  obtain ⟨a9, r9, rfl, h9⟩ := allU_succ h8
  obtain ⟨a10, r10, rfl, h10⟩ := allU_succ h9
  obtain ⟨a11, r11, rfl, h11⟩ := allU_succ h10
  obtain ⟨a12, r12, rfl, h12⟩ := allU_succ h11
  obtain ⟨a13, r13, rfl, h13⟩ := allU_succ h12
  obtain ⟨a14, r14, rfl, h14⟩ := allU_succ h13
  obtain ⟨a15, r15, rfl, h15⟩ := allU_succ h14
  obtain ⟨a16, r16, rfl, h16⟩ := allU_succ h15
  obtain ⟨a17, r17, rfl, h17⟩ := allU_succ h16
  obtain ⟨a18, r18, rfl, h18⟩ := allU_succ h17
  obtain ⟨a19, r19, rfl, h19⟩ := allU_succ h18
  obtain ⟨a20, r20, rfl, h20⟩ := allU_succ h19
  obtain ⟨a21, r21, rfl, h21⟩ := allU_succ h20
  obtain ⟨a22, r22, rfl, h22⟩ := allU_succ h21
  obtain ⟨a23, r23, rfl, h23⟩ := allU_succ h22
  obtain ⟨a24, r24, rfl, h24⟩ := allU_succ h23
  obtain rfl := allU_zero h24
  rfl
/-- A step on a list of words. -/
def sL (F : (Nat → BitVec 64) → Nat → BitVec 64) (xs : List SV) : List SV := L (F (getf xs))
/-- What the four steps tell. -/
def wfS : FuncId → List AV → List (List SV) → Option (AV × List (List SV))
  | 42, [.agg xs], mem => bif allU 25 xs then some (.agg (sL thetaF xs), mem) else none
  | 41, [.agg xs], mem => bif allU 25 xs then some (.agg (sL rhoF xs), mem) else none
  | 40, [.agg xs], mem => bif allU 25 xs then some (.agg (sL piF xs), mem) else none
  | 39, [.agg xs], mem => bif allU 25 xs then some (.agg (sL chiF xs), mem) else none
  | _, _, _ => none
noncomputable def cfgS (n : Nat) : Ev.Cfg := ⟨Tryd.prog, n, [], fun _ _ _ => none, wfS, []⟩

theorem gv_L (β : Ev.Env) (x : Nat → BitVec 64) : Ev.gv β (.agg (L x)) = LV x := rfl
theorem mem_below {β : Ev.Env} {mem : List (List SV)} {w w' : World} (hm : Ev.MemOk β mem w) (hb : Below w.heap.size w w') : Ev.MemOk β mem w' := fun g cs hg => by
  obtain ⟨e, he⟩ := hm g cs hg
  exact ⟨e, by rw [hb.block _ (Array.getElem?_eq_some_iff.1 he).1, he]⟩
theorem below_keep (E : Nat → Prop) {w w' : World} (hb : Below w.heap.size w w') : Ev.Keep E w w' := ⟨hb.os, hb.tape, hb.output, hb.size, fun k hk _ => hb.block k hk⟩

theorem step_sound {f : Nat} {F : (Nat → BitVec 64) → Nat → BitVec 64} (hF : ∀ x w, Calls Tryd.prog f #[LV x] w fun e w' => e = .returned (LV (F x)) ∧ Below w.heap.size w w') {xs : List SV} (h : allU 25 xs = true) {β : Ev.Env} {mem : List (List SV)} {w : World} (hm : Ev.MemOk β mem w) (hi : ∀ g g', g < mem.length → g' < mem.length → β g = β g' → g = g') :
    Calls Tryd.prog f ([AV.agg xs].map (Ev.gv β)).toArray w fun e w' => ∃ β', Ev.After β mem w β' mem w' ∧ e = .returned (Ev.gv β' (.agg (sL F xs))) := by
  have e : [AV.agg xs].map (Ev.gv β) = [LV (getf xs)] := by
    rw [allU_25 h]
    rfl
  rw [e]
  exact (hF (getf xs) w).mono fun e w' ⟨h1, h2⟩ => ⟨β, Ev.After.same hi (mem_below hm h2) rfl (below_keep _ h2), h1⟩

theorem cfgS_sound (n : Nat) : (cfgS n).Sound := by
  refine ⟨follows, fun _ _ _ _ h => (by cases h), fun _ _ _ _ h => (by cases h), ?_, ?_⟩
  · intro f args mem v h xs w
    have h' : wfS f args mem = some v := h
    unfold wfS at h'
    split at h' <;> (try simp only [reduceCtorEq] at h')
    · exact Tryd.call42 xs w
    · exact Tryd.call41 xs w
    · exact Tryd.call40 xs w
    · exact Tryd.call39 xs w
  · intro f args mem v mem' h β w hm hi _
    have h' : wfS f args mem = some (v, mem') := h
    unfold wfS at h'
    split at h' <;> (try simp only [reduceCtorEq] at h')
    all_goals
      rename_i xs
      cases hb : allU 25 xs with
      | false => rw [hb] at h'; cases h'
      | true =>
        rw [hb] at h'
        simp only [cond_true, Option.some.injEq, Prod.mk.injEq] at h'
        obtain ⟨rfl, rfl⟩ := h'
        first | exact step_sound theta_any hb hm hi | exact step_sound rho_any hb hm hi | exact step_sound pi_any hb hm hi | exact step_sound chi_any hb hm hi

/-- A round on a list of words. -/
def rndL (xs : List SV) (c : SV) : List SV :=
  Ev.put (sL chiF (sL piF (sL rhoF (sL thetaF xs)))) 0 [.u64 (getf (sL chiF (sL piF (sL rhoF (sL thetaF xs)))) 0 ^^^ getf [c] 0)]
def kecL (xs : List SV) : List SV := RC.foldl rndL xs
set_option maxRecDepth 100000 in
theorem keccak_out (x : Nat → BitVec 64) : outOf (Ev.evC (cfgS 23) 23 1000 (bodyOf 29) ⟨Ev.args0 0 [.agg (L x), .agg RC], [], true⟩) (cfgS 23) 4 = some (kecL (L x)) := by kernel_rfl

/-- A round on words. -/
def rndF (c : BitVec 64) (x : Nat → BitVec 64) (i : Nat) : BitVec 64 := match i with
  | 0 => chiF (piF (rhoF (thetaF x))) 0 ^^^ c
  | i => chiF (piF (rhoF (thetaF x))) i
def RCN : List (BitVec 64) := RC.map fun s => getf [s] 0
def kecF (x : Nat → BitVec 64) : Nat → BitVec 64 := RCN.foldl (fun x c => rndF c x) x

theorem L_congr {x y : Nat → BitVec 64} (h : ∀ i, i < 25 → x i = y i) : L x = L y := by
  simp [L, h]
theorem getf_L (x : Nat → BitVec 64) (i : Nat) (h : i < 25) : getf (L x) i = x i := by
  match i, h with
  | 0, _ => rfl
  | 1, _ => rfl
  | 2, _ => rfl
  | 3, _ => rfl
  | 4, _ => rfl
  | 5, _ => rfl
  | 6, _ => rfl
  | 7, _ => rfl
  | 8, _ => rfl
  | 9, _ => rfl
  | 10, _ => rfl
  | 11, _ => rfl
  | 12, _ => rfl
  | 13, _ => rfl
  | 14, _ => rfl
  | 15, _ => rfl
  | 16, _ => rfl
  | 17, _ => rfl
  | 18, _ => rfl
  | 19, _ => rfl
  | 20, _ => rfl
  | 21, _ => rfl
  | 22, _ => rfl
  | 23, _ => rfl
  | 24, _ => rfl
  | n + 25, h => exact absurd h (by omega)
theorem colF_congr {x y : Nat → BitVec 64} (h : ∀ i, i < 25 → x i = y i) {i : Nat} (hi : i < 5) : colF x i = colF y i := by
  unfold colF
  rw [h i (by omega), h (i + 5) (by omega), h (i + 10) (by omega), h (i + 15) (by omega), h (i + 20) (by omega)]
theorem thetaF_congr {x y : Nat → BitVec 64} (h : ∀ i, i < 25 → x i = y i) : ∀ i, i < 25 → thetaF x i = thetaF y i := fun i hi => by
  unfold thetaF dF
  rw [h i hi, colF_congr h (Nat.mod_lt _ (by omega)), colF_congr h (Nat.mod_lt _ (by omega))]
theorem rhoF_congr {x y : Nat → BitVec 64} (h : ∀ i, i < 25 → x i = y i) : ∀ i, i < 25 → rhoF x i = rhoF y i := fun i hi => by
  unfold rhoF
  split
  · exact h 0 (by omega)
  · rw [h _ hi]
theorem piF_congr {x y : Nat → BitVec 64} (h : ∀ i, i < 25 → x i = y i) : ∀ i, i < 25 → piF x i = piF y i := fun i hi => by
  unfold piF
  exact h _ (by omega)
theorem chiF_congr {x y : Nat → BitVec 64} (h : ∀ i, i < 25 → x i = y i) : ∀ i, i < 25 → chiF x i = chiF y i := fun i hi => by
  unfold chiF
  rw [h i hi, h _ (by omega), h _ (by omega)]
theorem rndF_congr {x y : Nat → BitVec 64} (c : BitVec 64) (h : ∀ i, i < 25 → x i = y i) : ∀ i, i < 25 → rndF c x i = rndF c y i := fun i hi => by
  have k := chiF_congr (piF_congr (rhoF_congr (thetaF_congr h)))
  unfold rndF
  split
  · rw [k 0 (by omega)]
  · exact k _ hi
theorem sL_L (F : (Nat → BitVec 64) → Nat → BitVec 64) (hF : ∀ {x y : Nat → BitVec 64}, (∀ i, i < 25 → x i = y i) → ∀ i, i < 25 → F x i = F y i) (x : Nat → BitVec 64) : sL F (L x) = L (F x) :=
  L_congr (hF fun i hi => getf_L x i hi)
theorem rndL_L (x : Nat → BitVec 64) (c : SV) : rndL (L x) c = L (rndF (getf [c] 0) x) := by
  unfold rndL
  rw [sL_L _ thetaF_congr, sL_L _ rhoF_congr, sL_L _ piF_congr, sL_L _ chiF_congr]
  rfl
theorem kecL_L (x : Nat → BitVec 64) : kecL (L x) = L (kecF x) := by
  have key : ∀ (cs : List SV) (x : Nat → BitVec 64), cs.foldl rndL (L x) = L ((cs.map fun s => getf [s] 0).foldl (fun x c => rndF c x) x) := by
    intro cs
    induction cs with
    | nil => intro x; rfl
    | cons c r ih =>
      intro x
      rw [List.foldl_cons, rndL_L, ih]
      rfl
  exact key RC x
/-- The statement's own Keccak. -/
theorem keccak_any (x : Nat → BitVec 64) (w : World) : Calls Tryd.prog 29 #[LV x, Ev.gv nob (.agg RC)] w fun e w' => e = .returned (LV (kecF x)) ∧ Below w.heap.size w w' := by
  have h := calls_of_out (cfgS_sound 23) rfl rfl rfl Tryd.func29 body29 Tryd.ntmps29 rfl (vs := [.agg (L x), .agg RC]) (by show 2 ≤ 23; omega) (keccak_out x) lies71 (by rw [kecL_L]; rfl) w
  rw [kecL_L] at h
  exact h
end Go.Proofs.YtjcbphifdapkdaaDoor
