/-
  The program's own Keccak permutation as the evaluator takes it, and the functions round it.
-/
import Derived.Test.YtjcbphifdapkdaaDoorImpF
namespace Go.Proofs.YtjcbphifdapkdaaDoor
open Go.RowKit
open Ev (AV SV)

/-- The byte at a place of a list. -/
def getb (cs : List SV) (i : Nat) : BitVec 8 := match cs[i]? with
  | some (.u8 b) => b
  | _ => 0#8
def allB : Nat → List SV → Bool
  | 0, _ => true
  | n + 1, .u8 _ :: r => allB n r
  | _, _ => false
def tailOk : List SV → Bool
  | [.i _, .i _, .u8 _, .i _, .i _] => true
  | [.i _, .i _, .u8 _, .i _, .i _, .nosl] => true
  | _ => false
/-- What the permutation does to a block that begins with 200 bytes. -/
def wfI : FuncId → List AV → List (List SV) → Option (AV × List (List SV))
  | 55, [.sc (.ptr g 0)], mem => match mem[g]? with
    | some cs => bif allB 200 cs && tailOk (cs.drop 200) then some (.junk, mem.set g (B200 (kecD (getb cs)) ++ cs.drop 200)) else none
    | none => none
  | _, _, _ => none

theorem allB_at : ∀ {n : Nat} {cs : List SV}, allB n cs = true → ∀ {j : Nat}, j < n → ∃ b, cs[j]? = some (.u8 b)
  | n + 1, .u8 b :: r, h, 0, _ => ⟨b, rfl⟩
  | n + 1, .u8 b :: r, h, j + 1, hj => by
    obtain ⟨b', hb'⟩ := allB_at (n := n) (cs := r) h (j := j) (by omega)
    exact ⟨b', by simpa using hb'⟩
theorem allB_take {n : Nat} {cs : List SV} (h : allB n cs = true) : cs.take n = (List.range n).map (fun i => .u8 (getb cs i)) := by
  apply List.ext_getElem?
  intro j
  by_cases hj : j < n
  · obtain ⟨b, hb⟩ := allB_at h hj
    rw [List.getElem?_take_of_lt hj, hb]
    simp [hj, getb, hb]
  · rw [List.getElem?_eq_none (by simp; omega), List.getElem?_eq_none (by simp; omega)]
set_option maxRecDepth 100000 in
theorem B200_range (d : Nat → BitVec 8) : B200 d = (List.range 200).map (fun i => .u8 (d i)) := by kernel_rfl
set_option maxRecDepth 100000 in
theorem B200_sc (d : Nat → BitVec 8) : (B200 d).all (Ev.scS 0) = true := by kernel_rfl
theorem allB_200 {cs : List SV} (h : allB 200 cs = true) : cs = B200 (getb cs) ++ cs.drop 200 := by
  rw [B200_range, ← allB_take h, List.take_append_drop]
theorem tailOk_form {tl : List SV} (h : tailOk tl = true) : ∃ n r b o s, tl = tl5 n r b o s ∨ tl = tl6 n r b o s := by
  unfold tailOk at h
  split at h
  · exact ⟨_, _, _, _, _, .inl rfl⟩
  · exact ⟨_, _, _, _, _, .inr rfl⟩
  · cases h

noncomputable def cfgI (n : Nat) (ro : List (List (BitVec 8))) : Ev.Cfg := ⟨Tryd.prog, n, [(0, RCN)], fun _ _ _ => none, wfI, ro⟩
theorem kec_sound {g : Nat} {cs : List SV} {mem : List (List SV)} {β : Ev.Env} {w : World} {ro : List (List (BitVec 8))} (hg : mem[g]? = some cs) (hb : allB 200 cs = true) (ht : tailOk (cs.drop 200) = true)
    (hm : Ev.MemOk β mem w) (hi : ∀ g g', g < mem.length → g' < mem.length → β g = β g' → g = g') (hro : Ev.RoOk β ro [(0, RCN)] mem.length w) :
    Calls Tryd.prog 55 ([AV.sc (.ptr g 0)].map (Ev.gv β)).toArray w fun e w' => ∃ β', Ev.After β mem w β' (mem.set g (B200 (kecD (getb cs)) ++ cs.drop 200)) w' ∧ e = .returned (Ev.gv β' .junk) := by
  have hlt : g < mem.length := (List.getElem?_eq_some_iff.1 hg).1
  have hsc : ∀ d, (B200 d ++ cs.drop 200).all (Ev.scS 0) = true := fun d => by
    rw [List.all_append, B200_sc]
    obtain ⟨n, r, b, o, s, h | h⟩ := tailOk_form ht <;> rw [h] <;> rfl
  have hcs := allB_200 hb
  have e1 : ∀ (xs : List SV), xs.all (Ev.scS 0) = true → xs.map (Ev.gs ⟨fun _ => β g, β.r⟩) = xs.map (Ev.gs β) := fun xs hx => Ev.gss_same (β := β) (β' := ⟨fun _ => β g, β.r⟩) (n := 0) (fun _ h => absurd h (Nat.not_lt_zero _)) rfl hx
  have hm1 : Ev.MemOk ⟨fun _ => β g, β.r⟩ [B200 (getb cs) ++ cs.drop 200] w := fun k ks hk => by
    have hk0 : k = 0 := by
      have := (List.getElem?_eq_some_iff.1 hk).1
      simp at this
      exact this
    subst hk0
    simp only [List.getElem?_cons_zero, Option.some.injEq] at hk
    subst hk
    rw [e1 _ (hsc _), ← hcs]
    exact hm g cs hg
  have hro1 : Ev.RoOk ⟨fun _ => β g, β.r⟩ [] [(0, RCN)] 1 w := ⟨fun k ks hk => by simp at hk, fun k ks hk => by
    obtain ⟨h1, h2, h3⟩ := hro.2 k ks hk
    exact ⟨h1, fun _ _ => h2 g hlt, h3⟩⟩
  have fin : ∀ (e : Ending) (w' : World), (e = .returned undef ∧ Ev.MemOk ⟨fun _ => β g, β.r⟩ [B200 (kecD (getb cs)) ++ cs.drop 200] w' ∧ Ev.Keep (fun k => k = β g) w w') → ∃ β', Ev.After β mem w β' (mem.set g (B200 (kecD (getb cs)) ++ cs.drop 200)) w' ∧ e = .returned (Ev.gv β' .junk) := by
    rintro e w' ⟨rfl, h1, h2⟩
    refine ⟨β, Ev.After.same hi (fun k ks hk => ?_) (by simp) (h2.mono fun k _ hk => ⟨g, hlt, hk.symm⟩), rfl⟩
    by_cases hkg : k = g
    · subst hkg
      rw [List.getElem?_set_self hlt] at hk
      simp only [Option.some.injEq] at hk
      subst hk
      have := h1 0 _ rfl
      rwa [e1 _ (hsc _)] at this
    · rw [List.getElem?_set_ne (Ne.symm hkg)] at hk
      obtain ⟨el, hel⟩ := hm k ks hk
      refine ⟨el, ?_⟩
      rw [h2.block (β k) (Array.getElem?_eq_some_iff.1 hel).1 (fun e => hkg (hi k g (List.getElem?_eq_some_iff.1 hk).1 hlt e))]
      exact hel
  obtain ⟨n, r, b, o, s, h | h⟩ := tailOk_form ht
  · rw [h] at hm1 fin ⊢
    exact (kec_call5 (getb cs) n r b o s hm1 hro1).mono fun e w' h => fin e w' h
  · rw [h] at hm1 fin ⊢
    exact (kec_call6 (getb cs) n r b o s hm1 hro1).mono fun e w' h => fin e w' h

theorem cfgI_sound (n : Nat) (ro : List (List (BitVec 8))) : (cfgI n ro).Sound := by
  refine ⟨follows, fun _ _ _ _ h => (by cases h), fun _ _ _ _ h => (by cases h), ?_, ?_⟩
  · intro f args mem v h xs w
    have h' : wfI f args mem = some v := h
    unfold wfI at h'
    split at h' <;> (try simp only [reduceCtorEq] at h')
    exact Tryd.call55 xs w
  · intro f args mem v mem' h β w hm hi hro
    have h' : wfI f args mem = some (v, mem') := h
    unfold wfI at h'
    split at h' <;> (try simp only [reduceCtorEq] at h')
    rename_i g
    split at h' <;> (try simp only [reduceCtorEq] at h')
    rename_i cs hcs
    cases hb : (allB 200 cs && tailOk (cs.drop 200)) with
    | false => rw [hb] at h'; cases h'
    | true =>
      rw [hb] at h'
      simp only [Bool.and_eq_true] at hb
      simp only [cond_true, Option.some.injEq, Prod.mk.injEq] at h'
      obtain ⟨rfl, rfl⟩ := h'
      exact kec_sound hcs hb.1 hb.2 hm hi hro

/-! ### The functions round it, one within the other -/
noncomputable def l1 (n : Nat) (ro : List (List (BitVec 8))) : Ev.Cfg := Ev.lift (cfgI n ro) [31, 52, 53] 100
noncomputable def l2 (n : Nat) (ro : List (List (BitVec 8))) : Ev.Cfg := Ev.lift (l1 n ro) [48, 49, 50] 1000
noncomputable def l3 (n : Nat) (ro : List (List (BitVec 8))) : Ev.Cfg := Ev.lift (l2 n ro) [43, 54] 1000
noncomputable def l4 (n : Nat) (ro : List (List (BitVec 8))) : Ev.Cfg := Ev.lift (l3 n ro) [51, 30] 1000
noncomputable def l5 (n : Nat) (ro : List (List (BitVec 8))) : Ev.Cfg := Ev.lift (l4 n ro) [45, 23] 1000
noncomputable def l6 (n : Nat) (ro : List (List (BitVec 8))) : Ev.Cfg := Ev.lift (l5 n ro) [44, 35, 36] 1000
noncomputable def l7 (n : Nat) (ro : List (List (BitVec 8))) : Ev.Cfg := Ev.lift (l6 n ro) [32] 1000
theorem l1_sound (n : Nat) (ro : List (List (BitVec 8))) : (l1 n ro).Sound := Ev.lift_sound (cfgI_sound n ro) _ _ fun f hf xs w => by
  have : f = 31 ∨ f = 52 ∨ f = 53 := by simpa using hf
  rcases this with rfl | rfl | rfl
  · exact Tryd.call31 xs w
  · exact Tryd.call52 xs w
  · exact Tryd.call53 xs w
theorem l2_sound (n : Nat) (ro : List (List (BitVec 8))) : (l2 n ro).Sound := Ev.lift_sound (l1_sound n ro) _ _ fun f hf xs w => by
  have : f = 48 ∨ f = 49 ∨ f = 50 := by simpa using hf
  rcases this with rfl | rfl | rfl
  · exact Tryd.call48 xs w
  · exact Tryd.call49 xs w
  · exact Tryd.call50 xs w
theorem l3_sound (n : Nat) (ro : List (List (BitVec 8))) : (l3 n ro).Sound := Ev.lift_sound (l2_sound n ro) _ _ fun f hf xs w => by
  have : f = 43 ∨ f = 54 := by simpa using hf
  rcases this with rfl | rfl
  · exact Tryd.call43 xs w
  · exact Tryd.call54 xs w
theorem l4_sound (n : Nat) (ro : List (List (BitVec 8))) : (l4 n ro).Sound := Ev.lift_sound (l3_sound n ro) _ _ fun f hf xs w => by
  have : f = 51 ∨ f = 30 := by simpa using hf
  rcases this with rfl | rfl
  · exact Tryd.call51 xs w
  · exact Tryd.call30 xs w
theorem l5_sound (n : Nat) (ro : List (List (BitVec 8))) : (l5 n ro).Sound := Ev.lift_sound (l4_sound n ro) _ _ fun f hf xs w => by
  have : f = 45 ∨ f = 23 := by simpa using hf
  rcases this with rfl | rfl
  · exact Tryd.call45 xs w
  · exact Tryd.call23 xs w
theorem l6_sound (n : Nat) (ro : List (List (BitVec 8))) : (l6 n ro).Sound := Ev.lift_sound (l5_sound n ro) _ _ fun f hf xs w => by
  have : f = 44 ∨ f = 35 ∨ f = 36 := by simpa using hf
  rcases this with rfl | rfl | rfl
  · exact Tryd.call44 xs w
  · exact Tryd.call35 xs w
  · exact Tryd.call36 xs w
theorem l7_sound (n : Nat) (ro : List (List (BitVec 8))) : (l7 n ro).Sound := Ev.lift_sound (l6_sound n ro) _ _ fun f hf xs w => by
  obtain rfl : f = 32 := by simpa using hf
  exact Tryd.call32 xs w
end Go.Proofs.YtjcbphifdapkdaaDoor
