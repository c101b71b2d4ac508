/-
  The program's hash functions as the second evaluator takes them.
-/
import Derived.Test.YtjcbphifdapkdaaDoorVk
import Derived.Test.YtjcbphifdapkdaaDoorImpS
namespace Go.Proofs.YtjcbphifdapkdaaDoor
namespace Vk
open Go.RowKit
open Vc (AV SV Blk)

/-! ### The permutation -/
def rcF (j : Nat) : BitVec 64 := RCN.getD j 0#64
def kro (rest : List (Nat × Vc.Row)) : List (Nat × Vc.Row) := (24, .q 0 rcF) :: rest
/-- The tail of a digest as the first evaluator has it. -/
def tailE : List SV → Option (List Ev.SV)
  | [.i n, .i r, .u8 b, .i o, .i s] => some (tl5 n r b o s)
  | [.i n, .i r, .u8 b, .i o, .i s, .nosl] => some (tl6 n r b o s)
  | _ => none
def E55 (args : List AV) (mem : List Blk) : Option (AV × List Blk × List Prop) := match args with
  | [.sc (.ptr g off)] => match mem[g]? with
    | some (.r8t n d tl) => match tailE tl with
      | some _ => bif Nat.beq n 200 && Nat.beq off 0 then some (.junk, mem.set g (.r8t n (kecD d) tl), []) else none
      | none => none
    | _ => none
  | _ => none
theorem tail_gs {tl : List SV} {te : List Ev.SV} (h : tailE tl = some te) (β : Vc.Env) (β' : Ev.Env) : te.map (Ev.gs β') = tl.map (Vc.gs β) := by
  unfold tailE at h
  split at h <;> (try simp only [Option.some.injEq, reduceCtorEq] at h) <;> subst h <;> rfl
theorem b200_gs (d : Nat → BitVec 8) (β : Vc.Env) (β' : Ev.Env) : (B200 d).map (Ev.gs β') = ((List.range 200).map fun j => SV.u8 (d j)).map (Vc.gs β) := by
  rw [B200_range, List.map_map, List.map_map]
  rfl
theorem E55_ok {rest : List (Nat × Vc.Row)} {args : List AV} {mem mem' : List Blk} {v : AV} {ps : List Prop} (h : E55 args mem = some (v, mem', ps)) (β : Vc.Env) (w : World) (hm : Vc.MemOk β mem w) (hi : Vc.InjOk β mem) (hro : Vc.RoOk β (kro rest) mem.length w) :
    Calls Tryd.prog 55 (args.map (Vc.gv β)).toArray w fun e w' => ∃ β', Vc.After β mem w β' mem' w' ∧ e = .returned (Vc.gv β' v) := by
  unfold E55 at h
  split at h <;> (try simp only [reduceCtorEq] at h)
  rename_i g off
  split at h <;> (try simp only [reduceCtorEq] at h)
  rename_i n d tl hg
  split at h <;> (try simp only [reduceCtorEq] at h)
  rename_i te hte
  cases hb1 : (Nat.beq n 200 && Nat.beq off 0) with
  | false => rw [hb1] at h; cases h
  | true =>
    rw [hb1] at h
    simp only [Bool.and_eq_true] at hb1
    simp only [cond_true, Option.some.injEq, Prod.mk.injEq] at h
    obtain ⟨rfl, rfl, _⟩ := h
    obtain rfl := Nat.eq_of_beq_eq_true hb1.1
    obtain rfl := Nat.eq_of_beq_eq_true hb1.2
    have hlt : g < mem.length := (List.getElem?_eq_some_iff.1 hg).1
    obtain ⟨el, hel⟩ := hm g _ hg
    have cells_ : ∀ (x : Nat → BitVec 8), ((B200 x ++ te).map (Ev.gs ⟨fun _ => β g, fun _ => (0, 0)⟩)) = ((Blk.r8t 200 x tl).list.map (Vc.gs β)) := fun x => by
      rw [List.map_append, b200_gs x β, tail_gs hte β]
      simp only [Blk.list, List.map_append]
    have hm1 : ∀ (x : Nat → BitVec 8) (w1 : World), (∃ e, w1.heap[β g]? = some (.cells ((Blk.r8t 200 x tl).list.map (Vc.gs β)).toArray e (0, 0))) → Ev.MemOk ⟨fun _ => β g, fun _ => (0, 0)⟩ [B200 x ++ te] w1 := fun x w1 ⟨e, he⟩ k ks hk => by
      have e1 := (List.getElem?_eq_some_iff.1 hk).1
      simp at e1
      subst e1
      simp only [List.getElem?_cons_zero, Option.some.injEq] at hk
      subst hk
      exact ⟨e, by rw [cells_]; exact he⟩
    have hro1 : Ev.RoOk ⟨fun _ => β g, fun _ => (0, 0)⟩ [] [(0, RCN)] 1 w := ⟨fun k ks hk => by simp at hk, fun k ks hk => by
      simp only [Ev.glook] at hk
      cases hz : Nat.beq 0 k with
      | false => rw [hz] at hk; cases hk
      | true =>
        rw [hz] at hk
        obtain rfl := Nat.eq_of_beq_eq_true hz
        simp only [cond_true, Option.some.injEq] at hk
        subst hk
        obtain ⟨h1, h2, h3⟩ := hro 0 24 (.q 0 rcF) rfl
        refine ⟨h1, fun _ _ => h2 g hlt, fun j x hx => ?_⟩
        have hj : j < 24 := (List.getElem?_eq_some_iff.1 hx).1
        have := h3 j hj
        simp only [Vc.Row.loc, Nat.zero_add, Vc.Row.val, rcF, List.getD, hx, Option.getD_some] at this
        exact this⟩
    have fin : ∀ (e : Ending) (w' : World), (e = .returned undef ∧ Ev.MemOk ⟨fun _ => β g, fun _ => (0, 0)⟩ [B200 (kecD d) ++ te] w' ∧ Ev.Keep (fun k => k = β g) w w') → ∃ β', Vc.After β mem w β' (mem.set g (.r8t 200 (kecD d) tl)) w' ∧ e = .returned (Vc.gv β' .junk) := by
      rintro e w' ⟨rfl, h1, h2⟩
      refine ⟨β, After.set hm hi hg rfl ?_ h2, rfl⟩
      obtain ⟨e, he⟩ := h1 0 _ rfl
      rw [cells_] at he
      exact ⟨e, he⟩
    unfold tailE at hte
    split at hte <;> (try simp only [Option.some.injEq, reduceCtorEq] at hte)
    · subst hte
      exact (kec_call5 d _ _ _ _ _ (hm1 d w ⟨el, hel⟩) hro1).mono fun e w' h => fin e w' h
    · subst hte
      exact (kec_call6 d _ _ _ _ _ (hm1 d w ⟨el, hel⟩) hro1).mono fun e w' h => fin e w' h

/-! ### The tables -/
noncomputable def h0 (N : Nat) (ch : List (Nat × Bool)) (rest : List (Nat × Vc.Row)) (base : Nat) : Vc.Cfg := Vc.addW (Vc.addW (k0 N ch (kro rest) base) 48 (E48 (kro rest))) 55 E55
theorem h0_sound (N : Nat) (ch : List (Nat × Bool)) (rest : List (Nat × Vc.Row)) (base : Nat) : (h0 N ch rest base).Sound :=
  Vc.addW_sound (Vc.addW_sound (k0_sound N ch (kro rest) base) Tryd.call48 fun _ _ _ _ _ h hp β w hm hi hro => E48_ok h hp β w hm hi hro) Tryd.call55 fun _ _ _ _ _ h _ β w hm hi hro => E55_ok (rest := rest) h β w hm hi hro
noncomputable def h1 (N : Nat) (ch : List (Nat × Bool)) (rest : List (Nat × Vc.Row)) (base : Nat) : Vc.Cfg := Vc.into (Vc.into (h0 N ch rest base) [] 100 31) [] 100 53
noncomputable def h2 (N : Nat) (ch : List (Nat × Bool)) (rest : List (Nat × Vc.Row)) (base : Nat) : Vc.Cfg := Vc.into (h1 N ch rest base) [] 100 49
noncomputable def h3 (N : Nat) (ch : List (Nat × Bool)) (rest : List (Nat × Vc.Row)) (base : Nat) : Vc.Cfg := Vc.into (Vc.into (Vc.into (h2 N ch rest base) [] 1000 43) [] 1000 54) [] 100 50
noncomputable def h4 (N : Nat) (ch : List (Nat × Bool)) (rest : List (Nat × Vc.Row)) (base : Nat) : Vc.Cfg := Vc.into (Vc.into (h3 N ch rest base) [] 1000 51) [] 1000 30
noncomputable def h5 (N : Nat) (ch : List (Nat × Bool)) (rest : List (Nat × Vc.Row)) (base : Nat) : Vc.Cfg := Vc.into (Vc.into (h4 N ch rest base) [] 1000 45) [] 1000 23
noncomputable def h6 (N : Nat) (ch : List (Nat × Bool)) (rest : List (Nat × Vc.Row)) (base : Nat) : Vc.Cfg := Vc.into (Vc.into (Vc.into (h5 N ch rest base) [] 1000 44) [] 1000 35) [] 1000 36
noncomputable def h7 (N : Nat) (ch : List (Nat × Bool)) (rest : List (Nat × Vc.Row)) (base : Nat) : Vc.Cfg := Vc.into (Vc.into (h6 N ch rest base) [] 1000 32) [] 1000 24
theorem h1_sound (N : Nat) (ch : List (Nat × Bool)) (rest : List (Nat × Vc.Row)) (base : Nat) : (h1 N ch rest base).Sound := Vc.into_sound (Vc.into_sound (h0_sound N ch rest base) [] 100 Tryd.call31) [] 100 Tryd.call53
theorem h2_sound (N : Nat) (ch : List (Nat × Bool)) (rest : List (Nat × Vc.Row)) (base : Nat) : (h2 N ch rest base).Sound := Vc.into_sound (h1_sound N ch rest base) [] 100 Tryd.call49
theorem h3_sound (N : Nat) (ch : List (Nat × Bool)) (rest : List (Nat × Vc.Row)) (base : Nat) : (h3 N ch rest base).Sound := Vc.into_sound (Vc.into_sound (Vc.into_sound (h2_sound N ch rest base) [] 1000 Tryd.call43) [] 1000 Tryd.call54) [] 100 Tryd.call50
theorem h4_sound (N : Nat) (ch : List (Nat × Bool)) (rest : List (Nat × Vc.Row)) (base : Nat) : (h4 N ch rest base).Sound := Vc.into_sound (Vc.into_sound (h3_sound N ch rest base) [] 1000 Tryd.call51) [] 1000 Tryd.call30
theorem h5_sound (N : Nat) (ch : List (Nat × Bool)) (rest : List (Nat × Vc.Row)) (base : Nat) : (h5 N ch rest base).Sound := Vc.into_sound (Vc.into_sound (h4_sound N ch rest base) [] 1000 Tryd.call45) [] 1000 Tryd.call23
theorem h6_sound (N : Nat) (ch : List (Nat × Bool)) (rest : List (Nat × Vc.Row)) (base : Nat) : (h6 N ch rest base).Sound := Vc.into_sound (Vc.into_sound (Vc.into_sound (h5_sound N ch rest base) [] 1000 Tryd.call44) [] 1000 Tryd.call35) [] 1000 Tryd.call36
theorem h7_sound (N : Nat) (ch : List (Nat × Bool)) (rest : List (Nat × Vc.Row)) (base : Nat) : (h7 N ch rest base).Sound := Vc.into_sound (Vc.into_sound (h6_sound N ch rest base) [] 1000 Tryd.call32) [] 1000 Tryd.call24
end Vk
end Go.Proofs.YtjcbphifdapkdaaDoor
