/-
  The statement's own sampling: entries of the tables; which keys end.
-/
import Derived.Test.YtjcbphifdapkdaaDoorVp
import Derived.Test.YtjcbphifdapkdaaDoorWb
namespace Go.Proofs.YtjcbphifdapkdaaDoor
namespace Vk
open Go.RowKit
open Vc (AV SV Blk)
noncomputable def E20 (ro : List (Nat × Vc.Row)) (args : List AV) (mem : List Blk) : Option (AV × List Blk × List Prop) := match args with
  | [.sc (.i r), .sc y, .sc (.u8 b), .sc (.x m)] => match Vc.srcOf (ks 0 [] ro 0) ⟨[], mem⟩ y with
    | some (n, s, ps) => bif decide (r = 168) && Nat.beq n 34 && decide (b = 31#8) && mem.all (Vc.scB mem.length) then some (.sc (.own mem.length m.toNat), mem ++ [.own m.toNat (outN (padX s) m.toNat)], (∃ M : Nat, M ≤ 100 ∧ m = ((168 * M : Nat) : Int)) :: ps) else none
    | none => none
  | _ => none
theorem E20_ok {ro : List (Nat × Vc.Row)} {args : List AV} {mem mem' : List Blk} {v : AV} {ps : List Prop} (h : E20 ro args mem = some (v, mem', ps)) (hp : Vc.All ps) (β : Vc.Env) (w : World) (hm : Vc.MemOk β mem w) (hi : Vc.InjOk β mem) (hro : Vc.RoOk β ro mem.length w) :
    Calls Tryd.prog 20 (args.map (Vc.gv β)).toArray w fun e w' => ∃ β', Vc.After β mem w β' mem' w' ∧ e = .returned (Vc.gv β' v) := by
  unfold E20 at h
  split at h <;> (try simp only [reduceCtorEq] at h)
  rename_i r y b m
  split at h <;> (try simp only [reduceCtorEq] at h)
  rename_i n s qs hsrc
  cases hb1 : (decide (r = 168) && Nat.beq n 34 && decide (b = 31#8) && mem.all (Vc.scB mem.length)) with
  | false => rw [hb1] at h; cases h
  | true =>
    rw [hb1] at h
    simp only [Bool.and_eq_true, decide_eq_true_eq] at hb1
    obtain ⟨⟨⟨rfl, b2⟩, rfl⟩, b4⟩ := hb1
    simp only [cond_true, Option.some.injEq, Prod.mk.injEq] at h
    obtain ⟨rfl, rfl, rfl⟩ := h
    obtain ⟨⟨M, hM, rfl⟩, hp⟩ := hp
    obtain rfl := Nat.eq_of_beq_eq_true b2
    obtain ⟨kb, ko, cap, h1, h2, h3, h4⟩ := src_row (c := ks 0 [] ro 0) (s := ⟨[], mem⟩) hm hi hro hsrc hp (by omega)
    have hx := sponge_calls (s := s) (β := ⟨β.b, fun _ => (kb, ko), β.c⟩) (w := w) (fun k mm f hk => by
        match k, hk with
        | 0, hk =>
          cases hk
          exact ⟨h2, fun _ h0 => absurd h0 (Nat.not_lt_zero _), fun j hj => h4 j hj⟩
        | k + 1, hk => simp at hk) cap M hM
    have ea : (([.sc (.i 168), .sc y, .sc (.u8 31#8), .sc (.x ((168 * M : Nat) : Int))] : List AV).map (Vc.gv β)) = (([.sc (.i 168), .sc (.rsl 0 0 34 cap), .sc (.u8 31), .sc (.x ((168 * M : Nat) : Int))] : List AV).map (Vc.gv ⟨β.b, fun _ => (kb, ko), β.c⟩)) := by
      simp only [List.map_cons, List.map_nil, Vc.gv, h1]
      simp [Vc.gs]
    rw [ea]
    refine hx.mono ?_
    rintro e w' ⟨hb, k, cp, hk, hb2, rfl⟩
    refine ⟨Vc.more β mem.length k cp, After.new hm hi b4 hk (by rw [Int.toNat_natCast]; exact hb2 _) hb, ?_⟩
    simp [Vc.gv, Vc.gs, Vc.more]
    omega
noncomputable def E15 (ro : List (Nat × Vc.Row)) (r : Bool) (args : List AV) (mem : List Blk) : Option (AV × List Blk × List Prop) := match args with
  | [.sc y] => match Vc.srcOf (ks 0 [] ro 0) ⟨[], mem⟩ y with
    | some (n, T, ps) => some (.tupb (.ri 256 (foldI T (n / 3)).1) (.bool r), mem, (∃ N : Nat, 0 < N ∧ N ≤ 100000 ∧ n = 3 * N) :: (decide ((foldI T (n / 3)).2 = 256) = r) :: ps)
    | none => none
  | _ => none
theorem E15_ok {ro : List (Nat × Vc.Row)} {r : Bool} {args : List AV} {mem mem' : List Blk} {v : AV} {ps : List Prop} (h : E15 ro r args mem = some (v, mem', ps)) (hp : Vc.All ps) (β : Vc.Env) (w : World) (hm : Vc.MemOk β mem w) (hi : Vc.InjOk β mem) (hro : Vc.RoOk β ro mem.length w) :
    Calls Tryd.prog 15 (args.map (Vc.gv β)).toArray w fun e w' => ∃ β', Vc.After β mem w β' mem' w' ∧ e = .returned (Vc.gv β' v) := by
  unfold E15 at h
  split at h <;> (try simp only [reduceCtorEq] at h)
  rename_i y
  split at h <;> (try simp only [reduceCtorEq] at h)
  rename_i n T qs hsrc
  simp only [Option.some.injEq, Prod.mk.injEq] at h
  obtain ⟨rfl, rfl, rfl⟩ := h
  obtain ⟨⟨N, hN0, hN, rfl⟩, hr, hp⟩ := hp
  obtain ⟨kb, ko, cap, h1, h2, h3, h4⟩ := src_row (c := ks 0 [] ro 0) (s := ⟨[], mem⟩) hm hi hro hsrc hp (by omega)
  have hx := sampled_calls (N := N) (C := cap) (T := T) (β := ⟨β.b, fun _ => (kb, ko), β.c⟩) (w := w) hN (fun k mm f hk => by
      match k, hk with
      | 0, hk =>
        cases hk
        exact ⟨h2, fun _ h0 => absurd h0 (Nat.not_lt_zero _), fun j hj => h4 j hj⟩
      | k + 1, hk => simp at hk)
  have e3 : 3 * N / 3 = N := by omega
  rw [e3] at hr ⊢
  have ea : (([.sc y] : List AV).map (Vc.gv β)) = (([.sc (.rsl 0 0 (3 * N) cap)] : List AV).map (Vc.gv ⟨β.b, fun _ => (kb, ko), β.c⟩)) := by
    simp only [List.map_cons, List.map_nil, Vc.gv, h1]
    simp [Vc.gs]
  rw [ea]
  refine hx.mono ?_
  rintro e w' ⟨hb, rfl⟩
  refine ⟨β, after_below hm hi hb, ?_⟩
  rw [hr]
  simp only [Vc.gv, gs_ri _ _ ⟨β.b, fun _ => (kb, ko), β.c⟩ β]
  rfl
noncomputable def r9 (N : Nat) (ch : List (Nat × Bool)) (ro : List (Nat × Vc.Row)) (r : Bool) : Vc.Cfg := Vc.addW (Vc.into (Vc.addW (ks N ch ro 0) 20 (E20 ro)) [] 100 16) 15 (E15 ro r)
theorem r9_sound (N : Nat) (ch : List (Nat × Bool)) (ro : List (Nat × Vc.Row)) (r : Bool) : (r9 N ch ro r).Sound :=
  Vc.addW_sound (Vc.into_sound (Vc.addW_sound (ks_sound N ch ro 0) Tryd.call20 fun _ _ _ _ _ h hp β w hm hi hro => E20_ok h hp β w hm hi hro) [] 100 Tryd.call16) Tryd.call15 fun _ _ _ _ _ h hp β w hm hi hro => E15_ok h hp β w hm hi hro
noncomputable def nnLoop : Code := inP (inP (dropP 1 (headP (dropP 1 (codeOf 9)))))
/-- The stream of a seed; whether so many blocks are enough; the numbers. -/
def strN (T : Nat → BitVec 8) (M : Nat) : Nat → BitVec 8 := outN (padX fun j => T (0 + j)) (168 * ((M : Nat) : Int)).toNat
def gotR (T : Nat → BitVec 8) (M : Nat) : Bool := decide ((foldI (strN T M) ((168 * ((M : Nat) : Int)).toNat / 3)).2 = 256)
def sawN (T : Nat → BitVec 8) : Nat → Nat → Bool
  | 0, _ => false
  | r + 1, M => gotR T M || sawN T r (M + 1)
def resN (T : Nat → BitVec 8) : Nat → Nat → (Nat → Int)
  | 0, _ => fun _ => 0
  | r + 1, M => bif gotR T M then (foldI (strN T M) ((168 * ((M : Nat) : Int)).toNat / 3)).1 else resN T r (M + 1)
section
variable (C : Nat) (T : Nat → BitVec 8) (M : Nat)
def nf (C : Nat) (m : Int) : List (Nat × AV) := [(0, .sc (.rsl 0 0 34 C)), (2, .sc (.ptr 0 0)), (3, .sc (.bool false)), (4, .sc (.x m))]
set_option maxRecDepth 100000 in
theorem nn_pre : (Vc.evM (r9 22 [] [(34, .b T)] true) 22 100 1 (codeOf 9) ⟨Vc.args0 0 [.sc (.rsl 0 0 34 C)], []⟩).map (outMk [0, 2, 3] 3) = some ([(0, .sc (.rsl 0 0 34 C)), (2, .sc (.ptr 0 0)), (3, .sc (.bool false))], [.cells zI], []) := by kernel_rfl
set_option maxRecDepth 100000 in
theorem nn_init : (Vc.evC (r9 22 [] [(34, .b T)] true) 22 100 (headP (headP (dropP 1 (codeOf 9)))) ⟨[(0, .sc (.rsl 0 0 34 C)), (2, .sc (.ptr 0 0)), (3, .sc (.bool false))], [.ri 256 (fun _ => 0)]⟩).map (outk [0, 2, 3, 4] 3) = some (.normal, [(0, .sc (.rsl 0 0 34 C)), (2, .sc (.ptr 0 0)), (3, .sc (.bool false)), (4, .sc (.i 5))], [.ri 256 (fun _ => 0)], []) := by kernel_rfl
set_option maxRecDepth 100000 in
theorem nn_yes : (Vc.evC (r9 22 [(8, true)] [(34, .b T)] true) 22 100 nnLoop ⟨nf C ((M : Nat) : Int), [.ri 256 (fun _ => 0)]⟩).map (outk [2, 3] 1) =
    some (.ret, [(2, .sc (.ptr 0 0)), (3, .sc (.bool true))], [.ri 256 (foldI (strN T M) ((168 * ((M : Nat) : Int)).toNat / 3)).1], [decide (((M : Nat) : Int) ≤ 16) = true, Vc.lo64 ≤ 168 * ((M : Nat) : Int), 168 * ((M : Nat) : Int) ≤ Vc.hi64, ∃ K : Nat, K ≤ 100 ∧ 168 * ((M : Nat) : Int) = ((168 * K : Nat) : Int), 0 + 34 ≤ 34,
      ∃ N : Nat, 0 < N ∧ N ≤ 100000 ∧ (168 * ((M : Nat) : Int)).toNat = 3 * N, gotR T M = true, (168 * ((M : Nat) : Int)).toNat ≤ (168 * ((M : Nat) : Int)).toNat]) := by kernel_rfl
set_option maxRecDepth 100000 in
theorem nn_no : (Vc.evC (r9 22 [(8, true)] [(34, .b T)] false) 22 100 nnLoop ⟨nf C ((M : Nat) : Int), [.ri 256 (fun _ => 0)]⟩).map (outk [0, 2, 3, 4] 1) =
    some (.normal, nf C (((M : Nat) : Int) + 1), [.ri 256 (fun _ => 0)], [decide (((M : Nat) : Int) ≤ 16) = true, Vc.lo64 ≤ 168 * ((M : Nat) : Int), 168 * ((M : Nat) : Int) ≤ Vc.hi64, ∃ K : Nat, K ≤ 100 ∧ 168 * ((M : Nat) : Int) = ((168 * K : Nat) : Int), 0 + 34 ≤ 34,
      ∃ N : Nat, 0 < N ∧ N ≤ 100000 ∧ (168 * ((M : Nat) : Int)).toNat = 3 * N, gotR T M = false, (168 * ((M : Nat) : Int)).toNat ≤ (168 * ((M : Nat) : Int)).toNat, Vc.lo64 ≤ ((M : Nat) : Int) + 1, ((M : Nat) : Int) + 1 ≤ Vc.hi64]) := by kernel_rfl
set_option maxRecDepth 100000 in
theorem nn_stop (m : Int) : (Vc.evC (r9 22 [(8, false)] [(34, .b T)] true) 22 100 nnLoop ⟨nf C m, [.ri 256 (fun _ => 0)]⟩).map (outk [0, 2, 3, 4] 1) = some (.out 0, nf C m, [.ri 256 (fun _ => 0)], [decide (m ≤ 16) = false]) := by kernel_rfl
set_option maxRecDepth 100000 in
theorem nn_end (m : Int) : (Vc.evC (r9 22 [] [(34, .b T)] true) 22 100 (dropP 2 (codeOf 9)) ⟨nf C m, [.ri 256 (fun _ => 0)]⟩).map (outk [2, 3] 1) = some (.ret, [(2, .sc (.ptr 0 0)), (3, .sc (.bool false))], [.cells zI], []) := by kernel_rfl
theorem nn_rest : dropP 1 (codeOf 9) = .seq (.seq (headP (headP (dropP 1 (codeOf 9)))) (.block 0 (.loop nnLoop))) (dropP 2 (codeOf 9)) := by kernel_rfl
set_option maxRecDepth 100000 in
theorem nn_res (ro : List (Nat × Vc.Row)) (f : Nat → Int) (r : Bool) : Vc.result (r9 22 [] ro true) Tryd.f9 ⟨[(2, .sc (.ptr 0 0)), (3, .sc (.bool r))], [.ri 256 f]⟩ = some (.tupb (.ri 256 f) (.bool r)) := by kernel_rfl
end
section
variable {C : Nat} {T : Nat → BitVec 8} {β0 : Vc.Env} {w0 : World} {Q : Exit → Act → World → Prop}
theorem r9_rel {N : Nat} {ch : List (Nat × Bool)} {ro : List (Nat × Vc.Row)} {r r' : Bool} {D : List Deferred} {n0 : Nat} {β0 β : Vc.Env} {w0 w : World} {s : Vc.St} {a : Act} (h : Vc.Rel (r9 N ch ro r) D n0 β0 w0 β s a w) : Vc.Rel (r9 N [] ro r') D n0 β0 w0 β s a w :=
  ⟨h.size, h.defers, h.fr, h.mem, h.inj, h.lo, h.old, h.oldc, h.row, h.bs, h.ro, h.new, h.keep⟩
theorem nn_loop : ∀ (r M : Nat), M + r = 17 → 5 ≤ M → ∀ (β : Vc.Env) (a : Act) (w : World), Vc.Rel (r9 22 [] [(34, .b T)] true) [] 0 β0 w0 β ⟨nf C ((M : Nat) : Int), [.ri 256 (fun _ => 0)]⟩ a w →
    (∀ β' a' w', sawN T r M = true → Vc.Rel (r9 22 [] [(34, .b T)] true) [] 0 β0 w0 β' ⟨[(2, .sc (.ptr 0 0)), (3, .sc (.bool true))], [.ri 256 (resN T r M)]⟩ a' w' → Q .ret a' w') →
    (∀ β' a' w', sawN T r M = false → Vc.Rel (r9 22 [] [(34, .b T)] true) [] 0 β0 w0 β' ⟨nf C ((17 : Nat) : Int), [.ri 256 (fun _ => 0)]⟩ a' w' → Q (.exit 0) a' w') → Code.rounds Tryd.prog nnLoop Q (r + 1) a w
  | 0, M, hM, h5, β, a, w, hr, hY, hN => by
    obtain rfl : M = 17 := by omega
    rw [rounds_succ]
    refine go (r9_sound 22 [(8, false)] _ true) (nn_stop C T ((17 : Nat) : Int)) ?_ hr rfl rfl rfl rfl (Nat.zero_le _) fun β' a' w' hr' => hN β' a' w' rfl hr'
    simp [Vc.All]
  | r + 1, M, hM, h5, β, a, w, hr, hY, hN => by
    rw [rounds_succ]
    cases hg : gotR T M with
    | true =>
      refine go (r9_sound 22 [(8, true)] _ true) (nn_yes C T M) ?_ hr rfl rfl rfl rfl (Nat.zero_le _) fun β' a' w' hr' => hY β' a' w' (by simp [sawN, hg]) ?_
      · refine ⟨by simp; omega, by simp only [Vc.lo64]; omega, by simp only [Vc.hi64]; omega, ⟨M, by omega, by omega⟩, by omega, ⟨56 * M, by omega, by omega, by omega⟩, hg, Nat.le_refl _, trivial⟩
      · rw [resN, hg]
        exact hr'
    | false =>
      refine go (r9_sound 22 [(8, true)] _ false) (nn_no C T M) ?_ hr rfl rfl rfl rfl (Nat.zero_le _) fun β' a' w' hr' => ?_
      · refine ⟨by simp; omega, by simp only [Vc.lo64]; omega, by simp only [Vc.hi64]; omega, ⟨M, by omega, by omega⟩, by omega, ⟨56 * M, by omega, by omega, by omega⟩, hg, Nat.le_refl _, by simp only [Vc.lo64]; omega, by simp only [Vc.hi64]; omega, trivial⟩
      · have e1 : ((M : Nat) : Int) + 1 = ((M + 1 : Nat) : Int) := by omega
        rw [e1] at hr'
        have e2 : sawN T (r + 1) M = sawN T r (M + 1) := by simp [sawN, hg]
        have e3 : resN T (r + 1) M = resN T r (M + 1) := by rw [resN, hg]; rfl
        rw [e2, e3] at hY
        rw [e2] at hN
        exact nn_loop r (M + 1) (by omega) (by omega) β' a' w' (r9_rel (ch := []) hr') hY hN
end
theorem resN_no {T : Nat → BitVec 8} : ∀ {r M : Nat}, sawN T r M = false → resN T r M = fun _ => 0
  | 0, _, _ => rfl
  | r + 1, M, h => by
    simp only [sawN, Bool.or_eq_false_iff] at h
    rw [resN, h.1]
    exact resN_no h.2
theorem nine_calls {C : Nat} {T : Nat → BitVec 8} {β : Vc.Env} {w : World} (hro : Vc.RoOk β [(34, .b T)] 0 w) :
    Calls Tryd.prog 9 (([.sc (.rsl 0 0 34 C)] : List AV).map (Vc.gv β)).toArray w fun e w' => Below w.heap.size w w' ∧ e = .returned (Vc.gv β (.tupb (.ri 256 (resN T 12 5)) (.bool (sawN T 12 5)))) := by
  have hs := Vc.Rel.start (c := r9 22 [] [(34, .b T)] true) (vs := [.sc (.rsl 0 0 34 C)]) (mem := []) (β := β) (w := w) (by show 1 ≤ 22; omega) (fun g b h => by simp at h) (fun g g' b b' h => by simp at h) hro (Nat.le_refl 0)
  refine calls_of_wp (c := codeOf 9) Tryd.func9 (by kernel_rfl) ?_
  refine goM (r9_sound 22 [] _ true) (nn_pre C T) trivial hs rfl rfl rfl rfl (Nat.zero_le _) fun β1 a1 w1 hr1 => ?_
  have hr1' := hr1.reblk (g := 0) (b' := .ri 256 (fun _ => 0)) rfl rfl rfl zI_row
  rw [nn_rest]
  refine wp_seq (wp_seq (go (r9_sound 22 [] _ true) (nn_init C T) trivial hr1' rfl rfl rfl rfl (Nat.zero_le _) fun β2 a2 w2 hr2 => ?_))
  have hr2' := loose (pre := [_, _, _]) (post := []) hr2
  refine wp_block (wp_loop_rounds 13 (nn_loop 12 5 rfl (Nat.le_refl _) β2 a2 w2 hr2' (fun β3 a3 w3 hS hr3 => ?_) fun β3 a3 w3 hS hr3 => ?_))
  · refine ⟨hr3.defers, _, Vc.result_ok hr3 (nn_res _ _ _), below_keep0 hr3.keep, ?_⟩
    rw [hS]
    simp only [Vc.gv, gs_ri _ _ β3 β]
    rfl
  · simp only [Exit.inBlock, if_true]
    refine go (r9_sound 22 [] _ true) (nn_end C T ((17 : Nat) : Int)) trivial hr3 rfl rfl rfl rfl (Nat.zero_le _) fun β4 a4 w4 hr4 => ?_
    have hr4' := hr4.reblk (g := 0) (b' := .ri 256 (fun _ => 0)) rfl rfl rfl zI_row
    have hz : resN T 12 5 = fun _ => 0 := resN_no hS
    refine ⟨hr4'.defers, _, Vc.result_ok hr4' (nn_res _ _ _), below_keep0 hr4'.keep, ?_⟩
    rw [hS, hz]
    simp only [Vc.gv, gs_ri _ _ β4 β]
    rfl
/-- What is asked of a seed, as one thing that is not looked into. -/
structure Seen (T : Nat → BitVec 8) (b : Bool) : Prop where
  is : sawN T 12 5 = b
/-- The entry: up to so many blocks the seeds end. -/
noncomputable def E9 (ro : List (Nat × Vc.Row)) (bad : Nat) (args : List AV) (mem : List Blk) : Option (AV × List Blk × List Prop) := match args with
  | [.sc y] => match Vc.srcOf (ks 0 [] ro 0) ⟨[], mem⟩ y with
    | some (n, T, ps) => bif Nat.beq n 34 then some (.tupb (.ri 256 (resN T 12 5)) (.bool (Nat.blt mem.length bad)), mem, Seen T (Nat.blt mem.length bad) :: ps) else none
    | none => none
  | _ => none
theorem E9_ok {ro : List (Nat × Vc.Row)} {bad : Nat} {args : List AV} {mem mem' : List Blk} {v : AV} {ps : List Prop} (h : E9 ro bad args mem = some (v, mem', ps)) (hp : Vc.All ps) (β : Vc.Env) (w : World) (hm : Vc.MemOk β mem w) (hi : Vc.InjOk β mem) (hro : Vc.RoOk β ro mem.length w) :
    Calls Tryd.prog 9 (args.map (Vc.gv β)).toArray w fun e w' => ∃ β', Vc.After β mem w β' mem' w' ∧ e = .returned (Vc.gv β' v) := by
  unfold E9 at h
  split at h <;> (try simp only [reduceCtorEq] at h)
  rename_i y
  split at h <;> (try simp only [reduceCtorEq] at h)
  rename_i n T qs hsrc
  cases hb1 : Nat.beq n 34 with
  | false => rw [hb1] at h; cases h
  | true =>
  rw [hb1] at h
  obtain rfl := Nat.eq_of_beq_eq_true hb1
  simp only [cond_true, Option.some.injEq, Prod.mk.injEq] at h
  obtain ⟨rfl, rfl, rfl⟩ := h
  obtain ⟨⟨hr⟩, hp⟩ := hp
  obtain ⟨kb, ko, cap, h1, h2, h3, h4⟩ := src_row (c := ks 0 [] ro 0) (s := ⟨[], mem⟩) hm hi hro hsrc hp (by omega)
  have hx := nine_calls (C := cap) (T := T) (β := ⟨β.b, fun _ => (kb, ko), β.c⟩) (w := w) (fun k mm f hk => by
      match k, hk with
      | 0, hk =>
        cases hk
        exact ⟨h2, fun _ h0 => absurd h0 (Nat.not_lt_zero _), fun j hj => h4 j hj⟩
      | k + 1, hk => simp at hk)
  have ea : (([.sc y] : List AV).map (Vc.gv β)) = (([.sc (.rsl 0 0 34 cap)] : List AV).map (Vc.gv ⟨β.b, fun _ => (kb, ko), β.c⟩)) := by
    simp only [List.map_cons, List.map_nil, Vc.gv, h1]
    simp [Vc.gs]
  rw [ea]
  refine hx.mono ?_
  rintro e w' ⟨hb, rfl⟩
  refine ⟨β, after_below hm hi hb, ?_⟩
  rw [hr]
  simp only [Vc.gv, gs_ri _ _ ⟨β.b, fun _ => (kb, ko), β.c⟩ β]
  rfl
noncomputable def r5 (N : Nat) (ro : List (Nat × Vc.Row)) (bad : Nat) : Vc.Cfg := Vc.addW (Vc.into (Vc.into (k0 N [] ro 0) [] 200 17) [] 100 10) 9 (E9 ro bad)
theorem r5_sound (N : Nat) (ro : List (Nat × Vc.Row)) (bad : Nat) : (r5 N ro bad).Sound :=
  Vc.addW_sound (Vc.into_sound (Vc.into_sound (k0_sound N [] ro 0) [] 200 Tryd.call17) [] 100 Tryd.call10) Tryd.call9 fun _ _ _ _ _ h hp β w hm hi hro => E9_ok h hp β w hm hi hro
end Vk
end Go.Proofs.YtjcbphifdapkdaaDoor
