/-
  The statement's own digits.
-/
import Derived.Test.YtjcbphifdapkdaaDoorWb
import Derived.Test.YtjcbphifdapkdaaDoorVp
namespace Go.Proofs.YtjcbphifdapkdaaDoor
namespace Vk
open Go.RowKit
open Vc (AV SV Blk)
noncomputable def dLoop : Code := inP (inP (dropP 1 (headP (dropP 2 (codeOf 14)))))
noncomputable def dBody : Code := inP (headP (dropP 1 dLoop))
noncomputable def dIn : Code := inP (inP (dropP 1 dBody))
def df (o C : Nat) (i : Int) : List (Nat × AV) := [(0, .sc (.rsl 0 o 384 C)), (1, .sc (.i 12)), (4, .sc (.ptr 0 0)), (5, .sc (.ptr 1 0)), (6, .sc (.x i))]
def dg (o C : Nat) (i k : Int) : List (Nat × AV) := [(0, .sc (.rsl 0 o 384 C)), (1, .sc (.i 12)), (4, .sc (.ptr 0 0)), (5, .sc (.ptr 1 0)), (6, .sc (.x i)), (7, .sc (.x k))]
def bitI (T : Nat → BitVec 8) (o : Nat) (i k : Int) : Int := (((T (o + ((i * 12 + k) / 8).toNat * 1) >>> ((i * 12 + k) % 8).toNat) &&& 1#8).toNat : Int)
def stepD (T : Nat → BitVec 8) (o : Nat) (i k : Int) (f : Nat → Int) (j : Nat) : Int := bif Nat.beq j (0 + i.toNat * 1) then f (0 + i.toNat * 1) + bitI T o i k * 2 ^ k.toNat else f j
section
variable (o C n : Nat) (T : Nat → BitVec 8) (i k : Int) (f : Nat → Int)
set_option maxRecDepth 100000 in
theorem d_pre : (Vc.evM (ks 43 [] [(n, .b T)] 0) 43 100 2 (codeOf 14) ⟨Vc.args0 0 [.sc (.rsl 0 o 384 C), .sc (.i 12)], []⟩).map (outMk [0, 1, 4, 5] 3) = some ([(0, .sc (.rsl 0 o 384 C)), (1, .sc (.i 12)), (4, .sc (.ptr 0 0)), (5, .sc (.ptr 1 0))], [.cells zI, .cells zI], []) := by kernel_rfl
set_option maxRecDepth 100000 in
theorem d_init : (Vc.evC (ks 43 [] [(n, .b T)] 0) 43 100 (headP (headP (dropP 2 (codeOf 14)))) ⟨[(0, .sc (.rsl 0 o 384 C)), (1, .sc (.i 12)), (4, .sc (.ptr 0 0)), (5, .sc (.ptr 1 0))], [.ri 256 (fun _ => 0), .ri 256 f]⟩).map (outk [0, 1, 4, 5, 6] 2) = some (.normal, [(0, .sc (.rsl 0 o 384 C)), (1, .sc (.i 12)), (4, .sc (.ptr 0 0)), (5, .sc (.ptr 1 0)), (6, .sc (.i 0))], [.ri 256 (fun _ => 0), .ri 256 f], []) := by kernel_rfl
set_option maxRecDepth 100000 in
theorem d_go : (Vc.evC (ks 43 [(11, true)] [(n, .b T)] 0) 43 100 (headP dLoop) ⟨df o C i, [.ri 256 (fun _ => 0), .ri 256 f]⟩).map (outk [0, 1, 4, 5, 6] 2) = some (.normal, df o C i, [.ri 256 (fun _ => 0), .ri 256 f], [decide (i < 256) = true]) := by kernel_rfl
set_option maxRecDepth 100000 in
theorem d_stop : (Vc.evC (ks 43 [(11, false)] [(n, .b T)] 0) 43 100 dLoop ⟨df o C i, [.ri 256 (fun _ => 0), .ri 256 f]⟩).map (outk [0, 1, 4, 5, 6] 2) = some (.out 0, df o C i, [.ri 256 (fun _ => 0), .ri 256 f], [decide (i < 256) = false]) := by kernel_rfl
set_option maxRecDepth 100000 in
theorem d_k : (Vc.evC (ks 43 [] [(n, .b T)] 0) 43 100 (headP dBody) ⟨df o C i, [.ri 256 (fun _ => 0), .ri 256 f]⟩).map (outk [0, 1, 4, 5, 6, 7] 2) = some (.normal, df o C i ++ [(7, .sc (.i 0))], [.ri 256 (fun _ => 0), .ri 256 f], []) := by kernel_rfl
set_option maxRecDepth 100000 in
theorem d_step : (Vc.evC (ks 43 [(16, true)] [(n, .b T)] 0) 43 100 dIn ⟨dg o C i k, [.ri 256 (fun _ => 0), .ri 256 f]⟩).map (outk [0, 1, 4, 5, 6, 7] 2) = some (.normal, dg o C i (k + 1), [.ri 256 (fun _ => 0), .ri 256 (stepD T o i k f)],
    [decide (k < 12) = true, Vc.lo64 ≤ i * 12, i * 12 ≤ Vc.hi64, Vc.lo64 ≤ i * 12 + k, i * 12 + k ≤ Vc.hi64, 0 ≤ i, i < 256, 0 + i.toNat * 1 < 256, 0 ≤ i * 12 + k, i * 12 + k ≤ Vc.hi64, (0 : Int) < 8, 0 ≤ (i * 12 + k) / 8, (i * 12 + k) / 8 < 384, o + ((i * 12 + k) / 8).toNat * 1 < n, 0 ≤ i * 12 + k, (0 : Int) < 8, 0 ≤ (i * 12 + k) % 8, 0 ≤ k, k ≤ 64,
      Vc.lo64 ≤ bitI T o i k * 2 ^ k.toNat, bitI T o i k * 2 ^ k.toNat ≤ Vc.hi64, Vc.lo64 ≤ f (0 + i.toNat * 1) + bitI T o i k * 2 ^ k.toNat, f (0 + i.toNat * 1) + bitI T o i k * 2 ^ k.toNat ≤ Vc.hi64, 0 ≤ i, i < 256, 0 + i.toNat * 1 < 256, Vc.lo64 ≤ k + 1, k + 1 ≤ Vc.hi64]) := by kernel_rfl
set_option maxRecDepth 100000 in
theorem d_kstop : (Vc.evC (ks 43 [(16, false)] [(n, .b T)] 0) 43 100 dIn ⟨dg o C i k, [.ri 256 (fun _ => 0), .ri 256 f]⟩).map (outk [0, 1, 4, 5, 6] 2) = some (.out 2, df o C i, [.ri 256 (fun _ => 0), .ri 256 f], [decide (k < 12) = false]) := by kernel_rfl
set_option maxRecDepth 100000 in
theorem d_nx : (Vc.evC (ks 43 [] [(n, .b T)] 0) 43 100 (dropP 2 dLoop) ⟨df o C i, [.ri 256 (fun _ => 0), .ri 256 f]⟩).map (outk [0, 1, 4, 5, 6] 2) = some (.normal, df o C (i + 1), [.ri 256 (fun _ => 0), .ri 256 f], [Vc.lo64 ≤ i + 1, i + 1 ≤ Vc.hi64]) := by kernel_rfl
set_option maxRecDepth 100000 in
theorem d_end : (Vc.evC (ks 43 [] [(n, .b T)] 0) 43 100 (dropP 3 (codeOf 14)) ⟨df o C i, [.ri 256 (fun _ => 0), .ri 256 f]⟩).map (outk [4] 1) = some (.ret, [(4, .sc (.ptr 0 0))], [.ri 256 f], []) := by kernel_rfl
set_option maxRecDepth 100000 in
theorem d_res : Vc.result (ks 43 [] [(n, .b T)] 0) Tryd.f14 ⟨[(4, .sc (.ptr 0 0))], [.ri 256 f]⟩ = some (.agg (.ri 256 f)) := by kernel_rfl
end
theorem d_body : dBody = .seq (headP dBody) (.block 2 (.loop dIn)) := by kernel_rfl
theorem d_shape : dLoop = .seq (headP dLoop) (.seq (.block 1 dBody) (dropP 2 dLoop)) := by kernel_rfl
theorem d_into {P : Program} {R : Exit → Act → World → Prop} {a : Act} {w : World} (h : (Code.seq (headP dLoop) (.seq (.block 1 dBody) (dropP 2 dLoop))).wp P R a w) : dLoop.wp P R a w := by
  rw [d_shape]
  exact h
theorem d_binto {P : Program} {R : Exit → Act → World → Prop} {a : Act} {w : World} (h : (Code.seq (headP dBody) (.block 2 (.loop dIn))).wp P R a w) : dBody.wp P R a w := by
  rw [d_body]
  exact h
theorem d_rest : dropP 2 (codeOf 14) = .seq (.seq (headP (headP (dropP 2 (codeOf 14)))) (.block 0 (.loop dLoop))) (dropP 3 (codeOf 14)) := by kernel_rfl
/-- A digit's first so many bits; the digits so far. -/
def dS (T : Nat → BitVec 8) (o i : Nat) : Nat → Int
  | 0 => 0
  | k + 1 => dS T o i k + bitI T o ((i : Nat) : Int) ((k : Nat) : Int) * 2 ^ k
def dK (T : Nat → BitVec 8) (o i k j : Nat) : Int := if j < i then dS T o j 12 else if j = i then dS T o i k else 0
theorem dK_zero (T : Nat → BitVec 8) (o : Nat) : dK T o 0 0 = fun _ => 0 := by
  funext j
  simp only [dK]
  by_cases h : j = 0
  · simp [h, dS]
  · simp [h]
theorem dK_next (T : Nat → BitVec 8) (o i : Nat) : dK T o i 12 = dK T o (i + 1) 0 := by
  funext j
  simp only [dK]
  by_cases h : j < i
  · rw [if_pos h, if_pos (by omega)]
  · by_cases h2 : j = i
    · subst h2
      rw [if_neg h, if_pos rfl, if_pos (by omega)]
    · rw [if_neg h, if_neg h2, if_neg (by omega)]
      by_cases h3 : j = i + 1
      · simp [h3, dS]
      · rw [if_neg h3]
theorem dK_step (T : Nat → BitVec 8) (o i k : Nat) : stepD T o ((i : Nat) : Int) ((k : Nat) : Int) (dK T o i k) = dK T o i (k + 1) := by
  funext j
  simp only [stepD]
  rw [show 0 + ((i : Nat) : Int).toNat * 1 = i by omega, show ((k : Nat) : Int).toNat = k by omega]
  by_cases h : j = i
  · subst h
    rw [Nat.beq_refl]
    simp [dK, dS]
  · rw [nbeq_no h]
    simp only [cond_false, dK]
    rw [if_neg h, if_neg h]
theorem bitI_le (T : Nat → BitVec 8) (o : Nat) (i k : Int) : 0 ≤ bitI T o i k ∧ bitI T o i k ≤ 1 := by
  unfold bitI
  rw [BitVec.toNat_and]
  have : (1#8 : BitVec 8).toNat = 1 := rfl
  rw [this, Nat.and_one_is_mod]
  omega
theorem dS_le (T : Nat → BitVec 8) (o i : Nat) : ∀ k, 0 ≤ dS T o i k ∧ dS T o i k < 2 ^ k
  | 0 => by simp [dS]
  | k + 1 => by
    have h := dS_le T o i k
    have hb := bitI_le T o ((i : Nat) : Int) ((k : Nat) : Int)
    simp only [dS]
    have e1 : (2 : Int) ^ (k + 1) = 2 ^ k + 2 ^ k := by rw [Int.pow_succ]; omega
    rw [e1]
    generalize (2 : Int) ^ k = q at h ⊢
    rcases (by omega : bitI T o ((i : Nat) : Int) ((k : Nat) : Int) = 0 ∨ bitI T o ((i : Nat) : Int) ((k : Nat) : Int) = 1) with e | e <;> rw [e] <;> omega
section
variable {o C n : Nat} {T : Nat → BitVec 8} {β0 : Vc.Env} {w0 : World} {Q : Exit → Act → World → Prop}
theorem d_inner (hn : o + 384 ≤ n) {i : Nat} (hi : i < 256) : ∀ (r k : Nat), k + r = 12 → ∀ (β : Vc.Env) (a : Act) (w : World), Vc.Rel (ks 43 [] [(n, .b T)] 0) [] 0 β0 w0 β ⟨dg o C ((i : Nat) : Int) ((k : Nat) : Int), [.ri 256 (fun _ => 0), .ri 256 (dK T o i k)]⟩ a w →
    (∀ β' a' w', Vc.Rel (ks 43 [] [(n, .b T)] 0) [] 0 β0 w0 β' ⟨df o C ((i : Nat) : Int), [.ri 256 (fun _ => 0), .ri 256 (dK T o i 12)]⟩ a' w' → Q (.exit 2) a' w') → Code.rounds Tryd.prog dIn Q (r + 1) a w
  | 0, k, hk, β, a, w, hr, hQ => by
    obtain rfl : k = 12 := by omega
    rw [rounds_succ]
    refine go (ks_sound 43 [(16, false)] _ 0) (d_kstop o C n T ((i : Nat) : Int) ((12 : Nat) : Int) (dK T o i 12)) (by simp [Vc.All]) hr rfl rfl rfl rfl (Nat.zero_le _) fun β' a' w' hr' => hQ β' a' w' hr'
  | r + 1, k, hk, β, a, w, hr, hQ => by
    rw [rounds_succ]
    refine go (ks_sound 43 [(16, true)] _ 0) (d_step o C n T ((i : Nat) : Int) ((k : Nat) : Int) (dK T o i k)) ?_ hr rfl rfl rfl rfl (Nat.zero_le _) fun β' a' w' hr' => ?_
    · have h1 := dS_le T o i k
      have h2 := dS_le T o i (k + 1)
      have hb := bitI_le T o ((i : Nat) : Int) ((k : Nat) : Int)
      have hp : (2 : Int) ^ (k + 1) ≤ 4096 := by
        have : (2 : Nat) ^ (k + 1) ≤ 2 ^ 12 := Nat.pow_le_pow_right (by decide) (by omega)
        have e : ((2 ^ (k + 1) : Nat) : Int) = (2 : Int) ^ (k + 1) := by simp
        rw [← e]
        omega
      have e1 : dK T o i k i = dS T o i k := by simp [dK]
      have e2 : dS T o i (k + 1) = dS T o i k + bitI T o ((i : Nat) : Int) ((k : Nat) : Int) * 2 ^ k := rfl
      rw [e2] at h2
      rw [show 0 + ((i : Nat) : Int).toNat * 1 = i by omega, show ((k : Nat) : Int).toNat = k by omega, e1]
      have e3 : (2 : Int) ^ (k + 1) = 2 ^ k + 2 ^ k := by rw [Int.pow_succ]; omega
      rw [e3] at h2 hp
      have h4 : 0 ≤ bitI T o ((i : Nat) : Int) ((k : Nat) : Int) * 2 ^ k ∧ bitI T o ((i : Nat) : Int) ((k : Nat) : Int) * 2 ^ k ≤ 2 ^ k := by
        rcases (by omega : bitI T o ((i : Nat) : Int) ((k : Nat) : Int) = 0 ∨ bitI T o ((i : Nat) : Int) ((k : Nat) : Int) = 1) with e | e <;> rw [e] <;> omega
      generalize bitI T o ((i : Nat) : Int) ((k : Nat) : Int) * 2 ^ k = y at h2 h4 ⊢
      generalize (2 : Int) ^ k = q at *
      generalize dS T o i k = z at *
      simp only [Vc.All, Vc.lo64, Vc.hi64, decide_eq_true_eq]
      repeat' apply And.intro
      all_goals first | exact True.intro | omega
    · rw [dK_step, show ((k : Nat) : Int) + 1 = ((k + 1 : Nat) : Int) by omega] at hr'
      exact d_inner hn hi r (k + 1) (by omega) β' a' w' hr' hQ
theorem d_loop (hn : o + 384 ≤ n) : ∀ (r i : Nat), i + r = 256 → ∀ (β : Vc.Env) (a : Act) (w : World), Vc.Rel (ks 43 [] [(n, .b T)] 0) [] 0 β0 w0 β ⟨df o C ((i : Nat) : Int), [.ri 256 (fun _ => 0), .ri 256 (dK T o i 0)]⟩ a w →
    (∀ β' a' w', Vc.Rel (ks 43 [] [(n, .b T)] 0) [] 0 β0 w0 β' ⟨df o C ((256 : Nat) : Int), [.ri 256 (fun _ => 0), .ri 256 (dK T o 256 0)]⟩ a' w' → Q (.exit 0) a' w') → Code.rounds Tryd.prog dLoop Q (r + 1) a w
  | 0, i, hi, β, a, w, hr, hQ => by
    obtain rfl : i = 256 := by omega
    rw [rounds_succ]
    refine go (ks_sound 43 [(11, false)] _ 0) (d_stop o C n T ((256 : Nat) : Int) (dK T o 256 0)) (by simp [Vc.All]) hr rfl rfl rfl rfl (Nat.zero_le _) fun β' a' w' hr' => hQ β' a' w' hr'
  | r + 1, i, hi, β, a, w, hr, hQ => by
    rw [rounds_succ]
    refine d_into (wp_seq (go (ks_sound 43 [(11, true)] _ 0) (d_go o C n T ((i : Nat) : Int) (dK T o i 0)) ?_ hr rfl rfl rfl rfl (Nat.zero_le _) fun β1 a1 w1 hr1 => ?_))
    · simp [Vc.All]
      omega
    refine wp_seq (wp_block (d_binto (wp_seq (go (ks_sound 43 [] _ 0) (d_k o C n T ((i : Nat) : Int) (dK T o i 0)) trivial hr1 rfl rfl rfl rfl (Nat.zero_le _) fun β2 a2 w2 hr2 => ?_))))
    have hr2' := loose (pre := [_, _, _, _, _]) (post := []) hr2
    refine wp_block (wp_loop_rounds 13 (d_inner hn (i := i) (by omega) 12 0 rfl β2 a2 w2 hr2' fun β3 a3 w3 hr3 => ?_))
    simp only [Exit.inBlock, if_true, Exit.then]
    refine go (ks_sound 43 [] _ 0) (d_nx o C n T ((i : Nat) : Int) (dK T o i 12)) ?_ hr3 rfl rfl rfl rfl (Nat.zero_le _) fun β4 a4 w4 hr4 => ?_
    · simp [Vc.All, Vc.lo64, Vc.hi64]
      omega
    · rw [dK_next, show ((i : Nat) : Int) + 1 = ((i + 1 : Nat) : Int) by omega] at hr4
      exact d_loop hn r (i + 1) (by omega) β4 a4 w4 hr4 hQ
end
theorem digits_calls {o C n : Nat} {T : Nat → BitVec 8} {β : Vc.Env} {w : World} (hn : o + 384 ≤ n) (hro : Vc.RoOk β [(n, .b T)] 0 w) :
    Calls Tryd.prog 14 (([.sc (.rsl 0 o 384 C), .sc (.i 12)] : List AV).map (Vc.gv β)).toArray w fun e w' => Below w.heap.size w w' ∧ e = .returned (Vc.gv β (.agg (.ri 256 (dK T o 256 0)))) := by
  have hs := Vc.Rel.start (c := ks 43 [] [(n, .b T)] 0) (vs := [.sc (.rsl 0 o 384 C), .sc (.i 12)]) (mem := []) (β := β) (w := w) (by show 2 ≤ 43; omega) (fun g b h => by simp at h) (fun g g' b b' h => by simp at h) hro (Nat.le_refl 0)
  refine calls_of_wp (c := codeOf 14) Tryd.func14 (by kernel_rfl) ?_
  refine goM (ks_sound 43 [] _ 0) (d_pre o C n T) trivial hs rfl rfl rfl rfl (Nat.zero_le _) fun β1 a1 w1 hr1 => ?_
  have hr1' := (hr1.reblk (g := 0) (b' := .ri 256 (fun _ => 0)) rfl rfl rfl zI_row).reblk (g := 1) (b' := .ri 256 (dK T o 0 0)) rfl rfl rfl (by rw [dK_zero]; exact zI_row)
  rw [d_rest]
  refine wp_seq (wp_seq (go (ks_sound 43 [] _ 0) (d_init o C n T (dK T o 0 0)) trivial hr1' rfl rfl rfl rfl (Nat.zero_le _) fun β2 a2 w2 hr2 => ?_))
  have hr2' := loose (pre := [_, _, _, _]) (post := []) hr2
  refine wp_block (wp_loop_rounds 257 (d_loop hn 256 0 rfl β2 a2 w2 hr2' fun β3 a3 w3 hr3 => ?_))
  simp only [Exit.inBlock, if_true]
  refine go (ks_sound 43 [] _ 0) (d_end o C n T ((256 : Nat) : Int) (dK T o 256 0)) trivial hr3 rfl rfl rfl rfl (Nat.zero_le _) fun β4 a4 w4 hr4 => ?_
  refine ⟨hr4.defers, _, Vc.result_ok hr4 (d_res _ _ _), below_keep0 hr4.keep, ?_⟩
  simp only [Vc.gv, gs_ri _ _ β4 β]
/-- The entry. -/
noncomputable def E14 (ro : List (Nat × Vc.Row)) (args : List AV) (mem : List Blk) : Option (AV × List Blk × List Prop) := match args with
  | [.sc y, .sc (.i d)] => match Vc.srcOf (ks 0 [] ro 0) ⟨[], mem⟩ y with
    | some (n, T, ps) => bif Nat.beq n 384 && decide (d = 12) then some (.agg (.ri 256 (dK T 0 256 0)), mem, ps) else none
    | none => none
  | _ => none
theorem E14_ok {ro : List (Nat × Vc.Row)} {args : List AV} {mem mem' : List Blk} {v : AV} {ps : List Prop} (h : E14 ro args mem = some (v, mem', ps)) (hp : Vc.All ps) (β : Vc.Env) (w : World) (hm : Vc.MemOk β mem w) (hi : Vc.InjOk β mem) (hro : Vc.RoOk β ro mem.length w) :
    Calls Tryd.prog 14 (args.map (Vc.gv β)).toArray w fun e w' => ∃ β', Vc.After β mem w β' mem' w' ∧ e = .returned (Vc.gv β' v) := by
  unfold E14 at h
  split at h <;> (try simp only [reduceCtorEq] at h)
  rename_i y d
  split at h <;> (try simp only [reduceCtorEq] at h)
  rename_i n T qs hsrc
  cases hb1 : (Nat.beq n 384 && decide (d = 12)) with
  | false => rw [hb1] at h; cases h
  | true =>
  rw [hb1] at h
  simp only [Bool.and_eq_true, decide_eq_true_eq] at hb1
  obtain ⟨b1, rfl⟩ := hb1
  obtain rfl := Nat.eq_of_beq_eq_true b1
  simp only [cond_true, Option.some.injEq, Prod.mk.injEq] at h
  obtain ⟨rfl, rfl, rfl⟩ := h
  obtain ⟨kb, ko, cap, h1, h2, h3, h4⟩ := src_row (c := ks 0 [] ro 0) (s := ⟨[], mem⟩) hm hi hro hsrc hp (by omega)
  have hx := digits_calls (o := 0) (n := 384) (C := cap) (T := T) (β := ⟨β.b, fun _ => (kb, ko), β.c⟩) (w := w) (by omega) (fun k mm f hk => by
      match k, hk with
      | 0, hk =>
        cases hk
        exact ⟨h2, fun _ h0 => absurd h0 (Nat.not_lt_zero _), fun j hj => h4 j hj⟩
      | k + 1, hk => simp at hk)
  have ea : (([.sc y, .sc (.i 12)] : List AV).map (Vc.gv β)) = (([.sc (.rsl 0 0 384 cap), .sc (.i 12)] : List AV).map (Vc.gv ⟨β.b, fun _ => (kb, ko), β.c⟩)) := by
    simp only [List.map_cons, List.map_nil, Vc.gv, h1]
    simp [Vc.gs]
  rw [ea]
  refine hx.mono ?_
  rintro e w' ⟨hb, rfl⟩
  refine ⟨β, after_below hm hi hb, ?_⟩
  simp only [Vc.gv, gs_ri _ _ ⟨β.b, fun _ => (kb, ko), β.c⟩ β]
end Vk
end Go.Proofs.YtjcbphifdapkdaaDoor
