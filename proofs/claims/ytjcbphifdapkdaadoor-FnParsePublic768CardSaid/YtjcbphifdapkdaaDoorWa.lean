/-
  The statement's own sponge, sampling and reading of numbers, by the second evaluator.
-/
import Derived.Test.YtjcbphifdapkdaaDoorVk
import Derived.Test.YtjcbphifdapkdaaDoorSpecQ
namespace Go.Proofs.YtjcbphifdapkdaaDoor
namespace Vk
open Go.RowKit
open Vc (AV SV Blk)
/-! ### Keccak -/
theorem lv_r64 (f : Nat → BitVec 64) (β : Vc.Env) : Vc.gv β (.agg (.r64 25 f)) = LV f := by
  simp only [Vc.gv, Blk.list, List.map_map]
  rfl
def rcW (j : Nat) : BitVec 64 := RCN.getD j 0#64
theorem rc_r64 (β : Vc.Env) : Vc.gv β (.agg (.r64 24 rcW)) = Ev.gv nob (.agg RC) := by
  simp only [Vc.gv, Blk.list, List.map_map]
  rfl
def E28 (args : List AV) (mem : List Blk) : Option (AV × List Blk × List Prop) := match args with
  | [] => some (.agg (.r64 24 rcW), mem, [])
  | _ => none
def E29 (args : List AV) (mem : List Blk) : Option (AV × List Blk × List Prop) := match args with
  | [.agg (.r64 n f), .agg (.r64 m g)] => bif Nat.beq n 25 && Nat.beq m 24 then some (.agg (.r64 n (kecF f)), mem, [g = rcW]) else none
  | _ => none
theorem mem_below2 {β : Vc.Env} {mem : List Blk} {w w' : World} (hm : Vc.MemOk β mem w) (hi : Vc.InjOk β mem) (hb : Below w.heap.size w w') : Vc.After β mem w β mem w' :=
  After.same (fun g b hg => (hm g b hg).kept2 fun hl => hb.block _ ((hm g b hg).lt hl)) hi ⟨hb.os, hb.tape, hb.output, hb.size, fun k hk _ => hb.block k hk⟩
theorem E28_ok {args : List AV} {mem mem' : List Blk} {v : AV} {ps : List Prop} (h : E28 args mem = some (v, mem', ps)) (β : Vc.Env) (w : World) (hm : Vc.MemOk β mem w) (hi : Vc.InjOk β mem) :
    Calls Tryd.prog 28 (args.map (Vc.gv β)).toArray w fun e w' => ∃ β', Vc.After β mem w β' mem' w' ∧ e = .returned (Vc.gv β' v) := by
  unfold E28 at h
  split at h <;> (try simp only [Option.some.injEq, Prod.mk.injEq, reduceCtorEq] at h)
  obtain ⟨rfl, rfl, _⟩ := h
  refine (rc_any w).mono ?_
  rintro e w' ⟨rfl, hb⟩
  exact ⟨β, mem_below2 hm hi hb, by rw [rc_r64]⟩
theorem E29_ok {args : List AV} {mem mem' : List Blk} {v : AV} {ps : List Prop} (h : E29 args mem = some (v, mem', ps)) (hp : Vc.All ps) (β : Vc.Env) (w : World) (hm : Vc.MemOk β mem w) (hi : Vc.InjOk β mem) :
    Calls Tryd.prog 29 (args.map (Vc.gv β)).toArray w fun e w' => ∃ β', Vc.After β mem w β' mem' w' ∧ e = .returned (Vc.gv β' v) := by
  unfold E29 at h
  split at h <;> (try simp only [reduceCtorEq] at h)
  rename_i n f m g
  cases hb : (Nat.beq n 25 && Nat.beq m 24) with
  | false => rw [hb] at h; cases h
  | true =>
    rw [hb] at h
    simp only [Bool.and_eq_true] at hb
    obtain ⟨b1, b2⟩ := hb
    simp only [cond_true, Option.some.injEq, Prod.mk.injEq] at h
    obtain ⟨rfl, rfl, rfl⟩ := h
    obtain rfl := Nat.eq_of_beq_eq_true b1
    obtain rfl := Nat.eq_of_beq_eq_true b2
    obtain ⟨hg, _⟩ := hp
    subst hg
    have ea : (([.agg (.r64 25 f), .agg (.r64 24 rcW)] : List AV).map (Vc.gv β)) = [LV f, Ev.gv nob (.agg RC)] := by
      simp only [List.map_cons, List.map_nil, lv_r64, rc_r64]
    rw [ea]
    refine (keccak_any f w).mono ?_
    rintro e w' ⟨rfl, hb⟩
    exact ⟨β, mem_below2 hm hi hb, by rw [lv_r64]⟩
/-! ### Sponge -/
noncomputable def q1 (N : Nat) (ch : List (Nat × Bool)) (ro : List (Nat × Vc.Row)) (base : Nat) : Vc.Cfg := Vc.addW (Vc.addW (ks N ch ro base) 28 E28) 29 E29
theorem q1_sound (N : Nat) (ch : List (Nat × Bool)) (ro : List (Nat × Vc.Row)) (base : Nat) : (q1 N ch ro base).Sound :=
  Vc.addW_sound (Vc.addW_sound (ks_sound N ch ro base) Tryd.call28 fun _ _ _ _ _ h _ β w hm hi _ => E28_ok h β w hm hi) Tryd.call29 fun _ _ _ _ _ h hp β w hm hi _ => E29_ok h hp β w hm hi
-- padding
noncomputable def qPad : Code := inP (inP (headP (dropP 3 (codeOf 20))))
noncomputable def qAbs : Code := inP (inP (dropP 1 (headP (dropP 7 (codeOf 20)))))
noncomputable def qIn : Code := inP (inP (dropP 1 (headP (inP (headP (dropP 1 qAbs))))))
noncomputable def qOut : Code := inP (inP (headP (dropP 9 (codeOf 20))))
noncomputable def qOne : Code := inP (inP (dropP 1 (headP (inP (dropP 1 qOut)))))
/-- The padded bytes. -/
def padB (s : Nat → BitVec 8) (j : Nat) : BitVec 8 := if j < 34 then s j else if j = 34 then 31#8 else 0#8
def padX (s : Nat → BitVec 8) (j : Nat) : BitVec 8 := bif Nat.beq j 167 then padB s 167 ^^^ 128#8 else padB s j
theorem nbeq_no {a b : Nat} (h : a ≠ b) : Nat.beq a b = false := by
  cases hb : Nat.beq a b with
  | false => rfl
  | true => exact absurd (Nat.eq_of_beq_eq_true hb) h
theorem nblt_yes {a b : Nat} (h : a < b) : Nat.blt a b = true := by simpa [Nat.blt_eq] using h
theorem nblt_no {a b : Nat} (h : ¬ a < b) : Nat.blt a b = false := by
  cases hb : Nat.blt a b with
  | false => rfl
  | true => exact absurd (by simpa [Nat.blt_eq] using hb) h
theorem getb_one (b : BitVec 8) (j : Nat) : Vc.getb [.u8 b] j = if j = 0 then b else 0#8 := by
  match j with
  | 0 => rfl
  | j + 1 => simp [Vc.getb]
theorem pad_start (s : Nat → BitVec 8) : Vc.cat 34 (Vc.cat 0 (fun _ => 0#8) fun j => s (0 + j)) (Vc.getb [.u8 31#8]) = padB s := by
  funext j
  simp only [Vc.cat, padB, getb_one]
  by_cases h1 : j < 34
  · rw [nblt_yes h1, if_pos h1, nblt_no (show ¬ j < 0 by omega)]
    simp only [cond_true, cond_false]
    rw [show 0 + (j - 0) = j by omega]
  · rw [nblt_no h1, if_neg h1]
    simp only [cond_false]
    by_cases h2 : j = 34
    · rw [if_pos (by omega), if_pos h2]
    · rw [if_neg (by omega), if_neg h2]
theorem pad_next (s : Nat → BitVec 8) {n : Nat} (hn : 35 ≤ n) : Vc.cat n (padB s) (Vc.getb [.u8 0#8]) = padB s := by
  funext j
  simp only [Vc.cat]
  by_cases h1 : j < n
  · rw [nblt_yes h1]
    rfl
  · rw [nblt_no h1, getb_one]
    simp only [cond_false, padB]
    rw [if_neg (show ¬ j < 34 by omega), if_neg (show ¬ j = 34 by omega)]
    split <;> rfl
section
variable (ro : List (Nat × Vc.Row)) (s f o : Nat → BitVec 8) (a : Nat → BitVec 64) (m i : Int) (n : Nat)
def fp (m : Int) (n : Nat) : List (Nat × AV) := [(0, .sc (.i 168)), (3, .sc (.x m)), (9, .sc (.own 0 n))]
def fa (m i : Int) : List (Nat × AV) := [(0, .sc (.i 168)), (3, .sc (.x m)), (9, .sc (.own 0 168)), (10, .sc (.ptr 1 0)), (11, .sc (.ptr 2 0)), (12, .sc (.i 0)), (13, .sc (.x i))]
def fb (m k : Int) : List (Nat × AV) := [(0, .sc (.i 168)), (3, .sc (.x m)), (9, .sc (.own 0 168)), (10, .sc (.ptr 1 0)), (11, .sc (.ptr 2 0)), (12, .sc (.i k))]
def fo (m i : Int) (n : Nat) : List (Nat × AV) := [(0, .sc (.i 168)), (3, .sc (.x m)), (10, .sc (.ptr 1 0)), (11, .sc (.ptr 2 0)), (14, .sc (.own 3 n)), (15, .sc (.x i))]
def fq (m : Int) (n : Nat) : List (Nat × AV) := [(0, .sc (.i 168)), (3, .sc (.x m)), (10, .sc (.ptr 1 0)), (11, .sc (.ptr 2 0)), (14, .sc (.own 3 n))]
set_option maxRecDepth 100000 in
theorem a_pre (C : Nat) : (Vc.evM (q1 111 [] [(34, .b s)] 0) 111 100 3 (codeOf 20) ⟨Vc.args0 0 [.sc (.i 168), .sc (.rsl 0 0 34 C), .sc (.u8 31), .sc (.x m)], []⟩).map (outMk [0, 3, 9] 1) = some (fp m 35, [.own 35 (Vc.cat 34 (Vc.cat 0 (fun _ => 0#8) fun j => s (0 + j)) (Vc.getb [.u8 31#8]))], [0 = 0, 0 + 34 ≤ 1000000, 0 + 34 ≤ 34, 34 = 34, 34 + 1 ≤ 1000000]) := by kernel_rfl
set_option maxRecDepth 100000 in
theorem a_pad : (Vc.evC (q1 111 [(24, true), (27, true)] ro 0) 111 100 qPad ⟨fp m n, [.own n f]⟩).map (outk [0, 3, 9] 1) = some (.normal, fp m (n + 1), [.own (n + 1) (Vc.cat n f (Vc.getb [.u8 0#8]))], [(0 : Int) ≤ (n : Int), (0 : Int) < 168, ((n : Int) % 168 != 0) = true, n = n, n + 1 ≤ 1000000]) := by kernel_rfl
set_option maxRecDepth 100000 in
theorem a_padx : (Vc.evC (q1 111 [(24, true), (27, false)] ro 0) 111 100 qPad ⟨fp m n, [.own n f]⟩).map (outk [0, 3, 9] 1) = some (.out 0, fp m n, [.own n f], [(0 : Int) ≤ (n : Int), (0 : Int) < 168, ((n : Int) % 168 != 0) = false]) := by kernel_rfl
def z64 : List SV := List.replicate 25 (.u64 0#64)
set_option maxRecDepth 100000 in
theorem a_mid : (Vc.evM (q1 111 [] ro 0) 111 100 3 (dropP 4 (codeOf 20)) ⟨fp m 168, [.own 168 f]⟩).map (outMk [0, 3, 9, 10, 11] 3) = some ([(0, .sc (.i 168)), (3, .sc (.x m)), (9, .sc (.own 0 168)), (10, .sc (.ptr 1 0)), (11, .sc (.ptr 2 0))], [.own 168 (fun j => bif Nat.beq j 167 then f 167 ^^^ 128#8 else f j), .cells z64, .r64 24 rcW], [(0 : Int) ≤ 167, (167 : Int) < 168, 167 < 168, (0 : Int) ≤ 167, (167 : Int) < 168, 167 < 168]) := by kernel_rfl
set_option maxRecDepth 100000 in
theorem a_at : (Vc.evC (q1 111 [] ro 0) 111 100 (headP (headP (dropP 7 (codeOf 20)))) ⟨[(0, .sc (.i 168)), (3, .sc (.x m)), (9, .sc (.own 0 168)), (10, .sc (.ptr 1 0)), (11, .sc (.ptr 2 0))], [.own 168 f, .r64 25 a, .r64 24 rcW]⟩).map (outk [0, 3, 9, 10, 11, 12] 3) = some (.normal, fb m 0, [.own 168 f, .r64 25 a, .r64 24 rcW], []) := by kernel_rfl
set_option maxRecDepth 100000 in
theorem a_test : (Vc.evC (q1 111 [] ro 0) 111 100 (headP qAbs) ⟨fb m 0, [.own 168 f, .r64 25 a, .r64 24 rcW]⟩).map (outk [0, 3, 9, 10, 11, 12] 3) = some (.normal, fb m 0, [.own 168 f, .r64 25 a, .r64 24 rcW], []) := by kernel_rfl
set_option maxRecDepth 100000 in
theorem a_done : (Vc.evC (q1 111 [] ro 0) 111 100 qAbs ⟨fb m 168, [.own 168 f, .r64 25 a, .r64 24 rcW]⟩).map (outk [0, 3, 9, 10, 11, 12] 3) = some (.out 2, fb m 168, [.own 168 f, .r64 25 a, .r64 24 rcW], []) := by kernel_rfl
set_option maxRecDepth 100000 in
theorem a_i0 : (Vc.evC (q1 111 [] ro 0) 111 100 (headP (headP (inP (headP (dropP 1 qAbs))))) ⟨fb m 0, [.own 168 f, .r64 25 a, .r64 24 rcW]⟩).map (outk [0, 3, 9, 10, 11, 12, 13] 3) = some (.normal, [(0, .sc (.i 168)), (3, .sc (.x m)), (9, .sc (.own 0 168)), (10, .sc (.ptr 1 0)), (11, .sc (.ptr 2 0)), (12, .sc (.i 0)), (13, .sc (.i 0))], [.own 168 f, .r64 25 a, .r64 24 rcW], []) := by kernel_rfl
set_option maxRecDepth 100000 in
theorem a_step : (Vc.evC (q1 111 [(54, true)] ro 0) 111 100 qIn ⟨fa m i, [.own 168 f, .r64 25 a, .r64 24 rcW]⟩).map (outk [0, 3, 9, 10, 11, 12, 13] 3) =
    some (.normal, fa m (i + 1), [.own 168 f, .r64 25 (fun j => bif Nat.beq j (0 + (i / 8).toNat * 1) then a (0 + (i / 8).toNat * 1) ^^^ (f (0 + (0 + i).toNat * 1)).setWidth 64 <<< (8 * (i % 8)).toNat else a j), .r64 24 rcW],
      [decide (i < 168) = true, 0 ≤ i, i ≤ Vc.hi64, (0 : Int) < 8, 0 ≤ i, i ≤ Vc.hi64, (0 : Int) < 8, 0 ≤ i / 8, i / 8 < 25, 0 + (i / 8).toNat * 1 < 25, Vc.lo64 ≤ 0 + i, 0 + i ≤ Vc.hi64, 0 ≤ 0 + i, 0 + i < 168, 0 + (0 + i).toNat * 1 < 168, 0 ≤ i, (0 : Int) < 8, Vc.lo64 ≤ 8 * (i % 8), 8 * (i % 8) ≤ Vc.hi64, 0 ≤ 8 * (i % 8), 0 ≤ i / 8, i / 8 < 25, 0 + (i / 8).toNat * 1 < 25, Vc.lo64 ≤ i + 1, i + 1 ≤ Vc.hi64]) := by kernel_rfl
set_option maxRecDepth 100000 in
theorem a_stepx : (Vc.evC (q1 111 [(54, false)] ro 0) 111 100 qIn ⟨fa m i, [.own 168 f, .r64 25 a, .r64 24 rcW]⟩).map (outk [0, 3, 9, 10, 11, 12, 13] 3) = some (.out 4, fa m i, [.own 168 f, .r64 25 a, .r64 24 rcW], [decide (i < 168) = false]) := by kernel_rfl
set_option maxRecDepth 100000 in
theorem a_kec : (Vc.evC (q1 111 [] ro 0) 111 100 (dropP 1 (inP (headP (dropP 1 qAbs)))) ⟨fa m i, [.own 168 f, .r64 25 a, .r64 24 rcW]⟩).map (outk [0, 3, 9, 10, 11, 12] 3) = some (.normal, fb m 0, [.own 168 f, .r64 25 (kecF a), .r64 24 rcW], [rcW = rcW]) := by kernel_rfl
set_option maxRecDepth 100000 in
theorem a_next : (Vc.evC (q1 111 [] ro 0) 111 100 (dropP 2 qAbs) ⟨fb m 0, [.own 168 f, .r64 25 a, .r64 24 rcW]⟩).map (outk [0, 3, 9, 10, 11, 12] 3) = some (.normal, fb m 168, [.own 168 f, .r64 25 a, .r64 24 rcW], []) := by kernel_rfl
set_option maxRecDepth 100000 in
theorem a_out : (Vc.evM (q1 111 [] ro 0) 111 100 1 (dropP 8 (codeOf 20)) ⟨fb m 168, [.own 168 f, .r64 25 a, .r64 24 rcW]⟩).map (outMk [0, 3, 10, 11, 14] 4) = some (fq m 0, [.own 168 f, .r64 25 a, .r64 24 rcW, .own 0 (fun _ => 0#8)], []) := by kernel_rfl
set_option maxRecDepth 100000 in
theorem a_one : (Vc.evC (q1 111 [(86, true), (89, true), (91, true)] ro 0) 111 100 qOne ⟨fo m i n, [.own 168 f, .r64 25 a, .r64 24 rcW, .own n o]⟩).map (outk [0, 3, 10, 11, 14, 15] 4) =
    some (.normal, fo m (i + 1) (n + 1), [.own 168 f, .r64 25 a, .r64 24 rcW, .own (n + 1) (Vc.cat n o (Vc.getb [.u8 ((a (0 + (i / 8).toNat * 1) >>> (8 * (i % 8)).toNat).setWidth 8)]))],
      [decide (i < 168) = true, decide ((n : Int) < m) = true, 0 ≤ i, i ≤ Vc.hi64, (0 : Int) < 8, 0 ≤ i / 8, i / 8 < 25, 0 + (i / 8).toNat * 1 < 25, 0 ≤ i, (0 : Int) < 8, Vc.lo64 ≤ 8 * (i % 8), 8 * (i % 8) ≤ Vc.hi64, 0 ≤ 8 * (i % 8), n = n, n + 1 ≤ 1000000, Vc.lo64 ≤ i + 1, i + 1 ≤ Vc.hi64]) := by kernel_rfl
set_option maxRecDepth 100000 in
theorem a_onex : (Vc.evC (q1 111 [(86, false)] ro 0) 111 100 qOne ⟨fo m i n, [.own 168 f, .r64 25 a, .r64 24 rcW, .own n o]⟩).map (outk [0, 3, 10, 11, 14, 15] 4) = some (.out 8, fo m i n, [.own 168 f, .r64 25 a, .r64 24 rcW, .own n o], [decide (i < 168) = false]) := by kernel_rfl
set_option maxRecDepth 100000 in
theorem a_more : (Vc.evC (q1 111 [(81, true), (83, true)] ro 0) 111 100 (headP qOut) ⟨fq m n, [.own 168 f, .r64 25 a, .r64 24 rcW, .own n o]⟩).map (outk [0, 3, 10, 11, 14] 4) = some (.normal, fq m n, [.own 168 f, .r64 25 a, .r64 24 rcW, .own n o], [decide ((n : Int) < m) = true]) := by kernel_rfl
set_option maxRecDepth 100000 in
theorem a_morex : (Vc.evC (q1 111 [(81, true), (83, false)] ro 0) 111 100 qOut ⟨fq m n, [.own 168 f, .r64 25 a, .r64 24 rcW, .own n o]⟩).map (outk [0, 3, 10, 11, 14] 4) = some (.out 6, fq m n, [.own 168 f, .r64 25 a, .r64 24 rcW, .own n o], [decide ((n : Int) < m) = false]) := by kernel_rfl
set_option maxRecDepth 100000 in
theorem a_j0 : (Vc.evC (q1 111 [] ro 0) 111 100 (headP (headP (inP (dropP 1 qOut)))) ⟨fq m n, [.own 168 f, .r64 25 a, .r64 24 rcW, .own n o]⟩).map (outk [0, 3, 10, 11, 14, 15] 4) = some (.normal, [(0, .sc (.i 168)), (3, .sc (.x m)), (10, .sc (.ptr 1 0)), (11, .sc (.ptr 2 0)), (14, .sc (.own 3 n)), (15, .sc (.i 0))], [.own 168 f, .r64 25 a, .r64 24 rcW, .own n o], []) := by kernel_rfl
set_option maxRecDepth 100000 in
theorem a_kec2 : (Vc.evC (q1 111 [] ro 0) 111 100 (dropP 1 (inP (dropP 1 qOut))) ⟨fo m i n, [.own 168 f, .r64 25 a, .r64 24 rcW, .own n o]⟩).map (outk [0, 3, 10, 11, 14] 4) = some (.normal, fq m n, [.own 168 f, .r64 25 (kecF a), .r64 24 rcW, .own n o], [rcW = rcW]) := by kernel_rfl
set_option maxRecDepth 100000 in
theorem a_end : (Vc.evC (q1 111 [] ro 0) 111 100 (dropP 10 (codeOf 20)) ⟨fq m n, [.own 168 f, .r64 25 a, .r64 24 rcW, .own n o]⟩).map (outk [8] 4) = some (.ret, [(8, .sc (.own 3 n))], [.own 168 f, .r64 25 a, .r64 24 rcW, .own n o], []) := by kernel_rfl
end
/-- The first c bytes of a lane. -/
def part (f : Nat → BitVec 8) (j : Nat) : Nat → BitVec 64
  | 0 => 0#64
  | c + 1 => part f j c ^^^ (f (8 * j + c)).setWidth 64 <<< (8 * c)
def absK (f : Nat → BitVec 8) (k j : Nat) : BitVec 64 := part f j (min 8 (k - 8 * j))
theorem absK_zero (f : Nat → BitVec 8) : absK f 0 = fun _ => 0#64 := by
  funext j
  simp [absK, part]
theorem absK_succ (f : Nat → BitVec 8) (k : Nat) : (fun j => bif Nat.beq j (0 + (((k : Nat) : Int) / 8).toNat * 1) then absK f k (0 + (((k : Nat) : Int) / 8).toNat * 1) ^^^ (f (0 + (0 + ((k : Nat) : Int)).toNat * 1)).setWidth 64 <<< (8 * (((k : Nat) : Int) % 8)).toNat else absK f k j) = absK f (k + 1) := by
  funext j
  have e1 : 0 + (((k : Nat) : Int) / 8).toNat * 1 = k / 8 := by omega
  have e2 : 0 + (0 + ((k : Nat) : Int)).toNat * 1 = k := by omega
  have e3 : (8 * (((k : Nat) : Int) % 8)).toNat = 8 * (k % 8) := by omega
  rw [e1, e2, e3]
  by_cases h : j = k / 8
  · subst h
    rw [Nat.beq_refl]
    simp only [cond_true, absK]
    rw [show min 8 (k - 8 * (k / 8)) = k % 8 by omega, show min 8 (k + 1 - 8 * (k / 8)) = k % 8 + 1 by omega]
    simp only [part]
    rw [show 8 * (k / 8) + k % 8 = k by omega]
  · rw [nbeq_no h]
    simp only [cond_false, absK]
    rw [show min 8 (k - 8 * j) = min 8 (k + 1 - 8 * j) by omega]
def absA (f : Nat → BitVec 8) : Nat → BitVec 64 := absK f 168
/-- The state behind so many permutations, and the bytes that are told. -/
def stX (f : Nat → BitVec 8) : Nat → Nat → BitVec 64
  | 0 => kecF (absA f)
  | b + 1 => kecF (stX f b)
def outB (f : Nat → BitVec 8) (k : Nat) : BitVec 8 := (stX f (k / 168) ((k % 168) / 8) >>> (8 * ((k % 168) % 8))).setWidth 8
def outN (f : Nat → BitVec 8) (n j : Nat) : BitVec 8 := if j < n then outB f j else 0#8
theorem outN_zero (f : Nat → BitVec 8) : outN f 0 = fun _ => 0#8 := by
  funext j
  simp [outN]
theorem outN_succ (f : Nat → BitVec 8) {b i : Nat} (hi : i < 168) : Vc.cat (168 * b + i) (outN f (168 * b + i)) (Vc.getb [.u8 ((stX f b (0 + (((i : Nat) : Int) / 8).toNat * 1) >>> (8 * (((i : Nat) : Int) % 8)).toNat).setWidth 8)]) = outN f (168 * b + i + 1) := by
  funext j
  have e1 : 0 + (((i : Nat) : Int) / 8).toNat * 1 = i / 8 := by omega
  have e3 : (8 * (((i : Nat) : Int) % 8)).toNat = 8 * (i % 8) := by omega
  rw [e1, e3]
  simp only [Vc.cat, getb_one]
  by_cases h1 : j < 168 * b + i
  · rw [nblt_yes h1]
    simp only [cond_true, outN]
    rw [if_pos h1, if_pos (by omega)]
  · rw [nblt_no h1]
    simp only [cond_false, outN]
    by_cases h2 : j = 168 * b + i
    · subst h2
      rw [if_pos (by omega), if_pos (by omega)]
      simp only [outB]
      rw [show (168 * b + i) / 168 = b by omega, show (168 * b + i) % 168 = i by omega]
    · rw [if_neg (by omega), if_neg (by omega)]
theorem z64_row : (Blk.cells z64).list = (Blk.r64 25 (fun _ => 0#64)).list := by kernel_rfl
section
variable {ro : List (Nat × Vc.Row)} {s f : Nat → BitVec 8} {m : Int} {β0 : Vc.Env} {w0 : World} {Q : Exit → Act → World → Prop} {M : Nat}
theorem pad_loop : ∀ (r n : Nat), n + r = 168 → 35 ≤ n → ∀ (β : Vc.Env) (a : Act) (w : World), Vc.Rel (q1 111 [] ro 0) [] 0 β0 w0 β ⟨fp m n, [.own n (padB s)]⟩ a w →
    (∀ β' a' w', Vc.Rel (q1 111 [] ro 0) [] 0 β0 w0 β' ⟨fp m 168, [.own 168 (padB s)]⟩ a' w' → Q (.exit 0) a' w') → Code.rounds Tryd.prog qPad Q (r + 1) a w
  | 0, n, hn, h35, β, a, w, hr, hQ => by
    obtain rfl : n = 168 := by omega
    rw [rounds_succ]
    exact go (q1_sound 111 [(24, true), (27, false)] ro 0) (a_padx ro (padB s) m 168) (by simp [Vc.All]) hr rfl rfl rfl rfl (Nat.zero_le _) fun β' a' w' hr' => hQ β' a' w' hr'
  | r + 1, n, hn, h35, β, a, w, hr, hQ => by
    rw [rounds_succ]
    refine go (q1_sound 111 [(24, true), (27, true)] ro 0) (a_pad ro (padB s) m n) ?_ hr rfl rfl rfl rfl (Nat.zero_le _) fun β' a' w' hr' => ?_
    · simp [Vc.All]
      omega
    · rw [pad_next s h35] at hr'
      exact pad_loop r (n + 1) (by omega) (by omega) β' a' w' hr' hQ
theorem in_loop : ∀ (r k : Nat), k + r = 168 → ∀ (β : Vc.Env) (a : Act) (w : World), Vc.Rel (q1 111 [] ro 0) [] 0 β0 w0 β ⟨fa m k, [.own 168 f, .r64 25 (absK f k), .r64 24 rcW]⟩ a w →
    (∀ β' a' w', Vc.Rel (q1 111 [] ro 0) [] 0 β0 w0 β' ⟨fa m 168, [.own 168 f, .r64 25 (absA f), .r64 24 rcW]⟩ a' w' → Q (.exit 4) a' w') → Code.rounds Tryd.prog qIn Q (r + 1) a w
  | 0, k, hk, β, a, w, hr, hQ => by
    obtain rfl : k = 168 := by omega
    rw [rounds_succ]
    exact go (q1_sound 111 [(54, false)] ro 0) (a_stepx ro f (absK f 168) m (168 : Nat)) (by simp [Vc.All]) hr rfl rfl rfl rfl (Nat.zero_le _) fun β' a' w' hr' => hQ β' a' w' hr'
  | r + 1, k, hk, β, a, w, hr, hQ => by
    rw [rounds_succ]
    refine go (q1_sound 111 [(54, true)] ro 0) (a_step ro f (absK f k) m k) ?_ hr rfl rfl rfl rfl (Nat.zero_le _) fun β' a' w' hr' => ?_
    · simp [Vc.All, Vc.lo64, Vc.hi64]
      omega
    · rw [absK_succ] at hr'
      exact in_loop r (k + 1) (by omega) β' a' w' hr' hQ
theorem one_loop {b : Nat} (hb : b < M) (hM : M ≤ 100) : ∀ (r i : Nat), i + r = 168 → ∀ (β : Vc.Env) (a : Act) (w : World), Vc.Rel (q1 111 [] ro 0) [] 0 β0 w0 β ⟨fo ((168 * M : Nat) : Int) i (168 * b + i), [.own 168 f, .r64 25 (stX f b), .r64 24 rcW, .own (168 * b + i) (outN f (168 * b + i))]⟩ a w →
    (∀ β' a' w', Vc.Rel (q1 111 [] ro 0) [] 0 β0 w0 β' ⟨fo ((168 * M : Nat) : Int) 168 (168 * (b + 1)), [.own 168 f, .r64 25 (stX f b), .r64 24 rcW, .own (168 * (b + 1)) (outN f (168 * (b + 1)))]⟩ a' w' → Q (.exit 8) a' w') → Code.rounds Tryd.prog qOne Q (r + 1) a w
  | 0, i, hi, β, a, w, hr, hQ => by
    obtain rfl : i = 168 := by omega
    rw [rounds_succ]
    exact go (q1_sound 111 [(86, false)] ro 0) (a_onex ro f (outN f (168 * b + 168)) (stX f b) ((168 * M : Nat) : Int) (168 : Nat) (168 * b + 168)) (by simp [Vc.All]) hr rfl rfl rfl rfl (Nat.zero_le _) fun β' a' w' hr' => hQ β' a' w' hr'
  | r + 1, i, hi, β, a, w, hr, hQ => by
    rw [rounds_succ]
    refine go (q1_sound 111 [(86, true), (89, true), (91, true)] ro 0) (a_one ro f (outN f (168 * b + i)) (stX f b) ((168 * M : Nat) : Int) i (168 * b + i)) ?_ hr rfl rfl rfl rfl (Nat.zero_le _) fun β' a' w' hr' => ?_
    · have : 168 * b + 168 ≤ 168 * M := by omega
      simp [Vc.All, Vc.lo64, Vc.hi64]
      omega
    · rw [outN_succ f (by omega)] at hr'
      exact one_loop hb hM r (i + 1) (by omega) β' a' w' hr' hQ
theorem out_loop (hM : M ≤ 100) : ∀ (r b : Nat), b + r = M → ∀ (β : Vc.Env) (a : Act) (w : World), Vc.Rel (q1 111 [] ro 0) [] 0 β0 w0 β ⟨fq ((168 * M : Nat) : Int) (168 * b), [.own 168 f, .r64 25 (stX f b), .r64 24 rcW, .own (168 * b) (outN f (168 * b))]⟩ a w →
    (∀ β' a' w', Vc.Rel (q1 111 [] ro 0) [] 0 β0 w0 β' ⟨fq ((168 * M : Nat) : Int) (168 * M), [.own 168 f, .r64 25 (stX f M), .r64 24 rcW, .own (168 * M) (outN f (168 * M))]⟩ a' w' → Q (.exit 6) a' w') → Code.rounds Tryd.prog qOut Q (r + 1) a w
  | 0, b, hb, β, a, w, hr, hQ => by
    obtain rfl : b = M := by omega
    rw [rounds_succ]
    exact go (q1_sound 111 [(81, true), (83, false)] ro 0) (a_morex ro f (outN f (168 * b)) (stX f b) ((168 * b : Nat) : Int) (168 * b)) (by simp [Vc.All]) hr rfl rfl rfl rfl (Nat.zero_le _) fun β' a' w' hr' => hQ β' a' w' hr'
  | r + 1, b, hb, β, a, w, hr, hQ => by
    rw [rounds_succ]
    have hshape : qOut = .seq (headP qOut) (.block 7 (.seq (.seq (headP (headP (inP (dropP 1 qOut)))) (.block 8 (.loop qOne))) (dropP 1 (inP (dropP 1 qOut))))) := by kernel_rfl
    rw [hshape]
    refine wp_seq (go (q1_sound 111 [(81, true), (83, true)] ro 0) (a_more ro f (outN f (168 * b)) (stX f b) ((168 * M : Nat) : Int) (168 * b)) ?_ hr rfl rfl rfl rfl (Nat.zero_le _) fun β1 a1 w1 hr1 => ?_)
    · simp [Vc.All]
      omega
    refine wp_block (wp_seq (wp_seq (go (q1_sound 111 [] ro 0) (a_j0 ro f (outN f (168 * b)) (stX f b) ((168 * M : Nat) : Int) (168 * b)) trivial hr1 rfl rfl rfl rfl (Nat.zero_le _) fun β2 a2 w2 hr2 => ?_)))
    have hr2' := loose (pre := [_, _, _, _, _]) (post := []) hr2
    refine wp_block (wp_loop_rounds 169 (one_loop (by omega) hM 168 0 rfl β2 a2 w2 hr2' fun β3 a3 w3 hr3 => ?_))
    simp only [Exit.inBlock, if_true]
    refine go (q1_sound 111 [] ro 0) (a_kec2 ro f (outN f (168 * (b + 1))) (stX f b) ((168 * M : Nat) : Int) 168 (168 * (b + 1))) (by simp [Vc.All]) hr3 rfl rfl rfl rfl (Nat.zero_le _) fun β4 a4 w4 hr4 => ?_
    exact out_loop hM r (b + 1) (by omega) β4 a4 w4 hr4 hQ
end
theorem q_sh3 : dropP 3 (codeOf 20) = .seq (.block 0 (.loop qPad)) (dropP 4 (codeOf 20)) := by kernel_rfl
theorem q_sh7 : dropP 3 (dropP 4 (codeOf 20)) = .seq (.seq (headP (headP (dropP 7 (codeOf 20)))) (.block 2 (.loop qAbs))) (dropP 8 (codeOf 20)) := by kernel_rfl
theorem q_shA : qAbs = .seq (headP qAbs) (.seq (.block 3 (.seq (.seq (headP (headP (inP (headP (dropP 1 qAbs))))) (.block 4 (.loop qIn))) (dropP 1 (inP (headP (dropP 1 qAbs)))))) (dropP 2 qAbs)) := by kernel_rfl
theorem q_sh9 : dropP 1 (dropP 8 (codeOf 20)) = .seq (.block 6 (.loop qOut)) (dropP 10 (codeOf 20)) := by kernel_rfl
theorem q_into {P : Program} {R : Exit → Act → World → Prop} {a : Act} {w : World} (h : (Code.seq (headP qAbs) (.seq (.block 3 (.seq (.seq (headP (headP (inP (headP (dropP 1 qAbs))))) (.block 4 (.loop qIn))) (dropP 1 (inP (headP (dropP 1 qAbs)))))) (dropP 2 qAbs))).wp P R a w) : qAbs.wp P R a w := by
  rw [q_shA]
  exact h
/-- The statement's own sponge, for 34 bytes and whole blocks. -/
theorem sponge_calls {s : Nat → BitVec 8} {β : Vc.Env} {w : World} (hro : Vc.RoOk β [(34, .b s)] 0 w) (C M : Nat) (hM : M ≤ 100) :
    Calls Tryd.prog 20 (([.sc (.i 168), .sc (.rsl 0 0 34 C), .sc (.u8 31), .sc (.x ((168 * M : Nat) : Int))] : List AV).map (Vc.gv β)).toArray w fun e w' => Below w.heap.size w w' ∧
      ∃ k cap, w.heap.size ≤ k ∧ (∀ β', Vc.BlkOk β' (.own (168 * M) (outN (padX s) (168 * M))) k cap w') ∧ e = .returned (.slice (some ⟨k, 0, none⟩) (168 * M) cap) := by
  have hs := Vc.Rel.start (c := q1 111 [] [(34, .b s)] 0) (vs := [.sc (.i 168), .sc (.rsl 0 0 34 C), .sc (.u8 31), .sc (.x ((168 * M : Nat) : Int))]) (mem := []) (β := β) (w := w) (by show 4 ≤ 111; omega) (fun g b h => by simp at h) (fun g g' b b' h => by simp at h) hro (Nat.le_refl 0)
  refine calls_of_wp (c := codeOf 20) Tryd.func20 (by kernel_rfl) ?_
  refine goM (q1_sound 111 [] _ 0) (a_pre s ((168 * M : Nat) : Int) C) (by simp [Vc.All]) hs rfl rfl rfl rfl (Nat.zero_le _) fun β1 a1 w1 hr1 => ?_
  rw [pad_start] at hr1
  rw [q_sh3]
  refine wp_seq (wp_block (wp_loop_rounds 134 (pad_loop 133 35 rfl (Nat.le_refl _) β1 a1 w1 hr1 fun β2 a2 w2 hr2 => ?_)))
  simp only [Exit.inBlock, if_true]
  refine goM (q1_sound 111 [] _ 0) (a_mid [(34, .b s)] (padB s) ((168 * M : Nat) : Int)) (by simp [Vc.All]) hr2 rfl rfl rfl rfl (Nat.zero_le _) fun β3 a3 w3 hr3 => ?_
  have hr3' := hr3.reblk (g := 1) (b' := .r64 25 (absK (padX s) 0)) rfl rfl rfl (by rw [absK_zero]; exact z64_row)
  rw [q_sh7]
  refine wp_seq (wp_seq (go (q1_sound 111 [] _ 0) (a_at [(34, .b s)] (padX s) (absK (padX s) 0) ((168 * M : Nat) : Int)) trivial hr3' rfl rfl rfl rfl (Nat.zero_le _) fun β4 a4 w4 hr4 => ?_))
  refine wp_block (wp_loop_rounds 2 ?_)
  rw [rounds_succ]
  refine q_into (wp_seq (go (q1_sound 111 [] _ 0) (a_test [(34, .b s)] (padX s) (absK (padX s) 0) ((168 * M : Nat) : Int)) trivial hr4 rfl rfl rfl rfl (Nat.zero_le _) fun β5 a5 w5 hr5 => ?_))
  refine wp_seq (wp_block (wp_seq (wp_seq (go (q1_sound 111 [] _ 0) (a_i0 [(34, .b s)] (padX s) (absK (padX s) 0) ((168 * M : Nat) : Int)) trivial hr5 rfl rfl rfl rfl (Nat.zero_le _) fun β6 a6 w6 hr6 => ?_))))
  have hr6' := loose (pre := [_, _, _, _, _, _]) (post := []) hr6
  refine wp_block (wp_loop_rounds 169 (in_loop 168 0 rfl β6 a6 w6 hr6' fun β7 a7 w7 hr7 => ?_))
  simp only [Exit.inBlock, if_true]
  refine go (q1_sound 111 [] _ 0) (a_kec [(34, .b s)] (padX s) (absA (padX s)) ((168 * M : Nat) : Int) 168) (by simp [Vc.All]) hr7 rfl rfl rfl rfl (Nat.zero_le _) fun β8 a8 w8 hr8 => ?_
  simp only [Ev.Ex.to, Exit.inBlock]
  refine go (q1_sound 111 [] _ 0) (a_next [(34, .b s)] (padX s) (kecF (absA (padX s))) ((168 * M : Nat) : Int)) trivial hr8 rfl rfl rfl rfl (Nat.zero_le _) fun β9 a9 w9 hr9 => ?_
  simp only [Ev.Ex.to, Exit.then]
  rw [rounds_succ]
  refine go (q1_sound 111 [] _ 0) (a_done [(34, .b s)] (padX s) (kecF (absA (padX s))) ((168 * M : Nat) : Int)) trivial hr9 rfl rfl rfl rfl (Nat.zero_le _) fun β10 a10 w10 hr10 => ?_
  simp only [Ev.Ex.to, Exit.inBlock, if_true]
  refine goM (q1_sound 111 [] _ 0) (a_out [(34, .b s)] (padX s) (kecF (absA (padX s))) ((168 * M : Nat) : Int)) trivial hr10 rfl rfl rfl rfl (Nat.zero_le _) fun β11 a11 w11 hr11 => ?_
  rw [← outN_zero (padX s)] at hr11
  rw [q_sh9]
  refine wp_seq (wp_block (wp_loop_rounds (M + 1) (out_loop hM M 0 (by omega) β11 a11 w11 hr11 fun β12 a12 w12 hr12 => ?_)))
  simp only [Exit.inBlock, if_true]
  refine go (q1_sound 111 [] _ 0) (a_end [(34, .b s)] (padX s) (outN (padX s) (168 * M)) (stX (padX s) M) ((168 * M : Nat) : Int) (168 * M)) trivial hr12 rfl rfl rfl rfl (Nat.zero_le _) fun β13 a13 w13 hr13 => ?_
  refine ⟨hr13.defers, _, Vc.res_tmp hr13 (fn := Tryd.f20) (r := 8) rfl (v := .sc (.own 3 (168 * M))) rfl, ?_, β13 3, β13.c 3, hr13.new 3 (Nat.zero_le _) (by show 3 < 4; omega), fun β' => hr13.mem 3 _ rfl, rfl⟩
  exact ⟨hr13.keep.os, hr13.keep.tape, hr13.keep.output, hr13.keep.size, fun k hk => hr13.keep.block k hk (fun ⟨g, hg, _⟩ => absurd hg (Nat.not_lt_zero _))⟩
end Vk
end Go.Proofs.YtjcbphifdapkdaaDoor
