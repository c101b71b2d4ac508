/-
  The program's decoding of a polynomial.
-/
import Derived.Test.YtjcbphifdapkdaaDoorVk
namespace Go.Proofs.YtjcbphifdapkdaaDoor
namespace Vk
open Go.RowKit
open Vc (AV SV Blk)

/-! ### errors.New -/
def E21 (args : List AV) (mem : List Blk) : Option (AV × List Blk × List Prop) := match args with
  | [.sc (.str _)] => bif mem.all (Vc.scB mem.length) then some (.sc (.err mem.length), mem ++ [.dead], []) else none
  | _ => none
theorem E21_ok {args : List AV} {mem mem' : List Blk} {v : AV} {ps : List Prop} (h : E21 args mem = some (v, mem', ps)) (β : Vc.Env) (w : World) (hm : Vc.MemOk β mem w) (hi : Vc.InjOk β mem) :
    Calls Tryd.prog 21 (args.map (Vc.gv β)).toArray w fun e w' => ∃ β', Vc.After β mem w β' mem' w' ∧ e = .returned (Vc.gv β' v) := by
  unfold E21 at h
  split at h <;> (try simp only [reduceCtorEq] at h)
  rename_i s
  cases hb : mem.all (Vc.scB mem.length) with
  | false => rw [hb] at h; cases h
  | true =>
    rw [hb] at h
    simp only [cond_true, Option.some.injEq, Prod.mk.injEq] at h
    obtain ⟨rfl, rfl, _⟩ := h
    refine (err_any s w).mono ?_
    rintro e w' ⟨rfl, h1⟩
    exact ⟨Vc.more β mem.length w.heap.size 0, After.new hm hi hb (Nat.le_refl _) trivial h1, by simp [Vc.gv, Vc.gs, Vc.more]⟩

/-! ### polyByteDecode -/
noncomputable def p1 (c33 : List (Nat × Bool)) (N : Nat) (ch : List (Nat × Bool)) (ro : List (Nat × Vc.Row)) (base : Nat) : Vc.Cfg := Vc.into (Vc.addW (ks N ch ro base) 21 E21) c33 100 33
theorem p1_sound (c33 : List (Nat × Bool)) (N : Nat) (ch : List (Nat × Bool)) (ro : List (Nat × Vc.Row)) (base : Nat) : (p1 c33 N ch ro base).Sound :=
  Vc.into_sound (Vc.addW_sound (ks_sound N ch ro base) Tryd.call21 fun _ _ _ _ _ h _ β w hm hi _ => E21_ok h β w hm hi) c33 100 Tryd.call33
noncomputable def pLoop : Code := inP (inP (dropP 1 (headP (dropP 3 (codeOf 25)))))
def pSt (o L C : Nat) (i : Int) (f : Nat → BitVec 16) : Vc.St := ⟨[(0, .sc (.rsl 1 o L C)), (2, .sc (.ptr 0 0)), (4, .sc (.ptr 1 0)), (5, .sc (.x i))], [.r16 256 (fun _ => 0#16), .r16 256 f]⟩
/-- Three bytes; the two numbers in them. -/
def w3 (p : Nat → BitVec 8) (o : Nat) : BitVec 32 := (p o).setWidth 32 ||| (p (o + 1)).setWidth 32 <<< 8 ||| (p (o + 2)).setWidth 32 <<< 16
def lo3 (p : Nat → BitVec 8) (o : Nat) : BitVec 16 := (w3 p o &&& 4095#32).setWidth 16
def hi3 (p : Nat → BitVec 8) (o : Nat) : BitVec 16 := (w3 p o >>> 12).setWidth 16
def z16 : List SV := List.replicate 256 (.u16 0#16)
section
variable (r0 : Nat × Vc.Row) (rest : List (Nat × Vc.Row)) (m : Nat) (p : Nat → BitVec 8)
set_option maxRecDepth 100000 in
theorem p_pre (o C : Nat) : (Vc.evM (p1 [] 63 [] (r0 :: (m, .b p) :: rest) 0) 63 100 3 (codeOf 25) ⟨Vc.args0 0 [.sc (.rsl 1 o 384 C)], []⟩).map (outMk [0, 2, 4] 10) = some ([(0, .sc (.rsl 1 o 384 C)), (2, .sc (.ptr 0 0)), (4, .sc (.ptr 1 0))], [.cells z16, .cells z16], []) := by kernel_rfl
set_option maxRecDepth 100000 in
theorem p_init (o L C : Nat) (f g : Nat → BitVec 16) : (Vc.evC (p1 [] 63 [] (r0 :: (m, .b p) :: rest) 0) 63 100 (headP (headP (dropP 3 (codeOf 25)))) ⟨[(0, .sc (.rsl 1 o L C)), (2, .sc (.ptr 0 0)), (4, .sc (.ptr 1 0))], [.r16 256 g, .r16 256 f]⟩).map (outk [0, 2, 4, 5] 2) = some (.normal, [(0, .sc (.rsl 1 o L C)), (2, .sc (.ptr 0 0)), (4, .sc (.ptr 1 0)), (5, .sc (.i 0))], [.r16 256 g, .r16 256 f], []) := by kernel_rfl
set_option maxRecDepth 100000 in
theorem p_step (o L C : Nat) (i : Int) (f : Nat → BitVec 16) : (Vc.evC (p1 [(5, false)] 63 [(14, true)] (r0 :: (m, .b p) :: rest) 0) 63 100 pLoop (pSt o L C i f)).map (outk [0, 2, 4, 5] 2) =
    some (.normal, [(0, .sc (.rsl 1 (bif Nat.beq C 3 then o else o + 3) (L - 3) (C - 3))), (2, .sc (.ptr 0 0)), (4, .sc (.ptr 1 0)), (5, .sc (.x (i + 2)))],
      [.r16 256 (fun _ => 0#16), .r16 256 (fun j => bif Nat.beq j (0 + (i + 1).toNat * 1) then hi3 p o else bif Nat.beq j (0 + i.toNat * 1) then lo3 p o else f j)],
      [decide (i < 256) = true, (0 : Int) ≤ 0, (0 : Int) < (L : Int), o < m, (0 : Int) ≤ 1, (1 : Int) < (L : Int), o + 1 < m, (0 : Int) ≤ 2, (2 : Int) < (L : Int), o + 2 < m, decide (((lo3 p o).toNat : Int) ≥ 3329) = false, 0 ≤ i, i < 256, 0 + i.toNat * 1 < 256, Vc.lo64 ≤ i + 1, i + 1 ≤ Vc.hi64,
        decide (((hi3 p o).toNat : Int) ≥ 3329) = false, 0 ≤ i + 1, i + 1 < 256, 0 + (i + 1).toNat * 1 < 256, (0 : Int) ≤ 3, (3 : Int) ≤ (L : Int), Vc.lo64 ≤ i + 2, i + 2 ≤ Vc.hi64]) := by kernel_rfl
set_option maxRecDepth 100000 in
theorem p_bad1 (o L C : Nat) (i : Int) (f : Nat → BitVec 16) : (Vc.evC (p1 [(5, true)] 63 [(14, true)] (r0 :: (m, .b p) :: rest) 0) 63 100 pLoop (pSt o L C i f)).map (outk [2, 3] 10) =
    some (.ret, [(2, .sc (.ptr 0 0)), (3, .sc (.err 3))], [.cells z16, .r16 256 (fun j => bif Nat.beq j (0 + i.toNat * 1) then 0#16 else f j), .dead, .dead],
      [decide (i < 256) = true, (0 : Int) ≤ 0, (0 : Int) < (L : Int), o < m, (0 : Int) ≤ 1, (1 : Int) < (L : Int), o + 1 < m, (0 : Int) ≤ 2, (2 : Int) < (L : Int), o + 2 < m, decide (((lo3 p o).toNat : Int) ≥ 3329) = true, 0 ≤ i, i < 256, 0 + i.toNat * 1 < 256]) := by kernel_rfl
theorem p_shape : pLoop = .seq (headP pLoop) (.seq (.block 1 (inP (headP (dropP 1 pLoop)))) (dropP 2 pLoop)) := by kernel_rfl
set_option maxRecDepth 100000 in
theorem p_mid1 (o L C : Nat) (i : Int) (f : Nat → BitVec 16) : (Vc.evC (p1 [] 63 [(14, true)] (r0 :: (m, .b p) :: rest) 0) 63 100 (headP pLoop) (pSt o L C i f)).map (outk [0, 2, 4, 5] 2) =
    some (.normal, (pSt o L C i f).fr, (pSt o L C i f).mem, [decide (i < 256) = true]) := by kernel_rfl
set_option maxRecDepth 100000 in
theorem p_mid2 (o L C : Nat) (i : Int) (f : Nat → BitVec 16) : (Vc.evM (p1 [(5, false)] 63 [] (r0 :: (m, .b p) :: rest) 0) 63 100 3 (inP (headP (dropP 1 pLoop))) (pSt o L C i f)).map (outMk [0, 2, 4, 5, 6] 2) =
    some ([(0, .sc (.rsl 1 o L C)), (2, .sc (.ptr 0 0)), (4, .sc (.ptr 1 0)), (5, .sc (.x i)), (6, .sc (.u32 (w3 p o)))], [.r16 256 (fun _ => 0#16), .r16 256 (fun j => bif Nat.beq j (0 + i.toNat * 1) then lo3 p o else f j)],
      [(0 : Int) ≤ 0, (0 : Int) < (L : Int), o < m, (0 : Int) ≤ 1, (1 : Int) < (L : Int), o + 1 < m, (0 : Int) ≤ 2, (2 : Int) < (L : Int), o + 2 < m, decide (((lo3 p o).toNat : Int) ≥ 3329) = false, 0 ≤ i, i < 256, 0 + i.toNat * 1 < 256]) := by kernel_rfl
set_option maxRecDepth 100000 in
theorem p_bad2 (o L C : Nat) (i : Int) (f : Nat → BitVec 16) : (Vc.evC (p1 [(5, true)] 63 [] (r0 :: (m, .b p) :: rest) 0) 63 100 (dropP 3 (inP (headP (dropP 1 pLoop)))) ⟨[(0, .sc (.rsl 1 o L C)), (2, .sc (.ptr 0 0)), (4, .sc (.ptr 1 0)), (5, .sc (.x i)), (6, .sc (.u32 (w3 p o)))], [.r16 256 (fun _ => 0#16), .r16 256 f]⟩).map (outk [2, 3] 10) =
    some (.ret, [(2, .sc (.ptr 0 0)), (3, .sc (.err 3))], [.cells z16, .r16 256 (fun j => bif Nat.beq j (0 + (i + 1).toNat * 1) then 0#16 else f j), .dead, .dead],
      [Vc.lo64 ≤ i + 1, i + 1 ≤ Vc.hi64, decide (((hi3 p o).toNat : Int) ≥ 3329) = true, 0 ≤ i + 1, i + 1 < 256, 0 + (i + 1).toNat * 1 < 256]) := by kernel_rfl
set_option maxRecDepth 100000 in
theorem p_exit (o L C : Nat) (i : Int) (f : Nat → BitVec 16) : (Vc.evC (p1 [] 63 [(14, false)] (r0 :: (m, .b p) :: rest) 0) 63 100 pLoop (pSt o L C i f)).map (outk [0, 2, 4, 5] 2) =
    some (.out 0, (pSt o L C i f).fr, (pSt o L C i f).mem, [decide (i < 256) = false]) := by kernel_rfl
set_option maxRecDepth 100000 in
theorem p_end (o L C : Nat) (i : Int) (f : Nat → BitVec 16) : (Vc.evC (p1 [] 63 [] (r0 :: (m, .b p) :: rest) 0) 63 100 (dropP 4 (codeOf 25)) (pSt o L C i f)).map (outk [2, 3] 2) =
    some (.ret, [(2, .sc (.ptr 0 0)), (3, .sc .noif)], [.r16 256 f, .r16 256 f], []) := by kernel_rfl
end

/-- The numbers of 384 bytes. -/
def decF (p : Nat → BitVec 8) (o j : Nat) : BitVec 16 := if j % 2 = 0 then lo3 p (o + 3 * (j / 2)) else hi3 p (o + 3 * (j / 2))
def decK (p : Nat → BitVec 8) (o k j : Nat) : BitVec 16 := if j < 2 * k then decF p o j else 0#16
theorem decK_succ (p : Nat → BitVec 8) (o k : Nat) : (fun j => bif Nat.beq j (0 + ((2 * k : Nat) + 1 : Int).toNat * 1) then hi3 p (o + 3 * k) else bif Nat.beq j (0 + ((2 * k : Nat) : Int).toNat * 1) then lo3 p (o + 3 * k) else decK p o k j) = decK p o (k + 1) := by
  funext j
  have e1 : 0 + ((2 * k : Nat) + 1 : Int).toNat * 1 = 2 * k + 1 := by omega
  have e2 : 0 + ((2 * k : Nat) : Int).toNat * 1 = 2 * k := by omega
  rw [e1, e2]
  have beq_ : ∀ a b : Nat, a ≠ b → Nat.beq a b = false := fun a b h => by
    cases hb : Nat.beq a b with
    | false => rfl
    | true => exact absurd (Nat.eq_of_beq_eq_true hb) h
  by_cases h1 : j = 2 * k + 1
  · subst h1
    rw [Nat.beq_refl]
    simp only [cond_true, decK, decF]
    rw [if_pos (by omega), if_neg (by omega), show (2 * k + 1) / 2 = k by omega]
  · rw [beq_ _ _ h1]
    by_cases h2 : j = 2 * k
    · subst h2
      rw [Nat.beq_refl]
      simp only [cond_true, cond_false, decK, decF]
      rw [if_pos (by omega), if_pos (by omega), show (2 * k) / 2 = k by omega]
    · rw [beq_ _ _ h2]
      simp only [cond_false, decK]
      by_cases h3 : j < 2 * k
      · rw [if_pos h3, if_pos (by omega)]
      · rw [if_neg h3, if_neg (by omega)]
theorem decK_zero (p : Nat → BitVec 8) (o : Nat) : decK p o 0 = fun _ => 0#16 := by
  funext j
  simp [decK]
/-- All numbers are small. -/
def okD (p : Nat → BitVec 8) (o : Nat) : Prop := ∀ j, j < 256 → (decF p o j).toNat < 3329
theorem z16_row : (Blk.cells z16).list = (Blk.r16 256 (fun _ => 0#16)).list := by kernel_rfl

section
variable {r0 : Nat × Vc.Row} {rest : List (Nat × Vc.Row)} {m : Nat} {p : Nat → BitVec 8} {β0 : Vc.Env} {w0 : World} {Q : Exit → Act → World → Prop} {o : Nat}
theorem p_loop (hm : o + 384 ≤ m) : ∀ (r k : Nat), k + r = 128 → ∀ (off C : Nat), (k < 128 → off = o + 3 * k) → 384 - 3 * k ≤ C → ∀ (β : Vc.Env) (a : Act) (w : World),
      Vc.Rel (p1 [] 63 [] (r0 :: (m, .b p) :: rest) 0) [] 0 β0 w0 β (pSt off (384 - 3 * k) C ((2 * k : Nat) : Int) (decK p o k)) a w →
      ((∀ j, 2 * k ≤ j → j < 256 → (decF p o j).toNat < 3329) → ∀ β' a' w' off C, Vc.Rel (p1 [] 63 [] (r0 :: (m, .b p) :: rest) 0) [] 0 β0 w0 β' (pSt off 0 C 256 (decK p o 128)) a' w' → Q (.exit 0) a' w') →
      ((¬ ∀ j, 2 * k ≤ j → j < 256 → (decF p o j).toNat < 3329) → ∀ β' a' w' f, Vc.Rel (p1 [] 63 [] (r0 :: (m, .b p) :: rest) 0) [] 0 β0 w0 β' ⟨[(2, .sc (.ptr 0 0)), (3, .sc (.err 3))], [.cells z16, .r16 256 f, .dead, .dead]⟩ a' w' → Q .ret a' w') →
      Code.rounds Tryd.prog pLoop Q (r + 1) a w
  | 0, k, hk, off, C, hoff, hC, β, a, w, hr, hQ, hE => by
    obtain rfl : k = 128 := by omega
    rw [rounds_succ]
    refine go (p1_sound [] 63 [(14, false)] _ 0) (p_exit r0 rest m p off (384 - 3 * 128) C _ _) (by simp [Vc.All]) hr rfl rfl rfl rfl (Nat.zero_le _) fun β' a' w' hr' => ?_
    exact hQ (fun j h1 h2 => by omega) β' a' w' off C hr'
  | r + 1, k, hk, off, C, hoff, hC, β, a, w, hr, hQ, hE => by
    rw [rounds_succ]
    have hk2 : k < 128 := by omega
    obtain rfl := hoff hk2
    have elo : decF p o (2 * k) = lo3 p (o + 3 * k) := by
      unfold decF
      rw [if_pos (by omega), show 2 * k / 2 = k by omega]
    have ehi : decF p o (2 * k + 1) = hi3 p (o + 3 * k) := by
      unfold decF
      rw [if_neg (by omega), show (2 * k + 1) / 2 = k by omega]
    by_cases h1 : (lo3 p (o + 3 * k)).toNat < 3329
    · by_cases h2 : (hi3 p (o + 3 * k)).toNat < 3329
      · refine go (p1_sound [(5, false)] 63 [(14, true)] _ 0) (p_step r0 rest m p (o + 3 * k) (384 - 3 * k) C _ _) ?_ hr rfl rfl rfl rfl (Nat.zero_le _) fun β' a' w' hr' => ?_
        · simp [Vc.All, Vc.lo64, Vc.hi64]
          omega
        · rw [decK_succ] at hr'
          have e1 : 384 - 3 * k - 3 = 384 - 3 * (k + 1) := by omega
          have e2 : ((2 * k : Nat) : Int) + 2 = ((2 * (k + 1) : Nat) : Int) := by omega
          rw [e1, e2] at hr'
          refine p_loop hm r (k + 1) (by omega) _ _ (fun h3 => ?_) (by omega) β' a' w' hr' (fun h => hQ fun j h3 h4 => ?_) (fun h => hE fun h3 => h fun j h4 h5 => h3 j (by omega) h5)
          · have : Nat.beq C 3 = false := by
              cases hb : Nat.beq C 3 with
              | false => rfl
              | true => have := Nat.eq_of_beq_eq_true hb; omega
            rw [this]
            simp only [cond_false]
            omega
          · by_cases h5 : j = 2 * k
            · rw [h5, elo]; exact h1
            · by_cases h6 : j = 2 * k + 1
              · rw [h6, ehi]; exact h2
              · exact h j (by omega) h4
      · rw [p_shape]
        refine wp_seq (go (p1_sound [] 63 [(14, true)] _ 0) (p_mid1 r0 rest m p (o + 3 * k) (384 - 3 * k) C _ _) ?_ hr rfl rfl rfl rfl (Nat.zero_le _) fun β1 a1 w1 hr1 => ?_)
        · simp [Vc.All]
          omega
        refine wp_seq (wp_block (goM (p1_sound [(5, false)] 63 [] _ 0) (p_mid2 r0 rest m p (o + 3 * k) (384 - 3 * k) C _ _) ?_ hr1 rfl rfl rfl rfl (Nat.zero_le _) fun β2 a2 w2 hr2 => ?_))
        · simp [Vc.All]
          omega
        refine go (p1_sound [(5, true)] 63 [] _ 0) (p_bad2 r0 rest m p (o + 3 * k) (384 - 3 * k) C _ _) ?_ hr2 rfl rfl rfl rfl (Nat.zero_le _) fun β3 a3 w3 hr3 => ?_
        · simp [Vc.All, Vc.lo64, Vc.hi64]
          omega
        · exact hE (fun h => h2 (by rw [← ehi]; exact h (2 * k + 1) (by omega) (by omega))) β3 a3 w3 _ hr3
    · refine go (p1_sound [(5, true)] 63 [(14, true)] _ 0) (p_bad1 r0 rest m p (o + 3 * k) (384 - 3 * k) C _ _) ?_ hr rfl rfl rfl rfl (Nat.zero_le _) fun β' a' w' hr' => ?_
      · simp [Vc.All]
        omega
      · exact hE (fun h => h1 (by rw [← elo]; exact h (2 * k) (by omega) (by omega))) β' a' w' _ hr'
end
theorem gs_u16 (f : Nat → BitVec 16) (n : Nat) (β β' : Vc.Env) : (Blk.r16 n f).list.map (Vc.gs β) = (Blk.r16 n f).list.map (Vc.gs β') := by
  simp only [Blk.list, List.map_map]
  rfl
theorem z16_gs (β β' : Vc.Env) : z16.map (Vc.gs β) = z16.map (Vc.gs β') := List.map_congr_left fun x hx => gs_plain (by rw [List.mem_replicate.1 hx |>.2]; rfl) _ _
theorem below_of_keep {w w' : World} (h : Ev.Keep (fun b => ∃ g, g < 0 ∧ b = b) w w') : Below w.heap.size w w' :=
  ⟨h.os, h.tape, h.output, h.size, fun k hk => h.block k hk (fun ⟨_, h1, _⟩ => absurd h1 (Nat.not_lt_zero _))⟩
set_option maxRecDepth 100000 in
theorem p_res1 (ro : List (Nat × Vc.Row)) (f : Nat → BitVec 16) : Vc.result (p1 [] 63 [] ro 0) Tryd.f25 ⟨[(2, .sc (.ptr 0 0)), (3, .sc .noif)], [.r16 256 f, .r16 256 f]⟩ = some (.tupb (.r16 256 f) .noif) := by kernel_rfl
set_option maxRecDepth 100000 in
theorem p_res2 (ro : List (Nat × Vc.Row)) (f : Nat → BitVec 16) : Vc.result (p1 [] 63 [] ro 0) Tryd.f25 ⟨[(2, .sc (.ptr 0 0)), (3, .sc (.err 3))], [.cells z16, .r16 256 f, .dead, .dead]⟩ = some (.tupb (.cells z16) (.err 3)) := by kernel_rfl
theorem p_rest : dropP 3 (codeOf 25) = .seq (.seq (headP (headP (dropP 3 (codeOf 25)))) (.block 0 (.loop pLoop))) (dropP 4 (codeOf 25)) := by kernel_rfl
theorem dec_calls {r0 : Nat × Vc.Row} {rest : List (Nat × Vc.Row)} {m : Nat} {p : Nat → BitVec 8} {β : Vc.Env} {w : World} (hro : Vc.RoOk β (r0 :: (m, .b p) :: rest) 0 w) {o C : Nat} (hm : o + 384 ≤ m) (hC : 384 ≤ C) :
    Calls Tryd.prog 25 (([.sc (.rsl 1 o 384 C)] : List AV).map (Vc.gv β)).toArray w fun e w' => Below w.heap.size w w' ∧
      ((okD p o ∧ e = .returned (Vc.gv β (.tupb (.r16 256 (decK p o 128)) .noif))) ∨ (¬ okD p o ∧ ∃ k, w.heap.size ≤ k ∧ e = .returned (.tuple #[.agg (z16.map (Vc.gs β)).toArray, .iface 75 (.pointer (some ⟨k, 0, none⟩))]))) := by
  have hs := Vc.Rel.start (c := p1 [] 63 [] (r0 :: (m, .b p) :: rest) 0) (vs := [.sc (.rsl 1 o 384 C)]) (mem := []) (β := β) (w := w) (by show 1 ≤ 63; omega) (fun g b h => by simp at h) (fun g g' b b' h => by simp at h) hro (Nat.le_refl 0)
  refine calls_of_wp (c := codeOf 25) Tryd.func25 (by kernel_rfl) ?_
  refine goM (p1_sound [] 63 [] _ 0) (p_pre r0 rest m p o C) trivial hs rfl rfl rfl rfl (Nat.zero_le _) fun β1 a1 w1 hr1 => ?_
  have hr1' := (hr1.reblk (g := 0) (b' := .r16 256 (fun _ => 0#16)) rfl rfl rfl z16_row).reblk (g := 1) (b' := .r16 256 (decK p o 0)) rfl rfl rfl (by rw [decK_zero]; exact z16_row)
  rw [p_rest]
  refine wp_seq (wp_seq (go (p1_sound [] 63 [] _ 0) (p_init r0 rest m p o 384 C (decK p o 0) (fun _ => 0#16)) trivial hr1' rfl rfl rfl rfl (Nat.zero_le _) fun β2 a2 w2 hr2 => ?_))
  have hr2' := loose (pre := [_, _, _]) (post := []) hr2
  refine wp_block (wp_loop_rounds 129 (p_loop hm 128 0 rfl o C (fun _ => rfl) hC β2 a2 w2 hr2' (fun hok β3 a3 w3 off C' hr3 => ?_) (fun hbad β3 a3 w3 f hr3 => ?_)))
  · simp only [Exit.inBlock, if_true]
    refine go (p1_sound [] 63 [] _ 0) (p_end r0 rest m p off 0 C' 256 (decK p o 128)) trivial hr3 rfl rfl rfl rfl (Nat.zero_le _) fun β4 a4 w4 hr4 => ?_
    refine ⟨hr4.defers, _, Vc.result_ok hr4 (p_res1 _ _), below_of_keep (hr4.keep.mono fun k _ ⟨g, hg, _⟩ => absurd hg (Nat.not_lt_zero _)), .inl ⟨fun j hj => hok j (Nat.zero_le _) hj, ?_⟩⟩
    simp only [Vc.gv, gs_u16 _ _ β4 β]
    rfl
  · refine ⟨hr3.defers, _, Vc.result_ok hr3 (p_res2 _ _), below_of_keep (hr3.keep.mono fun k _ ⟨g, hg, _⟩ => absurd hg (Nat.not_lt_zero _)), .inr ⟨fun h => hbad fun j _ hj => h j hj, β3 3, hr3.new 3 (Nat.zero_le _) (by show 3 < 4; omega), ?_⟩⟩
    simp only [Vc.gv, Blk.list, z16_gs β3 β]
    simp only [Vc.gs]

/-- The entry: at one place the bytes are to be bad, at all others good. -/
def E25 (m : Nat) (p : Nat → BitVec 8) (bad : Nat) (args : List AV) (mem : List Blk) : Option (AV × List Blk × List Prop) := match args with
  | [.sc (.rsl g o L C)] => bif Nat.beq g 1 && Nat.beq L 384 && mem.all (Vc.scB mem.length) then
      bif Nat.beq o bad then some (.tupb (.cells z16) (.err mem.length), mem ++ [.dead], [o + 384 ≤ m, 384 ≤ C, ¬ okD p o])
      else some (.tupb (.r16 256 (decK p o 128)) .noif, mem, [o + 384 ≤ m, 384 ≤ C, okD p o]) else none
  | _ => none
theorem mem_below {β : Vc.Env} {mem : List Blk} {w w' : World} (hm : Vc.MemOk β mem w) (hb : Below w.heap.size w w') : Vc.MemOk β mem w' := fun g b hg => (hm g b hg).kept2 fun hl => hb.block _ ((hm g b hg).lt hl)
theorem after_below {β : Vc.Env} {mem : List Blk} {w w' : World} (hm : Vc.MemOk β mem w) (hi : Vc.InjOk β mem) (hb : Below w.heap.size w w') : Vc.After β mem w β mem w' :=
  After.same (mem_below hm hb) hi ⟨hb.os, hb.tape, hb.output, hb.size, fun k hk _ => hb.block k hk⟩
theorem ro_less {β : Vc.Env} {ro : List (Nat × Vc.Row)} {n : Nat} {w : World} (h : Vc.RoOk β ro n w) : Vc.RoOk β ro 0 w := fun g m f hg => ⟨(h g m f hg).1, fun _ h0 => absurd h0 (Nat.not_lt_zero _), (h g m f hg).2.2⟩
theorem E25_ok {r0 : Nat × Vc.Row} {rest : List (Nat × Vc.Row)} {m : Nat} {p : Nat → BitVec 8} {bad : Nat} {args : List AV} {mem mem' : List Blk} {v : AV} {ps : List Prop} (h : E25 m p bad args mem = some (v, mem', ps)) (hp : Vc.All ps) (β : Vc.Env) (w : World) (hm : Vc.MemOk β mem w) (hi : Vc.InjOk β mem) (hro : Vc.RoOk β (r0 :: (m, .b p) :: rest) mem.length w) :
    Calls Tryd.prog 25 (args.map (Vc.gv β)).toArray w fun e w' => ∃ β', Vc.After β mem w β' mem' w' ∧ e = .returned (Vc.gv β' v) := by
  unfold E25 at h
  split at h <;> (try simp only [reduceCtorEq] at h)
  rename_i g o L C
  cases hb : (Nat.beq g 1 && Nat.beq L 384 && mem.all (Vc.scB mem.length)) with
  | false => rw [hb] at h; cases h
  | true =>
    rw [hb] at h
    simp only [Bool.and_eq_true] at hb
    obtain ⟨⟨b1, b2⟩, b3⟩ := hb
    obtain rfl := Nat.eq_of_beq_eq_true b1
    obtain rfl := Nat.eq_of_beq_eq_true b2
    cases hbad : Nat.beq o bad with
    | true =>
      rw [hbad] at h
      simp only [cond_true, Option.some.injEq, Prod.mk.injEq] at h
      obtain ⟨rfl, rfl, rfl⟩ := h
      obtain ⟨h1, h2, h3, _⟩ := hp
      refine (dec_calls (ro_less hro) h1 h2).mono ?_
      rintro e w' ⟨hb, ⟨hok, _⟩ | ⟨_, k, hk, rfl⟩⟩
      · exact absurd hok h3
      · refine ⟨Vc.more β mem.length k 0, After.new hm hi b3 hk trivial hb, ?_⟩
        simp only [Vc.gv, Blk.list, z16_gs (Vc.more β mem.length k 0) β]
        simp [Vc.gs, Vc.more]
    | false =>
      rw [hbad] at h
      simp only [cond_true, cond_false, Option.some.injEq, Prod.mk.injEq] at h
      obtain ⟨rfl, rfl, rfl⟩ := h
      obtain ⟨h1, h2, h3, _⟩ := hp
      refine (dec_calls (ro_less hro) h1 h2).mono ?_
      rintro e w' ⟨hb, ⟨_, rfl⟩ | ⟨hno, _⟩⟩
      · exact ⟨β, after_below hm hi hb, rfl⟩
      · exact absurd h3 hno
end Vk
end Go.Proofs.YtjcbphifdapkdaaDoor
