/-
  The program's sampling of an entry of the matrix: its loop.
-/
import Derived.Test.YtjcbphifdapkdaaDoorVs
namespace Go.Proofs.YtjcbphifdapkdaaDoor
namespace Vk
open Go.RowKit
open Vc (AV SV Blk)
noncomputable def sB (D : Nat → BitVec 8) (q : Nat) (ch : List (Nat × Bool)) (rest : List (Nat × Vc.Row)) : Vc.Cfg := Vc.addW (Vc.into (Vc.into (ks 58 ch (kro rest) 0) [] 100 46) [] 100 37) 36 (E36 D q)
theorem sB_sound (D : Nat → BitVec 8) (q : Nat) (ch : List (Nat × Bool)) (rest : List (Nat × Vc.Row)) : (sB D q ch rest).Sound :=
  Vc.addW_sound (Vc.into_sound (Vc.into_sound (ks_sound 58 ch (kro rest) 0) [] 100 Tryd.call46) [] 100 Tryd.call37) Tryd.call36 fun _ _ _ _ _ h hp β w hm hi hro => E36_ok (rest := rest) h hp β w hm hi hro
def sSt (off j : Int) (X : Blk) (ii jj : BitVec 8) (f : Nat → BitVec 16) (b : Nat → BitVec 8) : Vc.St := ⟨[(6, .sc (.ptr 0 0)), (7, .sc (.ptr 1 0)), (8, .sc (.ptr 3 0)), (9, .sc (.x j)), (10, .sc (.ptr 4 0)), (11, .sc (.x off))], [.r16 256 (fun _ => 0#16), X, .cells [.u8 ii, .u8 jj], .r16 256 f, .r8 24 b]⟩
noncomputable def sBody : Code := inP sLoop
/-- Two bytes. -/
def le2 (b : Nat → BitVec 8) (A : Nat) : BitVec 16 := (b (A + 0)).setWidth 16 ||| (b (A + 1)).setWidth 16 <<< 8
def at24 (off : Int) : Nat := bif Nat.beq 24 off.toNat then 0 else 0 + off.toNat * 1
def fr8 (off j : Int) (d1 d2 : BitVec 16) : List (Nat × AV) := [(6, .sc (.ptr 0 0)), (7, .sc (.ptr 1 0)), (8, .sc (.ptr 3 0)), (9, .sc (.x j)), (10, .sc (.ptr 4 0)), (11, .sc (.x off)), (12, .sc (.u16 d1)), (13, .sc (.u16 d2))]
section
variable (D : Nat → BitVec 8) (q : Nat) (rest : List (Nat × Vc.Row)) (off j : Int) (X : Blk) (ii jj : BitVec 8) (f : Nat → BitVec 16) (b : Nat → BitVec 8) (d1 d2 : BitVec 16)
set_option maxRecDepth 100000 in
theorem t_read : (Vc.evM (sB D q [(24, true)] rest) 58 100 1 sBody (sSt off j (digB D q) ii jj f b)).map (outMk [6, 7, 8, 9, 10, 11] 5) =
    some ([(6, .sc (.ptr 0 0)), (7, .sc (.ptr 1 0)), (8, .sc (.ptr 3 0)), (9, .sc (.x j)), (10, .sc (.ptr 4 0)), (11, .sc (.i 0))], (sSt off j (digB D (q + 1)) ii jj f (fun k => strS D (24 * q + k))).mem, [decide (off ≥ 24) = true, digB D q = digB D q]) := by kernel_rfl
set_option maxRecDepth 100000 in
theorem t_stay : (Vc.evM (sB D q [(24, false)] rest) 58 100 1 sBody (sSt off j X ii jj f b)).map (outMk [6, 7, 8, 9, 10, 11] 5) =
    some ((sSt off j X ii jj f b).fr, (sSt off j X ii jj f b).mem, [decide (off ≥ 24) = false]) := by kernel_rfl
set_option maxRecDepth 100000 in
theorem t_nums : (Vc.evM (sB D q [] rest) 58 100 3 (dropP 1 sBody) (sSt off j X ii jj f b)).map (outMk [6, 7, 8, 9, 10, 11, 12, 13] 5) =
    some (fr8 (off + 3) j (le2 b (at24 off) &&& 4095#16) (le2 b (at24 (off + 1)) >>> 4), (sSt off j X ii jj f b).mem,
      [0 ≤ off, off ≤ 24, (0 : Int) ≤ 1, (1 : Int) < ((24 - off.toNat : Nat) : Int), at24 off + 1 < 24, (0 : Int) ≤ 0, (0 : Int) < ((24 - off.toNat : Nat) : Int), at24 off + 0 < 24, (0 : Int) ≤ 1, (1 : Int) < ((24 - off.toNat : Nat) : Int), at24 off + 1 < 24, Vc.lo64 ≤ off + 1, off + 1 ≤ Vc.hi64,
        0 ≤ off + 1, off + 1 ≤ 24, (0 : Int) ≤ 1, (1 : Int) < ((24 - (off + 1).toNat : Nat) : Int), at24 (off + 1) + 1 < 24, (0 : Int) ≤ 0, (0 : Int) < ((24 - (off + 1).toNat : Nat) : Int), at24 (off + 1) + 0 < 24, (0 : Int) ≤ 1, (1 : Int) < ((24 - (off + 1).toNat : Nat) : Int), at24 (off + 1) + 1 < 24, Vc.lo64 ≤ off + 3, off + 3 ≤ Vc.hi64]) := by kernel_rfl
set_option maxRecDepth 100000 in
theorem t_one1 : (Vc.evM (sB D q [(40, true)] rest) 58 100 1 (dropP 4 sBody) ⟨fr8 off j d1 d2, (sSt off j X ii jj f b).mem⟩).map (outMk [6, 7, 8, 9, 10, 11, 12, 13] 5) =
    some (fr8 off (j + 1) d1 d2, (sSt off j X ii jj (fun k => bif Nat.beq k (0 + j.toNat * 1) then d1 else f k) b).mem, [decide ((d1.toNat : Int) < 3329) = true, 0 ≤ j, j < 256, 0 + j.toNat * 1 < 256, Vc.lo64 ≤ j + 1, j + 1 ≤ Vc.hi64]) := by kernel_rfl
set_option maxRecDepth 100000 in
theorem t_one0 : (Vc.evM (sB D q [(40, false)] rest) 58 100 1 (dropP 4 sBody) ⟨fr8 off j d1 d2, (sSt off j X ii jj f b).mem⟩).map (outMk [6, 7, 8, 9, 10, 11, 12, 13] 5) =
    some (fr8 off j d1 d2, (sSt off j X ii jj f b).mem, [decide ((d1.toNat : Int) < 3329) = false]) := by kernel_rfl
set_option maxRecDepth 100000 in
theorem t_full : (Vc.evC (sB D q [(47, true)] rest) 58 100 (dropP 5 sBody) ⟨fr8 off j d1 d2, (sSt off j X ii jj f b).mem⟩).map (outk [6, 8] 5) =
    some (.out 0, [(6, .sc (.ptr 0 0)), (8, .sc (.ptr 3 0))], (sSt off j X ii jj f b).mem, [decide (j ≥ 256) = true]) := by kernel_rfl
set_option maxRecDepth 100000 in
theorem t_two1f : (Vc.evC (sB D q [(47, false), (49, true), (56, true)] rest) 58 100 (dropP 5 sBody) ⟨fr8 off j d1 d2, (sSt off j X ii jj f b).mem⟩).map (outk [6, 8] 5) =
    some (.out 0, [(6, .sc (.ptr 0 0)), (8, .sc (.ptr 3 0))], (sSt off j X ii jj (fun k => bif Nat.beq k (0 + j.toNat * 1) then d2 else f k) b).mem, [decide (j ≥ 256) = false, decide ((d2.toNat : Int) < 3329) = true, 0 ≤ j, j < 256, 0 + j.toNat * 1 < 256, Vc.lo64 ≤ j + 1, j + 1 ≤ Vc.hi64, decide (j + 1 ≥ 256) = true]) := by kernel_rfl
set_option maxRecDepth 100000 in
theorem t_two1 : (Vc.evC (sB D q [(47, false), (49, true), (56, false)] rest) 58 100 (dropP 5 sBody) ⟨fr8 off j d1 d2, (sSt off j X ii jj f b).mem⟩).map (outk [6, 7, 8, 9, 10, 11] 5) =
    some (.normal, (sSt off (j + 1) X ii jj f b).fr, (sSt off j X ii jj (fun k => bif Nat.beq k (0 + j.toNat * 1) then d2 else f k) b).mem, [decide (j ≥ 256) = false, decide ((d2.toNat : Int) < 3329) = true, 0 ≤ j, j < 256, 0 + j.toNat * 1 < 256, Vc.lo64 ≤ j + 1, j + 1 ≤ Vc.hi64, decide (j + 1 ≥ 256) = false]) := by kernel_rfl
set_option maxRecDepth 100000 in
theorem t_two0 : (Vc.evC (sB D q [(47, false), (49, false), (56, false)] rest) 58 100 (dropP 5 sBody) ⟨fr8 off j d1 d2, (sSt off j X ii jj f b).mem⟩).map (outk [6, 7, 8, 9, 10, 11] 5) =
    some (.normal, (sSt off j X ii jj f b).fr, (sSt off j X ii jj f b).mem, [decide (j ≥ 256) = false, decide ((d2.toNat : Int) < 3329) = false, decide (j ≥ 256) = false]) := by kernel_rfl
set_option maxRecDepth 100000 in
theorem t_end : (Vc.evC (sB D q [] rest) 58 100 (dropP 9 (codeOf 26)) ⟨[(6, .sc (.ptr 0 0)), (8, .sc (.ptr 3 0))], (sSt off j X ii jj f b).mem⟩).map (outk [6] 1) = some (.ret, [(6, .sc (.ptr 0 0))], [.r16 256 f], []) := by kernel_rfl
end

/-- The two numbers in three bytes of a stream. -/
def one3 (S : Nat → BitVec 8) (t : Nat) : BitVec 16 := ((S (3 * t)).setWidth 16 ||| (S (3 * t + 1)).setWidth 16 <<< 8) &&& 4095#16
def two3 (S : Nat → BitVec 8) (t : Nat) : BitVec 16 := ((S (3 * t + 1)).setWidth 16 ||| (S (3 * t + 2)).setWidth 16 <<< 8) >>> 4
def updF (f : Nat → BitVec 16) (j : Nat) (v : BitVec 16) (k : Nat) : BitVec 16 := bif Nat.beq k j then v else f k
/-- The numbers that are found from the part t on. -/
def runS (S : Nat → BitVec 8) : Nat → Nat → (Nat → BitVec 16) → Nat → Option (Nat → BitVec 16)
  | 0, _, _, _ => none
  | n + 1, t, f, j =>
    if (one3 S t).toNat < 3329 then
      if j + 1 ≥ 256 then some (updF f j (one3 S t))
      else if (two3 S t).toNat < 3329 then
        if j + 2 ≥ 256 then some (updF (updF f j (one3 S t)) (j + 1) (two3 S t)) else runS S n (t + 1) (updF (updF f j (one3 S t)) (j + 1) (two3 S t)) (j + 2)
      else runS S n (t + 1) (updF f j (one3 S t)) (j + 1)
    else if (two3 S t).toNat < 3329 then
      if j + 1 ≥ 256 then some (updF f j (two3 S t)) else runS S n (t + 1) (updF f j (two3 S t)) (j + 1)
    else runS S n (t + 1) f j
def offT (t : Nat) : Int := if t % 8 = 0 then 24 else ((3 * (t % 8) : Nat) : Int)
theorem upd_form (f : Nat → BitVec 16) (j : Nat) (v : BitVec 16) : (fun k => bif Nat.beq k (0 + ((j : Nat) : Int).toNat * 1) then v else f k) = updF f j v := by
  funext k
  rw [show 0 + ((j : Nat) : Int).toNat * 1 = j by omega]
  rfl
section
variable {D : Nat → BitVec 8} {rest : List (Nat × Vc.Row)} {ii jj : BitVec 8} {β0 : Vc.Env} {w0 : World} {Q : Exit → Act → World → Prop} {r : Nat → BitVec 16}
theorem s_tail {j : Nat} {f : Nat → BitVec 16} (hj : j < 256) {β : Vc.Env} {a : Act} {w : World} {X : Blk} {b : Nat → BitVec 8} {off : Int} {d1 d2 : BitVec 16}
    (hr : Vc.Rel (sB D 0 [] rest) [] 0 β0 w0 β ⟨fr8 off j d1 d2, (sSt off j X ii jj f b).mem⟩ a w)
    (hfull : d2.toNat < 3329 → j + 1 ≥ 256 → ∀ β' a' w', Vc.Rel (sB D 0 [] rest) [] 0 β0 w0 β' ⟨[(6, .sc (.ptr 0 0)), (8, .sc (.ptr 3 0))], (sSt off j X ii jj (updF f j d2) b).mem⟩ a' w' → Q (.exit 0) a' w')
    (hon : d2.toNat < 3329 → ¬ j + 1 ≥ 256 → ∀ β' a' w', Vc.Rel (sB D 0 [] rest) [] 0 β0 w0 β' (sSt off ((j + 1 : Nat) : Int) X ii jj (updF f j d2) b) a' w' → Q .normal a' w')
    (hno : ¬ d2.toNat < 3329 → ∀ β' a' w', Vc.Rel (sB D 0 [] rest) [] 0 β0 w0 β' (sSt off j X ii jj f b) a' w' → Q .normal a' w') : (dropP 5 sBody).wp Tryd.prog Q a w := by
  by_cases h2 : d2.toNat < 3329
  · by_cases h3 : j + 1 ≥ 256
    · refine go (sB_sound D 0 [(47, false), (49, true), (56, true)] rest) (t_two1f D 0 rest off j X ii jj f b d1 d2) ?_ hr rfl rfl rfl rfl (Nat.zero_le _) fun β' a' w' hr' => ?_
      · simp [Vc.All, Vc.lo64, Vc.hi64]
        omega
      · rw [upd_form] at hr'
        exact hfull h2 h3 β' a' w' hr'
    · refine go (sB_sound D 0 [(47, false), (49, true), (56, false)] rest) (t_two1 D 0 rest off j X ii jj f b d1 d2) ?_ hr rfl rfl rfl rfl (Nat.zero_le _) fun β' a' w' hr' => ?_
      · simp [Vc.All, Vc.lo64, Vc.hi64]
        omega
      · rw [upd_form] at hr'
        exact hon h2 h3 β' a' w' hr'
  · refine go (sB_sound D 0 [(47, false), (49, false), (56, false)] rest) (t_two0 D 0 rest off j X ii jj f b d1 d2) ?_ hr rfl rfl rfl rfl (Nat.zero_le _) fun β' a' w' hr' => ?_
    · simp [Vc.All]
      omega
    · exact hno h2 β' a' w' hr'
theorem s_loop : ∀ (n t : Nat) (f : Nat → BitVec 16) (j : Nat), j < 256 → runS (strS D) n t f j = some r → ∀ (β : Vc.Env) (a : Act) (w : World) (b : Nat → BitVec 8), (t % 8 ≠ 0 → b = fun k => strS D (24 * (t / 8) + k)) →
      Vc.Rel (sB D 0 [] rest) [] 0 β0 w0 β (sSt (offT t) j (digB D ((t + 7) / 8)) ii jj f b) a w →
      (∀ β' a' w' X b off j, Vc.Rel (sB D 0 [] rest) [] 0 β0 w0 β' ⟨[(6, .sc (.ptr 0 0)), (8, .sc (.ptr 3 0))], (sSt off j X ii jj r b).mem⟩ a' w' → Q (.exit 0) a' w') → Code.rounds Tryd.prog sLoop Q n a w
  | 0, t, f, j, hj, h, β, a, w, b, hb, hr, hQ => by simp [runS] at h
  | n + 1, t, f, j, hj, h, β, a, w, b, hb, hr, hQ => by
    rw [rounds_succ]
    have hshape : sLoop = .block 1 sBody := by kernel_rfl
    rw [hshape]
    refine wp_block ?_
    -- the bytes
    have step : ∀ (R : Exit → Act → World → Prop), (∀ β1 a1 w1, Vc.Rel (sB D 0 [] rest) [] 0 β0 w0 β1 (sSt ((3 * (t % 8) : Nat) : Int) j (digB D (t / 8 + 1)) ii jj f (fun k => strS D (24 * (t / 8) + k))) a1 w1 → (dropP 1 sBody).wp Tryd.prog R a1 w1) → sBody.wp Tryd.prog R a w := fun R hR => by
      by_cases h8 : t % 8 = 0
      · have e1 : (t + 7) / 8 = t / 8 := by omega
        have e2 : offT t = 24 := by simp [offT, h8]
        rw [e1, e2] at hr
        refine goM (sB_sound D (t / 8) [(24, true)] rest) (t_read D (t / 8) rest 24 j ii jj f b) (by simp [Vc.All]) hr rfl rfl rfl rfl (Nat.zero_le _) fun β1 a1 w1 hr1 => hR β1 a1 w1 ?_
        have := loose (pre := [_, _, _, _, _]) (post := []) hr1
        rw [h8]
        exact this
      · have e1 : (t + 7) / 8 = t / 8 + 1 := by omega
        have e2 : offT t = ((3 * (t % 8) : Nat) : Int) := by simp [offT, h8]
        rw [e1, e2, hb h8] at hr
        exact goM (sB_sound D 0 [(24, false)] rest) (t_stay D 0 rest ((3 * (t % 8) : Nat) : Int) j (digB D (t / 8 + 1)) ii jj f _) (by simp [Vc.All]; omega) hr rfl rfl rfl rfl (Nat.zero_le _) fun β1 a1 w1 hr1 => hR β1 a1 w1 hr1
    refine step _ fun β1 a1 w1 hr1 => ?_
    have hlt := Nat.mod_lt t (show 0 < 8 by omega)
    have ea : at24 ((3 * (t % 8) : Nat) : Int) = 3 * (t % 8) := by
      unfold at24
      rw [beq_no (show 24 ≠ (((3 * (t % 8) : Nat) : Int)).toNat by omega)]
      simp only [cond_false]
      omega
    have ea1 : at24 (((3 * (t % 8) : Nat) : Int) + 1) = 3 * (t % 8) + 1 := by
      unfold at24
      rw [beq_no (show 24 ≠ (((3 * (t % 8) : Nat) : Int) + 1).toNat by omega)]
      simp only [cond_false]
      omega
    have ed1 : le2 (fun k => strS D (24 * (t / 8) + k)) (at24 ((3 * (t % 8) : Nat) : Int)) &&& 4095#16 = one3 (strS D) t := by
      simp only [le2, one3, ea]
      rw [show 24 * (t / 8) + (3 * (t % 8) + 0) = 3 * t by omega, show 24 * (t / 8) + (3 * (t % 8) + 1) = 3 * t + 1 by omega]
    have ed2 : le2 (fun k => strS D (24 * (t / 8) + k)) (at24 (((3 * (t % 8) : Nat) : Int) + 1)) >>> 4 = two3 (strS D) t := by
      simp only [le2, two3, ea1]
      rw [show 24 * (t / 8) + (3 * (t % 8) + 1 + 0) = 3 * t + 1 by omega, show 24 * (t / 8) + (3 * (t % 8) + 1 + 1) = 3 * t + 2 by omega]
    refine goM (sB_sound D 0 [] rest) (t_nums D 0 rest ((3 * (t % 8) : Nat) : Int) j (digB D (t / 8 + 1)) ii jj f (fun k => strS D (24 * (t / 8) + k))) ?_ hr1 rfl rfl rfl rfl (Nat.zero_le _) fun β2 a2 w2 hr2 => ?_
    · rw [ea, ea1]
      simp [Vc.All, Vc.lo64, Vc.hi64]
      omega
    rw [ed1, ed2] at hr2
    have eoff : ((3 * (t % 8) : Nat) : Int) + 3 = offT (t + 1) := by
      unfold offT
      split <;> omega
    have eX : digB D (t / 8 + 1) = digB D ((t + 1 + 7) / 8) := by rw [show (t + 1 + 7) / 8 = t / 8 + 1 by omega]
    have eb : (t + 1) % 8 ≠ 0 → (fun k => strS D (24 * (t / 8) + k)) = fun k => strS D (24 * ((t + 1) / 8) + k) := fun h0 => by
      rw [show (t + 1) / 8 = t / 8 by omega]
    rw [eoff, eX] at hr2
    rw [show dropP 3 (dropP 1 sBody) = dropP 4 sBody by kernel_rfl]
    have e45 : dropP 1 (dropP 4 sBody) = dropP 5 sBody := by kernel_rfl
    simp only [runS] at h
    by_cases h1 : (one3 (strS D) t).toNat < 3329
    · rw [if_pos h1] at h
      refine goM (sB_sound D 0 [(40, true)] rest) (t_one1 D 0 rest (offT (t + 1)) j (digB D ((t + 1 + 7) / 8)) ii jj f _ (one3 (strS D) t) (two3 (strS D) t)) ?_ hr2 rfl rfl rfl rfl (Nat.zero_le _) fun β3 a3 w3 hr3 => ?_
      · simp [Vc.All, Vc.lo64, Vc.hi64]
        omega
      rw [upd_form] at hr3
      rw [e45]
      have ej : ((j : Nat) : Int) + 1 = ((j + 1 : Nat) : Int) := by omega
      rw [ej] at hr3
      by_cases hf : j + 1 ≥ 256
      · rw [if_pos hf] at h
        obtain rfl := Option.some.inj h
        refine go (sB_sound D 0 [(47, true)] rest) (t_full D 0 rest (offT (t + 1)) ((j + 1 : Nat) : Int) (digB D ((t + 1 + 7) / 8)) ii jj _ _ (one3 (strS D) t) (two3 (strS D) t)) ?_ hr3 rfl rfl rfl rfl (Nat.zero_le _) fun β4 a4 w4 hr4 => ?_
        · simp [Vc.All]
          omega
        · exact hQ β4 a4 w4 _ _ (offT (t + 1)) ((j + 1 : Nat) : Int) hr4
      · rw [if_neg hf] at h
        refine s_tail (j := j + 1) (by omega) hr3 (fun k1 k2 β4 a4 w4 hr4 => ?_) (fun k1 k2 β4 a4 w4 hr4 => ?_) (fun k1 β4 a4 w4 hr4 => ?_)
        · rw [if_pos k1, if_pos (by omega)] at h
          obtain rfl := Option.some.inj h
          exact hQ β4 a4 w4 _ _ (offT (t + 1)) ((j + 1 : Nat) : Int) hr4
        · rw [if_pos k1, if_neg (by omega)] at h
          exact s_loop n (t + 1) _ (j + 2) (by omega) h β4 a4 w4 _ eb hr4 hQ
        · rw [if_neg k1] at h
          exact s_loop n (t + 1) _ (j + 1) (by omega) h β4 a4 w4 _ eb hr4 hQ
    · rw [if_neg h1] at h
      refine goM (sB_sound D 0 [(40, false)] rest) (t_one0 D 0 rest (offT (t + 1)) j (digB D ((t + 1 + 7) / 8)) ii jj f _ (one3 (strS D) t) (two3 (strS D) t)) ?_ hr2 rfl rfl rfl rfl (Nat.zero_le _) fun β3 a3 w3 hr3 => ?_
      · simp [Vc.All]
        omega
      rw [e45]
      refine s_tail (j := j) hj hr3 (fun k1 k2 β4 a4 w4 hr4 => ?_) (fun k1 k2 β4 a4 w4 hr4 => ?_) (fun k1 β4 a4 w4 hr4 => ?_)
      · rw [if_pos k1, if_pos k2] at h
        obtain rfl := Option.some.inj h
        exact hQ β4 a4 w4 _ _ (offT (t + 1)) ((j : Nat) : Int) hr4
      · rw [if_pos k1, if_neg k2] at h
        exact s_loop n (t + 1) _ (j + 1) (by omega) h β4 a4 w4 _ eb hr4 hQ
      · rw [if_neg k1] at h
        exact s_loop n (t + 1) _ j hj h β4 a4 w4 _ eb hr4 hQ
end
/-- The digest after the seed. -/
def D0 (p : Nat → BitVec 8) (ii jj : BitVec 8) : Nat → BitVec 8 := xorD (xorD (fun _ => 0#8) (fun j => p (0 + j)) 0 0 32) (Vc.getb [.u8 ii, .u8 jj]) 32 0 2
def z8 : List SV := List.replicate 24 (.u8 0#8)
set_option maxRecDepth 100000 in
theorem s_pre (m : Nat) (rest : List (Nat × Vc.Row)) (p : Nat → BitVec 8) (ii jj : BitVec 8) : (Vc.evM (sA [] ((m, .b p) :: rest)) 58 1000 8 (codeOf 26) ⟨Vc.args0 0 [.sc (.rsl 1 0 32 32), .sc (.u8 ii), .sc (.u8 jj)], []⟩).map (outMk [6, 7, 8, 9, 10, 11] 10) =
    some ([(6, .sc (.ptr 0 0)), (7, .sc (.ptr 1 0)), (8, .sc (.ptr 3 0)), (9, .sc (.i 0)), (10, .sc (.ptr 4 0)), (11, .sc (.i 24))], [.cells z16, digB (D0 p ii jj) 0, .cells [.u8 ii, .u8 jj], .cells z16, .cells z8], [0 + 32 ≤ m]) := by kernel_rfl
theorem s_rest : dropP 8 (codeOf 26) = .seq (.block 0 (.loop sLoop)) (dropP 9 (codeOf 26)) := by kernel_rfl
set_option maxRecDepth 100000 in
theorem s_res (D : Nat → BitVec 8) (rest : List (Nat × Vc.Row)) (f : Nat → BitVec 16) : Vc.result (sB D 0 [] rest) Tryd.f26 ⟨[(6, .sc (.ptr 0 0))], [.r16 256 f]⟩ = some (.agg (.r16 256 f)) := by kernel_rfl
theorem z8_row : (Blk.cells z8).list = (Blk.r8 24 (fun _ => 0#8)).list := by kernel_rfl
theorem samp_calls {m : Nat} {p : Nat → BitVec 8} {rest : List (Nat × Vc.Row)} {β : Vc.Env} {w : World} (hro : Vc.RoOk β (kro ((m, .b p) :: rest)) 0 w) (hm : 32 ≤ m) {ii jj : BitVec 8} {r : Nat → BitVec 16} (h : runS (strS (D0 p ii jj)) 896 0 (fun _ => 0#16) 0 = some r) :
    Calls Tryd.prog 26 (([.sc (.rsl 1 0 32 32), .sc (.u8 ii), .sc (.u8 jj)] : List AV).map (Vc.gv β)).toArray w fun e w' => e = .returned (Vc.gv β (.agg (.r16 256 r))) ∧ Below w.heap.size w w' := by
  have hs := Vc.Rel.start (c := sB (D0 p ii jj) 0 [] ((m, .b p) :: rest)) (vs := [.sc (.rsl 1 0 32 32), .sc (.u8 ii), .sc (.u8 jj)]) (mem := []) (β := β) (w := w) (by show 3 ≤ 58; omega) (fun g b h => by simp at h) (fun g g' b b' h => by simp at h) hro (Nat.le_refl 0)
  refine calls_of_wp (c := codeOf 26) Tryd.func26 (by kernel_rfl) ?_
  refine goM (sA_sound [] ((m, .b p) :: rest)) (s_pre m rest p ii jj) (by simp [Vc.All]; omega) hs rfl rfl rfl rfl (Nat.zero_le _) fun β1 a1 w1 hr1 => ?_
  have hr2 := ((hr1.reblk (g := 0) (b' := .r16 256 (fun _ => 0#16)) rfl rfl rfl z16_row).reblk (g := 3) (b' := .r16 256 (fun _ => 0#16)) rfl rfl rfl z16_row).reblk (g := 4) (b' := .r8 24 (fun _ => 0#8)) rfl rfl rfl z8_row
  have hr3 := loose (pre := [_, _, _]) (post := [_, _]) (loose (pre := [_, _, _, _, _]) (post := []) hr2)
  rw [s_rest]
  refine wp_seq (wp_block (wp_loop_rounds 896 (s_loop 896 0 (fun _ => 0#16) 0 (by omega) h β1 a1 w1 (fun _ => 0#8) (fun h0 => absurd rfl h0) hr3 fun β2 a2 w2 X b off j hr4 => ?_)))
  simp only [Exit.inBlock, if_true]
  refine go (sB_sound (D0 p ii jj) 0 [] _) (t_end (D0 p ii jj) 0 _ off j X ii jj r b) trivial hr4 rfl rfl rfl rfl (Nat.zero_le _) fun β3 a3 w3 hr5 => ?_
  refine ⟨hr5.defers, _, Vc.result_ok hr5 (s_res _ _ _), ?_, below_of_keep (hr5.keep.mono fun k _ ⟨g, hg, _⟩ => absurd hg (Nat.not_lt_zero _))⟩
  simp only [Vc.gv, gs_u16 _ _ β3 β]
/-- What is found. -/
def sampR (p : Nat → BitVec 8) (ii jj : BitVec 8) : Nat → BitVec 16 := (runS (strS (D0 p ii jj)) 896 0 (fun _ => 0#16) 0).getD (fun _ => 0#16)
noncomputable def E26 (ro : List (Nat × Vc.Row)) (args : List AV) (mem : List Blk) : Option (AV × List Blk × List Prop) := match args with
  | [.sc (.sl g o L C), .sc (.u8 ii), .sc (.u8 jj)] => match Vc.srcOf (k0 0 [] ro 0) ⟨[], mem⟩ (.sl g o L C) with
    | some (m, p, ps) => bif Nat.beq L 32 && Nat.beq C 32 && Nat.beq m 32 then some (.agg (.r16 256 (sampR p ii jj)), mem, ((runS (strS (D0 p ii jj)) 896 0 (fun _ => 0#16) 0).isSome = true) :: ps) else none
    | none => none
  | _ => none
theorem E26_ok {rest : List (Nat × Vc.Row)} {args : List AV} {mem mem' : List Blk} {v : AV} {ps : List Prop} (h : E26 (kro rest) args mem = some (v, mem', ps)) (hp : Vc.All ps) (β : Vc.Env) (w : World) (hm : Vc.MemOk β mem w) (hi : Vc.InjOk β mem) (hro : Vc.RoOk β (kro rest) mem.length w) :
    Calls Tryd.prog 26 (args.map (Vc.gv β)).toArray w fun e w' => ∃ β', Vc.After β mem w β' mem' w' ∧ e = .returned (Vc.gv β' v) := by
  unfold E26 at h
  split at h <;> (try simp only [reduceCtorEq] at h)
  rename_i g o L C ii jj
  split at h <;> (try simp only [reduceCtorEq] at h)
  rename_i m p qs hsrc
  cases hb1 : (Nat.beq L 32 && Nat.beq C 32 && Nat.beq m 32) with
  | false => rw [hb1] at h; cases h
  | true =>
    rw [hb1] at h
    simp only [Bool.and_eq_true] at hb1
    obtain ⟨⟨b1, b2⟩, b3⟩ := hb1
    simp only [cond_true, Option.some.injEq, Prod.mk.injEq] at h
    obtain ⟨rfl, rfl, rfl⟩ := h
    obtain ⟨hsome, hp⟩ := hp
    obtain rfl := Nat.eq_of_beq_eq_true b1
    obtain rfl := Nat.eq_of_beq_eq_true b2
    obtain rfl := Nat.eq_of_beq_eq_true b3
    obtain ⟨kb, ko, cap, h1, h2, h3, h4⟩ := src_row (c := k0 0 [] (kro rest) 0) (s := ⟨[], mem⟩) hm hi hro hsrc hp (by omega)
    obtain ⟨r, hr⟩ := Option.isSome_iff_exists.1 hsome
    have hcap : cap = 32 := by
      simp only [Vc.gs, Value.slice.injEq] at h1
      exact h1.2.2.symm
    subst hcap
    have hx := samp_calls (m := 32) (p := p) (rest := []) (β := ⟨β.b, fun _ => (kb, ko), β.c⟩) (w := w) (fun k mm f hk => by
        match k, hk with
        | 0, hk =>
          cases hk
          obtain ⟨k1, _, k3⟩ := hro 0 24 (.q 0 rcF) rfl
          exact ⟨k1, fun _ h0 => absurd h0 (Nat.not_lt_zero _), k3⟩
        | 1, hk =>
          cases hk
          exact ⟨h2, fun _ h0 => absurd h0 (Nat.not_lt_zero _), fun j hj => h4 j hj⟩
        | k + 2, hk => simp [kro] at hk) (Nat.le_refl 32) hr
    have ea : (([.sc (.sl g o 32 32), .sc (.u8 ii), .sc (.u8 jj)] : List AV).map (Vc.gv β)) = (([.sc (.rsl 1 0 32 32), .sc (.u8 ii), .sc (.u8 jj)] : List AV).map (Vc.gv ⟨β.b, fun _ => (kb, ko), β.c⟩)) := by
      simp only [List.map_cons, List.map_nil, Vc.gv, h1]
      simp [Vc.gs]
    rw [ea]
    refine hx.mono ?_
    rintro e w' ⟨rfl, hb⟩
    refine ⟨β, after_below hm hi hb, ?_⟩
    simp only [Vc.gv, sampR, hr, Option.getD_some, gs_u16 _ _ ⟨β.b, fun _ => (kb, ko), β.c⟩ β]
end Vk
end Go.Proofs.YtjcbphifdapkdaaDoor
