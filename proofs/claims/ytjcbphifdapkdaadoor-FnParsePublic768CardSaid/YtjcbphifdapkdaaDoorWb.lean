/-
  The statement's own sampling: which keys it asks about.
-/
import Derived.Test.YtjcbphifdapkdaaDoorWa
namespace Go.Proofs.YtjcbphifdapkdaaDoor
namespace Vk
open Go.RowKit
open Vc (AV SV Blk)
/-! ### sampled -/
noncomputable def mLoop : Code := inP (inP (dropP 1 (headP (dropP 3 (codeOf 15)))))
noncomputable def mBody : Code := inP (headP (dropP 1 mLoop))
def mf (n C : Nat) (c t : Int) : List (Nat × AV) := [(0, .sc (.rsl 0 0 n C)), (2, .sc (.ptr 0 0)), (4, .sc (.ptr 1 0)), (5, .sc (.x c)), (6, .sc (.x t))]
def mg (n C : Nat) (c t u v : Int) : List (Nat × AV) := [(0, .sc (.rsl 0 0 n C)), (2, .sc (.ptr 0 0)), (4, .sc (.ptr 1 0)), (5, .sc (.x c)), (6, .sc (.x t)), (7, .sc (.x u)), (8, .sc (.x v))]
def zI : List SV := List.replicate 256 (.i 0)
/-- A byte as a number. -/
def bI (T : Nat → BitVec 8) (x : Int) : Int := ((T (0 + x.toNat * 1)).toNat : Int)
section
variable (C n : Nat) (T : Nat → BitVec 8) (c t u v : Int) (f : Nat → Int)
set_option maxRecDepth 100000 in
theorem m_pre : (Vc.evM (ks 71 [] [(n, .b T)] 0) 71 100 3 (codeOf 15) ⟨Vc.args0 0 [.sc (.rsl 0 0 n C)], []⟩).map (outMk [0, 2, 4, 5] 3) = some ([(0, .sc (.rsl 0 0 n C)), (2, .sc (.ptr 0 0)), (4, .sc (.ptr 1 0)), (5, .sc (.i 0))], [.cells zI, .cells zI], []) := by kernel_rfl
set_option maxRecDepth 100000 in
theorem m_init : (Vc.evC (ks 71 [] [(n, .b T)] 0) 71 100 (headP (headP (dropP 3 (codeOf 15)))) ⟨[(0, .sc (.rsl 0 0 n C)), (2, .sc (.ptr 0 0)), (4, .sc (.ptr 1 0)), (5, .sc (.x c))], [.ri 256 (fun _ => 0), .ri 256 f]⟩).map (outk [0, 2, 4, 5, 6] 2) = some (.normal, [(0, .sc (.rsl 0 0 n C)), (2, .sc (.ptr 0 0)), (4, .sc (.ptr 1 0)), (5, .sc (.x c)), (6, .sc (.i 0))], [.ri 256 (fun _ => 0), .ri 256 f], []) := by kernel_rfl
set_option maxRecDepth 100000 in
theorem m_go : (Vc.evC (ks 71 [(13, true), (14, true)] [(n, .b T)] 0) 71 100 (headP mLoop) ⟨mf n C c t, [.ri 256 (fun _ => 0), .ri 256 f]⟩).map (outk [0, 2, 4, 5, 6] 2) = some (.normal, mf n C c t, [.ri 256 (fun _ => 0), .ri 256 f], [Vc.lo64 ≤ t + 2, t + 2 ≤ Vc.hi64, decide (t + 2 < (n : Int)) = true]) := by kernel_rfl
set_option maxRecDepth 100000 in
theorem m_stop : (Vc.evC (ks 71 [(13, true), (14, false)] [(n, .b T)] 0) 71 100 mLoop ⟨mf n C c t, [.ri 256 (fun _ => 0), .ri 256 f]⟩).map (outk [0, 2, 4, 5, 6] 2) = some (.out 0, mf n C c t, [.ri 256 (fun _ => 0), .ri 256 f], [Vc.lo64 ≤ t + 2, t + 2 ≤ Vc.hi64, decide (t + 2 < (n : Int)) = false]) := by kernel_rfl
set_option maxRecDepth 100000 in
theorem m_nums : (Vc.evM (ks 71 [] [(n, .b T)] 0) 71 100 2 mBody ⟨mf n C c t, [.ri 256 (fun _ => 0), .ri 256 f]⟩).map (outMk [0, 2, 4, 5, 6, 7, 8] 2) =
    some (mg n C c t (bI T t + 256 * (bI T (t + 1) % 16)) (bI T (t + 1) / 16 + 16 * bI T (t + 2)), [.ri 256 (fun _ => 0), .ri 256 f],
      [0 ≤ t, t < (n : Int), 0 + t.toNat * 1 < n, Vc.lo64 ≤ t + 1, t + 1 ≤ Vc.hi64, 0 ≤ t + 1, t + 1 < (n : Int), 0 + (t + 1).toNat * 1 < n, 0 ≤ bI T (t + 1), (0 : Int) < 16, Vc.lo64 ≤ 256 * (bI T (t + 1) % 16), 256 * (bI T (t + 1) % 16) ≤ Vc.hi64,
        Vc.lo64 ≤ bI T t + 256 * (bI T (t + 1) % 16), bI T t + 256 * (bI T (t + 1) % 16) ≤ Vc.hi64, Vc.lo64 ≤ t + 1, t + 1 ≤ Vc.hi64, 0 ≤ t + 1, t + 1 < (n : Int), 0 + (t + 1).toNat * 1 < n, 0 ≤ bI T (t + 1), bI T (t + 1) ≤ Vc.hi64, (0 : Int) < 16, Vc.lo64 ≤ t + 2, t + 2 ≤ Vc.hi64, 0 ≤ t + 2, t + 2 < (n : Int), 0 + (t + 2).toNat * 1 < n,
        Vc.lo64 ≤ 16 * bI T (t + 2), 16 * bI T (t + 2) ≤ Vc.hi64, Vc.lo64 ≤ bI T (t + 1) / 16 + 16 * bI T (t + 2), bI T (t + 1) / 16 + 16 * bI T (t + 2) ≤ Vc.hi64]) := by kernel_rfl
set_option maxRecDepth 100000 in
theorem m_a1 : (Vc.evM (ks 71 [(47, true), (50, true)] [(n, .b T)] 0) 71 100 1 (dropP 2 mBody) ⟨mg n C c t u v, [.ri 256 (fun _ => 0), .ri 256 f]⟩).map (outMk [0, 2, 4, 5, 6, 7, 8] 2) =
    some (mg n C (c + 1) t u v, [.ri 256 (fun _ => 0), .ri 256 (fun j => bif Nat.beq j (0 + c.toNat * 1) then u else f j)], [decide (u < 3329) = true, decide (c < 256) = true, 0 ≤ c, c < 256, 0 + c.toNat * 1 < 256, Vc.lo64 ≤ c + 1, c + 1 ≤ Vc.hi64]) := by kernel_rfl
set_option maxRecDepth 100000 in
theorem m_a2 : (Vc.evM (ks 71 [(47, true), (50, false)] [(n, .b T)] 0) 71 100 1 (dropP 2 mBody) ⟨mg n C c t u v, [.ri 256 (fun _ => 0), .ri 256 f]⟩).map (outMk [0, 2, 4, 5, 6, 7, 8] 2) = some (mg n C c t u v, [.ri 256 (fun _ => 0), .ri 256 f], [decide (u < 3329) = true, decide (c < 256) = false]) := by kernel_rfl
set_option maxRecDepth 100000 in
theorem m_a3 : (Vc.evM (ks 71 [(47, false)] [(n, .b T)] 0) 71 100 1 (dropP 2 mBody) ⟨mg n C c t u v, [.ri 256 (fun _ => 0), .ri 256 f]⟩).map (outMk [0, 2, 4, 5, 6, 7, 8] 2) = some (mg n C c t u v, [.ri 256 (fun _ => 0), .ri 256 f], [decide (u < 3329) = false]) := by kernel_rfl
set_option maxRecDepth 100000 in
theorem m_b1 : (Vc.evC (ks 71 [(58, true), (61, true)] [(n, .b T)] 0) 71 100 (dropP 3 mBody) ⟨mg n C c t u v, [.ri 256 (fun _ => 0), .ri 256 f]⟩).map (outk [0, 2, 4, 5, 6] 2) =
    some (.normal, mf n C (c + 1) t, [.ri 256 (fun _ => 0), .ri 256 (fun j => bif Nat.beq j (0 + c.toNat * 1) then v else f j)], [decide (v < 3329) = true, decide (c < 256) = true, 0 ≤ c, c < 256, 0 + c.toNat * 1 < 256, Vc.lo64 ≤ c + 1, c + 1 ≤ Vc.hi64]) := by kernel_rfl
set_option maxRecDepth 100000 in
theorem m_b2 : (Vc.evC (ks 71 [(58, true), (61, false)] [(n, .b T)] 0) 71 100 (dropP 3 mBody) ⟨mg n C c t u v, [.ri 256 (fun _ => 0), .ri 256 f]⟩).map (outk [0, 2, 4, 5, 6] 2) = some (.normal, mf n C c t, [.ri 256 (fun _ => 0), .ri 256 f], [decide (v < 3329) = true, decide (c < 256) = false]) := by kernel_rfl
set_option maxRecDepth 100000 in
theorem m_b3 : (Vc.evC (ks 71 [(58, false)] [(n, .b T)] 0) 71 100 (dropP 3 mBody) ⟨mg n C c t u v, [.ri 256 (fun _ => 0), .ri 256 f]⟩).map (outk [0, 2, 4, 5, 6] 2) = some (.normal, mf n C c t, [.ri 256 (fun _ => 0), .ri 256 f], [decide (v < 3329) = false]) := by kernel_rfl
set_option maxRecDepth 100000 in
theorem m_nx : (Vc.evC (ks 71 [] [(n, .b T)] 0) 71 100 (dropP 2 mLoop) ⟨mf n C c t, [.ri 256 (fun _ => 0), .ri 256 f]⟩).map (outk [0, 2, 4, 5, 6] 2) = some (.normal, mf n C c (t + 3), [.ri 256 (fun _ => 0), .ri 256 f], [Vc.lo64 ≤ t + 3, t + 3 ≤ Vc.hi64]) := by kernel_rfl
set_option maxRecDepth 100000 in
theorem m_end (r : Bool) : (Vc.evC (ks 71 [(70, r)] [(n, .b T)] 0) 71 100 (dropP 4 (codeOf 15)) ⟨mf n C c t, [.ri 256 (fun _ => 0), .ri 256 f]⟩).map (outk [2, 3] 1) = some (.ret, [(2, .sc (.ptr 0 0)), (3, .sc (.bool r))], [.ri 256 f], [decide (c = 256) = r]) := by kernel_rfl
end
/-- A number is put to those that were found. -/
def pushI (p : (Nat → Int) × Nat) (v : Int) : (Nat → Int) × Nat := if v < 3329 ∧ p.2 < 256 then (fun j => bif Nat.beq j (0 + ((p.2 : Nat) : Int).toNat * 1) then v else p.1 j, p.2 + 1) else p
def oneI (T : Nat → BitVec 8) (t : Nat) : Int := bI T ((3 * t : Nat) : Int) + 256 * (bI T (((3 * t : Nat) : Int) + 1) % 16)
def twoI (T : Nat → BitVec 8) (t : Nat) : Int := bI T (((3 * t : Nat) : Int) + 1) / 16 + 16 * bI T (((3 * t : Nat) : Int) + 2)
def foldI (T : Nat → BitVec 8) : Nat → (Nat → Int) × Nat
  | 0 => (fun _ => 0, 0)
  | t + 1 => pushI (pushI (foldI T t) (oneI T t)) (twoI T t)
theorem pushI_le {p : (Nat → Int) × Nat} {v : Int} (h : p.2 ≤ 256) : (pushI p v).2 ≤ 256 := by
  unfold pushI
  split
  · rename_i h1
    have := h1.2
    simp only
    omega
  · exact h
theorem foldI_le (T : Nat → BitVec 8) : ∀ t, (foldI T t).2 ≤ 256
  | 0 => by simp [foldI]
  | t + 1 => pushI_le (pushI_le (foldI_le T t))
theorem bI_range (T : Nat → BitVec 8) (x : Int) : 0 ≤ bI T x ∧ bI T x < 256 := by
  unfold bI
  have := (T (0 + x.toNat * 1)).isLt
  omega
theorem zI_row : (Blk.cells zI).list = (Blk.ri 256 (fun _ => 0)).list := by kernel_rfl
section
variable {C N : Nat} {T : Nat → BitVec 8} {β0 : Vc.Env} {w0 : World} {Q : Exit → Act → World → Prop}
theorem m_first {p : (Nat → Int) × Nat} (hp : p.2 ≤ 256) {t u v : Int} {β : Vc.Env} {a : Act} {w : World} (hr : Vc.Rel (ks 71 [] [(3 * N, .b T)] 0) [] 0 β0 w0 β ⟨mg (3 * N) C p.2 t u v, [.ri 256 (fun _ => 0), .ri 256 p.1]⟩ a w)
    (hQ : ∀ β' a' w', Vc.Rel (ks 71 [] [(3 * N, .b T)] 0) [] 0 β0 w0 β' ⟨mg (3 * N) C (pushI p u).2 t u v, [.ri 256 (fun _ => 0), .ri 256 (pushI p u).1]⟩ a' w' → (dropP 3 mBody).wp Tryd.prog Q a' w') : (dropP 2 mBody).wp Tryd.prog Q a w := by
  have e3 : dropP 1 (dropP 2 mBody) = dropP 3 mBody := by kernel_rfl
  by_cases h1 : u < 3329
  · by_cases h2 : p.2 < 256
    · refine goM (ks_sound 71 [(47, true), (50, true)] _ 0) (m_a1 C (3 * N) T p.2 t u v p.1) ?_ hr rfl rfl rfl rfl (Nat.zero_le _) fun β' a' w' hr' => ?_
      · simp [Vc.All, Vc.lo64, Vc.hi64]
        omega
      · rw [e3]
        refine hQ β' a' w' ?_
        rw [pushI, if_pos ⟨h1, h2⟩]
        exact hr'
    · refine goM (ks_sound 71 [(47, true), (50, false)] _ 0) (m_a2 C (3 * N) T p.2 t u v p.1) ?_ hr rfl rfl rfl rfl (Nat.zero_le _) fun β' a' w' hr' => ?_
      · simp [Vc.All]
        omega
      · rw [e3]
        refine hQ β' a' w' ?_
        rw [pushI, if_neg (fun h => h2 h.2)]
        exact hr'
  · refine goM (ks_sound 71 [(47, false)] _ 0) (m_a3 C (3 * N) T p.2 t u v p.1) ?_ hr rfl rfl rfl rfl (Nat.zero_le _) fun β' a' w' hr' => ?_
    · simp [Vc.All]
      omega
    · rw [e3]
      refine hQ β' a' w' ?_
      rw [pushI, if_neg (fun h => h1 h.1)]
      exact hr'
theorem m_second {p : (Nat → Int) × Nat} (hp : p.2 ≤ 256) {t u v : Int} {β : Vc.Env} {a : Act} {w : World} (hr : Vc.Rel (ks 71 [] [(3 * N, .b T)] 0) [] 0 β0 w0 β ⟨mg (3 * N) C p.2 t u v, [.ri 256 (fun _ => 0), .ri 256 p.1]⟩ a w)
    (hQ : ∀ β' a' w', Vc.Rel (ks 71 [] [(3 * N, .b T)] 0) [] 0 β0 w0 β' ⟨mf (3 * N) C (pushI p v).2 t, [.ri 256 (fun _ => 0), .ri 256 (pushI p v).1]⟩ a' w' → Q .normal a' w') : (dropP 3 mBody).wp Tryd.prog Q a w := by
  by_cases h1 : v < 3329
  · by_cases h2 : p.2 < 256
    · refine go (ks_sound 71 [(58, true), (61, true)] _ 0) (m_b1 C (3 * N) T p.2 t u v p.1) ?_ hr rfl rfl rfl rfl (Nat.zero_le _) fun β' a' w' hr' => ?_
      · simp [Vc.All, Vc.lo64, Vc.hi64]
        omega
      · refine hQ β' a' w' ?_
        rw [pushI, if_pos ⟨h1, h2⟩]
        exact hr'
    · refine go (ks_sound 71 [(58, true), (61, false)] _ 0) (m_b2 C (3 * N) T p.2 t u v p.1) ?_ hr rfl rfl rfl rfl (Nat.zero_le _) fun β' a' w' hr' => ?_
      · simp [Vc.All]
        omega
      · refine hQ β' a' w' ?_
        rw [pushI, if_neg (fun h => h2 h.2)]
        exact hr'
  · refine go (ks_sound 71 [(58, false)] _ 0) (m_b3 C (3 * N) T p.2 t u v p.1) ?_ hr rfl rfl rfl rfl (Nat.zero_le _) fun β' a' w' hr' => ?_
    · simp [Vc.All]
      omega
    · refine hQ β' a' w' ?_
      rw [pushI, if_neg (fun h => h1 h.1)]
      exact hr'
theorem m_shape : mLoop = .seq (headP mLoop) (.seq (.block 1 mBody) (dropP 2 mLoop)) := by kernel_rfl
theorem m_into {P : Program} {R : Exit → Act → World → Prop} {a : Act} {w : World} (h : (Code.seq (headP mLoop) (.seq (.block 1 mBody) (dropP 2 mLoop))).wp P R a w) : mLoop.wp P R a w := by
  rw [m_shape]
  exact h
theorem m_loop (hN : N ≤ 100000) : ∀ (r t : Nat), t + r = N → ∀ (β : Vc.Env) (a : Act) (w : World), Vc.Rel (ks 71 [] [(3 * N, .b T)] 0) [] 0 β0 w0 β ⟨mf (3 * N) C (foldI T t).2 ((3 * t : Nat) : Int), [.ri 256 (fun _ => 0), .ri 256 (foldI T t).1]⟩ a w →
    (∀ β' a' w', Vc.Rel (ks 71 [] [(3 * N, .b T)] 0) [] 0 β0 w0 β' ⟨mf (3 * N) C (foldI T N).2 ((3 * N : Nat) : Int), [.ri 256 (fun _ => 0), .ri 256 (foldI T N).1]⟩ a' w' → Q (.exit 0) a' w') → Code.rounds Tryd.prog mLoop Q (r + 1) a w
  | 0, t, ht, β, a, w, hr, hQ => by
    obtain rfl : t = N := by omega
    rw [rounds_succ]
    refine go (ks_sound 71 [(13, true), (14, false)] _ 0) (m_stop C (3 * t) T (foldI T t).2 ((3 * t : Nat) : Int) (foldI T t).1) ?_ hr rfl rfl rfl rfl (Nat.zero_le _) fun β' a' w' hr' => hQ β' a' w' hr'
    simp [Vc.All, Vc.lo64, Vc.hi64]
    omega
  | r + 1, t, ht, β, a, w, hr, hQ => by
    rw [rounds_succ]
    refine m_into (wp_seq (go (ks_sound 71 [(13, true), (14, true)] _ 0) (m_go C (3 * N) T (foldI T t).2 ((3 * t : Nat) : Int) (foldI T t).1) ?_ hr rfl rfl rfl rfl (Nat.zero_le _) fun β1 a1 w1 hr1 => ?_))
    · simp [Vc.All, Vc.lo64, Vc.hi64]
      omega
    refine wp_seq (wp_block (goM (ks_sound 71 [] _ 0) (m_nums C (3 * N) T (foldI T t).2 ((3 * t : Nat) : Int) (foldI T t).1) ?_ hr1 rfl rfl rfl rfl (Nat.zero_le _) fun β2 a2 w2 hr2 => ?_))
    · have b0 := bI_range T ((3 * t : Nat) : Int)
      have b1 := bI_range T (((3 * t : Nat) : Int) + 1)
      have b2 := bI_range T (((3 * t : Nat) : Int) + 2)
      generalize bI T ((3 * t : Nat) : Int) = x at b0 ⊢
      generalize bI T (((3 * t : Nat) : Int) + 1) = y at b1 ⊢
      generalize bI T (((3 * t : Nat) : Int) + 2) = z at b2 ⊢
      have hb := Int.emod_lt_of_pos y (b := 16) (by decide)
      have hc := Int.emod_nonneg y (b := 16) (by decide)
      generalize y % 16 = y0 at hb hc ⊢
      simp only [Vc.All, Vc.lo64, Vc.hi64]
      repeat' apply And.intro
      all_goals first | exact True.intro | omega
    refine m_first (foldI_le T t) hr2 fun β3 a3 w3 hr3 => ?_
    refine m_second (pushI_le (foldI_le T t)) hr3 fun β4 a4 w4 hr4 => ?_
    simp only [Exit.inBlock, Exit.then]
    refine go (ks_sound 71 [] _ 0) (m_nx C (3 * N) T _ ((3 * t : Nat) : Int) _) ?_ hr4 rfl rfl rfl rfl (Nat.zero_le _) fun β5 a5 w5 hr5 => ?_
    · simp [Vc.All, Vc.lo64, Vc.hi64]
      omega
    · have e2 : ((3 * t : Nat) : Int) + 3 = ((3 * (t + 1) : Nat) : Int) := by omega
      rw [e2] at hr5
      exact m_loop hN r (t + 1) (by omega) β5 a5 w5 hr5 hQ
end
theorem m_rest : dropP 3 (codeOf 15) = .seq (.seq (headP (headP (dropP 3 (codeOf 15)))) (.block 0 (.loop mLoop))) (dropP 4 (codeOf 15)) := by kernel_rfl
set_option maxRecDepth 100000 in
theorem m_res (ro : List (Nat × Vc.Row)) (f : Nat → Int) (r : Bool) : Vc.result (ks 71 [] ro 0) Tryd.f15 ⟨[(2, .sc (.ptr 0 0)), (3, .sc (.bool r))], [.ri 256 f]⟩ = some (.tupb (.ri 256 f) (.bool r)) := by kernel_rfl
theorem gs_ri (f : Nat → Int) (n : Nat) (β β' : Vc.Env) : (Blk.ri n f).list.map (Vc.gs β) = (Blk.ri n f).list.map (Vc.gs β') := by
  simp only [Blk.list, List.map_map]
  rfl
theorem below_keep0 {w w' : World} {β0 : Vc.Env} (h : Ev.Keep (fun b => ∃ g, g < 0 ∧ β0 g = b) w w') : Below w.heap.size w w' :=
  ⟨h.os, h.tape, h.output, h.size, fun k hk => h.block k hk (fun ⟨_, h1, _⟩ => absurd h1 (Nat.not_lt_zero _))⟩
theorem sampled_calls {N C : Nat} {T : Nat → BitVec 8} {β : Vc.Env} {w : World} (hN : N ≤ 100000) (hro : Vc.RoOk β [(3 * N, .b T)] 0 w) :
    Calls Tryd.prog 15 (([.sc (.rsl 0 0 (3 * N) C)] : List AV).map (Vc.gv β)).toArray w fun e w' => Below w.heap.size w w' ∧ e = .returned (Vc.gv β (.tupb (.ri 256 (foldI T N).1) (.bool (decide ((foldI T N).2 = 256))))) := by
  have hs := Vc.Rel.start (c := ks 71 [] [(3 * N, .b T)] 0) (vs := [.sc (.rsl 0 0 (3 * N) C)]) (mem := []) (β := β) (w := w) (by show 1 ≤ 71; omega) (fun g b h => by simp at h) (fun g g' b b' h => by simp at h) hro (Nat.le_refl 0)
  refine calls_of_wp (c := codeOf 15) Tryd.func15 (by kernel_rfl) ?_
  refine goM (ks_sound 71 [] _ 0) (m_pre C (3 * N) T) trivial hs rfl rfl rfl rfl (Nat.zero_le _) fun β1 a1 w1 hr1 => ?_
  have hr1' := loose (pre := [_, _, _]) (post := []) ((hr1.reblk (g := 0) (b' := .ri 256 (fun _ => 0)) rfl rfl rfl zI_row).reblk (g := 1) (b' := .ri 256 (fun _ => 0)) rfl rfl rfl zI_row)
  rw [m_rest]
  refine wp_seq (wp_seq (go (ks_sound 71 [] _ 0) (m_init C (3 * N) T 0 (fun _ => 0)) trivial hr1' rfl rfl rfl rfl (Nat.zero_le _) fun β2 a2 w2 hr2 => ?_))
  have hr2' := loose (pre := [_, _, _, _]) (post := []) hr2
  refine wp_block (wp_loop_rounds (N + 1) (m_loop hN N 0 (by omega) β2 a2 w2 hr2' fun β3 a3 w3 hr3 => ?_))
  simp only [Exit.inBlock, if_true]
  refine go (ks_sound 71 [(70, decide ((foldI T N).2 = 256))] _ 0) (m_end C (3 * N) T (foldI T N).2 ((3 * N : Nat) : Int) (foldI T N).1 (decide ((foldI T N).2 = 256))) ?_ hr3 rfl rfl rfl rfl (Nat.zero_le _) fun β4 a4 w4 hr4 => ?_
  · refine ⟨?_, trivial⟩
    by_cases h : (foldI T N).2 = 256
    · rw [h]
      rfl
    · rw [decide_eq_false h, decide_eq_false (by omega)]
  · refine ⟨hr4.defers, _, Vc.result_ok hr4 (m_res _ _ _), below_keep0 hr4.keep, ?_⟩
    simp only [Vc.gv, gs_ri _ _ β4 β]
    rfl
end Vk
end Go.Proofs.YtjcbphifdapkdaaDoor
