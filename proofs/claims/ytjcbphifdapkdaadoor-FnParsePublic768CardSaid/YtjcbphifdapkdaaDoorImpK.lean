/-
  The program's own Keccak permutation: one pass of its loop is four rounds on 25 words.
-/
import Derived.Test.YtjcbphifdapkdaaDoorSpecQ
namespace Go.Proofs.YtjcbphifdapkdaaDoor
open Go.RowKit
open Ev (AV SV)

/-! ### The rotation of the program's side -/
noncomputable def cfg0 (n : Nat) : Ev.Cfg := ⟨Tryd.prog, n, [], fun _ _ _ => none, fun _ _ _ => none, []⟩
theorem cfg0_sound (n : Nat) : (cfg0 n).Sound := ⟨follows, fun _ _ _ _ h => (by cases h), fun _ _ _ _ h => (by cases h), fun _ _ _ _ h => (by cases h), fun _ _ _ _ _ h => (by cases h)⟩
def rotB (x : BitVec 64) (n : Int) : BitVec 64 := x <<< (BitVec.ofInt 64 n &&& 63#64).toNat ||| x >>> (64#64 - (BitVec.ofInt 64 n &&& 63#64)).toNat
theorem rotB_rol (x : BitVec 64) (n : Nat) (h0 : 0 < n) (h : n < 64) : rotB x n = rol x n := by
  have e : (BitVec.ofInt 64 (n : Int) &&& 63#64) = BitVec.ofNat 64 n := by
    apply BitVec.eq_of_toNat_eq
    rw [BitVec.ofInt_natCast, BitVec.toNat_and]
    have h1 : (BitVec.ofNat 64 n).toNat = n := by rw [BitVec.toNat_ofNat]; omega
    have h2 : (63#64).toNat = 2 ^ 6 - 1 := by decide
    rw [h1, h2, Nat.and_two_pow_sub_one_eq_mod]
    omega
  have h1 : (BitVec.ofNat 64 n).toNat = n := by rw [BitVec.toNat_ofNat]; omega
  have h2 : (64#64 - BitVec.ofNat 64 n).toNat = 64 - n := by
    rw [BitVec.toNat_sub, h1]
    have : (64#64).toNat = 64 := by decide
    omega
  unfold rotB rol
  rw [e, h1, h2]
def outV (r : Option (Ev.Ex × Ev.St)) (c : Ev.Cfg) (t : Nat) : Option (Ev.Ex × Bool × Option AV) := r.map fun p => (p.1, p.2.still, Ev.ev c p.2 (.tmp t))
theorem body59 : Tryd.f59.body = some (bodyOf 59) := by kernel_rfl
set_option maxRecDepth 100000 in
theorem rot_out (x : BitVec 64) (n : Int) : outV (Ev.evC (cfg0 17) 17 100 (bodyOf 59) ⟨Ev.args0 0 [.sc (.u64 x), .sc (.i n)], [], true⟩) (cfg0 17) 4 = some (.ret, true, some (.sc (.u64 (rotB x n)))) := by kernel_rfl
theorem outV_some {r : Option (Ev.Ex × Ev.St)} {c : Ev.Cfg} {t : Nat} {e : Ev.Ex} {b : Bool} {v : AV} (h : outV r c t = some (e, b, some v)) : ∃ s, r = some (e, s) ∧ s.still = b ∧ Ev.ev c s (.tmp t) = some v := by
  unfold outV at h
  cases r with
  | none => cases h
  | some p =>
    simp only [Option.map_some, Option.some.injEq, Prod.mk.injEq] at h
    exact ⟨p.2, by rw [← h.1], h.2.1, h.2.2⟩
theorem rotN (x : BitVec 64) (n : Nat) (h0 : 0 < n) (h : n < 64) (w : World) :
    Calls Tryd.prog 59 #[.int .u64 x.toNat, .int .i64 n] w fun e w' => e = .returned (.int .u64 (rol x n).toNat) ∧ ∃ k, w' = w.drewN k := by
  obtain ⟨s, h1, h2, h3⟩ := outV_some (rot_out x n)
  refine (Ev.calls_tmp (cfg0_sound 17) (β := nob) (mem := []) (w := w) (vs := [.sc (.u64 x), .sc (.i n)]) Tryd.func59 body59 Tryd.ntmps59 rfl (by show 2 ≤ 17; omega) (fun g cs h => by simp at h) (fun g g' hg => by simp at hg) Ev.RoOk.nil h1 (.inr rfl) h3).mono ?_
  rintro e w' ⟨β', a', hr, rfl⟩
  exact ⟨by rw [rotB_rol x n h0 h]; rfl, hr.still h2⟩

/-! ### The loop -/
/-- The rotation, as the evaluator takes it. -/
def qRot : FuncId → List AV → List (List SV) → Option AV
  | 59, [.sc (.u64 x), .sc (.i n)], _ => bif decide (0 < n) && decide (n < 64) then some (.sc (.u64 (rol x n.toNat))) else none
  | _, _, _ => none
noncomputable def cfgR (n : Nat) (gl : List (Nat × List (BitVec 64))) : Ev.Cfg := ⟨Tryd.prog, n, gl, qRot, fun _ _ _ => none, []⟩
theorem cfgR_sound (n : Nat) (gl : List (Nat × List (BitVec 64))) : (cfgR n gl).Sound := by
  refine ⟨follows, ?_, ?_, fun _ _ _ _ h => (by cases h), fun _ _ _ _ _ h => (by cases h)⟩
  · intro f args mem v h xs w
    have h' : qRot f args mem = some v := h
    unfold qRot at h'
    split at h' <;> (try simp only [reduceCtorEq] at h')
    exact Tryd.call59 xs w
  · intro f args mem v h β w hm hi _
    have h' : qRot f args mem = some v := h
    unfold qRot at h'
    split at h' <;> (try simp only [reduceCtorEq] at h')
    rename_i x m
    cases hb : (decide (0 < m) && decide (m < 64)) with
    | true =>
      rw [hb] at h'
      simp only [Bool.and_eq_true, decide_eq_true_eq] at hb
      simp only [cond_true, Option.some.injEq] at h'
      subst h'
      have hm' : ((m.toNat : Nat) : Int) = m := Int.toNat_of_nonneg (by omega)
      have := rotN x m.toNat (by omega) (by omega) w
      rw [hm'] at this
      exact this
    | false => rw [hb] at h'; cases h'

/-- What is left of a row after its first n parts; the first part; what lies in a block, a loop or a row. -/
def dropC : Nat → Code → Code
  | n + 1, .seq _ y => dropC n y
  | _, c => c
def firstC : Code → Code
  | .seq x _ => x
  | c => c
def inC : Code → Code
  | .block _ x => x
  | .loop x => x
  | c => c
theorem evN_rest {c : Ev.Cfg} {K : Nat} : ∀ {n : Nat} {code : Code} {s s' : Ev.St} {rest : Code}, Ev.evN c K n code s = some (s', rest) → rest = dropC n code
  | 0, code, s, s', rest, h => by cases h; cases code <;> rfl
  | n + 1, code, s, s', rest, h => by
    simp only [Ev.evN] at h
    split at h <;> (try simp only [reduceCtorEq] at h)
    split at h <;> (try simp only [reduceCtorEq] at h)
    split at h <;> (try simp only [reduceCtorEq] at h)
    rw [evN_rest h]
    rfl
theorem evM_rest {c : Ev.Cfg} {K fuel : Nat} : ∀ {n : Nat} {code : Code} {s s' : Ev.St} {rest : Code}, Ev.evM c K fuel n code s = some (s', rest) → rest = dropC n code
  | 0, code, s, s', rest, h => by cases h; cases code <;> rfl
  | n + 1, code, s, s', rest, h => by
    simp only [Ev.evM] at h
    split at h <;> (try simp only [reduceCtorEq] at h)
    split at h <;> (try simp only [reduceCtorEq] at h)
    rw [evM_rest h]
    rfl
noncomputable def kLoop : Code := inC (inC (dropC 7 (bodyOf 55)))
noncomputable def kBody : Code := inC (firstC (dropC 1 kLoop))
noncomputable def cfgK : Ev.Cfg := cfgR 2267 [(0, RCN)]
/-- Block 0: the bytes; 1: the box of the state's address; 2: the box of the words' address; 3: the words. -/
def kSt (D : List SV) (i : Int) (xs : List SV) : Ev.St := ⟨[(1, .sc (.ptr 1 0)), (2, .sc (.ptr 2 0)), (15, .sc (.i i))], [D, [.ptr 0 0], [.ptr 3 0], xs], false⟩
def kOut (s : Ev.St) : List (Nat × AV) × List (List SV) × Bool := (Ev.only s.fr [1, 2, 15], s.mem, s.still)
def kOutN (p : Ev.St × Code) : List (Nat × AV) × List (List SV) × Bool := kOut p.1
def kOutE (p : Ev.Ex × Ev.St) : Ev.Ex × List (Nat × AV) × List (List SV) × Bool := (p.1, kOut p.2)

/-- Where a word lies after so many rounds. -/
def pm (i : Nat) : Nat := i % 5 + 5 * ((i % 5 + 2 * (i / 5)) % 5)
/-- Which word lies at a place after so many rounds. -/
def pv : Nat → Nat → Nat
  | 0, i => i
  | 1, i => pm (pm (pm i))
  | 2, i => pm (pm i)
  | 3, i => pm i
  | _, i => i
def phys (r : Nat) (x : Nat → BitVec 64) (p : Nat) : BitVec 64 := x (pv r p)
def colR (r : Nat) (x : Nat → BitVec 64) (i : Nat) : BitVec 64 := x (pv r i) ^^^ x (pv r (i + 5)) ^^^ x (pv r (i + 10)) ^^^ x (pv r (i + 15)) ^^^ x (pv r (i + 20))
def dR (r : Nat) (x : Nat → BitVec 64) (i : Nat) : BitVec 64 := colR r x ((i + 4) % 5) ^^^ rol (colR r x ((i + 1) % 5)) 1
def thetaR (r : Nat) (x : Nat → BitVec 64) (i : Nat) : BitVec 64 := x i ^^^ dR r x (i % 5)
def chiR (x : Nat → BitVec 64) (i : Nat) : BitVec 64 := x i ^^^ (x ((i + 2) % 5 + 5 * (i / 5)) &&& ~~~(x ((i + 1) % 5 + 5 * (i / 5))))
def rndR (r : Nat) (c : BitVec 64) (x : Nat → BitVec 64) (i : Nat) : BitVec 64 := match i with
  | 0 => chiR (piF (rhoF (thetaR r x))) 0 ^^^ c
  | i => chiR (piF (rhoF (thetaR r x))) i

end Go.Proofs.YtjcbphifdapkdaaDoor
