/-
  The two functions that turn a word by some bits, and what each tells.
-/
import Derived.Test.YtjcbphifdapkdaaDoorRows
import Derived.Test.YtjcbphifdapkdaaDoorEv
import Derived.WalkKit
import Derived.WalkSpells
import Derived.WalkLawsBesides
import Derived.Deep.QuietTactic
import Derived.BigQuiet
namespace Go.Proofs.YtjcbphifdapkdaaDoor
open Go.RowKit
theorem follows : Tryd.prog.follows .mixedOrders = true := by kernel_rfl
/-- A word turned to the left by n bits, n from 1 to 63. -/
def rol (x : BitVec 64) (n : Nat) : BitVec 64 := x <<< n ||| x >>> (64 - n)

theorem bits_or_u64 (a b : BitVec 64) : bits .or .u64 a.toNat b.toNat = ((a ||| b).toNat : Int) := by
  show IntKind.u64.wrap ((BitVec.ofInt 64 (a.toNat : Int) ||| BitVec.ofInt 64 (b.toNat : Int)).toNat : Int) = _
  rw [Ev.ofInt_toNat, Ev.ofInt_toNat, Ev.wrap_toNat64]
theorem shl_lt (x : BitVec 64) (n : Nat) (h : n ≤ 64) : IntKind.u64.wrap ((x.toNat : Int) * 2 ^ n) = ((x <<< n).toNat : Int) := by
  rw [← Ev.shl_u64, Nat.min_eq_left h]
theorem shr_lt (x : BitVec 64) (n : Nat) : (x.toNat : Int) / 2 ^ n = ((x >>> n).toNat : Int) := by
  rw [BitVec.toNat_ushiftRight, Nat.shiftRight_eq_div_pow]
  simp
theorem rol_bits (x : BitVec 64) (n : Nat) (h : n < 64) : bits .or .u64 (IntKind.u64.wrap ((x.toNat : Int) * 2 ^ n)) ((x.toNat : Int) / 2 ^ (64 - n)) = ((rol x n).toNat : Int) := by
  rw [shl_lt x n (by omega), shr_lt, bits_or_u64]
  rfl
theorem ret_int {k : IntKind} {a b : Int} (h : a = b) : Ending.returned (.int k a) = .returned (.int k b) := by rw [h]

set_option maxHeartbeats 400000 in
theorem turn0 (x : Int) (w : World) :
    Calls Tryd.prog 47 #[.int .u64 x, .int .i64 0] w fun e w' => e = .returned (.int .u64 x) ∧ w' = w := by
  go_enter Tryd.func47, Tryd.ntmps47
  go_wp2
  go_ret
  exact ⟨rfl, rfl⟩

set_option maxHeartbeats 400000 in
theorem turnN (x : BitVec 64) (n : Nat) (h0 : 0 < n) (h : n < 64) (w : World) :
    Calls Tryd.prog 47 #[.int .u64 x.toNat, .int .i64 n] w fun e w' => e = .returned (.int .u64 (rol x n).toNat) ∧ ∃ k, w' = w.drewN k := by
  have hb : ((n : Int) == 0) = false := by simp; omega
  go_enter Tryd.func47, Tryd.ntmps47
  go_wp2
  go_quiet (fail)
  go_wp2
  go_ret
  exact ⟨ret_int (rol_bits x n h), _, rfl⟩

/-- The turning function of the statement's side, as the evaluator takes it. -/
def qTurn : FuncId → List Ev.AV → List (List Ev.SV) → Option Ev.AV
  | 47, [.sc (.u64 x), .sc (.i n)], _ => bif decide (0 < n) && decide (n < 64) then some (.sc (.u64 (rol x n.toNat))) else bif decide (n = 0) then some (.sc (.u64 x)) else none
  | _, _, _ => none
/-- The evaluator over this program, that function known by what it tells. -/
noncomputable def cfgT (n : Nat) : Ev.Cfg := ⟨Tryd.prog, n, [], qTurn, fun _ _ _ => none, []⟩

theorem cfgT_sound (n : Nat) : (cfgT n).Sound := by
  refine ⟨follows, ?_, ?_, fun _ _ _ _ h => (by cases h), fun _ _ _ _ _ h => (by cases h)⟩
  · intro f args mem v h xs w
    have h' : qTurn f args mem = some v := h
    unfold qTurn at h'
    split at h' <;> (try simp only [reduceCtorEq] at h')
    exact Tryd.call47 xs w
  · intro f args mem v h β w hm hi _
    have h' : qTurn f args mem = some v := h
    unfold qTurn at h'
    split at h' <;> (try simp only [reduceCtorEq] at h')
    rename_i x m
    cases hb : (decide (0 < m) && decide (m < 64)) with
    | true =>
      rw [hb] at h'
      simp only [Bool.and_eq_true, decide_eq_true_eq] at hb
      simp only [cond_true, Option.some.injEq] at h'
      subst h'
      have hm' : ((m.toNat : Nat) : Int) = m := Int.toNat_of_nonneg (by omega)
      have := turnN x m.toNat (by omega) (by omega) w
      rw [hm'] at this
      exact this
    | false =>
      rw [hb] at h'
      simp only [cond_false] at h'
      cases hz : decide (m = 0) with
      | false => rw [hz] at h'; cases h'
      | true =>
        rw [hz] at h'
        simp only [decide_eq_true_eq] at hz
        simp only [cond_true, Option.some.injEq] at h'
        subst h'
        subst hz
        exact (turn0 (x.toNat : Int) w).mono fun e w' ⟨h1, h2⟩ => ⟨h1, 0, h2⟩
end Go.Proofs.YtjcbphifdapkdaaDoor
