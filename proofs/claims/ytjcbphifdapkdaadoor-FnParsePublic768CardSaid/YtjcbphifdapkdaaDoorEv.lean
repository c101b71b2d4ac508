/-
  A small symbolic evaluator for the model's code (loads, stores, whole numbers, counted loops), and the proof that what it tells is what every run does.
  Conditions: no operation is guarded; numbers are of the kinds uint8, uint64 and int; a region whose order is left open only reads, but for a store at its end.
-/
import Derived.StillTail
import Derived.Deep.Quiet
import Derived.LoopN
import Derived.Laws.Rows
import Derived.Laws.CopyRow
import Derived.Below
import Derived.Tactics
namespace Go.Proofs.YtjcbphifdapkdaaDoor
namespace Ev
open Go

/-! ### Plain facts on numbers -/
theorem wrap_u64 (n : Nat) (h : n < 18446744073709551616) : IntKind.u64.wrap (n : Int) = (n : Int) := by
  simp only [IntKind.wrap, IntKind.bits, IntKind.signed, Bool.false_and, Bool.false_eq_true, if_false]
  omega
theorem wrap_u8 (n : Nat) (h : n < 256) : IntKind.u8.wrap (n : Int) = (n : Int) := by
  simp only [IntKind.wrap, IntKind.bits, IntKind.signed, Bool.false_and, Bool.false_eq_true, if_false]
  omega
theorem ofInt_toNat {k : Nat} (x : BitVec k) : BitVec.ofInt k (x.toNat : Int) = x := by
  rw [BitVec.ofInt_natCast, BitVec.ofNat_toNat, BitVec.setWidth_eq]
theorem wrap_toNat64 (x : BitVec 64) : IntKind.u64.wrap (x.toNat : Int) = (x.toNat : Int) := wrap_u64 _ (by have := x.isLt; omega)
theorem wrap_toNat8 (x : BitVec 8) : IntKind.u8.wrap (x.toNat : Int) = (x.toNat : Int) := wrap_u8 _ (by have := x.isLt; omega)
theorem shl_u64 (x : BitVec 64) (n : Nat) : IntKind.u64.wrap ((x.toNat : Int) * 2 ^ min n 64) = ((x <<< n).toNat : Int) := by
  rcases Nat.le_total n 64 with h | h
  · rw [Nat.min_eq_left h, BitVec.toNat_shiftLeft, Nat.shiftLeft_eq]
    have e : (x.toNat : Int) * 2 ^ n = ((x.toNat * 2 ^ n : Nat) : Int) := by simp
    rw [e]
    simp only [IntKind.wrap, IntKind.bits, IntKind.signed, Bool.false_and, Bool.false_eq_true, if_false]
    omega
  · rw [Nat.min_eq_right h, BitVec.shiftLeft_eq_zero h]
    simp only [IntKind.wrap, IntKind.bits, IntKind.signed, Bool.false_and, Bool.false_eq_true, if_false]
    simp
theorem shr_u64 (x : BitVec 64) (n : Nat) : Int.fdiv (x.toNat : Int) (2 ^ min n 64) = ((x >>> n).toNat : Int) := by
  have key : ∀ m : Nat, Int.fdiv (x.toNat : Int) (2 ^ m) = ((x.toNat / 2 ^ m : Nat) : Int) := fun m => by
    rw [Int.fdiv_eq_ediv_of_nonneg _ (by exact_mod_cast Nat.zero_le _)]
    simp
  rw [key, BitVec.toNat_ushiftRight, Nat.shiftRight_eq_div_pow]
  rcases Nat.le_total n 64 with h | h
  · rw [Nat.min_eq_left h]
  · rw [Nat.min_eq_right h, Nat.div_eq_of_lt x.isLt, Nat.div_eq_of_lt (Nat.lt_of_lt_of_le x.isLt (Nat.pow_le_pow_right (by omega) h))]

theorem sub_u64 (x y : BitVec 64) : IntKind.u64.wrap ((x.toNat : Int) - (y.toNat : Int)) = ((x - y).toNat : Int) := by
  rw [BitVec.toNat_sub]
  have := x.isLt
  have := y.isLt
  simp only [IntKind.wrap, IntKind.bits, IntKind.signed, Bool.false_and, Bool.false_eq_true, if_false]
  omega

theorem wrap_u16 (n : Nat) (h : n < 65536) : IntKind.u16.wrap (n : Int) = (n : Int) := by
  simp only [IntKind.wrap, IntKind.bits, IntKind.signed, Bool.false_and, Bool.false_eq_true, if_false]
  omega
theorem wrap_toNat16 (x : BitVec 16) : IntKind.u16.wrap (x.toNat : Int) = (x.toNat : Int) := wrap_u16 _ (by have := x.isLt; omega)
theorem shl_u16 (x : BitVec 16) (n : Nat) : IntKind.u16.wrap ((x.toNat : Int) * 2 ^ min n 16) = ((x <<< n).toNat : Int) := by
  rcases Nat.le_total n 16 with h | h
  · rw [Nat.min_eq_left h, BitVec.toNat_shiftLeft, Nat.shiftLeft_eq]
    have e : (x.toNat : Int) * 2 ^ n = ((x.toNat * 2 ^ n : Nat) : Int) := by simp
    rw [e]
    simp only [IntKind.wrap, IntKind.bits, IntKind.signed, Bool.false_and, Bool.false_eq_true, if_false]
    omega
  · rw [Nat.min_eq_right h, BitVec.shiftLeft_eq_zero h]
    simp only [IntKind.wrap, IntKind.bits, IntKind.signed, Bool.false_and, Bool.false_eq_true, if_false]
    simp
theorem shr_any {k : Nat} (x : BitVec k) (n : Nat) : Int.fdiv (x.toNat : Int) (2 ^ min n k) = ((x >>> n).toNat : Int) := by
  have key : ∀ m : Nat, Int.fdiv (x.toNat : Int) (2 ^ m) = ((x.toNat / 2 ^ m : Nat) : Int) := fun m => by
    rw [Int.fdiv_eq_ediv_of_nonneg _ (by exact_mod_cast Nat.zero_le _)]
    simp
  rw [key, BitVec.toNat_ushiftRight, Nat.shiftRight_eq_div_pow]
  rcases Nat.le_total n k with h | h
  · rw [Nat.min_eq_left h]
  · rw [Nat.min_eq_right h, Nat.div_eq_of_lt x.isLt, Nat.div_eq_of_lt (Nat.lt_of_lt_of_le x.isLt (Nat.pow_le_pow_right (by omega) h))]
theorem add_u8 (x y : BitVec 8) : IntKind.u8.wrap ((x.toNat : Int) + (y.toNat : Int)) = ((x + y).toNat : Int) := by
  rw [BitVec.toNat_add]
  simp only [IntKind.wrap, IntKind.bits, IntKind.signed, Bool.false_and, Bool.false_eq_true, if_false]
  omega
theorem mul_u8 (x y : BitVec 8) : IntKind.u8.wrap ((x.toNat : Int) * (y.toNat : Int)) = ((x * y).toNat : Int) := by
  rw [BitVec.toNat_mul]
  simp only [IntKind.wrap, IntKind.bits, IntKind.signed, Bool.false_and, Bool.false_eq_true, if_false]
  simp

theorem not_u64 (x : BitVec 64) : IntKind.u64.wrap ((BitVec.ofInt 64 (if IntKind.u64.signed then -1 else IntKind.u64.max) ^^^ BitVec.ofInt 64 (x.toNat : Int)).toNat : Int) = ((~~~x).toNat : Int) := by
  have e : BitVec.ofInt 64 (if IntKind.u64.signed then -1 else IntKind.u64.max) = BitVec.allOnes 64 := by decide
  rw [e, ofInt_toNat, wrap_toNat64, BitVec.xor_comm, BitVec.xor_allOnes]

/-! ### Values -/
/-- What one cell holds: numbers, truth values, and pointers and slices into a numbered block of the evaluator's own list. -/
inductive SV where
  | u8 (x : BitVec 8)
  | u16 (x : BitVec 16)
  | u64 (x : BitVec 64)
  | i (n : Int)
  | bool (b : Bool)
  | ptr (g off : Nat)
  | sl (g off len cap : Nat)
  | rptr (g off : Nat)
  | rsl (g off len cap : Nat)
  | gptr (g off : Nat)
  | nosl
  | nop
  | noif

inductive AV where
  | sc (s : SV)
  | agg (xs : List SV)
  | tup (xs : List SV)
  | junk

/-- Where the numbered blocks lie; where the numbered rows of bytes lie that are read alone. -/
structure Env where
  b : Nat → Nat
  r : Nat → Nat × Nat
instance : CoeFun Env (fun _ => Nat → Nat) := ⟨Env.b⟩

def gs (β : Env) : SV → Value
  | .u8 x => .int .u8 x.toNat
  | .u16 x => .int .u16 x.toNat
  | .u64 x => .int .u64 x.toNat
  | .i n => .int .i64 n
  | .bool b => .bool b
  | .ptr g off => .pointer (some ⟨β g, off, none⟩)
  | .sl g off len cap => .slice (some ⟨β g, off, none⟩) len cap
  | .rptr g off => .pointer (some ⟨(β.r g).1, (β.r g).2 + off, none⟩)
  | .rsl g off len cap => .slice (some ⟨(β.r g).1, (β.r g).2 + off, none⟩) len cap
  | .gptr g off => .pointer (some ⟨g, off, none⟩)
  | .nosl => .slice none 0 0
  | .nop => .pointer none
  | .noif => .nilIface

def gv (β : Env) : AV → Value
  | .sc s => gs β s
  | .agg xs => .agg (xs.map (gs β)).toArray
  | .tup xs => .tuple (xs.map (gs β)).toArray
  | .junk => undef

theorem gs_one (β : Env) (s : SV) : (gs β s).oneCell' = true := by cases s <;> rfl
theorem gs_cells (β : Env) (s : SV) : (gs β s).cells = #[gs β s] := by cases s <;> rfl

def cv : Value → Option SV
  | .int .u64 n => bif decide (0 ≤ n) && decide (n < 18446744073709551616) then some (.u64 (BitVec.ofNat 64 n.toNat)) else none
  | .int .u8 n => bif decide (0 ≤ n) && decide (n < 256) then some (.u8 (BitVec.ofNat 8 n.toNat)) else none
  | .int .u16 n => bif decide (0 ≤ n) && decide (n < 65536) then some (.u16 (BitVec.ofNat 16 n.toNat)) else none
  | .int .i64 n => some (.i n)
  | .bool b => some (.bool b)
  | .slice none 0 0 => some .nosl
  | .pointer none => some .nop
  | .nilIface => some .noif
  | _ => none

theorem cv_ok {v : Value} {s : SV} (h : cv v = some s) (β : Env) : gs β s = v := by
  unfold cv at h
  split at h
  · rename_i n
    cases hb : (decide (0 ≤ n) && decide (n < 18446744073709551616)) with
    | false => rw [hb] at h; cases h
    | true =>
      rw [hb] at h
      simp only [Bool.and_eq_true, decide_eq_true_eq] at hb
      simp only [cond_true, Option.some.injEq] at h
      subst h
      simp only [gs, BitVec.toNat_ofNat]
      congr 1
      omega
  · rename_i n
    cases hb : (decide (0 ≤ n) && decide (n < 256)) with
    | false => rw [hb] at h; cases h
    | true =>
      rw [hb] at h
      simp only [Bool.and_eq_true, decide_eq_true_eq] at hb
      simp only [cond_true, Option.some.injEq] at h
      subst h
      simp only [gs, BitVec.toNat_ofNat]
      congr 1
      omega
  · rename_i n
    cases hb : (decide (0 ≤ n) && decide (n < 65536)) with
    | false => rw [hb] at h; cases h
    | true =>
      rw [hb] at h
      simp only [Bool.and_eq_true, decide_eq_true_eq] at hb
      simp only [cond_true, Option.some.injEq] at h
      subst h
      simp only [gs, BitVec.toNat_ofNat]
      congr 1
      omega
  · cases h; rfl
  · cases h; rfl
  · cases h; rfl
  · cases h; rfl
  · cases h; rfl
  · cases h

def cvs : List Value → Option (List SV)
  | [] => some []
  | v :: r => match cv v, cvs r with
    | some s, some ss => some (s :: ss)
    | _, _ => none

theorem cvs_ok : ∀ {vs : List Value} {ss : List SV}, cvs vs = some ss → ∀ β, ss.map (gs β) = vs
  | [], ss, h, β => by cases h; rfl
  | v :: r, ss, h, β => by
    simp only [cvs] at h
    split at h
    · rename_i s ss' h1 h2
      cases h
      simp [cv_ok h1 β, cvs_ok h2 β]
    · cases h

/-! ### Operators -/
def i64w (n : Int) : SV := .i (IntKind.i64.wrap n)

def bin (op : BinOp) : SV → SV → Option SV
  | .u64 x, .u64 y => match op with
    | .xor => some (.u64 (x ^^^ y))
    | .or => some (.u64 (x ||| y))
    | .and => some (.u64 (x &&& y))
    | .andNot => some (.u64 (x &&& ~~~y))
    | .shl => some (.u64 (x <<< y.toNat))
    | .shr => some (.u64 (x >>> y.toNat))
    | .sub => some (.u64 (x - y))
    | _ => none
  | .u64 x, .i n => match op with
    | .shl => bif decide (0 ≤ n) then some (.u64 (x <<< n.toNat)) else none
    | .shr => bif decide (0 ≤ n) then some (.u64 (x >>> n.toNat)) else none
    | _ => none
  | .u8 x, .u8 y => match op with
    | .xor => some (.u8 (x ^^^ y))
    | .add => some (.u8 (x + y))
    | .mul => some (.u8 (x * y))
    | .and => some (.u8 (x &&& y))
    | .lss => some (.bool ((x.toNat : Int) < (y.toNat : Int)))
    | _ => none
  | .u16 x, .u16 y => match op with
    | .or => some (.u16 (x ||| y))
    | .and => some (.u16 (x &&& y))
    | .lss => some (.bool ((x.toNat : Int) < (y.toNat : Int)))
    | .geq => some (.bool ((x.toNat : Int) ≥ (y.toNat : Int)))
    | _ => none
  | .u16 x, .u64 y => match op with
    | .shl => some (.u16 (x <<< y.toNat))
    | .shr => some (.u16 (x >>> y.toNat))
    | _ => none
  | .u8 x, .i n => match op with
    | .shr => bif decide (0 ≤ n) then some (.u8 (x >>> n.toNat)) else none
    | _ => none
  | .i a, .i b => match op with
    | .add => some (i64w (a + b))
    | .sub => some (i64w (a - b))
    | .mul => some (i64w (a * b))
    | .quo => bif decide (b = 0) then none else some (i64w (a.tdiv b))
    | .rem => bif decide (b = 0) then none else some (.i (a.tmod b))
    | .and => some (i64w (BitVec.ofInt 64 a &&& BitVec.ofInt 64 b).toNat)
    | .xor => some (i64w (BitVec.ofInt 64 a ^^^ BitVec.ofInt 64 b).toNat)
    | .eql => some (.bool (a == b))
    | .neq => some (.bool (a != b))
    | .lss => some (.bool (a < b))
    | .leq => some (.bool (a ≤ b))
    | .gtr => some (.bool (a > b))
    | .geq => some (.bool (a ≥ b))
    | _ => none
  | .i a, .u64 c => match op with
    | .shl => some (i64w (a * 2 ^ min c.toNat 64))
    | _ => none
  | _, _ => none

theorem bin_ok {op : BinOp} {x y z : SV} (h : bin op x y = some z) (β : Env) (P : Program) (t : TypeId) (ox oy : Operand) (w : World) :
    (do eqGuard op t ox oy (gs β x) (gs β y); binOp op t (gs β x) (gs β y)).run P w = .ok (gs β z) w := by
  have hg : ∀ k a k' b, (eqGuard op t ox oy (.int k a) (.int k' b)).run P w = .ok () w := by
    intro k a k' b
    unfold eqGuard
    cases op <;> simp
  cases x <;> cases y <;> simp only [bin] at h <;> (try cases h) <;> simp only [gs, Sem.run_bind, hg, Result.andThen_ok] <;> (cases op <;> simp only [reduceCtorEq, Option.some.injEq] at h) <;> (try subst h) <;>
    simp only [binOp, ne_eq, not_true_eq_false, if_false, Op.intBits, Op.intArith, Op.intDiv, Op.intCmp, Op.shift, IntKind.bits, Sem.run_pure, ofInt_toNat, wrap_toNat64, wrap_toNat16, wrap_toNat8, i64w, Sem.run_ite]
  all_goals first
    | rfl
    | (rw [if_neg (by omega)]; simp only [Int.toNat_natCast, shl_u64, shl_u16, shr_any]; done)
    | skip
  case u64.u64.sub => exact congrArg (fun n => Result.ok (Value.int .u64 n) w) (sub_u64 _ _)
  case u64.i.shl =>
    rename_i a b
    cases hb : decide (0 ≤ b) <;> rw [hb] at h <;> simp at h hb
    subst h
    rw [if_neg (by omega)]
    simp only [shl_u64]
  case u8.i.shr =>
    rename_i a b
    cases hb : decide (0 ≤ b) <;> rw [hb] at h <;> simp at h hb
    subst h
    rw [if_neg (by omega)]
    simp only [shr_any]
  case u64.i.shr =>
    rename_i a b
    cases hb : decide (0 ≤ b) <;> rw [hb] at h <;> simp at h hb
    subst h
    rw [if_neg (by omega)]
    simp only [shr_u64]
  case i.i.quo =>
    rename_i a b
    cases hb : decide (b = 0) <;> rw [hb] at h <;> simp at h hb
    subst h
    simp [hb, i64w]
  case i.i.rem =>
    rename_i a b
    cases hb : decide (b = 0) <;> rw [hb] at h <;> simp at h hb
    subst h
    simp [hb]

/-! ### States -/
/-- What is given: the program; how many slots the frame has; which numbered block a package-level variable is; what functions that only look, and functions that write, tell. -/
structure Cfg where
  P : Program
  N : Nat
  gl : List (Nat × List (BitVec 64))
  q : FuncId → List AV → List (List SV) → Option AV
  wf : FuncId → List AV → List (List SV) → Option (AV × List (List SV))
  /-- The rows that are read alone. -/
  ro : List (List (BitVec 8)) := []

structure St where
  fr : List (Nat × AV)
  mem : List (List SV)
  /-- Nothing has been written or made so far. -/
  still : Bool

def look : List (Nat × AV) → Nat → Option AV
  | [], _ => none
  | (k, v) :: r, d => bif Nat.beq k d then some v else look r d

def glook : List (Nat × List (BitVec 64)) → Nat → Option (List (BitVec 64))
  | [], _ => none
  | (k, v) :: r, d => bif Nat.beq k d then some v else glook r d

def ev (c : Cfg) (s : St) : Operand → Option AV
  | .tmp t => match look s.fr t with
    | some .junk => none
    | r => r
  | .const v => match cv v with
    | some x => some (.sc x)
    | none => none
  | .global g => match glook c.gl g with
    | some _ => some (.sc (.gptr g 0))
    | none => none
  | .func _ => none

def evs (c : Cfg) (s : St) : List Operand → Option (List AV)
  | [] => some []
  | x :: r => match ev c s x, evs c s r with
    | some v, some vs => some (v :: vs)
    | _, _ => none

def FrOk (β : Env) (fr : List (Nat × AV)) (tmps : Array Value) : Prop :=
  ∀ d v, look fr d = some v → v = .junk ∨ tmps[d]? = some (gv β v)
def MemOk (β : Env) (mem : List (List SV)) (w : World) : Prop :=
  ∀ g cs, mem[g]? = some cs → ∃ e, w.heap[β g]? = some (.cells (cs.map (gs β)).toArray e (0, 0))
/-- The rows that are read alone, and the package-level variables that are known, lie apart from the first n blocks. -/
def RoOk (β : Env) (ro : List (List (BitVec 8))) (gl : List (Nat × List (BitVec 64))) (n : Nat) (w : World) : Prop :=
  (∀ g cs, ro[g]? = some cs → (β.r g).1 < w.heap.size ∧ (∀ g', g' < n → β g' ≠ (β.r g).1) ∧ ∀ j (x : BitVec 8), cs[j]? = some x → w.cell? ⟨(β.r g).1, (β.r g).2 + j, none⟩ = some (.int .u8 x.toNat)) ∧
  (∀ g cs, glook gl g = some cs → g < w.heap.size ∧ (∀ g', g' < n → β g' ≠ g) ∧ ∀ j (x : BitVec 64), cs[j]? = some x → w.cell? ⟨g, j, none⟩ = some (.int .u64 x.toNat))
theorem RoOk.nil {β : Env} {n : Nat} {w : World} : RoOk β [] [] n w := ⟨fun g cs h => by simp at h, fun g cs h => by cases h⟩
theorem RoOk.drewN {β : Env} {ro : List (List (BitVec 8))} {gl : List (Nat × List (BitVec 64))} {n : Nat} {w : World} (h : RoOk β ro gl n w) (k : Nat) : RoOk β ro gl n (w.drewN k) := h
theorem RoOk.atg {β : Env} {ro : List (List (BitVec 8))} {gl : List (Nat × List (BitVec 64))} {n : Nat} {w : World} (h : RoOk β ro gl n w) {g : Nat} {cs : List (BitVec 64)} (hg : glook gl g = some cs) {j : Nat} {x : BitVec 64} (hx : cs[j]? = some x) : w.cell? ⟨g, j, none⟩ = some (.int .u64 x.toNat) := (h.2 g cs hg).2.2 j x hx
theorem RoOk.at_ {β : Env} {ro : List (List (BitVec 8))} {gl : List (Nat × List (BitVec 64))} {n : Nat} {w : World} (h : RoOk β ro gl n w) {g : Nat} {cs : List (BitVec 8)} (hg : ro[g]? = some cs) {j : Nat} {x : BitVec 8} (hx : cs[j]? = some x) : w.cell? ⟨(β.r g).1, (β.r g).2 + j, none⟩ = some (.int .u8 x.toNat) := (h.1 g cs hg).2.2 j x hx
theorem RoOk.block {β : Env} {ro : List (List (BitVec 8))} {gl : List (Nat × List (BitVec 64))} {n n' : Nat} {w w' : World} (h : RoOk β ro gl n w) (hs : w.heap.size ≤ w'.heap.size) (hn : ∀ g, n ≤ g → g < n' → w.heap.size ≤ β g) (hb : ∀ k, k < w.heap.size → (∀ g', g' < n → β g' ≠ k) → w'.heap[k]? = w.heap[k]?) : RoOk β ro gl n' w' := by
  have key : ∀ b, b < w.heap.size → (∀ g', g' < n → β g' ≠ b) → ∀ g', g' < n' → β g' ≠ b := fun b h1 h2 g' hg' => by
    rcases Nat.lt_or_ge g' n with h4 | h4
    · exact h2 g' h4
    · have := hn g' h4 hg'
      omega
  refine ⟨fun g cs hg => ?_, fun g cs hg => ?_⟩
  · obtain ⟨h1, h2, h3⟩ := h.1 g cs hg
    refine ⟨Nat.lt_of_lt_of_le h1 hs, key _ h1 h2, fun j x hx => ?_⟩
    have := h3 j x hx
    unfold World.cell? at this ⊢
    rw [hb _ h1 h2]
    exact this
  · obtain ⟨h1, h2, h3⟩ := h.2 g cs hg
    refine ⟨Nat.lt_of_lt_of_le h1 hs, key _ h1 h2, fun j x hx => ?_⟩
    have := h3 j x hx
    unfold World.cell? at this ⊢
    rw [hb _ h1 h2]
    exact this
theorem MemOk.drewN {β : Env} {mem : List (List SV)} {w : World} (h : MemOk β mem w) (n : Nat) : MemOk β mem (w.drewN n) := h

theorem ev_ok {c : Cfg} {s : St} {β : Env} {a : Act} (hf : FrOk β s.fr a.tmps) {x : Operand} {v : AV} (h : ev c s x = some v) : a.eval x = gv β v := by
  cases x with
  | tmp t =>
    simp only [ev] at h
    cases hl : look s.fr t with
    | none => rw [hl] at h; cases h
    | some u =>
      rw [hl] at h
      have hu : u ≠ .junk ∧ u = v := by
        cases u <;> simp only [Option.some.injEq, reduceCtorEq] at h <;> exact ⟨by simp, h⟩
      obtain ⟨h1, rfl⟩ := hu
      rcases hf t u hl with h2 | h2
      · exact absurd h2 h1
      · simp [Act.eval, h2]
  | const u =>
    simp only [ev] at h
    cases hc : cv u with
    | none => rw [hc] at h; cases h
    | some y => rw [hc] at h; cases h; exact (cv_ok hc β).symm
  | global g =>
    simp only [ev] at h
    cases hc : glook c.gl g with
    | none => rw [hc] at h; cases h
    | some _ => rw [hc] at h; cases h; rfl
  | func f => cases h

theorem evs_ok {c : Cfg} {s : St} {β : Env} {a : Act} (hf : FrOk β s.fr a.tmps) : ∀ {xs : List Operand} {vs : List AV}, evs c s xs = some vs → xs.map a.eval = vs.map (gv β)
  | [], vs, h => by cases h; rfl
  | x :: r, vs, h => by
    simp only [evs] at h
    split at h
    · rename_i v vs' h1 h2
      cases h
      simp [ev_ok hf h1, evs_ok hf h2]
    · cases h

/-- How a type lies: 'none': one cell; 'some n': n cells. -/
def lies (P : Program) (t : TypeId) : Option (Option Nat) :=
  match P.underlying t, P.info? t with
  | some (.struct _), some i => some (some i.size)
  | some (.array _ _), some i => some (some i.size)
  | some _, some i => bif Nat.beq i.size 1 then some none else none
  | _, _ => none

def conv (k : IntKind) : SV → Option SV
  | .u8 x => match k with
    | .u64 => some (.u64 (x.setWidth 64))
    | .u16 => some (.u16 (x.setWidth 16))
    | .i64 => some (.i x.toNat)
    | _ => none
  | .u64 x => match k with
    | .u8 => some (.u8 (x.setWidth 8))
    | _ => none
  | .i n => match k with
    | .u64 => some (.u64 (BitVec.ofInt 64 n))
    | .u8 => some (.u8 (BitVec.ofInt 8 n))
    | _ => none
  | _ => none

theorem conv_ok {k : IntKind} {x y : SV} (h : conv k x = some y) (β : Env) {P : Program} {src dst : TypeId} {d : TypeDesc} (hs : P.underlying src = some d) (hd : P.underlying dst = some (.int k)) (w : World) :
    (convert src dst (gs β x)).run P w = .ok (gs β y) w := by
  have key : ∀ k' n, (convert src dst (.int k' n)).run P w = .ok (.int k (k.wrap n)) w := fun k' n => by
    simp only [convert, Sem.run_bind, run_underlying hs, run_underlying hd, Result.andThen_ok, Conv.intToInt, Sem.run_pure]
  have ri : ∀ {k : IntKind} {a b : Int}, a = b → Result.ok (Value.int k a) w = Result.ok (Value.int k b) w := fun h => by rw [h]
  cases x <;> simp only [conv] at h <;> (try cases h) <;> cases k <;> simp only [reduceCtorEq, Option.some.injEq] at h <;> subst h <;> simp only [gs, key]
  · rename_i x
    have := x.isLt
    refine ri ?_
    simp only [IntKind.wrap, IntKind.bits, IntKind.signed]
    simp
    omega
  · rename_i x
    rw [BitVec.toNat_setWidth, Nat.mod_eq_of_lt (by have := x.isLt; omega), wrap_u16 _ (by have := x.isLt; omega)]
  · rename_i x
    rw [BitVec.toNat_setWidth, Nat.mod_eq_of_lt (by have := x.isLt; omega), wrap_u64 _ (by have := x.isLt; omega)]
  · rename_i x
    refine ri ?_
    rw [BitVec.toNat_setWidth]
    simp only [IntKind.wrap, IntKind.bits, IntKind.signed, Bool.false_and, Bool.false_eq_true, if_false]
    rfl
  all_goals
    refine ri ?_
    rw [BitVec.toNat_ofInt]
    simp only [IntKind.wrap, IntKind.bits, IntKind.signed, Bool.false_and, Bool.false_eq_true, if_false]
    omega

/-- The cells of a type's zero value. -/
def zeros (P : Program) (t : TypeId) : Option (List SV) :=
  match P.info? t with
  | some i => match i.zero with
    | some z => cvs z.cells.toList
    | none => none
  | none => none

def put (l : List SV) (off : Nat) (xs : List SV) : List SV := l.take off ++ xs ++ l.drop (off + xs.length)

def cellsOf : AV → Option (List SV)
  | .sc s => some [s]
  | .agg xs => some xs
  | .tup _ => none
  | .junk => none

/-! ### Operations that only look -/
/-- A bound of a slice: at most y; d where none is given. -/
def bnd (c : Cfg) (s : St) (y d : Nat) : Option Operand → Option Nat
  | none => some d
  | some o => match ev c s o with
    | some (.sc (.i k)) => bif decide (0 ≤ k) && Nat.ble k.toNat y then some k.toNat else none
    | _ => none
theorem bnd_none {c : Cfg} {s : St} {y d m : Nat} (h : bnd c s y d none = some m) : m = d := by cases h; rfl
theorem bnd_some {c : Cfg} {s : St} {β : Env} {a : Act} (hf : FrOk β s.fr a.tmps) {y d m : Nat} {o : Operand} (h : bnd c s y d (some o) = some m) (code : BoundsCode) (w : World) :
    (Instr.sliceBound (a.eval o) y code).run c.P w = .ok m w := by
  simp only [bnd] at h
  split at h <;> (try simp only [reduceCtorEq] at h)
  rename_i k hk
  cases hb : (decide (0 ≤ k) && Nat.ble k.toNat y) with
  | false => rw [hb] at h; cases h
  | true =>
    rw [hb] at h
    simp only [Bool.and_eq_true, decide_eq_true_eq] at hb
    simp only [cond_true, Option.some.injEq] at h
    subst h
    have hb2 := Nat.le_of_ble_eq_true hb.2
    replace hb : 0 ≤ k ∧ k ≤ (y : Int) := ⟨hb.1, by have := hb.1; omega⟩
    simp only [Instr.sliceBound, ev_ok hf hk, gv, gs, asIntOf, Sem.run_bind, Sem.run_pure, Result.andThen_ok, if_pos hb]
theorem bnds {c : Cfg} {s : St} {β : Env} {a : Act} (hf : FrOk β s.fr a.tmps) {len cap h l : Nat} {lo hi : Option Operand} (h1 : bnd c s cap len hi = some h) (h2 : bnd c s h 0 lo = some l) (sl : Bool) (w : World) :
    (Instr.sliceBounds sl len cap (lo.map a.eval) (hi.map a.eval) none).run c.P w = .ok (l, h, cap) w := by
  cases hi with
  | none =>
    obtain rfl := bnd_none h1
    cases lo with
    | none =>
      obtain rfl := bnd_none h2
      simp [Instr.sliceBounds]
    | some lo => simp [Instr.sliceBounds, bnd_some hf h2]
  | some hi =>
    cases lo with
    | none =>
      obtain rfl := bnd_none h2
      simp [Instr.sliceBounds, bnd_some hf h1]
    | some lo => simp [Instr.sliceBounds, bnd_some hf h1, bnd_some hf h2]
def evalR (c : Cfg) (s : St) (o : Oper) : Option AV :=
  match o.op with
  | .move x => ev c s x
  | .assign x => ev c s x
  | .nilCheck x => match ev c s x with
    | some (.sc (.ptr g off)) => some (.sc (.ptr g off))
    | _ => none
  | .binOp op _ x y _ => match ev c s x, ev c s y with
    | some (.sc a), some (.sc b) => match bin op a b with
      | some z => some (.sc z)
      | none => none
    | _, _ => none
  | .unOp op _ x => match op, ev c s x with
    | .xor, some (.sc (.u64 a)) => some (.sc (.u64 (~~~a)))
    | .not, some (.sc (.bool b)) => some (.sc (.bool !b))
    | _, _ => none
  | .convert src dst x => match c.P.underlying src, c.P.underlying dst, ev c s x with
    | some _, some (.int k), some (.sc a) => match conv k a with
      | some z => some (.sc z)
      | none => none
    | _, _, _ => none
  | .pick b x y => match ev c s b with
    | some (.sc (.bool true)) => ev c s x
    | some (.sc (.bool false)) => ev c s y
    | _ => none
  | .extract x k => match ev c s x with
    | some (.tup xs) => match xs[k]? with
      | some v => some (.sc v)
      | none => none
    | _ => none
  | .fieldAddr t x f => match ev c s x, c.P.underlying t with
    | some (.sc (.ptr g off)), some (.struct fs) => match fs[f]? with
      | some fl => match c.P.info? fl.type with
        | some inf => bif Nat.beq inf.size 0 then none else some (.sc (.ptr g (off + fl.offset)))
        | none => none
      | none => none
    | _, _ => none
  | .load t x => match ev c s x with
    | some (.sc (.rptr g off)) => match c.ro[g]?, lies c.P t with
      | some cs, some none => match cs[off]? with
        | some v => some (.sc (.u8 v))
        | none => none
      | _, _ => none
    | some (.sc (.gptr g off)) => match glook c.gl g, lies c.P t with
      | some cs, some none => match cs[off]? with
        | some v => some (.sc (.u64 v))
        | none => none
      | _, _ => none
    | some (.sc (.ptr g off)) => match s.mem[g]?, lies c.P t with
      | some cs, some none => match cs[off]? with
        | some v => some (.sc v)
        | none => none
      | some cs, some (some n) => bif Nat.ble (off + n) cs.length then some (.agg ((cs.drop off).take n)) else none
      | _, _ => none
    | _ => none
  | .indexAddr t x ix => match ev c s x, ev c s ix, c.P.underlying t with
    | some (.sc (.ptr g off)), some (.sc (.i n)), some (.array len e) => match c.P.info? e with
      | some inf => bif decide (0 ≤ n) && decide (n < (len : Int)) then some (.sc (.ptr g (off + n.toNat * inf.size))) else none
      | none => none
    | some (.sc (.gptr g off)), some (.sc (.i n)), some (.array len e) => match c.P.info? e with
      | some inf => bif decide (0 ≤ n) && decide (n < (len : Int)) then some (.sc (.gptr g (off + n.toNat * inf.size))) else none
      | none => none
    | some (.sc (.sl g off len _)), some (.sc (.i n)), some (.slice e) => match c.P.info? e with
      | some inf => bif decide (0 ≤ n) && decide (n < (len : Int)) then some (.sc (.ptr g (off + n.toNat * inf.size))) else none
      | none => none
    | some (.sc (.rsl g off len _)), some (.sc (.i n)), some (.slice e) => match c.P.info? e with
      | some inf => bif decide (0 ≤ n) && decide (n < (len : Int)) then some (.sc (.rptr g (off + n.toNat * inf.size))) else none
      | none => none
    | _, _, _ => none
  | .build t ps => match ps.size, c.P.underlying t with
    | 0, some (.array _ e) => match zeros c.P t, c.P.info? e with
      | some z, some _ => some (.agg z)
      | _, _ => none
    | _, _ => none
  | .slice t x lo hi mx => match mx, ev c s x, c.P.underlying t with
    | none, some (.sc (.ptr g off)), some (.array n e) => match bnd c s n n hi with
      | some h => match bnd c s h 0 lo, c.P.info? e with
        | some l, some inf => some (.sc (.sl g (bif Nat.beq n l then off else off + l * inf.size) (h - l) (n - l)))
        | _, _ => none
      | none => none
    | none, some (.sc (.sl g off len cap)), some (.slice e) => match bnd c s cap len hi with
      | some h => match bnd c s h 0 lo, c.P.info? e with
        | some l, some inf => some (.sc (.sl g (bif Nat.beq cap l then off else off + l * inf.size) (h - l) (cap - l)))
        | _, _ => none
      | none => none
    | none, some (.sc (.rsl g off len cap)), some (.slice e) => match bnd c s cap len hi with
      | some h => match bnd c s h 0 lo, c.P.info? e with
        | some l, some inf => some (.sc (.rsl g (bif Nat.beq cap l then off else off + l * inf.size) (h - l) (cap - l)))
        | _, _ => none
      | none => none
    | _, _, _ => none
  | _ => none

theorem add_addr (b off n : Nat) : (⟨b, off, none⟩ : Addr).add n = ⟨b, off + n, none⟩ := by
  unfold Addr.add; split <;> simp_all

theorem lies_one {P : Program} {t : TypeId} (h : lies P t = some none) (w : World) : (isAgg t).run P w = .ok false w ∧ (P.info? t).map (·.size) = some 1 := by
  unfold lies at h
  split at h <;> (try simp only [Option.some.injEq, reduceCtorEq] at h)
  rename_i d i hn1 hn2 hd hi
  cases hb : Nat.beq i.size 1 with
  | false => rw [hb] at h; cases h
  | true =>
    have hs : i.size = 1 := Nat.eq_of_beq_eq_true hb
    refine ⟨?_, by simp [hi, hs]⟩
    unfold isAgg
    rw [Sem.run_bind, run_underlying hd w]
    cases d <;> simp_all

theorem lies_agg {P : Program} {t : TypeId} {n : Nat} (h : lies P t = some (some n)) (w : World) : (isAgg t).run P w = .ok true w ∧ (P.info? t).map (·.size) = some n := by
  unfold lies at h
  split at h <;> (try simp only [Option.some.injEq, reduceCtorEq] at h)
  · rename_i i hd hi
    refine ⟨?_, by simp [hi, h]⟩
    unfold isAgg
    rw [Sem.run_bind, run_underlying hd w]
    simp
  · rename_i i hd hi
    refine ⟨?_, by simp [hi, h]⟩
    unfold isAgg
    rw [Sem.run_bind, run_underlying hd w]
    simp
  · rename_i d i hn1 hn2 hd hi
    cases hb : Nat.beq i.size 1 <;> rw [hb] at h <;> simp at h

theorem cell_of_mem {β : Env} {mem : List (List SV)} {w : World} (hm : MemOk β mem w) {g : Nat} {cs : List SV} (hg : mem[g]? = some cs) (off : Nat) : w.cell? ⟨β g, off, none⟩ = (cs[off]?).map (gs β) := by
  obtain ⟨e, he⟩ := hm g cs hg
  simp [World.cell?, he]

theorem evalR_ok {c : Cfg} {s : St} {β : Env} {a : Act} {w : World} (hf : FrOk β s.fr a.tmps) (hm : MemOk β s.mem w) {nr : Nat} (hro : RoOk β c.ro c.gl nr w) {o : Oper} {v : AV} (h : evalR c s o = some v) :
    (execOp a.eval o).run c.P w = .ok (.value (gv β v)) w := by
  obtain ⟨dst, op, ty, pos, after, guard⟩ := o
  simp only [evalR] at h
  cases op <;> simp only [reduceCtorEq] at h
  case move x => simp [execOp, ev_ok hf h]
  case assign x => simp [execOp, ev_ok hf h]
  case nilCheck x =>
    split at h <;> (try simp only [Option.some.injEq, reduceCtorEq] at h)
    rename_i g off hx
    subst h
    simp [execOp, ev_ok hf hx, gv, gs]
  case binOp op t x y u =>
    split at h <;> (try simp only [reduceCtorEq] at h)
    rename_i p q hx hy
    split at h <;> (try simp only [Option.some.injEq, reduceCtorEq] at h)
    rename_i z hz
    subst h
    simp only [execOp, ev_ok hf hx, ev_ok hf hy, gv]
    rw [Sem.run_bind, bin_ok hz β c.P t x y w]
    rfl
  case unOp op t x =>
    split at h <;> (try simp only [Option.some.injEq, reduceCtorEq] at h)
    · rename_i p hx
      subst h
      have e := not_u64 p
      simp only [execOp, ev_ok hf hx, gv, gs, Op.unary, Op.intBits, Sem.run_bind, Sem.run_pure, Result.andThen_ok]
      exact congrArg (fun n => Result.ok (Next.value (Value.int .u64 n)) w) e
    · rename_i p hx
      subst h
      simp [execOp, ev_ok hf hx, gv, gs, Op.unary]
  case convert src dst x =>
    split at h <;> (try simp only [reduceCtorEq] at h)
    rename_i d k p hs hd hx
    split at h <;> (try simp only [Option.some.injEq, reduceCtorEq] at h)
    rename_i z hz
    subst h
    simp only [execOp, ev_ok hf hx, gv]
    rw [Sem.run_bind, conv_ok hz β hs hd w]
    rfl
  case pick b x y =>
    split at h <;> (try simp only [reduceCtorEq] at h)
    · rename_i hb
      simp [execOp, ev_ok hf hb, gv, gs, asBool, ev_ok hf h]
    · rename_i hb
      simp [execOp, ev_ok hf hb, gv, gs, asBool, ev_ok hf h]
  case extract x k =>
    split at h <;> (try simp only [reduceCtorEq] at h)
    rename_i xs hx
    split at h <;> (try simp only [Option.some.injEq, reduceCtorEq] at h)
    rename_i v hv
    subst h
    simp [execOp, ev_ok hf hx, gv, Instr.extract, hv]
  case fieldAddr t x f =>
    split at h <;> (try simp only [reduceCtorEq] at h)
    rename_i g off fs hx hu
    split at h <;> (try simp only [reduceCtorEq] at h)
    rename_i fl hfl
    split at h <;> (try simp only [reduceCtorEq] at h)
    rename_i inf hq
    cases hb : Nat.beq inf.size 0 with
    | true => rw [hb] at h; cases h
    | false =>
      rw [hb] at h
      simp only [cond_false, Option.some.injEq] at h
      subst h
      have hne := Nat.ne_of_beq_eq_false hb
      simp only [execOp, ev_ok hf hx, gv, gs, Instr.fieldAt, Instr.sureAddr, Sem.run_bind, Sem.run_pure, Result.andThen_ok, run_underlying hu, hfl, fieldPlace, sizeOf, typeInfo, run_program, hq, if_neg hne, add_addr]
  case load t x =>
    split at h <;> (try simp only [reduceCtorEq] at h)
    · rename_i g off hx
      split at h <;> (try simp only [reduceCtorEq] at h)
      rename_i cs hcs hl
      split at h <;> (try simp only [Option.some.injEq, reduceCtorEq] at h)
      rename_i u hu
      subst h
      have hc := hro.at_ hcs hu
      simp only [execOp, ev_ok hf hx, gv, gs, Instr.loadAt, Instr.sureAddr, loadVar, Sem.run_bind, Sem.run_pure, Result.andThen_ok, (lies_one hl w).1, Bool.false_eq_true, if_false, run_load, hc]
    · rename_i g off hx
      split at h <;> (try simp only [reduceCtorEq] at h)
      rename_i cs hcs hl
      split at h <;> (try simp only [Option.some.injEq, reduceCtorEq] at h)
      rename_i u hu
      subst h
      have hc := hro.atg hcs hu
      simp only [execOp, ev_ok hf hx, gv, gs, Instr.loadAt, Instr.sureAddr, loadVar, Sem.run_bind, Sem.run_pure, Result.andThen_ok, (lies_one hl w).1, Bool.false_eq_true, if_false, run_load, hc]
    rename_i g off hx
    split at h
    · rename_i cs hcs hl
      split at h <;> (try simp only [Option.some.injEq, reduceCtorEq] at h)
      rename_i u hu
      subst h
      have hc := cell_of_mem hm hcs off
      rw [hu] at hc
      simp only [execOp, ev_ok hf hx, gv, gs, Instr.loadAt, Instr.sureAddr, loadVar, Sem.run_bind, Sem.run_pure, Result.andThen_ok, (lies_one hl w).1, Bool.false_eq_true, if_false, run_load, hc, Option.map_some]
    · rename_i cs n hcs hl
      cases hb : Nat.ble (off + n) cs.length with
      | false => rw [hb] at h; cases h
      | true =>
        rw [hb] at h
        simp only [cond_true, Option.some.injEq] at h
        subst h
        have hle : off + n ≤ cs.length := Nat.le_of_ble_eq_true hb
        have hlen : ((((cs.drop off).take n).map (gs β))).length = n := by simp; omega
        have hld := run_loadCells_list (P := c.P) w ⟨β g, off, none⟩ (((cs.drop off).take n).map (gs β)) (fun j v hv => by
          rw [add_addr, cell_of_mem hm hcs (off + j)]
          rw [List.getElem?_map] at hv
          by_cases hj : j < n
          · rw [List.getElem?_take_of_lt hj, List.getElem?_drop] at hv
            exact hv
          · rw [List.getElem?_eq_none (by simp; omega)] at hv
            cases hv)
        rw [hlen] at hld
        obtain ⟨h1, h2⟩ := lies_agg hl w
        cases hq : c.P.info? t with
        | none => rw [hq] at h2; cases h2
        | some inf =>
          have hsz : inf.size = n := by simpa [hq] using h2
          simp only [execOp, ev_ok hf hx, gv, gs, Instr.loadAt, Instr.sureAddr, loadVar, Sem.run_bind, Sem.run_pure, Result.andThen_ok, h1, if_true, sizeOf, typeInfo, run_program, hq, hsz, hld]
    · cases h
  case indexAddr t x ix =>
    split at h <;> (try simp only [reduceCtorEq] at h)
    · rename_i g off n len e hx hi hu
      split at h <;> (try simp only [reduceCtorEq] at h)
      rename_i inf hq
      cases hb : (decide (0 ≤ n) && decide (n < (len : Int))) with
      | false => rw [hb] at h; cases h
      | true =>
        rw [hb] at h
        simp only [Bool.and_eq_true, decide_eq_true_eq] at hb
        simp only [cond_true, Option.some.injEq] at h
        subst h
        simp only [execOp, ev_ok hf hx, ev_ok hf hi, gv, gs, Instr.indexAt, asIntOf, Instr.sureAddr, Sem.run_bind, Sem.run_pure, Result.andThen_ok, run_underlying hu, sizeOf, typeInfo, run_program, hq, if_pos hb, add_addr]
    · rename_i g off n len e hx hi hu
      split at h <;> (try simp only [reduceCtorEq] at h)
      rename_i inf hq
      cases hb : (decide (0 ≤ n) && decide (n < (len : Int))) with
      | false => rw [hb] at h; cases h
      | true =>
        rw [hb] at h
        simp only [Bool.and_eq_true, decide_eq_true_eq] at hb
        simp only [cond_true, Option.some.injEq] at h
        subst h
        simp only [execOp, ev_ok hf hx, ev_ok hf hi, gv, gs, Instr.indexAt, asIntOf, Instr.sureAddr, Sem.run_bind, Sem.run_pure, Result.andThen_ok, run_underlying hu, sizeOf, typeInfo, run_program, hq, if_pos hb, add_addr]
    · rename_i g off len cap n e hx hi hu
      split at h <;> (try simp only [reduceCtorEq] at h)
      rename_i inf hq
      cases hb : (decide (0 ≤ n) && decide (n < (len : Int))) with
      | false => rw [hb] at h; cases h
      | true =>
        rw [hb] at h
        simp only [Bool.and_eq_true, decide_eq_true_eq] at hb
        simp only [cond_true, Option.some.injEq] at h
        subst h
        simp only [execOp, ev_ok hf hx, ev_ok hf hi, gv, gs, Instr.indexAt, asIntOf, Sem.run_bind, Sem.run_pure, Result.andThen_ok, run_underlying hu, sizeOf, typeInfo, run_program, hq, if_pos hb, add_addr]
    · rename_i g off len cap n e hx hi hu
      split at h <;> (try simp only [reduceCtorEq] at h)
      rename_i inf hq
      cases hb : (decide (0 ≤ n) && decide (n < (len : Int))) with
      | false => rw [hb] at h; cases h
      | true =>
        rw [hb] at h
        simp only [Bool.and_eq_true, decide_eq_true_eq] at hb
        simp only [cond_true, Option.some.injEq] at h
        subst h
        simp only [execOp, ev_ok hf hx, ev_ok hf hi, gv, gs, Instr.indexAt, asIntOf, Sem.run_bind, Sem.run_pure, Result.andThen_ok, run_underlying hu, sizeOf, typeInfo, run_program, hq, if_pos hb, add_addr, Nat.add_assoc]
  case build t ps =>
    split at h <;> (try simp only [reduceCtorEq] at h)
    rename_i n e hn hu
    split at h <;> (try simp only [Option.some.injEq, reduceCtorEq] at h)
    rename_i z inf hz hq
    subst h
    have hps : ps = #[] := Array.eq_empty_of_size_eq_zero hn
    subst hps
    unfold zeros at hz
    split at hz <;> (try simp only [reduceCtorEq] at hz)
    rename_i it hit
    split at hz <;> (try simp only [reduceCtorEq] at hz)
    rename_i zv hzv
    have := cvs_ok hz β
    simp [execOp, Instr.build, zeroValue, typeInfo, hit, hzv, run_underlying hu, sizeOf, hq, Instr.fill, gv, this]
  case slice t x lo hi mx =>
    split at h <;> (try simp only [reduceCtorEq] at h)
    · rename_i g off n e hx hu
      split at h <;> (try simp only [reduceCtorEq] at h)
      rename_i hh h1
      split at h <;> (try simp only [Option.some.injEq, reduceCtorEq] at h)
      rename_i l inf h2 hq
      subst h
      simp only [execOp, ev_ok hf hx, gv, gs, Option.map_none, Instr.sliceAt, bnds hf h1 h2, Instr.sureAddr, Sem.run_bind, Sem.run_pure, Result.andThen_ok, run_underlying hu, sizeOf, typeInfo, run_program, hq, add_addr]
      cases he : Nat.beq n l with
      | true => rw [if_pos (Nat.eq_of_beq_eq_true he)]; rfl
      | false => rw [if_neg (Nat.ne_of_beq_eq_false he)]; rfl
    · rename_i g off len cap e hx hu
      split at h <;> (try simp only [reduceCtorEq] at h)
      rename_i hh h1
      split at h <;> (try simp only [Option.some.injEq, reduceCtorEq] at h)
      rename_i l inf h2 hq
      subst h
      simp only [execOp, ev_ok hf hx, gv, gs, Option.map_none, Instr.sliceAt, Instr.slice, bnds hf h1 h2, Sem.run_bind, Sem.run_pure, Result.andThen_ok, run_underlying hu, sizeOf, typeInfo, run_program, hq, Option.map_some, add_addr]
      cases he : Nat.beq cap l with
      | true => rw [if_pos (Nat.eq_of_beq_eq_true he)]; rfl
      | false => rw [if_neg (Nat.ne_of_beq_eq_false he)]; rfl
    · rename_i g off len cap e hx hu
      split at h <;> (try simp only [reduceCtorEq] at h)
      rename_i hh h1
      split at h <;> (try simp only [Option.some.injEq, reduceCtorEq] at h)
      rename_i l inf h2 hq
      subst h
      simp only [execOp, ev_ok hf hx, gv, gs, Option.map_none, Instr.sliceAt, Instr.slice, bnds hf h1 h2, Sem.run_bind, Sem.run_pure, Result.andThen_ok, run_underlying hu, sizeOf, typeInfo, run_program, hq, Option.map_some, add_addr]
      cases he : Nat.beq cap l with
      | true => rw [if_pos (Nat.eq_of_beq_eq_true he)]; rfl
      | false => rw [if_neg (Nat.ne_of_beq_eq_false he), Nat.add_assoc]; rfl

/-! ### A region whose order is open: it looks, and its tail comes last -/
section
variable {P : Program} {ops : Array Oper} {md : Region.Mode} {C : World → Prop}
def headC (P : Program) (md : Region.Mode) (ops : Array Oper) (C : World → Prop) (n : Nat) (L : Array Bool → Act → Prop) : Nat → Array Bool → Act → Prop
  | 0, listed, a => L listed a
  | f + 1, listed, a => Region.ready md ops listed ≠ [] ∧ ∀ i ∈ Region.ready md ops listed, i < n ∧ qOp P ops C i (headC P md ops C n L f (listed.setIfInBounds i true)) a

theorem wpAny_of_headC {n g : Nat} {L : Array Bool → Act → Prop} {Q' : Exit → Act → World → Prop} (hL : ∀ listed a w, C w → L listed a → wpAny P md ops Q' g listed a w) :
    ∀ (f : Nat) (listed : Array Bool) (a : Act) (w : World), C w → headC P md ops C n L f listed a → wpAny P md ops Q' (f + g) listed a w
  | 0, listed, a, w, hw, h => by rw [Nat.zero_add]; exact hL _ _ _ hw h
  | f + 1, listed, a, w, hw, h => by
    rw [show f + 1 + g = (f + g) + 1 by omega]
    exact ⟨fun h0 => absurd h0 h.1, fun i hi => wpOp_of_qOp hw (fun a' w' hw' h' => wpAny_of_headC hL f _ a' w' hw' h') (h.2 i hi).2⟩

theorem headC_first {n i : Nat} {oi : Oper} {v : Value} {L : Array Bool → Act → Prop} (hi : ops[i]? = some oi) (hsel : ∀ (j : Nat) (o : Oper) cs b, ops[j]? = some o → o.op ≠ .select cs b)
    (hs : Region.sinkB md ops n = true) (hc : Region.chainB md ops n = true) (hn : n < ops.size) (hin : i < n)
    (hdone : ∀ listed a, L listed a → ∀ j ∈ Region.ready md ops listed, n ≤ j) :
    ∀ (f : Nat) (listed : Array Bool) (a : Act), HeadInv md ops n listed →
      (∀ j oj, ops[j]? = some oj → j ≠ i → listed.getD j true = false → (∀ e ∈ oj.after, Region.binds md e = true → e.on ≠ i) → oi.apart ops oj = true) →
      i ∈ Region.ready md ops listed → YieldsIn P ops C oi v a →
      headC P md ops C n L f (listed.setIfInBounds i true) (a.put oi.dst v) → headC P md ops C n L (f + 1) listed a := by
  intro f
  induction f with
  | zero =>
    intro listed a inv _ hr hy H
    refine ⟨fun h => (by rw [h] at hr; cases hr), fun j hj => ?_⟩
    have hjn : j < n := Nat.lt_of_not_le fun h => tail_waits hs hc hn inv _ i rfl hin (mem_ready.1 hr).1 j h hj
    refine ⟨hjn, ?_⟩
    by_cases hji : j = i
    · subst hji; exact hy.qOp hi H
    · exact absurd (hdone _ _ H j (ready_mono hj hji)) (by omega)
  | succ f ih =>
    intro listed a inv hfree hr hy H
    have hun := (mem_ready.1 hr).1
    refine ⟨fun h => (by rw [h] at hr; cases hr), fun j hj => ?_⟩
    have hjn : j < n := Nat.lt_of_not_le fun h => tail_waits hs hc hn inv _ i rfl hin hun j h hj
    refine ⟨hjn, ?_⟩
    by_cases hji : j = i
    · subst hji; exact hy.qOp hi H
    · obtain ⟨hjun, oj, hoj, hall⟩ := mem_ready.1 hj
      have hnot : ∀ e ∈ oj.after, Region.binds md e = true → e.on ≠ i := fun e he hb heq => by
        have h1 := hall e he hb
        rw [heq, getD_both hun] at h1
        cases h1
      have h2 := qOp_put hoj (hfree j oj hoj hji hjun hnot) (fun cs b => hsel i oi cs b hi) (fun cs b => hsel j oj cs b hoj) hy (H.2 j (ready_mono hj hji)).2
      have hfree' : ∀ k ok, ops[k]? = some ok → k ≠ i → (listed.setIfInBounds j true).getD k true = false →
          (∀ e ∈ ok.after, Region.binds md e = true → e.on ≠ i) → oi.apart ops ok = true := fun k ok hk hki hunk hno => by
        refine hfree k ok hk hki ?_ hno
        by_cases hjk : j = k
        · subst hjk; exact hjun
        · rw [getD_set_ne true hjk] at hunk; exact hunk
      refine qOp_mono (fun a' h3 => ih (listed.setIfInBounds j true) a' (inv.set hj hjn) hfree' (ready_mono hr (Ne.symm hji)) h3.1 ?_) h2
      rw [Array.setIfInBounds_comm _ _ hji]
      exact h3.2

theorem headC_lex {n g : Nat} {Lq : Act → Prop} (hsel : Region.noSelect ops = true) (hs : Region.sinkB md ops n = true) (hc : Region.chainB md ops n = true) (hn : n < ops.size) :
    ∀ (l : List Oper) (k : Nat) (listed : Array Bool) (a : Act), (∀ j, j < l.length → l[j]? = ops[k + j]?) → k + l.length = n → HeadInv md ops n listed →
    Region.lexHead md ops g l.length k listed = true → wpQuiet P ops C Lq l a →
    headC P md ops C n (fun listed' a' => Region.seqB md ops g n listed' = true ∧ Lq a') l.length listed a
  | [], k, listed, a, _, hk, _, hB, h => by
    obtain rfl : k = n := by simpa using hk
    exact ⟨by simpa [Region.lexHead] using hB, h⟩
  | o :: l, k, listed, a, hl, hk, inv, hB, h => by
    have h0 : ops[k]? = some o := by simpa using (hl 0 (by simp)).symm
    simp only [List.length_cons, Region.lexHead, Bool.and_eq_true] at hB
    obtain ⟨⟨hr, hf⟩, hB'⟩ := hB
    have hkn : k < n := by simp only [List.length_cons] at hk; omega
    have hr' : k ∈ Region.ready md ops listed := by simpa using hr
    have hst : qOp P ops C k (wpQuiet P ops C Lq l) a := by unfold qOp; simp only [h0]; exact h
    obtain ⟨v, hy, hK⟩ := yieldsIn_of_qOp h0 hst
    exact headC_first h0 (Region.noSelect_spec hsel) hs hc hn hkn (fun listed' a' hL => seqB_ready hL.1) l.length listed a inv (Region.free_spec h0 hf) hr' hy
      (headC_lex hsel hs hc hn l (k + 1) _ _ (fun j hj => by have := hl (j + 1) (by simp; omega); simpa [Nat.add_assoc, Nat.add_comm 1 j] using this) (by simp only [List.length_cons] at hk; omega) (inv.set hr' hkn) hB' hK)

/-- The region's first n operations look, the rest comes behind them in its own order. -/
theorem wp_region_quiet_tail {id : Nat} {Q : Exit → Act → World → Prop} {a : Act} {w : World} {l : List Oper} (n : Nat) (hm : P.follows .mixedOrders = true) (hB : Region.lexTailB .any l.toArray n = true) (hC : C { w with drawn := w.drawn + 1 })
    (h : wpQuiet P l.toArray C (fun a' => ∀ w', C w' → wpList P l.toArray Q (l.drop n) a' w') (l.take n) a) : (Code.region id l.toArray true).wp P Q a w := by
  simp only [Region.lexTailB, Bool.and_eq_true, decide_eq_true_eq] at hB
  obtain ⟨⟨⟨⟨hsel, hn⟩, hs⟩, hc⟩, hlex⟩ := hB
  have hn' : n < l.length := by simpa using hn
  have htl : (l.take n).length = n := by simp; omega
  have hdl : (l.drop n).length = l.toArray.size - n := by simp
  have inv0 : HeadInv .any l.toArray n (Array.replicate l.toArray.size false) :=
    ⟨by simp, fun j oj _ hl => (by rw [getD_replicate_false] at hl; cases hl), fun t _ ht => getD_in (by simpa using ht) (getD_replicate_false _ _)⟩
  have H := headC_lex (md := .any) (g := l.toArray.size - n) hsel hs hc hn (l.take n) 0 _ a (fun j hj => by
    have hj' : j < n := by rw [htl] at hj; exact hj
    simp [hj']) (by simpa using htl) inv0 (by rw [htl]; exact hlex) h
  refine wp_region_any hm ?_
  have := wpAny_of_headC (Q' := Q) (g := l.toArray.size - n) (fun listed a' w' hw' hL => by
    have := wpAny_of_seq (md := .any) (Q' := Q) (l.drop n) n listed a' w' (fun j => by simp [List.getElem?_drop]) (by rw [hdl]; exact hL.1) (hL.2 w' hw')
    rwa [hdl] at this) _ _ _ _ hC H
  rw [htl, show n + (l.toArray.size - n) = l.toArray.size by omega] at this
  exact this
end

/-! ### The world that a run leaves -/
/-- Of the blocks that were there none but those of E has turned; the streams and the tape are as they were. -/
structure Keep (E : Nat → Prop) (w w' : World) : Prop where
  os : w'.os = w.os
  tape : w'.tape = w.tape
  output : w'.output = w.output
  size : w.heap.size ≤ w'.heap.size
  block : ∀ k, k < w.heap.size → ¬ E k → w'.heap[k]? = w.heap[k]?

theorem Keep.refl (E : Nat → Prop) (w : World) : Keep E w w := ⟨rfl, rfl, rfl, Nat.le_refl _, fun _ _ _ => rfl⟩
theorem Keep.drewN {E : Nat → Prop} {w w' : World} (h : Keep E w w') (n : Nat) : Keep E w (w'.drewN n) := ⟨h.os, h.tape, h.output, h.size, h.block⟩
theorem Keep.trans {E : Nat → Prop} {a b c : World} (h : Keep E a b) (k : Keep E b c) : Keep E a c :=
  ⟨k.os.trans h.os, k.tape.trans h.tape, k.output.trans h.output, Nat.le_trans h.size k.size, fun i hi he => (k.block i (Nat.lt_of_lt_of_le hi h.size) he).trans (h.block i hi he)⟩
theorem Keep.mono {E E' : Nat → Prop} {w w' : World} (h : Keep E w w') (hE : ∀ k, k < w.heap.size → E k → E' k) : Keep E' w w' :=
  ⟨h.os, h.tape, h.output, h.size, fun i hi he => h.block i hi (fun e => he (hE i hi e))⟩
theorem Keep.trans' {E F : Nat → Prop} {a b c : World} (h : Keep E a b) (k : Keep F b c) (hF : ∀ i, i < a.heap.size → F i → E i) : Keep E a c :=
  ⟨k.os.trans h.os, k.tape.trans h.tape, k.output.trans h.output, Nat.le_trans h.size k.size, fun i hi he => (k.block i (Nat.lt_of_lt_of_le hi h.size) (fun e => he (hF i hi e))).trans (h.block i hi he)⟩
theorem Keep.alloc {E : Nat → Prop} {w w' : World} (h : Keep E w w') (o : Obj) : Keep E w (w'.alloc o) :=
  ⟨h.os, h.tape, h.output, Nat.le_trans h.size (by show w'.heap.size ≤ (w'.heap.push o).size; simp), fun i hi he => by
    rw [heap_alloc_old w' o i (Nat.lt_of_lt_of_le hi h.size)]; exact h.block i hi he⟩
theorem Keep.setRow {E : Nat → Prop} {w w' : World} (h : Keep E w w') {g : Nat} (hg : g < w.heap.size → E g) (cs : Array Value) : Keep E w (w'.setRow g cs) :=
  ⟨h.os, h.tape, h.output, by rw [setRow_size]; exact h.size, fun i hi he => by
    rw [setRow_other w' g i cs (fun e => he (by subst e; exact hg hi))]; exact h.block i hi he⟩

/-! ### What the tables tell is true -/
/-- What a call leaves: the blocks that were there, and perhaps some more. -/
structure After (β : Env) (mem : List (List SV)) (w : World) (β' : Env) (mem' : List (List SV)) (w' : World) : Prop where
  old : ∀ g, g < mem.length → β' g = β g
  row : β'.r = β.r
  cells : MemOk β' mem' w'
  len : mem.length ≤ mem'.length
  inj : ∀ g g', g < mem'.length → g' < mem'.length → β' g = β' g' → g = g'
  new : ∀ g, mem.length ≤ g → g < mem'.length → w.heap.size ≤ β' g
  keep : Keep (fun b => ∃ g, g < mem.length ∧ β g = b) w w'
theorem After.same {β : Env} {mem mem' : List (List SV)} {w w' : World} (hi : ∀ g g', g < mem.length → g' < mem.length → β g = β g' → g = g') (h1 : MemOk β mem' w') (h2 : mem'.length = mem.length) (h3 : Keep (fun b => ∃ g, g < mem.length ∧ β g = b) w w') : After β mem w β mem' w' :=
  ⟨fun _ _ => rfl, rfl, h1, Nat.le_of_eq h2.symm, fun g g' hg hg' => hi g g' (h2 ▸ hg) (h2 ▸ hg'), fun g h1 h4 => absurd h4 (by rw [h2]; omega), h3⟩

structure Cfg.Sound (c : Cfg) : Prop where
  mixed : c.P.follows .mixedOrders = true
  qgo : ∀ f args mem v, c.q f args mem = some v → ∀ xs w, (callFunc f xs).run c.P w = .ok (.enter f xs) w
  q : ∀ f args mem v, c.q f args mem = some v → ∀ (β : Env) w, MemOk β mem w → (∀ g g', g < mem.length → g' < mem.length → β g = β g' → g = g') → RoOk β c.ro c.gl mem.length w → Calls c.P f (args.map (gv β)).toArray w (fun e w' => e = .returned (gv β v) ∧ ∃ n, w' = w.drewN n)
  wgo : ∀ f args mem r, c.wf f args mem = some r → ∀ xs w, (callFunc f xs).run c.P w = .ok (.enter f xs) w
  w : ∀ f args mem v mem', c.wf f args mem = some (v, mem') → ∀ (β : Env) w, MemOk β mem w → (∀ g g', g < mem.length → g' < mem.length → β g = β g' → g = g') → RoOk β c.ro c.gl mem.length w →
    Calls c.P f (args.map (gv β)).toArray w (fun e w' => ∃ β', After β mem w β' mem' w' ∧ e = .returned (gv β' v))

def slLen : SV → Option (Nat × Nat)
  | .sl _ _ len cap => some (len, cap)
  | .rsl _ _ len cap => some (len, cap)
  | .nosl => some (0, 0)
  | _ => none
def builtinQ (c : Cfg) (s : St) (b : Builtin) (args : List Operand) (ats : Array TypeId) : Option AV :=
  match b, evs c s args with
  | .len, some [.sc x] => match ats[0]? with
    | some t => match c.P.underlying t, slLen x with
      | some (.slice _), some p => some (.sc (.i p.1))
      | _, _ => none
    | none => none
  | .cap, some [.sc x] => match ats[0]? with
    | some t => match c.P.underlying t, slLen x with
      | some (.slice _), some p => some (.sc (.i p.2))
      | _, _ => none
    | none => none
  | .min, some [.sc (.i x), .sc (.i y)] => some (.sc (.i (bif decide (y < x) then y else x)))
  | _, _ => none
theorem slLen_ok {x : SV} {p : Nat × Nat} (h : slLen x = some p) (β : Env) : ∃ a, gs β x = .slice a p.1 p.2 := by
  cases x <;> simp only [slLen, Option.some.injEq, reduceCtorEq] at h <;> subst h <;> exact ⟨_, rfl⟩
theorem builtinQ_ok {c : Cfg} {s : St} {β : Env} {a : Act} (hf : FrOk β s.fr a.tmps) {b : Builtin} {args : Array Operand} {ats : Array TypeId} {v : AV} (h : builtinQ c s b args.toList ats = some v) (ty : TypeId) (cs : Array Bool) (w : World) :
    (builtin b ats ty cs (args.map a.eval)).run c.P w = .ok (.value (gv β v)) w := by
  have ea : ∀ vs, evs c s args.toList = some vs → args.map a.eval = (vs.map (gv β)).toArray := fun vs hvs => by
    have := evs_ok hf hvs
    apply Array.ext'
    simpa using this
  unfold builtinQ at h
  split at h <;> (try simp only [reduceCtorEq] at h)
  · rename_i x hx
    split at h <;> (try simp only [reduceCtorEq] at h)
    rename_i t ht
    split at h <;> (try simp only [Option.some.injEq, reduceCtorEq] at h)
    rename_i e p hu hp
    subst h
    obtain ⟨ad, had⟩ := slLen_ok hp β
    rw [ea _ hx]
    show _ = Result.ok (Next.value (.int .i64 (p.1 : Int))) w
    simp [builtin, Builtin.len_, ht, gv, had, run_underlying hu, goInt]
  · rename_i x hx
    split at h <;> (try simp only [reduceCtorEq] at h)
    rename_i t ht
    split at h <;> (try simp only [Option.some.injEq, reduceCtorEq] at h)
    rename_i e p hu hp
    subst h
    obtain ⟨ad, had⟩ := slLen_ok hp β
    rw [ea _ hx]
    show _ = Result.ok (Next.value (.int .i64 (p.2 : Int))) w
    simp [builtin, Builtin.cap_, ht, gv, had, run_underlying hu, goInt]
  · rename_i x y hx
    simp only [Option.some.injEq] at h
    subst h
    rw [ea _ hx]
    by_cases hlt : y < x <;> simp [builtin, Builtin.min_, Builtin.min2, gv, gs, hlt]

def evalQ (c : Cfg) (s : St) (o : Oper) : Option AV :=
  match o.op with
  | .call cl => match cl.callee with
    | .value (.func f) => match evs c s cl.args.toList with
      | some vs => c.q f vs s.mem
      | none => none
    | .builtin b => builtinQ c s b cl.args.toList cl.argTypes
    | _ => none
  | _ => evalR c s o

theorem run_call {c : Cfg} {a : Act} {w : World} {dst : Option Tmp} {f : FuncId} {args : Array Operand} {ats : Array TypeId} {ty : TypeId} {pos : String} {after : Array Edge} {guard : Option (Nat × Bool)}
    (hgo : ∀ xs w, (callFunc f xs).run c.P w = .ok (.enter f xs) w) :
    (execOp a.eval ⟨dst, .call ⟨.value (.func f), args, ats⟩, ty, pos, after, guard⟩).run c.P w = .ok (.enter f (args.map a.eval)) w := by
  simp [execOp, resolve, Act.eval, Deferred.ofValue, invoke, hgo]

theorem evalQ_ok {c : Cfg} (hc : c.Sound) {s : St} {β : Env} {a : Act} {w : World} (hf : FrOk β s.fr a.tmps) (hm : MemOk β s.mem w) (hi : ∀ g g', g < s.mem.length → g' < s.mem.length → β g = β g' → g = g') (hro : RoOk β c.ro c.gl s.mem.length w) {o : Oper} {v : AV} (h : evalQ c s o = some v) (n : Nat) :
    o.quietAt c.P a (fun w' => ∃ n, w' = w.drewN n) (w.drewN n) (gv β v) := by
  have other : evalR c s o = some v → o.quietAt c.P a (fun w' => ∃ n, w' = w.drewN n) (w.drewN n) (gv β v) := fun h => by
    unfold Oper.quietAt
    rw [evalR_ok hf (hm.drewN n) (hro.drewN n) h]
    exact ⟨rfl, rfl⟩
  unfold evalQ at h
  split at h
  · rename_i cl hop
    split at h <;> (try simp only [reduceCtorEq] at h)
    rotate_left
    · rename_i b hcal
      obtain ⟨dst, op, ty, pos, after, guard⟩ := o
      obtain ⟨cal, args, ats⟩ := cl
      simp only at hop hcal h
      subst hop
      subst hcal
      unfold Oper.quietAt
      simp only [execOp, resolve, Sem.run_bind, Sem.run_pure, Result.andThen_ok, invoke]
      rw [builtinQ_ok hf h ty _ (w.drewN n)]
      exact ⟨rfl, rfl⟩
    rename_i f hcal
    split at h <;> (try simp only [reduceCtorEq] at h)
    rename_i vs hvs
    obtain ⟨dst, op, ty, pos, after, guard⟩ := o
    obtain ⟨cal, args, ats⟩ := cl
    simp only at hop hcal
    subst hop
    subst hcal
    unfold Oper.quietAt
    rw [run_call (hc.qgo f vs s.mem v h)]
    refine ⟨rfl, ?_⟩
    have e : args.map a.eval = (vs.map (gv β)).toArray := by
      have := evs_ok hf hvs
      apply Array.ext'
      simpa using this
    rw [e]
    refine (hc.q f vs s.mem v h β (w.drewN n) (hm.drewN n) hi (hro.drewN n)).mono ?_
    rintro e w' ⟨he, m, hw⟩
    exact ⟨he, n + m, by rw [hw, World.drewN_drewN]⟩
  · exact other h

/-! ### Regions -/
def isNone {α : Type} : Option α → Bool
  | none => true
  | _ => false

def bind (N : Nat) (d : Option Nat) (v : AV) (fr : List (Nat × AV)) : Option (List (Nat × AV)) :=
  match d with
  | none => some fr
  | some k => bif Nat.blt k N then some ((k, v) :: fr) else none

theorem bind_ok {N : Nat} {d : Option Nat} {v : AV} {fr fr' : List (Nat × AV)} (h : bind N d v fr = some fr') {β : Env} {a : Act} (hs : a.tmps.size = N) (hf : FrOk β fr a.tmps) :
    FrOk β fr' (a.put d (gv β v)).tmps ∧ (a.put d (gv β v)).tmps.size = N ∧ (a.put d (gv β v)).defers = a.defers := by
  unfold bind at h
  split at h
  · cases h; exact ⟨hf, hs, rfl⟩
  · rename_i k
    cases hb : Nat.blt k N with
    | false => rw [hb] at h; cases h
    | true =>
      rw [hb] at h
      simp only [cond_true, Option.some.injEq] at h
      subst h
      have hlt : k < a.tmps.size := by
        rw [hs]
        exact Nat.le_of_ble_eq_true hb
      refine ⟨fun x u hx => ?_, by simp [Act.put, hs], rfl⟩
      simp only [look] at hx
      cases hk : Nat.beq k x with
      | true =>
        rw [hk] at hx
        obtain rfl := Nat.eq_of_beq_eq_true hk
        simp only [cond_true, Option.some.injEq] at hx
        subst hx
        exact .inr (by simp [Act.put, hlt])
      | false =>
        rw [hk] at hx
        have hne : k ≠ x := Nat.ne_of_beq_eq_false hk
        simp only [cond_false] at hx
        rcases hf x u hx with h1 | h1
        · exact .inl h1
        · exact .inr (by simp [Act.put, Array.getElem?_setIfInBounds_ne hne, h1])

/-- Whether an operation comes up at all. -/
def want (all : List Oper) (fr : List (Nat × AV)) (o : Oper) : Option Bool :=
  match o.guard with
  | none => some true
  | some (j, b) => match all[j]? with
    | some oj => match oj.dst with
      | some d => match look fr d with
        | some (.sc (.bool x)) => some (x == b)
        | _ => none
      | none => none
    | none => none

theorem want_ok {ops : Array Oper} {fr : List (Nat × AV)} {o : Oper} {b : Bool} (h : want ops.toList fr o = some b) {β : Env} {tmps : Array Value} (hf : FrOk β fr tmps) : Region.wanted o (yielded ops tmps) = b := by
  unfold want at h
  split at h
  · rename_i hg
    cases h
    simp [Region.wanted, hg]
  · rename_i j b' hg
    split at h <;> (try simp only [reduceCtorEq] at h)
    rename_i oj hoj
    split at h <;> (try simp only [reduceCtorEq] at h)
    rename_i d hd
    split at h <;> (try simp only [Option.some.injEq, reduceCtorEq] at h)
    rename_i x hx
    subst h
    have hoj' : ops[j]? = some oj := by simpa using hoj
    rcases hf d _ hx with h1 | h1
    · cases h1
    · have : yielded ops tmps j = some x := by
        unfold yielded
        simp only [hoj', Option.bind_some, hd, h1, gv, gs]
      simp only [Region.wanted, hg, this]
      cases x <;> cases b' <;> rfl

def runQ (c : Cfg) (mem : List (List SV)) (all : List Oper) : List Oper → List (Nat × AV) → Option (List (Nat × AV))
  | [], fr => some fr
  | o :: r, fr => match want all fr o with
    | some true => match evalQ c ⟨fr, mem, true⟩ o with
      | some v => match bind c.N o.dst v fr with
        | some fr' => runQ c mem all r fr'
        | none => none
      | none => none
    | some false => match bind c.N o.dst .junk fr with
      | some fr' => runQ c mem all r fr'
      | none => none
    | none => none

theorem runQ_ok {c : Cfg} (hc : c.Sound) {mem : List (List SV)} {β : Env} {w : World} (hm : MemOk β mem w) (hi : ∀ g g', g < mem.length → g' < mem.length → β g = β g' → g = g') (hro : RoOk β c.ro c.gl mem.length w) {ops : Array Oper} {Q : Act → Prop} {D : List Deferred} :
    ∀ (l : List Oper) (fr fr' : List (Nat × AV)) (a : Act), runQ c mem ops.toList l fr = some fr' → a.tmps.size = c.N → a.defers = D → FrOk β fr a.tmps →
      (∀ a', a'.tmps.size = c.N → a'.defers = D → FrOk β fr' a'.tmps → Q a') → wpQuiet c.P ops (fun w' => ∃ n, w' = w.drewN n) Q l a
  | [], fr, fr', a, h, hs, hd, hf, hQ => by
    cases h
    exact hQ a hs hd hf
  | o :: r, fr, fr', a, h, hs, hd, hf, hQ => by
    simp only [runQ] at h
    split at h <;> (try simp only [reduceCtorEq] at h)
    · rename_i hgd
      split at h <;> (try simp only [reduceCtorEq] at h)
      rename_i v hv
      split at h <;> (try simp only [reduceCtorEq] at h)
      rename_i fr1 hb
      obtain ⟨h1, h2, h3⟩ := bind_ok hb hs hf
      unfold wpQuiet
      rw [if_pos (want_ok hgd hf)]
      refine ⟨gv β v, ?_, runQ_ok hc hm hi hro r fr1 fr' _ h h2 (h3.trans hd) h1 hQ⟩
      rintro w' ⟨n, rfl⟩
      exact evalQ_ok hc hf hm hi hro hv n
    · rename_i hgd
      split at h <;> (try simp only [reduceCtorEq] at h)
      rename_i fr1 hb
      obtain ⟨h1, h2, h3⟩ := bind_ok hb hs hf
      unfold wpQuiet
      rw [if_neg (by rw [want_ok hgd hf]; simp)]
      exact runQ_ok hc hm hi hro r fr1 fr' _ h h2 (h3.trans hd) h1 hQ


/-! ### Operations that write -/
def scS (n : Nat) : SV → Bool
  | .ptr g _ => Nat.blt g n
  | .sl g _ _ _ => Nat.blt g n
  | _ => true
def scV (n : Nat) : AV → Bool
  | .sc s => scS n s
  | .agg xs => xs.all (scS n)
  | .tup xs => xs.all (scS n)
  | .junk => true
def inScope (s : St) : Bool := s.fr.all (fun p => scV s.mem.length p.2) && s.mem.all (fun b => b.all (scS s.mem.length))

/-- One block more: its number is the new one's. -/
def more (β : Env) (n b : Nat) : Env := ⟨fun k => if k = n then b else β k, β.r⟩

theorem gs_more {β : Env} {n b : Nat} {x : SV} (h : scS n x = true) : gs (more β n b) x = gs β x := by
  have key : ∀ g : Nat, Nat.blt g n = true → more β n b g = β g := fun g hb => by
    have hl : g < n := by simpa [Nat.blt_eq] using hb
    simp [more, Nat.ne_of_lt hl]
  cases x <;> simp only [scS] at h <;> simp only [gs]
  case ptr g off => rw [key g h]
  case sl g off len cap => rw [key g h]
  all_goals rfl
theorem gs_mores {β : Env} {n b : Nat} {xs : List SV} (h : xs.all (scS n) = true) : xs.map (gs (more β n b)) = xs.map (gs β) := by
  apply List.map_congr_left
  intro x hx
  exact gs_more (List.all_eq_true.1 h x hx)
theorem gv_more {β : Env} {n b : Nat} {x : AV} (h : scV n x = true) : gv (more β n b) x = gv β x := by
  cases x with
  | sc s => exact gs_more h
  | agg xs => simp only [gv, gs_mores h]
  | tup xs => simp only [gv, gs_mores h]
  | junk => rfl

theorem look_mem : ∀ {fr : List (Nat × AV)} {d : Nat} {v : AV}, look fr d = some v → (d, v) ∈ fr
  | [], d, v, h => by cases h
  | (k, u) :: r, d, v, h => by
    simp only [look] at h
    cases hk : Nat.beq k d with
    | true =>
      rw [hk] at h
      obtain rfl := Nat.eq_of_beq_eq_true hk
      simp only [cond_true, Option.some.injEq] at h
      subst h
      exact List.mem_cons_self
    | false =>
      rw [hk] at h
      exact List.mem_cons_of_mem _ (look_mem h)

theorem gs_same {β β' : Env} {n : Nat} (h : ∀ g, g < n → β' g = β g) (hrow : β'.r = β.r) {x : SV} (hx : scS n x = true) : gs β' x = gs β x := by
  have key : ∀ g : Nat, Nat.blt g n = true → β' g = β g := fun g hb => h g (by simpa [Nat.blt_eq] using hb)
  cases x <;> simp only [scS] at hx <;> simp only [gs]
  case ptr g off => rw [key g hx]
  case sl g off len cap => rw [key g hx]
  all_goals rw [hrow]
theorem gss_same {β β' : Env} {n : Nat} (h : ∀ g, g < n → β' g = β g) (hrow : β'.r = β.r) {xs : List SV} (hx : xs.all (scS n) = true) : xs.map (gs β') = xs.map (gs β) :=
  List.map_congr_left fun x hm => gs_same h hrow (List.all_eq_true.1 hx x hm)
theorem gv_same {β β' : Env} {n : Nat} (h : ∀ g, g < n → β' g = β g) (hrow : β'.r = β.r) {x : AV} (hx : scV n x = true) : gv β' x = gv β x := by
  cases x with
  | sc s => exact gs_same h hrow hx
  | agg xs => simp only [gv, gss_same h hrow hx]
  | tup xs => simp only [gv, gss_same h hrow hx]
  | junk => rfl

/-- How a state of the evaluator tells a frame and a world; D: the deferred calls; n0, β0, w0: the blocks and the world at the start. -/
structure Rel (c : Cfg) (D : List Deferred) (n0 : Nat) (β0 : Env) (w0 : World) (β : Env) (s : St) (a : Act) (w : World) : Prop where
  size : a.tmps.size = c.N
  defers : a.defers = D
  fr : FrOk β s.fr a.tmps
  mem : MemOk β s.mem w
  inj : ∀ g g', g < s.mem.length → g' < s.mem.length → β g = β g' → g = g'
  lo : n0 ≤ s.mem.length
  old : ∀ g, g < n0 → β g = β0 g
  row : β.r = β0.r
  ro : RoOk β c.ro c.gl s.mem.length w
  new : ∀ g, n0 ≤ g → g < s.mem.length → w0.heap.size ≤ β g
  keep : Keep (fun b => ∃ g, g < n0 ∧ β0 g = b) w0 w
  still : s.still = true → ∃ n, w = w0.drewN n

theorem block_lt {β : Env} {mem : List (List SV)} {w : World} (hm : MemOk β mem w) {g : Nat} (hg : g < mem.length) : β g < w.heap.size := by
  obtain ⟨e, he⟩ := hm g mem[g] (by simp [hg])
  exact (Array.getElem?_eq_some_iff.1 he).1

theorem Rel.put {c : Cfg} {D : List Deferred} {n0 : Nat} {β0 : Env} {w0 : World} {β : Env} {s : St} {a : Act} {w : World} (h : Rel c D n0 β0 w0 β s a w) {d : Option Nat} {v : AV} {fr' : List (Nat × AV)}
    (hb : bind c.N d v s.fr = some fr') : Rel c D n0 β0 w0 β ⟨fr', s.mem, s.still⟩ (a.put d (gv β v)) w := by
  obtain ⟨h1, h2, h3⟩ := bind_ok hb h.size h.fr
  exact ⟨h2, h3.trans h.defers, h1, h.mem, h.inj, h.lo, h.old, h.row, h.ro, h.new, h.keep, h.still⟩

theorem Rel.drewN {c : Cfg} {D : List Deferred} {n0 : Nat} {β0 : Env} {w0 : World} {β : Env} {s : St} {a : Act} {w : World} (h : Rel c D n0 β0 w0 β s a w) (n : Nat) : Rel c D n0 β0 w0 β s a (w.drewN n) :=
  ⟨h.size, h.defers, h.fr, h.mem.drewN n, h.inj, h.lo, h.old, h.row, h.ro.drewN n, h.new, h.keep.drewN n, fun hs => by
    obtain ⟨m, hm⟩ := h.still hs
    exact ⟨m + n, by rw [hm, World.drewN_drewN]⟩⟩

/-- A new block. -/
theorem Rel.alloc {c : Cfg} {D : List Deferred} {n0 : Nat} {β0 : Env} {w0 : World} {β : Env} {s : St} {a : Act} {w : World} (h : Rel c D n0 β0 w0 β s a w) (hsc : inScope s = true) {z : List SV} (hz : z.all (scS s.mem.length) = true) (e : TypeId) :
    Rel c D n0 β0 w0 (more β s.mem.length w.heap.size) ⟨s.fr, s.mem ++ [z], false⟩ a (w.alloc (.cells (z.map (gs β)).toArray e)) := by
  simp only [inScope, Bool.and_eq_true] at hsc
  obtain ⟨hs1, hs2⟩ := hsc
  have hold : ∀ g, g < s.mem.length → more β s.mem.length w.heap.size g = β g := fun g hg => by simp [more, Nat.ne_of_lt hg]
  have hnew : more β s.mem.length w.heap.size s.mem.length = w.heap.size := by simp [more]
  refine ⟨h.size, h.defers, fun d v hv => ?_, fun g cs hg => ?_, fun g g' hg hg' hb => ?_, ?_, fun g hg => ?_, h.row, ?_, fun g h1 h2 => ?_, h.keep.alloc _, fun hs => by cases hs⟩
  · rcases h.fr d v hv with h1 | h1
    · exact .inl h1
    · refine .inr ?_
      rw [gv_more (List.all_eq_true.1 hs1 _ (look_mem hv))]
      exact h1
  · simp only at hg
    by_cases hlt : g < s.mem.length
    · rw [List.getElem?_append_left hlt] at hg
      obtain ⟨e', he'⟩ := h.mem g cs hg
      refine ⟨e', ?_⟩
      rw [hold g hlt, heap_alloc_old w _ _ (block_lt h.mem hlt), he', gs_mores (List.all_eq_true.1 hs2 cs (List.mem_of_getElem? hg))]
    · have hgl : g = s.mem.length := by
        have := (List.getElem?_eq_some_iff.1 hg).1
        simp at this
        omega
      subst hgl
      rw [List.getElem?_append_right (Nat.le_refl _)] at hg
      simp at hg
      subst hg
      refine ⟨e, ?_⟩
      rw [hnew, heap_alloc_new, gs_mores hz]
  · simp only [List.length_append, List.length_cons, List.length_nil] at hg hg'
    rcases Nat.lt_or_ge g s.mem.length with h1 | h1 <;> rcases Nat.lt_or_ge g' s.mem.length with h2 | h2
    · rw [hold g h1, hold g' h2] at hb
      exact h.inj g g' h1 h2 hb
    · obtain rfl : g' = s.mem.length := by omega
      rw [hold g h1, hnew] at hb
      exact absurd hb (Nat.ne_of_lt (block_lt h.mem h1))
    · obtain rfl : g = s.mem.length := by omega
      rw [hold g' h2, hnew] at hb
      exact absurd hb.symm (Nat.ne_of_lt (block_lt h.mem h2))
    · omega
  · simp only [List.length_append, List.length_cons, List.length_nil]
    have := h.lo
    omega
  · rw [hold g (Nat.lt_of_lt_of_le hg h.lo)]
    exact h.old g hg
  · have hr0 : RoOk (more β s.mem.length w.heap.size) c.ro c.gl s.mem.length w := ⟨fun g cs hg => by
      obtain ⟨h1, h2, h3⟩ := h.ro.1 g cs hg
      exact ⟨h1, fun g' hg' => by rw [hold g' hg']; exact h2 g' hg', h3⟩, fun g cs hg => by
      obtain ⟨h1, h2, h3⟩ := h.ro.2 g cs hg
      exact ⟨h1, fun g' hg' => by rw [hold g' hg']; exact h2 g' hg', h3⟩⟩
    refine hr0.block (by show w.heap.size ≤ (w.heap.push _).size; simp) (fun g h1 h2 => ?_) (fun k hk _ => heap_alloc_old w _ k hk)
    simp only [List.length_append, List.length_cons, List.length_nil] at h2
    obtain rfl : g = s.mem.length := by omega
    rw [hnew]
    exact Nat.le_refl _
  · simp only [List.length_append, List.length_cons, List.length_nil] at h2
    rcases Nat.lt_or_ge g s.mem.length with h3 | h3
    · rw [hold g h3]
      exact h.new g h1 h3
    · obtain rfl : g = s.mem.length := by omega
      rw [hnew]
      exact h.keep.size

/-- A store: block number g reads cs' from now on. -/
theorem Rel.store {c : Cfg} {D : List Deferred} {n0 : Nat} {β0 : Env} {w0 : World} {β : Env} {s : St} {a : Act} {w : World} (h : Rel c D n0 β0 w0 β s a w) {g : Nat} {cs : List SV} (hg : s.mem[g]? = some cs) (cs' : List SV) :
    Rel c D n0 β0 w0 β ⟨s.fr, s.mem.set g cs', false⟩ a (w.setRow (β g) (cs'.map (gs β)).toArray) := by
  have hlt : g < s.mem.length := (List.getElem?_eq_some_iff.1 hg).1
  refine ⟨h.size, h.defers, h.fr, fun k ks hk => ?_, fun k k' hk hk' hb => ?_, by simpa using h.lo, h.old, h.row, ?_, fun k h1 h2 => h.new k h1 (by simpa using h2), ?_, fun hs => by cases hs⟩
  · simp only at hk
    by_cases hkg : k = g
    · subst hkg
      rw [List.getElem?_set_self hlt] at hk
      simp only [Option.some.injEq] at hk
      subst hk
      obtain ⟨e, he⟩ := h.mem k cs hg
      exact ⟨e, setRow_heap w _ _ _ _ _ he⟩
    · rw [List.getElem?_set_ne (Ne.symm hkg)] at hk
      obtain ⟨e, he⟩ := h.mem k ks hk
      refine ⟨e, ?_⟩
      rw [setRow_other w (β g) (β k) _ (fun e => hkg (h.inj k g (List.getElem?_eq_some_iff.1 hk).1 hlt e))]
      exact he
  · exact h.inj k k' (by simpa using hk) (by simpa using hk') hb
  · refine h.ro.block (by rw [setRow_size]; exact Nat.le_refl _) (fun k h1 h2 => by simp at h2; omega) (fun k hk hne => ?_)
    exact setRow_other w (β g) k _ (fun e => hne g hlt e.symm)
  · refine h.keep.setRow (fun hb => ?_) _
    rcases Nat.lt_or_ge g n0 with h1 | h1
    · exact ⟨g, h1, (h.old g h1).symm⟩
    · have := h.new g h1 hlt
      omega

/-- What lies from a slice's address on. -/
def rowOf (c : Cfg) (s : St) : SV → Option (List SV)
  | .sl g off _ _ => match s.mem[g]? with
    | some cs => some (cs.drop off)
    | none => none
  | .rsl g off _ _ => match c.ro[g]? with
    | some cs => some ((cs.drop off).map .u8)
    | none => none
  | _ => none
theorem rowOf_ok {c : Cfg} {s : St} {β : Env} {w : World} (hm : MemOk β s.mem w) {n : Nat} (hro : RoOk β c.ro c.gl n w) {y : SV} {ys : List SV} (h : rowOf c s y = some ys) {p : Nat × Nat} (hp : slLen y = some p) :
    ∃ ad, gs β y = .slice (some ad) p.1 p.2 ∧ ∀ j v, ys[j]? = some v → w.cell? (ad.add j) = some (gs β v) := by
  cases y <;> simp only [rowOf, reduceCtorEq] at h <;> simp only [slLen, Option.some.injEq] at hp <;> subst hp
  · rename_i g off len cap
    split at h <;> (try simp only [Option.some.injEq, reduceCtorEq] at h)
    rename_i cs hcs
    subst h
    refine ⟨⟨β g, off, none⟩, rfl, fun j v hv => ?_⟩
    rw [List.getElem?_drop] at hv
    rw [add_addr, cell_of_mem hm hcs, hv]
    rfl
  · rename_i g off len cap
    split at h <;> (try simp only [Option.some.injEq, reduceCtorEq] at h)
    rename_i cs hcs
    subst h
    refine ⟨⟨(β.r g).1, (β.r g).2 + off, none⟩, rfl, fun j v hv => ?_⟩
    rw [List.getElem?_map, List.getElem?_drop] at hv
    cases hx : cs[off + j]? with
    | none => rw [hx] at hv; cases hv
    | some x =>
      rw [hx] at hv
      cases hv
      rw [add_addr, Nat.add_assoc, hro.at_ hcs hx]
      rfl

def evalW (c : Cfg) (s : St) (o : Oper) : Option (AV × List (List SV)) :=
  match o.op with
  | .alloc t => match zeros c.P t with
    | some z => bif inScope s then some (.sc (.ptr s.mem.length 0), s.mem ++ [z]) else none
    | none => none
  | .box _ x => match ev c s x with
    | some v => match cellsOf v with
      | some z => bif inScope s && z.all (scS s.mem.length) then some (.sc (.ptr s.mem.length 0), s.mem ++ [z]) else none
      | none => none
    | none => none
  | .store t x y => match ev c s x, ev c s y with
    | some (.sc (.ptr g off)), some v => match cellsOf v, s.mem[g]?, c.P.info? t with
      | some xs, some cs, some inf => bif Nat.beq inf.size xs.length && Nat.ble (off + xs.length) cs.length then some (.junk, s.mem.set g (Ev.put cs off xs)) else none
      | _, _, _ => none
    | _, _ => none
  | .buildSlice t len ps => match c.P.underlying t, ps.toList with
    | some (.slice e), [(i, x), (j, y)] => match c.P.info? e, zeros c.P e, ev c s x, ev c s y with
      | some inf, some [_], some (.sc x), some (.sc y) => bif Nat.beq len 2 && Nat.beq i 0 && Nat.beq j 1 && Nat.beq inf.size 1 && inScope s && scS s.mem.length x && scS s.mem.length y then some (.sc (.sl s.mem.length 0 2 2), s.mem ++ [[x, y]]) else none
      | _, _, _, _ => none
    | _, _ => none
  | .makeSlice t l k => match c.P.underlying t, ev c s l, ev c s k with
    | some (.slice e), some (.sc (.i l)), some (.sc (.i k)) => match c.P.info? e, zeros c.P e with
      | some inf, some [z] => bif decide (0 ≤ l) && decide (l ≤ k) && decide (1 ≤ k) && decide (k ≤ 65536) && decide (inf.bytes ≤ 1048576) && Nat.beq inf.size 1 && inScope s then some (.sc (.sl s.mem.length 0 l.toNat k.toNat), s.mem ++ [List.replicate k.toNat z]) else none
      | _, _ => none
    | _, _, _ => none
  | .call cl => match cl.callee with
    | .value (.func f) => match evs c s cl.args.toList with
      | some vs => match c.wf f vs s.mem with
        | some r => bif s.fr.all (fun p => scV s.mem.length p.2) then some r else none
        | none => none
      | none => none
    | .builtin .copy => match evs c s cl.args.toList, cl.argTypes.toList with
      | some [.sc (.sl g off dl _), .sc y], [dT, _] => match c.P.underlying dT with
        | some (.slice e) => match c.P.info? e, s.mem[g]?, rowOf c s y with
          | some inf, some cs, some ys => match slLen y with
            | some p => bif Nat.beq inf.size 1 && Nat.ble (Nat.min p.1 dl) ys.length && Nat.ble (off + Nat.min p.1 dl) cs.length then some (.sc (.i (Nat.min p.1 dl)), s.mem.set g (Ev.put cs off (ys.take (Nat.min p.1 dl)))) else none
            | none => none
          | _, _, _ => none
        | _ => none
      | _, _ => none
    | .builtin .append => match evs c s cl.args.toList, cl.argTypes.toList with
      | some [.sc (.sl g off dl dc), .sc y], [dT, sT] => match c.P.underlying dT, c.P.underlying sT with
        | some (.slice e), some (.slice _) => match c.P.info? e, s.mem[g]?, rowOf c s y with
          | some inf, some cs, some ys => match slLen y with
            | some p => bif Nat.beq inf.size 1 && Nat.ble (dl + p.1) dc && Nat.ble p.1 ys.length && Nat.ble (off + dl + p.1) cs.length then some (.sc (.sl g off (dl + p.1) dc), s.mem.set g (Ev.put cs (off + dl) (ys.take p.1))) else none
            | none => none
          | _, _, _ => none
        | _, _ => none
      | _, _ => none
    | _ => none
  | _ => none

theorem zeros_ok {P : Program} {t : TypeId} {z : List SV} (h : zeros P t = some z) (β : Env) : ∃ v, (∀ w, (zeroValue t).run P w = .ok v w) ∧ v.cells = (z.map (gs β)).toArray := by
  unfold zeros at h
  split at h <;> (try simp only [reduceCtorEq] at h)
  rename_i i hi
  split at h <;> (try simp only [reduceCtorEq] at h)
  rename_i v hv
  exact ⟨v, fun w => by simp [zeroValue, typeInfo, hi, hv], by rw [cvs_ok h β]⟩

theorem cvs_scoped : ∀ {vs : List Value} {ss : List SV}, cvs vs = some ss → ∀ n, ss.all (scS n) = true
  | [], ss, h, n => by cases h; rfl
  | v :: r, ss, h, n => by
    simp only [cvs] at h
    split at h
    · rename_i s ss' h1 h2
      cases h
      simp only [List.all_cons, Bool.and_eq_true]
      refine ⟨?_, cvs_scoped h2 n⟩
      unfold cv at h1
      split at h1
      · rename_i m
        cases hb : (decide (0 ≤ m) && decide (m < 18446744073709551616)) <;> rw [hb] at h1 <;> simp at h1
        subst h1; rfl
      · rename_i m
        cases hb : (decide (0 ≤ m) && decide (m < 256)) <;> rw [hb] at h1 <;> simp at h1
        subst h1; rfl
      · rename_i m
        cases hb : (decide (0 ≤ m) && decide (m < 65536)) <;> rw [hb] at h1 <;> simp at h1
        subst h1; rfl
      · cases h1; rfl
      · cases h1; rfl
      · cases h1; rfl
      · cases h1; rfl
      · cases h1; rfl
      · cases h1
    · cases h

theorem zeros_scoped {P : Program} {t : TypeId} {z : List SV} (h : zeros P t = some z) (n : Nat) : z.all (scS n) = true := by
  unfold zeros at h
  split at h <;> (try simp only [reduceCtorEq] at h)
  split at h <;> (try simp only [reduceCtorEq] at h)
  exact cvs_scoped h n

theorem gv_cells {v : AV} {z : List SV} (h : cellsOf v = some z) (β : Env) : (gv β v).cells = (z.map (gs β)).toArray := by
  cases v <;> simp only [cellsOf, Option.some.injEq, reduceCtorEq] at h <;> subst h
  · rename_i s; simp [gv, gs_cells]
  · simp [gv, Value.cells]

/-- What is asked behind a writing operation. -/
theorem evalW_ok {c : Cfg} (hc : c.Sound) {D : List Deferred} {n0 : Nat} {β0 : Env} {w0 : World} {β : Env} {s : St} {a : Act} {w : World} (h : Rel c D n0 β0 w0 β s a w) {o : Oper} {v : AV} {mem' : List (List SV)}
    (he : evalW c s o = some (v, mem')) {fr' : List (Nat × AV)} (hb : bind c.N o.dst v s.fr = some fr') {K : Act → World → Prop} {Q : Exit → Act → World → Prop}
    (hK : ∀ β' a' w', Rel c D n0 β0 w0 β' ⟨fr', mem', false⟩ a' w' → K a' w') : o.wp c.P a w K Q := by
  obtain ⟨dst, op, ty, pos, after, guard⟩ := o
  unfold Oper.wp
  simp only [evalW] at he
  cases op <;> (try simp only [reduceCtorEq] at he)
  case alloc t =>
    split at he <;> (try simp only [reduceCtorEq] at he)
    rename_i z hz
    cases hsc : inScope s with
    | false => rw [hsc] at he; cases he
    | true =>
      rw [hsc] at he
      simp only [cond_true, Option.some.injEq, Prod.mk.injEq] at he
      obtain ⟨rfl, rfl⟩ := he
      obtain ⟨zv, hzv, hzc⟩ := zeros_ok hz β
      have hr := h.alloc hsc (zeros_scoped hz _) t
      have hp := hr.put (d := dst) (v := .sc (.ptr s.mem.length 0)) (fr' := fr') hb
      have e : gv (more β s.mem.length w.heap.size) (.sc (.ptr s.mem.length 0)) = .pointer (some ⟨w.heap.size, 0, none⟩) := by simp [gv, gs, more]
      rw [e] at hp
      simp only [execOp, Instr.alloc, newVar, newRow, Sem.run_bind, Sem.run_pure, Result.andThen_ok, hzv, run_newObj, hzc, Oper.upon]
      exact hK _ _ _ hp
  case box t x =>
    split at he <;> (try simp only [reduceCtorEq] at he)
    rename_i u hu
    split at he <;> (try simp only [reduceCtorEq] at he)
    rename_i z hz
    cases hsc : (inScope s && z.all (scS s.mem.length)) with
    | false => rw [hsc] at he; cases he
    | true =>
      rw [hsc] at he
      simp only [Bool.and_eq_true] at hsc
      simp only [cond_true, Option.some.injEq, Prod.mk.injEq] at he
      obtain ⟨rfl, rfl⟩ := he
      have hr := h.alloc hsc.1 hsc.2 t
      have hp := hr.put (d := dst) (v := .sc (.ptr s.mem.length 0)) (fr' := fr') hb
      have e : gv (more β s.mem.length w.heap.size) (.sc (.ptr s.mem.length 0)) = .pointer (some ⟨w.heap.size, 0, none⟩) := by simp [gv, gs, more]
      rw [e] at hp
      simp only [execOp, ev_ok h.fr hu, Instr.box, newVar, newRow, Sem.run_bind, Sem.run_pure, Result.andThen_ok, run_newObj, gv_cells hz β, Oper.upon]
      exact hK _ _ _ hp
  case store t x y =>
    split at he <;> (try simp only [reduceCtorEq] at he)
    rename_i g off u hx hy
    split at he <;> (try simp only [reduceCtorEq] at he)
    rename_i xs cs inf hxs hcs hinf
    cases hbb : (Nat.beq inf.size xs.length && Nat.ble (off + xs.length) cs.length) with
    | false => rw [hbb] at he; cases he
    | true =>
      rw [hbb] at he
      simp only [Bool.and_eq_true] at hbb
      simp only [cond_true, Option.some.injEq, Prod.mk.injEq] at he
      obtain ⟨rfl, rfl⟩ := he
      have hsz : inf.size = xs.length := Nat.eq_of_beq_eq_true hbb.1
      have hle : off + xs.length ≤ cs.length := Nat.le_of_ble_eq_true hbb.2
      obtain ⟨e, hhe⟩ := h.mem g cs hcs
      have hst := run_storeCells_at c.P (β g) off e (xs.map (gs β)) 0 (cs.map (gs β)).toArray w hhe (by simpa using hle) (fun v hv => by
        obtain ⟨q, _, rfl⟩ := List.mem_map.1 hv
        exact gs_one β q)
      have hr := h.store hcs (Ev.put cs off xs)
      have hp := hr.put (d := dst) (v := .junk) (fr' := fr') hb
      have ee : (List.take (off + 0) (cs.map (gs β)).toArray.toList ++ xs.map (gs β) ++ List.drop (off + 0 + (xs.map (gs β)).length) (cs.map (gs β)).toArray.toList) = (Ev.put cs off xs).map (gs β) := by
        simp [Ev.put, List.map_take, List.map_drop]
      rw [ee] at hst
      have hxv : a.eval x = .pointer (some ⟨β g, off, none⟩) := ev_ok h.fr hx
      have hyv := ev_ok h.fr hy
      have hcv := gv_cells hxs β
      generalize gv β u = uv at hyv hcv
      simp only [execOp, hxv, hyv, Instr.storeAt, Instr.sureAddr, storeVar, hcv, sizeOf, typeInfo, run_program, hinf, Sem.run_bind, Sem.run_pure, Result.andThen_ok, List.size_toArray, List.length_map, hsz, ne_eq, not_true_eq_false, if_false, hst, Oper.upon]
      exact hK _ _ _ hp
  case buildSlice t len ps =>
    split at he <;> (try simp only [reduceCtorEq] at he)
    rename_i e i x j y hu hps
    split at he <;> (try simp only [reduceCtorEq] at he)
    rename_i inf z x' y' hq hz hx hy
    cases hb1 : (Nat.beq len 2 && Nat.beq i 0 && Nat.beq j 1 && Nat.beq inf.size 1 && inScope s && scS s.mem.length x' && scS s.mem.length y') with
    | false => rw [hb1] at he; cases he
    | true =>
      rw [hb1] at he
      simp only [Bool.and_eq_true] at hb1
      obtain ⟨⟨⟨⟨⟨⟨b1, b2⟩, b3⟩, b4⟩, hsc⟩, b5⟩, b6⟩ := hb1
      simp only [cond_true, Option.some.injEq, Prod.mk.injEq] at he
      obtain ⟨rfl, rfl⟩ := he
      obtain rfl := Nat.eq_of_beq_eq_true b1
      obtain rfl := Nat.eq_of_beq_eq_true b2
      obtain rfl := Nat.eq_of_beq_eq_true b3
      have hsz : inf.size = 1 := Nat.eq_of_beq_eq_true b4
      have hz' : [x', y'].all (scS s.mem.length) = true := by simp [b5, b6]
      obtain ⟨zv, hzv, hzc⟩ := zeros_ok hz β
      have hr := h.alloc hsc hz' e
      have hp := hr.put (d := dst) (v := .sc (.sl s.mem.length 0 2 2)) (fr' := fr') hb
      have e1 : gv (more β s.mem.length w.heap.size) (.sc (.sl s.mem.length 0 2 2)) = .slice (some ⟨w.heap.size, 0, none⟩) 2 2 := by simp [gv, gs, more]
      rw [e1] at hp
      have hps' : ps = #[(0, x), (1, y)] := by apply Array.ext'; simpa using hps
      subst hps'
      have hxv := ev_ok h.fr hx
      have hyv := ev_ok h.fr hy
      simp only [gv] at hxv hyv
      have hfin := hK _ _ _ hp
      have hfill : Instr.fill (fun i => some (i, 1)) ((Array.range 2).map (fun k => (zv.cells)[k % zv.cells.size]!)) [(0, gs β x'), (1, gs β y')] = some #[gs β x', gs β y'] := by
        have e0 : ∀ g : Nat → Value, (Array.range 2).map g = #[g 0, g 1] := fun g => by
          apply Array.ext
          · simp
          · intro i h1 h2
            have : i = 0 ∨ i = 1 := by simp at h2; omega
            rcases this with rfl | rfl <;> simp
        rw [e0]
        simp [Instr.fill, gs_cells]
      simp only [execOp, Instr.buildSlice, Sem.run_bind, Sem.run_pure, Result.andThen_ok, run_underlying hu, typeInfo, sizeOf, run_program, hq, hsz, List.map_toArray, List.map_cons, List.map_nil, hxv, hyv]
      simp [hzv, hfill, newRow, run_newObj, Oper.upon]
      simpa using hfin
  case makeSlice t lo ko =>
    split at he <;> (try simp only [reduceCtorEq] at he)
    rename_i e l k hu hl hk
    split at he <;> (try simp only [reduceCtorEq] at he)
    rename_i inf z hq hz
    cases hb1 : (decide (0 ≤ l) && decide (l ≤ k) && decide (1 ≤ k) && decide (k ≤ 65536) && decide (inf.bytes ≤ 1048576) && Nat.beq inf.size 1 && inScope s) with
    | false => rw [hb1] at he; cases he
    | true =>
      rw [hb1] at he
      simp only [Bool.and_eq_true, decide_eq_true_eq] at hb1
      obtain ⟨⟨⟨⟨⟨⟨b1, b2⟩, b6⟩, b3⟩, b4⟩, b5⟩, hsc⟩ := hb1
      simp only [cond_true, Option.some.injEq, Prod.mk.injEq] at he
      obtain ⟨rfl, rfl⟩ := he
      have hz' : (List.replicate k.toNat z).all (scS s.mem.length) = true := by
        have := zeros_scoped hz s.mem.length
        simp only [List.all_cons, List.all_nil, Bool.and_true] at this
        simp [this]
      obtain ⟨zv, hzv, hzc⟩ := zeros_ok hz β
      have hr := h.alloc hsc hz' e
      have hp := hr.put (d := dst) (v := .sc (.sl s.mem.length 0 l.toNat k.toNat)) (fr' := fr') hb
      have e1 : gv (more β s.mem.length w.heap.size) (.sc (.sl s.mem.length 0 l.toNat k.toNat)) = .slice (some ⟨w.heap.size, 0, none⟩) l.toNat k.toNat := by simp [gv, gs, more]
      rw [e1] at hp
      have hsz : inf.size = 1 := Nat.eq_of_beq_eq_true b5
      have wk : IntKind.i64.wrap k = k := by
        simp only [IntKind.wrap, IntKind.bits, IntKind.signed]
        simp
        omega
      have wl : IntKind.i64.wrap l = l := by
        simp only [IntKind.wrap, IntKind.bits, IntKind.signed]
        simp
        omega
      have hmul : (inf.bytes : Int) * k ≤ 281474976710656 := by
        have h1 : (inf.bytes : Int) * k ≤ 1048576 * k := Int.mul_le_mul_of_nonneg_right (by omega) (by omega)
        omega
      have harr : (Array.range (k.toNat * 1)).map (fun x => (zv.cells)[x % zv.cells.size]!) = ((List.replicate k.toNat z).map (gs β)).toArray := by
        rw [hzc]
        apply Array.ext
        · simp
        · intro i h1 h2
          simp [Nat.mod_one]
      have hk0 : ¬ (k < 0) := by omega
      have hl0 : ¬ (l < 0) := by omega
      have hlk : ¬ (l > k) := by omega
      have hmul' : ¬ ((inf.bytes : Int) * k > 281474976710656) := by omega
      have hfin := hK _ _ _ hp
      rw [← harr] at hfin
      simp only [execOp, Instr.makeSlice, ev_ok h.fr hl, ev_ok h.fr hk, gv, gs, asInt, asIntOf, Sem.run_bind, Sem.run_pure, Result.andThen_ok, run_underlying hu, typeInfo, sizeOf, run_program, hq, wk, wl]
      have hk1 : ¬ k.toNat = 0 := by omega
      simp [hk0, hl0, hlk, hmul', hk1, hzv, newRow, run_newObj, Oper.upon, hq, hsz]
      simpa using hfin
  case call cl =>
    split at he <;> (try simp only [reduceCtorEq] at he)
    · rename_i f hcal
      split at he <;> (try simp only [reduceCtorEq] at he)
      rename_i vs hvs
      split at he <;> (try simp only [reduceCtorEq] at he)
      rename_i r hwf
      cases hsf : s.fr.all (fun p => scV s.mem.length p.2) with
      | false => rw [hsf] at he; cases he
      | true =>
        rw [hsf] at he
        simp only [cond_true, Option.some.injEq] at he
        subst he
        obtain ⟨cal, args, ats⟩ := cl
        simp only at hcal
        subst hcal
        rw [run_call (hc.wgo f vs s.mem _ hwf)]
        simp only [Oper.upon]
        have ea : args.map a.eval = (vs.map (gv β)).toArray := by
          have := evs_ok h.fr hvs
          apply Array.ext'
          simpa using this
        rw [ea]
        refine (hc.w f vs s.mem v mem' hwf β w h.mem h.inj h.ro).mono ?_
        rintro e w' ⟨β', af, rfl⟩
        have hro' : RoOk β' c.ro c.gl s.mem.length w := ⟨fun g cs hg => by
          obtain ⟨h1, h2, h3⟩ := h.ro.1 g cs hg
          rw [af.row]
          exact ⟨h1, fun g' hg' => by rw [af.old g' hg']; exact h2 g' hg', h3⟩, fun g cs hg => by
          obtain ⟨h1, h2, h3⟩ := h.ro.2 g cs hg
          exact ⟨h1, fun g' hg' => by rw [af.old g' hg']; exact h2 g' hg', h3⟩⟩
        have hr : Rel c D n0 β0 w0 β' ⟨s.fr, mem', false⟩ a w' := ⟨h.size, h.defers, fun d u hu => (h.fr d u hu).imp id fun h1 => by
            rw [gv_same af.old af.row (List.all_eq_true.1 hsf _ (look_mem hu))]
            exact h1, af.cells, af.inj, Nat.le_trans h.lo af.len, fun g hg => (af.old g (Nat.lt_of_lt_of_le hg h.lo)).trans (h.old g hg), af.row.trans h.row,
          hro'.block af.keep.size af.new (fun k h1 h2 => af.keep.block k h1 (fun ⟨g, h3, h4⟩ => h2 g h3 ((af.old g h3).trans h4))), fun g h1 h2 => by
            rcases Nat.lt_or_ge g s.mem.length with h3 | h3
            · rw [af.old g h3]
              exact h.new g h1 h3
            · exact Nat.le_trans h.keep.size (af.new g h3 h2),
          h.keep.trans' af.keep (by
            rintro i hi ⟨g, hg, rfl⟩
            rcases Nat.lt_or_ge g n0 with h1 | h1
            · exact ⟨g, h1, (h.old g h1).symm⟩
            · have := h.new g h1 hg
              omega), fun hs => by cases hs⟩
        exact hK _ _ _ (hr.put hb)
    · rename_i hcal
      split at he <;> (try simp only [reduceCtorEq] at he)
      rename_i g off dl dc y dT sT hvs hat
      split at he <;> (try simp only [reduceCtorEq] at he)
      rename_i e hu
      split at he <;> (try simp only [reduceCtorEq] at he)
      rename_i inf cs ys hq hcs hys
      split at he <;> (try simp only [reduceCtorEq] at he)
      rename_i p hp
      cases hb1 : (Nat.beq inf.size 1 && Nat.ble (Nat.min p.1 dl) ys.length && Nat.ble (off + Nat.min p.1 dl) cs.length) with
      | false => rw [hb1] at he; cases he
      | true =>
        rw [hb1] at he
        simp only [Bool.and_eq_true] at hb1
        obtain ⟨⟨b1, b2⟩, b3⟩ := hb1
        simp only [cond_true, Option.some.injEq, Prod.mk.injEq] at he
        obtain ⟨rfl, rfl⟩ := he
        obtain ⟨cal, args, ats⟩ := cl
        simp only at hcal hvs hat
        subst hcal
        have b2' := Nat.le_of_ble_eq_true b2
        have b3' := Nat.le_of_ble_eq_true b3
        obtain ⟨ad, had, hcell⟩ := rowOf_ok h.mem h.ro hys hp
        obtain ⟨el, hel⟩ := h.mem g cs hcs
        have ea : args.map a.eval = #[.slice (some ⟨β g, off, none⟩) dl dc, .slice (some ad) p.1 p.2] := by
          have := evs_ok h.fr hvs
          apply Array.ext'
          rw [Array.toList_map, this]
          show [gs β (.sl g off dl dc), gs β y] = _
          rw [had]
          rfl
        have eat : ats = #[dT, sT] := by apply Array.ext'; simpa using hat
        have hlen : ((ys.take (Nat.min p.1 dl)).map (gs β)).length = Nat.min p.1 dl := by
          rw [List.length_map, List.length_take]
          omega
        have hrun := run_copy_row c.P w dT sT ty e (β g) off dl dc ad p.1 p.2 _ el ((ys.take (Nat.min p.1 dl)).map (gs β)) hu (by simp [hq, Nat.eq_of_beq_eq_true b1]) hel hlen (fun j v hv => by
            rw [List.getElem?_map] at hv
            cases hx : (ys.take (Nat.min p.1 dl))[j]? with
            | none => rw [hx] at hv; cases hv
            | some x =>
              rw [hx] at hv
              cases hv
              refine hcell j x ?_
              have hj : j < Nat.min p.1 dl := by
                have := (List.getElem?_eq_some_iff.1 hx).1
                rw [List.length_take] at this
                omega
              rwa [List.getElem?_take_of_lt hj] at hx) (by rw [hlen]; simpa using b3') (fun v hv => by
            obtain ⟨q, _, rfl⟩ := List.mem_map.1 hv
            exact gs_one β q)
        have hr := h.store hcs (Ev.put cs off (ys.take (Nat.min p.1 dl)))
        have hp' := hr.put (d := dst) (v := .sc (.i (Nat.min p.1 dl : Nat))) (fr' := fr') hb
        have ee : (List.take off (cs.map (gs β)).toArray.toList ++ (ys.take (Nat.min p.1 dl)).map (gs β) ++ List.drop (off + ((ys.take (Nat.min p.1 dl)).map (gs β)).length) (cs.map (gs β)).toArray.toList) = (Ev.put cs off (ys.take (Nat.min p.1 dl))).map (gs β) := by
          simp [Ev.put, List.map_take, List.map_drop]
        rw [ee, hlen] at hrun
        simp only [execOp, resolve, ea, eat, Sem.run_bind, Sem.run_pure, Result.andThen_ok, invoke, builtin, hrun, Oper.upon]
        exact hK _ _ _ hp'
    · rename_i hcal
      split at he <;> (try simp only [reduceCtorEq] at he)
      rename_i g off dl dc y dT sT hvs hat
      split at he <;> (try simp only [reduceCtorEq] at he)
      rename_i e e2 hu hu2
      split at he <;> (try simp only [reduceCtorEq] at he)
      rename_i inf cs ys hq hcs hys
      split at he <;> (try simp only [reduceCtorEq] at he)
      rename_i p hp
      cases hb1 : (Nat.beq inf.size 1 && Nat.ble (dl + p.1) dc && Nat.ble p.1 ys.length && Nat.ble (off + dl + p.1) cs.length) with
      | false => rw [hb1] at he; cases he
      | true =>
        rw [hb1] at he
        simp only [Bool.and_eq_true] at hb1
        obtain ⟨⟨⟨b1, b0⟩, b2⟩, b3⟩ := hb1
        simp only [cond_true, Option.some.injEq, Prod.mk.injEq] at he
        obtain ⟨rfl, rfl⟩ := he
        obtain ⟨cal, args, ats⟩ := cl
        simp only at hcal hvs hat
        subst hcal
        have b0' := Nat.le_of_ble_eq_true b0
        have b1' := Nat.eq_of_beq_eq_true b1
        have b2' := Nat.le_of_ble_eq_true b2
        have b3' := Nat.le_of_ble_eq_true b3
        obtain ⟨ad, had, hcell⟩ := rowOf_ok h.mem h.ro hys hp
        obtain ⟨el, hel⟩ := h.mem g cs hcs
        have ea : args.map a.eval = #[.slice (some ⟨β g, off, none⟩) dl dc, .slice (some ad) p.1 p.2] := by
          have := evs_ok h.fr hvs
          apply Array.ext'
          rw [Array.toList_map, this]
          show [gs β (.sl g off dl dc), gs β y] = _
          rw [had]
          rfl
        have eat : ats = #[dT, sT] := by apply Array.ext'; simpa using hat
        have hlen : ((ys.take p.1).map (gs β)).length = p.1 := by
          rw [List.length_map, List.length_take]
          omega
        have hld := run_loadCells_list (P := c.P) w ad ((ys.take p.1).map (gs β)) (fun j v hv => by
            rw [List.getElem?_map] at hv
            cases hx : (ys.take p.1)[j]? with
            | none => rw [hx] at hv; cases hv
            | some x =>
              rw [hx] at hv
              cases hv
              refine hcell j x ?_
              have hj : j < p.1 := by
                have := (List.getElem?_eq_some_iff.1 hx).1
                rw [List.length_take] at this
                omega
              rwa [List.getElem?_take_of_lt hj] at hx)
        rw [hlen] at hld
        have hst := run_storeCells_at c.P (β g) (off + dl) el ((ys.take p.1).map (gs β)) 0 (cs.map (gs β)).toArray w hel (by rw [hlen]; simpa using b3') (fun v hv => by
            obtain ⟨q, _, rfl⟩ := List.mem_map.1 hv
            exact gs_one β q)
        have hr := h.store hcs (Ev.put cs (off + dl) (ys.take p.1))
        have hp' := hr.put (d := dst) (v := .sc (.sl g off (dl + p.1) dc)) (fr' := fr') hb
        have ee : (List.take (off + dl + 0) (cs.map (gs β)).toArray.toList ++ (ys.take p.1).map (gs β) ++ List.drop (off + dl + 0 + ((ys.take p.1).map (gs β)).length) (cs.map (gs β)).toArray.toList) = (Ev.put cs (off + dl) (ys.take p.1)).map (gs β) := by
          simp [Ev.put, List.map_take, List.map_drop]
        rw [ee] at hst
        simp only [execOp, resolve, ea, eat, Sem.run_bind, Sem.run_pure, Result.andThen_ok, invoke, builtin]
        simp only [Builtin.append_, List.getElem?_toArray, List.getElem?_cons_zero, List.getElem?_cons_succ, run_underlying hu, run_underlying hu2, sizeOf, typeInfo, run_program, hq, b1', Builtin.lenOf, Sem.run_bind, Sem.run_pure, Result.andThen_ok, Bool.false_eq_true, if_false, if_pos b0', Nat.mul_one, Bool.not_false, if_true, Builtin.firstCells, hld, add_addr, hst, Oper.upon]
        exact hK _ _ _ hp'

/-! ### Regions and code -/
def runL (c : Cfg) (all : List Oper) : List Oper → St → Option St
  | [], s => some s
  | o :: r, s => match want all s.fr o with
    | some true => match evalQ c s o with
      | some v => match bind c.N o.dst v s.fr with
        | some fr' => runL c all r ⟨fr', s.mem, s.still⟩
        | none => none
      | none => match evalW c s o with
        | some (v, mem') => match bind c.N o.dst v s.fr with
          | some fr' => runL c all r ⟨fr', mem', false⟩
          | none => none
        | none => none
    | some false => match bind c.N o.dst .junk s.fr with
      | some fr' => runL c all r ⟨fr', s.mem, s.still⟩
      | none => none
    | none => none

theorem runL_ok {c : Cfg} (hc : c.Sound) {D : List Deferred} {n0 : Nat} {β0 : Env} {w0 : World} {ops : Array Oper} {Q : Exit → Act → World → Prop} :
    ∀ (l : List Oper) (s s' : St), runL c ops.toList l s = some s' → ∀ β a w, Rel c D n0 β0 w0 β s a w → (∀ β' a' w', Rel c D n0 β0 w0 β' s' a' w' → Q .normal a' w') → wpList c.P ops Q l a w
  | [], s, s', h, β, a, w, hr, hQ => by
    cases h
    exact hQ β a w hr
  | o :: r, s, s', h, β, a, w, hr, hQ => by
    simp only [runL] at h
    split at h <;> (try simp only [reduceCtorEq] at h)
    · rename_i hgd
      unfold wpList
      rw [if_pos (want_ok hgd hr.fr)]
      refine .inl ?_
      split at h
      · rename_i v hv
        split at h <;> (try simp only [reduceCtorEq] at h)
        rename_i fr1 hb
        have hq := evalQ_ok hc hr.fr hr.mem hr.inj hr.ro hv 0
        rw [World.drewN_zero] at hq
        refine Oper.wp_of_quiet (C := fun w' => ∃ n, w' = w.drewN n) (K := fun a' => a' = a.put o.dst (gv β v)) ⟨0, rfl⟩ (fun a' w' hw' ha' => ?_) ⟨gv β v, fun w' hw' => ?_, rfl⟩
        · obtain ⟨n, rfl⟩ := hw'
          subst ha'
          exact runL_ok hc r ⟨fr1, s.mem, s.still⟩ s' h β _ _ ((hr.drewN n).put hb) hQ
        · obtain ⟨n, rfl⟩ := hw'
          exact evalQ_ok hc hr.fr hr.mem hr.inj hr.ro hv n
      · split at h <;> (try simp only [reduceCtorEq] at h)
        rename_i v mem' hv
        split at h <;> (try simp only [reduceCtorEq] at h)
        rename_i fr1 hb
        exact evalW_ok hc hr hv hb fun β' a' w' hr' => runL_ok hc r ⟨fr1, mem', false⟩ s' h β' a' w' hr' hQ
    · rename_i hgd
      split at h <;> (try simp only [reduceCtorEq] at h)
      rename_i fr1 hb
      unfold wpList
      rw [if_neg (by rw [want_ok hgd hr.fr]; simp)]
      exact runL_ok hc r ⟨fr1, s.mem, s.still⟩ s' h β _ _ (hr.put (v := .junk) hb) hQ

def prune (fr : List (Nat × AV)) : Nat → List (Nat × AV)
  | 0 => []
  | k + 1 => match look fr k with
    | some v => (k, v) :: prune fr k
    | none => prune fr k

theorem look_prune {fr : List (Nat × AV)} : ∀ {k d : Nat} {v : AV}, look (prune fr k) d = some v → look fr d = some v
  | 0, d, v, h => by cases h
  | k + 1, d, v, h => by
    simp only [prune] at h
    split at h
    · rename_i u hu
      simp only [look] at h
      cases hk : Nat.beq k d with
      | true =>
        rw [hk] at h
        obtain rfl := Nat.eq_of_beq_eq_true hk
        simp only [cond_true] at h
        exact hu.trans h
      | false =>
        rw [hk] at h
        exact look_prune h
    · exact look_prune h

theorem Rel.less {c : Cfg} {D : List Deferred} {n0 : Nat} {β0 : Env} {w0 : World} {β : Env} {s : St} {a : Act} {w : World} (h : Rel c D n0 β0 w0 β s a w) {fr' : List (Nat × AV)} (hl : ∀ d v, look fr' d = some v → look s.fr d = some v) :
    Rel c D n0 β0 w0 β ⟨fr', s.mem, s.still⟩ a w :=
  ⟨h.size, h.defers, fun d v hv => h.fr d v (hl d v hv), h.mem, h.inj, h.lo, h.old, h.row, h.ro, h.new, h.keep, h.still⟩

def regionQ (c : Cfg) (K : Nat) (ops : Array Oper) (s : St) : Option St :=
  match runQ c s.mem ops.toList ops.toList s.fr with
  | some fr' => bif Region.lexB .any ops then some ⟨prune fr' K, s.mem, s.still⟩ else none
  | none => none

def regionT (c : Cfg) (K : Nat) (ops : Array Oper) (n : Nat) (s : St) : Option St :=
  match runQ c s.mem ops.toList (ops.toList.take n) s.fr with
  | some fr' => match runL c ops.toList (ops.toList.drop n) ⟨fr', s.mem, s.still⟩ with
    | some s' => bif Region.lexTailB .any ops n then some ⟨prune s'.fr K, s'.mem, s'.still⟩ else none
    | none => none
  | none => none

def region (c : Cfg) (K : Nat) (ops : Array Oper) (draw : Bool) (s : St) : Option St :=
  match draw with
  | false => match runL c ops.toList ops.toList s with
    | some s' => some ⟨prune s'.fr K, s'.mem, s'.still⟩
    | none => none
  | true => match regionQ c K ops s with
    | some s' => some s'
    | none => match regionT c K ops (ops.size - 1) s with
      | some s' => some s'
      | none => regionT c K ops (ops.size - 2) s

theorem regionQ_ok {c : Cfg} (hc : c.Sound) {K : Nat} {D : List Deferred} {n0 : Nat} {β0 : Env} {w0 : World} {id : Nat} {ops : Array Oper} {Q : Exit → Act → World → Prop} {s s' : St} (h : regionQ c K ops s = some s')
    {β : Env} {a : Act} {w : World} (hr : Rel c D n0 β0 w0 β s a w) (hQ : ∀ β' a' w', Rel c D n0 β0 w0 β' s' a' w' → Q .normal a' w') : (Code.region id ops true).wp c.P Q a w := by
  unfold regionQ at h
  split at h <;> (try simp only [reduceCtorEq] at h)
  rename_i fr1 h1
  cases hB : Region.lexB .any ops with
  | false => rw [hB] at h; cases h
  | true =>
    rw [hB] at h
    cases h
    refine wp_region_quiet (C := fun w' => ∃ n, w' = w.drewN n) hc.mixed hB ⟨1, rfl⟩ ?_
    refine runQ_ok hc hr.mem hr.inj hr.ro _ s.fr fr1 a h1 hr.size hr.defers hr.fr fun a' hs' hd' hf' w' hw' => ?_
    obtain ⟨n, rfl⟩ := hw'
    exact hQ β a' _ (Rel.less (s := ⟨fr1, s.mem, s.still⟩) ⟨hs', hd', hf', hr.mem.drewN n, hr.inj, hr.lo, hr.old, hr.row, hr.ro.drewN n, hr.new, hr.keep.drewN n, (hr.drewN n).still⟩ fun d v => look_prune)

theorem regionT_ok {c : Cfg} (hc : c.Sound) {K : Nat} {D : List Deferred} {n0 : Nat} {β0 : Env} {w0 : World} {id : Nat} {ops : Array Oper} {Q : Exit → Act → World → Prop} {s s' : St} {n : Nat} (h : regionT c K ops n s = some s')
    {β : Env} {a : Act} {w : World} (hr : Rel c D n0 β0 w0 β s a w) (hQ : ∀ β' a' w', Rel c D n0 β0 w0 β' s' a' w' → Q .normal a' w') : (Code.region id ops true).wp c.P Q a w := by
  unfold regionT at h
  split at h <;> (try simp only [reduceCtorEq] at h)
  rename_i fr1 h1
  split at h <;> (try simp only [reduceCtorEq] at h)
  rename_i s1 h2
  cases hT : Region.lexTailB .any ops n with
  | false => rw [hT] at h; cases h
  | true =>
    rw [hT] at h
    cases h
    have hops : ops = ops.toList.toArray := by simp
    rw [hops] at hT ⊢
    rw [← hops] at hT
    refine wp_region_quiet_tail (C := fun w' => ∃ n, w' = w.drewN n) (l := ops.toList) n hc.mixed (by rw [← hops]; exact hT) ⟨1, rfl⟩ ?_
    refine runQ_ok (ops := ops.toList.toArray) hc hr.mem hr.inj hr.ro _ s.fr fr1 a (by simpa using h1) hr.size hr.defers hr.fr fun a' hs' hd' hf' w' hw' => ?_
    obtain ⟨m, rfl⟩ := hw'
    exact runL_ok (ops := ops.toList.toArray) hc _ ⟨fr1, s.mem, s.still⟩ s1 (by simpa using h2) β a' _ ⟨hs', hd', hf', hr.mem.drewN m, hr.inj, hr.lo, hr.old, hr.row, hr.ro.drewN m, hr.new, hr.keep.drewN m, (hr.drewN m).still⟩ fun β' a' w' hr' => hQ β' a' w' (hr'.less fun d v => look_prune)

theorem region_ok {c : Cfg} (hc : c.Sound) {K : Nat} {D : List Deferred} {n0 : Nat} {β0 : Env} {w0 : World} {id : Nat} {ops : Array Oper} {draw : Bool} {Q : Exit → Act → World → Prop} {s s' : St} (h : region c K ops draw s = some s')
    {β : Env} {a : Act} {w : World} (hr : Rel c D n0 β0 w0 β s a w) (hQ : ∀ β' a' w', Rel c D n0 β0 w0 β' s' a' w' → Q .normal a' w') : (Code.region id ops draw).wp c.P Q a w := by
  unfold region at h
  split at h
  · split at h <;> (try simp only [reduceCtorEq] at h)
    rename_i s1 h1
    cases h
    exact wp_region_list (runL_ok hc _ s s1 h1 β a w hr fun β' a' w' hr' => hQ β' a' w' (hr'.less fun d v => look_prune))
  · split at h
    · rename_i s1 h1
      cases h
      exact regionQ_ok hc h1 hr hQ
    · split at h
      · rename_i s1 h1
        cases h
        exact regionT_ok hc h1 hr hQ
      · exact regionT_ok hc h hr hQ

inductive Ex where
  | normal
  | out (id : Nat)
  | ret

def Ex.to : Ex → Exit
  | .normal => .normal
  | .out id => .exit id
  | .ret => .ret

def evC (c : Cfg) (K : Nat) : Nat → Code → St → Option (Ex × St)
  | 0, _, _ => none
  | f + 1, code, s => match code with
    | .skip => some (.normal, s)
    | .region _ ops draw => match region c K ops draw s with
      | some s' => some (.normal, s')
      | none => none
    | .seq x y => match evC c K f x s with
      | some (.normal, s') => evC c K f y s'
      | r => r
    | .cond o x y => match ev c s o with
      | some (.sc (.bool true)) => evC c K f x s
      | some (.sc (.bool false)) => evC c K f y s
      | _ => none
    | .block id x => match evC c K f x s with
      | some (.out id', s') => bif Nat.beq id' id then some (.normal, s') else some (.out id', s')
      | r => r
    | .loop x => match evC c K f x s with
      | some (.normal, s') => evC c K f (.loop x) s'
      | r => r
    | .exit id => some (.out id, s)
    | .ret => some (.ret, s)
    | _ => none

theorem evC_ok {c : Cfg} (hc : c.Sound) {K : Nat} {D : List Deferred} {n0 : Nat} {β0 : Env} {w0 : World} : ∀ (f : Nat),
    (∀ (code : Code) (s : St) (e : Ex) (s' : St), evC c K f code s = some (e, s') → ∀ (Q : Exit → Act → World → Prop) β a w, Rel c D n0 β0 w0 β s a w →
      (∀ β' a' w', Rel c D n0 β0 w0 β' s' a' w' → Q e.to a' w') → code.wp c.P Q a w) ∧
    (∀ (x : Code) (s : St) (e : Ex) (s' : St), evC c K f (.loop x) s = some (e, s') → ∀ (Q : Exit → Act → World → Prop) β a w, Rel c D n0 β0 w0 β s a w →
      (∀ β' a' w', Rel c D n0 β0 w0 β' s' a' w' → Q e.to a' w') → Code.rounds c.P x Q f a w) := by
  intro f
  induction f with
  | zero => exact ⟨fun code s e s' h => (by simp [evC] at h), fun x s e s' h => (by simp [evC] at h)⟩
  | succ f ih =>
    obtain ⟨ih1, ih2⟩ := ih
    have loops : ∀ (x : Code) (s : St) (e : Ex) (s' : St), evC c K (f + 1) (.loop x) s = some (e, s') → ∀ (Q : Exit → Act → World → Prop) β a w, Rel c D n0 β0 w0 β s a w →
        (∀ β' a' w', Rel c D n0 β0 w0 β' s' a' w' → Q e.to a' w') → Code.rounds c.P x Q (f + 1) a w := by
      intro x s e s' h Q β a w hr hQ
      rw [rounds_succ]
      simp only [evC] at h
      cases h1 : evC c K f x s with
      | none => rw [h1] at h; cases h
      | some r =>
        rw [h1] at h
        obtain ⟨e1, s1⟩ := r
        cases e1 with
        | normal => exact ih1 x s .normal s1 h1 _ β a w hr fun β' a' w' hr' => ih2 x s1 e s' h Q β' a' w' hr' hQ
        | out id => cases h; exact ih1 x s _ _ h1 _ β a w hr hQ
        | ret => cases h; exact ih1 x s _ _ h1 _ β a w hr hQ
    refine ⟨?_, loops⟩
    intro code s e s' h Q β a w hr hQ
    cases code with
    | skip =>
      simp only [evC, Option.some.injEq, Prod.mk.injEq] at h
      obtain ⟨rfl, rfl⟩ := h
      exact wp_skip (hQ β a w hr)
    | region id ops draw =>
      simp only [evC] at h
      split at h <;> (try simp only [reduceCtorEq] at h)
      rename_i s1 h1
      simp only [Option.some.injEq, Prod.mk.injEq] at h
      obtain ⟨rfl, rfl⟩ := h
      exact region_ok hc h1 hr hQ
    | seq x y =>
      simp only [evC] at h
      refine wp_seq ?_
      cases h1 : evC c K f x s with
      | none => rw [h1] at h; cases h
      | some r =>
        rw [h1] at h
        obtain ⟨e1, s1⟩ := r
        cases e1 with
        | normal => exact ih1 x s .normal s1 h1 _ β a w hr fun β' a' w' hr' => ih1 y s1 e s' h Q β' a' w' hr' hQ
        | out id => cases h; exact ih1 x s _ _ h1 _ β a w hr hQ
        | ret => cases h; exact ih1 x s _ _ h1 _ β a w hr hQ
    | cond o x y =>
      simp only [evC] at h
      split at h <;> (try simp only [reduceCtorEq] at h)
      · rename_i ho
        exact wp_cond_true (ev_ok hr.fr ho) (ih1 x s e s' h Q β a w hr hQ)
      · rename_i ho
        exact wp_cond_false (ev_ok hr.fr ho) (ih1 y s e s' h Q β a w hr hQ)
    | block id x =>
      simp only [evC] at h
      refine wp_block ?_
      cases h1 : evC c K f x s with
      | none => rw [h1] at h; cases h
      | some r =>
        rw [h1] at h
        obtain ⟨e1, s1⟩ := r
        cases e1 with
        | normal => cases h; exact ih1 x s _ _ h1 _ β a w hr hQ
        | ret => cases h; exact ih1 x s _ _ h1 _ β a w hr hQ
        | out id' =>
          simp only at h
          refine ih1 x s _ _ h1 _ β a w hr fun β' a' w' hr' => ?_
          cases hb : Nat.beq id' id with
          | true =>
            rw [hb] at h
            cases h
            simp only [Ex.to, Exit.inBlock, if_pos (Nat.eq_of_beq_eq_true hb)]
            exact hQ β' a' w' hr'
          | false =>
            rw [hb] at h
            cases h
            simp only [Ex.to, Exit.inBlock, if_neg (Nat.ne_of_beq_eq_false hb)]
            exact hQ β' a' w' hr'
    | loop x => exact wp_loop_rounds (f + 1) (loops x s e s' h Q β a w hr hQ)
    | exit id =>
      simp only [evC, Option.some.injEq, Prod.mk.injEq] at h
      obtain ⟨rfl, rfl⟩ := h
      exact wp_exit (hQ β a w hr)
    | ret =>
      simp only [evC, Option.some.injEq, Prod.mk.injEq] at h
      obtain ⟨rfl, rfl⟩ := h
      exact wp_ret (hQ β a w hr)
    | rangeFunc _ _ _ _ => cases h
    | scope _ => cases h
    | label _ => cases h
    | goto _ => cases h
    | refuse _ => cases h

/-- The first n regions of a row of them; what is left. -/
def evN (c : Cfg) (K : Nat) : Nat → Code → St → Option (St × Code)
  | 0, code, s => some (s, code)
  | n + 1, code, s => match code with
    | .seq x rest => match x with
      | .region _ ops draw => match region c K ops draw s with
        | some s' => evN c K n rest s'
        | none => none
      | _ => none
    | _ => none

theorem evN_ok {c : Cfg} (hc : c.Sound) {K : Nat} {D : List Deferred} {n0 : Nat} {β0 : Env} {w0 : World} {Q : Exit → Act → World → Prop} : ∀ (n : Nat) (code : Code) (s s' : St) (rest : Code), evN c K n code s = some (s', rest) →
    ∀ β a w, Rel c D n0 β0 w0 β s a w → (∀ β' a' w', Rel c D n0 β0 w0 β' s' a' w' → rest.wp c.P Q a' w') → code.wp c.P Q a w
  | 0, code, s, s', rest, h, β, a, w, hr, hQ => by
    cases h
    exact hQ β a w hr
  | n + 1, code, s, s', rest, h, β, a, w, hr, hQ => by
    simp only [evN] at h
    split at h <;> (try simp only [reduceCtorEq] at h)
    split at h <;> (try simp only [reduceCtorEq] at h)
    split at h <;> (try simp only [reduceCtorEq] at h)
    rename_i s1 h1
    exact wp_seq (region_ok hc h1 hr fun β' a' w' hr' => evN_ok hc n _ s1 s' rest h β' a' w' hr' hQ)

/-- The first n parts of a row, each of which ends; what is left. -/
def evM (c : Cfg) (K fuel : Nat) : Nat → Code → St → Option (St × Code)
  | 0, code, s => some (s, code)
  | n + 1, code, s => match code with
    | .seq x rest => match evC c K fuel x s with
      | some (.normal, s') => evM c K fuel n rest s'
      | _ => none
    | _ => none

theorem evM_ok {c : Cfg} (hc : c.Sound) {K fuel : Nat} {D : List Deferred} {n0 : Nat} {β0 : Env} {w0 : World} {Q : Exit → Act → World → Prop} : ∀ (n : Nat) (code : Code) (s s' : St) (rest : Code), evM c K fuel n code s = some (s', rest) →
    ∀ β a w, Rel c D n0 β0 w0 β s a w → (∀ β' a' w', Rel c D n0 β0 w0 β' s' a' w' → rest.wp c.P Q a' w') → code.wp c.P Q a w
  | 0, code, s, s', rest, h, β, a, w, hr, hQ => by
    cases h
    exact hQ β a w hr
  | n + 1, code, s, s', rest, h, β, a, w, hr, hQ => by
    simp only [evM] at h
    split at h <;> (try simp only [reduceCtorEq] at h)
    split at h <;> (try simp only [reduceCtorEq] at h)
    rename_i s1 h1
    exact wp_seq ((evC_ok hc fuel).1 _ s .normal s1 h1 _ β a w hr fun β' a' w' hr' => evM_ok hc n _ s1 s' rest h β' a' w' hr' hQ)

/-- Of a state the listed slots alone. -/
def only (fr : List (Nat × AV)) : List Nat → List (Nat × AV)
  | [] => []
  | k :: r => match look fr k with
    | some v => (k, v) :: only fr r
    | none => only fr r
theorem look_only {fr : List (Nat × AV)} : ∀ {ks : List Nat} {d : Nat} {v : AV}, look (only fr ks) d = some v → look fr d = some v
  | [], d, v, h => by cases h
  | k :: r, d, v, h => by
    simp only [only] at h
    split at h
    · rename_i u hu
      simp only [look] at h
      cases hk : Nat.beq k d with
      | true =>
        rw [hk] at h
        obtain rfl := Nat.eq_of_beq_eq_true hk
        simp only [cond_true] at h
        exact hu.trans h
      | false =>
        rw [hk] at h
        exact look_only h
    · exact look_only h

/-! ### A whole call -/
def args0 : Nat → List AV → List (Nat × AV)
  | _, [] => []
  | k, v :: r => (k, v) :: args0 (k + 1) r

theorem look_args0 : ∀ {vs : List AV} {k d : Nat} {v : AV}, look (args0 k vs) d = some v → k ≤ d ∧ vs[d - k]? = some v
  | [], k, d, v, h => by cases h
  | u :: r, k, d, v, h => by
    simp only [args0, look] at h
    cases hk : Nat.beq k d with
    | true =>
      rw [hk] at h
      obtain rfl := Nat.eq_of_beq_eq_true hk
      simp only [cond_true, Option.some.injEq] at h
      subst h
      simp
    | false =>
      rw [hk] at h
      have hne := Nat.ne_of_beq_eq_false hk
      obtain ⟨h1, h2⟩ := look_args0 h
      refine ⟨by omega, ?_⟩
      rw [show d - k = (d - (k + 1)) + 1 by omega]
      simpa using h2

/-- The start of a call: the arguments in the first slots; the blocks that are known. -/
theorem Rel.start {c : Cfg} {β : Env} {w : World} {vs : List AV} {mem : List (List SV)} (hN : vs.length ≤ c.N) (hm : MemOk β mem w)
    (hi : ∀ g g', g < mem.length → g' < mem.length → β g = β g' → g = g') (hro : RoOk β c.ro c.gl mem.length w) :
    Rel c [] mem.length β w β ⟨args0 0 vs, mem, true⟩ { tmps := (vs.map (gv β)).toArray ++ Array.replicate (c.N - (vs.map (gv β)).toArray.size) undef, defers := [] } w := by
  refine ⟨by simp; omega, rfl, fun d v hv => ?_, hm, hi, Nat.le_refl _, fun _ _ => rfl, rfl, hro, fun g h1 h2 => absurd h2 (Nat.not_lt.2 h1), Keep.refl _ _, fun _ => ⟨0, rfl⟩⟩
  obtain ⟨_, h2⟩ := look_args0 hv
  refine .inr ?_
  have hlt : d < vs.length := by
    have := (List.getElem?_eq_some_iff.1 h2).1
    simpa using this
  rw [Array.getElem?_append_left (by simpa using hlt)]
  simpa using ⟨v, by simpa using h2, rfl⟩

/-- What a function hands back: one slot. -/
theorem calls_tmp {c : Cfg} (hc : c.Sound) {K fuel : Nat} {f : FuncId} {fn : Func} {code : Code} {r : Tmp} {vs : List AV} {mem : List (List SV)} {β : Env} {w : World} {e : Ex} {s' : St} {v : AV}
    (hf : c.P.funcs[f]? = some fn) (hb : fn.body = some code) (hn : fn.ntmps = c.N) (hres : fn.results = #[.tmp r])
    (hN : vs.length ≤ c.N) (hm : MemOk β mem w) (hi : ∀ g g', g < mem.length → g' < mem.length → β g = β g' → g = g') (hro : RoOk β c.ro c.gl mem.length w)
    (he : evC c K fuel code ⟨args0 0 vs, mem, true⟩ = some (e, s')) (hex : e = .normal ∨ e = .ret) (hv : ev c s' (.tmp r) = some v) :
    Calls c.P f (vs.map (gv β)).toArray w fun x w' => ∃ β' a', Rel c [] mem.length β w β' s' a' w' ∧ x = .returned (gv β' v) := by
  refine calls_of_wp hf hb ?_
  rw [hn]
  refine (evC_ok hc fuel).1 code _ e s' he _ β _ w (Rel.start hN hm hi hro) fun β' a' w' hr => ?_
  have hx : (results fn a'.tmps).run c.P w' = .ok (gv β' v) w' := by
    rw [results_tmp hres]
    have := ev_ok hr.fr hv
    simp only [Act.eval] at this
    rw [this]
  rcases hex with rfl | rfl
  · exact ⟨hr.defers, _, hx, β', a', hr, rfl⟩
  · exact ⟨hr.defers, _, hx, β', a', hr, rfl⟩

/-- What a function hands back: two slots. -/
theorem calls_tup {c : Cfg} (hc : c.Sound) {K fuel : Nat} {f : FuncId} {fn : Func} {code : Code} {r1 r2 : Tmp} {vs : List AV} {mem : List (List SV)} {β : Env} {w : World} {e : Ex} {s' : St} {v1 v2 : SV}
    (hf : c.P.funcs[f]? = some fn) (hb : fn.body = some code) (hn : fn.ntmps = c.N) (hres : fn.results = #[.tmp r1, .tmp r2])
    (hN : vs.length ≤ c.N) (hm : MemOk β mem w) (hi : ∀ g g', g < mem.length → g' < mem.length → β g = β g' → g = g') (hro : RoOk β c.ro c.gl mem.length w)
    (he : evC c K fuel code ⟨args0 0 vs, mem, true⟩ = some (e, s')) (hex : e = .normal ∨ e = .ret) (hv1 : ev c s' (.tmp r1) = some (.sc v1)) (hv2 : ev c s' (.tmp r2) = some (.sc v2)) :
    Calls c.P f (vs.map (gv β)).toArray w fun x w' => ∃ β' a', Rel c [] mem.length β w β' s' a' w' ∧ x = .returned (gv β' (.tup [v1, v2])) := by
  refine calls_of_wp hf hb ?_
  rw [hn]
  refine (evC_ok hc fuel).1 code _ e s' he _ β _ w (Rel.start hN hm hi hro) fun β' a' w' hr => ?_
  have hx : (results fn a'.tmps).run c.P w' = .ok (gv β' (.tup [v1, v2])) w' := by
    rw [results_tmp2 hres]
    have h1 := ev_ok hr.fr hv1
    have h2 := ev_ok hr.fr hv2
    simp only [Act.eval] at h1 h2
    rw [h1, h2]
    rfl
  rcases hex with rfl | rfl
  · exact ⟨hr.defers, _, hx, β', a', hr, rfl⟩
  · exact ⟨hr.defers, _, hx, β', a', hr, rfl⟩

/-- Nothing. -/
theorem calls_void {c : Cfg} (hc : c.Sound) {K fuel : Nat} {f : FuncId} {fn : Func} {code : Code} {vs : List AV} {mem : List (List SV)} {β : Env} {w : World} {e : Ex} {s' : St}
    (hf : c.P.funcs[f]? = some fn) (hb : fn.body = some code) (hn : fn.ntmps = c.N) (hres : fn.results = #[])
    (hN : vs.length ≤ c.N) (hm : MemOk β mem w) (hi : ∀ g g', g < mem.length → g' < mem.length → β g = β g' → g = g') (hro : RoOk β c.ro c.gl mem.length w)
    (he : evC c K fuel code ⟨args0 0 vs, mem, true⟩ = some (e, s')) (hex : e = .normal ∨ e = .ret) :
    Calls c.P f (vs.map (gv β)).toArray w fun x w' => ∃ β' a', Rel c [] mem.length β w β' s' a' w' ∧ x = .returned (gv β' .junk) := by
  refine calls_of_wp hf hb ?_
  rw [hn]
  refine (evC_ok hc fuel).1 code _ e s' he _ β _ w (Rel.start hN hm hi hro) fun β' a' w' hr => ?_
  have hx : (results fn a'.tmps).run c.P w' = .ok (gv β' .junk) w' := results_none hres _ _ _
  rcases hex with rfl | rfl
  · exact ⟨hr.defers, _, hx, β', a', hr, rfl⟩
  · exact ⟨hr.defers, _, hx, β', a', hr, rfl⟩

/-- An array that lies in a block of its own. -/
theorem calls_cell {c : Cfg} (hc : c.Sound) {K fuel : Nat} {f : FuncId} {fn : Func} {code : Code} {r : Tmp} {ty : TypeId} {vs : List AV} {mem : List (List SV)} {β : Env} {w : World} {e : Ex} {s' : St} {g : Nat} {cs : List SV}
    (hf : c.P.funcs[f]? = some fn) (hb : fn.body = some code) (hn : fn.ntmps = c.N) (hres : fn.results = #[.cell r ty])
    (hN : vs.length ≤ c.N) (hm : MemOk β mem w) (hi : ∀ g g', g < mem.length → g' < mem.length → β g = β g' → g = g') (hro : RoOk β c.ro c.gl mem.length w)
    (he : evC c K fuel code ⟨args0 0 vs, mem, true⟩ = some (e, s')) (hex : e = .normal ∨ e = .ret) (hv : ev c s' (.tmp r) = some (.sc (.ptr g 0))) (hg : s'.mem[g]? = some cs) (hty : lies c.P ty = some (some cs.length)) :
    Calls c.P f (vs.map (gv β)).toArray w fun x w' => ∃ β' a', Rel c [] mem.length β w β' s' a' w' ∧ x = .returned (gv β' (.agg cs)) := by
  refine calls_of_wp hf hb ?_
  rw [hn]
  refine (evC_ok hc fuel).1 code _ e s' he _ β _ w (Rel.start hN hm hi hro) fun β' a' w' hr => ?_
  have hx : (results fn a'.tmps).run c.P w' = .ok (gv β' (.agg cs)) w' := by
    obtain ⟨el, hel⟩ := hr.mem g cs hg
    have h1 := ev_ok hr.fr hv
    obtain ⟨h2, h3⟩ := lies_agg hty w'
    have hd : ∃ d, c.P.underlying ty = some d ∧ (match d with | .struct _ | .array _ _ => true | _ => false) = true := by
      unfold lies at hty
      split at hty <;> (try simp only [Option.some.injEq, reduceCtorEq] at hty)
      · rename_i hd hi; exact ⟨_, hd, rfl⟩
      · rename_i hd hi; exact ⟨_, hd, rfl⟩
      · rename_i i _ _ hd hi
        cases hb : Nat.beq i.size 1 <;> rw [hb] at hty <;> simp at hty
    obtain ⟨d, hd1, hd2⟩ := hd
    exact results_cell_row hres a'.tmps w' (β' g) el _ (0, 0) d h1 hel hd1 (by cases d <;> first | rfl | cases hd2) (by rw [h3]; simp)
  rcases hex with rfl | rfl
  · exact ⟨hr.defers, _, hx, β', a', hr, rfl⟩
  · exact ⟨hr.defers, _, hx, β', a', hr, rfl⟩

/-! ### Calls that are walked into -/
def ends : Ex → Bool
  | .normal => true
  | .ret => true
  | _ => false

def result (c : Cfg) (fn : Func) (s : St) : Option AV :=
  match fn.results.toList with
  | [] => some .junk
  | [.tmp r] => ev c s (.tmp r)
  | [.tmp r1, .tmp r2] => match ev c s (.tmp r1), ev c s (.tmp r2) with
    | some (.sc v1), some (.sc v2) => some (.tup [v1, v2])
    | _, _ => none
  | [.cell r ty] => match ev c s (.tmp r) with
    | some (.sc (.ptr g 0)) => match s.mem[g]?, lies c.P ty with
      | some cs, some (some n) => bif Nat.beq n cs.length then some (.agg cs) else none
      | _, _ => none
    | _ => none
  | _ => none

def sized (c : Cfg) (n : Nat) : Cfg := ⟨c.P, n, c.gl, c.q, c.wf, c.ro⟩

def inl (c : Cfg) (fuel : Nat) (f : FuncId) (args : List AV) (mem : List (List SV)) : Option (AV × St) :=
  match c.P.funcs[f]? with
  | some fn => match fn.body with
    | some code => bif Nat.ble args.length fn.ntmps then
        match evC (sized c fn.ntmps) fn.ntmps fuel code ⟨args0 0 args, mem, true⟩ with
        | some (e, s) => bif ends e then
            match result (sized c fn.ntmps) fn s with
            | some v => some (v, s)
            | none => none
          else none
        | none => none
      else none
    | none => none
  | none => none

theorem Cfg.Sound.sized {c : Cfg} (hc : c.Sound) (n : Nat) : (sized c n).Sound := ⟨hc.mixed, hc.qgo, hc.q, hc.wgo, hc.w⟩

theorem inl_ok {c : Cfg} (hc : c.Sound) {fuel : Nat} {f : FuncId} {vs : List AV} {mem : List (List SV)} {v : AV} {s : St} (h : inl c fuel f vs mem = some (v, s)) {β : Env} {w : World}
    (hm : MemOk β mem w) (hi : ∀ g g', g < mem.length → g' < mem.length → β g = β g' → g = g') (hro : RoOk β c.ro c.gl mem.length w) :
    Calls c.P f (vs.map (gv β)).toArray w fun x w' => ∃ n β' a', Rel (sized c n) [] mem.length β w β' s a' w' ∧ x = .returned (gv β' v) := by
  unfold inl at h
  split at h <;> (try simp only [reduceCtorEq] at h)
  rename_i fn hf
  split at h <;> (try simp only [reduceCtorEq] at h)
  rename_i code hb
  cases hN : Nat.ble vs.length fn.ntmps with
  | false => rw [hN] at h; cases h
  | true =>
    rw [hN] at h
    simp only [cond_true] at h
    have hN' := Nat.le_of_ble_eq_true hN
    split at h <;> (try simp only [reduceCtorEq] at h)
    rename_i e s1 he
    cases hen : ends e with
    | false => rw [hen] at h; cases h
    | true =>
      rw [hen] at h
      simp only [cond_true] at h
      have hex : e = .normal ∨ e = .ret := by cases e <;> simp [ends] at hen ⊢
      split at h <;> (try simp only [reduceCtorEq] at h)
      rename_i v1 hr
      simp only [Option.some.injEq, Prod.mk.injEq] at h
      obtain ⟨rfl, rfl⟩ := h
      unfold result at hr
      split at hr
      · rename_i hres
        cases hr
        have hres' : fn.results = #[] := by apply Array.ext'; simpa using hres
        exact (calls_void (hc.sized fn.ntmps) hf hb rfl hres' hN' hm hi hro he hex).mono fun x w' ⟨β', a', h1, h2⟩ => ⟨fn.ntmps, β', a', h1, h2⟩
      · rename_i r hres
        have hres' : fn.results = #[.tmp r] := by apply Array.ext'; simpa using hres
        exact (calls_tmp (hc.sized fn.ntmps) hf hb rfl hres' hN' hm hi hro he hex hr).mono fun x w' ⟨β', a', h1, h2⟩ => ⟨fn.ntmps, β', a', h1, h2⟩
      · rename_i r1 r2 hres
        have hres' : fn.results = #[.tmp r1, .tmp r2] := by apply Array.ext'; simpa using hres
        split at hr <;> (try simp only [Option.some.injEq, reduceCtorEq] at hr)
        rename_i v1 v2 hv1 hv2
        subst hr
        exact (calls_tup (hc.sized fn.ntmps) hf hb rfl hres' hN' hm hi hro he hex hv1 hv2).mono fun x w' ⟨β', a', h1, h2⟩ => ⟨fn.ntmps, β', a', h1, h2⟩
      · rename_i r ty hres
        have hres' : fn.results = #[.cell r ty] := by apply Array.ext'; simpa using hres
        split at hr <;> (try simp only [reduceCtorEq] at hr)
        rename_i g hv
        split at hr <;> (try simp only [reduceCtorEq] at hr)
        rename_i cs n hg hl
        cases hbq : Nat.beq n cs.length with
        | false => rw [hbq] at hr; cases hr
        | true =>
          rw [hbq] at hr
          simp only [cond_true, Option.some.injEq] at hr
          subst hr
          obtain rfl := Nat.eq_of_beq_eq_true hbq
          exact (calls_cell (hc.sized fn.ntmps) hf hb rfl hres' hN' hm hi hro he hex hv hg hl).mono fun x w' ⟨β', a', h1, h2⟩ => ⟨fn.ntmps, β', a', h1, h2⟩
      · cases hr

def among : List Nat → Nat → Bool
  | [], _ => false
  | k :: r, f => bif Nat.beq k f then true else among r f

/-- The same tables, and the listed functions walked into. No package-level variable is known inside. -/
def lift (c : Cfg) (fs : List FuncId) (fuel : Nat) : Cfg :=
  { P := c.P, N := c.N, gl := c.gl, ro := c.ro
    q := fun f args mem => match c.q f args mem with
      | some v => some v
      | none => bif among fs f then
          match inl ⟨c.P, 0, c.gl, c.q, c.wf, c.ro⟩ fuel f args mem with
          | some (v, s) => bif s.still && Nat.beq s.mem.length mem.length && scV mem.length v then some v else none
          | none => none
        else none
    wf := fun f args mem => match c.wf f args mem with
      | some r => some r
      | none => bif among fs f then
          match inl ⟨c.P, 0, c.gl, c.q, c.wf, c.ro⟩ fuel f args mem with
          | some (v, s) => bif scV mem.length v && Nat.ble mem.length s.mem.length && (s.mem.take mem.length).all (fun b => b.all (scS mem.length)) then some (v, s.mem.take mem.length) else some (v, s.mem)
          | none => none
        else none }

theorem among_mem : ∀ {fs : List Nat} {f : Nat}, among fs f = true → f ∈ fs
  | [], f, h => by cases h
  | k :: r, f, h => by
    simp only [among] at h
    cases hk : Nat.beq k f with
    | true => rw [Nat.eq_of_beq_eq_true hk]; exact List.mem_cons_self
    | false => rw [hk] at h; exact List.mem_cons_of_mem _ (among_mem h)

theorem lift_sound {c : Cfg} (hc : c.Sound) (fs : List FuncId) (fuel : Nat) (hgo : ∀ f ∈ fs, ∀ xs w, (callFunc f xs).run c.P w = .ok (.enter f xs) w) : (lift c fs fuel).Sound := by
  have hc' : (⟨c.P, 0, c.gl, c.q, c.wf, c.ro⟩ : Cfg).Sound := ⟨hc.mixed, hc.qgo, hc.q, hc.wgo, hc.w⟩
  refine ⟨hc.mixed, fun f args mem v h => ?_, fun f args mem v h β w hm hi hro => ?_, fun f args mem r h => ?_, fun f args mem v mem' h β w hm hi hro => ?_⟩
  · simp only [lift] at h
    split at h
    · rename_i u hu; exact hc.qgo f args mem u hu
    · cases ha : among fs f with
      | false => rw [ha] at h; cases h
      | true => exact hgo f (among_mem ha)
  · simp only [lift] at h
    split at h
    · rename_i u hu; cases h; exact hc.q f args mem _ hu β w hm hi hro
    · cases ha : among fs f with
      | false => rw [ha] at h; cases h
      | true =>
        rw [ha] at h
        simp only [cond_true] at h
        split at h <;> (try simp only [reduceCtorEq] at h)
        rename_i v1 s h1
        cases hb : (s.still && Nat.beq s.mem.length mem.length && scV mem.length v1) with
        | false => rw [hb] at h; cases h
        | true =>
          rw [hb] at h
          simp only [cond_true, Option.some.injEq] at h
          subst h
          simp only [Bool.and_eq_true] at hb
          obtain ⟨⟨hb1, _⟩, hb3⟩ := hb
          refine (inl_ok hc' h1 (β := β) (w := w) hm hi hro).mono ?_
          rintro x w' ⟨n, β', a', hr, rfl⟩
          exact ⟨by rw [gv_same (fun g hg => hr.old g hg) hr.row hb3], hr.still hb1⟩
  · simp only [lift] at h
    split at h
    · rename_i u hu; exact hc.wgo f args mem u hu
    · cases ha : among fs f with
      | false => rw [ha] at h; cases h
      | true => exact hgo f (among_mem ha)
  · simp only [lift] at h
    split at h
    · rename_i u hu; cases h; exact hc.w f args mem _ _ hu β w hm hi hro
    · cases ha : among fs f with
      | false => rw [ha] at h; cases h
      | true =>
        rw [ha] at h
        simp only [cond_true] at h
        split at h <;> (try simp only [reduceCtorEq] at h)
        rename_i v1 s h1
        cases hb : (scV mem.length v1 && Nat.ble mem.length s.mem.length && (s.mem.take mem.length).all (fun b => b.all (scS mem.length))) with
        | false =>
          rw [hb] at h
          simp only [cond_false, Option.some.injEq, Prod.mk.injEq] at h
          obtain ⟨rfl, rfl⟩ := h
          refine (inl_ok hc' h1 (β := β) (w := w) hm hi hro).mono ?_
          rintro x w' ⟨n, β', a', hr, rfl⟩
          exact ⟨β', ⟨hr.old, hr.row, hr.mem, hr.lo, hr.inj, hr.new, hr.keep⟩, rfl⟩
        | true =>
          rw [hb] at h
          simp only [cond_true, Option.some.injEq, Prod.mk.injEq] at h
          obtain ⟨rfl, rfl⟩ := h
          simp only [Bool.and_eq_true] at hb
          obtain ⟨⟨hb1, hb2⟩, hb3⟩ := hb
          have hle := Nat.le_of_ble_eq_true hb2
          refine (inl_ok hc' h1 (β := β) (w := w) hm hi hro).mono ?_
          rintro x w' ⟨n, β', a', hr, rfl⟩
          refine ⟨β, After.same hi (fun g cs hg => ?_) (by simp; omega) hr.keep, by rw [gv_same (fun g hg => hr.old g hg) hr.row hb1]⟩
          have hlt : g < mem.length := by
            have := (List.getElem?_eq_some_iff.1 hg).1
            simp at this
            omega
          have hg' := hg
          rw [List.getElem?_take_of_lt hlt] at hg'
          obtain ⟨el, hel⟩ := hr.mem g cs hg'
          exact ⟨el, by rw [← hr.old g hlt, hel, gss_same (fun g hg => hr.old g hg) hr.row (List.all_eq_true.1 hb3 cs (List.mem_of_getElem? hg))]⟩
end Ev
end Go.Proofs.YtjcbphifdapkdaaDoor
