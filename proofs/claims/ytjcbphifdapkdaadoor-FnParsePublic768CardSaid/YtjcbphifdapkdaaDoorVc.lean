/-
  A second evaluator: whole numbers that are not known, rows that are functions; what must hold is gathered in a list.
-/
import Derived.Test.YtjcbphifdapkdaaDoorEv
import Derived.Laws.AppendOwn
namespace Go.Proofs.YtjcbphifdapkdaaDoor
namespace Vc
open Go

/-! ### Values -/
inductive SV where
  | u8 (x : BitVec 8)
  | u16 (x : BitVec 16)
  | u32 (x : BitVec 32)
  | u64 (x : BitVec 64)
  | i (n : Int)
  | x (n : Int)
  | bool (b : Bool)
  | ptr (g off : Nat)
  | xptr (g off : Nat)
  | sl (g off len cap : Nat)
  | own (g len : Nat)
  | rptr (g off : Nat)
  | rsl (g off len cap : Nat)
  | nosl
  | nop
  | noif
  | err (g : Nat)
  | str (s : ByteArray)

/-- What a block holds: known cells; a row that is a function; a row of bytes that a slice of the call's own begins with; nothing that is told. -/
inductive Blk where
  | cells (cs : List SV)
  | r8 (n : Nat) (f : Nat → BitVec 8)
  | r8t (n : Nat) (f : Nat → BitVec 8) (tl : List SV)
  | r16 (n : Nat) (f : Nat → BitVec 16)
  | r64 (n : Nat) (f : Nat → BitVec 64)
  | ri (n : Nat) (f : Nat → Int)
  | own (n : Nat) (f : Nat → BitVec 8)
  | dead

def Blk.list : Blk → List SV
  | .cells cs => cs
  | .r8 n f => (List.range n).map fun j => .u8 (f j)
  | .r8t n f tl => ((List.range n).map fun j => .u8 (f j)) ++ tl
  | .r16 n f => (List.range n).map fun j => .u16 (f j)
  | .r64 n f => (List.range n).map fun j => .u64 (f j)
  | .ri n f => (List.range n).map fun j => .i (f j)
  | .own _ _ => []
  | .dead => []
def Blk.len : Blk → Nat
  | .cells cs => cs.length
  | .r8 n _ => n
  | .r8t n _ tl => n + tl.length
  | .r16 n _ => n
  | .r64 n _ => n
  | .ri n _ => n
  | .own _ _ => 0
  | .dead => 0
theorem Blk.len_list (b : Blk) : b.list.length = b.len := by cases b <;> simp [Blk.list, Blk.len]
/-- Known whole. -/
def Blk.whole : Blk → Bool
  | .own _ _ => false
  | .dead => false
  | _ => true
def Blk.live : Blk → Bool
  | .dead => false
  | _ => true
/-- What lies at a place, and what must hold for it. -/
def Blk.at_ (b : Blk) (off : Nat) : Option (SV × List Prop) := match b with
  | .cells cs => match cs[off]? with
    | some v => some (v, [])
    | none => none
  | .r8 n f => some (.u8 (f off), [off < n])
  | .r8t n f tl => bif Nat.blt off n then some (.u8 (f off), []) else
      match tl[off - n]? with
      | some v => some (v, [])
      | none => none
  | .r16 n f => some (.u16 (f off), [off < n])
  | .r64 n f => some (.u64 (f off), [off < n])
  | .ri n f => some (.x (f off), [off < n])
  | .own n f => some (.u8 (f off), [off < n])
  | .dead => none

/-- The same at a place that is not a numeral. -/
def Blk.atx (b : Blk) (off : Nat) : Option (SV × List Prop) := match b with
  | .r8t n f _ => some (.u8 (f off), [off < n])
  | b => b.at_ off

def All : List Prop → Prop
  | [] => True
  | p :: r => p ∧ All r
theorem All.app : ∀ {xs ys : List Prop}, All (xs ++ ys) → All xs ∧ All ys
  | [], _, h => ⟨trivial, h⟩
  | _ :: _, _, h => ⟨⟨h.1, (All.app h.2).1⟩, (All.app h.2).2⟩

inductive AV where
  | sc (s : SV)
  | agg (b : Blk)
  | tup (xs : List SV)
  | tupb (b : Blk) (s : SV)
  | junk

/-- Where the numbered blocks lie; where the rows lie that are read alone; the capacities of the slices of the call's own. -/
structure Env where
  b : Nat → Nat
  r : Nat → Nat × Nat
  c : Nat → Nat
instance : CoeFun Env (fun _ => Nat → Nat) := ⟨Env.b⟩

def gs (β : Env) : SV → Value
  | .u8 x => .int .u8 x.toNat
  | .u16 x => .int .u16 x.toNat
  | .u32 x => .int .u32 x.toNat
  | .u64 x => .int .u64 x.toNat
  | .i n => .int .i64 n
  | .x n => .int .i64 n
  | .bool b => .bool b
  | .ptr g off => .pointer (some ⟨β g, off, none⟩)
  | .xptr g off => .pointer (some ⟨β g, off, none⟩)
  | .sl g off len cap => .slice (some ⟨β g, off, none⟩) len cap
  | .own g len => .slice (some ⟨β g, 0, none⟩) len (β.c g)
  | .rptr g off => .pointer (some ⟨(β.r g).1, (β.r g).2 + off, none⟩)
  | .rsl g off len cap => .slice (some ⟨(β.r g).1, (β.r g).2 + off, none⟩) len cap
  | .nosl => .slice none 0 0
  | .nop => .pointer none
  | .noif => .nilIface
  | .err g => .iface 75 (.pointer (some ⟨β g, 0, none⟩))
  | .str s => .string s

def gv (β : Env) : AV → Value
  | .sc s => gs β s
  | .agg b => .agg (b.list.map (gs β)).toArray
  | .tup xs => .tuple (xs.map (gs β)).toArray
  | .tupb b s => .tuple #[.agg (b.list.map (gs β)).toArray, gs β s]
  | .junk => undef

theorem gs_one (β : Env) (s : SV) : (gs β s).oneCell' = true := by cases s <;> rfl
theorem gs_cells (β : Env) (s : SV) : (gs β s).cells = #[gs β s] := by cases s <;> rfl

/-- The plain values of the first evaluator. -/
def toEv : SV → Option Ev.SV
  | .u8 x => some (.u8 x)
  | .u16 x => some (.u16 x)
  | .u64 x => some (.u64 x)
  | .i n => some (.i n)
  | .bool b => some (.bool b)
  | .nosl => some .nosl
  | .nop => some .nop
  | .noif => some .noif
  | _ => none
def ofEv : Ev.SV → Option SV
  | .u8 x => some (.u8 x)
  | .u16 x => some (.u16 x)
  | .u64 x => some (.u64 x)
  | .i n => some (.i n)
  | .bool b => some (.bool b)
  | .nosl => some .nosl
  | .nop => some .nop
  | .noif => some .noif
  | _ => none
def env0 : Ev.Env := ⟨fun _ => 0, fun _ => (0, 0)⟩
theorem toEv_ok {s : SV} {t : Ev.SV} (h : toEv s = some t) (β : Env) (β' : Ev.Env) : Ev.gs β' t = gs β s := by
  cases s <;> simp only [toEv, Option.some.injEq, reduceCtorEq] at h <;> subst h <;> rfl
theorem ofEv_ok {s : Ev.SV} {t : SV} (h : ofEv s = some t) (β : Env) (β' : Ev.Env) : Ev.gs β' s = gs β t := by
  cases s <;> simp only [ofEv, Option.some.injEq, reduceCtorEq] at h <;> subst h <;> rfl

def cv (v : Value) : Option SV := match v with
  | .string s => some (.str s)
  | .int .u32 n => bif decide (0 ≤ n) && decide (n < 4294967296) then some (.u32 (BitVec.ofNat 32 n.toNat)) else none
  | v => match Ev.cv v with
    | some t => ofEv t
    | none => none
theorem cv_ok {v : Value} {s : SV} (h : cv v = some s) (β : Env) : gs β s = v := by
  unfold cv at h
  split at h
  · cases h
    rfl
  · rename_i n
    cases hb : (decide (0 ≤ n) && decide (n < 4294967296)) with
    | false => rw [hb] at h; cases h
    | true =>
      rw [hb] at h
      simp only [Bool.and_eq_true, decide_eq_true_eq] at hb
      simp only [cond_true, Option.some.injEq] at h
      subst h
      simp only [gs, BitVec.toNat_ofNat]
      congr 1
      omega
  · split at h <;> (try simp only [reduceCtorEq] at h)
    rename_i t ht
    rw [← ofEv_ok h β env0, Ev.cv_ok ht env0]
def cvs : List Value → Option (List SV)
  | [] => some []
  | v :: r => match cv v, cvs r with
    | some s, some ss => some (s :: ss)
    | _, _ => none
theorem cvs_ok : ∀ {vs : List Value} {ss : List SV}, cvs vs = some ss → ∀ β, ss.map (gs β) = vs
  | [], ss, h, β => by cases h; rfl
  | v :: r, ss, h, β => by
    simp only [cvs] at h
    split at h
    · rename_i s ss' h1 h2
      cases h
      simp [cv_ok h1 β, cvs_ok h2 β]
    · cases h

/-! ### Operators -/
def lo64 : Int := -9223372036854775808
def hi64 : Int := 9223372036854775807
theorem wrap_i64 {n : Int} (h1 : lo64 ≤ n) (h2 : n ≤ hi64) : IntKind.i64.wrap n = n := by
  unfold lo64 at h1
  unfold hi64 at h2
  simp only [IntKind.wrap, IntKind.bits, IntKind.signed]
  simp
  omega
def num : SV → Option Int
  | .i n => some n
  | .x n => some n
  | _ => none
theorem num_ok {s : SV} {n : Int} (h : num s = some n) (β : Env) : gs β s = .int .i64 n := by
  cases s <;> simp only [num, Option.some.injEq, reduceCtorEq] at h <;> subst h <;> rfl
/-- Two numbers of which one at least is not known; c: how a test is to end. -/
def binX (c : Option Bool) (op : BinOp) (m n : Int) : Option (SV × List Prop) := match op with
  | .add => some (.x (m + n), [lo64 ≤ m + n, m + n ≤ hi64])
  | .sub => some (.x (m - n), [lo64 ≤ m - n, m - n ≤ hi64])
  | .mul => some (.x (m * n), [lo64 ≤ m * n, m * n ≤ hi64])
  | .quo => some (.x (m / n), [0 ≤ m, m ≤ hi64, 0 < n])
  | .rem => some (.x (m % n), [0 ≤ m, 0 < n])
  | .shl => some (.x (m * 2 ^ n.toNat), [0 ≤ n, n ≤ 64, lo64 ≤ m * 2 ^ n.toNat, m * 2 ^ n.toNat ≤ hi64])
  | .eql => match c with
    | some b => some (.bool b, [(m == n) = b])
    | none => none
  | .neq => match c with
    | some b => some (.bool b, [(m != n) = b])
    | none => none
  | .lss => match c with
    | some b => some (.bool b, [decide (m < n) = b])
    | none => none
  | .leq => match c with
    | some b => some (.bool b, [decide (m ≤ n) = b])
    | none => none
  | .gtr => match c with
    | some b => some (.bool b, [decide (m > n) = b])
    | none => none
  | .geq => match c with
    | some b => some (.bool b, [decide (m ≥ n) = b])
    | none => none
  | _ => none
theorem binX_ok {c : Option Bool} {op : BinOp} {m n : Int} {z : SV} {ps : List Prop} (h : binX c op m n = some (z, ps)) (hp : All ps) (β : Env) (P : Program) (t : TypeId) (ox oy : Operand) (w : World) :
    (do eqGuard op t ox oy (.int .i64 m) (.int .i64 n); binOp op t (.int .i64 m) (.int .i64 n)).run P w = .ok (gs β z) w := by
  have hg : (eqGuard op t ox oy (.int .i64 m) (.int .i64 n)).run P w = .ok () w := by
    unfold eqGuard
    cases op <;> simp
  simp only [Sem.run_bind, hg, Result.andThen_ok]
  cases op <;> simp only [binX, reduceCtorEq] at h
  case add | sub | mul =>
    simp only [Option.some.injEq, Prod.mk.injEq] at h
    obtain ⟨rfl, rfl⟩ := h
    simp [binOp, Op.intArith, gs, wrap_i64 hp.1 hp.2.1]
  case quo =>
    simp only [Option.some.injEq, Prod.mk.injEq] at h
    obtain ⟨rfl, rfl⟩ := h
    obtain ⟨h1, h2, h3, _⟩ := hp
    have e : m.tdiv n = m / n := Int.tdiv_eq_ediv_of_nonneg h1
    have h4 : 0 ≤ m / n := Int.ediv_nonneg h1 (by omega)
    have h5 : m / n ≤ m := Int.ediv_le_self n h1
    have e2 := wrap_i64 (n := m / n) (by unfold lo64; omega) (by omega)
    simp [binOp, Op.intDiv, gs, show ¬ n = 0 by omega, e, e2]
  case rem =>
    simp only [Option.some.injEq, Prod.mk.injEq] at h
    obtain ⟨rfl, rfl⟩ := h
    obtain ⟨h1, h3, _⟩ := hp
    have e : m.tmod n = m % n := Int.tmod_eq_emod_of_nonneg h1
    simp [binOp, Op.intDiv, gs, show ¬ n = 0 by omega, e]
  case shl =>
    simp only [Option.some.injEq, Prod.mk.injEq] at h
    obtain ⟨rfl, rfl⟩ := h
    obtain ⟨h1, h2, h3, h4, _⟩ := hp
    have e : min n.toNat 64 = n.toNat := by omega
    simp [binOp, Op.shift, gs, show ¬ n < 0 by omega, IntKind.bits, e, wrap_i64 h3 h4]
  all_goals
    cases c with
    | none => cases h
    | some b =>
      simp only [Option.some.injEq, Prod.mk.injEq] at h
      obtain ⟨rfl, rfl⟩ := h
      obtain ⟨h1, _⟩ := hp
      simp [binOp, Op.intCmp, gs, ← h1]

theorem wrap_toNat32 (x : BitVec 32) : IntKind.u32.wrap (x.toNat : Int) = (x.toNat : Int) := by
  have := x.isLt
  simp only [IntKind.wrap, IntKind.bits, IntKind.signed, Bool.false_and, Bool.false_eq_true, if_false]
  omega
theorem shl_u32 (x : BitVec 32) (n : Nat) : IntKind.u32.wrap ((x.toNat : Int) * 2 ^ min n 32) = ((x <<< n).toNat : Int) := by
  rcases Nat.le_total n 32 with h | h
  · rw [Nat.min_eq_left h, BitVec.toNat_shiftLeft, Nat.shiftLeft_eq]
    have e : (x.toNat : Int) * 2 ^ n = ((x.toNat * 2 ^ n : Nat) : Int) := by simp
    rw [e]
    simp only [IntKind.wrap, IntKind.bits, IntKind.signed, Bool.false_and, Bool.false_eq_true, if_false]
    omega
  · rw [Nat.min_eq_right h, BitVec.shiftLeft_eq_zero h]
    simp only [IntKind.wrap, IntKind.bits, IntKind.signed, Bool.false_and, Bool.false_eq_true, if_false]
    simp
/-- The plain ones, by the first evaluator. -/
def binE (op : BinOp) (a b : SV) : Option (SV × List Prop) := match toEv a, toEv b with
  | some p, some q => match Ev.bin op p q with
    | some r => match ofEv r with
      | some z => some (z, [])
      | none => none
    | none => none
  | _, _ => none
theorem binE_ok {op : BinOp} {a b z : SV} {ps : List Prop} (h : binE op a b = some (z, ps)) (β : Env) (P : Program) (t : TypeId) (ox oy : Operand) (w : World) :
    (do eqGuard op t ox oy (gs β a) (gs β b); binOp op t (gs β a) (gs β b)).run P w = .ok (gs β z) w := by
  unfold binE at h
  split at h <;> (try simp only [reduceCtorEq] at h)
  rename_i p q hp hq
  split at h <;> (try simp only [reduceCtorEq] at h)
  rename_i r hr
  split at h <;> (try simp only [Option.some.injEq, Prod.mk.injEq, reduceCtorEq] at h)
  rename_i z' hz
  obtain ⟨rfl, rfl⟩ := h
  have := Ev.bin_ok hr env0 P t ox oy w
  rw [toEv_ok hp β env0, toEv_ok hq β env0, ofEv_ok hz β env0] at this
  exact this
/-- Words with numbers. -/
def binW (c : Option Bool) (op : BinOp) (a b : SV) : Option (SV × List Prop) := match a with
  | .u8 p => match num b with
    | some n => match op with
      | .shr => some (.u8 (p >>> n.toNat), [0 ≤ n])
      | _ => none
    | none => none
  | .u64 p => match num b with
    | some n => match op with
      | .shl => some (.u64 (p <<< n.toNat), [0 ≤ n])
      | .shr => some (.u64 (p >>> n.toNat), [0 ≤ n])
      | _ => none
    | none => none
  | .u16 p => match b with
    | .u16 q => match c with
      | some v => match op with
        | .lss => some (.bool v, [decide ((p.toNat : Int) < (q.toNat : Int)) = v])
        | .geq => some (.bool v, [decide ((p.toNat : Int) ≥ (q.toNat : Int)) = v])
        | _ => none
      | none => none
    | _ => none
  | .u32 p => match b with
    | .u32 q => match op with
      | .or => some (.u32 (p ||| q), [])
      | .and => some (.u32 (p &&& q), [])
      | _ => none
    | .u64 k => match op with
      | .shl => some (.u32 (p <<< k.toNat), [])
      | .shr => some (.u32 (p >>> k.toNat), [])
      | _ => none
    | _ => none
  | _ => none
theorem binW_ok {c : Option Bool} {op : BinOp} {a b z : SV} {ps : List Prop} (h : binW c op a b = some (z, ps)) (hp : All ps) (β : Env) (P : Program) (t : TypeId) (ox oy : Operand) (w : World) :
    (do eqGuard op t ox oy (gs β a) (gs β b); binOp op t (gs β a) (gs β b)).run P w = .ok (gs β z) w := by
  have hg : ∀ k m k' n, (eqGuard op t ox oy (.int k m) (.int k' n)).run P w = .ok () w := by
    intro k m k' n
    unfold eqGuard
    cases op <;> simp
  cases a <;> simp only [binW, reduceCtorEq] at h
  case u8 p =>
    split at h <;> (try simp only [reduceCtorEq] at h)
    rename_i n hn
    cases op <;> simp only [Option.some.injEq, Prod.mk.injEq, reduceCtorEq] at h
    · obtain ⟨rfl, rfl⟩ := h
      obtain ⟨h1, _⟩ := hp
      rw [num_ok hn β]
      simp only [gs, Sem.run_bind, hg, Result.andThen_ok, binOp, Op.shift, IntKind.bits, Sem.run_pure, Sem.run_ite]
      rw [if_neg (by omega)]
      simp only [Ev.shr_any]
  case u64 p =>
    split at h <;> (try simp only [reduceCtorEq] at h)
    rename_i n hn
    cases op <;> simp only [Option.some.injEq, Prod.mk.injEq, reduceCtorEq] at h
    · obtain ⟨rfl, rfl⟩ := h
      obtain ⟨h1, _⟩ := hp
      rw [num_ok hn β]
      simp only [gs, Sem.run_bind, hg, Result.andThen_ok, binOp, Op.shift, IntKind.bits, Sem.run_pure, Sem.run_ite]
      rw [if_neg (by omega)]
      simp only [Ev.shl_u64]
    · obtain ⟨rfl, rfl⟩ := h
      obtain ⟨h1, _⟩ := hp
      rw [num_ok hn β]
      simp only [gs, Sem.run_bind, hg, Result.andThen_ok, binOp, Op.shift, IntKind.bits, Sem.run_pure, Sem.run_ite]
      rw [if_neg (by omega)]
      simp only [Ev.shr_any]
  case u16 p =>
    split at h <;> (try simp only [reduceCtorEq] at h)
    split at h <;> (try simp only [reduceCtorEq] at h)
    cases op <;> simp only [Option.some.injEq, Prod.mk.injEq, reduceCtorEq] at h
    all_goals
      obtain ⟨rfl, rfl⟩ := h
      obtain ⟨h1, _⟩ := hp
      simp only [gs, Sem.run_bind, hg, Result.andThen_ok, binOp, ne_eq, not_true_eq_false, if_false, Op.intCmp, Sem.run_pure, ← h1]
  case u32 p =>
    split at h <;> (try simp only [reduceCtorEq] at h)
    all_goals
      cases op <;> simp only [Option.some.injEq, Prod.mk.injEq, reduceCtorEq] at h
    all_goals
      obtain ⟨rfl, rfl⟩ := h
      simp only [gs, Sem.run_bind, hg, Result.andThen_ok, binOp, ne_eq, not_true_eq_false, if_false, Op.intBits, Op.shift, IntKind.bits, Sem.run_pure, Ev.ofInt_toNat, wrap_toNat32, Sem.run_ite]
    all_goals first
      | rfl
      | (rw [if_neg (by omega)]; simp only [Int.toNat_natCast, shl_u32, Ev.shr_any]; done)

def bin (c : Option Bool) (op : BinOp) (a b : SV) : Option (SV × List Prop) := match binW c op a b with
  | some r => some r
  | none => match binE op a b with
    | some r => some r
    | none => match num a, num b with
      | some m, some n => binX c op m n
      | _, _ => none
theorem bin_ok {c : Option Bool} {op : BinOp} {a b z : SV} {ps : List Prop} (h : bin c op a b = some (z, ps)) (hp : All ps) (β : Env) (P : Program) (t : TypeId) (ox oy : Operand) (w : World) :
    (do eqGuard op t ox oy (gs β a) (gs β b); binOp op t (gs β a) (gs β b)).run P w = .ok (gs β z) w := by
  unfold bin at h
  split at h
  · rename_i r hr
    cases h
    exact binW_ok hr hp β P t ox oy w
  · split at h
    · rename_i r hr
      cases h
      exact binE_ok hr β P t ox oy w
    · split at h <;> (try simp only [reduceCtorEq] at h)
      rename_i m n hm hn
      rw [num_ok hm, num_ok hn]
      exact binX_ok h hp β P t ox oy w

def conv (k : IntKind) (a : SV) : Option SV := match a with
  | .u8 x => match k with
    | .u64 => some (.u64 (x.setWidth 64))
    | .u32 => some (.u32 (x.setWidth 32))
    | .u16 => some (.u16 (x.setWidth 16))
    | .i64 => some (.x x.toNat)
    | _ => none
  | .u16 x => match k with
    | .u32 => some (.u32 (x.setWidth 32))
    | _ => none
  | .u32 x => match k with
    | .u16 => some (.u16 (x.setWidth 16))
    | .u8 => some (.u8 (x.setWidth 8))
    | _ => none
  | .u64 x => match k with
    | .u8 => some (.u8 (x.setWidth 8))
    | _ => none
  | .i n => match k with
    | .u8 => some (.u8 (BitVec.ofInt 8 n))
    | .u64 => some (.u64 (BitVec.ofInt 64 n))
    | _ => none
  | .x n => match k with
    | .u8 => some (.u8 (BitVec.ofInt 8 n))
    | .u64 => some (.u64 (BitVec.ofInt 64 n))
    | _ => none
  | _ => none
theorem wrap_width {k : IntKind} (hk : k.signed = false) (n : Int) : k.wrap n = ((BitVec.ofInt k.bits n).toNat : Int) := by
  rw [BitVec.toNat_ofInt]
  cases k <;> simp only [IntKind.signed, reduceCtorEq] at hk <;> simp only [IntKind.wrap, IntKind.bits, IntKind.signed, Bool.false_and, Bool.false_eq_true, if_false] <;> omega
theorem ofInt_width {a b : Nat} (x : BitVec a) : BitVec.ofInt b (x.toNat : Int) = x.setWidth b := by
  rw [BitVec.ofInt_natCast]
  apply BitVec.eq_of_toNat_eq
  rw [BitVec.toNat_ofNat, BitVec.toNat_setWidth]
theorem conv_ok {k : IntKind} {x y : SV} (h : conv k x = some y) (β : Env) {P : Program} {src dst : TypeId} {d : TypeDesc} (hs : P.underlying src = some d) (hd : P.underlying dst = some (.int k)) (w : World) :
    (convert src dst (gs β x)).run P w = .ok (gs β y) w := by
  have key : ∀ k' n, (convert src dst (.int k' n)).run P w = .ok (.int k (k.wrap n)) w := fun k' n => by
    simp only [convert, Sem.run_bind, run_underlying hs, run_underlying hd, Result.andThen_ok, Conv.intToInt, Sem.run_pure]
  have ri : ∀ {k : IntKind} {a b : Int}, a = b → Result.ok (Value.int k a) w = Result.ok (Value.int k b) w := fun h => by rw [h]
  cases x <;> simp only [conv, reduceCtorEq] at h <;> cases k <;> simp only [reduceCtorEq, Option.some.injEq] at h <;> subst h <;> simp only [gs, key]
  all_goals first
    | (refine ri ?_; rw [wrap_width rfl]; simp only [IntKind.bits, ofInt_width]; done)
    | (refine ri ?_; rw [wrap_width rfl]; done)
    | (rename_i x; have := x.isLt; refine ri (wrap_i64 ?_ ?_) <;> (first | (unfold lo64; omega) | (unfold hi64; omega)))

/-! ### States -/
/-- A row that is read alone: bytes, somewhere; or words of a package-level variable. -/
inductive Row where
  | b (f : Nat → BitVec 8)
  | q (blk : Nat) (f : Nat → BitVec 64)
def Row.loc (β : Env) (g : Nat) : Row → Nat × Nat
  | .b _ => β.r g
  | .q k _ => (k, 0)
def Row.val (r : Row) (j : Nat) : Value := match r with
  | .b f => .int .u8 (f j).toNat
  | .q _ f => .int .u64 (f j).toNat
theorem Row.loc_same {β β' : Env} (h : β'.r = β.r) (g : Nat) (r : Row) : r.loc β' g = r.loc β g := by
  cases r with
  | b f => simp only [Row.loc, h]
  | q k f => rfl
structure Cfg where
  P : Program
  N : Nat
  /-- How a test with a number that is not known ends, by the slot that it goes to. -/
  ch : List (Nat × Bool)
  ro : List (Nat × Row)
  /-- From which block on a row of the call's own may move. -/
  base : Nat
  /-- Lengths are not numerals: what is asked of an index or a bound is gathered. -/
  sym : Bool
  q : FuncId → List AV → List Blk → Option (AV × List Prop)
  wf : FuncId → List AV → List Blk → Option (AV × List Blk × List Prop)

structure St where
  fr : List (Nat × AV)
  mem : List Blk

def look : List (Nat × AV) → Nat → Option AV
  | [], _ => none
  | (k, v) :: r, d => bif Nat.beq k d then some v else look r d
def clook : List (Nat × Bool) → Option Nat → Option Bool
  | _, none => none
  | [], _ => none
  | (k, v) :: r, some d => bif Nat.beq k d then some v else clook r (some d)

def ev (s : St) : Operand → Option AV
  | .tmp t => match look s.fr t with
    | some .junk => none
    | r => r
  | .const v => match cv v with
    | some x => some (.sc x)
    | none => none
  | _ => none
def evs (s : St) : List Operand → Option (List AV)
  | [] => some []
  | x :: r => match ev s x, evs s r with
    | some v, some vs => some (v :: vs)
    | _, _ => none

def FrOk (β : Env) (fr : List (Nat × AV)) (tmps : Array Value) : Prop :=
  ∀ d v, look fr d = some v → v = .junk ∨ tmps[d]? = some (gv β v)
def BlkOk (β : Env) (b : Blk) (k cap : Nat) (w : World) : Prop := match b with
  | .own n f => w.ownsRow 0 5 1 (.slice (some ⟨k, 0, none⟩) n cap) n ((List.range n).map fun j => .int .u8 (f j).toNat)
  | .dead => True
  | b => ∃ e, w.heap[k]? = some (.cells (b.list.map (gs β)).toArray e (0, 0))
def MemOk (β : Env) (mem : List Blk) (w : World) : Prop := ∀ g b, mem[g]? = some b → BlkOk β b (β g) (β.c g) w
def InjOk (β : Env) (mem : List Blk) : Prop := ∀ g g' b b', mem[g]? = some b → mem[g']? = some b' → b.live = true → b'.live = true → β g = β g' → g = g'
/-- The rows that are read alone lie apart from the blocks. -/
def RoOk (β : Env) (ro : List (Nat × Row)) (n : Nat) (w : World) : Prop :=
  ∀ g m (f : Row), ro[g]? = some (m, f) → (f.loc β g).1 < w.heap.size ∧ (∀ g', g' < n → β g' ≠ (f.loc β g).1) ∧ ∀ j, j < m → w.cell? ⟨(f.loc β g).1, (f.loc β g).2 + j, none⟩ = some (f.val j)

theorem BlkOk.whole {β : Env} {b : Blk} {k cap : Nat} {w : World} (h : BlkOk β b k cap w) (hb : b.whole = true) : ∃ e, w.heap[k]? = some (.cells (b.list.map (gs β)).toArray e (0, 0)) := by
  cases b <;> first | exact h | cases hb
theorem BlkOk.of_whole {β : Env} {b : Blk} {k cap : Nat} {w : World} (hb : b.whole = true) (h : ∃ e, w.heap[k]? = some (.cells (b.list.map (gs β)).toArray e (0, 0))) : BlkOk β b k cap w := by
  cases b <;> first | exact h | cases hb
theorem ownsRow_kept {w w' : World} {k n cap : Nat} {xs : List Value} (h : w.ownsRow 0 5 1 (.slice (some ⟨k, 0, none⟩) n cap) n xs) (he : w'.heap[k]? = w.heap[k]?) : w'.ownsRow 0 5 1 (.slice (some ⟨k, 0, none⟩) n cap) n xs := by
  refine ⟨h.1, h.2.imp id ?_⟩
  rintro ⟨g, cap', cur, hv, hb, hg, rest⟩
  cases hv
  exact ⟨k, cap, cur, rfl, hb, he.trans hg, rest⟩
theorem BlkOk.kept {β : Env} {b : Blk} {k cap : Nat} {w w' : World} (h : BlkOk β b k cap w) (he : w'.heap[k]? = w.heap[k]?) : BlkOk β b k cap w' := by
  cases b with
  | own n f => exact ownsRow_kept h he
  | dead => trivial
  | cells cs => obtain ⟨e, hh⟩ := h; exact ⟨e, he.trans hh⟩
  | r8 n f => obtain ⟨e, hh⟩ := h; exact ⟨e, he.trans hh⟩
  | r8t n f tl => obtain ⟨e, hh⟩ := h; exact ⟨e, he.trans hh⟩
  | r16 n f => obtain ⟨e, hh⟩ := h; exact ⟨e, he.trans hh⟩
  | r64 n f => obtain ⟨e, hh⟩ := h; exact ⟨e, he.trans hh⟩
  | ri n f => obtain ⟨e, hh⟩ := h; exact ⟨e, he.trans hh⟩
theorem ownsRow_lt {w : World} {k n cap : Nat} {xs : List Value} (h : w.ownsRow 0 5 1 (.slice (some ⟨k, 0, none⟩) n cap) n xs) : k < w.heap.size := by
  rcases h.2 with ⟨hv, _⟩ | ⟨g, cap', cur, hv, _, hg, _⟩
  · cases hv
  · cases hv
    exact (Array.getElem?_eq_some_iff.1 hg).1
theorem BlkOk.lt {β : Env} {b : Blk} {k cap : Nat} {w : World} (h : BlkOk β b k cap w) (hb : b.live = true) : k < w.heap.size := by
  cases b with
  | own n f => exact ownsRow_lt h
  | dead => cases hb
  | cells cs => obtain ⟨e, hh⟩ := h; exact (Array.getElem?_eq_some_iff.1 hh).1
  | r8 n f => obtain ⟨e, hh⟩ := h; exact (Array.getElem?_eq_some_iff.1 hh).1
  | r8t n f tl => obtain ⟨e, hh⟩ := h; exact (Array.getElem?_eq_some_iff.1 hh).1
  | r16 n f => obtain ⟨e, hh⟩ := h; exact (Array.getElem?_eq_some_iff.1 hh).1
  | r64 n f => obtain ⟨e, hh⟩ := h; exact (Array.getElem?_eq_some_iff.1 hh).1
  | ri n f => obtain ⟨e, hh⟩ := h; exact (Array.getElem?_eq_some_iff.1 hh).1
theorem range_at {α : Type} (n : Nat) (f : Nat → α) {j : Nat} (h : j < n) : ((List.range n).map f)[j]? = some (f j) := by simp [h]
theorem BlkOk.cell {β : Env} {b : Blk} {k cap : Nat} {w : World} (h : BlkOk β b k cap w) {off : Nat} {v : SV} {ps : List Prop} (ha : b.at_ off = some (v, ps)) (hp : All ps) : w.cell? ⟨k, off, none⟩ = some (gs β v) := by
  have row : ∀ (f : Nat → SV) (n : Nat), (∃ e, w.heap[k]? = some (.cells (((List.range n).map f).map (gs β)).toArray e (0, 0))) → off < n → w.cell? ⟨k, off, none⟩ = some (gs β (f off)) := fun f n ⟨e, he⟩ hlt => by
    simp [World.cell?, he, hlt]
  cases b with
  | cells cs =>
    simp only [Blk.at_] at ha
    split at ha <;> (try simp only [Option.some.injEq, Prod.mk.injEq, reduceCtorEq] at ha)
    rename_i u hu
    obtain ⟨rfl, rfl⟩ := ha
    obtain ⟨e, he⟩ := h
    simp [World.cell?, he, Blk.list, hu]
  | r8 n f =>
    simp only [Blk.at_, Option.some.injEq, Prod.mk.injEq] at ha
    obtain ⟨rfl, rfl⟩ := ha
    exact row (fun j => .u8 (f j)) n h hp.1
  | r8t n f tl =>
    simp only [Blk.at_] at ha
    obtain ⟨e, he⟩ := h
    cases hb : Nat.blt off n with
    | true =>
      rw [hb] at ha
      simp only [cond_true, Option.some.injEq, Prod.mk.injEq] at ha
      obtain ⟨rfl, rfl⟩ := ha
      have hlt : off < n := by simpa [Nat.blt_eq] using hb
      simp only [World.cell?, he, Blk.list]
      simp
      rw [List.getElem?_append_left (by simpa using hlt)]
      simp [hlt]
    | false =>
      rw [hb] at ha
      simp only [cond_false] at ha
      have hge : n ≤ off := by
        rcases Nat.lt_or_ge off n with h1 | h1
        · rw [show Nat.blt off n = true by simpa [Nat.blt_eq] using h1] at hb
          cases hb
        · exact h1
      split at ha <;> (try simp only [Option.some.injEq, Prod.mk.injEq, reduceCtorEq] at ha)
      rename_i u hu
      obtain ⟨rfl, rfl⟩ := ha
      simp only [World.cell?, he, Blk.list]
      simp
      rw [List.getElem?_append_right (by simpa using hge)]
      simp [hu]
  | r16 n f =>
    simp only [Blk.at_, Option.some.injEq, Prod.mk.injEq] at ha
    obtain ⟨rfl, rfl⟩ := ha
    exact row (fun j => .u16 (f j)) n h hp.1
  | r64 n f =>
    simp only [Blk.at_, Option.some.injEq, Prod.mk.injEq] at ha
    obtain ⟨rfl, rfl⟩ := ha
    exact row (fun j => .u64 (f j)) n h hp.1
  | ri n f =>
    simp only [Blk.at_, Option.some.injEq, Prod.mk.injEq] at ha
    obtain ⟨rfl, rfl⟩ := ha
    exact row (fun j => .i (f j)) n h hp.1
  | own n f =>
    simp only [Blk.at_, Option.some.injEq, Prod.mk.injEq] at ha
    obtain ⟨rfl, rfl⟩ := ha
    have := World.ownsRow.cells h (g := k) rfl off (.int .u8 (f off).toNat) (range_at n (fun j => Value.int .u8 (f j).toNat) hp.1)
    rwa [Ev.add_addr, Nat.zero_add] at this
  | dead => cases ha

theorem BlkOk.cellx {β : Env} {b : Blk} {k cap : Nat} {w : World} (h : BlkOk β b k cap w) {off : Nat} {v : SV} {ps : List Prop} (ha : b.atx off = some (v, ps)) (hp : All ps) : w.cell? ⟨k, off, none⟩ = some (gs β v) := by
  unfold Blk.atx at ha
  split at ha
  · rename_i n f tl
    simp only [Option.some.injEq, Prod.mk.injEq] at ha
    obtain ⟨rfl, rfl⟩ := ha
    have hb : Nat.blt off n = true := by simpa [Nat.blt_eq] using hp.1
    exact h.cell (v := .u8 (f off)) (ps := []) (by simp only [Blk.at_, hb, cond_true]) trivial
  · exact h.cell ha hp
theorem ev_ok {s : St} {β : Env} {a : Act} (hf : FrOk β s.fr a.tmps) {x : Operand} {v : AV} (h : ev s x = some v) : a.eval x = gv β v := by
  cases x with
  | tmp t =>
    simp only [ev] at h
    cases hl : look s.fr t with
    | none => rw [hl] at h; cases h
    | some u =>
      rw [hl] at h
      have hu : u ≠ .junk ∧ u = v := by
        cases u <;> simp only [Option.some.injEq, reduceCtorEq] at h <;> exact ⟨by simp, h⟩
      obtain ⟨h1, rfl⟩ := hu
      rcases hf t u hl with h2 | h2
      · exact absurd h2 h1
      · simp [Act.eval, h2]
  | const u =>
    simp only [ev] at h
    cases hc : cv u with
    | none => rw [hc] at h; cases h
    | some y => rw [hc] at h; cases h; exact (cv_ok hc β).symm
  | global g => cases h
  | func f => cases h
theorem evs_ok {s : St} {β : Env} {a : Act} (hf : FrOk β s.fr a.tmps) : ∀ {xs : List Operand} {vs : List AV}, evs s xs = some vs → xs.map a.eval = vs.map (gv β)
  | [], vs, h => by cases h; rfl
  | x :: r, vs, h => by
    simp only [evs] at h
    split at h
    · rename_i v vs' h1 h2
      cases h
      simp [ev_ok hf h1, evs_ok hf h2]
    · cases h

/-! ### Operations that only look -/
/-- A place behind an index. -/
def mkp (n : SV) (g off : Nat) : SV := match n with
  | .x _ => .xptr g off
  | _ => .ptr g off
theorem mkp_ok (n : SV) (g off : Nat) (β : Env) : gs β (mkp n g off) = .pointer (some ⟨β g, off, none⟩) := by
  unfold mkp
  split <;> rfl
/-- An index: a number that is known, or one that is not. -/
def idx (sym : Bool) (n : SV) (len : Nat) : Option (Nat × List Prop) := match n with
  | .i n => bif sym then some (n.toNat, [0 ≤ n, n < (len : Int)]) else bif decide (0 ≤ n) && Nat.blt n.toNat len then some (n.toNat, []) else none
  | .x n => some (n.toNat, [0 ≤ n, n < (len : Int)])
  | .u8 b => bif Nat.blt b.toNat len then some (b.toNat, []) else none
  | _ => none
theorem idx_ok {sym : Bool} {v : SV} {len k : Nat} {ps : List Prop} (h : idx sym v len = some (k, ps)) (hp : All ps) : ∃ t n, (∀ β, gs β v = .int t n) ∧ 0 ≤ n ∧ n < (len : Int) ∧ n.toNat = k := by
  cases v <;> simp only [idx, reduceCtorEq] at h
  · rename_i b
    cases hb : Nat.blt b.toNat len with
    | false => rw [hb] at h; cases h
    | true =>
      rw [hb] at h
      simp only [Nat.blt_eq] at hb
      simp only [cond_true, Option.some.injEq, Prod.mk.injEq] at h
      exact ⟨.u8, (b.toNat : Int), fun _ => rfl, by omega, by omega, by omega⟩
  · rename_i n
    cases sym with
    | true =>
      simp only [cond_true, Option.some.injEq, Prod.mk.injEq] at h
      obtain ⟨rfl, rfl⟩ := h
      exact ⟨.i64, n, fun _ => rfl, hp.1, hp.2.1, rfl⟩
    | false =>
      simp only [cond_false] at h
      cases hb : (decide (0 ≤ n) && Nat.blt n.toNat len) with
      | false => rw [hb] at h; cases h
      | true =>
        rw [hb] at h
        simp only [Bool.and_eq_true, decide_eq_true_eq, Nat.blt_eq] at hb
        simp only [cond_true, Option.some.injEq, Prod.mk.injEq] at h
        exact ⟨.i64, n, fun _ => rfl, hb.1, by omega, h.1⟩
  · rename_i n
    simp only [Option.some.injEq, Prod.mk.injEq] at h
    obtain ⟨rfl, rfl⟩ := h
    exact ⟨.i64, n, fun _ => rfl, hp.1, hp.2.1, rfl⟩

def bnd (sym : Bool) (s : St) (y d : Nat) : Option Operand → Option (Nat × List Prop)
  | none => some (d, [])
  | some o => match ev s o with
    | some (.sc (.i k)) => bif sym then some (k.toNat, [0 ≤ k, k ≤ (y : Int)]) else bif decide (0 ≤ k) && Nat.ble k.toNat y then some (k.toNat, []) else none
    | some (.sc (.x k)) => some (k.toNat, [0 ≤ k, k ≤ (y : Int)])
    | _ => none
theorem bnd_none {sym : Bool} {s : St} {y d m : Nat} {ps : List Prop} (h : bnd sym s y d none = some (m, ps)) : m = d := by cases h; rfl
theorem bnd_some {sym : Bool} {s : St} {β : Env} {a : Act} (hf : FrOk β s.fr a.tmps) {y d m : Nat} {ps : List Prop} {o : Operand} (h : bnd sym s y d (some o) = some (m, ps)) (hp : All ps) (code : BoundsCode) (P : Program) (w : World) :
    (Instr.sliceBound (a.eval o) y code).run P w = .ok m w := by
  simp only [bnd] at h
  split at h <;> (try simp only [reduceCtorEq] at h)
  · rename_i k hk
    cases sym with
    | true =>
      simp only [cond_true, Option.some.injEq, Prod.mk.injEq] at h
      obtain ⟨rfl, rfl⟩ := h
      simp only [Instr.sliceBound, ev_ok hf hk, gv, gs, asIntOf, Sem.run_bind, Sem.run_pure, Result.andThen_ok, if_pos (And.intro hp.1 hp.2.1)]
    | false =>
      simp only [cond_false] at h
      cases hb : (decide (0 ≤ k) && Nat.ble k.toNat y) with
      | false => rw [hb] at h; cases h
      | true =>
        rw [hb] at h
        simp only [Bool.and_eq_true, decide_eq_true_eq] at hb
        simp only [cond_true, Option.some.injEq, Prod.mk.injEq] at h
        obtain ⟨rfl, _⟩ := h
        have hb2 := Nat.le_of_ble_eq_true hb.2
        replace hb : 0 ≤ k ∧ k ≤ (y : Int) := ⟨hb.1, by have := hb.1; omega⟩
        simp only [Instr.sliceBound, ev_ok hf hk, gv, gs, asIntOf, Sem.run_bind, Sem.run_pure, Result.andThen_ok, if_pos hb]
  · rename_i k hk
    simp only [Option.some.injEq, Prod.mk.injEq] at h
    obtain ⟨rfl, rfl⟩ := h
    simp only [Instr.sliceBound, ev_ok hf hk, gv, gs, asIntOf, Sem.run_bind, Sem.run_pure, Result.andThen_ok, if_pos (And.intro hp.1 hp.2.1)]
theorem bnds {sym : Bool} {s : St} {β : Env} {a : Act} (hf : FrOk β s.fr a.tmps) {len cap h l : Nat} {ps qs : List Prop} {lo hi : Option Operand} (h1 : bnd sym s cap len hi = some (h, ps)) (h2 : bnd sym s h 0 lo = some (l, qs)) (hp : All ps) (hq : All qs) (sl : Bool) (P : Program) (w : World) :
    (Instr.sliceBounds sl len cap (lo.map a.eval) (hi.map a.eval) none).run P w = .ok (l, h, cap) w := by
  cases hi with
  | none =>
    obtain rfl := bnd_none h1
    cases lo with
    | none =>
      obtain rfl := bnd_none h2
      simp [Instr.sliceBounds]
    | some lo => simp [Instr.sliceBounds, bnd_some hf h2 hq]
  | some hi =>
    cases lo with
    | none =>
      obtain rfl := bnd_none h2
      simp [Instr.sliceBounds, bnd_some hf h1 hp]
    | some lo => simp [Instr.sliceBounds, bnd_some hf h1 hp, bnd_some hf h2 hq]

def zeros (P : Program) (t : TypeId) : Option (List SV) :=
  match P.info? t with
  | some i => match i.zero with
    | some z => cvs z.cells.toList
    | none => none
  | none => none
def cellsOf : AV → Option (List SV)
  | .sc s => some [s]
  | .agg (.cells cs) => some cs
  | _ => none

theorem run_ne_nil {P : Program} {t : TypeId} {ms : Array (String × TypeId)} (ht : P.underlying t = some (.interface ms)) (u : TypeId) (v : Value) (w : World) : (Op.equalIn Op.maxDepth t (.iface u v) .nilIface).run P w = .ok false w := by
  obtain ⟨d, hd⟩ : ∃ d, Op.maxDepth = d + 1 := ⟨_, rfl⟩
  rw [hd]
  unfold Op.equalIn
  simp [run_underlying ht]
theorem run_nil_nil {P : Program} {t : TypeId} {ms : Array (String × TypeId)} (ht : P.underlying t = some (.interface ms)) (w : World) : (Op.equalIn Op.maxDepth t .nilIface .nilIface).run P w = .ok true w := by
  obtain ⟨d, hd⟩ : ∃ d, Op.maxDepth = d + 1 := ⟨_, rfl⟩
  rw [hd]
  unfold Op.equalIn
  simp [run_underlying ht]
/-- An interface held against the literal nil. -/
def ifaceNe (P : Program) (t : TypeId) (op : BinOp) (a : SV) (y : Operand) : Option Bool := match op, y, P.underlying t with
  | .neq, .const .nilIface, some (.interface _) => match a with
    | .err _ => some true
    | .noif => some false
    | _ => none
  | _, _, _ => none
theorem ifaceNe_ok {P : Program} {t : TypeId} {op : BinOp} {a : SV} {y : Operand} {r : Bool} (h : ifaceNe P t op a y = some r) (β : Env) (ox : Operand) (ac : Act) (w : World) :
    (do eqGuard op t ox y (gs β a) (ac.eval y); binOp op t (gs β a) (ac.eval y)).run P w = .ok (.bool r) w := by
  unfold ifaceNe at h
  split at h <;> (try simp only [reduceCtorEq] at h)
  rename_i hu
  split at h <;> (try simp only [Option.some.injEq, reduceCtorEq] at h)
  · subst h
    simp [gs, Act.eval, eqGuard, binOp, Op.equal, run_ne_nil hu]
  · subst h
    simp [gs, Act.eval, eqGuard, binOp, Op.equal, run_nil_nil hu]

def evalR (c : Cfg) (s : St) (o : Oper) : Option (AV × List Prop) :=
  match o.op with
  | .move x => match ev s x with
    | some v => some (v, [])
    | none => none
  | .assign x => match ev s x with
    | some v => some (v, [])
    | none => none
  | .pick b x y => match ev s b with
    | some (.sc (.bool true)) => match ev s x with
      | some v => some (v, [])
      | none => none
    | some (.sc (.bool false)) => match ev s y with
      | some v => some (v, [])
      | none => none
    | _ => none
  | .extract x k => match ev s x with
    | some (.tup xs) => match xs[k]? with
      | some v => some (.sc v, [])
      | none => none
    | some (.tupb b v) => match k with
      | 0 => some (.agg b, [])
      | 1 => some (.sc v, [])
      | _ => none
    | _ => none
  | .nilCheck x => match ev s x with
    | some (.sc (.ptr g off)) => some (.sc (.ptr g off), [])
    | _ => none
  | .binOp op t x y _ => match ev s x, ev s y with
    | some (.sc a), some (.sc b) => match bin (clook c.ch o.dst) op a b with
      | some (z, ps) => some (.sc z, ps)
      | none => match ifaceNe c.P t op a y with
        | some r => some (.sc (.bool r), [])
        | none => none
    | _, _ => none
  | .unOp op _ x => match op, ev s x with
    | .not, some (.sc (.bool b)) => some (.sc (.bool !b), [])
    | _, _ => none
  | .convert src dst x => match c.P.underlying src, c.P.underlying dst, ev s x with
    | some _, some (.int k), some (.sc a) => match conv k a with
      | some z => some (.sc z, [])
      | none => none
    | _, _, _ => none
  | .fieldAddr t x f => match ev s x, c.P.underlying t with
    | some (.sc (.ptr g off)), some (.struct fs) => match fs[f]? with
      | some fl => match c.P.info? fl.type with
        | some inf => bif Nat.beq inf.size 0 then none else some (.sc (.ptr g (off + fl.offset)), [])
        | none => none
      | none => none
    | _, _ => none
  | .load t x => match ev s x with
    | some (.sc (.rptr g off)) => match c.ro[g]?, Ev.lies c.P t with
      | some (m, .b f), some none => some (.sc (.u8 (f off)), [off < m])
      | _, _ => none
    | some (.sc (.ptr g off)) => match s.mem[g]?, Ev.lies c.P t with
      | some b, some none => match b.at_ off with
        | some (v, ps) => some (.sc v, ps)
        | none => none
      | some b, some (some n) => bif b.whole && Nat.beq off 0 && Nat.beq n b.len then some (.agg b, []) else
          match b with
          | .cells cs => bif Nat.ble (off + n) cs.length then some (.agg (.cells ((cs.drop off).take n)), []) else none
          | _ => none
      | _, _ => none
    | some (.sc (.xptr g off)) => match s.mem[g]?, Ev.lies c.P t with
      | some b, some none => match b.atx off with
        | some (v, ps) => some (.sc v, ps)
        | none => none
      | _, _ => none
    | _ => none
  | .indexAddr t x ix => match ev s x, ev s ix, c.P.underlying t with
    | some (.sc (.ptr g off)), some (.sc n), some (.array len e) => match c.P.info? e, idx c.sym n len with
      | some inf, some (k, ps) => some (.sc (mkp n g (off + k * inf.size)), ps)
      | _, _ => none
    | some (.sc (.sl g off len _)), some (.sc n), some (.slice e) => match c.P.info? e, idx c.sym n len with
      | some inf, some (k, ps) => some (.sc (mkp n g (off + k * inf.size)), ps)
      | _, _ => none
    | some (.sc (.own g len)), some (.sc n), some (.slice e) => match c.P.info? e, idx c.sym n len with
      | some inf, some (k, ps) => some (.sc (mkp n g (0 + k * inf.size)), ps)
      | _, _ => none
    | some (.sc (.rsl g off len _)), some (.sc n), some (.slice e) => match c.P.info? e, idx c.sym n len with
      | some inf, some (k, ps) => some (.sc (.rptr g (off + k * inf.size)), ps)
      | _, _ => none
    | _, _, _ => none
  | .build t ps => match ps.size, c.P.underlying t with
    | 0, some (.array _ e) => match zeros c.P t, c.P.info? e with
      | some z, some _ => some (.agg (.cells z), [])
      | _, _ => none
    | 0, some (.struct fs) => match zeros c.P t with
      | some z => bif fs.all (fun f => (c.P.info? f.type).isSome) then some (.agg (.cells z), []) else none
      | none => none
    | _, _ => none
  | .slice t x lo hi mx => match mx, ev s x, c.P.underlying t with
    | none, some (.sc (.ptr g off)), some (.array n e) => match bnd c.sym s n n hi with
      | some (h, qs) => match bnd c.sym s h 0 lo, c.P.info? e with
        | some (l, rs), some inf => some (.sc (.sl g (bif Nat.beq n l then off else off + l * inf.size) (h - l) (n - l)), qs ++ rs)
        | _, _ => none
      | none => none
    | none, some (.sc (.sl g off len cap)), some (.slice e) => match bnd c.sym s cap len hi with
      | some (h, qs) => match bnd c.sym s h 0 lo, c.P.info? e with
        | some (l, rs), some inf => some (.sc (.sl g (bif Nat.beq cap l then off else off + l * inf.size) (h - l) (cap - l)), qs ++ rs)
        | _, _ => none
      | none => none
    | none, some (.sc (.rsl g off len cap)), some (.slice e) => match bnd c.sym s cap len hi with
      | some (h, qs) => match bnd c.sym s h 0 lo, c.P.info? e with
        | some (l, rs), some inf => some (.sc (.rsl g (bif Nat.beq cap l then off else off + l * inf.size) (h - l) (cap - l)), qs ++ rs)
        | _, _ => none
      | none => none
    | _, _, _ => none
  | _ => none

theorem RoOk.at_ {β : Env} {ro : List (Nat × Row)} {n : Nat} {w : World} (h : RoOk β ro n w) {g m : Nat} {f : Nat → BitVec 8} (hg : ro[g]? = some (m, .b f)) {j : Nat} (hj : j < m) : w.cell? ⟨(β.r g).1, (β.r g).2 + j, none⟩ = some (.int .u8 (f j).toNat) := (h g m (.b f) hg).2.2 j hj
theorem RoOk.drewN {β : Env} {ro : List (Nat × Row)} {n : Nat} {w : World} (h : RoOk β ro n w) (k : Nat) : RoOk β ro n (w.drewN k) := h
theorem MemOk.drewN {β : Env} {mem : List Blk} {w : World} (h : MemOk β mem w) (k : Nat) : MemOk β mem (w.drewN k) := fun g b hg => (h g b hg).kept rfl

theorem run_places (P : Program) (w : World) : ∀ (fs : List Field), (∀ f ∈ fs, (P.info? f.type).isSome = true) → ∃ places, (fs.mapM fun f => (do pure (f.offset, ← sizeOf f.type) : Sem (Nat × Nat))).run P w = .ok places w
  | [], _ => ⟨[], by simp⟩
  | f :: r, h => by
    obtain ⟨ps, hps⟩ := run_places P w r fun g hg => h g (List.mem_cons_of_mem _ hg)
    have h1 := h f List.mem_cons_self
    cases hq : P.info? f.type with
    | none => rw [hq] at h1; cases h1
    | some i =>
      have h2 : (do pure (f.offset, ← sizeOf f.type) : Sem (Nat × Nat)).run P w = .ok (f.offset, i.size) w := by simp [sizeOf, typeInfo, hq]
      exact ⟨(f.offset, i.size) :: ps, by rw [List.mapM_cons, Sem.run_bind, h2, Result.andThen_ok, Sem.run_bind, hps]; rfl⟩
theorem evalR_ok {c : Cfg} {s : St} {β : Env} {a : Act} {w : World} (hf : FrOk β s.fr a.tmps) (hm : MemOk β s.mem w) {nr : Nat} (hro : RoOk β c.ro nr w) {o : Oper} {v : AV} {ps : List Prop} (h : evalR c s o = some (v, ps)) (hp : All ps) :
    (execOp a.eval o).run c.P w = .ok (.value (gv β v)) w := by
  obtain ⟨dst, op, ty, pos, after, guard⟩ := o
  simp only [evalR] at h
  cases op <;> simp only [reduceCtorEq] at h
  case move x =>
    split at h <;> (try simp only [Option.some.injEq, Prod.mk.injEq, reduceCtorEq] at h)
    rename_i u hu
    obtain ⟨rfl, rfl⟩ := h
    simp [execOp, ev_ok hf hu]
  case assign x =>
    split at h <;> (try simp only [Option.some.injEq, Prod.mk.injEq, reduceCtorEq] at h)
    rename_i u hu
    obtain ⟨rfl, rfl⟩ := h
    simp [execOp, ev_ok hf hu]
  case pick b x y =>
    split at h <;> (try simp only [reduceCtorEq] at h)
    all_goals
      rename_i hb
      split at h <;> (try simp only [Option.some.injEq, Prod.mk.injEq, reduceCtorEq] at h)
      rename_i u hu
      obtain ⟨rfl, rfl⟩ := h
      simp [execOp, ev_ok hf hb, gv, gs, asBool, ev_ok hf hu]
  case extract x k =>
    split at h <;> (try simp only [reduceCtorEq] at h)
    · rename_i xs hx
      split at h <;> (try simp only [Option.some.injEq, Prod.mk.injEq, reduceCtorEq] at h)
      rename_i u hu
      obtain ⟨rfl, rfl⟩ := h
      simp [execOp, ev_ok hf hx, gv, Instr.extract, hu]
    · rename_i b u hx
      split at h <;> (try simp only [Option.some.injEq, Prod.mk.injEq, reduceCtorEq] at h)
      · obtain ⟨rfl, rfl⟩ := h
        simp [execOp, ev_ok hf hx, gv, Instr.extract]
      · obtain ⟨rfl, rfl⟩ := h
        simp [execOp, ev_ok hf hx, gv, Instr.extract]
  case nilCheck x =>
    split at h <;> (try simp only [Option.some.injEq, Prod.mk.injEq, reduceCtorEq] at h)
    rename_i g off hx
    obtain ⟨rfl, rfl⟩ := h
    simp [execOp, ev_ok hf hx, gv, gs]
  case binOp op t x y u =>
    split at h <;> (try simp only [reduceCtorEq] at h)
    rename_i p q hx hy
    split at h
    · rename_i z qs hz
      simp only [Option.some.injEq, Prod.mk.injEq] at h
      obtain ⟨rfl, rfl⟩ := h
      simp only [execOp, ev_ok hf hx, ev_ok hf hy, gv]
      rw [Sem.run_bind, bin_ok hz hp β c.P t x y w]
      rfl
    · split at h <;> (try simp only [Option.some.injEq, Prod.mk.injEq, reduceCtorEq] at h)
      rename_i r hr
      obtain ⟨rfl, rfl⟩ := h
      simp only [execOp, ev_ok hf hx, gv]
      rw [Sem.run_bind, ifaceNe_ok hr β x a w]
      rfl
  case unOp op t x =>
    split at h <;> (try simp only [Option.some.injEq, Prod.mk.injEq, reduceCtorEq] at h)
    rename_i p hx
    obtain ⟨rfl, rfl⟩ := h
    simp [execOp, ev_ok hf hx, gv, gs, Op.unary]
  case convert src dst x =>
    split at h <;> (try simp only [reduceCtorEq] at h)
    rename_i d k p hs hd hx
    split at h <;> (try simp only [Option.some.injEq, Prod.mk.injEq, reduceCtorEq] at h)
    rename_i z hz
    obtain ⟨rfl, rfl⟩ := h
    simp only [execOp, ev_ok hf hx, gv]
    rw [Sem.run_bind, conv_ok hz β hs hd w]
    rfl
  case fieldAddr t x f =>
    split at h <;> (try simp only [reduceCtorEq] at h)
    rename_i g off fs hx hu
    split at h <;> (try simp only [reduceCtorEq] at h)
    rename_i fl hfl
    split at h <;> (try simp only [reduceCtorEq] at h)
    rename_i inf hq
    cases hb : Nat.beq inf.size 0 with
    | true => rw [hb] at h; cases h
    | false =>
      rw [hb] at h
      simp only [cond_false, Option.some.injEq, Prod.mk.injEq] at h
      obtain ⟨rfl, rfl⟩ := h
      have hne := Nat.ne_of_beq_eq_false hb
      simp only [execOp, ev_ok hf hx, gv, gs, Instr.fieldAt, Instr.sureAddr, Sem.run_bind, Sem.run_pure, Result.andThen_ok, run_underlying hu, hfl, fieldPlace, sizeOf, typeInfo, run_program, hq, if_neg hne, Ev.add_addr]
  case load t x =>
    split at h <;> (try simp only [reduceCtorEq] at h)
    · rename_i g off hx
      split at h <;> (try simp only [Option.some.injEq, Prod.mk.injEq, reduceCtorEq] at h)
      rename_i m f hcs hl
      obtain ⟨rfl, rfl⟩ := h
      have hc := hro.at_ hcs hp.1
      simp only [execOp, ev_ok hf hx, gv, gs, Instr.loadAt, Instr.sureAddr, loadVar, Sem.run_bind, Sem.run_pure, Result.andThen_ok, (Ev.lies_one hl w).1, Bool.false_eq_true, if_false, run_load, hc]
    rotate_left
    · rename_i g off hx
      split at h <;> (try simp only [reduceCtorEq] at h)
      rename_i b hcs hl
      split at h <;> (try simp only [Option.some.injEq, Prod.mk.injEq, reduceCtorEq] at h)
      rename_i u qs hu
      obtain ⟨rfl, rfl⟩ := h
      have hc := (hm g b hcs).cellx hu hp
      have hx' : a.eval x = .pointer (some ⟨β g, off, none⟩) := ev_ok hf hx
      simp only [execOp, hx', gv, Instr.loadAt, Instr.sureAddr, loadVar, Sem.run_bind, Sem.run_pure, Result.andThen_ok, (Ev.lies_one hl w).1, Bool.false_eq_true, if_false, run_load, hc]
    rename_i g off hx
    split at h
    · rename_i b hcs hl
      split at h <;> (try simp only [Option.some.injEq, Prod.mk.injEq, reduceCtorEq] at h)
      rename_i u qs hu
      obtain ⟨rfl, rfl⟩ := h
      have hc := (hm g b hcs).cell hu hp
      have hx' : a.eval x = .pointer (some ⟨β g, off, none⟩) := ev_ok hf hx
      simp only [execOp, hx', gv, Instr.loadAt, Instr.sureAddr, loadVar, Sem.run_bind, Sem.run_pure, Result.andThen_ok, (Ev.lies_one hl w).1, Bool.false_eq_true, if_false, run_load, hc]
    · rename_i b n hcs hl
      cases hb : (b.whole && Nat.beq off 0 && Nat.beq n b.len) with
      | false =>
        rw [hb] at h
        simp only [cond_false] at h
        split at h <;> (try simp only [reduceCtorEq] at h)
        rename_i cs
        cases hb2 : Nat.ble (off + n) cs.length with
        | false => rw [hb2] at h; cases h
        | true =>
          rw [hb2] at h
          simp only [cond_true, Option.some.injEq, Prod.mk.injEq] at h
          obtain ⟨rfl, rfl⟩ := h
          have hle : off + n ≤ cs.length := Nat.le_of_ble_eq_true hb2
          obtain ⟨e, he⟩ := hm g _ hcs
          have hlen : ((((cs.drop off).take n).map (gs β))).length = n := by simp; omega
          have hld := run_loadCells_list (P := c.P) w ⟨β g, off, none⟩ (((cs.drop off).take n).map (gs β)) (fun j v hv => by
            rw [Ev.add_addr]
            simp only [World.cell?, he, Blk.list]
            rw [List.getElem?_map] at hv
            by_cases hj : j < n
            · rw [List.getElem?_take_of_lt hj, List.getElem?_drop] at hv
              simpa using hv
            · rw [List.getElem?_eq_none (by simp; omega)] at hv
              cases hv)
          rw [hlen] at hld
          obtain ⟨h1, h2⟩ := Ev.lies_agg hl w
          cases hq : c.P.info? t with
          | none => rw [hq] at h2; cases h2
          | some inf =>
            have hsz : inf.size = n := by simpa [hq] using h2
            simp only [execOp, ev_ok hf hx, gv, gs, Blk.list, Instr.loadAt, Instr.sureAddr, loadVar, Sem.run_bind, Sem.run_pure, Result.andThen_ok, h1, if_true, sizeOf, typeInfo, run_program, hq, hsz, hld]
      | true =>
        rw [hb] at h
        simp only [cond_true, Option.some.injEq, Prod.mk.injEq] at h
        obtain ⟨rfl, rfl⟩ := h
        simp only [Bool.and_eq_true] at hb
        obtain ⟨⟨hb1, hb2⟩, hb3⟩ := hb
        obtain rfl := Nat.eq_of_beq_eq_true hb2
        obtain rfl := Nat.eq_of_beq_eq_true hb3
        obtain ⟨e, he⟩ := (hm g b hcs).whole hb1
        have hld := run_loadCells_list (P := c.P) w ⟨β g, 0, none⟩ (b.list.map (gs β)) (fun j v hv => by
          rw [Ev.add_addr]
          simp only [World.cell?, he]
          simpa using hv)
        rw [List.length_map, Blk.len_list] at hld
        obtain ⟨h1, h2⟩ := Ev.lies_agg hl w
        cases hq : c.P.info? t with
        | none => rw [hq] at h2; cases h2
        | some inf =>
          have hsz : inf.size = b.len := by simpa [hq] using h2
          simp only [execOp, ev_ok hf hx, gv, gs, Instr.loadAt, Instr.sureAddr, loadVar, Sem.run_bind, Sem.run_pure, Result.andThen_ok, h1, if_true, sizeOf, typeInfo, run_program, hq, hsz, hld]
    · cases h
  case indexAddr t x ix =>
    split at h <;> (try simp only [reduceCtorEq] at h)
    · rename_i g off n len e hx hi hu
      split at h <;> (try simp only [Option.some.injEq, Prod.mk.injEq, reduceCtorEq] at h)
      rename_i inf k qs hq hk
      obtain ⟨rfl, rfl⟩ := h
      obtain ⟨it, m, h1, h2, h3, rfl⟩ := idx_ok hk hp
      simp only [execOp, ev_ok hf hx, ev_ok hf hi, gv, h1 β, mkp_ok]
      simp only [gs, Instr.indexAt, asIntOf, Instr.sureAddr, Sem.run_bind, Sem.run_pure, Result.andThen_ok, run_underlying hu, sizeOf, typeInfo, run_program, hq, if_pos (And.intro h2 h3), Ev.add_addr]
    · rename_i g off len cap n e hx hi hu
      split at h <;> (try simp only [Option.some.injEq, Prod.mk.injEq, reduceCtorEq] at h)
      rename_i inf k qs hq hk
      obtain ⟨rfl, rfl⟩ := h
      obtain ⟨it, m, h1, h2, h3, rfl⟩ := idx_ok hk hp
      simp only [execOp, ev_ok hf hx, ev_ok hf hi, gv, h1 β, mkp_ok]
      simp only [gs, Instr.indexAt, asIntOf, Sem.run_bind, Sem.run_pure, Result.andThen_ok, run_underlying hu, sizeOf, typeInfo, run_program, hq, if_pos (And.intro h2 h3), Ev.add_addr]
    · rename_i g len n e hx hi hu
      split at h <;> (try simp only [Option.some.injEq, Prod.mk.injEq, reduceCtorEq] at h)
      rename_i inf k qs hq hk
      obtain ⟨rfl, rfl⟩ := h
      obtain ⟨it, m, h1, h2, h3, rfl⟩ := idx_ok hk hp
      simp only [execOp, ev_ok hf hx, ev_ok hf hi, gv, h1 β, mkp_ok]
      simp only [gs, Instr.indexAt, asIntOf, Sem.run_bind, Sem.run_pure, Result.andThen_ok, run_underlying hu, sizeOf, typeInfo, run_program, hq, if_pos (And.intro h2 h3), Ev.add_addr]
    · rename_i g off len cap n e hx hi hu
      split at h <;> (try simp only [Option.some.injEq, Prod.mk.injEq, reduceCtorEq] at h)
      rename_i inf k qs hq hk
      obtain ⟨rfl, rfl⟩ := h
      obtain ⟨it, m, h1, h2, h3, rfl⟩ := idx_ok hk hp
      simp only [execOp, ev_ok hf hx, ev_ok hf hi, gv, h1 β]
      simp only [gs, Instr.indexAt, asIntOf, Sem.run_bind, Sem.run_pure, Result.andThen_ok, run_underlying hu, sizeOf, typeInfo, run_program, hq, if_pos (And.intro h2 h3), Ev.add_addr, Nat.add_assoc]
  case build t ps' =>
    split at h <;> (try simp only [reduceCtorEq] at h)
    · rename_i n e hn hu
      split at h <;> (try simp only [Option.some.injEq, Prod.mk.injEq, reduceCtorEq] at h)
      rename_i z inf hz hq
      obtain ⟨rfl, rfl⟩ := h
      have hps : ps' = #[] := Array.eq_empty_of_size_eq_zero hn
      subst hps
      unfold zeros at hz
      split at hz <;> (try simp only [reduceCtorEq] at hz)
      rename_i it hit
      split at hz <;> (try simp only [reduceCtorEq] at hz)
      rename_i zv hzv
      have := cvs_ok hz β
      simp [execOp, Instr.build, zeroValue, typeInfo, hit, hzv, run_underlying hu, sizeOf, hq, Instr.fill, gv, Blk.list, this]
    · rename_i fs hn hu
      split at h <;> (try simp only [reduceCtorEq] at h)
      rename_i z hz
      cases hb : fs.all (fun f => (c.P.info? f.type).isSome) with
      | false => rw [hb] at h; cases h
      | true =>
        rw [hb] at h
        simp only [cond_true, Option.some.injEq, Prod.mk.injEq] at h
        obtain ⟨rfl, rfl⟩ := h
        have hps : ps' = #[] := Array.eq_empty_of_size_eq_zero hn
        subst hps
        unfold zeros at hz
        split at hz <;> (try simp only [reduceCtorEq] at hz)
        rename_i it hit
        split at hz <;> (try simp only [reduceCtorEq] at hz)
        rename_i zv hzv
        have := cvs_ok hz β
        obtain ⟨places, hpl⟩ := run_places c.P w fs.toList (fun f hf => by
          rw [Array.all_eq_true] at hb
          obtain ⟨i, hi, rfl⟩ := List.getElem_of_mem hf
          simpa using hb i (by simpa using hi))
        have hpl' : (fs.mapM fun f => (do pure (f.offset, ← sizeOf f.type) : Sem (Nat × Nat))).run c.P w = .ok places.toArray w := by
          rw [Array.mapM_eq_mapM_toList, Sem.run_map, hpl]
          rfl
        simp only [execOp, Instr.build, zeroValue, typeInfo, Sem.run_bind, Sem.run_pure, run_program, Result.andThen_ok, hit, hzv, run_underlying hu]
        rw [hpl']
        simp [Instr.fill, gv, Blk.list, this]
  case slice t x lo hi mx =>
    split at h <;> (try simp only [reduceCtorEq] at h)
    · rename_i g off n e hx hu
      split at h <;> (try simp only [reduceCtorEq] at h)
      rename_i hh qs h1
      split at h <;> (try simp only [Option.some.injEq, Prod.mk.injEq, reduceCtorEq] at h)
      rename_i l rs inf h2 hq
      obtain ⟨rfl, rfl⟩ := h
      obtain ⟨hp1, hp2⟩ := All.app hp
      simp only [execOp, ev_ok hf hx, gv, gs, Option.map_none, Instr.sliceAt, bnds hf h1 h2 hp1 hp2, Instr.sureAddr, Sem.run_bind, Sem.run_pure, Result.andThen_ok, run_underlying hu, sizeOf, typeInfo, run_program, hq, Ev.add_addr]
      cases he : Nat.beq n l with
      | true => rw [if_pos (Nat.eq_of_beq_eq_true he)]; rfl
      | false => rw [if_neg (Nat.ne_of_beq_eq_false he)]; rfl
    · rename_i g off len cap e hx hu
      split at h <;> (try simp only [reduceCtorEq] at h)
      rename_i hh qs h1
      split at h <;> (try simp only [Option.some.injEq, Prod.mk.injEq, reduceCtorEq] at h)
      rename_i l rs inf h2 hq
      obtain ⟨rfl, rfl⟩ := h
      obtain ⟨hp1, hp2⟩ := All.app hp
      simp only [execOp, ev_ok hf hx, gv, gs, Option.map_none, Instr.sliceAt, Instr.slice, bnds hf h1 h2 hp1 hp2, Sem.run_bind, Sem.run_pure, Result.andThen_ok, run_underlying hu, sizeOf, typeInfo, run_program, hq, Option.map_some, Ev.add_addr]
      cases he : Nat.beq cap l with
      | true => rw [if_pos (Nat.eq_of_beq_eq_true he)]; rfl
      | false => rw [if_neg (Nat.ne_of_beq_eq_false he)]; rfl
    · rename_i g off len cap e hx hu
      split at h <;> (try simp only [reduceCtorEq] at h)
      rename_i hh qs h1
      split at h <;> (try simp only [Option.some.injEq, Prod.mk.injEq, reduceCtorEq] at h)
      rename_i l rs inf h2 hq
      obtain ⟨rfl, rfl⟩ := h
      obtain ⟨hp1, hp2⟩ := All.app hp
      simp only [execOp, ev_ok hf hx, gv, gs, Option.map_none, Instr.sliceAt, Instr.slice, bnds hf h1 h2 hp1 hp2, Sem.run_bind, Sem.run_pure, Result.andThen_ok, run_underlying hu, sizeOf, typeInfo, run_program, hq, Option.map_some, Ev.add_addr]
      cases he : Nat.beq cap l with
      | true => rw [if_pos (Nat.eq_of_beq_eq_true he)]; rfl
      | false => rw [if_neg (Nat.ne_of_beq_eq_false he), Nat.add_assoc]; rfl

/-! ### What the tables tell is true -/
/-- What a call leaves: the blocks that were there, and perhaps some more. -/
structure After (β : Env) (mem : List Blk) (w : World) (β' : Env) (mem' : List Blk) (w' : World) : Prop where
  old : ∀ g, g < mem.length → β' g = β g
  oldc : ∀ g, g < mem.length → β'.c g = β.c g
  row : β'.r = β.r
  cells : MemOk β' mem' w'
  len : mem.length ≤ mem'.length
  inj : InjOk β' mem'
  new : ∀ g, mem.length ≤ g → g < mem'.length → w.heap.size ≤ β' g
  keep : Ev.Keep (fun b => ∃ g, g < mem.length ∧ β g = b) w w'

structure Cfg.Sound (c : Cfg) : Prop where
  mixed : c.P.follows .mixedOrders = true
  qgo : ∀ f args mem r, c.q f args mem = some r → ∀ xs w, (callFunc f xs).run c.P w = .ok (.enter f xs) w
  q : ∀ f args mem v ps, c.q f args mem = some (v, ps) → All ps → ∀ (β : Env) w, MemOk β mem w → InjOk β mem → RoOk β c.ro mem.length w → Calls c.P f (args.map (gv β)).toArray w (fun e w' => e = .returned (gv β v) ∧ ∃ n, w' = w.drewN n)
  wgo : ∀ f args mem r, c.wf f args mem = some r → ∀ xs w, (callFunc f xs).run c.P w = .ok (.enter f xs) w
  w : ∀ f args mem v mem' ps, c.wf f args mem = some (v, mem', ps) → All ps → ∀ (β : Env) w, MemOk β mem w → InjOk β mem → RoOk β c.ro mem.length w →
    Calls c.P f (args.map (gv β)).toArray w (fun e w' => ∃ β', After β mem w β' mem' w' ∧ e = .returned (gv β' v))

def slLen : SV → Option (Nat × Nat)
  | .sl _ _ len cap => some (len, cap)
  | .rsl _ _ len cap => some (len, cap)
  | .nosl => some (0, 0)
  | _ => none
def lenOf : SV → Option Nat
  | .own _ len => some len
  | x => match slLen x with
    | some p => some p.1
    | none => none
/-- A length as a number: known, if it is a numeral. -/
def builtinQ (c : Cfg) (s : St) (known : Bool) (chosen : Option Bool) (b : Builtin) (args : List Operand) (ats : Array TypeId) : Option (AV × List Prop) :=
  match b, evs s args with
  | .len, some [.sc x] => match ats[0]? with
    | some t => match c.P.underlying t, lenOf x with
      | some (.slice _), some p => some (.sc (bif known then .i p else .x p), [])
      | _, _ => none
    | none => none
  | .cap, some [.sc x] => match ats[0]? with
    | some t => match c.P.underlying t, slLen x with
      | some (.slice _), some p => some (.sc (bif known then .i p.2 else .x p.2), [])
      | _, _ => none
    | none => none
  | .min, some [.sc x, .sc y] => match num x, num y, chosen with
    | some x, some y, some r => some (.sc (.x (bif r then y else x)), [decide (y < x) = r])
    | some x, some y, none => some (.sc (.i (bif decide (y < x) then y else x)), [])
    | _, _, _ => none
  | _, _ => none
theorem slLen_ok {x : SV} {p : Nat × Nat} (h : slLen x = some p) (β : Env) : ∃ a, gs β x = .slice a p.1 p.2 := by
  cases x <;> simp only [slLen, Option.some.injEq, reduceCtorEq] at h <;> subst h <;> exact ⟨_, rfl⟩
theorem lenOf_ok {x : SV} {p : Nat} (h : lenOf x = some p) (β : Env) : ∃ a k, gs β x = .slice a p k := by
  cases x <;> simp only [lenOf, slLen, Option.some.injEq, reduceCtorEq] at h <;> subst h <;> exact ⟨_, _, rfl⟩
theorem known_ok (β : Env) (known : Bool) (n : Int) : gv β (.sc (bif known then .i n else .x n)) = .int .i64 n := by cases known <;> rfl
theorem builtinQ_ok {c : Cfg} {s : St} {β : Env} {a : Act} (hf : FrOk β s.fr a.tmps) {known : Bool} {chosen : Option Bool} {b : Builtin} {args : Array Operand} {ats : Array TypeId} {v : AV} {ps : List Prop} (h : builtinQ c s known chosen b args.toList ats = some (v, ps)) (hall : All ps) (ty : TypeId) (cs : Array Bool) (w : World) :
    (builtin b ats ty cs (args.map a.eval)).run c.P w = .ok (.value (gv β v)) w := by
  have ea : ∀ vs, evs s args.toList = some vs → args.map a.eval = (vs.map (gv β)).toArray := fun vs hvs => by
    have := evs_ok hf hvs
    apply Array.ext'
    simpa using this
  unfold builtinQ at h
  split at h <;> (try simp only [reduceCtorEq] at h)
  · rename_i x hx
    split at h <;> (try simp only [reduceCtorEq] at h)
    rename_i t ht
    split at h <;> (try simp only [Option.some.injEq, Prod.mk.injEq, reduceCtorEq] at h)
    rename_i e p hu hp
    obtain ⟨rfl, rfl⟩ := h
    obtain ⟨ad, k, had⟩ := lenOf_ok hp β
    rw [ea _ hx, known_ok]
    simp [builtin, Builtin.len_, ht, gv, had, run_underlying hu, goInt]
  · rename_i x hx
    split at h <;> (try simp only [reduceCtorEq] at h)
    rename_i t ht
    split at h <;> (try simp only [Option.some.injEq, Prod.mk.injEq, reduceCtorEq] at h)
    rename_i e p hu hp
    obtain ⟨rfl, rfl⟩ := h
    obtain ⟨ad, had⟩ := slLen_ok hp β
    rw [ea _ hx, known_ok]
    simp [builtin, Builtin.cap_, ht, gv, had, run_underlying hu, goInt]
  · rename_i x y hx
    split at h <;> (try simp only [Option.some.injEq, Prod.mk.injEq, reduceCtorEq] at h)
    · rename_i m n r hm hn
      obtain ⟨rfl, rfl⟩ := h
      obtain ⟨h1, _⟩ := hall
      subst h1
      rw [ea _ hx]
      simp only [List.map_cons, List.map_nil, gv, num_ok hm β, num_ok hn β]
      by_cases hlt : n < m <;> simp [builtin, Builtin.min_, Builtin.min2, gs, hlt]
    · rename_i m n hm hn
      obtain ⟨rfl, rfl⟩ := h
      rw [ea _ hx]
      simp only [List.map_cons, List.map_nil, gv, num_ok hm β, num_ok hn β]
      by_cases hlt : n < m <;> simp [builtin, Builtin.min_, Builtin.min2, gs, hlt]

/-- Slots whose lengths are numerals. -/
def isKnown (c : Cfg) (d : Option Nat) : Bool := match clook c.ch d with
  | some _ => false
  | none => true
def evalQ (c : Cfg) (s : St) (o : Oper) : Option (AV × List Prop) :=
  match o.op with
  | .call cl => match cl.callee with
    | .value (.func f) => match evs s cl.args.toList with
      | some vs => c.q f vs s.mem
      | none => none
    | .builtin b => builtinQ c s (isKnown c o.dst) (clook c.ch o.dst) b cl.args.toList cl.argTypes
    | _ => none
  | _ => evalR c s o

theorem run_call {c : Cfg} {a : Act} {w : World} {dst : Option Tmp} {f : FuncId} {args : Array Operand} {ats : Array TypeId} {ty : TypeId} {pos : String} {after : Array Edge} {guard : Option (Nat × Bool)}
    (hgo : ∀ xs w, (callFunc f xs).run c.P w = .ok (.enter f xs) w) :
    (execOp a.eval ⟨dst, .call ⟨.value (.func f), args, ats⟩, ty, pos, after, guard⟩).run c.P w = .ok (.enter f (args.map a.eval)) w := by
  simp [execOp, resolve, Act.eval, Deferred.ofValue, invoke, hgo]

theorem evalQ_ok {c : Cfg} (hc : c.Sound) {s : St} {β : Env} {a : Act} {w : World} (hf : FrOk β s.fr a.tmps) (hm : MemOk β s.mem w) (hi : InjOk β s.mem) (hro : RoOk β c.ro s.mem.length w) {o : Oper} {v : AV} {ps : List Prop} (h : evalQ c s o = some (v, ps)) (hp : All ps) (n : Nat) :
    o.quietAt c.P a (fun w' => ∃ n, w' = w.drewN n) (w.drewN n) (gv β v) := by
  have other : evalR c s o = some (v, ps) → o.quietAt c.P a (fun w' => ∃ n, w' = w.drewN n) (w.drewN n) (gv β v) := fun h => by
    unfold Oper.quietAt
    rw [evalR_ok hf (hm.drewN n) (hro.drewN n) h hp]
    exact ⟨rfl, rfl⟩
  unfold evalQ at h
  split at h
  · rename_i cl hop
    split at h <;> (try simp only [reduceCtorEq] at h)
    rotate_left
    · rename_i b hcal
      obtain ⟨dst, op, ty, pos, after, guard⟩ := o
      obtain ⟨cal, args, ats⟩ := cl
      simp only at hop hcal h
      subst hop
      subst hcal
      unfold Oper.quietAt
      simp only [execOp, resolve, Sem.run_bind, Sem.run_pure, Result.andThen_ok, invoke]
      rw [builtinQ_ok hf h hp ty _ (w.drewN n)]
      exact ⟨rfl, rfl⟩
    rename_i f hcal
    split at h <;> (try simp only [reduceCtorEq] at h)
    rename_i vs hvs
    obtain ⟨dst, op, ty, pos, after, guard⟩ := o
    obtain ⟨cal, args, ats⟩ := cl
    simp only at hop hcal
    subst hop
    subst hcal
    unfold Oper.quietAt
    rw [run_call (hc.qgo f vs s.mem _ h)]
    refine ⟨rfl, ?_⟩
    have e : args.map a.eval = (vs.map (gv β)).toArray := by
      have := evs_ok hf hvs
      apply Array.ext'
      simpa using this
    rw [e]
    refine (hc.q f vs s.mem v ps h hp β (w.drewN n) (hm.drewN n) hi (hro.drewN n)).mono ?_
    rintro e w' ⟨he, m, hw⟩
    exact ⟨he, n + m, by rw [hw, World.drewN_drewN]⟩
  · exact other h

/-! ### Regions -/
def bind (N : Nat) (d : Option Nat) (v : AV) (fr : List (Nat × AV)) : Option (List (Nat × AV)) :=
  match d with
  | none => some fr
  | some k => bif Nat.blt k N then some ((k, v) :: fr) else none
theorem bind_ok {N : Nat} {d : Option Nat} {v : AV} {fr fr' : List (Nat × AV)} (h : bind N d v fr = some fr') {β : Env} {a : Act} (hs : a.tmps.size = N) (hf : FrOk β fr a.tmps) :
    FrOk β fr' (a.put d (gv β v)).tmps ∧ (a.put d (gv β v)).tmps.size = N ∧ (a.put d (gv β v)).defers = a.defers := by
  unfold bind at h
  split at h
  · cases h; exact ⟨hf, hs, rfl⟩
  · rename_i k
    cases hb : Nat.blt k N with
    | false => rw [hb] at h; cases h
    | true =>
      rw [hb] at h
      simp only [cond_true, Option.some.injEq] at h
      subst h
      have hlt : k < a.tmps.size := by
        rw [hs]
        exact Nat.le_of_ble_eq_true hb
      refine ⟨fun x u hx => ?_, by simp [Act.put, hs], rfl⟩
      simp only [look] at hx
      cases hk : Nat.beq k x with
      | true =>
        rw [hk] at hx
        obtain rfl := Nat.eq_of_beq_eq_true hk
        simp only [cond_true, Option.some.injEq] at hx
        subst hx
        exact .inr (by simp [Act.put, hlt])
      | false =>
        rw [hk] at hx
        have hne : k ≠ x := Nat.ne_of_beq_eq_false hk
        simp only [cond_false] at hx
        rcases hf x u hx with h1 | h1
        · exact .inl h1
        · exact .inr (by simp [Act.put, Array.getElem?_setIfInBounds_ne hne, h1])
def want (all : List Oper) (fr : List (Nat × AV)) (o : Oper) : Option Bool :=
  match o.guard with
  | none => some true
  | some (j, b) => match all[j]? with
    | some oj => match oj.dst with
      | some d => match look fr d with
        | some (.sc (.bool x)) => some (x == b)
        | _ => none
      | none => none
    | none => none
theorem want_ok {ops : Array Oper} {fr : List (Nat × AV)} {o : Oper} {b : Bool} (h : want ops.toList fr o = some b) {β : Env} {tmps : Array Value} (hf : FrOk β fr tmps) : Region.wanted o (yielded ops tmps) = b := by
  unfold want at h
  split at h
  · rename_i hg
    cases h
    simp [Region.wanted, hg]
  · rename_i j b' hg
    split at h <;> (try simp only [reduceCtorEq] at h)
    rename_i oj hoj
    split at h <;> (try simp only [reduceCtorEq] at h)
    rename_i d hd
    split at h <;> (try simp only [Option.some.injEq, reduceCtorEq] at h)
    rename_i x hx
    subst h
    have hoj' : ops[j]? = some oj := by simpa using hoj
    rcases hf d _ hx with h1 | h1
    · cases h1
    · have : yielded ops tmps j = some x := by
        unfold yielded
        simp only [hoj', Option.bind_some, hd, h1, gv, gs]
      simp only [Region.wanted, hg, this]
      cases x <;> cases b' <;> rfl
def runQ (c : Cfg) (mem : List Blk) (all : List Oper) : List Oper → List (Nat × AV) → Option (List (Nat × AV) × List Prop)
  | [], fr => some (fr, [])
  | o :: r, fr => match want all fr o with
    | some true => match evalQ c ⟨fr, mem⟩ o with
      | some (v, ps) => match bind c.N o.dst v fr with
        | some fr' => match runQ c mem all r fr' with
          | some (fr2, qs) => some (fr2, ps ++ qs)
          | none => none
        | none => none
      | none => none
    | some false => match bind c.N o.dst .junk fr with
      | some fr' => runQ c mem all r fr'
      | none => none
    | none => none
theorem runQ_ok {c : Cfg} (hc : c.Sound) {mem : List Blk} {β : Env} {w : World} (hm : MemOk β mem w) (hi : InjOk β mem) (hro : RoOk β c.ro mem.length w) {ops : Array Oper} {Q : Act → Prop} {D : List Deferred} :
    ∀ (l : List Oper) (fr fr' : List (Nat × AV)) (ps : List Prop) (a : Act), runQ c mem ops.toList l fr = some (fr', ps) → All ps → a.tmps.size = c.N → a.defers = D → FrOk β fr a.tmps →
      (∀ a', a'.tmps.size = c.N → a'.defers = D → FrOk β fr' a'.tmps → Q a') → wpQuiet c.P ops (fun w' => ∃ n, w' = w.drewN n) Q l a
  | [], fr, fr', ps, a, h, hp, hs, hd, hf, hQ => by
    cases h
    exact hQ a hs hd hf
  | o :: r, fr, fr', ps, a, h, hp, hs, hd, hf, hQ => by
    simp only [runQ] at h
    split at h <;> (try simp only [reduceCtorEq] at h)
    · rename_i hgd
      split at h <;> (try simp only [reduceCtorEq] at h)
      rename_i v ps1 hv
      split at h <;> (try simp only [reduceCtorEq] at h)
      rename_i fr1 hb
      split at h <;> (try simp only [Option.some.injEq, Prod.mk.injEq, reduceCtorEq] at h)
      rename_i fr2 qs h2
      obtain ⟨rfl, rfl⟩ := h
      obtain ⟨hp1, hp2⟩ := All.app hp
      obtain ⟨h1, h3, h4⟩ := bind_ok hb hs hf
      unfold wpQuiet
      rw [if_pos (want_ok hgd hf)]
      refine ⟨gv β v, ?_, runQ_ok hc hm hi hro r fr1 fr2 qs _ h2 hp2 h3 (h4.trans hd) h1 hQ⟩
      rintro w' ⟨n, rfl⟩
      exact evalQ_ok hc hf hm hi hro hv hp1 n
    · rename_i hgd
      split at h <;> (try simp only [reduceCtorEq] at h)
      rename_i fr1 hb
      obtain ⟨h1, h3, h4⟩ := bind_ok hb hs hf
      unfold wpQuiet
      rw [if_neg (by rw [want_ok hgd hf]; simp)]
      exact runQ_ok hc hm hi hro r fr1 fr' ps _ h hp h3 (h4.trans hd) h1 hQ

/-! ### Operations that write -/
def scS (n : Nat) : SV → Bool
  | .ptr g _ => Nat.blt g n
  | .xptr g _ => Nat.blt g n
  | .sl g _ _ _ => Nat.blt g n
  | .own g _ => Nat.blt g n
  | .err g => Nat.blt g n
  | _ => true
def scB (n : Nat) : Blk → Bool
  | .cells cs => cs.all (scS n)
  | .r8t _ _ tl => tl.all (scS n)
  | _ => true
def scV (n : Nat) : AV → Bool
  | .sc s => scS n s
  | .agg b => scB n b
  | .tup xs => xs.all (scS n)
  | .tupb b s => scB n b && scS n s
  | .junk => true
def inScope (s : St) : Bool := s.fr.all (fun p => scV s.mem.length p.2) && s.mem.all (scB s.mem.length)
theorem gs_same {β β' : Env} {n : Nat} (h : ∀ g, g < n → β' g = β g) (hc : ∀ g, g < n → β'.c g = β.c g) (hrow : β'.r = β.r) {x : SV} (hx : scS n x = true) : gs β' x = gs β x := by
  have key : ∀ g : Nat, Nat.blt g n = true → β' g = β g := fun g hb => h g (by simpa [Nat.blt_eq] using hb)
  have keyc : ∀ g : Nat, Nat.blt g n = true → β'.c g = β.c g := fun g hb => hc g (by simpa [Nat.blt_eq] using hb)
  cases x <;> simp only [scS] at hx <;> simp only [gs]
  case ptr g off => rw [key g hx]
  case xptr g off => rw [key g hx]
  case sl g off len cap => rw [key g hx]
  case own g len => rw [key g hx, keyc g hx]
  case err g => rw [key g hx]
  all_goals rw [hrow]
theorem gss_same {β β' : Env} {n : Nat} (h : ∀ g, g < n → β' g = β g) (hc : ∀ g, g < n → β'.c g = β.c g) (hrow : β'.r = β.r) {xs : List SV} (hx : xs.all (scS n) = true) : xs.map (gs β') = xs.map (gs β) :=
  List.map_congr_left fun x hm => gs_same h hc hrow (List.all_eq_true.1 hx x hm)
theorem row_plain (n : Nat) {m : Nat} {f : Nat → SV} (h : ∀ j, scS n (f j) = true) : ((List.range m).map f).all (scS n) = true := by
  rw [List.all_eq_true]
  intro x hx
  obtain ⟨j, _, rfl⟩ := List.mem_map.1 hx
  exact h j
theorem list_sc {n : Nat} {b : Blk} (h : scB n b = true) : b.list.all (scS n) = true := by
  cases b with
  | cells cs => exact h
  | r8 m f => exact row_plain n fun _ => rfl
  | r8t m f tl =>
    simp only [Blk.list, List.all_append, Bool.and_eq_true]
    exact ⟨row_plain n fun _ => rfl, h⟩
  | r16 m f => exact row_plain n fun _ => rfl
  | r64 m f => exact row_plain n fun _ => rfl
  | ri m f => exact row_plain n fun _ => rfl
  | own m f => rfl
  | dead => rfl
theorem gv_same {β β' : Env} {n : Nat} (h : ∀ g, g < n → β' g = β g) (hc : ∀ g, g < n → β'.c g = β.c g) (hrow : β'.r = β.r) {x : AV} (hx : scV n x = true) : gv β' x = gv β x := by
  cases x with
  | sc s => exact gs_same h hc hrow hx
  | agg b => simp only [gv, gss_same h hc hrow (list_sc hx)]
  | tup xs => simp only [gv, gss_same h hc hrow hx]
  | tupb b s =>
    simp only [scV, Bool.and_eq_true] at hx
    simp only [gv, gss_same h hc hrow (list_sc hx.1), gs_same h hc hrow hx.2]
  | junk => rfl
theorem BlkOk.same {β β' : Env} {n : Nat} (h : ∀ g, g < n → β' g = β g) (hc : ∀ g, g < n → β'.c g = β.c g) (hrow : β'.r = β.r) {b : Blk} (hb : scB n b = true) {k cap : Nat} {w : World} (hk : BlkOk β b k cap w) : BlkOk β' b k cap w := by
  have e := gss_same h hc hrow (list_sc hb)
  cases b with
  | own m f => exact hk
  | dead => trivial
  | cells cs => obtain ⟨t, ht⟩ := hk; exact ⟨t, by rw [e]; exact ht⟩
  | r8 m f => obtain ⟨t, ht⟩ := hk; exact ⟨t, by rw [e]; exact ht⟩
  | r8t m f tl => obtain ⟨t, ht⟩ := hk; exact ⟨t, by rw [e]; exact ht⟩
  | r16 m f => obtain ⟨t, ht⟩ := hk; exact ⟨t, by rw [e]; exact ht⟩
  | r64 m f => obtain ⟨t, ht⟩ := hk; exact ⟨t, by rw [e]; exact ht⟩
  | ri m f => obtain ⟨t, ht⟩ := hk; exact ⟨t, by rw [e]; exact ht⟩
theorem BlkOk.kept2 {β : Env} {b : Blk} {k cap : Nat} {w w' : World} (h : BlkOk β b k cap w) (he : b.live = true → w'.heap[k]? = w.heap[k]?) : BlkOk β b k cap w' := by
  cases b with
  | dead => trivial
  | own n f => exact h.kept (he rfl)
  | cells cs => exact h.kept (he rfl)
  | r8 n f => exact h.kept (he rfl)
  | r8t n f tl => exact h.kept (he rfl)
  | r16 n f => exact h.kept (he rfl)
  | r64 n f => exact h.kept (he rfl)
  | ri n f => exact h.kept (he rfl)
theorem look_mem : ∀ {fr : List (Nat × AV)} {d : Nat} {v : AV}, look fr d = some v → (d, v) ∈ fr
  | [], d, v, h => by cases h
  | (k, u) :: r, d, v, h => by
    simp only [look] at h
    cases hk : Nat.beq k d with
    | true =>
      rw [hk] at h
      obtain rfl := Nat.eq_of_beq_eq_true hk
      simp only [cond_true, Option.some.injEq] at h
      subst h
      exact List.mem_cons_self
    | false =>
      rw [hk] at h
      exact List.mem_cons_of_mem _ (look_mem h)

/-- How a state tells a frame and a world; D: the deferred calls; n0, β0, w0: the blocks and the world at the start. -/
structure Rel (c : Cfg) (D : List Deferred) (n0 : Nat) (β0 : Env) (w0 : World) (β : Env) (s : St) (a : Act) (w : World) : Prop where
  size : a.tmps.size = c.N
  defers : a.defers = D
  fr : FrOk β s.fr a.tmps
  mem : MemOk β s.mem w
  inj : InjOk β s.mem
  lo : n0 ≤ s.mem.length
  old : ∀ g, g < n0 → β g = β0 g
  oldc : ∀ g, g < n0 → β.c g = β0.c g
  row : β.r = β0.r
  bs : n0 ≤ c.base
  ro : RoOk β c.ro s.mem.length w
  new : ∀ g, n0 ≤ g → g < s.mem.length → w0.heap.size ≤ β g
  keep : Ev.Keep (fun b => ∃ g, g < n0 ∧ β0 g = b) w0 w

section
variable {c : Cfg} {D : List Deferred} {n0 : Nat} {β0 : Env} {w0 : World} {β : Env} {s : St} {a : Act} {w : World}
theorem Rel.put (h : Rel c D n0 β0 w0 β s a w) {d : Option Nat} {v : AV} {fr' : List (Nat × AV)} (hb : bind c.N d v s.fr = some fr') : Rel c D n0 β0 w0 β ⟨fr', s.mem⟩ (a.put d (gv β v)) w := by
  obtain ⟨h1, h2, h3⟩ := bind_ok hb h.size h.fr
  exact ⟨h2, h3.trans h.defers, h1, h.mem, h.inj, h.lo, h.old, h.oldc, h.row, h.bs, h.ro, h.new, h.keep⟩
theorem Rel.drewN (h : Rel c D n0 β0 w0 β s a w) (n : Nat) : Rel c D n0 β0 w0 β s a (w.drewN n) :=
  ⟨h.size, h.defers, h.fr, h.mem.drewN n, h.inj, h.lo, h.old, h.oldc, h.row, h.bs, h.ro.drewN n, h.new, h.keep.drewN n⟩
theorem Rel.less (h : Rel c D n0 β0 w0 β s a w) {fr' : List (Nat × AV)} (hl : ∀ d v, look fr' d = some v → look s.fr d = some v) : Rel c D n0 β0 w0 β ⟨fr', s.mem⟩ a w :=
  ⟨h.size, h.defers, fun d v hv => h.fr d v (hl d v hv), h.mem, h.inj, h.lo, h.old, h.oldc, h.row, h.bs, h.ro, h.new, h.keep⟩

/-- One block more. -/
def more (β : Env) (n b cap : Nat) : Env := ⟨fun k => if k = n then b else β k, β.r, fun k => if k = n then cap else β.c k⟩
theorem more_old (β : Env) {n b cap g : Nat} (h : g < n) : more β n b cap g = β g := by simp [more, Nat.ne_of_lt h]
theorem more_oldc (β : Env) {n b cap g : Nat} (h : g < n) : (more β n b cap).c g = β.c g := by simp [more, Nat.ne_of_lt h]
theorem more_new (β : Env) (n b cap : Nat) : more β n b cap n = b := by simp [more]
theorem more_newc (β : Env) (n b cap : Nat) : (more β n b cap).c n = cap := by simp [more]

/-- A new block, of whatever kind. -/
theorem Rel.alloc (h : Rel c D n0 β0 w0 β s a w) (hsc : inScope s = true) {b : Blk} (hz : scB s.mem.length b = true) (o : Obj) (cap : Nat)
    (hb : BlkOk β b w.heap.size cap (w.alloc o)) : Rel c D n0 β0 w0 (more β s.mem.length w.heap.size cap) ⟨s.fr, s.mem ++ [b]⟩ a (w.alloc o) := by
  simp only [inScope, Bool.and_eq_true] at hsc
  obtain ⟨hs1, hs2⟩ := hsc
  have ho : ∀ g, g < s.mem.length → more β s.mem.length w.heap.size cap g = β g := fun g hg => more_old β hg
  have hoc : ∀ g, g < s.mem.length → (more β s.mem.length w.heap.size cap).c g = β.c g := fun g hg => more_oldc β hg
  have split_ : ∀ {g : Nat} {x : Blk}, (s.mem ++ [b])[g]? = some x → (g < s.mem.length ∧ s.mem[g]? = some x) ∨ (g = s.mem.length ∧ x = b) := fun {g x} hg => by
    by_cases hlt : g < s.mem.length
    · rw [List.getElem?_append_left hlt] at hg
      exact .inl ⟨hlt, hg⟩
    · have hgl : g = s.mem.length := by
        have := (List.getElem?_eq_some_iff.1 hg).1
        simp at this
        omega
      subst hgl
      rw [List.getElem?_append_right (Nat.le_refl _)] at hg
      simp at hg
      exact .inr ⟨rfl, hg.symm⟩
  refine ⟨h.size, h.defers, fun d v hv => ?_, fun g x hg => ?_, fun g g' x x' hg hg' hl hl' he => ?_, ?_, fun g hg => ?_, fun g hg => ?_, h.row, h.bs, fun g m f hg => ?_, fun g h1 h2 => ?_, h.keep.alloc _⟩
  · rcases h.fr d v hv with h1 | h1
    · exact .inl h1
    · refine .inr ?_
      rw [gv_same ho hoc rfl (List.all_eq_true.1 hs1 _ (look_mem hv))]
      exact h1
  · rcases split_ hg with ⟨hlt, hg⟩ | ⟨rfl, rfl⟩
    · rw [ho g hlt, hoc g hlt]
      have hk := (h.mem g x hg)
      refine BlkOk.same ho hoc rfl (List.all_eq_true.1 hs2 x (List.mem_of_getElem? hg)) ?_
      exact hk.kept2 fun hx => heap_alloc_old w _ _ (hk.lt hx)
    · rw [more_new, more_newc]
      exact BlkOk.same ho hoc rfl hz hb
  · rcases split_ hg with ⟨hlt, hg1⟩ | ⟨e1, e2⟩ <;> rcases split_ hg' with ⟨hlt', hg2⟩ | ⟨e3, e4⟩
    · rw [ho g hlt, ho g' hlt'] at he
      exact h.inj g g' x x' hg1 hg2 hl hl' he
    · rw [ho g hlt, e3, more_new] at he
      exact absurd he (Nat.ne_of_lt ((h.mem g x hg1).lt hl))
    · rw [ho g' hlt', e1, more_new] at he
      exact absurd he.symm (Nat.ne_of_lt ((h.mem g' x' hg2).lt hl'))
    · rw [e1, e3]
  · simp only [List.length_append, List.length_cons, List.length_nil]
    have := h.lo
    omega
  · rw [ho g (Nat.lt_of_lt_of_le hg h.lo)]
    exact h.old g hg
  · rw [hoc g (Nat.lt_of_lt_of_le hg h.lo)]
    exact h.oldc g hg
  · obtain ⟨h1, h2, h3⟩ := h.ro g m f hg
    rw [Row.loc_same (β := β) (β' := more β s.mem.length w.heap.size cap) rfl g f]
    refine ⟨by show _ < (w.heap.push o).size; simp; exact Nat.lt_succ_of_lt h1, fun g' hg' => ?_, fun j hj => ?_⟩
    · rcases Nat.lt_or_ge g' s.mem.length with h4 | h4
      · rw [ho g' h4]
        exact h2 g' h4
      · simp only [List.length_append, List.length_cons, List.length_nil] at hg'
        obtain rfl : g' = s.mem.length := by omega
        rw [more_new]
        show w.heap.size ≠ (f.loc β g).1
        omega
    · have := h3 j hj
      unfold World.cell? at this ⊢
      show (match (w.alloc o).heap[(f.loc β g).1]? with | some (.cells c _ _) => _ | _ => _) = _
      rw [heap_alloc_old w _ _ h1]
      exact this
  · simp only [List.length_append, List.length_cons, List.length_nil] at h2
    rcases Nat.lt_or_ge g s.mem.length with h3 | h3
    · rw [ho g h3]
      exact h.new g h1 h3
    · obtain rfl : g = s.mem.length := by omega
      rw [more_new]
      exact h.keep.size

/-- A block that was there turns. -/
theorem Rel.store (h : Rel c D n0 β0 w0 β s a w) {g : Nat} {b b' : Blk} (hg : s.mem[g]? = some b) (hbl : b.live = true) {cs : Array Value} (hb : BlkOk β b' (β g) (β.c g) (w.setRow (β g) cs)) :
    Rel c D n0 β0 w0 β ⟨s.fr, s.mem.set g b'⟩ a (w.setRow (β g) cs) := by
  have hlt : g < s.mem.length := (List.getElem?_eq_some_iff.1 hg).1
  have split_ : ∀ {k : Nat} {x : Blk}, (s.mem.set g b')[k]? = some x → (k ≠ g ∧ s.mem[k]? = some x) ∨ (k = g ∧ x = b') := fun {k x} hk => by
    by_cases hkg : k = g
    · subst hkg
      rw [List.getElem?_set_self hlt] at hk
      simp only [Option.some.injEq] at hk
      exact .inr ⟨rfl, hk.symm⟩
    · rw [List.getElem?_set_ne (Ne.symm hkg)] at hk
      exact .inl ⟨hkg, hk⟩
  refine ⟨h.size, h.defers, h.fr, fun k x hk => ?_, fun k k' x x' hk hk' hl hl' he => ?_, by simpa using h.lo, h.old, h.oldc, h.row, h.bs, fun k m f hk => ?_, fun k h1 h2 => h.new k h1 (by simpa using h2), h.keep.setRow (fun hb => ?_) _⟩
  · rcases split_ hk with ⟨hne, hk⟩ | ⟨rfl, rfl⟩
    · exact (h.mem k x hk).kept2 fun hx => setRow_other w (β g) (β k) _ fun e => hne (h.inj k g x b hk hg hx hbl e)
    · exact hb
  · rcases split_ hk with ⟨hne, hk1⟩ | ⟨e1, e2⟩ <;> rcases split_ hk' with ⟨hne', hk2⟩ | ⟨e3, e4⟩
    · exact h.inj k k' x x' hk1 hk2 hl hl' he
    · rw [e3] at he ⊢
      exact h.inj k g x b hk1 hg hl hbl he
    · rw [e1] at he ⊢
      exact h.inj g k' b x' hg hk2 hbl hl' he
    · rw [e1, e3]
  · obtain ⟨h1, h2, h3⟩ := h.ro k m f hk
    refine ⟨by rw [setRow_size]; exact h1, fun g' hg' => h2 g' (by simpa using hg'), fun j hj => ?_⟩
    have := h3 j hj
    unfold World.cell? at this ⊢
    rw [setRow_other w (β g) _ _ (fun e => h2 g hlt e.symm)]
    exact this
  · rcases Nat.lt_or_ge g n0 with h1 | h1
    · exact ⟨g, h1, (h.old g h1).symm⟩
    · have := h.new g h1 hlt
      omega
end

/-! ### Rows that turn -/
theorem set_range {α : Type} (n : Nat) (f : Nat → α) (off : Nat) (v : α) : (((List.range n).map f).set off v) = (List.range n).map (fun j => bif Nat.beq j off then v else f j) := by
  apply List.ext_getElem?
  intro j
  rw [List.getElem?_set]
  by_cases hj : off = j
  · subst hj
    rw [if_pos rfl]
    by_cases hn : off < n
    · rw [if_pos (by simpa using hn), range_at n _ hn]
      simp
    · rw [if_neg (by simpa using hn), List.getElem?_eq_none (by simp; omega)]
  · rw [if_neg hj]
    by_cases hn : j < n
    · rw [range_at n _ hn, range_at n _ hn]
      have : Nat.beq j off = false := by
        cases hb : Nat.beq j off with
        | false => rfl
        | true => exact absurd (Nat.eq_of_beq_eq_true hb).symm hj
      rw [this]
      rfl
    · rw [List.getElem?_eq_none (by simp; omega), List.getElem?_eq_none (by simp; omega)]
/-- One cell of a block set. -/
def Blk.put (b : Blk) (off : Nat) (v : SV) : Option (Blk × List Prop) := match b, v with
  | .cells cs, v => bif Nat.blt off cs.length then some (.cells (cs.set off v), []) else none
  | .r8 n f, .u8 v => some (.r8 n (fun j => bif Nat.beq j off then v else f j), [off < n])
  | .r8t n f tl, v => bif Nat.blt off n then
        match v with
        | .u8 v => some (.r8t n (fun j => bif Nat.beq j off then v else f j) tl, [off < n])
        | _ => none
      else bif Nat.blt (off - n) tl.length then some (.r8t n f (tl.set (off - n) v), []) else none
  | .r16 n f, .u16 v => some (.r16 n (fun j => bif Nat.beq j off then v else f j), [off < n])
  | .r64 n f, .u64 v => some (.r64 n (fun j => bif Nat.beq j off then v else f j), [off < n])
  | .ri n f, v => match num v with
    | some v => some (.ri n (fun j => bif Nat.beq j off then v else f j), [off < n])
    | none => none
  | _, _ => none
theorem Blk.put_whole {b b' : Blk} {off : Nat} {v : SV} {ps : List Prop} (h : b.put off v = some (b', ps)) : b.whole = true ∧ b'.whole = true := by
  cases b <;> simp only [Blk.put] at h
  case cells cs =>
    cases hb : Nat.blt off cs.length with
    | false => rw [hb] at h; cases h
    | true => rw [hb] at h; cases h; exact ⟨rfl, rfl⟩
  case ri n f =>
    split at h <;> (try simp only [reduceCtorEq] at h)
    cases h
    exact ⟨rfl, rfl⟩
  case r8t n f tl =>
    cases hb : Nat.blt off n with
    | true =>
      rw [hb] at h
      simp only [cond_true] at h
      split at h <;> (try simp only [reduceCtorEq] at h)
      cases h
      exact ⟨rfl, rfl⟩
    | false =>
      rw [hb] at h
      simp only [cond_false] at h
      cases hb2 : Nat.blt (off - n) tl.length with
      | false => rw [hb2] at h; cases h
      | true => rw [hb2] at h; cases h; exact ⟨rfl, rfl⟩
  all_goals
    cases v <;> simp only [reduceCtorEq, Option.some.injEq, Prod.mk.injEq] at h <;> (try (obtain ⟨rfl, _⟩ := h; exact ⟨rfl, rfl⟩))
theorem map_set {α γ : Type} (g : α → γ) (l : List α) (k : Nat) (v : α) : (l.set k v).map g = (l.map g).set k (g v) := by
  apply List.ext_getElem?
  intro j
  simp only [List.getElem?_map, List.getElem?_set, List.length_map]
  split <;> (try split) <;> simp_all
theorem Blk.put_list {b b' : Blk} {off : Nat} {v : SV} {ps : List Prop} (h : b.put off v = some (b', ps)) (hp : All ps) (β : Env) : b'.list.map (gs β) = (b.list.map (gs β)).set off (gs β v) ∧ off < b.list.length := by
  have row : ∀ {α : Type} (n : Nat) (f : Nat → α) (w : α) (k : α → SV), off < n → ((List.range n).map (fun j => k (bif Nat.beq j off then w else f j))).map (gs β) = (((List.range n).map (fun j => k (f j))).map (gs β)).set off (gs β (k w)) ∧ off < ((List.range n).map (fun j => k (f j))).length := fun n f w k hlt => by
    refine ⟨?_, by simpa using hlt⟩
    rw [← map_set, set_range]
    congr 1
    apply List.map_congr_left
    intro j _
    cases Nat.beq j off <;> rfl
  cases b <;> simp only [Blk.put] at h
  case cells cs =>
    cases hb : Nat.blt off cs.length with
    | false => rw [hb] at h; cases h
    | true =>
      rw [hb] at h
      cases h
      exact ⟨map_set _ _ _ _, by simpa [Nat.blt_eq, Blk.list] using hb⟩
  case ri n f =>
    split at h <;> (try simp only [reduceCtorEq] at h)
    rename_i x e1 e2
    cases h
    rw [show gs β v = gs β (.i e1) by rw [num_ok e2 β]; rfl]
    exact row n f e1 SV.i hp.1
  case r8 n f =>
    cases v <;> simp only [reduceCtorEq, Option.some.injEq, Prod.mk.injEq] at h
    obtain ⟨rfl, rfl⟩ := h
    exact row n f _ SV.u8 hp.1
  case r8t n f tl =>
    cases hb : Nat.blt off n with
    | true =>
      rw [hb] at h
      simp only [cond_true] at h
      split at h <;> (try simp only [Option.some.injEq, Prod.mk.injEq, reduceCtorEq] at h)
      obtain ⟨rfl, rfl⟩ := h
      obtain ⟨h1, h2⟩ := row n f _ SV.u8 hp.1
      refine ⟨?_, by simp only [Blk.list, List.length_append]; omega⟩
      simp only [Blk.list, List.map_append]
      rw [h1, List.set_append, if_pos (by simpa using h2)]
    | false =>
      rw [hb] at h
      simp only [cond_false] at h
      cases hb2 : Nat.blt (off - n) tl.length with
      | false => rw [hb2] at h; cases h
      | true =>
        rw [hb2] at h
        simp only [cond_true, Option.some.injEq, Prod.mk.injEq] at h
        obtain ⟨rfl, rfl⟩ := h
        have hge : n ≤ off := by
          rcases Nat.lt_or_ge off n with h1 | h1
          · rw [show Nat.blt off n = true by simpa [Nat.blt_eq] using h1] at hb
            cases hb
          · exact h1
        have hlt : off - n < tl.length := by simpa [Nat.blt_eq] using hb2
        refine ⟨?_, by simp only [Blk.list, List.length_append, List.length_map, List.length_range]; omega⟩
        simp only [Blk.list, List.map_append]
        rw [List.set_append, if_neg (by simpa using hge), map_set]
        simp
  case r16 n f =>
    cases v <;> simp only [reduceCtorEq, Option.some.injEq, Prod.mk.injEq] at h
    obtain ⟨rfl, rfl⟩ := h
    exact row n f _ SV.u16 hp.1
  case r64 n f =>
    cases v <;> simp only [reduceCtorEq, Option.some.injEq, Prod.mk.injEq] at h
    obtain ⟨rfl, rfl⟩ := h
    exact row n f _ SV.u64 hp.1
  all_goals
    cases v <;> simp only [reduceCtorEq] at h
/-- One cell stored. -/
theorem run_put {P : Program} {b b' : Blk} {off : Nat} {v : SV} {ps : List Prop} (h : b.put off v = some (b', ps)) (hp : All ps) {β : Env} {k cap : Nat} {w : World} (hk : BlkOk β b k cap w) :
    ∃ cs, (storeCells ⟨k, off, none⟩ [gs β v]).run P w = .ok () (w.setRow k cs) ∧ BlkOk β b' k cap (w.setRow k cs) := by
  obtain ⟨h1, h2⟩ := Blk.put_whole h
  obtain ⟨h3, h4⟩ := Blk.put_list h hp β
  obtain ⟨e, he⟩ := hk.whole h1
  have hst := run_storeCells_at P k off e [gs β v] 0 _ w he (by simp; omega) (fun u hu => by
    obtain rfl : u = gs β v := by simpa using hu
    exact gs_one β v)
  refine ⟨_, hst, BlkOk.of_whole h2 ⟨e, ?_⟩⟩
  rw [setRow_heap w k _ _ e (0, 0) he, h3]
  congr 3
  rw [List.set_eq_take_append_cons_drop]
  simp [h4]

/-- One cell of a row of the call's own as well. -/
def Blk.put2 (b : Blk) (off : Nat) (v : SV) : Option (Blk × List Prop) := match b, v with
  | .own n f, .u8 v => some (.own n (fun j => bif Nat.beq j off then v else f j), [off < n])
  | b, v => b.put off v
theorem Blk.put2_live {b b' : Blk} {off : Nat} {v : SV} {ps : List Prop} (h : b.put2 off v = some (b', ps)) : b.live = true := by
  unfold Blk.put2 at h
  split at h
  · rfl
  · have := (Blk.put_whole h).1
    cases b <;> first | rfl | cases this
theorem run_put2 {P : Program} {b b' : Blk} {off : Nat} {v : SV} {ps : List Prop} (h : b.put2 off v = some (b', ps)) (hp : All ps) {β : Env} {k cap : Nat} {w : World} (hk : BlkOk β b k cap w) :
    ∃ cs, (storeCells ⟨k, off, none⟩ [gs β v]).run P w = .ok () (w.setRow k cs) ∧ BlkOk β b' k cap (w.setRow k cs) := by
  unfold Blk.put2 at h
  split at h
  · rename_i n f x
    simp only [Option.some.injEq, Prod.mk.injEq] at h
    obtain ⟨rfl, rfl⟩ := h
    obtain ⟨hlt, _⟩ := hp
    obtain ⟨hl, h2⟩ := hk
    rcases h2 with ⟨hv, _⟩ | ⟨g, cap', cur, hv, hb, hg, h3, h4, h5, h6⟩
    · cases hv
    · cases hv
      have hst := run_storeCells_at P k off 5 [gs β (.u8 x)] 0 cur w hg (by simp; omega) (fun u hu => by
        obtain rfl : u = gs β (.u8 x) := by simpa using hu
        rfl)
      refine ⟨_, hst, by simp, .inr ⟨k, cap, _, rfl, hb, setRow_heap w k cur _ 5 (0, 0) hg, h3, h4, ?_, ?_⟩⟩
      · simp
        omega
      · have hoff : off < cur.toList.length := by simp; omega
        have e1 : List.take (off + 0) cur.toList ++ [gs β (.u8 x)] ++ List.drop (off + 0 + [gs β (.u8 x)].length) cur.toList = cur.toList.set off (gs β (.u8 x)) := by
          rw [List.set_eq_take_append_cons_drop, if_pos hoff]
          simp
        rw [e1]
        show List.take (n * 1) (cur.toList.set off (gs β (.u8 x))) = _
        rw [List.take_set, h6]
        have e2 : (List.range n).map (fun j => Value.int .u8 (f j).toNat) = (List.range n).map (fun j => gs β (.u8 (f j))) := rfl
        rw [e2]
        have e3 := congrArg (List.map (gs β)) (set_range n (fun j => SV.u8 (f j)) off (.u8 x))
        rw [map_set, List.map_map, List.map_map] at e3
        refine Eq.trans e3 (List.map_congr_left fun j _ => ?_)
        show gs β (bif Nat.beq j off then SV.u8 x else SV.u8 (f j)) = Value.int .u8 ((bif Nat.beq j off then x else f j) : BitVec 8).toNat
        cases Nat.beq j off <;> rfl
  · exact run_put h hp hk

/-- The same at a place that is not a numeral. -/
def Blk.putx (b : Blk) (off : Nat) (v : SV) : Option (Blk × List Prop) := match b, v with
  | .r8t n f tl, .u8 v => some (.r8t n (fun j => bif Nat.beq j off then v else f j) tl, [off < n])
  | .r8t _ _ _, _ => none
  | b, v => b.put2 off v
theorem Blk.putx_put {b b' : Blk} {off : Nat} {v : SV} {ps : List Prop} (h : b.putx off v = some (b', ps)) (hp : All ps) : b.put2 off v = some (b', ps) := by
  unfold Blk.putx at h
  split at h
  · simp only [Option.some.injEq, Prod.mk.injEq] at h
    obtain ⟨rfl, rfl⟩ := h
    rename_i n f tl x
    have hb : Nat.blt off n = true := by simpa [Nat.blt_eq] using hp.1
    simp only [Blk.put2, Blk.put, hb, cond_true]
  · cases h
  · exact h
theorem zeros_ok {P : Program} {t : TypeId} {z : List SV} (h : zeros P t = some z) (β : Env) : ∃ v, (∀ w, (zeroValue t).run P w = .ok v w) ∧ v.cells = (z.map (gs β)).toArray := by
  unfold zeros at h
  split at h <;> (try simp only [reduceCtorEq] at h)
  rename_i i hi
  split at h <;> (try simp only [reduceCtorEq] at h)
  rename_i v hv
  exact ⟨v, fun w => by simp [zeroValue, typeInfo, hi, hv], by rw [cvs_ok h β]⟩
/-- A value as a block. -/
def blkOf : AV → Option Blk
  | .sc s => some (.cells [s])
  | .agg b => bif b.whole then some b else none
  | _ => none
theorem blkOf_ok {v : AV} {b : Blk} (h : blkOf v = some b) (β : Env) : b.whole = true ∧ (gv β v).cells = (b.list.map (gs β)).toArray := by
  cases v <;> simp only [blkOf, Option.some.injEq, reduceCtorEq] at h
  · subst h
    exact ⟨rfl, by simp [gv, gs_cells, Blk.list]⟩
  · rename_i b2
    cases hb : b2.whole with
    | false => rw [hb] at h; cases h
    | true =>
      rw [hb] at h
      cases h
      exact ⟨hb, rfl⟩
/-- Bytes at the head of a list. -/
def allB : Nat → List SV → Bool
  | 0, _ => true
  | n + 1, .u8 _ :: r => allB n r
  | _, _ => false
def getb (cs : List SV) (i : Nat) : BitVec 8 := match cs[i]? with
  | some (.u8 b) => b
  | _ => 0#8
theorem allB_at : ∀ {n : Nat} {cs : List SV}, allB n cs = true → ∀ {j : Nat}, j < n → cs[j]? = some (.u8 (getb cs j))
  | n + 1, .u8 b :: r, h, 0, _ => rfl
  | n + 1, .u8 b :: r, h, j + 1, hj => by
    have := allB_at (n := n) (cs := r) h (j := j) (by omega)
    simpa [getb] using this
/-- What bytes a slice tells: how many, which, and what must hold. -/
def srcOf (c : Cfg) (s : St) : SV → Option (Nat × (Nat → BitVec 8) × List Prop)
  | .rsl g off len _ => match c.ro[g]? with
    | some (m, .b f) => some (len, fun j => f (off + j), [off + len ≤ m])
    | _ => none
  | .sl g off len _ => match s.mem[g]? with
    | some (.cells cs) => bif allB len (cs.drop off) then some (len, getb ((cs.drop off).take len), []) else none
    | some (.r8 n f) => some (len, fun j => f (off + j), [off + len ≤ n])
    | some (.r8t n f _) => some (len, fun j => f (off + j), [off + len ≤ n])
    | _ => none
  | .own g len => match s.mem[g]? with
    | some (.own n f) => some (len, f, [len ≤ n])
    | _ => none
  | _ => none
theorem srcOf_ok {c : Cfg} {s : St} {β : Env} {w : World} (hm : MemOk β s.mem w) {nr : Nat} (hro : RoOk β c.ro nr w) {y : SV} {m : Nat} {f : Nat → BitVec 8} {ps : List Prop} (h : srcOf c s y = some (m, f, ps)) (hp : All ps) :
    ∃ ad k, gs β y = .slice (some ad) m k ∧ ∀ j, j < m → w.cell? (ad.add j) = some (.int .u8 (f j).toNat) := by
  cases y <;> simp only [srcOf, reduceCtorEq] at h
  · rename_i g off len cap
    split at h <;> (try simp only [Option.some.injEq, Prod.mk.injEq, reduceCtorEq] at h)
    · rename_i cs hg
      cases hb : allB len (cs.drop off) with
      | false => rw [hb] at h; cases h
      | true =>
        rw [hb] at h
        simp only [cond_true, Option.some.injEq, Prod.mk.injEq] at h
        obtain ⟨rfl, rfl, rfl⟩ := h
        obtain ⟨e, he⟩ := hm g _ hg
        refine ⟨⟨β g, off, none⟩, cap, rfl, fun j hj => ?_⟩
        have h1 := allB_at hb hj
        have h2 : getb ((cs.drop off).take len) j = getb (cs.drop off) j := by
          simp only [getb, List.getElem?_take_of_lt hj]
        rw [h2]
        rw [List.getElem?_drop] at h1
        rw [Ev.add_addr]
        simp only [World.cell?, he, Blk.list]
        simp [h1, gs]
    · rename_i n f' hg
      obtain ⟨rfl, rfl, rfl⟩ := h
      refine ⟨⟨β g, off, none⟩, cap, rfl, fun j hj => ?_⟩
      rw [Ev.add_addr]
      exact (hm g _ hg).cell (b := .r8 n f') (off := off + j) (v := .u8 (f' (off + j))) (ps := [off + j < n]) rfl ⟨by have := hp.1; omega, trivial⟩
    · rename_i n f' tl hg
      obtain ⟨rfl, rfl, rfl⟩ := h
      refine ⟨⟨β g, off, none⟩, cap, rfl, fun j hj => ?_⟩
      rw [Ev.add_addr]
      exact (hm g _ hg).cellx (b := .r8t n f' tl) (off := off + j) (v := .u8 (f' (off + j))) (ps := [off + j < n]) rfl ⟨by have := hp.1; omega, trivial⟩
  · rename_i g len
    split at h <;> (try simp only [Option.some.injEq, Prod.mk.injEq, reduceCtorEq] at h)
    rename_i n f' hg
    obtain ⟨rfl, rfl, rfl⟩ := h
    refine ⟨⟨β g, 0, none⟩, β.c g, rfl, fun j hj => ?_⟩
    rw [Ev.add_addr, Nat.zero_add]
    exact (hm g _ hg).cell (b := .own n f') (off := j) (v := .u8 (f' j)) (ps := [j < n]) rfl ⟨by have := hp.1; omega, trivial⟩
  · rename_i g off len cap
    split at h <;> (try simp only [Option.some.injEq, Prod.mk.injEq, reduceCtorEq] at h)
    rename_i m' f' hg
    obtain ⟨rfl, rfl, rfl⟩ := h
    refine ⟨⟨(β.r g).1, (β.r g).2 + off, none⟩, cap, rfl, fun j hj => ?_⟩
    rw [Ev.add_addr, Nat.add_assoc]
    exact hro.at_ hg (by have := hp.1; omega)
/-- Two rows one behind the other. -/
def cat (n : Nat) (f g : Nat → BitVec 8) (j : Nat) : BitVec 8 := bif Nat.blt j n then f j else g (j - n)
/-- Bytes laid over a row, from a place on. -/
def over (n m : Nat) (f g : Nat → BitVec 8) (j : Nat) : BitVec 8 := bif Nat.blt j n then f j else bif Nat.blt j (n + m) then g (j - n) else f j
theorem over_list {n dl m : Nat} (h : dl + m ≤ n) (f0 f : Nat → BitVec 8) : ((List.range n).map (fun j => SV.u8 (f0 j))).take dl ++ (List.range m).map (fun j => SV.u8 (f j)) ++ ((List.range n).map (fun j => SV.u8 (f0 j))).drop (dl + m) = (List.range n).map (fun j => SV.u8 (over dl m f0 f j)) := by
  apply List.ext_getElem?
  intro j
  by_cases h1 : j < dl
  · have hb : Nat.blt j dl = true := by simpa [Nat.blt_eq] using h1
    rw [List.append_assoc, List.getElem?_append_left (by simp; omega), List.getElem?_take_of_lt h1]
    simp [over, hb, show j < n by omega]
  · have hb : Nat.blt j dl = false := by cases hx : Nat.blt j dl with | false => rfl | true => exact absurd (by simpa [Nat.blt_eq] using hx) h1
    by_cases h2 : j < dl + m
    · have hb2 : Nat.blt j (dl + m) = true := by simpa [Nat.blt_eq] using h2
      rw [List.getElem?_append_left (by simp; omega), List.getElem?_append_right (by simp; omega)]
      simp [over, hb, hb2, show j < n by omega, show min dl n = dl by omega, show j - dl < m by omega]
    · have hb2 : Nat.blt j (dl + m) = false := by cases hx : Nat.blt j (dl + m) with | false => rfl | true => exact absurd (by simpa [Nat.blt_eq] using hx) h2
      rw [List.getElem?_append_right (by simp; omega)]
      have e : dl + m + (j - (min dl n + m)) = j := by omega
      by_cases h3 : j < n <;> simp [over, hb, hb2, h3, e]
def evalW (c : Cfg) (s : St) (o : Oper) : Option (AV × List Blk × List Prop) :=
  match o.op with
  | .alloc t => match zeros c.P t with
    | some z => bif inScope s && z.all (scS s.mem.length) then some (.sc (.ptr s.mem.length 0), s.mem ++ [.cells z], []) else none
    | none => none
  | .box _ x => match ev s x with
    | some v => match blkOf v with
      | some b => bif inScope s && scB s.mem.length b then some (.sc (.ptr s.mem.length 0), s.mem ++ [b], []) else none
      | none => none
    | none => none
  | .store t x y => match ev s x, ev s y, c.P.info? t with
    | some (.sc (.ptr g off)), some (.sc v), some inf => match s.mem[g]? with
      | some b => match b.put2 off v with
        | some (b', ps) => bif Nat.beq inf.size 1 then some (.junk, s.mem.set g b', ps) else none
        | none => none
      | none => none
    | some (.sc (.xptr g off)), some (.sc v), some inf => match s.mem[g]? with
      | some b => match b.putx off v with
        | some (b', ps) => bif Nat.beq inf.size 1 then some (.junk, s.mem.set g b', ps) else none
        | none => none
      | none => none
    | some (.sc (.ptr g off)), some (.agg b'), some inf => match s.mem[g]? with
      | some b => bif b.whole && b'.whole && Nat.beq off 0 && Nat.beq b'.len b.len && Nat.beq inf.size b'.len then some (.junk, s.mem.set g b', []) else
          match b with
          | .cells cs => bif b'.whole && Nat.ble (off + b'.len) cs.length && Nat.beq inf.size b'.len then some (.junk, s.mem.set g (.cells (cs.take off ++ b'.list ++ cs.drop (off + b'.len))), []) else none
          | _ => none
      | none => none
    | _, _, _ => none
  | .buildSlice t len ps => match c.P.underlying t, ps.toList with
    | some (.slice e), [] => bif Nat.beq len 0 && Nat.beq e 5 && inScope s && (match c.P.info? e with | some inf => Nat.beq inf.size 1 | none => false) then some (.sc (.own s.mem.length 0), s.mem ++ [.own 0 (fun _ => 0#8)], []) else none
    | some (.slice e), [(i, x)] => match c.P.info? e, zeros c.P e, ev s x with
      | some inf, some [_], some (.sc x) => bif Nat.beq len 1 && Nat.beq i 0 && Nat.beq inf.size 1 && inScope s && scS s.mem.length x then some (.sc (.sl s.mem.length 0 1 1), s.mem ++ [.cells [x]], []) else none
      | _, _, _ => none
    | some (.slice e), [(i, x), (j, y)] => match c.P.info? e, zeros c.P e, ev s x, ev s y with
      | some inf, some [_], some (.sc x), some (.sc y) => bif Nat.beq len 2 && Nat.beq i 0 && Nat.beq j 1 && Nat.beq inf.size 1 && inScope s && scS s.mem.length x && scS s.mem.length y then some (.sc (.sl s.mem.length 0 2 2), s.mem ++ [.cells [x, y]], []) else none
      | _, _, _, _ => none
    | _, _ => none
  | .makeSlice t l k => match c.P.underlying t, ev s l, ev s k with
    | some (.slice e), some (.sc (.i l)), some (.sc (.i k)) => match c.P.info? e, zeros c.P e with
      | some inf, some [.u8 z] => bif decide (0 ≤ l) && decide (l ≤ k) && decide (1 ≤ k) && decide (k ≤ 65536) && decide (inf.bytes ≤ 1048576) && Nat.beq inf.size 1 && inScope s then some (.sc (.sl s.mem.length 0 l.toNat k.toNat), s.mem ++ [.r8 k.toNat (fun _ => z)], []) else none
      | _, _ => none
    | _, _, _ => none
  | .call cl => match cl.callee with
    | .value (.func f) => match evs s cl.args.toList with
      | some vs => match c.wf f vs s.mem with
        | some r => bif s.fr.all (fun p => scV s.mem.length p.2) then some r else none
        | none => none
      | none => none
    | .builtin .copy => match evs s cl.args.toList, cl.argTypes.toList with
      | some [.sc (.sl g off dl _), .sc y], [dT, _] => match c.P.underlying dT with
        | some (.slice e) => match c.P.info? e, s.mem[g]?, srcOf c s y with
          | some inf, some (.cells cs), some (m, f, ps) => bif Nat.beq inf.size 1 && Nat.ble (off + Nat.min m dl) cs.length then some (.sc (.i (Nat.min m dl)), s.mem.set g (.cells (cs.take off ++ (List.range (Nat.min m dl)).map (fun j => .u8 (f j)) ++ cs.drop (off + Nat.min m dl))), ps) else none
          | some inf, some (.r8 n f0), some (m, f, ps) => bif Nat.beq inf.size 1 && Nat.ble (off + Nat.min m dl) n then some (.sc (.i (Nat.min m dl)), s.mem.set g (.r8 n (over off (Nat.min m dl) f0 f)), ps) else none
          | _, _, _ => none
        | _ => none
      | _, _ => none
    | .builtin .append => match evs s cl.args.toList, cl.argTypes.toList with
      | some [.sc (.sl g off dl dc), .sc y], [dT, sT] => match c.P.underlying dT with
        | some (.slice e) => match c.P.info? e, s.mem[g]?, srcOf c s y with
          | some inf, some (.r8 n f0), some (m, f, ps) => bif Nat.beq dT sT && Nat.beq inf.size 1 && Nat.beq off 0 && Nat.ble (dl + m) dc && Nat.ble (dl + m) n then some (.sc (.sl g off (dl + m) dc), s.mem.set g (.r8 n (over dl m f0 f)), ps) else none
          | some inf, some (.cells cs), some (m, f, ps) => bif Nat.beq dT sT && Nat.beq inf.size 1 && Nat.ble (dl + m) dc && Nat.ble (off + dl + m) cs.length then some (.sc (.sl g off (dl + m) dc), s.mem.set g (.cells (cs.take (off + dl) ++ (List.range m).map (fun j => .u8 (f j)) ++ cs.drop (off + dl + m))), ps) else none
          | _, _, _ => none
        | _ => none
      | _, _ => none
    | _ => none
  | _ => none

theorem evalW_ok {c : Cfg} (hc : c.Sound) {D : List Deferred} {n0 : Nat} {β0 : Env} {w0 : World} {β : Env} {s : St} {a : Act} {w : World} (h : Rel c D n0 β0 w0 β s a w) {o : Oper} {v : AV} {mem' : List Blk} {ps : List Prop}
    (he : evalW c s o = some (v, mem', ps)) (hp : All ps) {fr' : List (Nat × AV)} (hb : bind c.N o.dst v s.fr = some fr') {K : Act → World → Prop} {Q : Exit → Act → World → Prop}
    (hK : ∀ β' a' w', Rel c D n0 β0 w0 β' ⟨fr', mem'⟩ a' w' → K a' w') : o.wp c.P a w K Q := by
  obtain ⟨dst, op, ty, pos, after, guard⟩ := o
  unfold Oper.wp
  simp only [evalW] at he
  cases op <;> (try simp only [reduceCtorEq] at he)
  case alloc t =>
    split at he <;> (try simp only [reduceCtorEq] at he)
    rename_i z hz
    cases hsc : (inScope s && z.all (scS s.mem.length)) with
    | false => rw [hsc] at he; cases he
    | true =>
      rw [hsc] at he
      simp only [Bool.and_eq_true] at hsc
      simp only [cond_true, Option.some.injEq, Prod.mk.injEq] at he
      obtain ⟨rfl, rfl, _⟩ := he
      obtain ⟨zv, hzv, hzc⟩ := zeros_ok hz β
      have hr := h.alloc hsc.1 (b := .cells z) hsc.2 (.cells (z.map (gs β)).toArray t) 0 ⟨t, heap_alloc_new w _⟩
      have hq := hr.put (d := dst) (v := .sc (.ptr s.mem.length 0)) (fr' := fr') hb
      have e : gv (more β s.mem.length w.heap.size 0) (.sc (.ptr s.mem.length 0)) = .pointer (some ⟨w.heap.size, 0, none⟩) := by simp [gv, gs, more]
      rw [e] at hq
      simp only [execOp, Instr.alloc, newVar, newRow, Sem.run_bind, Sem.run_pure, Result.andThen_ok, hzv, run_newObj, hzc, Oper.upon]
      exact hK _ _ _ hq
  case box t x =>
    split at he <;> (try simp only [reduceCtorEq] at he)
    rename_i u hu
    split at he <;> (try simp only [reduceCtorEq] at he)
    rename_i b hbk
    cases hsc : (inScope s && scB s.mem.length b) with
    | false => rw [hsc] at he; cases he
    | true =>
      rw [hsc] at he
      simp only [Bool.and_eq_true] at hsc
      simp only [cond_true, Option.some.injEq, Prod.mk.injEq] at he
      obtain ⟨rfl, rfl, _⟩ := he
      obtain ⟨hw1, hw2⟩ := blkOf_ok hbk β
      have hr := h.alloc hsc.1 hsc.2 (.cells (b.list.map (gs β)).toArray t) 0 (BlkOk.of_whole hw1 ⟨t, heap_alloc_new w _⟩)
      have hq := hr.put (d := dst) (v := .sc (.ptr s.mem.length 0)) (fr' := fr') hb
      have e : gv (more β s.mem.length w.heap.size 0) (.sc (.ptr s.mem.length 0)) = .pointer (some ⟨w.heap.size, 0, none⟩) := by simp [gv, gs, more]
      rw [e] at hq
      simp only [execOp, ev_ok h.fr hu, Instr.box, newVar, newRow, Sem.run_bind, Sem.run_pure, Result.andThen_ok, run_newObj, hw2, Oper.upon]
      exact hK _ _ _ hq
  case store t x y =>
    split at he <;> (try simp only [reduceCtorEq] at he)
    · rename_i g off u inf hx hy hq
      split at he <;> (try simp only [reduceCtorEq] at he)
      rename_i b hg
      split at he <;> (try simp only [reduceCtorEq] at he)
      rename_i b' qs hput
      cases hsz : Nat.beq inf.size 1 with
      | false => rw [hsz] at he; cases he
      | true =>
        rw [hsz] at he
        simp only [cond_true, Option.some.injEq, Prod.mk.injEq] at he
        obtain ⟨rfl, rfl, rfl⟩ := he
        have hs1 : inf.size = 1 := Nat.eq_of_beq_eq_true hsz
        obtain ⟨cs, hst, hbk⟩ := run_put2 (P := c.P) hput hp (h.mem g b hg)
        have hlive : b.live = true := Blk.put2_live hput
        have hr := h.store hg hlive hbk
        have hq2 := hr.put (d := dst) (v := .junk) (fr' := fr') hb
        have hxv : a.eval x = .pointer (some ⟨β g, off, none⟩) := ev_ok h.fr hx
        have hyv : a.eval y = gs β u := ev_ok h.fr hy
        simp only [execOp, hxv, hyv, Instr.storeAt, Instr.sureAddr, storeVar, gs_cells, sizeOf, typeInfo, run_program, hq, Sem.run_bind, Sem.run_pure, Result.andThen_ok, List.size_toArray, List.length_cons, List.length_nil, hs1, ne_eq, not_true_eq_false, if_false, Nat.zero_add, hst, Oper.upon]
        exact hK _ _ _ hq2
    · rename_i g off u inf hx hy hq
      split at he <;> (try simp only [reduceCtorEq] at he)
      rename_i b hg
      split at he <;> (try simp only [reduceCtorEq] at he)
      rename_i b' qs hputx
      cases hsz : Nat.beq inf.size 1 with
      | false => rw [hsz] at he; cases he
      | true =>
        rw [hsz] at he
        simp only [cond_true, Option.some.injEq, Prod.mk.injEq] at he
        obtain ⟨rfl, rfl, rfl⟩ := he
        have hput := Blk.putx_put hputx hp
        have hs1 : inf.size = 1 := Nat.eq_of_beq_eq_true hsz
        obtain ⟨cs, hst, hbk⟩ := run_put2 (P := c.P) hput hp (h.mem g b hg)
        have hlive : b.live = true := Blk.put2_live hput
        have hr := h.store hg hlive hbk
        have hq2 := hr.put (d := dst) (v := .junk) (fr' := fr') hb
        have hxv : a.eval x = .pointer (some ⟨β g, off, none⟩) := ev_ok h.fr hx
        have hyv : a.eval y = gs β u := ev_ok h.fr hy
        simp only [execOp, hxv, hyv, Instr.storeAt, Instr.sureAddr, storeVar, gs_cells, sizeOf, typeInfo, run_program, hq, Sem.run_bind, Sem.run_pure, Result.andThen_ok, List.size_toArray, List.length_cons, List.length_nil, hs1, ne_eq, not_true_eq_false, if_false, Nat.zero_add, hst, Oper.upon]
        exact hK _ _ _ hq2
    · rename_i g off b' inf hx hy hq
      split at he <;> (try simp only [reduceCtorEq] at he)
      rename_i b hg
      cases hbb : (b.whole && b'.whole && Nat.beq off 0 && Nat.beq b'.len b.len && Nat.beq inf.size b'.len) with
      | false =>
        rw [hbb] at he
        simp only [cond_false] at he
        split at he <;> (try simp only [reduceCtorEq] at he)
        rename_i cs
        cases hb2 : (b'.whole && Nat.ble (off + b'.len) cs.length && Nat.beq inf.size b'.len) with
        | false => rw [hb2] at he; cases he
        | true =>
          rw [hb2] at he
          simp only [Bool.and_eq_true] at hb2
          obtain ⟨⟨b1, b2⟩, b3⟩ := hb2
          simp only [cond_true, Option.some.injEq, Prod.mk.injEq] at he
          obtain ⟨rfl, rfl, _⟩ := he
          have hle : off + b'.len ≤ cs.length := Nat.le_of_ble_eq_true b2
          have hsz : inf.size = b'.len := Nat.eq_of_beq_eq_true b3
          obtain ⟨e, hel⟩ := h.mem g _ hg
          have hst := run_storeCells_at c.P (β g) off e (b'.list.map (gs β)) 0 _ w hel (by
            have e1 : (b'.list.map (gs β)).length = b'.len := by rw [List.length_map, Blk.len_list]
            have e2 : (((Blk.cells cs).list.map (gs β)).toArray).size = cs.length := by simp [Blk.list]
            rw [e1, e2]
            omega) (fun u hu => by
            obtain ⟨q, _, rfl⟩ := List.mem_map.1 hu
            exact gs_one β q)
          have ee : (List.take (off + 0) ((Blk.cells cs).list.map (gs β)).toArray.toList ++ b'.list.map (gs β) ++ List.drop (off + 0 + (b'.list.map (gs β)).length) ((Blk.cells cs).list.map (gs β)).toArray.toList) = (Blk.cells (cs.take off ++ b'.list ++ cs.drop (off + b'.len))).list.map (gs β) := by
            rw [List.length_map, Blk.len_list, Nat.add_zero]
            show List.take off (cs.map (gs β)) ++ _ ++ List.drop _ (cs.map (gs β)) = List.map (gs β) (cs.take off ++ b'.list ++ cs.drop (off + b'.len))
            rw [List.map_append, List.map_append, List.map_take, List.map_drop]
          rw [ee] at hst
          have hr := h.store (b' := .cells (cs.take off ++ b'.list ++ cs.drop (off + b'.len))) hg rfl (cs := ((Blk.cells (cs.take off ++ b'.list ++ cs.drop (off + b'.len))).list.map (gs β)).toArray) ⟨e, setRow_heap w _ _ _ e _ hel⟩
          have hq2 := hr.put (d := dst) (v := .junk) (fr' := fr') hb
          have hxv : a.eval x = .pointer (some ⟨β g, off, none⟩) := ev_ok h.fr hx
          have hyv : a.eval y = .agg (b'.list.map (gs β)).toArray := ev_ok h.fr hy
          simp only [execOp, hxv, hyv, Instr.storeAt, Instr.sureAddr, storeVar, Value.cells, sizeOf, typeInfo, run_program, hq, Sem.run_bind, Sem.run_pure, Result.andThen_ok, List.size_toArray, List.length_map, Blk.len_list, hsz, ne_eq, not_true_eq_false, if_false, hst, Oper.upon]
          exact hK _ _ _ hq2
      | true =>
        rw [hbb] at he
        simp only [Bool.and_eq_true] at hbb
        obtain ⟨⟨⟨⟨b1, b2⟩, b3⟩, b4⟩, b5⟩ := hbb
        simp only [cond_true, Option.some.injEq, Prod.mk.injEq] at he
        obtain ⟨rfl, rfl, _⟩ := he
        obtain rfl := Nat.eq_of_beq_eq_true b3
        have hl : b'.len = b.len := Nat.eq_of_beq_eq_true b4
        have hsz : inf.size = b'.len := Nat.eq_of_beq_eq_true b5
        obtain ⟨e, hel⟩ := (h.mem g b hg).whole b1
        have hst := run_storeCells_at c.P (β g) 0 e (b'.list.map (gs β)) 0 _ w hel (by simp [Blk.len_list, hl]) (fun u hu => by
          obtain ⟨q, _, rfl⟩ := List.mem_map.1 hu
          exact gs_one β q)
        have ee : (List.take (0 + 0) (b.list.map (gs β)).toArray.toList ++ b'.list.map (gs β) ++ List.drop (0 + 0 + (b'.list.map (gs β)).length) (b.list.map (gs β)).toArray.toList) = b'.list.map (gs β) := by
          simp [Blk.len_list, hl]
        rw [ee] at hst
        have hlive : b.live = true := by cases b <;> first | rfl | cases b1
        have hr := h.store (b' := b') hg hlive (cs := (b'.list.map (gs β)).toArray) (BlkOk.of_whole b2 ⟨e, setRow_heap w _ _ _ e _ hel⟩)
        have hq2 := hr.put (d := dst) (v := .junk) (fr' := fr') hb
        have hxv : a.eval x = .pointer (some ⟨β g, 0, none⟩) := ev_ok h.fr hx
        have hyv : a.eval y = .agg (b'.list.map (gs β)).toArray := ev_ok h.fr hy
        simp only [execOp, hxv, hyv, Instr.storeAt, Instr.sureAddr, storeVar, Value.cells, sizeOf, typeInfo, run_program, hq, Sem.run_bind, Sem.run_pure, Result.andThen_ok, List.size_toArray, List.length_map, Blk.len_list, hsz, ne_eq, not_true_eq_false, if_false, hst, Oper.upon]
        exact hK _ _ _ hq2
  case buildSlice t len ps' =>
    split at he <;> (try simp only [reduceCtorEq] at he)
    · rename_i e hu hps
      cases hb1 : (Nat.beq len 0 && Nat.beq e 5 && inScope s && (match c.P.info? e with | some inf => Nat.beq inf.size 1 | none => false)) with
      | false => rw [hb1] at he; cases he
      | true =>
        rw [hb1] at he
        simp only [Bool.and_eq_true] at hb1
        obtain ⟨⟨⟨b1, b2⟩, hsc⟩, b4⟩ := hb1
        simp only [cond_true, Option.some.injEq, Prod.mk.injEq] at he
        obtain ⟨rfl, rfl, _⟩ := he
        obtain rfl := Nat.eq_of_beq_eq_true b1
        obtain rfl := Nat.eq_of_beq_eq_true b2
        split at b4 <;> (try simp only [reduceCtorEq] at b4)
        rename_i inf hq
        have hsz : inf.size = 1 := Nat.eq_of_beq_eq_true b4
        have hps' : ps' = #[] := by apply Array.ext'; simpa using hps
        subst hps'
        have hr := h.alloc hsc (b := .own 0 (fun _ => 0#8)) rfl (.cells #[] 5) 0 (World.ownsRow_made w #[] 0 (Nat.zero_le _) (Nat.zero_le _) rfl)
        have hq2 := hr.put (d := dst) (v := .sc (.own s.mem.length 0)) (fr' := fr') hb
        have e1 : gv (more β s.mem.length w.heap.size 0) (.sc (.own s.mem.length 0)) = .slice (some ⟨w.heap.size, 0, none⟩) 0 0 := by simp [gv, gs, more]
        rw [e1] at hq2
        have hfin := hK _ _ _ hq2
        simp only [execOp, Instr.buildSlice, Sem.run_bind, Sem.run_pure, Result.andThen_ok, run_underlying hu, typeInfo, sizeOf, run_program, hq, hsz]
        have e0 : ∀ g : Nat → Value, (Array.range 0).map g = #[] := fun g => by
          apply Array.ext
          · simp
          · intro i h1 h2
            simp at h2
        simp [Instr.fill, newRow, run_newObj, Oper.upon, e0]
        simpa using hfin
    · rename_i e i x hu hps
      split at he <;> (try simp only [reduceCtorEq] at he)
      rename_i inf z x' hq hz hx
      cases hb1 : (Nat.beq len 1 && Nat.beq i 0 && Nat.beq inf.size 1 && inScope s && scS s.mem.length x') with
      | false => rw [hb1] at he; cases he
      | true =>
        rw [hb1] at he
        simp only [Bool.and_eq_true] at hb1
        obtain ⟨⟨⟨⟨b1, b2⟩, b4⟩, hsc⟩, b5⟩ := hb1
        simp only [cond_true, Option.some.injEq, Prod.mk.injEq] at he
        obtain ⟨rfl, rfl, _⟩ := he
        obtain rfl := Nat.eq_of_beq_eq_true b1
        obtain rfl := Nat.eq_of_beq_eq_true b2
        have hsz : inf.size = 1 := Nat.eq_of_beq_eq_true b4
        obtain ⟨zv, hzv, hzc⟩ := zeros_ok hz β
        have hr := h.alloc hsc (b := .cells [x']) (by simp [scB, b5]) (.cells ([x'].map (gs β)).toArray e) 0 ⟨e, heap_alloc_new w _⟩
        have hq2 := hr.put (d := dst) (v := .sc (.sl s.mem.length 0 1 1)) (fr' := fr') hb
        have e1 : gv (more β s.mem.length w.heap.size 0) (.sc (.sl s.mem.length 0 1 1)) = .slice (some ⟨w.heap.size, 0, none⟩) 1 1 := by simp [gv, gs, more]
        rw [e1] at hq2
        have hps' : ps' = #[(0, x)] := by apply Array.ext'; simpa using hps
        subst hps'
        have hxv := ev_ok h.fr hx
        simp only [gv] at hxv
        have hfin := hK _ _ _ hq2
        have hfill : Instr.fill (fun i => some (i, 1)) ((Array.range 1).map (fun k => (zv.cells)[k % zv.cells.size]!)) [(0, gs β x')] = some #[gs β x'] := by
          have e0 : ∀ g : Nat → Value, (Array.range 1).map g = #[g 0] := fun g => by
            apply Array.ext
            · simp
            · intro i h1 h2
              have : i = 0 := by simp at h2; omega
              subst this
              simp
          rw [e0]
          simp [Instr.fill, gs_cells]
        simp only [execOp, Instr.buildSlice, Sem.run_bind, Sem.run_pure, Result.andThen_ok, run_underlying hu, typeInfo, sizeOf, run_program, hq, hsz, List.map_toArray, List.map_cons, List.map_nil, hxv]
        simp [hzv, hfill, newRow, run_newObj, Oper.upon]
        simpa using hfin
    · rename_i e i x j y hu hps
      split at he <;> (try simp only [reduceCtorEq] at he)
      rename_i inf z x' y' hq hz hx hy
      cases hb1 : (Nat.beq len 2 && Nat.beq i 0 && Nat.beq j 1 && Nat.beq inf.size 1 && inScope s && scS s.mem.length x' && scS s.mem.length y') with
      | false => rw [hb1] at he; cases he
      | true =>
        rw [hb1] at he
        simp only [Bool.and_eq_true] at hb1
        obtain ⟨⟨⟨⟨⟨⟨b1, b2⟩, b3⟩, b4⟩, hsc⟩, b5⟩, b6⟩ := hb1
        simp only [cond_true, Option.some.injEq, Prod.mk.injEq] at he
        obtain ⟨rfl, rfl, _⟩ := he
        obtain rfl := Nat.eq_of_beq_eq_true b1
        obtain rfl := Nat.eq_of_beq_eq_true b2
        obtain rfl := Nat.eq_of_beq_eq_true b3
        have hsz : inf.size = 1 := Nat.eq_of_beq_eq_true b4
        obtain ⟨zv, hzv, hzc⟩ := zeros_ok hz β
        have hr := h.alloc hsc (b := .cells [x', y']) (by simp [scB, b5, b6]) (.cells ([x', y'].map (gs β)).toArray e) 0 ⟨e, heap_alloc_new w _⟩
        have hq2 := hr.put (d := dst) (v := .sc (.sl s.mem.length 0 2 2)) (fr' := fr') hb
        have e1 : gv (more β s.mem.length w.heap.size 0) (.sc (.sl s.mem.length 0 2 2)) = .slice (some ⟨w.heap.size, 0, none⟩) 2 2 := by simp [gv, gs, more]
        rw [e1] at hq2
        have hps' : ps' = #[(0, x), (1, y)] := by apply Array.ext'; simpa using hps
        subst hps'
        have hxv := ev_ok h.fr hx
        have hyv := ev_ok h.fr hy
        simp only [gv] at hxv hyv
        have hfin := hK _ _ _ hq2
        have hfill : Instr.fill (fun i => some (i, 1)) ((Array.range 2).map (fun k => (zv.cells)[k % zv.cells.size]!)) [(0, gs β x'), (1, gs β y')] = some #[gs β x', gs β y'] := by
          have e0 : ∀ g : Nat → Value, (Array.range 2).map g = #[g 0, g 1] := fun g => by
            apply Array.ext
            · simp
            · intro i h1 h2
              have : i = 0 ∨ i = 1 := by simp at h2; omega
              rcases this with rfl | rfl <;> simp
          rw [e0]
          simp [Instr.fill, gs_cells]
        simp only [execOp, Instr.buildSlice, Sem.run_bind, Sem.run_pure, Result.andThen_ok, run_underlying hu, typeInfo, sizeOf, run_program, hq, hsz, List.map_toArray, List.map_cons, List.map_nil, hxv, hyv]
        simp [hzv, hfill, newRow, run_newObj, Oper.upon]
        simpa using hfin
  case makeSlice t lo ko =>
    split at he <;> (try simp only [reduceCtorEq] at he)
    rename_i e l k hu hl hk
    split at he <;> (try simp only [reduceCtorEq] at he)
    rename_i inf z hq hz
    cases hb1 : (decide (0 ≤ l) && decide (l ≤ k) && decide (1 ≤ k) && decide (k ≤ 65536) && decide (inf.bytes ≤ 1048576) && Nat.beq inf.size 1 && inScope s) with
    | false => rw [hb1] at he; cases he
    | true =>
      rw [hb1] at he
      simp only [Bool.and_eq_true, decide_eq_true_eq] at hb1
      obtain ⟨⟨⟨⟨⟨⟨b1, b2⟩, b6⟩, b3⟩, b4⟩, b5⟩, hsc⟩ := hb1
      simp only [cond_true, Option.some.injEq, Prod.mk.injEq] at he
      obtain ⟨rfl, rfl, _⟩ := he
      obtain ⟨zv, hzv, hzc⟩ := zeros_ok hz β
      have hr := h.alloc hsc (b := .r8 k.toNat (fun _ => z)) rfl (.cells ((Blk.r8 k.toNat (fun _ => z)).list.map (gs β)).toArray e) 0 ⟨e, heap_alloc_new w _⟩
      have hp2 := hr.put (d := dst) (v := .sc (.sl s.mem.length 0 l.toNat k.toNat)) (fr' := fr') hb
      have e1 : gv (more β s.mem.length w.heap.size 0) (.sc (.sl s.mem.length 0 l.toNat k.toNat)) = .slice (some ⟨w.heap.size, 0, none⟩) l.toNat k.toNat := by simp [gv, gs, more]
      rw [e1] at hp2
      have hsz : inf.size = 1 := Nat.eq_of_beq_eq_true b5
      have wk : IntKind.i64.wrap k = k := by
        simp only [IntKind.wrap, IntKind.bits, IntKind.signed]
        simp
        omega
      have wl : IntKind.i64.wrap l = l := by
        simp only [IntKind.wrap, IntKind.bits, IntKind.signed]
        simp
        omega
      have hmul : (inf.bytes : Int) * k ≤ 281474976710656 := by
        have h1 : (inf.bytes : Int) * k ≤ 1048576 * k := Int.mul_le_mul_of_nonneg_right (by omega) (by omega)
        omega
      have harr : (Array.range (k.toNat * 1)).map (fun x => (zv.cells)[x % zv.cells.size]!) = ((Blk.r8 k.toNat (fun _ => z)).list.map (gs β)).toArray := by
        rw [hzc]
        apply Array.ext
        · simp [Blk.list]
        · intro i h1 h2
          simp [Nat.mod_one, Blk.list]
      have hk0 : ¬ (k < 0) := by omega
      have hl0 : ¬ (l < 0) := by omega
      have hlk : ¬ (l > k) := by omega
      have hmul' : ¬ ((inf.bytes : Int) * k > 281474976710656) := by omega
      have hfin := hK _ _ _ hp2
      rw [← harr] at hfin
      simp only [execOp, Instr.makeSlice, ev_ok h.fr hl, ev_ok h.fr hk, gv, gs, asInt, asIntOf, Sem.run_bind, Sem.run_pure, Result.andThen_ok, run_underlying hu, typeInfo, sizeOf, run_program, hq, wk, wl]
      have hk1 : ¬ k.toNat = 0 := by omega
      simp [hk0, hl0, hlk, hmul', hk1, hzv, newRow, run_newObj, Oper.upon, hq, hsz]
      simpa using hfin
  case call cl =>
    split at he <;> (try simp only [reduceCtorEq] at he)
    · rename_i f hcal
      split at he <;> (try simp only [reduceCtorEq] at he)
      rename_i vs hvs
      split at he <;> (try simp only [reduceCtorEq] at he)
      rename_i r hwf
      cases hsf : s.fr.all (fun p => scV s.mem.length p.2) with
      | false => rw [hsf] at he; cases he
      | true =>
        rw [hsf] at he
        simp only [cond_true, Option.some.injEq] at he
        subst he
        obtain ⟨cal, args, ats⟩ := cl
        simp only at hcal
        subst hcal
        rw [run_call (hc.wgo f vs s.mem _ hwf)]
        simp only [Oper.upon]
        have ea : args.map a.eval = (vs.map (gv β)).toArray := by
          have := evs_ok h.fr hvs
          apply Array.ext'
          simpa using this
        rw [ea]
        refine (hc.w f vs s.mem v mem' ps hwf hp β w h.mem h.inj h.ro).mono ?_
        rintro e w' ⟨β', af, rfl⟩
        have hr : Rel c D n0 β0 w0 β' ⟨s.fr, mem'⟩ a w' := ⟨h.size, h.defers, fun d u hu => (h.fr d u hu).imp id fun h1 => by
            rw [gv_same af.old af.oldc af.row (List.all_eq_true.1 hsf _ (look_mem hu))]
            exact h1, af.cells, af.inj, Nat.le_trans h.lo af.len, fun g hg => (af.old g (Nat.lt_of_lt_of_le hg h.lo)).trans (h.old g hg), fun g hg => (af.oldc g (Nat.lt_of_lt_of_le hg h.lo)).trans (h.oldc g hg), af.row.trans h.row, h.bs,
          fun g m f hg => by
            obtain ⟨h1, h2, h3⟩ := h.ro g m f hg
            rw [Row.loc_same af.row g f]
            refine ⟨Nat.lt_of_lt_of_le h1 af.keep.size, fun g' hg' => ?_, fun j hj => ?_⟩
            · rcases Nat.lt_or_ge g' s.mem.length with h4 | h4
              · rw [af.old g' h4]
                exact h2 g' h4
              · have := af.new g' h4 hg'
                omega
            · have := h3 j hj
              unfold World.cell? at this ⊢
              rw [af.keep.block _ h1 (fun ⟨g', h4, h5⟩ => h2 g' h4 h5)]
              exact this,
          fun g h1 h2 => by
            rcases Nat.lt_or_ge g s.mem.length with h3 | h3
            · rw [af.old g h3]
              exact h.new g h1 h3
            · exact Nat.le_trans h.keep.size (af.new g h3 h2),
          h.keep.trans' af.keep (by
            rintro i hi ⟨g, hg, rfl⟩
            rcases Nat.lt_or_ge g n0 with h1 | h1
            · exact ⟨g, h1, (h.old g h1).symm⟩
            · have := h.new g h1 hg
              omega)⟩
        exact hK _ _ _ (hr.put hb)
    · rename_i hcal
      split at he <;> (try simp only [reduceCtorEq] at he)
      rename_i g off dl dc y dT sT hvs hat
      split at he <;> (try simp only [reduceCtorEq] at he)
      rename_i e hu
      split at he <;> (try simp only [reduceCtorEq] at he)
      · rename_i inf cs m f qs hq hcs hsrc
        cases hb1 : (Nat.beq inf.size 1 && Nat.ble (off + Nat.min m dl) cs.length) with
        | false => rw [hb1] at he; cases he
        | true =>
          rw [hb1] at he
          simp only [Bool.and_eq_true] at hb1
          obtain ⟨b1, b3⟩ := hb1
          simp only [cond_true, Option.some.injEq, Prod.mk.injEq] at he
          obtain ⟨rfl, rfl, rfl⟩ := he
          obtain ⟨cal, args, ats⟩ := cl
          simp only at hcal hvs hat
          subst hcal
          have b3' := Nat.le_of_ble_eq_true b3
          obtain ⟨ad, k, had, hcell⟩ := srcOf_ok h.mem h.ro hsrc hp
          obtain ⟨el, hel⟩ := h.mem g _ hcs
          have ea : args.map a.eval = #[.slice (some ⟨β g, off, none⟩) dl dc, .slice (some ad) m k] := by
            have := evs_ok h.fr hvs
            apply Array.ext'
            rw [Array.toList_map, this]
            show [gs β (.sl g off dl dc), gs β y] = _
            rw [had]
            rfl
          have eat : ats = #[dT, sT] := by apply Array.ext'; simpa using hat
          have hlen : (((List.range (Nat.min m dl)).map (fun j => SV.u8 (f j))).map (gs β)).length = Nat.min m dl := by simp
          have hrun := run_copy_row c.P w dT sT ty e (β g) off dl dc ad m k _ el (((List.range (Nat.min m dl)).map (fun j => SV.u8 (f j))).map (gs β)) hu (by simp [hq, Nat.eq_of_beq_eq_true b1]) hel hlen (fun j v hv => by
              have hj : j < Nat.min m dl := by
                have := (List.getElem?_eq_some_iff.1 hv).1
                rwa [hlen] at this
              rw [List.getElem?_map, range_at _ _ hj] at hv
              cases hv
              exact hcell j (Nat.lt_of_lt_of_le hj (Nat.min_le_left _ _))) (by rw [hlen]; simpa [Blk.list] using b3') (fun v hv => by
              obtain ⟨q, _, rfl⟩ := List.mem_map.1 hv
              exact gs_one β q)
          have ee : (List.take off ((Blk.cells cs).list.map (gs β)).toArray.toList ++ ((List.range (Nat.min m dl)).map (fun j => SV.u8 (f j))).map (gs β) ++ List.drop (off + (((List.range (Nat.min m dl)).map (fun j => SV.u8 (f j))).map (gs β)).length) ((Blk.cells cs).list.map (gs β)).toArray.toList) = (Blk.cells (cs.take off ++ (List.range (Nat.min m dl)).map (fun j => SV.u8 (f j)) ++ cs.drop (off + Nat.min m dl))).list.map (gs β) := by
            simp [Blk.list, List.map_take, List.map_drop]
          rw [ee, hlen] at hrun
          have hr := h.store (b' := .cells (cs.take off ++ (List.range (Nat.min m dl)).map (fun j => SV.u8 (f j)) ++ cs.drop (off + Nat.min m dl))) hcs rfl (cs := ((Blk.cells (cs.take off ++ (List.range (Nat.min m dl)).map (fun j => SV.u8 (f j)) ++ cs.drop (off + Nat.min m dl))).list.map (gs β)).toArray) ⟨el, setRow_heap w _ _ _ el _ hel⟩
          have hp' := hr.put (d := dst) (v := .sc (.i (Nat.min m dl : Nat))) (fr' := fr') hb
          simp only [execOp, resolve, ea, eat, Sem.run_bind, Sem.run_pure, Result.andThen_ok, invoke, builtin, hrun, Oper.upon]
          exact hK _ _ _ hp'
      · rename_i inf n f0 m f qs hq hcs hsrc
        cases hb1 : (Nat.beq inf.size 1 && Nat.ble (off + Nat.min m dl) n) with
        | false => rw [hb1] at he; cases he
        | true =>
          rw [hb1] at he
          simp only [Bool.and_eq_true] at hb1
          obtain ⟨b1, b3⟩ := hb1
          simp only [cond_true, Option.some.injEq, Prod.mk.injEq] at he
          obtain ⟨rfl, rfl, rfl⟩ := he
          obtain ⟨cal, args, ats⟩ := cl
          simp only at hcal hvs hat
          subst hcal
          have b3' := Nat.le_of_ble_eq_true b3
          obtain ⟨ad, k, had, hcell⟩ := srcOf_ok h.mem h.ro hsrc hp
          obtain ⟨el, hel⟩ := h.mem g _ hcs
          have ea : args.map a.eval = #[.slice (some ⟨β g, off, none⟩) dl dc, .slice (some ad) m k] := by
            have := evs_ok h.fr hvs
            apply Array.ext'
            rw [Array.toList_map, this]
            show [gs β (.sl g off dl dc), gs β y] = _
            rw [had]
            rfl
          have eat : ats = #[dT, sT] := by apply Array.ext'; simpa using hat
          have hlen : (((List.range (Nat.min m dl)).map (fun j => SV.u8 (f j))).map (gs β)).length = Nat.min m dl := by simp
          have hrun := run_copy_row c.P w dT sT ty e (β g) off dl dc ad m k _ el (((List.range (Nat.min m dl)).map (fun j => SV.u8 (f j))).map (gs β)) hu (by simp [hq, Nat.eq_of_beq_eq_true b1]) hel hlen (fun j v hv => by
              have hj : j < Nat.min m dl := by
                have := (List.getElem?_eq_some_iff.1 hv).1
                rwa [hlen] at this
              rw [List.getElem?_map, range_at _ _ hj] at hv
              cases hv
              exact hcell j (Nat.lt_of_lt_of_le hj (Nat.min_le_left _ _))) (by rw [hlen]; simpa [Blk.list] using b3') (fun v hv => by
              obtain ⟨q, _, rfl⟩ := List.mem_map.1 hv
              exact gs_one β q)
          have ee : (List.take off ((Blk.r8 n f0).list.map (gs β)).toArray.toList ++ ((List.range (Nat.min m dl)).map (fun j => SV.u8 (f j))).map (gs β) ++ List.drop (off + (((List.range (Nat.min m dl)).map (fun j => SV.u8 (f j))).map (gs β)).length) ((Blk.r8 n f0).list.map (gs β)).toArray.toList) = (Blk.r8 n (over off (Nat.min m dl) f0 f)).list.map (gs β) := by
            rw [hlen]
            have := congrArg (List.map (gs β)) (over_list b3' f0 f)
            rw [List.map_append, List.map_append, List.map_take, List.map_drop] at this
            exact this
          rw [ee, hlen] at hrun
          have hr := h.store (b' := .r8 n (over off (Nat.min m dl) f0 f)) hcs rfl (cs := ((Blk.r8 n (over off (Nat.min m dl) f0 f)).list.map (gs β)).toArray) ⟨el, setRow_heap w _ _ _ el _ hel⟩
          have hp' := hr.put (d := dst) (v := .sc (.i (Nat.min m dl : Nat))) (fr' := fr') hb
          simp only [execOp, resolve, ea, eat, Sem.run_bind, Sem.run_pure, Result.andThen_ok, invoke, builtin, hrun, Oper.upon]
          exact hK _ _ _ hp'
    · rename_i hcal
      split at he <;> (try simp only [reduceCtorEq] at he)
      rename_i g off dl dc y dT sT hvs hat
      split at he <;> (try simp only [reduceCtorEq] at he)
      rename_i e hu
      split at he <;> (try simp only [reduceCtorEq] at he)
      · rename_i inf n f0 m f qs hq hcs hsrc
        cases hb1 : (Nat.beq dT sT && Nat.beq inf.size 1 && Nat.beq off 0 && Nat.ble (dl + m) dc && Nat.ble (dl + m) n) with
        | false => rw [hb1] at he; cases he
        | true =>
          rw [hb1] at he
          simp only [Bool.and_eq_true] at hb1
          obtain ⟨⟨⟨⟨b1, b2⟩, b3⟩, b4⟩, b5⟩ := hb1
          simp only [cond_true, Option.some.injEq, Prod.mk.injEq] at he
          obtain ⟨rfl, rfl, rfl⟩ := he
          obtain ⟨cal, args, ats⟩ := cl
          simp only at hcal hvs hat
          subst hcal
          obtain rfl := Nat.eq_of_beq_eq_true b1
          obtain rfl := Nat.eq_of_beq_eq_true b3
          have b2' : inf.size = 1 := Nat.eq_of_beq_eq_true b2
          have b4' := Nat.le_of_ble_eq_true b4
          have b5' := Nat.le_of_ble_eq_true b5
          obtain ⟨ad, k, had, hcell⟩ := srcOf_ok h.mem h.ro hsrc hp
          obtain ⟨el, hel⟩ := h.mem g _ hcs
          have ea : args.map a.eval = #[.slice (some ⟨β g, 0, none⟩) dl dc, .slice (some ad) m k] := by
            have := evs_ok h.fr hvs
            apply Array.ext'
            rw [Array.toList_map, this]
            show [gs β (.sl g 0 dl dc), gs β y] = _
            rw [had]
            rfl
          have eat : ats = #[dT, dT] := by apply Array.ext'; simpa using hat
          have hlen : (((List.range m).map (fun j => SV.u8 (f j))).map (gs β)).length = m := by simp
          have hld := run_loadCells_list (P := c.P) w ad (((List.range m).map (fun j => SV.u8 (f j))).map (gs β)) (fun j v hv => by
              have hj : j < m := by
                have := (List.getElem?_eq_some_iff.1 hv).1
                rwa [hlen] at this
              rw [List.getElem?_map, range_at _ _ hj] at hv
              cases hv
              exact hcell j hj)
          rw [hlen] at hld
          have hst := run_storeCells_at c.P (β g) dl el (((List.range m).map (fun j => SV.u8 (f j))).map (gs β)) 0 _ w hel (by rw [hlen]; simpa [Blk.list] using b5') (fun v hv => by
              obtain ⟨q, _, rfl⟩ := List.mem_map.1 hv
              exact gs_one β q)
          have ee : (List.take (dl + 0) ((Blk.r8 n f0).list.map (gs β)).toArray.toList ++ ((List.range m).map (fun j => SV.u8 (f j))).map (gs β) ++ List.drop (dl + 0 + (((List.range m).map (fun j => SV.u8 (f j))).map (gs β)).length) ((Blk.r8 n f0).list.map (gs β)).toArray.toList) = (Blk.r8 n (over dl m f0 f)).list.map (gs β) := by
            rw [Nat.add_zero, hlen]
            have := congrArg (List.map (gs β)) (over_list b5' f0 f)
            rw [List.map_append, List.map_append, List.map_take, List.map_drop] at this
            exact this
          rw [ee] at hst
          have hr := h.store (b' := .r8 n (over dl m f0 f)) hcs rfl (cs := ((Blk.r8 n (over dl m f0 f)).list.map (gs β)).toArray) ⟨el, setRow_heap w _ _ _ el _ hel⟩
          have hp' := hr.put (d := dst) (v := .sc (.sl g 0 (dl + m) dc)) (fr' := fr') hb
          simp only [execOp, resolve, ea, eat, Sem.run_bind, Sem.run_pure, Result.andThen_ok, invoke, builtin]
          simp only [Builtin.append_, List.getElem?_toArray, List.getElem?_cons_zero, List.getElem?_cons_succ, run_underlying hu, sizeOf, typeInfo, run_program, hq, b2', Builtin.lenOf, Sem.run_bind, Sem.run_pure, Result.andThen_ok, Bool.false_eq_true, if_false, if_pos b4', Nat.mul_one, Bool.not_false, if_true, Builtin.firstCells, hld, Ev.add_addr, Nat.zero_add, hst, Oper.upon]
          exact hK _ _ _ hp'
      · rename_i inf cs m f qs hq hcs hsrc
        cases hb1 : (Nat.beq dT sT && Nat.beq inf.size 1 && Nat.ble (dl + m) dc && Nat.ble (off + dl + m) cs.length) with
        | false => rw [hb1] at he; cases he
        | true =>
          rw [hb1] at he
          simp only [Bool.and_eq_true] at hb1
          obtain ⟨⟨⟨b1, b2⟩, b4⟩, b5⟩ := hb1
          simp only [cond_true, Option.some.injEq, Prod.mk.injEq] at he
          obtain ⟨rfl, rfl, rfl⟩ := he
          obtain ⟨cal, args, ats⟩ := cl
          simp only at hcal hvs hat
          subst hcal
          obtain rfl := Nat.eq_of_beq_eq_true b1
          have b2' : inf.size = 1 := Nat.eq_of_beq_eq_true b2
          have b4' := Nat.le_of_ble_eq_true b4
          have b5' := Nat.le_of_ble_eq_true b5
          obtain ⟨ad, k, had, hcell⟩ := srcOf_ok h.mem h.ro hsrc hp
          obtain ⟨el, hel⟩ := h.mem g _ hcs
          have ea : args.map a.eval = #[.slice (some ⟨β g, off, none⟩) dl dc, .slice (some ad) m k] := by
            have := evs_ok h.fr hvs
            apply Array.ext'
            rw [Array.toList_map, this]
            show [gs β (.sl g off dl dc), gs β y] = _
            rw [had]
            rfl
          have eat : ats = #[dT, dT] := by apply Array.ext'; simpa using hat
          have hlen : (((List.range m).map (fun j => SV.u8 (f j))).map (gs β)).length = m := by simp
          have hld := run_loadCells_list (P := c.P) w ad (((List.range m).map (fun j => SV.u8 (f j))).map (gs β)) (fun j v hv => by
              have hj : j < m := by
                have := (List.getElem?_eq_some_iff.1 hv).1
                rwa [hlen] at this
              rw [List.getElem?_map, range_at _ _ hj] at hv
              cases hv
              exact hcell j hj)
          rw [hlen] at hld
          have hst := run_storeCells_at c.P (β g) (off + dl) el (((List.range m).map (fun j => SV.u8 (f j))).map (gs β)) 0 _ w hel (by rw [hlen]; simpa [Blk.list] using b5') (fun v hv => by
              obtain ⟨q, _, rfl⟩ := List.mem_map.1 hv
              exact gs_one β q)
          have ee : (List.take (off + dl + 0) ((Blk.cells cs).list.map (gs β)).toArray.toList ++ ((List.range m).map (fun j => SV.u8 (f j))).map (gs β) ++ List.drop (off + dl + 0 + (((List.range m).map (fun j => SV.u8 (f j))).map (gs β)).length) ((Blk.cells cs).list.map (gs β)).toArray.toList) = (Blk.cells (cs.take (off + dl) ++ (List.range m).map (fun j => .u8 (f j)) ++ cs.drop (off + dl + m))).list.map (gs β) := by
            simp [Blk.list, List.map_take, List.map_drop]
          rw [ee] at hst
          have hr := h.store (b' := .cells (cs.take (off + dl) ++ (List.range m).map (fun j => .u8 (f j)) ++ cs.drop (off + dl + m))) hcs rfl (cs := ((Blk.cells (cs.take (off + dl) ++ (List.range m).map (fun j => .u8 (f j)) ++ cs.drop (off + dl + m))).list.map (gs β)).toArray) ⟨el, setRow_heap w _ _ _ el _ hel⟩
          have hp' := hr.put (d := dst) (v := .sc (.sl g off (dl + m) dc)) (fr' := fr') hb
          simp only [execOp, resolve, ea, eat, Sem.run_bind, Sem.run_pure, Result.andThen_ok, invoke, builtin]
          simp only [Builtin.append_, List.getElem?_toArray, List.getElem?_cons_zero, List.getElem?_cons_succ, run_underlying hu, sizeOf, typeInfo, run_program, hq, b2', Builtin.lenOf, Sem.run_bind, Sem.run_pure, Result.andThen_ok, Bool.false_eq_true, if_false, if_pos b4', Nat.mul_one, Bool.not_false, if_true, Builtin.firstCells, hld, Ev.add_addr, hst, Oper.upon]
          exact hK _ _ _ hp'

/-! ### Rows of the call's own that grow -/
def noS (g : Nat) : SV → Bool
  | .ptr k _ => !Nat.beq k g
  | .xptr k _ => !Nat.beq k g
  | .sl k _ _ _ => !Nat.beq k g
  | .own k _ => !Nat.beq k g
  | .err k => !Nat.beq k g
  | _ => true
def noB (g : Nat) : Blk → Bool
  | .cells cs => cs.all (noS g)
  | .r8t _ _ tl => tl.all (noS g)
  | _ => true
def noV (g : Nat) : AV → Bool
  | .sc s => noS g s
  | .agg b => noB g b
  | .tup xs => xs.all (noS g)
  | .tupb b s => noB g b && noS g s
  | .junk => true
def upd (β : Env) (g k cap : Nat) : Env := ⟨fun x => if x = g then k else β x, β.r, fun x => if x = g then cap else β.c x⟩
theorem upd_ne (β : Env) {g k cap x : Nat} (h : x ≠ g) : upd β g k cap x = β x := by simp [upd, h]
theorem upd_nec (β : Env) {g k cap x : Nat} (h : x ≠ g) : (upd β g k cap).c x = β.c x := by simp [upd, h]
theorem upd_eq (β : Env) (g k cap : Nat) : upd β g k cap g = k := by simp [upd]
theorem upd_eqc (β : Env) (g k cap : Nat) : (upd β g k cap).c g = cap := by simp [upd]
theorem no_ne {k g : Nat} (h : (!Nat.beq k g) = true) : k ≠ g := by
  intro e
  subst e
  rw [Nat.beq_refl] at h
  cases h
theorem gs_upd {β : Env} {g k cap : Nat} {x : SV} (hx : noS g x = true) : gs (upd β g k cap) x = gs β x := by
  cases x <;> simp only [noS] at hx <;> simp only [gs]
  case ptr a off => rw [upd_ne β (no_ne hx)]
  case xptr a off => rw [upd_ne β (no_ne hx)]
  case sl a off len c => rw [upd_ne β (no_ne hx)]
  case own a len => rw [upd_ne β (no_ne hx), upd_nec β (no_ne hx)]
  case err a => rw [upd_ne β (no_ne hx)]
  all_goals rfl
theorem gss_upd {β : Env} {g k cap : Nat} {xs : List SV} (hx : xs.all (noS g) = true) : xs.map (gs (upd β g k cap)) = xs.map (gs β) :=
  List.map_congr_left fun x hm => gs_upd (List.all_eq_true.1 hx x hm)
theorem row_no (g : Nat) {m : Nat} {f : Nat → SV} (h : ∀ j, noS g (f j) = true) : ((List.range m).map f).all (noS g) = true := by
  rw [List.all_eq_true]
  intro x hx
  obtain ⟨j, _, rfl⟩ := List.mem_map.1 hx
  exact h j
theorem list_no {g : Nat} {b : Blk} (h : noB g b = true) : b.list.all (noS g) = true := by
  cases b with
  | cells cs => exact h
  | r8 m f => exact row_no g fun _ => rfl
  | r8t m f tl =>
    simp only [Blk.list, List.all_append, Bool.and_eq_true]
    exact ⟨row_no g fun _ => rfl, h⟩
  | r16 m f => exact row_no g fun _ => rfl
  | r64 m f => exact row_no g fun _ => rfl
  | ri m f => exact row_no g fun _ => rfl
  | own m f => rfl
  | dead => rfl
theorem gv_upd {β : Env} {g k cap : Nat} {x : AV} (hx : noV g x = true) : gv (upd β g k cap) x = gv β x := by
  cases x with
  | sc s => exact gs_upd hx
  | agg b => simp only [gv, gss_upd (list_no hx)]
  | tup xs => simp only [gv, gss_upd hx]
  | tupb b s =>
    simp only [noV, Bool.and_eq_true] at hx
    simp only [gv, gss_upd (list_no hx.1), gs_upd hx.2]
  | junk => rfl
theorem BlkOk.upd {β : Env} {g k cap : Nat} {b : Blk} (hb : noB g b = true) {kk cc : Nat} {w : World} (hk : BlkOk β b kk cc w) : BlkOk (Vc.upd β g k cap) b kk cc w := by
  have e := gss_upd (β := β) (k := k) (cap := cap) (list_no hb)
  cases b with
  | own m f => exact hk
  | dead => trivial
  | cells cs => obtain ⟨t, ht⟩ := hk; exact ⟨t, by rw [e]; exact ht⟩
  | r8 m f => obtain ⟨t, ht⟩ := hk; exact ⟨t, by rw [e]; exact ht⟩
  | r8t m f tl => obtain ⟨t, ht⟩ := hk; exact ⟨t, by rw [e]; exact ht⟩
  | r16 m f => obtain ⟨t, ht⟩ := hk; exact ⟨t, by rw [e]; exact ht⟩
  | r64 m f => obtain ⟨t, ht⟩ := hk; exact ⟨t, by rw [e]; exact ht⟩
  | ri m f => obtain ⟨t, ht⟩ := hk; exact ⟨t, by rw [e]; exact ht⟩
/-- A frame in which nothing tells of a block. -/
def away (g : Nat) (fr : List (Nat × AV)) : List (Nat × AV) := fr.map fun p => bif noV g p.2 then p else (p.1, .junk)
theorem look_away {g : Nat} : ∀ {fr : List (Nat × AV)} {d : Nat} {v : AV}, look (away g fr) d = some v → v = .junk ∨ (look fr d = some v ∧ noV g v = true)
  | [], d, v, h => by cases h
  | (k, u) :: r, d, v, h => by
    simp only [away, List.map_cons] at h
    cases hn : noV g u with
    | true =>
      rw [hn] at h
      simp only [cond_true, look] at h ⊢
      cases hk : Nat.beq k d with
      | true =>
        rw [hk] at h
        simp only [cond_true, Option.some.injEq] at h ⊢
        subst h
        exact .inr ⟨rfl, hn⟩
      | false =>
        rw [hk] at h
        exact look_away h
    | false =>
      rw [hn] at h
      simp only [cond_false, look] at h ⊢
      cases hk : Nat.beq k d with
      | true =>
        rw [hk] at h
        simp only [cond_true, Option.some.injEq] at h
        exact .inl h.symm
      | false =>
        rw [hk] at h
        exact look_away h

/-- A row of the call's own that is another one from now on, perhaps at another place. -/
theorem Rel.moved {c : Cfg} {D : List Deferred} {n0 : Nat} {β0 : Env} {w0 : World} {β : Env} {s : St} {a : Act} {w : World} (h : Rel c D n0 β0 w0 β s a w) {g n n' : Nat} {f0 f' : Nat → BitVec 8} (hg : s.mem[g]? = some (.own n f0)) (hbase : n0 ≤ g)
    (hno : s.mem.all (noB g) = true) {w' : World} {k' cap' : Nat} (hk : k' = β g ∨ k' = w.heap.size) (hbk : BlkOk β (.own n' f') k' cap' w') (hgr : w.grownBy w' (some (β g))) :
    Rel c D n0 β0 w0 (upd β g k' cap') ⟨away g s.fr, s.mem.set g (.own n' f')⟩ a w' := by
  have hlt : g < s.mem.length := (List.getElem?_eq_some_iff.1 hg).1
  have hgl : β g < w.heap.size := (h.mem g _ hg).lt rfl
  have split_ : ∀ {k : Nat} {x : Blk}, (s.mem.set g (.own n' f'))[k]? = some x → (k ≠ g ∧ s.mem[k]? = some x) ∨ (k = g ∧ x = .own n' f') := fun {k x} hk => by
    by_cases hkg : k = g
    · subst hkg
      rw [List.getElem?_set_self hlt] at hk
      simp only [Option.some.injEq] at hk
      exact .inr ⟨rfl, hk.symm⟩
    · rw [List.getElem?_set_ne (Ne.symm hkg)] at hk
      exact .inl ⟨hkg, hk⟩
  have hnew : w0.heap.size ≤ k' := by
    rcases hk with rfl | rfl
    · exact h.new g hbase hlt
    · exact h.keep.size
  refine ⟨h.size, h.defers, fun d v hv => ?_, fun k x hx => ?_, fun k1 k2 x1 x2 h1 h2 hl1 hl2 he => ?_, by simpa using h.lo, fun k hk0 => ?_, fun k hk0 => ?_, h.row, h.bs, fun k m f hkf => ?_, fun k h1 h2 => ?_, ?_⟩
  · rcases look_away hv with h1 | ⟨h1, h2⟩
    · exact .inl h1
    · exact (h.fr d v h1).imp id fun h3 => by rw [gv_upd h2]; exact h3
  · rcases split_ hx with ⟨hne, hx⟩ | ⟨rfl, rfl⟩
    · rw [upd_ne β hne, upd_nec β hne]
      refine BlkOk.upd (List.all_eq_true.1 hno x (List.mem_of_getElem? hx)) ?_
      have hkx := h.mem k x hx
      exact hkx.kept2 fun hl => hgr.block _ (hkx.lt hl) (fun e => hne (h.inj k g x _ hx hg hl rfl (Option.some.inj e)))
    · rw [upd_eq, upd_eqc]
      exact hbk
  · have other : ∀ {k : Nat} {x : Blk}, k ≠ g → s.mem[k]? = some x → x.live = true → β k ≠ k' := fun {k x} hne hx hl e => by
      rcases hk with rfl | rfl
      · exact hne (h.inj k g x _ hx hg hl rfl e)
      · exact absurd e (Nat.ne_of_lt ((h.mem k x hx).lt hl))
    rcases split_ h1 with ⟨hne1, h1⟩ | ⟨e1, e2⟩ <;> rcases split_ h2 with ⟨hne2, h2⟩ | ⟨e3, e4⟩
    · rw [upd_ne β hne1, upd_ne β hne2] at he
      exact h.inj k1 k2 x1 x2 h1 h2 hl1 hl2 he
    · rw [upd_ne β hne1, e3, upd_eq] at he
      exact absurd he (other hne1 h1 hl1)
    · rw [upd_ne β hne2, e1, upd_eq] at he
      exact absurd he.symm (other hne2 h2 hl2)
    · rw [e1, e3]
  · rw [upd_ne β (by omega)]
    exact h.old k hk0
  · rw [upd_nec β (by omega)]
    exact h.oldc k hk0
  · obtain ⟨h1, h2, h3⟩ := h.ro k m f hkf
    rw [Row.loc_same (β := β) (β' := upd β g k' cap') rfl k f]
    refine ⟨Nat.lt_of_lt_of_le h1 hgr.size, fun g' hg' => ?_, fun j hj => ?_⟩
    · by_cases hgg : g' = g
      · subst hgg
        rw [upd_eq]
        rcases hk with rfl | rfl
        · exact h2 g' hlt
        · omega
      · rw [upd_ne β hgg]
        exact h2 g' (by simpa using hg')
    · have := h3 j hj
      unfold World.cell? at this ⊢
      rw [hgr.block _ h1 (fun e => h2 g hlt (Option.some.inj e).symm)]
      exact this
  · by_cases hkg : k = g
    · subst hkg
      rw [upd_eq]
      exact hnew
    · rw [upd_ne β hkg]
      exact h.new k h1 (by simpa using h2)
  · refine h.keep.trans' (F := fun b => b = β g) ⟨hgr.os, hgr.tape, hgr.output, hgr.size, fun k hk1 hk2 => hgr.block k hk1 (fun e => hk2 (Option.some.inj e))⟩ ?_
    rintro i hi rfl
    have := h.new g hbase hlt
    omega

theorem own_append {P : Program} (w : World) {t ty : TypeId} {i : TypeInfo} {z : Value} (ht : P.underlying t = some (.slice 5)) (hi : P.info? 5 = some i) (hz : i.zero = some z)
    (hsize : i.size = 1) (hby : i.bytes = 1) (hzs : z.cells.size = 1) {k cap n : Nat} {xs : List Value} (hown : w.ownsRow 0 5 1 (.slice (some ⟨k, 0, none⟩) n cap) n xs)
    {a : Addr} {m c : Nat} {news : List Value} (hl : news.length = m) (hnews : ∀ j u, news[j]? = some u → w.cell? (a.add j) = some u) (h1 : ∀ u ∈ news, u.oneCell' = true) (h63 : n + m ≤ 1000000) :
    ∃ k' cap' w', (Builtin.append_ #[t, t] ty #[.slice (some ⟨k, 0, none⟩) n cap, .slice (some a) m c]).run P w = .ok (.slice (some ⟨k', 0, none⟩) (n + m) cap') w' ∧ (k' = k ∨ k' = w.heap.size) ∧
      w'.ownsRow 0 5 1 (.slice (some ⟨k', 0, none⟩) (n + m) cap') (n + m) (xs ++ news) ∧ w.grownBy w' (some k) := by
  have hlen : (xs ++ news).length = (n + m) * 1 := by rw [List.length_append, hown.1, hl]; omega
  have hl' : news.length = m * i.size := by rw [hl, hsize, Nat.mul_one]
  rcases hown.2 with ⟨hv, _⟩ | ⟨g, cap', cur, hv, hbg, hg, hnc, hcm, hcs, htake⟩
  · cases hv
  · cases hv
    by_cases hroom : n + m ≤ cap
    · have hfit : n * i.size + news.length ≤ cur.size := by rw [hl, hcs, hsize]; omega
      have hr := run_append_room (P := P) w t ty 5 i ht hi k n cap cur hg a m c news hl' hnews h1 hroom hfit
      refine ⟨k, cap, _, hr, .inl rfl, ⟨hlen, .inr ⟨k, cap, _, rfl, hbg, setRow_heap w k cur _ 5 _ hg, hroom, hcm, ?_, ?_⟩⟩, ⟨rfl, rfl, rfl, by simp, fun j _ hj => setRow_other w k j _ (fun e => hj (by rw [e]))⟩⟩
      · simp only [List.size_toArray, List.length_append, List.length_take, List.length_drop, Array.length_toList]
        rw [hsize] at hfit ⊢
        omega
      · rw [hsize, htake, ← hlen]
        exact List.take_left
    · have holds : ∀ j u, xs[j]? = some u → w.cell? ((⟨k, 0, none⟩ : Addr).add j) = some u := hown.cells (g := k) rfl
      have hxl : xs.length = n * i.size := by rw [hown.1, hsize]
      have hr := run_append_grow (P := P) w t ty 5 i z ht hi hz ⟨k, 0, none⟩ n cap xs hxl holds a m c news hl' hnews (by omega) (by omega) (growslice_fits (by omega) (by rw [hby]; omega))
      have hge := grownCap_ge w (n + m) cap 5
      have hcm : grownCap w (n + m) cap 5 ≤ maxLen := grownCap_le_maxLen w (n + m) cap 5 (by simp only [maxLen]; omega)
      refine ⟨_, _, _, hr, .inr rfl, ⟨hlen, .inr ⟨w.heap.size, _, _, rfl, Nat.zero_le _, heap_alloc_new w.drew _, hge, hcm, ?_, ?_⟩⟩, ⟨rfl, rfl, rfl, by simp, fun k hk _ => heap_alloc_old w.drew _ k hk⟩⟩
      · simp only [Array.size_append, List.size_toArray, size_zeroCells, hzs, hown.1, hl]
        omega
      · simp only [Array.toList_append, List.append_assoc]
        rw [← List.append_assoc, ← hlen]
        exact List.take_left

theorem cat_list (n m : Nat) (f g : Nat → BitVec 8) : ((List.range n).map fun j => Value.int .u8 ((f j).toNat : Int)) ++ ((List.range m).map fun j => Value.int .u8 ((g j).toNat : Int)) = (List.range (n + m)).map fun j => Value.int .u8 ((cat n f g j).toNat : Int) := by
  apply List.ext_getElem?
  intro j
  by_cases h1 : j < n
  · have hb : Nat.blt j n = true := by simpa [Nat.blt_eq] using h1
    rw [List.getElem?_append_left (by simpa using h1)]
    simp [cat, hb, h1, show j < n + m by omega]
  · have hb : Nat.blt j n = false := by cases hx : Nat.blt j n with | false => rfl | true => exact absurd (by simpa [Nat.blt_eq] using hx) h1
    rw [List.getElem?_append_right (by simp; omega)]
    by_cases h2 : j < n + m
    · simp [cat, hb, h2, show j - n < m by omega]
    · rw [List.getElem?_eq_none (by simp; omega), List.getElem?_eq_none (by simp; omega)]

/-- Bytes put behind a row of the call's own. -/
def evalA (c : Cfg) (s : St) (o : Oper) : Option (St × List Prop) :=
  match o.op, o.dst with
  | .call cl, some d => match cl.callee with
    | .builtin .append => match evs s cl.args.toList, cl.argTypes.toList with
      | some [.sc (.own g n), .sc y], [dT, sT] => match c.P.underlying dT, c.P.info? 5, s.mem[g]?, srcOf c s y with
        | some (.slice 5), some inf, some (.own n' f0), some (m, f, ps) => match inf.zero with
          | some z => bif Nat.beq dT sT && Nat.beq inf.size 1 && Nat.beq inf.bytes 1 && Nat.beq z.cells.size 1 && Nat.ble c.base g && s.mem.all (noB g) && Nat.blt d c.N then
              some (⟨(d, .sc (.own g (n + m))) :: away g s.fr, s.mem.set g (.own (n + m) (cat n f0 f))⟩, (n' = n) :: (n + m ≤ 1000000) :: ps) else none
          | none => none
        | _, _, _, _ => none
      | _, _ => none
    | _ => none
  | _, _ => none
theorem evalA_ok {c : Cfg} {D : List Deferred} {n0 : Nat} {β0 : Env} {w0 : World} {β : Env} {s : St} {a : Act} {w : World} (h : Rel c D n0 β0 w0 β s a w) {o : Oper} {s1 : St} {ps : List Prop}
    (he : evalA c s o = some (s1, ps)) (hp : All ps) {K : Act → World → Prop} {Q : Exit → Act → World → Prop} (hK : ∀ β' a' w', Rel c D n0 β0 w0 β' s1 a' w' → K a' w') : o.wp c.P a w K Q := by
  obtain ⟨dst, op, ty, pos, after, guard⟩ := o
  unfold Oper.wp
  simp only [evalA] at he
  split at he <;> (try simp only [reduceCtorEq] at he)
  rename_i cl d
  split at he <;> (try simp only [reduceCtorEq] at he)
  rename_i hcal
  split at he <;> (try simp only [reduceCtorEq] at he)
  rename_i g n y dT sT hvs hat
  split at he <;> (try simp only [reduceCtorEq] at he)
  rename_i inf n' f0 m f qs hu hq hg hsrc
  split at he <;> (try simp only [reduceCtorEq] at he)
  rename_i z hz
  cases hb1 : (Nat.beq dT sT && Nat.beq inf.size 1 && Nat.beq inf.bytes 1 && Nat.beq z.cells.size 1 && Nat.ble c.base g && s.mem.all (noB g) && Nat.blt d c.N) with
  | false => rw [hb1] at he; cases he
  | true =>
    rw [hb1] at he
    simp only [Bool.and_eq_true] at hb1
    obtain ⟨⟨⟨⟨⟨⟨b1, b2⟩, b3⟩, b4⟩, b5⟩, b6⟩, b7⟩ := hb1
    simp only [cond_true, Option.some.injEq, Prod.mk.injEq] at he
    obtain ⟨rfl, rfl⟩ := he
    obtain ⟨hn, h63, hp⟩ := hp
    subst hn
    obtain ⟨cal, args, ats⟩ := cl
    simp only at hcal hvs hat
    subst hcal
    obtain rfl := Nat.eq_of_beq_eq_true b1
    obtain ⟨ad, k, had, hcell⟩ := srcOf_ok h.mem h.ro hsrc hp
    have ea : args.map a.eval = #[.slice (some ⟨β g, 0, none⟩) n' (β.c g), .slice (some ad) m k] := by
      have := evs_ok h.fr hvs
      apply Array.ext'
      rw [Array.toList_map, this]
      show [gs β (.own g n'), gs β y] = _
      rw [had]
      rfl
    have eat : ats = #[dT, dT] := by apply Array.ext'; simpa using hat
    obtain ⟨k', cap', w', hrun, hk, hown, hgr⟩ := own_append (P := c.P) (ty := ty) w hu hq hz (Nat.eq_of_beq_eq_true b2) (Nat.eq_of_beq_eq_true b3) (Nat.eq_of_beq_eq_true b4) (h.mem g _ hg)
      (a := ad) (m := m) (c := k) (news := (List.range m).map fun j => Value.int .u8 ((f j).toNat : Int)) (by simp) (fun j u hj => by
        have hjm : j < m := by
          have := (List.getElem?_eq_some_iff.1 hj).1
          simpa using this
        rw [range_at _ _ hjm] at hj
        cases hj
        exact hcell j hjm) (fun u hu => by
        obtain ⟨q, _, rfl⟩ := List.mem_map.1 hu
        rfl) h63
    rw [cat_list] at hown
    have hr := h.moved (f' := cat n' f0 f) (n' := n' + m) hg (Nat.le_trans h.bs (Nat.le_of_ble_eq_true b5)) b6 hk hown hgr
    have hlt : d < a.tmps.size := by
      rw [h.size]
      exact Nat.le_of_ble_eq_true b7
    have hq2 := hr.put (d := some d) (v := .sc (.own g (n' + m))) (fr' := (d, .sc (.own g (n' + m))) :: away g s.fr) (by simp only [bind, b7, cond_true])
    have e1 : gv (upd β g k' cap') (.sc (.own g (n' + m))) = .slice (some ⟨k', 0, none⟩) (n' + m) cap' := by simp [gv, gs, upd]
    rw [e1] at hq2
    simp only [execOp, resolve, ea, eat, Sem.run_bind, Sem.run_pure, Result.andThen_ok, invoke, builtin, hrun, Oper.upon]
    exact hK _ _ _ hq2

/-! ### Regions and code -/
def runL (c : Cfg) (all : List Oper) : List Oper → St → Option (St × List Prop)
  | [], s => some (s, [])
  | o :: r, s => match want all s.fr o with
    | some true => match evalQ c s o with
      | some (v, ps) => match bind c.N o.dst v s.fr with
        | some fr' => match runL c all r ⟨fr', s.mem⟩ with
          | some (s2, qs) => some (s2, ps ++ qs)
          | none => none
        | none => none
      | none => match evalW c s o with
        | some (v, mem', ps) => match bind c.N o.dst v s.fr with
          | some fr' => match runL c all r ⟨fr', mem'⟩ with
            | some (s2, qs) => some (s2, ps ++ qs)
            | none => none
          | none => none
        | none => match evalA c s o with
          | some (s1, ps) => match runL c all r s1 with
            | some (s2, qs) => some (s2, ps ++ qs)
            | none => none
          | none => none
    | some false => match bind c.N o.dst .junk s.fr with
      | some fr' => runL c all r ⟨fr', s.mem⟩
      | none => none
    | none => none

theorem runL_ok {c : Cfg} (hc : c.Sound) {D : List Deferred} {n0 : Nat} {β0 : Env} {w0 : World} {ops : Array Oper} {Q : Exit → Act → World → Prop} :
    ∀ (l : List Oper) (s s' : St) (ps : List Prop), runL c ops.toList l s = some (s', ps) → All ps → ∀ β a w, Rel c D n0 β0 w0 β s a w → (∀ β' a' w', Rel c D n0 β0 w0 β' s' a' w' → Q .normal a' w') → wpList c.P ops Q l a w
  | [], s, s', ps, h, hp, β, a, w, hr, hQ => by
    cases h
    exact hQ β a w hr
  | o :: r, s, s', ps, h, hp, β, a, w, hr, hQ => by
    simp only [runL] at h
    split at h <;> (try simp only [reduceCtorEq] at h)
    · rename_i hgd
      unfold wpList
      rw [if_pos (want_ok hgd hr.fr)]
      refine .inl ?_
      split at h
      · rename_i v ps1 hv
        split at h <;> (try simp only [reduceCtorEq] at h)
        rename_i fr1 hb
        split at h <;> (try simp only [Option.some.injEq, Prod.mk.injEq, reduceCtorEq] at h)
        rename_i s2 qs h2
        obtain ⟨rfl, rfl⟩ := h
        obtain ⟨hp1, hp2⟩ := All.app hp
        refine Oper.wp_of_quiet (C := fun w' => ∃ n, w' = w.drewN n) (K := fun a' => a' = a.put o.dst (gv β v)) ⟨0, rfl⟩ (fun a' w' hw' ha' => ?_) ⟨gv β v, fun w' hw' => ?_, rfl⟩
        · obtain ⟨n, rfl⟩ := hw'
          subst ha'
          exact runL_ok hc r ⟨fr1, s.mem⟩ s2 qs h2 hp2 β _ _ ((hr.drewN n).put hb) hQ
        · obtain ⟨n, rfl⟩ := hw'
          exact evalQ_ok hc hr.fr hr.mem hr.inj hr.ro hv hp1 n
      · split at h
        · rename_i v mem' ps1 hv
          split at h <;> (try simp only [reduceCtorEq] at h)
          rename_i fr1 hb
          split at h <;> (try simp only [Option.some.injEq, Prod.mk.injEq, reduceCtorEq] at h)
          rename_i s2 qs h2
          obtain ⟨rfl, rfl⟩ := h
          obtain ⟨hp1, hp2⟩ := All.app hp
          exact evalW_ok hc hr hv hp1 hb fun β' a' w' hr' => runL_ok hc r ⟨fr1, mem'⟩ s2 qs h2 hp2 β' a' w' hr' hQ
        · split at h <;> (try simp only [reduceCtorEq] at h)
          rename_i s1 ps1 hv
          split at h <;> (try simp only [Option.some.injEq, Prod.mk.injEq, reduceCtorEq] at h)
          rename_i s2 qs h2
          obtain ⟨rfl, rfl⟩ := h
          obtain ⟨hp1, hp2⟩ := All.app hp
          exact evalA_ok hr hv hp1 fun β' a' w' hr' => runL_ok hc r s1 s2 qs h2 hp2 β' a' w' hr' hQ
    · rename_i hgd
      split at h <;> (try simp only [reduceCtorEq] at h)
      rename_i fr1 hb
      unfold wpList
      rw [if_neg (by rw [want_ok hgd hr.fr]; simp)]
      exact runL_ok hc r ⟨fr1, s.mem⟩ s' ps h hp β _ _ (hr.put (v := .junk) hb) hQ

def prune (fr : List (Nat × AV)) : Nat → List (Nat × AV)
  | 0 => []
  | k + 1 => match look fr k with
    | some v => (k, v) :: prune fr k
    | none => prune fr k
theorem look_prune {fr : List (Nat × AV)} : ∀ {k d : Nat} {v : AV}, look (prune fr k) d = some v → look fr d = some v
  | 0, d, v, h => by cases h
  | k + 1, d, v, h => by
    simp only [prune] at h
    split at h
    · rename_i u hu
      simp only [look] at h
      cases hk : Nat.beq k d with
      | true =>
        rw [hk] at h
        obtain rfl := Nat.eq_of_beq_eq_true hk
        simp only [cond_true] at h
        exact hu.trans h
      | false =>
        rw [hk] at h
        exact look_prune h
    · exact look_prune h
def only (fr : List (Nat × AV)) : List Nat → List (Nat × AV)
  | [] => []
  | k :: r => match look fr k with
    | some v => (k, v) :: only fr r
    | none => only fr r
theorem look_only {fr : List (Nat × AV)} : ∀ {ks : List Nat} {d : Nat} {v : AV}, look (only fr ks) d = some v → look fr d = some v
  | [], d, v, h => by cases h
  | k :: r, d, v, h => by
    simp only [only] at h
    split at h
    · rename_i u hu
      simp only [look] at h
      cases hk : Nat.beq k d with
      | true =>
        rw [hk] at h
        obtain rfl := Nat.eq_of_beq_eq_true hk
        simp only [cond_true] at h
        exact hu.trans h
      | false =>
        rw [hk] at h
        exact look_only h
    · exact look_only h

def regionQ (c : Cfg) (K : Nat) (ops : Array Oper) (s : St) : Option (St × List Prop) :=
  match runQ c s.mem ops.toList ops.toList s.fr with
  | some (fr', ps) => bif Region.lexB .any ops then some (⟨prune fr' K, s.mem⟩, ps) else none
  | none => none
def regionT (c : Cfg) (K : Nat) (ops : Array Oper) (n : Nat) (s : St) : Option (St × List Prop) :=
  match runQ c s.mem ops.toList (ops.toList.take n) s.fr with
  | some (fr', ps) => match runL c ops.toList (ops.toList.drop n) ⟨fr', s.mem⟩ with
    | some (s', qs) => bif Region.lexTailB .any ops n then some (⟨prune s'.fr K, s'.mem⟩, ps ++ qs) else none
    | none => none
  | none => none
/-! ### A region in which a call stands amid operations that look at nothing -/
def dstsOf : List Oper → Option (List Nat)
  | [] => some []
  | o :: r => match o.dst, o.guard, dstsOf r with
    | some d, none, some ds => some (d :: ds)
    | _, _, _ => none
theorem dstsOf_spec : ∀ {l : List Oper} {ds : List Nat}, dstsOf l = some ds → ds.length = l.length ∧ ∀ (i : Nat) (o : Oper), l[i]? = some o → ∃ d, ds[i]? = some d ∧ o.dst = some d ∧ o.guard = none
  | [], ds, h => by cases h; exact ⟨rfl, fun i o hi => by simp at hi⟩
  | o :: r, ds, h => by
    simp only [dstsOf] at h
    split at h <;> (try simp only [Option.some.injEq, reduceCtorEq] at h)
    rename_i d ds' h1 h2 h3
    subst h
    obtain ⟨e1, e2⟩ := dstsOf_spec h3
    refine ⟨by simp [e1], fun i o' hi => ?_⟩
    match i, hi with
    | 0, hi =>
      simp only [List.getElem?_cons_zero, Option.some.injEq] at hi
      subst hi
      exact ⟨d, rfl, h1, h2⟩
    | i + 1, hi => exact e2 i o' (by simpa using hi)
/-- What an operation waits for. -/
def depsOf (o : Oper) : List Nat := (o.after.toList.filter (fun e => Region.binds .any e)).map (·.on)
def depFr (dsts : List Nat) (vals : List AV) : List Nat → List (Nat × AV)
  | [] => []
  | i :: r => match dsts[i]?, vals[i]? with
    | some d, some v => (d, v) :: depFr dsts vals r
    | _, _ => depFr dsts vals r
theorem depFr_look {dsts : List Nat} {vals : List AV} {fr0 : List (Nat × AV)} : ∀ {l : List Nat} {d : Nat} {v : AV}, look (depFr dsts vals l ++ fr0) d = some v → (∃ i : Nat, i ∈ l ∧ dsts[i]? = some d ∧ vals[i]? = some v) ∨ look fr0 d = some v
  | [], d, v, h => .inr h
  | i :: r, d, v, h => by
    simp only [depFr] at h
    split at h
    · rename_i d' v' h1 h2
      simp only [List.cons_append, look] at h
      cases hk : Nat.beq d' d with
      | true =>
        rw [hk] at h
        simp only [cond_true, Option.some.injEq] at h
        obtain rfl := Nat.eq_of_beq_eq_true hk
        subst h
        exact .inl ⟨i, List.mem_cons_self, h1, h2⟩
      | false =>
        rw [hk] at h
        rcases depFr_look (l := r) h with ⟨j, h3, h4⟩ | h3
        · exact .inl ⟨j, List.mem_cons_of_mem _ h3, h4⟩
        · exact .inr h3
    · rcases depFr_look (l := r) h with ⟨j, h3, h4⟩ | h3
      · exact .inl ⟨j, List.mem_cons_of_mem _ h3, h4⟩
      · exact .inr h3
theorem depFr_take {dsts : List Nat} {vals : List AV} {n : Nat} : ∀ {l : List Nat}, (∀ d ∈ l, d < n) → depFr dsts (vals.take n) l = depFr dsts vals l
  | [], _ => rfl
  | i :: r, h => by
    have h1 := h i List.mem_cons_self
    simp only [depFr, List.getElem?_take_of_lt h1, depFr_take (l := r) fun d hd => h d (List.mem_cons_of_mem _ hd)]
def bare (c : Cfg) : Cfg := ⟨c.P, c.N, c.ch, [], c.base, c.sym, fun _ _ _ => none, fun _ _ _ => none⟩
def runS (c : Cfg) (fr0 : List (Nat × AV)) (dsts : List Nat) : List Oper → List AV → Option (List AV × List Prop)
  | [], acc => some (acc, [])
  | o :: r, acc => match evalR (bare c) ⟨depFr dsts acc (depsOf o) ++ fr0, []⟩ o with
    | some (v, ps) => match runS c fr0 dsts r (acc ++ [v]) with
      | some (vals, qs) => some (vals, ps ++ qs)
      | none => none
    | none => none
theorem runS_spec {c : Cfg} {fr0 : List (Nat × AV)} {dsts : List Nat} : ∀ {l : List Oper} {acc vals : List AV} {ps : List Prop}, runS c fr0 dsts l acc = some (vals, ps) → All ps →
    ∃ t, vals = acc ++ t ∧ t.length = l.length ∧ ∀ (j : Nat) (o : Oper), l[j]? = some o → ∃ v qs, vals[acc.length + j]? = some v ∧ evalR (bare c) ⟨depFr dsts (vals.take (acc.length + j)) (depsOf o) ++ fr0, []⟩ o = some (v, qs) ∧ All qs
  | [], acc, vals, ps, h, hp => by cases h; exact ⟨[], by simp, rfl, fun j o hj => by simp at hj⟩
  | o :: r, acc, vals, ps, h, hp => by
    simp only [runS] at h
    split at h <;> (try simp only [reduceCtorEq] at h)
    rename_i v ps1 h1
    split at h <;> (try simp only [Option.some.injEq, Prod.mk.injEq, reduceCtorEq] at h)
    rename_i vals' qs h2
    obtain ⟨rfl, rfl⟩ := h
    obtain ⟨hp1, hp2⟩ := All.app hp
    obtain ⟨t, e1, e2, e3⟩ := runS_spec h2 hp2
    refine ⟨v :: t, by rw [e1]; simp, by simp [e2], fun j o' hj => ?_⟩
    match j, hj with
    | 0, hj =>
      simp only [List.getElem?_cons_zero, Option.some.injEq] at hj
      subst hj
      refine ⟨v, ps1, by rw [e1]; simp, ?_, hp1⟩
      have : vals'.take (acc.length + 0) = acc := by rw [e1]; simp
      rw [this]
      exact h1
    | j + 1, hj =>
      obtain ⟨v', qs', h3, h4, h5⟩ := e3 j o' (by simpa using hj)
      have : (acc ++ [v]).length + j = acc.length + (j + 1) := by simp; omega
      rw [this] at h3 h4
      exact ⟨v', qs', h3, h4, h5⟩
def callS (c : Cfg) (fr0 : List (Nat × AV)) (dsts : List Nat) (acc : List AV) (mem : List Blk) (o : Oper) : Option (AV × List Blk × List Prop) := match o.op with
  | .call cl => match cl.callee with
    | .value (.func f) => match evs ⟨depFr dsts acc (depsOf o) ++ fr0, []⟩ cl.args.toList with
      | some vs => c.wf f vs mem
      | none => none
    | _ => none
  | _ => none
def postsOf (k : Nat) : List Oper → Nat → List Bool → List Bool
  | [], _, acc => acc
  | o :: r, i, acc => postsOf k r (i + 1) (acc ++ [Nat.beq i k || (depsOf o).any (fun d => acc.getD d false)])
def chkS (l : List Oper) (n k m : Nat) (posts : List Bool) (vals : List AV) : Bool := (List.range n).all fun i => match l[i]?, vals[i]? with
  | some o, some v => (scV m v || posts.getD i false) && (!posts.getD i false || Nat.beq i k || (depsOf o).any (fun d => posts.getD d false)) && (depsOf o).all (fun d => Nat.blt d i)
  | _, _ => false
def distinct : List Nat → Bool
  | [] => true
  | d :: r => r.all (fun x => !Nat.beq d x) && distinct r
theorem distinct_spec : ∀ {l : List Nat}, distinct l = true → ∀ {i j d : Nat}, l[i]? = some d → l[j]? = some d → i = j
  | x :: r, h, i, j, d, hi, hj => by
    simp only [distinct, Bool.and_eq_true] at h
    have no : ∀ {t : Nat}, r[t]? = some x → False := fun {t} ht => by
      have := List.all_eq_true.1 h.1 x (List.mem_of_getElem? ht)
      rw [Nat.beq_refl] at this
      cases this
    match i, j, hi, hj with
    | 0, 0, _, _ => rfl
    | 0, j + 1, hi, hj =>
      simp only [List.getElem?_cons_zero, Option.some.injEq] at hi
      subst hi
      exact absurd (by simpa using hj) no
    | i + 1, 0, hi, hj =>
      simp only [List.getElem?_cons_zero, Option.some.injEq] at hj
      subst hj
      exact absurd (by simpa using hi) no
    | i + 1, j + 1, hi, hj => rw [distinct_spec h.2 (i := i) (j := j) (by simpa using hi) (by simpa using hj)]
def canon (size n : Nat) : Array Bool := ((List.range size).map (fun i => Nat.blt i n)).toArray
def zipFr : List Nat → List AV → List (Nat × AV)
  | d :: ds, v :: vs => (d, v) :: zipFr ds vs
  | _, _ => []
theorem zipFr_look {fr0 : List (Nat × AV)} : ∀ {ds : List Nat} {vs : List AV} {d : Nat} {v : AV}, look (zipFr ds vs ++ fr0) d = some v → (∃ i : Nat, ds[i]? = some d ∧ vs[i]? = some v) ∨ look fr0 d = some v
  | [], _, d, v, h => .inr h
  | d' :: ds, [], d, v, h => .inr h
  | d' :: ds, v' :: vs, d, v, h => by
    simp only [zipFr, List.cons_append, look] at h
    cases hk : Nat.beq d' d with
    | true =>
      rw [hk] at h
      simp only [cond_true, Option.some.injEq] at h
      obtain rfl := Nat.eq_of_beq_eq_true hk
      subst h
      exact .inl ⟨0, rfl, rfl⟩
    | false =>
      rw [hk] at h
      rcases zipFr_look h with ⟨i, h1, h2⟩ | h1
      · exact .inl ⟨i + 1, by simpa using h1, by simpa using h2⟩
      · exact .inr h1
/-- Of a frame the slots that are not in a list. -/
def besides (ds : List Nat) (fr : List (Nat × AV)) : List (Nat × AV) := fr.filter fun p => !(ds.any fun d => Nat.beq d p.1)
theorem besides_look {ds : List Nat} : ∀ {fr : List (Nat × AV)} {d : Nat} {v : AV}, look (besides ds fr) d = some v → look fr d = some v ∧ ¬ d ∈ ds
  | [], d, v, h => by cases h
  | (k, u) :: r, d, v, h => by
    simp only [besides, List.filter_cons] at h
    cases hn : ds.any fun x => Nat.beq x k with
    | true =>
      rw [hn] at h
      simp only [Bool.not_true, Bool.false_eq_true, if_false] at h
      obtain ⟨h1, h2⟩ := besides_look (fr := r) h
      refine ⟨?_, h2⟩
      simp only [look]
      cases hk : Nat.beq k d with
      | true =>
        obtain rfl := Nat.eq_of_beq_eq_true hk
        obtain ⟨x, hx, hxk⟩ := List.any_eq_true.1 hn
        obtain rfl := Nat.eq_of_beq_eq_true hxk
        exact absurd hx h2
      | false => exact h1
    | false =>
      rw [hn] at h
      simp only [Bool.not_false, if_true, look] at h ⊢
      cases hk : Nat.beq k d with
      | true =>
        rw [hk] at h
        obtain rfl := Nat.eq_of_beq_eq_true hk
        refine ⟨h, fun hm => ?_⟩
        have : (ds.any fun x => Nat.beq x k) = true := List.any_eq_true.2 ⟨k, hm, Nat.beq_refl k⟩
        rw [hn] at this
        cases this
      | false =>
        rw [hk] at h
        exact besides_look (fr := r) h
def cnt (listed : Array Bool) : Nat → Nat
  | 0 => 0
  | n + 1 => cnt listed n + (bif listed.getD n true then 0 else 1)
theorem cnt_far {listed : Array Bool} {i : Nat} : ∀ {n : Nat}, n ≤ i → cnt (listed.setIfInBounds i true) n = cnt listed n
  | 0, _ => rfl
  | n + 1, h => by
    have h1 : n ≤ i := by omega
    have h2 : i ≠ n := by omega
    simp only [cnt]
    rw [cnt_far h1, getD_set_ne true h2]
theorem cnt_set {listed : Array Bool} {i : Nat} (hi : listed.getD i true = false) : ∀ {n : Nat}, i < n → cnt (listed.setIfInBounds i true) n + 1 = cnt listed n
  | n + 1, h => by
    have hs : i < listed.size := by
      rcases Nat.lt_or_ge i listed.size with h1 | h1
      · exact h1
      · simp [Array.getElem?_eq_none h1] at hi
    simp only [cnt]
    by_cases hin : i = n
    · subst hin
      rw [cnt_far (Nat.le_refl i), hi]
      have : (listed.setIfInBounds i true).getD i true = true := by simp [hs]
      rw [this]
      rfl
    · rw [getD_set_ne true hin]
      have := cnt_set hi (n := n) (by omega)
      omega
theorem cnt_zero {listed : Array Bool} : ∀ {n : Nat}, cnt listed n = 0 → ∀ i, i < n → listed.getD i true = true
  | n + 1, h, i, hi => by
    simp only [cnt] at h
    by_cases hin : i = n
    · subst hin
      cases hb : listed.getD i true with
      | true => rfl
      | false => rw [hb] at h; simp at h
    · exact cnt_zero (n := n) (by omega) i (by omega)
theorem cnt_pos {listed : Array Bool} : ∀ {n : Nat}, 0 < cnt listed n → ∃ i, i < n ∧ listed.getD i true = false ∧ ∀ j, j < i → listed.getD j true = true
  | n + 1, h => by
    by_cases h1 : 0 < cnt listed n
    · obtain ⟨i, h2, h3⟩ := cnt_pos h1
      exact ⟨i, by omega, h3⟩
    · refine ⟨n, by omega, ?_, fun j hj => cnt_zero (n := n) (by omega) j hj⟩
      simp only [cnt] at h
      cases hb : listed.getD n true with
      | false => rfl
      | true => rw [hb] at h; simp at h; omega

section
variable {c : Cfg} {D : List Deferred} {n0 : Nat} {β0 : Env} {w0 : World} {ops : Array Oper} {Q : Exit → Act → World → Prop} {n nd k : Nat} {dsts : List Nat} {vals : List AV} {posts : List Bool} {fr0 : List (Nat × AV)}
/-- What is known of a frame while the region runs. -/
structure Going (c : Cfg) (D : List Deferred) (n : Nat) (dsts : List Nat) (vals : List AV) (fr0 : List (Nat × AV)) (γ : Env) (listed : Array Bool) (a : Act) : Prop where
  size : a.tmps.size = c.N
  defers : a.defers = D
  told : ∀ i d v, i < n → listed.getD i false = true → dsts[i]? = some d → vals[i]? = some v → v = .junk ∨ a.tmps[d]? = some (gv γ v)
  fr : FrOk γ fr0 a.tmps
theorem Going.put {γ : Env} {listed : Array Bool} {a : Act} (h : Going c D n dsts vals fr0 γ listed a) (hdis : distinct dsts = true) (hN : dsts.all (fun d => Nat.blt d c.N) = true) (hfr0 : ∀ d v, look fr0 d = some v → ¬ d ∈ dsts)
    {i d : Nat} {v : AV} (hd : dsts[i]? = some d) (hv : vals[i]? = some v) : Going c D n dsts vals fr0 γ (listed.setIfInBounds i true) (a.put (some d) (gv γ v)) := by
  have hdN : d < a.tmps.size := by
    rw [h.size]
    have := List.all_eq_true.1 hN d (List.mem_of_getElem? hd)
    simpa [Nat.blt_eq] using this
  refine ⟨by simp [Act.put, h.size], h.defers, fun j d' v' hj hl hd' hv' => ?_, fun x u hx => ?_⟩
  · by_cases hij : i = j
    · subst hij
      rw [hd] at hd'
      rw [hv] at hv'
      cases hd'
      cases hv'
      exact .inr (by simp [Act.put, hdN])
    · have hne : d ≠ d' := fun e => hij (distinct_spec hdis hd (by rw [e]; exact hd'))
      rw [getD_set_ne false hij] at hl
      refine (h.told j d' v' hj hl hd' hv').imp id fun h1 => ?_
      simp only [Act.put]
      rw [Array.getElem?_setIfInBounds_ne hne]
      exact h1
  · have hne : d ≠ x := fun e => hfr0 x u hx (by rw [← e]; exact List.mem_of_getElem? hd)
    refine (h.fr x u hx).imp id fun h1 => ?_
    simp only [Act.put]
    rw [Array.getElem?_setIfInBounds_ne hne]
    exact h1
theorem Going.deps {γ : Env} {listed : Array Bool} {a : Act} (h : Going c D n dsts vals fr0 γ listed a) {l : List Nat} (hl : ∀ j ∈ l, j < n ∧ listed.getD j false = true) : FrOk γ (depFr dsts vals l ++ fr0) a.tmps := fun d v hv => by
  rcases depFr_look hv with ⟨i, h1, h2, h3⟩ | h1
  · exact h.told i d v (hl i h1).1 (hl i h1).2 h2 h3
  · exact h.fr d v h1
theorem ready_deps {listed : Array Bool} {i : Nat} {o : Oper} (hi : i ∈ Region.ready .any ops listed) (ho : ops[i]? = some o) : ∀ j ∈ depsOf o, listed.getD j false = true := fun j hj => by
  obtain ⟨_, o', ho', hall⟩ := mem_ready.1 hi
  obtain rfl : o' = o := Option.some.inj (ho'.symm.trans ho)
  simp only [depsOf, List.mem_map, List.mem_filter] at hj
  obtain ⟨e, ⟨he, hb⟩, rfl⟩ := hj
  exact hall e (by simpa using he) hb
theorem ready_first {listed : Array Bool} (hinv : HeadInv .any ops n listed) (hnlt : n < ops.size) (hdep : ∀ i o, i < n → ops[i]? = some o → ∀ j ∈ depsOf o, j < i) (h : 0 < cnt listed n) : Region.ready .any ops listed ≠ [] := by
  obtain ⟨i, h1, h2, h3⟩ := cnt_pos h
  have hi : i ∈ Region.ready .any ops listed := mem_ready.2 ⟨h2, ops[i]'(by omega), by simp [show i < ops.size by omega], fun e he hb => by
    have hj := hdep i (ops[i]'(by omega)) h1 (by simp [show i < ops.size by omega]) e.on (by
      simp only [depsOf, List.mem_map, List.mem_filter]
      exact ⟨e, ⟨by simpa using he, hb⟩, rfl⟩)
    have := h3 e.on hj
    have hs : e.on < listed.size := by rw [hinv.size]; omega
    simpa [hs] using this⟩
  intro h0
  rw [h0] at hi
  cases hi
theorem canon_of {listed : Array Bool} (hinv : HeadInv .any ops n listed) (h : cnt listed n = 0) : listed = canon ops.size n := by
  apply Array.ext
  · simp [canon, hinv.size]
  · intro i h1 h2
    have h3 : i < ops.size := by rw [← hinv.size]; exact h1
    simp only [canon, List.getElem_toArray, List.getElem_map, List.getElem_range]
    by_cases hi : i < n
    · have := cnt_zero h i hi
      have e : Nat.blt i n = true := by simpa [Nat.blt_eq] using hi
      rw [e]
      simpa [h1] using this
    · have := hinv.tail i (by omega) h3
      have e : Nat.blt i n = false := by
        cases hb : Nat.blt i n with
        | false => rfl
        | true => exact absurd (by simpa [Nat.blt_eq] using hb) hi
      rw [e]
      simpa [h1] using this

/-- What the checks of the region have shown; nd: the operations that look at nothing, and the call; behind them, before n, a store perhaps. -/
structure Shown (c : Cfg) (ops : Array Oper) (n nd k m : Nat) (dsts : List Nat) (vals : List AV) (posts : List Bool) (fr0 : List (Nat × AV)) : Prop where
  sink : Region.sinkB .any ops n = true
  chain : Region.chainB .any ops n = true
  nlt : n < ops.size
  ndn : nd ≤ n
  seq : Region.seqB .any ops (ops.size - n) n (canon ops.size n) = true
  dis : distinct dsts = true
  inN : dsts.all (fun d => Nat.blt d c.N) = true
  apart : ∀ d v, look fr0 d = some v → ¬ d ∈ dsts
  dst : ∀ i o, i < nd → ops[i]? = some o → ∃ d, dsts[i]? = some d ∧ o.dst = some d ∧ o.guard = none
  dep : ∀ i o, i < n → ops[i]? = some o → ∀ j ∈ depsOf o, j < i
  val : ∀ i o, i < nd → i ≠ k → ops[i]? = some o → ∃ v qs, vals[i]? = some v ∧ evalR (bare c) ⟨depFr dsts vals (depsOf o) ++ fr0, []⟩ o = some (v, qs) ∧ All qs
  scope : ∀ i v, i < nd → vals[i]? = some v → scV m v = true ∨ posts.getD i false = true
  post : ∀ i o, i < nd → ops[i]? = some o → posts.getD i false = true → i = k ∨ ∃ d ∈ depsOf o, posts.getD d false = true
  scope0 : fr0.all (fun p => scV m p.2) = true
theorem pure_wp {γ : Env} {a : Act} {w : World} {o : Oper} {fr : List (Nat × AV)} {v : AV} {qs : List Prop} (hf : FrOk γ fr a.tmps) (he : evalR (bare c) ⟨fr, []⟩ o = some (v, qs)) (hq : All qs) {K : Act → World → Prop} {Q : Exit → Act → World → Prop} (hK : K (a.put o.dst (gv γ v)) w) : o.wp c.P a w K Q := by
  refine Oper.wp_of_quiet (C := fun w' => w' = w) (K := fun a' => a' = a.put o.dst (gv γ v)) rfl (fun a' w' hw' ha' => ?_) ⟨gv γ v, fun w' hw' => ?_, rfl⟩
  · subst hw'
    subst ha'
    exact hK
  · unfold Oper.quietAt
    have e := evalR_ok (c := bare c) (s := ⟨fr, []⟩) (β := γ) (w := w') hf (fun g b h => by simp at h) (nr := 0) (fun g m r h => by simp [bare] at h) he hq
    have e' : (execOp a.eval o).run c.P w' = .ok (.value (gv γ v)) w' := e
    rw [e']
    exact ⟨rfl, rfl⟩
theorem postS {m : Nat} (hS : Shown c ops n nd k m dsts vals posts fr0) {γ : Env} {w2 : World} (hL : ∀ a, Going c D nd dsts vals fr0 γ (canon ops.size n) a → wpList c.P ops Q (ops.toList.drop n) a w2) :
    ∀ (f : Nat) (listed : Array Bool) (a : Act), cnt listed n = f → HeadInv .any ops n listed → listed.getD k true = true → (∀ i, nd ≤ i → i < n → listed.getD i true = true) → Going c D nd dsts vals fr0 γ listed a → wpAny c.P .any ops Q (f + (ops.size - n)) listed a w2
  | 0, listed, a, hc, hinv, hk, hst, hg => by
    obtain rfl := canon_of hinv hc
    rw [Nat.zero_add]
    have := wpAny_of_seq (P := c.P) (md := .any) (ops := ops) (Q' := Q) (ops.toList.drop n) n (canon ops.size n) a w2 (fun j => by simp [List.getElem?_drop]) (by simpa using hS.seq) (hL a hg)
    simpa using this
  | f + 1, listed, a, hc, hinv, hk, hst, hg => by
    rw [show f + 1 + (ops.size - n) = (f + (ops.size - n)) + 1 by omega]
    refine ⟨fun h0 => absurd h0 (ready_first hinv hS.nlt hS.dep (by omega)), fun i hi => ?_⟩
    have hun := (mem_ready.1 hi).1
    obtain ⟨i0, h1, h2, _⟩ := cnt_pos (show 0 < cnt listed n by omega)
    have hin : i < n := Nat.lt_of_not_le fun h => tail_waits hS.sink hS.chain hS.nlt hinv _ i0 rfl h1 h2 i h hi
    have hnd : i < nd := Nat.lt_of_not_le fun h => by rw [hst i h hin] at hun; cases hun
    have hik : i ≠ k := fun e => by rw [e, hk] at hun; cases hun
    obtain ⟨o, ho⟩ : ∃ o, ops[i]? = some o := ⟨ops[i]'(by have := hS.nlt; omega), by simp [show i < ops.size by have := hS.nlt; omega]⟩
    obtain ⟨d, hd, hd2, hgd⟩ := hS.dst i o hnd ho
    obtain ⟨v, qs, hv, he, hq⟩ := hS.val i o hnd hik ho
    unfold wpOp
    simp only [ho]
    rw [if_pos (by simp [Region.wanted, hgd])]
    refine .inl (pure_wp (hg.deps fun j hj => ⟨Nat.lt_trans (hS.dep i o hin ho j hj) hnd, ready_deps hi ho j hj⟩) he hq ?_)
    rw [hd2]
    refine postS hS hL f _ _ ?_ (hinv.set hi hin) ?_ (fun j h3 h4 => ?_) (hg.put hS.dis hS.inN hS.apart hd hv)
    · have := cnt_set hun hin
      omega
    · rw [getD_set_ne true hik]
      exact hk
    · rw [getD_set_ne true (show i ≠ j by omega)]
      exact hst j h3 h4
/-- The same with a store that has not come yet. -/
theorem midS {m : Nat} (hS : Shown c ops n nd k m dsts vals posts fr0) (hn : n = nd + 1) {γ : Env} {w2 : World} {o : Oper} (ho : ops[nd]? = some o) (hod : o.dst = none) (hogd : o.guard = none) (hokk : k ∈ depsOf o) {R : World → Prop}
    (hstore : ∀ a, FrOk γ (depFr dsts vals (depsOf o) ++ fr0) a.tmps → ∀ K : Act → World → Prop, (∀ w3, R w3 → K a w3) → o.wp c.P a w2 K Q)
    (hL : ∀ w3, R w3 → ∀ a, Going c D nd dsts vals fr0 γ (canon ops.size n) a → wpList c.P ops Q (ops.toList.drop n) a w3) :
    ∀ (f : Nat) (listed : Array Bool) (a : Act), cnt listed n = f → HeadInv .any ops n listed → listed.getD k true = true → listed.getD nd true = false → Going c D nd dsts vals fr0 γ listed a → wpAny c.P .any ops Q (f + (ops.size - n)) listed a w2
  | 0, listed, a, hc, hinv, hk, hst, hg => by
    rw [cnt_zero hc nd (by omega)] at hst
    cases hst
  | f + 1, listed, a, hc, hinv, hk, hst, hg => by
    rw [show f + 1 + (ops.size - n) = (f + (ops.size - n)) + 1 by omega]
    refine ⟨fun h0 => absurd h0 (ready_first hinv hS.nlt hS.dep (by omega)), fun i hi => ?_⟩
    have hun := (mem_ready.1 hi).1
    obtain ⟨i0, h1, h2, _⟩ := cnt_pos (show 0 < cnt listed n by omega)
    have hin : i < n := Nat.lt_of_not_le fun h => tail_waits hS.sink hS.chain hS.nlt hinv _ i0 rfl h1 h2 i h hi
    have hcnt := cnt_set hun hin
    have hsz : nd < listed.size := by rw [hinv.size]; have := hS.nlt; omega
    by_cases hie : i = nd
    · subst hie
      unfold wpOp
      simp only [ho]
      rw [if_pos (by simp [Region.wanted, hogd])]
      refine .inl (hstore a (hg.deps fun j hj => ⟨hS.dep i o hin ho j hj, ready_deps hi ho j hj⟩) _ fun w3 hR => ?_)
      refine postS hS (hL w3 hR) f _ _ (by omega) (hinv.set hi hin) ?_ (fun j h3 h4 => ?_) ⟨hg.size, hg.defers, fun j d v hj hl => hg.told j d v hj ?_, hg.fr⟩
      · rw [getD_set_ne true (fun e => by rw [e, hk] at hun; cases hun)]
        exact hk
      · obtain rfl : j = i := by omega
        simp [hsz]
      · rwa [getD_set_ne false (show i ≠ j by omega)] at hl
    · have hnd : i < nd := by omega
      have hik : i ≠ k := fun e => by rw [e, hk] at hun; cases hun
      obtain ⟨o', ho'⟩ : ∃ o, ops[i]? = some o := ⟨ops[i]'(by have := hS.nlt; omega), by simp [show i < ops.size by have := hS.nlt; omega]⟩
      obtain ⟨d, hd, hd2, hgd⟩ := hS.dst i o' hnd ho'
      obtain ⟨v, qs, hv, he, hq⟩ := hS.val i o' hnd hik ho'
      unfold wpOp
      simp only [ho']
      rw [if_pos (by simp [Region.wanted, hgd])]
      refine .inl (pure_wp (hg.deps fun j hj => ⟨Nat.lt_trans (hS.dep i o' hin ho' j hj) hnd, ready_deps hi ho' j hj⟩) he hq ?_)
      rw [hd2]
      refine midS hS hn ho hod hogd hokk hstore hL f _ _ (by omega) (hinv.set hi hin) ?_ ?_ (hg.put hS.dis hS.inN hS.apart hd hv)
      · rw [getD_set_ne true hik]
        exact hk
      · rw [getD_set_ne true hie]
        exact hst
theorem preS {m : Nat} (hS : Shown c ops n nd k m dsts vals posts fr0) {β : Env} {w1 : World} {o : Oper} {f : FuncId} {args : Array Operand} {ats : Array TypeId} {vs : List AV} {sv : AV} (hkn : k < nd) (hlast : ∀ i o, nd ≤ i → i < n → ops[i]? = some o → k ∈ depsOf o) (hok : ops[k]? = some o) (hop : o.op = .call ⟨.value (.func f), args, ats⟩)
    (hgo : ∀ xs w, (callFunc f xs).run c.P w = .ok (.enter f xs) w) (hvs : evs ⟨depFr dsts vals (depsOf o) ++ fr0, []⟩ args.toList = some vs) (hsv : vals[k]? = some sv) {R : Env → World → Prop}
    (hcall : Calls c.P f (vs.map (gv β)).toArray w1 (fun e w2 => ∃ β', R β' w2 ∧ e = .returned (gv β' sv)))
    (hold : ∀ β' w2, R β' w2 → (∀ g, g < m → β' g = β g) ∧ (∀ g, g < m → β'.c g = β.c g) ∧ β'.r = β.r)
    (hL : ∀ β' w2, R β' w2 → ∀ (f : Nat) (listed : Array Bool) (a : Act), cnt listed n = f → HeadInv .any ops n listed → listed.getD k true = true → (∀ i, nd ≤ i → i < n → listed.getD i true = false) → Going c D nd dsts vals fr0 β' listed a → wpAny c.P .any ops Q (f + (ops.size - n)) listed a w2) :
    ∀ (x : Nat) (listed : Array Bool) (a : Act), cnt listed n = x → HeadInv .any ops n listed → listed.getD k true = false → (∀ i, i < nd → listed.getD i false = true → posts.getD i false = false) → (∀ i, nd ≤ i → i < n → listed.getD i true = false) → Going c D nd dsts vals fr0 β listed a → wpAny c.P .any ops Q (x + (ops.size - n)) listed a w1
  | 0, listed, a, hc, hinv, hk, hpo, hun2, hg => by
    rw [cnt_zero hc k (Nat.lt_of_lt_of_le hkn hS.ndn)] at hk
    cases hk
  | x + 1, listed, a, hc, hinv, hk, hpo, hun2, hg => by
    rw [show x + 1 + (ops.size - n) = (x + (ops.size - n)) + 1 by omega]
    refine ⟨fun h0 => absurd h0 (ready_first hinv hS.nlt hS.dep (by omega)), fun i hi => ?_⟩
    have hun := (mem_ready.1 hi).1
    obtain ⟨i0, h1, h2, _⟩ := cnt_pos (show 0 < cnt listed n by omega)
    have hin : i < n := Nat.lt_of_not_le fun h => tail_waits hS.sink hS.chain hS.nlt hinv _ i0 rfl h1 h2 i h hi
    have hcnt := cnt_set hun hin
    obtain ⟨oi, hoi⟩ : ∃ o, ops[i]? = some o := ⟨ops[i]'(by have := hS.nlt; omega), by simp [show i < ops.size by have := hS.nlt; omega]⟩
    have hnd : i < nd := Nat.lt_of_not_le fun h => by
      have := getD_both hk
      rw [ready_deps hi hoi k (hlast i oi h hin hoi)] at this
      cases this
    by_cases hik : i = k
    · subst hik
      obtain ⟨d, hd, hd2, hgd⟩ := hS.dst i o hnd hok
      unfold wpOp
      simp only [hok]
      rw [if_pos (by simp [Region.wanted, hgd])]
      refine .inl ?_
      obtain ⟨dst, op, ty, pos, after, guard⟩ := o
      simp only at hop hd2
      subst hop
      unfold Oper.wp
      rw [run_call hgo]
      simp only [Oper.upon]
      have ea : args.map a.eval = (vs.map (gv β)).toArray := by
        have := evs_ok (s := ⟨depFr dsts vals (depsOf _) ++ fr0, []⟩) (hg.deps fun j hj => ⟨Nat.lt_trans (hS.dep i _ hin hok j hj) hnd, ready_deps hi hok j hj⟩) hvs
        apply Array.ext'
        simpa using this
      rw [ea]
      refine hcall.mono ?_
      rintro e w2 ⟨β', hR, rfl⟩
      obtain ⟨q1, q2, q3⟩ := hold β' w2 hR
      have hg' : Going c D nd dsts vals fr0 β' listed a := ⟨hg.size, hg.defers, fun j d' v' hj hl hd' hv' => by
        rcases hS.scope j v' hj hv' with h3 | h3
        · rw [gv_same q1 q2 q3 h3]
          exact hg.told j d' v' hj hl hd' hv'
        · rw [hpo j hj hl] at h3
          exact absurd h3 (by simp), fun d' v' hv' => by
        rw [gv_same q1 q2 q3 (List.all_eq_true.1 hS.scope0 _ (look_mem hv'))]
        exact hg.fr d' v' hv'⟩
      rw [hd2]
      refine hL β' w2 hR x _ _ (by omega) (hinv.set hi hin) ?_ (fun j h3 h4 => ?_) (hg'.put hS.dis hS.inN hS.apart hd hsv)
      · have hs : i < listed.size := by rw [hinv.size]; have := hS.nlt; omega
        simp [hs]
      · rw [getD_set_ne true (show i ≠ j by omega)]
        exact hun2 j h3 h4
    · obtain ⟨o', ho'⟩ : ∃ o, ops[i]? = some o := ⟨ops[i]'(by have := hS.nlt; omega), by simp [show i < ops.size by have := hS.nlt; omega]⟩
      obtain ⟨d, hd, hd2, hgd⟩ := hS.dst i o' hnd ho'
      obtain ⟨v, qs, hv, he, hq⟩ := hS.val i o' hnd hik ho'
      unfold wpOp
      simp only [ho']
      rw [if_pos (by simp [Region.wanted, hgd])]
      refine .inl (pure_wp (hg.deps fun j hj => ⟨Nat.lt_trans (hS.dep i o' hin ho' j hj) hnd, ready_deps hi ho' j hj⟩) he hq ?_)
      rw [hd2]
      refine preS hS hkn hlast hok hop hgo hvs hsv hcall hold hL x _ _ (by omega) (hinv.set hi hin) ?_ (fun j hj hl => ?_) (fun j h3 h4 => ?_) (hg.put hS.dis hS.inN hS.apart hd hv)
      · rw [getD_set_ne true hik]
        exact hk
      · by_cases hij : i = j
        · subst hij
          cases hb : posts.getD i false with
          | false => rfl
          | true =>
            rcases hS.post i o' hnd ho' hb with h3 | ⟨d', h3, h4⟩
            · exact absurd h3 hik
            · rw [hpo d' (Nat.lt_trans (hS.dep i o' hin ho' d' h3) hnd) (ready_deps hi ho' d' h3)] at h4
              cases h4
        · rw [getD_set_ne false hij] at hl
          exact hpo j hj hl
      · rw [getD_set_ne true (show i ≠ j by omega)]
        exact hun2 j h3 h4
end
/-- A store of a whole aggregate amid cells. -/
def stS (P : Program) (F : List (Nat × AV)) (mem : List Blk) (o : Oper) : Option (List Blk) := match o.op, o.dst, o.guard with
  | .store t x y, none, none => match ev ⟨F, []⟩ x, ev ⟨F, []⟩ y, P.info? t with
    | some (.sc (.ptr g off)), some (.agg b'), some inf => match mem[g]? with
      | some (.cells cs) => bif b'.whole && Nat.ble (off + b'.len) cs.length && Nat.beq inf.size b'.len then some (mem.set g (.cells (cs.take off ++ b'.list ++ cs.drop (off + b'.len)))) else none
      | _ => none
    | _, _, _ => none
  | _, _, _ => none
theorem stS_ok {c : Cfg} {D : List Deferred} {n0 : Nat} {β0 : Env} {w0 : World} {β : Env} {mem mem' : List Blk} {a0 a : Act} {w : World} {F : List (Nat × AV)} {o : Oper} (h : Rel c D n0 β0 w0 β ⟨[], mem⟩ a0 w) (he : stS c.P F mem o = some mem') (hf : FrOk β F a.tmps)
    {K : Act → World → Prop} {Q : Exit → Act → World → Prop} (hK : ∀ w', Rel c D n0 β0 w0 β ⟨[], mem'⟩ a0 w' → K a w') : o.dst = none ∧ o.guard = none ∧ o.wp c.P a w K Q := by
  obtain ⟨dst, op, ty, pos, after, guard⟩ := o
  unfold stS at he
  split at he <;> (try simp only [reduceCtorEq] at he)
  rename_i t x y hop hdst hgd
  simp only at hop hdst hgd
  subst hop
  subst hdst
  subst hgd
  refine ⟨rfl, rfl, ?_⟩
  split at he <;> (try simp only [reduceCtorEq] at he)
  rename_i g off b' inf hx hy hq
  split at he <;> (try simp only [reduceCtorEq] at he)
  rename_i cs hg
  cases hb2 : (b'.whole && Nat.ble (off + b'.len) cs.length && Nat.beq inf.size b'.len) with
  | false => rw [hb2] at he; cases he
  | true =>
    rw [hb2] at he
    simp only [Bool.and_eq_true] at hb2
    obtain ⟨⟨b1, b2⟩, b3⟩ := hb2
    simp only [cond_true, Option.some.injEq] at he
    subst he
    have hle : off + b'.len ≤ cs.length := Nat.le_of_ble_eq_true b2
    have hsz : inf.size = b'.len := Nat.eq_of_beq_eq_true b3
    obtain ⟨e, hel⟩ := h.mem g _ hg
    have hst := run_storeCells_at c.P (β g) off e (b'.list.map (gs β)) 0 _ w hel (by
      have e1 : (b'.list.map (gs β)).length = b'.len := by rw [List.length_map, Blk.len_list]
      have e2 : (((Blk.cells cs).list.map (gs β)).toArray).size = cs.length := by simp [Blk.list]
      rw [e1, e2]
      omega) (fun u hu => by
      obtain ⟨q, _, rfl⟩ := List.mem_map.1 hu
      exact gs_one β q)
    have ee : (List.take (off + 0) ((Blk.cells cs).list.map (gs β)).toArray.toList ++ b'.list.map (gs β) ++ List.drop (off + 0 + (b'.list.map (gs β)).length) ((Blk.cells cs).list.map (gs β)).toArray.toList) = (Blk.cells (cs.take off ++ b'.list ++ cs.drop (off + b'.len))).list.map (gs β) := by
      rw [List.length_map, Blk.len_list, Nat.add_zero]
      show List.take off (cs.map (gs β)) ++ _ ++ List.drop _ (cs.map (gs β)) = List.map (gs β) (cs.take off ++ b'.list ++ cs.drop (off + b'.len))
      rw [List.map_append, List.map_append, List.map_take, List.map_drop]
    rw [ee] at hst
    have hr := h.store (b' := .cells (cs.take off ++ b'.list ++ cs.drop (off + b'.len))) hg rfl (cs := ((Blk.cells (cs.take off ++ b'.list ++ cs.drop (off + b'.len))).list.map (gs β)).toArray) ⟨e, setRow_heap w _ _ _ e _ hel⟩
    have hxv : a.eval x = .pointer (some ⟨β g, off, none⟩) := ev_ok (s := ⟨F, []⟩) hf hx
    have hyv : a.eval y = .agg (b'.list.map (gs β)).toArray := ev_ok (s := ⟨F, []⟩) hf hy
    unfold Oper.wp
    simp only [execOp, hxv, hyv, Instr.storeAt, Instr.sureAddr, storeVar, Value.cells, sizeOf, typeInfo, run_program, hq, Sem.run_bind, Sem.run_pure, Result.andThen_ok, List.size_toArray, List.length_map, Blk.len_list, hsz, ne_eq, not_true_eq_false, if_false, hst, Oper.upon]
    exact hK _ hr
def regionS (c : Cfg) (K : Nat) (ops : Array Oper) (k nd : Nat) (st : Bool) (s : St) : Option (St × List Prop) :=
  match dstsOf (ops.toList.take nd), ops[k]? with
  | some dsts, some o => match runS c (besides dsts s.fr) dsts (ops.toList.take k) [] with
    | some (acc, ps1) => match callS c (besides dsts s.fr) dsts acc s.mem o with
      | some (sv, mem', ps2) => match runS c (besides dsts s.fr) dsts ((ops.toList.take nd).drop (k + 1)) (acc ++ [sv]) with
        | some (vals, ps3) => match (bif st then (match ops[nd]? with
            | some o2 => bif (depsOf o2).any (fun d => Nat.beq d k) && (depsOf o2).all (fun d => Nat.blt d nd) then stS c.P (depFr dsts vals (depsOf o2) ++ besides dsts s.fr) mem' o2 else none
            | none => none) else some mem') with
          | some mem2 =>
            bif Region.sinkB .any ops (bif st then nd + 1 else nd) && Region.chainB .any ops (bif st then nd + 1 else nd) && Nat.blt (bif st then nd + 1 else nd) ops.size && Nat.blt k nd && Region.seqB .any ops (ops.size - (bif st then nd + 1 else nd)) (bif st then nd + 1 else nd) (canon ops.size (bif st then nd + 1 else nd)) && distinct dsts && dsts.all (fun d => Nat.blt d c.N) &&
              chkS ops.toList nd k s.mem.length (postsOf k (ops.toList.take nd) 0 []) vals && (besides dsts s.fr).all (fun p => scV s.mem.length p.2) then
              match runL c ops.toList (ops.toList.drop (bif st then nd + 1 else nd)) ⟨zipFr dsts vals ++ besides dsts s.fr, mem2⟩ with
              | some (s', ps4) => some (⟨prune s'.fr K, s'.mem⟩, ps1 ++ (ps2 ++ (ps3 ++ ps4)))
              | none => none
            else none
          | none => none
        | none => none
      | none => none
    | none => none
  | _, _ => none
/-- Which operation is the first call of a function. -/
def callAt : List Oper → Nat → Nat
  | [], i => i
  | o :: r, i => match o.op with
    | .call cl => match cl.callee with
      | .value (.func _) => i
      | _ => callAt r (i + 1)
    | _ => callAt r (i + 1)
def region (c : Cfg) (K : Nat) (ops : Array Oper) (draw : Bool) (s : St) : Option (St × List Prop) :=
  match draw with
  | false => match runL c ops.toList ops.toList s with
    | some (s', ps) => some (⟨prune s'.fr K, s'.mem⟩, ps)
    | none => none
  | true => match regionQ c K ops s with
    | some r => some r
    | none => match regionT c K ops (ops.size - 1) s with
      | some r => some r
      | none => match regionT c K ops (ops.size - 2) s with
        | some r => some r
        | none => match regionS c K ops (callAt ops.toList 0) (ops.size - 1) false s with
          | some r => some r
          | none => regionS c K ops (callAt ops.toList 0) (ops.size - 2) true s

section
variable {c : Cfg} {D : List Deferred} {n0 : Nat} {β0 : Env} {w0 : World} {K id : Nat} {ops : Array Oper} {Q : Exit → Act → World → Prop} {s s' : St} {ps : List Prop} {β : Env} {a : Act} {w : World}
theorem regionQ_ok (hc : c.Sound) (h : regionQ c K ops s = some (s', ps)) (hp : All ps) (hr : Rel c D n0 β0 w0 β s a w) (hQ : ∀ β' a' w', Rel c D n0 β0 w0 β' s' a' w' → Q .normal a' w') : (Code.region id ops true).wp c.P Q a w := by
  unfold regionQ at h
  split at h <;> (try simp only [reduceCtorEq] at h)
  rename_i fr1 ps1 h1
  cases hB : Region.lexB .any ops with
  | false => rw [hB] at h; cases h
  | true =>
    rw [hB] at h
    cases h
    refine wp_region_quiet (C := fun w' => ∃ n, w' = w.drewN n) hc.mixed hB ⟨1, rfl⟩ ?_
    refine runQ_ok hc hr.mem hr.inj hr.ro _ s.fr fr1 _ a h1 hp hr.size hr.defers hr.fr fun a' hs' hd' hf' w' hw' => ?_
    obtain ⟨n, rfl⟩ := hw'
    exact hQ β a' _ (Rel.less (s := ⟨fr1, s.mem⟩) ⟨hs', hd', hf', hr.mem.drewN n, hr.inj, hr.lo, hr.old, hr.oldc, hr.row, hr.bs, hr.ro.drewN n, hr.new, hr.keep.drewN n⟩ fun d v => look_prune)
theorem regionT_ok (hc : c.Sound) {n : Nat} (h : regionT c K ops n s = some (s', ps)) (hp : All ps) (hr : Rel c D n0 β0 w0 β s a w) (hQ : ∀ β' a' w', Rel c D n0 β0 w0 β' s' a' w' → Q .normal a' w') : (Code.region id ops true).wp c.P Q a w := by
  unfold regionT at h
  split at h <;> (try simp only [reduceCtorEq] at h)
  rename_i fr1 ps1 h1
  split at h <;> (try simp only [reduceCtorEq] at h)
  rename_i s1 qs h2
  cases hT : Region.lexTailB .any ops n with
  | false => rw [hT] at h; cases h
  | true =>
    rw [hT] at h
    cases h
    obtain ⟨hp1, hp2⟩ := All.app hp
    have hops : ops = ops.toList.toArray := by simp
    rw [hops] at hT ⊢
    rw [← hops] at hT
    refine Ev.wp_region_quiet_tail (C := fun w' => ∃ n, w' = w.drewN n) (l := ops.toList) n hc.mixed (by rw [← hops]; exact hT) ⟨1, rfl⟩ ?_
    refine runQ_ok (ops := ops.toList.toArray) hc hr.mem hr.inj hr.ro _ s.fr fr1 _ a (by simpa using h1) hp1 hr.size hr.defers hr.fr fun a' hs' hd' hf' w' hw' => ?_
    obtain ⟨m, rfl⟩ := hw'
    exact runL_ok (ops := ops.toList.toArray) hc _ ⟨fr1, s.mem⟩ s1 _ (by simpa using h2) hp2 β a' _ ⟨hs', hd', hf', hr.mem.drewN m, hr.inj, hr.lo, hr.old, hr.oldc, hr.row, hr.bs, hr.ro.drewN m, hr.new, hr.keep.drewN m⟩ fun β' a' w' hr' => hQ β' a' w' (hr'.less fun d v => look_prune)
theorem regionS_ok (hc : c.Sound) {k nd : Nat} {st : Bool} (h : regionS c K ops k nd st s = some (s', ps)) (hp : All ps) (hr : Rel c D n0 β0 w0 β s a w) (hQ : ∀ β' a' w', Rel c D n0 β0 w0 β' s' a' w' → Q .normal a' w') : (Code.region id ops true).wp c.P Q a w := by
  unfold regionS at h
  split at h <;> (try simp only [reduceCtorEq] at h)
  rename_i dsts o hds hok
  split at h <;> (try simp only [reduceCtorEq] at h)
  rename_i acc ps1 h1
  split at h <;> (try simp only [reduceCtorEq] at h)
  rename_i sv mem' ps2 h2
  split at h <;> (try simp only [reduceCtorEq] at h)
  rename_i vals ps3 h3
  split at h <;> (try simp only [reduceCtorEq] at h)
  rename_i mem2 hm2
  obtain ⟨n, hn⟩ : ∃ n, n = (bif st then nd + 1 else nd) := ⟨_, rfl⟩
  rw [← hn] at h
  cases hB : (Region.sinkB .any ops n && Region.chainB .any ops n && Nat.blt n ops.size && Nat.blt k nd && Region.seqB .any ops (ops.size - n) n (canon ops.size n) && distinct dsts && dsts.all (fun d => Nat.blt d c.N) &&
            chkS ops.toList nd k s.mem.length (postsOf k (ops.toList.take nd) 0 []) vals && (besides dsts s.fr).all (fun p => scV s.mem.length p.2)) with
  | false => rw [hB] at h; cases h
  | true =>
    rw [hB] at h
    simp only [cond_true] at h
    split at h <;> (try simp only [Option.some.injEq, Prod.mk.injEq, reduceCtorEq] at h)
    rename_i s1 ps4 h4
    obtain ⟨rfl, rfl⟩ := h
    obtain ⟨hp1, hp'⟩ := All.app hp
    obtain ⟨hp2, hp''⟩ := All.app hp'
    obtain ⟨hp3, hp4⟩ := All.app hp''
    simp only [Bool.and_eq_true] at hB
    obtain ⟨⟨⟨⟨⟨⟨⟨⟨c1, c2⟩, c3⟩, c4⟩, c5⟩, c6⟩, c7⟩, c8⟩, c9⟩ := hB
    have hnlt : n < ops.size := by simpa [Nat.blt_eq] using c3
    have hndn : nd ≤ n := by rw [hn]; cases st <;> simp
    have hkn : k < nd := by simpa [Nat.blt_eq] using c4
    obtain ⟨d1, d2⟩ := dstsOf_spec hds
    have dlen : dsts.length = nd := by rw [d1]; simp; omega
    have hat : ∀ i o', i < nd → ops[i]? = some o' → (ops.toList.take nd)[i]? = some o' := fun i o' hi ho => by
      rw [List.getElem?_take_of_lt hi]
      simpa using ho
    obtain ⟨t1, e1, e2, e3⟩ := runS_spec h1 hp1
    have hacc : acc.length = k := by rw [e1]; simp [e2]; omega
    obtain ⟨t2, f1, f2, f3⟩ := runS_spec h3 hp3
    have hvk : vals[k]? = some sv := by
      rw [f1, List.append_assoc, List.getElem?_append_right (by omega), hacc]
      simp
    have hpre : vals.take k = acc := by
      rw [f1, List.append_assoc, List.take_append_of_le_length (by omega), List.take_of_length_le (by omega)]
    have hchk : ∀ i, i < nd → ∃ o' v, ops[i]? = some o' ∧ vals[i]? = some v ∧ (scV s.mem.length v = true ∨ (postsOf k (ops.toList.take nd) 0 []).getD i false = true) ∧ ((postsOf k (ops.toList.take nd) 0 []).getD i false = true → i = k ∨ ∃ d ∈ depsOf o', (postsOf k (ops.toList.take nd) 0 []).getD d false = true) ∧ ∀ j ∈ depsOf o', j < i := fun i hi => by
      have := List.all_eq_true.1 c8 i (by simpa using hi)
      split at this <;> (try simp only [reduceCtorEq] at this)
      rename_i o' v ho' hv'
      simp only [Bool.and_eq_true, Bool.or_eq_true, Bool.not_eq_true'] at this
      obtain ⟨⟨g1, g2⟩, g3⟩ := this
      refine ⟨o', v, by simpa using ho', hv', g1, fun hpo => ?_, fun j hj => ?_⟩
      · rcases g2 with (g2 | g2) | g2
        · rw [g2] at hpo
          cases hpo
        · exact .inl (Nat.eq_of_beq_eq_true g2)
        · obtain ⟨d, h5, h6⟩ := List.any_eq_true.1 g2
          exact .inr ⟨d, h5, h6⟩
      · have := List.all_eq_true.1 g3 j hj
        simpa [Nat.blt_eq] using this
    have hS : Shown c ops n nd k s.mem.length dsts vals (postsOf k (ops.toList.take nd) 0 []) (besides dsts s.fr) := by
      refine ⟨c1, c2, hnlt, hndn, c5, c6, c7, fun d v hv => (besides_look hv).2, fun i o' hi ho => d2 i o' (hat i o' hi ho), fun i o' hi ho => ?_, fun i o' hi hik ho => ?_, fun i v hi hv => ?_, fun i o' hi ho hpo => ?_, c9⟩
      · rcases Nat.lt_or_ge i nd with hlt | hge
        · obtain ⟨o2, v2, q1, q2, q3, q4, q5⟩ := hchk i hlt
          obtain rfl : o2 = o' := Option.some.inj (q1.symm.trans ho)
          exact q5
        · cases st with
          | false => simp only [cond_false] at hn; omega
          | true =>
            simp only [cond_true] at hn hm2
            obtain rfl : i = nd := by omega
            rw [ho] at hm2
            simp only at hm2
            cases hb : ((depsOf o').any (fun d => Nat.beq d k) && (depsOf o').all (fun d => Nat.blt d i)) with
            | false => rw [hb] at hm2; cases hm2
            | true =>
              simp only [Bool.and_eq_true] at hb
              exact fun j hj => by
                have := List.all_eq_true.1 hb.2 j hj
                simpa [Nat.blt_eq] using this
      · obtain ⟨o2, v2, q1, q2, q3, q4, q5⟩ := hchk i hi
        obtain rfl : o2 = o' := Option.some.inj (q1.symm.trans ho)
        rcases Nat.lt_or_ge i k with hlt | hge
        · obtain ⟨v, qs, r1, r2, r3⟩ := e3 i o2 (by rw [List.getElem?_take_of_lt hlt]; simpa using ho)
          simp only [List.length_nil, Nat.zero_add] at r1 r2
          have hvi : vals[i]? = some v := by
            rw [f1, List.append_assoc, List.getElem?_append_left (by omega)]
            exact r1
          refine ⟨v, qs, hvi, ?_, r3⟩
          rw [depFr_take q5] at r2
          have : depFr dsts vals (depsOf o2) = depFr dsts acc (depsOf o2) := by
            rw [← hpre, depFr_take fun d hd => Nat.lt_trans (q5 d hd) hlt]
          rw [this]
          exact r2
        · have hj : ((ops.toList.take nd).drop (k + 1))[i - (k + 1)]? = some o2 := by
            rw [List.getElem?_drop, show k + 1 + (i - (k + 1)) = i by omega]
            exact hat i o2 hi ho
          obtain ⟨v, qs, r1, r2, r3⟩ := f3 (i - (k + 1)) o2 hj
          have el : (acc ++ [sv]).length + (i - (k + 1)) = i := by simp [hacc]; omega
          rw [el] at r1 r2
          rw [depFr_take q5] at r2
          exact ⟨v, qs, r1, r2, r3⟩
      · obtain ⟨o2, v2, q1, q2, q3, q4, q5⟩ := hchk i hi
        obtain rfl : v2 = v := Option.some.inj (q2.symm.trans hv)
        exact q3
      · obtain ⟨o2, v2, q1, q2, q3, q4, q5⟩ := hchk i hi
        obtain rfl : o2 = o' := Option.some.inj (q1.symm.trans ho)
        exact q4 hpo
    obtain ⟨ok, vk, k1, k2, k3, k4, k5⟩ := hchk k hkn
    obtain rfl : ok = o := Option.some.inj (k1.symm.trans hok)
    unfold callS at h2
    split at h2 <;> (try simp only [reduceCtorEq] at h2)
    rename_i cl hop
    split at h2 <;> (try simp only [reduceCtorEq] at h2)
    rename_i f hcal
    split at h2 <;> (try simp only [reduceCtorEq] at h2)
    rename_i vs hvs
    obtain ⟨cal, args, ats⟩ := cl
    simp only at hcal hvs
    subst hcal
    have hvs' : evs ⟨depFr dsts vals (depsOf ok) ++ besides dsts s.fr, []⟩ args.toList = some vs := by
      have : depFr dsts vals (depsOf ok) = depFr dsts acc (depsOf ok) := by rw [← hpre, depFr_take k5]
      rw [this]
      exact hvs
    have hr1 := hr.drewN 1
    have inv0 : HeadInv .any ops n (Array.replicate ops.size false) :=
      ⟨by simp, fun j oj _ hl => (by rw [getD_replicate_false] at hl; cases hl), fun t _ ht => getD_in (by simpa using ht) (getD_replicate_false _ _)⟩
    have hfr0 : FrOk β (besides dsts s.fr) a.tmps := fun d v hv => hr.fr d v (besides_look hv).1
    refine wp_region_any hc.mixed ?_
    have hrel : ∀ {β' : Env} {w2 : World}, After β s.mem { w with drawn := w.drawn + 1 } β' mem' w2 → Rel c D n0 β0 w0 β' ⟨[], mem'⟩ a w2 := fun {β' w2} af =>
      ⟨hr.size, hr.defers, fun d u hu => (by cases hu), af.cells, af.inj, Nat.le_trans hr.lo af.len, fun g hg => (af.old g (Nat.lt_of_lt_of_le hg hr.lo)).trans (hr.old g hg), fun g hg => (af.oldc g (Nat.lt_of_lt_of_le hg hr.lo)).trans (hr.oldc g hg), af.row.trans hr.row, hr.bs,
          fun g m f hg => by
            obtain ⟨h1, h2, h3⟩ := hr1.ro g m f hg
            rw [Row.loc_same af.row g f]
            refine ⟨Nat.lt_of_lt_of_le h1 af.keep.size, fun g' hg' => ?_, fun j hj => ?_⟩
            · rcases Nat.lt_or_ge g' s.mem.length with h4 | h4
              · rw [af.old g' h4]
                exact h2 g' h4
              · have := af.new g' h4 hg'
                have h1' : (f.loc β g).1 < ({ w with drawn := w.drawn + 1 } : World).heap.size := h1
                omega
            · have := h3 j hj
              unfold World.cell? at this ⊢
              rw [af.keep.block _ h1 (fun ⟨g', h4, h5⟩ => h2 g' h4 h5)]
              exact this,
          fun g h1 h2 => by
            rcases Nat.lt_or_ge g s.mem.length with h3 | h3
            · rw [af.old g h3]
              exact hr.new g h1 h3
            · exact Nat.le_trans hr.keep.size (af.new g h3 h2),
          hr1.keep.trans' af.keep (by
            rintro i hi ⟨g, hg, rfl⟩
            rcases Nat.lt_or_ge g n0 with h1 | h1
            · exact ⟨g, h1, (hr.old g h1).symm⟩
            · have := hr.new g h1 hg
              omega)⟩
    have tail_ : ∀ {β' : Env} {w3 : World} (a2 : Act), Rel c D n0 β0 w0 β' ⟨[], mem2⟩ a w3 → Going c D nd dsts vals (besides dsts s.fr) β' (canon ops.size n) a2 → wpList c.P ops Q (ops.toList.drop n) a2 w3 := fun {β' w3} a2 hr3 hg => by
      refine runL_ok (ops := ops) hc _ _ s1 _ h4 hp4 β' a2 w3 ?_ fun β2 a3 w3 hr3 => hQ β2 a3 w3 (hr3.less fun d v => look_prune)
      exact ⟨hg.size, hg.defers, fun d u hu => by
          rcases zipFr_look hu with ⟨i, q1, q2⟩ | q1
          · have hi : i < nd := by
              have := (List.getElem?_eq_some_iff.1 q1).1
              omega
            refine hg.told i d u hi ?_ q1 q2
            have e : Nat.blt i n = true := by simpa [Nat.blt_eq] using Nat.lt_of_lt_of_le hi hndn
            simp [canon, show i < ops.size by omega, e]
          · exact hg.fr d u q1, hr3.mem, hr3.inj, hr3.lo, hr3.old, hr3.oldc, hr3.row, hr3.bs, hr3.ro, hr3.new, hr3.keep⟩
    have main := preS (Q := Q) (D := D) hS (β := β) (w1 := { w with drawn := w.drawn + 1 }) hkn (fun i o2 h5 h6 ho2 => by
        cases st with
        | false => simp only [cond_false] at hn; omega
        | true =>
          simp only [cond_true] at hn hm2
          obtain rfl : i = nd := by omega
          rw [ho2] at hm2
          simp only at hm2
          cases hb : ((depsOf o2).any (fun d => Nat.beq d k) && (depsOf o2).all (fun d => Nat.blt d i)) with
          | false => rw [hb] at hm2; cases hm2
          | true =>
            simp only [Bool.and_eq_true] at hb
            obtain ⟨d, hd, hdk⟩ := List.any_eq_true.1 hb.1
            rw [← Nat.eq_of_beq_eq_true hdk]
            exact hd) hok hop (hc.wgo f vs s.mem _ h2) hvs' hvk
      (R := fun β' w2 => After β s.mem { w with drawn := w.drawn + 1 } β' mem' w2) (hc.w f vs s.mem sv mem' ps2 h2 hp2 β _ hr1.mem hr1.inj hr1.ro) (fun β' w2 af => ⟨af.old, af.oldc, af.row⟩)
      (fun β' w2 af x listed a2 hcx hinv hkl hun2 hg => ?_) (cnt (Array.replicate ops.size false) n) (Array.replicate ops.size false) a rfl inv0 (getD_in (by simp; omega) (getD_replicate_false _ _)) (fun i _ hl => absurd hl (by rw [getD_replicate_false]; simp))
      (fun i _ hi => getD_in (by simp; omega) (getD_replicate_false _ _)) ⟨hr.size, hr.defers, fun i d v _ hl => absurd hl (by rw [getD_replicate_false]; simp), hfr0⟩
    · have hcn : ∀ x, x ≤ ops.size → cnt (Array.replicate ops.size false) x = x := fun x => by
        induction x with
        | zero => intro _; rfl
        | succ x ih =>
          intro hx
          simp only [cnt, ih (by omega)]
          have : (Array.replicate ops.size false).getD x true = false := getD_in (by simp; omega) (getD_replicate_false _ _)
          rw [this]
          rfl
      rw [hcn n (by omega), show n + (ops.size - n) = ops.size by omega] at main
      exact main
    · cases st with
      | false =>
        simp only [cond_false] at hn hm2
        subst hn
        obtain rfl := Option.some.inj hm2
        exact postS hS (fun a3 hg3 => tail_ a3 (hrel af) hg3) x listed a2 hcx hinv hkl (fun i h5 h6 => by omega) hg
      | true =>
        simp only [cond_true] at hn hm2
        split at hm2 <;> (try simp only [reduceCtorEq] at hm2)
        rename_i o2 ho2
        cases hb : ((depsOf o2).any (fun d => Nat.beq d k) && (depsOf o2).all (fun d => Nat.blt d nd)) with
        | false => rw [hb] at hm2; cases hm2
        | true =>
          rw [hb] at hm2
          simp only [cond_true] at hm2
          simp only [Bool.and_eq_true] at hb
          obtain ⟨d, hd, hdk⟩ := List.any_eq_true.1 hb.1
          have hkd : k ∈ depsOf o2 := by
            rw [← Nat.eq_of_beq_eq_true hdk]
            exact hd
          have form : o2.dst = none ∧ o2.guard = none := by
            unfold stS at hm2
            split at hm2 <;> (try simp only [reduceCtorEq] at hm2)
            rename_i t1 x1 y1 g1 g2 g3
            exact ⟨g2, g3⟩
          exact midS hS hn ho2 form.1 form.2 hkd (R := fun w3 => Rel c D n0 β0 w0 β' ⟨[], mem2⟩ a w3) (fun a3 hf3 K hK => (stS_ok (hrel af) hm2 hf3 hK).2.2) (fun w3 hr3 a3 hg3 => tail_ a3 hr3 hg3) x listed a2 hcx hinv hkl (hun2 nd (Nat.le_refl _) (by omega)) hg
theorem region_ok (hc : c.Sound) {draw : Bool} (h : region c K ops draw s = some (s', ps)) (hp : All ps) (hr : Rel c D n0 β0 w0 β s a w) (hQ : ∀ β' a' w', Rel c D n0 β0 w0 β' s' a' w' → Q .normal a' w') : (Code.region id ops draw).wp c.P Q a w := by
  unfold region at h
  split at h
  · split at h <;> (try simp only [reduceCtorEq] at h)
    rename_i s1 ps1 h1
    cases h
    exact wp_region_list (runL_ok hc _ s s1 _ h1 hp β a w hr fun β' a' w' hr' => hQ β' a' w' (hr'.less fun d v => look_prune))
  · split at h
    · rename_i r h1
      cases h
      exact regionQ_ok hc h1 hp hr hQ
    · split at h
      · rename_i r h1
        cases h
        exact regionT_ok hc h1 hp hr hQ
      · split at h
        · rename_i r h1
          cases h
          exact regionT_ok hc h1 hp hr hQ
        · split at h
          · rename_i r h1
            cases h
            exact regionS_ok hc h1 hp hr hQ
          · exact regionS_ok hc h hp hr hQ
end

def evC (c : Cfg) (K : Nat) : Nat → Code → St → Option (Ev.Ex × St × List Prop)
  | 0, _, _ => none
  | f + 1, code, s => match code with
    | .skip => some (.normal, s, [])
    | .region _ ops draw => match region c K ops draw s with
      | some (s', ps) => some (.normal, s', ps)
      | none => none
    | .seq x y => match evC c K f x s with
      | some (.normal, s', ps) => match evC c K f y s' with
        | some (e, s2, qs) => some (e, s2, ps ++ qs)
        | none => none
      | r => r
    | .cond o x y => match ev s o with
      | some (.sc (.bool true)) => evC c K f x s
      | some (.sc (.bool false)) => evC c K f y s
      | _ => none
    | .block id x => match evC c K f x s with
      | some (.out id', s', ps) => bif Nat.beq id' id then some (.normal, s', ps) else some (.out id', s', ps)
      | r => r
    | .loop x => match evC c K f x s with
      | some (.normal, s', ps) => match evC c K f (.loop x) s' with
        | some (e, s2, qs) => some (e, s2, ps ++ qs)
        | none => none
      | r => r
    | .exit id => some (.out id, s, [])
    | .ret => some (.ret, s, [])
    | _ => none

theorem evC_ok {c : Cfg} (hc : c.Sound) {K : Nat} {D : List Deferred} {n0 : Nat} {β0 : Env} {w0 : World} : ∀ (f : Nat),
    (∀ (code : Code) (s : St) (e : Ev.Ex) (s' : St) (ps : List Prop), evC c K f code s = some (e, s', ps) → All ps → ∀ (Q : Exit → Act → World → Prop) β a w, Rel c D n0 β0 w0 β s a w →
      (∀ β' a' w', Rel c D n0 β0 w0 β' s' a' w' → Q e.to a' w') → code.wp c.P Q a w) ∧
    (∀ (x : Code) (s : St) (e : Ev.Ex) (s' : St) (ps : List Prop), evC c K f (.loop x) s = some (e, s', ps) → All ps → ∀ (Q : Exit → Act → World → Prop) β a w, Rel c D n0 β0 w0 β s a w →
      (∀ β' a' w', Rel c D n0 β0 w0 β' s' a' w' → Q e.to a' w') → Code.rounds c.P x Q f a w) := by
  intro f
  induction f with
  | zero => exact ⟨fun code s e s' ps h => (by simp [evC] at h), fun x s e s' ps h => (by simp [evC] at h)⟩
  | succ f ih =>
    obtain ⟨ih1, ih2⟩ := ih
    have loops : ∀ (x : Code) (s : St) (e : Ev.Ex) (s' : St) (ps : List Prop), evC c K (f + 1) (.loop x) s = some (e, s', ps) → All ps → ∀ (Q : Exit → Act → World → Prop) β a w, Rel c D n0 β0 w0 β s a w →
        (∀ β' a' w', Rel c D n0 β0 w0 β' s' a' w' → Q e.to a' w') → Code.rounds c.P x Q (f + 1) a w := by
      intro x s e s' ps h hp Q β a w hr hQ
      rw [rounds_succ]
      simp only [evC] at h
      cases h1 : evC c K f x s with
      | none => rw [h1] at h; cases h
      | some r =>
        rw [h1] at h
        obtain ⟨e1, s1, ps1⟩ := r
        cases e1 with
        | normal =>
          simp only at h
          split at h <;> (try simp only [Option.some.injEq, Prod.mk.injEq, reduceCtorEq] at h)
          rename_i e2 s2 qs h2
          obtain ⟨rfl, rfl, rfl⟩ := h
          obtain ⟨hp1, hp2⟩ := All.app hp
          exact ih1 x s .normal s1 ps1 h1 hp1 _ β a w hr fun β' a' w' hr' => ih2 x s1 _ _ qs h2 hp2 Q β' a' w' hr' hQ
        | out id => cases h; exact ih1 x s _ _ _ h1 hp _ β a w hr hQ
        | ret => cases h; exact ih1 x s _ _ _ h1 hp _ β a w hr hQ
    refine ⟨?_, loops⟩
    intro code s e s' ps h hp Q β a w hr hQ
    cases code with
    | skip =>
      simp only [evC, Option.some.injEq, Prod.mk.injEq] at h
      obtain ⟨rfl, rfl, _⟩ := h
      exact wp_skip (hQ β a w hr)
    | region id ops draw =>
      simp only [evC] at h
      split at h <;> (try simp only [reduceCtorEq] at h)
      rename_i s1 ps1 h1
      simp only [Option.some.injEq, Prod.mk.injEq] at h
      obtain ⟨rfl, rfl, rfl⟩ := h
      exact region_ok hc h1 hp hr hQ
    | seq x y =>
      simp only [evC] at h
      refine wp_seq ?_
      cases h1 : evC c K f x s with
      | none => rw [h1] at h; cases h
      | some r =>
        rw [h1] at h
        obtain ⟨e1, s1, ps1⟩ := r
        cases e1 with
        | normal =>
          simp only at h
          split at h <;> (try simp only [Option.some.injEq, Prod.mk.injEq, reduceCtorEq] at h)
          rename_i e2 s2 qs h2
          obtain ⟨rfl, rfl, rfl⟩ := h
          obtain ⟨hp1, hp2⟩ := All.app hp
          exact ih1 x s .normal s1 ps1 h1 hp1 _ β a w hr fun β' a' w' hr' => ih1 y s1 _ _ qs h2 hp2 Q β' a' w' hr' hQ
        | out id => cases h; exact ih1 x s _ _ _ h1 hp _ β a w hr hQ
        | ret => cases h; exact ih1 x s _ _ _ h1 hp _ β a w hr hQ
    | cond o x y =>
      simp only [evC] at h
      split at h <;> (try simp only [reduceCtorEq] at h)
      · rename_i ho
        exact wp_cond_true (ev_ok hr.fr ho) (ih1 x s e s' ps h hp Q β a w hr hQ)
      · rename_i ho
        exact wp_cond_false (ev_ok hr.fr ho) (ih1 y s e s' ps h hp Q β a w hr hQ)
    | block id x =>
      simp only [evC] at h
      refine wp_block ?_
      cases h1 : evC c K f x s with
      | none => rw [h1] at h; cases h
      | some r =>
        rw [h1] at h
        obtain ⟨e1, s1, ps1⟩ := r
        cases e1 with
        | normal => cases h; exact ih1 x s _ _ _ h1 hp _ β a w hr hQ
        | ret => cases h; exact ih1 x s _ _ _ h1 hp _ β a w hr hQ
        | out id' =>
          simp only at h
          cases hb : Nat.beq id' id with
          | true =>
            rw [hb] at h
            cases h
            refine ih1 x s _ _ _ h1 hp _ β a w hr fun β' a' w' hr' => ?_
            simp only [Ev.Ex.to, Exit.inBlock, if_pos (Nat.eq_of_beq_eq_true hb)]
            exact hQ β' a' w' hr'
          | false =>
            rw [hb] at h
            cases h
            refine ih1 x s _ _ _ h1 hp _ β a w hr fun β' a' w' hr' => ?_
            simp only [Ev.Ex.to, Exit.inBlock, if_neg (Nat.ne_of_beq_eq_false hb)]
            exact hQ β' a' w' hr'
    | loop x => exact wp_loop_rounds (f + 1) (loops x s e s' ps h hp Q β a w hr hQ)
    | exit id =>
      simp only [evC, Option.some.injEq, Prod.mk.injEq] at h
      obtain ⟨rfl, rfl, _⟩ := h
      exact wp_exit (hQ β a w hr)
    | ret =>
      simp only [evC, Option.some.injEq, Prod.mk.injEq] at h
      obtain ⟨rfl, rfl, _⟩ := h
      exact wp_ret (hQ β a w hr)
    | rangeFunc _ _ _ _ => cases h
    | scope _ => cases h
    | label _ => cases h
    | goto _ => cases h
    | refuse _ => cases h

def args0 : Nat → List AV → List (Nat × AV)
  | _, [] => []
  | k, v :: r => (k, v) :: args0 (k + 1) r
theorem look_args0 : ∀ {vs : List AV} {k d : Nat} {v : AV}, look (args0 k vs) d = some v → k ≤ d ∧ vs[d - k]? = some v
  | [], k, d, v, h => by cases h
  | u :: r, k, d, v, h => by
    simp only [args0, look] at h
    cases hk : Nat.beq k d with
    | true =>
      rw [hk] at h
      obtain rfl := Nat.eq_of_beq_eq_true hk
      simp only [cond_true, Option.some.injEq] at h
      subst h
      simp
    | false =>
      rw [hk] at h
      have hne := Nat.ne_of_beq_eq_false hk
      obtain ⟨h1, h2⟩ := look_args0 h
      refine ⟨by omega, ?_⟩
      rw [show d - k = (d - (k + 1)) + 1 by omega]
      simpa using h2
/-- The start of a call. -/
theorem Rel.start {c : Cfg} {β : Env} {w : World} {vs : List AV} {mem : List Blk} (hN : vs.length ≤ c.N) (hm : MemOk β mem w) (hi : InjOk β mem) (hro : RoOk β c.ro mem.length w) (hbs : mem.length ≤ c.base) :
    Rel c [] mem.length β w β ⟨args0 0 vs, mem⟩ { tmps := (vs.map (gv β)).toArray ++ Array.replicate (c.N - (vs.map (gv β)).toArray.size) undef, defers := [] } w := by
  refine ⟨by simp; omega, rfl, fun d v hv => ?_, hm, hi, Nat.le_refl _, fun _ _ => rfl, fun _ _ => rfl, rfl, hbs, hro, fun g h1 h2 => absurd h2 (Nat.not_lt.2 h1), Ev.Keep.refl _ _⟩
  obtain ⟨_, h2⟩ := look_args0 hv
  refine .inr ?_
  have hlt : d < vs.length := by
    have := (List.getElem?_eq_some_iff.1 h2).1
    simpa using this
  rw [Array.getElem?_append_left (by simpa using hlt)]
  simpa using ⟨v, by simpa using h2, rfl⟩
/-- The first n parts of a row, each of which ends; what is left. -/
def evM (c : Cfg) (K fuel : Nat) : Nat → Code → St → Option (St × Code × List Prop)
  | 0, code, s => some (s, code, [])
  | n + 1, code, s => match code with
    | .seq x rest => match evC c K fuel x s with
      | some (.normal, s', ps) => match evM c K fuel n rest s' with
        | some (s2, r, qs) => some (s2, r, ps ++ qs)
        | none => none
      | _ => none
    | _ => none
theorem evM_ok {c : Cfg} (hc : c.Sound) {K fuel : Nat} {D : List Deferred} {n0 : Nat} {β0 : Env} {w0 : World} {Q : Exit → Act → World → Prop} : ∀ (n : Nat) (code : Code) (s s' : St) (rest : Code) (ps : List Prop), evM c K fuel n code s = some (s', rest, ps) → All ps →
    ∀ β a w, Rel c D n0 β0 w0 β s a w → (∀ β' a' w', Rel c D n0 β0 w0 β' s' a' w' → rest.wp c.P Q a' w') → code.wp c.P Q a w
  | 0, code, s, s', rest, ps, h, hp, β, a, w, hr, hQ => by
    cases h
    exact hQ β a w hr
  | n + 1, code, s, s', rest, ps, h, hp, β, a, w, hr, hQ => by
    simp only [evM] at h
    split at h <;> (try simp only [reduceCtorEq] at h)
    split at h <;> (try simp only [reduceCtorEq] at h)
    rename_i s1 ps1 h1
    split at h <;> (try simp only [Option.some.injEq, Prod.mk.injEq, reduceCtorEq] at h)
    rename_i s2 r qs h2
    obtain ⟨rfl, rfl, rfl⟩ := h
    obtain ⟨hp1, hp2⟩ := All.app hp
    exact wp_seq ((evC_ok hc fuel).1 _ s .normal s1 ps1 h1 hp1 _ β a w hr fun β' a' w' hr' => evM_ok hc n _ s1 _ _ qs h2 hp2 β' a' w' hr' hQ)
/-- A whole call. -/
theorem calls_end {c : Cfg} (hc : c.Sound) {K fuel : Nat} {f : FuncId} {fn : Func} {code : Code} {vs : List AV} {mem : List Blk} {β : Env} {w : World} {e : Ev.Ex} {s' : St} {ps : List Prop} {R : Ending → World → Prop}
    (hf : c.P.funcs[f]? = some fn) (hb : fn.body = some code) (hn : fn.ntmps = c.N) (hN : vs.length ≤ c.N) (hm : MemOk β mem w) (hi : InjOk β mem) (hro : RoOk β c.ro mem.length w) (hbs : mem.length ≤ c.base)
    (he : evC c K fuel code ⟨args0 0 vs, mem⟩ = some (e, s', ps)) (hp : All ps) (hex : e = .normal ∨ e = .ret)
    (hR : ∀ β' a' w', Rel c [] mem.length β w β' s' a' w' → ∃ v, (results fn a'.tmps).run c.P w' = .ok v w' ∧ R (.returned v) w') :
    Calls c.P f (vs.map (gv β)).toArray w R := by
  refine calls_of_wp hf hb ?_
  rw [hn]
  refine (evC_ok hc fuel).1 code _ e s' ps he hp _ β _ w (Rel.start hN hm hi hro hbs) fun β' a' w' hr => ?_
  obtain ⟨v, h1, h2⟩ := hR β' a' w' hr
  rcases hex with rfl | rfl
  · exact ⟨hr.defers, v, h1, h2⟩
  · exact ⟨hr.defers, v, h1, h2⟩
theorem res_tmp {c : Cfg} {D : List Deferred} {n0 : Nat} {β0 β : Env} {w0 w : World} {s : St} {a : Act} (hr : Rel c D n0 β0 w0 β s a w) {fn : Func} {r : Tmp} (hres : fn.results = #[.tmp r]) {v : AV} (hv : ev s (.tmp r) = some v) : (results fn a.tmps).run c.P w = .ok (gv β v) w := by
  rw [results_tmp hres]
  have := ev_ok hr.fr hv
  simp only [Act.eval] at this
  rw [this]
theorem res_tmp2 {c : Cfg} {D : List Deferred} {n0 : Nat} {β0 β : Env} {w0 w : World} {s : St} {a : Act} (hr : Rel c D n0 β0 w0 β s a w) {fn : Func} {r1 r2 : Tmp} (hres : fn.results = #[.tmp r1, .tmp r2]) {v1 v2 : SV} (h1 : ev s (.tmp r1) = some (.sc v1)) (h2 : ev s (.tmp r2) = some (.sc v2)) : (results fn a.tmps).run c.P w = .ok (gv β (.tup [v1, v2])) w := by
  rw [results_tmp2 hres]
  have e1 := ev_ok hr.fr h1
  have e2 := ev_ok hr.fr h2
  simp only [Act.eval] at e1 e2
  rw [e1, e2]
  rfl
/-- Fewer slots, fewer blocks. -/
theorem Rel.cut {c c' : Cfg} {D : List Deferred} {n0 : Nat} {β0 β : Env} {w0 w : World} {s t : St} {a : Act} (h : Rel c D n0 β0 w0 β s a w) (hN : c'.N = c.N) (hr : c'.ro = c.ro) (hb : c'.base = c.base) {ks : List Nat} (e1 : only s.fr ks = t.fr) (e2 : s.mem.take t.mem.length = t.mem) (hn : n0 ≤ t.mem.length) : Rel c' D n0 β0 w0 β t a w := by
  have hle : t.mem.length ≤ s.mem.length := by
    have := congrArg List.length e2
    rw [List.length_take] at this
    omega
  have hat : ∀ {g : Nat} {b : Blk}, t.mem[g]? = some b → s.mem[g]? = some b := fun {g b} hg => by
    have hlt : g < t.mem.length := (List.getElem?_eq_some_iff.1 hg).1
    rw [← e2, List.getElem?_take_of_lt hlt] at hg
    exact hg
  exact ⟨h.size.trans hN.symm, h.defers, fun d v hv => h.fr d v (look_only (ks := ks) (by rw [e1]; exact hv)), fun g b hg => h.mem g b (hat hg), fun g g' b b' hg hg' => h.inj g g' b b' (hat hg) (hat hg'), hn, h.old, h.oldc, h.row, by rw [hb]; exact h.bs,
    fun g m f hg => by
      obtain ⟨h1, h2, h3⟩ := h.ro g m f (by rw [← hr]; exact hg)
      exact ⟨h1, fun g' hg' => h2 g' (by omega), h3⟩, fun g h1 h2 => h.new g h1 (by omega), h.keep⟩

/-- A block told in another way. -/
theorem Rel.reblk {c : Cfg} {D : List Deferred} {n0 : Nat} {β0 β : Env} {w0 w : World} {fr : List (Nat × AV)} {mem : List Blk} {a : Act} (h : Rel c D n0 β0 w0 β ⟨fr, mem⟩ a w) {g : Nat} {b b' : Blk} (hg : mem[g]? = some b) (hb : b.whole = true) (hb' : b'.whole = true) (hl : b.list = b'.list) : Rel c D n0 β0 w0 β ⟨fr, mem.set g b'⟩ a w := by
  have hlt : g < mem.length := (List.getElem?_eq_some_iff.1 hg).1
  have live_ : ∀ {x : Blk}, x.whole = true → x.live = true := fun {x} hx => by cases x <;> first | rfl | cases hx
  have old_ : ∀ {k : Nat} {x : Blk}, (mem.set g b')[k]? = some x → (k = g ∧ x = b') ∨ mem[k]? = some x := fun {k x} hk => by
    by_cases hkg : k = g
    · subst hkg
      rw [List.getElem?_set_self hlt] at hk
      simp only [Option.some.injEq] at hk
      exact .inl ⟨rfl, hk.symm⟩
    · rw [List.getElem?_set_ne (Ne.symm hkg)] at hk
      exact .inr hk
  refine ⟨h.size, h.defers, h.fr, fun k x hx => ?_, fun k k' x x' hx hx' hl1 hl2 he => ?_, by simpa using h.lo, h.old, h.oldc, h.row, h.bs, fun k m f hk => ?_, fun k h1 h2 => h.new k h1 (by simpa using h2), h.keep⟩
  · rcases old_ hx with ⟨rfl, rfl⟩ | hx
    · obtain ⟨e, he⟩ := (h.mem k b hg).whole hb
      exact BlkOk.of_whole hb' ⟨e, by rw [← hl]; exact he⟩
    · exact h.mem k x hx
  · rcases old_ hx with ⟨e1, e2⟩ | hx1 <;> rcases old_ hx' with ⟨e3, e4⟩ | hx2
    · rw [e1, e3]
    · rw [e1] at he ⊢
      exact h.inj g k' b x' hg hx2 (live_ hb) hl2 he
    · rw [e3] at he ⊢
      exact h.inj k g x b hx1 hg hl1 (live_ hb) he
    · exact h.inj k k' x x' hx1 hx2 hl1 hl2 he
  · obtain ⟨h1, h2, h3⟩ := h.ro k m f hk
    exact ⟨h1, fun g' hg' => h2 g' (by simpa using hg'), h3⟩

/-! ### Calls that are walked into -/
def ends : Ev.Ex → Bool
  | .normal => true
  | .ret => true
  | _ => false
def cellRes (c : Cfg) (s : St) (r : Tmp) (ty : TypeId) : Option Blk := match ev s (.tmp r) with
  | some (.sc (.ptr g 0)) => match s.mem[g]?, Ev.lies c.P ty with
    | some b, some (some n) => bif b.whole && Nat.beq n b.len then some b else none
    | _, _ => none
  | _ => none
def result (c : Cfg) (fn : Func) (s : St) : Option AV :=
  match fn.results.toList with
  | [] => some .junk
  | [.tmp r] => ev s (.tmp r)
  | [.tmp r1, .tmp r2] => match ev s (.tmp r1), ev s (.tmp r2) with
    | some (.sc v1), some (.sc v2) => some (.tup [v1, v2])
    | _, _ => none
  | [.cell r ty] => match cellRes c s r ty with
    | some b => some (.agg b)
    | none => none
  | [.cell r ty, .tmp r2] => match cellRes c s r ty, ev s (.tmp r2) with
    | some b, some (.sc v) => some (.tupb b v)
    | _, _ => none
  | _ => none
theorem cellRes_ok {c : Cfg} {D : List Deferred} {n0 : Nat} {β0 β : Env} {w0 w : World} {s : St} {a : Act} (hr : Rel c D n0 β0 w0 β s a w) {r : Tmp} {ty : TypeId} {b : Blk} (h : cellRes c s r ty = some b) :
    ∃ ad, a.tmps[r]?.getD undef = .pointer (some ad) ∧ (loadVar ty ad).run c.P w = .ok (.agg (b.list.map (gs β)).toArray) w := by
  unfold cellRes at h
  split at h <;> (try simp only [reduceCtorEq] at h)
  rename_i g hv
  split at h <;> (try simp only [reduceCtorEq] at h)
  rename_i b1 n hg hl
  cases hb : (b1.whole && Nat.beq n b1.len) with
  | false => rw [hb] at h; cases h
  | true =>
    rw [hb] at h
    cases h
    simp only [Bool.and_eq_true] at hb
    obtain ⟨hb1, hb2⟩ := hb
    obtain rfl := Nat.eq_of_beq_eq_true hb2
    obtain ⟨e, he⟩ := (hr.mem g b hg).whole hb1
    have h1 := ev_ok hr.fr hv
    simp only [Act.eval, gv, gs] at h1
    obtain ⟨h2, h3⟩ := Ev.lies_agg hl w
    have hd : ∃ d, c.P.underlying ty = some d ∧ (match d with | .struct _ | .array _ _ => true | _ => false) = true := by
      unfold Ev.lies at hl
      split at hl <;> (try simp only [Option.some.injEq, reduceCtorEq] at hl)
      · rename_i hd hi; exact ⟨_, hd, rfl⟩
      · rename_i hd hi; exact ⟨_, hd, rfl⟩
      · rename_i i _ _ hd hi
        cases hb : Nat.beq i.size 1 <;> rw [hb] at hl <;> simp at hl
    obtain ⟨d, hd1, hd2⟩ := hd
    refine ⟨⟨β g, 0, none⟩, by simpa using h1, ?_⟩
    exact run_loadVar_row w (β g) e ty _ (0, 0) d he hd1 (by cases d <;> first | rfl | cases hd2) (by rw [h3]; simp [Blk.len_list])
theorem result_ok {c : Cfg} {D : List Deferred} {n0 : Nat} {β0 β : Env} {w0 w : World} {s : St} {a : Act} (hr : Rel c D n0 β0 w0 β s a w) {fn : Func} {v : AV} (h : result c fn s = some v) : (results fn a.tmps).run c.P w = .ok (gv β v) w := by
  unfold result at h
  split at h
  · rename_i hres
    cases h
    have hres' : fn.results = #[] := by apply Array.ext'; simpa using hres
    exact results_none hres' _ _ _
  · rename_i r hres
    have hres' : fn.results = #[.tmp r] := by apply Array.ext'; simpa using hres
    exact res_tmp hr hres' h
  · rename_i r1 r2 hres
    have hres' : fn.results = #[.tmp r1, .tmp r2] := by apply Array.ext'; simpa using hres
    split at h <;> (try simp only [Option.some.injEq, reduceCtorEq] at h)
    rename_i v1 v2 hv1 hv2
    subst h
    exact res_tmp2 hr hres' hv1 hv2
  · rename_i r ty hres
    have hres' : fn.results = #[.cell r ty] := by apply Array.ext'; simpa using hres
    split at h <;> (try simp only [Option.some.injEq, reduceCtorEq] at h)
    rename_i b hb
    subst h
    obtain ⟨ad, h3, h4⟩ := cellRes_ok hr hb
    simp [results, hres', h3, h4, gv, asAddr]
  · rename_i r ty r2 hres
    have hres' : fn.results = #[.cell r ty, .tmp r2] := by apply Array.ext'; simpa using hres
    split at h <;> (try simp only [Option.some.injEq, reduceCtorEq] at h)
    rename_i b v hb hv
    subst h
    obtain ⟨ad, h3, h4⟩ := cellRes_ok hr hb
    have h2 := ev_ok hr.fr hv
    simp only [Act.eval, gv] at h2
    have h2' : a.tmps[r2]?.getD undef = gs β v := by simpa using h2
    simp [results, hres', h3, h4, gv, asAddr, h2']
  · cases h

/-- A function walked into: its own choices and slots. -/
def inner (c : Cfg) (ch : List (Nat × Bool)) (n base : Nat) : Cfg := ⟨c.P, n, ch, c.ro, base, c.sym, c.q, c.wf⟩
def inl (c : Cfg) (ch : List (Nat × Bool)) (fuel : Nat) (f : FuncId) (args : List AV) (mem : List Blk) : Option (AV × St × List Prop) :=
  match c.P.funcs[f]? with
  | some fn => match fn.body with
    | some code => bif Nat.ble args.length fn.ntmps then
        match evC (inner c ch fn.ntmps mem.length) fn.ntmps fuel code ⟨args0 0 args, mem⟩ with
        | some (e, s, ps) => bif ends e then
            match result (inner c ch fn.ntmps mem.length) fn s with
            | some v => some (v, s, ps)
            | none => none
          else none
        | none => none
      else none
    | none => none
  | none => none
theorem Cfg.Sound.inner {c : Cfg} (hc : c.Sound) (ch : List (Nat × Bool)) (n base : Nat) : (inner c ch n base).Sound := ⟨hc.mixed, hc.qgo, hc.q, hc.wgo, hc.w⟩
theorem inl_ok {c : Cfg} (hc : c.Sound) {ch : List (Nat × Bool)} {fuel : Nat} {f : FuncId} {vs : List AV} {mem : List Blk} {v : AV} {s : St} {ps : List Prop} (h : inl c ch fuel f vs mem = some (v, s, ps)) (hp : All ps) {β : Env} {w : World}
    (hm : MemOk β mem w) (hi : InjOk β mem) (hro : RoOk β c.ro mem.length w) :
    Calls c.P f (vs.map (gv β)).toArray w fun x w' => ∃ β', After β mem w β' s.mem w' ∧ x = .returned (gv β' v) := by
  unfold inl at h
  split at h <;> (try simp only [reduceCtorEq] at h)
  rename_i fn hf
  split at h <;> (try simp only [reduceCtorEq] at h)
  rename_i code hb
  cases hN : Nat.ble vs.length fn.ntmps with
  | false => rw [hN] at h; cases h
  | true =>
    rw [hN] at h
    simp only [cond_true] at h
    have hN' := Nat.le_of_ble_eq_true hN
    split at h <;> (try simp only [reduceCtorEq] at h)
    rename_i e s1 ps1 he
    cases hen : ends e with
    | false => rw [hen] at h; cases h
    | true =>
      rw [hen] at h
      simp only [cond_true] at h
      have hex : e = .normal ∨ e = .ret := by cases e <;> simp [ends] at hen ⊢
      split at h <;> (try simp only [reduceCtorEq] at h)
      rename_i v1 hr
      simp only [Option.some.injEq, Prod.mk.injEq] at h
      obtain ⟨rfl, rfl, rfl⟩ := h
      refine calls_end (hc.inner ch fn.ntmps mem.length) hf hb rfl hN' hm hi hro (Nat.le_refl _) he hp hex fun β' a' w' hrel => ?_
      exact ⟨_, result_ok hrel hr, β', ⟨hrel.old, hrel.oldc, hrel.row, hrel.mem, hrel.lo, hrel.inj, hrel.new, hrel.keep⟩, rfl⟩
/-- A table with an entry more. -/
def addW (c : Cfg) (f : FuncId) (E : List AV → List Blk → Option (AV × List Blk × List Prop)) : Cfg :=
  ⟨c.P, c.N, c.ch, c.ro, c.base, c.sym, c.q, fun f' args mem => bif Nat.beq f f' then E args mem else c.wf f' args mem⟩
theorem addW_sound {c : Cfg} (hc : c.Sound) {f : FuncId} {E : List AV → List Blk → Option (AV × List Blk × List Prop)} (hgo : ∀ xs w, (callFunc f xs).run c.P w = .ok (.enter f xs) w)
    (hE : ∀ args mem v mem' ps, E args mem = some (v, mem', ps) → All ps → ∀ (β : Env) w, MemOk β mem w → InjOk β mem → RoOk β c.ro mem.length w → Calls c.P f (args.map (gv β)).toArray w (fun e w' => ∃ β', After β mem w β' mem' w' ∧ e = .returned (gv β' v))) : (addW c f E).Sound := by
  refine ⟨hc.mixed, hc.qgo, hc.q, fun f' args mem r h => ?_, fun f' args mem v mem' ps h hp β w hm hi hro => ?_⟩
  · simp only [addW] at h
    cases hb : Nat.beq f f' with
    | true => rw [← Nat.eq_of_beq_eq_true hb]; exact hgo
    | false => rw [hb] at h; exact hc.wgo f' args mem r h
  · simp only [addW] at h
    cases hb : Nat.beq f f' with
    | true =>
      rw [hb] at h
      rw [← Nat.eq_of_beq_eq_true hb]
      exact hE args mem v mem' ps h hp β w hm hi hro
    | false => rw [hb] at h; exact hc.w f' args mem v mem' ps h hp β w hm hi hro
/-- A function walked into as an entry. -/
def inlE (c : Cfg) (ch : List (Nat × Bool)) (fuel : Nat) (f : FuncId) (args : List AV) (mem : List Blk) : Option (AV × List Blk × List Prop) :=
  match inl c ch fuel f args mem with
  | some (v, s, ps) => some (v, s.mem, ps)
  | none => none
def into (c : Cfg) (ch : List (Nat × Bool)) (fuel : Nat) (f : FuncId) : Cfg := addW c f (inlE c ch fuel f)
theorem into_sound {c : Cfg} (hc : c.Sound) (ch : List (Nat × Bool)) (fuel : Nat) {f : FuncId} (hgo : ∀ xs w, (callFunc f xs).run c.P w = .ok (.enter f xs) w) : (into c ch fuel f).Sound :=
  addW_sound hc hgo fun args mem v mem' ps h hp β w hm hi hro => by
    unfold inlE at h
    split at h <;> (try simp only [Option.some.injEq, Prod.mk.injEq, reduceCtorEq] at h)
    rename_i v1 s1 ps1 h1
    obtain ⟨rfl, rfl, rfl⟩ := h
    exact inl_ok hc h1 hp hm hi hro
end Vc
end Go.Proofs.YtjcbphifdapkdaaDoor
