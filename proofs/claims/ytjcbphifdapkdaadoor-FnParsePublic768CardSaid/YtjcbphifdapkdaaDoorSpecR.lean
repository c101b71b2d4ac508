/-
  The statement's own Keccak, whole: its round constants, and its 24 rounds on 25 words.
-/
import Derived.Test.YtjcbphifdapkdaaDoorSpecK
namespace Go.Proofs.YtjcbphifdapkdaaDoor
open Go.RowKit
open Ev (AV SV)

theorem outOf_some {r : Option (Ev.Ex × Ev.St)} {c : Ev.Cfg} {t : Nat} {cs : List SV} (h : outOf r c t = some cs) :
    ∃ s g, r = some (.ret, s) ∧ Ev.ev c s (.tmp t) = some (.sc (.ptr g 0)) ∧ s.mem[g]? = some cs := by
  unfold outOf at h
  split at h <;> (try simp only [reduceCtorEq] at h)
  rename_i s
  split at h <;> (try simp only [reduceCtorEq] at h)
  rename_i g hg
  exact ⟨s, g, rfl, hg, h⟩

/-- A number that stands for any block: where no pointer lies it says nothing. -/
def nob : Ev.Env := ⟨fun _ => 0, fun _ => (0, 0)⟩
theorem keep_below {w w' : World} (h : Ev.Keep (fun b => ∃ g, g < 0 ∧ nob g = b) w w') : Below w.heap.size w w' :=
  ⟨h.os, h.tape, h.output, h.size, fun k hk => h.block k hk (fun ⟨g, hg, _⟩ => by omega)⟩

theorem calls_of_out {c : Ev.Cfg} (hc : c.Sound) (hP : c.P = Tryd.prog) (hgl : c.gl = []) (hro : c.ro = []) {f : Nat} {fn : Func} {r ty : Nat} (hf : Tryd.prog.funcs[f]? = some fn) (hb : fn.body = some (bodyOf f)) (hn : fn.ntmps = c.N) (hres : fn.results = #[.cell r ty]) {vs : List AV}
    (hN : vs.length ≤ c.N) {fuel : Nat} {cs : List SV} (ho : outOf (Ev.evC c c.N fuel (bodyOf f) ⟨Ev.args0 0 vs, [], true⟩) c r = some cs) (hty : Ev.lies Tryd.prog ty = some (some cs.length)) (hsc : cs.all (Ev.scS 0) = true) (w : World) :
    Calls Tryd.prog f (vs.map (Ev.gv nob)).toArray w fun e w' => e = .returned (Ev.gv nob (.agg cs)) ∧ Below w.heap.size w w' := by
  obtain ⟨s, g, h1, h2, h3⟩ := outOf_some ho
  rw [← hP] at hf hty ⊢
  refine (Ev.calls_cell hc (β := nob) (mem := []) (w := w) hf hb hn hres hN (fun g cs h => by simp at h) (fun g g' hg => by simp at hg) (by rw [hro, hgl]; exact Ev.RoOk.nil) h1 (.inr rfl) h2 h3 hty).mono ?_
  rintro x w' ⟨β', a', hr, rfl⟩
  exact ⟨by rw [Ev.gv_same (n := 0) (fun g hg => by omega) hr.row (x := .agg cs) hsc], keep_below hr.keep⟩

/-- 25 words as a value. -/
def LV (x : Nat → BitVec 64) : Value := Ev.gv nob (.agg (L x))
theorem L_sc (x : Nat → BitVec 64) (n : Nat) : (L x).all (Ev.scS n) = true := rfl
theorem lies71 : Ev.lies Tryd.prog 71 = some (some 25) := by kernel_rfl
theorem lies72 : Ev.lies Tryd.prog 72 = some (some 24) := by kernel_rfl
theorem body39 : Tryd.f39.body = some (bodyOf 39) := by kernel_rfl
theorem body40 : Tryd.f40.body = some (bodyOf 40) := by kernel_rfl
theorem body41 : Tryd.f41.body = some (bodyOf 41) := by kernel_rfl
theorem body42 : Tryd.f42.body = some (bodyOf 42) := by kernel_rfl
theorem body28 : Tryd.f28.body = some (bodyOf 28) := by kernel_rfl
theorem body29 : Tryd.f29.body = some (bodyOf 29) := by kernel_rfl

theorem chi_any (x : Nat → BitVec 64) (w : World) : Calls Tryd.prog 39 #[LV x] w fun e w' => e = .returned (LV (chiF x)) ∧ Below w.heap.size w w' :=
  calls_of_out (cfgT_sound 46) rfl rfl rfl Tryd.func39 body39 Tryd.ntmps39 rfl (vs := [.agg (L x)]) (by show 1 ≤ 46; omega) (chi_out x) lies71 (L_sc _ _) w
theorem pi_any (x : Nat → BitVec 64) (w : World) : Calls Tryd.prog 40 #[LV x] w fun e w' => e = .returned (LV (piF x)) ∧ Below w.heap.size w w' :=
  calls_of_out (cfgT_sound 31) rfl rfl rfl Tryd.func40 body40 Tryd.ntmps40 rfl (vs := [.agg (L x)]) (by show 1 ≤ 31; omega) (pi_out x) lies71 (L_sc _ _) w
theorem rho_any (x : Nat → BitVec 64) (w : World) : Calls Tryd.prog 41 #[LV x] w fun e w' => e = .returned (LV (rhoF x)) ∧ Below w.heap.size w w' :=
  calls_of_out (cfgT_sound 39) rfl rfl rfl Tryd.func41 body41 Tryd.ntmps41 rfl (vs := [.agg (L x)]) (by show 1 ≤ 39; omega) (rho_out x) lies71 (L_sc _ _) w
theorem theta_any (x : Nat → BitVec 64) (w : World) : Calls Tryd.prog 42 #[LV x] w fun e w' => e = .returned (LV (thetaF x)) ∧ Below w.heap.size w w' :=
  calls_of_out (cfgT_sound 66) rfl rfl rfl Tryd.func42 body42 Tryd.ntmps42 rfl (vs := [.agg (L x)]) (by show 1 ≤ 66; omega) (theta_out x) lies71 (L_sc _ _) w

/-- The round constants. -/
def RC : List SV := [.u64 1#64, .u64 32898#64, .u64 9223372036854808714#64, .u64 9223372039002292224#64, .u64 32907#64, .u64 2147483649#64, .u64 9223372039002292353#64, .u64 9223372036854808585#64, .u64 138#64, .u64 136#64, .u64 2147516425#64, .u64 2147483658#64, .u64 2147516555#64, .u64 9223372036854775947#64, .u64 9223372036854808713#64, .u64 9223372036854808579#64, .u64 9223372036854808578#64, .u64 9223372036854775936#64, .u64 32778#64, .u64 9223372039002259466#64, .u64 9223372039002292353#64, .u64 9223372036854808704#64, .u64 2147483649#64, .u64 9223372039002292232#64]
set_option maxRecDepth 100000 in
theorem rc_out : outOf (Ev.evC (cfgT 35) 35 1000 (bodyOf 28) ⟨Ev.args0 0 [], [], true⟩) (cfgT 35) 0 = some RC := by kernel_rfl
theorem rc_any (w : World) : Calls Tryd.prog 28 #[] w fun e w' => e = .returned (Ev.gv nob (.agg RC)) ∧ Below w.heap.size w w' :=
  calls_of_out (cfgT_sound 35) rfl rfl rfl Tryd.func28 body28 Tryd.ntmps28 rfl (vs := []) (by show 0 ≤ 35; omega) rc_out lies72 rfl w
end Go.Proofs.YtjcbphifdapkdaaDoor
