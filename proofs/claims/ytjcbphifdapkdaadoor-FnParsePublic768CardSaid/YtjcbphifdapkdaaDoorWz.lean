/-
  The row joined: whatever the key, the law answers true.
-/
import Derived.Test.YtjcbphifdapkdaaDoorVg
import Derived.Test.YtjcbphifdapkdaaDoorWm
import Derived.Test.YtjcbphifdapkdaaDoorWh
import Derived.Test.YtjcbphifdapkdaaDoorWi
namespace Go.Proofs.YtjcbphifdapkdaaDoor
namespace Vk
open Go.RowKit
open Vc (AV SV Blk)
theorem inlE_val {c : Vc.Cfg} (hc : c.Sound) {fuel : Nat} {f : FuncId} {args : List AV} {v : AV} {x : Value} {ps : List Prop} (h : (Vc.inlE c [] fuel f args []).map (fun r => (r.1, r.2.2)) = some (v, ps)) (hv : ∀ β, Vc.gv β v = x) (hp : Vc.All ps) {β : Vc.Env} {w : World} (hro : Vc.RoOk β c.ro 0 w) :
    Calls c.P f (args.map (Vc.gv β)).toArray w fun e w' => Below w.heap.size w w' ∧ e = .returned x := by
  obtain ⟨⟨v', mem', ps'⟩, h1, h2⟩ := some_map h
  simp only [Prod.mk.injEq] at h2
  obtain ⟨rfl, rfl⟩ := h2
  refine (inlE_calls hc h1 hp (β := β) (w := w) (fun g b h => by simp at h) (fun g g' b b' h => by simp at h) hro).mono ?_
  rintro e w' ⟨β', hA, rfl⟩
  exact ⟨after_nil hA, by rw [hv]⟩
theorem sumP_all {l : List Prop} (h : Vc.All l) : Vc.All (sumP ++ l) := ⟨by omega, by omega, by omega, by omega, by omega, by omega, by omega, by omega, by omega, by omega, by omega, by omega, by omega, h⟩
def Good (p : Nat → BitVec 8) : Prop := okD p 0 ∧ okD p 384 ∧ okD p 768
theorem six_bad {p : Nat → BitVec 8} {x : Nat} {β : Vc.Env} {w : World} (hro : Vc.RoOk β (kro [(1184, .b p)]) 0 w) (h : ¬ Good p) :
    Calls Tryd.prog 6 (([.sc (.rsl 1 0 1184 (x + 1184))] : List AV).map (Vc.gv β)).toArray w fun e w' => Below w.heap.size w w' ∧ e = .returned (.tuple #[.slice none 0 0, .bool false]) := by
  by_cases h0 : okD p 0
  · by_cases h1 : okD p 384
    · by_cases h2 : okD p 768
      · exact absurd ⟨h0, h1, h2⟩ h
      · exact inlE_val (u5_sound 1184 p 768 []) (u_bad2 p x) (fun _ => rfl) (sumP_all ⟨by omega, by omega, h0, by omega, by omega, h1, by omega, by omega, h2, trivial⟩) hro
    · exact inlE_val (u5_sound 1184 p 384 []) (u_bad1 p x) (fun _ => rfl) (sumP_all ⟨by omega, by omega, h0, by omega, by omega, h1, trivial⟩) hro
  · exact inlE_val (u5_sound 1184 p 0 []) (u_bad0 p x) (fun _ => rfl) (sumP_all ⟨by omega, by omega, h0, trivial⟩) hro
theorem six_good {p : Nat → BitVec 8} {x : Nat} {β : Vc.Env} {w : World} (hro : Vc.RoOk β (kro [(1184, .b p)]) 0 w) (h : Good p) (hN : allN p = true) :
    Calls Tryd.prog 6 (([.sc (.rsl 1 0 1184 (x + 1184))] : List AV).map (Vc.gv β)).toArray w fun e w' => Below w.heap.size w w' ∧ ∃ k, w.heap.size ≤ k ∧ k < w'.heap.size ∧ (∀ j, j < 1184 → w'.cell? ⟨k, j, none⟩ = some (.int .u8 (p j).toNat)) ∧ e = .returned (.tuple #[.slice (some ⟨k, 0, none⟩) 1184 1184, .bool true]) := by
  have hn : ∀ k, k < 9 → okS p (BitVec.ofNat 8 (k % 3)) (BitVec.ofNat 8 (k / 3)) := fun k hk => okS_of p k (List.all_eq_true.1 hN k (List.mem_range.2 hk))
  obtain ⟨h0, h1, h2⟩ := h
  obtain ⟨⟨v, mem', ps⟩, e1, e2⟩ := some_map (u_good p x)
  simp only [Prod.mk.injEq] at e2
  obtain ⟨rfl, e3, rfl⟩ := e2
  refine (inlE_calls (u5_sound 1184 p 5000 []) e1 (sumP_all ⟨by omega, by omega, h0, by omega, by omega, h1, by omega, by omega, h2, by omega, hn 0 (by omega), hn 1 (by omega), hn 2 (by omega), hn 3 (by omega), hn 4 (by omega), hn 5 (by omega), hn 6 (by omega), hn 7 (by omega), hn 8 (by omega), trivial⟩)
    (β := β) (w := w) (fun g b h => by simp at h) (fun g g' b b' h => by simp at h) hro).mono ?_
  rintro e w' ⟨β', hA, rfl⟩
  obtain ⟨el, hb⟩ := hA.cells 4 _ e3
  have hc : ∀ j, j < 1184 → w'.cell? ⟨β' 4, j, none⟩ = some (.int .u8 (p j).toNat) := fun j hj => by
    simp only [World.cell?, hb]
    rw [← back_at p j hj]
    simp [Blk.list, hj, Vc.gs]
  exact ⟨after_nil hA, β' 4, hA.new 4 (Nat.zero_le _) (List.getElem?_eq_some_iff.1 e3).1, block_lt_of_cell (hc 0 (by omega)), hc, rfl⟩
/-! ### At one world -/
def env0 (kb ko : Nat) : Vc.Env := ⟨fun _ => 0, fun _ => (kb, ko), fun _ => 0⟩
structure At (w0 : World) (kb ko : Nat) (p : Nat → BitVec 8) : Prop where
  lt : kb < w0.heap.size
  at_ : ∀ j, j < 1184 → w0.cell? ⟨kb, ko + j, none⟩ = some (.int .u8 (p j).toNat)
  lt0 : 0 < w0.heap.size
  rc : ∀ j, j < 24 → w0.cell? ⟨0, 0 + j, none⟩ = some (.int .u64 (rcF j).toNat)
section
variable {w0 : World} {kb ko : Nat} {p : Nat → BitVec 8}
theorem At.ro (h : At w0 kb ko p) {w : World} (hb : Below w0.heap.size w0 w) : Vc.RoOk (env0 kb ko) (kro [(1184, .b p)]) 0 w := fun g m f hg => by
  match g, hg with
  | 0, hg =>
    cases hg
    exact ⟨Nat.lt_of_lt_of_le h.lt0 hb.size, fun _ h0 => absurd h0 (Nat.not_lt_zero _), fun j hj => by
      have := hb.cell (p := ⟨0, 0 + j, none⟩) h.lt0
      exact this.trans (h.rc j hj)⟩
  | 1, hg =>
    cases hg
    exact ⟨Nat.lt_of_lt_of_le h.lt hb.size, fun _ h0 => absurd h0 (Nat.not_lt_zero _), fun j hj => by
      have := hb.cell (p := ⟨kb, ko + j, none⟩) h.lt
      exact this.trans (h.at_ j hj)⟩
  | g + 2, hg => simp [kro] at hg
theorem below_go {w0 w w2 : World} (hb : Below w0.heap.size w0 w) (h2 : Below w.heap.size w w2) : Below w0.heap.size w0 w2 := hb.trans (h2.mono hb.size)
theorem At.five (h : At w0 kb ko p) (C : Nat) {w : World} (hb : Below w0.heap.size w0 w) : Calls Tryd.prog 5 #[setV, .slice (some ⟨kb, ko + 1152, none⟩) 32 C] w fun e w2 => e = .returned (.bool (allN p)) ∧ Below w0.heap.size w0 w2 :=
  (ends_calls (h.ro hb) C).mono fun _ _ ⟨h1, h2⟩ => ⟨h2, below_go hb h1⟩
theorem At.six (h : At w0 kb ko p) (hg : ¬ Good p) (x : Nat) {w : World} (hb : Below w0.heap.size w0 w) : Calls Tryd.prog 6 #[.slice (some ⟨kb, ko, none⟩) 1184 (x + 1184)] w fun e w2 => e = .returned (.tuple #[.slice none 0 0, .bool false]) ∧ Below w0.heap.size w0 w2 :=
  (six_bad (x := x) (h.ro hb) hg).mono fun _ _ ⟨h1, h2⟩ => ⟨h2, below_go hb h1⟩
theorem At.seven (h : At w0 kb ko p) (x : Nat) {w : World} (hb : Below w0.heap.size w0 w) : Calls Tryd.prog 7 #[setV, .slice (some ⟨kb, ko, none⟩) 1184 (x + 1184)] w fun e w2 => e = .returned (.bool (okV p 0 && okV p 384 && okV p 768)) ∧ Below w.heap.size w w2 :=
  (valid_calls (x := x) (h.ro hb)).mono fun _ _ ⟨h1, h2⟩ => ⟨h2, h1⟩
def Kept (w0 : World) (p : Nat → BitVec 8) (k : Nat) (w : World) : Prop := Below w0.heap.size w0 w ∧ k < w.heap.size ∧ ∀ j, j < 1184 → w.cell? ⟨k, j, none⟩ = some (.int .u8 (p j).toNat)
theorem Kept.go {k : Nat} {w w2 : World} (h : Kept w0 p k w) (hb : Below w.heap.size w w2) : Kept w0 p k w2 :=
  ⟨below_go h.1 hb, Nat.lt_of_lt_of_le h.2.1 hb.size, fun j hj => (hb.cell (p := ⟨k, j, none⟩) h.2.1).trans (h.2.2 j hj)⟩
theorem bytes_conv {w : World} {b o C : Nat} (hc : ∀ j, j < 1184 → w.cell? ⟨b, o + j, none⟩ = some (.int .u8 (p j).toNat)) : (convert 22 9 (.slice (some ⟨b, o, none⟩) 1184 C)).run Tryd.prog w = .ok (.string (strOfNums ((List.range 1184).map fun j => ((p j).toNat : Int)))) w :=
  run_convert_bytes_arg w 22 5 Tryd.underlying22 Tryd.underlying5 b o 1184 C _ (by simp) (fun i hi => by
    rw [hc i hi]
    simp [List.getD, hi]) 9 Tryd.underlying9
end
theorem top_at {w0 : World} {kb ko : Nat} {p : Nat → BitVec 8} (h : At w0 kb ko p) (x : Nat) : Calls Tryd.prog 3 #[.slice (some ⟨kb, ko, none⟩) 1184 (x + 1184)] w0 fun e w' => e = .returned (.bool true) ∧ Below w0.heap.size w0 w' := by
  cases hN : allN p with
  | false => exact top_no ⟨kb, ko, none⟩ (x + 1184) w0 (by omega) fun w hb => by rw [← hN]; exact h.five _ hb
  | true =>
    by_cases hg : Good p
    · refine top_good (Kept w0 p) ⟨kb, ko, none⟩ (x + 1184) w0 (by omega) (fun _ _ hk => hk.1) (fun w hb => by rw [← hN]; exact h.five _ hb) (fun w hb => ?_) (fun k w hk => ?_) (fun k w hk => ?_) fun k w hk => ?_
      · refine (six_good (x := x) (h.ro hb) hg hN).mono ?_
        rintro e w2 ⟨h1, k, _, h3, h4, rfl⟩
        exact ⟨k, rfl, below_go hb h1, h3, h4⟩
      · exact (set_any w).mono fun _ _ ⟨h1, h2⟩ => ⟨h1, hk.go h2⟩
      · refine (h.seven x hk.1).mono ?_
        rintro e w2 ⟨rfl, h2⟩
        rw [(okV_iff p 0).2 hg.1, (okV_iff p 384).2 hg.2.1, (okV_iff p 768).2 hg.2.2]
        exact ⟨rfl, hk.go h2⟩
      · refine (alike_any _ _ _ w (bytes_conv (o := 0) fun j hj => by rw [Nat.zero_add]; exact hk.2.2 j hj) (bytes_conv fun j hj => ((hk.1.cell (p := ⟨kb, ko + j, none⟩) h.lt).trans (h.at_ j hj)))).mono ?_
        rintro e w2 ⟨rfl, rfl⟩
        exact ⟨rfl, hk⟩
    · refine top_bad ⟨kb, ko, none⟩ (x + 1184) w0 (by omega) (fun w hb => by rw [← hN]; exact h.five _ hb) (fun w hb => h.six hg x hb) fun w hb => ?_
      refine (h.seven x hb).mono ?_
      rintro e w2 ⟨rfl, h2⟩
      refine ⟨?_, below_go hb h2⟩
      cases h1 : okV p 0 with
      | false => rfl
      | true => cases h2 : okV p 384 with
        | false => rfl
        | true => cases h3 : okV p 768 with
          | false => rfl
          | true => exact absurd ⟨(okV_iff p 0).1 h1, (okV_iff p 384).1 h2, (okV_iff p 768).1 h3⟩ hg
/-- Whatever the key. -/
theorem top_any (v : Option Addr) (L C : Nat) (w0 : World) (hLC : L ≤ C) (hv : L = 1184 → ∃ kb ko p, v = some ⟨kb, ko, none⟩ ∧ At w0 kb ko p) :
    Calls Tryd.prog 3 #[.slice v L C] w0 fun e w' => e = .returned (.bool true) ∧ Below w0.heap.size w0 w' := by
  by_cases h1 : 2147483647 < L
  · exact top_len v L C w0 h1
  · by_cases h2 : L = 1184
    · subst h2
      obtain ⟨kb, ko, p, rfl, h⟩ := hv rfl
      obtain ⟨x, rfl⟩ : ∃ x, C = x + 1184 := ⟨C - 1184, by omega⟩
      exact top_at h x
    · exact top_len0 v L C w0 h2 (by omega) (fun w hb => six_len v L C _ w0 w h2 hb (Nat.le_refl _)) fun w hb => seven_len v L C _ w0 w h2 hb (Nat.le_refl _)
end Vk
end Go.Proofs.YtjcbphifdapkdaaDoor
