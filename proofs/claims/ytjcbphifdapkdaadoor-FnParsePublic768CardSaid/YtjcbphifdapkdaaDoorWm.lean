/-
  Plain laws: the two streams are one; where the statement's own sampling ends the program's does.
-/
import Derived.Test.YtjcbphifdapkdaaDoorWl
import Derived.Test.YtjcbphifdapkdaaDoorLaw
namespace Go.Proofs.YtjcbphifdapkdaaDoor
namespace Vk
open Go.RowKit
open Vc (AV SV Blk)
theorem part8 (f : Nat → BitVec 8) (j : Nat) : part f j 8 = lane f j := by
  unfold lane
  rw [← bytes_xor]
  simp only [part]
  rfl
theorem lane_zero (f : Nat → BitVec 8) (i : Nat) (h : ∀ k, k < 8 → f (8 * i + k) = 0#8) : lane f i = 0#64 := by
  unfold lane
  rw [show f (8 * i) = 0#8 from h 0 (by omega), h 1 (by omega), h 2 (by omega), h 3 (by omega), h 4 (by omega), h 5 (by omega), h 6 (by omega), h 7 (by omega)]
  rfl
theorem padX_zero (s : Nat → BitVec 8) {j : Nat} (hj : 168 ≤ j) : padX s j = 0#8 := by
  unfold padX padB
  rw [nbeq_no (by omega)]
  simp only [cond_false]
  rw [if_neg (by omega), if_neg (by omega)]
theorem absA_lane (s : Nat → BitVec 8) : ∀ i, i < 25 → absA (padX s) i = lane (padX s) i := fun i hi => by
  unfold absA absK
  by_cases h : i < 21
  · rw [show min 8 (168 - 8 * i) = 8 by omega]
    exact part8 _ _
  · rw [show min 8 (168 - 8 * i) = 0 by omega, lane_zero _ _ fun k hk => padX_zero s (by omega)]
    rfl
theorem blk_st {D s : Nat → BitVec 8} (h : ∀ j, j < 200 → padS D j = padX s j) : ∀ b j, j < 200 → blkS D b j = byteOf (stX (padX s) b) j
  | 0 => fun j hj => by
    show byteOf (kecF (lane (padS D))) j = byteOf (kecF (absA (padX s))) j
    refine byteOf_congr (fun i hi => ?_) j hj
    refine kecF_congr (fun i hi => ?_) i hi
    rw [absA_lane s i hi]
    exact lane_congr h i hi
  | b + 1 => fun j hj => by
    show byteOf (kecF (lane (blkS D b))) j = byteOf (kecF (stX (padX s) b)) j
    refine byteOf_congr (fun i hi => ?_) j hj
    refine kecF_congr (fun i hi => ?_) i hi
    rw [lane_congr (blk_st h b) i hi]
    exact lane_byteOf _ i
theorem byte_form (x : Nat → BitVec 64) (j : Nat) : byteOf x j = (x (j / 8) >>> (8 * (j % 8))).setWidth 8 := by
  unfold byteOf
  split
  · rename_i h
    rw [h]
    simp
  · rename_i k h
    rfl
theorem str_out {D s : Nat → BitVec 8} (h : ∀ j, j < 200 → padS D j = padX s j) (k : Nat) : strS D k = outB (padX s) k := by
  unfold strS outB
  rw [blk_st h _ _ (by omega), byte_form]
theorem pad_eq {D s : Nat → BitVec 8} (h1 : ∀ j, j < 34 → D j = s j) (h2 : ∀ j, 34 ≤ j → D j = 0#8) : ∀ j, j < 200 → padS D j = padX s j := fun j _ => by
  unfold padS padX padB
  by_cases c1 : j = 167
  · subst c1
    simp [h2 167 (by omega)]
  · rw [nbeq_no c1]
    simp only [cond_false]
    by_cases c2 : j = 34
    · subst c2
      simp [h2 34 (by omega)]
    · rw [nbeq_no c2]
      simp only [cond_false]
      by_cases c3 : j < 34
      · rw [if_pos c3, h1 j c3]
      · rw [if_neg c3, if_neg c2, h2 j (by omega)]
/-! ### Counting -/
theorem push_count (p : (Nat → Int) × Nat) (v : Int) : (pushI p v).2 = if v < 3329 ∧ p.2 < 256 then p.2 + 1 else p.2 := by
  unfold pushI
  split <;> rfl
theorem or16 (x y : BitVec 8) : ((x.setWidth 16 ||| y.setWidth 16 <<< 8 : BitVec 16)).toNat = x.toNat + 256 * y.toNat := by
  have h1 := x.isLt
  have h2 := y.isLt
  simp only [BitVec.toNat_or, BitVec.toNat_shiftLeft, BitVec.toNat_setWidth]
  rw [Nat.mod_eq_of_lt (by omega), Nat.mod_eq_of_lt (a := y.toNat) (by omega), Nat.mod_eq_of_lt (a := y.toNat <<< 8) (by rw [Nat.shiftLeft_eq]; omega), or_shift (by omega)]
  omega
theorem one_eq {S T : Nat → BitVec 8} {t : Nat} (h : ∀ j, j < 3 * t + 3 → S j = T j) : ((one3 S t).toNat : Int) = oneI T t := by
  unfold one3 oneI bI
  rw [BitVec.toNat_and, or16]
  have e : (4095#16 : BitVec 16).toNat = 2 ^ 12 - 1 := rfl
  rw [e, Nat.and_two_pow_sub_one_eq_mod, h (3 * t) (by omega), h (3 * t + 1) (by omega)]
  rw [show 0 + ((3 * t : Nat) : Int).toNat * 1 = 3 * t by omega, show 0 + (((3 * t : Nat) : Int) + 1).toNat * 1 = 3 * t + 1 by omega]
  have h1 := (T (3 * t)).isLt
  have h2 := (T (3 * t + 1)).isLt
  omega
theorem two_eq {S T : Nat → BitVec 8} {t : Nat} (h : ∀ j, j < 3 * t + 3 → S j = T j) : ((two3 S t).toNat : Int) = twoI T t := by
  unfold two3 twoI bI
  rw [BitVec.toNat_ushiftRight, or16, Nat.shiftRight_eq_div_pow, h (3 * t + 1) (by omega), h (3 * t + 2) (by omega)]
  rw [show 0 + (((3 * t : Nat) : Int) + 1).toNat * 1 = 3 * t + 1 by omega, show 0 + (((3 * t : Nat) : Int) + 2).toNat * 1 = 3 * t + 2 by omega]
  have h1 := (T (3 * t + 1)).isLt
  have h2 := (T (3 * t + 2)).isLt
  omega
theorem run_some {S T : Nat → BitVec 8} {c : Nat} (hc : c = 256) (m : Nat) : ∀ (n t : Nat) (f : Nat → BitVec 16) (j : Nat), m ≤ n → j < 256 → (∀ x, x < 3 * (t + m) → S x = T x) → (foldI T t).2 = j → (foldI T (t + m)).2 = c → (runS S n t f j).isSome = true := by
  induction m with
  | zero =>
    intro n t f j _ hj _ h1 h2
    rw [Nat.add_zero, h1] at h2
    omega
  | succ m run_some =>
    intro n t f j hn hj hS h1 h2
    obtain ⟨n, rfl⟩ : ∃ k, n = k + 1 := ⟨n - 1, by omega⟩
    have e1 := one_eq (S := S) (T := T) (t := t) fun x hx => hS x (by omega)
    have e2 := two_eq (S := S) (T := T) (t := t) fun x hx => hS x (by omega)
    have e3 : (foldI T (t + 1)).2 = (pushI (pushI (foldI T t) (oneI T t)) (twoI T t)).2 := rfl
    rw [push_count, push_count, h1, ← e1, ← e2] at e3
    have h2' : (foldI T (t + 1 + m)).2 = c := by rw [← h2, show t + 1 + m = t + (m + 1) by omega]
    have next : ∀ f' j', j' < 256 → (foldI T (t + 1)).2 = j' → (runS S n (t + 1) f' j').isSome = true := fun f' j' hj' he =>
      run_some n (t + 1) f' j' (by omega) hj' (fun x hx => hS x (by omega)) he h2'
    simp only [runS]
    by_cases c1 : (one3 S t).toNat < 3329
    · rw [if_pos c1]
      have d1 : ((one3 S t).toNat : Int) < 3329 ∧ j < 256 := ⟨by omega, hj⟩
      rw [if_pos d1] at e3
      by_cases c2 : j + 1 ≥ 256
      · rw [if_pos c2]
        rfl
      · rw [if_neg c2]
        by_cases c3 : (two3 S t).toNat < 3329
        · rw [if_pos c3]
          have d2 : ((two3 S t).toNat : Int) < 3329 ∧ j + 1 < 256 := ⟨by omega, by omega⟩
          rw [if_pos d2] at e3
          by_cases c4 : j + 2 ≥ 256
          · rw [if_pos c4]
            rfl
          · rw [if_neg c4]
            exact next _ _ (by omega) e3
        · rw [if_neg c3]
          have d2 : ¬ (((two3 S t).toNat : Int) < 3329 ∧ j + 1 < 256) := fun d => c3 (by omega)
          rw [if_neg d2] at e3
          exact next _ _ (by omega) e3
    · rw [if_neg c1]
      have d1 : ¬ (((one3 S t).toNat : Int) < 3329 ∧ j < 256) := fun d => c1 (by omega)
      rw [if_neg d1] at e3
      by_cases c3 : (two3 S t).toNat < 3329
      · rw [if_pos c3]
        have d2 : ((two3 S t).toNat : Int) < 3329 ∧ j < 256 := ⟨by omega, hj⟩
        rw [if_pos d2] at e3
        by_cases c4 : j + 1 ≥ 256
        · rw [if_pos c4]
          rfl
        · rw [if_neg c4]
          exact next _ _ (by omega) e3
      · rw [if_neg c3]
        have d2 : ¬ (((two3 S t).toNat : Int) < 3329 ∧ j < 256) := fun d => c3 (by omega)
        rw [if_neg d2] at e3
        exact next _ _ hj e3
theorem saw_got {T : Nat → BitVec 8} : ∀ {r M : Nat}, sawN T r M = true → ∃ K, M ≤ K ∧ K < M + r ∧ gotR T K = true
  | 0, _, h => by cases h
  | r + 1, M, h => by
    simp only [sawN, Bool.or_eq_true] at h
    rcases h with h | h
    · exact ⟨M, Nat.le_refl _, by omega, h⟩
    · obtain ⟨K, h1, h2, h3⟩ := saw_got h
      exact ⟨K, by omega, by omega, h3⟩
/-- Where the statement's own sampling ends the program's does. -/
theorem okS_of (p : Nat → BitVec 8) (k : Nat) (h : sawN (seedK p k) 12 5 = true) : okS p (BitVec.ofNat 8 (k % 3)) (BitVec.ofNat 8 (k / 3)) := by
  obtain ⟨M, h1, h2, h3⟩ := saw_got h
  unfold gotR at h3
  have h3 := of_decide_eq_true h3
  have hT : (fun j => seedK p k (0 + j)) = seedK p k := by
    funext j
    rw [Nat.zero_add]
  unfold strN at h3
  rw [hT] at h3
  have e1 : (168 * ((M : Nat) : Int)).toNat / 3 = 56 * M := by omega
  have e2 : (168 * ((M : Nat) : Int)).toNat = 168 * M := by omega
  rw [e1, e2] at h3
  have hD : ∀ x, strS (D0 (Vc.getb (rhoL p)) (BitVec.ofNat 8 (k % 3)) (BitVec.ofNat 8 (k / 3))) x = outB (padX (seedK p k)) x := fun x => by
    refine str_out (pad_eq (fun j hj => ?_) fun j hj => ?_) x
    · unfold D0 seedK xorD Vc.cat
      by_cases c : j < 32
      · rw [if_neg (by omega), if_pos (by omega), nblt_yes c, nblt_no (by omega)]
        simp only [cond_true, cond_false, Nat.zero_add, Nat.sub_zero]
        rw [rho_at p c, BitVec.zero_xor]
      · rw [if_pos (by omega), if_neg (by omega), nblt_no c]
        simp only [cond_false, Nat.zero_add]
        rw [BitVec.zero_xor]
        rcases (by omega : j = 32 ∨ j = 33) with rfl | rfl <;> rfl
    · unfold D0 xorD
      rw [if_neg (by omega), if_neg (by omega)]
  unfold okS
  refine run_some rfl (T := outN (padX (seedK p k)) (168 * M)) (56 * M) 896 0 _ 0 (by omega) (by omega) (fun x hx => ?_) rfl ?_
  · rw [hD]
    unfold outN
    rw [if_pos (by omega)]
  · rw [Nat.zero_add]
    exact h3
end Vk
end Go.Proofs.YtjcbphifdapkdaaDoor
