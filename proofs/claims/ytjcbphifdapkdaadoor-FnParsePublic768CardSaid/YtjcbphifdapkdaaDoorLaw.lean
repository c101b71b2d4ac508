/-
  Plain laws: bytes and lanes, the stream of bytes.
-/
import Derived.Test.YtjcbphifdapkdaaDoorImpF0
namespace Go.Proofs.YtjcbphifdapkdaaDoor

theorem kecF_congr {x y : Nat → BitVec 64} (h : ∀ i, i < 25 → x i = y i) : ∀ i, i < 25 → kecF x i = kecF y i := by
  have key : ∀ (cs : List (BitVec 64)) (x y : Nat → BitVec 64), (∀ i, i < 25 → x i = y i) → ∀ i, i < 25 → cs.foldl (fun x c => rndF c x) x i = cs.foldl (fun x c => rndF c x) y i := by
    intro cs
    induction cs with
    | nil => exact fun _ _ h => h
    | cons c r ih => exact fun x y h => ih _ _ (rndF_congr c h)
  exact key RCN x y h
theorem lane_congr {d e : Nat → BitVec 8} (h : ∀ j, j < 200 → d j = e j) : ∀ i, i < 25 → lane d i = lane e i := fun i hi => by
  unfold lane
  rw [h _ (by omega), h (8 * i + 1) (by omega), h (8 * i + 2) (by omega), h (8 * i + 3) (by omega), h (8 * i + 4) (by omega), h (8 * i + 5) (by omega), h (8 * i + 6) (by omega), h (8 * i + 7) (by omega)]
theorem byteOf_congr {x y : Nat → BitVec 64} (h : ∀ i, i < 25 → x i = y i) : ∀ j, j < 200 → byteOf x j = byteOf y j := fun j hj => by
  unfold byteOf
  rw [h (j / 8) (by omega)]
theorem kecD_congr {d e : Nat → BitVec 8} (h : ∀ j, j < 200 → d j = e j) : ∀ j, j < 200 → kecD d j = kecD e j :=
  byteOf_congr (kecF_congr (lane_congr h))

/-- Eight bytes of a word, put together again. -/
theorem bytes_back (X : BitVec 64) : (X.setWidth 8).setWidth 64 ||| ((X >>> 8).setWidth 8).setWidth 64 <<< 8 ||| ((X >>> 16).setWidth 8).setWidth 64 <<< 16 ||| ((X >>> 24).setWidth 8).setWidth 64 <<< 24 ||| ((X >>> 32).setWidth 8).setWidth 64 <<< 32 ||| ((X >>> 40).setWidth 8).setWidth 64 <<< 40 ||| ((X >>> 48).setWidth 8).setWidth 64 <<< 48 ||| ((X >>> 56).setWidth 8).setWidth 64 <<< 56 = X := by
  apply BitVec.eq_of_getLsbD_eq
  intro i hi
  simp only [BitVec.getLsbD_or, BitVec.getLsbD_shiftLeft, BitVec.getLsbD_setWidth, BitVec.getLsbD_ushiftRight]
  have h8 : i / 8 = 0 ∨ i / 8 = 1 ∨ i / 8 = 2 ∨ i / 8 = 3 ∨ i / 8 = 4 ∨ i / 8 = 5 ∨ i / 8 = 6 ∨ i / 8 = 7 := by omega
  have at_ : ∀ k : Nat, (decide (i < 64) && !decide (i < k) && (decide (i - k < 64) && (decide (i - k < 8) && X.getLsbD (k + (i - k))))) = (decide (k ≤ i) && decide (i < k + 8) && X.getLsbD i) := fun k => by
    by_cases h1 : k ≤ i
    · by_cases h2 : i < k + 8
      · have e : k + (i - k) = i := by omega
        simp [hi, h1, h2, e, show ¬ i < k by omega, show i - k < 64 by omega, show i - k < 8 by omega]
      · simp [h2, show ¬ i - k < 8 by omega]
    · simp [h1, show i < k by omega]
  simp only [at_]
  have e0 : (decide (i < 64) && (decide (i < 8) && X.getLsbD i)) = (decide (i < 8) && X.getLsbD i) := by simp [hi]
  simp only [e0]
  rcases h8 with h | h | h | h | h | h | h | h
  · simp [show i < 8 by omega, show ¬ 8 ≤ i by omega, show ¬ 16 ≤ i by omega, show ¬ 24 ≤ i by omega, show ¬ 32 ≤ i by omega, show ¬ 40 ≤ i by omega, show ¬ 48 ≤ i by omega, show ¬ 56 ≤ i by omega]
  · simp [show ¬ i < 8 by omega, show 8 ≤ i by omega, show i < 16 by omega, show ¬ 16 ≤ i by omega, show ¬ 24 ≤ i by omega, show ¬ 32 ≤ i by omega, show ¬ 40 ≤ i by omega, show ¬ 48 ≤ i by omega, show ¬ 56 ≤ i by omega]
  · simp [show ¬ i < 8 by omega, show ¬ i < 16 by omega, show 16 ≤ i by omega, show i < 24 by omega, show ¬ 24 ≤ i by omega, show ¬ 32 ≤ i by omega, show ¬ 40 ≤ i by omega, show ¬ 48 ≤ i by omega, show ¬ 56 ≤ i by omega]
  · simp [show ¬ i < 8 by omega, show ¬ i < 16 by omega, show ¬ i < 24 by omega, show 24 ≤ i by omega, show i < 32 by omega, show ¬ 32 ≤ i by omega, show ¬ 40 ≤ i by omega, show ¬ 48 ≤ i by omega, show ¬ 56 ≤ i by omega]
  · simp [show ¬ i < 8 by omega, show ¬ i < 16 by omega, show ¬ i < 24 by omega, show ¬ i < 32 by omega, show 32 ≤ i by omega, show i < 40 by omega, show ¬ 40 ≤ i by omega, show ¬ 48 ≤ i by omega, show ¬ 56 ≤ i by omega]
  · simp [show ¬ i < 8 by omega, show ¬ i < 16 by omega, show ¬ i < 24 by omega, show ¬ i < 32 by omega, show ¬ i < 40 by omega, show 40 ≤ i by omega, show i < 48 by omega, show ¬ 48 ≤ i by omega, show ¬ 56 ≤ i by omega]
  · simp [show ¬ i < 8 by omega, show ¬ i < 16 by omega, show ¬ i < 24 by omega, show ¬ i < 32 by omega, show ¬ i < 40 by omega, show ¬ i < 48 by omega, show 48 ≤ i by omega, show i < 56 by omega, show ¬ 56 ≤ i by omega]
  · simp [show ¬ i < 8 by omega, show ¬ i < 16 by omega, show ¬ i < 24 by omega, show ¬ i < 32 by omega, show ¬ i < 40 by omega, show ¬ i < 48 by omega, show ¬ i < 56 by omega, show 56 ≤ i by omega, show i < 64 by omega]
theorem byteOf_at (x : Nat → BitVec 64) (i : Nat) : byteOf x (8 * i) = (x i).setWidth 8 ∧ byteOf x (8 * i + 1) = (x i >>> 8).setWidth 8 ∧ byteOf x (8 * i + 2) = (x i >>> 16).setWidth 8 ∧ byteOf x (8 * i + 3) = (x i >>> 24).setWidth 8 ∧ byteOf x (8 * i + 4) = (x i >>> 32).setWidth 8 ∧ byteOf x (8 * i + 5) = (x i >>> 40).setWidth 8 ∧ byteOf x (8 * i + 6) = (x i >>> 48).setWidth 8 ∧ byteOf x (8 * i + 7) = (x i >>> 56).setWidth 8 := by
  unfold byteOf
  refine ⟨?_, ?_, ?_, ?_, ?_, ?_, ?_, ?_⟩
  · rw [show 8 * i % 8 = 0 by omega, show 8 * i / 8 = i by omega]
    rfl
  · rw [show (8 * i + 1) % 8 = 1 by omega, show (8 * i + 1) / 8 = i by omega]
    rfl
  · rw [show (8 * i + 2) % 8 = 2 by omega, show (8 * i + 2) / 8 = i by omega]
    rfl
  · rw [show (8 * i + 3) % 8 = 3 by omega, show (8 * i + 3) / 8 = i by omega]
    rfl
  · rw [show (8 * i + 4) % 8 = 4 by omega, show (8 * i + 4) / 8 = i by omega]
    rfl
  · rw [show (8 * i + 5) % 8 = 5 by omega, show (8 * i + 5) / 8 = i by omega]
    rfl
  · rw [show (8 * i + 6) % 8 = 6 by omega, show (8 * i + 6) / 8 = i by omega]
    rfl
  · rw [show (8 * i + 7) % 8 = 7 by omega, show (8 * i + 7) / 8 = i by omega]
    rfl
theorem lane_byteOf (x : Nat → BitVec 64) (i : Nat) : lane (byteOf x) i = x i := by
  obtain ⟨h0, h1, h2, h3, h4, h5, h6, h7⟩ := byteOf_at x i
  unfold lane
  rw [h0, h1, h2, h3, h4, h5, h6, h7]
  exact bytes_back (x i)
/-- Bytes that lie apart: their sum is the word that they make up. -/
theorem bytes_xor (b0 b1 b2 b3 b4 b5 b6 b7 : BitVec 8) : 0#64 ^^^ b0.setWidth 64 <<< 0 ^^^ b1.setWidth 64 <<< 8 ^^^ b2.setWidth 64 <<< 16 ^^^ b3.setWidth 64 <<< 24 ^^^ b4.setWidth 64 <<< 32 ^^^ b5.setWidth 64 <<< 40 ^^^ b6.setWidth 64 <<< 48 ^^^ b7.setWidth 64 <<< 56 = b0.setWidth 64 ||| b1.setWidth 64 <<< 8 ||| b2.setWidth 64 <<< 16 ||| b3.setWidth 64 <<< 24 ||| b4.setWidth 64 <<< 32 ||| b5.setWidth 64 <<< 40 ||| b6.setWidth 64 <<< 48 ||| b7.setWidth 64 <<< 56 := by
  apply BitVec.eq_of_getLsbD_eq
  intro i hi
  simp only [BitVec.getLsbD_or, BitVec.getLsbD_xor, BitVec.getLsbD_shiftLeft, BitVec.getLsbD_setWidth, BitVec.getLsbD_zero, BitVec.shiftLeft_zero, Bool.false_bne]
  have h8 : i / 8 = 0 ∨ i / 8 = 1 ∨ i / 8 = 2 ∨ i / 8 = 3 ∨ i / 8 = 4 ∨ i / 8 = 5 ∨ i / 8 = 6 ∨ i / 8 = 7 := by omega
  have at_ : ∀ (k : Nat) (b : BitVec 8), (decide (i < 64) && !decide (i < k) && (decide (i - k < 64) && b.getLsbD (i - k))) = (decide (k ≤ i) && decide (i < k + 8) && b.getLsbD (i - k)) := fun k b => by
    by_cases h1 : k ≤ i
    · by_cases h2 : i < k + 8
      · simp [hi, h1, h2, show ¬ i < k by omega, show i - k < 64 by omega]
      · simp [h2, BitVec.getLsbD_of_ge b (i - k) (by omega)]
    · simp [h1, show i < k by omega]
  have e0 : (decide (i < 64) && b0.getLsbD i) = (decide (i < 8) && b0.getLsbD i) := by
    by_cases h2 : i < 8
    · simp [hi, h2]
    · simp [h2, BitVec.getLsbD_of_ge b0 i (by omega)]
  simp only [at_, e0]
  rcases h8 with h | h | h | h | h | h | h | h
  · simp [show i < 8 by omega, show ¬ 8 ≤ i by omega, show i < 16 by omega, show ¬ 16 ≤ i by omega, show i < 24 by omega, show ¬ 24 ≤ i by omega, show i < 32 by omega, show ¬ 32 ≤ i by omega, show i < 40 by omega, show ¬ 40 ≤ i by omega, show i < 48 by omega, show ¬ 48 ≤ i by omega, show i < 56 by omega, show ¬ 56 ≤ i by omega, show i < 64 by omega]
  · simp [show ¬ i < 8 by omega, show 8 ≤ i by omega, show i < 16 by omega, show ¬ 16 ≤ i by omega, show i < 24 by omega, show ¬ 24 ≤ i by omega, show i < 32 by omega, show ¬ 32 ≤ i by omega, show i < 40 by omega, show ¬ 40 ≤ i by omega, show i < 48 by omega, show ¬ 48 ≤ i by omega, show i < 56 by omega, show ¬ 56 ≤ i by omega, show i < 64 by omega]
  · simp [show ¬ i < 8 by omega, show 8 ≤ i by omega, show ¬ i < 16 by omega, show 16 ≤ i by omega, show i < 24 by omega, show ¬ 24 ≤ i by omega, show i < 32 by omega, show ¬ 32 ≤ i by omega, show i < 40 by omega, show ¬ 40 ≤ i by omega, show i < 48 by omega, show ¬ 48 ≤ i by omega, show i < 56 by omega, show ¬ 56 ≤ i by omega, show i < 64 by omega]
  · simp [show ¬ i < 8 by omega, show 8 ≤ i by omega, show ¬ i < 16 by omega, show 16 ≤ i by omega, show ¬ i < 24 by omega, show 24 ≤ i by omega, show i < 32 by omega, show ¬ 32 ≤ i by omega, show i < 40 by omega, show ¬ 40 ≤ i by omega, show i < 48 by omega, show ¬ 48 ≤ i by omega, show i < 56 by omega, show ¬ 56 ≤ i by omega, show i < 64 by omega]
  · simp [show ¬ i < 8 by omega, show 8 ≤ i by omega, show ¬ i < 16 by omega, show 16 ≤ i by omega, show ¬ i < 24 by omega, show 24 ≤ i by omega, show ¬ i < 32 by omega, show 32 ≤ i by omega, show i < 40 by omega, show ¬ 40 ≤ i by omega, show i < 48 by omega, show ¬ 48 ≤ i by omega, show i < 56 by omega, show ¬ 56 ≤ i by omega, show i < 64 by omega]
  · simp [show ¬ i < 8 by omega, show 8 ≤ i by omega, show ¬ i < 16 by omega, show 16 ≤ i by omega, show ¬ i < 24 by omega, show 24 ≤ i by omega, show ¬ i < 32 by omega, show 32 ≤ i by omega, show ¬ i < 40 by omega, show 40 ≤ i by omega, show i < 48 by omega, show ¬ 48 ≤ i by omega, show i < 56 by omega, show ¬ 56 ≤ i by omega, show i < 64 by omega]
  · simp [show ¬ i < 8 by omega, show 8 ≤ i by omega, show ¬ i < 16 by omega, show 16 ≤ i by omega, show ¬ i < 24 by omega, show 24 ≤ i by omega, show ¬ i < 32 by omega, show 32 ≤ i by omega, show ¬ i < 40 by omega, show 40 ≤ i by omega, show ¬ i < 48 by omega, show 48 ≤ i by omega, show i < 56 by omega, show ¬ 56 ≤ i by omega, show i < 64 by omega]
  · simp [show ¬ i < 8 by omega, show 8 ≤ i by omega, show ¬ i < 16 by omega, show 16 ≤ i by omega, show ¬ i < 24 by omega, show 24 ≤ i by omega, show ¬ i < 32 by omega, show 32 ≤ i by omega, show ¬ i < 40 by omega, show 40 ≤ i by omega, show ¬ i < 48 by omega, show 48 ≤ i by omega, show ¬ i < 56 by omega, show 56 ≤ i by omega, show i < 64 by omega]
end Go.Proofs.YtjcbphifdapkdaaDoor
