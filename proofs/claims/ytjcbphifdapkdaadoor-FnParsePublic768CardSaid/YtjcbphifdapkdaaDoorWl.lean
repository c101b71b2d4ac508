/-
  Plain laws: digits, numbers, bytes.
-/
import Derived.Test.YtjcbphifdapkdaaDoorVu
import Derived.Test.YtjcbphifdapkdaaDoorWf
namespace Go.Proofs.YtjcbphifdapkdaaDoor
namespace Vk
open Go.RowKit
open Vc (AV SV Blk)
theorem or_shift {a b i : Nat} (h : a < 2 ^ i) : a ||| b <<< i = a + b * 2 ^ i := by
  rw [Nat.or_comm, ← Nat.shiftLeft_add_eq_or_of_lt h, Nat.shiftLeft_eq]
  omega
theorem w3_nat (p : Nat → BitVec 8) (o : Nat) : (w3 p o).toNat = (p o).toNat + 256 * (p (o + 1)).toNat + 65536 * (p (o + 2)).toNat := by
  have h1 := (p o).isLt
  have h2 := (p (o + 1)).isLt
  have h3 := (p (o + 2)).isLt
  unfold w3
  simp only [BitVec.toNat_or, BitVec.toNat_shiftLeft, BitVec.toNat_setWidth]
  rw [Nat.mod_eq_of_lt (by omega), Nat.mod_eq_of_lt (a := (p (o + 1)).toNat) (by omega), Nat.mod_eq_of_lt (a := (p (o + 2)).toNat) (by omega)]
  rw [Nat.mod_eq_of_lt (a := (p (o + 1)).toNat <<< 8) (by rw [Nat.shiftLeft_eq]; omega), Nat.mod_eq_of_lt (a := (p (o + 2)).toNat <<< 16) (by rw [Nat.shiftLeft_eq]; omega)]
  rw [or_shift (a := (p o).toNat) (b := (p (o + 1)).toNat) (by omega), or_shift (by omega)]
  omega
theorem lo3_nat (p : Nat → BitVec 8) (o : Nat) : (lo3 p o).toNat = ((p o).toNat + 256 * (p (o + 1)).toNat + 65536 * (p (o + 2)).toNat) % 4096 := by
  unfold lo3
  rw [BitVec.toNat_setWidth, BitVec.toNat_and, w3_nat]
  have e : (4095#32 : BitVec 32).toNat = 2 ^ 12 - 1 := rfl
  rw [e, Nat.and_two_pow_sub_one_eq_mod]
  omega
theorem hi3_nat (p : Nat → BitVec 8) (o : Nat) : (hi3 p o).toNat = ((p o).toNat + 256 * (p (o + 1)).toNat + 65536 * (p (o + 2)).toNat) / 4096 := by
  have h1 := (p o).isLt
  have h2 := (p (o + 1)).isLt
  have h3 := (p (o + 2)).isLt
  unfold hi3
  rw [BitVec.toNat_setWidth, BitVec.toNat_ushiftRight, w3_nat, Nat.shiftRight_eq_div_pow]
  omega
theorem wd_nat (f : Nat → BitVec 16) (i j : Nat) (hi : (f i).toNat < 4096) (hj : (f j).toNat < 4096) : (wd f i j).toNat = (f i).toNat + 4096 * (f j).toNat := by
  unfold wd
  simp only [BitVec.toNat_or, BitVec.toNat_shiftLeft, BitVec.toNat_setWidth]
  rw [Nat.mod_eq_of_lt (by omega), Nat.mod_eq_of_lt (a := (f j).toNat) (by omega), Nat.mod_eq_of_lt (a := (f j).toNat <<< 12) (by rw [Nat.shiftLeft_eq]; omega), or_shift (by omega)]
  omega
theorem getw_dec (p : Nat → BitVec 8) (o i : Nat) (hi : i < 256) : getw (decL p o) i = decF p o i := by
  unfold getw decL
  simp only [List.getElem?_map, List.getElem?_range hi, Option.map_some]
  unfold decK
  rw [if_pos (by omega)]
theorem enc_dec (p : Nat → BitVec 8) (o t : Nat) (ht : t < 384) : encF (getw (decL p o)) t = p (o + t) := by
  have h1 := (p (o + 3 * (t / 3))).isLt
  have h2 := (p (o + 3 * (t / 3) + 1)).isLt
  have h3 := (p (o + 3 * (t / 3) + 2)).isLt
  have e1 : (getw (decL p o) (2 * (t / 3))).toNat = ((p (o + 3 * (t / 3))).toNat + 256 * (p (o + 3 * (t / 3) + 1)).toNat + 65536 * (p (o + 3 * (t / 3) + 2)).toNat) % 4096 := by
    rw [getw_dec p o _ (by omega), decF, if_pos (by omega), show 2 * (t / 3) / 2 = t / 3 by omega, lo3_nat]
  have e2 : (getw (decL p o) (2 * (t / 3) + 1)).toNat = ((p (o + 3 * (t / 3))).toNat + 256 * (p (o + 3 * (t / 3) + 1)).toNat + 65536 * (p (o + 3 * (t / 3) + 2)).toNat) / 4096 := by
    rw [getw_dec p o _ (by omega), decF, if_neg (by omega), show (2 * (t / 3) + 1) / 2 = t / 3 by omega, hi3_nat]
  have e3 := wd_nat (getw (decL p o)) (2 * (t / 3)) (2 * (t / 3) + 1) (by rw [e1]; omega) (by rw [e2]; omega)
  rw [e1, e2] at e3
  unfold encF
  apply BitVec.eq_of_toNat_eq
  by_cases c0 : t % 3 = 0
  · rw [if_pos c0, BitVec.toNat_setWidth, e3, show o + t = o + 3 * (t / 3) by omega]
    omega
  · rw [if_neg c0]
    by_cases c1 : t % 3 = 1
    · rw [if_pos c1, BitVec.toNat_setWidth, BitVec.toNat_ushiftRight, e3, show o + t = o + 3 * (t / 3) + 1 by omega, Nat.shiftRight_eq_div_pow]
      omega
    · rw [if_neg c1, BitVec.toNat_setWidth, BitVec.toNat_ushiftRight, e3, show o + t = o + 3 * (t / 3) + 2 by omega, Nat.shiftRight_eq_div_pow]
      omega
theorem bit_nat (x : BitVec 8) (c : Nat) : (x >>> c &&& 1#8).toNat = x.toNat / 2 ^ c % 2 := by
  rw [BitVec.toNat_and, BitVec.toNat_ushiftRight, Nat.shiftRight_eq_div_pow]
  have : (1#8 : BitVec 8).toNat = 1 := rfl
  rw [this, Nat.and_one_is_mod]
theorem bits8 (x : Nat) (hx : x < 256) : x % 2 * 1 + x / 2 % 2 * 2 + x / 4 % 2 * 4 + x / 8 % 2 * 8 + x / 16 % 2 * 16 + x / 32 % 2 * 32 + x / 64 % 2 * 64 + x / 128 % 2 * 128 = x := by omega
theorem bitI_at (p : Nat → BitVec 8) (o j k m c : Nat) (hm : (12 * j + k) / 8 = m) (hc : (12 * j + k) % 8 = c) : bitI (fun x => p (o + x)) 0 ((j : Nat) : Int) ((k : Nat) : Int) = (((p (o + m)).toNat / 2 ^ c % 2 : Nat) : Int) := by
  unfold bitI
  rw [show ((((j : Nat) : Int) * 12 + ((k : Nat) : Int)) / 8).toNat = m by omega, show ((((j : Nat) : Int) * 12 + ((k : Nat) : Int)) % 8).toNat = c by omega, bit_nat]
  simp only [Nat.zero_add, Nat.mul_one]
theorem dS_even (p : Nat → BitVec 8) (o m : Nat) : dS (fun x => p (o + x)) 0 (2 * m) 12 = ((lo3 p (o + 3 * m)).toNat : Int) := by
  simp only [dS]
  rw [bitI_at p o (2 * m) 0 (3 * m) 0 (by omega) (by omega), bitI_at p o (2 * m) 1 (3 * m) 1 (by omega) (by omega), bitI_at p o (2 * m) 2 (3 * m) 2 (by omega) (by omega), bitI_at p o (2 * m) 3 (3 * m) 3 (by omega) (by omega),
    bitI_at p o (2 * m) 4 (3 * m) 4 (by omega) (by omega), bitI_at p o (2 * m) 5 (3 * m) 5 (by omega) (by omega), bitI_at p o (2 * m) 6 (3 * m) 6 (by omega) (by omega), bitI_at p o (2 * m) 7 (3 * m) 7 (by omega) (by omega),
    bitI_at p o (2 * m) 8 (3 * m + 1) 0 (by omega) (by omega), bitI_at p o (2 * m) 9 (3 * m + 1) 1 (by omega) (by omega), bitI_at p o (2 * m) 10 (3 * m + 1) 2 (by omega) (by omega), bitI_at p o (2 * m) 11 (3 * m + 1) 3 (by omega) (by omega), lo3_nat]
  have h1 := (p (o + 3 * m)).isLt
  have h2 := (p (o + 3 * m + 1)).isLt
  rw [show o + (3 * m + 1) = o + 3 * m + 1 by omega]
  generalize (p (o + 3 * m)).toNat = x at *
  generalize (p (o + 3 * m + 1)).toNat = y at *
  generalize (p (o + 3 * m + 2)).toNat = z at *
  have hb := bits8 x h1
  have hy : y % 2 * 1 + y / 2 % 2 * 2 + y / 4 % 2 * 4 + y / 8 % 2 * 8 = y % 16 := by omega
  rw [show (x + 256 * y + 65536 * z) % 4096 = x + 256 * (y % 16) by omega, ← hy]
  conv => rhs; rw [← hb]
  simp only [Int.natCast_add, Int.natCast_mul, Nat.pow_zero, Nat.div_one]
  simp
  omega
theorem dS_odd (p : Nat → BitVec 8) (o m : Nat) : dS (fun x => p (o + x)) 0 (2 * m + 1) 12 = ((hi3 p (o + 3 * m)).toNat : Int) := by
  simp only [dS]
  rw [bitI_at p o (2 * m + 1) 0 (3 * m + 1) 4 (by omega) (by omega), bitI_at p o (2 * m + 1) 1 (3 * m + 1) 5 (by omega) (by omega), bitI_at p o (2 * m + 1) 2 (3 * m + 1) 6 (by omega) (by omega), bitI_at p o (2 * m + 1) 3 (3 * m + 1) 7 (by omega) (by omega),
    bitI_at p o (2 * m + 1) 4 (3 * m + 2) 0 (by omega) (by omega), bitI_at p o (2 * m + 1) 5 (3 * m + 2) 1 (by omega) (by omega), bitI_at p o (2 * m + 1) 6 (3 * m + 2) 2 (by omega) (by omega), bitI_at p o (2 * m + 1) 7 (3 * m + 2) 3 (by omega) (by omega),
    bitI_at p o (2 * m + 1) 8 (3 * m + 2) 4 (by omega) (by omega), bitI_at p o (2 * m + 1) 9 (3 * m + 2) 5 (by omega) (by omega), bitI_at p o (2 * m + 1) 10 (3 * m + 2) 6 (by omega) (by omega), bitI_at p o (2 * m + 1) 11 (3 * m + 2) 7 (by omega) (by omega), hi3_nat]
  have h1 := (p (o + 3 * m)).isLt
  have h2 := (p (o + 3 * m + 1)).isLt
  have h3 := (p (o + 3 * m + 2)).isLt
  rw [show o + (3 * m + 1) = o + 3 * m + 1 by omega, show o + (3 * m + 2) = o + 3 * m + 2 by omega]
  generalize (p (o + 3 * m)).toNat = x at *
  generalize (p (o + 3 * m + 1)).toNat = y at *
  generalize (p (o + 3 * m + 2)).toNat = z at *
  have hb := bits8 z h3
  have hy : y / 16 % 2 * 1 + y / 32 % 2 * 2 + y / 64 % 2 * 4 + y / 128 % 2 * 8 = y / 16 := by omega
  rw [show (x + 256 * y + 65536 * z) / 4096 = y / 16 + 16 * z by omega, ← hy]
  conv => rhs; rw [← hb]
  simp only [Int.natCast_add, Int.natCast_mul, Nat.pow_zero, Nat.div_one]
  simp
  omega
theorem part_dec (p : Nat → BitVec 8) (o j : Nat) (hj : j < 256) : partP p o j = ((decF p o j).toNat : Int) := by
  unfold partP dK
  rw [if_pos hj]
  unfold decF
  by_cases h : j % 2 = 0
  · rw [if_pos h]
    obtain ⟨m, rfl⟩ : ∃ m, j = 2 * m := ⟨j / 2, by omega⟩
    rw [show 2 * m / 2 = m by omega]
    exact dS_even p o m
  · rw [if_neg h]
    obtain ⟨m, rfl⟩ : ∃ m, j = 2 * m + 1 := ⟨j / 2, by omega⟩
    rw [show (2 * m + 1) / 2 = m by omega]
    exact dS_odd p o m
theorem okV_iff (p : Nat → BitVec 8) (o : Nat) : okV p o = true ↔ okD p o := by
  unfold okV okD
  rw [List.all_eq_true]
  constructor
  · intro h j hj
    have := of_decide_eq_true (h j (List.mem_range.2 hj))
    rw [part_dec p o j hj] at this
    omega
  · intro h j hj
    have hj := List.mem_range.1 hj
    have := h j hj
    refine decide_eq_true ?_
    rw [part_dec p o j hj]
    omega
theorem rho_at (p : Nat → BitVec 8) {j : Nat} (hj : j < 32) : Vc.getb (rhoL p) j = p (1152 + j) := by
  unfold Vc.getb rhoL
  simp only [List.getElem?_map, List.getElem?_range hj, Option.map_some]
theorem over_at (l m : Nat) (f g : Nat → BitVec 8) (j : Nat) : Vc.over l m f g j = if l ≤ j ∧ j < l + m then g (j - l) else f j := by
  unfold Vc.over
  by_cases h1 : j < l
  · rw [nblt_yes h1, if_neg (by omega)]
    rfl
  · rw [nblt_no h1]
    by_cases h2 : j < l + m
    · rw [nblt_yes h2, if_pos (by omega)]
      rfl
    · rw [nblt_no h2, if_neg (by omega)]
      rfl
theorem back_at (p : Nat → BitVec 8) (j : Nat) (hj : j < 1184) : backF p j = p j := by
  unfold backF
  simp only [over_at]
  by_cases h3 : 1152 ≤ j
  · rw [if_pos (by omega), rho_at p (by omega), show 1152 + (j - 1152) = j by omega]
  · rw [if_neg (by omega)]
    by_cases h2 : 768 ≤ j
    · rw [if_pos (by omega), enc_dec p 768 _ (by omega), show 768 + (j - 768) = j by omega]
    · rw [if_neg (by omega)]
      by_cases h1 : 384 ≤ j
      · rw [if_pos (by omega), enc_dec p 384 _ (by omega), show 384 + (j - 384) = j by omega]
      · rw [if_neg (by omega), if_pos (by omega), enc_dec p 0 _ (by omega), show 0 + (j - 0) = j by omega]
end Vk
end Go.Proofs.YtjcbphifdapkdaaDoor
