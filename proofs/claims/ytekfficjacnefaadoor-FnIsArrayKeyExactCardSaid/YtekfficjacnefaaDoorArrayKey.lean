/- What isArrayKey answers, over the exact laws on doubles (no program in sight). -/
import Derived.Test.YtekfficjacnefaaDoorHalving
namespace Go.Proofs.YtekfficjacnefaaDoor
open Ieee

/-- Is the word a whole number from 1 to 67108863? -/
def isKeyB (x : Nat) : Bool := match Fp.fv x with
  | some v => v % (Fp.one : Int) == 0 && decide (0 < v) && decide (v < 67108864 * (Fp.one : Int))
  | none => false

namespace Fp
theorem fv_key : fv (floatOfInt .f64 67108864) = some (67108864 * (one : Int)) := ofInt_exact 67108864 (rep_int _ (by decide))
theorem fv_keymax : fv 4724276008977432576 = some (67108863 * (one : Int)) := by
  have h := ofInt_exact 67108863 (rep_int _ (by decide))
  have e : double.write (.number (decide ((67108863 : Int) < 0)) (67108863 : Int).natAbs 0) = 4724276008977432576 := by decide +kernel
  rw [e] at h
  exact h

/-- The key's test by the model's three. -/
theorem key_iff {v : Int} (h : v % (one : Int) = 0) : (0 < v ∧ v < 67108864 * (one : Int)) ↔ ((one : Int) ≤ v ∧ v ≤ 67108863 * (one : Int)) := by
  obtain ⟨k, rfl⟩ := Int.dvd_of_emod_eq_zero h
  have hp := one_pos'
  constructor
  · rintro ⟨h1, h2⟩
    have k1 : 0 < k := Int.lt_of_mul_lt_mul_left (a := (one : Int)) (by simpa using h1) (Int.le_of_lt hp)
    have k2 : k < 67108864 := Int.lt_of_mul_lt_mul_left (a := (one : Int)) (by rw [Int.mul_comm _ 67108864]; exact h2) (Int.le_of_lt hp)
    have m1 := Int.mul_le_mul_of_nonneg_left (show 1 ≤ k by omega) (Int.le_of_lt hp)
    have m2 := Int.mul_le_mul_of_nonneg_left (show k ≤ 67108863 by omega) (Int.le_of_lt hp)
    constructor <;> omega
  · rintro ⟨h1, h2⟩
    constructor <;> omega

theorem isKey_low {x : Nat} {v : Int} (hx : fv x = some v) (h : v < (one : Int)) : isKeyB x = false := by
  unfold isKeyB
  rw [hx]
  show (v % (one : Int) == 0 && decide (0 < v) && decide (v < 67108864 * (one : Int))) = false
  by_cases h0 : v % (one : Int) = 0
  · have := key_iff h0
    have : ¬ (0 < v ∧ v < 67108864 * (one : Int)) := by rw [this]; omega
    rw [Bool.eq_false_iff]
    simp only [Bool.and_eq_true, decide_eq_true_eq, ne_eq]
    rintro ⟨⟨-, a⟩, b⟩
    exact this ⟨a, b⟩
  · simp [h0]

theorem isKey_high {x : Nat} {v : Int} (hx : fv x = some v) (h : 67108863 * (one : Int) < v) : isKeyB x = false := by
  unfold isKeyB
  rw [hx]
  show (v % (one : Int) == 0 && decide (0 < v) && decide (v < 67108864 * (one : Int))) = false
  by_cases h0 : v % (one : Int) = 0
  · have := key_iff h0
    have : ¬ (0 < v ∧ v < 67108864 * (one : Int)) := by rw [this]; omega
    rw [Bool.eq_false_iff]
    simp only [Bool.and_eq_true, decide_eq_true_eq, ne_eq]
    rintro ⟨⟨-, a⟩, b⟩
    exact this ⟨a, b⟩
  · simp [h0]

theorem isKey_mid {x : Nat} {v : Int} (hx : fv x = some v) (h1 : (one : Int) ≤ v) (h2 : v ≤ 67108863 * (one : Int)) : isKeyB x = isIntB x := by
  have hp := one_pos'
  unfold isKeyB isIntB
  rw [hx]
  show (v % (one : Int) == 0 && decide (0 < v) && decide (v < 67108864 * (one : Int))) = (v % (one : Int) == 0)
  have a : decide (0 < v) = true := by simp; omega
  have b : decide (v < 67108864 * (one : Int)) = true := by simp; omega
  rw [a, b, Bool.and_true, Bool.and_true]

theorem isKey_none {x : Nat} (hx : fv x = none) : isKeyB x = false := by
  unfold isKeyB
  rw [hx]

/-- An int64 as a key. -/
theorem isKey_ofInt (n : Int) (h1 : -9223372036854775808 ≤ n) (h2 : n ≤ 9223372036854775807) : isKeyB (floatOfInt .f64 n) = (decide (1 ≤ n) && decide (n < 67108864)) := by
  have hp := one_pos'
  by_cases hs : n.natAbs < 2 ^ 53
  · have hx : fv (floatOfInt .f64 n) = some (n * (one : Int)) := ofInt_exact n (rep_int _ hs)
    unfold isKeyB
    rw [hx]
    show (n * (one : Int) % (one : Int) == 0 && decide (0 < n * (one : Int)) && decide (n * (one : Int) < 67108864 * (one : Int))) = _
    rw [Int.mul_emod_left]
    have a : decide (0 < n * (one : Int)) = decide (1 ≤ n) := by
      by_cases h : 1 ≤ n
      · have := Int.mul_pos (show 0 < n by omega) hp
        simp [h, this]
      · have := Int.mul_le_mul_of_nonneg_right (show n ≤ 0 by omega) (Int.le_of_lt hp)
        simp only [Int.zero_mul] at this
        simp [h]; omega
    have b : decide (n * (one : Int) < 67108864 * (one : Int)) = decide (n < 67108864) := by
      by_cases h : n < 67108864
      · have := Int.mul_lt_mul_of_pos_right h hp
        simp [h, this]
      · have := Int.mul_le_mul_of_nonneg_right (show 67108864 ≤ n by omega) (Int.le_of_lt hp)
        simp [h]; omega
    rw [a, b]; rfl
  · have hB : Rep (1 * 2 ^ (pl + 63)) := ⟨1, pl + 63, rfl, by omega, by have := pl_eq; omega⟩
    have hL : Rep (1 * 2 ^ (pl + 53)) := ⟨1, pl + 53, rfl, by omega, by have := pl_eq; omega⟩
    have e : ((0 : Int) + 1074).toNat = pl := by have := pl_eq; omega
    have e2 : (-((0 : Int) + 1074)).toNat = 0 := by omega
    obtain ⟨K, hK, _, lo⟩ := write_near (decide (n < 0)) n.natAbs 0 _ hB (by
      rw [e, e2, Nat.pow_zero, Nat.mul_one, Nat.one_mul, Nat.add_comm, Nat.pow_add]
      apply Nat.mul_le_mul_right
      omega)
    have hlo := lo _ hL (by
      rw [e, e2, Nat.pow_zero, Nat.mul_one, Nat.one_mul, Nat.add_comm, Nat.pow_add]
      apply Nat.mul_le_mul_right
      omega)
    have h53 : 1 * 2 ^ (pl + 53) = 9007199254740992 * one := by
      unfold one
      rw [Nat.one_mul, Nat.add_comm, Nat.pow_add]
    rw [h53] at hlo
    have hx : fv (floatOfInt .f64 n) = some (sg (decide (n < 0)) K) := hK
    have hlo' : 9007199254740992 * (one : Int) ≤ (K : Int) := by omega
    by_cases hn : n < 0
    · rw [isKey_low hx (by unfold sg; rw [if_pos (decide_eq_true hn)]; omega)]
      rw [decide_eq_false (show ¬ 1 ≤ n by omega)]; rfl
    · rw [isKey_high hx (by unfold sg; rw [if_neg (by rw [decide_eq_false hn]; decide)]; omega)]
      rw [decide_eq_false (show ¬ n < 67108864 by omega), Bool.and_false]
end Fp
end Go.Proofs.YtekfficjacnefaaDoor
