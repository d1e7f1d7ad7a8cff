/- The plain law of the halving model: stripping the binary digits of a representable magnitude (no program in sight). -/
import Derived.Test.YtekfficjacnefaaDoorIsInt
namespace Go.Proofs.YtekfficjacnefaaDoor
open Ieee
namespace Fp

theorem pow_pl0 : 2 ^ (pl + 0) = one := by unfold one; rw [Nat.add_zero]

/-- The word of 2 ^ (j - 1). -/
def pw (j : Nat) : Nat := (1022 + j) * 4503599627370496

theorem fv_pw (j : Nat) (hj : j ≤ 53) : fv (pw j) = some ((2 ^ (pl - 1 + j) : Nat) : Int) := by
  have h : double.read (pw j) = .number false 4503599627370496 (-1074 + ((1021 + j : Nat) : Int)) := by
    unfold pw Format.read
    simp only [leastPlace_eq, binade_eq, infRung_eq, signWeight_eq]
    have e1 : ((1022 + j) * 4503599627370496 / 9223372036854775808 % 2 == 1) = false := by simp; omega
    have e2 : (1022 + j) * 4503599627370496 % 9223372036854775808 = (1022 + j) * 4503599627370496 := by omega
    rw [e1, e2, if_neg (by omega), if_pos (by omega)]
    have e3 : (1022 + j) * 4503599627370496 % 4503599627370496 = 0 := by omega
    have e4 : (1022 + j) * 4503599627370496 / 4503599627370496 - 1 = 1021 + j := by omega
    rw [e3, e4]
  rw [fv_of_read h]
  have : 4503599627370496 * 2 ^ (1021 + j) = 2 ^ (pl - 1 + j) := by
    rw [show (4503599627370496 : Nat) = 2 ^ 52 by decide, ← Nat.pow_add]
    congr 1
    have := pl_eq
    omega
  rw [this]
  simp [sg]

theorem half_pw_all : ∀ j : Fin 53, double.div ((1023 + j.val) * 4503599627370496) 4611686018427387904 = some ((1022 + j.val) * 4503599627370496) := by decide +kernel

theorem half_pw (j : Nat) (hj : j < 53) : floatBits .quo .f64 (pw (j + 1)) 4611686018427387904 = some (pw j) := by
  have := half_pw_all ⟨j, hj⟩
  show double.div _ _ = _
  unfold pw
  rw [show 1022 + (j + 1) = 1023 + j by omega]
  exact this

theorem fv_one : fv 4607182418800017408 = some (one : Int) := by
  have h : double.read 4607182418800017408 = .number false 4503599627370496 (-1074 + ((pl - 52 : Nat) : Int)) := by decide
  rw [fv_of_read h]
  have : 4503599627370496 * 2 ^ (pl - 52) = one := by
    unfold one
    rw [show (4503599627370496 : Nat) = 2 ^ 52 by decide, ← Nat.pow_add]
    congr 1
  rw [this]
  simp [sg]

theorem fv_two52 : fv 4841369599423283200 = some ((2 ^ 52 * one : Nat) : Int) := by
  have h := fv_pw 53 (by omega)
  have e : pw 53 = 4841369599423283200 := by decide
  rw [e] at h
  rw [h]
  have : 2 ^ (pl - 1 + 53) = 2 ^ 52 * one := by
    unfold one
    rw [← Nat.pow_add]
    congr 1
  rw [this]

theorem rep_mod {V : Nat} (h : Rep V) (t : Nat) : Rep (V % 2 ^ t) := by
  obtain ⟨k, e, rfl, hk, he⟩ := h
  by_cases ht : t ≤ e
  · rw [pow_split e t ht, ← Nat.mul_assoc, Nat.mul_mod_left]
    exact ⟨0, 0, rfl, by decide, by omega⟩
  · rw [pow_split t e (by omega), Nat.mul_mod_mul_right]
    refine ⟨k % 2 ^ (t - e), e, rfl, ?_, he⟩
    have := Nat.mod_le k (2 ^ (t - e))
    omega

theorem mod_low (V t : Nat) (h : V % 2 ^ (t + 1) < 2 ^ t) : V % 2 ^ (t + 1) = V % 2 ^ t := by
  have h1 : V % 2 ^ (t + 1) % 2 ^ t = V % 2 ^ t := Nat.mod_mod_of_dvd _ ⟨2, Nat.pow_succ _ _⟩
  rw [← h1, Nat.mod_eq_of_lt h]

theorem mod_high (V t : Nat) (h : 2 ^ t ≤ V % 2 ^ (t + 1)) : V % 2 ^ (t + 1) - 2 ^ t = V % 2 ^ t := by
  have h1 : V % 2 ^ (t + 1) % 2 ^ t = V % 2 ^ t := Nat.mod_mod_of_dvd _ ⟨2, Nat.pow_succ _ _⟩
  have h2 := Nat.mod_lt V (pow_pos (t + 1))
  have h3 := Nat.two_pow_succ t
  rw [← h1]
  generalize V % 2 ^ (t + 1) = Y at *
  rw [Nat.mod_eq_sub_mod h, Nat.mod_eq_of_lt]
  omega

/-- A representable magnitude of 2^52 or more is whole. -/
theorem whole_of_big {V : Nat} (h : Rep V) (hb : 2 ^ 52 * one ≤ V) : V % one = 0 := by
  obtain ⟨k, e, rfl, hk, he⟩ := h
  unfold one at *
  by_cases ht : pl ≤ e
  · rw [pow_split e pl ht, ← Nat.mul_assoc, Nat.mul_mod_left]
  · exfalso
    have h1 : k * 2 ^ e < 2 ^ 53 * 2 ^ e := Nat.mul_lt_mul_of_pos_right hk (pow_pos e)
    have h2 : 2 ^ 53 * 2 ^ e ≤ 2 ^ 52 * 2 ^ pl := by
      rw [← Nat.pow_add, ← Nat.pow_add]
      exact Nat.pow_le_pow_right (by omega) (by omega)
    omega

theorem fv_pw_succ (i : Nat) (hi : i ≤ 52) : fv (pw (i + 1)) = some ((2 ^ (pl + i) : Nat) : Int) := by
  rw [fv_pw (i + 1) (by omega)]
  congr 3
  have := pl_eq
  omega

/-- One step of the halving, the digit not set. -/
theorem step_low {V y i : Nat} (hi : i ≤ 52) (hy : fv y = some ((V % 2 ^ (pl + i + 1) : Nat) : Int)) (h : V % 2 ^ (pl + i + 1) < 2 ^ (pl + i)) :
    FloatKind.f64.format.order y (pw (i + 1)) = some .lt ∧ fv y = some ((V % 2 ^ (pl + i) : Nat) : Int) := by
  refine ⟨ord_lt hy (fv_pw_succ i hi) (by exact_mod_cast h), ?_⟩
  rw [hy, mod_low V _ h]

/-- One step of the halving, the digit set. -/
theorem step_high {V y i : Nat} (hV : Rep V) (hi : i ≤ 52) (hy : fv y = some ((V % 2 ^ (pl + i + 1) : Nat) : Int)) (h : 2 ^ (pl + i) ≤ V % 2 ^ (pl + i + 1)) :
    (FloatKind.f64.format.order y (pw (i + 1)) = some .gt ∨ FloatKind.f64.format.order y (pw (i + 1)) = some .eq) ∧
      ∃ r, floatBits .sub .f64 y (pw (i + 1)) = some r ∧ fv r = some ((V % 2 ^ (pl + i) : Nat) : Int) := by
  have hp := fv_pw_succ i hi
  have hs : ((V % 2 ^ (pl + i + 1) : Nat) : Int) - ((2 ^ (pl + i) : Nat) : Int) = ((V % 2 ^ (pl + i) : Nat) : Int) := by
    rw [← mod_high V _ h, Int.ofNat_sub h]
  constructor
  · rcases Nat.lt_or_eq_of_le h with h1 | h1
    · exact .inl (ord_gt hy hp (by exact_mod_cast h1))
    · exact .inr (ord_eq hy hp (by exact_mod_cast h1.symm))
  · obtain ⟨r, h1, h2⟩ := sub_fin hy hp (by rw [hs, Int.natAbs_natCast]; exact rep_mod hV _)
    rw [hs] at h2
    exact ⟨r, h1, h2⟩

theorem pw_ge (i : Nat) (hi : i ≤ 52) : FloatKind.f64.format.order (pw (i + 1)) 4607182418800017408 = some .gt ∨ FloatKind.f64.format.order (pw (i + 1)) 4607182418800017408 = some .eq := by
  have hp := fv_pw_succ i hi
  have : one ≤ 2 ^ (pl + i) := by unfold one; exact Nat.pow_le_pow_right (by omega) (by omega)
  rcases Nat.lt_or_eq_of_le this with h1 | h1
  · exact .inl (ord_gt hp fv_one (by exact_mod_cast h1))
  · exact .inr (ord_eq hp fv_one (by exact_mod_cast h1.symm))

theorem pw_lt : FloatKind.f64.format.order (pw 0) 4607182418800017408 = some .lt := by
  have hp := fv_pw 0 (by omega)
  have h2 := two_half
  have h3 := half_pos
  have e : 2 ^ (pl - 1 + 0) = half := by unfold half; rw [Nat.add_zero]
  rw [e] at hp
  refine ord_lt hp fv_one ?_
  omega

theorem mod_start {V : Nat} (h : V < 2 ^ 52 * one) : V % 2 ^ (pl + 53) = V := by
  apply Nat.mod_eq_of_lt
  unfold one at h
  rw [← Nat.pow_add] at h
  have : 2 ^ (52 + pl) ≤ 2 ^ (pl + 53) := Nat.pow_le_pow_right (by omega) (by omega)
  omega

theorem isIntB_abs {x : Nat} {v : Int} (hx : fv x = some v) : isIntB x = (v.natAbs % one == 0) := by
  unfold isIntB
  rw [hx]
  show (v % (one : Int) == 0) = _
  rw [Bool.eq_iff_iff, beq_iff_eq, beq_iff_eq, ← Int.dvd_iff_emod_eq_zero, ← Nat.dvd_iff_mod_eq_zero, Int.ofNat_dvd_left]

end Fp
end Go.Proofs.YtekfficjacnefaaDoor
