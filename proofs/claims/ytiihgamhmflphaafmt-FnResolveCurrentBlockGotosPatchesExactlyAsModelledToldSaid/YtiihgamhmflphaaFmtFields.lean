/- The bit fields of an instruction word: masks and shifts as arithmetic (no program in sight). -/
import Derived.Laws.BitsAllLaws
import Derived.RowKit
import Derived.IntWalk
namespace Go.Proofs.YtiihgamhmflphaaFmt
namespace Fld

theorem and_low (x n : Nat) : x &&& (2 ^ n - 1) = x % 2 ^ n := Nat.and_two_pow_sub_one_eq_mod x n

theorem andm (x m M n : Nat) (h : m = 2 ^ n - 1) (h' : M = 2 ^ n) : x &&& m = x % M := by rw [h, h']; exact and_low x n

theorem bits_and_nat (a b : Nat) (ha : a < 4294967296) (hb : b < 4294967296) : bits .and .u32 (a : Int) (b : Int) = ((a &&& b : Nat) : Int) := by
  have hx : a &&& b < 2 ^ 32 := Nat.and_lt_two_pow _ (by omega)
  have h1 : (BitVec.ofInt 32 (a : Int)).toNat = a := by
    rw [BitVec.ofInt_natCast, BitVec.toNat_ofNat]; exact Nat.mod_eq_of_lt (by omega)
  have h2 : (BitVec.ofInt 32 (b : Int)).toNat = b := by
    rw [BitVec.ofInt_natCast, BitVec.toNat_ofNat]; exact Nat.mod_eq_of_lt (by omega)
  show IntKind.u32.wrap ((BitVec.ofInt 32 (a : Int) &&& BitVec.ofInt 32 (b : Int)).toNat : Int) = _
  rw [BitVec.toNat_and, h1, h2]
  simp [IntKind.wrap, IntKind.bits, IntKind.signed]
  omega

theorem bits_or_nat (a b : Nat) (ha : a < 4294967296) (hb : b < 4294967296) : bits .or .u32 (a : Int) (b : Int) = ((a ||| b : Nat) : Int) := by
  have hx : a ||| b < 2 ^ 32 := Nat.or_lt_two_pow (by omega) (by omega)
  have h1 : (BitVec.ofInt 32 (a : Int)).toNat = a := by
    rw [BitVec.ofInt_natCast, BitVec.toNat_ofNat]; exact Nat.mod_eq_of_lt (by omega)
  have h2 : (BitVec.ofInt 32 (b : Int)).toNat = b := by
    rw [BitVec.ofInt_natCast, BitVec.toNat_ofNat]; exact Nat.mod_eq_of_lt (by omega)
  show IntKind.u32.wrap ((BitVec.ofInt 32 (a : Int) ||| BitVec.ofInt 32 (b : Int)).toNat : Int) = _
  rw [BitVec.toNat_or, h1, h2]
  simp [IntKind.wrap, IntKind.bits, IntKind.signed]
  omega

/-- A number of 32 bits by its parts below and above n. -/
theorem and_parts (x m n : Nat) : x &&& m = (x / 2 ^ n &&& m / 2 ^ n) * 2 ^ n + (x % 2 ^ n &&& m % 2 ^ n) := by
  rw [← Nat.and_div_two_pow, ← Nat.and_mod_two_pow]
  exact (Nat.div_add_mod' _ _).symm

theorem or_parts (x m n : Nat) : x ||| m = (x / 2 ^ n ||| m / 2 ^ n) * 2 ^ n + (x % 2 ^ n ||| m % 2 ^ n) := by
  rw [← Nat.or_div_two_pow, ← Nat.or_mod_two_pow]
  exact (Nat.div_add_mod' _ _).symm

/-- Disjoint halves: what is below n and what is a multiple of 2^n. -/
theorem or_disj (l h n : Nat) (hl : l < 2 ^ n) : l ||| h * 2 ^ n = h * 2 ^ n + l := by
  rw [or_parts l (h * 2 ^ n) n, Nat.div_eq_of_lt hl, Nat.mod_eq_of_lt hl, Nat.mul_div_cancel _ (Nat.two_pow_pos n), Nat.mul_mod_left, Nat.zero_or, Nat.or_zero]

/-- A field set between two that stay. -/
theorem or_mid (q r m H L h l : Nat) (eH : H = 2 ^ h) (eL : L = 2 ^ l) (hr : r < L) (b1 : (q * H + r) / H = q) (b2 : m * L / H = 0) (b3 : (q * H + r) % H = r) (b4 : m * L % H = m * L) (_b : 0 < H) :
    (q * H + r) ||| m * L = q * H + m * L + r := by
  have a := or_parts (q * H + r) (m * L) h
  rw [← eH, b1, b2, b3, b4, Nat.or_zero] at a
  have b5 := or_disj r m l (by rw [← eL]; exact hr)
  rw [← eL] at b5
  rw [a, b5, Nat.add_assoc]

theorem bits_and_i64 (k : Int) (n : Nat) (hn : n ≤ 32) : bits .and .i64 k (((2 ^ n - 1 : Nat)) : Int) = k % ((2 ^ n : Nat) : Int) := by
  have hp : 2 ^ n ≤ 4294967296 := by
    have := Nat.pow_le_pow_right (show 0 < 2 by omega) hn
    simpa using this
  have h0 : 0 < 2 ^ n := Nat.two_pow_pos n
  have hd : (2 ^ n : Nat) ∣ 18446744073709551616 := by
    have : (18446744073709551616 : Nat) = 2 ^ (64 - n) * 2 ^ n := by rw [← Nat.pow_add, Nat.sub_add_cancel (by omega)]
    exact ⟨2 ^ (64 - n), by rw [this, Nat.mul_comm]⟩
  have h2 : (BitVec.ofInt 64 (((2 ^ n - 1 : Nat)) : Int)).toNat = 2 ^ n - 1 := by
    rw [BitVec.ofInt_natCast, BitVec.toNat_ofNat]; exact Nat.mod_eq_of_lt (by omega)
  show IntKind.i64.wrap ((BitVec.ofInt 64 k &&& BitVec.ofInt 64 (((2 ^ n - 1 : Nat)) : Int)).toNat : Int) = _
  rw [BitVec.toNat_and, h2, and_low]
  have h3 : (((BitVec.ofInt 64 k).toNat % 2 ^ n : Nat) : Int) = k % ((2 ^ n : Nat) : Int) := by
    rw [BitVec.toNat_ofInt]
    have e : (((k % ((2 ^ 64 : Nat) : Int)).toNat : Nat) : Int) = k % 18446744073709551616 := by
      have : ((2 ^ 64 : Nat) : Int) = 18446744073709551616 := by decide
      rw [this]; omega
    have e' : (18446744073709551616 : Int) = ((18446744073709551616 : Nat) : Int) := rfl
    rw [Int.natCast_emod, e, Int.emod_emod_of_dvd]
    rw [e']
    exact Int.natCast_dvd_natCast.2 hd
  have h4 : 0 ≤ k % ((2 ^ n : Nat) : Int) := Int.emod_nonneg _ (by omega)
  have h5 : k % ((2 ^ n : Nat) : Int) < ((2 ^ n : Nat) : Int) := Int.emod_lt_of_pos _ (by omega)
  rw [h3]
  generalize k % ((2 ^ n : Nat) : Int) = m at *
  exact IntWalk.i64_in _ (by omega)

theorem and255 (k : Int) : bits .and .i64 k 255 = k % 256 := bits_and_i64 k 8 (by omega)
theorem and511 (k : Int) : bits .and .i64 k 511 = k % 512 := bits_and_i64 k 9 (by omega)
theorem and18 (k : Int) : bits .and .i64 k 262143 = k % 262144 := bits_and_i64 k 18 (by omega)

theorem tmod_spec (a m : Int) (hm : 0 < m) : ∃ q, a = m * q + a.tmod m ∧ -m < a.tmod m ∧ a.tmod m < m ∧ (0 ≤ a.tmod m ↔ (0 ≤ a ∨ a.tmod m = 0)) := by
  refine ⟨a.tdiv m, (Int.mul_tdiv_add_tmod a m).symm, ?_, ?_, ?_⟩
  · by_cases h : 0 ≤ a
    · have := Int.tmod_nonneg m h; omega
    · have e : a = -(-a) := by omega
      rw [e, Int.neg_tmod]
      have := Int.tmod_lt_of_pos (-a) hm
      omega
  · exact Int.tmod_lt_of_pos a hm
  · by_cases h : 0 ≤ a
    · have := Int.tmod_nonneg m h; omega
    · have e : a = -(-a) := by omega
      have h1 : a.tmod m = -((-a).tmod m) := by conv => lhs; rw [e, Int.neg_tmod]
      have := Int.tmod_nonneg m (show 0 ≤ -a by omega)
      omega

/-- The setters and getters as arithmetic. -/
def setOp (x k : Int) : Int := x % 67108864 + k % 64 * 67108864
def setA (x k : Int) : Int := x / 67108864 * 67108864 + k % 256 * 262144 + x % 262144
def setB (x k : Int) : Int := x / 512 * 512 + k % 512
def setC (x k : Int) : Int := x / 262144 * 262144 + k % 512 * 512 + x % 512
def setBx (x k : Int) : Int := x / 262144 * 262144 + k % 262144
def setSbx (x k : Int) : Int := setBx x (RowKit.wrap64 (k + 131071))
def W32 (x : Int) : Prop := 0 ≤ x ∧ x ≤ 4294967295

theorem setOp_w {x k : Int} (_h : W32 x) : W32 (setOp x k) := by unfold W32 setOp at *; omega
theorem setA_w {x k : Int} (h : W32 x) : W32 (setA x k) := by unfold W32 setA at *; omega
theorem setB_w {x k : Int} (h : W32 x) : W32 (setB x k) := by unfold W32 setB at *; omega
theorem setC_w {x k : Int} (h : W32 x) : W32 (setC x k) := by unfold W32 setC at *; omega
theorem setBx_w {x k : Int} (h : W32 x) : W32 (setBx x k) := by unfold W32 setBx at *; omega

theorem nat_of {x : Int} (h : W32 x) : ∃ n : Nat, x = (n : Int) ∧ n < 4294967296 := ⟨x.toNat, by unfold W32 at h; omega, by unfold W32 at h; omega⟩
theorem nat_mod (k m : Int) (hm : 0 < m) : ∃ n : Nat, k % m = (n : Int) ∧ (n : Int) < m :=
  ⟨(k % m).toNat, by have := Int.emod_nonneg k (show m ≠ 0 by omega); omega, by have := Int.emod_nonneg k (show m ≠ 0 by omega); have := Int.emod_lt_of_pos k hm; omega⟩

theorem setOp_eq {x k : Int} (h : W32 x) : bits .or .u32 (bits .and .u32 x 67108863) (RowKit.wrap64 (k * 67108864) % 4294967296) = setOp x k := by
  obtain ⟨n, rfl, hn⟩ := nat_of h
  obtain ⟨m, hm, hm'⟩ := nat_mod k 64 (by omega)
  have e1 : RowKit.wrap64 (k * 67108864) % 4294967296 = ((m * 67108864 : Nat) : Int) := by unfold RowKit.wrap64; omega
  have e2 : (67108863 : Int) = ((67108863 : Nat) : Int) := rfl
  rw [e1, e2, bits_and_nat n 67108863 hn (by omega), bits_or_nat _ _ (Nat.lt_of_le_of_lt Nat.and_le_left hn) (by omega)]
  have e3 : n &&& 67108863 = n % 67108864 := andm n _ _ 26 (by decide) (by decide)
  have e4 := or_disj (n % 67108864) m 26 (by have := Nat.mod_lt n (show 0 < 67108864 by omega); simpa using this)
  have e5 : (2 : Nat) ^ 26 = 67108864 := by decide
  rw [e5] at e4
  rw [e3, e4]
  unfold setOp
  omega

theorem setA_eq {x k : Int} (h : W32 x) : bits .or .u32 (bits .and .u32 x 4228120575) (RowKit.wrap64 (bits .and .i64 k 255 * 262144) % 4294967296) = setA x k := by
  obtain ⟨n, rfl, hn⟩ := nat_of h
  rw [and255]
  obtain ⟨m, hm, hm'⟩ := nat_mod k 256 (by omega)
  have e1 : RowKit.wrap64 (k % 256 * 262144) % 4294967296 = ((m * 262144 : Nat) : Int) := by unfold RowKit.wrap64; omega
  have e2 : (4228120575 : Int) = ((4228120575 : Nat) : Int) := rfl
  rw [e1, e2, bits_and_nat n 4228120575 hn (by omega), bits_or_nat _ _ (Nat.lt_of_le_of_lt Nat.and_le_left hn) (by omega)]
  have p26 : (2 : Nat) ^ 26 = 67108864 := by decide
  have p18 : (2 : Nat) ^ 18 = 262144 := by decide
  have e3 : n &&& 4228120575 = n / 67108864 * 67108864 + n % 262144 := by
    have a := and_parts n 4228120575 26
    rw [p26] at a
    have b1 : n / 67108864 &&& 4228120575 / 67108864 = n / 67108864 % 64 := by rw [show 4228120575 / 67108864 = 63 by decide]; exact andm _ _ _ 6 (by decide) (by decide)
    have b2 : n % 67108864 &&& 4228120575 % 67108864 = n % 67108864 % 262144 := by rw [show 4228120575 % 67108864 = 262143 by decide]; exact andm _ _ _ 18 (by decide) (by decide)
    rw [b1, b2] at a
    rw [a]
    omega
  have e4 := or_mid (n / 67108864) (n % 262144) m 67108864 262144 26 18 p26.symm p18.symm (by omega) (by omega) (by omega) (by omega) (by omega) (by omega)
  rw [e3, e4]
  unfold setA
  omega

theorem setB_eq {x k : Int} (h : W32 x) : bits .or .u32 (bits .and .u32 x 4294966784) (bits .and .i64 k 511 % 4294967296) = setB x k := by
  obtain ⟨n, rfl, hn⟩ := nat_of h
  rw [and511]
  obtain ⟨m, hm, hm'⟩ := nat_mod k 512 (by omega)
  have e1 : k % 512 % 4294967296 = ((m : Nat) : Int) := by omega
  have e2 : (4294966784 : Int) = ((4294966784 : Nat) : Int) := rfl
  rw [e1, e2, bits_and_nat n 4294966784 hn (by omega), bits_or_nat _ _ (Nat.lt_of_le_of_lt Nat.and_le_left hn) (by omega)]
  have p9 : (2 : Nat) ^ 9 = 512 := by decide
  have e3 : n &&& 4294966784 = n / 512 * 512 := by
    have a := and_parts n 4294966784 9
    rw [p9] at a
    have b1 : n / 512 &&& 4294966784 / 512 = n / 512 % 8388608 := by rw [show 4294966784 / 512 = 8388607 by decide]; exact andm _ _ _ 23 (by decide) (by decide)
    have b2 : n % 512 &&& 4294966784 % 512 = 0 := by rw [show 4294966784 % 512 = 0 by decide]; exact Nat.and_zero _
    rw [b1, b2] at a
    rw [a]
    omega
  have e4 := or_disj m (n / 512) 9 (by omega)
  rw [p9] at e4
  rw [e3, Nat.or_comm, e4]
  unfold setB
  omega

theorem setC_eq {x k : Int} (h : W32 x) : bits .or .u32 (bits .and .u32 x 4294705663) (RowKit.wrap64 (bits .and .i64 k 511 * 512) % 4294967296) = setC x k := by
  obtain ⟨n, rfl, hn⟩ := nat_of h
  rw [and511]
  obtain ⟨m, hm, hm'⟩ := nat_mod k 512 (by omega)
  have e1 : RowKit.wrap64 (k % 512 * 512) % 4294967296 = ((m * 512 : Nat) : Int) := by unfold RowKit.wrap64; omega
  have e2 : (4294705663 : Int) = ((4294705663 : Nat) : Int) := rfl
  rw [e1, e2, bits_and_nat n 4294705663 hn (by omega), bits_or_nat _ _ (Nat.lt_of_le_of_lt Nat.and_le_left hn) (by omega)]
  have p9 : (2 : Nat) ^ 9 = 512 := by decide
  have p18 : (2 : Nat) ^ 18 = 262144 := by decide
  have e3 : n &&& 4294705663 = n / 262144 * 262144 + n % 512 := by
    have a := and_parts n 4294705663 18
    rw [p18] at a
    have b1 : n / 262144 &&& 4294705663 / 262144 = n / 262144 % 16384 := by rw [show 4294705663 / 262144 = 16383 by decide]; exact andm _ _ _ 14 (by decide) (by decide)
    have b2 : n % 262144 &&& 4294705663 % 262144 = n % 262144 % 512 := by rw [show 4294705663 % 262144 = 511 by decide]; exact andm _ _ _ 9 (by decide) (by decide)
    rw [b1, b2] at a
    rw [a]
    omega
  have e4 := or_mid (n / 262144) (n % 512) m 262144 512 18 9 p18.symm p9.symm (by omega) (by omega) (by omega) (by omega) (by omega) (by omega)
  rw [e3, e4]
  unfold setC
  omega

theorem setBx_eq {x k : Int} (h : W32 x) : bits .or .u32 (bits .and .u32 x 4294705152) (bits .and .i64 k 262143 % 4294967296) = setBx x k := by
  obtain ⟨n, rfl, hn⟩ := nat_of h
  rw [and18]
  obtain ⟨m, hm, hm'⟩ := nat_mod k 262144 (by omega)
  have e1 : k % 262144 % 4294967296 = ((m : Nat) : Int) := by omega
  have e2 : (4294705152 : Int) = ((4294705152 : Nat) : Int) := rfl
  rw [e1, e2, bits_and_nat n 4294705152 hn (by omega), bits_or_nat _ _ (Nat.lt_of_le_of_lt Nat.and_le_left hn) (by omega)]
  have p18 : (2 : Nat) ^ 18 = 262144 := by decide
  have e3 : n &&& 4294705152 = n / 262144 * 262144 := by
    have a := and_parts n 4294705152 18
    rw [p18] at a
    have b1 : n / 262144 &&& 4294705152 / 262144 = n / 262144 % 16384 := by rw [show 4294705152 / 262144 = 16383 by decide]; exact andm _ _ _ 14 (by decide) (by decide)
    have b2 : n % 262144 &&& 4294705152 % 262144 = 0 := by rw [show 4294705152 % 262144 = 0 by decide]; exact Nat.and_zero _
    rw [b1, b2] at a
    rw [a]
    omega
  have e4 := or_disj m (n / 262144) 18 (by omega)
  rw [p18] at e4
  rw [e3, Nat.or_comm, e4]
  unfold setBx
  omega

end Fld
end Go.Proofs.YtiihgamhmflphaaFmt
