/- Exact laws on the words of IEEE doubles, in units of 2^-1074: comparison, exact sums, rounding between representable bounds. Plain: no program in sight. -/
import Ieee.Arith
namespace Go.Proofs.YtekfficjacnefaaDoor
namespace Fp
open Ieee

/-- The place of a whole, in units. -/
def pl : Nat := 1074
theorem pl_eq : pl = 1074 := rfl
/-- One whole is 2 ^ 1074 units. -/
def one : Nat := 2 ^ pl

/-- A signed magnitude. -/
def sg (s : Bool) (k : Nat) : Int := if s then -(k : Int) else (k : Int)

/-- The value of a datum in units of 2^-1074, if it is finite and not finer than a unit. -/
def units : Datum → Option Int
  | .number s m p => some (sg s (m * 2 ^ (p + 1074).toNat))
  | _ => none

def fv (x : Nat) : Option Int := units (double.read x)

/-- Representable magnitudes (in units). -/
def Rep (r : Nat) : Prop := ∃ k e : Nat, r = k * 2 ^ e ∧ k < 2 ^ 53 ∧ e ≤ 2045

theorem pow_pos (n : Nat) : 0 < 2 ^ n := Nat.two_pow_pos n

theorem signed_eq (s : Bool) (m a : Nat) : signed s m a = sg s (m * 2 ^ a) := by
  unfold signed sg
  rw [Nat.shiftLeft_eq]

theorem leastPlace_eq : double.leastPlace = -1074 := by decide
theorem binade_eq : double.binade = 4503599627370496 := by decide
theorem infRung_eq : double.infRung = 9218868437227405312 := by decide
theorem signWeight_eq : double.signWeight = 9223372036854775808 := by decide
theorem fractionBits_eq : double.fractionBits = 52 := rfl

/-- What a finite word reads as. -/
theorem read_num {x : Nat} {s : Bool} {m : Nat} {p : Int} (h : double.read x = .number s m p) :
    ∃ a : Nat, p = -1074 + (a : Int) ∧ m < 9007199254740992 ∧ a ≤ 2045 := by
  unfold Format.read at h
  simp only [leastPlace_eq, binade_eq, infRung_eq, signWeight_eq] at h
  split at h
  · cases h
    exact ⟨0, by simp, by omega, by omega⟩
  · split at h
    · rename_i h1 h2
      cases h
      refine ⟨x % 9223372036854775808 / 4503599627370496 - 1, rfl, by omega, by omega⟩
    · split at h <;> cases h

theorem fv_num {x : Nat} {v : Int} (h : fv x = some v) : ∃ (s : Bool) (m a : Nat), double.read x = .number s m (-1074 + (a : Int)) ∧ v = sg s (m * 2 ^ a) ∧ m < 9007199254740992 ∧ a ≤ 2045 := by
  unfold fv at h
  cases hr : double.read x with
  | number s m p =>
    obtain ⟨a, rfl, hm, ha⟩ := read_num hr
    rw [hr] at h
    simp only [units, Option.some.injEq] at h
    refine ⟨s, m, a, rfl, ?_, hm, ha⟩
    rw [← h]
    congr 3
    omega
  | infinity s => rw [hr] at h; simp [units] at h
  | nan s t => rw [hr] at h; simp [units] at h

theorem natAbs_sg (s : Bool) (k : Nat) : (sg s k).natAbs = k := by
  unfold sg; split <;> omega

theorem fv_rep {x : Nat} {v : Int} (h : fv x = some v) : Rep v.natAbs := by
  obtain ⟨s, m, a, _, rfl, hm, ha⟩ := fv_num h
  exact ⟨m, a, natAbs_sg _ _, hm, ha⟩

theorem sg_mul (s : Bool) (m c : Nat) : sg s (m * c) = sg s m * (c : Int) := by
  unfold sg; split
  · rw [Int.natCast_mul, Int.neg_mul]
  · rw [Int.natCast_mul]

theorem compare_mul (a b : Int) (c : Nat) (hc : 0 < c) : compare (a * (c : Int)) (b * (c : Int)) = compare a b := by
  have hc' : (0 : Int) < (c : Int) := by omega
  rcases Int.lt_trichotomy a b with h | h | h
  · rw [Int.compare_eq_lt.2 h, Int.compare_eq_lt.2 (Int.mul_lt_mul_of_pos_right h hc')]
  · subst h; simp
  · rw [Int.compare_eq_gt.2 h, Int.compare_eq_gt.2 (Int.mul_lt_mul_of_pos_right h hc')]

theorem pow_split (a b : Nat) (h : b ≤ a) : 2 ^ a = 2 ^ (a - b) * 2 ^ b := by
  rw [← Nat.pow_add]; congr 1; omega

/-- COMPARISON: as the values are. -/
theorem order_fin {x y : Nat} {v u : Int} (hx : fv x = some v) (hy : fv y = some u) : double.order x y = some (compare v u) := by
  obtain ⟨s, m, a, hr, rfl, _, _⟩ := fv_num hx
  obtain ⟨t, n, b, hq, rfl, _, _⟩ := fv_num hy
  unfold Format.order
  rw [hr, hq]
  simp only [Datum.order, signed_eq]
  have hmin : min (-1074 + (a : Int)) (-1074 + (b : Int)) = -1074 + ((min a b : Nat) : Int) := by omega
  rw [hmin]
  have e1 : (-1074 + (a : Int) - (-1074 + ((min a b : Nat) : Int))).toNat = a - min a b := by omega
  have e2 : (-1074 + (b : Int) - (-1074 + ((min a b : Nat) : Int))).toNat = b - min a b := by omega
  rw [e1, e2, ← compare_mul _ _ (2 ^ min a b) (pow_pos _), ← sg_mul, ← sg_mul, Nat.mul_assoc, Nat.mul_assoc,
    ← pow_split a _ (Nat.min_le_left _ _), ← pow_split b _ (Nat.min_le_right _ _)]

/-! ### Rounding -/

theorem one_shl (n : Nat) : 1 <<< n = 2 ^ n := by rw [Nat.shiftLeft_eq, Nat.one_mul]

theorem cut_le (neg : Bool) (n drop R : Nat) (h : n ≤ R * 2 ^ drop) : Toward.even.cut neg n drop ≤ R := by
  unfold Toward.cut
  simp only [one_shl]
  by_cases hd : drop ≤ n.log2 + 2
  · rw [Nat.min_eq_left hd]
    have hg := pow_pos drop
    generalize 2 ^ drop = g at h hg
    rcases Nat.lt_or_eq_of_le h with hlt | heq
    · have : n / g < R := Nat.div_lt_of_lt_mul (by rw [Nat.mul_comm]; exact hlt)
      have hb : ∀ b : Bool, b.toNat ≤ 1 := by intro b; cases b <;> simp
      have := hb (decide (g < 2 * (n % g)) || (g == 2 * (n % g) && n / g % 2 == 1))
      omega
    · subst heq
      rw [Nat.mul_mod_left, Nat.mul_div_cancel _ hg]
      have hz : (decide (g < 2 * 0) || (g == 2 * 0 && R % 2 == 1)) = false := by
        simp; omega
      rw [hz]; exact Nat.le_refl _
  · rw [Nat.min_eq_right (by omega)]
    have hl := @Nat.lt_log2_self n
    have h4 : 2 ^ (n.log2 + 2) = 2 * 2 ^ (n.log2 + 1) := by rw [Nat.pow_succ, Nat.mul_comm]
    have hn : n < 2 ^ (n.log2 + 2) := by omega
    rw [Nat.div_eq_of_lt hn, Nat.mod_eq_of_lt hn]
    have : (decide (2 ^ (n.log2 + 2) < 2 * n) || (2 ^ (n.log2 + 2) == 2 * n && 0 % 2 == 1)) = false := by
      simp; omega
    rw [this]; simp

theorem le_cut (neg : Bool) (n drop R : Nat) (h : R * 2 ^ drop ≤ n) : R ≤ Toward.even.cut neg n drop := by
  unfold Toward.cut
  simp only [one_shl]
  by_cases hd : drop ≤ n.log2 + 2
  · rw [Nat.min_eq_left hd]
    have := (Nat.le_div_iff_mul_le (pow_pos drop)).2 h
    omega
  · have hl := @Nat.lt_log2_self n
    have h1 : 2 ^ (n.log2 + 1) ≤ 2 ^ drop := Nat.pow_le_pow_right (by omega) (by omega)
    have : R = 0 := by
      apply Classical.byContradiction
      intro hR
      have : 1 * 2 ^ drop ≤ R * 2 ^ drop := Nat.mul_le_mul_right _ (by omega)
      omega
    rw [this]; exact Nat.zero_le _

/-- The word of a rung 'a binades and k' reads as k * 2 ^ a. -/
theorem fv_rung (neg : Bool) (a k : Nat) (hk : k ≤ 9007199254740992) (hlo : a = 0 ∨ 4503599627370496 ≤ k) (hfin : a * 4503599627370496 + k < 9218868437227405312) :
    fv (double.word neg (a * 4503599627370496 + k)) = some (sg neg (k * 2 ^ a)) := by
  unfold fv Format.read Format.word
  simp only [leastPlace_eq, binade_eq, infRung_eq, signWeight_eq]
  generalize hrg : a * 4503599627370496 + k = rung at *
  have e1 : ((if neg then 9223372036854775808 + rung else rung) / 9223372036854775808 % 2 == 1) = neg := by
    cases neg
    · simp; omega
    · simp; omega
  have e2 : (if neg then 9223372036854775808 + rung else rung) % 9223372036854775808 = rung := by
    cases neg
    · simp; omega
    · simp; omega
  rw [e1, e2]
  by_cases h1 : rung < 4503599627370496
  · rw [if_pos h1]
    have : a = 0 := by omega
    subst this
    have : k = rung := by omega
    subst this
    simp [units]
  · rw [if_neg h1, if_pos hfin]
    simp only [units, Option.some.injEq]
    congr 1
    by_cases h2 : k = 9007199254740992
    · subst h2
      have d : rung / 4503599627370496 = a + 2 := by omega
      have m : rung % 4503599627370496 = 0 := by omega
      rw [d, m]
      have : (-1074 + ((a + 2 - 1 : Nat) : Int) + 1074).toNat = a + 1 := by omega
      rw [this, Nat.pow_succ]
      omega
    · have hk2 : 4503599627370496 ≤ k := by omega
      have d : rung / 4503599627370496 = a + 1 := by omega
      have m : rung % 4503599627370496 = k - 4503599627370496 := by omega
      rw [d, m]
      have h5 : (-1074 + ((a + 1 - 1 : Nat) : Int) + 1074).toNat = a := by omega
      have h6 : 4503599627370496 + (k - 4503599627370496) = k := by omega
      rw [h5, h6]


theorem scale (mag R a : Nat) (q : Int) : mag * 2 ^ q.toNat ≤ R * 2 ^ a * 2 ^ (-q).toNat ↔ mag * 2 ^ (q - (a : Int)).toNat ≤ R * 2 ^ ((a : Int) - q).toNat := by
  by_cases h1 : (a : Int) ≤ q
  · have e1 : (-q).toNat = 0 := by omega
    have e2 : ((a : Int) - q).toNat = 0 := by omega
    have e3 : q.toNat = (q - (a : Int)).toNat + a := by omega
    rw [e1, e2, e3, Nat.pow_add, ← Nat.mul_assoc]
    simp only [Nat.pow_zero, Nat.mul_one]
    exact Nat.mul_le_mul_right_iff (pow_pos a)
  · by_cases h2 : 0 ≤ q
    · have e1 : (-q).toNat = 0 := by omega
      have e2 : (q - (a : Int)).toNat = 0 := by omega
      have e3 : a = ((a : Int) - q).toNat + q.toNat := by omega
      rw [e1, e2]
      have : 2 ^ a = 2 ^ ((a : Int) - q).toNat * 2 ^ q.toNat := by rw [← Nat.pow_add]; exact congrArg _ e3
      rw [this, ← Nat.mul_assoc]
      simp only [Nat.pow_zero, Nat.mul_one]
      exact Nat.mul_le_mul_right_iff (pow_pos _)
    · have e1 : q.toNat = 0 := by omega
      have e2 : (q - (a : Int)).toNat = 0 := by omega
      have e3 : ((a : Int) - q).toNat = a + (-q).toNat := by omega
      rw [e1, e2, e3, Nat.pow_add, ← Nat.mul_assoc]

theorem scale' (mag R a : Nat) (q : Int) : R * 2 ^ a * 2 ^ (-q).toNat ≤ mag * 2 ^ q.toNat ↔ R * 2 ^ ((a : Int) - q).toNat ≤ mag * 2 ^ (q - (a : Int)).toNat := by
  by_cases h1 : (a : Int) ≤ q
  · have e1 : (-q).toNat = 0 := by omega
    have e2 : ((a : Int) - q).toNat = 0 := by omega
    have e3 : q.toNat = (q - (a : Int)).toNat + a := by omega
    rw [e1, e2, e3, Nat.pow_add, ← Nat.mul_assoc]
    simp only [Nat.pow_zero, Nat.mul_one]
    exact Nat.mul_le_mul_right_iff (pow_pos a)
  · by_cases h2 : 0 ≤ q
    · have e1 : (-q).toNat = 0 := by omega
      have e2 : (q - (a : Int)).toNat = 0 := by omega
      have e3 : a = ((a : Int) - q).toNat + q.toNat := by omega
      rw [e1, e2]
      have : 2 ^ a = 2 ^ ((a : Int) - q).toNat * 2 ^ q.toNat := by rw [← Nat.pow_add]; exact congrArg _ e3
      rw [this, ← Nat.mul_assoc]
      simp only [Nat.pow_zero, Nat.mul_one]
      exact Nat.mul_le_mul_right_iff (pow_pos _)
    · have e1 : q.toNat = 0 := by omega
      have e2 : (q - (a : Int)).toNat = 0 := by omega
      have e3 : ((a : Int) - q).toNat = a + (-q).toNat := by omega
      rw [e1, e2, e3, Nat.pow_add, ← Nat.mul_assoc]

/-- ROUNDING: the word of a number that some representable bound covers reads as a K that lies between all representable bounds. -/
theorem write_near (neg : Bool) (mag : Nat) (p : Int) (B : Nat) (hB : Rep B) (hle : mag * 2 ^ (p + 1074).toNat ≤ B * 2 ^ (-(p + 1074)).toNat) :
    ∃ K : Nat, fv (double.write (.number neg mag p)) = some (sg neg K) ∧
      (∀ R, Rep R → mag * 2 ^ (p + 1074).toNat ≤ R * 2 ^ (-(p + 1074)).toNat → K ≤ R) ∧
      (∀ R, Rep R → R * 2 ^ (-(p + 1074)).toNat ≤ mag * 2 ^ (p + 1074).toNat → R ≤ K) := by
  by_cases hm : mag = 0
  · subst hm
    refine ⟨0, ?_, fun R _ _ => Nat.zero_le _, fun R _ h => ?_⟩
    · have := fv_rung neg 0 0 (by omega) (Or.inl rfl) (by omega)
      simpa [Format.write, Format.nearest] using this
    · have := pow_pos (-(p + 1074)).toNat
      rw [Nat.zero_mul] at h
      have h0 := Nat.eq_zero_of_le_zero h
      rcases Nat.mul_eq_zero.1 h0 with h' | h' <;> omega
  · have hw : double.write (.number neg mag p) = double.word neg (min (((max (p + mag.log2 - 52) (-1074)) - (-1074)).toNat * 4503599627370496 + Toward.even.cut neg (mag <<< (p - (max (p + mag.log2 - 52) (-1074))).toNat) ((max (p + mag.log2 - 52) (-1074)) - p).toNat) 9218868437227405312) := by
      show double.nearest neg mag p = _
      unfold Format.nearest
      rw [if_neg hm]
      simp only [leastPlace_eq, binade_eq, infRung_eq, fractionBits_eq]
      rfl
    rw [hw]
    obtain ⟨a, ha⟩ : ∃ a : Nat, (max (p + mag.log2 - 52) (-1074)) = (a : Int) - 1074 := ⟨(max (p + mag.log2 - 52) (-1074) + 1074).toNat, by omega⟩
    have hgeA : p + 1074 + mag.log2 ≤ (a : Int) + 52 := by omega
    have hposA : 0 < a → (a : Int) + 52 = p + 1074 + mag.log2 := by omega
    rw [ha]
    have hL := Nat.log2_self_le hm
    have hU := @Nat.lt_log2_self mag
    generalize mag.log2 = L at *
    generalize hq : p + 1074 = q at *
    have e1 : (p - ((a : Int) - 1074)).toNat = (q - (a : Int)).toNat := by omega
    have e2 : ((a : Int) - 1074 - p).toNat = ((a : Int) - q).toNat := by omega
    have e3 : ((a : Int) - 1074 - -1074).toNat = a := by omega
    rw [e1, e2, e3, Nat.shiftLeft_eq]
    clear hw ha e1 e2 e3 hq p
    generalize hk : Toward.even.cut neg (mag * 2 ^ (q - (a : Int)).toNat) ((a : Int) - q).toNat = kept
    have n52 : (4503599627370496 : Nat) = 2 ^ 52 := by decide
    have n53 : (9007199254740992 : Nat) = 2 ^ 53 := by decide
    -- the kept digits are at most 2^53
    have hk1 : kept ≤ 9007199254740992 := by
      rw [← hk]
      apply cut_le
      rw [← scale]
      have h1 : mag * 2 ^ q.toNat ≤ 2 ^ (L + 1) * 2 ^ q.toNat := Nat.mul_le_mul_right _ (by omega)
      refine Nat.le_trans h1 ?_
      rw [n53, ← Nat.pow_add, ← Nat.pow_add, ← Nat.pow_add]
      exact Nat.pow_le_pow_right (by omega) (by omega)
    -- and at least 2^52 above the least place
    have hbig : 0 < a → 4503599627370496 * 2 ^ a * 2 ^ (-q).toNat ≤ mag * 2 ^ q.toNat := by
      intro h0
      have h1 : 2 ^ L * 2 ^ q.toNat ≤ mag * 2 ^ q.toNat := Nat.mul_le_mul_right _ hL
      refine Nat.le_trans ?_ h1
      rw [n52, ← Nat.pow_add, ← Nat.pow_add, ← Nat.pow_add]
      have := hposA h0
      exact Nat.pow_le_pow_right (by omega) (by omega)
    have hk2 : 0 < a → 4503599627370496 ≤ kept := by
      intro h0
      rw [← hk]
      apply le_cut
      rw [← scale']
      exact hbig h0
    have small : ∀ k e : Nat, k < 2 ^ 53 → e < a → k * 2 ^ e < 4503599627370496 * 2 ^ a := by
      intro k e hk he
      have h1 : k * 2 ^ e < 2 ^ 53 * 2 ^ e := Nat.mul_lt_mul_of_pos_right hk (pow_pos e)
      have h2 : 2 ^ 53 * 2 ^ e ≤ 4503599627370496 * 2 ^ a := by
        rw [n52, ← Nat.pow_add, ← Nat.pow_add]
        exact Nat.pow_le_pow_right (by omega) (by omega)
      omega
    have up : ∀ R, Rep R → mag * 2 ^ q.toNat ≤ R * 2 ^ (-q).toNat → kept * 2 ^ a ≤ R := by
      intro R hR h
      obtain ⟨k, e, rfl, hk53, he⟩ := hR
      by_cases hea : a ≤ e
      · have hs : k * 2 ^ e = k * 2 ^ (e - a) * 2 ^ a := by rw [Nat.mul_assoc, ← pow_split e a hea]
        rw [hs] at h ⊢
        rw [scale] at h
        refine Nat.mul_le_mul_right _ ?_
        rw [← hk]
        exact cut_le _ _ _ _ h
      · have h1 := small k e hk53 (by omega)
        have h2 := hbig (by omega)
        have h3 : k * 2 ^ e * 2 ^ (-q).toNat < 4503599627370496 * 2 ^ a * 2 ^ (-q).toNat := Nat.mul_lt_mul_of_pos_right h1 (pow_pos _)
        omega
    have down : ∀ R, Rep R → R * 2 ^ (-q).toNat ≤ mag * 2 ^ q.toNat → R ≤ kept * 2 ^ a := by
      intro R hR h
      obtain ⟨k, e, rfl, hk53, he⟩ := hR
      by_cases hea : a ≤ e
      · have hs : k * 2 ^ e = k * 2 ^ (e - a) * 2 ^ a := by rw [Nat.mul_assoc, ← pow_split e a hea]
        rw [hs] at h ⊢
        rw [scale'] at h
        refine Nat.mul_le_mul_right _ ?_
        rw [← hk]
        exact le_cut _ _ _ _ h
      · have h1 := small k e hk53 (by omega)
        have h2 : 4503599627370496 * 2 ^ a ≤ kept * 2 ^ a := Nat.mul_le_mul_right _ (hk2 (by omega))
        omega
    have hKB := up B hB hle
    obtain ⟨kb, eb, rfl, hkb, heb⟩ := hB
    obtain ⟨E, hE⟩ : ∃ E : Nat, E = 2045 := ⟨_, rfl⟩
    rw [← hE] at heb
    have hB98 : kb * 2 ^ eb < 2 ^ 53 * 2 ^ E := by
      have h1 : kb * 2 ^ eb < 2 ^ 53 * 2 ^ eb := Nat.mul_lt_mul_of_pos_right hkb (pow_pos eb)
      have h2 : 2 ^ 53 * 2 ^ eb ≤ 2 ^ 53 * 2 ^ E := Nat.mul_le_mul_left _ (Nat.pow_le_pow_right (by omega) heb)
      omega
    have hfin : a * 4503599627370496 + kept < 9218868437227405312 := by
      by_cases ha1 : 2046 ≤ a
      · have h1 : 4503599627370496 * 2 ^ a ≤ kept * 2 ^ a := Nat.mul_le_mul_right _ (hk2 (by omega))
        have h2 : 2 ^ 53 * 2 ^ E ≤ 4503599627370496 * 2 ^ a := by
          rw [n52, ← Nat.pow_add, ← Nat.pow_add]
          exact Nat.pow_le_pow_right (by omega) (by omega)
        omega
      · by_cases ha2 : a = E ∧ kept = 9007199254740992
        · obtain ⟨h1, h2⟩ := ha2
          rw [h1, h2, n53] at hKB
          omega
        · omega
    refine ⟨kept * 2 ^ a, ?_, up, down⟩
    rw [Nat.min_eq_left (by omega)]
    exact fv_rung neg a kept hk1 (by by_cases h0 : a = 0; exact Or.inl h0; exact Or.inr (hk2 (by omega))) hfin

theorem write_exact (neg : Bool) (mag : Nat) (p : Int) (hp : 0 ≤ p + 1074) (h : Rep (mag * 2 ^ (p + 1074).toNat)) :
    fv (double.write (.number neg mag p)) = some (sg neg (mag * 2 ^ (p + 1074).toNat)) := by
  have e : (-(p + 1074)).toNat = 0 := by omega
  obtain ⟨K, hK, h1, h2⟩ := write_near neg mag p _ h (by rw [e]; simp)
  have a := h1 _ h (by rw [e]; simp)
  have b := h2 _ h (by rw [e]; simp)
  rw [hK, Nat.le_antisymm a b]

theorem sg_abs (v : Int) (s : Bool) (h : v ≠ 0 → s = decide (v < 0)) : sg s v.natAbs = v := by
  unfold sg
  by_cases hv : v = 0
  · subst hv; simp
  · rw [h hv]
    by_cases h0 : v < 0
    · simp [h0]; omega
    · simp [h0]; omega

theorem sum_num (s : Bool) (m a : Nat) (t : Bool) (n b : Nat) :
    ∃ (ng : Bool) (T : Int), Datum.sum (.number s m (-1074 + (a : Int))) (.number t n (-1074 + (b : Int))) = some (.number ng T.natAbs (-1074 + ((min a b : Nat) : Int))) ∧
      T * ((2 ^ min a b : Nat) : Int) = sg s (m * 2 ^ a) + sg t (n * 2 ^ b) ∧ (T ≠ 0 → ng = decide (T < 0)) := by
  simp only [Datum.sum, signed_eq]
  have hmin : min (-1074 + (a : Int)) (-1074 + (b : Int)) = -1074 + ((min a b : Nat) : Int) := by omega
  rw [hmin]
  have e1 : (-1074 + (a : Int) - (-1074 + ((min a b : Nat) : Int))).toNat = a - min a b := by omega
  have e2 : (-1074 + (b : Int) - (-1074 + ((min a b : Nat) : Int))).toNat = b - min a b := by omega
  rw [e1, e2]
  refine ⟨_, _, rfl, ?_, ?_⟩
  · rw [Int.add_mul, ← sg_mul, ← sg_mul, Nat.mul_assoc, Nat.mul_assoc, ← pow_split a _ (Nat.min_le_left _ _), ← pow_split b _ (Nat.min_le_right _ _)]
  · intro h
    rw [if_neg h]

theorem write_sum {ng : Bool} {T : Int} {c : Nat} {v : Int} (hT : T * ((2 ^ c : Nat) : Int) = v) (hn : T ≠ 0 → ng = decide (T < 0)) (hr : Rep v.natAbs) :
    fv (double.write (.number ng T.natAbs (-1074 + (c : Int)))) = some v := by
  have e : (-1074 + (c : Int) + 1074).toNat = c := by omega
  have ev : T.natAbs * 2 ^ c = v.natAbs := by
    rw [← hT, Int.natAbs_mul, Int.natAbs_natCast]
  have h := write_exact ng T.natAbs (-1074 + (c : Int)) (by omega) (by rw [e, ev]; exact hr)
  rw [h, e, ev]
  congr 1
  apply sg_abs
  intro h0
  have hc : (0 : Int) < ((2 ^ c : Nat) : Int) := by have := pow_pos c; omega
  have hT0 : T ≠ 0 := by
    intro h1; rw [h1] at hT; simp at hT; exact h0 hT.symm
  rw [hn hT0]
  congr 1
  rw [← hT]
  apply propext
  constructor
  · intro h1; exact Int.mul_neg_of_neg_of_pos h1 hc
  · intro h1
    apply Classical.byContradiction
    intro h2
    have := Int.mul_nonneg (show 0 ≤ T by omega) (Int.le_of_lt hc)
    omega

/-- AN EXACT SUM. -/
theorem add_fin {x y : Nat} {v u : Int} (hx : fv x = some v) (hy : fv y = some u) (hr : Rep (v + u).natAbs) :
    ∃ r, double.add x y = some r ∧ fv r = some (v + u) := by
  obtain ⟨s, m, a, hrx, rfl, _, _⟩ := fv_num hx
  obtain ⟨t, n, b, hry, rfl, _, _⟩ := fv_num hy
  obtain ⟨ng, T, hs, hT, hn⟩ := sum_num s m a t n b
  refine ⟨_, ?_, write_sum hT hn hr⟩
  unfold Format.add
  rw [hrx, hry, hs]
  rfl

theorem sg_not (t : Bool) (k : Nat) : sg (!t) k = -sg t k := by
  unfold sg; cases t <;> simp

/-- AN EXACT DIFFERENCE. -/
theorem sub_fin {x y : Nat} {v u : Int} (hx : fv x = some v) (hy : fv y = some u) (hr : Rep (v - u).natAbs) :
    ∃ r, double.sub x y = some r ∧ fv r = some (v - u) := by
  obtain ⟨s, m, a, hrx, rfl, _, _⟩ := fv_num hx
  obtain ⟨t, n, b, hry, rfl, _, _⟩ := fv_num hy
  obtain ⟨ng, T, hs, hT, hn⟩ := sum_num s m a (!t) n b
  rw [sg_not, ← Int.sub_eq_add_neg] at hT
  refine ⟨_, ?_, write_sum hT hn hr⟩
  unfold Format.sub
  rw [hrx, hry]
  simp only [Datum.opposite]
  rw [hs]
  rfl

/-- TRUNCATION. -/
theorem cut_zero (s : Bool) (n drop : Nat) : Toward.zero.cut s n drop = n / 2 ^ drop := by
  unfold Toward.cut
  simp only [one_shl, Bool.toNat_false, Nat.add_zero]
  by_cases hd : drop ≤ n.log2 + 2
  · rw [Nat.min_eq_left hd]
  · rw [Nat.min_eq_right (by omega)]
    have hl := @Nat.lt_log2_self n
    have h1 : 2 ^ (n.log2 + 1) ≤ 2 ^ drop := Nat.pow_le_pow_right (by omega) (by omega)
    have h2 : 2 ^ (n.log2 + 1) ≤ 2 ^ (n.log2 + 2) := Nat.pow_le_pow_right (by omega) (by omega)
    rw [Nat.div_eq_of_lt (by omega), Nat.div_eq_of_lt (by omega)]

theorem tdiv_sg (s : Bool) (k d : Nat) : (sg s k).tdiv (d : Int) = sg s (k / d) := by
  unfold sg
  cases s
  · simp
  · simp [Int.neg_tdiv]

theorem toInt_fin {x : Nat} {v : Int} (hx : fv x = some v) : (double.read x).toInt .zero = some (v.tdiv (one : Int)) := by
  obtain ⟨s, m, a, hr, rfl, _, _⟩ := fv_num hx
  rw [hr]
  simp only [Datum.toInt, Datum.integral, signed_eq, cut_zero, Nat.pow_zero, Nat.mul_one, Nat.shiftLeft_eq]
  rw [tdiv_sg]
  congr 2
  unfold one
  have hp := pl_eq
  generalize pl = u at hp
  by_cases h : u ≤ a
  · have e1 : (-1074 + (a : Int)).toNat = a - u := by omega
    have e2 : (-(-1074 + (a : Int))).toNat = 0 := by omega
    rw [e1, e2, Nat.pow_zero, Nat.div_one, pow_split a u h, ← Nat.mul_assoc, Nat.mul_div_cancel _ (pow_pos _)]
  · have e1 : (-1074 + (a : Int)).toNat = 0 := by omega
    have e2 : (-(-1074 + (a : Int))).toNat = u - a := by omega
    rw [e1, e2, Nat.pow_zero, Nat.mul_one, pow_split u a (by omega), Nat.mul_div_mul_right _ _ (pow_pos _)]

theorem one_pos : 0 < one := pow_pos _

/-- AN INTEGER AS A DOUBLE, where it is representable. -/
theorem ofInt_exact (n : Int) (h : Rep (n.natAbs * one)) : fv (double.write (.number (n < 0) n.natAbs 0)) = some (n * (one : Int)) := by
  have e : ((0 : Int) + 1074).toNat = pl := by have := pl_eq; omega
  have := write_exact (decide (n < 0)) n.natAbs 0 (by omega) (by rw [e]; exact h)
  rw [this, e]
  show some (sg _ (n.natAbs * one)) = _
  rw [sg_mul, sg_abs n _ (fun _ => rfl)]

theorem rep_int (k : Nat) (h : k < 2 ^ 53) : Rep (k * one) := ⟨k, pl, rfl, h, by have := pl_eq; omega⟩

/-- WORDS THAT ARE NO FINITE NUMBER. -/
theorem fv_none {x : Nat} (h : fv x = none) : (∃ s, double.read x = .infinity s) ∨ ∃ s t, double.read x = .nan s t := by
  unfold fv at h
  cases hr : double.read x with
  | number s m p => rw [hr] at h; simp [units] at h
  | infinity s => exact Or.inl ⟨s, rfl⟩
  | nan s t => exact Or.inr ⟨s, t, rfl⟩

/-- NEGATION. -/
theorem read_neg (x : Nat) : double.read (x ^^^ 2 ^ 63) = (double.read x).opposite := by
  have h1 : (x ^^^ 2 ^ 63) % 2 ^ 63 = x % 2 ^ 63 := by
    rw [Nat.xor_mod_two_pow, Nat.mod_self, Nat.xor_zero]
  have h2 : (x ^^^ 2 ^ 63) / 2 ^ 63 = x / 2 ^ 63 ^^^ 1 := by
    rw [Nat.xor_div_two_pow, Nat.div_self (pow_pos 63)]
  have h3 : (x / 2 ^ 63 ^^^ 1) % 2 = 1 - x / 2 ^ 63 % 2 := by
    have h := @Nat.xor_mod_two_pow (x / 2 ^ 63) 1 1
    simp only [Nat.pow_one] at h
    rw [h]
    rcases Nat.mod_two_eq_zero_or_one (x / 2 ^ 63) with h0 | h0 <;> rw [h0] <;> rfl
  unfold Format.read
  simp only [leastPlace_eq, binade_eq, infRung_eq, signWeight_eq]
  have n63 : (9223372036854775808 : Nat) = 2 ^ 63 := by decide
  rw [n63, h1, h2, h3]
  have h4 : ((1 - x / 2 ^ 63 % 2) == 1) = !(x / 2 ^ 63 % 2 == 1) := by
    rcases Nat.mod_two_eq_zero_or_one (x / 2 ^ 63) with h0 | h0 <;> rw [h0] <;> rfl
  rw [h4]
  split
  · rfl
  · split
    · rfl
    · split <;> rfl

theorem fv_neg {x : Nat} {v : Int} (h : fv x = some v) : fv (x ^^^ 2 ^ 63) = some (-v) := by
  obtain ⟨s, m, a, hr, rfl, _, _⟩ := fv_num h
  unfold fv
  rw [read_neg, hr]
  have e : (-1074 + (a : Int) + 1074).toNat = a := by omega
  simp only [Datum.opposite, units, e, sg_not]

theorem fv_neg_none {x : Nat} (h : fv x = none) : fv (x ^^^ 2 ^ 63) = none := by
  unfold fv
  rw [read_neg]
  rcases fv_none h with ⟨s, hr⟩ | ⟨s, t, hr⟩ <;> rw [hr] <;> rfl

/-- A word that is no finite number is not equal to one that is. -/
theorem order_none_left {x y : Nat} {u : Int} (hx : fv x = none) (hy : fv y = some u) : double.order x y ≠ some .eq := by
  obtain ⟨t, n, b, hq, _, _, _⟩ := fv_num hy
  unfold Format.order
  rcases fv_none hx with ⟨s, hr⟩ | ⟨s, t, hr⟩
  · rw [hr, hq]; cases s <;> simp [Datum.order]
  · rw [hr]; simp [Datum.order]

end Fp
end Go.Proofs.YtekfficjacnefaaDoor
