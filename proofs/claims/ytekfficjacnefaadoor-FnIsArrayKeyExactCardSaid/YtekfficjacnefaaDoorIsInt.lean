/- What isInteger answers, over the exact laws on doubles (no program in sight). -/
import Derived.Test.YtekfficjacnefaaDoorFp
import Derived.Laws.FloatArith
namespace Go.Proofs.YtekfficjacnefaaDoor
open Ieee

/-- Is the word a finite number with no fractional part? -/
def isIntB (x : Nat) : Bool := match Fp.fv x with
  | some v => v % (Fp.one : Int) == 0
  | none => false

/-- In the range of an int64, or no finite number at all. -/
def InR (x : Nat) : Prop := ∀ v, Fp.fv x = some v → -(9223372036854775808 * (Fp.one : Int)) ≤ v ∧ v < 9223372036854775808 * (Fp.one : Int)

namespace Fp

theorem one_pos' : (0 : Int) < (one : Int) := by have := one_pos; omega

theorem tdiv_range {v : Int} (h1 : -(9223372036854775808 * (one : Int)) ≤ v) (h2 : v < 9223372036854775808 * (one : Int)) :
    -9223372036854775808 ≤ v.tdiv (one : Int) ∧ v.tdiv (one : Int) ≤ 9223372036854775807 := by
  have hp := one_pos'
  constructor
  · by_cases h0 : 0 ≤ v
    · have := Int.tdiv_nonneg h0 (Int.le_of_lt hp); omega
    · have e : v = -(-v) := by omega
      rw [e, Int.neg_tdiv, Int.tdiv_eq_ediv_of_nonneg (by omega)]
      have : (-v) / (one : Int) ≤ 9223372036854775808 := by
        apply Int.ediv_le_of_le_mul hp; omega
      omega
  · by_cases h0 : 0 ≤ v
    · rw [Int.tdiv_eq_ediv_of_nonneg h0]
      have : v / (one : Int) < 9223372036854775808 := Int.ediv_lt_of_lt_mul hp (by omega)
      omega
    · have e : v = -(-v) := by omega
      rw [e, Int.neg_tdiv]
      have := Int.tdiv_nonneg (show 0 ≤ -v by omega) (Int.le_of_lt hp)
      omega

/-- The whole part of a representable number is representable. -/
theorem rep_trunc {r : Nat} (h : Rep r) : Rep (r / one * one) := by
  obtain ⟨k, e, rfl, hk, he⟩ := h
  unfold one
  have hpl := pl_eq
  generalize pl = u at hpl
  by_cases hu : u ≤ e
  · have : k * 2 ^ e / 2 ^ u * 2 ^ u = k * 2 ^ e := by
      apply Nat.div_mul_cancel
      exact ⟨k * 2 ^ (e - u), by rw [pow_split e u hu, ← Nat.mul_assoc, Nat.mul_comm]⟩
    rw [this]
    exact ⟨k, e, rfl, hk, he⟩
  · refine ⟨k * 2 ^ e / 2 ^ u, u, rfl, ?_, by omega⟩
    have h1 : k * 2 ^ e / 2 ^ u ≤ k := by
      apply Nat.div_le_of_le_mul
      rw [Nat.mul_comm]
      exact Nat.mul_le_mul_right _ (Nat.pow_le_pow_right (by omega) (by omega))
    omega

theorem natAbs_tdiv (v : Int) : (v.tdiv (one : Int)).natAbs = v.natAbs / one := by
  rw [Int.natAbs_tdiv, Int.natAbs_natCast]; rfl

theorem ofInt_trunc {v : Int} (h : Rep v.natAbs) : fv (floatOfInt .f64 (v.tdiv (one : Int))) = some (v.tdiv (one : Int) * (one : Int)) := by
  apply ofInt_exact
  rw [natAbs_tdiv]
  exact rep_trunc h

/-- Every int64 is some finite double. -/
theorem ofInt_some (n : Int) (h1 : -9223372036854775808 ≤ n) (h2 : n ≤ 9223372036854775807) : ∃ v, fv (floatOfInt .f64 n) = some v := by
  have hB : Rep (1 * 2 ^ (pl + 63)) := ⟨1, pl + 63, rfl, by omega, by have := pl_eq; omega⟩
  have e : ((0 : Int) + 1074).toNat = pl := by have := pl_eq; omega
  have e2 : (-((0 : Int) + 1074)).toNat = 0 := by omega
  obtain ⟨K, hK, _, _⟩ := write_near (decide (n < 0)) n.natAbs 0 _ hB (by
    rw [e, e2, Nat.pow_zero, Nat.mul_one, Nat.one_mul, Nat.add_comm, Nat.pow_add]
    apply Nat.mul_le_mul_right
    omega)
  exact ⟨_, hK⟩

theorem emod_zero_iff (v : Int) : (v % (one : Int) = 0) ↔ v = v.tdiv (one : Int) * (one : Int) := by
  constructor
  · intro h
    have hd : (one : Int) ∣ v := Int.dvd_of_emod_eq_zero h
    exact (Int.tdiv_mul_cancel hd).symm
  · intro h
    rw [h]
    exact Int.mul_emod_left _ _

/-- IN RANGE: what the comparison answers. -/
theorem isInt_val {x : Nat} {v : Int} (hx : fv x = some v) : (double.order x (floatOfInt .f64 (v.tdiv (one : Int))) == some .eq) = isIntB x := by
  rw [order_fin hx (ofInt_trunc (fv_rep hx))]
  unfold isIntB
  rw [hx]
  show _ = (v % (one : Int) == 0)
  rw [Bool.eq_iff_iff, beq_iff_eq, beq_iff_eq, Option.some.injEq, emod_zero_iff, Int.compare_eq_eq]

theorem toIntVal {x : Nat} {v : Int} (hx : fv x = some v) (h1 : -(9223372036854775808 * (one : Int)) ≤ v) (h2 : v < 9223372036854775808 * (one : Int)) :
    floatToIntVal .f64 x .i64 = some (v.tdiv (one : Int)) := by
  unfold floatToIntVal
  have : (FloatKind.f64.decode x).toInt .zero = some (v.tdiv (one : Int)) := toInt_fin hx
  rw [this]
  have := tdiv_range h1 h2
  show (if _ ∧ _ then _ else _) = _
  rw [if_pos]
  exact this

theorem toIntVal_none {x : Nat} (hx : fv x = none) : (FloatKind.f64.decode x).toInt .zero = none := by
  show (double.read x).toInt .zero = none
  rcases fv_none hx with ⟨s, h⟩ | ⟨s, t, h⟩ <;> rw [h] <;> rfl

end Fp

/-- A conversion of what is no finite number: some int64, off the tape. -/
theorem run_toInt_none {P : Program} (w : World) (src dst : TypeId) (b : Nat) (hs : (P.underlying src).isSome = true) (hd : P.underlying dst = some (.int .i64)) (h : Fp.fv b = none) :
    (convert src dst (.float .f64 b)).run P w = .ok (.int .i64 (IntKind.i64.wrap ((Question.floatToInt .f64 b .i64).cut (w.tape w.drawn (.floatToInt .f64 b .i64)) : Nat))) w.drew := by
  obtain ⟨u, hs'⟩ := Option.isSome_iff_exists.1 hs
  cases u <;> simp [convert, run_underlying hs', run_underlying hd, Conv.floatToInt, Fp.toIntVal_none h, Question.forced]

namespace Fp
theorem fv_of_read {x : Nat} {s : Bool} {m a : Nat} (h : double.read x = .number s m (-1074 + (a : Int))) : fv x = some (sg s (m * 2 ^ a)) := by
  unfold fv
  rw [h]
  have e : (-1074 + (a : Int) + 1074).toNat = a := by omega
  simp only [units, e]

/-- Half of one, in units. -/
def half : Nat := 2 ^ (pl - 1)
theorem two_half : half * 2 = one := by
  unfold half one
  rw [← Nat.pow_succ]
  congr 1
theorem half_pos : 0 < half := pow_pos _
/-- The word of 0.5. -/
theorem fv_half : fv 4602678819172646912 = some (half : Int) := by
  have h : double.read 4602678819172646912 = .number false 4503599627370496 (-1074 + ((pl - 53 : Nat) : Int)) := by decide
  rw [fv_of_read h]
  have : 4503599627370496 * 2 ^ (pl - 53) = half := by
    unfold half
    rw [show (4503599627370496 : Nat) = 2 ^ 52 by decide, ← Nat.pow_add]
    congr 1
  rw [this]
  rfl

theorem rep_half (k : Nat) (h : k < 2 ^ 53) : Rep (k * half) := ⟨k, pl - 1, rfl, h, by have := pl_eq; omega⟩

/-- n plus and minus one half, for n of fewer than 52 digits. -/
theorem halves (n : Int) (h1 : -4503599627370496 < n) (h2 : n < 4503599627370496) :
    ∃ r q : Nat, floatBits .add .f64 (floatOfInt .f64 n) 4602678819172646912 = some r ∧ floatBits .sub .f64 (floatOfInt .f64 n) 4602678819172646912 = some q ∧
      isIntB (floatOfInt .f64 n) = true ∧ isIntB r = false ∧ isIntB q = false ∧ InR (floatOfInt .f64 n) ∧ InR r ∧ InR q := by
  have hn : fv (floatOfInt .f64 n) = some (n * (one : Int)) := ofInt_exact n (rep_int _ (by omega))
  have ho := two_half
  have hp := half_pos
  have ho' : (one : Int) = (half : Int) * 2 := by omega
  have hp' : (0 : Int) < (half : Int) := by omega
  have a1 : n * (one : Int) + (half : Int) = (2 * n + 1) * (half : Int) := by rw [ho', Int.add_mul, Int.mul_comm 2 n, Int.mul_assoc, Int.mul_comm 2, Int.one_mul]
  have a2 : n * (one : Int) - (half : Int) = (2 * n - 1) * (half : Int) := by rw [ho', Int.sub_mul, Int.mul_comm 2 n, Int.mul_assoc, Int.mul_comm 2, Int.one_mul]
  obtain ⟨r, hr, fr⟩ := add_fin hn fv_half (by rw [a1, Int.natAbs_mul]; exact rep_half _ (by omega))
  obtain ⟨q, hq, fq⟩ := sub_fin hn fv_half (by rw [a2, Int.natAbs_mul]; exact rep_half _ (by omega))
  have odd : ∀ m : Int, (2 * m + 1) * (half : Int) % (one : Int) = (half : Int) := by
    intro m
    rw [ho', Int.add_mul, Int.one_mul, Int.mul_comm 2 m, Int.mul_assoc, Int.mul_comm 2 (half : Int), Int.add_comm, Int.add_mul_emod_self_right]
    exact Int.emod_eq_of_lt (by omega) (by omega)
  have bnd : ∀ m : Int, -9007199254740993 ≤ m → m ≤ 9007199254740993 → -(9223372036854775808 * (one : Int)) ≤ m * (half : Int) ∧ m * (half : Int) < 9223372036854775808 * (one : Int) := by
    intro m b1 b2
    have c1 := Int.mul_le_mul_of_nonneg_right b1 (Int.le_of_lt hp')
    have c2 := Int.mul_le_mul_of_nonneg_right b2 (Int.le_of_lt hp')
    constructor <;> omega
  refine ⟨r, q, hr, hq, ?_, ?_, ?_, ?_, ?_, ?_⟩
  · unfold isIntB; rw [hn]
    show (n * (one : Int) % (one : Int) == 0) = true
    rw [Int.mul_emod_left]; rfl
  · unfold isIntB; rw [fr, a1]
    show ((2 * n + 1) * (half : Int) % (one : Int) == 0) = false
    rw [odd]; simp; omega
  · unfold isIntB; rw [fq, a2]
    show ((2 * n - 1) * (half : Int) % (one : Int) == 0) = false
    rw [show 2 * n - 1 = 2 * (n - 1) + 1 by omega, odd]; simp; omega
  · intro v hv
    rw [hn] at hv; cases hv
    have hq' := one_pos'
    have c1 := Int.mul_le_mul_of_nonneg_right (Int.le_of_lt h1) (Int.le_of_lt hq')
    have c2 := Int.mul_le_mul_of_nonneg_right (Int.le_of_lt h2) (Int.le_of_lt hq')
    constructor <;> omega
  · intro v hv
    rw [fr, a1] at hv; cases hv
    exact bnd _ (by omega) (by omega)
  · intro v hv
    rw [fq, a2] at hv; cases hv
    exact bnd _ (by omega) (by omega)
end Fp

namespace Fp
theorem fv_zero : fv 0 = some 0 := by
  have h : double.read 0 = .number false 0 (-1074 + ((0 : Nat) : Int)) := by decide
  rw [fv_of_read h]; simp [sg]

theorem fv_two63 : fv 4890909195324358656 = some (9223372036854775808 * (one : Int)) := by
  have h : double.read 4890909195324358656 = .number false 4503599627370496 (-1074 + ((pl + 11 : Nat) : Int)) := by decide
  rw [fv_of_read h]
  have : 4503599627370496 * 2 ^ (pl + 11) = 9223372036854775808 * one := by
    unfold one
    rw [Nat.add_comm, Nat.pow_add, ← Nat.mul_assoc]
  rw [this]
  simp [sg]

theorem fv_neg63 : fv 14114281232179134464 = some (-(9223372036854775808 * (one : Int))) := by
  have h : double.read 14114281232179134464 = .number true 4503599627370496 (-1074 + ((pl + 11 : Nat) : Int)) := by decide
  rw [fv_of_read h]
  have : 4503599627370496 * 2 ^ (pl + 11) = 9223372036854775808 * one := by
    unfold one
    rw [Nat.add_comm, Nat.pow_add, ← Nat.mul_assoc]
  rw [this]
  simp [sg]

theorem ord {x y : Nat} {v u : Int} (hx : fv x = some v) (hy : fv y = some u) : FloatKind.f64.format.order x y = some (compare v u) := order_fin hx hy
theorem ord_lt {x y : Nat} {v u : Int} (hx : fv x = some v) (hy : fv y = some u) (h : v < u) : FloatKind.f64.format.order x y = some .lt := by rw [ord hx hy, Int.compare_eq_lt.2 h]
theorem ord_gt {x y : Nat} {v u : Int} (hx : fv x = some v) (hy : fv y = some u) (h : u < v) : FloatKind.f64.format.order x y = some .gt := by rw [ord hx hy, Int.compare_eq_gt.2 h]
theorem ord_eq {x y : Nat} {v u : Int} (hx : fv x = some v) (hy : fv y = some u) (h : v = u) : FloatKind.f64.format.order x y = some .eq := by rw [ord hx hy, Int.compare_eq_eq.2 h]

/-- A finite number less itself. -/
theorem sub_self {x : Nat} {v : Int} (hx : fv x = some v) : ∃ r, floatBits .sub .f64 x x = some r ∧ fv r = some 0 := by
  have := sub_fin hx hx (by rw [Int.sub_self]; exact ⟨0, 0, rfl, by decide, by omega⟩)
  rw [Int.sub_self] at this
  exact this

theorem ord_inf {x : Nat} {s : Bool} (h : double.read x = .infinity s) : FloatKind.f64.format.order x x = some .eq := by
  show double.order x x = _
  unfold Format.order
  rw [h]; cases s <;> rfl

theorem ord_nan {x : Nat} {s : Bool} {t : Nat} (h : double.read x = .nan s t) (y : Nat) : FloatKind.f64.format.order x y = none := by
  show double.order x y = _
  unfold Format.order
  rw [h]; cases double.read y <;> rfl

theorem sub_inf {x : Nat} {s : Bool} (h : double.read x = .infinity s) : FloatKind.f64.format.sub x x = none := by
  show double.sub x x = none
  unfold Format.sub
  rw [h]; cases s <;> rfl

theorem read_nanBits (t : Nat) : ∃ s f, double.read ((t % 2) * 2 ^ 63 + 0x7ff0000000000000 + 1 + (t / 2) % (2 ^ 52 - 1)) = .nan s f := by
  unfold Format.read
  simp only [leastPlace_eq, binade_eq, infRung_eq, signWeight_eq]
  have h52 : (2 : Nat) ^ 52 - 1 = 4503599627370495 := by decide
  have h63 : (2 : Nat) ^ 63 = 9223372036854775808 := by decide
  rw [h52, h63]
  have hm := Nat.mod_lt (t / 2) (show 4503599627370495 > 0 by decide)
  generalize t / 2 % 4503599627370495 = q at hm
  rcases Nat.mod_two_eq_zero_or_one t with h | h
  all_goals
    rw [h]
    rw [if_neg (by omega), if_neg (by omega), if_neg (by omega)]
    exact ⟨_, _, rfl⟩
end Fp

/-- An infinity less itself: some NaN, off the tape. -/
theorem run_sub_inf {P : Program} (w : World) (t : TypeId) {x : Nat} {s : Bool} (h : double.read x = .infinity s) :
    ∃ r, (binOp .sub t (.float .f64 x) (.float .f64 x)).run P w = .ok (.float .f64 r) w.drew ∧ ∀ y, FloatKind.f64.format.order r y = none := by
  obtain ⟨s', f, hf⟩ := Fp.read_nanBits (w.tape w.drawn (.nanBits .f64 x x))
  refine ⟨(Question.nanBits .f64 x x).cut (w.tape w.drawn (.nanBits .f64 x x)), ?_, fun y => Fp.ord_nan hf y⟩
  simp [binOp, Op.floatArith, Fp.sub_inf h, Question.forced]

theorem isIntB_neg (x : Nat) : isIntB (x ^^^ 9223372036854775808) = isIntB x := by
  show isIntB (x ^^^ 2 ^ 63) = isIntB x
  unfold isIntB
  cases h : Fp.fv x with
  | none => rw [Fp.fv_neg_none h]
  | some v =>
    rw [Fp.fv_neg h]
    show (-v % (Fp.one : Int) == 0) = (v % (Fp.one : Int) == 0)
    rw [Bool.eq_iff_iff, beq_iff_eq, beq_iff_eq, ← Int.dvd_iff_emod_eq_zero, ← Int.dvd_iff_emod_eq_zero, Int.dvd_neg]

/-- A conversion of whatever word: some int64. -/
theorem run_toInt_any {P : Program} (w : World) (src dst : TypeId) (b : Nat) (hs : (P.underlying src).isSome = true) (hd : P.underlying dst = some (.int .i64)) :
    ∃ (n : Int) (w1 : World), (w1 = w ∨ w1 = w.drew) ∧ (convert src dst (.float .f64 b)).run P w = .ok (.int .i64 n) w1 := by
  obtain ⟨u, hs'⟩ := Option.isSome_iff_exists.1 hs
  have any : (∀ n, (FloatKind.f64.decode b).toInt .zero = some n → ¬ (-9223372036854775808 ≤ n ∧ n ≤ 9223372036854775807)) →
      (convert src dst (.float .f64 b)).run P w = .ok (.int .i64 (IntKind.i64.wrap ((Question.floatToInt .f64 b .i64).cut (w.tape w.drawn (.floatToInt .f64 b .i64)) : Nat))) w.drew := by
    intro hno
    cases h : (FloatKind.f64.decode b).toInt .zero with
    | none => cases u <;> simp [convert, run_underlying hs', run_underlying hd, Conv.floatToInt, h, Question.forced]
    | some n =>
      have h1 := hno n h
      have h2 : ¬ (IntKind.i64.min ≤ n ∧ n ≤ IntKind.i64.max) := h1
      have e : Conv.floatToInt .f64 b .i64 = (do pure (.int .i64 (IntKind.i64.wrap (← choose (.floatToInt .f64 b .i64))))) := by
        unfold Conv.floatToInt
        rw [h]
        exact if_neg h2
      cases u <;> simp [convert, run_underlying hs', run_underlying hd, e, Question.forced]
  by_cases hy : ∃ n, (FloatKind.f64.decode b).toInt .zero = some n ∧ (-9223372036854775808 ≤ n ∧ n ≤ 9223372036854775807)
  · obtain ⟨n, h, hn1, hn2⟩ := hy
    refine ⟨n, w, .inl rfl, ?_⟩
    exact run_convert_float_int w src dst .f64 .i64 b n hs hd (by unfold floatToIntVal; rw [h]; exact if_pos ⟨hn1, hn2⟩)
  · exact ⟨_, w.drew, .inr rfl, any fun n h hn => hy ⟨n, h, hn⟩⟩

end Go.Proofs.YtekfficjacnefaaDoor
