/- What forward resolution does to the words, as the law says it. -/
import Derived.Test.YtiihgamhmflphaaFmtFwdTail116
namespace Go.Proofs.YtiihgamhmflphaaFmt
open Go.RowKit Go.Maps
set_option linter.unusedVariables false

theorem and_hi {x : Int} (h : Fld.W32 x) : bits .and .u32 x 4294705152 = x / 262144 * 262144 := by
  obtain ⟨n, rfl, hn⟩ := Fld.nat_of h
  have e2 : (4294705152 : Int) = ((4294705152 : Nat) : Int) := rfl
  rw [e2, Fld.bits_and_nat n 4294705152 hn (by omega)]
  have p18 : (2 : Nat) ^ 18 = 262144 := by decide
  have a := Fld.and_parts n 4294705152 18
  rw [p18] at a
  have b1 : n / 262144 &&& 4294705152 / 262144 = n / 262144 % 16384 := by rw [show 4294705152 / 262144 = 16383 by decide]; exact Fld.andm _ _ _ 14 (by decide) (by decide)
  have b2 : n % 262144 &&& 4294705152 % 262144 = 0 := by rw [show 4294705152 % 262144 = 0 by decide]; exact Nat.and_zero _
  rw [b1, b2] at a
  rw [a]
  omega
theorem and_lo {x : Int} (h : Fld.W32 x) : bits .and .u32 x 262143 = x % 262144 := by
  obtain ⟨n, rfl, hn⟩ := Fld.nat_of h
  have e2 : (262143 : Int) = ((262143 : Nat) : Int) := rfl
  rw [e2, Fld.bits_and_nat n 262143 hn (by omega), Fld.andm n 262143 262144 18 (by decide) (by decide)]
  omega
theorem setSbx_hi {x k : Int} (h : Fld.W32 x) : Fld.setSbx x k / 262144 = x / 262144 := by
  unfold Fld.setSbx Fld.setBx Fld.W32 at *
  omega
theorem setSbx_lo {x k : Int} (h : Fld.W32 x) (h1 : -131071 ≤ k) (h2 : k ≤ 131071) : Fld.setSbx x k % 262144 - 131071 = k := by
  have : wrap64 (k + 131071) = k + 131071 := by unfold wrap64; omega
  unfold Fld.setSbx
  rw [this]
  unfold Fld.setBx Fld.W32 at *
  omega

/-- Has one of the first k gotos been resolved at p? -/
def tchd (fs : Nat) (ns : Nat → ByteArray) (ps : Nat → Int) (tn : ByteArray) (k p : Nat) : Bool := (List.range k).any (fun i => decide (fs ≤ i) && decide (ns i = tn) && decide (ps i = (p : Int)))
theorem tchd_succ (fs : Nat) (ns : Nat → ByteArray) (ps : Nat → Int) (tn : ByteArray) (k p : Nat) : tchd fs ns ps tn (k + 1) p = (tchd fs ns ps tn k p || (decide (fs ≤ k) && decide (ns k = tn) && decide (ps k = (p : Int)))) := by
  unfold tchd
  rw [List.range_succ, List.any_append]
  simp
theorem tchd_low (fs : Nat) (ns : Nat → ByteArray) (ps : Nat → Int) (tn : ByteArray) (p : Nat) : ∀ k, k ≤ fs → tchd fs ns ps tn k p = false
  | 0, _ => rfl
  | k + 1, hk => by
    rw [tchd_succ, tchd_low fs ns ps tn p k (by omega)]
    have : decide (fs ≤ k) = false := decide_eq_false (by omega)
    rw [this]
    rfl

section
variable {h : Nat → Option Nat} {ns : Nat → ByteArray} {ps : Nat → Int} {tn : ByteArray} {tid : Int} {fs n : Nat} {cs : List Int}

theorem resC_spec (hh : ∀ i, (h i).isSome = decide (i < n)) (hpos : ∀ i, fs ≤ i → i < n → ns i = tn → 0 ≤ ps i ∧ ps i < (cs.length : Int)) (hw : ∀ i, i < cs.length → Fld.W32 (cs.getD i 0)) (p : Nat) (hp : p < cs.length) : ∀ d, fs + d ≤ n →
    (tchd fs ns ps tn (fs + d) p = false → (resC h ns ps tn tid fs cs d).getD p 0 = cs.getD p 0) ∧
    (tchd fs ns ps tn (fs + d) p = true → (resC h ns ps tn tid fs cs d).getD p 0 / 262144 = cs.getD p 0 / 262144 ∧ ∃ y, Fld.W32 y ∧ (resC h ns ps tn tid fs cs d).getD p 0 = Fld.setSbx y tid)
  | 0, _ => ⟨fun _ => rfl, fun ht => by rw [Nat.add_zero, tchd_low fs ns ps tn p fs (Nat.le_refl _)] at ht; cases ht⟩
  | d + 1, hd => by
    obtain ⟨i1, i2⟩ := resC_spec hh hpos hw p hp d (by omega)
    have hs : (h (fs + d)).isSome = true := by rw [hh]; exact decide_eq_true (by omega)
    rw [show fs + (d + 1) = fs + d + 1 by omega, tchd_succ, decide_eq_true (show fs ≤ fs + d by omega)]
    unfold resC
    by_cases hx : ns (fs + d) = tn
    · rw [if_pos ⟨hs, hx⟩]
      obtain ⟨q1, q2⟩ := hpos (fs + d) (by omega) (by omega) hx
      rw [decide_eq_true hx]
      by_cases e : ps (fs + d) = (p : Int)
      · have e2 : (ps (fs + d)).toNat = p := by omega
        rw [decide_eq_true e, e2, getD_set_same (by rw [resC_len]; exact hp)]
        have hwp := resC_w (h := h) (ns := ns) (ps := ps) (tn := tn) (tid := tid) (fs := fs) hw d p hp
        refine ⟨fun ht => by simp at ht, fun _ => ⟨?_, _, hwp, rfl⟩⟩
        rw [setSbx_hi hwp]
        cases ht : tchd fs ns ps tn (fs + d) p with
        | false => rw [i1 ht]
        | true => exact (i2 ht).1
      · have e2 : p ≠ (ps (fs + d)).toNat := by omega
        rw [decide_eq_false e, getD_set_other e2]
        simp only [Bool.and_false, Bool.or_false]
        exact ⟨i1, i2⟩
    · rw [if_neg (fun x => hx x.2), decide_eq_false hx]
      simp only [Bool.and_false, Bool.false_and, Bool.or_false]
      exact ⟨i1, i2⟩

theorem resC_end (hh : ∀ i, (h i).isSome = decide (i < n)) {d : Nat} (hd : fs + d = n + 1) (hfs : fs ≤ n) : resC h ns ps tn tid fs cs d = resC h ns ps tn tid fs cs (n - fs) := by
  obtain ⟨e, rfl⟩ : ∃ e, d = e + 1 := ⟨n - fs, by omega⟩
  have he : e = n - fs := by omega
  subst he
  have hq : (h (fs + (n - fs))).isSome = false := by rw [hh]; exact decide_eq_false (by omega)
  show (if _ then _ else _) = _
  rw [if_neg (fun x => by rw [hq] at x; cases x.1)]

theorem resC_all (hh : ∀ i, (h i).isSome = decide (i < n)) (hpos : ∀ i, fs ≤ i → i < n → ns i = tn → 0 ≤ ps i ∧ ps i < (cs.length : Int)) (hw : ∀ i, i < cs.length → Fld.W32 (cs.getD i 0)) {d : Nat} (hd : fs + d = n + 1) (hfs : fs ≤ n) (p : Nat) (hp : p < cs.length) :
    (tchd fs ns ps tn n p = false → (resC h ns ps tn tid fs cs d).getD p 0 = cs.getD p 0) ∧
    (tchd fs ns ps tn n p = true → bits .and .u32 ((resC h ns ps tn tid fs cs d).getD p 0) 4294705152 = bits .and .u32 (cs.getD p 0) 4294705152 ∧ (-131071 ≤ tid → tid ≤ 131071 → (resC h ns ps tn tid fs cs d).getD p 0 % 262144 - 131071 = tid)) := by
  rw [resC_end hh hd hfs]
  have hs := resC_spec (tid := tid) hh hpos hw p hp (n - fs) (by omega)
  rw [show fs + (n - fs) = n by omega] at hs
  refine ⟨hs.1, fun ht => ?_⟩
  obtain ⟨h1, y, hy, h2⟩ := hs.2 ht
  refine ⟨?_, fun a b => ?_⟩
  · rw [and_hi (hw p hp), and_hi (resC_w hw _ p hp), h1]
  · rw [h2]; exact setSbx_lo hy a b
end

theorem getBx_any (x : Int) (w : World) (hx : Fld.W32 x) : Calls Tryf.prog 45 #[.int .u32 x] w fun e w' => e = .returned (.int .i64 (x % 262144)) ∧ w' = w := by
  have h := and_lo hx
  obtain ⟨h1, h2⟩ := hx
  go_enter Tryf.func45, Tryf.ntmps45
  go_wp2
  go_ret
  exact ⟨by first | rfl | (rw [← h]; rfl), by first | rfl | trivial⟩
theorem getSbx_any (x : Int) (w : World) (hx : Fld.W32 x) : Calls Tryf.prog 35 #[.int .u32 x] w fun e w' => e = .returned (.int .i64 (x % 262144 - 131071)) ∧ w' = w := by
  have H := Lib.hid (getBx_any x w hx)
  have b1 : (0 : Int) ≤ x % 262144 ∧ x % 262144 < 262144 := by omega
  generalize x % 262144 = y at *
  clear hx
  go_enter Tryf.func35, Tryf.ntmps35
  go_wp2_with fail
  refine H.out.mono ?_; rintro e w1 ⟨rfl, rfl⟩
  go_wp2
  go_ret
  exact ⟨by first | rfl | trivial, by first | rfl | trivial⟩
theorem argSbx_any (F C Bk U : Nat) (p : Option Addr) (h : Nat → Option Nat) (base n : Nat) (first : Int) (cs : List Int) (ns : Nat → ByteArray) (ps nu : Nat → Int) (i : Nat) (w : World) (s : Sx w F C Bk U p h base n first cs ns ps nu) (hi : i < cs.length) (hn : cs.length ≤ 1048576) (hx : Fld.W32 (cs.getD i 0)) :
    Calls Tryf.prog 19 #[.pointer (some ⟨F, 0, none⟩), .int .i64 (i : Int)] w fun e w' => e = .returned (.int .i64 (cs.getD i 0 % 262144 - 131071)) ∧ w' = w := by
  have f1 := s.f1
  have HA := Lib.hid (at_any F C Bk U p h base n first cs ns ps nu i w s hi hn)
  have HG := Lib.hid (getSbx_any (cs.getD i 0) w hx)
  clear s hx
  generalize cs.getD i 0 = x at *
  generalize x % 262144 - 131071 = r at *
  go_enter Tryf.func19, Tryf.ntmps19
  go_wp2_with fail
  refine HA.out.mono ?_; rintro e w1 ⟨rfl, rfl⟩
  go_wp2_with fail
  refine HG.out.mono ?_; rintro e w1 ⟨rfl, rfl⟩
  go_wp2
  go_ret
  exact ⟨rfl, by first | rfl | trivial⟩

theorem RowV.upd {T : TypeId} {f f' : Nat → Value} {w : World} {G n q : Nat} (h : RowV T f w G n n) (hq : q < n) {v : Value} (h1 : v = f' q) (h2 : ∀ j, j ≠ q → f' j = f j) : RowV T f' (w.setCell ⟨G, q, none⟩ v) G n n := by
  obtain ⟨arr, a1, a2, a3⟩ := h
  refine ⟨_, heap_setCell_same _ _ _ _ _ _ a1, by simpa using a2, fun i hi => ?_⟩
  by_cases e : i = q
  · subst e
    rw [Array.getElem?_setIfInBounds_self_of_lt (by omega), h1]
  · rw [Array.getElem?_setIfInBounds_ne (fun e' => e e'.symm), h2 i e]
    exact a3 i hi
theorem RowV.same {T : TypeId} {f f' : Nat → Value} {w : World} {G n k : Nat} (h : RowV T f w G n k) (h2 : ∀ j, f' j = f j) : RowV T f' w G n k := by
  obtain ⟨arr, a1, a2, a3⟩ := h
  exact ⟨arr, a1, a2, fun i hi => by rw [h2]; exact a3 i hi⟩
theorem row_own {base : Nat} {w : World} {p : Option Addr} {L : Nat} {l : List Int} (h : Own (Value.int .u32) 39 base w (.slice p L L) l) (hl : l.length = L) (hw : ∀ x ∈ l, (Lit.int .u32 x).wf = true) (hm : L ≤ maxLen) : IsRow .u32 w p L L l := by
  rcases h with ⟨h1, h2⟩ | ⟨g, h1, hb, hg⟩
  · cases h1
    exact .inl ⟨rfl, rfl, rfl, h2⟩
  · have hp : p = some ⟨g, 0, none⟩ := by injection h1
    subst hp
    refine .inr ⟨⟨g, 0, none⟩, rfl, Nat.le_refl _, hm, hl, fun i hi => ?_, hw⟩
    have hadd : (⟨g, 0, none⟩ : Addr).add i = ⟨g, i, none⟩ := by unfold Addr.add; split <;> simp_all
    rw [hadd, cell_of_row _ _ _ _ _ _ hg]
    simp [List.getD, hi]
theorem makeBF (n : Nat) (hn : n ≤ 1048576) (w : World) : (Instr.makeSlice 36 (.int .i64 (n : Int)) (.int .i64 (n : Int))).run Tryf.prog w = .ok (.slice (some ⟨w.heap.size, 0, none⟩) n n) (w.alloc (.cells (List.replicate n (.bool false)).toArray 4)) := by
  have h := makeB n hn w
  have e : madeCells (Value.cells (.bool false)) n = (List.replicate n (.bool false)).toArray := by
    apply Array.toList_inj.1
    exact toList_madeCells_one _ n
  rw [e] at h
  exact h

end Go.Proofs.YtiihgamhmflphaaFmt
