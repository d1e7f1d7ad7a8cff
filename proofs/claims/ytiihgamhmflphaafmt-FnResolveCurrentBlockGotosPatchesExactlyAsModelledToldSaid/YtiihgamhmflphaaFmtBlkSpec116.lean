/- What the resolution at a block's end does to the words, as the law says it. -/
import Derived.Test.YtiihgamhmflphaaFmtBlkFin116
import Derived.Test.YtiihgamhmflphaaFmtFwdSpec116
namespace Go.Proofs.YtiihgamhmflphaaFmt
open Go.RowKit Go.Maps
set_option linter.unusedVariables false

def stA (act x q : Int) (rB : Bool) (p : Nat) (e : Int) : Int := if act < x ∧ rB = true ∧ q = (p : Int) + 1 then act else e
def stL (ef q : Int) (rP : Bool) (lN : Nat → Int) (f : Option Nat) (p : Nat) (e : Int) : Int := match f with
  | none => e
  | some j => if lN j < ef ∧ rP = true ∧ q = (p : Int) + 1 then lN j else e
def stH (q : Int) (f : Option Nat) (p : Nat) (b : Bool) : Bool := b || (f.isSome && decide (q = (p : Int)))
def stS (q : Int) (f : Option Nat) (p : Nat) (e : Int) : Int := match f with
  | none => e
  | some j => if q = (p : Int) then (j : Int) else e
/-- What the law's rows hold after k gotos. -/
def eA (fs : Nat) (f : Nat → Option Nat) (ps nu lN : Nat → Int) (act : Int) (rB rP : Bool) : Nat → Nat → Int
  | 0, _ => -1
  | k + 1, p => if fs ≤ k then stL (nAct act (nu k)) (ps k) rP lN (f k) p (stA act (nu k) (ps k) rB p (eA fs f ps nu lN act rB rP k p)) else eA fs f ps nu lN act rB rP k p
def eH (fs : Nat) (f : Nat → Option Nat) (ps : Nat → Int) : Nat → Nat → Bool
  | 0, _ => false
  | k + 1, p => if fs ≤ k then stH (ps k) (f k) p (eH fs f ps k p) else eH fs f ps k p
def eS (fs : Nat) (f : Nat → Option Nat) (ps : Nat → Int) : Nat → Nat → Int
  | 0, _ => 0
  | k + 1, p => if fs ≤ k then stS (ps k) (f k) p (eS fs f ps k p) else eS fs f ps k p

section
variable {fs : Nat} {f : Nat → Option Nat} {ps nu lN : Nat → Int} {act : Int} {rB rP : Bool}
theorem eA_low (p : Nat) : ∀ k, k ≤ fs → eA fs f ps nu lN act rB rP k p = -1
  | 0, _ => rfl
  | k + 1, hk => by
    unfold eA
    rw [if_neg (by omega)]
    exact eA_low p k (by omega)
theorem eH_low (p : Nat) : ∀ k, k ≤ fs → eH fs f ps k p = false
  | 0, _ => rfl
  | k + 1, hk => by
    unfold eH
    rw [if_neg (by omega)]
    exact eH_low p k (by omega)
theorem eA_skip {k p : Nat} (h : ¬ fs ≤ k) : eA fs f ps nu lN act rB rP (k + 1) p = eA fs f ps nu lN act rB rP k p := if_neg h
theorem eH_skip {k p : Nat} (h : ¬ fs ≤ k) : eH fs f ps (k + 1) p = eH fs f ps k p := if_neg h
theorem eS_skip {k p : Nat} (h : ¬ fs ≤ k) : eS fs f ps (k + 1) p = eS fs f ps k p := if_neg h
theorem eA_step {k p : Nat} (h : fs ≤ k) : eA fs f ps nu lN act rB rP (k + 1) p = stL (nAct act (nu k)) (ps k) rP lN (f k) p (stA act (nu k) (ps k) rB p (eA fs f ps nu lN act rB rP k p)) := if_pos h
theorem eH_step {k p : Nat} (h : fs ≤ k) : eH fs f ps (k + 1) p = stH (ps k) (f k) p (eH fs f ps k p) := if_pos h
theorem eS_step {k p : Nat} (h : fs ≤ k) : eS fs f ps (k + 1) p = stS (ps k) (f k) p (eS fs f ps k p) := if_pos h
end

/-- What the law says of a word. -/
def Wp (o x e : Int) (b : Bool) (s : Int) : Prop :=
  Fld.W32 x ∧ x / 67108864 = o / 67108864 ∧ x / 262144 % 256 = (if 0 ≤ e then e else o / 262144 % 256) ∧ (b = false → x % 262144 = o % 262144) ∧ (b = true → x % 262144 - 131071 = s)
theorem Wp.setA {o x e s k : Int} {b : Bool} (h : Wp o x e b s) (h0 : 0 ≤ k) (h1 : k ≤ 255) : Wp o (Fld.setA x k) k b s := by
  obtain ⟨a1, a2, a3, a4, a5⟩ := h
  have e1 : Fld.setA x k / 67108864 = x / 67108864 := by unfold Fld.setA Fld.W32 at *; omega
  have e2 : Fld.setA x k / 262144 % 256 = k := by unfold Fld.setA Fld.W32 at *; omega
  have e3 : Fld.setA x k % 262144 = x % 262144 := by unfold Fld.setA Fld.W32 at *; omega
  refine ⟨Fld.setA_w a1, e1.trans a2, ?_, fun h => e3.trans (a4 h), fun h => ?_⟩
  · rw [e2, if_pos h0]
  · rw [e3]; exact a5 h
theorem Wp.setSbx {o x e s : Int} {b : Bool} {j : Nat} (h : Wp o x e b s) (hj : j ≤ 4096) : Wp o (Fld.setSbx x (j : Int)) e true (j : Int) := by
  obtain ⟨a1, a2, a3, a4, a5⟩ := h
  have e1 := setSbx_hi (k := (j : Int)) a1
  have e2 := setSbx_lo (k := (j : Int)) a1 (by omega) (by omega)
  have w : Fld.W32 (Fld.setSbx x (j : Int)) := Fld.setBx_w a1
  refine ⟨w, ?_, ?_, fun h => (by cases h), fun _ => e2⟩
  · rw [← a2]
    generalize Fld.setSbx x (j : Int) = y at *
    unfold Fld.W32 at *
    omega
  · rw [e1]; exact a3

section
variable {c : List Int} {p : Nat} {o e s act x q ef : Int} {b rB rP : Bool} {N : Nat} {lN : Nat → Int} {f : Option Nat}
theorem Wp.actS (h : Wp o (c.getD p 0) e b s) (hp : p < c.length) (h0 : 0 ≤ act) (hk : act < x → rB = true → act ≤ 255 ∧ 1 ≤ q ∧ q ≤ (c.length : Int)) : Wp o ((actC c q.toNat act x rB).getD p 0) (stA act x q rB p e) b s := by
  unfold actC stA
  by_cases c1 : act < x ∧ rB = true
  · obtain ⟨k1, k2, k3⟩ := hk c1.1 c1.2
    rw [if_pos c1]
    by_cases e1 : q = (p : Int) + 1
    · have e2 : q.toNat - 1 = p := by omega
      rw [if_pos ⟨c1.1, c1.2, e1⟩, e2, getD_set_same hp]
      exact h.setA h0 k1
    · have e2 : p ≠ q.toNat - 1 := by omega
      rw [if_neg (fun y => e1 y.2.2), getD_set_other e2]
      exact h
  · rw [if_neg c1, if_neg (fun y => c1 ⟨y.1, y.2.1⟩)]
    exact h
theorem Wp.find (h : Wp o (c.getD p 0) e b s) (hp : p < c.length) (hf : ∀ j, f = some j → j ≤ 4096 ∧ 0 ≤ q ∧ q < (c.length : Int) ∧ (lN j < ef → rP = true → 0 ≤ lN j ∧ lN j ≤ 255 ∧ 1 ≤ q)) : Wp o ((findC c q.toNat ef lN rP f).getD p 0) (stL ef q rP lN f p e) (stH q f p b) (stS q f p s) := by
  cases f with
  | none =>
    have : stH q none p b = b := by unfold stH; simp
    rw [this]
    exact h
  | some j =>
    obtain ⟨k1, k2, k3, k4⟩ := hf j rfl
    have hH : stH q (some j) p b = (b || decide (q = (p : Int))) := by unfold stH; simp
    rw [hH]
    show Wp o ((labC c q.toNat ef (lN j) rP j).getD p 0) (if lN j < ef ∧ rP = true ∧ q = (p : Int) + 1 then lN j else e) _ (if q = (p : Int) then (j : Int) else s)
    have h1 : Wp o ((if lN j < ef ∧ rP = true then c.set (q.toNat - 1) (Fld.setA (c.getD (q.toNat - 1) 0) (lN j)) else c).getD p 0) (if lN j < ef ∧ rP = true ∧ q = (p : Int) + 1 then lN j else e) b s := by
      by_cases c1 : lN j < ef ∧ rP = true
      · obtain ⟨m1, m2, m3⟩ := k4 c1.1 c1.2
        rw [if_pos c1]
        by_cases e1 : q = (p : Int) + 1
        · have e2 : q.toNat - 1 = p := by omega
          rw [if_pos ⟨c1.1, c1.2, e1⟩, e2, getD_set_same hp]
          exact h.setA m1 m2
        · have e2 : p ≠ q.toNat - 1 := by omega
          rw [if_neg (fun y => e1 y.2.2), getD_set_other e2]
          exact h
      · rw [if_neg c1, if_neg (fun y => c1 ⟨y.1, y.2.1⟩)]
        exact h
    have hl : (if lN j < ef ∧ rP = true then c.set (q.toNat - 1) (Fld.setA (c.getD (q.toNat - 1) 0) (lN j)) else c).length = c.length := by split <;> simp
    unfold labC
    simp only []
    generalize (if lN j < ef ∧ rP = true then c.set (q.toNat - 1) (Fld.setA (c.getD (q.toNat - 1) 0) (lN j)) else c) = c1 at *
    by_cases e1 : q = (p : Int)
    · have e2 : q.toNat = p := by omega
      rw [if_pos e1, e2, getD_set_same (by omega), decide_eq_true e1, Bool.or_true]
      exact h1.setSbx k1
    · have e2 : p ≠ q.toNat := by omega
      rw [if_neg e1, getD_set_other e2, decide_eq_false e1, Bool.or_false]
      exact h1
end

section
variable {act x q ef e : Int} {rB rP : Bool} {lN : Nat → Int} {p j : Nat} {b : Bool} {f : Option Nat}
theorem stA_at (h1 : act < x) (h2 : rB = true) (h : q = (p : Int) + 1) : stA act x q rB p e = act := if_pos ⟨h1, h2, h⟩
theorem stA_ne (h : q ≠ (p : Int) + 1) : stA act x q rB p e = e := if_neg fun y => h y.2.2
theorem stA_no (h : ¬ (act < x ∧ rB = true)) : stA act x q rB p e = e := if_neg fun y => h ⟨y.1, y.2.1⟩
theorem stL_at (h1 : lN j < ef) (h2 : rP = true) (h : q = (p : Int) + 1) : stL ef q rP lN (some j) p e = lN j := if_pos ⟨h1, h2, h⟩
theorem stL_ne (h : q ≠ (p : Int) + 1) : stL ef q rP lN (some j) p e = e := if_neg fun y => h y.2.2
theorem stL_no (h : ¬ (lN j < ef ∧ rP = true)) : stL ef q rP lN (some j) p e = e := if_neg fun y => h ⟨y.1, y.2.1⟩
theorem stH_none : stH q none p b = b := by unfold stH; simp
theorem stH_at (h : q = (p : Int)) : stH q (some j) p b = true := by unfold stH; simp [h]
theorem stH_ne (h : q ≠ (p : Int)) : stH q (some j) p b = b := by unfold stH; simp [h]
theorem stS_at (h : q = (p : Int)) : stS q (some j) p e = (j : Int) := if_pos h
theorem stS_ne (h : q ≠ (p : Int)) : stS q (some j) p e = e := if_neg h
end

theorem blkC_spec {h : Nat → Option Nat} {ns lns : Nat → ByteArray} {J : Nat} {ps nu lN : Nat → Int} {act : Int} {rB rP : Bool} {fs n : Nat} {cs : List Int} (hh : ∀ i, (h i).isSome = decide (i < n))
    (hpre : ∀ i, fs ≤ i → i < n → PBk act (nu i) (nAct act (nu i)) (ps i) cs.length rB rP (flx lns (ns i) J) lN) (hact : 0 ≤ act) (hw : Ws cs) (hJ : J ≤ 4096) (p : Nat) (hp : p < cs.length) : ∀ d, fs + d ≤ n →
    Wp (cs.getD p 0) ((blkC h ns lns J ps nu lN act rB rP fs cs d).getD p 0) (eA fs (fun i => flx lns (ns i) J) ps nu lN act rB rP (fs + d) p) (eH fs (fun i => flx lns (ns i) J) ps (fs + d) p) (eS fs (fun i => flx lns (ns i) J) ps (fs + d) p)
  | 0, _ => by
    rw [Nat.add_zero, eA_low p fs (Nat.le_refl _), eH_low p fs (Nat.le_refl _)]
    exact ⟨hw p hp, rfl, by rw [if_neg (by omega)]; rfl, fun _ => rfl, fun h => by cases h⟩
  | d + 1, hd => by
    have ih := blkC_spec hh hpre hact hw hJ p hp d (by omega)
    have hs : (h (fs + d)).isSome = true := by rw [hh]; exact decide_eq_true (by omega)
    obtain ⟨p1, p2⟩ := hpre (fs + d) (by omega) (by omega)
    rw [show fs + (d + 1) = fs + d + 1 by omega, eA_step (by omega), eH_step (by omega), eS_step (by omega)]
    unfold blkC
    rw [if_pos hs]
    refine Wp.find (Wp.actS ih (by rw [blkC_len]; exact hp) hact fun a b => ?_) (by rw [actC_len, blkC_len]; exact hp) fun j hj => ?_
    · rw [blkC_len]; exact p1 a b
    · obtain ⟨m1, m2, m3, m4⟩ := p2 j hj
      rw [actC_len, blkC_len]
      exact ⟨by have := (flx_lt hj).1; omega, m2, m3, m4⟩

theorem and255u {x : Int} (h : Fld.W32 x) : bits .and .u32 (x / 262144) 255 = x / 262144 % 256 := by
  have hw : Fld.W32 (x / 262144) := by unfold Fld.W32 at *; omega
  obtain ⟨n, e, hn⟩ := Fld.nat_of hw
  rw [e, show (255 : Int) = ((255 : Nat) : Int) from rfl, Fld.bits_and_nat n 255 hn (by omega), Fld.andm n 255 256 8 (by decide) (by decide)]
  omega
/-- What the walk needs of it. -/
theorem Wp.tests {o x e s : Int} {b : Bool} (h : Wp o x e b s) (ho : Fld.W32 o) : Fld.W32 x ∧ x / 67108864 = o / 67108864 ∧ bits .and .u32 (o / 262144) 255 = o / 262144 % 256 ∧ bits .and .u32 (x / 262144) 255 = (if 0 ≤ e then e else o / 262144 % 256) ∧ (b = false → bits .and .u32 x 262143 = bits .and .u32 o 262143) ∧ (b = true → x % 262144 - 131071 = s) ∧ (0 ≤ e → e ≤ 255) := by
  obtain ⟨a1, a2, a3, a4, a5⟩ := h
  exact ⟨a1, a2, and255u ho, (and255u a1).trans a3, fun hb => by rw [and_lo a1, and_lo ho]; exact a4 hb, a5, fun he => by rw [if_pos he] at a3; omega⟩

end Go.Proofs.YtiihgamhmflphaaFmt
