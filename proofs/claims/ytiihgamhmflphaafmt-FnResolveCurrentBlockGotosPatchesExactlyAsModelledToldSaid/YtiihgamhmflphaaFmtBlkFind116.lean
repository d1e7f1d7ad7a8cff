/- FindLabel. -/
import Derived.Test.YtiihgamhmflphaaFmtBlkRes116
namespace Go.Proofs.YtiihgamhmflphaaFmt
open Go.RowKit Go.Maps
set_option linter.unusedVariables false

def findH (h : Nat → Option Nat) (i : Nat) : Option Nat → Nat → Option Nat
  | none => h
  | some _ => drop1 h i
def findC (cs : List Int) (k : Nat) (num : Int) (lN : Nat → Int) (ref : Bool) : Option Nat → List Int
  | none => cs
  | some j => labC cs k num (lN j) ref j
theorem findC_len (cs : List Int) (k : Nat) (num : Int) (lN : Nat → Int) (ref : Bool) (f : Option Nat) : (findC cs k num lN ref f).length = cs.length := by
  cases f with
  | none => rfl
  | some j => exact labC_len _ _ _ _ _ _
def Ws (cs : List Int) : Prop := ∀ i, i < cs.length → Fld.W32 (cs.getD i 0)
theorem Ws.set {cs : List Int} (h : Ws cs) {k : Nat} {x : Int} (hx : Fld.W32 x) : Ws (cs.set k x) := fun i hi => by
  rw [List.length_set] at hi
  by_cases e : i = k
  · subst e
    rw [getD_set_same hi]; exact hx
  · rw [getD_set_other e]; exact h i hi
theorem Ws.findC {cs : List Int} (h : Ws cs) {k : Nat} (num : Int) (lN : Nat → Int) (ref : Bool) (f : Option Nat) (hk : f ≠ none → k < cs.length) : Ws (findC cs k num lN ref f) := by
  cases f with
  | none => exact h
  | some j =>
    have hk' := hk (by simp)
    show Ws (labC cs k num (lN j) ref j)
    unfold labC
    have h1 : Ws (if lN j < num ∧ ref = true then cs.set (k - 1) (Fld.setA (cs.getD (k - 1) 0) (lN j)) else cs) := by
      split
      · exact h.set (Fld.setA_w (h _ (by omega)))
      · exact h
    have hl : (if lN j < num ∧ ref = true then cs.set (k - 1) (Fld.setA (cs.getD (k - 1) 0) (lN j)) else cs).length = cs.length := by split <;> simp
    exact h1.set (Fld.setBx_w (h1 k (by rw [hl]; exact hk')))

section
variable (F C Bk U : Nat) (p : Option Addr) (h : Nat → Option Nat) (base n : Nat) (first : Int) (cs : List Int) (ns : Nat → ByteArray) (ps nu : Nat → Int)
variable (P V : Nat) (par : Option Addr) (ref : Bool) (Lm : Nat) (f1 : Int) (lns : Nat → ByteArray) (lN : Nat → Int) (J : Nat)

set_option maxHeartbeats 2000000 in
set_option maxRecDepth 100000 in
theorem findLabel_any (i g : Nat) (w : World) (s : Sx w F C Bk U p h base n first cs ns ps nu) (cb : Cb w P V par ref Lm f1) (lb : Lb w Lm lns lN J) (hq : h i = some g) (hi : i ≤ 1048576) (hs : (ns i).size ≤ maxLen) (hw : Ws cs) (hcl : cs.length ≤ 1048576)
    (hpre : ∀ j, flx lns (ns i) J = some j → lN j ≤ nu i ∧ 0 ≤ ps i ∧ ps i < (cs.length : Int) ∧ (lN j < nu i → ref = true → 1 ≤ ps i)) :
    Calls Tryf.prog 51 #[.pointer (some ⟨F, 0, none⟩), .pointer (some ⟨P, 0, none⟩), .pointer (some ⟨g, 0, none⟩), .int .i64 (i : Int)] w fun e w' => (∃ b, e = .returned (.bool b)) ∧
      Sx w' F C Bk U p (findH h i (flx lns (ns i) J)) base n first (findC cs (ps i).toNat (nu i) lN ref (flx lns (ns i) J)) ns ps nu ∧ Frm U w w' ∧ Below base w w' := by
  have gd := (s.hG i g hq).2
  have g1 := gd.c1
  have g2 := gd.c2
  have g4 := gd.c4
  have c3 := cb.c3
  have sf1 := s.f1
  obtain ⟨m, g', hu, _, hlab⟩ := lb
  have hgl := getLab_any P V par ref Lm f1 m g' (ns i) w cb hu hs
  have S := Lib.hid s
  have HW := Lib.hid hw
  cases hf : flx lns (ns i) J with
  | none =>
    rw [(hlab (ns i)).1 hf] at hgl
    have HGL := Lib.hid (show Calls Tryf.prog 56 #[.pointer (some ⟨P, 0, none⟩), .string (ns i)] w fun e w' => e = .returned (.pointer none) ∧ w' = w from hgl)
    clear s gd cb hu hlab hgl hpre hw
    generalize ns i = nm at *
    go_enter Tryf.func51, Tryf.ntmps51
    go_wp2_with fail
    refine HGL.out.mono ?_; rintro e w1 ⟨rfl, rfl⟩
    go_wp2
    go_ret
    exact ⟨⟨_, rfl⟩, S.out, Frm.refl _ _, Below.refl _ _⟩
  | some j =>
    obtain ⟨y, hy, td⟩ := (hlab (ns i)).2 j hf
    rw [hy] at hgl
    have HGL := Lib.hid (show Calls Tryf.prog 56 #[.pointer (some ⟨P, 0, none⟩), .string (ns i)] w fun e w' => e = .returned (.pointer (some ⟨y, 0, none⟩)) ∧ w' = w from hgl)
    obtain ⟨q1, q2, q3, q4⟩ := hpre j hf
    have t4 := td.c4
    have TD := Lib.hid td
    have HQ := Lib.hid hq
    show Calls Tryf.prog 51 _ w fun e w' => (∃ b, e = .returned (.bool b)) ∧ Sx w' F C Bk U p (drop1 h i) base n first (labC cs (ps i).toNat (nu i) (lN j) ref j) ns ps nu ∧ Frm U w w' ∧ Below base w w'
    by_cases hc : lN j < nu i ∧ ref = true
    · obtain ⟨k', hk'⟩ : ∃ k' : Nat, ps i = (k' : Int) + 1 := ⟨(ps i).toNat - 1, by have := q4 hc.1 hc.2; omega⟩
      have hkn : (ps i).toNat = k' + 1 := by omega
      have e1 : labC cs (ps i).toNat (nu i) (lN j) ref j = (cs.set k' (Fld.setA (cs.getD k' 0) (lN j))).set (k' + 1) (Fld.setSbx ((cs.set k' (Fld.setA (cs.getD k' 0) (lN j))).getD (k' + 1) 0) (j : Int)) := by
        unfold labC
        rw [if_pos hc, hkn, Nat.add_sub_cancel]
      have hk1 : k' < cs.length := by omega
      have hk2 : k' + 1 < cs.length := by omega
      obtain ⟨cs1, hcs1⟩ : ∃ c, c = cs.set k' (Fld.setA (cs.getD k' 0) (lN j)) := ⟨_, rfl⟩
      have W1 : Ws cs1 := by rw [hcs1]; exact hw.set (Fld.setA_w (hw _ hk1))
      have L1 : cs1.length = cs.length := by rw [hcs1, List.length_set]
      rw [← hcs1] at e1
      have E1 := Lib.hid e1
      have HC1 := Lib.hid hcs1
      have HW1 := Lib.hid W1
      have HL1 := Lib.hid L1
      have HWK := Lib.hid (hw k' hk1)
      have HP := Lib.hid (show ps i = ((k' + 1 : Nat) : Int) by omega)
      have hsa := fun w1 (s1 : Sx w1 F C Bk U p h base n first cs ns ps nu) => SetA_fr F C Bk U p h base n first cs ns ps nu k' (lN j) w1 s1 hk1 HWK.out hcl
      have HSA := Lib.hid hsa
      have hrg := fun w1 (s1 : Sx w1 F C Bk U p h base n first cs1 ns ps nu) (td1 : Td w1 y (j : Int) (ns i) (lN j)) => resolveGoto_fr F C Bk U p h base n first cs1 ns ps nu i g (k' + 1) y (j : Int) (lN j) (ns i) w1 s1 td1 HQ.out hi q1 HP.out (by rw [HL1.out]; exact hk2) (HW1.out _ (by rw [HL1.out]; exact hk2)) (by rw [HL1.out]; exact hcl)
      have HRG := Lib.hid hrg
      obtain ⟨hgt, hr⟩ := hc
      rw [hk'] at g2
      rw [hr] at c3
      clear s gd cb hu hlab hgl hpre hw td hy hf q4 e1 hcs1 W1 L1 hsa hrg hkn hq
      generalize hNu : nu i = num at g4 hgt q1
      generalize ns i = nm at *
      generalize hLj : lN j = l at *
      have hgt2 : l < num := hgt
      go_enter Tryf.func51, Tryf.ntmps51
      go_wp2_with fail
      refine HGL.out.mono ?_; rintro e w1 ⟨rfl, rfl⟩
      go_wp2_with fail
      go_quiet (fail)
      have S1 := Lib.hid (S.out.drewN nq)
      have TD1 := Lib.hid (TD.out.keep (w' := w1.drewN nq) rfl)
      have k1 : (w1.drewN nq).cell? ⟨F, 1, none⟩ = some (.pointer (some ⟨C, 0, none⟩)) := sf1
      have k2 : (w1.drewN nq).cell? ⟨g, 2, none⟩ = some (.int .i64 ((k' : Int) + 1)) := g2
      have k3 : (w1.drewN nq).cell? ⟨y, 4, none⟩ = some (.int .i64 l) := t4
      have HB := Lib.hid (below_drewN (Below.refl base w1) nq)
      have HF := Lib.hid ((Frm.refl U w1).drewN nq)
      generalize w1.drewN nq = w2 at *
      go_wp2_with fail
      go_still_tail 13, (by kernel_rfl)
      change wpList _ _ _ _ _ (w2.drewN 1)
      have S2 := Lib.hid (S1.out.drewN 1)
      have TD2 := Lib.hid (TD1.out.keep (w' := w2.drewN 1) rfl)
      have HB2 := Lib.hid (below_drewN HB.out 1)
      have HF2 := Lib.hid (HF.out.drewN 1)
      generalize w2.drewN 1 = w3 at *
      go_wp2_with fail
      refine (HSA.out _ S2.out).mono ?_; rintro e w4 ⟨rfl, s4, fr4, hb4⟩
      rw [← HC1.out] at s4
      have S4 := Lib.hid s4
      have TD4 := Lib.hid (TD2.out.frm fr4)
      have HB4 := Lib.hid (HB2.out.trans hb4)
      have HF4 := Lib.hid (HF2.out.trans fr4)
      clear s4 fr4 hb4
      go_wp2_with fail
      refine (HRG.out _ S4.out TD4.out).mono ?_; rintro e w5 ⟨rfl, s5, fr5, hb5⟩
      rw [← E1.out] at s5
      have S5 := Lib.hid s5
      have HB5 := Lib.hid (HB4.out.trans hb5)
      have HF5 := Lib.hid (HF4.out.trans fr5)
      clear s5 fr5 hb5
      go_wp2
      go_ret
      exact ⟨⟨_, rfl⟩, (by first | exact S5.out | (rw [← hNu]; exact S5.out)), HF5.out, HB5.out⟩
    · obtain ⟨k, hk⟩ : ∃ k : Nat, ps i = (k : Int) := ⟨(ps i).toNat, by omega⟩
      have hkn : (ps i).toNat = k := by omega
      have e1 : labC cs (ps i).toNat (nu i) (lN j) ref j = cs.set k (Fld.setSbx (cs.getD k 0) (j : Int)) := by
        unfold labC
        rw [if_neg hc, hkn]
      have E1 := Lib.hid e1
      have hk1 : k < cs.length := by omega
      have hrg := fun w1 (s1 : Sx w1 F C Bk U p h base n first cs ns ps nu) (td1 : Td w1 y (j : Int) (ns i) (lN j)) => resolveGoto_fr F C Bk U p h base n first cs ns ps nu i g k y (j : Int) (lN j) (ns i) w1 s1 td1 HQ.out hi q1 hk hk1 (HW.out _ hk1) hcl
      have HRG := Lib.hid hrg
      have hcc : lN j < nu i → ref = false := fun h1 => by
        cases hr : ref with
        | false => rfl
        | true => exact absurd ⟨h1, hr⟩ hc
      clear s gd cb hu hlab hgl hpre hw td hy hf q4 e1 hrg hkn hq hc
      generalize hNu : nu i = num at g4 hcc q1
      generalize ns i = nm at *
      generalize hLj : lN j = l at *
      by_cases hgt : l < num
      · rw [hcc hgt] at c3
        have hgt2 : l < num := hgt
        clear hcc
        go_enter Tryf.func51, Tryf.ntmps51
        go_wp2_with fail
        refine HGL.out.mono ?_; rintro e w1 ⟨rfl, rfl⟩
        go_wp2_with fail
        go_quiet (fail)
        have S1 := Lib.hid (S.out.drewN nq)
        have TD1 := Lib.hid (TD.out.keep (w' := w1.drewN nq) rfl)
        have HB := Lib.hid (below_drewN (Below.refl base w1) nq)
        have HF := Lib.hid ((Frm.refl U w1).drewN nq)
        generalize w1.drewN nq = w2 at *
        go_wp2_with fail
        refine (HRG.out _ S1.out TD1.out).mono ?_; rintro e w5 ⟨rfl, s5, fr5, hb5⟩
        rw [← E1.out] at s5
        have S5 := Lib.hid s5
        have HB5 := Lib.hid (HB.out.trans hb5)
        have HF5 := Lib.hid (HF.out.trans fr5)
        clear s5 fr5 hb5
        go_wp2
        go_ret
        exact ⟨⟨_, rfl⟩, (by first | exact S5.out | (rw [← hNu]; exact S5.out)), HF5.out, HB5.out⟩
      · have hgt2 : decide (l < num) = false := decide_eq_false hgt
        clear hcc
        go_enter Tryf.func51, Tryf.ntmps51
        go_wp2_with fail
        refine HGL.out.mono ?_; rintro e w1 ⟨rfl, rfl⟩
        go_wp2_with fail
        go_quiet (fail)
        have S1 := Lib.hid (S.out.drewN nq)
        have TD1 := Lib.hid (TD.out.keep (w' := w1.drewN nq) rfl)
        have HB := Lib.hid (below_drewN (Below.refl base w1) nq)
        have HF := Lib.hid ((Frm.refl U w1).drewN nq)
        generalize w1.drewN nq = w2 at *
        go_wp2_with fail
        refine (HRG.out _ S1.out TD1.out).mono ?_; rintro e w5 ⟨rfl, s5, fr5, hb5⟩
        rw [← E1.out] at s5
        have S5 := Lib.hid s5
        have HB5 := Lib.hid (HB.out.trans hb5)
        have HF5 := Lib.hid (HF.out.trans fr5)
        clear s5 fr5 hb5
        go_wp2
        go_ret
        exact ⟨⟨_, rfl⟩, (by first | exact S5.out | (rw [← hNu]; exact S5.out)), HF5.out, HB5.out⟩
end

end Go.Proofs.YtiihgamhmflphaaFmt
