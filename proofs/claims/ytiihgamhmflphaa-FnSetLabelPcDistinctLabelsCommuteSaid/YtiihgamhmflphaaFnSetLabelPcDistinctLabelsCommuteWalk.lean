/- The walk of FnSetLabelPcDistinctLabelsCommute. -/
import Derived.Test.YtiihgamhmflphaaCtxKit116
import Derived.StillTailTactics
namespace Go.Proofs.Ytiihgamhmflphaa.fnSetLabelPcDistinctLabelsCommute
open Go.RowKit Go.Maps
set_option linter.unusedVariables false

theorem bytes_any (a1 : Option Addr) (n1 c1 : Nat) (a2 : Option Addr) (n2 c2 : Nat) (w : World) (h1 : n1 ≤ maxLen) (h2 : n2 ≤ maxLen) :
    Calls Try.prog 16 #[.slice a1 n1 c1, .slice a2 n2 c2] w (Bts (n1 ≤ 1048576 ∧ n2 ≤ 1048576) w) := by
  unfold maxLen at h1 h2
  by_cases h : 1048576 < n1
  · go_enter Try.func16, Try.ntmps16
    go_wp2
    go_ret
    exact ⟨false, rfl, by first | rfl | trivial, by simp⟩
  by_cases h : 1048576 < n2
  · go_enter Try.func16, Try.ntmps16
    go_wp2
    go_ret
    exact ⟨false, rfl, by first | rfl | trivial, by simp⟩
  by_cases h : 1048576 < n1 + n2
  · go_enter Try.func16, Try.ntmps16
    go_wp2
    go_ret
    exact ⟨false, rfl, by first | rfl | trivial, by simp⟩
  go_enter Try.func16, Try.ntmps16
  go_wp2
  go_ret
  exact ⟨true, rfl, by first | rfl | trivial, fun _ => ⟨by omega, by omega⟩⟩

/-- What a map answers after the labels of the places in P. -/
def Ans (f : Int → Int) (ls ps : List Int) (P : Nat → Prop) : Prop := (∀ i, P i → f (ls.getD i 0) = ps.getD i 0) ∧ ∀ q, (∀ i, P i → ls.getD i 0 ≠ q) → f q = 0
theorem Ans.step {f : Int → Int} {ls ps : List Int} {P Q : Nat → Prop} {k : Nat} (h : Ans f ls ps P) (hQ : ∀ i, Q i ↔ (P i ∨ i = k)) (hd : ∀ i, P i → ls.getD i 0 ≠ ls.getD k 0) : Ans (upd f (ls.getD k 0) (ps.getD k 0)) ls ps Q := by
  refine ⟨fun i hi => ?_, fun q hq => ?_⟩
  · unfold upd
    rcases (hQ i).1 hi with hp | rfl
    · rw [if_neg (hd i hp)]; exact h.1 i hp
    · rw [if_pos rfl]
  · unfold upd
    rw [if_neg (fun e => hq k ((hQ k).2 (.inr rfl)) e.symm)]
    exact h.2 q fun i hp => hq i ((hQ i).2 (.inl hp))
theorem Ans.one {f g : Int → Int} {ls ps : List Int} {P Q : Nat → Prop} (h : Ans f ls ps P) (k : Ans g ls ps Q) (hPQ : ∀ i, P i ↔ Q i) (q : Int) : f q = g q := by
  by_cases e : ∃ i, P i ∧ ls.getD i 0 = q
  · obtain ⟨i, hp, rfl⟩ := e
    rw [h.1 i hp, k.1 i ((hPQ i).1 hp)]
  · rw [h.2 q fun i hp e' => e ⟨i, hp, e'⟩, k.2 q fun i hq e' => e ⟨i, (hPQ i).2 hq, e'⟩]

set_option maxHeartbeats 4000000 in
theorem walk (a1 : Option Addr) (len1 cap1 : Nat) (z1 : List Int) (a2 : Option Addr) (len2 cap2 : Nat) (z2 : List Int) (w : World) (w1 : IsRow .i64 w a1 len1 cap1 z1) (w2 : IsRow .i64 w a2 len2 cap2 z2) :
    Calls Try.prog 6 #[.slice a1 len1 cap1, .slice a2 len2 cap2] w fun e w' => e = .returned (.bool true) ∧ Below w.heap.size w w' := by
  have HBY := Lib.hid (bytes_any a1 len1 cap1 a2 len2 cap2 w (InRow.len_le w1).2 (InRow.len_le w2).2)
  have W1 := Lib.hid w1
  have W2 := Lib.hid w2
  clear w1 w2
  go_enter Try.func6, Try.ntmps6
  go_wp2_with fail
  refine HBY.out.mono ?_; rintro e u0 ⟨b, rfl, rfl, hbt⟩
  cases b with
  | false =>
    go_wp2
    go_ret
    exact ⟨rfl, Below.refl _ _⟩
  | true =>
  obtain ⟨hn1, hn2⟩ := hbt rfl
  clear hbt HBY
  by_cases hc1 : 4096 < len1
  · go_wp2
    go_ret
    exact ⟨rfl, Below.refl _ _⟩
  by_cases hc2 : 4096 < len2
  · go_wp2
    go_ret
    exact ⟨rfl, Below.refl _ _⟩
  by_cases hd : len1 = len2
  case neg =>
    have hd' : ¬ ((len2 : Int) = (len1 : Int)) := by omega
    go_wp2
    go_ret
    exact ⟨rfl, Below.refl _ _⟩
  subst hd
  go_wp2_with fail
  go_loopw [6, 7] (fun i _ wr => ∃ k : Nat, k ≤ len1 ∧ i = .int .i64 k ∧ (∀ i j, i < k → i < j → j < len1 → z1.getD i 0 ≠ z1.getD j 0) ∧ IsRow .i64 wr a1 len1 cap1 z1 ∧ Below u0.heap.size u0 wr) (fun i _ _ => len1 - (intOf i).toNat)
  case atStart => exact ⟨0, by omega, rfl, fun i j hi => absurd hi (by omega), W1.out, Below.refl _ _⟩
  case round =>
    obtain ⟨k, hk, rfl, hdist, hrow, hb⟩ := hrel
    have HD := Lib.hid hdist
    have HR := Lib.hid hrow
    have HB := Lib.hid hb
    clear hdist hrow hb
    by_cases hkl : k < len1
    · go_wp2_with fail
      go_loopw [7] (fun j wr => ∃ m : Nat, k < m ∧ m ≤ len1 ∧ j = .int .i64 m ∧ (∀ j, k < j → j < m → z1.getD k 0 ≠ z1.getD j 0) ∧ IsRow .i64 wr a1 len1 cap1 z1 ∧ Below u0.heap.size u0 wr) (fun j _ => len1 - (intOf j).toNat)
      case atStart => exact ⟨k + 1, by omega, by omega, by go_num, fun j h1 h2 => absurd h2 (by omega), HR.out, HB.out⟩
      case round =>
        obtain ⟨m, hkm, hm, rfl, hne, hrow, hb⟩ := hrel
        have HNE := Lib.hid hne
        have HR := Lib.hid hrow
        have HB := Lib.hid hb
        clear hne hrow hb
        by_cases hml : m < len1
        · obtain ⟨b, off, ea, hcl⟩ := InRow.cells HR.out (by omega)
          have d1 := hcl k hkl
          have d2 := hcl m hml
          clear hcl
          subst ea
          have b1 : (0 : Int) ≤ (k : Int) := by omega
          have b2 : (k : Int) < (len1 : Int) := by omega
          have b3 : (0 : Int) ≤ (m : Int) := by omega
          have b4 : (m : Int) < (len1 : Int) := by omega
          by_cases hx : z1.getD k 0 = z1.getD m 0
          · rw [← hx] at d2
            clear hx
            generalize z1.getD k 0 = x at *
            go_wp2
            go_quiet (fail)
            go_wp2
            go_ret
            exact ⟨rfl, below_drewN HB.out _⟩
          · have hne' : ∀ j, k < j → j < m + 1 → z1.getD k 0 ≠ z1.getD j 0 := fun j h1 h2 => by
              by_cases e : j = m
              · subst e; exact hx
              · exact HNE.out j h1 (by omega)
            have HNE' := Lib.hid hne'
            clear hne'
            generalize z1.getD k 0 = x at *
            generalize z1.getD m 0 = y at *
            go_wp2
            go_quiet (fail)
            go_wp2
            go_roundw
            case rel => exact ⟨m + 1, by omega, by omega, by go_num, HNE'.out, InRow.keep HR.out (below_drewN (Below.refl _ _) _), below_drewN HB.out _⟩
            case measure => simp [intOf]; omega
        · have hmk : m = len1 := by omega
          subst hmk
          go_wp2
          go_roundw
          case rel =>
            refine ⟨k + 1, by omega, by go_num, fun i j h1 h2 h3 => ?_, HR.out, HB.out⟩
            by_cases e : i = k
            · subst e; exact HNE.out j h2 h3
            · exact HD.out i j (by omega) h2 h3
          case measure => simp [intOf]; omega
    · have hkk : k = len1 := by omega
      subst hkk
      have HBZ := Lib.hid HB.out
      obtain ⟨u0', rfl⟩ : ∃ u0' : World, u0' = wr := ⟨_, rfl⟩
      go_wp2_with fail
      refine (copy_any a1 k cap1 z1 _ HR.out (by omega)).mono ?_; rintro e u1 ⟨p1, rfl, hcp1, hb1⟩
      have HC1 := Lib.hid hcp1
      have HB1 := Lib.hid (HBZ.out.trans (hb1.mono HBZ.out.size))
      clear hcp1 hb1
      go_wp2_with fail
      refine (copy_any a2 k cap2 z2 _ (InRow.keep W2.out HB1.out) (by omega)).mono ?_; rintro e u3 ⟨p2, rfl, hcp2, hb2⟩
      have HC1 := Lib.hid (HC1.out.below (Nat.le_refl _) hb2)
      have HC2 := Lib.hid hcp2
      have HB3 := Lib.hid (HB1.out.trans (hb2.mono HB1.out.size))
      clear hcp2 hb2
      go_wp2_with fail
      refine (new_any 0 _).mono ?_; rintro e u4 ⟨F1, M1, rfl, hF1, hM1, hfc, hmp, hb4⟩
      have lF1 := hfc.lt
      have lM1 := hmp.lt
      have HF1 := Lib.hid hfc
      have HM1 := Lib.hid hmp
      have HB4 := Lib.hid hb4
      have hs4 := hb4.size
      clear hfc hmp hb4
      go_wp2_with fail
      refine (new_any 0 _).mono ?_; rintro e u5 ⟨F2, M2, rfl, hF2, hM2, hfc, hmp, hb5⟩
      have HF1 := Lib.hid (HF1.out.keep (hb5.block F1 lF1))
      have HM1 := Lib.hid (HM1.out.keep (hb5.block M1 lM1))
      have HF2 := Lib.hid hfc
      have HM2 := Lib.hid hmp
      have HB := Lib.hid (HB4.out.trans (hb5.mono hs4))
      have nF : F1 ≠ M2 ∧ M1 ≠ M2 ∧ F2 ≠ M1 := ⟨by omega, by omega, by omega⟩
      clear hfc hmp hb5
      have gM2 : u3.heap.size ≤ M2 := by omega
      go_wp2_with fail
      go_loopw [10] (fun i wr => ∃ (m : Nat) (f : Int → Int), m ≤ k ∧ i = .int .i64 m ∧ Ans f z1 z2 (fun i => i < m) ∧ Fc wr F1 M1 0 ∧ Mp wr M1 m f ∧ Fc wr F2 M2 0 ∧ Mp wr M2 0 (fun _ => 0) ∧ Below u3.heap.size u3 wr) (fun i _ => k - (intOf i).toNat)
      case atStart => exact ⟨0, _, by omega, rfl, ⟨fun i hi => absurd hi (by omega), fun q _ => rfl⟩, HF1.out, HM1.out, HF2.out, HM2.out, HB.out⟩
      case round =>
        obtain ⟨m, f, hm, rfl, hans, hf1, hm1, hf2, hm2, hb⟩ := hrel
        have HA := Lib.hid hans
        have HF1 := Lib.hid hf1
        have HM1 := Lib.hid hm1
        have HF2 := Lib.hid hf2
        have HM2 := Lib.hid hm2
        have HB := Lib.hid hb
        clear hans hf1 hm1 hf2 hm2 hb
        obtain ⟨u, rfl⟩ : ∃ u : World, u = wr := ⟨_, rfl⟩
        by_cases hml : m < k
        · obtain ⟨g1, ep1, _, hg1, hcell1, hwf1⟩ := HC1.out m hml
          obtain ⟨g2, ep2, _, hg2, hcell2, hwf2⟩ := HC2.out m hml
          subst ep1 ep2
          have hu13 : g1 < u3.heap.size := hg1
          have d1 : u.cell? ⟨g1, m, none⟩ = some (.int .i64 (z1.getD m 0)) := (HB.out.cell (p := ⟨g1, m, none⟩) hg1).trans hcell1
          have d2 : u.cell? ⟨g2, m, none⟩ = some (.int .i64 (z2.getD m 0)) := (HB.out.cell (p := ⟨g2, m, none⟩) hg2).trans hcell2
          have HST := Lib.hid (HA.out.step (Q := fun i => i < m + 1) (k := m) (fun i => by omega) (fun i hi => HD.out i m (by omega) hi (by omega)))
          clear hcell1 hcell2
          generalize z1.getD m 0 = x at *
          generalize z2.getD m 0 = y at *
          have b1 : (0 : Int) ≤ (m : Int) := by omega
          have b2 : (m : Int) < (k : Int) := by omega
          go_wp2_with fail
          go_still_tail 9, (by kernel_rfl)
          change wpList _ _ _ _ _ u.drew
          have HF1D := Lib.hid (HF1.out.drewN 1)
          have HM1D := Lib.hid (HM1.out.drewN 1)
          have HF2D := Lib.hid (HF2.out.drewN 1)
          have HM2D := Lib.hid (HM2.out.drewN 1)
          have HBD := Lib.hid (below_drewN HB.out 1)
          change Hid (Fc u.drew F1 M1 0) at HF1D
          change Hid (Mp u.drew M1 m f) at HM1D
          change Hid (Fc u.drew F2 M2 0) at HF2D
          change Hid (Mp u.drew M2 0 (fun _ => 0)) at HM2D
          change Hid (Below u3.heap.size u3 u.drew) at HBD
          generalize u.drew = wd at *
          go_wp2_with fail
          refine (setPc_any F1 M1 m 0 x y f _ HF1D.out HM1D.out (by omega) hwf1 hwf2).mono ?_; rintro e u6 ⟨rfl, hfc6, hmp6, hk6, hb6⟩
          have HF6 := Lib.hid hfc6
          have HM6 := Lib.hid hmp6
          have HB6 := Lib.hid (HBD.out.trans (hb6.mono hM1))
          have HG6 := Lib.hid (HF2D.out.keep (hk6 F2 HF2D.out.lt nF.2.2))
          have HN6 := Lib.hid (HM2D.out.keep (hk6 M2 HM2D.out.lt (fun e => nF.2.1 e.symm)))
          clear hfc6 hmp6 hb6 hk6
          go_wp2
          go_roundw
          case rel => exact ⟨m + 1, _, by omega, by go_num, HST.out, HF6.out, HM6.out, HG6.out, HN6.out, HB6.out⟩
          case measure => simp [intOf]; omega
        · have hmk : m = k := by omega
          subst hmk
          go_wp2_with fail
          go_loopw [11] (fun i wr => ∃ (d : Nat) (g : Int → Int), d ≤ m ∧ i = .int .i64 ((d : Int) - 1) ∧ Ans g z1 z2 (fun i => d ≤ i ∧ i < m) ∧ Fc wr F1 M1 0 ∧ Mp wr M1 m f ∧ Fc wr F2 M2 0 ∧ Mp wr M2 (m - d) g ∧ Below u3.heap.size u3 wr) (fun i _ => (intOf i + 1).toNat)
          case atStart => exact ⟨m, _, by omega, rfl, ⟨fun i hi => absurd hi (by omega), fun q _ => rfl⟩, HF1.out, HM1.out, HF2.out, by rw [Nat.sub_self]; exact HM2.out, HB.out⟩
          case round =>
            obtain ⟨d, g, hdm, rfl, hans, hf1, hm1, hf2, hm2, hb⟩ := hrel
            have HG := Lib.hid hans
            have HF1 := Lib.hid hf1
            have HM1 := Lib.hid hm1
            have HF2 := Lib.hid hf2
            have HM2 := Lib.hid hm2
            have HB := Lib.hid hb
            clear hans hf1 hm1 hf2 hm2 hb
            obtain ⟨u, rfl⟩ : ∃ u : World, u = wr := ⟨_, rfl⟩
            cases d with
            | succ c =>
              have ef : (((c + 1 : Nat) : Int) - 1) = (c : Int) := by omega
              rw [ef]
              clear ef
              obtain ⟨g1, ep1, _, hg1, hcell1, hwf1⟩ := HC1.out c (by omega)
              obtain ⟨g2, ep2, _, hg2, hcell2, hwf2⟩ := HC2.out c (by omega)
              subst ep1 ep2
              have d1 : u.cell? ⟨g1, c, none⟩ = some (.int .i64 (z1.getD c 0)) := (HB.out.cell (p := ⟨g1, c, none⟩) hg1).trans hcell1
              have d2 : u.cell? ⟨g2, c, none⟩ = some (.int .i64 (z2.getD c 0)) := (HB.out.cell (p := ⟨g2, c, none⟩) hg2).trans hcell2
              have HST := Lib.hid (HG.out.step (Q := fun i => c ≤ i ∧ i < m) (k := c) (fun i => by omega) (fun i hi e => HD.out c i (by omega) (by omega) (by omega) e.symm))
              have HE := Lib.hid (show m - c = m - (c + 1) + 1 by omega)
              clear hcell1 hcell2
              generalize z1.getD c 0 = x at *
              generalize z2.getD c 0 = y at *
              have b1 : (0 : Int) ≤ (c : Int) := by omega
              have b2 : (c : Int) < (m : Int) := by omega
              go_wp2_with fail
              go_still_tail 9, (by kernel_rfl)
              change wpList _ _ _ _ _ u.drew
              have HF1D := Lib.hid (HF1.out.drewN 1)
              have HM1D := Lib.hid (HM1.out.drewN 1)
              have HF2D := Lib.hid (HF2.out.drewN 1)
              have HM2D := Lib.hid (HM2.out.drewN 1)
              have HBD := Lib.hid (below_drewN HB.out 1)
              change Hid (Fc u.drew F1 M1 0) at HF1D
              change Hid (Mp u.drew M1 m f) at HM1D
              change Hid (Fc u.drew F2 M2 0) at HF2D
              change Hid (Mp u.drew M2 (m - (c + 1)) g) at HM2D
              change Hid (Below u3.heap.size u3 u.drew) at HBD
              generalize u.drew = wd at *
              go_wp2_with fail
              refine (setPc_any F2 M2 (m - (c + 1)) 0 x y g _ HF2D.out HM2D.out (by omega) hwf1 hwf2).mono ?_; rintro e u6 ⟨rfl, hfc6, hmp6, hk6, hb6⟩
              have HF6 := Lib.hid hfc6
              have HM6 := Lib.hid hmp6
              have HB6 := Lib.hid (HBD.out.trans (hb6.mono gM2))
              have HG6 := Lib.hid (HF1D.out.keep (hk6 F1 HF1D.out.lt nF.1))
              have HN6 := Lib.hid (HM1D.out.keep (hk6 M1 HM1D.out.lt nF.2.1))
              clear hfc6 hmp6 hb6 hk6
              go_wp2
              go_roundw
              case rel => exact ⟨c, _, by omega, by go_num, HST.out, HG6.out, HN6.out, HF6.out, by rw [HE.out]; exact HM6.out, HB6.out⟩
              case measure => simp [intOf]
            | zero =>
              have ez : (((0 : Nat) : Int) - 1) = -1 := by omega
              rw [ez]
              clear ez
              have HEQ := Lib.hid (HA.out.one HG.out (fun i => by omega))
              go_wp2_with fail
              go_loopw [12] (fun i wr => ∃ j : Nat, j ≤ m ∧ i = .int .i64 j ∧ Fc wr F1 M1 0 ∧ Mp wr M1 m f ∧ Fc wr F2 M2 0 ∧ Mp wr M2 m g ∧ Below u3.heap.size u3 wr) (fun i _ => m - (intOf i).toNat)
              case atStart => exact ⟨0, by omega, rfl, HF1.out, HM1.out, HF2.out, HM2.out, HB.out⟩
              case round =>
                obtain ⟨j, hj, rfl, hf1, hm1, hf2, hm2, hb⟩ := hrel
                have HF1 := Lib.hid hf1
                have HM1 := Lib.hid hm1
                have HF2 := Lib.hid hf2
                have HM2 := Lib.hid hm2
                have HB := Lib.hid hb
                clear hf1 hm1 hf2 hm2 hb
                by_cases hjl : j < m
                · obtain ⟨g1, ep1, _, hg1, hcell1, hwf1⟩ := HC1.out j hjl
                  subst ep1
                  have hcl : ∀ w' : World, Below u3.heap.size u3 w' → w'.cell? ⟨g1, j, none⟩ = some (.int .i64 (z1.getD j 0)) := fun w' hb => (hb.cell (p := ⟨g1, j, none⟩) hg1).trans hcell1
                  have d1 := hcl _ HB.out
                  have HCL := Lib.hid hcl
                  clear hcl hcell1
                  generalize z1.getD j 0 = x at *
                  have hat : ∀ (F M : Nat) (h : Int → Int) (x : Int), (Lit.int .i64 x).wf = true → (∀ q, h q = f q) → ∀ w : World, Fc w F M 0 → Mp w M m h → Calls Try.prog 12 #[.pointer (some ⟨F, 0, none⟩), .int .i64 x] w fun e w' => e = .returned (.int .i64 (f x)) ∧ w' = w := fun F M h x hx he w h1 h2 => by
                    rw [← he x]
                    exact getPc_any F M m 0 x h w h1 h2 hx
                  have HAT1 := Lib.hid (hat F1 M1 f x hwf1 (fun _ => rfl))
                  have HAT2 := Lib.hid (hat F2 M2 g x hwf1 (fun q => (HEQ.out q).symm))
                  have HAT3 := Lib.hid (hat F1 M1 f (wrap64 (x + 1)) (wrap64_wf _) (fun _ => rfl))
                  have HAT4 := Lib.hid (hat F2 M2 g (wrap64 (x + 1)) (wrap64_wf _) (fun q => (HEQ.out q).symm))
                  clear hat
                  generalize f x = y at *
                  generalize f (wrap64 (x + 1)) = y2 at *
                  have b1 : (0 : Int) ≤ (j : Int) := by omega
                  have b2 : (j : Int) < (m : Int) := by omega
                  go_wp2
                  go_quiet ((first | (go_at_call 12; refine Calls.quiet_of_same (HAT1.out _ ?_ ?_); exact HF1.out.drewN _; exact HM1.out.drewN _) | (go_at_call 12; refine Calls.quiet_of_same (HAT2.out _ ?_ ?_); exact HF2.out.drewN _; exact HM2.out.drewN _)))
                  have HF1D := Lib.hid (HF1.out.drewN nq)
                  have HM1D := Lib.hid (HM1.out.drewN nq)
                  have HF2D := Lib.hid (HF2.out.drewN nq)
                  have HM2D := Lib.hid (HM2.out.drewN nq)
                  have HBD := Lib.hid (below_drewN HB.out nq)
                  have d2 := HCL.out _ HBD.out
                  generalize wr.drewN nq = wd at *
                  go_wp2
                  go_quiet ((first | (go_at_call 12; refine Calls.quiet_of_same (HAT3.out _ ?_ ?_); exact HF1D.out.drewN _; exact HM1D.out.drewN _) | (go_at_call 12; refine Calls.quiet_of_same (HAT4.out _ ?_ ?_); exact HF2D.out.drewN _; exact HM2D.out.drewN _)))
                  go_wp2
                  go_roundw
                  case rel => exact ⟨j + 1, by omega, by go_num, HF1D.out.drewN _, HM1D.out.drewN _, HF2D.out.drewN _, HM2D.out.drewN _, below_drewN HBD.out _⟩
                  case measure => simp [intOf]; omega
                · have hjm : j = m := by omega
                  subst hjm
                  go_wp2
                  go_ret
                  exact ⟨rfl, HB3.out.trans (HB.out.mono HB3.out.size)⟩

end Go.Proofs.Ytiihgamhmflphaa.fnSetLabelPcDistinctLabelsCommute
