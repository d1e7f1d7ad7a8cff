/- The walk of FnSetLabelPcLastWriteWins. -/
import Derived.Test.YtiihgamhmflphaaCtxKit116
import Derived.StillTailTactics
namespace Go.Proofs.Ytiihgamhmflphaa.fnSetLabelPcLastWriteWins
open Go.RowKit Go.Maps
set_option linter.unusedVariables false

theorem bytes_any (a1 : Option Addr) (n1 c1 : Nat) (a2 : Option Addr) (n2 c2 : Nat) (a3 : Option Addr) (n3 c3 : Nat) (w : World) (h1 : n1 ≤ maxLen) (h2 : n2 ≤ maxLen) (h3 : n3 ≤ maxLen) :
    Calls Try.prog 14 #[.slice a1 n1 c1, .slice a2 n2 c2, .slice a3 n3 c3] w (Bts (n1 ≤ 1048576 ∧ n2 ≤ 1048576 ∧ n3 ≤ 1048576) w) := by
  unfold maxLen at h1 h2 h3
  by_cases h : 1048576 < n1
  · go_enter Try.func14, Try.ntmps14
    go_wp2
    go_ret
    exact ⟨false, rfl, by first | rfl | trivial, by simp⟩
  by_cases h : 1048576 < n2
  · go_enter Try.func14, Try.ntmps14
    go_wp2
    go_ret
    exact ⟨false, rfl, by first | rfl | trivial, by simp⟩
  by_cases h : 1048576 < n1 + n2
  · go_enter Try.func14, Try.ntmps14
    go_wp2
    go_ret
    exact ⟨false, rfl, by first | rfl | trivial, by simp⟩
  by_cases h : 1048576 < n3
  · go_enter Try.func14, Try.ntmps14
    go_wp2
    go_ret
    exact ⟨false, rfl, by first | rfl | trivial, by simp⟩
  by_cases h : 1048576 < n1 + n2 + n3
  · go_enter Try.func14, Try.ntmps14
    go_wp2
    go_ret
    exact ⟨false, rfl, by first | rfl | trivial, by simp⟩
  go_enter Try.func14, Try.ntmps14
  go_wp2
  go_ret
  exact ⟨true, rfl, by first | rfl | trivial, fun _ => ⟨by omega, by omega, by omega⟩⟩

theorem Cp.drewN {base : Nat} {w : World} {p : Option Addr} {n : Nat} {zs : List Int} (h : Cp base w p n zs) (q : Nat) : Cp base (w.drewN q) p n zs := h

set_option maxHeartbeats 1000000 in
theorem lastPc_any (base : Nat) (p1 p2 : Option Addr) (n : Nat) (ls ps : List Int) (q : Int) (w : World) (h1 : Cp base w p1 n ls) (h2 : Cp base w p2 n ps) (hn : n ≤ 4096) :
    Calls Try.prog 15 #[.slice p1 n n, .slice p2 n n, .int .i64 q] w fun e w' => e = .returned (.int .i64 (lastR ls ps q n)) ∧ w' = w := by
  have H1 := Lib.hid h1
  have H2 := Lib.hid h2
  clear h1 h2
  go_enter Try.func15, Try.ntmps15
  go_wp2_with fail
  go_loopw [7] (fun j wr => ∃ d : Nat, d ≤ n ∧ j = .int .i64 ((d : Int) - 1) ∧ wr = w ∧ lastR ls ps q n = lastR ls ps q d) (fun j _ => (intOf j + 1).toNat)
  case atStart => exact ⟨n, by omega, rfl, by first | rfl | trivial, rfl⟩
  case round =>
    obtain ⟨d, hd, rfl, rfl, hl⟩ := hrel
    have HL := Lib.hid hl
    clear hl
    cases d with
    | zero =>
      have ez : (((0 : Nat) : Int) - 1) = -1 := by omega
      rw [ez]
      clear ez
      go_wp2
      go_ret
      exact ⟨by rw [HL.out]; rfl, by first | rfl | trivial⟩
    | succ m =>
      have ef : (((m + 1 : Nat) : Int) - 1) = (m : Int) := by omega
      rw [ef]
      clear ef
      obtain ⟨g1, e1, _, _, d1, _⟩ := H1.out m (by omega)
      obtain ⟨g2, e2, _, _, d2, _⟩ := H2.out m (by omega)
      subst e1 e2
      have b1 : (0 : Int) ≤ (m : Int) := by omega
      have b2 : (m : Int) < (n : Int) := by omega
      by_cases hx : ls.getD m 0 = q
      · have hr : lastR ls ps q n = ps.getD m 0 := by rw [HL.out]; simp only [lastR, if_pos hx]
        have HR := Lib.hid hr
        rw [hx] at d1
        clear hx hr
        generalize ps.getD m 0 = y at *
        go_wp2
        go_ret
        exact ⟨by rw [HR.out]; rfl, by first | rfl | trivial⟩
      · have hr : lastR ls ps q n = lastR ls ps q m := by rw [HL.out]; simp only [lastR, if_neg hx]
        have HR := Lib.hid hr
        clear hr
        generalize ls.getD m 0 = x at *
        go_wp2
        go_roundw
        case rel => exact ⟨m, by omega, by go_num, by first | rfl | trivial, HR.out⟩
        case measure => simp [intOf]

set_option maxHeartbeats 4000000 in
theorem walk (a1 : Option Addr) (len1 cap1 : Nat) (z1 : List Int) (a2 : Option Addr) (len2 cap2 : Nat) (z2 : List Int) (a3 : Option Addr) (len3 cap3 : Nat) (z3 : List Int) (w : World) (w1 : IsRow .i64 w a1 len1 cap1 z1) (w2 : IsRow .i64 w a2 len2 cap2 z2) (w3 : IsRow .i64 w a3 len3 cap3 z3) :
    Calls Try.prog 5 #[.slice a1 len1 cap1, .slice a2 len2 cap2, .slice a3 len3 cap3] w fun e w' => e = .returned (.bool true) ∧ Below w.heap.size w w' := by
  have HBY := Lib.hid (bytes_any a1 len1 cap1 a2 len2 cap2 a3 len3 cap3 w (InRow.len_le w1).2 (InRow.len_le w2).2 (InRow.len_le w3).2)
  have W1 := Lib.hid w1
  have W2 := Lib.hid w2
  have W3 := Lib.hid w3
  clear w1 w2 w3
  go_enter Try.func5, Try.ntmps5
  go_wp2_with fail
  refine HBY.out.mono ?_; rintro e u0 ⟨b, rfl, rfl, hbt⟩
  cases b with
  | false =>
    go_wp2
    go_ret
    exact ⟨rfl, Below.refl _ _⟩
  | true =>
  obtain ⟨hn1, hn2, hn3⟩ := hbt rfl
  clear hbt HBY
  by_cases hc1 : 4096 < len1
  · go_wp2
    go_ret
    exact ⟨rfl, Below.refl _ _⟩
  by_cases hc2 : 4096 < len2
  · go_wp2
    go_ret
    exact ⟨rfl, Below.refl _ _⟩
  by_cases hc3 : 4096 < len3
  · go_wp2
    go_ret
    exact ⟨rfl, Below.refl _ _⟩
  by_cases hd : len1 = len2
  case neg =>
    have hd' : ¬ ((len1 : Int) = (len2 : Int)) := by omega
    go_wp2
    go_ret
    exact ⟨rfl, Below.refl _ _⟩
  subst hd
  obtain ⟨B0, hB0⟩ : ∃ B0, B0 = u0.heap.size := ⟨_, rfl⟩
  go_wp2_with fail
  refine (copy_any a1 len1 cap1 z1 _ W1.out (by omega)).mono ?_; rintro e u1 ⟨p1, rfl, hcp1, hb1⟩
  have HC1 := Lib.hid hcp1
  have HB1 := Lib.hid hb1
  clear hcp1 hb1
  go_wp2_with fail
  refine (copy_any a2 len1 cap2 z2 _ (InRow.keep W2.out HB1.out) (by omega)).mono ?_; rintro e u2 ⟨p2, rfl, hcp2, hb2⟩
  have HC1 := Lib.hid (HC1.out.below (Nat.le_refl _) hb2)
  have HC2 := Lib.hid hcp2
  have HB2 := Lib.hid (HB1.out.trans (hb2.mono HB1.out.size))
  clear hcp2 hb2
  go_wp2_with fail
  refine (copy_any a3 len3 cap3 z3 _ (InRow.keep W3.out HB2.out) (by omega)).mono ?_; rintro e u3 ⟨p3, rfl, hcp3, hb3⟩
  have hcA := HC1.out.below (Nat.le_refl _) hb3
  have hcB := HC2.out.below (Nat.le_refl _) hb3
  have HC1 := Lib.hid (show Cp 0 u3 p1 len1 z1 from fun k hk => by obtain ⟨g, h1, _, h⟩ := hcA k hk; exact ⟨g, h1, Nat.zero_le _, h⟩)
  have HC2 := Lib.hid (show Cp 0 u3 p2 len1 z2 from fun k hk => by obtain ⟨g, h1, _, h⟩ := hcB k hk; exact ⟨g, h1, Nat.zero_le _, h⟩)
  have HC3 := Lib.hid hcp3
  have HB3 := Lib.hid (HB2.out.trans (hb3.mono HB2.out.size))
  clear hcp3 hb3 hcA hcB
  clear hB0 B0
  go_wp2_with fail
  refine (new_any 0 _).mono ?_; rintro e u4 ⟨F, M, rfl, hF, hM, hfc, hmp, hb4⟩
  have HFC := Lib.hid hfc
  have HMP := Lib.hid hmp
  have HB4 := Lib.hid hb4
  clear hfc hmp hb4
  go_wp2_with fail
  go_loopw [8] (fun i wr => ∃ (k : Nat) (f : Int → Int), k ≤ len1 ∧ i = .int .i64 k ∧ Fc wr F M 0 ∧ Mp wr M k f ∧ (∀ q, f q = lastR z1 z2 q k) ∧ Below u3.heap.size u3 wr) (fun i _ => len1 - (intOf i).toNat)
  case atStart => exact ⟨0, _, by omega, rfl, HFC.out, HMP.out, fun q => rfl, HB4.out⟩
  case round =>
    obtain ⟨k, f, hk, rfl, hfc, hmp, hf, hb⟩ := hrel
    have HFC := Lib.hid hfc
    have HMP := Lib.hid hmp
    have HF := Lib.hid hf
    have HB := Lib.hid hb
    clear hfc hmp hf hb
    by_cases hkl : k < len1
    · obtain ⟨g1, ep1, _, hg1, hcell1, hwf1⟩ := HC1.out k hkl
      obtain ⟨g2, ep2, _, hg2, hcell2, hwf2⟩ := HC2.out k hkl
      subst ep1 ep2
      have d1 : wr.cell? ⟨g1, k, none⟩ = some (.int .i64 (z1.getD k 0)) := (HB.out.cell (p := ⟨g1, k, none⟩) hg1).trans hcell1
      have d2 : wr.cell? ⟨g2, k, none⟩ = some (.int .i64 (z2.getD k 0)) := (HB.out.cell (p := ⟨g2, k, none⟩) hg2).trans hcell2
      have hst : ∀ q, upd f (z1.getD k 0) (z2.getD k 0) q = lastR z1 z2 q (k + 1) := fun q => by
        unfold upd
        by_cases e : q = z1.getD k 0
        · rw [if_pos e]; simp only [lastR]; rw [if_pos e.symm]
        · rw [if_neg e]; simp only [lastR]; rw [if_neg (fun h => e h.symm)]; exact HF.out q
      have HST := Lib.hid hst
      clear hst hcell1 hcell2
      generalize z1.getD k 0 = x at *
      generalize z2.getD k 0 = y at *
      have b1 : (0 : Int) ≤ (k : Int) := by omega
      have b2 : (k : Int) < (len1 : Int) := by omega
      go_wp2_with fail
      go_still_tail 9, (by kernel_rfl)
      change wpList _ _ _ _ _ wr.drew
      have HFD := Lib.hid (HFC.out.drewN 1)
      have HMD := Lib.hid (HMP.out.drewN 1)
      have HBD := Lib.hid (below_drewN HB.out 1)
      change Hid (Fc wr.drew F M 0) at HFD
      change Hid (Mp wr.drew M k f) at HMD
      change Hid (Below u3.heap.size u3 wr.drew) at HBD
      generalize wr.drew = wd at *
      go_wp2_with fail
      refine (setPc_any F M k 0 x y f _ HFD.out HMD.out (by omega) hwf1 hwf2).mono ?_; rintro e u6 ⟨rfl, hfc6, hmp6, hk6, hb6⟩
      have HFC6 := Lib.hid hfc6
      have HMP6 := Lib.hid hmp6
      have HB6 := Lib.hid (HBD.out.trans (hb6.mono hM))
      clear hfc6 hmp6 hb6 hk6
      go_wp2
      go_roundw
      case rel => exact ⟨k + 1, _, by omega, by go_num, HFC6.out, HMP6.out, HST.out, HB6.out⟩
      case measure => simp [intOf]; omega
    · have hkk : k = len1 := by omega
      subst hkk
      go_wp2_with fail
      go_loopw [9] (fun i wr => ∃ m : Nat, m ≤ len3 ∧ i = .int .i64 m ∧ Fc wr F M 0 ∧ Mp wr M k f ∧ Below u3.heap.size u3 wr) (fun i _ => len3 - (intOf i).toNat)
      case atStart => exact ⟨0, by omega, rfl, HFC.out, HMP.out, HB.out⟩
      case round =>
        obtain ⟨m, hm, rfl, hfc, hmp, hb⟩ := hrel
        have HFC := Lib.hid hfc
        have HMP := Lib.hid hmp
        have HB := Lib.hid hb
        clear hfc hmp hb
        by_cases hml : m < len3
        · obtain ⟨g, ep, hg0, hg, hcell, hwf⟩ := (HC3.out m hml)
          have d1 : wr.cell? ⟨g, m, none⟩ = some (.int .i64 (z3.getD m 0)) := (HB.out.cell (p := ⟨g, m, none⟩) hg).trans hcell
          have HK1 := Lib.hid (HC1.out.below (Nat.le_refl _) HB.out)
          have HK2 := Lib.hid (HC2.out.below (Nat.le_refl _) HB.out)
          subst ep
          generalize z3.getD m 0 = q at *
          have hat : ∀ w : World, Fc w F M 0 → Mp w M k f → Calls Try.prog 12 #[.pointer (some ⟨F, 0, none⟩), .int .i64 q] w fun e w' => e = .returned (.int .i64 (lastR z1 z2 q k)) ∧ w' = w := fun w h1 h2 => by
            rw [← HF.out q]
            exact getPc_any F M k 0 q f w h1 h2 hwf
          have HAT := Lib.hid hat
          have HLT := Lib.hid (fun w h1 h2 => lastPc_any 0 p1 p2 k z1 z2 q w h1 h2 (by omega))
          clear hat hcell
          generalize lastR z1 z2 q k = y at *
          have b1 : (0 : Int) ≤ (m : Int) := by omega
          have b2 : (m : Int) < (len3 : Int) := by omega
          go_wp2
          go_quiet ((first | (go_at_call 12; refine Calls.quiet_of_same (HAT.out _ ?_ ?_); exact HFC.out.drewN _; exact HMP.out.drewN _) | (go_at_call 15; refine Calls.quiet_of_same (HLT.out _ ?_ ?_); exact Cp.drewN HK1.out _; exact Cp.drewN HK2.out _)))
          go_wp2
          go_roundw
          case rel => exact ⟨m + 1, by omega, by go_num, HFC.out.drewN _, HMP.out.drewN _, below_drewN HB.out _⟩
          case measure => simp [intOf]; omega
        · have hmk : m = len3 := by omega
          subst hmk
          go_wp2_with fail
          go_loopw [10] (fun i wr => ∃ m : Nat, m ≤ k ∧ i = .int .i64 m ∧ Fc wr F M 0 ∧ Mp wr M k f ∧ Below u3.heap.size u3 wr) (fun i _ => k - (intOf i).toNat)
          case atStart => exact ⟨0, by omega, rfl, HFC.out, HMP.out, HB.out⟩
          case round =>
            obtain ⟨m, hm, rfl, hfc, hmp, hb⟩ := hrel
            have HFC := Lib.hid hfc
            have HMP := Lib.hid hmp
            have HB := Lib.hid hb
            clear hfc hmp hb
            by_cases hml : m < k
            · obtain ⟨g, ep, hg0, hg, hcell, hwf⟩ := (HC1.out m hml)
              have d1 : wr.cell? ⟨g, m, none⟩ = some (.int .i64 (z1.getD m 0)) := (HB.out.cell (p := ⟨g, m, none⟩) hg).trans hcell
              have HK1 := Lib.hid (HC1.out.below (Nat.le_refl _) HB.out)
              have HK2 := Lib.hid (HC2.out.below (Nat.le_refl _) HB.out)
              subst ep
              generalize z1.getD m 0 = q at *
              have hat : ∀ w : World, Fc w F M 0 → Mp w M k f → Calls Try.prog 12 #[.pointer (some ⟨F, 0, none⟩), .int .i64 q] w fun e w' => e = .returned (.int .i64 (lastR z1 z2 q k)) ∧ w' = w := fun w h1 h2 => by
                rw [← HF.out q]
                exact getPc_any F M k 0 q f w h1 h2 hwf
              have HAT := Lib.hid hat
              have HLT := Lib.hid (fun w h1 h2 => lastPc_any 0 (some ⟨g, 0, none⟩) p2 k z1 z2 q w h1 h2 (by omega))
              clear hat hcell
              generalize lastR z1 z2 q k = y at *
              have b1 : (0 : Int) ≤ (m : Int) := by omega
              have b2 : (m : Int) < (k : Int) := by omega
              go_wp2
              go_quiet ((first | (go_at_call 12; refine Calls.quiet_of_same (HAT.out _ ?_ ?_); exact HFC.out.drewN _; exact HMP.out.drewN _) | (go_at_call 15; refine Calls.quiet_of_same (HLT.out _ ?_ ?_); exact Cp.drewN HK1.out _; exact Cp.drewN HK2.out _)))
              go_wp2
              go_roundw
              case rel => exact ⟨m + 1, by omega, by go_num, HFC.out.drewN _, HMP.out.drewN _, below_drewN HB.out _⟩
              case measure => simp [intOf]; omega
            · have hmk : m = k := by omega
              subst hmk
              go_wp2
              go_ret
              exact ⟨rfl, HB3.out.trans (HB.out.mono HB3.out.size)⟩

end Go.Proofs.Ytiihgamhmflphaa.fnSetLabelPcLastWriteWins
