/- The premise of the laws on blocks. Printed by mkblk.py. -/
import Derived.Test.YtiihgamhmflphaaFmtBlkPre116
import Derived.Deep.Cut
namespace Go.Proofs.YtiihgamhmflphaaFmt
open Go.RowKit Go.Maps
set_option linter.unusedVariables false

set_option maxHeartbeats 40000000 in
set_option maxRecDepth 100000 in
theorem blockPrem_any (a0 : Option Addr) (n0 c0 : Nat) (first : Int) (a2 : Option Addr) (n2 c2 : Nat) (z2 : List ByteArray) (a3 : Option Addr) (n3 c3 : Nat) (z3 : List Int) (a4 : Option Addr) (n4 c4 : Nat) (z4 : List Int) (gv pv bv : Int) (a8 : Option Addr) (n8 c8 : Nat) (z8 : List ByteArray) (a9 : Option Addr) (n9 c9 : Nat) (z9 : List Int) (rB rP : Bool) (w : World) (h : IsStrs w a2 n2 c2 z2) (hr3 : IsRow .i64 w a3 n3 c3 z3) (hr4 : IsRow .i64 w a4 n4 c4 z4) (h' : IsStrs w a8 n8 c8 z8) (hr9 : IsRow .i64 w a9 n9 c9 z9) (h0 : n0 ≤ 1048576) (h2 : n2 ≤ 1048576) (h3 : n3 ≤ 1048576) (h4 : n4 ≤ 1048576) (h8 : n8 ≤ 1048576) (h9 : n9 ≤ 1048576) (hs : ∀ i, i < n2 → (z2.getD i ByteArray.empty).size ≤ 1048576) (hs8 : ∀ i, i < n8 → (z8.getD i ByteArray.empty).size ≤ 1048576) :
    Calls Tryf.prog 22 #[.slice a0 n0 c0, .int .i64 first, .slice a2 n2 c2, .slice a3 n3 c3, .slice a4 n4 c4, .int .i64 gv, .int .i64 pv, .int .i64 bv, .slice a8 n8 c8, .slice a9 n9 c9, .bool rB, .bool rP] w
      (PremQ (OkB n0 first n2 n3 n4 (fun i => z2.getD i ByteArray.empty) (fun i => z3.getD i 0) (fun i => z4.getD i 0) gv pv bv n8 n9 (fun i => z8.getD i ByteArray.empty) (fun i => z9.getD i 0) rB rP) (jsf first.toNat (fun i => z8.getD i ByteArray.empty) (fun i => z2.getD i ByteArray.empty) n8 n2) n2 w) := by
  have HY := Lib.hid (blockBytes_any a0 n0 c0 a2 n2 c2 z2 a3 n3 c3 a4 n4 c4 a8 n8 c8 z8 a9 n9 c9 w h h' h0 h2 h3 h4 h8 h9 hs hs8)
  have R2 := Lib.hid h
  have R3 := Lib.hid hr3
  have R4 := Lib.hid hr4
  have R8 := Lib.hid h'
  have R9 := Lib.hid hr9
  clear h hr3 hr4 h' hr9 hs hs8
  go_enter Tryf.func22, Tryf.ntmps22
  go_wp2_with fail
  refine HY.out.mono ?_; rintro e w1 ⟨t, rfl, rfl, ht⟩
  by_cases hc1 : 1048576 < t
  · go_wp2
    go_ret2
    exact ⟨false, _, rfl, Below.refl _ _, by simp⟩
  clear ht
  by_cases hc2 : 4096 < n2
  · go_wp2
    go_ret2
    exact ⟨false, _, rfl, Below.refl _ _, by simp⟩
  by_cases hc3 : 4096 < n8
  · go_wp2
    go_ret2
    exact ⟨false, _, rfl, Below.refl _ _, by simp⟩
  by_cases he0 : n3 = n2
  case neg =>
    have hq : ¬ ((n3 : Int) = (n2 : Int)) := by omega
    go_wp2
    go_ret2
    exact ⟨false, _, rfl, Below.refl _ _, by simp⟩
  subst he0
  by_cases he1 : n4 = n3
  case neg =>
    have hq : ¬ ((n4 : Int) = (n3 : Int)) := by omega
    go_wp2
    go_ret2
    exact ⟨false, _, rfl, Below.refl _ _, by simp⟩
  subst he1
  by_cases he2 : n9 = n8
  case neg =>
    have hq : ¬ ((n9 : Int) = (n8 : Int)) := by omega
    go_wp2
    go_ret2
    exact ⟨false, _, rfl, Below.refl _ _, by simp⟩
  subst he2
  by_cases hc4 : first < 0
  · go_wp2
    go_ret2
    exact ⟨false, _, rfl, Below.refl _ _, by simp⟩
  by_cases hc5 : (n4 : Int) < first
  · go_wp2
    go_ret2
    exact ⟨false, _, rfl, Below.refl _ _, by simp⟩
  obtain ⟨fs, rfl⟩ := Int.eq_ofNat_of_zero_le (show 0 ≤ first by omega)
  by_cases hg1 : gv < 0
  · go_wp2
    go_ret2
    exact ⟨false, _, rfl, Below.refl _ _, by simp⟩
  by_cases hg2 : 4096 < gv
  · go_wp2
    go_ret2
    exact ⟨false, _, rfl, Below.refl _ _, by simp⟩
  by_cases hp1 : pv < 0
  · go_wp2
    go_ret2
    exact ⟨false, _, rfl, Below.refl _ _, by simp⟩
  by_cases hp2 : 4096 < pv
  · go_wp2
    go_ret2
    exact ⟨false, _, rfl, Below.refl _ _, by simp⟩
  by_cases hb1 : bv < 0
  · go_wp2
    go_ret2
    exact ⟨false, _, rfl, Below.refl _ _, by simp⟩
  by_cases hb2 : 4096 < bv
  · go_wp2
    go_ret2
    exact ⟨false, _, rfl, Below.refl _ _, by simp⟩
  obtain ⟨gn, rfl⟩ := Int.eq_ofNat_of_zero_le (show 0 ≤ gv by omega)
  obtain ⟨pn, rfl⟩ := Int.eq_ofNat_of_zero_le (show 0 ≤ pv by omega)
  go_upto_region 13 with fail
  obtain ⟨act, hact⟩ : ∃ a : Int, a = (gn : Int) + (pn : Int) := ⟨_, rfl⟩
  rw [← hact]
  have HACT := Lib.hid hact
  have hact0 : 0 ≤ act ∧ act ≤ 8192 := by omega
  clear hact
  have hmk := makeInts n4 (by omega)
  generalize hmc : (List.replicate n4 (Value.int .i64 0)).toArray = mc at *
  have HR0 := Lib.hid (⟨mc, heap_alloc_new _ _, by rw [← hmc]; simp, fun i hi => absurd hi (by omega)⟩ : RowV 3 (fun _ => .int .i64 (-1)) (w1.alloc (.cells mc 3)) w1.heap.size n4 0)
  have HB0 := Lib.hid ((Below.refl w1.heap.size w1).alloc (Nat.le_refl _) (.cells mc 3))
  clear hmc
  go_wp2_with fail
  obtain ⟨JS, hJS0⟩ : ∃ g, g = w1.heap.size := ⟨_, rfl⟩
  rw [← hJS0] at HR0
  rw [← hJS0]
  have hJS : w1.heap.size ≤ JS := by omega
  clear hmk hJS0
  go_loopw [29] (fun i wr => ∃ k : Nat, k ≤ n4 ∧ i = .int .i64 k ∧ RowV 3 (fun _ => .int .i64 (-1)) wr JS n4 k ∧ Below w1.heap.size w1 wr) (fun i _ => n4 - (intOf i).toNat)
  case atStart => exact ⟨0, by omega, rfl, HR0.out, HB0.out⟩
  case round =>
    obtain ⟨k, hk, rfl, hrv, hb⟩ := hrel
    have HRV := Lib.hid hrv
    have HBV := Lib.hid hb
    by_cases hkl : k < n4
    · obtain ⟨⟨v0, r3⟩, r4⟩ := hrv.room hkl
      clear hrv hb
      have b1 : (0 : Int) ≤ (k : Int) := by omega
      have b2 : (k : Int) < (n4 : Int) := by omega
      go_wp2
      go_roundw
      case rel => exact ⟨k + 1, by omega, by go_num, HRV.out.set hkl rfl, HBV.out.setCell (p := ⟨JS, k, none⟩) hJS _⟩
      case measure => simp [intOf]; omega
    · have hkk : k = n4 := by omega
      subst hkk
      clear hrv hb
      obtain ⟨n4, rfl⟩ : ∃ n, n = k := ⟨_, rfl⟩
      go_wp2_with fail
      go_loopw [30, 31, 32, 33] (fun i _ _ _ wr => ∃ k : Nat, fs ≤ k ∧ k ≤ n4 ∧ i = .int .i64 k ∧ RowV 3 (jsf fs (fun i => z8.getD i ByteArray.empty) (fun i => z2.getD i ByteArray.empty) n9 k) wr JS n4 n4 ∧ Below w1.heap.size w1 wr ∧ ∀ i, fs ≤ i → i < k → PBk act (z4.getD i 0) (nAct act (z4.getD i 0)) (z3.getD i 0) n0 rB rP (flx (fun i => z8.getD i ByteArray.empty) (z2.getD i ByteArray.empty) n9) (fun i => z9.getD i 0)) (fun i _ _ _ _ => n4 - (intOf i).toNat)
      case atStart => exact ⟨fs, by omega, by omega, rfl, HRV.out.same (fun j => by unfold jsf; rw [if_neg (by omega)]), HBV.out, fun i h1 h2 => absurd h2 (by omega)⟩
      case round =>
        obtain ⟨k, hfk, hk, rfl, hrv, hb, hall⟩ := hrel
        have HRV := Lib.hid hrv
        have HBV := Lib.hid hb
        have HALL := Lib.hid hall
        clear hall
        by_cases hkl : k < n4
        · obtain ⟨g2, o2, e2, k2⟩ := InRow.cells R2.out (by omega)
          obtain ⟨g3, o3, e3, k3⟩ := InRow.cells R3.out (by omega)
          obtain ⟨g4, o4, e4, k4⟩ := InRow.cells R4.out (by omega)
          have d2 : wr.cell? ⟨g2, o2 + k, none⟩ = some (.string (z2.getD k ByteArray.empty)) := cell_later hb (k2 k hkl)
          have c3 : (wr.setCell ⟨JS, k, none⟩ (.int .i64 (flv (fun i => z8.getD i ByteArray.empty) (z2.getD k ByteArray.empty) n9))).cell? ⟨g3, o3 + k, none⟩ = some (.int .i64 (z3.getD k 0)) := cell_above hJS (World.block_lt_of_cell? _ _ (k3 k hkl)) (cell_later hb (k3 k hkl))
          have c4 : (wr.setCell ⟨JS, k, none⟩ (.int .i64 (flv (fun i => z8.getD i ByteArray.empty) (z2.getD k ByteArray.empty) n9))).cell? ⟨g4, o4 + k, none⟩ = some (.int .i64 (z4.getD k 0)) := cell_above hJS (World.block_lt_of_cell? _ _ (k4 k hkl)) (cell_later hb (k4 k hkl))
          have HK9 := Lib.hid (show ∀ j, j < n9 → ∃ g9 o9, a9 = some ⟨g9, o9, none⟩ ∧ (wr.setCell ⟨JS, k, none⟩ (.int .i64 (flv (fun i => z8.getD i ByteArray.empty) (z2.getD k ByteArray.empty) n9))).cell? ⟨g9, o9 + j, none⟩ = some (.int .i64 (z9.getD j 0)) from fun j hj => by
            obtain ⟨g9, o9, e9, k9⟩ := InRow.cells R9.out (by omega)
            exact ⟨g9, o9, e9, cell_above hJS (World.block_lt_of_cell? _ _ (k9 j hj)) (cell_later hb (k9 j hj))⟩)
          subst e2 e3 e4
          have HFL := Lib.hid (firstLabel_any a8 n9 c8 z8 (z2.getD k ByteArray.empty) wr (InRow.keep R8.out hb) (by omega))
          have HMN := fun (v : World) => min_any (z4.getD k 0) act v
          have HMN' := Lib.hid HMN
          have b1 : (0 : Int) ≤ (k : Int) := by omega
          have b2 : (k : Int) < (n4 : Int) := by omega
          obtain ⟨⟨v0, r3⟩, r4⟩ := hrv.room hkl
          clear hrv hb k2 k3 k4 HMN
          have HRN := Lib.hid (HRV.out.upd (f' := jsf fs (fun i => z8.getD i ByteArray.empty) (fun i => z2.getD i ByteArray.empty) n9 (k + 1)) (v := .int .i64 (flv (fun i => z8.getD i ByteArray.empty) (z2.getD k ByteArray.empty) n9)) hkl (jsf_at (fs := fs) (k := k) (J := n9) (lns := fun i => z8.getD i ByteArray.empty) (ns := fun i => z2.getD i ByteArray.empty) hfk).symm (fun j hj => jsf_other hj))
          have HBN := Lib.hid (HBV.out.setCell (p := ⟨JS, k, none⟩) hJS (.int .i64 (flv (fun i => z8.getD i ByteArray.empty) (z2.getD k ByteArray.empty) n9)))
          obtain ⟨f, hf⟩ : ∃ f, flx (fun i => z8.getD i ByteArray.empty) (z2.getD k ByteArray.empty) n9 = f := ⟨_, rfl⟩
          have HF := Lib.hid hf.symm
          generalize hjv : flv (fun i => z8.getD i ByteArray.empty) (z2.getD k ByteArray.empty) n9 = jv at *
          have HJV := Lib.hid hjv
          clear hf hjv
          go_wp2_with fail
          refine HFL.out.mono ?_; rintro e u2 ⟨rfl, rfl⟩
          go_upto_region 23 with fail
          generalize u2.setCell ⟨JS, k, none⟩ (.int .i64 jv) = ws at *
          go_wp2_with fail
          refine (HMN'.out _).mono ?_; rintro e u3 ⟨rfl, rfl⟩
          clear HMN' HFL d2 r3 r4
          generalize hx : z4.getD k 0 = x at *
          have HX := Lib.hid hx
          generalize hef : nAct act x = ef at *
          have HEF := Lib.hid hef
          generalize hq : z3.getD k 0 = q at *
          have HQ := Lib.hid hq
          clear hx hef hq
          go_upto_region 25 with fail
          cases hfe : f with
          | none =>
            have hjv : jv = -1 := HJV.out.symm.trans (flv_none (HF.out.symm.trans hfe))
            have HFN := Lib.hid hfe
            clear hfe
            subst hjv
            by_cases ha : act < x
            · by_cases hB : rB = true
              · by_cases h255 : 255 < act
                · go_wp2
                  go_ret2
                  exact ⟨false, _, rfl, HBN.out, by simp⟩
                go_upto_region 29 with fail
                go_upto_region 38 with fail
                by_cases hp1 : q < 1
                · go_wp2
                  go_ret2
                  exact ⟨false, _, rfl, HBN.out, by simp⟩
                by_cases hp2 : (n0 : Int) < q
                · go_wp2
                  go_ret2
                  exact ⟨false, _, rfl, HBN.out, by simp⟩
                have hpk : PBk act x ef q n0 rB rP f (fun i => z9.getD i 0) := ⟨fun _ _ => ⟨by omega, by omega, by omega⟩, fun j' hj' => by rw [HFN.out] at hj'; cases hj'⟩
                have HPK := Lib.hid hpk
                clear hpk
                go_wp2
                go_roundw
                case rel => exact ⟨k + 1, by omega, by omega, by go_num, HRN.out, HBN.out, fun i h1 h2 => by
                  by_cases e : i = k
                  · subst e
                    rw [HX.out, HEF.out, HQ.out, ← HF.out]
                    exact HPK.out
                  · exact HALL.out i h1 (by omega)⟩
                case measure => simp [intOf]; omega
              have hB2 : rB = false := by simpa using hB
              go_upto_region 29 with fail
              go_upto_region 38 with fail
              have hpk : PBk act x ef q n0 rB rP f (fun i => z9.getD i 0) := ⟨fun _ g2 => absurd g2 hB, fun j' hj' => by rw [HFN.out] at hj'; cases hj'⟩
              have HPK := Lib.hid hpk
              clear hpk
              go_wp2
              go_roundw
              case rel => exact ⟨k + 1, by omega, by omega, by go_num, HRN.out, HBN.out, fun i h1 h2 => by
                by_cases e : i = k
                · subst e
                  rw [HX.out, HEF.out, HQ.out, ← HF.out]
                  exact HPK.out
                · exact HALL.out i h1 (by omega)⟩
              case measure => simp [intOf]; omega
            go_upto_region 29 with fail
            go_upto_region 38 with fail
            have hpk : PBk act x ef q n0 rB rP f (fun i => z9.getD i 0) := ⟨fun g1 _ => absurd g1 ha, fun j' hj' => by rw [HFN.out] at hj'; cases hj'⟩
            have HPK := Lib.hid hpk
            clear hpk
            go_wp2
            go_roundw
            case rel => exact ⟨k + 1, by omega, by omega, by go_num, HRN.out, HBN.out, fun i h1 h2 => by
              by_cases e : i = k
              · subst e
                rw [HX.out, HEF.out, HQ.out, ← HF.out]
                exact HPK.out
              · exact HALL.out i h1 (by omega)⟩
            case measure => simp [intOf]; omega
          | some j =>
            have hj := (flx_lt (HF.out.symm.trans hfe)).1
            have hjv : jv = (j : Int) := HJV.out.symm.trans (flv_some (HF.out.symm.trans hfe))
            have HFN := Lib.hid hfe
            clear hfe
            subst hjv
            obtain ⟨g9, o9, e9, c9⟩ := HK9.out j hj
            subst e9
            generalize hl : z9.getD j 0 = l at *
            have HL := Lib.hid hl
            clear hl
            have b3 : (0 : Int) ≤ (j : Int) := by omega
            have b4 : (j : Int) < (n9 : Int) := by omega
            by_cases ha : act < x
            · by_cases hB : rB = true
              · by_cases h255 : 255 < act
                · go_wp2
                  go_ret2
                  exact ⟨false, _, rfl, HBN.out, by simp⟩
                go_upto_region 29 with fail
                by_cases hx1 : ef < l
                · go_wp2
                  go_ret2
                  exact ⟨false, _, rfl, HBN.out, by simp⟩
                go_upto_region 32 with fail
                by_cases hx2 : q < 0
                · go_wp2
                  go_ret2
                  exact ⟨false, _, rfl, HBN.out, by simp⟩
                by_cases hx3 : (n0 : Int) ≤ q
                · go_wp2
                  go_ret2
                  exact ⟨false, _, rfl, HBN.out, by simp⟩
                go_upto_region 34 with fail
                by_cases hx4 : l < ef
                · by_cases hP : rP = true
                  · go_upto_region 36 with fail
                    by_cases hy1 : l < 0
                    · go_wp2
                      go_ret2
                      exact ⟨false, _, rfl, HBN.out, by simp⟩
                    by_cases hy2 : 255 < l
                    · go_wp2
                      go_ret2
                      exact ⟨false, _, rfl, HBN.out, by simp⟩
                    go_upto_region 38 with fail
                    by_cases hp1 : q < 1
                    · go_wp2
                      go_ret2
                      exact ⟨false, _, rfl, HBN.out, by simp⟩
                    have hp2 : ¬ (n0 : Int) < q := by omega
                    have hpk : PBk act x ef q n0 rB rP f (fun i => z9.getD i 0) := ⟨fun _ _ => ⟨by omega, by omega, by omega⟩, fun j' hj' => by (rw [HFN.out] at hj'; injection hj' with e; subst e; show z9.getD j 0 ≤ ef ∧ 0 ≤ q ∧ q < (n0 : Int) ∧ (z9.getD j 0 < ef → rP = true → 0 ≤ z9.getD j 0 ∧ z9.getD j 0 ≤ 255 ∧ 1 ≤ q); rw [HL.out]; exact ⟨by omega, by omega, by omega, fun _ _ => ⟨by omega, by omega, by omega⟩⟩)⟩
                    have HPK := Lib.hid hpk
                    clear hpk
                    go_wp2
                    go_roundw
                    case rel => exact ⟨k + 1, by omega, by omega, by go_num, HRN.out, HBN.out, fun i h1 h2 => by
                      by_cases e : i = k
                      · subst e
                        rw [HX.out, HEF.out, HQ.out, ← HF.out]
                        exact HPK.out
                      · exact HALL.out i h1 (by omega)⟩
                    case measure => simp [intOf]; omega
                  have hP2 : rP = false := by simpa using hP
                  go_upto_region 38 with fail
                  by_cases hp1 : q < 1
                  · go_wp2
                    go_ret2
                    exact ⟨false, _, rfl, HBN.out, by simp⟩
                  have hp2 : ¬ (n0 : Int) < q := by omega
                  have hpk : PBk act x ef q n0 rB rP f (fun i => z9.getD i 0) := ⟨fun _ _ => ⟨by omega, by omega, by omega⟩, fun j' hj' => by (rw [HFN.out] at hj'; injection hj' with e; subst e; show z9.getD j 0 ≤ ef ∧ 0 ≤ q ∧ q < (n0 : Int) ∧ (z9.getD j 0 < ef → rP = true → 0 ≤ z9.getD j 0 ∧ z9.getD j 0 ≤ 255 ∧ 1 ≤ q); rw [HL.out]; exact ⟨by omega, by omega, by omega, fun _ g2 => absurd g2 hP⟩)⟩
                  have HPK := Lib.hid hpk
                  clear hpk
                  go_wp2
                  go_roundw
                  case rel => exact ⟨k + 1, by omega, by omega, by go_num, HRN.out, HBN.out, fun i h1 h2 => by
                    by_cases e : i = k
                    · subst e
                      rw [HX.out, HEF.out, HQ.out, ← HF.out]
                      exact HPK.out
                    · exact HALL.out i h1 (by omega)⟩
                  case measure => simp [intOf]; omega
                go_upto_region 38 with fail
                by_cases hp1 : q < 1
                · go_wp2
                  go_ret2
                  exact ⟨false, _, rfl, HBN.out, by simp⟩
                have hp2 : ¬ (n0 : Int) < q := by omega
                have hpk : PBk act x ef q n0 rB rP f (fun i => z9.getD i 0) := ⟨fun _ _ => ⟨by omega, by omega, by omega⟩, fun j' hj' => by (rw [HFN.out] at hj'; injection hj' with e; subst e; show z9.getD j 0 ≤ ef ∧ 0 ≤ q ∧ q < (n0 : Int) ∧ (z9.getD j 0 < ef → rP = true → 0 ≤ z9.getD j 0 ∧ z9.getD j 0 ≤ 255 ∧ 1 ≤ q); rw [HL.out]; exact ⟨by omega, by omega, by omega, fun g1 _ => absurd g1 hx4⟩)⟩
                have HPK := Lib.hid hpk
                clear hpk
                go_wp2
                go_roundw
                case rel => exact ⟨k + 1, by omega, by omega, by go_num, HRN.out, HBN.out, fun i h1 h2 => by
                  by_cases e : i = k
                  · subst e
                    rw [HX.out, HEF.out, HQ.out, ← HF.out]
                    exact HPK.out
                  · exact HALL.out i h1 (by omega)⟩
                case measure => simp [intOf]; omega
              have hB2 : rB = false := by simpa using hB
              go_upto_region 29 with fail
              by_cases hx1 : ef < l
              · go_wp2
                go_ret2
                exact ⟨false, _, rfl, HBN.out, by simp⟩
              go_upto_region 32 with fail
              by_cases hx2 : q < 0
              · go_wp2
                go_ret2
                exact ⟨false, _, rfl, HBN.out, by simp⟩
              by_cases hx3 : (n0 : Int) ≤ q
              · go_wp2
                go_ret2
                exact ⟨false, _, rfl, HBN.out, by simp⟩
              go_upto_region 34 with fail
              by_cases hx4 : l < ef
              · by_cases hP : rP = true
                · go_upto_region 36 with fail
                  by_cases hy1 : l < 0
                  · go_wp2
                    go_ret2
                    exact ⟨false, _, rfl, HBN.out, by simp⟩
                  by_cases hy2 : 255 < l
                  · go_wp2
                    go_ret2
                    exact ⟨false, _, rfl, HBN.out, by simp⟩
                  go_upto_region 38 with fail
                  by_cases hp1 : q < 1
                  · go_wp2
                    go_ret2
                    exact ⟨false, _, rfl, HBN.out, by simp⟩
                  have hp2 : ¬ (n0 : Int) < q := by omega
                  have hpk : PBk act x ef q n0 rB rP f (fun i => z9.getD i 0) := ⟨fun _ g2 => absurd g2 hB, fun j' hj' => by (rw [HFN.out] at hj'; injection hj' with e; subst e; show z9.getD j 0 ≤ ef ∧ 0 ≤ q ∧ q < (n0 : Int) ∧ (z9.getD j 0 < ef → rP = true → 0 ≤ z9.getD j 0 ∧ z9.getD j 0 ≤ 255 ∧ 1 ≤ q); rw [HL.out]; exact ⟨by omega, by omega, by omega, fun _ _ => ⟨by omega, by omega, by omega⟩⟩)⟩
                  have HPK := Lib.hid hpk
                  clear hpk
                  go_wp2
                  go_roundw
                  case rel => exact ⟨k + 1, by omega, by omega, by go_num, HRN.out, HBN.out, fun i h1 h2 => by
                    by_cases e : i = k
                    · subst e
                      rw [HX.out, HEF.out, HQ.out, ← HF.out]
                      exact HPK.out
                    · exact HALL.out i h1 (by omega)⟩
                  case measure => simp [intOf]; omega
                have hP2 : rP = false := by simpa using hP
                go_upto_region 38 with fail
                have hpk : PBk act x ef q n0 rB rP f (fun i => z9.getD i 0) := ⟨fun _ g2 => absurd g2 hB, fun j' hj' => by (rw [HFN.out] at hj'; injection hj' with e; subst e; show z9.getD j 0 ≤ ef ∧ 0 ≤ q ∧ q < (n0 : Int) ∧ (z9.getD j 0 < ef → rP = true → 0 ≤ z9.getD j 0 ∧ z9.getD j 0 ≤ 255 ∧ 1 ≤ q); rw [HL.out]; exact ⟨by omega, by omega, by omega, fun _ g2 => absurd g2 hP⟩)⟩
                have HPK := Lib.hid hpk
                clear hpk
                go_wp2
                go_roundw
                case rel => exact ⟨k + 1, by omega, by omega, by go_num, HRN.out, HBN.out, fun i h1 h2 => by
                  by_cases e : i = k
                  · subst e
                    rw [HX.out, HEF.out, HQ.out, ← HF.out]
                    exact HPK.out
                  · exact HALL.out i h1 (by omega)⟩
                case measure => simp [intOf]; omega
              go_upto_region 38 with fail
              have hpk : PBk act x ef q n0 rB rP f (fun i => z9.getD i 0) := ⟨fun _ g2 => absurd g2 hB, fun j' hj' => by (rw [HFN.out] at hj'; injection hj' with e; subst e; show z9.getD j 0 ≤ ef ∧ 0 ≤ q ∧ q < (n0 : Int) ∧ (z9.getD j 0 < ef → rP = true → 0 ≤ z9.getD j 0 ∧ z9.getD j 0 ≤ 255 ∧ 1 ≤ q); rw [HL.out]; exact ⟨by omega, by omega, by omega, fun g1 _ => absurd g1 hx4⟩)⟩
              have HPK := Lib.hid hpk
              clear hpk
              go_wp2
              go_roundw
              case rel => exact ⟨k + 1, by omega, by omega, by go_num, HRN.out, HBN.out, fun i h1 h2 => by
                by_cases e : i = k
                · subst e
                  rw [HX.out, HEF.out, HQ.out, ← HF.out]
                  exact HPK.out
                · exact HALL.out i h1 (by omega)⟩
              case measure => simp [intOf]; omega
            go_upto_region 29 with fail
            by_cases hx1 : ef < l
            · go_wp2
              go_ret2
              exact ⟨false, _, rfl, HBN.out, by simp⟩
            go_upto_region 32 with fail
            by_cases hx2 : q < 0
            · go_wp2
              go_ret2
              exact ⟨false, _, rfl, HBN.out, by simp⟩
            by_cases hx3 : (n0 : Int) ≤ q
            · go_wp2
              go_ret2
              exact ⟨false, _, rfl, HBN.out, by simp⟩
            go_upto_region 34 with fail
            by_cases hx4 : l < ef
            · by_cases hP : rP = true
              · go_upto_region 36 with fail
                by_cases hy1 : l < 0
                · go_wp2
                  go_ret2
                  exact ⟨false, _, rfl, HBN.out, by simp⟩
                by_cases hy2 : 255 < l
                · go_wp2
                  go_ret2
                  exact ⟨false, _, rfl, HBN.out, by simp⟩
                go_upto_region 38 with fail
                by_cases hp1 : q < 1
                · go_wp2
                  go_ret2
                  exact ⟨false, _, rfl, HBN.out, by simp⟩
                have hp2 : ¬ (n0 : Int) < q := by omega
                have hpk : PBk act x ef q n0 rB rP f (fun i => z9.getD i 0) := ⟨fun g1 _ => absurd g1 ha, fun j' hj' => by (rw [HFN.out] at hj'; injection hj' with e; subst e; show z9.getD j 0 ≤ ef ∧ 0 ≤ q ∧ q < (n0 : Int) ∧ (z9.getD j 0 < ef → rP = true → 0 ≤ z9.getD j 0 ∧ z9.getD j 0 ≤ 255 ∧ 1 ≤ q); rw [HL.out]; exact ⟨by omega, by omega, by omega, fun _ _ => ⟨by omega, by omega, by omega⟩⟩)⟩
                have HPK := Lib.hid hpk
                clear hpk
                go_wp2
                go_roundw
                case rel => exact ⟨k + 1, by omega, by omega, by go_num, HRN.out, HBN.out, fun i h1 h2 => by
                  by_cases e : i = k
                  · subst e
                    rw [HX.out, HEF.out, HQ.out, ← HF.out]
                    exact HPK.out
                  · exact HALL.out i h1 (by omega)⟩
                case measure => simp [intOf]; omega
              have hP2 : rP = false := by simpa using hP
              go_upto_region 38 with fail
              have hpk : PBk act x ef q n0 rB rP f (fun i => z9.getD i 0) := ⟨fun g1 _ => absurd g1 ha, fun j' hj' => by (rw [HFN.out] at hj'; injection hj' with e; subst e; show z9.getD j 0 ≤ ef ∧ 0 ≤ q ∧ q < (n0 : Int) ∧ (z9.getD j 0 < ef → rP = true → 0 ≤ z9.getD j 0 ∧ z9.getD j 0 ≤ 255 ∧ 1 ≤ q); rw [HL.out]; exact ⟨by omega, by omega, by omega, fun _ g2 => absurd g2 hP⟩)⟩
              have HPK := Lib.hid hpk
              clear hpk
              go_wp2
              go_roundw
              case rel => exact ⟨k + 1, by omega, by omega, by go_num, HRN.out, HBN.out, fun i h1 h2 => by
                by_cases e : i = k
                · subst e
                  rw [HX.out, HEF.out, HQ.out, ← HF.out]
                  exact HPK.out
                · exact HALL.out i h1 (by omega)⟩
              case measure => simp [intOf]; omega
            go_upto_region 38 with fail
            have hpk : PBk act x ef q n0 rB rP f (fun i => z9.getD i 0) := ⟨fun g1 _ => absurd g1 ha, fun j' hj' => by (rw [HFN.out] at hj'; injection hj' with e; subst e; show z9.getD j 0 ≤ ef ∧ 0 ≤ q ∧ q < (n0 : Int) ∧ (z9.getD j 0 < ef → rP = true → 0 ≤ z9.getD j 0 ∧ z9.getD j 0 ≤ 255 ∧ 1 ≤ q); rw [HL.out]; exact ⟨by omega, by omega, by omega, fun g1 _ => absurd g1 hx4⟩)⟩
            have HPK := Lib.hid hpk
            clear hpk
            go_wp2
            go_roundw
            case rel => exact ⟨k + 1, by omega, by omega, by go_num, HRN.out, HBN.out, fun i h1 h2 => by
              by_cases e : i = k
              · subst e
                rw [HX.out, HEF.out, HQ.out, ← HF.out]
                exact HPK.out
              · exact HALL.out i h1 (by omega)⟩
            case measure => simp [intOf]; omega
        · have hkk : k = n4 := by omega
          subst hkk
          clear hrv hb
          go_wp2
          go_ret2
          have ef : ((fs : Nat) : Int).toNat = fs := by omega
          refine ⟨true, _, rfl, HBV.out, fun _ => ⟨⟨by omega, by omega, rfl, rfl, rfl, by omega, by omega, by omega, by omega, by omega, by omega, by omega, by omega, fun i h1 h2 => ?_⟩, JS, rfl, by rw [ef]; exact HRV.out⟩⟩
          rw [← HACT.out]
          exact HALL.out i (by omega) h2

end Go.Proofs.YtiihgamhmflphaaFmt
