/- The walk of FnResolveCurrentBlockGotosPatchesExactlyAsModelled. Printed by mkblk.py. -/
import Derived.Test.YtiihgamhmflphaaFmtBlkSpec116
import Derived.Test.YtiihgamhmflphaaFmtBlkPrem116
import Derived.Test.YtiihgamhmflphaaFmtBlkBytes116
import Derived.Deep.Cut
namespace Go.Proofs.YtiihgamhmflphaaFmt.fnResolveCurrentBlockGotosPatchesExactlyAsModelled
open Go.RowKit Go.Maps
set_option linter.unusedVariables false

set_option maxHeartbeats 40000000 in
set_option maxRecDepth 100000 in
theorem walk (a0 : Option Addr) (len0 cap0 : Nat) (z0 : List Int) (a1 : Int) (a2 : Option Addr) (len2 cap2 : Nat) (z2 : List ByteArray) (a3 : Option Addr) (len3 cap3 : Nat) (z3 : List Int) (a4 : Option Addr) (len4 cap4 : Nat) (z4 : List Int) (a5 : Int) (a6 : Int) (a7 : Int) (a8 : Option Addr) (len8 cap8 : Nat) (z8 : List ByteArray) (a9 : Option Addr) (len9 cap9 : Nat) (z9 : List Int) (a10 : Bool) (a11 : Bool) (w : World) (w0 : IsRow .u32 w a0 len0 cap0 z0) (w1 : (Lit.int .i64 a1).wf = true) (w2 : IsStrs w a2 len2 cap2 z2) (w3 : IsRow .i64 w a3 len3 cap3 z3) (w4 : IsRow .i64 w a4 len4 cap4 z4) (w5 : (Lit.int .i64 a5).wf = true) (w6 : (Lit.int .i64 a6).wf = true) (w7 : (Lit.int .i64 a7).wf = true) (w8 : IsStrs w a8 len8 cap8 z8) (w9 : IsRow .i64 w a9 len9 cap9 z9) :
    Calls Tryf.prog 4 #[.slice a0 len0 cap0, .int .i64 a1, .slice a2 len2 cap2, .slice a3 len3 cap3, .slice a4 len4 cap4, .int .i64 a5, .int .i64 a6, .int .i64 a7, .slice a8 len8 cap8, .slice a9 len9 cap9, .bool a10, .bool a11] w fun e w' => e = .returned (.bool true) ∧ Below w.heap.size w w' := by
  have HBY := Lib.hid (bytesP_any a0 len0 cap0 a1 a2 len2 cap2 z2 a3 len3 cap3 a4 len4 cap4 a5 a6 a7 a8 len8 cap8 z8 a9 len9 cap9 a10 a11 w w2 w8 (InRow.len_le w0).2 (InRow.len_le w3).2 (InRow.len_le w4).2 (InRow.len_le w9).2)
  have W0 := Lib.hid w0
  have W2 := Lib.hid w2
  have W3 := Lib.hid w3
  have W4 := Lib.hid w4
  have W8 := Lib.hid w8
  have W9 := Lib.hid w9
  have Z0 := Lib.hid (InRow.len_le w0).1
  have Z2 := Lib.hid (InRow.len_le w2).1
  have Z3 := Lib.hid (InRow.len_le w3).1
  have Z4 := Lib.hid (InRow.len_le w4).1
  have Z8 := Lib.hid (InRow.len_le w8).1
  have Z9 := Lib.hid (InRow.len_le w9).1
  have hw0 : ∀ i, i < len0 → Fld.W32 ((z0.take len0).getD i 0) := fun i hi => by
    rw [getD_take _ _ _ _ hi]
    rcases w0 with ⟨_, h1, _⟩ | ⟨x, _, h1, _, h3, _, h5⟩
    · omega
    · have hl : i < z0.length := by omega
      have e : z0.getD i 0 = z0[i] := by simp [List.getD, hl]
      rw [e]
      have := h5 _ (List.getElem_mem hl)
      simpa [Lit.wf, IntKind.min, IntKind.max, IntKind.signed, IntKind.bits, Fld.W32] using this
  have HW0 := Lib.hid hw0
  have WFZ := Lib.hid (show ∀ x ∈ z0.take len0, (Lit.int .u32 x).wf = true from fun x hx => by
    rcases w0 with ⟨_, _, _, h1⟩ | ⟨y, _, _, _, _, _, h5⟩
    · rw [h1] at hx; simp at hx
    · exact h5 x (List.mem_of_mem_take hx))
  clear w0 w1 w2 w3 w4 w5 w6 w7 w8 w9 hw0
  go_enter Tryf.func4, Tryf.ntmps4
  go_wp2_with fail
  refine HBY.out.mono ?_; rintro e u0 ⟨b, rfl, rfl, hbt⟩
  cases b with
  | false =>
    go_wp2
    go_ret
    exact ⟨rfl, Below.refl _ _⟩
  | true =>
  obtain ⟨hn0, hn2, hsz, hn3, hn4, hn8, hsz8, hn9⟩ := hbt rfl
  have HSZ := Lib.hid hsz
  have HSZ8 := Lib.hid hsz8
  clear hbt HBY hsz hsz8
  go_wp2_with fail
  refine (blockBytes_any a0 len0 cap0 a2 len2 cap2 z2 a3 len3 cap3 a4 len4 cap4 a8 len8 cap8 z8 a9 len9 cap9 _ W2.out W8.out hn0 hn2 hn3 hn4 hn8 hn9 HSZ.out HSZ8.out).mono ?_; rintro e u1 ⟨t, rfl, rfl, ht⟩
  by_cases hc : 1048576 < t
  · go_wp2
    go_ret
    exact ⟨rfl, Below.refl _ _⟩
  have hl0 : len0 ≤ 262144 := by omega
  clear ht
  go_wp2_with fail
  refine (blockPrem_any a0 len0 cap0 a1 a2 len2 cap2 z2 a3 len3 cap3 z3 a4 len4 cap4 z4 a5 a6 a7 a8 len8 cap8 z8 a9 len9 cap9 z9 a10 a11 _ W2.out W3.out W4.out W8.out W9.out hn0 hn2 hn3 hn4 hn8 hn9 HSZ.out HSZ8.out).mono ?_; rintro e v0 ⟨b, pj, rfl, hb0, hok⟩
  cases b with
  | false =>
    go_wp2
    go_ret
    exact ⟨rfl, hb0⟩
  | true =>
  obtain ⟨⟨hm2, hm8, h3, h4, h9, hg0, hg1, hp0, hp1, hv0, hv1, hf0, hf1, hall⟩, JS, hpj, hjs⟩ := hok rfl
  subst h3
  subst h4
  subst h9
  subst hpj
  obtain ⟨fs, rfl⟩ := Int.eq_ofNat_of_zero_le hf0
  obtain ⟨gn, rfl⟩ := Int.eq_ofNat_of_zero_le hg0
  obtain ⟨pn, rfl⟩ := Int.eq_ofNat_of_zero_le hp0
  obtain ⟨bn, rfl⟩ := Int.eq_ofNat_of_zero_le hv0
  have hfs : fs ≤ len4 := by omega
  have efs : ((fs : Nat) : Int).toNat = fs := by omega
  rw [efs] at hall hjs
  have HALL := Lib.hid hall
  have HJS := Lib.hid hjs
  have W0' := Lib.hid (InRow.keep W0.out hb0)
  have W2' := Lib.hid (InRow.keep W2.out hb0)
  have W3' := Lib.hid (InRow.keep W3.out hb0)
  have W4' := Lib.hid (InRow.keep W4.out hb0)
  have W8' := Lib.hid (InRow.keep W8.out hb0)
  have W9' := Lib.hid (InRow.keep W9.out hb0)
  have HB0 := Lib.hid hb0
  clear hok hall W0 W2 W3 W4 W8 W9 hjs efs hb0
  have L0 := Lib.hid (show (z0.take len0).length = len0 by have := Z0.out; simp; omega)
  go_wp2_with fail
  refine (cloneU32_any a0 len0 cap0 z0 _ W0'.out (by omega)).mono ?_; rintro e v1 ⟨v, rfl, hown, hb⟩
  obtain ⟨p0, hv⟩ := own_form hown
  rw [L0.out] at hv
  subst hv
  have HQ0 := Lib.hid (own_cq 0 hown Z0.out)
  have HR1 := Lib.hid hown
  have B1 := Lib.hid hb
  clear hown hb
  go_wp2_with fail
  refine (cloneStrs_any a2 len4 cap2 z2 _ (InRow.keep W2'.out (B1.out.mono (Nat.le_refl _))) (by omega)).mono ?_; rintro e v2 ⟨v, rfl, hown, hb⟩
  obtain ⟨p2, hv⟩ := own_form hown
  rw [show (z2.take len4).length = len4 by have := Z2.out; simp; omega] at hv
  subst hv
  have HQ2 := Lib.hid (own_cq ByteArray.empty hown Z2.out)
  have HQ0 := Lib.hid (HQ0.out.below hb)
  have HR2 := Lib.hid (own_keep HR1.out fun x a hx => hb.block x (lt_of_block hx))
  have B2 := Lib.hid (B1.out.trans (hb.mono B1.out.size))
  clear hown hb
  go_wp2_with fail
  refine (cloneInts_any a3 len4 cap3 z3 _ (InRow.keep W3'.out (B2.out.mono (Nat.le_refl _))) (by omega)).mono ?_; rintro e v3 ⟨v, rfl, hown, hb⟩
  obtain ⟨p3, hv⟩ := own_form hown
  rw [show (z3.take len4).length = len4 by have := Z3.out; simp; omega] at hv
  subst hv
  have HQ3 := Lib.hid (own_cq 0 hown Z3.out)
  have HQ0 := Lib.hid (HQ0.out.below hb)
  have HQ2 := Lib.hid (HQ2.out.below hb)
  have HR3 := Lib.hid (own_keep HR2.out fun x a hx => hb.block x (lt_of_block hx))
  have B3 := Lib.hid (B2.out.trans (hb.mono B2.out.size))
  clear hown hb
  go_wp2_with fail
  refine (cloneInts_any a4 len4 cap4 z4 _ (InRow.keep W4'.out (B3.out.mono (Nat.le_refl _))) (by omega)).mono ?_; rintro e v4 ⟨v, rfl, hown, hb⟩
  obtain ⟨p4, hv⟩ := own_form hown
  rw [show (z4.take len4).length = len4 by have := Z4.out; simp; omega] at hv
  subst hv
  have HQ4 := Lib.hid (own_cq 0 hown Z4.out)
  have HQ0 := Lib.hid (HQ0.out.below hb)
  have HQ2 := Lib.hid (HQ2.out.below hb)
  have HQ3 := Lib.hid (HQ3.out.below hb)
  have HR4 := Lib.hid (own_keep HR3.out fun x a hx => hb.block x (lt_of_block hx))
  have B4 := Lib.hid (B3.out.trans (hb.mono B3.out.size))
  clear hown hb
  go_wp2_with fail
  refine (cloneStrs_any a8 len9 cap8 z8 _ (InRow.keep W8'.out (B4.out.mono (Nat.le_refl _))) (by omega)).mono ?_; rintro e v5 ⟨v, rfl, hown, hb⟩
  obtain ⟨p8, hv⟩ := own_form hown
  rw [show (z8.take len9).length = len9 by have := Z8.out; simp; omega] at hv
  subst hv
  have HQ8 := Lib.hid (own_cq ByteArray.empty hown Z8.out)
  have HQ0 := Lib.hid (HQ0.out.below hb)
  have HQ2 := Lib.hid (HQ2.out.below hb)
  have HQ3 := Lib.hid (HQ3.out.below hb)
  have HQ4 := Lib.hid (HQ4.out.below hb)
  have HR5 := Lib.hid (own_keep HR4.out fun x a hx => hb.block x (lt_of_block hx))
  have B5 := Lib.hid (B4.out.trans (hb.mono B4.out.size))
  clear hown hb
  go_wp2_with fail
  refine (cloneInts_any a9 len9 cap9 z9 _ (InRow.keep W9'.out (B5.out.mono (Nat.le_refl _))) (by omega)).mono ?_; rintro e v6 ⟨v, rfl, hown, hb⟩
  obtain ⟨p9, hv⟩ := own_form hown
  rw [show (z9.take len9).length = len9 by have := Z9.out; simp; omega] at hv
  subst hv
  have HQ9 := Lib.hid (own_cq 0 hown Z9.out)
  have HQ0 := Lib.hid (HQ0.out.below hb)
  have HQ2 := Lib.hid (HQ2.out.below hb)
  have HQ3 := Lib.hid (HQ3.out.below hb)
  have HQ4 := Lib.hid (HQ4.out.below hb)
  have HQ8 := Lib.hid (HQ8.out.below hb)
  have HR6 := Lib.hid (own_keep HR5.out fun x a hx => hb.block x (lt_of_block hx))
  have B6 := Lib.hid (B5.out.trans (hb.mono B5.out.size))
  clear hown hb
  go_wp2_with fail
  refine (cloneU32_any p0 len0 len0 (z0.take len0) _ (row_own HR6.out L0.out WFZ.out (by unfold maxLen; omega)) (by omega)).mono ?_; rintro e vw ⟨v, rfl, hown, hbw⟩
  obtain ⟨pw, hv⟩ := own_form hown
  rw [List.take_of_length_le (by rw [L0.out]; omega), L0.out] at hv
  rw [List.take_of_length_le (by rw [L0.out]; omega)] at hown
  subst hv
  have QA0 := Lib.hid HQ0.out
  have QA3 := Lib.hid HQ3.out
  have QA4 := Lib.hid HQ4.out
  have QA9 := Lib.hid HQ9.out
  have HQ2 := Lib.hid (HQ2.out.below hbw)
  have HQ3 := Lib.hid (HQ3.out.below hbw)
  have HQ4 := Lib.hid (HQ4.out.below hbw)
  have HQ8 := Lib.hid (HQ8.out.below hbw)
  have HQ9 := Lib.hid (HQ9.out.below hbw)
  have BVW := Lib.hid hbw
  have HRW := Lib.hid hown
  have BW := Lib.hid (B6.out.trans (hbw.mono B6.out.size))
  have JS6 := Lib.hid (HJS.out.keep (B6.out.block JS HJS.out.lt))
  obtain ⟨base, hbase⟩ : ∃ b, b = v6.heap.size := ⟨_, rfl⟩
  rw [← hbase] at HRW
  have hbs : base ≤ vw.heap.size := by rw [hbase]; exact hbw.size
  have HBASE := Lib.hid hbase
  clear hown hbw hbase
  go_upto_region 18 with fail
  obtain ⟨act, hact⟩ : ∃ a : Int, a = (gn : Int) + (pn : Int) := ⟨_, rfl⟩
  rw [← hact]
  have HACT := Lib.hid hact
  have hact0 : 0 ≤ act ∧ act ≤ 8192 := by omega
  clear hact
  go_wp2_with fail
  refine (buildB_any base len4 fs (z0.take len0) (fun i => z2.getD i ByteArray.empty) (fun i => z3.getD i 0) (fun i => z4.getD i 0) pw (fun i => z8.getD i ByteArray.empty) (fun i => z9.getD i 0) len0 len9 gn pn bn p2 p3 p4 p8 p9 a10 a11 _ L0.out hbs HRW.out (by omega) (by omega) (by omega) (by omega) (by omega) (by omega) (fun j hj => Nat.le_trans (HSZ8.out j (by omega)) (by unfold maxLen; omega)) HQ2.out HQ3.out HQ4.out HQ8.out HQ9.out).mono ?_; rintro e v7 ⟨F, C, Bk, U, h, G, P, Q, Lm, GS, E, rfl, hs, henv, hlb, hgs, hG, hh, hLU, hE, hgr, hb⟩
  have HS := Lib.hid hs
  have HENV := Lib.hid henv
  have HLB := Lib.hid hlb
  have HGS := Lib.hid hgs
  have HG := Lib.hid hG
  have HH := Lib.hid hh
  have HGR := Lib.hid hgr
  have hEb : base ≤ E := Nat.le_trans hbs hE
  have BX7 := Lib.hid hb
  have B7 := Lib.hid (BW.out.trans (hb.mono BW.out.size))
  have HNM := Lib.hid (show ∀ i, i < len4 → ((fun i => z2.getD i ByteArray.empty) i).size ≤ maxLen from fun i hi => Nat.le_trans (HSZ.out i (by omega)) (by unfold maxLen; omega))
  have HWS := Lib.hid (show Ws (z0.take len0) from fun i hi => HW0.out i (by rw [← L0.out]; exact hi))
  have HPRE := Lib.hid (show ∀ i, fs ≤ i → i < len4 → PBk ((gn : Int) + (pn : Int)) ((fun i => z4.getD i 0) i) (nAct ((gn : Int) + (pn : Int)) ((fun i => z4.getD i 0) i)) ((fun i => z3.getD i 0) i) (z0.take len0).length a10 a11 (flx (fun i => z8.getD i ByteArray.empty) ((fun i => z2.getD i ByteArray.empty) i) len9) (fun i => z9.getD i 0) from fun i h1 h2 => by
    rw [L0.out]
    exact HALL.out i h1 h2)
  clear hs henv hlb hgs hG hh hgr hb hE
  go_wp2_with fail
  refine (resolve1_any F C Bk U pw h base len4 fs (z0.take len0) (fun i => z2.getD i ByteArray.empty) (fun i => z3.getD i 0) (fun i => z4.getD i 0) E G GS P Q Lm pn gn a10 a11 (fun i => z8.getD i ByteArray.empty) (fun i => z9.getD i 0) len9 _ HS.out (HENV.out) HLB.out HGS.out HG.out hLU hEb hfs (by omega) (by omega) (by omega) HNM.out HPRE.out HWS.out (by rw [L0.out]; omega) HGR.out).mono ?_; rintro e v8 ⟨rfl, hs, henv, hlb, hgs, hgr, hb⟩
  have HS8 := Lib.hid hs
  have HENV8 := Lib.hid henv
  have HLB8 := Lib.hid hlb
  have HGS8 := Lib.hid hgs
  have HGR8 := Lib.hid hgr
  have BX8 := Lib.hid (BVW.out.trans ((BX7.out.mono BVW.out.size).trans (by rw [← HBASE.out]; exact hb)))
  have B8 := Lib.hid (B7.out.trans (hb.mono (by rw [HBASE.out]; exact B6.out.size)))
  have LC := Lib.hid (show (blkC h (fun i => z2.getD i ByteArray.empty) (fun i => z8.getD i ByteArray.empty) len9 (fun i => z3.getD i 0) (fun i => z4.getD i 0) (fun i => z9.getD i 0) ((gn : Int) + (pn : Int)) a10 a11 fs (z0.take len0) (len4 - fs)).length = len0 by rw [blkC_len]; exact L0.out)
  have HP1 := Lib.hid (fun i => blkH_some (ns := (fun i => z2.getD i ByteArray.empty)) (lns := (fun i => z8.getD i ByteArray.empty)) (J := len9) HH.out hfs i)
  have HN1 := Lib.hid (fun i (hi : i < len4) => blkN_eq (nu := (fun i => z4.getD i 0)) (act := ((gn : Int) + (pn : Int))) HH.out hfs hi)
  have HPASS := Lib.hid (fun i => pass2 (ns := (fun i => z2.getD i ByteArray.empty)) (lns := (fun i => z8.getD i ByteArray.empty)) (J := len9) (nu := (fun i => z4.getD i 0)) (act := ((gn : Int) + (pn : Int))) HH.out hfs i)
  have HSP := Lib.hid (fun p hp => blkC_spec (cs := z0.take len0) (lns := (fun i => z8.getD i ByteArray.empty)) (ns := (fun i => z2.getD i ByteArray.empty)) (J := len9) (ps := (fun i => z3.getD i 0)) (nu := (fun i => z4.getD i 0)) (lN := (fun i => z9.getD i 0)) (act := ((gn : Int) + (pn : Int))) (rB := a10) (rP := a11) HH.out HPRE.out (by omega) HWS.out (by omega) p hp (len4 - fs) (by omega))
  rw [show fs + (len4 - fs) = len4 by omega, L0.out] at HSP
  clear hs henv hlb hgs hgr hb HS HENV HLB HGS HGR
  have ea := HACT.out
  rw [← ea] at HN1 HSP HALL HS8 HGS8 LC
  obtain ⟨EA, hEA⟩ : ∃ f, f = eA fs (fun i => flx (fun i => z8.getD i ByteArray.empty) ((fun i => z2.getD i ByteArray.empty) i) len9) (fun i => z3.getD i 0) (fun i => z4.getD i 0) (fun i => z9.getD i 0) act a10 a11 := ⟨_, rfl⟩
  obtain ⟨EH, hEH⟩ : ∃ f, f = eH fs (fun i => flx (fun i => z8.getD i ByteArray.empty) ((fun i => z2.getD i ByteArray.empty) i) len9) (fun i => z3.getD i 0) := ⟨_, rfl⟩
  obtain ⟨ES, hES⟩ : ∃ f, f = eS fs (fun i => flx (fun i => z8.getD i ByteArray.empty) ((fun i => z2.getD i ByteArray.empty) i) len9) (fun i => z3.getD i 0) := ⟨_, rfl⟩
  rw [← hEA, ← hEH, ← hES] at HSP
  have STA := Lib.hid (show ∀ k p, fs ≤ k → EA (k + 1) p = stL (nAct act (z4.getD k 0)) (z3.getD k 0) a11 (fun i => z9.getD i 0) (flx (fun i => z8.getD i ByteArray.empty) (z2.getD k ByteArray.empty) len9) p (stA act (z4.getD k 0) (z3.getD k 0) a10 p (EA k p)) from fun k p h => by rw [hEA]; exact eA_step h)
  have STH := Lib.hid (show ∀ k p, fs ≤ k → EH (k + 1) p = stH (z3.getD k 0) (flx (fun i => z8.getD i ByteArray.empty) (z2.getD k ByteArray.empty) len9) p (EH k p) from fun k p h => by rw [hEH]; exact eH_step h)
  have STS := Lib.hid (show ∀ k p, fs ≤ k → ES (k + 1) p = stS (z3.getD k 0) (flx (fun i => z8.getD i ByteArray.empty) (z2.getD k ByteArray.empty) len9) p (ES k p) from fun k p h => by rw [hES]; exact eS_step h)
  have SKA := Lib.hid (show ∀ k p, ¬ fs ≤ k → EA (k + 1) p = EA k p from fun k p h => by rw [hEA]; exact eA_skip h)
  have SKH := Lib.hid (show ∀ k p, ¬ fs ≤ k → EH (k + 1) p = EH k p from fun k p h => by rw [hEH]; exact eH_skip h)
  have SKS := Lib.hid (show ∀ k p, ¬ fs ≤ k → ES (k + 1) p = ES k p from fun k p h => by rw [hES]; exact eS_skip h)
  have Z0A := Lib.hid (show ∀ p, EA 0 p = -1 from fun p => by rw [hEA]; rfl)
  have Z0H := Lib.hid (show ∀ p, EH 0 p = false from fun p => by rw [hEH]; rfl)
  have Z0S := Lib.hid (show ∀ p, ES 0 p = 0 from fun p => by rw [hES]; rfl)
  clear hEA hEH hES ea HPASS HPRE
  have HP1' := Lib.hid (show ∀ i, (blkH h (fun i => z2.getD i ByteArray.empty) (fun i => z8.getD i ByteArray.empty) len9 fs (len4 - fs) i).isSome = (decide (i < len4) && !(decide (fs ≤ i) && (flx (fun i => z8.getD i ByteArray.empty) (z2.getD i ByteArray.empty) len9).isSome)) from HP1.out)
  have HN1' := Lib.hid (show ∀ i, i < len4 → blkN h (fun i => z4.getD i 0) act fs (len4 - fs) i = if fs ≤ i then nAct act (z4.getD i 0) else z4.getD i 0 from HN1.out)
  have HALL' := Lib.hid (show ∀ i, fs ≤ i → i < len4 → PBk act (z4.getD i 0) (nAct act (z4.getD i 0)) (z3.getD i 0) len0 a10 a11 (flx (fun i => z8.getD i ByteArray.empty) (z2.getD i ByteArray.empty) len9) (fun i => z9.getD i 0) from HALL.out)
  clear HP1 HN1 HALL
  generalize blkH h (fun i => z2.getD i ByteArray.empty) (fun i => z8.getD i ByteArray.empty) len9 fs (len4 - fs) = h1 at *
  generalize blkN h (fun i => z4.getD i 0) act fs (len4 - fs) = n1 at *
  generalize blkC h (fun i => z2.getD i ByteArray.empty) (fun i => z8.getD i ByteArray.empty) len9 (fun i => z3.getD i 0) (fun i => z4.getD i 0) (fun i => z9.getD i 0) act a10 a11 fs (z0.take len0) (len4 - fs) = c1 at *
  have QB0 := Lib.hid (QA0.out.below BX8.out)
  have QB3 := Lib.hid (QA3.out.below BX8.out)
  have QB4 := Lib.hid (QA4.out.below BX8.out)
  have QB9 := Lib.hid (QA9.out.below BX8.out)
  have HJ8 := Lib.hid (JS6.out.keep (BX8.out.block JS JS6.out.lt))
  clear QA0 QA3 QA4 QA9 JS6 HJS HQ0 HQ2 HQ3 HQ4 HQ8 HQ9 HR1 HR2 HR3 HR4 HR5 HR6 HRW
  have hmi := makeInts len0 (by omega)
  have hmb := makeBF len0 (by omega)
  have hsz1 : (List.replicate len0 (Value.int .i64 0)).toArray.size = len0 := by simp
  have hv1 : ∀ i, i < len0 → (List.replicate len0 (Value.int .i64 0)).toArray[i]? = some (.int .i64 0) := fun i hi => by simp [hi]
  have hsz2 : (List.replicate len0 (Value.bool false)).toArray.size = len0 := by simp
  have hv2 : ∀ i, i < len0 → (List.replicate len0 (Value.bool false)).toArray[i]? = some (.bool false) := fun i hi => by simp [hi]
  generalize (List.replicate len0 (Value.int .i64 0)).toArray = mi at *
  generalize (List.replicate len0 (Value.bool false)).toArray = mb at *
  have HV1' := Lib.hid hv1
  have HV2' := Lib.hid hv2
  clear hv1 hv2
  have HRA := Lib.hid (show RowV 3 (fun _ => .int .i64 (-1)) (v8.alloc (.cells mi 3)) v8.heap.size len0 0 from ⟨_, heap_alloc_new _ _, hsz1, fun i hi => absurd hi (by omega)⟩)
  have HV1 := Lib.hid ((Below.refl v8.heap.size v8).alloc (Nat.le_refl _) (.cells mi 3))
  go_upto_region 21 with fail
  generalize v8.alloc (.cells mi 3) = va at *
  obtain ⟨A1, hA1⟩ : ∃ g, g = v8.heap.size := ⟨_, rfl⟩
  rw [← hA1] at HRA
  rw [← hA1]
  have hA1' : v8.heap.size ≤ A1 := by omega
  have hA1l := HRA.out.lt
  clear hA1
  have HRH := Lib.hid (show RowV 4 (fun p => .bool (EH 0 p)) (va.alloc (.cells mb 4)) va.heap.size len0 len0 from ⟨_, heap_alloc_new _ _, hsz2, fun i hi => (HV2'.out i hi).trans (congrArg (fun b => some (Value.bool b)) (Z0H.out i).symm)⟩)
  have HRA := Lib.hid (HRA.out.keep (w' := va.alloc (.cells mb 4)) (heap_alloc_old _ _ hA1l))
  have HV1 := Lib.hid (HV1.out.alloc HV1.out.size (.cells mb 4))
  have hva := HV1.out.size
  have hvs : v8.heap.size ≤ va.heap.size := by omega
  go_upto_region 22 with fail
  generalize va.alloc (.cells mb 4) = vb at *
  obtain ⟨A2, hA2⟩ : ∃ g, g = va.heap.size := ⟨_, rfl⟩
  rw [← hA2] at HRH
  rw [← hA2]
  have hA2' : v8.heap.size ≤ A2 := by omega
  have hA12 : A1 ≠ A2 := by omega
  have hA2l := HRH.out.lt
  have hA1l := HRA.out.lt
  clear hA2 hva hvs
  have HRS := Lib.hid (show RowV 3 (fun p => .int .i64 (ES 0 p)) (vb.alloc (.cells mi 3)) vb.heap.size len0 len0 from ⟨_, heap_alloc_new _ _, hsz1, fun i hi => (HV1'.out i hi).trans (congrArg (fun b => some (Value.int .i64 b)) (Z0S.out i).symm)⟩)
  have HRA := Lib.hid (HRA.out.keep (w' := vb.alloc (.cells mi 3)) (heap_alloc_old _ _ hA1l))
  have HRH := Lib.hid (HRH.out.keep (w' := vb.alloc (.cells mi 3)) (heap_alloc_old _ _ hA2l))
  have hvs : v8.heap.size ≤ vb.heap.size := by omega
  have HV1 := Lib.hid (HV1.out.alloc HV1.out.size (.cells mi 3))
  clear hsz1 hsz2
  go_wp2_with fail
  generalize vb.alloc (.cells mi 3) = vc at *
  obtain ⟨A3, hA3⟩ : ∃ g, g = vb.heap.size := ⟨_, rfl⟩
  rw [← hA3] at HRS
  rw [← hA3]
  have hA3' : v8.heap.size ≤ A3 := by omega
  have hA13 : A1 ≠ A3 := by omega
  have hA23 : A2 ≠ A3 := by omega
  clear hmi hmb hA3 hvs hA1l hA2l
  go_loopw [36] (fun i wr => ∃ k : Nat, k ≤ len0 ∧ i = .int .i64 k ∧ RowV 3 (fun _ => .int .i64 (-1)) wr A1 len0 k ∧ RowV 4 (fun p => .bool (EH 0 p)) wr A2 len0 len0 ∧ RowV 3 (fun p => .int .i64 (ES 0 p)) wr A3 len0 len0 ∧ Below v8.heap.size v8 wr) (fun i _ => len0 - (intOf i).toNat)
  case atStart => exact ⟨0, by omega, rfl, HRA.out, HRH.out, HRS.out, HV1.out⟩
  case round =>
    obtain ⟨k, hk, rfl, hra, hrh, hrs, hb⟩ := hrel
    have RA := Lib.hid hra
    have RH := Lib.hid hrh
    have RS := Lib.hid hrs
    have HV := Lib.hid hb
    by_cases hkl : k < len0
    · obtain ⟨⟨v0, e3⟩, e4⟩ := hra.room hkl
      clear hra hrh hrs hb
      have b1 : (0 : Int) ≤ (k : Int) := by omega
      have b2 : (k : Int) < (len0 : Int) := by omega
      go_wp2
      go_roundw
      case rel => exact ⟨k + 1, by omega, by go_num, RA.out.set hkl rfl, RH.out.keep (heap_setCell_other _ _ _ _ hA12.symm), RS.out.keep (heap_setCell_other _ _ _ _ hA13.symm), HV.out.setCell (p := ⟨A1, k, none⟩) hA1' _⟩
      case measure => simp [intOf]; omega
    · have hkk : k = len0 := by omega
      subst hkk
      obtain ⟨len0, rfl⟩ : ∃ n, n = k := ⟨_, rfl⟩
      have RA := Lib.hid (hra.same (f' := fun p => .int .i64 (EA 0 p)) fun p => congrArg (Value.int .i64) (Z0A.out p))
      clear hra hrh hrs hb HRA HRH HRS HV1
      go_wp2_with fail
      go_loopw [37, 38, 39, 40] (fun i _ _ _ wr => ∃ k : Nat, k ≤ len4 ∧ i = .int .i64 k ∧ RowV 3 (fun p => .int .i64 (EA k p)) wr A1 len0 len0 ∧ RowV 4 (fun p => .bool (EH k p)) wr A2 len0 len0 ∧ RowV 3 (fun p => .int .i64 (ES k p)) wr A3 len0 len0 ∧ Below v8.heap.size v8 wr) (fun i _ _ _ _ => len4 - (intOf i).toNat)
      case atStart => exact ⟨0, by omega, rfl, RA.out, RH.out, RS.out, HV.out⟩
      case round =>
        obtain ⟨k, hk, rfl, hra, hrh, hrs, hb⟩ := hrel
        have RA := Lib.hid hra
        have RH := Lib.hid hrh
        have RS := Lib.hid hrs
        have HV := Lib.hid hb
        by_cases hkl : k < len4
        · obtain ⟨g3, e3, hg3, c3⟩ := QB3.out k hkl
          obtain ⟨g4, e4, hg4, c4⟩ := QB4.out k hkl
          subst e3 e4
          have hgk := HGS8.out.lt hkl
          have K3 := Lib.hid (show v8.cell? ⟨g3, k, none⟩ = some (.int .i64 (z3.getD k 0)) from c3)
          have d4 : wr.cell? ⟨g4, k, none⟩ = some (.int .i64 (z4.getD k 0)) := (hb.cell (p := ⟨g4, k, none⟩) hg4).trans c4
          have d5 : wr.cell? ⟨GS, k, none⟩ = some (.pointer (some ⟨G k, 0, none⟩)) := (hb.cell (p := ⟨GS, k, none⟩) HGR8.out.lt).trans (HGR8.out.cell hkl)
          have d6 : wr.cell? ⟨G k, 4, none⟩ = some (.int .i64 (n1 k)) := (hb.cell (p := ⟨G k, 4, none⟩) hgk).trans (HGS8.out.c4 hkl)
          have dj : wr.cell? ⟨JS, k, none⟩ = some (jsf fs (fun i => z8.getD i ByteArray.empty) (fun i => z2.getD i ByteArray.empty) len9 len4 k) := (hb.cell (p := ⟨JS, k, none⟩) HJ8.out.lt).trans (HJ8.out.cell hkl)
          have hip := isPending_any F C Bk U pw h1 base len4 (fs : Int) c1 (fun i => z2.getD i ByteArray.empty) (fun i => z3.getD i 0) n1 k wr (HS8.out.below hb) (by omega)
          rw [HP1'.out k, decide_eq_true hkl] at hip
          rw [HN1'.out k hkl] at d6
          have b1 : (0 : Int) ≤ (k : Int) := by omega
          have b2 : (k : Int) < (len4 : Int) := by omega
          clear hra hrh hrs hb c3 c4 hgk
          generalize G k = gk at *
          by_cases hf : fs ≤ k
          · rw [if_pos hf] at d6
            rw [decide_eq_true hf] at hip
            have hjv : jsf fs (fun i => z8.getD i ByteArray.empty) (fun i => z2.getD i ByteArray.empty) len9 len4 k = .int .i64 (flv (fun i => z8.getD i ByteArray.empty) (z2.getD k ByteArray.empty) len9) := by
              unfold jsf
              rw [if_pos ⟨hf, hkl⟩]
            rw [hjv] at dj
            have b3 : ¬ ((k : Int) < (fs : Int)) := by omega
            have ha := HALL'.out k hf hkl
            have STAk := Lib.hid (fun p => STA.out k p hf)
            have STHk := Lib.hid (fun p => STH.out k p hf)
            have STSk := Lib.hid (fun p => STS.out k p hf)
            have HMN := Lib.hid (fun (v : World) => min_any (z4.getD k 0) act v)
            obtain ⟨f, hfx⟩ : ∃ f, flx (fun i => z8.getD i ByteArray.empty) (z2.getD k ByteArray.empty) len9 = f := ⟨_, rfl⟩
            rw [hfx] at hip ha STAk STHk STSk
            have HFX := Lib.hid hfx
            clear hjv hfx
            generalize hjv : flv (fun i => z8.getD i ByteArray.empty) (z2.getD k ByteArray.empty) len9 = jv at *
            have HJV := Lib.hid hjv
            clear hjv
            generalize z4.getD k 0 = x at *
            generalize z3.getD k 0 = q at *
            generalize nAct act x = ef at *
            cases f with
            | none =>
              simp only [Option.isSome_none, Bool.and_false, Bool.not_false, Bool.and_true] at hip
              have hjv : jv = -1 := HJV.out.symm.trans (flv_none HFX.out)
              subst hjv
              have HIP := Lib.hid hip
              clear hip
              go_wp2_with fail
              refine HIP.out.mono ?_; rintro e u8 ⟨rfl, rfl⟩
              go_wp2_with fail
              refine (HMN.out _).mono ?_; rintro e u9 ⟨rfl, rfl⟩
              go_upto_region 40 with fail
              clear HIP d5 d6 dj
              by_cases hax : act < x
              · by_cases hB : a10 = true
                · obtain ⟨m1, m2, m3⟩ := ha.1 hax hB
                  obtain ⟨q1, hq1⟩ : ∃ q1 : Nat, q = (q1 : Int) + 1 := ⟨(q - 1).toNat, by omega⟩
                  subst hq1
                  clear ha m1 m2
                  have RA1 := Lib.hid (RA.out.upd (f' := fun p => .int .i64 (stA act x ((q1 : Int) + 1) a10 p (EA k p))) (v := .int .i64 act) (show q1 < len0 by omega) (congrArg (Value.int .i64) (stA_at hax hB rfl).symm) fun p hp => congrArg (Value.int .i64) (stA_ne (by omega)))
                  have RH1 := Lib.hid (RH.out.keep (w' := u9.setCell ⟨A1, q1, none⟩ (.int .i64 act)) (heap_setCell_other _ _ _ _ hA12.symm))
                  have RS1 := Lib.hid (RS.out.keep (w' := u9.setCell ⟨A1, q1, none⟩ (.int .i64 act)) (heap_setCell_other _ _ _ _ hA13.symm))
                  have HV1 := Lib.hid (HV.out.setCell (p := ⟨A1, q1, none⟩) hA1' (.int .i64 act))
                  obtain ⟨⟨o1, f1⟩, f2⟩ := RA.out.room (show q1 < len0 by omega)
                  have d3 : u9.cell? ⟨g3, k, none⟩ = some (.int .i64 ((q1 : Int) + 1)) := (HV.out.cell (p := ⟨g3, k, none⟩) hg3).trans K3.out
                  have b5 : (q1 : Int) < (len0 : Int) := by omega
                  go_upto_region 42 with fail
                  generalize u9.setCell ⟨A1, q1, none⟩ (.int .i64 act) = w1 at *
                  clear d3 d4 f1 f2
                  have RH2 := Lib.hid (RH1.out.same (f' := fun p => .bool (stH ((q1 : Int) + 1) none p (EH k p))) fun p => congrArg Value.bool stH_none)
                  go_wp2
                  go_roundw
                  case rel => exact ⟨k + 1, by omega, by go_num, RA1.out.same (f' := fun p => .int .i64 (EA (k + 1) p)) fun p => congrArg (Value.int .i64) (STAk.out p), RH2.out.same (f' := fun p => .bool (EH (k + 1) p)) fun p => congrArg Value.bool (STHk.out p), RS1.out.same (f' := fun p => .int .i64 (ES (k + 1) p)) fun p => congrArg (Value.int .i64) (STSk.out p), HV1.out⟩
                  case measure => simp [intOf]; omega
                · have hB2 : a10 = false := by simpa using hB
                  clear ha
                  have RA1 := Lib.hid (RA.out.same (f' := fun p => .int .i64 (stA act x q a10 p (EA k p))) fun p => congrArg (Value.int .i64) (stA_no (fun y => hB y.2)))
                  have RH1 := RH
                  have RS1 := RS
                  have HV1 := HV
                  go_upto_region 42 with fail
                  obtain ⟨w1, hw1⟩ : ∃ w1, w1 = u9 := ⟨_, rfl⟩
                  rw [← hw1] at RA1 RH1 RS1 HV1
                  rw [← hw1]
                  clear d4 hw1
                  have RH2 := Lib.hid (RH1.out.same (f' := fun p => .bool (stH q none p (EH k p))) fun p => congrArg Value.bool stH_none)
                  go_wp2
                  go_roundw
                  case rel => exact ⟨k + 1, by omega, by go_num, RA1.out.same (f' := fun p => .int .i64 (EA (k + 1) p)) fun p => congrArg (Value.int .i64) (STAk.out p), RH2.out.same (f' := fun p => .bool (EH (k + 1) p)) fun p => congrArg Value.bool (STHk.out p), RS1.out.same (f' := fun p => .int .i64 (ES (k + 1) p)) fun p => congrArg (Value.int .i64) (STSk.out p), HV1.out⟩
                  case measure => simp [intOf]; omega
              · clear ha
                have RA1 := Lib.hid (RA.out.same (f' := fun p => .int .i64 (stA act x q a10 p (EA k p))) fun p => congrArg (Value.int .i64) (stA_no (fun y => hax y.1)))
                have RH1 := RH
                have RS1 := RS
                have HV1 := HV
                go_upto_region 42 with fail
                obtain ⟨w1, hw1⟩ : ∃ w1, w1 = u9 := ⟨_, rfl⟩
                rw [← hw1] at RA1 RH1 RS1 HV1
                rw [← hw1]
                clear d4 hw1
                have RH2 := Lib.hid (RH1.out.same (f' := fun p => .bool (stH q none p (EH k p))) fun p => congrArg Value.bool stH_none)
                go_wp2
                go_roundw
                case rel => exact ⟨k + 1, by omega, by go_num, RA1.out.same (f' := fun p => .int .i64 (EA (k + 1) p)) fun p => congrArg (Value.int .i64) (STAk.out p), RH2.out.same (f' := fun p => .bool (EH (k + 1) p)) fun p => congrArg Value.bool (STHk.out p), RS1.out.same (f' := fun p => .int .i64 (ES (k + 1) p)) fun p => congrArg (Value.int .i64) (STSk.out p), HV1.out⟩
                case measure => simp [intOf]; omega
            | some j =>
              simp only [Option.isSome_some, Bool.not_true, Bool.and_false, Bool.and_self] at hip
              have hj := (flx_lt HFX.out).1
              have hjv : jv = (j : Int) := HJV.out.symm.trans (flv_some HFX.out)
              subst hjv
              obtain ⟨g9, e9, hg9, c9⟩ := QB9.out j hj
              subst e9
              obtain ⟨h2a, h2b, h2c, h2d⟩ := ha.2 j rfl
              have h1a := ha.1
              have h2a : z9.getD j 0 ≤ ef := h2a
              have h2d : z9.getD j 0 < ef → a11 = true → 0 ≤ z9.getD j 0 ∧ z9.getD j 0 ≤ 255 ∧ 1 ≤ q := h2d
              have c9 : v8.cell? ⟨g9, j, none⟩ = some (.int .i64 (z9.getD j 0)) := c9
              have hl : (fun i => z9.getD i 0) j = z9.getD j 0 := rfl
              generalize z9.getD j 0 = l at h2a h2d c9 hl
              have HL := Lib.hid hl
              have K9 := Lib.hid c9
              have H1 := Lib.hid h1a
              have H2 := Lib.hid h2d
              have b8 : (0 : Int) ≤ (j : Int) := by omega
              have b9 : (j : Int) < (len9 : Int) := by omega
              clear ha h1a h2d hl c9
              have HIP := Lib.hid hip
              clear hip
              go_wp2_with fail
              refine HIP.out.mono ?_; rintro e u8 ⟨rfl, rfl⟩
              go_wp2_with fail
              refine (HMN.out _).mono ?_; rintro e u9 ⟨rfl, rfl⟩
              go_upto_region 40 with fail
              clear HIP d5 d6 dj
              by_cases hax : act < x
              · by_cases hB : a10 = true
                · obtain ⟨m1, m2, m3⟩ := H1.out hax hB
                  obtain ⟨q1, hq1⟩ : ∃ q1 : Nat, q = (q1 : Int) + 1 := ⟨(q - 1).toNat, by omega⟩
                  subst hq1
                  have RA1 := Lib.hid (RA.out.upd (f' := fun p => .int .i64 (stA act x ((q1 : Int) + 1) a10 p (EA k p))) (v := .int .i64 act) (show q1 < len0 by omega) (congrArg (Value.int .i64) (stA_at hax hB rfl).symm) fun p hp => congrArg (Value.int .i64) (stA_ne (by omega)))
                  have RH1 := Lib.hid (RH.out.keep (w' := u9.setCell ⟨A1, q1, none⟩ (.int .i64 act)) (heap_setCell_other _ _ _ _ hA12.symm))
                  have RS1 := Lib.hid (RS.out.keep (w' := u9.setCell ⟨A1, q1, none⟩ (.int .i64 act)) (heap_setCell_other _ _ _ _ hA13.symm))
                  have HV1 := Lib.hid (HV.out.setCell (p := ⟨A1, q1, none⟩) hA1' (.int .i64 act))
                  obtain ⟨⟨o1, f1⟩, f2⟩ := RA.out.room (show q1 < len0 by omega)
                  have d3 : u9.cell? ⟨g3, k, none⟩ = some (.int .i64 ((q1 : Int) + 1)) := (HV.out.cell (p := ⟨g3, k, none⟩) hg3).trans K3.out
                  have b5 : (q1 : Int) < (len0 : Int) := by omega
                  go_upto_region 42 with fail
                  generalize u9.setCell ⟨A1, q1, none⟩ (.int .i64 act) = w1 at *
                  clear d3 d4 f1 f2
                  by_cases hxl : l < ef
                  · by_cases hP : a11 = true
                    · obtain ⟨n1a, n2a, n3a⟩ := H2.out (by omega) hP
                      have hx4 : (fun i => z9.getD i 0) j < ef := by show z9.getD j 0 < ef; rw [HL.out]; exact hxl
                      have HX4 := Lib.hid hx4
                      clear hx4
                      have d9 : w1.cell? ⟨g9, j, none⟩ = some (.int .i64 l) := (HV1.out.cell (p := ⟨g9, j, none⟩) hg9).trans K9.out
                      have d3 : w1.cell? ⟨g3, k, none⟩ = some (.int .i64 ((q1 : Int) + 1)) := (HV1.out.cell (p := ⟨g3, k, none⟩) hg3).trans K3.out
                      obtain ⟨⟨o1, f1⟩, f2⟩ := RA1.out.room (show q1 < len0 by omega)
                      have b5 : (q1 : Int) < (len0 : Int) := by omega
                      go_wp2_with fail
                      go_still_tail 10, (by kernel_rfl)
                      change wpList _ _ _ _ _ (w1.drewN 1)
                      have RA2 := Lib.hid (RA1.out.keep (w' := w1.drewN 1) rfl)
                      have RH2 := Lib.hid (RH1.out.keep (w' := w1.drewN 1) rfl)
                      have RS2 := Lib.hid (RS1.out.keep (w' := w1.drewN 1) rfl)
                      have HV2 := Lib.hid (below_drewN HV1.out 1)
                      have d3 : (w1.drewN 1).cell? ⟨g3, k, none⟩ = some (.int .i64 ((q1 : Int) + 1)) := d3
                      have d9 : (w1.drewN 1).cell? ⟨g9, j, none⟩ = some (.int .i64 l) := d9
                      have f1 : (w1.drewN 1).cell? ⟨A1, q1, none⟩ = some o1 := f1
                      have f2 : (w1.drewN 1).frozen? ⟨A1, q1, none⟩ = false := f2
                      generalize w1.drewN 1 = w1d at *
                      have RA3 := Lib.hid (RA2.out.upd (f' := fun p => .int .i64 (stL ef ((q1 : Int) + 1) a11 (fun i => z9.getD i 0) (some j) p (stA act x ((q1 : Int) + 1) a10 p (EA k p)))) (v := .int .i64 l) (show q1 < len0 by omega) (congrArg (Value.int .i64) ((stL_at HX4.out hP rfl).trans HL.out).symm) fun p hp => congrArg (Value.int .i64) (stL_ne (by omega)))
                      have RH3 := Lib.hid (RH2.out.keep (w' := w1d.setCell ⟨A1, q1, none⟩ (.int .i64 l)) (heap_setCell_other _ _ _ _ hA12.symm))
                      have RS3 := Lib.hid (RS2.out.keep (w' := w1d.setCell ⟨A1, q1, none⟩ (.int .i64 l)) (heap_setCell_other _ _ _ _ hA13.symm))
                      have HV3 := Lib.hid (HV2.out.setCell (p := ⟨A1, q1, none⟩) hA1' (.int .i64 l))
                      go_upto_region 45 with fail
                      generalize w1d.setCell ⟨A1, q1, none⟩ (.int .i64 l) = w2 at *
                      clear d3 d9 f1 f2
                      have d3 : w2.cell? ⟨g3, k, none⟩ = some (.int .i64 ((q1 : Int) + 1)) := (HV3.out.cell (p := ⟨g3, k, none⟩) hg3).trans K3.out
                      obtain ⟨⟨o1, f1⟩, f2⟩ := RH3.out.room (show (q1 + 1) < len0 by omega)
                      have b6 : ((q1 : Int) + 1) < (len0 : Int) := by omega
                      have b7 : 0 ≤ ((q1 : Int) + 1) := by omega
                      have RA4 := Lib.hid (RA3.out.keep (w' := w2.setCell ⟨A2, (q1 + 1), none⟩ (.bool true)) (heap_setCell_other _ _ _ _ hA12))
                      have RH4 := Lib.hid (RH3.out.upd (f' := fun p => .bool (stH ((q1 : Int) + 1) (some j) p (EH k p))) (v := .bool true) (show (q1 + 1) < len0 by omega) (congrArg Value.bool (stH_at rfl).symm) fun p hp => congrArg Value.bool (stH_ne (by omega)))
                      have RS4 := Lib.hid (RS3.out.keep (w' := w2.setCell ⟨A2, (q1 + 1), none⟩ (.bool true)) (heap_setCell_other _ _ _ _ hA23.symm))
                      have HV4 := Lib.hid (HV3.out.setCell (p := ⟨A2, (q1 + 1), none⟩) hA2' (.bool true))
                      go_upto_region 46 with fail
                      generalize w2.setCell ⟨A2, (q1 + 1), none⟩ (.bool true) = w3 at *
                      clear d3 f1 f2
                      have d3 : w3.cell? ⟨g3, k, none⟩ = some (.int .i64 ((q1 : Int) + 1)) := (HV4.out.cell (p := ⟨g3, k, none⟩) hg3).trans K3.out
                      obtain ⟨⟨o2, f1⟩, f2⟩ := RS4.out.room (show (q1 + 1) < len0 by omega)
                      have RA5 := Lib.hid (RA4.out.keep (w' := w3.setCell ⟨A3, (q1 + 1), none⟩ (.int .i64 (j : Int))) (heap_setCell_other _ _ _ _ hA13))
                      have RH5 := Lib.hid (RH4.out.keep (w' := w3.setCell ⟨A3, (q1 + 1), none⟩ (.int .i64 (j : Int))) (heap_setCell_other _ _ _ _ hA23))
                      have RS5 := Lib.hid (RS4.out.upd (f' := fun p => .int .i64 (stS ((q1 : Int) + 1) (some j) p (ES k p))) (v := .int .i64 (j : Int)) (show (q1 + 1) < len0 by omega) (congrArg (Value.int .i64) (stS_at rfl).symm) fun p hp => congrArg (Value.int .i64) (stS_ne (by omega)))
                      have HV5 := Lib.hid (HV4.out.setCell (p := ⟨A3, (q1 + 1), none⟩) hA3' (.int .i64 (j : Int)))
                      go_wp2
                      subst hB
                      subst hP
                      go_roundw
                      case rel => exact ⟨k + 1, by omega, by go_num, RA5.out.same (f' := fun p => .int .i64 (EA (k + 1) p)) fun p => congrArg (Value.int .i64) (STAk.out p), RH5.out.same (f' := fun p => .bool (EH (k + 1) p)) fun p => congrArg Value.bool (STHk.out p), RS5.out.same (f' := fun p => .int .i64 (ES (k + 1) p)) fun p => congrArg (Value.int .i64) (STSk.out p), HV5.out⟩
                      case measure => simp [intOf]; omega
                    · have hP2 : a11 = false := by simpa using hP
                      have hx4 : (fun i => z9.getD i 0) j < ef := by show z9.getD j 0 < ef; rw [HL.out]; exact hxl
                      have HX4 := Lib.hid hx4
                      clear hx4
                      have d9 : w1.cell? ⟨g9, j, none⟩ = some (.int .i64 l) := (HV1.out.cell (p := ⟨g9, j, none⟩) hg9).trans K9.out
                      have RA3 := Lib.hid (RA1.out.same (f' := fun p => .int .i64 (stL ef ((q1 : Int) + 1) a11 (fun i => z9.getD i 0) (some j) p (stA act x ((q1 : Int) + 1) a10 p (EA k p)))) fun p => congrArg (Value.int .i64) (stL_no (fun y => hP y.2)))
                      have RH3 := RH1
                      have RS3 := RS1
                      have HV3 := HV1
                      go_upto_region 45 with fail
                      obtain ⟨w2, hw2⟩ : ∃ w2, w2 = w1 := ⟨_, rfl⟩
                      rw [← hw2] at RA3 RH3 RS3 HV3
                      rw [← hw2]
                      clear d9 hw2
                      have d3 : w2.cell? ⟨g3, k, none⟩ = some (.int .i64 ((q1 : Int) + 1)) := (HV3.out.cell (p := ⟨g3, k, none⟩) hg3).trans K3.out
                      obtain ⟨⟨o1, f1⟩, f2⟩ := RH3.out.room (show (q1 + 1) < len0 by omega)
                      have b6 : ((q1 : Int) + 1) < (len0 : Int) := by omega
                      have b7 : 0 ≤ ((q1 : Int) + 1) := by omega
                      have RA4 := Lib.hid (RA3.out.keep (w' := w2.setCell ⟨A2, (q1 + 1), none⟩ (.bool true)) (heap_setCell_other _ _ _ _ hA12))
                      have RH4 := Lib.hid (RH3.out.upd (f' := fun p => .bool (stH ((q1 : Int) + 1) (some j) p (EH k p))) (v := .bool true) (show (q1 + 1) < len0 by omega) (congrArg Value.bool (stH_at rfl).symm) fun p hp => congrArg Value.bool (stH_ne (by omega)))
                      have RS4 := Lib.hid (RS3.out.keep (w' := w2.setCell ⟨A2, (q1 + 1), none⟩ (.bool true)) (heap_setCell_other _ _ _ _ hA23.symm))
                      have HV4 := Lib.hid (HV3.out.setCell (p := ⟨A2, (q1 + 1), none⟩) hA2' (.bool true))
                      go_upto_region 46 with fail
                      generalize w2.setCell ⟨A2, (q1 + 1), none⟩ (.bool true) = w3 at *
                      clear d3 f1 f2
                      have d3 : w3.cell? ⟨g3, k, none⟩ = some (.int .i64 ((q1 : Int) + 1)) := (HV4.out.cell (p := ⟨g3, k, none⟩) hg3).trans K3.out
                      obtain ⟨⟨o2, f1⟩, f2⟩ := RS4.out.room (show (q1 + 1) < len0 by omega)
                      have RA5 := Lib.hid (RA4.out.keep (w' := w3.setCell ⟨A3, (q1 + 1), none⟩ (.int .i64 (j : Int))) (heap_setCell_other _ _ _ _ hA13))
                      have RH5 := Lib.hid (RH4.out.keep (w' := w3.setCell ⟨A3, (q1 + 1), none⟩ (.int .i64 (j : Int))) (heap_setCell_other _ _ _ _ hA23))
                      have RS5 := Lib.hid (RS4.out.upd (f' := fun p => .int .i64 (stS ((q1 : Int) + 1) (some j) p (ES k p))) (v := .int .i64 (j : Int)) (show (q1 + 1) < len0 by omega) (congrArg (Value.int .i64) (stS_at rfl).symm) fun p hp => congrArg (Value.int .i64) (stS_ne (by omega)))
                      have HV5 := Lib.hid (HV4.out.setCell (p := ⟨A3, (q1 + 1), none⟩) hA3' (.int .i64 (j : Int)))
                      go_wp2
                      go_roundw
                      case rel => exact ⟨k + 1, by omega, by go_num, RA5.out.same (f' := fun p => .int .i64 (EA (k + 1) p)) fun p => congrArg (Value.int .i64) (STAk.out p), RH5.out.same (f' := fun p => .bool (EH (k + 1) p)) fun p => congrArg Value.bool (STHk.out p), RS5.out.same (f' := fun p => .int .i64 (ES (k + 1) p)) fun p => congrArg (Value.int .i64) (STSk.out p), HV5.out⟩
                      case measure => simp [intOf]; omega
                  · have hx4 : ¬ (fun i => z9.getD i 0) j < ef := by show ¬ z9.getD j 0 < ef; rw [HL.out]; exact hxl
                    have HX4 := Lib.hid hx4
                    clear hx4
                    have d9 : w1.cell? ⟨g9, j, none⟩ = some (.int .i64 l) := (HV1.out.cell (p := ⟨g9, j, none⟩) hg9).trans K9.out
                    have RA3 := Lib.hid (RA1.out.same (f' := fun p => .int .i64 (stL ef ((q1 : Int) + 1) a11 (fun i => z9.getD i 0) (some j) p (stA act x ((q1 : Int) + 1) a10 p (EA k p)))) fun p => congrArg (Value.int .i64) (stL_no (fun y => HX4.out y.1)))
                    have RH3 := RH1
                    have RS3 := RS1
                    have HV3 := HV1
                    go_upto_region 45 with fail
                    obtain ⟨w2, hw2⟩ : ∃ w2, w2 = w1 := ⟨_, rfl⟩
                    rw [← hw2] at RA3 RH3 RS3 HV3
                    rw [← hw2]
                    clear d9 hw2
                    have d3 : w2.cell? ⟨g3, k, none⟩ = some (.int .i64 ((q1 : Int) + 1)) := (HV3.out.cell (p := ⟨g3, k, none⟩) hg3).trans K3.out
                    obtain ⟨⟨o1, f1⟩, f2⟩ := RH3.out.room (show (q1 + 1) < len0 by omega)
                    have b6 : ((q1 : Int) + 1) < (len0 : Int) := by omega
                    have b7 : 0 ≤ ((q1 : Int) + 1) := by omega
                    have RA4 := Lib.hid (RA3.out.keep (w' := w2.setCell ⟨A2, (q1 + 1), none⟩ (.bool true)) (heap_setCell_other _ _ _ _ hA12))
                    have RH4 := Lib.hid (RH3.out.upd (f' := fun p => .bool (stH ((q1 : Int) + 1) (some j) p (EH k p))) (v := .bool true) (show (q1 + 1) < len0 by omega) (congrArg Value.bool (stH_at rfl).symm) fun p hp => congrArg Value.bool (stH_ne (by omega)))
                    have RS4 := Lib.hid (RS3.out.keep (w' := w2.setCell ⟨A2, (q1 + 1), none⟩ (.bool true)) (heap_setCell_other _ _ _ _ hA23.symm))
                    have HV4 := Lib.hid (HV3.out.setCell (p := ⟨A2, (q1 + 1), none⟩) hA2' (.bool true))
                    go_upto_region 46 with fail
                    generalize w2.setCell ⟨A2, (q1 + 1), none⟩ (.bool true) = w3 at *
                    clear d3 f1 f2
                    have d3 : w3.cell? ⟨g3, k, none⟩ = some (.int .i64 ((q1 : Int) + 1)) := (HV4.out.cell (p := ⟨g3, k, none⟩) hg3).trans K3.out
                    obtain ⟨⟨o2, f1⟩, f2⟩ := RS4.out.room (show (q1 + 1) < len0 by omega)
                    have RA5 := Lib.hid (RA4.out.keep (w' := w3.setCell ⟨A3, (q1 + 1), none⟩ (.int .i64 (j : Int))) (heap_setCell_other _ _ _ _ hA13))
                    have RH5 := Lib.hid (RH4.out.keep (w' := w3.setCell ⟨A3, (q1 + 1), none⟩ (.int .i64 (j : Int))) (heap_setCell_other _ _ _ _ hA23))
                    have RS5 := Lib.hid (RS4.out.upd (f' := fun p => .int .i64 (stS ((q1 : Int) + 1) (some j) p (ES k p))) (v := .int .i64 (j : Int)) (show (q1 + 1) < len0 by omega) (congrArg (Value.int .i64) (stS_at rfl).symm) fun p hp => congrArg (Value.int .i64) (stS_ne (by omega)))
                    have HV5 := Lib.hid (HV4.out.setCell (p := ⟨A3, (q1 + 1), none⟩) hA3' (.int .i64 (j : Int)))
                    go_wp2
                    go_roundw
                    case rel => exact ⟨k + 1, by omega, by go_num, RA5.out.same (f' := fun p => .int .i64 (EA (k + 1) p)) fun p => congrArg (Value.int .i64) (STAk.out p), RH5.out.same (f' := fun p => .bool (EH (k + 1) p)) fun p => congrArg Value.bool (STHk.out p), RS5.out.same (f' := fun p => .int .i64 (ES (k + 1) p)) fun p => congrArg (Value.int .i64) (STSk.out p), HV5.out⟩
                    case measure => simp [intOf]; omega
                · have hB2 : a10 = false := by simpa using hB
                  have RA1 := Lib.hid (RA.out.same (f' := fun p => .int .i64 (stA act x q a10 p (EA k p))) fun p => congrArg (Value.int .i64) (stA_no (fun y => hB y.2)))
                  have RH1 := RH
                  have RS1 := RS
                  have HV1 := HV
                  go_upto_region 42 with fail
                  obtain ⟨w1, hw1⟩ : ∃ w1, w1 = u9 := ⟨_, rfl⟩
                  rw [← hw1] at RA1 RH1 RS1 HV1
                  rw [← hw1]
                  clear d4 hw1
                  by_cases hxl : l < ef
                  · by_cases hP : a11 = true
                    · obtain ⟨n1a, n2a, n3a⟩ := H2.out (by omega) hP
                      obtain ⟨q1, hq1⟩ : ∃ q1 : Nat, q = (q1 : Int) + 1 := ⟨(q - 1).toNat, by omega⟩
                      subst hq1
                      have hx4 : (fun i => z9.getD i 0) j < ef := by show z9.getD j 0 < ef; rw [HL.out]; exact hxl
                      have HX4 := Lib.hid hx4
                      clear hx4
                      have d9 : w1.cell? ⟨g9, j, none⟩ = some (.int .i64 l) := (HV1.out.cell (p := ⟨g9, j, none⟩) hg9).trans K9.out
                      have d3 : w1.cell? ⟨g3, k, none⟩ = some (.int .i64 ((q1 : Int) + 1)) := (HV1.out.cell (p := ⟨g3, k, none⟩) hg3).trans K3.out
                      obtain ⟨⟨o1, f1⟩, f2⟩ := RA1.out.room (show q1 < len0 by omega)
                      have b5 : (q1 : Int) < (len0 : Int) := by omega
                      go_wp2_with fail
                      go_still_tail 10, (by kernel_rfl)
                      change wpList _ _ _ _ _ (w1.drewN 1)
                      have RA2 := Lib.hid (RA1.out.keep (w' := w1.drewN 1) rfl)
                      have RH2 := Lib.hid (RH1.out.keep (w' := w1.drewN 1) rfl)
                      have RS2 := Lib.hid (RS1.out.keep (w' := w1.drewN 1) rfl)
                      have HV2 := Lib.hid (below_drewN HV1.out 1)
                      have d3 : (w1.drewN 1).cell? ⟨g3, k, none⟩ = some (.int .i64 ((q1 : Int) + 1)) := d3
                      have d9 : (w1.drewN 1).cell? ⟨g9, j, none⟩ = some (.int .i64 l) := d9
                      have f1 : (w1.drewN 1).cell? ⟨A1, q1, none⟩ = some o1 := f1
                      have f2 : (w1.drewN 1).frozen? ⟨A1, q1, none⟩ = false := f2
                      generalize w1.drewN 1 = w1d at *
                      have RA3 := Lib.hid (RA2.out.upd (f' := fun p => .int .i64 (stL ef ((q1 : Int) + 1) a11 (fun i => z9.getD i 0) (some j) p (stA act x ((q1 : Int) + 1) a10 p (EA k p)))) (v := .int .i64 l) (show q1 < len0 by omega) (congrArg (Value.int .i64) ((stL_at HX4.out hP rfl).trans HL.out).symm) fun p hp => congrArg (Value.int .i64) (stL_ne (by omega)))
                      have RH3 := Lib.hid (RH2.out.keep (w' := w1d.setCell ⟨A1, q1, none⟩ (.int .i64 l)) (heap_setCell_other _ _ _ _ hA12.symm))
                      have RS3 := Lib.hid (RS2.out.keep (w' := w1d.setCell ⟨A1, q1, none⟩ (.int .i64 l)) (heap_setCell_other _ _ _ _ hA13.symm))
                      have HV3 := Lib.hid (HV2.out.setCell (p := ⟨A1, q1, none⟩) hA1' (.int .i64 l))
                      go_upto_region 45 with fail
                      generalize w1d.setCell ⟨A1, q1, none⟩ (.int .i64 l) = w2 at *
                      clear d3 d9 f1 f2
                      have d3 : w2.cell? ⟨g3, k, none⟩ = some (.int .i64 ((q1 : Int) + 1)) := (HV3.out.cell (p := ⟨g3, k, none⟩) hg3).trans K3.out
                      obtain ⟨⟨o1, f1⟩, f2⟩ := RH3.out.room (show (q1 + 1) < len0 by omega)
                      have b6 : ((q1 : Int) + 1) < (len0 : Int) := by omega
                      have b7 : 0 ≤ ((q1 : Int) + 1) := by omega
                      have RA4 := Lib.hid (RA3.out.keep (w' := w2.setCell ⟨A2, (q1 + 1), none⟩ (.bool true)) (heap_setCell_other _ _ _ _ hA12))
                      have RH4 := Lib.hid (RH3.out.upd (f' := fun p => .bool (stH ((q1 : Int) + 1) (some j) p (EH k p))) (v := .bool true) (show (q1 + 1) < len0 by omega) (congrArg Value.bool (stH_at rfl).symm) fun p hp => congrArg Value.bool (stH_ne (by omega)))
                      have RS4 := Lib.hid (RS3.out.keep (w' := w2.setCell ⟨A2, (q1 + 1), none⟩ (.bool true)) (heap_setCell_other _ _ _ _ hA23.symm))
                      have HV4 := Lib.hid (HV3.out.setCell (p := ⟨A2, (q1 + 1), none⟩) hA2' (.bool true))
                      go_upto_region 46 with fail
                      generalize w2.setCell ⟨A2, (q1 + 1), none⟩ (.bool true) = w3 at *
                      clear d3 f1 f2
                      have d3 : w3.cell? ⟨g3, k, none⟩ = some (.int .i64 ((q1 : Int) + 1)) := (HV4.out.cell (p := ⟨g3, k, none⟩) hg3).trans K3.out
                      obtain ⟨⟨o2, f1⟩, f2⟩ := RS4.out.room (show (q1 + 1) < len0 by omega)
                      have RA5 := Lib.hid (RA4.out.keep (w' := w3.setCell ⟨A3, (q1 + 1), none⟩ (.int .i64 (j : Int))) (heap_setCell_other _ _ _ _ hA13))
                      have RH5 := Lib.hid (RH4.out.keep (w' := w3.setCell ⟨A3, (q1 + 1), none⟩ (.int .i64 (j : Int))) (heap_setCell_other _ _ _ _ hA23))
                      have RS5 := Lib.hid (RS4.out.upd (f' := fun p => .int .i64 (stS ((q1 : Int) + 1) (some j) p (ES k p))) (v := .int .i64 (j : Int)) (show (q1 + 1) < len0 by omega) (congrArg (Value.int .i64) (stS_at rfl).symm) fun p hp => congrArg (Value.int .i64) (stS_ne (by omega)))
                      have HV5 := Lib.hid (HV4.out.setCell (p := ⟨A3, (q1 + 1), none⟩) hA3' (.int .i64 (j : Int)))
                      go_wp2
                      subst hB2
                      subst hP
                      go_roundw
                      case rel => exact ⟨k + 1, by omega, by go_num, RA5.out.same (f' := fun p => .int .i64 (EA (k + 1) p)) fun p => congrArg (Value.int .i64) (STAk.out p), RH5.out.same (f' := fun p => .bool (EH (k + 1) p)) fun p => congrArg Value.bool (STHk.out p), RS5.out.same (f' := fun p => .int .i64 (ES (k + 1) p)) fun p => congrArg (Value.int .i64) (STSk.out p), HV5.out⟩
                      case measure => simp [intOf]; omega
                    · have hP2 : a11 = false := by simpa using hP
                      obtain ⟨q0, hq0⟩ : ∃ q0 : Nat, q = (q0 : Int) := ⟨q.toNat, by omega⟩
                      subst hq0
                      have hx4 : (fun i => z9.getD i 0) j < ef := by show z9.getD j 0 < ef; rw [HL.out]; exact hxl
                      have HX4 := Lib.hid hx4
                      clear hx4
                      have d9 : w1.cell? ⟨g9, j, none⟩ = some (.int .i64 l) := (HV1.out.cell (p := ⟨g9, j, none⟩) hg9).trans K9.out
                      have RA3 := Lib.hid (RA1.out.same (f' := fun p => .int .i64 (stL ef (q0 : Int) a11 (fun i => z9.getD i 0) (some j) p (stA act x (q0 : Int) a10 p (EA k p)))) fun p => congrArg (Value.int .i64) (stL_no (fun y => hP y.2)))
                      have RH3 := RH1
                      have RS3 := RS1
                      have HV3 := HV1
                      go_upto_region 45 with fail
                      obtain ⟨w2, hw2⟩ : ∃ w2, w2 = w1 := ⟨_, rfl⟩
                      rw [← hw2] at RA3 RH3 RS3 HV3
                      rw [← hw2]
                      clear d9 hw2
                      have d3 : w2.cell? ⟨g3, k, none⟩ = some (.int .i64 (q0 : Int)) := (HV3.out.cell (p := ⟨g3, k, none⟩) hg3).trans K3.out
                      obtain ⟨⟨o1, f1⟩, f2⟩ := RH3.out.room (show q0 < len0 by omega)
                      have b6 : (q0 : Int) < (len0 : Int) := by omega
                      have b7 : 0 ≤ (q0 : Int) := by omega
                      have RA4 := Lib.hid (RA3.out.keep (w' := w2.setCell ⟨A2, q0, none⟩ (.bool true)) (heap_setCell_other _ _ _ _ hA12))
                      have RH4 := Lib.hid (RH3.out.upd (f' := fun p => .bool (stH (q0 : Int) (some j) p (EH k p))) (v := .bool true) (show q0 < len0 by omega) (congrArg Value.bool (stH_at rfl).symm) fun p hp => congrArg Value.bool (stH_ne (by omega)))
                      have RS4 := Lib.hid (RS3.out.keep (w' := w2.setCell ⟨A2, q0, none⟩ (.bool true)) (heap_setCell_other _ _ _ _ hA23.symm))
                      have HV4 := Lib.hid (HV3.out.setCell (p := ⟨A2, q0, none⟩) hA2' (.bool true))
                      go_upto_region 46 with fail
                      generalize w2.setCell ⟨A2, q0, none⟩ (.bool true) = w3 at *
                      clear d3 f1 f2
                      have d3 : w3.cell? ⟨g3, k, none⟩ = some (.int .i64 (q0 : Int)) := (HV4.out.cell (p := ⟨g3, k, none⟩) hg3).trans K3.out
                      obtain ⟨⟨o2, f1⟩, f2⟩ := RS4.out.room (show q0 < len0 by omega)
                      have RA5 := Lib.hid (RA4.out.keep (w' := w3.setCell ⟨A3, q0, none⟩ (.int .i64 (j : Int))) (heap_setCell_other _ _ _ _ hA13))
                      have RH5 := Lib.hid (RH4.out.keep (w' := w3.setCell ⟨A3, q0, none⟩ (.int .i64 (j : Int))) (heap_setCell_other _ _ _ _ hA23))
                      have RS5 := Lib.hid (RS4.out.upd (f' := fun p => .int .i64 (stS (q0 : Int) (some j) p (ES k p))) (v := .int .i64 (j : Int)) (show q0 < len0 by omega) (congrArg (Value.int .i64) (stS_at rfl).symm) fun p hp => congrArg (Value.int .i64) (stS_ne (by omega)))
                      have HV5 := Lib.hid (HV4.out.setCell (p := ⟨A3, q0, none⟩) hA3' (.int .i64 (j : Int)))
                      go_wp2
                      go_roundw
                      case rel => exact ⟨k + 1, by omega, by go_num, RA5.out.same (f' := fun p => .int .i64 (EA (k + 1) p)) fun p => congrArg (Value.int .i64) (STAk.out p), RH5.out.same (f' := fun p => .bool (EH (k + 1) p)) fun p => congrArg Value.bool (STHk.out p), RS5.out.same (f' := fun p => .int .i64 (ES (k + 1) p)) fun p => congrArg (Value.int .i64) (STSk.out p), HV5.out⟩
                      case measure => simp [intOf]; omega
                  · obtain ⟨q0, hq0⟩ : ∃ q0 : Nat, q = (q0 : Int) := ⟨q.toNat, by omega⟩
                    subst hq0
                    have hx4 : ¬ (fun i => z9.getD i 0) j < ef := by show ¬ z9.getD j 0 < ef; rw [HL.out]; exact hxl
                    have HX4 := Lib.hid hx4
                    clear hx4
                    have d9 : w1.cell? ⟨g9, j, none⟩ = some (.int .i64 l) := (HV1.out.cell (p := ⟨g9, j, none⟩) hg9).trans K9.out
                    have RA3 := Lib.hid (RA1.out.same (f' := fun p => .int .i64 (stL ef (q0 : Int) a11 (fun i => z9.getD i 0) (some j) p (stA act x (q0 : Int) a10 p (EA k p)))) fun p => congrArg (Value.int .i64) (stL_no (fun y => HX4.out y.1)))
                    have RH3 := RH1
                    have RS3 := RS1
                    have HV3 := HV1
                    go_upto_region 45 with fail
                    obtain ⟨w2, hw2⟩ : ∃ w2, w2 = w1 := ⟨_, rfl⟩
                    rw [← hw2] at RA3 RH3 RS3 HV3
                    rw [← hw2]
                    clear d9 hw2
                    have d3 : w2.cell? ⟨g3, k, none⟩ = some (.int .i64 (q0 : Int)) := (HV3.out.cell (p := ⟨g3, k, none⟩) hg3).trans K3.out
                    obtain ⟨⟨o1, f1⟩, f2⟩ := RH3.out.room (show q0 < len0 by omega)
                    have b6 : (q0 : Int) < (len0 : Int) := by omega
                    have b7 : 0 ≤ (q0 : Int) := by omega
                    have RA4 := Lib.hid (RA3.out.keep (w' := w2.setCell ⟨A2, q0, none⟩ (.bool true)) (heap_setCell_other _ _ _ _ hA12))
                    have RH4 := Lib.hid (RH3.out.upd (f' := fun p => .bool (stH (q0 : Int) (some j) p (EH k p))) (v := .bool true) (show q0 < len0 by omega) (congrArg Value.bool (stH_at rfl).symm) fun p hp => congrArg Value.bool (stH_ne (by omega)))
                    have RS4 := Lib.hid (RS3.out.keep (w' := w2.setCell ⟨A2, q0, none⟩ (.bool true)) (heap_setCell_other _ _ _ _ hA23.symm))
                    have HV4 := Lib.hid (HV3.out.setCell (p := ⟨A2, q0, none⟩) hA2' (.bool true))
                    go_upto_region 46 with fail
                    generalize w2.setCell ⟨A2, q0, none⟩ (.bool true) = w3 at *
                    clear d3 f1 f2
                    have d3 : w3.cell? ⟨g3, k, none⟩ = some (.int .i64 (q0 : Int)) := (HV4.out.cell (p := ⟨g3, k, none⟩) hg3).trans K3.out
                    obtain ⟨⟨o2, f1⟩, f2⟩ := RS4.out.room (show q0 < len0 by omega)
                    have RA5 := Lib.hid (RA4.out.keep (w' := w3.setCell ⟨A3, q0, none⟩ (.int .i64 (j : Int))) (heap_setCell_other _ _ _ _ hA13))
                    have RH5 := Lib.hid (RH4.out.keep (w' := w3.setCell ⟨A3, q0, none⟩ (.int .i64 (j : Int))) (heap_setCell_other _ _ _ _ hA23))
                    have RS5 := Lib.hid (RS4.out.upd (f' := fun p => .int .i64 (stS (q0 : Int) (some j) p (ES k p))) (v := .int .i64 (j : Int)) (show q0 < len0 by omega) (congrArg (Value.int .i64) (stS_at rfl).symm) fun p hp => congrArg (Value.int .i64) (stS_ne (by omega)))
                    have HV5 := Lib.hid (HV4.out.setCell (p := ⟨A3, q0, none⟩) hA3' (.int .i64 (j : Int)))
                    go_wp2
                    go_roundw
                    case rel => exact ⟨k + 1, by omega, by go_num, RA5.out.same (f' := fun p => .int .i64 (EA (k + 1) p)) fun p => congrArg (Value.int .i64) (STAk.out p), RH5.out.same (f' := fun p => .bool (EH (k + 1) p)) fun p => congrArg Value.bool (STHk.out p), RS5.out.same (f' := fun p => .int .i64 (ES (k + 1) p)) fun p => congrArg (Value.int .i64) (STSk.out p), HV5.out⟩
                    case measure => simp [intOf]; omega
              · have RA1 := Lib.hid (RA.out.same (f' := fun p => .int .i64 (stA act x q a10 p (EA k p))) fun p => congrArg (Value.int .i64) (stA_no (fun y => hax y.1)))
                have RH1 := RH
                have RS1 := RS
                have HV1 := HV
                go_upto_region 42 with fail
                obtain ⟨w1, hw1⟩ : ∃ w1, w1 = u9 := ⟨_, rfl⟩
                rw [← hw1] at RA1 RH1 RS1 HV1
                rw [← hw1]
                clear d4 hw1
                by_cases hxl : l < ef
                · by_cases hP : a11 = true
                  · obtain ⟨n1a, n2a, n3a⟩ := H2.out (by omega) hP
                    obtain ⟨q1, hq1⟩ : ∃ q1 : Nat, q = (q1 : Int) + 1 := ⟨(q - 1).toNat, by omega⟩
                    subst hq1
                    have hx4 : (fun i => z9.getD i 0) j < ef := by show z9.getD j 0 < ef; rw [HL.out]; exact hxl
                    have HX4 := Lib.hid hx4
                    clear hx4
                    have d9 : w1.cell? ⟨g9, j, none⟩ = some (.int .i64 l) := (HV1.out.cell (p := ⟨g9, j, none⟩) hg9).trans K9.out
                    have d3 : w1.cell? ⟨g3, k, none⟩ = some (.int .i64 ((q1 : Int) + 1)) := (HV1.out.cell (p := ⟨g3, k, none⟩) hg3).trans K3.out
                    obtain ⟨⟨o1, f1⟩, f2⟩ := RA1.out.room (show q1 < len0 by omega)
                    have b5 : (q1 : Int) < (len0 : Int) := by omega
                    go_wp2_with fail
                    go_still_tail 10, (by kernel_rfl)
                    change wpList _ _ _ _ _ (w1.drewN 1)
                    have RA2 := Lib.hid (RA1.out.keep (w' := w1.drewN 1) rfl)
                    have RH2 := Lib.hid (RH1.out.keep (w' := w1.drewN 1) rfl)
                    have RS2 := Lib.hid (RS1.out.keep (w' := w1.drewN 1) rfl)
                    have HV2 := Lib.hid (below_drewN HV1.out 1)
                    have d3 : (w1.drewN 1).cell? ⟨g3, k, none⟩ = some (.int .i64 ((q1 : Int) + 1)) := d3
                    have d9 : (w1.drewN 1).cell? ⟨g9, j, none⟩ = some (.int .i64 l) := d9
                    have f1 : (w1.drewN 1).cell? ⟨A1, q1, none⟩ = some o1 := f1
                    have f2 : (w1.drewN 1).frozen? ⟨A1, q1, none⟩ = false := f2
                    generalize w1.drewN 1 = w1d at *
                    have RA3 := Lib.hid (RA2.out.upd (f' := fun p => .int .i64 (stL ef ((q1 : Int) + 1) a11 (fun i => z9.getD i 0) (some j) p (stA act x ((q1 : Int) + 1) a10 p (EA k p)))) (v := .int .i64 l) (show q1 < len0 by omega) (congrArg (Value.int .i64) ((stL_at HX4.out hP rfl).trans HL.out).symm) fun p hp => congrArg (Value.int .i64) (stL_ne (by omega)))
                    have RH3 := Lib.hid (RH2.out.keep (w' := w1d.setCell ⟨A1, q1, none⟩ (.int .i64 l)) (heap_setCell_other _ _ _ _ hA12.symm))
                    have RS3 := Lib.hid (RS2.out.keep (w' := w1d.setCell ⟨A1, q1, none⟩ (.int .i64 l)) (heap_setCell_other _ _ _ _ hA13.symm))
                    have HV3 := Lib.hid (HV2.out.setCell (p := ⟨A1, q1, none⟩) hA1' (.int .i64 l))
                    go_upto_region 45 with fail
                    generalize w1d.setCell ⟨A1, q1, none⟩ (.int .i64 l) = w2 at *
                    clear d3 d9 f1 f2
                    have d3 : w2.cell? ⟨g3, k, none⟩ = some (.int .i64 ((q1 : Int) + 1)) := (HV3.out.cell (p := ⟨g3, k, none⟩) hg3).trans K3.out
                    obtain ⟨⟨o1, f1⟩, f2⟩ := RH3.out.room (show (q1 + 1) < len0 by omega)
                    have b6 : ((q1 : Int) + 1) < (len0 : Int) := by omega
                    have b7 : 0 ≤ ((q1 : Int) + 1) := by omega
                    have RA4 := Lib.hid (RA3.out.keep (w' := w2.setCell ⟨A2, (q1 + 1), none⟩ (.bool true)) (heap_setCell_other _ _ _ _ hA12))
                    have RH4 := Lib.hid (RH3.out.upd (f' := fun p => .bool (stH ((q1 : Int) + 1) (some j) p (EH k p))) (v := .bool true) (show (q1 + 1) < len0 by omega) (congrArg Value.bool (stH_at rfl).symm) fun p hp => congrArg Value.bool (stH_ne (by omega)))
                    have RS4 := Lib.hid (RS3.out.keep (w' := w2.setCell ⟨A2, (q1 + 1), none⟩ (.bool true)) (heap_setCell_other _ _ _ _ hA23.symm))
                    have HV4 := Lib.hid (HV3.out.setCell (p := ⟨A2, (q1 + 1), none⟩) hA2' (.bool true))
                    go_upto_region 46 with fail
                    generalize w2.setCell ⟨A2, (q1 + 1), none⟩ (.bool true) = w3 at *
                    clear d3 f1 f2
                    have d3 : w3.cell? ⟨g3, k, none⟩ = some (.int .i64 ((q1 : Int) + 1)) := (HV4.out.cell (p := ⟨g3, k, none⟩) hg3).trans K3.out
                    obtain ⟨⟨o2, f1⟩, f2⟩ := RS4.out.room (show (q1 + 1) < len0 by omega)
                    have RA5 := Lib.hid (RA4.out.keep (w' := w3.setCell ⟨A3, (q1 + 1), none⟩ (.int .i64 (j : Int))) (heap_setCell_other _ _ _ _ hA13))
                    have RH5 := Lib.hid (RH4.out.keep (w' := w3.setCell ⟨A3, (q1 + 1), none⟩ (.int .i64 (j : Int))) (heap_setCell_other _ _ _ _ hA23))
                    have RS5 := Lib.hid (RS4.out.upd (f' := fun p => .int .i64 (stS ((q1 : Int) + 1) (some j) p (ES k p))) (v := .int .i64 (j : Int)) (show (q1 + 1) < len0 by omega) (congrArg (Value.int .i64) (stS_at rfl).symm) fun p hp => congrArg (Value.int .i64) (stS_ne (by omega)))
                    have HV5 := Lib.hid (HV4.out.setCell (p := ⟨A3, (q1 + 1), none⟩) hA3' (.int .i64 (j : Int)))
                    go_wp2
                    subst hP
                    go_roundw
                    case rel => exact ⟨k + 1, by omega, by go_num, RA5.out.same (f' := fun p => .int .i64 (EA (k + 1) p)) fun p => congrArg (Value.int .i64) (STAk.out p), RH5.out.same (f' := fun p => .bool (EH (k + 1) p)) fun p => congrArg Value.bool (STHk.out p), RS5.out.same (f' := fun p => .int .i64 (ES (k + 1) p)) fun p => congrArg (Value.int .i64) (STSk.out p), HV5.out⟩
                    case measure => simp [intOf]; omega
                  · have hP2 : a11 = false := by simpa using hP
                    obtain ⟨q0, hq0⟩ : ∃ q0 : Nat, q = (q0 : Int) := ⟨q.toNat, by omega⟩
                    subst hq0
                    have hx4 : (fun i => z9.getD i 0) j < ef := by show z9.getD j 0 < ef; rw [HL.out]; exact hxl
                    have HX4 := Lib.hid hx4
                    clear hx4
                    have d9 : w1.cell? ⟨g9, j, none⟩ = some (.int .i64 l) := (HV1.out.cell (p := ⟨g9, j, none⟩) hg9).trans K9.out
                    have RA3 := Lib.hid (RA1.out.same (f' := fun p => .int .i64 (stL ef (q0 : Int) a11 (fun i => z9.getD i 0) (some j) p (stA act x (q0 : Int) a10 p (EA k p)))) fun p => congrArg (Value.int .i64) (stL_no (fun y => hP y.2)))
                    have RH3 := RH1
                    have RS3 := RS1
                    have HV3 := HV1
                    go_upto_region 45 with fail
                    obtain ⟨w2, hw2⟩ : ∃ w2, w2 = w1 := ⟨_, rfl⟩
                    rw [← hw2] at RA3 RH3 RS3 HV3
                    rw [← hw2]
                    clear d9 hw2
                    have d3 : w2.cell? ⟨g3, k, none⟩ = some (.int .i64 (q0 : Int)) := (HV3.out.cell (p := ⟨g3, k, none⟩) hg3).trans K3.out
                    obtain ⟨⟨o1, f1⟩, f2⟩ := RH3.out.room (show q0 < len0 by omega)
                    have b6 : (q0 : Int) < (len0 : Int) := by omega
                    have b7 : 0 ≤ (q0 : Int) := by omega
                    have RA4 := Lib.hid (RA3.out.keep (w' := w2.setCell ⟨A2, q0, none⟩ (.bool true)) (heap_setCell_other _ _ _ _ hA12))
                    have RH4 := Lib.hid (RH3.out.upd (f' := fun p => .bool (stH (q0 : Int) (some j) p (EH k p))) (v := .bool true) (show q0 < len0 by omega) (congrArg Value.bool (stH_at rfl).symm) fun p hp => congrArg Value.bool (stH_ne (by omega)))
                    have RS4 := Lib.hid (RS3.out.keep (w' := w2.setCell ⟨A2, q0, none⟩ (.bool true)) (heap_setCell_other _ _ _ _ hA23.symm))
                    have HV4 := Lib.hid (HV3.out.setCell (p := ⟨A2, q0, none⟩) hA2' (.bool true))
                    go_upto_region 46 with fail
                    generalize w2.setCell ⟨A2, q0, none⟩ (.bool true) = w3 at *
                    clear d3 f1 f2
                    have d3 : w3.cell? ⟨g3, k, none⟩ = some (.int .i64 (q0 : Int)) := (HV4.out.cell (p := ⟨g3, k, none⟩) hg3).trans K3.out
                    obtain ⟨⟨o2, f1⟩, f2⟩ := RS4.out.room (show q0 < len0 by omega)
                    have RA5 := Lib.hid (RA4.out.keep (w' := w3.setCell ⟨A3, q0, none⟩ (.int .i64 (j : Int))) (heap_setCell_other _ _ _ _ hA13))
                    have RH5 := Lib.hid (RH4.out.keep (w' := w3.setCell ⟨A3, q0, none⟩ (.int .i64 (j : Int))) (heap_setCell_other _ _ _ _ hA23))
                    have RS5 := Lib.hid (RS4.out.upd (f' := fun p => .int .i64 (stS (q0 : Int) (some j) p (ES k p))) (v := .int .i64 (j : Int)) (show q0 < len0 by omega) (congrArg (Value.int .i64) (stS_at rfl).symm) fun p hp => congrArg (Value.int .i64) (stS_ne (by omega)))
                    have HV5 := Lib.hid (HV4.out.setCell (p := ⟨A3, q0, none⟩) hA3' (.int .i64 (j : Int)))
                    go_wp2
                    go_roundw
                    case rel => exact ⟨k + 1, by omega, by go_num, RA5.out.same (f' := fun p => .int .i64 (EA (k + 1) p)) fun p => congrArg (Value.int .i64) (STAk.out p), RH5.out.same (f' := fun p => .bool (EH (k + 1) p)) fun p => congrArg Value.bool (STHk.out p), RS5.out.same (f' := fun p => .int .i64 (ES (k + 1) p)) fun p => congrArg (Value.int .i64) (STSk.out p), HV5.out⟩
                    case measure => simp [intOf]; omega
                · obtain ⟨q0, hq0⟩ : ∃ q0 : Nat, q = (q0 : Int) := ⟨q.toNat, by omega⟩
                  subst hq0
                  have hx4 : ¬ (fun i => z9.getD i 0) j < ef := by show ¬ z9.getD j 0 < ef; rw [HL.out]; exact hxl
                  have HX4 := Lib.hid hx4
                  clear hx4
                  have d9 : w1.cell? ⟨g9, j, none⟩ = some (.int .i64 l) := (HV1.out.cell (p := ⟨g9, j, none⟩) hg9).trans K9.out
                  have RA3 := Lib.hid (RA1.out.same (f' := fun p => .int .i64 (stL ef (q0 : Int) a11 (fun i => z9.getD i 0) (some j) p (stA act x (q0 : Int) a10 p (EA k p)))) fun p => congrArg (Value.int .i64) (stL_no (fun y => HX4.out y.1)))
                  have RH3 := RH1
                  have RS3 := RS1
                  have HV3 := HV1
                  go_upto_region 45 with fail
                  obtain ⟨w2, hw2⟩ : ∃ w2, w2 = w1 := ⟨_, rfl⟩
                  rw [← hw2] at RA3 RH3 RS3 HV3
                  rw [← hw2]
                  clear d9 hw2
                  have d3 : w2.cell? ⟨g3, k, none⟩ = some (.int .i64 (q0 : Int)) := (HV3.out.cell (p := ⟨g3, k, none⟩) hg3).trans K3.out
                  obtain ⟨⟨o1, f1⟩, f2⟩ := RH3.out.room (show q0 < len0 by omega)
                  have b6 : (q0 : Int) < (len0 : Int) := by omega
                  have b7 : 0 ≤ (q0 : Int) := by omega
                  have RA4 := Lib.hid (RA3.out.keep (w' := w2.setCell ⟨A2, q0, none⟩ (.bool true)) (heap_setCell_other _ _ _ _ hA12))
                  have RH4 := Lib.hid (RH3.out.upd (f' := fun p => .bool (stH (q0 : Int) (some j) p (EH k p))) (v := .bool true) (show q0 < len0 by omega) (congrArg Value.bool (stH_at rfl).symm) fun p hp => congrArg Value.bool (stH_ne (by omega)))
                  have RS4 := Lib.hid (RS3.out.keep (w' := w2.setCell ⟨A2, q0, none⟩ (.bool true)) (heap_setCell_other _ _ _ _ hA23.symm))
                  have HV4 := Lib.hid (HV3.out.setCell (p := ⟨A2, q0, none⟩) hA2' (.bool true))
                  go_upto_region 46 with fail
                  generalize w2.setCell ⟨A2, q0, none⟩ (.bool true) = w3 at *
                  clear d3 f1 f2
                  have d3 : w3.cell? ⟨g3, k, none⟩ = some (.int .i64 (q0 : Int)) := (HV4.out.cell (p := ⟨g3, k, none⟩) hg3).trans K3.out
                  obtain ⟨⟨o2, f1⟩, f2⟩ := RS4.out.room (show q0 < len0 by omega)
                  have RA5 := Lib.hid (RA4.out.keep (w' := w3.setCell ⟨A3, q0, none⟩ (.int .i64 (j : Int))) (heap_setCell_other _ _ _ _ hA13))
                  have RH5 := Lib.hid (RH4.out.keep (w' := w3.setCell ⟨A3, q0, none⟩ (.int .i64 (j : Int))) (heap_setCell_other _ _ _ _ hA23))
                  have RS5 := Lib.hid (RS4.out.upd (f' := fun p => .int .i64 (stS (q0 : Int) (some j) p (ES k p))) (v := .int .i64 (j : Int)) (show q0 < len0 by omega) (congrArg (Value.int .i64) (stS_at rfl).symm) fun p hp => congrArg (Value.int .i64) (stS_ne (by omega)))
                  have HV5 := Lib.hid (HV4.out.setCell (p := ⟨A3, q0, none⟩) hA3' (.int .i64 (j : Int)))
                  go_wp2
                  go_roundw
                  case rel => exact ⟨k + 1, by omega, by go_num, RA5.out.same (f' := fun p => .int .i64 (EA (k + 1) p)) fun p => congrArg (Value.int .i64) (STAk.out p), RH5.out.same (f' := fun p => .bool (EH (k + 1) p)) fun p => congrArg Value.bool (STHk.out p), RS5.out.same (f' := fun p => .int .i64 (ES (k + 1) p)) fun p => congrArg (Value.int .i64) (STSk.out p), HV5.out⟩
                  case measure => simp [intOf]; omega
          · rw [if_neg hf] at d6
            rw [decide_eq_false hf] at hip
            simp only [Bool.false_and, Bool.not_false, Bool.and_true] at hip
            have HIP := Lib.hid hip
            have b3 : (k : Int) < (fs : Int) := by omega
            clear hip dj
            generalize z4.getD k 0 = x at *
            go_wp2_with fail
            refine HIP.out.mono ?_; rintro e u9 ⟨rfl, rfl⟩
            go_wp2
            go_quiet (fail)
            go_wp2
            go_roundw
            case rel => exact ⟨k + 1, by omega, by go_num, (RA.out.same (f' := fun p => .int .i64 (EA (k + 1) p)) fun p => congrArg (Value.int .i64) (SKA.out k p hf)).keep (w' := u9.drewN nq) rfl, (RH.out.same (f' := fun p => .bool (EH (k + 1) p)) fun p => congrArg Value.bool (SKH.out k p hf)).keep (w' := u9.drewN nq) rfl, (RS.out.same (f' := fun p => .int .i64 (ES (k + 1) p)) fun p => congrArg (Value.int .i64) (SKS.out k p hf)).keep (w' := u9.drewN nq) rfl, below_drewN HV.out nq⟩
            case measure => simp [intOf]; omega
        · have hkk : k = len4 := by omega
          subst hkk
          obtain ⟨len4, rfl⟩ : ∃ n, n = k := ⟨_, rfl⟩
          obtain ⟨x, rfl⟩ : ∃ x : World, x = wr := ⟨_, rfl⟩
          have HS9 := Lib.hid (HS8.out.below hb)
          have B9 := Lib.hid (B8.out.trans (hb.mono B8.out.size))
          have hcl := codeLen_any F C Bk U pw h1 base len4 (fs : Int) c1 _ _ _ x HS9.out
          rw [LC.out] at hcl
          have HCL := Lib.hid hcl
          clear hcl hra hrh hrs hb
          go_wp2_with fail
          refine HCL.out.mono ?_; rintro e u10 ⟨rfl, rfl⟩
          obtain ⟨x, hx⟩ : ∃ x : World, x = u10 := ⟨_, rfl⟩
          have HX0 := Lib.hid (show u10 = x.drewN 0 by rw [hx]; rfl)
          rw [← hx] at HS9 B9 RA RH RS HV
          clear hx
          go_wp2_with fail
          go_loopw [41, 42, 43, 44] (fun i _ _ _ wr => ∃ m q : Nat, m ≤ len0 ∧ i = .int .i64 m ∧ wr = x.drewN q) (fun i _ _ _ _ => len0 - (intOf i).toNat)
          case atStart => exact ⟨0, 0, by omega, rfl, HX0.out⟩
          case round =>
            obtain ⟨m, q, hm, rfl, hwq⟩ := hrel
            have HWQ := Lib.hid hwq
            by_cases hml : m < len0
            · have hs : Sx wr F C Bk U pw h1 base len4 (fs : Int) c1 (fun i => z2.getD i ByteArray.empty) (fun i => z3.getD i 0) n1 := by rw [hwq]; exact HS9.out.drewN q
              have hca := codeAt_any F C Bk U pw h1 base len4 (fs : Int) c1 (fun i => z2.getD i ByteArray.empty) (fun i => z3.getD i 0) n1 m wr hs (by rw [LC.out]; exact hml) (by rw [LC.out]; omega)
              obtain ⟨g0, e0, hg0, c0⟩ := QB0.out m hml
              subst e0
              have d0 : wr.cell? ⟨g0, m, none⟩ = some (.int .u32 (z0.getD m 0)) := by
                rw [hwq]
                exact (HV.out.cell (p := ⟨g0, m, none⟩) hg0).trans c0
              have dA : wr.cell? ⟨A1, m, none⟩ = some (.int .i64 (EA len4 m)) := by rw [hwq]; exact RA.out.cell hml
              have dH : wr.cell? ⟨A2, m, none⟩ = some (.bool (EH len4 m)) := by rw [hwq]; exact RH.out.cell hml
              have dS : wr.cell? ⟨A3, m, none⟩ = some (.int .i64 (ES len4 m)) := by rw [hwq]; exact RS.out.cell hml
              have ho : Fld.W32 ((z0.take len0).getD m 0) := HW0.out m hml
              have hsp := (HSP.out m hml).tests ho
              rw [getD_take _ _ _ _ hml] at hsp ho
              obtain ⟨t1, t2, t3, t4, t5, t6, t8⟩ := hsp
              have hag := fun w' (s : Sx w' F C Bk U pw h1 base len4 (fs : Int) c1 (fun i => z2.getD i ByteArray.empty) (fun i => z3.getD i 0) n1) => argSbx_any F C Bk U pw h1 base len4 (fs : Int) c1 (fun i => z2.getD i ByteArray.empty) (fun i => z3.getD i 0) n1 m w' s (by rw [LC.out]; exact hml) (by rw [LC.out]; omega) t1
              have HCA := Lib.hid hca
              have HSW := Lib.hid hs
              have HW1 := Lib.hid t1
              have HW2 := Lib.hid ho
              have b1 : (0 : Int) ≤ (m : Int) := by omega
              have b2 : (m : Int) < (len0 : Int) := by omega
              clear hca hs hwq c0
              generalize c1.getD m 0 = cw at *
              generalize z0.getD m 0 = cv at *
              generalize EA len4 m = ev at *
              generalize EH len4 m = bh at *
              generalize ES len4 m = es at *
              have r1 : 0 ≤ cw ∧ cw ≤ 4294967295 := t1
              have r2 : 0 ≤ cv ∧ cv ≤ 4294967295 := ho
              clear t1 ho
              by_cases hev : 0 ≤ ev
              · rw [if_pos hev] at t4
                have t8 := t8 hev
                cases bh with
                | false =>
                  have t7 := t5 rfl
                  clear t5 t6 hag
                  go_wp2_with fail
                  refine HCA.out.mono ?_; rintro e u9 ⟨rfl, rfl⟩
                  go_wp2
                  go_roundw
                  case rel => exact ⟨m + 1, q, by omega, by go_num, HWQ.out⟩
                  case measure => simp [intOf]; omega
                | true =>
                  have t7 := t6 rfl
                  rw [t7] at hag
                  have HAG := Lib.hid hag
                  clear t5 t6 hag t7
                  go_wp2_with fail
                  refine HCA.out.mono ?_; rintro e u9 ⟨rfl, rfl⟩
                  go_wp2
                  go_quiet ((go_at_call 19; refine Calls.quiet_of_same (HAG.out _ ?_); exact HSW.out.drewN _))
                  go_wp2
                  go_roundw
                  case rel => exact ⟨m + 1, q + nq, by omega, by go_num, by rw [HWQ.out, World.drewN_drewN]⟩
                  case measure => simp [intOf]; omega
              · rw [if_neg hev] at t4
                clear t8
                cases bh with
                | false =>
                  have t7 := t5 rfl
                  clear t5 t6 hag
                  go_wp2_with fail
                  refine HCA.out.mono ?_; rintro e u9 ⟨rfl, rfl⟩
                  go_wp2
                  go_roundw
                  case rel => exact ⟨m + 1, q, by omega, by go_num, HWQ.out⟩
                  case measure => simp [intOf]; omega
                | true =>
                  have t7 := t6 rfl
                  rw [t7] at hag
                  have HAG := Lib.hid hag
                  clear t5 t6 hag t7
                  go_wp2_with fail
                  refine HCA.out.mono ?_; rintro e u9 ⟨rfl, rfl⟩
                  go_wp2
                  go_quiet ((go_at_call 19; refine Calls.quiet_of_same (HAG.out _ ?_); exact HSW.out.drewN _))
                  go_wp2
                  go_roundw
                  case rel => exact ⟨m + 1, q + nq, by omega, by go_num, by rw [HWQ.out, World.drewN_drewN]⟩
                  case measure => simp [intOf]; omega
            · have hmm : m = len0 := by omega
              subst hmm
              clear hwq
              go_wp2
              go_ret
              exact ⟨rfl, by rw [HWQ.out]; exact below_drewN (HB0.out.trans (B9.out.mono HB0.out.size)) _⟩

end Go.Proofs.YtiihgamhmflphaaFmt.fnResolveCurrentBlockGotosPatchesExactlyAsModelled
