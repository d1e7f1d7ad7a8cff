/- The walk of FnResolveCurrentBlockGotosIsIdempotent. Printed by mkblk.py. -/
import Derived.Test.YtiihgamhmflphaaFmtBlkSpec116
import Derived.Test.YtiihgamhmflphaaFmtBlkPrem116
import Derived.Test.YtiihgamhmflphaaFmtBlkBytes116
import Derived.Deep.Cut
namespace Go.Proofs.YtiihgamhmflphaaFmt.fnResolveCurrentBlockGotosIsIdempotent
open Go.RowKit Go.Maps
set_option linter.unusedVariables false

set_option maxHeartbeats 40000000 in
set_option maxRecDepth 100000 in
theorem walk (a0 : Option Addr) (len0 cap0 : Nat) (z0 : List Int) (a1 : Int) (a2 : Option Addr) (len2 cap2 : Nat) (z2 : List ByteArray) (a3 : Option Addr) (len3 cap3 : Nat) (z3 : List Int) (a4 : Option Addr) (len4 cap4 : Nat) (z4 : List Int) (a5 : Int) (a6 : Int) (a7 : Int) (a8 : Option Addr) (len8 cap8 : Nat) (z8 : List ByteArray) (a9 : Option Addr) (len9 cap9 : Nat) (z9 : List Int) (a10 : Bool) (a11 : Bool) (w : World) (w0 : IsRow .u32 w a0 len0 cap0 z0) (w1 : (Lit.int .i64 a1).wf = true) (w2 : IsStrs w a2 len2 cap2 z2) (w3 : IsRow .i64 w a3 len3 cap3 z3) (w4 : IsRow .i64 w a4 len4 cap4 z4) (w5 : (Lit.int .i64 a5).wf = true) (w6 : (Lit.int .i64 a6).wf = true) (w7 : (Lit.int .i64 a7).wf = true) (w8 : IsStrs w a8 len8 cap8 z8) (w9 : IsRow .i64 w a9 len9 cap9 z9) :
    Calls Tryf.prog 6 #[.slice a0 len0 cap0, .int .i64 a1, .slice a2 len2 cap2, .slice a3 len3 cap3, .slice a4 len4 cap4, .int .i64 a5, .int .i64 a6, .int .i64 a7, .slice a8 len8 cap8, .slice a9 len9 cap9, .bool a10, .bool a11] w fun e w' => e = .returned (.bool true) ∧ Below w.heap.size w w' := by
  have HBY := Lib.hid (bytesI_any a0 len0 cap0 a1 a2 len2 cap2 z2 a3 len3 cap3 a4 len4 cap4 a5 a6 a7 a8 len8 cap8 z8 a9 len9 cap9 a10 a11 w w2 w8 (InRow.len_le w0).2 (InRow.len_le w3).2 (InRow.len_le w4).2 (InRow.len_le w9).2)
  have W0 := Lib.hid w0
  have W2 := Lib.hid w2
  have W3 := Lib.hid w3
  have W4 := Lib.hid w4
  have W8 := Lib.hid w8
  have W9 := Lib.hid w9
  have Z0 := Lib.hid (InRow.len_le w0).1
  have Z2 := Lib.hid (InRow.len_le w2).1
  have Z3 := Lib.hid (InRow.len_le w3).1
  have Z4 := Lib.hid (InRow.len_le w4).1
  have Z8 := Lib.hid (InRow.len_le w8).1
  have Z9 := Lib.hid (InRow.len_le w9).1
  have hw0 : ∀ i, i < len0 → Fld.W32 ((z0.take len0).getD i 0) := fun i hi => by
    rw [getD_take _ _ _ _ hi]
    rcases w0 with ⟨_, h1, _⟩ | ⟨x, _, h1, _, h3, _, h5⟩
    · omega
    · have hl : i < z0.length := by omega
      have e : z0.getD i 0 = z0[i] := by simp [List.getD, hl]
      rw [e]
      have := h5 _ (List.getElem_mem hl)
      simpa [Lit.wf, IntKind.min, IntKind.max, IntKind.signed, IntKind.bits, Fld.W32] using this
  have HW0 := Lib.hid hw0
  have WFZ := Lib.hid (show ∀ x ∈ z0.take len0, (Lit.int .u32 x).wf = true from fun x hx => by
    rcases w0 with ⟨_, _, _, h1⟩ | ⟨y, _, _, _, _, _, h5⟩
    · rw [h1] at hx; simp at hx
    · exact h5 x (List.mem_of_mem_take hx))
  clear w0 w1 w2 w3 w4 w5 w6 w7 w8 w9 hw0
  go_enter Tryf.func6, Tryf.ntmps6
  go_wp2_with fail
  refine HBY.out.mono ?_; rintro e u0 ⟨b, rfl, rfl, hbt⟩
  cases b with
  | false =>
    go_wp2
    go_ret
    exact ⟨rfl, Below.refl _ _⟩
  | true =>
  obtain ⟨hn0, hn2, hsz, hn3, hn4, hn8, hsz8, hn9⟩ := hbt rfl
  have HSZ := Lib.hid hsz
  have HSZ8 := Lib.hid hsz8
  clear hbt HBY hsz hsz8
  go_wp2_with fail
  refine (blockBytes_any a0 len0 cap0 a2 len2 cap2 z2 a3 len3 cap3 a4 len4 cap4 a8 len8 cap8 z8 a9 len9 cap9 _ W2.out W8.out hn0 hn2 hn3 hn4 hn8 hn9 HSZ.out HSZ8.out).mono ?_; rintro e u1 ⟨t, rfl, rfl, ht⟩
  by_cases hc : 1048576 < t
  · go_wp2
    go_ret
    exact ⟨rfl, Below.refl _ _⟩
  have hl0 : len0 ≤ 262144 := by omega
  clear ht
  go_wp2_with fail
  refine (blockPrem_any a0 len0 cap0 a1 a2 len2 cap2 z2 a3 len3 cap3 z3 a4 len4 cap4 z4 a5 a6 a7 a8 len8 cap8 z8 a9 len9 cap9 z9 a10 a11 _ W2.out W3.out W4.out W8.out W9.out hn0 hn2 hn3 hn4 hn8 hn9 HSZ.out HSZ8.out).mono ?_; rintro e v0 ⟨b, pj, rfl, hb0, hok⟩
  cases b with
  | false =>
    go_wp2
    go_ret
    exact ⟨rfl, hb0⟩
  | true =>
  obtain ⟨⟨hm2, hm8, h3, h4, h9, hg0, hg1, hp0, hp1, hv0, hv1, hf0, hf1, hall⟩, JS, hpj, hjs⟩ := hok rfl
  subst h3
  subst h4
  subst h9
  subst hpj
  obtain ⟨fs, rfl⟩ := Int.eq_ofNat_of_zero_le hf0
  obtain ⟨gn, rfl⟩ := Int.eq_ofNat_of_zero_le hg0
  obtain ⟨pn, rfl⟩ := Int.eq_ofNat_of_zero_le hp0
  obtain ⟨bn, rfl⟩ := Int.eq_ofNat_of_zero_le hv0
  have hfs : fs ≤ len4 := by omega
  have efs : ((fs : Nat) : Int).toNat = fs := by omega
  rw [efs] at hall hjs
  have HALL := Lib.hid hall
  have HJS := Lib.hid hjs
  have W0' := Lib.hid (InRow.keep W0.out hb0)
  have W2' := Lib.hid (InRow.keep W2.out hb0)
  have W3' := Lib.hid (InRow.keep W3.out hb0)
  have W4' := Lib.hid (InRow.keep W4.out hb0)
  have W8' := Lib.hid (InRow.keep W8.out hb0)
  have W9' := Lib.hid (InRow.keep W9.out hb0)
  have HB0 := Lib.hid hb0
  clear hok hall W0 W2 W3 W4 W8 W9 hjs efs hb0
  have L0 := Lib.hid (show (z0.take len0).length = len0 by have := Z0.out; simp; omega)
  go_wp2_with fail
  refine (cloneU32_any a0 len0 cap0 z0 _ W0'.out (by omega)).mono ?_; rintro e v1 ⟨v, rfl, hown, hb⟩
  obtain ⟨p0, hv⟩ := own_form hown
  rw [L0.out] at hv
  subst hv
  have HQ0 := Lib.hid (own_cq 0 hown Z0.out)
  have HR1 := Lib.hid hown
  have B1 := Lib.hid hb
  clear hown hb
  go_wp2_with fail
  refine (cloneStrs_any a2 len4 cap2 z2 _ (InRow.keep W2'.out (B1.out.mono (Nat.le_refl _))) (by omega)).mono ?_; rintro e v2 ⟨v, rfl, hown, hb⟩
  obtain ⟨p2, hv⟩ := own_form hown
  rw [show (z2.take len4).length = len4 by have := Z2.out; simp; omega] at hv
  subst hv
  have HQ2 := Lib.hid (own_cq ByteArray.empty hown Z2.out)
  have HQ0 := Lib.hid (HQ0.out.below hb)
  have HR2 := Lib.hid (own_keep HR1.out fun x a hx => hb.block x (lt_of_block hx))
  have B2 := Lib.hid (B1.out.trans (hb.mono B1.out.size))
  clear hown hb
  go_wp2_with fail
  refine (cloneInts_any a3 len4 cap3 z3 _ (InRow.keep W3'.out (B2.out.mono (Nat.le_refl _))) (by omega)).mono ?_; rintro e v3 ⟨v, rfl, hown, hb⟩
  obtain ⟨p3, hv⟩ := own_form hown
  rw [show (z3.take len4).length = len4 by have := Z3.out; simp; omega] at hv
  subst hv
  have HQ3 := Lib.hid (own_cq 0 hown Z3.out)
  have HQ0 := Lib.hid (HQ0.out.below hb)
  have HQ2 := Lib.hid (HQ2.out.below hb)
  have HR3 := Lib.hid (own_keep HR2.out fun x a hx => hb.block x (lt_of_block hx))
  have B3 := Lib.hid (B2.out.trans (hb.mono B2.out.size))
  clear hown hb
  go_wp2_with fail
  refine (cloneInts_any a4 len4 cap4 z4 _ (InRow.keep W4'.out (B3.out.mono (Nat.le_refl _))) (by omega)).mono ?_; rintro e v4 ⟨v, rfl, hown, hb⟩
  obtain ⟨p4, hv⟩ := own_form hown
  rw [show (z4.take len4).length = len4 by have := Z4.out; simp; omega] at hv
  subst hv
  have HQ4 := Lib.hid (own_cq 0 hown Z4.out)
  have HQ0 := Lib.hid (HQ0.out.below hb)
  have HQ2 := Lib.hid (HQ2.out.below hb)
  have HQ3 := Lib.hid (HQ3.out.below hb)
  have HR4 := Lib.hid (own_keep HR3.out fun x a hx => hb.block x (lt_of_block hx))
  have B4 := Lib.hid (B3.out.trans (hb.mono B3.out.size))
  clear hown hb
  go_wp2_with fail
  refine (cloneStrs_any a8 len9 cap8 z8 _ (InRow.keep W8'.out (B4.out.mono (Nat.le_refl _))) (by omega)).mono ?_; rintro e v5 ⟨v, rfl, hown, hb⟩
  obtain ⟨p8, hv⟩ := own_form hown
  rw [show (z8.take len9).length = len9 by have := Z8.out; simp; omega] at hv
  subst hv
  have HQ8 := Lib.hid (own_cq ByteArray.empty hown Z8.out)
  have HQ0 := Lib.hid (HQ0.out.below hb)
  have HQ2 := Lib.hid (HQ2.out.below hb)
  have HQ3 := Lib.hid (HQ3.out.below hb)
  have HQ4 := Lib.hid (HQ4.out.below hb)
  have HR5 := Lib.hid (own_keep HR4.out fun x a hx => hb.block x (lt_of_block hx))
  have B5 := Lib.hid (B4.out.trans (hb.mono B4.out.size))
  clear hown hb
  go_wp2_with fail
  refine (cloneInts_any a9 len9 cap9 z9 _ (InRow.keep W9'.out (B5.out.mono (Nat.le_refl _))) (by omega)).mono ?_; rintro e v6 ⟨v, rfl, hown, hb⟩
  obtain ⟨p9, hv⟩ := own_form hown
  rw [show (z9.take len9).length = len9 by have := Z9.out; simp; omega] at hv
  subst hv
  have HQ9 := Lib.hid (own_cq 0 hown Z9.out)
  have HQ0 := Lib.hid (HQ0.out.below hb)
  have HQ2 := Lib.hid (HQ2.out.below hb)
  have HQ3 := Lib.hid (HQ3.out.below hb)
  have HQ4 := Lib.hid (HQ4.out.below hb)
  have HQ8 := Lib.hid (HQ8.out.below hb)
  have HR6 := Lib.hid (own_keep HR5.out fun x a hx => hb.block x (lt_of_block hx))
  have B6 := Lib.hid (B5.out.trans (hb.mono B5.out.size))
  clear hown hb
  obtain ⟨base, hbase⟩ : ∃ b, b = v0.heap.size := ⟨_, rfl⟩
  rw [← hbase] at HR6
  have hbs : base ≤ v6.heap.size := by rw [hbase]; exact B6.out.size
  have HBASE := Lib.hid hbase
  have BV6 := Lib.hid (Below.refl v6.heap.size v6)
  clear hbase
  go_wp2_with fail
  refine (buildB_any base len4 fs (z0.take len0) (fun i => z2.getD i ByteArray.empty) (fun i => z3.getD i 0) (fun i => z4.getD i 0) p0 (fun i => z8.getD i ByteArray.empty) (fun i => z9.getD i 0) len0 len9 gn pn bn p2 p3 p4 p8 p9 a10 a11 _ L0.out hbs HR6.out (by omega) (by omega) (by omega) (by omega) (by omega) (by omega) (fun j hj => Nat.le_trans (HSZ8.out j (by omega)) (by unfold maxLen; omega)) HQ2.out HQ3.out HQ4.out HQ8.out HQ9.out).mono ?_; rintro e v7 ⟨F, C, Bk, U, h, G, P, Q, Lm, GS, E, rfl, hs, henv, hlb, hgs, hG, hh, hLU, hE, hgr, hb⟩
  have HS := Lib.hid hs
  have HENV := Lib.hid henv
  have HLB := Lib.hid hlb
  have HGS := Lib.hid hgs
  have HG := Lib.hid hG
  have HH := Lib.hid hh
  have HGR := Lib.hid hgr
  have hEb : base ≤ E := Nat.le_trans hbs hE
  have BX7 := Lib.hid hb
  have B7 := Lib.hid (B6.out.trans (hb.mono B6.out.size))
  have HNM := Lib.hid (show ∀ i, i < len4 → ((fun i => z2.getD i ByteArray.empty) i).size ≤ maxLen from fun i hi => Nat.le_trans (HSZ.out i (by omega)) (by unfold maxLen; omega))
  have HWS := Lib.hid (show Ws (z0.take len0) from fun i hi => HW0.out i (by rw [← L0.out]; exact hi))
  have HPRE := Lib.hid (show ∀ i, fs ≤ i → i < len4 → PBk ((gn : Int) + (pn : Int)) ((fun i => z4.getD i 0) i) (nAct ((gn : Int) + (pn : Int)) ((fun i => z4.getD i 0) i)) ((fun i => z3.getD i 0) i) (z0.take len0).length a10 a11 (flx (fun i => z8.getD i ByteArray.empty) ((fun i => z2.getD i ByteArray.empty) i) len9) (fun i => z9.getD i 0) from fun i h1 h2 => by
    rw [L0.out]
    exact HALL.out i h1 h2)
  clear hs henv hlb hgs hG hh hgr hb hE
  go_wp2_with fail
  refine (resolve1_any F C Bk U p0 h base len4 fs (z0.take len0) (fun i => z2.getD i ByteArray.empty) (fun i => z3.getD i 0) (fun i => z4.getD i 0) E G GS P Q Lm pn gn a10 a11 (fun i => z8.getD i ByteArray.empty) (fun i => z9.getD i 0) len9 _ HS.out (HENV.out) HLB.out HGS.out HG.out hLU hEb hfs (by omega) (by omega) (by omega) HNM.out HPRE.out HWS.out (by rw [L0.out]; omega) HGR.out).mono ?_; rintro e v8 ⟨rfl, hs, henv, hlb, hgs, hgr, hb⟩
  have HS8 := Lib.hid hs
  have HENV8 := Lib.hid henv
  have HLB8 := Lib.hid hlb
  have HGS8 := Lib.hid hgs
  have HGR8 := Lib.hid hgr
  have B8 := Lib.hid (B7.out.trans (hb.mono (by rw [HBASE.out]; exact Nat.le_refl _)))
  have LC := Lib.hid (show (blkC h (fun i => z2.getD i ByteArray.empty) (fun i => z8.getD i ByteArray.empty) len9 (fun i => z3.getD i 0) (fun i => z4.getD i 0) (fun i => z9.getD i 0) ((gn : Int) + (pn : Int)) a10 a11 fs (z0.take len0) (len4 - fs)).length = len0 by rw [blkC_len]; exact L0.out)
  have HP1 := Lib.hid (fun i => blkH_some (ns := (fun i => z2.getD i ByteArray.empty)) (lns := (fun i => z8.getD i ByteArray.empty)) (J := len9) HH.out hfs i)
  have HN1 := Lib.hid (fun i (hi : i < len4) => blkN_eq (nu := (fun i => z4.getD i 0)) (act := ((gn : Int) + (pn : Int))) HH.out hfs hi)
  have HPASS := Lib.hid (fun i => pass2 (ns := (fun i => z2.getD i ByteArray.empty)) (lns := (fun i => z8.getD i ByteArray.empty)) (J := len9) (nu := (fun i => z4.getD i 0)) (act := ((gn : Int) + (pn : Int))) HH.out hfs i)
  clear hs henv hlb hgs hgr hb HS HENV HLB HGS HGR
  obtain ⟨pd, hpd⟩ : ∃ f : Nat → Value, f = fun i => .bool (blkH h (fun i => z2.getD i ByteArray.empty) (fun i => z8.getD i ByteArray.empty) len9 fs (len4 - fs) i).isSome := ⟨_, rfl⟩
  obtain ⟨av, hav⟩ : ∃ f : Nat → Value, f = fun i => .int .i64 (blkN h (fun i => z4.getD i 0) ((gn : Int) + (pn : Int)) fs (len4 - fs) i) := ⟨_, rfl⟩
  obtain ⟨sn, hsn⟩ : ∃ f : Nat → Value, f = fun i => .int .u32 ((blkC h (fun i => z2.getD i ByteArray.empty) (fun i => z8.getD i ByteArray.empty) len9 (fun i => z3.getD i 0) (fun i => z4.getD i 0) (fun i => z9.getD i 0) ((gn : Int) + (pn : Int)) a10 a11 fs (z0.take len0) (len4 - fs)).getD i 0) := ⟨_, rfl⟩
  have HPD := Lib.hid hpd
  have HAV := Lib.hid hav
  have HSN := Lib.hid hsn
  clear hpd hav hsn HP1 HN1 HPRE HALL HWS
  generalize blkH h (fun i => z2.getD i ByteArray.empty) (fun i => z8.getD i ByteArray.empty) len9 fs (len4 - fs) = h1 at *
  generalize blkN h (fun i => z4.getD i 0) ((gn : Int) + (pn : Int)) fs (len4 - fs) = n1 at *
  generalize blkC h (fun i => z2.getD i ByteArray.empty) (fun i => z8.getD i ByteArray.empty) len9 (fun i => z3.getD i 0) (fun i => z4.getD i 0) (fun i => z9.getD i 0) ((gn : Int) + (pn : Int)) a10 a11 fs (z0.take len0) (len4 - fs) = c1 at *
  have HPASS' := Lib.hid (show ∀ i, fs ≤ i → i < len4 → (h1 i).isSome = true → ¬ (((gn : Int) + (pn : Int)) < n1 i) ∧ flx (fun i => z8.getD i ByteArray.empty) ((fun i => z2.getD i ByteArray.empty) i) len9 = none from HPASS.out)
  have hmk := makeB len4 (by omega)
  have hmi := makeInts len4 (by omega)
  have hsz1 := size_madeCells (Value.cells (.bool false)) len4
  have hsz2 : (List.replicate len4 (Value.int .i64 0)).toArray.size = len4 := by simp
  generalize madeCells (Value.cells (.bool false)) len4 = mb at *
  generalize (List.replicate len4 (Value.int .i64 0)).toArray = mi at *
  have hG12 : (v8.alloc (.cells mb 4)).heap.size = v8.heap.size + 1 := by simp
  have HRV := Lib.hid (⟨mb, heap_alloc2_old _ _ _, by simpa using hsz1, fun i hi => absurd hi (by omega)⟩ : RowV 4 pd ((v8.alloc (.cells mb 4)).alloc (.cells mi 3)) v8.heap.size len4 0)
  have HRA := Lib.hid (⟨mi, heap_alloc2_new _ _ _, hsz2, fun i hi => absurd hi (by omega)⟩ : RowV 3 av ((v8.alloc (.cells mb 4)).alloc (.cells mi 3)) (v8.heap.size + 1) len4 0)
  have HV1 := Lib.hid (((Below.refl v8.heap.size v8).alloc (Nat.le_refl _) (.cells mb 4)).alloc (by rw [hG12]; omega) (.cells mi 3))
  clear hsz1 hsz2
  obtain ⟨G1, hG1⟩ : ∃ g, g = v8.heap.size := ⟨_, rfl⟩
  obtain ⟨G2, hG2⟩ : ∃ g, g = v8.heap.size + 1 := ⟨_, rfl⟩
  rw [← hG1] at HRV
  rw [← hG2] at HRA
  go_wp2_with fail
  generalize (v8.alloc (.cells mb 4)).alloc (.cells mi 3) = vA at *
  rw [← hG1, show G1 + 1 = G2 by omega]
  have hG1' : v8.heap.size ≤ G1 := by omega
  have hG2' : v8.heap.size ≤ G2 := by omega
  have hne : G1 ≠ G2 := by omega
  clear hmk hmi hG1 hG2 hG12
  go_loopw [32] (fun i wr => ∃ k : Nat, k ≤ len4 ∧ i = .int .i64 k ∧ RowV 4 pd wr G1 len4 k ∧ RowV 3 av wr G2 len4 k ∧ Below v8.heap.size v8 wr) (fun i _ => len4 - (intOf i).toNat)
  case atStart => exact ⟨0, by omega, rfl, HRV.out, HRA.out, HV1.out⟩
  case round =>
    obtain ⟨k, hk, rfl, hrv, hra, hb⟩ := hrel
    have HRV := Lib.hid hrv
    have HRA := Lib.hid hra
    have HV := Lib.hid hb
    by_cases hkl : k < len4
    · obtain ⟨⟨v0, e3⟩, e4⟩ := hrv.room hkl
      have hs := HS8.out.below hb
      have HP := Lib.hid (isPending_any F C Bk U p0 h1 base len4 (fs : Int) c1 (fun i => z2.getD i ByteArray.empty) (fun i => z3.getD i 0) n1 k wr hs (by omega))
      have EV := Lib.hid (show Value.bool (h1 k).isSome = pd k by rw [HPD.out])
      have EA := Lib.hid (show Value.int .i64 (n1 k) = av k by rw [HAV.out])
      generalize (h1 k).isSome = bv at *
      have d1 := cell_above (o := k) (v := .bool bv) hG1' HGR8.out.lt ((hb.cell (p := ⟨GS, k, none⟩) HGR8.out.lt).trans (HGR8.out.cell hkl))
      have d2 := cell_above (o := k) (v := .bool bv) hG1' (HGS8.out.lt hkl) ((hb.cell (p := ⟨G k, 4, none⟩) (HGS8.out.lt hkl)).trans (HGS8.out.c4 hkl))
      have HRV1 := Lib.hid (hrv.set hkl EV.out)
      have HRA1 := Lib.hid (hra.keep (w' := wr.setCell ⟨G1, k, none⟩ (.bool bv)) (heap_setCell_other _ _ _ _ hne.symm))
      have HVV1 := Lib.hid (hb.setCell (p := ⟨G1, k, none⟩) hG1' (.bool bv))
      obtain ⟨⟨v5, e5⟩, e6⟩ := HRA1.out.room hkl
      clear hrv hra hb hs
      generalize n1 k = nk at *
      generalize G k = gk at *
      have b1 : (0 : Int) ≤ (k : Int) := by omega
      have b2 : (k : Int) < (len4 : Int) := by omega
      go_wp2_with fail
      refine HP.out.mono ?_; rintro e u9 ⟨rfl, rfl⟩
      go_upto_region 23 with fail
      generalize u9.setCell ⟨G1, k, none⟩ (.bool bv) = ws at *
      clear HP HRV HRA HV e3 e4
      go_wp2
      go_roundw
      case rel => exact ⟨k + 1, by omega, by go_num, HRV1.out.keep (heap_setCell_other _ _ _ _ hne), HRA1.out.set hkl EA.out, HVV1.out.setCell (p := ⟨G2, k, none⟩) hG2' _⟩
      case measure => simp [intOf]; omega
    · have hkk : k = len4 := by omega
      subst hkk
      obtain ⟨v9, rfl⟩ : ∃ v9 : World, v9 = wr := ⟨_, rfl⟩
      obtain ⟨len4, rfl⟩ : ∃ n, n = k := ⟨_, rfl⟩
      have hmk := makeU32 len0 (by omega)
      clear hrv hra hb
      have HS9 := Lib.hid (HS8.out.below HV.out)
      have HENV9 := Lib.hid (EnvB.keep HENV8.out fun k hk => HV.out.block k hk)
      have HLB9 := Lib.hid (LbE.keep HLB8.out fun k hk => HV.out.block k hk)
      have HGS9 := Lib.hid (HGS8.out.below HV.out)
      have HGR9 := Lib.hid (HGR8.out.keep (HV.out.block GS HGR8.out.lt))
      have B9 := Lib.hid (B8.out.trans (HV.out.mono B8.out.size))
      have HRS := Lib.hid (⟨(List.replicate len0 (.int .u32 0)).toArray, heap_alloc_new _ _, by simp, fun i hi => absurd hi (by omega)⟩ : RowV 39 sn (v9.alloc (.cells (List.replicate len0 (.int .u32 0)).toArray 39)) v9.heap.size len0 0)
      have HV2 := Lib.hid ((Below.refl v9.heap.size v9).alloc (Nat.le_refl _) (.cells (List.replicate len0 (.int .u32 0)).toArray 39))
      clear HS8 HENV8 HLB8 HGS8 HGR8 HV HV1
      generalize (List.replicate len0 (Value.int .u32 0)).toArray = mu at *
      go_wp2_with fail
      obtain ⟨G3, hG3⟩ : ∃ g, g = v9.heap.size := ⟨_, rfl⟩
      rw [← hG3] at HRS
      rw [← hG3]
      have hG3' : v9.heap.size ≤ G3 := by omega
      clear hmk hG3
      go_loopw [34] (fun i wr => ∃ k : Nat, k ≤ len0 ∧ i = .int .i64 k ∧ RowV 39 sn wr G3 len0 k ∧ Below v9.heap.size v9 wr) (fun i _ => len0 - (intOf i).toNat)
      case atStart => exact ⟨0, by omega, rfl, HRS.out, HV2.out⟩
      case round =>
        obtain ⟨k, hk, rfl, hrs, hb⟩ := hrel
        have HRS := Lib.hid hrs
        have HV9 := Lib.hid hb
        by_cases hkl : k < len0
        · obtain ⟨⟨v0, e3⟩, e4⟩ := hrs.room hkl
          have hs := HS9.out.below hb
          have HP := Lib.hid (codeAt_any F C Bk U p0 h1 base len4 (fs : Int) c1 (fun i => z2.getD i ByteArray.empty) (fun i => z3.getD i 0) n1 k wr hs (by rw [LC.out]; exact hkl) (by rw [LC.out]; omega))
          have EV := Lib.hid (show Value.int .u32 (c1.getD k 0) = sn k by rw [HSN.out])
          clear hrs hb hs
          generalize c1.getD k 0 = cv at *
          have b1 : (0 : Int) ≤ (k : Int) := by omega
          have b2 : (k : Int) < (len0 : Int) := by omega
          go_wp2_with fail
          refine HP.out.mono ?_; rintro e u9 ⟨rfl, rfl⟩
          go_wp2
          go_roundw
          case rel => exact ⟨k + 1, by omega, by go_num, HRS.out.set hkl EV.out, HV9.out.setCell (p := ⟨G3, k, none⟩) hG3' _⟩
          case measure => simp [intOf]; omega
        · have hkk : k = len0 := by omega
          subst hkk
          obtain ⟨x, rfl⟩ : ∃ x : World, x = wr := ⟨_, rfl⟩
          obtain ⟨len0, rfl⟩ : ∃ n, n = k := ⟨_, rfl⟩
          clear hrs hb
          have HS10 := Lib.hid (HS9.out.below HV9.out)
          have HENV10 := Lib.hid (EnvB.keep HENV9.out fun k hk => HV9.out.block k hk)
          have HLB10 := Lib.hid (LbE.keep HLB9.out fun k hk => HV9.out.block k hk)
          have HGS10 := Lib.hid (HGS9.out.below HV9.out)
          have HGR10 := Lib.hid (HGR9.out.keep (HV9.out.block GS HGR9.out.lt))
          have B10 := Lib.hid (B9.out.trans (HV9.out.mono B9.out.size))
          have HR10 := Lib.hid (HRV.out.keep (HV9.out.block G1 HRV.out.lt))
          have HA10 := Lib.hid (HRA.out.keep (HV9.out.block G2 HRA.out.lt))
          clear HS9 HENV9 HLB9 HGS9 HGR9 B9 HRV HRA
          go_wp2_with fail
          refine (resolve2_any F C Bk U p0 h1 base len4 fs c1 (fun i => z2.getD i ByteArray.empty) (fun i => z3.getD i 0) n1 E P Q Lm pn gn a10 a11 (fun i => z8.getD i ByteArray.empty) (fun i => z9.getD i 0) len9 _ HS10.out HENV10.out HLB10.out hfs (by omega) (by omega) (by omega) HNM.out (fun i h1 h2 h3 => ⟨by have := (HPASS'.out i h1 h2 h3).1; omega, (HPASS'.out i h1 h2 h3).2⟩)).mono ?_; rintro e v10 ⟨rfl, rfl⟩
          obtain ⟨x, hx⟩ : ∃ x : World, x = v10 := ⟨_, rfl⟩
          have HX0 := Lib.hid (show v10 = x.drewN 0 by rw [hx]; rfl)
          rw [← hx] at HS10 HGS10 HGR10 B10 HR10 HA10 HRS
          clear hx HENV10 HLB10
          go_wp2_with fail
          go_loopw [35] (fun i wr => ∃ m q : Nat, m ≤ len4 ∧ i = .int .i64 m ∧ wr = x.drewN q) (fun i _ => len4 - (intOf i).toNat)
          case atStart => exact ⟨0, 0, by omega, rfl, HX0.out⟩
          case round =>
            obtain ⟨m, q, hm, rfl, hwq⟩ := hrel
            have HWQ := Lib.hid hwq
            by_cases hml : m < len4
            · have d1 : wr.cell? ⟨G1, m, none⟩ = some (.bool (h1 m).isSome) := by
                rw [hwq, ← show pd m = Value.bool (h1 m).isSome by rw [HPD.out]]
                exact HR10.out.cell hml
              have d2 : wr.cell? ⟨G2, m, none⟩ = some (.int .i64 (n1 m)) := by
                rw [hwq, ← show av m = Value.int .i64 (n1 m) by rw [HAV.out]]
                exact HA10.out.cell hml
              have d3 : wr.cell? ⟨GS, m, none⟩ = some (.pointer (some ⟨G m, 0, none⟩)) := by
                rw [hwq]
                exact HGR10.out.cell hml
              have d4 : wr.cell? ⟨G m, 4, none⟩ = some (.int .i64 (n1 m)) := by
                rw [hwq]
                exact HGS10.out.c4 hml
              have hs : Sx wr F C Bk U p0 h1 base len4 (fs : Int) c1 (fun i => z2.getD i ByteArray.empty) (fun i => z3.getD i 0) n1 := by rw [hwq]; exact HS10.out.drewN q
              have hat := fun w' (s : Sx w' F C Bk U p0 h1 base len4 (fs : Int) c1 (fun i => z2.getD i ByteArray.empty) (fun i => z3.getD i 0) n1) => isPending_any F C Bk U p0 h1 base len4 (fs : Int) c1 (fun i => z2.getD i ByteArray.empty) (fun i => z3.getD i 0) n1 m w' s (by omega)
              have b1 : (0 : Int) ≤ (m : Int) := by omega
              have b2 : (m : Int) < (len4 : Int) := by omega
              generalize n1 m = nm at d2 d4
              generalize G m = gm at d3 d4
              cases hq : (h1 m).isSome with
              | false =>
                rw [hq] at hat d1
                have HAT := Lib.hid hat
                have HSW := Lib.hid hs
                clear hat hs hwq hq
                go_wp2
                go_quiet ((go_at_call 16; refine Calls.quiet_of_same (HAT.out _ ?_); exact HSW.out.drewN _))
                go_wp2
                go_roundw
                case rel => exact ⟨m + 1, q + nq, by omega, by go_num, by rw [HWQ.out, World.drewN_drewN]⟩
                case measure => simp [intOf]; omega
              | true =>
                rw [hq] at hat d1
                have HAT := Lib.hid hat
                have HSW := Lib.hid hs
                clear hat hs hwq hq
                go_wp2
                go_quiet ((go_at_call 16; refine Calls.quiet_of_same (HAT.out _ ?_); exact HSW.out.drewN _))
                go_wp2
                go_roundw
                case rel => exact ⟨m + 1, q + nq, by omega, by go_num, by rw [HWQ.out, World.drewN_drewN]⟩
                case measure => simp [intOf]; omega
            · have hmm : m = len4 := by omega
              subst hmm
              obtain ⟨len4, rfl⟩ : ∃ n, n = m := ⟨_, rfl⟩
              clear hwq
              go_wp2_with fail
              go_loopw [36] (fun i wr => ∃ m q : Nat, m ≤ len0 ∧ i = .int .i64 m ∧ wr = x.drewN q) (fun i _ => len0 - (intOf i).toNat)
              case atStart => exact ⟨0, q, by omega, rfl, HWQ.out⟩
              case round =>
                obtain ⟨m, q, hm, rfl, hwq⟩ := hrel
                have HWQ := Lib.hid hwq
                by_cases hml : m < len0
                · have d1 : wr.cell? ⟨G3, m, none⟩ = some (.int .u32 (c1.getD m 0)) := by
                    rw [hwq, ← show sn m = Value.int .u32 (c1.getD m 0) by rw [HSN.out]]
                    exact HRS.out.cell hml
                  have hs : Sx wr F C Bk U p0 h1 base len4 (fs : Int) c1 (fun i => z2.getD i ByteArray.empty) (fun i => z3.getD i 0) n1 := by rw [hwq]; exact HS10.out.drewN q
                  have hat := fun w' (s : Sx w' F C Bk U p0 h1 base len4 (fs : Int) c1 (fun i => z2.getD i ByteArray.empty) (fun i => z3.getD i 0) n1) => codeAt_any F C Bk U p0 h1 base len4 (fs : Int) c1 (fun i => z2.getD i ByteArray.empty) (fun i => z3.getD i 0) n1 m w' s (by rw [LC.out]; exact hml) (by rw [LC.out]; omega)
                  have HAT := Lib.hid hat
                  have HSW := Lib.hid hs
                  clear hat hs hwq
                  generalize c1.getD m 0 = cv at *
                  have b1 : (0 : Int) ≤ (m : Int) := by omega
                  have b2 : (m : Int) < (len0 : Int) := by omega
                  go_wp2
                  go_quiet ((go_at_call 18; refine Calls.quiet_of_same (HAT.out _ ?_); exact HSW.out.drewN _))
                  go_wp2
                  go_roundw
                  case rel => exact ⟨m + 1, q + nq, by omega, by go_num, by rw [HWQ.out, World.drewN_drewN]⟩
                  case measure => simp [intOf]; omega
                · have hmm : m = len0 := by omega
                  subst hmm
                  clear hwq
                  go_wp2
                  go_ret
                  exact ⟨rfl, by rw [HWQ.out]; exact below_drewN (HB0.out.trans (B10.out.mono HB0.out.size)) _⟩

end Go.Proofs.YtiihgamhmflphaaFmt.fnResolveCurrentBlockGotosIsIdempotent
