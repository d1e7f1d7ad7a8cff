/- The walk of FnResolveForwardGotoResolvesExactlyTheNamedGotos. -/
import Derived.Test.YtiihgamhmflphaaFmtFwdSpec116
namespace Go.Proofs.YtiihgamhmflphaaFmt.fnResolveForwardGotoResolvesExactlyTheNamedGotos
open Go.RowKit Go.Maps
set_option linter.unusedVariables false

def Bts (P : Prop) (w : World) (e : Ending) (w' : World) : Prop := ∃ b, e = .returned (.bool b) ∧ w' = w ∧ (b = true → P)
set_option maxHeartbeats 2000000 in
theorem bytes_any (a0 : Option Addr) (len0 cap0 : Nat) (a1 : Int) (a2 : Option Addr) (len2 cap2 : Nat) (zs : List ByteArray) (a3 : Option Addr) (len3 cap3 : Nat) (a4 : Option Addr) (len4 cap4 : Nat) (a5 : ByteArray) (a6 a7 : Int) (w : World) (h : IsStrs w a2 len2 cap2 zs) (h0 : len0 ≤ maxLen) (h3 : len3 ≤ maxLen) (h4 : len4 ≤ maxLen) (h5 : a5.size ≤ maxLen) :
    Calls Tryf.prog 7 #[.slice a0 len0 cap0, .int .i64 a1, .slice a2 len2 cap2, .slice a3 len3 cap3, .slice a4 len4 cap4, .string a5, .int .i64 a6, .int .i64 a7] w (Bts (len0 ≤ 1048576 ∧ len2 ≤ 1048576 ∧ (∀ i, i < len2 → (zs.getD i ByteArray.empty).size ≤ 1048576) ∧ len3 ≤ 1048576 ∧ len4 ≤ 1048576 ∧ a5.size ≤ 1048576) w) := by
  have h2 := (InRow.len_le h).2
  have H := Lib.hid h
  have hsm : ∀ i, i < len2 → (zs.getD i ByteArray.empty).size ≤ maxLen := fun i hi => by
    rcases h with ⟨_, h1, _, _⟩ | ⟨x, _, h1, h2, h3, _, h5⟩
    · omega
    · have hl : i < zs.length := by omega
      have : zs.getD i ByteArray.empty = zs[i] := by simp [List.getD, hl]
      rw [this]
      exact h5 _ (List.getElem_mem hl)
  have HSM := Lib.hid hsm
  unfold maxLen at h0 h2 h3 h4 h5
  clear h hsm
  by_cases hb : 1048576 < len0
  · go_enter Tryf.func7, Tryf.ntmps7
    go_wp2
    go_ret
    exact ⟨false, rfl, by first | rfl | trivial, by simp⟩
  by_cases hb : 1048576 < len2
  · go_enter Tryf.func7, Tryf.ntmps7
    go_wp2
    go_ret
    exact ⟨false, rfl, by first | rfl | trivial, by simp⟩
  by_cases hb : 1048576 < len0 + len2
  · go_enter Tryf.func7, Tryf.ntmps7
    go_wp2
    go_ret
    exact ⟨false, rfl, by first | rfl | trivial, by simp⟩
  go_enter Tryf.func7, Tryf.ntmps7
  go_wp2_with fail
  go_loopw [17, 18] (fun t i wr => ∃ (k : Nat) (t' : Int), k ≤ len2 ∧ i = .int .i64 k ∧ t = .int .i64 t' ∧ 0 ≤ t' ∧ t' ≤ 1048576 ∧ (∀ j, j < k → (zs.getD j ByteArray.empty).size ≤ 1048576) ∧ wr = w) (fun _ i _ => len2 - (intOf i).toNat)
  case atStart => exact ⟨0, (len0 : Int) + (len2 : Int), by omega, rfl, rfl, by omega, by omega, fun j hj => absurd hj (by omega), by first | rfl | trivial⟩
  case round =>
    obtain ⟨k, t', hk, rfl, rfl, ht1, ht2, hall, rfl⟩ := hrel
    have HALL := Lib.hid hall
    clear hall
    by_cases hkl : k < len2
    · obtain ⟨b, off, ea, hc⟩ := InRow.cells H.out (by omega)
      subst ea
      have d1 := hc k hkl
      have hsz := HSM.out k hkl
      unfold maxLen at hsz
      clear hc
      generalize hs : zs.getD k ByteArray.empty = s at *
      have HS := Lib.hid hs
      clear hs
      generalize hz : s.size = sz at *
      have HZ := Lib.hid hz
      have hb0 : (0 : Int) ≤ (k : Int) := by omega
      have hb1 : (k : Int) < (len2 : Int) := by omega
      have hz2 : s.size = sz := hz
      clear hz
      by_cases h1 : 1048576 < sz
      · go_wp2
        go_ret
        exact ⟨false, rfl, by first | rfl | trivial, by simp⟩
      by_cases h2 : 1048576 < t' + (sz : Int)
      · go_wp2
        go_ret
        exact ⟨false, rfl, by first | rfl | trivial, by simp⟩
      · go_wp2
        go_roundw
        case rel =>
          refine ⟨k + 1, t' + (sz : Int), by omega, by go_num, rfl, by omega, by omega, fun j hj => ?_, by first | rfl | trivial⟩
          by_cases e : j = k
          · subst e
            rw [HS.out, HZ.out]
            omega
          · exact HALL.out j (by omega)
        case measure => simp [intOf]; omega
    · have hkk : k = len2 := by omega
      subst hkk
      generalize hz : a5.size = sz at *
      have hz2 : a5.size = sz := hz
      clear hz
      by_cases hb : 1048576 < len3
      · go_wp2
        go_ret
        exact ⟨false, rfl, by first | rfl | trivial, by simp⟩
      by_cases hb : 1048576 < t' + (len3 : Int)
      · go_wp2
        go_ret
        exact ⟨false, rfl, by first | rfl | trivial, by simp⟩
      by_cases hb : 1048576 < len4
      · go_wp2
        go_ret
        exact ⟨false, rfl, by first | rfl | trivial, by simp⟩
      by_cases hb : 1048576 < t' + (len3 : Int) + (len4 : Int)
      · go_wp2
        go_ret
        exact ⟨false, rfl, by first | rfl | trivial, by simp⟩
      by_cases hb : 1048576 < sz
      · go_wp2
        go_ret
        exact ⟨false, rfl, by first | rfl | trivial, by simp⟩
      by_cases hb : 1048576 < t' + (len3 : Int) + (len4 : Int) + (sz : Int)
      · go_wp2
        go_ret
        exact ⟨false, rfl, by first | rfl | trivial, by simp⟩
      go_wp2
      go_ret
      exact ⟨true, rfl, by first | rfl | trivial, fun _ => ⟨by omega, by omega, HALL.out, by omega, by omega, by omega⟩⟩

set_option maxHeartbeats 4000000 in
set_option maxRecDepth 100000 in
theorem walk (a0 : Option Addr) (len0 cap0 : Nat) (z0 : List Int) (a1 : Int) (a2 : Option Addr) (len2 cap2 : Nat) (z2 : List ByteArray) (a3 : Option Addr) (len3 cap3 : Nat) (z3 : List Int) (a4 : Option Addr) (len4 cap4 : Nat) (z4 : List Int) (a5 : ByteArray) (a6 : Int) (a7 : Int) (w : World) (w0 : IsRow .u32 w a0 len0 cap0 z0) (w1 : (Lit.int .i64 a1).wf = true) (w2 : IsStrs w a2 len2 cap2 z2) (w3 : IsRow .i64 w a3 len3 cap3 z3) (w4 : IsRow .i64 w a4 len4 cap4 z4) (w5 : a5.size ≤ maxLen) (w6 : (Lit.int .i64 a6).wf = true) (w7 : (Lit.int .i64 a7).wf = true) :
    Calls Tryf.prog 3 #[.slice a0 len0 cap0, .int .i64 a1, .slice a2 len2 cap2, .slice a3 len3 cap3, .slice a4 len4 cap4, .string a5, .int .i64 a6, .int .i64 a7] w fun e w' => e = .returned (.bool true) ∧ Below w.heap.size w w' := by
  have HBY := Lib.hid (bytes_any a0 len0 cap0 a1 a2 len2 cap2 z2 a3 len3 cap3 a4 len4 cap4 a5 a6 a7 w w2 (InRow.len_le w0).2 (InRow.len_le w3).2 (InRow.len_le w4).2 w5)
  have W0 := Lib.hid w0
  have W2 := Lib.hid w2
  have W3 := Lib.hid w3
  have W4 := Lib.hid w4
  have Z0 := Lib.hid (InRow.len_le w0).1
  have Z2 := Lib.hid (InRow.len_le w2).1
  have Z3 := Lib.hid (InRow.len_le w3).1
  have Z4 := Lib.hid (InRow.len_le w4).1
  have hw0 : ∀ i, i < len0 → Fld.W32 ((z0.take len0).getD i 0) := fun i hi => by
    rw [getD_take _ _ _ _ hi]
    rcases w0 with ⟨_, h1, _⟩ | ⟨x, _, h1, _, h3, _, h5⟩
    · omega
    · have hl : i < z0.length := by omega
      have e : z0.getD i 0 = z0[i] := by simp [List.getD, hl]
      rw [e]
      have := h5 _ (List.getElem_mem hl)
      simpa [Lit.wf, IntKind.min, IntKind.max, IntKind.signed, IntKind.bits, Fld.W32] using this
  have HW0 := Lib.hid hw0
  have WFZ := Lib.hid (show ∀ x ∈ z0.take len0, (Lit.int .u32 x).wf = true from fun x hx => by
    rcases w0 with ⟨_, _, _, h1⟩ | ⟨y, _, _, _, _, _, h5⟩
    · rw [h1] at hx; simp at hx
    · exact h5 x (List.mem_of_mem_take hx))
  clear w0 w1 w2 w3 w4 w5 w6 w7 hw0
  go_enter Tryf.func3, Tryf.ntmps3
  go_wp2_with fail
  refine HBY.out.mono ?_; rintro e u0 ⟨b, rfl, rfl, hbt⟩
  cases b with
  | false =>
    go_wp2
    go_ret
    exact ⟨rfl, Below.refl _ _⟩
  | true =>
  obtain ⟨hn0, hn2, hsz, hn3, hn4, hn5⟩ := hbt rfl
  have HSZ := Lib.hid hsz
  clear hbt HBY hsz
  go_wp2_with fail
  refine (fwdBytes_any a0 len0 cap0 a2 len2 cap2 z2 a3 len3 cap3 a4 len4 cap4 a5 _ W2.out hn0 hn2 hn3 hn4 hn5 HSZ.out).mono ?_; rintro e u1 ⟨t, rfl, rfl, ht⟩
  by_cases hc : 1048576 < t
  · go_wp2
    go_ret
    exact ⟨rfl, Below.refl _ _⟩
  have hl0 : len0 ≤ 262144 := by omega
  have hl2 : len2 ≤ 65536 := by omega
  clear ht
  go_wp2_with fail
  refine (premise_any a0 len0 cap0 a1 a2 len2 cap2 z2 a3 len3 cap3 z3 a4 len4 cap4 z4 a5 a7 _ W2.out W3.out W4.out hn0 hn2 hn3 hn4 hn5 HSZ.out).mono ?_; rintro e u2 ⟨b, q0, rfl, rfl, hok⟩
  cases b with
  | false =>
    go_wp2
    go_ret
    exact ⟨rfl, below_drewN (Below.refl _ _) _⟩
  | true =>
  obtain ⟨h3, h4, fs, rfl, hfs, hall⟩ := hok rfl
  subst h3
  subst h4
  have HALL := Lib.hid hall
  have W0' := Lib.hid (InRow.keep W0.out (below_drewN (Below.refl _ _) q0))
  have W2' := Lib.hid (InRow.keep W2.out (below_drewN (Below.refl _ _) q0))
  have W3' := Lib.hid (InRow.keep W3.out (below_drewN (Below.refl _ _) q0))
  have W4' := Lib.hid (InRow.keep W4.out (below_drewN (Below.refl _ _) q0))
  have HB0 := Lib.hid (below_drewN (Below.refl u1.heap.size u1) q0)
  clear hok hall W0 W2 W3 W4
  generalize u1.drewN q0 = v0 at *
  have L0 := Lib.hid (show (z0.take len0).length = len0 by have := Z0.out; simp; omega)
  go_wp2_with fail
  refine (cloneU32_any a0 len0 cap0 z0 _ W0'.out (by omega)).mono ?_; rintro e v1 ⟨v, rfl, hown, hb1⟩
  obtain ⟨p0, hv⟩ := own_form hown
  rw [L0.out] at hv
  subst hv
  have HR1 := Lib.hid hown
  have HQ0 := Lib.hid (own_cq 0 hown Z0.out)
  have B1 := Lib.hid hb1
  clear hown hb1
  go_wp2_with fail
  refine (cloneStrs_any a2 len4 cap2 z2 _ (InRow.keep W2'.out (B1.out.mono (Nat.le_refl _))) (by omega)).mono ?_; rintro e v2 ⟨v, rfl, hown, hb2⟩
  obtain ⟨p2, hv⟩ := own_form hown
  rw [show (z2.take len4).length = len4 by have := Z2.out; simp; omega] at hv
  subst hv
  have HQ2 := Lib.hid (own_cq ByteArray.empty hown Z2.out)
  have HQ0 := Lib.hid (HQ0.out.below hb2)
  have HR2 := Lib.hid (own_keep HR1.out fun x a hx => hb2.block x (lt_of_block hx))
  have B2 := Lib.hid (B1.out.trans (hb2.mono B1.out.size))
  clear hown hb2
  go_wp2_with fail
  refine (cloneInts_any a3 len4 cap3 z3 _ (InRow.keep W3'.out B2.out) (by omega)).mono ?_; rintro e v3 ⟨v, rfl, hown, hb3⟩
  obtain ⟨p3, hv⟩ := own_form hown
  rw [show (z3.take len4).length = len4 by have := Z3.out; simp; omega] at hv
  subst hv
  have HQ3 := Lib.hid (own_cq 0 hown Z3.out)
  have HQ2 := Lib.hid (HQ2.out.below hb3)
  have HQ0 := Lib.hid (HQ0.out.below hb3)
  have HR3 := Lib.hid (own_keep HR2.out fun x a hx => hb3.block x (lt_of_block hx))
  have B3 := Lib.hid (B2.out.trans (hb3.mono B2.out.size))
  clear hown hb3
  go_wp2_with fail
  refine (cloneInts_any a4 len4 cap4 z4 _ (InRow.keep W4'.out B3.out) (by omega)).mono ?_; rintro e v4 ⟨v, rfl, hown, hb4⟩
  obtain ⟨p4, hv⟩ := own_form hown
  rw [show (z4.take len4).length = len4 by have := Z4.out; simp; omega] at hv
  subst hv
  have HQ4 := Lib.hid (own_cq 0 hown Z4.out)
  have HQ2 := Lib.hid (HQ2.out.below hb4)
  have HQ0 := Lib.hid (HQ0.out.below hb4)
  have HQ3 := Lib.hid (HQ3.out.below hb4)
  have HR4 := Lib.hid (own_keep HR3.out fun x a hx => hb4.block x (lt_of_block hx))
  have B4 := Lib.hid (B3.out.trans (hb4.mono B3.out.size))
  clear hown hb4
  go_wp2_with fail
  refine (cloneU32_any p0 len0 len0 (z0.take len0) _ (row_own HR4.out L0.out WFZ.out (by unfold maxLen; omega)) (by omega)).mono ?_; rintro e vw ⟨v, rfl, hown, hbw⟩
  obtain ⟨pw, hv⟩ := own_form hown
  rw [List.take_of_length_le (by rw [L0.out]; omega), L0.out] at hv
  rw [List.take_of_length_le (by rw [L0.out]; omega)] at hown
  subst hv
  have QA0 := Lib.hid HQ0.out
  have QA2 := Lib.hid HQ2.out
  have QA3 := Lib.hid HQ3.out
  have HQ2 := Lib.hid (HQ2.out.below hbw)
  have HQ3 := Lib.hid (HQ3.out.below hbw)
  have HQ4 := Lib.hid (HQ4.out.below hbw)
  have BVW := Lib.hid hbw
  have HRW := Lib.hid hown
  have BW := Lib.hid (B4.out.trans (hbw.mono B4.out.size))
  obtain ⟨base, hbase⟩ : ∃ b, b = v4.heap.size := ⟨_, rfl⟩
  rw [← hbase] at HRW
  have hbs : base ≤ vw.heap.size := by rw [hbase]; exact hbw.size
  have HBASE := Lib.hid hbase
  clear hown hbw hbase
  go_wp2_with fail
  refine (build_any base len4 fs (z0.take len0) _ _ _ pw len0 p2 p3 p4 _ L0.out hbs HRW.out (by omega) (by omega) HQ2.out HQ3.out HQ4.out).mono ?_; rintro e v5 ⟨F, C, Bk, U, h, rfl, hs, hh, hb5⟩
  have HS := Lib.hid hs
  have HH := Lib.hid hh
  have BV5 := Lib.hid (BVW.out.trans (hb5.mono BVW.out.size))
  have B5 := Lib.hid (BW.out.trans (hb5.mono BW.out.size))
  have H45 := Lib.hid hb5
  clear hs hh hb5
  go_wp2_with fail
  refine (target_any a6 a7 a5 _).mono ?_; rintro e v6 ⟨T, rfl, htd, hb6⟩
  have HTD := Lib.hid htd
  have HS := Lib.hid (HS.out.below hb6)
  have BV6 := Lib.hid (BV5.out.trans (hb6.mono BV5.out.size))
  have B6 := Lib.hid (B5.out.trans (hb6.mono B5.out.size))
  have H46 := Lib.hid (H45.out.trans (hb6.mono H45.out.size))
  clear htd hb6
  have hpre : Pre h fs (z0.take len0).length (fun i => z2.getD i ByteArray.empty) (fun i => z3.getD i 0) (fun i => z4.getD i 0) a5 a7 := fun i h1 h2 h3 => by
    have hi : i < len4 := by rw [HH.out i] at h2; simpa using h2
    rw [L0.out]
    exact HALL.out i h1 hi h3
  go_wp2_with fail
  refine (resolve_any F C Bk U pw h base len4 fs (z0.take len0) _ _ _ T a6 a7 a5 _ HS.out HTD.out hfs (by omega) hpre (by rw [L0.out]; exact HW0.out) (by rw [L0.out]; omega)).mono ?_; rintro e v7 ⟨rfl, hs, htd, hb7⟩
  obtain ⟨dd, hdd⟩ : ∃ d, d = len4 + 1 - fs := ⟨_, rfl⟩
  rw [← hdd] at hs
  have hd2 : fs + dd = len4 + 1 := by omega
  have HD2 := Lib.hid hd2
  have HSP := Lib.hid (fun p hp => resC_all (tid := a6) (cs := z0.take len0) (ps := fun i => z3.getD i 0) (ns := fun i => z2.getD i ByteArray.empty) (tn := a5) HH.out (fun i h1 h2 h3 => by rw [L0.out]; exact (HALL.out i h1 h2 h3).2) (by rw [L0.out]; exact HW0.out) hd2 hfs p hp)
  have HCW := Lib.hid (fun i (hi : i < (z0.take len0).length) => resC_w (h := h) (ns := fun i => z2.getD i ByteArray.empty) (ps := fun i => z3.getD i 0) (tn := a5) (tid := a6) (fs := fs) (by rw [L0.out]; exact HW0.out) dd i hi)
  have HP1 := Lib.hid (fun i => isSome_resH (i := i) (ns := fun i => z2.getD i ByteArray.empty) (tn := a5) HH.out hd2)
  have LC := Lib.hid (show (resC h (fun i => z2.getD i ByteArray.empty) (fun i => z3.getD i 0) a5 a6 fs (z0.take len0) dd).length = len0 by rw [resC_len]; exact L0.out)
  have HS7 := Lib.hid hs
  have HTD7 := Lib.hid htd
  have BV7 := Lib.hid (BV6.out.trans (by rw [← HBASE.out]; exact hb7))
  have B7 := Lib.hid (B6.out.trans (hb7.mono (by rw [HBASE.out]; exact B4.out.size)))
  have H47 := Lib.hid hb7
  clear hs htd hb7 hpre hdd hd2 HS HTD
  rw [L0.out] at HSP HCW
  generalize hns : (fun i => z2.getD i ByteArray.empty) = ns at *
  generalize hps : (fun i => z3.getD i 0) = ps at *
  generalize hnu : (fun i => z4.getD i 0) = nu at *
  have hcd : ∀ i, i < len0 → (z0.take len0).getD i 0 = z0.getD i 0 := fun i hi => getD_take _ _ _ _ hi
  have HCD := Lib.hid hcd
  have HAP := Lib.hid (show ∀ i, fs ≤ i → i < len4 → ns i = a5 → 0 ≤ ps i ∧ ps i < (len0 : Int) from fun i h1 h2 h3 => by
    rw [← hns] at h3
    rw [← hps]
    exact (HALL.out i h1 h2 h3).2)
  have HP1 := Lib.hid (show ∀ i, (resH h ns a5 fs dd i).isSome = (decide (i < len4) && !(decide (fs ≤ i) && decide (ns i = a5))) from fun i => by
    have := HP1.out i
    have e : ns i = z2.getD i ByteArray.empty := by rw [← hns]
    rw [e]
    exact this)
  clear hns hps hnu hcd HALL
  generalize resH h ns a5 fs dd = h1 at *
  generalize resC h ns ps a5 a6 fs (z0.take len0) dd = c1 at *
  have hbv : v4.heap.size ≤ v7.heap.size := BV7.out.size
  have hmk := makeBF len0 (by omega)
  have HRV := Lib.hid (⟨(List.replicate len0 (.bool false)).toArray, heap_alloc_new _ _, by simp, fun i hi => by simp [hi, tchd]⟩ : RowV 4 (fun q => .bool (tchd fs ns ps a5 0 q)) (v7.alloc (.cells (List.replicate len0 (.bool false)).toArray 4)) v7.heap.size len0 len0)
  have HV1 := Lib.hid ((Below.refl v7.heap.size v7).alloc (Nat.le_refl _) (.cells (List.replicate len0 (.bool false)).toArray 4))
  generalize (List.replicate len0 (Value.bool false)).toArray = mb at *
  go_wp2_with fail
  obtain ⟨G1, hG1⟩ : ∃ g, g = v7.heap.size := ⟨_, rfl⟩
  rw [← hG1] at HRV
  rw [← hG1]
  have hG1' : v7.heap.size ≤ G1 := by omega
  clear hmk hG1
  go_loopw [22, 23] (fun i _ wr => ∃ k : Nat, k ≤ len4 ∧ i = .int .i64 k ∧ RowV 4 (fun q => .bool (tchd fs ns ps a5 k q)) wr G1 len0 len0 ∧ Below v7.heap.size v7 wr) (fun i _ _ => len4 - (intOf i).toNat)
  case atStart => exact ⟨0, by omega, rfl, HRV.out, HV1.out⟩
  case round =>
    obtain ⟨k, hk, rfl, hrv, hb⟩ := hrel
    have HRV := Lib.hid hrv
    have HV := Lib.hid hb
    by_cases hkl : k < len4
    · have hs := HS7.out.below hb
      have hip := isPending_any F C Bk U pw h1 base len4 (fs : Int) c1 _ _ _ k wr hs (by omega)
      rw [HP1.out k, decide_eq_true hkl] at hip
      obtain ⟨g2, e2, hg2, hc2⟩ := QA2.out k hkl
      obtain ⟨g3, e3, hg3, hc3⟩ := QA3.out k hkl
      have d2 : wr.cell? ⟨g2, k, none⟩ = some (.string (ns k)) := (hb.cell (p := ⟨g2, k, none⟩) (Nat.lt_of_lt_of_le hg2 hbv)).trans ((BV7.out.cell (p := ⟨g2, k, none⟩) hg2).trans hc2)
      have d3 : wr.cell? ⟨g3, k, none⟩ = some (.int .i64 (ps k)) := (hb.cell (p := ⟨g3, k, none⟩) (Nat.lt_of_lt_of_le hg3 hbv)).trans ((BV7.out.cell (p := ⟨g3, k, none⟩) hg3).trans hc3)
      have hsc := fun q => tchd_succ fs ns ps a5 k q
      have HSC := Lib.hid hsc
      have hap := HAP.out k
      have HAPK := Lib.hid hap
      subst e2 e3
      clear hc2 hc3 hs hsc hap
      have b1 : (0 : Int) ≤ (k : Int) := by omega
      have b2 : (k : Int) < (len4 : Int) := by omega
      by_cases hf : fs ≤ k
      · rw [decide_eq_true hf] at hip
        have b3 : (fs : Int) ≤ (k : Int) := by omega
        by_cases hx : ns k = a5
        · rw [decide_eq_true hx] at hip
          have HIP := Lib.hid hip
          obtain ⟨p1, p2⟩ := HAPK.out hf hkl hx
          have HX := Lib.hid hx
          rw [hx] at d2
          obtain ⟨q, hq⟩ : ∃ q : Nat, ps k = (q : Int) := ⟨(ps k).toNat, by omega⟩
          rw [hq] at d3
          have hql : q < len0 := by omega
          have HQ := Lib.hid hq
          obtain ⟨⟨v0, e3⟩, e4⟩ := hrv.room hql
          clear hip hx p1 p2 hq hrv hb
          have b4 : (0 : Int) ≤ (q : Int) := by omega
          have b5 : (q : Int) < (len0 : Int) := by omega
          go_wp2_with fail
          refine HIP.out.mono ?_; rintro e u9 ⟨rfl, rfl⟩
          go_wp2
          go_roundw
          case rel =>
            refine ⟨k + 1, by omega, by go_num, HRV.out.upd hql ?_ (fun j hj => ?_), HV.out.setCell (p := ⟨G1, q, none⟩) hG1' _⟩
            · rw [HSC.out, decide_eq_true hf, decide_eq_true HX.out, decide_eq_true HQ.out]; simp
            · rw [HSC.out, decide_eq_false (show ¬ ps k = (j : Int) by rw [HQ.out]; omega)]; simp
          case measure => simp [intOf]; omega
        · rw [decide_eq_false hx] at hip
          have HIP := Lib.hid hip
          have HX := Lib.hid hx
          have hx1 := tl_ne hx
          clear hip hx hrv hb
          generalize ns k = nm at d2 hx1
          go_wp2_with fail
          refine HIP.out.mono ?_; rintro e u9 ⟨rfl, rfl⟩
          go_wp2
          go_roundw
          case rel =>
            refine ⟨k + 1, by omega, by go_num, HRV.out.same (fun j => ?_), HV.out⟩
            rw [HSC.out, decide_eq_false HX.out]; simp
          case measure => simp [intOf]; omega
      · rw [decide_eq_false hf] at hip
        have HIP := Lib.hid hip
        have b3 : ¬ ((fs : Int) ≤ (k : Int)) := by omega
        clear hip hrv hb d2 d3
        go_wp2_with fail
        refine HIP.out.mono ?_; rintro e u9 ⟨rfl, rfl⟩
        go_wp2
        go_roundw
        case rel =>
          refine ⟨k + 1, by omega, by go_num, HRV.out.same (fun j => ?_), HV.out⟩
          rw [HSC.out, decide_eq_false hf]; simp
        case measure => simp [intOf]; omega
    · have hkk : k = len4 := by omega
      subst hkk
      obtain ⟨x, rfl⟩ : ∃ x : World, x = wr := ⟨_, rfl⟩
      have HS8 := Lib.hid (HS7.out.below hb)
      have B8 := Lib.hid (B7.out.trans (hb.mono B7.out.size))
      have hip := isPending_any F C Bk U pw h1 base k (fs : Int) c1 _ _ _ k x HS8.out (by omega)
      rw [HP1.out k, decide_eq_false (show ¬ k < k by omega)] at hip
      have HIP := Lib.hid hip
      have hcl := codeLen_any F C Bk U pw h1 base k (fs : Int) c1 _ _ _ x HS8.out
      rw [LC.out] at hcl
      have HCL := Lib.hid hcl
      clear hip hcl hrv hb
      go_wp2_with fail
      refine HIP.out.mono ?_; rintro e u9 ⟨rfl, rfl⟩
      go_wp2_with fail
      refine HCL.out.mono ?_; rintro e u10 ⟨rfl, rfl⟩
      by_cases hr1 : -131071 ≤ a6
      · by_cases hr2 : a6 ≤ 131071
        · go_wp2_with fail
          go_loopw [25, 26] (fun i _ wr => ∃ m : Nat, m ≤ len0 ∧ i = .int .i64 m ∧ wr = u10) (fun i _ _ => len0 - (intOf i).toNat)
          case atStart => exact ⟨0, by omega, rfl, by first | rfl | trivial⟩
          case round =>
            obtain ⟨m, hm, rfl, rfl⟩ := hrel
            by_cases hml : m < len0
            · have hca := codeAt_any F C Bk U pw h1 base k (fs : Int) c1 _ _ _ m wr HS8.out (by rw [LC.out]; exact hml) (by rw [LC.out]; omega)
              have d1 := HRV.out.cell hml
              obtain ⟨g0, e0, hg0, hc0⟩ := QA0.out m hml
              have d0 : wr.cell? ⟨g0, m, none⟩ = some (.int .u32 (z0.getD m 0)) := (HV.out.cell (p := ⟨g0, m, none⟩) (Nat.lt_of_lt_of_le hg0 hbv)).trans ((BV7.out.cell (p := ⟨g0, m, none⟩) hg0).trans hc0)
              subst e0
              obtain ⟨s1, s2⟩ := HSP.out m hml
              rw [HCD.out m hml] at s1 s2
              have b1 : (0 : Int) ≤ (m : Int) := by omega
              have b2 : (m : Int) < (len0 : Int) := by omega
              clear hc0
              cases ht : tchd fs ns ps a5 k m with
              | false =>
                rw [ht] at d1
                rw [s1 ht] at hca
                have HCA := Lib.hid hca
                clear hca s1 s2 ht
                generalize z0.getD m 0 = cv at *
                go_wp2_with fail
                refine HCA.out.mono ?_; rintro e u9 ⟨rfl, rfl⟩
                go_wp2
                go_roundw
                case rel => first | exact ⟨m + 1, by omega, by go_num, by first | rfl | trivial⟩ | exact ⟨m + 1, by omega, by go_num⟩
                case measure => simp [intOf]; omega
              | true =>
                rw [ht] at d1
                obtain ⟨e1, e2⟩ := s2 ht
                have HCA := Lib.hid hca
                have hga := argSbx_any F C Bk U pw h1 base k (fs : Int) c1 _ _ _ m wr HS8.out (by rw [LC.out]; exact hml) (by rw [LC.out]; omega) (HCW.out m hml)
                rw [e2 hr1 hr2] at hga
                have HGA := Lib.hid hga
                clear hga
                clear hca s1 s2 ht e2
                generalize c1.getD m 0 = cw at *
                generalize z0.getD m 0 = cv at *
                go_wp2_with fail
                refine HCA.out.mono ?_; rintro e u9 ⟨rfl, rfl⟩
                go_wp2_with fail
                refine HGA.out.mono ?_; rintro e u10 ⟨rfl, rfl⟩
                go_wp2
                go_roundw
                case rel => first | exact ⟨m + 1, by omega, by go_num, by first | rfl | trivial⟩ | exact ⟨m + 1, by omega, by go_num⟩
                case measure => simp [intOf]; omega
            · have hmm : m = len0 := by omega
              subst hmm
              go_wp2
              go_ret
              exact ⟨rfl, HB0.out.trans (B8.out.mono HB0.out.size)⟩
        · go_wp2_with fail
          go_loopw [25, 26] (fun i _ wr => ∃ m : Nat, m ≤ len0 ∧ i = .int .i64 m ∧ wr = u10) (fun i _ _ => len0 - (intOf i).toNat)
          case atStart => exact ⟨0, by omega, rfl, by first | rfl | trivial⟩
          case round =>
            obtain ⟨m, hm, rfl, rfl⟩ := hrel
            by_cases hml : m < len0
            · have hca := codeAt_any F C Bk U pw h1 base k (fs : Int) c1 _ _ _ m wr HS8.out (by rw [LC.out]; exact hml) (by rw [LC.out]; omega)
              have d1 := HRV.out.cell hml
              obtain ⟨g0, e0, hg0, hc0⟩ := QA0.out m hml
              have d0 : wr.cell? ⟨g0, m, none⟩ = some (.int .u32 (z0.getD m 0)) := (HV.out.cell (p := ⟨g0, m, none⟩) (Nat.lt_of_lt_of_le hg0 hbv)).trans ((BV7.out.cell (p := ⟨g0, m, none⟩) hg0).trans hc0)
              subst e0
              obtain ⟨s1, s2⟩ := HSP.out m hml
              rw [HCD.out m hml] at s1 s2
              have b1 : (0 : Int) ≤ (m : Int) := by omega
              have b2 : (m : Int) < (len0 : Int) := by omega
              clear hc0
              cases ht : tchd fs ns ps a5 k m with
              | false =>
                rw [ht] at d1
                rw [s1 ht] at hca
                have HCA := Lib.hid hca
                clear hca s1 s2 ht
                generalize z0.getD m 0 = cv at *
                go_wp2_with fail
                refine HCA.out.mono ?_; rintro e u9 ⟨rfl, rfl⟩
                go_wp2
                go_roundw
                case rel => first | exact ⟨m + 1, by omega, by go_num, by first | rfl | trivial⟩ | exact ⟨m + 1, by omega, by go_num⟩
                case measure => simp [intOf]; omega
              | true =>
                rw [ht] at d1
                obtain ⟨e1, e2⟩ := s2 ht
                have HCA := Lib.hid hca
                clear hca s1 s2 ht e2
                generalize c1.getD m 0 = cw at *
                generalize z0.getD m 0 = cv at *
                go_wp2_with fail
                refine HCA.out.mono ?_; rintro e u9 ⟨rfl, rfl⟩
                go_wp2
                go_roundw
                case rel => first | exact ⟨m + 1, by omega, by go_num, by first | rfl | trivial⟩ | exact ⟨m + 1, by omega, by go_num⟩
                case measure => simp [intOf]; omega
            · have hmm : m = len0 := by omega
              subst hmm
              go_wp2
              go_ret
              exact ⟨rfl, HB0.out.trans (B8.out.mono HB0.out.size)⟩
      · go_wp2_with fail
        go_loopw [25, 26] (fun i _ wr => ∃ m : Nat, m ≤ len0 ∧ i = .int .i64 m ∧ wr = u10) (fun i _ _ => len0 - (intOf i).toNat)
        case atStart => exact ⟨0, by omega, rfl, by first | rfl | trivial⟩
        case round =>
          obtain ⟨m, hm, rfl, rfl⟩ := hrel
          by_cases hml : m < len0
          · have hca := codeAt_any F C Bk U pw h1 base k (fs : Int) c1 _ _ _ m wr HS8.out (by rw [LC.out]; exact hml) (by rw [LC.out]; omega)
            have d1 := HRV.out.cell hml
            obtain ⟨g0, e0, hg0, hc0⟩ := QA0.out m hml
            have d0 : wr.cell? ⟨g0, m, none⟩ = some (.int .u32 (z0.getD m 0)) := (HV.out.cell (p := ⟨g0, m, none⟩) (Nat.lt_of_lt_of_le hg0 hbv)).trans ((BV7.out.cell (p := ⟨g0, m, none⟩) hg0).trans hc0)
            subst e0
            obtain ⟨s1, s2⟩ := HSP.out m hml
            rw [HCD.out m hml] at s1 s2
            have b1 : (0 : Int) ≤ (m : Int) := by omega
            have b2 : (m : Int) < (len0 : Int) := by omega
            clear hc0
            cases ht : tchd fs ns ps a5 k m with
            | false =>
              rw [ht] at d1
              rw [s1 ht] at hca
              have HCA := Lib.hid hca
              clear hca s1 s2 ht
              generalize z0.getD m 0 = cv at *
              go_wp2_with fail
              refine HCA.out.mono ?_; rintro e u9 ⟨rfl, rfl⟩
              go_wp2
              go_roundw
              case rel => first | exact ⟨m + 1, by omega, by go_num, by first | rfl | trivial⟩ | exact ⟨m + 1, by omega, by go_num⟩
              case measure => simp [intOf]; omega
            | true =>
              rw [ht] at d1
              obtain ⟨e1, e2⟩ := s2 ht
              have HCA := Lib.hid hca
              clear hca s1 s2 ht e2
              generalize c1.getD m 0 = cw at *
              generalize z0.getD m 0 = cv at *
              go_wp2_with fail
              refine HCA.out.mono ?_; rintro e u9 ⟨rfl, rfl⟩
              go_wp2
              go_roundw
              case rel => first | exact ⟨m + 1, by omega, by go_num, by first | rfl | trivial⟩ | exact ⟨m + 1, by omega, by go_num⟩
              case measure => simp [intOf]; omega
          · have hmm : m = len0 := by omega
            subst hmm
            go_wp2
            go_ret
            exact ⟨rfl, HB0.out.trans (B8.out.mono HB0.out.size)⟩

end Go.Proofs.YtiihgamhmflphaaFmt.fnResolveForwardGotoResolvesExactlyTheNamedGotos
