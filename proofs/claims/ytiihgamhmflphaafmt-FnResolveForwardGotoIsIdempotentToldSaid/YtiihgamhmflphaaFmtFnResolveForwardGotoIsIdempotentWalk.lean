/- The walk of FnResolveForwardGotoIsIdempotent. -/
import Derived.Test.YtiihgamhmflphaaFmtFwdTail116
namespace Go.Proofs.YtiihgamhmflphaaFmt.fnResolveForwardGotoIsIdempotent
open Go.RowKit Go.Maps
set_option linter.unusedVariables false

def Bts (P : Prop) (w : World) (e : Ending) (w' : World) : Prop := ∃ b, e = .returned (.bool b) ∧ w' = w ∧ (b = true → P)
set_option maxHeartbeats 2000000 in
theorem bytes_any (a0 : Option Addr) (len0 cap0 : Nat) (a1 : Int) (a2 : Option Addr) (len2 cap2 : Nat) (zs : List ByteArray) (a3 : Option Addr) (len3 cap3 : Nat) (a4 : Option Addr) (len4 cap4 : Nat) (a5 : ByteArray) (a6 a7 : Int) (w : World) (h : IsStrs w a2 len2 cap2 zs) (h0 : len0 ≤ maxLen) (h3 : len3 ≤ maxLen) (h4 : len4 ≤ maxLen) (h5 : a5.size ≤ maxLen) :
    Calls Tryf.prog 26 #[.slice a0 len0 cap0, .int .i64 a1, .slice a2 len2 cap2, .slice a3 len3 cap3, .slice a4 len4 cap4, .string a5, .int .i64 a6, .int .i64 a7] w (Bts (len0 ≤ 1048576 ∧ len2 ≤ 1048576 ∧ (∀ i, i < len2 → (zs.getD i ByteArray.empty).size ≤ 1048576) ∧ len3 ≤ 1048576 ∧ len4 ≤ 1048576 ∧ a5.size ≤ 1048576) w) := by
  have h2 := (InRow.len_le h).2
  have H := Lib.hid h
  have hsm : ∀ i, i < len2 → (zs.getD i ByteArray.empty).size ≤ maxLen := fun i hi => by
    rcases h with ⟨_, h1, _, _⟩ | ⟨x, _, h1, h2, h3, _, h5⟩
    · omega
    · have hl : i < zs.length := by omega
      have : zs.getD i ByteArray.empty = zs[i] := by simp [List.getD, hl]
      rw [this]
      exact h5 _ (List.getElem_mem hl)
  have HSM := Lib.hid hsm
  unfold maxLen at h0 h2 h3 h4 h5
  clear h hsm
  by_cases hb : 1048576 < len0
  · go_enter Tryf.func26, Tryf.ntmps26
    go_wp2
    go_ret
    exact ⟨false, rfl, by first | rfl | trivial, by simp⟩
  by_cases hb : 1048576 < len2
  · go_enter Tryf.func26, Tryf.ntmps26
    go_wp2
    go_ret
    exact ⟨false, rfl, by first | rfl | trivial, by simp⟩
  by_cases hb : 1048576 < len0 + len2
  · go_enter Tryf.func26, Tryf.ntmps26
    go_wp2
    go_ret
    exact ⟨false, rfl, by first | rfl | trivial, by simp⟩
  go_enter Tryf.func26, Tryf.ntmps26
  go_wp2_with fail
  go_loopw [17, 18] (fun t i wr => ∃ (k : Nat) (t' : Int), k ≤ len2 ∧ i = .int .i64 k ∧ t = .int .i64 t' ∧ 0 ≤ t' ∧ t' ≤ 1048576 ∧ (∀ j, j < k → (zs.getD j ByteArray.empty).size ≤ 1048576) ∧ wr = w) (fun _ i _ => len2 - (intOf i).toNat)
  case atStart => exact ⟨0, (len0 : Int) + (len2 : Int), by omega, rfl, rfl, by omega, by omega, fun j hj => absurd hj (by omega), by first | rfl | trivial⟩
  case round =>
    obtain ⟨k, t', hk, rfl, rfl, ht1, ht2, hall, rfl⟩ := hrel
    have HALL := Lib.hid hall
    clear hall
    by_cases hkl : k < len2
    · obtain ⟨b, off, ea, hc⟩ := InRow.cells H.out (by omega)
      subst ea
      have d1 := hc k hkl
      have hsz := HSM.out k hkl
      unfold maxLen at hsz
      clear hc
      generalize hs : zs.getD k ByteArray.empty = s at *
      have HS := Lib.hid hs
      clear hs
      generalize hz : s.size = sz at *
      have HZ := Lib.hid hz
      have hb0 : (0 : Int) ≤ (k : Int) := by omega
      have hb1 : (k : Int) < (len2 : Int) := by omega
      have hz2 : s.size = sz := hz
      clear hz
      by_cases h1 : 1048576 < sz
      · go_wp2
        go_ret
        exact ⟨false, rfl, by first | rfl | trivial, by simp⟩
      by_cases h2 : 1048576 < t' + (sz : Int)
      · go_wp2
        go_ret
        exact ⟨false, rfl, by first | rfl | trivial, by simp⟩
      · go_wp2
        go_roundw
        case rel =>
          refine ⟨k + 1, t' + (sz : Int), by omega, by go_num, rfl, by omega, by omega, fun j hj => ?_, by first | rfl | trivial⟩
          by_cases e : j = k
          · subst e
            rw [HS.out, HZ.out]
            omega
          · exact HALL.out j (by omega)
        case measure => simp [intOf]; omega
    · have hkk : k = len2 := by omega
      subst hkk
      generalize hz : a5.size = sz at *
      have hz2 : a5.size = sz := hz
      clear hz
      by_cases hb : 1048576 < len3
      · go_wp2
        go_ret
        exact ⟨false, rfl, by first | rfl | trivial, by simp⟩
      by_cases hb : 1048576 < t' + (len3 : Int)
      · go_wp2
        go_ret
        exact ⟨false, rfl, by first | rfl | trivial, by simp⟩
      by_cases hb : 1048576 < len4
      · go_wp2
        go_ret
        exact ⟨false, rfl, by first | rfl | trivial, by simp⟩
      by_cases hb : 1048576 < t' + (len3 : Int) + (len4 : Int)
      · go_wp2
        go_ret
        exact ⟨false, rfl, by first | rfl | trivial, by simp⟩
      by_cases hb : 1048576 < sz
      · go_wp2
        go_ret
        exact ⟨false, rfl, by first | rfl | trivial, by simp⟩
      by_cases hb : 1048576 < t' + (len3 : Int) + (len4 : Int) + (sz : Int)
      · go_wp2
        go_ret
        exact ⟨false, rfl, by first | rfl | trivial, by simp⟩
      go_wp2
      go_ret
      exact ⟨true, rfl, by first | rfl | trivial, fun _ => ⟨by omega, by omega, HALL.out, by omega, by omega, by omega⟩⟩

set_option maxHeartbeats 4000000 in
set_option maxRecDepth 100000 in
theorem walk (a0 : Option Addr) (len0 cap0 : Nat) (z0 : List Int) (a1 : Int) (a2 : Option Addr) (len2 cap2 : Nat) (z2 : List ByteArray) (a3 : Option Addr) (len3 cap3 : Nat) (z3 : List Int) (a4 : Option Addr) (len4 cap4 : Nat) (z4 : List Int) (a5 : ByteArray) (a6 : Int) (a7 : Int) (w : World) (w0 : IsRow .u32 w a0 len0 cap0 z0) (w1 : (Lit.int .i64 a1).wf = true) (w2 : IsStrs w a2 len2 cap2 z2) (w3 : IsRow .i64 w a3 len3 cap3 z3) (w4 : IsRow .i64 w a4 len4 cap4 z4) (w5 : a5.size ≤ maxLen) (w6 : (Lit.int .i64 a6).wf = true) (w7 : (Lit.int .i64 a7).wf = true) :
    Calls Tryf.prog 5 #[.slice a0 len0 cap0, .int .i64 a1, .slice a2 len2 cap2, .slice a3 len3 cap3, .slice a4 len4 cap4, .string a5, .int .i64 a6, .int .i64 a7] w fun e w' => e = .returned (.bool true) ∧ Below w.heap.size w w' := by
  have HBY := Lib.hid (bytes_any a0 len0 cap0 a1 a2 len2 cap2 z2 a3 len3 cap3 a4 len4 cap4 a5 a6 a7 w w2 (InRow.len_le w0).2 (InRow.len_le w3).2 (InRow.len_le w4).2 w5)
  have W0 := Lib.hid w0
  have W2 := Lib.hid w2
  have W3 := Lib.hid w3
  have W4 := Lib.hid w4
  have Z0 := Lib.hid (InRow.len_le w0).1
  have Z2 := Lib.hid (InRow.len_le w2).1
  have Z3 := Lib.hid (InRow.len_le w3).1
  have Z4 := Lib.hid (InRow.len_le w4).1
  have hw0 : ∀ i, i < len0 → Fld.W32 ((z0.take len0).getD i 0) := fun i hi => by
    rw [getD_take _ _ _ _ hi]
    rcases w0 with ⟨_, h1, _⟩ | ⟨x, _, h1, _, h3, _, h5⟩
    · omega
    · have hl : i < z0.length := by omega
      have e : z0.getD i 0 = z0[i] := by simp [List.getD, hl]
      rw [e]
      have := h5 _ (List.getElem_mem hl)
      simpa [Lit.wf, IntKind.min, IntKind.max, IntKind.signed, IntKind.bits, Fld.W32] using this
  have HW0 := Lib.hid hw0
  clear w0 w1 w2 w3 w4 w5 w6 w7 hw0
  go_enter Tryf.func5, Tryf.ntmps5
  go_wp2_with fail
  refine HBY.out.mono ?_; rintro e u0 ⟨b, rfl, rfl, hbt⟩
  cases b with
  | false =>
    go_wp2
    go_ret
    exact ⟨rfl, Below.refl _ _⟩
  | true =>
  obtain ⟨hn0, hn2, hsz, hn3, hn4, hn5⟩ := hbt rfl
  have HSZ := Lib.hid hsz
  clear hbt HBY hsz
  go_wp2_with fail
  refine (fwdBytes_any a0 len0 cap0 a2 len2 cap2 z2 a3 len3 cap3 a4 len4 cap4 a5 _ W2.out hn0 hn2 hn3 hn4 hn5 HSZ.out).mono ?_; rintro e u1 ⟨t, rfl, rfl, ht⟩
  by_cases hc : 1048576 < t
  · go_wp2
    go_ret
    exact ⟨rfl, Below.refl _ _⟩
  have hl0 : len0 ≤ 262144 := by omega
  have hl2 : len2 ≤ 65536 := by omega
  clear ht
  go_wp2_with fail
  refine (premise_any a0 len0 cap0 a1 a2 len2 cap2 z2 a3 len3 cap3 z3 a4 len4 cap4 z4 a5 a7 _ W2.out W3.out W4.out hn0 hn2 hn3 hn4 hn5 HSZ.out).mono ?_; rintro e u2 ⟨b, q0, rfl, rfl, hok⟩
  cases b with
  | false =>
    go_wp2
    go_ret
    exact ⟨rfl, below_drewN (Below.refl _ _) _⟩
  | true =>
  obtain ⟨h3, h4, fs, rfl, hfs, hall⟩ := hok rfl
  subst h3
  subst h4
  have HALL := Lib.hid hall
  have W0' := Lib.hid (InRow.keep W0.out (below_drewN (Below.refl _ _) q0))
  have W2' := Lib.hid (InRow.keep W2.out (below_drewN (Below.refl _ _) q0))
  have W3' := Lib.hid (InRow.keep W3.out (below_drewN (Below.refl _ _) q0))
  have W4' := Lib.hid (InRow.keep W4.out (below_drewN (Below.refl _ _) q0))
  have HB0 := Lib.hid (below_drewN (Below.refl u1.heap.size u1) q0)
  clear hok hall W0 W2 W3 W4
  generalize u1.drewN q0 = v0 at *
  have L0 := Lib.hid (show (z0.take len0).length = len0 by have := Z0.out; simp; omega)
  go_wp2_with fail
  refine (cloneU32_any a0 len0 cap0 z0 _ W0'.out (by omega)).mono ?_; rintro e v1 ⟨v, rfl, hown, hb1⟩
  obtain ⟨p0, hv⟩ := own_form hown
  rw [L0.out] at hv
  subst hv
  have HR1 := Lib.hid hown
  have B1 := Lib.hid hb1
  clear hown hb1
  go_wp2_with fail
  refine (cloneStrs_any a2 len4 cap2 z2 _ (InRow.keep W2'.out (B1.out.mono (Nat.le_refl _))) (by omega)).mono ?_; rintro e v2 ⟨v, rfl, hown, hb2⟩
  obtain ⟨p2, hv⟩ := own_form hown
  rw [show (z2.take len4).length = len4 by have := Z2.out; simp; omega] at hv
  subst hv
  have HQ2 := Lib.hid (own_cq ByteArray.empty hown Z2.out)
  have HR2 := Lib.hid (own_keep HR1.out fun x a hx => hb2.block x (lt_of_block hx))
  have B2 := Lib.hid (B1.out.trans (hb2.mono B1.out.size))
  clear hown hb2
  go_wp2_with fail
  refine (cloneInts_any a3 len4 cap3 z3 _ (InRow.keep W3'.out B2.out) (by omega)).mono ?_; rintro e v3 ⟨v, rfl, hown, hb3⟩
  obtain ⟨p3, hv⟩ := own_form hown
  rw [show (z3.take len4).length = len4 by have := Z3.out; simp; omega] at hv
  subst hv
  have HQ3 := Lib.hid (own_cq 0 hown Z3.out)
  have HQ2 := Lib.hid (HQ2.out.below hb3)
  have HR3 := Lib.hid (own_keep HR2.out fun x a hx => hb3.block x (lt_of_block hx))
  have B3 := Lib.hid (B2.out.trans (hb3.mono B2.out.size))
  clear hown hb3
  go_wp2_with fail
  refine (cloneInts_any a4 len4 cap4 z4 _ (InRow.keep W4'.out B3.out) (by omega)).mono ?_; rintro e v4 ⟨v, rfl, hown, hb4⟩
  obtain ⟨p4, hv⟩ := own_form hown
  rw [show (z4.take len4).length = len4 by have := Z4.out; simp; omega] at hv
  subst hv
  have HQ4 := Lib.hid (own_cq 0 hown Z4.out)
  have HQ2 := Lib.hid (HQ2.out.below hb4)
  have HQ3 := Lib.hid (HQ3.out.below hb4)
  have HR4 := Lib.hid (own_keep HR3.out fun x a hx => hb4.block x (lt_of_block hx))
  have B4 := Lib.hid (B3.out.trans (hb4.mono B3.out.size))
  clear hown hb4
  obtain ⟨base, hbase⟩ : ∃ b, b = v0.heap.size := ⟨_, rfl⟩
  rw [← hbase] at HR4
  have hbs : base ≤ v4.heap.size := by rw [hbase]; exact B4.out.size
  have HBASE := Lib.hid hbase
  have P0 := Lib.hid HR4.out
  clear hbase
  go_wp2_with fail
  refine (build_any base len4 fs (z0.take len0) _ _ _ p0 len0 p2 p3 p4 _ L0.out hbs HR4.out (by omega) (by omega) HQ2.out HQ3.out HQ4.out).mono ?_; rintro e v5 ⟨F, C, Bk, U, h, rfl, hs, hh, hb5⟩
  have HS := Lib.hid hs
  have HH := Lib.hid hh
  have B5 := Lib.hid (B4.out.trans (hb5.mono B4.out.size))
  have H45 := Lib.hid hb5
  clear hs hh hb5
  go_wp2_with fail
  refine (target_any a6 a7 a5 _).mono ?_; rintro e v6 ⟨T, rfl, htd, hb6⟩
  have HTD := Lib.hid htd
  have HS := Lib.hid (HS.out.below hb6)
  have B6 := Lib.hid (B5.out.trans (hb6.mono B5.out.size))
  have H46 := Lib.hid (H45.out.trans (hb6.mono H45.out.size))
  clear htd hb6
  have hpre : Pre h fs (z0.take len0).length (fun i => z2.getD i ByteArray.empty) (fun i => z3.getD i 0) (fun i => z4.getD i 0) a5 a7 := fun i h1 h2 h3 => by
    have hi : i < len4 := by rw [HH.out i] at h2; simpa using h2
    rw [L0.out]
    exact HALL.out i h1 hi h3
  go_wp2_with fail
  refine (resolve_any F C Bk U p0 h base len4 fs (z0.take len0) _ _ _ T a6 a7 a5 _ HS.out HTD.out hfs (by omega) hpre (by rw [L0.out]; exact HW0.out) (by rw [L0.out]; omega)).mono ?_; rintro e v7 ⟨rfl, hs, htd, hb7⟩
  obtain ⟨dd, hdd⟩ : ∃ d, d = len4 + 1 - fs := ⟨_, rfl⟩
  rw [← hdd] at hs
  have hd2 : fs + dd = len4 + 1 := by omega
  have HD2 := Lib.hid hd2
  have HP1 := Lib.hid (fun i => isSome_resH (i := i) (ns := fun i => z2.getD i ByteArray.empty) (tn := a5) HH.out hd2)
  have LC := Lib.hid (show (resC h (fun i => z2.getD i ByteArray.empty) (fun i => z3.getD i 0) a5 a6 fs (z0.take len0) dd).length = len0 by rw [resC_len]; exact L0.out)
  have HS7 := Lib.hid hs
  have HTD7 := Lib.hid htd
  have B7 := Lib.hid (B6.out.trans (hb7.mono (by rw [HBASE.out]; exact Nat.le_refl _)))
  have H47 := Lib.hid hb7
  clear hs htd hb7 hpre hdd hd2 HS HTD
  obtain ⟨pd, hpd⟩ : ∃ f : Nat → Value, f = fun i => .bool (resH h (fun i => z2.getD i ByteArray.empty) a5 fs dd i).isSome := ⟨_, rfl⟩
  obtain ⟨sn, hsn⟩ : ∃ f : Nat → Value, f = fun i => .int .u32 ((resC h (fun i => z2.getD i ByteArray.empty) (fun i => z3.getD i 0) a5 a6 fs (z0.take len0) dd).getD i 0) := ⟨_, rfl⟩
  have HPD := Lib.hid hpd
  have HSN := Lib.hid hsn
  have hnone : ∀ i, fs ≤ i → (resH h (fun i => z2.getD i ByteArray.empty) a5 fs dd i).isSome = true → z2.getD i ByteArray.empty ≠ a5 := fun i h1 h2 h3 => by
    have h2' : (decide (i < len4) && !(decide (fs ≤ i) && decide (z2.getD i ByteArray.empty = a5))) = true := (HP1.out i).symm.trans h2
    rw [decide_eq_true h1, decide_eq_true h3] at h2'
    simp at h2'
  have HNONE := Lib.hid hnone
  clear hpd hsn hnone
  generalize resH h (fun i => z2.getD i ByteArray.empty) a5 fs dd = h1 at *
  generalize resC h (fun i => z2.getD i ByteArray.empty) (fun i => z3.getD i 0) a5 a6 fs (z0.take len0) dd = c1 at *
  have hmk : ∀ w : World, (Instr.makeSlice 36 (.int .i64 ((len4 : Int) + 1)) (.int .i64 ((len4 : Int) + 1))).run Tryf.prog w = .ok (.slice (some ⟨w.heap.size, 0, none⟩) (len4 + 1) (len4 + 1)) (w.alloc (.cells (madeCells (Value.cells (.bool false)) (len4 + 1)) 4)) := fun w => makeB (len4 + 1) (by omega) w
  have hsz1 := size_madeCells (Value.cells (.bool false)) (len4 + 1)
  generalize madeCells (Value.cells (.bool false)) (len4 + 1) = mb at *
  have HRV := Lib.hid (⟨mb, heap_alloc_new _ _, by simpa using hsz1, fun i hi => absurd hi (by omega)⟩ : RowV 4 pd (v7.alloc (.cells mb 4)) v7.heap.size (len4 + 1) 0)
  have HV1 := Lib.hid ((Below.refl v7.heap.size v7).alloc (Nat.le_refl _) (.cells mb 4))
  clear hsz1
  go_wp2_with fail
  obtain ⟨G1, hG1⟩ : ∃ g, g = v7.heap.size := ⟨_, rfl⟩
  rw [← hG1] at HRV
  rw [← hG1]
  have hG1' : v7.heap.size ≤ G1 := by omega
  clear hmk hG1
  go_loopw [21] (fun i wr => ∃ k : Nat, k ≤ len4 + 1 ∧ i = .int .i64 k ∧ RowV 4 pd wr G1 (len4 + 1) k ∧ Below v7.heap.size v7 wr) (fun i _ => len4 + 1 - (intOf i).toNat)
  case atStart => exact ⟨0, by omega, rfl, HRV.out, HV1.out⟩
  case round =>
    obtain ⟨k, hk, rfl, hrv, hb⟩ := hrel
    have HRV := Lib.hid hrv
    have HV := Lib.hid hb
    by_cases hkl : k < len4 + 1
    · obtain ⟨⟨v0, e3⟩, e4⟩ := hrv.room hkl
      have hs := HS7.out.below hb
      have HP := Lib.hid (isPending_any F C Bk U p0 h1 base len4 (fs : Int) c1 (fun i => z2.getD i ByteArray.empty) (fun i => z3.getD i 0) (fun i => z4.getD i 0) k wr hs (by omega))
      have EV := Lib.hid (show Value.bool (h1 k).isSome = pd k by rw [HPD.out])
      clear hrv hb hs
      generalize (h1 k).isSome = bv at *
      have b1 : (0 : Int) ≤ (k : Int) := by omega
      have b2 : (k : Int) ≤ (len4 : Int) := by omega
      have b3 : (k : Int) < (((len4 + 1 : Nat) : Nat) : Int) := by omega
      have b4 : (k : Int) < (len4 : Int) + 1 := by omega
      go_wp2_with fail
      refine HP.out.mono ?_; rintro e u9 ⟨rfl, rfl⟩
      go_wp2
      go_roundw
      case rel => exact ⟨k + 1, by omega, by go_num, HRV.out.set hkl EV.out, HV.out.setCell (p := ⟨G1, k, none⟩) hG1' _⟩
      case measure => simp [intOf]; omega
    · have hkk : k = len4 + 1 := by omega
      subst hkk
      have b1 : ¬ ((((len4 + 1 : Nat) : Nat) : Int) ≤ (len4 : Int)) := by omega
      obtain ⟨v8, rfl⟩ : ∃ v8 : World, v8 = wr := ⟨_, rfl⟩
      have hmk := makeU32 len0 (by omega)
      clear hrv hb
      have HS8 := Lib.hid (HS7.out.below HV.out)
      have HTD8 := Lib.hid (HTD7.out.keep (HV.out.block T HTD7.out.lt))
      have B8 := Lib.hid (B7.out.trans (HV.out.mono B7.out.size))
      have HRS := Lib.hid (⟨(List.replicate len0 (.int .u32 0)).toArray, heap_alloc_new _ _, by simp, fun i hi => absurd hi (by omega)⟩ : RowV 39 sn (v8.alloc (.cells (List.replicate len0 (.int .u32 0)).toArray 39)) v8.heap.size len0 0)
      have HV2 := Lib.hid ((Below.refl v8.heap.size v8).alloc (Nat.le_refl _) (.cells (List.replicate len0 (.int .u32 0)).toArray 39))
      generalize (List.replicate len0 (Value.int .u32 0)).toArray = mu at *
      go_wp2_with fail
      obtain ⟨G2, hG2⟩ : ∃ g, g = v8.heap.size := ⟨_, rfl⟩
      rw [← hG2] at HRS
      rw [← hG2]
      have hG2' : v8.heap.size ≤ G2 := by omega
      clear hmk hG2
      go_loopw [23] (fun i wr => ∃ k : Nat, k ≤ len0 ∧ i = .int .i64 k ∧ RowV 39 sn wr G2 len0 k ∧ Below v8.heap.size v8 wr) (fun i _ => len0 - (intOf i).toNat)
      case atStart => exact ⟨0, by omega, rfl, HRS.out, HV2.out⟩
      case round =>
        obtain ⟨k, hk, rfl, hrs, hb⟩ := hrel
        have HRS := Lib.hid hrs
        have HV8 := Lib.hid hb
        by_cases hkl : k < len0
        · obtain ⟨⟨v0, e3⟩, e4⟩ := hrs.room hkl
          have hs := HS8.out.below hb
          have HP := Lib.hid (codeAt_any F C Bk U p0 h1 base len4 (fs : Int) c1 (fun i => z2.getD i ByteArray.empty) (fun i => z3.getD i 0) (fun i => z4.getD i 0) k wr hs (by rw [LC.out]; exact hkl) (by rw [LC.out]; omega))
          have EV := Lib.hid (show Value.int .u32 (c1.getD k 0) = sn k by rw [HSN.out])
          clear hrs hb hs
          generalize c1.getD k 0 = cv at *
          have b1 : (0 : Int) ≤ (k : Int) := by omega
          have b2 : (k : Int) < (len0 : Int) := by omega
          go_wp2_with fail
          refine HP.out.mono ?_; rintro e u9 ⟨rfl, rfl⟩
          go_wp2
          go_roundw
          case rel => exact ⟨k + 1, by omega, by go_num, HRS.out.set hkl EV.out, HV8.out.setCell (p := ⟨G2, k, none⟩) hG2' _⟩
          case measure => simp [intOf]; omega
        · have hkk : k = len0 := by omega
          subst hkk
          obtain ⟨v9, rfl⟩ : ∃ v9 : World, v9 = wr := ⟨_, rfl⟩
          clear hrs hb
          have HS9 := Lib.hid (HS8.out.below HV8.out)
          have HTD9 := Lib.hid (HTD8.out.keep (HV8.out.block T HTD8.out.lt))
          have B9 := Lib.hid (B8.out.trans (HV8.out.mono B8.out.size))
          have HR9 := Lib.hid (HRV.out.keep (HV8.out.block G1 HRV.out.lt))
          go_wp2_with fail
          refine (resolveN_any F C Bk U p0 h1 base len4 fs c1 _ _ _ T a6 a7 a5 _ HS9.out HTD9.out hfs (by omega) HNONE.out).mono ?_; rintro e v10 ⟨rfl, q1, rfl⟩
          have HS10 := Lib.hid (HS9.out.drewN q1)
          have B10 := Lib.hid (below_drewN B9.out q1)
          have HR10 := Lib.hid (HR9.out.keep (w' := v9.drewN q1) rfl)
          have HC10 := Lib.hid (HRS.out.keep (w' := v9.drewN q1) rfl)
          generalize v9.drewN q1 = x at *
          go_wp2_with fail
          go_loopw [24] (fun i wr => ∃ m q : Nat, m ≤ len4 + 1 ∧ i = .int .i64 m ∧ wr = x.drewN q) (fun i _ => len4 + 1 - (intOf i).toNat)
          case atStart => exact ⟨0, 0, by omega, rfl, rfl⟩
          case round =>
            obtain ⟨m, q, hm, rfl, hwq⟩ := hrel
            have HWQ := Lib.hid hwq
            by_cases hml : m < len4 + 1
            · have d1 : wr.cell? ⟨G1, m, none⟩ = some (.bool (h1 m).isSome) := by
                rw [hwq, ← show pd m = Value.bool (h1 m).isSome by rw [HPD.out]]
                exact HR10.out.cell hml
              have hs : Sx wr F C Bk U p0 h1 base len4 (fs : Int) c1 (fun i => z2.getD i ByteArray.empty) (fun i => z3.getD i 0) (fun i => z4.getD i 0) := by rw [hwq]; exact HS10.out.drewN q
              have hat := fun w' (s : Sx w' F C Bk U p0 h1 base len4 (fs : Int) c1 (fun i => z2.getD i ByteArray.empty) (fun i => z3.getD i 0) (fun i => z4.getD i 0)) => isPending_any F C Bk U p0 h1 base len4 (fs : Int) c1 (fun i => z2.getD i ByteArray.empty) (fun i => z3.getD i 0) (fun i => z4.getD i 0) m w' s (by omega)
              have HAT := Lib.hid hat
              have HSW := Lib.hid hs
              clear hat hs hwq
              generalize (h1 m).isSome = bv at *
              have b1 : (0 : Int) ≤ (m : Int) := by omega
              have b2 : (m : Int) ≤ (len4 : Int) := by omega
              have b3 : (m : Int) < (((len4 + 1 : Nat) : Nat) : Int) := by omega
              have b4 : (m : Int) < (len4 : Int) + 1 := by omega
              go_wp2
              go_quiet ((go_at_call 16; refine Calls.quiet_of_same (HAT.out _ ?_); exact HSW.out.drewN _))
              go_wp2
              go_roundw
              case rel => exact ⟨m + 1, q + nq, by omega, by go_num, by rw [HWQ.out, World.drewN_drewN]⟩
              case measure => simp [intOf]; omega
            · have hmm : m = len4 + 1 := by omega
              subst hmm
              have b1 : ¬ ((((len4 + 1 : Nat) : Nat) : Int) ≤ (len4 : Int)) := by omega
              clear hwq
              go_wp2_with fail
              go_loopw [25] (fun i wr => ∃ m q : Nat, m ≤ k ∧ i = .int .i64 m ∧ wr = x.drewN q) (fun i _ => k - (intOf i).toNat)
              case atStart => exact ⟨0, q, by omega, rfl, HWQ.out⟩
              case round =>
                obtain ⟨m, q, hm, rfl, hwq⟩ := hrel
                have HWQ := Lib.hid hwq
                by_cases hml : m < k
                · have d1 : wr.cell? ⟨G2, m, none⟩ = some (.int .u32 (c1.getD m 0)) := by
                    rw [hwq, ← show sn m = Value.int .u32 (c1.getD m 0) by rw [HSN.out]]
                    exact HC10.out.cell hml
                  have hs : Sx wr F C Bk U p0 h1 base len4 (fs : Int) c1 (fun i => z2.getD i ByteArray.empty) (fun i => z3.getD i 0) (fun i => z4.getD i 0) := by rw [hwq]; exact HS10.out.drewN q
                  have hat := fun w' (s : Sx w' F C Bk U p0 h1 base len4 (fs : Int) c1 (fun i => z2.getD i ByteArray.empty) (fun i => z3.getD i 0) (fun i => z4.getD i 0)) => codeAt_any F C Bk U p0 h1 base len4 (fs : Int) c1 (fun i => z2.getD i ByteArray.empty) (fun i => z3.getD i 0) (fun i => z4.getD i 0) m w' s (by rw [LC.out]; exact hml) (by rw [LC.out]; omega)
                  have HAT := Lib.hid hat
                  have HSW := Lib.hid hs
                  clear hat hs hwq
                  generalize c1.getD m 0 = cv at *
                  have b1 : (0 : Int) ≤ (m : Int) := by omega
                  have b2 : (m : Int) < (k : Int) := by omega
                  go_wp2
                  go_quiet ((go_at_call 18; refine Calls.quiet_of_same (HAT.out _ ?_); exact HSW.out.drewN _))
                  go_wp2
                  go_roundw
                  case rel => exact ⟨m + 1, q + nq, by omega, by go_num, by rw [HWQ.out, World.drewN_drewN]⟩
                  case measure => simp [intOf]; omega
                · have hmm : m = k := by omega
                  subst hmm
                  clear hwq
                  go_wp2
                  go_ret
                  exact ⟨rfl, by rw [HWQ.out]; exact below_drewN (HB0.out.trans (B10.out.mono HB0.out.size)) _⟩

end Go.Proofs.YtiihgamhmflphaaFmt.fnResolveForwardGotoIsIdempotent
