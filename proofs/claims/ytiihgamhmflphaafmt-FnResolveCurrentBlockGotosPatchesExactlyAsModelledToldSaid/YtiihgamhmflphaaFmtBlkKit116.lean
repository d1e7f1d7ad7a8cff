/- The second pass; small helpers of the laws on blocks. -/
import Derived.Test.YtiihgamhmflphaaFmtBlkLoop116
import Derived.Test.YtiihgamhmflphaaFmtFwdSpec116
namespace Go.Proofs.YtiihgamhmflphaaFmt
open Go.RowKit Go.Maps
set_option linter.unusedVariables false

section
variable (F C Bk U : Nat) (p : Option Addr) (h : Nat → Option Nat) (base n fs : Nat) (first : Int) (cs : List Int) (ns : Nat → ByteArray) (ps nu : Nat → Int)
variable (P Q VB V V1 V2 LmB Lm L2 b1 b2 n1 n2 : Nat) (par : Option Addr) (ref refB refP r2 : Bool) (f1 f2 : Int) (lns : Nat → ByteArray) (lN : Nat → Int) (J : Nat)

theorem findNone (i g : Nat) (w : World) (s : Sx w F C Bk U p h base n first cs ns ps nu) (cb : Cb w P V par ref Lm f1) (lb : Lb w Lm lns lN J) (hq : h i = some g) (hs : (ns i).size ≤ maxLen) (hf : flx lns (ns i) J = none) :
    Calls Tryf.prog 51 #[.pointer (some ⟨F, 0, none⟩), .pointer (some ⟨P, 0, none⟩), .pointer (some ⟨g, 0, none⟩), .int .i64 (i : Int)] w fun e w' => e = .returned (.bool false) ∧ w' = w := by
  have g1 := (s.hG i g hq).2.c1
  obtain ⟨m, g', hu, _, hlab⟩ := lb
  have hgl := getLab_any P V par ref Lm f1 m g' (ns i) w cb hu hs
  rw [(hlab (ns i)).1 hf] at hgl
  have HGL := Lib.hid (show Calls Tryf.prog 56 #[.pointer (some ⟨P, 0, none⟩), .string (ns i)] w fun e w' => e = .returned (.pointer none) ∧ w' = w from hgl)
  clear s cb hu hlab hgl hf
  generalize ns i = nm at *
  go_enter Tryf.func51, Tryf.ntmps51
  go_wp2_with fail
  refine HGL.out.mono ?_; rintro e w1 ⟨rfl, rfl⟩
  go_wp2
  go_ret
  exact ⟨rfl, by first | rfl | trivial⟩

set_option maxHeartbeats 2000000 in
set_option maxRecDepth 100000 in
theorem resolveBN0 (w : World) (s : Sx w F C Bk U p h base n (fs : Int) cs ns ps nu) (cb : Cb w Bk VB (some ⟨P, 0, none⟩) refB LmB (fs : Int)) (cp : Cb w P V1 (some ⟨Q, 0, none⟩) refP Lm f1) (cq : Cb w Q V2 none r2 L2 f2) (pl1 : PlN w V1 b1 n1) (pl2 : PlN w V2 b2 n2) (lb : Lb w Lm lns lN J)
    (hfs : fs ≤ n) (hn : n ≤ 1048570) (hn1 : n1 ≤ 1048576) (hn2 : n2 ≤ 1048576) (hsz : ∀ i, i < n → (ns i).size ≤ maxLen)
    (hpre : ∀ i, fs ≤ i → i < n → (h i).isSome = true → ¬ ((n1 : Int) + (n2 : Int) < nu i) ∧ flx lns (ns i) J = none) :
    Calls Tryf.prog 40 #[.pointer (some ⟨F, 0, none⟩)] w fun e w' => e = .returned (.tuple #[]) ∧ w' = w := by
  have f4 := s.f4
  have f9 := s.f9
  have f10 := s.f10
  have k2 := cb.c2
  have k7 := cb.c7
  have HCNT := Lib.hid (count_any P V1 Lm Q V2 L2 b1 b2 n1 n2 refP r2 f1 f2 w cp cq pl1 pl2 hn1 hn2)
  obtain ⟨act, hact⟩ : ∃ a : Int, a = (n1 : Int) + (n2 : Int) := ⟨_, rfl⟩
  rw [← hact] at hpre HCNT
  have S := Lib.hid s
  have CP := Lib.hid cp
  have LB := Lib.hid lb
  have HPRE := Lib.hid hpre
  have HSZ := Lib.hid hsz
  clear s cb cp cq pl1 pl2 lb hpre hsz hact
  go_enter Tryf.func40, Tryf.ntmps40
  go_wp2_with fail
  refine HCNT.out.mono ?_; rintro e w0 ⟨rfl, rfl⟩
  go_wp2_with fail
  go_loopw [3, 4, 5] (fun i _ _ wr => ∃ d : Nat, fs + d ≤ n ∧ i = .int .i64 ((fs + d : Nat) : Int) ∧ wr = w0) (fun i _ _ _ => n - (intOf i).toNat)
  case atStart => exact ⟨0, by omega, rfl, by first | rfl | trivial⟩
  case round =>
    obtain ⟨d, hd, rfl, rfl⟩ := hrel
    by_cases hle : fs + d < n
    · have b1 : (((fs + d : Nat) : Nat) : Int) < (n : Int) := by omega
      cases hq : h (fs + d) with
      | none =>
        obtain ⟨v, hrun⟩ := S.out.hU.run_none hq (by omega)
        clear hq
        generalize hI : fs + d = I at *
        have HI := Lib.hid hI
        clear hI
        go_wp2
        go_roundw
        case rel => first | exact ⟨d + 1, by have := HI.out; omega, by have := HI.out; rw [show fs + (d + 1) = I + 1 by omega]; go_num, by first | rfl | trivial⟩ | exact ⟨d + 1, by have := HI.out; omega, by have := HI.out; rw [show fs + (d + 1) = I + 1 by omega]; go_num⟩
        case measure => simp [intOf]; omega
      | some g =>
        have hrun := S.out.hU.run_some hq (by omega)
        have g4 := (S.out.hG _ _ hq).2.c4
        obtain ⟨p1, p2⟩ := HPRE.out (fs + d) (by omega) hle (by rw [hq]; rfl)
        have HFN := Lib.hid (findNone F C Bk U p h base n (fs : Int) cs ns ps nu P V1 Lm (some ⟨Q, 0, none⟩) refP f1 lns lN J (fs + d) g wr S.out CP.out LB.out hq (HSZ.out _ hle) p2)
        clear hq p2
        generalize nu (fs + d) = num at *
        generalize hI : fs + d = I at *
        have HI := Lib.hid hI
        clear hI
        go_wp2_with fail
        refine HFN.out.mono ?_; rintro e w5 ⟨rfl, rfl⟩
        go_wp2
        go_roundw
        case rel => first | exact ⟨d + 1, by have := HI.out; omega, by have := HI.out; rw [show fs + (d + 1) = I + 1 by omega]; go_num, by first | rfl | trivial⟩ | exact ⟨d + 1, by have := HI.out; omega, by have := HI.out; rw [show fs + (d + 1) = I + 1 by omega]; go_num⟩
        case measure => simp [intOf]; omega
    · have b1 : ¬ ((((fs + d : Nat) : Nat) : Int) < (n : Int)) := by omega
      go_wp2
      go_end0
      exact ⟨by first | rfl | trivial, by first | rfl | trivial⟩

theorem wrapB {P : Ending → World → Prop} (w : World) (H : Calls Tryf.prog 40 #[.pointer (some ⟨F, 0, none⟩)] w fun e w' => e = .returned (.tuple #[]) ∧ P e w') :
    Calls Tryf.prog 24 #[.pointer (some ⟨F, 0, none⟩)] w fun e w' => e = .returned (.tuple #[]) ∧ P e w' := by
  have HH := Lib.hid H
  clear H
  go_enter Tryf.func24, Tryf.ntmps24
  go_wp2_with fail
  refine HH.out.mono ?_; rintro e w1 ⟨rfl, hp⟩
  have HP := Lib.hid hp
  clear hp
  go_wp2
  go_end0
  exact ⟨by first | rfl | trivial, HP.out⟩
end

theorem flx_mono {lns : Nat → ByteArray} {s : ByteArray} {k j : Nat} (h : flx lns s k = some j) : ∀ {n : Nat}, k ≤ n → flx lns s n = some j
  | 0, hn => by have : k = 0 := by omega
                subst this; exact h
  | n + 1, hn => by
    by_cases e : k = n + 1
    · subst e; exact h
    · have ih := flx_mono (n := n) h (by omega)
      unfold flx
      rw [ih]
def flv (lns : Nat → ByteArray) (s : ByteArray) (J : Nat) : Int := match flx lns s J with
  | some j => (j : Int)
  | none => -1

theorem firstLabel_any (a : Option Addr) (n cap : Nat) (zs : List ByteArray) (s : ByteArray) (w : World) (h : IsStrs w a n cap zs) (hn : n ≤ 1048576) :
    Calls Tryf.prog 36 #[.slice a n cap, .string s] w fun e w' => e = .returned (.int .i64 (flv (fun i => zs.getD i ByteArray.empty) s n)) ∧ w' = w := by
  have H := Lib.hid h
  clear h
  go_enter Tryf.func36, Tryf.ntmps36
  go_wp2_with fail
  go_loopw [5] (fun i wr => ∃ k : Nat, k ≤ n ∧ i = .int .i64 k ∧ flx (fun i => zs.getD i ByteArray.empty) s k = none ∧ wr = w) (fun i _ => n - (intOf i).toNat)
  case atStart => exact ⟨0, by omega, rfl, rfl, by first | rfl | trivial⟩
  case round =>
    obtain ⟨k, hk, rfl, hf, rfl⟩ := hrel
    by_cases hkl : k < n
    · obtain ⟨b, off, ea, hc⟩ := InRow.cells H.out (by omega)
      subst ea
      have d1 := hc k hkl
      clear hc
      have hb0 : (0 : Int) ≤ (k : Int) := by omega
      have hb1 : (k : Int) < (n : Int) := by omega
      by_cases hx : zs.getD k ByteArray.empty = s
      · have h1 : flx (fun i => zs.getD i ByteArray.empty) s (k + 1) = some k := by
          unfold flx
          rw [hf]
          exact if_pos hx
        have hv : flv (fun i => zs.getD i ByteArray.empty) s n = (k : Int) := by
          unfold flv
          rw [flx_mono h1 (by omega)]
        have HV := Lib.hid hv
        rw [hx] at d1
        clear hx h1 hv hf
        go_wp2
        go_ret
        exact ⟨by rw [HV.out]; rfl, by first | rfl | trivial⟩
      · have h1 : flx (fun i => zs.getD i ByteArray.empty) s (k + 1) = none := by
          unfold flx
          rw [hf]
          exact if_neg hx
        have H1 := Lib.hid h1
        have hx1 := tl_ne hx
        clear h1 hf hx
        generalize zs.getD k ByteArray.empty = x at *
        go_wp2
        go_roundw
        case rel => first | exact ⟨k + 1, by omega, by go_num, H1.out, by first | rfl | trivial⟩ | exact ⟨k + 1, by omega, by go_num, H1.out⟩
        case measure => simp [intOf]; omega
    · have hkk : k = n := by omega
      subst hkk
      have hv : flv (fun i => zs.getD i ByteArray.empty) s k = -1 := by unfold flv; rw [hf]
      have HV := Lib.hid hv
      clear hv hf
      go_wp2
      go_ret
      exact ⟨by rw [HV.out]; rfl, by first | rfl | trivial⟩

theorem min_any (a b : Int) (w : World) : Calls Tryf.prog 25 #[.int .i64 a, .int .i64 b] w fun e w' => e = .returned (.int .i64 (nAct b a)) ∧ w' = w := by
  unfold nAct
  by_cases h : a < b
  · rw [if_neg (by omega)]
    go_enter Tryf.func25, Tryf.ntmps25
    go_wp2
    go_ret
    exact ⟨rfl, by first | rfl | trivial⟩
  · have e : (if b < a then b else a) = b := by split <;> omega
    rw [e]
    clear e
    go_enter Tryf.func25, Tryf.ntmps25
    go_wp2
    go_ret
    exact ⟨rfl, by first | rfl | trivial⟩

set_option maxHeartbeats 1000000 in
theorem blockBytes_any (a0 : Option Addr) (n0 c0 : Nat) (a2 : Option Addr) (n2 c2 : Nat) (z2 : List ByteArray) (a3 : Option Addr) (n3 c3 : Nat) (a4 : Option Addr) (n4 c4 : Nat) (a8 : Option Addr) (n8 c8 : Nat) (z8 : List ByteArray) (a9 : Option Addr) (n9 c9 : Nat) (w : World) (h : IsStrs w a2 n2 c2 z2) (h' : IsStrs w a8 n8 c8 z8) (h0 : n0 ≤ 1048576) (h2 : n2 ≤ 1048576) (h3 : n3 ≤ 1048576) (h4 : n4 ≤ 1048576) (h8 : n8 ≤ 1048576) (h9 : n9 ≤ 1048576) (hs : ∀ i, i < n2 → (z2.getD i ByteArray.empty).size ≤ 1048576) (hs8 : ∀ i, i < n8 → (z8.getD i ByteArray.empty).size ≤ 1048576) :
    Calls Tryf.prog 21 #[.slice a0 n0 c0, .slice a2 n2 c2, .slice a3 n3 c3, .slice a4 n4 c4, .slice a8 n8 c8, .slice a9 n9 c9] w fun e w' => ∃ t : Int, e = .returned (.int .i64 t) ∧ w' = w ∧ 4 * (n0 : Int) + 16 * (n2 : Int) + 8 * (n3 : Int) + 8 * (n4 : Int) + 16 * (n8 : Int) + 8 * (n9 : Int) ≤ t := by
  have H := Lib.hid (strBytes_any a2 n2 c2 z2 w h h2 hs)
  have H8 := Lib.hid (strBytes_any a8 n8 c8 z8 w h' h8 hs8)
  clear h h' hs hs8
  go_enter Tryf.func21, Tryf.ntmps21
  go_wp2_with fail
  refine H.out.mono ?_; rintro e w1 ⟨t, rfl, rfl, t1, t2⟩
  go_wp2_with fail
  refine H8.out.mono ?_; rintro e w2 ⟨t', rfl, rfl, t3, t4⟩
  go_wp2
  go_ret
  exact ⟨_, rfl, by first | rfl | trivial, by omega⟩

end Go.Proofs.YtiihgamhmflphaaFmt
