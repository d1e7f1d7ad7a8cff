/- ResolveForwardGoto: what it leaves. -/
import Derived.Test.YtiihgamhmflphaaFmtFwdRes116
namespace Go.Proofs.YtiihgamhmflphaaFmt
open Go.RowKit Go.Maps
set_option linter.unusedVariables false

theorem tl_inj {a b : ByteArray} (h : a.toList = b.toList) : a = b := by
  rw [ByteArray.toList_eq, ByteArray.toList_eq] at h
  exact ByteArray.ext (Array.toList_inj.1 h)
theorem tl_ne {a b : ByteArray} (h : a ≠ b) : (a.toList == b.toList) = false := by
  rw [Bool.eq_false_iff]
  intro e
  exact h (tl_inj (by simpa using e))

/-- The gotos left, and the words, when d places from fs on have been looked at. -/
def resH (h : Nat → Option Nat) (ns : Nat → ByteArray) (tn : ByteArray) (fs d : Nat) : Nat → Option Nat := fun i => if fs ≤ i ∧ i < fs + d ∧ ns i = tn then none else h i
def resC (h : Nat → Option Nat) (ns : Nat → ByteArray) (ps : Nat → Int) (tn : ByteArray) (tid : Int) (fs : Nat) (cs : List Int) : Nat → List Int
  | 0 => cs
  | d + 1 => if (h (fs + d)).isSome = true ∧ ns (fs + d) = tn then (resC h ns ps tn tid fs cs d).set (ps (fs + d)).toNat (Fld.setSbx ((resC h ns ps tn tid fs cs d).getD (ps (fs + d)).toNat 0) tid) else resC h ns ps tn tid fs cs d

theorem resC_len {h : Nat → Option Nat} {ns : Nat → ByteArray} {ps : Nat → Int} {tn : ByteArray} {tid : Int} {fs : Nat} {cs : List Int} : ∀ d, (resC h ns ps tn tid fs cs d).length = cs.length
  | 0 => rfl
  | d + 1 => by
    unfold resC
    split
    · rw [List.length_set]; exact resC_len d
    · exact resC_len d
theorem getD_set_same {l : List Int} {k : Nat} {x : Int} (h : k < l.length) : (l.set k x).getD k 0 = x := by simp [List.getD, h]
theorem getD_set_other {l : List Int} {k i : Nat} {x : Int} (h : i ≠ k) : (l.set k x).getD i 0 = l.getD i 0 := by simp [List.getD, Ne.symm h]
theorem resC_w {h : Nat → Option Nat} {ns : Nat → ByteArray} {ps : Nat → Int} {tn : ByteArray} {tid : Int} {fs : Nat} {cs : List Int} (hw : ∀ i, i < cs.length → Fld.W32 (cs.getD i 0)) : ∀ d i, i < cs.length → Fld.W32 ((resC h ns ps tn tid fs cs d).getD i 0)
  | 0, i, hi => hw i hi
  | d + 1, i, hi => by
    unfold resC
    split
    · by_cases e : i = (ps (fs + d)).toNat
      · rw [← e, getD_set_same (by rw [resC_len]; exact hi)]
        exact Fld.setBx_w (resC_w hw d i hi)
      · rw [getD_set_other e]; exact resC_w hw d i hi
    · exact resC_w hw d i hi
theorem resH_at {h : Nat → Option Nat} {ns : Nat → ByteArray} {tn : ByteArray} {fs d : Nat} : resH h ns tn fs d (fs + d) = h (fs + d) := by
  unfold resH; rw [if_neg (by omega)]
theorem resH_skip {h : Nat → Option Nat} {ns : Nat → ByteArray} {tn : ByteArray} {fs d : Nat} (hs : h (fs + d) = none ∨ ns (fs + d) ≠ tn) : resH h ns tn fs (d + 1) = resH h ns tn fs d := by
  funext i
  unfold resH
  by_cases e : i = fs + d
  · subst e
    rcases hs with hs | hs
    · rw [if_neg (show ¬ (fs ≤ fs + d ∧ fs + d < fs + d ∧ ns (fs + d) = tn) by omega), hs]
      split <;> rfl
    · rw [if_neg (fun x => hs x.2.2), if_neg (fun x => hs x.2.2)]
  · by_cases c : fs ≤ i ∧ i < fs + d ∧ ns i = tn
    · rw [if_pos c, if_pos ⟨c.1, by omega, c.2.2⟩]
    · rw [if_neg c, if_neg (fun x => c ⟨x.1, by omega, x.2.2⟩)]
theorem resH_take {h : Nat → Option Nat} {ns : Nat → ByteArray} {tn : ByteArray} {fs d : Nat} (hs : ns (fs + d) = tn) : resH h ns tn fs (d + 1) = drop1 (resH h ns tn fs d) (fs + d) := by
  funext i
  unfold resH drop1
  by_cases e : i = fs + d
  · subst e
    rw [if_pos ⟨by omega, by omega, hs⟩, if_pos rfl]
  · rw [if_neg e]
    show _ = if fs ≤ i ∧ i < fs + d ∧ ns i = tn then none else h i
    by_cases c : fs ≤ i ∧ i < fs + d ∧ ns i = tn
    · rw [if_pos c, if_pos ⟨c.1, by omega, c.2.2⟩]
    · rw [if_neg c, if_neg (fun x => c ⟨x.1, by omega, x.2.2⟩)]

section
variable (F C Bk U : Nat) (p : Option Addr) (h : Nat → Option Nat) (base n fs : Nat) (cs : List Int) (ns : Nat → ByteArray) (ps nu : Nat → Int) (T : Nat) (tid tN : Int) (tn : ByteArray)

/-- What may be resolved. -/
def Pre (h : Nat → Option Nat) (fs : Nat) (N : Nat) (ns : Nat → ByteArray) (ps nu : Nat → Int) (tn : ByteArray) (tN : Int) : Prop :=
  ∀ i, fs ≤ i → (h i).isSome = true → ns i = tn → tN ≤ nu i ∧ 0 ≤ ps i ∧ ps i < (N : Int)

set_option maxHeartbeats 2000000 in
set_option maxRecDepth 100000 in
theorem resolve0 (w : World) (s : Sx w F C Bk U p h base n (fs : Int) cs ns ps nu) (td : Td w T tid tn tN) (hfs : fs ≤ n) (hn : n ≤ 1048570) (hpre : Pre h fs cs.length ns ps nu tn tN) (hw : ∀ i, i < cs.length → Fld.W32 (cs.getD i 0)) (hcl : cs.length ≤ 1048576) :
    Calls Tryf.prog 33 #[.pointer (some ⟨F, 0, none⟩), .pointer (some ⟨T, 0, none⟩)] w fun e w' => e = .returned (.tuple #[]) ∧
      Sx w' F C Bk U p (resH h ns tn fs (n + 1 - fs)) base n (fs : Int) (resC h ns ps tn tid fs cs (n + 1 - fs)) ns ps nu ∧ Td w' T tid tn tN ∧ Below base w w' := by
  have f4 := s.f4
  have b7 := s.b7
  have S := Lib.hid s
  have TD := Lib.hid td
  have HP := Lib.hid hpre
  have HW := Lib.hid hw
  have HL := Lib.hid hcl
  have h0 : resH h ns tn fs 0 = h := by
    funext i
    unfold resH
    rw [if_neg (by omega)]
  have HH0 := Lib.hid h0
  clear s td hpre hw hcl h0
  go_enter Tryf.func33, Tryf.ntmps33
  go_wp2_with fail
  go_loopw [4, 5, 6] (fun i _ _ wr => ∃ d : Nat, fs + d ≤ n + 1 ∧ i = .int .i64 ((fs + d : Nat) : Int) ∧ Sx wr F C Bk U p (resH h ns tn fs d) base n (fs : Int) (resC h ns ps tn tid fs cs d) ns ps nu ∧ Td wr T tid tn tN ∧ Below base w wr) (fun i _ _ _ => n + 1 - (intOf i).toNat)
  case atStart => exact ⟨0, by omega, rfl, by rw [HH0.out]; exact S.out, TD.out, Below.refl _ _⟩
  case round =>
    obtain ⟨d, hd, rfl, hs, htd, hb⟩ := hrel
    have f9 := hs.f9
    have f10 := hs.f10
    have hu := hs.hU
    have SX := Lib.hid hs
    have TX := Lib.hid htd
    have HB := Lib.hid hb
    have hat := resH_at (h := h) (ns := ns) (tn := tn) (fs := fs) (d := d)
    by_cases hle : fs + d ≤ n
    · have b1 : (((fs + d : Nat) : Nat) : Int) ≤ (n : Int) := by omega
      cases hq : h (fs + d) with
      | none =>
        rw [hq] at hat
        obtain ⟨v, hrun⟩ := hu.run_none hat (by omega)
        have E1 := Lib.hid (resH_skip (tn := tn) (ns := ns) (.inl hq))
        have E2 := Lib.hid (show resC h ns ps tn tid fs cs (d + 1) = resC h ns ps tn tid fs cs d by simp [resC, hq])
        clear hs htd hb hu hq hat
        generalize hI : fs + d = I at *
        have HI := Lib.hid hI
        clear hI
        go_wp2
        go_roundw
        case rel => exact ⟨d + 1, by have := HI.out; omega, by have := HI.out; rw [show fs + (d + 1) = I + 1 by omega]; go_num, by rw [E1.out, E2.out]; exact SX.out, TX.out, HB.out⟩
        case measure => simp [intOf]; omega
      | some g =>
        rw [hq] at hat
        have hrun := hu.run_some hat (by omega)
        have gd := (hs.hG _ _ hat).2
        have g1 := gd.c1
        have t1 := htd.c1
        have HQ := Lib.hid hq
        have HAT := Lib.hid hat
        clear hs htd hb hu gd
        by_cases hx : ns (fs + d) = tn
        · have E1 := Lib.hid (resH_take (h := h) (tn := tn) (ns := ns) (fs := fs) (d := d) hx)
          have E2 := Lib.hid (show resC h ns ps tn tid fs cs (d + 1) = (resC h ns ps tn tid fs cs d).set (ps (fs + d)).toNat (Fld.setSbx ((resC h ns ps tn tid fs cs d).getD (ps (fs + d)).toNat 0) tid) by
            simp [resC, hq, hx])
          obtain ⟨p1, p2, p3⟩ := HP.out (fs + d) (by omega) (by rw [hq]; rfl) hx
          have P1 := Lib.hid p1
          have P2 := Lib.hid (show ps (fs + d) = (((ps (fs + d)).toNat : Nat) : Int) by omega)
          have P3 := Lib.hid (show (ps (fs + d)).toNat < (resC h ns ps tn tid fs cs d).length by rw [resC_len]; omega)
          have P4 := Lib.hid (resC_w (h := h) (ns := ns) (ps := ps) (tn := tn) (tid := tid) (fs := fs) HW.out d (ps (fs + d)).toNat (by omega))
          have P5 := Lib.hid (show (resC h ns ps tn tid fs cs d).length ≤ 1048576 by rw [resC_len]; exact HL.out)
          rw [hx] at g1
          clear hx hq hat p1 p2 p3
          generalize hI : fs + d = I at *
          have HI := Lib.hid hI
          clear hI
          go_wp2_with fail
          go_quiet (fail)
          have SX1 := Lib.hid (SX.out.drewN nq)
          have TX1 := Lib.hid (TX.out.keep (w' := wr.drewN nq) rfl)
          have HB1 := Lib.hid (below_drewN HB.out nq)
          generalize wr.drewN nq = w1 at *
          go_wp2_with fail
          refine (resolveGoto_any F C Bk U p _ base n _ _ ns ps nu I g _ T tid tN tn _ SX1.out TX1.out HAT.out (by omega) P1.out P2.out P3.out P4.out P5.out).mono ?_; rintro e w3 ⟨rfl, s3, td3, hb3⟩
          rw [← E1.out, ← E2.out] at s3
          have SX3 := Lib.hid s3
          have TX3 := Lib.hid td3
          have HB3 := Lib.hid (HB1.out.trans hb3)
          clear s3 td3 hb3
          go_wp2
          go_roundw
          case rel => exact ⟨d + 1, by have := HI.out; omega, by have := HI.out; rw [show fs + (d + 1) = I + 1 by omega]; go_num, SX3.out, TX3.out, HB3.out⟩
          case measure => simp [intOf]; omega
        · have E1 := Lib.hid (resH_skip (h := h) (tn := tn) (ns := ns) (fs := fs) (d := d) (.inr hx))
          have E2 := Lib.hid (show resC h ns ps tn tid fs cs (d + 1) = resC h ns ps tn tid fs cs d by simp [resC, hx])
          have hx1 := tl_ne hx
          generalize ns (fs + d) = nm at *
          clear hx hq hat
          generalize hI : fs + d = I at *
          have HI := Lib.hid hI
          clear hI
          go_wp2_with fail
          go_quiet (fail)
          go_wp2
          go_roundw
          case rel => exact ⟨d + 1, by have := HI.out; omega, by have := HI.out; rw [show fs + (d + 1) = I + 1 by omega]; go_num, by rw [E1.out, E2.out]; exact SX.out.drewN _, TX.out.keep rfl, below_drewN HB.out _⟩
          case measure => simp [intOf]; omega
    · have b1 : ¬ ((((fs + d : Nat) : Nat) : Int) ≤ (n : Int)) := by omega
      have hdd : n + 1 - fs = d := by omega
      clear hs htd hb hu hat
      go_wp2
      go_end0
      try rw [hdd]
      exact ⟨by first | rfl | trivial, SX.out, TX.out, HB.out⟩

theorem resolve_any (w : World) (s : Sx w F C Bk U p h base n (fs : Int) cs ns ps nu) (td : Td w T tid tn tN) (hfs : fs ≤ n) (hn : n ≤ 1048570) (hpre : Pre h fs cs.length ns ps nu tn tN) (hw : ∀ i, i < cs.length → Fld.W32 (cs.getD i 0)) (hcl : cs.length ≤ 1048576) :
    Calls Tryf.prog 15 #[.pointer (some ⟨F, 0, none⟩), .pointer (some ⟨T, 0, none⟩)] w fun e w' => e = .returned (.tuple #[]) ∧
      Sx w' F C Bk U p (resH h ns tn fs (n + 1 - fs)) base n (fs : Int) (resC h ns ps tn tid fs cs (n + 1 - fs)) ns ps nu ∧ Td w' T tid tn tN ∧ Below base w w' := by
  have H := Lib.hid (resolve0 F C Bk U p h base n fs cs ns ps nu T tid tN tn w s td hfs hn hpre hw hcl)
  clear s td hpre hw
  go_enter Tryf.func15, Tryf.ntmps15
  go_wp2_with fail
  refine H.out.mono ?_; rintro e w1 ⟨rfl, hp⟩
  have HP := Lib.hid hp
  clear hp
  go_wp2
  go_end0
  exact ⟨by first | rfl | trivial, HP.out⟩
end

end Go.Proofs.YtiihgamhmflphaaFmt
