/- ResolveCurrentBlockGotosWithParentBlock: what it leaves. -/
import Derived.Test.YtiihgamhmflphaaFmtBlkFind116
namespace Go.Proofs.YtiihgamhmflphaaFmt
open Go.RowKit Go.Maps
set_option linter.unusedVariables false

def nAct (act x : Int) : Int := if act < x then act else x
def blkN (h : Nat → Option Nat) (nu : Nat → Int) (act : Int) (fs d : Nat) : Nat → Int := fun i => if fs ≤ i ∧ i < fs + d ∧ (h i).isSome = true then nAct act (nu i) else nu i
def blkH (h : Nat → Option Nat) (ns lns : Nat → ByteArray) (J fs d : Nat) : Nat → Option Nat := fun i => if fs ≤ i ∧ i < fs + d ∧ (flx lns (ns i) J).isSome = true then none else h i
def actC (cs : List Int) (k : Nat) (act num : Int) (refB : Bool) : List Int := if act < num ∧ refB = true then cs.set (k - 1) (Fld.setA (cs.getD (k - 1) 0) act) else cs
def blkC (h : Nat → Option Nat) (ns lns : Nat → ByteArray) (J : Nat) (ps nu lN : Nat → Int) (act : Int) (refB refP : Bool) (fs : Nat) (cs : List Int) : Nat → List Int
  | 0 => cs
  | d + 1 => if (h (fs + d)).isSome = true then findC (actC (blkC h ns lns J ps nu lN act refB refP fs cs d) (ps (fs + d)).toNat act (nu (fs + d)) refB) (ps (fs + d)).toNat (nAct act (nu (fs + d))) lN refP (flx lns (ns (fs + d)) J) else blkC h ns lns J ps nu lN act refB refP fs cs d

section
variable {h : Nat → Option Nat} {ns lns : Nat → ByteArray} {J : Nat} {ps nu lN : Nat → Int} {act : Int} {refB refP : Bool} {fs d : Nat} {cs : List Int}
theorem actC_len (k : Nat) (num : Int) : (actC cs k act num refB).length = cs.length := by unfold actC; split <;> simp
theorem blkC_len : ∀ d, (blkC h ns lns J ps nu lN act refB refP fs cs d).length = cs.length
  | 0 => rfl
  | d + 1 => by
    unfold blkC
    split
    · rw [findC_len, actC_len, blkC_len d]
    · exact blkC_len d
theorem blkH_at : blkH h ns lns J fs d (fs + d) = h (fs + d) := by unfold blkH; rw [if_neg (by omega)]
theorem blkN_at : blkN h nu act fs d (fs + d) = nu (fs + d) := by unfold blkN; rw [if_neg (by omega)]
theorem blkH_skip (hs : h (fs + d) = none) : blkH h ns lns J fs (d + 1) = blkH h ns lns J fs d := by
  funext i
  unfold blkH
  by_cases e : i = fs + d
  · subst e
    rw [if_neg (show ¬ (fs ≤ fs + d ∧ fs + d < fs + d ∧ (flx lns (ns (fs + d)) J).isSome = true) by omega), hs]
    split <;> rfl
  · by_cases c : fs ≤ i ∧ i < fs + d ∧ (flx lns (ns i) J).isSome = true
    · rw [if_pos c, if_pos ⟨c.1, by omega, c.2.2⟩]
    · rw [if_neg c, if_neg (fun x => c ⟨x.1, by omega, x.2.2⟩)]
theorem blkH_step : blkH h ns lns J fs (d + 1) = findH (blkH h ns lns J fs d) (fs + d) (flx lns (ns (fs + d)) J) := by
  cases hf : flx lns (ns (fs + d)) J with
  | none =>
    show _ = blkH h ns lns J fs d
    funext i
    unfold blkH
    by_cases e : i = fs + d
    · subst e
      rw [if_neg (show ¬ (fs ≤ fs + d ∧ fs + d < fs + d ∧ (flx lns (ns (fs + d)) J).isSome = true) by omega), if_neg (fun x => by rw [hf] at x; exact absurd x.2.2 (by simp))]
    · by_cases c : fs ≤ i ∧ i < fs + d ∧ (flx lns (ns i) J).isSome = true
      · rw [if_pos c, if_pos ⟨c.1, by omega, c.2.2⟩]
      · rw [if_neg c, if_neg (fun x => c ⟨x.1, by omega, x.2.2⟩)]
  | some j =>
    show _ = drop1 (blkH h ns lns J fs d) (fs + d)
    funext i
    unfold blkH drop1
    by_cases e : i = fs + d
    · subst e
      rw [if_pos ⟨by omega, by omega, by rw [hf]; rfl⟩, if_pos rfl]
    · rw [if_neg e]
      show _ = if fs ≤ i ∧ i < fs + d ∧ (flx lns (ns i) J).isSome = true then none else h i
      by_cases c : fs ≤ i ∧ i < fs + d ∧ (flx lns (ns i) J).isSome = true
      · rw [if_pos c, if_pos ⟨c.1, by omega, c.2.2⟩]
      · rw [if_neg c, if_neg (fun x => c ⟨x.1, by omega, x.2.2⟩)]
theorem blkN_same (hs : h (fs + d) = none ∨ ¬ act < nu (fs + d)) : blkN h nu act fs (d + 1) = blkN h nu act fs d := by
  funext i
  unfold blkN
  by_cases e : i = fs + d
  · subst e
    rw [if_neg (show ¬ (fs ≤ fs + d ∧ fs + d < fs + d ∧ (h (fs + d)).isSome = true) by omega)]
    split
    · next c =>
      rcases hs with hs | hs
      · rw [hs] at c; exact absurd c.2.2 (by simp)
      · unfold nAct; rw [if_neg hs]
    · rfl
  · by_cases c : fs ≤ i ∧ i < fs + d ∧ (h i).isSome = true
    · rw [if_pos c, if_pos ⟨c.1, by omega, c.2.2⟩]
    · rw [if_neg c, if_neg (fun x => c ⟨x.1, by omega, x.2.2⟩)]
theorem blkN_gt {g : Nat} (hs : h (fs + d) = some g) (ha : act < nu (fs + d)) : blkN h nu act fs (d + 1) = updN (blkN h nu act fs d) (fs + d) act := by
  funext i
  unfold blkN updN
  by_cases e : i = fs + d
  · subst e
    rw [if_pos ⟨by omega, by omega, by rw [hs]; rfl⟩, if_pos rfl]
    unfold nAct
    rw [if_pos ha]
  · rw [if_neg e]
    show _ = if fs ≤ i ∧ i < fs + d ∧ (h i).isSome = true then nAct act (nu i) else nu i
    by_cases c : fs ≤ i ∧ i < fs + d ∧ (h i).isSome = true
    · rw [if_pos c, if_pos ⟨c.1, by omega, c.2.2⟩]
    · rw [if_neg c, if_neg (fun x => c ⟨x.1, by omega, x.2.2⟩)]
/-- What may be resolved. -/
def PreB (h : Nat → Option Nat) (ns lns : Nat → ByteArray) (J : Nat) (ps nu lN : Nat → Int) (act : Int) (refB refP : Bool) (fs n N : Nat) : Prop :=
  ∀ i, fs ≤ i → i < n → (h i).isSome = true → (act < nu i → refB = true → 1 ≤ ps i ∧ ps i ≤ (N : Int)) ∧ ∀ j, flx lns (ns i) J = some j → lN j ≤ nAct act (nu i) ∧ 0 ≤ ps i ∧ ps i < (N : Int) ∧ (lN j < nAct act (nu i) → refP = true → 1 ≤ ps i)
theorem actC_ws (hw : Ws cs) (k : Nat) (num : Int) (hk : act < num → refB = true → 1 ≤ k ∧ k ≤ cs.length) : Ws (actC cs k act num refB) := by
  unfold actC
  split
  · next c =>
    obtain ⟨k1, k2⟩ := hk c.1 c.2
    exact hw.set (Fld.setA_w (hw _ (by omega)))
  · exact hw
theorem blkC_ws {n : Nat} (hp : PreB h ns lns J ps nu lN act refB refP fs n cs.length) (hw : Ws cs) : ∀ d, fs + d ≤ n → Ws (blkC h ns lns J ps nu lN act refB refP fs cs d)
  | 0, _ => hw
  | d + 1, hd => by
    have ih := blkC_ws hp hw d (by omega)
    unfold blkC
    split
    · next c =>
      obtain ⟨p1, p2⟩ := hp (fs + d) (by omega) (by omega) c
      refine Ws.findC (actC_ws ih _ _ fun a b => ?_) _ _ _ _ fun hne => ?_
      · rw [blkC_len]; have := p1 a b; omega
      · rw [actC_len, blkC_len]
        cases hf : flx lns (ns (fs + d)) J with
        | none => exact absurd hf hne
        | some j => have := (p2 j hf).2; omega
    · exact ih
end

/-- Below E and beside the words and the gotos' descriptions nothing turns but map U. -/
def Frg (E U : Nat) (w w' : World) : Prop :=
  (∀ (k : Nat) (a : Array Value) (T : TypeId) (z : Nat × Nat), w.heap[k]? = some (Obj.cells a T z) → T ≠ 39 → (T ≠ 51 ∨ k < E) → w'.heap[k]? = w.heap[k]?) ∧
  ∀ (k : Nat) (es : Array MapEntry) (c : Nat), w.heap[k]? = some (Obj.map es c) → k ≠ U → w'.heap[k]? = w.heap[k]?
theorem Frg.refl (E U : Nat) (w : World) : Frg E U w w := ⟨fun _ _ _ _ _ _ _ => rfl, fun _ _ _ _ _ => rfl⟩
theorem Frg.trans {E U : Nat} {a b c : World} (h : Frg E U a b) (k : Frg E U b c) : Frg E U a c :=
  ⟨fun i x T z h1 h2 h3 => (k.1 i x T z ((h.1 i x T z h1 h2 h3).trans h1) h2 h3).trans (h.1 i x T z h1 h2 h3),
   fun i es n h1 h2 => (k.2 i es n ((h.2 i es n h1 h2).trans h1) h2).trans (h.2 i es n h1 h2)⟩
theorem Frm.frg {E U : Nat} {a b : World} (h : Frm U a b) : Frg E U a b := ⟨fun i x T z h1 h2 _ => h.1 i x T z h1 h2, h.2⟩
theorem Frg.drewN {E U : Nat} {a b : World} (h : Frg E U a b) (q : Nat) : Frg E U a (b.drewN q) := h
theorem Cb.frg {w w' : World} {E U Bk V : Nat} {par : Option Addr} {ref : Bool} {Lm : Nat} {first : Int} (h : Cb w Bk V par ref Lm first) (f : Frg E U w w') : Cb w' Bk V par ref Lm first := by
  obtain ⟨a, h1, h2⟩ := h
  exact ⟨a, (f.1 _ _ _ _ h1 (by decide) (.inl (by decide))).trans h1, h2⟩
theorem PlN.frg {w w' : World} {E U V base n : Nat} (h : PlN w V base n) (f : Frg E U w w') : PlN w' V base n := by
  obtain ⟨ns, off, a, c, h⟩ := h
  exact ⟨ns, off, a, c, h.hb, h.h0, (f.1 _ _ _ _ h.hS (by decide) (.inl (by decide))).trans h.hS, row_keep h.hr fun g hg => by obtain ⟨cur, hh⟩ := row_type h.hr hg; exact f.1 _ _ _ _ hh (by decide) (.inl (by decide))⟩
/-- The labels, their descriptions below E. -/
def LbE (w : World) (Lm : Nat) (lns : Nat → ByteArray) (lN : Nat → Int) (J E : Nat) : Prop :=
  ∃ m g, UpS w Lm m g ∧ m ≤ J ∧ ∀ s, (flx lns s J = none → g s = none) ∧ ∀ j, flx lns s J = some j → ∃ y, y < E ∧ g s = some y ∧ Td w y (j : Int) s (lN j)
theorem LbE.of {w : World} {Lm J E : Nat} {lns : Nat → ByteArray} {lN : Nat → Int} (h : Lb w Lm lns lN J) (hE : w.heap.size ≤ E) : LbE w Lm lns lN J E := by
  obtain ⟨m, g, h1, h2, h3⟩ := h
  refine ⟨m, g, h1, h2, fun s => ⟨(h3 s).1, fun j hj => ?_⟩⟩
  obtain ⟨y, e, td⟩ := (h3 s).2 j hj
  exact ⟨y, Nat.lt_of_lt_of_le td.lt hE, e, td⟩
theorem LbE.lb {w : World} {Lm J E : Nat} {lns : Nat → ByteArray} {lN : Nat → Int} (h : LbE w Lm lns lN J E) : Lb w Lm lns lN J := by
  obtain ⟨m, g, h1, h2, h3⟩ := h
  refine ⟨m, g, h1, h2, fun s => ⟨(h3 s).1, fun j hj => ?_⟩⟩
  obtain ⟨y, _, e, td⟩ := (h3 s).2 j hj
  exact ⟨y, e, td⟩
theorem LbE.frg {w w' : World} {Lm J E U : Nat} {lns : Nat → ByteArray} {lN : Nat → Int} (h : LbE w Lm lns lN J E) (f : Frg E U w w') (hU : Lm ≠ U) : LbE w' Lm lns lN J E := by
  obtain ⟨m, g, h1, h2, h3⟩ := h
  obtain ⟨es, c, ho⟩ := h1.obj
  refine ⟨m, g, h1.keep (f.2 _ _ _ ho hU), h2, fun s => ⟨(h3 s).1, fun j hj => ?_⟩⟩
  obtain ⟨y, hy, e, pc, line, ht⟩ := (h3 s).2 j hj
  exact ⟨y, hy, e, pc, line, (f.1 _ _ _ _ ht (by decide) (.inr hy)).trans ht⟩
theorem LbE.keep {w w' : World} {Lm J E : Nat} {lns : Nat → ByteArray} {lN : Nat → Int} (h : LbE w Lm lns lN J E) (hk : ∀ k, k < w.heap.size → w'.heap[k]? = w.heap[k]?) : LbE w' Lm lns lN J E := by
  obtain ⟨m, g, h1, h2, h3⟩ := h
  refine ⟨m, g, h1.keep (hk _ h1.lt), h2, fun s => ⟨(h3 s).1, fun j hj => ?_⟩⟩
  obtain ⟨y, hy, e, td⟩ := (h3 s).2 j hj
  exact ⟨y, hy, e, td.keep (hk _ td.lt)⟩
theorem Gs.num_frg {w : World} {E U : Nat} {G : Nat → Nat} {ns : Nat → ByteArray} {ps nu : Nat → Int} {n : Nat} (gs : Gs w n E G ns ps nu) {i : Nat} (hi : i < n) (x : Int) : Frg E U w (w.setCell ⟨G i, 4, none⟩ (.int .i64 x)) := by
  obtain ⟨hE, a0, l0, hd⟩ := gs.all i hi
  refine ⟨fun k a T z h1 h2 h3 => heap_setCell_other _ _ _ _ ?_, fun k es c h1 h2 => heap_setCell_other _ _ _ _ (fun e => map_ne hd h1 e.symm)⟩
  rcases h3 with h3 | h3
  · exact ty_ne h1 hd h3
  · show k ≠ G i
    omega

section
variable (F C Bk U : Nat) (p : Option Addr) (h : Nat → Option Nat) (base n fs : Nat) (cs : List Int) (ns : Nat → ByteArray) (ps nu : Nat → Int)
variable (E : Nat) (G : Nat → Nat) (P Q VB V1 V2 LmB Lm L2 b1 b2 n1 n2 : Nat) (refB refP r2 : Bool) (f1 f2 : Int) (lns : Nat → ByteArray) (lN : Nat → Int) (J : Nat)

set_option maxHeartbeats 4000000 in
set_option maxRecDepth 100000 in
theorem resolveB0 (w : World) (s : Sx w F C Bk U p h base n (fs : Int) cs ns ps nu) (cb : Cb w Bk VB (some ⟨P, 0, none⟩) refB LmB (fs : Int)) (cp : Cb w P V1 (some ⟨Q, 0, none⟩) refP Lm f1) (cq : Cb w Q V2 none r2 L2 f2) (pl1 : PlN w V1 b1 n1) (pl2 : PlN w V2 b2 n2) (lb : LbE w Lm lns lN J E)
    (gs : Gs w n E G ns ps nu) (hG : ∀ i g, h i = some g → g = G i) (hLU : Lm ≠ U) (hE : base ≤ E) (hfs : fs ≤ n) (hn : n ≤ 1048570) (hn1 : n1 ≤ 1048576) (hn2 : n2 ≤ 1048576) (hsz : ∀ i, i < n → (ns i).size ≤ maxLen)
    (hpre : PreB h ns lns J ps nu lN ((n1 : Int) + (n2 : Int)) refB refP fs n cs.length) (hw : Ws cs) (hcl : cs.length ≤ 1048576) :
    Calls Tryf.prog 40 #[.pointer (some ⟨F, 0, none⟩)] w fun e w' => e = .returned (.tuple #[]) ∧
      Sx w' F C Bk U p (blkH h ns lns J fs (n - fs)) base n (fs : Int) (blkC h ns lns J ps nu lN ((n1 : Int) + (n2 : Int)) refB refP fs cs (n - fs)) ns ps (blkN h nu ((n1 : Int) + (n2 : Int)) fs (n - fs)) ∧
      Gs w' n E G ns ps (blkN h nu ((n1 : Int) + (n2 : Int)) fs (n - fs)) ∧ Frg E U w w' ∧ Below base w w' := by
  have f4 := s.f4
  have k2 := cb.c2
  have k7 := cb.c7
  have HCNT := Lib.hid (count_any P V1 Lm Q V2 L2 b1 b2 n1 n2 refP r2 f1 f2 w cp cq pl1 pl2 hn1 hn2)
  obtain ⟨act, hact⟩ : ∃ a : Int, a = (n1 : Int) + (n2 : Int) := ⟨_, rfl⟩
  rw [← hact] at hpre HCNT
  rw [← hact]
  have hact0 : 0 ≤ act ∧ act ≤ 2097152 := by omega
  have S := Lib.hid s
  have CB := Lib.hid cb
  have CP := Lib.hid cp
  have LB := Lib.hid lb
  have GS := Lib.hid gs
  have HG := Lib.hid hG
  have HPRE := Lib.hid hpre
  have HW := Lib.hid hw
  have HSZ := Lib.hid hsz
  have h0 : blkH h ns lns J fs 0 = h := by funext i; unfold blkH; rw [if_neg (by omega)]
  have h1 : blkN h nu act fs 0 = nu := by funext i; unfold blkN; rw [if_neg (by omega)]
  have HH0 := Lib.hid h0
  have HN0 := Lib.hid h1
  clear s cb cp cq pl1 pl2 lb gs hG hpre hw hsz h0 h1 hact
  go_enter Tryf.func40, Tryf.ntmps40
  go_wp2_with fail
  refine HCNT.out.mono ?_; rintro e w0 ⟨rfl, rfl⟩
  go_wp2_with fail
  go_loopw [3, 4, 5] (fun i _ _ wr => ∃ d : Nat, fs + d ≤ n ∧ i = .int .i64 ((fs + d : Nat) : Int) ∧ Sx wr F C Bk U p (blkH h ns lns J fs d) base n (fs : Int) (blkC h ns lns J ps nu lN act refB refP fs cs d) ns ps (blkN h nu act fs d) ∧ Gs wr n E G ns ps (blkN h nu act fs d) ∧ Frg E U w0 wr ∧ Below base w0 wr) (fun i _ _ _ => n - (intOf i).toNat)
  case atStart => exact ⟨0, by omega, rfl, by rw [HH0.out, HN0.out]; exact S.out, by rw [HN0.out]; exact GS.out, Frg.refl _ _ _, Below.refl _ _⟩
  case round =>
    obtain ⟨d, hd, rfl, hs, hgs, hfr, hb⟩ := hrel
    have f9 := hs.f9
    have f10 := hs.f10
    have SX := Lib.hid hs
    have GX := Lib.hid hgs
    have FX := Lib.hid hfr
    have HB := Lib.hid hb
    have CBX := Lib.hid (CB.out.frg hfr)
    have CPX := Lib.hid (CP.out.frg hfr)
    have LBX := Lib.hid (LB.out.frg hfr hLU)
    have hat := blkH_at (h := h) (ns := ns) (lns := lns) (J := J) (fs := fs) (d := d)
    have hnat := blkN_at (h := h) (nu := nu) (act := act) (fs := fs) (d := d)
    by_cases hle : fs + d < n
    · have b1 : (((fs + d : Nat) : Nat) : Int) < (n : Int) := by omega
      cases hq : h (fs + d) with
      | none =>
        rw [hq] at hat
        obtain ⟨v, hrun⟩ := hs.hU.run_none hat (by omega)
        have E1 := Lib.hid (blkH_skip (ns := ns) (lns := lns) (J := J) hq)
        have E2 := Lib.hid (show blkC h ns lns J ps nu lN act refB refP fs cs (d + 1) = blkC h ns lns J ps nu lN act refB refP fs cs d by simp [blkC, hq])
        have E3 := Lib.hid (blkN_same (nu := nu) (act := act) (.inl hq))
        clear hs hgs hfr hb hq hat hnat
        generalize hI : fs + d = I at *
        have HI := Lib.hid hI
        clear hI
        go_wp2
        go_roundw
        case rel => exact ⟨d + 1, by have := HI.out; omega, by have := HI.out; rw [show fs + (d + 1) = I + 1 by omega]; go_num, by rw [E1.out, E2.out, E3.out]; exact SX.out, by rw [E3.out]; exact GX.out, FX.out, HB.out⟩
        case measure => simp [intOf]; omega
      | some g =>
        rw [hq] at hat
        have hrun := hs.hU.run_some hat (by omega)
        have gd := (hs.hG _ _ hat).2
        have g2 := gd.c2
        have g4 := gd.c4
        rw [hnat] at g4
        have hgG := HG.out _ _ hq
        subst hgG
        have HPI := Lib.hid (HPRE.out (fs + d) (by omega) hle (by rw [hq]; rfl))
        have HC := Lib.hid (show blkC h ns lns J ps nu lN act refB refP fs cs (d + 1) = findC (actC (blkC h ns lns J ps nu lN act refB refP fs cs d) (ps (fs + d)).toNat act (nu (fs + d)) refB) (ps (fs + d)).toNat (nAct act (nu (fs + d))) lN refP (flx lns (ns (fs + d)) J) by simp [blkC, hq])
        have HHS := Lib.hid (blkH_step (h := h) (ns := ns) (lns := lns) (J := J) (fs := fs) (d := d))
        have HQ := Lib.hid hq
        have HAT := Lib.hid hat
        have HNAT := Lib.hid hnat
        have HSZI := Lib.hid (HSZ.out (fs + d) hle)
        have HWD := Lib.hid (blkC_ws HPRE.out HW.out d (by omega))
        have HLD := Lib.hid (blkC_len (h := h) (ns := ns) (lns := lns) (J := J) (ps := ps) (nu := nu) (lN := lN) (act := act) (refB := refB) (refP := refP) (fs := fs) (cs := cs) d)
        have GD := Lib.hid gd
        clear hs hgs hfr hb hq hat hnat gd
        have E3A := Lib.hid (fun hA : ¬ act < nu (fs + d) => blkN_same (h := h) (nu := nu) (act := act) (fs := fs) (d := d) (.inr hA))
        have E3B := Lib.hid (fun hA : act < nu (fs + d) => blkN_gt (nu := nu) (act := act) (fs := fs) (d := d) HQ.out hA)
        have HG2 := Lib.hid (show ∀ i g, blkH h ns lns J fs d i = some g → g = G i from fun i g hi => by
          unfold blkH at hi
          split at hi
          · cases hi
          · exact HG.out i g hi)
        generalize hI : fs + d = I at *
        have HI := Lib.hid hI
        clear hI
        generalize hcd : blkC h ns lns J ps nu lN act refB refP fs cs d = cd at *
        generalize hnd : blkN h nu act fs d = nd at *
        generalize hhd : blkH h ns lns J fs d = hd' at *
        clear hcd hnd hhd
        have hN := HNAT.out
        by_cases hA : act < nu I
        · have hnA : nAct act (nu I) = act := by unfold nAct; rw [if_pos hA]
          have hE3 := E3B.out hA
          by_cases hrb : refB = true
          · obtain ⟨q1, q2⟩ := HPI.out.1 hA hrb
            obtain ⟨k', hk'⟩ : ∃ k' : Nat, ps I = (k' : Int) + 1 := ⟨(ps I).toNat - 1, by omega⟩
            have hkn : (ps I).toNat = k' + 1 := by omega
            have hk1 : k' < cd.length := by rw [HLD.out]; omega
            have hec : cd.set k' (Fld.setA (cd.getD k' 0) act) = actC cd (ps I).toNat act (nu I) refB := by
              unfold actC
              rw [if_pos ⟨hA, hrb⟩, hkn, Nat.add_sub_cancel]
            have c3 := CBX.out.c3
            rw [hrb] at c3
            rw [hk'] at g2
            have hWK := HWD.out k' hk1
            have HWK := Lib.hid hWK
            have sf1 := SX.out.f1
            have sf4 := SX.out.f4
            obtain ⟨cs1, hcs1⟩ : ∃ c, c = cd.set k' (Fld.setA (cd.getD k' 0) act) := ⟨_, rfl⟩
            rw [← hcs1] at hec
            have HCS1 := Lib.hid hcs1
            have WS1 : Ws cs1 := by rw [hcs1]; exact HWD.out.set (Fld.setA_w hWK)
            have L1 := Lib.hid (show cs1.length = cs.length by rw [hcs1, List.length_set]; exact HLD.out)
            have EC := Lib.hid hec
            have E3 := Lib.hid hE3
            have HSA := Lib.hid (fun ws (s1 : Sx ws F C Bk U p hd' base n (fs : Int) cd ns ps nd) => SetA_fr F C Bk U p hd' base n (fs : Int) cd ns ps nd k' act ws s1 hk1 HWK.out (by rw [HLD.out]; exact hcl))
            have N1 := Lib.hid (show updN nd I act I = nAct act (nu I) by rw [hnA]; unfold updN; rw [if_pos rfl])
            clear hec hE3 hcs1 hWK hkn
            generalize hnu : nu I = num at g4 hA
            have hA2 : act < num := hA
            go_wp2_with fail
            go_still_tail 10, (by kernel_rfl)
            change wpList _ _ _ _ _ (wr.drewN 1)
            have SX1 := Lib.hid (SX.out.drewN 1)
            have GX1 := Lib.hid (GX.out.frm ((Frm.refl U wr).drewN 1))
            have FX1 := Lib.hid (FX.out.drewN 1)
            have HB1 := Lib.hid (below_drewN HB.out 1)
            have CB1 := Lib.hid (CBX.out.keep (w' := wr.drewN 1) rfl)
            have CP1 := Lib.hid (CPX.out.keep (w' := wr.drewN 1) rfl)
            have LB1 := Lib.hid (LBX.out.keep (w' := wr.drewN 1) fun k _ => rfl)
            have GD1 := Lib.hid (GD.out.keep (w' := wr.drewN 1) rfl)
            generalize wr.drewN 1 = w1 at *
            go_wp2_with fail
            refine (HSA.out _ SX1.out).mono ?_; rintro e w2 ⟨rfl, s2, fr2, hb2⟩
            rw [← HCS1.out] at s2
            have SXA := Lib.hid s2
            have GXA := Lib.hid (GX1.out.frm fr2)
            have FXA := Lib.hid (FX1.out.trans fr2.frg)
            have HBA := Lib.hid (HB1.out.trans hb2)
            have CBA := Lib.hid (CB1.out.frm fr2)
            have CPA := Lib.hid (CP1.out.frm fr2)
            have LBA := Lib.hid (LB1.out.frg fr2.frg hLU)
            have GDA := Lib.hid (GD1.out.frm fr2)
            clear s2 fr2 hb2
            go_wp2_with fail
            refine (setNum_any (G I) act (ns I) (ps I) (nd I) _ GDA.out).mono ?_; rintro e w4 ⟨rfl, rfl⟩
            have SXF := Lib.hid (Sx.setNum F C Bk U p hd' base n (fs : Int) cs1 ns ps nd SXA.out GXA.out HG2.out hle act)
            have GXF := Lib.hid (GXA.out.set hle act)
            have fnum := GXA.out.num_frg (U := U) hle act
            have FXF := Lib.hid (FXA.out.trans fnum)
            have CBF := Lib.hid (CBA.out.frg fnum)
            have CPF := Lib.hid (CPA.out.frg fnum)
            have LBF := Lib.hid (LBA.out.frg fnum hLU)
            have HBF := Lib.hid (HBA.out.setCell (p := ⟨G I, 4, none⟩) (Nat.le_trans hE (GXA.out.all I hle).1) (.int .i64 act))
            generalize w2.setCell ⟨G I, 4, none⟩ (.int .i64 act) = w4 at *
            have f4W := SXF.out.f4
            have k2W := CBF.out.c2
            have W1 := Lib.hid (show Ws cs1 from (by exact WS1))
            have HPF := Lib.hid (show ∀ j, flx lns (ns I) J = some j → lN j ≤ (updN nd I act) I ∧ 0 ≤ ps I ∧ ps I < (cs1.length : Int) ∧ (lN j < (updN nd I act) I → refP = true → 1 ≤ ps I) from fun j hj => by
              rw [N1.out, L1.out]
              exact HPI.out.2 j hj)
            have HFL := Lib.hid (fun ws (s1 : Sx ws F C Bk U p hd' base n (fs : Int) cs1 ns ps (updN nd I act)) (c1 : Cb ws P V1 (some ⟨Q, 0, none⟩) refP Lm f1) (l1 : Lb ws Lm lns lN J) => findLabel_any F C Bk U p hd' base n (fs : Int) cs1 ns ps (updN nd I act) P V1 (some ⟨Q, 0, none⟩) refP Lm f1 lns lN J I (G I) ws s1 c1 l1 HAT.out (by omega) HSZI.out W1.out (by rw [L1.out]; exact hcl) HPF.out)
            go_wp2_with fail
            refine (HFL.out _ SXF.out CPF.out LBF.out.lb).mono ?_; rintro e w5 ⟨⟨b, rfl⟩, s5, fr5, hb5⟩
            rw [N1.out, EC.out, ← HC.out, ← HHS.out, ← E3.out] at s5
            have S5 := Lib.hid s5
            have G5 := Lib.hid (GXF.out.frm fr5)
            have F5 := Lib.hid (FXF.out.trans fr5.frg)
            have B5 := Lib.hid (HBF.out.trans hb5)
            clear s5 fr5 hb5
            go_wp2
            go_roundw
            case rel => exact ⟨d + 1, by have := HI.out; omega, by have := HI.out; rw [show fs + (d + 1) = I + 1 by omega]; go_num, S5.out, by rw [E3.out]; exact G5.out, F5.out, B5.out⟩
            case measure => simp [intOf]; omega
          · have hrb' : refB = false := by simpa using hrb
            have hec : cd = actC cd (ps I).toNat act (nu I) refB := by
              unfold actC
              rw [if_neg (fun x => hrb x.2)]
            have c3 := CBX.out.c3
            rw [hrb'] at c3
            have sf4 := SX.out.f4
            have EC := Lib.hid hec
            have E3 := Lib.hid hE3
            have WS1 : Ws cd := HWD.out
            have L1 := Lib.hid HLD.out
            have N1 := Lib.hid (show updN nd I act I = nAct act (nu I) by rw [hnA]; unfold updN; rw [if_pos rfl])
            have SXA := Lib.hid SX.out
            have GXA := Lib.hid GX.out
            have FXA := Lib.hid FX.out
            have HBA := Lib.hid HB.out
            have CBA := Lib.hid CBX.out
            have CPA := Lib.hid CPX.out
            have LBA := Lib.hid LBX.out
            clear hec hE3
            generalize hnu : nu I = num at g4 hA
            have hA2 : act < num := hA
            go_wp2_with fail
            refine (setNum_any (G I) act (ns I) (ps I) (nd I) _ GD.out).mono ?_; rintro e w4 ⟨rfl, rfl⟩
            have SXF := Lib.hid (Sx.setNum F C Bk U p hd' base n (fs : Int) cd ns ps nd SXA.out GXA.out HG2.out hle act)
            have GXF := Lib.hid (GXA.out.set hle act)
            have fnum := GXA.out.num_frg (U := U) hle act
            have FXF := Lib.hid (FXA.out.trans fnum)
            have CBF := Lib.hid (CBA.out.frg fnum)
            have CPF := Lib.hid (CPA.out.frg fnum)
            have LBF := Lib.hid (LBA.out.frg fnum hLU)
            have HBF := Lib.hid (HBA.out.setCell (p := ⟨G I, 4, none⟩) (Nat.le_trans hE (GXA.out.all I hle).1) (.int .i64 act))
            generalize wr.setCell ⟨G I, 4, none⟩ (.int .i64 act) = w4 at *
            have f4W := SXF.out.f4
            have k2W := CBF.out.c2
            have W1 := Lib.hid (show Ws cd from (by exact WS1))
            have HPF := Lib.hid (show ∀ j, flx lns (ns I) J = some j → lN j ≤ (updN nd I act) I ∧ 0 ≤ ps I ∧ ps I < (cd.length : Int) ∧ (lN j < (updN nd I act) I → refP = true → 1 ≤ ps I) from fun j hj => by
              rw [N1.out, L1.out]
              exact HPI.out.2 j hj)
            have HFL := Lib.hid (fun ws (s1 : Sx ws F C Bk U p hd' base n (fs : Int) cd ns ps (updN nd I act)) (c1 : Cb ws P V1 (some ⟨Q, 0, none⟩) refP Lm f1) (l1 : Lb ws Lm lns lN J) => findLabel_any F C Bk U p hd' base n (fs : Int) cd ns ps (updN nd I act) P V1 (some ⟨Q, 0, none⟩) refP Lm f1 lns lN J I (G I) ws s1 c1 l1 HAT.out (by omega) HSZI.out W1.out (by rw [L1.out]; exact hcl) HPF.out)
            go_wp2_with fail
            refine (HFL.out _ SXF.out CPF.out LBF.out.lb).mono ?_; rintro e w5 ⟨⟨b, rfl⟩, s5, fr5, hb5⟩
            rw [N1.out, EC.out, ← HC.out, ← HHS.out, ← E3.out] at s5
            have S5 := Lib.hid s5
            have G5 := Lib.hid (GXF.out.frm fr5)
            have F5 := Lib.hid (FXF.out.trans fr5.frg)
            have B5 := Lib.hid (HBF.out.trans hb5)
            clear s5 fr5 hb5
            go_wp2
            go_roundw
            case rel => exact ⟨d + 1, by have := HI.out; omega, by have := HI.out; rw [show fs + (d + 1) = I + 1 by omega]; go_num, S5.out, by rw [E3.out]; exact G5.out, F5.out, B5.out⟩
            case measure => simp [intOf]; omega
        · have hnA : nAct act (nu I) = nu I := by unfold nAct; rw [if_neg hA]
          have hec : cd = actC cd (ps I).toNat act (nu I) refB := by
            unfold actC
            rw [if_neg (fun x => hA x.1)]
          have EC := Lib.hid hec
          have E3 := Lib.hid (E3A.out hA)
          have WS1 : Ws cd := HWD.out
          have L1 := Lib.hid HLD.out
          have N1 := Lib.hid (show nd I = nAct act (nu I) by rw [hnA]; exact hN)
          have SXF := Lib.hid SX.out
          have GXF := Lib.hid GX.out
          have FXF := Lib.hid FX.out
          have HBF := Lib.hid HB.out
          have CBF := Lib.hid CBX.out
          have CPF := Lib.hid CPX.out
          have LBF := Lib.hid LBX.out
          clear hec hN
          generalize hnu : nu I = num at g4 hA
          have hA2 : ¬ act < num := hA
          have f4W := SXF.out.f4
          have k2W := CBF.out.c2
          have W1 := Lib.hid (show Ws cd from (by exact WS1))
          have HPF := Lib.hid (show ∀ j, flx lns (ns I) J = some j → lN j ≤ nd I ∧ 0 ≤ ps I ∧ ps I < (cd.length : Int) ∧ (lN j < nd I → refP = true → 1 ≤ ps I) from fun j hj => by
            rw [N1.out, L1.out]
            exact HPI.out.2 j hj)
          have HFL := Lib.hid (fun ws (s1 : Sx ws F C Bk U p hd' base n (fs : Int) cd ns ps nd) (c1 : Cb ws P V1 (some ⟨Q, 0, none⟩) refP Lm f1) (l1 : Lb ws Lm lns lN J) => findLabel_any F C Bk U p hd' base n (fs : Int) cd ns ps nd P V1 (some ⟨Q, 0, none⟩) refP Lm f1 lns lN J I (G I) ws s1 c1 l1 HAT.out (by omega) HSZI.out W1.out (by rw [L1.out]; exact hcl) HPF.out)
          go_wp2_with fail
          refine (HFL.out _ SXF.out CPF.out LBF.out.lb).mono ?_; rintro e w5 ⟨⟨b, rfl⟩, s5, fr5, hb5⟩
          rw [N1.out, EC.out, ← HC.out, ← HHS.out, ← E3.out] at s5
          have S5 := Lib.hid s5
          have G5 := Lib.hid (GXF.out.frm fr5)
          have F5 := Lib.hid (FXF.out.trans fr5.frg)
          have B5 := Lib.hid (HBF.out.trans hb5)
          clear s5 fr5 hb5
          go_wp2
          go_roundw
          case rel => exact ⟨d + 1, by have := HI.out; omega, by have := HI.out; rw [show fs + (d + 1) = I + 1 by omega]; go_num, S5.out, by rw [E3.out]; exact G5.out, F5.out, B5.out⟩
          case measure => simp [intOf]; omega
    · have hdd : n - fs = d := by omega
      have b1 : ¬ ((((fs + d : Nat) : Nat) : Int) < (n : Int)) := by omega
      clear hs hgs hfr hb hat hnat
      go_wp2
      go_end0
      try rw [hdd]
      exact ⟨by first | rfl | trivial, SX.out, GX.out, FX.out, HB.out⟩
end

end Go.Proofs.YtiihgamhmflphaaFmt
