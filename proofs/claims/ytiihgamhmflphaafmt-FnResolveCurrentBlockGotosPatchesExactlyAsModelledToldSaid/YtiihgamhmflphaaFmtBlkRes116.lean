/- A goto against a block's labels. -/
import Derived.Test.YtiihgamhmflphaaFmtBlkLab116
import Derived.Test.YtiihgamhmflphaaFmtFldSetA
namespace Go.Proofs.YtiihgamhmflphaaFmt
open Go.RowKit Go.Maps
set_option linter.unusedVariables false

/-- Every block of cells that are no words is as it was; every map but U too. -/
def Frm (U : Nat) (w w' : World) : Prop :=
  (∀ (k : Nat) (a : Array Value) (T : TypeId) (z : Nat × Nat), w.heap[k]? = some (Obj.cells a T z) → T ≠ 39 → w'.heap[k]? = w.heap[k]?) ∧
  ∀ (k : Nat) (es : Array MapEntry) (c : Nat), w.heap[k]? = some (Obj.map es c) → k ≠ U → w'.heap[k]? = w.heap[k]?
theorem Frm.refl (U : Nat) (w : World) : Frm U w w := ⟨fun _ _ _ _ _ _ => rfl, fun _ _ _ _ _ => rfl⟩
theorem Frm.trans {U : Nat} {a b c : World} (h : Frm U a b) (k : Frm U b c) : Frm U a c :=
  ⟨fun i x T z h1 h2 => (k.1 i x T z ((h.1 i x T z h1 h2).trans h1) h2).trans (h.1 i x T z h1 h2),
   fun i es n h1 h2 => (k.2 i es n ((h.2 i es n h1 h2).trans h1) h2).trans (h.2 i es n h1 h2)⟩
theorem Frm.drewN {U : Nat} {a b : World} (h : Frm U a b) (q : Nat) : Frm U a (b.drewN q) := h

theorem Td.frm {w w' : World} {U T : Nat} {tid tN : Int} {tn : ByteArray} (h : Td w T tid tn tN) (f : Frm U w w') : Td w' T tid tn tN := by
  obtain ⟨pc, line, ht⟩ := h
  exact ⟨pc, line, (f.1 _ _ _ _ ht (by decide)).trans ht⟩
theorem Gd.frm {w w' : World} {U g : Nat} {name : ByteArray} {pc num : Int} (h : Gd w g name pc num) (f : Frm U w w') : Gd w' g name pc num := by
  obtain ⟨i, l, ht⟩ := h
  exact ⟨i, l, (f.1 _ _ _ _ ht (by decide)).trans ht⟩
theorem Cb.frm {w w' : World} {U Bk V : Nat} {par : Option Addr} {ref : Bool} {Lm : Nat} {first : Int} (h : Cb w Bk V par ref Lm first) (f : Frm U w w') : Cb w' Bk V par ref Lm first := by
  obtain ⟨a, h1, h2⟩ := h
  exact ⟨a, (f.1 _ _ _ _ h1 (by decide)).trans h1, h2⟩
theorem Lb.frm {w w' : World} {U Lm J : Nat} {lns : Nat → ByteArray} {lN : Nat → Int} (h : Lb w Lm lns lN J) (f : Frm U w w') (hU : Lm ≠ U) : Lb w' Lm lns lN J := by
  refine h.keep ?_ fun k a z hk => f.1 _ _ _ _ hk (by decide)
  obtain ⟨m, g, h1, _⟩ := h
  obtain ⟨es, c, ho⟩ := h1.obj
  exact f.2 _ _ _ ho hU
theorem PlN.frm {w w' : World} {U V base n : Nat} (h : PlN w V base n) (f : Frm U w w') : PlN w' V base n := by
  obtain ⟨ns, off, a, c, h⟩ := h
  exact ⟨ns, off, a, c, h.hb, h.h0, (f.1 _ _ _ _ h.hS (by decide)).trans h.hS, row_keep h.hr fun g hg => by obtain ⟨cur, hh⟩ := row_type h.hr hg; exact f.1 _ _ _ _ hh (by decide)⟩

section
variable (F C Bk U : Nat) (p : Option Addr) (h : Nat → Option Nat) (base n : Nat) (first : Int) (cs : List Int) (ns : Nat → ByteArray) (ps nu : Nat → Int)

theorem Sx.put {w : World} (s : Sx w F C Bk U p h base n first cs ns ps nu) {k : Nat} (hk : k < cs.length) (x : Int) :
    ∃ r, p = some ⟨r, 0, none⟩ ∧ base ≤ r ∧ w.cell? ⟨r, k, none⟩ = some (.int .u32 (cs.getD k 0)) ∧ w.frozen? ⟨r, k, none⟩ = false ∧
      Sx (w.setCell ⟨r, k, none⟩ (.int .u32 x)) F C Bk U p h base n first (cs.set k x) ns ps nu ∧ Frm U w (w.setCell ⟨r, k, none⟩ (.int .u32 x)) ∧ Below base w (w.setCell ⟨r, k, none⟩ (.int .u32 x)) := by
  obtain ⟨r, hp, hb, hc, hf⟩ := s.word hk
  have hr : ∃ a, w.heap[r]? = some (Obj.cells a 39 (0, 0)) := by
    rcases s.hR with ⟨h1, h2⟩ | ⟨r', h1, h2, h3⟩
    · rw [h2] at hk; simp at hk
    · have e : r = r' := by rw [hp] at h1; injection h1 with h1; injection h1 with h1; injection h1
      subst e
      exact ⟨_, h3⟩
  obtain ⟨a, hr⟩ := hr
  exact ⟨r, hp, hb, hc, hf, s.ofR hp hk, ⟨fun i x T z h1 h2 => heap_setCell_other _ _ _ _ (ty_ne h1 hr h2), fun i es c h1 _ => heap_setCell_other _ _ _ _ (fun e => map_ne hr h1 e.symm)⟩, (Below.refl base w).setCell (p := ⟨r, k, none⟩) hb _⟩

set_option maxHeartbeats 400000 in
theorem SetSbx_fr (i : Nat) (v : Int) (w : World) (s : Sx w F C Bk U p h base n first cs ns ps nu) (hi : i < cs.length) (hx : Fld.W32 (cs.getD i 0)) (hn : cs.length ≤ 1048576) :
    Calls Tryf.prog 54 #[.pointer (some ⟨C, 0, none⟩), .int .i64 (i : Int), .int .i64 v] w fun e w' => e = .returned (.tuple #[]) ∧ Sx w' F C Bk U p h base n first (cs.set i (Fld.setSbx (cs.getD i 0) v)) ns ps nu ∧ Frm U w w' ∧ Below base w w' := by
  have c0 := s.c0
  obtain ⟨r, hp, hb, hc, hf, h1, h2, h3⟩ := Sx.put F C Bk U p h base n first cs ns ps nu s hi (Fld.setSbx (cs.getD i 0) v)
  have H := Lib.hid (And.intro h1 (And.intro h2 h3))
  subst hp
  have HX := Lib.hid hx
  clear s hx h1 h2 h3
  generalize cs.length = N at *
  generalize cs.getD i 0 = x at *
  have b1 : (0 : Int) ≤ (i : Int) := by omega
  have b2 : (i : Int) < (N : Int) := by omega
  go_enter Tryf.func54, Tryf.ntmps54
  go_wp2_with fail
  refine (setSbx_any r i x v _ HX.out hc hf).mono ?_; rintro e w1 ⟨rfl, rfl⟩
  go_wp2
  go_end0
  exact ⟨rfl, H.out⟩

set_option maxHeartbeats 400000 in
theorem SetA_fr (i : Nat) (v : Int) (w : World) (s : Sx w F C Bk U p h base n first cs ns ps nu) (hi : i < cs.length) (hx : Fld.W32 (cs.getD i 0)) (hn : cs.length ≤ 1048576) :
    Calls Tryf.prog 49 #[.pointer (some ⟨C, 0, none⟩), .int .i64 (i : Int), .int .i64 v] w fun e w' => e = .returned (.tuple #[]) ∧ Sx w' F C Bk U p h base n first (cs.set i (Fld.setA (cs.getD i 0) v)) ns ps nu ∧ Frm U w w' ∧ Below base w w' := by
  have c0 := s.c0
  obtain ⟨r, hp, hb, hc, hf, h1, h2, h3⟩ := Sx.put F C Bk U p h base n first cs ns ps nu s hi (Fld.setA (cs.getD i 0) v)
  have H := Lib.hid (And.intro h1 (And.intro h2 h3))
  subst hp
  have HX := Lib.hid hx
  clear s hx h1 h2 h3
  generalize cs.length = N at *
  generalize cs.getD i 0 = x at *
  have b1 : (0 : Int) ≤ (i : Int) := by omega
  have b2 : (i : Int) < (N : Int) := by omega
  go_enter Tryf.func49, Tryf.ntmps49
  go_wp2_with fail
  refine (setA_any r i x v _ HX.out hc hf).mono ?_; rintro e w1 ⟨rfl, rfl⟩
  go_wp2
  go_end0
  exact ⟨rfl, H.out⟩

set_option maxHeartbeats 1000000 in
set_option maxRecDepth 100000 in
theorem resolveGoto_fr (i g k T : Nat) (tid tN : Int) (tn : ByteArray) (w : World) (s : Sx w F C Bk U p h base n first cs ns ps nu) (td : Td w T tid tn tN) (hq : h i = some g) (hi : i ≤ 1048576) (hN : tN ≤ nu i) (hk : ps i = (k : Int)) (hkl : k < cs.length) (hx : Fld.W32 (cs.getD k 0)) (hn : cs.length ≤ 1048576) :
    Calls Tryf.prog 44 #[.pointer (some ⟨F, 0, none⟩), .pointer (some ⟨g, 0, none⟩), .pointer (some ⟨T, 0, none⟩), .int .i64 (i : Int)] w fun e w' => e = .returned (.tuple #[]) ∧
      Sx w' F C Bk U p (drop1 h i) base n first (cs.set k (Fld.setSbx (cs.getD k 0) tid)) ns ps nu ∧ Frm U w w' ∧ Below base w w' := by
  have gd := (s.hG i g hq).2
  have g2 := gd.c2
  have g4 := gd.c4
  have t0 := td.c0
  have t4 := td.c4
  have f1 := s.f1
  rw [hk] at g2
  have hlt : ¬ (nu i < tN) := by omega
  generalize nu i = num at *
  have S := Lib.hid s
  have HX := Lib.hid hx
  obtain ⟨cs1, hcs1⟩ : ∃ c, c = cs.set k (Fld.setSbx (cs.getD k 0) tid) := ⟨_, rfl⟩
  rw [← hcs1]
  have HC1 := Lib.hid hcs1
  clear s td gd hx hcs1
  go_enter Tryf.func44, Tryf.ntmps44
  go_wp2_with fail
  go_quiet (fail)
  have S1 := Lib.hid (S.out.drewN nq)
  have e1 : (w.drewN nq).cell? ⟨F, 1, none⟩ = some (.pointer (some ⟨C, 0, none⟩)) := f1
  have e2 : (w.drewN nq).cell? ⟨g, 2, none⟩ = some (.int .i64 (k : Int)) := g2
  have e3 : (w.drewN nq).cell? ⟨T, 0, none⟩ = some (.int .i64 tid) := t0
  have HB := Lib.hid (below_drewN (Below.refl base w) nq)
  have HF := Lib.hid ((Frm.refl U w).drewN nq)
  generalize w.drewN nq = w1 at *
  go_wp2_with fail
  go_still_tail 12, (by kernel_rfl)
  change wpList _ _ _ _ _ (w1.drewN 1)
  have S2 := Lib.hid (S1.out.drewN 1)
  have HB2 := Lib.hid (below_drewN HB.out 1)
  have HF2 := Lib.hid (HF.out.drewN 1)
  generalize w1.drewN 1 = w2 at *
  go_wp2_with fail
  refine (SetSbx_fr F C Bk U p h base n first cs ns ps nu k tid _ S2.out hkl HX.out hn).mono ?_; rintro e w3 ⟨rfl, s3, fr3, hb3⟩
  rw [← HC1.out] at s3
  have f10 := s3.f10
  obtain ⟨D, hown, hD⟩ := s3.hU
  have hU := Lib.hid s3.bU
  have S3 := Lib.hid s3
  have HO := Lib.hid hown
  have HD := Lib.hid hD
  have HB3 := Lib.hid (HB2.out.trans hb3)
  have HF3 := Lib.hid (HF2.out.trans fr3)
  have hUl := s3.hU.lt
  clear s3 fr3 hown hD hb3
  go_wp2_with (at_delete; refine wpList_delete_own _ rfl _ _ 66 3 rfl 33 lawI Tryf.underlying66 _ U n D rfl HO.out _ _ rfl (keyOf_int_mk Tryf.underlying3 (wfi hi)) ?_; intro w4 hown4 hturn4)
  go_end0
  have hg := hturn4.grown
  have hblk : ∀ j, j < w3.heap.size → j ≠ U → w4.heap[j]? = w3.heap[j]? := fun j h1 h2 => hg.block j h1 (fun e => h2 (Option.some.inj e))
  obtain ⟨es, c, ho⟩ := S3.out.hU.obj
  refine ⟨by first | rfl | trivial, S3.out.ofU hblk ⟨_, hown4, fun j => ⟨?_, fun y hy => ?_⟩⟩ (fun j y hy => ?_), HF3.out.trans ⟨fun j a T z h1 h2 => hblk j (lt_of_block h1) (map_ne h1 ho), fun j es c h1 h2 => hblk j (lt_of_block h1) h2⟩, HB3.out.grown hg (Nat.le_trans hU.out (Nat.le_of_lt hUl)) (fun j e => by cases e; exact hU.out)⟩
  · by_cases e : j = i
    · subst e
      simp [drop1, has_del_same]
    · rw [has_del_other (key_ne e), (HD.out j).1]
      simp [drop1, e]
  · unfold drop1 at hy
    by_cases e : j = i
    · rw [if_pos e] at hy; cases hy
    · rw [if_neg e] at hy
      rw [atKey_del_other (key_ne e)]
      exact (HD.out j).2 y hy
  · unfold drop1 at hy
    by_cases e : j = i
    · rw [if_pos e] at hy; cases hy
    · rw [if_neg e] at hy; exact hy

theorem setNum_any (g : Nat) (x : Int) (name : ByteArray) (pc num : Int) (w : World) (gd : Gd w g name pc num) :
    Calls Tryf.prog 50 #[.pointer (some ⟨g, 0, none⟩), .int .i64 x] w fun e w' => e = .returned (.tuple #[]) ∧ w' = w.setCell ⟨g, 4, none⟩ (.int .i64 x) := by
  have c4 := gd.c4
  obtain ⟨i, l, hg⟩ := gd
  have f4 : ∀ o, w.frozen? ⟨g, o, none⟩ = false := fun o => frozen_of_row _ _ _ _ _ hg
  clear hg
  go_enter Tryf.func50, Tryf.ntmps50
  go_wp2
  go_end0
  exact ⟨by first | rfl | trivial, by first | rfl | trivial⟩

/-- The gotos' descriptions: one block each. -/
structure Gs (w : World) (n E : Nat) (G : Nat → Nat) (ns : Nat → ByteArray) (ps nu : Nat → Int) : Prop where
  all : ∀ i, i < n → E ≤ G i ∧ Gd w (G i) (ns i) (ps i) (nu i)
  inj : ∀ i j, i < n → j < n → G i = G j → i = j
theorem Gs.frm {w w' : World} {U n E : Nat} {G : Nat → Nat} {ns : Nat → ByteArray} {ps nu : Nat → Int} (gs : Gs w n E G ns ps nu) (f : Frm U w w') : Gs w' n E G ns ps nu :=
  ⟨fun i hi => ⟨(gs.all i hi).1, (gs.all i hi).2.frm f⟩, gs.inj⟩
def updN (nu : Nat → Int) (i : Nat) (x : Int) : Nat → Int := fun j => if j = i then x else nu j

theorem Gs.set {w : World} {E : Nat} {G : Nat → Nat} {ns : Nat → ByteArray} {ps nu : Nat → Int} {n : Nat} (gs : Gs w n E G ns ps nu) {i : Nat} (hi : i < n) (x : Int) : Gs (w.setCell ⟨G i, 4, none⟩ (.int .i64 x)) n E G ns ps (updN nu i x) := by
  refine ⟨fun j hj => ⟨(gs.all j hj).1, ?_⟩, gs.inj⟩
  unfold updN
  by_cases e : j = i
  · subst e
    rw [if_pos rfl]
    obtain ⟨a, l, hd⟩ := (gs.all j hj).2
    refine ⟨a, l, ?_⟩
    rw [heap_setCell_same _ _ _ _ _ _ hd]
    rfl
  · rw [if_neg e]
    exact (gs.all j hj).2.keep (heap_setCell_other _ _ _ _ (fun e' => e (gs.inj j i hj hi e')))

theorem Sx.setNum {w : World} {E : Nat} {G : Nat → Nat} (s : Sx w F C Bk U p h base n first cs ns ps nu) (gs : Gs w n E G ns ps nu) (hG : ∀ i g, h i = some g → g = G i) {i : Nat} (hi : i < n) (x : Int) :
    Sx (w.setCell ⟨G i, 4, none⟩ (.int .i64 x)) F C Bk U p h base n first cs ns ps (updN nu i x) := by
  have gs' := gs.set hi x
  obtain ⟨a0, l0, hd⟩ := (gs.all i hi).2
  obtain ⟨b1, b2, ⟨a1, f1, f2⟩, ⟨a2, g1, g2⟩, ⟨a3, k1, k2⟩, r, u, gg⟩ := s
  obtain ⟨es, c, ho⟩ := u.obj
  have hk : ∀ (k : Nat) (a : Array Value) (T : TypeId) (z : Nat × Nat), T ≠ 51 → w.heap[k]? = some (Obj.cells a T z) → (w.setCell ⟨G i, 4, none⟩ (.int .i64 x)).heap[k]? = w.heap[k]? := fun k a T z hT hx => heap_setCell_other _ _ _ _ (ty_ne hx hd hT)
  refine ⟨b1, b2, ⟨a1, (hk _ _ _ _ (by decide) f1).trans f1, f2⟩, ⟨a2, (hk _ _ _ _ (by decide) g1).trans g1, g2⟩, ⟨a3, (hk _ _ _ _ (by decide) k1).trans k1, k2⟩, own_keep r fun y a hy => hk _ _ _ _ (by decide) hy, u.keep (heap_setCell_other _ _ _ _ (fun e => map_ne hd ho e.symm)), fun j y hy => ?_⟩
  have hj := (gg j y hy).1
  have e := hG j y hy
  subst e
  exact ⟨hj, (gs'.all j hj).2⟩

/-- The words behind a resolution. -/
def labC (cs : List Int) (k : Nat) (num l : Int) (ref : Bool) (j : Nat) : List Int :=
  let c1 := if l < num ∧ ref = true then cs.set (k - 1) (Fld.setA (cs.getD (k - 1) 0) l) else cs
  c1.set k (Fld.setSbx (c1.getD k 0) (j : Int))
theorem labC_len (cs : List Int) (k : Nat) (num l : Int) (ref : Bool) (j : Nat) : (labC cs k num l ref j).length = cs.length := by
  unfold labC
  simp only [List.length_set]
  split <;> simp
end

end Go.Proofs.YtiihgamhmflphaaFmt
