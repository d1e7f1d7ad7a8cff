/- How the context of the laws on blocks is built. -/
import Derived.Test.YtiihgamhmflphaaFmtBlkKit116
import Derived.Deep.RegionHeld3
namespace Go.Proofs.YtiihgamhmflphaaFmt
open Go.RowKit Go.Maps
set_option linter.unusedVariables false

section
variable (base fs : Nat) (cs : List Int) (ns : Nat → ByteArray) (ps nu : Nat → Int) (p : Option Addr)
set_option maxHeartbeats 1000000 in
set_option maxRecDepth 100000 in
theorem addUn0f (F C Bk U n g B : Nat) (h : Nat → Option Nat) (first : Int) (w : World) (s : Sx w F C Bk U p h base n first cs ns ps nu) (gd : Gd w g (ns n) (ps n) (nu n)) (hn : n ≤ 1048570) (hB : B ≤ F ∧ B ≤ U) :
    Calls Tryf.prog 43 #[.pointer (some ⟨F, 0, none⟩), .pointer (some ⟨g, 0, none⟩)] w fun e w' => e = .returned (.tuple #[]) ∧
      Sx w' F C Bk U p (put1 h n g) base (n + 1) first cs ns ps nu ∧ Below B w w' ∧ (∀ k, k < w.heap.size → k ≠ U → k ≠ F → w'.heap[k]? = w.heap[k]?) := by
  have f9 := s.f9
  have f10 := s.f10
  obtain ⟨D, hown, hD⟩ := s.hU
  have hUl := s.hU.lt
  obtain ⟨es, c, ho⟩ := s.hU.obj
  obtain ⟨aF, hF1, hF2⟩ := s.hF
  have hFU : F ≠ U := map_ne hF1 ho
  have hFl := lt_of_block hF1
  have S := Lib.hid s
  have GD := Lib.hid gd
  have HD := Lib.hid hD
  have HO := Lib.hid (show (w.drewN 1).ownsMap Tryf.prog 3 ptrElem U n D from hown)
  have HF := Lib.hid hF1
  have HF2 := Lib.hid hF2
  have HOB := Lib.hid ho
  clear s gd hown hD hF1 hF2 ho
  go_enter Tryf.func43, Tryf.ntmps43
  go_wp2_with fail
  go_still_tail 9, (by kernel_rfl)
  change wpList _ _ _ _ _ (w.drewN 1)
  have HS := Lib.hid (show ∀ k : Nat, (w.drewN 1).heap[k]? = w.heap[k]? from fun k => rfl)
  have HBD := Lib.hid (below_drewN (Below.refl B w) 1)
  have hsz : (w.drewN 1).heap.size = w.heap.size := rfl
  generalize w.drewN 1 = wd at *
  go_wp2_with (at_mapUpdate; refine wpList_mapUpdate_own _ rfl _ _ _ 66 rfl 3 33 lawI Tryf.underlying66 _ U n D rfl HO.out (by unfold maxLen; omega) _ _ _ rfl rfl (keyOf_int_mk Tryf.underlying3 (wfi (by omega))) (.lit (.int .i64 (g : Int))) [] rfl ?_; intro w1 hown1 hgrow1; (have hF3 : w1.heap[F]? = some (.cells aF 68 (0, 0)) := (hgrow1.block F (by omega) (fun e => hFU (Option.some.inj e))).trans ((HS.out F).trans HF.out); have p9 : w1.cell? ⟨F, 9, none⟩ = some (.int .i64 (n : Int)) := (cell_of_row _ _ _ _ _ _ hF3).trans HF2.out.2.2.1; have pf : ∀ o, w1.frozen? ⟨F, o, none⟩ = false := fun o => frozen_of_row _ _ _ _ _ hF3; have HF4 := Lib.hid hF3; have HW1 := Lib.hid hown1; have HG1 := Lib.hid hgrow1); clear hF3 hown1 hgrow1)
  go_end0
  have hk : ∀ k : Nat, k < w.heap.size → k ≠ U → k ≠ F → (w1.setCell ⟨F, 9, none⟩ (.int .i64 ((n : Int) + 1))).heap[k]? = w.heap[k]? := fun k h1 h2 h3 =>
    (heap_setCell_other w1 ⟨F, 9, none⟩ k _ h3).trans ((HG1.out.block k (by omega) (fun e => h2 (Option.some.inj e))).trans (HS.out k))
  obtain ⟨b1, b2, ⟨a1, f1, f2, f3, f4, f5⟩, ⟨a2, g1, g2⟩, ⟨a3, k1, k2⟩, r, u, gg⟩ := S.out
  have eF : aF = a1 := by have := HF.out.symm.trans f1; injection this with h1; injection h1
  subst eF
  have sz : 9 < aF.size := by rw [Array.getElem?_eq_some_iff] at f4; exact f4.1
  have hkT : ∀ (k : Nat) (a : Array Value) (T : TypeId) (z : Nat × Nat), T ≠ 68 → w.heap[k]? = some (Obj.cells a T z) → (w1.setCell ⟨F, 9, none⟩ (.int .i64 ((n : Int) + 1))).heap[k]? = w.heap[k]? := fun k a T z hT hx =>
    hk k (lt_of_block hx) (map_ne hx HOB.out) (ty_ne hx f1 hT)
  refine ⟨by first | rfl | trivial, ⟨b1, b2, ⟨aF.setIfInBounds 9 (.int .i64 ((n : Int) + 1)), heap_setCell_same _ _ _ _ _ _ HF4.out, ?_, ?_, ?_, ?_⟩, ⟨a2, (hkT _ _ _ _ (by decide) g1).trans g1, g2⟩, ⟨a3, (hkT _ _ _ _ (by decide) k1).trans k1, k2⟩, own_keep r fun x a hx => hkT _ _ _ _ (by decide) hx, Up.keep ⟨_, HW1.out, fun i => ?_⟩ (heap_setCell_other w1 ⟨F, 9, none⟩ U _ (fun e => hFU e.symm)), fun i y hy => ?_⟩, (HBD.out.grown HG1.out (by omega) (fun j e => by cases e; exact hB.2)).setCell (p := ⟨F, 9, none⟩) hB.1 _, hk⟩
  · rw [Array.getElem?_setIfInBounds_ne (by decide)]; exact f2
  · rw [Array.getElem?_setIfInBounds_ne (by decide)]; exact f3
  · rw [Array.getElem?_setIfInBounds_self_of_lt sz]; rfl
  · rw [Array.getElem?_setIfInBounds_ne (by decide)]; exact f5
  · by_cases e : i = n
    · subst e
      refine ⟨by rw [has_put_same HO.out.isMap (isKey _)]; simp [put1], fun y hy => ?_⟩
      have : y = g := by simpa [put1] using hy.symm
      subst this
      exact atKey_put_same HO.out.isMap (isKey _) _ _
    · refine ⟨by rw [has_put_other (key_ne e), (HD.out i).1]; simp [put1, e], fun y hy => ?_⟩
      rw [atKey_put_other (key_ne e)]
      exact (HD.out i).2 y (by simpa [put1, e] using hy)
  · by_cases e : i = n
    · subst e
      have : y = g := by simpa [put1] using hy.symm
      subst this
      refine ⟨by omega, ?_⟩
      obtain ⟨i1, l1, e1⟩ := GD.out
      exact ⟨i1, l1, (hkT _ _ _ _ (by decide) e1).trans e1⟩
    · have hy' : h i = some y := by simpa [put1, e] using hy
      obtain ⟨h1, i1, l1, e1⟩ := gg i y hy'
      exact ⟨by omega, i1, l1, (hkT _ _ _ _ (by decide) e1).trans e1⟩

theorem addUnf_any (F C Bk U n B : Nat) (h : Nat → Option Nat) (first id : Int) (w : World) (s : Sx w F C Bk U p h base n first cs ns ps nu) (hn : n ≤ 1048570) (hB : B ≤ F ∧ B ≤ U ∧ B ≤ w.heap.size) :
    Calls Tryf.prog 31 #[.pointer (some ⟨F, 0, none⟩), .int .i64 id, .string (ns n), .int .i64 (ps n), .int .i64 0, .int .i64 (nu n)] w fun e w' => ∃ g, e = .returned (.pointer (some ⟨g, 0, none⟩)) ∧
      Sx w' F C Bk U p (put1 h n g) base (n + 1) first cs ns ps nu ∧ Below B w w' ∧ w.heap.size ≤ g ∧ Gd w' g (ns n) (ps n) (nu n) ∧ (∀ k, k < w.heap.size → k ≠ U → k ≠ F → w'.heap[k]? = w.heap[k]?) := by
  have S := Lib.hid s
  have HA := fun (g : Nat) (w' : World) => addUn0f base cs ns ps nu p F C Bk U n g B h first w'
  have HA' := Lib.hid HA
  clear s HA
  generalize hnm : ns n = nm at *
  generalize hpc : ps n = pc at *
  generalize hnu : nu n = num at *
  have HNM := Lib.hid hnm
  have HPC := Lib.hid hpc
  have HNU := Lib.hid hnu
  clear hnm hpc hnu
  go_enter Tryf.func31, Tryf.ntmps31
  go_wp2_with fail
  refine (desc0 id pc 0 num nm _).mono ?_; rintro e w1 ⟨g, rfl, hg, hgl, hb⟩
  have S1 := Lib.hid (S.out.below hb)
  have HB := Lib.hid (hb.mono hB.2.2)
  have HBW := Lib.hid hb
  have hsz1 := hb.size
  have HG := Lib.hid hg
  clear hg hb
  go_wp2_with fail
  refine (HA'.out g _ S1.out ⟨_, _, HG.out⟩ hn ⟨hB.1, hB.2.1⟩).mono ?_; rintro e w2 ⟨rfl, hs, hb2, hk2⟩
  have HK2 := Lib.hid hk2
  have S2 := Lib.hid hs
  have HB2 := Lib.hid (HB.out.trans hb2)
  clear hs hb2 hk2
  go_wp2
  go_ret
  refine ⟨g, rfl, S2.out, HB2.out, hgl, ?_, fun k h1 h2 h3 => (HK2.out k (by omega) h2 h3).trans (HBW.out.block k h1)⟩
  have hx := (S2.out.hG n g (by simp [put1])).2
  first | exact hx | (rw [HNM.out, HPC.out, HNU.out] at hx; exact hx)
end

theorem infoP : (Tryf.prog.info? 33).map (fun i => (i.zero, i.size, i.bytes)) = some (some (.pointer none), 1, 8) := by kernel_rfl
theorem makeP (n : Nat) (hn : n ≤ 1048576) (w : World) : (Instr.makeSlice 46 (.int .i64 (n : Int)) (.int .i64 (n : Int))).run Tryf.prog w = .ok (.slice (some ⟨w.heap.size, 0, none⟩) n n) (w.alloc (.cells (madeCells (Value.cells (.pointer none)) n) 33)) := by
  obtain ⟨i0, hi, hz0, hz1, hz2⟩ := info_parts infoP
  have h := run_make (P := Tryf.prog) w 46 33 i0 (.pointer none) Tryf.underlying46 hi hz0 .i64 .i64 n n (by omega) (by omega) (by rw [hz2]; omega) (by omega)
  rw [hz1, Int.toNat_natCast, Nat.mul_one] at h
  exact h

/-- The three blocks and their pools. -/
def EnvB (w : World) (Bk P Q : Nat) (fs : Int) (n1 n2 : Nat) (refB refP : Bool) (Lm : Nat) : Prop :=
  ∃ VB V1 V2 LmB L2 b1 b2 f1 f2, Cb w Bk VB (some ⟨P, 0, none⟩) refB LmB fs ∧ Cb w P V1 (some ⟨Q, 0, none⟩) refP Lm f1 ∧ Cb w Q V2 none false L2 f2 ∧ PlN w V1 b1 n1 ∧ PlN w V2 b2 n2
theorem EnvB.keep {w w' : World} {Bk P Q : Nat} {fs : Int} {n1 n2 : Nat} {refB refP : Bool} {Lm : Nat} (h : EnvB w Bk P Q fs n1 n2 refB refP Lm) (hk : ∀ k, k < w.heap.size → w'.heap[k]? = w.heap[k]?) : EnvB w' Bk P Q fs n1 n2 refB refP Lm := by
  obtain ⟨VB, V1, V2, LmB, L2, b1, b2, f1, f2, h1, h2, h3, h4, h5⟩ := h
  exact ⟨VB, V1, V2, LmB, L2, b1, b2, f1, f2, h1.keep (hk _ h1.lt), h2.keep (hk _ h2.lt), h3.keep (hk _ h3.lt), h4.keep hk, h5.keep hk⟩
theorem EnvB.frg {w w' : World} {Bk P Q : Nat} {fs : Int} {n1 n2 E U : Nat} {refB refP : Bool} {Lm : Nat} (h : EnvB w Bk P Q fs n1 n2 refB refP Lm) (f : Frg E U w w') : EnvB w' Bk P Q fs n1 n2 refB refP Lm := by
  obtain ⟨VB, V1, V2, LmB, L2, b1, b2, f1, f2, h1, h2, h3, h4, h5⟩ := h
  exact ⟨VB, V1, V2, LmB, L2, b1, b2, f1, f2, h1.frg f, h2.frg f, h3.frg f, h4.frg f, h5.frg f⟩

section
variable {w : World} {F C Bk U : Nat} {p : Option Addr} {h : Nat → Option Nat} {base n : Nat} {first : Int} {cs : List Int} {ns : Nat → ByteArray} {ps nu : Nat → Int}
/-- A cell of a row of pointers is written. -/
theorem Sx.ptr {X : Nat} {a : Array Value} {z : Nat × Nat} (s : Sx w F C Bk U p h base n first cs ns ps nu) (hX : w.heap[X]? = some (Obj.cells a 33 z)) (o : Nat) (v : Value) : Sx (w.setCell ⟨X, o, none⟩ v) F C Bk U p h base n first cs ns ps nu := by
  obtain ⟨b1, b2, ⟨a1, f1, f2⟩, ⟨a2, g1, g2⟩, ⟨a3, k1, k2⟩, r, u, gg⟩ := s
  obtain ⟨es, c, ho⟩ := u.obj
  have hk : ∀ (k : Nat) (a : Array Value) (T : TypeId) (z : Nat × Nat), T ≠ 33 → w.heap[k]? = some (Obj.cells a T z) → (w.setCell ⟨X, o, none⟩ v).heap[k]? = w.heap[k]? := fun k a T z hT hx => heap_setCell_other _ _ _ _ (ty_ne hx hX hT)
  refine ⟨b1, b2, ⟨a1, (hk _ _ _ _ (by decide) f1).trans f1, f2⟩, ⟨a2, (hk _ _ _ _ (by decide) g1).trans g1, g2⟩, ⟨a3, (hk _ _ _ _ (by decide) k1).trans k1, k2⟩, own_keep r fun y a hy => hk _ _ _ _ (by decide) hy, u.keep (heap_setCell_other _ _ _ _ (fun e => map_ne hX ho e.symm)), fun j y hy => ⟨(gg j y hy).1, ?_⟩⟩
  obtain ⟨i1, l1, e1⟩ := (gg j y hy).2
  exact ⟨i1, l1, (hk _ _ _ _ (by decide) e1).trans e1⟩
theorem Sx.cellsK {w' : World} (s : Sx w F C Bk U p h base n first cs ns ps nu) (hk : ∀ k, k < w.heap.size → k ≠ U → k ≠ F → w'.heap[k]? = w.heap[k]?) : ∀ (k : Nat) (a : Array Value) (T : TypeId) (z : Nat × Nat), T ≠ 68 → w.heap[k]? = some (Obj.cells a T z) → w'.heap[k]? = w.heap[k]? := fun k a T z hT hx => by
  obtain ⟨aF, f1, f2⟩ := s.hF
  obtain ⟨es, c, ho⟩ := s.hU.obj
  exact hk k (lt_of_block hx) (map_ne hx ho) (ty_ne hx f1 hT)
def updG (G : Nat → Nat) (k g : Nat) : Nat → Nat := fun i => if i = k then g else G i
theorem Gs.add {w' : World} {E g : Nat} {G : Nat → Nat} (s : Gs w n E G ns ps nu) (hk : ∀ (k : Nat) (a : Array Value) (T : TypeId) (z : Nat × Nat), T ≠ 68 → w.heap[k]? = some (Obj.cells a T z) → w'.heap[k]? = w.heap[k]?) (hg : w.heap.size ≤ g) (hE : E ≤ g) (gd : Gd w' g (ns n) (ps n) (nu n)) : Gs w' (n + 1) E (updG G n g) ns ps nu := by
  have hlt : ∀ i, i < n → G i < w.heap.size := fun i hi => by
    obtain ⟨_, i1, l1, e1⟩ := s.all i hi
    exact lt_of_block e1
  refine ⟨fun i hi => ?_, fun i j hi hj e => ?_⟩
  · unfold updG
    by_cases e : i = n
    · subst e
      rw [if_pos rfl]
      exact ⟨hE, gd⟩
    · rw [if_neg e]
      obtain ⟨h1, i1, l1, e1⟩ := s.all i (by omega)
      exact ⟨h1, i1, l1, (hk _ _ _ _ (by decide) e1).trans e1⟩
  · unfold updG at e
    by_cases ei : i = n
    · by_cases ej : j = n
      · omega
      · rw [if_pos ei, if_neg ej] at e
        have := hlt j (by omega)
        omega
    · by_cases ej : j = n
      · rw [if_neg ei, if_pos ej] at e
        have := hlt i (by omega)
        omega
      · rw [if_neg ei, if_neg ej] at e
        exact s.inj i j (by omega) (by omega) e
theorem RowV.keepC {f : Nat → Value} {w w' : World} {GS N k : Nat} (s : RowV 33 f w GS N k) (hk : ∀ (k : Nat) (a : Array Value) (T : TypeId) (z : Nat × Nat), T ≠ 68 → w.heap[k]? = some (Obj.cells a T z) → w'.heap[k]? = w.heap[k]?) : RowV 33 f w' GS N k := by
  obtain ⟨arr, h1, h2⟩ := s
  exact ⟨arr, (hk _ _ _ _ (by decide) h1).trans h1, h2⟩
theorem cell_above {w : World} {B X o g k : Nat} {v x : Value} (hX : B ≤ X) (hg : g < B) (h : w.cell? ⟨g, k, none⟩ = some x) : (w.setCell ⟨X, o, none⟩ v).cell? ⟨g, k, none⟩ = some x :=
  (((Below.refl B w).setCell (p := ⟨X, o, none⟩) hX v).cell (p := ⟨g, k, none⟩) hg).trans h
theorem RowV.addP {T : TypeId} {G : Nat → Nat} {GS N k g : Nat} (s : RowV T (fun i => .pointer (some ⟨G i, 0, none⟩)) w GS N k) (hk : k < N) : RowV T (fun i => .pointer (some ⟨updG G k g i, 0, none⟩)) (w.setCell ⟨GS, k, none⟩ (.pointer (some ⟨g, 0, none⟩))) GS N (k + 1) := by
  have s' : RowV T (fun i => .pointer (some ⟨updG G k g i, 0, none⟩)) w GS N k := by
    obtain ⟨arr, h1, h2, h3⟩ := s
    refine ⟨arr, h1, h2, fun i hi => ?_⟩
    rw [h3 i hi]
    show some (Value.pointer (some ⟨G i, 0, none⟩)) = some (Value.pointer (some ⟨updG G k g i, 0, none⟩))
    unfold updG
    rw [if_neg (show i ≠ k by omega)]
  exact s'.set hk (by unfold updG; rw [if_pos rfl])
theorem Gs.ptr {X E : Nat} {G : Nat → Nat} {a : Array Value} {z : Nat × Nat} (s : Gs w n E G ns ps nu) (hX : w.heap[X]? = some (Obj.cells a 33 z)) (o : Nat) (v : Value) : Gs (w.setCell ⟨X, o, none⟩ v) n E G ns ps nu := by
  refine ⟨fun i hi => ⟨(s.all i hi).1, ?_⟩, s.inj⟩
  obtain ⟨i1, l1, e1⟩ := (s.all i hi).2
  exact ⟨i1, l1, (heap_setCell_other _ _ _ _ (ty_ne e1 hX (by decide))).trans e1⟩
end

section
variable (base n fs : Nat) (cs : List Int) (ns : Nat → ByteArray) (ps nu : Nat → Int) (p : Option Addr) (lns : Nat → ByteArray) (lN : Nat → Int)

set_option maxHeartbeats 4000000 in
set_option maxRecDepth 100000 in
theorem buildB_any (N J gn pn bn : Nat) (p2 p3 p4 p8 p9 : Option Addr) (refB refP : Bool) (w : World) (hN : cs.length = N) (hb : base ≤ w.heap.size) (hr : Own (Value.int .u32) 39 base w (.slice p N N) cs) (hn : n ≤ 4096) (hJ : J ≤ 4096) (hgn : gn ≤ 4096) (hpn : pn ≤ 4096) (hbn : bn ≤ 4096) (hNN : N ≤ 1048576) (hls : ∀ j, j < J → (lns j).size ≤ maxLen)
    (h2 : Cq Value.string w p2 n ns) (h3 : Cq (Value.int .i64) w p3 n ps) (h4 : Cq (Value.int .i64) w p4 n nu) (h8 : Cq Value.string w p8 J lns) (h9 : Cq (Value.int .i64) w p9 J lN) :
    Calls Tryf.prog 23 #[.slice p N N, .int .i64 (fs : Int), .slice p2 n n, .slice p3 n n, .slice p4 n n, .int .i64 (gn : Int), .int .i64 (pn : Int), .int .i64 (bn : Int), .slice p8 J J, .slice p9 J J, .bool refB, .bool refP] w fun e w' =>
      ∃ F C Bk U h G P Q Lm GS E, e = .returned (.tuple #[.pointer (some ⟨F, 0, none⟩), .slice (some ⟨GS, 0, none⟩) n n]) ∧
      Sx w' F C Bk U p h base n (fs : Int) cs ns ps nu ∧ EnvB w' Bk P Q (fs : Int) pn gn refB refP Lm ∧ LbE w' Lm lns lN J E ∧ Gs w' n E G ns ps nu ∧ (∀ i g, h i = some g → g = G i) ∧ (∀ i, (h i).isSome = decide (i < n)) ∧ Lm ≠ U ∧ w.heap.size ≤ E ∧ RowV 33 (fun i => .pointer (some ⟨G i, 0, none⟩)) w' GS n n ∧ Below w.heap.size w w' := by
  have HR := Lib.hid hr
  have H2 := Lib.hid h2
  have H3 := Lib.hid h3
  have H4 := Lib.hid h4
  have H8 := Lib.hid h8
  have H9 := Lib.hid h9
  have HLS := Lib.hid hls
  clear hr h2 h3 h4 h8 h9 hls
  go_enter Tryf.func23, Tryf.ntmps23
  go_wp2_with fail
  refine (blockN_any 0 0 none _ (by omega) (by omega)).mono ?_; rintro e v1 ⟨Q, V2, L2, rfl, hcb, hpl, _, hQ, _, hb1⟩
  have HPV := Lib.hid hpl
  have HCV := Lib.hid hcb
  have HBV := Lib.hid hb1
  clear hpl hcb hb1
  go_wp2_with fail
  go_loopw [27] (fun i wr => ∃ k : Nat, k ≤ gn ∧ i = .int .i64 k ∧ PlN wr V2 w.heap.size k ∧ Cb wr Q V2 none false L2 0 ∧  Below w.heap.size w wr) (fun i _ => gn - (intOf i).toNat)
  case atStart => exact ⟨0, by omega, rfl, HPV.out, HCV.out,  HBV.out⟩
  case round =>
    obtain ⟨k, hk, rfl, hpl, hcb,  hb⟩ := hrel
    have HPV := Lib.hid hpl
    have HCV := Lib.hid hcb
    have HBV := Lib.hid hb
    by_cases hkl : k < gn
    · have hc0 := hcb.c0
      clear hpl hcb hb 
      have b2 : (k : Int) < (gn : Int) := by omega
      go_wp2_with fail
      refine (regLocal_any Q V2 w.heap.size k _ _ hc0 HPV.out (by omega)).mono ?_; rintro e w5 ⟨⟨v, rfl⟩, hpl, hb, hfr⟩
      have HPV5 := Lib.hid hpl
      have HCV5 := Lib.hid (HCV.out.frS hfr)
      have HBV5 := Lib.hid (HBV.out.trans hb)
      clear hpl hb hfr
      go_wp2
      go_roundw
      case rel => exact ⟨k + 1, by omega, by go_num, HPV5.out, HCV5.out,  HBV5.out⟩
      case measure => simp [intOf]; omega
    · have hkk : k = gn := by omega
      subst hkk
      clear hpl hcb hb 
      obtain ⟨x2, rfl⟩ : ∃ x2 : World, x2 = wr := ⟨_, rfl⟩
      have HQ2 := Lib.hid HPV.out
      have HCQ := Lib.hid HCV.out
      have BX2 := Lib.hid HBV.out
      have sx2 := HBV.out.size
      clear HPV HCV HBV
      go_wp2_with fail
      refine (blockN_any (k : Int) 0 (some ⟨Q, 0, none⟩) _ (by omega) (by omega)).mono ?_; rintro e v3 ⟨P, V1, Lm, rfl, hcb, hpl, hus, hP, hLm, hb3⟩
      have HPV := Lib.hid hpl
      have HCV := Lib.hid hcb
      have HUV := Lib.hid hus
      have HBV := Lib.hid hb3
      clear hpl hcb hus hb3
      obtain ⟨gn, rfl⟩ : ∃ gn, gn = k := ⟨_, rfl⟩
      go_wp2_with fail
      go_loopw [29] (fun i wr => ∃ k : Nat, k ≤ pn ∧ i = .int .i64 k ∧ PlN wr V1 x2.heap.size k ∧ Cb wr P V1 (some ⟨Q, 0, none⟩) false Lm 0 ∧ UpS wr Lm 0 (fun _ => none) ∧ Below x2.heap.size x2 wr) (fun i _ => pn - (intOf i).toNat)
      case atStart => exact ⟨0, by omega, rfl, HPV.out, HCV.out, HUV.out, HBV.out⟩
      case round =>
        obtain ⟨k, hk, rfl, hpl, hcb, hus, hb⟩ := hrel
        have HPV := Lib.hid hpl
        have HCV := Lib.hid hcb
        have HUV := Lib.hid hus
        have HBV := Lib.hid hb
        by_cases hkl : k < pn
        · have hc0 := hcb.c0
          clear hpl hcb hb hus
          have b2 : (k : Int) < (pn : Int) := by omega
          go_wp2_with fail
          refine (regLocal_any P V1 x2.heap.size k _ _ hc0 HPV.out (by omega)).mono ?_; rintro e w5 ⟨⟨v, rfl⟩, hpl, hb, hfr⟩
          have HPV5 := Lib.hid hpl
          have HCV5 := Lib.hid (HCV.out.frS hfr)
          have HUV5 := Lib.hid (HUV.out.frS hfr)
          have HBV5 := Lib.hid (HBV.out.trans hb)
          clear hpl hb hfr
          go_wp2
          go_roundw
          case rel => exact ⟨k + 1, by omega, by go_num, HPV5.out, HCV5.out, HUV5.out, HBV5.out⟩
          case measure => simp [intOf]; omega
        · have hkk : k = pn := by omega
          subst hkk
          clear hpl hcb hb hus
          obtain ⟨x4, rfl⟩ : ∃ x4 : World, x4 = wr := ⟨_, rfl⟩
          go_wp2_with fail
          refine (setRef_any P V1 (some ⟨Q, 0, none⟩) false refP Lm 0 _ HCV.out).mono ?_; rintro e v5 ⟨rfl, hcb, hk5, hb5⟩
          have hPc : ∃ a z, x4.heap[P]? = some (Obj.cells a 81 z) := by obtain ⟨a, h1, _⟩ := HCV.out; exact ⟨a, _, h1⟩
          obtain ⟨aP, zP, hPc⟩ := hPc
          obtain ⟨esL, cL, hLo⟩ := HUV.out.obj
          have HC5 := Lib.hid hcb
          have HP5 := Lib.hid (HPV.out.cells (w' := v5) fun k a T z hk hT => hk5 k (ty_ne hk hPc hT))
          have HL5 := Lib.hid (Lb.zero (lns := lns) (lN := lN) (HUV.out.keep (hk5 Lm (fun e => map_ne hPc hLo e.symm))))
          have HB5 := Lib.hid (HBV.out.trans (hb5.mono hP))
          clear hcb hk5 hb5 hPc hLo HPV HCV HUV HBV
          obtain ⟨pn, rfl⟩ : ∃ pn, pn = k := ⟨_, rfl⟩
          go_wp2_with fail
          go_loopw [30] (fun i wr => ∃ k : Nat, k ≤ J ∧ i = .int .i64 k ∧ Cb wr P V1 (some ⟨Q, 0, none⟩) refP Lm 0 ∧ PlN wr V1 x2.heap.size pn ∧ Lb wr Lm lns lN k ∧ Below x2.heap.size x2 wr) (fun i _ => J - (intOf i).toNat)
          case atStart => exact ⟨0, by omega, rfl, HC5.out, HP5.out, HL5.out, HB5.out⟩
          case round =>
            obtain ⟨k, hk, rfl, hcb, hpl, hlb, hb⟩ := hrel
            have HC6 := Lib.hid hcb
            have HP6 := Lib.hid hpl
            have HL6 := Lib.hid hlb
            have HB6 := Lib.hid hb
            clear hcb hpl hlb
            by_cases hkl : k < J
            · obtain ⟨g8, e8, hg8, hc8⟩ := H8.out k hkl
              obtain ⟨g9, e9, hg9, hc9⟩ := H9.out k hkl
              subst e8 e9
              have d8 : wr.cell? ⟨g8, k, none⟩ = some (.string (lns k)) := (hb.cell (p := ⟨g8, k, none⟩) (Nat.lt_of_lt_of_le hg8 sx2)).trans ((BX2.out.cell (p := ⟨g8, k, none⟩) hg8).trans hc8)
              have d9 : wr.cell? ⟨g9, k, none⟩ = some (.int .i64 (lN k)) := (hb.cell (p := ⟨g9, k, none⟩) (Nat.lt_of_lt_of_le hg9 sx2)).trans ((BX2.out.cell (p := ⟨g9, k, none⟩) hg9).trans hc9)
              clear hb hc8 hc9
              have b1 : (0 : Int) ≤ (k : Int) := by omega
              have b2 : (k : Int) < (J : Int) := by omega
              go_wp2_with fail
              go_still_tail 10, (by kernel_rfl)
              change wpList _ _ _ _ _ (wr.drewN 1)
              have HC7 := Lib.hid (HC6.out.keep (w' := wr.drewN 1) rfl)
              have HP7 := Lib.hid (HP6.out.keep (w' := wr.drewN 1) fun k _ => rfl)
              have HL7 := Lib.hid (HL6.out.keep (w' := wr.drewN 1) rfl fun k a z _ => rfl)
              have HB7 := Lib.hid (below_drewN HB6.out 1)
              clear HC6 HP6 HL6 HB6
              generalize wr.drewN 1 = wd at *
              go_wp2_with fail
              refine (addLab_any P V1 (some ⟨Q, 0, none⟩) refP Lm 0 k x2.heap.size lns lN _ HC7.out HL7.out (HLS.out k hkl) (by omega) hLm HB7.out.size).mono ?_; rintro e w5 ⟨⟨v, rfl⟩, hlb, hk5, hb⟩
              have hLo : ∃ es c, wd.heap[Lm]? = some (.map es c) := by obtain ⟨m, g, hu, _⟩ := HL7.out; exact hu.obj
              obtain ⟨esL, cL, hLo⟩ := hLo
              have HC8 := Lib.hid (HC7.out.keep (hk5 P HC7.out.lt (by obtain ⟨a, h1, _⟩ := HC7.out; exact map_ne h1 hLo)))
              have HP8 := Lib.hid (HP7.out.cells (w' := w5) fun k a T z hk hT => hk5 k (lt_of_block hk) (map_ne hk hLo))
              have HL8 := Lib.hid hlb
              have HB8 := Lib.hid (HB7.out.trans hb)
              clear hlb hk5 hb hLo
              go_wp2
              go_roundw
              case rel => exact ⟨k + 1, by omega, by go_num, HC8.out, HP8.out, HL8.out, HB8.out⟩
              case measure => simp [intOf]; omega
            · have hkk : k = J := by omega
              subst hkk
              obtain ⟨x6, rfl⟩ : ∃ x6 : World, x6 = wr := ⟨_, rfl⟩
              have sx6 := hb.size
              have hLl := HL6.out.lt
              clear hb
              go_wp2_with fail
              refine (blockN_any ((gn : Int) + (pn : Int)) (fs : Int) (some ⟨P, 0, none⟩) _ (by omega) (by omega)).mono ?_; rintro e v7 ⟨Bk, VB, LmB, rfl, hcb, hpl, _, hBk, _, hb7⟩
              have HPV := Lib.hid hpl
              have HCV := Lib.hid hcb
              have HBV := Lib.hid hb7
              clear hcb hpl hb7
              obtain ⟨J, rfl⟩ : ∃ J, J = k := ⟨_, rfl⟩
              go_wp2_with fail
              go_loopw [32] (fun i wr => ∃ k : Nat, k ≤ bn ∧ i = .int .i64 k ∧ PlN wr VB x6.heap.size k ∧ Cb wr Bk VB (some ⟨P, 0, none⟩) false LmB (fs : Int) ∧ Below x6.heap.size x6 wr) (fun i _ => bn - (intOf i).toNat)
              case atStart => exact ⟨0, by omega, rfl, HPV.out, HCV.out, HBV.out⟩
              case round =>
                obtain ⟨k, hk, rfl, hpl, hcb, hb⟩ := hrel
                have HPV := Lib.hid hpl
                have HCV := Lib.hid hcb
                have HBV := Lib.hid hb
                by_cases hkl : k < bn
                · have hc0 := hcb.c0
                  clear hpl hcb hb
                  have b2 : (k : Int) < (bn : Int) := by omega
                  go_wp2_with fail
                  refine (regLocal_any Bk VB x6.heap.size k _ _ hc0 HPV.out (by omega)).mono ?_; rintro e w5 ⟨⟨v, rfl⟩, hpl, hb, hfr⟩
                  have HPV5 := Lib.hid hpl
                  have HCV5 := Lib.hid (HCV.out.frS hfr)
                  have HBV5 := Lib.hid (HBV.out.trans hb)
                  clear hpl hb hfr
                  go_wp2
                  go_roundw
                  case rel => exact ⟨k + 1, by omega, by go_num, HPV5.out, HCV5.out, HBV5.out⟩
                  case measure => simp [intOf]; omega
                · have hkk : k = bn := by omega
                  subst hkk
                  clear hpl hcb hb
                  obtain ⟨x8, rfl⟩ : ∃ x8 : World, x8 = wr := ⟨_, rfl⟩
                  go_wp2_with fail
                  refine (setRef_any Bk VB (some ⟨P, 0, none⟩) false refB LmB (fs : Int) _ HCV.out).mono ?_; rintro e v9 ⟨rfl, hcb, _, hb9⟩
                  have bxx := HBV.out.trans (hb9.mono hBk)
                  have hPc : ∃ a z, x8.heap[Bk]? = some (Obj.cells a 81 z) := by obtain ⟨a, h1, _⟩ := HCV.out; exact ⟨a, _, h1⟩
                  have HC9 := Lib.hid hcb
                  have CP9 := Lib.hid (HC6.out.keep (bxx.block P HC6.out.lt))
                  have PV9 := Lib.hid (HP6.out.keep fun k hk => bxx.block k hk)
                  have LB9 := Lib.hid (HL6.out.keep (bxx.block Lm hLl) fun k a z hk => bxx.block k (lt_of_block hk))
                  have CQ9 := Lib.hid ((HCQ.out.keep (HB6.out.block Q HCQ.out.lt)).keep (bxx.block Q (Nat.lt_of_lt_of_le HCQ.out.lt sx6)))
                  have PQ9 := Lib.hid ((HQ2.out.keep fun k hk => HB6.out.block k hk).keep fun k hk => bxx.block k hk)
                  have BW9 := Lib.hid ((BX2.out.trans (HB6.out.mono sx2)).trans (bxx.mono (Nat.le_trans sx2 sx6)))
                  have s69 := bxx.size
                  clear hcb hb9 bxx hPc HPV HCV HBV
                  have HEV := Lib.hid (⟨VB, V1, V2, LmB, L2, _, _, _, _, HC9.out, CP9.out, CQ9.out, PV9.out, PQ9.out⟩ : EnvB v9 Bk P Q (fs : Int) pn gn refB refP Lm)
                  have HLE := Lib.hid (LbE.of LB9.out (Nat.le_refl _))
                  have HBA := Lib.hid (show BlkAt v9 Bk (fs : Int) by obtain ⟨a, h1, _, _, _, _, h2⟩ := HC9.out; exact ⟨a, h1, h2⟩)
                  have HR9 := Lib.hid (own_keep HR.out fun x a hx => BW9.out.block x (lt_of_block hx))
                  go_wp2_with fail
                  refine (newFc_any base cs ns ps nu p Bk N (fs : Int) _ hN (Nat.le_trans hb BW9.out.size) HBA.out HR9.out hNN).mono ?_; rintro e v10 ⟨F, C, U, rfl, hsx, hF, hU, hb10⟩
                  have hmk := makeP n (by omega)
                  have hsz := size_madeCells (Value.cells (.pointer none)) n
                  generalize madeCells (Value.cells (.pointer none)) n = mc at *
                  have HSX := Lib.hid (hsx.below ((Below.refl v10.heap.size v10).alloc (Nat.le_refl _) (.cells mc 33)))
                  have HRV := Lib.hid (⟨mc, heap_alloc_new _ _, by simpa using hsz, fun i hi => absurd hi (by omega)⟩ : RowV 33 (fun i => .pointer (some ⟨0, 0, none⟩)) (v10.alloc (.cells mc 33)) v10.heap.size n 0)
                  have HB10 := Lib.hid (hb10.alloc hb10.size (.cells mc 33))
                  have s910 := hb10.size
                  clear hsx hb10 hsz
                  obtain ⟨E, hE⟩ : ∃ E, E = v9.heap.size := ⟨_, rfl⟩
                  rw [← hE] at HB10 HLE
                  go_wp2_with fail
                  obtain ⟨GS, hGS⟩ : ∃ g, g = v10.heap.size := ⟨_, rfl⟩
                  rw [← hGS] at HRV
                  rw [← hGS]
                  have hGE : E ≤ GS := by omega
                  have hEF : E ≤ F := by omega
                  have hEU : E ≤ U := by omega
                  have hLU : Lm ≠ U := by omega
                  have hEw : w.heap.size ≤ E := by have := BW9.out.size; omega
                  have HEE := Lib.hid hE
                  clear hmk hGS hE
                  go_loopw [35] (fun i wr => ∃ (k : Nat) (h : Nat → Option Nat) (G : Nat → Nat), k ≤ n ∧ i = .int .i64 k ∧ Sx wr F C Bk U p h base k (fs : Int) cs ns ps nu ∧ (∀ i, (h i).isSome = decide (i < k)) ∧ (∀ i g, h i = some g → g = G i) ∧ Gs wr k E G ns ps nu ∧ RowV 33 (fun i => .pointer (some ⟨G i, 0, none⟩)) wr GS n k ∧ Below E v9 wr) (fun i _ => n - (intOf i).toNat)
                  case atStart => exact ⟨0, _, fun _ => 0, by omega, rfl, HSX.out, fun i => by simp, fun i g hg => (by cases hg), ⟨fun i hi => absurd hi (by omega), fun i j hi => absurd hi (by omega)⟩, HRV.out, HB10.out⟩
                  case round =>
                    obtain ⟨k, h, G, hk, rfl, hsx, hh, hG, hgs, hrv, hbe⟩ := hrel
                    have HSX := Lib.hid hsx
                    have HH := Lib.hid hh
                    have HG := Lib.hid hG
                    have HGS := Lib.hid hgs
                    have HRV := Lib.hid hrv
                    have HBE := Lib.hid hbe
                    clear hsx hh hG hgs
                    by_cases hkl : k < n
                    · obtain ⟨g2, e2, hg2, hc2⟩ := H2.out k hkl
                      obtain ⟨g3, e3, hg3, hc3⟩ := H3.out k hkl
                      obtain ⟨g4, e4, hg4, hc4⟩ := H4.out k hkl
                      subst e2 e3 e4
                      have hbw := BW9.out.trans (hbe.mono (by rw [HEE.out]; exact BW9.out.size))
                      have d2 : wr.cell? ⟨g2, k, none⟩ = some (.string (ns k)) := (hbw.cell (p := ⟨g2, k, none⟩) hg2).trans hc2
                      have d3 : wr.cell? ⟨g3, k, none⟩ = some (.int .i64 (ps k)) := (hbw.cell (p := ⟨g3, k, none⟩) hg3).trans hc3
                      have d4 : wr.cell? ⟨g4, k, none⟩ = some (.int .i64 (nu k)) := (hbw.cell (p := ⟨g4, k, none⟩) hg4).trans hc4
                      clear hc2 hc3 hc4 hbw hbe hrv
                      have b1 : (0 : Int) ≤ (k : Int) := by omega
                      have b2 : (k : Int) < (n : Int) := by omega
                      have hl2 : g2 < E := by omega
                      have hl3 : g3 < E := by omega
                      have hl4 : g4 < E := by omega
                      have hEs : E ≤ wr.heap.size := by have := HBE.out.size; have := HEE.out; omega
                      have HSX1 := Lib.hid (show Sx wr.drew F C Bk U p h base k (fs : Int) cs ns ps nu from HSX.out.drewN 1)
                      have HGS1 := Lib.hid (show Gs wr.drew k E G ns ps nu from (show Gs (wr.drewN 1) k E G ns ps nu from ⟨HGS.out.all, HGS.out.inj⟩))
                      have HRV1 := Lib.hid (HRV.out.keep (w' := wr.drew) rfl)
                      have HBE1 := Lib.hid (show Below E v9 wr.drew from below_drewN HBE.out 1)
                      go_wp2_with fail
                      go_region_held3 (fun w' => w'.cell? ⟨g2, k, none⟩ = some (.string (ns k)) ∧ w'.cell? ⟨g3, k, none⟩ = some (.int .i64 (ps k)) ∧ w'.cell? ⟨g4, k, none⟩ = some (.int .i64 (nu k))) (first | exact ⟨d2, d3, d4⟩ | exact ⟨q2, q3, q4⟩ | exact ⟨cell_above hGE hl2 q2, cell_above hGE hl3 q3, cell_above hGE hl4 q4⟩) (first | (go_at_call 31; refine (addUnf_any base cs ns ps nu p F C Bk U k E h (fs : Int) (k : Int) _ HSX1.out (by omega) ⟨hEF, hEU, hEs⟩).mono ?_; rintro e w5 ⟨g, rfl, hs, hb, hg, hgd, hk5⟩; have HSX5 := Lib.hid hs; have HGS5 := Lib.hid (HGS1.out.add (HSX1.out.cellsK hk5) hg (Nat.le_trans hEs hg) hgd); have hrv5 := HRV1.out.keepC (HSX1.out.cellsK hk5); obtain ⟨⟨v0, e3⟩, e4⟩ := hrv5.room hkl; have HRV5 := Lib.hid hrv5; have HBE5 := Lib.hid (HBE1.out.trans (hb.mono (Nat.le_refl _))); have q2 := (hb.cell (p := ⟨g2, k, none⟩) hl2).trans d2; have q3 := (hb.cell (p := ⟨g3, k, none⟩) hl3).trans d3; have q4 := (hb.cell (p := ⟨g4, k, none⟩) hl4).trans d4; clear hs hb hg hgd hk5 hrv5))
                      go_wp2
                      go_roundw
                      case rel =>
                        obtain ⟨arr, hx, hy⟩ := HRV5.out
                        refine ⟨k + 1, _, updG G k g, by omega, by go_num, HSX5.out.ptr hx _ _, fun i => ?_, fun i y hy => ?_, HGS5.out.ptr hx _ _, RowV.addP HRV5.out hkl, HBE5.out.setCell (p := ⟨GS, k, none⟩) hGE _⟩
                        · unfold put1
                          by_cases e : i = k
                          · subst e; simp
                          · rw [if_neg e, HH.out i]
                            by_cases hi : i < k
                            · simp [hi, Nat.lt_succ_of_lt hi]
                            · have : ¬ i < k + 1 := by omega
                              simp [hi, this]
                        · unfold put1 at hy
                          unfold updG
                          by_cases e : i = k
                          · rw [if_pos e] at hy
                            rw [if_pos e]
                            exact (Option.some.inj hy).symm
                          · rw [if_neg e] at hy
                            rw [if_neg e]
                            exact HG.out i y hy
                      case measure => simp [intOf]; omega
                    · have hkk : k = n := by omega
                      subst hkk
                      clear hrv hbe
                      go_wp2
                      go_ret2
                      exact ⟨F, C, Bk, U, h, G, P, Q, Lm, GS, E, rfl, HSX.out, EnvB.keep HEV.out (fun k hk => HBE.out.block k (by rw [HEE.out]; exact hk)), LbE.keep HLE.out (fun k hk => HBE.out.block k (by rw [HEE.out]; exact hk)), HGS.out, HG.out, HH.out, hLU, hEw, HRV.out, BW9.out.trans (HBE.out.mono hEw)⟩
end

end Go.Proofs.YtiihgamhmflphaaFmt
