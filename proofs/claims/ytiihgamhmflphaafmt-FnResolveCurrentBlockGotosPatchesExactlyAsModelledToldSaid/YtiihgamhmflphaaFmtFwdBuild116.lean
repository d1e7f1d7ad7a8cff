/- How a context with gotos is built. -/
import Derived.Test.YtiihgamhmflphaaFmtFwdLoop116
namespace Go.Proofs.YtiihgamhmflphaaFmt
open Go.RowKit Go.Maps
set_option linter.unusedVariables false

theorem infoS : (Tryf.prog.info? 9).map (fun i => (i.zero, i.size, i.bytes)) = some (some (.string ByteArray.empty), 1, 16) := by kernel_rfl
theorem make16 (w : World) : (Instr.makeSlice 23 (.int .i64 0) (.int .i64 16)).run Tryf.prog w = .ok (.slice (some ⟨w.heap.size, 0, none⟩) 0 16) (w.alloc (.cells (madeCells (Value.cells (.string ByteArray.empty)) 16) 9)) := by
  obtain ⟨i0, hi, hz0, hz1, hz2⟩ := info_parts infoS
  have h := run_make (P := Tryf.prog) w 23 9 i0 (.string ByteArray.empty) Tryf.underlying23 hi hz0 .i64 .i64 0 16 (by omega) (by omega) (by rw [hz2]; omega) (by omega)
  rw [hz1] at h
  exact h
theorem infoN : (Tryf.prog.info? 3).map (fun i => (i.zero, i.size, i.bytes)) = some (some (.int .i64 0), 1, 8) := by kernel_rfl
theorem makeN (n : Nat) (hn : n ≤ 1048576) (w : World) : (Instr.makeSlice 24 (.int .i64 (n : Int)) (.int .i64 (n : Int))).run Tryf.prog w = .ok (.slice (some ⟨w.heap.size, 0, none⟩) n n) (w.alloc (.cells (madeCells (Value.cells (.int .i64 0)) n) 3)) := by
  obtain ⟨i0, hi, hz0, hz1, hz2⟩ := info_parts infoN
  have h := run_make (P := Tryf.prog) w 24 3 i0 (.int .i64 0) Tryf.underlying24 hi hz0 .i64 .i64 n n (by omega) (by omega) (by rw [hz2]; omega) (by omega)
  rw [hz1, Int.toNat_natCast, Nat.mul_one] at h
  exact h

theorem vp_any (off : Int) (w : World) :
    Calls Tryf.prog 42 #[.int .i64 off] w fun e w' => ∃ V, e = .returned (.pointer (some ⟨V, 0, none⟩)) ∧ Below w.heap.size w w' := by
  have hm := make16
  go_enter Tryf.func42, Tryf.ntmps42
  generalize madeCells (Value.cells (.string ByteArray.empty)) 16 = mc at *
  go_wp2
  go_ret
  exact ⟨_, rfl, (by repeat (first | exact Below.refl _ _ | apply Below.drew | (refine Below.alloc ?_ (by simp) _) | (refine Below.setCell ?_ (by simp) _)))⟩

def BlkAt (w : World) (Bk : Nat) (first : Int) : Prop := ∃ a, w.heap[Bk]? = some (Obj.cells a 81 (0, 0)) ∧ a[7]? = some (.int .i64 first)

set_option maxHeartbeats 400000 in
theorem block0 (V : Nat) (first : Int) (w : World) :
    Calls Tryf.prog 41 #[.pointer (some ⟨V, 0, none⟩), .int .i64 0, .pointer none, Value.nilIface, .int .i64 first] w fun e w' => ∃ Bk, e = .returned (.pointer (some ⟨Bk, 0, none⟩)) ∧ BlkAt w' Bk first ∧ Below w.heap.size w w' := by
  have hmm := @run_makeMap Tryf.prog
  go_enter Tryf.func41, Tryf.ntmps41
  go_wp2
  go_ret
  have e1 : (w.alloc (.map #[] 0)).heap.size = w.heap.size + 1 := by simp
  refine ⟨w.heap.size + 1, rfl, ⟨#[Value.pointer (some ⟨V, 0, none⟩), .int .i64 0, .pointer none, .bool false, .int .i64 0, .int .i64 0, .map (some w.heap.size), .int .i64 first], ?_, rfl⟩, (by repeat (first | exact Below.refl _ _ | apply Below.drew | (refine Below.alloc ?_ (by simp) _) | (refine Below.setCell ?_ (by simp) _)))⟩
  rw [← e1]; exact heap_alloc_new _ _

theorem block_any (first : Int) (w : World) :
    Calls Tryf.prog 29 #[.int .i64 0, .int .i64 first, .pointer none] w fun e w' => ∃ Bk, e = .returned (.pointer (some ⟨Bk, 0, none⟩)) ∧ BlkAt w' Bk first ∧ Below w.heap.size w w' := by
  go_enter Tryf.func29, Tryf.ntmps29
  go_wp2_with fail
  refine (vp_any 0 _).mono ?_; rintro e w1 ⟨V, rfl, hb1⟩
  have HB1 := Lib.hid hb1
  clear hb1
  go_wp2_with fail
  refine (block0 V first _).mono ?_; rintro e w2 ⟨Bk, rfl, hk, hb2⟩
  have HK := Lib.hid hk
  have HB2 := Lib.hid (HB1.out.trans (hb2.mono HB1.out.size))
  clear hk hb2
  go_wp2
  go_ret
  exact ⟨Bk, rfl, HK.out, HB2.out⟩

section
variable (base fs : Nat) (cs : List Int) (ns : Nat → ByteArray) (ps nu : Nat → Int) (p : Option Addr)

set_option maxHeartbeats 1000000 in
theorem newFc_any (Bk N : Nat) (first : Int) (w : World) (hN : cs.length = N) (hb : base ≤ w.heap.size) (hk : BlkAt w Bk first) (hr : Own (Value.int .u32) 39 base w (.slice p N N) cs) (hn : N ≤ 1048576) :
    Calls Tryf.prog 30 #[.slice p N N, .pointer (some ⟨Bk, 0, none⟩), .int .i64 0] w fun e w' => ∃ F C U, e = .returned (.pointer (some ⟨F, 0, none⟩)) ∧
      Sx w' F C Bk U p (fun _ => none) base 0 first cs ns ps nu ∧ w.heap.size ≤ F ∧ w.heap.size ≤ U ∧ Below w.heap.size w w' := by
  have hmm := @run_makeMap Tryf.prog
  have hms := makeN N hn
  have HK := Lib.hid hk
  have HR := Lib.hid hr
  clear hk hr
  generalize madeCells (Value.cells (.int .i64 0)) N = mc at hms
  go_enter Tryf.func30, Tryf.ntmps30
  go_wp2
  go_ret
  have e4 : ∀ (a b c d : Obj), ((((w.alloc a).alloc b).alloc c).alloc d).heap.size = w.heap.size + 1 + 1 + 1 + 1 := fun a b c d => by simp
  have e3 : ∀ (a b c : Obj), (((w.alloc a).alloc b).alloc c).heap.size = w.heap.size + 1 + 1 + 1 := fun a b c => by simp
  have e1 : ∀ (a : Obj), (w.alloc a).heap.size = w.heap.size + 1 := fun a => by simp
  have keep : ∀ (a b c d e : Obj) (k : Nat), k < w.heap.size → (((((w.alloc a).alloc b).alloc c).alloc d).alloc e).heap[k]? = w.heap[k]? := fun a b c d e k hk => by
    rw [Below.heap_alloc _ _ _ (by first | (simp; done) | (simp; omega)), Below.heap_alloc _ _ _ (by first | (simp; done) | (simp; omega)), Below.heap_alloc _ _ _ (by first | (simp; done) | (simp; omega)), Below.heap_alloc _ _ _ (by first | (simp; done) | (simp; omega)), Below.heap_alloc _ _ _ hk]
  subst hN
  obtain ⟨ab, hb1, hb2⟩ := HK.out
  refine ⟨w.heap.size + 1 + 1 + 1 + 1, w.heap.size + 1, w.heap.size + 1 + 1 + 1, rfl, ⟨by omega, by omega, ⟨#[Value.pointer none, Value.pointer (some ⟨w.heap.size + 1, 0, none⟩), Value.pointer none, Value.pointer none, Value.pointer (some ⟨Bk, 0, none⟩), Value.slice none 0 0, Value.int IntKind.i64 0, Value.int IntKind.i64 0, Value.map (some (w.heap.size + 1 + 1)), Value.int IntKind.i64 0, Value.map (some (w.heap.size + 1 + 1 + 1))], ?_, rfl, rfl, rfl, rfl⟩, ⟨#[Value.slice p cs.length cs.length, Value.slice (some ⟨w.heap.size, 0, none⟩) cs.length cs.length, Value.int IntKind.i64 cs.length], ?_, rfl⟩, ⟨ab, (keep _ _ _ _ _ _ (lt_of_block hb1)).trans hb1, hb2⟩, own_keep HR.out fun x a hx => keep _ _ _ _ _ _ (lt_of_block hx), ?_, fun i g hg => by cases hg⟩, by omega, by omega, ?_⟩
  · rw [← e4]; exact heap_alloc_new _ _
  · rw [Below.heap_alloc _ _ _ (by first | (simp; done) | (simp; omega)), Below.heap_alloc _ _ _ (by first | (simp; done) | (simp; omega)), Below.heap_alloc _ _ _ (by simp), ← e1]
    exact heap_alloc_new _ _
  · rw [← e3]
    exact (up_made _).keep (Below.heap_alloc _ _ _ (by simp))
  · exact ((((((Below.refl _ _).alloc (Nat.le_refl _) _).alloc (by simp) _).alloc (by first | (simp; done) | (simp; omega)) _).alloc (by first | (simp; done) | (simp; omega)) _).alloc (by first | (simp; done) | (simp; omega)) _)

theorem desc0 (id pc line num : Int) (name : ByteArray) (w : World) :
    Calls Tryf.prog 32 #[.int .i64 id, .string name, .int .i64 pc, .int .i64 line, .int .i64 num] w fun e w' => ∃ g, e = .returned (.pointer (some ⟨g, 0, none⟩)) ∧ w'.heap[g]? = some (.cells #[.int .i64 id, .string name, .int .i64 pc, .int .i64 line, .int .i64 num] 51 (0, 0)) ∧ w.heap.size ≤ g ∧ Below w.heap.size w w' := by
  go_enter Tryf.func32, Tryf.ntmps32
  go_wp2
  go_ret
  exact ⟨w.heap.size, rfl, heap_alloc_new _ _, Nat.le_refl _, (by repeat (first | exact Below.refl _ _ | apply Below.drew | (refine Below.alloc ?_ (by simp) _) | (refine Below.setCell ?_ (by simp) _)))⟩

theorem target_any (tid tN : Int) (tn : ByteArray) (w : World) :
    Calls Tryf.prog 14 #[.int .i64 tid, .string tn, .int .i64 0, .int .i64 0, .int .i64 tN] w fun e w' => ∃ T, e = .returned (.pointer (some ⟨T, 0, none⟩)) ∧ Td w' T tid tn tN ∧ Below w.heap.size w w' := by
  go_enter Tryf.func14, Tryf.ntmps14
  go_wp2_with fail
  refine (desc0 tid 0 0 tN tn _).mono ?_; rintro e w1 ⟨g, rfl, hg, _, hb⟩
  have HG := Lib.hid hg
  have HB := Lib.hid hb
  clear hg hb
  go_wp2
  go_ret
  exact ⟨g, rfl, ⟨_, _, HG.out⟩, HB.out⟩

/-- One goto more. -/
def put1 (h : Nat → Option Nat) (n g : Nat) : Nat → Option Nat := fun j => if j = n then some g else h j

set_option maxHeartbeats 1000000 in
set_option maxRecDepth 100000 in
theorem addUn0 (F C Bk U n g B : Nat) (h : Nat → Option Nat) (first : Int) (w : World) (s : Sx w F C Bk U p h base n first cs ns ps nu) (gd : Gd w g (ns n) (ps n) (nu n)) (hn : n ≤ 1048570) (hB : B ≤ F ∧ B ≤ U) :
    Calls Tryf.prog 43 #[.pointer (some ⟨F, 0, none⟩), .pointer (some ⟨g, 0, none⟩)] w fun e w' => e = .returned (.tuple #[]) ∧
      Sx w' F C Bk U p (put1 h n g) base (n + 1) first cs ns ps nu ∧ Below B w w' := by
  have f9 := s.f9
  have f10 := s.f10
  obtain ⟨D, hown, hD⟩ := s.hU
  have hUl := s.hU.lt
  obtain ⟨es, c, ho⟩ := s.hU.obj
  obtain ⟨aF, hF1, hF2⟩ := s.hF
  have hFU : F ≠ U := map_ne hF1 ho
  have hFl := lt_of_block hF1
  have S := Lib.hid s
  have GD := Lib.hid gd
  have HD := Lib.hid hD
  have HO := Lib.hid (show (w.drewN 1).ownsMap Tryf.prog 3 ptrElem U n D from hown)
  have HF := Lib.hid hF1
  have HF2 := Lib.hid hF2
  have HOB := Lib.hid ho
  clear s gd hown hD hF1 hF2 ho
  go_enter Tryf.func43, Tryf.ntmps43
  go_wp2_with fail
  go_still_tail 9, (by kernel_rfl)
  change wpList _ _ _ _ _ (w.drewN 1)
  have HS := Lib.hid (show ∀ k : Nat, (w.drewN 1).heap[k]? = w.heap[k]? from fun k => rfl)
  have HBD := Lib.hid (below_drewN (Below.refl B w) 1)
  have hsz : (w.drewN 1).heap.size = w.heap.size := rfl
  generalize w.drewN 1 = wd at *
  go_wp2_with (at_mapUpdate; refine wpList_mapUpdate_own _ rfl _ _ _ 66 rfl 3 33 lawI Tryf.underlying66 _ U n D rfl HO.out (by unfold maxLen; omega) _ _ _ rfl rfl (keyOf_int_mk Tryf.underlying3 (wfi (by omega))) (.lit (.int .i64 (g : Int))) [] rfl ?_; intro w1 hown1 hgrow1; (have hF3 : w1.heap[F]? = some (.cells aF 68 (0, 0)) := (hgrow1.block F (by omega) (fun e => hFU (Option.some.inj e))).trans ((HS.out F).trans HF.out); have p9 : w1.cell? ⟨F, 9, none⟩ = some (.int .i64 (n : Int)) := (cell_of_row _ _ _ _ _ _ hF3).trans HF2.out.2.2.1; have pf : ∀ o, w1.frozen? ⟨F, o, none⟩ = false := fun o => frozen_of_row _ _ _ _ _ hF3; have HF4 := Lib.hid hF3; have HW1 := Lib.hid hown1; have HG1 := Lib.hid hgrow1); clear hF3 hown1 hgrow1)
  go_end0
  have hk : ∀ k : Nat, k < w.heap.size → k ≠ U → k ≠ F → (w1.setCell ⟨F, 9, none⟩ (.int .i64 ((n : Int) + 1))).heap[k]? = w.heap[k]? := fun k h1 h2 h3 =>
    (heap_setCell_other w1 ⟨F, 9, none⟩ k _ h3).trans ((HG1.out.block k (by omega) (fun e => h2 (Option.some.inj e))).trans (HS.out k))
  obtain ⟨b1, b2, ⟨a1, f1, f2, f3, f4, f5⟩, ⟨a2, g1, g2⟩, ⟨a3, k1, k2⟩, r, u, gg⟩ := S.out
  have eF : aF = a1 := by have := HF.out.symm.trans f1; injection this with h1; injection h1
  subst eF
  have sz : 9 < aF.size := by rw [Array.getElem?_eq_some_iff] at f4; exact f4.1
  have hkT : ∀ (k : Nat) (a : Array Value) (T : TypeId) (z : Nat × Nat), T ≠ 68 → w.heap[k]? = some (Obj.cells a T z) → (w1.setCell ⟨F, 9, none⟩ (.int .i64 ((n : Int) + 1))).heap[k]? = w.heap[k]? := fun k a T z hT hx =>
    hk k (lt_of_block hx) (map_ne hx HOB.out) (ty_ne hx f1 hT)
  refine ⟨by first | rfl | trivial, ⟨b1, b2, ⟨aF.setIfInBounds 9 (.int .i64 ((n : Int) + 1)), heap_setCell_same _ _ _ _ _ _ HF4.out, ?_, ?_, ?_, ?_⟩, ⟨a2, (hkT _ _ _ _ (by decide) g1).trans g1, g2⟩, ⟨a3, (hkT _ _ _ _ (by decide) k1).trans k1, k2⟩, own_keep r fun x a hx => hkT _ _ _ _ (by decide) hx, Up.keep ⟨_, HW1.out, fun i => ?_⟩ (heap_setCell_other w1 ⟨F, 9, none⟩ U _ (fun e => hFU e.symm)), fun i y hy => ?_⟩, (HBD.out.grown HG1.out (by omega) (fun j e => by cases e; exact hB.2)).setCell (p := ⟨F, 9, none⟩) hB.1 _⟩
  · rw [Array.getElem?_setIfInBounds_ne (by decide)]; exact f2
  · rw [Array.getElem?_setIfInBounds_ne (by decide)]; exact f3
  · rw [Array.getElem?_setIfInBounds_self_of_lt sz]; rfl
  · rw [Array.getElem?_setIfInBounds_ne (by decide)]; exact f5
  · by_cases e : i = n
    · subst e
      refine ⟨by rw [has_put_same HO.out.isMap (isKey _)]; simp [put1], fun y hy => ?_⟩
      have : y = g := by simpa [put1] using hy.symm
      subst this
      exact atKey_put_same HO.out.isMap (isKey _) _ _
    · refine ⟨by rw [has_put_other (key_ne e), (HD.out i).1]; simp [put1, e], fun y hy => ?_⟩
      rw [atKey_put_other (key_ne e)]
      exact (HD.out i).2 y (by simpa [put1, e] using hy)
  · by_cases e : i = n
    · subst e
      have : y = g := by simpa [put1] using hy.symm
      subst this
      refine ⟨by omega, ?_⟩
      obtain ⟨i1, l1, e1⟩ := GD.out
      exact ⟨i1, l1, (hkT _ _ _ _ (by decide) e1).trans e1⟩
    · have hy' : h i = some y := by simpa [put1, e] using hy
      obtain ⟨h1, i1, l1, e1⟩ := gg i y hy'
      exact ⟨by omega, i1, l1, (hkT _ _ _ _ (by decide) e1).trans e1⟩

theorem addUn_any (F C Bk U n B : Nat) (h : Nat → Option Nat) (first id : Int) (w : World) (s : Sx w F C Bk U p h base n first cs ns ps nu) (hn : n ≤ 1048570) (hB : B ≤ F ∧ B ≤ U ∧ B ≤ w.heap.size) :
    Calls Tryf.prog 31 #[.pointer (some ⟨F, 0, none⟩), .int .i64 id, .string (ns n), .int .i64 (ps n), .int .i64 0, .int .i64 (nu n)] w fun e w' => ∃ v g, e = .returned v ∧
      Sx w' F C Bk U p (put1 h n g) base (n + 1) first cs ns ps nu ∧ Below B w w' := by
  have S := Lib.hid s
  have HA := fun (g : Nat) (w' : World) => addUn0 base cs ns ps nu p F C Bk U n g B h first w'
  have HA' := Lib.hid HA
  clear s HA
  generalize hnm : ns n = nm at *
  generalize hpc : ps n = pc at *
  generalize hnu : nu n = num at *
  have HNM := Lib.hid hnm
  have HPC := Lib.hid hpc
  have HNU := Lib.hid hnu
  clear hnm hpc hnu
  go_enter Tryf.func31, Tryf.ntmps31
  go_wp2_with fail
  refine (desc0 id pc 0 num nm _).mono ?_; rintro e w1 ⟨g, rfl, hg, _, hb⟩
  have S1 := Lib.hid (S.out.below hb)
  have HB := Lib.hid (hb.mono hB.2.2)
  have HG := Lib.hid hg
  clear hg hb
  go_wp2_with fail
  refine (HA'.out g _ S1.out ⟨_, _, HG.out⟩ hn ⟨hB.1, hB.2.1⟩).mono ?_; rintro e w2 ⟨rfl, hs, hb2⟩
  have S2 := Lib.hid hs
  have HB2 := Lib.hid (HB.out.trans hb2)
  clear hs hb2
  go_wp2
  go_ret
  exact ⟨_, g, rfl, S2.out, HB2.out⟩
end

end Go.Proofs.YtiihgamhmflphaaFmt
