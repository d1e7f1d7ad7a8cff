/- A function context in memory, as the laws on labels use it: block F holds its fields, block M is the map of the labels' places. -/
import Derived.Test.YtiihgamhmflphaaRows
import Derived.Test.YtiihgamhmflphaaKeep
import Derived.Test.YtiihgamhmflphaaIn
import Derived.WalkKit
import Derived.WalkSpells
import Derived.WalkLawsBesides
import Derived.Lib.Hide
import Derived.Deep.QuietTactic
import Derived.BigQuiet
import Derived.RegionTactic
import Derived.Maps.Own
import Derived.Maps.OwnOps
import Derived.Maps.OwnSet
import Derived.Maps.Views
namespace Go.Proofs.Ytiihgamhmflphaa
open Go.RowKit Go.Maps
set_option linter.unusedVariables false

theorem lawI : Keyed Try.prog 3 := int_keyed Try.underlying3
theorem zeroI (w : World) : (zeroValue 3).run Try.prog w = .ok (.int .i64 0) w := by kernel_rfl

theorem lt_of_block {w : World} {k : Nat} {o : Obj} (h : w.heap[k]? = some o) : k < w.heap.size := by
  rw [Array.getElem?_eq_some_iff] at h
  exact h.1

/-- The map in block M answers f. -/
def Mp (w : World) (M n : Nat) (f : Int → Int) : Prop := ∃ D : DataW Unit, w.ownsMap Try.prog 3 (plainElem Try.prog 3) M n D ∧ ∀ q, D.atKey (.int .i64 q) (.lit (.int .i64 0)) = .lit (.int .i64 (f q))
/-- The function context in block F: its next label, its map. -/
def Fc (w : World) (F M : Nat) (lid : Int) : Prop := ∃ arr, w.heap[F]? = some (.cells arr 45 (0, 0)) ∧ arr[7]? = some (.int .i64 lid) ∧ arr[8]? = some (.map (some M))

theorem Mp.keep {w w' : World} {M n : Nat} {f : Int → Int} (h : Mp w M n f) (hk : w'.heap[M]? = w.heap[M]?) : Mp w' M n f := by
  obtain ⟨D, ⟨es, c, h1, h2⟩, h3⟩ := h
  exact ⟨D, ⟨es, c, hk.trans h1, h2⟩, h3⟩
theorem Mp.lt {w : World} {M n : Nat} {f : Int → Int} (h : Mp w M n f) : M < w.heap.size := by
  obtain ⟨D, ⟨es, c, h1, h2⟩, h3⟩ := h
  exact lt_of_block h1
theorem Fc.keep {w w' : World} {F M : Nat} {lid : Int} (h : Fc w F M lid) (hk : w'.heap[F]? = w.heap[F]?) : Fc w' F M lid := by
  obtain ⟨arr, h1, h2⟩ := h
  exact ⟨arr, hk.trans h1, h2⟩
theorem Fc.lt {w : World} {F M : Nat} {lid : Int} (h : Fc w F M lid) : F < w.heap.size := by
  obtain ⟨arr, h1, h2⟩ := h
  exact lt_of_block h1
theorem Fc.ne {w : World} {F M n M' : Nat} {lid : Int} {f : Int → Int} (h : Fc w F M lid) (hm : Mp w M' n f) : F ≠ M' := by
  obtain ⟨arr, h1, h2⟩ := h
  obtain ⟨D, ⟨es, c, h3, _⟩, _⟩ := hm
  rintro rfl
  rw [h1] at h3
  cases h3
theorem Fc.c7 {w : World} {F M : Nat} {lid : Int} (h : Fc w F M lid) : w.cell? ⟨F, 7, none⟩ = some (.int .i64 lid) := by
  obtain ⟨arr, h1, h2, h3⟩ := h
  rw [cell_of_row _ _ _ _ _ _ h1]; exact h2
theorem Fc.c8 {w : World} {F M : Nat} {lid : Int} (h : Fc w F M lid) : w.cell? ⟨F, 8, none⟩ = some (.map (some M)) := by
  obtain ⟨arr, h1, h2, h3⟩ := h
  rw [cell_of_row _ _ _ _ _ _ h1]; exact h3
theorem Fc.fz {w : World} {F M : Nat} {lid : Int} (h : Fc w F M lid) (o : Nat) : w.frozen? ⟨F, o, none⟩ = false := by
  obtain ⟨arr, h1, h2, h3⟩ := h
  exact frozen_of_row _ _ _ _ _ h1
theorem Fc.set {w : World} {F M : Nat} {lid : Int} (h : Fc w F M lid) (x : Int) : Fc (w.setCell ⟨F, 7, none⟩ (.int .i64 x)) F M x := by
  obtain ⟨arr, h1, h2, h3⟩ := h
  refine ⟨arr.setIfInBounds 7 (.int .i64 x), heap_setCell_same _ _ _ _ _ _ h1, ?_, ?_⟩
  · rw [Array.getElem?_setIfInBounds_self_of_lt]
    rw [Array.getElem?_eq_some_iff] at h2
    exact h2.1
  · rw [Array.getElem?_setIfInBounds_ne (by decide)]; exact h3

theorem mp_made (w : World) : Mp (w.alloc (.map #[] 0)) w.heap.size 0 (fun _ => 0) := ⟨.map [], World.ownsMap_made _ _ _ _, fun q => rfl⟩
theorem Mp.alloc {w : World} {M n : Nat} {f : Int → Int} (h : Mp w M n f) (o : Obj) : Mp (w.alloc o) M n f := h.keep (Below.heap_alloc _ _ _ h.lt)
theorem Mp.drewN {w : World} {M n : Nat} {f : Int → Int} (h : Mp w M n f) (q : Nat) : Mp (w.drewN q) M n f := h.keep rfl
theorem Fc.drewN {w : World} {F M : Nat} {lid : Int} (h : Fc w F M lid) (q : Nat) : Fc (w.drewN q) F M lid := h.keep rfl
theorem below_drewN {B : Nat} {a w : World} (h : Below B a w) (n : Nat) : Below B a (w.drewN n) := ⟨h.os, h.tape, h.output, h.size, h.block⟩

theorem infoI : (Try.prog.info? 3).map (fun i => (i.zero, i.size, i.bytes)) = some (some (.int .i64 0), 1, 8) := by kernel_rfl
theorem makeI (n : Nat) (hn : n ≤ 1048576) (w : World) : (Instr.makeSlice 26 (.int .i64 (n : Int)) (.int .i64 (n : Int))).run Try.prog w = .ok (.slice (some ⟨w.heap.size, 0, none⟩) n n) (w.alloc (.cells (madeCells (Value.cells (.int .i64 0)) n) 3)) := by
  obtain ⟨i0, hi, hz0, hz1, hz2⟩ := info_parts infoI
  have h := run_make (P := Try.prog) w 26 3 i0 (.int .i64 0) Try.underlying26 hi hz0 .i64 .i64 n n (by omega) (by omega) (by rw [hz2]; omega) (by omega)
  rw [hz1, Int.toNat_natCast, Nat.mul_one] at h
  exact h

set_option maxHeartbeats 1000000 in
theorem new_any (lid : Int) (w : World) :
    Calls Try.prog 7 #[.slice none 0 0, .pointer none, .int .i64 lid] w fun e w' => ∃ F M, e = .returned (.pointer (some ⟨F, 0, none⟩)) ∧ w.heap.size ≤ F ∧ w.heap.size ≤ M ∧ Fc w' F M lid ∧ Mp w' M 0 (fun _ => 0) ∧ Below w.heap.size w w' := by
  have hmm := @run_makeMap Try.prog
  have hms : ∀ w : World, (Instr.makeSlice 26 (.int .i64 0) (.int .i64 0)).run Try.prog w = .ok (.slice (some ⟨w.heap.size, 0, none⟩) 0 0) (w.alloc (.cells (madeCells (Value.cells (.int .i64 0)) 0) 3)) := fun w => makeI 0 (by omega) w
  generalize madeCells (Value.cells (.int .i64 0)) 0 = mc at hms
  go_enter Try.func7, Try.ntmps7
  go_wp2
  go_ret
  have e4 : ∀ (a b c d : Obj), ((((w.alloc a).alloc b).alloc c).alloc d).heap.size = w.heap.size + 1 + 1 + 1 + 1 := fun a b c d => by simp
  have e2 : ∀ (a b : Obj), ((w.alloc a).alloc b).heap.size = w.heap.size + 1 + 1 := fun a b => by simp
  refine ⟨w.heap.size + 1 + 1 + 1 + 1, w.heap.size + 1 + 1, rfl, by omega, by omega, ⟨#[Value.pointer none, Value.pointer (some ⟨w.heap.size + 1, 0, none⟩), Value.pointer none, Value.pointer none, Value.pointer none, Value.slice none 0 0, Value.int IntKind.i64 0, Value.int IntKind.i64 lid, Value.map (some (w.heap.size + 1 + 1)), Value.int IntKind.i64 0, Value.map (some (w.heap.size + 1 + 1 + 1))], ?_, rfl, rfl⟩, ?_, ((((((Below.refl _ _).alloc (Nat.le_refl _) _).alloc (by simp) _).alloc (by simp; omega) _).alloc (by simp; omega) _).alloc (by simp; omega) _)⟩
  · rw [← e4]
    exact heap_alloc_new _ _
  · rw [← e2]
    exact ((mp_made _).alloc _).alloc _

set_option maxHeartbeats 1000000 in
theorem newLabel0 (F M : Nat) (lid : Int) (w : World) (h : Fc w F M lid) (wl : (Lit.int .i64 lid).wf = true) :
    Calls Try.prog 17 #[.pointer (some ⟨F, 0, none⟩)] w fun e w' => e = .returned (.int .i64 lid) ∧ Fc w' F M (wrap64 (lid + 1)) ∧ (∀ k, k ≠ F → w'.heap[k]? = w.heap[k]?) ∧ Below F w w' := by
  have H := Lib.hid h
  have c7 := h.c7
  have f7 := h.fz 7
  clear h
  go_enter Try.func17, Try.ntmps17
  go_wp2
  go_ret
  exact ⟨rfl, H.out.set _, fun k hk => heap_setCell_other _ _ _ _ hk, (Below.refl F w).setCell (p := ⟨F, 7, none⟩) (Nat.le_refl _) _⟩

theorem newLabel_any (F M : Nat) (lid : Int) (w : World) (h : Fc w F M lid) (wl : (Lit.int .i64 lid).wf = true) :
    Calls Try.prog 8 #[.pointer (some ⟨F, 0, none⟩)] w fun e w' => e = .returned (.int .i64 lid) ∧ Fc w' F M (wrap64 (lid + 1)) ∧ (∀ k, k ≠ F → w'.heap[k]? = w.heap[k]?) ∧ Below F w w' := by
  have H := Lib.hid (newLabel0 F M lid w h wl)
  clear h
  go_enter Try.func8, Try.ntmps8
  go_wp2_with fail
  refine H.out.mono ?_; rintro e w1 ⟨rfl, hp⟩
  have HP := Lib.hid hp
  clear hp
  go_wp2
  go_ret
  exact ⟨rfl, HP.out⟩

theorem labelId_any (F M : Nat) (lid : Int) (w : World) (h : Fc w F M lid) :
    Calls Try.prog 9 #[.pointer (some ⟨F, 0, none⟩)] w fun e w' => e = .returned (.int .i64 lid) ∧ w' = w := by
  have c7 := h.c7
  clear h
  go_enter Try.func9, Try.ntmps9
  go_wp2
  go_ret
  exact ⟨rfl, by first | rfl | trivial⟩

set_option maxHeartbeats 1000000 in
theorem getPc0 (F M n : Nat) (lid q : Int) (f : Int → Int) (w : World) (h : Fc w F M lid) (hm : Mp w M n f) (wq : (Lit.int .i64 q).wf = true) :
    Calls Try.prog 18 #[.pointer (some ⟨F, 0, none⟩), .int .i64 q] w fun e w' => e = .returned (.int .i64 (f q)) ∧ w' = w := by
  have c8 := h.c8
  obtain ⟨D, hown, hf⟩ := hm
  have HO := Lib.hid hown
  have HF := Lib.hid (hf q)
  clear h hown hf
  go_enter Try.func18, Try.ntmps18
  go_wp2_with (at_lookup; refine wpList_lookup_own_int _ rfl _ _ 39 rfl 3 3 .i64 lawI Try.underlying39 Try.underlying3 (zeroI _) M n _ rfl HO.out _ _ rfl (keyOf_int_mk Try.underlying3 wq) ?_; intro c hat hwc)
  go_ret
  have e : c = f q := by
    have := hat.symm.trans HF.out
    simpa using this
  rw [e]
  exact ⟨rfl, by first | rfl | trivial⟩

theorem getPc_any (F M n : Nat) (lid q : Int) (f : Int → Int) (w : World) (h : Fc w F M lid) (hm : Mp w M n f) (wq : (Lit.int .i64 q).wf = true) :
    Calls Try.prog 12 #[.pointer (some ⟨F, 0, none⟩), .int .i64 q] w fun e w' => e = .returned (.int .i64 (f q)) ∧ w' = w := by
  have H := Lib.hid (getPc0 F M n lid q f w h hm wq)
  generalize f q = r at *
  clear h hm
  go_enter Try.func12, Try.ntmps12
  go_wp2_with fail
  refine H.out.mono ?_; rintro e w1 ⟨rfl, rfl⟩
  go_wp2
  go_ret
  exact ⟨rfl, by first | rfl | trivial⟩

def upd (f : Int → Int) (a b : Int) : Int → Int := fun q => if q = a then b else f q

set_option maxHeartbeats 1000000 in
theorem setPc0 (F M n : Nat) (lid a b : Int) (f : Int → Int) (w : World) (h : Fc w F M lid) (hm : Mp w M n f) (hn : n ≤ 1048576) (wa : (Lit.int .i64 a).wf = true) (wb : (Lit.int .i64 b).wf = true) :
    Calls Try.prog 19 #[.pointer (some ⟨F, 0, none⟩), .int .i64 a, .int .i64 b] w fun e w' => e = .returned (.tuple #[]) ∧ Fc w' F M lid ∧ Mp w' M (n + 1) (upd f a b) ∧ (∀ k, k < w.heap.size → k ≠ M → w'.heap[k]? = w.heap[k]?) ∧ Below M w w' := by
  have H := Lib.hid h
  have c8 := h.c8
  have hne := h.ne hm
  have HM := Lib.hid hm
  obtain ⟨D, hown, hf⟩ := hm
  have HO := Lib.hid hown
  have HF := Lib.hid hf
  clear h hown hf
  go_enter Try.func19, Try.ntmps19
  go_wp2_with (at_mapUpdate; refine wpList_mapUpdate_own _ rfl _ _ _ 39 rfl 3 3 lawI Try.underlying39 _ M n _ rfl HO.out (by unfold maxLen; omega) _ _ _ rfl rfl (keyOf_int_mk Try.underlying3 wa) _ [] (plainElem_int Try.underlying3 wb) ?_; intro w1 hown1 hgrow1)
  go_end0
  have hblk : ∀ k, k < w.heap.size → k ≠ M → w1.heap[k]? = w.heap[k]? := fun k h1 h2 => hgrow1.block k h1 (fun e => h2 (Option.some.inj e))
  refine ⟨by first | rfl | trivial, H.out.keep (hblk F H.out.lt hne), ⟨_, hown1, fun q => ?_⟩, hblk, (Below.refl M w).grown hgrow1 (Nat.le_of_lt HM.out.lt) (fun k e => by cases e; exact Nat.le_refl _)⟩
  unfold upd
  by_cases e : q = a
  · subst e
    rw [if_pos rfl]
    exact atKey_put_same (k := Lit.int .i64 q) HO.out.isMap (by simp [WideAt.IsKeyLit]) _ _
  · rw [if_neg e, atKey_put_other (fun h => e (by cases h; rfl))]
    exact HF.out q

theorem setPc_any (F M n : Nat) (lid a b : Int) (f : Int → Int) (w : World) (h : Fc w F M lid) (hm : Mp w M n f) (hn : n ≤ 1048576) (wa : (Lit.int .i64 a).wf = true) (wb : (Lit.int .i64 b).wf = true) :
    Calls Try.prog 13 #[.pointer (some ⟨F, 0, none⟩), .int .i64 a, .int .i64 b] w fun e w' => e = .returned (.tuple #[]) ∧ Fc w' F M lid ∧ Mp w' M (n + 1) (upd f a b) ∧ (∀ k, k < w.heap.size → k ≠ M → w'.heap[k]? = w.heap[k]?) ∧ Below M w w' := by
  have H := Lib.hid (setPc0 F M n lid a b f w h hm hn wa wb)
  clear h hm
  go_enter Try.func13, Try.ntmps13
  go_wp2_with fail
  refine H.out.mono ?_; rintro e w1 ⟨rfl, hp⟩
  have HP := Lib.hid hp
  clear hp
  go_wp2
  go_end0
  exact ⟨by first | rfl | trivial, HP.out⟩

end Go.Proofs.Ytiihgamhmflphaa
