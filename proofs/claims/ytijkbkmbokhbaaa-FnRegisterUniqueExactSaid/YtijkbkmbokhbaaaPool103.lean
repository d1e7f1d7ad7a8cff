/- A pool of variable names in memory: block S holds its two fields; the row of names is the call's own. -/
import Derived.Test.YtijkbkmbokhbaaaRows
import Derived.Test.YtijkbkmbokhbaaaKeep
import Derived.Test.YtijkbkmbokhbaaaIn
import Derived.WalkKit
import Derived.WalkSpells
import Derived.WalkLawsBesides
import Derived.Lib.Hide
import Derived.Deep.QuietTactic
import Derived.BigQuiet
import Derived.Maps.AppendAt
import Derived.Deep.AppendLies
import Derived.RegionTactic
import Derived.Deep.Onto
namespace Go.Proofs.Ytijkbkmbokhbaaa
open Go.RowKit
set_option linter.unusedVariables false

abbrev vS (l : List ByteArray) : List Value := l.map Value.string

structure Pl (w : World) (S base : Nat) (ns : List ByteArray) (off : Int) (a : Option Addr) (c : Nat) : Prop where
  hb : base ≤ S
  hS : w.heap[S]? = some (.cells #[.slice a ns.length c, .int .i64 off] 42 (0, 0))
  hr : w.ownsRow base 9 1 (.slice a ns.length c) ns.length (vS ns)

def Pool (w : World) (S base : Nat) (ns : List ByteArray) (off : Int) : Prop := ∃ a c, Pl w S base ns off a c

theorem row_keep {w w' : World} {base : Nat} {T : TypeId} {v : Value} {n : Nat} {xs : List Value} (h : w.ownsRow base T 1 v n xs) (hk : ∀ g, v.ownBlock = some g → w'.heap[g]? = w.heap[g]?) : w'.ownsRow base T 1 v n xs := by
  refine ⟨h.1, ?_⟩
  rcases h.2 with hn | ⟨g, cap, cur, rfl, hb, hgg, rest⟩
  · exact .inl hn
  · exact .inr ⟨g, cap, cur, rfl, hb, (hk g rfl).trans hgg, rest⟩
theorem row_type {w : World} {base : Nat} {T : TypeId} {v : Value} {n : Nat} {xs : List Value} (h : w.ownsRow base T 1 v n xs) {g : Nat} (hg : v.ownBlock = some g) : ∃ cur, w.heap[g]? = some (.cells cur T (0, 0)) := by
  rcases h.2 with ⟨rfl, _⟩ | ⟨g', cap, cur, rfl, hb, hgg, rest⟩
  · simp [Value.ownBlock] at hg
  · have e : g' = g := by simpa [Value.ownBlock] using hg
    subst e
    exact ⟨cur, hgg⟩
theorem type_ne {w : World} {g k : Nat} {c c' : Array Value} {T T' : TypeId} {z z' : Nat × Nat} (h : w.heap[g]? = some (.cells c T z)) (h' : w.heap[k]? = some (.cells c' T' z')) (hne : T ≠ T') : g ≠ k := by
  rintro rfl
  rw [h] at h'
  cases h'
  exact hne rfl
theorem row_set_other {w : World} {base : Nat} {T : TypeId} {v : Value} {n : Nat} {xs : List Value} {S : Nat} {c : Array Value} {T' : TypeId} {z : Nat × Nat} (h : w.ownsRow base T 1 v n xs) (hS : w.heap[S]? = some (.cells c T' z)) (hne : T ≠ T') (o : Nat) (u : Value) : (w.setCell ⟨S, o, none⟩ u).ownsRow base T 1 v n xs :=
  row_keep h fun g hg => by
    obtain ⟨cur, hh⟩ := row_type h hg
    exact heap_setCell_other _ _ _ _ (type_ne hh hS hne)
theorem below_drewN {B : Nat} {a w : World} (h : Below B a w) (n : Nat) : Below B a (w.drewN n) := ⟨h.os, h.tape, h.output, h.size, h.block⟩

theorem Pool.below {w w' : World} {S base : Nat} {ns : List ByteArray} {off : Int} (h : Pool w S base ns off) {B : Nat} (hB : w.heap.size ≤ B) (hb : Below B w w') : Pool w' S base ns off := by
  obtain ⟨a, c, h⟩ := h
  exact ⟨a, c, h.hb, (hb.block S (Nat.lt_of_lt_of_le (lt_of_block h.hS) hB)).trans h.hS,
    row_keep h.hr fun g hg => by obtain ⟨cur, hh⟩ := row_type h.hr hg; exact hb.block g (Nat.lt_of_lt_of_le (lt_of_block hh) hB)⟩
theorem Pool.drewN {w : World} {S base : Nat} {ns : List ByteArray} {off : Int} (h : Pool w S base ns off) (n : Nat) : Pool (w.drewN n) S base ns off := by
  obtain ⟨a, c, h⟩ := h
  exact ⟨a, c, h.hb, h.hS, h.hr⟩
theorem Pool.lt {w : World} {S base : Nat} {ns : List ByteArray} {off : Int} (h : Pool w S base ns off) : S < w.heap.size := by
  obtain ⟨a, c, h⟩ := h
  exact lt_of_block h.hS
theorem Pool.base {w : World} {S base : Nat} {ns : List ByteArray} {off : Int} (h : Pool w S base ns off) : base ≤ S := by
  obtain ⟨a, c, h⟩ := h
  exact h.hb
theorem Pl.c0 {w : World} {S base : Nat} {ns : List ByteArray} {off : Int} {a : Option Addr} {c : Nat} (h : Pl w S base ns off a c) : w.cell? ⟨S, 0, none⟩ = some (.slice a ns.length c) := cell_of_row _ _ _ _ _ _ h.hS
theorem Pl.c1 {w : World} {S base : Nat} {ns : List ByteArray} {off : Int} {a : Option Addr} {c : Nat} (h : Pl w S base ns off a c) : w.cell? ⟨S, 1, none⟩ = some (.int .i64 off) := cell_of_row _ _ _ _ _ _ h.hS

/-- The names' cells. -/
theorem Pl.name {w : World} {S base : Nat} {ns : List ByteArray} {off : Int} {a : Option Addr} {c : Nat} (h : Pl w S base ns off a c) {i : Nat} (hi : i < ns.length) : ∃ g, a = some ⟨g, 0, none⟩ ∧ w.cell? ⟨g, i, none⟩ = some (.string (ns.getD i ByteArray.empty)) := by
  rcases h.hr.2 with ⟨_, h0⟩ | ⟨g, cap, cur, hv, hb, hg, hle, hm, hs, htk⟩
  · omega
  · injection hv with e1 e2 e3
    subst e1 e3
    refine ⟨g, rfl, ?_⟩
    rw [cell_of_row _ _ _ _ _ _ hg]
    have := congrArg (fun x : List Value => x[i]?) htk
    simp only [List.getElem?_take, Nat.mul_one] at this
    rw [if_pos hi] at this
    rw [← Array.getElem?_toList, this]
    simp [List.getD, hi]

set_option maxHeartbeats 400000 in
theorem lastIndex_any (S base : Nat) (ns : List ByteArray) (off : Int) (w : World) (h : Pool w S base ns off) (h0 : 0 ≤ off) (h1 : off ≤ 1073741824) (hn : ns.length ≤ 1048576) :
    Calls Try.prog 18 #[.pointer (some ⟨S, 0, none⟩)] w fun e w' => e = .returned (.int .i64 (off + (ns.length : Int))) ∧ ∃ q, w' = w.drewN q := by
  obtain ⟨a, c, h⟩ := h
  have c0 := h.c0
  have c1 := h.c1
  clear h
  generalize ns.length = n at *
  go_enter Try.func18, Try.ntmps18
  go_wp2
  go_quiet (fail)
  go_wp2
  go_ret
  exact ⟨rfl, nq, rfl⟩

theorem infoS : (Try.prog.info? 9).map (fun i => (i.zero, i.size, i.bytes)) = some (some (.string ByteArray.empty), 1, 16) := by kernel_rfl

theorem make16 (w : World) : (Instr.makeSlice 22 (.int .i64 0) (.int .i64 16)).run Try.prog w = .ok (.slice (some ⟨w.heap.size, 0, none⟩) 0 16) (w.alloc (.cells (madeCells (Value.cells (.string ByteArray.empty)) 16) 9)) := by
  obtain ⟨i0, hi, hz0, hz1, hz2⟩ := info_parts infoS
  have h := run_make (P := Try.prog) w 22 9 i0 (.string ByteArray.empty) Try.underlying22 hi hz0 .i64 .i64 0 16 (by omega) (by omega) (by rw [hz2]; omega) (by omega)
  rw [hz1] at h
  exact h

set_option maxHeartbeats 400000 in
theorem pool_new (off : Int) (w : World) :
    Calls Try.prog 14 #[.int .i64 off] w fun e w' => ∃ S, e = .returned (.pointer (some ⟨S, 0, none⟩)) ∧ Pool w' S w.heap.size [] off ∧ Below w.heap.size w w' := by
  have hm := make16
  have HM := Lib.hid (size_madeCells (Value.cells (.string ByteArray.empty)) 16)
  go_enter Try.func14, Try.ntmps14
  generalize madeCells (Value.cells (.string ByteArray.empty)) 16 = mc at *
  go_wp2
  go_ret
  refine ⟨w.heap.size + 1, rfl, ⟨some ⟨w.heap.size, 0, none⟩, 16, by omega, heap_alloc2_new _ _ _, (World.ownsRow_made w mc 16 (Nat.le_refl _) (by unfold maxLen; omega) HM.out).alloc _⟩, (by repeat (first | exact Below.refl _ _ | apply Below.drew | (refine Below.alloc ?_ (by simp) _) | (refine Below.setCell ?_ (by simp) _)))⟩

set_option maxHeartbeats 1000000 in
theorem register0 (S base : Nat) (ns : List ByteArray) (off : Int) (q : ByteArray) (w : World) (a : Option Addr) (c : Nat) (h : Pl w S base ns off a c) (h0 : 0 ≤ off) (h1 : off ≤ 1073741824) (hn : ns.length ≤ 1048576) :
    Calls Try.prog 29 #[.pointer (some ⟨S, 0, none⟩), .string q] w fun e w' => e = .returned (.int .i64 ((ns.length : Int) + off)) ∧ Below base w w' ∧ ∃ a' c', Pl w' S base (ns ++ [q]) off a' c' ∧ ∀ X, X < w.heap.size → X ≠ S → (Value.slice a ns.length c).ownBlock ≠ some X → w'.heap[X]? = w.heap[X]? ∧ (Value.slice a' (ns.length + 1) c').ownBlock ≠ some X := by
  have c0 := h.c0
  have c1 := h.c1
  have hS := h.hS
  have hr := h.hr
  have hb := h.hb
  obtain ⟨n, hN⟩ : ∃ n, n = ns.length := ⟨_, rfl⟩
  rw [← hN] at c0 hS hr hn
  rw [← hN]
  have HN := Lib.hid hN
  clear h hN
  have lS := lt_of_block hS
  have hbw : base ≤ w.heap.size := by omega
  have f0 : ∀ o, w.frozen? ⟨S, o, none⟩ = false := fun o => frozen_of_row _ _ _ _ _ hS
  have hneR : some S ≠ (Value.slice a n c).ownBlock := fun e => by
    obtain ⟨cur, hh⟩ := row_type hr e.symm
    exact type_ne hh hS (by decide) rfl
  have HR := Lib.hid hr
  clear hr
  obtain ⟨i0, hi0, hz0, hz1, hz2⟩ := info_parts infoS
  go_enter Try.func29, Try.ntmps29
  go_wp2_with (first
    | (at_builtin
       refine wpList_append_lies _ rfl _ _ 22 rfl base 9 i0 _ 1 16 Try.underlying22 hi0 hz0 hz1 hz2 rfl (by decide) _ _ _ rfl (HR.out.alloc _) ⟨w.heap.size, 0, none⟩ 1 1 [.string q] rfl rfl (cell_one_new _ _ _) (fun x hx => by simp at hx; subst hx; rfl) (by omega) (by unfold maxLen; omega) (by omega) (by simp; omega) _ rfl ?_
       intro g1 cap1 w1 hown1 hgrow1 hat1 hlt1
       (
         have hS1 := (hgrow1.block S (by simp; omega) hneR).trans ((Below.heap_alloc _ _ _ lS).trans hS)
         have p0 : w1.cell? ⟨S, 0, none⟩ = some (.slice a n c) := cell_of_row _ _ _ _ _ _ hS1
         have p1 : w1.cell? ⟨S, 1, none⟩ = some (.int .i64 off) := cell_of_row _ _ _ _ _ _ hS1
         have pf : ∀ o, w1.frozen? ⟨S, o, none⟩ = false := fun o => frozen_of_row _ _ _ _ _ hS1
         have HB1 := Lib.hid (((Below.refl base w).alloc hbw (.cells #[.string q] 9)).grown hgrow1 (by simp; omega) (fun k e => (HR.out.lt k e).1))
         have HO1 := Lib.hid hown1
         have HX1 := Lib.hid (fun (X : Nat) (hx : X < w.heap.size) (ho : (Value.slice a n c).ownBlock ≠ some X) => (⟨(hgrow1.block X (by simp; omega) (fun e => ho e.symm)).trans (Below.heap_alloc _ _ _ hx), by rintro rfl; rcases hat1 with h | h; exact ho h; (simp at h; omega)⟩ : w1.heap[X]? = w.heap[X]? ∧ g1 ≠ X))
         have HS1 := Lib.hid hS1)
       clear hown1 hgrow1 hS1 hat1))
  have s1 := heap_setCell_same w1 S 0 _ _ (.slice (some ⟨g1, 0, none⟩) (n + 1) cap1) HS1.out
  have o1 := row_set_other HO1.out HS1.out (by decide) 0 (.slice (some ⟨g1, 0, none⟩) (n + 1) cap1)
  have bl := HB1.out.setCell (p := ⟨S, 0, none⟩) hb (.slice (some ⟨g1, 0, none⟩) (n + 1) cap1)
  have x1 := fun (X : Nat) (hx : X < w.heap.size) (hs : X ≠ S) (ho : (Value.slice a n c).ownBlock ≠ some X) => (⟨(heap_setCell_other w1 ⟨S, 0, none⟩ X (.slice (some ⟨g1, 0, none⟩) (n + 1) cap1) hs).trans (HX1.out X hx ho).1, (HX1.out X hx ho).2⟩ : (w1.setCell ⟨S, 0, none⟩ (.slice (some ⟨g1, 0, none⟩) (n + 1) cap1)).heap[X]? = w.heap[X]? ∧ g1 ≠ X)
  generalize w1.setCell ⟨S, 0, none⟩ (.slice (some ⟨g1, 0, none⟩) (n + 1) cap1) = w2 at *
  have r0 : w2.cell? ⟨S, 0, none⟩ = some (.slice (some ⟨g1, 0, none⟩) (n + 1) cap1) := cell_of_row _ _ _ _ _ _ s1
  have r1 : w2.cell? ⟨S, 1, none⟩ = some (.int .i64 off) := cell_of_row _ _ _ _ _ _ s1
  have S1 := Lib.hid s1
  have O1 := Lib.hid o1
  have BL := Lib.hid bl
  have X1 := Lib.hid x1
  clear s1 o1 bl x1
  have b1 : IntKind.i64.wrap ((n : Int) + 1 - 1) = (n : Int) := by rw [show (n : Int) + 1 - 1 = (n : Int) by omega]; exact IntWalk.i64_in _ (by omega)
  have b2 : IntKind.i64.wrap ((n : Int) + off) = (n : Int) + off := IntWalk.i64_in _ (by omega)
  go_quiet (fail)
  go_wp2
  go_ret
  have e1 : (ns ++ [q]).length = n + 1 := by simp [HN.out]
  have e2 : vS (ns ++ [q]) = vS ns ++ [.string q] := by simp [vS]
  refine ⟨by first | rfl | (simp; omega), below_drewN BL.out _, some ⟨g1, 0, none⟩, cap1, ⟨hb, ?_, ?_⟩, fun X hx hs ho => ⟨(X1.out X hx hs ho).1, fun e => (X1.out X hx hs ho).2 (by simpa [Value.ownBlock] using e)⟩⟩
  · rw [e1]; exact S1.out
  · rw [e1, e2]; exact O1.out

theorem register_x (S base : Nat) (ns : List ByteArray) (off : Int) (q : ByteArray) (w : World) (a : Option Addr) (c : Nat) (h : Pl w S base ns off a c) (h0 : 0 ≤ off) (h1 : off ≤ 1073741824) (hn : ns.length ≤ 1048576) :
    Calls Try.prog 15 #[.pointer (some ⟨S, 0, none⟩), .string q] w fun e w' => e = .returned (.int .i64 ((ns.length : Int) + off)) ∧ Below base w w' ∧ ∃ a' c', Pl w' S base (ns ++ [q]) off a' c' ∧ ∀ X, X < w.heap.size → X ≠ S → (Value.slice a ns.length c).ownBlock ≠ some X → w'.heap[X]? = w.heap[X]? ∧ (Value.slice a' (ns.length + 1) c').ownBlock ≠ some X := by
  have H := Lib.hid (register0 S base ns off q w a c h h0 h1 hn)
  clear h
  generalize (ns.length : Int) + off = r at *
  go_enter Try.func15, Try.ntmps15
  go_wp2_with fail
  refine H.out.mono ?_; rintro e w1 ⟨rfl, hp⟩
  have HP := Lib.hid hp
  clear hp
  go_wp2
  go_ret
  exact ⟨rfl, HP.out⟩
theorem register_any (S base : Nat) (ns : List ByteArray) (off : Int) (q : ByteArray) (w : World) (h : Pool w S base ns off) (h0 : 0 ≤ off) (h1 : off ≤ 1073741824) (hn : ns.length ≤ 1048576) :
    Calls Try.prog 15 #[.pointer (some ⟨S, 0, none⟩), .string q] w fun e w' => e = .returned (.int .i64 ((ns.length : Int) + off)) ∧ Pool w' S base (ns ++ [q]) off ∧ Below base w w' := by
  obtain ⟨a, c, h⟩ := h
  refine (register_x S base ns off q w a c h h0 h1 hn).mono ?_
  rintro e w1 ⟨h1, h2, a', c', h3, _⟩
  exact ⟨h1, ⟨a', c', h3⟩, h2⟩

/-- A pool that does not hold block X. -/
def PoolX (w : World) (S base : Nat) (ns : List ByteArray) (off : Int) (X : Nat) : Prop := ∃ a c, Pl w S base ns off a c ∧ X ≠ S ∧ (Value.slice a ns.length c).ownBlock ≠ some X
theorem PoolX.pool {w : World} {S base : Nat} {ns : List ByteArray} {off : Int} {X : Nat} (h : PoolX w S base ns off X) : Pool w S base ns off := by
  obtain ⟨a, c, h, _⟩ := h
  exact ⟨a, c, h⟩
theorem PoolX.drewN {w : World} {S base : Nat} {ns : List ByteArray} {off : Int} {X : Nat} (h : PoolX w S base ns off X) (n : Nat) : PoolX (w.drewN n) S base ns off X := by
  obtain ⟨a, c, h, hx⟩ := h
  exact ⟨a, c, ⟨h.hb, h.hS, h.hr⟩, hx⟩
/-- Only block X, and blocks that were not there, have turned. -/
theorem PoolX.other {w w' : World} {S base : Nat} {ns : List ByteArray} {off : Int} {X Y : Nat} (h : PoolX w S base ns off X) (hk : ∀ k, k < w.heap.size → k ≠ X → w'.heap[k]? = w.heap[k]?) (hY : Y = X ∨ w.heap.size ≤ Y) : PoolX w' S base ns off Y := by
  obtain ⟨a, c, h, hx, ho⟩ := h
  have hlt := lt_of_block h.hS
  refine ⟨a, c, ⟨h.hb, (hk S hlt (fun e => hx e.symm)).trans h.hS, row_keep h.hr fun g hg => ?_⟩, ?_, ?_⟩
  · obtain ⟨cur, hh⟩ := row_type h.hr hg
    exact hk g (lt_of_block hh) (fun e => by subst e; exact ho hg)
  · rcases hY with rfl | hY
    · exact hx
    · omega
  · rcases hY with rfl | hY
    · exact ho
    · intro e
      obtain ⟨cur, hh⟩ := row_type h.hr e
      have := lt_of_block hh
      omega
theorem PoolX.new {w : World} {S base : Nat} {ns : List ByteArray} {off : Int} {X : Nat} (h : Pool w S base ns off) (hX : w.heap.size ≤ X) : PoolX w S base ns off X := by
  obtain ⟨a, c, h⟩ := h
  have hlt := lt_of_block h.hS
  refine ⟨a, c, h, by omega, fun e => ?_⟩
  obtain ⟨cur, hh⟩ := row_type h.hr e
  have := lt_of_block hh
  omega
theorem registerX_any (S base : Nat) (ns : List ByteArray) (off : Int) (q : ByteArray) (w : World) (X : Nat) (h : PoolX w S base ns off X) (hX : X < w.heap.size) (h0 : 0 ≤ off) (h1 : off ≤ 1073741824) (hn : ns.length ≤ 1048576) :
    Calls Try.prog 15 #[.pointer (some ⟨S, 0, none⟩), .string q] w fun e w' => e = .returned (.int .i64 ((ns.length : Int) + off)) ∧ PoolX w' S base (ns ++ [q]) off X ∧ Below base w w' ∧ w'.heap[X]? = w.heap[X]? := by
  obtain ⟨a, c, h, hxs, ho⟩ := h
  refine (register_x S base ns off q w a c h h0 h1 hn).mono ?_
  rintro e w1 ⟨h1, h2, a', c', h3, h4⟩
  have h5 := h4 X hX hxs ho
  exact ⟨h1, ⟨a', c', h3, hxs, by rw [List.length_append]; exact h5.2⟩, h2, h5.1⟩

end Go.Proofs.Ytijkbkmbokhbaaa
