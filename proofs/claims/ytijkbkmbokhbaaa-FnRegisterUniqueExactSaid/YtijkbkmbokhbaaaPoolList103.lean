/- The contract of List: a fresh row of the pairs index and name. -/
import Derived.Test.YtijkbkmbokhbaaaPoolFind103
namespace Go.Proofs.Ytijkbkmbokhbaaa
open Go.RowKit
set_option linter.unusedVariables false

theorem infoV : (Try.prog.info? 34).map (fun i => (i.zero, i.size, i.bytes)) = some (some (.agg #[.int .i64 0, .string ByteArray.empty]), 2, 24) := by kernel_rfl

theorem makeV (n : Nat) (hn : n ≤ 1048576) (w : World) :
    (Instr.makeSlice 31 (.int .i64 (n : Int)) (.int .i64 (n : Int))).run Try.prog w = .ok (.slice (some ⟨w.heap.size, 0, none⟩) n n) (w.alloc (.cells (madeCells #[.int .i64 0, .string ByteArray.empty] (n * 2)) 34)) := by
  obtain ⟨i0, hi, hz0, hz1, hz2⟩ := info_parts infoV
  have h := run_make (P := Try.prog) w 31 34 i0 (.agg #[.int .i64 0, .string ByteArray.empty]) Try.underlying31 hi hz0 .i64 .i64 n n (by omega) (by omega) (by rw [hz2]; omega) (by omega)
  rw [hz1, Int.toNat_natCast] at h
  exact h

/-- A row of n pairs in block G. -/
structure Pairs (w : World) (G n : Nat) (arr : Array Value) : Prop where
  h : w.heap[G]? = some (.cells arr 34 (0, 0))
  size : arr.size = n * 2
/-- Pair k reads (x, s). -/
def Pr (arr : Array Value) (k : Nat) (x : Int) (s : ByteArray) : Prop := arr[k * 2]? = some (.int .i64 x) ∧ arr[k * 2 + 1]? = some (.string s)

theorem Pairs.store {w : World} {G n : Nat} {arr : Array Value} (h : Pairs w G n arr) (k : Nat) (x : Int) (s : ByteArray) (hk : k < n) :
    Pairs ((w.setCell ⟨G, k * 2, none⟩ (.int .i64 x)).setCell ⟨G, k * 2 + 1, none⟩ (.string s)) G n ((arr.setIfInBounds (k * 2) (.int .i64 x)).setIfInBounds (k * 2 + 1) (.string s)) ∧
    Pr ((arr.setIfInBounds (k * 2) (.int .i64 x)).setIfInBounds (k * 2 + 1) (.string s)) k x s ∧
    ∀ j x' s', j ≠ k → Pr arr j x' s' → Pr ((arr.setIfInBounds (k * 2) (.int .i64 x)).setIfInBounds (k * 2 + 1) (.string s)) j x' s' := by
  have hs := h.size
  refine ⟨⟨heap_setCell_same _ _ _ _ _ _ (heap_setCell_same _ _ _ _ _ _ h.h), by simpa using hs⟩, ⟨?_, ?_⟩, fun j x' s' hj hp => ⟨?_, ?_⟩⟩
  · rw [Array.getElem?_setIfInBounds_ne (by omega), Array.getElem?_setIfInBounds_self_of_lt (by omega)]
  · rw [Array.getElem?_setIfInBounds_self_of_lt (by simp only [Array.size_setIfInBounds]; omega)]
  · rw [Array.getElem?_setIfInBounds_ne (by omega), Array.getElem?_setIfInBounds_ne (by omega)]; exact hp.1
  · rw [Array.getElem?_setIfInBounds_ne (by omega), Array.getElem?_setIfInBounds_ne (by omega)]; exact hp.2
theorem Pairs.c {w : World} {G n : Nat} {arr : Array Value} (h : Pairs w G n arr) {k : Nat} (hk : k < n) : (∃ v, w.cell? ⟨G, k * 2, none⟩ = some v) ∧ (∃ v, w.cell? ⟨G, k * 2 + 1, none⟩ = some v) := by
  rw [cell_of_row _ _ _ _ _ _ h.h, cell_of_row _ _ _ _ _ _ h.h]
  exact ⟨⟨_, Array.getElem?_eq_getElem (by rw [h.size]; omega)⟩, ⟨_, Array.getElem?_eq_getElem (by rw [h.size]; omega)⟩⟩

set_option maxHeartbeats 1000000 in
theorem list0 (S base : Nat) (ns : List ByteArray) (off : Int) (w : World) (h : Pool w S base ns off) (h0 : 0 ≤ off) (h1 : off ≤ 1073741824) (hn : ns.length ≤ 1048576) :
    Calls Try.prog 32 #[.pointer (some ⟨S, 0, none⟩)] w fun e w' => ∃ G arr, e = .returned (.slice (some ⟨G, 0, none⟩) ns.length ns.length) ∧ w.heap.size ≤ G ∧ Pairs w' G ns.length arr ∧ (∀ i, i < ns.length → Pr arr i (off + (i : Int)) (ns.getD i ByteArray.empty)) ∧ Below w.heap.size w w' := by
  obtain ⟨a, c, h⟩ := h
  have H := Lib.hid h
  obtain ⟨n, hN⟩ : ∃ n, n = ns.length := ⟨_, rfl⟩
  have HN := Lib.hid hN
  have c0 := h.c0
  have c1 := h.c1
  rw [← hN] at c0 hn
  rw [← hN]
  have lS := lt_of_block h.hS
  have hmk := makeV n hn
  clear h hN
  go_enter Try.func32, Try.ntmps32
  go_wp2
  go_region
  have hpr : Pairs (w.alloc (.cells (madeCells #[.int .i64 0, .string ByteArray.empty] (n * 2)) 34)).drew w.heap.size n (madeCells #[.int .i64 0, .string ByteArray.empty] (n * 2)) := ⟨heap_alloc_new _ _, size_madeCells _ _⟩
  have hbl : Below w.heap.size w (w.alloc (.cells (madeCells #[.int .i64 0, .string ByteArray.empty] (n * 2)) 34)).drew := ((Below.refl _ _).alloc (Nat.le_refl _) _).drew
  generalize (w.alloc (.cells (madeCells #[.int .i64 0, .string ByteArray.empty] (n * 2)) 34)).drew = w1 at *
  generalize madeCells #[.int .i64 0, .string ByteArray.empty] (n * 2) = arr0 at *
  obtain ⟨G, hG⟩ : ∃ G, G = w.heap.size := ⟨_, rfl⟩
  rw [← hG] at hpr lS
  rw [← hG]
  have d0 : w1.cell? ⟨S, 0, none⟩ = some (.slice a n c) := (hbl.cell (p := ⟨S, 0, none⟩) (by rw [← hG]; exact lS)).trans c0
  have PR := Lib.hid hpr
  have BL := Lib.hid hbl
  have HG := Lib.hid hG
  clear hpr hbl hG hmk
  go_wp2_with fail
  go_loopw [22] (fun i wr => ∃ (k : Nat) (arr : Array Value), k ≤ n ∧ i = .int .i64 k ∧ Pairs wr G n arr ∧ (∀ j, j < k → Pr arr j (off + (j : Int)) (ns.getD j ByteArray.empty)) ∧ Below w.heap.size w wr) (fun i _ => n - (intOf i).toNat)
  case atStart => exact ⟨0, arr0, by omega, rfl, PR.out, fun j hj => absurd hj (by omega), BL.out⟩
  case round =>
    obtain ⟨k, arr, hk, rfl, hp, hall, hb⟩ := hrel
    have HP := Lib.hid hp
    have HALL := Lib.hid hall
    have HB := Lib.hid hb
    clear hall
    by_cases hkl : k < n
    · obtain ⟨g, ea, hc⟩ := H.out.name (i := k) (by rw [← HN.out]; exact hkl)
      subst ea
      have lg : g < w.heap.size := World.block_lt_of_cell? w _ hc
      have e1 : wr.cell? ⟨g, k, none⟩ = some (.string (ns.getD k ByteArray.empty)) := (hb.cell (p := ⟨g, k, none⟩) lg).trans hc
      have e2 : wr.cell? ⟨S, 1, none⟩ = some (.int .i64 off) := (hb.cell (p := ⟨S, 1, none⟩) (by rw [← HG.out]; exact lS)).trans c1
      obtain ⟨⟨v0, e3⟩, ⟨v1, e4⟩⟩ := hp.c hkl
      have e5 : ∀ o, wr.frozen? ⟨G, o, none⟩ = false := fun o => frozen_of_row _ _ _ _ _ hp.h
      have nGS : ¬ (G = S) := by omega
      have nGg : ¬ (G = g) := by have := HG.out; omega
      have nSG : ¬ (S = G) := by omega
      have ngG : ¬ (g = G) := by have := HG.out; omega
      generalize hs : ns.getD k ByteArray.empty = s at *
      have HS := Lib.hid hs
      have b1 : (0 : Int) ≤ (k : Int) := by omega
      have b2 : (k : Int) < (n : Int) := by omega
      clear hp hb hc hs
      go_wp2
      go_roundw
      case rel =>
        have st := HP.out.store k ((k : Int) + off) s hkl
        refine ⟨k + 1, _, by omega, by go_num, st.1, fun j hj => ?_, (HB.out.setCell (p := ⟨G, k * 2, none⟩) (by have := HG.out; simp; omega) _).setCell (p := ⟨G, k * 2 + 1, none⟩) (by have := HG.out; simp; omega) _⟩
        by_cases e : j = k
        · subst e
          rw [HS.out]
          exact (show ∀ x : Int, x = (j : Int) + off → Pr _ j x s from fun x e => by rw [e]; exact st.2.1) _ (Int.add_comm _ _)
        · exact st.2.2 j _ _ e (HALL.out j (by omega))
      case measure => simp [intOf]; omega
    · have hkk : k = n := by omega
      subst hkk
      clear hp hb
      go_wp2
      go_ret
      exact ⟨G, arr, rfl, by have := HG.out; omega, HP.out, HALL.out, HB.out⟩

theorem list_any (S base : Nat) (ns : List ByteArray) (off : Int) (w : World) (h : Pool w S base ns off) (h0 : 0 ≤ off) (h1 : off ≤ 1073741824) (hn : ns.length ≤ 1048576) :
    Calls Try.prog 21 #[.pointer (some ⟨S, 0, none⟩)] w fun e w' => ∃ G arr, e = .returned (.slice (some ⟨G, 0, none⟩) ns.length ns.length) ∧ w.heap.size ≤ G ∧ Pairs w' G ns.length arr ∧ (∀ i, i < ns.length → Pr arr i (off + (i : Int)) (ns.getD i ByteArray.empty)) ∧ Below w.heap.size w w' := by
  have H := Lib.hid (list0 S base ns off w h h0 h1 hn)
  clear h
  go_enter Try.func21, Try.ntmps21
  go_wp2_with fail
  refine H.out.mono ?_; rintro e w1 ⟨G, arr, rfl, hg, hp⟩
  have HP := Lib.hid hp
  clear hp
  go_wp2
  go_ret
  exact ⟨G, arr, rfl, hg, HP.out⟩

theorem Pairs.p0 {w : World} {G n : Nat} {arr : Array Value} (h : Pairs w G n arr) {k : Nat} {x : Int} {s : ByteArray} (hp : Pr arr k x s) : w.cell? ⟨G, k * 2, none⟩ = some (.int .i64 x) := by
  rw [cell_of_row _ _ _ _ _ _ h.h]; exact hp.1
theorem Pairs.p1 {w : World} {G n : Nat} {arr : Array Value} (h : Pairs w G n arr) {k : Nat} {x : Int} {s : ByteArray} (hp : Pr arr k x s) : w.cell? ⟨G, k * 2 + 1, none⟩ = some (.string s) := by
  rw [cell_of_row _ _ _ _ _ _ h.h]; exact hp.2
theorem Pairs.below {w w' : World} {G n : Nat} {arr : Array Value} (h : Pairs w G n arr) {B : Nat} (hB : w.heap.size ≤ B) (hb : Below B w w') : Pairs w' G n arr :=
  ⟨(hb.block G (Nat.lt_of_lt_of_le (lt_of_block h.h) hB)).trans h.h, h.size⟩

end Go.Proofs.Ytijkbkmbokhbaaa
