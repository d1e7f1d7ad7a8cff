/- The contract of zzCopyU32: nil stays nil; else a fresh row of the same elements. -/
import Derived.Test.YtiihgamhmflphaaFmtRows
import Derived.Test.YtiihgamhmflphaaFmtIn
import Derived.WalkKit
import Derived.WalkSpells
import Derived.WalkLawsBesides
import Derived.Lib.Hide
namespace Go.Proofs.YtiihgamhmflphaaFmt
open Go.RowKit
set_option linter.unusedVariables false

/-- What the copy leaves. -/
def ClonedU32 (l : List Int) (w : World) (e : Ending) (w' : World) : Prop :=
  ∃ v, e = .returned v ∧ Own (Value.int .u32) 39 w.heap.size w' v l ∧ Below w.heap.size w w'

theorem infoU32 : (Tryf.prog.info? 39).map (fun i => (i.zero, i.size, i.bytes)) = some (some (.int .u32 0), 1, 4) := by kernel_rfl

theorem makeU32 (n : Nat) (hn : n * 4 ≤ 281474976710656) (w : World) :
    (Instr.makeSlice 22 (.int .i64 (n : Int)) (.int .i64 (n : Int))).run Tryf.prog w = .ok (.slice (some ⟨w.heap.size, 0, none⟩) n n) (w.alloc (.cells (List.replicate n (.int .u32 0)).toArray 39)) := by
  obtain ⟨i0, hi, hz0, hz1, hz2⟩ := info_parts infoU32
  have h := run_make (P := Tryf.prog) w 22 39 i0 (.int .u32 0) Tryf.underlying22 hi hz0 .i64 .i64 n n (by omega) (by omega) (by rw [hz2]; omega) (by omega)
  rw [hz1, Int.toNat_natCast, Nat.mul_one] at h
  have e : madeCells (Value.cells (.int .u32 0)) n = (List.replicate n (.int .u32 0)).toArray := by
    apply Array.toList_inj.1
    exact toList_madeCells_one _ n
  rw [e] at h
  exact h

set_option maxHeartbeats 1000000 in
theorem cloneU32_any (a : Option Addr) (len cap : Nat) (zs : List Int) (w : World) (h : IsRow .u32 w a len cap zs) (hb : len * 4 ≤ 281474976710656) :
    Calls Tryf.prog 10 #[.slice a len cap] w (ClonedU32 (zs.take len) w) := by
  have hn : len ≤ zs.length := (InRow.len_le h).1
  have hm : len ≤ maxLen := (InRow.len_le h).2
  unfold maxLen at hm
  have hL : (zs.take len).length = len := by simp; omega
  cases a with
  | none =>
    have hz : len = 0 ∧ cap = 0 := by
      rcases h with ⟨_, h1, h2, _⟩ | ⟨x, h0, _⟩
      · exact ⟨h1, h2⟩
      · cases h0
    obtain ⟨rfl, rfl⟩ := hz
    clear h hL hn hm hb
    have he := fun (w : World) (a : Option Addr) (n c : Nat) => Lib.run_eql_slice_nil (P := Tryf.prog) w 22 39 a n c 0 0 Tryf.underlying22
    go_enter Tryf.func10, Tryf.ntmps10
    go_wp2
    go_ret
    exact ⟨_, rfl, .inl ⟨rfl, by simp⟩, Below.refl _ _⟩
  | some x =>
    have hmk := makeU32 len hb
    obtain ⟨l, hl⟩ : ∃ l, l = zs.take len := ⟨_, rfl⟩
    have hlen : l.length = len := by rw [hl]; exact hL
    have hr0 : Array.replicate len (.int .u32 0) = part (Value.int .u32) (.int .u32 0) l 0 := by rw [part_zero, hlen, List.toArray_replicate]
    have HLEN := Lib.hid hlen
    have HL := Lib.hid hl
    have HR0 := Lib.hid hr0
    have he := fun (w : World) (a : Option Addr) (n c : Nat) => Lib.run_eql_slice_nil (P := Tryf.prog) w 22 39 a n c 0 0 Tryf.underlying22
    rcases Nat.eq_zero_or_pos len with h0 | hp
    · subst h0
      have hmk0 : ∀ w : World, (Instr.makeSlice 22 (.int .i64 0) (.int .i64 0)).run Tryf.prog w = .ok (.slice (some ⟨w.heap.size, 0, none⟩) 0 0) (w.alloc (.cells #[] 39)) := fun w => makeU32 0 (by omega) w
      clear h hlen hl hL hn hr0 hb hm hmk
      go_enter Tryf.func10, Tryf.ntmps10
      go_wp2
      go_loopw [4] (fun i wr => i = .int .i64 0 ∧ wr.heap[w.heap.size]? = some (.cells (part (Value.int .u32) (.int .u32 0) l 0) 39 (0, 0)) ∧ Below w.heap.size w wr) (fun _ _ => 0)
      case atStart => exact ⟨rfl, by rw [← HR0.out]; exact heap_alloc_new w (.cells #[] 39), (Below.refl _ _).alloc (Nat.le_refl _) _⟩
      case round =>
        obtain ⟨rfl, hg, hbl⟩ := hrel
        have HG := Lib.hid hg
        clear hg
        go_wp2
        go_ret
        refine ⟨_, rfl, .inr ⟨w.heap.size, ?_, Nat.le_refl _, ?_⟩, hbl⟩
        · rw [← HL.out, HLEN.out]; rfl
        · rw [← HL.out, HG.out, ← part_all (Value.int .u32) (.int .u32 0) l, HLEN.out]
    · obtain ⟨b, off, ex, hc⟩ := InRow.cells h hp
      cases ex
      have hlt : b < w.heap.size := World.block_lt_of_cell? w _ (hc 0 hp)
      have hcell : ∀ k, k < len → w.cell? ⟨b, off + k, none⟩ = some ((Value.int .u32) (l.getD k 0)) := fun k hk => by rw [hc k hk, hl, getD_take _ _ _ _ hk]
      have HC := Lib.hid hcell
      clear h hlen hl hL hn hr0 hb hc hcell
      go_enter Tryf.func10, Tryf.ntmps10
      go_wp2
      go_loopw [4] (fun i wr => ∃ k : Nat, k ≤ len ∧ i = .int .i64 k ∧ wr.heap[w.heap.size]? = some (.cells (part (Value.int .u32) (.int .u32 0) l k) 39 (0, 0)) ∧ Below w.heap.size w wr) (fun i _ => len - (intOf i).toNat)
      case atStart => exact ⟨0, by omega, rfl, by rw [← HR0.out]; exact heap_alloc_new w _, (Below.refl _ _).alloc (Nat.le_refl _) _⟩
      case round =>
        obtain ⟨k, hk, rfl, hg, hbl⟩ := hrel
        by_cases hkl : k < len
        · have c1 : wr.cell? ⟨b, off + k, none⟩ = some ((Value.int .u32) (l.getD k 0)) := (hbl.cell (p := ⟨b, off + k, none⟩) hlt).trans (HC.out k hkl)
          have c2 : ∃ v, wr.cell? ⟨w.heap.size, k, none⟩ = some v := by
            rw [cell_of_row _ _ _ _ _ _ hg]
            exact ⟨_, Array.getElem?_eq_getElem (by rw [part_size _ _ _ (by rw [HLEN.out]; omega), HLEN.out]; exact hkl)⟩
          obtain ⟨v, c2⟩ := c2
          have c3 : wr.frozen? ⟨w.heap.size, k, none⟩ = false := frozen_of_row _ _ _ _ _ hg
          have hset := heap_setCell_same wr w.heap.size k _ _ ((Value.int .u32) (l.getD k 0)) hg
          rw [part_set _ _ _ _ (by rw [HLEN.out]; exact hkl)] at hset
          have HSET := Lib.hid hset
          have HB := Lib.hid (hbl.setCell (p := ⟨w.heap.size, k, none⟩) (Nat.le_refl _) ((Value.int .u32) (l.getD k 0)))
          clear hg hset
          generalize l.getD k 0 = u at *
          go_wp2
          go_roundw
          case rel => exact ⟨k + 1, by omega, by go_num, HSET.out, HB.out⟩
          case measure => simp [intOf]; omega
        · have hkk : k = len := by omega
          subst hkk
          have HG := Lib.hid hg
          clear hg
          go_wp2
          go_ret
          refine ⟨_, rfl, .inr ⟨w.heap.size, ?_, Nat.le_refl _, ?_⟩, hbl⟩
          · rw [← HL.out, HLEN.out]; rfl
          · rw [← HL.out, HG.out, ← part_all (Value.int .u32) (.int .u32 0) l, HLEN.out]

end Go.Proofs.YtiihgamhmflphaaFmt
