/- The contract of codeStore.Add where the counter stands at the end: both rows grow. -/
import Derived.Test.YtnpljmcmpeaafaaCode106
namespace Go.Proofs.Ytnpljmcmpeaafaa
open Go.RowKit
set_option linter.unusedVariables false

theorem infoU : (Try.prog.info? 24).map (fun i => (i.zero, i.size, i.bytes)) = some (some (.int .u32 0), 1, 4) := by kernel_rfl
theorem infoI : (Try.prog.info? 3).map (fun i => (i.zero, i.size, i.bytes)) = some (some (.int .i64 0), 1, 8) := by kernel_rfl

theorem row_set_other {w : World} {base : Nat} {T : TypeId} {v : Value} {n : Nat} {xs : List Value} {S : Nat} {c : Array Value} {T' : TypeId} {z : Nat × Nat} (h : w.ownsRow base T 1 v n xs) (hS : w.heap[S]? = some (.cells c T' z)) (hne : T ≠ T') (o : Nat) (u : Value) : (w.setCell ⟨S, o, none⟩ u).ownsRow base T 1 v n xs :=
  row_keep h fun g hg => by
    obtain ⟨cur, hh⟩ := row_type h hg
    exact heap_setCell_other _ _ _ _ (type_ne hh hS hne)

theorem rows_apart {w : World} {base : Nat} {T T' : TypeId} {v v' : Value} {n n' : Nat} {xs xs' : List Value} (h : w.ownsRow base T 1 v n xs) (h' : w.ownsRow base T' 1 v' n' xs') (hne : T ≠ T') : v.ownBlock = none ∨ v.ownBlock ≠ v'.ownBlock := by
  cases hq : v.ownBlock with
  | none => exact .inl rfl
  | some k =>
    refine .inr fun e => ?_
    obtain ⟨cur, hh⟩ := row_type h hq
    obtain ⟨cur', hh'⟩ := row_type h' e.symm
    exact type_ne hh hh' hne rfl

theorem cell_new_set (w : World) (p : Addr) (u x : Value) (T : TypeId) : ∀ j v, [x][j]? = some v → ((w.setCell p u).alloc (.cells #[x] T)).cell? ((⟨w.heap.size, 0, none⟩ : Addr).add j) = some v := by
  have h := cell_one_new (w.setCell p u) x T
  have e : (w.setCell p u).heap.size = w.heap.size := by simp
  rw [e] at h
  exact h

theorem cs_of {w : World} {S base n : Nat} {cs ls : List Int} {g1 cap1 g2 cap2 : Nat} {inst line : Int} {la : Option Addr} {lc : Nat} (hb : base ≤ S)
    (hS : w.heap[S]? = some (.cells (#[.slice (some ⟨g1, 0, none⟩) (n + 1) cap1, .slice la n lc, .int .i64 (n : Int)]) 52 (0, 0)))
    (hc : w.ownsRow base 24 1 (.slice (some ⟨g1, 0, none⟩) (n + 1) cap1) (n + 1) (vC cs ++ [.int .u32 inst]))
    (hl : w.ownsRow base 3 1 (.slice (some ⟨g2, 0, none⟩) (n + 1) cap2) (n + 1) (vL ls ++ [.int .i64 line])) (h1 : cs.length = n) (h2 : ls.length = n) :
    Cs ((w.setCell ⟨S, 1, none⟩ (.slice (some ⟨g2, 0, none⟩) (n + 1) cap2)).setCell ⟨S, 2, none⟩ (.int .i64 ((n : Int) + 1))) S base (cs ++ [inst]) (ls ++ [line]) (n + 1) (some ⟨g1, 0, none⟩) cap1 (some ⟨g2, 0, none⟩) cap2 := by
  have e1 : (cs ++ [inst]).length = n + 1 := by simp [h1]
  have e2 : (ls ++ [line]).length = n + 1 := by simp [h2]
  have e3 : vC (cs ++ [inst]) = vC cs ++ [.int .u32 inst] := by simp [vC]
  have e4 : vL (ls ++ [line]) = vL ls ++ [.int .i64 line] := by simp [vL]
  have s1 := heap_setCell_same w S 1 _ _ (.slice (some ⟨g2, 0, none⟩) (n + 1) cap2) hS
  have s2 := heap_setCell_same _ S 2 _ _ (.int .i64 ((n : Int) + 1)) s1
  refine ⟨hb, ?_, ?_, ?_⟩
  · rw [e1, e2, s2]
    rfl
  · rw [e1, e3]
    exact row_set_other (row_set_other hc hS (by decide) _ _) s1 (by decide) _ _
  · rw [e2, e4]
    exact row_set_other (row_set_other hl hS (by decide) _ _) s1 (by decide) _ _

set_option maxHeartbeats 1000000 in
theorem add_app (S base n : Nat) (cs ls : List Int) (ca : Option Addr) (cc : Nat) (la : Option Addr) (lc : Nat) (inst line : Int) (w : World)
    (h : Cs w S base cs ls n ca cc la lc) (hn1 : cs.length = n) (hn2 : ls.length = n) (hn : n ≤ 131072) :
    Calls Try.prog 15 #[.pointer (some ⟨S, 0, none⟩), .int .u32 inst, .int .i64 line] w fun e w' => e = .returned (.tuple #[]) ∧
      (∃ ca' cc' la' lc', Cs w' S base (cs ++ [inst]) (ls ++ [line]) (n + 1) ca' cc' la' lc') ∧ Below base w w' := by
  have h0 := h.c0
  have h1 := h.c1
  have h2 := h.c2
  have hc := h.hc
  have hl := h.hl
  have hS := h.hS
  have hb := h.hb
  rw [hn1] at h0 hc hS
  rw [hn2] at h1 hl hS
  have lS := lt_of_block hS
  have hbw : base ≤ w.heap.size := by omega
  have f0 : ∀ o, w.frozen? ⟨S, o, none⟩ = false := fun o => frozen_of_row _ _ _ _ _ hS
  have hneC : some S ≠ (Value.slice ca n cc).ownBlock := fun e => by
    obtain ⟨cur, hh⟩ := row_type hc e.symm
    exact type_ne hh hS (by decide) rfl
  have hneL : some S ≠ (Value.slice la n lc).ownBlock := fun e => by
    obtain ⟨cur, hh⟩ := row_type hl e.symm
    exact type_ne hh hS (by decide) rfl
  have hneLC : (Value.slice la n lc).ownBlock = none ∨ (Value.slice la n lc).ownBlock ≠ (Value.slice ca n cc).ownBlock := by
    cases hq : (Value.slice la n lc).ownBlock with
    | none => exact .inl rfl
    | some k =>
      refine .inr fun e => ?_
      obtain ⟨cur, hh⟩ := row_type hl hq
      obtain ⟨cur', hh'⟩ := row_type hc e.symm
      exact type_ne hh hh' (by decide) rfl
  have HC := Lib.hid hc
  have HL := Lib.hid hl
  have HN1 := Lib.hid hn1
  have HN2 := Lib.hid hn2
  clear h hc hl hn1 hn2
  have b1 : (0 : Int) ≤ (n : Int) := by omega
  obtain ⟨i0, hi0, hz0, hz1, hz2⟩ := info_parts infoU
  obtain ⟨j0, hj0, hy0, hy1, hy2⟩ := info_parts infoI
  rcases Nat.eq_zero_or_pos n with hz | hp
  · subst hz
    go_enter Try.func15, Try.ntmps15
    go_wp2_with (first
      | (at_builtin
         (refine wpList_append_lies _ rfl _ _ 22 rfl base 24 i0 _ 1 4 Try.underlying22 hi0 hz0 hz1 hz2 rfl (by decide) _ _ _ rfl (HC.out.alloc _) ⟨w.heap.size, 0, none⟩ 1 1 [.int .u32 inst] rfl rfl (cell_one_new _ _ _) (fun x hx => by simp at hx; subst hx; rfl) (by omega) (by unfold maxLen; omega) (by omega) (by simp; omega) _ rfl ?_)
         intro g1 cap1 w1 hown1 hgrow1 hat1 hlt1
         (
           have p0 := hgrow1.cell ((World.cell?_alloc_lt _ _ _ lS).trans h0) hneC
           have p1 := hgrow1.cell ((World.cell?_alloc_lt _ _ _ lS).trans h1) hneC
           have p2 := hgrow1.cell ((World.cell?_alloc_lt _ _ _ lS).trans h2) hneC
           have hS1 := (hgrow1.block S (by simp; omega) hneC).trans ((Below.heap_alloc _ _ _ lS).trans hS)
           have pf : ∀ o, w1.frozen? ⟨S, o, none⟩ = false := fun o => frozen_of_row _ _ _ _ _ hS1
           have HB1 := Lib.hid (((Below.refl base w).alloc hbw (.cells #[.int .u32 inst] 24)).grown hgrow1 (by simp; omega) (fun k e => (HC.out.lt k e).1))
           have HO1 := Lib.hid hown1
           have HS1 := Lib.hid hS1
           have HL2 := Lib.hid (row_set_other ((HL.out.alloc (.cells #[.int .u32 inst] 24)).kept hgrow1 hneLC) hS1 (by decide) 0 (.slice (some ⟨g1, 0, none⟩) (0 + 1) cap1))
           have HO2 := Lib.hid (row_set_other hown1 hS1 (by decide) 0 (.slice (some ⟨g1, 0, none⟩) (0 + 1) cap1))
           have HS2 := Lib.hid (heap_setCell_same w1 S 0 _ _ (.slice (some ⟨g1, 0, none⟩) (0 + 1) cap1) hS1)
           have HNW := Lib.hid (cell_new_set w1 ⟨S, 0, none⟩ (.slice (some ⟨g1, 0, none⟩) (0 + 1) cap1) (.int .i64 line) 3)
           have HA1 := Lib.hid hat1
           have lS1 : S < w1.heap.size := lt_of_block hS1)
         clear hown1 hgrow1 hS1 hat1)
      | (at_builtin
         (refine wpList_append_lies _ rfl _ _ 23 rfl base 3 j0 _ 1 8 Try.underlying23 hj0 hy0 hy1 hy2 rfl (by decide) _ _ _ rfl (HL2.out.alloc _) ⟨w1.heap.size, 0, none⟩ 1 1 [.int .i64 line] rfl rfl HNW.out (fun x hx => by simp at hx; subst hx; rfl) (by omega) (by unfold maxLen; omega) (by omega) (by simp; omega) _ rfl ?_)
         intro g2 cap2 w3 hown3 hgrow3 hat3 hlt3
         (
           have hS3 := (hgrow3.block S (by simp; omega) hneL).trans ((Below.heap_alloc _ _ _ (by simp; omega)).trans HS2.out)
           have q0 : w3.cell? ⟨S, 0, none⟩ = some (.slice (some ⟨g1, 0, none⟩) (0 + 1) cap1) := cell_of_row _ _ _ _ _ _ hS3
           have q1 : w3.cell? ⟨S, 1, none⟩ = some (.slice la 0 lc) := cell_of_row _ _ _ _ _ _ hS3
           have q2 : w3.cell? ⟨S, 2, none⟩ = some (.int .i64 (0 : Nat)) := cell_of_row _ _ _ _ _ _ hS3
           have qf : ∀ o, w3.frozen? ⟨S, o, none⟩ = false := fun o => frozen_of_row _ _ _ _ _ hS3
           have HC3 := Lib.hid ((HO2.out.alloc (.cells #[.int .i64 line] 3)).kept hgrow3 (rows_apart (HO2.out.alloc (.cells #[.int .i64 line] 3)) (HL2.out.alloc (.cells #[.int .i64 line] 3)) (by decide)))
           have HB3 := Lib.hid (((HB1.out.setCell (p := ⟨S, 0, none⟩) hb (.slice (some ⟨g1, 0, none⟩) (0 + 1) cap1)).alloc (by simp; omega) (.cells #[.int .i64 line] 3)).grown hgrow3 (by simp; omega) (fun k e => (HL2.out.lt k e).1))
           have HL3 := Lib.hid hown3
           have HS3 := Lib.hid hS3)
         clear hown3 hgrow3 hS3 hat3))
    go_end0
    exact ⟨rfl, ⟨_, _, _, _, cs_of hb HS3.out HC3.out HL3.out HN1.out HN2.out⟩, (HB3.out.setCell (p := ⟨S, 1, none⟩) hb _).setCell (p := ⟨S, 2, none⟩) hb _⟩
  · have b3 : ¬ ((n : Int) ≤ 0) := by omega
    go_enter Try.func15, Try.ntmps15
    go_wp2_with (first
      | (at_builtin
         (refine wpList_append_lies _ rfl _ _ 22 rfl base 24 i0 _ 1 4 Try.underlying22 hi0 hz0 hz1 hz2 rfl (by decide) _ _ _ rfl (HC.out.alloc _) ⟨w.heap.size, 0, none⟩ 1 1 [.int .u32 inst] rfl rfl (cell_one_new _ _ _) (fun x hx => by simp at hx; subst hx; rfl) (by omega) (by unfold maxLen; omega) (by omega) (by simp; omega) _ rfl ?_)
         intro g1 cap1 w1 hown1 hgrow1 hat1 hlt1
         (
           have p0 := hgrow1.cell ((World.cell?_alloc_lt _ _ _ lS).trans h0) hneC
           have p1 := hgrow1.cell ((World.cell?_alloc_lt _ _ _ lS).trans h1) hneC
           have p2 := hgrow1.cell ((World.cell?_alloc_lt _ _ _ lS).trans h2) hneC
           have hS1 := (hgrow1.block S (by simp; omega) hneC).trans ((Below.heap_alloc _ _ _ lS).trans hS)
           have pf : ∀ o, w1.frozen? ⟨S, o, none⟩ = false := fun o => frozen_of_row _ _ _ _ _ hS1
           have HB1 := Lib.hid (((Below.refl base w).alloc hbw (.cells #[.int .u32 inst] 24)).grown hgrow1 (by simp; omega) (fun k e => (HC.out.lt k e).1))
           have HO1 := Lib.hid hown1
           have HS1 := Lib.hid hS1
           have HL2 := Lib.hid (row_set_other ((HL.out.alloc (.cells #[.int .u32 inst] 24)).kept hgrow1 hneLC) hS1 (by decide) 0 (.slice (some ⟨g1, 0, none⟩) (n + 1) cap1))
           have HO2 := Lib.hid (row_set_other hown1 hS1 (by decide) 0 (.slice (some ⟨g1, 0, none⟩) (n + 1) cap1))
           have HS2 := Lib.hid (heap_setCell_same w1 S 0 _ _ (.slice (some ⟨g1, 0, none⟩) (n + 1) cap1) hS1)
           have HNW := Lib.hid (cell_new_set w1 ⟨S, 0, none⟩ (.slice (some ⟨g1, 0, none⟩) (n + 1) cap1) (.int .i64 line) 3)
           have HA1 := Lib.hid hat1
           have lS1 : S < w1.heap.size := lt_of_block hS1)
         clear hown1 hgrow1 hS1 hat1)
      | (at_builtin
         (refine wpList_append_lies _ rfl _ _ 23 rfl base 3 j0 _ 1 8 Try.underlying23 hj0 hy0 hy1 hy2 rfl (by decide) _ _ _ rfl (HL2.out.alloc _) ⟨w1.heap.size, 0, none⟩ 1 1 [.int .i64 line] rfl rfl HNW.out (fun x hx => by simp at hx; subst hx; rfl) (by omega) (by unfold maxLen; omega) (by omega) (by simp; omega) _ rfl ?_)
         intro g2 cap2 w3 hown3 hgrow3 hat3 hlt3
         (
           have hS3 := (hgrow3.block S (by simp; omega) hneL).trans ((Below.heap_alloc _ _ _ (by simp; omega)).trans HS2.out)
           have q0 : w3.cell? ⟨S, 0, none⟩ = some (.slice (some ⟨g1, 0, none⟩) (n + 1) cap1) := cell_of_row _ _ _ _ _ _ hS3
           have q1 : w3.cell? ⟨S, 1, none⟩ = some (.slice la n lc) := cell_of_row _ _ _ _ _ _ hS3
           have q2 : w3.cell? ⟨S, 2, none⟩ = some (.int .i64 (n : Nat)) := cell_of_row _ _ _ _ _ _ hS3
           have qf : ∀ o, w3.frozen? ⟨S, o, none⟩ = false := fun o => frozen_of_row _ _ _ _ _ hS3
           have HC3 := Lib.hid ((HO2.out.alloc (.cells #[.int .i64 line] 3)).kept hgrow3 (rows_apart (HO2.out.alloc (.cells #[.int .i64 line] 3)) (HL2.out.alloc (.cells #[.int .i64 line] 3)) (by decide)))
           have HB3 := Lib.hid (((HB1.out.setCell (p := ⟨S, 0, none⟩) hb (.slice (some ⟨g1, 0, none⟩) (n + 1) cap1)).alloc (by simp; omega) (.cells #[.int .i64 line] 3)).grown hgrow3 (by simp; omega) (fun k e => (HL2.out.lt k e).1))
           have HL3 := Lib.hid hown3
           have HS3 := Lib.hid hS3)
         clear hown3 hgrow3 hS3 hat3))
    go_end0
    exact ⟨rfl, ⟨_, _, _, _, cs_of hb HS3.out HC3.out HL3.out HN1.out HN2.out⟩, (HB3.out.setCell (p := ⟨S, 1, none⟩) hb _).setCell (p := ⟨S, 2, none⟩) hb _⟩

end Go.Proofs.Ytnpljmcmpeaafaa
