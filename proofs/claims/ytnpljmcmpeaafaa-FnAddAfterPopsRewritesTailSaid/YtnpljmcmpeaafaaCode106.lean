/- A code store in memory: block S holds its three fields; its two rows are the call's own. -/
import Derived.Test.YtnpljmcmpeaafaaRows
import Derived.Test.YtnpljmcmpeaafaaKeep
import Derived.Test.YtnpljmcmpeaafaaIn
import Derived.Test.YtnpljmcmpeaafaaFields
import Derived.WalkKit
import Derived.WalkSpells
import Derived.WalkLawsBesides
import Derived.Lib.Hide
import Derived.Deep.QuietTactic
import Derived.BigQuiet
import Derived.StillTailTactics
import Derived.BigRegion
import Derived.Maps.AppendAt
import Derived.Deep.AppendLies
import Derived.Deep.RegionLaw
import Derived.RegionTactic
namespace Go.Proofs.Ytnpljmcmpeaafaa
open Go.RowKit
set_option linter.unusedVariables false

abbrev vC (l : List Int) : List Value := l.map (Value.int .u32)
abbrev vL (l : List Int) : List Value := l.map (Value.int .i64)

structure Cs (w : World) (S base : Nat) (cs ls : List Int) (pc : Nat) (ca : Option Addr) (cc : Nat) (la : Option Addr) (lc : Nat) : Prop where
  hb : base ≤ S
  hS : w.heap[S]? = some (.cells #[.slice ca cs.length cc, .slice la ls.length lc, .int .i64 pc] 52 (0, 0))
  hc : w.ownsRow base 24 1 (.slice ca cs.length cc) cs.length (vC cs)
  hl : w.ownsRow base 3 1 (.slice la ls.length lc) ls.length (vL ls)

/-- A row's cells. -/
theorem row_cell {w : World} {base : Nat} {T : TypeId} {V : Int → Value} {a : Option Addr} {c : Nat} {l : List Int} (h : w.ownsRow base T 1 (.slice a l.length c) l.length (l.map V)) {i : Nat} (hi : i < l.length) :
    ∃ g cur, a = some ⟨g, 0, none⟩ ∧ base ≤ g ∧ w.heap[g]? = some (.cells cur T (0, 0)) ∧ cur[i]? = some (V (l.getD i 0)) ∧ l.length ≤ c ∧ cur.size = c ∧ c ≤ maxLen := by
  rcases h.2 with ⟨_, h0⟩ | ⟨g, cap, cur, hv, hb, hg, hle, hm, hs, htk⟩
  · omega
  · injection hv with e1 e2 e3
    subst e1 e3
    refine ⟨g, cur, rfl, hb, hg, ?_, hle, by omega, hm⟩
    have := congrArg (fun x : List Value => x[i]?) htk
    simp only [List.getElem?_take, Nat.mul_one] at this
    rw [if_pos hi] at this
    rw [← Array.getElem?_toList, this]
    simp [List.getD, hi]

theorem row_cap {w : World} {base : Nat} {T : TypeId} {V : Int → Value} {a : Option Addr} {c : Nat} {l : List Int} (h : w.ownsRow base T 1 (.slice a l.length c) l.length (l.map V)) : l.length ≤ c ∧ c ≤ maxLen := by
  rcases h.2 with ⟨hv, h0⟩ | ⟨g, cap, cur, hv, hb, hg, hle, hm, hs, htk⟩
  · injection hv with e1 e2 e3
    subst e3
    exact ⟨by omega, by unfold maxLen; omega⟩
  · injection hv with e1 e2 e3
    subst e3
    exact ⟨hle, hm⟩

/-- A row is kept where its block is kept. -/
theorem row_keep {w w' : World} {base : Nat} {T : TypeId} {v : Value} {n : Nat} {xs : List Value} (h : w.ownsRow base T 1 v n xs) (hk : ∀ g, v.ownBlock = some g → w'.heap[g]? = w.heap[g]?) : w'.ownsRow base T 1 v n xs := by
  refine ⟨h.1, ?_⟩
  rcases h.2 with hn | ⟨g, cap, cur, rfl, hb, hgg, rest⟩
  · exact .inl hn
  · exact .inr ⟨g, cap, cur, rfl, hb, (hk g rfl).trans hgg, rest⟩

/-- The block of a row. -/
theorem row_type {w : World} {base : Nat} {T : TypeId} {v : Value} {n : Nat} {xs : List Value} (h : w.ownsRow base T 1 v n xs) {g : Nat} (hg : v.ownBlock = some g) : ∃ cur, w.heap[g]? = some (.cells cur T (0, 0)) := by
  rcases h.2 with ⟨rfl, _⟩ | ⟨g', cap, cur, rfl, hb, hgg, rest⟩
  · simp [Value.ownBlock] at hg
  · have e : g' = g := by simpa [Value.ownBlock] using hg
    subst e
    exact ⟨cur, hgg⟩

theorem type_ne {w : World} {g k : Nat} {c c' : Array Value} {T T' : TypeId} {z z' : Nat × Nat} (h : w.heap[g]? = some (.cells c T z)) (h' : w.heap[k]? = some (.cells c' T' z')) (hne : T ≠ T') : g ≠ k := by
  rintro rfl
  rw [h] at h'
  cases h'
  exact hne rfl

/-- A store of a row's element. -/
theorem row_set {w : World} {base : Nat} {T : TypeId} {V : Int → Value} {g c : Nat} {l : List Int} (h : w.ownsRow base T 1 (.slice (some ⟨g, 0, none⟩) l.length c) l.length (l.map V)) (i : Nat) (x : Int) :
    (w.setCell ⟨g, i, none⟩ (V x)).ownsRow base T 1 (.slice (some ⟨g, 0, none⟩) l.length c) l.length ((l.set i x).map V) := by
  refine ⟨by simp, ?_⟩
  rcases h.2 with ⟨hv, _⟩ | ⟨g', cap, cur, hv, hb, hg, hle, hm, hs, htk⟩
  · cases hv
  · injection hv with e1 e2 e3
    injection e1 with e1
    injection e1 with e1
    subst e1 e3
    refine .inr ⟨g, c, cur.setIfInBounds i (V x), rfl, hb, heap_setCell_same _ _ _ _ _ _ hg, hle, hm, by simpa using hs, ?_⟩
    rw [Array.toList_setIfInBounds, List.take_set, htk, List.map_set]

theorem Cs.below {w w' : World} {S base : Nat} {cs ls : List Int} {pc : Nat} {ca : Option Addr} {cc : Nat} {la : Option Addr} {lc : Nat} (h : Cs w S base cs ls pc ca cc la lc) {B : Nat} (hB : w.heap.size ≤ B) (hb : Below B w w') : Cs w' S base cs ls pc ca cc la lc :=
  ⟨h.hb, (hb.block S (Nat.lt_of_lt_of_le (lt_of_block h.hS) hB)).trans h.hS,
    row_keep h.hc fun g hg => by obtain ⟨cur, hh⟩ := row_type h.hc hg; exact hb.block g (Nat.lt_of_lt_of_le (lt_of_block hh) hB),
    row_keep h.hl fun g hg => by obtain ⟨cur, hh⟩ := row_type h.hl hg; exact hb.block g (Nat.lt_of_lt_of_le (lt_of_block hh) hB)⟩
theorem Cs.drewN {w : World} {S base : Nat} {cs ls : List Int} {pc : Nat} {ca : Option Addr} {cc : Nat} {la : Option Addr} {lc : Nat} (h : Cs w S base cs ls pc ca cc la lc) (n : Nat) : Cs (w.drewN n) S base cs ls pc ca cc la lc := ⟨h.hb, h.hS, h.hc, h.hl⟩

/-- The three fields' cells. -/
theorem Cs.c0 {w : World} {S base : Nat} {cs ls : List Int} {pc : Nat} {ca : Option Addr} {cc : Nat} {la : Option Addr} {lc : Nat} (h : Cs w S base cs ls pc ca cc la lc) : w.cell? ⟨S, 0, none⟩ = some (.slice ca cs.length cc) := cell_of_row _ _ _ _ _ _ h.hS
theorem Cs.c1 {w : World} {S base : Nat} {cs ls : List Int} {pc : Nat} {ca : Option Addr} {cc : Nat} {la : Option Addr} {lc : Nat} (h : Cs w S base cs ls pc ca cc la lc) : w.cell? ⟨S, 1, none⟩ = some (.slice la ls.length lc) := cell_of_row _ _ _ _ _ _ h.hS
theorem Cs.c2 {w : World} {S base : Nat} {cs ls : List Int} {pc : Nat} {ca : Option Addr} {cc : Nat} {la : Option Addr} {lc : Nat} (h : Cs w S base cs ls pc ca cc la lc) : w.cell? ⟨S, 2, none⟩ = some (.int .i64 pc) := cell_of_row _ _ _ _ _ _ h.hS

/-- What Add makes of a row. -/
def addL (l : List Int) (pc : Nat) (x : Int) : List Int := if pc < l.length then l.set pc x else l ++ [x]

/-- A store of the three fields' last. -/
theorem Cs.setPc {w : World} {S base : Nat} {cs ls : List Int} {pc : Nat} {ca : Option Addr} {cc : Nat} {la : Option Addr} {lc : Nat} (h : Cs w S base cs ls pc ca cc la lc) (k : Nat) : Cs (w.setCell ⟨S, 2, none⟩ (.int .i64 k)) S base cs ls k ca cc la lc := by
  refine ⟨h.hb, ?_, row_keep h.hc fun g hg => ?_, row_keep h.hl fun g hg => ?_⟩
  · rw [heap_setCell_same _ _ _ _ _ _ h.hS]; rfl
  · obtain ⟨cur, hh⟩ := row_type h.hc hg
    exact heap_setCell_other _ _ _ _ (type_ne hh h.hS (by decide))
  · obtain ⟨cur, hh⟩ := row_type h.hl hg
    exact heap_setCell_other _ _ _ _ (type_ne hh h.hS (by decide))

theorem Cs.setC {w : World} {S base : Nat} {cs ls : List Int} {pc : Nat} {g : Nat} {cc : Nat} {la : Option Addr} {lc : Nat} (h : Cs w S base cs ls pc (some ⟨g, 0, none⟩) cc la lc) (i : Nat) (x : Int) : Cs (w.setCell ⟨g, i, none⟩ (.int .u32 x)) S base (cs.set i x) ls pc (some ⟨g, 0, none⟩) cc la lc := by
  obtain ⟨cur, hh⟩ := row_type h.hc (g := g) rfl
  refine ⟨h.hb, ?_, ?_, row_keep h.hl fun g' hg => ?_⟩
  · rw [heap_setCell_other _ _ _ _ (type_ne h.hS hh (by decide)), List.length_set]; exact h.hS
  · rw [List.length_set]; exact row_set (V := Value.int .u32) h.hc i x
  · obtain ⟨cur', hh'⟩ := row_type h.hl hg
    exact heap_setCell_other _ _ _ _ (type_ne hh' hh (by decide))

theorem Cs.setL {w : World} {S base : Nat} {cs ls : List Int} {pc : Nat} {g : Nat} {lc : Nat} {ca : Option Addr} {cc : Nat} (h : Cs w S base cs ls pc ca cc (some ⟨g, 0, none⟩) lc) (i : Nat) (x : Int) : Cs (w.setCell ⟨g, i, none⟩ (.int .i64 x)) S base cs (ls.set i x) pc ca cc (some ⟨g, 0, none⟩) lc := by
  obtain ⟨cur, hh⟩ := row_type h.hl (g := g) rfl
  refine ⟨h.hb, ?_, row_keep h.hc fun g' hg => ?_, ?_⟩
  · rw [heap_setCell_other _ _ _ _ (type_ne h.hS hh (by decide)), List.length_set]; exact h.hS
  · obtain ⟨cur', hh'⟩ := row_type h.hc hg
    exact heap_setCell_other _ _ _ _ (type_ne hh' hh (by decide))
  · rw [List.length_set]; exact row_set (V := Value.int .i64) h.hl i x

end Go.Proofs.Ytnpljmcmpeaafaa
