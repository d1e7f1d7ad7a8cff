/- What a walk is told of a slice that came in, and of a fresh row that the call made. (No program in sight.) -/
import Derived.Below
import Derived.Laws.Rows
import Derived.OneCell
namespace Go.Proofs.YtiihgamhmflphaaFmt
open Go.RowKit

/-- A slice that came in: nil, or a row of cap cells whose values are V of the list zs. -/
def InRow {α : Type} (V : α → Value) (d : α) (ok : α → Prop) (w : World) (a : Option Addr) (len cap : Nat) (zs : List α) : Prop :=
  (a = none ∧ len = 0 ∧ cap = 0 ∧ zs = []) ∨
  ∃ x, a = some x ∧ len ≤ cap ∧ cap ≤ maxLen ∧ zs.length = cap ∧ (∀ i, i < zs.length → w.cell? (x.add i) = some (V (zs.getD i d))) ∧ ∀ n ∈ zs, ok n
def IsRow (k : IntKind) (w : World) (a : Option Addr) (len cap : Nat) (zs : List Int) : Prop := InRow (Value.int k) 0 (fun n => (Lit.int k n).wf = true) w a len cap zs
def IsStrs (w : World) (a : Option Addr) (len cap : Nat) (zs : List ByteArray) : Prop := InRow Value.string ByteArray.empty (fun s => s.size ≤ maxLen) w a len cap zs
def IsBools (w : World) (a : Option Addr) (len cap : Nat) (zs : List Bool) : Prop := InRow Value.bool false (fun _ => True) w a len cap zs

theorem InRow.len_le {α : Type} {V : α → Value} {d : α} {ok : α → Prop} {w : World} {a : Option Addr} {len cap : Nat} {zs : List α} (h : InRow V d ok w a len cap zs) : len ≤ zs.length ∧ len ≤ maxLen := by
  rcases h with ⟨rfl, rfl, rfl, rfl⟩ | ⟨x, _, h1, h2, h3, _⟩
  · simp
  · omega

/-- The elements, in a world that has kept the block. -/
theorem InRow.keep {α : Type} {V : α → Value} {d : α} {ok : α → Prop} {w w' : World} {a : Option Addr} {len cap : Nat} {zs : List α} (h : InRow V d ok w a len cap zs) (hb : Below w.heap.size w w') : InRow V d ok w' a len cap zs := by
  rcases h with h | ⟨x, h0, h1, h2, h3, h4, h5⟩
  · exact .inl h
  · refine .inr ⟨x, h0, h1, h2, h3, fun i hi => ?_, h5⟩
    have := h4 i hi
    have hlt := World.block_lt_of_cell? w _ this
    rw [hb.cell hlt]
    exact this

/-- Where the elements of a slice that is not empty lie. -/
theorem InRow.cells {α : Type} {V : α → Value} {d : α} {ok : α → Prop} {w : World} {a : Option Addr} {len cap : Nat} {zs : List α} (h : InRow V d ok w a len cap zs) (hp : 0 < len) :
    ∃ b off, a = some ⟨b, off, none⟩ ∧ ∀ i, i < len → w.cell? ⟨b, off + i, none⟩ = some (V (zs.getD i d)) := by
  rcases h with ⟨rfl, rfl, _, _⟩ | ⟨x, h0, h1, h2, h3, h4, h5⟩
  · omega
  · obtain ⟨b, off, spot⟩ := x
    have hc := h4 0 (by omega)
    have hspot : spot = none := by simpa [Addr.add] using World.cell?_spot hc
    subst hspot
    exact ⟨b, off, h0, fun i hi => by
      have hadd : (⟨b, off, none⟩ : Addr).add i = ⟨b, off + i, none⟩ := by unfold Addr.add; split <;> simp_all
      rw [← hadd]
      exact h4 i (by omega)⟩

/-- A row that the call made and owns whole: nil, or a block that holds just these cells. -/
def Own {α : Type} (V : α → Value) (T : TypeId) (base : Nat) (w : World) (v : Value) (l : List α) : Prop :=
  (v = .slice none 0 0 ∧ l = []) ∨ ∃ g, v = .slice (some ⟨g, 0, none⟩) l.length l.length ∧ base ≤ g ∧ w.heap[g]? = some (.cells (l.map V).toArray T (0, 0))

theorem Own.keep {α : Type} {V : α → Value} {T : TypeId} {base : Nat} {w w' : World} {v : Value} {l : List α} (h : Own V T base w v l) {B : Nat} (hB : w.heap.size ≤ B) (hb : Below B w w') : Own V T base w' v l := by
  rcases h with h | ⟨g, h0, h1, h2⟩
  · exact .inl h
  · exact .inr ⟨g, h0, h1, (hb.block g (Nat.lt_of_lt_of_le (lt_of_block h2) hB)).trans h2⟩

/-- How far a copying loop has come. -/
def part {α : Type} (V : α → Value) (z : Value) (l : List α) (k : Nat) : Array Value := ((l.take k).map V ++ List.replicate (l.length - k) z).toArray

theorem part_zero {α : Type} (V : α → Value) (z : Value) (l : List α) : part V z l 0 = (List.replicate l.length z).toArray := by simp [part]
theorem part_all {α : Type} (V : α → Value) (z : Value) (l : List α) : part V z l l.length = (l.map V).toArray := by simp [part]
theorem part_size {α : Type} (V : α → Value) (z : Value) (l : List α) {k : Nat} (hk : k ≤ l.length) : (part V z l k).size = l.length := by simp [part]; omega
theorem part_set {α : Type} (V : α → Value) (z : Value) (l : List α) (d : α) {k : Nat} (hk : k < l.length) : (part V z l k).setIfInBounds k (V (l.getD k d)) = part V z l (k + 1) := by
  apply Array.toList_inj.1
  apply List.ext_getElem?
  intro i
  have hd : l.getD k d = l[k] := by simp [List.getD, hk]
  rw [hd]
  simp only [part, List.setIfInBounds_toArray, List.getElem?_set]
  have hl1 : ((l.take k).map V).length = k := by simp; omega
  have hl2 : ((l.take (k + 1)).map V).length = k + 1 := by simp; omega
  by_cases h1 : i < k
  · rw [if_neg (by omega), List.getElem?_append_left (by omega), List.getElem?_append_left (by omega)]
    simp [h1, Nat.lt_succ_of_lt h1]
  · by_cases h2 : i = k
    · subst h2
      rw [if_pos rfl, List.getElem?_append_left (by omega)]
      simp [hk]
      omega
    · rw [if_neg (by omega), List.getElem?_append_right (by omega), List.getElem?_append_right (by omega), hl1, hl2]
      simp only [List.getElem?_replicate]
      by_cases h3 : i < l.length
      · rw [if_pos (by omega), if_pos (by omega)]
      · rw [if_neg (by omega), if_neg (by omega)]

theorem getD_take {α : Type} (l : List α) (n k : Nat) (d : α) (h : k < n) : (l.take n).getD k d = l.getD k d := by simp [List.getD, h]

end Go.Proofs.YtiihgamhmflphaaFmt
