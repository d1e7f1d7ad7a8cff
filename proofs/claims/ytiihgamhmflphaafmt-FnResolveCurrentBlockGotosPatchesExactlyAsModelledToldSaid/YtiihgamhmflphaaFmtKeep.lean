/- 'Keep S w w'': every old block that is not listed in S is as it was; the streams are as they were. (No program in sight.) -/
import Derived.Below
import Derived.Laws.Rows
import Derived.OneCell
import Derived.Deep.Draws
namespace Go.Proofs.YtiihgamhmflphaaFmt
open Go.RowKit

structure Keep (S : List Nat) (w w' : World) : Prop where
  os : w'.os = w.os
  tape : w'.tape = w.tape
  output : w'.output = w.output
  size : w.heap.size ≤ w'.heap.size
  block : ∀ k, k < w.heap.size → k ∉ S → w'.heap[k]? = w.heap[k]?

theorem Keep.refl (S : List Nat) (w : World) : Keep S w w := ⟨rfl, rfl, rfl, Nat.le_refl _, fun _ _ _ => rfl⟩
theorem Keep.trans {S : List Nat} {a b c : World} (h : Keep S a b) (k : Keep S b c) : Keep S a c :=
  ⟨k.os.trans h.os, k.tape.trans h.tape, k.output.trans h.output, Nat.le_trans h.size k.size,
    fun i hi hn => (k.block i (Nat.lt_of_lt_of_le hi h.size) hn).trans (h.block i hi hn)⟩
theorem Keep.mono {S T : List Nat} {a b : World} (h : Keep S a b) (hs : ∀ k ∈ S, k ∈ T) : Keep T a b :=
  ⟨h.os, h.tape, h.output, h.size, fun i hi hn => h.block i hi fun hm => hn (hs i hm)⟩
theorem Keep.drew {S : List Nat} {a w : World} (h : Keep S a w) : Keep S a w.drew := ⟨h.os, h.tape, h.output, h.size, h.block⟩
theorem Keep.drewN {S : List Nat} {a w : World} (h : Keep S a w) (n : Nat) : Keep S a (w.drewN n) := ⟨h.os, h.tape, h.output, h.size, h.block⟩
theorem Keep.alloc {S : List Nat} {a w : World} (h : Keep S a w) (o : Obj) : Keep S a (w.alloc o) :=
  h.trans ⟨rfl, rfl, rfl, by simp, fun k hk _ => heap_alloc_old _ _ _ hk⟩
theorem Keep.setCell {S : List Nat} {a w : World} (h : Keep S a w) {p : Addr} (hp : p.block ∈ S ∨ a.heap.size ≤ p.block) (u : Value) : Keep S a (w.setCell p u) :=
  ⟨h.os, h.tape, h.output, by have := h.size; simpa [World.setCell] using this, fun k hk hn => by
    rw [heap_setCell_other]
    · exact h.block k hk hn
    · rintro rfl
      rcases hp with hp | hp
      · exact hn hp
      · omega⟩
theorem Keep.below {S : List Nat} {w w' : World} (h : Keep S w w') {B : Nat} (hB : B ≤ w.heap.size) (hS : ∀ k ∈ S, B ≤ k) : Below B w w' :=
  ⟨h.os, h.tape, h.output, h.size, fun k hk => h.block k (by omega) fun hm => by have := hS k hm; omega⟩
theorem Keep.of_below {S : List Nat} {w w' : World} (h : Below w.heap.size w w') : Keep S w w' :=
  ⟨h.os, h.tape, h.output, h.size, fun k hk _ => h.block k hk⟩
theorem Keep.grown {S : List Nat} {a w w' : World} {row : Option Nat} (h : Keep S a w) (hg : w.grownBy w' row) (hr : ∀ k, row = some k → k ∈ S ∨ a.heap.size ≤ k) : Keep S a w' :=
  ⟨hg.os.trans h.os, hg.tape.trans h.tape, hg.output.trans h.output, Nat.le_trans h.size hg.size, fun k hk hn => by
    rw [hg.block k (Nat.lt_of_lt_of_le hk h.size) (by
      intro e
      rcases hr k e.symm with h1 | h1
      · exact hn h1
      · omega)]
    exact h.block k hk hn⟩
theorem Keep.heap {S : List Nat} {w w' : World} (h : Keep S w w') {k : Nat} {o : Obj} (hk : w.heap[k]? = some o) (hn : k ∉ S) : w'.heap[k]? = some o :=
  (h.block k (lt_of_block hk) hn).trans hk
theorem Keep.cell {S : List Nat} {w w' : World} (h : Keep S w w') {p : Addr} (hp : p.block < w.heap.size) (hn : p.block ∉ S) : w'.cell? p = w.cell? p :=
  World.cell?_of_block (h.block _ hp hn)
theorem Keep.frozen {S : List Nat} {w w' : World} (h : Keep S w w') {p : Addr} (hp : p.block < w.heap.size) (hn : p.block ∉ S) : w'.frozen? p = w.frozen? p :=
  World.frozen?_of_block (h.block _ hp hn)

end Go.Proofs.YtiihgamhmflphaaFmt
