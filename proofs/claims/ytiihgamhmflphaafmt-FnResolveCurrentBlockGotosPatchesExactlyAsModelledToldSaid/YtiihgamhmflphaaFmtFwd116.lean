/- A function context with gotos in memory: block F its fields, C the code store, the row of words behind p, Bk the block, U the map of the gotos. -/
import Derived.Test.YtiihgamhmflphaaFmtRows
import Derived.Test.YtiihgamhmflphaaFmtKeep
import Derived.Test.YtiihgamhmflphaaFmtIn
import Derived.Test.YtiihgamhmflphaaFmtFields
import Derived.WalkKit
import Derived.WalkSpells
import Derived.WalkLawsBesides
import Derived.Lib.Hide
import Derived.Deep.QuietTactic
import Derived.BigQuiet
import Derived.RegionTactic
import Derived.StillTailTactics
import Derived.Maps.Own
import Derived.Maps.OwnOps
import Derived.Maps.OwnSet
import Derived.Maps.Views
namespace Go.Proofs.YtiihgamhmflphaaFmt
open Go.RowKit Go.Maps
set_option linter.unusedVariables false

theorem lawI : Keyed Tryf.prog 3 := int_keyed Tryf.underlying3
theorem zeroP (w : World) : (zeroValue 33).run Tryf.prog w = .ok (.pointer none) w := by kernel_rfl

theorem lt_of_block {w : World} {k : Nat} {o : Obj} (h : w.heap[k]? = some o) : k < w.heap.size := by
  rw [Array.getElem?_eq_some_iff] at h
  exact h.1
theorem ty_ne {w : World} {g k : Nat} {c c' : Array Value} {T T' : TypeId} {z z' : Nat × Nat} (h : w.heap[g]? = some (.cells c T z)) (h' : w.heap[k]? = some (.cells c' T' z')) (hne : T ≠ T') : g ≠ k := by
  rintro rfl
  rw [h] at h'
  cases h'
  exact hne rfl
theorem map_ne {w : World} {g k : Nat} {c : Array Value} {T : TypeId} {z : Nat × Nat} {es : Array MapEntry} {n : Nat} (h : w.heap[g]? = some (.cells c T z)) (h' : w.heap[k]? = some (.map es n)) : g ≠ k := by
  rintro rfl
  rw [h] at h'
  cases h'
theorem below_drewN {B : Nat} {a w : World} (h : Below B a w) (n : Nat) : Below B a (w.drewN n) := ⟨h.os, h.tape, h.output, h.size, h.block⟩

/-- How a pointer to a whole block reads. -/
def ptrElem (v : Value) : Option (DataW Unit × List MemPlace) := match v with
  | .pointer none => some (.lit (.int .i64 (-1)), [])
  | .pointer (some ⟨g, 0, none⟩) => some (.lit (.int .i64 (g : Int)), [])
  | _ => none
theorem ptrElem_inv {v : Value} {z : DataW Unit × List MemPlace} (h : ptrElem v = some z) : (v = .pointer none ∧ z.1 = .lit (.int .i64 (-1))) ∨ ∃ g : Nat, v = .pointer (some ⟨g, 0, none⟩) ∧ z.1 = .lit (.int .i64 (g : Int)) := by
  unfold ptrElem at h
  split at h
  · cases h; exact .inl ⟨rfl, rfl⟩
  · cases h; exact .inr ⟨_, rfl, rfl⟩
  · cases h

/-- The map in block U, of at most n entries, leads from i to block h i. -/
def Up (w : World) (U n : Nat) (h : Nat → Option Nat) : Prop :=
  ∃ D : DataW Unit, w.ownsMap Tryf.prog 3 ptrElem U n D ∧ ∀ i : Nat, Maps.has D (.int .i64 (i : Int)) = (h i).isSome ∧ ∀ g, h i = some g → D.atKey (.int .i64 (i : Int)) (.lit (.int .i64 (-1))) = .lit (.int .i64 (g : Int))
theorem Up.keep {w w' : World} {U n : Nat} {h : Nat → Option Nat} (hu : Up w U n h) (hk : w'.heap[U]? = w.heap[U]?) : Up w' U n h := by
  obtain ⟨D, ⟨es, c, h1, h2⟩, h3⟩ := hu
  exact ⟨D, ⟨es, c, hk.trans h1, h2⟩, h3⟩
theorem Up.obj {w : World} {U n : Nat} {h : Nat → Option Nat} (hu : Up w U n h) : ∃ es c, w.heap[U]? = some (.map es c) := by
  obtain ⟨D, ⟨es, c, h1, h2⟩, h3⟩ := hu
  exact ⟨es, c, h1⟩
theorem Up.lt {w : World} {U n : Nat} {h : Nat → Option Nat} (hu : Up w U n h) : U < w.heap.size := by
  obtain ⟨es, c, h1⟩ := hu.obj
  exact lt_of_block h1
theorem up_made (w : World) : Up (w.alloc (.map #[] 0)) w.heap.size 0 (fun _ => none) :=
  ⟨.map [], World.ownsMap_made _ _ _ _, fun i => ⟨rfl, fun g hg => by cases hg⟩⟩
theorem lit_inj {a b : Int} (h : (DataW.lit (.int .i64 a) : DataW Unit) = .lit (.int .i64 b)) : a = b := by simpa using h
theorem wfi {i : Nat} (hi : i ≤ 1048576) : (Lit.int .i64 (i : Int)).wf = true := WalkArith.wf_i64 (by omega)
theorem Up.run_some {w : World} {U n i g : Nat} {h : Nat → Option Nat} (hu : Up w U n h) (hq : h i = some g) (hi : i ≤ 1048576) :
    (Instr.lookup 66 (.map (some U)) (.int .i64 (i : Int)) true).run Tryf.prog w = .ok (.tuple #[.pointer (some ⟨g, 0, none⟩), .bool true]) w := by
  obtain ⟨D, hown, hD⟩ := hu
  obtain ⟨h1, h2⟩ := hD i
  obtain ⟨v, ps, hrun, hv⟩ := hown.look_ok lawI Tryf.underlying66 (zeroP w) (zd := .lit (.int .i64 (-1))) (zp := []) rfl (keyOf_int_mk Tryf.underlying3 (wfi hi))
  rw [h2 g hq] at hv
  rw [h1, hq] at hrun
  rcases ptrElem_inv hv with ⟨_, h5⟩ | ⟨g', rfl, h5⟩
  · have := lit_inj h5
    omega
  · have := lit_inj h5
    have e : g' = g := by omega
    subst e
    exact hrun
theorem Up.run_none {w : World} {U n i : Nat} {h : Nat → Option Nat} (hu : Up w U n h) (hq : h i = none) (hi : i ≤ 1048576) :
    ∃ v, (Instr.lookup 66 (.map (some U)) (.int .i64 (i : Int)) true).run Tryf.prog w = .ok (.tuple #[v, .bool false]) w := by
  obtain ⟨D, hown, hD⟩ := hu
  obtain ⟨h1, h2⟩ := hD i
  obtain ⟨v, ps, hrun, hv⟩ := hown.look_ok lawI Tryf.underlying66 (zeroP w) (zd := .lit (.int .i64 (-1))) (zp := []) rfl (keyOf_int_mk Tryf.underlying3 (wfi hi))
  rw [h1, hq] at hrun
  exact ⟨v, hrun⟩
theorem key_ne {i k : Nat} (h : i ≠ k) : (Lit.int .i64 (i : Int)) ≠ Lit.int .i64 (k : Int) := fun e => by
  injection e with e1 e2
  omega
theorem isKey (i : Int) : WideAt.IsKeyLit (Lit.int .i64 i) := by simp [WideAt.IsKeyLit]

/-- A goto's description in block g. -/
def Gd (w : World) (g : Nat) (name : ByteArray) (pc num : Int) : Prop := ∃ id line, w.heap[g]? = some (.cells #[.int .i64 id, .string name, .int .i64 pc, .int .i64 line, .int .i64 num] 51 (0, 0))
theorem Gd.keep {w w' : World} {g : Nat} {name : ByteArray} {pc num : Int} (h : Gd w g name pc num) (hk : w'.heap[g]? = w.heap[g]?) : Gd w' g name pc num := by
  obtain ⟨i, l, h⟩ := h
  exact ⟨i, l, hk.trans h⟩
theorem Gd.lt {w : World} {g : Nat} {name : ByteArray} {pc num : Int} (h : Gd w g name pc num) : g < w.heap.size := by
  obtain ⟨i, l, h⟩ := h
  exact lt_of_block h
theorem Gd.c1 {w : World} {g : Nat} {name : ByteArray} {pc num : Int} (h : Gd w g name pc num) : w.cell? ⟨g, 1, none⟩ = some (.string name) := by
  obtain ⟨i, l, h⟩ := h
  rw [cell_of_row _ _ _ _ _ _ h]; rfl
theorem Gd.c2 {w : World} {g : Nat} {name : ByteArray} {pc num : Int} (h : Gd w g name pc num) : w.cell? ⟨g, 2, none⟩ = some (.int .i64 pc) := by
  obtain ⟨i, l, h⟩ := h
  rw [cell_of_row _ _ _ _ _ _ h]; rfl
theorem Gd.c4 {w : World} {g : Nat} {name : ByteArray} {pc num : Int} (h : Gd w g name pc num) : w.cell? ⟨g, 4, none⟩ = some (.int .i64 num) := by
  obtain ⟨i, l, h⟩ := h
  rw [cell_of_row _ _ _ _ _ _ h]; rfl

structure Sx (w : World) (F C Bk U : Nat) (p : Option Addr) (h : Nat → Option Nat) (base n : Nat) (first : Int) (cs : List Int) (ns : Nat → ByteArray) (ps nu : Nat → Int) : Prop where
  bF : base ≤ F
  bU : base ≤ U
  hF : ∃ a, w.heap[F]? = some (.cells a 68 (0, 0)) ∧ a[1]? = some (.pointer (some ⟨C, 0, none⟩)) ∧ a[4]? = some (.pointer (some ⟨Bk, 0, none⟩)) ∧ a[9]? = some (.int .i64 n) ∧ a[10]? = some (.map (some U))
  hC : ∃ a, w.heap[C]? = some (.cells a 70 (0, 0)) ∧ a[0]? = some (.slice p cs.length cs.length)
  hB : ∃ a, w.heap[Bk]? = some (.cells a 81 (0, 0)) ∧ a[7]? = some (.int .i64 first)
  hR : Own (Value.int .u32) 39 base w (.slice p cs.length cs.length) cs
  hU : Up w U n h
  hG : ∀ i g, h i = some g → i < n ∧ Gd w g (ns i) (ps i) (nu i)

section
variable {w w' : World} {F C Bk U : Nat} {p : Option Addr} {h : Nat → Option Nat} {base n : Nat} {first : Int} {cs : List Int} {ns : Nat → ByteArray} {ps nu : Nat → Int}

theorem own_keep {w w' : World} {base : Nat} {p : Option Addr} {cs : List Int} {m : Nat} (h : Own (Value.int .u32) 39 base w (.slice p m m) cs) (hk : ∀ (g : Nat) (a : Array Value), w.heap[g]? = some (Obj.cells a 39 (0, 0)) → w'.heap[g]? = w.heap[g]?) : Own (Value.int .u32) 39 base w' (.slice p m m) cs := by
  rcases h with h | ⟨g, h1, h2, h3⟩
  · exact .inl h
  · exact .inr ⟨g, h1, h2, (hk g _ h3).trans h3⟩
theorem Sx.keep (s : Sx w F C Bk U p h base n first cs ns ps nu) (hk : ∀ k, k < w.heap.size → w'.heap[k]? = w.heap[k]?) : Sx w' F C Bk U p h base n first cs ns ps nu := by
  obtain ⟨b1, b2, ⟨a1, f1, f2⟩, ⟨a2, g1, g2⟩, ⟨a3, k1, k2⟩, r, u, g⟩ := s
  exact ⟨b1, b2, ⟨a1, (hk _ (lt_of_block f1)).trans f1, f2⟩, ⟨a2, (hk _ (lt_of_block g1)).trans g1, g2⟩, ⟨a3, (hk _ (lt_of_block k1)).trans k1, k2⟩, own_keep r fun x a hx => hk x (lt_of_block hx), u.keep (hk _ u.lt), fun i y hi => ⟨(g i y hi).1, (g i y hi).2.keep (hk _ (g i y hi).2.lt)⟩⟩
theorem Sx.below (s : Sx w F C Bk U p h base n first cs ns ps nu) (hb : Below w.heap.size w w') : Sx w' F C Bk U p h base n first cs ns ps nu := s.keep fun k hk => hb.block k hk
theorem Sx.drewN (s : Sx w F C Bk U p h base n first cs ns ps nu) (q : Nat) : Sx (w.drewN q) F C Bk U p h base n first cs ns ps nu := s.keep fun k hk => rfl
/-- Only the map has turned. -/
theorem Sx.ofU {h' : Nat → Option Nat} (s : Sx w F C Bk U p h base n first cs ns ps nu) (hk : ∀ k, k < w.heap.size → k ≠ U → w'.heap[k]? = w.heap[k]?) (hu : Up w' U n h') (hh : ∀ i g, h' i = some g → h i = some g) : Sx w' F C Bk U p h' base n first cs ns ps nu := by
  obtain ⟨b1, b2, ⟨a1, f1, f2⟩, ⟨a2, g1, g2⟩, ⟨a3, k1, k2⟩, r, u, g⟩ := s
  obtain ⟨es, c, ho⟩ := u.obj
  have hk' : ∀ (k : Nat) (a : Array Value) (T : TypeId) (z : Nat × Nat), w.heap[k]? = some (Obj.cells a T z) → w'.heap[k]? = w.heap[k]? := fun k a T z hx => hk k (lt_of_block hx) (map_ne hx ho)
  refine ⟨b1, b2, ⟨a1, (hk' _ _ _ _ f1).trans f1, f2⟩, ⟨a2, (hk' _ _ _ _ g1).trans g1, g2⟩, ⟨a3, (hk' _ _ _ _ k1).trans k1, k2⟩, own_keep r fun x a hx => hk' _ _ _ _ hx, hu, fun i y hi => ⟨(g i y (hh i y hi)).1, ?_⟩⟩
  have hg := (g i y (hh i y hi)).2
  obtain ⟨i1, l1, e1⟩ := hg
  exact ⟨i1, l1, (hk' _ _ _ _ e1).trans e1⟩
/-- Only one word has turned. -/
theorem Sx.ofR {r k : Nat} {x : Int} (s : Sx w F C Bk U p h base n first cs ns ps nu) (hp : p = some ⟨r, 0, none⟩) (hk : k < cs.length) : Sx (w.setCell ⟨r, k, none⟩ (.int .u32 x)) F C Bk U p h base n first (cs.set k x) ns ps nu := by
  obtain ⟨b1, b2, ⟨a1, f1, f2⟩, ⟨a2, g1, g2⟩, ⟨a3, k1, k2⟩, rr, u, g⟩ := s
  subst hp
  rcases rr with ⟨h1, h2⟩ | ⟨r', h1, h2, h3⟩
  · cases h1
  · have e : r = r' := by injection h1 with h1; injection h1 with h1; injection h1
    subst e
    obtain ⟨es, c, ho⟩ := u.obj
    have hk' : ∀ j, j ≠ r → (w.setCell ⟨r, k, none⟩ (.int .u32 x)).heap[j]? = w.heap[j]? := fun j hj => heap_setCell_other _ _ _ _ hj
    refine ⟨b1, b2, ⟨a1, (hk' _ (ty_ne f1 h3 (by decide))).trans f1, f2⟩, ⟨a2, (hk' _ (ty_ne g1 h3 (by decide))).trans g1, by rw [List.length_set]; exact g2⟩, ⟨a3, (hk' _ (ty_ne k1 h3 (by decide))).trans k1, k2⟩, .inr ⟨r, by rw [List.length_set], h2, ?_⟩, u.keep (hk' _ (fun e => (map_ne h3 ho) e.symm)), fun i y hi => ⟨(g i y hi).1, ?_⟩⟩
    · have := heap_setCell_same w r k _ _ (.int .u32 x) h3
      rw [this]
      congr 2
      simp [List.map_set]
    · obtain ⟨i1, l1, e1⟩ := (g i y hi).2
      exact ⟨i1, l1, (hk' _ (ty_ne e1 h3 (by decide))).trans e1⟩
theorem Sx.f1 (s : Sx w F C Bk U p h base n first cs ns ps nu) : w.cell? ⟨F, 1, none⟩ = some (.pointer (some ⟨C, 0, none⟩)) := by
  obtain ⟨a, h1, h2, _⟩ := s.hF
  rw [cell_of_row _ _ _ _ _ _ h1]; exact h2
theorem Sx.f4 (s : Sx w F C Bk U p h base n first cs ns ps nu) : w.cell? ⟨F, 4, none⟩ = some (.pointer (some ⟨Bk, 0, none⟩)) := by
  obtain ⟨a, h1, _, h2, _⟩ := s.hF
  rw [cell_of_row _ _ _ _ _ _ h1]; exact h2
theorem Sx.f9 (s : Sx w F C Bk U p h base n first cs ns ps nu) : w.cell? ⟨F, 9, none⟩ = some (.int .i64 n) := by
  obtain ⟨a, h1, _, _, h2, _⟩ := s.hF
  rw [cell_of_row _ _ _ _ _ _ h1]; exact h2
theorem Sx.f10 (s : Sx w F C Bk U p h base n first cs ns ps nu) : w.cell? ⟨F, 10, none⟩ = some (.map (some U)) := by
  obtain ⟨a, h1, _, _, _, h2⟩ := s.hF
  rw [cell_of_row _ _ _ _ _ _ h1]; exact h2
theorem Sx.fz (s : Sx w F C Bk U p h base n first cs ns ps nu) (o : Nat) : w.frozen? ⟨F, o, none⟩ = false := by
  obtain ⟨a, h1, _⟩ := s.hF
  exact frozen_of_row _ _ _ _ _ h1
theorem Sx.c0 (s : Sx w F C Bk U p h base n first cs ns ps nu) : w.cell? ⟨C, 0, none⟩ = some (.slice p cs.length cs.length) := by
  obtain ⟨a, h1, h2⟩ := s.hC
  rw [cell_of_row _ _ _ _ _ _ h1]; exact h2
theorem Sx.b7 (s : Sx w F C Bk U p h base n first cs ns ps nu) : w.cell? ⟨Bk, 7, none⟩ = some (.int .i64 first) := by
  obtain ⟨a, h1, h2⟩ := s.hB
  rw [cell_of_row _ _ _ _ _ _ h1]; exact h2
theorem Sx.word (s : Sx w F C Bk U p h base n first cs ns ps nu) {k : Nat} (hk : k < cs.length) : ∃ r, p = some ⟨r, 0, none⟩ ∧ base ≤ r ∧ w.cell? ⟨r, k, none⟩ = some (.int .u32 (cs.getD k 0)) ∧ w.frozen? ⟨r, k, none⟩ = false := by
  rcases s.hR with ⟨h1, h2⟩ | ⟨r, h1, h2, h3⟩
  · rw [h2] at hk; simp at hk
  · injection h1 with h1
    refine ⟨r, h1, h2, ?_, frozen_of_row _ _ _ _ _ h3⟩
    rw [cell_of_row _ _ _ _ _ _ h3]
    simp [List.getD, hk]
end

set_option maxHeartbeats 400000 in
theorem isPending_any (F C Bk U : Nat) (p : Option Addr) (h : Nat → Option Nat) (base n : Nat) (first : Int) (cs : List Int) (ns : Nat → ByteArray) (ps nu : Nat → Int) (i : Nat) (w : World) (s : Sx w F C Bk U p h base n first cs ns ps nu) (hi : i ≤ 1048576) :
    Calls Tryf.prog 16 #[.pointer (some ⟨F, 0, none⟩), .int .i64 (i : Int)] w fun e w' => e = .returned (.bool (h i).isSome) ∧ w' = w := by
  have f10 := s.f10
  cases hq : h i with
  | none =>
    obtain ⟨v, hl⟩ := s.hU.run_none hq hi
    clear s
    go_enter Tryf.func16, Tryf.ntmps16
    go_wp2
    go_ret
    exact ⟨rfl, by first | rfl | trivial⟩
  | some g =>
    have hl := s.hU.run_some hq hi
    clear s
    go_enter Tryf.func16, Tryf.ntmps16
    go_wp2
    go_ret
    exact ⟨rfl, by first | rfl | trivial⟩

set_option maxHeartbeats 400000 in
theorem codeLen_any (F C Bk U : Nat) (p : Option Addr) (h : Nat → Option Nat) (base n : Nat) (first : Int) (cs : List Int) (ns : Nat → ByteArray) (ps nu : Nat → Int) (w : World) (s : Sx w F C Bk U p h base n first cs ns ps nu) :
    Calls Tryf.prog 17 #[.pointer (some ⟨F, 0, none⟩)] w fun e w' => e = .returned (.int .i64 (cs.length : Int)) ∧ w' = w := by
  have f1 := s.f1
  have c0 := s.c0
  clear s
  generalize cs.length = N at *
  go_enter Tryf.func17, Tryf.ntmps17
  go_wp2
  go_ret
  exact ⟨rfl, by first | rfl | trivial⟩

set_option maxHeartbeats 400000 in
theorem at_any (F C Bk U : Nat) (p : Option Addr) (h : Nat → Option Nat) (base n : Nat) (first : Int) (cs : List Int) (ns : Nat → ByteArray) (ps nu : Nat → Int) (i : Nat) (w : World) (s : Sx w F C Bk U p h base n first cs ns ps nu) (hi : i < cs.length) (hn : cs.length ≤ 1048576) :
    Calls Tryf.prog 34 #[.pointer (some ⟨C, 0, none⟩), .int .i64 (i : Int)] w fun e w' => e = .returned (.int .u32 (cs.getD i 0)) ∧ w' = w := by
  have c0 := s.c0
  obtain ⟨r, hp, _, hc, _⟩ := s.word hi
  subst hp
  clear s
  generalize cs.getD i 0 = x at *
  generalize cs.length = N at *
  have b1 : (0 : Int) ≤ (i : Int) := by omega
  have b2 : (i : Int) < (N : Int) := by omega
  go_enter Tryf.func34, Tryf.ntmps34
  go_wp2
  go_ret
  exact ⟨rfl, by first | rfl | trivial⟩

theorem codeAt_any (F C Bk U : Nat) (p : Option Addr) (h : Nat → Option Nat) (base n : Nat) (first : Int) (cs : List Int) (ns : Nat → ByteArray) (ps nu : Nat → Int) (i : Nat) (w : World) (s : Sx w F C Bk U p h base n first cs ns ps nu) (hi : i < cs.length) (hn : cs.length ≤ 1048576) :
    Calls Tryf.prog 18 #[.pointer (some ⟨F, 0, none⟩), .int .i64 (i : Int)] w fun e w' => e = .returned (.int .u32 (cs.getD i 0)) ∧ w' = w := by
  have f1 := s.f1
  have HA := Lib.hid (at_any F C Bk U p h base n first cs ns ps nu i w s hi hn)
  clear s
  generalize cs.getD i 0 = x at *
  go_enter Tryf.func18, Tryf.ntmps18
  go_wp2_with fail
  refine HA.out.mono ?_; rintro e w1 ⟨rfl, rfl⟩
  go_wp2
  go_ret
  exact ⟨rfl, by first | rfl | trivial⟩

end Go.Proofs.YtiihgamhmflphaaFmt
