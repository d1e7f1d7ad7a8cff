/- Blocks, their local variables and their labels. -/
import Derived.Test.YtiihgamhmflphaaFmtFwdBuild116
import Derived.Maps.AppendAt
import Derived.Deep.AppendLies
import Derived.Deep.Onto
namespace Go.Proofs.YtiihgamhmflphaaFmt
open Go.RowKit Go.Maps
set_option linter.unusedVariables false

theorem row_keep {w w' : World} {base : Nat} {T : TypeId} {v : Value} {n : Nat} {xs : List Value} (h : w.ownsRow base T 1 v n xs) (hk : ∀ g, v.ownBlock = some g → w'.heap[g]? = w.heap[g]?) : w'.ownsRow base T 1 v n xs := by
  refine ⟨h.1, ?_⟩
  rcases h.2 with hn | ⟨g, cap, cur, rfl, hb, hgg, rest⟩
  · exact .inl hn
  · exact .inr ⟨g, cap, cur, rfl, hb, (hk g rfl).trans hgg, rest⟩
theorem row_type {w : World} {base : Nat} {T : TypeId} {v : Value} {n : Nat} {xs : List Value} (h : w.ownsRow base T 1 v n xs) {g : Nat} (hg : v.ownBlock = some g) : ∃ cur, w.heap[g]? = some (.cells cur T (0, 0)) := by
  rcases h.2 with ⟨rfl, _⟩ | ⟨g', cap, cur, rfl, hb, hgg, rest⟩
  · simp [Value.ownBlock] at hg
  · have e : g' = g := by simpa [Value.ownBlock] using hg
    subst e
    exact ⟨cur, hgg⟩

/-- A pool of n names in block V. -/
structure Pq (w : World) (V base n : Nat) (ns : List Value) (off : Int) (a : Option Addr) (c : Nat) : Prop where
  hb : base ≤ V
  h0 : 0 ≤ off ∧ off ≤ 1073741824
  hS : w.heap[V]? = some (.cells #[.slice a n c, .int .i64 off] 92 (0, 0))
  hr : w.ownsRow base 9 1 (.slice a n c) n ns
def PlN (w : World) (V base n : Nat) : Prop := ∃ ns off a c, Pq w V base n ns off a c
theorem PlN.keep {w w' : World} {V base n : Nat} (h : PlN w V base n) (hk : ∀ k, k < w.heap.size → w'.heap[k]? = w.heap[k]?) : PlN w' V base n := by
  obtain ⟨ns, off, a, c, h⟩ := h
  exact ⟨ns, off, a, c, h.hb, h.h0, (hk V (lt_of_block h.hS)).trans h.hS, row_keep h.hr fun g hg => by obtain ⟨cur, hh⟩ := row_type h.hr hg; exact hk g (lt_of_block hh)⟩
/-- How many names it holds, as a walk reads it. -/
theorem PlN.len {w : World} {V base n : Nat} (h : PlN w V base n) : ∃ a c, w.cell? ⟨V, 0, none⟩ = some (.slice a n c) := by
  obtain ⟨ns, off, a, c, h⟩ := h
  exact ⟨a, c, cell_of_row _ _ _ _ _ _ h.hS⟩

/-- Only pools and rows of names turn. -/
def FrS (w w' : World) : Prop :=
  (∀ (k : Nat) (a : Array Value) (T : TypeId) (z : Nat × Nat), w.heap[k]? = some (Obj.cells a T z) → T ≠ 92 → T ≠ 9 → w'.heap[k]? = w.heap[k]?) ∧
  ∀ (k : Nat) (es : Array MapEntry) (c : Nat), w.heap[k]? = some (Obj.map es c) → w'.heap[k]? = w.heap[k]?

set_option maxHeartbeats 1000000 in
theorem reg0 (V base n : Nat) (ns : List Value) (off : Int) (a : Option Addr) (c : Nat) (q : ByteArray) (w : World) (h : Pq w V base n ns off a c) (hn : n ≤ 1048576) :
    Calls Tryf.prog 46 #[.pointer (some ⟨V, 0, none⟩), .string q] w fun e w' => (∃ v, e = .returned v) ∧ PlN w' V base (n + 1) ∧ Below base w w' ∧ FrS w w' := by
  have c0 : w.cell? ⟨V, 0, none⟩ = some (.slice a n c) := cell_of_row _ _ _ _ _ _ h.hS
  have c1 : w.cell? ⟨V, 1, none⟩ = some (.int .i64 off) := cell_of_row _ _ _ _ _ _ h.hS
  have hS := h.hS
  have hr := h.hr
  have hb := h.hb
  obtain ⟨h0, h1⟩ := h.h0
  clear h
  have lS := lt_of_block hS
  have hbw : base ≤ w.heap.size := by omega
  have f0 : ∀ o, w.frozen? ⟨V, o, none⟩ = false := fun o => frozen_of_row _ _ _ _ _ hS
  have hneR : some V ≠ (Value.slice a n c).ownBlock := fun e => by
    obtain ⟨cur, hh⟩ := row_type hr e.symm
    exact ty_ne hh hS (by decide) rfl
  have HR := Lib.hid hr
  clear hr
  obtain ⟨i0, hi0, hz0, hz1, hz2⟩ := info_parts infoS
  go_enter Tryf.func46, Tryf.ntmps46
  go_wp2_with (first
    | (at_builtin
       refine wpList_append_lies _ rfl _ _ 23 rfl base 9 i0 _ 1 16 Tryf.underlying23 hi0 hz0 hz1 hz2 rfl (by decide) _ _ _ rfl (HR.out.alloc _) ⟨w.heap.size, 0, none⟩ 1 1 [.string q] rfl rfl (cell_one_new _ _ _) (fun x hx => by simp at hx; subst hx; rfl) (by omega) (by unfold maxLen; omega) (by omega) (by simp; omega) _ rfl ?_
       intro g1 cap1 w1 hown1 hgrow1 hat1 hlt1
       (
         have hS1 := (hgrow1.block V (by simp; omega) hneR).trans ((Below.heap_alloc _ _ _ lS).trans hS)
         have p0 : w1.cell? ⟨V, 0, none⟩ = some (.slice a n c) := cell_of_row _ _ _ _ _ _ hS1
         have p1 : w1.cell? ⟨V, 1, none⟩ = some (.int .i64 off) := cell_of_row _ _ _ _ _ _ hS1
         have pf : ∀ o, w1.frozen? ⟨V, o, none⟩ = false := fun o => frozen_of_row _ _ _ _ _ hS1
         have HB1 := Lib.hid (((Below.refl base w).alloc hbw (.cells #[.string q] 9)).grown hgrow1 (by simp; omega) (fun k e => (HR.out.lt k e).1))
         have HO1 := Lib.hid hown1
         have HF1 := Lib.hid (show ∀ k : Nat, k < w.heap.size → some k ≠ (Value.slice a n c).ownBlock → w1.heap[k]? = w.heap[k]? from fun k h1 h2 => (hgrow1.block k (by simp; omega) h2).trans (Below.heap_alloc _ _ _ h1))
         have HS1 := Lib.hid hS1)
       clear hown1 hgrow1 hS1 hat1))
  have s1 := heap_setCell_same w1 V 0 _ _ (.slice (some ⟨g1, 0, none⟩) (n + 1) cap1) HS1.out
  have o1 := row_keep (w' := w1.setCell ⟨V, 0, none⟩ (.slice (some ⟨g1, 0, none⟩) (n + 1) cap1)) HO1.out (fun g hg => by
    obtain ⟨cur, hh⟩ := row_type HO1.out hg
    exact heap_setCell_other _ _ _ _ (ty_ne hh HS1.out (by decide)))
  have bl := HB1.out.setCell (p := ⟨V, 0, none⟩) hb (.slice (some ⟨g1, 0, none⟩) (n + 1) cap1)
  have fs : FrS w (w1.setCell ⟨V, 0, none⟩ (.slice (some ⟨g1, 0, none⟩) (n + 1) cap1)) := by
    refine ⟨fun k x T z hk t1 t2 => ?_, fun k es m hk => ?_⟩
    · refine (heap_setCell_other _ _ _ _ (ty_ne hk hS t1)).trans (HF1.out k (lt_of_block hk) fun e => ?_)
      obtain ⟨cur, hh⟩ := row_type HR.out e.symm
      exact ty_ne hk hh t2 rfl
    · refine (heap_setCell_other _ _ _ _ (fun e => map_ne hS hk e.symm)).trans (HF1.out k (lt_of_block hk) fun e => ?_)
      obtain ⟨cur, hh⟩ := row_type HR.out e.symm
      exact map_ne hh hk rfl
  have FS := Lib.hid fs
  clear fs
  generalize w1.setCell ⟨V, 0, none⟩ (.slice (some ⟨g1, 0, none⟩) (n + 1) cap1) = w2 at *
  have r0 : w2.cell? ⟨V, 0, none⟩ = some (.slice (some ⟨g1, 0, none⟩) (n + 1) cap1) := cell_of_row _ _ _ _ _ _ s1
  have r1 : w2.cell? ⟨V, 1, none⟩ = some (.int .i64 off) := cell_of_row _ _ _ _ _ _ s1
  have S1 := Lib.hid s1
  have O1 := Lib.hid o1
  have BL := Lib.hid bl
  clear s1 o1 bl
  have b1 : IntKind.i64.wrap ((n : Int) + 1 - 1) = (n : Int) := by rw [show (n : Int) + 1 - 1 = (n : Int) by omega]; exact IntWalk.i64_in _ (by omega)
  have b2 : IntKind.i64.wrap ((n : Int) + off) = (n : Int) + off := IntWalk.i64_in _ (by omega)
  go_quiet (fail)
  go_wp2
  go_ret
  exact ⟨⟨_, rfl⟩, ⟨_, off, _, _, hb, ⟨h0, h1⟩, S1.out, O1.out⟩, below_drewN BL.out _, FS.out⟩

theorem regLocal_any (Bk V base n : Nat) (q : ByteArray) (w : World) (hc : w.cell? ⟨Bk, 0, none⟩ = some (.pointer (some ⟨V, 0, none⟩))) (h : PlN w V base n) (hn : n ≤ 1048576) :
    Calls Tryf.prog 37 #[.pointer (some ⟨Bk, 0, none⟩), .string q] w fun e w' => (∃ v, e = .returned v) ∧ PlN w' V base (n + 1) ∧ Below base w w' ∧ FrS w w' := by
  obtain ⟨ns, off, a, c, h⟩ := h
  have H := Lib.hid (reg0 V base n ns off a c q w h hn)
  clear h
  go_enter Tryf.func37, Tryf.ntmps37
  go_wp2_with fail
  refine H.out.mono ?_; rintro e w1 ⟨⟨v, rfl⟩, hp⟩
  have HP := Lib.hid hp
  clear hp
  go_wp2
  go_ret
  exact ⟨⟨_, rfl⟩, HP.out⟩

theorem vpN_any (off : Int) (w : World) (h0 : 0 ≤ off) (h1 : off ≤ 1073741824) :
    Calls Tryf.prog 42 #[.int .i64 off] w fun e w' => ∃ V, e = .returned (.pointer (some ⟨V, 0, none⟩)) ∧ PlN w' V w.heap.size 0 ∧ Below w.heap.size w w' := by
  have hm := make16
  have HM := Lib.hid (size_madeCells (Value.cells (.string ByteArray.empty)) 16)
  go_enter Tryf.func42, Tryf.ntmps42
  generalize madeCells (Value.cells (.string ByteArray.empty)) 16 = mc at *
  go_wp2
  go_ret
  refine ⟨w.heap.size + 1, rfl, ⟨[], off, some ⟨w.heap.size, 0, none⟩, 16, by omega, ⟨h0, h1⟩, heap_alloc2_new _ _ _, (World.ownsRow_made w mc 16 (Nat.le_refl _) (by unfold maxLen; omega) HM.out).alloc _⟩, (by repeat (first | exact Below.refl _ _ | apply Below.drew | (refine Below.alloc ?_ (by simp) _) | (refine Below.setCell ?_ (by simp) _)))⟩

/-- The labels' map in block Lm. -/
def UpS (w : World) (Lm m : Nat) (g : ByteArray → Option Nat) : Prop :=
  ∃ D : DataW Unit, w.ownsMap Tryf.prog 9 ptrElem Lm m D ∧ ∀ s : ByteArray, Maps.has D (.string s.data.toList) = (g s).isSome ∧ ∀ y, g s = some y → D.atKey (.string s.data.toList) (.lit (.int .i64 (-1))) = .lit (.int .i64 (y : Int))
theorem lawS : Keyed Tryf.prog 9 := string_keyed Tryf.underlying9
theorem UpS.keep {w w' : World} {Lm m : Nat} {g : ByteArray → Option Nat} (hu : UpS w Lm m g) (hk : w'.heap[Lm]? = w.heap[Lm]?) : UpS w' Lm m g := by
  obtain ⟨D, ⟨es, c, h1, h2⟩, h3⟩ := hu
  exact ⟨D, ⟨es, c, hk.trans h1, h2⟩, h3⟩
theorem UpS.obj {w : World} {Lm m : Nat} {g : ByteArray → Option Nat} (hu : UpS w Lm m g) : ∃ es c, w.heap[Lm]? = some (.map es c) := by
  obtain ⟨D, ⟨es, c, h1, h2⟩, h3⟩ := hu
  exact ⟨es, c, h1⟩
theorem UpS.lt {w : World} {Lm m : Nat} {g : ByteArray → Option Nat} (hu : UpS w Lm m g) : Lm < w.heap.size := by
  obtain ⟨es, c, h1⟩ := hu.obj
  exact lt_of_block h1
theorem upS_made (w : World) : UpS (w.alloc (.map #[] 0)) w.heap.size 0 (fun _ => none) :=
  ⟨.map [], World.ownsMap_made _ _ _ _, fun i => ⟨rfl, fun g hg => by cases hg⟩⟩
theorem UpS.run_some {w : World} {Lm m y : Nat} {g : ByteArray → Option Nat} {s : ByteArray} (hu : UpS w Lm m g) (hq : g s = some y) (hs : s.size ≤ maxLen) :
    (Instr.lookup 79 (.map (some Lm)) (.string s) true).run Tryf.prog w = .ok (.tuple #[.pointer (some ⟨y, 0, none⟩), .bool true]) w := by
  obtain ⟨D, hown, hD⟩ := hu
  obtain ⟨h1, h2⟩ := hD s
  obtain ⟨v, ps, hrun, hv⟩ := hown.look_ok lawS Tryf.underlying79 (zeroP w) (zd := .lit (.int .i64 (-1))) (zp := []) rfl (Go.WideMaps.keyOf_string_mk Tryf.underlying9 hs)
  rw [h2 y hq] at hv
  rw [h1, hq] at hrun
  rcases ptrElem_inv hv with ⟨_, h5⟩ | ⟨g', rfl, h5⟩
  · have := lit_inj h5
    omega
  · have := lit_inj h5
    have e : g' = y := by omega
    subst e
    exact hrun
theorem UpS.run_none {w : World} {Lm m : Nat} {g : ByteArray → Option Nat} {s : ByteArray} (hu : UpS w Lm m g) (hq : g s = none) (hs : s.size ≤ maxLen) :
    ∃ v, (Instr.lookup 79 (.map (some Lm)) (.string s) true).run Tryf.prog w = .ok (.tuple #[v, .bool false]) w := by
  obtain ⟨D, hown, hD⟩ := hu
  obtain ⟨h1, h2⟩ := hD s
  obtain ⟨v, ps, hrun, hv⟩ := hown.look_ok lawS Tryf.underlying79 (zeroP w) (zd := .lit (.int .i64 (-1))) (zp := []) rfl (Go.WideMaps.keyOf_string_mk Tryf.underlying9 hs)
  rw [h1, hq] at hrun
  exact ⟨v, hrun⟩
theorem skey_ne {s t : ByteArray} (h : s ≠ t) : (Lit.string s.data.toList) ≠ Lit.string t.data.toList := fun e => by
  injection e with e1
  exact h (ByteArray.ext (Array.toList_inj.1 e1))
theorem isKeyS (s : ByteArray) : WideAt.IsKeyLit (Lit.string s.data.toList) := by simp [WideAt.IsKeyLit]

/-- A block: its pool, its parent, whether it is referred to, its labels' map, its first goto. -/
def Cb (w : World) (Bk V : Nat) (par : Option Addr) (ref : Bool) (Lm : Nat) (first : Int) : Prop :=
  ∃ a, w.heap[Bk]? = some (Obj.cells a 81 (0, 0)) ∧ a[0]? = some (.pointer (some ⟨V, 0, none⟩)) ∧ a[2]? = some (.pointer par) ∧ a[3]? = some (.bool ref) ∧ a[6]? = some (.map (some Lm)) ∧ a[7]? = some (.int .i64 first)
section
variable {w w' : World} {Bk V : Nat} {par : Option Addr} {ref : Bool} {Lm : Nat} {first : Int}
theorem Cb.keep (h : Cb w Bk V par ref Lm first) (hk : w'.heap[Bk]? = w.heap[Bk]?) : Cb w' Bk V par ref Lm first := by
  obtain ⟨a, h1, h2⟩ := h
  exact ⟨a, hk.trans h1, h2⟩
theorem Cb.lt (h : Cb w Bk V par ref Lm first) : Bk < w.heap.size := by
  obtain ⟨a, h1, h2⟩ := h
  exact lt_of_block h1
theorem Cb.c0 (h : Cb w Bk V par ref Lm first) : w.cell? ⟨Bk, 0, none⟩ = some (.pointer (some ⟨V, 0, none⟩)) := by
  obtain ⟨a, h1, h2, _⟩ := h
  rw [cell_of_row _ _ _ _ _ _ h1]; exact h2
theorem Cb.c2 (h : Cb w Bk V par ref Lm first) : w.cell? ⟨Bk, 2, none⟩ = some (.pointer par) := by
  obtain ⟨a, h1, _, h2, _⟩ := h
  rw [cell_of_row _ _ _ _ _ _ h1]; exact h2
theorem Cb.c3 (h : Cb w Bk V par ref Lm first) : w.cell? ⟨Bk, 3, none⟩ = some (.bool ref) := by
  obtain ⟨a, h1, _, _, h2, _⟩ := h
  rw [cell_of_row _ _ _ _ _ _ h1]; exact h2
theorem Cb.c6 (h : Cb w Bk V par ref Lm first) : w.cell? ⟨Bk, 6, none⟩ = some (.map (some Lm)) := by
  obtain ⟨a, h1, _, _, _, h2, _⟩ := h
  rw [cell_of_row _ _ _ _ _ _ h1]; exact h2
theorem Cb.c7 (h : Cb w Bk V par ref Lm first) : w.cell? ⟨Bk, 7, none⟩ = some (.int .i64 first) := by
  obtain ⟨a, h1, _, _, _, _, h2⟩ := h
  rw [cell_of_row _ _ _ _ _ _ h1]; exact h2
end

set_option maxHeartbeats 400000 in
theorem blockN0 (V : Nat) (par : Option Addr) (first : Int) (w : World) :
    Calls Tryf.prog 41 #[.pointer (some ⟨V, 0, none⟩), .int .i64 0, .pointer par, Value.nilIface, .int .i64 first] w fun e w' => ∃ Bk Lm, e = .returned (.pointer (some ⟨Bk, 0, none⟩)) ∧ Cb w' Bk V par false Lm first ∧ UpS w' Lm 0 (fun _ => none) ∧ w.heap.size ≤ Bk ∧ w.heap.size ≤ Lm ∧ Below w.heap.size w w' := by
  have hmm := @run_makeMap Tryf.prog
  go_enter Tryf.func41, Tryf.ntmps41
  go_wp2
  go_ret
  have e1 : (w.alloc (.map #[] 0)).heap.size = w.heap.size + 1 := by simp
  refine ⟨w.heap.size + 1, w.heap.size, rfl, ⟨#[Value.pointer (some ⟨V, 0, none⟩), .int .i64 0, .pointer par, .bool false, .int .i64 0, .int .i64 0, .map (some w.heap.size), .int .i64 first], ?_, rfl, rfl, rfl, rfl, rfl⟩, ?_, by omega, Nat.le_refl _, (by repeat (first | exact Below.refl _ _ | apply Below.drew | (refine Below.alloc ?_ (by simp) _) | (refine Below.setCell ?_ (by simp) _)))⟩
  · rw [← e1]; exact heap_alloc_new _ _
  · exact (upS_made w).keep (Below.heap_alloc _ _ _ (by simp))

theorem Cb.frS {w w' : World} {Bk V : Nat} {par : Option Addr} {ref : Bool} {Lm : Nat} {first : Int} (h : Cb w Bk V par ref Lm first) (f : FrS w w') : Cb w' Bk V par ref Lm first := by
  obtain ⟨a, h1, h2⟩ := h
  exact ⟨a, (f.1 _ _ _ _ h1 (by decide) (by decide)).trans h1, h2⟩
theorem UpS.frS {w w' : World} {Lm m : Nat} {g : ByteArray → Option Nat} (h : UpS w Lm m g) (f : FrS w w') : UpS w' Lm m g := by
  obtain ⟨es, c, ho⟩ := h.obj
  exact h.keep (f.2 _ _ _ ho)
/-- Pools are kept where cells are. -/
theorem PlN.cells {w w' : World} {V base n : Nat} (h : PlN w V base n) (hk : ∀ (k : Nat) (a : Array Value) (T : TypeId) (z : Nat × Nat), w.heap[k]? = some (Obj.cells a T z) → T ≠ 81 → w'.heap[k]? = w.heap[k]?) : PlN w' V base n := by
  obtain ⟨ns, off, a, c, h⟩ := h
  exact ⟨ns, off, a, c, h.hb, h.h0, (hk _ _ _ _ h.hS (by decide)).trans h.hS, row_keep h.hr fun g hg => by obtain ⟨cur, hh⟩ := row_type h.hr hg; exact hk _ _ _ _ hh (by decide)⟩

theorem blockN_any (off first : Int) (par : Option Addr) (w : World) (h0 : 0 ≤ off) (h1 : off ≤ 1073741824) :
    Calls Tryf.prog 29 #[.int .i64 off, .int .i64 first, .pointer par] w fun e w' => ∃ Bk V Lm, e = .returned (.pointer (some ⟨Bk, 0, none⟩)) ∧ Cb w' Bk V par false Lm first ∧ PlN w' V w.heap.size 0 ∧ UpS w' Lm 0 (fun _ => none) ∧ w.heap.size ≤ Bk ∧ w.heap.size ≤ Lm ∧ Below w.heap.size w w' := by
  go_enter Tryf.func29, Tryf.ntmps29
  go_wp2_with fail
  refine (vpN_any off _ h0 h1).mono ?_; rintro e w1 ⟨V, rfl, hv, hb1⟩
  have HV := Lib.hid hv
  have HB1 := Lib.hid hb1
  have hs1 := hb1.size
  clear hv hb1
  go_wp2_with fail
  refine (blockN0 V par first _).mono ?_; rintro e w2 ⟨Bk, Lm, rfl, hk, hu, hl1, hl2, hb2⟩
  have HK := Lib.hid hk
  have HU := Lib.hid hu
  have HB2 := Lib.hid (HB1.out.trans (hb2.mono HB1.out.size))
  have HV2 := Lib.hid (HV.out.keep fun k hk => hb2.block k hk)
  clear hk hu hb2
  go_wp2
  go_ret
  exact ⟨Bk, V, Lm, rfl, HK.out, HV2.out, HU.out, by omega, by omega, HB2.out⟩

theorem setRef_any (Bk V : Nat) (par : Option Addr) (ref v : Bool) (Lm : Nat) (first : Int) (w : World) (h : Cb w Bk V par ref Lm first) :
    Calls Tryf.prog 38 #[.pointer (some ⟨Bk, 0, none⟩), .bool v] w fun e w' => e = .returned (.tuple #[]) ∧ Cb w' Bk V par v Lm first ∧ (∀ k, k ≠ Bk → w'.heap[k]? = w.heap[k]?) ∧ Below Bk w w' := by
  have c3 := h.c3
  obtain ⟨a, h1, h2, h3, h4, h5, h6⟩ := h
  have f3 : ∀ o, w.frozen? ⟨Bk, o, none⟩ = false := fun o => frozen_of_row _ _ _ _ _ h1
  have H1 := Lib.hid h1
  have sz : 3 < a.size := by rw [Array.getElem?_eq_some_iff] at h4; exact h4.1
  clear h1
  go_enter Tryf.func38, Tryf.ntmps38
  go_wp2
  go_end0
  refine ⟨by first | rfl | trivial, ⟨a.setIfInBounds 3 (.bool v), heap_setCell_same _ _ _ _ _ _ H1.out, ?_, ?_, ?_, ?_, ?_⟩, fun k hk => heap_setCell_other _ _ _ _ hk, (Below.refl Bk w).setCell (p := ⟨Bk, 3, none⟩) (Nat.le_refl _) _⟩
  · rw [Array.getElem?_setIfInBounds_ne (by decide)]; exact h2
  · rw [Array.getElem?_setIfInBounds_ne (by decide)]; exact h3
  · rw [Array.getElem?_setIfInBounds_self_of_lt sz]
  · rw [Array.getElem?_setIfInBounds_ne (by decide)]; exact h5
  · rw [Array.getElem?_setIfInBounds_ne (by decide)]; exact h6

end Go.Proofs.YtiihgamhmflphaaFmt
