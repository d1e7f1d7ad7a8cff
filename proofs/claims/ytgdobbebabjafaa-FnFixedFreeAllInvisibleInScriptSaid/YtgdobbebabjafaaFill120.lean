/- The contracts of zzWant and zzFixedFill. -/
import Derived.Test.YtgdobbebabjafaaStkZZ120
import Derived.Test.YtgdobbebabjafaaClone120
import Derived.LaidEqlPtr
namespace Go.Proofs.Ytgdobbebabjafaa
open Go.RowKit
set_option linter.unusedVariables false

set_option maxHeartbeats 1000000 in
theorem want_any (i v : Int) (w : World) :
    Calls Try.prog 13 #[.int .i64 i, .int .i64 v] w fun e w' => e = .returned (.agg (frm i i 0 v)) ∧ Below w.heap.size w w' := by
  go_enter Try.func13, Try.ntmps13
  go_wp2
  exact bodyPost_ret (v := .agg (frm i i 0 v)) (by simp [results, Try.results13, go_sem, frm]) rfl ⟨rfl, (by repeat (first | exact Below.refl _ _ | apply Below.drew | (refine Below.alloc ?_ (by simp) _) | (refine Below.setCell ?_ (by simp) _)))⟩

/-- The world behind zzWant. -/
def wantW (i v : Int) (w : World) : World := (w.alloc (.cells (frm i i 0 v) 31)).alloc (.cells (frm i i 0 v) 31)
set_option maxHeartbeats 1000000 in
theorem want_ex (i v : Int) (w : World) :
    Calls Try.prog 13 #[.int .i64 i, .int .i64 v] w fun e w' => e = .returned (.agg #[.int .i64 i, .pointer none, .pointer none, .int .i64 i, .int .i64 0, .int .i64 0, .int .i64 0, .int .i64 0, .int .i64 v, .int .i64 0]) ∧ w' = wantW i v w := by
  go_enter Try.func13, Try.ntmps13
  go_wp2
  exact bodyPost_ret (v := .agg (frm i i 0 v)) (by simp [results, Try.results13, go_sem, frm]) rfl ⟨rfl, rfl⟩
theorem cell_want (i v : Int) (w : World) (p : Addr) (h : p.block < w.heap.size) : (wantW i v w).cell? p = w.cell? p := by
  unfold wantW
  rw [World.cell?_alloc_lt _ _ _ (by simp; omega), World.cell?_alloc_lt _ _ _ h]
theorem size_want (i v : Int) (w : World) : w.heap.size ≤ (wantW i v w).heap.size := by simp [wantW]; omega

theorem Stk.want {w : World} {A B n : Nat} {sp : Int} {arr : Array Value} (h : Stk w A B n sp arr) (i v : Int) : Stk (wantW i v w) A B n sp arr := (h.alloc _).alloc _
theorem below_want {N : Nat} {w w' : World} (h : Below N w w') (hN : N ≤ w.heap.size) (i v : Int) : Below N w (wantW i v w') :=
  (h.alloc (Nat.le_trans hN h.size) _).alloc (by have := h.size; simp; omega) _

/-- The frames that a fill leaves: those pushed so far, and zero frames above. -/
def Filled (arr : Array Value) (n k : Nat) (l : List Int) : Prop :=
  (∀ i, i < k → Fr arr i i i 0 (l.getD i 0)) ∧ ∀ i, k ≤ i → i < n → Fr arr i 0 0 0 0

theorem Filled.step {arr : Array Value} {n k : Nat} {l : List Int} (h : Filled arr n k l) (hs : arr.size = n * 10) (hk : k < n) (x0 : Int) : Filled (put arr k x0 k k 0 (l.getD k 0)) n (k + 1) l := by
  refine ⟨fun i hi => ?_, fun i h1 h2 => ?_⟩
  · by_cases e : i = k
    · subst e
      exact put_same _ _ _ _ _ _ _ (by rw [hs]; omega)
    · exact (h.1 i (by omega)).put e _ _ _ _ _
  · exact (h.2 i (by omega) h2).put (by omega) _ _ _ _ _

theorem Stk.size' {w : World} {A B n k : Nat} {sp : Int} {arr : Array Value} {x0 x p b r : Int} (h : Stk w A B n sp (put arr k x0 x p b r)) : arr.size = n * 10 := by
  have := h.size
  rwa [size_put] at this

/-- What zzFixedFill leaves. -/
def FillPost (l : List Int) (n : Nat) (w : World) (e : Ending) (w' : World) : Prop :=
  e = .returned (.pointer (some ⟨w.heap.size + 1, 0, none⟩)) ∧ ∃ arr, Stk w' w.heap.size (w.heap.size + 1) n (l.length : Int) arr ∧ Filled arr n l.length l ∧ Below w.heap.size w w'

set_option maxHeartbeats 1000000 in
theorem fill_any (base : Nat) (v : Value) (l : List Int) (n : Nat) (hn : n ≤ 131072) (hl : l.length ≤ n) (w : World) (h : Own (Value.int .i64) 3 base w v l) :
    Calls Try.prog 11 #[v, .int .i64 n] w (FillPost l n w) := by
  rcases h with ⟨rfl, rfl⟩ | ⟨g, rfl, hb, hg⟩
  · go_enter Try.func11, Try.ntmps11
    go_wp2_with fail
    refine (zznew_any n hn _).mono ?_; rintro e w1 ⟨rfl, arr0, hs, hf, hbl⟩
    have HS := Lib.hid hs
    have HF := Lib.hid hf
    have HB := Lib.hid hbl
    clear hs hf hbl
    go_wp2_with fail
    go_loopw [6] (fun i wr => i = .int .i64 0 ∧ wr = w1) (fun _ _ => 0)
    case atStart => exact ⟨rfl, rfl⟩
    case round =>
      obtain ⟨rfl, rfl⟩ := hrel
      go_wp2
      go_ret
      exact ⟨rfl, arr0, HS.out, ⟨fun i hi => absurd hi (by simp), fun i _ hi => HF.out i hi⟩, HB.out⟩
  · have hlt := lt_of_block hg
    have hcell : ∀ k, k < l.length → w.cell? ⟨g, k, none⟩ = some (.int .i64 (l.getD k 0)) := fun k hk => by
      rw [cell_of_row _ _ _ _ _ _ hg]
      simp [List.getD, hk]
    have HC := Lib.hid hcell
    clear hcell hg
    generalize hL : l.length = L at *
    have HL := Lib.hid hL
    clear hL
    go_enter Try.func11, Try.ntmps11
    go_wp2_with fail
    refine (zznew_any n hn _).mono ?_; rintro e w1 ⟨rfl, arr0, hs, hf, hbl⟩
    have HS := Lib.hid hs
    have HF := Lib.hid hf
    clear hs hf
    go_wp2_with fail
    go_loopw [6] (fun i wr => ∃ (k : Nat) (arr : Array Value), k ≤ L ∧ i = .int .i64 k ∧ Stk wr w.heap.size (w.heap.size + 1) n (k : Int) arr ∧ Filled arr n k l ∧ Below w.heap.size w wr) (fun i _ => L - (intOf i).toNat)
    case atStart => exact ⟨0, arr0, by omega, rfl, HS.out, ⟨fun i hi => absurd hi (by omega), fun i _ hi => HF.out i hi⟩, hbl⟩
    case round =>
      obtain ⟨k, arr, hk, rfl, hst, hfl, hbr⟩ := hrel
      have HST := Lib.hid hst
      have HFL := Lib.hid hfl
      clear hst hfl
      by_cases hkl : k < L
      · have c1 : wr.cell? ⟨g, k, none⟩ = some (.int .i64 (l.getD k 0)) := (hbr.cell (p := ⟨g, k, none⟩) hlt).trans (HC.out k hkl)
        generalize hu : l.getD k 0 = u at *
        have HU := Lib.hid hu
        clear hu
        have hltr : g < wr.heap.size := Nat.lt_of_lt_of_le hlt hbr.size
        go_wp2_with fail
        refine (push_any _ _ n k arr (-7) k 0 u _ (HST.out.alloc _) (by omega)).mono ?_; rintro e w2 ⟨rfl, hp, hkp⟩
        have HP := Lib.hid hp
        have HB2 := Lib.hid ((hbr.alloc hbr.size _).trans (hkp.below (by have := hbr.size; simp; omega) (by simp)))
        clear hp hkp
        go_wp2
        go_roundw
        case rel => exact ⟨k + 1, _, by omega, by go_num, HP.out, by have := HFL.out.step HP.out.size' (by omega) (-7); rw [HU.out] at this; exact this, HB2.out⟩
        case measure => simp [intOf]; omega
      · have hkk : k = L := by omega
        subst hkk
        go_wp2
        go_ret
        exact ⟨rfl, arr, by rw [HL.out]; exact HST.out, by rw [HL.out]; exact HFL.out, hbr⟩

/-- The same, the block numbers forgotten. -/
def FillPost2 (l : List Int) (n : Nat) (w : World) (e : Ending) (w' : World) : Prop :=
  ∃ A B arr, e = .returned (.pointer (some ⟨B, 0, none⟩)) ∧ w.heap.size ≤ A ∧ w.heap.size ≤ B ∧ Stk w' A B n (l.length : Int) arr ∧ Filled arr n l.length l ∧ Below w.heap.size w w'

theorem fill_sum (base : Nat) (v : Value) (l : List Int) (L sl : Nat) (hl : l.length = L) (hn : L + sl ≤ 131072) (w : World) (h : Own (Value.int .i64) 3 base w v l) :
    Calls Try.prog 11 #[v, .int .i64 ((L : Int) + (sl : Int))] w (FillPost2 l (L + sl) w) := by
  have := fill_any base v l (L + sl) hn (by omega) w h
  rw [Int.natCast_add] at this
  exact this.mono fun e w' ⟨he, arr, h1, h2, h3⟩ => ⟨_, _, arr, he, Nat.le_refl _, by omega, h1, h2, h3⟩

theorem own_form {α : Type} {V : α → Value} {T : TypeId} {base : Nat} {w : World} {v : Value} {l : List α} (h : Own V T base w v l) : ∃ p : Option Addr, v = .slice p l.length l.length := by
  rcases h with ⟨rfl, rfl⟩ | ⟨g, rfl, _⟩
  · exact ⟨none, rfl⟩
  · exact ⟨_, rfl⟩

theorem isFull_is (A B n : Nat) (sp : Int) (arr : Array Value) (w : World) (b : Bool) (hb : (sp == (n : Int)) = b) (h : Stk w A B n sp arr) :
    Calls Try.prog 19 #[.pointer (some ⟨B, 0, none⟩)] w fun e w' => e = .returned (.bool b) ∧ ∃ k, w' = w.drewN k := by
  rw [← hb]
  exact isFull_any A B n sp arr w h
theorem isEmpty_is (A B n : Nat) (sp : Int) (arr : Array Value) (w : World) (b : Bool) (hb : (sp == 0) = b) (h : Stk w A B n sp arr) :
    Calls Try.prog 16 #[.pointer (some ⟨B, 0, none⟩)] w fun e w' => e = .returned (.bool b) ∧ w = w' := by
  rw [← hb]
  exact isEmpty_any A B n sp arr w h

/-- The elements of an owned row. -/
theorem own_cell {α : Type} {V : α → Value} {T : TypeId} {base : Nat} {w : World} {p : Option Addr} {L : Nat} {l : List α} (h : Own V T base w (.slice p L L) l) {k : Nat} (d : α) (hk : k < l.length) :
    ∃ g, p = some ⟨g, 0, none⟩ ∧ base ≤ g ∧ g < w.heap.size ∧ w.cell? ⟨g, k, none⟩ = some (V (l.getD k d)) := by
  rcases h with ⟨h1, rfl⟩ | ⟨g, h1, hb, hg⟩
  · simp at hk
  · cases h1
    refine ⟨g, rfl, hb, lt_of_block hg, ?_⟩
    rw [cell_of_row _ _ _ _ _ _ hg]
    simp [List.getD, hk]

/-! Pointers to frames. -/
theorem ptr_same (a : Addr) (w : World) : (binOp .eql 27 (.pointer (some a)) (.pointer (some a))).run Try.prog w = .ok (.bool true) w := by
  obtain ⟨i0, hi, _, _, _⟩ := info_parts infoFrame
  exact run_eql_ptr_same w a Try.underlying27 hi
theorem ptr_same_neq (a : Addr) (w : World) : (binOp .neq 27 (.pointer (some a)) (.pointer (some a))).run Try.prog w = .ok (.bool false) w := by
  obtain ⟨i0, hi, _, _, _⟩ := info_parts infoFrame
  have h : ∀ d : Nat, (Op.equalIn (d + 1) 27 (.pointer (some a)) (.pointer (some a))).run Try.prog w = .ok true w := fun d => by
    simp [Op.equalIn, run_underlying Try.underlying27, sizeOf, typeInfo, hi, run_sameAddr_same]
  simp only [binOp]
  simp [Op.equal, Op.maxDepth, h 9999]

theorem eq_nil (w : World) (d : Nat) (tp te : TypeId) (hp : Try.prog.underlying tp = some (.pointer te)) : (Op.equalIn (d + 1) tp (.pointer none) (.pointer none)).run Try.prog w = .ok true w := by
  simp [Op.equalIn, run_underlying hp]

/-- Two equal frames. -/
theorem frame_neq (x p b r : Int) (w : World) :
    (binOp .neq 31 (.agg #[.int .i64 x, .pointer none, .pointer none, .int .i64 p, .int .i64 b, .int .i64 0, .int .i64 0, .int .i64 0, .int .i64 r, .int .i64 0])
      (.agg #[.int .i64 x, .pointer none, .pointer none, .int .i64 p, .int .i64 b, .int .i64 0, .int .i64 0, .int .i64 0, .int .i64 r, .int .i64 0])).run Try.prog w = .ok (.bool false) w := by
  rw [run_neq_struct]
  have h : (Op.equalIn 10000 31 (.agg #[.int .i64 x, .pointer none, .pointer none, .int .i64 p, .int .i64 b, .int .i64 0, .int .i64 0, .int .i64 0, .int .i64 r, .int .i64 0])
      (.agg #[.int .i64 x, .pointer none, .pointer none, .int .i64 p, .int .i64 b, .int .i64 0, .int .i64 0, .int .i64 0, .int .i64 r, .int .i64 0])).run Try.prog w = .ok true w := by
    rw [run_equalIn_struct w 9999 31 _ _ (by kernel_rfl) (by kernel_rfl)]
    simp [go_sem, eq_nil w 9998 29 _ Try.underlying29, eq_nil w 9998 27 _ Try.underlying27]
  rw [h]
  rfl

theorem nil_fn (w : World) : (Op.equalIn 9999 29 (.pointer none) (.pointer none)).run Try.prog w = .ok true w := eq_nil w 9998 29 _ Try.underlying29
theorem nil_fr (w : World) : (Op.equalIn 9999 27 (.pointer none) (.pointer none)).run Try.prog w = .ok true w := eq_nil w 9998 27 _ Try.underlying27

theorem cells10 {w : World} {A B n i : Nat} {sp : Int} {arr : Array Value} {x p b r : Int} (h : Stk w A B n sp arr) (hf : Fr arr i x p b r) :
    w.cell? ⟨A, i * 10, none⟩ = some (.int .i64 x) ∧ w.cell? ⟨A, i * 10 + 1, none⟩ = some (.pointer none) ∧ w.cell? ⟨A, i * 10 + 2, none⟩ = some (.pointer none) ∧ w.cell? ⟨A, i * 10 + 3, none⟩ = some (.int .i64 p) ∧
      w.cell? ⟨A, i * 10 + 4, none⟩ = some (.int .i64 b) ∧ w.cell? ⟨A, i * 10 + 5, none⟩ = some (.int .i64 0) ∧ w.cell? ⟨A, i * 10 + 6, none⟩ = some (.int .i64 0) ∧ w.cell? ⟨A, i * 10 + 7, none⟩ = some (.int .i64 0) ∧
      w.cell? ⟨A, i * 10 + 8, none⟩ = some (.int .i64 r) ∧ w.cell? ⟨A, i * 10 + 9, none⟩ = some (.int .i64 0) := by
  have hc : ∀ j, j < 10 → w.cell? ⟨A, i * 10 + j, none⟩ = (frm x p b r)[j]? := fun j hj => by rw [cell_of_row _ _ _ _ _ _ h.hA]; exact hf j hj
  exact ⟨hc 0 (by omega), hc 1 (by omega), hc 2 (by omega), hc 3 (by omega), hc 4 (by omega), hc 5 (by omega), hc 6 (by omega), hc 7 (by omega), hc 8 (by omega), hc 9 (by omega)⟩

theorem at_flip (A B n : Nat) (sp : Int) (i : Nat) (arr : Array Value) (w : World) (h : Stk w A B n sp arr) (hi : i < n) :
    Calls Try.prog 15 #[.pointer (some ⟨B, 0, none⟩), .int .i64 i] w fun e w' => e = .returned (.pointer (some ⟨A, i * 10, none⟩)) ∧ w' = w :=
  (at_any A B n sp i arr w h hi).mono fun _ _ ⟨h1, h2⟩ => ⟨h1, h2.symm⟩

theorem freeAll_any (B : Nat) (w : World) : Calls Try.prog 22 #[.pointer (some ⟨B, 0, none⟩)] w fun e w' => e = .returned (.tuple #[]) ∧ w = w' := by
  go_enter Try.func22, Try.ntmps22
  go_wp2
  go_end0
  exact ⟨rfl, rfl⟩

end Go.Proofs.Ytgdobbebabjafaa
