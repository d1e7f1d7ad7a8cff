/- The contract of RegisterUnique. -/
import Derived.Test.YtijkbkmbokhbaaaPoolFind103
namespace Go.Proofs.Ytijkbkmbokhbaaa
open Go.RowKit
set_option linter.unusedVariables false

def regR (ns : List ByteArray) (q : ByteArray) (off : Int) : Int := match lix ns q ns.length with
  | some k => (k : Int) + off
  | none => (ns.length : Int) + off
def regL (ns : List ByteArray) (q : ByteArray) : List ByteArray := match lix ns q ns.length with
  | some _ => ns
  | none => ns ++ [q]

/-- What a registration leaves: a pool, and what was of neither as it was. -/
def Left (w w' : World) (S base : Nat) (ns ns' : List ByteArray) (off : Int) (a : Option Addr) (c : Nat) : Prop :=
  Below base w w' ∧ ∃ a' c', Pl w' S base ns' off a' c' ∧ ∀ X, X < w.heap.size → X ≠ S → (Value.slice a ns.length c).ownBlock ≠ some X → w'.heap[X]? = w.heap[X]? ∧ (Value.slice a' ns'.length c').ownBlock ≠ some X

set_option maxHeartbeats 1000000 in
theorem regU0 (S base : Nat) (ns : List ByteArray) (off : Int) (q : ByteArray) (w : World) (a : Option Addr) (c : Nat) (h : Pl w S base ns off a c) (h0 : 0 ≤ off) (h1 : off ≤ 1073741824) (hn : ns.length ≤ 1048576) :
    Calls Try.prog 33 #[.pointer (some ⟨S, 0, none⟩), .string q] w fun e w' => e = .returned (.int .i64 (regR ns q off)) ∧ Left w w' S base ns (regL ns q) off a c := by
  have H := Lib.hid h
  have HF := Lib.hid (find0 S base ns off q w ⟨a, c, h⟩ h0 h1 hn)
  clear h
  cases hlx : lix ns q ns.length with
  | some k =>
    have hk := (lix_some hlx).1
    have e1 : findR ns q off = (k : Int) + off := by unfold findR; rw [hlx]
    have e2 : regR ns q off = (k : Int) + off := by unfold regR; rw [hlx]
    have e3 : regL ns q = ns := by unfold regL; rw [hlx]
    rw [e2, e3]
    rw [e1] at HF
    have b1 : ¬ ((k : Int) + off < 0) := by omega
    clear e1 e2 e3 hlx
    generalize (k : Int) + off = r at *
    go_enter Try.func33, Try.ntmps33
    go_wp2_with fail
    refine HF.out.mono ?_; rintro e w1 ⟨rfl, kk, rfl⟩
    go_wp2
    go_ret
    exact ⟨rfl, below_drewN (Below.refl _ _) _, a, c, ⟨H.out.hb, H.out.hS, H.out.hr⟩, fun X _ _ ho => ⟨rfl, ho⟩⟩
  | none =>
    have e1 : findR ns q off = -1 := by unfold findR; rw [hlx]
    have e2 : regR ns q off = (ns.length : Int) + off := by unfold regR; rw [hlx]
    have e3 : regL ns q = ns ++ [q] := by unfold regL; rw [hlx]
    rw [e2, e3]
    rw [e1] at HF
    clear e1 e2 e3 hlx
    have HR := Lib.hid (fun kk => register0 S base ns off q (w.drewN kk) a c ⟨H.out.hb, H.out.hS, H.out.hr⟩ h0 h1 hn)
    generalize (ns.length : Int) + off = r at *
    go_enter Try.func33, Try.ntmps33
    go_wp2_with fail
    refine HF.out.mono ?_; rintro e w1 ⟨rfl, kk, rfl⟩
    go_wp2_with fail
    refine (HR.out kk).mono ?_; rintro e w1 ⟨rfl, hb, a', c', hp, hx⟩
    have HB := Lib.hid hb
    have HP := Lib.hid hp
    have HX := Lib.hid hx
    clear hb hp hx
    go_wp2
    go_ret
    refine ⟨rfl, (below_drewN (Below.refl _ _) _).trans HB.out, a', c', HP.out, fun X h1 h2 h3 => ?_⟩
    have h5 := HX.out X h1 h2 h3
    exact ⟨h5.1, by rw [List.length_append]; exact h5.2⟩

theorem regU_x (S base : Nat) (ns : List ByteArray) (off : Int) (q : ByteArray) (w : World) (a : Option Addr) (c : Nat) (h : Pl w S base ns off a c) (h0 : 0 ≤ off) (h1 : off ≤ 1073741824) (hn : ns.length ≤ 1048576) :
    Calls Try.prog 24 #[.pointer (some ⟨S, 0, none⟩), .string q] w fun e w' => e = .returned (.int .i64 (regR ns q off)) ∧ Left w w' S base ns (regL ns q) off a c := by
  have H := Lib.hid (regU0 S base ns off q w a c h h0 h1 hn)
  clear h
  generalize regR ns q off = r at *
  go_enter Try.func24, Try.ntmps24
  go_wp2_with fail
  refine H.out.mono ?_; rintro e w1 ⟨rfl, hp⟩
  have HP := Lib.hid hp
  clear hp
  go_wp2
  go_ret
  exact ⟨rfl, HP.out⟩

theorem regU_any (S base : Nat) (ns : List ByteArray) (off : Int) (q : ByteArray) (w : World) (h : Pool w S base ns off) (h0 : 0 ≤ off) (h1 : off ≤ 1073741824) (hn : ns.length ≤ 1048576) :
    Calls Try.prog 24 #[.pointer (some ⟨S, 0, none⟩), .string q] w fun e w' => e = .returned (.int .i64 (regR ns q off)) ∧ Pool w' S base (regL ns q) off ∧ Below base w w' := by
  obtain ⟨a, c, h⟩ := h
  refine (regU_x S base ns off q w a c h h0 h1 hn).mono ?_
  rintro e w1 ⟨h1, h2, a', c', h3, _⟩
  exact ⟨h1, ⟨a', c', h3⟩, h2⟩
theorem regUX_any (S base : Nat) (ns : List ByteArray) (off : Int) (q : ByteArray) (w : World) (X : Nat) (h : PoolX w S base ns off X) (hX : X < w.heap.size) (h0 : 0 ≤ off) (h1 : off ≤ 1073741824) (hn : ns.length ≤ 1048576) :
    Calls Try.prog 24 #[.pointer (some ⟨S, 0, none⟩), .string q] w fun e w' => e = .returned (.int .i64 (regR ns q off)) ∧ PoolX w' S base (regL ns q) off X ∧ Below base w w' ∧ w'.heap[X]? = w.heap[X]? := by
  obtain ⟨a, c, h, hxs, ho⟩ := h
  refine (regU_x S base ns off q w a c h h0 h1 hn).mono ?_
  rintro e w1 ⟨h1, h2, a', c', h3, h4⟩
  have h5 := h4 X hX hxs ho
  exact ⟨h1, ⟨a', c', h3, hxs, h5.2⟩, h2, h5.1⟩

end Go.Proofs.Ytijkbkmbokhbaaa
