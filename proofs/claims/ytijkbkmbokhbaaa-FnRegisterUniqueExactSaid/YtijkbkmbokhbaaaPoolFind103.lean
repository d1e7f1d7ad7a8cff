/- The contract of Find: the last place that holds the name. -/
import Derived.Test.YtijkbkmbokhbaaaPool103
namespace Go.Proofs.Ytijkbkmbokhbaaa
open Go.RowKit
set_option linter.unusedVariables false

theorem tl_inj {a b : ByteArray} (h : a.toList = b.toList) : a = b := by
  rw [ByteArray.toList_eq, ByteArray.toList_eq] at h
  exact ByteArray.ext (Array.toList_inj.1 h)
theorem tl_ne {a b : ByteArray} (h : a ≠ b) : (a.toList == b.toList) = false := by
  rw [Bool.eq_false_iff]
  intro e
  exact h (tl_inj (by simpa using e))

/-- The last place below k that holds q. -/
def lix (ns : List ByteArray) (q : ByteArray) : Nat → Option Nat
  | 0 => none
  | k + 1 => if ns.getD k ByteArray.empty = q then some k else lix ns q k
def findR (ns : List ByteArray) (q : ByteArray) (off : Int) : Int := match lix ns q ns.length with
  | some k => (k : Int) + off
  | none => -1

theorem lix_some {ns : List ByteArray} {q : ByteArray} : ∀ {n k : Nat}, lix ns q n = some k → k < n ∧ ns.getD k ByteArray.empty = q ∧ ∀ j, k < j → j < n → ns.getD j ByteArray.empty ≠ q
  | 0, k, h => by simp [lix] at h
  | n + 1, k, h => by
    unfold lix at h
    split at h
    · next e =>
      cases h
      exact ⟨by omega, e, fun j h1 h2 => by omega⟩
    · next e =>
      obtain ⟨h1, h2, h3⟩ := lix_some h
      refine ⟨by omega, h2, fun j a b => ?_⟩
      by_cases ej : j = n
      · subst ej; exact e
      · exact h3 j a (by omega)
theorem lix_none {ns : List ByteArray} {q : ByteArray} : ∀ {n : Nat}, lix ns q n = none → ∀ j, j < n → ns.getD j ByteArray.empty ≠ q
  | 0, _, j, hj => by omega
  | n + 1, h, j, hj => by
    unfold lix at h
    split at h
    · cases h
    · next e =>
      by_cases ej : j = n
      · subst ej; exact e
      · exact lix_none h j (by omega)

set_option maxHeartbeats 1000000 in
theorem find0 (S base : Nat) (ns : List ByteArray) (off : Int) (q : ByteArray) (w : World) (h : Pool w S base ns off) (h0 : 0 ≤ off) (h1 : off ≤ 1073741824) (hn : ns.length ≤ 1048576) :
    Calls Try.prog 30 #[.pointer (some ⟨S, 0, none⟩), .string q] w fun e w' => e = .returned (.int .i64 (findR ns q off)) ∧ ∃ k, w' = w.drewN k := by
  obtain ⟨a, c, h⟩ := h
  have H := Lib.hid h
  obtain ⟨n, hN⟩ : ∃ n, n = ns.length := ⟨_, rfl⟩
  have HN := Lib.hid hN
  have c0 := h.c0
  have c1 := h.c1
  rw [← hN] at c0 hn
  clear h hN
  go_enter Try.func30, Try.ntmps30
  go_wp2_with fail
  go_loopw [5] (fun i wr => ∃ d k : Nat, d ≤ n ∧ i = .int .i64 ((d : Int) - 1) ∧ wr = w.drewN k ∧ lix ns q n = lix ns q d) (fun i _ => (intOf i + 1).toNat)
  case atStart => exact ⟨n, 0, by omega, rfl, rfl, rfl⟩
  case round =>
    obtain ⟨d, k, hd, rfl, hwq, hlx⟩ := hrel
    have d0 : wr.cell? ⟨S, 0, none⟩ = some (.slice a n c) := by rw [hwq]; exact c0
    have d1 : wr.cell? ⟨S, 1, none⟩ = some (.int .i64 off) := by rw [hwq]; exact c1
    have HWQ := Lib.hid hwq
    have HLX := Lib.hid hlx
    clear hwq hlx
    cases d with
    | zero =>
      have ez : (((0 : Nat) : Int) - 1) = -1 := by omega
      rw [ez]
      clear ez
      go_wp2
      go_ret
      refine ⟨?_, k, HWQ.out⟩
      have e : findR ns q off = -1 := by
        unfold findR
        rw [← HN.out, HLX.out]
        rfl
      rw [e]; rfl
    | succ m =>
      have ef : (((m + 1 : Nat) : Int) - 1) = (m : Int) := by omega
      rw [ef]
      clear ef
      obtain ⟨g, ea, hc⟩ := H.out.name (i := m) (by rw [← HN.out]; omega)
      subst ea
      have d2 : wr.cell? ⟨g, m, none⟩ = some (.string (ns.getD m ByteArray.empty)) := by rw [HWQ.out]; exact hc
      have b1 : (0 : Int) ≤ (m : Int) := by omega
      have b2 : (m : Int) < (n : Int) := by omega
      clear hc
      by_cases hx : ns.getD m ByteArray.empty = q
      · have hl : lix ns q n = some m := by rw [HLX.out]; simp only [lix, if_pos hx]
        have HL := Lib.hid hl
        clear hl
        rw [hx] at d2
        clear hx
        go_wp2
        go_ret
        refine ⟨?_, k, HWQ.out⟩
        have e : findR ns q off = (m : Int) + off := by
          unfold findR
          rw [← HN.out, HL.out]
        rw [e]; rfl
      · have hl : lix ns q n = lix ns q m := by rw [HLX.out]; simp only [lix, if_neg hx]
        have HL := Lib.hid hl
        clear hl
        generalize ns.getD m ByteArray.empty = x at *
        have hx1 := tl_ne hx
        clear hx
        go_wp2
        go_roundw
        case rel => exact ⟨m, k, by omega, by go_num, HWQ.out, HL.out⟩
        case measure => simp [intOf]

theorem find_any (S base : Nat) (ns : List ByteArray) (off : Int) (q : ByteArray) (w : World) (h : Pool w S base ns off) (h0 : 0 ≤ off) (h1 : off ≤ 1073741824) (hn : ns.length ≤ 1048576) :
    Calls Try.prog 16 #[.pointer (some ⟨S, 0, none⟩), .string q] w fun e w' => e = .returned (.int .i64 (findR ns q off)) ∧ ∃ k, w' = w.drewN k := by
  have H := Lib.hid (find0 S base ns off q w h h0 h1 hn)
  clear h
  generalize findR ns q off = r at *
  go_enter Try.func16, Try.ntmps16
  go_wp2_with fail
  refine H.out.mono ?_; rintro e w1 ⟨rfl, k, rfl⟩
  go_wp2
  go_ret
  exact ⟨rfl, k, rfl⟩

end Go.Proofs.Ytijkbkmbokhbaaa
