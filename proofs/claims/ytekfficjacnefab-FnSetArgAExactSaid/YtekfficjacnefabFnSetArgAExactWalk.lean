/- The walk of FnSetArgAExact. -/
import Derived.Test.YtekfficjacnefabFldSetA
namespace Go.Proofs.Ytekfficjacnefab.fnSetArgAExact
open Go.RowKit
set_option linter.unusedVariables false

theorem zz_any (b o : Nat) (x k : Int) (w : World) (hx : Fld.W32 x) (hc : w.cell? ⟨b, o, none⟩ = some (.int .u32 x)) (hf : w.frozen? ⟨b, o, none⟩ = false) :
    Calls Try.prog 10 #[.pointer (some ⟨b, o, none⟩), .int .i64 k] w fun e w' => e = .returned (.tuple #[]) ∧ w.setCell ⟨b, o, none⟩ (.int .u32 (Fld.setA x k)) = w' := by
  go_enter Try.func10, Try.ntmps10
  go_wp2_with fail
  refine (setA_any b o x k _ hx hc hf).mono ?_; rintro e w' ⟨rfl, rfl⟩
  go_wp2
  go_end0
  exact ⟨rfl, rfl⟩

set_option maxHeartbeats 400000 in
theorem walk (a0 : Int) (a1 : Int) (w : World) (w0 : (Lit.int .u32 a0).wf = true) (w1 : (Lit.int .i64 a1).wf = true) :
    Calls Try.prog 5 #[.int .u32 a0, .int .i64 a1] w fun e w' => e = .returned (.bool true) ∧ Below w.heap.size w w' := by
  have hx : 0 ≤ a0 ∧ a0 ≤ 4294967295 := by simpa [Lit.wf, IntKind.min, IntKind.max, IntKind.signed, IntKind.bits] using w0
  have hk : -9223372036854775808 ≤ a1 ∧ a1 ≤ 9223372036854775807 := by simpa [Lit.wf, IntKind.min, IntKind.max, IntKind.signed, IntKind.bits] using w1
  have hw : Fld.W32 a0 := hx
  clear w0 w1
  obtain ⟨hx1, hx2⟩ := hx
  obtain ⟨hk1, hk2⟩ := hk
  obtain ⟨q, hq, ht1, ht2, _⟩ := Fld.tmod_spec a1 256 (by omega)
  have HQ := Lib.hid hq
  clear hq
  by_cases hm : a1.tmod 256 < 0
  · go_enter Try.func5, Try.ntmps5
    go_wp2_with fail
    refine (zz_any _ _ a0 a1 _ hw (by simp [go_sem]) (by simp [go_sem])).mono ?_; rintro e w' ⟨rfl, rfl⟩
    go_wp2
    go_ret
    exact ⟨congrArg (fun b => Ending.returned (.bool b)) (show (Fld.setA a0 a1 == a0 - a0 / 262144 % 256 * 262144 + (a1.tmod 256 + 256) * 262144) = true by rw [beq_iff_eq]; have := HQ.out; unfold Fld.setA; omega), (by repeat (first | exact Below.refl _ _ | apply Below.drew | (refine Below.alloc ?_ (Nat.le_refl _) _) | (refine Below.setCell ?_ (by simp) _)))⟩
  · have hm' : 0 ≤ a1.tmod 256 := by omega
    go_enter Try.func5, Try.ntmps5
    go_wp2_with fail
    refine (zz_any _ _ a0 a1 _ hw (by simp [go_sem]) (by simp [go_sem])).mono ?_; rintro e w' ⟨rfl, rfl⟩
    go_wp2
    go_ret
    exact ⟨congrArg (fun b => Ending.returned (.bool b)) (show (Fld.setA a0 a1 == a0 - a0 / 262144 % 256 * 262144 + a1.tmod 256 * 262144) = true by rw [beq_iff_eq]; have := HQ.out; unfold Fld.setA; omega), (by repeat (first | exact Below.refl _ _ | apply Below.drew | (refine Below.alloc ?_ (Nat.le_refl _) _) | (refine Below.setCell ?_ (by simp) _)))⟩
end Go.Proofs.Ytekfficjacnefab.fnSetArgAExact
