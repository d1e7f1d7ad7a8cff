/- The contract of opSetArgBx: it writes the field into the word behind the pointer. -/
import Derived.Test.YtiihgamhmflphaaFmtRows
import Derived.Test.YtiihgamhmflphaaFmtFields
import Derived.WalkKit
import Derived.WalkSpells
import Derived.WalkLawsBesides
import Derived.Lib.Hide
namespace Go.Proofs.YtiihgamhmflphaaFmt
open Go.RowKit
set_option linter.unusedVariables false

set_option maxHeartbeats 400000 in
theorem setBx_any (b o : Nat) (x k : Int) (w : World) (hx : Fld.W32 x) (hc : w.cell? ⟨b, o, none⟩ = some (.int .u32 x)) (hf : w.frozen? ⟨b, o, none⟩ = false) :
    Calls Tryf.prog 59 #[.pointer (some ⟨b, o, none⟩), .int .i64 k] w fun e w' => e = .returned (.tuple #[]) ∧ w.setCell ⟨b, o, none⟩ (.int .u32 (Fld.setBx x k)) = w' := by
  have h := Fld.setBx_eq (k := k) hx
  have H := Lib.hid h
  obtain ⟨h1, h2⟩ := hx
  clear h
  go_enter Tryf.func59, Tryf.ntmps59
  go_wp2
  go_end0
  exact ⟨rfl, by rw [← H.out]⟩

end Go.Proofs.YtiihgamhmflphaaFmt
