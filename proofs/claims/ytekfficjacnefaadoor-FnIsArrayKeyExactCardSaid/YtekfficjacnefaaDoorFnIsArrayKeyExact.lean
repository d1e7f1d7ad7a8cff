/- The Go function n005_10.FnIsArrayKeyExact returns true for every input and leaves its arguments as they were, the package variable that it reads holding what the program lays there: the tied card. (Written by program, shell.py, over the walk.) -/
import Derived.Test.YtekfficjacnefaaDoorCards
import Derived.Test.YtekfficjacnefaaDoorTie
import Derived.Test.YtekfficjacnefaaDoorFnIsArrayKeyExactWalk
import Derived.Test.YtekfficjacnefaaDoorLaidVars
import Derived.WalkKit
import Derived.WalkLawsBesides
import Derived.ProofKit
import Derived.OpenShut
import Derived.ShutString
import Derived.ChangeOld
import Derived.Below
import Derived.OpenVars
import Derived.ChangeVars
import Derived.Deep.DeepHandedRow
namespace Go.Proofs.YtekfficjacnefaaDoor.fnIsArrayKeyExact
open Go.ChangeShapes Go.WideShapes Go.ChangeAt Go.RowKit
open Go.ChangeMaps (open_string shut_string)
set_option linter.unusedVariables false

theorem own : ownKnob Tryd.prog.godebug = none := by kernel_rfl
theorem laidOut : laidOutB Tryd.prog = true := by kernel_rfl
theorem gVar : Tryd.prog.globalNamed "github.com/yuin/gopher-lua.MaxArrayIndex" = some 0 := by kernel_rfl
theorem gType : (Tryd.prog.globals[0]?).map (·.type) = some 3 := by kernel_rfl

set_option maxRecDepth 100000 in
theorem contract (H : Type) (enc : TypeId × Value → H) (W : World) (base : Nat) (args : Array Value) (ds gs : List (DataW H)) (before : List MemPlace)
    (hval : ∀ (j : Nat) t v, Tryd.f5.params[j]? = some t → args[j]? = some v → Value.okWide Tryd.prog W .any base t v)
    (hW : DataW.Whole enc Tryd.prog Tryd.f5.params.toList Rows.fnIsArrayKeyExactSpec.vars false W args.toList ds gs before) (hL : laidMetH Tryd.prog Rows.fnIsArrayKeyExactRow.laid W) :
    Calls Tryd.prog 5 args W fun e W' => ∃ v, e = .returned v ∧ Rows.fnIsArrayKeyExactSpec.post enc Tryd.prog Tryd.f5 false true false false W args v W' := by
  have hW' := hW
  obtain ⟨p, q, hA0, hV, rfl, hfz, hnd⟩ := hW
  have hA : DataW.TrodAll enc Tryd.prog W 0 (fun _ => true) true Tryd.f5.params.toList args.toList ds p := hA0
  rw [Tryd.params5] at hA hval
  obtain ⟨v0, vs0, d0, ds0, p0, q0, hargs, rfl, rfl, h0, r0⟩ := trodAll_cons hA
  obtain ⟨rfl, rfl, rfl⟩ := trodAll_nil r0
  obtain rfl : args = #[v0] := by cases args; simp_all
  have hV0 := hV
  have hg : 0 < W.heap.size := by
    obtain ⟨g, t, cs, fuel, d, p', _, e1, e2, e3, _, _⟩ := trodVars_one hV0
    obtain rfl := Option.some.inj (gVar.symm.trans e1)
    exact size_of_var gVar e3
  obtain ⟨dv, rfl⟩ : ∃ dv, gs = [dv] := by
    obtain ⟨g, t, cs, fuel, d, p', e, _⟩ := trodVars_one hV0
    exact ⟨d, e⟩
  obtain ⟨a0, rfl, rfl, rfl, w0⟩ := open_float Tryd.underlying24 (hval 0 24 v0 rfl rfl) h0
  clear hA0
  refine (walk a0 W w0 (LV.var_int gVar gType Tryd.underlying3 hL) hg).mono fun e W' ⟨he, bel⟩ => ?_
  subst he
  exact ⟨_, rfl, _, _, _, [], _, _, hW', trodAll_mk1 (shut_bool Tryd.underlying4 _), (trodAll_cons_mk (shut_float Tryd.underlying24 w0) trodAll_mk0), Below.trodVars laidOut bel (by kernel_rfl) hV, bel.frame _, fun h => by cases h⟩

noncomputable def laidWorld (os : Os) : World :=
  { World.holding Tryd.prog os ⟨#[], #[], []⟩ with heap := (World.holding Tryd.prog os ⟨#[], #[], []⟩).heap.modify 0 fun
      | .cells _ t frozen => .cells #[.int .i64 67108864] t frozen
      | o => o }
theorem laid_met (os : Os) : laidMet Tryd.prog Rows.fnIsArrayKeyExactRow.laid ((laidWorld os).forCall (fun _ _ => 0) ⟨#[], #[.float .f64 0], []⟩).memory :=
  laidMet_of_run' 8 (by kernel_rfl) (by kernel_rfl)
theorem reads (os : Os) {H : Type} (enc : TypeId × Value → H) : ∃ places, DataW.whole enc Tryd.prog ((laidWorld os).forCall (fun _ _ => 0) ⟨#[], #[.float .f64 0], []⟩).memory Tryd.f5.params.toList Rows.fnIsArrayKeyExactSpec.vars false (#[.float .f64 0] : Array Value).toList 8 = some ([.lit (.float .f64 0)], [Rows.laid_github_com_yuin_gopher_lua_MaxArrayIndex], places) :=
  ⟨[.cell 0 0], by kernel_rfl⟩

set_option maxRecDepth 100000 in
theorem lifted (os : Os) (started : os.Started) (H : Type) (enc : TypeId × Value → H) (F : Stop.Interp) :
    ReturnsInHanded {} Tryd.checked os 5 .any ((OpenSpec.ofChange Rows.fnIsArrayKeyExactSpec).preRow enc Tryd.prog Tryd.f5 Rows.fnIsArrayKeyExactRow.domain false Rows.fnIsArrayKeyExactRow.laid) (((OpenSpec.ofChange Rows.fnIsArrayKeyExactSpec).at F).post enc Tryd.prog Tryd.f5 false true false false) := by
  obtain ⟨places, hx⟩ := reads os enc
  refine returnsInHanded_of_row (C := Tryd.checked) (s := OpenSpec.ofChange Rows.fnIsArrayKeyExactSpec) own started (by kernel_rfl) Tryd.func5
    (witness_row_at (enc := enc) (C := Tryd.checked) false (laidWorld os) #[.float .f64 0] rfl (by kernel_rfl) (by kernel_rfl) (by kernel_rfl)
      (OpenSpec.preRow_of_cond 8 hx (by kernel_rfl) (fun k hk => by cases hk) (by kernel_rfl) (laid_met os))) ?_
  intro W base args ds gs before hval hW _ _ _ hL _ _
  exact contract H enc W base args ds gs before hval hW hL

theorem said : Rows.FnIsArrayKeyExactSaid :=
  OpenClaim.holds_of_cond 5 Tryd.f5 rfl rfl rfl rfl rfl rfl rfl ⟨rfl, rfl, rfl, rfl, rfl⟩ rfl rfl rfl rfl rfl (by kernel_rfl) Tryd.func5 (by kernel_rfl)
    (of_decide_eq_true (by kernel_rfl)) (by unfold Func.isWrapper; first | (rw [if_pos (by decide +kernel)]; kernel_rfl) | (rw [if_neg (by decide +kernel)]; exact ⟨rfl, rfl⟩))
    (fun os started H enc _ F => by rw [OpenClaim.pre_eq_preRow]; exact lifted os started H enc F)

theorem plain (f : FuncId) (fn : Func) (hf : Tryd.pinned.checked.prog.funcNamed "github.com/yuin/gopher-lua/n005_10.FnIsArrayKeyExact" = some f) (hfn : Tryd.pinned.checked.prog.funcs[f]? = some fn) :
    false = Tryd.pinned.checked.prog.looks [] ∧ ∀ (j : Nat) t, fn.params[j]? = some t → Tryd.pinned.checked.prog.wantsStandIn t = false := by
  obtain rfl : f = 5 := Option.some.inj ((show Tryd.prog.funcNamed "github.com/yuin/gopher-lua/n005_10.FnIsArrayKeyExact" = some 5 by kernel_rfl).symm.trans hf) |>.symm
  obtain rfl : fn = Tryd.f5 := (Option.some.inj (Tryd.func5.symm.trans hfn)).symm
  refine ⟨by kernel_rfl, fun j t ht => ?_⟩
  rw [Tryd.params5] at ht
  obtain rfl : t = 24 := by simpa using Array.mem_of_getElem? ht
  · exact (show Tryd.prog.wantsStandIn 24 = false by kernel_rfl)

theorem proved : Rows.FnIsArrayKeyExactCardSaid :=
  Claim7.holds_tied_plain_at .later [] _ _ _ _ said (fun _ h => by cases h) (by kernel_rfl) (fun _ h => by cases h) fnIsArrayKeyExact_row_tie rfl ⟨rfl, rfl⟩ (by kernel_rfl) rfl plain (by kernel_rfl)
#print axioms proved
end Go.Proofs.YtekfficjacnefaaDoor.fnIsArrayKeyExact
