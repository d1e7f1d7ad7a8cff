/- The Go function n005_113.FnTypeTagNameAgrees returns true for every input and leaves its arguments as they were, the package variable that it reads holding what the program lays there: the tied card. (Written by program, shell.py, over the walk.) -/
import Derived.Test.YtekfficjacnefabDoorCards
import Derived.Test.YtekfficjacnefabDoorTie
import Derived.Test.YtekfficjacnefabDoorFnTypeTagNameAgreesWalk
import Derived.Test.YtekfficjacnefabDoorLaidVars
import Derived.WalkKit
import Derived.WalkLawsBesides
import Derived.ProofKit
import Derived.OpenShut
import Derived.ShutString
import Derived.ChangeOld
import Derived.Below
import Derived.OpenVars
import Derived.ChangeVars
import Derived.Deep.DeepHandedRow
namespace Go.Proofs.YtekfficjacnefabDoor.fnTypeTagNameAgrees
open Go.ChangeShapes Go.WideShapes Go.ChangeAt Go.RowKit
open Go.ChangeMaps (open_string shut_string)
set_option linter.unusedVariables false

theorem own : ownKnob Tryd.prog.godebug = none := by kernel_rfl
theorem laidOut : laidOutB Tryd.prog = true := by kernel_rfl
theorem gVar : Tryd.prog.globalNamed "github.com/yuin/gopher-lua.lValueNames" = some 0 := by kernel_rfl
theorem gType : (Tryd.prog.globals[0]?).map (·.type) = some 53 := by kernel_rfl

set_option maxRecDepth 100000 in
theorem contract (H : Type) (enc : TypeId × Value → H) (W : World) (base : Nat) (args : Array Value) (ds gs : List (DataW H)) (before : List MemPlace)
    (hval : ∀ (j : Nat) t v, Tryd.f4.params[j]? = some t → args[j]? = some v → Value.okWide Tryd.prog W .any base t v)
    (hW : DataW.Whole enc Tryd.prog Tryd.f4.params.toList Rows.fnTypeTagNameAgreesSpec.vars false W args.toList ds gs before) (hL : laidMetH Tryd.prog Rows.fnTypeTagNameAgreesRow.laid W) :
    Calls Tryd.prog 4 args W fun e W' => ∃ v, e = .returned v ∧ Rows.fnTypeTagNameAgreesSpec.post enc Tryd.prog Tryd.f4 false true false false W args v W' := by
  have hW' := hW
  obtain ⟨p, q, hA0, hV, rfl, hfz, hnd⟩ := hW
  have hA : DataW.TrodAll enc Tryd.prog W 0 (fun _ => true) true Tryd.f4.params.toList args.toList ds p := hA0
  rw [Tryd.params4] at hA hval
  obtain ⟨v0, vs0, d0, ds0, p0, q0, hargs, rfl, rfl, h0, r0⟩ := trodAll_cons hA
  obtain ⟨v1, vs1, d1, ds1, p1, q1, rfl, rfl, rfl, h1, r1⟩ := trodAll_cons r0
  obtain ⟨v2, vs2, d2, ds2, p2, q2, rfl, rfl, rfl, h2, r2⟩ := trodAll_cons r1
  obtain ⟨v3, vs3, d3, ds3, p3, q3, rfl, rfl, rfl, h3, r3⟩ := trodAll_cons r2
  obtain ⟨rfl, rfl, rfl⟩ := trodAll_nil r3
  obtain rfl : args = #[v0, v1, v2, v3] := by cases args; simp_all
  have hV0 := hV
  have hg : 0 < W.heap.size := by
    obtain ⟨g, t, cs, fuel, d, p', _, e1, e2, e3, _, _⟩ := trodVars_one hV0
    obtain rfl := Option.some.inj (gVar.symm.trans e1)
    exact size_of_var gVar e3
  obtain ⟨dv, rfl⟩ : ∃ dv, gs = [dv] := by
    obtain ⟨g, t, cs, fuel, d, p', e, _⟩ := trodVars_one hV0
    exact ⟨d, e⟩
  obtain ⟨a0, rfl, rfl, rfl, w0⟩ := open_int Tryd.underlying3 (hval 0 3 v0 rfl rfl) h0
  obtain ⟨a1, rfl, rfl, rfl⟩ := open_bool Tryd.underlying4 (hval 1 4 v1 rfl rfl) h1
  obtain ⟨a2, rfl, rfl, rfl, w2⟩ := open_string Tryd.underlying9 (hval 2 9 v2 rfl rfl) h2
  obtain ⟨a3, rfl, rfl, rfl, w3⟩ := open_float Tryd.underlying29 (hval 3 29 v3 rfl rfl) h3
  clear hA0
  refine (walk a0 a1 a2 a3 W w0 w2 w3 (LV.var_strs (ss := [[110, 105, 108], [98, 111, 111, 108, 101, 97, 110], [110, 117, 109, 98, 101, 114], [115, 116, 114, 105, 110, 103], [102, 117, 110, 99, 116, 105, 111, 110], [117, 115, 101, 114, 100, 97, 116, 97], [116, 104, 114, 101, 97, 100], [116, 97, 98, 108, 101], [99, 104, 97, 110, 110, 101, 108]]) gVar gType Tryd.underlying53 Tryd.underlying9 (by kernel_rfl) (by kernel_rfl) hL) hg).mono fun e W' ⟨he, bel⟩ => ?_
  subst he
  exact ⟨_, rfl, _, _, _, [], _, _, hW', trodAll_mk1 (shut_bool Tryd.underlying4 _), (trodAll_cons_mk (shut_int Tryd.underlying3 w0) (trodAll_cons_mk (shut_bool Tryd.underlying4 _) (trodAll_cons_mk (shut_string Tryd.underlying9 w2) (trodAll_cons_mk (shut_float Tryd.underlying29 w3) trodAll_mk0)))), Below.trodVars laidOut bel (by kernel_rfl) hV, bel.frame _, fun h => by cases h⟩

noncomputable def laidWorld (os : Os) : World :=
  { World.holding Tryd.prog os ⟨#[], #[], []⟩ with heap := (World.holding Tryd.prog os ⟨#[], #[], []⟩).heap.modify 0 fun
      | .cells _ t frozen => .cells #[.string ⟨#[110, 105, 108]⟩, .string ⟨#[98, 111, 111, 108, 101, 97, 110]⟩, .string ⟨#[110, 117, 109, 98, 101, 114]⟩, .string ⟨#[115, 116, 114, 105, 110, 103]⟩, .string ⟨#[102, 117, 110, 99, 116, 105, 111, 110]⟩, .string ⟨#[117, 115, 101, 114, 100, 97, 116, 97]⟩, .string ⟨#[116, 104, 114, 101, 97, 100]⟩, .string ⟨#[116, 97, 98, 108, 101]⟩, .string ⟨#[99, 104, 97, 110, 110, 101, 108]⟩] t frozen
      | o => o }
theorem laid_met (os : Os) : laidMet Tryd.prog Rows.fnTypeTagNameAgreesRow.laid ((laidWorld os).forCall (fun _ _ => 0) ⟨#[], #[.int .i64 0, .bool false, .string ByteArray.empty, .float .f64 0], []⟩).memory :=
  laidMet_of_run' 8 (by kernel_rfl) (by kernel_rfl)
theorem reads (os : Os) {H : Type} (enc : TypeId × Value → H) : ∃ places, DataW.whole enc Tryd.prog ((laidWorld os).forCall (fun _ _ => 0) ⟨#[], #[.int .i64 0, .bool false, .string ByteArray.empty, .float .f64 0], []⟩).memory Tryd.f4.params.toList Rows.fnTypeTagNameAgreesSpec.vars false (#[.int .i64 0, .bool false, .string ByteArray.empty, .float .f64 0] : Array Value).toList 8 = some ([.lit (.int .i64 0), .lit (.bool false), .lit (.string []), .lit (.float .f64 0)], [Rows.laid_github_com_yuin_gopher_lua_lValueNames], places) :=
  ⟨[.cell 0 0, .cell 0 1, .cell 0 2, .cell 0 3, .cell 0 4, .cell 0 5, .cell 0 6, .cell 0 7, .cell 0 8], by kernel_rfl⟩

set_option maxRecDepth 100000 in
theorem lifted (os : Os) (started : os.Started) (H : Type) (enc : TypeId × Value → H) (F : Stop.Interp) :
    ReturnsInHanded {} Tryd.checked os 4 .any ((OpenSpec.ofChange Rows.fnTypeTagNameAgreesSpec).preRow enc Tryd.prog Tryd.f4 Rows.fnTypeTagNameAgreesRow.domain false Rows.fnTypeTagNameAgreesRow.laid) (((OpenSpec.ofChange Rows.fnTypeTagNameAgreesSpec).at F).post enc Tryd.prog Tryd.f4 false true false false) := by
  obtain ⟨places, hx⟩ := reads os enc
  refine returnsInHanded_of_row (C := Tryd.checked) (s := OpenSpec.ofChange Rows.fnTypeTagNameAgreesSpec) own started (by kernel_rfl) Tryd.func4
    (witness_row_at (enc := enc) (C := Tryd.checked) false (laidWorld os) #[.int .i64 0, .bool false, .string ByteArray.empty, .float .f64 0] rfl (by kernel_rfl) (by kernel_rfl) (by kernel_rfl)
      (OpenSpec.preRow_of_cond 8 hx (by kernel_rfl) (fun k hk => by cases hk) (by kernel_rfl) (laid_met os))) ?_
  intro W base args ds gs before hval hW _ _ _ hL _ _
  exact contract H enc W base args ds gs before hval hW hL

theorem said : Rows.FnTypeTagNameAgreesSaid :=
  OpenClaim.holds_of_cond 4 Tryd.f4 rfl rfl rfl rfl rfl rfl rfl ⟨rfl, rfl, rfl, rfl, rfl⟩ rfl rfl rfl rfl rfl (by kernel_rfl) Tryd.func4 (by kernel_rfl)
    (of_decide_eq_true (by kernel_rfl)) (by unfold Func.isWrapper; first | (rw [if_pos (by decide +kernel)]; kernel_rfl) | (rw [if_neg (by decide +kernel)]; exact ⟨rfl, rfl⟩))
    (fun os started H enc _ F => by rw [OpenClaim.pre_eq_preRow]; exact lifted os started H enc F)

theorem plain (f : FuncId) (fn : Func) (hf : Tryd.pinned.checked.prog.funcNamed "github.com/yuin/gopher-lua/n005_113.FnTypeTagNameAgrees" = some f) (hfn : Tryd.pinned.checked.prog.funcs[f]? = some fn) :
    false = Tryd.pinned.checked.prog.looks [] ∧ ∀ (j : Nat) t, fn.params[j]? = some t → Tryd.pinned.checked.prog.wantsStandIn t = false := by
  obtain rfl : f = 4 := Option.some.inj ((show Tryd.prog.funcNamed "github.com/yuin/gopher-lua/n005_113.FnTypeTagNameAgrees" = some 4 by kernel_rfl).symm.trans hf) |>.symm
  obtain rfl : fn = Tryd.f4 := (Option.some.inj (Tryd.func4.symm.trans hfn)).symm
  refine ⟨by kernel_rfl, fun j t ht => ?_⟩
  rw [Tryd.params4] at ht
  have hm := Array.mem_of_getElem? ht
  simp only [List.mem_toArray, List.mem_cons, List.not_mem_nil, or_false] at hm
  rcases hm with rfl | rfl | rfl | rfl
  · exact (show Tryd.prog.wantsStandIn 3 = false by kernel_rfl)
  · exact (show Tryd.prog.wantsStandIn 4 = false by kernel_rfl)
  · exact (show Tryd.prog.wantsStandIn 9 = false by kernel_rfl)
  · exact (show Tryd.prog.wantsStandIn 29 = false by kernel_rfl)

theorem proved : Rows.FnTypeTagNameAgreesCardSaid :=
  Claim7.holds_tied_plain_at .later [] _ _ _ _ said (fun _ h => by cases h) (by kernel_rfl) (fun _ h => by cases h) fnTypeTagNameAgrees_row_tie rfl ⟨rfl, rfl⟩ (by kernel_rfl) rfl plain (by kernel_rfl)
#print axioms proved
end Go.Proofs.YtekfficjacnefabDoor.fnTypeTagNameAgrees
