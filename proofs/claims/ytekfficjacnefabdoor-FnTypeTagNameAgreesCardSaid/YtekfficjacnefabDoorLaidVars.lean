/- What a row's list of laid variables gives a walk: a variable of an integer type, and an array of strings (any program). -/
import Derived.LaidLaws
import Derived.ChangeArms
import Derived.Lib.LaidTab
namespace Go.Proofs.YtekfficjacnefabDoor
/-- A variable that reads lies in the heap. -/
theorem size_of_var {P : Program} {W : World} {n : String} {g : Nat} {cs : Array Value} (hg : P.globalNamed n = some g) (h : W.var? P n = some cs) : g < W.heap.size := by
  unfold World.var? at h
  rw [hg] at h
  simp only [Option.bind_some] at h
  cases hh : W.heap[g]? with
  | none => rw [hh] at h; cases h
  | some o => exact (Array.getElem?_eq_some_iff.1 hh).1

namespace LV

theorem var_int {P : Program} {W : World} {name : String} {k : IntKind} {z : Int} {rest : List (String × DataW Unit)} {g : Nat} {t : TypeId}
    (hg : P.globalNamed name = some g) (hty : (P.globals[g]?).map (·.type) = some t) (ht : P.underlying t = some (.int k))
    (h : laidMet P ((name, .lit (.int k z)) :: rest) W) : W.cell? ⟨g, 0, none⟩ = some (.int k z) := by
  obtain ⟨ps, ⟨g', t', cs, fuel, p, q, hg', ht', hvar, hd, _, _⟩, _⟩ := h
  obtain rfl := Option.some.inj (hg.symm.trans hg')
  obtain rfl := Option.some.inj (hty.symm.trans ht')
  obtain ⟨n, hc, hx, _⟩ := DataW.trod_int ht hd
  simp only [Prod.mk.injEq, DataW.lit.injEq, Lit.int.injEq, true_and] at hx
  obtain ⟨rfl, _⟩ := hx
  have := World.var?_cell hg hvar 0
  rw [this, ← Array.getElem?_toList, hc]
  rfl

/-- An array of strings, as a row lists it. -/
def strData {H : Type} (ss : List (List UInt8)) : DataW H := .agg (ss.map fun s => .lit (.string s))

theorem cells_of_strs {H : Type} {enc : TypeId × Value → H} {P : Program} {w : World} {base : Nat} {sp : Nat → Bool} {held : Bool} {fuel : Nat} {t e : TypeId} {n : Nat} {cs : List Value} {ss : List (List UInt8)} {p : List MemPlace}
    (ht : P.underlying t = some (.array n e)) (he : P.underlying e = some .string) (hce : P.cellsOf e = 1) (hct : P.cellsOf t = n)
    (h : DataW.trod enc P w base sp held fuel t cs = some (strData ss, p)) : ∀ (i : Nat) (s : List UInt8), ss[i]? = some s → cs[i]? = some (Value.string ⟨s.toArray⟩) := by
  cases fuel with
  | zero => simp [DataW.trod] at h
  | succ fuel =>
    simp only [DataW.trod, ht, hce, hct, Nat.mul_one] at h
    split at h
    · obtain ⟨xs, hm, hx⟩ := Option.map_eq_some_iff.1 h
      have hxs : xs.map (·.1) = ss.map fun s => (DataW.lit (.string s) : DataW H) := by
        have := congrArg Prod.fst hx
        simpa [strData] using this
      have hxl : xs.length = n := by simpa using Lib.mapM_length hm
      have hsl : ss.length = n := by
        have := congrArg List.length hxs
        simp at this
        omega
      intro i s hs
      have hi : i < n := by
        rw [← hsl]
        exact (List.getElem?_eq_some_iff.1 hs).1
      obtain ⟨b, hb, hf⟩ := Lib.mapM_at hm i i (by simp [hi])
      obtain ⟨z, hc, rfl, _⟩ := DataW.trod_string he hf
      have h1 : cs[i]? = some (.string z) := by
        have := congrArg (·[0]?) hc
        simpa [List.getElem?_take, List.getElem?_drop] using this
      have h2 : (xs.map (·.1))[i]? = some (DataW.lit (.string z.data.toList) : DataW H) := by simp [hb]
      rw [hxs] at h2
      simp only [List.getElem?_map, hs, Option.map_some, Option.some.injEq, DataW.lit.injEq, Lit.string.injEq] at h2
      rw [h1, h2]
    · cases h

theorem var_strs {P : Program} {W : World} {name : String} {ss : List (List UInt8)} {rest : List (String × DataW Unit)} {g : Nat} {t e : TypeId} {n : Nat}
    (hg : P.globalNamed name = some g) (hty : (P.globals[g]?).map (·.type) = some t) (ht : P.underlying t = some (.array n e)) (he : P.underlying e = some .string) (hce : P.cellsOf e = 1) (hct : P.cellsOf t = n)
    (h : laidMet P ((name, strData ss) :: rest) W) (i : Nat) (s : List UInt8) (hs : ss[i]? = some s) : W.cell? ⟨g, i, none⟩ = some (Value.string ⟨s.toArray⟩) := by
  obtain ⟨ps, ⟨g', t', cs, fuel, p, q, hg', ht', hvar, hd, _, _⟩, _⟩ := h
  obtain rfl := Option.some.inj (hg.symm.trans hg')
  obtain rfl := Option.some.inj (hty.symm.trans ht')
  have := World.var?_cell hg hvar i
  rw [this, ← Array.getElem?_toList, cells_of_strs ht he hce hct hd i s hs]

end LV
end Go.Proofs.YtekfficjacnefabDoor
