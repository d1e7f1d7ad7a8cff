/- Copies, and the arithmetic of labels. -/
import Derived.Test.YtiihgamhmflphaaCtx116
import Derived.Test.YtiihgamhmflphaaCloneI116
namespace Go.Proofs.Ytiihgamhmflphaa
open Go.RowKit Go.Maps
set_option linter.unusedVariables false

theorem own_form {α : Type} {V : α → Value} {T : TypeId} {base : Nat} {w : World} {v : Value} {l : List α} (h : Own V T base w v l) : ∃ p : Option Addr, v = .slice p l.length l.length := by
  rcases h with ⟨rfl, rfl⟩ | ⟨g, rfl, _⟩
  · exact ⟨none, rfl⟩
  · exact ⟨_, rfl⟩
theorem own_cell {α : Type} {V : α → Value} {T : TypeId} {base : Nat} {w : World} {p : Option Addr} {L : Nat} {l : List α} (h : Own V T base w (.slice p L L) l) {k : Nat} (d : α) (hk : k < l.length) :
    ∃ g, p = some ⟨g, 0, none⟩ ∧ base ≤ g ∧ g < w.heap.size ∧ w.cell? ⟨g, k, none⟩ = some (V (l.getD k d)) := by
  rcases h with ⟨h1, rfl⟩ | ⟨g, h1, hb, hg⟩
  · simp at hk
  · cases h1
    refine ⟨g, rfl, hb, lt_of_block hg, ?_⟩
    rw [cell_of_row _ _ _ _ _ _ hg]
    simp [List.getD, hk]

/-- A copy of the first n elements of zs. -/
def Cp (base : Nat) (w : World) (p : Option Addr) (n : Nat) (zs : List Int) : Prop :=
  ∀ k, k < n → ∃ g, p = some ⟨g, 0, none⟩ ∧ base ≤ g ∧ g < w.heap.size ∧ w.cell? ⟨g, k, none⟩ = some (.int .i64 (zs.getD k 0)) ∧ (Lit.int .i64 (zs.getD k 0)).wf = true
theorem Cp.below {base : Nat} {w w' : World} {p : Option Addr} {n : Nat} {zs : List Int} (h : Cp base w p n zs) {B : Nat} (hB : w.heap.size ≤ B) (hb : Below B w w') : Cp base w' p n zs := fun k hk => by
  obtain ⟨g, h1, h2, h3, h4, h5⟩ := h k hk
  exact ⟨g, h1, h2, Nat.lt_of_lt_of_le h3 hb.size, (hb.cell (p := ⟨g, k, none⟩) (Nat.lt_of_lt_of_le h3 hB)).trans h4, h5⟩
theorem copy_any (a : Option Addr) (len cap : Nat) (zs : List Int) (w : World) (h : IsRow .i64 w a len cap zs) (hb : len ≤ 1048576) :
    Calls Try.prog 11 #[.slice a len cap] w fun e w' => ∃ p, e = .returned (.slice p len len) ∧ Cp w.heap.size w' p len zs ∧ Below w.heap.size w w' := by
  refine (cloneInts_any a len cap zs w h (by omega)).mono ?_
  rintro e w' ⟨v, rfl, hown, hbl⟩
  have hn := (InRow.len_le h).1
  have hL : (zs.take len).length = len := by simp; omega
  obtain ⟨p, hv⟩ := own_form hown
  rw [hL] at hv
  subst hv
  refine ⟨p, rfl, fun k hk => ?_, hbl⟩
  obtain ⟨g, h1, h2, h3, h4⟩ := own_cell hown 0 (by rw [hL]; exact hk)
  rw [getD_take _ _ _ _ hk] at h4
  refine ⟨g, h1, h2, h3, h4, ?_⟩
  rcases h with ⟨_, h0, _⟩ | ⟨x, _, _, _, h6, _, h7⟩
  · omega
  · have hkl : k < zs.length := by omega
    have : zs.getD k 0 = zs[k] := by simp [List.getD, hkl]
    rw [this]
    exact h7 _ (List.getElem_mem hkl)

theorem wf_bounds {a : Int} (h : (Lit.int .i64 a).wf = true) : -9223372036854775808 ≤ a ∧ a ≤ 9223372036854775807 := by
  simpa [Lit.wf, IntKind.min, IntKind.max, IntKind.signed, IntKind.bits] using h
theorem wrap_zero {a : Int} (h : (Lit.int .i64 a).wf = true) : wrap64 (a + ((0 : Nat) : Int)) = a := by
  have := wf_bounds h
  unfold wrap64; omega
theorem wrap_succ (a : Int) (k : Nat) : wrap64 (wrap64 (a + (k : Int)) + 1) = wrap64 (a + ((k + 1 : Nat) : Int)) := by unfold wrap64; omega
theorem wrap_inj {a : Int} {i j : Nat} (hi : i ≤ 1048576) (hj : j ≤ 1048576) (h : wrap64 (a + (i : Int)) = wrap64 (a + (j : Int))) : i = j := by unfold wrap64 at h; omega

/-- What a bound on total length answers. -/
def Bts (P : Prop) (w : World) (e : Ending) (w' : World) : Prop := ∃ b, e = .returned (.bool b) ∧ w' = w ∧ (b = true → P)

/-- The last entry with label q among the first n. -/
def lastR (ls ps : List Int) (q : Int) : Nat → Int
  | 0 => 0
  | k + 1 => if ls.getD k 0 = q then ps.getD k 0 else lastR ls ps q k

end Go.Proofs.Ytiihgamhmflphaa
