/- Copies of rows, in the form in which the laws use them. -/
import Derived.Test.YtnpljmcmpeaafaaCodeFnB106
import Derived.Deep.Onto
namespace Go.Proofs.Ytnpljmcmpeaafaa
open Go.RowKit
set_option linter.unusedVariables false

theorem InRow.oks {α : Type} {V : α → Value} {d : α} {ok : α → Prop} {w : World} {a : Option Addr} {len cap : Nat} {zs : List α} (h : InRow V d ok w a len cap zs) : ∀ n ∈ zs, ok n := by
  rcases h with ⟨_, _, _, rfl⟩ | ⟨x, _, _, _, _, _, h5⟩
  · simp
  · exact h5

theorem own_in {k : IntKind} {T : TypeId} {base : Nat} {w : World} {v : Value} {l : List Int} (h : Own (Value.int k) T base w v l) (hw : ∀ n ∈ l, (Lit.int k n).wf = true) (hm : l.length ≤ maxLen) :
    ∃ a, v = .slice a l.length l.length ∧ IsRow k w a l.length l.length l ∧ w.ownsRow base T 1 (.slice a l.length l.length) l.length (l.map (Value.int k)) := by
  obtain ⟨a, hv, ho⟩ := own_row h hm
  refine ⟨a, hv, ?_, ho⟩
  rcases h with ⟨h1, rfl⟩ | ⟨g, h1, hb, hg⟩
  · rw [hv] at h1
    cases h1
    exact .inl ⟨rfl, rfl, rfl, rfl⟩
  · rw [hv] at h1
    cases h1
    refine .inr ⟨⟨g, 0, none⟩, rfl, Nat.le_refl _, hm, rfl, fun i hi => ?_, hw⟩
    have hadd : (⟨g, 0, none⟩ : Addr).add i = ⟨g, i, none⟩ := by unfold Addr.add; split <;> simp_all
    rw [hadd, cell_of_row _ _ _ _ _ _ hg]
    simp [List.getD, hi]

/-- What a copy leaves. -/
def Copy (k : IntKind) (T : TypeId) (l : List Int) (n : Nat) (w : World) (e : Ending) (w' : World) : Prop :=
  ∃ q, e = .returned (.slice q n n) ∧ IsRow k w' q n n l ∧ w'.ownsRow w.heap.size T 1 (.slice q n n) n (l.map (Value.int k)) ∧ Below w.heap.size w w'

theorem copyU (a : Option Addr) (n cap : Nat) (zs l : List Int) (w : World) (hl : l = zs.take n) (hn : n ≤ 131072) (h : IsRow .u32 w a n cap zs) : Calls Try.prog 12 #[.slice a n cap] w (Copy .u32 24 l n w) := by
  have hlen : l.length = n := by rw [hl]; have := (InRow.len_le h).1; simp; omega
  refine (cloneU32_any a n cap zs w h (by omega)).mono ?_
  rintro e w' ⟨v, rfl, ho, hb⟩
  rw [← hl] at ho
  obtain ⟨q, rfl, h1, h2⟩ := own_in ho (fun x hx => InRow.oks h x (by rw [hl] at hx; exact List.mem_of_mem_take hx)) (by unfold maxLen; omega)
  rw [hlen] at h1 h2
  exact ⟨q, by rw [hlen], h1, h2, hb⟩
theorem copyI (a : Option Addr) (n cap : Nat) (zs l : List Int) (w : World) (hl : l = zs.take n) (hn : n ≤ 131072) (h : IsRow .i64 w a n cap zs) : Calls Try.prog 13 #[.slice a n cap] w (Copy .i64 3 l n w) := by
  have hlen : l.length = n := by rw [hl]; have := (InRow.len_le h).1; simp; omega
  refine (cloneInts_any a n cap zs w h (by omega)).mono ?_
  rintro e w' ⟨v, rfl, ho, hb⟩
  rw [← hl] at ho
  obtain ⟨q, rfl, h1, h2⟩ := own_in ho (fun x hx => InRow.oks h x (by rw [hl] at hx; exact List.mem_of_mem_take hx)) (by unfold maxLen; omega)
  rw [hlen] at h1 h2
  exact ⟨q, by rw [hlen], h1, h2, hb⟩
/-- A copied row copied again. -/
theorem recopyU (a : Option Addr) (n : Nat) (l : List Int) (w : World) (hl : l.length = n) (hn : n ≤ 131072) (h : IsRow .u32 w a n n l) : Calls Try.prog 12 #[.slice a n n] w (Copy .u32 24 l n w) :=
  copyU a n n l l w (by rw [← hl, List.take_length]) hn h
theorem recopyI (a : Option Addr) (n : Nat) (l : List Int) (w : World) (hl : l.length = n) (hn : n ≤ 131072) (h : IsRow .i64 w a n n l) : Calls Try.prog 13 #[.slice a n n] w (Copy .i64 3 l n w) :=
  copyI a n n l l w (by rw [← hl, List.take_length]) hn h

/-- A store of two fresh copies. -/
theorem new_of (cs ls : List Int) (n : Nat) (ca la : Option Addr) (pc : Nat) (w0 w1 w : World) (h1 : cs.length = n) (h2 : ls.length = n)
    (hc : w1.ownsRow w0.heap.size 24 1 (.slice ca n n) n (vC cs)) (hl : w.ownsRow w1.heap.size 3 1 (.slice la n n) n (vL ls)) (hb0 : Below w0.heap.size w0 w1) (hb1 : Below w1.heap.size w1 w) :
    Calls Try.prog 14 #[.slice ca n n, .slice la n n, .int .i64 pc] w fun e w' => ∃ S, e = .returned (.pointer (some ⟨S, 0, none⟩)) ∧ Store w' S w0.heap.size cs ls pc ∧ Below w0.heap.size w0 w' := by
  have hc' : w.ownsRow w0.heap.size 24 1 (.slice ca n n) n (vC cs) := row_keep hc fun g hg => by
    obtain ⟨cur, hh⟩ := row_type hc hg
    exact hb1.block g (lt_of_block hh)
  have hl' := hl.mono hb0.size
  have h := new_st w0.heap.size cs ls ca n la n pc w (by rw [h1]; exact hc') (by rw [h2]; exact hl') (Nat.le_trans hb0.size hb1.size)
  rw [h1, h2] at h
  exact h.mono fun e w' ⟨he, hs, hb⟩ => ⟨_, he, hs, (hb0.trans (hb1.mono hb0.size)).trans (hb.mono (Nat.le_trans hb0.size hb1.size))⟩

theorem addL_lt_len {l : List Int} {pc : Nat} {x : Int} (h : pc ≤ l.length) : pc < (addL l pc x).length ∧ (addL l pc x).length ≤ l.length + 1 := by
  rw [addL_len h]; split <;> omega
theorem last_add (S base : Nat) (cs ls : List Int) (pc : Nat) (x : Int) (w : World) (h : Store w S base (addL cs pc x) ls (pc + 1)) (hp : pc ≤ cs.length) (hn : cs.length ≤ 65536) :
    Calls Try.prog 21 #[.pointer (some ⟨S, 0, none⟩)] w fun e w' => e = .returned (.int .u32 x) ∧ ∃ q, w' = w.drewN q := by
  have hl := addL_lt_len (x := x) hp
  have := last_some S base (addL cs pc x) ls pc w h hl.1 (by omega)
  rwa [addL_at hp] at this

theorem codes_len (S base : Nat) (cs ls : List Int) (pc m : Nat) (w : World) (hm : cs.length = m) (h : Store w S base cs ls pc) :
    Calls Try.prog 16 #[.pointer (some ⟨S, 0, none⟩)] w fun e w' => ∃ a c, e = .returned (.slice a m c) ∧ Rd w .u32 a cs ∧ w = w' := by
  subst hm
  exact codes_any S base cs ls pc w h
theorem lines_len (S base : Nat) (cs ls : List Int) (pc m : Nat) (w : World) (hm : ls.length = m) (h : Store w S base cs ls pc) :
    Calls Try.prog 17 #[.pointer (some ⟨S, 0, none⟩)] w fun e w' => ∃ a c, e = .returned (.slice a m c) ∧ Rd w .i64 a ls ∧ w = w' := by
  subst hm
  exact lines_any S base cs ls pc w h
theorem list_len (S base : Nat) (cs ls : List Int) (pc : Nat) (w : World) (h : Store w S base cs ls pc) (hpc : pc ≤ cs.length) (hn : cs.length ≤ 131072) :
    Calls Try.prog 19 #[.pointer (some ⟨S, 0, none⟩)] w fun e w' => ∃ a c q, e = .returned (.slice a pc c) ∧ Rd w .u32 a (cs.take pc) ∧ w' = w.drewN q := by
  have e : (cs.take pc).length = pc := by simp; omega
  refine (list_any S base cs ls pc w h hpc hn).mono ?_
  rintro e1 w' ⟨a, c, q, h1, h2, h3⟩
  exact ⟨a, c, q, by rw [h1, e], h2, h3⟩
theorem pos_len (S base : Nat) (cs ls : List Int) (pc : Nat) (w : World) (h : Store w S base cs ls pc) (hpc : pc ≤ ls.length) (hn : ls.length ≤ 131072) :
    Calls Try.prog 20 #[.pointer (some ⟨S, 0, none⟩)] w fun e w' => ∃ a c q, e = .returned (.slice a pc c) ∧ Rd w .i64 a (ls.take pc) ∧ w' = w.drewN q := by
  have e : (ls.take pc).length = pc := by simp; omega
  refine (posList_any S base cs ls pc w h hpc hn).mono ?_
  rintro e1 w' ⟨a, c, q, h1, h2, h3⟩
  exact ⟨a, c, q, by rw [h1, e], h2, h3⟩
/-- The cells of a copied row. -/
theorem in_cell {k : IntKind} {w : World} {a : Option Addr} {n : Nat} {l : List Int} (h : IsRow k w a n n l) {i : Nat} (hi : i < n) : ∃ b off, a = some ⟨b, off, none⟩ ∧ b < w.heap.size ∧ w.cell? ⟨b, off + i, none⟩ = some (.int k (l.getD i 0)) := by
  obtain ⟨b, off, e, hc⟩ := InRow.cells h (by omega)
  exact ⟨b, off, e, World.block_lt_of_cell? w _ (hc i hi), hc i hi⟩

end Go.Proofs.Ytnpljmcmpeaafaa
