/- What the walk of FnAddAfterPopsRewritesTail uses. -/
import Derived.Test.YtnpljmcmpeaafaaCodeFnC106
import Derived.StillTailTactics
namespace Go.Proofs.Ytnpljmcmpeaafaa
open Go.RowKit
set_option linter.unusedVariables false

def Bts (P : Prop) (w : World) (e : Ending) (w' : World) : Prop := ∃ b, e = .returned (.bool b) ∧ w' = w ∧ (b = true → P)
set_option maxHeartbeats 1000000 in
theorem bytes_any (a0 : Option Addr) (len0 cap0 : Nat) (a1 : Option Addr) (len1 cap1 : Nat) (a2 : Int) (a3 : Option Addr) (len3 cap3 : Nat) (a4 : Option Addr) (len4 cap4 : Nat) (w : World) (h0 : len0 ≤ maxLen) (h1 : len1 ≤ maxLen) (h3 : len3 ≤ maxLen) (h4 : len4 ≤ maxLen) :
    Calls Try.prog 38 #[.slice a0 len0 cap0, .slice a1 len1 cap1, .int .i64 a2, .slice a3 len3 cap3, .slice a4 len4 cap4] w (Bts (len0 + len1 + len3 + len4 ≤ 1048576) w) := by
  unfold maxLen at h0 h1 h3 h4
  by_cases h : 1048576 < len0
  · go_enter Try.func38, Try.ntmps38
    go_wp2
    go_ret
    exact ⟨false, rfl, by first | rfl | trivial, by simp⟩
  by_cases h : 1048576 < len1
  · go_enter Try.func38, Try.ntmps38
    go_wp2
    go_ret
    exact ⟨false, rfl, by first | rfl | trivial, by simp⟩
  by_cases h : 1048576 < len0 + len1
  · go_enter Try.func38, Try.ntmps38
    go_wp2
    go_ret
    exact ⟨false, rfl, by first | rfl | trivial, by simp⟩
  by_cases h : 1048576 < len3
  · go_enter Try.func38, Try.ntmps38
    go_wp2
    go_ret
    exact ⟨false, rfl, by first | rfl | trivial, by simp⟩
  by_cases h : 1048576 < len0 + len1 + len3
  · go_enter Try.func38, Try.ntmps38
    go_wp2
    go_ret
    exact ⟨false, rfl, by first | rfl | trivial, by simp⟩
  by_cases h : 1048576 < len4
  · go_enter Try.func38, Try.ntmps38
    go_wp2
    go_ret
    exact ⟨false, rfl, by first | rfl | trivial, by simp⟩
  by_cases h : 1048576 < len0 + len1 + len3 + len4
  · go_enter Try.func38, Try.ntmps38
    go_wp2
    go_ret
    exact ⟨false, rfl, by first | rfl | trivial, by simp⟩
  go_enter Try.func38, Try.ntmps38
  go_wp2
  go_ret
  exact ⟨true, rfl, by first | rfl | trivial, fun _ => by omega⟩

/-- A slice whose first n elements are those of z. -/
def RdZ (w : World) (k : IntKind) (a : Option Addr) (n : Nat) (z : List Int) : Prop := ∀ i, i < n → ∃ g o, a = some ⟨g, o, none⟩ ∧ g < w.heap.size ∧ w.cell? ⟨g, o + i, none⟩ = some (.int k (z.getD i 0))
theorem RdZ.below {w w' : World} {k : IntKind} {a : Option Addr} {n : Nat} {z : List Int} (h : RdZ w k a n z) {B : Nat} (hB : w.heap.size ≤ B) (hb : Below B w w') : RdZ w' k a n z := fun i hi => by
  obtain ⟨g, o, h1, h2, h3⟩ := h i hi
  exact ⟨g, o, h1, Nat.lt_of_lt_of_le h2 hb.size, (hb.cell (p := ⟨g, o + i, none⟩) (Nat.lt_of_lt_of_le h2 hB)).trans h3⟩
theorem RdZ.drewN {w : World} {k : IntKind} {a : Option Addr} {n : Nat} {z : List Int} (h : RdZ w k a n z) (q : Nat) : RdZ (w.drewN q) k a n z := h
theorem RdZ.re {w : World} {k : IntKind} {a : Option Addr} {n : Nat} {z : List Int} {m : Nat} (h : RdZ (w.drewN m) k a n z) (q : Nat) : RdZ (w.drewN q) k a n z := h
theorem rdz_in {w : World} {k : IntKind} {a : Option Addr} {n c : Nat} {z : List Int} (h : IsRow k w a n c z) : RdZ w k a n z := fun i hi => by
  obtain ⟨b, off, e, hc⟩ := InRow.cells h (by omega)
  exact ⟨b, off, e, World.block_lt_of_cell? w _ (hc i hi), hc i hi⟩
theorem rdz_rd {w : World} {k : IntKind} {a : Option Addr} {l z : List Int} {n : Nat} (h : Rd w k a l) (hl : n ≤ l.length) (hz : ∀ i, i < n → l.getD i 0 = z.getD i 0) : RdZ w k a n z := fun i hi => by
  obtain ⟨g, h1, h2, h3⟩ := h i (by omega)
  exact ⟨g, 0, h1, h2, by rw [Nat.zero_add, ← hz i hi]; exact h3⟩

set_option maxHeartbeats 1000000 in
theorem eqU32_z (a b : Option Addr) (n c d : Nat) (z : List Int) (w : World) (hn : n ≤ 262144) (ha : RdZ w .u32 a n z) (hb : RdZ w .u32 b n z) :
    Calls Try.prog 35 #[.slice a n c, .slice b n d] w fun e w' => e = .returned (.bool true) ∧ ∃ q, w' = w.drewN q := by
  have HA := Lib.hid ha
  have HB := Lib.hid hb
  clear ha hb
  go_enter Try.func35, Try.ntmps35
  go_wp2_with fail
  go_loopw [5] (fun i wr => ∃ k q : Nat, k ≤ n ∧ i = .int .i64 k ∧ wr = w.drewN q) (fun i _ => n - (intOf i).toNat)
  case atStart => exact ⟨0, 0, by omega, rfl, rfl⟩
  case round =>
    obtain ⟨k, q, hk, rfl, hwq⟩ := hrel
    have HWQ := Lib.hid hwq
    by_cases hkl : k < n
    · obtain ⟨g, o, ea, _, d1⟩ := HA.out k hkl
      obtain ⟨g', o', eb, _, d2⟩ := HB.out k hkl
      have c1 : wr.cell? ⟨g, o + k, none⟩ = some (.int .u32 (z.getD k 0)) := by rw [hwq]; exact d1
      have c2 : wr.cell? ⟨g', o' + k, none⟩ = some (.int .u32 (z.getD k 0)) := by rw [hwq]; exact d2
      subst ea
      subst eb
      clear hwq d1 d2
      generalize z.getD k 0 = u at *
      have b1 : (0 : Int) ≤ (k : Int) := by omega
      have b2 : (k : Int) < (n : Int) := by omega
      go_wp2
      go_quiet (fail)
      go_wp2
      go_roundw
      case rel => exact ⟨k + 1, q + nq, by omega, by go_num, by rw [HWQ.out, World.drewN_drewN]⟩
      case measure => simp [intOf]; omega
    · have hkk : k = n := by omega
      subst hkk
      clear hwq
      go_wp2
      go_ret
      exact ⟨rfl, q, HWQ.out⟩

set_option maxHeartbeats 1000000 in
theorem eqInt_z (a b : Option Addr) (n c d : Nat) (z : List Int) (w : World) (hn : n ≤ 262144) (ha : RdZ w .i64 a n z) (hb : RdZ w .i64 b n z) :
    Calls Try.prog 26 #[.slice a n c, .slice b n d] w fun e w' => e = .returned (.bool true) ∧ ∃ q, w' = w.drewN q := by
  have HA := Lib.hid ha
  have HB := Lib.hid hb
  clear ha hb
  go_enter Try.func26, Try.ntmps26
  go_wp2_with fail
  go_loopw [5] (fun i wr => ∃ k q : Nat, k ≤ n ∧ i = .int .i64 k ∧ wr = w.drewN q) (fun i _ => n - (intOf i).toNat)
  case atStart => exact ⟨0, 0, by omega, rfl, rfl⟩
  case round =>
    obtain ⟨k, q, hk, rfl, hwq⟩ := hrel
    have HWQ := Lib.hid hwq
    by_cases hkl : k < n
    · obtain ⟨g, o, ea, _, d1⟩ := HA.out k hkl
      obtain ⟨g', o', eb, _, d2⟩ := HB.out k hkl
      have c1 : wr.cell? ⟨g, o + k, none⟩ = some (.int .i64 (z.getD k 0)) := by rw [hwq]; exact d1
      have c2 : wr.cell? ⟨g', o' + k, none⟩ = some (.int .i64 (z.getD k 0)) := by rw [hwq]; exact d2
      subst ea
      subst eb
      clear hwq d1 d2
      generalize z.getD k 0 = u at *
      have b1 : (0 : Int) ≤ (k : Int) := by omega
      have b2 : (k : Int) < (n : Int) := by omega
      go_wp2
      go_quiet (fail)
      go_wp2
      go_roundw
      case rel => exact ⟨k + 1, q + nq, by omega, by go_num, by rw [HWQ.out, World.drewN_drewN]⟩
      case measure => simp [intOf]; omega
    · have hkk : k = n := by omega
      subst hkk
      clear hwq
      go_wp2
      go_ret
      exact ⟨rfl, q, HWQ.out⟩

theorem take_add {l : List Int} {k : Nat} (h : k < l.length) : addL (l.take k) k (l.getD k 0) = l.take (k + 1) := by
  rw [addL_ge (by simp; omega), List.take_add_one]
  simp [List.getD, h]
/-- A row that holds the first m of z, then the first i of y. -/
def Tl (C : List Int) (m i : Nat) (z y : List Int) : Prop := m + i ≤ C.length ∧ (∀ t, t < m → C.getD t 0 = z.getD t 0) ∧ ∀ t, t < i → C.getD (m + t) 0 = y.getD t 0
theorem Tl.step {C : List Int} {m i : Nat} {z y : List Int} (h : Tl C m i z y) : Tl (addL C (m + i) (y.getD i 0)) m (i + 1) z y := by
  have h1 := h.1
  refine ⟨?_, fun t ht => ?_, fun t ht => ?_⟩
  · rw [addL_len h.1]; split <;> omega
  · rw [addL_other h.1 (by omega)]; exact h.2.1 t ht
  · by_cases e : t = i
    · subst e; rw [addL_at h.1]
    · rw [addL_other h.1 (by omega)]; exact h.2.2 t (by omega)
theorem new_nil (w : World) : Calls Try.prog 14 #[.slice none 0 0, .slice none 0 0, .int .i64 0] w fun e w' => e = .returned (.pointer (some ⟨w.heap.size, 0, none⟩)) ∧ Store w' w.heap.size w.heap.size [] [] 0 ∧ Below w.heap.size w w' :=
  new_st w.heap.size [] [] none 0 none 0 0 w (World.ownsRow_nil _ _ _ _) (World.ownsRow_nil _ _ _ _) (Nat.le_refl _)

end Go.Proofs.Ytnpljmcmpeaafaa
