/- The contract of zzNamesBytes. -/
import Derived.Test.YtijkbkmbokhbaaaPoolFind103
import Derived.Test.YtijkbkmbokhbaaaCloneS103
namespace Go.Proofs.Ytijkbkmbokhbaaa
open Go.RowKit
set_option linter.unusedVariables false

theorem own_form {α : Type} {V : α → Value} {T : TypeId} {base : Nat} {w : World} {v : Value} {l : List α} (h : Own V T base w v l) : ∃ p : Option Addr, v = .slice p l.length l.length := by
  rcases h with ⟨rfl, rfl⟩ | ⟨g, rfl, _⟩
  · exact ⟨none, rfl⟩
  · exact ⟨_, rfl⟩
theorem own_cell {α : Type} {V : α → Value} {T : TypeId} {base : Nat} {w : World} {p : Option Addr} {L : Nat} {l : List α} (h : Own V T base w (.slice p L L) l) {k : Nat} (d : α) (hk : k < l.length) :
    ∃ g, p = some ⟨g, 0, none⟩ ∧ base ≤ g ∧ g < w.heap.size ∧ w.cell? ⟨g, k, none⟩ = some (V (l.getD k d)) := by
  rcases h with ⟨h1, rfl⟩ | ⟨g, h1, hb, hg⟩
  · simp at hk
  · cases h1
    refine ⟨g, rfl, hb, lt_of_block hg, ?_⟩
    rw [cell_of_row _ _ _ _ _ _ hg]
    simp [List.getD, hk]
theorem take_next {l : List ByteArray} {k : Nat} (h : k < l.length) : l.take k ++ [l.getD k ByteArray.empty] = l.take (k + 1) := by
  rw [List.take_add_one]
  simp [List.getD, h]

/-- What a bound on total length answers. -/
def Bts (P : Prop) (w : World) (e : Ending) (w' : World) : Prop := ∃ b k, e = .returned (.bool b) ∧ w' = w.drewN k ∧ (b = true → P)

set_option maxHeartbeats 1000000 in
theorem namesBytes_any (a : Option Addr) (n cap : Nat) (zs : List ByteArray) (w : World) (h : IsStrs w a n cap zs) (hn : n ≤ 1048576) (hs : ∀ i, i < n → (zs.getD i ByteArray.empty).size ≤ 1048576) :
    Calls Try.prog 12 #[.slice a n cap] w fun e w' => ∃ t k, e = .returned (.int .i64 t) ∧ w' = w.drewN k ∧ 0 ≤ t ∧ t ≤ 4194304 ∧ (t ≤ 1048576 → n ≤ 65536) := by
  have H := Lib.hid h
  have HS := Lib.hid hs
  clear h hs
  go_enter Try.func12, Try.ntmps12
  go_wp2_with fail
  go_loopw [3, 4] (fun t i wr => ∃ (k : Nat) (t' : Int), k ≤ n ∧ i = .int .i64 k ∧ t = .int .i64 t' ∧ 16 * (k : Int) ≤ t' ∧ t' ≤ 1048576 ∧ wr = w) (fun _ i _ => n - (intOf i).toNat)
  case atStart => exact ⟨0, 0, by omega, rfl, rfl, by omega, by omega, by first | rfl | trivial⟩
  case round =>
    obtain ⟨k, t', hk, rfl, rfl, ht1, ht2, rfl⟩ := hrel
    by_cases hkl : k < n
    · obtain ⟨b, off, ea, hc⟩ := InRow.cells H.out (by omega)
      subst ea
      have d1 := hc k hkl
      have hsz := HS.out k hkl
      clear hc
      generalize zs.getD k ByteArray.empty = s at *
      generalize hz : s.size = sz at *
      have HZ := Lib.hid hz
      have hb0 : (0 : Int) ≤ (k : Int) := by omega
      have hb1 : (k : Int) < (n : Int) := by omega
      have hz2 : s.size = sz := hz
      clear hz
      by_cases hov : 1048576 < t' + ((sz : Int) + 16)
      · go_wp2
        go_ret
        exact ⟨t' + ((sz : Int) + 16), 0, rfl, rfl, by omega, by omega, fun h => by omega⟩
      · go_wp2
        go_roundw
        case rel => exact ⟨k + 1, t' + ((sz : Int) + 16), by omega, by go_num, rfl, by omega, by omega, by first | rfl | trivial⟩
        case measure => simp [intOf]; omega
    · have hkk : k = n := by omega
      subst hkk
      go_wp2
      go_ret
      exact ⟨t', 0, rfl, rfl, by omega, by omega, fun _ => by omega⟩

end Go.Proofs.Ytijkbkmbokhbaaa
