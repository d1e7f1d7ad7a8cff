/- The bounds on total length of the laws on blocks. Printed by mkblk.py. -/
import Derived.Test.YtiihgamhmflphaaFmtFwdKit116
namespace Go.Proofs.YtiihgamhmflphaaFmt
open Go.RowKit Go.Maps
set_option linter.unusedVariables false

def BtsB (P : Prop) (w : World) (e : Ending) (w' : World) : Prop := ∃ b, e = .returned (.bool b) ∧ w' = w ∧ (b = true → P)
theorem strs_max {w : World} {a : Option Addr} {n c : Nat} {zs : List ByteArray} (h : IsStrs w a n c zs) : ∀ i, i < n → (zs.getD i ByteArray.empty).size ≤ maxLen := fun i hi => by
  rcases h with ⟨_, h1, _, _⟩ | ⟨x, _, h1, h2, h3, _, h5⟩
  · omega
  · have hl : i < zs.length := by omega
    have : zs.getD i ByteArray.empty = zs[i] := by simp [List.getD, hl]
    rw [this]
    exact h5 _ (List.getElem_mem hl)
set_option maxHeartbeats 4000000 in
theorem bytesI_any (a0 : Option Addr) (len0 cap0 : Nat) (a1 : Int) (a2 : Option Addr) (len2 cap2 : Nat) (zs : List ByteArray) (a3 : Option Addr) (len3 cap3 : Nat) (a4 : Option Addr) (len4 cap4 : Nat) (a5 a6 a7 : Int) (a8 : Option Addr) (len8 cap8 : Nat) (z8 : List ByteArray) (a9 : Option Addr) (len9 cap9 : Nat) (a10 a11 : Bool) (w : World) (h : IsStrs w a2 len2 cap2 zs) (h8 : IsStrs w a8 len8 cap8 z8) (h0 : len0 ≤ maxLen) (h3 : len3 ≤ maxLen) (h4 : len4 ≤ maxLen) (h9 : len9 ≤ maxLen) :
    Calls Tryf.prog 27 #[.slice a0 len0 cap0, .int .i64 a1, .slice a2 len2 cap2, .slice a3 len3 cap3, .slice a4 len4 cap4, .int .i64 a5, .int .i64 a6, .int .i64 a7, .slice a8 len8 cap8, .slice a9 len9 cap9, .bool a10, .bool a11] w (BtsB (len0 ≤ 1048576 ∧ len2 ≤ 1048576 ∧ (∀ i, i < len2 → (zs.getD i ByteArray.empty).size ≤ 1048576) ∧ len3 ≤ 1048576 ∧ len4 ≤ 1048576 ∧ len8 ≤ 1048576 ∧ (∀ i, i < len8 → (z8.getD i ByteArray.empty).size ≤ 1048576) ∧ len9 ≤ 1048576) w) := by
  have h2 := (InRow.len_le h).2
  have h8' := (InRow.len_le h8).2
  have H := Lib.hid h
  have H8 := Lib.hid h8
  have HSM := Lib.hid (strs_max h)
  have HSM8 := Lib.hid (strs_max h8)
  unfold maxLen at h0 h2 h3 h4 h8' h9
  clear h h8
  by_cases hb : 1048576 < len0
  · go_enter Tryf.func27, Tryf.ntmps27
    go_wp2
    go_ret
    exact ⟨false, rfl, by first | rfl | trivial, by simp⟩
  by_cases hb : 1048576 < len2
  · go_enter Tryf.func27, Tryf.ntmps27
    go_wp2
    go_ret
    exact ⟨false, rfl, by first | rfl | trivial, by simp⟩
  by_cases hb : 1048576 < len0 + len2
  · go_enter Tryf.func27, Tryf.ntmps27
    go_wp2
    go_ret
    exact ⟨false, rfl, by first | rfl | trivial, by simp⟩
  go_enter Tryf.func27, Tryf.ntmps27
  go_wp2_with fail
  go_loopw [25, 26] (fun t i wr => ∃ (k : Nat) (t' : Int), k ≤ len2 ∧ i = .int .i64 k ∧ t = .int .i64 t' ∧ 0 ≤ t' ∧ t' ≤ 1048576 ∧ (∀ j, j < k → (zs.getD j ByteArray.empty).size ≤ 1048576) ∧ wr = w) (fun _ i _ => len2 - (intOf i).toNat)
  case atStart => exact ⟨0, (len0 : Int) + (len2 : Int), by omega, rfl, rfl, by omega, by omega, fun j hj => absurd hj (by omega), by first | rfl | trivial⟩
  case round =>
    obtain ⟨k, t', hk, rfl, rfl, ht1, ht2, hall, rfl⟩ := hrel
    have HALL := Lib.hid hall
    clear hall
    by_cases hkl : k < len2
    · obtain ⟨b, off, ea, hc⟩ := InRow.cells H.out (by omega)
      subst ea
      have d1 := hc k hkl
      have hsz := HSM.out k hkl
      unfold maxLen at hsz
      clear hc
      generalize hs : zs.getD k ByteArray.empty = s at *
      have HS := Lib.hid hs
      clear hs
      generalize hz : s.size = sz at *
      have HZ := Lib.hid hz
      have hb0 : (0 : Int) ≤ (k : Int) := by omega
      have hb1 : (k : Int) < (len2 : Int) := by omega
      have hz2 : s.size = sz := hz
      clear hz
      by_cases h1 : 1048576 < sz
      · go_wp2
        go_ret
        exact ⟨false, rfl, by first | rfl | trivial, by simp⟩
      by_cases h2 : 1048576 < t' + (sz : Int)
      · go_wp2
        go_ret
        exact ⟨false, rfl, by first | rfl | trivial, by simp⟩
      · go_wp2
        go_roundw
        case rel =>
          refine ⟨k + 1, t' + (sz : Int), by omega, by go_num, rfl, by omega, by omega, fun j hj => ?_, by first | rfl | trivial⟩
          by_cases e : j = k
          · subst e
            rw [HS.out, HZ.out]
            omega
          · exact HALL.out j (by omega)
        case measure => simp [intOf]; omega
    · have hkk : k = len2 := by omega
      subst hkk
      by_cases hb : 1048576 < len3
      · go_wp2
        go_ret
        exact ⟨false, rfl, by first | rfl | trivial, by simp⟩
      by_cases hb : 1048576 < t' + (len3 : Int)
      · go_wp2
        go_ret
        exact ⟨false, rfl, by first | rfl | trivial, by simp⟩
      by_cases hb : 1048576 < len4
      · go_wp2
        go_ret
        exact ⟨false, rfl, by first | rfl | trivial, by simp⟩
      by_cases hb : 1048576 < t' + (len3 : Int) + (len4 : Int)
      · go_wp2
        go_ret
        exact ⟨false, rfl, by first | rfl | trivial, by simp⟩
      by_cases hb : 1048576 < len8
      · go_wp2
        go_ret
        exact ⟨false, rfl, by first | rfl | trivial, by simp⟩
      by_cases hb : 1048576 < t' + (len3 : Int) + (len4 : Int) + (len8 : Int)
      · go_wp2
        go_ret
        exact ⟨false, rfl, by first | rfl | trivial, by simp⟩
      have HALL1 := Lib.hid HALL.out
      obtain ⟨len2, rfl⟩ : ∃ n, n = k := ⟨_, rfl⟩
      obtain ⟨t0, rfl⟩ : ∃ t, t = t' := ⟨_, rfl⟩
      obtain ⟨w, rfl⟩ : ∃ x : World, x = wr := ⟨_, rfl⟩
      go_wp2_with fail
      go_loopw [25, 27] (fun t i wr => ∃ (k : Nat) (t' : Int), k ≤ len8 ∧ i = .int .i64 k ∧ t = .int .i64 t' ∧ 0 ≤ t' ∧ t' ≤ 1048576 ∧ (∀ j, j < k → (z8.getD j ByteArray.empty).size ≤ 1048576) ∧ wr = w) (fun _ i _ => len8 - (intOf i).toNat)
      case atStart => exact ⟨0, t0 + (len3 : Int) + (len4 : Int) + (len8 : Int), by omega, rfl, rfl, by omega, by omega, fun j hj => absurd hj (by omega), by first | rfl | trivial⟩
      case round =>
        obtain ⟨k, t', hk, rfl, rfl, ht1, ht2, hall, rfl⟩ := hrel
        have HALL := Lib.hid hall
        clear hall
        by_cases hkl : k < len8
        · obtain ⟨b, off, ea, hc⟩ := InRow.cells H8.out (by omega)
          subst ea
          have d1 := hc k hkl
          have hsz := HSM8.out k hkl
          unfold maxLen at hsz
          clear hc
          generalize hs : z8.getD k ByteArray.empty = s at *
          have HS := Lib.hid hs
          clear hs
          generalize hz : s.size = sz at *
          have HZ := Lib.hid hz
          have hb0 : (0 : Int) ≤ (k : Int) := by omega
          have hb1 : (k : Int) < (len8 : Int) := by omega
          have hz2 : s.size = sz := hz
          clear hz
          by_cases h1 : 1048576 < sz
          · go_wp2
            go_ret
            exact ⟨false, rfl, by first | rfl | trivial, by simp⟩
          by_cases h2 : 1048576 < t' + (sz : Int)
          · go_wp2
            go_ret
            exact ⟨false, rfl, by first | rfl | trivial, by simp⟩
          · go_wp2
            go_roundw
            case rel =>
              refine ⟨k + 1, t' + (sz : Int), by omega, by go_num, rfl, by omega, by omega, fun j hj => ?_, by first | rfl | trivial⟩
              by_cases e : j = k
              · subst e
                rw [HS.out, HZ.out]
                omega
              · exact HALL.out j (by omega)
            case measure => simp [intOf]; omega
        · have hkk : k = len8 := by omega
          subst hkk
          by_cases hb : 1048576 < len9
          · go_wp2
            go_ret
            exact ⟨false, rfl, by first | rfl | trivial, by simp⟩
          by_cases hb : 1048576 < t' + (len9 : Int)
          · go_wp2
            go_ret
            exact ⟨false, rfl, by first | rfl | trivial, by simp⟩
          go_wp2
          go_ret
          exact ⟨true, rfl, by first | rfl | trivial, fun _ => ⟨by omega, by omega, HALL1.out, by omega, by omega, by omega, HALL.out, by omega⟩⟩

set_option maxHeartbeats 4000000 in
theorem bytesP_any (a0 : Option Addr) (len0 cap0 : Nat) (a1 : Int) (a2 : Option Addr) (len2 cap2 : Nat) (zs : List ByteArray) (a3 : Option Addr) (len3 cap3 : Nat) (a4 : Option Addr) (len4 cap4 : Nat) (a5 a6 a7 : Int) (a8 : Option Addr) (len8 cap8 : Nat) (z8 : List ByteArray) (a9 : Option Addr) (len9 cap9 : Nat) (a10 a11 : Bool) (w : World) (h : IsStrs w a2 len2 cap2 zs) (h8 : IsStrs w a8 len8 cap8 z8) (h0 : len0 ≤ maxLen) (h3 : len3 ≤ maxLen) (h4 : len4 ≤ maxLen) (h9 : len9 ≤ maxLen) :
    Calls Tryf.prog 20 #[.slice a0 len0 cap0, .int .i64 a1, .slice a2 len2 cap2, .slice a3 len3 cap3, .slice a4 len4 cap4, .int .i64 a5, .int .i64 a6, .int .i64 a7, .slice a8 len8 cap8, .slice a9 len9 cap9, .bool a10, .bool a11] w (BtsB (len0 ≤ 1048576 ∧ len2 ≤ 1048576 ∧ (∀ i, i < len2 → (zs.getD i ByteArray.empty).size ≤ 1048576) ∧ len3 ≤ 1048576 ∧ len4 ≤ 1048576 ∧ len8 ≤ 1048576 ∧ (∀ i, i < len8 → (z8.getD i ByteArray.empty).size ≤ 1048576) ∧ len9 ≤ 1048576) w) := by
  have h2 := (InRow.len_le h).2
  have h8' := (InRow.len_le h8).2
  have H := Lib.hid h
  have H8 := Lib.hid h8
  have HSM := Lib.hid (strs_max h)
  have HSM8 := Lib.hid (strs_max h8)
  unfold maxLen at h0 h2 h3 h4 h8' h9
  clear h h8
  by_cases hb : 1048576 < len0
  · go_enter Tryf.func20, Tryf.ntmps20
    go_wp2
    go_ret
    exact ⟨false, rfl, by first | rfl | trivial, by simp⟩
  by_cases hb : 1048576 < len2
  · go_enter Tryf.func20, Tryf.ntmps20
    go_wp2
    go_ret
    exact ⟨false, rfl, by first | rfl | trivial, by simp⟩
  by_cases hb : 1048576 < len0 + len2
  · go_enter Tryf.func20, Tryf.ntmps20
    go_wp2
    go_ret
    exact ⟨false, rfl, by first | rfl | trivial, by simp⟩
  go_enter Tryf.func20, Tryf.ntmps20
  go_wp2_with fail
  go_loopw [25, 26] (fun t i wr => ∃ (k : Nat) (t' : Int), k ≤ len2 ∧ i = .int .i64 k ∧ t = .int .i64 t' ∧ 0 ≤ t' ∧ t' ≤ 1048576 ∧ (∀ j, j < k → (zs.getD j ByteArray.empty).size ≤ 1048576) ∧ wr = w) (fun _ i _ => len2 - (intOf i).toNat)
  case atStart => exact ⟨0, (len0 : Int) + (len2 : Int), by omega, rfl, rfl, by omega, by omega, fun j hj => absurd hj (by omega), by first | rfl | trivial⟩
  case round =>
    obtain ⟨k, t', hk, rfl, rfl, ht1, ht2, hall, rfl⟩ := hrel
    have HALL := Lib.hid hall
    clear hall
    by_cases hkl : k < len2
    · obtain ⟨b, off, ea, hc⟩ := InRow.cells H.out (by omega)
      subst ea
      have d1 := hc k hkl
      have hsz := HSM.out k hkl
      unfold maxLen at hsz
      clear hc
      generalize hs : zs.getD k ByteArray.empty = s at *
      have HS := Lib.hid hs
      clear hs
      generalize hz : s.size = sz at *
      have HZ := Lib.hid hz
      have hb0 : (0 : Int) ≤ (k : Int) := by omega
      have hb1 : (k : Int) < (len2 : Int) := by omega
      have hz2 : s.size = sz := hz
      clear hz
      by_cases h1 : 1048576 < sz
      · go_wp2
        go_ret
        exact ⟨false, rfl, by first | rfl | trivial, by simp⟩
      by_cases h2 : 1048576 < t' + (sz : Int)
      · go_wp2
        go_ret
        exact ⟨false, rfl, by first | rfl | trivial, by simp⟩
      · go_wp2
        go_roundw
        case rel =>
          refine ⟨k + 1, t' + (sz : Int), by omega, by go_num, rfl, by omega, by omega, fun j hj => ?_, by first | rfl | trivial⟩
          by_cases e : j = k
          · subst e
            rw [HS.out, HZ.out]
            omega
          · exact HALL.out j (by omega)
        case measure => simp [intOf]; omega
    · have hkk : k = len2 := by omega
      subst hkk
      by_cases hb : 1048576 < len3
      · go_wp2
        go_ret
        exact ⟨false, rfl, by first | rfl | trivial, by simp⟩
      by_cases hb : 1048576 < t' + (len3 : Int)
      · go_wp2
        go_ret
        exact ⟨false, rfl, by first | rfl | trivial, by simp⟩
      by_cases hb : 1048576 < len4
      · go_wp2
        go_ret
        exact ⟨false, rfl, by first | rfl | trivial, by simp⟩
      by_cases hb : 1048576 < t' + (len3 : Int) + (len4 : Int)
      · go_wp2
        go_ret
        exact ⟨false, rfl, by first | rfl | trivial, by simp⟩
      by_cases hb : 1048576 < len8
      · go_wp2
        go_ret
        exact ⟨false, rfl, by first | rfl | trivial, by simp⟩
      by_cases hb : 1048576 < t' + (len3 : Int) + (len4 : Int) + (len8 : Int)
      · go_wp2
        go_ret
        exact ⟨false, rfl, by first | rfl | trivial, by simp⟩
      have HALL1 := Lib.hid HALL.out
      obtain ⟨len2, rfl⟩ : ∃ n, n = k := ⟨_, rfl⟩
      obtain ⟨t0, rfl⟩ : ∃ t, t = t' := ⟨_, rfl⟩
      obtain ⟨w, rfl⟩ : ∃ x : World, x = wr := ⟨_, rfl⟩
      go_wp2_with fail
      go_loopw [25, 27] (fun t i wr => ∃ (k : Nat) (t' : Int), k ≤ len8 ∧ i = .int .i64 k ∧ t = .int .i64 t' ∧ 0 ≤ t' ∧ t' ≤ 1048576 ∧ (∀ j, j < k → (z8.getD j ByteArray.empty).size ≤ 1048576) ∧ wr = w) (fun _ i _ => len8 - (intOf i).toNat)
      case atStart => exact ⟨0, t0 + (len3 : Int) + (len4 : Int) + (len8 : Int), by omega, rfl, rfl, by omega, by omega, fun j hj => absurd hj (by omega), by first | rfl | trivial⟩
      case round =>
        obtain ⟨k, t', hk, rfl, rfl, ht1, ht2, hall, rfl⟩ := hrel
        have HALL := Lib.hid hall
        clear hall
        by_cases hkl : k < len8
        · obtain ⟨b, off, ea, hc⟩ := InRow.cells H8.out (by omega)
          subst ea
          have d1 := hc k hkl
          have hsz := HSM8.out k hkl
          unfold maxLen at hsz
          clear hc
          generalize hs : z8.getD k ByteArray.empty = s at *
          have HS := Lib.hid hs
          clear hs
          generalize hz : s.size = sz at *
          have HZ := Lib.hid hz
          have hb0 : (0 : Int) ≤ (k : Int) := by omega
          have hb1 : (k : Int) < (len8 : Int) := by omega
          have hz2 : s.size = sz := hz
          clear hz
          by_cases h1 : 1048576 < sz
          · go_wp2
            go_ret
            exact ⟨false, rfl, by first | rfl | trivial, by simp⟩
          by_cases h2 : 1048576 < t' + (sz : Int)
          · go_wp2
            go_ret
            exact ⟨false, rfl, by first | rfl | trivial, by simp⟩
          · go_wp2
            go_roundw
            case rel =>
              refine ⟨k + 1, t' + (sz : Int), by omega, by go_num, rfl, by omega, by omega, fun j hj => ?_, by first | rfl | trivial⟩
              by_cases e : j = k
              · subst e
                rw [HS.out, HZ.out]
                omega
              · exact HALL.out j (by omega)
            case measure => simp [intOf]; omega
        · have hkk : k = len8 := by omega
          subst hkk
          by_cases hb : 1048576 < len9
          · go_wp2
            go_ret
            exact ⟨false, rfl, by first | rfl | trivial, by simp⟩
          by_cases hb : 1048576 < t' + (len9 : Int)
          · go_wp2
            go_ret
            exact ⟨false, rfl, by first | rfl | trivial, by simp⟩
          go_wp2
          go_ret
          exact ⟨true, rfl, by first | rfl | trivial, fun _ => ⟨by omega, by omega, HALL1.out, by omega, by omega, by omega, HALL.out, by omega⟩⟩

end Go.Proofs.YtiihgamhmflphaaFmt
