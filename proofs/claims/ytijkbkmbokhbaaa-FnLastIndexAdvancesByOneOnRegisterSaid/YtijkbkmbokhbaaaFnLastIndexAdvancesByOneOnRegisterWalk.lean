/- The walk of FnLastIndexAdvancesByOneOnRegister. -/
import Derived.Test.YtijkbkmbokhbaaaPoolBytes103
namespace Go.Proofs.Ytijkbkmbokhbaaa.fnLastIndexAdvancesByOneOnRegister
open Go.RowKit
set_option linter.unusedVariables false

theorem findR_new (l : List ByteArray) (q : ByteArray) (off : Int) : findR (l ++ [q]) q off = off + (l.length : Int) := by
  have e : (l ++ [q]).length = l.length + 1 := by simp
  have h : lix (l ++ [q]) q (l.length + 1) = some l.length := by
    unfold lix
    rw [if_pos (by simp [List.getD])]
  unfold findR
  rw [e, h]
  show (l.length : Int) + off = _
  omega

set_option maxHeartbeats 1000000 in
theorem bytes_any (a0 : Int) (a : Option Addr) (n cap : Nat) (zs : List ByteArray) (w : World) (h : IsStrs w a n cap zs) :
    Calls Try.prog 19 #[.int .i64 a0, .slice a n cap] w (Bts (n ≤ 1048576 ∧ ∀ i, i < n → (zs.getD i ByteArray.empty).size ≤ 1048576) w) := by
  have hm := (InRow.len_le h).2
  unfold maxLen at hm
  have H := Lib.hid h
  have hsm : ∀ i, i < n → (zs.getD i ByteArray.empty).size ≤ maxLen := fun i hi => by
    rcases h with ⟨_, h1, _, _⟩ | ⟨x, _, h1, h2, h3, _, h5⟩
    · omega
    · have hl : i < zs.length := by omega
      have : zs.getD i ByteArray.empty = zs[i] := by simp [List.getD, hl]
      rw [this]
      exact h5 _ (List.getElem_mem hl)
  have HSM := Lib.hid hsm
  clear h hsm
  by_cases hb : 1048576 < n
  · go_enter Try.func19, Try.ntmps19
    go_wp2
    go_ret
    exact ⟨false, 0, rfl, rfl, by simp⟩
  go_enter Try.func19, Try.ntmps19
  go_wp2_with fail
  go_loopw [5, 6] (fun t i wr => ∃ (k : Nat) (t' : Int), k ≤ n ∧ i = .int .i64 k ∧ t = .int .i64 t' ∧ 0 ≤ t' ∧ t' ≤ 1048576 ∧ (∀ j, j < k → (zs.getD j ByteArray.empty).size ≤ 1048576) ∧ wr = w) (fun _ i _ => n - (intOf i).toNat)
  case atStart => exact ⟨0, (n : Int), by omega, rfl, rfl, by omega, by omega, fun j hj => absurd hj (by omega), rfl⟩
  case round =>
    obtain ⟨k, t', hk, rfl, rfl, ht1, ht2, hall, rfl⟩ := hrel
    have HALL := Lib.hid hall
    clear hall
    by_cases hkl : k < n
    · obtain ⟨b, off, ea, hc⟩ := InRow.cells H.out (by omega)
      subst ea
      have d1 := hc k hkl
      have hsz := HSM.out k hkl
      unfold maxLen at hsz
      clear hc
      generalize hs : zs.getD k ByteArray.empty = s at *
      have HS := Lib.hid hs
      clear hs
      generalize hz : s.size = sz at *
      have HZ := Lib.hid hz
      have hb0 : (0 : Int) ≤ (k : Int) := by omega
      have hb1 : (k : Int) < (n : Int) := by omega
      have hz2 : s.size = sz := hz
      clear hz
      by_cases h1 : 1048576 < sz
      · go_wp2
        go_ret
        exact ⟨false, 0, rfl, rfl, by simp⟩
      by_cases h2 : 1048576 < t' + (sz : Int)
      · go_wp2
        go_ret
        exact ⟨false, 0, rfl, rfl, by simp⟩
      · go_wp2
        go_roundw
        case rel =>
          refine ⟨k + 1, t' + (sz : Int), by omega, by go_num, rfl, by omega, by omega, fun j hj => ?_, by first | rfl | trivial⟩
          by_cases e : j = k
          · subst e
            rw [HS.out, HZ.out]
            omega
          · exact HALL.out j (by omega)
        case measure => simp [intOf]; omega
    · have hkk : k = n := by omega
      subst hkk
      go_wp2
      go_ret
      exact ⟨true, 0, rfl, rfl, fun _ => ⟨by omega, HALL.out⟩⟩

set_option maxHeartbeats 4000000 in
set_option maxRecDepth 100000 in
theorem walk (a0 : Int) (a1 : Option Addr) (len1 cap1 : Nat) (z1 : List ByteArray) (w : World) (w0 : (Lit.int .i64 a0).wf = true) (w1 : IsStrs w a1 len1 cap1 z1) :
    Calls Try.prog 5 #[.int .i64 a0, .slice a1 len1 cap1] w fun e w' => e = .returned (.bool true) ∧ Below w.heap.size w w' := by
  have HBY := Lib.hid (bytes_any a0 a1 len1 cap1 z1 w w1)
  have W1 := Lib.hid w1
  obtain ⟨l, hl⟩ : ∃ l, l = z1.take len1 := ⟨_, rfl⟩
  have hlen : l.length = len1 := by rw [hl]; have := (InRow.len_le w1).1; simp; omega
  have HL := Lib.hid hl
  have HLEN := Lib.hid hlen
  clear hl hlen w1 w0
  go_enter Try.func5, Try.ntmps5
  go_wp2_with fail
  refine HBY.out.mono ?_; rintro e u0 ⟨b, k0, rfl, rfl, hbt⟩
  cases b with
  | false =>
    go_wp2
    go_ret
    exact ⟨rfl, below_drewN (Below.refl _ _) _⟩
  | true =>
  obtain ⟨hn, hsz⟩ := hbt rfl
  clear hbt HBY
  skip
  have HSZ := Lib.hid hsz
  clear hsz
  go_wp2_with fail
  refine (namesBytes_any a1 len1 cap1 z1 _ (InRow.keep W1.out (below_drewN (Below.refl _ _) _)) hn HSZ.out).mono ?_; rintro e u1 ⟨t, k1, rfl, rfl, t0, t1, ht⟩
  by_cases hc : 1048576 < t 
  · go_wp2
    go_ret
    exact ⟨rfl, below_drewN (Below.refl _ _) _⟩
  have hn2 : len1 ≤ 65536 := ht (by omega)
  clear ht
  by_cases hd : a0 < 0
  · go_wp2
    go_ret
    exact ⟨rfl, below_drewN (Below.refl _ _) _⟩
  by_cases he : 1073741824 < a0
  · go_wp2
    go_ret
    exact ⟨rfl, below_drewN (Below.refl _ _) _⟩
  go_wp2_with fail
  refine (cloneStrs_any a1 len1 cap1 z1 _ (InRow.keep W1.out (below_drewN (Below.refl _ _) _)) (by omega)).mono ?_; rintro e u2 ⟨v, rfl, hown, hb2⟩
  rw [← HL.out] at hown
  obtain ⟨p, hv⟩ := own_form hown
  rw [HLEN.out] at hv
  subst hv
  have hval : ∀ k, k < len1 → ∃ g, p = some ⟨g, 0, none⟩ ∧ g < u2.heap.size ∧ u2.cell? ⟨g, k, none⟩ = some (.string (l.getD k ByteArray.empty)) := fun k hk => by
    obtain ⟨g, h1, _, h2, h3⟩ := own_cell hown ByteArray.empty (by rw [HLEN.out]; exact hk)
    exact ⟨g, h1, h2, h3⟩
  have HVAL := Lib.hid hval
  have HB2 := Lib.hid ((below_drewN (Below.refl w.heap.size w) _).trans hb2)
  clear hval hown hb2
  go_wp2_with fail
  refine (pool_new a0 _).mono ?_; rintro e u3 ⟨S, rfl, hp3, hb3⟩
  have HP3 := Lib.hid hp3
  have HB3 := Lib.hid hb3
  clear hp3 hb3
  go_wp2_with fail
  refine (lastIndex_any S _ [] a0 _ HP3.out (by omega) (by omega) (by simp)).mono ?_; rintro e u4 ⟨rfl, q0, rfl⟩
  have hz : a0 + (([] : List ByteArray).length : Int) = a0 := by simp
  rw [hz]
  clear hz
  go_wp2_with fail
  go_loopw [6, 7, 8, 9] (fun i _ _ _ wr => ∃ k : Nat, k ≤ len1 ∧ i = .int .i64 k ∧ Pool wr S u2.heap.size (l.take k) a0 ∧ Below u2.heap.size u2 wr) (fun i _ _ _ _ => len1 - (intOf i).toNat)
  case atStart => exact ⟨0, by omega, rfl, HP3.out.drewN _, below_drewN HB3.out _⟩
  case round =>
    obtain ⟨k, hk, rfl, hp, hb⟩ := hrel
    have HP := Lib.hid hp
    have HB := Lib.hid hb
    clear hp hb
    by_cases hkl : k < len1
    · obtain ⟨g, ep, hg, hc⟩ := HVAL.out k hkl
      subst ep
      have d1 : wr.cell? ⟨g, k, none⟩ = some (.string (l.getD k ByteArray.empty)) := (HB.out.cell (p := ⟨g, k, none⟩) hg).trans hc
      have hnx := take_next (l := l) (k := k) (by rw [HLEN.out]; exact hkl)
      have hf := findR_new (l.take k) (l.getD k ByteArray.empty) a0
      rw [hnx] at hf
      have hlk : (l.take k).length = k := by rw [List.length_take, HLEN.out]; omega
      have hlk1 : (l.take (k + 1)).length = k + 1 := by rw [List.length_take, HLEN.out]; omega
      rw [hlk] at hf
      generalize l.getD k ByteArray.empty = s at *
      have HC := Lib.hid hc
      have HNX := Lib.hid hnx
      have HF := Lib.hid hf
      have HLK := Lib.hid hlk
      have HLK1 := Lib.hid hlk1
      clear hc hnx hf hlk hlk1
      go_wp2_with fail
      refine (lastIndex_any S _ _ a0 _ HP.out (by omega) (by omega) (by rw [HLK.out]; omega)).mono ?_; rintro e u6 ⟨rfl, q1, rfl⟩
      rw [HLK.out]
      go_wp2_with fail
      refine (register_any S _ _ a0 s _ (HP.out.drewN _) (by omega) (by omega) (by rw [HLK.out]; omega)).mono ?_; rintro e u4 ⟨rfl, hp, hb⟩
      rw [HNX.out] at hp
      have ec : ((l.take k).length : Int) + a0 = a0 + (k : Int) := by rw [HLK.out]; omega
      rw [ec]
      have HP' := Lib.hid hp
      have HB' := Lib.hid ((below_drewN HB.out q1).trans hb)
      have d2 : u4.cell? ⟨g, k, none⟩ = some (.string s) := (HB'.out.cell (p := ⟨g, k, none⟩) hg).trans HC.out
      clear hp hb ec d1
      go_wp2_with fail
      refine (lastIndex_any S _ _ a0 _ HP'.out (by omega) (by omega) (by rw [HLK1.out]; omega)).mono ?_; rintro e u6 ⟨rfl, q2, rfl⟩
      have ed : a0 + ((l.take (k + 1)).length : Int) = a0 + (k : Int) + 1 := by rw [HLK1.out]; omega
      rw [ed]
      clear ed
      go_wp2_with fail
      refine (find_any S _ _ a0 s _ (HP'.out.drewN _) (by omega) (by omega) (by rw [HLK1.out]; omega)).mono ?_; rintro e u7 ⟨rfl, q5, rfl⟩
      rw [HF.out]
      go_wp2
      go_roundw
      case rel => exact ⟨k + 1, by omega, by go_num, HP'.out.drewN _, below_drewN HB'.out _⟩
      case measure => simp [intOf]; omega
    · have hkk : k = len1 := by omega
      subst hkk
      go_wp2
      go_ret
      exact ⟨rfl, HB2.out.trans (HB.out.mono HB2.out.size)⟩

end Go.Proofs.Ytijkbkmbokhbaaa.fnLastIndexAdvancesByOneOnRegister
