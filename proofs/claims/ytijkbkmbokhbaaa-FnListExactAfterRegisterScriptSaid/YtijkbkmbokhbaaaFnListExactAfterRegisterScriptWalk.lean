/- The walk of FnListExactAfterRegisterScript. -/
import Derived.Test.YtijkbkmbokhbaaaPoolList103
import Derived.Test.YtijkbkmbokhbaaaPoolBytes103
namespace Go.Proofs.Ytijkbkmbokhbaaa.fnListExactAfterRegisterScript
open Go.RowKit
set_option linter.unusedVariables false

set_option maxHeartbeats 1000000 in
theorem bytes_any (a0 : Int) (a : Option Addr) (n cap : Nat) (zs : List ByteArray) (w : World) (h : IsStrs w a n cap zs) :
    Calls Try.prog 25 #[.int .i64 a0, .slice a n cap] w (Bts (n ≤ 1048576 ∧ ∀ i, i < n → (zs.getD i ByteArray.empty).size ≤ 1048576) w) := by
  have hm := (InRow.len_le h).2
  unfold maxLen at hm
  have H := Lib.hid h
  have hsm : ∀ i, i < n → (zs.getD i ByteArray.empty).size ≤ maxLen := fun i hi => by
    rcases h with ⟨_, h1, _, _⟩ | ⟨x, _, h1, h2, h3, _, h5⟩
    · omega
    · have hl : i < zs.length := by omega
      have : zs.getD i ByteArray.empty = zs[i] := by simp [List.getD, hl]
      rw [this]
      exact h5 _ (List.getElem_mem hl)
  have HSM := Lib.hid hsm
  clear h hsm
  by_cases hb : 1048576 < n
  · go_enter Try.func25, Try.ntmps25
    go_wp2
    go_ret
    exact ⟨false, 0, rfl, rfl, by simp⟩
  go_enter Try.func25, Try.ntmps25
  go_wp2_with fail
  go_loopw [5, 6] (fun t i wr => ∃ (k : Nat) (t' : Int), k ≤ n ∧ i = .int .i64 k ∧ t = .int .i64 t' ∧ 0 ≤ t' ∧ t' ≤ 1048576 ∧ (∀ j, j < k → (zs.getD j ByteArray.empty).size ≤ 1048576) ∧ wr = w) (fun _ i _ => n - (intOf i).toNat)
  case atStart => exact ⟨0, (n : Int), by omega, rfl, rfl, by omega, by omega, fun j hj => absurd hj (by omega), rfl⟩
  case round =>
    obtain ⟨k, t', hk, rfl, rfl, ht1, ht2, hall, rfl⟩ := hrel
    have HALL := Lib.hid hall
    clear hall
    by_cases hkl : k < n
    · obtain ⟨b, off, ea, hc⟩ := InRow.cells H.out (by omega)
      subst ea
      have d1 := hc k hkl
      have hsz := HSM.out k hkl
      unfold maxLen at hsz
      clear hc
      generalize hs : zs.getD k ByteArray.empty = s at *
      have HS := Lib.hid hs
      clear hs
      generalize hz : s.size = sz at *
      have HZ := Lib.hid hz
      have hb0 : (0 : Int) ≤ (k : Int) := by omega
      have hb1 : (k : Int) < (n : Int) := by omega
      have hz2 : s.size = sz := hz
      clear hz
      by_cases h1 : 1048576 < sz
      · go_wp2
        go_ret
        exact ⟨false, 0, rfl, rfl, by simp⟩
      by_cases h2 : 1048576 < t' + (sz : Int)
      · go_wp2
        go_ret
        exact ⟨false, 0, rfl, rfl, by simp⟩
      · go_wp2
        go_roundw
        case rel =>
          refine ⟨k + 1, t' + (sz : Int), by omega, by go_num, rfl, by omega, by omega, fun j hj => ?_, by first | rfl | trivial⟩
          by_cases e : j = k
          · subst e
            rw [HS.out, HZ.out]
            omega
          · exact HALL.out j (by omega)
        case measure => simp [intOf]; omega
    · have hkk : k = n := by omega
      subst hkk
      go_wp2
      go_ret
      exact ⟨true, 0, rfl, rfl, fun _ => ⟨by omega, HALL.out⟩⟩

set_option maxHeartbeats 4000000 in
set_option maxRecDepth 100000 in
theorem walk (a0 : Int) (a1 : Option Addr) (len1 cap1 : Nat) (z1 : List ByteArray) (w : World) (w0 : (Lit.int .i64 a0).wf = true) (w1 : IsStrs w a1 len1 cap1 z1) :
    Calls Try.prog 8 #[.int .i64 a0, .slice a1 len1 cap1] w fun e w' => e = .returned (.bool true) ∧ Below w.heap.size w w' := by
  have HBY := Lib.hid (bytes_any a0 a1 len1 cap1 z1 w w1)
  have W1 := Lib.hid w1
  obtain ⟨l, hl⟩ : ∃ l, l = z1.take len1 := ⟨_, rfl⟩
  have hlen : l.length = len1 := by rw [hl]; have := (InRow.len_le w1).1; simp; omega
  have HL := Lib.hid hl
  have HLEN := Lib.hid hlen
  clear hl hlen w1 w0
  go_enter Try.func8, Try.ntmps8
  go_wp2_with fail
  refine HBY.out.mono ?_; rintro e u0 ⟨b, k0, rfl, rfl, hbt⟩
  cases b with
  | false =>
    go_wp2
    go_ret
    exact ⟨rfl, below_drewN (Below.refl _ _) _⟩
  | true =>
  obtain ⟨hn, hsz⟩ := hbt rfl
  clear hbt HBY
  skip
  have HSZ := Lib.hid hsz
  clear hsz
  go_wp2_with fail
  refine (namesBytes_any a1 len1 cap1 z1 _ (InRow.keep W1.out (below_drewN (Below.refl _ _) _)) hn HSZ.out).mono ?_; rintro e u1 ⟨t, k1, rfl, rfl, t0, t1, ht⟩
  by_cases hc : 1048576 < t 
  · go_wp2
    go_ret
    exact ⟨rfl, below_drewN (Below.refl _ _) _⟩
  have hn2 : len1 ≤ 65536 := ht (by omega)
  clear ht
  by_cases hd : a0 < 0
  · go_wp2
    go_ret
    exact ⟨rfl, below_drewN (Below.refl _ _) _⟩
  by_cases he : 1073741824 < a0
  · go_wp2
    go_ret
    exact ⟨rfl, below_drewN (Below.refl _ _) _⟩
  go_wp2_with fail
  refine (cloneStrs_any a1 len1 cap1 z1 _ (InRow.keep W1.out (below_drewN (Below.refl _ _) _)) (by omega)).mono ?_; rintro e u2 ⟨v, rfl, hown, hb2⟩
  rw [← HL.out] at hown
  obtain ⟨p, hv⟩ := own_form hown
  rw [HLEN.out] at hv
  subst hv
  have hval : ∀ k, k < len1 → ∃ g, p = some ⟨g, 0, none⟩ ∧ g < u2.heap.size ∧ u2.cell? ⟨g, k, none⟩ = some (.string (l.getD k ByteArray.empty)) := fun k hk => by
    obtain ⟨g, h1, _, h2, h3⟩ := own_cell hown ByteArray.empty (by rw [HLEN.out]; exact hk)
    exact ⟨g, h1, h2, h3⟩
  have HVAL := Lib.hid hval
  have HB2 := Lib.hid ((below_drewN (Below.refl w.heap.size w) _).trans hb2)
  clear hval hown hb2
  go_wp2_with fail
  refine (pool_new a0 _).mono ?_; rintro e u3 ⟨S, rfl, hp3, hb3⟩
  have HP3 := Lib.hid hp3
  have HB3 := Lib.hid hb3
  clear hp3 hb3
  go_wp2_with fail
  go_loopw [6] (fun i wr => ∃ k : Nat, k ≤ len1 ∧ i = .int .i64 k ∧ Pool wr S u2.heap.size (l.take k) a0 ∧ Below u2.heap.size u2 wr) (fun i _ => len1 - (intOf i).toNat)
  case atStart => exact ⟨0, by omega, rfl, HP3.out, HB3.out⟩
  case round =>
    obtain ⟨k, hk, rfl, hp, hb⟩ := hrel
    have HP := Lib.hid hp
    have HB := Lib.hid hb
    clear hp hb
    by_cases hkl : k < len1
    · obtain ⟨g, ep, hg, hc⟩ := HVAL.out k hkl
      subst ep
      have d1 : wr.cell? ⟨g, k, none⟩ = some (.string (l.getD k ByteArray.empty)) := (HB.out.cell (p := ⟨g, k, none⟩) hg).trans hc
      have hnx := take_next (l := l) (k := k) (by rw [HLEN.out]; exact hkl)
      have HKA := Lib.hid (show (((l.take k).length : Nat) : Int) + a0 = a0 + (k : Int) by rw [List.length_take, HLEN.out, Nat.min_eq_left (by omega)]; omega)
      generalize l.getD k ByteArray.empty = s at *
      have HNX := Lib.hid hnx
      clear hc hnx
      go_wp2_with fail
      refine (register_any S _ _ a0 s _ HP.out (by omega) (by omega) (by simp; omega)).mono ?_; rintro e u4 ⟨rfl, hp, hb⟩
      rw [HNX.out] at hp
      rw [HKA.out]
      have HP' := Lib.hid hp
      have HB' := Lib.hid (HB.out.trans hb)
      clear hp hb
      go_wp2
      go_roundw
      case rel => exact ⟨k + 1, by omega, by go_num, HP'.out, HB'.out⟩
      case measure => simp [intOf]; omega
    · have hkk : k = len1 := by omega
      subst hkk
      have hp := HP.out
      have etk : l.take k = l := by rw [← HLEN.out, List.take_length]
      rw [etk] at hp
      have HPL := Lib.hid hp
      clear hp etk HP
      obtain ⟨u5, rfl⟩ : ∃ u5 : World, u5 = wr := ⟨_, rfl⟩
      have hln : l.length = k := HLEN.out
      have HLN := Lib.hid hln
      go_wp2_with fail
      refine (list_any S _ l a0 _ HPL.out (by omega) (by omega) (by rw [HLEN.out]; omega)).mono ?_; rintro e u6 ⟨G, arr, rfl, hg, hpr, hall, hb6⟩
      rw [hln] at hpr hall
      rw [hln]
      have HPR := Lib.hid hpr
      have HALL := Lib.hid hall
      have HB6 := Lib.hid (HB.out.trans (hb6.mono HB.out.size))
      have H56 := Lib.hid hb6
      have hu25 := HB.out.size
      clear hpr hall hb6 hln
      go_wp2_with fail
      go_loopw [8] (fun i wr => ∃ m : Nat, m ≤ k ∧ i = .int .i64 m ∧ Pairs wr G k arr ∧ Below u5.heap.size u5 wr) (fun i _ => k - (intOf i).toNat)
      case atStart => exact ⟨0, by omega, rfl, HPR.out, H56.out⟩
      case round =>
        obtain ⟨m, hm, rfl, hp, hb⟩ := hrel
        by_cases hml : m < k
        · obtain ⟨g, ep, hg, hc⟩ := HVAL.out m hml
          subst ep
          have d1 : wr.cell? ⟨g, m, none⟩ = some (.string (l.getD m ByteArray.empty)) := (hb.cell (p := ⟨g, m, none⟩) (Nat.lt_of_lt_of_le hg hu25)).trans ((HB.out.cell (p := ⟨g, m, none⟩) hg).trans hc)
          have d2 := hp.p0 (HALL.out m hml)
          have d3 := hp.p1 (HALL.out m hml)
          generalize l.getD m ByteArray.empty = s at *
          have HP := Lib.hid hp
          have HBW := Lib.hid hb
          clear hc hp hb
          have b1 : (0 : Int) ≤ (m : Int) := by omega
          have b2 : (m : Int) < (k : Int) := by omega
          go_wp2
          go_quiet (fail)
          go_wp2
          go_roundw
          case rel => exact ⟨m + 1, by omega, by go_num, ⟨HP.out.h, HP.out.size⟩, below_drewN HBW.out _⟩
          case measure => simp [intOf]; omega
        · have hmk : m = k := by omega
          subst hmk
          clear hml hm
          have HPA := Lib.hid hp
          have HBA := Lib.hid hb
          clear hp hb
          go_wp2_with fail
          go_loopw [9] (fun i wr => ∃ (n : Nat) (arr' : Array Value), n ≤ m ∧ i = .int .i64 n ∧ Pairs wr G m arr' ∧ Below u5.heap.size u5 wr) (fun i _ => m - (intOf i).toNat)
          case atStart => exact ⟨0, arr, by omega, rfl, HPA.out, HBA.out⟩
          case round =>
            obtain ⟨n, arr', hnm, rfl, hp, hb⟩ := hrel
            have HP' := Lib.hid hp
            have HB' := Lib.hid hb
            by_cases hnl : n < m
            · obtain ⟨g, ep, hg2, hc⟩ := HVAL.out n hnl
              subst ep
              have lg : g < u5.heap.size := by omega
              have d1 : wr.cell? ⟨g, n, none⟩ = some (.string (l.getD n ByteArray.empty)) := (hb.cell (p := ⟨g, n, none⟩) lg).trans ((HB.out.cell (p := ⟨g, n, none⟩) hg2).trans hc)
              have hsz : (l.getD n ByteArray.empty).size ≤ 1048576 := by rw [HL.out, getD_take _ _ _ _ hnl]; exact HSZ.out n hnl
              obtain ⟨⟨v0, e3⟩, ⟨v1, e4⟩⟩ := hp.c hnl
              have e5 : ∀ o, wr.frozen? ⟨G, o, none⟩ = false := fun o => frozen_of_row _ _ _ _ _ hp.h
              have nGg : ¬ (G = g) := by omega
              have ngG : ¬ (g = G) := by omega
              generalize l.getD n ByteArray.empty = s at *
              clear hc hp hb
              have b1 : (0 : Int) ≤ (n : Int) := by omega
              have b2 : (n : Int) < (m : Int) := by omega
              go_wp2
              go_roundw
              case rel => exact ⟨n + 1, _, by omega, by go_num, (HP'.out.store n (-1) _ hnl).1, (HB'.out.setCell (p := ⟨G, n * 2, none⟩) hg _).setCell (p := ⟨G, n * 2 + 1, none⟩) hg _⟩
              case measure => simp [intOf]; omega
            · have hnk : n = m := by omega
              subst hnk
              have hpp := HPL.out.below (Nat.le_refl _) hb
              have HPP := Lib.hid hpp
              have HB5 := Lib.hid hb
              obtain ⟨u7, rfl⟩ : ∃ u7 : World, u7 = wr := ⟨_, rfl⟩
              clear hp hb hpp
              go_wp2_with fail
              refine (list_any S _ l a0 _ HPP.out (by omega) (by omega) (by rw [HLEN.out]; omega)).mono ?_; rintro e u8 ⟨G2, arr2, rfl, hg2, hpr, hall, hb8⟩
              rw [HLN.out] at hpr hall
              rw [HLN.out]
              have HPR2 := Lib.hid hpr
              have HALL2 := Lib.hid hall
              have H58 := Lib.hid (HB5.out.trans (hb8.mono HB5.out.size))
              clear hpr hall hb8
              go_wp2_with fail
              go_loopw [11] (fun i wr => ∃ m : Nat, m ≤ n ∧ i = .int .i64 m ∧ Pairs wr G2 n arr2 ∧ Below u5.heap.size u5 wr) (fun i _ => n - (intOf i).toNat)
              case atStart => exact ⟨0, by omega, rfl, HPR2.out, H58.out⟩
              case round =>
                obtain ⟨m, hm, rfl, hp, hb⟩ := hrel
                by_cases hml : m < n
                · obtain ⟨g, ep, hg, hc⟩ := HVAL.out m hml
                  subst ep
                  have d1 : wr.cell? ⟨g, m, none⟩ = some (.string (l.getD m ByteArray.empty)) := (hb.cell (p := ⟨g, m, none⟩) (Nat.lt_of_lt_of_le hg hu25)).trans ((HB.out.cell (p := ⟨g, m, none⟩) hg).trans hc)
                  have d2 := hp.p0 (HALL2.out m hml)
                  have d3 := hp.p1 (HALL2.out m hml)
                  generalize l.getD m ByteArray.empty = s at *
                  have HP := Lib.hid hp
                  have HBW := Lib.hid hb
                  clear hc hp hb
                  have b1 : (0 : Int) ≤ (m : Int) := by omega
                  have b2 : (m : Int) < (n : Int) := by omega
                  go_wp2
                  go_quiet (fail)
                  go_wp2
                  go_roundw
                  case rel => exact ⟨m + 1, by omega, by go_num, ⟨HP.out.h, HP.out.size⟩, below_drewN HBW.out _⟩
                  case measure => simp [intOf]; omega
                · have hmk : m = n := by omega
                  subst hmk
                  clear hml hm
                  have HBZ := Lib.hid (HB.out.trans (hb.mono HB.out.size))
                  clear hp hb
                  go_wp2
                  go_ret
                  exact ⟨rfl, HB2.out.trans (HBZ.out.mono HB2.out.size)⟩

end Go.Proofs.Ytijkbkmbokhbaaa.fnListExactAfterRegisterScript
