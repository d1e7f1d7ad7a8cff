/- The walk of FnListEntriesAgreeWithFind. -/
import Derived.Test.YtijkbkmbokhbaaaPoolList103
import Derived.Test.YtijkbkmbokhbaaaPoolBytes103
namespace Go.Proofs.Ytijkbkmbokhbaaa.fnListEntriesAgreeWithFind
open Go.RowKit
set_option linter.unusedVariables false

set_option maxHeartbeats 1000000 in
theorem bytes_any (a0 : Int) (a : Option Addr) (n cap : Nat) (zs : List ByteArray) (w : World) (h : IsStrs w a n cap zs) :
    Calls Try.prog 20 #[.int .i64 a0, .slice a n cap] w (Bts (n ≤ 1048576 ∧ ∀ i, i < n → (zs.getD i ByteArray.empty).size ≤ 1048576) w) := by
  have hm := (InRow.len_le h).2
  unfold maxLen at hm
  have H := Lib.hid h
  have hsm : ∀ i, i < n → (zs.getD i ByteArray.empty).size ≤ maxLen := fun i hi => by
    rcases h with ⟨_, h1, _, _⟩ | ⟨x, _, h1, h2, h3, _, h5⟩
    · omega
    · have hl : i < zs.length := by omega
      have : zs.getD i ByteArray.empty = zs[i] := by simp [List.getD, hl]
      rw [this]
      exact h5 _ (List.getElem_mem hl)
  have HSM := Lib.hid hsm
  clear h hsm
  by_cases hb : 1048576 < n
  · go_enter Try.func20, Try.ntmps20
    go_wp2
    go_ret
    exact ⟨false, 0, rfl, rfl, by simp⟩
  go_enter Try.func20, Try.ntmps20
  go_wp2_with fail
  go_loopw [5, 6] (fun t i wr => ∃ (k : Nat) (t' : Int), k ≤ n ∧ i = .int .i64 k ∧ t = .int .i64 t' ∧ 0 ≤ t' ∧ t' ≤ 1048576 ∧ (∀ j, j < k → (zs.getD j ByteArray.empty).size ≤ 1048576) ∧ wr = w) (fun _ i _ => n - (intOf i).toNat)
  case atStart => exact ⟨0, (n : Int), by omega, rfl, rfl, by omega, by omega, fun j hj => absurd hj (by omega), rfl⟩
  case round =>
    obtain ⟨k, t', hk, rfl, rfl, ht1, ht2, hall, rfl⟩ := hrel
    have HALL := Lib.hid hall
    clear hall
    by_cases hkl : k < n
    · obtain ⟨b, off, ea, hc⟩ := InRow.cells H.out (by omega)
      subst ea
      have d1 := hc k hkl
      have hsz := HSM.out k hkl
      unfold maxLen at hsz
      clear hc
      generalize hs : zs.getD k ByteArray.empty = s at *
      have HS := Lib.hid hs
      clear hs
      generalize hz : s.size = sz at *
      have HZ := Lib.hid hz
      have hb0 : (0 : Int) ≤ (k : Int) := by omega
      have hb1 : (k : Int) < (n : Int) := by omega
      have hz2 : s.size = sz := hz
      clear hz
      by_cases h1 : 1048576 < sz
      · go_wp2
        go_ret
        exact ⟨false, 0, rfl, rfl, by simp⟩
      by_cases h2 : 1048576 < t' + (sz : Int)
      · go_wp2
        go_ret
        exact ⟨false, 0, rfl, rfl, by simp⟩
      · go_wp2
        go_roundw
        case rel =>
          refine ⟨k + 1, t' + (sz : Int), by omega, by go_num, rfl, by omega, by omega, fun j hj => ?_, by first | rfl | trivial⟩
          by_cases e : j = k
          · subst e
            rw [HS.out, HZ.out]
            omega
          · exact HALL.out j (by omega)
        case measure => simp [intOf]; omega
    · have hkk : k = n := by omega
      subst hkk
      go_wp2
      go_ret
      exact ⟨true, 0, rfl, rfl, fun _ => ⟨by omega, HALL.out⟩⟩

set_option maxHeartbeats 4000000 in
set_option maxRecDepth 100000 in
theorem walk (a0 : Int) (a1 : Option Addr) (len1 cap1 : Nat) (z1 : List ByteArray) (w : World) (w0 : (Lit.int .i64 a0).wf = true) (w1 : IsStrs w a1 len1 cap1 z1) :
    Calls Try.prog 6 #[.int .i64 a0, .slice a1 len1 cap1] w fun e w' => e = .returned (.bool true) ∧ Below w.heap.size w w' := by
  have HBY := Lib.hid (bytes_any a0 a1 len1 cap1 z1 w w1)
  have W1 := Lib.hid w1
  obtain ⟨l, hl⟩ : ∃ l, l = z1.take len1 := ⟨_, rfl⟩
  have hlen : l.length = len1 := by rw [hl]; have := (InRow.len_le w1).1; simp; omega
  have HL := Lib.hid hl
  have HLEN := Lib.hid hlen
  clear hl hlen w1 w0
  go_enter Try.func6, Try.ntmps6
  go_wp2_with fail
  refine HBY.out.mono ?_; rintro e u0 ⟨b, k0, rfl, rfl, hbt⟩
  cases b with
  | false =>
    go_wp2
    go_ret
    exact ⟨rfl, below_drewN (Below.refl _ _) _⟩
  | true =>
  obtain ⟨hn, hsz⟩ := hbt rfl
  clear hbt HBY
  skip
  have HSZ := Lib.hid hsz
  clear hsz
  go_wp2_with fail
  refine (namesBytes_any a1 len1 cap1 z1 _ (InRow.keep W1.out (below_drewN (Below.refl _ _) _)) hn HSZ.out).mono ?_; rintro e u1 ⟨t, k1, rfl, rfl, t0, t1, ht⟩
  by_cases hc : 1048576 < t 
  · go_wp2
    go_ret
    exact ⟨rfl, below_drewN (Below.refl _ _) _⟩
  have hn2 : len1 ≤ 65536 := ht (by omega)
  clear ht
  by_cases hcap : 4096 < len1
  · go_wp2
    go_ret
    exact ⟨rfl, below_drewN (Below.refl _ _) _⟩
  by_cases hd : a0 < 0
  · go_wp2
    go_ret
    exact ⟨rfl, below_drewN (Below.refl _ _) _⟩
  by_cases he : 1073741824 < a0
  · go_wp2
    go_ret
    exact ⟨rfl, below_drewN (Below.refl _ _) _⟩
  go_wp2_with fail
  refine (cloneStrs_any a1 len1 cap1 z1 _ (InRow.keep W1.out (below_drewN (Below.refl _ _) _)) (by omega)).mono ?_; rintro e u2 ⟨v, rfl, hown, hb2⟩
  rw [← HL.out] at hown
  obtain ⟨p, hv⟩ := own_form hown
  rw [HLEN.out] at hv
  subst hv
  have hval : ∀ k, k < len1 → ∃ g, p = some ⟨g, 0, none⟩ ∧ g < u2.heap.size ∧ u2.cell? ⟨g, k, none⟩ = some (.string (l.getD k ByteArray.empty)) := fun k hk => by
    obtain ⟨g, h1, _, h2, h3⟩ := own_cell hown ByteArray.empty (by rw [HLEN.out]; exact hk)
    exact ⟨g, h1, h2, h3⟩
  have HVAL := Lib.hid hval
  have HB2 := Lib.hid ((below_drewN (Below.refl w.heap.size w) _).trans hb2)
  clear hval hown hb2
  go_wp2_with fail
  refine (pool_new a0 _).mono ?_; rintro e u3 ⟨S, rfl, hp3, hb3⟩
  have HP3 := Lib.hid hp3
  have HB3 := Lib.hid hb3
  clear hp3 hb3
  go_wp2_with fail
  go_loopw [6] (fun i wr => ∃ k : Nat, k ≤ len1 ∧ i = .int .i64 k ∧ Pool wr S u2.heap.size (l.take k) a0 ∧ Below u2.heap.size u2 wr) (fun i _ => len1 - (intOf i).toNat)
  case atStart => exact ⟨0, by omega, rfl, HP3.out, HB3.out⟩
  case round =>
    obtain ⟨k, hk, rfl, hp, hb⟩ := hrel
    have HP := Lib.hid hp
    have HB := Lib.hid hb
    clear hp hb
    by_cases hkl : k < len1
    · obtain ⟨g, ep, hg, hc⟩ := HVAL.out k hkl
      subst ep
      have d1 : wr.cell? ⟨g, k, none⟩ = some (.string (l.getD k ByteArray.empty)) := (HB.out.cell (p := ⟨g, k, none⟩) hg).trans hc
      have hnx := take_next (l := l) (k := k) (by rw [HLEN.out]; exact hkl)
      generalize l.getD k ByteArray.empty = s at *
      have HNX := Lib.hid hnx
      clear hc hnx
      go_wp2_with fail
      refine (register_any S _ _ a0 s _ HP.out (by omega) (by omega) (by simp; omega)).mono ?_; rintro e u4 ⟨rfl, hp, hb⟩
      rw [HNX.out] at hp
      have HP' := Lib.hid hp
      have HB' := Lib.hid (HB.out.trans hb)
      clear hp hb
      go_wp2
      go_roundw
      case rel => exact ⟨k + 1, by omega, by go_num, HP'.out, HB'.out⟩
      case measure => simp [intOf]; omega
    · have hkk : k = len1 := by omega
      subst hkk
      have hp := HP.out
      have etk : l.take k = l := by rw [← HLEN.out, List.take_length]
      rw [etk] at hp
      have HPL := Lib.hid hp
      clear hp etk HP
      obtain ⟨u5, rfl⟩ : ∃ u5 : World, u5 = wr := ⟨_, rfl⟩
      have hln : l.length = k := HLEN.out
      have HLN := Lib.hid hln
      go_wp2_with fail
      refine (list_any S _ l a0 _ HPL.out (by omega) (by omega) (by rw [HLEN.out]; omega)).mono ?_; rintro e u6 ⟨G, arr, rfl, hg, hpr, hall, hb6⟩
      rw [hln] at hpr hall
      rw [hln]
      have HPR := Lib.hid hpr
      have HALL := Lib.hid hall
      have HB6 := Lib.hid (HB.out.trans (hb6.mono HB.out.size))
      have HPL6 := Lib.hid (HPL.out.below (Nat.le_refl _) hb6)
      clear hpr hall hb6 hln
      go_wp2_with fail
      go_loopw [9, 10, 11, 12] (fun i _ _ _ wr => ∃ m : Nat, m ≤ k ∧ i = .int .i64 m ∧ Pool wr S u2.heap.size l a0 ∧ Pairs wr G k arr ∧ Below u2.heap.size u2 wr) (fun i _ _ _ _ => k - (intOf i).toNat)
      case atStart => exact ⟨0, by omega, rfl, HPL6.out, HPR.out, HB6.out⟩
      case round =>
        obtain ⟨m, hm, rfl, hp, hpr, hb⟩ := hrel
        have HP := Lib.hid hp
        have HPR := Lib.hid hpr
        have HB := Lib.hid hb
        clear hp hpr hb
        obtain ⟨u, rfl⟩ : ∃ u : World, u = wr := ⟨_, rfl⟩
        by_cases hml : m < k
        · have d2 := HPR.out.p1 (HALL.out m hml)
          obtain ⟨x, hx0, hx1, hx2, hx3⟩ : ∃ x, lix l (l.getD m ByteArray.empty) l.length = some x ∧ x < k ∧ l.getD x ByteArray.empty = l.getD m ByteArray.empty ∧ ∀ j, x < j → j < k → l.getD j ByteArray.empty ≠ l.getD m ByteArray.empty := by
            cases hlx : lix l (l.getD m ByteArray.empty) l.length with
            | none => exact absurd rfl (lix_none hlx m (by rw [HLN.out]; exact hml))
            | some x =>
              obtain ⟨h1, h2, h3⟩ := lix_some hlx
              rw [HLN.out] at h1 h3
              exact ⟨x, rfl, h1, h2, h3⟩
          have hmx : m ≤ x := by
            by_cases h : m ≤ x
            · exact h
            · exact absurd rfl (hx3 m (by omega) hml)
          have e4 : findR l (l.getD m ByteArray.empty) a0 = a0 + (x : Int) := by
            unfold findR; rw [hx0]; exact Int.add_comm _ _
          have d3 := HPR.out.p0 (HALL.out x hx1)
          have d4 := HPR.out.p1 (HALL.out x hx1)
          rw [hx2] at d4
          generalize hsm : l.getD m ByteArray.empty = s at *
          have HSM := Lib.hid hsm
          clear hsm
          have HX3 := Lib.hid hx3
          have E4 := Lib.hid e4
          clear hx3 hx0 hx2 e4
          have b1 : (0 : Int) ≤ (m : Int) := by omega
          have b2 : (m : Int) < (k : Int) := by omega
          have b3 : (0 : Int) ≤ (x : Int) := by omega
          have b4 : (x : Int) < (k : Int) := by omega
          have b5 : ¬ ((x : Int) < (m : Int)) := by omega
          have b6 : ¬ ((k : Int) ≤ (x : Int)) := by omega
          have b7 : IntKind.i64.wrap (a0 + (x : Int) - a0) = (x : Int) := by rw [show a0 + (x : Int) - a0 = (x : Int) by omega]; exact IntWalk.i64_in _ (by omega)
          go_wp2_with fail
          refine (find_any S _ l a0 s _ HP.out (by omega) (by omega) (by rw [HLEN.out]; omega)).mono ?_; rintro e u9 ⟨rfl, q5, rfl⟩
          rw [E4.out]
          have f2 : (u.drewN q5).cell? ⟨G, m * 2 + 1, none⟩ = some (.string s) := d2
          have f3 : (u.drewN q5).cell? ⟨G, x * 2, none⟩ = some (.int .i64 (a0 + (x : Int))) := d3
          have f4 : (u.drewN q5).cell? ⟨G, x * 2 + 1, none⟩ = some (.string s) := d4
          have HPQ := Lib.hid (HP.out.drewN q5)
          have HPRQ := Lib.hid (⟨HPR.out.h, HPR.out.size⟩ : Pairs (u.drewN q5) G k arr)
          have HBQ := Lib.hid (below_drewN HB.out q5)
          generalize u.drewN q5 = v at *
          go_wp2_with fail
          go_quiet (fail)
          go_wp2_with fail
          go_loopw [12] (fun j wr => ∃ n : Nat, x < n ∧ n ≤ k ∧ j = .int .i64 n ∧ Pool wr S u2.heap.size l a0 ∧ Pairs wr G k arr ∧ Below u2.heap.size u2 wr) (fun j _ => k - (intOf j).toNat)
          case atStart => exact ⟨x + 1, by omega, by omega, by go_num, HPQ.out.drewN _, ⟨HPRQ.out.h, HPRQ.out.size⟩, below_drewN HBQ.out _⟩
          case round =>
            obtain ⟨n, hxn, hnk, rfl, hp, hpr, hb⟩ := hrel
            have HP := Lib.hid hp
            have HPR := Lib.hid hpr
            have HB := Lib.hid hb
            clear hp hpr hb
            by_cases hnl : n < k
            · have d5 := HPR.out.p1 (HALL.out n hnl)
              have d6 := HPR.out.p1 (HALL.out m hml)
              have hne := HX3.out n hxn hnl
              rw [HSM.out] at d6
              generalize l.getD n ByteArray.empty = t at *
              have hx1 := tl_ne hne
              clear hne
              have b8 : (0 : Int) ≤ (n : Int) := by omega
              have b9 : (n : Int) < (k : Int) := by omega
              go_wp2
              go_quiet (fail)
              go_wp2
              go_roundw
              case rel => exact ⟨n + 1, by omega, by omega, by go_num, HP.out.drewN _, ⟨HPR.out.h, HPR.out.size⟩, below_drewN HB.out _⟩
              case measure => simp [intOf]; omega
            · have hnk2 : n = k := by omega
              subst hnk2
              go_wp2
              go_roundw
              case rel => exact ⟨m + 1, by omega, by go_num, HP.out, HPR.out, HB.out⟩
              case measure => simp [intOf]; omega
        · have hmk : m = k := by omega
          subst hmk
          go_wp2
          go_ret
          exact ⟨rfl, HB2.out.trans (HB.out.mono HB2.out.size)⟩

end Go.Proofs.Ytijkbkmbokhbaaa.fnListEntriesAgreeWithFind
