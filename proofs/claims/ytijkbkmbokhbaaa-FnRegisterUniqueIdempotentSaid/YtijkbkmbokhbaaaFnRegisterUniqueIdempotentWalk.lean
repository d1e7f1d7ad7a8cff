/- The walk of FnRegisterUniqueIdempotent. -/
import Derived.Test.YtijkbkmbokhbaaaPoolUniq103
import Derived.Test.YtijkbkmbokhbaaaPoolBytes103
namespace Go.Proofs.Ytijkbkmbokhbaaa.fnRegisterUniqueIdempotent
open Go.RowKit
set_option linter.unusedVariables false

theorem lix_new (l : List ByteArray) (q : ByteArray) : lix (l ++ [q]) q (l ++ [q]).length = some l.length := by
  have e : (l ++ [q]).length = l.length + 1 := by simp
  rw [e]
  unfold lix
  rw [if_pos (by simp [List.getD])]
theorem found {l : List ByteArray} {q : ByteArray} {x : Nat} (h : lix l q l.length = some x) (off : Int) : regR l q off = off + (x : Int) ∧ regL l q = l ∧ findR l q off = off + (x : Int) := by
  unfold regR regL findR
  rw [h]
  exact ⟨Int.add_comm _ _, rfl, Int.add_comm _ _⟩
theorem absent {l : List ByteArray} {q : ByteArray} (h : lix l q l.length = none) (off : Int) : regR l q off = off + (l.length : Int) ∧ regL l q = l ++ [q] := by
  unfold regR regL
  rw [h]
  exact ⟨Int.add_comm _ _, rfl⟩

set_option maxHeartbeats 1000000 in
theorem bytes_any (a0 : Int) (a : Option Addr) (n cap : Nat) (zs : List ByteArray) (q : ByteArray) (w : World) (h : IsStrs w a n cap zs) (hq : q.size ≤ maxLen) :
    Calls Try.prog 27 #[.int .i64 a0, .slice a n cap, .string q] w (Bts ((n ≤ 1048576 ∧ ∀ i, i < n → (zs.getD i ByteArray.empty).size ≤ 1048576) ∧ q.size ≤ 1048576) w) := by
  have hm := (InRow.len_le h).2
  unfold maxLen at hm
  have H := Lib.hid h
  have hsm : ∀ i, i < n → (zs.getD i ByteArray.empty).size ≤ maxLen := fun i hi => by
    rcases h with ⟨_, h1, _, _⟩ | ⟨x, _, h1, h2, h3, _, h5⟩
    · omega
    · have hl : i < zs.length := by omega
      have : zs.getD i ByteArray.empty = zs[i] := by simp [List.getD, hl]
      rw [this]
      exact h5 _ (List.getElem_mem hl)
  have HSM := Lib.hid hsm
  clear h hsm
  unfold maxLen at hq
  by_cases hb : 1048576 < n
  · go_enter Try.func27, Try.ntmps27
    go_wp2
    go_ret
    exact ⟨false, 0, rfl, rfl, by simp⟩
  go_enter Try.func27, Try.ntmps27
  go_wp2_with fail
  go_loopw [7, 8] (fun t i wr => ∃ (k : Nat) (t' : Int), k ≤ n ∧ i = .int .i64 k ∧ t = .int .i64 t' ∧ 0 ≤ t' ∧ t' ≤ 1048576 ∧ (∀ j, j < k → (zs.getD j ByteArray.empty).size ≤ 1048576) ∧ wr = w) (fun _ i _ => n - (intOf i).toNat)
  case atStart => exact ⟨0, (n : Int), by omega, rfl, rfl, by omega, by omega, fun j hj => absurd hj (by omega), rfl⟩
  case round =>
    obtain ⟨k, t', hk, rfl, rfl, ht1, ht2, hall, rfl⟩ := hrel
    have HALL := Lib.hid hall
    clear hall
    by_cases hkl : k < n
    · obtain ⟨b, off, ea, hc⟩ := InRow.cells H.out (by omega)
      subst ea
      have d1 := hc k hkl
      have hsz := HSM.out k hkl
      unfold maxLen at hsz
      clear hc
      generalize hs : zs.getD k ByteArray.empty = s at *
      have HS := Lib.hid hs
      clear hs
      generalize hz : s.size = sz at *
      have HZ := Lib.hid hz
      have hb0 : (0 : Int) ≤ (k : Int) := by omega
      have hb1 : (k : Int) < (n : Int) := by omega
      have hz2 : s.size = sz := hz
      clear hz
      by_cases h1 : 1048576 < sz
      · go_wp2
        go_ret
        exact ⟨false, 0, rfl, rfl, by simp⟩
      by_cases h2 : 1048576 < t' + (sz : Int)
      · go_wp2
        go_ret
        exact ⟨false, 0, rfl, rfl, by simp⟩
      · go_wp2
        go_roundw
        case rel =>
          refine ⟨k + 1, t' + (sz : Int), by omega, by go_num, rfl, by omega, by omega, fun j hj => ?_, by first | rfl | trivial⟩
          by_cases e : j = k
          · subst e
            rw [HS.out, HZ.out]
            omega
          · exact HALL.out j (by omega)
        case measure => simp [intOf]; omega
    · have hkk : k = n := by omega
      subst hkk
      by_cases h1 : 1048576 < q.size
      · go_wp2
        go_ret
        exact ⟨false, 0, rfl, rfl, by simp⟩
      by_cases h2 : 1048576 < t' + (q.size : Int)
      · go_wp2
        go_ret
        exact ⟨false, 0, rfl, rfl, by simp⟩
      · go_wp2
        go_ret
        exact ⟨true, 0, rfl, rfl, fun _ => ⟨⟨by omega, HALL.out⟩, by omega⟩⟩

set_option maxHeartbeats 4000000 in
set_option maxRecDepth 100000 in
theorem walk (a0 : Int) (a1 : Option Addr) (len1 cap1 : Nat) (z1 : List ByteArray) (a2 : ByteArray) (w : World) (w0 : (Lit.int .i64 a0).wf = true) (w1 : IsStrs w a1 len1 cap1 z1) (w2 : a2.size ≤ maxLen) :
    Calls Try.prog 10 #[.int .i64 a0, .slice a1 len1 cap1, .string a2] w fun e w' => e = .returned (.bool true) ∧ Below w.heap.size w w' := by
  have HBY := Lib.hid (bytes_any a0 a1 len1 cap1 z1 a2 w w1 w2)
  have W1 := Lib.hid w1
  obtain ⟨l, hl⟩ : ∃ l, l = z1.take len1 := ⟨_, rfl⟩
  have hlen : l.length = len1 := by rw [hl]; have := (InRow.len_le w1).1; simp; omega
  have HL := Lib.hid hl
  have HLEN := Lib.hid hlen
  clear hl hlen w1 w2 w0
  go_enter Try.func10, Try.ntmps10
  go_wp2_with fail
  refine HBY.out.mono ?_; rintro e u0 ⟨b, k0, rfl, rfl, hbt⟩
  cases b with
  | false =>
    go_wp2
    go_ret
    exact ⟨rfl, below_drewN (Below.refl _ _) _⟩
  | true =>
  obtain ⟨hn, hsz⟩ := hbt rfl
  clear hbt HBY
  obtain ⟨hn, hsz, hq⟩ := (⟨hn.1, hn.2, hsz⟩ : _ ∧ _ ∧ _)
  have HSZ := Lib.hid hsz
  clear hsz
  go_wp2_with fail
  refine (namesBytes_any a1 len1 cap1 z1 _ (InRow.keep W1.out (below_drewN (Below.refl _ _) _)) hn HSZ.out).mono ?_; rintro e u1 ⟨t, k1, rfl, rfl, t0, t1, ht⟩
  by_cases hc : 1048576 < t + (a2.size : Int)
  · go_wp2
    go_ret
    exact ⟨rfl, below_drewN (Below.refl _ _) _⟩
  have hn2 : len1 ≤ 65536 := ht (by omega)
  clear ht
  by_cases hd : a0 < 0
  · go_wp2
    go_ret
    exact ⟨rfl, below_drewN (Below.refl _ _) _⟩
  by_cases he : 1073741824 < a0
  · go_wp2
    go_ret
    exact ⟨rfl, below_drewN (Below.refl _ _) _⟩
  go_wp2_with fail
  refine (cloneStrs_any a1 len1 cap1 z1 _ (InRow.keep W1.out (below_drewN (Below.refl _ _) _)) (by omega)).mono ?_; rintro e u2 ⟨v, rfl, hown, hb2⟩
  rw [← HL.out] at hown
  obtain ⟨p, hv⟩ := own_form hown
  rw [HLEN.out] at hv
  subst hv
  have hval : ∀ k, k < len1 → ∃ g, p = some ⟨g, 0, none⟩ ∧ g < u2.heap.size ∧ u2.cell? ⟨g, k, none⟩ = some (.string (l.getD k ByteArray.empty)) := fun k hk => by
    obtain ⟨g, h1, _, h2, h3⟩ := own_cell hown ByteArray.empty (by rw [HLEN.out]; exact hk)
    exact ⟨g, h1, h2, h3⟩
  have HVAL := Lib.hid hval
  have HB2 := Lib.hid ((below_drewN (Below.refl w.heap.size w) _).trans hb2)
  clear hval hown hb2
  go_wp2_with fail
  refine (pool_new a0 _).mono ?_; rintro e u3 ⟨S, rfl, hp3, hb3⟩
  have HP3 := Lib.hid hp3
  have HB3 := Lib.hid hb3
  clear hp3 hb3
  go_wp2_with fail
  go_loopw [8] (fun i wr => ∃ k : Nat, k ≤ len1 ∧ i = .int .i64 k ∧ Pool wr S u2.heap.size (l.take k) a0 ∧ Below u2.heap.size u2 wr) (fun i _ => len1 - (intOf i).toNat)
  case atStart => exact ⟨0, by omega, rfl, HP3.out, HB3.out⟩
  case round =>
    obtain ⟨k, hk, rfl, hp, hb⟩ := hrel
    have HP := Lib.hid hp
    have HB := Lib.hid hb
    clear hp hb
    by_cases hkl : k < len1
    · obtain ⟨g, ep, hg, hc⟩ := HVAL.out k hkl
      subst ep
      have d1 : wr.cell? ⟨g, k, none⟩ = some (.string (l.getD k ByteArray.empty)) := (HB.out.cell (p := ⟨g, k, none⟩) hg).trans hc
      have hnx := take_next (l := l) (k := k) (by rw [HLEN.out]; exact hkl)
      generalize l.getD k ByteArray.empty = s at *
      have HNX := Lib.hid hnx
      clear hc hnx
      go_wp2_with fail
      refine (register_any S _ _ a0 s _ HP.out (by omega) (by omega) (by simp; omega)).mono ?_; rintro e u4 ⟨rfl, hp, hb⟩
      rw [HNX.out] at hp
      have HP' := Lib.hid hp
      have HB' := Lib.hid (HB.out.trans hb)
      clear hp hb
      go_wp2
      go_roundw
      case rel => exact ⟨k + 1, by omega, by go_num, HP'.out, HB'.out⟩
      case measure => simp [intOf]; omega
    · have hkk : k = len1 := by omega
      subst hkk
      have hp := HP.out
      have etk : l.take k = l := by rw [← HLEN.out, List.take_length]
      rw [etk] at hp
      have HPL := Lib.hid hp
      clear hp etk HP
      obtain ⟨u5, rfl⟩ : ∃ u5 : World, u5 = wr := ⟨_, rfl⟩
      go_wp2_with fail
      go_loopw [9, 10] (fun la j wr => ∃ m : Nat, m ≤ k ∧ j = .int .i64 m ∧ la = .int .i64 (match lix l a2 m with | some x => (x : Int) | none => -1) ∧ wr = u5) (fun _ j _ => k - (intOf j).toNat)
      case atStart => exact ⟨0, by omega, rfl, rfl, by first | rfl | trivial⟩
      case round =>
        obtain ⟨m, hm, rfl, rfl, rfl⟩ := hrel
        generalize hla : (match lix l a2 m with | some x => (x : Int) | none => -1) = la at *
        have HLA := Lib.hid hla
        clear hla
        by_cases hml : m < k
        · obtain ⟨g, ep, hg, hc⟩ := HVAL.out m hml
          subst ep
          have d1 : wr.cell? ⟨g, m, none⟩ = some (.string (l.getD m ByteArray.empty)) := (HB.out.cell (p := ⟨g, m, none⟩) hg).trans hc
          clear hc
          by_cases hx : l.getD m ByteArray.empty = a2
          · have hn1 : lix l a2 (m + 1) = some m := by simp only [lix, if_pos hx]
            have HN1 := Lib.hid hn1
            rw [hx] at d1
            clear hx hn1
            go_wp2
            go_roundw
            case rel => exact ⟨m + 1, by omega, by go_num, by rw [HN1.out], by first | rfl | trivial⟩
            case measure => simp [intOf]; omega
          · have hn1 : lix l a2 (m + 1) = lix l a2 m := by simp only [lix, if_neg hx]
            have HN1 := Lib.hid hn1
            generalize l.getD m ByteArray.empty = x at *
            have hx1 := tl_ne hx
            clear hx hn1
            go_wp2
            go_roundw
            case rel => exact ⟨m + 1, by omega, by go_num, by rw [HN1.out, HLA.out], by first | rfl | trivial⟩
            case measure => simp [intOf]; omega
        · have hmk : m = k := by omega
          subst hmk
          cases hlx : lix l a2 m with
          | none =>
            have e1 : la = -1 := by rw [← HLA.out, hlx]
            subst e1
            rw [← HLEN.out] at hlx
            have E2 := Lib.hid (absent hlx a0).1
            have E3 := Lib.hid (absent hlx a0).2
            have hnew := found (lix_new l a2) a0
            obtain ⟨LL, hLL⟩ : ∃ LL, LL = l ++ [a2] := ⟨_, rfl⟩
            rw [← hLL] at hnew E3
            rw [HLEN.out] at hnew E2
            have hel : LL.length = m + 1 := by rw [hLL, List.length_append, HLEN.out]; rfl
            have ELEN := Lib.hid hel
            have ECNT := Lib.hid (show a0 + (LL.length : Int) = a0 + (m : Int) + 1 by rw [hel]; omega)
            have E4 := Lib.hid hnew.1
            have E5 := Lib.hid hnew.2.1
            have E6 := Lib.hid hnew.2.2
            clear hlx hnew hLL hel
            have hln : (l.length : Int) = (m : Int) := by rw [HLEN.out]
            have HLN := Lib.hid hln
            clear hln
            go_wp2_with fail
            refine (lastIndex_any S _ l a0 _ HPL.out (by omega) (by omega) (by rw [HLEN.out]; omega)).mono ?_; rintro e u6 ⟨rfl, q1, rfl⟩
            rw [HLN.out]
            go_wp2_with fail
            refine (regU_any S _ l a0 a2 _ (HPL.out.drewN _) (by omega) (by omega) (by rw [HLEN.out]; omega)).mono ?_; rintro e u6 ⟨rfl, hp, hb⟩
            rw [E2.out]
            rw [E3.out] at hp
            have HP6 := Lib.hid hp
            have HB6 := Lib.hid ((below_drewN HB.out _).trans hb)
            clear hp hb
            go_wp2_with fail
            refine (lastIndex_any S _ LL a0 _ HP6.out (by omega) (by omega) (by rw [ELEN.out]; omega)).mono ?_; rintro e u7 ⟨rfl, q2, rfl⟩
            rw [ECNT.out]
            go_wp2_with fail
            refine (regU_any S _ LL a0 a2 _ (HP6.out.drewN _) (by omega) (by omega) (by rw [ELEN.out]; omega)).mono ?_; rintro e u7 ⟨rfl, hp, hb⟩
            rw [E4.out]
            rw [E5.out] at hp
            have HP7 := Lib.hid hp
            have HB7 := Lib.hid ((below_drewN HB6.out _).trans hb)
            clear hp hb
            go_wp2_with fail
            refine (lastIndex_any S _ LL a0 _ HP7.out (by omega) (by omega) (by rw [ELEN.out]; omega)).mono ?_; rintro e u8 ⟨rfl, q3, rfl⟩
            rw [ECNT.out]
            go_wp2_with fail
            refine (find_any S _ LL a0 a2 _ (HP7.out.drewN _) (by omega) (by omega) (by rw [ELEN.out]; omega)).mono ?_; rintro e u9 ⟨rfl, q5, rfl⟩
            rw [E6.out]
            go_wp2
            go_ret
            exact ⟨rfl, below_drewN (HB2.out.trans (HB7.out.mono HB2.out.size)) _⟩
          | some x =>
            have e1 : la = (x : Int) := by rw [← HLA.out, hlx]
            have e3 := (lix_some hlx).1
            subst e1
            rw [← HLEN.out] at hlx
            have hnew := found hlx a0
            obtain ⟨LL, hLL⟩ : ∃ LL, LL = l := ⟨_, rfl⟩
            have E2 := Lib.hid hnew.1
            have E3 := Lib.hid (hnew.2.1.trans hLL.symm)
            rw [← hLL] at hnew
            have hel : LL.length = m := by rw [hLL, HLEN.out]
            have ELEN := Lib.hid hel
            have ECNT := Lib.hid (show a0 + (LL.length : Int) = a0 + (m : Int) by rw [hel])
            have E4 := Lib.hid hnew.1
            have E5 := Lib.hid hnew.2.1
            have E6 := Lib.hid hnew.2.2
            clear hlx hnew hLL hel
            have hln : (l.length : Int) = (m : Int) := by rw [HLEN.out]
            have HLN := Lib.hid hln
            clear hln
            go_wp2_with fail
            refine (lastIndex_any S _ l a0 _ HPL.out (by omega) (by omega) (by rw [HLEN.out]; omega)).mono ?_; rintro e u6 ⟨rfl, q1, rfl⟩
            rw [HLN.out]
            go_wp2_with fail
            refine (regU_any S _ l a0 a2 _ (HPL.out.drewN _) (by omega) (by omega) (by rw [HLEN.out]; omega)).mono ?_; rintro e u6 ⟨rfl, hp, hb⟩
            rw [E2.out]
            rw [E3.out] at hp
            have HP6 := Lib.hid hp
            have HB6 := Lib.hid ((below_drewN HB.out _).trans hb)
            clear hp hb
            go_wp2_with fail
            refine (lastIndex_any S _ LL a0 _ HP6.out (by omega) (by omega) (by rw [ELEN.out]; omega)).mono ?_; rintro e u7 ⟨rfl, q2, rfl⟩
            rw [ECNT.out]
            go_wp2_with fail
            refine (regU_any S _ LL a0 a2 _ (HP6.out.drewN _) (by omega) (by omega) (by rw [ELEN.out]; omega)).mono ?_; rintro e u7 ⟨rfl, hp, hb⟩
            rw [E4.out]
            rw [E5.out] at hp
            have HP7 := Lib.hid hp
            have HB7 := Lib.hid ((below_drewN HB6.out _).trans hb)
            clear hp hb
            go_wp2_with fail
            refine (lastIndex_any S _ LL a0 _ HP7.out (by omega) (by omega) (by rw [ELEN.out]; omega)).mono ?_; rintro e u8 ⟨rfl, q3, rfl⟩
            rw [ECNT.out]
            go_wp2_with fail
            refine (find_any S _ LL a0 a2 _ (HP7.out.drewN _) (by omega) (by omega) (by rw [ELEN.out]; omega)).mono ?_; rintro e u9 ⟨rfl, q5, rfl⟩
            rw [E6.out]
            go_wp2
            go_ret
            exact ⟨rfl, below_drewN (HB2.out.trans (HB7.out.mono HB2.out.size)) _⟩

end Go.Proofs.Ytijkbkmbokhbaaa.fnRegisterUniqueIdempotent
