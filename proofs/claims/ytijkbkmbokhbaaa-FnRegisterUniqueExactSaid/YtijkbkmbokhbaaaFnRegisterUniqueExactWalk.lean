/- The walk of FnRegisterUniqueExact. -/
import Derived.Test.YtijkbkmbokhbaaaPoolUniq103
import Derived.Test.YtijkbkmbokhbaaaPoolList103
import Derived.Test.YtijkbkmbokhbaaaPoolBytes103
namespace Go.Proofs.Ytijkbkmbokhbaaa.fnRegisterUniqueExact
open Go.RowKit
set_option linter.unusedVariables false

theorem makeM (n : Nat) (hn : n ≤ 1048576) (w : World) : (Instr.makeSlice 22 (.int .i64 0) (.int .i64 (n : Int))).run Try.prog w = .ok (.slice (some ⟨w.heap.size, 0, none⟩) 0 n) (w.alloc (.cells (madeCells (Value.cells (.string ByteArray.empty)) n) 9)) := by
  obtain ⟨i0, hi, hz0, hz1, hz2⟩ := info_parts infoS
  have h := run_make (P := Try.prog) w 22 9 i0 (.string ByteArray.empty) Try.underlying22 hi hz0 .i64 .i64 0 n (by omega) (by omega) (by rw [hz2]; omega) (by omega)
  rw [hz1, Int.toNat_natCast, Nat.mul_one] at h
  exact h
/-- The model's row: block X, the N names ms. -/
def Mdl (w : World) (base X c N : Nat) (ms : List ByteArray) : Prop := ms.length = N ∧ w.ownsRow base 9 1 (.slice (some ⟨X, 0, none⟩) N c) N (vS ms)
theorem Mdl.lt {w : World} {base X c N : Nat} {ms : List ByteArray} (h : Mdl w base X c N ms) : X < w.heap.size := (World.ownsRow.lt h.2 X rfl).2
theorem Mdl.ge {w : World} {base X c N : Nat} {ms : List ByteArray} (h : Mdl w base X c N ms) : base ≤ X := (World.ownsRow.lt h.2 X rfl).1
theorem Mdl.mk {w : World} {base X c N : Nat} {ms : List ByteArray} (h1 : ms.length = N) (h2 : w.ownsRow base 9 1 (.slice (some ⟨X, 0, none⟩) N c) N (vS ms)) : Mdl w base X c N ms := ⟨h1, h2⟩
theorem Mdl.drewN {w : World} {base X c N : Nat} {ms : List ByteArray} (h : Mdl w base X c N ms) (q : Nat) : Mdl (w.drewN q) base X c N ms := ⟨h.1, h.2⟩
theorem Mdl.keep {w w' : World} {base X c N : Nat} {ms : List ByteArray} (h : Mdl w base X c N ms) (hk : w'.heap[X]? = w.heap[X]?) : Mdl w' base X c N ms := ⟨h.1, row_keep h.2 fun g hg => by
  have e : X = g := by simpa [Value.ownBlock] using hg
  subst e
  exact hk⟩
theorem Mdl.cell {w : World} {base X c N : Nat} {ms : List ByteArray} (h : Mdl w base X c N ms) {j : Nat} (hj : j < N) : w.cell? ⟨X, j, none⟩ = some (.string (ms.getD j ByteArray.empty)) := by
  have := World.ownsRow.cellAt h.2 j (by omega)
  have hl : j < ms.length := by rw [h.1]; exact hj
  rw [this]
  simp [vS, List.getD, hl]
/-- No name twice. -/
def Dist (ms : List ByteArray) : Prop := ∀ i j, i < ms.length → j < ms.length → ms.getD i ByteArray.empty = ms.getD j ByteArray.empty → i = j
theorem getD_app {l : List ByteArray} {q : ByteArray} {i : Nat} (h : i < l.length) : (l ++ [q]).getD i ByteArray.empty = l.getD i ByteArray.empty := by simp [List.getD, List.getElem?_append_left h]
theorem getD_last {l : List ByteArray} {q : ByteArray} : (l ++ [q]).getD l.length ByteArray.empty = q := by simp [List.getD]
theorem Dist.app {ms : List ByteArray} {q : ByteArray} (h : Dist ms) (hq : ∀ j, j < ms.length → ms.getD j ByteArray.empty ≠ q) : Dist (ms ++ [q]) := by
  intro i j hi hj e
  have el : (ms ++ [q]).length = ms.length + 1 := by simp
  rw [el] at hi hj
  by_cases h1 : i < ms.length
  · rw [getD_app h1] at e
    by_cases h2 : j < ms.length
    · rw [getD_app h2] at e
      exact h i j h1 h2 e
    · have : j = ms.length := by omega
      subst this
      rw [getD_last] at e
      exact absurd e (hq i h1)
  · have : i = ms.length := by omega
    subst this
    rw [getD_last] at e
    by_cases h2 : j < ms.length
    · rw [getD_app h2] at e
      exact absurd e.symm (hq j h2)
    · omega
theorem lix_at {ms : List ByteArray} {q : ByteArray} {j : Nat} (h : Dist ms) (hj : j < ms.length) (e : ms.getD j ByteArray.empty = q) : lix ms q ms.length = some j := by
  cases hl : lix ms q ms.length with
  | none => exact absurd e (lix_none hl j hj)
  | some k =>
    obtain ⟨h1, h2, _⟩ := lix_some hl
    rw [h k j h1 hj (h2.trans e.symm)]
theorem lix_no {ms : List ByteArray} {q : ByteArray} (h : ∀ j, j < ms.length → ms.getD j ByteArray.empty ≠ q) : lix ms q ms.length = none := by
  cases hl : lix ms q ms.length with
  | none => rfl
  | some k =>
    obtain ⟨h1, h2, _⟩ := lix_some hl
    exact absurd h2 (h k h1)
theorem found {l : List ByteArray} {q : ByteArray} {x : Nat} (h : lix l q l.length = some x) (off : Int) : regR l q off = off + (x : Int) ∧ regL l q = l := by
  unfold regR regL
  rw [h]
  exact ⟨Int.add_comm _ _, rfl⟩
theorem absent {l : List ByteArray} {q : ByteArray} (h : lix l q l.length = none) (off : Int) : regR l q off = off + (l.length : Int) ∧ regL l q = l ++ [q] := by
  unfold regR regL
  rw [h]
  exact ⟨Int.add_comm _ _, rfl⟩

set_option maxHeartbeats 1000000 in
theorem bytes_any (a0 : Int) (a : Option Addr) (n cap : Nat) (zs : List ByteArray) (w : World) (h : IsStrs w a n cap zs) :
    Calls Try.prog 26 #[.int .i64 a0, .slice a n cap] w (Bts (n ≤ 1048576 ∧ ∀ i, i < n → (zs.getD i ByteArray.empty).size ≤ 1048576) w) := by
  have hm := (InRow.len_le h).2
  unfold maxLen at hm
  have H := Lib.hid h
  have hsm : ∀ i, i < n → (zs.getD i ByteArray.empty).size ≤ maxLen := fun i hi => by
    rcases h with ⟨_, h1, _, _⟩ | ⟨x, _, h1, h2, h3, _, h5⟩
    · omega
    · have hl : i < zs.length := by omega
      have : zs.getD i ByteArray.empty = zs[i] := by simp [List.getD, hl]
      rw [this]
      exact h5 _ (List.getElem_mem hl)
  have HSM := Lib.hid hsm
  clear h hsm
  by_cases hb : 1048576 < n
  · go_enter Try.func26, Try.ntmps26
    go_wp2
    go_ret
    exact ⟨false, 0, rfl, rfl, by simp⟩
  go_enter Try.func26, Try.ntmps26
  go_wp2_with fail
  go_loopw [5, 6] (fun t i wr => ∃ (k : Nat) (t' : Int), k ≤ n ∧ i = .int .i64 k ∧ t = .int .i64 t' ∧ 0 ≤ t' ∧ t' ≤ 1048576 ∧ (∀ j, j < k → (zs.getD j ByteArray.empty).size ≤ 1048576) ∧ wr = w) (fun _ i _ => n - (intOf i).toNat)
  case atStart => exact ⟨0, (n : Int), by omega, rfl, rfl, by omega, by omega, fun j hj => absurd hj (by omega), rfl⟩
  case round =>
    obtain ⟨k, t', hk, rfl, rfl, ht1, ht2, hall, rfl⟩ := hrel
    have HALL := Lib.hid hall
    clear hall
    by_cases hkl : k < n
    · obtain ⟨b, off, ea, hc⟩ := InRow.cells H.out (by omega)
      subst ea
      have d1 := hc k hkl
      have hsz := HSM.out k hkl
      unfold maxLen at hsz
      clear hc
      generalize hs : zs.getD k ByteArray.empty = s at *
      have HS := Lib.hid hs
      clear hs
      generalize hz : s.size = sz at *
      have HZ := Lib.hid hz
      have hb0 : (0 : Int) ≤ (k : Int) := by omega
      have hb1 : (k : Int) < (n : Int) := by omega
      have hz2 : s.size = sz := hz
      clear hz
      by_cases h1 : 1048576 < sz
      · go_wp2
        go_ret
        exact ⟨false, 0, rfl, rfl, by simp⟩
      by_cases h2 : 1048576 < t' + (sz : Int)
      · go_wp2
        go_ret
        exact ⟨false, 0, rfl, rfl, by simp⟩
      · go_wp2
        go_roundw
        case rel =>
          refine ⟨k + 1, t' + (sz : Int), by omega, by go_num, rfl, by omega, by omega, fun j hj => ?_, by first | rfl | trivial⟩
          by_cases e : j = k
          · subst e
            rw [HS.out, HZ.out]
            omega
          · exact HALL.out j (by omega)
        case measure => simp [intOf]; omega
    · have hkk : k = n := by omega
      subst hkk
      go_wp2
      go_ret
      exact ⟨true, 0, rfl, rfl, fun _ => ⟨by omega, HALL.out⟩⟩

set_option maxHeartbeats 4000000 in
set_option maxRecDepth 100000 in
theorem walk (a0 : Int) (a1 : Option Addr) (len1 cap1 : Nat) (z1 : List ByteArray) (w : World) (w0 : (Lit.int .i64 a0).wf = true) (w1 : IsStrs w a1 len1 cap1 z1) :
    Calls Try.prog 9 #[.int .i64 a0, .slice a1 len1 cap1] w fun e w' => e = .returned (.bool true) ∧ Below w.heap.size w w' := by
  have HBY := Lib.hid (bytes_any a0 a1 len1 cap1 z1 w w1)
  have W1 := Lib.hid w1
  obtain ⟨l, hl⟩ : ∃ l, l = z1.take len1 := ⟨_, rfl⟩
  have hlen : l.length = len1 := by rw [hl]; have := (InRow.len_le w1).1; simp; omega
  have HL := Lib.hid hl
  have HLEN := Lib.hid hlen
  clear hl hlen w1 w0
  go_enter Try.func9, Try.ntmps9
  go_wp2_with fail
  refine HBY.out.mono ?_; rintro e u0 ⟨b, k0, rfl, rfl, hbt⟩
  cases b with
  | false =>
    go_wp2
    go_ret
    exact ⟨rfl, below_drewN (Below.refl _ _) _⟩
  | true =>
  obtain ⟨hn, hsz⟩ := hbt rfl
  clear hbt HBY
  skip
  have HSZ := Lib.hid hsz
  clear hsz
  go_wp2_with fail
  refine (namesBytes_any a1 len1 cap1 z1 _ (InRow.keep W1.out (below_drewN (Below.refl _ _) _)) hn HSZ.out).mono ?_; rintro e u1 ⟨t, k1, rfl, rfl, t0, t1, ht⟩
  by_cases hc : 1048576 < t 
  · go_wp2
    go_ret
    exact ⟨rfl, below_drewN (Below.refl _ _) _⟩
  have hn2 : len1 ≤ 65536 := ht (by omega)
  clear ht
  by_cases hcap : 4096 < len1
  · go_wp2
    go_ret
    exact ⟨rfl, below_drewN (Below.refl _ _) _⟩
  by_cases hd : a0 < 0
  · go_wp2
    go_ret
    exact ⟨rfl, below_drewN (Below.refl _ _) _⟩
  by_cases he : 1073741824 < a0
  · go_wp2
    go_ret
    exact ⟨rfl, below_drewN (Below.refl _ _) _⟩
  go_wp2_with fail
  refine (cloneStrs_any a1 len1 cap1 z1 _ (InRow.keep W1.out (below_drewN (Below.refl _ _) _)) (by omega)).mono ?_; rintro e u2 ⟨v, rfl, hown, hb2⟩
  rw [← HL.out] at hown
  obtain ⟨p, hv⟩ := own_form hown
  rw [HLEN.out] at hv
  subst hv
  have hval : ∀ k, k < len1 → ∃ g, p = some ⟨g, 0, none⟩ ∧ g < u2.heap.size ∧ u2.cell? ⟨g, k, none⟩ = some (.string (l.getD k ByteArray.empty)) := fun k hk => by
    obtain ⟨g, h1, _, h2, h3⟩ := own_cell hown ByteArray.empty (by rw [HLEN.out]; exact hk)
    exact ⟨g, h1, h2, h3⟩
  have HVAL := Lib.hid hval
  have HB2 := Lib.hid ((below_drewN (Below.refl w.heap.size w) _).trans hb2)
  clear hval hown hb2
  go_wp2_with fail
  refine (pool_new a0 _).mono ?_; rintro e u3 ⟨S, rfl, hp3, hb3⟩
  have HP3 := Lib.hid hp3
  have HB3 := Lib.hid hb3
  clear hp3 hb3
  obtain ⟨i0, hi0, hz0, hz1, hz2⟩ := info_parts infoS
  have hmk := makeM len1 (by omega)
  have hmc := size_madeCells (Value.cells (.string ByteArray.empty)) len1
  generalize madeCells (Value.cells (.string ByteArray.empty)) len1 = mc at *
  have mdl0 := World.ownsRow_made (e := 9) (size := 1) (base := u2.heap.size) u3 mc len1 HB3.out.size (by unfold maxLen; omega) (by simpa using hmc)
  have MDL0 := Lib.hid (Mdl.mk (w := u3.alloc (.cells mc 9)) (base := u2.heap.size) (X := u3.heap.size) (c := len1) (N := 0) (ms := []) rfl mdl0)
  have PX0 := Lib.hid ((PoolX.new HP3.out (Nat.le_refl _)).other (w' := u3.alloc (.cells mc 9)) (fun k hk _ => Below.heap_alloc _ _ _ hk) (.inl rfl))
  have BL0 := Lib.hid (HB3.out.alloc HB3.out.size (.cells mc 9))
  clear mdl0 hmc
  go_wp2_with fail
  clear hmk
  go_loopw [6, 7, 8, 9, 10] (fun mo i _ _ _ wr => ∃ (k N X c : Nat) (ms : List ByteArray), k ≤ len1 ∧ i = .int .i64 k ∧ mo = .slice (some ⟨X, 0, none⟩) N c ∧ N ≤ k ∧ Mdl wr u2.heap.size X c N ms ∧ PoolX wr S u2.heap.size ms a0 X ∧ Dist ms ∧ Below u2.heap.size u2 wr) (fun _ i _ _ _ _ => len1 - (intOf i).toNat)
  case atStart => exact ⟨0, 0, _, _, [], by omega, rfl, rfl, by omega, MDL0.out, PX0.out, fun i j hi => absurd hi (by simp), BL0.out⟩
  case round =>
    obtain ⟨k, N, X, c, ms, hk, rfl, rfl, hNk, hm, hx, hd1, hb⟩ := hrel
    have HM := Lib.hid hm
    have HX := Lib.hid hx
    have HD := Lib.hid hd1
    have HB := Lib.hid hb
    clear hm hx hd1 hb
    obtain ⟨u, rfl⟩ : ∃ u : World, u = wr := ⟨_, rfl⟩
    by_cases hkl : k < len1
    · obtain ⟨g, ep, hg, hc⟩ := HVAL.out k hkl
      subst ep
      have d1 : u.cell? ⟨g, k, none⟩ = some (.string (l.getD k ByteArray.empty)) := (HB.out.cell (p := ⟨g, k, none⟩) hg).trans hc
      generalize l.getD k ByteArray.empty = s at *
      have HC := Lib.hid hc
      clear hc
      have b1 : (0 : Int) ≤ (k : Int) := by omega
      have b2 : (k : Int) < (len1 : Int) := by omega
      go_wp2_with fail
      go_loopw [8, 9] (fun po j wr => ∃ n : Nat, n ≤ N ∧ j = .int .i64 n ∧ po = .int .i64 (-1) ∧ (∀ j', j' < n → ms.getD j' ByteArray.empty ≠ s) ∧ Mdl wr u2.heap.size X c N ms ∧ PoolX wr S u2.heap.size ms a0 X ∧ Below u2.heap.size u2 wr) (fun _ j _ => N - (intOf j).toNat)
      case atStart => exact ⟨0, by omega, rfl, rfl, fun j hj => absurd hj (by omega), HM.out, HX.out, HB.out⟩
      case round =>
        obtain ⟨n, hn, rfl, rfl, hno, hm, hx, hb⟩ := hrel
        have HM := Lib.hid hm
        have HX := Lib.hid hx
        have HB := Lib.hid hb
        clear hm hx hb d1
        have HNO := Lib.hid hno
        clear hno
        obtain ⟨u, rfl⟩ : ∃ u : World, u = wr := ⟨_, rfl⟩
        have d1 : u.cell? ⟨g, k, none⟩ = some (.string s) := (HB.out.cell (p := ⟨g, k, none⟩) hg).trans HC.out
        by_cases hnl : n < N
        · have d2 := HM.out.cell hnl
          have b3 : (0 : Int) ≤ (n : Int) := by omega
          have b4 : (n : Int) < (N : Int) := by omega
          by_cases hxs : ms.getD n ByteArray.empty = s
          · have hl := lix_at HD.out (by rw [HM.out.1]; exact hnl) hxs
            have E1 := Lib.hid (found hl a0).1
            have E2 := Lib.hid (found hl a0).2
            rw [hxs] at d2
            clear hxs hl
            have b5 : ¬ ((n : Int) < 0) := by omega
            go_wp2_with fail
            go_quiet (fail)
            have HMQ := Lib.hid (HM.out.drewN nq)
            have HXQ := Lib.hid (HX.out.drewN nq)
            have HBQ := Lib.hid (below_drewN HB.out nq)
            have d9 : (u.drewN nq).cell? ⟨g, k, none⟩ = some (.string s) := d1
            generalize u.drewN nq = u' at *
            go_wp2_with fail
            refine (regUX_any S _ ms a0 s _ X HXQ.out HMQ.out.lt (by omega) (by omega) (by rw [HM.out.1]; omega)).mono ?_; rintro e u9 ⟨rfl, hp, hb, hxk⟩
            rw [E1.out]
            rw [E2.out] at hp
            have HP9 := Lib.hid hp
            have HM9 := Lib.hid (HMQ.out.keep hxk)
            have HB9 := Lib.hid (HBQ.out.trans hb)
            clear hp hb hxk
            go_wp2
            go_roundw
            case rel => exact ⟨k + 1, N, X, c, ms, by omega, by go_num, rfl, by omega, HM9.out, HP9.out, HD.out, HB9.out⟩
            case measure => simp [intOf]; omega
          · have hno' : ∀ j', j' < n + 1 → ms.getD j' ByteArray.empty ≠ s := fun j' hj => by
              by_cases e : j' = n
              · subst e; exact hxs
              · exact HNO.out j' (by omega)
            have HNO' := Lib.hid hno'
            generalize ms.getD n ByteArray.empty = x at *
            have hx1 := tl_ne hxs
            clear hxs hno'
            go_wp2
            go_quiet (fail)
            go_wp2
            go_roundw
            case rel => exact ⟨n + 1, by omega, by go_num, rfl, HNO'.out, ⟨HM.out.1, HM.out.2⟩, HX.out.drewN _, below_drewN HB.out _⟩
            case measure => simp [intOf]; omega
        · have hnN : n = N := by omega
          subst hnN
          have hl := lix_no (q := s) (ms := ms) (by rw [HM.out.1]; exact HNO.out)
          have e1 := (absent hl a0).1
          rw [HM.out.1] at e1
          have E1 := Lib.hid e1
          have E2 := Lib.hid (absent hl a0).2
          have HDD := Lib.hid (Dist.app (q := s) HD.out (by rw [HM.out.1]; exact HNO.out))
          clear hl e1 hnl
          have hszb := HB.out.size
          go_wp2_with (first
            | (at_builtin
               go_loud (refine wpList_append_lies _ rfl _ _ 22 rfl u2.heap.size 9 i0 _ 1 16 Try.underlying22 hi0 hz0 hz1 hz2 rfl (by decide) (.slice (some ⟨X, 0, none⟩) n c) n _ rfl (HM.out.2.alloc _) ⟨u.heap.size, 0, none⟩ 1 1 [.string s] rfl rfl (cell_one_new _ _ _) (fun x hx => by simp at hx; subst hx; rfl) (by omega) (by unfold maxLen; omega) (by omega) (by simp; omega) _ rfl ?_)
               intro g1 cap1 w1 hown1 hgrow1 hat1 hlt1
               go_loud (
                 have hall1 := fun (k' : Nat) (hk' : k' < u.heap.size) (hx' : k' ≠ X) => (hgrow1.block k' (by simp; omega) (by intro e; exact hx' (by simpa [Value.ownBlock] using e))).trans (Below.heap_alloc _ _ _ hk')
                 have hg1 : g1 = X ∨ u.heap.size ≤ g1 := by
                   rcases hat1 with h | h
                   · exact .inl (by simpa [Value.ownBlock] using h.symm)
                   · exact .inr (by rw [h]; simp)
                 have HO1 := Lib.hid hown1
                 have HG1 := Lib.hid hg1
                 have HALL1 := Lib.hid hall1
                 have HBA := Lib.hid (((Below.refl u2.heap.size u).alloc HB.out.size (.cells #[.string s] 9)).grown hgrow1 (by simp; omega) (fun k' e => (World.ownsRow.lt HM.out.2 k' e).1))
                 have d9 : w1.cell? ⟨g, k, none⟩ = some (.string s) := ((HB.out.trans HBA.out).cell (p := ⟨g, k, none⟩) hg).trans HC.out)
               clear hown1 hgrow1 hat1 hall1 hg1))
          have HMA := Lib.hid (Mdl.mk (w := w1) (base := u2.heap.size) (X := g1) (c := cap1) (N := n + 1) (ms := ms ++ [s]) (by rw [List.length_append, HM.out.1]; rfl) (by simpa [vS] using HO1.out))
          have HXA := Lib.hid (HX.out.other HALL1.out HG1.out)
          have HBB := Lib.hid (HB.out.trans HBA.out)
          go_wp2_with fail
          refine (regUX_any S _ ms a0 s _ g1 HXA.out HMA.out.lt (by omega) (by omega) (by rw [HM.out.1]; omega)).mono ?_; rintro e u9 ⟨rfl, hp, hb, hxk⟩
          rw [E1.out]
          rw [E2.out] at hp
          have HP9 := Lib.hid hp
          have HM9 := Lib.hid (HMA.out.keep hxk)
          have HB9 := Lib.hid (HBB.out.trans hb)
          clear hp hb hxk
          go_wp2
          go_roundw
          case rel => exact ⟨k + 1, n + 1, g1, cap1, ms ++ [s], by omega, by go_num, rfl, by omega, HM9.out, HP9.out, HDD.out, HB9.out⟩
          case measure => simp [intOf]; omega
    · have hkk : k = len1 := by omega
      subst hkk
      go_wp2_with fail
      refine (list_any S _ ms a0 _ HX.out.pool (by omega) (by omega) (by rw [HM.out.1]; omega)).mono ?_; rintro e u6 ⟨G, arr, rfl, hg, hpr, hall, hb6⟩
      rw [HM.out.1] at hpr hall
      rw [HM.out.1]
      have HPR := Lib.hid hpr
      have HALL := Lib.hid hall
      have HB6 := Lib.hid (HB.out.trans (hb6.mono HB.out.size))
      have HM6 := Lib.hid (HM.out.keep (hb6.block X HM.out.lt))
      clear hpr hall hb6
      go_wp2_with fail
      go_loopw [12] (fun i wr => ∃ m : Nat, m ≤ N ∧ i = .int .i64 m ∧ Mdl wr u2.heap.size X c N ms ∧ Pairs wr G N arr ∧ Below u2.heap.size u2 wr) (fun i _ => N - (intOf i).toNat)
      case atStart => exact ⟨0, by omega, rfl, HM6.out, HPR.out, HB6.out⟩
      case round =>
        obtain ⟨m, hm, rfl, hmd, hpr, hb⟩ := hrel
        have HM := Lib.hid hmd
        have HPR := Lib.hid hpr
        have HB := Lib.hid hb
        clear hmd hpr hb
        by_cases hml : m < N
        · have d1 := HM.out.cell hml
          have d2 := HPR.out.p0 (HALL.out m hml)
          have d3 := HPR.out.p1 (HALL.out m hml)
          generalize ms.getD m ByteArray.empty = s at *
          have b1 : (0 : Int) ≤ (m : Int) := by omega
          have b2 : (m : Int) < (N : Int) := by omega
          go_wp2
          go_quiet (fail)
          go_wp2
          go_roundw
          case rel => exact ⟨m + 1, by omega, by go_num, ⟨HM.out.1, HM.out.2⟩, ⟨HPR.out.h, HPR.out.size⟩, below_drewN HB.out _⟩
          case measure => simp [intOf]; omega
        · have hmk : m = N := by omega
          subst hmk
          go_wp2
          go_ret
          exact ⟨rfl, HB2.out.trans (HB.out.mono HB2.out.size)⟩

end Go.Proofs.Ytijkbkmbokhbaaa.fnRegisterUniqueExact
