/- The premise of the laws on forward gotos, and the built context. -/
import Derived.Test.YtiihgamhmflphaaFmtFwdBuild116
import Derived.Test.YtiihgamhmflphaaFmtCloneU116
import Derived.Test.YtiihgamhmflphaaFmtCloneS116
import Derived.Test.YtiihgamhmflphaaFmtCloneI116
namespace Go.Proofs.YtiihgamhmflphaaFmt
open Go.RowKit Go.Maps
set_option linter.unusedVariables false

/-- A slice whose first n elements are f's. -/
def Cq {α : Type} (V : α → Value) (w : World) (p : Option Addr) (n : Nat) (f : Nat → α) : Prop := ∀ k, k < n → ∃ g, p = some ⟨g, 0, none⟩ ∧ g < w.heap.size ∧ w.cell? ⟨g, k, none⟩ = some (V (f k))
theorem Cq.below {α : Type} {V : α → Value} {w w' : World} {p : Option Addr} {n : Nat} {f : Nat → α} (h : Cq V w p n f) (hb : Below w.heap.size w w') : Cq V w' p n f := fun k hk => by
  obtain ⟨g, h1, h2, h3⟩ := h k hk
  exact ⟨g, h1, Nat.lt_of_lt_of_le h2 hb.size, (hb.cell (p := ⟨g, k, none⟩) h2).trans h3⟩
theorem own_form {α : Type} {V : α → Value} {T : TypeId} {base : Nat} {w : World} {v : Value} {l : List α} (h : Own V T base w v l) : ∃ p : Option Addr, v = .slice p l.length l.length := by
  rcases h with ⟨rfl, rfl⟩ | ⟨g, rfl, _⟩
  · exact ⟨none, rfl⟩
  · exact ⟨_, rfl⟩
theorem own_cq {α : Type} {V : α → Value} {T : TypeId} {base : Nat} {w : World} {p : Option Addr} {n L : Nat} {zs : List α} (d : α) (h : Own V T base w (.slice p L L) (zs.take n)) (hL : n ≤ zs.length) : Cq V w p n (fun k => zs.getD k d) := fun k hk => by
  rcases h with ⟨h1, h2⟩ | ⟨g, h1, hb, hg⟩
  · have : (zs.take n).length = 0 := by rw [h2]; rfl
    rw [List.length_take] at this
    omega
  · cases h1
    refine ⟨g, rfl, lt_of_block hg, ?_⟩
    rw [cell_of_row _ _ _ _ _ _ hg]
    have hk2 : k < zs.length := by omega
    simp [List.getD, hk, hk2]

set_option maxHeartbeats 1000000 in
theorem strBytes_any (a : Option Addr) (n cap : Nat) (zs : List ByteArray) (w : World) (h : IsStrs w a n cap zs) (hn : n ≤ 1048576) (hs : ∀ i, i < n → (zs.getD i ByteArray.empty).size ≤ 1048576) :
    Calls Tryf.prog 28 #[.slice a n cap] w fun e w' => ∃ t : Int, e = .returned (.int .i64 t) ∧ w' = w ∧ 16 * (n : Int) ≤ t ∧ t ≤ 1048592 * (n : Int) := by
  have H := Lib.hid h
  have HS := Lib.hid hs
  clear h hs
  go_enter Tryf.func28, Tryf.ntmps28
  go_wp2_with fail
  go_loopw [3, 4] (fun t i wr => ∃ (k : Nat) (t' : Int), k ≤ n ∧ i = .int .i64 k ∧ t = .int .i64 t' ∧ 16 * (k : Int) ≤ t' ∧ t' ≤ 1048592 * (k : Int) ∧ wr = w) (fun _ i _ => n - (intOf i).toNat)
  case atStart => exact ⟨0, 0, by omega, rfl, rfl, by omega, by omega, by first | rfl | trivial⟩
  case round =>
    obtain ⟨k, t', hk, rfl, rfl, ht1, ht2, rfl⟩ := hrel
    by_cases hkl : k < n
    · obtain ⟨b, off, ea, hc⟩ := InRow.cells H.out (by omega)
      subst ea
      have d1 := hc k hkl
      have hsz := HS.out k hkl
      clear hc
      generalize zs.getD k ByteArray.empty = s at *
      generalize hz : s.size = sz at *
      have hb0 : (0 : Int) ≤ (k : Int) := by omega
      have hb1 : (k : Int) < (n : Int) := by omega
      have hz2 : s.size = sz := hz
      clear hz
      go_wp2
      go_roundw
      case rel => exact ⟨k + 1, t' + ((sz : Int) + 16), by omega, by go_num, rfl, by omega, by omega, by first | rfl | trivial⟩
      case measure => simp [intOf]; omega
    · have hkk : k = n := by omega
      subst hkk
      go_wp2
      go_ret
      exact ⟨t', rfl, by first | rfl | trivial, by omega, by omega⟩

set_option maxHeartbeats 1000000 in
theorem fwdBytes_any (a0 : Option Addr) (n0 c0 : Nat) (a2 : Option Addr) (n2 c2 : Nat) (z2 : List ByteArray) (a3 : Option Addr) (n3 c3 : Nat) (a4 : Option Addr) (n4 c4 : Nat) (s : ByteArray) (w : World) (h : IsStrs w a2 n2 c2 z2) (h0 : n0 ≤ 1048576) (h2 : n2 ≤ 1048576) (h3 : n3 ≤ 1048576) (h4 : n4 ≤ 1048576) (hz : s.size ≤ 1048576) (hs : ∀ i, i < n2 → (z2.getD i ByteArray.empty).size ≤ 1048576) :
    Calls Tryf.prog 8 #[.slice a0 n0 c0, .slice a2 n2 c2, .slice a3 n3 c3, .slice a4 n4 c4, .string s] w fun e w' => ∃ t : Int, e = .returned (.int .i64 t) ∧ w' = w ∧ 4 * (n0 : Int) + 16 * (n2 : Int) + 8 * (n3 : Int) + 8 * (n4 : Int) ≤ t := by
  have H := Lib.hid (strBytes_any a2 n2 c2 z2 w h h2 hs)
  clear h hs
  generalize hsz : s.size = sz at *
  have hsz2 : s.size = sz := hsz
  clear hsz
  go_enter Tryf.func8, Tryf.ntmps8
  go_wp2_with fail
  refine H.out.mono ?_; rintro e w1 ⟨t, rfl, rfl, t1, t2⟩
  go_wp2
  go_ret
  exact ⟨_, rfl, by first | rfl | trivial, by omega⟩

section
variable (base n fs : Nat) (cs : List Int) (ns : Nat → ByteArray) (ps nu : Nat → Int) (p : Option Addr)

set_option maxHeartbeats 2000000 in
set_option maxRecDepth 100000 in
theorem build_any (N : Nat) (p2 p3 p4 : Option Addr) (w : World) (hN : cs.length = N) (hb : base ≤ w.heap.size) (hr : Own (Value.int .u32) 39 base w (.slice p N N) cs) (hn : n ≤ 1048570) (hNN : N ≤ 1048576)
    (h2 : Cq Value.string w p2 n ns) (h3 : Cq (Value.int .i64) w p3 n ps) (h4 : Cq (Value.int .i64) w p4 n nu) :
    Calls Tryf.prog 13 #[.slice p N N, .int .i64 (fs : Int), .slice p2 n n, .slice p3 n n, .slice p4 n n] w fun e w' => ∃ F C Bk U h, e = .returned (.pointer (some ⟨F, 0, none⟩)) ∧
      Sx w' F C Bk U p h base n (fs : Int) cs ns ps nu ∧ (∀ i, (h i).isSome = decide (i < n)) ∧ Below w.heap.size w w' := by
  have HR := Lib.hid hr
  have H2 := Lib.hid h2
  have H3 := Lib.hid h3
  have H4 := Lib.hid h4
  clear hr h2 h3 h4
  go_enter Tryf.func13, Tryf.ntmps13
  go_wp2_with fail
  refine (block_any (fs : Int) _).mono ?_; rintro e w1 ⟨Bk, rfl, hk, hb1⟩
  have HK := Lib.hid hk
  have HB1 := Lib.hid hb1
  have hs1 := hb1.size
  have HR1 := Lib.hid (own_keep HR.out fun x a hx => hb1.block x (lt_of_block hx))
  clear hk hb1
  go_wp2_with fail
  refine (newFc_any base cs ns ps nu p Bk N (fs : Int) _ hN (by omega) HK.out HR1.out hNN).mono ?_; rintro e w2 ⟨F, C, U, rfl, hs, hF, hU, hb2⟩
  have HS := Lib.hid hs
  have HB2 := Lib.hid (HB1.out.trans (hb2.mono hs1))
  clear hs hb2
  go_wp2_with fail
  go_loopw [13] (fun i wr => ∃ (k : Nat) (h : Nat → Option Nat), k ≤ n ∧ i = .int .i64 k ∧ Sx wr F C Bk U p h base k (fs : Int) cs ns ps nu ∧ (∀ i, (h i).isSome = decide (i < k)) ∧ Below w.heap.size w wr) (fun i _ => n - (intOf i).toNat)
  case atStart => exact ⟨0, _, by omega, rfl, HS.out, fun i => by simp, HB2.out⟩
  case round =>
    obtain ⟨k, h, hk, rfl, hs, hh, hb⟩ := hrel
    have HS := Lib.hid hs
    have HH := Lib.hid hh
    have HB := Lib.hid hb
    clear hs hh hb
    by_cases hkl : k < n
    · obtain ⟨g2, e2, hg2, hc2⟩ := H2.out k hkl
      obtain ⟨g3, e3, hg3, hc3⟩ := H3.out k hkl
      obtain ⟨g4, e4, hg4, hc4⟩ := H4.out k hkl
      subst e2 e3 e4
      have d2 : wr.cell? ⟨g2, k, none⟩ = some (.string (ns k)) := (HB.out.cell (p := ⟨g2, k, none⟩) hg2).trans hc2
      have d3 : wr.cell? ⟨g3, k, none⟩ = some (.int .i64 (ps k)) := (HB.out.cell (p := ⟨g3, k, none⟩) hg3).trans hc3
      have d4 : wr.cell? ⟨g4, k, none⟩ = some (.int .i64 (nu k)) := (HB.out.cell (p := ⟨g4, k, none⟩) hg4).trans hc4
      clear hc2 hc3 hc4
      have b1 : (0 : Int) ≤ (k : Int) := by omega
      have b2 : (k : Int) < (n : Int) := by omega
      go_wp2_with fail
      go_still_tail 14, (by kernel_rfl)
      change wpList _ _ _ _ _ (wr.drewN 1)
      have HS1 := Lib.hid (HS.out.drewN 1)
      have HB1 := Lib.hid (below_drewN HB.out 1)
      generalize wr.drewN 1 = wd at *
      go_wp2_with fail
      refine (addUn_any base cs ns ps nu p F C Bk U k w.heap.size h (fs : Int) (k : Int) _ HS1.out (by omega) ⟨by omega, by omega, HB1.out.size⟩).mono ?_; rintro e w3 ⟨v, g, rfl, hs, hb⟩
      have HS3 := Lib.hid hs
      have HB3 := Lib.hid (HB1.out.trans hb)
      clear hs hb
      go_wp2
      go_roundw
      case rel =>
        refine ⟨k + 1, _, by omega, by go_num, HS3.out, fun i => ?_, HB3.out⟩
        unfold put1
        by_cases e : i = k
        · subst e; simp
        · rw [if_neg e, HH.out i]
          by_cases hi : i < k
          · simp [hi, Nat.lt_succ_of_lt hi]
          · have : ¬ i < k + 1 := by omega
            simp [hi, this]
      case measure => simp [intOf]; omega
    · have hkk : k = n := by omega
      subst hkk
      go_wp2
      go_ret
      exact ⟨F, C, Bk, U, h, rfl, HS.out, HH.out, HB.out⟩
end

/-- What the premise says. -/
def Ok (n0 : Nat) (first : Int) (n2 n3 n4 : Nat) (ns : Nat → ByteArray) (ps nu : Nat → Int) (tn : ByteArray) (tN : Int) : Prop :=
  n3 = n2 ∧ n4 = n2 ∧ ∃ fs : Nat, first = (fs : Int) ∧ fs ≤ n2 ∧ ∀ i, fs ≤ i → i < n2 → ns i = tn → tN ≤ nu i ∧ 0 ≤ ps i ∧ ps i < (n0 : Int)
def BtsQ (P : Prop) (w : World) (e : Ending) (w' : World) : Prop := ∃ b q, e = .returned (.bool b) ∧ w' = w.drewN q ∧ (b = true → P)

set_option maxHeartbeats 2000000 in
set_option maxRecDepth 100000 in
theorem premise_any (a0 : Option Addr) (n0 c0 : Nat) (first : Int) (a2 : Option Addr) (n2 c2 : Nat) (z2 : List ByteArray) (a3 : Option Addr) (n3 c3 : Nat) (z3 : List Int) (a4 : Option Addr) (n4 c4 : Nat) (z4 : List Int) (tn : ByteArray) (tN : Int) (w : World) (h : IsStrs w a2 n2 c2 z2) (hr3 : IsRow .i64 w a3 n3 c3 z3) (hr4 : IsRow .i64 w a4 n4 c4 z4) (h0 : n0 ≤ 1048576) (h2 : n2 ≤ 1048576) (h3 : n3 ≤ 1048576) (h4 : n4 ≤ 1048576) (hz : tn.size ≤ 1048576) (hs : ∀ i, i < n2 → (z2.getD i ByteArray.empty).size ≤ 1048576) :
    Calls Tryf.prog 9 #[.slice a0 n0 c0, .int .i64 first, .slice a2 n2 c2, .slice a3 n3 c3, .slice a4 n4 c4, .string tn, .int .i64 tN] w
      (BtsQ (Ok n0 first n2 n3 n4 (fun i => z2.getD i ByteArray.empty) (fun i => z3.getD i 0) (fun i => z4.getD i 0) tn tN) w) := by
  have HY := Lib.hid (fwdBytes_any a0 n0 c0 a2 n2 c2 z2 a3 n3 c3 a4 n4 c4 tn w h h0 h2 h3 h4 hz hs)
  have R2 := Lib.hid h
  have R3 := Lib.hid hr3
  have R4 := Lib.hid hr4
  clear h hr3 hr4 hs
  go_enter Tryf.func9, Tryf.ntmps9
  go_wp2_with fail
  refine HY.out.mono ?_; rintro e w1 ⟨t, rfl, rfl, ht⟩
  by_cases hc1 : 1048576 < t
  · go_wp2
    go_ret
    exact ⟨false, 0, rfl, rfl, by simp⟩
  by_cases hc2 : n3 = n2
  case neg =>
    have hq : ¬ ((n3 : Int) = (n2 : Int)) := by omega
    go_wp2
    go_ret
    exact ⟨false, 0, rfl, rfl, by simp⟩
  by_cases hc3 : n4 = n2
  case neg =>
    have hq : ¬ ((n4 : Int) = (n2 : Int)) := by omega
    subst hc2
    go_wp2
    go_ret
    exact ⟨false, 0, rfl, rfl, by simp⟩
  subst hc2
  subst hc3
  by_cases hc4 : first < 0
  · go_wp2
    go_ret
    exact ⟨false, 0, rfl, rfl, by simp⟩
  by_cases hc5 : (n4 : Int) < first
  · go_wp2
    go_ret
    exact ⟨false, 0, rfl, rfl, by simp⟩
  obtain ⟨fs, rfl⟩ := Int.eq_ofNat_of_zero_le (show 0 ≤ first by omega)
  go_wp2_with fail
  go_loopw [16] (fun i wr => ∃ k q : Nat, fs ≤ k ∧ k ≤ n4 ∧ i = .int .i64 k ∧ wr = w1.drewN q ∧ (∀ i, fs ≤ i → i < k → z2.getD i ByteArray.empty = tn → tN ≤ z4.getD i 0 ∧ 0 ≤ z3.getD i 0 ∧ z3.getD i 0 < (n0 : Int))) (fun i _ => n4 - (intOf i).toNat)
  case atStart => exact ⟨fs, 0, by omega, by omega, rfl, rfl, fun i h1 h2 => absurd h2 (by omega)⟩
  case round =>
    obtain ⟨k, q, hfk, hk, rfl, hwq, hall⟩ := hrel
    have HWQ := Lib.hid hwq
    have HALL := Lib.hid hall
    clear hall
    by_cases hkl : k < n4
    · obtain ⟨g2, o2, e2, k2⟩ := InRow.cells R2.out (by omega)
      obtain ⟨g3, o3, e3, k3⟩ := InRow.cells R3.out (by omega)
      obtain ⟨g4, o4, e4, k4⟩ := InRow.cells R4.out (by omega)
      have d2 : wr.cell? ⟨g2, o2 + k, none⟩ = some (.string (z2.getD k ByteArray.empty)) := by rw [hwq]; exact k2 k hkl
      have d3 : wr.cell? ⟨g3, o3 + k, none⟩ = some (.int .i64 (z3.getD k 0)) := by rw [hwq]; exact k3 k hkl
      have d4 : wr.cell? ⟨g4, o4 + k, none⟩ = some (.int .i64 (z4.getD k 0)) := by rw [hwq]; exact k4 k hkl
      subst e2 e3 e4
      clear k2 k3 k4 hwq
      have b1 : (0 : Int) ≤ (k : Int) := by omega
      have b2 : (k : Int) < (n4 : Int) := by omega
      by_cases hx : z2.getD k ByteArray.empty = tn
      · rw [hx] at d2
        by_cases hp1 : z3.getD k 0 < 0
        · clear hx
          generalize z3.getD k 0 = x at *
          go_wp2
          go_ret
          exact ⟨false, q, rfl, HWQ.out, by simp⟩
        by_cases hp2 : (n0 : Int) ≤ z3.getD k 0
        · clear hx
          generalize z3.getD k 0 = x at *
          go_wp2
          go_ret
          exact ⟨false, q, rfl, HWQ.out, by simp⟩
        by_cases hp3 : z4.getD k 0 < tN
        · clear hx
          generalize z3.getD k 0 = x at *
          generalize z4.getD k 0 = y at *
          go_wp2
          go_ret
          exact ⟨false, q, rfl, HWQ.out, by simp⟩
        · have hall' : ∀ i, fs ≤ i → i < k + 1 → z2.getD i ByteArray.empty = tn → tN ≤ z4.getD i 0 ∧ 0 ≤ z3.getD i 0 ∧ z3.getD i 0 < (n0 : Int) := fun i h1 h2 h3 => by
            by_cases e : i = k
            · subst e; exact ⟨by omega, by omega, by omega⟩
            · exact HALL.out i h1 (by omega) h3
          have HALL' := Lib.hid hall'
          clear hx hall'
          generalize z3.getD k 0 = x at *
          generalize z4.getD k 0 = y at *
          go_wp2
          go_roundw
          case rel => exact ⟨k + 1, q, by omega, by omega, by go_num, HWQ.out, HALL'.out⟩
          case measure => simp [intOf]; omega
      · have hall' : ∀ i, fs ≤ i → i < k + 1 → z2.getD i ByteArray.empty = tn → tN ≤ z4.getD i 0 ∧ 0 ≤ z3.getD i 0 ∧ z3.getD i 0 < (n0 : Int) := fun i h1 h2 h3 => by
          by_cases e : i = k
          · subst e; exact absurd h3 hx
          · exact HALL.out i h1 (by omega) h3
        have HALL' := Lib.hid hall'
        have hx1 := tl_ne hx
        clear hall' hx
        generalize z2.getD k ByteArray.empty = nm at *
        go_wp2
        go_roundw
        case rel => exact ⟨k + 1, q, by omega, by omega, by go_num, HWQ.out, HALL'.out⟩
        case measure => simp [intOf]; omega
    · have hkk : k = n4 := by omega
      subst hkk
      clear hwq
      go_wp2
      go_ret
      exact ⟨true, q, rfl, HWQ.out, fun _ => ⟨rfl, rfl, fs, rfl, hfk, HALL.out⟩⟩

end Go.Proofs.YtiihgamhmflphaaFmt
