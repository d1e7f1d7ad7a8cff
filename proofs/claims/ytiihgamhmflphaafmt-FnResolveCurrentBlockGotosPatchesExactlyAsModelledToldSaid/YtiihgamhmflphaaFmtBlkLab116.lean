/- Labels: added, looked up; locals counted. -/
import Derived.Test.YtiihgamhmflphaaFmtBlkPool116
namespace Go.Proofs.YtiihgamhmflphaaFmt
open Go.RowKit Go.Maps
set_option linter.unusedVariables false

/-- The first of the first k labels that is called s. -/
def flx (lns : Nat → ByteArray) (s : ByteArray) : Nat → Option Nat
  | 0 => none
  | k + 1 => match flx lns s k with
    | some j => some j
    | none => if lns k = s then some k else none
theorem flx_lt {lns : Nat → ByteArray} {s : ByteArray} : ∀ {k j : Nat}, flx lns s k = some j → j < k ∧ lns j = s
  | 0, j, h => by simp [flx] at h
  | k + 1, j, h => by
    unfold flx at h
    cases hq : flx lns s k with
    | some j' =>
      rw [hq] at h
      injection h with h
      subst h
      obtain ⟨h1, h2⟩ := flx_lt hq
      exact ⟨by omega, h2⟩
    | none =>
      rw [hq] at h
      by_cases e : lns k = s
      · simp [e] at h; subst h; exact ⟨by omega, e⟩
      · simp [e] at h

/-- The labels' map leads each name to its first label. -/
def Lb (w : World) (Lm : Nat) (lns : Nat → ByteArray) (lN : Nat → Int) (J : Nat) : Prop :=
  ∃ m g, UpS w Lm m g ∧ m ≤ J ∧ ∀ s, (flx lns s J = none → g s = none) ∧ ∀ j, flx lns s J = some j → ∃ y, g s = some y ∧ Td w y (j : Int) s (lN j)
theorem Lb.keep {w w' : World} {Lm J : Nat} {lns : Nat → ByteArray} {lN : Nat → Int} (h : Lb w Lm lns lN J) (hu : w'.heap[Lm]? = w.heap[Lm]?) (hk : ∀ (k : Nat) (a : Array Value) (z : Nat × Nat), w.heap[k]? = some (Obj.cells a 51 z) → w'.heap[k]? = w.heap[k]?) : Lb w' Lm lns lN J := by
  obtain ⟨m, g, h1, h2, h3⟩ := h
  refine ⟨m, g, h1.keep hu, h2, fun s => ⟨(h3 s).1, fun j hj => ?_⟩⟩
  obtain ⟨y, e, pc, line, ht⟩ := (h3 s).2 j hj
  exact ⟨y, e, pc, line, (hk _ _ _ ht).trans ht⟩
theorem Lb.lt {w : World} {Lm J : Nat} {lns : Nat → ByteArray} {lN : Nat → Int} (h : Lb w Lm lns lN J) : Lm < w.heap.size := by
  obtain ⟨m, g, h1, h2, h3⟩ := h
  exact h1.lt
theorem Lb.zero {w : World} {Lm : Nat} {lns : Nat → ByteArray} {lN : Nat → Int} (h : UpS w Lm 0 (fun _ => none)) : Lb w Lm lns lN 0 :=
  ⟨0, _, h, Nat.le_refl _, fun s => ⟨fun _ => rfl, fun j hj => by simp [flx] at hj⟩⟩

set_option maxHeartbeats 1000000 in
set_option maxRecDepth 100000 in
theorem addLab0 (Bk V : Nat) (par : Option Addr) (ref : Bool) (Lm : Nat) (first : Int) (m y B : Nat) (g : ByteArray → Option Nat) (s : ByteArray) (id num : Int) (w : World) (h : Cb w Bk V par ref Lm first) (hu : UpS w Lm m g) (td : Td w y id s num) (hs : s.size ≤ maxLen) (hm : m ≤ 1048576) (hB : B ≤ Lm) :
    Calls Tryf.prog 47 #[.pointer (some ⟨Bk, 0, none⟩), .pointer (some ⟨y, 0, none⟩)] w fun e w' => (∃ v, e = .returned v) ∧
      (∃ m' g', UpS w' Lm m' g' ∧ m' ≤ m + 1 ∧ (∀ t, t ≠ s → g' t = g t) ∧ (∀ y0, g s = some y0 → g' s = some y0) ∧ (g s = none → g' s = some y)) ∧ (∀ k, k < w.heap.size → k ≠ Lm → w'.heap[k]? = w.heap[k]?) ∧ Below B w w' := by
  have c6 := h.c6
  have t1 := td.c1
  cases hq : g s with
  | some y0 =>
    have hl : ∀ q : Nat, (Instr.lookup 79 (.map (some Lm)) (.string s) true).run Tryf.prog (w.drewN q) = .ok (.tuple #[.pointer (some ⟨y0, 0, none⟩), .bool true]) (w.drewN q) := fun q => (hu.keep (w' := w.drewN q) rfl).run_some hq hs
    have HU := Lib.hid hu
    clear h td hu
    go_enter Tryf.func47, Tryf.ntmps47
    go_wp2_with fail
    go_quiet (fail)
    go_wp2
    go_ret
    exact ⟨⟨_, rfl⟩, ⟨m, g, HU.out.keep rfl, by omega, fun t _ => rfl, fun y1 e => by rw [hq]; exact e, fun e => by cases e⟩, fun k _ _ => rfl, below_drewN (Below.refl _ _) _⟩
  | none =>
    have hl : ∃ v, ∀ q : Nat, (Instr.lookup 79 (.map (some Lm)) (.string s) true).run Tryf.prog (w.drewN q) = .ok (.tuple #[v, .bool false]) (w.drewN q) := by
      obtain ⟨D, hown, hD⟩ := hu
      obtain ⟨h1, h2⟩ := hD s
      have hlk := fun q : Nat => (show (w.drewN q).ownsMap Tryf.prog 9 ptrElem Lm m D from hown).look_ok lawS Tryf.underlying79 (zeroP (w.drewN q)) (zd := .lit (.int .i64 (-1))) (zp := []) rfl (Go.WideMaps.keyOf_string_mk Tryf.underlying9 hs)
      rw [h1, hq] at hlk
      refine ⟨.pointer none, fun q => ?_⟩
      obtain ⟨v, ps, hrun, hv⟩ := hlk q
      have hat : D.atKey (.string s.data.toList) (.lit (.int .i64 (-1))) = .lit (.int .i64 (-1)) := atKey_of_not_has (by rw [h1, hq]; rfl) _
      rw [hat] at hv
      rcases ptrElem_inv hv with ⟨rfl, _⟩ | ⟨y', _, h5⟩
      · exact hrun
      · have := lit_inj h5
        omega
    obtain ⟨v, hl⟩ := hl
    have HU := Lib.hid hu
    obtain ⟨D, hown, hD⟩ := hu
    have HO := Lib.hid hown
    have HD := Lib.hid hD
    have hUl := HU.out.lt
    clear h td hown hD
    go_enter Tryf.func47, Tryf.ntmps47
    go_wp2_with fail
    go_quiet (fail)
    have e6 : (w.drewN nq).cell? ⟨Bk, 6, none⟩ = some (.map (some Lm)) := c6
    have e1 : (w.drewN nq).cell? ⟨y, 1, none⟩ = some (.string s) := t1
    have HO1 := Lib.hid (show (w.drewN nq).ownsMap Tryf.prog 9 ptrElem Lm m D from HO.out)
    have HK := Lib.hid (show ∀ k : Nat, (w.drewN nq).heap[k]? = w.heap[k]? from fun k => rfl)
    have hsz : (w.drewN nq).heap.size = w.heap.size := rfl
    have HB := Lib.hid (below_drewN (Below.refl B w) nq)
    clear hl
    generalize w.drewN nq = w1 at *
    go_wp2_with fail
    go_still_tail 9, (by kernel_rfl)
    change wpList _ _ _ _ _ (w1.drewN 1)
    have HO2 := Lib.hid (show (w1.drewN 1).ownsMap Tryf.prog 9 ptrElem Lm m D from HO1.out)
    have HK2 := Lib.hid (show ∀ k : Nat, (w1.drewN 1).heap[k]? = w.heap[k]? from fun k => HK.out k)
    have hsz2 : (w1.drewN 1).heap.size = w.heap.size := hsz
    have HB2 := Lib.hid (below_drewN HB.out 1)
    generalize w1.drewN 1 = w2 at *
    go_wp2_with (at_mapUpdate; refine wpList_mapUpdate_own _ rfl _ _ _ 79 rfl 9 33 lawS Tryf.underlying79 _ Lm m D rfl HO2.out (by unfold maxLen; omega) _ _ _ rfl rfl (Go.WideMaps.keyOf_string_mk Tryf.underlying9 hs) (.lit (.int .i64 (y : Int))) [] rfl ?_; intro w3 hown3 hgrow3)
    go_ret
    refine ⟨⟨_, rfl⟩, ⟨m + 1, fun t => if t = s then some y else g t, ⟨_, hown3, fun t => ?_⟩, Nat.le_refl _, fun t ht => if_neg ht, fun y1 e => (by cases e), fun _ => if_pos rfl⟩, fun k h1 h2 => (hgrow3.block k (by omega) (fun e => h2 (Option.some.inj e))).trans (HK2.out k), HB2.out.grown hgrow3 (by omega) (fun j e => by cases e; exact hB)⟩
    by_cases e : t = s
    · subst e
      refine ⟨by rw [has_put_same HO2.out.isMap (isKeyS _)]; simp, fun y1 h1 => ?_⟩
      have : y1 = y := by simpa using h1.symm
      subst this
      exact atKey_put_same HO2.out.isMap (isKeyS _) _ _
    · refine ⟨by rw [has_put_other (skey_ne e), (HD.out t).1]; simp [e], fun y1 h1 => ?_⟩
      rw [atKey_put_other (skey_ne e)]
      exact (HD.out t).2 y1 (by simpa [e] using h1)

theorem addLab_any (Bk V : Nat) (par : Option Addr) (ref : Bool) (Lm : Nat) (first : Int) (J B : Nat) (lns : Nat → ByteArray) (lN : Nat → Int) (w : World) (h : Cb w Bk V par ref Lm first) (hl : Lb w Lm lns lN J) (hs : (lns J).size ≤ maxLen) (hJ : J ≤ 1048576) (hB : B ≤ Lm) (hB2 : B ≤ w.heap.size) :
    Calls Tryf.prog 39 #[.pointer (some ⟨Bk, 0, none⟩), .int .i64 (J : Int), .string (lns J), .int .i64 0, .int .i64 0, .int .i64 (lN J)] w fun e w' => (∃ v, e = .returned v) ∧
      Lb w' Lm lns lN (J + 1) ∧ (∀ k, k < w.heap.size → k ≠ Lm → w'.heap[k]? = w.heap[k]?) ∧ Below B w w' := by
  obtain ⟨m, g, hu, hmJ, hg⟩ := hl
  have H := Lib.hid h
  have HU := Lib.hid hu
  have HG := Lib.hid hg
  obtain ⟨s, hsn⟩ : ∃ s, s = lns J := ⟨_, rfl⟩
  rw [← hsn] at hs
  rw [← hsn]
  have HSN := Lib.hid hsn
  have HA := Lib.hid (fun (w1 : World) (y : Nat) => addLab0 Bk V par ref Lm first m y B g s (J : Int) (lN J) w1)
  obtain ⟨x, hx⟩ : ∃ x, x = lN J := ⟨_, rfl⟩
  have HXN := Lib.hid hx
  rw [← hx] at HA
  rw [← hx]
  have hlt := h.lt
  have hlu := hu.lt
  obtain ⟨es, c, hob⟩ := hu.obj
  clear h hu hg hsn hx
  go_enter Tryf.func39, Tryf.ntmps39
  go_wp2_with fail
  refine (desc0 (J : Int) 0 0 x s _).mono ?_; rintro e w1 ⟨y, rfl, hd, hy, hb1⟩
  have H1 := Lib.hid (H.out.keep (hb1.block Bk hlt))
  have HU1 := Lib.hid (HU.out.keep (hb1.block Lm hlu))
  have HTD := Lib.hid (⟨_, _, hd⟩ : Td w1 y (J : Int) s x)
  have HB1 := Lib.hid hb1
  have hs1 := hb1.size
  clear hd hb1
  go_wp2_with fail
  refine (HA.out w1 y H1.out HU1.out ⟨_, _, HTD.out.choose_spec.choose_spec⟩ hs (by omega) hB).mono ?_; rintro e w2 ⟨⟨v, rfl⟩, ⟨m', g', hu', hm', g1, g2, g3⟩, hk, hb2⟩
  have HU2 := Lib.hid hu'
  have HK := Lib.hid hk
  have G1 := Lib.hid g1
  have G2 := Lib.hid g2
  have G3 := Lib.hid g3
  have HB2 := Lib.hid ((HB1.out.mono hB2).trans hb2)
  clear hu' hk g1 g2 g3 hb2
  go_wp2
  go_ret
  have old : ∀ (k : Nat) (a : Array Value) (z : Nat × Nat), w.heap[k]? = some (Obj.cells a 51 z) → w2.heap[k]? = w.heap[k]? := fun k a z hk =>
    (HK.out k (by have := lt_of_block hk; omega) (map_ne hk hob)).trans (HB1.out.block k (lt_of_block hk))
  refine ⟨⟨_, rfl⟩, ⟨m', g', HU2.out, by omega, fun t => ?_⟩, fun k h1 h2 => (HK.out k (by omega) h2).trans (HB1.out.block k h1), HB2.out⟩
  have htd2 : Td w2 y (J : Int) s x := by
    obtain ⟨pc, line, ht⟩ := HTD.out
    obtain ⟨es1, c1, hob1⟩ := HU1.out.obj
    exact ⟨pc, line, (HK.out y (lt_of_block ht) (map_ne ht hob1)).trans ht⟩
  unfold flx
  cases hf : flx lns t J with
  | some j =>
    refine ⟨fun e => (by cases e), fun j' e => ?_⟩
    have ej : j = j' := by simpa using e
    subst ej
    obtain ⟨y1, e1, pc, line, ht⟩ := (HG.out t).2 j hf
    refine ⟨y1, ?_, pc, line, (old _ _ _ ht).trans ht⟩
    by_cases ets : t = s
    · subst ets; exact G2.out y1 e1
    · rw [G1.out t ets]; exact e1
  | none =>
    have hn := (HG.out t).1 hf
    by_cases ets : lns J = t
    · have e2 : t = s := by rw [← ets, HSN.out]
      subst e2
      refine ⟨fun e => by simp [ets] at e, fun j' e => ?_⟩
      have ej : J = j' := by simpa [ets] using e
      subst ej
      exact ⟨y, G3.out hn, by rw [← HXN.out]; exact htd2⟩
    · refine ⟨fun _ => ?_, fun j' e => by simp [ets] at e⟩
      rw [G1.out t (fun e => ets (by rw [e, HSN.out]))]
      exact hn

theorem getLab_any (Bk V : Nat) (par : Option Addr) (ref : Bool) (Lm : Nat) (first : Int) (m : Nat) (g : ByteArray → Option Nat) (s : ByteArray) (w : World) (h : Cb w Bk V par ref Lm first) (hu : UpS w Lm m g) (hs : s.size ≤ maxLen) :
    Calls Tryf.prog 56 #[.pointer (some ⟨Bk, 0, none⟩), .string s] w fun e w' => e = .returned (.pointer ((g s).map (fun y => ⟨y, 0, none⟩))) ∧ w' = w := by
  have c6 := h.c6
  cases hq : g s with
  | some y0 =>
    have hl := hu.run_some hq hs
    clear h hu
    go_enter Tryf.func56, Tryf.ntmps56
    go_wp2
    go_ret
    exact ⟨rfl, by first | rfl | trivial⟩
  | none =>
    obtain ⟨v, hl⟩ := hu.run_none hq hs
    clear h hu
    go_enter Tryf.func56, Tryf.ntmps56
    go_wp2
    go_ret
    exact ⟨rfl, by first | rfl | trivial⟩

theorem names_any (V base n : Nat) (w : World) (h : PlN w V base n) :
    Calls Tryf.prog 52 #[.pointer (some ⟨V, 0, none⟩)] w fun e w' => ∃ a c, e = .returned (.slice a n c) ∧ w' = w := by
  obtain ⟨a, c, hc⟩ := h.len
  clear h
  go_enter Tryf.func52, Tryf.ntmps52
  go_wp2
  go_ret
  exact ⟨a, c, rfl, by first | rfl | trivial⟩

set_option maxHeartbeats 1000000 in
set_option maxRecDepth 100000 in
theorem count_any (P V1 L1 Q V2 L2 b1 b2 n1 n2 : Nat) (r1 r2 : Bool) (f1 f2 : Int) (w : World) (hp : Cb w P V1 (some ⟨Q, 0, none⟩) r1 L1 f1) (hq : Cb w Q V2 none r2 L2 f2) (h1 : PlN w V1 b1 n1) (h2 : PlN w V2 b2 n2) (hn1 : n1 ≤ 1048576) (hn2 : n2 ≤ 1048576) :
    Calls Tryf.prog 48 #[.pointer (some ⟨P, 0, none⟩)] w fun e w' => e = .returned (.int .i64 ((n1 : Int) + (n2 : Int))) ∧ w' = w := by
  have p0 := hp.c0
  have p2 := hp.c2
  have q0 := hq.c0
  have q2 := hq.c2
  have N1 := Lib.hid (names_any V1 b1 n1 w h1)
  have N2 := Lib.hid (names_any V2 b2 n2 w h2)
  clear hp hq h1 h2
  go_enter Tryf.func48, Tryf.ntmps48
  go_wp2_with fail
  refine wp_loop_rounds 3 ?_
  rw [rounds_succ]
  go_wp2_with fail
  refine N1.out.mono ?_; rintro e w1 ⟨a1, c1, rfl, rfl⟩
  go_wp2_with fail
  rw [rounds_succ]
  go_wp2_with fail
  refine N2.out.mono ?_; rintro e w2 ⟨a2, c2, rfl, rfl⟩
  go_wp2_with fail
  rw [rounds_succ]
  go_wp2
  go_ret
  exact ⟨by first | rfl | simp, by first | rfl | trivial⟩

end Go.Proofs.YtiihgamhmflphaaFmt
