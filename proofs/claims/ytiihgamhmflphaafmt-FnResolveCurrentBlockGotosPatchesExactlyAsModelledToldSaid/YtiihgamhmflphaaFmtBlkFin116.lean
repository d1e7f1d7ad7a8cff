/- The two passes over a built context. -/
import Derived.Test.YtiihgamhmflphaaFmtBlkBuild116
import Derived.Test.YtiihgamhmflphaaFmtBlkPre116
namespace Go.Proofs.YtiihgamhmflphaaFmt
open Go.RowKit Go.Maps
set_option linter.unusedVariables false

section
variable {h : Nat → Option Nat} {ns lns : Nat → ByteArray} {J : Nat} {ps nu lN : Nat → Int} {act : Int} {refB refP : Bool} {fs n N : Nat}
theorem preB_of (hp : ∀ i, fs ≤ i → i < n → PBk act (nu i) (nAct act (nu i)) (ps i) N refB refP (flx lns (ns i) J) lN) : PreB h ns lns J ps nu lN act refB refP fs n N := fun i h1 h2 _ => by
  obtain ⟨a, b⟩ := hp i h1 h2
  refine ⟨fun c1 c2 => ⟨(a c1 c2).2.1, (a c1 c2).2.2⟩, fun j hj => ?_⟩
  obtain ⟨b1, b2, b3, b4⟩ := b j hj
  exact ⟨b1, b2, b3, fun c1 c2 => (b4 c1 c2).2.2⟩
theorem blkH_some (hh : ∀ i, (h i).isSome = decide (i < n)) (hfs : fs ≤ n) (i : Nat) : (blkH h ns lns J fs (n - fs) i).isSome = (decide (i < n) && !(decide (fs ≤ i) && (flx lns (ns i) J).isSome)) := by
  unfold blkH
  by_cases c : fs ≤ i ∧ i < fs + (n - fs) ∧ (flx lns (ns i) J).isSome = true
  · rw [if_pos c, c.2.2, decide_eq_true c.1]
    simp
  · rw [if_neg c, hh]
    by_cases hi : i < n
    · by_cases h1 : fs ≤ i
      · have : (flx lns (ns i) J).isSome = false := by
          cases hq : (flx lns (ns i) J).isSome with
          | false => rfl
          | true => exact absurd ⟨h1, by omega, hq⟩ c
        simp [this]
      · simp [h1]
    · simp [hi]
theorem blkN_eq (hh : ∀ i, (h i).isSome = decide (i < n)) (hfs : fs ≤ n) {i : Nat} (hi : i < n) : blkN h nu act fs (n - fs) i = if fs ≤ i then nAct act (nu i) else nu i := by
  unfold blkN
  by_cases h1 : fs ≤ i
  · rw [if_pos ⟨h1, by omega, by rw [hh]; exact decide_eq_true hi⟩, if_pos h1]
  · rw [if_neg (fun x => h1 x.1), if_neg h1]
theorem nAct_le (act x : Int) : ¬ act < nAct act x := by unfold nAct; split <;> omega
theorem pass2 (hh : ∀ i, (h i).isSome = decide (i < n)) (hfs : fs ≤ n) (i : Nat) (h1 : fs ≤ i) (h2 : i < n) (h3 : (blkH h ns lns J fs (n - fs) i).isSome = true) : ¬ (act < blkN h nu act fs (n - fs) i) ∧ flx lns (ns i) J = none := by
  constructor
  · rw [blkN_eq hh hfs h2, if_pos h1]
    exact nAct_le _ _
  · rw [blkH_some hh hfs, decide_eq_true h1, decide_eq_true h2] at h3
    cases hq : flx lns (ns i) J with
    | none => rfl
    | some j => rw [hq] at h3; simp at h3
end

section
variable (F C Bk U : Nat) (p : Option Addr) (h : Nat → Option Nat) (base n fs : Nat) (cs : List Int) (ns : Nat → ByteArray) (ps nu : Nat → Int)
variable (E : Nat) (G : Nat → Nat) (GS P Q Lm pn gn : Nat) (refB refP : Bool) (lns : Nat → ByteArray) (lN : Nat → Int) (J : Nat)

theorem resolve1_any (w : World) (s : Sx w F C Bk U p h base n (fs : Int) cs ns ps nu) (env : EnvB w Bk P Q (fs : Int) pn gn refB refP Lm) (lb : LbE w Lm lns lN J E) (gs : Gs w n E G ns ps nu) (hG : ∀ i g, h i = some g → g = G i) (hLU : Lm ≠ U) (hE : base ≤ E) (hfs : fs ≤ n) (hn : n ≤ 4096) (hpn : pn ≤ 4096) (hgn : gn ≤ 4096) (hsz : ∀ i, i < n → (ns i).size ≤ maxLen)
    (hpre : ∀ i, fs ≤ i → i < n → PBk ((gn : Int) + (pn : Int)) (nu i) (nAct ((gn : Int) + (pn : Int)) (nu i)) (ps i) cs.length refB refP (flx lns (ns i) J) lN) (hw : Ws cs) (hcl : cs.length ≤ 1048576) (hrv : RowV 33 (fun i => .pointer (some ⟨G i, 0, none⟩)) w GS n n) :
    Calls Tryf.prog 24 #[.pointer (some ⟨F, 0, none⟩)] w fun e w' => e = .returned (.tuple #[]) ∧
      Sx w' F C Bk U p (blkH h ns lns J fs (n - fs)) base n (fs : Int) (blkC h ns lns J ps nu lN ((gn : Int) + (pn : Int)) refB refP fs cs (n - fs)) ns ps (blkN h nu ((gn : Int) + (pn : Int)) fs (n - fs)) ∧
      EnvB w' Bk P Q (fs : Int) pn gn refB refP Lm ∧ LbE w' Lm lns lN J E ∧ Gs w' n E G ns ps (blkN h nu ((gn : Int) + (pn : Int)) fs (n - fs)) ∧ RowV 33 (fun i => .pointer (some ⟨G i, 0, none⟩)) w' GS n n ∧ Below base w w' := by
  have hc : (pn : Int) + (gn : Int) = (gn : Int) + (pn : Int) := Int.add_comm _ _
  obtain ⟨VB, V1, V2, LmB, L2, b1, b2, f1, f2, e1, e2, e3, e4, e5⟩ := id env
  have H := resolveB0 F C Bk U p h base n fs cs ns ps nu E G P Q VB V1 V2 LmB Lm L2 b1 b2 pn gn refB refP false f1 f2 lns lN J w s e1 e2 e3 e4 e5 lb gs hG hLU hE hfs (by omega) (by omega) (by omega) hsz (by rw [hc]; exact preB_of hpre) hw hcl
  rw [hc] at H
  refine (wrapB F w H).mono ?_
  rintro e w' ⟨rfl, hs, hgs, hfr, hb⟩
  refine ⟨rfl, hs, env.frg hfr, lb.frg hfr hLU, hgs, ?_, hb⟩
  obtain ⟨arr, h1, h2⟩ := hrv
  exact ⟨arr, (hfr.1 _ _ _ _ h1 (by decide) (.inl (by decide))).trans h1, h2⟩

theorem resolve2_any (w : World) (s : Sx w F C Bk U p h base n (fs : Int) cs ns ps nu) (env : EnvB w Bk P Q (fs : Int) pn gn refB refP Lm) (lb : LbE w Lm lns lN J E) (hfs : fs ≤ n) (hn : n ≤ 4096) (hpn : pn ≤ 4096) (hgn : gn ≤ 4096) (hsz : ∀ i, i < n → (ns i).size ≤ maxLen)
    (hpre : ∀ i, fs ≤ i → i < n → (h i).isSome = true → ¬ ((gn : Int) + (pn : Int) < nu i) ∧ flx lns (ns i) J = none) :
    Calls Tryf.prog 24 #[.pointer (some ⟨F, 0, none⟩)] w fun e w' => e = .returned (.tuple #[]) ∧ w' = w := by
  have hc : (pn : Int) + (gn : Int) = (gn : Int) + (pn : Int) := Int.add_comm _ _
  obtain ⟨VB, V1, V2, LmB, L2, b1, b2, f1, f2, e1, e2, e3, e4, e5⟩ := id env
  exact wrapB F w (resolveBN0 F C Bk U p h base n fs cs ns ps nu P Q VB V1 V2 LmB Lm L2 b1 b2 pn gn refB refP false f1 f2 lns lN J w s e1 e2 e3 e4 e5 lb.lb hfs (by omega) (by omega) (by omega) hsz (by rw [hc]; exact hpre))
end

/-- What the compared fields of a goto hold. -/
theorem Gs.c4 {w : World} {n E : Nat} {G : Nat → Nat} {ns : Nat → ByteArray} {ps nu : Nat → Int} (gs : Gs w n E G ns ps nu) {i : Nat} (hi : i < n) : w.cell? ⟨G i, 4, none⟩ = some (.int .i64 (nu i)) := (gs.all i hi).2.c4
theorem Gs.lt {w : World} {n E : Nat} {G : Nat → Nat} {ns : Nat → ByteArray} {ps nu : Nat → Int} (gs : Gs w n E G ns ps nu) {i : Nat} (hi : i < n) : G i < w.heap.size := World.block_lt_of_cell? w _ (gs.c4 hi)
theorem Gs.below {w w' : World} {n E : Nat} {G : Nat → Nat} {ns : Nat → ByteArray} {ps nu : Nat → Int} (gs : Gs w n E G ns ps nu) (hb : Below w.heap.size w w') : Gs w' n E G ns ps nu :=
  ⟨fun i hi => ⟨(gs.all i hi).1, (gs.all i hi).2.keep (hb.block _ (gs.lt hi))⟩, gs.inj⟩

end Go.Proofs.YtiihgamhmflphaaFmt
