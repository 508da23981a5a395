/-
  'place' keeps the invariant.
-/
import Derived.Test.Qxb6603910aModsInv
namespace Go.Proofs.Qxb6603910aMods
open Go.RowKit Go.Maps
set_option linter.unusedSimpArgs false
set_option linter.unusedVariables false

theorem get_set {P : List Pl} {q r : Nat} {e : Pl} (hq : q < P.length) : (P.set q e)[r]? = if r = q then some e else P[r]? := by
  rw [List.getElem?_set]
  by_cases h : q = r
  · subst h; simp [hq]
  · simp [h, Ne.symm h]
def wsL (P : List Pl) (r : Nat) : Int := (P.getD r (0, 0, 0, 0)).1
theorem wsL_of {P : List Pl} {r : Nat} {e : Pl} (h : P[r]? = some e) : wsL P r = e.1 := by simp [wsL, List.getD, h]
theorem wsL_set {P : List Pl} {q : Nat} {e : Pl} (hq : q < P.length) (r : Nat) : wsL (P.set q e) r = if r = q then e.1 else wsL P r := by
  unfold wsL List.getD
  rw [get_set hq]
  split <;> rfl

/-- The state behind 'link'. -/
def fin (s1 : CS) (pl : List Pl) (t p : Nat) (od nw : Int) : CS := { pl := pl, ix := s1.ix.set t ((p : Int) + 1), taken := s1.taken, newest := nw, oldest := od, ev := s1.ev, comp := s1.comp }

theorem tab_fin {seed : Int} {N K p t : Nat} {s1 : CS} {pl : List Pl} {od nw ws : Int} (hB : TBut N K p (s1.hm seed) s1.ix) (hl : s1.ix.length = N) (hp : p < K) (ht : t < N) (h0 : s1.ix.getD t 0 = 0)
    (hpath : ∀ e, e < far N (homeN seed N ws) t → s1.ix.getD (cyc N (homeN seed N ws) e) 0 ≠ 0) (hwp : wsL pl p = ws) (hws : ∀ r, r ≠ p → wsL pl r = s1.ws r) : TOk N K ((fin s1 pl t p od nw).hm seed) (fin s1 pl t p od nw).ix := by
  have e : ∀ r, (fin s1 pl t p od nw).hm seed r = homeN seed N (wsL pl r) := fun r => by
    unfold CS.hm CS.ws fin wsL
    simp only [List.length_set, hl]
  refine hB.insert hp ht h0 (fun q hq => ?_) ?_
  · rw [e, hws q hq]
    unfold CS.hm
    rw [hl]
  · rw [e, hwp]; exact hpath

/-- What a placement at Inv's level gives. -/
def Kept (cb pB iB : Nat) (seed : Int) (N C : Nat) (c0 : Bool) (pd : List Int) (ws : Int) (w w' : World) : Prop :=
  ∃ s', CAt w' cb pB iB seed s' ∧ Inv seed N C c0 s' (pd ++ [ws]) ∧ Turns (Own cb pB iB) w w'

section
variable {seed : Int} {N C : Nat} {c0 : Bool} {s : CS} {pd : List Int} {ws : Int} {w : World} {cb pB iB L : Nat}

/-- What 'find' tells at a state whose index holds nobody's ws. -/
theorem slot_of {s1 : CS} {pp : Int} {t : Nat} (hl : s1.ix.length = N) (hN : 0 < N) (hv : ∀ u, u < N → s1.ix.getD u 0 = 0 ∨ ∃ q : Nat, s1.ix.getD u 0 = (q : Int) + 1 ∧ s1.ws q ≠ ws) (hF : Found s1 (homeN seed s1.ix.length ws) ws pp t) :
    s1.ix.getD t 0 = 0 ∧ t < N ∧ ∀ e, e < far N (homeN seed N ws) t → s1.ix.getD (cyc N (homeN seed N ws) e) 0 ≠ 0 := by
  obtain ⟨_, a, b, c⟩ := found_none (by rw [hl]; exact homeN_lt _ _ _ hN) (by rw [hl]; exact hv) hF
  rw [hl] at b c
  exact ⟨a, b, c⟩

/-- The place of the first. -/
theorem keep_first (hi : Inv seed N C c0 s pd) (h : CAt w cb pB iB seed s) (hC : 1 ≤ C) (hCN : C < N) (hN : N = 2 ^ L) (hL : L ≤ 16) (hj : pd.length = 0) (hn : ∀ i, pd.length - keepN C pd ≤ i → i < pd.length → pd.getD i 0 ≠ ws) :
    Calls Trym.prog 34 #[.pointer (some ⟨cb, 0, none⟩), .int .u64 ws] w fun e w' => e = .returned (.int .i32 (pd.length % C : Nat)) ∧ Kept cb pB iB seed N C c0 pd ws w w' := by
  have hle : N ≤ 65536 := by rw [hN]; exact Nat.pow_le_pow_right (by decide) hL
  have hk : keepN C pd = 0 := by unfold keepN; omega
  have hpC : 0 < s.pl.length := by rw [hi.plen]; omega
  obtain ⟨z, hz, hz0⟩ := free_slot s.ix (by rw [hi.tab.count, hi.ilen]; omega)
  have hl : LinkOk cb pB iB seed { s with taken := ((0 : Nat) : Int) + 1 } 0 ws (fun t => fin { s with taken := ((0 : Nat) : Int) + 1 } ((s.pl.set 0 (ws, -1, -1, 0)).set 0 (ws, -1, -1, 0)) t 0 ((0 : Nat) : Int) ((0 : Nat) : Int)) := by
    intro t w3 h3
    exact link_first w3 cb pB iB seed _ h3 0 (by show 0 < (s.pl.set 0 _).length; simpa using hpC) (by show (s.pl.set 0 _).length ≤ _; simp [hi.plen]; omega) (ws, -1, -1, 0) (by show (s.pl.set 0 _)[0]? = _; rw [get_set hpC]; simp) (by show s.newest = -1; rw [hi.newest]; simp [hj])
  have hp := place_new w cb pB iB L ws seed s h 0 (by rw [hi.taken, hk]) hpC (by rw [hi.ilen]; exact hN) hL (hi.ranged (by omega)) z hz hz0 _ hl
  refine hp.mono ?_
  rintro e w' ⟨rfl, pp, t, hfd, hA, hT⟩
  rw [hj, Nat.zero_mod]
  refine ⟨rfl, _, hA, ?_, hT⟩
  obtain ⟨ht0, htl, hpath⟩ := slot_of (N := N) (s1 := { s with taken := ((0 : Nat) : Int) + 1 }) hi.ilen (by omega) (hi.none hC hn) hfd
  have hm : min (pd.length + 1) C = 0 + 1 := by omega
  refine inv_step hi hC hn ?_ ?_ ?_ ?_ ?_ ?_ ?_ ?_ ?_ ?_
  · show ((s.pl.set 0 _).set 0 _).length = C
    simp [hi.plen]
  · show (s.ix.set t _).length = N
    simp [hi.ilen]
  · have hB := hi.tab.but
    rw [hk] at hB
    rw [hm]
    refine tab_fin hB hi.ilen (by omega) htl ht0 hpath ?_ (fun r hr => ?_)
    · rw [wsL_set (by simpa using hpC)]; simp
    · rw [wsL_set (by simpa using hpC), if_neg hr, wsL_set hpC, if_neg hr]; rfl
  · show ((0 : Nat) : Int) + 1 = _
    rw [hm]; rfl
  · show ((0 : Nat) : Int) = _
    rw [hj]; simp
  · show ((0 : Nat) : Int) = _
    rw [show pd.length + 1 - min (pd.length + 1) C = 0 by omega]; simp
  · show s.ev = _
    rw [hi.ev]; omega
  · show s.comp = _
    rw [hi.comp, hj]; simp; omega
  · show ((s.pl.set 0 _).set 0 _)[pd.length % C]? = _
    rw [hj, Nat.zero_mod, get_set (by simpa using hpC)]
    simp
  · intro i h1 h2; omega

/-- A place never taken, behind the newest. -/
theorem keep_next (hi : Inv seed N C c0 s pd) (h : CAt w cb pB iB seed s) (hC : 1 ≤ C) (hCN : C < N) (hN : N = 2 ^ L) (hL : L ≤ 16) (hj : 0 < pd.length) (hjC : pd.length < C) (hn : ∀ i, pd.length - keepN C pd ≤ i → i < pd.length → pd.getD i 0 ≠ ws) :
    Calls Trym.prog 34 #[.pointer (some ⟨cb, 0, none⟩), .int .u64 ws] w fun e w' => e = .returned (.int .i32 (pd.length % C : Nat)) ∧ Kept cb pB iB seed N C c0 pd ws w w' := by
  have hle : N ≤ 65536 := by rw [hN]; exact Nat.pow_le_pow_right (by decide) hL
  have hk : keepN C pd = pd.length := by unfold keepN; omega
  have hpm : pd.length % C = pd.length := Nat.mod_eq_of_lt hjC
  obtain ⟨q, hq⟩ : ∃ q, q + 1 = pd.length := ⟨pd.length - 1, by omega⟩
  have hqm : q % C = q := Nat.mod_eq_of_lt (by omega)
  obtain ⟨p, hp0⟩ : ∃ p, p = pd.length := ⟨_, rfl⟩
  rw [hpm, ← hp0]
  obtain ⟨z, hz, hz0⟩ := free_slot s.ix (by rw [hi.tab.count, hi.ilen]; omega)
  have he2 := hi.places q (by omega) (by omega)
  rw [hqm] at he2
  have hnwq : nwOf C pd q = -1 := by unfold nwOf; rw [if_neg (by omega)]
  rw [hnwq] at he2
  generalize hod : odOf C pd q = od at he2
  generalize hwq0 : pd.getD q 0 = wq at he2
  have hpC : p < s.pl.length := by rw [hi.plen]; omega
  have hqC : q < s.pl.length := by rw [hi.plen]; omega
  have hl : LinkOk cb pB iB seed { s with taken := (p : Int) + 1 } p ws (fun t => fin { s with taken := (p : Int) + 1 } (((s.pl.set p (ws, -1, -1, 0)).set p (ws, -1, (q : Int), 0)).set q (wq, (p : Int), od, 0)) t p s.oldest (p : Int)) := by
    intro t w3 h3
    exact link_next w3 cb pB iB seed _ h3 p q (by show p < (s.pl.set p _).length; simpa using hpC) (by show q < (s.pl.set p _).length; simpa using hqC) (by omega) (by show (s.pl.set p _).length ≤ _; simp [hi.plen]; omega) (ws, -1, -1, 0) (by show (s.pl.set p _)[p]? = _; rw [get_set hpC]; simp) (wq, -1, od, 0) (by show (s.pl.set p _)[q]? = _; rw [get_set hpC, if_neg (by omega)]; exact he2) (by show s.newest = _; rw [hi.newest, if_neg (by omega), show pd.length - 1 = q by omega, hqm])
  have hpl := place_new w cb pB iB L ws seed s h p (by rw [hi.taken, hk, hp0]) hpC (by rw [hi.ilen]; exact hN) hL (hi.ranged (by omega)) z hz hz0 _ hl
  refine hpl.mono ?_
  rintro e w' ⟨rfl, pp, t, hfd, hA, hT⟩
  refine ⟨rfl, _, hA, ?_, hT⟩
  obtain ⟨ht0, htl, hpath⟩ := slot_of (N := N) (s1 := { s with taken := (p : Int) + 1 }) hi.ilen (by omega) (hi.none hC hn) hfd
  have hget : ∀ r, (((s.pl.set p (ws, -1, -1, 0)).set p (ws, -1, (q : Int), 0)).set q (wq, (p : Int), od, 0))[r]? = if r = q then some (wq, (p : Int), od, 0) else if r = p then some (ws, -1, (q : Int), 0) else s.pl[r]? := fun r => by
    rw [get_set (by simpa using hqC), get_set (by simpa using hpC), get_set hpC]
    split
    · rfl
    · split <;> rfl
  have hm : min (pd.length + 1) C = p + 1 := by omega
  refine inv_step hi hC hn ?_ ?_ ?_ ?_ ?_ ?_ ?_ ?_ ?_ ?_
  · show (((s.pl.set p _).set p _).set q _).length = C
    simp [hi.plen]
  · show (s.ix.set t _).length = N
    simp [hi.ilen]
  · have hB := hi.tab.but
    rw [hk, ← hp0] at hB
    rw [hm]
    refine tab_fin hB hi.ilen (by omega) htl ht0 hpath ?_ (fun r hr => ?_)
    · rw [wsL_of ((hget p).trans (by rw [if_neg (by omega), if_pos rfl]))]
    · rw [wsL_set (by simpa using hqC)]
      split
      · rename_i e; subst e; exact (wsL_of he2).symm
      · rw [wsL_set (by simpa using hpC), if_neg hr, wsL_set hpC, if_neg hr]; rfl
  · show (p : Int) + 1 = _
    rw [hm]; omega
  · show (p : Int) = _
    rw [hpm, hp0]
  · show s.oldest = _
    rw [hi.oldest, if_neg (by omega), hk, hm, hp0]; simp
  · show s.ev = _
    rw [hi.ev]; omega
  · show s.comp = _
    rw [hi.comp]; congr 1; simp; omega
  · show (((s.pl.set p _).set p _).set q _)[pd.length % C]? = _
    rw [hpm, ← hp0, hget, if_neg (by omega), if_pos rfl, hp0, hm, if_pos (by omega), show pd.length - 1 = q by omega, hqm]
  · intro i h1 h2
    rw [Nat.mod_eq_of_lt (show i < C by omega)]
    show (((s.pl.set p _).set p _).set q _)[i]? = _
    rw [hget]
    have hio := hi.places i (by omega) h2
    rw [Nat.mod_eq_of_lt (show i < C by omega)] at hio
    by_cases e : i = q
    · subst e
      rw [if_pos rfl, hwq0, ← hod]
      unfold odOf
      rw [hk, hm, show i + 1 = p by omega, show p % C = p from by rw [hp0]; exact hpm]
      simp; omega
    · rw [if_neg e, if_neg (by omega), hio]
      unfold nwOf odOf
      rw [if_pos (by omega), hk, hm]
      simp; omega
end
end Go.Proofs.Qxb6603910aMods
