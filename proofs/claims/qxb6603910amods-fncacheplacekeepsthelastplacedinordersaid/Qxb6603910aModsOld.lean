/-
  'place' keeps the invariant: the oldest let go of.
-/
import Derived.Test.Qxb6603910aModsKeep
namespace Go.Proofs.Qxb6603910aMods
open Go.RowKit Go.Maps
set_option linter.unusedSimpArgs false
set_option linter.unusedVariables false

section
variable {seed : Int} {N C : Nat} {c0 : Bool} {s : CS} {pd : List Int} {ws : Int} {w : World} {cb pB iB L : Nat}

/-- Behind 'letGo' nobody's workspace is ws. -/
theorem none_old (hi : Inv seed N C c0 s pd) (hC : 1 ≤ C) (hn : ∀ i, pd.length - keepN C pd ≤ i → i < pd.length → pd.getD i 0 ≠ ws) {sU : CS} {p : Nat} {hm : Nat → Nat} {ix : List Int} (hws : ∀ r, sU.ws r = s.ws r) (hB : TBut N (keepN C pd) p hm ix) :
    ∀ u, u < N → (SL sU ix).ix.getD u 0 = 0 ∨ ∃ q : Nat, (SL sU ix).ix.getD u 0 = (q : Int) + 1 ∧ (SL sU ix).ws q ≠ ws := by
  intro u hu
  rcases hB.vals u hu with e | ⟨q, e, hk, _⟩
  · exact .inl e
  · obtain ⟨i, a1, a2, _, a4⟩ := hi.live hC hk
    refine .inr ⟨q, e, ?_⟩
    show sU.ws q ≠ ws
    rw [hws, a4]; exact hn i a1 a2

/-- One place in all. -/
theorem keep_only (hi : Inv seed N C c0 s pd) (h : CAt w cb pB iB seed s) (hC : C = 1) (hCN : C < N) (hN : N = 2 ^ L) (hL : L ≤ 16) (hj : 0 < pd.length) (hjl : pd.length ≤ 65536) (hn : ∀ i, pd.length - keepN C pd ≤ i → i < pd.length → pd.getD i 0 ≠ ws) :
    Calls Trym.prog 34 #[.pointer (some ⟨cb, 0, none⟩), .int .u64 ws] w fun e w' => e = .returned (.int .i32 (pd.length % C : Nat)) ∧ Kept cb pB iB seed N C c0 pd ws w w' := by
  have hle : N ≤ 65536 := by rw [hN]; exact Nat.pow_le_pow_right (by decide) hL
  have hk : keepN C pd = 1 := by unfold keepN; omega
  have hpC : 0 < s.pl.length := by rw [hi.plen]; omega
  have hp := hi.places (pd.length - 1) (by omega) (by omega)
  have hz : ∀ i, i % C = 0 := fun i => by rw [hC]; exact Nat.mod_one i
  rw [hz] at hp
  have e1 : nwOf C pd (pd.length - 1) = -1 := by unfold nwOf; rw [if_neg (by omega)]
  have e2 : odOf C pd (pd.length - 1) = -1 := by unfold odOf; rw [if_neg (by omega)]
  rw [e1, e2] at hp
  have hg : ∀ w0, CAt w0 cb pB iB seed s → Calls Trym.prog 37 #[.pointer (some ⟨cb, 0, none⟩), .int .i32 (0 : Nat)] w0 fun e w' => e = .returned (.tuple #[]) ∧ LetGone cb pB iB seed { s with newest := -1, oldest := -1 } 1 0 w0 w' := fun w0 h0 => by
    refine letgo_any w0 cb pB iB L seed { s with newest := -1, oldest := -1 } 1 0 (unlink_only w0 cb pB iB seed s h0 0 hpC (by rw [hi.plen]; omega) _ _ hp) (by show s.ix.length = _; rw [hi.ilen]; exact hN) hL (by show s.pl.length ≤ _; rw [hi.plen]; omega) (by show 1 ≤ s.pl.length; omega) (by show 1 < s.ix.length; rw [hi.ilen]; omega) (by omega) ?_ (fun q hq _ => by omega) (by show 0 ≤ s.ev; rw [hi.ev]; omega) (by show s.ev ≤ _; rw [hi.ev]; omega)
    have ht := hi.tab
    rw [hk] at ht
    show TOk s.ix.length 1 _ s.ix
    rw [hi.ilen]; exact ht
  have hl : ∀ ix, LinkOk cb pB iB seed (SL { s with newest := -1, oldest := -1 } ix) 0 ws (fun t => fin (SL { s with newest := -1, oldest := -1 } ix) ((s.pl.set 0 (ws, -1, -1, 0)).set 0 (ws, -1, -1, 0)) t 0 ((0 : Nat) : Int) ((0 : Nat) : Int)) := by
    intro ix t w3 h3
    exact link_first w3 cb pB iB seed _ h3 0 (by show 0 < (s.pl.set 0 _).length; simpa using hpC) (by show (s.pl.set 0 _).length ≤ _; simp [hi.plen]; omega) (ws, -1, -1, 0) (by show (s.pl.set 0 _)[0]? = _; rw [get_set hpC]; simp) rfl
  have hpo := place_old w cb pB iB L ws seed s { s with newest := -1, oldest := -1 } h 0 1 (by rw [hi.taken, hk, hi.plen, hC]) (by rw [hi.oldest, if_neg (by omega), hz]) hpC rfl (by rw [hi.plen]; omega) (by show 1 ≤ s.pl.length; omega) (by show 1 ≤ s.ix.length; rw [hi.ilen]; omega) (by show s.ix.length = _; rw [hi.ilen]; exact hN) hL hg _ hl
  refine hpo.mono ?_
  rintro e w' ⟨rfl, ix, hB, pp, t, hfd, hA, hT⟩
  rw [hz]
  refine ⟨rfl, _, hA, ?_, hT⟩
  have hB' : TBut N 1 0 ((SL { s with newest := -1, oldest := -1 } ix).hm seed) ix := by
    have hl2 : ix.length = s.ix.length := hB.len
    have e3 : (SL { s with newest := -1, oldest := -1 } ix).hm seed = ({ s with newest := -1, oldest := -1 } : CS).hm seed := by
      funext q
      show homeN seed ix.length _ = homeN seed s.ix.length _
      rw [hl2]; rfl
    rw [e3, ← hi.ilen]; exact hB
  obtain ⟨ht0, htl, hpath⟩ := slot_of (N := N) (s1 := SL { s with newest := -1, oldest := -1 } ix) hB'.len (by omega) (none_old hi (by omega) hn (fun _ => rfl) (by rw [hk]; exact hB')) hfd
  have hm : min (pd.length + 1) C = 1 := by omega
  refine inv_step hi (by omega) hn ?_ ?_ ?_ ?_ ?_ ?_ ?_ ?_ ?_ ?_
  · show ((s.pl.set 0 _).set 0 _).length = C
    simp [hi.plen]
  · show (ix.set t _).length = N
    simp [hB'.len]
  · rw [hm]
    refine tab_fin hB' hB'.len (by omega) htl ht0 hpath ?_ (fun r hr => ?_)
    · rw [wsL_set (by simpa using hpC)]; simp
    · rw [wsL_set (by simpa using hpC), if_neg hr, wsL_set hpC, if_neg hr]; rfl
  · show s.taken = _
    rw [hi.taken, hk, hm]
  · show ((0 : Nat) : Int) = _
    rw [hz]
  · show ((0 : Nat) : Int) = _
    rw [hz]
  · show s.ev + 1 = _
    rw [hi.ev]; omega
  · show false = _
    rw [show decide (pd.length + 1 ≤ C) = false by simp; omega]; simp
  · show ((s.pl.set 0 _).set 0 _)[pd.length % C]? = _
    rw [hz, get_set (by simpa using hpC), if_pos rfl, if_neg (by omega)]
  · intro i h1 h2; omega

/-- The oldest let go of, others being kept. -/
theorem keep_old (hi : Inv seed N C c0 s pd) (h : CAt w cb pB iB seed s) (hC : 2 ≤ C) (hCN : C < N) (hN : N = 2 ^ L) (hL : L ≤ 16) (hj : C ≤ pd.length) (hjl : pd.length ≤ 65536) (hn : ∀ i, pd.length - keepN C pd ≤ i → i < pd.length → pd.getD i 0 ≠ ws) :
    Calls Trym.prog 34 #[.pointer (some ⟨cb, 0, none⟩), .int .u64 ws] w fun e w' => e = .returned (.int .i32 (pd.length % C : Nat)) ∧ Kept cb pB iB seed N C c0 pd ws w w' := by
  have hle : N ≤ 65536 := by rw [hN]; exact Nat.pow_le_pow_right (by decide) hL
  have hk : keepN C pd = C := by unfold keepN; omega
  obtain ⟨j, hj0⟩ : ∃ j, pd.length = j + C := ⟨pd.length - C, by omega⟩
  obtain ⟨p, hp0⟩ : ∃ p, p = j % C := ⟨_, rfl⟩
  obtain ⟨q, hq0⟩ : ∃ q, q = (j + 1) % C := ⟨_, rfl⟩
  obtain ⟨q', hq'0⟩ : ∃ q', q' = (j + C - 1) % C := ⟨_, rfl⟩
  have hpj : pd.length % C = p := by rw [hj0, hp0]; simp
  have hpC0 : p < C := by rw [hp0]; exact Nat.mod_lt _ (by omega)
  have hqC0 : q < C := by rw [hq0]; exact Nat.mod_lt _ (by omega)
  have hq'C0 : q' < C := by rw [hq'0]; exact Nat.mod_lt _ (by omega)
  have hpC : p < s.pl.length := by rw [hi.plen]; exact hpC0
  have hqC : q < s.pl.length := by rw [hi.plen]; exact hqC0
  have hq'C : q' < s.pl.length := by rw [hi.plen]; exact hq'C0
  have hpq : p ≠ q := by rw [hp0, hq0]; exact res_ne (by omega) (by omega) (by omega)
  have hpq' : p ≠ q' := by rw [hp0, hq'0]; exact res_ne (by omega) (by omega) (by omega)
  -- the three places
  have a1 := hi.places j (by omega) (by omega)
  rw [← hp0] at a1
  have b1 : nwOf C pd j = (q : Int) := by unfold nwOf; rw [if_pos (by omega), hq0]
  have b2 : odOf C pd j = -1 := by unfold odOf; rw [if_neg (by omega)]
  rw [b1, b2] at a1
  have a2 := hi.places (j + 1) (by omega) (by omega)
  rw [← hq0] at a2
  have a3 := hi.places (j + C - 1) (by omega) (by omega)
  rw [← hq'0] at a3
  have b3 : nwOf C pd (j + C - 1) = -1 := by unfold nwOf; rw [if_neg (by omega)]
  rw [b3] at a3
  obtain ⟨plU, hplU⟩ : ∃ plU, plU = s.pl.set q (pd.getD (j + 1) 0, nwOf C pd (j + 1), -1, 0) := ⟨_, rfl⟩
  have hUl : plU.length = C := by rw [hplU]; simp [hi.plen]
  have hUg : ∀ r, plU[r]? = if r = q then some (pd.getD (j + 1) 0, nwOf C pd (j + 1), -1, 0) else s.pl[r]? := fun r => by rw [hplU]; exact get_set hqC
  have hwsU : ∀ r, wsL plU r = s.ws r := fun r => by
    rw [hplU, wsL_set hqC]
    split
    · rename_i e; subst e; exact (wsL_of a2).symm
    · rfl
  obtain ⟨sU, hsU⟩ : ∃ sU : CS, sU = { s with pl := plU, oldest := (q : Int) } := ⟨_, rfl⟩
  have hsUl : sU.pl.length = C := by rw [hsU]; exact hUl
  have hsUi : sU.ix.length = N := by rw [hsU]; exact hi.ilen
  have hsUw : ∀ r, sU.ws r = s.ws r := fun r => by rw [hsU]; exact hwsU r
  have hsUe : sU.ev = s.ev := by rw [hsU]
  have hsUt : sU.taken = s.taken := by rw [hsU]
  have hsUn : sU.newest = s.newest := by rw [hsU]
  have hsUp : sU.pl = plU := by rw [hsU]
  have hsUo : sU.oldest = (q : Int) := by rw [hsU]
  have hsUx : sU.ix = s.ix := by rw [hsU]
  have hsUh : sU.hm seed = s.hm seed := by
    funext r
    unfold CS.hm
    rw [hsUw, hsUx]
  have hg : ∀ w0, CAt w0 cb pB iB seed s → Calls Trym.prog 37 #[.pointer (some ⟨cb, 0, none⟩), .int .i32 p] w0 fun e w' => e = .returned (.tuple #[]) ∧ LetGone cb pB iB seed sU C p w0 w' := fun w0 h0 => by
    have hun := unlink_oldest w0 cb pB iB seed s h0 p q hpC (by rw [hi.plen]; omega) _ _ a1 hqC _ a2
    refine letgo_any w0 cb pB iB L seed sU C p ?_ (by rw [hsUi]; exact hN) hL (by rw [hsUl]; omega) (by rw [hsUl]; omega) (by rw [hsUi]; omega) hpC0 ?_ (fun r hr e => ?_) (by rw [hsUe, hi.ev]; omega) (by rw [hsUe, hi.ev]; omega)
    · rw [hsU, hplU]; exact hun
    · have ht := hi.tab
      rw [hk] at ht
      rw [hsUi, hsUh, hsUx]; exact ht
    · rw [hsUw, hsUw] at e
      exact hi.apart (by omega) (by rw [hk]; exact hr) (by rw [hk]; exact hpC0) e
  obtain ⟨od', hod'⟩ : ∃ od', plU[q']? = some (pd.getD (j + C - 1) 0, -1, od', 0) := by
    rw [hUg]
    split
    · rename_i e
      have : j + 1 = j + C - 1 := by
        have h1 : (j + 1) % C = (j + C - 1) % C := by rw [← hq0, ← hq'0, e]
        exact res_inj (by omega) (by omega) h1
      rw [this, b3]
      exact ⟨-1, rfl⟩
    · exact ⟨_, a3⟩
  have hl : ∀ ix, LinkOk cb pB iB seed (SL sU ix) p ws (fun t => fin (SL sU ix) (((plU.set p (ws, -1, -1, 0)).set p (ws, -1, (q' : Int), 0)).set q' (pd.getD (j + C - 1) 0, (p : Int), od', 0)) t p (q : Int) (p : Int)) := by
    intro ix t w3 h3
    have hS : (S3 (SL sU ix) t p ws).pl = plU.set p (ws, -1, -1, 0) := by show sU.pl.set p _ = _; rw [hsUp]
    have := link_next w3 cb pB iB seed _ h3 p q' (by rw [hS]; simp [hUl]; exact hpC0) (by rw [hS]; simp [hUl]; exact hq'C0) hpq' (by rw [hS]; simp [hUl]; omega) (ws, -1, -1, 0) (by rw [hS, get_set (by rw [hUl]; exact hpC0)]; simp) (pd.getD (j + C - 1) 0, -1, od', 0) (by rw [hS, get_set (by rw [hUl]; exact hpC0), if_neg (Ne.symm hpq')]; exact hod') (by show sU.newest = _; rw [hsUn, hi.newest, if_neg (by omega), hj0, ← hq'0])
    rw [hS] at this
    have e4 : ({ S3 (SL sU ix) t p ws with pl := ((plU.set p (ws, -1, -1, 0)).set p (ws, -1, (q' : Int), 0)).set q' (pd.getD (j + C - 1) 0, (p : Int), od', 0), newest := (p : Int) } : CS) = fin (SL sU ix) (((plU.set p (ws, -1, -1, 0)).set p (ws, -1, (q' : Int), 0)).set q' (pd.getD (j + C - 1) 0, (p : Int), od', 0)) t p (q : Int) (p : Int) := by
      unfold fin S3 SL
      simp [hsUo]
    refine this.mono ?_
    rintro e w' ⟨he, hA, hT⟩
    refine ⟨he, ?_, hT⟩
    show CAt w' cb pB iB seed (fin (SL sU ix) (((plU.set p (ws, -1, -1, 0)).set p (ws, -1, (q' : Int), 0)).set q' (pd.getD (j + C - 1) 0, (p : Int), od', 0)) t p (q : Int) (p : Int))
    rw [← e4]; exact hA
  have hpo := place_old w cb pB iB L ws seed s sU h p C (by rw [hi.taken, hk, hi.plen]) (by rw [hi.oldest, if_neg (by omega), hk, hj0, hp0]; simp) (by rw [hsUl]; exact hpC0) (by rw [hsUl, hi.plen]) (by rw [hi.plen]; omega) (by rw [hsUl]; omega) (by rw [hsUi]; omega) (by rw [hsUi]; exact hN) hL hg _ hl
  refine hpo.mono ?_
  rintro e w' ⟨rfl, ix, hB, pp, t, hfd, hA, hT⟩
  rw [hpj]
  refine ⟨rfl, _, hA, ?_, hT⟩
  have hB' : TBut N C p ((SL sU ix).hm seed) ix := by
    have hl2 : ix.length = sU.ix.length := hB.len
    have e3 : (SL sU ix).hm seed = sU.hm seed := by
      funext r
      show homeN seed ix.length _ = homeN seed sU.ix.length _
      rw [hl2]; rfl
    rw [e3, ← hsUi]; exact hB
  obtain ⟨ht0, htl, hpath⟩ := slot_of (N := N) (s1 := SL sU ix) hB'.len (by omega) (none_old hi (by omega) hn hsUw (by rw [hk]; exact hB')) hfd
  have hget : ∀ r, (((plU.set p (ws, -1, -1, 0)).set p (ws, -1, (q' : Int), 0)).set q' (pd.getD (j + C - 1) 0, (p : Int), od', 0))[r]? = if r = q' then some (pd.getD (j + C - 1) 0, (p : Int), od', 0) else if r = p then some (ws, -1, (q' : Int), 0) else plU[r]? := fun r => by
    rw [get_set (by simp [hUl]; exact hq'C0), get_set (by simp [hUl]; exact hpC0), get_set (by rw [hUl]; exact hpC0)]
    split
    · rfl
    · split <;> rfl
  have hm : min (pd.length + 1) C = C := by omega
  refine inv_step hi (by omega) hn ?_ ?_ ?_ ?_ ?_ ?_ ?_ ?_ ?_ ?_
  · show (((plU.set p _).set p _).set q' _).length = C
    simp [hUl]
  · show (ix.set t _).length = N
    simp [hB'.len]
  · rw [hm]
    refine tab_fin hB' hB'.len hpC0 htl ht0 hpath ?_ (fun r hr => ?_)
    · rw [wsL_of ((hget p).trans (by rw [if_neg hpq', if_pos rfl]))]
    · rw [wsL_set (by simp [hUl]; exact hq'C0)]
      split
      · rename_i e
        subst e
        have e5 : (SL sU ix).ws r = sU.ws r := rfl
        rw [e5, hsUw, ← hwsU, wsL_of hod']
      · rw [wsL_set (by simp [hUl]; exact hpC0), if_neg hr, wsL_set (by rw [hUl]; exact hpC0), if_neg hr, hwsU, ← hsUw]; rfl
  · show sU.taken = _
    rw [hsUt, hi.taken, hk, hm]
  · show (p : Int) = _
    rw [hpj]
  · show (q : Int) = _
    rw [hm, hj0, hq0, show j + C + 1 - C = j + 1 by omega]
  · show sU.ev + 1 = _
    rw [hsUe, hi.ev]; omega
  · show false = _
    rw [show decide (pd.length + 1 ≤ C) = false by simp; omega]; simp
  · show (((plU.set p _).set p _).set q' _)[pd.length % C]? = _
    rw [hpj, hget, if_neg hpq', if_pos rfl, hm, if_pos (by omega), hj0, hq'0]
  · intro i h1 h2
    rw [hm] at h1 ⊢
    show (((plU.set p _).set p _).set q' _)[i % C]? = _
    rw [hget]
    by_cases e : i = j + C - 1
    · subst e
      rw [← hq'0, if_pos rfl]
      have hb : (j + C - 1 + 1) % C = p := by rw [show j + C - 1 + 1 = j + C by omega, hp0]; simp
      rw [hb]
      have ho := hUg q'
      rw [hod'] at ho
      by_cases e2 : j + C - 1 = j + 1
      · have e3 : q' = q := by rw [hq0, hq'0, e2]
        rw [if_pos e3] at ho
        have : od' = -1 := by simpa using (congrArg (fun x => x.2.2.1) (Option.some.inj ho))
        rw [this, if_neg (by omega)]
      · have e3 : q' ≠ q := by rw [hq0, hq'0]; exact res_ne (by omega) (by omega) e2
        rw [if_neg e3, a3] at ho
        have : od' = odOf C pd (j + C - 1) := by simpa using (congrArg (fun x => x.2.2.1) (Option.some.inj ho))
        rw [this]
        unfold odOf
        rw [hk, if_pos (by omega), if_pos (by omega)]
    · have e1 : i % C ≠ q' := by rw [hq'0]; exact res_ne (by omega) (by omega) e
      have e2 : i % C ≠ p := by rw [← hpj]; exact res_ne (by omega) (by omega) (by omega)
      rw [if_neg e1, if_neg e2, hUg]
      by_cases e3 : i = j + 1
      · subst e3
        rw [← hq0, if_pos rfl]
        unfold nwOf
        rw [if_pos (by omega), if_neg (by omega)]
      · have e4 : i % C ≠ q := by rw [hq0]; exact res_ne (by omega) (by omega) e3
        rw [if_neg e4, hi.places i (by omega) h2]
        unfold nwOf odOf
        rw [hk, if_pos (by omega), if_pos (by omega), if_pos (by omega)]

/-- 'place', whichever way. -/
theorem place_any (hi : Inv seed N C c0 s pd) (h : CAt w cb pB iB seed s) (hC : 1 ≤ C) (hCN : C < N) (hN : N = 2 ^ L) (hL : L ≤ 16) (hjl : pd.length ≤ 65536) (hn : ∀ i, pd.length - keepN C pd ≤ i → i < pd.length → pd.getD i 0 ≠ ws) :
    Calls Trym.prog 34 #[.pointer (some ⟨cb, 0, none⟩), .int .u64 ws] w fun e w' => e = .returned (.int .i32 (pd.length % C : Nat)) ∧ Kept cb pB iB seed N C c0 pd ws w w' := by
  by_cases h0 : pd.length = 0
  · exact keep_first hi h hC hCN hN hL h0 hn
  · by_cases h1 : pd.length < C
    · exact keep_next hi h hC hCN hN hL (by omega) h1 hn
    · by_cases h2 : C = 1
      · exact keep_only hi h h2 hCN hN hL (by omega) hjl hn
      · exact keep_old hi h (by omega) hCN hN hL (by omega) hjl hn
end
end Go.Proofs.Qxb6603910aMods
