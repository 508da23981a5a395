/-
  What 'find' answers on a good index; insertion; the walk of 'letGo'.
-/
import Derived.Test.Qxb6603910aModsTable
namespace Go.Proofs.Qxb6603910aMods
open Go.RowKit Go.Maps
set_option linter.unusedSimpArgs false
set_option linter.unusedVariables false
attribute [local go_sem ↓] Go.wp_at_zero Go.wp_at_succ

/-- Nobody's workspace: a free slot comes, all slots ahead of it taken. -/
theorem found_none {s : CS} {h : Nat} {ws : Int} {pp : Int} {t : Nat} (hh : h < s.ix.length) (hv : ∀ u, u < s.ix.length → s.ix.getD u 0 = 0 ∨ ∃ q : Nat, s.ix.getD u 0 = (q : Int) + 1 ∧ s.ws q ≠ ws) (hF : Found s h ws pp t) :
    pp = -1 ∧ s.ix.getD t 0 = 0 ∧ t < s.ix.length ∧ ∀ e, e < far s.ix.length h t → s.ix.getD (cyc s.ix.length h e) 0 ≠ 0 := by
  obtain ⟨d, hd, rfl, hno, hend⟩ := hF
  have ht : cyc s.ix.length h d < s.ix.length := cyc_lt (by omega)
  rw [far_cyc hh hd]
  rcases hend with ⟨h0, rfl⟩ | ⟨h0, hw, _⟩
  · exact ⟨rfl, h0, ht, fun e he => (hno e he).1⟩
  · exfalso
    rcases hv _ ht with e | ⟨q, e, hne⟩
    · exact h0 e
    · have e' : s.at_ (cyc s.ix.length h d) = (q : Int) + 1 := e
      rw [e', show ((q : Int) + 1 - 1).toNat = q by omega] at hw
      exact hne hw
/-- A kept workspace: its place, and the slot that refers to it. -/
theorem found_live {s : CS} {K p : Nat} {hm : Nat → Nat} {pp : Int} {t : Nat} (hT : TOk s.ix.length K hm s.ix) (hmN : ∀ q, hm q < s.ix.length) (hp : p < K) (hd : ∀ q, q < K → s.ws q = s.ws p → q = p) (hF : Found s (hm p) (s.ws p) pp t) :
    pp = p ∧ t < s.ix.length ∧ s.ix.getD t 0 = (p : Int) + 1 := by
  obtain ⟨d, hdN, rfl, hno, hend⟩ := hF
  have hpos : 0 < s.ix.length := by have := hmN p; omega
  obtain ⟨u, hu, eu⟩ := hT.has p hp
  have ht : cyc s.ix.length (hm p) d < s.ix.length := cyc_lt hpos
  have hfar := far_cyc (hmN p) hdN
  -- the probes do not go beyond u
  have hle : d ≤ far s.ix.length (hm p) u := by
    rcases Nat.lt_or_ge (far s.ix.length (hm p) u) d with h1 | h1
    · exfalso
      obtain ⟨_, h3⟩ := hno _ h1
      rw [cyc_far (hmN p) hu] at h3
      have e' : s.at_ u = (p : Int) + 1 := eu
      rw [e', show ((p : Int) + 1 - 1).toNat = p by omega] at h3
      exact h3 rfl
    · exact h1
  rcases hend with ⟨h0, _⟩ | ⟨h0, hw, hpp⟩
  · exfalso
    rcases Nat.eq_or_lt_of_le hle with e | hlt
    · rw [e, cyc_far (hmN p) hu] at h0
      have e' : s.at_ u = (p : Int) + 1 := eu
      omega
    · exact hT.path u p hu eu d hlt h0
  · rcases hT.vals _ ht with e | ⟨q, e, hk⟩
    · exact absurd e h0
    · have e' : s.at_ (cyc s.ix.length (hm p) d) = (q : Int) + 1 := e
      rw [e', show ((q : Int) + 1 - 1).toNat = q by omega] at hw
      have hqp := hd q hk hw
      subst hqp
      exact ⟨by rw [hpp, e']; omega, ht, e⟩

theorem TOk.but {N K : Nat} {hm : Nat → Nat} {ix : List Int} (h : TOk N K hm ix) : TBut N (K + 1) K hm ix :=
  ⟨h.len, fun u hu => by
    rcases h.vals u hu with e | ⟨q, e, hk⟩
    · exact .inl e
    · exact .inr ⟨q, e, by omega, by omega⟩, h.uniq, fun q hq hne => h.has q (by omega), h.path, by rw [h.count]⟩
/-- Insertion. -/
theorem TBut.insert {N K p t : Nat} {hm hm' : Nat → Nat} {ix : List Int} (h : TBut N K p hm ix) (hp : p < K) (ht : t < N) (h0 : ix.getD t 0 = 0) (hsame : ∀ q, q ≠ p → hm' q = hm q) (hpath : ∀ e, e < far N (hm' p) t → ix.getD (cyc N (hm' p) e) 0 ≠ 0) : TOk N K hm' (ix.set t ((p : Int) + 1)) := by
  have htl : t < ix.length := by rw [h.len]; exact ht
  have g : ∀ v, (ix.set t ((p : Int) + 1)).getD v 0 = if v = t then (p : Int) + 1 else ix.getD v 0 := fun v => getD_set ix t v _ htl
  have nop : ∀ u, u < N → ix.getD u 0 ≠ (p : Int) + 1 := by
    intro u hu e
    rcases h.vals u hu with e1 | ⟨q, e1, _, hne⟩
    · omega
    · exact hne (by omega)
  refine ⟨by simp [h.len], ?_, ?_, ?_, ?_, ?_⟩
  · intro u hu
    rw [g]; split
    · exact .inr ⟨p, rfl, hp⟩
    · rcases h.vals u hu with e | ⟨q, e, hk, _⟩
      · exact .inl e
      · exact .inr ⟨q, e, hk⟩
  · intro u v q hu hv e1 e2
    rw [g] at e1 e2
    split at e1 <;> split at e2
    · omega
    · exfalso; exact nop v hv (by omega)
    · exfalso; exact nop u hu (by omega)
    · exact h.uniq u v q hu hv e1 e2
  · intro q hk
    by_cases e : q = p
    · subst e; exact ⟨t, ht, by rw [g, if_pos rfl]⟩
    · obtain ⟨u, hu, eu⟩ := h.has q hk e
      exact ⟨u, hu, by rw [g, if_neg (by rintro rfl; omega)]; exact eu⟩
  · intro u q hu e x hx
    rw [g] at e ⊢
    split at e
    · have : q = p := by omega
      subst this
      subst u
      split
      · omega
      · exact hpath x hx
    · have hqp : q ≠ p := fun e1 => nop u hu (by rw [e, e1])
      rw [hsame q hqp] at hx ⊢
      split
      · omega
      · exact h.path u q hu e x hx
  · have := cnt_set ix t ((p : Int) + 1) htl
    rw [h0, if_neg (show ¬ (p : Int) + 1 = 0 by omega)] at this
    rw [show (if (0 : Int) = 0 then 0 else 1) = 0 from rfl] at this
    have := h.count
    omega

/-- The homes of a state's places. -/
def CS.hm (s : CS) (seed : Int) (q : Nat) : Nat := homeN seed s.ix.length (s.ws q)

theorem uinv (s : CS) (seed : Int) (K p z : Nat) (hN : 2 ≤ s.ix.length) (hK : K ≤ s.pl.length) : UInv s seed z (fun ix f t => UIp s.ix.length K p z (s.hm seed) ix f t) where
  len ix f t h := h.len
  lt ix f t h := ⟨h.fl, h.tl⟩
  rng ix f t h u hu := by
    rcases h.vals u hu with e | ⟨q, e, hk⟩
    · rw [e]; omega
    · rw [e]; omega
  zero ix f t h := h.z0
  move ix f t q h hq hle := UIp.move hN (fun q => homeN_lt _ _ _ (by omega)) h hq hle
  stay ix f t q h hq hle := UIp.stay hN (fun q => homeN_lt _ _ _ (by omega)) h hq hle

theorem ranged_of {s : CS} {K : Nat} {hm : Nat → Nat} (h : TOk s.ix.length K hm s.ix) (hK : K ≤ s.pl.length) (hC : s.pl.length ≤ 65536) : Ranged s := by
  refine ⟨hC, fun t ht => ?_⟩
  unfold CS.at_
  rcases h.vals t ht with e | ⟨q, e, hk⟩
  · rw [e]; omega
  · rw [e]; omega

/-- What 'letGo' leaves. -/
def LetGone (cb pB iB : Nat) (seed : Int) (sU : CS) (K p : Nat) (w w' : World) : Prop :=
  ∃ ix, TBut sU.ix.length K p (sU.hm seed) ix ∧ CAt w' cb pB iB seed { sU with ix := ix, ev := sU.ev + 1, comp := false } ∧ Turns (Own cb pB iB) w w'
theorem letgone_mk {cb pB iB : Nat} {seed : Int} {sU : CS} {K p : Nat} {w w' : World} {ix : List Int} (hB : TBut sU.ix.length K p (sU.hm seed) ix) (hA : CAt w' cb pB iB seed { sU with ix := ix }) (hT : Turns (Own cb pB iB) w w') :
    LetGone cb pB iB seed sU K p w ((w'.setCell ⟨cb, 12, none⟩ (.int .u64 (sU.ev + 1))).setCell ⟨cb, 13, none⟩ (.bool false)) :=
  ⟨ix, hB, (hA.setEv (sU.ev + 1)).setComp false, (hT.setCell _ _ (.inl (.inl rfl))).setCell _ _ (.inl (.inl rfl))⟩

set_option maxHeartbeats 400000 in
theorem letgo_any (w : World) (cb pB iB L : Nat) (seed : Int) (sU : CS) (K p : Nat) (hun : Calls Trym.prog 41 #[.pointer (some ⟨cb, 0, none⟩), .int .i32 p] w fun e w' => e = .returned (.tuple #[]) ∧ CAt w' cb pB iB seed sU ∧ Turns (Own cb pB iB) w w')
    (hN : sU.ix.length = 2 ^ L) (hL : L ≤ 16) (hC : sU.pl.length ≤ 65536) (hK : K ≤ sU.pl.length) (hKN : K < sU.ix.length) (hp : p < K) (hT : TOk sU.ix.length K (sU.hm seed) sU.ix) (hd : ∀ q, q < K → sU.ws q = sU.ws p → q = p) (hev : 0 ≤ sU.ev) (hev2 : sU.ev ≤ 100000) :
    Calls Trym.prog 37 #[.pointer (some ⟨cb, 0, none⟩), .int .i32 p] w fun e w' => e = .returned (.tuple #[]) ∧ LetGone cb pB iB seed sU K p w w' := by
  have hN2 : 2 ≤ sU.ix.length := by omega
  obtain ⟨z, hz, hz0⟩ := free_slot sU.ix (by rw [hT.count]; exact hKN)
  have HUN : Hid (Calls Trym.prog 41 #[.pointer (some ⟨cb, 0, none⟩), .int .i32 p] w fun e w' => e = .returned (.tuple #[]) ∧ CAt w' cb pB iB seed sU ∧ Turns (Own cb pB iB) w w') := hun
  have HIX : Hid (∀ w1, CAt w1 cb pB iB seed sU → Calls Trym.prog 42 #[.pointer (some ⟨cb, 0, none⟩), .int .i32 p] w1 fun e w' => e = .returned (.tuple #[]) ∧ Unindexed cb pB iB seed sU (fun ix f t => UIp sU.ix.length K p z (sU.hm seed) ix f t) w1 w') := fun w1 h1 =>
    unindex_any w1 cb pB iB L seed sU h1 hN hL hN2 (ranged_of hT hK hC) z hz hz0 p (by omega) _ (uinv sU seed K p z hN2 hK) (fun pp t hF => by
      obtain ⟨_, h2, h3⟩ := found_live hT (fun q => homeN_lt _ _ _ (by omega)) hp hd hF
      exact UIp.start hN2 hT hp hz hz0 h2 h3)
  have HDN : Hid (∀ ix f t, UIp sU.ix.length K p z (sU.hm seed) ix f t → ix.getD t 0 = 0 → TBut sU.ix.length K p (sU.hm seed) (ix.set f 0)) := fun ix f t h h0 => h.done hN2 (fun q => homeN_lt _ _ _ (by omega)) h0
  clear hun hT hN hz hz0 hd
  go_enter Trym.func37, Trym.ntmps37
  go_wp2_with fail
  refine HUN.out.mono ?_
  rintro e w1 ⟨rfl, hA1, hT1⟩
  have HT1 : Hid (Turns (Own cb pB iB) w w1) := hT1
  have HA1 : Hid (CAt w1 cb pB iB seed sU) := hA1
  clear hA1 hT1
  go_wp2_with fail
  refine (HIX.out w1 HA1.out).mono ?_
  rintro e w2 ⟨rfl, ix, f, t, hu, h0, hA2, hT2⟩
  have HB : Hid (TBut sU.ix.length K p (sU.hm seed) (ix.set f 0)) := HDN.out ix f t hu h0
  have HT2 : Hid (Turns (Own cb pB iB) w w2) := HT1.out.trans hT2 (fun _ _ h => h)
  have HA2 : Hid (CAt w2 cb pB iB seed { sU with ix := ix.set f 0 }) := hA2
  have c12 := hA2.c12
  have c13 := hA2.c13
  have f12 := hA2.fc 12
  have f13 := hA2.fc 13
  clear hu h0 hA2 hT2
  go_wp2_with fail
  go_end0
  exact ⟨rfl, letgone_mk HB.out HA2.out HT2.out⟩
end Go.Proofs.Qxb6603910aMods
