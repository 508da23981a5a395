/-
  The walk of 'find'.
-/
import Derived.Test.Qxb6603910aModsBase
namespace Go.Proofs.Qxb6603910aMods
open Go.RowKit Go.Maps
set_option linter.unusedSimpArgs false
set_option linter.unusedVariables false
attribute [local go_sem ↓] Go.wp_at_zero Go.wp_at_succ

/-- Slot d behind h, round about. -/
def cyc (N h d : Nat) : Nat := (h + d) % N
theorem cyc_lt {N h d : Nat} (hN : 0 < N) : cyc N h d < N := Nat.mod_lt _ hN
theorem cyc_zero {N h : Nat} (h1 : h < N) : cyc N h 0 = h := Nat.mod_eq_of_lt h1
theorem cyc_succ {N h d : Nat} (hN : 0 < N) : (cyc N h d + 1) % N = cyc N h (d + 1) := by unfold cyc; rw [Nat.mod_add_mod]; rfl
theorem mod_once {N x : Nat} (h : x < 2 * N) : x % N = if x < N then x else x - N := by
  split
  · exact Nat.mod_eq_of_lt ‹_›
  · rw [Nat.mod_eq_sub_mod (by omega), Nat.mod_eq_of_lt (by omega)]
/-- The distance from a to b, upward and round about. -/
def far (N a b : Nat) : Nat := (b + N - a) % N
theorem far_cyc {N h d : Nat} (hh : h < N) (hd : d < N) : far N h (cyc N h d) = d := by
  unfold far cyc
  rw [mod_once (x := h + d) (by omega)]
  split
  · rw [mod_once (by omega)]; split <;> omega
  · rw [mod_once (by omega)]; split <;> omega
theorem cyc_far {N a b : Nat} (ha : a < N) (hb : b < N) : cyc N a (far N a b) = b := by
  unfold far cyc
  rw [mod_once (x := b + N - a) (by omega)]
  split
  · rw [mod_once (by omega)]; split <;> omega
  · rw [mod_once (by omega)]; split <;> omega
theorem far_lt {N a b : Nat} (hN : 0 < N) : far N a b < N := Nat.mod_lt _ hN

/-- What the index holds is a place or nothing. -/
def Ranged (s : CS) : Prop := s.pl.length ≤ 65536 ∧ ∀ t, t < s.ix.length → 0 ≤ s.at_ t ∧ s.at_ t ≤ s.pl.length
/-- Slot t is taken by another workspace than ws. -/
def Other (s : CS) (ws : Int) (t : Nat) : Prop := s.at_ t ≠ 0 ∧ s.ws (s.at_ t - 1).toNat ≠ ws
/-- What 'find' answers. -/
def Found (s : CS) (h : Nat) (ws : Int) (p : Int) (t : Nat) : Prop :=
  ∃ d, d < s.ix.length ∧ t = cyc s.ix.length h d ∧ (∀ e, e < d → Other s ws (cyc s.ix.length h e)) ∧
    ((s.at_ t = 0 ∧ p = -1) ∨ (s.at_ t ≠ 0 ∧ s.ws (s.at_ t - 1).toNat = ws ∧ p = s.at_ t - 1))
def FoundAt (s : CS) (h : Nat) (ws : Int) (e : Ending) : Prop := ∃ (p : Int) (t : Nat), e = .returned (.tuple #[.int .i32 p, .int .i64 t]) ∧ Found s h ws p t

theorem found_zero {s : CS} {h : Nat} {ws : Int} {d t D : Nat} (hd : d ≤ D) (hD : D < s.ix.length) (ht : t = cyc s.ix.length h d) (hno : ∀ e, e < d → Other s ws (cyc s.ix.length h e)) (h0 : s.at_ t = 0) : Found s h ws (-1) t :=
  ⟨d, by omega, ht, hno, .inl ⟨h0, rfl⟩⟩
theorem found_hit {s : CS} {h : Nat} {ws : Int} {d t D q : Nat} (hd : d ≤ D) (hD : D < s.ix.length) (ht : t = cyc s.ix.length h d) (hno : ∀ e, e < d → Other s ws (cyc s.ix.length h e)) (hq : s.at_ t = (q : Int) + 1) (hw : s.ws q = ws) : Found s h ws q t := by
  refine ⟨d, by omega, ht, hno, .inr ⟨by rw [hq]; omega, ?_, by rw [hq]; omega⟩⟩
  rw [hq, show ((q : Int) + 1 - 1).toNat = q by omega]
  exact hw
theorem other_next {s : CS} {h : Nat} {ws : Int} {d t q : Nat} (ht : t = cyc s.ix.length h d) (hno : ∀ e, e < d → Other s ws (cyc s.ix.length h e)) (hq : s.at_ t = (q : Int) + 1) (hw : s.ws q ≠ ws) : ∀ e, e < d + 1 → Other s ws (cyc s.ix.length h e) := by
  intro e he
  by_cases hed : e = d
  · subst hed
    rw [← ht]
    refine ⟨by rw [hq]; omega, ?_⟩
    rw [hq, show ((q : Int) + 1 - 1).toNat = q by omega]
    exact hw
  · exact hno e (by omega)
theorem next_slot {N h d t : Nat} (hm : ∀ n : Int, bits .and .i64 n ((N : Int) - 1) = n % (N : Int)) (hs : (t + 1) % N = cyc N h (d + 1)) : bits .and .i64 ((t : Int) + 1) ((N : Int) - 1) = (cyc N h (d + 1) : Nat) := by
  have e : (t : Int) + 1 = ((t + 1 : Nat) : Int) := by omega
  rw [hm, e, ← hs, Int.natCast_emod]
theorem less_left {N h d t D : Nat} (hf : far N h t = d ∧ far N h (cyc N h (d + 1)) = d + 1 ∨ D ≤ d) (hd : d < D) : D - far N h (intOf (.int .i64 (cyc N h (d + 1) : Nat))).toNat < D - far N h (intOf (.int .i64 (t : Nat))).toNat := by
  simp only [intOf, Int.toNat_natCast]
  rcases hf with ⟨f1, f2⟩ | hge
  · rw [f1, f2]; omega
  · omega

set_option maxHeartbeats 400000 in
theorem find_any (w : World) (cb pB iB L : Nat) (ws seed : Int) (s : CS) (h : CAt w cb pB iB seed s) (hN : s.ix.length = 2 ^ L) (hL : L ≤ 16) (hr : Ranged s) (z : Nat) (hz : z < s.ix.length) (hz0 : s.at_ z = 0) :
    Calls Trym.prog 33 #[.pointer (some ⟨cb, 0, none⟩), .int .u64 ws] w fun e w' => FoundAt s (homeN seed s.ix.length ws) ws e ∧ w' = w := by
  have h1 := h.c1
  have h4 := h.c4
  have hle : s.ix.length ≤ 65536 := by rw [hN]; exact Nat.pow_le_pow_right (by decide) hL
  have hpos : 1 ≤ s.ix.length := by rw [hN]; exact Nat.two_pow_pos L
  have hho := home_any w cb pB iB L ws seed s h hN hL
  have hhl := homeN_lt seed s.ix.length ws hpos
  have HM : Hid (∀ n : Int, bits .and .i64 n ((s.ix.length : Int) - 1) = n % (s.ix.length : Int)) := fun n => i64_mask n s.ix.length L hN hL
  have HR : Hid (Ranged s) := hr
  have HC : Hid (∀ t, t < s.ix.length → w.cell? ⟨iB, t, none⟩ = some (.int .i32 (s.at_ t))) := fun t ht => h.ix ht
  have HP : Hid (∀ q, q < s.pl.length → w.cell? ⟨pB, q * 4, none⟩ = some (.int .u64 (s.ws q))) := fun q hq => h.wsid hq
  have hC : s.pl.length ≤ 65536 := hr.1
  have HHO := hho
  clear hN hr h hho
  generalize homeN seed s.ix.length ws = hm at *
  have hfz := far_lt (a := hm) (b := z) hpos
  have HZ : Hid (s.at_ (cyc s.ix.length hm (far s.ix.length hm z)) = 0) := by
    show s.at_ (cyc s.ix.length hm (far s.ix.length hm z)) = 0
    rw [cyc_far hhl hz]; exact hz0
  clear hz0 hz
  generalize far s.ix.length hm z = D at *
  have HO : Hid (Calls Trym.prog 36 #[.pointer (some ⟨cb, 0, none⟩), .int .u64 ws] w fun e w' => e = .returned (.int .i64 hm) ∧ w' = w) := HHO
  clear HHO
  go_enter Trym.func33, Trym.ntmps33
  go_wp2_with (go_at_call 36; refine HO.out.mono ?_; rintro e w' ⟨rfl, hw⟩; obtain rfl : w = w' := hw.symm)
  go_loop [7] (fun x => ∃ d : Nat, d ≤ D ∧ x = .int .i64 (cyc s.ix.length hm d : Nat) ∧ ∀ e, e < d → Other s ws (cyc s.ix.length hm e)) (fun x => D - far s.ix.length hm (intOf x).toNat)
  case atStart => exact ⟨0, Nat.zero_le _, by rw [cyc_zero hhl], fun e he => by omega⟩
  case round =>
    obtain ⟨d, hd, rfl, hno⟩ := hrel
    have HNO : Hid (∀ e, e < d → Other s ws (cyc s.ix.length hm e)) := hno
    clear hno
    have htl : cyc s.ix.length hm d < s.ix.length := cyc_lt hpos
    have HS : Hid ((cyc s.ix.length hm d + 1) % s.ix.length = cyc s.ix.length hm (d + 1)) := cyc_succ hpos
    have HF : Hid (far s.ix.length hm (cyc s.ix.length hm d) = d ∧ far s.ix.length hm (cyc s.ix.length hm (d + 1)) = d + 1 ∨ D ≤ d) := by
      by_cases hdd : d < D
      · exact .inl ⟨far_cyc hhl (by omega), far_cyc hhl (by omega)⟩
      · exact .inr (by omega)
    have HZ2 : Hid (d = D → s.at_ (cyc s.ix.length hm d) = 0) := fun e => by rw [e]; exact HZ.out
    have HT : Hid (∃ t, t = cyc s.ix.length hm d) := ⟨_, rfl⟩
    obtain ⟨t, ht⟩ := HT.out
    have HTE : Hid (t = cyc s.ix.length hm d) := ht
    rw [← ht] at htl HS HF HZ2 ⊢
    clear ht HT
    have ct := HC.out _ htl
    have hrt := HR.out.2 _ htl
    by_cases h0 : s.at_ t = 0
    · rw [h0] at ct
      have H0 : Hid (s.at_ t = 0) := h0
      clear h0
      go_wp2
      go_ret2
      exact ⟨⟨_, _, rfl, found_zero hd hfz HTE.out HNO.out H0.out⟩, rfl⟩
    · have hdD : d < D := by
        rcases Nat.lt_or_ge d D with h | h
        · exact h
        · exact absurd (HZ2.out (by omega)) h0
      obtain ⟨q, hq⟩ : ∃ q : Nat, s.at_ t = (q : Int) + 1 := ⟨(s.at_ t - 1).toNat, by omega⟩
      have HQ : Hid (s.at_ t = (q : Int) + 1) := hq
      rw [hq] at ct hrt
      have hqC : q < s.pl.length := by omega
      have cq := HP.out q hqC
      have hq0 : (((q : Int) + 1) == 0) = false := beq_eq_false_iff_ne.2 (by omega)
      clear h0 hq
      by_cases hw : s.ws q = ws
      · have hwb : (s.ws q == ws) = true := beq_iff_eq.2 hw
        have HW : Hid (s.ws q = ws) := hw
        clear hw
        go_wp2
        go_ret2
        exact ⟨⟨(q : Int), t, rfl, found_hit hd hfz HTE.out HNO.out HQ.out HW.out⟩, rfl⟩
      · have hwb : (s.ws q == ws) = false := beq_eq_false_iff_ne.2 hw
        have HW : Hid (s.ws q ≠ ws) := hw
        clear hw
        have HNX : Hid (bits .and .i64 ((t : Int) + 1) ((s.ix.length : Int) - 1) = (cyc s.ix.length hm (d + 1) : Nat)) := next_slot HM.out HS.out
        go_wp2
        go_round
        case rel => exact ⟨d + 1, hdD, congrArg (Value.int .i64) HNX.out, other_next HTE.out HNO.out HQ.out HW.out⟩
        case measure =>
          rw [HNX.out]
          exact less_left HF.out hdD
end Go.Proofs.Qxb6603910aMods
