/-
  The walk of 'unindex', over an invariant that is a letter.
-/
import Derived.Test.Qxb6603910aModsLink
namespace Go.Proofs.Qxb6603910aMods
open Go.RowKit Go.Maps
set_option linter.unusedSimpArgs false
set_option linter.unusedVariables false
attribute [local go_sem ↓] Go.wp_at_zero Go.wp_at_succ

theorem sub_mask {N a b : Nat} (hm : ∀ n : Int, bits .and .i64 n ((N : Int) - 1) = n % (N : Int)) (ha : a < N) : bits .and .i64 ((b : Int) - (a : Int)) ((N : Int) - 1) = (far N a b : Nat) := by
  rw [hm]; unfold far
  rw [Int.natCast_emod, show ((b + N - a : Nat) : Int) = (b : Int) - (a : Int) + (N : Int) by omega]
  simp
theorem add_mask {N t : Nat} (hm : ∀ n : Int, bits .and .i64 n ((N : Int) - 1) = n % (N : Int)) : bits .and .i64 ((t : Int) + 1) ((N : Int) - 1) = (cyc N t 1 : Nat) := by
  rw [hm]; unfold cyc
  rw [Int.natCast_emod]
  rfl
theorem far_step {N t z : Nat} (hN : 2 ≤ N) (ht : t < N) (hz : z < N) (hne : t ≠ z) : far N (cyc N t 1) z + 1 = far N t z := by
  unfold far cyc
  rw [mod_once (x := t + 1) (by omega), mod_once (x := z + N - t) (by omega)]
  split
  · rw [mod_once (by omega)]; split <;> split <;> omega
  · rw [mod_once (by omega)]; split <;> split <;> omega

/-- What the walk asks of the invariant. -/
structure UInv (s : CS) (seed : Int) (z : Nat) (UI : List Int → Nat → Nat → Prop) : Prop where
  len : ∀ ix f t, UI ix f t → ix.length = s.ix.length
  lt : ∀ ix f t, UI ix f t → f < s.ix.length ∧ t < s.ix.length
  rng : ∀ ix f t, UI ix f t → ∀ u, u < s.ix.length → 0 ≤ ix.getD u 0 ∧ ix.getD u 0 ≤ s.pl.length
  zero : ∀ ix f t, UI ix f t → ix.getD z 0 = 0
  move : ∀ ix f t (q : Nat), UI ix f t → ix.getD t 0 = (q : Int) + 1 → far s.ix.length f t ≤ far s.ix.length (homeN seed s.ix.length (s.ws q)) t → UI (ix.set f ((q : Int) + 1)) t (cyc s.ix.length t 1)
  stay : ∀ ix f t (q : Nat), UI ix f t → ix.getD t 0 = (q : Int) + 1 → ¬ far s.ix.length f t ≤ far s.ix.length (homeN seed s.ix.length (s.ws q)) t → UI ix f (cyc s.ix.length t 1)

/-- What 'unindex' leaves. -/
def Unindexed (cb pB iB : Nat) (seed : Int) (s : CS) (UI : List Int → Nat → Nat → Prop) (w w' : World) : Prop :=
  ∃ ix f t, UI ix f t ∧ ix.getD t 0 = 0 ∧ CAt w' cb pB iB seed { s with ix := ix.set f 0 } ∧ Turns (Own cb pB iB) w w'

theorem measure_down {N t z : Nat} (hN : 2 ≤ N) (ht : t < N) (hz : z < N) (hne : t ≠ z) : far N (intOf (.int .i64 (cyc N t 1 : Nat))).toNat z < far N (intOf (.int .i64 (t : Nat))).toNat z := by
  simp only [intOf, Int.toNat_natCast]
  have := far_step hN ht hz hne
  omega

theorem unindexed_mk {cb pB iB : Nat} {seed : Int} {s : CS} {UI : List Int → Nat → Nat → Prop} {w wr : World} {ix : List Int} {f t : Nat} (hu : UI ix f t) (h0 : ix.getD t 0 = 0) (hA : CAt wr cb pB iB seed { s with ix := ix }) (hT : Turns (Own cb pB iB) w wr) :
    Unindexed cb pB iB seed s UI w (wr.setCell ⟨iB, f, none⟩ (.int .i32 0)) :=
  ⟨ix, f, t, hu, h0, hA.setI f 0, hT.setCell _ _ (.inl (.inr (.inr rfl)))⟩
theorem moved {cb pB iB : Nat} {seed : Int} {s : CS} {w wr : World} {ix : List Int} {f : Nat} {v : Int} (hA : CAt wr cb pB iB seed { s with ix := ix }) (hT : Turns (Own cb pB iB) w wr) (d : Nat) :
    CAt ((wr.drewN d).setCell ⟨iB, f, none⟩ (.int .i32 v)) cb pB iB seed { s with ix := ix.set f v } ∧ Turns (Own cb pB iB) w ((wr.drewN d).setCell ⟨iB, f, none⟩ (.int .i32 v)) :=
  ⟨(hA.drewN d).setI f v, (hT.drewN d).setCell _ _ (.inl (.inr (.inr rfl)))⟩

set_option maxHeartbeats 1000000 in
set_option maxRecDepth 100000 in
theorem unindex_any (w : World) (cb pB iB L : Nat) (seed : Int) (s : CS) (h : CAt w cb pB iB seed s) (hN : s.ix.length = 2 ^ L) (hL : L ≤ 16) (hN2 : 2 ≤ s.ix.length) (hr : Ranged s) (z : Nat) (hz : z < s.ix.length) (hz0 : s.at_ z = 0) (p : Nat) (hp : p < s.pl.length)
    (UI : List Int → Nat → Nat → Prop) (hI : UInv s seed z UI) (hstart : ∀ pp t, Found s (homeN seed s.ix.length (s.ws p)) (s.ws p) pp t → UI s.ix t (cyc s.ix.length t 1)) :
    Calls Trym.prog 42 #[.pointer (some ⟨cb, 0, none⟩), .int .i32 p] w fun e w' => e = .returned (.tuple #[]) ∧ Unindexed cb pB iB seed s UI w w' := by
  have HM : Hid (∀ n : Int, bits .and .i64 n ((s.ix.length : Int) - 1) = n % (s.ix.length : Int)) := fun n => i64_mask n s.ix.length L hN hL
  have HF : Hid (Calls Trym.prog 33 #[.pointer (some ⟨cb, 0, none⟩), .int .u64 (s.ws p)] w fun e w' => FoundAt s (homeN seed s.ix.length (s.ws p)) (s.ws p) e ∧ w' = w) := find_any w cb pB iB L (s.ws p) seed s h hN hL hr z hz hz0
  have HI : Hid (UInv s seed z UI) := hI
  have HST : Hid (∀ pp t, Found s (homeN seed s.ix.length (s.ws p)) (s.ws p) pp t → UI s.ix t (cyc s.ix.length t 1)) := hstart
  have hle : s.ix.length ≤ 65536 := by rw [hN]; exact Nat.pow_le_pow_right (by decide) hL
  have hC : s.pl.length ≤ 65536 := hr.1
  have h1 := h.c1
  have h4 := h.c4
  have hw := h.wsid hp
  have i0 : (0 : Int) ≤ (p : Int) := by omega
  have i1 : (p : Int) < (s.pl.length : Int) := by omega
  have HH : Hid (CAt w cb pB iB seed s) := h
  have HN : Hid (s.ix.length = 2 ^ L) := hN
  have HZ : Hid (s.at_ z = 0) := hz0
  clear h hN hI hstart hr hz0
  go_enter Trym.func42, Trym.ntmps42
  go_wp2_with fail
  refine HF.out.mono ?_
  rintro e w' ⟨⟨pp, f0, rfl, hfd⟩, hw'⟩
  obtain rfl : w = w' := hw'.symm
  have HU : Hid (UI s.ix f0 (cyc s.ix.length f0 1)) := HST.out pp f0 hfd
  have hf0 := (HI.out.lt _ _ _ HU.out).1
  clear hfd
  have HNX : Hid (bits .and .i64 ((f0 : Int) + 1) ((s.ix.length : Int) - 1) = (cyc s.ix.length f0 1 : Nat)) := add_mask HM.out
  go_wp2_with fail
  rw [HNX.out]
  go_loopw [6, 7] (fun a b wr => ∃ (ix : List Int) (f t : Nat), a = .int .i64 f ∧ b = .int .i64 t ∧ UI ix f t ∧ CAt wr cb pB iB seed { s with ix := ix } ∧ Turns (Own cb pB iB) w wr) (fun _ b _ => far s.ix.length (intOf b).toNat z)
  case atStart => exact ⟨s.ix, f0, _, rfl, rfl, HU.out, HH.out, Turns.refl _ _⟩
  case round =>
    obtain ⟨ix, f, t, rfl, rfl, hu, hA, hT⟩ := hrel
    have HU2 : Hid (UI ix f t) := hu
    have hft := HI.out.lt _ _ _ hu
    have hf := hft.1
    have ht := hft.2
    have HL2 : Hid (ix.length = s.ix.length) := HI.out.len _ _ _ hu
    have hrt := HI.out.rng _ _ _ hu t ht
    have HZ2 : Hid (ix.getD z 0 = 0) := HI.out.zero _ _ _ hu
    have c1 := hA.c1
    have c4 : wr.cell? ⟨cb, 4, none⟩ = some (.slice (some ⟨iB, 0, none⟩) s.ix.length s.ix.length) := by have := hA.c4; rw [show ({ s with ix := ix } : CS).ix.length = s.ix.length from HL2.out] at this; exact this
    have ct : wr.cell? ⟨iB, t, none⟩ = some (.int .i32 (ix.getD t 0)) := hA.ix (show t < ix.length by rw [HL2.out]; exact ht)
    have cf : wr.cell? ⟨iB, f, none⟩ = some (.int .i32 (ix.getD f 0)) := hA.ix (show f < ix.length by rw [HL2.out]; exact hf)
    have ff := hA.fi f
    have HA : Hid (CAt wr cb pB iB seed { s with ix := ix }) := hA
    have HT : Hid (Turns (Own cb pB iB) w wr) := hT
    clear hu hft hA hT
    by_cases h0 : ix.getD t 0 = 0
    · have H0 : Hid (ix.getD t 0 = 0) := h0
      rw [h0] at ct
      clear h0 hrt
      go_wp2
      go_end0
      exact ⟨rfl, unindexed_mk HU2.out H0.out HA.out HT.out⟩
    · obtain ⟨q, hq⟩ : ∃ q : Nat, ix.getD t 0 = (q : Int) + 1 := ⟨(ix.getD t 0 - 1).toNat, by omega⟩
      have HQ : Hid (ix.getD t 0 = (q : Int) + 1) := hq
      rw [hq] at ct hrt
      have hqC : q < s.pl.length := by omega
      have cq : wr.cell? ⟨pB, q * 4, none⟩ = some (.int .u64 (s.ws q)) := HA.out.wsid hqC
      have hne : (((q : Int) + 1) != 0) = true := by rw [bne_iff_ne]; omega
      have HTZ : Hid (t ≠ z) := fun e => h0 (by rw [e]; exact HZ2.out)
      clear h0 hq
      have HHO : Hid (∀ n, Calls Trym.prog 36 #[.pointer (some ⟨cb, 0, none⟩), .int .u64 (s.ws q)] (wr.drewN n) fun e w' => e = .returned (.int .i64 (homeN seed s.ix.length (s.ws q))) ∧ w' = wr.drewN n) := fun n => by
        have := home_any (wr.drewN n) cb pB iB L (s.ws q) seed { s with ix := ix } (HA.out.drewN n) (by show ix.length = 2 ^ L; rw [HL2.out]; exact HN.out) hL
        rw [show ({ s with ix := ix } : CS).ix.length = s.ix.length from HL2.out] at this
        exact this
      have hhl := homeN_lt seed s.ix.length (s.ws q) (show 0 < s.ix.length by omega)
      have HMV : Hid (far s.ix.length f t ≤ far s.ix.length (homeN seed s.ix.length (s.ws q)) t → UI (ix.set f ((q : Int) + 1)) t (cyc s.ix.length t 1)) := HI.out.move ix f t q HU2.out HQ.out
      have HSY : Hid (¬ far s.ix.length f t ≤ far s.ix.length (homeN seed s.ix.length (s.ws q)) t → UI ix f (cyc s.ix.length t 1)) := HI.out.stay ix f t q HU2.out HQ.out
      have HD1 : Hid (bits .and .i64 ((t : Int) - (homeN seed s.ix.length (s.ws q) : Int)) ((s.ix.length : Int) - 1) = (far s.ix.length (homeN seed s.ix.length (s.ws q)) t : Nat)) := sub_mask HM.out hhl
      have hd2 : bits .and .i64 ((t : Int) - (f : Int)) ((s.ix.length : Int) - 1) = (far s.ix.length f t : Nat) := sub_mask HM.out hf
      have hd1 := HD1.out
      have hnx : bits .and .i64 ((t : Int) + 1) ((s.ix.length : Int) - 1) = (cyc s.ix.length t 1 : Nat) := add_mask HM.out
      have HMD : Hid (far s.ix.length (intOf (.int .i64 (cyc s.ix.length t 1 : Nat))).toNat z < far s.ix.length (intOf (.int .i64 (t : Nat))).toNat z) := measure_down hN2 ht hz HTZ.out
      clear HD1
      generalize homeN seed s.ix.length (s.ws q) = hh at *
      generalize far s.ix.length hh t = d1 at *
      generalize far s.ix.length f t = d2 at *
      generalize cyc s.ix.length t 1 = t2 at *
      by_cases hdd : d2 ≤ d1
      · have hdd' : (d2 : Int) ≤ (d1 : Int) := by omega
        go_wp2_with fail
        go_quiet ((go_at_call 36; go_must (refine (HHO.out _).mono ?_; rintro e w' ⟨he, hw⟩; exact ⟨he, _, hw⟩)))
        go_wp2_with fail
        go_region
        go_wp2_with fail
        go_roundw
        case rel =>
          exact ⟨ix.set f ((q : Int) + 1), t, t2, rfl, rfl, HMV.out hdd, (moved HA.out HT.out _).1, (moved HA.out HT.out _).2⟩
        case measure => exact HMD.out
      · have hdd' : ¬ (d2 : Int) ≤ (d1 : Int) := by omega
        go_wp2_with fail
        go_quiet ((go_at_call 36; go_must (refine (HHO.out _).mono ?_; rintro e w' ⟨he, hw⟩; exact ⟨he, _, hw⟩)))
        go_wp2_with fail
        go_roundw
        case rel => exact ⟨ix, f, t2, rfl, rfl, HSY.out hdd, HA.out.drewN _, HT.out.drewN _⟩
        case measure => exact HMD.out
end Go.Proofs.Qxb6603910aMods
