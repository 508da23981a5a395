/-
  The walk of 'place': a place never taken; the oldest let go of.
-/
import Derived.Test.Qxb6603910aModsLetGo
namespace Go.Proofs.Qxb6603910aMods
open Go.RowKit Go.Maps
set_option linter.unusedSimpArgs false
set_option linter.unusedVariables false
attribute [local go_sem ↓] Go.wp_at_zero Go.wp_at_succ

/-- Behind the stores ahead of 'link'. -/
def S3 (s : CS) (t p : Nat) (ws : Int) : CS := { s with ix := s.ix.set t ((p : Int) + 1), pl := s.pl.set p (ws, -1, -1, 0) }
theorem s3_at {w : World} {cb pB iB : Nat} {seed : Int} {s : CS} {t p : Nat} {ws : Int} (h : CAt w cb pB iB seed s) (hp : p < s.pl.length) :
    CAt (((((w.setCell ⟨iB, t, none⟩ (.int .i32 ((p : Int) + 1))).setCell ⟨pB, p * 4, none⟩ (.int .u64 ws)).setCell ⟨pB, p * 4 + 1, none⟩ (.int .i32 (-1))).setCell ⟨pB, p * 4 + 2, none⟩ (.int .i32 (-1))).setCell ⟨pB, p * 4 + 3, none⟩ (.int .i32 0)) cb pB iB seed (S3 s t p ws) := by
  have h1 := h.setI t ((p : Int) + 1)
  refine ⟨?_, ?_, ?_⟩
  · rw [Below.heap_setCell _ _ _ _ (show cb ≠ pB from h.cb_ne_p), Below.heap_setCell _ _ _ _ (show cb ≠ pB from h.cb_ne_p), Below.heap_setCell _ _ _ _ (show cb ≠ pB from h.cb_ne_p), Below.heap_setCell _ _ _ _ (show cb ≠ pB from h.cb_ne_p)]
    rw [h1.c]
    unfold ccells S3; simp
  · rw [heap_setCell_at (heap_setCell_at (heap_setCell_at (heap_setCell_at h1.p _) _) _) _]
    have := plcells_put s.pl p hp ws (-1) (-1) 0
    unfold S3
    rw [← this]
    simp
  · rw [Below.heap_setCell _ _ _ _ (show iB ≠ pB from h.p_ne_i.symm), Below.heap_setCell _ _ _ _ (show iB ≠ pB from h.p_ne_i.symm), Below.heap_setCell _ _ _ _ (show iB ≠ pB from h.p_ne_i.symm), Below.heap_setCell _ _ _ _ (show iB ≠ pB from h.p_ne_i.symm)]
    rw [h1.i]
    rfl
theorem s3_turns {F : Nat → Prop} {w w1 : World} {pB iB t p : Nat} {a b c d e : Value} (h : Turns F w w1) (hp : F pB) (hi : F iB) :
    Turns F w (((((w1.setCell ⟨iB, t, none⟩ a).setCell ⟨pB, p * 4, none⟩ b).setCell ⟨pB, p * 4 + 1, none⟩ c).setCell ⟨pB, p * 4 + 2, none⟩ d).setCell ⟨pB, p * 4 + 3, none⟩ e) :=
  ((((h.setCell _ _ (.inl hi)).setCell _ _ (.inl hp)).setCell _ _ (.inl hp)).setCell _ _ (.inl hp)).setCell _ _ (.inl hp)

/-- What 'place' leaves: s1: the state in which it looked for a slot; s4: the state behind 'link'. -/
def Placed (cb pB iB : Nat) (seed : Int) (s1 : CS) (ws : Int) (s4 : Nat → CS) (w w' : World) : Prop :=
  ∃ (pp : Int) (t : Nat), Found s1 (homeN seed s1.ix.length ws) ws pp t ∧ CAt w' cb pB iB seed (s4 t) ∧ Turns (Own cb pB iB) w w'

/-- 'link' at the state behind the stores. -/
def LinkOk (cb pB iB : Nat) (seed : Int) (s1 : CS) (p : Nat) (ws : Int) (s4 : Nat → CS) : Prop :=
  ∀ t w3, CAt w3 cb pB iB seed (S3 s1 t p ws) → Calls Trym.prog 38 #[.pointer (some ⟨cb, 0, none⟩), .int .i32 p] w3 fun e w' => e = .returned (.tuple #[]) ∧ CAt w' cb pB iB seed (s4 t) ∧ Turns (Own cb pB iB) w3 w'

set_option maxHeartbeats 1000000 in
set_option maxRecDepth 100000 in
theorem place_new (w : World) (cb pB iB L : Nat) (ws seed : Int) (s : CS) (h : CAt w cb pB iB seed s) (p : Nat) (htk : s.taken = (p : Int)) (hp : p < s.pl.length) (hN : s.ix.length = 2 ^ L) (hL : L ≤ 16) (hr : Ranged s) (z : Nat) (hz : z < s.ix.length) (hz0 : s.at_ z = 0)
    (s4 : Nat → CS) (hl : LinkOk cb pB iB seed { s with taken := (p : Int) + 1 } p ws s4) :
    Calls Trym.prog 34 #[.pointer (some ⟨cb, 0, none⟩), .int .u64 ws] w fun e w' => e = .returned (.int .i32 p) ∧ Placed cb pB iB seed { s with taken := (p : Int) + 1 } ws s4 w w' := by
  have hC : s.pl.length ≤ 65536 := hr.1
  have h1 := h.c1
  have h8 := h.c8
  rw [htk] at h8
  have h11 := h.c11
  have f8 := h.fc 8
  have i1 : (p : Int) < (s.pl.length : Int) := by omega
  have HF : Hid (∀ w1, CAt w1 cb pB iB seed { s with taken := (p : Int) + 1 } → Calls Trym.prog 33 #[.pointer (some ⟨cb, 0, none⟩), .int .u64 ws] w1 fun e w' => FoundAt { s with taken := (p : Int) + 1 } (homeN seed s.ix.length ws) ws e ∧ w' = w1) := fun w1 hw1 =>
    find_any w1 cb pB iB L ws seed { s with taken := (p : Int) + 1 } hw1 hN hL hr z hz hz0
  have HL : Hid (LinkOk cb pB iB seed { s with taken := (p : Int) + 1 } p ws s4) := hl
  have HH : Hid (CAt w cb pB iB seed s) := h
  have hle : s.ix.length ≤ 65536 := by rw [hN]; exact Nat.pow_le_pow_right (by decide) hL
  have HTL : Hid (∀ pp t, Found { s with taken := (p : Int) + 1 } (homeN seed s.ix.length ws) ws pp t → t < s.ix.length) := by
    rintro pp t ⟨d, hd, rfl, _⟩
    exact cyc_lt (show 0 < s.ix.length by omega)
  clear h hl htk hN hr hz0
  go_enter Trym.func34, Trym.ntmps34
  go_wp2_with fail
  go_quiet (fail)
  go_wp2_with fail
  have HA1 : Hid (CAt ((w.drewN nq).setCell ⟨cb, 8, none⟩ (.int .i32 ((p : Int) + 1))) cb pB iB seed { s with taken := (p : Int) + 1 }) := (HH.out.drewN nq).setTaken ((p : Int) + 1)
  have HT1 : Hid (Turns (Own cb pB iB) w ((w.drewN nq).setCell ⟨cb, 8, none⟩ (.int .i32 ((p : Int) + 1)))) := ((Turns.refl _ w).drewN nq).setCell _ _ (.inl (.inl rfl))
  generalize (w.drewN nq).setCell ⟨cb, 8, none⟩ (.int .i32 ((p : Int) + 1)) = w1 at *
  refine (HF.out w1 HA1.out).mono ?_
  rintro e w' ⟨⟨pp, t, rfl, hfd⟩, hw'⟩
  obtain rfl : w1 = w' := hw'.symm
  have HFD : Hid (Found { s with taken := (p : Int) + 1 } (homeN seed s.ix.length ws) ws pp t) := hfd
  have ht := HTL.out pp t hfd
  clear hfd h1 h8 h11 f8
  have h1 := HA1.out.c1
  have h4 := HA1.out.c4
  have ct := HA1.out.ix (show t < ({ s with taken := (p : Int) + 1 } : CS).ix.length from ht)
  have ft := HA1.out.fi t
  obtain ⟨p0, p1, p2, p3⟩ := HA1.out.place (q := p) (e := s.pl[p]) (List.getElem?_eq_getElem hp)
  have g0 := HA1.out.fp (p * 4)
  have g1 := HA1.out.fp (p * 4 + 1)
  have g2 := HA1.out.fp (p * 4 + 2)
  have g3 := HA1.out.fp (p * 4 + 3)
  have hne := HA1.out.cb_ne_i
  have hne2 := HA1.out.p_ne_i
  go_wp2_with fail
  have HA3 : Hid (CAt (((((w1.setCell ⟨iB, t, none⟩ (.int .i32 ((p : Int) + 1))).setCell ⟨pB, p * 4, none⟩ (.int .u64 ws)).setCell ⟨pB, p * 4 + 1, none⟩ (.int .i32 (-1))).setCell ⟨pB, p * 4 + 2, none⟩ (.int .i32 (-1))).setCell ⟨pB, p * 4 + 3, none⟩ (.int .i32 0)) cb pB iB seed (S3 { s with taken := (p : Int) + 1 } t p ws)) := s3_at HA1.out hp
  have HT3 : Hid (Turns (Own cb pB iB) w (((((w1.setCell ⟨iB, t, none⟩ (.int .i32 ((p : Int) + 1))).setCell ⟨pB, p * 4, none⟩ (.int .u64 ws)).setCell ⟨pB, p * 4 + 1, none⟩ (.int .i32 (-1))).setCell ⟨pB, p * 4 + 2, none⟩ (.int .i32 (-1))).setCell ⟨pB, p * 4 + 3, none⟩ (.int .i32 0))) := s3_turns HT1.out (.inr (.inl rfl)) (.inr (.inr rfl))
  generalize ((((w1.setCell ⟨iB, t, none⟩ (.int .i32 ((p : Int) + 1))).setCell ⟨pB, p * 4, none⟩ (.int .u64 ws)).setCell ⟨pB, p * 4 + 1, none⟩ (.int .i32 (-1))).setCell ⟨pB, p * 4 + 2, none⟩ (.int .i32 (-1))).setCell ⟨pB, p * 4 + 3, none⟩ (.int .i32 0) = w3 at *
  refine (HL.out t w3 HA3.out).mono ?_
  rintro e w4 ⟨rfl, hA4, hT4⟩
  have HP : Hid (Placed cb pB iB seed { s with taken := (p : Int) + 1 } ws s4 w w4) := ⟨pp, t, HFD.out, hA4, HT3.out.trans hT4 (fun _ _ h => h)⟩
  clear hA4 hT4
  go_wp2_with fail
  go_ret
  exact ⟨rfl, HP.out⟩
/-- The state behind 'letGo'. -/
def SL (sU : CS) (ix : List Int) : CS := { sU with ix := ix, ev := sU.ev + 1, comp := false }
def PlacedOld (cb pB iB : Nat) (seed : Int) (sU : CS) (K p : Nat) (ws : Int) (s4 : List Int → Nat → CS) (w w' : World) : Prop :=
  ∃ (ix : List Int), TBut sU.ix.length K p (sU.hm seed) ix ∧ Placed cb pB iB seed (SL sU ix) ws (s4 ix) w w'

set_option maxHeartbeats 1000000 in
set_option maxRecDepth 100000 in
theorem place_old (w : World) (cb pB iB L : Nat) (ws seed : Int) (s sU : CS) (h : CAt w cb pB iB seed s) (p K : Nat) (htk : s.taken = (s.pl.length : Int)) (hod : s.oldest = (p : Int)) (hp : p < sU.pl.length) (hUl : sU.pl.length = s.pl.length) (hC : s.pl.length ≤ 65536) (hK : K ≤ sU.pl.length) (hKN : K ≤ sU.ix.length) (hN : sU.ix.length = 2 ^ L) (hL : L ≤ 16)
    (hg : ∀ w0, CAt w0 cb pB iB seed s → Calls Trym.prog 37 #[.pointer (some ⟨cb, 0, none⟩), .int .i32 p] w0 fun e w' => e = .returned (.tuple #[]) ∧ LetGone cb pB iB seed sU K p w0 w') (s4 : List Int → Nat → CS) (hl : ∀ ix, LinkOk cb pB iB seed (SL sU ix) p ws (s4 ix)) :
    Calls Trym.prog 34 #[.pointer (some ⟨cb, 0, none⟩), .int .u64 ws] w fun e w' => e = .returned (.int .i32 p) ∧ PlacedOld cb pB iB seed sU K p ws s4 w w' := by
  have h1 := h.c1
  have h8 := h.c8
  rw [htk] at h8
  have h10 := h.c10
  rw [hod] at h10
  have h11 := h.c11
  have HF : Hid (∀ ix w1, TBut sU.ix.length K p (sU.hm seed) ix → CAt w1 cb pB iB seed (SL sU ix) → Calls Trym.prog 33 #[.pointer (some ⟨cb, 0, none⟩), .int .u64 ws] w1 fun e w' => FoundAt (SL sU ix) (homeN seed ix.length ws) ws e ∧ w' = w1) := fun ix w1 hB hw1 => by
    obtain ⟨z, hz, hz0⟩ := free_slot ix (by have := hB.count; have := hB.len; omega)
    refine find_any w1 cb pB iB L ws seed (SL sU ix) hw1 (by show ix.length = _; rw [hB.len]; exact hN) hL ⟨by show sU.pl.length ≤ _; omega, fun t ht => ?_⟩ z hz hz0
    have ht' : t < sU.ix.length := by rw [← hB.len]; exact ht
    show 0 ≤ ix.getD t 0 ∧ ix.getD t 0 ≤ sU.pl.length
    rcases hB.vals t ht' with e | ⟨q, e, hk, _⟩
    · rw [e]; omega
    · rw [e]; omega
  have HL : Hid (∀ ix, LinkOk cb pB iB seed (SL sU ix) p ws (s4 ix)) := hl
  have HGD : Hid (∀ n, Calls Trym.prog 37 #[.pointer (some ⟨cb, 0, none⟩), .int .i32 p] (w.drewN n) fun e w' => e = .returned (.tuple #[]) ∧ LetGone cb pB iB seed sU K p w w') := fun n => by
    refine (hg (w.drewN n) (h.drewN n)).mono ?_
    rintro e w' ⟨he, ix, hB, hA, hT⟩
    exact ⟨he, ix, hB, hA, ((Turns.refl _ w).drewN n).trans hT (fun _ _ h => h)⟩
  have hle : sU.ix.length ≤ 65536 := by rw [hN]; exact Nat.pow_le_pow_right (by decide) hL
  have hpos : 1 ≤ sU.ix.length := by rw [hN]; exact Nat.two_pow_pos L
  have HTL : Hid (∀ ix pp t, ix.length = sU.ix.length → Found (SL sU ix) (homeN seed ix.length ws) ws pp t → t < ix.length) := by
    rintro ix pp t hlen ⟨d, hd, rfl, _⟩
    exact cyc_lt (show 0 < ix.length by omega)
  have HUL : Hid (sU.pl.length = s.pl.length) := hUl
  clear h hl htk hN hod hg hUl
  go_enter Trym.func34, Trym.ntmps34
  go_wp2_with fail
  go_quiet (fail)
  go_wp2_with fail
  refine (HGD.out nq).mono ?_
  rintro e w1 ⟨rfl, ix, hB, hA1, hT1⟩
  have HB : Hid (TBut sU.ix.length K p (sU.hm seed) ix) := hB
  have HA1 : Hid (CAt w1 cb pB iB seed (SL sU ix)) := hA1
  have HT1 : Hid (Turns (Own cb pB iB) w w1) := hT1
  have hixl : ix.length ≤ 65536 := by rw [hB.len]; exact hle
  have HIL : Hid (ix.length = sU.ix.length) := hB.len
  clear hB hA1 hT1
  go_wp2_with fail
  refine (HF.out ix w1 HB.out HA1.out).mono ?_
  rintro e w' ⟨⟨pp, t, rfl, hfd⟩, hw'⟩
  obtain rfl : w1 = w' := hw'.symm
  have HFD : Hid (Found (SL sU ix) (homeN seed ix.length ws) ws pp t) := hfd
  have ht := HTL.out ix pp t HIL.out hfd
  clear hfd h1 h8 h10 h11
  have h1 : w1.cell? ⟨cb, 1, none⟩ = some (.slice (some ⟨pB, 0, none⟩) sU.pl.length sU.pl.length) := HA1.out.c1
  have h4 : w1.cell? ⟨cb, 4, none⟩ = some (.slice (some ⟨iB, 0, none⟩) ix.length ix.length) := HA1.out.c4
  have ct : w1.cell? ⟨iB, t, none⟩ = some (.int .i32 (ix.getD t 0)) := HA1.out.ix (show t < (SL sU ix).ix.length from ht)
  have ft := HA1.out.fi t
  have hpC : sU.pl.length ≤ 65536 := by rw [HUL.out]; exact hC
  obtain ⟨p0, p1, p2, p3⟩ := HA1.out.place (q := p) (e := sU.pl[p]) (List.getElem?_eq_getElem hp)
  have g0 := HA1.out.fp (p * 4)
  have g1 := HA1.out.fp (p * 4 + 1)
  have g2 := HA1.out.fp (p * 4 + 2)
  have g3 := HA1.out.fp (p * 4 + 3)
  have hne := HA1.out.cb_ne_i
  have hne2 := HA1.out.p_ne_i
  go_wp2_with fail
  have HA3 : Hid (CAt (((((w1.setCell ⟨iB, t, none⟩ (.int .i32 ((p : Int) + 1))).setCell ⟨pB, p * 4, none⟩ (.int .u64 ws)).setCell ⟨pB, p * 4 + 1, none⟩ (.int .i32 (-1))).setCell ⟨pB, p * 4 + 2, none⟩ (.int .i32 (-1))).setCell ⟨pB, p * 4 + 3, none⟩ (.int .i32 0)) cb pB iB seed (S3 (SL sU ix) t p ws)) := s3_at HA1.out hp
  have HT3 : Hid (Turns (Own cb pB iB) w (((((w1.setCell ⟨iB, t, none⟩ (.int .i32 ((p : Int) + 1))).setCell ⟨pB, p * 4, none⟩ (.int .u64 ws)).setCell ⟨pB, p * 4 + 1, none⟩ (.int .i32 (-1))).setCell ⟨pB, p * 4 + 2, none⟩ (.int .i32 (-1))).setCell ⟨pB, p * 4 + 3, none⟩ (.int .i32 0))) := s3_turns HT1.out (.inr (.inl rfl)) (.inr (.inr rfl))
  generalize ((((w1.setCell ⟨iB, t, none⟩ (.int .i32 ((p : Int) + 1))).setCell ⟨pB, p * 4, none⟩ (.int .u64 ws)).setCell ⟨pB, p * 4 + 1, none⟩ (.int .i32 (-1))).setCell ⟨pB, p * 4 + 2, none⟩ (.int .i32 (-1))).setCell ⟨pB, p * 4 + 3, none⟩ (.int .i32 0) = w3 at *
  refine (HL.out ix t w3 HA3.out).mono ?_
  rintro e w4 ⟨rfl, hA4, hT4⟩
  have HP : Hid (PlacedOld cb pB iB seed sU K p ws s4 w w4) := ⟨ix, HB.out, pp, t, HFD.out, hA4, HT3.out.trans hT4 (fun _ _ h => h)⟩
  clear hA4 hT4
  go_wp2_with fail
  go_ret
  exact ⟨rfl, HP.out⟩
end Go.Proofs.Qxb6603910aMods
