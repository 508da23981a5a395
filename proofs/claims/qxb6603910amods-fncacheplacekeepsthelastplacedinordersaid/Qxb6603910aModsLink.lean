/-
  Stores into the cache; the walks of 'unlink' and 'link'.
-/
import Derived.Test.Qxb6603910aModsFind
namespace Go.Proofs.Qxb6603910aMods
open Go.RowKit Go.Maps
set_option linter.unusedSimpArgs false
set_option linter.unusedVariables false
attribute [local go_sem ↓] Go.wp_at_zero Go.wp_at_succ

theorem plcells_len (P : List Pl) : (plcells P).length = P.length * 4 := by
  induction P with
  | nil => rfl
  | cons p P ih => simp only [plcells, List.flatMap_cons, List.length_append, List.length_cons, List.length_nil] at *; omega
theorem plcells_set (P : List Pl) : ∀ (q : Nat) (e : Pl), P[q]? = some e → ∀ x : Int,
    (plcells P).set (q * 4 + 1) (.int .i32 x) = plcells (P.set q (e.1, x, e.2.2.1, e.2.2.2)) ∧ (plcells P).set (q * 4 + 2) (.int .i32 x) = plcells (P.set q (e.1, e.2.1, x, e.2.2.2)) := by
  induction P with
  | nil => intro q e h; simp at h
  | cons p P ih =>
    intro q e h x
    cases q with
    | zero => simp at h; subst h; simp [plcells]
    | succ q =>
      obtain ⟨h1, h2⟩ := ih q e (by simpa using h) x
      have e1 : (q + 1) * 4 + 1 = (q * 4 + 1) + 4 := by omega
      have e2 : (q + 1) * 4 + 2 = (q * 4 + 2) + 4 := by omega
      rw [e1, e2]
      simp only [plcells, List.flatMap_cons, List.cons_append, List.nil_append, List.set_cons_succ] at h1 h2 ⊢
      exact ⟨by rw [h1], by rw [h2]⟩
theorem plcells_put (P : List Pl) : ∀ (q : Nat), q < P.length → ∀ a b c d : Int,
    ((((plcells P).set (q * 4) (.int .u64 a)).set (q * 4 + 1) (.int .i32 b)).set (q * 4 + 2) (.int .i32 c)).set (q * 4 + 3) (.int .i32 d) = plcells (P.set q (a, b, c, d)) := by
  induction P with
  | nil => intro q h; simp at h
  | cons p P ih =>
    intro q h a b c d
    cases q with
    | zero => simp [plcells]
    | succ q =>
      have h1 := ih q (by simpa using h) a b c d
      have e0 : (q + 1) * 4 = (q * 4) + 4 := by omega
      have e1 : (q + 1) * 4 + 1 = (q * 4 + 1) + 4 := by omega
      have e2 : (q + 1) * 4 + 2 = (q * 4 + 2) + 4 := by omega
      have e3 : (q + 1) * 4 + 3 = (q * 4 + 3) + 4 := by omega
      rw [e1, e2, e3, e0]
      simp only [plcells, List.flatMap_cons, List.cons_append, List.nil_append, List.set_cons_succ] at h1 ⊢
      rw [h1]

section
variable {w : World} {cb pB iB : Nat} {seed : Int} {s : CS}
theorem CAt.setC (h : CAt w cb pB iB seed s) (k : Nat) (v : Value) (s' : CS) (hs : (ccells pB iB seed s).setIfInBounds k v = ccells pB iB seed s') (hp : s'.pl = s.pl) (hi : s'.ix = s.ix) : CAt (w.setCell ⟨cb, k, none⟩ v) cb pB iB seed s' := by
  refine ⟨by rw [heap_setCell_at h.c, hs], ?_, ?_⟩
  · rw [hp, Below.heap_setCell _ _ _ _ (show pB ≠ cb from h.cb_ne_p.symm)]; exact h.p
  · rw [hi, Below.heap_setCell _ _ _ _ (show iB ≠ cb from h.cb_ne_i.symm)]; exact h.i
theorem CAt.setP (h : CAt w cb pB iB seed s) (k : Nat) (v : Value) (pl' : List Pl) (hs : (plcells s.pl).set k v = plcells pl') (hl : pl'.length = s.pl.length) : CAt (w.setCell ⟨pB, k, none⟩ v) cb pB iB seed { s with pl := pl' } := by
  refine ⟨?_, ?_, ?_⟩
  · rw [Below.heap_setCell _ _ _ _ (show cb ≠ pB from h.cb_ne_p)]
    have : ccells pB iB seed { s with pl := pl' } = ccells pB iB seed s := by unfold ccells; rw [hl]
    rw [this]; exact h.c
  · rw [heap_setCell_at h.p]; simp [hs]
  · rw [Below.heap_setCell _ _ _ _ (show iB ≠ pB from h.p_ne_i.symm)]; exact h.i
theorem CAt.setI (h : CAt w cb pB iB seed s) (t : Nat) (v : Int) : CAt (w.setCell ⟨iB, t, none⟩ (.int .i32 v)) cb pB iB seed { s with ix := s.ix.set t v } := by
  refine ⟨?_, ?_, ?_⟩
  · rw [Below.heap_setCell _ _ _ _ (show cb ≠ iB from h.cb_ne_i)]
    have : ccells pB iB seed { s with ix := s.ix.set t v } = ccells pB iB seed s := by unfold ccells; simp
    rw [this]; exact h.c
  · rw [Below.heap_setCell _ _ _ _ (show pB ≠ iB from h.p_ne_i)]; exact h.p
  · rw [heap_setCell_at h.i]; simp [ixcells]
theorem CAt.drew (h : CAt w cb pB iB seed s) : CAt w.drew cb pB iB seed s := ⟨h.c, h.p, h.i⟩
theorem CAt.setP2 (h : CAt w cb pB iB seed s) {p : Nat} {e : Pl} (he : s.pl[p]? = some e) (x y : Int) : CAt ((w.setCell ⟨pB, p * 4 + 1, none⟩ (.int .i32 x)).setCell ⟨pB, p * 4 + 2, none⟩ (.int .i32 y)) cb pB iB seed { s with pl := s.pl.set p (e.1, x, y, e.2.2.2) } := by
  have hp : p < s.pl.length := (List.getElem?_eq_some_iff.1 he).1
  have h1 := h.setP (p * 4 + 1) (.int .i32 x) _ (plcells_set s.pl p e he x).1 (by simp)
  have h2 := h1.setP (p * 4 + 2) (.int .i32 y) _ (plcells_set _ p (e.1, x, e.2.2.1, e.2.2.2) (by simp [hp]) y).2 (by simp)
  simpa using h2
theorem CAt.setNewer (h : CAt w cb pB iB seed s) {q : Nat} {e : Pl} (he : s.pl[q]? = some e) (x : Int) : CAt (w.setCell ⟨pB, q * 4 + 1, none⟩ (.int .i32 x)) cb pB iB seed { s with pl := s.pl.set q (e.1, x, e.2.2.1, e.2.2.2) } :=
  h.setP (q * 4 + 1) (.int .i32 x) _ (plcells_set s.pl q e he x).1 (by simp)
theorem CAt.setTaken (h : CAt w cb pB iB seed s) (x : Int) : CAt (w.setCell ⟨cb, 8, none⟩ (.int .i32 x)) cb pB iB seed { s with taken := x } := h.setC 8 (.int .i32 x) { s with taken := x } rfl rfl rfl
theorem CAt.setNewest (h : CAt w cb pB iB seed s) (x : Int) : CAt (w.setCell ⟨cb, 9, none⟩ (.int .i32 x)) cb pB iB seed { s with newest := x } := h.setC 9 (.int .i32 x) { s with newest := x } rfl rfl rfl
theorem CAt.setOldest (h : CAt w cb pB iB seed s) (x : Int) : CAt (w.setCell ⟨cb, 10, none⟩ (.int .i32 x)) cb pB iB seed { s with oldest := x } := h.setC 10 (.int .i32 x) { s with oldest := x } rfl rfl rfl
theorem CAt.setEv (h : CAt w cb pB iB seed s) (x : Int) : CAt (w.setCell ⟨cb, 12, none⟩ (.int .u64 x)) cb pB iB seed { s with ev := x } := h.setC 12 (.int .u64 x) { s with ev := x } rfl rfl rfl
theorem CAt.setComp (h : CAt w cb pB iB seed s) (x : Bool) : CAt (w.setCell ⟨cb, 13, none⟩ (.bool x)) cb pB iB seed { s with comp := x } := h.setC 13 (.bool x) { s with comp := x } rfl rfl rfl
theorem CAt.fc (h : CAt w cb pB iB seed s) (k : Nat) : w.frozen? ⟨cb, k, none⟩ = false := frozen_at h.c
theorem CAt.fp (h : CAt w cb pB iB seed s) (k : Nat) : w.frozen? ⟨pB, k, none⟩ = false := frozen_at h.p
theorem CAt.fi (h : CAt w cb pB iB seed s) (k : Nat) : w.frozen? ⟨iB, k, none⟩ = false := frozen_at h.i
end

/-- Only the cache's own blocks have turned. -/
def Own (cb pB iB : Nat) : Nat → Prop := fun b => b = cb ∨ b = pB ∨ b = iB

set_option maxHeartbeats 400000 in
/-- 'unlink' of the only place. -/
theorem unlink_only (w : World) (cb pB iB : Nat) (seed : Int) (s : CS) (h : CAt w cb pB iB seed s) (p : Nat) (hp : p < s.pl.length) (hC : s.pl.length ≤ 65536) (a n : Int) (he : s.pl[p]? = some (a, -1, -1, n)) :
    Calls Trym.prog 41 #[.pointer (some ⟨cb, 0, none⟩), .int .i32 p] w fun e w' => e = .returned (.tuple #[]) ∧ CAt w' cb pB iB seed { s with newest := -1, oldest := -1 } ∧ Turns (Own cb pB iB) w w' := by
  have h1 := h.c1
  have h9 := h.c9
  have h10 := h.c10
  have f9 := h.fc 9
  have f10 := h.fc 10
  obtain ⟨p0, p1, p2, p3⟩ := h.place he
  have i0 : (0 : Int) ≤ (p : Int) := by omega
  have i1 : (p : Int) < (s.pl.length : Int) := by omega
  have HH : Hid (CAt w cb pB iB seed s) := h
  clear h he
  go_enter Trym.func41, Trym.ntmps41
  go_wp2
  go_quiet (fail)
  go_wp2
  go_end0
  refine ⟨rfl, ?_, ?_⟩
  · exact ((HH.out.drewN nq).setNewest (-1)).setOldest (-1)
  · exact (((Turns.refl _ w).drewN nq).setCell _ _ (.inl (.inl rfl))).setCell _ _ (.inl (.inl rfl))
set_option maxHeartbeats 400000 in
/-- 'unlink' of the oldest place, another being newer. -/
theorem unlink_oldest (w : World) (cb pB iB : Nat) (seed : Int) (s : CS) (h : CAt w cb pB iB seed s) (p q : Nat) (hp : p < s.pl.length) (hC : s.pl.length ≤ 65536) (a n : Int) (he : s.pl[p]? = some (a, (q : Int), -1, n)) (hq : q < s.pl.length) (e : Pl) (heq : s.pl[q]? = some e) :
    Calls Trym.prog 41 #[.pointer (some ⟨cb, 0, none⟩), .int .i32 p] w fun e' w' => e' = .returned (.tuple #[]) ∧ CAt w' cb pB iB seed { s with pl := s.pl.set q (e.1, e.2.1, -1, e.2.2.2), oldest := q } ∧ Turns (Own cb pB iB) w w' := by
  have h1 := h.c1
  have h9 := h.c9
  have h10 := h.c10
  have f10 := h.fc 10
  have fq := h.fp (q * 4 + 2)
  obtain ⟨p0, p1, p2, p3⟩ := h.place he
  obtain ⟨q0, q1, q2, q3⟩ := h.place heq
  have i0 : (0 : Int) ≤ (p : Int) := by omega
  have i1 : (p : Int) < (s.pl.length : Int) := by omega
  have HH : Hid (CAt w cb pB iB seed s) := h
  have HE : Hid (s.pl[q]? = some e) := heq
  have hne := h.cb_ne_p
  clear h he heq
  go_enter Trym.func41, Trym.ntmps41
  go_wp2
  go_quiet (fail)
  go_wp2
  go_end0
  refine ⟨rfl, ?_, ?_⟩
  · exact ((HH.out.drewN nq).setP (q * 4 + 2) (.int .i32 (-1)) (s.pl.set q (e.1, e.2.1, -1, e.2.2.2)) (plcells_set s.pl q e HE.out (-1)).2 (by simp)).setOldest q
  · exact (((Turns.refl _ w).drewN nq).setCell _ _ (.inl (.inr (.inl rfl)))).setCell _ _ (.inl (.inl rfl))
set_option maxHeartbeats 400000 in
/-- 'link' into an empty order. -/
theorem link_first (w : World) (cb pB iB : Nat) (seed : Int) (s : CS) (h : CAt w cb pB iB seed s) (p : Nat) (hp : p < s.pl.length) (hC : s.pl.length ≤ 65536) (e : Pl) (he : s.pl[p]? = some e) (hn : s.newest = -1) :
    Calls Trym.prog 38 #[.pointer (some ⟨cb, 0, none⟩), .int .i32 p] w fun e' w' => e' = .returned (.tuple #[]) ∧ CAt w' cb pB iB seed { s with pl := s.pl.set p (e.1, -1, -1, e.2.2.2), oldest := p, newest := p } ∧ Turns (Own cb pB iB) w w' := by
  have h1 := h.c1
  have h9 := h.c9
  rw [hn] at h9
  have h10 := h.c10
  have f9 := h.fc 9
  have f10 := h.fc 10
  have fq1 := h.fp (p * 4 + 1)
  have fq2 := h.fp (p * 4 + 2)
  obtain ⟨p0, p1, p2, p3⟩ := h.place he
  have i0 : (0 : Int) ≤ (p : Int) := by omega
  have i1 : (p : Int) < (s.pl.length : Int) := by omega
  have HH : Hid (CAt w cb pB iB seed s) := h
  have HE : Hid (s.pl[p]? = some e) := he
  have hne := h.cb_ne_p
  clear h he hn
  go_enter Trym.func38, Trym.ntmps38
  go_wp2
  go_region
  go_wp2
  go_end0
  refine ⟨rfl, ?_, ?_⟩
  · exact (((HH.out.setP2 HE.out (-1) (-1)).setOldest p).setNewest p).drew
  · exact (((((Turns.refl _ w).setCell _ _ (.inl (.inr (.inl rfl)))).setCell _ _ (.inl (.inr (.inl rfl)))).setCell _ _ (.inl (.inl rfl))).setCell _ _ (.inl (.inl rfl))).drew
set_option maxHeartbeats 400000 in
/-- 'link' behind the newest. -/
theorem link_next (w : World) (cb pB iB : Nat) (seed : Int) (s : CS) (h : CAt w cb pB iB seed s) (p q : Nat) (hp : p < s.pl.length) (hq : q < s.pl.length) (hpq : p ≠ q) (hC : s.pl.length ≤ 65536) (e : Pl) (he : s.pl[p]? = some e) (e2 : Pl) (he2 : s.pl[q]? = some e2) (hn : s.newest = q) :
    Calls Trym.prog 38 #[.pointer (some ⟨cb, 0, none⟩), .int .i32 p] w fun e' w' => e' = .returned (.tuple #[]) ∧ CAt w' cb pB iB seed { s with pl := (s.pl.set p (e.1, -1, (q : Int), e.2.2.2)).set q (e2.1, (p : Int), e2.2.2.1, e2.2.2.2), newest := p } ∧ Turns (Own cb pB iB) w w' := by
  have h1 := h.c1
  have h9 := h.c9
  rw [hn] at h9
  have h10 := h.c10
  have f9 := h.fc 9
  have fq1 := h.fp (p * 4 + 1)
  have fq2 := h.fp (p * 4 + 2)
  have fq3 := h.fp (q * 4 + 1)
  obtain ⟨p0, p1, p2, p3⟩ := h.place he
  obtain ⟨q0, q1, q2, q3⟩ := h.place he2
  have i0 : (0 : Int) ≤ (p : Int) := by omega
  have i1 : (p : Int) < (s.pl.length : Int) := by omega
  have i2 : (0 : Int) ≤ (q : Int) := by omega
  have i3 : (q : Int) < (s.pl.length : Int) := by omega
  have HH : Hid (CAt w cb pB iB seed s) := h
  have HE : Hid (s.pl[p]? = some e) := he
  have HE2 : Hid (s.pl[q]? = some e2) := he2
  have hne := h.cb_ne_p
  clear h he hn he2
  go_enter Trym.func38, Trym.ntmps38
  go_wp2
  go_region
  go_wp2
  go_region
  go_wp2
  go_end0
  refine ⟨rfl, ?_, ?_⟩
  · have g1 := HH.out.setP2 HE.out (-1) q
    have g2 : (s.pl.set p (e.1, -1, (q : Int), e.2.2.2))[q]? = some e2 := by rw [List.getElem?_set_ne hpq]; exact HE2.out
    have g3 := (g1.setNewer g2 p).setNewest p
    exact g3.drew.drew
  · exact (((((Turns.refl _ w).setCell _ _ (.inl (.inr (.inl rfl)))).setCell _ _ (.inl (.inr (.inl rfl)))).setCell _ _ (.inl (.inr (.inl rfl)))).setCell _ _ (.inl (.inl rfl))).drew.drew
end Go.Proofs.Qxb6603910aMods
