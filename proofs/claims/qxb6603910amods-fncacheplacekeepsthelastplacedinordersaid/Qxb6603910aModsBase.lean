/-
  THE CACHE IN MEMORY; 'home'; the readers.
-/
import Derived.Test.Qxb6603910aModsRows
import Derived.Test.Qxb6603910aModsHeap
import Derived.Test.Qxb6603910aModsBits
import Derived.BigQuiet
import Derived.BigRegion
import Derived.Deep.DrawnRows
import Derived.Deep.RegionHeld3
namespace Go.Proofs.Qxb6603910aMods
open Go.RowKit Go.Maps
set_option linter.unusedSimpArgs false
set_option linter.unusedVariables false
attribute [local go_sem ↓] Go.wp_at_zero Go.wp_at_succ

/-- A place: workspace, newer, older, n. -/
abbrev Pl := Int × Int × Int × Int
def plcells (P : List Pl) : List Value := P.flatMap (fun p => [.int .u64 p.1, .int .i32 p.2.1, .int .i32 p.2.2.1, .int .i32 p.2.2.2])
def ixcells (ix : List Int) : List Value := ix.map (.int .i32)
/-- What a cache holds. -/
structure CS where
  pl : List Pl
  ix : List Int
  taken : Int
  newest : Int
  oldest : Int
  ev : Int
  comp : Bool
def ccells (pB iB : Nat) (seed : Int) (s : CS) : Array Value :=
  #[.int .i64 0, .slice (some ⟨pB, 0, none⟩) s.pl.length s.pl.length, .slice none 0 0, .slice none 0 0, .slice (some ⟨iB, 0, none⟩) s.ix.length s.ix.length, .int .u64 seed, .slice none 0 0, .slice none 0 0,
    .int .i32 s.taken, .int .i32 s.newest, .int .i32 s.oldest, .int .i32 (-1), .int .u64 s.ev, .bool s.comp]
/-- The cache lies in block cb, its places in pB, its index in iB. -/
structure CAt (w : World) (cb pB iB : Nat) (seed : Int) (s : CS) : Prop where
  c : w.heap[cb]? = some (.cells (ccells pB iB seed s) 94 (0, 0))
  p : w.heap[pB]? = some (.cells (plcells s.pl).toArray 98 (0, 0))
  i : w.heap[iB]? = some (.cells (ixcells s.ix).toArray 21 (0, 0))

/-- The index at t; the workspace of place p. -/
def CS.at_ (s : CS) (t : Nat) : Int := s.ix.getD t 0
def CS.ws (s : CS) (p : Nat) : Int := (s.pl.getD p (0, 0, 0, 0)).1

theorem plcells_at (P : List Pl) : ∀ (i : Nat) (e : Pl), P[i]? = some e → (plcells P)[i * 4]? = some (.int .u64 e.1) ∧ (plcells P)[i * 4 + 1]? = some (.int .i32 e.2.1) ∧ (plcells P)[i * 4 + 2]? = some (.int .i32 e.2.2.1) ∧ (plcells P)[i * 4 + 3]? = some (.int .i32 e.2.2.2) := by
  induction P with
  | nil => intro i e h; simp at h
  | cons x P ih =>
    intro i e h
    cases i with
    | zero => simp at h; subst h; simp [plcells]
    | succ i =>
      have := ih i e (by simpa using h)
      rw [show (i + 1) * 4 = i * 4 + 4 by omega]
      simpa [plcells] using this

section
variable {w : World} {cb pB iB : Nat} {seed : Int} {s : CS}
theorem CAt.drewN (h : CAt w cb pB iB seed s) (d : Nat) : CAt (w.drewN d) cb pB iB seed s := ⟨by rw [heap_drewN]; exact h.c, by rw [heap_drewN]; exact h.p, by rw [heap_drewN]; exact h.i⟩
theorem CAt.kept {G : Nat → Prop} {w' : World} (h : CAt w cb pB iB seed s) (hT : Turns G w w') (h1 : ¬ G cb) (h2 : ¬ G pB) (h3 : ¬ G iB) : CAt w' cb pB iB seed s := ⟨hT.keeps h.c h1, hT.keeps h.p h2, hT.keeps h.i h3⟩
theorem CAt.c1 (h : CAt w cb pB iB seed s) : w.cell? ⟨cb, 1, none⟩ = some (.slice (some ⟨pB, 0, none⟩) s.pl.length s.pl.length) := cell_at h.c
theorem CAt.c4 (h : CAt w cb pB iB seed s) : w.cell? ⟨cb, 4, none⟩ = some (.slice (some ⟨iB, 0, none⟩) s.ix.length s.ix.length) := cell_at h.c
theorem CAt.c5 (h : CAt w cb pB iB seed s) : w.cell? ⟨cb, 5, none⟩ = some (.int .u64 seed) := cell_at h.c
theorem CAt.c8 (h : CAt w cb pB iB seed s) : w.cell? ⟨cb, 8, none⟩ = some (.int .i32 s.taken) := cell_at h.c
theorem CAt.c9 (h : CAt w cb pB iB seed s) : w.cell? ⟨cb, 9, none⟩ = some (.int .i32 s.newest) := cell_at h.c
theorem CAt.c10 (h : CAt w cb pB iB seed s) : w.cell? ⟨cb, 10, none⟩ = some (.int .i32 s.oldest) := cell_at h.c
theorem CAt.c11 (h : CAt w cb pB iB seed s) : w.cell? ⟨cb, 11, none⟩ = some (.int .i32 (-1)) := cell_at h.c
theorem CAt.c12 (h : CAt w cb pB iB seed s) : w.cell? ⟨cb, 12, none⟩ = some (.int .u64 s.ev) := cell_at h.c
theorem CAt.c13 (h : CAt w cb pB iB seed s) : w.cell? ⟨cb, 13, none⟩ = some (.bool s.comp) := cell_at h.c
theorem CAt.ix (h : CAt w cb pB iB seed s) {t : Nat} (ht : t < s.ix.length) : w.cell? ⟨iB, t, none⟩ = some (.int .i32 (s.at_ t)) := by
  rw [cell_at h.i]
  simp [ixcells, CS.at_, List.getD, List.getElem?_eq_getElem ht]
theorem CAt.place (h : CAt w cb pB iB seed s) {q : Nat} {e : Pl} (hq : s.pl[q]? = some e) : w.cell? ⟨pB, q * 4, none⟩ = some (.int .u64 e.1) ∧ w.cell? ⟨pB, q * 4 + 1, none⟩ = some (.int .i32 e.2.1) ∧ w.cell? ⟨pB, q * 4 + 2, none⟩ = some (.int .i32 e.2.2.1) ∧ w.cell? ⟨pB, q * 4 + 3, none⟩ = some (.int .i32 e.2.2.2) := by
  obtain ⟨h0, h1, h2, h3⟩ := plcells_at s.pl q e hq
  rw [cell_at h.p, cell_at h.p, cell_at h.p, cell_at h.p]
  simp [h0, h1, h2, h3]
theorem CAt.wsid (h : CAt w cb pB iB seed s) {q : Nat} (hq : q < s.pl.length) : w.cell? ⟨pB, q * 4, none⟩ = some (.int .u64 (s.ws q)) := by
  have := (h.place (List.getElem?_eq_getElem hq)).1
  simpa [CS.ws, List.getD, List.getElem?_eq_getElem hq] using this
theorem CAt.cb_ne_p (h : CAt w cb pB iB seed s) : cb ≠ pB := fun e => by have := h.c; rw [e, h.p] at this; simp only [Option.some.injEq, Obj.cells.injEq] at this; exact absurd this.2.1 (by decide)
theorem CAt.cb_ne_i (h : CAt w cb pB iB seed s) : cb ≠ iB := fun e => by have := h.c; rw [e, h.i] at this; simp only [Option.some.injEq, Obj.cells.injEq] at this; exact absurd this.2.1 (by decide)
theorem CAt.p_ne_i (h : CAt w cb pB iB seed s) : pB ≠ iB := fun e => by have := h.p; rw [e, h.i] at this; simp only [Option.some.injEq, Obj.cells.injEq] at this; exact absurd this.2.1 (by decide)
end

set_option maxHeartbeats 400000 in
theorem home_any (w : World) (cb pB iB L : Nat) (ws seed : Int) (s : CS) (h : CAt w cb pB iB seed s) (hN : s.ix.length = 2 ^ L) (hL : L ≤ 16) :
    Calls Trym.prog 36 #[.pointer (some ⟨cb, 0, none⟩), .int .u64 ws] w fun e w' => e = .returned (.int .i64 (homeN seed s.ix.length ws)) ∧ w' = w := by
  have h4 := h.c4
  have h5 := h.c5
  have hle : s.ix.length ≤ 65536 := by rw [hN]; exact Nat.pow_le_pow_right (by decide) hL
  have hpos : 1 ≤ s.ix.length := by rw [hN]; exact Nat.two_pow_pos L
  have HQ : Hid (bits .and .i64 (mix ws seed) ((s.ix.length : Int) - 1) = (homeN seed s.ix.length ws : Int)) := homeN_eq seed s.ix.length L ws hN hL
  clear hN
  generalize s.ix.length = N at *
  go_enter Trym.func36, Trym.ntmps36
  go_wp2
  go_ret
  refine ⟨?_, rfl⟩
  rw [← HQ.out]
  rfl
end Go.Proofs.Qxb6603910aMods
