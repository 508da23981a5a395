/-
  THE LAW's OWN STATE: the cache, the list of placements, the map of last places.
-/
import Derived.Test.Qxb6603910aModsShims
namespace Go.Proofs.Qxb6603910aMods
open Go.RowKit Go.Maps
set_option linter.unusedSimpArgs false
set_option linter.unusedVariables false

theorem law23 : Keyed Trym.prog 23 := int_keyed Trym.underlying23
theorem zero3 (w : World) : (zeroValue 3).run Trym.prog w = .ok (.int .i64 0) w := by kernel_rfl
theorem info23 : (Trym.prog.info? 23).map (fun i => (i.zero, i.size, i.bytes)) = some (some (.int .u64 0), 1, 8) := by kernel_rfl

/-- What the map of last places holds. -/
structure LastOk (D : DataW Unit) (pd : List Int) : Prop where
  tidy : Maps.Tidy D
  no : ∀ x : Int, (Lit.int .u64 x).wf = true → Maps.has D (.int .u64 x) = false → ∀ i, i < pd.length → pd.getD i 0 ≠ x
  yes : ∀ x : Int, (Lit.int .u64 x).wf = true → Maps.has D (.int .u64 x) = true → ∃ i : Nat, i < pd.length ∧ pd.getD i 0 = x ∧ (∀ i', i < i' → i' < pd.length → pd.getD i' 0 ≠ x) ∧ D.atKey (.int .u64 x) (.lit (.int .i64 0)) = .lit (.int .i64 i)
theorem LastOk.nil : LastOk (.map []) [] := ⟨tidy_empty, fun x _ _ i hi => by simp at hi, fun x _ h => by simp [Maps.has] at h⟩
theorem LastOk.put {D : DataW Unit} {pd : List Int} (h : LastOk D pd) {x : Int} (hx : (Lit.int .u64 x).wf = true) : LastOk (D.put (.int .u64 x) (.lit (.int .i64 (pd.length : Nat)))) (pd ++ [x]) := by
  have hk : WideAt.IsKeyLit (.int .u64 x) := law23.key (keyOf_int_mk Trym.underlying23 hx)
  have hg : ∀ i, i < pd.length → (pd ++ [x]).getD i 0 = pd.getD i 0 := fun i hi => by simp [List.getD, List.getElem?_append_left hi]
  have hg2 : (pd ++ [x]).getD pd.length 0 = x := by simp [List.getD]
  have hl : (pd ++ [x]).length = pd.length + 1 := by simp
  refine ⟨h.tidy.put hk _, ?_, ?_⟩
  · intro y hy hn i hi
    by_cases e : y = x
    · subst e; rw [has_put_same h.tidy.isMap hk] at hn; cases hn
    · rw [has_put_other (by simpa using e)] at hn
      by_cases ei : i = pd.length
      · subst ei; rw [hg2]; exact Ne.symm e
      · rw [hg i (by omega)]; exact h.no y hy hn i (by omega)
  · intro y hy hn
    by_cases e : y = x
    · subst e
      refine ⟨pd.length, by omega, hg2, fun i' h1 h2 => by omega, ?_⟩
      rw [atKey_put_same h.tidy.isMap hk]
    · rw [has_put_other (by simpa using e)] at hn
      obtain ⟨i, h1, h2, h3, h4⟩ := h.yes y hy hn
      refine ⟨i, by omega, by rw [hg i h1]; exact h2, fun i' a b => ?_, ?_⟩
      · by_cases ei : i' = pd.length
        · subst ei; rw [hg2]; exact Ne.symm e
        · rw [hg i' (by omega)]; exact h3 i' a (by omega)
      · rw [atKey_put_other (by simpa using e)]; exact h4

/-- All that the law holds. -/
structure Big (w wr : World) (cb pB iB mb : Nat) (seed : Int) (N C : Nat) (c0 : Bool) (s : CS) (pd : List Int) (v : Value) (D : DataW Unit) : Prop where
  cat : CAt wr cb pB iB seed s
  inv : Inv seed N C c0 s pd
  row : wr.ownsRow w.heap.size 23 1 v pd.length (pd.map (Value.int .u64))
  map : wr.ownsMap Trym.prog 23 (plainElem Trym.prog 3) mb pd.length D
  last : LastOk D pd
  wf : ∀ x ∈ pd, (Lit.int .u64 x).wf = true
  bel : Below w.heap.size w wr
  own : w.heap.size ≤ cb ∧ w.heap.size ≤ pB ∧ w.heap.size ≤ iB ∧ w.heap.size ≤ mb

section
variable {w wr : World} {cb pB iB mb : Nat} {seed : Int} {N C : Nat} {c0 : Bool} {s : CS} {pd : List Int} {v : Value} {D : DataW Unit}
theorem Big.kept (h : Big w wr cb pB iB mb seed N C c0 s pd v D) {w' : World} (hT : Turns (fun _ => False) wr w') : Big w w' cb pB iB mb seed N C c0 s pd v D :=
  ⟨h.cat.kept hT (fun h => h) (fun h => h) (fun h => h), h.inv, hT.row h.row (fun _ _ h => h), hT.map h.map (fun h => h), h.last, h.wf, h.bel.trans (hT.below (fun _ _ h => h) h.bel.size), h.own⟩
theorem Big.drewN (h : Big w wr cb pB iB mb seed N C c0 s pd v D) (d : Nat) : Big w (wr.drewN d) cb pB iB mb seed N C c0 s pd v D := h.kept ((Turns.refl _ wr).drewN d)
theorem Big.size (h : Big w wr cb pB iB mb seed N C c0 s pd v D) : w.heap.size ≤ wr.heap.size := h.bel.size
/-- Number i of the list of placements. -/
theorem Big.cell (h : Big w wr cb pB iB mb seed N C c0 s pd v D) {i : Nat} (hi : i < pd.length) : ∃ g cap, v = .slice (some ⟨g, 0, none⟩) pd.length cap ∧ ∀ i, i < pd.length → wr.cell? ⟨g, i, none⟩ = some (.int .u64 (pd.getD i 0)) := by
  obtain ⟨g, cap, hv, _, _⟩ := h.row.form (by omega)
  refine ⟨g, cap, hv, fun i hi => ?_⟩
  have := h.row.cells (g := g) (by rw [hv]; rfl) i (.int .u64 (pd.getD i 0)) (by simp [List.getD, List.getElem?_eq_getElem hi])
  rw [Addr.add_lit] at this
  simpa using this
theorem Big.form (h : Big w wr cb pB iB mb seed N C c0 s pd v D) : ∃ a cap, v = .slice a pd.length cap := row_form h.row

/-- Not in the window: not kept. -/
theorem out_of {x : Int} (hx : (Lit.int .u64 x).wf = true) (h : LastOk D pd) (hn : Maps.has D (.int .u64 x) = true → ∀ i : Nat, D.atKey (.int .u64 x) (.lit (.int .i64 0)) = .lit (.int .i64 i) → i < pd.length - keepN C pd) :
    ∀ i, pd.length - keepN C pd ≤ i → i < pd.length → pd.getD i 0 ≠ x := by
  intro i h1 h2 e
  cases hb : Maps.has D (.int .u64 x) with
  | false => exact h.no x hx hb i h2 e
  | true =>
    obtain ⟨i0, a1, a2, a3, a4⟩ := h.yes x hx hb
    have := hn hb i0 a4
    exact a3 i (by omega) h2 e

/-- Behind 'place', an append and a store into the map. -/
theorem Big.step (h : Big w wr cb pB iB mb seed N C c0 s pd v D) {x : Int} (hx : (Lit.int .u64 x).wf = true) {w1 w2 w3 : World} {s' : CS} {v' : Value}
    (hA : CAt w1 cb pB iB seed s') (hI : Inv seed N C c0 s' (pd ++ [x])) (hT1 : Turns (Own cb pB iB) wr w1)
    (hrow : w2.ownsRow w.heap.size 23 1 v' (pd.length + 1) (pd.map (Value.int .u64) ++ [.int .u64 x])) (hg : (w1.alloc (.cells #[.int .u64 x] 23)).grownBy w2 v.ownBlock) (hat : v'.ownBlock = v.ownBlock ∨ ∃ g, v'.ownBlock = some g ∧ w1.heap.size ≤ g)
    (hm : w3.ownsMap Trym.prog 23 (plainElem Trym.prog 3) mb (pd.length + 1) (D.put (.int .u64 x) (.lit (.int .i64 (pd.length : Nat))))) (hg3 : w2.grownBy w3 (some mb)) :
    Big w w3 cb pB iB mb seed N C c0 s' (pd ++ [x]) v' (D.put (.int .u64 x) (.lit (.int .i64 (pd.length : Nat)))) := by
  have hrow1 : w1.ownsRow w.heap.size 23 1 v pd.length (pd.map (Value.int .u64)) := hT1.row h.row (fun g hg => by
    rintro (rfl | rfl | rfl)
    · exact row_ne_cells h.row h.cat.c (by decide) hg
    · exact row_ne_cells h.row h.cat.p (by decide) hg
    · exact row_ne_cells h.row h.cat.i (by decide) hg)
  have hT2 : Turns (fun b => v.ownBlock = some b) w1 w2 := ((Turns.refl _ w1).alloc _).grown hg (fun k hk => .inl hk)
  have hA2 : CAt w2 cb pB iB seed s' := hA.kept hT2 (row_ne_cells hrow1 hA.c (by decide)) (row_ne_cells hrow1 hA.p (by decide)) (row_ne_cells hrow1 hA.i (by decide))
  have hT3 : Turns (fun b => b = mb) w2 w3 := (Turns.refl _ w2).grown hg3 (fun k hk => .inl (by cases hk; rfl))
  have hmap1 : w1.ownsMap Trym.prog 23 (plainElem Trym.prog 3) mb pd.length D := hT1.map h.map (by
    rintro (e | e | e)
    · exact cells_ne_map h.cat.c h.map e.symm
    · exact cells_ne_map h.cat.p h.map e.symm
    · exact cells_ne_map h.cat.i h.map e.symm)
  have hmap2 : w2.ownsMap Trym.prog 23 (plainElem Trym.prog 3) mb pd.length D := hT2.map hmap1 (row_ne_map hrow1 hmap1)
  have hA3 : CAt w3 cb pB iB seed s' := hA2.kept hT3 (cells_ne_map hA2.c hmap2) (cells_ne_map hA2.p hmap2) (cells_ne_map hA2.i hmap2)
  have hne : v'.ownBlock ≠ some mb := row_ne_map hrow hmap2
  have hlen : (pd ++ [x]).length = pd.length + 1 := by simp
  refine ⟨hA3, hI, ?_, by rw [hlen]; exact hm, h.last.put hx, ?_, ?_, h.own⟩
  · rw [hlen, List.map_append]
    exact hT3.row hrow (fun g hg e => hne (by rw [hg, e]))
  · intro y hy
    rcases List.mem_append.1 hy with hy | hy
    · exact h.wf y hy
    · simp at hy; subst hy; exact hx
  · have b1 : Below w.heap.size wr w1 := hT1.below (fun k hk => by
      rintro (rfl | rfl | rfl)
      · have := h.own.1; omega
      · have := h.own.2.1; omega
      · have := h.own.2.2.1; omega) h.bel.size
    have b2 : Below w.heap.size w1 w2 := hT2.below (fun k hk e => by have := (hrow1.lt k e).1; omega) (Nat.le_trans h.bel.size hT1.size)
    have b3 : Below w.heap.size w2 w3 := hT3.below (fun k hk e => by have := h.own.2.2.2; omega) (Nat.le_trans (Nat.le_trans h.bel.size hT1.size) hT2.size)
    exact ((h.bel.trans b1).trans b2).trans b3
end
/-- Where the law begins. -/
theorem big_start {w w1 : World} {cb pB iB : Nat} {seed : Int} {N C : Nat} {c0 : Bool} (hA : CAt w1 cb pB iB seed (S0 C N c0)) (hb : Below w.heap.size w w1) (h1 : w.heap.size ≤ cb) (h2 : w.heap.size ≤ pB) (h3 : w.heap.size ≤ iB) (hC : 1 ≤ C) (Z : Array Value) (len : Nat) (hZ : Z.size = len) (hl : len ≤ 65536) :
    Big w ((w1.alloc (.cells Z 23)).alloc (.map #[] 0)) cb pB iB (w1.heap.size + 1) seed N C c0 (S0 C N c0) [] (.slice (some ⟨w1.heap.size, 0, none⟩) 0 len) (.map []) := by
  have hT : Turns (fun _ => False) w1 ((w1.alloc (.cells Z 23)).alloc (.map #[] 0)) := ((Turns.refl _ w1).alloc _).alloc _
  refine ⟨hA.kept hT (fun h => h) (fun h => h) (fun h => h), inv_new seed N C c0 hC, ?_, ?_, LastOk.nil, by simp, hb.trans (hT.below (fun _ _ h => h) hb.size), h1, h2, h3, by have := hb.size; omega⟩
  · exact (World.ownsRow_made w1 Z len hb.size (by unfold maxLen; omega) (by omega)).alloc _
  · have := World.ownsMap_made (H := Unit) (w1.alloc (.cells Z 23)) Trym.prog 23 (plainElem Trym.prog 3)
    rw [show (w1.alloc (.cells Z 23)).heap.size = w1.heap.size + 1 by simp] at this
    exact this
theorem make_cap (w : World) (len : Nat) (hl : len ≤ 65536) : ∃ Z : Array Value, Z.size = len ∧ (Instr.makeSlice 53 (.int .i64 0) (.int .i64 (len : Nat))).run Trym.prog w = .ok (.slice (some ⟨w.heap.size, 0, none⟩) 0 len) (w.alloc (.cells Z 23)) := by
  obtain ⟨i0, hi0, hz0, hz1, hz2⟩ := info_parts info23
  have := run_make (P := Trym.prog) w 53 23 i0 _ Trym.underlying53 hi0 hz0 .i64 .i64 0 len (by omega) (by omega) (by rw [hz2]; omega) (by omega)
  simp only [Int.toNat_natCast, hz1, Int.toNat_zero] at this
  exact ⟨_, by simp [size_madeCells], this⟩
theorem shl_wrap (L N : Nat) (hN : N = 2 ^ L) (hL : L ≤ 16) : wrap64 ((2 : Int) ^ L) = (N : Int) := by
  have hle : N ≤ 65536 := by rw [hN]; exact Nat.pow_le_pow_right (by decide) hL
  have e : ((2 : Int) ^ L) = (N : Int) := by rw [hN]; simp
  rw [e]
  unfold wrap64; omega
end Go.Proofs.Qxb6603910aMods
