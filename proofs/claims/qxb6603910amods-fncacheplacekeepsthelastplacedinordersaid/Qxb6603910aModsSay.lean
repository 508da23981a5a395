/-
  What the law asks, in the law's own state.
-/
import Derived.Test.Qxb6603910aModsBig
namespace Go.Proofs.Qxb6603910aMods
open Go.RowKit Go.Maps
set_option linter.unusedSimpArgs false
set_option linter.unusedVariables false

section
variable {w wr : World} {cb pB iB mb L : Nat} {seed : Int} {N C : Nat} {c0 : Bool} {s : CS} {pd : List Int} {v : Value} {D : DataW Unit}
theorem wf_i64 {n : Nat} (h : n ≤ 65536) : (Lit.int .i64 (n : Int)).wf = true := by
  have e1 : IntKind.i64.min = -9223372036854775808 := by decide
  have e2 : IntKind.i64.max = 9223372036854775807 := by decide
  show (decide (IntKind.i64.min ≤ (n : Int)) && decide ((n : Int) ≤ IntKind.i64.max)) = true
  rw [e1, e2]
  simp only [Bool.and_eq_true, decide_eq_true_eq]
  omega
def NotIn (C : Nat) (pd : List Int) (x : Int) : Prop := ∀ i, pd.length - keepN C pd ≤ i → i < pd.length → pd.getD i 0 ≠ x

theorem Big.look (h : Big w wr cb pB iB mb seed N C c0 s pd v D) {x : Int} (hx : (Lit.int .u64 x).wf = true) :
    (∃ i : Nat, i < pd.length ∧ pd.length ≤ i + C ∧ pd.getD i 0 = x ∧ (Instr.lookup 72 (.map (some mb)) (.int .u64 x) true).run Trym.prog wr = .ok (.tuple #[.int .i64 i, .bool true]) wr) ∨
    (NotIn C pd x ∧ ((∃ i : Nat, i + C < pd.length ∧ (Instr.lookup 72 (.map (some mb)) (.int .u64 x) true).run Trym.prog wr = .ok (.tuple #[.int .i64 i, .bool true]) wr) ∨ ∃ c : Int, (Instr.lookup 72 (.map (some mb)) (.int .u64 x) true).run Trym.prog wr = .ok (.tuple #[.int .i64 c, .bool false]) wr)) := by
  obtain ⟨v, ps, hrun, hv⟩ := h.map.look_ok law23 Trym.underlying72 (zero3 _) (plainElem_int Trym.underlying3 (by decide)) (keyOf_int_mk Trym.underlying23 hx)
  obtain ⟨c, rfl, hc, hwc⟩ := plainElem_int_inv Trym.underlying3 hv
  simp only [Prod.mk.injEq] at hc
  cases hb : Maps.has D (.int .u64 x) with
  | false =>
    rw [hb] at hrun
    refine .inr ⟨fun i _ h2 e => h.last.no x hx hb i h2 e, .inr ⟨c, hrun⟩⟩
  | true =>
    rw [hb] at hrun
    obtain ⟨i, h1, h2, h3, h4⟩ := h.last.yes x hx hb
    rw [h4] at hc
    have e : (i : Int) = c := by simpa using hc.1
    subst e
    by_cases hw : pd.length ≤ i + C
    · exact .inl ⟨i, h1, hw, h2, hrun⟩
    · refine .inr ⟨fun i' a1 a2 e => h3 i' ?_ a2 e, .inl ⟨i, by omega, hrun⟩⟩
      unfold keepN at a1; omega
/-- The look-up with no 'ok', of a number that was placed. -/
theorem Big.lookAt (h : Big w wr cb pB iB mb seed N C c0 s pd v D) {k : Nat} (hk : k < pd.length) :
    ∃ i : Nat, k ≤ i ∧ i < pd.length ∧ pd.getD i 0 = pd.getD k 0 ∧ (∀ i', i < i' → i' < pd.length → pd.getD i' 0 ≠ pd.getD k 0) ∧ (Instr.lookup 72 (.map (some mb)) (.int .u64 (pd.getD k 0)) false).run Trym.prog wr = .ok (.int .i64 i) wr := by
  have hx : (Lit.int .u64 (pd.getD k 0)).wf = true := h.wf _ (by simp [List.getD, List.getElem?_eq_getElem hk])
  obtain ⟨v, ps, hrun, hv⟩ := h.map.lookup law23 Trym.underlying72 (zero3 _) (plainElem_int Trym.underlying3 (by decide)) (keyOf_int_mk Trym.underlying23 hx)
  obtain ⟨c, rfl, hc, hwc⟩ := plainElem_int_inv Trym.underlying3 hv
  simp only [Prod.mk.injEq] at hc
  cases hb : Maps.has D (.int .u64 (pd.getD k 0)) with
  | false => exact absurd rfl (h.last.no _ hx hb k hk)
  | true =>
    obtain ⟨i, h1, h2, h3, h4⟩ := h.last.yes _ hx hb
    rw [h4] at hc
    have e : (i : Int) = c := by simpa using hc.1
    subst e
    refine ⟨i, ?_, h1, h2, h3, hrun⟩
    rcases Nat.lt_or_ge i k with hlt | hge
    · exact absurd rfl (h3 k hlt hk)
    · exact hge
theorem Big.find_in (h : Big w wr cb pB iB mb seed N C c0 s pd v D) (hC : 1 ≤ C) (hCN : C < N) (hN : N = 2 ^ L) (hL : L ≤ 16) {i : Nat} {x : Int} (h1 : pd.length ≤ i + C) (h2 : i < pd.length) (e : pd.getD i 0 = x) :
    Calls Trym.prog 26 #[.pointer (some ⟨cb, 0, none⟩), .int .u64 x] wr fun e w' => FoundP (i % C : Nat) e ∧ w' = wr := by
  rw [← e]
  exact zzfind_any (find_live h.inv h.cat hC hCN hN hL (by unfold keepN; omega) h2)
theorem Big.find_out (h : Big w wr cb pB iB mb seed N C c0 s pd v D) (hC : 1 ≤ C) (hCN : C < N) (hN : N = 2 ^ L) (hL : L ≤ 16) {x : Int} (hn : NotIn C pd x) :
    Calls Trym.prog 26 #[.pointer (some ⟨cb, 0, none⟩), .int .u64 x] wr fun e w' => FoundP (-1) e ∧ w' = wr :=
  zzfind_any (find_none h.inv h.cat hC hCN hN hL hn)
theorem Big.place (h : Big w wr cb pB iB mb seed N C c0 s pd v D) (hC : 1 ≤ C) (hCN : C < N) (hN : N = 2 ^ L) (hL : L ≤ 16) (hj : pd.length ≤ 65536) {x : Int} (hn : NotIn C pd x) :
    Calls Trym.prog 27 #[.pointer (some ⟨cb, 0, none⟩), .int .u64 x] wr fun e w' => e = .returned (.int .i32 (pd.length % C : Nat)) ∧ Kept cb pB iB seed N C c0 pd x wr w' :=
  zzplace_any (place_any h.inv h.cat hC hCN hN hL hj hn)

def Fields (C N k p o ev : Nat) (c : Bool) (cb : Nat) (wr : World) : Prop := Calls Trym.prog 28 #[.pointer (some ⟨cb, 0, none⟩)] wr fun e w' => e = .returned (.tuple #[.int .i64 C, .int .i64 N, .int .i32 k, .int .i32 p, .int .i32 o, .int .i32 (-1), .int .u64 ev, .bool c]) ∧ ∃ d, w' = wr.drewN d
theorem Big.fields (h : Big w wr cb pB iB mb seed N C c0 s pd v D) (hC : C ≤ 65536) (hN : N ≤ 65536) (h0 : 1 ≤ pd.length) :
    Fields C N (keepN C pd) ((pd.length - 1) % C) ((pd.length - keepN C pd) % C) (pd.length - C) (c0 && decide (pd.length ≤ C)) cb wr := by
  unfold Fields
  have := fields_any wr cb pB iB seed s h.cat (by rw [h.inv.plen]; exact hC) (by rw [h.inv.ilen]; exact hN)
  rw [h.inv.plen, h.inv.ilen, h.inv.taken, h.inv.newest, h.inv.oldest, h.inv.ev, h.inv.comp, if_neg (by omega), if_neg (by omega)] at this
  exact this
theorem Big.fields_lo (h : Big w wr cb pB iB mb seed N C c0 s pd v D) (hC : C ≤ 65536) (hN : N ≤ 65536) {j : Nat} (hj : pd.length = j + 1) (hc : j + 1 ≤ C) : Fields C N (j + 1) j 0 0 c0 cb wr := by
  have := h.fields hC hN (by omega)
  rw [show keepN C pd = j + 1 by unfold keepN; omega, hj, show j + 1 - 1 = j by omega, show j + 1 - (j + 1) = 0 by omega, Nat.zero_mod, Nat.mod_eq_of_lt (show j < C by omega), show j + 1 - C = 0 by omega, decide_eq_true hc, Bool.and_true] at this
  exact this
theorem Big.fields_hi (h : Big w wr cb pB iB mb seed N C c0 s pd v D) (hC : C ≤ 65536) (hN : N ≤ 65536) {j : Nat} (hj : pd.length = j + 1) (hc : C < j + 1) : Fields C N C (j % C) ((j + 1 - C) % C) (j + 1 - C) false cb wr := by
  have := h.fields hC hN (by omega)
  rw [show keepN C pd = C by unfold keepN; omega, hj, show j + 1 - 1 = j by omega, decide_eq_false (by omega), Bool.and_false] at this
  exact this

/-- Behind 'place' and an append: the store into the map. -/
theorem Big.upd (h : Big w wr cb pB iB mb seed N C c0 s pd v D) {x : Int} (hx : (Lit.int .u64 x).wf = true) {w1 w2 : World} {v' : Value} {j : Nat} (hj : pd.length = j) (hj2 : j ≤ 65536)
    (hK : Kept cb pB iB seed N C c0 pd x wr w1)
    (hrow : w2.ownsRow w.heap.size 23 1 v' (j + 1) (pd.map (Value.int .u64) ++ [.int .u64 x])) (hg : (w1.alloc (.cells #[.int .u64 x] 23)).grownBy w2 v.ownBlock) (hat : v'.ownBlock = v.ownBlock ∨ ∃ g, v'.ownBlock = some g ∧ w1.heap.size ≤ g) :
    ∃ w3, (Instr.mapUpdate 72 (.map (some mb)) (.int .u64 x) (.int .i64 (j : Nat))).run Trym.prog w2 = .ok () w3 ∧ ∃ s' D', Big w w3 cb pB iB mb seed N C c0 s' (pd ++ [x]) v' D' := by
  obtain ⟨s', hA, hI, hT1⟩ := hK
  subst hj
  have hrow1 : w1.ownsRow w.heap.size 23 1 v pd.length (pd.map (Value.int .u64)) := hT1.row h.row (fun g hg => by
    rintro (rfl | rfl | rfl)
    · exact row_ne_cells h.row h.cat.c (by decide) hg
    · exact row_ne_cells h.row h.cat.p (by decide) hg
    · exact row_ne_cells h.row h.cat.i (by decide) hg)
  have hT2 : Turns (fun b => v.ownBlock = some b) w1 w2 := ((Turns.refl _ w1).alloc _).grown hg (fun k hk => .inl hk)
  have hmap1 : w1.ownsMap Trym.prog 23 (plainElem Trym.prog 3) mb pd.length D := hT1.map h.map (by
    rintro (e | e | e)
    · exact cells_ne_map h.cat.c h.map e.symm
    · exact cells_ne_map h.cat.p h.map e.symm
    · exact cells_ne_map h.cat.i h.map e.symm)
  have hmap2 : w2.ownsMap Trym.prog 23 (plainElem Trym.prog 3) mb pd.length D := hT2.map hmap1 (row_ne_map hrow1 hmap1)
  obtain ⟨w3, hrun, hm3, hg3⟩ := hmap2.update law23 Trym.underlying72 (by unfold maxLen; omega) (keyOf_int_mk Trym.underlying23 hx) (plainElem_int (a := (pd.length : Nat)) Trym.underlying3 (wf_i64 hj2))
  exact ⟨w3, hrun, s', _, h.step hx hA hI hT1 hrow hg hat hm3 hg3⟩
/-- The list of placements, behind 'place'. -/
theorem Big.row1 (h : Big w wr cb pB iB mb seed N C c0 s pd v D) {x : Int} {w1 : World} {j : Nat} (hj : pd.length = j) (hK : Kept cb pB iB seed N C c0 pd x wr w1) : w1.ownsRow w.heap.size 23 1 v j (pd.map (Value.int .u64)) := by
  obtain ⟨s', hA, hI, hT1⟩ := hK
  subst hj
  exact hT1.row h.row (fun g hg => by
    rintro (rfl | rfl | rfl)
    · exact row_ne_cells h.row h.cat.c (by decide) hg
    · exact row_ne_cells h.row h.cat.p (by decide) hg
    · exact row_ne_cells h.row h.cat.i (by decide) hg)
theorem Big.size1 (h : Big w wr cb pB iB mb seed N C c0 s pd v D) {x : Int} {w1 : World} (hK : Kept cb pB iB seed N C c0 pd x wr w1) : w.heap.size ≤ w1.heap.size := by
  obtain ⟨s', hA, hI, hT1⟩ := hK
  exact Nat.le_trans h.bel.size hT1.size
theorem at_of {v : Value} {g h n c : Nat} (hat : v.ownBlock = some g ∨ g = h + 1) : (Value.slice (some ⟨g, 0, none⟩) n c).ownBlock = v.ownBlock ∨ ∃ g', (Value.slice (some ⟨g, 0, none⟩) n c).ownBlock = some g' ∧ h ≤ g' := by
  rcases hat with e | e
  · exact .inl (by rw [e]; rfl)
  · exact .inr ⟨g, rfl, by omega⟩
end
end Go.Proofs.Qxb6603910aMods
