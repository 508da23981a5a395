/-
  The shims: new, find, place, fields, links, index.
-/
import Derived.Test.Qxb6603910aModsOld
namespace Go.Proofs.Qxb6603910aMods
open Go.RowKit Go.Maps
set_option linter.unusedSimpArgs false
set_option linter.unusedVariables false
attribute [local go_sem ↓] Go.wp_at_zero Go.wp_at_succ

theorem info98 : (Trym.prog.info? 98).map (fun i => (i.zero, i.size, i.bytes)) = some (some (.agg #[.int .u64 0, .int .i32 0, .int .i32 0, .int .i32 0]), 4, 24) := by kernel_rfl
theorem info21 : (Trym.prog.info? 21).map (fun i => (i.zero, i.size, i.bytes)) = some (some (.int .i32 0), 1, 4) := by kernel_rfl

theorem made_places (n : Nat) : madeCells #[Value.int .u64 0, .int .i32 0, .int .i32 0, .int .i32 0] (n * 4) = (plcells (List.replicate n (0, 0, 0, 0))).toArray := by
  apply Array.toList_inj.1
  apply List.ext_getElem?
  intro k
  by_cases hk : k < n * 4
  · have hq : (List.replicate n ((0, 0, 0, 0) : Pl))[k / 4]? = some (0, 0, 0, 0) := by rw [List.getElem?_replicate, if_pos (by omega)]
    obtain ⟨h0, h1, h2, h3⟩ := plcells_at _ _ _ hq
    have hdm := Nat.div_add_mod k 4
    have hm := Nat.mod_lt k (show 0 < 4 by omega)
    have e : (madeCells #[Value.int .u64 0, .int .i32 0, .int .i32 0, .int .i32 0] (n * 4)).toList[k]? = some (#[Value.int .u64 0, .int .i32 0, .int .i32 0, .int .i32 0][k % 4]!) := by
      simp [madeCells, hk]
    rw [e]
    rcases (show k % 4 = 0 ∨ k % 4 = 1 ∨ k % 4 = 2 ∨ k % 4 = 3 by omega) with h | h | h | h
    · rw [h, show k = k / 4 * 4 by omega]; simpa using h0.symm
    · rw [h, show k = k / 4 * 4 + 1 by omega]; simpa using h1.symm
    · rw [h, show k = k / 4 * 4 + 2 by omega]; simpa using h2.symm
    · rw [h, show k = k / 4 * 4 + 3 by omega]; simpa using h3.symm
  · rw [List.getElem?_eq_none (by simp [madeCells]; omega), List.getElem?_eq_none (by simp [plcells_len]; omega)]
theorem made_index (n : Nat) : madeCells #[Value.int .i32 0] n = (ixcells (List.replicate n 0)).toArray := by
  apply Array.toList_inj.1
  rw [toList_madeCells_one]
  simp [ixcells]

theorem make_runs {P : Program} (w : World) (t e : TypeId) (i : TypeInfo) (z : Value) (size n : Nat) (ht : P.underlying t = some (.slice e)) (hi : P.info? e = some i) (hz : i.zero = some z) (hs : i.size = size) (hb : i.bytes ≤ 1000) (hn : n ≤ 1000000) :
    (Instr.makeSlice t (.int .i64 (n : Nat)) (.int .i64 (n : Nat))).run P w = .ok (.slice (some ⟨w.heap.size, 0, none⟩) n n) (w.alloc (.cells (madeCells z.cells (n * size)) e)) := by
  have h1 : i.bytes * n ≤ 1000 * 1000000 := Nat.mul_le_mul hb hn
  have := run_make (P := P) w t e i z ht hi hz .i64 .i64 n n (by omega) (by omega) (by rw [← Int.natCast_mul]; omega) (by omega)
  simp only [Int.toNat_natCast, hs] at this
  exact this

/-- An empty cache. -/
def S0 (C N : Nat) (c0 : Bool) : CS := { pl := List.replicate C (0, 0, 0, 0), ix := List.replicate N 0, taken := 0, newest := -1, oldest := -1, ev := 0, comp := c0 }
def Made (C N : Nat) (seed : Int) (c0 : Bool) (w : World) (e : Ending) (w' : World) : Prop :=
  ∃ cb pB iB, e = .returned (.pointer (some ⟨cb, 0, none⟩)) ∧ CAt w' cb pB iB seed (S0 C N c0) ∧ Below w.heap.size w w' ∧ w.heap.size ≤ cb ∧ w.heap.size ≤ pB ∧ w.heap.size ≤ iB

theorem made_a (w : World) (C N : Nat) (seed : Int) (c0 : Bool) (cs : Array Value) (hcs : cs = ccells w.heap.size (w.heap.size + 1) seed (S0 C N c0)) :
    Made C N seed c0 w (.returned (.pointer (some ⟨w.heap.size + 1 + 1, 0, none⟩))) (((w.alloc (.cells (madeCells #[Value.int .u64 0, .int .i32 0, .int .i32 0, .int .i32 0] (C * 4)) 98)).alloc (.cells (madeCells #[Value.int .i32 0] N) 21)).alloc (.cells cs 94)).drew := by
  refine ⟨w.heap.size + 1 + 1, w.heap.size, w.heap.size + 1, rfl, ⟨?_, ?_, ?_⟩, ?_, by omega, by omega, by omega⟩
  · rw [hcs]; exact alloc_at (by simp) _
  · show (World.alloc _ _).heap[w.heap.size]? = _
    refine Eq.trans (Below.heap_alloc _ _ _ (by simp; omega)) (Eq.trans (Below.heap_alloc _ _ _ (by simp)) ?_)
    rw [made_places]; exact alloc_at rfl _
  · show (World.alloc _ _).heap[w.heap.size + 1]? = _
    refine Eq.trans (Below.heap_alloc _ _ _ (by simp)) ?_
    rw [made_index]; exact alloc_at (by simp) _
  · exact ((((Below.refl _ w).alloc (Nat.le_refl _) _).alloc (by simp) _).alloc (by simp; omega) _).drew
theorem made_b (w : World) (C N : Nat) (seed : Int) (c0 : Bool) (cs : Array Value) (hcs : cs = ccells (w.heap.size + 1) w.heap.size seed (S0 C N c0)) :
    Made C N seed c0 w (.returned (.pointer (some ⟨w.heap.size + 1 + 1, 0, none⟩))) (((w.alloc (.cells (madeCells #[Value.int .i32 0] N) 21)).alloc (.cells (madeCells #[Value.int .u64 0, .int .i32 0, .int .i32 0, .int .i32 0] (C * 4)) 98)).alloc (.cells cs 94)).drew := by
  refine ⟨w.heap.size + 1 + 1, w.heap.size + 1, w.heap.size, rfl, ⟨?_, ?_, ?_⟩, ?_, by omega, by omega, by omega⟩
  · rw [hcs]; exact alloc_at (by simp) _
  · show (World.alloc _ _).heap[w.heap.size + 1]? = _
    refine Eq.trans (Below.heap_alloc _ _ _ (by simp)) ?_
    rw [made_places]; exact alloc_at (by simp) _
  · show (World.alloc _ _).heap[w.heap.size]? = _
    refine Eq.trans (Below.heap_alloc _ _ _ (by simp; omega)) (Eq.trans (Below.heap_alloc _ _ _ (by simp)) ?_)
    rw [made_index]; exact alloc_at rfl _
  · exact ((((Below.refl _ w).alloc (Nat.le_refl _) _).alloc (by simp) _).alloc (by simp; omega) _).drew

set_option maxHeartbeats 400000 in
theorem new_any (w : World) (C N : Nat) (seed : Int) (c0 : Bool) (hC : C ≤ 65536) (hN : N ≤ 65536) :
    Calls Trym.prog 25 #[.int .i64 C, .int .i64 N, .int .u64 seed, .bool c0] w (Made C N seed c0 w) := by
  obtain ⟨i0, hi0, hz0, hz1, hz2⟩ := info_parts info98
  obtain ⟨i1, hi1, hy0, hy1, hy2⟩ := info_parts info21
  have m1 := fun w => make_runs (P := Trym.prog) w 90 98 i0 _ 4 C Trym.underlying90 hi0 hz0 hz1 (by omega) (by omega)
  have m2 := fun w => make_runs (P := Trym.prog) w 91 21 i1 _ 1 N Trym.underlying91 hi1 hy0 hy1 (by omega) (by omega)
  simp only [Value.cells, Nat.mul_one] at m1 m2
  go_enter Trym.func25, Trym.ntmps25
  go_wp2
  go_region
  all_goals go_wp2
  all_goals go_ret
  · exact made_a w C N seed c0 _ (by simp [ccells, S0])
  · exact made_b w C N seed c0 _ (by simp [ccells, S0])

theorem inv_new (seed : Int) (N C : Nat) (c0 : Bool) (hC : 1 ≤ C) : Inv seed N C c0 (S0 C N c0) [] := by
  have hk : keepN C [] = 0 := by simp [keepN]
  have hg : ∀ u, (List.replicate N (0 : Int)).getD u 0 = 0 := fun u => by
    simp only [List.getD, List.getElem?_replicate]; split <;> rfl
  refine ⟨by simp [S0], by simp [S0], ?_, by rw [hk]; rfl, rfl, rfl, by simp [S0], by simp [S0], fun i h1 h2 => by simp at h2, fun i i' _ h2 => by simp at h2⟩
  rw [hk]
  refine ⟨by simp [S0], fun u hu => .inl (hg u), fun u v q _ _ e => ?_, fun q hq => by omega, fun u q _ e => ?_, ?_⟩
  · have e' : (List.replicate N (0 : Int)).getD u 0 = (q : Int) + 1 := e
    rw [hg] at e'; omega
  · have e' : (List.replicate N (0 : Int)).getD u 0 = (q : Int) + 1 := e
    rw [hg] at e'; omega
  · simp [S0, cnt]

/-! ### find -/
section
variable {seed : Int} {N C : Nat} {c0 : Bool} {s : CS} {pd : List Int} {w : World} {cb pB iB L : Nat}
/-- 'find' of a kept workspace; of one that is not kept. -/
def FoundP (p : Int) (e : Ending) : Prop := ∃ t : Nat, e = .returned (.tuple #[.int .i32 p, .int .i64 t])
theorem find_live (hi : Inv seed N C c0 s pd) (h : CAt w cb pB iB seed s) (hC : 1 ≤ C) (hCN : C < N) (hN : N = 2 ^ L) (hL : L ≤ 16) {i : Nat} (h1 : pd.length - keepN C pd ≤ i) (h2 : i < pd.length) :
    Calls Trym.prog 33 #[.pointer (some ⟨cb, 0, none⟩), .int .u64 (pd.getD i 0)] w fun e w' => FoundP (i % C : Nat) e ∧ w' = w := by
  have hle : N ≤ 65536 := by rw [hN]; exact Nat.pow_le_pow_right (by decide) hL
  have hkC := keepN_le C pd
  obtain ⟨z, hz, hz0⟩ := free_slot s.ix (by rw [hi.tab.count, hi.ilen]; omega)
  refine (find_any w cb pB iB L (pd.getD i 0) seed s h (by rw [hi.ilen]; exact hN) hL (hi.ranged (by omega)) z hz hz0).mono ?_
  rintro e w' ⟨⟨pp, t, rfl, hfd⟩, hw⟩
  refine ⟨⟨t, ?_⟩, hw⟩
  have hws := hi.ws_at h1 h2
  rw [← hws] at hfd
  have hlt : i % C < keepN C pd := by
    by_cases hj : pd.length ≤ C
    · have : keepN C pd = pd.length := by unfold keepN; omega
      rw [this]
      exact Nat.lt_of_le_of_lt (Nat.mod_le _ _) h2
    · have : keepN C pd = C := by unfold keepN; omega
      rw [this]; exact Nat.mod_lt _ (by omega)
  have ht := hi.tab
  rw [← hi.ilen] at ht
  obtain ⟨e1, _, _⟩ := found_live ht (fun q => homeN_lt _ _ _ (by rw [hi.ilen]; omega)) hlt (fun q hq e => hi.apart hC hq hlt e) hfd
  rw [e1]
theorem find_none (hi : Inv seed N C c0 s pd) (h : CAt w cb pB iB seed s) (hC : 1 ≤ C) (hCN : C < N) (hN : N = 2 ^ L) (hL : L ≤ 16) {ws : Int} (hn : ∀ i, pd.length - keepN C pd ≤ i → i < pd.length → pd.getD i 0 ≠ ws) :
    Calls Trym.prog 33 #[.pointer (some ⟨cb, 0, none⟩), .int .u64 ws] w fun e w' => FoundP (-1) e ∧ w' = w := by
  have hle : N ≤ 65536 := by rw [hN]; exact Nat.pow_le_pow_right (by decide) hL
  have hkC := keepN_le C pd
  obtain ⟨z, hz, hz0⟩ := free_slot s.ix (by rw [hi.tab.count, hi.ilen]; omega)
  refine (find_any w cb pB iB L ws seed s h (by rw [hi.ilen]; exact hN) hL (hi.ranged (by omega)) z hz hz0).mono ?_
  rintro e w' ⟨⟨pp, t, rfl, hfd⟩, hw⟩
  refine ⟨⟨t, ?_⟩, hw⟩
  obtain ⟨e1, _⟩ := found_none (by rw [hi.ilen]; exact homeN_lt _ _ _ (by omega)) (by rw [hi.ilen]; exact hi.none hC hn) hfd
  rw [e1]
end

theorem zzfind_any {w : World} {cb : Nat} {ws p : Int} (h : Calls Trym.prog 33 #[.pointer (some ⟨cb, 0, none⟩), .int .u64 ws] w fun e w' => FoundP p e ∧ w' = w) :
    Calls Trym.prog 26 #[.pointer (some ⟨cb, 0, none⟩), .int .u64 ws] w fun e w' => FoundP p e ∧ w' = w := by
  have H : Hid (Calls Trym.prog 33 #[.pointer (some ⟨cb, 0, none⟩), .int .u64 ws] w fun e w' => FoundP p e ∧ w' = w) := h
  clear h
  go_enter Trym.func26, Trym.ntmps26
  go_wp2_with fail
  refine H.out.mono ?_
  rintro e w' ⟨⟨t, rfl⟩, hw⟩
  obtain rfl : w = w' := hw.symm
  go_wp2_with fail
  go_ret2
  exact ⟨⟨t, rfl⟩, rfl⟩
theorem zzplace_any {w : World} {cb : Nat} {ws p : Int} {R : World → Prop} (h : Calls Trym.prog 34 #[.pointer (some ⟨cb, 0, none⟩), .int .u64 ws] w fun e w' => e = .returned (.int .i32 p) ∧ R w') :
    Calls Trym.prog 27 #[.pointer (some ⟨cb, 0, none⟩), .int .u64 ws] w fun e w' => e = .returned (.int .i32 p) ∧ R w' := by
  have H : Hid (Calls Trym.prog 34 #[.pointer (some ⟨cb, 0, none⟩), .int .u64 ws] w fun e w' => e = .returned (.int .i32 p) ∧ R w') := h
  clear h
  go_enter Trym.func27, Trym.ntmps27
  go_wp2_with fail
  refine H.out.mono ?_
  rintro e w' ⟨rfl, hR⟩
  have HR : Hid (R w') := hR
  clear hR
  go_wp2_with fail
  go_ret
  exact ⟨rfl, HR.out⟩
theorem fields_any (w : World) (cb pB iB : Nat) (seed : Int) (s : CS) (h : CAt w cb pB iB seed s) (hC : s.pl.length ≤ 65536) (hN : s.ix.length ≤ 65536) :
    Calls Trym.prog 28 #[.pointer (some ⟨cb, 0, none⟩)] w fun e w' => e = .returned (.tuple #[.int .i64 s.pl.length, .int .i64 s.ix.length, .int .i32 s.taken, .int .i32 s.newest, .int .i32 s.oldest, .int .i32 (-1), .int .u64 s.ev, .bool s.comp]) ∧ ∃ d, w' = w.drewN d := by
  have h1 := h.c1
  have h4 := h.c4
  have h8 := h.c8
  have h9 := h.c9
  have h10 := h.c10
  have h11 := h.c11
  have h12 := h.c12
  have h13 := h.c13
  clear h
  go_enter Trym.func28, Trym.ntmps28
  go_wp2
  go_quiet (fail)
  go_wp2
  exact bodyPost_ret (v := .tuple #[.int .i64 s.pl.length, .int .i64 s.ix.length, .int .i32 s.taken, .int .i32 s.newest, .int .i32 s.oldest, .int .i32 (-1), .int .u64 s.ev, .bool s.comp]) (by simp [results, Trym.results28, go_sem]) rfl ⟨rfl, _, rfl⟩
theorem index_any (w : World) (cb pB iB : Nat) (seed : Int) (s : CS) (h : CAt w cb pB iB seed s) (t : Nat) (ht : t < s.ix.length) (hN : s.ix.length ≤ 65536) :
    Calls Trym.prog 30 #[.pointer (some ⟨cb, 0, none⟩), .int .i64 t] w fun e w' => e = .returned (.int .i32 (s.at_ t)) ∧ w' = w := by
  have h4 := h.c4
  have ct := h.ix ht
  clear h
  go_enter Trym.func30, Trym.ntmps30
  go_wp2
  go_ret
  exact ⟨rfl, rfl⟩
theorem links_any (w : World) (cb pB iB : Nat) (seed : Int) (s : CS) (h : CAt w cb pB iB seed s) (p : Nat) (e : Pl) (he : s.pl[p]? = some e) (hC : s.pl.length ≤ 65536) :
    Calls Trym.prog 29 #[.pointer (some ⟨cb, 0, none⟩), .int .i32 p] w fun e' w' => e' = .returned (.tuple #[.int .u64 e.1, .int .i32 e.2.1, .int .i32 e.2.2.1, .int .i32 e.2.2.2]) ∧ ∃ d o, w' = (w.alloc o).drewN d := by
  have h1 := h.c1
  obtain ⟨p0, p1, p2, p3⟩ := h.place he
  have hp : p < s.pl.length := (List.getElem?_eq_some_iff.1 he).1
  have i1 : (p : Int) < (s.pl.length : Int) := by omega
  clear h he
  go_enter Trym.func29, Trym.ntmps29
  go_wp2
  go_quiet (fail)
  go_wp2
  exact bodyPost_ret (v := .tuple #[.int .u64 e.1, .int .i32 e.2.1, .int .i32 e.2.2.1, .int .i32 e.2.2.2]) (by simp [results, Trym.results29, go_sem]) rfl ⟨rfl, _, _, rfl⟩
end Go.Proofs.Qxb6603910aMods
