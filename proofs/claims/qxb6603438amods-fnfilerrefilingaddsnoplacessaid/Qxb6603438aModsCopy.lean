import Derived.Test.Qxb6603438aModsScript
namespace Go.Proofs.Qxb6603438aMods
open Go.RowKit Go.Maps
set_option linter.unusedSimpArgs false
set_option linter.unusedVariables false

theorem info34 : (Trym.prog.info? 34).map (fun i => (i.zero, i.size, i.bytes)) = some (some (.agg #[.string ⟨#[]⟩, .string ⟨#[]⟩, .int .i64 0]), 3, 40) := by kernel_rfl
theorem scells_length (fs : List Fl) : (scells fs).length = fs.length * 3 := by
  induction fs with
  | nil => rfl
  | cons f fs ih => simp only [scells, List.flatMap_cons, List.length_append, List.length_cons, List.length_nil] at *; omega

/-- 'make([]T, n)'. -/
theorem make_runs {P : Program} (w : World) (t e : TypeId) (i : TypeInfo) (z : Value) (size n : Nat) (ht : P.underlying t = some (.slice e)) (hi : P.info? e = some i) (hz : i.zero = some z) (hs : i.size = size) (hb : i.bytes ≤ 1000) (hn : n ≤ 1000000) :
    ∃ Z : Array Value, Z = madeCells z.cells (n * size) ∧ Z.size = n * size ∧ (Instr.makeSlice t (.int .i64 (n : Nat)) (.int .i64 (n : Nat))).run P w = .ok (.slice (some ⟨w.heap.size, 0, none⟩) n n) (w.alloc (.cells Z e)) := by
  refine ⟨madeCells z.cells (n * size), rfl, size_madeCells _ _, ?_⟩
  have h1 : i.bytes * n ≤ 1000 * 1000000 := Nat.mul_le_mul hb hn
  have := run_make (P := P) w t e i z ht hi hz .i64 .i64 n n (by omega) (by omega) (by rw [← Int.natCast_mul]; omega) (by omega)
  simp only [Int.toNat_natCast, hs] at this
  exact this

theorem take3 (l : List Value) (k : Nat) (x y z : Value) (h : (k + 1) * 3 ≤ l.length) : List.take ((k + 1) * 3) (((l.set (k * 3) x).set (k * 3 + 1) y).set (k * 3 + 2) z) = l.take (k * 3) ++ [x, y, z] := by
  apply List.ext_getElem?
  intro j
  have hlen : (l.take (k * 3)).length = k * 3 := by simp; omega
  rcases Nat.lt_trichotomy j (k * 3) with h1 | h1 | h1
  · rw [List.getElem?_append_left (by omega), List.getElem?_take_of_lt (by omega), List.getElem?_take_of_lt h1, List.getElem?_set_ne (by omega), List.getElem?_set_ne (by omega), List.getElem?_set_ne (by omega)]
  · subst h1
    rw [List.getElem?_append_right (by omega), hlen, List.getElem?_take_of_lt (by omega), List.getElem?_set_ne (by omega), List.getElem?_set_ne (by omega), List.getElem?_set_self (by omega)]
    simp
  · rw [List.getElem?_append_right (by omega), hlen]
    by_cases h2 : j = k * 3 + 1
    · subst h2
      rw [List.getElem?_take_of_lt (by omega), List.getElem?_set_ne (by omega), List.getElem?_set_self (by simp; omega), show k * 3 + 1 - k * 3 = 1 by omega]
      rfl
    · by_cases h3 : j = k * 3 + 2
      · subst h3
        rw [List.getElem?_take_of_lt (by omega), List.getElem?_set_self (by simp; omega), show k * 3 + 2 - k * 3 = 2 by omega]
        rfl
      · rw [List.getElem?_take_eq_none (by omega)]
        symm
        apply List.getElem?_eq_none
        simp; omega
theorem scells_take (fs : List Fl) (k : Nat) (h : k < fs.length) : scells (fs.take (k + 1)) = scells (fs.take k) ++ [.string fs[k].1, .string fs[k].2.1, .int .i64 fs[k].2.2] := by
  rw [List.take_succ_eq_append_getElem h]; simp only [scells, List.flatMap_append, List.flatMap_cons, List.flatMap_nil, List.append_nil]

theorem copy_nil (w : World) : Calls Trym.prog 15 #[.slice none 0 0] w fun e w' => e = .returned (.slice none 0 0) ∧ w' = w := by
  have hq := fun w => Lib.run_eql_slice_nil (P := Trym.prog) w 27 34 none 0 0 0 0 Trym.underlying27
  go_enter Trym.func15, Trym.ntmps15
  go_wp2
  go_ret
  exact ⟨rfl, rfl⟩

set_option maxHeartbeats 400000 in
theorem copy_any (w : World) (b off cap : Nat) (fs : List Fl) (hm : fs.length ≤ 4096) (hc : Cells3 w b off fs) (hb : b < w.heap.size) : 
    Calls Trym.prog 15 #[.slice (some ⟨b, off, none⟩) fs.length cap] w fun e w' => e = .returned (.slice (some ⟨w.heap.size, 0, none⟩) fs.length fs.length) ∧ 
      w'.heap[w.heap.size]? = some (.cells (scells fs).toArray 34 (0, 0)) ∧ Below w.heap.size w w' ∧ w'.heap.size = w.heap.size + 1 := by
  obtain ⟨i0, hi, hz0, hz1, hz2⟩ := info_parts info34
  have hq := fun w => Lib.run_eql_slice_nil (P := Trym.prog) w 27 34 (some ⟨b, off, none⟩) fs.length cap 0 0 Trym.underlying27
  obtain ⟨Z, hZe, hZ, hmk⟩ := make_runs (P := Trym.prog) w 27 34 i0 _ 3 fs.length Trym.underlying27 hi hz0 hz1 (by omega) (by omega)
  clear hZe
  go_enter Trym.func15, Trym.ntmps15
  go_wp2
  go_loopw [4] (fun i wr => ∃ (k : Nat) (arr : Array Value), k ≤ fs.length ∧ i = .int .i64 k ∧ wr.heap[w.heap.size]? = some (.cells arr 34 (0, 0)) ∧ arr.size = fs.length * 3 ∧ arr.toList.take (k * 3) = scells (fs.take k) ∧ Below w.heap.size w wr ∧ wr.heap.size = w.heap.size + 1) (fun i _ => fs.length - (intOf i).toNat)
  case atStart => exact ⟨0, Z, Nat.zero_le _, rfl, alloc_at rfl _, hZ, by simp [scells], (Below.refl _ _).alloc (Nat.le_refl _) _, by simp⟩
  case round =>
    obtain ⟨k, arr, hk, rfl, har, has, htk, hbel, hsz⟩ := hrel
    by_cases hlt : k < fs.length
    · obtain ⟨h1, h2, h3⟩ := hc k fs[k] (List.getElem?_eq_getElem hlt)
      have c1 : wr.cell? ⟨b, off + k * 3, none⟩ = some (.string fs[k].1) := (hbel.cell (p := ⟨b, off + k * 3, none⟩) hb).trans h1
      have c2 : wr.cell? ⟨b, off + k * 3 + 1, none⟩ = some (.string fs[k].2.1) := (hbel.cell (p := ⟨b, off + k * 3 + 1, none⟩) hb).trans h2
      have c3 : wr.cell? ⟨b, off + k * 3 + 2, none⟩ = some (.int .i64 fs[k].2.2) := (hbel.cell (p := ⟨b, off + k * 3 + 2, none⟩) hb).trans h3
      have d1 : wr.cell? ⟨w.heap.size, k * 3, none⟩ = some arr[k * 3] := by rw [cell_at har]; simp
      have d2 : wr.cell? ⟨w.heap.size, k * 3 + 1, none⟩ = some arr[k * 3 + 1] := by rw [cell_at har]; simp
      have d3 : wr.cell? ⟨w.heap.size, k * 3 + 2, none⟩ = some arr[k * 3 + 2] := by rw [cell_at har]; simp
      have f1 : wr.frozen? ⟨w.heap.size, k * 3, none⟩ = false := frozen_at har
      have f2 : wr.frozen? ⟨w.heap.size, k * 3 + 1, none⟩ = false := frozen_at har
      have f3 : wr.frozen? ⟨w.heap.size, k * 3 + 2, none⟩ = false := frozen_at har
      clear hmk hq hc
      go_wp2
      go_roundw
      case rel => 
        refine ⟨k + 1, ((arr.setIfInBounds (k * 3) (.string fs[k].1)).setIfInBounds (k * 3 + 1) (.string fs[k].2.1)).setIfInBounds (k * 3 + 2) (.int .i64 fs[k].2.2), by omega, by go_num, heap_setCell_at (heap_setCell_at (heap_setCell_at har _) _) _, by simpa using has, ?_, ((hbel.setCell (Nat.le_refl _) _).setCell (Nat.le_refl _) _).setCell (Nat.le_refl _) _, by rw [size_setCell, size_setCell, size_setCell]; exact hsz⟩
        rw [scells_take fs k hlt, ← htk]
        simp only [Array.toList_setIfInBounds]
        exact take3 _ _ _ _ _ (by simp; omega)
      case measure => simp [intOf]; omega
    · clear hmk hq hc
      go_wp2
      go_ret
      have : k = fs.length := by omega
      subst this
      refine ⟨rfl, ?_, hbel, hsz⟩
      rw [List.take_of_length_le (by simp; omega), List.take_length] at htk
      rw [har, ← htk]
theorem copy_none (w : World) (a : Addr) (cap : Nat) : Calls Trym.prog 15 #[.slice (some a) 0 cap] w fun e w' => e = .returned (.slice (some ⟨w.heap.size, 0, none⟩) 0 0) ∧ ∃ o, w' = w.alloc o := by
  obtain ⟨i0, hi, hz0, hz1, hz2⟩ := info_parts info34
  have hq := fun w => Lib.run_eql_slice_nil (P := Trym.prog) w 27 34 (some a) 0 cap 0 0 Trym.underlying27
  obtain ⟨Z, hZe, hZ, hmk⟩ := make_runs (P := Trym.prog) w 27 34 i0 _ 3 0 Trym.underlying27 hi hz0 hz1 (by omega) (by omega)
  clear hZe
  change (Instr.makeSlice 27 (.int .i64 0) (.int .i64 0)).run Trym.prog w = _ at hmk
  go_enter Trym.func15, Trym.ntmps15
  go_wp2
  refine wp_loop_rounds 1 ?_
  rw [rounds_succ]
  go_wp2
  go_ret
  exact ⟨rfl, _, rfl⟩
end Go.Proofs.Qxb6603438aMods
