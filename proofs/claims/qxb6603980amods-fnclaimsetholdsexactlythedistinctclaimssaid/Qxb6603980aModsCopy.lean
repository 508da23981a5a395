/-
  toProject.
-/
import Derived.Test.Qxb6603980aModsCount
import Derived.Lib.SmallJoins
namespace Go.Proofs.Qxb6603980aMods
open Go.RowKit Go.Maps
set_option linter.unusedSimpArgs false
set_option linter.unusedVariables false
attribute [local go_sem ↓] Go.wp_at_zero Go.wp_at_succ

def scells (fs : List Fl) : List Value := fs.flatMap (fun f => [.string f.1, .string f.2.1, .string f.2.2])
theorem scells_length (fs : List Fl) : (scells fs).length = fs.length * 3 := by
  induction fs with
  | nil => rfl
  | cons f fs ih => simp only [scells, List.flatMap_cons, List.length_append, List.length_cons, List.length_nil] at *; omega

/-- 'make([]T, n)'. -/
theorem make_runs {P : Program} (w : World) (t e : TypeId) (i : TypeInfo) (z : Value) (size n : Nat) (ht : P.underlying t = some (.slice e)) (hi : P.info? e = some i) (hz : i.zero = some z) (hs : i.size = size) (hb : i.bytes ≤ 1000) (hn : n ≤ 1000000) :
    ∃ Z : Array Value, Z = madeCells z.cells (n * size) ∧ Z.size = n * size ∧ (Instr.makeSlice t (.int .i64 (n : Nat)) (.int .i64 (n : Nat))).run P w = .ok (.slice (some ⟨w.heap.size, 0, none⟩) n n) (w.alloc (.cells Z e)) := by
  refine ⟨madeCells z.cells (n * size), rfl, size_madeCells _ _, ?_⟩
  have h1 : i.bytes * n ≤ 1000 * 1000000 := Nat.mul_le_mul hb hn
  have := run_make (P := P) w t e i z ht hi hz .i64 .i64 n n (by omega) (by omega) (by rw [← Int.natCast_mul]; omega) (by omega)
  simp only [Int.toNat_natCast, hs] at this
  exact this

theorem take3 (l : List Value) (k : Nat) (x y z : Value) (h : (k + 1) * 3 ≤ l.length) : List.take ((k + 1) * 3) (((l.set (k * 3) x).set (k * 3 + 1) y).set (k * 3 + 2) z) = l.take (k * 3) ++ [x, y, z] := by
  apply List.ext_getElem?
  intro j
  have hlen : (l.take (k * 3)).length = k * 3 := by simp; omega
  rcases Nat.lt_trichotomy j (k * 3) with h1 | h1 | h1
  · rw [List.getElem?_append_left (by omega), List.getElem?_take_of_lt (by omega), List.getElem?_take_of_lt h1, List.getElem?_set_ne (by omega), List.getElem?_set_ne (by omega), List.getElem?_set_ne (by omega)]
  · subst h1
    rw [List.getElem?_append_right (by omega), hlen, List.getElem?_take_of_lt (by omega), List.getElem?_set_ne (by omega), List.getElem?_set_ne (by omega), List.getElem?_set_self (by omega)]
    simp
  · rw [List.getElem?_append_right (by omega), hlen]
    by_cases h2 : j = k * 3 + 1
    · subst h2
      rw [List.getElem?_take_of_lt (by omega), List.getElem?_set_ne (by omega), List.getElem?_set_self (by simp; omega), show k * 3 + 1 - k * 3 = 1 by omega]
      rfl
    · by_cases h3 : j = k * 3 + 2
      · subst h3
        rw [List.getElem?_take_of_lt (by omega), List.getElem?_set_self (by simp; omega), show k * 3 + 2 - k * 3 = 2 by omega]
        rfl
      · rw [List.getElem?_take_eq_none (by omega)]
        symm
        apply List.getElem?_eq_none
        simp; omega
theorem scells_take (fs : List Fl) (k : Nat) (h : k < fs.length) : scells (fs.take (k + 1)) = scells (fs.take k) ++ [.string fs[k].1, .string fs[k].2.1, .string fs[k].2.2] := by
  rw [List.take_succ_eq_append_getElem h]; simp only [scells, List.flatMap_append, List.flatMap_cons, List.flatMap_nil, List.append_nil]

theorem scells_at : ∀ (fs : List Fl) (i : Nat) (f : Fl), fs[i]? = some f → (scells fs)[i * 3]? = some (.string f.1) ∧ (scells fs)[i * 3 + 1]? = some (.string f.2.1) ∧ (scells fs)[i * 3 + 2]? = some (.string f.2.2)
  | [], i, f, h => by simp at h
  | g :: fs, 0, f, h => by
    simp at h; subst h; simp [scells]
  | g :: fs, i + 1, f, h => by
    have := scells_at fs i f (by simpa using h)
    have e : scells (g :: fs) = [.string g.1, .string g.2.1, .string g.2.2] ++ scells fs := by simp [scells]
    rw [e]
    refine ⟨?_, ?_, ?_⟩
    · rw [List.getElem?_append_right (by simp; omega)]; simpa [show (i + 1) * 3 - 3 = i * 3 by omega] using this.1
    · rw [List.getElem?_append_right (by simp; omega)]; simpa [show (i + 1) * 3 + 1 - 3 = i * 3 + 1 by omega] using this.2.1
    · rw [List.getElem?_append_right (by simp; omega)]; simpa [show (i + 1) * 3 + 2 - 3 = i * 3 + 2 by omega] using this.2.2
theorem told_of {w : World} {b : Nat} {fs : List Fl} (h : w.heap[b]? = some (.cells (scells fs).toArray 34 (0, 0))) : Told w (some ⟨b, 0, none⟩) fs := by
  intro k hk
  refine ⟨b, 0, rfl, block_lt h, fun i f hf => ?_⟩
  obtain ⟨h1, h2, h3⟩ := scells_at fs i f hf
  rw [cell_at h, cell_at h, cell_at h]
  simp only [Nat.zero_add, List.getElem?_toArray]
  exact ⟨h1, h2, h3⟩
/-- What 'toProject' hands back. -/
def Copied (fs : List Fl) (w : World) (e : Ending) (w' : World) : Prop := ∃ a cap, e = .returned (.slice a fs.length cap) ∧ Told w' a fs ∧ Turns (fun _ => False) w w'
theorem copy_nil (w : World) : Calls Trym.prog 7 #[.slice none 0 0] w fun e w' => e = .returned (.slice none 0 0) ∧ w' = w := by
  have hq := fun w => Lib.run_eql_slice_nil (P := Trym.prog) w 22 24 none 0 0 0 0 Trym.underlying22
  go_enter Trym.func7, Trym.ntmps7
  go_wp2
  go_ret
  exact ⟨rfl, rfl⟩
set_option maxHeartbeats 1000000 in
theorem copy_any (w : World) (ad : Addr) (cap : Nat) (fs : List Fl) (hm : fs.length ≤ 4096) (hc : Told w (some ad) fs) : 
    Calls Trym.prog 7 #[.slice (some ad) fs.length cap] w (Copied fs w) := by
  obtain ⟨i0, hi, hz0, hz1, hz2⟩ := info_parts info34
  have hq := fun w => Lib.run_eql_slice_nil (P := Trym.prog) w 22 24 (some ad) fs.length cap 0 0 Trym.underlying22
  obtain ⟨Z, hZe, hZ, hmk⟩ := make_runs (P := Trym.prog) w 28 34 i0 _ 3 fs.length Trym.underlying28 hi hz0 hz1 (by omega) (by omega)
  have HC : Hid (Told w (some ad) fs) := hc
  clear hZe hc
  go_enter Trym.func7, Trym.ntmps7
  go_wp2
  clear hmk hq
  go_loopw [4] (fun i wr => ∃ (k : Nat) (arr : Array Value), k ≤ fs.length ∧ i = .int .i64 k ∧ wr.heap[w.heap.size]? = some (.cells arr 34 (0, 0)) ∧ arr.size = fs.length * 3 ∧ arr.toList.take (k * 3) = scells (fs.take k) ∧ Turns (fun _ => False) w wr) (fun i _ => fs.length - (intOf i).toNat)
  case atStart => exact ⟨0, Z, Nat.zero_le _, rfl, alloc_at rfl _, hZ, by simp [scells], (Turns.refl _ _).alloc _⟩
  case round =>
    obtain ⟨k, arr, hk, rfl, har, has, htk, hT⟩ := hrel
    have HT : Hid (Turns (fun _ => False) w wr) := hT
    have HAR : Hid (wr.heap[w.heap.size]? = some (.cells arr 34 (0, 0))) := har
    have HTK : Hid (arr.toList.take (k * 3) = scells (fs.take k)) := htk
    have HAS : Hid (arr.size = fs.length * 3) := has
    clear hT har htk has
    by_cases hlt : k < fs.length
    · have HF : Hid (fs[k]? = some fs[k]) := List.getElem?_eq_getElem hlt
      have HST : Hid (scells (fs.take (k + 1)) = scells (fs.take k) ++ [.string fs[k].1, .string fs[k].2.1, .string fs[k].2.2]) := scells_take fs k hlt
      generalize fs[k] = f at *
      obtain ⟨b, off, e0, hb, hcc⟩ := HC.out.turns HT.out k hlt
      cases e0
      obtain ⟨c1, c2, c3⟩ := hcc k f HF.out
      clear hcc
      go_wp2_with fail
      refine (key_any wr f.1 f.2.1 f.2.2).mono ?_
      rintro e w3 ⟨rfl, hT3⟩
      have HAR3 : Hid (w3.heap[w.heap.size]? = some (.cells arr 34 (0, 0))) := hT3.keeps HAR.out (fun h => h)
      have HT3 : Hid (Turns (fun _ => False) w w3) := HT.out.trans hT3 (fun _ _ h => h)
      have hal : (k + 1) * 3 ≤ arr.size := by rw [HAS.out]; omega
      obtain ⟨v1, d1⟩ : ∃ v, w3.cell? ⟨w.heap.size, k * 3, none⟩ = some v := ⟨arr[k * 3]'(by omega), by rw [cell_at HAR3.out, Array.getElem?_eq_getElem]⟩
      obtain ⟨v2, d2⟩ : ∃ v, w3.cell? ⟨w.heap.size, k * 3 + 1, none⟩ = some v := ⟨arr[k * 3 + 1]'(by omega), by rw [cell_at HAR3.out, Array.getElem?_eq_getElem]⟩
      obtain ⟨v3, d3⟩ : ∃ v, w3.cell? ⟨w.heap.size, k * 3 + 2, none⟩ = some v := ⟨arr[k * 3 + 2]'(by omega), by rw [cell_at HAR3.out, Array.getElem?_eq_getElem]⟩
      have f1 : w3.frozen? ⟨w.heap.size, k * 3, none⟩ = false := frozen_at HAR3.out
      have f2 : w3.frozen? ⟨w.heap.size, k * 3 + 1, none⟩ = false := frozen_at HAR3.out
      have f3 : w3.frozen? ⟨w.heap.size, k * 3 + 2, none⟩ = false := frozen_at HAR3.out
      clear hT3 c1 c2 c3
      go_wp2_with fail
      go_roundw
      case rel => 
        refine ⟨k + 1, ((arr.setIfInBounds (k * 3) (.string f.1)).setIfInBounds (k * 3 + 1) (.string f.2.1)).setIfInBounds (k * 3 + 2) (.string f.2.2), by omega, by go_num, heap_setCell_at (heap_setCell_at (heap_setCell_at HAR3.out _) _) _, by simpa using HAS.out, ?_, ((HT3.out.setCell _ _ (.inr (Nat.le_refl _))).setCell _ _ (.inr (Nat.le_refl _))).setCell _ _ (.inr (Nat.le_refl _))⟩
        rw [HST.out, ← HTK.out]
        simp only [Array.toList_setIfInBounds]
        exact take3 _ _ _ _ _ (by simpa using hal)
      case measure => simp [intOf]; omega
    · have hke : k = fs.length := by omega
      subst hke
      have HTD : Hid (Told wr (some ⟨w.heap.size, 0, none⟩) fs) := by
        have e : arr.toList = scells fs := by
          have := HTK.out
          rw [List.take_of_length_le (by simp [HAS.out]), List.take_length] at this
          exact this
        refine told_of ?_
        rw [HAR.out, ← e]
      go_wp2_with fail
      go_ret
      exact ⟨_, _, rfl, HTD.out, HT.out⟩
end Go.Proofs.Qxb6603980aMods
