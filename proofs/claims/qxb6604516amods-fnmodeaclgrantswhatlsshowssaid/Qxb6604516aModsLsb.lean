/-
  'zzLsFromMode'; the second law's walk.
-/
import Derived.Test.Qxb6604516aModsLs
namespace Go.Proofs.Qxb6604516aMods
open Go.RowKit Go.Maps
set_option linter.unusedSimpArgs false
set_option linter.unusedVariables false
attribute [local go_sem ↓] Go.wp_at_zero Go.wp_at_succ

/-- Letter j of the nine. -/
def lsN (m j : Nat) : Int := bitL (m / 2 ^ (8 - j)) (letterN (j % 3))
def lsL (m : Nat) : List Int := (List.range 9).map (lsN m)
theorem ls_tri (m : Nat) : lsL m = triN (m / 64 % 8) ++ triN (m / 8 % 8) ++ triN (m % 8) := by
  have b (x y : Nat) (c : Int) (h : x % 2 = y % 2) : bitL x c = bitL y c := by unfold bitL; rw [h]
  show [lsN m 0, lsN m 1, lsN m 2, lsN m 3, lsN m 4, lsN m 5, lsN m 6, lsN m 7, lsN m 8] = [_, _, _, _, _, _, _, _, _]
  have e0 : lsN m 0 = bitL (m / 64 % 8 / 4) 114 := b (m / 256) _ _ (by omega)
  have e1 : lsN m 1 = bitL (m / 64 % 8 / 2) 119 := b (m / 128) _ _ (by omega)
  have e2 : lsN m 2 = bitL (m / 64 % 8) 120 := b (m / 64) _ _ (by omega)
  have e3 : lsN m 3 = bitL (m / 8 % 8 / 4) 114 := b (m / 32) _ _ (by omega)
  have e4 : lsN m 4 = bitL (m / 8 % 8 / 2) 119 := b (m / 16) _ _ (by omega)
  have e5 : lsN m 5 = bitL (m / 8 % 8) 120 := b (m / 8) _ _ (by omega)
  have e6 : lsN m 6 = bitL (m % 8 / 4) 114 := b (m / 4) _ _ (by omega)
  have e7 : lsN m 7 = bitL (m % 8 / 2) 119 := b (m / 2) _ _ (by omega)
  have e8 : lsN m 8 = bitL (m % 8) 120 := b (m / 1) _ _ (by omega)
  rw [e0, e1, e2, e3, e4, e5, e6, e7, e8]
theorem str_app (a b : List Int) : strOfNums (a ++ b) = strOfNums a ++ strOfNums b := by
  apply ByteArray.ext
  apply Array.toList_inj.1
  simp [strOfNums, ByteArray.data_append]

/-- The block of nine bytes behind k rounds. -/
def Nine (w : World) (m k : Nat) (wr : World) : Prop := ∃ Z : Array Value, wr.heap[w.heap.size]? = some (.cells Z 42 (0, 0)) ∧ Z.size = 9 ∧ (∀ j, j < k → Z[j]? = some (.int .u8 (lsN m j))) ∧ Below w.heap.size w wr
theorem Nine.cell {w wr : World} {m k : Nat} (h : Nine w m k wr) {j : Nat} (hj : j < 9) : ∃ v, wr.cell? ⟨w.heap.size, j, none⟩ = some v ∧ wr.frozen? ⟨w.heap.size, j, none⟩ = false := by
  obtain ⟨Z, h1, h2, h3, h4⟩ := h
  exact ⟨Z[j]'(by omega), by rw [cell_at h1, Array.getElem?_eq_getElem], frozen_at h1⟩
theorem Nine.step {w wr : World} {m k : Nat} (h : Nine w m k wr) (hk : k < 9) {x : Int} (hx : x = lsN m k) : Nine w m (k + 1) (wr.setCell ⟨w.heap.size, k, none⟩ (.int .u8 x)) := by
  obtain ⟨Z, h1, h2, h3, h4⟩ := h
  refine ⟨Z.setIfInBounds k (.int .u8 x), heap_setCell_at h1 _, by simpa using h2, fun j hj => ?_, h4.setCell (Nat.le_refl _) _⟩
  by_cases e : j = k
  · subst e; rw [hx, Array.getElem?_setIfInBounds, if_pos rfl, if_pos (by omega)]
  · rw [Array.getElem?_setIfInBounds, if_neg (fun h => e h.symm)]; exact h3 j (by omega)
theorem Nine.conv {w wr : World} {m : Nat} (h : Nine w m 9 wr) : (convert 45 9 (.slice (some ⟨w.heap.size, 0, none⟩) 9 9)).run Trym.prog wr = .ok (.string (strOfNums (lsL m))) wr := by
  obtain ⟨Z, h1, h2, h3, h4⟩ := h
  refine run_convert_bytes_arg _ 45 5 Trym.underlying45 Trym.underlying5 w.heap.size 0 9 9 (lsL m) (by simp [lsL]) ?_ 9 Trym.underlying9
  intro i hi
  rw [cell_at h1, Nat.zero_add, h3 i hi]
  simp [lsL, List.getD, hi]
theorem Nine.start (w : World) (m : Nat) (Z : Array Value) (hZ : Z.size = 9) : Nine w m 0 (w.alloc (.cells Z 42)) :=
  ⟨Z, alloc_at w _, hZ, fun j hj => by omega, (Below.refl _ w).alloc (Nat.le_refl _) _⟩

theorem and_pow_one {m i : Nat} (h : m / 2 ^ i % 2 = 1) : m &&& 2 ^ i = 2 ^ i := by
  apply Nat.eq_of_testBit_eq
  intro j
  rw [Nat.testBit_and, Nat.testBit_two_pow]
  by_cases e : i = j
  · subst e; simp [Nat.testBit_eq_decide_div_mod_eq, h]
  · simp [e]
theorem and_pow_zero {m i : Nat} (h : ¬ m / 2 ^ i % 2 = 1) : m &&& 2 ^ i = 0 := by
  apply Nat.eq_of_testBit_eq
  intro j
  rw [Nat.testBit_and, Nat.testBit_two_pow, Nat.zero_testBit]
  by_cases e : i = j
  · subst e; simp [Nat.testBit_eq_decide_div_mod_eq, h]
  · simp [e]
/-- The mask in round k. -/
theorem mask_bit (m k : Nat) (hm : m < 4294967296) (hk : k < 9) : (bits .and .u32 (m : Int) ((256 / 2 ^ k : Nat) : Int) = 0 ∧ lsN m k = 45) ∨ (∃ y : Nat, bits .and .u32 (m : Int) ((256 / 2 ^ k : Nat) : Int) = (y : Int) + 1 ∧ lsN m k = letterN (k % 3)) := by
  have e : 256 / 2 ^ k = 2 ^ (8 - k) := by
    have : ∀ k, k < 9 → 256 / 2 ^ k = 2 ^ (8 - k) := by decide
    exact this k hk
  have hle : 2 ^ (8 - k) ≤ 2 ^ 8 := Nat.pow_le_pow_right (by decide) (by omega)
  have b := u32_and m (2 ^ (8 - k)) hm (by omega)
  rw [e, b]
  have hpos : 0 < 2 ^ (8 - k) := Nat.two_pow_pos _
  unfold lsN bitL
  by_cases h : m / 2 ^ (8 - k) % 2 = 1
  · rw [if_pos h, and_pow_one h]
    exact .inr ⟨2 ^ (8 - k) - 1, by omega, rfl⟩
  · rw [if_neg h, and_pow_zero h]
    exact .inl ⟨rfl, rfl⟩

set_option maxHeartbeats 1000000 in
set_option maxRecDepth 100000 in
theorem ls_any (w : World) (m : Nat) (hm : m < 4294967296) : Calls Trym.prog 8 #[.int .u32 m] w fun e w' => e = .returned (.string (strOfNums (lsL m))) ∧ Below w.heap.size w w' := by
  have HS : Hid (∀ Z : Array Value, Z.size = 9 → Nine w m 0 (w.alloc (.cells Z 42))) := fun Z hZ => Nine.start w m Z hZ
  have HM : Hid (∀ k, k < 9 → (bits .and .u32 (m : Int) ((256 / 2 ^ k : Nat) : Int) = 0 ∧ lsN m k = 45) ∨ (∃ y : Nat, bits .and .u32 (m : Int) ((256 / 2 ^ k : Nat) : Int) = (y : Int) + 1 ∧ lsN m k = letterN (k % 3))) := fun k hk => mask_bit m k hm hk
  generalize hst : strOfNums (lsL m) = st
  have HST : Hid (strOfNums (lsL m) = st) := hst
  clear hst
  go_enter Trym.func8, Trym.ntmps8
  go_wp2
  go_loopw [4, 5] (fun mk i wr => ∃ k mkn : Nat, k ≤ 9 ∧ i = .int .i64 k ∧ mk = .int .u32 mkn ∧ mkn = 256 / 2 ^ k ∧ Nine w m k wr) (fun _ i _ => 9 - (intOf i).toNat)
  case atStart => exact ⟨0, 256, by omega, by go_num, by go_num, by rfl, HS.out _ rfl⟩
  case round =>
    obtain ⟨k, mk, hk, rfl, rfl, hmk, hn⟩ := hrel
    have HNI : Hid (Nine w m k wr) := hn
    by_cases hlt : k < 9
    · obtain ⟨cv, c1, c2⟩ := hn.cell hlt
      have HMK : Hid (mk / 2 = 256 / 2 ^ (k + 1)) := by
        show mk / 2 = 256 / 2 ^ (k + 1)
        rw [hmk, Nat.div_div_eq_div_mul, Nat.pow_succ]
      have hmb := HM.out k hlt
      rw [← hmk] at hmb
      have hmk2 : mk ≤ 256 := by rw [hmk]; exact Nat.div_le_self _ _
      clear hmk hn
      have hr3 : (k : Int) % 3 = ((k % 3 : Nat) : Int) := by omega
      have hr : k % 3 < 3 := by omega
      have hmd : (mk : Int) / 2 = ((mk / 2 : Nat) : Int) := by omega
      rcases hmb with ⟨hb, hls⟩ | ⟨y, hb, hls⟩
      · have HLS : Hid (45 = lsN m k) := hls.symm
        clear hls
        generalize mk / 2 = mk2 at *
        go_wp2_with fail
        go_roundw
        case rel => exact ⟨k + 1, mk2, by omega, by go_num, rfl, HMK.out, HNI.out.step hlt HLS.out⟩
        case measure => simp [intOf]; omega
      · have HL : Hid (letterN (k % 3) = lsN m k) := hls.symm
        have hy : (((y : Int) + 1) == 0) = false := beq_eq_false_iff_ne.2 (by omega)
        clear hls
        generalize mk / 2 = mk2 at *
        have HC : Hid (Calls Trym.prog 16 #[.int .i64 (k % 3 : Nat)] wr fun e w' => e = .returned (.int .u8 (letterN (k % 3))) ∧ w' = wr) := letter_any wr (k % 3) hr
        generalize letterN (k % 3) = lt at *
        generalize k % 3 = r at *
        go_wp2_with fail
        refine HC.out.mono ?_
        rintro e w' ⟨rfl, hw⟩
        obtain rfl : wr = w' := hw.symm
        go_wp2_with fail
        go_roundw
        case rel => exact ⟨k + 1, mk2, by omega, by go_num, rfl, HMK.out, HNI.out.step hlt HL.out⟩
        case measure => simp [intOf]; omega
    · have hk9 : k = 9 := by omega
      subst hk9
      have hcv := hn.conv
      rw [HST.out] at hcv
      have hbel : Below w.heap.size w wr := by obtain ⟨_, _, _, _, h⟩ := hn; exact h
      have HBE : Hid (Below w.heap.size w wr) := hbel
      clear hn hbel hmk
      go_wp2_with fail
      go_ret
      exact ⟨rfl, HBE.out⟩

set_option maxHeartbeats 1000000 in
theorem main4 (w : World) (m : Nat) (hm : m < 4294967296) : Calls Trym.prog 4 #[.int .u32 m] w fun e w' => e = .returned (.bool true) ∧ Below w.heap.size w w' := by
  have e1 : Ent m 1 (m / 64 % 8) := .inl ⟨rfl, rfl⟩
  have e4 : Ent m 4 (m / 8 % 8) := .inr (.inl ⟨rfl, rfl⟩)
  have e32 : Ent m 32 (m % 8) := .inr (.inr ⟨rfl, rfl⟩)
  have hu : m / 64 % 8 ≤ 7 := by omega
  have hg : m / 8 % 8 ≤ 7 := by omega
  have ho : m % 8 ≤ 7 := by omega
  have hs : strOfNums (lsL m) = strOfNums (triN (m / 64 % 8)) ++ strOfNums (triN (m / 8 % 8)) ++ strOfNums (triN (m % 8)) := by rw [ls_tri, str_app, str_app]
  have z1 : (strOfNums (triN (m / 64 % 8))).size = 3 := by rw [strOfNums_size]; rfl
  have z2 : (strOfNums (triN (m / 8 % 8))).size = 3 := by rw [strOfNums_size]; rfl
  have z3 : (strOfNums (triN (m % 8))).size = 3 := by rw [strOfNums_size]; rfl
  have HT1 : Hid (∀ w, Calls Trym.prog 9 #[.int .u16 (m / 64 % 8 : Nat)] w fun e w' => e = .returned (.string (strOfNums (triN (m / 64 % 8)))) ∧ Below w.heap.size w w') := fun w => triple_any w _ hu
  have HT2 : Hid (∀ w, Calls Trym.prog 9 #[.int .u16 (m / 8 % 8 : Nat)] w fun e w' => e = .returned (.string (strOfNums (triN (m / 8 % 8)))) ∧ Below w.heap.size w w') := fun w => triple_any w _ hg
  have HT3 : Hid (∀ w, Calls Trym.prog 9 #[.int .u16 (m % 8 : Nat)] w fun e w' => e = .returned (.string (strOfNums (triN (m % 8)))) ∧ Below w.heap.size w w') := fun w => triple_any w _ ho
  have HLS : Hid (∀ w, Calls Trym.prog 8 #[.int .u32 m] w fun e w' => e = .returned (.string (strOfNums (lsL m))) ∧ Below w.heap.size w w') := fun w => ls_any w m hm
  generalize strOfNums (triN (m / 64 % 8)) = s1 at *
  generalize strOfNums (triN (m / 8 % 8)) = s2 at *
  generalize strOfNums (triN (m % 8)) = s3 at *
  generalize strOfNums (lsL m) = s0 at *
  generalize m / 64 % 8 = u at *
  generalize m / 8 % 8 = g at *
  generalize m % 8 = o at *
  subst hs
  have H1 : Hid (Ent m 1 u) := e1
  have H4 : Hid (Ent m 4 g) := e4
  have H32 : Hid (Ent m 32 o) := e32
  clear e1 e4 e32
  go_enter Trym.func4, Trym.ntmps4
  go_wp2_with fail
  refine (len_any w m hm).mono ?_
  rintro e w1 ⟨rfl, hB1⟩
  have HB1 : Hid (Below w.heap.size w w1) := hB1
  clear hB1
  go_wp2_with fail
  refine (entry_any w1 m hm 1 u H1.out).mono ?_
  rintro e w2 ⟨rfl, hB2⟩
  have HB2 : Hid (Below w.heap.size w w2) := HB1.out.trans (hB2.mono HB1.out.size)
  clear hB2 HB1
  go_wp2_with fail
  refine (entry_any w2 m hm 4 g H4.out).mono ?_
  rintro e w3 ⟨rfl, hB3⟩
  have HB3 : Hid (Below w.heap.size w w3) := HB2.out.trans (hB3.mono HB2.out.size)
  clear hB3 HB2
  go_wp2_with fail
  refine (entry_any w3 m hm 32 o H32.out).mono ?_
  rintro e w4 ⟨rfl, hB4⟩
  have HB4 : Hid (Below w.heap.size w w4) := HB3.out.trans (hB4.mono HB3.out.size)
  clear hB4 HB3
  go_wp2_with fail
  refine (HLS.out w4).mono ?_
  rintro e w5 ⟨rfl, hB5⟩
  have HB5 : Hid (Below w.heap.size w w5) := HB4.out.trans (hB5.mono HB4.out.size)
  clear hB5 HB4
  go_wp2_with fail
  refine (HT1.out w5).mono ?_
  rintro e w6 ⟨rfl, hB6⟩
  have HB6 : Hid (Below w.heap.size w w6) := HB5.out.trans (hB6.mono HB5.out.size)
  clear hB6 HB5
  go_wp2_with fail
  refine (HT2.out w6).mono ?_
  rintro e w7 ⟨rfl, hB7⟩
  have HB7 : Hid (Below w.heap.size w w7) := HB6.out.trans (hB7.mono HB6.out.size)
  clear hB7 HB6
  go_wp2_with fail
  refine (HT3.out w7).mono ?_
  rintro e w8 ⟨rfl, hB8⟩
  have HB8 : Hid (Below w.heap.size w w8) := HB7.out.trans (hB8.mono HB7.out.size)
  clear hB8 HB7
  go_wp2_with fail
  go_ret
  refine ⟨?_, HB8.out⟩
  simp
end Go.Proofs.Qxb6604516aMods
