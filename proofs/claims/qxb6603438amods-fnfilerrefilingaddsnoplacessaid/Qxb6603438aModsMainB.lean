/-
  The walk of FnFilerRefilingAddsNoPlaces.
-/
import Derived.Test.Qxb6603438aModsTwice
namespace Go.Proofs.Qxb6603438aMods
open Go.RowKit Go.Maps
set_option linter.unusedSimpArgs false
set_option linter.unusedVariables false
attribute [local go_sem ↓] Go.wp_at_zero Go.wp_at_succ

set_option maxHeartbeats 1000000 in
set_option maxRecDepth 100000 in
theorem main7 (w : World) (b off cap : Nat) (fs : List Fl) (hm : fs.length ≤ maxLen) (hc : Cells3 w b off fs) (hb : b < w.heap.size) (hsz : ∀ f ∈ fs, f.1.size ≤ maxLen ∧ f.2.1.size ≤ maxLen) :
    Calls Trym.prog 7 #[.slice (some ⟨b, off, none⟩) fs.length cap] w fun e w' => e = .returned (.bool true) ∧ Below w.heap.size w w' := by
  go_enter Trym.func7, Trym.ntmps7
  go_wp2_with fail
  refine (bytes2_any w b off cap fs hm hc).mono ?_
  rintro e w' ⟨⟨bb, rfl, _⟩, hw⟩
  obtain rfl : w = w' := hw.symm
  cases bb
  · go_wp2_with fail
    go_ret
    exact ⟨rfl, Below.refl _ _⟩
  go_wp2_with fail
  refine (big_any _ b off cap fs hm hc).mono ?_
  rintro e w' ⟨⟨bb, rfl, h4⟩, hw⟩
  obtain rfl : w = w' := hw.symm
  cases bb
  rotate_left
  · go_wp2_with fail
    go_ret
    exact ⟨rfl, Below.refl _ _⟩
  replace h4 := h4 rfl
  go_wp2_with fail
  refine (copy_any _ b off cap fs h4 hc hb).mono ?_
  rintro e w1 ⟨rfl, hs1, hbel1, hz1⟩
  go_wp2_with fail
  refine (new_any _).mono ?_
  rintro e w2 ⟨rfl, hw2⟩
  have HW2 : Hid (w2 = w1.alloc (.cells #[.map none, .slice none 0 0, .slice none 0 0] 47)) := hw2
  clear hw2
  go_wp2_with fail
  refine (new_any _).mono ?_
  rintro e w3 ⟨rfl, hw3⟩
  have hw2 := HW2.out
  have hz2 : w2.heap.size = w.heap.size + 2 := by rw [hw2]; simp [hz1]
  have hF2 : Two w3 w.heap.size (w.heap.size + 1) (w.heap.size + 2) [] [] [] [] := by
    have := Two.new w1 w.heap.size (by omega)
    rw [hz1, ← hw2, ← hw3] at this; exact this
  have hs2 : w3.heap[w.heap.size]? = some (.cells (scells fs).toArray 34 (0, 0)) := by
    rw [hw3]; refine Eq.trans (Below.heap_alloc _ _ _ (by omega)) ?_
    rw [hw2]; exact (Below.heap_alloc _ _ _ (block_lt hs1)).trans hs1
  have hb2 : Below w.heap.size w w3 := by rw [hw3]; refine Below.alloc ?_ (by omega) _; rw [hw2]; exact hbel1.alloc (by omega) _
  simp only [hz2]
  clear HW2 hw2 hw3 hs1 hbel1 hz1 hz2 w1 w2 hc
  go_wp2_with fail
  go_loopw [5] (fun i wr => ∃ (k : Nat), k ≤ fs.length ∧ i = .int .i64 k ∧ Two wr w.heap.size (w.heap.size + 1) (w.heap.size + 2) (st (fs.take k)).1 (st (fs.take k)).2 (st (fs.take k)).1 (st (fs.take k)).2 ∧ wr.heap[w.heap.size]? = some (.cells (scells fs).toArray 34 (0, 0)) ∧ Below w.heap.size w wr) (fun i _ => fs.length - (intOf i).toNat)
  case atStart => exact ⟨0, Nat.zero_le _, rfl, by simpa [st] using hF2, hs2, hb2⟩
  case round =>
    obtain ⟨k, hk, rfl, hF, hs, hbel⟩ := hrel
    clear hF2 hs2 hb2
    by_cases hlt : k < fs.length
    · obtain ⟨c1, c2, c3⟩ := script_cells hs hlt
      have i0 : (0 : Int) ≤ (k : Int) := by omega
      have i1 : (k : Int) < (fs.length : Int) := by omega
      obtain ⟨z1, z2⟩ := hsz fs[k] (List.getElem_mem hlt)
      have hlen := (st_all fs k hk).1
      have hlo : w.heap.size < wr.heap.size := block_lt hs
      go_wp2_with fail
      go_region_held3 (fun w' => w'.cell? ⟨w.heap.size, k * 3, none⟩ = some (.string fs[k].1) ∧ w'.cell? ⟨w.heap.size, k * 3 + 1, none⟩ = some (.string fs[k].2.1) ∧ w'.cell? ⟨w.heap.size, k * 3 + 2, none⟩ = some (.int .i64 fs[k].2.2)) (go_keep)
        ((go_at_call 17; refine (Two.fileA (w := wr.drew) (by exact hF) (by exact hlo) _ _ _ (by rw [hlen]; omega) z1 z2).mono ?_; rintro e w3 ⟨rfl, hF3, hT3⟩; have hs3 : w3.heap[w.heap.size]? = some (.cells (scells fs).toArray 34 (0, 0)) := hT3.keeps (by exact hs) (Nat.lt_irrefl _); obtain ⟨d1, d2, d3⟩ := script_cells hs3 hlt))
      have hlo3 : w.heap.size < w3.heap.size := block_lt hs3
      go_wp2_with fail
      go_region_held3 (fun w' => w'.cell? ⟨w.heap.size, k * 3, none⟩ = some (.string fs[k].1) ∧ w'.cell? ⟨w.heap.size, k * 3 + 1, none⟩ = some (.string fs[k].2.1) ∧ w'.cell? ⟨w.heap.size, k * 3 + 2, none⟩ = some (.int .i64 fs[k].2.2)) (go_keep)
        ((go_at_call 17; refine (Two.fileB (w := w3.drew) (by exact hF3) (by exact hlo3) _ _ _ (by rw [hlen]; omega) z1 z2).mono ?_; rintro e w4 ⟨rfl, hF4, hT4⟩; have hs4 : w4.heap[w.heap.size]? = some (.cells (scells fs).toArray 34 (0, 0)) := hT4.keeps (by exact hs3) (Nat.lt_irrefl _); obtain ⟨g1, g2, g3⟩ := script_cells hs4 hlt))
      go_wp2_with fail
      go_roundw
      case rel =>
        refine ⟨k + 1, by omega, by go_num, ?_, hs4, ?_⟩
        · rw [st_take hlt]; exact hF4
        · exact Below.trans (b := w3.drew) (Below.trans (b := wr.drew) hbel.drew (hT3.below (fun x hx h => by omega) hbel.size)).drew (hT4.below (fun x hx h => by omega) (Nat.le_of_lt hlo3))
      case measure => simp [intOf]; omega
    · have hkn : k = fs.length := by omega
      subst hkn
      rw [List.take_length] at hF
      go_wp2_with fail
      go_loopw [6] (fun i wr => ∃ (k : Nat), k ≤ fs.length ∧ i = .int .i64 k ∧ Two wr w.heap.size (w.heap.size + 1) (w.heap.size + 2) (st fs).1 (st fs).2 (st (fs ++ fs.take k)).1 (st (fs ++ fs.take k)).2 ∧ wr.heap[w.heap.size]? = some (.cells (scells fs).toArray 34 (0, 0)) ∧ Below w.heap.size w wr) (fun i _ => fs.length - (intOf i).toNat)
      case atStart => exact ⟨0, Nat.zero_le _, rfl, by simpa using hF, hs, hbel⟩
      case round =>
        clear hF hs hbel
        obtain ⟨k, hk, rfl, hF, hs, hbel⟩ := hrel
        by_cases hlt : k < fs.length
        · obtain ⟨c1, c2, c3⟩ := script_cells hs hlt
          have i0 : (0 : Int) ≤ (k : Int) := by omega
          have i1 : (k : Int) < (fs.length : Int) := by omega
          obtain ⟨z1, z2⟩ := hsz fs[k] (List.getElem_mem hlt)
          have hlen : (st (fs ++ fs.take k)).2.length = fs.length + k := by rw [st_len]; simp; omega
          have HL : Hid ((st (fs ++ fs.take k)).2.length = fs.length + k) := hlen
          clear hlen
          have hlo : w.heap.size < wr.heap.size := block_lt hs
          go_wp2_with fail
          go_region_held3 (fun w' => w'.cell? ⟨w.heap.size, k * 3, none⟩ = some (.string fs[k].1) ∧ w'.cell? ⟨w.heap.size, k * 3 + 1, none⟩ = some (.string fs[k].2.1) ∧ w'.cell? ⟨w.heap.size, k * 3 + 2, none⟩ = some (.int .i64 fs[k].2.2)) (go_keep)
            ((go_at_call 17; refine (Two.fileB (w := wr.drew) (by exact hF) (by exact hlo) _ _ _ (by rw [HL.out]; omega) z1 z2).mono ?_; rintro e w3 ⟨rfl, hF3, hT3⟩; have hs3 : w3.heap[w.heap.size]? = some (.cells (scells fs).toArray 34 (0, 0)) := hT3.keeps (by exact hs) (Nat.lt_irrefl _); obtain ⟨d1, d2, d3⟩ := script_cells hs3 hlt))
          go_wp2_with fail
          go_roundw
          case rel =>
            refine ⟨k + 1, by omega, by go_num, ?_, hs3, ?_⟩
            · rw [st_twice_step hlt]; exact hF3
            · exact Below.trans (b := wr.drew) hbel.drew (hT3.below (fun x hx h => by omega) hbel.size)
          case measure => simp [intOf]; omega
        · have hkn : k = fs.length := by omega
          subst hkn
          rw [st_twice_fst, st_fst, List.take_length] at hF
          obtain ⟨F1, F2, hA, hB, _, _, _⟩ := hF
          have hdl : (dist (fs.map prF)).length ≤ fs.length := by
            have := dist_le (fs.map prF).length (fs.map prF)
            rw [List.take_length] at this; simpa using this
          go_wp2_with fail
          refine hA.pairs.mono ?_
          rintro e w' ⟨rfl, hw⟩
          obtain rfl : wr = w' := hw.symm
          go_wp2_with fail
          refine hB.pairs.mono ?_
          rintro e w' ⟨rfl, hw⟩
          obtain rfl : wr = w' := hw.symm
          go_wp2_with fail
          refine hB.places.mono ?_
          rintro e w' ⟨rfl, hw⟩
          obtain rfl : wr = w' := hw.symm
          go_wp2_with fail
          refine hA.places.mono ?_
          rintro e w' ⟨rfl, hw⟩
          obtain rfl : wr = w' := hw.symm
          go_wp2_with fail
          go_loopw [8] (fun s wi => ∃ (k d : Nat), k ≤ (dist (fs.map prF)).length ∧ s = .int .i64 k ∧ wi = wr.drewN d) (fun s _ => (dist (fs.map prF)).length - (intOf s).toNat)
          case atStart => exact ⟨0, 0, Nat.zero_le _, rfl, rfl⟩
          case round =>
            obtain ⟨k, d, hkn, rfl, rfl⟩ := hrel
            by_cases hlk : k < (dist (fs.map prF)).length
            · have hp : (dist (fs.map prF))[k]? = some (pr ⟨(dist (fs.map prF))[k].1.toArray⟩ ⟨(dist (fs.map prF))[k].2.toArray⟩) := by rw [pr_lists]; exact List.getElem?_eq_getElem hlk
              generalize (⟨(dist (fs.map prF))[k].1.toArray⟩ : ByteArray) = pa at hp
              generalize (⟨(dist (fs.map prF))[k].2.toArray⟩ : ByteArray) = pb at hp
              have HP : Hid ((dist (fs.map prF))[k]? = some (pr pa pb)) := hp
              clear hp
              go_wp2_with fail
              refine ((hA.drewN d).pair HP.out).mono ?_
              rintro e w' ⟨rfl, d1, hw⟩
              rw [World.drewN_drewN] at hw
              subst hw
              go_wp2_with fail
              refine ((hB.drewN _).pair HP.out).mono ?_
              rintro e w' ⟨rfl, d2, hw⟩
              rw [World.drewN_drewN] at hw
              subst hw
              go_wp2_with fail
              go_roundw
              case rel => exact ⟨k + 1, _, by omega, by go_num, rfl⟩
              case measure => simp [intOf]; omega
            · go_wp2_with fail
              have hA' := hA.drewN d
              have hB' := hB.drewN d
              have hs' : (wr.drewN d).heap[w.heap.size]? = some (.cells (scells fs).toArray 34 (0, 0)) := by rw [heap_drewN]; exact hs
              have hbel' : Below w.heap.size w (wr.drewN d) := hbel.trans (((Turns.refl (fun _ => False) wr).drewN d).below (fun _ _ h => h) hbel.size)
              generalize wr.drewN d = wz at *
              clear hA hB hs hbel
              go_loopw [13] (fun s wi => ∃ (k d : Nat), k ≤ fs.length ∧ s = .int .i64 k ∧ wi = wz.drewN d) (fun s _ => fs.length - (intOf s).toNat)
              case atStart => exact ⟨0, 0, Nat.zero_le _, rfl, rfl⟩
              case round =>
                obtain ⟨k, d, hkn, rfl, rfl⟩ := hrel
                by_cases hlk : k < fs.length
                · obtain ⟨c4, c5, c6⟩ := script_cells hs' hlk
                  have i0 : (0 : Int) ≤ (k : Int) := by omega
                  have i1 : (k : Int) < (fs.length : Int) := by omega
                  obtain ⟨z1, z2⟩ := hsz fs[k] (List.getElem_mem hlk)
                  have hin := mem_all hlk
                  have HA : Hid (∀ n, Calls Trym.prog 23 #[.pointer (some ⟨w.heap.size + 1, 0, none⟩), .string fs[k].1, .string fs[k].2.1] (wz.drewN n) fun e w' => e = .returned (.tuple #[.int .i64 ((dist (fs.map prF)).idxOf (pr fs[k].1 fs[k].2.1) : Nat), .bool true]) ∧ w' = wz.drewN n) := fun n => (hA'.drewN n).place z1 z2 hin
                  have HB : Hid (∀ n, Calls Trym.prog 23 #[.pointer (some ⟨w.heap.size + 2, 0, none⟩), .string fs[k].1, .string fs[k].2.1] (wz.drewN n) fun e w' => e = .returned (.tuple #[.int .i64 ((dist (fs.map prF)).idxOf (pr fs[k].1 fs[k].2.1) : Nat), .bool true]) ∧ w' = wz.drewN n) := fun n => (hB'.drewN n).place z1 z2 hin
                  clear hin
                  generalize (dist (fs.map prF)).idxOf (pr fs[k].1 fs[k].2.1) = pl at HA HB
                  go_wp2_with fail
                  go_quiet ((go_at_call 23; go_must (refine (HA.out _).mono ?_; rintro e w' ⟨he, hw⟩; exact ⟨he, _, hw⟩)))
                  go_wp2_with fail
                  go_quiet ((go_at_call 23; go_must (refine (HB.out _).mono ?_; rintro e w' ⟨he, hw⟩; exact ⟨he, _, hw⟩)))
                  go_wp2_with fail
                  go_roundw
                  case rel => exact ⟨k + 1, _, by omega, by go_num, rfl⟩
                  case measure => simp [intOf]; omega
                · have hA := hA'.drewN d
                  have hB := hB'.drewN d
                  have hbel : Below w.heap.size w (wz.drewN d) := hbel'.trans (((Turns.refl (fun _ => False) wz).drewN d).below (fun _ _ h => h) hbel'.size)
                  generalize wz.drewN d = wy at *
                  clear hA' hB' hs' hbel'
                  have hl1 := st_len fs
                  have hl2 : (st (fs ++ fs)).2.length = 2 * fs.length := by rw [st_len]; simp; omega
                  have HL1 : Hid ((st fs).2.length = fs.length) := hl1
                  have HL2 : Hid ((st (fs ++ fs)).2.length = 2 * fs.length) := hl2
                  clear hl1 hl2
                  go_wp2_with fail
                  refine hA.entries.mono ?_
                  rintro e w' ⟨rfl, hw⟩
                  obtain rfl : wy = w' := hw.symm
                  rw [HL1.out]
                  go_wp2_with fail
                  refine hB.entries.mono ?_
                  rintro e w' ⟨rfl, hw⟩
                  obtain rfl : wy = w' := hw.symm
                  rw [HL2.out, show ((2 * fs.length : Nat) : Int) = 2 * (fs.length : Int) by omega]
                  go_wp2_with fail
                  go_loopw [19] (fun s wi => ∃ (k d : Nat), k ≤ fs.length ∧ s = .int .i64 k ∧ wi = wy.drewN d) (fun s _ => fs.length - (intOf s).toNat)
                  case atStart => exact ⟨0, 0, Nat.zero_le _, rfl, rfl⟩
                  case round =>
                    obtain ⟨k, d, hkn, rfl, rfl⟩ := hrel
                    by_cases hlk : k < fs.length
                    · obtain ⟨f, hf⟩ := first_exists fs hlk
                      have HE1 : Hid ((st fs).2[k]? = some ((dist ((fs.map prF).take f)).length, fs[k].2.2)) := entry_first hlk hf
                      have HE2 : Hid ((st (fs ++ fs)).2[k]? = some ((dist ((fs.map prF).take f)).length, fs[k].2.2)) := entry_twice_low hlk hf
                      have HE3 : Hid ((st (fs ++ fs)).2[k + fs.length]? = some ((dist ((fs.map prF).take f)).length, fs[k].2.2)) := entry_twice_high hlk hf
                      go_wp2_with fail
                      refine ((hA.drewN d).entry HE1.out).mono ?_
                      rintro e w' ⟨rfl, d1, hw⟩
                      rw [World.drewN_drewN] at hw
                      subst hw
                      go_wp2_with fail
                      refine ((hB.drewN _).entry HE2.out).mono ?_
                      rintro e w' ⟨rfl, d2, hw⟩
                      rw [World.drewN_drewN] at hw
                      subst hw
                      go_wp2_with fail
                      rw [show (k : Int) + (fs.length : Int) = ((k + fs.length : Nat) : Int) by omega]
                      refine ((hB.drewN _).entry HE3.out).mono ?_
                      rintro e w' ⟨rfl, d3, hw⟩
                      rw [World.drewN_drewN] at hw
                      subst hw
                      go_wp2_with fail
                      go_roundw
                      case rel => exact ⟨k + 1, _, by omega, by go_num, rfl⟩
                      case measure => simp [intOf]; omega
                    · go_wp2_with fail
                      go_ret
                      exact ⟨rfl, hbel.trans (((Turns.refl (fun _ => False) wy).drewN d).below (fun _ _ h => h) hbel.size)⟩
end Go.Proofs.Qxb6603438aMods
