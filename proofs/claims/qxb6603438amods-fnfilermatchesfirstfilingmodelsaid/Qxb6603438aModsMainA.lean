import Derived.Test.Qxb6603438aModsRank
namespace Go.Proofs.Qxb6603438aMods
open Go.RowKit Go.Maps
set_option linter.unusedSimpArgs false
set_option linter.unusedVariables false
attribute [local go_sem ↓] Go.wp_at_zero Go.wp_at_succ

set_option maxHeartbeats 1000000 in
set_option maxRecDepth 100000 in
theorem main6 (w : World) (b off cap : Nat) (fs : List Fl) (hm : fs.length ≤ maxLen) (hc : Cells3 w b off fs) (hb : b < w.heap.size) (hsz : ∀ f ∈ fs, f.1.size ≤ maxLen ∧ f.2.1.size ≤ maxLen) :
    Calls Trym.prog 6 #[.slice (some ⟨b, off, none⟩) fs.length cap] w fun e w' => e = .returned (.bool true) ∧ Below w.heap.size w w' := by
  go_enter Trym.func6, Trym.ntmps6
  go_wp2_with fail
  refine (bytes_any w b off cap fs hm hc).mono ?_
  rintro e w' ⟨⟨bb, rfl, _⟩, hw⟩
  obtain rfl : w = w' := hw.symm
  cases bb
  · go_wp2_with fail
    go_ret
    exact ⟨rfl, Below.refl _ _⟩
  go_wp2_with fail
  refine (big_any _ b off cap fs hm hc).mono ?_
  rintro e w' ⟨⟨bb, rfl, h4⟩, hw⟩
  obtain rfl : w = w' := hw.symm
  cases bb
  rotate_left
  · go_wp2_with fail
    go_ret
    exact ⟨rfl, Below.refl _ _⟩
  replace h4 := h4 rfl
  go_wp2_with fail
  refine (copy_any _ b off cap fs h4 hc hb).mono ?_
  rintro e w1 ⟨rfl, hs1, hbel1, hz1⟩
  go_wp2_with fail
  refine (new_any _).mono ?_
  rintro e w2 ⟨rfl, hw2⟩
  have hF2 : FAt w2 (w.heap.size + 1) (fun x => x = w.heap.size + 1) [] [] := by
    have := FAt.new w1
    rw [hz1, ← hw2] at this; exact this
  have hs2 : w2.heap[w.heap.size]? = some (.cells (scells fs).toArray 34 (0, 0)) := by rw [hw2]; exact (Below.heap_alloc _ _ _ (block_lt hs1)).trans hs1
  have hb2 : Below w.heap.size w w2 := by rw [hw2]; exact hbel1.alloc (by omega) _
  rw [hz1]
  clear hw2 hs1 hbel1 hz1 w1 hc
  go_wp2_with fail
  go_loopw [4] (fun i wr => ∃ (k : Nat) (F : Nat → Prop), k ≤ fs.length ∧ i = .int .i64 k ∧ FAt wr (w.heap.size + 1) F (st (fs.take k)).1 (st (fs.take k)).2 ∧ (∀ x, F x → w.heap.size < x) ∧ wr.heap[w.heap.size]? = some (.cells (scells fs).toArray 34 (0, 0)) ∧ Below w.heap.size w wr) (fun i _ => fs.length - (intOf i).toNat)
  case atStart => exact ⟨0, _, Nat.zero_le _, rfl, by simpa [st] using hF2, fun x hx => by omega, hs2, hb2⟩
  case round =>
    obtain ⟨k, F, hk, rfl, hF, hFl, hs, hbel⟩ := hrel
    clear hF2 hs2 hb2
    by_cases hlt : k < fs.length
    · obtain ⟨c1, c2, c3⟩ := script_cells hs hlt
      have i0 : (0 : Int) ≤ (k : Int) := by omega
      have i1 : (k : Int) < (fs.length : Int) := by omega
      obtain ⟨z1, z2⟩ := hsz fs[k] (List.getElem_mem hlt)
      have hlen := (st_all fs k hk).1
      go_wp2_with fail
      go_region_held3 (fun w' => w'.cell? ⟨w.heap.size, k * 3, none⟩ = some (.string fs[k].1) ∧ w'.cell? ⟨w.heap.size, k * 3 + 1, none⟩ = some (.string fs[k].2.1) ∧ w'.cell? ⟨w.heap.size, k * 3 + 2, none⟩ = some (.int .i64 fs[k].2.2)) (go_keep)
        ((go_at_call 17; refine (zzfile_any _ (w.heap.size + 1) F _ _ _ _ _ (by exact hF) (by rw [hlen]; omega) z1 z2).mono ?_; rintro e w3 ⟨rfl, hF3, hT3⟩; have hs3 : w3.heap[w.heap.size]? = some (.cells (scells fs).toArray 34 (0, 0)) := hT3.keeps (by exact hs) (fun h => Nat.lt_irrefl _ (hFl _ h)); obtain ⟨d1, d2, d3⟩ := script_cells hs3 hlt))
      go_wp2_with fail
      go_roundw
      case rel =>
        refine ⟨k + 1, more F wr w3, by omega, by go_num, ?_, ?_, hs3, ?_⟩
        · rw [st_take hlt]; exact hF3
        · rintro x (hx | hx)
          · exact hFl x hx
          · have := hbel.size
            have h2 : w.heap.size < wr.heap.size := block_lt hs
            have h1 : wr.heap.size ≤ x := hx.1
            omega
        · exact Below.trans (b := wr.drew) hbel.drew (hT3.below (fun x hx h => by have := hFl x h; omega) hbel.size)
      case measure => simp [intOf]; omega
    · have hkn : k = fs.length := by omega
      subst hkn
      rw [List.take_length] at hF
      have hrs : w.heap.size < wr.heap.size := block_lt hs
      obtain ⟨j0, hj, hy0, hy1, hy2⟩ := info_parts info3
      obtain ⟨Z1, hZe1, hZ1, hmk1⟩ := make_runs (P := Trym.prog) wr 35 3 j0 _ 1 fs.length Trym.underlying35 hj hy0 hy1 (by omega) (by omega)
      obtain ⟨Z2, hZe2, hZ2, hmk2⟩ := make_runs (P := Trym.prog) (wr.alloc (.cells Z1 3)) 35 3 j0 _ 1 fs.length Trym.underlying35 hj hy0 hy1 (by omega) (by omega)
      clear hZe1 hZe2
      rw [show (wr.alloc (.cells Z1 3)).heap.size = wr.heap.size + 1 by simp] at hmk2
      go_wp2_with fail
      clear hmk1 hmk2
      have hT4 : Turns (fun _ => False) wr ((wr.alloc (.cells Z1 3)).alloc (.cells Z2 3)) := ((Turns.refl _ wr).alloc _).alloc _
      have hF4 := hF.kept hT4 (fun _ _ h => h)
      have hs4 := hT4.keeps hs (fun h => h)
      have hbel4 := hbel.trans (hT4.below (B := w.heap.size) (fun _ _ h => h) hbel.size)
      have hb1 : ((wr.alloc (.cells Z1 3)).alloc (.cells Z2 3)).heap[wr.heap.size]? = some (.cells Z1 3 (0, 0)) := (Below.heap_alloc _ _ _ (by simp)).trans (alloc_at rfl _)
      have hb2 : ((wr.alloc (.cells Z1 3)).alloc (.cells Z2 3)).heap[wr.heap.size + 1]? = some (.cells Z2 3 (0, 0)) := alloc_at (by simp) _
      have hFb : ∀ x, F x → x < wr.heap.size := by obtain ⟨_, _, _, _, _, h, _⟩ := hF; exact h
      generalize hfB : wr.heap.size = fB at *
      generalize (wr.alloc (.cells Z1 3)).alloc (.cells Z2 3) = w4 at *
      clear hT4 hF hs hbel hfB wr
      go_loopw [8, 9] (fun d i wr => ∃ k : Nat, k ≤ fs.length ∧ i = .int .i64 k ∧ d = .int .i64 (dist ((fs.map prF).take k)).length ∧ Row2 fs fB w4 wr k) (fun _ i _ => fs.length - (intOf i).toNat)
      case atStart => exact ⟨0, Nat.zero_le _, rfl, by simp [dist], Z1, Z2, hb1, by simpa using hZ1, fun j hj => by omega, hb2, by simpa using hZ2, fun j hj => by omega, Turns.refl _ _⟩
      case round =>
        obtain ⟨i, hi, rfl, rfl, hR⟩ := hrel
        have hT := hR.turns
        clear hb1 hb2
        by_cases hlt : i < fs.length
        · have hs := hT.keeps hs4 (by omega)
          obtain ⟨c1, c2, c3⟩ := script_cells hs hlt
          go_wp2_with fail
          go_loopw [10] (fun s wi => ∃ (k d : Nat), k ≤ i ∧ s = .int .i64 k ∧ wi = wr.drewN d ∧ ∀ j, j < k → (fs.map prF)[j]? ≠ some (prF fs[i])) (fun s _ => i - (intOf s).toNat)
          case atStart => exact ⟨0, 0, Nat.zero_le _, rfl, rfl, fun j hj => by omega⟩
          case round =>
            rename_i wi _
            obtain ⟨k, d, hki, rfl, rfl, hno⟩ := hrel
            have hdl : (dist ((fs.map prF).take i)).length ≤ i := dist_le i _
            obtain ⟨⟨v1, d1⟩, ⟨v2, d2⟩, f1, f2⟩ := hR.cells hlt
            by_cases hlk : k < i
            · obtain ⟨e1, e2, e3⟩ := script_cells hs (show k < fs.length by omega)
              have hqk : (fs.map prF)[k]? = some (prF fs[k]) := by simp [List.getElem?_eq_getElem (show k < fs.length by omega)]
              have HQ : Hid ((fs.map prF)[k]? = some (prF fs[k])) := hqk
              clear hqk
              by_cases ha : (fs[k].1.toList == fs[i].1.toList) = true
              · by_cases hr : (fs[k].2.1.toList == fs[i].2.1.toList) = true
                · have hF1 : Hid (IsFirst fs i k) := isFirst_of hlt hki hno (.inr (by rw [HQ.out]; unfold prF; rw [str_eq ha, str_eq hr]))
                  have hki' : ((k : Int) == (i : Int)) = false := beq_eq_false_iff_ne.2 (by omega)
                  go_wp2_with fail
                  go_quiet (fail)
                  go_wp2_with fail
                  exact ⟨⟨i + 1, by omega, by go_num, congrArg _ (dist_at_later hF1.out hlk), hR.step hlt hF1.out _⟩, by simp [intOf]; omega⟩
                · have hr' : (fs[k].2.1.toList == fs[i].2.1.toList) = false := by simpa using hr
                  clear hr
                  go_wp2_with fail
                  go_quiet (fail)
                  go_wp2_with fail
                  go_roundw
                  case rel =>
                    refine ⟨k + 1, _, by omega, by go_num, rfl, fun j hj => ?_⟩
                    by_cases e : j = k
                    · subst e; rw [HQ.out]; unfold prF; exact fun h => str_ne hr' (pr_inj (Option.some.inj h)).2
                    · exact hno j (by omega)
                  case measure => simp [intOf]; omega
              · have ha' : (fs[k].1.toList == fs[i].1.toList) = false := by simpa using ha
                clear ha
                go_wp2_with fail
                go_quiet (fail)
                go_wp2_with fail
                go_roundw
                case rel =>
                  refine ⟨k + 1, _, by omega, by go_num, rfl, fun j hj => ?_⟩
                  by_cases e : j = k
                  · subst e; rw [HQ.out]; unfold prF; exact fun h => str_ne ha' (pr_inj (Option.some.inj h)).1
                  · exact hno j (by omega)
                case measure => simp [intOf]; omega
            · have hke : k = i := by omega
              subst hke
              have hF1 : Hid (IsFirst fs k k) := isFirst_of hlt hki hno (.inl rfl)
              have hdf : decide ((k : Int) < (k : Int)) = false := by simp
              go_wp2_with fail
              go_quiet (fail)
              go_wp2_with fail
              exact ⟨⟨k + 1, by omega, by go_num, congrArg _ (dist_at_first hF1.out), hR.step hlt hF1.out _⟩, by simp [intOf]; omega⟩
        · have hin : i = fs.length := by omega
          subst hin
          have hF5 := hF4.kept hT (fun x hx h => by have := hFb x hx; omega)
          have hs := hT.keeps hs4 (by omega)
          have hbel5 := hbel4.trans (hT.below (B := w.heap.size) (fun x hx h => by omega) hbel4.size)
          rw [st_fst] at hF5
          rw [show (fs.map prF).take fs.length = fs.map prF from by rw [← List.length_map (f := prF), List.take_length]]
          have hdl : (dist (fs.map prF)).length ≤ fs.length := by
            have := dist_le (fs.map prF).length (fs.map prF)
            rw [List.take_length] at this; simpa using this
          go_wp2_with fail
          refine hF5.pairs.mono ?_
          rintro e w' ⟨rfl, hw⟩
          obtain rfl : wr = w' := hw.symm
          go_wp2_with fail
          refine hF5.places.mono ?_
          rintro e w' ⟨rfl, hw⟩
          obtain rfl : wr = w' := hw.symm
          go_wp2_with fail
          refine hF5.entries.mono ?_
          rintro e w' ⟨rfl, hw⟩
          obtain rfl : wr = w' := hw.symm
          rw [st_len]
          go_wp2_with fail
          go_loopw [11] (fun s wi => ∃ (k d : Nat), k ≤ fs.length ∧ s = .int .i64 k ∧ wi = wr.drewN d) (fun s _ => fs.length - (intOf s).toNat)
          case atStart => exact ⟨0, 0, Nat.zero_le _, rfl, rfl⟩
          case round =>
            rename_i wi _
            obtain ⟨k, d, hkn, rfl, rfl⟩ := hrel
            by_cases hlk : k < fs.length
            · obtain ⟨f, hf, c1⟩ := hR.first hlk
              have hfk : f ≤ k := hf.1
              have c2 := hR.rank (show f < fs.length by omega)
              have c3 := hR.rank hlk
              obtain ⟨c4, c5, c6⟩ := script_cells hs hlk
              have he := entry_first hlk hf
              go_wp2_with fail
              refine ((hF5.drewN d).entry he).mono ?_
              rintro e w' ⟨rfl, d1, hw⟩
              rw [World.drewN_drewN] at hw
              subst hw
              by_cases hfe : f = k
              · subst hfe
                go_wp2_with fail
                refine ((hF5.drewN (d + d1)).pair (pair_first hlk hf)).mono ?_
                rintro e w' ⟨rfl, d2, hw⟩
                rw [World.drewN_drewN] at hw
                subst hw
                obtain ⟨z1, z2⟩ := hsz fs[f] (List.getElem_mem hlk)
                obtain ⟨hin, hidx⟩ := place_first hlk hf
                have HPL : Hid (∀ n, Calls Trym.prog 23 #[.pointer (some ⟨w.heap.size + 1, 0, none⟩), .string fs[f].1, .string fs[f].2.1] (wr.drewN n) fun e w' => e = .returned (.tuple #[.int .i64 (dist ((fs.map prF).take f)).length, .bool true]) ∧ w' = wr.drewN n) := fun n => by
                  have := (hF5.drewN n).place z1 z2 hin
                  rw [hidx] at this; exact this
                clear hin hidx
                go_wp2_with fail
                go_quiet ((go_at_call 23; go_must (refine (HPL.out _).mono ?_; rintro e w' ⟨he, hw⟩; exact ⟨he, _, hw⟩)))
                go_wp2_with fail
                go_roundw
                case rel => exact ⟨f + 1, _, by omega, by go_num, rfl⟩
                case measure => simp [intOf]; omega
              · have hfk' : ((f : Int) == (k : Int)) = false := beq_eq_false_iff_ne.2 (by omega)
                go_wp2_with fail
                go_roundw
                case rel => exact ⟨k + 1, _, by omega, by go_num, rfl⟩
                case measure => simp [intOf]; omega
            · go_wp2_with fail
              go_ret
              exact ⟨rfl, hbel5.trans ((Turns.refl (fun _ => False) wr).drewN d |>.below (fun _ _ h => h) hbel5.size)⟩
end Go.Proofs.Qxb6603438aMods
