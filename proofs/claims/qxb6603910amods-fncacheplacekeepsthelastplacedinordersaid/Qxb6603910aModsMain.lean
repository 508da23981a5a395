import Derived.Test.Qxb6603910aModsTail
namespace Go.Proofs.Qxb6603910aMods
open Go.RowKit Go.Maps
set_option linter.unusedSimpArgs false
set_option linter.unusedVariables false
attribute [local go_sem ↓] Go.wp_at_zero Go.wp_at_succ

def RetB (e : Ending) : Prop := ∃ bb : Bool, e = .returned (.bool bb)
theorem bytes_any (w : World) (a0 a1 a2 : Int) (a3 : Bool) (a : Option Addr) (len cap : Nat) (hl : len ≤ maxLen) :
    Calls Trym.prog 24 #[.int .i64 a0, .int .u8 a1, .int .u64 a2, .bool a3, .slice a len cap] w fun e w' => RetB e ∧ w' = w := by
  unfold maxLen at hl
  go_enter Trym.func24, Trym.ntmps24
  go_wp2
  all_goals (go_ret; exact ⟨⟨_, rfl⟩, rfl⟩)

/-- What the walk is told of the list. -/
def Nums (w : World) (a : Option Addr) (len : Nat) (zs : List Int) : Prop := ∀ k, k < len → ∃ b off, a = some ⟨b, off, none⟩ ∧ b < w.heap.size ∧ (∀ j, j < len → w.cell? ⟨b, off + j, none⟩ = some (.int .u64 (zs.getD j 0))) ∧ (∀ j, j < len → (Lit.int .u64 (zs.getD j 0)).wf = true)

set_option maxHeartbeats 8000000 in
set_option maxRecDepth 100000 in
theorem main_good (w : World) (seed : Int) (C L N : Nat) (c0 : Bool) (a : Option Addr) (len cap : Nat) (zs : List Int) (hz : Nums w a len zs) (hl : len ≤ 65536) (hL : L ≤ 16) (hN : N = 2 ^ L) (hC : 1 ≤ C) (hCN : C < N) :
    Calls Trym.prog 6 #[.int .i64 C, .int .u8 L, .int .u64 seed, .bool c0, .slice a len cap] w fun e w' => e = .returned (.bool true) ∧ Below w.heap.size w w' := by
  have hle : N ≤ 65536 := by rw [hN]; exact Nat.pow_le_pow_right (by decide) hL
  have hsh := shl_wrap L N hN hL
  have HN : Hid (N = 2 ^ L) := hN
  have HZ : Hid (Nums w a len zs) := hz
  have hmm := @run_makeMap Trym.prog
  clear hN hz
  obtain ⟨i0, hi0, hz0, hz1, hz2⟩ := info_parts info23
  go_enter Trym.func6, Trym.ntmps6
  go_wp2_with fail
  refine (bytes_any w C L seed c0 a len cap (by unfold maxLen; omega)).mono ?_
  rintro e w' ⟨⟨bb, rfl⟩, hw⟩
  obtain rfl : w = w' := hw.symm
  cases bb
  · go_wp2_with fail
    go_ret
    exact ⟨rfl, Below.refl _ _⟩
  go_wp2_with fail
  refine (new_any w C N seed c0 (by omega) hle).mono ?_
  rintro e w1 ⟨cb, pB, iB, rfl, hA1, hB1, g1, g2, g3⟩
  obtain ⟨Z, hZ, hmk⟩ := make_cap w1 len hl
  have HBG : Hid (Big w ((w1.alloc (.cells Z 23)).alloc (.map #[] 0)) cb pB iB (w1.heap.size + 1) seed N C c0 (S0 C N c0) [] (.slice (some ⟨w1.heap.size, 0, none⟩) 0 len) (.map [])) := big_start hA1 hB1 g1 g2 g3 hC Z len hZ hl
  clear hA1 hB1 g1 g2 g3 hZ
  go_wp2_with fail
  clear hmk hsh hmm
  generalize hv0 : Value.slice (some ⟨w1.heap.size, 0, none⟩) 0 len = v0 at *
  generalize w1.heap.size + 1 = mb at *
  generalize (w1.alloc (.cells Z 23)).alloc (.map #[] 0) = w2 at *
  clear hv0 w1
  go_loopw [14, 16] (fun v i wr => ∃ (k : Nat) (pd : List Int) (s : CS) (D : DataW Unit), k ≤ len ∧ i = .int .i64 k ∧ pd.length ≤ k ∧ Big w wr cb pB iB mb seed N C c0 s pd v D) (fun _ i _ => len - (intOf i).toNat)
  case atStart => exact ⟨0, [], _, _, Nat.zero_le _, rfl, by simp, HBG.out⟩
  case round =>
    clear HBG
    obtain ⟨k, pd, s, D, hk, rfl, hpk, hbig⟩ := hrel
    obtain ⟨j, hj⟩ : ∃ j, pd.length = j := ⟨_, rfl⟩
    obtain ⟨av, vcap, hv⟩ := hbig.form
    rw [hj] at hv hpk
    subst hv
    have HB : Hid (Big w wr cb pB iB mb seed N C c0 s pd (.slice av j vcap) D) := hbig
    have HJ : Hid (pd.length = j) := hj
    clear hbig hj
    by_cases hlt : k < len
    · obtain ⟨b, off, rfl, hbz, hcells, hwf⟩ := HZ.out k hlt
      have hc1 : wr.cell? ⟨b, off + k, none⟩ = some (.int .u64 (zs.getD k 0)) := by
        rw [← hcells k hlt]; exact HB.out.bel.cell hbz
      have hx := hwf k hlt
      generalize zs.getD k 0 = x at *
      have HX : Hid ((Lit.int .u64 x).wf = true) := hx
      clear hx hcells hwf
      rcases HB.out.look HX.out with ⟨i, h1, h2, h3, hrun⟩ | ⟨hn, hor⟩
      · as_aux_lemma =>
          rw [HJ.out] at h1 h2
          have HF : Hid (Calls Trym.prog 26 #[.pointer (some ⟨cb, 0, none⟩), .int .u64 x] wr fun e w' => FoundP (i % C : Nat) e ∧ w' = wr) := HB.out.find_in hC hCN HN.out hL (by rw [HJ.out]; exact h2) (by rw [HJ.out]; exact h1) h3
          have hm : (i : Int) % (C : Int) = ((i % C : Nat) : Int) := by omega
          have hmC : i % C < C := Nat.mod_lt _ hC
          generalize i % C = p at *
          clear h3
          go_wp2_with fail
          refine HF.out.mono ?_
          rintro e w' ⟨⟨t, rfl⟩, hw⟩
          obtain rfl : wr = w' := hw.symm
          go_wp2_with fail
          go_roundw
          case rel => exact ⟨k + 1, pd, s, D, by omega, by go_num, by rw [HJ.out]; omega, HB.out⟩
          case measure => simp [intOf]; omega
      · have HF : Hid (Calls Trym.prog 26 #[.pointer (some ⟨cb, 0, none⟩), .int .u64 x] wr fun e w' => FoundP (-1) e ∧ w' = wr) := HB.out.find_out hC hCN HN.out hL hn
        have HP : Hid (Calls Trym.prog 27 #[.pointer (some ⟨cb, 0, none⟩), .int .u64 x] wr fun e w' => e = .returned (.int .i32 (j % C : Nat)) ∧ Kept cb pB iB seed N C c0 pd x wr w') := by
          have := HB.out.place hC hCN HN.out hL (by rw [HJ.out]; omega) hn
          rw [HJ.out] at this; exact this
        have hm : (j : Int) % (C : Int) = ((j % C : Nat) : Int) := by omega
        have hmC : j % C < C := Nat.mod_lt _ hC
        have HM : Hid (C < j + 1 ∨ j % C = j) := by
          rcases Nat.lt_or_ge j C with h | h
          · exact .inr (Nat.mod_eq_of_lt h)
          · exact .inl (by omega)
        have HPE : Hid (∀ q, j % C = q → Hid (j % C = q)) := fun q h => h
        generalize hp : j % C = p at *
        have HPP : Hid (j % C = p) := hp
        clear hn hp HPE
        rcases hor with ⟨i, h1, hrun⟩ | ⟨c, hrun⟩
        · as_aux_lemma =>
            rw [HJ.out] at h1
            go_wp2_with fail
            refine HF.out.mono ?_
            rintro e w' ⟨⟨t, rfl⟩, hw⟩
            obtain rfl : wr = w' := hw.symm
            go_wp2_with fail
            refine HP.out.mono ?_
            rintro e w1 ⟨rfl, hK⟩
            have HK : Hid (Kept cb pB iB seed N C c0 pd x wr w1) := hK
            clear hK
            have HR : Hid (w1.ownsRow w.heap.size 23 1 (.slice av j vcap) j (pd.map (Value.int .u64))) := HB.out.row1 HJ.out HK.out
            have hws1 : w.heap.size ≤ w1.heap.size := HB.out.size1 HK.out
            clear HF HP hrun
            go_wp2_with (at_builtin; go_must (refine wpList_append_lies _ rfl _ _ 53 (by rfl) w.heap.size 23 i0 (.int .u64 0) 1 8 Trym.underlying53 hi0 hz0 hz1 hz2 (by rfl) (by omega) (.slice av j vcap) j (pd.map (Value.int .u64)) (by rfl) ?hown ⟨w1.heap.size,0,none⟩ 1 1 [.int .u64 x] (by rfl) (by rfl) ?hnews ?h1 (by omega) (by unfold maxLen; omega) (by omega) (by simp; omega) (w1.heap.size+1) ?hs ?_; (case hown => exact HR.out.alloc _); (case hnews => exact World.news_of_block (alloc_at rfl _)); (case h1 => intro u hu; simp at hu; subst hu; rfl); (case hs => simp); intro g cap2 w2 hown2 hgrow2 hat2 hlt2; obtain ⟨w3, hup, s3, D3, hb3⟩ := HB.out.upd HX.out HJ.out (by omega) HK.out hown2 hgrow2 (at_of hat2); have HB3 : Hid (Big w w3 cb pB iB mb seed N C c0 s3 (pd ++ [x]) (.slice (some ⟨g, 0, none⟩) (j + 1) cap2) D3) := hb3; clear hb3 hown2 hgrow2 hat2 hlt2))
            clear hup HB HR HK
            have HJ1 : Hid ((pd ++ [x]).length = j + 1) := by
              show (pd ++ [x]).length = j + 1
              rw [List.length_append, HJ.out]; rfl
            have hcc : ¬ j + 1 ≤ C := by omega
            have HF : Hid (Fields C N C (j % C) ((j + 1 - C) % C) (j + 1 - C) false cb w3) := HB3.out.fields_hi (by omega) hle HJ1.out (by omega)
            rw [HPP.out] at HF
            obtain ⟨ev, hev⟩ : ∃ ev, ev = j + 1 - C := ⟨_, rfl⟩
            have q1 : (j : Int) + 1 - (C : Int) = (ev : Int) := by omega
            have q2 : (ev : Int) % (C : Int) = ((ev % C : Nat) : Int) := by omega
            have q3 : ev % C < C := Nat.mod_lt _ hC
            have q4 : ev ≤ 65536 := by omega
            rw [← hev] at HF
            clear hev
            generalize ev % C = od at *
            refine HF.out.mono ?_
            rintro e w4 ⟨rfl, d, hw⟩
            have HB4 : Hid (Big w w4 cb pB iB mb seed N C c0 s3 (pd ++ [x]) (.slice (some ⟨g, 0, none⟩) (j + 1) cap2) D3) := by rw [hw]; exact HB3.out.drewN d
            clear hw HB3 HF
            cases c0
            all_goals go_wp2_with fail
            all_goals (go_roundw; (case rel => exact ⟨k + 1, pd ++ [x], s3, D3, by omega, by go_num, by rw [HJ1.out]; omega, HB4.out⟩); (case measure => simp [intOf]; omega))
        · as_aux_lemma =>
            skip
            go_wp2_with fail
            refine HF.out.mono ?_
            rintro e w' ⟨⟨t, rfl⟩, hw⟩
            obtain rfl : wr = w' := hw.symm
            go_wp2_with fail
            refine HP.out.mono ?_
            rintro e w1 ⟨rfl, hK⟩
            have HK : Hid (Kept cb pB iB seed N C c0 pd x wr w1) := hK
            clear hK
            have HR : Hid (w1.ownsRow w.heap.size 23 1 (.slice av j vcap) j (pd.map (Value.int .u64))) := HB.out.row1 HJ.out HK.out
            have hws1 : w.heap.size ≤ w1.heap.size := HB.out.size1 HK.out
            clear HF HP hrun
            go_wp2_with (at_builtin; go_must (refine wpList_append_lies _ rfl _ _ 53 (by rfl) w.heap.size 23 i0 (.int .u64 0) 1 8 Trym.underlying53 hi0 hz0 hz1 hz2 (by rfl) (by omega) (.slice av j vcap) j (pd.map (Value.int .u64)) (by rfl) ?hown ⟨w1.heap.size,0,none⟩ 1 1 [.int .u64 x] (by rfl) (by rfl) ?hnews ?h1 (by omega) (by unfold maxLen; omega) (by omega) (by simp; omega) (w1.heap.size+1) ?hs ?_; (case hown => exact HR.out.alloc _); (case hnews => exact World.news_of_block (alloc_at rfl _)); (case h1 => intro u hu; simp at hu; subst hu; rfl); (case hs => simp); intro g cap2 w2 hown2 hgrow2 hat2 hlt2; obtain ⟨w3, hup, s3, D3, hb3⟩ := HB.out.upd HX.out HJ.out (by omega) HK.out hown2 hgrow2 (at_of hat2); have HB3 : Hid (Big w w3 cb pB iB mb seed N C c0 s3 (pd ++ [x]) (.slice (some ⟨g, 0, none⟩) (j + 1) cap2) D3) := hb3; clear hb3 hown2 hgrow2 hat2 hlt2))
            clear hup HB HR HK
            have HJ1 : Hid ((pd ++ [x]).length = j + 1) := by
              show (pd ++ [x]).length = j + 1
              rw [List.length_append, HJ.out]; rfl
            by_cases hc : j + 1 ≤ C
            · have HF : Hid (Fields C N (j + 1) j 0 0 c0 cb w3) := HB3.out.fields_lo (by omega) hle HJ1.out hc
              have hpj : j = p := by have := HM.out; omega
              subst hpj
              have q1 : ((j : Int) + 1 - ((j : Int) + 1)) % (C : Int) = 0 := by simp
              refine HF.out.mono ?_
              rintro e w4 ⟨rfl, d, hw⟩
              have HB4 : Hid (Big w w4 cb pB iB mb seed N C c0 s3 (pd ++ [x]) (.slice (some ⟨g, 0, none⟩) (j + 1) cap2) D3) := by rw [hw]; exact HB3.out.drewN d
              clear hw HB3 HF
              cases c0
              all_goals go_wp2_with fail
              all_goals (go_roundw; (case rel => exact ⟨k + 1, pd ++ [x], s3, D3, by omega, by go_num, by rw [HJ1.out]; omega, HB4.out⟩); (case measure => simp [intOf]; omega))
            · have HF : Hid (Fields C N C (j % C) ((j + 1 - C) % C) (j + 1 - C) false cb w3) := HB3.out.fields_hi (by omega) hle HJ1.out (by omega)
              rw [HPP.out] at HF
              obtain ⟨ev, hev⟩ : ∃ ev, ev = j + 1 - C := ⟨_, rfl⟩
              have q1 : (j : Int) + 1 - (C : Int) = (ev : Int) := by omega
              have q2 : (ev : Int) % (C : Int) = ((ev % C : Nat) : Int) := by omega
              have q3 : ev % C < C := Nat.mod_lt _ hC
              have q4 : ev ≤ 65536 := by omega
              rw [← hev] at HF
              clear hev
              generalize ev % C = od at *
              refine HF.out.mono ?_
              rintro e w4 ⟨rfl, d, hw⟩
              have HB4 : Hid (Big w w4 cb pB iB mb seed N C c0 s3 (pd ++ [x]) (.slice (some ⟨g, 0, none⟩) (j + 1) cap2) D3) := by rw [hw]; exact HB3.out.drewN d
              clear hw HB3 HF
              cases c0
              all_goals go_wp2_with fail
              all_goals (go_roundw; (case rel => exact ⟨k + 1, pd ++ [x], s3, D3, by omega, by go_num, by rw [HJ1.out]; omega, HB4.out⟩); (case measure => simp [intOf]; omega))
    · clear HZ
      by_cases hjC : C < j
      · go_wp2_with fail
        have HK : Hid (C = min j C) := by show C = min j C; omega
        obtain ⟨tk, ev, cc, hfq⟩ := HB.out.fieldsQ hC (by omega) hle HJ.out HK.out
        obtain ⟨q0, hq0⟩ : ∃ q0, qOf C j C 0 = q0 := ⟨_, rfl⟩
        obtain ⟨od, hod⟩ : ∃ od, pvOf C j C = od := ⟨_, rfl⟩
        rw [hq0, hod] at hfq
        have HQ0 : Hid (qOf C j C 0 = q0) := hq0
        have HOD : Hid (pvOf C j C = od) := hod
        have HFQ : Hid (FieldsQ C N tk q0 od ev cc cb wr) := hfq
        clear hq0 hod hfq
        refine HFQ.out.mono ?_
        rintro e w1 ⟨rfl, d, hw⟩
        have HB1 : Hid (Big w w1 cb pB iB mb seed N C c0 s pd (.slice av j vcap) D) := by rw [hw]; exact HB.out.drewN d
        clear hw HB HFQ
        go_wp2_with fail
        go_loopw [46, 47, 48] (fun q pv i wr => ∃ (k : Nat) (qv pvv : Int), k ≤ C ∧ i = .int .i64 k ∧ q = .int .i32 qv ∧ pv = .int .i32 pvv ∧ qv = qOf C j C k ∧ pvv = pvOf C j k ∧ Big w wr cb pB iB mb seed N C c0 s pd (.slice av j vcap) D) (fun _ _ i _ => C - (intOf i).toNat)
        case atStart => exact ⟨0, q0, -1, Nat.zero_le _, rfl, rfl, rfl, HQ0.out.symm, rfl, HB1.out⟩
        case round =>
          clear HB1 HQ0
          obtain ⟨k2, qv, pv, hk2, rfl, rfl, rfl, hq, hpv, hbig⟩ := hrel
          have HB2 : Hid (Big w wr cb pB iB mb seed N C c0 s pd (.slice av j vcap) D) := hbig
          clear hbig
          by_cases hlt2 : k2 < C
          · as_aux_lemma =>
              obtain ⟨n, hn⟩ : ∃ n, n = j - 1 - k2 := ⟨_, rfl⟩
              have n1 : (j : Int) - 1 - (k2 : Int) = (n : Int) := by omega
              have hnj : n < j := by omega
              obtain ⟨g, rfl, hcs⟩ := HB2.out.cellv HJ.out (by omega)
              have HL : Hid (LinksAt cb wr ((j - 1 - k2) % C) (pd.getD (j - 1 - k2) 0) (pvOf C j k2) (qOf C j C (k2 + 1))) := HB2.out.links hC (by omega) HJ.out HK.out hlt2
              obtain ⟨q2, hq2⟩ : ∃ q2, qOf C j C (k2 + 1) = q2 := ⟨_, rfl⟩
              have HQ2 : Hid (qOf C j C (k2 + 1) = q2) := hq2
              have hqn : qv = ((n % C : Nat) : Int) := by rw [hq]; unfold qOf; rw [if_pos hlt2, ← hn]
              have HPV : Hid (((n % C : Nat) : Int) = pvOf C j (k2 + 1)) := by
                show _ = pvOf C j (k2 + 1)
                unfold pvOf; rw [if_neg (by omega), hn, Nat.sub_sub, Nat.add_comm 1 k2]
              rw [← hn, ← hpv, hq2] at HL
              clear hq hpv hq2
              subst hqn
              clear hn
              have m1 : (n : Int) % (C : Int) = ((n % C : Nat) : Int) := by omega
              have m2 : n % C < C := Nat.mod_lt _ hC
              generalize n % C = p at *
              obtain ⟨xn, hxn⟩ : ∃ xn, pd.getD n 0 = xn := ⟨_, rfl⟩
              have HXN : Hid (pd.getD n 0 = xn) := hxn
              rw [hxn] at HL
              clear hxn hcs
              go_wp2_with fail
              refine HL.out.mono ?_
              rintro e w2 ⟨rfl, d, o, hw⟩
              have HB3 : Hid (Big w w2 cb pB iB mb seed N C c0 s pd (.slice (some ⟨g, 0, none⟩) j vcap) D) := by rw [hw]; exact HB2.out.kept (((Turns.refl _ wr).alloc o).drewN d)
              have cn : w2.cell? ⟨g, n, none⟩ = some (.int .u64 xn) := by
                obtain ⟨g', e', hcs⟩ := HB3.out.cellv HJ.out (by omega)
                cases e'
                rw [← HXN.out]; exact hcs n hnj
              clear hw HB2 HL
              go_wp2_with fail
              go_roundw
              case rel => exact ⟨k2 + 1, q2, p, by omega, by go_num, rfl, rfl, HQ2.out.symm, HPV.out, HB3.out⟩
              case measure => simp [intOf]; omega
          · have hke : k2 = C := by omega
            have hqv : qv = -1 := by rw [hq]; unfold qOf; rw [if_neg (by omega)]
            have hpo : pv = od := by rw [hpv, hke]; exact HOD.out
            clear hq hpv hke
            subst hqv hpo
            clear HOD
            go_wp2_with fail
            go_loop [53] (fun i => Span (j - C) j i) (fun i => j - (intOf i).toNat)
            case atStart => exact ⟨j - C, by omega, by omega, by go_num⟩
            case round =>
              obtain ⟨k3, hk3, hk3', rfl⟩ := hrel
              by_cases hlt3 : k3 < j
              · as_aux_lemma =>
                  obtain ⟨g, rfl, hcs⟩ := HB2.out.cellv HJ.out (by omega)
                  have cn := hcs k3 hlt3
                  have HF : Hid (Calls Trym.prog 26 #[.pointer (some ⟨cb, 0, none⟩), .int .u64 (pd.getD k3 0)] wr fun e w' => FoundP (k3 % C : Nat) e ∧ w' = wr) := HB2.out.find_in hC hCN HN.out hL (by rw [HJ.out]; omega) (by rw [HJ.out]; exact hlt3) rfl
                  generalize pd.getD k3 0 = x3 at *
                  have m1 : (k3 : Int) % (C : Int) = ((k3 % C : Nat) : Int) := by omega
                  have m2 : k3 % C < C := Nat.mod_lt _ hC
                  generalize k3 % C = p at *
                  clear hcs
                  go_wp2_with fail
                  refine HF.out.mono ?_
                  rintro e w' ⟨⟨t, rfl⟩, hw⟩
                  obtain rfl : wr = w' := hw.symm
                  go_wp2_with fail
                  go_round
                  case rel => exact ⟨k3 + 1, by omega, by omega, by go_num⟩
                  case measure => simp [intOf]; omega
              · have hk3e : k3 = j := by omega
                subst hk3e
                go_wp2_with fail
                go_loop [56] (fun i => ∃ k : Nat, k ≤ k3 - C ∧ i = .int .i64 k) (fun i => k3 - C - (intOf i).toNat)
                case atStart => exact ⟨0, by omega, by go_num⟩
                case round =>
                  obtain ⟨k4, hk4, rfl⟩ := hrel
                  by_cases hlt4 : k4 < k3 - C
                  · as_aux_lemma =>
                      obtain ⟨g, rfl, hcs⟩ := HB2.out.cellv HJ.out (by omega)
                      have cn := hcs k4 (by omega)
                      obtain ⟨i4, hi1, hi2, hrun, hf⟩ := HB2.out.other hC hCN HN.out hL HJ.out HK.out hlt4
                      have HF : Hid (i4 = k4 → Calls Trym.prog 26 #[.pointer (some ⟨cb, 0, none⟩), .int .u64 (pd.getD k4 0)] wr fun e w' => FoundP (-1) e ∧ w' = wr) := hf
                      clear hf hcs
                      generalize pd.getD k4 0 = x4 at *
                      by_cases hie : i4 = k4
                      · have HF2 : Hid (Calls Trym.prog 26 #[.pointer (some ⟨cb, 0, none⟩), .int .u64 x4] wr fun e w' => FoundP (-1) e ∧ w' = wr) := HF.out hie
                        clear HF
                        subst hie
                        go_wp2_with fail
                        refine HF2.out.mono ?_
                        rintro e w' ⟨⟨t, rfl⟩, hw⟩
                        obtain rfl : wr = w' := hw.symm
                        go_wp2_with fail
                        go_round
                        case rel => exact ⟨i4 + 1, by omega, by go_num⟩
                        case measure => simp [intOf]; omega
                      · have hne : ((i4 : Int) == (k4 : Int)) = false := beq_eq_false_iff_ne.2 (by omega)
                        clear HF
                        go_wp2_with fail
                        go_round
                        case rel => exact ⟨k4 + 1, by omega, by go_num⟩
                        case measure => simp [intOf]; omega
                  · go_wp2_with fail
                    go_loop [59, 60] (fun c i => ∃ k cv : Nat, k ≤ N ∧ i = .int .i64 k ∧ c = .int .i64 cv ∧ cv ≤ k ∧ cv = cnt (s.ix.take k)) (fun _ i => N - (intOf i).toNat)
                    case atStart => exact ⟨0, 0, by omega, by go_num, by go_num, by omega, by simp [cnt]⟩
                    case round =>
                      obtain ⟨k5, cv, hk5, rfl, rfl, hcvk, hcv⟩ := hrel
                      have HCV : Hid (cv = cnt (s.ix.take k5)) := hcv
                      clear hcv
                      by_cases hlt5 : k5 < N
                      · as_aux_lemma =>
                          rcases HB2.out.index hle HJ.out HK.out hlt5 with ⟨hix, hct⟩ | ⟨q, hq, hix, hct⟩
                          · have HIX : Hid (IndexAt cb wr k5 0) := hix
                            have HCT : Hid (cnt (s.ix.take (k5 + 1)) = cnt (s.ix.take k5)) := hct
                            clear hix hct
                            go_wp2_with fail
                            refine HIX.out.mono ?_
                            rintro e w' ⟨rfl, hw⟩
                            obtain rfl : wr = w' := hw.symm
                            go_wp2_with fail
                            go_round
                            case rel => exact ⟨k5 + 1, cv, by omega, by go_num, rfl, by omega, by rw [HCT.out]; exact HCV.out⟩
                            case measure => simp [intOf]; omega
                          · have HIX : Hid (IndexAt cb wr k5 ((q : Int) + 1)) := hix
                            have HCT : Hid (cnt (s.ix.take (k5 + 1)) = cnt (s.ix.take k5) + 1) := hct
                            clear hix hct
                            have hq0 : (((q : Int) + 1) == 0) = false := beq_eq_false_iff_ne.2 (by omega)
                            go_wp2_with fail
                            refine HIX.out.mono ?_
                            rintro e w' ⟨rfl, hw⟩
                            obtain rfl : wr = w' := hw.symm
                            go_wp2_with fail
                            go_round
                            case rel => exact ⟨k5 + 1, cv + 1, by omega, by go_num, by go_num, by omega, by rw [HCT.out, HCV.out]⟩
                            case measure => simp [intOf]; omega
                      · have hk5e : k5 = N := by omega
                        have hcK : cv = C := by rw [HCV.out, hk5e]; exact HB2.out.counted HJ.out HK.out
                        subst hk5e
                        clear HCV
                        go_wp2_with fail
                        go_ret
                        exact ⟨by simp [hcK], HB2.out.bel⟩
      · go_wp2_with fail
        have HK : Hid (j = min j C) := by show j = min j C; omega
        obtain ⟨tk, ev, cc, hfq⟩ := HB.out.fieldsQ hC (by omega) hle HJ.out HK.out
        obtain ⟨q0, hq0⟩ : ∃ q0, qOf C j j 0 = q0 := ⟨_, rfl⟩
        obtain ⟨od, hod⟩ : ∃ od, pvOf C j j = od := ⟨_, rfl⟩
        rw [hq0, hod] at hfq
        have HQ0 : Hid (qOf C j j 0 = q0) := hq0
        have HOD : Hid (pvOf C j j = od) := hod
        have HFQ : Hid (FieldsQ C N tk q0 od ev cc cb wr) := hfq
        clear hq0 hod hfq
        refine HFQ.out.mono ?_
        rintro e w1 ⟨rfl, d, hw⟩
        have HB1 : Hid (Big w w1 cb pB iB mb seed N C c0 s pd (.slice av j vcap) D) := by rw [hw]; exact HB.out.drewN d
        clear hw HB HFQ
        go_wp2_with fail
        go_loopw [46, 47, 48] (fun q pv i wr => ∃ (k : Nat) (qv pvv : Int), k ≤ j ∧ i = .int .i64 k ∧ q = .int .i32 qv ∧ pv = .int .i32 pvv ∧ qv = qOf C j j k ∧ pvv = pvOf C j k ∧ Big w wr cb pB iB mb seed N C c0 s pd (.slice av j vcap) D) (fun _ _ i _ => j - (intOf i).toNat)
        case atStart => exact ⟨0, q0, -1, Nat.zero_le _, rfl, rfl, rfl, HQ0.out.symm, rfl, HB1.out⟩
        case round =>
          clear HB1 HQ0
          obtain ⟨k2, qv, pv, hk2, rfl, rfl, rfl, hq, hpv, hbig⟩ := hrel
          have HB2 : Hid (Big w wr cb pB iB mb seed N C c0 s pd (.slice av j vcap) D) := hbig
          clear hbig
          by_cases hlt2 : k2 < j
          · as_aux_lemma =>
              obtain ⟨n, hn⟩ : ∃ n, n = j - 1 - k2 := ⟨_, rfl⟩
              have n1 : (j : Int) - 1 - (k2 : Int) = (n : Int) := by omega
              have hnj : n < j := by omega
              obtain ⟨g, rfl, hcs⟩ := HB2.out.cellv HJ.out (by omega)
              have HL : Hid (LinksAt cb wr ((j - 1 - k2) % C) (pd.getD (j - 1 - k2) 0) (pvOf C j k2) (qOf C j j (k2 + 1))) := HB2.out.links hC (by omega) HJ.out HK.out hlt2
              obtain ⟨q2, hq2⟩ : ∃ q2, qOf C j j (k2 + 1) = q2 := ⟨_, rfl⟩
              have HQ2 : Hid (qOf C j j (k2 + 1) = q2) := hq2
              have hqn : qv = ((n % C : Nat) : Int) := by rw [hq]; unfold qOf; rw [if_pos hlt2, ← hn]
              have HPV : Hid (((n % C : Nat) : Int) = pvOf C j (k2 + 1)) := by
                show _ = pvOf C j (k2 + 1)
                unfold pvOf; rw [if_neg (by omega), hn, Nat.sub_sub, Nat.add_comm 1 k2]
              rw [← hn, ← hpv, hq2] at HL
              clear hq hpv hq2
              subst hqn
              clear hn
              have m1 : (n : Int) % (C : Int) = ((n % C : Nat) : Int) := by omega
              have m2 : n % C < C := Nat.mod_lt _ hC
              generalize n % C = p at *
              obtain ⟨xn, hxn⟩ : ∃ xn, pd.getD n 0 = xn := ⟨_, rfl⟩
              have HXN : Hid (pd.getD n 0 = xn) := hxn
              rw [hxn] at HL
              clear hxn hcs
              go_wp2_with fail
              refine HL.out.mono ?_
              rintro e w2 ⟨rfl, d, o, hw⟩
              have HB3 : Hid (Big w w2 cb pB iB mb seed N C c0 s pd (.slice (some ⟨g, 0, none⟩) j vcap) D) := by rw [hw]; exact HB2.out.kept (((Turns.refl _ wr).alloc o).drewN d)
              have cn : w2.cell? ⟨g, n, none⟩ = some (.int .u64 xn) := by
                obtain ⟨g', e', hcs⟩ := HB3.out.cellv HJ.out (by omega)
                cases e'
                rw [← HXN.out]; exact hcs n hnj
              clear hw HB2 HL
              go_wp2_with fail
              go_roundw
              case rel => exact ⟨k2 + 1, q2, p, by omega, by go_num, rfl, rfl, HQ2.out.symm, HPV.out, HB3.out⟩
              case measure => simp [intOf]; omega
          · have hke : k2 = j := by omega
            have hqv : qv = -1 := by rw [hq]; unfold qOf; rw [if_neg (by omega)]
            have hpo : pv = od := by rw [hpv, hke]; exact HOD.out
            clear hq hpv hke
            subst hqv hpo
            clear HOD
            go_wp2_with fail
            go_loop [53] (fun i => Span (j - j) j i) (fun i => j - (intOf i).toNat)
            case atStart => exact ⟨j - j, by omega, by omega, by go_num⟩
            case round =>
              obtain ⟨k3, hk3, hk3', rfl⟩ := hrel
              by_cases hlt3 : k3 < j
              · as_aux_lemma =>
                  obtain ⟨g, rfl, hcs⟩ := HB2.out.cellv HJ.out (by omega)
                  have cn := hcs k3 hlt3
                  have HF : Hid (Calls Trym.prog 26 #[.pointer (some ⟨cb, 0, none⟩), .int .u64 (pd.getD k3 0)] wr fun e w' => FoundP (k3 % C : Nat) e ∧ w' = wr) := HB2.out.find_in hC hCN HN.out hL (by rw [HJ.out]; omega) (by rw [HJ.out]; exact hlt3) rfl
                  generalize pd.getD k3 0 = x3 at *
                  have m1 : (k3 : Int) % (C : Int) = ((k3 % C : Nat) : Int) := by omega
                  have m2 : k3 % C < C := Nat.mod_lt _ hC
                  generalize k3 % C = p at *
                  clear hcs
                  go_wp2_with fail
                  refine HF.out.mono ?_
                  rintro e w' ⟨⟨t, rfl⟩, hw⟩
                  obtain rfl : wr = w' := hw.symm
                  go_wp2_with fail
                  go_round
                  case rel => exact ⟨k3 + 1, by omega, by omega, by go_num⟩
                  case measure => simp [intOf]; omega
              · have hk3e : k3 = j := by omega
                subst hk3e
                go_wp2_with fail
                go_loop [56] (fun i => ∃ k : Nat, k ≤ k3 - k3 ∧ i = .int .i64 k) (fun i => k3 - k3 - (intOf i).toNat)
                case atStart => exact ⟨0, by omega, by go_num⟩
                case round =>
                  obtain ⟨k4, hk4, rfl⟩ := hrel
                  by_cases hlt4 : k4 < k3 - k3
                  · exact absurd hlt4 (by omega)
                  · go_wp2_with fail
                    go_loop [59, 60] (fun c i => ∃ k cv : Nat, k ≤ N ∧ i = .int .i64 k ∧ c = .int .i64 cv ∧ cv ≤ k ∧ cv = cnt (s.ix.take k)) (fun _ i => N - (intOf i).toNat)
                    case atStart => exact ⟨0, 0, by omega, by go_num, by go_num, by omega, by simp [cnt]⟩
                    case round =>
                      obtain ⟨k5, cv, hk5, rfl, rfl, hcvk, hcv⟩ := hrel
                      have HCV : Hid (cv = cnt (s.ix.take k5)) := hcv
                      clear hcv
                      by_cases hlt5 : k5 < N
                      · as_aux_lemma =>
                          rcases HB2.out.index hle HJ.out HK.out hlt5 with ⟨hix, hct⟩ | ⟨q, hq, hix, hct⟩
                          · have HIX : Hid (IndexAt cb wr k5 0) := hix
                            have HCT : Hid (cnt (s.ix.take (k5 + 1)) = cnt (s.ix.take k5)) := hct
                            clear hix hct
                            go_wp2_with fail
                            refine HIX.out.mono ?_
                            rintro e w' ⟨rfl, hw⟩
                            obtain rfl : wr = w' := hw.symm
                            go_wp2_with fail
                            go_round
                            case rel => exact ⟨k5 + 1, cv, by omega, by go_num, rfl, by omega, by rw [HCT.out]; exact HCV.out⟩
                            case measure => simp [intOf]; omega
                          · have HIX : Hid (IndexAt cb wr k5 ((q : Int) + 1)) := hix
                            have HCT : Hid (cnt (s.ix.take (k5 + 1)) = cnt (s.ix.take k5) + 1) := hct
                            clear hix hct
                            have hq0 : (((q : Int) + 1) == 0) = false := beq_eq_false_iff_ne.2 (by omega)
                            go_wp2_with fail
                            refine HIX.out.mono ?_
                            rintro e w' ⟨rfl, hw⟩
                            obtain rfl : wr = w' := hw.symm
                            go_wp2_with fail
                            go_round
                            case rel => exact ⟨k5 + 1, cv + 1, by omega, by go_num, by go_num, by omega, by rw [HCT.out, HCV.out]⟩
                            case measure => simp [intOf]; omega
                      · have hk5e : k5 = N := by omega
                        have hcK : cv = k3 := by rw [HCV.out, hk5e]; exact HB2.out.counted HJ.out HK.out
                        subst hk5e
                        clear HCV
                        go_wp2_with fail
                        go_ret
                        exact ⟨by simp [hcK], HB2.out.bel⟩
end Go.Proofs.Qxb6603910aMods
