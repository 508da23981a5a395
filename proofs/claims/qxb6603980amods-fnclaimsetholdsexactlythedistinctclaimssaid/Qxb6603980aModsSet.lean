/-
  claimSet, ZZClaimSet.
-/
import Derived.Test.Qxb6603980aModsCopy
namespace Go.Proofs.Qxb6603980aMods
open Go.RowKit Go.Maps
set_option linter.unusedSimpArgs false
set_option linter.unusedVariables false
attribute [local go_sem ↓] Go.wp_at_zero Go.wp_at_succ

def klOf (P : Program) (f : Fl) : Lit := (keyOf P 34 (.agg #[.string f.1, .string f.2.1, .string f.2.2])).getD (.bool false)
def Fits (f : Fl) : Prop := f.1.size ≤ maxLen ∧ f.2.1.size ≤ maxLen ∧ f.2.2.size ≤ maxLen
theorem kl_of {f : Fl} (h : Fits f) : keyOf Trym.prog 34 (.agg #[.string f.1, .string f.2.1, .string f.2.2]) = some (klOf Trym.prog f) := by
  obtain ⟨k, hk⟩ := key_some f.1 f.2.1 f.2.2 h.1 h.2.1 h.2.2
  unfold klOf
  rw [hk]; rfl
def setD (P : Program) (fs : List Fl) : Nat → DataW Unit
  | 0 => .map []
  | k + 1 => (setD P fs k).put (klOf P (fs.getD k default)) (.lit (.bool true))
theorem setD_succ {fs : List Fl} {k : Nat} {f : Fl} (h : fs[k]? = some f) : setD Trym.prog fs (k + 1) = (setD Trym.prog fs k).put (klOf Trym.prog f) (.lit (.bool true)) := by
  show (setD Trym.prog fs k).put (klOf Trym.prog (fs.getD k default)) _ = _
  rw [show fs.getD k default = f by simp [List.getD, h]]
theorem make_hint (w : World) (n : Nat) : (Instr.makeMap 26 (some (.int .i64 n))).run Trym.prog w = .ok (.map (some w.heap.size)) (w.alloc (.map #[] 0)) := by
  unfold Instr.makeMap
  simp [run_underlying Trym.underlying26, asInt, newObj, go_sem]
  rfl
/-- The map that 'claimSet' makes. -/
def Made (fs : List Fl) (w : World) (e : Ending) (w' : World) : Prop := ∃ mb, e = .returned (.map (some mb)) ∧ w'.ownsMap Trym.prog 34 (plainElem Trym.prog 4) mb fs.length (setD Trym.prog fs fs.length) ∧ Turns (fun _ => False) w w'
set_option maxHeartbeats 1000000 in
theorem set_any (w : World) (a : Option Addr) (cap : Nat) (fs : List Fl) (hm : fs.length ≤ 4096) (hc : Told w a fs) (hf : ∀ f ∈ fs, Fits f) :
    Calls Trym.prog 11 #[.slice a fs.length cap] w (Made fs w) := by
  have hmm := make_hint w fs.length
  have HC : Hid (Told w a fs) := hc
  have HFI : Hid (∀ f ∈ fs, Fits f) := hf
  have HM0 : Hid ((w.alloc (.map #[] 0)).ownsMap Trym.prog 34 (plainElem (H := Unit) Trym.prog 4) w.heap.size 0 (.map [])) := World.ownsMap_made w Trym.prog 34 _
  clear hc hf
  go_enter Trym.func11, Trym.ntmps11
  go_wp2
  clear hmm
  go_loopw [11] (fun i wr => ∃ k : Nat, k ≤ fs.length ∧ i = .int .i64 k ∧ wr.ownsMap Trym.prog 34 (plainElem Trym.prog 4) w.heap.size k (setD Trym.prog fs k) ∧ Turns (fun _ => False) w wr) (fun i _ => fs.length - (intOf i).toNat)
  case atStart => exact ⟨0, Nat.zero_le _, rfl, HM0.out, (Turns.refl _ _).alloc _⟩
  case round =>
    clear HM0
    obtain ⟨k, hk, rfl, hM, hT⟩ := hrel
    have HM : Hid (wr.ownsMap Trym.prog 34 (plainElem Trym.prog 4) w.heap.size k (setD Trym.prog fs k)) := hM
    have HT : Hid (Turns (fun _ => False) w wr) := hT
    clear hM hT
    by_cases hlt : k < fs.length
    · have HF : Hid (fs[k]? = some fs[k]) := List.getElem?_eq_getElem hlt
      have HK : Hid (keyOf Trym.prog 34 (.agg #[.string fs[k].1, .string fs[k].2.1, .string fs[k].2.2]) = some (klOf Trym.prog fs[k])) := kl_of (HFI.out _ (List.getElem_mem hlt))
      generalize fs[k] = f at *
      obtain ⟨b, off, rfl, hb, hcc⟩ := HC.out.turns HT.out k hlt
      obtain ⟨c1, c2, c3⟩ := hcc k f HF.out
      clear hcc
      obtain ⟨w2, hup, hm2, hg2⟩ := (HM.out.alloc (.cells #[.string f.1, .string f.2.1, .string f.2.2] 34)).update law34 Trym.underlying26 (by unfold maxLen; omega) HK.out (plainElem_bool Trym.underlying4 true)
      have HM2 : Hid (w2.ownsMap Trym.prog 34 (plainElem Trym.prog 4) w.heap.size (k + 1) (setD Trym.prog fs (k + 1))) := by
        show w2.ownsMap Trym.prog 34 (plainElem Trym.prog 4) w.heap.size (k + 1) (setD Trym.prog fs (k + 1))
        rw [setD_succ HF.out]; exact hm2
      have HT2 : Hid (Turns (fun _ => False) w w2) := (HT.out.alloc _).grown hg2 (fun k hk => .inr (by cases hk; exact Nat.le_refl _))
      clear hm2 hg2
      go_wp2_with fail
      go_roundw
      case rel => exact ⟨k + 1, by omega, by go_num, HM2.out, HT2.out⟩
      case measure => simp [intOf]; omega
    · have hke : k = fs.length := by omega
      subst hke
      go_wp2_with fail
      go_ret
      exact ⟨_, rfl, HM.out, HT.out⟩
theorem zzset_any (w : World) (a : Option Addr) (cap : Nat) (fs : List Fl) (hm : fs.length ≤ 4096) (hc : Told w a fs) (hf : ∀ f ∈ fs, Fits f) :
    Calls Trym.prog 6 #[.slice a fs.length cap] w (Made fs w) := by
  have HS : Hid (Calls Trym.prog 11 #[.slice a fs.length cap] w (Made fs w)) := set_any w a cap fs hm hc hf
  clear hc hf
  go_enter Trym.func6, Trym.ntmps6
  go_wp2_with fail
  refine HS.out.mono ?_
  rintro e w' ⟨mb, rfl, hm2, hT⟩
  have HM : Hid (w'.ownsMap Trym.prog 34 (plainElem Trym.prog 4) mb fs.length (setD Trym.prog fs fs.length)) := hm2
  have HT : Hid (Turns (fun _ => False) w w') := hT
  clear hm2 hT
  go_wp2_with fail
  go_ret
  exact ⟨_, rfl, HM.out, HT.out⟩
end Go.Proofs.Qxb6603980aMods
