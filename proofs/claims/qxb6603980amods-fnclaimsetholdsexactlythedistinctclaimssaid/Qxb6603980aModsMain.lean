/-
  THE LAW's WALK.
-/
import Derived.Test.Qxb6603980aModsPlain
namespace Go.Proofs.Qxb6603980aMods
open Go.RowKit Go.Maps
set_option linter.unusedSimpArgs false
set_option linter.unusedVariables false
attribute [local go_sem ↓] Go.wp_at_zero Go.wp_at_succ

/-- What the law holds while it goes on. -/
structure Has (w wr : World) (a : Option Addr) (fs : List Fl) (bx : Nat) (g : Fl) : Prop where
  turns : Turns (fun _ => False) w wr
  told : Told wr a fs
  box : Box wr bx g
theorem Has.next {w wr w' : World} {a : Option Addr} {fs : List Fl} {bx : Nat} {g : Fl} (h : Has w wr a fs bx g) (hT : Turns (fun _ => False) wr w') : Has w w' a fs bx g :=
  ⟨h.turns.trans hT (fun _ _ h => h), h.told.turns hT, h.box.turns hT⟩
theorem copy_all (w : World) (a : Option Addr) (cap : Nat) (fs : List Fl) (hm : fs.length ≤ 4096) (hc : Told w a fs) (hn : a = none → fs.length = 0 ∧ cap = 0) : Calls Trym.prog 7 #[.slice a fs.length cap] w (Copied fs w) := by
  cases a with
  | some ad => exact copy_any w ad cap fs hm hc
  | none =>
    obtain ⟨e1, e2⟩ := hn rfl
    rw [e1, e2]
    refine (copy_nil w).mono ?_
    rintro e w' ⟨rfl, rfl⟩
    exact ⟨none, 0, by rw [e1], fun k hk => by omega, Turns.refl _ _⟩
theorem mem_among {fs : List Fl} {k : Nat} (hk : k < fs.length) : amongB fs fs[k] = true := among_yes hk (same_iff.2 rfl)

set_option maxHeartbeats 2000000 in
set_option maxRecDepth 100000 in
theorem main3 (w : World) (a : Option Addr) (cap : Nat) (fs : List Fl) (g : Fl) (hm : fs.length ≤ maxLen) (hc : Told w a fs) (hn : a = none → fs.length = 0 ∧ cap = 0) (hf : ∀ f ∈ fs, Fits f) (hg : Fits g) :
    Calls Trym.prog 3 #[.slice a fs.length cap, .agg #[.string g.1, .string g.2.1, .string g.2.2]] w fun e w' => e = .returned (.bool true) ∧ Turns (fun _ => False) w w' := by
  have HA : Hid (Has w (w.alloc (.cells #[.string g.1, .string g.2.1, .string g.2.2] 24)) a fs w.heap.size g) :=
    have hT : Turns (fun _ => False) w (w.alloc (.cells #[.string g.1, .string g.2.1, .string g.2.2] 24)) := (Turns.refl _ w).alloc _
    ⟨hT, hc.turns hT, alloc_at rfl _⟩
  have HN : Hid (a = none → fs.length = 0 ∧ cap = 0) := hn
  have HFI : Hid (∀ f ∈ fs, Fits f) := hf
  have HG : Hid (Fits g) := hg
  have HM : Hid (fs.length ≤ maxLen) := hm
  clear hc hn hf hg hm
  have hq := fun w mb => run_eql_map_nil (P := Trym.prog) w 26 34 4 (some mb) Trym.underlying26
  go_enter Trym.func3, Trym.ntmps3
  go_wp2_with fail
  generalize w.alloc (.cells #[.string g.1, .string g.2.1, .string g.2.2] 24) = w1 at *
  generalize w.heap.size = bx at *
  refine (bytes_any w1 a cap fs g HM.out HA.out.told).mono ?_
  rintro e w2 ⟨⟨bb, rfl⟩, hT⟩
  have HA2 : Hid (Has w w2 a fs bx g) := HA.out.next hT
  clear hT HA
  have hm : fs.length ≤ 9223372036854775807 := HM.out
  cases bb
  · go_wp2_with fail
    go_ret
    exact ⟨rfl, HA2.out.turns⟩
  by_cases hbig : 4096 < fs.length
  · go_wp2_with fail
    go_ret
    exact ⟨rfl, HA2.out.turns⟩
  obtain ⟨x1, x2, x3⟩ := HA2.out.box.cells
  go_wp2_with fail
  refine (big_any w2 a cap fs g HM.out HA2.out.told).mono ?_
  rintro e w3 ⟨⟨bb, rfl⟩, hT⟩
  have HA3 : Hid (Has w w3 a fs bx g) := HA2.out.next hT
  clear hT HA2 x1 x2 x3
  cases bb
  rotate_left
  · go_wp2_with fail
    go_ret
    exact ⟨rfl, HA3.out.turns⟩
  go_wp2_with fail
  refine (copy_all w3 a cap fs (by omega) HA3.out.told HN.out).mono ?_
  rintro e w4 ⟨a4, cap4, rfl, htd, hT⟩
  have HA4 : Hid (Has w w4 a fs bx g) := HA3.out.next hT
  have HTD : Hid (Told w4 a4 fs) := htd
  clear hT htd HA3
  go_wp2_with fail
  refine (zzset_any w4 a4 cap4 fs (by omega) HTD.out HFI.out).mono ?_
  rintro e w5 ⟨mb, rfl, hmp, hT⟩
  have HA5 : Hid (Has w w5 a fs bx g) := HA4.out.next hT
  have HMP : Hid (w5.ownsMap Trym.prog 34 (plainElem Trym.prog 4) mb fs.length (setD Trym.prog fs fs.length)) := hmp
  have hlen := len_runs HFI.out hmp
  clear hT hmp HA4 HTD
  go_wp2_with fail
  refine (count_any w5 a cap fs HM.out HA5.out.told).mono ?_
  rintro e w6 ⟨rfl, hT⟩
  have HA6 : Hid (Has w w6 a fs bx g) := HA5.out.next hT
  have HM6 : Hid (w6.ownsMap Trym.prog 34 (plainElem Trym.prog 4) mb fs.length (setD Trym.prog fs fs.length)) := hT.map HMP.out (fun h => h)
  clear hT HA5 HMP hlen hq
  go_wp2_with fail
  go_loopw [6] (fun i wr => ∃ k : Nat, k ≤ fs.length ∧ i = .int .i64 k ∧ Has w wr a fs bx g ∧ wr.ownsMap Trym.prog 34 (plainElem Trym.prog 4) mb fs.length (setD Trym.prog fs fs.length)) (fun i _ => fs.length - (intOf i).toNat)
  case atStart => exact ⟨0, Nat.zero_le _, rfl, HA6.out, HM6.out⟩
  case round =>
    clear HA6 HM6
    obtain ⟨k, hk, rfl, hH, hmp⟩ := hrel
    have HH : Hid (Has w wr a fs bx g) := hH
    have HMP : Hid (wr.ownsMap Trym.prog 34 (plainElem Trym.prog 4) mb fs.length (setD Trym.prog fs fs.length)) := hmp
    clear hH hmp
    by_cases hlt : k < fs.length
    · have HF : Hid (fs[k]? = some fs[k]) := List.getElem?_eq_getElem hlt
      have HY : Hid (amongB fs fs[k] = true) := mem_among hlt
      have HFK : Hid (Fits fs[k]) := HFI.out _ (List.getElem_mem hlt)
      generalize fs[k] = f at *
      obtain ⟨b, off, rfl, hb, hcc⟩ := HH.out.told k hlt
      obtain ⟨c1, c2, c3⟩ := hcc k f HF.out
      clear hcc
      go_wp2_with fail
      refine (key_any wr f.1 f.2.1 f.2.2).mono ?_
      rintro e w7 ⟨rfl, hT⟩
      have HH7 : Hid (Has w w7 (some ⟨b, off, none⟩) fs bx g) := HH.out.next hT
      have HM7 : Hid (w7.ownsMap Trym.prog 34 (plainElem Trym.prog 4) mb fs.length (setD Trym.prog fs fs.length)) := hT.map HMP.out (fun h => h)
      have hl := look_runs HFI.out HM7.out HFK.out
      rw [HY.out] at hl
      clear hT c1 c2 c3
      go_wp2_with fail
      go_roundw
      case rel => exact ⟨k + 1, by omega, by go_num, HH7.out, HM7.out⟩
      case measure => simp [intOf]; omega
    · obtain ⟨x1, x2, x3⟩ := HH.out.box.cells
      go_wp2_with fail
      refine (key_any wr g.1 g.2.1 g.2.2).mono ?_
      rintro e w7 ⟨rfl, hT⟩
      have HH7 : Hid (Has w w7 a fs bx g) := HH.out.next hT
      have HM7 : Hid (w7.ownsMap Trym.prog 34 (plainElem Trym.prog 4) mb fs.length (setD Trym.prog fs fs.length)) := hT.map HMP.out (fun h => h)
      have hl := look_runs HFI.out HM7.out HG.out
      obtain ⟨y1, y2, y3⟩ := HH7.out.box.cells
      obtain ⟨am, ham⟩ : ∃ am, amongB fs g = am := ⟨_, rfl⟩
      have HAM : Hid (amongB fs g = am) := ham
      rw [ham] at hl
      clear hT x1 x2 x3 ham
      go_wp2_with fail
      refine (among_any w7 a cap fs g HM.out HH7.out.told).mono ?_
      rintro e w8 ⟨rfl, hT⟩
      have HH8 : Hid (Has w w8 a fs bx g) := HH7.out.next hT
      rw [HAM.out]
      clear hT hl y1 y2 y3
      cases am
      all_goals go_wp2_with fail
      all_goals (go_ret; exact ⟨rfl, HH8.out.turns⟩)
end Go.Proofs.Qxb6603980aMods
