/-
  A script that came in, opened.
-/
import Derived.Test.Qxb6603980aModsMain
import Derived.ProofKit
import Derived.OpenShut
import Derived.ShutString
import Derived.Deep.Slices
import Derived.Deep.Strs
namespace Go.Proofs.Qxb6603980aMods
open Go.RowKit Go.Maps Go.Deep
set_option linter.unusedSimpArgs false
set_option linter.unusedVariables false

/-- What the walk is told of the script. -/
def IsScript (w : World) (a : Option Addr) (len cap : Nat) (fs : List Fl) : Prop :=
  len = fs.length ∧ fs.length ≤ maxLen ∧ (∀ f ∈ fs, Fits f) ∧ (a = none → fs.length = 0 ∧ cap = 0) ∧ Told w a fs

theorem open_script {H : Type} {enc : TypeId × Value → H} {w : World} {fuel : Nat} {a : Option Addr} {len cap : Nat} {x : DataW H × List MemPlace}
    (h : DataW.trod enc Trym.prog w 0 (fun _ => true) true fuel 22 [.slice a len cap] = some x) : ∃ fs, IsScript w a len cap fs := by
  rcases open_slice Trym.underlying22 h with ⟨hcs, _⟩ | ⟨ad, l, c, m, n, D, Pl, hcs, _, hl, hm, hmm, _, hx⟩
  · simp at hcs
    obtain ⟨rfl, rfl, rfl⟩ := hcs
    exact ⟨[], rfl, by simp, by simp, fun _ => ⟨rfl, rfl⟩, fun k hk => by simp at hk⟩
  · simp at hcs
    obtain ⟨rfl, rfl, rfl⟩ := hcs
    simp at hmm
    subst hmm
    rw [cells24] at hx
    have hall : ∀ i, i < len → ∃ f : Fl, w.cell? (ad.add (i * 3)) = some (.string f.1) ∧ w.cell? (ad.add (i * 3 + 1)) = some (.string f.2.1) ∧ w.cell? (ad.add (i * 3 + 2)) = some (.string f.2.2) ∧ f.1.size ≤ maxLen ∧ f.2.1.size ≤ maxLen ∧ f.2.2.size ≤ maxLen := by
      intro i hi
      obtain ⟨cs, h1, h2⟩ := hx i (by omega)
      obtain ⟨_, hlen, hcell⟩ := World.cells?_some h1
      obtain ⟨y0, y1, y2, k, _, _, g0, g1, g2⟩ := trod_struct3 Trym.underlying24 h2
      rw [cells9] at g0 g1 g2
      obtain ⟨s0, e0, _, z0⟩ := DataW.trod_string Trym.underlying9 g0
      obtain ⟨s1, e1, _, z1⟩ := DataW.trod_string Trym.underlying9 g1
      obtain ⟨x2, e2, _, z2⟩ := DataW.trod_string Trym.underlying9 g2
      match cs, hlen with
      | [u0, u1, u2], _ =>
        simp at e0 e1 e2
        subst e0 e1 e2
        have c0 := hcell 0 (by omega)
        have c1 := hcell 1 (by omega)
        have c2 := hcell 2 (by omega)
        rw [add_add] at c0 c1 c2
        exact ⟨(s0, s1, x2), by simpa using c0, by simpa using c1, by simpa using c2, z0, z1, z2⟩
    obtain ⟨f, hf⟩ := choose_lt (α := Fl) hall
    refine ⟨(List.range len).map f, by simp, by simp; omega, ?_, (fun h => by cases h), ?_⟩
    · intro g hg
      simp at hg
      obtain ⟨i, hi, rfl⟩ := hg
      exact (hf i hi).2.2.2
    · intro k0 hk0
      have h0 : 0 < len := by simp at hk0; omega
      · skip
        obtain ⟨b, off, spot⟩ := ad
        have hspot : spot = none := by simpa [Addr.add] using World.cell?_spot (hf 0 (by omega)).1
        subst hspot
        refine ⟨b, off, rfl, ?_, ?_⟩
        · exact World.block_lt_of_cell? w ⟨b, off, none⟩ (by simpa [Addr.add] using (hf 0 (by omega)).1)
        · intro i g hg
          have hi : i < len := by
            have := (List.getElem?_eq_some_iff.1 hg).1
            simpa using this
          have e : f i = g := by simpa [hi] using hg
          subst e
          obtain ⟨c0, c1, c2, _, _⟩ := hf i hi
          rw [WideShapes.add_plain] at c0 c1 c2
          exact ⟨c0, by rw [Nat.add_assoc]; exact c1, by rw [Nat.add_assoc]; exact c2⟩
end Go.Proofs.Qxb6603980aMods
