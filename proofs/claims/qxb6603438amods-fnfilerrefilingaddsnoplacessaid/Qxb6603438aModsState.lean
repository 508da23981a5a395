/-
  THE FILER's STATE behind a script, plainly.
-/
import Derived.Test.Qxb6603438aModsPlain
namespace Go.Proofs.Qxb6603438aMods
open Go.RowKit Go.Maps
set_option linter.unusedSimpArgs false
set_option linter.unusedVariables false

def prF (f : Fl) : Pr := pr f.1 f.2.1
def st (fs : List Fl) : List Pr × List (Nat × Int) := fs.foldl (fun s f => (addP s.1 (prF f), s.2 ++ [(s.1.idxOf (prF f), f.2.2)])) ([], [])
theorem st_snoc (fs : List Fl) (f : Fl) : st (fs ++ [f]) = (addP (st fs).1 (prF f), (st fs).2 ++ [((st fs).1.idxOf (prF f), f.2.2)]) := by simp [st]
theorem st_fst_aux : ∀ (fs : List Fl) (s : List Pr × List (Nat × Int)), (fs.foldl (fun s f => (addP s.1 (prF f), s.2 ++ [(s.1.idxOf (prF f), f.2.2)])) s).1 = (fs.map prF).foldl addP s.1
  | [], s => rfl
  | f :: fs, s => by rw [List.foldl_cons, st_fst_aux fs]; simp
theorem st_fst (fs : List Fl) : (st fs).1 = dist (fs.map prF) := st_fst_aux fs _
theorem st_take {fs : List Fl} {k : Nat} (h : k < fs.length) : st (fs.take (k + 1)) = (addP (st (fs.take k)).1 (prF fs[k]), (st (fs.take k)).2 ++ [((st (fs.take k)).1.idxOf (prF fs[k]), fs[k].2.2)]) := by
  rw [List.take_succ_eq_append_getElem h, st_snoc]
theorem st_all (fs : List Fl) : ∀ k, k ≤ fs.length → (st (fs.take k)).2.length = k ∧ ∀ i (hi : i < fs.length), i < k → (st (fs.take k)).2[i]? = some ((dist ((fs.map prF).take i)).idxOf (prF fs[i]), fs[i].2.2) := by
  intro k
  induction k with
  | zero => intro _; simp [st]
  | succ k ih =>
    intro hk
    obtain ⟨h1, h2⟩ := ih (by omega)
    rw [st_take (by omega)]
    refine ⟨by simp [h1], fun i hi hik => ?_⟩
    by_cases e : i = k
    · subst e
      rw [List.getElem?_append_right (by omega), h1, st_fst, List.map_take]
      simp
    · rw [List.getElem?_append_left (by omega)]
      exact h2 i hi (by omega)
theorem st_len (fs : List Fl) : (st fs).2.length = fs.length := by
  have := (st_all fs fs.length (Nat.le_refl _)).1
  rwa [List.take_length] at this
theorem st_get (fs : List Fl) {i : Nat} (hi : i < fs.length) : (st fs).2[i]? = some ((dist ((fs.map prF).take i)).idxOf (prF fs[i]), fs[i].2.2) := by
  have := (st_all fs fs.length (Nat.le_refl _)).2 i hi hi
  rwa [List.take_length] at this

/-! ### what the shims read -/
theorem ecells_at (es : List (Nat × Int)) : ∀ (i : Nat) (e : Nat × Int), es[i]? = some e → (ecells es)[i * 2]? = some (.int .i64 e.1) ∧ (ecells es)[i * 2 + 1]? = some (.int .i64 e.2) := by
  induction es with
  | nil => intro i e h; simp at h
  | cons x es ih =>
    intro i e h
    cases i with
    | zero => simp at h; subst h; simp [ecells]
    | succ i =>
      have := ih i e (by simpa using h)
      rw [show (i + 1) * 2 = i * 2 + 2 by omega]
      simpa [ecells] using this
theorem pcells_at (ps : List Pr) : ∀ (i : Nat) (e : Pr), ps[i]? = some e → (pcells ps)[i * 2]? = some (.string ⟨e.1.toArray⟩) ∧ (pcells ps)[i * 2 + 1]? = some (.string ⟨e.2.toArray⟩) := by
  induction ps with
  | nil => intro i e h; simp at h
  | cons x es ih =>
    intro i e h
    cases i with
    | zero => simp at h; subst h; simp [pcells]
    | succ i =>
      have := ih i e (by simpa using h)
      rw [show (i + 1) * 2 = i * 2 + 2 by omega]
      simpa [pcells] using this
theorem scells_at (fs : List Fl) : ∀ (i : Nat) (e : Fl), fs[i]? = some e → (scells fs)[i * 3]? = some (.string e.1) ∧ (scells fs)[i * 3 + 1]? = some (.string e.2.1) ∧ (scells fs)[i * 3 + 2]? = some (.int .i64 e.2.2) := by
  induction fs with
  | nil => intro i e h; simp at h
  | cons x es ih =>
    intro i e h
    cases i with
    | zero => simp at h; subst h; simp [scells]
    | succ i =>
      have := ih i e (by simpa using h)
      rw [show (i + 1) * 3 = i * 3 + 3 by omega]
      simpa [scells] using this
/-- A script that lies in a block of its own. -/
theorem script_cells {w : World} {sb : Nat} {fs : List Fl} (h : w.heap[sb]? = some (.cells (scells fs).toArray 34 (0, 0))) {i : Nat} (hi : i < fs.length) :
    w.cell? ⟨sb, i * 3, none⟩ = some (.string fs[i].1) ∧ w.cell? ⟨sb, i * 3 + 1, none⟩ = some (.string fs[i].2.1) ∧ w.cell? ⟨sb, i * 3 + 2, none⟩ = some (.int .i64 fs[i].2.2) := by
  obtain ⟨h1, h2, h3⟩ := scells_at fs i fs[i] (List.getElem?_eq_getElem hi)
  rw [cell_at h, cell_at h, cell_at h]
  simp [h1, h2, h3]

/-! ### the shims at a filer -/
variable {w : World} {fb : Nat} {F : Nat → Prop} {ps : List Pr} {es : List (Nat × Int)}
theorem FAt.pairs (h : FAt w fb F ps es) : Calls Trym.prog 18 #[.pointer (some ⟨fb, 0, none⟩)] w fun e w' => e = .returned (.int .i64 ps.length) ∧ w' = w := by
  obtain ⟨m, pv, ev, hb, h1, h2, hp, hpf, he, hef, hl, hm⟩ := h
  obtain ⟨pa, pc, rfl⟩ := row_form hp
  exact pairs_any w fb _ pc pa (cell_at hb)
theorem FAt.entries (h : FAt w fb F ps es) : Calls Trym.prog 20 #[.pointer (some ⟨fb, 0, none⟩)] w fun e w' => e = .returned (.int .i64 es.length) ∧ w' = w := by
  obtain ⟨m, pv, ev, hb, h1, h2, hp, hpf, he, hef, hl, hm⟩ := h
  obtain ⟨pa, pc, rfl⟩ := row_form he
  exact entries_any w fb _ pc pa (cell_at hb)
theorem FAt.places (h : FAt w fb F ps es) : Calls Trym.prog 19 #[.pointer (some ⟨fb, 0, none⟩)] w fun e w' => e = .returned (.int .i64 ps.length) ∧ w' = w := by
  obtain ⟨m, pv, ev, hb, h1, h2, hp, hpf, he, hef, hl, hm⟩ := h
  rcases hm with ⟨rfl, rfl⟩ | ⟨mb, D, rfl, hF, ho, hok⟩
  · exact places_nil w fb (cell_at hb)
  · have := places_any w fb mb _ D (cell_at hb) ho
    rw [hok.size] at this
    exact this
theorem FAt.entry (h : FAt w fb F ps es) {i : Nat} {p : Nat} {x : Int} (hi : es[i]? = some (p, x)) : Calls Trym.prog 21 #[.pointer (some ⟨fb, 0, none⟩), .int .i64 i] w fun e w' => e = .returned (.tuple #[.int .i64 p, .int .i64 x]) ∧ ∃ k, w' = w.drewN k := by
  obtain ⟨m, pv, ev, hb, h1, h2, hp, hpf, he, hef, hl, hm⟩ := h
  have hlt : i < es.length := (List.getElem?_eq_some_iff.1 hi).1
  obtain ⟨g, cap, rfl, _, _⟩ := he.form (by omega)
  obtain ⟨c1, c2⟩ := ecells_at es i _ hi
  have a1 := he.cells (g := g) rfl _ _ c1
  have a2 := he.cells (g := g) rfl _ _ c2
  rw [Addr.add_lit] at a1 a2
  simp only [Nat.zero_add] at a1 a2
  exact entry_any w fb g _ cap i p x (cell_at hb) hlt a1 a2
theorem FAt.pair (h : FAt w fb F ps es) {i : Nat} {a r : ByteArray} (hi : ps[i]? = some (pr a r)) : Calls Trym.prog 22 #[.pointer (some ⟨fb, 0, none⟩), .int .i64 i] w fun e w' => e = .returned (.tuple #[.string a, .string r]) ∧ ∃ k, w' = w.drewN k := by
  obtain ⟨m, pv, ev, hb, h1, h2, hp, hpf, he, hef, hl, hm⟩ := h
  have hlt : i < ps.length := (List.getElem?_eq_some_iff.1 hi).1
  obtain ⟨g, cap, rfl, _, _⟩ := hp.form (by omega)
  obtain ⟨c1, c2⟩ := pcells_at ps i _ hi
  have a1 := hp.cells (g := g) rfl _ _ c1
  have a2 := hp.cells (g := g) rfl _ _ c2
  rw [Addr.add_lit] at a1 a2
  simp only [Nat.zero_add, pr] at a1 a2
  exact pair_any w fb g _ cap i a r (cell_at hb) hlt a1 a2
theorem FAt.place (h : FAt w fb F ps es) {a r : ByteArray} (ha : a.size ≤ maxLen) (hr : r.size ≤ maxLen) (hin : pr a r ∈ ps) : Calls Trym.prog 23 #[.pointer (some ⟨fb, 0, none⟩), .string a, .string r] w fun e w' => e = .returned (.tuple #[.int .i64 (ps.idxOf (pr a r) : Nat), .bool true]) ∧ w' = w := by
  obtain ⟨m, pv, ev, hb, h1, h2, hp, hpf, he, hef, hl, hm⟩ := h
  obtain ⟨kl, hkey⟩ := key_some a r ha hr
  rcases hm with ⟨rfl, rfl⟩ | ⟨mb, D, rfl, hF, ho, hok⟩
  · simp at hin
  · refine (place_any w fb mb _ a r kl D (cell_at hb) ho hkey).mono ?_
    rintro e w' ⟨c, rfl, hat, rfl⟩
    rw [hok.at_ a r kl hkey hin] at hat
    have hc : ((ps.idxOf (pr a r) : Nat) : Int) = c := by simpa using hat
    rw [hok.has a r kl hkey, ← hc]
    simp [hin]
end Go.Proofs.Qxb6603438aMods
