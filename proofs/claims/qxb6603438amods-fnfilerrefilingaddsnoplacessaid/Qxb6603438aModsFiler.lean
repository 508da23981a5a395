/-
  THE FILER: what its memory holds ('FAt'); the contract of 'file' and of 'ZZfile', all three ways joined.
-/
import Derived.Test.Qxb6603438aModsFileC
namespace Go.Proofs.Qxb6603438aMods
open Go.RowKit Go.Maps
set_option linter.unusedSimpArgs false
set_option linter.unusedVariables false

abbrev Pr := List UInt8 × List UInt8
/-- Two strings' bytes. -/
def pr (a r : ByteArray) : Pr := (a.data.toList, r.data.toList)
theorem pr_inj {a r a' r' : ByteArray} (h : pr a r = pr a' r') : a = a' ∧ r = r' := by
  unfold pr at h
  obtain ⟨⟨a⟩⟩ := a; obtain ⟨⟨r⟩⟩ := r; obtain ⟨⟨a'⟩⟩ := a'; obtain ⟨⟨r'⟩⟩ := r'
  simpa using h
def addP (ps : List Pr) (p : Pr) : List Pr := if p ∈ ps then ps else ps ++ [p]
def pcells (ps : List Pr) : List Value := ps.flatMap (fun p => [.string ⟨p.1.toArray⟩, .string ⟨p.2.toArray⟩])
def ecells (es : List (Nat × Int)) : List Value := es.flatMap (fun e => [.int .i64 e.1, .int .i64 e.2])
theorem pcells_snoc (ps : List Pr) (a r : ByteArray) : pcells (ps ++ [pr a r]) = pcells ps ++ [.string a, .string r] := by simp [pcells, pr]
theorem ecells_snoc (es : List (Nat × Int)) (p : Nat) (x : Int) : ecells (es ++ [(p, x)]) = ecells es ++ [.int .i64 p, .int .i64 x] := by simp [ecells]

/-- What the map of places holds. -/
structure MapOk (D : DataW Unit) (ps : List Pr) : Prop where
  size : Maps.size D = ps.length
  tidy : Maps.Tidy D
  has : ∀ (a r : ByteArray) (kl : Lit), keyOf Trym.prog 50 (.agg #[.string a, .string r]) = some kl → Maps.has D kl = decide (pr a r ∈ ps)
  at_ : ∀ (a r : ByteArray) (kl : Lit), keyOf Trym.prog 50 (.agg #[.string a, .string r]) = some kl → pr a r ∈ ps → D.atKey kl (.lit (.int .i64 0)) = .lit (.int .i64 (ps.idxOf (pr a r) : Nat))

theorem MapOk.nil : MapOk (.map []) [] := ⟨rfl, tidy_empty, fun a r kl h => by simp [Maps.has], fun a r kl h hm => by cases hm⟩

theorem MapOk.put {D : DataW Unit} {ps : List Pr} (h : MapOk D ps) {a r : ByteArray} {kl : Lit} (hkey : keyOf Trym.prog 50 (.agg #[.string a, .string r]) = some kl) (hn : pr a r ∉ ps) :
    MapOk (D.put kl (.lit (.int .i64 (ps.length : Nat)))) (ps ++ [pr a r]) := by
  have hk := law50.key hkey
  have h0 : Maps.has D kl = false := by rw [h.has a r kl hkey]; simpa using hn
  refine ⟨?_, h.tidy.put hk _, ?_, ?_⟩
  · rw [size_put h.tidy, h0]; simp [h.size]
  · intro a' r' kl' hk'
    by_cases e : kl' = kl
    · subst e
      obtain ⟨rfl, rfl⟩ := key_inj hkey hk'
      rw [has_put_same h.tidy.isMap hk]; simp
    · rw [has_put_other e, h.has a' r' kl' hk']
      have : pr a' r' ≠ pr a r := fun e1 => e (by obtain ⟨rfl, rfl⟩ := pr_inj e1; rw [hkey] at hk'; exact (Option.some.inj hk').symm)
      simp [this]
  · intro a' r' kl' hk' hm
    by_cases e : kl' = kl
    · subst e
      obtain ⟨rfl, rfl⟩ := key_inj hkey hk'
      rw [atKey_put_same h.tidy.isMap hk, List.idxOf_append]
      simp [hn]
    · have hne : pr a' r' ≠ pr a r := fun e1 => e (by obtain ⟨rfl, rfl⟩ := pr_inj e1; rw [hkey] at hk'; exact (Option.some.inj hk').symm)
      have hm' : pr a' r' ∈ ps := by simpa [hne] using hm
      rw [atKey_put_other e, h.at_ a' r' kl' hk' hm', List.idxOf_append]
      simp [hm']

/-- The filer in block fb, its memory among the blocks F, holds the pairs ps and the entries es. -/
def FAt (w : World) (fb : Nat) (F : Nat → Prop) (ps : List Pr) (es : List (Nat × Int)) : Prop :=
  ∃ m pv ev, w.heap[fb]? = some (.cells #[.map m, pv, ev] 47 (0, 0)) ∧ F fb ∧ (∀ b, F b → b < w.heap.size) ∧
    w.ownsRow 0 50 2 pv ps.length (pcells ps) ∧ (∀ g, pv.ownBlock = some g → F g) ∧
    w.ownsRow 0 52 2 ev es.length (ecells es) ∧ (∀ g, ev.ownBlock = some g → F g) ∧ ps.length ≤ es.length ∧
    ((m = none ∧ ps = []) ∨ ∃ mb D, m = some mb ∧ F mb ∧ w.ownsMap Trym.prog 50 (plainElem Trym.prog 3) mb ps.length D ∧ MapOk D ps)

/-- The filer stays while other memory turns. -/
theorem FAt.kept {w w' : World} {fb : Nat} {F G : Nat → Prop} {ps : List Pr} {es : List (Nat × Int)} (h : FAt w fb F ps es) (hT : Turns G w w') (hd : ∀ b, F b → ¬ G b) : FAt w' fb F ps es := by
  obtain ⟨m, pv, ev, hb, h1, h2, hp, hpf, he, hef, hl, hm⟩ := h
  refine ⟨m, pv, ev, hT.keeps hb (hd fb h1), h1, fun b hbF => Nat.lt_of_lt_of_le (h2 b hbF) hT.size, hT.row hp (fun g hg => hd g (hpf g hg)), hpf, hT.row he (fun g hg => hd g (hef g hg)), hef, hl, ?_⟩
  rcases hm with hm | ⟨mb, D, e, hF, ho, hok⟩
  · exact .inl hm
  · exact .inr ⟨mb, D, e, hF, hT.map ho (hd mb hF), hok⟩

theorem FAt.new (w : World) : FAt (w.alloc (.cells #[.map none, .slice none 0 0, .slice none 0 0] 47)) w.heap.size (fun b => b = w.heap.size) [] [] :=
  ⟨none, _, _, alloc_at rfl _, rfl, fun b e => by rw [e]; simp, World.ownsRow_nil _ _ _ _, fun g hg => by simp [Value.ownBlock] at hg, World.ownsRow_nil _ _ _ _, fun g hg => by simp [Value.ownBlock] at hg, Nat.le_refl _, .inl ⟨rfl, rfl⟩⟩

/-- The filer's new memory. -/
def more (F : Nat → Prop) (w w' : World) : Nat → Prop := fun b => F b ∨ (w.heap.size ≤ b ∧ b < w'.heap.size)

theorem file_any (w : World) (fb : Nat) (F : Nat → Prop) (ps : List Pr) (es : List (Nat × Int)) (a r : ByteArray) (x : Int) (h : FAt w fb F ps es) (hk : es.length + 1 ≤ 100000) (ha : a.size ≤ maxLen) (hr : r.size ≤ maxLen) :
    Calls Trym.prog 26 #[.pointer (some ⟨fb, 0, none⟩), .agg #[.string a, .string r], .int .i64 x] w fun e w' => e = .returned (.tuple #[]) ∧ FAt w' fb (more F w w') (addP ps (pr a r)) (es ++ [(ps.idxOf (pr a r), x)]) ∧ Turns F w w' := by
  obtain ⟨kl, hkey⟩ := key_some a r ha hr
  obtain ⟨m, pv, ev, hb, h1, h2, hp, hpf, he, hef, hl, hm⟩ := h
  rcases hm with ⟨rfl, rfl⟩ | ⟨mb, D, rfl, hF, ho, hok⟩
  · refine (file_first w fb a r kl x pv ev _ _ 0 es.length hb hkey hp (by omega) he hk).mono ?_
    rintro e w' ⟨rfl, mb, g, cap, g', cap', q1, q2, q3, q4, q5, q6, q7, q8⟩
    have hT : Turns F w w' := q8.mono (fun j hj h => by
      rcases h with rfl | h | h
      · exact h1
      · exact hpf j h
      · exact hef j h)
    refine ⟨rfl, ⟨some mb, _, _, q1, .inl h1, ?_, ?_, ?_, ?_, ?_, ?_, .inr ⟨mb, (DataW.map []).put kl (.lit (.int .i64 (0 : Nat))), rfl, .inr ⟨q7, q4.lt⟩, by simpa [addP] using q4, by simpa [addP] using MapOk.nil.put hkey (by simp)⟩⟩, hT⟩
    · intro b hb
      rcases hb with hb | hb
      · exact Nat.lt_of_lt_of_le (h2 b hb) hT.size
      · exact hb.2
    · simpa [addP, pcells, pr] using q2
    · intro g0 hg0
      simp [Value.ownBlock] at hg0; subst hg0
      rcases q5 with q5 | q5
      · exact .inl (hpf _ q5)
      · exact .inr ⟨q5, (q2.lt _ rfl).2⟩
    · rw [ecells_snoc]; simpa using q3
    · intro g0 hg0
      simp [Value.ownBlock] at hg0; subst hg0
      rcases q6 with q5 | q5
      · exact .inl (hef _ q5)
      · exact .inr ⟨q5, (q3.lt _ rfl).2⟩
    · simp [addP]
  · by_cases hin : pr a r ∈ ps
    · refine (file_known w fb mb _ a r kl D x pv ev _ es.length _ hb ho hkey (by rw [hok.has a r kl hkey]; simpa using hin) (hok.at_ a r kl hkey hin) he hk).mono ?_
      rintro e w' ⟨rfl, g, cap, q1, q2, q3, q4, q5⟩
      have hT : Turns F w w' := q5.mono (fun j hj h => by
        rcases h with rfl | h
        · exact h1
        · exact hef j h)
      have hTn := q5
      refine ⟨rfl, ⟨some mb, _, _, q1, .inl h1, ?_, ?_, fun g hg => .inl (hpf g hg), ?_, ?_, ?_, .inr ⟨mb, D, rfl, .inl hF, ?_, ?_⟩⟩, hT⟩
      · intro b hb
        rcases hb with hb | hb
        · exact Nat.lt_of_lt_of_le (h2 b hb) hT.size
        · exact hb.2
      · rw [addP, if_pos hin]
        refine hTn.row hp (fun g hg h => ?_)
        rcases h with rfl | h
        · exact row_ne_cells hp hb (by decide) hg
        · obtain ⟨cur, hc⟩ := row_block hp hg
          exact row_ne_cells he hc (by decide) h
      · rw [ecells_snoc]; simpa using q2
      · intro g0 hg0
        simp [Value.ownBlock] at hg0; subst hg0
        rcases q3 with q3 | q3
        · exact .inl (hef _ q3)
        · exact .inr ⟨q3, q4⟩
      · rw [addP, if_pos hin]; simp; omega
      · rw [addP, if_pos hin]
        refine hTn.map ho (fun h => ?_)
        rcases h with h | h
        · exact cells_ne_map hb ho h.symm
        · exact row_ne_map he ho h
      · rw [addP, if_pos hin]; exact hok
    · refine (file_new w fb mb _ a r kl D x pv ev _ _ ps.length es.length hb ho (by omega) hkey (by rw [hok.has a r kl hkey]; simpa using hin) hp (by omega) he hk).mono ?_
      rintro e w' ⟨rfl, g, cap, g', cap', q1, q2, q3, q4, q5, q6, q8⟩
      have hT : Turns F w w' := q8.mono (fun j hj h => by
        rcases h with rfl | rfl | h | h
        · exact h1
        · exact hF
        · exact hpf j h
        · exact hef j h)
      have hidx : ps.idxOf (pr a r) = ps.length := List.idxOf_eq_length hin
      refine ⟨rfl, ⟨some mb, _, _, q1, .inl h1, ?_, ?_, ?_, ?_, ?_, ?_, .inr ⟨mb, D.put kl (.lit (.int .i64 ps.length)), rfl, .inl hF, ?_, ?_⟩⟩, hT⟩
      · intro b hb
        rcases hb with hb | hb
        · exact Nat.lt_of_lt_of_le (h2 b hb) hT.size
        · exact hb.2
      · rw [addP, if_neg hin, pcells_snoc]; simpa using q2
      · intro g0 hg0
        simp [Value.ownBlock] at hg0; subst hg0
        rcases q5 with q5 | q5
        · exact .inl (hpf _ q5)
        · exact .inr ⟨q5, (q2.lt _ rfl).2⟩
      · rw [ecells_snoc, hidx]; simpa using q3
      · intro g0 hg0
        simp [Value.ownBlock] at hg0; subst hg0
        rcases q6 with q5 | q5
        · exact .inl (hef _ q5)
        · exact .inr ⟨q5, (q3.lt _ rfl).2⟩
      · rw [addP, if_neg hin]; simp; omega
      · rw [addP, if_neg hin]; simpa using q4
      · rw [addP, if_neg hin]; exact hok.put hkey hin

theorem zzfile_any (w : World) (fb : Nat) (F : Nat → Prop) (ps : List Pr) (es : List (Nat × Int)) (a r : ByteArray) (x : Int) (h : FAt w fb F ps es) (hk : es.length + 1 ≤ 100000) (ha : a.size ≤ maxLen) (hr : r.size ≤ maxLen) :
    Calls Trym.prog 17 #[.pointer (some ⟨fb, 0, none⟩), .string a, .string r, .int .i64 x] w fun e w' => e = .returned (.tuple #[]) ∧ FAt w' fb (more F w w') (addP ps (pr a r)) (es ++ [(ps.idxOf (pr a r), x)]) ∧ Turns F w w' := by
  go_enter Trym.func17, Trym.ntmps17
  go_wp2_with (go_at_call 26; refine (file_any _ _ _ _ _ _ _ _ h hk ha hr).mono ?_; rintro e w' ⟨rfl, h1, h2⟩)
  go_end0
  exact ⟨rfl, h1, h2⟩
end Go.Proofs.Qxb6603438aMods
