/-
  PLAIN LAWS ON WORLDS: which blocks may have turned ('Turns'); a block that is known whole, behind a store; draws.
-/
import Derived.Maps.OwnSet
import Derived.WalkKit
import Derived.WalkSpells
import Derived.WalkLawsBesides
import Derived.Deep.AppendLies
namespace Go.Proofs.Qxb6603980aMods
open Go.RowKit Go.Maps
set_option linter.unusedSimpArgs false
set_option linter.unusedVariables false

theorem heap_drewN (w : World) : ∀ n, (w.drewN n).heap = w.heap
  | 0 => rfl
  | n + 1 => by simp [World.drewN, heap_drewN w n]

theorem ownsRow_drewN {w : World} {base : Nat} {e : TypeId} {size : Nat} {v : Value} {n : Nat} {xs : List Value} (h : w.ownsRow base e size v n xs) (k : Nat) : (w.drewN k).ownsRow base e size v n xs := by
  unfold World.ownsRow at h ⊢; rw [heap_drewN]; exact h
theorem ownsMap_drewN {H : Type} {w : World} {P : Program} {k : TypeId} {R : Value → Option (DataW H × List MemPlace)} {b n : Nat} {D : DataW H} (h : w.ownsMap P k R b n D) (m : Nat) : (w.drewN m).ownsMap P k R b n D := by
  unfold World.ownsMap at h ⊢; rw [heap_drewN]; exact h

/-- A store into a block that is known whole. -/
theorem heap_setCell_at {w : World} {b o : Nat} {cs : Array Value} {t : TypeId} {fr : Nat × Nat} (h : w.heap[b]? = some (.cells cs t fr)) (v : Value) : (w.setCell ⟨b, o, none⟩ v).heap[b]? = some (.cells (cs.setIfInBounds o v) t fr) := by
  simp [World.setCell, Array.getElem?_modify, h]
theorem cell_at {w : World} {b o : Nat} {cs : Array Value} {t : TypeId} {fr : Nat × Nat} (h : w.heap[b]? = some (.cells cs t fr)) : w.cell? ⟨b, o, none⟩ = cs[o]? := cell_of_row w b o cs t fr h
theorem frozen_at {w : World} {b o : Nat} {cs : Array Value} {t : TypeId} (h : w.heap[b]? = some (.cells cs t (0, 0))) : w.frozen? ⟨b, o, none⟩ = false := by
  simp [World.frozen?, h]

/-- Of what lay in w, only the blocks of F may have turned. -/
structure Turns (F : Nat → Prop) (w w' : World) : Prop where
  os : w'.os = w.os
  tape : w'.tape = w.tape
  output : w'.output = w.output
  size : w.heap.size ≤ w'.heap.size
  block : ∀ k, k < w.heap.size → ¬ F k → w'.heap[k]? = w.heap[k]?

namespace Turns
variable {F G : Nat → Prop} {a b c : World}
theorem refl (F : Nat → Prop) (w : World) : Turns F w w := ⟨rfl, rfl, rfl, Nat.le_refl _, fun _ _ _ => rfl⟩
theorem trans (h : Turns F a b) (k : Turns G b c) (hG : ∀ j, j < a.heap.size → G j → F j) : Turns F a c :=
  ⟨k.os.trans h.os, k.tape.trans h.tape, k.output.trans h.output, Nat.le_trans h.size k.size, fun j hj hn => (k.block j (Nat.lt_of_lt_of_le hj h.size) (fun hg => hn (hG j hj hg))).trans (h.block j hj hn)⟩
theorem mono (h : Turns F a b) (hF : ∀ j, j < a.heap.size → F j → G j) : Turns G a b :=
  ⟨h.os, h.tape, h.output, h.size, fun j hj hn => h.block j hj (fun hf => hn (hF j hj hf))⟩
theorem alloc (h : Turns F a b) (o : Obj) : Turns F a (b.alloc o) :=
  h.trans (G := fun _ => False) ⟨rfl, rfl, rfl, by simp, fun k hk _ => Below.heap_alloc _ _ _ hk⟩ (fun _ _ h => h.elim)
theorem drewN (h : Turns F a b) : ∀ n, Turns F a (b.drewN n)
  | 0 => h
  | n + 1 => by
    have := h.drewN n
    exact ⟨this.os, this.tape, this.output, this.size, this.block⟩
theorem drew (h : Turns F a b) : Turns F a b.drew := ⟨h.os, h.tape, h.output, h.size, h.block⟩
theorem setCell (h : Turns F a b) (p : Addr) (u : Value) (hp : F p.block ∨ a.heap.size ≤ p.block) : Turns F a (b.setCell p u) :=
  h.trans (G := fun k => k = p.block) ⟨rfl, rfl, rfl, by simp [World.setCell], fun k hk hn => Below.heap_setCell _ _ _ _ hn⟩ (fun j hj e => by
    subst e
    rcases hp with hp | hp
    · exact hp
    · omega)
theorem grown {row : Option Nat} (h : Turns F a b) (hg : b.grownBy c row) (hr : ∀ k, row = some k → F k ∨ a.heap.size ≤ k) : Turns F a c :=
  h.trans (G := fun k => row = some k) ⟨hg.os, hg.tape, hg.output, hg.size, fun k hk hn => hg.block k hk (fun e => hn e.symm)⟩ (fun j hj e => by
    rcases hr j e with hp | hp
    · exact hp
    · omega)
theorem below {B : Nat} (h : Turns F a b) (hF : ∀ k, k < B → ¬ F k) (hB : B ≤ a.heap.size) : Below B a b :=
  ⟨h.os, h.tape, h.output, h.size, fun k hk => h.block k (by omega) (hF k hk)⟩
theorem of_below {B : Nat} (h : Below B a b) : Turns (fun k => B ≤ k) a b :=
  ⟨h.os, h.tape, h.output, h.size, fun k hk hn => h.block k (by omega)⟩
theorem keeps {k : Nat} {o : Obj} (h : Turns F a b) (hk : a.heap[k]? = some o) (hn : ¬ F k) : b.heap[k]? = some o :=
  (h.block k (Array.getElem?_eq_some_iff.1 hk).1 hn).trans hk
theorem row {base : Nat} {e : TypeId} {size : Nat} {v : Value} {n : Nat} {xs : List Value} (h : Turns F a b) (ho : a.ownsRow base e size v n xs) (hn : ∀ g, v.ownBlock = some g → ¬ F g) : b.ownsRow base e size v n xs := by
  refine ⟨ho.1, ?_⟩
  rcases ho.2 with h0 | ⟨g, cap, cur, rfl, hb, hgg, rest⟩
  · exact .inl h0
  · exact .inr ⟨g, cap, cur, rfl, hb, h.keeps hgg (hn g rfl), rest⟩
theorem map {H : Type} {P : Program} {k : TypeId} {R : Value → Option (DataW H × List MemPlace)} {mb n : Nat} {D : DataW H} (h : Turns F a b) (ho : a.ownsMap P k R mb n D) (hn : ¬ F mb) : b.ownsMap P k R mb n D := by
  obtain ⟨es, clock, hb, F1, hs, hD⟩ := ho
  exact ⟨es, clock, h.keeps hb hn, F1, hs, hD⟩
end Turns

/-- A row's block, whole. -/
theorem row_block {w : World} {base : Nat} {e : TypeId} {size : Nat} {v : Value} {n : Nat} {xs : List Value} (h : w.ownsRow base e size v n xs) {g : Nat} (hg : v.ownBlock = some g) : ∃ cur, w.heap[g]? = some (.cells cur e (0, 0)) := by
  rcases h.2 with ⟨rfl, _⟩ | ⟨g', cap, cur, rfl, _, hgg, _⟩
  · simp [Value.ownBlock] at hg
  · simp [Value.ownBlock] at hg; subst hg; exact ⟨cur, hgg⟩
theorem map_block {H : Type} {w : World} {P : Program} {k : TypeId} {R : Value → Option (DataW H × List MemPlace)} {b n : Nat} {D : DataW H} (h : w.ownsMap P k R b n D) : ∃ es cl, w.heap[b]? = some (.map es cl) := by
  obtain ⟨es, cl, hb, _⟩ := h; exact ⟨es, cl, hb⟩
/-- A row of elements of one type does not lie in a block of another type. -/
theorem row_ne_cells {w : World} {base : Nat} {e : TypeId} {size : Nat} {v : Value} {n : Nat} {xs : List Value} (h : w.ownsRow base e size v n xs) {b : Nat} {cs : Array Value} {t : TypeId} {fr : Nat × Nat} (hb : w.heap[b]? = some (.cells cs t fr)) (hne : t ≠ e) : v.ownBlock ≠ some b := fun e1 => by
  obtain ⟨cur, hc⟩ := row_block h e1
  rw [hb] at hc
  cases hc
  exact hne rfl
theorem row_ne_map {H : Type} {w : World} {base : Nat} {e : TypeId} {size : Nat} {v : Value} {n : Nat} {xs : List Value} (h : w.ownsRow base e size v n xs) {P : Program} {k : TypeId} {R : Value → Option (DataW H × List MemPlace)} {b m : Nat} {D : DataW H} (hm : w.ownsMap P k R b m D) : v.ownBlock ≠ some b := fun e1 => by
  obtain ⟨cur, hc⟩ := row_block h e1
  obtain ⟨es, cl, hb⟩ := map_block hm
  rw [hb] at hc
  cases hc
theorem row_lt {w : World} {base : Nat} {e : TypeId} {size : Nat} {v : Value} {n : Nat} {xs : List Value} (h : w.ownsRow base e size v n xs) {b : Nat} (hb : w.heap.size ≤ b) : v.ownBlock ≠ some b := fun e1 => by
  have := (h.lt b e1).2
  omega
theorem cells_ne_map {H : Type} {w : World} {b : Nat} {cs : Array Value} {t : TypeId} {fr : Nat × Nat} (hb : w.heap[b]? = some (.cells cs t fr)) {P : Program} {k : TypeId} {R : Value → Option (DataW H × List MemPlace)} {mb m : Nat} {D : DataW H} (hm : w.ownsMap P k R mb m D) : b ≠ mb := fun e => by
  subst e
  obtain ⟨es, cl, hc⟩ := map_block hm
  rw [hb] at hc
  cases hc
theorem row_form {w : World} {base : Nat} {e : TypeId} {size : Nat} {v : Value} {n : Nat} {xs : List Value} (h : w.ownsRow base e size v n xs) : ∃ pa pc, v = .slice pa n pc := by
  rcases h.2 with ⟨h, hj0⟩ | ⟨g, cap, cur, h, _⟩
  · exact ⟨none, 0, by rw [h, hj0]⟩
  · exact ⟨_, _, h⟩
theorem row_setCell {w : World} {base : Nat} {e : TypeId} {size : Nat} {v : Value} {n : Nat} {xs : List Value} (h : w.ownsRow base e size v n xs) (p : Addr) (u : Value) (hne : v.ownBlock ≠ some p.block) : (w.setCell p u).ownsRow base e size v n xs :=
  ((Turns.refl (fun k => k = p.block) w).setCell p u (.inl rfl)).row h (fun g hg e => hne (by rw [hg, e]))
theorem alloc_at {w : World} {B : Nat} (h : w.heap.size = B) (o : Obj) : (w.alloc o).heap[B]? = some o := by subst h; exact heap_alloc_new w o
theorem size_setCell (w : World) (p : Addr) (u : Value) : (w.setCell p u).heap.size = w.heap.size := by simp [World.setCell]
theorem or_right' {a b c : Prop} (h : a ∨ b) (f : b → c) : a ∨ c := by
  rcases h with h | h
  · exact .inl h
  · exact .inr (f h)
theorem block_lt {w : World} {k : Nat} {o : Obj} (h : w.heap[k]? = some o) : k < w.heap.size := (Array.getElem?_eq_some_iff.1 h).1

end Go.Proofs.Qxb6603980aMods
