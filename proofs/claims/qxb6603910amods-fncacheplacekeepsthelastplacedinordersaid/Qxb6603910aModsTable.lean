/-
  THE PLAIN LAW OF THE INDEX: linear probing, insertion, deletion with backward shift. No Go in sight.
-/
import Derived.Test.Qxb6603910aModsUnindex
namespace Go.Proofs.Qxb6603910aMods
set_option linter.unusedSimpArgs false
set_option linter.unusedVariables false

theorem far_eq {N a b : Nat} (ha : a < N) (hb : b < N) : far N a b = if a ≤ b then b - a else b + N - a := by
  unfold far
  rw [mod_once (by omega)]
  split <;> split <;> omega
theorem cyc_eq {N a e : Nat} (ha : a < N) (he : e < N) : cyc N a e = if a + e < N then a + e else a + e - N := by
  unfold cyc
  rw [mod_once (by omega)]
theorem far_inj {N a u v : Nat} (ha : a < N) (hu : u < N) (hv : v < N) (h : far N a u = far N a v) : u = v := by
  rw [← cyc_far ha hu, ← cyc_far ha hv, h]
theorem far_pos {N a b : Nat} (ha : a < N) (hb : b < N) (h : a ≠ b) : 1 ≤ far N a b := by
  rw [far_eq ha hb]; split <;> omega
theorem far_ne {N a b : Nat} (ha : a < N) (hb : b < N) (h : 1 ≤ far N a b) : b ≠ a := by
  rintro rfl; rw [far_eq ha ha] at h; split at h <;> omega
theorem far_one {N t : Nat} (hN : 2 ≤ N) (ht : t < N) : far N t (cyc N t 1) = 1 := far_cyc ht (by omega)
/-- Going on along a way. -/
theorem far_on {N a b e : Nat} (ha : a < N) (hb : b < N) (he : e ≤ far N a b) : far N (cyc N a e) b + e = far N a b := by
  have h1 := far_lt (a := a) (b := b) (show 0 < N by omega)
  have h2 : cyc N a e < N := cyc_lt (by omega)
  rw [far_eq h2 hb, cyc_eq ha (by omega)]
  rw [far_eq ha hb] at he h1 ⊢
  split at he <;> split <;> split <;> omega
theorem cyc_on {N a e d : Nat} (hN : 0 < N) : cyc N (cyc N a e) d = cyc N a (e + d) := by
  unfold cyc
  rw [Nat.mod_add_mod, Nat.add_assoc]
theorem far_next {N f t z : Nat} (hN : 2 ≤ N) (hf : f < N) (ht : t < N) (hz : z < N) (h : far N f t < far N f z) : far N f (cyc N t 1) = far N f t + 1 := by
  have h1 := far_lt (a := f) (b := z) (show 0 < N by omega)
  have e : cyc N t 1 = cyc N f (far N f t + 1) := by
    rw [← cyc_on (by omega), cyc_far hf ht]
  rw [e, far_cyc hf (by omega)]
/-- Where f lies on the way from h to t. -/
theorem far_split {N h f t : Nat} (hh : h < N) (hf : f < N) (ht : t < N) (hle : far N f t ≤ far N h t) : far N h f + far N f t = far N h t := by
  rw [far_eq hf ht, far_eq hh ht] at *
  rw [far_eq hh hf]
  split at hle <;> split at hle <;> split <;> omega

/-- How many slots are taken. -/
def cnt (l : List Int) : Nat := (l.filter (fun v => v != 0)).length
theorem cnt_cons (v : Int) (l : List Int) : cnt (v :: l) = cnt l + (if v = 0 then 0 else 1) := by
  unfold cnt
  by_cases h : v = 0
  · simp [h]
  · simp [List.filter_cons, h]
theorem cnt_set : ∀ (l : List Int) (u : Nat) (v : Int), u < l.length → cnt (l.set u v) + (if l.getD u 0 = 0 then 0 else 1) = cnt l + (if v = 0 then 0 else 1)
  | [], u, v, h => by simp at h
  | x :: l, 0, v, h => by simp [cnt_cons]; omega
  | x :: l, u + 1, v, h => by
    have := cnt_set l u v (by simpa using h)
    simp only [List.set_cons_succ, cnt_cons, List.getD_cons_succ]
    omega
theorem cnt_le (l : List Int) : cnt l ≤ l.length := List.length_filter_le _ _
/-- Where not all slots are taken there is a free one. -/
theorem free_slot : ∀ (l : List Int), cnt l < l.length → ∃ z, z < l.length ∧ l.getD z 0 = 0
  | [], h => by simp [cnt] at h
  | x :: l, h => by
    by_cases hx : x = 0
    · exact ⟨0, by simp, by simp [hx]⟩
    · rw [cnt_cons, if_neg hx] at h
      obtain ⟨z, h1, h2⟩ := free_slot l (by simpa using h)
      exact ⟨z + 1, by simpa using h1, by simpa using h2⟩
theorem getD_set (l : List Int) (u v : Nat) (x : Int) (hu : u < l.length) : (l.set u x).getD v 0 = if v = u then x else l.getD v 0 := by
  simp only [List.getD, List.getElem?_set]
  by_cases h : u = v
  · subst h; simp [hu]
  · simp [h, Ne.symm h]

/-- THE INDEX HOLDS JUST THE PLACES BELOW K, each once, each to be come by from its home. -/
structure TOk (N K : Nat) (hm : Nat → Nat) (ix : List Int) : Prop where
  len : ix.length = N
  vals : ∀ u, u < N → ix.getD u 0 = 0 ∨ ∃ q : Nat, ix.getD u 0 = (q : Int) + 1 ∧ q < K
  uniq : ∀ u v (q : Nat), u < N → v < N → ix.getD u 0 = (q : Int) + 1 → ix.getD v 0 = (q : Int) + 1 → u = v
  has : ∀ q, q < K → ∃ u, u < N ∧ ix.getD u 0 = (q : Int) + 1
  path : ∀ u (q : Nat), u < N → ix.getD u 0 = (q : Int) + 1 → ∀ e, e < far N (hm q) u → ix.getD (cyc N (hm q) e) 0 ≠ 0
  count : cnt ix = K

/-- The same, place p struck. -/
structure TBut (N K p : Nat) (hm : Nat → Nat) (ix : List Int) : Prop where
  len : ix.length = N
  vals : ∀ u, u < N → ix.getD u 0 = 0 ∨ ∃ q : Nat, ix.getD u 0 = (q : Int) + 1 ∧ q < K ∧ q ≠ p
  uniq : ∀ u v (q : Nat), u < N → v < N → ix.getD u 0 = (q : Int) + 1 → ix.getD v 0 = (q : Int) + 1 → u = v
  has : ∀ q, q < K → q ≠ p → ∃ u, u < N ∧ ix.getD u 0 = (q : Int) + 1
  path : ∀ u (q : Nat), u < N → ix.getD u 0 = (q : Int) + 1 → ∀ e, e < far N (hm q) u → ix.getD (cyc N (hm q) e) 0 ≠ 0
  count : cnt ix + 1 = K

/-- The loop of 'unindex'. -/
structure UIp (N K p z : Nat) (hm : Nat → Nat) (ix : List Int) (f t : Nat) : Prop where
  len : ix.length = N
  fl : f < N
  tl : t < N
  zl : z < N
  vals : ∀ u, u < N → ix.getD u 0 = 0 ∨ ∃ q : Nat, ix.getD u 0 = (q : Int) + 1 ∧ q < K
  uniq : ∀ u v (q : Nat), u < N → v < N → u ≠ f → v ≠ f → ix.getD u 0 = (q : Int) + 1 → ix.getD v 0 = (q : Int) + 1 → u = v
  has : ∀ q, q < K → q ≠ p → ∃ u, u < N ∧ u ≠ f ∧ ix.getD u 0 = (q : Int) + 1
  nop : ∀ u, u < N → u ≠ f → ix.getD u 0 ≠ (p : Int) + 1
  path : ∀ u (q : Nat), u < N → u ≠ f → ix.getD u 0 = (q : Int) + 1 → ∀ e, e < far N (hm q) u → ix.getD (cyc N (hm q) e) 0 ≠ 0 ∨ cyc N (hm q) e = f
  late : ∀ u (q : Nat), u < N → u ≠ f → ix.getD u 0 = (q : Int) + 1 → (∃ e, e < far N (hm q) u ∧ cyc N (hm q) e = f) → far N f t ≤ far N f u
  z0 : ix.getD z 0 = 0
  fz : f ≠ z
  near : far N f t ≤ far N f z
  off : 1 ≤ far N f t
  count : cnt (ix.set f 0) + 1 = K

section
variable {N K p z : Nat} {hm : Nat → Nat} {ix : List Int} {f t : Nat}

theorem UIp.start (hN : 2 ≤ N) (h : TOk N K hm ix) (hp : p < K) (hz : z < N) (hz0 : ix.getD z 0 = 0) (hf : f < N) (hfp : ix.getD f 0 = (p : Int) + 1) : UIp N K p z hm ix f (cyc N f 1) := by
  have h1 := far_one hN hf
  have hfz : f ≠ z := by rintro rfl; rw [hz0] at hfp; omega
  refine ⟨h.len, hf, cyc_lt (by omega), hz, h.vals, fun u v q hu hv _ _ => h.uniq u v q hu hv, ?_, ?_, ?_, ?_, hz0, hfz, ?_, by omega, ?_⟩
  · intro q hq hne
    obtain ⟨u, hu, e⟩ := h.has q hq
    exact ⟨u, hu, fun e1 => hne (by subst e1; rw [hfp] at e; omega), e⟩
  · intro u hu hne e
    exact hne (h.uniq u f p hu hf e hfp)
  · intro u q hu hne e x hx
    exact .inl (h.path u q hu e x hx)
  · intro u q hu hne e _
    rw [h1]; exact far_pos hf hu (Ne.symm hne)
  · rw [h1]; exact far_pos hf hz hfz
  · have := cnt_set ix f 0 (by rw [h.len]; exact hf)
    rw [hfp, h.count] at this
    simp at this
    rw [if_neg (by omega)] at this
    omega

theorem UIp.move (hN : 2 ≤ N) (hmN : ∀ q, hm q < N) (h : UIp N K p z hm ix f t) {q : Nat} (hq : ix.getD t 0 = (q : Int) + 1) (hle : far N f t ≤ far N (hm q) t) : UIp N K p z hm (ix.set f ((q : Int) + 1)) t (cyc N t 1) := by
  have hft : t ≠ f := far_ne h.fl h.tl h.off
  have htz : t ≠ z := by rintro rfl; rw [h.z0] at hq; omega
  have h1 := far_one hN h.tl
  have hfl : f < ix.length := by rw [h.len]; exact h.fl
  have g : ∀ v, (ix.set f ((q : Int) + 1)).getD v 0 = if v = f then (q : Int) + 1 else ix.getD v 0 := fun v => getD_set ix f v _ hfl
  have hqK : q < K := by
    rcases h.vals t h.tl with e | ⟨q', e, hk⟩
    · omega
    · have : q' = q := by omega
      omega
  refine ⟨by simp [h.len], h.tl, cyc_lt (by omega), h.zl, ?_, ?_, ?_, ?_, ?_, ?_, ?_, htz, ?_, by omega, ?_⟩
  · intro u hu
    rw [g]; split
    · exact .inr ⟨q, rfl, hqK⟩
    · exact h.vals u hu
  · intro u v q' hu hv hut hvt e1 e2
    rw [g] at e1 e2
    split at e1 <;> split at e2
    · omega
    · rename_i hv'
      have : q' = q := by omega
      subst this
      exact absurd (h.uniq v t q' hv h.tl hv' hft e2 hq) hvt
    · rename_i hu' _
      have : q' = q := by omega
      subst this
      exact absurd (h.uniq u t q' hu h.tl hu' hft e1 hq) hut
    · rename_i hu' hv'
      exact h.uniq u v q' hu hv hu' hv' e1 e2
  · intro q' hk hne
    obtain ⟨u, hu, huf, e⟩ := h.has q' hk hne
    by_cases hut : u = t
    · subst hut
      refine ⟨f, h.fl, Ne.symm hft, ?_⟩
      rw [g, if_pos rfl]; omega
    · exact ⟨u, hu, hut, by rw [g, if_neg huf]; exact e⟩
  · intro u hu hut e
    rw [g] at e
    split at e
    · exact h.nop t h.tl hft (by omega)
    · rename_i huf
      exact h.nop u hu huf e
  · intro u q' hu hut e x hx
    rw [g] at e
    split at e
    · rename_i huf
      subst huf
      have hqq : q' = q := by omega
      subst hqq
      have hsp := far_split (hmN q') h.fl h.tl hle
      have hne : cyc N (hm q') x ≠ u := by
        intro ec
        have hx' : x < N := Nat.lt_trans hx (far_lt (by omega))
        have := far_cyc (hmN q') hx'
        rw [ec] at this; omega
      rw [g, if_neg hne]
      have := h.path t q' h.tl hft hq x (by omega)
      rcases this with h2 | h2
      · exact .inl h2
      · exact absurd h2 hne
    · rename_i huf
      rw [g]
      by_cases hc : cyc N (hm q') x = f
      · rw [if_pos hc]; left; omega
      · rw [if_neg hc]
        rcases h.path u q' hu huf e x hx with h2 | h2
        · exact .inl h2
        · exact absurd h2 hc
  · intro u q' hu hut e _
    rw [h1]; exact far_pos h.tl hu (Ne.symm hut)
  · rw [g, if_neg (Ne.symm h.fz)]; exact h.z0
  · rw [h1]; exact far_pos h.tl h.zl htz
  · have c1 := cnt_set ix f 0 hfl
    have c2 := cnt_set ix f ((q : Int) + 1) hfl
    have c3 := cnt_set (ix.set f ((q : Int) + 1)) t 0 (by simp [h.len]; exact h.tl)
    rw [g, if_neg hft, hq] at c3
    have := h.count
    rw [if_neg (show ¬ (q : Int) + 1 = 0 by omega)] at c2 c3
    rw [show (if (0 : Int) = 0 then 0 else 1) = 0 from rfl] at c1 c3
    omega

theorem UIp.stay (hN : 2 ≤ N) (hmN : ∀ q, hm q < N) (h : UIp N K p z hm ix f t) {q : Nat} (hq : ix.getD t 0 = (q : Int) + 1) (hle : ¬ far N f t ≤ far N (hm q) t) : UIp N K p z hm ix f (cyc N t 1) := by
  have hft : t ≠ f := far_ne h.fl h.tl h.off
  have htz : t ≠ z := by rintro rfl; rw [h.z0] at hq; omega
  have hlt : far N f t < far N f z := by
    rcases Nat.lt_or_ge (far N f t) (far N f z) with h1 | h1
    · exact h1
    · exact absurd (far_inj h.fl h.tl h.zl (by have := h.near; omega)) htz
  have hnx := far_next hN h.fl h.tl h.zl hlt
  refine ⟨h.len, h.fl, cyc_lt (by omega), h.zl, h.vals, h.uniq, h.has, h.nop, h.path, ?_, h.z0, h.fz, by omega, by omega, h.count⟩
  intro u q' hu huf e hex
  have h1 := h.late u q' hu huf e hex
  have hne : far N f t ≠ far N f u := by
    intro e1
    have hut : t = u := far_inj h.fl h.tl hu e1
    subst hut
    have hqq : q' = q := by omega
    subst hqq
    obtain ⟨x, hx, hc⟩ := hex
    have := far_on (hmN q') h.tl (e := x) (by omega)
    rw [hc] at this
    omega
  omega

theorem UIp.done (hN : 2 ≤ N) (hmN : ∀ q, hm q < N) (h : UIp N K p z hm ix f t) (h0 : ix.getD t 0 = 0) : TBut N K p hm (ix.set f 0) := by
  have hft : t ≠ f := far_ne h.fl h.tl h.off
  have hfl : f < ix.length := by rw [h.len]; exact h.fl
  have g : ∀ v, (ix.set f 0).getD v 0 = if v = f then 0 else ix.getD v 0 := fun v => getD_set ix f v _ hfl
  have isf : ∀ u (q : Nat), (ix.set f 0).getD u 0 = (q : Int) + 1 → u ≠ f ∧ ix.getD u 0 = (q : Int) + 1 := by
    intro u q e
    rw [g] at e
    split at e
    · omega
    · exact ⟨‹_›, e⟩
  refine ⟨by simp [h.len], ?_, ?_, ?_, ?_, h.count⟩
  · intro u hu
    rw [g]; split
    · exact .inl rfl
    · rename_i huf
      rcases h.vals u hu with e | ⟨q, e, hk⟩
      · exact .inl e
      · exact .inr ⟨q, e, hk, fun e1 => h.nop u hu huf (by rw [e, e1])⟩
  · intro u v q hu hv e1 e2
    obtain ⟨a1, a2⟩ := isf u q e1
    obtain ⟨b1, b2⟩ := isf v q e2
    exact h.uniq u v q hu hv a1 b1 a2 b2
  · intro q hk hne
    obtain ⟨u, hu, huf, e⟩ := h.has q hk hne
    exact ⟨u, hu, by rw [g, if_neg huf]; exact e⟩
  · intro u q hu e x hx
    obtain ⟨huf, e⟩ := isf u q e
    have hne : cyc N (hm q) x ≠ f := by
      intro hc
      have h1 := h.late u q hu huf e ⟨x, hx, hc⟩
      have h2 := far_on (hmN q) hu (e := x) (by omega)
      rw [hc] at h2
      have hlt : far N f t ≠ far N f u := by
        intro e1
        have := far_inj h.fl h.tl hu e1
        subst this
        rw [h0] at e; omega
      have h3 : cyc N (hm q) (x + far N f t) = t := by
        rw [← cyc_on (by omega), hc, cyc_far h.fl h.tl]
      rcases h.path u q hu huf e (x + far N f t) (by omega) with h4 | h4
      · rw [h3] at h4; exact h4 h0
      · rw [h3] at h4; exact hft h4
    rw [g, if_neg hne]
    rcases h.path u q hu huf e x hx with h4 | h4
    · exact h4
    · exact absurd h4 hne
end
end Go.Proofs.Qxb6603910aMods
