/-
  What the law's last four loops ask.
-/
import Derived.Test.Qxb6603910aModsSay
namespace Go.Proofs.Qxb6603910aMods
open Go.RowKit Go.Maps
set_option linter.unusedSimpArgs false
set_option linter.unusedVariables false

def Span (a b : Nat) (v : Value) : Prop := ∃ k : Nat, a ≤ k ∧ k ≤ b ∧ v = .int .i64 k
def qOf (C j K k : Nat) : Int := if k < K then (((j - 1 - k) % C : Nat) : Int) else -1
def pvOf (C j k : Nat) : Int := if k = 0 then -1 else (((j - k) % C : Nat) : Int)
def FieldsQ (C N : Nat) (k q o ev : Int) (c : Bool) (cb : Nat) (wr : World) : Prop := Calls Trym.prog 28 #[.pointer (some ⟨cb, 0, none⟩)] wr fun e w' => e = .returned (.tuple #[.int .i64 C, .int .i64 N, .int .i32 k, .int .i32 q, .int .i32 o, .int .i32 (-1), .int .u64 ev, .bool c]) ∧ ∃ d, w' = wr.drewN d
def LinksAt (cb : Nat) (wr : World) (p : Nat) (x nw od : Int) : Prop := Calls Trym.prog 29 #[.pointer (some ⟨cb, 0, none⟩), .int .i32 p] wr fun e' w' => e' = .returned (.tuple #[.int .u64 x, .int .i32 nw, .int .i32 od, .int .i32 0]) ∧ ∃ d o, w' = (wr.alloc o).drewN d
def IndexAt (cb : Nat) (wr : World) (t : Nat) (x : Int) : Prop := Calls Trym.prog 30 #[.pointer (some ⟨cb, 0, none⟩), .int .i64 t] wr fun e w' => e = .returned (.int .i32 x) ∧ w' = wr

theorem cnt_take : ∀ (l : List Int) (t : Nat), t < l.length → cnt (l.take (t + 1)) = cnt (l.take t) + (if l.getD t 0 = 0 then 0 else 1)
  | [], t, h => by simp at h
  | x :: l, 0, h => by
    simp only [List.take_succ_cons, List.take_zero, cnt_cons, List.getD_cons_zero]
  | x :: l, t + 1, h => by
    have := cnt_take l t (by simpa using h)
    simp only [List.take_succ_cons, cnt_cons, List.getD_cons_succ]
    omega
section
variable {w wr : World} {cb pB iB mb L : Nat} {seed : Int} {N C : Nat} {c0 : Bool} {s : CS} {pd : List Int} {v : Value} {D : DataW Unit} {j K k : Nat}

theorem Big.fieldsQ (h : Big w wr cb pB iB mb seed N C c0 s pd v D) (hC : 1 ≤ C) (hC2 : C ≤ 65536) (hN : N ≤ 65536) (hj : pd.length = j) (hK : K = min j C) :
    ∃ k ev c, FieldsQ C N k (qOf C j K 0) (pvOf C j K) ev c cb wr := by
  have := fields_any wr cb pB iB seed s h.cat (by rw [h.inv.plen]; exact hC2) (by rw [h.inv.ilen]; exact hN)
  rw [h.inv.plen, h.inv.ilen, h.inv.newest, h.inv.oldest] at this
  refine ⟨s.taken, s.ev, s.comp, ?_⟩
  have hk : keepN C pd = K := by unfold keepN; omega
  rw [hk, hj] at this
  unfold FieldsQ
  have e1 : (if j = 0 then (-1 : Int) else (((j - 1) % C : Nat) : Int)) = qOf C j K 0 := by
    unfold qOf
    by_cases h0 : j = 0
    · rw [if_pos h0, if_neg (by omega)]
    · rw [if_neg h0, if_pos (by omega), Nat.sub_zero]
  have e2 : (if j = 0 then (-1 : Int) else (((j - K) % C : Nat) : Int)) = pvOf C j K := by
    unfold pvOf
    by_cases h0 : j = 0
    · rw [if_pos h0, if_pos (by omega)]
    · rw [if_neg h0, if_neg (by omega)]
  rw [e1, e2] at this
  exact this
theorem Big.links (h : Big w wr cb pB iB mb seed N C c0 s pd v D) (hC : 1 ≤ C) (hC2 : C ≤ 65536) (hj : pd.length = j) (hK : K = min j C) (hk : k < K) :
    LinksAt cb wr ((j - 1 - k) % C) (pd.getD (j - 1 - k) 0) (pvOf C j k) (qOf C j K (k + 1)) := by
  have hkK : keepN C pd = K := by unfold keepN; omega
  have hp := h.inv.places (j - 1 - k) (by rw [hkK, hj]; omega) (by omega)
  have := links_any wr cb pB iB seed s h.cat _ _ hp (by rw [h.inv.plen]; exact hC2)
  have e1 : nwOf C pd (j - 1 - k) = pvOf C j k := by
    unfold nwOf pvOf
    rw [hj]
    by_cases h0 : k = 0
    · rw [if_neg (by omega), if_pos h0]
    · rw [if_pos (by omega), if_neg h0, show j - 1 - k + 1 = j - k by omega]
  have e2 : odOf C pd (j - 1 - k) = qOf C j K (k + 1) := by
    unfold odOf qOf
    rw [hj, hkK]
    by_cases h0 : k + 1 < K
    · rw [if_pos (by omega), if_pos h0, show j - 1 - k - 1 = j - 1 - (k + 1) by omega]
    · rw [if_neg (by omega), if_neg h0]
  unfold LinksAt
  simp only [e1, e2] at this
  exact this
theorem Big.cellv {av : Option Addr} {vcap : Nat} (h : Big w wr cb pB iB mb seed N C c0 s pd (.slice av j vcap) D) (hj : pd.length = j) (h0 : 0 < j) : ∃ g, av = some ⟨g, 0, none⟩ ∧ ∀ i, i < j → wr.cell? ⟨g, i, none⟩ = some (.int .u64 (pd.getD i 0)) := by
  obtain ⟨g, cap, hv, hc⟩ := h.cell (i := 0) (by omega)
  simp only [Value.slice.injEq] at hv
  exact ⟨g, hv.1, fun i hi => hc i (by omega)⟩
theorem Big.other (h : Big w wr cb pB iB mb seed N C c0 s pd v D) (hC : 1 ≤ C) (hCN : C < N) (hN : N = 2 ^ L) (hL : L ≤ 16) (hj : pd.length = j) (hK : K = min j C) (hk : k < j - K) :
    ∃ i : Nat, k ≤ i ∧ i < j ∧ (Instr.lookup 72 (.map (some mb)) (.int .u64 (pd.getD k 0)) false).run Trym.prog wr = .ok (.int .i64 i) wr ∧ (i = k → Calls Trym.prog 26 #[.pointer (some ⟨cb, 0, none⟩), .int .u64 (pd.getD k 0)] wr fun e w' => FoundP (-1) e ∧ w' = wr) := by
  obtain ⟨i, h1, h2, h3, h4, h5⟩ := h.lookAt (k := k) (by omega)
  refine ⟨i, h1, by omega, h5, fun e => h.find_out hC hCN hN hL (fun i' a1 a2 => h4 i' ?_ a2)⟩
  have hkK : keepN C pd = K := by unfold keepN; omega
  rw [hkK, hj] at a1
  omega
theorem Big.index (h : Big w wr cb pB iB mb seed N C c0 s pd v D) (hN : N ≤ 65536) (hj : pd.length = j) (hK : K = min j C) (hk : k < N) :
    (IndexAt cb wr k 0 ∧ cnt (s.ix.take (k + 1)) = cnt (s.ix.take k)) ∨ ∃ q : Nat, q < K ∧ IndexAt cb wr k ((q : Int) + 1) ∧ cnt (s.ix.take (k + 1)) = cnt (s.ix.take k) + 1 := by
  have hkK : keepN C pd = K := by unfold keepN; omega
  have hi := index_any wr cb pB iB seed s h.cat k (by rw [h.inv.ilen]; exact hk) (by rw [h.inv.ilen]; exact hN)
  have hc := cnt_take s.ix k (by rw [h.inv.ilen]; exact hk)
  rcases h.inv.tab.vals k hk with e | ⟨q, e, hq⟩
  · refine .inl ⟨?_, ?_⟩
    · unfold IndexAt
      rw [show s.at_ k = 0 from e] at hi
      exact hi
    · rw [hc, if_pos e]; rfl
  · refine .inr ⟨q, by omega, ?_, ?_⟩
    · unfold IndexAt
      rw [show s.at_ k = (q : Int) + 1 from e] at hi
      exact hi
    · rw [hc, if_neg (by omega)]
theorem Big.counted (h : Big w wr cb pB iB mb seed N C c0 s pd v D) (hj : pd.length = j) (hK : K = min j C) : cnt (s.ix.take N) = K := by
  have hkK : keepN C pd = K := by unfold keepN; omega
  rw [← h.inv.ilen, List.take_length, h.inv.tab.count, hkK]
end
end Go.Proofs.Qxb6603910aMods
