/-
  The plain lists of the renumbering.
-/
import Derived.Test.Qxb6619397aStep
namespace Go.Proofs.Qxb6619397a
open Go.RowKit
set_option linter.unusedVariables false

/-- The transactions below t that are used. -/
def ks (U : Nat → Bool) (t : Nat) : List Nat := (List.range t).filter U
theorem ks_yes (U : Nat → Bool) (t : Nat) (h : U t = true) : ks U (t + 1) = ks U t ++ [t] := by
  unfold ks
  rw [List.range_succ, List.filter_append]
  simp [h]
theorem ks_no (U : Nat → Bool) (t : Nat) (h : U t = false) : ks U (t + 1) = ks U t := by
  unfold ks
  rw [List.range_succ, List.filter_append]
  simp [h]
theorem ks_le (U : Nat → Bool) (t : Nat) : (ks U t).length ≤ t := by
  unfold ks
  have := List.length_filter_le U (List.range t)
  simpa using this

/-- The renumber row behind t rounds of the third loop. -/
def R3 (U : Nat → Bool) (t s : Nat) : Int := if U s = true then (if s < t then ((ks U (s + 1)).length : Int) else 1) else 0
def RN3 (U : Nat → Bool) (m t : Nat) : List Value := (List.range m).map fun s => Value.int .i64 (R3 U t s)
def TX (U : Nat → Bool) (T : List ByteArray) (t : Nat) : List Value := (ks U t).map fun s => Value.string (T.getD s ByteArray.empty)

theorem TX_len (U : Nat → Bool) (T : List ByteArray) (t : Nat) : (TX U T t).length = (ks U t).length := by simp [TX]
theorem RN3_len (U : Nat → Bool) (m t : Nat) : (RN3 U m t).length = m := by simp [RN3]
theorem RN3_get (U : Nat → Bool) (m t s : Nat) (h : s < m) : (RN3 U m t)[s]? = some (.int .i64 (R3 U t s)) := by
  simp [RN3, h]
theorem R3_here (U : Nat → Bool) (t : Nat) : R3 U t t = if U t = true then 1 else 0 := by
  unfold R3
  simp
theorem RN3_yes (U : Nat → Bool) (m t : Nat) (h : U t = true) (ht : t < m) : (RN3 U m t).set t (.int .i64 ((ks U (t + 1)).length : Int)) = RN3 U m (t + 1) := by
  apply List.ext_getElem?
  intro s
  rw [List.getElem?_set]
  by_cases hs : s < m
  · by_cases hts : t = s
    · subst hts
      rw [if_pos rfl, if_pos (by rw [RN3_len]; exact hs), RN3_get U m _ _ hs]
      unfold R3
      rw [if_pos h, if_pos (by omega)]
    · rw [if_neg hts, RN3_get U m _ _ hs, RN3_get U m _ _ hs]
      unfold R3
      by_cases hlt : s < t
      · rw [if_pos hlt, if_pos (by omega : s < t + 1)]
      · rw [if_neg hlt, if_neg (by omega : ¬ s < t + 1)]
  · have e1 : (RN3 U m t)[s]? = none := List.getElem?_eq_none (by rw [RN3_len]; omega)
    have e2 : (RN3 U m (t + 1))[s]? = none := List.getElem?_eq_none (by rw [RN3_len]; omega)
    rw [e1, e2]
    by_cases hts : t = s
    · omega
    · rw [if_neg hts]
theorem RN3_no (U : Nat → Bool) (m t : Nat) (h : U t = false) : RN3 U m t = RN3 U m (t + 1) := by
  unfold RN3
  apply List.map_congr_left
  intro s _
  unfold R3
  by_cases hs : s = t
  · subst hs; rw [h]; simp
  · by_cases hlt : s < t
    · rw [if_pos hlt, if_pos (by omega : s < t + 1)]
    · rw [if_neg hlt, if_neg (by omega : ¬ s < t + 1)]
theorem R3_end (U : Nat → Bool) (m x : Nat) (h : U x = true) (hx : x < m) : R3 U m x = ((ks U x).length : Int) + 1 := by
  unfold R3
  rw [if_pos h, if_pos hx, ks_yes U x h]
  simp

section
variable {B L gp gk gt gi ga : Nat} {w0 w : World} {items : Int} {tv : Value} {ck ct ci ca : List Value}
theorem H.grown {w w' : World} {g : Nat} {A : List Value} {t : TypeId} {row : Option Nat} (h : H w g A t) (hg : w.grownBy w' row) (hne : some g ≠ row) : H w' g A t := (hg.block g h.lt hne).trans h
theorem RowL.grown {w w' : World} {g L : Nat} {t : TypeId} {c : List Value} {row : Option Nat} (h : RowL w g t L c) (hg : w.grownBy w' row) (hne : some g ≠ row) : RowL w' g t L c := by
  obtain ⟨A, hA, hAl, hAt⟩ := h
  exact ⟨A, hA.grown hg hne, hAl, hAt⟩
theorem St.grown {w' : World} {row : Option Nat} (h : St B w0 L items gp gk gt gi ga tv ck ct ci ca w) (hg : w.grownBy w' row) (hB : B ≤ w.heap.size) (hr : ∀ k, row = some k → gp < k ∧ gk < k ∧ gt < k ∧ gi < k ∧ ga < k ∧ B ≤ k) :
    St B w0 L items gp gk gt gi ga tv ck ct ci ca w' :=
  ⟨h.p.grown hg (fun e => by have := hr gp e.symm; omega), h.k.grown hg (fun e => by have := hr gk e.symm; omega), h.t.grown hg (fun e => by have := hr gt e.symm; omega), h.i.grown hg (fun e => by have := hr gi e.symm; omega), h.a.grown hg (fun e => by have := hr ga e.symm; omega), h.bel.grown hg hB (fun k e => (hr k e).2.2.2.2.2)⟩
theorem St.setTv (h : St B w0 L items gp gk gt gi ga tv ck ct ci ca w) (hF : Five B gp gk gt gi ga) (v : Value) : St B w0 L items gp gk gt gi ga v ck ct ci ca (w.setCell ⟨gp, 1, none⟩ v) :=
  ⟨by have := h.p.set 1 v; simpa [fieldsV] using this, h.k.other hF.pk.symm _ _, h.t.other hF.pt.symm _ _, h.i.other hF.pi.symm _ _, h.a.other hF.pa.symm _ _, h.bel.setCell hF.bp _⟩
end
end Go.Proofs.Qxb6619397a
