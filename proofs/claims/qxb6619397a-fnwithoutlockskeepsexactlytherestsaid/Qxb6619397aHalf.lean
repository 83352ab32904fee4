/-
  The fourth loop's row; what withoutLocks answers where there is a lock.
-/
import Derived.Test.Qxb6619397aRen
namespace Go.Proofs.Qxb6619397a
open Go.RowKit
set_option linter.unusedVariables false

/-- A list whose first j entries are through g, the others through f. -/
def half (l : List Nat) (f g : Nat → Value) (j : Nat) : List Value := (l.take j).map g ++ (l.drop j).map f
theorem half_zero (l : List Nat) (f g : Nat → Value) : half l f g 0 = l.map f := by simp [half]
theorem half_end (l : List Nat) (f g : Nat → Value) : half l f g l.length = l.map g := by simp [half]
theorem half_len (l : List Nat) (f g : Nat → Value) (j : Nat) : (half l f g j).length = l.length := by
  simp [half]
  omega
theorem half_get (l : List Nat) (f g : Nat → Value) (j : Nat) (h : j < l.length) : (half l f g j)[j]? = some (f l[j]) := by
  unfold half
  rw [List.getElem?_append_right (by simp; omega)]
  simp
  rw [Nat.min_eq_left (by omega)]
  simp [h]
theorem half_set (l : List Nat) (f g : Nat → Value) (j : Nat) (h : j < l.length) : (half l f g j).set j (g l[j]) = half l f g (j + 1) := by
  apply List.ext_getElem?
  intro s
  rw [List.getElem?_set, half_len]
  by_cases hs : j = s
  · subst hs
    rw [if_pos rfl, if_pos h]
    unfold half
    rw [List.getElem?_append_left (by simp; omega)]
    simp [h]
  · rw [if_neg hs]
    unfold half
    rw [List.getElem?_append, List.getElem?_append]
    simp only [List.length_map, List.length_take, List.getElem?_map, List.getElem?_take, List.getElem?_drop]
    by_cases hl : s < j
    · rw [if_pos (by omega), if_pos (by omega), if_pos (by omega), if_pos (by omega)]
    · rw [if_neg (by omega)]
      by_cases hl2 : s < l.length
      · rw [if_neg (by omega)]
        rw [Nat.min_eq_left (by omega), Nat.min_eq_left (by omega)]
        rw [show j + (s - j) = s by omega, show j + 1 + (s - (j + 1)) = s by omega]
      · rw [if_neg (by omega)]
        rw [List.getElem?_eq_none (by omega), List.getElem?_eq_none (by omega)]

theorem RowL.get {w : World} {g L : Nat} {t : TypeId} {c : List Value} (h : RowL w g t L c) (j : Nat) (hj : j < c.length) : w.cell? ⟨g, j, none⟩ = c[j]? := by
  obtain ⟨A, hA, hAl, hAt⟩ := h
  rw [hA.cell, ← hAt, List.getElem?_take, if_pos hj]
theorem RowL.put {w : World} {g L : Nat} {t : TypeId} {c : List Value} (h : RowL w g t L c) (j : Nat) (v : Value) : RowL (w.setCell ⟨g, j, none⟩ v) g t L (c.set j v) := by
  obtain ⟨A, hA, hAl, hAt⟩ := h
  refine ⟨_, hA.set j v, by simpa using hAl, ?_⟩
  rw [List.length_set]
  conv => rhs; rw [← hAt]
  rw [List.take_set]

theorem St.putT {B L gp gk gt gi ga : Nat} {w0 w : World} {items : Int} {tv : Value} {ck ct ci ca : List Value}
    (h : St B w0 L items gp gk gt gi ga tv ck ct ci ca w) (hF : Five B gp gk gt gi ga) (j : Nat) (v : Value) :
    St B w0 L items gp gk gt gi ga tv ck (ct.set j v) ci ca (w.setCell ⟨gt, j, none⟩ v) :=
  ⟨by rw [List.length_set]; exact h.p.other hF.pt _ _, h.k.other hF.kt _ _, h.t.put j v, h.i.other hF.ti.symm _ _, h.a.other hF.ta.symm _ _, h.bel.setCell hF.bt _⟩

end Go.Proofs.Qxb6619397a
