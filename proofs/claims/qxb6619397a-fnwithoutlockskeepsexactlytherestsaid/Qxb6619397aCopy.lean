/-
  A copy of a list of whole numbers.
-/
import Derived.Test.Qxb6619397aBase
import Derived.Laws.CopyOwn
namespace Go.Proofs.Qxb6619397a
open Go.RowKit
set_option linter.unusedVariables false

theorem add_flat (b o j : Nat) : (⟨b, o, none⟩ : Addr).add j = ⟨b, o + j, none⟩ := by
  unfold Addr.add
  by_cases h : j = 0
  · subst h; rfl
  · rw [if_neg h]

theorem copy_run {w w0 : World} {g n c : Nat} {a0 : Addr} {D : List Int} {cur : List Value} (hl : D.length = n) (hS : Row w0 (some a0) (D.map (Value.int .i64))) (hcur : H w0 g cur 3) (hcl : cur.length = n) (hb : Below w.heap.size w w0) (hg : w.heap.size ≤ g) :
    ∃ W, (Builtin.copy_ #[24, 24] 3 #[.slice (some ⟨g, 0, none⟩) n n, .slice (some a0) n c]).run Try.prog w0 = .ok (goInt n) W ∧ Row W (some ⟨g, 0, none⟩) (D.map (Value.int .i64)) ∧ Below w.heap.size w W := by
  have hsz : (Try.prog.info? 3).map (·.size) = some 1 := by kernel_rfl
  by_cases h0 : n = 0
  · subst h0
    have hA : D = [] := List.eq_nil_of_length_eq_zero hl
    subst hA
    exact ⟨w0, run_copy_none w0 24 24 3 3 _ _ 0 0 0 c Try.underlying24 hsz rfl, row_none _ _, hb⟩
  · obtain ⟨b, o, ha, hc⟩ := hS.parts
    have e := ha (by simp; omega)
    cases e
    have hsrc : ∀ j v, (D.map (Value.int .i64))[j]? = some v → w0.cell? ((⟨b, o, none⟩ : Addr).add j) = some v := fun j v hj => by rw [add_flat]; exact hc j v hj
    have hrun := run_copy_row (P := Try.prog) w0 24 24 3 3 g 0 n n ⟨b, o, none⟩ n c cur.toArray 3 (D.map (Value.int .i64)) Try.underlying24 hsz hcur (by simp [hl]) hsrc (by simp [hl, hcl]) (ints_oneCell _ _)
    refine ⟨_, by rw [hrun]; simp [hl]; rfl, ?_, below_setRow hb hg _⟩
    refine Row.ofH (A := D.map (Value.int .i64)) (t := 3) ?_ List.take_length
    unfold H
    rw [setRow_heap w0 g _ _ 3 _ hcur]
    simp [hcl]
end Go.Proofs.Qxb6619397a
