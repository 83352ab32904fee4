/-
  The walk of FnServesExactNameServesItsOwnName.
-/
import Derived.Test.Qxb6617400aSize
namespace Go.Proofs.Qxb6617400a
open Go.RowKit
set_option linter.unusedVariables false

theorem serves_mid (A B : List ByteArray) (m acc : ByteArray) : servesB (A ++ m :: B) acc = (servesB (A ++ B) acc || matchB m acc) := by
  unfold servesB
  rw [List.any_append, List.any_append, List.any_cons]
  cases A.any (fun a => matchB a acc) <;> cases B.any (fun a => matchB a acc) <;> cases matchB m acc <;> rfl

theorem match_exact (m acc : ByteArray) (h : starB m = false) : matchB m acc = (m.toList == acc.toList) := by
  unfold matchB
  rw [h]
  simp

theorem strs_none (w : World) (ao : Option Addr) : Strs w ao 0 [] := ⟨rfl, fun s hs => (by cases hs), .inl rfl⟩

set_option maxHeartbeats 1000000 in
theorem exact_walk (id name acc : ByteArray) (ao1 ao2 : Option Addr) (n1 c1 n2 c2 : Nat) (A B : List ByteArray) (w : World) (h1 : Strs w ao1 n1 A) (h2 : Strs w ao2 n2 B)
    (hm1 : n1 ≤ maxLen) (hm2 : n2 ≤ maxLen) (hs1 : id.size ≤ maxLen) (hs2 : name.size ≤ maxLen) (hs3 : acc.size ≤ maxLen) :
    Calls Try.prog 3 #[.string id, .slice ao1 n1 c1, .string name, .slice ao2 n2 c2, .string acc] w fun e w' => e = .returned (.bool true) ∧ Below w.heap.size w w' := by
  go_enter Try.func3, Try.ntmps3
  go_wp2_with fail
  refine (bytes6_any id name acc ao1 ao2 n1 c1 n2 c2 A B _ h1 h2 hm1 hm2 hs1 hs2 hs3).mono ?_
  rintro e w' ⟨⟨x, rfl, hx⟩, hw⟩
  obtain rfl := hw.symm
  cases x
  · go_wp2
    go_ret
    exact ⟨rfl, Below.refl _ _⟩
  obtain ⟨hn1, hn2⟩ := hx rfl
  clear hx
  go_wp2_with fail
  refine (sizeOK_any id name acc ao1 ao2 n1 c1 n2 c2 A B _ hn1 hn2 h1 h2).mono ?_
  rintro e w' ⟨⟨x, rfl⟩, hw⟩
  obtain rfl := hw.symm
  cases x
  · go_wp2
    go_ret
    exact ⟨rfl, Below.refl _ _⟩
  go_wp2_with fail
  refine (endsStar_any name _ hs2).mono ?_
  rintro e w' ⟨rfl, hw⟩
  obtain rfl := hw.symm
  cases hst : starB name with
  | true =>
    go_wp2
    go_ret
    exact ⟨rfl, Below.refl _ _⟩
  | false =>
  have HG : Hid (servesB (A ++ name :: B) acc = (servesB (A ++ B) acc || (name.toList == acc.toList))) := by
    show _ = _
    rw [serves_mid, match_exact name acc hst]
  clear hst
  go_wp2_with fail
  refine (join3_any ao1 ao2 n1 c1 n2 c2 A B name _ hn1 hn2 hs2 h1 h2).mono ?_
  rintro e wa ⟨rfl, ha, hba⟩
  go_wp2_with fail
  refine (join2_any ao1 ao2 n1 c1 n2 c2 A B _ hn1 hn2 (h1.later hba) (h2.later hba)).mono ?_
  rintro e wb ⟨rfl, hb, hbb⟩
  go_wp2_with fail
  refine (scope_any id acc _ _ _ (A ++ name :: B) _ hs3 (by omega) (ha.later hbb)).mono ?_
  rintro e wc ⟨rfl, hbc⟩
  go_wp2_with fail
  refine (scope_any id acc _ _ _ (A ++ B) _ hs3 (by omega) (hb.later hbc)).mono ?_
  rintro e wd ⟨rfl, hbd⟩
  have hD : Below w.heap.size w wd := ((hba.trans (hbb.mono hba.size)).trans (hbc.mono (Nat.le_trans hba.size hbb.size))).trans (hbd.mono (Nat.le_trans (Nat.le_trans hba.size hbb.size) hbc.size))
  clear hba hbb hbc hbd ha hb h1 h2
  have hnil : servesB [] acc = false := rfl
  generalize servesB (A ++ name :: B) acc = got at *
  generalize servesB (A ++ B) acc = base at *
  cases base with
  | true =>
      have hg : got = true := by rw [HG.out]; rfl
      subst hg
      go_wp2_with fail
      refine (scope_any id acc none 0 0 [] _ hs3 (by omega) (strs_none _ _)).mono ?_
      rintro e we ⟨rfl, hbe⟩
      go_wp2_with fail
      refine (scope_any id acc _ 0 0 [] _ hs3 (by omega) (strs_none _ _)).mono ?_
      rintro e wf ⟨rfl, hbf⟩
      go_wp2
      go_ret
      exact ⟨rfl, (hD.trans (hbe.mono hD.size)).trans ((((Below.refl _ _).alloc (Nat.le_refl _) _).trans (hbf.mono (by simp))).mono (Nat.le_trans hD.size hbe.size))⟩
  | false =>
    cases heq : (name.toList == acc.toList) with
    | true =>
      have hg : got = true := by rw [HG.out, heq]; rfl
      subst hg
      go_wp2_with fail
      refine (scope_any id acc none 0 0 [] _ hs3 (by omega) (strs_none _ _)).mono ?_
      rintro e we ⟨rfl, hbe⟩
      go_wp2_with fail
      refine (scope_any id acc _ 0 0 [] _ hs3 (by omega) (strs_none _ _)).mono ?_
      rintro e wf ⟨rfl, hbf⟩
      go_wp2
      go_ret
      exact ⟨rfl, (hD.trans (hbe.mono hD.size)).trans ((((Below.refl _ _).alloc (Nat.le_refl _) _).trans (hbf.mono (by simp))).mono (Nat.le_trans hD.size hbe.size))⟩
    | false =>
      have hg : got = false := by rw [HG.out, heq]; rfl
      subst hg
      go_wp2_with fail
      refine (scope_any id acc none 0 0 [] _ hs3 (by omega) (strs_none _ _)).mono ?_
      rintro e we ⟨rfl, hbe⟩
      go_wp2_with fail
      refine (scope_any id acc _ 0 0 [] _ hs3 (by omega) (strs_none _ _)).mono ?_
      rintro e wf ⟨rfl, hbf⟩
      go_wp2
      go_ret
      exact ⟨rfl, (hD.trans (hbe.mono hD.size)).trans ((((Below.refl _ _).alloc (Nat.le_refl _) _).trans (hbf.mono (by simp))).mono (Nat.le_trans hD.size hbe.size))⟩

end Go.Proofs.Qxb6617400a
