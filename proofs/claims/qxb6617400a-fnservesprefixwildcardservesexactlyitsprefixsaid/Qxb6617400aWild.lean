/-
  zzHasPrefix by its contract; the walk of FnServesPrefixWildcardServesExactlyItsPrefix.
-/
import Derived.Test.Qxb6617400aExact
namespace Go.Proofs.Qxb6617400a
open Go.RowKit
set_option linter.unusedVariables false

/-- The first k bytes of s and p agree. -/
def agree (s p : ByteArray) (k : Nat) : Bool := s.data.toList.take k == p.data.toList.take k

theorem pfxB_agree (s p : ByteArray) (h : p.size ≤ s.size) : pfxB s p = agree s p p.size := by
  unfold pfxB agree
  have e : p.data.toList.take p.size = p.data.toList := by rw [Lib.size_eq p, List.take_length]
  rw [Lib.extract_toList, Lib.toList_data, List.drop_zero, Nat.sub_zero, e]
  simp [h]

theorem byte_at (s : ByteArray) (k : Nat) (h : k < s.size) (h2 : k < s.data.toList.length) : s.data.toList[k] = s[k] := by
  simp
  rfl

theorem agree_step (s p : ByteArray) (k : Nat) (h1 : k < s.size) (h2 : k < p.size) (h : agree s p k = true) (hb : ((s[k].toNat : Int) != (p[k].toNat : Int)) = false) : agree s p (k + 1) = true := by
  have l1 := Lib.size_eq s
  have l2 := Lib.size_eq p
  have e : s[k] = p[k] := UInt8.toNat_inj.1 (by simp at hb; omega)
  unfold agree at h ⊢
  rw [List.take_succ_eq_append_getElem (by omega), List.take_succ_eq_append_getElem (by omega), byte_at s k h1, byte_at p k h2, e, eq_of_beq h]
  simp

theorem agree_miss (s p : ByteArray) (k : Nat) (h1 : k < s.size) (h2 : k < p.size) (hle : p.size ≤ s.size) (hb : ((s[k].toNat : Int) != (p[k].toNat : Int)) = true) : pfxB s p = false := by
  have l1 := Lib.size_eq s
  have l2 := Lib.size_eq p
  rw [pfxB_agree s p hle]
  cases hc : agree s p p.size with
  | false => rfl
  | true =>
    unfold agree at hc
    have e := eq_of_beq hc
    have e2 : (s.data.toList.take p.size)[k]? = (p.data.toList.take p.size)[k]? := by rw [e]
    rw [List.getElem?_take_of_lt h2, List.getElem?_take_of_lt h2, List.getElem?_eq_getElem (by omega), List.getElem?_eq_getElem (by omega), byte_at s k h1, byte_at p k h2] at e2
    have e3 := Option.some.inj e2
    rw [e3] at hb
    simp at hb

set_option maxHeartbeats 1000000 in
theorem zzHasPrefix_any (s p : ByteArray) (w : World) (hs : s.size ≤ maxLen) (hp : p.size ≤ maxLen) :
    Calls Try.prog 13 #[.string s, .string p] w fun e w' => e = .returned (.bool (pfxB s p)) ∧ Below w.heap.size w w' := by
  unfold maxLen at hs hp
  by_cases hlen : s.size < p.size
  · go_enter Try.func13, Try.ntmps13
    go_wp2
    go_ret
    exact ⟨ret_bool (by simp [pfxB]; omega), Below.refl _ _⟩
  · go_enter Try.func13, Try.ntmps13
    go_wp2
    go_loopw [5] (fun i wr => ∃ k : Nat, k ≤ p.size ∧ i = .int .i64 k ∧ agree s p k = true ∧ Below w.heap.size w wr) (fun i _ => p.size - (intOf i).toNat)
    case atStart => exact ⟨0, Nat.zero_le _, rfl, by simp [agree], Below.refl _ _⟩
    case round =>
      obtain ⟨k, hk, rfl, hag, hb⟩ := hrel
      by_cases hlt : k < p.size
      · have hls : k < s.size := by omega
        go_wp2
        go_region
        all_goals (try go_wp2)
        · go_ret
          exact ⟨ret_bool (agree_miss s p k hls hlt (by omega) ‹_›).symm, hb.drew⟩
        · go_roundw
          case rel => exact ⟨k + 1, by omega, by go_num, agree_step s p k hls hlt hag ‹_›, hb.drew⟩
          case measure => simp [intOf]; omega
      · obtain rfl : k = p.size := by omega
        have hag' : pfxB s p = true := by rw [pfxB_agree s p (by omega)]; exact hag
        go_wp2
        go_ret
        exact ⟨ret_bool hag'.symm, hb⟩

theorem star_of (pre : ByteArray) : starB (pre ++ ⟨#[42]⟩) = true := by
  have hsz : (pre ++ ⟨#[42]⟩ : ByteArray).size = pre.size + 1 := by rw [ByteArray.size_append]; rfl
  unfold starB
  rw [Lib.extract_toList, hsz]
  have e : (pre ++ ⟨#[42]⟩ : ByteArray).data.toList = pre.data.toList ++ [42] := by simp
  rw [e, show pre.size + 1 - 1 = pre.data.toList.length from Lib.size_eq pre, List.drop_left, ← Lib.size_eq pre, show pre.size + 1 - pre.size = 1 from by omega]
  simp

theorem cut_of (pre : ByteArray) : cutB (pre ++ ⟨#[42]⟩) = pre := by
  have hsz : (pre ++ ⟨#[42]⟩ : ByteArray).size = pre.size + 1 := by rw [ByteArray.size_append]; rfl
  unfold cutB
  rw [if_pos (star_of pre), hsz, Lib.extract_eq]
  have e : (pre ++ ⟨#[42]⟩ : ByteArray).data.toList = pre.data.toList ++ [42] := by simp
  rw [e, List.drop_zero, show pre.size + 1 - 1 - 0 = pre.data.toList.length from Lib.size_eq pre, List.take_left]

theorem pfx_self (pre : ByteArray) : pfxB (pre ++ ⟨#[42]⟩) pre = true := by
  have hsz : (pre ++ ⟨#[42]⟩ : ByteArray).size = pre.size + 1 := by rw [ByteArray.size_append]; rfl
  have e : (pre ++ ⟨#[42]⟩ : ByteArray).data.toList = pre.data.toList ++ [42] := by simp
  rw [pfxB_agree _ _ (by omega)]
  unfold agree
  rw [e, Lib.size_eq pre, List.take_left, List.take_length]
  simp

theorem eq_of_toList {a b : ByteArray} (h : (a.toList == b.toList) = true) : a = b := by
  have e := eq_of_beq h
  rw [Lib.toList_data, Lib.toList_data] at e
  rw [← Lib.mk_data a, ← Lib.mk_data b, e]

theorem match_wild (pre acc : ByteArray) : matchB (pre ++ ⟨#[42]⟩) acc = pfxB acc pre := by
  unfold matchB
  rw [star_of, cut_of]
  cases h : ((pre ++ ⟨#[42]⟩ : ByteArray).toList == acc.toList) with
  | false => simp
  | true =>
    rw [← eq_of_toList h, pfx_self]
    rfl

set_option maxHeartbeats 1000000 in
theorem wild_walk (id pre acc : ByteArray) (ao1 ao2 : Option Addr) (n1 c1 n2 c2 : Nat) (A B : List ByteArray) (w : World) (h1 : Strs w ao1 n1 A) (h2 : Strs w ao2 n2 B)
    (hm1 : n1 ≤ maxLen) (hm2 : n2 ≤ maxLen) (hs1 : id.size ≤ maxLen) (hs2 : pre.size ≤ maxLen) (hs3 : acc.size ≤ maxLen) :
    Calls Try.prog 4 #[.string id, .slice ao1 n1 c1, .string pre, .slice ao2 n2 c2, .string acc] w fun e w' => e = .returned (.bool true) ∧ Below w.heap.size w w' := by
  go_enter Try.func4, Try.ntmps4
  go_wp2_with fail
  refine (bytes12_any id pre acc ao1 ao2 n1 c1 n2 c2 A B _ h1 h2 hm1 hm2 hs1 hs2 hs3).mono ?_
  rintro e w' ⟨⟨x, rfl, hx⟩, hw⟩
  obtain rfl := hw.symm
  clear hw
  cases x
  · go_wp2
    go_ret
    exact ⟨rfl, Below.refl _ _⟩
  obtain ⟨hn1, hn2⟩ := hx rfl
  clear hx
  go_wp2_with fail
  refine (sizeOK_any id pre acc ao1 ao2 n1 c1 n2 c2 A B _ hn1 hn2 h1 h2).mono ?_
  rintro e w' ⟨⟨x, rfl⟩, hw⟩
  obtain rfl := hw.symm
  clear hw
  cases x
  · go_wp2
    go_ret
    exact ⟨rfl, Below.refl _ _⟩
  have H3 : Hid (acc.size ≤ maxLen) := hs3
  have H2 : Hid (pre.size ≤ maxLen) := hs2
  clear hm1 hm2 hs1 hs2 hs3
  by_cases hlim : (1048576 : Int) ≤ (pre.size : Int)
  · go_wp2
    go_ret
    exact ⟨rfl, Below.refl _ _⟩
  have hadd : ∀ w, (Op.stringOp .add pre ⟨#[42]⟩).run Try.prog w = .ok (.string (pre ++ ⟨#[42]⟩)) w := fun w => run_string_add_sum w pre ⟨#[42]⟩ (by show pre.size + 1 ≤ _; omega)
  have Hp : Hid ((pre ++ ⟨#[42]⟩ : ByteArray).size ≤ maxLen) := by
    show _ ≤ _
    rw [ByteArray.size_append]
    unfold maxLen
    show pre.size + 1 ≤ _
    omega
  have HG : Hid (servesB (A ++ (pre ++ ⟨#[42]⟩) :: B) acc = (servesB (A ++ B) acc || pfxB acc pre)) := by
    show _ = _
    rw [serves_mid, match_wild pre acc]
  generalize (pre ++ ⟨#[42]⟩ : ByteArray) = pat at *
  dsimp only
  go_at_K
  repeat go_step
  clear hadd hlim
  refine (join3_any ao1 ao2 n1 c1 n2 c2 A B pat _ hn1 hn2 Hp.out h1 h2).mono ?_
  rintro e wa ⟨rfl, ha, hba⟩
  go_wp2_with fail
  refine (join2_any ao1 ao2 n1 c1 n2 c2 A B _ hn1 hn2 (h1.later hba) (h2.later hba)).mono ?_
  rintro e wb ⟨rfl, hb, hbb⟩
  go_wp2_with fail
  refine (scope_any id acc _ _ _ (A ++ pat :: B) _ H3.out (by omega) (ha.later hbb)).mono ?_
  rintro e wc ⟨rfl, hbc⟩
  go_wp2_with fail
  refine (scope_any id acc _ _ _ (A ++ B) _ H3.out (by omega) (hb.later hbc)).mono ?_
  rintro e wd ⟨rfl, hbd⟩
  have hD : Below w.heap.size w wd := ((hba.trans (hbb.mono hba.size)).trans (hbc.mono (Nat.le_trans hba.size hbb.size))).trans (hbd.mono (Nat.le_trans (Nat.le_trans hba.size hbb.size) hbc.size))
  clear hba hbb hbc hbd ha hb h1 h2
  generalize servesB (A ++ pat :: B) acc = got at *
  generalize servesB (A ++ B) acc = base at *
  cases base with
  | true =>
    have hg : got = true := by rw [HG.out]; rfl
    subst hg
    go_wp2
    go_ret
    exact ⟨rfl, hD⟩
  | false =>
    have hg : got = pfxB acc pre := by rw [HG.out]; rfl
    have Hz : Hid (∀ W : World, Calls Try.prog 13 #[.string acc, .string pre] W fun e w' => e = .returned (.bool (pfxB acc pre)) ∧ Below W.heap.size W w') := fun W => zzHasPrefix_any acc pre W H3.out H2.out
    subst hg
    go_wp2_with fail
    refine (Hz.out _).mono ?_
    rintro e we ⟨rfl, hbe⟩
    go_wp2
    go_ret
    exact ⟨by simp, hD.trans (hbe.mono hD.size)⟩
end Go.Proofs.Qxb6617400a
