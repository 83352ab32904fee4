/-
  zzBytes_FnServesUnionAtAnyCutIgnoresId by its contract; the walk of FnServesUnionAtAnyCutIgnoresId.
-/
import Derived.Test.Qxb6617400aExact
import Derived.Laws.CopyOwn
import Derived.Deep.RegionWith
namespace Go.Proofs.Qxb6617400a
open Go.RowKit
set_option linter.unusedVariables false

set_option maxHeartbeats 2000000 in
theorem bytes14_any (s1 s2 s3 : ByteArray) (ao1 : Option Addr) (n1 c1 : Nat) (cut : Int) (A : List ByteArray) (w : World) (h1 : Strs w ao1 n1 A)
    (hm1 : n1 ≤ maxLen) (hs1 : s1.size ≤ maxLen) (hs2 : s2.size ≤ maxLen) (hs3 : s3.size ≤ maxLen) :
    Calls Try.prog 14 #[.string s1, .string s2, .slice ao1 n1 c1, .int .i64 cut, .string s3] w fun e w' => BoolIf (n1 ≤ 1048576) e ∧ w' = w := by
  unfold maxLen at hm1 hs1 hs2 hs3
  obtain ⟨b1, o1, ha1, hc1⟩ := h1.parts
  clear h1
  go_enter Try.func14, Try.ntmps14
  go_wp2
  all_goals try (go_ret; exact ⟨BoolIf.no _, rfl⟩)
  go_loop [11, 12] (fun sn si => ∃ k x : Nat, k ≤ n1 ∧ x ≤ 1048576 ∧ si = .int .i64 k ∧ sn = .int .i64 x) (fun _ si => n1 - (intOf si).toNat)
  case atStart => exact ⟨0, s1.size + s2.size + n1, Nat.zero_le _, by omega, rfl, by go_num⟩
  case round =>
    obtain ⟨k, x, hk, hx, rfl, rfl⟩ := hrel
    by_cases hlt : k < n1
    · obtain rfl : ao1 = some ⟨b1, o1, none⟩ := ha1 (by omega)
      obtain ⟨s, hs⟩ : ∃ s, s = A.getD k ByteArray.empty := ⟨_, rfl⟩
      have hcx := hc1 k hlt
      rw [← hs] at hcx
      clear hs hc1
      go_wp2
      all_goals try (go_ret; exact ⟨BoolIf.no _, rfl⟩)
      go_round
      case rel => exact ⟨k + 1, x + s.size, by omega, by omega, by go_num, by go_num⟩
      case measure => simp [intOf]; omega
    · go_wp2
      all_goals try (go_ret; exact ⟨BoolIf.no _, rfl⟩)
      go_ret
      exact ⟨BoolIf.yes (by omega), rfl⟩

theorem Strs.take {w : World} {ao : Option Addr} {n : Nat} {ss : List ByteArray} (h : Strs w ao n ss) (k : Nat) (hk : k ≤ n) : Strs w ao k (ss.take k) := by
  obtain ⟨hl, hz, h0 | ⟨b, off, hao, hc⟩⟩ := h
  · exact ⟨by simp; omega, fun s hs => hz s (List.mem_of_mem_take hs), .inl (by omega)⟩
  · refine ⟨by simp; omega, fun s hs => hz s (List.mem_of_mem_take hs), .inr ⟨b, off, hao, fun i hi => ?_⟩⟩
    rw [hc i (by omega)]
    simp [List.getD, hi]

theorem Strs.drop {w : World} {ao : Option Addr} {n : Nat} {ss : List ByteArray} (h : Strs w ao n ss) (k : Nat) (hk : k ≤ n) (ao' : Option Addr)
    (ha : k < n → ∀ b off, ao = some ⟨b, off, none⟩ → ao' = some ⟨b, off + k, none⟩) : Strs w ao' (n - k) (ss.drop k) := by
  obtain ⟨hl, hz, h0 | ⟨b, off, hao, hc⟩⟩ := h
  · exact ⟨by simp; omega, fun s hs => hz s (List.mem_of_mem_drop hs), .inl (by omega)⟩
  · refine ⟨by simp; omega, fun s hs => hz s (List.mem_of_mem_drop hs), ?_⟩
    by_cases hkn : k < n
    · refine .inr ⟨b, off + k, ha hkn b off hao, fun i hi => ?_⟩
      rw [Nat.add_assoc, hc (k + i) (by omega)]
      simp [List.getD]
    · exact .inl (by omega)

theorem Strs.drew {w : World} {ao : Option Addr} {n : Nat} {ss : List ByteArray} (h : Strs w ao n ss) : Strs w.drew ao n ss := h

theorem owned_heap {w : World} {base e g n cap : Nat} {xs : List Value} (h : w.ownsRow base e 1 (.slice (some ⟨g, 0, none⟩) n cap) n xs) : ∃ cur : List Value, w.heap[g]? = some (.cells cur.toArray e (0, 0)) ∧ cur.length = cap := by
  obtain ⟨_, ⟨hv, _⟩ | ⟨g', cap', cur, hv, _, hh, _, _, hs, _⟩⟩ := h
  · cases hv
  · cases hv
    exact ⟨cur.toList, by simpa using hh, by simpa using hs⟩

theorem splice_whole (L cs : List Value) (h : cs.length = L.length) : splice L 0 cs = cs := by
  unfold splice
  rw [List.take_zero, List.nil_append, h, Nat.zero_add, List.drop_length, List.append_nil]

theorem strs_of_heap {w : World} {g n : Nat} {t : TypeId} {ss : List ByteArray} (hl : ss.length = n) (hz : ∀ s ∈ ss, s.size ≤ maxLen) (hh : w.heap[g]? = some (.cells (ss.map Value.string).toArray t (0, 0))) : Strs w (some ⟨g, 0, none⟩) n ss := by
  refine ⟨hl, hz, .inr ⟨g, 0, rfl, fun i hi => ?_⟩⟩
  have hi' : i < ss.length := by omega
  simp [World.cell?, hh, List.getD, hi']

theorem map_oneCell (ss : List ByteArray) : ∀ v ∈ ss.map Value.string, v.oneCell' = true := by
  intro v hv
  obtain ⟨s, _, rfl⟩ := List.mem_map.1 hv
  rfl

theorem add_flat (b o j : Nat) : (⟨b, o, none⟩ : Addr).add j = ⟨b, o + j, none⟩ := by
  unfold Addr.add
  by_cases h : j = 0
  · subst h; rfl
  · rw [if_neg h]

theorem Strs.src {w : World} {ao : Option Addr} {n : Nat} {ss : List ByteArray} (h : Strs w ao n ss) (hn : 0 < n) : ∃ ad, ao = some ad ∧ ∀ j v, (ss.map Value.string)[j]? = some v → w.cell? (ad.add j) = some v := by
  obtain ⟨hl, hz, h0 | ⟨b, off, hao, hc⟩⟩ := h
  · omega
  · refine ⟨_, hao, fun j v hj => ?_⟩
    rw [add_flat]
    have hj' : j < ss.length := by have := (List.getElem?_eq_some_iff.1 hj).1; simpa using this
    rw [hc j (by omega)]
    rw [List.getElem?_map, List.getElem?_eq_getElem hj'] at hj
    simp [List.getD, hj'] at hj ⊢
    exact hj

theorem serves_append (A B : List ByteArray) (acc : ByteArray) : servesB (A ++ B) acc = (servesB A acc || servesB B acc) := by
  unfold servesB
  rw [List.any_append]

theorem serves_cut (A : List ByteArray) (k : Nat) (acc : ByteArray) : servesB A acc = (servesB (A.take k) acc || servesB (A.drop k) acc) := by
  rw [← serves_append, List.take_append_drop]

theorem serves_self (A B : List ByteArray) (acc : ByteArray) : servesB (A ++ acc :: B) acc = true := by
  rw [serves_mid]
  simp [matchB]

theorem strs_zero (w : World) (ao : Option Addr) (l : List ByteArray) (h : l.length ≤ 0) : Strs w ao 0 l := by
  obtain rfl : l = [] := List.eq_nil_of_length_eq_zero (by omega)
  exact strs_none w ao

theorem copy_run {w w0 : World} {g n c : Nat} {a0 : Addr} {A : List ByteArray} {cur : List Value} (hS : Strs w0 (some a0) n A) (hcur : w0.heap[g]? = some (.cells cur.toArray 9 (0, 0))) (hcl : cur.length = n) (hb : Below w.heap.size w w0) (hg : w.heap.size ≤ g) :
    ∃ W, (Builtin.copy_ #[22, 22] 3 #[.slice (some ⟨g, 0, none⟩) n n, .slice (some a0) n c]).run Try.prog w0 = .ok (goInt n) W ∧ Strs W (some ⟨g, 0, none⟩) n A ∧ Below w.heap.size w W := by
  have hsz : (Try.prog.info? 9).map (·.size) = some 1 := by kernel_rfl
  have hl := hS.1
  by_cases h0 : n = 0
  · subst h0
    have hA : A = [] := List.eq_nil_of_length_eq_zero hl
    subst hA
    exact ⟨w0, run_copy_none w0 22 22 3 9 _ _ 0 0 0 c Try.underlying22 hsz rfl, strs_none _ _, hb⟩
  · obtain ⟨ad, e, hsrc⟩ := hS.src (by omega)
    cases e
    have hrun := run_copy_row (P := Try.prog) w0 22 22 3 9 g 0 n n a0 n c cur.toArray 9 (A.map Value.string) Try.underlying22 hsz hcur (by simp [hl]) hsrc (by simp [hl, hcl]) (map_oneCell A)
    refine ⟨_, by rw [hrun]; simp [hl]; rfl, strs_of_heap (t := 9) hl hS.2.1 ?_, below_setRow hb hg _⟩
    rw [setRow_heap w0 g _ _ 9 _ hcur]
    simp [hcl]

set_option maxHeartbeats 2000000 in
theorem union_walk (id oid acc : ByteArray) (ao : Option Addr) (n c : Nat) (cut : Int) (A : List ByteArray) (w : World) (h1 : Strs w ao n A) (hnil : ao = none → n = 0 ∧ c = 0)
    (hm1 : n ≤ maxLen) (hs1 : id.size ≤ maxLen) (hs2 : oid.size ≤ maxLen) (hs3 : acc.size ≤ maxLen) :
    Calls Try.prog 5 #[.string id, .string oid, .slice ao n c, .int .i64 cut, .string acc] w fun e w' => e = .returned (.bool true) ∧ Below w.heap.size w w' := by
  obtain ⟨i0, hi, hz0, hz1, hz2⟩ := info_parts Try.info9
  have H3 : Hid (acc.size ≤ maxLen) := hs3
  have hne := fun W => run_neq_slice_nil_any (P := Try.prog) W 22 9 ao n c 0 0 Try.underlying22
  go_enter Try.func5, Try.ntmps5
  go_wp2_with fail
  refine (bytes14_any id oid acc ao n c cut A _ h1 hm1 hs1 hs2 hs3).mono ?_
  rintro e w' ⟨⟨x, rfl, hx⟩, hw⟩
  obtain rfl := hw.symm
  clear hw hm1 hs1 hs2 hs3
  cases x
  · go_wp2
    go_ret
    exact ⟨rfl, Below.refl _ _⟩
  have hn1 := hx rfl
  clear hx
  go_wp2_with fail
  refine (sizeOK_any id oid acc ao none n c 0 0 A [] _ hn1 (by omega) h1 (strs_none _ _)).mono ?_
  rintro e w' ⟨⟨x, rfl⟩, hw⟩
  obtain rfl := hw.symm
  clear hw
  cases x
  · go_wp2
    go_ret
    exact ⟨rfl, Below.refl _ _⟩
  by_cases hc0 : cut < 0
  · go_wp2
    go_ret
    exact ⟨rfl, Below.refl _ _⟩
  by_cases hc1 : (n : Int) < cut
  · go_wp2
    go_ret
    exact ⟨rfl, Below.refl _ _⟩
  obtain ⟨k, rfl⟩ := Int.eq_ofNat_of_zero_le (by omega : 0 ≤ cut)
  have hkn : k ≤ n := by omega
  clear hc0 hc1
  cases ao with
  | none =>
    obtain ⟨rfl, rfl⟩ := hnil rfl
    obtain rfl : k = 0 := by omega
    have hS := h1
    have hB : Below w.heap.size w w := Below.refl _ _
    clear h1 hnil hi hz0 hz1 hz2 hkn
    go_wp2_with fail
    refine (scope_any id acc _ _ _ A _ H3.out (by omega) hS).mono ?_
    rintro e W1 ⟨rfl, hb1⟩
    clear hne
    have hW1 : Below w.heap.size w W1 := hB.trans (hb1.mono hB.size)
    have hS1 := hS.later hb1
    clear hS hb1 hB
    · go_wp2_with fail
      refine (scope_any id acc _ _ _ (A.take 0) _ H3.out (by omega) (hS1.take 0 (Nat.le_refl _))).mono ?_
      rintro e W2 ⟨rfl, hb2⟩
      have hW2 : Below w.heap.size w W2 := hW1.trans (hb2.mono hW1.size)
      have hS2 := hS1.later hb2
      clear hS1 hb2 hW1
      go_wp2_with fail
      refine (scope_any id acc _ _ _ (A.drop 0) _ H3.out (by omega) (strs_zero _ _ _ (by rw [List.length_drop, hS2.1]; omega))).mono ?_
      rintro e W3 ⟨rfl, hb3⟩
      have hW3 : Below w.heap.size w W3 := hW2.trans (hb3.mono hW2.size)
      have hS3 := hS2.later hb3
      clear hS2 hb3 hW2
      have hT := hS3.take 0 (Nat.le_refl _)
      have hD : Strs W3 none 0 (A.drop 0) := strs_zero _ _ _ (by rw [List.length_drop, hS3.1]; omega)
      go_wp2_with fail
      go_region_with (first | (go_at_call 10; refine (join2_any _ _ _ _ _ _ (A.drop 0) (A.take 0) _ ?_ ?_ ?_ ?_).mono ?_; omega; omega; (first | exact hD | exact hD.drew); (first | exact hT | exact hT.drew); rintro e W4 ⟨rfl, hS4, hb4⟩; skip) | (go_at_call 11; refine (scope_any id acc _ _ _ (A.drop 0 ++ A.take 0) _ H3.out ?_ ?_).mono ?_; omega; (first | exact hS4 | exact hS4.drew); rintro e W5 ⟨rfl, hb5⟩))
      have hW5 : Below w.heap.size w W5 := (hW3.drew.trans (hb4.mono hW3.size)).trans (hb5.mono (Nat.le_trans hW3.size hb4.size))
      have hS5 := (hS3.drew.later hb4).later hb5
      clear hW3 hb4 hb5 hS4 hS3 hT hD
      go_wp2_with fail
      refine (scope_any oid acc _ _ _ A _ H3.out (by omega) hS5).mono ?_
      rintro e W6 ⟨rfl, hb6⟩
      have hW6 : Below w.heap.size w W6 := hW5.trans (hb6.mono hW5.size)
      have hS6 := hS5.later hb6
      clear hW5 hb6 hS5
      have hT := hS6.take 0 (Nat.le_refl _)
      have hD : Strs W6 none 0 (A.drop 0) := strs_zero _ _ _ (by rw [List.length_drop, hS6.1]; omega)
      go_wp2_with fail
      go_region_with (first | (go_at_call 9; refine (join3_any _ _ _ _ _ _ (A.take 0) (A.drop 0) acc _ ?_ ?_ H3.out ?_ ?_).mono ?_; omega; omega; (first | exact hT | exact hT.drew); (first | exact hD | exact hD.drew); rintro e W7 ⟨rfl, hS7, hb7⟩) | (go_at_call 11; refine (scope_any id acc _ _ _ (A.take 0 ++ acc :: A.drop 0) _ H3.out ?_ ?_).mono ?_; omega; (first | exact hS7 | exact hS7.drew); rintro e W8 ⟨rfl, hb8⟩))
      have hW8 : Below w.heap.size w W8 := (hW6.drew.trans (hb7.mono hW6.size)).trans (hb8.mono (Nat.le_trans hW6.size hb7.size))
      have e1 : Hid (servesB A acc = (servesB (A.take 0) acc || servesB (A.drop 0) acc)) := serves_cut A 0 acc
      have e2 : Hid (servesB (A.drop 0 ++ A.take 0) acc = (servesB (A.drop 0) acc || servesB (A.take 0) acc)) := serves_append _ _ acc
      have E5 : Hid (servesB (acc :: A) acc = true) := serves_self [] A acc
      have e3 : servesB (A.take 0 ++ acc :: A.drop 0) acc = true := serves_self _ _ acc
      clear hW6 hb7 hb8 hS7 hS6 hT hD
      generalize servesB (A.take 0 ++ acc :: A.drop 0) acc = r5 at *
      generalize servesB (A.drop 0 ++ A.take 0) acc = r4 at *
      generalize servesB (A.drop 0) acc = r3 at *
      generalize servesB (A.take 0) acc = r2 at *
      generalize servesB A acc = r1 at *
      subst e3
      cases r2 <;> cases r3 <;> (obtain rfl := e1.out; obtain rfl := e2.out; go_wp2; go_ret; exact ⟨ret_bool E5.out, hW8⟩)
  | some a0 =>
    go_wp2_with (at_make; refine wpList_make_full _ rfl _ _ 22 rfl w.heap.size 9 i0 (.string ⟨#[]⟩) 1 Try.underlying22 hi hz0 hz1 _ _ _ _ n rfl rfl rfl rfl ?b2 ?b3 (Nat.le_refl _) ?_)
    case b2 => rw [hz2]; omega
    case b3 => unfold maxLen; omega
    intro w0 hown0 hgrow0
    have hb0 : Below w.heap.size w w0 := (Below.refl _ _).grown hgrow0 (Nat.le_refl _) (fun k h => by cases h)
    obtain ⟨cur, hcur, hcl⟩ := owned_heap hown0
    obtain ⟨W, hcopy, hS, hB⟩ := copy_run (c := c) (h1.later hb0) hcur hcl hb0 (Nat.le_refl _)
    clear hown0 hgrow0 hcur hcl hb0 h1 hne hnil hi hz0 hz1 hz2
    go_wp2_with fail
    refine (scope_any id acc _ _ _ A _ H3.out (by omega) hS).mono ?_
    rintro e W1 ⟨rfl, hb1⟩
    clear hcopy
    have hW1 : Below w.heap.size w W1 := hB.trans (hb1.mono hB.size)
    have hS1 := hS.later hb1
    clear hS hb1 hB
    rcases Nat.lt_or_eq_of_le hkn with hlt | rfl
    · go_wp2_with fail
      refine (scope_any id acc _ _ _ (A.take k) _ H3.out (by omega) (hS1.take k hkn)).mono ?_
      rintro e W2 ⟨rfl, hb2⟩
      have hW2 : Below w.heap.size w W2 := hW1.trans (hb2.mono hW1.size)
      have hS2 := hS1.later hb2
      clear hS1 hb2 hW1
      go_wp2_with fail
      refine (scope_any id acc _ _ _ (A.drop k) _ H3.out (by omega) (hS2.drop k hkn _ (fun _ b off e => by cases e; simp))).mono ?_
      rintro e W3 ⟨rfl, hb3⟩
      have hW3 : Below w.heap.size w W3 := hW2.trans (hb3.mono hW2.size)
      have hS3 := hS2.later hb3
      clear hS2 hb3 hW2
      have hT := hS3.take k hkn
      have hD : Strs W3 (some ⟨w.heap.size, k, none⟩) (n - k) (A.drop k) := hS3.drop k hkn _ (fun _ b off e => by cases e; simp)
      go_wp2_with fail
      go_region_with (first | (go_at_call 10; refine (join2_any _ _ _ _ _ _ (A.drop k) (A.take k) _ ?_ ?_ ?_ ?_).mono ?_; omega; omega; (first | exact hD | exact hD.drew); (first | exact hT | exact hT.drew); rintro e W4 ⟨rfl, hS4, hb4⟩; rw [Nat.sub_add_cancel hkn] at hS4) | (go_at_call 11; refine (scope_any id acc _ _ _ (A.drop k ++ A.take k) _ H3.out ?_ ?_).mono ?_; omega; (first | exact hS4 | exact hS4.drew); rintro e W5 ⟨rfl, hb5⟩))
      have hW5 : Below w.heap.size w W5 := (hW3.drew.trans (hb4.mono hW3.size)).trans (hb5.mono (Nat.le_trans hW3.size hb4.size))
      have hS5 := (hS3.drew.later hb4).later hb5
      clear hW3 hb4 hb5 hS4 hS3 hT hD
      go_wp2_with fail
      refine (scope_any oid acc _ _ _ A _ H3.out (by omega) hS5).mono ?_
      rintro e W6 ⟨rfl, hb6⟩
      have hW6 : Below w.heap.size w W6 := hW5.trans (hb6.mono hW5.size)
      have hS6 := hS5.later hb6
      clear hW5 hb6 hS5
      have hT := hS6.take k hkn
      have hD : Strs W6 (some ⟨w.heap.size, k, none⟩) (n - k) (A.drop k) := hS6.drop k hkn _ (fun _ b off e => by cases e; simp)
      go_wp2_with fail
      go_region_with (first | (go_at_call 9; refine (join3_any _ _ _ _ _ _ (A.take k) (A.drop k) acc _ ?_ ?_ H3.out ?_ ?_).mono ?_; omega; omega; (first | exact hT | exact hT.drew); (first | exact hD | exact hD.drew); rintro e W7 ⟨rfl, hS7, hb7⟩) | (go_at_call 11; refine (scope_any id acc _ _ _ (A.take k ++ acc :: A.drop k) _ H3.out ?_ ?_).mono ?_; omega; (first | exact hS7 | exact hS7.drew); rintro e W8 ⟨rfl, hb8⟩))
      have hW8 : Below w.heap.size w W8 := (hW6.drew.trans (hb7.mono hW6.size)).trans (hb8.mono (Nat.le_trans hW6.size hb7.size))
      have e1 : Hid (servesB A acc = (servesB (A.take k) acc || servesB (A.drop k) acc)) := serves_cut A k acc
      have e2 : Hid (servesB (A.drop k ++ A.take k) acc = (servesB (A.drop k) acc || servesB (A.take k) acc)) := serves_append _ _ acc
      have e3 : servesB (A.take k ++ acc :: A.drop k) acc = true := serves_self _ _ acc
      clear hW6 hb7 hb8 hS7 hS6 hT hD
      generalize servesB (A.take k ++ acc :: A.drop k) acc = r5 at *
      generalize servesB (A.drop k ++ A.take k) acc = r4 at *
      generalize servesB (A.drop k) acc = r3 at *
      generalize servesB (A.take k) acc = r2 at *
      generalize servesB A acc = r1 at *
      subst e3
      cases r2 <;> cases r3 <;> (obtain rfl := e1.out; obtain rfl := e2.out; go_wp2; go_ret; exact ⟨rfl, hW8⟩)
    · go_wp2_with fail
      refine (scope_any id acc _ _ _ (A.take k) _ H3.out (by omega) (hS1.take k (Nat.le_refl _))).mono ?_
      rintro e W2 ⟨rfl, hb2⟩
      have hW2 : Below w.heap.size w W2 := hW1.trans (hb2.mono hW1.size)
      have hS2 := hS1.later hb2
      clear hS1 hb2 hW1
      go_wp2_with fail
      refine (scope_any id acc _ _ _ (A.drop k) _ H3.out (by omega) (strs_zero _ _ _ (by rw [List.length_drop, hS2.1]; omega))).mono ?_
      rintro e W3 ⟨rfl, hb3⟩
      have hW3 : Below w.heap.size w W3 := hW2.trans (hb3.mono hW2.size)
      have hS3 := hS2.later hb3
      clear hS2 hb3 hW2
      have hT := hS3.take k (Nat.le_refl _)
      have hD : Strs W3 (some ⟨w.heap.size, 0, none⟩) 0 (A.drop k) := strs_zero _ _ _ (by rw [List.length_drop, hS3.1]; omega)
      go_wp2_with fail
      go_region_with (first | (go_at_call 10; refine (join2_any _ _ _ _ _ _ (A.drop k) (A.take k) _ ?_ ?_ ?_ ?_).mono ?_; omega; omega; (first | exact hD | exact hD.drew); (first | exact hT | exact hT.drew); rintro e W4 ⟨rfl, hS4, hb4⟩; rw [Nat.zero_add] at hS4) | (go_at_call 11; refine (scope_any id acc _ _ _ (A.drop k ++ A.take k) _ H3.out ?_ ?_).mono ?_; omega; (first | exact hS4 | exact hS4.drew); rintro e W5 ⟨rfl, hb5⟩))
      have hW5 : Below w.heap.size w W5 := (hW3.drew.trans (hb4.mono hW3.size)).trans (hb5.mono (Nat.le_trans hW3.size hb4.size))
      have hS5 := (hS3.drew.later hb4).later hb5
      clear hW3 hb4 hb5 hS4 hS3 hT hD
      go_wp2_with fail
      refine (scope_any oid acc _ _ _ A _ H3.out (by omega) hS5).mono ?_
      rintro e W6 ⟨rfl, hb6⟩
      have hW6 : Below w.heap.size w W6 := hW5.trans (hb6.mono hW5.size)
      have hS6 := hS5.later hb6
      clear hW5 hb6 hS5
      have hT := hS6.take k (Nat.le_refl _)
      have hD : Strs W6 (some ⟨w.heap.size, 0, none⟩) 0 (A.drop k) := strs_zero _ _ _ (by rw [List.length_drop, hS6.1]; omega)
      go_wp2_with fail
      go_region_with (first | (go_at_call 9; refine (join3_any _ _ _ _ _ _ (A.take k) (A.drop k) acc _ ?_ ?_ H3.out ?_ ?_).mono ?_; omega; omega; (first | exact hT | exact hT.drew); (first | exact hD | exact hD.drew); rintro e W7 ⟨rfl, hS7, hb7⟩) | (go_at_call 11; refine (scope_any id acc _ _ _ (A.take k ++ acc :: A.drop k) _ H3.out ?_ ?_).mono ?_; omega; (first | exact hS7 | exact hS7.drew); rintro e W8 ⟨rfl, hb8⟩))
      have hW8 : Below w.heap.size w W8 := (hW6.drew.trans (hb7.mono hW6.size)).trans (hb8.mono (Nat.le_trans hW6.size hb7.size))
      have e1 : Hid (servesB A acc = (servesB (A.take k) acc || servesB (A.drop k) acc)) := serves_cut A k acc
      have e2 : Hid (servesB (A.drop k ++ A.take k) acc = (servesB (A.drop k) acc || servesB (A.take k) acc)) := serves_append _ _ acc
      have e3 : servesB (A.take k ++ acc :: A.drop k) acc = true := serves_self _ _ acc
      clear hW6 hb7 hb8 hS7 hS6 hT hD
      generalize servesB (A.take k ++ acc :: A.drop k) acc = r5 at *
      generalize servesB (A.drop k ++ A.take k) acc = r4 at *
      generalize servesB (A.drop k) acc = r3 at *
      generalize servesB (A.take k) acc = r2 at *
      generalize servesB A acc = r1 at *
      subst e3
      cases r2 <;> cases r3 <;> (obtain rfl := e1.out; obtain rfl := e2.out; go_wp2; go_ret; exact ⟨rfl, hW8⟩)
end Go.Proofs.Qxb6617400a
