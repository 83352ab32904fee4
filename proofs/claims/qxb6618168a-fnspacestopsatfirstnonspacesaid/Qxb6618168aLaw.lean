/-
  The walk of FnSpaceStopsAtFirstNonSpace.
-/
import Derived.Test.Qxb6618168aSame
import Derived.Laws.CopyOwn
import Derived.Deep.DeepCutAuto
namespace Go.Proofs.Qxb6618168a
open Go.RowKit
set_option linter.unusedVariables false

theorem stop_lt (D : List Int) (k : Nat) (hk : k ≤ D.length) (h : k < stop D k) : k < D.length ∧ spB (D.getD k 0) = true := by
  by_cases hlt : k < D.length
  · refine ⟨hlt, ?_⟩
    cases hc : spB (D.getD k 0) with
    | true => rfl
    | false => have := stop_here D k hlt hc; omega
  · have := stop_end D k (by omega); omega

theorem stop_between (D : List Int) : ∀ (m k : Nat), k ≤ D.length → k + m ≤ stop D k → stop D (k + m) = stop D k
  | 0, k, _, _ => rfl
  | m + 1, k, hk, h => by
    obtain ⟨h1, h2⟩ := stop_lt D k hk (by omega)
    have e := stop_step D k h1 h2
    have := stop_between D m (k + 1) (by omega) (by omega)
    rw [show k + (m + 1) = k + 1 + m by omega, this, e]

theorem stop_mid (D : List Int) (k j : Nat) (hk : k ≤ D.length) (h1 : k ≤ j) (h2 : j ≤ stop D k) : stop D j = stop D k := by
  have := stop_between D (j - k) k hk (by omega)
  rw [show k + (j - k) = j by omega] at this
  exact this

theorem stop_fix (D : List Int) (k : Nat) (hk : k ≤ D.length) : stop D (stop D k) = stop D k :=
  stop_mid D k _ hk (stop_le D k hk).1 (Nat.le_refl _)

theorem stop_space (D : List Int) (k i : Nat) (hk : k ≤ D.length) (h1 : k ≤ i) (h2 : i < stop D k) : spB (D.getD i 0) = true := by
  have e := stop_mid D k i hk h1 (by omega)
  exact (stop_lt D i (by have := (stop_le D k hk).2; omega) (by omega)).2

theorem stop_non (D : List Int) (k : Nat) (hk : k ≤ D.length) (h : stop D k < D.length) : spB (D.getD (stop D k) 0) = false := by
  cases hc : spB (D.getD (stop D k) 0) with
  | false => rfl
  | true =>
    have e := stop_fix D k hk
    have e2 := stop_step D (stop D k) h hc
    have e3 := (stop_le D (stop D k + 1) (by omega)).1
    omega

theorem owned_heap {w : World} {base e g n cap : Nat} {xs : List Value} (h : w.ownsRow base e 1 (.slice (some ⟨g, 0, none⟩) n cap) n xs) : ∃ cur : List Value, w.heap[g]? = some (.cells cur.toArray e (0, 0)) ∧ cur.length = cap := by
  obtain ⟨_, ⟨hv, _⟩ | ⟨g', cap', cur, hv, _, hh, _, _, hs, _⟩⟩ := h
  · cases hv
  · cases hv
    exact ⟨cur.toList, by simpa using hh, by simpa using hs⟩

theorem add_flat (b o j : Nat) : (⟨b, o, none⟩ : Addr).add j = ⟨b, o + j, none⟩ := by
  unfold Addr.add
  by_cases h : j = 0
  · subst h; rfl
  · rw [if_neg h]

theorem Bytes.src {w : World} {ao : Option Addr} {n : Nat} {D : List Int} (h : Bytes w ao n D) (hn : 0 < n) : ∃ ad, ao = some ad ∧ ∀ j v, (D.map (Value.int .u8))[j]? = some v → w.cell? (ad.add j) = some v := by
  obtain ⟨hl, h0 | ⟨b, off, hao, hc⟩⟩ := h
  · omega
  · refine ⟨_, hao, fun j v hj => ?_⟩
    rw [add_flat]
    have hj' : j < D.length := by have := (List.getElem?_eq_some_iff.1 hj).1; simpa using this
    rw [hc j (by omega)]
    rw [List.getElem?_map, List.getElem?_eq_getElem hj'] at hj
    simp [List.getD, hj'] at hj ⊢
    exact hj

theorem bytes_of_heap {w : World} {g n : Nat} {t : TypeId} {D : List Int} (hl : D.length = n) (hh : w.heap[g]? = some (.cells (D.map (Value.int .u8)).toArray t (0, 0))) : Bytes w (some ⟨g, 0, none⟩) n D := by
  refine ⟨hl, .inr ⟨g, 0, rfl, fun i hi => ?_⟩⟩
  have hi' : i < D.length := by omega
  simp [World.cell?, hh, List.getD, hi']

theorem bytes_none (w : World) (ao : Option Addr) : Bytes w ao 0 [] := ⟨rfl, .inl rfl⟩

theorem copy_run {w w0 : World} {g n c : Nat} {a0 : Addr} {D : List Int} {cur : List Value} (hS : Bytes w0 (some a0) n D) (hcur : w0.heap[g]? = some (.cells cur.toArray 5 (0, 0))) (hcl : cur.length = n) (hb : Below w.heap.size w w0) (hg : w.heap.size ≤ g) :
    ∃ W, (Builtin.copy_ #[22, 22] 3 #[.slice (some ⟨g, 0, none⟩) n n, .slice (some a0) n c]).run Try.prog w0 = .ok (goInt n) W ∧ Bytes W (some ⟨g, 0, none⟩) n D ∧ Below w.heap.size w W ∧ Below g w0 W := by
  have hsz : (Try.prog.info? 5).map (·.size) = some 1 := by kernel_rfl
  have hl := hS.1
  by_cases h0 : n = 0
  · subst h0
    have hA : D = [] := List.eq_nil_of_length_eq_zero hl
    subst hA
    exact ⟨w0, run_copy_none w0 22 22 3 5 _ _ 0 0 0 c Try.underlying22 hsz rfl, bytes_none _ _, hb, Below.refl _ _⟩
  · obtain ⟨ad, e, hsrc⟩ := hS.src (by omega)
    cases e
    have hrun := run_copy_row (P := Try.prog) w0 22 22 3 5 g 0 n n a0 n c cur.toArray 5 (D.map (Value.int .u8)) Try.underlying22 hsz hcur (by simp [hl]) hsrc (by simp [hl, hcl]) (ints_oneCell _ _)
    refine ⟨_, by rw [hrun]; simp [hl]; rfl, bytes_of_heap (t := 5) hl ?_, below_setRow hb hg _, below_setRow (Below.refl _ _) (Nat.le_refl _) _⟩
    rw [setRow_heap w0 g _ _ 5 _ hcur]
    simp [hcl]

theorem Try.info5 : (Try.prog.info? 5).map (fun i => (i.zero, i.size, i.bytes)) = some (some (.int .u8 0), 1, 1) := by kernel_rfl

set_option maxHeartbeats 4000000 in
set_option maxRecDepth 100000 in
theorem space_walk (ao lo : Option Addr) (n c ln lc : Nat) (D L : List Int) (off depth k : Int) (watch : Bool) (w : World) (hD : Bytes w ao n D) (hL : Bytes w lo ln L) (hnD : ao = none → n = 0 ∧ c = 0) (hnL : lo = none → ln = 0 ∧ lc = 0) (hn : n ≤ maxLen) (hln : ln ≤ maxLen) :
    Calls Try.prog 4 #[.slice ao n c, .int .i64 off, .int .i64 depth, .bool watch, .slice lo ln lc, .int .i64 k] w fun e w' => e = .returned (.bool true) ∧ Below w.heap.size w w' := by
  obtain ⟨i0, hi, hz0, hz1, hz2⟩ := info_parts Try.info5
  have H9 : Hid (Calls Try.prog 9 #[.slice ao n c, .int .i64 off, .int .i64 depth, .bool watch, .slice lo ln lc, .int .i64 k] w fun e w' => SomeBool e ∧ w' = w) := bytes9_any ao lo n c ln lc off depth k watch w hn hln
  clear hn hln
  go_enter Try.func4, Try.ntmps4
  go_wp2_with fail
  refine H9.out.mono ?_
  rintro e w' ⟨⟨x, rfl⟩, hw⟩
  obtain rfl := hw.symm
  clear hw H9
  cases x
  · go_wp2
    go_ret
    exact ⟨rfl, Below.refl _ _⟩
  by_cases hn : (1048576 : Int) < (n : Int)
  · go_wp2
    go_ret
    exact ⟨rfl, Below.refl _ _⟩
  by_cases hln : (1048576 : Int) < (ln : Int)
  · go_wp2
    go_ret
    exact ⟨rfl, Below.refl _ _⟩
  by_cases ho0 : off < 0
  · go_wp2
    go_ret
    exact ⟨rfl, Below.refl _ _⟩
  by_cases ho1 : (n : Int) < off
  · go_wp2
    go_ret
    exact ⟨rfl, Below.refl _ _⟩
  obtain ⟨j, rfl⟩ := Int.eq_ofNat_of_zero_le (by omega : 0 ≤ off)
  have hjn : j ≤ n := by omega
  have hn' : n ≤ 1048576 := by omega
  have hln' : ln ≤ 1048576 := by omega
  have d0 : decide ((j : Int) < 0) = false := by simp
  have hne := fun W => run_neq_slice_nil_any (P := Try.prog) W 22 5 ao n c 0 0 Try.underlying22
  go_upto_if 57 with fail
  go_cut [0] (fun v0 wx => ∃ ao' c', v0 = .slice ao' n c' ∧ Bytes wx ao' n D ∧ Below w.heap.size w wx)
  case first =>
    cases ao with
    | none =>
      obtain ⟨rfl, rfl⟩ := hnD rfl
      go_wp2
      go_meet
      case rel => exact ⟨none, 0, rfl, hD, (Below.refl w.heap.size w)⟩
    | some a0 =>
      have hb := (Below.refl w.heap.size w)
      go_wp2_with (at_make; refine wpList_make_full _ rfl _ _ 22 rfl w.heap.size 5 i0 (.int .u8 0) 1 Try.underlying22 hi hz0 hz1 _ _ _ _ n rfl rfl rfl rfl ?b2 ?b3 (Nat.le_refl _) ?_)
      case b2 => rw [hz2]; omega
      case b3 => unfold maxLen; omega
      intro w0 hown0 hgrow0
      have hb0 : Below w.heap.size w w0 := (Below.refl _ _).grown hgrow0 (Nat.le_refl _) (fun k h => by cases h)
      obtain ⟨cur, hcur, hcl⟩ := owned_heap hown0
      obtain ⟨W, hcopy, hS, hBW, _⟩ := copy_run (c := c) (hD.later hb0) hcur hcl hb0 (Nat.le_refl _)
      clear hown0 hgrow0 hcur hcl hb0
      go_wp2
      go_meet
      case rel => exact ⟨_, _, rfl, hS, hb.trans (hBW.mono hb.size)⟩
  case rest =>
    obtain ⟨ao', c', rfl, hD1, hb1⟩ := hcut
    have hL1 := hL.later hb1
    clear hD hL hne hnD
    have hne := fun W => run_neq_slice_nil_any (P := Try.prog) W 22 5 lo ln lc 0 0 Try.underlying22
    go_upto_if 66 with fail
    go_cut [4] (fun v4 wx => ∃ lo' lc', v4 = .slice lo' ln lc' ∧ Bytes wx lo' ln L ∧ Below wc.heap.size wc wx)
    case first =>
      cases lo with
      | none =>
        obtain ⟨rfl, rfl⟩ := hnL rfl
        go_wp2
        go_meet
        case rel => exact ⟨none, 0, rfl, hL1, (Below.refl wc.heap.size wc)⟩
      | some a0 =>
        have hb := (Below.refl wc.heap.size wc)
        go_wp2_with (at_make; refine wpList_make_full _ rfl _ _ 22 rfl wc.heap.size 5 i0 (.int .u8 0) 1 Try.underlying22 hi hz0 hz1 _ _ _ _ ln rfl rfl rfl rfl ?b2 ?b3 (Nat.le_refl _) ?_)
        case b2 => rw [hz2]; omega
        case b3 => unfold maxLen; omega
        intro w0 hown0 hgrow0
        have hb0 : Below wc.heap.size wc w0 := (Below.refl _ _).grown hgrow0 (Nat.le_refl _) (fun k h => by cases h)
        obtain ⟨cur, hcur, hcl⟩ := owned_heap hown0
        obtain ⟨W, hcopy, hS, hBW, _⟩ := copy_run (c := lc) (hL1.later hb0) hcur hcl hb0 (Nat.le_refl _)
        clear hown0 hgrow0 hcur hcl hb0
        go_wp2
        go_meet
        case rel => exact ⟨_, _, rfl, hS, hb.trans (hBW.mono hb.size)⟩
    case rest =>
      obtain ⟨lo', lc', rfl, hL2, hb2⟩ := hcut
      have hD2 := hD1.later hb2
      have hB2 := hb1.trans (hb2.mono hb1.size)
      clear hD1 hL1 hb1 hb2 hne hnL hi hz0 hz1 hz2
      have hlD := hD2.1
      obtain ⟨r, hr⟩ : ∃ r, stop D j = r := ⟨_, rfl⟩
      have hr1 : j ≤ r := by rw [← hr]; exact (stop_le D j (by omega)).1
      have hr2 : r ≤ n := by rw [← hr]; have := (stop_le D j (by omega)).2; omega
      have HSp : Hid (∀ i, j ≤ i → i < r → spB (D.getD i 0) = true) := fun i h1 h2 => stop_space D j i (by omega) h1 (by omega)
      have HNo : Hid (r < n → spB (D.getD r 0) = false) := fun h => by have := stop_non D j (by omega) (by omega); rw [hr] at this; exact this
      have C1 : Hid (∀ W : World, Bytes W ao' n D → Calls Try.prog 10 #[.slice ao' n c', .int .i64 j, .int .i64 depth, .bool watch, .slice lo' ln lc'] W fun e w' => e = .returned (.tuple #[.bool (decide (r < n)), .slice ao' n c', .int .i64 r, .int .i64 depth, .bool watch, .slice lo' ln lc']) ∧ Below W.heap.size W w') := fun W hW => by
        have := zzspace_any n c' j ao' D depth watch lo' ln lc' W hW hjn hn'
        rw [hr] at this
        exact this
      have C2 : Hid (∀ W : World, Bytes W ao' n D → Calls Try.prog 10 #[.slice ao' n c', .int .i64 r, .int .i64 depth, .bool watch, .slice lo' ln lc'] W fun e w' => e = .returned (.tuple #[.bool (decide (r < n)), .slice ao' n c', .int .i64 r, .int .i64 depth, .bool watch, .slice lo' ln lc']) ∧ Below W.heap.size W w') := fun W hW => by
        have := zzspace_any n c' r ao' D depth watch lo' ln lc' W hW hr2 hn'
        rw [show stop D r = r from by rw [← hr]; exact stop_fix D j (by omega)] at this
        exact this
      have C3 : Hid (∀ m : Nat, j ≤ m → m ≤ r → ∀ W : World, Bytes W ao' n D → Calls Try.prog 10 #[.slice ao' n c', .int .i64 m, .int .i64 depth, .bool watch, .slice lo' ln lc'] W fun e w' => e = .returned (.tuple #[.bool (decide (r < n)), .slice ao' n c', .int .i64 r, .int .i64 depth, .bool watch, .slice lo' ln lc']) ∧ Below W.heap.size W w') := fun m h1 h2 W hW => by
        have := zzspace_any n c' m ao' D depth watch lo' ln lc' W hW (by omega) hn'
        rw [show stop D m = r from by rw [← hr]; exact stop_mid D j m (by omega) h1 (by omega)] at this
        exact this
      clear hr hlD
      go_wp2_with fail
      refine (C1.out _ hD2).mono ?_
      rintro e W3 ⟨rfl, hb3⟩
      have hB3 := hB2.trans (hb3.mono hB2.size)
      have hD3 := hD2.later hb3
      have hL3 := hL2.later hb3
      clear hB2 hD2 hL2 hb3 C1
      obtain ⟨b, o, ha, hc⟩ := hD3.parts
      have g1 : decide (r < j) = false := by simp; omega
      have g2 : decide (n < r) = false := by simp; omega
      have HDec : True := trivial
      by_cases hrn : r < n
      · clear HDec
        go_wp2
        go_loopg [21] (r - j) (fun m si wr => ∃ i : Nat, j ≤ i ∧ i ≤ r ∧ m = r - i ∧ si = .int .i64 i ∧ wr = W3)
        case atStart => exact ⟨j, Nat.le_refl _, hr1, rfl, rfl, rfl⟩
        case round =>
          obtain ⟨i, hji, hir, rfl, rfl, hwr⟩ := hrel
          subst hwr
          by_cases hlt : i < r
          · obtain rfl : ao' = some ⟨b, o, none⟩ := ha (by omega)
            obtain ⟨x, hx⟩ : ∃ x, x = D.getD i 0 := ⟨_, rfl⟩
            have hcx := hc i (by omega)
            have hsx : spB x = true := by rw [hx]; exact HSp.out i hji hlt
            rw [← hx] at hcx
            clear hx hc ha
            go_wp2_with (go_at_call 11; refine (isSpace_any _ _).mono ?_; rintro e w' ⟨rfl, rfl⟩)
            go_roundg (r - (i + 1))
            case measure => omega
            case rel => exact ⟨i + 1, by omega, by omega, rfl, by go_num, rfl⟩
          · obtain rfl : i = r := by omega
            obtain rfl : ao' = some ⟨b, o, none⟩ := ha (by omega)
            obtain ⟨x, hx⟩ : ∃ x, x = D.getD i 0 := ⟨_, rfl⟩
            have hcx := hc i (by omega)
            have hsx : spB x = false := by rw [hx]; exact HNo.out hrn
            rw [← hx] at hcx
            clear hx hc ha
            go_wp2_with (go_at_call 11; refine (isSpace_any _ _).mono ?_; rintro e w' ⟨rfl, hw⟩; obtain rfl := hw.symm; clear hw)
            refine (same_any _ n c' D _ hD3 hn').mono ?_
            rintro e W4 ⟨rfl, hb4⟩
            have hB4 := hB3.trans (hb4.mono hB3.size)
            have hD4 := hD3.later hb4
            have hL4 := hL3.later hb4
            clear hB3 hD3 hL3 hb4
            go_wp2_with fail
            refine (same_any lo' ln lc' L _ hL4 hln').mono ?_
            rintro e W5 ⟨rfl, hb5⟩
            have hB5 := hB4.trans (hb5.mono hB4.size)
            have hD5 := hD4.later hb5
            clear hB4 hD4 hL4 hb5
            go_wp2_with fail
            refine (C2.out _ hD5).mono ?_
            rintro e W6 ⟨rfl, hb6⟩
            have hB6 := hB5.trans (hb6.mono hB5.size)
            have hD6 := hD5.later hb6
            clear hB5 hD5 hb6
            by_cases hk1 : (j : Int) ≤ k
            · by_cases hk2 : k ≤ (i : Int)
              · obtain ⟨m, rfl⟩ := Int.eq_ofNat_of_zero_le (by omega : 0 ≤ k)
                go_wp2_with fail
                refine (C3.out m (by omega) (by omega) _ hD6).mono ?_
                rintro e W7 ⟨rfl, hb7⟩
                go_wp2
                go_ret
                exact ⟨rfl, hB6.trans (hb7.mono hB6.size)⟩
              · go_wp2
                go_ret
                exact ⟨rfl, hB6⟩
            · go_wp2
              go_ret
              exact ⟨rfl, hB6⟩
      · clear HDec
        go_wp2
        go_loopg [21] (r - j) (fun m si wr => ∃ i : Nat, j ≤ i ∧ i ≤ r ∧ m = r - i ∧ si = .int .i64 i ∧ wr = W3)
        case atStart => exact ⟨j, Nat.le_refl _, hr1, rfl, rfl, rfl⟩
        case round =>
          obtain ⟨i, hji, hir, rfl, rfl, hwr⟩ := hrel
          subst hwr
          by_cases hlt : i < r
          · obtain rfl : ao' = some ⟨b, o, none⟩ := ha (by omega)
            obtain ⟨x, hx⟩ : ∃ x, x = D.getD i 0 := ⟨_, rfl⟩
            have hcx := hc i (by omega)
            have hsx : spB x = true := by rw [hx]; exact HSp.out i hji hlt
            rw [← hx] at hcx
            clear hx hc ha
            go_wp2_with (go_at_call 11; refine (isSpace_any _ _).mono ?_; rintro e w' ⟨rfl, rfl⟩)
            go_roundg (r - (i + 1))
            case measure => omega
            case rel => exact ⟨i + 1, by omega, by omega, rfl, by go_num, rfl⟩
          · obtain rfl : i = r := by omega
            clear hc ha
            go_wp2_with fail
            refine (same_any _ n c' D _ hD3 hn').mono ?_
            rintro e W4 ⟨rfl, hb4⟩
            have hB4 := hB3.trans (hb4.mono hB3.size)
            have hD4 := hD3.later hb4
            have hL4 := hL3.later hb4
            clear hB3 hD3 hL3 hb4
            go_wp2_with fail
            refine (same_any lo' ln lc' L _ hL4 hln').mono ?_
            rintro e W5 ⟨rfl, hb5⟩
            have hB5 := hB4.trans (hb5.mono hB4.size)
            have hD5 := hD4.later hb5
            clear hB4 hD4 hL4 hb5
            go_wp2_with fail
            refine (C2.out _ hD5).mono ?_
            rintro e W6 ⟨rfl, hb6⟩
            have hB6 := hB5.trans (hb6.mono hB5.size)
            have hD6 := hD5.later hb6
            clear hB5 hD5 hb6
            by_cases hk1 : (j : Int) ≤ k
            · by_cases hk2 : k ≤ (i : Int)
              · obtain ⟨m, rfl⟩ := Int.eq_ofNat_of_zero_le (by omega : 0 ≤ k)
                go_wp2_with fail
                refine (C3.out m (by omega) (by omega) _ hD6).mono ?_
                rintro e W7 ⟨rfl, hb7⟩
                go_wp2
                go_ret
                exact ⟨rfl, hB6.trans (hb7.mono hB6.size)⟩
              · go_wp2
                go_ret
                exact ⟨rfl, hB6⟩
            · go_wp2
              go_ret
              exact ⟨rfl, hB6⟩
end Go.Proofs.Qxb6618168a
