/-
  Rows in memory; the small functions of the road by contracts: isLock, Kind.locking, toKinds, toTxns, position, the size guard.
-/
import Derived.Test.Qxb6619397aRows
import Derived.WalkKit
import Derived.WalkSpells
import Derived.WalkLawsBesides
import Derived.BigQuiet
import Derived.Deep.QuietTactic
import Derived.Deep.LoopGhost
import Derived.Laws.CopyOwn
namespace Go.Proofs.Qxb6619397a
open Go.RowKit
set_option linter.unusedVariables false

theorem ret_bool {a b : Bool} (h : a = b) : Ending.returned (.bool a) = .returned (.bool b) := by rw [h]
theorem ret_int {k : IntKind} {a b : Int} (h : a = b) : Ending.returned (.int k a) = .returned (.int k b) := by rw [h]

/-- Is the number a lock kind? -/
def lockB (c : Int) : Bool := (c == 5) || (c == 6) || (c == 7)
theorem lockB_1 {x : Int} (h1 : (x == 5) = true) : lockB x = true := by unfold lockB; rw [h1]; rfl
theorem lockB_2 {x : Int} (h1 : (x == 6) = true) : lockB x = true := by unfold lockB; rw [h1]; simp
theorem lockB_3 {x : Int} (h1 : (x == 7) = true) : lockB x = true := by unfold lockB; rw [h1]; simp
theorem lockB_no {x : Int} (h1 : (x == 5) = false) (h2 : (x == 6) = false) (h3 : (x == 7) = false) : lockB x = false := by unfold lockB; rw [h1, h2, h3]; rfl

/-- The slice at ao holds the values vs. -/
def Row (w : World) (ao : Option Addr) (vs : List Value) : Prop :=
  vs = [] ∨ ∃ b off, ao = some ⟨b, off, none⟩ ∧ ∀ i v, vs[i]? = some v → w.cell? ⟨b, off + i, none⟩ = some v

theorem Row.parts {w : World} {ao : Option Addr} {vs : List Value} (h : Row w ao vs) :
    ∃ b off, (0 < vs.length → ao = some ⟨b, off, none⟩) ∧ ∀ i v, vs[i]? = some v → w.cell? ⟨b, off + i, none⟩ = some v := by
  rcases h with rfl | ⟨b, off, hao, hc⟩
  · exact ⟨0, 0, fun h => by simp at h, fun i v hi => by simp at hi⟩
  · exact ⟨b, off, fun _ => hao, hc⟩

theorem Row.later {w w' : World} {ao : Option Addr} {vs : List Value} (h : Row w ao vs) (hb : Below w.heap.size w w') : Row w' ao vs := by
  rcases h with h0 | ⟨b, off, hao, hc⟩
  · exact .inl h0
  · exact .inr ⟨b, off, hao, fun i v hi => cell_later hb (hc i v hi)⟩

theorem row_none (w : World) (ao : Option Addr) : Row w ao [] := .inl rfl

theorem map_at {α : Type} (f : α → Value) (l : List α) (d : α) (i : Nat) (h : i < l.length) : (l.map f)[i]? = some (f (l.getD i d)) := by
  rw [List.getElem?_map, List.getElem?_eq_getElem h]
  simp [List.getD, h]

theorem take_snoc {α : Type} (l : List α) (k : Nat) (d : α) (h : k < l.length) : l.take (k + 1) = l.take k ++ [l.getD k d] := by
  rw [List.take_succ_eq_append_getElem h]
  simp [List.getD, h]

theorem take_set {α : Type} (l : List α) (k : Nat) (v : α) (h : k < l.length) : (l.set k v).take (k + 1) = l.take k ++ [v] := by
  rw [List.take_succ_eq_append_getElem (by simpa using h), List.take_set_of_le (Nat.le_refl _)]
  simp

/-- Block g holds the cells A, none of them frozen. -/
def H (w : World) (g : Nat) (A : List Value) (t : TypeId) : Prop := w.heap[g]? = some (.cells A.toArray t (0, 0))

theorem H.cell {w : World} {g : Nat} {A : List Value} {t : TypeId} (h : H w g A t) (i : Nat) : w.cell? ⟨g, i, none⟩ = A[i]? := by
  rw [cell_of_row w g i A.toArray t (0, 0) h]; simp
theorem H.frozen {w : World} {g : Nat} {A : List Value} {t : TypeId} (h : H w g A t) (i : Nat) : w.frozen? ⟨g, i, none⟩ = false := frozen_of_row w g i A.toArray t h
theorem H.lt {w : World} {g : Nat} {A : List Value} {t : TypeId} (h : H w g A t) : g < w.heap.size := (Array.getElem?_eq_some_iff.1 h).1
theorem H.set {w : World} {g : Nat} {A : List Value} {t : TypeId} (h : H w g A t) (i : Nat) (v : Value) : H (w.setCell ⟨g, i, none⟩ v) g (A.set i v) t := by
  have := heap_setCell_same w g i A.toArray t v h
  unfold H
  rw [this]; simp
theorem H.other {w : World} {g g' : Nat} {A : List Value} {t : TypeId} (h : H w g A t) (hne : g ≠ g') (i : Nat) (v : Value) : H (w.setCell ⟨g', i, none⟩ v) g A t := by
  unfold H
  rw [heap_setCell_other w ⟨g', i, none⟩ g v hne]; exact h
theorem H.alloc {w : World} {g : Nat} {A : List Value} {t : TypeId} (h : H w g A t) (o : Obj) : H (w.alloc o) g A t := by
  unfold H
  rw [Below.heap_alloc w o g h.lt]; exact h
theorem H.drew {w : World} {g : Nat} {A : List Value} {t : TypeId} (h : H w g A t) : H w.drew g A t := h
theorem H.drewN {w : World} {g : Nat} {A : List Value} {t : TypeId} (h : H w g A t) (m : Nat) : H (w.drewN m) g A t := h
theorem H.new (w : World) (A : List Value) (t : TypeId) : H (w.alloc (.cells A.toArray t)) w.heap.size A t := heap_alloc_new w _
theorem H.later {w w' : World} {g : Nat} {A : List Value} {t : TypeId} {B : Nat} (h : H w g A t) (hb : Below B w w') (hg : g < B) : H w' g A t := (hb.block g hg).trans h

theorem Row.ofH {w : World} {g : Nat} {A vs : List Value} {t : TypeId} (h : H w g A t) (hv : A.take vs.length = vs) : Row w (some ⟨g, 0, none⟩) vs := by
  refine .inr ⟨g, 0, rfl, fun i v hi => ?_⟩
  have hi' : i < vs.length := (List.getElem?_eq_some_iff.1 hi).1
  rw [Nat.zero_add, h.cell, ← hi]
  conv => rhs; rw [← hv]
  rw [List.getElem?_take_of_lt hi']

theorem owned_H {w : World} {base e g n cap : Nat} {xs : List Value} (h : w.ownsRow base e 1 (.slice (some ⟨g, 0, none⟩) n cap) n xs) : ∃ A : List Value, H w g A e ∧ A.length = cap ∧ A.take n = xs := by
  obtain ⟨_, ⟨hv, _⟩ | ⟨g', cap', cur, hv, _, hh, _, _, hs, ht⟩⟩ := h
  · cases hv
  · cases hv
    exact ⟨cur.toList, by unfold H; simpa using hh, by simpa using hs, by simpa using ht⟩

/-- It returned a slice of n elements that holds vs; nothing old has turned. -/
def RowOut (n : Nat) (vs : List Value) (w : World) (e : Ending) (w' : World) : Prop := ∃ ao' c', e = .returned (.slice ao' n c') ∧ Row w' ao' vs ∧ Below w.heap.size w w'

/-- It returned some bool. -/
def SomeBool (e : Ending) : Prop := ∃ x, e = .returned (.bool x)
theorem SomeBool.mk (x : Bool) : SomeBool (.returned (.bool x)) := ⟨x, rfl⟩

set_option maxHeartbeats 1000000 in
theorem isLock_any (x : Int) (w : World) : Calls Try.prog 6 #[.int .u8 x] w fun e w' => e = .returned (.bool (lockB x)) ∧ w' = w := by
  cases h1 : (x == 5) with
  | true =>
    have HH : Hid (lockB x = true) := lockB_1 h1
    go_enter Try.func6, Try.ntmps6
    go_wp2
    go_ret
    exact ⟨ret_bool HH.out.symm, rfl⟩
  | false =>
    cases h2 : (x == 6) with
    | true =>
      have HH : Hid (lockB x = true) := lockB_2 h2
      go_enter Try.func6, Try.ntmps6
      go_wp2
      go_ret
      exact ⟨ret_bool HH.out.symm, rfl⟩
    | false =>
      cases h3 : (x == 7) with
      | true =>
        have HH : Hid (lockB x = true) := lockB_3 h3
        go_enter Try.func6, Try.ntmps6
        go_wp2
        go_ret
        exact ⟨ret_bool HH.out.symm, rfl⟩
      | false =>
        have HH : Hid (lockB x = false) := lockB_no h1 h2 h3
        go_enter Try.func6, Try.ntmps6
        go_wp2
        go_ret
        exact ⟨ret_bool HH.out.symm, rfl⟩

set_option maxHeartbeats 1000000 in
theorem locking_any (x : Int) (w : World) : Calls Try.prog 12 #[.int .u8 x] w fun e w' => e = .returned (.bool (lockB x)) ∧ w' = w := by
  cases h1 : (x == 5) with
  | true =>
    have HH : Hid (lockB x = true) := lockB_1 h1
    go_enter Try.func12, Try.ntmps12
    go_wp2
    go_ret
    exact ⟨ret_bool HH.out.symm, rfl⟩
  | false =>
    cases h2 : (x == 6) with
    | true =>
      have HH : Hid (lockB x = true) := lockB_2 h2
      go_enter Try.func12, Try.ntmps12
      go_wp2
      go_ret
      exact ⟨ret_bool HH.out.symm, rfl⟩
    | false =>
      cases h3 : (x == 7) with
      | true =>
        have HH : Hid (lockB x = true) := lockB_3 h3
        go_enter Try.func12, Try.ntmps12
        go_wp2
        go_ret
        exact ⟨ret_bool HH.out.symm, rfl⟩
      | false =>
        have HH : Hid (lockB x = false) := lockB_no h1 h2 h3
        go_enter Try.func12, Try.ntmps12
        go_wp2
        go_ret
        exact ⟨ret_bool HH.out.symm, rfl⟩

theorem Try.info33 : (Try.prog.info? 33).map (fun i => (i.zero, i.size, i.bytes)) = some (some (.int .u8 0), 1, 1) := by kernel_rfl
theorem Try.info34 : (Try.prog.info? 34).map (fun i => (i.zero, i.size, i.bytes)) = some (some (.string ⟨#[]⟩), 1, 16) := by kernel_rfl
theorem Try.info3 : (Try.prog.info? 3).map (fun i => (i.zero, i.size, i.bytes)) = some (some (.int .i64 0), 1, 8) := by kernel_rfl
theorem Try.info4 : (Try.prog.info? 4).map (fun i => (i.zero, i.size, i.bytes)) = some (some (.bool false), 1, 1) := by kernel_rfl

set_option maxHeartbeats 1000000 in
theorem toKinds_any (ao : Option Addr) (n c : Nat) (K : List Int) (w : World) (hn : n ≤ 65536) (hl : K.length = n) (hnil : ao = none → n = 0 ∧ c = 0) (hR : Row w ao (K.map (Value.int .u8))) :
    Calls Try.prog 8 #[.slice ao n c] w fun e w' => RowOut n (K.map (Value.int .u8)) w e w' := by
  obtain ⟨i0, hi, hz0, hz1, hz2⟩ := info_parts Try.info33
  have hq : ∀ W, (binOp .eql 22 (.slice ao n c) (.slice none 0 0)).run Try.prog W = .ok (.bool ao.isNone) W := fun W => Lib.run_eql_slice_nil W 22 5 ao n c 0 0 Try.underlying22
  cases ao with
  | none =>
    obtain ⟨rfl, rfl⟩ := hnil rfl
    obtain rfl : K = [] := List.eq_nil_of_length_eq_zero hl
    go_enter Try.func8, Try.ntmps8
    go_wp2
    go_ret
    exact ⟨none, 0, rfl, row_none _ _, Below.refl _ _⟩
  | some a0 =>
    obtain ⟨b, o, ha, hc⟩ := hR.parts
    clear hR hnil
    go_enter Try.func8, Try.ntmps8
    go_wp2_with (at_make; refine wpList_make_full _ rfl _ _ 27 rfl w.heap.size 33 i0 (.int .u8 0) 1 Try.underlying27 hi hz0 hz1 _ _ _ _ n rfl rfl rfl rfl ?b2 ?b3 (Nat.le_refl _) ?_)
    case b2 => rw [hz2]; omega
    case b3 => unfold maxLen; omega
    intro w0 hown0 hgrow0
    obtain ⟨A0, hA0, hA0l, _⟩ := owned_H hown0
    have hb0 : Below w.heap.size w w0 := (Below.refl _ _).grown hgrow0 (Nat.le_refl _) (fun k h => by cases h)
    clear hown0 hgrow0 hi hz0 hz1 hz2 hq
    have HA0 : Hid (H w0 w.heap.size A0 33 ∧ A0.length = n) := ⟨hA0, hA0l⟩
    clear hA0 hA0l
    go_wp2
    go_loopg [4] n (fun m si wr => ∃ k : Nat, k ≤ n ∧ m = n - k ∧ si = .int .i64 k ∧ Hid (∃ A, H wr w.heap.size A 33 ∧ A.length = n ∧ A.take k = (K.take k).map (Value.int .u8)) ∧ Below w.heap.size w wr)
    case atStart => exact ⟨0, Nat.zero_le _, rfl, rfl, ⟨A0, HA0.out.1, HA0.out.2, by simp⟩, hb0⟩
    case round =>
      clear HA0 hb0
      obtain ⟨k, hk, rfl, rfl, hA, hnx⟩ := hrel
      by_cases hlt : k < n
      · obtain ⟨A, hAh, hAl, hAt⟩ := hA.out
        obtain rfl : a0 = ⟨b, o, none⟩ := by have := ha (by simp; omega); simpa using this
        obtain ⟨x, hx⟩ : ∃ x, x = K.getD k 0 := ⟨_, rfl⟩
        have hcx : wr.cell? ⟨b, o + k, none⟩ = some ((Value.int .u8) x) := by rw [hx]; exact cell_later hnx (hc k _ (map_at _ K _ k (by omega)))
        have hfr := hAh.frozen k
        have hsome : ∃ v, wr.cell? ⟨w.heap.size, k, none⟩ = some v := ⟨_, by rw [hAh.cell, List.getElem?_eq_getElem (by omega)]⟩
        obtain ⟨v, hv⟩ := hsome
        have HS : Hid (∃ A', H (wr.setCell ⟨w.heap.size, k, none⟩ ((Value.int .u8) x)) w.heap.size A' 33 ∧ A'.length = n ∧ A'.take (k + 1) = (K.take (k + 1)).map (Value.int .u8)) :=
          ⟨_, hAh.set k _, by simpa using hAl, by rw [take_set A k _ (by omega), hAt, take_snoc K k 0 (by omega), hx]; simp⟩
        clear hAh hAl hAt hA hx hc ha
        go_wp2
        go_roundg (n - (k + 1))
        case measure => omega
        case rel => exact ⟨k + 1, by omega, rfl, by go_num, HS, hnx.setCell (Nat.le_refl _) _⟩
      · obtain rfl : k = n := by omega
        clear hc ha
        go_wp2
        go_ret
        obtain ⟨A, hAh, hAl, hAt⟩ := hA.out
        refine ⟨_, _, rfl, Row.ofH hAh ?_, hnx⟩
        rw [List.take_of_length_le (by omega : K.length ≤ k)] at hAt
        rw [List.length_map, hl, hAt]

set_option maxHeartbeats 1000000 in
theorem toTxns_any (ao : Option Addr) (n c : Nat) (K : List ByteArray) (w : World) (hn : n ≤ 65536) (hl : K.length = n) (hnil : ao = none → n = 0 ∧ c = 0) (hR : Row w ao (K.map Value.string)) :
    Calls Try.prog 9 #[.slice ao n c] w fun e w' => RowOut n (K.map Value.string) w e w' := by
  obtain ⟨i0, hi, hz0, hz1, hz2⟩ := info_parts Try.info34
  have hq : ∀ W, (binOp .eql 23 (.slice ao n c) (.slice none 0 0)).run Try.prog W = .ok (.bool ao.isNone) W := fun W => Lib.run_eql_slice_nil W 23 9 ao n c 0 0 Try.underlying23
  cases ao with
  | none =>
    obtain ⟨rfl, rfl⟩ := hnil rfl
    obtain rfl : K = [] := List.eq_nil_of_length_eq_zero hl
    go_enter Try.func9, Try.ntmps9
    go_wp2
    go_ret
    exact ⟨none, 0, rfl, row_none _ _, Below.refl _ _⟩
  | some a0 =>
    obtain ⟨b, o, ha, hc⟩ := hR.parts
    clear hR hnil
    go_enter Try.func9, Try.ntmps9
    go_wp2_with (at_make; refine wpList_make_full _ rfl _ _ 28 rfl w.heap.size 34 i0 (.string ⟨#[]⟩) 1 Try.underlying28 hi hz0 hz1 _ _ _ _ n rfl rfl rfl rfl ?b2 ?b3 (Nat.le_refl _) ?_)
    case b2 => rw [hz2]; omega
    case b3 => unfold maxLen; omega
    intro w0 hown0 hgrow0
    obtain ⟨A0, hA0, hA0l, _⟩ := owned_H hown0
    have hb0 : Below w.heap.size w w0 := (Below.refl _ _).grown hgrow0 (Nat.le_refl _) (fun k h => by cases h)
    clear hown0 hgrow0 hi hz0 hz1 hz2 hq
    have HA0 : Hid (H w0 w.heap.size A0 34 ∧ A0.length = n) := ⟨hA0, hA0l⟩
    clear hA0 hA0l
    go_wp2
    go_loopg [4] n (fun m si wr => ∃ k : Nat, k ≤ n ∧ m = n - k ∧ si = .int .i64 k ∧ Hid (∃ A, H wr w.heap.size A 34 ∧ A.length = n ∧ A.take k = (K.take k).map Value.string) ∧ Below w.heap.size w wr)
    case atStart => exact ⟨0, Nat.zero_le _, rfl, rfl, ⟨A0, HA0.out.1, HA0.out.2, by simp⟩, hb0⟩
    case round =>
      clear HA0 hb0
      obtain ⟨k, hk, rfl, rfl, hA, hnx⟩ := hrel
      by_cases hlt : k < n
      · obtain ⟨A, hAh, hAl, hAt⟩ := hA.out
        obtain rfl : a0 = ⟨b, o, none⟩ := by have := ha (by simp; omega); simpa using this
        obtain ⟨x, hx⟩ : ∃ x, x = K.getD k ByteArray.empty := ⟨_, rfl⟩
        have hcx : wr.cell? ⟨b, o + k, none⟩ = some (Value.string x) := by rw [hx]; exact cell_later hnx (hc k _ (map_at _ K _ k (by omega)))
        have hfr := hAh.frozen k
        have hsome : ∃ v, wr.cell? ⟨w.heap.size, k, none⟩ = some v := ⟨_, by rw [hAh.cell, List.getElem?_eq_getElem (by omega)]⟩
        obtain ⟨v, hv⟩ := hsome
        have HS : Hid (∃ A', H (wr.setCell ⟨w.heap.size, k, none⟩ (Value.string x)) w.heap.size A' 34 ∧ A'.length = n ∧ A'.take (k + 1) = (K.take (k + 1)).map Value.string) :=
          ⟨_, hAh.set k _, by simpa using hAl, by rw [take_set A k _ (by omega), hAt, take_snoc K k ByteArray.empty (by omega), hx]; simp⟩
        clear hAh hAl hAt hA hx hc ha
        go_wp2
        go_roundg (n - (k + 1))
        case measure => omega
        case rel => exact ⟨k + 1, by omega, rfl, by go_num, HS, hnx.setCell (Nat.le_refl _) _⟩
      · obtain rfl : k = n := by omega
        clear hc ha
        go_wp2
        go_ret
        obtain ⟨A, hAh, hAl, hAt⟩ := hA.out
        refine ⟨_, _, rfl, Row.ofH hAh ?_, hnx⟩
        rw [List.take_of_length_le (by omega : K.length ≤ k)] at hAt
        rw [List.length_map, hl, hAt]

set_option maxHeartbeats 1000000 in
theorem pos_nil (g : Nat) (q : Int) (w : World) (h5 : w.cell? ⟨g, 5, none⟩ = some (.slice none 0 0)) :
    Calls Try.prog 13 #[.pointer (some ⟨g, 0, none⟩), .int .i64 q] w fun e w' => e = .returned (.int .i64 q) ∧ w' = w := by
  have hq : ∀ W, (binOp .eql 24 (.slice none 0 0) (.slice none 0 0)).run Try.prog W = .ok (.bool true) W := fun W => Lib.run_eql_slice_nil W 24 3 none 0 0 0 0 Try.underlying24
  go_enter Try.func13, Try.ntmps13
  go_wp2
  go_ret
  exact ⟨rfl, rfl⟩

set_option maxHeartbeats 1000000 in
theorem pos_some (g b o n c q : Nat) (x : Int) (w : World) (h5 : w.cell? ⟨g, 5, none⟩ = some (.slice (some ⟨b, o, none⟩) n c)) (hq : q < n) (hx : w.cell? ⟨b, o + q, none⟩ = some (.int .i64 x)) :
    Calls Try.prog 13 #[.pointer (some ⟨g, 0, none⟩), .int .i64 q] w fun e w' => e = .returned (.int .i64 x) ∧ w' = w := by
  have hn : ∀ W, (binOp .eql 24 (.slice (some ⟨b, o, none⟩) n c) (.slice none 0 0)).run Try.prog W = .ok (.bool false) W := fun W => Lib.run_eql_slice_nil W 24 3 (some ⟨b, o, none⟩) n c 0 0 Try.underlying24
  go_enter Try.func13, Try.ntmps13
  go_wp2
  go_ret
  exact ⟨rfl, rfl⟩

set_option maxHeartbeats 2000000 in
theorem bytes5_any (ko to xo io ao : Option Addr) (n c m mc xn xc jn jc an ac : Nat) (items : Int) (T : List ByteArray) (w : World) (hm : T.length = m) (hT : Row w to (T.map Value.string))
    (h1 : n ≤ maxLen) (h2 : m ≤ maxLen) (h3 : xn ≤ maxLen) (h4 : jn ≤ maxLen) (h5 : an ≤ maxLen) :
    Calls Try.prog 5 #[.slice ko n c, .slice to m mc, .slice xo xn xc, .slice io jn jc, .int .i64 items, .slice ao an ac] w fun e w' => SomeBool e ∧ w' = w := by
  unfold maxLen at h1 h2 h3 h4 h5
  obtain ⟨b, o, ha, hc⟩ := hT.parts
  clear hT
  go_enter Try.func5, Try.ntmps5
  go_wp2
  all_goals try (go_ret; exact ⟨SomeBool.mk _, rfl⟩)
  go_loop [13, 14] (fun sn si => ∃ k x : Nat, k ≤ m ∧ x ≤ 1048576 ∧ si = .int .i64 k ∧ sn = .int .i64 x) (fun _ si => m - (intOf si).toNat)
  case atStart => exact ⟨0, n + m, Nat.zero_le _, by omega, rfl, by go_num⟩
  case round =>
    obtain ⟨k, x, hk, hx, rfl, rfl⟩ := hrel
    by_cases hlt : k < m
    · obtain rfl : to = some ⟨b, o, none⟩ := ha (by simp; omega)
      obtain ⟨s, hs⟩ : ∃ s, s = T.getD k ByteArray.empty := ⟨_, rfl⟩
      have hcx := hc k _ (map_at _ T ByteArray.empty k (by omega))
      rw [← hs] at hcx
      clear hs hc ha
      go_wp2
      all_goals try (go_ret; exact ⟨SomeBool.mk _, rfl⟩)
      go_round
      case rel => exact ⟨k + 1, x + s.size, by omega, by omega, by go_num, by go_num⟩
      case measure => simp [intOf]; omega
    · go_wp2
      all_goals
        go_ret
        exact ⟨SomeBool.mk _, rfl⟩
end Go.Proofs.Qxb6619397a
