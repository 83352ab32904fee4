/-
  withoutLocks: the plain lists, and the walk where there is no lock.
-/
import Derived.Test.Qxb6619397aBase
namespace Go.Proofs.Qxb6619397a
open Go.RowKit
set_option linter.unusedVariables false

/-- The places of the first q operations that are no locks. -/
def kp (K : List Int) (q : Nat) : List Nat := (List.range q).filter fun i => !lockB (K.getD i 0)

theorem kp_zero (K : List Int) : kp K 0 = [] := rfl
theorem kp_lock (K : List Int) (q : Nat) (h : lockB (K.getD q 0) = true) : kp K (q + 1) = kp K q := by
  unfold kp
  rw [List.range_succ, List.filter_append]
  simp only [List.filter_cons, h]
  simp
theorem kp_plain (K : List Int) (q : Nat) (h : lockB (K.getD q 0) = false) : kp K (q + 1) = kp K q ++ [q] := by
  unfold kp
  rw [List.range_succ, List.filter_append]
  simp only [List.filter_cons, h]
  simp
theorem kp_le (K : List Int) (q : Nat) : (kp K q).length ≤ q := by
  unfold kp
  have := List.length_filter_le (fun i => !lockB (K.getD i 0)) (List.range q)
  simpa using this
theorem kp_mono (K : List Int) (q : Nat) : (kp K q).length ≤ (kp K (q + 1)).length := by
  cases h : lockB (K.getD q 0) with
  | true => rw [kp_lock K q h]; exact Nat.le_refl _
  | false => rw [kp_plain K q h]; simp
theorem kp_mono' (K : List Int) (q : Nat) : ∀ d, (kp K q).length ≤ (kp K (q + d)).length
  | 0 => Nat.le_refl _
  | d + 1 => Nat.le_trans (kp_mono' K q d) (kp_mono K (q + d))
theorem kp_mem (K : List Int) (q i : Nat) : i ∈ kp K q ↔ i < q ∧ lockB (K.getD i 0) = false := by
  unfold kp
  simp

/-- The receiver's six fields. -/
structure Recv (w : World) (g : Nat) (k t x j : Value) (items : Int) (a : Value) : Prop where
  c0 : w.cell? ⟨g, 0, none⟩ = some k
  c1 : w.cell? ⟨g, 1, none⟩ = some t
  c2 : w.cell? ⟨g, 2, none⟩ = some x
  c3 : w.cell? ⟨g, 3, none⟩ = some j
  c4 : w.cell? ⟨g, 4, none⟩ = some (.int .i64 items)
  c5 : w.cell? ⟨g, 5, none⟩ = some a

theorem Recv.later {w w' : World} {g : Nat} {k t x j : Value} {items : Int} {a : Value} (h : Recv w g k t x j items a) (hb : Below w.heap.size w w') : Recv w' g k t x j items a :=
  ⟨cell_later hb h.c0, cell_later hb h.c1, cell_later hb h.c2, cell_later hb h.c3, cell_later hb h.c4, cell_later hb h.c5⟩

set_option maxHeartbeats 1000000 in
set_option maxRecDepth 100000 in
theorem wl_none (g n kc : Nat) (ko : Option Addr) (K : List Int) (tv xv jv av : Value) (items : Int) (w : World) (hR : Recv w g (.slice ko n kc) tv xv jv items av) (hl : K.length = n) (hn : n ≤ 65536) (hK : Row w ko (K.map (Value.int .u8)))
    (hall : (kp K n).length = n) :
    Calls Try.prog 11 #[.pointer (some ⟨g, 0, none⟩)] w fun e w' => e = .returned (.pointer (some ⟨g, 0, none⟩)) ∧ w' = w := by
  obtain ⟨b, o, ha, hc⟩ := hK.parts
  have h0 := hR.c0
  clear hK hR
  go_enter Try.func11, Try.ntmps11
  go_wp2
  go_loopg [3, 19] n (fun d sc si wr => ∃ q : Nat, q ≤ n ∧ d = n - q ∧ si = .int .i64 q ∧ sc = .int .i64 (kp K q).length ∧ wr = w)
  case atStart => exact ⟨0, Nat.zero_le _, rfl, rfl, rfl, rfl⟩
  case round =>
    obtain ⟨q, hq, rfl, rfl, rfl, hwr⟩ := hrel
    subst hwr
    have hql := kp_le K q
    by_cases hlt : q < n
    · obtain rfl : ko = some ⟨b, o, none⟩ := ha (by simp; omega)
      obtain ⟨x, hx⟩ : ∃ x, x = K.getD q 0 := ⟨_, rfl⟩
      have hcx := hc q _ (map_at _ K 0 q (by omega))
      rw [← hx] at hcx
      cases hlk : lockB x with
      | true =>
        have HQ : Hid ((kp K (q + 1)).length = (kp K q).length) := by show _ = _; rw [kp_lock K q (by rw [← hx]; exact hlk)]
        clear hx hc ha
        go_wp2_with (go_at_call 12; refine (locking_any _ _).mono ?_; rintro e w' ⟨rfl, hw⟩; obtain rfl := hw.symm; clear hw)
        go_roundg (n - (q + 1))
        case measure => omega
        case rel => exact ⟨q + 1, by omega, rfl, by go_num, by rw [HQ.out], rfl⟩
      | false =>
        have HQ : Hid ((kp K (q + 1)).length = (kp K q).length + 1) := by show _ = _; rw [kp_plain K q (by rw [← hx]; exact hlk)]; simp
        clear hx hc ha
        go_wp2_with (go_at_call 12; refine (locking_any _ _).mono ?_; rintro e w' ⟨rfl, hw⟩; obtain rfl := hw.symm; clear hw)
        go_roundg (n - (q + 1))
        case measure => omega
        case rel => exact ⟨q + 1, by omega, rfl, by go_num, by rw [HQ.out]; go_num, rfl⟩
    · obtain rfl : q = n := by omega
      clear hc ha
      have hbe : (((kp K q).length : Int) == (q : Int)) = true := by simp [hall]
      clear hall
      go_wp2
      go_ret
      exact ⟨rfl, rfl⟩
end Go.Proofs.Qxb6619397a
