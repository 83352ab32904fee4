/-
  The law, the loop over the transaction numbers.
-/
import Derived.Test.Qxb6619397aFr
namespace Go.Proofs.Qxb6619397a
open Go.RowKit
set_option linter.unusedVariables false

def I11 (l : List (Nat × Value)) (n m : Nat) (K X : List Int) (w : World) (a' : Act) (w' : World) : Prop :=
  Fr a' l ∧ w' = w ∧ ∀ q, q < n → lockB (K.getD q 0) = false → ∃ x : Nat, X.getD q 0 = (x : Int) ∧ x < m

set_option maxHeartbeats 4000000 in
set_option maxRecDepth 100000 in
theorem st11 {w0 : World} {ko tq xo io ao : Option Addr} {n kc m mc xc jc an ac : Nat} {items : Int} {K X : List Int} (a : Act) (w : World) (hb : Below w0.heap.size w0 w) (hF : Fr a [(0, .slice ko n kc), (1, .slice tq m mc), (2, .slice xo n xc), (3, .slice io n jc), (4, .int .i64 items), (5, .slice ao an ac)]) (hlK : K.length = n) (hlX : X.length = n) (h1 : n ≤ 65536) (h2 : m ≤ 65536) (hK : Row w ko (K.map (Value.int .u8))) (hX : Row w xo (X.map (Value.int .i64)))
    (K' : Act → World → Prop) (hK' : ∀ a' w', (I11 [(0, .slice ko n kc), (1, .slice tq m mc), (2, .slice xo n xc), (3, .slice io n jc), (4, .int .i64 items), (5, .slice ao an ac)] n m K X w) a' w' → K' a' w') : (S (Try.f3.body.getD .skip) 11).wp Try.prog (Exit.then K' (bodyPost Try.prog Try.f3 (Good w0))) a w := by
  obtain ⟨f, rfl, hf⟩ := hF.opened
  have g0 : f 0 = .slice ko n kc := hf (0, .slice ko n kc) (by simp)
  have g1 : f 1 = .slice tq m mc := hf (1, .slice tq m mc) (by simp)
  have g2 : f 2 = .slice xo n xc := hf (2, .slice xo n xc) (by simp)
  have g3 : f 3 = .slice io n jc := hf (3, .slice io n jc) (by simp)
  have g4 : f 4 = .int .i64 items := hf (4, .int .i64 items) (by simp)
  have g5 : f 5 = .slice ao an ac := hf (5, .slice ao an ac) (by simp)
  clear hf hF
  rw [lit]
  simp only [g0, g1, g2, g3, g4, g5]
  clear g0 g1 g2 g3 g4 g5
  conv => arg 2; whnf
  obtain ⟨b, o, ha, hc⟩ := hK.parts
  obtain ⟨b2, o2, ha2, hc2⟩ := hX.parts
  clear hK hX
  go_wp2
  go_loopg [18] n (fun d si wr => ∃ (q : Nat), q ≤ n ∧ d = n - q ∧ si = .int .i64 q ∧ wr = w ∧ Hid (∀ i, i < q → lockB (K.getD i 0) = false → ∃ x : Nat, X.getD i 0 = (x : Int) ∧ x < m))
  case atStart => exact ⟨0, Nat.zero_le _, rfl, rfl, rfl, fun i hi => by omega⟩
  case round =>
    obtain ⟨q, hq, rfl, rfl, hwr, hin⟩ := hrel
    obtain rfl : w = wr := hwr.symm
    clear hwr
    by_cases hlt : q < n
    · obtain rfl : ko = some ⟨b, o, none⟩ := ha (by simp; omega)
      obtain rfl : xo = some ⟨b2, o2, none⟩ := ha2 (by simp; omega)
      obtain ⟨x, hx⟩ : ∃ x, x = K.getD q 0 := ⟨_, rfl⟩
      have hcx := hc q _ (map_at _ K 0 q (by omega))
      rw [← hx] at hcx
      obtain ⟨y, hy⟩ : ∃ y, y = X.getD q 0 := ⟨_, rfl⟩
      have hcy := hc2 q _ (map_at _ X 0 q (by omega))
      rw [← hy] at hcy
      have HN : Hid ((lockB x = false → ∃ z : Nat, y = (z : Int) ∧ z < m) → ∀ i, i < q + 1 → lockB (K.getD i 0) = false → ∃ x : Nat, X.getD i 0 = (x : Int) ∧ x < m) := by
        intro hnew i hi hl
        by_cases e : i = q
        · subst e; rw [← hy]; exact hnew (by rw [hx]; exact hl)
        · exact hin.out i (by omega) hl
      clear hx hy hc ha hc2 ha2 hin
      cases hlk : lockB x with
      | true =>
        go_wp2_with (go_at_call 6; refine (isLock_any _ _).mono ?_; rintro e w' ⟨rfl, hw⟩; obtain rfl := hw.symm; clear hw)
        go_roundg (n - (q + 1))
        case measure => omega
        case rel => exact ⟨q + 1, by omega, rfl, by go_num, rfl, HN.out (fun h => by rw [hlk] at h; cases h)⟩
      | false =>
        by_cases y0 : y < 0
        · go_wp2_with (go_at_call 6; refine (isLock_any _ _).mono ?_; rintro e w' ⟨rfl, hw⟩; obtain rfl := hw.symm; clear hw)
          go_ret
          exact ⟨rfl, hb⟩
        by_cases y1 : (m : Int) ≤ y
        · go_wp2_with (go_at_call 6; refine (isLock_any _ _).mono ?_; rintro e w' ⟨rfl, hw⟩; obtain rfl := hw.symm; clear hw)
          go_ret
          exact ⟨rfl, hb⟩
        go_wp2_with (go_at_call 6; refine (isLock_any _ _).mono ?_; rintro e w' ⟨rfl, hw⟩; obtain rfl := hw.symm; clear hw)
        go_roundg (n - (q + 1))
        case measure => omega
        case rel => exact ⟨q + 1, by omega, rfl, by go_num, rfl, HN.out (fun _ => ⟨y.toNat, by omega, by omega⟩)⟩
    · obtain rfl : q = n := by omega
      clear hc ha hc2 ha2
      go_wp2
      exact ⟨⟨rfl, rfl, ⟨rfl, rfl, rfl, rfl, rfl, rfl, trivial⟩⟩, rfl, hin.out⟩

end Go.Proofs.Qxb6619397a
