/-
  The law, no lock: the positions.
-/
import Derived.Test.Qxb6619397aFr
import Derived.Test.Qxb6619397aV0
namespace Go.Proofs.Qxb6619397a
open Go.RowKit
set_option linter.unusedVariables false

set_option maxHeartbeats 4000000 in
set_option maxRecDepth 100000 in
theorem sv3 {w0 : World} {ko tq xo io ao k' t' : Option Addr} {n kc m mc xc jc an ac c' tc' : Nat} {items : Int} {KF : Act → World → Prop} {A : List Int} (a : Act) (w : World) (hb : Below w0.heap.size w0 w) (hF : Fr a [(0, .slice ko n kc), (1, .slice tq m mc), (2, .slice xo n xc), (3, .slice io n jc), (4, .int .i64 items), (5, .slice ao an ac), (19, .slice k' n c'), (20, .slice t' m tc'), (21, .slice xo n xc), (22, .slice io n jc), (24, .slice ao an ac)]) (hlA : A.length = an) (h5 : an ≤ 65536) (hA : Row w ao (A.map (Value.int .i64)))
    (K' : Act → World → Prop) (hK' : ∀ a' w', (IB [(0, .slice ko n kc), (1, .slice tq m mc), (2, .slice xo n xc), (3, .slice io n jc), (4, .int .i64 items), (5, .slice ao an ac), (19, .slice k' n c'), (20, .slice t' m tc'), (21, .slice xo n xc), (22, .slice io n jc), (24, .slice ao an ac)] w) a' w' → K' a' w') : (S (thenOf (S (Try.f3.body.getD .skip) 16)) 3).wp Try.prog (Exit.then K' (Exit.then KF (bodyPost Try.prog Try.f3 (Good w0)))) a w := by
  obtain ⟨f, rfl, hf⟩ := hF.opened
  have g0 : f 0 = .slice ko n kc := hf (0, .slice ko n kc) (by simp)
  have g1 : f 1 = .slice tq m mc := hf (1, .slice tq m mc) (by simp)
  have g2 : f 2 = .slice xo n xc := hf (2, .slice xo n xc) (by simp)
  have g3 : f 3 = .slice io n jc := hf (3, .slice io n jc) (by simp)
  have g4 : f 4 = .int .i64 items := hf (4, .int .i64 items) (by simp)
  have g5 : f 5 = .slice ao an ac := hf (5, .slice ao an ac) (by simp)
  have g6 : f 19 = .slice k' n c' := hf (19, .slice k' n c') (by simp)
  have g7 : f 20 = .slice t' m tc' := hf (20, .slice t' m tc') (by simp)
  have g8 : f 21 = .slice xo n xc := hf (21, .slice xo n xc) (by simp)
  have g9 : f 22 = .slice io n jc := hf (22, .slice io n jc) (by simp)
  have g10 : f 24 = .slice ao an ac := hf (24, .slice ao an ac) (by simp)
  clear hf hF
  rw [lit]
  simp only [g0, g1, g2, g3, g4, g5, g6, g7, g8, g9, g10]
  clear g0 g1 g2 g3 g4 g5 g6 g7 g8 g9 g10
  conv => arg 2; whnf
  obtain ⟨b, o, ha, hc⟩ := hA.parts
  clear hA
  go_wp2
  go_loopg [29] an (fun d si wr => ∃ (q : Nat), q ≤ an ∧ d = an - q ∧ si = .int .i64 q ∧ Hid (Below w.heap.size w wr))
  case atStart => exact ⟨0, Nat.zero_le _, rfl, rfl, Below.refl _ _⟩
  case round =>
    obtain ⟨q, hq, rfl, rfl, hst⟩ := hrel
    by_cases hlt : q < an
    · obtain rfl : ao = some ⟨b, o, none⟩ := ha (by simp; omega)
      obtain ⟨x, hx⟩ : ∃ x, x = A.getD q 0 := ⟨_, rfl⟩
      have c1 : wr.cell? ⟨b, o + q, none⟩ = some (.int .i64 x) := by rw [hx]; exact cell_later hst.out (hc q _ (map_at _ A 0 q (by omega)))
      clear hx hc ha
      have hiR : (q : Int) < (an : Int) := by omega
      go_wp2
      go_quiet (fail)
      go_wp2
      go_roundg (an - (q + 1))
      case measure => omega
      case rel => exact ⟨q + 1, by omega, rfl, by go_num, below_drewN hst.out _⟩
    · obtain rfl : q = an := by omega
      clear hc ha
      go_wp2
      exact ⟨⟨rfl, rfl, ⟨rfl, rfl, rfl, rfl, rfl, rfl, rfl, rfl, rfl, rfl, rfl, trivial⟩⟩, hst.out⟩

set_option maxHeartbeats 4000000 in
set_option maxRecDepth 100000 in
theorem sv4 {w0 : World} {ko tq xo io ao k' t' : Option Addr} {n kc m mc xc jc an ac c' tc' : Nat} {items : Int} {KF : Act → World → Prop} {T : List ByteArray} (a : Act) (w : World) (hb : Below w0.heap.size w0 w) (hF : Fr a [(0, .slice ko n kc), (1, .slice tq m mc), (2, .slice xo n xc), (3, .slice io n jc), (4, .int .i64 items), (5, .slice ao an ac), (19, .slice k' n c'), (20, .slice t' m tc'), (21, .slice xo n xc), (22, .slice io n jc), (24, .slice ao an ac)]) (hlT : T.length = m) (h2 : m ≤ 65536) (hT : Row w tq (T.map Value.string)) (hT2 : Row w t' (T.map Value.string))
    (K' : Act → World → Prop) (hK' : ∀ a' w', (IB [(0, .slice ko n kc), (1, .slice tq m mc), (2, .slice xo n xc), (3, .slice io n jc), (4, .int .i64 items), (5, .slice ao an ac), (19, .slice k' n c'), (20, .slice t' m tc'), (21, .slice xo n xc), (22, .slice io n jc), (24, .slice ao an ac)] w) a' w' → K' a' w') : (S (thenOf (S (Try.f3.body.getD .skip) 16)) 4).wp Try.prog (Exit.then K' (Exit.then KF (bodyPost Try.prog Try.f3 (Good w0)))) a w := by
  obtain ⟨f, rfl, hf⟩ := hF.opened
  have g0 : f 0 = .slice ko n kc := hf (0, .slice ko n kc) (by simp)
  have g1 : f 1 = .slice tq m mc := hf (1, .slice tq m mc) (by simp)
  have g2 : f 2 = .slice xo n xc := hf (2, .slice xo n xc) (by simp)
  have g3 : f 3 = .slice io n jc := hf (3, .slice io n jc) (by simp)
  have g4 : f 4 = .int .i64 items := hf (4, .int .i64 items) (by simp)
  have g5 : f 5 = .slice ao an ac := hf (5, .slice ao an ac) (by simp)
  have g6 : f 19 = .slice k' n c' := hf (19, .slice k' n c') (by simp)
  have g7 : f 20 = .slice t' m tc' := hf (20, .slice t' m tc') (by simp)
  have g8 : f 21 = .slice xo n xc := hf (21, .slice xo n xc) (by simp)
  have g9 : f 22 = .slice io n jc := hf (22, .slice io n jc) (by simp)
  have g10 : f 24 = .slice ao an ac := hf (24, .slice ao an ac) (by simp)
  clear hf hF
  rw [lit]
  simp only [g0, g1, g2, g3, g4, g5, g6, g7, g8, g9, g10]
  clear g0 g1 g2 g3 g4 g5 g6 g7 g8 g9 g10
  conv => arg 2; whnf
  obtain ⟨b, o, ha, hc⟩ := hT.parts
  obtain ⟨b2, o2, ha2, hc2⟩ := hT2.parts
  clear hT hT2
  go_wp2
  go_loopg [30] m (fun d si wr => ∃ (q : Nat), q ≤ m ∧ d = m - q ∧ si = .int .i64 q ∧ Hid (Below w.heap.size w wr))
  case atStart => exact ⟨0, Nat.zero_le _, rfl, rfl, Below.refl _ _⟩
  case round =>
    obtain ⟨q, hq, rfl, rfl, hst⟩ := hrel
    by_cases hlt : q < m
    · obtain rfl : tq = some ⟨b, o, none⟩ := ha (by simp; omega)
      obtain rfl : t' = some ⟨b2, o2, none⟩ := ha2 (by simp; omega)
      obtain ⟨x, hx⟩ : ∃ x, x = T.getD q ByteArray.empty := ⟨_, rfl⟩
      have c1 : wr.cell? ⟨b, o + q, none⟩ = some (.string x) := by rw [hx]; exact cell_later hst.out (hc q _ (map_at _ T ByteArray.empty q (by omega)))
      have c2 : wr.cell? ⟨b2, o2 + q, none⟩ = some (.string x) := by rw [hx]; exact cell_later hst.out (hc2 q _ (map_at _ T ByteArray.empty q (by omega)))
      clear hx hc ha hc2 ha2
      have hiR : (q : Int) < (m : Int) := by omega
      go_wp2
      go_quiet (fail)
      go_wp2
      go_roundg (m - (q + 1))
      case measure => omega
      case rel => exact ⟨q + 1, by omega, rfl, by go_num, below_drewN hst.out _⟩
    · obtain rfl : q = m := by omega
      clear hc ha hc2 ha2
      go_wp2
      exact ⟨⟨rfl, rfl, ⟨rfl, rfl, rfl, rfl, rfl, rfl, rfl, rfl, rfl, rfl, rfl, trivial⟩⟩, hst.out⟩

end Go.Proofs.Qxb6619397a
