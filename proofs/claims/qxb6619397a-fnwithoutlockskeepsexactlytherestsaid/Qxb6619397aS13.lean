/-
  The law, the answer is looked at.
-/
import Derived.Test.Qxb6619397aFr
namespace Go.Proofs.Qxb6619397a
open Go.RowKit
set_option linter.unusedVariables false

set_option maxHeartbeats 4000000 in
set_option maxRecDepth 100000 in
theorem st13 {w0 : World} {ko tq xo io ao : Option Addr} {n kc m mc xc jc an ac : Nat} {items : Int} {v19 v20 v21 v22 v24 : Value} (a : Act) (w : World) (hb : Below w0.heap.size w0 w) (hF : Fr a [(0, .slice ko n kc), (1, .slice tq m mc), (2, .slice xo n xc), (3, .slice io n jc), (4, .int .i64 items), (5, .slice ao an ac), (19, v19), (20, v20), (21, v21), (22, v22), (23, .int .i64 items), (24, v24), (25, .bool true)]) 
    (K' : Act → World → Prop) (hK' : ∀ a' w', (IF [(0, .slice ko n kc), (1, .slice tq m mc), (2, .slice xo n xc), (3, .slice io n jc), (4, .int .i64 items), (5, .slice ao an ac), (19, v19), (20, v20), (21, v21), (22, v22), (24, v24)] w) a' w' → K' a' w') : (S (Try.f3.body.getD .skip) 13).wp Try.prog (Exit.then K' (bodyPost Try.prog Try.f3 (Good w0))) a w := by
  obtain ⟨f, rfl, hf⟩ := hF.opened
  have g0 : f 0 = .slice ko n kc := hf (0, .slice ko n kc) (by simp)
  have g1 : f 1 = .slice tq m mc := hf (1, .slice tq m mc) (by simp)
  have g2 : f 2 = .slice xo n xc := hf (2, .slice xo n xc) (by simp)
  have g3 : f 3 = .slice io n jc := hf (3, .slice io n jc) (by simp)
  have g4 : f 4 = .int .i64 items := hf (4, .int .i64 items) (by simp)
  have g5 : f 5 = .slice ao an ac := hf (5, .slice ao an ac) (by simp)
  have g6 : f 19 = v19 := hf (19, v19) (by simp)
  have g7 : f 20 = v20 := hf (20, v20) (by simp)
  have g8 : f 21 = v21 := hf (21, v21) (by simp)
  have g9 : f 22 = v22 := hf (22, v22) (by simp)
  have g10 : f 23 = .int .i64 items := hf (23, .int .i64 items) (by simp)
  have g11 : f 24 = v24 := hf (24, v24) (by simp)
  have g12 : f 25 = .bool true := hf (25, .bool true) (by simp)
  clear hf hF
  rw [lit]
  simp only [g0, g1, g2, g3, g4, g5, g6, g7, g8, g9, g10, g11, g12]
  clear g0 g1 g2 g3 g4 g5 g6 g7 g8 g9 g10 g11 g12
  conv => arg 2; whnf
  have t1 : (items != items) = false := by simp
  have t2 : (items == items) = true := by simp
  go_wp2
  exact ⟨⟨rfl, rfl, ⟨rfl, rfl, rfl, rfl, rfl, rfl, rfl, rfl, rfl, rfl, rfl, trivial⟩⟩, rfl⟩

set_option maxHeartbeats 4000000 in
set_option maxRecDepth 100000 in
theorem st14 {w0 : World} {ko tq xo io ao : Option Addr} {n kc m mc xc jc an ac : Nat} {items : Int} {v19 v20 v21 v22 v24 : Value} (a : Act) (w : World) (hb : Below w0.heap.size w0 w) (hF : Fr a [(0, .slice ko n kc), (1, .slice tq m mc), (2, .slice xo n xc), (3, .slice io n jc), (4, .int .i64 items), (5, .slice ao an ac), (19, v19), (20, v20), (21, v21), (22, v22), (24, v24)]) 
    (K' : Act → World → Prop) (hK' : ∀ a' w', (IF [(0, .slice ko n kc), (1, .slice tq m mc), (2, .slice xo n xc), (3, .slice io n jc), (4, .int .i64 items), (5, .slice ao an ac), (19, v19), (20, v20), (21, v21), (22, v22), (24, v24), (26, .int .i64 0)] w) a' w' → K' a' w') : (S (Try.f3.body.getD .skip) 14).wp Try.prog (Exit.then K' (bodyPost Try.prog Try.f3 (Good w0))) a w := by
  obtain ⟨f, rfl, hf⟩ := hF.opened
  have g0 : f 0 = .slice ko n kc := hf (0, .slice ko n kc) (by simp)
  have g1 : f 1 = .slice tq m mc := hf (1, .slice tq m mc) (by simp)
  have g2 : f 2 = .slice xo n xc := hf (2, .slice xo n xc) (by simp)
  have g3 : f 3 = .slice io n jc := hf (3, .slice io n jc) (by simp)
  have g4 : f 4 = .int .i64 items := hf (4, .int .i64 items) (by simp)
  have g5 : f 5 = .slice ao an ac := hf (5, .slice ao an ac) (by simp)
  have g6 : f 19 = v19 := hf (19, v19) (by simp)
  have g7 : f 20 = v20 := hf (20, v20) (by simp)
  have g8 : f 21 = v21 := hf (21, v21) (by simp)
  have g9 : f 22 = v22 := hf (22, v22) (by simp)
  have g10 : f 24 = v24 := hf (24, v24) (by simp)
  clear hf hF
  rw [lit]
  simp only [g0, g1, g2, g3, g4, g5, g6, g7, g8, g9, g10]
  clear g0 g1 g2 g3 g4 g5 g6 g7 g8 g9 g10
  conv => arg 2; whnf
  go_wp2
  exact ⟨⟨rfl, rfl, ⟨rfl, rfl, rfl, rfl, rfl, rfl, rfl, rfl, rfl, rfl, rfl, rfl, trivial⟩⟩, rfl⟩

set_option maxHeartbeats 4000000 in
set_option maxRecDepth 100000 in
theorem st15 {w0 : World} {ko tq xo io ao : Option Addr} {n kc m mc xc jc an ac : Nat} {items : Int} {v19 v20 v21 v22 v24 : Value} {K : List Int} (a : Act) (w : World) (hb : Below w0.heap.size w0 w) (hF : Fr a [(0, .slice ko n kc), (1, .slice tq m mc), (2, .slice xo n xc), (3, .slice io n jc), (4, .int .i64 items), (5, .slice ao an ac), (19, v19), (20, v20), (21, v21), (22, v22), (24, v24), (26, .int .i64 0)]) (hlK : K.length = n) (h1 : n ≤ 65536) (hK : Row w ko (K.map (Value.int .u8)))
    (K' : Act → World → Prop) (hK' : ∀ a' w', (IF [(0, .slice ko n kc), (1, .slice tq m mc), (2, .slice xo n xc), (3, .slice io n jc), (4, .int .i64 items), (5, .slice ao an ac), (19, v19), (20, v20), (21, v21), (22, v22), (24, v24), (26, .int .i64 ((kp K n).length : Int))] w) a' w' → K' a' w') : (S (Try.f3.body.getD .skip) 15).wp Try.prog (Exit.then K' (bodyPost Try.prog Try.f3 (Good w0))) a w := by
  obtain ⟨f, rfl, hf⟩ := hF.opened
  have g0 : f 0 = .slice ko n kc := hf (0, .slice ko n kc) (by simp)
  have g1 : f 1 = .slice tq m mc := hf (1, .slice tq m mc) (by simp)
  have g2 : f 2 = .slice xo n xc := hf (2, .slice xo n xc) (by simp)
  have g3 : f 3 = .slice io n jc := hf (3, .slice io n jc) (by simp)
  have g4 : f 4 = .int .i64 items := hf (4, .int .i64 items) (by simp)
  have g5 : f 5 = .slice ao an ac := hf (5, .slice ao an ac) (by simp)
  have g6 : f 19 = v19 := hf (19, v19) (by simp)
  have g7 : f 20 = v20 := hf (20, v20) (by simp)
  have g8 : f 21 = v21 := hf (21, v21) (by simp)
  have g9 : f 22 = v22 := hf (22, v22) (by simp)
  have g10 : f 24 = v24 := hf (24, v24) (by simp)
  have g11 : f 26 = .int .i64 0 := hf (26, .int .i64 0) (by simp)
  clear hf hF
  rw [lit]
  simp only [g0, g1, g2, g3, g4, g5, g6, g7, g8, g9, g10, g11]
  clear g0 g1 g2 g3 g4 g5 g6 g7 g8 g9 g10 g11
  conv => arg 2; whnf
  obtain ⟨b, o, ha, hc⟩ := hK.parts
  clear hK
  go_wp2
  go_loopg [26, 27] n (fun d sc si wr => ∃ q : Nat, q ≤ n ∧ d = n - q ∧ si = .int .i64 q ∧ sc = .int .i64 (kp K q).length ∧ wr = w)
  case atStart => exact ⟨0, Nat.zero_le _, rfl, rfl, rfl, rfl⟩
  case round =>
    obtain ⟨q, hq, rfl, rfl, rfl, hwr⟩ := hrel
    obtain rfl : w = wr := hwr.symm
    clear hwr
    have hql := kp_le K q
    by_cases hlt : q < n
    · obtain rfl : ko = some ⟨b, o, none⟩ := ha (by simp; omega)
      obtain ⟨x, hx⟩ : ∃ x, x = K.getD q 0 := ⟨_, rfl⟩
      have hcx := hc q _ (map_at _ K 0 q (by omega))
      rw [← hx] at hcx
      cases hlk : lockB x with
      | true =>
        have HQ : Hid ((kp K (q + 1)).length = (kp K q).length) := by show _ = _; rw [kp_lock K q (by rw [← hx]; exact hlk)]
        clear hx hc ha
        go_wp2_with (go_at_call 6; refine (isLock_any _ _).mono ?_; rintro e w' ⟨rfl, hw⟩; obtain rfl := hw.symm; clear hw)
        go_roundg (n - (q + 1))
        case measure => omega
        case rel => exact ⟨q + 1, by omega, rfl, by go_num, by rw [HQ.out], rfl⟩
      | false =>
        have HQ : Hid ((kp K (q + 1)).length = (kp K q).length + 1) := by show _ = _; rw [kp_plain K q (by rw [← hx]; exact hlk)]; simp
        clear hx hc ha
        go_wp2_with (go_at_call 6; refine (isLock_any _ _).mono ?_; rintro e w' ⟨rfl, hw⟩; obtain rfl := hw.symm; clear hw)
        go_roundg (n - (q + 1))
        case measure => omega
        case rel => exact ⟨q + 1, by omega, rfl, by go_num, by rw [HQ.out]; go_num, rfl⟩
    · obtain rfl : q = n := by omega
      clear hc ha
      go_wp2
      exact ⟨⟨rfl, rfl, ⟨rfl, rfl, rfl, rfl, rfl, rfl, rfl, rfl, rfl, rfl, rfl, rfl, trivial⟩⟩, rfl⟩

end Go.Proofs.Qxb6619397a
