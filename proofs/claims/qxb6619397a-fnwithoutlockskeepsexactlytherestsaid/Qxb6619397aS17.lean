/-
  The law, the row of marks.
-/
import Derived.Test.Qxb6619397aFr
import Derived.Test.Qxb6619397aZZ
namespace Go.Proofs.Qxb6619397a
open Go.RowKit
set_option linter.unusedVariables false

def UB (K X : List Int) (m q : Nat) : List Value := (List.range m).map fun t => Value.bool (usedB K X q t)
theorem UB_zero (K X : List Int) (m : Nat) : UB K X m 0 = List.replicate m (.bool false) := by
  apply List.ext_getElem
  · simp [UB]
  · intro i h1 h2
    simp [UB, usedB, kp_zero]
theorem UB_step (K X : List Int) (m q x : Nat) (hk : lockB (K.getD q 0) = false) (hx : X.getD q 0 = (x : Int)) (hxm : x < m) : (UB K X m q).set x (.bool true) = UB K X m (q + 1) := by
  apply List.ext_getElem
  · simp [UB]
  · intro i h1 h2
    rw [List.getElem_set]
    by_cases e : x = i
    · subst e
      simp [UB, usedB, kp_plain K q hk]
      right
      simpa using hx
    · rw [if_neg e]
      simp only [UB, List.getElem_map, List.getElem_range, usedB, kp_plain K q hk, List.any_append, List.any_cons, List.any_nil, Bool.or_false]
      have : (X.getD q 0 == (i : Int)) = false := by
        rw [hx]
        simp
        omega
      rw [this, Bool.or_false]

def I17 (l : List (Nat × Value)) (K X : List Int) (m : Nat) (w : World) (a' : Act) (w' : World) : Prop :=
  Fr a' (l ++ [(31, .slice (some ⟨w.heap.size, 0, none⟩) m m)]) ∧ H w' w.heap.size (UB K X m 0) 4 ∧ Below w.heap.size w w'

set_option maxHeartbeats 4000000 in
set_option maxRecDepth 100000 in
theorem st17 {w0 : World} {ko tq xo io ao : Option Addr} {n kc m mc xc jc an ac : Nat} {items : Int} {v19 v20 v21 v22 v24 : Value} {lft : Int} {K X : List Int} (a : Act) (w : World) (hb : Below w0.heap.size w0 w) (hF : Fr a [(0, .slice ko n kc), (1, .slice tq m mc), (2, .slice xo n xc), (3, .slice io n jc), (4, .int .i64 items), (5, .slice ao an ac), (19, v19), (20, v20), (21, v21), (22, v22), (24, v24), (26, .int .i64 lft)]) (h2 : m ≤ 65536)
    (K' : Act → World → Prop) (hK' : ∀ a' w', (I17 [(0, .slice ko n kc), (1, .slice tq m mc), (2, .slice xo n xc), (3, .slice io n jc), (4, .int .i64 items), (5, .slice ao an ac), (19, v19), (20, v20), (21, v21), (22, v22), (24, v24), (26, .int .i64 lft)] K X m w) a' w' → K' a' w') : (S (Try.f3.body.getD .skip) 17).wp Try.prog (Exit.then K' (bodyPost Try.prog Try.f3 (Good w0))) a w := by
  obtain ⟨f, rfl, hf⟩ := hF.opened
  have g0 : f 0 = .slice ko n kc := hf (0, .slice ko n kc) (by simp)
  have g1 : f 1 = .slice tq m mc := hf (1, .slice tq m mc) (by simp)
  have g2 : f 2 = .slice xo n xc := hf (2, .slice xo n xc) (by simp)
  have g3 : f 3 = .slice io n jc := hf (3, .slice io n jc) (by simp)
  have g4 : f 4 = .int .i64 items := hf (4, .int .i64 items) (by simp)
  have g5 : f 5 = .slice ao an ac := hf (5, .slice ao an ac) (by simp)
  have g6 : f 19 = v19 := hf (19, v19) (by simp)
  have g7 : f 20 = v20 := hf (20, v20) (by simp)
  have g8 : f 21 = v21 := hf (21, v21) (by simp)
  have g9 : f 22 = v22 := hf (22, v22) (by simp)
  have g10 : f 24 = v24 := hf (24, v24) (by simp)
  have g11 : f 26 = .int .i64 lft := hf (26, .int .i64 lft) (by simp)
  clear hf hF
  rw [lit]
  simp only [g0, g1, g2, g3, g4, g5, g6, g7, g8, g9, g10, g11]
  clear g0 g1 g2 g3 g4 g5 g6 g7 g8 g9 g10 g11
  conv => arg 2; whnf
  obtain ⟨Z, hZ, hmk⟩ := mk_rows 35 4 (.bool false) 1 m m Try.underlying35 Try.info4 rfl (by omega) (by omega) (by omega)
  have HH : Hid (∀ W : World, H (W.alloc (.cells Z.toArray 4)) W.heap.size (UB K X m 0) 4) := fun W => by rw [UB_zero, ← hZ]; exact H.new W Z 4
  clear hZ
  go_wp2
  exact ⟨⟨rfl, rfl, ⟨rfl, rfl, rfl, rfl, rfl, rfl, rfl, rfl, rfl, rfl, rfl, rfl, rfl, trivial⟩⟩, HH.out w, (Below.refl _ _).alloc (Nat.le_refl _) _⟩

def I18 (l : List (Nat × Value)) (K X : List Int) (n m gu : Nat) (ws : World) (a' : Act) (w' : World) : Prop :=
  Fr a' l ∧ H w' gu (UB K X m n) 4 ∧ Below ws.heap.size ws w'

set_option maxHeartbeats 4000000 in
set_option maxRecDepth 100000 in
theorem st18 {w0 : World} {ko tq xo io ao : Option Addr} {n kc m mc xc jc an ac : Nat} {items : Int} {v19 v20 v21 v22 v24 : Value} {lft : Int} {K X : List Int} {gu : Nat} {ws : World} (a : Act) (w : World) (hb : Below w0.heap.size w0 w) (hF : Fr a [(0, .slice ko n kc), (1, .slice tq m mc), (2, .slice xo n xc), (3, .slice io n jc), (4, .int .i64 items), (5, .slice ao an ac), (19, v19), (20, v20), (21, v21), (22, v22), (24, v24), (26, .int .i64 lft), (31, .slice (some ⟨gu, 0, none⟩) m m)]) (hlK : K.length = n) (hlX : X.length = n) (h1 : n ≤ 65536) (h2 : m ≤ 65536) (hK : Row ws ko (K.map (Value.int .u8))) (hX : Row ws xo (X.map (Value.int .i64))) (hin : ∀ q, q < n → lockB (K.getD q 0) = false → ∃ x : Nat, X.getD q 0 = (x : Int) ∧ x < m) (hgu : ws.heap.size ≤ gu) (hH : H w gu (UB K X m 0) 4) (hbs : Below ws.heap.size ws w)
    (K' : Act → World → Prop) (hK' : ∀ a' w', (I18 [(0, .slice ko n kc), (1, .slice tq m mc), (2, .slice xo n xc), (3, .slice io n jc), (4, .int .i64 items), (5, .slice ao an ac), (19, v19), (20, v20), (21, v21), (22, v22), (24, v24), (26, .int .i64 lft), (31, .slice (some ⟨gu, 0, none⟩) m m)] K X n m gu ws) a' w' → K' a' w') : (S (Try.f3.body.getD .skip) 18).wp Try.prog (Exit.then K' (bodyPost Try.prog Try.f3 (Good w0))) a w := by
  obtain ⟨f, rfl, hf⟩ := hF.opened
  have g0 : f 0 = .slice ko n kc := hf (0, .slice ko n kc) (by simp)
  have g1 : f 1 = .slice tq m mc := hf (1, .slice tq m mc) (by simp)
  have g2 : f 2 = .slice xo n xc := hf (2, .slice xo n xc) (by simp)
  have g3 : f 3 = .slice io n jc := hf (3, .slice io n jc) (by simp)
  have g4 : f 4 = .int .i64 items := hf (4, .int .i64 items) (by simp)
  have g5 : f 5 = .slice ao an ac := hf (5, .slice ao an ac) (by simp)
  have g6 : f 19 = v19 := hf (19, v19) (by simp)
  have g7 : f 20 = v20 := hf (20, v20) (by simp)
  have g8 : f 21 = v21 := hf (21, v21) (by simp)
  have g9 : f 22 = v22 := hf (22, v22) (by simp)
  have g10 : f 24 = v24 := hf (24, v24) (by simp)
  have g11 : f 26 = .int .i64 lft := hf (26, .int .i64 lft) (by simp)
  have g12 : f 31 = .slice (some ⟨gu, 0, none⟩) m m := hf (31, .slice (some ⟨gu, 0, none⟩) m m) (by simp)
  clear hf hF
  rw [lit]
  simp only [g0, g1, g2, g3, g4, g5, g6, g7, g8, g9, g10, g11, g12]
  clear g0 g1 g2 g3 g4 g5 g6 g7 g8 g9 g10 g11 g12
  conv => arg 2; whnf
  obtain ⟨b, o, ha, hc⟩ := hK.parts
  obtain ⟨b2, o2, ha2, hc2⟩ := hX.parts
  have HIn : Hid (∀ q, q < n → lockB (K.getD q 0) = false → ∃ x : Nat, X.getD q 0 = (x : Int) ∧ x < m) := hin
  have HS : Hid (H w gu (UB K X m 0) 4 ∧ Below ws.heap.size ws w) := ⟨hH, hbs⟩
  clear hK hX hin hH hbs
  go_wp2
  go_loopg [32] n (fun d si wr => ∃ (q : Nat), q ≤ n ∧ d = n - q ∧ si = .int .i64 q ∧ Hid (H wr gu (UB K X m q) 4 ∧ Below ws.heap.size ws wr))
  case atStart => exact ⟨0, Nat.zero_le _, rfl, rfl, HS⟩
  case round =>
    obtain ⟨q, hq, rfl, rfl, hst⟩ := hrel
    clear HS
    by_cases hlt : q < n
    · obtain rfl : ko = some ⟨b, o, none⟩ := ha (by simp; omega)
      obtain rfl : xo = some ⟨b2, o2, none⟩ := ha2 (by simp; omega)
      obtain ⟨x, hx⟩ : ∃ x, x = K.getD q 0 := ⟨_, rfl⟩
      have hcx : wr.cell? ⟨b, o + q, none⟩ = some (.int .u8 x) := by rw [hx]; exact cell_later hst.out.2 (hc q _ (map_at _ K 0 q (by omega)))
      cases hlk : lockB x with
      | true =>
        have HN : Hid (H wr gu (UB K X m (q + 1)) 4 ∧ Below ws.heap.size ws wr) := by
          have := hst.out
          unfold UB usedB at *
          rw [kp_lock K q (by rw [← hx]; exact hlk)]
          exact this
        clear hx hc ha hst hc2 ha2
        go_wp2_with (go_at_call 6; refine (isLock_any _ _).mono ?_; rintro e w' ⟨rfl, hw⟩; obtain rfl := hw.symm; clear hw)
        go_roundg (n - (q + 1))
        case measure => omega
        case rel => exact ⟨q + 1, by omega, rfl, by go_num, HN⟩
      | false =>
        obtain ⟨y, hy, hym⟩ := HIn.out q hlt (by rw [← hx]; exact hlk)
        have hcy : wr.cell? ⟨b2, o2 + q, none⟩ = some (.int .i64 (y : Int)) := by rw [← hy]; exact cell_later hst.out.2 (hc2 q _ (map_at _ X 0 q (by omega)))
        have hfz := hst.out.1.frozen y
        have hsm : ∃ v, wr.cell? ⟨gu, y, none⟩ = some v := ⟨_, by rw [hst.out.1.cell, List.getElem?_eq_getElem (by simp [UB]; exact hym)]⟩
        obtain ⟨v, hv⟩ := hsm
        have HN : Hid (H (wr.setCell ⟨gu, y, none⟩ (.bool true)) gu (UB K X m (q + 1)) 4 ∧ Below ws.heap.size ws (wr.setCell ⟨gu, y, none⟩ (.bool true))) := by
          refine ⟨?_, hst.out.2.setCell hgu _⟩
          rw [← UB_step K X m q y (by rw [← hx]; exact hlk) hy hym]
          exact hst.out.1.set y _
        clear hx hc ha hst hc2 ha2 hy HIn
        go_wp2_with (go_at_call 6; refine (isLock_any _ _).mono ?_; rintro e w' ⟨rfl, hw⟩; obtain rfl := hw.symm; clear hw)
        go_roundg (n - (q + 1))
        case measure => omega
        case rel => exact ⟨q + 1, by omega, rfl, by go_num, HN⟩
    · obtain rfl : q = n := by omega
      clear hc ha hc2 ha2
      go_wp2
      exact ⟨⟨rfl, rfl, ⟨rfl, rfl, rfl, rfl, rfl, rfl, rfl, rfl, rfl, rfl, rfl, rfl, rfl, trivial⟩⟩, hst.out⟩

end Go.Proofs.Qxb6619397a
