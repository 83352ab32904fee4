/-
  The law, the kept transactions.
-/
import Derived.Test.Qxb6619397aFr
import Derived.Test.Qxb6619397aS17
import Derived.Test.Qxb6619397aZZ
namespace Go.Proofs.Qxb6619397a
open Go.RowKit
set_option linter.unusedVariables false

def KR (U : Nat → Bool) (t : Nat) : List Value := (ks U t).map fun (s : Nat) => Value.int .i64 (s : Int)
theorem KR_len (U : Nat → Bool) (t : Nat) : (KR U t).length = (ks U t).length := by simp [KR]

def I19 (l : List (Nat × Value)) (K X : List Int) (n m gu : Nat) (ws w : World) (a' : Act) (w' : World) : Prop :=
  Fr a' (l ++ [(33, .slice (some ⟨w.heap.size, 0, none⟩) 0 m)]) ∧ H w' gu (UB K X m n) 4 ∧ RowL w' w.heap.size 3 m [] ∧ Below ws.heap.size ws w'

set_option maxHeartbeats 4000000 in
set_option maxRecDepth 100000 in
theorem st19 {w0 : World} {ko tq xo io ao : Option Addr} {n kc m mc xc jc an ac : Nat} {items : Int} {v19 v20 v21 v22 v24 : Value} {lft : Int} {K X : List Int} {gu : Nat} {ws : World} (a : Act) (w : World) (hb : Below w0.heap.size w0 w) (hF : Fr a [(0, .slice ko n kc), (1, .slice tq m mc), (2, .slice xo n xc), (3, .slice io n jc), (4, .int .i64 items), (5, .slice ao an ac), (19, v19), (20, v20), (21, v21), (22, v22), (24, v24), (26, .int .i64 lft), (31, .slice (some ⟨gu, 0, none⟩) m m)]) (h2 : m ≤ 65536) (hH : H w gu (UB K X m n) 4) (hbs : Below ws.heap.size ws w)
    (K' : Act → World → Prop) (hK' : ∀ a' w', (I19 [(0, .slice ko n kc), (1, .slice tq m mc), (2, .slice xo n xc), (3, .slice io n jc), (4, .int .i64 items), (5, .slice ao an ac), (19, v19), (20, v20), (21, v21), (22, v22), (24, v24), (26, .int .i64 lft), (31, .slice (some ⟨gu, 0, none⟩) m m)] K X n m gu ws w) a' w' → K' a' w') : (S (Try.f3.body.getD .skip) 19).wp Try.prog (Exit.then K' (bodyPost Try.prog Try.f3 (Good w0))) a w := by
  obtain ⟨f, rfl, hf⟩ := hF.opened
  have g0 : f 0 = .slice ko n kc := hf (0, .slice ko n kc) (by simp)
  have g1 : f 1 = .slice tq m mc := hf (1, .slice tq m mc) (by simp)
  have g2 : f 2 = .slice xo n xc := hf (2, .slice xo n xc) (by simp)
  have g3 : f 3 = .slice io n jc := hf (3, .slice io n jc) (by simp)
  have g4 : f 4 = .int .i64 items := hf (4, .int .i64 items) (by simp)
  have g5 : f 5 = .slice ao an ac := hf (5, .slice ao an ac) (by simp)
  have g6 : f 19 = v19 := hf (19, v19) (by simp)
  have g7 : f 20 = v20 := hf (20, v20) (by simp)
  have g8 : f 21 = v21 := hf (21, v21) (by simp)
  have g9 : f 22 = v22 := hf (22, v22) (by simp)
  have g10 : f 24 = v24 := hf (24, v24) (by simp)
  have g11 : f 26 = .int .i64 lft := hf (26, .int .i64 lft) (by simp)
  have g12 : f 31 = .slice (some ⟨gu, 0, none⟩) m m := hf (31, .slice (some ⟨gu, 0, none⟩) m m) (by simp)
  clear hf hF
  rw [lit]
  simp only [g0, g1, g2, g3, g4, g5, g6, g7, g8, g9, g10, g11, g12]
  clear g0 g1 g2 g3 g4 g5 g6 g7 g8 g9 g10 g11 g12
  conv => arg 2; whnf
  obtain ⟨Z, hZ, hmk⟩ := mk_rows 24 3 (.int .i64 0) 8 m 0 Try.underlying24 Try.info3 rfl (by omega) (by omega) (by omega)
  have HH : Hid (∀ W : World, RowL (W.alloc (.cells Z.toArray 3)) W.heap.size 3 m []) := fun W => ⟨Z, H.new W Z 3, by rw [hZ]; simp, rfl⟩
  simp only [Int.natCast_zero] at hmk
  clear hZ
  go_wp2
  exact ⟨⟨rfl, rfl, ⟨rfl, rfl, rfl, rfl, rfl, rfl, rfl, rfl, rfl, rfl, rfl, rfl, rfl, rfl, trivial⟩⟩, hH.alloc _, HH.out w, hbs.alloc hbs.size _⟩

def I20 (l : List (Nat × Value)) (K X : List Int) (n m gk : Nat) (ws : World) (a' : Act) (w' : World) : Prop :=
  Fr a' (l ++ [(33, .slice (some ⟨gk, 0, none⟩) (ks (usedB K X n) m).length m)]) ∧ Row w' (some ⟨gk, 0, none⟩) (KR (usedB K X n) m) ∧ Below ws.heap.size ws w'

set_option maxHeartbeats 4000000 in
set_option maxRecDepth 100000 in
theorem st20 {w0 : World} {ko tq xo io ao : Option Addr} {n kc m mc xc jc an ac : Nat} {items : Int} {v19 v20 v21 v22 v24 : Value} {lft : Int} {K X : List Int} {gu : Nat} {ws : World} {gk : Nat} (a : Act) (w : World) (hb : Below w0.heap.size w0 w) (hF : Fr a [(0, .slice ko n kc), (1, .slice tq m mc), (2, .slice xo n xc), (3, .slice io n jc), (4, .int .i64 items), (5, .slice ao an ac), (19, v19), (20, v20), (21, v21), (22, v22), (24, v24), (26, .int .i64 lft), (31, .slice (some ⟨gu, 0, none⟩) m m), (33, .slice (some ⟨gk, 0, none⟩) 0 m)]) (h2 : m ≤ 65536) (hgk : ws.heap.size ≤ gk) (hne : gu ≠ gk) (hH : H w gu (UB K X m n) 4) (hR : RowL w gk 3 m []) (hbs : Below ws.heap.size ws w)
    (K' : Act → World → Prop) (hK' : ∀ a' w', (I20 [(0, .slice ko n kc), (1, .slice tq m mc), (2, .slice xo n xc), (3, .slice io n jc), (4, .int .i64 items), (5, .slice ao an ac), (19, v19), (20, v20), (21, v21), (22, v22), (24, v24), (26, .int .i64 lft)] K X n m gk ws) a' w' → K' a' w') : (S (Try.f3.body.getD .skip) 20).wp Try.prog (Exit.then K' (bodyPost Try.prog Try.f3 (Good w0))) a w := by
  obtain ⟨f, rfl, hf⟩ := hF.opened
  have g0 : f 0 = .slice ko n kc := hf (0, .slice ko n kc) (by simp)
  have g1 : f 1 = .slice tq m mc := hf (1, .slice tq m mc) (by simp)
  have g2 : f 2 = .slice xo n xc := hf (2, .slice xo n xc) (by simp)
  have g3 : f 3 = .slice io n jc := hf (3, .slice io n jc) (by simp)
  have g4 : f 4 = .int .i64 items := hf (4, .int .i64 items) (by simp)
  have g5 : f 5 = .slice ao an ac := hf (5, .slice ao an ac) (by simp)
  have g6 : f 19 = v19 := hf (19, v19) (by simp)
  have g7 : f 20 = v20 := hf (20, v20) (by simp)
  have g8 : f 21 = v21 := hf (21, v21) (by simp)
  have g9 : f 22 = v22 := hf (22, v22) (by simp)
  have g10 : f 24 = v24 := hf (24, v24) (by simp)
  have g11 : f 26 = .int .i64 lft := hf (26, .int .i64 lft) (by simp)
  have g12 : f 31 = .slice (some ⟨gu, 0, none⟩) m m := hf (31, .slice (some ⟨gu, 0, none⟩) m m) (by simp)
  have g13 : f 33 = .slice (some ⟨gk, 0, none⟩) 0 m := hf (33, .slice (some ⟨gk, 0, none⟩) 0 m) (by simp)
  clear hf hF
  rw [lit]
  simp only [g0, g1, g2, g3, g4, g5, g6, g7, g8, g9, g10, g11, g12, g13]
  clear g0 g1 g2 g3 g4 g5 g6 g7 g8 g9 g10 g11 g12 g13
  conv => arg 2; whnf
  obtain ⟨i3, hi3, _, hz3, _⟩ := info_parts Try.info3
  generalize hU : usedB K X n = U at *
  have HU : Hid (∀ t, t < m → (UB K X m n)[t]? = some (.bool (U t))) := fun t ht => by
    simp [UB, ht, hU]
  generalize UB K X m n = UBm at *
  have HS : Hid (H w gu UBm 4 ∧ RowL w gk 3 m (KR U 0) ∧ Below ws.heap.size ws w) := ⟨hH, hR, hbs⟩
  have hks0 : (ks U 0).length = 0 := rfl
  have HUq : Hid (usedB K X n = U) := hU
  clear hH hR hbs hU
  go_wp2
  go_loopg [33, 34] m (fun d sk si wr => ∃ (t : Nat), t ≤ m ∧ d = m - t ∧ si = .int .i64 t ∧ sk = .slice (some ⟨gk, 0, none⟩) (ks U t).length m ∧ Hid (H wr gu UBm 4 ∧ RowL wr gk 3 m (KR U t) ∧ Below ws.heap.size ws wr))
  case atStart => exact ⟨0, Nat.zero_le _, rfl, rfl, rfl, HS⟩
  case round =>
    obtain ⟨t, ht, rfl, rfl, rfl, hst⟩ := hrel
    clear HS hks0
    have hkl := ks_le U t
    by_cases hlt : t < m
    · have hcx : wr.cell? ⟨gu, t, none⟩ = some (.bool (U t)) := by rw [hst.out.1.cell]; exact HU.out t hlt
      cases hut : U t with
      | false =>
        rw [hut] at hcx
        have HE : Hid (ks U (t + 1) = ks U t) := ks_no U t hut
        clear hut HU
        go_wp2
        go_roundg (m - (t + 1))
        case measure => omega
        case rel => exact ⟨t + 1, by omega, rfl, by go_num, by rw [HE.out], by have := hst.out; unfold KR at *; rw [HE.out]; exact this⟩
      | true =>
        rw [hut] at hcx
        have HE : Hid (ks U (t + 1) = ks U t ++ [t]) := ks_yes U t hut
        clear hut HU
        generalize hj2 : (ks U t).length = j at *
        have HJ : Hid (j = (ks U t).length) := hj2.symm
        clear hj2
        have z2 : gk < wr.heap.size := hst.out.2.1.lt
        have k1 : (wr.cell? ⟨gk, j, none⟩).isSome = true := by have := hst.out.2.1.room (by rw [KR_len, ← HJ.out]; omega); rw [KR_len, ← HJ.out] at this; exact this
        have kf := hst.out.2.1.frozen j
        have hbw : ws.heap.size ≤ wr.heap.size := hst.out.2.2.size
        go_wp2_with (at_builtin; refine wpList_append_one rfl (.tmp 363) (.tmp 365) 24 rfl 3 i3 Try.underlying24 hi3 hz3 gk j m rfl ⟨wr.heap.size, 0, none⟩ 1 (.int .i64 (t : Int)) rfl ?s1 rfl (by omega) ?s2 ?s3 ?_)
        case s1 => simp
        case s2 => rw [World.cell?_alloc_lt wr _ ⟨gk, j, none⟩ z2]; exact k1
        case s3 => rw [World.frozen?_alloc_past _ z2]; exact kf
        go_roundg (m - (t + 1))
        case measure => omega
        case rel =>
          have hp := hst.out.2.1.push (by rw [KR_len, ← HJ.out]; omega) (.int .i64 (t : Int))
          rw [KR_len, ← HJ.out] at hp
          refine ⟨t + 1, by omega, rfl, by go_num, by rw [HE.out, HJ.out]; simp, ?_⟩
          refine ⟨(hst.out.1.other hne _ _).alloc _, ?_, (hst.out.2.2.setCell hgk _).alloc (by simp; omega) _⟩
          unfold KR at *
          rw [HE.out]
          have hp2 := hp.alloc (.cells #[.int .i64 (t : Int)] 3)
          simpa using hp2
    · obtain rfl : t = m := by omega
      go_wp2
      have e := HUq.out
      clear HUq
      subst e
      exact ⟨⟨rfl, rfl, ⟨rfl, rfl, rfl, rfl, rfl, rfl, rfl, rfl, rfl, rfl, rfl, rfl, rfl, trivial⟩⟩, hst.out.2.1.row, hst.out.2.2⟩

end Go.Proofs.Qxb6619397a
