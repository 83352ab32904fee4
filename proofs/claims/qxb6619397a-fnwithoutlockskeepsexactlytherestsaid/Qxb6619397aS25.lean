/-
  The law, the loop over the operations.
-/
import Derived.Test.Qxb6619397aFr
import Derived.Test.Qxb6619397aS22
import Derived.Test.Qxb6619397aZZ
namespace Go.Proofs.Qxb6619397a
open Go.RowKit
set_option linter.unusedVariables false

theorem kp_at (K : List Int) (q : Nat) (h : lockB (K.getD q 0) = false) : ∀ n, q < n → (kp K n)[(kp K q).length]? = some q
  | 0, hn => by omega
  | n + 1, hn => by
    by_cases e : q = n
    · subst e
      rw [kp_plain K q h]
      simp
    · have ih := kp_at K q h n (by omega)
      cases hl : lockB (K.getD n 0) with
      | true => rw [kp_lock K n hl]; exact ih
      | false =>
        rw [kp_plain K n hl, List.getElem?_append_left (List.getElem?_eq_some_iff.1 ih).1]
        exact ih
theorem ks_at (U : Nat → Bool) (q : Nat) (h : U q = true) : ∀ n, q < n → (ks U n)[(ks U q).length]? = some q
  | 0, hn => by omega
  | n + 1, hn => by
    by_cases e : q = n
    · subst e
      rw [ks_yes U q h]
      simp
    · have ih := ks_at U q h n (by omega)
      cases hl : U n with
      | false => rw [ks_no U n hl]; exact ih
      | true =>
        rw [ks_yes U n hl, List.getElem?_append_left (List.getElem?_eq_some_iff.1 ih).1]
        exact ih

/-- The facts of one operation that is no lock. -/
def Op1 (wr : World) (ao : Option Addr) (an q j r R : Nat) (zk zt zi za gk bi oi bx ox : Nat) (z pq : Int) (y : Nat) (x : Int) : Prop :=
  wr.cell? ⟨zk, j, none⟩ = some (.int .u8 x) ∧ wr.cell? ⟨zi, j, none⟩ = some (.int .i64 z) ∧ wr.cell? ⟨bi, oi + q, none⟩ = some (.int .i64 z) ∧ wr.cell? ⟨za, j, none⟩ = some (.int .i64 pq) ∧
  wr.cell? ⟨zt, j, none⟩ = some (.int .i64 (r : Int)) ∧ wr.cell? ⟨gk, r, none⟩ = some (.int .i64 (y : Int)) ∧ wr.cell? ⟨bx, ox + q, none⟩ = some (.int .i64 (y : Int)) ∧ r < R ∧
  (ao = none ∧ pq = (q : Int) ∨ ∃ b o, ao = some ⟨b, o, none⟩ ∧ q < an ∧ wr.cell? ⟨b, o + q, none⟩ = some (.int .i64 pq))

theorem row_cell {w wr : World} {g : Nat} {l : List Nat} {F : Nat → Value} {i s : Nat} (h : Row w (some ⟨g, 0, none⟩) (l.map F)) (hb : Below w.heap.size w wr) (hs : l[i]? = some s) : wr.cell? ⟨g, i, none⟩ = some (F s) := by
  obtain ⟨b, o, ha, hc⟩ := h.parts
  have hi := (List.getElem?_eq_some_iff.1 hs).1
  have e := ha (by simp; omega)
  cases e
  have := cell_later hb (hc i (F s) (by rw [List.getElem?_map, hs]; rfl))
  rw [Nat.zero_add] at this
  exact this

set_option maxHeartbeats 4000000 in
set_option maxRecDepth 100000 in
theorem st25 {w0 : World} {ko tq xo io ao tt : Option Addr} {n kc m mc xc jc an ac zk zt zi za gk L R tc : Nat} {items : Int} {K X I : List Int} {pos : Nat → Int} (a : Act) (w : World) (hb : Below w0.heap.size w0 w) (hF : Fr a [(0, .slice ko n kc), (1, .slice tq m mc), (2, .slice xo n xc), (3, .slice io n jc), (4, .int .i64 items), (5, .slice ao an ac), (19, .slice (some ⟨zk, 0, none⟩) L L), (20, .slice tt R tc), (21, .slice (some ⟨zt, 0, none⟩) L L), (22, .slice (some ⟨zi, 0, none⟩) L L), (24, .slice (some ⟨za, 0, none⟩) L L), (26, .int .i64 (L : Int)), (33, .slice (some ⟨gk, 0, none⟩) R m), (36, .int .i64 0)]) (hlK : K.length = n) (hlX : X.length = n) (hlI : I.length = n) (h1 : n ≤ 65536) (h2 : m ≤ 65536) (hL : (kp K n).length = L) (hLR : (ks (usedB K X n) m).length = R) (hin : ∀ q, q < n → lockB (K.getD q 0) = false → ∃ x : Nat, X.getD q 0 = (x : Int) ∧ x < m) (hK : Row w ko (K.map (Value.int .u8))) (hX : Row w xo (X.map (Value.int .i64))) (hI : Row w io (I.map (Value.int .i64))) (hA : AtOK w (.slice ao an ac) n pos) (hZk : Row w (some ⟨zk, 0, none⟩) (LK K n)) (hZt : Row w (some ⟨zt, 0, none⟩) ((kp K n).map (gU (usedB K X n) X))) (hZi : Row w (some ⟨zi, 0, none⟩) (LX K I n)) (hZa : Row w (some ⟨za, 0, none⟩) (LP K pos n)) (hKR : Row w (some ⟨gk, 0, none⟩) (KR (usedB K X n) m))
    (K' : Act → World → Prop) (hK' : ∀ a' w', (IB [] w) a' w' → K' a' w') : (S (Try.f3.body.getD .skip) 25).wp Try.prog (Exit.then K' (bodyPost Try.prog Try.f3 (Good w0))) a w := by
  obtain ⟨f, rfl, hf⟩ := hF.opened
  have g0 : f 0 = .slice ko n kc := hf (0, .slice ko n kc) (by simp)
  have g1 : f 1 = .slice tq m mc := hf (1, .slice tq m mc) (by simp)
  have g2 : f 2 = .slice xo n xc := hf (2, .slice xo n xc) (by simp)
  have g3 : f 3 = .slice io n jc := hf (3, .slice io n jc) (by simp)
  have g4 : f 4 = .int .i64 items := hf (4, .int .i64 items) (by simp)
  have g5 : f 5 = .slice ao an ac := hf (5, .slice ao an ac) (by simp)
  have g6 : f 19 = .slice (some ⟨zk, 0, none⟩) L L := hf (19, .slice (some ⟨zk, 0, none⟩) L L) (by simp)
  have g7 : f 20 = .slice tt R tc := hf (20, .slice tt R tc) (by simp)
  have g8 : f 21 = .slice (some ⟨zt, 0, none⟩) L L := hf (21, .slice (some ⟨zt, 0, none⟩) L L) (by simp)
  have g9 : f 22 = .slice (some ⟨zi, 0, none⟩) L L := hf (22, .slice (some ⟨zi, 0, none⟩) L L) (by simp)
  have g10 : f 24 = .slice (some ⟨za, 0, none⟩) L L := hf (24, .slice (some ⟨za, 0, none⟩) L L) (by simp)
  have g11 : f 26 = .int .i64 (L : Int) := hf (26, .int .i64 (L : Int)) (by simp)
  have g12 : f 33 = .slice (some ⟨gk, 0, none⟩) R m := hf (33, .slice (some ⟨gk, 0, none⟩) R m) (by simp)
  have g13 : f 36 = .int .i64 0 := hf (36, .int .i64 0) (by simp)
  clear hf hF
  rw [lit]
  simp only [g0, g1, g2, g3, g4, g5, g6, g7, g8, g9, g10, g11, g12, g13]
  clear g0 g1 g2 g3 g4 g5 g6 g7 g8 g9 g10 g11 g12 g13
  conv => arg 2; whnf
  obtain ⟨b, o, ha, hc⟩ := hK.parts
  obtain ⟨bx, ox, hax, hcx⟩ := hX.parts
  obtain ⟨bi, oi, hai, hci⟩ := hI.parts
  have hne := fun W => run_neq_slice_nil_any (P := Try.prog) W 24 3 ao an ac 0 0 Try.underlying24
  have hLn : L ≤ n := by rw [← hL]; exact kp_le K n
  have hRm : R ≤ m := by rw [← hLR]; exact ks_le _ m
  have HO : Hid (∀ (wr : World) (q : Nat), Below w.heap.size w wr → q < n → lockB (K.getD q 0) = false → (kp K q).length < L ∧ ∃ (r y : Nat) (z pq : Int), Op1 wr ao an q (kp K q).length r R zk zt zi za gk bi oi bx ox z pq y (K.getD q 0)) := by
    intro wr q hB hq hl
    obtain ⟨y, hy, hym⟩ := hin q hq hl
    have hkq := kp_at K q hl n hq
    have hU : usedB K X n y = true := usedB_of K X n q y ((kp_mem K n q).2 ⟨hq, hl⟩) hy
    have hks := ks_at (usedB K X n) y hU m hym
    refine ⟨by rw [← hL]; exact (List.getElem?_eq_some_iff.1 hkq).1, (ks (usedB K X n) y).length, y, I.getD q 0, pos q, ?_, ?_, ?_, ?_, ?_, ?_, ?_, ?_, ?_⟩
    · exact row_cell hZk hB hkq
    · exact row_cell hZi hB hkq
    · exact cell_later hB (hci q _ (map_at _ I 0 q (by omega)))
    · exact row_cell hZa hB hkq
    · have := row_cell hZt hB hkq
      unfold gU at this
      rw [hy, Int.toNat_natCast] at this
      exact this
    · exact row_cell hKR hB hks
    · rw [← hy]; exact cell_later hB (hcx q _ (map_at _ X 0 q (by omega)))
    · rw [← hLR]; exact (List.getElem?_eq_some_iff.1 hks).1
    · rcases hA with ⟨e, rfl⟩ | ⟨b', o', c', A, e, hAl, hAr, rfl⟩
      · cases e
        exact .inl ⟨rfl, rfl⟩
      · cases e
        obtain ⟨b4, o4, ha4, hc4⟩ := hAr.parts
        have e4 := ha4 (by simp; omega)
        cases e4
        exact .inr ⟨_, _, rfl, hq, cell_later hB (hc4 q _ (map_at _ A 0 q (by omega)))⟩
  clear hK hX hI hcx hci hL hLR hin hA hZk hZt hZi hZa hKR
  go_wp2
  go_loopg [36, 37] n (fun d sp si wr => ∃ (q : Nat), q ≤ n ∧ d = n - q ∧ si = .int .i64 q ∧ sp = .int .i64 ((kp K q).length : Int) ∧ Hid (Below w.heap.size w wr))
  case atStart => exact ⟨0, Nat.zero_le _, rfl, rfl, rfl, Below.refl _ _⟩
  case round =>
    obtain ⟨q, hq, rfl, rfl, rfl, hst⟩ := hrel
    have hql := kp_le K q
    by_cases hlt : q < n
    · obtain rfl : ko = some ⟨b, o, none⟩ := ha (by simp; omega)
      obtain ⟨x, hx⟩ : ∃ x, x = K.getD q 0 := ⟨_, rfl⟩
      have c0 : wr.cell? ⟨b, o + q, none⟩ = some (.int .u8 x) := by rw [hx]; exact cell_later hst.out (hc q _ (map_at _ K 0 q (by omega)))
      cases hlk : lockB x with
      | true =>
        have HQ : Hid ((kp K (q + 1)).length = (kp K q).length) := by show _ = _; rw [kp_lock K q (by rw [← hx]; exact hlk)]
        clear hx hc ha hax hai HO
        go_wp2_with (go_at_call 6; refine (isLock_any _ _).mono ?_; rintro e w' ⟨rfl, hw⟩; obtain rfl := hw.symm; clear hw)
        go_roundg (n - (q + 1))
        case measure => omega
        case rel => exact ⟨q + 1, by omega, rfl, by go_num, by rw [HQ.out], hst⟩
      | false =>
        have HQ : Hid ((kp K (q + 1)).length = (kp K q).length + 1) := by show _ = _; rw [kp_plain K q (by rw [← hx]; exact hlk)]; simp
        obtain rfl : xo = some ⟨bx, ox, none⟩ := hax (by simp; omega)
        obtain rfl : io = some ⟨bi, oi, none⟩ := hai (by simp; omega)
        obtain ⟨hj, r, y, z, pq, ho⟩ := HO.out wr q hst.out hlt (by rw [← hx]; exact hlk)
        rw [← hx] at ho
        clear hx hc ha hax hai HO
        generalize hj2 : (kp K q).length = j at *
        have HJ : Hid ((kp K q).length = j) := hj2
        clear hj2
        obtain ⟨c1, c2, c3, c4, c5, c6, c7, hrR, hat⟩ := ho
        have jL : (j : Int) < (L : Int) := by omega
        have rR : (r : Int) < (R : Int) := by omega
        rcases hat with ⟨rfl, rfl⟩ | ⟨b4, o4, rfl, hqa, c8⟩
        · go_wp2_with (go_at_call 6; refine (isLock_any _ _).mono ?_; rintro e w' ⟨rfl, hw⟩; obtain rfl := hw.symm; clear hw)
          go_quiet (fail)
          go_wp2
          go_quiet (fail)
          go_wp2
          go_roundg (n - (q + 1))
          case measure => omega
          case rel => exact ⟨q + 1, by omega, rfl, by go_num, by rw [HQ.out]; go_num, below_drewN hst.out _⟩
        · go_wp2_with (go_at_call 6; refine (isLock_any _ _).mono ?_; rintro e w' ⟨rfl, hw⟩; obtain rfl := hw.symm; clear hw)
          go_quiet (fail)
          go_wp2
          go_quiet (fail)
          go_wp2
          go_roundg (n - (q + 1))
          case measure => omega
          case rel => exact ⟨q + 1, by omega, rfl, by go_num, by rw [HQ.out]; go_num, below_drewN hst.out _⟩
    · obtain rfl : q = n := by omega
      clear hc ha hax hai
      go_wp2
      exact ⟨⟨rfl, rfl, trivial⟩, hst.out⟩

end Go.Proofs.Qxb6619397a
