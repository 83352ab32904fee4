/-
  ZZWithoutLocks.
-/
import Derived.Test.Qxb6619397aWL
import Derived.BigQuiet
import Derived.Deep.QuietTactic
namespace Go.Proofs.Qxb6619397a
open Go.RowKit
set_option linter.unusedVariables false

set_option maxHeartbeats 4000000 in
set_option maxRecDepth 100000 in
theorem zz_none (n kc : Nat) (ko : Option Addr) (K : List Int) (to' xo jo ao : Option Addr) (m mc xn xc jn jc an ac : Nat) (items : Int) (w : World) (hl : K.length = n) (hn : n ≤ 65536) (hK : Row w ko (K.map (Value.int .u8)))
    (hall : (kp K n).length = n) :
    Calls Try.prog 7 #[.slice ko n kc, .slice to' m mc, .slice xo xn xc, .slice jo jn jc, .int .i64 items, .slice ao an ac] w fun e w' =>
      e = .returned (.tuple #[.slice ko n kc, .slice to' m mc, .slice xo xn xc, .slice jo jn jc, .int .i64 items, .slice ao an ac, .bool true]) ∧ Below w.heap.size w w' := by
  have hbel : Below w.heap.size w (w.alloc (.cells #[.slice ko n kc, .slice to' m mc, .slice xo xn xc, .slice jo jn jc, .int .i64 items, .slice ao an ac] 39)) := (Below.refl _ _).alloc (Nat.le_refl _) _
  have H11 : Hid (Calls Try.prog 11 #[.pointer (some ⟨w.heap.size, 0, none⟩)] (w.alloc (.cells #[.slice ko n kc, .slice to' m mc, .slice xo xn xc, .slice jo jn jc, .int .i64 items, .slice ao an ac] 39)) fun e w' => e = .returned (.pointer (some ⟨w.heap.size, 0, none⟩)) ∧ w' = (w.alloc (.cells #[.slice ko n kc, .slice to' m mc, .slice xo xn xc, .slice jo jn jc, .int .i64 items, .slice ao an ac] 39))) :=
    wl_none w.heap.size n kc ko K (.slice to' m mc) (.slice xo xn xc) (.slice jo jn jc) (.slice ao an ac) items _ ⟨by simp, by simp, by simp, by simp, by simp, by simp⟩ hl hn (hK.later hbel) hall
  go_enter Try.func7, Try.ntmps7
  go_wp2_with fail
  refine H11.out.mono ?_
  rintro e w1 ⟨rfl, rfl⟩
  clear H11 hK
  go_wp2
  go_quiet (fail)
  go_wp2
  exact bodyPost_ret (v := .tuple #[.slice ko n kc, .slice to' m mc, .slice xo xn xc, .slice jo jn jc, .int .i64 items, .slice ao an ac, .bool true]) (by simp [results, Try.results7, go_sem]) rfl ⟨rfl, below_drewN hbel _⟩

/-- The list at: nil, or as long as the kinds. -/
def AtOK (w : World) (av : Value) (n : Nat) (pos : Nat → Int) : Prop :=
  (av = .slice none 0 0 ∧ pos = fun (q : Nat) => (q : Int)) ∨
    ∃ b o c, ∃ A : List Int, av = .slice (some ⟨b, o, none⟩) n c ∧ A.length = n ∧ Row w (some ⟨b, o, none⟩) (A.map (Value.int .i64)) ∧ pos = fun q => A.getD q 0

theorem AtOK.calls {w : World} {g n : Nat} {pos : Nat → Int} {k t x j av : Value} {items : Int} (h : AtOK w av n pos) (hR : Recv w g k t x j items av) (W : World) (q : Nat) (hq : q < n) (hb : Below w.heap.size w W) :
    Calls Try.prog 13 #[.pointer (some ⟨g, 0, none⟩), .int .i64 q] W fun e w' => e = .returned (.int .i64 (pos q)) ∧ w' = W := by
  rcases h with ⟨rfl, rfl⟩ | ⟨b, o, c, A, rfl, hA, hrow, rfl⟩
  · exact pos_nil g q W (hR.later hb).c5
  · have hrow2 := hrow.later hb
    obtain ⟨b', o', ha, hc⟩ := hrow2.parts
    have e := ha (by simp; omega)
    cases e
    exact pos_some g b o n c q _ W (hR.later hb).c5 hq (hc q _ (map_at _ A 0 q (by omega)))

/-- What ZZWithoutLocks answers where there is a lock. -/
def ZZOut (w : World) (n m : Nat) (K X I : List Int) (T : List ByteArray) (items : Int) (pos : Nat → Int) (e : Ending) (w' : World) : Prop :=
  ∃ zk zt zi za tt tc, e = .returned (.tuple #[.slice (some ⟨zk, 0, none⟩) (kp K n).length (kp K n).length, .slice tt (ks (usedB K X n) m).length tc, .slice (some ⟨zt, 0, none⟩) (kp K n).length (kp K n).length, .slice (some ⟨zi, 0, none⟩) (kp K n).length (kp K n).length, .int .i64 items, .slice (some ⟨za, 0, none⟩) (kp K n).length (kp K n).length, .bool true]) ∧
    Row w' (some ⟨zk, 0, none⟩) (LK K n) ∧ Row w' tt (TX (usedB K X n) T m) ∧ Row w' (some ⟨zt, 0, none⟩) ((kp K n).map (gU (usedB K X n) X)) ∧ Row w' (some ⟨zi, 0, none⟩) (LX K I n) ∧ Row w' (some ⟨za, 0, none⟩) (LP K pos n) ∧ Below w.heap.size w w'

theorem owned_row {w : World} {base e n : Nat} {tv : Value} {xs : List Value} (h : w.ownsRow base e 1 tv n xs) (hx : xs.length = n) : ∃ tt tc, tv = .slice tt n tc ∧ Row w tt xs := by
  have h2 := h
  obtain ⟨_, ⟨hv, hn⟩ | ⟨g', cap', cur, hv, _⟩⟩ := h2
  · subst hn
    exact ⟨none, 0, hv, by rw [List.eq_nil_of_length_eq_zero hx]; exact row_none _ _⟩
  · subst hv
    obtain ⟨A, hA, _, hAt⟩ := owned_H h
    exact ⟨_, _, rfl, Row.ofH hA (by rw [hx]; exact hAt)⟩

set_option maxHeartbeats 4000000 in
set_option maxRecDepth 100000 in
theorem zz_some (n kc m mc xc jc : Nat) (ko tq xo io : Option Addr) (K X I : List Int) (T : List ByteArray) (ao : Option Addr) (an ac : Nat) (items : Int) (pos : Nat → Int) (w : World)
    (hl : K.length = n) (hlx : X.length = n) (hli : I.length = n) (hlt : T.length = m) (hn : n ≤ 65536) (hm : m ≤ 65536)
    (hK : Row w ko (K.map (Value.int .u8))) (hT : Row w tq (T.map Value.string)) (hX : Row w xo (X.map (Value.int .i64))) (hI : Row w io (I.map (Value.int .i64))) (hA : AtOK w (.slice ao an ac) n pos)
    (hin : ∀ q, q < n → lockB (K.getD q 0) = false → ∃ x : Nat, X.getD q 0 = (x : Int) ∧ x < m) (hall : (kp K n).length < n) :
    Calls Try.prog 7 #[.slice ko n kc, .slice tq m mc, .slice xo n xc, .slice io n jc, .int .i64 items, .slice ao an ac] w fun e w' => ZZOut w n m K X I T items pos e w' := by
  obtain ⟨W, hW⟩ : ∃ W, W = w.alloc (.cells #[.slice ko n kc, .slice tq m mc, .slice xo n xc, .slice io n jc, .int .i64 items, .slice ao an ac] 39) := ⟨_, rfl⟩
  have hbel : Below w.heap.size w W := by rw [hW]; exact (Below.refl _ _).alloc (Nat.le_refl _) _
  have hsz : w.heap.size ≤ W.heap.size := hbel.size
  have hRecv : Recv W w.heap.size (.slice ko n kc) (.slice tq m mc) (.slice xo n xc) (.slice io n jc) items (.slice ao an ac) := by
    rw [hW]
    exact ⟨by simp, by simp, by simp, by simp, by simp, by simp⟩
  have hA2 : AtOK W (.slice ao an ac) n pos := by
    rcases hA with h | ⟨b, o, c, A, h1, h2, h3, h4⟩
    · exact .inl h
    · exact .inr ⟨b, o, c, A, h1, h2, h3.later hbel, h4⟩
  have H11 : Hid (Calls Try.prog 11 #[.pointer (some ⟨w.heap.size, 0, none⟩)] W fun e w' => WLOut W n m K X I T items pos e w') :=
    wl_some w.heap.size n kc m mc xc jc ko tq xo io K X I T (.slice ao an ac) items pos W hRecv hl hlx hli hlt hn hm (hK.later hbel) (hT.later hbel) (hX.later hbel) (hI.later hbel) hin (fun W' q hq hb => hA2.calls hRecv W' q hq hb) hall
  clear hRecv hA hA2 hK hT hX hI hin
  go_enter Try.func7, Try.ntmps7
  go_wp2_with fail
  rw [← hW]
  refine H11.out.mono ?_
  rintro e w1 ⟨zp, zk, zt, zi, za, tv, B3, rfl, hF, hSt, hown⟩
  obtain ⟨tt, tc, rfl, htt⟩ := owned_row hown (TX_len _ _ _)
  have HZ : Hid (Row w1 (some ⟨zk, 0, none⟩) (LK K n) ∧ Row w1 tt (TX (usedB K X n) T m) ∧ Row w1 (some ⟨zt, 0, none⟩) ((kp K n).map (gU (usedB K X n) X)) ∧ Row w1 (some ⟨zi, 0, none⟩) (LX K I n) ∧ Row w1 (some ⟨za, 0, none⟩) (LP K pos n) ∧ Below w.heap.size w w1) :=
    ⟨hSt.k.row, htt, hSt.t.row, hSt.i.row, hSt.a.row, hbel.trans (hSt.bel.mono hsz)⟩
  have c0 : w1.cell? ⟨zp, 0, none⟩ = some (.slice (some ⟨zk, 0, none⟩) (kp K n).length (kp K n).length) := by rw [hSt.p.cell]; simp [fieldsV, LK_len]
  have c1 : w1.cell? ⟨zp, 1, none⟩ = some (.slice tt (ks (usedB K X n) m).length tc) := by rw [hSt.p.cell]; simp [fieldsV]
  have c2 : w1.cell? ⟨zp, 2, none⟩ = some (.slice (some ⟨zt, 0, none⟩) (kp K n).length (kp K n).length) := by rw [hSt.p.cell]; simp [fieldsV]
  have c3 : w1.cell? ⟨zp, 3, none⟩ = some (.slice (some ⟨zi, 0, none⟩) (kp K n).length (kp K n).length) := by rw [hSt.p.cell]; simp [fieldsV, LX_len]
  have c4 : w1.cell? ⟨zp, 4, none⟩ = some (.int .i64 items) := by rw [hSt.p.cell]; simp [fieldsV]
  have c5 : w1.cell? ⟨zp, 5, none⟩ = some (.slice (some ⟨za, 0, none⟩) (kp K n).length (kp K n).length) := by rw [hSt.p.cell]; simp [fieldsV, LP_len]
  clear hSt hown htt hF H11 hbel hsz hW
  have HE : Hid (∀ W, (Row W (some ⟨zk, 0, none⟩) (LK K n) ∧ Row W tt (TX (usedB K X n) T m) ∧ Row W (some ⟨zt, 0, none⟩) ((kp K n).map (gU (usedB K X n) X)) ∧ Row W (some ⟨zi, 0, none⟩) (LX K I n) ∧ Row W (some ⟨za, 0, none⟩) (LP K pos n) ∧ Below w.heap.size w W) → ZZOut w n m K X I T items pos (.returned (.tuple #[.slice (some ⟨zk, 0, none⟩) (kp K n).length (kp K n).length, .slice tt (ks (usedB K X n) m).length tc, .slice (some ⟨zt, 0, none⟩) (kp K n).length (kp K n).length, .slice (some ⟨zi, 0, none⟩) (kp K n).length (kp K n).length, .int .i64 items, .slice (some ⟨za, 0, none⟩) (kp K n).length (kp K n).length, .bool true])) W) :=
    fun W h => ⟨zk, zt, zi, za, tt, tc, rfl, h⟩
  generalize (kp K n).length = L at *
  generalize (ks (usedB K X n) m).length = R at *
  go_wp2
  go_quiet (fail)
  go_wp2
  exact bodyPost_ret (v := .tuple #[.slice (some ⟨zk, 0, none⟩) L L, .slice tt R tc, .slice (some ⟨zt, 0, none⟩) L L, .slice (some ⟨zi, 0, none⟩) L L, .int .i64 items, .slice (some ⟨za, 0, none⟩) L L, .bool true]) (by simp [results, Try.results7, go_sem]) rfl (HE.out _ ⟨HZ.out.1, HZ.out.2.1, HZ.out.2.2.1, HZ.out.2.2.2.1, HZ.out.2.2.2.2.1, below_drewN HZ.out.2.2.2.2.2 _⟩)

end Go.Proofs.Qxb6619397a
