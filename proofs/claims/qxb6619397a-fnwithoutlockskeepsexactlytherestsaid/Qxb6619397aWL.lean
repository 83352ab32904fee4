/-
  The walk of withoutLocks where there is a lock.
-/
import Derived.Test.Qxb6619397aHalf
import Derived.Deep.RegionWith
namespace Go.Proofs.Qxb6619397a
open Go.RowKit
set_option linter.unusedVariables false

def LK (K : List Int) (q : Nat) : List Value := (kp K q).map fun i => Value.int .u8 (K.getD i 0)
def LX (K X : List Int) (q : Nat) : List Value := (kp K q).map fun i => Value.int .i64 (X.getD i 0)
def LP (K : List Int) (pos : Nat → Int) (q : Nat) : List Value := (kp K q).map fun i => Value.int .i64 (pos i)
def usedB (K X : List Int) (q t : Nat) : Bool := (kp K q).any fun i => X.getD i 0 == (t : Int)
def RN (K X : List Int) (m q : Nat) : List Value := (List.range m).map fun t => Value.int .i64 (if usedB K X q t = true then 1 else 0)

theorem LK_len (K : List Int) (q : Nat) : (LK K q).length = (kp K q).length := by simp [LK]
theorem LX_len (K X : List Int) (q : Nat) : (LX K X q).length = (kp K q).length := by simp [LX]
theorem LP_len (K : List Int) (pos : Nat → Int) (q : Nat) : (LP K pos q).length = (kp K q).length := by simp [LP]

theorem RN_zero (K X : List Int) (m : Nat) : RN K X m 0 = List.replicate m (.int .i64 0) := by
  unfold RN usedB
  rw [kp_zero]
  simp
  rw [List.eq_replicate_iff]
  simp

theorem RN_step (K X : List Int) (m q x : Nat) (hk : lockB (K.getD q 0) = false) (hx : X.getD q 0 = (x : Int)) (hxm : x < m) : (RN K X m q).set x (.int .i64 1) = RN K X m (q + 1) := by
  unfold RN
  apply List.ext_getElem?
  intro t
  rw [List.getElem?_set]
  by_cases ht : t < m
  · have e : usedB K X (q + 1) t = (usedB K X q t || ((x : Int) == (t : Int))) := by
      unfold usedB
      rw [kp_plain K q hk, List.any_append, List.any_cons, List.any_nil, hx, Bool.or_false]
    by_cases hxt : x = t
    · subst hxt
      simp [ht, e]
    · have hne : ((x : Int) == (t : Int)) = false := by simp; omega
      simp [ht, e, hxt, hne]
  · by_cases hxt : x = t
    · omega
    · simp [ht, hxt]

theorem cell_alloc_isSome {w : World} {b i : Nat} (o : Obj) (h : b < w.heap.size) : (w.alloc o).cell? ⟨b, i, none⟩ = w.cell? ⟨b, i, none⟩ := World.cell?_alloc_lt w o ⟨b, i, none⟩ h
theorem World.frozen?_alloc_past {w : World} {b i : Nat} (o : Obj) (h : b < w.heap.size) : (w.alloc o).frozen? ⟨b, i, none⟩ = w.frozen? ⟨b, i, none⟩ := World.frozen?_of_block (Below.heap_alloc w o b h)

theorem init_state (w : World) (L : Nat) (items : Int) (Zk Zx : List Value) (hk : Zk.length = L) (hx : Zx.length = L) (gt gi ga : Nat)
    (h1 : gt = w.heap.size + 1 + 1 ∨ gt = w.heap.size + 1 + 1 + 1 ∨ gt = w.heap.size + 1 + 1 + 1 + 1)
    (h2 : gi = w.heap.size + 1 + 1 ∨ gi = w.heap.size + 1 + 1 + 1 ∨ gi = w.heap.size + 1 + 1 + 1 + 1)
    (h3 : ga = w.heap.size + 1 + 1 ∨ ga = w.heap.size + 1 + 1 + 1 ∨ ga = w.heap.size + 1 + 1 + 1 + 1) (n1 : gt ≠ gi) (n2 : gt ≠ ga) (n3 : gi ≠ ga) :
    Five w.heap.size (w.heap.size + 1) w.heap.size gt gi ga ∧
    St w.heap.size w L items (w.heap.size + 1) w.heap.size gt gi ga (.slice none 0 0) [] [] [] []
      (((((w.alloc (.cells Zk.toArray 33)).alloc (.cells #[.slice (some ⟨w.heap.size, 0, none⟩) 0 L, .slice none 0 0, .slice (some ⟨gt, 0, none⟩) 0 L, .slice (some ⟨gi, 0, none⟩) 0 L, .int .i64 items, .slice (some ⟨ga, 0, none⟩) 0 L] 39)).alloc
        (.cells Zx.toArray 3)).alloc (.cells Zx.toArray 3)).alloc (.cells Zx.toArray 3)).drew.drew := by
  have hS : ∀ (W : World) (o : Obj), (W.alloc o).heap.size = W.heap.size + 1 := fun W o => by simp
  generalize hP : (#[.slice (some ⟨w.heap.size, 0, none⟩) 0 L, .slice none 0 0, .slice (some ⟨gt, 0, none⟩) 0 L, .slice (some ⟨gi, 0, none⟩) 0 L, .int .i64 items, .slice (some ⟨ga, 0, none⟩) 0 L] : Array Value) = P
  have hP2 : P = (fieldsV w.heap.size gt gi ga L (.slice none 0 0) items 0 0 0 0).toArray := by rw [← hP]; rfl
  obtain ⟨w1, hw1⟩ : ∃ w1, w.alloc (.cells Zk.toArray 33) = w1 := ⟨_, rfl⟩
  have a1 : H w1 w.heap.size Zk 33 := by rw [← hw1]; exact H.new w Zk 33
  have s1 : w1.heap.size = w.heap.size + 1 := by rw [← hw1]; exact hS _ _
  obtain ⟨w2, hw2⟩ : ∃ w2, w1.alloc (.cells P 39) = w2 := ⟨_, rfl⟩
  have a2 : H w2 (w.heap.size + 1) (fieldsV w.heap.size gt gi ga L (.slice none 0 0) items 0 0 0 0) 39 := by rw [← hw2, hP2, ← s1]; exact H.new w1 _ 39
  have b2 : H w2 w.heap.size Zk 33 := by rw [← hw2]; exact a1.alloc _
  have s2 : w2.heap.size = w.heap.size + 1 + 1 := by rw [← hw2, hS, s1]
  obtain ⟨w3, hw3⟩ : ∃ w3, w2.alloc (.cells Zx.toArray 3) = w3 := ⟨_, rfl⟩
  have a3 : H w3 (w.heap.size + 1 + 1) Zx 3 := by rw [← hw3, ← s2]; exact H.new w2 Zx 3
  have s3 : w3.heap.size = w.heap.size + 1 + 1 + 1 := by rw [← hw3, hS, s2]
  obtain ⟨w4, hw4⟩ : ∃ w4, w3.alloc (.cells Zx.toArray 3) = w4 := ⟨_, rfl⟩
  have a4 : H w4 (w.heap.size + 1 + 1 + 1) Zx 3 := by rw [← hw4, ← s3]; exact H.new w3 Zx 3
  have s4 : w4.heap.size = w.heap.size + 1 + 1 + 1 + 1 := by rw [← hw4, hS, s3]
  obtain ⟨w5, hw5⟩ : ∃ w5, w4.alloc (.cells Zx.toArray 3) = w5 := ⟨_, rfl⟩
  have a5 : H w5 (w.heap.size + 1 + 1 + 1 + 1) Zx 3 := by rw [← hw5, ← s4]; exact H.new w4 Zx 3
  have c2 : H w5 (w.heap.size + 1) (fieldsV w.heap.size gt gi ga L (.slice none 0 0) items 0 0 0 0) 39 := by rw [← hw5, ← hw4, ← hw3]; exact ((a2.alloc _).alloc _).alloc _
  have c1 : H w5 w.heap.size Zk 33 := by rw [← hw5, ← hw4, ← hw3]; exact ((b2.alloc _).alloc _).alloc _
  have c3 : H w5 (w.heap.size + 1 + 1) Zx 3 := by rw [← hw5, ← hw4]; exact (a3.alloc _).alloc _
  have c4 : H w5 (w.heap.size + 1 + 1 + 1) Zx 3 := by rw [← hw5]; exact a4.alloc _
  have hbel : Below w.heap.size w w5 := by
    rw [← hw5, ← hw4, ← hw3, ← hw2, ← hw1]
    exact (((((Below.refl _ _).alloc (Nat.le_refl _) _).alloc (by rw [hS]; omega) _).alloc (by rw [hS, hS]; omega) _).alloc (by rw [hS, hS, hS]; omega) _).alloc (by rw [hS, hS, hS, hS]; omega) _
  have hrow : ∀ x, (x = w.heap.size + 1 + 1 ∨ x = w.heap.size + 1 + 1 + 1 ∨ x = w.heap.size + 1 + 1 + 1 + 1) → RowL w5 x 3 L [] := by
    intro x hx'
    refine ⟨Zx, ?_, hx, rfl⟩
    rcases hx' with rfl | rfl | rfl
    · exact c3
    · exact c4
    · exact a5
  rw [hw1, hw2, hw3, hw4, hw5]
  refine ⟨⟨by omega, by omega, by omega, by omega, by omega, by omega, by omega, n1, n2, n3, by omega, by omega, by omega, by omega, by omega⟩, ?_⟩
  exact ⟨c2, ⟨Zk, c1, hk, rfl⟩, hrow gt h1, hrow gi h2, hrow ga h3, hbel.drew.drew⟩

theorem RN_RN3 (K X : List Int) (m n : Nat) : RN K X m n = RN3 (usedB K X n) m 0 := by
  unfold RN RN3 R3
  simp

theorem usedB_of (K X : List Int) (n i x : Nat) (hi : i ∈ kp K n) (hx : X.getD i 0 = (x : Int)) : usedB K X n x = true := by
  unfold usedB
  rw [List.any_eq_true]
  exact ⟨i, hi, by rw [hx]; simp⟩

def fX (X : List Int) (i : Nat) : Value := .int .i64 (X.getD i 0)
def gU (U : Nat → Bool) (X : List Int) (i : Nat) : Value := .int .i64 ((ks U (X.getD i 0).toNat).length : Int)

/-- What withoutLocks answers where there is a lock. -/
def WLOut (w : World) (n m : Nat) (K X I : List Int) (T : List ByteArray) (items : Int) (pos : Nat → Int) (e : Ending) (w' : World) : Prop :=
  ∃ zp zk zt zi za tv B3, e = .returned (.pointer (some ⟨zp, 0, none⟩)) ∧ Five w.heap.size zp zk zt zi za ∧
    St w.heap.size w (kp K n).length items zp zk zt zi za tv (LK K n) ((kp K n).map (gU (usedB K X n) X)) (LX K I n) (LP K pos n) w' ∧
    w'.ownsRow B3 34 1 tv (ks (usedB K X n) m).length (TX (usedB K X n) T m)

set_option maxHeartbeats 60000000 in
set_option maxRecDepth 100000 in
theorem wl_some (g n kc m mc xc jc : Nat) (ko tq xo io : Option Addr) (K X I : List Int) (T : List ByteArray) (av : Value) (items : Int) (pos : Nat → Int) (w : World)
    (hR : Recv w g (.slice ko n kc) (.slice tq m mc) (.slice xo n xc) (.slice io n jc) items av) (hl : K.length = n) (hlx : X.length = n) (hli : I.length = n) (hlt : T.length = m) (hn : n ≤ 65536) (hm : m ≤ 65536)
    (hK : Row w ko (K.map (Value.int .u8))) (hT : Row w tq (T.map Value.string)) (hX : Row w xo (X.map (Value.int .i64))) (hI : Row w io (I.map (Value.int .i64)))
    (hin : ∀ q, q < n → lockB (K.getD q 0) = false → ∃ x : Nat, X.getD q 0 = (x : Int) ∧ x < m)
    (hpos : ∀ (W : World) (q : Nat), q < n → Below w.heap.size w W → Calls Try.prog 13 #[.pointer (some ⟨g, 0, none⟩), .int .i64 q] W fun e w' => e = .returned (.int .i64 (pos q)) ∧ w' = W)
    (hall : (kp K n).length < n) :
    Calls Try.prog 11 #[.pointer (some ⟨g, 0, none⟩)] w fun e w' => WLOut w n m K X I T items pos e w' := by
  obtain ⟨b, o, ha, hc⟩ := hK.parts
  have h0 := hR.c0
  have HPos : Hid (∀ (W : World) (q : Nat), q < n → Below w.heap.size w W → Calls Try.prog 13 #[.pointer (some ⟨g, 0, none⟩), .int .i64 q] W fun e w' => e = .returned (.int .i64 (pos q)) ∧ w' = W) := hpos
  have HIn : Hid (∀ q, q < n → lockB (K.getD q 0) = false → ∃ x : Nat, X.getD q 0 = (x : Int) ∧ x < m) := hin
  clear hpos hin
  obtain ⟨i33, hi33, _, hz33, _⟩ := info_parts Try.info33
  obtain ⟨i3, hi3, _, hz3, _⟩ := info_parts Try.info3
  go_enter Try.func11, Try.ntmps11
  go_wp2
  go_loopg [3, 19] n (fun d sc si wr => ∃ q : Nat, q ≤ n ∧ d = n - q ∧ si = .int .i64 q ∧ sc = .int .i64 (kp K q).length ∧ wr = w)
  case atStart => exact ⟨0, Nat.zero_le _, rfl, rfl, rfl, rfl⟩
  case round =>
    obtain ⟨q, hq, rfl, rfl, rfl, hwr⟩ := hrel
    obtain rfl : w = wr := hwr.symm
    clear hwr
    have hql := kp_le K q
    by_cases hqn : q < n
    · obtain rfl : ko = some ⟨b, o, none⟩ := ha (by simp; omega)
      obtain ⟨x, hx⟩ : ∃ x, x = K.getD q 0 := ⟨_, rfl⟩
      have hcx := hc q _ (map_at _ K 0 q (by omega))
      rw [← hx] at hcx
      clear hall
      cases hlk : lockB x with
      | true =>
        have HQ : Hid ((kp K (q + 1)).length = (kp K q).length) := by show _ = _; rw [kp_lock K q (by rw [← hx]; exact hlk)]
        clear hx hc ha
        go_wp2_with (go_at_call 12; refine (locking_any _ _).mono ?_; rintro e w' ⟨rfl, hw⟩; obtain rfl := hw.symm; clear hw)
        go_roundg (n - (q + 1))
        case measure => omega
        case rel => exact ⟨q + 1, by omega, rfl, by go_num, by rw [HQ.out], rfl⟩
      | false =>
        have HQ : Hid ((kp K (q + 1)).length = (kp K q).length + 1) := by show _ = _; rw [kp_plain K q (by rw [← hx]; exact hlk)]; simp
        clear hx hc ha
        go_wp2_with (go_at_call 12; refine (locking_any _ _).mono ?_; rintro e w' ⟨rfl, hw⟩; obtain rfl := hw.symm; clear hw)
        go_roundg (n - (q + 1))
        case measure => omega
        case rel => exact ⟨q + 1, by omega, rfl, by go_num, by rw [HQ.out]; go_num, rfl⟩
    · obtain rfl : n = q := by omega
      have HMono : Hid (∀ q, q < n → (kp K (q + 1)).length ≤ (kp K n).length) := fun q hq => by
        have := kp_mono' K (q + 1) (n - (q + 1))
        rw [show q + 1 + (n - (q + 1)) = n by omega] at this
        exact this
      generalize hL : (kp K n).length = L at *
      have hbe : ((L : Int) == (n : Int)) = false := by simp; omega
      have HL : Hid ((kp K n).length = L) := hL
      clear hL
      obtain ⟨Zk, hZk, hmk27⟩ := mk_rows 27 33 (.int .u8 0) 1 L 0 Try.underlying27 Try.info33 rfl (by omega) (by omega) (by omega)
      obtain ⟨Zx, hZx, hmk24⟩ := mk_rows 24 3 (.int .i64 0) 8 L 0 Try.underlying24 Try.info3 rfl (by omega) (by omega) (by omega)
      obtain ⟨Zr, hZr, hmkr⟩ := mk_rows 24 3 (.int .i64 0) 8 m m Try.underlying24 Try.info3 rfl (by omega) (by omega) (by omega)
      have hZkl : Zk.length = L := by rw [hZk]; simp
      have hZxl : Zx.length = L := by rw [hZx]; simp
      have HZr : Hid (Zr = RN K X m 0) := by show _ = _; rw [hZr, RN_zero]
      clear hZk hZx hZr
      have r4 := hR.c4
      have hglt : g < w.heap.size := World.block_lt_of_cell? w ⟨g, 4, none⟩ r4
      simp only [Int.natCast_zero] at hmk27 hmk24
      go_upto_region 10 with fail
      go_cut [6] (fun v6 wx => v6 = .pointer (some ⟨w.heap.size + 1, 0, none⟩) ∧ wx = ((w.alloc (.cells Zk.toArray 33)).alloc (.cells #[.slice (some ⟨w.heap.size, 0, none⟩) 0 L, .slice none 0 0, .slice none 0 0, .slice none 0 0, .int .i64 items, .slice none 0 0] 39)).drew)
      case first =>
        go_region
        all_goals (go_wp2_with fail; go_meet; exact ⟨rfl, rfl⟩)
      case rest =>
      obtain ⟨rfl, rfl⟩ := hcut
      clear hmk27 r4
      go_upto_region 11 with fail
      go_cut [] (fun wx => ∃ zt zi za, Five w.heap.size (w.heap.size + 1) w.heap.size zt zi za ∧ St w.heap.size w L items (w.heap.size + 1) w.heap.size zt zi za (.slice none 0 0) [] [] [] [] wx)
      case first =>
        go_region
        all_goals (go_wp2_with fail; go_meet; exact ⟨_, _, _, init_state w L items Zk Zx hZkl hZxl _ _ _ (by simp) (by simp) (by simp) (by omega) (by omega) (by omega)⟩)
      case rest =>
      obtain ⟨zt, zi, za, hF, hS⟩ := hcut
      have hRc := hR.later hS.bel
      have r0 := hRc.c0
      have r1 := hRc.c1
      have hglt2 : g < wc.heap.size := Nat.lt_of_lt_of_le hglt hS.bel.size
      have hBs : w.heap.size ≤ wc.heap.size := hS.bel.size
      have gr1 : w.heap.size + 1 < wc.heap.size := hS.p.lt
      have gr3 : zt < wc.heap.size := hS.t.lt
      have gr4 : zi < wc.heap.size := hS.i.lt
      have gr5 : za < wc.heap.size := hS.a.lt
      clear hmk24 hZkl hZxl hRc
      obtain ⟨zp, hgp⟩ : ∃ zp, zp = w.heap.size + 1 := ⟨_, rfl⟩
      obtain ⟨zk, hgk⟩ : ∃ zk, zk = w.heap.size := ⟨_, rfl⟩
      obtain ⟨B, hB⟩ : ∃ B, B = w.heap.size := ⟨_, rfl⟩
      have hF2 : Five B zp zk zt zi za := by rw [hB, hgp, hgk]; exact hF
      have hS2 : St B w L items zp zk zt zi za (.slice none 0 0) [] [] [] [] wc := by rw [hB, hgp, hgk]; exact hS
      rw [← hgp]
      have gr2 : zk < wc.heap.size := by omega
      have gr1' : zp < wc.heap.size := by omega
      have hBs' : B ≤ wc.heap.size := by omega
      have HB : Hid (B = w.heap.size) := hB
      clear hF hS hgp hgk gr1 hBs
      clear hB
      go_wp2
      obtain ⟨zr, hgr⟩ : ∃ zr, zr = wc.heap.size := ⟨_, rfl⟩
      have hS3 : St B w L items zp zk zt zi za (.slice none 0 0) (LK K 0) (LX K X 0) (LX K I 0) (LP K pos 0) (wc.alloc (.cells Zr.toArray 3)) := hS2.alloc hBs' _
      have nrk : zr ≠ zk := by omega
      have nrp : zr ≠ zp := by omega
      have nrt : zr ≠ zt := by omega
      have nri : zr ≠ zi := by omega
      have nra : zr ≠ za := by omega
      have hBr : B ≤ zr := by omega
      have hH3 : H (wc.alloc (.cells Zr.toArray 3)) zr (RN K X m 0) 3 := by rw [hgr, ← HZr.out]; exact H.new wc Zr 3
      rw [← hgr] at *
      clear hS2 HZr hgr hmkr r0 r1 hglt2 gr1' gr2 gr3 gr4 gr5 hBs'
      have HS3 : Hid (St B w L items zp zk zt zi za (.slice none 0 0) (LK K 0) (LX K X 0) (LX K I 0) (LP K pos 0) (wc.alloc (.cells Zr.toArray 3)) ∧ H (wc.alloc (.cells Zr.toArray 3)) zr (RN K X m 0) 3) := ⟨hS3, hH3⟩
      clear hS3 hH3
      go_loopg [71] n (fun d si wx => ∃ q : Nat, q ≤ n ∧ d = n - q ∧ si = .int .i64 q ∧ Hid (St B w L items zp zk zt zi za (.slice none 0 0) (LK K q) (LX K X q) (LX K I q) (LP K pos q) wx ∧ H wx zr (RN K X m q) 3))
      case atStart => exact ⟨0, Nat.zero_le _, rfl, rfl, HS3⟩
      case round =>
        clear HS3
        obtain ⟨q, hq, rfl, rfl, hst⟩ := hrel
        have hRw := hR.later (HB.out ▸ hst.out.1.bel)
        by_cases hqn : q < n
        · obtain rfl : ko = some ⟨b, o, none⟩ := ha (by simp; omega)
          obtain ⟨x, hx⟩ : ∃ x, x = K.getD q 0 := ⟨_, rfl⟩
          have hcx : wr.cell? ⟨b, o + q, none⟩ = some (.int .u8 x) := by rw [hx]; exact cell_later (HB.out ▸ hst.out.1.bel) (hc q _ (map_at _ K 0 q (by omega)))
          cases hlk : lockB x with
          | true =>
            have HQ : Hid (kp K (q + 1) = kp K q) := kp_lock K q (by rw [← hx]; exact hlk)
            have HST : Hid (St B w L items zp zk zt zi za (.slice none 0 0) (LK K (q + 1)) (LX K X (q + 1)) (LX K I (q + 1)) (LP K pos (q + 1)) wr ∧ H wr zr (RN K X m (q + 1)) 3) := by
              have := hst.out
              unfold LK LX LP RN usedB at *
              rw [HQ.out]
              exact this
            clear hx hc ha hst HQ
            go_wp2_with (go_at_call 12; refine (locking_any _ _).mono ?_; rintro e w' ⟨rfl, hw⟩; obtain rfl := hw.symm; clear hw)
            go_roundg (n - (q + 1))
            case measure => omega
            case rel => exact ⟨q + 1, by omega, rfl, by go_num, HST⟩
          | false =>
            have HQ : Hid (kp K (q + 1) = kp K q ++ [q]) := kp_plain K q (by rw [← hx]; exact hlk)
            have hj : (kp K q).length < L := by
              have e1 := HMono.out q hqn
              rw [HQ.out, List.length_append, List.length_singleton] at e1
              omega
            obtain ⟨xv, hxv, hxm⟩ := HIn.out q hqn (by rw [← hx]; exact hlk)
            have HX2 : Hid (x = K.getD q 0 ∧ X.getD q 0 = (xv : Int)) := ⟨hx, hxv⟩
            have hSt := hst.out.1
            have hHr := hst.out.2
            generalize hj2 : (kp K q).length = j at *
            have hjk : (LK K q).length = j := by rw [LK_len, hj2]
            have hjt : (LX K X q).length = j := by rw [LX_len, hj2]
            have hji : (LX K I q).length = j := by rw [LX_len, hj2]
            have hja : (LP K pos q).length = j := by rw [LP_len, hj2]
            have HJ : Hid ((LK K q).length = j ∧ (LX K X q).length = j ∧ (LX K I q).length = j ∧ (LP K pos q).length = j) := ⟨hjk, hjt, hji, hja⟩
            have hBw : B ≤ wr.heap.size := by rw [HB.out]; have := hSt.bel.size; exact this
            obtain ⟨bx, ox, hax, hcx'⟩ := hX.parts
            obtain rfl : xo = some ⟨bx, ox, none⟩ := hax (by simp; omega)
            have CY : Hid (w.cell? ⟨bx, ox + q, none⟩ = some (.int .i64 (xv : Int))) := by show _ = _; rw [← hxv]; exact hcx' q _ (map_at _ X 0 q (by omega))
            obtain ⟨bi, oi, hai, hci'⟩ := hI.parts
            obtain rfl : io = some ⟨bi, oi, none⟩ := hai (by simp; omega)
            obtain ⟨z, hz⟩ : ∃ z, z = I.getD q 0 := ⟨_, rfl⟩
            have CZ : Hid (w.cell? ⟨bi, oi + q, none⟩ = some (.int .i64 z)) := by show _ = _; rw [hz]; exact hci' q _ (map_at _ I 0 q (by omega))
            have HYZ : Hid (x = K.getD q 0 ∧ z = I.getD q 0 ∧ X.getD q 0 = (xv : Int) ∧ lockB x = false) := ⟨hx, hz, hxv, hlk⟩
            clear hax hcx' hai hci' hz HX2
            clear hx hxv hc ha hst hj2 hjk hjt hji hja
            go_upto_region 17 with (go_at_call 12; refine (locking_any _ _).mono ?_; rintro e w' ⟨rfl, hw⟩; obtain rfl := hw.symm; clear hw)
            go_cut [] (fun wx => St B w L items zp zk zt zi za (.slice none 0 0) (LK K q ++ [.int .u8 x]) (LX K X q) (LX K I q) (LP K pos q) wx ∧ H wx zr (RN K X m q) 3)
            case first =>
              have p0 : wr.cell? ⟨zp, 0, none⟩ = some (.slice (some ⟨zk, 0, none⟩) j L) := by rw [hSt.p.cell, ← HJ.out.1]; rfl
              have pf := hSt.p.frozen 0
              have ks : (wr.cell? ⟨zk, j, none⟩).isSome = true := by rw [← HJ.out.1]; exact hSt.k.room (by rw [HJ.out.1]; exact hj)
              have kf := hSt.k.frozen j
              have z1 : zp < wr.heap.size := hSt.p.lt
              have z2 : zk < wr.heap.size := hSt.k.lt
              have npk := hF2.pk
              go_wp2_with (at_builtin; refine wpList_append_one rfl (.tmp 82) (.tmp 84) 27 rfl 33 i33 Try.underlying27 hi33 hz33 zk j L rfl ⟨wr.heap.size, 0, none⟩ 1 (.int .u8 x) rfl ?s1 rfl (by omega) ?s2 ?s3 ?_)
              case s1 => simp
              case s2 => rw [cell_alloc_isSome _ z2]; exact ks
              case s3 => rw [World.frozen?_alloc_past _ z2]; exact kf
              go_meet
              case rel =>
                have hp := hSt.pushK hF2 (by rw [HJ.out.1]; exact hj) (.int .u8 x)
                rw [HJ.out.1] at hp
                exact ⟨hp.alloc (by simp; omega) _, ((hHr.other nrk _ _).other nrp _ _).alloc _⟩
            case rest =>
            obtain ⟨hSt2, hHr2⟩ := hcut
            clear hSt hHr hBw
            have hSt := hSt2
            have hHr := hHr2
            clear hSt2 hHr2
            have hBel : Below w.heap.size w wc := HB.out ▸ hSt.bel
            have hBw : B ≤ wc.heap.size := by rw [HB.out]; exact hSt.bel.size
            go_upto_region 18 with fail
            go_cut [] (fun wx => St B w L items zp zk zt zi za (.slice none 0 0) (LK K q ++ [.int .u8 x]) (LX K X q ++ [.int .i64 (xv : Int)]) (LX K I q) (LP K pos q) wx ∧ H wx zr (RN K X m q) 3)
            case first =>
              have p0 : wc.cell? ⟨zp, 2, none⟩ = some (.slice (some ⟨zt, 0, none⟩) j L) := by rw [hSt.p.cell, ← HJ.out.2.1]; rfl
              have pf := hSt.p.frozen 2
              have hts : ∀ o, ((wc.alloc o).cell? ⟨zt, j, none⟩).isSome = true := fun o => by rw [← HJ.out.2.1]; exact (hSt.t.alloc o).room (by rw [HJ.out.2.1]; exact hj)
              have htf : ∀ o, (wc.alloc o).frozen? ⟨zt, j, none⟩ = false := fun o => (hSt.t.alloc o).frozen j
              have z1 : zp < wc.heap.size := hSt.p.lt
              have z2 : zt < wc.heap.size := hSt.t.lt
              have npk := hF2.pt
              have r2 : wc.cell? ⟨g, 2, none⟩ = some (.slice (some ⟨bx, ox, none⟩) n xc) := (hR.later hBel).c2
              have cy := cell_later hBel CY.out
              go_region_law (refine step_append_one rfl (.tmp 92) (.tmp 100) 24 rfl 3 i3 Try.underlying24 hi3 hz3 zt j L rfl ⟨wc.heap.size, 0, none⟩ 1 (.int .i64 (xv : Int)) rfl ?_ rfl ?_ ?_ ?_ ?_; (simp); (omega); (exact hts _); (exact htf _))
              all_goals
                go_wp2_with fail
                go_meet
                have hp := hSt.pushT hF2 (by rw [HJ.out.2.1]; exact hj) (.int .i64 (xv : Int))
                rw [HJ.out.2.1] at hp
                exact ⟨(hp.alloc (by simp; omega) _).drew, ((hHr.other nrt _ _).other nrp _ _).alloc _⟩
            case rest =>
            obtain ⟨hSt3, hHr3⟩ := hcut
            clear hSt hHr hBw hBel
            have hSt := hSt3
            have hHr := hHr3
            clear hSt3 hHr3
            have hBel : Below w.heap.size w wc := HB.out ▸ hSt.bel
            have hBw : B ≤ wc.heap.size := by rw [HB.out]; exact hSt.bel.size
            go_upto_region 19 with fail
            go_cut [] (fun wx => St B w L items zp zk zt zi za (.slice none 0 0) (LK K q ++ [.int .u8 x]) (LX K X q ++ [.int .i64 (xv : Int)]) (LX K I q ++ [.int .i64 z]) (LP K pos q) wx ∧ H wx zr (RN K X m q) 3)
            case first =>
              have p0 : wc.cell? ⟨zp, 3, none⟩ = some (.slice (some ⟨zi, 0, none⟩) j L) := by rw [hSt.p.cell, ← HJ.out.2.2.1]; rfl
              have pf := hSt.p.frozen 3
              have hts : ∀ o, ((wc.alloc o).cell? ⟨zi, j, none⟩).isSome = true := fun o => by rw [← HJ.out.2.2.1]; exact (hSt.i.alloc o).room (by rw [HJ.out.2.2.1]; exact hj)
              have htf : ∀ o, (wc.alloc o).frozen? ⟨zi, j, none⟩ = false := fun o => (hSt.i.alloc o).frozen j
              have z1 : zp < wc.heap.size := hSt.p.lt
              have z2 : zi < wc.heap.size := hSt.i.lt
              have npk := hF2.pi
              have r3 : wc.cell? ⟨g, 3, none⟩ = some (.slice (some ⟨bi, oi, none⟩) n jc) := (hR.later hBel).c3
              have cz := cell_later hBel CZ.out
              go_region_law (refine step_append_one rfl (.tmp 108) (.tmp 116) 24 rfl 3 i3 Try.underlying24 hi3 hz3 zi j L rfl ⟨wc.heap.size, 0, none⟩ 1 (.int .i64 z) rfl ?_ rfl ?_ ?_ ?_ ?_; (simp); (omega); (exact hts _); (exact htf _))
              all_goals
                go_wp2_with fail
                go_meet
                have hp := hSt.pushI hF2 (by rw [HJ.out.2.2.1]; exact hj) (.int .i64 z)
                rw [HJ.out.2.2.1] at hp
                exact ⟨(hp.alloc (by simp; omega) _).drew, ((hHr.other nri _ _).other nrp _ _).alloc _⟩
            case rest =>
            obtain ⟨hSt4, hHr4⟩ := hcut
            clear hSt hHr hBw hBel
            have hSt := hSt4
            have hHr := hHr4
            clear hSt4 hHr4
            have hBel : Below w.heap.size w wc := HB.out ▸ hSt.bel
            have hBw : B ≤ wc.heap.size := by rw [HB.out]; exact hSt.bel.size
            go_upto_region 20 with fail
            go_cut [] (fun wx => St B w L items zp zk zt zi za (.slice none 0 0) (LK K q ++ [.int .u8 x]) (LX K X q ++ [.int .i64 (xv : Int)]) (LX K I q ++ [.int .i64 z]) (LP K pos q ++ [.int .i64 (pos q)]) wx ∧ H wx zr (RN K X m q) 3)
            case first =>
              have p0 : wc.cell? ⟨zp, 5, none⟩ = some (.slice (some ⟨za, 0, none⟩) j L) := by rw [hSt.p.cell, ← HJ.out.2.2.2]; rfl
              have pf := hSt.p.frozen 5
              have hts : ∀ o, ((wc.alloc o).cell? ⟨za, j, none⟩).isSome = true := fun o => by rw [← HJ.out.2.2.2]; exact (hSt.a.alloc o).room (by rw [HJ.out.2.2.2]; exact hj)
              have htf : ∀ o, (wc.alloc o).frozen? ⟨za, j, none⟩ = false := fun o => (hSt.a.alloc o).frozen j
              have z1 : zp < wc.heap.size := hSt.p.lt
              have z2 : za < wc.heap.size := hSt.a.lt
              have npk := hF2.pa

              go_region_law (first | (go_simp; refine (HPos.out wc.drew q hqn hBel.drew).mono ?_; rintro e w' ⟨rfl, hw⟩; subst hw; dsimp only) | (refine step_append_one rfl (.tmp 124) (.tmp 128) 24 rfl 3 i3 Try.underlying24 hi3 hz3 za j L rfl ⟨wc.heap.size, 0, none⟩ 1 (.int .i64 (pos q)) rfl ?_ rfl ?_ ?_ ?_ ?_; (simp); (omega); (exact hts _); (exact htf _)))
              all_goals
                go_wp2_with fail
                go_meet
                have hp := hSt.pushA hF2 (by rw [HJ.out.2.2.2]; exact hj) (.int .i64 (pos q))
                rw [HJ.out.2.2.2] at hp
                exact ⟨(hp.alloc (by simp; omega) _).drew, ((hHr.other nra _ _).other nrp _ _).alloc _⟩
            case rest =>
            obtain ⟨hSt5, hHr5⟩ := hcut
            clear hSt hHr hBw hBel
            have hBel : Below w.heap.size w wc := HB.out ▸ hSt5.bel
            have r2 : wc.cell? ⟨g, 2, none⟩ = some (.slice (some ⟨bx, ox, none⟩) n xc) := (hR.later hBel).c2
            have cy := cell_later hBel CY.out
            have rs : ∃ v, wc.cell? ⟨zr, xv, none⟩ = some v := ⟨_, by rw [hHr5.cell, List.getElem?_eq_getElem (by simp [RN]; exact hxm)]⟩
            obtain ⟨rv, hrv⟩ := rs
            have rf := hHr5.frozen xv
            have HST : Hid (St B w L items zp zk zt zi za (.slice none 0 0) (LK K (q + 1)) (LX K X (q + 1)) (LX K I (q + 1)) (LP K pos (q + 1)) (wc.setCell ⟨zr, xv, none⟩ (.int .i64 1)) ∧ H (wc.setCell ⟨zr, xv, none⟩ (.int .i64 1)) zr (RN K X m (q + 1)) 3) := by
              have e1 := hSt5.out nrp.symm nrk.symm nrt.symm nri.symm nra.symm hBr xv (.int .i64 1)
              have e2 := hHr5.set xv (.int .i64 1)
              rw [RN_step K X m q xv (by rw [← HYZ.out.1]; exact HYZ.out.2.2.2) HYZ.out.2.2.1 hxm] at e2
              refine ⟨?_, e2⟩
              rw [HYZ.out.1, HYZ.out.2.1, ← HYZ.out.2.2.1] at e1
              unfold LK LX LP at *
              rw [HQ.out, List.map_append, List.map_append, List.map_append, List.map_append]
              exact e1
            clear hSt5 hHr5 hBel HQ
            go_wp2
            go_roundg (n - (q + 1))
            case measure => omega
            case rel => exact ⟨q + 1, by omega, rfl, by go_num, HST⟩
        · obtain rfl : n = q := by omega
          clear ha hc HMono HPos h0
          obtain ⟨bt, ot, hat, hct⟩ := hT.parts
          obtain ⟨i34, hi34, hz034, hz134, hz234⟩ := info_parts Try.info34
          have r1 := hRw.c1
          obtain ⟨U, hU⟩ : ∃ U, U = usedB K X n := ⟨_, rfl⟩
          have HH3 : Hid (St B w L items zp zk zt zi za (.slice none 0 0) (LK K n) (LX K X n) (LX K I n) (LP K pos n) wr ∧ H wr zr (RN3 U m 0) 3) := ⟨hst.out.1, by rw [hU, ← RN_RN3]; exact hst.out.2⟩
          have HU : Hid (U = usedB K X n) := hU
          obtain ⟨B3, hB3⟩ : ∃ B3, B3 = wr.heap.size := ⟨_, rfl⟩
          have l1 : zp < B3 := by rw [hB3]; exact hst.out.1.p.lt
          have l2 : zk < B3 := by rw [hB3]; exact hst.out.1.k.lt
          have l3 : zt < B3 := by rw [hB3]; exact hst.out.1.t.lt
          have l4 : zi < B3 := by rw [hB3]; exact hst.out.1.i.lt
          have l5 : za < B3 := by rw [hB3]; exact hst.out.1.a.lt
          have l6 : zr < B3 := by rw [hB3]; exact hst.out.2.lt
          have hBB : B ≤ B3 := by omega
          have HB3 : Hid (B3 = wr.heap.size) := hB3
          clear hU hst hB3
          go_wp2
          go_loopg [147] m (fun d si wx => ∃ t : Nat, t ≤ m ∧ d = m - t ∧ si = .int .i64 t ∧ B3 ≤ wx.heap.size ∧ Hid (∃ tv, St B w L items zp zk zt zi za tv (LK K n) (LX K X n) (LX K I n) (LP K pos n) wx ∧ H wx zr (RN3 U m t) 3 ∧ wx.ownsRow B3 34 1 tv (ks U t).length (TX U T t)))
          case atStart => exact ⟨0, Nat.zero_le _, rfl, rfl, by rw [HB3.out]; exact Nat.le_refl _, ⟨.slice none 0 0, HH3.out.1, HH3.out.2, World.ownsRow_nil _ _ _ _⟩⟩
          case round =>
            clear HH3 HB3 hRw r1
            obtain ⟨t, htm, rfl, rfl, hB3w, hL3⟩ := hrel
            have hkl := ks_le U t
            by_cases htlt : t < m
            · obtain rfl : tq = some ⟨bt, ot, none⟩ := hat (by simp; omega)
              obtain ⟨tv, hSt, hHr, hown⟩ := hL3.out
              have hBel : Below w.heap.size w wr := HB.out ▸ hSt.bel
              obtain ⟨s, hs⟩ : ∃ s, s = T.getD t ByteArray.empty := ⟨_, rfl⟩
              have cs : wr.cell? ⟨bt, ot + t, none⟩ = some (.string s) := by rw [hs]; exact cell_later hBel (hct t _ (map_at _ T _ t (by omega)))
              have cr : wr.cell? ⟨zr, t, none⟩ = some (.int .i64 (R3 U t t)) := by rw [hHr.cell, RN3_get U m t t htlt]
              rw [R3_here] at cr
              cases hUt : U t with
              | false =>
                rw [hUt, if_neg (by simp)] at cr
                have HST : Hid (∃ tv, St B w L items zp zk zt zi za tv (LK K n) (LX K X n) (LX K I n) (LP K pos n) wr ∧ H wr zr (RN3 U m (t + 1)) 3 ∧ wr.ownsRow B3 34 1 tv (ks U (t + 1)).length (TX U T (t + 1))) :=
                  ⟨tv, hSt, by rw [← RN3_no U m t hUt]; exact hHr, by unfold TX; rw [ks_no U t hUt]; exact hown⟩
                clear hSt hHr hown hL3 hs hct hat hBel hUt
                go_wp2
                go_roundg (m - (t + 1))
                case measure => omega
                case rel => exact ⟨t + 1, by omega, rfl, by go_num, hB3w, HST⟩
              | true =>
                rw [hUt, if_pos rfl] at cr
                have p1 : wr.cell? ⟨zp, 1, none⟩ = some tv := by rw [hSt.p.cell]; rfl
                have z1 : zp < wr.heap.size := hSt.p.lt
                have HE : Hid (ks U (t + 1) = ks U t ++ [t] ∧ s = T.getD t ByteArray.empty ∧ U t = true) := ⟨ks_yes U t hUt, hs, hUt⟩
                have HSS : Hid (St B w L items zp zk zt zi za tv (LK K n) (LX K X n) (LX K I n) (LP K pos n) wr ∧ H wr zr (RN3 U m t) 3 ∧ wr.ownsRow B3 34 1 tv (ks U t).length (TX U T t)) := ⟨hSt, hHr, hown⟩
                clear hSt hHr hL3 hs hct hat hBel hUt
                go_wp2_with (at_builtin; refine wpList_append_own _ rfl (.tmp 161) (.tmp 163) 28 rfl B3 34 i34 (.string ⟨#[]⟩) 1 16 Try.underlying28 hi34 hz034 hz134 hz234 rfl (by decide) tv (ks U t).length _ rfl (hown.alloc _) ⟨wr.heap.size, 0, none⟩ 1 1 [.string s] rfl rfl ?c1 ?c2 ?c3 ?c4 ?c5 ?_)
                case c1 => exact cell_one_new _ _ _
                case c2 => intro u hu; simp at hu; subst hu; rfl
                case c3 => unfold maxLen; omega
                case c4 => omega
                case c5 => simp; omega
                intro v' w1 hown1 hgrow _
                obtain ⟨g1, cap1, hv1⟩ : ∃ g1 cap1, v' = .slice (some ⟨g1, 0, none⟩) ((ks U t).length + 1) cap1 := by
                  rcases hown1.2 with ⟨_, h0⟩ | ⟨g1, cap1, _, hv, _⟩
                  · omega
                  · exact ⟨g1, cap1, hv⟩
                have hrow : ∀ k, tv.ownBlock = some k → B3 ≤ k := fun k hk => (hown.lt k hk).1
                have hSt1 : St B w L items zp zk zt zi za tv (LK K n) (LX K X n) (LX K I n) (LP K pos n) w1 := (HSS.out.1.alloc (by omega) _).grown hgrow (by simp; omega) (fun k hk => by have := hrow k hk; omega)
                have hHr1 : H w1 zr (RN3 U m t) 3 := (HSS.out.2.1.alloc _).grown hgrow (fun e => by have := hrow zr e.symm; omega)
                have hsz : B3 ≤ w1.heap.size := by have := hgrow.size; simp at this; omega
                have q1 : w1.cell? ⟨zp, 1, none⟩ = some tv := by rw [hSt1.p.cell]; rfl
                have q2 : w1.frozen? ⟨zp, 1, none⟩ = false := hSt1.p.frozen 1
                have q3 : w1.cell? ⟨zr, t, none⟩ = some (.int .i64 (R3 U t t)) := by rw [hHr1.cell, RN3_get U m t t htlt]
                have q4 : w1.frozen? ⟨zr, t, none⟩ = false := hHr1.frozen t
                have HST : Hid (∃ tv, St B w L items zp zk zt zi za tv (LK K n) (LX K X n) (LX K I n) (LP K pos n) ((w1.setCell ⟨zp, 1, none⟩ v').setCell ⟨zr, t, none⟩ (.int .i64 (((ks U t).length : Int) + 1))) ∧ H ((w1.setCell ⟨zp, 1, none⟩ v').setCell ⟨zr, t, none⟩ (.int .i64 (((ks U t).length : Int) + 1))) zr (RN3 U m (t + 1)) 3 ∧ ((w1.setCell ⟨zp, 1, none⟩ v').setCell ⟨zr, t, none⟩ (.int .i64 (((ks U t).length : Int) + 1))).ownsRow B3 34 1 tv (ks U (t + 1)).length (TX U T (t + 1))) := by
                  refine ⟨v', (hSt1.setTv hF2 v').out nrp.symm nrk.symm nrt.symm nri.symm nra.symm hBr _ _, ?_, ?_⟩
                  · have e := (hHr1.other nrp 1 v').set t (.int .i64 (((ks U t).length : Int) + 1))
                    have e2 := RN3_yes U m t HE.out.2.2 htlt
                    rw [HE.out.1, List.length_append, List.length_singleton] at e2
                    rw [show ((((ks U t).length + 1 : Nat)) : Int) = ((ks U t).length : Int) + 1 by omega] at e2
                    rw [e2] at e
                    exact e
                  · have e := ownsRow_setCell_below (ownsRow_setCell_below hown1 (a := ⟨zp, 1, none⟩) l1 v') (a := ⟨zr, t, none⟩) l6 (.int .i64 (((ks U t).length : Int) + 1))
                    unfold TX at *
                    rw [HE.out.1, List.map_append, List.length_append, List.length_singleton]
                    rw [HE.out.2.1] at e
                    exact e
                clear hSt1 hHr1 hown1 hgrow hrow HSS HE hown
                rw [hv1] at HST ⊢
                clear hv1
                go_wp2
                go_roundg (m - (t + 1))
                case measure => omega
                case rel => exact ⟨t + 1, by omega, rfl, by go_num, by simpa using hsz, HST⟩
            · obtain rfl : m = t := by omega
              clear hat hct htlt htm hkl hi34 hz034 hz134 hz234
              obtain ⟨tv, hSt, hHr, hown⟩ := hL3.out
              have HT : Hid (St B w L items zp zk zt zi za tv (LK K n) (half (kp K n) (fX X) (gU U X) 0) (LX K I n) (LP K pos n) wr ∧ H wr zr (RN3 U m m) 3 ∧ wr.ownsRow B3 34 1 tv (ks U m).length (TX U T m)) := ⟨by rw [half_zero]; exact hSt, hHr, hown⟩
              have p2 : wr.cell? ⟨zp, 2, none⟩ = some (.slice (some ⟨zt, 0, none⟩) L L) := by
                rw [hSt.p.cell]
                show some (Value.slice (some ⟨zt, 0, none⟩) (LX K X n).length L) = _
                rw [LX_len, HL.out]
              have z1 : zp < wr.heap.size := hSt.p.lt
              clear hL3 hSt hHr hown
              go_wp2
              go_loopg [181] L (fun d si wx => ∃ j : Nat, j ≤ L ∧ d = L - j ∧ si = .int .i64 j ∧ Hid (St B w L items zp zk zt zi za tv (LK K n) (half (kp K n) (fX X) (gU U X) j) (LX K I n) (LP K pos n) wx ∧ H wx zr (RN3 U m m) 3 ∧ wx.ownsRow B3 34 1 tv (ks U m).length (TX U T m)))
              case atStart => exact ⟨0, Nat.zero_le _, rfl, rfl, HT⟩
              case round =>
                clear HT p2 z1 hB3w
                obtain ⟨j, hjL, rfl, rfl, hL4⟩ := hrel
                by_cases hjl : j < L
                · obtain ⟨hSt, hHr, hown⟩ := hL4.out
                  have hj2 : j < (kp K n).length := by rw [HL.out]; exact hjl
                  obtain ⟨i, hi⟩ : ∃ i, i = (kp K n)[j] := ⟨_, rfl⟩
                  have him : i ∈ kp K n := by rw [hi]; exact List.getElem_mem _
                  obtain ⟨x, hx, hxm⟩ := HIn.out i ((kp_mem K n i).1 him).1 ((kp_mem K n i).1 him).2
                  have hUx : U x = true := by rw [HU.out]; exact usedB_of K X n i x him hx
                  obtain ⟨c, hc⟩ : ∃ c, c = (ks U x).length := ⟨_, rfl⟩
                  have hcx := ks_le U x
                  have p2 : wr.cell? ⟨zp, 2, none⟩ = some (.slice (some ⟨zt, 0, none⟩) L L) := by
                    rw [hSt.p.cell]
                    show some (Value.slice (some ⟨zt, 0, none⟩) (half (kp K n) (fX X) (gU U X) j).length L) = _
                    rw [half_len, HL.out]
                  have ct : wr.cell? ⟨zt, j, none⟩ = some (.int .i64 (x : Int)) := by
                    rw [hSt.t.get j (by rw [half_len]; exact hj2), half_get _ _ _ _ hj2, ← hi]
                    unfold fX
                    rw [hx]
                  have cf := hSt.t.frozen j
                  have cr : wr.cell? ⟨zr, x, none⟩ = some (.int .i64 ((c : Int) + 1)) := by rw [hHr.cell, RN3_get U m m x hxm, R3_end U m x hUx hxm, hc]
                  have z1 : zp < wr.heap.size := hSt.p.lt
                  have z2 : zt < wr.heap.size := hSt.t.lt
                  have z3 : zr < wr.heap.size := hHr.lt
                  have hcm : c ≤ 65536 := by omega
                  have hsub : (c : Int) + 1 - 1 = (c : Int) := by omega
                  have HST : Hid (St B w L items zp zk zt zi za tv (LK K n) (half (kp K n) (fX X) (gU U X) (j + 1)) (LX K I n) (LP K pos n) (wr.setCell ⟨zt, j, none⟩ (.int .i64 (c : Int))) ∧ H (wr.setCell ⟨zt, j, none⟩ (.int .i64 (c : Int))) zr (RN3 U m m) 3 ∧ (wr.setCell ⟨zt, j, none⟩ (.int .i64 (c : Int))).ownsRow B3 34 1 tv (ks U m).length (TX U T m)) := by
                    have e := hSt.putT hF2 j (.int .i64 (c : Int))
                    have e2 : gU U X (kp K n)[j] = .int .i64 (c : Int) := by
                      rw [← hi]
                      unfold gU
                      rw [hx, hc]
                      rfl
                    rw [← e2, half_set _ _ _ _ hj2, e2] at e
                    exact ⟨e, hHr.other nrt _ _, ownsRow_setCell_below hown (a := ⟨zt, j, none⟩) l3 _⟩
                  clear hSt hHr hown hL4 hUx hx him hi hc hj2 hcx
                  go_upto_region 33 with fail
                  go_region
                  all_goals
                    go_wp2_with fail
                    go_roundg (L - (j + 1))
                    case measure => omega
                    case rel => exact ⟨j + 1, by omega, rfl, by go_num, ⟨HST.out.1.drew, HST.out.2.1, HST.out.2.2⟩⟩
                · obtain rfl : L = j := by omega
                  have HF : Hid (WLOut w n m K X I T items pos (.returned (.pointer (some ⟨zp, 0, none⟩))) wr) := by
                    obtain ⟨hSt, hHr, hown⟩ := hL4.out
                    have e := HU.out
                    subst e
                    have e := HB.out
                    subst e
                    rw [← HL.out] at hSt
                    rw [half_end] at hSt
                    exact ⟨zp, zk, zt, zi, za, tv, B3, rfl, hF2, hSt, hown⟩
                  clear hL4 hjL hjl
                  go_wp2
                  exact bodyPost_ret (v := .pointer (some ⟨zp, 0, none⟩)) (by simp [results, Try.results11, go_sem]) rfl HF.out

end Go.Proofs.Qxb6619397a
