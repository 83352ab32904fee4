/-
  '==' on [3]byte.
-/
import Derived.Test.Qxb6618036aUp
namespace Go.Proofs.Qxb6618036a
open Go.RowKit

theorem run_eq3_at (n : Nat) (a b c d e f : Int) (W : World) (q : ∀ (x y : Int) W, (Op.equalIn n 5 (.int .u8 x) (.int .u8 y)).run Try.prog W = .ok (x == y) W) :
    (Op.equalIn (n + 1) 24 (.agg #[.int .u8 a, .int .u8 b, .int .u8 c]) (.agg #[.int .u8 d, .int .u8 e, .int .u8 f])).run Try.prog W = .ok (a == d && b == e && c == f) W := by
  have hs : ∀ W, (sizeOf 5).run Try.prog W = .ok 1 W := fun _ => by kernel_rfl
  have p0 : ∀ (x y z : Int) W, (part 5 #[.int .u8 x, .int .u8 y, .int .u8 z] 0).run Try.prog W = .ok (.int .u8 x) W := fun _ _ _ _ => by kernel_rfl
  have p1 : ∀ (x y z : Int) W, (part 5 #[.int .u8 x, .int .u8 y, .int .u8 z] 1).run Try.prog W = .ok (.int .u8 y) W := fun _ _ _ _ => by kernel_rfl
  have p2 : ∀ (x y z : Int) W, (part 5 #[.int .u8 x, .int .u8 y, .int .u8 z] 2).run Try.prog W = .ok (.int .u8 z) W := fun _ _ _ _ => by kernel_rfl
  simp only [Op.equalIn, Sem.run_bind, run_underlying Try.underlying24, Result.andThen_ok, hs]
  cases h0 : (a == d) <;> cases h1 : (b == e) <;> cases h2 : (c == f) <;> simp [Std.Legacy.Range.forIn_eq_forIn_range', Std.Legacy.Range.size, List.range'_succ, p0, p1, p2, q, h0, h1, h2]

theorem run_eq3 (a b c d e f : Int) (W : World) :
    (Op.equalIn 10000 24 (.agg #[.int .u8 a, .int .u8 b, .int .u8 c]) (.agg #[.int .u8 d, .int .u8 e, .int .u8 f])).run Try.prog W = .ok (a == d && b == e && c == f) W :=
  run_eq3_at 9999 a b c d e f W (fun x y W => run_equalIn_int W 9998 5 .u8 .u8 x y Try.underlying5)
end Go.Proofs.Qxb6618036a
