/- Equal codes are equal. No condition. -/
import Derived.Test.YtjkpfliaflmppaaTb
namespace Go.Proofs.Ytjkpfliaflmppaa.Pc
open Go Go.RowKit Go.Proofs.Ytjkpfliaflmppaa.Vm
theorem eqIn40 (dp : Nat) (a : Int) (w : World) : (Op.equalIn (dp + 1) 40 (.int .u32 a) (.int .u32 a)).run Try.prog w = .ok true w := by
  simp [Op.equalIn, run_under Try.underlying40]
theorem part40 (cs : Array Value) (n : Nat) (v : Value) (h : cs[n]? = some v) (w : World) : (part 40 cs n).run Try.prog w = .ok v w := by
  have h1 : Try.prog.underlying 40 = some (.int .u32) := Try.underlying40
  simp [part, run_under h1, h]
theorem eqIn42 (dp : Nat) (a b c d : Int) (w : World) : (Op.equalIn (dp + 2) 42 (.agg #[.int .u32 a, .int .u32 b, .int .u32 c, .int .u32 d]) (.agg #[.int .u32 a, .int .u32 b, .int .u32 c, .int .u32 d])).run Try.prog w = .ok true w := by
  have hs : Program.stoodInHeld Try.prog 42 = false := by kernel_rfl
  unfold Op.equalIn
  rw [Sem.run_bind, run_under Try.underlying42, Result.andThen_ok]
  dsimp only
  have hp : (program : Sem Program).run Try.prog w = .ok Try.prog w := rfl
  rw [Sem.run_bind, hp, Result.andThen_ok]
  simp only [hs, Bool.false_eq_true, if_false]
  have e1 := eqIn40 dp a w
  have e2 := eqIn40 dp b w
  have e3 := eqIn40 dp c w
  have e4 := eqIn40 dp d w
  have p1 := part40 #[.int .u32 a, .int .u32 b, .int .u32 c, .int .u32 d] 0 _ rfl w
  have p2 := part40 #[.int .u32 a, .int .u32 b, .int .u32 c, .int .u32 d] 1 _ rfl w
  have p3 := part40 #[.int .u32 a, .int .u32 b, .int .u32 c, .int .u32 d] 2 _ rfl w
  have p4 := part40 #[.int .u32 a, .int .u32 b, .int .u32 c, .int .u32 d] 3 _ rfl w
  simp [e1, e2, e3, e4, p1, p2, p3, p4]
end Go.Proofs.Ytjkpfliaflmppaa.Pc
