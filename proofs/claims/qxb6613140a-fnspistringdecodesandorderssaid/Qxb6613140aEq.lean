import Derived.Test.Qxb6613140aStr
namespace Go.Proofs.Qxb6613140a.Spi
open Go.ChangeShapes Go.WideShapes Go.RowKit Go.Lib
def eq8 (x0 x1 x2 x3 x4 x5 x6 x7 y0 y1 y2 y3 y4 y5 y6 y7 : Int) : Bool :=
  x0 == y0 && (x1 == y1 && (x2 == y2 && (x3 == y3 && (x4 == y4 && (x5 == y5 && (x6 == y6 && x7 == y7))))))

theorem run_eq8 (d : Nat) (x0 x1 x2 x3 x4 x5 x6 x7 y0 y1 y2 y3 y4 y5 y6 y7 : Int) (w : World) :
    (Op.equalIn (d + 2) 35 (.agg #[.int .u8 x0, .int .u8 x1, .int .u8 x2, .int .u8 x3, .int .u8 x4, .int .u8 x5, .int .u8 x6, .int .u8 x7]) (.agg #[.int .u8 y0, .int .u8 y1, .int .u8 y2, .int .u8 y3, .int .u8 y4, .int .u8 y5, .int .u8 y6, .int .u8 y7])).run Try.prog w = .ok (eq8 x0 x1 x2 x3 x4 x5 x6 x7 y0 y1 y2 y3 y4 y5 y6 y7) w := by
  rw [Op.equalIn]
  simp only [Sem.run_bind, run_underlying Try.underlying35, Result.andThen_ok, go_sem, Try.sizeOf5, Std.Legacy.Range.forIn_eq_forIn_range']
  simp [go_sem, List.range']
  unfold eq8
  repeat' split
  all_goals simp_all
end Go.Proofs.Qxb6613140a.Spi
