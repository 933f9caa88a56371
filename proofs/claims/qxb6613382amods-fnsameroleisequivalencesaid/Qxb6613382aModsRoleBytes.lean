import Derived.Test.Qxb6613382aModsRoleWalks
namespace Go.Proofs.Qxb6613382aMods.rw3
open Go.ChangeShapes Go.WideShapes Go.ChangeAt Go.RowKit
set_option linter.unusedVariables false

set_option maxRecDepth 100000 in
set_option maxHeartbeats 4000000 in
theorem bytes_any (x y z : Inf) (x1 : x.run.size ≤ maxLen) (x2 : x.role.size ≤ maxLen) (x3 : x.host.size ≤ maxLen) (x4 : x.rid.size ≤ maxLen) (x5 : x.prev.size ≤ maxLen)
    (y1 : y.run.size ≤ maxLen) (y2 : y.role.size ≤ maxLen) (y3 : y.host.size ≤ maxLen) (y4 : y.rid.size ≤ maxLen) (y5 : y.prev.size ≤ maxLen)
    (z1 : z.run.size ≤ maxLen) (z2 : z.role.size ≤ maxLen) (z3 : z.host.size ≤ maxLen) (z4 : z.rid.size ≤ maxLen) (z5 : z.prev.size ≤ maxLen) (w : World) :
    Calls Trym.prog 4 #[.agg #[.string x.run, .string x.role, .string x.host, .int .i64 x.port, .bool x.up, .int .i64 x.down, .int .i64 x.prio, .int .i64 x.off, .string x.rid, .string x.prev, .int .i64 x.so, .int .i64 x.pe],
      .agg #[.string y.run, .string y.role, .string y.host, .int .i64 y.port, .bool y.up, .int .i64 y.down, .int .i64 y.prio, .int .i64 y.off, .string y.rid, .string y.prev, .int .i64 y.so, .int .i64 y.pe],
      .agg #[.string z.run, .string z.role, .string z.host, .int .i64 z.port, .bool z.up, .int .i64 z.down, .int .i64 z.prio, .int .i64 z.off, .string z.rid, .string z.prev, .int .i64 z.so, .int .i64 z.pe]] w
      fun e w' => (∃ b, e = .returned (.bool b) ∧ (b = true → x.bytes + y.bytes + z.bytes ≤ 1048576)) ∧ ∃ c1 c2 c3, w' = ((w.alloc (.cells c1 23)).alloc (.cells c2 23)).alloc (.cells c3 23) := by
  unfold maxLen at x1 x2 x3 x4 x5 y1 y2 y3 y4 y5 z1 z2 z3 z4 z5
  go_enter Trym.func4, Trym.ntmps4
  go_wp2
  all_goals
    go_ret
    refine ⟨⟨_, rfl, ?_⟩, _, _, _, rfl⟩
    first | (intro h; exact absurd h (by decide)) | (intro _; unfold Inf.bytes; omega)
end Go.Proofs.Qxb6613382aMods.rw3
