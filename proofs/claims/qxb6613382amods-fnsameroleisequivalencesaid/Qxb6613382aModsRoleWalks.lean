import Derived.Test.Qxb6613382aModsRows
import Derived.WalkKit
import Derived.ProofKit
import Derived.OpenShut
import Derived.ShutString
namespace Go.Proofs.Qxb6613382aMods.rw3
open Go.ChangeShapes Go.WideShapes Go.ChangeAt Go.RowKit
set_option linter.unusedVariables false

/-- An 'InfoIn' (and an 'Info'), field for field. -/
structure Inf where
  run : ByteArray
  role : ByteArray
  host : ByteArray
  port : Int
  up : Bool
  down : Int
  prio : Int
  off : Int
  rid : ByteArray
  prev : ByteArray
  so : Int
  pe : Int

/-- What 'sameRole' looks at. -/
def sameB (x y : Inf) : Bool := x.role.toList == y.role.toList && x.host.toList == y.host.toList && x.port == y.port

theorem ret_bool {a b : Bool} (h : a = b) : Ending.returned (.bool a) = .returned (.bool b) := by rw [h]

set_option maxHeartbeats 1000000 in
theorem sameRole_any (x y : Inf) (w : World) :
    Calls Trym.prog 9 #[.agg #[.string x.run, .string x.role, .string x.host, .int .i64 x.port, .bool x.up, .int .i64 x.down, .int .i64 x.prio, .int .i64 x.off, .string x.rid, .string x.prev, .int .i64 x.so, .int .i64 x.pe],
      .agg #[.string y.run, .string y.role, .string y.host, .int .i64 y.port, .bool y.up, .int .i64 y.down, .int .i64 y.prio, .int .i64 y.off, .string y.rid, .string y.prev, .int .i64 y.so, .int .i64 y.pe]] w
      fun e w' => e = .returned (.bool (sameB x y)) ∧ ∃ c d, w' = (w.alloc (.cells c 28)).alloc (.cells d 28) := by
  go_enter Trym.func9, Trym.ntmps9
  go_wp2
  · rename_i g1 g2
    go_ret
    exact ⟨ret_bool (by simp [sameB, g1, g2]), _, _, rfl⟩
  · rename_i g1 g2
    go_ret
    exact ⟨ret_bool (by simp [sameB, g1, g2]), _, _, rfl⟩
  · rename_i g1
    go_ret
    exact ⟨ret_bool (by simp [sameB, g1]), _, _, rfl⟩

set_option maxHeartbeats 1000000 in
theorem zzsameRole_any (x y : Inf) (w : World) :
    Calls Trym.prog 7 #[.agg #[.string x.run, .string x.role, .string x.host, .int .i64 x.port, .bool x.up, .int .i64 x.down, .int .i64 x.prio, .int .i64 x.off, .string x.rid, .string x.prev, .int .i64 x.so, .int .i64 x.pe],
      .agg #[.string y.run, .string y.role, .string y.host, .int .i64 y.port, .bool y.up, .int .i64 y.down, .int .i64 y.prio, .int .i64 y.off, .string y.rid, .string y.prev, .int .i64 y.so, .int .i64 y.pe]] w
      fun e w' => e = .returned (.bool (sameB x y)) ∧ ∃ c1 c2 c3 c4, w' = (((w.alloc (.cells c1 28)).alloc (.cells c2 28)).alloc (.cells c3 28)).alloc (.cells c4 28) := by
  go_enter Trym.func7, Trym.ntmps7
  go_wp2_with fail
  refine (sameRole_any x y _).mono ?_
  rintro e w' ⟨rfl, c, d, rfl⟩
  go_wp2_with fail
  go_ret
  exact ⟨rfl, _, _, _, _, rfl⟩

set_option maxHeartbeats 1000000 in
theorem newInfo_any (x : Inf) (w : World) :
    Calls Trym.prog 8 #[.string x.run, .string x.role, .string x.host, .int .i64 x.port, .bool x.up, .int .i64 x.down, .int .i64 x.prio, .int .i64 x.off, .string x.rid, .string x.prev, .int .i64 x.so, .int .i64 x.pe] w
      fun e w' => e = .returned (.agg #[.string x.run, .string x.role, .string x.host, .int .i64 x.port, .bool x.up, .int .i64 x.down, .int .i64 x.prio, .int .i64 x.off, .string x.rid, .string x.prev, .int .i64 x.so, .int .i64 x.pe]) ∧ ∃ c, w' = w.alloc (.cells c 28) := by
  go_enter Trym.func8, Trym.ntmps8
  go_wp2
  exact bodyPost_ret (v := .agg #[.string x.run, .string x.role, .string x.host, .int .i64 x.port, .bool x.up, .int .i64 x.down, .int .i64 x.prio, .int .i64 x.off, .string x.rid, .string x.prev, .int .i64 x.so, .int .i64 x.pe]) (by simp [results, Trym.results8, go_sem]) rfl ⟨rfl, _, rfl⟩

set_option maxHeartbeats 1000000 in
theorem info_any (x : Inf) (w : World) :
    Calls Trym.prog 6 #[.agg #[.string x.run, .string x.role, .string x.host, .int .i64 x.port, .bool x.up, .int .i64 x.down, .int .i64 x.prio, .int .i64 x.off, .string x.rid, .string x.prev, .int .i64 x.so, .int .i64 x.pe]] w
      fun e w' => e = .returned (.agg #[.string x.run, .string x.role, .string x.host, .int .i64 x.port, .bool x.up, .int .i64 x.down, .int .i64 x.prio, .int .i64 x.off, .string x.rid, .string x.prev, .int .i64 x.so, .int .i64 x.pe]) ∧ ∃ c1 c2 c3, w' = ((w.alloc (.cells c1 23)).alloc (.cells c2 28)).alloc (.cells c3 28) := by
  go_enter Trym.func6, Trym.ntmps6
  go_wp2_with fail
  refine (newInfo_any x _).mono ?_
  rintro e w' ⟨rfl, c, rfl⟩
  go_wp2_with fail
  exact bodyPost_ret (v := .agg #[.string x.run, .string x.role, .string x.host, .int .i64 x.port, .bool x.up, .int .i64 x.down, .int .i64 x.prio, .int .i64 x.off, .string x.rid, .string x.prev, .int .i64 x.so, .int .i64 x.pe]) (by simp [results, Trym.results6, go_sem]) rfl ⟨rfl, _, _, _, rfl⟩

set_option maxHeartbeats 1000000 in
theorem infoBytes_any (x : Inf) (h1 : (x.run.size : Int) + x.role.size + x.host.size + x.rid.size + x.prev.size ≤ 1048576) (w : World) :
    Calls Trym.prog 5 #[.agg #[.string x.run, .string x.role, .string x.host, .int .i64 x.port, .bool x.up, .int .i64 x.down, .int .i64 x.prio, .int .i64 x.off, .string x.rid, .string x.prev, .int .i64 x.so, .int .i64 x.pe]] w
      fun e w' => e = .returned (.int .i64 ((x.run.size : Int) + x.role.size + x.host.size + x.rid.size + x.prev.size)) ∧ ∃ c, w' = w.alloc (.cells c 23) := by
  go_enter Trym.func5, Trym.ntmps5
  go_wp2
  go_ret
  exact ⟨rfl, _, rfl⟩

/-- The bytes of the five strings. -/
def Inf.bytes (x : Inf) : Int := (x.run.size : Int) + x.role.size + x.host.size + x.rid.size + x.prev.size

end Go.Proofs.Qxb6613382aMods.rw3
