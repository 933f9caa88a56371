import Derived.Test.Qxb6613382aModsRoleBytes
import Derived.Deep.RegionHeld3
import Derived.Deep.RegionWith
namespace Go.Proofs.Qxb6613382aMods.rw3
open Go.ChangeShapes Go.WideShapes Go.ChangeAt Go.RowKit
set_option linter.unusedVariables false

/-! ### the plain law -/
theorem same_refl (x : Inf) : sameB x x = true := by simp [sameB]
theorem same_symm (x y : Inf) : sameB x y = sameB y x := by
  rw [Bool.eq_iff_iff]
  simp [sameB]
  constructor
  · rintro ⟨⟨a, b⟩, c⟩; exact ⟨⟨a.symm, b.symm⟩, c.symm⟩
  · rintro ⟨⟨a, b⟩, c⟩; exact ⟨⟨a.symm, b.symm⟩, c.symm⟩
theorem same_trans (x y z : Inf) (h1 : sameB x y = true) (h2 : sameB y z = true) : sameB x z = true := by
  simp [sameB] at *
  obtain ⟨⟨a, b⟩, c⟩ := h1
  obtain ⟨⟨d, e⟩, f⟩ := h2
  exact ⟨⟨a.trans d, b.trans e⟩, c.trans f⟩

theorem same_b (x y : Inf) (b : Bool) (h : sameB x y = b) (w : World) :
    Calls Trym.prog 7 #[.agg #[.string x.run, .string x.role, .string x.host, .int .i64 x.port, .bool x.up, .int .i64 x.down, .int .i64 x.prio, .int .i64 x.off, .string x.rid, .string x.prev, .int .i64 x.so, .int .i64 x.pe],
      .agg #[.string y.run, .string y.role, .string y.host, .int .i64 y.port, .bool y.up, .int .i64 y.down, .int .i64 y.prio, .int .i64 y.off, .string y.rid, .string y.prev, .int .i64 y.so, .int .i64 y.pe]] w
      fun e w' => e = .returned (.bool b) ∧ ∃ c1 c2 c3 c4, w' = (((w.alloc (.cells c1 28)).alloc (.cells c2 28)).alloc (.cells c3 28)).alloc (.cells c4 28) := by
  subst h; exact zzsameRole_any x y w

set_option maxRecDepth 100000 in
set_option maxHeartbeats 4000000 in
theorem walk (x y z : Inf) (x1 : x.run.size ≤ maxLen) (x2 : x.role.size ≤ maxLen) (x3 : x.host.size ≤ maxLen) (x4 : x.rid.size ≤ maxLen) (x5 : x.prev.size ≤ maxLen)
    (y1 : y.run.size ≤ maxLen) (y2 : y.role.size ≤ maxLen) (y3 : y.host.size ≤ maxLen) (y4 : y.rid.size ≤ maxLen) (y5 : y.prev.size ≤ maxLen)
    (z1 : z.run.size ≤ maxLen) (z2 : z.role.size ≤ maxLen) (z3 : z.host.size ≤ maxLen) (z4 : z.rid.size ≤ maxLen) (z5 : z.prev.size ≤ maxLen) (w : World)
    (b1 b2 : Bool) (g1 : sameB x y = b1) (g2 : sameB y z = b2) :
    Calls Trym.prog 3 #[.agg #[.string x.run, .string x.role, .string x.host, .int .i64 x.port, .bool x.up, .int .i64 x.down, .int .i64 x.prio, .int .i64 x.off, .string x.rid, .string x.prev, .int .i64 x.so, .int .i64 x.pe],
      .agg #[.string y.run, .string y.role, .string y.host, .int .i64 y.port, .bool y.up, .int .i64 y.down, .int .i64 y.prio, .int .i64 y.off, .string y.rid, .string y.prev, .int .i64 y.so, .int .i64 y.pe],
      .agg #[.string z.run, .string z.role, .string z.host, .int .i64 z.port, .bool z.up, .int .i64 z.down, .int .i64 z.prio, .int .i64 z.off, .string z.rid, .string z.prev, .int .i64 z.so, .int .i64 z.pe]] w
      fun e w' => e = .returned (.bool true) ∧ Grown w w' := by
  have hB : Hid (∀ w, _) := fun w => bytes_any x y z x1 x2 x3 x4 x5 y1 y2 y3 y4 y5 z1 z2 z3 z4 z5 w
  clear x1 x2 x3 x4 x5 y1 y2 y3 y4 y5 z1 z2 z3 z4 z5
  have G1 : Hid (sameB x y = b1) := g1
  have G1s : Hid (sameB y x = b1) := (same_symm y x).trans g1
  have G2 : Hid (sameB y z = b2) := g2
  have G3 : Hid (b1 = true → b2 = true → sameB x z = true) := fun h1 h2 => same_trans x y z (g1.trans h1) (g2.trans h2)
  clear g1 g2
  go_enter Trym.func3, Trym.ntmps3
  go_wp2_with fail
  refine (hB.out _).mono ?_
  rintro e w' ⟨⟨b, rfl, hs⟩, c1, c2, c3, rfl⟩
  cases b
  · clear hs
    go_wp2_with fail
    go_ret
    exact ⟨rfl, by repeat (first | apply Grown.alloc | exact Grown.refl _)⟩
  · have hs' := hs rfl
    clear hs hB
    unfold Inf.bytes at hs'
    have h1 : (x.run.size : Int) + x.role.size + x.host.size + x.rid.size + x.prev.size ≤ 1048576 := by omega
    have h2 : (y.run.size : Int) + y.role.size + y.host.size + y.rid.size + y.prev.size ≤ 1048576 := by omega
    have h3 : (z.run.size : Int) + z.role.size + z.host.size + z.rid.size + z.prev.size ≤ 1048576 := by omega
    go_wp2_with fail
    refine (infoBytes_any x h1 _).mono ?_
    rintro e w1 ⟨rfl, d1, rfl⟩
    go_wp2_with fail
    refine (infoBytes_any y h2 _).mono ?_
    rintro e w1 ⟨rfl, d2, rfl⟩
    go_wp2_with fail
    refine (infoBytes_any z h3 _).mono ?_
    rintro e w1 ⟨rfl, d3, rfl⟩
    go_wp2_with fail
    refine (info_any x _).mono ?_
    rintro e w1 ⟨rfl, e1, e2, e3, rfl⟩
    go_wp2_with fail
    refine (info_any y _).mono ?_
    rintro e w1 ⟨rfl, e4, e5, e6, rfl⟩
    go_wp2_with fail
    refine (info_any z _).mono ?_
    rintro e w1 ⟨rfl, e7, e8, e9, rfl⟩
    go_wp2_with fail
    refine (same_b x x true (same_refl x) _).mono ?_
    rintro e w1 ⟨rfl, i1, i2, i3, i4, rfl⟩
    go_wp2_with fail
    go_region_held3 (fun w' => w'.cell? ⟨w.heap.size + 1 + 1 + 1 + 1 + 1 + 1 + 1 + 1 + 1 + 1 + 1 + 1, 0, none⟩ = some (.string x.run) ∧ w'.cell? ⟨w.heap.size + 1 + 1 + 1 + 1 + 1 + 1 + 1 + 1 + 1 + 1 + 1 + 1, 1, none⟩ = some (.string x.role) ∧ w'.cell? ⟨w.heap.size + 1 + 1 + 1 + 1 + 1 + 1 + 1 + 1 + 1 + 1 + 1 + 1, 2, none⟩ = some (.string x.host) ∧ w'.cell? ⟨w.heap.size + 1 + 1 + 1 + 1 + 1 + 1 + 1 + 1 + 1 + 1 + 1 + 1, 3, none⟩ = some (.int .i64 x.port) ∧ w'.cell? ⟨w.heap.size + 1 + 1 + 1 + 1 + 1 + 1 + 1 + 1 + 1 + 1 + 1 + 1, 4, none⟩ = some (.bool x.up) ∧ w'.cell? ⟨w.heap.size + 1 + 1 + 1 + 1 + 1 + 1 + 1 + 1 + 1 + 1 + 1 + 1, 5, none⟩ = some (.int .i64 x.down) ∧ w'.cell? ⟨w.heap.size + 1 + 1 + 1 + 1 + 1 + 1 + 1 + 1 + 1 + 1 + 1 + 1, 6, none⟩ = some (.int .i64 x.prio) ∧ w'.cell? ⟨w.heap.size + 1 + 1 + 1 + 1 + 1 + 1 + 1 + 1 + 1 + 1 + 1 + 1, 7, none⟩ = some (.int .i64 x.off) ∧ w'.cell? ⟨w.heap.size + 1 + 1 + 1 + 1 + 1 + 1 + 1 + 1 + 1 + 1 + 1 + 1, 8, none⟩ = some (.string x.rid) ∧ w'.cell? ⟨w.heap.size + 1 + 1 + 1 + 1 + 1 + 1 + 1 + 1 + 1 + 1 + 1 + 1, 9, none⟩ = some (.string x.prev) ∧ w'.cell? ⟨w.heap.size + 1 + 1 + 1 + 1 + 1 + 1 + 1 + 1 + 1 + 1 + 1 + 1, 10, none⟩ = some (.int .i64 x.so) ∧ w'.cell? ⟨w.heap.size + 1 + 1 + 1 + 1 + 1 + 1 + 1 + 1 + 1 + 1 + 1 + 1, 11, none⟩ = some (.int .i64 x.pe) ∧ w'.cell? ⟨w.heap.size + 1 + 1 + 1 + 1 + 1 + 1 + 1 + 1 + 1 + 1 + 1 + 1 + 1 + 1 + 1 + 1, 0, none⟩ = some (.string y.run) ∧ w'.cell? ⟨w.heap.size + 1 + 1 + 1 + 1 + 1 + 1 + 1 + 1 + 1 + 1 + 1 + 1 + 1 + 1 + 1 + 1, 1, none⟩ = some (.string y.role) ∧ w'.cell? ⟨w.heap.size + 1 + 1 + 1 + 1 + 1 + 1 + 1 + 1 + 1 + 1 + 1 + 1 + 1 + 1 + 1 + 1, 2, none⟩ = some (.string y.host) ∧ w'.cell? ⟨w.heap.size + 1 + 1 + 1 + 1 + 1 + 1 + 1 + 1 + 1 + 1 + 1 + 1 + 1 + 1 + 1 + 1, 3, none⟩ = some (.int .i64 y.port) ∧ w'.cell? ⟨w.heap.size + 1 + 1 + 1 + 1 + 1 + 1 + 1 + 1 + 1 + 1 + 1 + 1 + 1 + 1 + 1 + 1, 4, none⟩ = some (.bool y.up) ∧ w'.cell? ⟨w.heap.size + 1 + 1 + 1 + 1 + 1 + 1 + 1 + 1 + 1 + 1 + 1 + 1 + 1 + 1 + 1 + 1, 5, none⟩ = some (.int .i64 y.down) ∧ w'.cell? ⟨w.heap.size + 1 + 1 + 1 + 1 + 1 + 1 + 1 + 1 + 1 + 1 + 1 + 1 + 1 + 1 + 1 + 1, 6, none⟩ = some (.int .i64 y.prio) ∧ w'.cell? ⟨w.heap.size + 1 + 1 + 1 + 1 + 1 + 1 + 1 + 1 + 1 + 1 + 1 + 1 + 1 + 1 + 1 + 1, 7, none⟩ = some (.int .i64 y.off) ∧ w'.cell? ⟨w.heap.size + 1 + 1 + 1 + 1 + 1 + 1 + 1 + 1 + 1 + 1 + 1 + 1 + 1 + 1 + 1 + 1, 8, none⟩ = some (.string y.rid) ∧ w'.cell? ⟨w.heap.size + 1 + 1 + 1 + 1 + 1 + 1 + 1 + 1 + 1 + 1 + 1 + 1 + 1 + 1 + 1 + 1, 9, none⟩ = some (.string y.prev) ∧ w'.cell? ⟨w.heap.size + 1 + 1 + 1 + 1 + 1 + 1 + 1 + 1 + 1 + 1 + 1 + 1 + 1 + 1 + 1 + 1, 10, none⟩ = some (.int .i64 y.so) ∧ w'.cell? ⟨w.heap.size + 1 + 1 + 1 + 1 + 1 + 1 + 1 + 1 + 1 + 1 + 1 + 1 + 1 + 1 + 1 + 1, 11, none⟩ = some (.int .i64 y.pe)) (simp [go_sem, World.cell?_alloc_past])
      (first
        | (go_at_call 7; refine (same_b _ _ b1 ?_ _).mono ?_; (first | exact G1.out | exact G1s.out); rintro e w1 ⟨rfl, j1, j2, j3, j4, rfl⟩))
    cases b1
    · go_wp2_with fail
      refine (same_b x y false G1.out _).mono ?_
      rintro e w1 ⟨rfl, k1, k2, k3, k4, rfl⟩
      go_wp2_with fail
      go_ret
      exact ⟨rfl, by repeat (first | with_reducible exact Grown.refl _ | with_reducible apply Grown.alloc | with_reducible apply Grown.drew)⟩
    · go_wp2_with fail
      refine (same_b x y true G1.out _).mono ?_
      rintro e w1 ⟨rfl, k1, k2, k3, k4, rfl⟩
      go_wp2_with fail
      refine (same_b y z b2 G2.out _).mono ?_
      rintro e w1 ⟨rfl, l1, l2, l3, l4, rfl⟩
      cases b2
      · go_wp2_with fail
        go_ret
        exact ⟨rfl, by repeat (first | with_reducible exact Grown.refl _ | with_reducible apply Grown.alloc | with_reducible apply Grown.drew)⟩
      · go_wp2_with fail
        refine (same_b x z true (G3.out (by trivial) (by trivial)) _).mono ?_
        rintro e w1 ⟨rfl, m1, m2, m3, m4, rfl⟩
        go_wp2_with fail
        go_ret
        exact ⟨rfl, by repeat (first | with_reducible exact Grown.refl _ | with_reducible apply Grown.alloc | with_reducible apply Grown.drew)⟩
end Go.Proofs.Qxb6613382aMods.rw3
