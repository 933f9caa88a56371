import Derived.Test.Qxb6613382aModsRoleWalks
namespace Go.Proofs.Qxb6613382aMods.rw3
open Go.ChangeShapes Go.WideShapes Go.ChangeAt Go.RowKit
set_option linter.unusedVariables false

theorem cells2 : Trym.prog.cellsOf 2 = 1 := by kernel_rfl
theorem cells3 : Trym.prog.cellsOf 3 = 1 := by kernel_rfl
theorem cells4 : Trym.prog.cellsOf 4 = 1 := by kernel_rfl
theorem cells9 : Trym.prog.cellsOf 9 = 1 := by kernel_rfl
theorem cells23 : Trym.prog.cellsOf 23 = 12 := by kernel_rfl

theorem list12 {α : Type} {l : List α} (h : l.length = 12) : ∃ c0 c1 c2 c3 c4 c5 c6 c7 c8 c9 c10 c11, l = [c0, c1, c2, c3, c4, c5, c6, c7, c8, c9, c10, c11] := by
  match l, h with
  | [c0, c1, c2, c3, c4, c5, c6, c7, c8, c9, c10, c11], _ => exact ⟨c0, c1, c2, c3, c4, c5, c6, c7, c8, c9, c10, c11, rfl⟩
theorem array12 {α : Type} {a : Array α} (h : a.size = 12) : ∃ c0 c1 c2 c3 c4 c5 c6 c7 c8 c9 c10 c11, a = #[c0, c1, c2, c3, c4, c5, c6, c7, c8, c9, c10, c11] := by
  obtain ⟨l⟩ := a
  obtain ⟨c0, c1, c2, c3, c4, c5, c6, c7, c8, c9, c10, c11, rfl⟩ := list12 (l := l) h
  exact ⟨c0, c1, c2, c3, c4, c5, c6, c7, c8, c9, c10, c11, rfl⟩
/-- What holds of an 'InfoIn' that reads as data: its strings are no longer than a string can be, its numbers fit their kind. -/
structure Inf.Fits (x : Inf) : Prop where
  f0 : x.run.size ≤ maxLen
  f1 : x.role.size ≤ maxLen
  f2 : x.host.size ≤ maxLen
  f3 : (Lit.int .i64 x.port).wf = true
  f4 : x.up = x.up
  f5 : (Lit.int .i64 x.down).wf = true
  f6 : (Lit.int .i64 x.prio).wf = true
  f7 : (Lit.int .i64 x.off).wf = true
  f8 : x.rid.size ≤ maxLen
  f9 : x.prev.size ≤ maxLen
  f10 : (Lit.int .i64 x.so).wf = true
  f11 : (Lit.int .i64 x.pe).wf = true
set_option maxHeartbeats 1000000 in
theorem open_inf {H : Type} {enc : TypeId × Value → H} {w : World} {r : Reach} {b0 base : Nat} {spare : Nat → Bool} {held : Bool} {v : Value} {d : DataW H} {p : List MemPlace}
    (hv : Value.okWide Trym.prog w r b0 23 v) (h : DataW.Trod enc Trym.prog w base spare held 23 v d p) :
    ∃ x : Inf, v = .agg #[.string x.run, .string x.role, .string x.host, .int .i64 x.port, .bool x.up, .int .i64 x.down, .int .i64 x.prio, .int .i64 x.off, .string x.rid, .string x.prev, .int .i64 x.so, .int .i64 x.pe] ∧ d = .agg [.lit (.string x.run.data.toList), .lit (.string x.role.data.toList), .lit (.string x.host.data.toList), .lit (.int .i64 x.port), .lit (.bool x.up), .lit (.int .i64 x.down), .lit (.int .i64 x.prio), .lit (.int .i64 x.off), .lit (.string x.rid.data.toList), .lit (.string x.prev.data.toList), .lit (.int .i64 x.so), .lit (.int .i64 x.pe)] ∧ p = [] ∧ x.Fits := by
  obtain ⟨cs, rfl, hsz⟩ := okWide_struct Trym.underlying23 hv
  obtain ⟨c0, c1, c2, c3, c4, c5, c6, c7, c8, c9, c10, c11, rfl⟩ := array12 (hsz.trans cells23)
  obtain ⟨fuel, hf⟩ := h
  obtain ⟨xs, n, _, hx, _, hxl, hall⟩ := DataW.trod_struct Trym.underlying23 hf
  obtain ⟨y0, y1, y2, y3, y4, y5, y6, y7, y8, y9, y10, y11, rfl⟩ := list12 (l := xs) hxl
  have k0 := hall 0 _ rfl
  have k1 := hall 1 _ rfl
  have k2 := hall 2 _ rfl
  have k3 := hall 3 _ rfl
  have k4 := hall 4 _ rfl
  have k5 := hall 5 _ rfl
  have k6 := hall 6 _ rfl
  have k7 := hall 7 _ rfl
  have k8 := hall 8 _ rfl
  have k9 := hall 9 _ rfl
  have k10 := hall 10 _ rfl
  have k11 := hall 11 _ rfl
  obtain ⟨s0, e0, q0, m0⟩ := DataW.trod_string Trym.underlying9 k0
  simp [Value.cells, cells9] at e0 q0
  subst e0 q0
  obtain ⟨s1, e1, q1, m1⟩ := DataW.trod_string Trym.underlying9 k1
  simp [Value.cells, cells9] at e1 q1
  subst e1 q1
  obtain ⟨s2, e2, q2, m2⟩ := DataW.trod_string Trym.underlying9 k2
  simp [Value.cells, cells9] at e2 q2
  subst e2 q2
  obtain ⟨s3, e3, q3, m3⟩ := DataW.trod_int Trym.underlying3 k3
  simp [Value.cells, cells3] at e3 q3
  subst e3 q3
  obtain ⟨s4, e4, q4⟩ := DataW.trod_bool Trym.underlying4 k4
  simp [Value.cells, cells4] at e4 q4
  subst e4 q4
  obtain ⟨s5, e5, q5, m5⟩ := DataW.trod_int Trym.underlying2 k5
  simp [Value.cells, cells2] at e5 q5
  subst e5 q5
  obtain ⟨s6, e6, q6, m6⟩ := DataW.trod_int Trym.underlying3 k6
  simp [Value.cells, cells3] at e6 q6
  subst e6 q6
  obtain ⟨s7, e7, q7, m7⟩ := DataW.trod_int Trym.underlying2 k7
  simp [Value.cells, cells2] at e7 q7
  subst e7 q7
  obtain ⟨s8, e8, q8, m8⟩ := DataW.trod_string Trym.underlying9 k8
  simp [Value.cells, cells9] at e8 q8
  subst e8 q8
  obtain ⟨s9, e9, q9, m9⟩ := DataW.trod_string Trym.underlying9 k9
  simp [Value.cells, cells9] at e9 q9
  subst e9 q9
  obtain ⟨s10, e10, q10, m10⟩ := DataW.trod_int Trym.underlying2 k10
  simp [Value.cells, cells2] at e10 q10
  subst e10 q10
  obtain ⟨s11, e11, q11, m11⟩ := DataW.trod_int Trym.underlying2 k11
  simp [Value.cells, cells2] at e11 q11
  subst e11 q11
  simp only [Prod.mk.injEq] at hx
  obtain ⟨rfl, rfl⟩ := hx
  exact ⟨⟨s0, s1, s2, s3, s4, s5, s6, s7, s8, s9, s10, s11⟩, rfl, rfl, rfl, ⟨m0, m1, m2, m3, rfl, m5, m6, m7, m8, m9, m10, m11⟩⟩

set_option maxHeartbeats 1000000 in
theorem shut_inf {H : Type} {enc : TypeId × Value → H} {w : World} {base : Nat} {spare : Nat → Bool} {held : Bool} (x : Inf) (h : x.Fits) :
    DataW.Trod enc Trym.prog w base spare held 23 (.agg #[.string x.run, .string x.role, .string x.host, .int .i64 x.port, .bool x.up, .int .i64 x.down, .int .i64 x.prio, .int .i64 x.off, .string x.rid, .string x.prev, .int .i64 x.so, .int .i64 x.pe]) (.agg [.lit (.string x.run.data.toList), .lit (.string x.role.data.toList), .lit (.string x.host.data.toList), .lit (.int .i64 x.port), .lit (.bool x.up), .lit (.int .i64 x.down), .lit (.int .i64 x.prio), .lit (.int .i64 x.off), .lit (.string x.rid.data.toList), .lit (.string x.prev.data.toList), .lit (.int .i64 x.so), .lit (.int .i64 x.pe)]) [] := by
  refine ⟨2, ?_⟩
  have := trod_struct_mk (enc := enc) (w := w) (base := base) (spare := spare) (held := held) (n := 1) (P := Trym.prog) (t := 23)
    (cs := [.string x.run, .string x.role, .string x.host, .int .i64 x.port, .bool x.up, .int .i64 x.down, .int .i64 x.prio, .int .i64 x.off, .string x.rid, .string x.prev, .int .i64 x.so, .int .i64 x.pe])
    (xs := [(.lit (.string x.run.data.toList), []), (.lit (.string x.role.data.toList), []), (.lit (.string x.host.data.toList), []), (.lit (.int .i64 x.port), []), (.lit (.bool x.up), []), (.lit (.int .i64 x.down), []), (.lit (.int .i64 x.prio), []), (.lit (.int .i64 x.off), []), (.lit (.string x.rid.data.toList), []), (.lit (.string x.prev.data.toList), []), (.lit (.int .i64 x.so), []), (.lit (.int .i64 x.pe), [])]) Trym.underlying23 (by rw [cells23]; rfl)
    (by simp [DataW.trod, cells2, cells3, cells4, cells9, Trym.underlying2, Trym.underlying3, Trym.underlying4, Trym.underlying9, h.f0, h.f1, h.f2, h.f3, h.f5, h.f6, h.f7, h.f8, h.f9, h.f10, h.f11])
  simpa [Value.cells] using this
end Go.Proofs.Qxb6613382aMods.rw3
