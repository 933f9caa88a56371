import Derived.Test.Qxb6613382aModsRows
import Derived.Test.Qxb6613382aModsRoleLaw
import Derived.Test.Qxb6613382aModsRoleOpen
namespace Go.Proofs.Qxb6613382aMods.fnSameRoleIsEquivalence
open Go.ChangeShapes Go.WideShapes Go.ChangeAt Go.RowKit
open Go.Proofs.Qxb6613382aMods.rw3
set_option linter.unusedVariables false

theorem own : ownKnob Trym.prog.godebug = none := by kernel_rfl

/-! ### The walk, at inputs that read as data. -/
theorem walk (x y z : Inf) (hx : x.Fits) (hy : y.Fits) (hz : z.Fits) (w : World) :
    Calls Trym.prog 3 #[.agg #[.string x.run, .string x.role, .string x.host, .int .i64 x.port, .bool x.up, .int .i64 x.down, .int .i64 x.prio, .int .i64 x.off, .string x.rid, .string x.prev, .int .i64 x.so, .int .i64 x.pe], .agg #[.string y.run, .string y.role, .string y.host, .int .i64 y.port, .bool y.up, .int .i64 y.down, .int .i64 y.prio, .int .i64 y.off, .string y.rid, .string y.prev, .int .i64 y.so, .int .i64 y.pe], .agg #[.string z.run, .string z.role, .string z.host, .int .i64 z.port, .bool z.up, .int .i64 z.down, .int .i64 z.prio, .int .i64 z.off, .string z.rid, .string z.prev, .int .i64 z.so, .int .i64 z.pe]] w fun e w' => e = .returned (.bool true) ∧ Grown w w' :=
  rw3.walk x y z hx.f0 hx.f1 hx.f2 hx.f8 hx.f9 hy.f0 hy.f1 hy.f2 hy.f8 hy.f9 hz.f0 hz.f1 hz.f2 hz.f8 hz.f9 w _ _ rfl rfl

/-! ### The row's step -/
set_option maxRecDepth 100000 in
theorem lifted (os : Os) (started : os.Started) (H : Type) (enc : TypeId × Value → H) :
    ReturnsInHanded {} Trym.checked os 3 .any (Rows.fnSameRoleIsEquivalenceSpec.pre6 enc Trym.prog Trym.f3 Rows.fnSameRoleIsEquivalenceRow.domain false) (Rows.fnSameRoleIsEquivalenceSpec.post enc Trym.prog Trym.f3 false true false false) := by
  refine returnsInHanded_of_change (C := Trym.checked) own started (by kernel_rfl) Trym.func3
    (ChangeSpec.witness6 (enc := enc) (C := Trym.checked) false ⟨#[], #[.agg #[.string ByteArray.empty, .string ByteArray.empty, .string ByteArray.empty, .int .i64 0, .bool false, .int .i64 0, .int .i64 0, .int .i64 0, .string ByteArray.empty, .string ByteArray.empty, .int .i64 0, .int .i64 0], .agg #[.string ByteArray.empty, .string ByteArray.empty, .string ByteArray.empty, .int .i64 0, .bool false, .int .i64 0, .int .i64 0, .int .i64 0, .string ByteArray.empty, .string ByteArray.empty, .int .i64 0, .int .i64 0], .agg #[.string ByteArray.empty, .string ByteArray.empty, .string ByteArray.empty, .int .i64 0, .bool false, .int .i64 0, .int .i64 0, .int .i64 0, .string ByteArray.empty, .string ByteArray.empty, .int .i64 0, .int .i64 0]], []⟩ 8 (by kernel_rfl) (by kernel_rfl) (by kernel_rfl) (by kernel_rfl)) ?_
  intro W base args ds gs before hval0 hW hcnd _
  have hval : ∀ (j : Nat) t v, Trym.f3.params[j]? = some t → args[j]? = some v → Value.okWide Trym.prog W .any base t v := hval0
  have hW' := hW
  obtain ⟨p, q, hA0, hV, rfl, hfz, hnd⟩ := hW
  have hA : DataW.TrodAll enc Trym.prog W 0 (fun _ => true) true Trym.f3.params.toList args.toList ds p := hA0
  rw [Trym.params3] at hA hval
  obtain ⟨v0, vs0, d0, ds0, p0, q0, hargs, rfl, rfl, h0, r0⟩ := trodAll_cons hA
  obtain ⟨v1, vs1, d1, ds1, p1, q1, rfl, rfl, rfl, h1, r1⟩ := trodAll_cons r0
  obtain ⟨v2, vs2, d2, ds2, p2, q2, rfl, rfl, rfl, h2, r2⟩ := trodAll_cons r1
  obtain ⟨rfl, rfl, rfl⟩ := trodAll_nil r2
  obtain rfl : args = #[v0, v1, v2] := by cases args; simp_all
  obtain ⟨rfl, rfl⟩ := trodVars_none hV
  obtain ⟨x, rfl, rfl, rfl, hx⟩ := open_inf (hval 0 23 v0 rfl rfl) h0
  obtain ⟨y, rfl, rfl, rfl, hy⟩ := open_inf (hval 1 23 v1 rfl rfl) h1
  obtain ⟨z, rfl, rfl, rfl, hz⟩ := open_inf (hval 2 23 v2 rfl rfl) h2
  clear hA0 hval0
  simp only [List.append_nil] at hW'
  refine (walk x y z hx hy hz W).mono fun e W' ⟨he, hg⟩ => ?_
  subst he
  exact ⟨_, rfl, post_of_same (pa := []) (pv := []) hW' (fun _ _ _ => (trodAll_cons_mk (shut_bool Trym.underlying4 _) trodAll_mk0)) (fun sp _ => (trodAll_cons_mk (shut_inf x hx) (trodAll_cons_mk (shut_inf y hy) (trodAll_cons_mk (shut_inf z hz) trodAll_mk0)))) (fun _ _ => rfl) rfl
    (hg.frame _) hg.2.1 (ok_one (by kernel_rfl) rfl (okWide_bool_mk Trym.underlying4 _))⟩

theorem over : Rows.fnSameRoleIsEquivalenceRow.holds Trym.pinned (OpenSpec.ofChange Rows.fnSameRoleIsEquivalenceSpec) :=
  OpenClaim.holds_of_wide 3 Trym.f3 rfl rfl rfl rfl rfl rfl rfl ⟨rfl, rfl, rfl, rfl, rfl⟩ rfl rfl rfl rfl rfl (by kernel_rfl) Trym.func3 (by kernel_rfl)
    (of_decide_eq_true (by kernel_rfl)) (by unfold Func.isWrapper; first | (rw [if_pos (by decide +kernel)]; kernel_rfl) | (rw [if_neg (by decide +kernel)]; exact ⟨rfl, rfl⟩))
    (fun os started H enc _ => lifted os started H enc)

theorem proved : Rows.FnSameRoleIsEquivalenceSaid :=
  over
end Go.Proofs.Qxb6613382aMods.fnSameRoleIsEquivalence

theorem Go.Proofs.Qxb6613382aMods.fnSameRoleIsEquivalenceProved : Go.Proofs.Qxb6613382aMods.Rows.FnSameRoleIsEquivalenceSaid :=
  Go.Proofs.Qxb6613382aMods.fnSameRoleIsEquivalence.proved
