import Derived.Test.Qxb6613068aModsRows
import Derived.WalkKit
import Derived.ProofKit
import Derived.OpenShut
import Derived.ShutString
namespace Go.Proofs.Qxb6613068aMods.nw
open Go.ChangeShapes Go.WideShapes Go.ChangeAt Go.RowKit
set_option linter.unusedVariables false

set_option maxHeartbeats 400000 in
theorem namesAtOf_any (n k l m : Int) (h0 : 0 ≤ n) (h1 : n ≤ 4294967296) (w : World) :
    Calls Trym.prog 7 #[.int .i64 n, .int .i64 k, .int .i64 l, .int .i64 m] w fun e w' => e = .returned (.int .i64 (56 + n * 14)) ∧ ∃ c, w' = w.alloc (.cells c 38) := by
  go_enter Trym.func7, Trym.ntmps7
  go_wp2
  go_ret
  exact ⟨rfl, _, rfl⟩

theorem ret_bool {a : Bool} (h : a = true) : Ending.returned (.bool a) = .returned (.bool true) := by rw [h]
theorem hid_mk {p : Prop} (h : p) : Hid p := h

/-! ### the plain law -/
theorem joined_law (a0 a4 : Int) : ((56 + (a0 + a4) * 14 + 56 : Int) == 56 + a0 * 14 + (56 + a4 * 14)) = true := by
  rw [beq_iff_eq]; omega
theorem step_law (s : Int) : (56 + (s + 1) * 14 - (56 + s * 14) : Int) = 14 := by omega

set_option maxHeartbeats 1000000 in
theorem walk_in (a0 a1 a2 a3 a4 : Int) (w : World) (h0 : 0 ≤ a0) (k0 : a0 ≤ 4294967295) (h1 : 0 ≤ a1) (k1 : a1 ≤ 4294967295)
    (h2 : 0 ≤ a2) (k2 : a2 ≤ 4294967295) (h3 : 0 ≤ a3) (k3 : a3 ≤ 4294967295) (h4 : 0 ≤ a4) (k4 : a4 ≤ 4294967295)
    (ks : a0 + a4 ≤ 4294967295) (hne : (a0 == 4294967295) = false) :
    Calls Trym.prog 5 #[.int .i64 a0, .int .i64 a1, .int .i64 a2, .int .i64 a3, .int .i64 a4] w fun e w' => e = .returned (.bool true) ∧ Grown w w' := by
  have HJ : Hid (((56 + (a0 + a4) * 14 + 56 : Int) == 56 + a0 * 14 + (56 + a4 * 14)) = true) := joined_law a0 a4
  have HS : Hid ((56 + (a0 + 1) * 14 - (56 + a0 * 14) : Int) = 14) := step_law a0
  go_enter Trym.func5, Trym.ntmps5
  go_wp2_with fail
  refine (namesAtOf_any _ _ _ _ (by omega) (by omega) _).mono ?_
  rintro e w1 ⟨rfl, c1, rfl⟩
  go_wp2_with fail
  refine (namesAtOf_any _ _ _ _ (by omega) (by omega) _).mono ?_
  rintro e w1 ⟨rfl, c2, rfl⟩
  go_wp2_with fail
  refine (namesAtOf_any _ _ _ _ (by omega) (by omega) _).mono ?_
  rintro e w1 ⟨rfl, c3, rfl⟩
  go_wp2_with fail
  refine (namesAtOf_any _ _ _ _ (by omega) (by omega) _).mono ?_
  rintro e w1 ⟨rfl, c4, rfl⟩
  go_wp2_with fail
  refine (namesAtOf_any _ _ _ _ (by omega) (by omega) _).mono ?_
  rintro e w1 ⟨rfl, c5, rfl⟩
  go_wp2_with fail
  refine (namesAtOf_any _ _ _ _ (by omega) (by omega) _).mono ?_
  rintro e w1 ⟨rfl, c6, rfl⟩
  go_wp2_with fail
  go_ret
  exact ⟨ret_bool HJ.out, by repeat (first | apply Grown.alloc | exact Grown.refl _)⟩

set_option maxHeartbeats 1000000 in
theorem walk_top (a0 a1 a2 a3 a4 : Int) (w : World) (h0 : 0 ≤ a0) (k0 : a0 ≤ 4294967295) (h1 : 0 ≤ a1) (k1 : a1 ≤ 4294967295)
    (h2 : 0 ≤ a2) (k2 : a2 ≤ 4294967295) (h3 : 0 ≤ a3) (k3 : a3 ≤ 4294967295) (h4 : 0 ≤ a4) (k4 : a4 ≤ 4294967295)
    (ks : a0 + a4 ≤ 4294967295) (hl : 4294967295 ≤ a0) (hne : (a0 == 4294967295) = true) :
    Calls Trym.prog 5 #[.int .i64 a0, .int .i64 a1, .int .i64 a2, .int .i64 a3, .int .i64 a4] w fun e w' => e = .returned (.bool true) ∧ Grown w w' := by
  have HJ : Hid (((56 + (a0 + a4) * 14 + 56 : Int) == 56 + a0 * 14 + (56 + a4 * 14)) = true) := joined_law a0 a4
  go_enter Trym.func5, Trym.ntmps5
  go_wp2_with fail
  refine (namesAtOf_any _ _ _ _ (by omega) (by omega) _).mono ?_
  rintro e w1 ⟨rfl, c1, rfl⟩
  go_wp2_with fail
  refine (namesAtOf_any _ _ _ _ (by omega) (by omega) _).mono ?_
  rintro e w1 ⟨rfl, c2, rfl⟩
  go_wp2_with fail
  refine (namesAtOf_any _ _ _ _ (by omega) (by omega) _).mono ?_
  rintro e w1 ⟨rfl, c3, rfl⟩
  go_wp2_with fail
  refine (namesAtOf_any _ _ _ _ (by omega) (by omega) _).mono ?_
  rintro e w1 ⟨rfl, c4, rfl⟩
  go_wp2_with fail
  refine (namesAtOf_any _ _ _ _ (by omega) (by omega) _).mono ?_
  rintro e w1 ⟨rfl, c5, rfl⟩
  go_wp2_with fail
  refine (namesAtOf_any _ _ _ _ (by omega) (by omega) _).mono ?_
  rintro e w1 ⟨rfl, c6, rfl⟩
  go_wp2_with fail
  go_ret
  exact ⟨ret_bool HJ.out, by repeat (first | apply Grown.alloc | exact Grown.refl _)⟩

set_option maxHeartbeats 1000000 in
theorem walk (a0 a1 a2 a3 a4 : Int) (w : World) :
    Calls Trym.prog 5 #[.int .i64 a0, .int .i64 a1, .int .i64 a2, .int .i64 a3, .int .i64 a4] w fun e w' => e = .returned (.bool true) ∧ Grown w w' := by
  by_cases hin : ((((((((0 ≤ a0 ∧ a0 ≤ 4294967295) ∧ 0 ≤ a1) ∧ a1 ≤ 4294967295) ∧ 0 ≤ a2) ∧ a2 ≤ 4294967295) ∧ 0 ≤ a3) ∧ a3 ≤ 4294967295) ∧ 0 ≤ a4) ∧ a4 ≤ 4294967295 ∧ a0 + a4 ≤ 4294967295
  · by_cases ht : a0 = 4294967295
    · exact walk_top a0 a1 a2 a3 a4 w (by omega) (by omega) (by omega) (by omega) (by omega) (by omega) (by omega) (by omega) (by omega) (by omega) (by omega) (by omega) (beq_iff_eq.2 ht)
    · exact walk_in a0 a1 a2 a3 a4 w (by omega) (by omega) (by omega) (by omega) (by omega) (by omega) (by omega) (by omega) (by omega) (by omega) (by omega) (beq_eq_false_iff_ne.2 ht)
  · have HI := hid_mk hin
    clear hin
    go_enter Trym.func5, Trym.ntmps5
    go_wp2_with fail
    any_goals (go_ret; exact ⟨rfl, Grown.refl _⟩)
    exact absurd (by omega) HI.out
end Go.Proofs.Qxb6613068aMods.nw
