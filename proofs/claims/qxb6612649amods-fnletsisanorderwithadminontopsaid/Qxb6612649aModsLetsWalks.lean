import Derived.Test.Qxb6612649aModsRows
import Derived.WalkKit
import Derived.ProofKit
import Derived.OpenShut
import Derived.ShutString
namespace Go.Proofs.Qxb6612649aMods.lw
open Go.ChangeShapes Go.WideShapes Go.ChangeAt Go.RowKit
set_option linter.unusedVariables false

def letsB (x r : ByteArray) : Bool := x.toList == r.toList || r.toList == [97, 100, 109, 105, 110]

theorem ret_bool {a b : Bool} (h : a = b) : Ending.returned (.bool a) = .returned (.bool b) := by rw [h]

set_option maxHeartbeats 400000 in
theorem lets_any (k : Int) (x r : ByteArray) (w : World) :
    Calls Trym.prog 21 #[.agg #[.int .i64 k, .string x], .string r] w fun e w' => e = .returned (.bool (letsB x r)) ∧ ∃ c, w' = w.alloc (.cells c 26) := by
  go_enter Trym.func21, Trym.ntmps21
  go_wp2
  · rename_i h
    go_ret
    exact ⟨ret_bool (by simp [letsB, h]), _, rfl⟩
  · go_ret
    exact ⟨ret_bool (by simp [letsB]), _, rfl⟩

set_option maxHeartbeats 400000 in
theorem zzlets_any (k : Int) (x r : ByteArray) (w : World) :
    Calls Trym.prog 9 #[.agg #[.int .i64 k, .string x], .string r] w fun e w' => e = .returned (.bool (letsB x r)) ∧ ∃ c d, w' = (w.alloc (.cells c 26)).alloc (.cells d 26) := by
  go_enter Trym.func9, Trym.ntmps9
  go_wp2_with fail
  refine (lets_any _ _ _ _).mono ?_
  rintro e w' ⟨rfl, c, rfl⟩
  go_wp2_with fail
  go_ret
  exact ⟨rfl, _, _, rfl⟩

set_option maxHeartbeats 400000 in
theorem newAccess_any (k : Int) (x : ByteArray) (w : World) :
    Calls Trym.prog 8 #[.int .i64 k, .string x] w fun e w' => e = .returned (.agg #[.int .i64 k, .string x]) ∧ ∃ c, w' = w.alloc (.cells c 26) := by
  go_enter Trym.func8, Trym.ntmps8
  go_wp2
  exact bodyPost_ret (v := .agg #[.int .i64 k, .string x]) (by simp [results, Trym.results8, go_sem]) rfl ⟨rfl, _, rfl⟩

set_option maxHeartbeats 1000000 in
theorem bytes_any (k : Int) (x r s : ByteArray) (hx : x.size ≤ maxLen) (hr : r.size ≤ maxLen) (hs : s.size ≤ maxLen) (w : World) :
    Calls Trym.prog 7 #[.int .i64 k, .string x, .string r, .string s] w fun e w' => (∃ b, e = .returned (.bool b) ∧ (b = true → (x.size : Int) + r.size + s.size ≤ 1048576)) ∧ w' = w := by
  unfold maxLen at hx hr hs
  go_enter Trym.func7, Trym.ntmps7
  go_wp2
  all_goals
    go_ret
    refine ⟨⟨_, rfl, ?_⟩, rfl⟩
    first | (intro _; assumption) | (intro h; cases h; done)

/-! ### the plain law -/
theorem lets_self (x : ByteArray) : letsB x x = true := by simp [letsB]
theorem lets_admin (x : ByteArray) : letsB x { data := #[97, 100, 109, 105, 110] } = true := by
  have h : ({ data := #[97, 100, 109, 105, 110] } : ByteArray).toList = [97, 100, 109, 105, 110] := by decide +kernel
  simp [letsB, h]
theorem lets_trans (x r s : ByteArray) (h1 : letsB x r = true) (h2 : letsB r s = true) : letsB x s = true := by
  simp [letsB] at *
  rcases h2 with h2 | h2
  · rw [h2] at h1; exact h1
  · exact Or.inr h2
theorem lets_anti (x r : ByteArray) (h1 : letsB x r = true) (h2 : letsB r x = true) : x.toList = r.toList := by
  simp [letsB] at *
  rcases h1 with h1 | h1
  · exact h1
  · rcases h2 with h2 | h2
    · exact h2.symm
    · rw [h1, h2]

theorem zzlets_b (k : Int) (x r : ByteArray) (b : Bool) (h : letsB x r = b) (w : World) :
    Calls Trym.prog 9 #[.agg #[.int .i64 k, .string x], .string r] w fun e w' => e = .returned (.bool b) ∧ ∃ c d, w' = (w.alloc (.cells c 26)).alloc (.cells d 26) := by
  subst h; exact zzlets_any k x r w

set_option maxHeartbeats 4000000 in
theorem walk_body (a0 : Int) (a1 a2 a3 : ByteArray) (w1 : a1.size ≤ maxLen) (w2 : a2.size ≤ maxLen) (w3 : a3.size ≤ maxLen) (w : World)
    (b1 b2 b3 : Bool) (g1 : letsB a1 a2 = b1) (g2 : letsB a2 a3 = b2) (g3 : letsB a2 a1 = b3) :
    Calls Trym.prog 3 #[.int .i64 a0, .string a1, .string a2, .string a3] w fun e w' => e = .returned (.bool true) ∧ Grown w w' := by
  have hb : ∀ w, _ := fun w => bytes_any a0 a1 a2 a3 w1 w2 w3 w
  have hB : Hid (∀ w, _) := hb
  clear hb
  have G1 : Hid (letsB a1 a2 = b1) := g1
  have G2 : Hid (letsB a2 a3 = b2) := g2
  have G3 : Hid (letsB a2 a1 = b3) := g3
  have G4 : Hid (b1 = true → b2 = true → letsB a1 a3 = true) := fun h1 h2 => lets_trans a1 a2 a3 (g1.trans h1) (g2.trans h2)
  have G5 : Hid (b1 = true → b3 = true → a1.toList = a2.toList) := fun h1 h3 => lets_anti a1 a2 (g1.trans h1) (g3.trans h3)
  clear g1 g2 g3
  go_enter Trym.func3, Trym.ntmps3
  go_wp2_with fail
  refine (hB.out _).mono ?_
  rintro e w' ⟨⟨b, rfl, hs⟩, rfl⟩
  cases b
  · clear hs
    go_wp2_with fail
    go_ret
    exact ⟨rfl, Grown.refl _⟩
  · have hs' := hs rfl
    clear hs hB w1 w2 w3
    have h1 : (a1.size : Int) ≤ 1048576 := by omega
    have h2 : (a2.size : Int) ≤ 1048576 := by omega
    have h3 : (a3.size : Int) ≤ 1048576 := by omega
    go_wp2_with fail
    refine (newAccess_any _ _ _).mono ?_
    rintro e wa ⟨rfl, ca, rfl⟩
    go_wp2_with fail
    refine (newAccess_any _ _ _).mono ?_
    rintro e wb ⟨rfl, cb, rfl⟩
    go_wp2_with fail
    refine (newAccess_any _ _ _).mono ?_
    rintro e wc ⟨rfl, cc, rfl⟩
    go_wp2_with fail
    refine (zzlets_b _ _ _ true (lets_self _) _).mono ?_
    rintro e w1 ⟨rfl, c1, d1, rfl⟩
    go_wp2_with fail
    refine (zzlets_b _ _ _ true (lets_admin _) _).mono ?_
    rintro e w1 ⟨rfl, c2, d2, rfl⟩
    go_wp2_with fail
    refine (zzlets_b _ _ _ b1 G1.out _).mono ?_
    rintro e w1 ⟨rfl, c3, d3, rfl⟩
    go_wp2_with fail
    refine (zzlets_b _ _ _ b1 G1.out _).mono ?_
    rintro e w1 ⟨rfl, c4, d4, rfl⟩
    go_wp2_with fail
    refine (zzlets_b _ _ _ b2 G2.out _).mono ?_
    rintro e w1 ⟨rfl, c5, d5, rfl⟩
    cases b1
    · go_wp2_with fail
      go_ret
      exact ⟨rfl, by repeat (first | apply Grown.alloc | exact Grown.refl _)⟩
    · cases b2
      · go_wp2_with fail
        refine (zzlets_b _ _ _ b3 G3.out _).mono ?_
        rintro e w1 ⟨rfl, c6, d6, rfl⟩
        cases b3
        · go_wp2_with fail
          go_ret
          exact ⟨rfl, by repeat (first | apply Grown.alloc | exact Grown.refl _)⟩
        · have he := G5.out (by trivial) (by trivial)
          go_wp2_with fail
          go_ret
          exact ⟨rfl, by repeat (first | apply Grown.alloc | exact Grown.refl _)⟩
      · go_wp2_with fail
        refine (zzlets_b _ _ _ true (G4.out (by trivial) (by trivial)) _).mono ?_
        rintro e w1 ⟨rfl, c6, d6, rfl⟩
        go_wp2_with fail
        refine (zzlets_b _ _ _ b3 G3.out _).mono ?_
        rintro e w1 ⟨rfl, c7, d7, rfl⟩
        cases b3
        · go_wp2_with fail
          go_ret
          exact ⟨rfl, by repeat (first | apply Grown.alloc | exact Grown.refl _)⟩
        · have he := G5.out (by trivial) (by trivial)
          go_wp2_with fail
          go_ret
          exact ⟨rfl, by repeat (first | apply Grown.alloc | exact Grown.refl _)⟩

theorem walk (a0 : Int) (a1 a2 a3 : ByteArray) (w1 : a1.size ≤ maxLen) (w2 : a2.size ≤ maxLen) (w3 : a3.size ≤ maxLen) (w : World) :
    Calls Trym.prog 3 #[.int .i64 a0, .string a1, .string a2, .string a3] w fun e w' => e = .returned (.bool true) ∧ Grown w w' :=
  walk_body a0 a1 a2 a3 w1 w2 w3 w _ _ _ rfl rfl rfl
end Go.Proofs.Qxb6612649aMods.lw
