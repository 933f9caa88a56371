import Derived.Test.Qxb6001195aModsHexRender
namespace Go.Proofs.Qxb6001195aMods.hx
open Go.ChangeShapes Go.WideShapes Go.ChangeAt Go.RowKit
set_option linter.unusedVariables false

/-! ### the plain law -/
/-- Has one of the k lowest hex digits of v a letter? -/
def hasL (v k : Nat) : Bool := (List.range k).any fun i => decide (10 ≤ v / 16 ^ i % 16)
theorem hasL_zero (v : Nat) : hasL v 0 = false := by simp [hasL]
theorem hasL_succ (v k : Nat) : hasL v (k + 1) = (hasL v k || decide (10 ≤ v / 16 ^ k % 16)) := by
  unfold hasL; rw [List.range_succ, List.any_append]; simp
theorem hasL_yes (v k : Nat) (h : 10 ≤ v / 16 ^ k % 16) : hasL v (k + 1) = true := by rw [hasL_succ]; simp [h]
theorem hasL_no (v k : Nat) (h : ¬ 10 ≤ v / 16 ^ k % 16) : hasL v (k + 1) = hasL v k := by rw [hasL_succ]; simp [h]

theorem dig_low (up : Bool) (d : Nat) (h : d < 16) : lhB (UInt8.ofNat (digN up d).toNat) = (decide (d < 10) || !up) := by
  have : d = 0 ∨ d = 1 ∨ d = 2 ∨ d = 3 ∨ d = 4 ∨ d = 5 ∨ d = 6 ∨ d = 7 ∨ d = 8 ∨ d = 9 ∨ d = 10 ∨ d = 11 ∨ d = 12 ∨ d = 13 ∨ d = 14 ∨ d = 15 := by omega
  cases up <;> rcases this with rfl | rfl | rfl | rfl | rfl | rfl | rfl | rfl | rfl | rfl | rfl | rfl | rfl | rfl | rfl | rfl <;> decide
theorem str_size (v : Nat) (up : Bool) : (strOfNums (numsFrom v up 0)).size = 16 := by rw [strOfNums_size]; simp [numsFrom]
theorem low_str (v : Nat) (up : Bool) : lowS (strOfNums (numsFrom v up 0)) = (List.range 16).all fun j => decide (nib v j < 10) || !up := by
  unfold lowS
  rw [strOfNums_data, numsFrom, List.map_map, List.all_map]
  apply List.all_congr rfl
  intro j
  simp only [Function.comp, Nat.zero_le, if_true]
  exact dig_low up (nib v j) (Nat.mod_lt _ (by decide))
theorem low_lower (v : Nat) : lowS (strOfNums (numsFrom v false 0)) = true := by rw [low_str]; simp
theorem low_upper (v : Nat) : lowS (strOfNums (numsFrom v true 0)) = !hasL v 16 := by
  rw [low_str, Bool.eq_iff_iff]
  simp only [hasL, List.all_eq_true, List.mem_range, Bool.not_true, Bool.or_false, decide_eq_true_eq, Bool.not_eq_true', List.any_eq_false]
  constructor
  · intro h i hi
    have := h (15 - i) (by omega)
    unfold nib at this
    rw [show 15 - (15 - i) = i from by omega] at this
    omega
  · intro h j hj
    have := h (15 - j) (by omega)
    unfold nib
    omega
theorem lown_ne (s : ByteArray) (n : Int) (h : s.size = 16) (hn : n ≠ 16) : lowN s n = false := by
  unfold lowN; rw [h]; simp; intro h'; omega
theorem lown_eq (s : ByteArray) (h : s.size = 16) : lowN s 16 = lowS s := by
  unfold lowN; rw [h]; simp

theorem zz_b (s : ByteArray) (n : Int) (b : Bool) (hs : s.size = 16) (h : lowN s n = b) (w : World) :
    Calls Trym.prog 6 #[.string s, .int .i64 n] w fun e w' => e = .returned (.bool b) ∧ w' = w := by
  subst h; exact zzIsLowerHex_any s n w (by rw [hs]; unfold maxLen; omega)

set_option maxHeartbeats 1000000 in
theorem walk (v : Nat) (hv : v < 18446744073709551616) (w : World) :
    Calls Trym.prog 4 #[.int .u64 v] w fun e w' => e = .returned (.bool true) ∧ Grown w w' := by
  have H0 : Hid ((strOfNums (numsFrom v false 0)).size = 16) := str_size v false
  have H1 : Hid (lowN (strOfNums (numsFrom v false 0)) 16 = true) := (lown_eq _ (str_size v false)).trans (low_lower v)
  have H2 : Hid (lowN (strOfNums (numsFrom v false 0)) 15 = false) := lown_ne _ _ (str_size v false) (by decide)
  have H3 : Hid (lowN (strOfNums (numsFrom v false 0)) 17 = false) := lown_ne _ _ (str_size v false) (by decide)
  have K0 : Hid ((strOfNums (numsFrom v true 0)).size = 16) := str_size v true
  have K1 : Hid (lowN (strOfNums (numsFrom v true 0)) 16 = !hasL v 16) := (lown_eq _ (str_size v true)).trans (low_upper v)
  go_enter Trym.func4, Trym.ntmps4
  go_wp2_with fail
  refine (render_any v false hv _).mono ?_
  rintro e w1 ⟨rfl, c1, rfl⟩
  generalize strOfNums (numsFrom v false 0) = s at *
  go_wp2_with fail
  refine (render_any v true hv _).mono ?_
  rintro e w1 ⟨rfl, c2, rfl⟩
  generalize strOfNums (numsFrom v true 0) = u at *
  go_wp2_with fail
  go_loop [5, 6, 7] (fun h x i => ∃ k : Nat, k ≤ 16 ∧ i = .int .i64 k ∧ x = .int .u64 ↑(v / 16 ^ k) ∧ h = .bool (hasL v k)) (fun h x i => 16 - (intOf i).toNat)
  case atStart => exact ⟨0, by omega, rfl, by simp, by rw [hasL_zero]⟩
  case round =>
    obtain ⟨k, hk, rfl, rfl, rfl⟩ := hrel
    by_cases hlt : k < 16
    · have hki : (k : Int) < 16 := by omega
      have HD : Hid (v / 16 ^ k / 16 = v / 16 ^ (k + 1)) := by
        show v / 16 ^ k / 16 = v / 16 ^ (k + 1)
        rw [Nat.div_div_eq_div_mul, ← Nat.pow_succ]
      have HY : Hid (10 ≤ v / 16 ^ k % 16 → hasL v (k + 1) = true) := hasL_yes v k
      have HN : Hid (¬ 10 ≤ v / 16 ^ k % 16 → hasL v (k + 1) = hasL v k) := hasL_no v k
      have hxl : v / 16 ^ k < 18446744073709551616 := Nat.lt_of_le_of_lt (Nat.div_le_self _ _) hv
      generalize v / 16 ^ k = x at *
      generalize hasL v k = b at *
      have ha := and15 x hxl
      have hd16 : x % 16 < 16 := Nat.mod_lt _ (by decide)
      generalize x % 16 = d at *
      have hd0 : (0 : Int) ≤ (d : Int) := by omega
      have hdi : (d : Int) < 16 := by omega
      by_cases hd : 10 ≤ d
      · have hdl : 10 ≤ (d : Int) := by omega
        go_wp2_with fail
        exact ⟨⟨k + 1, by omega, by go_num, int_u64 (by rw [← HD.out]; omega), by rw [HY.out hd]⟩, by simp [intOf]; omega⟩
      · have hdl : (d : Int) < 10 := by omega
        go_wp2_with fail
        exact ⟨⟨k + 1, by omega, by go_num, int_u64 (by rw [← HD.out]; omega), by rw [HN.out hd]⟩, by simp [intOf]; omega⟩
    · obtain rfl : k = 16 := by omega
      generalize hasL v 16 = b at *
      go_wp2_with fail
      refine (zz_b s 16 true H0.out H1.out _).mono ?_
      rintro e w1 ⟨rfl, rfl⟩
      go_wp2_with fail
      refine (zz_b s 15 false H0.out H2.out _).mono ?_
      rintro e w1 ⟨rfl, rfl⟩
      go_wp2_with fail
      refine (zz_b s 17 false H0.out H3.out _).mono ?_
      rintro e w1 ⟨rfl, rfl⟩
      go_wp2_with fail
      refine (zz_b u 16 (!b) K0.out K1.out _).mono ?_
      rintro e w1 ⟨rfl, rfl⟩
      cases b
      · go_wp2_with fail
        go_ret
        exact ⟨rfl, by go_grown⟩
      · go_wp2_with fail
        go_ret
        exact ⟨rfl, by go_grown⟩
end Go.Proofs.Qxb6001195aMods.hx
