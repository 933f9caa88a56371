import Derived.Test.Qxb6001195aModsHexPlain
namespace Go.Proofs.Qxb6001195aMods.hx
open Go.ChangeShapes Go.WideShapes Go.ChangeAt Go.RowKit
set_option linter.unusedVariables false

theorem make16_lit (w : World) : (Instr.makeSlice 28 (.int .i64 16) (.int .i64 16)).run Trym.prog w = .ok (.slice (some ⟨w.heap.size, 0, none⟩) 16 16) (w.alloc (.cells #[.int .u8 0, .int .u8 0, .int .u8 0, .int .u8 0, .int .u8 0, .int .u8 0, .int .u8 0, .int .u8 0, .int .u8 0, .int .u8 0, .int .u8 0, .int .u8 0, .int .u8 0, .int .u8 0, .int .u8 0, .int .u8 0] 5)) := by
  kernel_rfl
theorem make16 (v : Nat) (up : Bool) (w : World) : (Instr.makeSlice 28 (.int .i64 16) (.int .i64 16)).run Trym.prog w = .ok (.slice (some ⟨w.heap.size, 0, none⟩) 16 16) (w.alloc (.cells (bufFrom v up 16) 5)) := by
  have e : bufFrom v up 16 = #[.int .u8 0, .int .u8 0, .int .u8 0, .int .u8 0, .int .u8 0, .int .u8 0, .int .u8 0, .int .u8 0, .int .u8 0, .int .u8 0, .int .u8 0, .int .u8 0, .int .u8 0, .int .u8 0, .int .u8 0, .int .u8 0] := by
    simp [bufFrom, numsFrom, List.range_succ]
  rw [e]
  exact make16_lit w

theorem conv16 (v : Nat) (up : Bool) (w : World) : (convert 28 9 (.slice (some ⟨w.heap.size, 0, none⟩) 16 16)).run Trym.prog (w.alloc (.cells (bufFrom v up 0) 5)) = .ok (.string (strOfNums (numsFrom v up 0))) (w.alloc (.cells (bufFrom v up 0) 5)) := by
  refine run_convert_bytes_arg _ 28 5 Trym.underlying28 Trym.underlying5 w.heap.size 0 16 16 (numsFrom v up 0) (by simp [numsFrom]) (fun i hi => ?_) 9 Trym.underlying9
  rw [Nat.zero_add, World.cell?_alloc_at _ _ _ _ rfl, bufFrom_get, if_pos hi, List.getD, numsFrom_get, if_pos hi]
  rfl

theorem int_u64 {a b : Int} (h : a = b) : Value.int .u64 a = Value.int .u64 b := by rw [h]
theorem set_u8 {c : Array Value} {j : Nat} {a b : Int} (h : a = b) : c.setIfInBounds j (.int .u8 a) = c.setIfInBounds j (.int .u8 b) := by rw [h]
theorem alloc_u8 {w : World} {c d : Array Value} (h : c = d) : w.alloc (.cells c 5) = w.alloc (.cells d 5) := by rw [h]

set_option maxHeartbeats 1000000 in
theorem render_any (v : Nat) (up : Bool) (hv : v < 18446744073709551616) (w : World) :
    Calls Trym.prog 7 #[.int .u64 v, .bool up] w fun e w' => e = .returned (.string (strOfNums (numsFrom v up 0))) ∧ ∃ c, w' = w.alloc (.cells c 5) := by
  have hmk := make16 v up
  go_enter Trym.func7, Trym.ntmps7
  go_wp2
  clear hmk
  go_loopw [0, 6] (fun x i wr => ∃ m : Nat, m ≤ 16 ∧ i = .int .i64 ((m : Int) - 1) ∧ x = .int .u64 ↑(v / 16 ^ (16 - m)) ∧ wr = w.alloc (.cells (bufFrom v up m) 5)) (fun x i wr => (intOf i + 1).toNat)
  case atStart => exact ⟨16, Nat.le_refl _, rfl, by simp, rfl⟩
  case round =>
    obtain ⟨m, hm, rfl, rfl, rfl⟩ := hrel
    cases m with
    | zero =>
      have hcv := conv16 v up w
      go_wp2
      go_ret
      exact ⟨rfl, _, rfl⟩
    | succ j =>
      rw [show ((j + 1 : Nat) : Int) - 1 = (j : Int) from by omega]
      have hj : j < 16 := by omega
      have hji : (j : Int) < 16 := by omega
      have HB : Hid ((bufFrom v up (j + 1)).setIfInBounds j (.int .u8 (digN up (nib v j))) = bufFrom v up j) := bufFrom_set v up j hj
      have HD : Hid (v / 16 ^ (16 - (j + 1)) / 16 = v / 16 ^ (16 - j)) := div_step v j hj
      have hn := nib_eq v j
      have hxl : v / 16 ^ (16 - (j + 1)) < 18446744073709551616 := Nat.lt_of_le_of_lt (Nat.div_le_self _ _) hv
      have hbj : (bufFrom v up (j + 1))[j]? = some (.int .u8 0) := by rw [bufFrom_get, if_pos hj, if_neg (by omega)]
      generalize v / 16 ^ (16 - (j + 1)) = x at *
      have ha := and15 x hxl
      rw [hn] at HB
      clear hn hm
      have hd16 : x % 16 < 16 := Nat.mod_lt _ (by decide)
      generalize x % 16 = d at *
      have hd0 : (0 : Int) ≤ (d : Int) := by omega
      have hdi : (d : Int) < 16 := by omega
      by_cases hd : d < 10
      · have hq := hex_lo d hd
        have hdl : (d : Int) < 10 := by omega
        cases up
        · go_wp2
          exact ⟨⟨j, by omega, rfl, int_u64 (by rw [← HD.out]; omega), alloc_u8 (by rw [← HB.out]; exact set_u8 (by simp [digN, hd]; try omega))⟩, by simp [intOf]⟩
        · go_wp2
          exact ⟨⟨j, by omega, rfl, int_u64 (by rw [← HD.out]; omega), alloc_u8 (by rw [← HB.out]; exact set_u8 (by simp [digN, hd]; try omega))⟩, by simp [intOf]⟩
      · have hq := hex_hi d (by omega) hd16
        have hdl : 10 ≤ (d : Int) := by omega
        cases up
        · go_wp2
          exact ⟨⟨j, by omega, rfl, int_u64 (by rw [← HD.out]; omega), alloc_u8 (by rw [← HB.out]; exact set_u8 (by simp [digN, hd]; try omega))⟩, by simp [intOf]⟩
        · go_wp2
          exact ⟨⟨j, by omega, rfl, int_u64 (by rw [← HD.out]; omega), alloc_u8 (by rw [← HB.out]; exact set_u8 (by simp [digN, hd]; try omega))⟩, by simp [intOf]⟩
end Go.Proofs.Qxb6001195aMods.hx
