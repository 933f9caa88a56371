import Derived.Test.Qxb6001195aModsRows
import Derived.WalkKit
import Derived.ProofKit
import Derived.OpenShut
import Derived.ShutString
import Derived.Handy
import Derived.Laws.BytesArg
namespace Go.Proofs.Qxb6001195aMods.hx
open Go.ChangeShapes Go.WideShapes Go.ChangeAt Go.RowKit
set_option linter.unusedVariables false

/-- Is the byte a lowercase hex digit? -/
def lhB (c : UInt8) : Bool := (48 ≤ c && c ≤ 57) || (97 ≤ c && c ≤ 102)

set_option maxHeartbeats 400000 in
theorem isLowerHex_other (s : ByteArray) (n : Int) (w : World) (hs : s.size ≤ maxLen) (hn : (s.size : Int) ≠ n) :
    Calls Trym.prog 8 #[.string s, .int .i64 n] w fun e w' => e = .returned (.bool false) ∧ w' = w := by
  unfold maxLen at hs
  have hb : ((s.size : Int) == n) = false := beq_eq_false_iff_ne.2 hn
  go_enter Trym.func8, Trym.ntmps8
  go_wp2
  go_ret
  exact ⟨rfl, rfl⟩

/-- Are all bytes lowercase hex digits? -/
def lowS (s : ByteArray) : Bool := s.data.toList.all lhB
/-- .. the first k of them? -/
def lowTo (s : ByteArray) (k : Nat) : Bool := (s.data.toList.take k).all lhB

theorem lhB_iff (c : UInt8) : lhB c = true ↔ (48 ≤ (c.toNat : Int) ∧ (c.toNat : Int) ≤ 57) ∨ (97 ≤ (c.toNat : Int) ∧ (c.toNat : Int) ≤ 102) := by
  simp [lhB, UInt8.le_iff_toNat_le]; omega
theorem take_snoc (s : ByteArray) (k : Nat) (h : k < s.size) : s.data.toList.take (k + 1) = s.data.toList.take k ++ [s[k]] := by
  rw [List.take_succ_eq_append_getElem (by simpa using h)]; rfl
theorem low_false (s : ByteArray) (k : Nat) (h : k < s.size) (hc : lhB s[k] = false) : lowS s = false := by
  unfold lowS
  rw [Bool.eq_false_iff]
  intro ha
  have := List.all_eq_true.1 ha s[k] (by
    have : s[k] = s.data.toList[k]'(by simpa using h) := rfl
    rw [this]; exact List.getElem_mem _)
  rw [hc] at this; cases this
theorem low_zero (s : ByteArray) : lowTo s 0 = true := by simp [lowTo]
theorem low_succ (s : ByteArray) (k : Nat) (h : k < s.size) (hp : lowTo s k = true) (hc : lhB s[k] = true) : lowTo s (k + 1) = true := by
  unfold lowTo at *
  rw [take_snoc s k h, List.all_append, hp]
  simp [hc]
theorem low_end (s : ByteArray) (k : Nat) (h : ¬ k < s.size) (hp : lowTo s k = true) : lowS s = true := by
  unfold lowTo at hp
  rw [List.take_of_length_le (by simp; omega)] at hp
  exact hp
theorem ret_bool {a b : Bool} (h : a = b) : Ending.returned (.bool a) = .returned (.bool b) := by rw [h]

set_option maxHeartbeats 1000000 in
theorem isLowerHex_same (s : ByteArray) (w : World) (hs : s.size ≤ maxLen) :
    Calls Trym.prog 8 #[.string s, .int .i64 s.size] w fun e w' => e = .returned (.bool (lowS s)) ∧ w' = w := by
  unfold maxLen at hs
  go_enter Trym.func8, Trym.ntmps8
  go_wp2
  go_loop [5] (fun i => ∃ k : Nat, k ≤ s.size ∧ i = .int .i64 k ∧ lowTo s k = true) (fun i => s.size - (intOf i).toNat)
  case atStart => exact ⟨0, Nat.zero_le _, rfl, low_zero s⟩
  case round =>
    obtain ⟨k, hk, rfl, hall0⟩ := hrel
    have HA : Hid (lowTo s k = true) := hall0
    clear hall0
    by_cases hlt : k < s.size
    · have HF : Hid (lhB s[k] = false → lowS s = false) := low_false s k hlt
      have HS : Hid (lhB s[k] = true → lowTo s (k + 1) = true) := low_succ s k hlt HA.out
      have HI : Hid (lhB s[k] = true ↔ (48 ≤ (s[k].toNat : Int) ∧ (s[k].toNat : Int) ≤ 57) ∨ (97 ≤ (s[k].toNat : Int) ∧ (s[k].toNat : Int) ≤ 102)) := lhB_iff s[k]
      go_wp2
      all_goals first
        | (go_ret
           refine ⟨ret_bool (HF.out (Bool.eq_false_iff.2 fun hc => ?_)).symm, rfl⟩
           have := HI.out.1 hc
           omega)
        | (refine ⟨⟨k + 1, by omega, by go_num, HS.out (HI.out.2 (by omega))⟩, by simp [intOf]; omega⟩)
    · go_wp2
      go_ret
      exact ⟨ret_bool (low_end s k hlt HA.out).symm, rfl⟩

/-- 'ZZIsLowerHex(s, n)'. -/
def lowN (s : ByteArray) (n : Int) : Bool := decide ((s.size : Int) = n) && lowS s

theorem isLowerHex_any (s : ByteArray) (n : Int) (w : World) (hs : s.size ≤ maxLen) :
    Calls Trym.prog 8 #[.string s, .int .i64 n] w fun e w' => e = .returned (.bool (lowN s n)) ∧ w' = w := by
  by_cases h : (s.size : Int) = n
  · subst h
    have : lowN s s.size = lowS s := by simp [lowN]
    rw [this]
    exact isLowerHex_same s w hs
  · have : lowN s n = false := by simp [lowN, h]
    rw [this]
    exact isLowerHex_other s n w hs h

set_option maxHeartbeats 400000 in
theorem zzIsLowerHex_any (s : ByteArray) (n : Int) (w : World) (hs : s.size ≤ maxLen) :
    Calls Trym.prog 6 #[.string s, .int .i64 n] w fun e w' => e = .returned (.bool (lowN s n)) ∧ w' = w := by
  go_enter Trym.func6, Trym.ntmps6
  go_wp2_with fail
  refine (isLowerHex_any s n _ hs).mono ?_
  rintro e w' ⟨rfl, rfl⟩
  go_wp2_with fail
  go_ret
  exact ⟨rfl, rfl⟩

end Go.Proofs.Qxb6001195aMods.hx
