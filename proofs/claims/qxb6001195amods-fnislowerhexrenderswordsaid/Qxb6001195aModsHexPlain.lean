import Derived.Test.Qxb6001195aModsHexWalks
namespace Go.Proofs.Qxb6001195aMods.hx
open Go.ChangeShapes Go.WideShapes Go.ChangeAt Go.RowKit
set_option linter.unusedVariables false

/-- The byte of hex digit d. -/
def digN (up : Bool) (d : Nat) : Int := if d < 10 then 48 + d else if up then 55 + d else 87 + d
/-- Digit j (from the left) of v as 16 hex digits. -/
def nib (v j : Nat) : Nat := v / 16 ^ (15 - j) % 16
/-- The 16 bytes, those from place m on written. -/
def numsFrom (v : Nat) (up : Bool) (m : Nat) : List Int := (List.range 16).map fun j => if m ≤ j then digN up (nib v j) else 0
def bufFrom (v : Nat) (up : Bool) (m : Nat) : Array Value := ((numsFrom v up m).map (Value.int .u8)).toArray

theorem numsFrom_get (v : Nat) (up : Bool) (m i : Nat) : (numsFrom v up m)[i]? = if i < 16 then some (if m ≤ i then digN up (nib v i) else 0) else none := by
  unfold numsFrom
  by_cases h : i < 16
  · rw [List.getElem?_map, List.getElem?_range h, if_pos h]; rfl
  · rw [List.getElem?_eq_none (by simp; omega), if_neg h]
theorem bufFrom_get (v : Nat) (up : Bool) (m i : Nat) : (bufFrom v up m)[i]? = if i < 16 then some (.int .u8 (if m ≤ i then digN up (nib v i) else 0)) else none := by
  unfold bufFrom
  rw [List.getElem?_toArray, List.getElem?_map, numsFrom_get]
  by_cases h : i < 16
  · rw [if_pos h, if_pos h]; rfl
  · rw [if_neg h, if_neg h]; rfl
theorem bufFrom_size (v : Nat) (up : Bool) (m : Nat) : (bufFrom v up m).size = 16 := by simp [bufFrom, numsFrom]
theorem bufFrom_set (v : Nat) (up : Bool) (j : Nat) (hj : j < 16) : (bufFrom v up (j + 1)).setIfInBounds j (.int .u8 (digN up (nib v j))) = bufFrom v up j := by
  apply Array.ext_getElem?
  intro i
  rw [Array.getElem?_setIfInBounds, bufFrom_get, bufFrom_get, bufFrom_size]
  by_cases h : j = i
  · subst h
    simp [hj]
  · rw [if_neg h]
    by_cases h2 : i < 16
    · rw [if_pos h2, if_pos h2]
      by_cases h3 : j + 1 ≤ i
      · rw [if_pos h3, if_pos (by omega)]
      · rw [if_neg h3, if_neg (by omega)]
    · rw [if_neg h2, if_neg h2]

theorem and15 (x : Nat) (hx : x < 18446744073709551616) : bits .and .u64 (x : Int) 15 = ((x % 16 : Nat) : Int) := by
  have h : ((BitVec.ofInt 64 (x : Int)) &&& (BitVec.ofInt 64 15)).toNat = x % 16 := by
    have e1 : BitVec.ofInt 64 (x : Int) = BitVec.ofNat 64 x := by simp
    have e2 : BitVec.ofInt 64 15 = BitVec.ofNat 64 15 := by decide
    rw [e1, e2, BitVec.toNat_and, BitVec.toNat_ofNat, BitVec.toNat_ofNat, Nat.mod_eq_of_lt (by omega : x < 2 ^ 64), show 15 % 2 ^ 64 = 2 ^ 4 - 1 from by decide, Nat.and_two_pow_sub_one_eq_mod]
  show IntKind.u64.wrap (((BitVec.ofInt 64 (x : Int)) &&& (BitVec.ofInt 64 15)).toNat : Int) = _
  rw [h]
  simp [IntKind.wrap, IntKind.bits, IntKind.signed]
  omega

theorem hex_lo (d : Nat) (h : d < 10) : ∀ h' : d < (({ data := #[48, 49, 50, 51, 52, 53, 54, 55, 56, 57, 97, 98, 99, 100, 101, 102] } : ByteArray)).size, ((({ data := #[48, 49, 50, 51, 52, 53, 54, 55, 56, 57, 97, 98, 99, 100, 101, 102] } : ByteArray)[d]'h').toNat : Int) = 48 + d := by
  intro h'
  have : d = 0 ∨ d = 1 ∨ d = 2 ∨ d = 3 ∨ d = 4 ∨ d = 5 ∨ d = 6 ∨ d = 7 ∨ d = 8 ∨ d = 9 := by omega
  rcases this with rfl | rfl | rfl | rfl | rfl | rfl | rfl | rfl | rfl | rfl <;> rfl
theorem hex_hi (d : Nat) (h : 10 ≤ d) (h2 : d < 16) : ∀ h' : d < (({ data := #[48, 49, 50, 51, 52, 53, 54, 55, 56, 57, 97, 98, 99, 100, 101, 102] } : ByteArray)).size, ((({ data := #[48, 49, 50, 51, 52, 53, 54, 55, 56, 57, 97, 98, 99, 100, 101, 102] } : ByteArray)[d]'h').toNat : Int) = 87 + d := by
  intro h'
  have : d = 10 ∨ d = 11 ∨ d = 12 ∨ d = 13 ∨ d = 14 ∨ d = 15 := by omega
  rcases this with rfl | rfl | rfl | rfl | rfl | rfl <;> rfl

theorem div_step (v j : Nat) (hj : j < 16) : v / 16 ^ (16 - (j + 1)) / 16 = v / 16 ^ (16 - j) := by
  rw [Nat.div_div_eq_div_mul, ← Nat.pow_succ]
  congr 2
  omega
theorem nib_eq (v j : Nat) : nib v j = v / 16 ^ (16 - (j + 1)) % 16 := by
  unfold nib
  congr 3
  omega
end Go.Proofs.Qxb6001195aMods.hx
