import Derived.Lib.BitFns
namespace Go.Proofs.Ybulkcyss
/-- How many hex digits a chunk's head takes for a size. -/
def dig (n : Int) : Int := max 1 ((((Lib.bitLen n.toNat : Nat) : Int) + 3) / 4)
theorem dig_bd (n : Int) (h0 : 0 ≤ n) (h1 : n ≤ 65536) : 1 ≤ dig n ∧ dig n ≤ 5 := by
  have h := Lib.bitLen_le n.toNat 17 (by omega) (by omega)
  unfold dig
  omega
theorem dig_zero : dig 0 = 1 := by decide +kernel
theorem dig_full : dig 65536 = 5 := by decide +kernel
/-- The length of one frame. -/
def fr (n : Int) : Int := dig n + 83 + n + 2
theorem fr_zero : fr 0 = 86 := by unfold fr; rw [dig_zero]; rfl
theorem fr_full : fr 65536 = 65626 := by unfold fr; rw [dig_full]; rfl
theorem fr_bd (n : Int) (h0 : 0 ≤ n) (h1 : n ≤ 65536) : n + 86 ≤ fr n ∧ fr n ≤ n + 90 := by
  have := dig_bd n h0 h1
  unfold fr
  omega
/-- The length of a chunked body. -/
def cl (n : Int) : Int := n / 65536 * 65626 + 86 + (if 0 < n % 65536 then fr (n % 65536) else 0)
theorem cl_bd (n : Int) (h0 : 0 ≤ n) : n + 86 ≤ cl n ∧ cl n ≤ n + n / 65536 * 90 + 176 := by
  have h := fr_bd (n % 65536) (by omega) (by omega)
  unfold cl
  split <;> omega
theorem cl_step (n : Int) : cl (n + 65536) = cl n + 65626 := by
  unfold cl
  have e1 : (n + 65536) / 65536 = n / 65536 + 1 := by omega
  have e2 : (n + 65536) % 65536 = n % 65536 := by omega
  rw [e1, e2]
  omega
/-- Hex digits of a number, none at 0. -/
def hexc (v : Int) : Int := ((Lib.bitLen v.toNat : Nat) + 3 : Int) / 4
theorem hexc_zero : hexc 0 = 0 := by decide +kernel
theorem hexc_step (v : Int) (h0 : 0 < v) (h1 : v ≤ 65536) : hexc v = 1 + hexc (v / 16) := by
  unfold hexc
  by_cases h : 16 ≤ v
  · have e := Lib.bitLen_shift 4 v.toNat (by omega) (by omega)
    rw [show (v / 16).toNat = v.toNat / 2 ^ 4 from by omega]
    omega
  · have e : v = 1 ∨ v = 2 ∨ v = 3 ∨ v = 4 ∨ v = 5 ∨ v = 6 ∨ v = 7 ∨ v = 8 ∨ v = 9 ∨ v = 10 ∨ v = 11 ∨ v = 12 ∨ v = 13 ∨ v = 14 ∨ v = 15 := by omega
    rcases e with rfl | rfl | rfl | rfl | rfl | rfl | rfl | rfl | rfl | rfl | rfl | rfl | rfl | rfl | rfl <;> decide +kernel
theorem hexc_nonneg (v : Int) : 0 ≤ hexc v := by unfold hexc; omega
theorem dig_hexc (n : Int) : dig n = max 1 (hexc n) := rfl
theorem hexc_le (n : Int) (h0 : 0 ≤ n) (h1 : n ≤ 65536) : hexc n ≤ 5 := by
  have := dig_bd n h0 h1
  rw [dig_hexc] at this
  omega
theorem cl_exact (q r : Int) (h0 : 0 ≤ r) (h1 : r < 65536) : cl (q * 65536 + r) = q * 65626 + 86 + (if 0 < r then fr r else 0) := by
  unfold cl
  rw [show (q * 65536 + r) / 65536 = q from by omega, show (q * 65536 + r) % 65536 = r from by omega]
end Go.Proofs.Ybulkcyss
