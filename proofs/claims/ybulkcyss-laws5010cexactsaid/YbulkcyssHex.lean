import Derived.Test.YbulkcyssFrame
namespace Go.Proofs.Ybulkcyss
open Go.RowKit
set_option maxHeartbeats 400000 in
theorem hex_any (n : Int) (w : World) (h0 : 0 ≤ n) (h1 : n ≤ 65536) :
    Calls Yba.prog 7 #[.int .i64 n] w fun e w' => e = .returned (.int .i64 (dig n)) ∧ w' = w := by
  have hle := hexc_le n h0 h1
  go_enter Yba.func7, Yba.ntmps7
  go_wp2
  go_loop [0, 3] (fun v d => ∃ a b : Int, v = .int .i64 a ∧ d = .int .i64 b ∧ 0 ≤ a ∧ a ≤ 65536 ∧ 0 ≤ b ∧ b + hexc a = hexc n) (fun v _ => (intOf v).toNat)
  case atStart => exact ⟨n, 0, rfl, rfl, h0, h1, by omega, by omega⟩
  case round =>
    obtain ⟨a, b, rfl, rfl, ha0, ha1, hb0, hs⟩ := hrel
    have hh := hexc_nonneg a
    by_cases hlt : 0 < a
    · have hst := hexc_step a hlt ha1
      have hb5 : b ≤ 5 := by omega
      have Hs : Hid (b + hexc a = hexc n) := hs
      have Hst : Hid (hexc a = 1 + hexc (a / 16)) := hst
      clear hs hst
      go_wp2
      go_round
      case rel =>
        exact ⟨a / 16, b + 1, rfl, rfl, by omega, by omega, by omega, by have := Hs.out; have := Hst.out; omega⟩
      case measure => simp [intOf]; omega
    · have ea : a = 0 := by omega
      subst ea
      have hd : b = hexc n := by rw [hexc_zero] at hs; omega
      have Hd : Hid (b = hexc n) := hd
      clear hd hs hh
      by_cases hz : b = 0
      · have hz' : (b == 0) = true := by simp [hz]
        go_wp2
        go_ret
        exact ⟨ret_int (by rw [dig_hexc]; have := Hd.out; omega), rfl⟩
      · have hz' : (b == 0) = false := by simp [hz]
        go_wp2
        go_ret
        exact ⟨ret_int (by rw [dig_hexc]; have := Hd.out; omega), rfl⟩
set_option maxHeartbeats 400000 in
theorem zframe_any (n : Int) (w : World) (h0 : 0 ≤ n) (h1 : n ≤ 65536) :
    Calls Yba.prog 5 #[.int .i64 n] w fun e w' => e = .returned (.int .i64 (fr n)) ∧ w' = w := by
  have hb := dig_bd n h0 h1
  go_enter Yba.func5, Yba.ntmps5
  go_wp2_with (go_at_call 7; refine (hex_any _ _ (by omega) (by omega)).mono ?_; rintro e w' ⟨rfl, rfl⟩)
  go_ret
  exact ⟨ret_int (by unfold fr; omega), rfl⟩
theorem zframe_zero (w : World) :
    Calls Yba.prog 5 #[.int .i64 0] w fun e w' => e = .returned (.int .i64 86) ∧ w' = w := by
  have h := zframe_any 0 w (by omega) (by omega)
  rwa [fr_zero] at h
theorem zframe_full (w : World) :
    Calls Yba.prog 5 #[.int .i64 65536] w fun e w' => e = .returned (.int .i64 65626) ∧ w' = w := by
  have h := zframe_any 65536 w (by omega) (by omega)
  rwa [fr_full] at h
end Go.Proofs.Ybulkcyss
