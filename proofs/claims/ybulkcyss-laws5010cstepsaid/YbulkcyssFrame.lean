import Derived.Test.YbulkcyssShelf
import Derived.Test.YbulkcyssPlain
import Derived.WalkKit
import Derived.WalkSpells
import Derived.WalkLawsBesides
namespace Go.Proofs.Ybulkcyss
theorem ret_int {k : IntKind} {a b : Int} (h : a = b) : Ending.returned (.int k a) = .returned (.int k b) := by rw [h]
set_option maxHeartbeats 400000 in
theorem head_any (n : Int) (w : World) (h0 : 0 ≤ n) (h1 : n ≤ 65536) :
    Calls Yba.prog 9 #[.int .i64 n] w fun e w' => e = .returned (.int .i64 (dig n + 83)) ∧ w' = w := by
  have hb := dig_bd n h0 h1
  have hl := Lib.bitLen_le n.toNat 17 (by omega) (by omega)
  go_enter Yba.func9, Yba.ntmps9
  go_wp2_with (go_at_call 10; refine (Yba.bits_Len64 _ _ (by omega) (by omega)).mono ?_; rintro e w' ⟨rfl, rfl⟩)
  go_ret
  exact ⟨ret_int (by unfold dig; omega), rfl⟩
set_option maxHeartbeats 400000 in
theorem frame_any (n : Int) (w : World) (h0 : 0 ≤ n) (h1 : n ≤ 65536) :
    Calls Yba.prog 8 #[.int .i64 n] w fun e w' => e = .returned (.int .i64 (fr n)) ∧ w' = w := by
  have hb := dig_bd n h0 h1
  go_enter Yba.func8, Yba.ntmps8
  go_wp2_with (go_at_call 9; refine (head_any _ _ (by omega) (by omega)).mono ?_; rintro e w' ⟨rfl, rfl⟩)
  go_ret
  exact ⟨ret_int (by unfold fr; omega), rfl⟩
set_option maxHeartbeats 400000 in
theorem frame_zero (w : World) :
    Calls Yba.prog 8 #[.int .i64 0] w fun e w' => e = .returned (.int .i64 86) ∧ w' = w := by
  have h := frame_any 0 w (by omega) (by omega)
  rwa [fr_zero] at h
set_option maxHeartbeats 400000 in
theorem frame_full (w : World) :
    Calls Yba.prog 8 #[.int .i64 65536] w fun e w' => e = .returned (.int .i64 65626) ∧ w' = w := by
  have h := frame_any 65536 w (by omega) (by omega)
  rwa [fr_full] at h
set_option maxHeartbeats 400000 in
theorem len_any (n : Int) (w : World) (h0 : 0 ≤ n) (h1 : n ≤ 4611686018427387904) :
    Calls Yba.prog 6 #[.int .i64 n] w fun e w' => e = .returned (.int .i64 (cl n)) ∧ w' = w := by
  by_cases hr : 0 < n % 65536
  · have hb := fr_bd (n % 65536) (by omega) (by omega)
    go_enter Yba.func6, Yba.ntmps6
    go_wp2_with fail
    refine (frame_full _).mono ?_
    rintro e w' ⟨rfl, rfl⟩
    go_wp2_with fail
    refine (frame_zero _).mono ?_
    rintro e w' ⟨rfl, rfl⟩
    go_wp2_with fail
    refine (frame_any _ _ (by omega) (by omega)).mono ?_
    rintro e w' ⟨rfl, rfl⟩
    go_wp2_with fail
    go_ret
    exact ⟨ret_int (by unfold cl; rw [if_pos hr]), rfl⟩
  · go_enter Yba.func6, Yba.ntmps6
    go_wp2_with fail
    refine (frame_full _).mono ?_
    rintro e w' ⟨rfl, rfl⟩
    go_wp2_with fail
    refine (frame_zero _).mono ?_
    rintro e w' ⟨rfl, rfl⟩
    go_wp2_with fail
    go_ret
    exact ⟨ret_int (by unfold cl; rw [if_neg (by omega)]; omega), rfl⟩
end Go.Proofs.Ybulkcyss
