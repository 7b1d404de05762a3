import Derived.Test.YbulkcyvyBase
import Derived.Lib.SlBytesRow
namespace Go.Proofs.Ybulkcyvy
open Go.RowKit

theorem mk4 (w : World) : (Instr.makeSlice 22 (.int .i64 0) (.int .i64 4)).run Yba.prog w = .ok (.slice (some ⟨w.heap.size, 0, none⟩) 0 4) (w.alloc (.cells #[.int .u8 0, .int .u8 0, .int .u8 0, .int .u8 0] 5)) := by kernel_rfl
theorem mk6 (w : World) : (Instr.makeSlice 22 (.int .i64 0) (.int .i64 6)).run Yba.prog w = .ok (.slice (some ⟨w.heap.size, 0, none⟩) 0 6) (w.alloc (.cells #[.int .u8 0, .int .u8 0, .int .u8 0, .int .u8 0, .int .u8 0, .int .u8 0] 5)) := by kernel_rfl

theorem up {w : World} {p : Addr} {v : Value} {O : Obj} (h : w.cell? p = some v) : (w.alloc O).cell? p = some v :=
  (((Below.refl _ _).alloc (Nat.le_refl _) O).cell (World.block_lt_of_cell? _ _ h)).trans h
theorem conv3 (w : World) (o1 o2 o3 : Obj) : (convert 22 9 (.slice (some ⟨w.heap.size, 0, none⟩) 3 4)).run Yba.prog ((((w.alloc (.cells #[.int .u8 97, .int .u8 10, .int .u8 98, .int .u8 0] 5)).alloc o1).alloc o2).alloc o3) =
    .ok (.string ⟨#[97, 10, 98]⟩) ((((w.alloc (.cells #[.int .u8 97, .int .u8 10, .int .u8 98, .int .u8 0] 5)).alloc o1).alloc o2).alloc o3) := by
  have hblk : ((((w.alloc (.cells #[.int .u8 97, .int .u8 10, .int .u8 98, .int .u8 0] 5)).alloc o1).alloc o2).alloc o3).heap[w.heap.size]? = some (.cells #[.int .u8 97, .int .u8 10, .int .u8 98, .int .u8 0] 5 (0, 0)) := by
    rw [(MapKept.heap_alloc _ o3).2 _ (by simp; omega), (MapKept.heap_alloc _ o2).2 _ (by simp; omega), (MapKept.heap_alloc _ o1).2 _ (by simp), (MapKept.heap_alloc w _).1]
  refine Lib.run_convert_whole (P := Yba.prog) _ 22 5 9 Yba.underlying22 Yba.underlying5 Yba.underlying9 w.heap.size 0 ⟨#[97, 10, 98]⟩ (fun i hi => ?_) 4
  have hi' : i < 3 := hi
  unfold World.cell?
  rw [hblk]
  match i, hi, hi' with
  | 0, _, _ => rfl
  | 1, _, _ => rfl
  | 2, _, _ => rfl
theorem conv1 (w : World) (o1 : Obj) : (convert 22 9 (.slice (some ⟨w.heap.size, 0, none⟩) 1 6)).run Yba.prog ((w.alloc (.cells #[.int .u8 65, .int .u8 0, .int .u8 0, .int .u8 0, .int .u8 0, .int .u8 0] 5)).alloc o1) =
    .ok (.string ⟨#[65]⟩) ((w.alloc (.cells #[.int .u8 65, .int .u8 0, .int .u8 0, .int .u8 0, .int .u8 0, .int .u8 0] 5)).alloc o1) := by
  have hblk : ((w.alloc (.cells #[.int .u8 65, .int .u8 0, .int .u8 0, .int .u8 0, .int .u8 0, .int .u8 0] 5)).alloc o1).heap[w.heap.size]? = some (.cells #[.int .u8 65, .int .u8 0, .int .u8 0, .int .u8 0, .int .u8 0, .int .u8 0] 5 (0, 0)) := by
    rw [(MapKept.heap_alloc _ o1).2 _ (by simp), (MapKept.heap_alloc w _).1]
  refine Lib.run_convert_whole (P := Yba.prog) _ 22 5 9 Yba.underlying22 Yba.underlying5 Yba.underlying9 w.heap.size 0 ⟨#[65]⟩ (fun i hi => ?_) 6
  have hi' : i < 1 := hi
  unfold World.cell?
  rw [hblk]
  match i, hi, hi' with
  | 0, _, _ => rfl

set_option maxHeartbeats 800000 in
set_option maxRecDepth 100000 in
theorem unescape4 (b o c : Nat) (w : World) (h0 : w.cell? ⟨b, o, none⟩ = some (.int .u8 97)) (h1 : w.cell? ⟨b, o + 1, none⟩ = some (.int .u8 92)) (h2 : w.cell? ⟨b, o + 2, none⟩ = some (.int .u8 110)) (h3 : w.cell? ⟨b, o + 3, none⟩ = some (.int .u8 98)) :
    Calls Yba.prog 15 #[.slice (some ⟨b, o, none⟩) 4 c] w fun e w' => e = .returned (.string ⟨#[97, 10, 98]⟩) ∧ Below w.heap.size w w' := by
  have hmk := mk4
  have hcv := conv3 w
  have hb : b < w.heap.size := World.block_lt_of_cell? _ _ h0
  have hb1 : b < w.heap.size + 1 := by omega
  have hb2 : b < w.heap.size + 1 + 1 := by omega
  have hb3 : b < w.heap.size + 1 + 1 + 1 := by omega
  go_enter Yba.func15, Yba.ntmps15
  go_wp2
  refine wp_loop_rounds 4 ?_
  rw [rounds_succ]
  go_wp2
  rw [rounds_succ]
  go_wp2
  rw [rounds_succ]
  go_wp2
  rw [rounds_succ]
  go_wp2
  go_ret
  exact ⟨rfl, ((((Below.refl _ _).alloc (Nat.le_refl _) _).alloc (by simp) _).alloc (by simp; omega) _).alloc (by simp; omega) _⟩

set_option maxHeartbeats 800000 in
set_option maxRecDepth 100000 in
theorem hex4_0041 (b o n c : Nat) (w : World) (hn : 4 ≤ n) (hc : n ≤ c) (h0 : w.cell? ⟨b, o, none⟩ = some (.int .u8 48)) (h1 : w.cell? ⟨b, o + 1, none⟩ = some (.int .u8 48)) (h2 : w.cell? ⟨b, o + 2, none⟩ = some (.int .u8 52)) (h3 : w.cell? ⟨b, o + 3, none⟩ = some (.int .u8 49)) :
    Calls Yba.prog 16 #[.slice (some ⟨b, o, none⟩) n c] w fun e w' => e = .returned (.int .i32 65) ∧ w' = w := by
  go_enter Yba.func16, Yba.ntmps16
  go_wp2
  refine wp_loop_rounds 5 ?_
  rw [rounds_succ]
  go_wp2
  rw [rounds_succ]
  go_wp2
  rw [rounds_succ]
  go_wp2
  rw [rounds_succ]
  go_wp2
  rw [rounds_succ]
  go_wp2
  go_ret
  exact ⟨rfl, rfl⟩

set_option maxHeartbeats 800000 in
set_option maxRecDepth 100000 in
theorem unescape6 (b o c : Nat) (w : World) (hc : 6 ≤ c) (h0 : w.cell? ⟨b, o, none⟩ = some (.int .u8 92)) (h1 : w.cell? ⟨b, o + 1, none⟩ = some (.int .u8 117)) (h2 : w.cell? ⟨b, o + 2, none⟩ = some (.int .u8 48)) (h3 : w.cell? ⟨b, o + 3, none⟩ = some (.int .u8 48))
    (h4 : w.cell? ⟨b, o + 4, none⟩ = some (.int .u8 52)) (h5 : w.cell? ⟨b, o + 5, none⟩ = some (.int .u8 49)) :
    Calls Yba.prog 15 #[.slice (some ⟨b, o, none⟩) 6 c] w fun e w' => e = .returned (.string ⟨#[65]⟩) ∧ Below w.heap.size w w' := by
  have hmk := mk6
  have hcv := conv1 w
  have hb : b < w.heap.size := World.block_lt_of_cell? _ _ h0
  have hb1 : b < w.heap.size + 1 := by omega
  go_enter Yba.func15, Yba.ntmps15
  go_wp2
  refine wp_loop_rounds 2 ?_
  rw [rounds_succ]
  go_wp2_with fail
  refine (hex4_0041 b (o + 2) 4 (c - 2) _ (by omega) (by omega) (up h2) (up h3) (up h4) (up h5)).mono ?_
  rintro e w' ⟨rfl, rfl⟩
  go_wp2
  rw [rounds_succ]
  go_wp2
  go_ret
  exact ⟨rfl, ((Below.refl _ _).alloc (Nat.le_refl _) _).alloc (by simp) _⟩
end Go.Proofs.Ybulkcyvy
