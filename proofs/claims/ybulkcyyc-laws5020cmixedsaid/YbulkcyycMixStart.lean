import Derived.Test.YbulkcyycMixSt
namespace Go.Proofs.Ybulkcyyc
open Go.RowKit

abbrev W7 (w1 : World) (S n : Nat) : World :=
  (((((((w1.alloc (.cells #[.pointer (some ⟨S, 0, none⟩)] 68)).alloc (.cells #[.pointer none, .pointer none, .int .u64 3, .int .u64 1] 41)).alloc (.cells #[.pointer (some ⟨n + 1, 0, none⟩)] 39)).alloc (.cells #[.int .u64 0] 28)).alloc (.cells #[.int .u64 0] 26)).alloc (.cells #[.int .u64 0] 26)).alloc (.cells #[.int .u64 0] 26))

theorem W7_below (w1 : World) (S n : Nat) : Below w1.heap.size w1 (W7 w1 S n) :=
  (((((((Below.refl w1.heap.size w1).alloc (Nat.le_refl _) _).alloc (by simp) _).alloc (by simp; omega) _).alloc (by simp; omega) _).alloc (by simp; omega) _).alloc (by simp; omega) _).alloc (by simp; omega) _

theorem MSt.start {w1 : World} {x : Int} {S G H n : Nat} (hn : w1.heap.size = n) (hR : RSt w1 S G 0 0 0 V0) (hH : w1.cell? ⟨H, 0, none⟩ = some (.int .u64 x)) :
    MSt (W7 w1 S n) S G n (n + 1 + 1) H (n + 1 + 1 + 1) (n + 1 + 1 + 1 + 1 + 1 + 1) (n + 1 + 1 + 1 + 1) (n + 1 + 1 + 1 + 1 + 1) ⟨n + 1, 0, none⟩ x 0 0 0 := by
  have hb := W7_below w1 S n
  have hat : ∀ i o c t, (W7 w1 S n).heap[n + i]? = some (.cells c t (0, 0)) → (W7 w1 S n).cell? ⟨n + i, o, none⟩ = c[o]? ∧ (W7 w1 S n).frozen? ⟨n + i, o, none⟩ = false := fun i o c t h => ⟨cell_of_row _ _ _ _ _ _ h, frozen_of_row _ _ _ _ _ h⟩
  have e0 : (W7 w1 S n).heap[n + 0]? = some (.cells #[.pointer (some ⟨S, 0, none⟩)] 68 (0, 0)) := by
    subst hn
    change (((((((w1.heap.push _).push _).push _).push _).push _).push _).push _)[_]? = _
    simp only [Array.getElem?_push, Array.size_push]
    repeat (first | rw [if_pos trivial] | rw [if_neg (by omega)] | rw [if_pos (by omega)])
  have e2 : (W7 w1 S n).heap[n + 2]? = some (.cells #[.pointer (some ⟨n + 1, 0, none⟩)] 39 (0, 0)) := by
    subst hn
    change (((((((w1.heap.push _).push _).push _).push _).push _).push _).push _)[_]? = _
    simp only [Array.getElem?_push, Array.size_push]
    repeat (first | rw [if_pos trivial] | rw [if_neg (by omega)] | rw [if_pos (by omega)])
  have e3 : (W7 w1 S n).heap[n + 3]? = some (.cells #[.int .u64 0] 28 (0, 0)) := by
    subst hn
    change (((((((w1.heap.push _).push _).push _).push _).push _).push _).push _)[_]? = _
    simp only [Array.getElem?_push, Array.size_push]
    repeat (first | rw [if_pos trivial] | rw [if_neg (by omega)] | rw [if_pos (by omega)])
  have e4 : (W7 w1 S n).heap[n + 4]? = some (.cells #[.int .u64 0] 26 (0, 0)) := by
    subst hn
    change (((((((w1.heap.push _).push _).push _).push _).push _).push _).push _)[_]? = _
    simp only [Array.getElem?_push, Array.size_push]
    repeat (first | rw [if_pos trivial] | rw [if_neg (by omega)] | rw [if_pos (by omega)])
  have e5 : (W7 w1 S n).heap[n + 5]? = some (.cells #[.int .u64 0] 26 (0, 0)) := by
    subst hn
    change (((((((w1.heap.push _).push _).push _).push _).push _).push _).push _)[_]? = _
    simp only [Array.getElem?_push, Array.size_push]
    repeat (first | rw [if_pos trivial] | rw [if_neg (by omega)] | rw [if_pos (by omega)])
  have e6 : (W7 w1 S n).heap[n + 6]? = some (.cells #[.int .u64 0] 26 (0, 0)) := by
    subst hn
    change (((((((w1.heap.push _).push _).push _).push _).push _).push _).push _)[_]? = _
    simp only [Array.getElem?_push, Array.size_push]
    repeat (first | rw [if_pos trivial] | rw [if_neg (by omega)] | rw [if_pos (by omega)])
  exact ⟨⟨V0, hR.below hb⟩, (hat 0 0 _ _ e0).1, (hat 2 0 _ _ e2).1, (hb.cell (World.block_lt_of_cell? _ _ hH)).trans hH, (hat 3 0 _ _ e3).1, (hat 6 0 _ _ e6).1, (hat 4 0 _ _ e4).1, (hat 5 0 _ _ e5).1, (hat 6 0 _ _ e6).2, (hat 4 0 _ _ e4).2, (hat 5 0 _ _ e5).2⟩

theorem FrM.below {w0 w w' : World} {S G T E D : Nat} (h : FrM w w' S G T E D) (hb : Below w0.heap.size w0 w) (hS : w0.heap.size ≤ S) (hG : w0.heap.size ≤ G) (hT : w0.heap.size ≤ T) (hE : w0.heap.size ≤ E) (hD : w0.heap.size ≤ D) : Below w0.heap.size w0 w' :=
  ⟨h.os.trans hb.os, h.tape.trans hb.tape, h.output.trans hb.output, Nat.le_trans hb.size h.size, fun k hk => (h.block k (Nat.lt_of_lt_of_le hk hb.size) (by omega) (by omega) (by omega) (by omega) (by omega)).trans (hb.block k hk)⟩
end Go.Proofs.Ybulkcyyc
