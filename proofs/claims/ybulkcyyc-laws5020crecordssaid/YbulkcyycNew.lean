import Derived.Test.YbulkcyycInit
namespace Go.Proofs.Ybulkcyyc
open Go.RowKit

def V0 : Nat → Rd := fun _ => ⟨none, 0, 0, false⟩
abbrev z79 : Array Value := #[.int .u64 0, .slice none 0 0, .int .u64 0, .int .u64 0, .int .u64 0, .int .u64 0, .int .u64 0, .int .u64 0, .int .u64 0, .int .u64 0, .int .u8 0, .int .u8 0, .int .u8 0, .int .u8 0, .int .u8 0, .int .u8 0, .int .u8 0, .int .u8 0, .int .u8 0, .int .u8 0, .int .u8 0, .int .u8 0, .int .u8 0, .int .u8 0, .int .u8 0, .int .u8 0, .int .u8 0, .int .u8 0, .int .u8 0, .int .u8 0, .int .u8 0, .int .u8 0, .int .u8 0, .int .u8 0, .int .u8 0, .int .u8 0, .int .u8 0, .int .u8 0, .int .u8 0, .int .u8 0, .int .u8 0, .int .u8 0]

theorem RSt.start {w w1 w2 : World} (hI : ISt (w.alloc (.cells z79 79)) w1 w.heap.size 1024) (hW2 : w2 = w1.setCell ⟨w.heap.size, 2, none⟩ (.int .u64 1)) : RSt w2 w.heap.size (w.heap.size + 1) 0 0 0 V0 ∧ Below w.heap.size w w2 := by
  have hsz : (w.alloc (.cells z79 79)).heap.size = w.heap.size + 1 := World.size_alloc _ _
  have hB : Blk (w.alloc (.cells z79 79)) w.heap.size 79 42 := ⟨_, (MapKept.heap_alloc w _).1, rfl⟩
  have hc0 : ∀ o, (w.alloc (.cells z79 79)).cell? ⟨w.heap.size, o, none⟩ = z79[o]? := fun o => cell_of_row _ _ _ _ _ _ (MapKept.heap_alloc w _).1
  have hc1 : ∀ o, o ≠ 1 → w1.cell? ⟨w.heap.size, o, none⟩ = z79[o]? := fun o ho => (hI.fr.cell _ o (by omega) (by simp [ho])).trans (hc0 o)
  have hc2 : ∀ o, o ≠ 2 → w2.cell? ⟨w.heap.size, o, none⟩ = w1.cell? ⟨w.heap.size, o, none⟩ := fun o ho => by
    rw [hW2, World.cell?_setCell_other]
    intro e
    simp only [Addr.mk.injEq] at e
    omega
  have hg : ∀ o, w2.cell? ⟨w.heap.size + 1, o, none⟩ = w1.cell? ⟨w.heap.size + 1, o, none⟩ := fun o => by
    rw [hW2, World.cell?_setCell_other]
    intro e
    simp only [Addr.mk.injEq] at e
    omega
  have hF : Fr (w.alloc (.cells z79 79)) w2 [(w.heap.size, 1), (w.heap.size, 2)] := by
    rw [hW2]
    refine Fr.setCell ?_ (by simp) _
    exact ⟨hI.fr.os, hI.fr.tape, hI.fr.output, hI.fr.size, fun b o hb hm => hI.fr.cell b o hb (by simp at hm ⊢; exact fun e => hm.1 e), hI.fr.blk, fun k hk hm => hI.fr.block k hk (fun o => by have := hm o; simp at this ⊢; exact this.1)⟩
  have hs := hI.slots
  have hd := hI.done
  have u0 := hI.v0
  have u1 := hI.v1
  have u2 := hI.v2
  have u3 := hI.v3
  have hbG := hI.bG
  rw [hsz] at hs hd u0 u1 u2 u3 hbG
  refine ⟨⟨hF.blk _ _ _ hB, by rw [hW2]; exact hbG.setCell _ _, by omega, (hc2 0 (by omega)).trans (hc1 0 (by omega)), (hc2 1 (by omega)).trans hs, ?_, (hc2 3 (by omega)).trans (hc1 3 (by omega)), (hc2 4 (by omega)).trans (hc1 4 (by omega)), (hc2 5 (by omega)).trans (hc1 5 (by omega)), (hc2 6 (by omega)).trans (hc1 6 (by omega)),
    (hc2 7 (by omega)).trans (hc1 7 (by omega)), (hc2 8 (by omega)).trans (hc1 8 (by omega)), (hc2 9 (by omega)).trans (hc1 9 (by omega)), ?_, fun j hj => (hg _).trans (u0 j hj), fun j hj => (hg _).trans (u1 j hj), fun j hj => (hg _).trans (u2 j hj), fun j hj => (hg _).trans (u3 j hj)⟩, ?_⟩
  · rw [hW2]
    exact World.cell?_setCell_same _ _ _ (hc1 2 (by omega))
  · intro j hj
    have e : seqOf 0 j = (j : Int) := by simp [seqOf]
    rw [e]
    exact (hg _).trans (hd j hj)
  · have hb : Below w.heap.size w (w.alloc (.cells z79 79)) := (Below.refl _ _).alloc (Nat.le_refl _) _
    exact ⟨hF.os.trans hb.os, hF.tape.trans hb.tape, hF.output.trans hb.output, Nat.le_trans hb.size hF.size, fun k hk => (hF.block k (by omega) (fun o => by simp; omega)).trans (hb.block k hk)⟩

set_option maxRecDepth 100000 in
set_option maxHeartbeats 1600000 in
theorem new_any (w : World) : Calls Yba.prog 21 #[] w fun e w' => e = .returned (.pointer (some ⟨w.heap.size, 0, none⟩)) ∧ RSt w' w.heap.size (w.heap.size + 1) 0 0 0 V0 ∧ Below w.heap.size w w' := by
  have hB : Blk (w.alloc (.cells z79 79)) w.heap.size 79 42 := ⟨_, (MapKept.heap_alloc w _).1, rfl⟩
  go_enter Yba.func21, Yba.ntmps21
  go_wp2_with fail
  refine (init_any _ _ hB).mono ?_
  rintro e w1 ⟨rfl, hI⟩
  have hc : w1.cell? ⟨w.heap.size, 2, none⟩ = some (.int .u64 0) := (hI.fr.cell _ 2 (by simp) (by simp)).trans (cell_of_row _ _ _ _ _ _ (MapKept.heap_alloc w _).1)
  have hz : w1.frozen? ⟨w.heap.size, 2, none⟩ = false := (hI.fr.blk _ _ _ hB).frozen _
  go_wp2_with fail
  refine (store_any _ _ _ _ _ hc hz).mono ?_
  rintro e w2 ⟨rfl, hW2⟩
  have hend := RSt.start hI hW2
  clear hI hW2 hc hz hB
  go_wp2
  go_ret
  exact ⟨rfl, hend.1, hend.2⟩
end Go.Proofs.Ybulkcyyc
