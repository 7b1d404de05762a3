import Derived.Test.YbulkcyycSlot
namespace Go.Proofs.Ybulkcyyc
open Go.RowKit

/-- What a call leaves: of the old memory all but the cells of ad. -/
structure Fr (w w' : World) (ad : List (Nat × Nat)) : Prop where
  os : w'.os = w.os
  tape : w'.tape = w.tape
  output : w'.output = w.output
  size : w.heap.size ≤ w'.heap.size
  cell : ∀ b o, b < w.heap.size → (b, o) ∉ ad → w'.cell? ⟨b, o, none⟩ = w.cell? ⟨b, o, none⟩
  blk : ∀ b t n, Blk w b t n → Blk w' b t n
  block : ∀ k, k < w.heap.size → (∀ o, (k, o) ∉ ad) → w'.heap[k]? = w.heap[k]?

theorem Fr.refl (w : World) (ad : List (Nat × Nat)) : Fr w w ad := ⟨rfl, rfl, rfl, Nat.le_refl _, fun _ _ _ _ => rfl, fun _ _ _ h => h, fun _ _ _ => rfl⟩
theorem Fr.setCell {w w' : World} {ad : List (Nat × Nat)} (h : Fr w w' ad) {b o : Nat} (ha : (b, o) ∈ ad) (v : Value) : Fr w (w'.setCell ⟨b, o, none⟩ v) ad where
  os := h.os
  tape := h.tape
  output := h.output
  size := by rw [World.size_setCell]; exact h.size
  cell b' o' hb hk := by
    rw [World.cell?_setCell_other]
    · exact h.cell b' o' hb hk
    · intro e
      simp only [Addr.mk.injEq] at e
      obtain ⟨rfl, rfl, _⟩ := e
      exact hk ha
  blk b' t n hb := (h.blk b' t n hb).setCell _ _
  block k hl hk := by
    rw [Below.heap_setCell _ _ _ _ (fun e => hk o (by rw [e]; exact ha))]
    exact h.block k hl hk
theorem Fr.drew {w w' : World} {ad : List (Nat × Nat)} (h : Fr w w' ad) : Fr w w'.drew ad := ⟨h.os, h.tape, h.output, h.size, h.cell, h.blk, h.block⟩
theorem Fr.drewN {w w' : World} {ad : List (Nat × Nat)} {n : Nat} (h : Fr w w' ad) : Fr w (w'.drewN n) ad := ⟨h.os, h.tape, h.output, h.size, h.cell, h.blk, h.block⟩
theorem Fr.alloc {w w' : World} {ad : List (Nat × Nat)} (h : Fr w w' ad) (o : Obj) : Fr w (w'.alloc o) ad where
  os := h.os
  tape := h.tape
  output := h.output
  size := by rw [World.size_alloc]; exact Nat.le_succ_of_le h.size
  cell b' o' hb hk := by rw [World.cell?_alloc_past _ _ _ (by exact Nat.lt_of_lt_of_le hb h.size)]; exact h.cell b' o' hb hk
  blk b' t n hb := Blk.later (h.blk b' t n hb) ((Below.refl _ w').alloc (Nat.le_refl _) o |>.block b' (h.blk b' t n hb).lt)
  block k hl hk := ((Below.refl _ w').alloc (Nat.le_refl _) o |>.block k (Nat.lt_of_lt_of_le hl h.size)).trans (h.block k hl hk)

set_option maxRecDepth 100000 in
set_option maxHeartbeats 1600000 in
theorem push_full (S G : Nat) (n h c b : Value) (w : World) (hh : w.cell? ⟨S, 0, none⟩ = some (.int .u64 1024)) (hs : w.cell? ⟨S, 1, none⟩ = some (.slice (some ⟨G, 0, none⟩) 1024 1024)) (hq : w.cell? ⟨G, 0, none⟩ = some (.int .u64 1)) :
    Calls Yba.prog 33 #[.pointer (some ⟨S, 0, none⟩), .agg #[n, h, c, b]] w fun e w' => e = .returned (.tuple #[.int .u64 0, .bool false]) ∧ w' = (w.alloc (.cells #[n, h, c, b] 82)).drew := by
  have hS := World.block_lt_of_cell? _ _ hh
  have hG := World.block_lt_of_cell? _ _ hq
  have hh' : (w.alloc (.cells #[n, h, c, b] 82)).cell? ⟨S, 0, none⟩ = some (.int .u64 1024) := (World.cell?_alloc_past _ _ _ hS).trans hh
  have hs' : (w.alloc (.cells #[n, h, c, b] 82)).cell? ⟨S, 1, none⟩ = some (.slice (some ⟨G, 0, none⟩) 1024 1024) := (World.cell?_alloc_past _ _ _ hS).trans hs
  have hq' : (w.alloc (.cells #[n, h, c, b] 82)).drew.cell? ⟨G, 0, none⟩ = some (.int .u64 1) := (World.cell?_alloc_past _ _ _ hG).trans hq
  go_enter Yba.func33, Yba.ntmps33
  go_wp2_with fail
  refine wp_loop_rounds 1 ?_
  rw [rounds_succ]
  go_wp2_with (first
    | (go_at_call 36; refine (slot_any S G 1024 _ hs' (by omega)).mono ?_; rintro e _ ⟨rfl, rfl⟩)
    | (go_at_call 9; refine (load_any S 0 1024 _ hh').mono ?_; rintro e _ ⟨rfl, rfl⟩)
    | (go_at_call 9; refine (load_any G 0 1 _ hq').mono ?_; rintro e _ ⟨rfl, rfl⟩))
  go_ret2
  exact ⟨rfl, rfl⟩

set_option maxRecDepth 100000 in
set_option maxHeartbeats 1600000 in
theorem push_room (S G p : Nat) (pn : Option Addr) (xh xc : Int) (xb : Bool) (v1 v2 v3 v4 : Value) (w : World) (hp : p < 1024) (hh : w.cell? ⟨S, 0, none⟩ = some (.int .u64 p)) (hs : w.cell? ⟨S, 1, none⟩ = some (.slice (some ⟨G, 0, none⟩) 1024 1024)) (hq : w.cell? ⟨G, 5 * p, none⟩ = some (.int .u64 p))
    (h1 : w.cell? ⟨G, 5 * p + 1, none⟩ = some v1) (h2 : w.cell? ⟨G, 5 * p + 2, none⟩ = some v2) (h3 : w.cell? ⟨G, 5 * p + 3, none⟩ = some v3) (h4 : w.cell? ⟨G, 5 * p + 4, none⟩ = some v4) (fS : ∀ o, w.frozen? ⟨S, o, none⟩ = false) (fG : ∀ o, w.frozen? ⟨G, o, none⟩ = false) (hne : S ≠ G) :
    Calls Yba.prog 33 #[.pointer (some ⟨S, 0, none⟩), .agg #[.pointer pn, .int .u64 xh, .int .u64 xc, .bool xb]] w fun e w' => e = .returned (.tuple #[.int .u64 p, .bool true]) ∧ Fr w w' [(S, 0), (G, 5 * p), (G, 5 * p + 1), (G, 5 * p + 2), (G, 5 * p + 3), (G, 5 * p + 4)] ∧
      w'.cell? ⟨S, 0, none⟩ = some (.int .u64 ((p : Int) + 1)) ∧ w'.cell? ⟨G, 5 * p, none⟩ = some (.int .u64 ((p : Int) + 1)) ∧ w'.cell? ⟨G, 5 * p + 1, none⟩ = some (.pointer pn) ∧ w'.cell? ⟨G, 5 * p + 2, none⟩ = some (.int .u64 xh) ∧ w'.cell? ⟨G, 5 * p + 3, none⟩ = some (.int .u64 xc) ∧ w'.cell? ⟨G, 5 * p + 4, none⟩ = some (.bool xb) := by
  have hS := World.block_lt_of_cell? _ _ hh
  have hG := World.block_lt_of_cell? _ _ hq
  have hmod : p % 1024 = p := Nat.mod_eq_of_lt hp
  have hsl := slot_any S G p (w.alloc (.cells #[.pointer pn, .int .u64 xh, .int .u64 xc, .bool xb] 82)) ((World.cell?_alloc_past _ _ _ hS).trans hs) (by omega)
  rw [hmod] at hsl
  have hh' : (w.alloc (.cells #[.pointer pn, .int .u64 xh, .int .u64 xc, .bool xb] 82)).cell? ⟨S, 0, none⟩ = some (.int .u64 p) := (World.cell?_alloc_past _ _ _ hS).trans hh
  have hq' : (w.alloc (.cells #[.pointer pn, .int .u64 xh, .int .u64 xc, .bool xb] 82)).drew.cell? ⟨G, 5 * p, none⟩ = some (.int .u64 p) := (World.cell?_alloc_past _ _ _ hG).trans hq
  have hd' : (w.alloc (.cells #[.pointer pn, .int .u64 xh, .int .u64 xc, .bool xb] 82)).drew.cell? ⟨S, 0, none⟩ = some (.int .u64 p) := hh'
  have fS' : (w.alloc (.cells #[.pointer pn, .int .u64 xh, .int .u64 xc, .bool xb] 82)).drew.frozen? ⟨S, 0, none⟩ = false := by
    rw [World.frozen?_drew, World.frozen?_alloc_past _ _ _ hS]
    exact fS 0
  go_enter Yba.func33, Yba.ntmps33
  go_wp2_with fail
  refine wp_loop_rounds 1 ?_
  rw [rounds_succ]
  go_wp2_with (first
    | (go_at_call 36; refine hsl.mono ?_; rintro e _ ⟨rfl, rfl⟩)
    | (go_at_call 9; refine (load_any S 0 p _ hh').mono ?_; rintro e _ ⟨rfl, rfl⟩)
    | (go_at_call 9; refine (load_any G (5 * p) p _ hq').mono ?_; rintro e _ ⟨rfl, rfl⟩))
  refine (cas_hit S 0 p _ _ hd' fS').mono ?_
  rintro e W1 ⟨rfl, hW1⟩
  have hwG : w.heap.size ≠ G := by omega
  have hwS : w.heap.size ≠ S := by omega
  have hcG : ∀ o, W1.cell? ⟨G, o, none⟩ = w.cell? ⟨G, o, none⟩ := fun o => by
    rw [hW1, World.cell?_setCell_other _ _ _ _ (show (⟨S, 0, none⟩ : Addr) ≠ ⟨G, o, none⟩ by simp), World.cell?_drew, World.cell?_alloc_past _ _ _ hG]
  have hfG : ∀ o, W1.frozen? ⟨G, o, none⟩ = false := fun o => by
    rw [hW1, World.frozen?_setCell, World.frozen?_drew, World.frozen?_alloc_past _ _ _ hG]
    exact fG o
  have hcB : ∀ o, W1.cell? ⟨w.heap.size, o, none⟩ = #[.pointer pn, .int .u64 xh, .int .u64 xc, .bool xb][o]? := fun o => by
    rw [hW1, World.cell?_setCell_other _ _ _ _ (show (⟨S, 0, none⟩ : Addr) ≠ ⟨w.heap.size, o, none⟩ by simp), World.cell?_drew, cell_of_row _ _ _ _ _ _ (MapKept.heap_alloc w _).1]
  have hcS : W1.cell? ⟨S, 0, none⟩ = some (.int .u64 ((p : Int) + 1)) := by
    rw [hW1]
    exact World.cell?_setCell_same _ _ _ hd'
  have hF : Fr w W1 [(S, 0), (G, 5 * p), (G, 5 * p + 1), (G, 5 * p + 2), (G, 5 * p + 3), (G, 5 * p + 4)] := by
    rw [hW1]
    exact (((Fr.refl w _).alloc _).drew).setCell (by simp) _
  have g0 := (hcG (5 * p)).trans hq
  have g1 := (hcG (5 * p + 1)).trans h1
  have g2 := (hcG (5 * p + 2)).trans h2
  have g3 := (hcG (5 * p + 3)).trans h3
  have g4 := (hcG (5 * p + 4)).trans h4
  have e0 := hfG (5 * p)
  have e1 := hfG (5 * p + 1)
  have e2 := hfG (5 * p + 2)
  have e3 := hfG (5 * p + 3)
  have e4 := hfG (5 * p + 4)
  have b0 := hcB 0
  have b1 := hcB 1
  have b2 := hcB 2
  have b3 := hcB 3
  simp only [List.getElem?_toArray, List.getElem?_cons_zero, List.getElem?_cons_succ] at b0 b1 b2 b3
  clear hW1 hcG hfG hcB hh' hq' hd' fS' hsl hh hs hq h1 h2 h3 h4 fS fG
  go_wp2_with fail
  refine (store_any G (5 * p) _ (.int .u64 p) _ (by simp [World.cell?_setCell_other, g0]) (by simp [e0])).mono ?_
  rintro e W2 ⟨rfl, hW2⟩
  have k0 : W2.cell? ⟨S, 0, none⟩ = some (.int .u64 ((p : Int) + 1)) := by
    rw [hW2]
    simp [World.cell?_setCell_other, hcS]
  have k1 : W2.cell? ⟨G, 5 * p, none⟩ = some (.int .u64 ((p : Int) + 1)) := by
    rw [hW2]
    exact World.cell?_setCell_same' _ _ _ (by simp [World.cell?_setCell_other, g0])
  have k2 : W2.cell? ⟨G, 5 * p + 1, none⟩ = some (.pointer pn) := by
    rw [hW2]
    simp [World.cell?_setCell_same', World.cell?_setCell_other, g1]
  have k3 : W2.cell? ⟨G, 5 * p + 2, none⟩ = some (.int .u64 xh) := by
    rw [hW2]
    simp [World.cell?_setCell_same', World.cell?_setCell_other, g2]
  have k4 : W2.cell? ⟨G, 5 * p + 3, none⟩ = some (.int .u64 xc) := by
    rw [hW2]
    simp [World.cell?_setCell_same', World.cell?_setCell_other, g3]
  have k5 : W2.cell? ⟨G, 5 * p + 4, none⟩ = some (.bool xb) := by
    rw [hW2]
    simp [World.cell?_setCell_same', World.cell?_setCell_other, g4]
  have hF2 : Fr w W2 [(S, 0), (G, 5 * p), (G, 5 * p + 1), (G, 5 * p + 2), (G, 5 * p + 3), (G, 5 * p + 4)] := by
    rw [hW2]
    exact ((((hF.setCell (by simp) _).setCell (by simp) _).setCell (by simp) _).setCell (by simp) _).setCell (by simp) _
  clear hW2 hF
  go_wp2_with fail
  go_ret2
  exact ⟨rfl, hF2, k0, k1, k2, k3, k4, k5⟩
end Go.Proofs.Ybulkcyyc
