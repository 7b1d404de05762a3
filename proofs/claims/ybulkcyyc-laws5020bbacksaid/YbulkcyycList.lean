import Derived.Test.YbulkcyycRing
import Derived.RegionTactic
import Derived.ChangeAlike
import Derived.BigRegion
import Derived.Deep.QuietTactic
import Derived.BigQuiet
import Derived.LaidEqlPtr
import Derived.Lib.Builder
namespace Go.Proofs.Ybulkcyyc
open Go.RowKit

/-- What a method of the list leaves: all but the cells of ad. -/
structure Same (w w' : World) (ad : List (Nat × Nat)) : Prop where
  os : w'.os = w.os
  tape : w'.tape = w.tape
  output : w'.output = w.output
  size : w'.heap.size = w.heap.size
  cell : ∀ b o, (b, o) ∉ ad → w'.cell? ⟨b, o, none⟩ = w.cell? ⟨b, o, none⟩
  blk : ∀ b t n, Blk w b t n → Blk w' b t n
  block : ∀ k, (∀ o, (k, o) ∉ ad) → w'.heap[k]? = w.heap[k]?

theorem Same.refl (w : World) (ad : List (Nat × Nat)) : Same w w ad := ⟨rfl, rfl, rfl, rfl, fun _ _ _ => rfl, fun _ _ _ h => h, fun _ _ => rfl⟩
theorem Same.setCell {w w' : World} {ad : List (Nat × Nat)} (h : Same w w' ad) {b o : Nat} (ha : (b, o) ∈ ad) (v : Value) : Same w (w'.setCell ⟨b, o, none⟩ v) ad where
  os := h.os
  tape := h.tape
  output := h.output
  size := by rw [World.size_setCell]; exact h.size
  cell b' o' hk := by
    rw [World.cell?_setCell_other]
    · exact h.cell b' o' hk
    · intro e
      simp only [Addr.mk.injEq] at e
      obtain ⟨rfl, rfl, _⟩ := e
      exact hk ha
  blk b' t n hb := (h.blk b' t n hb).setCell _ _
  block k hk := by
    rw [Below.heap_setCell _ _ _ _ (fun e => hk o (by rw [e]; exact ha))]
    exact h.block k hk
theorem Same.drew {w w' : World} {ad : List (Nat × Nat)} (h : Same w w' ad) : Same w w'.drew ad := ⟨h.os, h.tape, h.output, h.size, h.cell, h.blk, h.block⟩
theorem Same.drewN {w w' : World} {ad : List (Nat × Nat)} {n : Nat} (h : Same w w' ad) : Same w (w'.drewN n) ad := ⟨h.os, h.tape, h.output, h.size, h.cell, h.blk, h.block⟩

set_option maxRecDepth 100000 in
theorem is_init (L : Nat) (w : World) (f0 : w.frozen? ⟨L, 0, none⟩ = false) (f1 : w.frozen? ⟨L, 1, none⟩ = false) (v0 v1 : Value) (h0 : w.cell? ⟨L, 0, none⟩ = some v0) (h1 : w.cell? ⟨L, 1, none⟩ = some v1) :
    Calls Yba.prog 16 #[.pointer (some ⟨L, 0, none⟩)] w fun e w' => e = .returned (.tuple #[]) ∧ Same w w' [(L, 0), (L, 1)] ∧ w'.cell? ⟨L, 0, none⟩ = some (.pointer (some ⟨L, 0, none⟩)) ∧ w'.cell? ⟨L, 1, none⟩ = some (.pointer (some ⟨L, 0, none⟩)) := by
  go_enter Yba.func16, Yba.ntmps16
  go_wp2
  go_region
  all_goals go_wp2
  all_goals go_end0
  all_goals refine ⟨rfl, ?_, ?_, ?_⟩
  · exact (((Same.refl w _).setCell (by simp) _).setCell (by simp) _).drew
  · simp [World.cell?_setCell_same', World.cell?_setCell_other, h0]
  · simp [World.cell?_setCell_same', World.cell?_setCell_other, h1]

set_option linter.unusedSimpArgs false in
set_option maxRecDepth 100000 in
theorem is_push (L n f : Nat) (c c' l : Int) (w : World) (hl : w.cell? ⟨L, 4, none⟩ = some (.int .i64 l)) (hl0 : 0 ≤ l) (hl1 : l ≤ 2000) (hc : w.cell? ⟨L, 5, none⟩ = some (.int .u64 c)) (hc' : w.cell? ⟨n, 3, none⟩ = some (.int .u64 c'))
    (hf : w.cell? ⟨L, 1, none⟩ = some (.pointer (some ⟨f, 0, none⟩))) (v0 v1 v2 : Value) (h0 : w.cell? ⟨n, 0, none⟩ = some v0) (h1 : w.cell? ⟨n, 1, none⟩ = some v1) (h2 : w.cell? ⟨f, 0, none⟩ = some v2)
    (fL1 : w.frozen? ⟨L, 1, none⟩ = false) (fL4 : w.frozen? ⟨L, 4, none⟩ = false) (fL5 : w.frozen? ⟨L, 5, none⟩ = false) (fn0 : w.frozen? ⟨n, 0, none⟩ = false) (fn1 : w.frozen? ⟨n, 1, none⟩ = false) (ff : w.frozen? ⟨f, 0, none⟩ = false) (hn : n ≠ L) (hnf : n ≠ f) :
    Calls Yba.prog 18 #[.pointer (some ⟨L, 0, none⟩), .pointer (some ⟨n, 0, none⟩)] w fun e w' => e = .returned (.tuple #[]) ∧ Same w w' [(n, 0), (n, 1), (f, 0), (L, 1), (L, 4), (L, 5)]
      ∧ w'.cell? ⟨n, 0, none⟩ = some (.pointer (some ⟨L, 0, none⟩)) ∧ w'.cell? ⟨n, 1, none⟩ = some (.pointer (some ⟨f, 0, none⟩)) ∧ w'.cell? ⟨f, 0, none⟩ = some (.pointer (some ⟨n, 0, none⟩)) ∧ w'.cell? ⟨L, 1, none⟩ = some (.pointer (some ⟨n, 0, none⟩))
      ∧ w'.cell? ⟨L, 4, none⟩ = some (.int .i64 (l + 1)) ∧ ∃ c2, w'.cell? ⟨L, 5, none⟩ = some (.int .u64 c2) := by
  go_enter Yba.func18, Yba.ntmps18
  go_wp2
  go_region
  all_goals go_wp2
  all_goals go_region
  all_goals go_wp2
  all_goals go_end0
  all_goals refine ⟨rfl, ?_, ?_, ?_, ?_, ?_, ?_, ?_⟩
  · repeat (first | with_reducible exact Same.refl _ _ | with_reducible refine Same.drew ?_ | with_reducible refine Same.setCell ?_ (by simp) _)
  case refine_7 => exact ⟨_, by simp only [World.cell?_drew]; with_reducible exact World.cell?_setCell_same' _ _ _ (by simp [World.cell?_setCell_other, hc])⟩
  all_goals simp [World.cell?_setCell_same', World.cell?_setCell_other, h0, h1, h2, hn, hnf, hn.symm, hnf.symm, hl, hc, hf]

set_option linter.unusedSimpArgs false in
set_option maxRecDepth 100000 in
theorem is_remove (L n p q : Nat) (c c' l : Int) (w : World) (hl : w.cell? ⟨L, 4, none⟩ = some (.int .i64 l)) (hl0 : 0 ≤ l) (hl1 : l ≤ 2000) (hc : w.cell? ⟨L, 5, none⟩ = some (.int .u64 c)) (hc' : w.cell? ⟨n, 3, none⟩ = some (.int .u64 c'))
    (h0 : w.cell? ⟨n, 0, none⟩ = some (.pointer (some ⟨p, 0, none⟩))) (h1 : w.cell? ⟨n, 1, none⟩ = some (.pointer (some ⟨q, 0, none⟩))) (v1 v2 : Value) (hp : w.cell? ⟨p, 1, none⟩ = some v1) (hq : w.cell? ⟨q, 0, none⟩ = some v2)
    (fL4 : w.frozen? ⟨L, 4, none⟩ = false) (fL5 : w.frozen? ⟨L, 5, none⟩ = false) (fn0 : w.frozen? ⟨n, 0, none⟩ = false) (fn1 : w.frozen? ⟨n, 1, none⟩ = false) (fp : w.frozen? ⟨p, 1, none⟩ = false) (fq : w.frozen? ⟨q, 0, none⟩ = false) (hnp : n ≠ p) (hnq : n ≠ q) :
    Calls Yba.prog 19 #[.pointer (some ⟨L, 0, none⟩), .pointer (some ⟨n, 0, none⟩)] w fun e w' => e = .returned (.tuple #[]) ∧ Same w w' [(n, 0), (n, 1), (q, 0), (p, 1), (L, 4), (L, 5)]
      ∧ w'.cell? ⟨q, 0, none⟩ = some (.pointer (some ⟨p, 0, none⟩)) ∧ w'.cell? ⟨p, 1, none⟩ = some (.pointer (some ⟨q, 0, none⟩))
      ∧ w'.cell? ⟨L, 4, none⟩ = some (.int .i64 (l - 1)) ∧ ∃ c2, w'.cell? ⟨L, 5, none⟩ = some (.int .u64 c2) := by
  go_enter Yba.func19, Yba.ntmps19
  go_wp2
  go_region
  all_goals go_wp2
  all_goals go_region
  all_goals go_wp2
  all_goals go_region
  all_goals go_wp2
  all_goals go_end0
  all_goals refine ⟨rfl, ?_, ?_, ?_, ?_, ?_⟩
  · repeat (first | with_reducible exact Same.refl _ _ | with_reducible refine Same.drew ?_ | with_reducible refine Same.setCell ?_ (by simp) _)
  case refine_5 => exact ⟨_, by simp only [World.cell?_drew]; with_reducible exact World.cell?_setCell_same' _ _ _ (by simp [World.cell?_setCell_other, hc])⟩
  all_goals simp [World.cell?_setCell_same', World.cell?_setCell_other, h0, h1, hp, hq, hnp, hnq, hnp.symm, hnq.symm, hl, hc]

set_option maxRecDepth 100000 in
theorem is_back_nil (L : Nat) (w : World) (hl : w.cell? ⟨L, 4, none⟩ = some (.int .i64 0)) : Calls Yba.prog 17 #[.pointer (some ⟨L, 0, none⟩)] w fun e w' => e = .returned (.pointer none) ∧ w' = w := by
  go_enter Yba.func17, Yba.ntmps17
  go_wp2
  go_ret
  exact ⟨rfl, rfl⟩

set_option maxRecDepth 100000 in
theorem is_back_some (L b : Nat) (l : Int) (w : World) (hl : w.cell? ⟨L, 4, none⟩ = some (.int .i64 l)) (h0 : 0 < l) (hb : w.cell? ⟨L, 0, none⟩ = some (.pointer (some ⟨b, 0, none⟩))) : Calls Yba.prog 17 #[.pointer (some ⟨L, 0, none⟩)] w fun e w' => e = .returned (.pointer (some ⟨b, 0, none⟩)) ∧ w' = w := by
  go_enter Yba.func17, Yba.ntmps17
  go_wp2
  go_ret
  exact ⟨rfl, rfl⟩

theorem info41 : ∃ i, Yba.prog.info? 41 = some i ∧ i.size ≠ 0 := by
  have h : (Yba.prog.info? 41).any (fun i => i.size != 0) = true := by kernel_rfl
  cases e : Yba.prog.info? 41 with
  | none => rw [e] at h; cases h
  | some i =>
    rw [e] at h
    exact ⟨i, rfl, by simpa using h⟩
set_option maxRecDepth 100000 in
theorem is_ahead_nil (L n : Nat) (w : World) (h : w.cell? ⟨n, 0, none⟩ = some (.pointer (some ⟨L, 0, none⟩))) : Calls Yba.prog 20 #[.pointer (some ⟨L, 0, none⟩), .pointer (some ⟨n, 0, none⟩)] w fun e w' => e = .returned (.pointer none) ∧ w' = w.drew := by
  obtain ⟨i, hi, hs⟩ := info41
  have he := fun W => run_eql_ptr_same (P := Yba.prog) W (tp := 39) (te := 41) ⟨L, 0, none⟩ Yba.underlying39 hi
  go_enter Yba.func20, Yba.ntmps20
  go_wp2
  go_region
  all_goals go_wp2
  all_goals go_ret
  all_goals exact ⟨rfl, rfl⟩
set_option maxRecDepth 100000 in
theorem is_ahead_some (L n p : Nat) (w : World) (h : w.cell? ⟨n, 0, none⟩ = some (.pointer (some ⟨p, 0, none⟩))) (hp : p ≠ L) (bL : Blk w L 61 6) (bp : Blk w p 41 4) : Calls Yba.prog 20 #[.pointer (some ⟨L, 0, none⟩), .pointer (some ⟨n, 0, none⟩)] w fun e w' => e = .returned (.pointer (some ⟨p, 0, none⟩)) ∧ w' = w.drew := by
  obtain ⟨i, hi, hs⟩ := info41
  obtain ⟨cL, hL, _⟩ := bL
  obtain ⟨cp, hcp, _⟩ := bp
  have he := run_eql_ptr_other (P := Yba.prog) w.drew (tp := 39) (te := 41) (a := ⟨p, 0, none⟩) (b := ⟨L, 0, none⟩) Yba.underlying39 hi hs (fun e => hp (congrArg Addr.block e)) (by exact hcp) (by exact hL)
  go_enter Yba.func20, Yba.ntmps20
  go_wp2
  go_region
  all_goals go_wp2
  all_goals go_ret
  all_goals exact ⟨rfl, rfl⟩
end Go.Proofs.Ybulkcyyc
