import Derived.Test.YbulkcyycPushSet
import Derived.Test.YbulkcyycNew
namespace Go.Proofs.Ybulkcyyc
open Go.RowKit

/-- The closure's variables: P, N, H, B: the stripe's address, the node's, the hash, the write counter; T, E, D: the model's three counts. -/
structure MSt (w : World) (S G P N H B T E D : Nat) (nd : Addr) (x : Int) (hd dh st : Nat) : Prop where
  r : ∃ V, RSt w S G hd dh st V
  cP : w.cell? ⟨P, 0, none⟩ = some (.pointer (some ⟨S, 0, none⟩))
  cN : w.cell? ⟨N, 0, none⟩ = some (.pointer (some nd))
  cH : w.cell? ⟨H, 0, none⟩ = some (.int .u64 x)
  cB : w.cell? ⟨B, 0, none⟩ = some (.int .u64 0)
  cT : w.cell? ⟨T, 0, none⟩ = some (.int .u64 st)
  cE : w.cell? ⟨E, 0, none⟩ = some (.int .u64 hd)
  cD : w.cell? ⟨D, 0, none⟩ = some (.int .u64 dh)
  fT : w.frozen? ⟨T, 0, none⟩ = false
  fE : w.frozen? ⟨E, 0, none⟩ = false
  fD : w.frozen? ⟨D, 0, none⟩ = false

/-- The blocks are apart. -/
structure Apart (S G P N H B T E D : Nat) : Prop where
  nd : [S, G, P, N, H, B, T, E, D].Nodup

/-- What a step leaves: of the old blocks all but those five. -/
structure FrM (w w' : World) (S G T E D : Nat) : Prop where
  os : w'.os = w.os
  tape : w'.tape = w.tape
  output : w'.output = w.output
  size : w.heap.size ≤ w'.heap.size
  block : ∀ k, k < w.heap.size → k ≠ S → k ≠ G → k ≠ T → k ≠ E → k ≠ D → w'.heap[k]? = w.heap[k]?
theorem FrB.frM {w w' : World} {S G : Nat} (T E D : Nat) (h : FrB w w' S G) : FrM w w' S G T E D := ⟨h.os, h.tape, h.output, h.size, fun k hk h1 h2 _ _ _ => h.block k hk h1 h2⟩
theorem FrM.drewN {w w' : World} {S G T E D n : Nat} (h : FrM w w' S G T E D) : FrM w (w'.drewN n) S G T E D := ⟨h.os, h.tape, h.output, h.size, h.block⟩
theorem FrM.setCell {w w' : World} {S G T E D b o : Nat} (h : FrM w w' S G T E D) (hb : b = T ∨ b = E ∨ b = D) (v : Value) : FrM w (w'.setCell ⟨b, o, none⟩ v) S G T E D :=
  ⟨h.os, h.tape, h.output, by rw [World.size_setCell]; exact h.size, fun k hk h1 h2 h3 h4 h5 => by
    rw [Below.heap_setCell _ _ _ _ (fun e => by rcases hb with rfl | rfl | rfl <;> simp_all)]
    exact h.block k hk h1 h2 h3 h4 h5⟩

theorem RSt.setOther {w : World} {S G hd dh st b o : Nat} {V : Nat → Rd} (h : RSt w S G hd dh st V) (h1 : S ≠ b) (h2 : G ≠ b) (v : Value) : RSt (w.setCell ⟨b, o, none⟩ v) S G hd dh st V :=
  h.later (Below.heap_setCell _ _ _ _ h1) (Below.heap_setCell _ _ _ _ h2)
theorem frozen_block {w w' : World} {b o : Nat} (hb : w'.heap[b]? = w.heap[b]?) (h : w.frozen? ⟨b, o, none⟩ = false) : w'.frozen? ⟨b, o, none⟩ = false := by
  rw [← h]
  unfold World.frozen?
  simp only [hb]
theorem FrB.frozen {w w' : World} {S G b o : Nat} {v : Value} (h : FrB w w' S G) (h1 : b ≠ S) (h2 : b ≠ G) (hc : w.cell? ⟨b, o, none⟩ = some v) (hz : w.frozen? ⟨b, o, none⟩ = false) : w'.frozen? ⟨b, o, none⟩ = false :=
  frozen_block (h.block b (World.block_lt_of_cell? _ _ hc) h1 h2) hz

/-- Behind the stripe's method the closure's variables read as before. -/
theorem MSt.after {w w' : World} {S G P N H B T E D : Nat} {nd : Addr} {x : Int} {hd dh st hd' dh' st' : Nat} {V : Nat → Rd} (hA : Apart S G P N H B T E D) (h : MSt w S G P N H B T E D nd x hd dh st) (hr : RSt w' S G hd' dh' st' V) (hF : FrB w w' S G) :
    RSt w' S G hd' dh' st' V ∧ w'.cell? ⟨P, 0, none⟩ = some (.pointer (some ⟨S, 0, none⟩)) ∧ w'.cell? ⟨N, 0, none⟩ = some (.pointer (some nd)) ∧ w'.cell? ⟨H, 0, none⟩ = some (.int .u64 x) ∧ w'.cell? ⟨B, 0, none⟩ = some (.int .u64 0)
      ∧ w'.cell? ⟨T, 0, none⟩ = some (.int .u64 st) ∧ w'.cell? ⟨E, 0, none⟩ = some (.int .u64 hd) ∧ w'.cell? ⟨D, 0, none⟩ = some (.int .u64 dh)
      ∧ w'.frozen? ⟨T, 0, none⟩ = false ∧ w'.frozen? ⟨E, 0, none⟩ = false ∧ w'.frozen? ⟨D, 0, none⟩ = false := by
  have hn := hA.nd
  simp only [List.nodup_cons, List.mem_cons, List.not_mem_nil, or_false, not_or, not_false_eq_true, List.nodup_nil, and_true] at hn
  obtain ⟨⟨_, sP, sN, sH, sB, sT, sE, sD⟩, ⟨gP, gN, gH, gB, gT, gE, gD⟩, _⟩ := hn
  exact ⟨hr, hF.cell (Ne.symm sP) (Ne.symm gP) h.cP, hF.cell (Ne.symm sN) (Ne.symm gN) h.cN, hF.cell (Ne.symm sH) (Ne.symm gH) h.cH, hF.cell (Ne.symm sB) (Ne.symm gB) h.cB, hF.cell (Ne.symm sT) (Ne.symm gT) h.cT, hF.cell (Ne.symm sE) (Ne.symm gE) h.cE, hF.cell (Ne.symm sD) (Ne.symm gD) h.cD,
    hF.frozen (Ne.symm sT) (Ne.symm gT) h.cT h.fT, hF.frozen (Ne.symm sE) (Ne.symm gE) h.cE h.fE, hF.frozen (Ne.symm sD) (Ne.symm gD) h.cD h.fD⟩
end Go.Proofs.Ybulkcyyc
