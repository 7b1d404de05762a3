import Derived.Test.YbulkcyycPush
import Derived.Deep.RegionWith
namespace Go.Proofs.Ybulkcyyc
open Go.RowKit

/-- A slot's number: its place, one more once it is filled. -/
def seqOf (hd j : Nat) : Int := if j < hd then (j : Int) + 1 else (j : Int)
theorem seqOf_at (hd : Nat) : seqOf hd hd = (hd : Int) := by simp [seqOf]
theorem seqOf_new (hd : Nat) : seqOf (hd + 1) hd = (hd : Int) + 1 := by simp [seqOf]
theorem seqOf_other {hd j : Nat} (h : j ≠ hd) : seqOf (hd + 1) j = seqOf hd j := by
  unfold seqOf
  by_cases h1 : j < hd
  · rw [if_pos h1, if_pos (by omega)]
  · rw [if_neg h1, if_neg (by omega)]
theorem seqOf_full : seqOf 1024 0 = 1 := by simp [seqOf]

/-- What a slot holds: node, hash, writes, set. -/
structure Rd where
  n : Option Addr
  h : Int
  c : Int
  s : Bool
def upd (V : Nat → Rd) (p : Nat) (r : Rd) : Nat → Rd := fun j => if j = p then r else V j
theorem upd_at (V : Nat → Rd) (p : Nat) (r : Rd) : upd V p r p = r := by simp [upd]
theorem upd_other (V : Nat → Rd) {p j : Nat} (r : Rd) (h : j ≠ p) : upd V p r j = V j := by simp [upd, h]

/-- The stripe in memory: S its own block, G its slots'. -/
structure RSt (w : World) (S G : Nat) (hd dh st : Nat) (V : Nat → Rd) : Prop where
  bS : Blk w S 79 42
  bG : Blk w G 84 5120
  hle : hd ≤ 1024
  head : w.cell? ⟨S, 0, none⟩ = some (.int .u64 hd)
  slots : w.cell? ⟨S, 1, none⟩ = some (.slice (some ⟨G, 0, none⟩) 1024 1024)
  every : w.cell? ⟨S, 2, none⟩ = some (.int .u64 1)
  dhits : w.cell? ⟨S, 3, none⟩ = some (.int .u64 dh)
  dmiss : w.cell? ⟨S, 4, none⟩ = some (.int .u64 0)
  rej : w.cell? ⟨S, 5, none⟩ = some (.int .u64 0)
  sets : w.cell? ⟨S, 6, none⟩ = some (.int .u64 st)
  tail : w.cell? ⟨S, 7, none⟩ = some (.int .u64 0)
  hits : w.cell? ⟨S, 8, none⟩ = some (.int .u64 0)
  misses : w.cell? ⟨S, 9, none⟩ = some (.int .u64 0)
  seq : ∀ j, j < 1024 → w.cell? ⟨G, 5 * j, none⟩ = some (.int .u64 (seqOf hd j))
  v0 : ∀ j, j < 1024 → w.cell? ⟨G, 5 * j + 1, none⟩ = some (.pointer (V j).n)
  v1 : ∀ j, j < 1024 → w.cell? ⟨G, 5 * j + 2, none⟩ = some (.int .u64 (V j).h)
  v2 : ∀ j, j < 1024 → w.cell? ⟨G, 5 * j + 3, none⟩ = some (.int .u64 (V j).c)
  v3 : ∀ j, j < 1024 → w.cell? ⟨G, 5 * j + 4, none⟩ = some (.bool (V j).s)

theorem RSt.ne {w : World} {S G hd dh st : Nat} {V : Nat → Rd} (h : RSt w S G hd dh st V) : S ≠ G := h.bS.ne h.bG (by decide)

theorem RSt.later {w w' : World} {S G hd dh st : Nat} {V : Nat → Rd} (h : RSt w S G hd dh st V) (eS : w'.heap[S]? = w.heap[S]?) (eG : w'.heap[G]? = w.heap[G]?) : RSt w' S G hd dh st V := by
  have cS : ∀ o, w'.cell? ⟨S, o, none⟩ = w.cell? ⟨S, o, none⟩ := fun o => by unfold World.cell?; simp only [eS]
  have cG : ∀ o, w'.cell? ⟨G, o, none⟩ = w.cell? ⟨G, o, none⟩ := fun o => by unfold World.cell?; simp only [eG]
  exact ⟨h.bS.later eS, h.bG.later eG, h.hle, (cS _).trans h.head, (cS _).trans h.slots, (cS _).trans h.every, (cS _).trans h.dhits, (cS _).trans h.dmiss, (cS _).trans h.rej, (cS _).trans h.sets, (cS _).trans h.tail, (cS _).trans h.hits, (cS _).trans h.misses,
    fun j hj => (cG _).trans (h.seq j hj), fun j hj => (cG _).trans (h.v0 j hj), fun j hj => (cG _).trans (h.v1 j hj), fun j hj => (cG _).trans (h.v2 j hj), fun j hj => (cG _).trans (h.v3 j hj)⟩
theorem RSt.drew {w : World} {S G hd dh st : Nat} {V : Nat → Rd} (h : RSt w S G hd dh st V) : RSt w.drew S G hd dh st V := h.later rfl rfl
theorem RSt.drewN {w : World} {S G hd dh st n : Nat} {V : Nat → Rd} (h : RSt w S G hd dh st V) : RSt (w.drewN n) S G hd dh st V := h.later rfl rfl
theorem RSt.below {w w' : World} {S G hd dh st : Nat} {V : Nat → Rd} (h : RSt w S G hd dh st V) (hb : Below w.heap.size w w') : RSt w' S G hd dh st V := h.later (hb.block S h.bS.lt) (hb.block G h.bG.lt)

theorem RSt.addSets {w w' : World} {S G hd dh st : Nat} {V : Nat → Rd} (h : RSt w S G hd dh st V) (hF : Fr w w' [(S, 6)]) (hc : w'.cell? ⟨S, 6, none⟩ = some (.int .u64 ((st : Int) + 1))) : RSt w' S G hd dh (st + 1) V := by
  have cS : ∀ o, o ≠ 6 → w'.cell? ⟨S, o, none⟩ = w.cell? ⟨S, o, none⟩ := fun o ho => hF.cell S o h.bS.lt (by simp [ho])
  have cG : ∀ o, w'.cell? ⟨G, o, none⟩ = w.cell? ⟨G, o, none⟩ := fun o => hF.cell G o h.bG.lt (by simp [h.ne.symm])
  exact ⟨hF.blk _ _ _ h.bS, hF.blk _ _ _ h.bG, h.hle, (cS _ (by decide)).trans h.head, (cS _ (by decide)).trans h.slots, (cS _ (by decide)).trans h.every, (cS _ (by decide)).trans h.dhits, (cS _ (by decide)).trans h.dmiss, (cS _ (by decide)).trans h.rej, hc, (cS _ (by decide)).trans h.tail, (cS _ (by decide)).trans h.hits, (cS _ (by decide)).trans h.misses,
    fun j hj => (cG _).trans (h.seq j hj), fun j hj => (cG _).trans (h.v0 j hj), fun j hj => (cG _).trans (h.v1 j hj), fun j hj => (cG _).trans (h.v2 j hj), fun j hj => (cG _).trans (h.v3 j hj)⟩

theorem RSt.addDh {w w' : World} {S G hd dh st : Nat} {V : Nat → Rd} (h : RSt w S G hd dh st V) (hF : Fr w w' [(S, 3)]) (hc : w'.cell? ⟨S, 3, none⟩ = some (.int .u64 ((dh : Int) + 1))) : RSt w' S G hd (dh + 1) st V := by
  have cS : ∀ o, o ≠ 3 → w'.cell? ⟨S, o, none⟩ = w.cell? ⟨S, o, none⟩ := fun o ho => hF.cell S o h.bS.lt (by simp [ho])
  have cG : ∀ o, w'.cell? ⟨G, o, none⟩ = w.cell? ⟨G, o, none⟩ := fun o => hF.cell G o h.bG.lt (by simp [h.ne.symm])
  exact ⟨hF.blk _ _ _ h.bS, hF.blk _ _ _ h.bG, h.hle, (cS _ (by decide)).trans h.head, (cS _ (by decide)).trans h.slots, (cS _ (by decide)).trans h.every, hc, (cS _ (by decide)).trans h.dmiss, (cS _ (by decide)).trans h.rej, (cS _ (by decide)).trans h.sets, (cS _ (by decide)).trans h.tail, (cS _ (by decide)).trans h.hits, (cS _ (by decide)).trans h.misses,
    fun j hj => (cG _).trans (h.seq j hj), fun j hj => (cG _).trans (h.v0 j hj), fun j hj => (cG _).trans (h.v1 j hj), fun j hj => (cG _).trans (h.v2 j hj), fun j hj => (cG _).trans (h.v3 j hj)⟩

theorem RSt.push {w w' : World} {S G hd dh st : Nat} {V : Nat → Rd} (r : Rd) (h : RSt w S G hd dh st V) (hlt : hd < 1024) (hF : Fr w w' [(S, 0), (G, 5 * hd), (G, 5 * hd + 1), (G, 5 * hd + 2), (G, 5 * hd + 3), (G, 5 * hd + 4)])
    (k0 : w'.cell? ⟨S, 0, none⟩ = some (.int .u64 ((hd : Int) + 1))) (k1 : w'.cell? ⟨G, 5 * hd, none⟩ = some (.int .u64 ((hd : Int) + 1))) (k2 : w'.cell? ⟨G, 5 * hd + 1, none⟩ = some (.pointer r.n)) (k3 : w'.cell? ⟨G, 5 * hd + 2, none⟩ = some (.int .u64 r.h))
    (k4 : w'.cell? ⟨G, 5 * hd + 3, none⟩ = some (.int .u64 r.c)) (k5 : w'.cell? ⟨G, 5 * hd + 4, none⟩ = some (.bool r.s)) : RSt w' S G (hd + 1) dh st (upd V hd r) := by
  have cS : ∀ o, o ≠ 0 → w'.cell? ⟨S, o, none⟩ = w.cell? ⟨S, o, none⟩ := fun o ho => hF.cell S o h.bS.lt (by simp [ho, h.ne])
  have cG : ∀ o, (o < 5 * hd ∨ 5 * hd + 4 < o) → w'.cell? ⟨G, o, none⟩ = w.cell? ⟨G, o, none⟩ := fun o ho => hF.cell G o h.bG.lt (by
    simp only [List.mem_cons, Prod.mk.injEq, List.not_mem_nil, or_false, true_and]
    rintro (⟨e, _⟩ | e | e | e | e | e)
    · exact h.ne e.symm
    all_goals omega)
  refine ⟨hF.blk _ _ _ h.bS, hF.blk _ _ _ h.bG, hlt, k0, (cS _ (by decide)).trans h.slots, (cS _ (by decide)).trans h.every, (cS _ (by decide)).trans h.dhits, (cS _ (by decide)).trans h.dmiss, (cS _ (by decide)).trans h.rej, (cS _ (by decide)).trans h.sets, (cS _ (by decide)).trans h.tail, (cS _ (by decide)).trans h.hits, (cS _ (by decide)).trans h.misses, ?_, ?_, ?_, ?_, ?_⟩
  all_goals intro j hj
  all_goals by_cases e : j = hd
  · subst e; rw [seqOf_new]; exact k1
  · rw [seqOf_other e]; exact (cG _ (by omega)).trans (h.seq j hj)
  · subst e; rw [upd_at]; exact k2
  · rw [upd_other _ _ e]; exact (cG _ (by omega)).trans (h.v0 j hj)
  · subst e; rw [upd_at]; exact k3
  · rw [upd_other _ _ e]; exact (cG _ (by omega)).trans (h.v1 j hj)
  · subst e; rw [upd_at]; exact k4
  · rw [upd_other _ _ e]; exact (cG _ (by omega)).trans (h.v2 j hj)
  · subst e; rw [upd_at]; exact k5
  · rw [upd_other _ _ e]; exact (cG _ (by omega)).trans (h.v3 j hj)

/-- What a method of the stripe leaves: of the old blocks all but S and G. -/
structure FrB (w w' : World) (S G : Nat) : Prop where
  os : w'.os = w.os
  tape : w'.tape = w.tape
  output : w'.output = w.output
  size : w.heap.size ≤ w'.heap.size
  block : ∀ k, k < w.heap.size → k ≠ S → k ≠ G → w'.heap[k]? = w.heap[k]?
theorem FrB.refl (w : World) (S G : Nat) : FrB w w S G := ⟨rfl, rfl, rfl, Nat.le_refl _, fun _ _ _ _ => rfl⟩
theorem FrB.trans {w w' w'' : World} {S G : Nat} (h : FrB w w' S G) (h' : FrB w' w'' S G) : FrB w w'' S G :=
  ⟨h'.os.trans h.os, h'.tape.trans h.tape, h'.output.trans h.output, Nat.le_trans h.size h'.size, fun k hk h1 h2 => (h'.block k (Nat.lt_of_lt_of_le hk h.size) h1 h2).trans (h.block k hk h1 h2)⟩
theorem FrB.drew {w w' : World} {S G : Nat} (h : FrB w w' S G) : FrB w w'.drew S G := ⟨h.os, h.tape, h.output, h.size, h.block⟩
theorem FrB.drewN {w w' : World} {S G n : Nat} (h : FrB w w' S G) : FrB w (w'.drewN n) S G := ⟨h.os, h.tape, h.output, h.size, h.block⟩
theorem FrB.below {w0 w w' : World} {S G : Nat} (h : FrB w w' S G) (hb : Below w0.heap.size w0 w) (hS : w0.heap.size ≤ S) (hG : w0.heap.size ≤ G) : Below w0.heap.size w0 w' :=
  ⟨h.os.trans hb.os, h.tape.trans hb.tape, h.output.trans hb.output, Nat.le_trans hb.size h.size, fun k hk => (h.block k (Nat.lt_of_lt_of_le hk hb.size) (by omega) (by omega)).trans (hb.block k hk)⟩
theorem FrB.ofBelow {w w' : World} {S G : Nat} (h : Below w.heap.size w w') : FrB w w' S G := ⟨h.os, h.tape, h.output, h.size, fun k hk _ _ => h.block k hk⟩
theorem Fr.frB {w w' : World} {ad : List (Nat × Nat)} {S G : Nat} (h : Fr w w' ad) (hs : ∀ p ∈ ad, p.1 = S ∨ p.1 = G) : FrB w w' S G :=
  ⟨h.os, h.tape, h.output, h.size, fun k hk h1 h2 => h.block k hk (fun _ hm => (hs _ hm).elim h1 h2)⟩
theorem FrB.cell {w w' : World} {S G b o : Nat} {v : Value} (h : FrB w w' S G) (h1 : b ≠ S) (h2 : b ≠ G) (hc : w.cell? ⟨b, o, none⟩ = some v) : w'.cell? ⟨b, o, none⟩ = some v := by
  rw [← hc]
  unfold World.cell?
  simp only [h.block b (World.block_lt_of_cell? _ _ hc) h1 h2]
end Go.Proofs.Ybulkcyyc
