import Derived.Test.YbulkcyycProg
import Derived.WalkKit
import Derived.WalkSpells
import Derived.WalkLawsBesides
import Derived.Below
import Derived.OneCell
import Derived.OwnWalk
import Derived.MapKept
namespace Go.Proofs.Ybulkcyyc
open Go.RowKit

/-- Each node of the list leads to the next, and the next back to it. -/
def Linked (w : World) : List Nat → Prop
  | u :: v :: r => w.cell? ⟨u, 1, none⟩ = some (.pointer (some ⟨v, 0, none⟩)) ∧ w.cell? ⟨v, 0, none⟩ = some (.pointer (some ⟨u, 0, none⟩)) ∧ Linked w (v :: r)
  | _ => True

theorem linked_append {w : World} {u : Nat} {ys : List Nat} : ∀ {xs : List Nat}, Linked w (xs ++ u :: ys) ↔ Linked w (xs ++ [u]) ∧ Linked w (u :: ys)
  | [] => by simp [Linked]
  | [a] => by simp [Linked, and_assoc]
  | a :: b :: r => by
    have ih := linked_append (w := w) (u := u) (ys := ys) (xs := b :: r)
    simp only [List.cons_append] at ih ⊢
    simp only [Linked, ih, and_assoc]

theorem linked_congr {w w' : World} : ∀ {l : List Nat}, Linked w l → (∀ u ∈ l.dropLast, w'.cell? ⟨u, 1, none⟩ = w.cell? ⟨u, 1, none⟩) → (∀ v ∈ l.tail, w'.cell? ⟨v, 0, none⟩ = w.cell? ⟨v, 0, none⟩) → Linked w' l
  | [], _, _, _ => trivial
  | [_], _, _, _ => trivial
  | u :: v :: r, h, h1, h0 => by
    obtain ⟨a, b, c⟩ := h
    refine ⟨(h1 u (by simp [List.dropLast])).trans a, (h0 v (by simp)).trans b, linked_congr c (fun x hx => h1 x ?_) (fun x hx => h0 x ?_)⟩
    · simp only [List.dropLast_cons_cons]
      exact List.mem_cons_of_mem _ hx
    · simp only [List.tail_cons] at hx ⊢
      exact List.mem_cons_of_mem _ hx

/-- A block of n cells of type t, none frozen. -/
def Blk (w : World) (b : Nat) (t : TypeId) (n : Nat) : Prop := ∃ cs : Array Value, w.heap[b]? = some (.cells cs t (0, 0)) ∧ cs.size = n

theorem Blk.lt {w : World} {b : Nat} {t : TypeId} {n : Nat} (h : Blk w b t n) : b < w.heap.size := by
  obtain ⟨cs, h, _⟩ := h
  exact lt_of_block h
theorem Blk.frozen {w : World} {b : Nat} {t : TypeId} {n : Nat} (h : Blk w b t n) (o : Nat) : w.frozen? ⟨b, o, none⟩ = false := by
  obtain ⟨cs, h, _⟩ := h
  exact frozen_of_row w b o cs t h
theorem Blk.setCell {w : World} {b : Nat} {t : TypeId} {n : Nat} (h : Blk w b t n) (a : Addr) (v : Value) : Blk (w.setCell a v) b t n := by
  obtain ⟨cs, h, hn⟩ := h
  by_cases e : b = a.block
  · subst e
    refine ⟨if a.spot.isSome then cs else cs.setIfInBounds a.off v, ?_, ?_⟩
    · show (w.heap.modify a.block _)[a.block]? = _
      rw [Array.getElem?_modify, if_pos rfl, h]
      rfl
    · split
      · exact hn
      · simpa using hn
  · exact ⟨cs, by rw [Below.heap_setCell _ _ _ _ e]; exact h, hn⟩
theorem Blk.later {w w' : World} {b : Nat} {t : TypeId} {n : Nat} (h : Blk w b t n) (hb : w'.heap[b]? = w.heap[b]?) : Blk w' b t n := by
  obtain ⟨cs, h, hn⟩ := h
  exact ⟨cs, hb.trans h, hn⟩
theorem Blk.ne {w : World} {b b' : Nat} {t t' : TypeId} {n n' : Nat} (h : Blk w b t n) (h' : Blk w b' t' n') (ht : t ≠ t') : b ≠ b' := by
  rintro rfl
  obtain ⟨cs, h, _⟩ := h
  obtain ⟨cs', h', _⟩ := h'
  rw [h] at h'
  simp only [Option.some.injEq, Obj.cells.injEq] at h'
  exact ht h'.2.1

/-- The list in memory: L its own block, bs its nodes' blocks, front first. -/
structure LSt (w : World) (L : Nat) (bs : List Nat) : Prop where
  blkL : Blk w L 61 6
  blk : ∀ b ∈ bs, Blk w b 41 4
  linked : Linked w (L :: (bs ++ [L]))
  nodup : (L :: bs).Nodup
  costs : ∀ b ∈ bs, ∃ c, w.cell? ⟨b, 3, none⟩ = some (.int .u64 c)
  len : w.cell? ⟨L, 4, none⟩ = some (.int .i64 (bs.length : Nat))
  cost : ∃ c, w.cell? ⟨L, 5, none⟩ = some (.int .u64 c)

/-- What a method of the list leaves as it was: every block but those of S. -/
structure Only (w w' : World) (S : List Nat) : Prop where
  os : w'.os = w.os
  tape : w'.tape = w.tape
  output : w'.output = w.output
  size : w'.heap.size = w.heap.size
  block : ∀ k, k ∉ S → w'.heap[k]? = w.heap[k]?

theorem Only.refl (w : World) (S : List Nat) : Only w w S := ⟨rfl, rfl, rfl, rfl, fun _ _ => rfl⟩
theorem Only.setCell {w w' : World} {S : List Nat} (h : Only w w' S) {a : Addr} (ha : a.block ∈ S) (v : Value) : Only w (w'.setCell a v) S :=
  ⟨h.os, h.tape, h.output, by rw [World.size_setCell]; exact h.size, fun k hk => by rw [Below.heap_setCell _ _ _ _ (fun e => hk (by rw [e]; exact ha))]; exact h.block k hk⟩
theorem Only.drew {w w' : World} {S : List Nat} (h : Only w w' S) : Only w w'.drew S := ⟨h.os, h.tape, h.output, h.size, h.block⟩
theorem Only.below {w0 w w' : World} {S : List Nat} (h : Only w w' S) (hb : Below w0.heap.size w0 w) (hS : ∀ k ∈ S, w0.heap.size ≤ k) : Below w0.heap.size w0 w' :=
  ⟨h.os.trans hb.os, h.tape.trans hb.tape, h.output.trans hb.output, by rw [h.size]; exact hb.size, fun k hk => (h.block k (fun hm => by have := hS k hm; omega)).trans (hb.block k hk)⟩

/-- pushFront's links: n between L and what was first. -/
theorem linked_push {w w' : World} {L n f : Nat} {bs r : List Nat} (hl : Linked w (L :: (bs ++ [L]))) (hfr : bs ++ [L] = f :: r) (hnd : (L :: bs).Nodup) (hn : n ∉ L :: bs)
    (h1 : w'.cell? ⟨L, 1, none⟩ = some (.pointer (some ⟨n, 0, none⟩))) (h2 : w'.cell? ⟨n, 0, none⟩ = some (.pointer (some ⟨L, 0, none⟩)))
    (h3 : w'.cell? ⟨n, 1, none⟩ = some (.pointer (some ⟨f, 0, none⟩))) (h4 : w'.cell? ⟨f, 0, none⟩ = some (.pointer (some ⟨n, 0, none⟩)))
    (s1 : ∀ u, u ≠ L → u ≠ n → w'.cell? ⟨u, 1, none⟩ = w.cell? ⟨u, 1, none⟩) (s0 : ∀ u, u ≠ f → u ≠ n → w'.cell? ⟨u, 0, none⟩ = w.cell? ⟨u, 0, none⟩) : Linked w' (L :: (n :: bs ++ [L])) := by
  have e : L :: (n :: bs ++ [L]) = L :: n :: f :: r := by simp [hfr]
  rw [e]
  rw [hfr] at hl
  have hnd2 : (f :: r).Nodup := by
    rw [← hfr]
    have := List.nodup_cons.1 hnd
    exact List.nodup_append.2 ⟨this.2, by simp, fun a ha b hb => by
      rw [List.mem_singleton.1 hb]
      rintro rfl
      exact this.1 ha⟩
  have hLn : L ∉ bs := (List.nodup_cons.1 hnd).1
  have hnL : n ≠ L := fun h => hn (by simp [h])
  have hnb : n ∉ bs := fun h => hn (List.mem_cons_of_mem _ h)
  have hdl : (f :: r).dropLast = bs := by rw [← hfr]; simp
  have hmem : ∀ v ∈ r, v ∈ bs ∨ v = L := fun v hv => by
    have : v ∈ bs ++ [L] := by rw [hfr]; exact List.mem_cons_of_mem _ hv
    simpa using this
  refine ⟨h1, h2, h3, h4, linked_congr hl.2.2 (fun u hu => ?_) (fun v hv => ?_)⟩
  · rw [hdl] at hu
    exact s1 u (fun h => hLn (h ▸ hu)) (fun h => hnb (h ▸ hu))
  · simp only [List.tail_cons] at hv
    refine s0 v (fun h => (List.nodup_cons.1 hnd2).1 (h ▸ hv)) (fun h => ?_)
    rcases hmem v hv with hb | hb
    · exact hnb (h ▸ hb)
    · exact hnL (h.symm.trans hb)

/-- remove's links: p and q meet over n. -/
theorem linked_drop {w w' : World} {p n q : Nat} {A D : List Nat} (hl : Linked w (A ++ p :: n :: q :: D)) (hpA : p ∉ A) (hqA : q ∉ (A ++ [p]).tail) (hpD : p ∉ (q :: D).dropLast) (hqD : q ∉ D) (hnA : n ∉ A) (hnA' : n ∉ (A ++ [p]).tail) (hnq : n ∉ (q :: D).dropLast) (hnD : n ∉ D)
    (h1 : w'.cell? ⟨p, 1, none⟩ = some (.pointer (some ⟨q, 0, none⟩))) (h2 : w'.cell? ⟨q, 0, none⟩ = some (.pointer (some ⟨p, 0, none⟩)))
    (s1 : ∀ u, u ≠ p → u ≠ n → w'.cell? ⟨u, 1, none⟩ = w.cell? ⟨u, 1, none⟩) (s0 : ∀ u, u ≠ q → u ≠ n → w'.cell? ⟨u, 0, none⟩ = w.cell? ⟨u, 0, none⟩) : Linked w' (A ++ p :: q :: D) := by
  obtain ⟨ha, hb⟩ := linked_append.1 hl
  obtain ⟨_, _, _, _, hd⟩ := hb
  refine linked_append.2 ⟨linked_congr ha (fun u hu => ?_) (fun v hv => ?_), h1, h2, linked_congr hd (fun u hu => ?_) (fun v hv => ?_)⟩
  · rw [List.dropLast_concat] at hu
    exact s1 u (fun h => hpA (h ▸ hu)) (fun h => hnA (h ▸ hu))
  · exact s0 v (fun h => hqA (h ▸ hv)) (fun h => hnA' (h ▸ hv))
  · exact s1 u (fun h => hpD (h ▸ hu)) (fun h => hnq (h ▸ hu))
  · exact s0 v (fun h => hqD (h ▸ hv)) (fun h => hnD (h ▸ hv))
end Go.Proofs.Ybulkcyyc
