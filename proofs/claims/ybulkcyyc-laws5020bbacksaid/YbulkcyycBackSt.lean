import Derived.Test.YbulkcyycMoves
import Derived.Deep.LoopGhost
import Derived.Deep.CutRange
import Derived.Deep.CutBlock
import Derived.Deep.RegionLawGrows
import Derived.Laws.AppendOwnNone
namespace Go.Proofs.Ybulkcyyc
open Go.RowKit

theorem info39 : (Yba.prog.info? 39).map (fun i => (i.zero, i.size, i.bytes)) = some (some (.pointer none), 1, 8) := by kernel_rfl

def ptrs (bs : List Nat) : List Value := bs.map fun b => .pointer (some ⟨b, 0, none⟩)

/-- The model's slice: nil and empty, or the first cells of a row of pointers. -/
def MRow (w : World) (v : Value) (bs : List Nat) : Prop :=
  (v = .slice none 0 0 ∧ bs = []) ∨ ∃ (g cap : Nat) (cur : Array Value), v = .slice (some ⟨g, 0, none⟩) bs.length cap ∧ w.heap[g]? = some (.cells cur 39 (0, 0)) ∧ bs.length ≤ cap ∧ cap ≤ maxLen ∧ cur.toList.take bs.length = ptrs bs

theorem MRow.of_own {w : World} {base : Nat} {v : Value} {n : Nat} {bs : List Nat} (h : w.ownsRow base 39 1 v n (ptrs bs)) : MRow w v bs := by
  have hl : bs.length = n := by have := h.1; simpa [ptrs] using this
  rcases h.2 with ⟨rfl, h0⟩ | ⟨g, cap, cur, rfl, _, hg, hc, hm, _, ht⟩
  · exact .inl ⟨rfl, List.length_eq_zero_iff.1 (by omega)⟩
  · refine .inr ⟨g, cap, cur, by rw [hl], hg, by omega, hm, ?_⟩
    rw [hl]
    simpa using ht

theorem ptrs_get {bs : List Nat} {j : Nat} (hj : j < bs.length) : (ptrs bs)[j]? = some (.pointer (some ⟨bs[j], 0, none⟩)) := by simp [ptrs, hj]
theorem ptrs_one (bs : List Nat) : ∀ u ∈ ptrs bs, u.oneCell' = true := by
  intro u hu
  obtain ⟨x, _, rfl⟩ := List.mem_map.1 hu
  rfl

theorem row_cell {w : World} {g : Nat} {cur : Array Value} {bs : List Nat} (hg : w.heap[g]? = some (.cells cur 39 (0, 0))) (ht : cur.toList.take bs.length = ptrs bs) {j : Nat} (hj : j < bs.length) : w.cell? ⟨g, j, none⟩ = some (.pointer (some ⟨bs[j], 0, none⟩)) := by
  rw [cell_of_row w g j cur 39 _ hg, ← ptrs_get hj, ← ht, List.getElem?_take_of_lt hj, Array.getElem?_toList]

theorem MRow.later {w w' : World} {v : Value} {bs : List Nat} (h : MRow w v bs) (hb : ∀ (g : Nat) (cur : Array Value), w.heap[g]? = some (.cells cur 39 (0, 0)) → w'.heap[g]? = w.heap[g]?) : MRow w' v bs := by
  rcases h with h | ⟨g, cap, cur, h1, h2, h3⟩
  · exact .inl h
  · exact .inr ⟨g, cap, cur, h1, (hb g cur h2).trans h2, h3⟩

theorem cell_block {w w' : World} {b o : Nat} {v : Value} (h : w.cell? ⟨b, o, none⟩ = some v) (hb : w'.heap[b]? = w.heap[b]?) : w'.cell? ⟨b, o, none⟩ = some v := by
  rw [← h]
  unfold World.cell?
  simp only [hb]

theorem LSt.later {w w' : World} {L : Nat} {bs : List Nat} (h : LSt w L bs) (hb : ∀ b ∈ L :: bs, w'.heap[b]? = w.heap[b]?) : LSt w' L bs := by
  have hc : ∀ b ∈ L :: bs, ∀ o, w'.cell? ⟨b, o, none⟩ = w.cell? ⟨b, o, none⟩ := fun b hm o => by
    unfold World.cell?
    simp only [hb b hm]
  refine ⟨h.blkL.later (hb L (by simp)), fun b hm => (h.blk b hm).later (hb b (by simp [hm])), linked_congr h.linked (fun u hu => hc u ?_ 1) (fun u hu => hc u ?_ 0), h.nodup, fun b hm => ?_, (hc L (by simp) 4).trans h.len, ?_⟩
  · have := (List.dropLast_sublist _).subset hu
    simp only [List.mem_cons, List.mem_append, List.not_mem_nil, or_false] at this ⊢
    rcases this with h | h | h <;> simp [h]
  · simp only [List.tail_cons, List.mem_append, List.mem_singleton] at hu
    rcases hu with h | h <;> simp [h]
  · rw [hc b (by simp [hm]) 3]
    exact h.costs b hm
  · rw [hc L (by simp) 5]
    exact h.cost

/-- The state between two rounds. -/
structure BB (w wr : World) (mv : Value) (bs : List Nat) (i : Nat) : Prop where
  bel : Below w.heap.size w wr
  l : LSt wr w.heap.size bs
  ge : ∀ b ∈ bs, w.heap.size ≤ b
  row : MRow wr mv bs
  len : bs.length ≤ i

theorem LSt.lt {w : World} {L : Nat} {bs : List Nat} (h : LSt w L bs) : ∀ b ∈ L :: bs, b < w.heap.size := by
  intro b hb
  rcases List.mem_cons.1 hb with rfl | hb
  · exact h.blkL.lt
  · exact (h.blk b hb).lt

theorem LSt.not39 {w : World} {L : Nat} {bs : List Nat} (h : LSt w L bs) {g : Nat} {cur : Array Value} (hg : w.heap[g]? = some (.cells cur 39 (0, 0))) : g ∉ L :: bs := by
  intro hm
  have hB : Blk w g 39 cur.size := ⟨cur, hg, rfl⟩
  rcases List.mem_cons.1 hm with rfl | hm
  · exact hB.ne h.blkL (by decide) rfl
  · exact hB.ne (h.blk g hm) (by decide) rfl

theorem Only.below' {w wr w' : World} {S : List Nat} (hb : Below w.heap.size w wr) (h : Only wr w' S) (hS : ∀ k ∈ S, w.heap.size ≤ k) : Below w.heap.size w w' := h.below hb hS

/-- The least recently pushed node stands ahead of the sentinel. -/
theorem linked_prev {w : World} {A D : List Nat} {u v : Nat} (h : Linked w (A ++ u :: v :: D)) : w.cell? ⟨v, 0, none⟩ = some (.pointer (some ⟨u, 0, none⟩)) := (linked_append.1 h).2.2.1

theorem LSt.back {w : World} {L b : Nat} {X : List Nat} (h : LSt w L (X ++ [b])) : w.cell? ⟨L, 0, none⟩ = some (.pointer (some ⟨b, 0, none⟩)) := by
  have := h.linked
  have e : L :: ((X ++ [b]) ++ [L]) = (L :: X) ++ b :: L :: [] := by simp
  rw [e] at this
  exact linked_prev this

theorem LSt.front {w : World} {L b : Nat} {Y : List Nat} (h : LSt w L (b :: Y)) : w.cell? ⟨b, 0, none⟩ = some (.pointer (some ⟨L, 0, none⟩)) := h.linked.2.1

theorem LSt.prev {w : World} {L a b : Nat} {X Y : List Nat} (h : LSt w L (X ++ a :: b :: Y)) : w.cell? ⟨b, 0, none⟩ = some (.pointer (some ⟨a, 0, none⟩)) := by
  have := h.linked
  have e : L :: ((X ++ a :: b :: Y) ++ [L]) = (L :: X) ++ a :: b :: (Y ++ [L]) := by simp
  rw [e] at this
  exact linked_prev this

theorem below_alloc (w : World) (o : Obj) : Below w.heap.size w (w.alloc o) := (Below.refl _ _).alloc (Nat.le_refl _) _
theorem MRow.below {w w' : World} {v : Value} {bs : List Nat} (h : MRow w v bs) (hb : Below w.heap.size w w') : MRow w' v bs := h.later (fun g _ hg => hb.block g (lt_of_block hg))
theorem LSt.below {w w' : World} {L : Nat} {bs : List Nat} (h : LSt w L bs) (hb : Below w.heap.size w w') : LSt w' L bs := h.later (fun b hm => hb.block b (h.lt b hm))
theorem Blk.below {w w' : World} {b : Nat} {t : TypeId} {n : Nat} (h : Blk w b t n) (hb : Below w.heap.size w w') : Blk w' b t n := Blk.later h (hb.block b h.lt)

/-- The new node's block. -/
def newNode (c : Int) : Obj := .cells #[.pointer none, .pointer none, .int .u64 0, .int .u64 c] 41
theorem new_blk (w : World) (c : Int) : Blk (w.alloc (newNode c)) w.heap.size 41 4 := ⟨_, (MapKept.heap_alloc w _).1, rfl⟩
theorem new_cost (w : World) (c : Int) : (w.alloc (newNode c)).cell? ⟨w.heap.size, 3, none⟩ = some (.int .u64 c) := by
  rw [cell_of_row _ _ _ _ _ _ (MapKept.heap_alloc w (newNode c)).1]
  rfl
theorem BB.fresh {w wr : World} {mv : Value} {bs : List Nat} {i : Nat} (h : BB w wr mv bs i) : wr.heap.size ∉ w.heap.size :: bs := fun hm => Nat.lt_irrefl _ (h.l.lt _ hm)

theorem BB.rowPush {w wr w1 : World} {mv : Value} {bs : List Nat} {i : Nat} {c : Int} (h : BB w wr mv bs i) (ho : Only (wr.alloc (newNode c)) w1 (w.heap.size :: wr.heap.size :: bs)) : MRow w1 mv bs := by
  refine (h.row.below (below_alloc _ (newNode c))).later (fun g cur hg => ho.block g ?_)
  intro hm
  have hn := (h.l.below (below_alloc _ (newNode c))).not39 hg
  simp only [List.mem_cons, not_or] at hm hn
  rcases hm with e | e | e
  · exact hn.1 e
  · subst e
    have := (new_blk wr c).ne (t' := 39) (n' := cur.size) ⟨cur, hg, rfl⟩ (by decide)
    exact this rfl
  · exact hn.2 e

theorem BB.push {w wr w1 w2 : World} {mv v' : Value} {bs : List Nat} {i : Nat} {c : Int} (h : BB w wr mv bs i) (hl : LSt w1 w.heap.size (wr.heap.size :: bs)) (ho : Only (wr.alloc (newNode c)) w1 (w.heap.size :: wr.heap.size :: bs))
    (hb : Below w1.heap.size w1 w2) (hr : MRow w2 v' (wr.heap.size :: bs)) : BB w w2 v' (wr.heap.size :: bs) (i + 1) := by
  have hge : ∀ k ∈ w.heap.size :: wr.heap.size :: bs, w.heap.size ≤ k := by
    intro k hk
    have hs := h.bel.size
    rcases List.mem_cons.1 hk with rfl | hk
    · exact Nat.le_refl _
    · rcases List.mem_cons.1 hk with rfl | hk
      · exact hs
      · exact h.ge k hk
  have hb1 : Below w.heap.size w w1 := ho.below (h.bel.alloc h.bel.size _) hge
  refine ⟨hb1.trans (hb.mono hb1.size), hl.below hb, fun b hb => hge b (List.mem_cons_of_mem _ hb), hr, ?_⟩
  have := h.len
  simp only [List.length_cons]
  omega

theorem BB.pull {w wr w1 w2 : World} {mv v' : Value} {X Y : List Nat} {n i : Nat} (h : BB w wr mv (X ++ n :: Y) i) (hl : LSt w1 w.heap.size (X ++ Y)) (ho : Only wr w1 (w.heap.size :: (X ++ n :: Y)))
    (hb : Below w1.heap.size w1 w2) (hr : MRow w2 v' (X ++ Y)) : BB w w2 v' (X ++ Y) (i + 1) := by
  have hge : ∀ k ∈ w.heap.size :: (X ++ n :: Y), w.heap.size ≤ k := by
    intro k hk
    rcases List.mem_cons.1 hk with rfl | hk
    · exact Nat.le_refl _
    · exact h.ge k hk
  have hb1 : Below w.heap.size w w1 := ho.below h.bel hge
  refine ⟨hb1.trans (hb.mono hb1.size), hl.below hb, fun b hb => hge b ?_, hr, ?_⟩
  · simp only [List.mem_append, List.mem_cons] at hb ⊢
    rcases hb with h | h <;> simp [h]
  · have := h.len
    simp only [List.length_append, List.length_cons] at this ⊢
    omega

theorem BB.rowPull {w wr w1 : World} {mv : Value} {bs : List Nat} {i : Nat} (h : BB w wr mv bs i) (ho : Only wr w1 (w.heap.size :: bs)) : MRow w1 mv bs :=
  h.row.later (fun g _ hg => ho.block g (h.l.not39 hg))

/-- model[:k:k]: its first k pointers. -/
theorem row_take {w : World} {g : Nat} {cur : Array Value} {X Y : List Nat} (hg : w.heap[g]? = some (.cells cur 39 (0, 0))) (ht : cur.toList.take (X ++ Y).length = ptrs (X ++ Y)) (hm : X.length ≤ maxLen) : MRow w (.slice (some ⟨g, 0, none⟩) X.length X.length) X := by
  refine .inr ⟨g, X.length, cur, rfl, hg, Nat.le_refl _, hm, ?_⟩
  have : (cur.toList.take (X ++ Y).length).take X.length = (ptrs (X ++ Y)).take X.length := by rw [ht]
  rw [List.take_take, Nat.min_eq_left (by simp)] at this
  rw [this]
  simp [ptrs]

/-- model[k+1:]: where it begins, and what lies there. -/
theorem rest_cells {w : World} {g mc kk : Nat} {cur : Array Value} {bs X Y : List Nat} {n : Nat} (hg : w.heap[g]? = some (.cells cur 39 (0, 0))) (ht : cur.toList.take bs.length = ptrs bs) (hX : bs = X ++ n :: Y) (hk : X.length = kk) (hl : bs.length ≤ mc) :
    ∃ A : Addr, (if mc = kk + 1 then some (⟨g, 0, none⟩ : Addr) else some ⟨g, kk + 1, none⟩) = some A ∧ Hid (∀ j u, (ptrs Y)[j]? = some u → w.drew.cell? (A.add j) = some u) := by
  have hlen : bs.length = kk + (Y.length + 1) := by rw [hX]; simp [hk]
  by_cases h : mc = kk + 1
  · refine ⟨⟨g, 0, none⟩, by simp [h], fun j u hu => ?_⟩
    have h0 : Y = [] := List.length_eq_zero_iff.1 (by omega)
    rw [h0] at hu
    simp [ptrs] at hu
  · refine ⟨⟨g, kk + 1, none⟩, by simp [h], fun j u hu => ?_⟩
    have hj : j < Y.length := by
      have := (List.getElem?_eq_some_iff.1 hu).1
      simpa [ptrs] using this
    rw [Addr.add_lit, World.cell?_drew, row_cell hg ht (by omega : kk + 1 + j < bs.length), ← hu, ptrs_get hj]
    have : bs[kk + 1 + j]? = Y[j]? := by
      rw [hX, List.getElem?_append_right (by omega), show kk + 1 + j - X.length = j + 1 by omega, List.getElem?_cons_succ]
    rw [List.getElem?_eq_getElem (by omega), List.getElem?_eq_getElem hj, Option.some.injEq] at this
    rw [this]

/-- The state behind init. -/
theorem BB.start {w w1 : World} (ho : Only (w.alloc (.cells #[.pointer none, .pointer none, .int .u64 0, .int .u64 0, .int .i64 0, .int .u64 0] 61)) w1 [w.heap.size]) (hB : Blk w1 w.heap.size 61 6)
    (h0 : w1.cell? ⟨w.heap.size, 0, none⟩ = some (.pointer (some ⟨w.heap.size, 0, none⟩))) (h1 : w1.cell? ⟨w.heap.size, 1, none⟩ = some (.pointer (some ⟨w.heap.size, 0, none⟩)))
    (h4 : w1.cell? ⟨w.heap.size, 4, none⟩ = some (.int .i64 0)) (h5 : w1.cell? ⟨w.heap.size, 5, none⟩ = some (.int .u64 0)) : BB w w1 (.slice none 0 0) [] 0 :=
  ⟨ho.below (below_alloc _ _) (by simp), ⟨hB, by simp, ⟨h1, h0, trivial⟩, by simp, by simp, h4, _, h5⟩, by simp, .inl ⟨rfl, rfl⟩, Nat.le_refl _⟩

/-- The last node of X, as a pointer; nil where there is none. -/
def curP (X : List Nat) : Option Addr := X.getLast?.map fun b => ⟨b, 0, none⟩
theorem curP_nil : curP [] = none := rfl
theorem curP_snoc (X : List Nat) (b : Nat) : curP (X ++ [b]) = some ⟨b, 0, none⟩ := by simp [curP]
theorem snoc_cases (X : List Nat) : X = [] ∨ ∃ X' b, X = X' ++ [b] := by
  by_cases h : X = []
  · exact .inl h
  · exact .inr ⟨X.dropLast, X.getLast h, (List.dropLast_concat_getLast h).symm⟩

theorem back_list {w : World} {L : Nat} {bs : List Nat} (h : LSt w L bs) : Calls Yba.prog 17 #[.pointer (some ⟨L, 0, none⟩)] w fun e w' => e = .returned (.pointer (curP bs)) ∧ w' = w := by
  rcases snoc_cases bs with rfl | ⟨X, b, rfl⟩
  · exact is_back_nil _ _ h.len
  · rw [curP_snoc]
    exact is_back_some _ _ _ _ h.len (by simp) h.back

theorem ahead_list {w : World} {L b : Nat} {X Y : List Nat} (h : LSt w L (X ++ b :: Y)) : Calls Yba.prog 20 #[.pointer (some ⟨L, 0, none⟩), .pointer (some ⟨b, 0, none⟩)] w fun e w' => e = .returned (.pointer (curP X)) ∧ w' = w.drew := by
  rcases snoc_cases X with rfl | ⟨X', a, rfl⟩
  · exact is_ahead_nil _ _ _ (LSt.front (Y := Y) h)
  · rw [curP_snoc]
    have e : X' ++ [a] ++ b :: Y = X' ++ a :: b :: Y := by simp
    rw [e] at h
    have ha : a ∈ X' ++ a :: b :: Y := by simp
    exact is_ahead_some _ _ _ _ h.prev (fun hL => (List.nodup_cons.1 h.nodup).1 (hL ▸ ha)) h.blkL (h.blk a ha)

theorem BB.drew {w wr : World} {mv : Value} {bs : List Nat} {i : Nat} (h : BB w wr mv bs i) : BB w wr.drew mv bs i :=
  ⟨h.bel.drew, h.l.later (fun _ _ => rfl), h.ge, h.row.later (fun _ _ _ => rfl), h.len⟩
end Go.Proofs.Ybulkcyyc
