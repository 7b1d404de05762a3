import Derived.Test.YbulkcyssDoorIs
namespace Go.Proofs.YbulkcyssDoor
open Go.RowKit Go.Extern.Stop Go.Stop Go.Extern

/-- What the listed sentinels give a walk. -/
structure Sent (w : World) (a : Nat → Addr) : Prop where
  cell : ∀ i, i < 7 → w.cell? ⟨i, 0, none⟩ = some (.iface 39 (.pointer (some (a i))))
  heap : ∀ i, i < 7 → ∃ c t, w.heap[(a i).block]? = some (.cells c t (0, 0))
  ne : ∀ i, i < 7 → i ≠ 5 → a i ≠ a 5

theorem lt_of_heap {w : World} {k : Nat} {o : Obj} (h : w.heap[k]? = some o) : k < w.heap.size := by
  rcases Nat.lt_or_ge k w.heap.size with h' | h'
  · exact h'
  · simp [Array.getElem?_eq_none h'] at h

theorem lt_of_cell {w : World} {p : Addr} {v : Value} (h : w.cell? p = some v) : p.block < w.heap.size := by
  rcases Nat.lt_or_ge p.block w.heap.size with h' | h'
  · exact h'
  · simp [World.cell?, Array.getElem?_eq_none h'] at h

theorem chain_later {w w' : World} {b : Addr} (hb : Below w.heap.size w w') : ∀ {n : Nat} {v : Value} {r : Bool}, Chain w b n v r → Chain w' b n v r
  | 0, _, _, h => by
    rcases h with h | h | ⟨h1, a, c, t, h2, h3, h4⟩
    · exact Or.inl h
    · exact Or.inr (Or.inl h)
    · exact Or.inr (Or.inr ⟨h1, a, c, t, h2, by rw [hb.block _ (lt_of_heap h3)]; exact h3, h4⟩)
  | _ + 1, _, _, h => by
    obtain ⟨pb, po, v', h1, h2, h3⟩ := h
    exact ⟨pb, po, v', h1, by rw [hb.cell (lt_of_cell h2)]; exact h2, chain_later hb h3⟩

theorem Sent.later {w w' : World} {a : Nat → Addr} (h : Sent w a) (hb : Below w.heap.size w w') : Sent w' a :=
  ⟨fun i hi => by rw [hb.cell (lt_of_cell (h.cell i hi))]; exact h.cell i hi,
   fun i hi => by obtain ⟨c, t, e⟩ := h.heap i hi; exact ⟨c, t, by rw [hb.block _ (lt_of_heap e)]; exact e⟩, h.ne⟩

/-- The new error's address is not the sentinel's. -/
theorem chain_new {w : World} {b : Addr} {cb : Array Value} {tb : TypeId} (hb : w.heap[b.block]? = some (.cells cb tb (0, 0))) (s : ByteArray) :
    Chain (w.alloc (.cells #[.string s] 41)) b 0 (.iface 39 (.pointer (some ⟨w.heap.size, 0, none⟩))) false := by
  refine Or.inr (Or.inr ⟨rfl, ⟨w.heap.size, 0, none⟩, #[.string s], 41, ?_, (MapKept.heap_alloc w _).1, rfl⟩)
  rintro rfl
  exact absurd (lt_of_heap hb) (by simp)

theorem chain_sent {w : World} {a : Nat → Addr} (h : Sent w a) (i : Nat) (hi : i < 7) (h5 : i ≠ 5) : Chain w (a 5) 0 (.iface 39 (.pointer (some (a i)))) false := by
  obtain ⟨c, t, e⟩ := h.heap i hi
  exact Or.inr (Or.inr ⟨rfl, a i, c, t, h.ne i hi h5, e, rfl⟩)

set_option maxHeartbeats 800000 in
theorem pick_any (k : Int) (s : ByteArray) (a : Nat → Addr) (w : World) (h0 : 0 ≤ k) (h8 : k ≤ 8) (hS : Sent w a) :
    Calls Ybad.prog 5 #[.int .i64 k, .string s] w fun e w' => ∃ v, e = .returned v ∧ Below w.heap.size w w' ∧ Chain w' (a 5) 0 v (decide (k = 6)) := by
  have g0 := hS.cell 0 (by omega)
  have g1 := hS.cell 1 (by omega)
  have g2 := hS.cell 2 (by omega)
  have g3 := hS.cell 3 (by omega)
  have g4 := hS.cell 4 (by omega)
  have g5 := hS.cell 5 (by omega)
  have g6 := hS.cell 6 (by omega)
  obtain ⟨cb, tb, hb⟩ := hS.heap 5 (by omega)
  have cases9 : k = 0 ∨ k = 1 ∨ k = 2 ∨ k = 3 ∨ k = 4 ∨ k = 5 ∨ k = 6 ∨ k = 7 ∨ k = 8 := by omega
  rcases cases9 with rfl | rfl | rfl | rfl | rfl | rfl | rfl | rfl | rfl
  · go_enter Ybad.func5, Ybad.ntmps5
    go_wp2
    go_ret
    exact ⟨_, rfl, Below.refl _ _, Or.inl ⟨rfl, rfl⟩⟩
  · go_enter Ybad.func5, Ybad.ntmps5
    go_wp2
    go_ret
    exact ⟨_, rfl, Below.refl _ _, chain_sent hS 0 (by omega) (by omega)⟩
  · go_enter Ybad.func5, Ybad.ntmps5
    go_wp2
    go_ret
    exact ⟨_, rfl, Below.refl _ _, chain_sent hS 1 (by omega) (by omega)⟩
  · go_enter Ybad.func5, Ybad.ntmps5
    go_wp2
    go_ret
    exact ⟨_, rfl, Below.refl _ _, chain_sent hS 2 (by omega) (by omega)⟩
  · go_enter Ybad.func5, Ybad.ntmps5
    go_wp2
    go_ret
    exact ⟨_, rfl, Below.refl _ _, chain_sent hS 3 (by omega) (by omega)⟩
  · go_enter Ybad.func5, Ybad.ntmps5
    go_wp2
    go_ret
    exact ⟨_, rfl, Below.refl _ _, chain_sent hS 4 (by omega) (by omega)⟩
  · go_enter Ybad.func5, Ybad.ntmps5
    go_wp2
    go_ret
    exact ⟨_, rfl, Below.refl _ _, Or.inr (Or.inl ⟨rfl, rfl⟩)⟩
  · go_enter Ybad.func5, Ybad.ntmps5
    go_wp2
    go_ret
    exact ⟨_, rfl, Below.refl _ _, chain_sent hS 6 (by omega) (by omega)⟩
  · go_enter Ybad.func5, Ybad.ntmps5
    go_wp2
    go_ret
    exact ⟨_, rfl, (Below.refl _ _).alloc (Nat.le_refl _) _, chain_new hb s⟩
end Go.Proofs.YbulkcyssDoor
