import Derived.Test.YbulkcyycStripe
namespace Go.Proofs.Ybulkcyyc
open Go.RowKit

theorem Fr.setNew {w w' : World} {ad : List (Nat × Nat)} (h : Fr w w' ad) {b o : Nat} (hb : w.heap.size ≤ b) (v : Value) : Fr w (w'.setCell ⟨b, o, none⟩ v) ad where
  os := h.os
  tape := h.tape
  output := h.output
  size := by rw [World.size_setCell]; exact h.size
  cell b' o' hl hk := by
    rw [World.cell?_setCell_other]
    · exact h.cell b' o' hl hk
    · intro e
      simp only [Addr.mk.injEq] at e
      omega
  blk b' t n hb := (h.blk b' t n hb).setCell _ _
  block k hl hk := by
    rw [Below.heap_setCell _ _ _ _ (by show k ≠ b; omega)]
    exact h.block k hl hk

theorem made_at (z : Array Value) (m j : Nat) (hj : j < m) : (madeCells z m).toList[j]? = some (z[j % z.size]!) := by simp [madeCells, hj]

def z84 : Array Value := #[.int .u64 0, .pointer none, .int .u64 0, .int .u64 0, .bool false]
theorem made_slot {j r : Nat} (hj : j < 1024) (hr : r < 5) : (madeCells z84 (1024 * 5)).toList[5 * j + r]? = some (z84[r]!) := by
  rw [made_at _ _ _ (by omega), show (5 * j + r) % z84.size = r by show (5 * j + r) % 5 = r; omega]

/-- The slots while init fills them: k of them have their number. -/
structure ISt (w wr : World) (S k : Nat) : Prop where
  fr : Fr w wr [(S, 1)]
  slots : wr.cell? ⟨S, 1, none⟩ = some (.slice (some ⟨w.heap.size, 0, none⟩) 1024 1024)
  bG : Blk wr w.heap.size 84 5120
  done : ∀ j, j < k → wr.cell? ⟨w.heap.size, 5 * j, none⟩ = some (.int .u64 j)
  v0 : ∀ j, j < 1024 → wr.cell? ⟨w.heap.size, 5 * j + 1, none⟩ = some (.pointer none)
  v1 : ∀ j, j < 1024 → wr.cell? ⟨w.heap.size, 5 * j + 2, none⟩ = some (.int .u64 0)
  v2 : ∀ j, j < 1024 → wr.cell? ⟨w.heap.size, 5 * j + 3, none⟩ = some (.int .u64 0)
  v3 : ∀ j, j < 1024 → wr.cell? ⟨w.heap.size, 5 * j + 4, none⟩ = some (.bool false)

theorem ISt.step {w wr : World} {S k : Nat} (h : ISt w wr S k) (hS : S < w.heap.size) (hk : k < 1024) : ISt w (wr.setCell ⟨w.heap.size, 5 * k, none⟩ (.int .u64 k)) S (k + 1) := by
  have hne : w.heap.size ≠ S := by omega
  have ho : ∀ o, o ≠ 5 * k → (wr.setCell ⟨w.heap.size, 5 * k, none⟩ (.int .u64 k)).cell? ⟨w.heap.size, o, none⟩ = wr.cell? ⟨w.heap.size, o, none⟩ := fun o ho => by
    rw [World.cell?_setCell_other]
    intro e
    simp only [Addr.mk.injEq] at e
    omega
  refine ⟨h.fr.setNew (Nat.le_refl _) _, ?_, h.bG.setCell _ _, ?_, fun j hj => (ho _ (by omega)).trans (h.v0 j hj), fun j hj => (ho _ (by omega)).trans (h.v1 j hj), fun j hj => (ho _ (by omega)).trans (h.v2 j hj), fun j hj => (ho _ (by omega)).trans (h.v3 j hj)⟩
  · rw [World.cell?_setCell_other]
    · exact h.slots
    · intro e
      simp only [Addr.mk.injEq] at e
      omega
  · intro j hj
    by_cases e : j = k
    · subst e
      obtain ⟨v, hv⟩ : ∃ v, wr.cell? ⟨w.heap.size, 5 * j, none⟩ = some v := by
        obtain ⟨cs, hc, hn⟩ := h.bG
        rw [cell_of_row wr _ _ cs _ _ hc]
        exact ⟨cs[5 * j], by simp⟩
      exact World.cell?_setCell_same _ _ _ hv
    · exact (ho _ (by omega)).trans (h.done j (by omega))

theorem Blk.cellAny {w : World} {b : Nat} {t : TypeId} {n : Nat} (h : Blk w b t n) {o : Nat} (ho : o < n) : ∃ v, w.cell? ⟨b, o, none⟩ = some v := by
  obtain ⟨cs, h, hn⟩ := h
  rw [cell_of_row w b o cs t _ h]
  exact ⟨cs[o], by simp [hn, ho]⟩

theorem Fr.ofBelow {w w' : World} (h : Below w.heap.size w w') (ad : List (Nat × Nat)) : Fr w w' ad where
  os := h.os
  tape := h.tape
  output := h.output
  size := h.size
  cell b o hb _ := by unfold World.cell?; simp only [h.block b hb]
  blk b t n hb := hb.later (h.block b hb.lt)
  block k hl _ := h.block k hl

theorem ISt.start {w w0 : World} {S : Nat} (hS : S < w.heap.size) (hbel : Below w.heap.size w w0) (hc : ∃ v, w0.cell? ⟨S, 1, none⟩ = some v)
    (hown : w0.ownsRow w.heap.size 84 5 (.slice (some ⟨w.heap.size, 0, none⟩) 1024 1024) 1024 (madeCells z84 (1024 * 5)).toList) : ISt w (w0.setCell ⟨S, 1, none⟩ (.slice (some ⟨w.heap.size, 0, none⟩) 1024 1024)) S 0 := by
  obtain ⟨v, hv⟩ := hc
  have hbG : Blk w0 w.heap.size 84 5120 := by
    rcases hown.2 with ⟨_, h0⟩ | ⟨g, cap, cur, e, _, hg, _, _, hsz, _⟩
    · exact absurd h0 (by decide)
    · simp only [Value.slice.injEq, Option.some.injEq, Addr.mk.injEq, and_true, true_and] at e
      obtain ⟨rfl, rfl⟩ := e
      exact ⟨cur, hg, hsz⟩
  have hcl : ∀ o, (w0.setCell ⟨S, 1, none⟩ (.slice (some ⟨w.heap.size, 0, none⟩) 1024 1024)).cell? ⟨w.heap.size, o, none⟩ = w0.cell? ⟨w.heap.size, o, none⟩ := fun o => by
    rw [World.cell?_setCell_other]
    intro e
    simp only [Addr.mk.injEq] at e
    omega
  have hat : ∀ j r, j < 1024 → r < 5 → w0.cell? ⟨w.heap.size, 5 * j + r, none⟩ = some (z84[r]!) := fun j r hj hr => by
    rw [hown.cellAt _ (by omega), made_slot hj hr]
  refine ⟨(Fr.ofBelow hbel _).setCell (by simp) _, World.cell?_setCell_same _ _ _ hv, hbG.setCell _ _, fun j hj => absurd hj (by omega), fun j hj => ?_, fun j hj => ?_, fun j hj => ?_, fun j hj => ?_⟩
  · exact (hcl _).trans (hat j 1 hj (by omega))
  · exact (hcl _).trans (hat j 2 hj (by omega))
  · exact (hcl _).trans (hat j 3 hj (by omega))
  · exact (hcl _).trans (hat j 4 hj (by omega))

set_option maxRecDepth 100000 in
set_option maxHeartbeats 1600000 in
theorem init_any (S : Nat) (w : World) (hB : Blk w S 79 42) :
    Calls Yba.prog 31 #[.pointer (some ⟨S, 0, none⟩), .int .i64 1024] w fun e w' => e = .returned (.tuple #[]) ∧ ISt w w' S 1024 := by
  obtain ⟨i84, hi84, z840, z841, z842⟩ := info_parts info84
  have hlt := hB.lt
  go_enter Yba.func31, Yba.ntmps31
  go_wp2_with (at_make; refine wpList_make_full _ rfl _ _ 74 rfl w.heap.size 84 i84 (.agg z84) 5 Yba.underlying74 hi84 z840 z841 _ _ _ _ 1024 rfl rfl rfl rfl ?b2 ?b3 ?b4 ?_)
  case b2 => rw [z842]; omega
  case b3 => unfold maxLen; omega
  case b4 => omega
  intro w0 hown hgr
  have hbel : Below w.heap.size w w0 := (Below.refl w.heap.size w).grown hgr (Nat.le_refl _) (fun j hj => by cases hj)
  have hB0 : Blk w0 S 79 42 := hB.later (hbel.block S hlt)
  obtain ⟨v, hv⟩ := hB0.cellAny (o := 1) (by omega)
  have hz := hB0.frozen 1
  have hst := ISt.start hlt hbel ⟨v, hv⟩ hown
  clear hown hgr
  go_wp2
  go_loopg [15] 1024 (fun g i wr => ∃ k : Nat, k ≤ 1024 ∧ g = 1024 - k ∧ i = .int .i64 k ∧ ISt w wr S k)
  case atStart => exact ⟨0, by omega, rfl, rfl, hst⟩
  case round =>
    obtain ⟨k, hk, hgk, rfl, hI⟩ := hrel
    have HG : Hid (gk = 1024 - k) := hgk
    clear hgk hst hv hz hB0 hbel
    have hs := hI.slots
    by_cases hlt2 : k < 1024
    · obtain ⟨u, hu⟩ := hI.bG.cellAny (o := 5 * k) (by omega)
      have hfz := hI.bG.frozen (5 * k)
      have hcm : k * 5 = 5 * k := Nat.mul_comm _ _
      go_wp2_with fail
      refine (store_any w.heap.size (5 * k) k u _ hu hfz).mono ?_
      rintro e W1 ⟨rfl, hW1⟩
      have hI1 : ISt w W1 S (k + 1) := by rw [hW1]; exact hI.step hlt hlt2
      clear hW1
      go_wp2
      go_roundg (1024 - (k + 1))
      case measure => rw [HG.out]; omega
      case rel => exact ⟨k + 1, by omega, rfl, by go_num, hI1⟩
    · obtain rfl : k = 1024 := by omega
      go_wp2
      go_end0
      exact ⟨rfl, hI⟩
end Go.Proofs.Ybulkcyyc
