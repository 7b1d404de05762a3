import Derived.Test.YbulkcyycList
namespace Go.Proofs.Ybulkcyyc
open Go.RowKit

theorem Blk.cell {w : World} {b : Nat} {t : TypeId} {n : Nat} (h : Blk w b t n) {o : Nat} (ho : o < n) : ∃ v, w.cell? ⟨b, o, none⟩ = some v := by
  obtain ⟨cs, h, hn⟩ := h
  rw [cell_of_row w b o cs t _ h]
  exact ⟨cs[o], by simp [hn, ho]⟩

theorem LSt.any {w : World} {L : Nat} {bs : List Nat} (h : LSt w L bs) {b : Nat} (hb : b ∈ L :: bs) {o : Nat} (ho : o < 4) : (∃ v, w.cell? ⟨b, o, none⟩ = some v) ∧ w.frozen? ⟨b, o, none⟩ = false := by
  rcases List.mem_cons.1 hb with rfl | hb
  · exact ⟨h.blkL.cell (by omega), h.blkL.frozen _⟩
  · exact ⟨(h.blk b hb).cell ho, (h.blk b hb).frozen _⟩

theorem Same.only {w w' : World} {ad : List (Nat × Nat)} {S : List Nat} (h : Same w w' ad) (hs : ∀ p ∈ ad, p.1 ∈ S) : Only w w' S :=
  ⟨h.os, h.tape, h.output, h.size, fun k hk => h.block k (fun _ hm => hk (hs _ hm))⟩

theorem push_list {w : World} {L n : Nat} {bs : List Nat} (h : LSt w L bs) (hb : Blk w n 41 4) (hn : n ∉ L :: bs) (c : Int) (hc : w.cell? ⟨n, 3, none⟩ = some (.int .u64 c)) (hlen : bs.length ≤ 2000) :
    Calls Yba.prog 18 #[.pointer (some ⟨L, 0, none⟩), .pointer (some ⟨n, 0, none⟩)] w fun e w' => e = .returned (.tuple #[]) ∧ LSt w' L (n :: bs) ∧ Only w w' (L :: n :: bs) := by
  obtain ⟨f, r, hfr⟩ : ∃ f r, bs ++ [L] = f :: r := by cases bs <;> simp
  have hfm : f ∈ L :: bs := by
    have : f ∈ bs ++ [L] := by rw [hfr]; simp
    simp only [List.mem_append, List.mem_singleton] at this
    rcases this with h | h <;> simp [h]
  obtain ⟨v0, h0⟩ := hb.cell (o := 0) (by omega)
  obtain ⟨v1, h1⟩ := hb.cell (o := 1) (by omega)
  obtain ⟨⟨v2, h2⟩, ff⟩ := h.any hfm (o := 0) (by omega)
  have hln := h.linked
  rw [hfr] at hln
  obtain ⟨cc, hcc⟩ := h.cost
  have hnL : n ≠ L := fun e => hn (by simp [e])
  have hnf : n ≠ f := fun e => hn (by rw [e]; exact hfm)
  refine (is_push L n f cc c (bs.length : Nat) w h.len (by omega) (by omega) hcc hc hln.1 v0 v1 v2 h0 h1 h2 (h.blkL.frozen _) (h.blkL.frozen _) (h.blkL.frozen _) (hb.frozen _) (hb.frozen _) ff hnL hnf).mono ?_
  rintro e w' ⟨rfl, hs, g0, g1, g2, g3, g4, g5⟩
  have hfo : f = L ∨ f ∈ bs := by simpa using hfm
  refine ⟨rfl, ⟨hs.blk _ _ _ h.blkL, ?_, ?_, ?_, ?_, ?_, g5⟩, hs.only ?_⟩
  · intro b hb'
    rcases List.mem_cons.1 hb' with rfl | hb'
    · exact hs.blk _ _ _ hb
    · exact hs.blk _ _ _ (h.blk b hb')
  · refine linked_push h.linked hfr h.nodup hn g3 g0 g1 g2 (fun u hL hn' => hs.cell u 1 ?_) (fun u hf' hn' => hs.cell u 0 ?_)
    · simp [hL, hn']
    · simp [hf', hn']
  · have := List.nodup_cons.1 h.nodup
    simp only [List.mem_cons, not_or] at hn
    simp only [List.nodup_cons, List.mem_cons, not_or]
    exact ⟨⟨fun e => hnL e.symm, this.1⟩, hn.2, this.2⟩
  · intro b hb'
    rcases List.mem_cons.1 hb' with rfl | hb'
    · exact ⟨c, (hs.cell b 3 (by simp)).trans hc⟩
    · obtain ⟨c', hc'⟩ := h.costs b hb'
      exact ⟨c', (hs.cell b 3 (by simp)).trans hc'⟩
  · rw [g4]
    simp
  · intro p hp
    simp only [List.mem_cons, List.not_mem_nil, or_false] at hp
    rcases hp with rfl | rfl | rfl | rfl | rfl | rfl <;> simp
    exact hfo.imp id .inr

theorem remove_list {w : World} {L : Nat} {X Y : List Nat} {n : Nat} (h : LSt w L (X ++ n :: Y)) (hlen : (X ++ n :: Y).length ≤ 2000) :
    Calls Yba.prog 19 #[.pointer (some ⟨L, 0, none⟩), .pointer (some ⟨n, 0, none⟩)] w fun e w' => e = .returned (.tuple #[]) ∧ LSt w' L (X ++ Y) ∧ Only w w' (L :: (X ++ n :: Y)) := by
  obtain ⟨A, p, hA⟩ : ∃ A p, L :: X = A ++ [p] := ⟨(L :: X).dropLast, (L :: X).getLast (by simp), (List.dropLast_concat_getLast (by simp)).symm⟩
  obtain ⟨q, D, hD⟩ : ∃ q D, Y ++ [L] = q :: D := by cases Y <;> simp
  have hpm : p ∈ L :: X := by rw [hA]; simp
  have hqm : q ∈ Y ++ [L] := by rw [hD]; simp
  have hpm' : p ∈ L :: (X ++ n :: Y) := by
    rcases List.mem_cons.1 hpm with h | h <;> simp [h]
  have hqm' : q ∈ L :: (X ++ n :: Y) := by
    simp only [List.mem_append, List.mem_singleton] at hqm
    rcases hqm with h | h <;> simp [h]
  have hnm : n ∈ X ++ n :: Y := by simp
  have hnd := h.nodup
  obtain ⟨hLn, hnd2⟩ := List.nodup_cons.1 hnd
  obtain ⟨hndX, hndnY, hXY⟩ := List.nodup_append.1 hnd2
  obtain ⟨hnY, hndY⟩ := List.nodup_cons.1 hndnY
  have hLX : L ∉ X := fun h => hLn (by simp [h])
  have hLY : L ∉ Y := fun h => hLn (by simp [h])
  have hLnn : n ≠ L := fun h => hLn (by simp [h])
  have hnX : n ∉ X := fun h => hXY n h n (by simp) rfl
  have hXYd : ∀ a ∈ X, a ∉ Y := fun a ha hb => hXY a ha a (by simp [hb]) rfl
  have hnp : n ≠ p := by
    rintro rfl
    rcases List.mem_cons.1 hpm with h | h
    · exact hLnn h
    · exact hnX h
  have hnq : n ≠ q := by
    rintro rfl
    simp only [List.mem_append, List.mem_singleton] at hqm
    rcases hqm with h | h
    · exact hnY h
    · exact hLnn h
  have hsplit : L :: ((X ++ n :: Y) ++ [L]) = A ++ p :: n :: q :: D := by
    have : L :: ((X ++ n :: Y) ++ [L]) = (L :: X) ++ n :: (Y ++ [L]) := by simp
    rw [this, hA, hD]
    simp
  have hln := h.linked
  rw [hsplit] at hln
  obtain ⟨_, hl2⟩ := linked_append.1 hln
  obtain ⟨l1, l2, l3, l4, _⟩ := hl2
  obtain ⟨c', hc'⟩ := h.costs n hnm
  obtain ⟨cc, hcc⟩ := h.cost
  refine (is_remove L n p q cc c' ((X ++ n :: Y).length : Nat) w h.len (by omega) (by omega) hcc hc' l2 l3 _ _ l1 l4 (h.blkL.frozen _) (h.blkL.frozen _) ((h.blk n hnm).frozen _) ((h.blk n hnm).frozen _) (h.any hpm' (by omega)).2 (h.any hqm' (by omega)).2 hnp hnq).mono ?_
  rintro e w' ⟨rfl, hs, g0, g1, g4, g5⟩
  have hin : ∀ b ∈ X ++ Y, b ∈ X ++ n :: Y := fun b hb => by
    simp only [List.mem_append, List.mem_cons] at hb ⊢
    rcases hb with h | h <;> simp [h]
  refine ⟨rfl, ⟨hs.blk _ _ _ h.blkL, fun b hb => hs.blk _ _ _ (h.blk b (hin b hb)), ?_, ?_, ?_, ?_, g5⟩, hs.only ?_⟩
  · have e : L :: ((X ++ Y) ++ [L]) = A ++ p :: q :: D := by
      have : L :: ((X ++ Y) ++ [L]) = (L :: X) ++ (Y ++ [L]) := by simp
      rw [this, hA, hD]
      simp
    rw [e]
    have hA1 : (A ++ [p]).tail = X := by rw [← hA]; rfl
    have hD1 : (q :: D).dropLast = Y := by rw [← hD]; simp
    have hndA : (A ++ [p]).Nodup := by rw [← hA]; exact List.nodup_cons.2 ⟨hLX, hndX⟩
    have hndD : (q :: D).Nodup := by
      rw [← hD]
      exact List.nodup_append.2 ⟨hndY, by simp, fun a ha b hb => by
        rw [List.mem_singleton.1 hb]
        rintro rfl
        exact hLY ha⟩
    have hqX : q ∉ X := fun hx => by
      simp only [List.mem_append, List.mem_singleton] at hqm
      rcases hqm with h | h
      · exact hXYd q hx h
      · exact hLX (h ▸ hx)
    have hpY : p ∉ Y := fun hy => by
      rcases List.mem_cons.1 hpm with h | h
      · exact hLY (h ▸ hy)
      · exact hXYd p h hy
    refine linked_drop hln ?_ (by rw [hA1]; exact hqX) (by rw [hD1]; exact hpY) (List.nodup_cons.1 hndD).1 ?_ (by rw [hA1]; exact hnX) (by rw [hD1]; exact hnY) ?_ g1 g0 (fun u hu hn' => hs.cell u 1 (by simp [hu, hn'])) (fun u hu hn' => hs.cell u 0 (by simp [hu, hn']))
    · intro hp
      exact (List.nodup_append.1 hndA).2.2 p hp p (by simp) rfl
    · intro hn'
      have : n ∈ L :: X := by rw [hA]; simp [hn']
      rcases List.mem_cons.1 this with h | h
      · exact hLnn h
      · exact hnX h
    · intro hn'
      have : n ∈ Y ++ [L] := by rw [hD]; simp [hn']
      simp only [List.mem_append, List.mem_singleton] at this
      rcases this with h | h
      · exact hnY h
      · exact hLnn h
  · refine List.nodup_cons.2 ⟨fun hm => hLn (hin L hm), List.nodup_append.2 ⟨hndX, hndY, fun a ha b hb e => hXYd a ha (e ▸ hb)⟩⟩
  · intro b hb
    obtain ⟨c1, h1⟩ := h.costs b (hin b hb)
    exact ⟨c1, (hs.cell b 3 (by simp)).trans h1⟩
  · rw [g4]
    simp only [List.length_append, List.length_cons, Option.some.injEq, Value.int.injEq, true_and]
    omega
  · intro x hx
    simp only [List.mem_cons, List.not_mem_nil, or_false] at hx
    rcases hx with rfl | rfl | rfl | rfl | rfl | rfl
    · exact List.mem_cons_of_mem _ hnm
    · exact List.mem_cons_of_mem _ hnm
    · exact hqm'
    · exact hpm'
    · simp
    · simp
end Go.Proofs.Ybulkcyyc
