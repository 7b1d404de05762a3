import Derived.Test.YbulkcyvyIter
import Derived.RangeFuncFrom
namespace Go.Proofs.Ybulkcyvy
open Go.RowKit Go.Shelf
attribute [local go_sem] Oper.semAt_some
attribute [local go_sem] wideFn

/-- Does member j bear the name? -/
def hit (f : Nat → Int) (name : ByteArray) (j : Nat) : Bool := (decOf (f j)).toList == name.toList

/-- What Member's own four boxes hold. -/
structure Boxes (W : World) (B d : Nat) (name : ByteArray) (r0 r1 ok : Value) : Prop where
  v0 : W.cell? ⟨B, 0, none⟩ = some (.pointer (some ⟨d, 0, none⟩))
  v1 : W.cell? ⟨B, 1, none⟩ = some (.int .u32 0)
  nm : W.cell? ⟨B + 1, 0, none⟩ = some (.string name)
  r0 : W.cell? ⟨B + 1 + 1, 0, none⟩ = some r0
  f0 : W.frozen? ⟨B + 1 + 1, 0, none⟩ = false
  r1 : W.cell? ⟨B + 1 + 1, 1, none⟩ = some r1
  f1 : W.frozen? ⟨B + 1 + 1, 1, none⟩ = false
  ok : W.cell? ⟨B + 1 + 1 + 1, 0, none⟩ = some ok
  fk : W.frozen? ⟨B + 1 + 1 + 1, 0, none⟩ = false
theorem Boxes.kept {W W' : World} {B d : Nat} {name : ByteArray} {r0 r1 ok : Value} {row : Option Nat} (h : Boxes W B d name r0 r1 ok) (hg : W.grownBy W' row) (hr : ∀ r, row = some r → ∃ o : Obj, W.heap[r]? = some o ∧ o.isCells = false) : Boxes W' B d name r0 r1 ok :=
  ⟨cell_kept h.v0 hg hr, cell_kept h.v1 hg hr, cell_kept h.nm hg hr, cell_kept h.r0 hg hr, (frozen_kept h.r0 hg hr).trans h.f0, cell_kept h.r1 hg hr, (frozen_kept h.r1 hg hr).trans h.f1, cell_kept h.ok hg hr, (frozen_kept h.ok hg hr).trans h.fk⟩
theorem Boxes.later {W W' : World} {B d : Nat} {name : ByteArray} {r0 r1 ok : Value} (h : Boxes W B d name r0 r1 ok) (hb : Below W.heap.size W W') : Boxes W' B d name r0 r1 ok :=
  h.kept (Below.grownBy hb) (fun r e => by cases e)
theorem Boxes.made (w : World) (d : Nat) (name : ByteArray) : Boxes ((((w.alloc (.cells #[.pointer (some ⟨d, 0, none⟩), .int .u32 0] 30)).alloc (.cells #[.string name] 9)).alloc (.cells #[.pointer none, .int .u32 0] 30)).alloc (.cells #[.bool false] 4)) w.heap.size d name (.pointer none) (.int .u32 0) (.bool false) := by
  refine ⟨?_, ?_, ?_, ?_, ?_, ?_, ?_, ?_, ?_⟩ <;> go_simp

theorem set3 {W : World} {B : Nat} {a b c : Value} {p : Addr} {v : Value} (h : W.cell? p = some v) (h0 : p ≠ ⟨B + 1 + 1, 0, none⟩) (h1 : p ≠ ⟨B + 1 + 1, 1, none⟩) (h2 : p ≠ ⟨B + 1 + 1 + 1, 0, none⟩) :
    (((W.setCell ⟨B + 1 + 1, 0, none⟩ a).setCell ⟨B + 1 + 1, 1, none⟩ b).setCell ⟨B + 1 + 1 + 1, 0, none⟩ c).cell? p = some v := by
  rw [World.cell?_setCell_other _ _ _ _ (Ne.symm h2), World.cell?_setCell_other _ _ _ _ (Ne.symm h1), World.cell?_setCell_other _ _ _ _ (Ne.symm h0)]
  exact h
theorem Boxes.set {W : World} {B d : Nat} {name : ByteArray} {r0 r1 ok : Value} (h : Boxes W B d name r0 r1 ok) (a b c : Value) :
    Boxes (((W.setCell ⟨B + 1 + 1, 0, none⟩ a).setCell ⟨B + 1 + 1, 1, none⟩ b).setCell ⟨B + 1 + 1 + 1, 0, none⟩ c) B d name a b c := by
  refine ⟨set3 h.v0 (by simp) (by simp) (by simp), set3 h.v1 (by simp) (by simp) (by simp), set3 h.nm (by simp) (by simp) (by simp), ?_, ?_, ?_, ?_, ?_, ?_⟩
  · rw [World.cell?_setCell_other _ _ _ _ (by simp), World.cell?_setCell_other _ _ _ _ (by simp)]
    exact World.cell?_setCell_same _ _ _ h.r0
  · simp only [World.frozen?_setCell]; exact h.f0
  · rw [World.cell?_setCell_other _ _ _ _ (by simp)]
    exact World.cell?_setCell_same _ _ _ ((World.cell?_setCell_other _ _ _ _ (by simp)).trans h.r1)
  · simp only [World.frozen?_setCell]; exact h.f1
  · exact World.cell?_setCell_same _ _ _ ((World.cell?_setCell_other _ _ _ _ (by simp)).trans ((World.cell?_setCell_other _ _ _ _ (by simp)).trans h.ok))
  · simp only [World.frozen?_setCell]; exact h.fk
theorem below_set {w W : World} (h : Below w.heap.size w W) (a b c : Value) : Below w.heap.size w (((W.setCell ⟨w.heap.size + 1 + 1, 0, none⟩ a).setCell ⟨w.heap.size + 1 + 1, 1, none⟩ b).setCell ⟨w.heap.size + 1 + 1 + 1, 0, none⟩ c) :=
  ((h.setCell (p := ⟨w.heap.size + 1 + 1, 0, none⟩) (by show _ ≤ w.heap.size + 1 + 1; omega) _).setCell (p := ⟨w.heap.size + 1 + 1, 1, none⟩) (by show _ ≤ w.heap.size + 1 + 1; omega) _).setCell (p := ⟨w.heap.size + 1 + 1 + 1, 0, none⟩) (by show _ ≤ w.heap.size + 1 + 1 + 1; omega) _

theorem upTo_get (k : Nat) : ∀ (i : Nat) (h : i ≤ k) (j : Nat) (hj : j < i), (upTo k i h)[j]? = some ⟨j, Nat.lt_of_lt_of_le hj h⟩
  | i + 1, h, j, hj => by
    unfold upTo
    by_cases hji : j < i
    · rw [List.getElem?_append_left (by rw [upTo_length]; exact hji)]
      exact upTo_get k i _ j hji
    · obtain rfl : j = i := by omega
      rw [List.getElem?_append_right (by rw [upTo_length]; omega), upTo_length]
      simp
theorem mem_upTo (k j : Nat) (hj : j < k) : (⟨j, hj⟩ : Mem k) ∈ upTo k k (Nat.le_refl k) :=
  List.mem_of_getElem? (upTo_get k k _ j hj)
theorem prefix_get {k : Nat} {p : List (Mem k)} (h : p <+: upTo k k (Nat.le_refl k)) (j : Nat) (hj : j < p.length) : ∃ hk : j < k, p[j]? = some ⟨j, hk⟩ := by
  obtain ⟨t, ht⟩ := h
  have hl : p.length ≤ k := by
    have := congrArg List.length ht
    rw [List.length_append, upTo_length] at this
    omega
  have hjk : j < k := by omega
  refine ⟨hjk, ?_⟩
  have := upTo_get k k (Nat.le_refl k) j hjk
  rw [← ht, List.getElem?_append_left hj] at this
  exact this
theorem prefix_last {k : Nat} {q : List (Mem k)} {x : Mem k} (h : q ++ [x] <+: upTo k k (Nat.le_refl k)) : x.1 = q.length ∧ ∀ j, j < q.length → ∃ hk : j < k, (⟨j, hk⟩ : Mem k) ∈ q := by
  refine ⟨?_, fun j hj => ?_⟩
  · obtain ⟨hk, e⟩ := prefix_get h q.length (by simp)
    rw [List.getElem?_append_right (Nat.le_refl _)] at e
    simp at e
    rw [e]
  · obtain ⟨hk, e⟩ := prefix_get h j (by simp; omega)
    rw [List.getElem?_append_left hj] at e
    exact ⟨hk, List.mem_of_getElem? e⟩

set_option maxRecDepth 100000 in
set_option maxHeartbeats 2000000 in
theorem member_in (n : Nat) (hn : 6 ≤ n) {f : Nat → Int} {k d gb gn cn gt nt ct : Nat} {st : Nat → Nat} (hk : k ≤ 1000) (hf : ∀ j, 0 ≤ f j ∧ f j ≤ 5) (name : ByteArray) (w : World) (hD : DocAt w f k d gb gn cn gt nt ct st) (hgt : gt < w.heap.size) :
    CallsIn Fence.wide n Yba.prog 7 #[.agg #[.pointer (some ⟨d, 0, none⟩), .int .u32 0], .string name] w fun e W' => Below w.heap.size w W' ∧
      ((∃ i, i < k ∧ (∀ j, j < i → hit f name j = false) ∧ hit f name i = true ∧ e = .returned (.tuple #[.agg #[.pointer (some ⟨d, 0, none⟩), .int .u32 (2 * (i : Int) + 2)], .bool true])) ∨
       ((∀ j, j < k → hit f name j = false) ∧ e = .returned (.tuple #[.agg #[.pointer none, .int .u32 0], .bool false]))) := by
  have h1 : 1 ≤ n := by omega
  refine callsIn_of_wp_marks Yba.func7 rfl trivial ?_ rfl
  simp only [Yba.ntmps7, List.size_toArray, List.length_cons, List.length_nil, Nat.reduceAdd, Nat.reduceSub, Array.replicate_succ, Array.replicate_zero, List.push_toArray, List.append_toArray, List.nil_append, List.cons_append]
  gi_wp2_with fail
  have hB4 : Below w.heap.size w ((((w.alloc (.cells #[.pointer (some ⟨d, 0, none⟩), .int .u32 0] 30)).alloc (.cells #[.string name] 9)).alloc (.cells #[.pointer none, .int .u32 0] 30)).alloc (.cells #[.bool false] 4)) :=
    ((((Below.refl _ _).alloc (Nat.le_refl _) _).alloc (by simp) _).alloc (by simp; omega) _).alloc (by simp; omega) _
  have hX4 := Boxes.made w d name
  refine (callsIn_wide.2 (kind_any (hD.later hB4) hk)).mono ?_
  rintro e w1 ⟨rfl, hb1⟩
  have hX1 := hX4.later hb1
  have hB1 : Below w.heap.size w w1 := hB4.trans (hb1.mono hB4.size)
  have hz1 : w.heap.size + 1 + 1 + 1 < w1.heap.size := World.block_lt_of_cell? _ _ hX1.ok
  clear hX4 hb1 hB4
  have x0 := hX1.v0
  have x1 := hX1.v1
  gi_wp2_with fail
  refine (children_in (n - 1) _ _ _).mono ?_
  rintro e w2 ⟨rfl, rfl⟩
  gi_wp2
  have hB2 : Below w.heap.size w (w1.alloc (.cells #[.pointer (some ⟨d, 0, none⟩), .int .u32 0] 30)) := hB1.alloc hB1.size _
  have hX2 := hX1.later (below_alloc w1 (.cells #[.pointer (some ⟨d, 0, none⟩), .int .u32 0] 30))
  have y0 : (w1.alloc (.cells #[.pointer (some ⟨d, 0, none⟩), .int .u32 0] 30)).cell? ⟨w1.heap.size, 0, none⟩ = some (.pointer (some ⟨d, 0, none⟩)) := by go_simp
  have y1 : (w1.alloc (.cells #[.pointer (some ⟨d, 0, none⟩), .int .u32 0] 30)).cell? ⟨w1.heap.size, 1, none⟩ = some (.int .u32 0) := by go_simp
  have hsz2 : (w1.alloc (.cells #[.pointer (some ⟨d, 0, none⟩), .int .u32 0] 30)).heap.size = w1.heap.size + 1 := by simp
  refine wpIn_rangeFunc_ownF (α := Mem k) rfl h1 (gf := 13) (lb := #[.pointer (some ⟨w1.heap.size, 0, none⟩)]) rfl trivial (enters_of Yba.func13 (by kernel_rfl) rfl)
    (children_stops (n - 1) (by omega) w1.heap.size w.heap.size hk (hD.low hgt) _ y0 y1 (hD.later hB2)) belowK_t (belowK_b (by omega)) (Below.refl _ _) (fun _ => rfl)
    (fun pre W => ((∀ y ∈ pre, hit f name y.1 = false) ∧ Boxes W w.heap.size d name (.pointer none) (.int .u32 0) (.bool false)) ∧ Below w.heap.size w W)
    (fun c pre W => (c = .ret ∧ ∃ (q : List (Mem k)) (x : Mem k), pre = q ++ [x] ∧ (∀ y ∈ q, hit f name y.1 = false) ∧ hit f name x.1 = true ∧ Boxes W w.heap.size d name (.pointer (some ⟨d, 0, none⟩)) (.int .u32 (2 * (x.1 : Int) + 1 + 1)) (.bool true)) ∧ Below w.heap.size w W)
    (OwnFrom.and (Own.from (fun s A B row hs hg hr => ⟨hs.1, hs.2.kept hg hr⟩) _) (ownFrom_below (Nat.le_refl _) (by omega)))
    (fun c => OwnFrom.and (Own.from (fun s A B row hs hg hr => by obtain ⟨e, q, x, e1, e2, e3, e4⟩ := hs; exact ⟨e, q, x, e1, e2, e3, e4.kept hg hr⟩) _) (ownFrom_below (Nat.le_refl _) (by omega)))
    ⟨⟨by simp, hX2⟩, hB2⟩
    (fun x => { tmps := #[.agg #[.pointer (some ⟨d, 0, none⟩), .int .u32 0], .string name, .pointer (some ⟨w.heap.size, 0, none⟩), .pointer (some ⟨w.heap.size + 1, 0, none⟩), .pointer (some ⟨w.heap.size + 1 + 1, 0, none⟩), .pointer (some ⟨w.heap.size + 1 + 1 + 1, 0, none⟩), .int .u32 (2 * (x.1 : Int) + 1),
      .agg #[.pointer (some ⟨d, 0, none⟩), .int .u32 0], .int .u8 6, .bool false, undef, .agg #[.pointer (some ⟨d, 0, none⟩), .int .u32 0], .func (.func 13) #[] #[.pointer (some ⟨w1.heap.size, 0, none⟩)], .int .u32 (2 * (x.1 : Int) + 1), undef, undef, undef, undef, undef, undef, undef, undef, undef, undef, undef], defers := [] }) ?assign ?body ?done ?stop
  case assign =>
    intro l x W K hK
    gi_wp2
    exact hK
  case body =>
    rintro l pre x W ⟨⟨hno, hX⟩, hB⟩ _
    have hDW := hD.later hB
    have z0 := hX.v0
    have z1 := hX.nm
    cases hh : hit f name x.1
    · have hN : Calls Yba.prog 11 #[.pointer (some ⟨d, 0, none⟩), .int .u32 (2 * (x.1 : Int) + 1), .string name] W fun e w' => e = .returned (.bool false) ∧ Below W.heap.size W w' := by
        have h := nameIs_any hDW hk hf x.1 x.2 name
        rwa [show ((decOf (f x.1)).toList == name.toList) = false from hh] at h
      have HN : Hid (Calls Yba.prog 11 #[.pointer (some ⟨d, 0, none⟩), .int .u32 (2 * (x.1 : Int) + 1), .string name] W fun e w' => e = .returned (.bool false) ∧ Below W.heap.size W w') := hN
      clear hN
      have HH : Hid (hit f name x.1 = false) := hh
      clear hh
      gi_wp2_with fail
      refine ⟨fun _ => by omega, ?_⟩
      refine (CallsIn.inRound l (callsIn_wide.2 HN.out)).mono ?_
      rintro e W1 ⟨rfl, hbW⟩
      gi_wp2
      exact ⟨KeepsOthers.of_grownBy (Below.grownBy hbW) (fun j o e _ => by cases e), hbW.mono hB.size, ⟨fun y hy => (List.mem_append.1 hy).elim (hno y) (fun e => by rw [List.mem_singleton.1 e]; exact HH.out), hX.later hbW⟩, hB.trans (hbW.mono hB.size)⟩
    · have hN : Calls Yba.prog 11 #[.pointer (some ⟨d, 0, none⟩), .int .u32 (2 * (x.1 : Int) + 1), .string name] W fun e w' => e = .returned (.bool true) ∧ Below W.heap.size W w' := by
        have h := nameIs_any hDW hk hf x.1 x.2 name
        rwa [show ((decOf (f x.1)).toList == name.toList) = true from hh] at h
      have HN : Hid (Calls Yba.prog 11 #[.pointer (some ⟨d, 0, none⟩), .int .u32 (2 * (x.1 : Int) + 1), .string name] W fun e w' => e = .returned (.bool true) ∧ Below W.heap.size W w') := hN
      clear hN
      have HH : Hid (hit f name x.1 = true) := hh
      clear hh
      gi_wp2_with fail
      refine ⟨fun _ => by omega, ?_⟩
      refine (CallsIn.inRound l (callsIn_wide.2 HN.out)).mono ?_
      rintro e W1 ⟨rfl, hbW⟩
      have hXW := hX.later hbW
      have q0 := hXW.v0
      have q1 := hXW.r0
      have q2 := hXW.f0
      have q3 := hXW.r1
      have q4 := hXW.f1
      have q5 := hXW.ok
      have q6 := hXW.fk
      have hxk := x.2
      gi_wp2
      exact ⟨(KeepsOthers.of_grownBy (Below.grownBy hbW) (fun j o e _ => by cases e)).trans (((KeepsOthers.setCell _ _ _).trans (KeepsOthers.setCell _ _ _)).trans (KeepsOthers.setCell _ _ _)), ⟨rfl, pre, x, rfl, hno, HH.out, hXW.set _ _ _⟩, below_set (hB.trans (hbW.mono hB.size)) _ _ _⟩
  case done =>
    rintro D ys W hD' rfl ⟨⟨hno, hX⟩, hB⟩ hK
    have q1 := hX.r0
    have q2 := hX.f0
    have q3 := hX.r1
    have q4 := hX.f1
    have q5 := hX.ok
    have q6 := hX.fk
    gi_wp2
    have hX' := hX.set (.pointer none) (.int .u32 0) (.bool false)
    have hK' := (((KeepsOthers.setCell W ⟨w.heap.size + 1 + 1, 0, none⟩ (.pointer none)).trans (KeepsOthers.setCell _ ⟨w.heap.size + 1 + 1, 1, none⟩ (.int .u32 0))).trans (KeepsOthers.setCell _ ⟨w.heap.size + 1 + 1 + 1, 0, none⟩ (.bool false))).same D _ hK rfl
    refine ⟨by simp, .inl ⟨_, _, rfl, run_takeDeferred hK', ?_⟩⟩
    have hXe := hX'.kept (grownBy_putObj' _ D (.deferred none)) (fun r e => by cases e; exact ⟨_, hK', rfl⟩)
    have p0 := hXe.r0
    have p1 := hXe.r1
    have p2 := hXe.ok
    refine ⟨.tuple #[.agg #[.pointer none, .int .u32 0], .bool false], ?_, (below_set hB _ _ _).trans (belowK_b (w := w) (Nat.le_refl _) _ D _ _ (by omega) hK' rfl rfl), Or.inr ⟨fun j hj => hno ⟨j, hj⟩ (mem_upTo k j hj), rfl⟩⟩
    simp [results, Yba.f7, go_sem, p0, p1, p2]
  case stop =>
    rintro D c pre W hD' hpre ⟨⟨rfl, q, x, rfl, hno, hyes, hX⟩, hB⟩ hK
    gi_wp2
    refine ⟨by simp, .inl ⟨_, _, rfl, run_takeDeferred hK, ?_⟩⟩
    have hXe := hX.kept (grownBy_putObj' _ D (.deferred none)) (fun r e => by cases e; exact ⟨_, hK, rfl⟩)
    have p0 := hXe.r0
    have p1 := hXe.r1
    have p2 := hXe.ok
    obtain ⟨hx, hq⟩ := prefix_last hpre
    refine ⟨.tuple #[.agg #[.pointer (some ⟨d, 0, none⟩), .int .u32 (2 * (x.1 : Int) + 1 + 1)], .bool true], ?_, hB.trans (belowK_b (w := w) (Nat.le_refl _) _ D _ _ (by omega) hK rfl rfl),
      Or.inl ⟨x.1, x.2, fun j hj => ?_, hyes, by rw [show 2 * (x.1 : Int) + 1 + 1 = 2 * (x.1 : Int) + 2 from by omega]⟩⟩
    · simp [results, Yba.f7, go_sem, p0, p1, p2]
    · obtain ⟨hk', hm⟩ := hq j (by omega)
      exact hno _ hm
end Go.Proofs.Ybulkcyvy
