import Derived.Test.YbulkcyvySt
namespace Go.Proofs.Ybulkcyvy
open Go.RowKit

/-- A node's cells. -/
def nodeC (a b c k : Int) (e : Bool) : List Value := [.int .u32 a, .int .u32 b, .int .u32 c, .int .u8 k, .bool e]

/-- What the rows hold, by index, behind k members. f: each member's name; st: where each name begins. -/
structure DInv (f : Nat → Int) (k n : Nat) (T N : List Value) (st : Nat → Nat) : Prop where
  tlen : T.length = n
  tpos : 0 < n
  tbd : n ≤ 1 + 14 * k
  nlen : N.length = 5 * (2 * k + 1)
  kind0 : N[3]? = some (.int .u8 6)
  nm0 : ∀ j, j < k → N[5 * (2 * j + 1)]? = some (.int .u32 (st j : Nat))
  nm1 : ∀ j, j < k → N[5 * (2 * j + 1) + 1]? = some (.int .u32 (st j + (rawOf (f j)).size + 2 : Nat))
  nm4 : ∀ j, j < k → N[5 * (2 * j + 1) + 4]? = some (.bool (escOf (f j)))
  nx : ∀ j, j < k → N[5 * (2 * j + 2) + 2]? = some (.int .u32 (2 * j + 3 : Nat))
  tx : ∀ j, j < k → st j + (rawOf (f j)).size + 2 ≤ n ∧ ∀ i, i < (rawOf (f j)).size → T[st j + 1 + i]? = (Lib.strCells (rawOf (f j)))[i]?

theorem get_left {α : Type} {l r : List α} {i : Nat} {x : α} (h : l[i]? = some x) : (l ++ r)[i]? = some x := by
  have := (List.getElem?_eq_some_iff.1 h).1
  rw [List.getElem?_append_left this]
  exact h
theorem get_right {α : Type} {l r : List α} {i j : Nat} (h : i = l.length + j) : (l ++ r)[i]? = r[j]? := by
  subst h
  rw [List.getElem?_append_right (by omega)]
  congr 1
  omega

/-- One member more. -/
theorem DInv.step {f : Nat → Int} {k n : Nat} {T N : List Value} {st : Nat → Nat} (h : DInv f k n T N st) (pre val : List Value) (hp : pre.length ≤ 1) (hv : val.length ≤ 4) (ve : Int) (kd : Int) :
    DInv f (k + 1) (n + pre.length + 1 + (rawOf (f k)).size + 1 + 1 + val.length)
      (T ++ pre ++ [.int .u8 34] ++ Lib.strCells (rawOf (f k)) ++ [.int .u8 34] ++ [.int .u8 58] ++ val)
      (N ++ nodeC (n + pre.length : Nat) (n + pre.length + 1 + (rawOf (f k)).size + 1 : Nat) (2 * k + 2 : Nat) 4 (escOf (f k)) ++ nodeC (n + pre.length + 1 + (rawOf (f k)).size + 1 + 1 : Nat) ve (2 * k + 3 : Nat) kd false)
      (fun j => if j < k then st j else n + pre.length) := by
  have hr := raw_le (f k)
  have hsl := Lib.strCells_length (rawOf (f k))
  have htl := h.tlen
  have hnl := h.nlen
  have htb := h.tbd
  have old : ∀ j, j < k → (if j < k then st j else n + pre.length) = st j := fun j hj => if_pos hj
  have new : (if k < k then st k else n + pre.length) = n + pre.length := if_neg (by omega)
  refine ⟨by simp [hsl, htl]; omega, by omega, by omega, by simp [nodeC, hnl]; omega, get_left (get_left h.kind0), ?_, ?_, ?_, ?_, ?_⟩
  · intro j hj
    by_cases hjk : j < k
    · simp only [old j hjk]
      exact get_left (get_left (h.nm0 j hjk))
    · obtain rfl : j = k := by omega
      simp only [new]
      refine get_left ?_
      rw [get_right (j := 0) (by omega)]
      rfl
  · intro j hj
    by_cases hjk : j < k
    · simp only [old j hjk]
      exact get_left (get_left (h.nm1 j hjk))
    · obtain rfl : j = k := by omega
      simp only [new]
      refine get_left ?_
      rw [get_right (j := 1) (by omega)]
      show some (Value.int .u32 ((n + pre.length + 1 + (rawOf (f j)).size + 1 : Nat) : Int)) = _
      rw [show n + pre.length + 1 + (rawOf (f j)).size + 1 = n + pre.length + (rawOf (f j)).size + 2 from by omega]
  · intro j hj
    by_cases hjk : j < k
    · exact get_left (get_left (h.nm4 j hjk))
    · obtain rfl : j = k := by omega
      refine get_left ?_
      rw [get_right (j := 4) (by omega)]
      rfl
  · intro j hj
    by_cases hjk : j < k
    · exact get_left (get_left (h.nx j hjk))
    · obtain rfl : j = k := by omega
      rw [get_right (j := 2) (by simp [nodeC]; omega)]
      rfl
  · intro j hj
    by_cases hjk : j < k
    · simp only [old j hjk]
      obtain ⟨h1, h2⟩ := h.tx j hjk
      refine ⟨by omega, fun i hi => ?_⟩
      have hb : i < (Lib.strCells (rawOf (f j))).length := by rw [Lib.strCells_length]; exact hi
      have e := h2 i hi
      rw [List.getElem?_eq_getElem hb] at e ⊢
      exact get_left (get_left (get_left (get_left (get_left (get_left e)))))
    · obtain rfl : j = k := by omega
      simp only [new]
      refine ⟨by omega, fun i hi => ?_⟩
      have hb : i < (Lib.strCells (rawOf (f j))).length := by rw [Lib.strCells_length]; exact hi
      rw [List.getElem?_eq_getElem hb]
      refine get_left (get_left (get_left ?_))
      rw [get_right (j := i) (by rw [List.length_append, List.length_append, htl]; rfl), List.getElem?_eq_getElem hb]

/-- The same, as the walk spells it. -/
theorem DInv.step' {f : Nat → Int} {k n : Nat} {T N : List Value} {st : Nat → Nat} (h : DInv f k n T N st) (pre val : List Value) (hp : pre.length ≤ 1) (hv : val.length ≤ 4) (kn : Int) (n1 : Nat) (hn1 : n1 = n + pre.length) (raw : ByteArray) (hraw : rawOf (f k) = raw) :
    DInv f (k + 1) (n1 + 1 + raw.size + 1 + 1 + val.length) (T ++ pre ++ [.int .u8 34] ++ Lib.strCells raw ++ [.int .u8 34] ++ [.int .u8 58] ++ val)
      (N ++ [.int .u32 (n1 : Int), .int .u32 ((n1 : Int) + 1 + (raw.size : Int) + 1), .int .u32 (2 * (k : Int) + 1 + 1), .int .u8 4, .bool (escOf (f k))] ++
        [.int .u32 ((n1 : Int) + 1 + (raw.size : Int) + 1 + 1), .int .u32 ((n1 : Int) + 1 + (raw.size : Int) + 1 + 1 + (val.length : Int)), .int .u32 (2 * (k : Int) + 1 + 2), .int .u8 kn, .bool false]) (fun j => if j < k then st j else n1) := by
  have h' := h.step pre val hp hv ((n1 : Int) + 1 + (raw.size : Int) + 1 + 1 + (val.length : Int)) kn
  rw [hraw, ← hn1] at h'
  have a1 : ((n1 + 1 + raw.size + 1 : Nat) : Int) = (n1 : Int) + 1 + (raw.size : Int) + 1 := by omega
  have a2 : ((2 * k + 2 : Nat) : Int) = 2 * (k : Int) + 1 + 1 := by omega
  have a3 : ((n1 + 1 + raw.size + 1 + 1 : Nat) : Int) = (n1 : Int) + 1 + (raw.size : Int) + 1 + 1 := by omega
  have a4 : ((2 * k + 3 : Nat) : Int) = 2 * (k : Int) + 1 + 2 := by omega
  rw [a1, a2, a3, a4] at h'
  exact h'

theorem DInv_start (f : Nat → Int) : DInv f 0 1 [.int .u8 123] (nodeC 0 0 0 6 false) (fun _ => 0) :=
  ⟨rfl, by omega, by omega, rfl, rfl, fun _ h => absurd h (by omega), fun _ h => absurd h (by omega), fun _ h => absurd h (by omega), fun _ h => absurd h (by omega), fun _ h => absurd h (by omega)⟩

/-- The names so far. -/
def namesOf (f : Nat → Int) (k : Nat) : List Value := (List.range k).map fun j => .string (decOf (f j))
theorem namesOf_succ (f : Nat → Int) (k : Nat) : namesOf f (k + 1) = namesOf f k ++ [.string (decOf (f k))] := by
  unfold namesOf
  rw [List.range_succ, List.map_append]
  rfl

/-- The document in memory, as the readers meet it. -/
structure DocAt (w : World) (f : Nat → Int) (k d gb gn cn gt nt ct : Nat) (st : Nat → Nat) : Prop where
  text : w.cell? ⟨d, 0, none⟩ = some (.slice (some ⟨gt, 0, none⟩) nt ct)
  blocks : w.cell? ⟨d, 1, none⟩ = some (.slice (some ⟨gb, 0, none⟩) 1 1)
  row : w.cell? ⟨gb, 0, none⟩ = some (.slice (some ⟨gn, 0, none⟩) (2 * k + 1) cn)
  tle : nt ≤ ct
  tbd : nt ≤ 2 + 14 * k
  kind0 : w.cell? ⟨gn, 3, none⟩ = some (.int .u8 6)
  next0 : w.cell? ⟨gn, 2, none⟩ = some (.int .u32 (2 * k + 1 : Nat))
  nm0 : ∀ j, j < k → w.cell? ⟨gn, 5 * (2 * j + 1), none⟩ = some (.int .u32 (st j : Nat))
  nm1 : ∀ j, j < k → w.cell? ⟨gn, 5 * (2 * j + 1) + 1, none⟩ = some (.int .u32 (st j + (rawOf (f j)).size + 2 : Nat))
  nm4 : ∀ j, j < k → w.cell? ⟨gn, 5 * (2 * j + 1) + 4, none⟩ = some (.bool (escOf (f j)))
  nx : ∀ j, j < k → w.cell? ⟨gn, 5 * (2 * j + 2) + 2, none⟩ = some (.int .u32 (2 * j + 3 : Nat))
  tx : ∀ j, j < k → st j + (rawOf (f j)).size + 2 ≤ nt ∧ ∀ i (h : i < (rawOf (f j)).size), w.cell? ⟨gt, st j + 1 + i, none⟩ = some (.int .u8 ((rawOf (f j))[i].toNat : Int))

theorem strCells_get (s : ByteArray) (i : Nat) (h : i < s.size) : (Lib.strCells s)[i]? = some (.int .u8 (s[i].toNat : Int)) := by
  unfold Lib.strCells
  have h' : i < s.data.toList.length := by simpa using h
  rw [List.getElem?_map, List.getElem?_eq_getElem h']
  rfl

theorem set_other {N : List Value} {i j : Nat} {u x : Value} (h : N[i]? = some x) (hne : j ≠ i) : (N.set j u)[i]? = some x := by
  rw [List.getElem?_set_ne hne]
  exact h

/-- The end of the build: the two stores into the first node, the slice of blocks, the document. -/
theorem doc_made {w w1 : World} {f : Nat → Int} {k n : Nat} {T N : List Value} {st : Nat → Nat} {gt ct gn cn gm : Nat} (hD : DInv f k n T N st) (hct : n + 1 ≤ ct)
    (hS : BSt w w1 (.slice (some ⟨gt, 0, none⟩) (n + 1) ct) (.slice (some ⟨gn, 0, none⟩) (2 * k + 1) cn) (.slice (some ⟨gm, 0, none⟩) k k) (n + 1) (T ++ [.int .u8 125]) (2 * k + 1) N k (namesOf f k)) (w2 w' : World)
    (h2 : w2 = (w1.setCell ⟨gn, 1, none⟩ (.int .u32 ((n : Int) + 1))).setCell ⟨gn, 2, none⟩ (.int .u32 (2 * (k : Int) + 1)))
    (h' : w' = (w2.alloc (.cells #[.slice (some ⟨gn, 0, none⟩) (2 * k + 1) cn] 37)).alloc (.cells #[.slice (some ⟨gt, 0, none⟩) (n + 1) ct, .slice (some ⟨w2.heap.size, 0, none⟩) 1 1, .int .u32 0, .int .i32 0, .int .u32 0, .slice none 0 0] 56)) :
    DocAt w' f k (w2.heap.size + 1) w2.heap.size gn cn gt (n + 1) ct st ∧ w'.ownsRow w.heap.size 9 1 (.slice (some ⟨gm, 0, none⟩) k k) k (namesOf f k) ∧ Below w.heap.size w w' ∧ gt < w'.heap.size := by
  have hN := ((hS.nodes.stored 1 (.int .u32 ((n : Int) + 1))).1.stored 2 (.int .u32 (2 * (k : Int) + 1))).1
  have hgn := hS.nodes.lt gn rfl
  have apT : (Value.slice (some ⟨gt, 0, none⟩) (n + 1) ct).ownBlock ≠ some gn := by
    rcases rows_apart hS.text hS.nodes (by decide) with h | h
    · simp [Value.ownBlock] at h
    · exact h
  have apM : (Value.slice (some ⟨gm, 0, none⟩) k k).ownBlock ≠ some gn := by
    rcases rows_apart hS.names hS.nodes (by decide) with h | h
    · simp [Value.ownBlock] at h
    · exact h
  have hT := ownsRow_setCell_other (ownsRow_setCell_other hS.text (a := ⟨gn, 1, none⟩) apT (.int .u32 ((n : Int) + 1))) (a := ⟨gn, 2, none⟩) apT (.int .u32 (2 * (k : Int) + 1))
  have hM := ownsRow_setCell_other (ownsRow_setCell_other hS.names (a := ⟨gn, 1, none⟩) apM (.int .u32 ((n : Int) + 1))) (a := ⟨gn, 2, none⟩) apM (.int .u32 (2 * (k : Int) + 1))
  have hB : Below w.heap.size w w2 := by
    rw [h2]
    exact (hS.bel.setCell (p := ⟨gn, 1, none⟩) hgn.1 _).setCell (p := ⟨gn, 2, none⟩) hgn.1 _
  rw [← h2] at hN hT hM
  have hN' := (hN.alloc (.cells #[.slice (some ⟨gn, 0, none⟩) (2 * k + 1) cn] 37)).alloc (.cells #[.slice (some ⟨gt, 0, none⟩) (n + 1) ct, .slice (some ⟨w2.heap.size, 0, none⟩) 1 1, .int .u32 0, .int .i32 0, .int .u32 0, .slice none 0 0] 56)
  have hT' := (hT.alloc (.cells #[.slice (some ⟨gn, 0, none⟩) (2 * k + 1) cn] 37)).alloc (.cells #[.slice (some ⟨gt, 0, none⟩) (n + 1) ct, .slice (some ⟨w2.heap.size, 0, none⟩) 1 1, .int .u32 0, .int .i32 0, .int .u32 0, .slice none 0 0] 56)
  have hM' := (hM.alloc (.cells #[.slice (some ⟨gn, 0, none⟩) (2 * k + 1) cn] 37)).alloc (.cells #[.slice (some ⟨gt, 0, none⟩) (n + 1) ct, .slice (some ⟨w2.heap.size, 0, none⟩) 1 1, .int .u32 0, .int .i32 0, .int .u32 0, .slice none 0 0] 56)
  rw [← h'] at hN' hT' hM'
  have hnl := hD.nlen
  have htl := hD.tlen
  have cN : ∀ j x, ((N.set 1 (.int .u32 ((n : Int) + 1))).set 2 (.int .u32 (2 * (k : Int) + 1)))[j]? = some x → w'.cell? ⟨gn, j, none⟩ = some x := fun j x hx => by
    have hj := (List.getElem?_eq_some_iff.1 hx).1
    rw [hN'.cellAt j (by simp at hj; omega)]
    exact hx
  have cN' : ∀ j x, 3 ≤ j → N[j]? = some x → w'.cell? ⟨gn, j, none⟩ = some x := fun j x h3 hx => cN j x (set_other (set_other hx (by omega)) (by omega))
  have cT : ∀ j x, T[j]? = some x → w'.cell? ⟨gt, j, none⟩ = some x := fun j x hx => by
    have hj := (List.getElem?_eq_some_iff.1 hx).1
    rw [hT'.cellAt j (by omega)]
    exact get_left hx
  refine ⟨⟨?_, ?_, ?_, hct, by have := hD.tbd; omega, cN' 3 _ (by omega) hD.kind0, ?_, fun j hj => cN' _ _ (by omega) (hD.nm0 j hj), fun j hj => cN' _ _ (by omega) (hD.nm1 j hj), fun j hj => cN' _ _ (by omega) (hD.nm4 j hj), fun j hj => cN' _ _ (by omega) (hD.nx j hj), fun j hj => ?_⟩, hM', ?_, (hT'.lt gt rfl).2⟩
  · rw [h']; simp
  · rw [h']; simp
  · rw [h']; simp
  · refine cN 2 _ ?_
    rw [List.getElem?_set_self (by simp; omega)]
    congr 2
  · obtain ⟨h3, h4⟩ := hD.tx j hj
    refine ⟨by omega, fun i hi => cT _ _ ?_⟩
    rw [h4 i hi, strCells_get _ _ hi]
  · rw [h']
    exact (hB.alloc hB.size _).alloc (by simp; have := hB.size; omega) _

end Go.Proofs.Ybulkcyvy
