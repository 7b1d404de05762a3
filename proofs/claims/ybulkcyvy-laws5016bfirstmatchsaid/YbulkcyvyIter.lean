import Derived.RangeFuncNested
import Derived.RangeFuncBound
import Derived.RangeFuncCalls
import Derived.RangeFuncLeaves
import Derived.Shelf.Abstract
import Derived.Shelf.RegionOpen
import Derived.WalkKit
import Derived.OwnWalkIn
import Derived.TacticsInMore
import Derived.LoopNIn
import Derived.LoopIn
import Derived.Sort.QuietIn
import Derived.Test.YbulkcyvyName
namespace Go.Proofs.Ybulkcyvy
open Go.RowKit Go.Shelf
attribute [local go_sem] Oper.semAt_some
theorem wideFn (f : Nat) : Fence.wide.fn f := trivial
attribute [local go_sem] wideFn

/-- The members' numbers. -/
abbrev Mem (k : Nat) := { j : Nat // j < k }
/-- The first i of them, in order. -/
def upTo (k : Nat) : (i : Nat) → i ≤ k → List (Mem k)
  | 0, _ => []
  | i + 1, h => upTo k i (Nat.le_of_succ_le h) ++ [⟨i, h⟩]
theorem upTo_length (k : Nat) : ∀ (i : Nat) (h : i ≤ k), (upTo k i h).length = i
  | 0, _ => rfl
  | i + 1, h => by simp [upTo, upTo_length k i]
theorem upTo_prefix (k : Nat) : ∀ (m i : Nat) (h : i ≤ k) (_ : m = k - i), upTo k i h <+: upTo k k (Nat.le_refl k)
  | 0, i, h, _hm => by
    obtain rfl : i = k := by omega
    exact ⟨[], by simp⟩
  | m + 1, i, h, _hm => by
    obtain ⟨t, ht⟩ := upTo_prefix k m (i + 1) (by omega) (by omega)
    exact ⟨⟨i, by omega⟩ :: t, by rw [← ht]; simp [upTo]⟩

/-- The document's four blocks lie below B. -/
structure Low (B d gb gn gt : Nat) : Prop where
  d : d < B
  gb : gb < B
  gn : gn < B
  gt : gt < B
theorem DocAt.keep {B : Nat} {w w' : World} {f : Nat → Int} {k d gb gn cn gt nt ct : Nat} {st : Nat → Nat} (h : DocAt w f k d gb gn cn gt nt ct st) (hl : Low B d gb gn gt) (hb : Below B w w') : DocAt w' f k d gb gn cn gt nt ct st := by
  have c : ∀ {p : Addr} {v : Value}, p.block < B → w.cell? p = some v → w'.cell? p = some v := fun hp h => (hb.cell hp).trans h
  exact ⟨c hl.d h.text, c hl.d h.blocks, c hl.gb h.row, h.tle, h.tbd, c hl.gn h.kind0, c hl.gn h.next0, fun j hj => c hl.gn (h.nm0 j hj), fun j hj => c hl.gn (h.nm1 j hj),
    fun j hj => c hl.gn (h.nm4 j hj), fun j hj => c hl.gn (h.nx j hj), fun j hj => ⟨(h.tx j hj).1, fun i hi => c hl.gt ((h.tx j hj).2 i hi)⟩⟩
theorem DocAt.low {w : World} {f : Nat → Int} {k d gb gn cn gt nt ct : Nat} {st : Nat → Nat} (h : DocAt w f k d gb gn cn gt nt ct st) (ht : gt < w.heap.size) : Low w.heap.size d gb gn gt :=
  ⟨World.block_lt_of_cell? _ _ h.text, World.block_lt_of_cell? _ _ h.row, World.block_lt_of_cell? _ _ h.kind0, ht⟩

set_option maxRecDepth 100000 in
set_option maxHeartbeats 2000000 in
theorem children1_in (n : Nat) (hn : 1 ≤ n) (l Bn n₀ : Nat) {f : Nat → Int} {k d gb gn cn gt nt ct : Nat} {st : Nat → Nat} (hk : k ≤ 1000) (hlow : Low n₀ d gb gn gt) (J Jx : List (Mem k) → World → Prop)
    (hY : ∀ pre x W, J pre W → pre.length < k → YieldAt Fence.wide (n - 1) Yba.prog l #[.int .u32 (2 * (x.1 : Int) + 1)] W fun e W' =>
      (e = .returned (.bool true) ∧ J (pre ++ [x]) W' ∧ Below n₀ W W') ∨ (e = .returned (.bool false) ∧ Jx (pre ++ [x]) W'))
    {B : Nat} (hJ : AbidesFrom B J) (W : World) (hB0 : W.cell? ⟨Bn, 0, none⟩ = some (.pointer (some ⟨d, 0, none⟩))) (hB1 : W.cell? ⟨Bn, 1, none⟩ = some (.int .u32 0)) (hD : DocAt W f k d gb gn cn gt nt ct st) (h0 : J [] W) :
    CallsIn Fence.wide n Yba.prog 13 #[.func (.yield l) #[] #[], .pointer (some ⟨Bn, 0, none⟩)] W fun e W' => (∃ v, e = .returned v) ∧
      ((∃ ys, ys = upTo k k (Nat.le_refl k) ∧ J ys W') ∨ (∃ pre, pre <+: upTo k k (Nat.le_refl k) ∧ Jx pre W')) := by
  refine callsIn_of_wp Yba.func13 rfl trivial ?_ rfl
  simp only [Yba.ntmps13, List.size_toArray, List.length_cons, List.length_nil, Nat.reduceAdd, Nat.reduceSub, Array.replicate_succ, Array.replicate_zero, List.push_toArray, List.append_toArray, List.nil_append, List.cons_append]
  have hJN : ∀ q, J [] (W.drewN q) := fun q => hJ [] W _ none h0 (Below.grownBy (belowN (Below.refl _ _) q)) (fun r e => by cases e)
  have hkd := hD.kind0
  have hnx := hD.next0
  gi_wp2
  gi_quiet ((gi_at_call 12; refine CallsIn.quiet_of_same (callsIn_wide.2 (at_any (hD.drewN _) hk 0 0 (by omega) (by omega) (by omega)))))
  have hDN := hD.drewN nq
  have hJ0 := hJN nq
  clear hJN hD
  gi_wp2
  gi_loopw [6] (fun p wr => ∃ (i : Nat) (hi : i ≤ k), p = .int .u32 (2 * (i : Int) + 1) ∧ DocAt wr f k d gb gn cn gt nt ct st ∧ J (upTo k i hi) wr) (fun p _ => 2 * k + 1 - (intOf p).toNat)
  case atStart => exact ⟨0, Nat.zero_le _, rfl, hDN, hJ0⟩
  case round =>
    obtain ⟨i, hi, rfl, hDr, hJr⟩ := hrel
    have hnxr : wr.cell? ⟨gn, 2, none⟩ = some (.int .u32 (2 * (k : Int) + 1)) := hDr.next0
    by_cases hlt : i < k
    · have hlt' : 2 * (i : Int) + 1 < 2 * (k : Int) + 1 := by omega
      obtain ⟨fn, tmps, assign, body, hy, hR⟩ := hY (upTo k i hi) ⟨i, hlt⟩ wr hJr (by rw [upTo_length]; exact hlt)
      dsimp only at hy
      gi_wp2
      refine hR.mono ?_
      rintro e W3 (⟨rfl, hJ3, hk3⟩ | ⟨rfl, hJx3⟩)
      · have hD3 := hDr.keep hlow hk3
        have hnx3 : W3.cell? ⟨gn, 5 * (2 * i + 2) + 2, none⟩ = some (.int .u32 (2 * (i : Int) + 3)) := hD3.nx i hlt
        gi_wp2_with fail
        refine (callsIn_wide.2 (at_any hD3 hk _ (5 * (2 * i + 2)) (by omega) (by omega) (by omega))).mono ?_
        rintro e w' ⟨rfl, rfl⟩
        gi_wp2
        go_roundw
        case rel => exact ⟨i + 1, hlt, by go_num, hD3, hJ3⟩
        case measure => simp [intOf]; omega
      · gi_wp2
        refine bodyPost_ret (results_none rfl _ _ _) rfl ?_
        exact ⟨⟨_, rfl⟩, .inr ⟨_, upTo_prefix k (k - (i + 1)) (i + 1) hlt rfl, hJx3⟩⟩
    · obtain rfl : i = k := by omega
      gi_wp2
      go_end0
      exact ⟨⟨_, rfl⟩, .inl ⟨_, rfl, hJr⟩⟩

set_option maxHeartbeats 1000000 in
/-- v.children(): the value is boxed; the function value captures the box. -/
theorem children_in (n : Nat) (v0 v1 : Value) (w : World) :
    CallsIn Fence.wide n Yba.prog 10 #[.agg #[v0, v1]] w fun e w' => e = .returned (.func (.func 13) #[] #[.pointer (some ⟨w.heap.size, 0, none⟩)]) ∧ w' = w.alloc (.cells #[v0, v1] 30) := by
  refine callsIn_of_wp Yba.func10 rfl trivial ?_ rfl
  simp only [Yba.ntmps10, List.size_toArray, List.length_cons, List.length_nil, Nat.reduceAdd, Nat.reduceSub, Array.replicate_succ, Array.replicate_zero, List.push_toArray, List.append_toArray, List.nil_append, List.cons_append]
  gi_wp2
  go_ret
  exact ⟨rfl, rfl⟩

theorem children_stops (n : Nat) (hn : 1 ≤ n) (Bn n₀ : Nat) {f : Nat → Int} {k d gb gn cn gt nt ct : Nat} {st : Nat → Nat} (hk : k ≤ 1000) (hlow : Low n₀ d gb gn gt) (w : World)
    (hB0 : w.cell? ⟨Bn, 0, none⟩ = some (.pointer (some ⟨d, 0, none⟩))) (hB1 : w.cell? ⟨Bn, 1, none⟩ = some (.int .u32 0)) (hD : DocAt w f k d gb gn cn gt nt ct st) :
    SeqStopsK Fence.wide n Yba.prog 13 #[.pointer (some ⟨Bn, 0, none⟩)] (fun x : Mem k => #[Value.int .u32 (2 * (x.1 : Int) + 1)]) (Below n₀) (fun ys => ys = upTo k k (Nat.le_refl k)) (fun pre => pre <+: upTo k k (Nat.le_refl k)) k w :=
  fun l J Jx W hW hJ _ hY h0 =>
  children1_in n hn l Bn n₀ hk hlow J Jx hY hJ W (cell_later hW hB0) (cell_later hW hB1) (hD.later hW) h0
end Go.Proofs.Ybulkcyvy
