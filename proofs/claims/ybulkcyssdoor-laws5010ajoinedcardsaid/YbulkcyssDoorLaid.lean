import Derived.Test.YbulkcyssDoorRows
import Derived.Test.YbulkcyssDoorPick
import Derived.ProofKit
import Derived.LaidMore
import Derived.LaidLaws
import Derived.OpenShut
import Derived.ShutString
import Derived.Stop.Joined
import Derived.Stop.LaidErr
namespace Go.Proofs.YbulkcyssDoor
open Go.ChangeShapes Go.WideShapes Go.ChangeAt Go.RowKit

theorem own : ownKnob Ybad.prog.godebug = none := by kernel_rfl
theorem laidOut : laidOutB Ybad.prog = true := by kernel_rfl
/-- The name of the i-th listed variable. -/
def vn (i : Nat) : String := Rows.lawS5010AChainSpec.vars.getD i ""
theorem g0 : Ybad.prog.globalNamed (vn 0) = some 0 := by kernel_rfl
theorem g1 : Ybad.prog.globalNamed (vn 1) = some 1 := by kernel_rfl
theorem g2 : Ybad.prog.globalNamed (vn 2) = some 2 := by kernel_rfl
theorem g3 : Ybad.prog.globalNamed (vn 3) = some 3 := by kernel_rfl
theorem g4 : Ybad.prog.globalNamed (vn 4) = some 4 := by kernel_rfl
theorem g5 : Ybad.prog.globalNamed (vn 5) = some 5 := by kernel_rfl
theorem g6 : Ybad.prog.globalNamed (vn 6) = some 6 := by kernel_rfl
theorem ty0 : (Ybad.prog.globals[0]?).map (·.type) = some 23 := by kernel_rfl
theorem ty1 : (Ybad.prog.globals[1]?).map (·.type) = some 23 := by kernel_rfl
theorem ty2 : (Ybad.prog.globals[2]?).map (·.type) = some 23 := by kernel_rfl
theorem ty3 : (Ybad.prog.globals[3]?).map (·.type) = some 23 := by kernel_rfl
theorem ty4 : (Ybad.prog.globals[4]?).map (·.type) = some 23 := by kernel_rfl
theorem ty5 : (Ybad.prog.globals[5]?).map (·.type) = some 23 := by kernel_rfl
theorem ty6 : (Ybad.prog.globals[6]?).map (·.type) = some 23 := by kernel_rfl
theorem cells41 : Ybad.prog.cellsOf 41 = 1 := by kernel_rfl
theorem cells9 : Ybad.prog.cellsOf 9 = 1 := by kernel_rfl
/-- The name of errors.New's type, as the listed data bear it. -/
def en : String := "errors.errorString"
def sn : String := match (Rows.laid_example_com_nimble_signet_nimble_signet_sigv4_ErrBodyTooLarge : DataW Unit) with | .iface t _ => t | _ => ""
theorem star : "*" ++ en = sn := by decide
theorem row39 (u : TypeId) (h : Ybad.prog.typeName? 3 u = some sn) : u = 39 :=
  typeName_ptr_named (nm := en) (by rw [star]; kernel_rfl) (by kernel_rfl) (by decide) u (by rw [star]; exact h)

/-- One listed sentinel and the rest of the list, with the places written out. -/
theorem laid_head {n : String} {text : List UInt8} {r : List (String × DataW Unit)} {W : World} {g : Nat} {ps : List MemPlace}
    (h : DataW.LaidVars Ybad.prog W ((n, .iface sn (.ptr (.agg [.lit (.string text)]))) :: r) ps)
    (hg : Ybad.prog.globalNamed n = some g) (ht : (Ybad.prog.globals[g]?).map (·.type) = some 23)
    (hrows : ∀ b off, MemPlace.cell b off ∈ ps → (∃ c t, W.heap[b]? = some (.cells c t (0, 0))) ∧ ∀ u v, W.cell? ⟨b, off, none⟩ = some (.iface u v) → Value.okWide Ybad.prog W .any 0 u v) :
    ∃ (a : Addr) (q : List MemPlace), W.var? Ybad.prog n = some #[.iface 39 (.pointer (some a))] ∧ W.cell? ⟨g, 0, none⟩ = some (.iface 39 (.pointer (some a))) ∧
      (∃ c t, W.heap[a.block]? = some (.cells c t (0, 0))) ∧ DataW.LaidVars Ybad.prog W r q ∧ ps = .cell g 0 :: .cell a.block a.off :: q := by
  obtain ⟨g0', t0', cs0, f0, p0, q0, hg0, ht0, hv0, hd0, hq, e0⟩ := h
  obtain rfl := Option.some.inj (hg.symm.trans hg0)
  obtain rfl := Option.some.inj (ht.symm.trans ht0)
  subst e0
  obtain ⟨l0⟩ := cs0
  have ok0 : ∀ u v, l0 = [.iface u v] → Value.okWide Ybad.prog W .any 0 u v := fun u v e => by
    subst e
    exact (hrows g 0 (by simp [MemPlace.row])).2 u v (by simpa using World.var?_cell hg0 hv0 0)
  obtain ⟨a, s, rfl, hc, hs, hz, rfl⟩ := errorString_of_trod Ybad.underlying23 row39 Ybad.underlying39 Ybad.underlying41 rfl rfl Ybad.underlying9 cells41 cells9 hd0 ok0
  refine ⟨a, q0, hv0, by simpa using World.var?_cell hg0 hv0 0, (hrows a.block a.off (by simp [MemPlace.row])).1, hq, by simp [MemPlace.row]⟩

theorem nodup_ne {x : MemPlace} {l : List MemPlace} (h : (x :: l).Nodup) {y : MemPlace} (hy : y ∈ l) : x ≠ y := by
  rintro rfl
  exact (List.nodup_cons.1 h).1 hy

/-- The listed sentinels, by number. -/
def pickA (a0 a1 a2 a3 a4 a5 a6 : Addr) : Nat → Addr
  | 0 => a0 | 1 => a1 | 2 => a2 | 3 => a3 | 4 => a4 | 5 => a5 | _ => a6

theorem sent_of_laid {W : World} (h0 : laidMetH Ybad.prog Rows.lawS5010AChainRow.laid W) :
    ∃ a : Nat → Addr, Sent W a ∧ ∀ i, i < 7 → W.var? Ybad.prog (vn i) = some #[.iface 39 (.pointer (some (a i)))] := by
  rw [MakeChecks.laidMetH_plain _ _ _ (by kernel_rfl)] at h0
  obtain ⟨ps, hl, hnd, hrows⟩ := h0
  obtain ⟨a0, q0, v0, c0, b0, hl0, e0⟩ := laid_head hl g0 ty0 hrows
  subst e0
  have hr0 := fun b off hm => hrows b off (List.mem_cons_of_mem _ (List.mem_cons_of_mem _ hm))
  obtain ⟨a1, q1, v1, c1, b1, hl1, e1⟩ := laid_head hl0 g1 ty1 hr0
  subst e1
  have hr1 := fun b off hm => hr0 b off (List.mem_cons_of_mem _ (List.mem_cons_of_mem _ hm))
  obtain ⟨a2, q2, v2, c2, b2, hl2, e2⟩ := laid_head hl1 g2 ty2 hr1
  subst e2
  have hr2 := fun b off hm => hr1 b off (List.mem_cons_of_mem _ (List.mem_cons_of_mem _ hm))
  obtain ⟨a3, q3, v3, c3, b3, hl3, e3⟩ := laid_head hl2 g3 ty3 hr2
  subst e3
  have hr3 := fun b off hm => hr2 b off (List.mem_cons_of_mem _ (List.mem_cons_of_mem _ hm))
  obtain ⟨a4, q4, v4, c4, b4, hl4, e4⟩ := laid_head hl3 g4 ty4 hr3
  subst e4
  have hr4 := fun b off hm => hr3 b off (List.mem_cons_of_mem _ (List.mem_cons_of_mem _ hm))
  obtain ⟨a5, q5, v5, c5, b5, hl5, e5⟩ := laid_head hl4 g5 ty5 hr4
  subst e5
  have hr5 := fun b off hm => hr4 b off (List.mem_cons_of_mem _ (List.mem_cons_of_mem _ hm))
  obtain ⟨a6, q6, v6, c6, b6, hl6, e6⟩ := laid_head hl5 g6 ty6 hr5
  subst e6
  have hne : a0 ≠ a5 ∧ a1 ≠ a5 ∧ a2 ≠ a5 ∧ a3 ≠ a5 ∧ a4 ≠ a5 ∧ a6 ≠ a5 := by
    refine ⟨?_, ?_, ?_, ?_, ?_, ?_⟩ <;> (rintro rfl; simp at hnd)
  obtain ⟨n0, n1, n2, n3, n4, n6⟩ := hne
  refine ⟨pickA a0 a1 a2 a3 a4 a5 a6, ⟨?_, ?_, ?_⟩, ?_⟩
  · intro i hi
    match i, hi with
    | 0, _ => exact c0
    | 1, _ => exact c1
    | 2, _ => exact c2
    | 3, _ => exact c3
    | 4, _ => exact c4
    | 5, _ => exact c5
    | 6, _ => exact c6
  · intro i hi
    match i, hi with
    | 0, _ => exact b0
    | 1, _ => exact b1
    | 2, _ => exact b2
    | 3, _ => exact b3
    | 4, _ => exact b4
    | 5, _ => exact b5
    | 6, _ => exact b6
  · intro i hi h5
    match i, hi, h5 with
    | 0, _, _ => exact n0
    | 1, _, _ => exact n1
    | 2, _, _ => exact n2
    | 3, _, _ => exact n3
    | 4, _, _ => exact n4
    | 5, _, h5 => exact absurd rfl h5
    | 6, _, _ => exact n6
  · intro i hi
    match i, hi with
    | 0, _ => exact v0
    | 1, _ => exact v1
    | 2, _ => exact v2
    | 3, _ => exact v3
    | 4, _ => exact v4
    | 5, _ => exact v5
    | 6, _ => exact v6

theorem var_later {W W' : World} (hb : Below W.heap.size W W') {n : String} {cs : Array Value} (h : W.var? Ybad.prog n = some cs) : W'.var? Ybad.prog n = some cs := by
  unfold World.var? at h ⊢
  cases hg : Ybad.prog.globalNamed n with
  | none => simp [hg] at h
  | some g =>
    simp only [hg, Option.bind_some] at h ⊢
    have hlt : g < W.heap.size := by
      rcases Nat.lt_or_ge g W.heap.size with h' | h'
      · exact h'
      · simp [Array.getElem?_eq_none h'] at h
    rw [hb.block g hlt]
    exact h

/-- The seven named variables read as tokens. -/
theorem vars_read {H : Type} (enc : TypeId × Value → H) {W : World} {a : Nat → Addr} (h : ∀ i, i < 7 → W.var? Ybad.prog (vn i) = some #[.iface 39 (.pointer (some (a i)))]) (sp : Nat → Bool) :
    DataW.TrodVars enc Ybad.prog W sp Rows.lawS5010AChainSpec.vars
      [tok enc (.iface 39 (.pointer (some (a 0)))), tok enc (.iface 39 (.pointer (some (a 1)))), tok enc (.iface 39 (.pointer (some (a 2)))), tok enc (.iface 39 (.pointer (some (a 3)))), tok enc (.iface 39 (.pointer (some (a 4)))), tok enc (.iface 39 (.pointer (some (a 5)))), tok enc (.iface 39 (.pointer (some (a 6))))]
      [.cell 0 0, .cell 1 0, .cell 2 0, .cell 3 0, .cell 4 0, .cell 5 0, .cell 6 0] :=
  ⟨0, 23, #[_], 1, [], _, g0, ty0, h 0 (by omega), trod_held Ybad.underlying23 (show IsIface (.iface 39 (.pointer (some (a 0)))) from trivial) 0,
   ⟨1, 23, #[_], 1, [], _, g1, ty1, h 1 (by omega), trod_held Ybad.underlying23 (show IsIface (.iface 39 (.pointer (some (a 1)))) from trivial) 0,
   ⟨2, 23, #[_], 1, [], _, g2, ty2, h 2 (by omega), trod_held Ybad.underlying23 (show IsIface (.iface 39 (.pointer (some (a 2)))) from trivial) 0,
   ⟨3, 23, #[_], 1, [], _, g3, ty3, h 3 (by omega), trod_held Ybad.underlying23 (show IsIface (.iface 39 (.pointer (some (a 3)))) from trivial) 0,
   ⟨4, 23, #[_], 1, [], _, g4, ty4, h 4 (by omega), trod_held Ybad.underlying23 (show IsIface (.iface 39 (.pointer (some (a 4)))) from trivial) 0,
   ⟨5, 23, #[_], 1, [], _, g5, ty5, h 5 (by omega), trod_held Ybad.underlying23 (show IsIface (.iface 39 (.pointer (some (a 5)))) from trivial) 0,
   ⟨6, 23, #[_], 1, [], _, g6, ty6, h 6 (by omega), trod_held Ybad.underlying23 (show IsIface (.iface 39 (.pointer (some (a 6)))) from trivial) 0, rfl, rfl⟩, rfl⟩, rfl⟩, rfl⟩, rfl⟩, rfl⟩, rfl⟩

/-- The door's own heap meets the condition. -/
theorem door_met (os : Os) (args : Array Value) : laidMetH Ybad.prog Rows.lawS5010AChainRow.laid ((World.doorLaid Ybad.prog 142 os).forCall (fun _ _ => 0) ⟨#[], args, []⟩).memory :=
  laidMetH_of_parts3 (fuel := 8) (laidMet_of_run' 8 (by kernel_rfl) (by kernel_rfl)) (by kernel_rfl) (by kernel_rfl)
end Go.Proofs.YbulkcyssDoor
