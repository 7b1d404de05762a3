import Derived.Test.YbulkcyssDoorJoinIs
import Derived.OneCell
namespace Go.Proofs.YbulkcyssDoor
open Go.RowKit Go.Extern.Stop Go.Stop Go.Extern

theorem info23 : (Ybad.prog.info? 23).map (fun i => (i.zero, i.size, i.bytes)) = some (some .nilIface, 1, 16) := by kernel_rfl

/-- Not nil. -/
def nn : Value → Bool
  | .nilIface => false
  | _ => true
/-- nil, or an interface value. -/
def IsErr (v : Value) : Prop := v = .nilIface ∨ ∃ t x, v = .iface t x

theorem filter_take {xs : List Value} {k : Nat} (hk : k < xs.length) : (xs.take (k + 1)).filter nn = (xs.take k).filter nn ++ (if nn xs[k] then [xs[k]] else []) := by
  rw [List.take_succ_eq_append_getElem hk, List.filter_append]
  simp [List.filter_cons]
theorem filter_take_le (xs : List Value) (k : Nat) : ((xs.take k).filter nn).length ≤ k :=
  Nat.le_trans (List.length_filter_le _ _) (List.length_take_le _ _)
theorem filter_take_all {xs : List Value} {k : Nat} (hk : xs.length ≤ k) : (xs.take k).filter nn = xs.filter nn := by
  rw [List.take_of_length_le hk]
theorem filter_take_mono (xs : List Value) (k : Nat) : ((xs.take k).filter nn).length ≤ (xs.filter nn).length := by
  exact (List.Sublist.filter nn (List.take_sublist k xs)).length_le

/-- The second loop's relation: what has been gathered lies in the row at g2, whose slice value lies in the cell at J. -/
structure JRel (w wr : World) (xs : List Value) (k g2 J : Nat) : Prop where
  cell : wr.cell? ⟨J, 0, none⟩ = some (.slice (some ⟨g2, 0, none⟩) ((xs.take k).filter nn).length (xs.filter nn).length)
  frz : wr.frozen? ⟨J, 0, none⟩ = false
  own : wr.ownsRow w.heap.size 23 1 (.slice (some ⟨g2, 0, none⟩) ((xs.take k).filter nn).length (xs.filter nn).length) ((xs.take k).filter nn).length ((xs.take k).filter nn)
  bel : Below w.heap.size w wr
  lt : J < wr.heap.size
  ge : w.heap.size ≤ J

theorem JRel_start {w w0 : World} {xs : List Value} (hown : w0.ownsRow w.heap.size 23 1 (.slice (some ⟨w.heap.size, 0, none⟩) 0 (xs.filter nn).length) 0 []) (hb : Below w.heap.size w w0) :
    JRel w (w0.alloc (.cells #[.slice (some ⟨w.heap.size, 0, none⟩) 0 (xs.filter nn).length] 38)) xs 0 w.heap.size w0.heap.size :=
  ⟨by simp, by unfold World.frozen?; rw [(MapKept.heap_alloc w0 _).1]; rfl, by simpa using hown.alloc _, hb.alloc hb.size _, by simp, hb.size⟩

theorem JRel_skip {w wr : World} {xs : List Value} {k g2 J : Nat} (h : JRel w wr xs k g2 J) (hk : k < xs.length) (he : xs[k] = .nilIface) : JRel w wr xs (k + 1) g2 J := by
  have e : (xs.take (k + 1)).filter nn = (xs.take k).filter nn := by rw [filter_take hk, he]; simp [nn]
  exact ⟨by rw [e]; exact h.cell, h.frz, by rw [e]; exact h.own, h.bel, h.lt, h.ge⟩

theorem JRel_mid {w wr w1 : World} {xs : List Value} {k J : Nat} {o : Obj} (h : JRel w wr xs k w.heap.size J) (hJ : w.heap.size < J) (hg : (wr.alloc o).grownBy w1 (some w.heap.size)) :
    w1.cell? ⟨J, 0, none⟩ = some (.slice (some ⟨w.heap.size, 0, none⟩) ((xs.take k).filter nn).length (xs.filter nn).length) ∧ w1.frozen? ⟨J, 0, none⟩ = false := by
  have hblk : w1.heap[J]? = wr.heap[J]? := by
    rw [hg.block J (by simp; have := h.lt; omega) (by simp; omega)]
    exact (MapKept.heap_alloc wr o).2 J h.lt
  exact ⟨(World.cell?_of_block (a := ⟨J, 0, none⟩) hblk).trans h.cell, (World.frozen?_of_block (a := ⟨J, 0, none⟩) hblk).trans h.frz⟩

theorem JRel_push {w wr w1 : World} {xs : List Value} {k J : Nat} {o : Obj} {t : TypeId} {x : Value} (h : JRel w wr xs k w.heap.size J) (hJ : w.heap.size < J) (hk : k < xs.length) (he : xs[k] = .iface t x)
    (hown : w1.ownsRow w.heap.size 23 1 (.slice (some ⟨w.heap.size, 0, none⟩) (((xs.take k).filter nn).length + 1) (xs.filter nn).length) (((xs.take k).filter nn).length + 1) ((xs.take k).filter nn ++ [.iface t x]))
    (hg : (wr.alloc o).grownBy w1 (some w.heap.size)) :
    JRel w (w1.setCell ⟨J, 0, none⟩ (.slice (some ⟨w.heap.size, 0, none⟩) (((xs.take k).filter nn).length + 1) (xs.filter nn).length)) xs (k + 1) w.heap.size J := by
  have e : (xs.take (k + 1)).filter nn = (xs.take k).filter nn ++ [.iface t x] := by rw [filter_take hk, he]; simp [nn]
  have el : ((xs.take (k + 1)).filter nn).length = ((xs.take k).filter nn).length + 1 := by rw [e]; simp
  obtain ⟨hc, hf⟩ := JRel_mid h hJ hg
  have hlt : J < w1.heap.size := lt_of_cell hc
  refine ⟨?_, ?_, ?_, ?_, by simpa [World.setCell] using hlt, h.ge⟩
  · rw [el]
    exact World.cell?_setCell_same _ _ _ hc
  · rw [World.frozen?_setCell]
    exact hf
  · rw [el, e]
    exact ownsRow_setCell_other hown (by simp [Value.ownBlock]; omega) _
  · exact ((h.bel.alloc h.bel.size o).grown hg (by simp; have := h.bel.size; omega) (fun k hk => by cases hk; exact Nat.le_refl _)).setCell (by exact h.ge) _

theorem filter_take_room {xs : List Value} {k : Nat} (hk : k < xs.length) (he : nn xs[k] = true) : ((xs.take k).filter nn).length + 1 ≤ (xs.filter nn).length := by
  have h1 := filter_take hk
  have h2 := filter_take_mono xs (k + 1)
  rw [h1, he] at h2
  simpa using h2

set_option maxHeartbeats 1000000 in
theorem join_any (g cap base : Nat) (xs : List Value) (w : World) (hlen : xs.length ≤ 1024) (hown : w.ownsRow base 23 1 (.slice (some ⟨g, 0, none⟩) xs.length cap) xs.length xs) (hx : ∀ x ∈ xs, IsErr x) :
    Calls Ybad.prog 7 #[.slice (some ⟨g, 0, none⟩) xs.length cap] w fun e w' =>
      (xs.filter nn = [] ∧ e = .returned .nilIface ∧ w' = w) ∨
      (xs.filter nn ≠ [] ∧ ∃ J g2 cap2, e = .returned (.iface 36 (.pointer (some ⟨J, 0, none⟩))) ∧ w'.cell? ⟨J, 0, none⟩ = some (.slice (some ⟨g2, 0, none⟩) (xs.filter nn).length cap2) ∧
        w'.ownsRow w.heap.size 23 1 (.slice (some ⟨g2, 0, none⟩) (xs.filter nn).length cap2) (xs.filter nn).length (xs.filter nn) ∧ Below w.heap.size w w') := by
  obtain ⟨i0, hi, hz0, hz1, hz2⟩ := info_parts info23
  have hglt : g < w.heap.size := (hown.lt g rfl).2
  have hc : ∀ k (h : k < xs.length), w.cell? ⟨g, k, none⟩ = some xs[k] := fun k h => by
    rw [hown.cellAt k (by omega)]; simp [h]
  have Hc : Hid (∀ k (h : k < xs.length), w.cell? ⟨g, k, none⟩ = some xs[k]) := hc
  clear hc
  go_enter Ybad.func7, Ybad.ntmps7
  go_wp2
  go_loopg [3, 11] xs.length (fun gk n i wr => w = wr ∧ ∃ k : Nat, k ≤ xs.length ∧ gk = xs.length - k ∧ i = .int .i64 k ∧ n = .int .i64 ((xs.take k).filter nn).length)
  case atStart => exact ⟨rfl, 0, Nat.zero_le _, rfl, rfl, by simp⟩
  case round =>
    obtain ⟨rfl, k, hk, hgk, rfl, rfl⟩ := hrel
    have HG : Hid (gk = xs.length - k) := hgk
    clear hgk
    have hfl := filter_take_le xs k
    by_cases hlt : k < xs.length
    · have hcx := Hc.out k hlt
      have HF : Hid ((xs.take (k + 1)).filter nn = (xs.take k).filter nn ++ (if nn xs[k] then [xs[k]] else [])) := filter_take hlt
      rcases hx xs[k] (List.getElem_mem hlt) with he | ⟨t, x, he⟩
      · rw [he] at hcx
        have HN : Hid (xs[k] = .nilIface) := he
        clear he
        go_wp2
        go_roundg (xs.length - (k + 1))
        case measure => rw [HG.out]; omega
        case rel => exact ⟨rfl, k + 1, by omega, rfl, by go_num, by rw [HF.out, HN.out]; simp [nn]⟩
      · rw [he] at hcx
        have HN : Hid (xs[k] = .iface t x) := he
        clear he
        go_wp2
        go_roundg (xs.length - (k + 1))
        case measure => rw [HG.out]; omega
        case rel => exact ⟨rfl, k + 1, by omega, rfl, by go_num, by rw [HF.out, HN.out]; simp [nn]⟩
    · have hk' : k = xs.length := by omega
      subst hk'
      rw [filter_take_all (Nat.le_refl _)] at hfl ⊢
      by_cases h0 : xs.filter nn = []
      · have H0 : Hid (xs.filter nn = []) := h0
        rw [h0]
        clear h0
        go_wp2
        go_ret
        exact Or.inl ⟨H0.out, rfl, rfl⟩
      · have H0 : Hid (xs.filter nn ≠ []) := h0
        have hpos : 0 < (xs.filter nn).length := by
          rcases hq : xs.filter nn with _ | ⟨q, r⟩
          · exact absurd hq h0
          · simp
        clear h0
        have hz' : (((xs.filter nn).length : Int) == 0) = false := by rw [beq_eq_false_iff_ne]; omega
        go_wp2_with (at_make; refine wpList_make_own _ rfl _ _ 31 rfl w.heap.size 23 i0 .nilIface 1 Ybad.underlying31 hi hz0 hz1 _ _ _ (xs.filter nn).length rfl rfl (by omega) ?b2 ?b3 (Nat.le_refl _) ?_)
        case b2 => rw [hz2]; omega
        case b3 => unfold maxLen; omega
        intro w0 hown0 hgrow0
        go_wp2
        have hlt0 : w.heap.size < w0.heap.size := (hown0.lt w.heap.size rfl).2
        have hbel0 : Below w.heap.size w w0 := (Below.refl _ _).grown hgrow0 (Nat.le_refl _) (fun k h => by cases h)
        go_loopg [28] xs.length (fun gk i wr => ∃ k : Nat, k ≤ xs.length ∧ gk = xs.length - k ∧ i = .int .i64 k ∧ JRel w wr xs k w.heap.size w0.heap.size)
        case atStart => exact ⟨0, Nat.zero_le _, rfl, rfl, JRel_start hown0 hbel0⟩
        case round =>
          obtain ⟨k, hk, hgk, rfl, hR⟩ := hrel
          have HG : Hid (gk = xs.length - k) := hgk
          clear hgk
          have hfl := filter_take_le xs k
          have hfm := filter_take_mono xs k
          by_cases hlt : k < xs.length
          · have hcx : wr.cell? ⟨g, k, none⟩ = some xs[k] := (hR.bel.cell (by exact hglt)).trans (Hc.out k hlt)
            have hJc := hR.cell
            have hJf := hR.frz
            rcases hx xs[k] (List.getElem_mem hlt) with he | ⟨t, x, he⟩
            · rw [he] at hcx
              have HR : Hid (JRel w wr xs (k + 1) w.heap.size w0.heap.size) := JRel_skip hR hlt he
              clear he
              go_wp2
              go_roundg (xs.length - (k + 1))
              case measure => rw [HG.out]; omega
              case rel => exact ⟨k + 1, by omega, rfl, by go_num, HR.out⟩
            · rw [he] at hcx
              have hroom := filter_take_room hlt (by rw [he]; rfl)
              have HE : Hid (xs[k] = .iface t x) := he
              clear he
              have hJlt := hR.lt
              go_wp2_with (at_builtin; refine wpList_append_fits _ rfl (.tmp 38) (.tmp 40) 31 rfl w.heap.size 23 i0 1 Ybad.underlying31 hi hz1 w.heap.size ((xs.take k).filter nn).length (xs.filter nn).length _ rfl (hR.own.alloc _) ⟨wr.heap.size, 0, none⟩ 1 1 [.iface t x] rfl rfl ?c1 ?c2 ?c3 ?_)
              case c1 =>
                intro j u hj
                match j, hj with
                | 0, hj => simp at hj; subst hj; simp [Addr.add]
              case c2 => intro u hu; simp at hu; subst hu; rfl
              case c3 => exact hroom
              intro w1 hown1 hgrow1
              obtain ⟨hc1, hf1⟩ := JRel_mid hR hlt0 hgrow1
              go_wp2
              go_roundg (xs.length - (k + 1))
              case measure => rw [HG.out]; omega
              case rel => exact ⟨k + 1, by omega, rfl, by go_num, JRel_push hR hlt0 hlt HE.out hown1 hgrow1⟩
          · have hk' : k = xs.length := by omega
            subst hk'
            go_wp2
            go_ret
            have hfin := hR.own
            have hfc := hR.cell
            rw [filter_take_all (Nat.le_refl _)] at hfin hfc
            exact Or.inr ⟨H0.out, w0.heap.size, w.heap.size, (xs.filter nn).length, rfl, hfc, hfin, hR.bel⟩
end Go.Proofs.YbulkcyssDoor
