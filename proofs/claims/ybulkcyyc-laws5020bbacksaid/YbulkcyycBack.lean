import Derived.Test.YbulkcyycBackSt
namespace Go.Proofs.Ybulkcyyc
open Go.RowKit

set_option maxHeartbeats 3200000 in
set_option maxRecDepth 100000 in
theorem back_any (ao : Option Addr) (len cap : Nat) (ns : List Int) (w : World)
    (hc : ∀ k, k < len → ∃ b off, ao = some ⟨b, off, none⟩ ∧ w.cell? ⟨b, off + k, none⟩ = some (.int .u8 (ns.getD k 0))) (hns : ∀ k, 0 ≤ ns.getD k 0 ∧ ns.getD k 0 ≤ 255) :
    Calls Yba.prog 5 #[.slice ao len cap] w fun e w' => e = .returned (.bool true) ∧ Below w.heap.size w w' := by
  obtain ⟨i39, hi39, z390, z391, z392⟩ := info_parts info39
  have Hc : Hid (∀ k, k < len → ∃ b off, ao = some ⟨b, off, none⟩ ∧ w.cell? ⟨b, off + k, none⟩ = some (.int .u8 (ns.getD k 0))) := hc
  have Hn : Hid (∀ k, 0 ≤ ns.getD k 0 ∧ ns.getD k 0 ≤ 255) := hns
  clear hc hns
  by_cases hbig : 1024 < len
  · go_enter Yba.func5, Yba.ntmps5
    go_wp2
    go_ret
    exact ⟨rfl, Below.refl _ _⟩
  have hL0 : Blk (w.alloc (.cells #[.pointer none, .pointer none, .int .u64 0, .int .u64 0, .int .i64 0, .int .u64 0] 61)) w.heap.size 61 6 := ⟨_, (MapKept.heap_alloc w _).1, rfl⟩
  go_enter Yba.func5, Yba.ntmps5
  go_wp2_with fail
  obtain ⟨v0, h0⟩ := hL0.cell (o := 0) (by omega)
  obtain ⟨v1, h1⟩ := hL0.cell (o := 1) (by omega)
  refine (is_init _ _ (hL0.frozen _) (hL0.frozen _) v0 v1 h0 h1).mono ?_
  rintro e w1 ⟨rfl, hs, g0, g1⟩
  have g4 : w1.cell? ⟨w.heap.size, 4, none⟩ = some (.int .i64 0) := (hs.cell _ 4 (by simp)).trans (by rw [cell_of_row _ _ _ _ _ _ (MapKept.heap_alloc w _).1]; rfl)
  have g5 : w1.cell? ⟨w.heap.size, 5, none⟩ = some (.int .u64 0) := (hs.cell _ 5 (by simp)).trans (by rw [cell_of_row _ _ _ _ _ _ (MapKept.heap_alloc w _).1]; rfl)
  have hst : BB w w1 (.slice none 0 0) [] 0 := BB.start (hs.only (by simp)) (hs.blk _ _ _ hL0) g0 g1 g4 g5
  clear h0 h1 hs g0 g1 g5 hL0
  go_wp2_with fail
  refine (is_back_nil _ _ g4).mono ?_
  rintro e _ ⟨rfl, rfl⟩
  clear g4
  go_wp2
  go_loopg [4, 20] len (fun g mv i wr => ∃ (k : Nat) (bs : List Nat) (ma : Option Addr) (mc : Nat), k ≤ len ∧ g = len - k ∧ i = .int .i64 k ∧ mv = .slice ma bs.length mc ∧ BB w wr mv bs k)
  case atStart => exact ⟨0, [], _, _, Nat.zero_le _, rfl, rfl, rfl, hst⟩
  case round =>
    obtain ⟨k, bs, ma, mc, hk, hgk, rfl, rfl, hS⟩ := hrel
    have HG : Hid (gk = len - k) := hgk
    clear hgk hst
    by_cases hlt : k < len
    · obtain ⟨b, off, rfl, hcw⟩ := Hc.out k hlt
      have hb8 := Hn.out k
      generalize ns.getD k 0 = s at hcw hb8
      have hcx : wr.cell? ⟨b, off + k, none⟩ = some (.int .u8 s) := (hS.bel.cell (by exact World.block_lt_of_cell? _ _ hcw)).trans hcw
      clear hcw
      have hbl := hS.len
      go_upto_region 11 with fail
      go_cut [20, 32] from 20 to 83 (fun i c wx => i = .int .i64 k ∧ (∃ B : Bool, c = .bool B ∧ Hid (B = false → 0 < bs.length)) ∧ wx = wr)
      case first =>
        by_cases h3 : s % 3 = 2
        · have h3' : (s % 3 == 2) = true := by simp [h3]
          by_cases h0 : bs.length = 0
          · have h0' : ((bs.length : Int) == 0) = true := by simp [h0]
            go_wp2
            go_meet
            case rel => exact ⟨rfl, ⟨_, rfl, fun h => by cases h⟩, rfl⟩
          · have h0' : ((bs.length : Int) == 0) = false := by simp; exact fun h => h0 (by simp [h])
            go_wp2
            go_meet
            case rel => exact ⟨rfl, ⟨_, rfl, fun _ => by omega⟩, rfl⟩
        · have h3' : (s % 3 == 2) = false := by simp [h3]
          go_wp2
          go_meet
          case rel => exact ⟨rfl, ⟨_, rfl, fun h => by cases h⟩, rfl⟩
      case rest =>
        obtain ⟨rfl, ⟨B, rfl, hB⟩, rfl⟩ := hcut
        go_upto_if 32 with fail
        go_cut [4, 20] from 20 to 83 (fun mv i wx => i = .int .i64 k ∧ ∃ (bs' : List Nat) (ma : Option Addr) (mc : Nat), mv = .slice ma bs'.length mc ∧ BB w wx mv bs' (k + 1))
        case first =>
          cases B
          · have hb0 := hB.out rfl
            clear hB
            rcases id hS.row with ⟨_, hb⟩ | ⟨g, cap', cur, hv, hg, hlc, hmx, htk⟩
            · rw [hb] at hb0; simp at hb0
            simp only [Value.slice.injEq, true_and] at hv
            obtain ⟨rfl, rfl⟩ := hv
            obtain ⟨kk, hkk, hkl⟩ : ∃ kk : Nat, s / 3 % (bs.length : Int) = kk ∧ kk < bs.length := by
              have h1 := Int.emod_nonneg (s / 3) (b := (bs.length : Int)) (by omega)
              have h2 := Int.emod_lt_of_pos (s / 3) (b := (bs.length : Int)) (by omega)
              exact ⟨(s / 3 % (bs.length : Int)).toNat, by omega, by omega⟩
            have hcl := row_cell hg htk hkl
            obtain ⟨X, Y, hX, hXl⟩ : ∃ X Y, Hid (bs = X ++ bs[kk] :: Y) ∧ Hid (X.length = kk) := ⟨bs.take kk, bs.drop (kk + 1), by show bs = _; rw [List.getElem_cons_drop]; simp, by show (bs.take kk).length = kk; simp; omega⟩
            have Htk : Hid (cur.toList.take bs.length = ptrs bs) := htk
            clear htk
            generalize bs[kk] = n at hcl hX
            have hlen1 : bs.length ≤ 2000 := by omega
            have hl : LSt wc w.heap.size (X ++ n :: Y) := hX.out ▸ hS.l
            have hS' : BB w wc (.slice (some ⟨g, 0, none⟩) bs.length mc) (X ++ n :: Y) k := hX.out ▸ hS
            go_wp2_with fail
            refine (remove_list hl (by rw [← hX.out]; exact hlen1)).mono ?_
            rintro e w1 ⟨rfl, hl1, ho1⟩
            have hg1 : w1.heap[g]? = some (.cells cur 39 (0, 0)) := (ho1.block g (hl.not39 hg)).trans hg
            obtain ⟨A, hA, hnews⟩ := rest_cells hg1 Htk.out hX.out hXl.out hlc
            have hYl : Hid (Y.length = bs.length - (kk + 1)) := by
              have : bs.length = X.length + (Y.length + 1) := by rw [hX.out]; simp
              have := hXl.out
              show Y.length = _
              omega
            have s1 : Hid ((ptrs Y).length = (bs.length - (kk + 1)) * 1) := by
              show (ptrs Y).length = _
              rw [← hYl.out]; simp [ptrs]
            have hic : kk ≤ mc := by omega
            have hwr : IntKind.i64.wrap ((kk : Int) + 1) = (kk : Int) + 1 := by rw [IntKind.wrap_i64]; omega
            have hp0 : (0 : Int) ≤ (kk : Int) + 1 := by omega
            have hp1 : (kk : Int) + 1 ≤ (bs.length : Int) := by omega
            have hp2 : ((kk : Int) + 1).toNat = kk + 1 := by omega
            have hsl : X.length + Y.length = kk + (bs.length - (kk + 1)) := by have := hXl.out; have := hYl.out; omega
            have Hsl : Hid (X.length + Y.length = kk + (bs.length - (kk + 1))) := hsl
            clear hsl hcl
            go_upto_region 17 with fail
            by_cases hlast : kk + 1 = bs.length
            · have hroom : Hid (kk + (bs.length - (kk + 1)) ≤ kk) := by show _ ≤ _; omega
              have hY0 : Hid (Y = []) := List.length_eq_zero_iff.1 (by have := hYl.out; omega)
              have s3 : Hid (∀ j, j < (ptrs Y).length → (w1.drew.cell? ⟨g, 0 + kk * 1 + j, none⟩).isSome = true ∧ w1.drew.frozen? ⟨g, 0 + kk * 1 + j, none⟩ = false) := by
                intro j hj
                rw [hY0.out] at hj
                simp [ptrs] at hj
              have hend : BB w w1.drew (.slice (some ⟨g, 0, none⟩) X.length X.length) (X ++ Y) (k + 1) := by
                refine hS'.pull hl1 ho1 ((Below.refl _ _).drew) ?_
                have := row_take (w := w1.drew) (X := X) (Y := n :: Y) hg1 (by rw [← hX.out]; exact Htk.out) (by have := hXl.out; omega)
                rw [hY0.out, List.append_nil]
                exact this
              have Hend : Hid (BB w (w1.drew.setCells g kk (ptrs Y)) (.slice (some ⟨g, 0, none⟩) (kk + (bs.length - (kk + 1))) kk) (X ++ Y) (k + 1)) := by
                show BB _ _ _ _ _
                rw [hY0.out] at hend ⊢
                rw [← Hsl.out, hY0.out, ← hXl.out]
                exact hend
              clear hlast hend hp1
              have hp1 : (kk : Int) + 1 ≤ (bs.length : Int) := by omega
              go_region_law (refine step_append_room rfl (.tmp 58) (.tmp 62) 63 rfl 39 i39 1 Yba.underlying63 hi39 z391 g 0 kk kk (by simp [Act.eval, Act.put]) A (bs.length - (kk + 1)) (mc - (kk + 1)) (ptrs Y) (by simp [Act.eval, Act.put]) s1.out hnews.out (ptrs_one _) hroom.out s3.out ?_)
              all_goals go_wp2
              all_goals go_meet
              all_goals exact ⟨rfl, X ++ Y, some ⟨g, 0, none⟩, kk, by rw [List.length_append, Hsl.out], Hend.out⟩
            · have hfull : kk < kk + (bs.length - (kk + 1)) := by omega
              have Hop : Hid (∀ v' w', w'.ownsRow w1.drew.heap.size 39 1 v' (kk + (bs.length - (kk + 1))) (ptrs X ++ ptrs Y) → w1.drew.grownBy w' none → BB w w' v' (X ++ Y) (k + 1)) := by
                intro v' w' ho hgr
                refine hS'.pull hl1 ho1 ((Below.refl w1.heap.size w1).drew.grown hgr (Nat.le_refl _) (fun j hj => by cases hj)) (MRow.of_own (base := w1.drew.heap.size) (n := kk + (bs.length - (kk + 1))) ?_)
                simpa [ptrs] using ho
              have holds : Hid (∀ b, some (⟨g, 0, none⟩ : Addr) = some b → ∀ j u, (ptrs X)[j]? = some u → w1.drew.cell? (b.add j) = some u) := by
                intro b hb j u hu
                cases hb
                have hj : j < X.length := by
                  have := (List.getElem?_eq_some_iff.1 hu).1
                  simpa [ptrs] using this
                have hXk := hXl.out
                rw [Addr.add_lit, Nat.zero_add, World.cell?_drew, row_cell hg1 Htk.out (by omega : j < bs.length), ← hu, ptrs_get hj]
                have : bs[j]? = X[j]? := by rw [hX.out, List.getElem?_append_left hj]
                rw [List.getElem?_eq_getElem (by omega), List.getElem?_eq_getElem hj, Option.some.injEq] at this
                rw [this]
              have slo : Hid ((ptrs X).length = kk * 1) := by
                show (ptrs X).length = _
                rw [← hXl.out]; simp [ptrs]
              go_region_law (refine step_append_grows rfl (.tmp 58) (.tmp 62) 63 rfl 39 i39 (.pointer none) 1 8 Yba.underlying63 hi39 z390 z391 z392 rfl (by decide) (some ⟨g, 0, none⟩) kk kk (ptrs X) (by simp [Act.eval, Act.put]) (fun h => by cases h) slo.out holds.out A (bs.length - (kk + 1)) (mc - (kk + 1)) (ptrs Y) (by simp [Act.eval, Act.put]) s1.out hnews.out (ptrs_one _) hfull (by unfold maxLen; omega) (by omega) ?_; intro v2 w2 ho2 hg2)
              all_goals
                obtain ⟨g2, c2, rfl, _⟩ : ∃ g cap, v2 = .slice (some ⟨g, 0, none⟩) (kk + (bs.length - (kk + 1))) cap ∧ True := by
                  rcases ho2.2 with ⟨_, h0⟩ | ⟨g, cap, cur, hv, _⟩
                  · omega
                  · exact ⟨g, cap, hv, trivial⟩
                have Hend := Hop.out _ _ ho2 hg2
                go_wp2
                go_meet
              all_goals exact ⟨rfl, X ++ Y, some ⟨g2, 0, none⟩, c2, by rw [List.length_append, Hsl.out], Hend⟩
          · clear hB
            have hfr := hS.fresh
            go_wp2_with fail
            refine (push_list (hS.l.below (below_alloc _ (newNode ((k : Int) + 1)))) (new_blk _ _) hfr _ (new_cost _ _) (by omega)).mono ?_
            rintro e w1 ⟨rfl, hl1, ho1⟩
            have hr1 := hS.rowPush ho1
            rcases id hr1 with ⟨hv, hb⟩ | ⟨g, cap', cur, hv, hg, hlc, hmx, htk⟩
            · subst hb
              simp only [Value.slice.injEq] at hv
              obtain ⟨rfl, _, rfl⟩ := hv
              go_wp2_with (at_builtin; refine wpList_append_own_none rfl (.tmp 41) (.tmp 42) 63 rfl w1.heap.size 39 i39 1 Yba.underlying63 hi39 (.slice (some ⟨w1.heap.size, 0, none⟩) 1 1) 1 (ptrs [wc.heap.size]) rfl (World.ownsRow_lit w1 #[.pointer (some ⟨wc.heap.size, 0, none⟩)] 1 (Nat.le_refl _) (by unfold maxLen; omega) rfl) rfl ?_)
              go_meet
              case rel => exact ⟨rfl, [wc.heap.size], _, _, rfl, hS.push hl1 ho1 (below_alloc _ _) (MRow.of_own (World.ownsRow_lit w1 #[.pointer (some ⟨wc.heap.size, 0, none⟩)] 1 (Nat.le_refl _) (by unfold maxLen; omega) rfl))⟩
            · simp only [Value.slice.injEq, true_and] at hv
              obtain ⟨rfl, rfl⟩ := hv
              have Hg : Hid (∀ j u, (ptrs bs)[j]? = some u → (w1.alloc (.cells #[.pointer (some ⟨wc.heap.size, 0, none⟩)] 39)).cell? ((⟨g, 0, none⟩ : Addr).add j) = some u) := by
                intro j u hu
                have hj : j < bs.length := by
                  have := (List.getElem?_eq_some_iff.1 hu).1
                  simpa [ptrs] using this
                rw [Addr.add_lit, Nat.zero_add, row_cell (w := w1.alloc _) (by rw [(below_alloc w1 _).block g (lt_of_block hg)]; exact hg) htk hj, ← ptrs_get hj, hu]
              have Htk : Hid (cur.toList.take bs.length = ptrs bs) := htk
              clear htk
              go_wp2_with (at_builtin; refine wpList_append_own _ rfl (.tmp 41) (.tmp 42) 63 rfl w1.heap.size 39 i39 (.pointer none) 1 8 Yba.underlying63 hi39 z390 z391 z392 rfl (by decide) (.slice (some ⟨w1.heap.size, 0, none⟩) 1 1) 1 (ptrs [wc.heap.size]) rfl (World.ownsRow_lit w1 #[.pointer (some ⟨wc.heap.size, 0, none⟩)] 1 (Nat.le_refl _) (by unfold maxLen; omega) rfl) ⟨g, 0, none⟩ bs.length mc (ptrs bs) rfl (by simp [ptrs]) Hg.out (ptrs_one _) (by unfold maxLen; omega) (by omega) (by simp) ?_; intro v2 w2 ho2 hg2 _)
              obtain ⟨g2, c2, rfl, _⟩ : ∃ g cap, v2 = .slice (some ⟨g, 0, none⟩) (1 + bs.length) cap ∧ True := by
                rcases ho2.2 with ⟨_, h0⟩ | ⟨g, cap, cur, hv, _⟩
                · omega
                · exact ⟨g, cap, hv, trivial⟩
              go_wp2
              go_meet
              case rel => exact ⟨rfl, wc.heap.size :: bs, _, _, by rw [List.length_cons, Nat.add_comm], hS.push hl1 ho1 ((below_alloc _ _).grown hg2 (by simp) (fun j hj => by simp [Value.ownBlock] at hj; omega)) (MRow.of_own ho2)⟩
        case rest =>
          obtain ⟨rfl, bs', ma', mc', rfl, hS'⟩ := hcut
          have hlen' := hS'.l.len
          have hbl' := hS'.len
          clear hS hbl hcx
          by_cases hnil : bs' = []
          · subst hnil
            go_wp2_with fail
            refine (is_back_nil _ _ hlen').mono ?_
            rintro e _ ⟨rfl, rfl⟩
            go_wp2
            go_roundg (len - (k + 1))
            case measure => rw [HG.out]; omega
            case rel => exact ⟨k + 1, [], _, _, by omega, rfl, by go_num, rfl, hS'⟩
          · obtain ⟨X, b', hX⟩ : ∃ X b', Hid (bs' = X ++ [b']) := ⟨bs'.dropLast, bs'.getLast hnil, (List.dropLast_concat_getLast hnil).symm⟩
            have hpos : 0 < bs'.length := List.length_pos_iff.2 hnil
            rcases id hS'.row with ⟨_, hb⟩ | ⟨g, cap', cur, hv, hg, hlc, hmx, htk⟩
            · exact absurd hb hnil
            simp only [Value.slice.injEq, true_and] at hv
            obtain ⟨rfl, rfl⟩ := hv
            have hlast : bs'[bs'.length - 1]? = some b' := by
              have e : bs'.length - 1 = X.length := by rw [hX.out]; simp
              rw [e]
              conv => lhs; rw [hX.out]
              simp
            have hcl := row_cell hg htk (by omega : bs'.length - 1 < bs'.length)
            rw [List.getElem?_eq_getElem (by omega), Option.some.injEq] at hlast
            rw [hlast] at hcl
            have hback : wc.cell? ⟨w.heap.size, 0, none⟩ = some (.pointer (some ⟨b', 0, none⟩)) := (show LSt wc w.heap.size (X ++ [b']) from hX.out ▸ hS'.l).back
            obtain ⟨i41, hi41, _⟩ := info41
            have hne := fun W => Lib.run_neq_ptr_same (P := Yba.prog) (w := W) (tp := 39) (te := 41) ⟨b', 0, none⟩ Yba.underlying39 hi41
            clear htk hlast hnil
            have hq0 : (0 : Int) ≤ (bs'.length : Int) - 1 := by omega
            have hq1 : (bs'.length : Int) - 1 < (bs'.length : Int) := by omega
            have hq2 : ((bs'.length : Int) - 1).toNat = bs'.length - 1 := by omega
            go_wp2_with fail
            refine (is_back_some _ _ _ _ hlen' (by omega) hback).mono ?_
            rintro e _ ⟨rfl, rfl⟩
            go_wp2
            go_roundg (len - (k + 1))
            case measure => rw [HG.out]; omega
            case rel => exact ⟨k + 1, bs', _, _, by omega, rfl, by go_num, rfl, hS'⟩
    · have hbl := hS.len
      go_wp2_with fail
      refine (back_list hS.l).mono ?_
      rintro e _ ⟨rfl, rfl⟩
      clear HG
      go_wp2
      go_loopg [10, 11] bs.length (fun g cur j wx => ∃ (X Y : List Nat), Hid (bs = X ++ Y) ∧ g = X.length ∧ cur = .pointer (curP X) ∧ j = .int .i64 ((X.length : Int) - 1) ∧ BB w wx (.slice ma bs.length mc) bs k)
      case atStart => exact ⟨bs, [], (List.append_nil _).symm, rfl, rfl, rfl, hS⟩
      case round =>
        obtain ⟨X, Y, hXY, hgk, rfl, rfl, hR⟩ := hrel
        clear hS
        rcases snoc_cases X with rfl | ⟨X', b', rfl⟩
        · rw [curP_nil]
          go_wp2
          go_ret
          exact ⟨rfl, hR.bel⟩
        · rw [curP_snoc]
          have hlX : bs.length = X'.length + 1 + Y.length := by
            rw [hXY.out]
            simp only [List.length_append, List.length_cons, List.length_nil]
          have hb' : bs[X'.length]? = some b' := by rw [hXY.out]; simp
          rcases id hR.row with ⟨_, hb⟩ | ⟨g, cap', cur, hv, hg, hlc, hmx, htk⟩
          · have h0 : bs.length = 0 := by rw [hb]; rfl
            omega
          simp only [Value.slice.injEq, true_and] at hv
          obtain ⟨rfl, rfl⟩ := hv
          have hcl := row_cell hg htk (by omega : X'.length < bs.length)
          rw [List.getElem?_eq_getElem (by omega), Option.some.injEq] at hb'
          rw [hb'] at hcl
          obtain ⟨i41, hi41, _⟩ := info41
          have hne := fun W => Lib.run_neq_ptr_same (P := Yba.prog) (w := W) (tp := 39) (te := 41) ⟨b', 0, none⟩ Yba.underlying39 hi41
          have hl : LSt wr w.heap.size (X' ++ b' :: Y) := by
            have e : X' ++ b' :: Y = bs := by rw [hXY.out]; simp
            rw [e]; exact hR.l
          have hj : ((X' ++ [b']).length : Int) - 1 = (X'.length : Int) := by simp
          rw [hj]
          have hq : X'.length < bs.length := by omega
          have Hgk : Hid (gk = X'.length + 1) := by show gk = _; rw [hgk]; simp
          clear hj hgk hb' htk hlX
          go_wp2_with fail
          refine (ahead_list hl).mono ?_
          rintro e _ ⟨rfl, rfl⟩
          go_wp2
          go_roundg X'.length
          case measure => rw [Hgk.out]; omega
          case rel => exact ⟨X', b' :: Y, by show bs = _; rw [hXY.out]; simp, rfl, rfl, rfl, hR.drew⟩
end Go.Proofs.Ybulkcyyc
