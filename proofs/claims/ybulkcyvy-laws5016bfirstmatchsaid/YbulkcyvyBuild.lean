import Derived.Test.YbulkcyvyDoc
import Derived.Deep.CutRange
import Derived.Deep.CutBlock
namespace Go.Proofs.Ybulkcyvy
open Go.RowKit

theorem five_cells {a b c d e : Value} (ha : a.oneCell' = true) (hb : b.oneCell' = true) (hc : c.oneCell' = true) (hd : d.oneCell' = true) (he : e.oneCell' = true) : ∀ x ∈ [a, b, c, d, e], x.oneCell' = true := by
  intro x hx
  simp only [List.mem_cons, List.not_mem_nil, or_false] at hx
  rcases hx with rfl | rfl | rfl | rfl | rfl <;> assumption
theorem two_cells {a b : Value} (ha : a.oneCell' = true) (hb : b.oneCell' = true) : ∀ x ∈ [a, b], x.oneCell' = true := by
  intro x hx
  simp only [List.mem_cons, List.not_mem_nil, or_false] at hx
  rcases hx with rfl | rfl <;> assumption

theorem st_start {w w0 : World} {len : Nat} (hown : w0.ownsRow w.heap.size 9 1 (.slice (some ⟨w.heap.size + 1 + 1, 0, none⟩) 0 len) 0 [])
    (hg : ((w.alloc (.cells #[.int .u8 123] 5)).alloc (.cells #[.int .u32 0, .int .u32 0, .int .u32 0, .int .u8 6, .bool false] 36)).grownBy w0 none) :
    BSt w w0 (.slice (some ⟨w.heap.size, 0, none⟩) 1 1) (.slice (some ⟨w.heap.size + 1, 0, none⟩) 1 1) (.slice (some ⟨w.heap.size + 1 + 1, 0, none⟩) 0 len) 1 [.int .u8 123] 1 (nodeC 0 0 0 6 false) 0 [] := by
  have h1 := (World.ownsRow_lit (base := w.heap.size) (e := 5) (size := 1) w #[.int .u8 123] 1 (Nat.le_refl _) (by unfold maxLen; omega) rfl).alloc (.cells #[.int .u32 0, .int .u32 0, .int .u32 0, .int .u8 6, .bool false] 36)
  have h2 := World.ownsRow_lit (base := w.heap.size) (e := 36) (size := 5) (w.alloc (.cells #[.int .u8 123] 5)) #[.int .u32 0, .int .u32 0, .int .u32 0, .int .u8 6, .bool false] 1 (by simp) (by unfold maxLen; omega) rfl
  rw [World.size_alloc] at h2
  have hb : Below w.heap.size w ((w.alloc (.cells #[.int .u8 123] 5)).alloc (.cells #[.int .u32 0, .int .u32 0, .int .u32 0, .int .u8 6, .bool false] 36)) := ((Below.refl _ _).alloc (Nat.le_refl _) _).alloc (by simp) _
  exact ⟨h1.kept hg (Or.inr (by simp [Value.ownBlock])), h2.kept hg (Or.inr (by simp [Value.ownBlock])), hown, hb.grown hg hb.size (fun k h => by cases h)⟩

set_option maxHeartbeats 3200000 in
set_option maxRecDepth 100000 in
theorem build_any (ao : Option Addr) (len cap : Nat) (ns : List Int) (f : Nat → Int) (hf : ∀ j, f j = ns.getD j 0 % 6) (w : World) (hlen : len ≤ 1000)
    (hc : ∀ k, k < len → ∃ b off, ao = some ⟨b, off, none⟩ ∧ w.cell? ⟨b, off + k, none⟩ = some (.int .u8 (ns.getD k 0))) (hns : ∀ k, 0 ≤ ns.getD k 0 ∧ ns.getD k 0 ≤ 255) :
    Calls Yba.prog 5 #[.slice ao len cap] w fun e w' => ∃ (d gb gn cn gt nt ct : Nat) (st : Nat → Nat) (gm : Nat), e = .returned (.tuple #[.pointer (some ⟨d, 0, none⟩), .slice (some ⟨gm, 0, none⟩) len len]) ∧
      DocAt w' f len d gb gn cn gt nt ct st ∧ w'.ownsRow w.heap.size 9 1 (.slice (some ⟨gm, 0, none⟩) len len) len (namesOf f len) ∧ Below w.heap.size w w' ∧ gt < w'.heap.size := by
  obtain ⟨i5, hi5, z50, z51, z52⟩ := info_parts info5
  obtain ⟨i9, hi9, z90, z91, z92⟩ := info_parts info9
  obtain ⟨i36, hi36, z360, z361, z362⟩ := info_parts info36
  have Hc : Hid (∀ k, k < len → ∃ b off, ao = some ⟨b, off, none⟩ ∧ w.cell? ⟨b, off + k, none⟩ = some (.int .u8 (ns.getD k 0))) := hc
  have Hn : Hid (∀ k, 0 ≤ ns.getD k 0 ∧ ns.getD k 0 ≤ 255) := hns
  clear hc hns
  go_enter Yba.func5, Yba.ntmps5
  go_wp2_with (at_make; refine wpList_make_own _ rfl _ _ 24 rfl w.heap.size 9 i9 (.string ⟨#[]⟩) 1 Yba.underlying24 hi9 z90 z91 _ _ _ len rfl rfl (by omega) ?b2 ?b3 ?b4 ?_)
  case b2 => rw [z92]; omega
  case b3 => unfold maxLen; omega
  case b4 => simp; omega
  intro w0 hown0 hgrow0
  go_wp2
  have hst0 : BSt w w0 (.slice (some ⟨w.heap.size, 0, none⟩) 1 1) (.slice (some ⟨w.heap.size + 1, 0, none⟩) 1 1) (.slice (some ⟨w.heap.size + 1 + 1, 0, none⟩) 0 len) 1 [.int .u8 123] 1 (nodeC 0 0 0 6 false) 0 [] := st_start hown0 hgrow0
  have Hf : Hid (∀ j, f j = ns.getD j 0 % 6) := hf
  clear hf
  go_loopg [4, 5, 6, 24] len (fun g tv nv mv i wr => ∃ (k n : Nat) (T N : List Value) (st : Nat → Nat) (gt ct gn cn : Nat), k ≤ len ∧ g = len - k ∧ i = .int .i64 k ∧ tv = .slice (some ⟨gt, 0, none⟩) n ct ∧ nv = .slice (some ⟨gn, 0, none⟩) (2 * k + 1) cn ∧
      mv = .slice (some ⟨w.heap.size + 1 + 1, 0, none⟩) k len ∧ BSt w wr tv nv mv n T (2 * k + 1) N k (namesOf f k) ∧ DInv f k n T N st)
  case atStart => exact ⟨0, 1, _, _, _, _, _, _, _, Nat.zero_le _, rfl, rfl, rfl, rfl, rfl, hst0, DInv_start f⟩
  case round =>
    obtain ⟨k, n, T, N, st, gt, ct, gn, cn, hk, hgk, rfl, rfl, rfl, rfl, hS, hD⟩ := hrel
    have HG : Hid (gk = len - k) := hgk
    clear hgk hst0
    have htb := hD.tbd
    by_cases hlt : k < len
    · obtain ⟨b, off, rfl, hcw⟩ := Hc.out k hlt
      have hb8 := Hn.out k
      have Hfk : Hid (f k = ns.getD k 0 % 6) := Hf.out k
      generalize ns.getD k 0 = s at hcw hb8 Hfk
      have hcx : wr.cell? ⟨b, off + k, none⟩ = some (.int .u8 s) := (hS.bel.cell (by exact World.block_lt_of_cell? _ _ hcw)).trans hcw
      clear hcw
      go_upto_if 30 with fail
      go_cut [4, 24] from 24 to 104 (fun tv i wx => i = .int .i64 k ∧ ∃ (n1 : Nat) (pre : List Value) (gt ct : Nat), tv = .slice (some ⟨gt, 0, none⟩) n1 ct ∧ n1 = n + pre.length ∧ pre.length ≤ 1 ∧
        BSt w wx tv (.slice (some ⟨gn, 0, none⟩) (2 * k + 1) cn) (.slice (some ⟨w.heap.size + 1 + 1, 0, none⟩) k len) n1 (T ++ pre) (2 * k + 1) N k (namesOf f k))
      case first =>
        by_cases hk0 : 0 < k
        · go_wp2_with (at_builtin; refine wpList_append_own _ rfl (.tmp 31) (.tmp 32) 22 rfl w.heap.size 5 i5 (.int .u8 0) 1 1 Yba.underlying22 hi5 z50 z51 z52 rfl (by decide) _ n T rfl (hS.text.alloc _) ⟨wr.heap.size, 0, none⟩ 1 1 [.int .u8 44] rfl rfl cells_new (one_cell rfl) (by unfold maxLen; omega) (by omega) (by have := hS.bel.size; simp; omega) ?_; intro v1 w1 ho1 hg1 _)
          have hS1 := hS.pushT (below_alloc _ _) ho1 hg1
          obtain ⟨g1, c1, rfl, _⟩ := own_pos ho1 (by omega)
          go_wp2
          go_meet
          case rel => exact ⟨rfl, n + 1, [.int .u8 44], g1, c1, rfl, rfl, by decide, hS1⟩
        · go_wp2
          go_meet
          case rel => exact ⟨rfl, n, [], gt, ct, rfl, rfl, by decide, by simpa using hS⟩
      case rest =>
        obtain ⟨rfl, n1, pre, gt1, ct1, rfl, hn1, hpre, hS1⟩ := hcut
        have HN1 : Hid (n1 = n + pre.length) := hn1
        have hn1le : n1 ≤ n + 1 := by omega
        have hn1ge : 1 ≤ n1 := by have := hD.tpos; omega
        clear hn1 hS hcx
        have hr := raw_le (f k)
        go_wp2_with fail
        refine (name_any _ _ (by omega) (by omega)).mono ?_
        rintro e wd ⟨rfl, rfl⟩
        rw [← Hfk.out]
        generalize hraw : rawOf (f k) = raw at hr
        have Hraw : Hid (rawOf (f k) = raw) := hraw
        clear hraw
        go_upto_block 2 with (first
          | (at_builtin; refine wpList_append_fits _ rfl (.tmp 42) (.tmp 44) 24 rfl w.heap.size 9 i9 1 Yba.underlying24 hi9 z91 (w.heap.size + 1 + 1) k len _ rfl (hS1.names.alloc _) ⟨wd.heap.size, 0, none⟩ 1 1 [.string (decOf (f k))] rfl rfl cells_new (one_cell rfl) (by omega) ?_; intro w2 ho2 hg2; have hS2 := hS1.pushM (below_alloc _ _) ho2 hg2)
          | (at_builtin; refine wpList_append_own _ rfl (.tmp 48) (.tmp 49) 22 rfl w.heap.size 5 i5 (.int .u8 0) 1 1 Yba.underlying22 hi5 z50 z51 z52 rfl (by decide) _ n1 (T ++ pre) rfl (hS2.text.alloc _) ⟨w2.heap.size, 0, none⟩ 1 1 [.int .u8 34] rfl rfl cells_new (one_cell rfl) (by unfold maxLen; omega) (by omega) (by have := hS2.bel.size; simp; omega) ?_; intro v3 w3 ho3 hg3 _; have hS3 := hS2.pushT (below_alloc _ _) ho3 hg3; obtain ⟨g3, c3, rfl, _⟩ := own_pos ho3 (by omega))
          | (at_builtin; refine Lib.wpList_append_own_string _ rfl (.tmp 51) (.tmp 52) 22 9 rfl w.heap.size 5 i5 Yba.underlying22 Yba.underlying9 hi5 z50 z51 z52 _ (n1 + 1) _ rfl hS3.text raw rfl (by unfold maxLen; omega) (by omega) (by have := hS3.bel.size; omega) ?_; intro v4 w4 ho4 hg4 _; have hS4 := hS3.pushT (Below.refl _ _) ho4 hg4; obtain ⟨g4, c4, rfl, _⟩ := own_pos ho4 (by omega))
          | (at_builtin; refine wpList_append_own _ rfl (.tmp 54) (.tmp 55) 22 rfl w.heap.size 5 i5 (.int .u8 0) 1 1 Yba.underlying22 hi5 z50 z51 z52 rfl (by decide) _ (n1 + 1 + raw.size) _ rfl (hS4.text.alloc _) ⟨w4.heap.size, 0, none⟩ 1 1 [.int .u8 34] rfl rfl cells_new (one_cell rfl) (by unfold maxLen; omega) (by omega) (by have := hS4.bel.size; simp; omega) ?_; intro v5 w5 ho5 hg5 _; have hS5 := hS4.pushT (below_alloc _ _) ho5 hg5; obtain ⟨g5, c5, rfl, _⟩ := own_pos ho5 (by omega))
          | (at_builtin; refine wpList_append_own _ rfl (.tmp 60) (.tmp 70) 37 rfl w.heap.size 36 i36 (.agg #[.int .u32 0, .int .u32 0, .int .u32 0, .int .u8 0, .bool false]) 5 16 Yba.underlying37 hi36 z360 z361 z362 rfl (by decide) _ (2 * k + 1) N rfl (hS5.nodes.alloc _) ⟨w5.heap.size, 0, none⟩ 1 1 [.int .u32 (n1 : Int), .int .u32 ((n1 : Int) + 1 + (raw.size : Int) + 1), .int .u32 (2 * (k : Int) + 1 + 1), .int .u8 4, .bool (escOf (f k))] rfl rfl cells_new (five_cells rfl rfl rfl rfl rfl) (by unfold maxLen; omega) (by omega) (by have := hS5.bel.size; simp; omega) ?_; intro v6 w6 ho6 hg6 _; have hS6 := hS5.pushN (below_alloc _ _) ho6 hg6; obtain ⟨g6, c6, rfl, _⟩ := own_pos ho6 (by omega))
          | (at_builtin; refine wpList_append_own _ rfl (.tmp 72) (.tmp 73) 22 rfl w.heap.size 5 i5 (.int .u8 0) 1 1 Yba.underlying22 hi5 z50 z51 z52 rfl (by decide) _ (n1 + 1 + raw.size + 1) _ rfl (hS6.text.alloc _) ⟨w6.heap.size, 0, none⟩ 1 1 [.int .u8 58] rfl rfl cells_new (one_cell rfl) (by unfold maxLen; omega) (by omega) (by have := hS6.bel.size; simp; omega) ?_; intro v7 w7 ho7 hg7 _; have hS7 := hS6.pushT (below_alloc _ _) ho7 hg7; obtain ⟨g7, c7, rfl, _⟩ := own_pos ho7 (by omega)))
        clear hS1 hS2 hS3 hS4 hS5 hS6 ho2 ho3 ho4 ho5 ho6 ho7 hg2 hg3 hg4 hg5 hg6 hg7
        go_cut [4, 15, 24] from 24 to 104 (fun tv kd i wx => i = .int .i64 k ∧ ∃ (val : List Value) (g c : Nat) (kn : Int), val.length ≤ 4 ∧ kd = .int .u8 kn ∧ tv = .slice (some ⟨g, 0, none⟩) (n1 + 1 + raw.size + 1 + 1 + val.length) c ∧
          BSt w wx tv (.slice (some ⟨g6, 0, none⟩) (2 * k + 1 + 1) c6) (.slice (some ⟨w.heap.size + 1 + 1, 0, none⟩) (k + 1) len) (n1 + 1 + raw.size + 1 + 1 + val.length) (T ++ pre ++ [.int .u8 34] ++ Lib.strCells raw ++ [.int .u8 34] ++ [.int .u8 58] ++ val) (2 * k + 1 + 1)
            (N ++ [.int .u32 (n1 : Int), .int .u32 ((n1 : Int) + 1 + (raw.size : Int) + 1), .int .u32 (2 * (k : Int) + 1 + 1), .int .u8 4, .bool (escOf (f k))]) (k + 1) (namesOf f k ++ [.string (decOf (f k))]))
        case first =>
          by_cases h0 : s / 6 % 3 = 0
          · have h0' : (s / 6 % 3 == 0) = true := by simp [h0]
            clear h0
            go_wp2_with (at_builtin; refine wpList_append_own _ rfl (.tmp 85) (.tmp 86) 22 rfl w.heap.size 5 i5 (.int .u8 0) 1 1 Yba.underlying22 hi5 z50 z51 z52 rfl (by decide) _ (n1 + 1 + raw.size + 1 + 1) _ rfl (hS7.text.alloc _) ⟨w7.heap.size, 0, none⟩ 1 1 [.int .u8 48] rfl rfl cells_new (one_cell rfl) (by unfold maxLen; omega) (by omega) (by have := hS7.bel.size; simp; omega) ?_; intro v8 w8 ho8 hg8 _; have hS8 := hS7.pushT (below_alloc _ _) ho8 hg8; obtain ⟨g8, c8, rfl, _⟩ := own_pos ho8 (by omega))
            go_meet
            case rel => exact ⟨rfl, [.int .u8 48], g8, c8, 3, by decide, rfl, rfl, hS8⟩
          · have h0' : (s / 6 % 3 == 0) = false := by simp [h0]
            by_cases h1 : s / 6 % 3 = 1
            · have h1' : (s / 6 % 3 == 1) = true := by simp [h1]
              clear h0 h1
              go_wp2_with (at_builtin; refine Lib.wpList_append_own_string _ rfl (.tmp 90) (.const (.string ⟨#[110, 117, 108, 108]⟩)) 22 9 rfl w.heap.size 5 i5 Yba.underlying22 Yba.underlying9 hi5 z50 z51 z52 _ (n1 + 1 + raw.size + 1 + 1) _ rfl hS7.text ⟨#[110, 117, 108, 108]⟩ rfl (by show _ + 4 ≤ maxLen; unfold maxLen; omega) (by show _ + 4 ≤ _; omega) (by have := hS7.bel.size; omega) ?_; intro v8 w8 ho8 hg8 _; have hS8 := hS7.pushT (Below.refl _ _) ho8 hg8; obtain ⟨g8, c8, rfl, _⟩ := own_pos ho8 (by omega))
              go_meet
              case rel => exact ⟨rfl, Lib.strCells ⟨#[110, 117, 108, 108]⟩, g8, c8, 1, by decide, rfl, rfl, hS8⟩
            · have h1' : (s / 6 % 3 == 1) = false := by simp [h1]
              clear h0 h1
              go_wp2_with (at_builtin; refine wpList_append_own _ rfl (.tmp 80) (.tmp 81) 22 rfl w.heap.size 5 i5 (.int .u8 0) 1 1 Yba.underlying22 hi5 z50 z51 z52 rfl (by decide) _ (n1 + 1 + raw.size + 1 + 1) _ rfl (hS7.text.alloc _) ⟨w7.heap.size, 0, none⟩ 2 2 [.int .u8 123, .int .u8 125] rfl rfl cells_new (two_cells rfl rfl) (by unfold maxLen; omega) (by omega) (by have := hS7.bel.size; simp; omega) ?_; intro v8 w8 ho8 hg8 _; have hS8 := hS7.pushT (below_alloc _ _) ho8 hg8; obtain ⟨g8, c8, rfl, _⟩ := own_pos ho8 (by omega))
              go_meet
              case rel => exact ⟨rfl, [.int .u8 123, .int .u8 125], g8, c8, 6, by decide, rfl, rfl, hS8⟩
        case rest =>
          obtain ⟨rfl, val, g8, c8, kn, hval, rfl, rfl, hS8⟩ := hcut
          clear hS7
          go_wp2_with (at_builtin; refine wpList_append_own _ rfl (.tmp 92) (.tmp 102) 37 rfl w.heap.size 36 i36 (.agg #[.int .u32 0, .int .u32 0, .int .u32 0, .int .u8 0, .bool false]) 5 16 Yba.underlying37 hi36 z360 z361 z362 rfl (by decide) _ (2 * k + 1 + 1) _ rfl (hS8.nodes.alloc _) ⟨wc.heap.size, 0, none⟩ 1 1 [.int .u32 ((n1 : Int) + 1 + (raw.size : Int) + 1 + 1), .int .u32 ((n1 : Int) + 1 + (raw.size : Int) + 1 + 1 + (val.length : Int)), .int .u32 (2 * (k : Int) + 1 + 2), .int .u8 kn, .bool false] rfl rfl cells_new (five_cells rfl rfl rfl rfl rfl) (by unfold maxLen; omega) (by omega) (by have := hS8.bel.size; simp; omega) ?_; intro v9 w9 ho9 hg9 _; have hS9 := hS8.pushN (below_alloc _ _) ho9 hg9; obtain ⟨g9, c9, rfl, _⟩ := own_pos ho9 (by omega))
          clear hS8 ho9 hg9
          go_roundg (len - (k + 1))
          case measure => rw [HG.out]; omega
          case rel =>
            rw [← namesOf_succ] at hS9
            exact ⟨k + 1, n1 + 1 + raw.size + 1 + 1 + val.length, _, _, _, g8, c8, g9, c9, by omega, rfl, by go_num, rfl, rfl, rfl, hS9, hD.step' pre val hpre hval kn n1 HN1.out raw Hraw.out⟩
    · have hk' : k = len := by omega
      subst hk'
      have hnl := hD.nlen
      obtain ⟨x1, hx1⟩ : ∃ x, N[1]? = some x := ⟨_, List.getElem?_eq_getElem (by omega)⟩
      obtain ⟨x2, hx2⟩ : ∃ x, N[2]? = some x := ⟨_, List.getElem?_eq_getElem (by omega)⟩
      have Hx1 : Hid (N[1]? = some x1) := hx1
      have Hx2 : Hid (N[2]? = some x2) := hx2
      clear hx1 hx2 hnl
      go_wp2_with (at_builtin; refine wpList_append_own _ rfl (.tmp 105) (.tmp 106) 22 rfl w.heap.size 5 i5 (.int .u8 0) 1 1 Yba.underlying22 hi5 z50 z51 z52 rfl (by decide) _ n T rfl (hS.text.alloc _) ⟨wr.heap.size, 0, none⟩ 1 1 [.int .u8 125] rfl rfl cells_new (one_cell rfl) (by unfold maxLen; omega) (by omega) (by have := hS.bel.size; simp; omega) ?_; intro v1 w1 ho1 hg1 _; have hS1 := hS.pushT (below_alloc _ _) ho1 hg1; obtain ⟨g1, c1, rfl, hc1, _⟩ := own_pos ho1 (by omega); have hx1 := (hS1.nodes.cellAt 1 (by omega)).trans Hx1.out; have hx2 := (hS1.nodes.cellAt 2 (by omega)).trans Hx2.out; have hy1 := hS1.nodes.frozenAt 1; have hy2 := hS1.nodes.frozenAt 2)
      go_ret2
      obtain ⟨q1, q2, q3, q4⟩ := doc_made hD hc1 hS1 _ _ rfl rfl
      simp only [World.size_setCell] at q1 q2 q3 q4
      exact ⟨_, _, _, _, _, _, _, _, _, rfl, q1, q2, q3, q4⟩
end Go.Proofs.Ybulkcyvy
