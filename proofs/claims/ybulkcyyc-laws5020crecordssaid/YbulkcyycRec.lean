import Derived.Test.YbulkcyycNeq
import Derived.Test.YbulkcyycMixSt
namespace Go.Proofs.Ybulkcyyc
open Go.RowKit

/-- What the i-th read records. -/
def rdOf (nz : List Bool) (nlen : Nat) (nd : Addr) (hz : List Int) (hlen : Nat) (base : Int) (i : Nat) : Rd := ⟨nodeOf nz nlen nd i, hashOf hz hlen i, countOf base i, true⟩
/-- The slots behind m reads. -/
def Vrec (nz : List Bool) (nlen : Nat) (nd : Addr) (hz : List Int) (hlen : Nat) (base : Int) (m : Nat) : Nat → Rd := fun j => if j < m then rdOf nz nlen nd hz hlen base j else ⟨none, 0, 0, false⟩
theorem Vrec_upd (nz : List Bool) (nlen : Nat) (nd : Addr) (hz : List Int) (hlen : Nat) (base : Int) (m : Nat) : upd (Vrec nz nlen nd hz hlen base m) m (rdOf nz nlen nd hz hlen base m) = Vrec nz nlen nd hz hlen base (m + 1) := by
  funext j
  unfold upd Vrec
  by_cases e : j = m
  · subst e; simp
  · by_cases h : j < m
    · rw [if_neg e, if_pos h, if_pos (by omega)]
    · rw [if_neg e, if_neg h, if_neg (by omega)]
theorem Vrec_zero (nz : List Bool) (nlen : Nat) (nd : Addr) (hz : List Int) (hlen : Nat) (base : Int) : Vrec nz nlen nd hz hlen base 0 = V0 := by
  funext j
  simp [Vrec, V0]
theorem nilOf_pos {nz : List Bool} {nlen i : Nat} (h : 0 < nlen) : nilOf nz nlen i = nz.getD (i % nlen) false := by simp [nilOf, h]
theorem nilOf_zero {nz : List Bool} {i : Nat} : nilOf nz 0 i = false := by simp [nilOf]

/-- The cells of the two slices, as any later world has them. -/
structure Ins (w : World) (ho : Option Addr) (hlen : Nat) (hz : List Int) (no : Option Addr) (nlen : Nat) (nz : List Bool) : Prop where
  hs : ∀ k, k < hlen → ∃ b off, ho = some ⟨b, off, none⟩ ∧ w.cell? ⟨b, off + k, none⟩ = some (.int .u64 (hz.getD k 0))
  ns : ∀ k, k < nlen → ∃ b off, no = some ⟨b, off, none⟩ ∧ w.cell? ⟨b, off + k, none⟩ = some (.bool (nz.getD k false))
theorem Ins.later {w w' : World} {ho no : Option Addr} {hlen nlen : Nat} {hz : List Int} {nz : List Bool} (h : Ins w ho hlen hz no nlen nz) (hb : Below w.heap.size w w') : Ins w' ho hlen hz no nlen nz := by
  refine ⟨fun k hk => ?_, fun k hk => ?_⟩
  · obtain ⟨b, off, e, hc⟩ := h.hs k hk
    exact ⟨b, off, e, (hb.cell (by exact World.block_lt_of_cell? _ _ hc)).trans hc⟩
  · obtain ⟨b, off, e, hc⟩ := h.ns k hk
    exact ⟨b, off, e, (hb.cell (by exact World.block_lt_of_cell? _ _ hc)).trans hc⟩

set_option maxRecDepth 100000 in
set_option maxHeartbeats 3200000 in
theorem rec_any (a0 : Int) (ho : Option Addr) (hlen hcap : Nat) (hz : List Int) (base : Int) (no : Option Addr) (nlen ncap : Nat) (nz : List Bool) (w : World) (ha0 : 0 ≤ a0 ∧ a0 ≤ 65535) (hins : Ins w ho hlen hz no nlen nz) :
    Calls Yba.prog 6 #[.int .u16 a0, .slice ho hlen hcap, .int .u64 base, .slice no nlen ncap] w fun e w' => e = .returned (.bool true) ∧ Below w.heap.size w w' := by
  have Hins : Hid (Ins w ho hlen hz no nlen nz) := hins
  clear hins
  by_cases hbig : 1024 < hlen
  · go_enter Yba.func6, Yba.ntmps6
    go_wp2
    go_ret
    exact ⟨rfl, Below.refl _ _⟩
  by_cases hbig2 : 1024 < nlen
  · go_enter Yba.func6, Yba.ntmps6
    go_wp2
    go_ret
    exact ⟨rfl, Below.refl _ _⟩
  obtain ⟨kk, hkk, hkl⟩ : ∃ p : Nat, a0 % 2100 = p ∧ p < 2100 := ⟨(a0 % 2100).toNat, by omega, by omega⟩
  go_enter Yba.func6, Yba.ntmps6
  go_wp2_with fail
  refine (new_any _).mono ?_
  rintro e w1 ⟨rfl, hR, hbw⟩
  have hlt1 := hR.bG.lt
  go_wp2_with fail
  clear hkk
  have hb0 : Below w.heap.size w ((w1.alloc (.cells #[.pointer none, .pointer none, .int .u64 7, .int .u64 1] 41)).alloc (.cells #[.int .u64 0] 28)) := (hbw.alloc hbw.size _).alloc (by simp; have := hbw.size; omega) _
  have hb1 : Below w1.heap.size w1 ((w1.alloc (.cells #[.pointer none, .pointer none, .int .u64 7, .int .u64 1] 41)).alloc (.cells #[.int .u64 0] 28)) := ((Below.refl _ _).alloc (Nat.le_refl _) _).alloc (by simp) _
  have hB0 : ((w1.alloc (.cells #[.pointer none, .pointer none, .int .u64 7, .int .u64 1] 41)).alloc (.cells #[.int .u64 0] 28)).heap[w1.heap.size + 1]? = some (.cells #[.int .u64 0] 28 (0, 0)) := by
    have := (MapKept.heap_alloc (w1.alloc (.cells #[.pointer none, .pointer none, .int .u64 7, .int .u64 1] 41)) (.cells #[.int .u64 0] 28)).1
    rw [World.size_alloc] at this
    exact this
  have hst : RSt ((w1.alloc (.cells #[.pointer none, .pointer none, .int .u64 7, .int .u64 1] 41)).alloc (.cells #[.int .u64 0] 28)) w.heap.size (w.heap.size + 1) 0 0 0 (Vrec nz nlen ⟨w1.heap.size, 0, none⟩ hz hlen base 0) := by
    rw [Vrec_zero]
    exact hR.below hb1
  have hge : w.heap.size + 1 < w1.heap.size := hlt1
  have cB0 := cell_of_row _ _ 0 _ _ _ hB0
  have fB0 := frozen_of_row _ _ 0 _ _ hB0
  clear hR hlt1 hb1 hB0 hbw
  generalize w1.heap.size = n at hge hst cB0 fB0 ⊢
  go_loopg [13] kk (fun g i wr => ∃ (k m : Nat), k ≤ kk ∧ g = kk - k ∧ i = .int .i64 k ∧ Hid (m = min k 1024) ∧ RSt wr w.heap.size (w.heap.size + 1) m 0 k (Vrec nz nlen ⟨n, 0, none⟩ hz hlen base m) ∧ Below w.heap.size w wr ∧ (∃ c, wr.cell? ⟨n + 1, 0, none⟩ = some (.int .u64 c)) ∧ wr.frozen? ⟨n + 1, 0, none⟩ = false)
  case atStart => exact ⟨0, 0, by omega, rfl, rfl, rfl, hst, hb0, ⟨0, cB0⟩, fB0⟩
  case round =>
    obtain ⟨k, m, hk, hgk, rfl, hm, hRr, hbr, ⟨c, hcB⟩, hfB⟩ := hrel
    have HG : Hid (gk = kk - k) := hgk
    clear hgk hst hb0 cB0 fB0
    by_cases hlt : k < kk
    · go_upto_region 11 with fail
      go_cut [53] from 36 to 81 (fun c wx => c = .bool (nilOf nz nlen k) ∧ wx = wr)
      case first =>
        by_cases h0 : 0 < nlen
        · have hq : k % nlen < nlen := Nat.mod_lt _ h0
          have hmm := emod_nat k nlen
          obtain ⟨b, off, rfl, hcl⟩ := (Hins.out.later hbr).ns _ hq
          have he : nilOf nz nlen k = nz.getD (k % nlen) false := nilOf_pos h0
          have He : Hid (nilOf nz nlen k = nz.getD (k % nlen) false) := he
          clear he
          generalize k % nlen = q at hq hmm hcl He
          generalize nz.getD q false = v at hcl He
          go_wp2
          go_meet
          case rel => exact ⟨by rw [He.out], rfl⟩
        · obtain rfl : nlen = 0 := by omega
          go_wp2
          go_meet
          case rel => exact ⟨by rw [nilOf_zero], rfl⟩
      case rest =>
        obtain ⟨rfl, rfl⟩ := hcut
        go_upto_if 53 with fail
        go_cut [14] from 36 to 81 (fun v wx => v = .pointer (nodeOf nz nlen ⟨n, 0, none⟩ k) ∧ wx = wc)
        case first =>
          have hno : Hid (nodeOf nz nlen ⟨n, 0, none⟩ k = if nilOf nz nlen k then none else some ⟨n, 0, none⟩) := rfl
          generalize nilOf nz nlen k = B at hno ⊢
          cases B
          · go_wp2
            go_meet
            case rel => exact ⟨by rw [hno.out]; rfl, rfl⟩
          · go_wp2
            go_meet
            case rel => exact ⟨by rw [hno.out]; rfl, rfl⟩
        case rest =>
          obtain ⟨rfl, rfl⟩ := hcut
          have hcnt : IntKind.u64.wrap (base + (k : Int)) = countOf base k := rfl
          go_wp2_with fail
          refine (store_any (n + 1) 0 (countOf base k) _ wc hcB hfB).mono ?_
          rintro e W2 ⟨rfl, hW2⟩
          have hR2 : RSt W2 w.heap.size (w.heap.size + 1) m 0 k (Vrec nz nlen ⟨n, 0, none⟩ hz hlen base m) := by rw [hW2]; exact hRr.setOther (by omega) (by omega) _
          have hb2 : Below w.heap.size w W2 := by rw [hW2]; exact hbr.setCell (by show w.heap.size ≤ n + 1; omega) _
          have hc2 : W2.cell? ⟨n + 1, 0, none⟩ = some (.int .u64 (countOf base k)) := by rw [hW2]; exact World.cell?_setCell_same _ _ _ hcB
          have hf2 : W2.frozen? ⟨n + 1, 0, none⟩ = false := by rw [hW2, World.frozen?_setCell]; exact hfB
          clear hW2 hRr hbr hcB hfB
          go_wp2_with (go_at_call 24; refine (hash_any ho hlen hcap hz k W2 (by omega) (by omega) (Hins.out.later hb2).hs).mono ?_; rintro e _ ⟨rfl, rfl⟩)
          by_cases hroom : k < 1024
          · obtain rfl : m = k := by have := hm.out; omega
            clear hm
            refine (pushSet_room (nodeOf nz nlen ⟨n, 0, none⟩ m) (hashOf hz hlen m) (n + 1) 0 (countOf base m) _ hR2 hroom (by omega) (by omega) hc2 (by omega)).mono ?_
            rintro e W3 ⟨rfl, hR3, hF3⟩
            have hR4 : RSt W3 w.heap.size (w.heap.size + 1) (m + 1) 0 (m + 1) (Vrec nz nlen ⟨n, 0, none⟩ hz hlen base (m + 1)) := by rw [← Vrec_upd]; exact hR3
            have hb3 : Below w.heap.size w W3 := hF3.below hb2 (Nat.le_refl _) (by omega)
            have hc3 := hF3.cell (by omega) (by omega) hc2
            have hf3 := hF3.frozen (by omega) (by omega) hc2 hf2
            clear hR3 hF3 hR2 hb2 hc2 hf2
            go_wp2_with (go_at_call 9; refine (load_any (n + 1) 0 _ W3 hc3).mono ?_; rintro e _ ⟨rfl, rfl⟩)
            go_roundg (kk - (m + 1))
            case measure => rw [HG.out]; omega
            case rel => exact ⟨m + 1, m + 1, by omega, rfl, by go_num, by show m + 1 = min (m + 1) 1024; omega, hR4, hb3, ⟨_, hc3⟩, hf3⟩
          · obtain rfl : m = 1024 := by have := hm.out; omega
            refine (pushSet_full (nodeOf nz nlen ⟨n, 0, none⟩ k) (hashOf hz hlen k) (n + 1) 0 (countOf base k) _ hR2 (by omega) (by omega) hc2 (by omega)).mono ?_
            rintro e W3 ⟨rfl, hR3, hF3⟩
            have hb3 : Below w.heap.size w W3 := hF3.below hb2 (Nat.le_refl _) (by omega)
            have hc3 := hF3.cell (by omega) (by omega) hc2
            have hf3 := hF3.frozen (by omega) (by omega) hc2 hf2
            clear hF3 hR2 hb2 hc2 hf2
            go_wp2_with (go_at_call 9; refine (load_any (n + 1) 0 _ W3 hc3).mono ?_; rintro e _ ⟨rfl, rfl⟩)
            go_roundg (kk - (k + 1))
            case measure => rw [HG.out]; omega
            case rel => exact ⟨k + 1, 1024, by omega, rfl, by go_num, by show 1024 = min (k + 1) 1024; omega, hR3, hb3, ⟨_, hc3⟩, hf3⟩
    · obtain rfl : k = kk := by omega
      clear HG hcB hfB
      have hml : m ≤ 1024 := hRr.hle
      go_upto_if 84 with fail
      go_cut [17] from 82 to 84 (fun v wx => v = .int .i64 m ∧ wx = wr)
      case first =>
        have hm' := hm.out
        by_cases hx : 1024 < k
        · obtain rfl : m = 1024 := by omega
          go_wp2
          go_meet
          case rel => exact ⟨rfl, rfl⟩
        · obtain rfl : m = k := by omega
          go_wp2
          go_meet
          case rel => exact ⟨rfl, rfl⟩
      case rest =>
        obtain ⟨rfl, rfl⟩ := hcut
        have h7 := hRr.tail
        have h8 := hRr.hits
        have h9 := hRr.misses
        have h1 := hRr.slots
        go_wp2_with (first
          | (go_at_call 9; refine (load_any w.heap.size 6 k _ hRr.sets).mono ?_; rintro e _ ⟨rfl, rfl⟩)
          | (go_at_call 9; refine (load_any w.heap.size 0 m _ hRr.head).mono ?_; rintro e _ ⟨rfl, rfl⟩)
          | (go_at_call 9; refine (load_any w.heap.size 2 1 _ hRr.every).mono ?_; rintro e _ ⟨rfl, rfl⟩)
          | (go_at_call 9; refine (load_any w.heap.size 3 0 _ hRr.dhits).mono ?_; rintro e _ ⟨rfl, rfl⟩)
          | (go_at_call 9; refine (load_any w.heap.size 4 0 _ hRr.dmiss).mono ?_; rintro e _ ⟨rfl, rfl⟩)
          | (go_at_call 9; refine (load_any w.heap.size 5 0 _ hRr.rej).mono ?_; rintro e _ ⟨rfl, rfl⟩))
        clear h7 h8 h9 h1 hm
        go_loopg [18] 1024 (fun g i wr => ∃ (j : Nat), j ≤ 1024 ∧ g = 1024 - j ∧ i = .int .i64 j ∧ RSt wr w.heap.size (w.heap.size + 1) m 0 k (Vrec nz nlen ⟨n, 0, none⟩ hz hlen base m) ∧ Below w.heap.size w wr)
        case atStart => exact ⟨0, by omega, rfl, rfl, hRr, hbr⟩
        case round =>
          obtain ⟨j, hj, hgk, rfl, hRx, hbx⟩ := hrel
          have HG : Hid (gk = 1024 - j) := hgk
          clear hgk hRr hbr
          have h1 := hRx.slots
          have hcm : j * 5 = 5 * j := Nat.mul_comm _ _
          by_cases hltj : j < 1024
          · by_cases hx : j < m
            · go_upto_region 37 with fail
              go_cut [180] from 154 to 220 (fun c wx => c = .bool (nilOf nz nlen j) ∧ wx = wr)
              case first =>
                by_cases h0 : 0 < nlen
                · have hq : j % nlen < nlen := Nat.mod_lt _ h0
                  have hmm := emod_nat j nlen
                  obtain ⟨b, off, rfl, hcl⟩ := (Hins.out.later hbx).ns _ hq
                  have he : nilOf nz nlen j = nz.getD (j % nlen) false := nilOf_pos h0
                  have He : Hid (nilOf nz nlen j = nz.getD (j % nlen) false) := he
                  clear he
                  generalize j % nlen = q at hq hmm hcl He
                  generalize nz.getD q false = v at hcl He
                  go_wp2
                  go_meet
                  case rel => exact ⟨by rw [He.out], rfl⟩
                · obtain rfl : nlen = 0 := by omega
                  go_wp2
                  go_meet
                  case rel => exact ⟨by rw [nilOf_zero], rfl⟩
              case rest =>
                obtain ⟨rfl, rfl⟩ := hcut
                go_upto_if 180 with fail
                go_cut [20] from 154 to 220 (fun v wx => v = .pointer (nodeOf nz nlen ⟨n, 0, none⟩ j) ∧ wx = wc)
                case first =>
                  have hno : Hid (nodeOf nz nlen ⟨n, 0, none⟩ j = if nilOf nz nlen j then none else some ⟨n, 0, none⟩) := rfl
                  generalize nilOf nz nlen j = B at hno ⊢
                  cases B
                  · go_wp2
                    go_meet
                    case rel => exact ⟨by rw [hno.out]; rfl, rfl⟩
                  · go_wp2
                    go_meet
                    case rel => exact ⟨by rw [hno.out]; rfl, rfl⟩
                case rest =>
                  obtain ⟨rfl, rfl⟩ := hcut
                  have hcnt : IntKind.u64.wrap (base + (j : Int)) = countOf base j := rfl
                  have hV : Vrec nz nlen ⟨n, 0, none⟩ hz hlen base m j = rdOf nz nlen ⟨n, 0, none⟩ hz hlen base j := by unfold Vrec; rw [if_pos hx]
                  have hRy : RSt (wc.alloc (.cells #[.pointer (nodeOf nz nlen ⟨n, 0, none⟩ j), .int .u64 (hashOf hz hlen j), .int .u64 (countOf base j), .bool true] 82)) w.heap.size (w.heap.size + 1) m 0 k (Vrec nz nlen ⟨n, 0, none⟩ hz hlen base m) := hRx.below ((Below.refl _ _).alloc (Nat.le_refl _) _)
                  have hby : Below w.heap.size w (wc.alloc (.cells #[.pointer (nodeOf nz nlen ⟨n, 0, none⟩ j), .int .u64 (hashOf hz hlen j), .int .u64 (countOf base j), .bool true] 82)) := hbx.alloc hbx.size _
                  have q0 := hRy.seq j hltj
                  have q1 := hRy.v0 j hltj
                  have q2 := hRy.v1 j hltj
                  have q3 := hRy.v2 j hltj
                  have q4 := hRy.v3 j hltj
                  have hsq : seqOf m j = (j : Int) + 1 := by unfold seqOf; rw [if_pos hx]
                  rw [hV] at q1 q2 q3 q4
                  rw [hsq] at q0
                  simp only [rdOf] at q1 q2 q3 q4
                  have hne := fun W => neq82 (nodeOf nz nlen ⟨n, 0, none⟩ j) (hashOf hz hlen j) (countOf base j) true W
                  have hgd := guard82
                  clear hV hsq
                  go_upto_region 40 with (go_at_call 24; refine (hash_any ho hlen hcap hz j wc (by omega) (by omega) (Hins.out.later hbx).hs).mono ?_; rintro e _ ⟨rfl, rfl⟩)
                  clear hcnt hRx hbx h1
                  go_quiet ((go_at_call 9; exact Calls.quiet_of_same (load_any (w.heap.size + 1) (5 * j) _ _ (by exact q0))))
                  go_wp2
                  go_roundg (1024 - (j + 1))
                  case measure => rw [HG.out]; omega
                  case rel => exact ⟨j + 1, by omega, rfl, by go_num, hRy.drewN, hby.trans ⟨rfl, rfl, rfl, Nat.le_refl _, fun _ _ => rfl⟩⟩
            · have hV : Vrec nz nlen ⟨n, 0, none⟩ hz hlen base m j = ⟨none, 0, 0, false⟩ := by unfold Vrec; rw [if_neg hx]
              have q0 := hRx.seq j hltj
              have q1 := hRx.v0 j hltj
              have q2 := hRx.v1 j hltj
              have q3 := hRx.v2 j hltj
              have q4 := hRx.v3 j hltj
              have hsq : seqOf m j = (j : Int) := by unfold seqOf; rw [if_neg hx]
              rw [hV] at q1 q2 q3 q4
              rw [hsq] at q0
              have hne := fun W => neq82 none 0 0 false W
              have hgd := guard82
              clear hV hsq
              go_wp2_with (go_at_call 9; refine (load_any (w.heap.size + 1) (5 * j) j _ q0).mono ?_; rintro e _ ⟨rfl, rfl⟩)
              go_roundg (1024 - (j + 1))
              case measure => rw [HG.out]; omega
              case rel => exact ⟨j + 1, by omega, rfl, by go_num, hRx, hbx⟩
          · go_wp2
            go_ret
            exact ⟨rfl, hbx⟩
end Go.Proofs.Ybulkcyyc
