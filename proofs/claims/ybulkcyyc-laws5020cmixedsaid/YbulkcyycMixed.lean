import Derived.Test.YbulkcyycMixStart
import Derived.Test.YbulkcyycStep2
import Derived.Test.YbulkcyycStep3
import Derived.Test.YbulkcyycStep4
namespace Go.Proofs.Ybulkcyyc
open Go.RowKit

theorem step_any {S G P N H B T E D : Nat} {nd : Addr} {x : Int} {hd dh st : Nat} (b : Bool) (w : World) (hA : Apart S G P N H B T E D) (h : MSt w S G P N H B T E D nd x hd dh st) (hdh : dh ≤ 100000) (hst : st ≤ 100000) :
    Calls Yba.prog 25 #[.bool b, .pointer (some ⟨P, 0, none⟩), .pointer (some ⟨N, 0, none⟩), .pointer (some ⟨H, 0, none⟩), .pointer (some ⟨B, 0, none⟩), .pointer (some ⟨T, 0, none⟩), .pointer (some ⟨E, 0, none⟩), .pointer (some ⟨D, 0, none⟩)] w fun e w' =>
      e = .returned (.bool true) ∧ (∃ hd' dh' st', MSt w' S G P N H B T E D nd x hd' dh' st' ∧ dh' ≤ dh + 1 ∧ st' ≤ st + 1) ∧ FrM w w' S G T E D := by
  obtain ⟨V, hR⟩ := h.r
  have hle := hR.hle
  by_cases hlt : hd < 1024
  · cases b
    · refine (step_get_room w hA h hlt hdh).mono ?_
      rintro e w' ⟨he, hM, hF⟩
      exact ⟨he, ⟨_, _, _, hM, by omega, by omega⟩, hF⟩
    · refine (step_set_room w hA h hlt hst).mono ?_
      rintro e w' ⟨he, hM, hF⟩
      exact ⟨he, ⟨_, _, _, hM, by omega, by omega⟩, hF⟩
  · obtain rfl : hd = 1024 := by omega
    cases b
    · refine (step_get_full w hA h hdh).mono ?_
      rintro e w' ⟨he, hM, hF⟩
      exact ⟨he, ⟨_, _, _, hM, by omega, by omega⟩, hF⟩
    · refine (step_set_full w hA h hst).mono ?_
      rintro e w' ⟨he, hM, hF⟩
      exact ⟨he, ⟨_, _, _, hM, by omega, by omega⟩, hF⟩

/-- The blocks of the law, in the order in which they are made. -/
theorem apart_of {m n : Nat} (h : m + 2 < n) : Apart (m + 1) (m + 1 + 1) n (n + 1 + 1) m (n + 1 + 1 + 1) (n + 1 + 1 + 1 + 1 + 1 + 1) (n + 1 + 1 + 1 + 1) (n + 1 + 1 + 1 + 1 + 1) := by
  constructor
  simp only [List.nodup_cons, List.mem_cons, List.not_mem_nil, or_false, not_or, not_false_eq_true, List.nodup_nil, and_true]
  omega

set_option maxRecDepth 100000 in
set_option maxHeartbeats 3200000 in
theorem mixed_any (a0 : Int) (ao : Option Addr) (len cap : Nat) (ns : List Int) (x : Int) (w : World) (ha0 : 0 ≤ a0 ∧ a0 ≤ 65535)
    (hc : ∀ k, k < len → ∃ b off, ao = some ⟨b, off, none⟩ ∧ w.cell? ⟨b, off + k, none⟩ = some (.int .u8 (ns.getD k 0))) (hns : ∀ k, 0 ≤ ns.getD k 0 ∧ ns.getD k 0 ≤ 255) :
    Calls Yba.prog 7 #[.int .u16 a0, .slice ao len cap, .int .u64 x] w fun e w' => e = .returned (.bool true) ∧ Below w.heap.size w w' := by
  have hmf : ∀ (fn : Fn) (first cap : Array Value) (w : World), (Instr.makeFunc fn first cap).run Yba.prog w = .ok (.func fn first cap) w := fun _ _ _ _ => rfl
  have hnot : ∀ (x : Bool) (w : World), (Op.unary .not (.bool x)).run Yba.prog w = .ok (.bool (!x)) w := fun _ _ => rfl
  have Hc : Hid (∀ k, k < len → ∃ b off, ao = some ⟨b, off, none⟩ ∧ w.cell? ⟨b, off + k, none⟩ = some (.int .u8 (ns.getD k 0))) := hc
  have Hn : Hid (∀ k, 0 ≤ ns.getD k 0 ∧ ns.getD k 0 ≤ 255) := hns
  clear hc hns
  by_cases hbig : 4096 < len
  · go_enter Yba.func7, Yba.ntmps7
    go_wp2
    go_ret
    exact ⟨rfl, (Below.refl _ _).alloc (Nat.le_refl _) _⟩
  obtain ⟨p, hp, hpl⟩ : ∃ p : Nat, a0 % 1100 = p ∧ p < 1100 := ⟨(a0 % 1100).toNat, by omega, by omega⟩
  go_enter Yba.func7, Yba.ntmps7
  go_wp2_with fail
  refine (new_any _).mono ?_
  rintro e w1 ⟨rfl, hR0, hbel0⟩
  have hsz : (w.alloc (.cells #[.int .u64 x] 26)).heap.size = w.heap.size + 1 := World.size_alloc _ _
  have hR : RSt w1 (w.heap.size + 1) (w.heap.size + 1 + 1) 0 0 0 V0 := by rw [hsz] at hR0; exact hR0
  have hH : w1.cell? ⟨w.heap.size, 0, none⟩ = some (.int .u64 x) := (hbel0.cell (by simp)).trans (cell_of_row _ _ _ _ _ _ (MapKept.heap_alloc w _).1)
  have hbw : Below w.heap.size w w1 := ((Below.refl w.heap.size w).alloc (Nat.le_refl _) _).trans (hbel0.mono (by simp))
  have hlt1 := hR.bG.lt
  have hM0 := MSt.start rfl hR hH
  have hb0 : Below w.heap.size w (W7 w1 (w.heap.size + 1) w1.heap.size) := hbw.trans ((W7_below _ _ _).mono hbw.size)
  clear hR0 hbel0 hR hH
  go_wp2_with fail
  have hA := apart_of (m := w.heap.size) (n := w1.heap.size) (by omega)
  have hge : w.heap.size ≤ w1.heap.size := hbw.size
  generalize w1.heap.size = n at hM0 hA hge hlt1 hb0 ⊢
  clear hbw hsz
  rw [hp]
  clear hp
  go_loopg [15] p (fun g i wr => ∃ (k hd dh st : Nat), k ≤ p ∧ g = p - k ∧ i = .int .i64 k ∧ dh ≤ k ∧ st ≤ k ∧ Below w.heap.size w wr ∧ MSt wr (w.heap.size + 1) (w.heap.size + 1 + 1) n (n + 1 + 1) w.heap.size (n + 1 + 1 + 1) (n + 1 + 1 + 1 + 1 + 1 + 1) (n + 1 + 1 + 1 + 1) (n + 1 + 1 + 1 + 1 + 1) ⟨n + 1, 0, none⟩ x hd dh st)
  case atStart => exact ⟨0, 0, 0, 0, by omega, rfl, rfl, by omega, by omega, hb0, hM0⟩
  case round =>
    obtain ⟨k, hd, dh, st, hk, hgk, rfl, hdk, hsk, hbr, hMr⟩ := hrel
    have HG : Hid (gk = p - k) := hgk
    clear hgk hM0 hb0
    by_cases hltp : k < p
    · go_wp2_with fail
      refine (step_any false wr hA hMr (by omega) (by omega)).mono ?_
      rintro e w2 ⟨rfl, ⟨hd', dh', st', hM2, hd2, hs2⟩, hF2⟩
      have hb2 : Below w.heap.size w w2 := hF2.below hbr (by omega) (by omega) (by omega) (by omega) (by omega)
      go_wp2
      go_roundg (p - (k + 1))
      case measure => rw [HG.out]; omega
      case rel => exact ⟨k + 1, hd', dh', st', by omega, rfl, by go_num, by omega, by omega, hb2, hM2⟩
    · clear HG
      go_wp2_with fail
      go_loopg [16] len (fun g i wx => ∃ (j hd dh st : Nat), j ≤ len ∧ g = len - j ∧ i = .int .i64 j ∧ dh ≤ 1100 + j ∧ st ≤ 1100 + j ∧ Below w.heap.size w wx ∧ MSt wx (w.heap.size + 1) (w.heap.size + 1 + 1) n (n + 1 + 1) w.heap.size (n + 1 + 1 + 1) (n + 1 + 1 + 1 + 1 + 1 + 1) (n + 1 + 1 + 1 + 1) (n + 1 + 1 + 1 + 1 + 1) ⟨n + 1, 0, none⟩ x hd dh st)
      case atStart => exact ⟨0, hd, dh, st, by omega, rfl, rfl, by omega, by omega, hbr, hMr⟩
      case round =>
        obtain ⟨j, hd, dh, st, hj, hgk, rfl, hdj, hsj, hbx, hMx⟩ := hrel
        have HG : Hid (gk = len - j) := hgk
        clear hgk hMr hbr
        by_cases hltj : j < len
        · obtain ⟨b, off, rfl, hcw⟩ := Hc.out j hltj
          have hb8 := Hn.out j
          generalize ns.getD j 0 = s at hcw hb8
          have hcx : wr.cell? ⟨b, off + j, none⟩ = some (.int .u8 s) := (hbx.cell (by exact World.block_lt_of_cell? _ _ hcw)).trans hcw
          clear hcw
          go_wp2_with fail
          refine (step_any _ wr hA hMx (by omega) (by omega)).mono ?_
          rintro e w2 ⟨rfl, ⟨hd', dh', st', hM2, hd2, hs2⟩, hF2⟩
          have hb2 : Below w.heap.size w w2 := hF2.below hbx (by omega) (by omega) (by omega) (by omega) (by omega)
          go_wp2
          go_roundg (len - (j + 1))
          case measure => rw [HG.out]; omega
          case rel => exact ⟨j + 1, hd', dh', st', by omega, rfl, by go_num, by omega, by omega, hb2, hM2⟩
        · go_wp2
          go_ret
          exact ⟨rfl, hbx⟩
end Go.Proofs.Ybulkcyyc
