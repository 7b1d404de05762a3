import Derived.Test.YbulkcyssDoorPick
namespace Go.Proofs.YbulkcyssDoor
open Go.RowKit Go.Extern.Stop Go.Stop Go.Extern

theorem chain_wrap {w : World} {b : Addr} {n : Nat} {v : Value} {r : Bool} (h : Chain w b n v r) :
    Chain (w.alloc (.cells #[v] 27)) b (n + 1) (.iface 25 (.pointer (some ⟨w.heap.size, 0, none⟩))) r :=
  ⟨w.heap.size, 0, v, rfl, World.cell?_alloc_at _ _ _ _ rfl, chain_later ((Below.refl _ _).alloc (Nat.le_refl _) _) h⟩

set_option maxHeartbeats 800000 in
theorem chain_law (sel dep : Int) (s : ByteArray) (a : Nat → Addr) (w : World) (b0 : 0 ≤ sel ∧ sel ≤ 255) (b1 : 0 ≤ dep ∧ dep ≤ 255) (hS : Sent w a) :
    Calls Ybad.prog 3 #[.int .u8 sel, .int .u8 dep, .string s] w fun e w' => e = .returned (.bool true) ∧ Below w.heap.size w w' := by
  by_cases h6 : sel % 9 = 6
  · have h6' : (sel % 9 == 6) = true := by simp [h6]
    have H6 : Hid (decide (sel % 9 = 6) = true) := by simpa [Hid] using h6
    clear h6
    go_enter Ybad.func3, Ybad.ntmps3
    go_wp2_with fail
    refine (pick_any _ s a _ (by omega) (by omega) hS).mono ?_
    rintro e w1 ⟨v, rfl, hb1, hc1⟩
    rw [H6.out] at hc1
    go_wp2_with fail
    go_loopg [8, 10] (dep % 5).toNat (fun g v i wr => ∃ k : Nat, (k : Int) ≤ dep % 5 ∧ g = (dep % 5).toNat - k ∧ i = .int .i64 k ∧ Below w.heap.size w wr ∧ Chain wr (a 5) k v true)
    case atStart => exact ⟨0, by omega, by omega, rfl, hb1, hc1⟩
    case round =>
      obtain ⟨k, hk, hg, rfl, hbr, hcr⟩ := hrel
      have Hg : Hid (gk = (dep % 5).toNat - k) := hg
      clear hg
      by_cases hlt : (k : Int) < dep % 5
      · rcases chain_form hcr with ⟨_, hf⟩ | ⟨t, x, rfl⟩
        · cases hf
        all_goals
          go_wp2
          go_roundg ((dep % 5).toNat - (k + 1))
          case measure => rw [Hg.out]; omega
          case rel => exact ⟨k + 1, by omega, rfl, by go_num, hbr.alloc hbr.size _, chain_wrap hcr⟩
      · have hSr := hS.later hbr
        have g5 := hSr.cell 5 (by omega)
        obtain ⟨cb, tb, hb⟩ := hSr.heap 5 (by omega)
        go_wp2_with fail
        refine (Status_chain k _ true (a 5) cb tb _ g5 hb hcr).mono ?_
        rintro e w' ⟨rfl, rfl⟩
        go_wp2
        go_ret
        exact ⟨rfl, hbr⟩
  · have h6' : (sel % 9 == 6) = false := by simp [h6]
    have H6 : Hid (decide (sel % 9 = 6) = false) := by simpa [Hid] using h6
    clear h6
    go_enter Ybad.func3, Ybad.ntmps3
    go_wp2_with fail
    refine (pick_any _ s a _ (by omega) (by omega) hS).mono ?_
    rintro e w1 ⟨v, rfl, hb1, hc1⟩
    rw [H6.out] at hc1
    go_wp2_with fail
    go_loopg [8, 10] (dep % 5).toNat (fun g v i wr => ∃ k : Nat, (k : Int) ≤ dep % 5 ∧ g = (dep % 5).toNat - k ∧ i = .int .i64 k ∧ Below w.heap.size w wr ∧ Chain wr (a 5) k v false)
    case atStart => exact ⟨0, by omega, by omega, rfl, hb1, hc1⟩
    case round =>
      obtain ⟨k, hk, hg, rfl, hbr, hcr⟩ := hrel
      have Hg : Hid (gk = (dep % 5).toNat - k) := hg
      clear hg
      by_cases hlt : (k : Int) < dep % 5
      · rcases chain_form hcr with ⟨rfl, _⟩ | ⟨t, x, rfl⟩
        all_goals
          go_wp2
          go_roundg ((dep % 5).toNat - (k + 1))
          case measure => rw [Hg.out]; omega
          case rel => exact ⟨k + 1, by omega, rfl, by go_num, hbr.alloc hbr.size _, chain_wrap hcr⟩
      · have hSr := hS.later hbr
        have g5 := hSr.cell 5 (by omega)
        obtain ⟨cb, tb, hb⟩ := hSr.heap 5 (by omega)
        go_wp2_with fail
        refine (Status_chain k _ false (a 5) cb tb _ g5 hb hcr).mono ?_
        rintro e w' ⟨rfl, rfl⟩
        go_wp2
        go_ret
        exact ⟨rfl, hbr⟩
end Go.Proofs.YbulkcyssDoor
