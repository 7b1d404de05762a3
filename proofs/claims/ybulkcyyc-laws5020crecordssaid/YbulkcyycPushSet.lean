import Derived.Test.YbulkcyycStripe
namespace Go.Proofs.Ybulkcyyc
open Go.RowKit

set_option maxRecDepth 100000 in
set_option maxHeartbeats 1600000 in
theorem pushSet_room {S G hd dh st : Nat} {V : Nat → Rd} (pn : Option Addr) (xh : Int) (B ob : Nat) (c : Int) (w : World) (h : RSt w S G hd dh st V) (hlt : hd < 1024) (hBS : B ≠ S) (hBG : B ≠ G) (hc : w.cell? ⟨B, ob, none⟩ = some (.int .u64 c)) (hst : st ≤ 100000) :
    Calls Yba.prog 23 #[.pointer (some ⟨S, 0, none⟩), .pointer pn, .int .u64 xh, .pointer (some ⟨B, ob, none⟩)] w fun e w' =>
      e = .returned (.bool (((hd : Int) + 1) % 256 == 0)) ∧ RSt w' S G (hd + 1) dh (st + 1) (upd V hd ⟨pn, xh, c, true⟩) ∧ FrB w w' S G := by
  go_enter Yba.func23, Yba.ntmps23
  go_wp2_with fail
  refine (add_any S 6 st w (by omega) (by omega) h.sets (h.bS.frozen _)).mono ?_
  rintro e W1 ⟨rfl, hW1⟩
  have hF1 : Fr w W1 [(S, 6)] := by
    rw [hW1]
    exact (Fr.refl w _).setCell (by simp) _
  have hR1 : RSt W1 S G hd dh (st + 1) V := h.addSets hF1 (by rw [hW1]; exact World.cell?_setCell_same _ _ _ h.sets)
  have hc1 : W1.drew.cell? ⟨B, ob, none⟩ = some (.int .u64 c) := (hF1.frB (by simp)).cell hBS hBG hc
  have hB1 : FrB w W1 S G := hF1.frB (by simp)
  clear hW1 hF1
  have hR2 := hR1.drew
  have hp := push_room S G hd pn xh c true _ _ _ _ W1.drew hlt hR2.head hR2.slots (by rw [hR2.seq hd hlt, seqOf_at]) (hR2.v0 hd hlt) (hR2.v1 hd hlt) (hR2.v2 hd hlt) (hR2.v3 hd hlt) (fun o => hR2.bS.frozen o) (fun o => hR2.bG.frozen o) hR2.ne
  go_upto_region 2 with fail
  go_cut [9, 10] from 9 to 33 (fun p ok wx => p = .int .u64 hd ∧ ok = .bool true ∧ RSt wx S G (hd + 1) dh (st + 1) (upd V hd ⟨pn, xh, c, true⟩) ∧ FrB w wx S G)
  case first =>
    go_region_with (first
      | (go_at_call 9; refine (load_any B ob c _ hc1).mono ?_; rintro e _ ⟨rfl, rfl⟩)
      | (go_at_call 33; refine hp.mono ?_; rintro e W2 ⟨rfl, hF2, k0, k1, k2, k3, k4, k5⟩))
    all_goals (go_wp2_with fail; go_meet)
    all_goals exact ⟨rfl, rfl, hR2.push ⟨pn, xh, c, true⟩ hlt hF2 k0 k1 k2 k3 k4 k5, hB1.drew.trans (hF2.frB (by simp))⟩
  case rest =>
    obtain ⟨rfl, rfl, hR3, hB3⟩ := hcut
    go_wp2
    go_ret
    exact ⟨rfl, hR3, hB3⟩

theorem box_below (w : World) (o : Obj) : Below w.heap.size w (w.alloc o).drew := ((Below.refl _ _).alloc (Nat.le_refl _) _).drew

set_option maxRecDepth 100000 in
set_option maxHeartbeats 1600000 in
theorem pushSet_full {S G dh st : Nat} {V : Nat → Rd} (pn : Option Addr) (xh : Int) (B ob : Nat) (c : Int) (w : World) (h : RSt w S G 1024 dh st V) (hBS : B ≠ S) (hBG : B ≠ G) (hc : w.cell? ⟨B, ob, none⟩ = some (.int .u64 c)) (hst : st ≤ 100000) :
    Calls Yba.prog 23 #[.pointer (some ⟨S, 0, none⟩), .pointer pn, .int .u64 xh, .pointer (some ⟨B, ob, none⟩)] w fun e w' =>
      e = .returned (.bool false) ∧ RSt w' S G 1024 dh (st + 1) V ∧ FrB w w' S G := by
  go_enter Yba.func23, Yba.ntmps23
  go_wp2_with fail
  refine (add_any S 6 st w (by omega) (by omega) h.sets (h.bS.frozen _)).mono ?_
  rintro e W1 ⟨rfl, hW1⟩
  have hF1 : Fr w W1 [(S, 6)] := by
    rw [hW1]
    exact (Fr.refl w _).setCell (by simp) _
  have hR1 : RSt W1 S G 1024 dh (st + 1) V := h.addSets hF1 (by rw [hW1]; exact World.cell?_setCell_same _ _ _ h.sets)
  have hc1 : W1.drew.cell? ⟨B, ob, none⟩ = some (.int .u64 c) := (hF1.frB (by simp)).cell hBS hBG hc
  have hB1 : FrB w W1 S G := hF1.frB (by simp)
  clear hW1 hF1
  have hR2 := hR1.drew
  have hp := push_full S G (.pointer pn) (.int .u64 xh) (.int .u64 c) (.bool true) W1.drew hR2.head hR2.slots (by have := hR2.seq 0 (by omega); rw [seqOf_full] at this; exact this)
  go_upto_region 2 with fail
  go_cut [9, 10] from 9 to 33 (fun p ok wx => p = .int .u64 0 ∧ ok = .bool false ∧ RSt wx S G 1024 dh (st + 1) V ∧ FrB w wx S G)
  case first =>
    go_region_with (first
      | (go_at_call 9; refine (load_any B ob c _ hc1).mono ?_; rintro e _ ⟨rfl, rfl⟩)
      | (go_at_call 33; refine hp.mono ?_; rintro e _ ⟨rfl, rfl⟩))
    all_goals (go_wp2_with fail; go_meet)
    all_goals exact ⟨rfl, rfl, hR2.below (box_below _ _), hB1.drew.trans (FrB.ofBelow (box_below _ _))⟩
  case rest =>
    obtain ⟨rfl, rfl, hR3, hB3⟩ := hcut
    go_wp2
    go_ret
    exact ⟨rfl, hR3, hB3⟩

theorem and_none (x : Nat) (hx : x ≤ 1000000) : bits .and .u64 (x : Int) 0 = 0 := by
  have := bits_and_u64_nat x 0 (by omega) (by omega)
  simpa using this

set_option maxRecDepth 100000 in
set_option maxHeartbeats 1600000 in
theorem pushGet_room {S G hd dh st : Nat} {V : Nat → Rd} (a : Addr) (xh : Int) (B ob : Nat) (c : Int) (w : World) (h : RSt w S G hd dh st V) (hlt : hd < 1024) (hc : w.cell? ⟨B, ob, none⟩ = some (.int .u64 c)) (hdh : dh ≤ 100000) :
    Calls Yba.prog 26 #[.pointer (some ⟨S, 0, none⟩), .pointer (some a), .int .u64 xh, .pointer (some ⟨B, ob, none⟩)] w fun e w' =>
      e = .returned (.bool (((hd : Int) + 1) % 256 == 0)) ∧ RSt w' S G (hd + 1) dh st (upd V hd ⟨some a, xh, c, false⟩) ∧ FrB w w' S G := by
  have hz : bits .and .u64 ((hd : Int) + (dh : Int)) 0 = 0 := by
    have := and_none (hd + dh) (by omega)
    simpa using this
  go_enter Yba.func26, Yba.ntmps26
  go_wp2_with fail
  go_quiet (first
    | (go_at_call 9; exact Calls.quiet_of_same (load_any S 0 hd _ h.drewN.head))
    | (go_at_call 9; exact Calls.quiet_of_same (load_any S 3 dh _ h.drewN.dhits))
    | (go_at_call 9; exact Calls.quiet_of_same (load_any S 4 0 _ h.drewN.dmiss)))
  have hR2 : ∀ n, RSt (w.drewN n).drew S G hd dh st V := fun n => h.drewN.drew
  have hc1 : ∀ n, (w.drewN n).drew.cell? ⟨B, ob, none⟩ = some (.int .u64 c) := fun _ => hc
  have hp := fun n => push_room S G hd (some a) xh c false _ _ _ _ (w.drewN n).drew hlt (hR2 n).head (hR2 n).slots (by rw [(hR2 n).seq hd hlt, seqOf_at]) ((hR2 n).v0 hd hlt) ((hR2 n).v1 hd hlt) ((hR2 n).v2 hd hlt) ((hR2 n).v3 hd hlt) (fun o => (hR2 n).bS.frozen o) (fun o => (hR2 n).bG.frozen o) (hR2 n).ne
  go_upto_region 3 with (go_at_call 9; refine (load_any S 2 1 _ h.drewN.every).mono ?_; rintro e _ ⟨rfl, rfl⟩)
  go_cut [10, 11] from 10 to 64 (fun p ok wx => p = .int .u64 hd ∧ ok = .bool true ∧ RSt wx S G (hd + 1) dh st (upd V hd ⟨some a, xh, c, false⟩) ∧ FrB w wx S G)
  case first =>
    go_region_with (first
      | (go_at_call 9; refine (load_any B ob c _ (hc1 _)).mono ?_; rintro e _ ⟨rfl, rfl⟩)
      | (go_at_call 33; refine (hp _).mono ?_; rintro e W2 ⟨rfl, hF2, k0, k1, k2, k3, k4, k5⟩))
    all_goals (go_wp2_with fail; go_meet)
    all_goals exact ⟨rfl, rfl, (hR2 _).push ⟨some a, xh, c, false⟩ hlt hF2 k0 k1 k2 k3 k4 k5, ((FrB.refl _ _ _).drewN.drew).trans (hF2.frB (by simp))⟩
  case rest =>
    obtain ⟨rfl, rfl, hR3, hB3⟩ := hcut
    clear hp hR2 hc1
    go_wp2
    go_ret
    exact ⟨rfl, hR3, hB3⟩

set_option maxRecDepth 100000 in
set_option maxHeartbeats 1600000 in
theorem pushGet_full {S G dh st : Nat} {V : Nat → Rd} (a : Addr) (xh : Int) (B ob : Nat) (c : Int) (w : World) (h : RSt w S G 1024 dh st V) (hc : w.cell? ⟨B, ob, none⟩ = some (.int .u64 c)) (hdh : dh ≤ 100000) :
    Calls Yba.prog 26 #[.pointer (some ⟨S, 0, none⟩), .pointer (some a), .int .u64 xh, .pointer (some ⟨B, ob, none⟩)] w fun e w' =>
      e = .returned (.bool (((dh : Int) + 1) % 256 == 0)) ∧ RSt w' S G 1024 (dh + 1) st V ∧ FrB w w' S G := by
  have hz : bits .and .u64 (1024 + (dh : Int)) 0 = 0 := by
    have := and_none (1024 + dh) (by omega)
    simpa using this
  go_enter Yba.func26, Yba.ntmps26
  go_wp2_with fail
  go_quiet (first
    | (go_at_call 9; exact Calls.quiet_of_same (load_any S 0 1024 _ h.drewN.head))
    | (go_at_call 9; exact Calls.quiet_of_same (load_any S 3 dh _ h.drewN.dhits))
    | (go_at_call 9; exact Calls.quiet_of_same (load_any S 4 0 _ h.drewN.dmiss)))
  have hR2 : ∀ n, RSt (w.drewN n).drew S G 1024 dh st V := fun n => h.drewN.drew
  have hc1 : ∀ n, (w.drewN n).drew.cell? ⟨B, ob, none⟩ = some (.int .u64 c) := fun _ => hc
  have hp := fun n => push_full S G (.pointer (some a)) (.int .u64 xh) (.int .u64 c) (.bool false) (w.drewN n).drew (hR2 n).head (hR2 n).slots (by have := (hR2 n).seq 0 (by omega); rw [seqOf_full] at this; exact this)
  go_upto_region 3 with (go_at_call 9; refine (load_any S 2 1 _ h.drewN.every).mono ?_; rintro e _ ⟨rfl, rfl⟩)
  go_cut [10, 11] from 10 to 64 (fun p ok wx => p = .int .u64 0 ∧ ok = .bool false ∧ RSt wx S G 1024 dh st V ∧ FrB w wx S G)
  case first =>
    go_region_with (first
      | (go_at_call 9; refine (load_any B ob c _ (hc1 _)).mono ?_; rintro e _ ⟨rfl, rfl⟩)
      | (go_at_call 33; refine (hp _).mono ?_; rintro e _ ⟨rfl, rfl⟩))
    all_goals (go_wp2_with fail; go_meet)
    all_goals exact ⟨rfl, rfl, (hR2 _).below (box_below _ _), ((FrB.refl _ _ _).drewN.drew).trans (FrB.ofBelow (box_below _ _))⟩
  case rest =>
    obtain ⟨rfl, rfl, hR3, hB3⟩ := hcut
    clear hp hR2 hc1
    go_wp2_with fail
    refine (add_any S 3 dh wc (by omega) (by omega) hR3.dhits (hR3.bS.frozen _)).mono ?_
    rintro e W1 ⟨rfl, hW1⟩
    have hF1 : Fr wc W1 [(S, 3)] := by
      rw [hW1]
      exact (Fr.refl wc _).setCell (by simp) _
    have hR1 : RSt W1 S G 1024 (dh + 1) st V := hR3.addDh hF1 (by rw [hW1]; exact World.cell?_setCell_same _ _ _ hR3.dhits)
    have hB1 : FrB w W1 S G := hB3.trans (hF1.frB (by simp))
    clear hW1 hF1
    go_wp2
    go_ret
    exact ⟨rfl, hR1, hB1⟩
end Go.Proofs.Ybulkcyyc
