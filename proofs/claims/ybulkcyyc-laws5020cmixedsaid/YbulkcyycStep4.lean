import Derived.Test.YbulkcyycStep
namespace Go.Proofs.Ybulkcyyc
open Go.RowKit

set_option linter.unusedSimpArgs false in
set_option linter.unusedVariables false in
set_option maxRecDepth 100000 in
set_option maxHeartbeats 3200000 in
theorem step_get_full {S G P N H B T E D : Nat} {nd : Addr} {x : Int} {dh st : Nat} (w : World) (hA : Apart S G P N H B T E D) (h : MSt w S G P N H B T E D nd x 1024 dh st) (hdh : dh ≤ 100000) :
    Calls Yba.prog 25 #[.bool false, .pointer (some ⟨P, 0, none⟩), .pointer (some ⟨N, 0, none⟩), .pointer (some ⟨H, 0, none⟩), .pointer (some ⟨B, 0, none⟩), .pointer (some ⟨T, 0, none⟩), .pointer (some ⟨E, 0, none⟩), .pointer (some ⟨D, 0, none⟩)] w fun e w' =>
      e = .returned (.bool true) ∧ MSt w' S G P N H B T E D nd x 1024 (dh + 1) st ∧ FrM w w' S G T E D := by
  obtain ⟨V, hR⟩ := h.r
  have hP := h.cP
  have hN := h.cN
  have hH := h.cH
  have hn := hA.nd
  simp only [List.nodup_cons, List.mem_cons, List.not_mem_nil, or_false, not_or, not_false_eq_true, List.nodup_nil, and_true] at hn
  obtain ⟨⟨_, sP, sN, sH, sB, sT, sE, sD⟩, ⟨gP, gN, gH, gB, gT, gE, gD⟩, ⟨pN, pH, pB, pT, pE, pD⟩, ⟨nH, nB, nT, nE, nD⟩, ⟨hB, hT, hE, hD⟩, ⟨bT, bE, bD⟩, ⟨tE, tD⟩, eD⟩ := hn
  go_enter Yba.func25, Yba.ntmps25
  go_wp2_with fail
  refine (pushGet_full nd x B 0 0 w hR h.cB hdh).mono ?_
  rintro e w1 ⟨rfl, hR1, hF1⟩
  obtain ⟨_, qP, qN, qH, qB, qT, qE, qD, zT, zE, zD⟩ := h.after hA hR1 hF1
  clear hP hN hH
  go_upto_region 16 with fail
  have hM : MSt (w1.setCell ⟨D, 0, none⟩ (.int .u64 ((dh : Int) + 1))) S G P N H B T E D nd x 1024 (dh + 1) st := by
    refine ⟨⟨_, (hR1.setOther sD gD _)⟩, ?_, ?_, ?_, ?_, ?_, ?_, ?_, ?_, ?_, ?_⟩
    all_goals simp [World.cell?_setCell_same', World.cell?_setCell_other, qP, qN, qH, qB, qT, qE, qD, zT, zE, zD, tE, tD, eD, Ne.symm tE, Ne.symm tD, Ne.symm eD]
  have hF : FrM w (w1.setCell ⟨D, 0, none⟩ (.int .u64 ((dh : Int) + 1))) S G T E D := ((hF1.frM T E D).setCell (.inr (.inr rfl)) _)
  generalize (w1.setCell ⟨D, 0, none⟩ (.int .u64 ((dh : Int) + 1))) = W at hM hF ⊢
  have hM0 : Hid (MSt W S G P N H B T E D nd x 1024 (dh + 1) st) := hM
  generalize dh + 1 = dh2 at hM
  obtain ⟨V2, hR2⟩ := hM.r
  have c1 := hM.cP
  have c2 := hM.cE
  have c3 := hM.cD
  have c4 := hM.cT
  clear h hR hR1 hF1 qP qN qH qB qT qE qD zT zE zD
  go_quiet (first
    | (go_at_call 9; exact Calls.quiet_of_same (load_any S 0 1024 _ hR2.drewN.head))
    | (go_at_call 9; exact Calls.quiet_of_same (load_any S 3 dh2 _ hR2.drewN.dhits))
    | (go_at_call 9; exact Calls.quiet_of_same (load_any S 6 st _ hR2.drewN.sets))
    | (go_at_call 9; exact Calls.quiet_of_same (load_any S 4 0 _ hR2.drewN.dmiss)))
  go_wp2
  go_ret
  exact ⟨rfl, hM0.out.drewN, hF.drewN⟩

end Go.Proofs.Ybulkcyyc
