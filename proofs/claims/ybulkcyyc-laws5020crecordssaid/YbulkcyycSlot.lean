import Derived.Test.YbulkcyycAtom
import Derived.RegionTactic
import Derived.ChangeAlike
import Derived.BigRegion
import Derived.Deep.QuietTactic
import Derived.BigQuiet
import Derived.Deep.LoopGhost
import Derived.Deep.CutRange
import Derived.Deep.CutBlock
namespace Go.Proofs.Ybulkcyyc
open Go.RowKit

theorem and_low (p : Nat) (hp : p ≤ 1024) : bits .and .u64 (p : Int) 1023 = ((p % 1024 : Nat) : Int) := by
  have h : p &&& 1023 = p % 1024 := Nat.and_two_pow_sub_one_eq_mod p 10
  rw [← h]
  exact bits_and_u64_nat p 1023 (by omega) (by omega)

set_option maxRecDepth 100000 in
theorem slot_any (S G p : Nat) (w : World) (hs : w.cell? ⟨S, 1, none⟩ = some (.slice (some ⟨G, 0, none⟩) 1024 1024)) (hp : p ≤ 1024) :
    Calls Yba.prog 36 #[.pointer (some ⟨S, 0, none⟩), .int .u64 p] w fun e w' => e = .returned (.pointer (some ⟨G, 5 * (p % 1024), none⟩)) ∧ w' = w.drew := by
  have hb := and_low p hp
  have hm : p % 1024 < 1024 := Nat.mod_lt _ (by omega)
  generalize p % 1024 = q at hb hm
  go_enter Yba.func36, Yba.ntmps36
  go_wp2
  go_region
  all_goals go_wp2
  all_goals go_ret
  all_goals exact ⟨by simp [Nat.mul_comm], rfl⟩
end Go.Proofs.Ybulkcyyc
