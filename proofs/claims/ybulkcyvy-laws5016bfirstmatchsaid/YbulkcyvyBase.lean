import Derived.Test.YbulkcyvyProg
import Derived.WalkKit
import Derived.WalkSpells
import Derived.WalkLawsBesides
import Derived.Deep.LoopGhost
import Derived.Below
import Derived.OneCell
import Derived.OwnWalk
import Derived.Outline
namespace Go.Proofs.Ybulkcyvy
open Go.RowKit

theorem info5 : (Yba.prog.info? 5).map (fun i => (i.zero, i.size, i.bytes)) = some (some (.int .u8 0), 1, 1) := by kernel_rfl
theorem info9 : (Yba.prog.info? 9).map (fun i => (i.zero, i.size, i.bytes)) = some (some (.string ⟨#[]⟩), 1, 16) := by kernel_rfl
theorem info36 : (Yba.prog.info? 36).map (fun i => (i.zero, i.size, i.bytes)) = some (some (.agg #[.int .u32 0, .int .u32 0, .int .u32 0, .int .u8 0, .bool false]), 5, 16) := by kernel_rfl

/-- The raw text of a name, as the table has it. -/
def rawOf (i : Int) : ByteArray :=
  if i = 0 then ⟨#[97]⟩ else if i = 1 then ⟨#[98]⟩ else if i = 2 then ⟨#[97, 98]⟩ else if i = 3 then ⟨#[]⟩ else if i = 4 then ⟨#[97, 92, 110, 98]⟩ else ⟨#[92, 117, 48, 48, 52, 49]⟩
/-- Its decoded characters. -/
def decOf (i : Int) : ByteArray :=
  if i = 0 then ⟨#[97]⟩ else if i = 1 then ⟨#[98]⟩ else if i = 2 then ⟨#[97, 98]⟩ else if i = 3 then ⟨#[]⟩ else if i = 4 then ⟨#[97, 10, 98]⟩ else ⟨#[65]⟩
/-- Its escape mark. -/
def escOf (i : Int) : Bool := decide (4 ≤ i)

theorem six (i : Int) (h0 : 0 ≤ i) (h5 : i ≤ 5) : i = 0 ∨ i = 1 ∨ i = 2 ∨ i = 3 ∨ i = 4 ∨ i = 5 := by omega
theorem raw_le (i : Int) : (rawOf i).size ≤ 6 := by
  unfold rawOf
  repeat' split
  all_goals decide
theorem raw_dec (i : Int) (h0 : 0 ≤ i) (h : escOf i = false) : rawOf i = decOf i := by
  have h4 : ¬ 4 ≤ i := of_decide_eq_false h
  have h' : i = 0 ∨ i = 1 ∨ i = 2 ∨ i = 3 := by omega
  rcases h' with rfl | rfl | rfl | rfl <;> rfl

set_option maxHeartbeats 400000 in
theorem name_any (i : Int) (w : World) (h0 : 0 ≤ i) (h5 : i ≤ 5) :
    Calls Yba.prog 8 #[.int .i64 i] w fun e w' => e = .returned (.tuple #[.string (rawOf i), .string (decOf i), .bool (escOf i)]) ∧ w' = w := by
  rcases six i h0 h5 with rfl | rfl | rfl | rfl | rfl | rfl
  all_goals
    go_enter Yba.func8, Yba.ntmps8
    go_wp2
    go_ret3
    exact ⟨rfl, rfl⟩
end Go.Proofs.Ybulkcyvy
