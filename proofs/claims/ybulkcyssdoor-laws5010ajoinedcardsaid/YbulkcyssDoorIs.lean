import Derived.Test.YbulkcyssDoorChecked
import Derived.WalkKit
import Derived.WalkSpells
import Derived.WalkLawsBesides
import Derived.LaidEql
import Derived.Stop.Asserts
import Derived.RowKitTokens
import Derived.Deep.LoopGhost
import Derived.Below
import Derived.Outline
namespace Go.Proofs.YbulkcyssDoor
open Go.RowKit Go.Extern.Stop Go.Stop Go.Extern

/-! Closed facts on the target's type and on the method sets. -/
theorem isTypeOf (v : Value) (w : World) : (Extern.ReflectliteType.typeOf #[.iface 39 v]).run Ybad.prog w = .ok (.iface 48 (.agg #[.pointer (some ⟨7, 39, none⟩)])) w := by kernel_rfl
def compEntry : Array Value → Sem Value := Extern.ReflectliteType.method fun t => do Rtype.noPackHeld "Comparable" t; pure (.bool (← typeInfo t).comparable)
theorem compRun (w : World) : (compEntry #[.agg #[.pointer (some ⟨7, 39, none⟩)]]).run Ybad.prog w = .ok (.bool true) w := by kernel_rfl
theorem isComparable (w : World) : (callFunc 35 #[.agg #[.pointer (some ⟨7, 39, none⟩)]]).run Ybad.prog w = .ok (Next.value (.bool true)) w := by
  have h := @run_callFunc_extern Ybad.prog 35 _ compEntry Ybad.func35 (by kernel_rfl) (by kernel_rfl) (by kernel_rfl) (by kernel_rfl)
  rw [h, compRun]
  rfl
theorem isComp : (Ybad.prog.info? 39).map (·.comparable) = some true := by kernel_rfl
theorem isSize : (Ybad.prog.info? 41).map (·.size) = some 1 := by kernel_rfl
theorem noIsE (v : Value) (xT : TypeId) (w : World) : (Instr.typeAssert (.iface 39 v) xT 50 true).run Ybad.prog w = .ok (.tuple #[.nilIface, .bool false]) w := run_typeAssert_lacksB Ybad.underlying50 (by kernel_rfl) (by kernel_rfl) v xT w
theorem noUnwrapE (v : Value) (xT : TypeId) (w : World) : (Instr.typeAssert (.iface 39 v) xT 53 true).run Ybad.prog w = .ok (.tuple #[.nilIface, .bool false]) w := run_typeAssert_lacksB Ybad.underlying53 (by kernel_rfl) (by kernel_rfl) v xT w
theorem noUnwrapsE (v : Value) (xT : TypeId) (w : World) : (Instr.typeAssert (.iface 39 v) xT 55 true).run Ybad.prog w = .ok (.tuple #[.nilIface, .bool false]) w := run_typeAssert_lacksB Ybad.underlying55 (by kernel_rfl) (by kernel_rfl) v xT w
theorem noIsW (v : Value) (xT : TypeId) (w : World) : (Instr.typeAssert (.iface 25 v) xT 50 true).run Ybad.prog w = .ok (.tuple #[.nilIface, .bool false]) w := run_typeAssert_lacksB Ybad.underlying50 (by kernel_rfl) (by kernel_rfl) v xT w
theorem hasUnwrapW (v : Value) (xT : TypeId) (w : World) : (Instr.typeAssert (.iface 25 v) xT 53 true).run Ybad.prog w = .ok (.tuple #[.iface 25 v, .bool true]) w := run_typeAssert_hasB Ybad.underlying53 (by kernel_rfl) v xT w

theorem methodUnwrap (v : Value) (w : World) : (Go.method 197 25 v "Unwrap").run Ybad.prog w = .ok (28, v) w := by kernel_rfl
theorem methodComparable (v : Value) (w : World) : (Go.method 197 48 v "Comparable").run Ybad.prog w = .ok (35, v) w := by kernel_rfl

/-- A chain of n wraps over nil, over the sentinel at b, or over another error of errors.New's make; r: does it hold the sentinel. -/
def Chain (w : World) (b : Addr) : Nat → Value → Bool → Prop
  | 0, v, r => (v = .nilIface ∧ r = false) ∨ (v = .iface 39 (.pointer (some b)) ∧ r = true) ∨
      (r = false ∧ ∃ (a : Addr) (ca : Array Value) (ta : TypeId), a ≠ b ∧ w.heap[a.block]? = some (.cells ca ta (0, 0)) ∧ v = .iface 39 (.pointer (some a)))
  | n + 1, v, r => ∃ (pb po : Nat) (v' : Value), v = .iface 25 (.pointer (some ⟨pb, po, none⟩)) ∧ w.cell? ⟨pb, po, none⟩ = some v' ∧ Chain w b n v' r

theorem chain_form {w : World} {b : Addr} {n : Nat} {v : Value} {r : Bool} (h : Chain w b n v r) : (v = .nilIface ∧ r = false) ∨ ∃ t x, v = .iface t x := by
  cases n with
  | zero =>
    rcases h with ⟨h1, h2⟩ | ⟨h1, _⟩ | ⟨_, a, _, _, _, _, h1⟩
    · exact Or.inl ⟨h1, h2⟩
    · exact Or.inr ⟨_, _, h1⟩
    · exact Or.inr ⟨_, _, h1⟩
  | succ n =>
    obtain ⟨pb, po, v', h1, _⟩ := h
    exact Or.inr ⟨_, _, h1⟩

set_option maxHeartbeats 800000 in
theorem is_chain (n : Nat) (v : Value) (r : Bool) (b : Addr) (cb : Array Value) (tb : TypeId) (w : World) (hb : w.heap[b.block]? = some (.cells cb tb (0, 0))) (hv : v ≠ .nilIface) (hch : Chain w b n v r) :
    Calls Ybad.prog 11 #[v, .iface 39 (.pointer (some b)), .bool true] w fun e w' => e = .returned (.bool r) ∧ w' = w := by
  obtain ⟨i, hi, hcmp⟩ := Option.map_eq_some_iff.1 isComp
  obtain ⟨j, hj, hjs⟩ := Option.map_eq_some_iff.1 isSize
  have nE := noIsE
  have uE := noUnwrapE
  have vE := noUnwrapsE
  have nW := noIsW
  have uW := hasUnwrapW
  have hsame := run_eql_iface_ptr_same (P := Ybad.prog) w b Ybad.underlying23 Ybad.underlying39 hi hcmp hj
  go_enter Ybad.func11, Ybad.ntmps11
  go_wp2
  go_loopg [0] n (fun k u wr => w = wr ∧ Chain w b k u r ∧ u ≠ .nilIface)
  case atStart => exact ⟨rfl, hch, hv⟩
  case round =>
    obtain ⟨rfl, hc, hnn⟩ := hrel
    clear hch hv
    cases gk with
    | zero =>
      rcases hc with ⟨rfl, _⟩ | ⟨rfl, rfl⟩ | ⟨rfl, a, ca, ta, hne, ha, rfl⟩
      · exact absurd rfl hnn
      · clear hnn
        go_wp2
        go_ret
        exact ⟨rfl, rfl⟩
      · have hoth := run_eql_iface_ptr_other (P := Ybad.prog) w Ybad.underlying23 Ybad.underlying39 hi hcmp hj (by rw [hjs]; decide) hne ha hb
        clear hnn
        go_wp2
        go_ret
        exact ⟨rfl, rfl⟩
    | succ k =>
      obtain ⟨pb, po, v', rfl, hcell, hk⟩ := hc
      have hty := run_eql_iface_types (P := Ybad.prog) 25 39 (.pointer (some ⟨pb, po, none⟩)) (.pointer (some b)) Ybad.underlying23 (by decide) w
      clear hnn
      have mU := methodUnwrap
      rcases chain_form hk with ⟨rfl, rfl⟩ | ⟨t, x, rfl⟩
      · clear hk
        go_wp2
        go_ret
        exact ⟨rfl, rfl⟩
      · go_wp2
        go_roundg k
        case measure => omega
        case rel => exact ⟨rfl, hk, by simp⟩

/-- errors.Is of a chain that is not nil. -/
theorem Is_chain (n : Nat) (t : TypeId) (x : Value) (r : Bool) (b : Addr) (cb : Array Value) (tb : TypeId) (w : World) (hb : w.heap[b.block]? = some (.cells cb tb (0, 0))) (hch : Chain w b n (.iface t x) r) :
    Calls Ybad.prog 9 #[.iface t x, .iface 39 (.pointer (some b))] w fun e w' => e = .returned (.bool r) ∧ w' = w := by
  have h10 := @run_callFunc_extern Ybad.prog 10 _ Extern.ReflectliteType.typeOf Ybad.func10 (by kernel_rfl) (by kernel_rfl) (by kernel_rfl) (by kernel_rfl)
  have tT := isTypeOf
  have cT := isComparable
  have mR := methodComparable
  go_enter Ybad.func9, Ybad.ntmps9
  go_wp2_with (go_at_call 11; refine (is_chain n _ r b cb tb _ hb (by simp) hch).mono ?_; rintro e w' ⟨rfl, rfl⟩)
  go_ret
  exact ⟨rfl, rfl⟩

/-- errors.Is of nil. -/
theorem Is_nil (b : Addr) (w : World) :
    Calls Ybad.prog 9 #[.nilIface, .iface 39 (.pointer (some b))] w fun e w' => e = .returned (.bool false) ∧ w' = w := by
  have hn := run_eql_iface_nil_left (P := Ybad.prog) w 39 (.pointer (some b)) Ybad.underlying23
  go_enter Ybad.func9, Ybad.ntmps9
  go_wp2
  go_ret
  exact ⟨rfl, rfl⟩

/-- Status of a chain. -/
theorem Status_chain (n : Nat) (v : Value) (r : Bool) (b : Addr) (cb : Array Value) (tb : TypeId) (w : World) (hg : w.cell? ⟨5, 0, none⟩ = some (.iface 39 (.pointer (some b)))) (hb : w.heap[b.block]? = some (.cells cb tb (0, 0))) (hch : Chain w b n v r) :
    Calls Ybad.prog 6 #[v] w fun e w' => e = .returned (.int .i64 (if r then 413 else 403)) ∧ w' = w := by
  rcases chain_form hch with ⟨rfl, rfl⟩ | ⟨t, x, rfl⟩
  · clear hch
    go_enter Ybad.func6, Ybad.ntmps6
    go_wp2_with (go_at_call 9; refine (Is_nil b _).mono ?_; rintro e w' ⟨rfl, rfl⟩)
    go_ret
    exact ⟨rfl, rfl⟩
  · cases r
    · go_enter Ybad.func6, Ybad.ntmps6
      go_wp2_with (go_at_call 9; refine (Is_chain n t x false b cb tb _ hb hch).mono ?_; rintro e w' ⟨rfl, rfl⟩)
      go_ret
      exact ⟨rfl, rfl⟩
    · go_enter Ybad.func6, Ybad.ntmps6
      go_wp2_with (go_at_call 9; refine (Is_chain n t x true b cb tb _ hb hch).mono ?_; rintro e w' ⟨rfl, rfl⟩)
      go_ret
      exact ⟨rfl, rfl⟩
end Go.Proofs.YbulkcyssDoor
