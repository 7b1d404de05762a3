import Derived.Test.YbulkcyycPushSet
import Derived.Test.YbulkcyycNew
import Derived.LaidEqlPtr
import Derived.Laws.StructEq
namespace Go.Proofs.Ybulkcyyc
open Go.RowKit

/-- The hash of the i-th read. -/
def hashOf (hz : List Int) (hlen i : Nat) : Int := if 0 < hlen then hz.getD (i % hlen) 0 else (i : Int)
/-- Whether the i-th read's node is nil. -/
def nilOf (nz : List Bool) (nlen i : Nat) : Bool := decide (0 < nlen) && nz.getD (i % nlen) false
/-- Its node. -/
def nodeOf (nz : List Bool) (nlen : Nat) (nd : Addr) (i : Nat) : Option Addr := if nilOf nz nlen i then none else some nd
/-- The write count of the moment. -/
def countOf (base : Int) (i : Nat) : Int := IntKind.u64.wrap (base + (i : Int))

theorem emod_nat (i n : Nat) : ((i : Int) % (n : Int)) = ((i % n : Nat) : Int) := by simp

set_option maxRecDepth 100000 in
theorem hash_any (ho : Option Addr) (hlen hcap : Nat) (hz : List Int) (i : Nat) (w : World) (hi : i ≤ 5000) (hl : hlen ≤ 1024)
    (hc : ∀ k, k < hlen → ∃ b off, ho = some ⟨b, off, none⟩ ∧ w.cell? ⟨b, off + k, none⟩ = some (.int .u64 (hz.getD k 0))) :
    Calls Yba.prog 24 #[.slice ho hlen hcap, .int .i64 i] w fun e w' => e = .returned (.int .u64 (hashOf hz hlen i)) ∧ w' = w := by
  by_cases h0 : 0 < hlen
  · have hq : i % hlen < hlen := Nat.mod_lt _ h0
    have hm := emod_nat i hlen
    obtain ⟨b, off, rfl, hcl⟩ := hc _ hq
    have he : hashOf hz hlen i = hz.getD (i % hlen) 0 := by unfold hashOf; rw [if_pos h0]
    rw [he]
    clear hc he
    generalize i % hlen = q at hq hm hcl
    generalize hz.getD q 0 = v at hcl
    go_enter Yba.func24, Yba.ntmps24
    go_wp2
    go_ret
    exact ⟨rfl, rfl⟩
  · have he : hashOf hz hlen i = (i : Int) := by unfold hashOf; rw [if_neg h0]
    obtain rfl : hlen = 0 := by omega
    rw [he]
    clear hc he
    go_enter Yba.func24, Yba.ntmps24
    go_wp2
    go_ret
    exact ⟨rfl, rfl⟩

theorem info41' : ∃ i, Yba.prog.info? 41 = some i := by
  have h : (Yba.prog.info? 41).isSome = true := by kernel_rfl
  cases e : Yba.prog.info? 41 with
  | none => rw [e] at h; cases h
  | some i => exact ⟨i, rfl⟩

theorem ptr_same (d : Nat) (pn : Option Addr) (W : World) : (Op.equalIn (d + 1) 39 (.pointer pn) (.pointer pn)).run Yba.prog W = .ok true W := by
  obtain ⟨i, hi⟩ := info41'
  cases pn with
  | none => simp [Op.equalIn, run_underlying Yba.underlying39]
  | some a => simp [Op.equalIn, run_underlying Yba.underlying39, sizeOf, typeInfo, hi, run_sameAddr_same]

theorem fields82 : (Yba.prog.fieldsOf 82).toList.map (fun f => (f.name, f.type, f.offset)) = [("n", 39, 0), ("h", 26, 1), ("writes", 26, 2), ("set", 4, 3)] := by kernel_rfl
theorem under82 : Yba.prog.underlying 82 = some (.struct (Yba.prog.fieldsOf 82)) := by kernel_rfl
theorem held82 : Yba.prog.stoodInHeld 82 = false := by kernel_rfl
theorem guard82 : Yba.prog.eqGuardType Yba.prog.depth 82 = false := by kernel_rfl
end Go.Proofs.Ybulkcyyc
