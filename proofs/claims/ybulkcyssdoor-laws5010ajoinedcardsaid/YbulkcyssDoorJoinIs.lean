import Derived.Test.YbulkcyssDoorPick
namespace Go.Proofs.YbulkcyssDoor
open Go.RowKit Go.Extern.Stop Go.Stop Go.Extern

theorem noIsJ (v : Value) (xT : TypeId) (w : World) : (Instr.typeAssert (.iface 36 v) xT 50 true).run Ybad.prog w = .ok (.tuple #[.nilIface, .bool false]) w := run_typeAssert_lacksB Ybad.underlying50 (by kernel_rfl) (by kernel_rfl) v xT w
theorem noUnwrapJ (v : Value) (xT : TypeId) (w : World) : (Instr.typeAssert (.iface 36 v) xT 53 true).run Ybad.prog w = .ok (.tuple #[.nilIface, .bool false]) w := run_typeAssert_lacksB Ybad.underlying53 (by kernel_rfl) (by kernel_rfl) v xT w
theorem hasUnwrapsJ (v : Value) (xT : TypeId) (w : World) : (Instr.typeAssert (.iface 36 v) xT 55 true).run Ybad.prog w = .ok (.tuple #[.iface 36 v, .bool true]) w := run_typeAssert_hasB Ybad.underlying55 (by kernel_rfl) v xT w
theorem methodUnwraps (v : Value) (w : World) : (Go.method 197 36 v "Unwrap").run Ybad.prog w = .ok (30, v) w := by kernel_rfl

theorem any_take_false {zs : List (Value × Bool)} {k : Nat} (hk : k < zs.length) (h : (zs.take k).any Prod.snd = false) (h2 : zs[k].2 = false) : (zs.take (k + 1)).any Prod.snd = false := by
  rw [List.take_succ_eq_append_getElem hk, List.any_append, h]
  simp [h2]
theorem any_of_mem {zs : List (Value × Bool)} {k : Nat} (hk : k < zs.length) (h2 : zs[k].2 = true) : zs.any Prod.snd = true := by
  rw [List.any_eq_true]
  exact ⟨zs[k], List.getElem_mem hk, h2⟩

set_option maxHeartbeats 1000000 in
theorem is_join (J g cap base : Nat) (zs : List (Value × Bool)) (b : Addr) (cb : Array Value) (tb : TypeId) (w : World) (hlen : zs.length ≤ 1024) (hb : w.heap[b.block]? = some (.cells cb tb (0, 0)))
    (hcell : w.cell? ⟨J, 0, none⟩ = some (.slice (some ⟨g, 0, none⟩) zs.length cap)) (hown : w.ownsRow base 23 1 (.slice (some ⟨g, 0, none⟩) zs.length cap) zs.length (zs.map Prod.fst))
    (hz : ∀ p ∈ zs, p.1 ≠ .nilIface ∧ ∃ n, Chain w b n p.1 p.2) :
    Calls Ybad.prog 11 #[.iface 36 (.pointer (some ⟨J, 0, none⟩)), .iface 39 (.pointer (some b)), .bool true] w fun e w' => e = .returned (.bool (zs.any Prod.snd)) ∧ w' = w := by
  have nJ := noIsJ
  have uJ := noUnwrapJ
  have vJ := hasUnwrapsJ
  have mU := methodUnwraps
  have hty := run_eql_iface_types (P := Ybad.prog) 36 39 (.pointer (some ⟨J, 0, none⟩)) (.pointer (some b)) Ybad.underlying23 (by decide) w
  go_enter Ybad.func11, Ybad.ntmps11
  go_wp2
  refine wp_loop_rounds 1 ?_
  rw [rounds_succ]
  go_wp2
  go_loopg [45] zs.length (fun gk i wr => w = wr ∧ ∃ k : Nat, k ≤ zs.length ∧ gk = zs.length - k ∧ i = .int .i64 k ∧ (zs.take k).any Prod.snd = false)
  case atStart => exact ⟨rfl, 0, Nat.zero_le _, rfl, rfl, by simp⟩
  case round =>
    obtain ⟨rfl, k, hk, hgk, rfl, hany⟩ := hrel
    have HA : Hid ((zs.take k).any Prod.snd = false) := hany
    have HG : Hid (gk = zs.length - k) := hgk
    clear hany hgk
    by_cases hlt : k < zs.length
    · have hc : w.cell? ⟨g, k, none⟩ = some zs[k].1 := by
        rw [hown.cellAt k (by omega)]; simp [hlt]
      obtain ⟨hnn, n, hch⟩ := hz zs[k] (List.getElem_mem hlt)
      cases hr : zs[k].2
      · rw [hr] at hch
        have HR : Hid (zs[k].2 = false) := hr
        clear hr
        generalize hy : zs[k].1 = y at hc hnn hch
        clear hy
        go_wp2_with (go_at_call 11; refine (is_chain n y false b cb tb _ hb hnn hch).mono ?_; rintro e w' ⟨rfl, rfl⟩)
        go_roundg (zs.length - (k + 1))
        case measure => rw [HG.out]; omega
        case rel => exact ⟨rfl, k + 1, by omega, rfl, by go_num, any_take_false hlt HA.out HR.out⟩
      · rw [hr] at hch
        have HR : Hid (zs.any Prod.snd = true) := any_of_mem hlt hr
        clear hr
        generalize hy : zs[k].1 = y at hc hnn hch
        clear hy
        go_wp2_with (go_at_call 11; refine (is_chain n y true b cb tb _ hb hnn hch).mono ?_; rintro e w' ⟨rfl, rfl⟩)
        go_ret
        exact ⟨by rw [HR.out]; rfl, rfl⟩
    · have HR : Hid (zs.any Prod.snd = false) := by
        have := HA.out
        rwa [List.take_of_length_le (by omega)] at this
      go_wp2
      go_ret
      exact ⟨by rw [HR.out]; rfl, rfl⟩

theorem Is_join (J g cap base : Nat) (zs : List (Value × Bool)) (b : Addr) (cb : Array Value) (tb : TypeId) (w : World) (hlen : zs.length ≤ 1024) (hb : w.heap[b.block]? = some (.cells cb tb (0, 0)))
    (hcell : w.cell? ⟨J, 0, none⟩ = some (.slice (some ⟨g, 0, none⟩) zs.length cap)) (hown : w.ownsRow base 23 1 (.slice (some ⟨g, 0, none⟩) zs.length cap) zs.length (zs.map Prod.fst))
    (hz : ∀ p ∈ zs, p.1 ≠ .nilIface ∧ ∃ n, Chain w b n p.1 p.2) :
    Calls Ybad.prog 9 #[.iface 36 (.pointer (some ⟨J, 0, none⟩)), .iface 39 (.pointer (some b))] w fun e w' => e = .returned (.bool (zs.any Prod.snd)) ∧ w' = w := by
  have h10 := @run_callFunc_extern Ybad.prog 10 _ Extern.ReflectliteType.typeOf Ybad.func10 (by kernel_rfl) (by kernel_rfl) (by kernel_rfl) (by kernel_rfl)
  have tT := isTypeOf
  have cT := isComparable
  have mR := methodComparable
  go_enter Ybad.func9, Ybad.ntmps9
  go_wp2_with (go_at_call 11; refine (is_join J g cap base zs b cb tb _ hlen hb hcell hown hz).mono ?_; rintro e w' ⟨rfl, rfl⟩)
  go_ret
  exact ⟨rfl, rfl⟩

theorem Is_join_r (J g cap base : Nat) (zs : List (Value × Bool)) (b : Addr) (cb : Array Value) (tb : TypeId) (w : World) (r : Bool) (hlen : zs.length ≤ 1024) (hb : w.heap[b.block]? = some (.cells cb tb (0, 0)))
    (hcell : w.cell? ⟨J, 0, none⟩ = some (.slice (some ⟨g, 0, none⟩) zs.length cap)) (hown : w.ownsRow base 23 1 (.slice (some ⟨g, 0, none⟩) zs.length cap) zs.length (zs.map Prod.fst))
    (hz : ∀ p ∈ zs, p.1 ≠ .nilIface ∧ ∃ n, Chain w b n p.1 p.2) (hr : zs.any Prod.snd = r) :
    Calls Ybad.prog 9 #[.iface 36 (.pointer (some ⟨J, 0, none⟩)), .iface 39 (.pointer (some b))] w fun e w' => e = .returned (.bool r) ∧ w' = w := by
  subst hr
  exact Is_join J g cap base zs b cb tb w hlen hb hcell hown hz

theorem Status_join (J g cap base : Nat) (zs : List (Value × Bool)) (b : Addr) (cb : Array Value) (tb : TypeId) (w : World) (hlen : zs.length ≤ 1024) (hg : w.cell? ⟨5, 0, none⟩ = some (.iface 39 (.pointer (some b)))) (hb : w.heap[b.block]? = some (.cells cb tb (0, 0)))
    (hcell : w.cell? ⟨J, 0, none⟩ = some (.slice (some ⟨g, 0, none⟩) zs.length cap)) (hown : w.ownsRow base 23 1 (.slice (some ⟨g, 0, none⟩) zs.length cap) zs.length (zs.map Prod.fst))
    (hz : ∀ p ∈ zs, p.1 ≠ .nilIface ∧ ∃ n, Chain w b n p.1 p.2) :
    Calls Ybad.prog 6 #[.iface 36 (.pointer (some ⟨J, 0, none⟩))] w fun e w' => e = .returned (.int .i64 (if zs.any Prod.snd then 413 else 403)) ∧ w' = w := by
  cases hr : zs.any Prod.snd
  · have HR : Hid (zs.any Prod.snd = false) := hr
    clear hr
    go_enter Ybad.func6, Ybad.ntmps6
    go_wp2_with (go_at_call 9; refine (Is_join_r J g cap base zs b cb tb _ false hlen hb hcell hown hz HR.out).mono ?_; rintro e w' ⟨rfl, rfl⟩)
    go_ret
    exact ⟨rfl, rfl⟩
  · have HR : Hid (zs.any Prod.snd = true) := hr
    clear hr
    go_enter Ybad.func6, Ybad.ntmps6
    go_wp2_with (go_at_call 9; refine (Is_join_r J g cap base zs b cb tb _ true hlen hb hcell hown hz HR.out).mono ?_; rintro e w' ⟨rfl, rfl⟩)
    go_ret
    exact ⟨rfl, rfl⟩
end Go.Proofs.YbulkcyssDoor
