import Derived.Test.YbulkcyvyRead
import Derived.Test.YbulkcyvyUnesc
namespace Go.Proofs.Ybulkcyvy
open Go.RowKit

theorem dn {w : World} {p : Addr} {v : Value} (n : Nat) (h : w.cell? p = some v) : (w.drewN n).cell? p = some v := cell_later (belowN (Below.refl _ _) n) h

set_option maxHeartbeats 800000 in
theorem chars4 {w : World} {f : Nat → Int} {k d gb gn cn gt nt ct : Nat} {st : Nat → Nat} (hD : DocAt w f k d gb gn cn gt nt ct st) (hk : k ≤ 1000) (j : Nat) (hj : j < k) (h4 : f j = 4) :
    Calls Yba.prog 14 #[.pointer (some ⟨d, 0, none⟩), .int .u32 (2 * j + 1)] w fun e w' => e = .returned (.string ⟨#[97, 10, 98]⟩) ∧ Below w.heap.size w w' := by
  have c0 := hD.nm0 j hj
  have c1 : w.cell? ⟨gn, 5 * (2 * j + 1) + 1, none⟩ = some (.int .u32 ((st j : Int) + 6)) := by
    have h := hD.nm1 j hj
    rw [h4] at h
    exact h
  have c4 : w.cell? ⟨gn, 5 * (2 * j + 1) + 4, none⟩ = some (.bool true) := by
    have h := hD.nm4 j hj
    rw [h4] at h
    exact h
  have ht := hD.text
  obtain ⟨hl, hx⟩ := hD.tx j hj
  have htb := hD.tbd
  have htle := hD.tle
  rw [h4] at hl hx
  have hl' : st j + 6 ≤ nt := hl
  have x0 : w.cell? ⟨gt, st j + 1, none⟩ = some (.int .u8 97) := hx 0 (by decide)
  have x1 : w.cell? ⟨gt, st j + 1 + 1, none⟩ = some (.int .u8 92) := hx 1 (by decide)
  have x2 : w.cell? ⟨gt, st j + 1 + 2, none⟩ = some (.int .u8 110) := hx 2 (by decide)
  have x3 : w.cell? ⟨gt, st j + 1 + 3, none⟩ = some (.int .u8 98) := hx 3 (by decide)
  clear hx hl h4
  generalize hs0 : st j = s0 at c0 c1 hl' x0 x1 x2 x3
  clear hs0
  go_enter Yba.func14, Yba.ntmps14
  go_wp2_with (go_at_call 12; refine (at_any hD hk _ (5 * (2 * j + 1)) (by omega) (by omega) (by omega)).mono ?_; rintro e w' ⟨rfl, rfl⟩)
  go_quiet (fail)
  go_wp2_with fail
  refine (unescape4 gt (s0 + 1) (ct - s0 - 1) _ (dn nq x0) (dn nq x1) (dn nq x2) (dn nq x3)).mono ?_
  rintro e w1 ⟨rfl, hb1⟩
  go_wp2
  go_ret
  exact ⟨rfl, (belowN (Below.refl _ _) nq).trans hb1⟩

set_option maxHeartbeats 800000 in
theorem chars6 {w : World} {f : Nat → Int} {k d gb gn cn gt nt ct : Nat} {st : Nat → Nat} (hD : DocAt w f k d gb gn cn gt nt ct st) (hk : k ≤ 1000) (j : Nat) (hj : j < k) (h4 : f j = 5) :
    Calls Yba.prog 14 #[.pointer (some ⟨d, 0, none⟩), .int .u32 (2 * j + 1)] w fun e w' => e = .returned (.string ⟨#[65]⟩) ∧ Below w.heap.size w w' := by
  have c0 := hD.nm0 j hj
  have c1 : w.cell? ⟨gn, 5 * (2 * j + 1) + 1, none⟩ = some (.int .u32 ((st j : Int) + 8)) := by
    have h := hD.nm1 j hj
    rw [h4] at h
    exact h
  have c4 : w.cell? ⟨gn, 5 * (2 * j + 1) + 4, none⟩ = some (.bool true) := by
    have h := hD.nm4 j hj
    rw [h4] at h
    exact h
  have ht := hD.text
  obtain ⟨hl, hx⟩ := hD.tx j hj
  have htb := hD.tbd
  have htle := hD.tle
  rw [h4] at hl hx
  have hl' : st j + 8 ≤ nt := hl
  have x0 : w.cell? ⟨gt, st j + 1, none⟩ = some (.int .u8 92) := hx 0 (by decide)
  have x1 : w.cell? ⟨gt, st j + 1 + 1, none⟩ = some (.int .u8 117) := hx 1 (by decide)
  have x2 : w.cell? ⟨gt, st j + 1 + 2, none⟩ = some (.int .u8 48) := hx 2 (by decide)
  have x3 : w.cell? ⟨gt, st j + 1 + 3, none⟩ = some (.int .u8 48) := hx 3 (by decide)
  have x4 : w.cell? ⟨gt, st j + 1 + 4, none⟩ = some (.int .u8 52) := hx 4 (by decide)
  have x5 : w.cell? ⟨gt, st j + 1 + 5, none⟩ = some (.int .u8 49) := hx 5 (by decide)
  clear hx hl h4
  generalize hs0 : st j = s0 at c0 c1 hl' x0 x1 x2 x3 x4 x5
  clear hs0
  go_enter Yba.func14, Yba.ntmps14
  go_wp2_with (go_at_call 12; refine (at_any hD hk _ (5 * (2 * j + 1)) (by omega) (by omega) (by omega)).mono ?_; rintro e w' ⟨rfl, rfl⟩)
  go_quiet (fail)
  go_wp2_with fail
  refine (unescape6 gt (s0 + 1) (ct - s0 - 1) _ (by omega) (dn nq x0) (dn nq x1) (dn nq x2) (dn nq x3) (dn nq x4) (dn nq x5)).mono ?_
  rintro e w1 ⟨rfl, hb1⟩
  go_wp2
  go_ret
  exact ⟨rfl, (belowN (Below.refl _ _) nq).trans hb1⟩

set_option maxHeartbeats 800000 in
/-- The name at node 2j+1, escaped, of which 'chars' gives 'out'. -/
theorem nameIs_esc {w : World} {f : Nat → Int} {k d gb gn cn gt nt ct : Nat} {st : Nat → Nat} (hD : DocAt w f k d gb gn cn gt nt ct st) (hk : k ≤ 1000) (j : Nat) (hj : j < k) (hesc : escOf (f j) = true) (out : ByteArray)
    (hch : Hid (∀ w1, DocAt w1 f k d gb gn cn gt nt ct st → Calls Yba.prog 14 #[.pointer (some ⟨d, 0, none⟩), .int .u32 (2 * j + 1)] w1 fun e w' => e = .returned (.string out) ∧ Below w1.heap.size w1 w')) (name : ByteArray) :
    Calls Yba.prog 11 #[.pointer (some ⟨d, 0, none⟩), .int .u32 (2 * j + 1), .string name] w fun e w' => e = .returned (.bool (out.toList == name.toList)) ∧ Below w.heap.size w w' := by
  have c4 := hD.nm4 j hj
  rw [hesc] at c4
  go_enter Yba.func11, Yba.ntmps11
  go_wp2_with (go_at_call 12; refine (at_any hD hk _ (5 * (2 * j + 1)) (by omega) (by omega) (by omega)).mono ?_; rintro e w' ⟨rfl, rfl⟩)
  refine (hch.out _ hD).mono ?_
  rintro e w1 ⟨rfl, hb1⟩
  go_wp2
  go_ret
  exact ⟨rfl, hb1⟩

/-- The name at node 2j+1. -/
theorem nameIs_any {w : World} {f : Nat → Int} {k d gb gn cn gt nt ct : Nat} {st : Nat → Nat} (hD : DocAt w f k d gb gn cn gt nt ct st) (hk : k ≤ 1000) (hf : ∀ j, 0 ≤ f j ∧ f j ≤ 5) (j : Nat) (hj : j < k) (name : ByteArray) :
    Calls Yba.prog 11 #[.pointer (some ⟨d, 0, none⟩), .int .u32 (2 * j + 1), .string name] w fun e w' => e = .returned (.bool ((decOf (f j)).toList == name.toList)) ∧ Below w.heap.size w w' := by
  obtain ⟨h0, h5⟩ := hf j
  cases he : escOf (f j)
  · have h := nameIs_plain hD hk j hj he name
    rwa [raw_dec (f j) h0 he] at h
  · have h4 : 4 ≤ f j := of_decide_eq_true he
    have h45 : f j = 4 ∨ f j = 5 := by omega
    rcases h45 with e | e
    · have h := nameIs_esc hD hk j hj he ⟨#[97, 10, 98]⟩ (fun w1 h1 => chars4 h1 hk j hj e) name
      rw [e]
      exact h
    · have h := nameIs_esc hD hk j hj he ⟨#[65]⟩ (fun w1 h1 => chars6 h1 hk j hj e) name
      rw [e]
      exact h
end Go.Proofs.Ybulkcyvy
