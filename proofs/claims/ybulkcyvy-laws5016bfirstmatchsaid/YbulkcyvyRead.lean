import Derived.Test.YbulkcyvyDoc
import Derived.Deep.QuietTactic
import Derived.BigQuiet
import Derived.Lib.SlBytesRow
import Derived.WalkSmall
namespace Go.Proofs.Ybulkcyvy
open Go.RowKit

theorem ret_ptr {a o o' : Nat} (h : o = o') : Ending.returned (.pointer (some ⟨a, o, none⟩)) = .returned (.pointer (some ⟨a, o', none⟩)) := by rw [h]
theorem cell_later {w w' : World} (hb : Below w.heap.size w w') {p : Addr} {v : Value} (h : w.cell? p = some v) : w'.cell? p = some v :=
  (hb.cell (World.block_lt_of_cell? _ _ h)).trans h
theorem DocAt.later {w w' : World} {f : Nat → Int} {k d gb gn cn gt nt ct : Nat} {st : Nat → Nat} (h : DocAt w f k d gb gn cn gt nt ct st) (hb : Below w.heap.size w w') : DocAt w' f k d gb gn cn gt nt ct st :=
  ⟨cell_later hb h.text, cell_later hb h.blocks, cell_later hb h.row, h.tle, h.tbd, cell_later hb h.kind0, cell_later hb h.next0, fun j hj => cell_later hb (h.nm0 j hj), fun j hj => cell_later hb (h.nm1 j hj),
    fun j hj => cell_later hb (h.nm4 j hj), fun j hj => cell_later hb (h.nx j hj), fun j hj => ⟨(h.tx j hj).1, fun i hi => cell_later hb ((h.tx j hj).2 i hi)⟩⟩

theorem belowN {B : Nat} {a w : World} (h : Below B a w) (n : Nat) : Below B a (w.drewN n) := h.trans ⟨rfl, rfl, rfl, Nat.le_refl _, fun _ _ => rfl⟩
theorem DocAt.drewN {w : World} {f : Nat → Int} {k d gb gn cn gt nt ct : Nat} {st : Nat → Nat} (h : DocAt w f k d gb gn cn gt nt ct st) (n : Nat) : DocAt (w.drewN n) f k d gb gn cn gt nt ct st :=
  h.later (belowN (Below.refl _ _) n)

set_option maxHeartbeats 400000 in
/-- Node i. -/
theorem at_any {w : World} {f : Nat → Int} {k d gb gn cn gt nt ct : Nat} {st : Nat → Nat} (hD : DocAt w f k d gb gn cn gt nt ct st) (hk : k ≤ 1000) (i : Int) (o : Nat) (h0 : 0 ≤ i) (hi : i < 2 * k + 1) (ho : o = 5 * i.toNat) :
    Calls Yba.prog 12 #[.pointer (some ⟨d, 1, none⟩), .int .u32 i] w fun e w' => e = .returned (.pointer (some ⟨gn, o, none⟩)) ∧ w' = w := by
  obtain ⟨m, rfl⟩ := Int.eq_ofNat_of_zero_le h0
  have h1 := hD.blocks
  have h2 : w.cell? ⟨gb, m / 4096, none⟩ = some (.slice (some ⟨gn, 0, none⟩) (2 * k + 1) cn) := by
    rw [show m / 4096 = 0 from by omega]
    exact hD.row
  have hm : m < 4096 := by omega
  have Ho : Hid (o = 5 * (m : Int).toNat) := ho
  clear ho
  go_enter Yba.func12, Yba.ntmps12
  go_wp2
  go_ret
  exact ⟨ret_ptr (by rw [Ho.out]; omega), rfl⟩

set_option maxHeartbeats 400000 in
/-- The root's kind. -/
theorem kind_any {w : World} {f : Nat → Int} {k d gb gn cn gt nt ct : Nat} {st : Nat → Nat} (hD : DocAt w f k d gb gn cn gt nt ct st) (hk : k ≤ 1000) :
    Calls Yba.prog 9 #[.agg #[.pointer (some ⟨d, 0, none⟩), .int .u32 0]] w fun e w' => e = .returned (.int .u8 6) ∧ Below w.heap.size w w' := by
  have hD' := hD.later (below_alloc w (.cells #[.pointer (some ⟨d, 0, none⟩), .int .u32 0] 30))
  have hk0 := hD'.kind0
  go_enter Yba.func9, Yba.ntmps9
  go_wp2
  go_quiet ((go_at_call 12; exact Calls.quiet_of_same (at_any (hD'.drewN _) hk 0 0 (by omega) (by omega) (by omega))))
  go_wp2
  go_ret
  exact ⟨rfl, belowN (below_alloc _ _) _⟩

set_option maxHeartbeats 800000 in
/-- The name at node 2j+1, not escaped. -/
theorem nameIs_plain {w : World} {f : Nat → Int} {k d gb gn cn gt nt ct : Nat} {st : Nat → Nat} (hD : DocAt w f k d gb gn cn gt nt ct st) (hk : k ≤ 1000) (j : Nat) (hj : j < k) (hesc : escOf (f j) = false) (name : ByteArray) :
    Calls Yba.prog 11 #[.pointer (some ⟨d, 0, none⟩), .int .u32 (2 * j + 1), .string name] w fun e w' => e = .returned (.bool ((rawOf (f j)).toList == name.toList)) ∧ Below w.heap.size w w' := by
  have c0 := hD.nm0 j hj
  have c1 := hD.nm1 j hj
  have c4 := hD.nm4 j hj
  rw [hesc] at c4
  have ht := hD.text
  obtain ⟨hl, hx⟩ := hD.tx j hj
  have htb := hD.tbd
  have htle := hD.tle
  have hr := raw_le (f j)
  have hconv := fun q => Lib.run_convert_whole (P := Yba.prog) (w.drewN q) 22 5 9 Yba.underlying22 Yba.underlying5 Yba.underlying9 gt (st j + 1) (rawOf (f j)) (fun i hi => by simpa using hx i hi) (ct - (st j + 1))
  clear hx
  generalize hraw : rawOf (f j) = raw at *
  generalize hs0 : st j = s0 at *
  clear hraw hs0
  go_enter Yba.func11, Yba.ntmps11
  go_wp2_with (go_at_call 12; refine (at_any hD hk _ (5 * (2 * j + 1)) (by omega) (by omega) (by omega)).mono ?_; rintro e w' ⟨rfl, rfl⟩)
  go_quiet (fail)
  go_wp2
  go_ret
  exact ⟨rfl, belowN (Below.refl _ _) _⟩
end Go.Proofs.Ybulkcyvy
