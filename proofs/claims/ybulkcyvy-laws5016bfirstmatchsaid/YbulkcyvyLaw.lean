import Derived.Test.YbulkcyvyMember
import Derived.Test.YbulkcyvyBuild
import Derived.LaidEqlPtr
namespace Go.Proofs.Ybulkcyvy
open Go.RowKit

/-- The name asked for. -/
def askOf (q : Int) (s : ByteArray) : ByteArray := if q % 8 < 6 then decOf (q % 8) else s

set_option maxHeartbeats 400000 in
theorem query_any (q : Int) (s : ByteArray) (w : World) (h0 : 0 ≤ q) (h1 : q ≤ 255) :
    Calls Yba.prog 6 #[.int .u8 q, .string s] w fun e w' => e = .returned (.string (askOf q s)) ∧ w' = w := by
  by_cases h : q % 8 < 6
  · have e : askOf q s = decOf (q % 8) := if_pos h
    rw [e]
    go_enter Yba.func6, Yba.ntmps6
    go_wp2_with (go_at_call 8; refine (name_any _ _ (by omega) (by omega)).mono ?_; rintro e w' ⟨rfl, rfl⟩)
    go_ret
    exact ⟨rfl, rfl⟩
  · have e : askOf q s = s := if_neg h
    rw [e]
    go_enter Yba.func6, Yba.ntmps6
    go_wp2
    go_ret
    exact ⟨rfl, rfl⟩

theorem first_hit (p : Nat → Bool) : ∀ k, (∃ i, i < k ∧ (∀ j, j < i → p j = false) ∧ p i = true) ∨ ∀ j, j < k → p j = false
  | 0 => Or.inr fun j hj => absurd hj (by omega)
  | k + 1 => by
    rcases first_hit p k with ⟨i, h1, h2, h3⟩ | h
    · exact Or.inl ⟨i, by omega, h2, h3⟩
    · cases hk : p k
      · exact Or.inr fun j hj => by
          by_cases e : j = k
          · rw [e]; exact hk
          · exact h j (by omega)
      · exact Or.inl ⟨k, by omega, h, hk⟩

theorem member_hit {f : Nat → Int} {k d gb gn cn gt nt ct : Nat} {st : Nat → Nat} (hk : k ≤ 1000) (hf : ∀ j, 0 ≤ f j ∧ f j ≤ 5) (name : ByteArray) (w : World) (hD : DocAt w f k d gb gn cn gt nt ct st) (hgt : gt < w.heap.size) (i : Nat) (hi : i < k) (h1 : ∀ j, j < i → hit f name j = false) (h2 : hit f name i = true) :
    Calls Yba.prog 7 #[.agg #[.pointer (some ⟨d, 0, none⟩), .int .u32 0], .string name] w fun e w' => e = .returned (.tuple #[.agg #[.pointer (some ⟨d, 0, none⟩), .int .u32 (2 * (i : Int) + 2)], .bool true]) ∧ Below w.heap.size w w' := by
  refine (callsIn_wide.1 (member_in 6 (by omega) hk hf name w hD hgt)).mono ?_
  rintro e w' ⟨hb, ⟨i', hi', h1', h2', rfl⟩ | ⟨hno, rfl⟩⟩
  · have : i' = i := by
      rcases Nat.lt_trichotomy i' i with h | h | h
      · rw [h1 i' h] at h2'; cases h2'
      · exact h
      · rw [h1' i h] at h2; cases h2
    subst this
    exact ⟨rfl, hb⟩
  · rw [hno i hi] at h2; cases h2
theorem member_none {f : Nat → Int} {k d gb gn cn gt nt ct : Nat} {st : Nat → Nat} (hk : k ≤ 1000) (hf : ∀ j, 0 ≤ f j ∧ f j ≤ 5) (name : ByteArray) (w : World) (hD : DocAt w f k d gb gn cn gt nt ct st) (hgt : gt < w.heap.size) (h : ∀ j, j < k → hit f name j = false) :
    Calls Yba.prog 7 #[.agg #[.pointer (some ⟨d, 0, none⟩), .int .u32 0], .string name] w fun e w' => e = .returned (.tuple #[.agg #[.pointer none, .int .u32 0], .bool false]) ∧ Below w.heap.size w w' := by
  refine (callsIn_wide.1 (member_in 6 (by omega) hk hf name w hD hgt)).mono ?_
  rintro e w' ⟨hb, ⟨i', hi', h1', h2', rfl⟩ | ⟨hno, rfl⟩⟩
  · rw [h i' hi'] at h2'; cases h2'
  · exact ⟨rfl, hb⟩

theorem ret_bool {a b : Bool} (h : a = b) : Ending.returned (.bool a) = .returned (.bool b) := by rw [h]
theorem zero_eql (w : World) : (binOp .eql 30 (.agg #[.pointer none, .int .u32 0]) (.agg #[.pointer none, .int .u32 0])).run Yba.prog w = .ok (.bool true) w := by kernel_rfl

set_option maxHeartbeats 2000000 in
set_option maxRecDepth 100000 in
theorem law_any (ao : Option Addr) (len cap : Nat) (ns : List Int) (q : Int) (s : ByteArray) (w : World) (hlen : len ≤ 1000) (hs : s.size ≤ 1024) (hq : 0 ≤ q ∧ q ≤ 255)
    (hc : ∀ k, k < len → ∃ b off, ao = some ⟨b, off, none⟩ ∧ w.cell? ⟨b, off + k, none⟩ = some (.int .u8 (ns.getD k 0))) (hns : ∀ k, 0 ≤ ns.getD k 0 ∧ ns.getD k 0 ≤ 255) :
    Calls Yba.prog 3 #[.slice ao len cap, .int .u8 q, .string s] w fun e w' => e = .returned (.bool true) ∧ Below w.heap.size w w' := by
  obtain ⟨f, hf⟩ : ∃ f : Nat → Int, ∀ j, f j = ns.getD j 0 % 6 := ⟨_, fun _ => rfl⟩
  have hf6 : ∀ j, 0 ≤ f j ∧ f j ≤ 5 := fun j => by rw [hf j]; omega
  have Hb := (build_any ao len cap ns f hf w hlen hc hns)
  have HB : Hid (Calls Yba.prog 5 #[.slice ao len cap] w _) := Hb
  clear Hb hc hns hf
  have Hf : Hid (∀ j, 0 ≤ f j ∧ f j ≤ 5) := hf6
  clear hf6
  obtain ⟨j56, hj56⟩ : ∃ j, Yba.prog.info? 56 = some j := by
    have h : (Yba.prog.info? 56).isSome = true := by kernel_rfl
    exact Option.isSome_iff_exists.1 h
  have hpp := fun (a : Addr) (w : World) => run_eql_ptr_same (P := Yba.prog) w a Yba.underlying23 hj56
  have hzz := zero_eql
  have hd1 : decide ((1000 : Int) < (len : Int)) = false := by simp; omega
  have hd2 : decide ((1024 : Int) < (s.size : Int)) = false := by simp; omega
  rcases first_hit (hit f (askOf q s)) len with ⟨i, hi, h1, h2⟩ | hno
  · have H1 : Hid (∀ j, j < i → hit f (askOf q s) j = false) := h1
    have H2 : Hid (hit f (askOf q s) i = true) := h2
    clear h1 h2
    go_enter Yba.func3, Yba.ntmps3
    go_wp2_with fail
    refine HB.out.mono ?_
    rintro e w1 ⟨d, gb, gn, cn, gt, nt, ct, st, gm, rfl, hD, hM, hb1, hgt⟩
    go_wp2_with fail
    refine (query_any q s _ hq.1 hq.2).mono ?_
    rintro e w1' ⟨rfl, rfl⟩
    generalize hname : askOf q s = name at *
    clear hname HB
    have HM : Hid (∀ j, j < len → w1'.cell? ⟨gm, j, none⟩ = some (.string (decOf (f j)))) := fun j hj => by
      rw [hM.cellAt j (by omega)]
      simp [namesOf, hj]
    clear hM
    go_wp2
    go_loopg [10, 11] len (fun g x j wr => w1' = wr ∧ ∃ k : Nat, k ≤ i ∧ g = len - k ∧ j = .int .i64 k ∧ x = .int .i64 (-1))
    case atStart => exact ⟨rfl, 0, Nat.zero_le _, rfl, rfl, rfl⟩
    case round =>
      obtain ⟨rfl, k, hk, hgk, rfl, rfl⟩ := hrel
      have HG : Hid (gk = len - k) := hgk
      clear hgk
      have hcx := HM.out k (by omega)
      have hkl : (k : Int) < (len : Int) := by omega
      by_cases hki : k < i
      · have hne : ((decOf (f k)).toList == name.toList) = false := H1.out k hki
        generalize decOf (f k) = dk at hcx hne
        go_wp2
        go_roundg (len - (k + 1))
        case measure => rw [HG.out]; omega
        case rel => exact ⟨rfl, k + 1, by omega, rfl, by go_num, rfl⟩
      · obtain rfl : k = i := by omega
        have heq : ((decOf (f k)).toList == name.toList) = true := H2.out
        generalize decOf (f k) = dk at hcx heq
        go_wp2_with fail
        refine (member_hit hlen Hf.out name _ hD hgt k hi H1.out H2.out).mono ?_
        rintro e w2 ⟨rfl, hb2⟩
        go_wp2
        go_ret
        exact ⟨ret_bool (beq_iff_eq.2 (by omega)), (hb1.trans (hb2.mono hb1.size)).alloc (Nat.le_trans hb1.size hb2.size) _⟩
  · have H1 : Hid (∀ j, j < len → hit f (askOf q s) j = false) := hno
    clear hno
    go_enter Yba.func3, Yba.ntmps3
    go_wp2_with fail
    refine HB.out.mono ?_
    rintro e w1 ⟨d, gb, gn, cn, gt, nt, ct, st, gm, rfl, hD, hM, hb1, hgt⟩
    go_wp2_with fail
    refine (query_any q s _ hq.1 hq.2).mono ?_
    rintro e w1' ⟨rfl, rfl⟩
    generalize hname : askOf q s = name at *
    clear hname HB
    have HM : Hid (∀ j, j < len → w1'.cell? ⟨gm, j, none⟩ = some (.string (decOf (f j)))) := fun j hj => by
      rw [hM.cellAt j (by omega)]
      simp [namesOf, hj]
    clear hM
    go_wp2
    go_loopg [10, 11] len (fun g x j wr => w1' = wr ∧ ∃ k : Nat, k ≤ len ∧ g = len - k ∧ j = .int .i64 k ∧ x = .int .i64 (-1))
    case atStart => exact ⟨rfl, 0, Nat.zero_le _, rfl, rfl, rfl⟩
    case round =>
      obtain ⟨rfl, k, hk, hgk, rfl, rfl⟩ := hrel
      have HG : Hid (gk = len - k) := hgk
      clear hgk
      by_cases hki : k < len
      · have hcx := HM.out k (by omega)
        have hne : ((decOf (f k)).toList == name.toList) = false := H1.out k hki
        generalize decOf (f k) = dk at hcx hne
        go_wp2
        go_roundg (len - (k + 1))
        case measure => rw [HG.out]; omega
        case rel => exact ⟨rfl, k + 1, by omega, rfl, by go_num, rfl⟩
      · go_wp2_with fail
        refine (member_none hlen Hf.out name _ hD hgt H1.out).mono ?_
        rintro e w2 ⟨rfl, hb2⟩
        go_wp2
        go_ret
        exact ⟨rfl, (hb1.trans (hb2.mono hb1.size)).alloc (Nat.le_trans hb1.size hb2.size) _⟩

/-- Every input: beyond the bounds the law answers at once. -/
theorem law_all (ao : Option Addr) (len cap : Nat) (ns : List Int) (q : Int) (s : ByteArray) (w : World) (hq : 0 ≤ q ∧ q ≤ 255)
    (hc : ∀ k, k < len → ∃ b off, ao = some ⟨b, off, none⟩ ∧ w.cell? ⟨b, off + k, none⟩ = some (.int .u8 (ns.getD k 0))) (hns : ∀ k, 0 ≤ ns.getD k 0 ∧ ns.getD k 0 ≤ 255) :
    Calls Yba.prog 3 #[.slice ao len cap, .int .u8 q, .string s] w fun e w' => e = .returned (.bool true) ∧ Below w.heap.size w w' := by
  by_cases hl : len ≤ 1000
  · by_cases hs : s.size ≤ 1024
    · exact law_any ao len cap ns q s w hl hs hq hc hns
    · clear hc hns
      have hl' : decide ((1000 : Int) < (len : Int)) = false := by simp; omega
      have hs' : decide ((1024 : Int) < (s.size : Int)) = true := by simp; omega
      go_enter Yba.func3, Yba.ntmps3
      go_wp2
      go_ret
      exact ⟨rfl, Below.refl _ _⟩
  · clear hc hns
    have hl' : decide ((1000 : Int) < (len : Int)) = true := by simp; omega
    go_enter Yba.func3, Yba.ntmps3
    go_wp2
    go_ret
    exact ⟨rfl, Below.refl _ _⟩
end Go.Proofs.Ybulkcyvy
