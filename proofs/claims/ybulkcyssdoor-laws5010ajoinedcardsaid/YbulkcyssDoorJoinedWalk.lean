import Derived.Test.YbulkcyssDoorJoin
import Derived.OpenShut
namespace Go.Proofs.YbulkcyssDoor
open Go.RowKit Go.Extern.Stop Go.Stop Go.Extern

/-- A sentinel or nil, whatever the world. -/
def SentV (a : Nat → Addr) (v : Value) (r : Bool) : Prop :=
  (v = .nilIface ∧ r = false) ∨ ∃ i, i < 7 ∧ v = .iface 39 (.pointer (some (a i))) ∧ r = decide (i = 5)

theorem SentV.chain {w : World} {a : Nat → Addr} {v : Value} {r : Bool} (hS : Sent w a) (h : SentV a v r) : Chain w (a 5) 0 v r := by
  rcases h with h | ⟨i, hi, rfl, rfl⟩
  · exact Or.inl h
  · by_cases h5 : i = 5
    · subst h5
      exact Or.inr (Or.inl ⟨rfl, rfl⟩)
    · have := chain_sent hS i hi h5
      rwa [show decide (i = 5) = false from decide_eq_false h5]
theorem SentV.isErr {a : Nat → Addr} {v : Value} {r : Bool} (h : SentV a v r) : IsErr v := by
  rcases h with ⟨rfl, _⟩ | ⟨i, _, rfl, _⟩
  · exact Or.inl rfl
  · exact Or.inr ⟨_, _, rfl⟩

set_option maxHeartbeats 800000 in
theorem pick_sent (k : Int) (s : ByteArray) (a : Nat → Addr) (w : World) (h0 : 0 ≤ k) (h7 : k ≤ 7) (hS : Sent w a) :
    Calls Ybad.prog 5 #[.int .i64 k, .string s] w fun e w' => ∃ v, e = .returned v ∧ w' = w ∧ SentV a v (decide (k = 6)) := by
  have g0 := hS.cell 0 (by omega)
  have g1 := hS.cell 1 (by omega)
  have g2 := hS.cell 2 (by omega)
  have g3 := hS.cell 3 (by omega)
  have g4 := hS.cell 4 (by omega)
  have g5 := hS.cell 5 (by omega)
  have g6 := hS.cell 6 (by omega)
  have cases8 : k = 0 ∨ k = 1 ∨ k = 2 ∨ k = 3 ∨ k = 4 ∨ k = 5 ∨ k = 6 ∨ k = 7 := by omega
  rcases cases8 with rfl | rfl | rfl | rfl | rfl | rfl | rfl | rfl
  · go_enter Ybad.func5, Ybad.ntmps5
    go_wp2
    go_ret
    exact ⟨_, rfl, rfl, Or.inl ⟨rfl, rfl⟩⟩
  · go_enter Ybad.func5, Ybad.ntmps5
    go_wp2
    go_ret
    exact ⟨_, rfl, rfl, Or.inr ⟨0, by omega, rfl, rfl⟩⟩
  · go_enter Ybad.func5, Ybad.ntmps5
    go_wp2
    go_ret
    exact ⟨_, rfl, rfl, Or.inr ⟨1, by omega, rfl, rfl⟩⟩
  · go_enter Ybad.func5, Ybad.ntmps5
    go_wp2
    go_ret
    exact ⟨_, rfl, rfl, Or.inr ⟨2, by omega, rfl, rfl⟩⟩
  · go_enter Ybad.func5, Ybad.ntmps5
    go_wp2
    go_ret
    exact ⟨_, rfl, rfl, Or.inr ⟨3, by omega, rfl, rfl⟩⟩
  · go_enter Ybad.func5, Ybad.ntmps5
    go_wp2
    go_ret
    exact ⟨_, rfl, rfl, Or.inr ⟨4, by omega, rfl, rfl⟩⟩
  · go_enter Ybad.func5, Ybad.ntmps5
    go_wp2
    go_ret
    exact ⟨_, rfl, rfl, Or.inr ⟨5, by omega, rfl, rfl⟩⟩
  · go_enter Ybad.func5, Ybad.ntmps5
    go_wp2
    go_ret
    exact ⟨_, rfl, rfl, Or.inr ⟨6, by omega, rfl, rfl⟩⟩

/-- An element of the joined slice: a sentinel or nil, or a wrap of one in a block of its own. -/
def Good (a : Nat → Addr) (w : World) (y : Value) (r : Bool) : Prop :=
  SentV a y r ∨ ∃ (pb : Nat) (v : Value), y = .iface 25 (.pointer (some ⟨pb, 0, none⟩)) ∧ w.heap[pb]? = some (.cells #[v] 27 (0, 0)) ∧ SentV a v r

theorem Good.later {a : Nat → Addr} {w w' : World} {y : Value} {r : Bool} (h : Good a w y r) (hk : ∀ (pb : Nat) (v : Value), w.heap[pb]? = some (.cells #[v] 27 (0, 0)) → w'.heap[pb]? = some (.cells #[v] 27 (0, 0))) : Good a w' y r := by
  rcases h with h | ⟨pb, v, h1, h2, h3⟩
  · exact Or.inl h
  · exact Or.inr ⟨pb, v, h1, hk pb v h2, h3⟩
theorem Good.isErr {a : Nat → Addr} {w : World} {v : Value} {r : Bool} (h : Good a w v r) : IsErr v := by
  rcases h with h | ⟨pb, v, rfl, _⟩
  · exact h.isErr
  · exact Or.inr ⟨_, _, rfl⟩
theorem Good.chain {a : Nat → Addr} {w : World} {v : Value} {r : Bool} (hS : Sent w a) (h : Good a w v r) : ∃ n, Chain w (a 5) n v r := by
  rcases h with h | ⟨pb, v, rfl, hc, h⟩
  · exact ⟨0, h.chain hS⟩
  · exact ⟨1, pb, 0, v, rfl, cell_of_one hc, h.chain hS⟩
theorem Good.nil {a : Nat → Addr} {w : World} {r : Bool} (h : Good a w .nilIface r) : r = false := by
  rcases h with (⟨_, h⟩ | ⟨i, _, h, _⟩) | ⟨pb, v, h, _⟩
  · exact h
  · cases h
  · cases h

/-- The loop's relation: the elements so far, each with its answer. -/
structure ERel (a : Nat → Addr) (w wr : World) (zs : List (Value × Bool)) (len : Nat) : Prop where
  own : wr.ownsRow w.heap.size 23 1 (.slice (some ⟨w.heap.size, 0, none⟩) zs.length len) zs.length (zs.map Prod.fst)
  good : ∀ p ∈ zs, Good a wr p.1 p.2
  bel : Below w.heap.size w wr

theorem ERel.row {a : Nat → Addr} {w wr : World} {zs : List (Value × Bool)} {len : Nat} (h : ERel a w wr zs len) : ∃ cur, wr.heap[w.heap.size]? = some (.cells cur 23 (0, 0)) := by
  rcases h.own.2 with ⟨h', _⟩ | ⟨g, cap, cur, h', _, hg, _⟩
  · simp at h'
  · simp only [Value.slice.injEq, Option.some.injEq, Addr.mk.injEq, and_true, true_and] at h'
    obtain ⟨rfl, rfl⟩ := h'
    exact ⟨cur, hg⟩

/-- One element more: y, a sentinel or a wrap, in the world wx behind wr; w1: behind the append. -/
theorem ERel.push {a : Nat → Addr} {w wr wx w1 : World} {zs : List (Value × Bool)} {len : Nat} {y : Value} {r : Bool} {o : Obj} (h : ERel a w wr zs len) (hx : Below wr.heap.size wr wx) (hy : Good a wx y r)
    (hown : w1.ownsRow w.heap.size 23 1 (.slice (some ⟨w.heap.size, 0, none⟩) (zs.length + 1) len) (zs.length + 1) (zs.map Prod.fst ++ [y])) (hg : (wx.alloc o).grownBy w1 (some w.heap.size)) :
    ERel a w w1 (zs ++ [(y, r)]) len := by
  obtain ⟨cur, hrow⟩ := h.row
  have hrl := lt_of_heap hrow
  have hrowx : wx.heap[w.heap.size]? = some (.cells cur 23 (0, 0)) := (hx.block _ hrl).trans hrow
  have hkeep : ∀ (pb : Nat) (v : Value), wx.heap[pb]? = some (.cells #[v] 27 (0, 0)) → w1.heap[pb]? = some (.cells #[v] 27 (0, 0)) := fun pb v hv => by
    have hpl := lt_of_heap hv
    rw [hg.block pb (by simp; omega) (fun e => by
      obtain rfl := Option.some.inj e
      rw [hrowx] at hv
      cases hv)]
    exact ((MapKept.heap_alloc wx o).2 pb hpl).trans hv
  refine ⟨by simpa using hown, fun p hp => ?_, ?_⟩
  · rcases List.mem_append.1 hp with hp | hp
    · exact Good.later (Good.later (h.good p hp) fun pb v hv => (hx.block pb (lt_of_heap hv)).trans hv) hkeep
    · obtain rfl := List.mem_singleton.1 hp
      exact Good.later hy hkeep
  · have hb2 : Below w.heap.size w wx := h.bel.trans (hx.mono (h.bel.size))
    exact (hb2.alloc hb2.size o).grown hg (by simp; have := hb2.size; omega) (fun k hk => by cases hk; exact Nat.le_refl _)

/-- The status that is wanted. -/
def wantOf (r : Bool) : Int := if r then 413 else 403
theorem any_push (zs : List (Value × Bool)) (y : Value) (r : Bool) : (zs ++ [(y, r)]).any Prod.snd = (zs.any Prod.snd || r) := by simp

theorem filt_map (zs : List (Value × Bool)) : (zs.map Prod.fst).filter nn = (zs.filter fun p => nn p.1).map Prod.fst := by
  rw [List.filter_map]
  rfl
theorem filt_any {zs : List (Value × Bool)} (h : ∀ p ∈ zs, p.1 = .nilIface → p.2 = false) : (zs.filter fun p => nn p.1).any Prod.snd = zs.any Prod.snd := by
  induction zs with
  | nil => rfl
  | cons p r ih =>
    have hr := ih fun q hq => h q (List.mem_cons_of_mem _ hq)
    cases hp : nn p.1
    · have h0 : p.1 = .nilIface := by
        unfold nn at hp
        split at hp
        · assumption
        · cases hp
      have h2 := h p (List.mem_cons_self ..) h0
      rw [List.filter_cons_of_neg (by simp [hp]), hr, List.any_cons, h2]
      rfl
    · rw [List.filter_cons_of_pos (by simpa using hp), List.any_cons, List.any_cons, hr]
theorem cell_one {w : World} {ad : Addr} {u : Value} (h : w.cell? (ad.add 0) = some u) : ∀ j x, [u][j]? = some x → w.cell? (ad.add j) = some x := by
  intro j x hx
  match j, hx with
  | 0, hx => simp at hx; subst hx; exact h
theorem one_cell {u : Value} (h : u.oneCell' = true) : ∀ x ∈ [u], x.oneCell' = true := by
  intro x hx
  obtain rfl := List.mem_singleton.1 hx
  exact h

set_option maxHeartbeats 1600000 in
theorem joined_law (ao : Option Addr) (len cap : Nat) (ns : List Int) (a : Nat → Addr) (w : World) (hS : Sent w a) (hlen : len ≤ 1024)
    (hc : ∀ k, k < len → ∃ b off, ao = some ⟨b, off, none⟩ ∧ w.cell? ⟨b, off + k, none⟩ = some (.int .u8 (ns.getD k 0))) (hns : ∀ k, 0 ≤ ns.getD k 0 ∧ ns.getD k 0 ≤ 255) :
    Calls Ybad.prog 4 #[.slice ao len cap] w fun e w' => e = .returned (.bool true) ∧ Below w.heap.size w w' := by
  obtain ⟨i0, hi, hz0, hz1, hz2⟩ := info_parts info23
  have Hc : Hid (∀ k, k < len → ∃ b off, ao = some ⟨b, off, none⟩ ∧ w.cell? ⟨b, off + k, none⟩ = some (.int .u8 (ns.getD k 0))) := hc
  have Hn : Hid (∀ k, 0 ≤ ns.getD k 0 ∧ ns.getD k 0 ≤ 255) := hns
  clear hc hns
  go_enter Ybad.func4, Ybad.ntmps4
  go_wp2_with (at_make; refine wpList_make_own _ rfl _ _ 31 rfl w.heap.size 23 i0 .nilIface 1 Ybad.underlying31 hi hz0 hz1 _ _ _ len rfl rfl (by omega) ?b2 ?b3 (Nat.le_refl _) ?_)
  case b2 => rw [hz2]; omega
  case b3 => unfold maxLen; omega
  intro w0 hown0 hgrow0
  have hbel0 : Below w.heap.size w w0 := (Below.refl _ _).grown hgrow0 (Nat.le_refl _) (fun k h => by cases h)
  go_wp2
  go_loopg [3, 4, 17] len (fun gk es want i wr => ∃ zs : List (Value × Bool), zs.length ≤ len ∧ gk = len - zs.length ∧ i = .int .i64 zs.length ∧ es = .slice (some ⟨w.heap.size, 0, none⟩) zs.length len ∧ want = .int .i64 (wantOf (zs.any Prod.snd)) ∧ ERel a w wr zs len)
  case atStart => exact ⟨[], Nat.zero_le _, rfl, rfl, rfl, rfl, ⟨by simpa using hown0, by simp, hbel0⟩⟩
  case round =>
    obtain ⟨zs, hk, hgk, rfl, rfl, rfl, hR⟩ := hrel
    have HG : Hid (gk = len - zs.length) := hgk
    clear hgk
    by_cases hlt : zs.length < len
    · obtain ⟨b, off, rfl, hcw⟩ := Hc.out zs.length hlt
      have hb8 := Hn.out zs.length
      generalize ns.getD zs.length 0 = s at hcw hb8
      have hcx : wr.cell? ⟨b, off + zs.length, none⟩ = some (.int .u8 s) := (hR.bel.cell (by exact lt_of_cell hcw)).trans hcw
      clear hcw
      have hSr := hS.later hR.bel
      by_cases h6 : s % 8 = 6
      · by_cases hw : s / 8 % 2 = 1
        · have h6' : (s % 8 == 6) = true := by simp [h6]
          have hw' : (s / 8 % 2 == 1) = true := by simp [hw]
          have HD : Hid (decide (s % 8 = 6) = true) := decide_eq_true h6
          clear h6 hw
          go_wp2_with fail
          refine (pick_sent _ _ a _ (by omega) (by omega) hSr).mono ?_
          rintro e w' ⟨v, rfl, rfl, hv⟩
          rw [HD.out] at hv
          rcases hv.isErr with rfl | ⟨t, x, rfl⟩
          · exact absurd (Good.nil (w := w') (Or.inl hv)) (by decide)
          · have hgood : Good a (w'.alloc (.cells #[.iface t x] 27)) (.iface 25 (.pointer (some ⟨w'.heap.size, 0, none⟩))) true := Or.inr ⟨w'.heap.size, .iface t x, rfl, (MapKept.heap_alloc w' _).1, hv⟩
            go_wp2_with (at_builtin; refine wpList_append_fits _ rfl (.tmp 36) (.tmp 38) 31 rfl w.heap.size 23 i0 1 Ybad.underlying31 hi hz1 w.heap.size zs.length len _ rfl ((hR.own.alloc _).alloc _) ⟨w'.heap.size + 1, 0, none⟩ 1 1 [.iface 25 (.pointer (some ⟨w'.heap.size, 0, none⟩))] rfl rfl (cell_one (by simp [Addr.add])) (one_cell rfl) (by omega) ?_; intro w1 hown1 hgrow1)
            have R := hR.push ((Below.refl _ _).alloc (Nat.le_refl _) _) hgood hown1 hgrow1
            have HR : Hid (ERel a w w1 (zs ++ [(.iface 25 (.pointer (some ⟨w'.heap.size, 0, none⟩)), true)]) len) := R
            clear R hown1 hgrow1
            go_wp2
            go_roundg (len - (zs.length + 1))
            case measure => rw [HG.out]; omega
            case rel => exact ⟨zs ++ [(.iface 25 (.pointer (some ⟨w'.heap.size, 0, none⟩)), true)], by simp; omega, by simp, by simp, by simp, by rw [any_push]; simp [wantOf], HR.out⟩
        · have h6' : (s % 8 == 6) = true := by simp [h6]
          have hw' : (s / 8 % 2 == 1) = false := by simp [hw]
          have HD : Hid (decide (s % 8 = 6) = true) := decide_eq_true h6
          clear h6 hw
          go_wp2_with fail
          refine (pick_sent _ _ a _ (by omega) (by omega) hSr).mono ?_
          rintro e w' ⟨v, rfl, rfl, hv⟩
          rw [HD.out] at hv
          rcases hv.isErr with rfl | ⟨t, x, rfl⟩
          · exact absurd (Good.nil (w := w') (Or.inl hv)) (by decide)
          · go_wp2_with (at_builtin; refine wpList_append_fits _ rfl (.tmp 36) (.tmp 38) 31 rfl w.heap.size 23 i0 1 Ybad.underlying31 hi hz1 w.heap.size zs.length len _ rfl (hR.own.alloc _) ⟨w'.heap.size, 0, none⟩ 1 1 [.iface t x] rfl rfl (cell_one (by simp [Addr.add])) (one_cell rfl) (by omega) ?_; intro w1 hown1 hgrow1)
            have R := hR.push (Below.refl _ _) (Or.inl hv) hown1 hgrow1
            have HR : Hid (ERel a w w1 (zs ++ [(.iface t x, true)]) len) := R
            clear R hown1 hgrow1
            go_wp2
            go_roundg (len - (zs.length + 1))
            case measure => rw [HG.out]; omega
            case rel => exact ⟨zs ++ [(.iface t x, true)], by simp; omega, by simp, by simp, by simp, by rw [any_push]; simp [wantOf], HR.out⟩
      · by_cases hw : s / 8 % 2 = 1
        · have h6' : (s % 8 == 6) = false := by simp [h6]
          have hw' : (s / 8 % 2 == 1) = true := by simp [hw]
          have HD : Hid (decide (s % 8 = 6) = false) := decide_eq_false h6
          clear h6 hw
          go_wp2_with fail
          refine (pick_sent _ _ a _ (by omega) (by omega) hSr).mono ?_
          rintro e w' ⟨v, rfl, rfl, hv⟩
          rw [HD.out] at hv
          rcases hv.isErr with rfl | ⟨t, x, rfl⟩
          · have hgood : Good a (w'.alloc (.cells #[.nilIface] 27)) (.iface 25 (.pointer (some ⟨w'.heap.size, 0, none⟩))) false := Or.inr ⟨w'.heap.size, .nilIface, rfl, (MapKept.heap_alloc w' _).1, hv⟩
            go_wp2_with (at_builtin; refine wpList_append_fits _ rfl (.tmp 36) (.tmp 38) 31 rfl w.heap.size 23 i0 1 Ybad.underlying31 hi hz1 w.heap.size zs.length len _ rfl ((hR.own.alloc _).alloc _) ⟨w'.heap.size + 1, 0, none⟩ 1 1 [.iface 25 (.pointer (some ⟨w'.heap.size, 0, none⟩))] rfl rfl (cell_one (by simp [Addr.add])) (one_cell rfl) (by omega) ?_; intro w1 hown1 hgrow1)
            have R := hR.push ((Below.refl _ _).alloc (Nat.le_refl _) _) hgood hown1 hgrow1
            have HR : Hid (ERel a w w1 (zs ++ [(.iface 25 (.pointer (some ⟨w'.heap.size, 0, none⟩)), false)]) len) := R
            clear R hown1 hgrow1
            go_wp2
            go_roundg (len - (zs.length + 1))
            case measure => rw [HG.out]; omega
            case rel => exact ⟨zs ++ [(.iface 25 (.pointer (some ⟨w'.heap.size, 0, none⟩)), false)], by simp; omega, by simp, by simp, by simp, by rw [any_push]; simp, HR.out⟩
          · have hgood : Good a (w'.alloc (.cells #[.iface t x] 27)) (.iface 25 (.pointer (some ⟨w'.heap.size, 0, none⟩))) false := Or.inr ⟨w'.heap.size, .iface t x, rfl, (MapKept.heap_alloc w' _).1, hv⟩
            go_wp2_with (at_builtin; refine wpList_append_fits _ rfl (.tmp 36) (.tmp 38) 31 rfl w.heap.size 23 i0 1 Ybad.underlying31 hi hz1 w.heap.size zs.length len _ rfl ((hR.own.alloc _).alloc _) ⟨w'.heap.size + 1, 0, none⟩ 1 1 [.iface 25 (.pointer (some ⟨w'.heap.size, 0, none⟩))] rfl rfl (cell_one (by simp [Addr.add])) (one_cell rfl) (by omega) ?_; intro w1 hown1 hgrow1)
            have R := hR.push ((Below.refl _ _).alloc (Nat.le_refl _) _) hgood hown1 hgrow1
            have HR : Hid (ERel a w w1 (zs ++ [(.iface 25 (.pointer (some ⟨w'.heap.size, 0, none⟩)), false)]) len) := R
            clear R hown1 hgrow1
            go_wp2
            go_roundg (len - (zs.length + 1))
            case measure => rw [HG.out]; omega
            case rel => exact ⟨zs ++ [(.iface 25 (.pointer (some ⟨w'.heap.size, 0, none⟩)), false)], by simp; omega, by simp, by simp, by simp, by rw [any_push]; simp, HR.out⟩
        · have h6' : (s % 8 == 6) = false := by simp [h6]
          have hw' : (s / 8 % 2 == 1) = false := by simp [hw]
          have HD : Hid (decide (s % 8 = 6) = false) := decide_eq_false h6
          clear h6 hw
          go_wp2_with fail
          refine (pick_sent _ _ a _ (by omega) (by omega) hSr).mono ?_
          rintro e w' ⟨v, rfl, rfl, hv⟩
          rw [HD.out] at hv
          rcases hv.isErr with rfl | ⟨t, x, rfl⟩
          · go_wp2_with (at_builtin; refine wpList_append_fits _ rfl (.tmp 36) (.tmp 38) 31 rfl w.heap.size 23 i0 1 Ybad.underlying31 hi hz1 w.heap.size zs.length len _ rfl (hR.own.alloc _) ⟨w'.heap.size, 0, none⟩ 1 1 [.nilIface] rfl rfl (cell_one (by simp [Addr.add])) (one_cell rfl) (by omega) ?_; intro w1 hown1 hgrow1)
            have R := hR.push (Below.refl _ _) (Or.inl hv) hown1 hgrow1
            have HR : Hid (ERel a w w1 (zs ++ [(.nilIface, false)]) len) := R
            clear R hown1 hgrow1
            go_wp2
            go_roundg (len - (zs.length + 1))
            case measure => rw [HG.out]; omega
            case rel => exact ⟨zs ++ [(.nilIface, false)], by simp; omega, by simp, by simp, by simp, by rw [any_push]; simp, HR.out⟩
          · go_wp2_with (at_builtin; refine wpList_append_fits _ rfl (.tmp 36) (.tmp 38) 31 rfl w.heap.size 23 i0 1 Ybad.underlying31 hi hz1 w.heap.size zs.length len _ rfl (hR.own.alloc _) ⟨w'.heap.size, 0, none⟩ 1 1 [.iface t x] rfl rfl (cell_one (by simp [Addr.add])) (one_cell rfl) (by omega) ?_; intro w1 hown1 hgrow1)
            have R := hR.push (Below.refl _ _) (Or.inl hv) hown1 hgrow1
            have HR : Hid (ERel a w w1 (zs ++ [(.iface t x, false)]) len) := R
            clear R hown1 hgrow1
            go_wp2
            go_roundg (len - (zs.length + 1))
            case measure => rw [HG.out]; omega
            case rel => exact ⟨zs ++ [(.iface t x, false)], by simp; omega, by simp, by simp, by simp, by rw [any_push]; simp, HR.out⟩
    · have hk' : zs.length = len := by omega
      have hSr := hS.later hR.bel
      have g5 := hSr.cell 5 (by omega)
      obtain ⟨cb, tb, hb⟩ := hSr.heap 5 (by omega)
      have hml : (zs.map Prod.fst).length = zs.length := by simp
      subst hk'
      have hj := join_any w.heap.size zs.length w.heap.size (zs.map Prod.fst) wr (by rw [hml]; omega) (by rw [hml]; exact hR.own) (fun x hx => by
        obtain ⟨p, hp, rfl⟩ := List.mem_map.1 hx
        exact Good.isErr (hR.good p hp))
      rw [hml] at hj
      have HJ : Hid (Calls Ybad.prog 7 #[.slice (some ⟨w.heap.size, 0, none⟩) zs.length zs.length] wr _) := hj
      have HA : Hid ((zs.filter fun p => nn p.1).any Prod.snd = zs.any Prod.snd) := filt_any fun p hp e => Good.nil (w := wr) (a := a) (by have := hR.good p hp; rwa [e] at this)
      clear hj hml
      go_wp2_with fail
      refine HJ.out.mono ?_
      rintro e w2 (⟨hf, rfl, rfl⟩ | ⟨hf, J, g2, cap2, rfl, hcJ, hownJ, hbJ⟩)
      · have HW : Hid (zs.any Prod.snd = false) := by
          have h1 := HA.out
          have h2 : (zs.filter fun p => nn p.1) = [] := by
            rw [filt_map] at hf
            exact List.map_eq_nil_iff.1 hf
          rw [h2] at h1
          exact h1.symm
        clear hf HJ
        rw [HW.out]
        go_wp2_with fail
        refine (Status_chain 0 .nilIface false (a 5) cb tb _ g5 hb (Or.inl ⟨rfl, rfl⟩)).mono ?_
        rintro e w3 ⟨rfl, rfl⟩
        go_wp2
        go_ret
        exact ⟨rfl, hR.bel⟩
      · rw [filt_map] at hcJ hownJ
        have hm2 : ((zs.filter fun p => nn p.1).map Prod.fst).length = (zs.filter fun p => nn p.1).length := by simp
        rw [hm2] at hcJ hownJ
        have hS2 := hSr.later hbJ
        have g52 := hS2.cell 5 (by omega)
        obtain ⟨cb2, tb2, hb2⟩ := hS2.heap 5 (by omega)
        have hl2 : (zs.filter fun p => nn p.1).length ≤ 1024 := Nat.le_trans (List.length_filter_le _ _) hlen
        have hz2 : ∀ p ∈ (zs.filter fun p => nn p.1), p.1 ≠ .nilIface ∧ ∃ n, Chain w2 (a 5) n p.1 p.2 := fun p hp => by
          obtain ⟨hp1, hp2⟩ := List.mem_filter.1 hp
          have hne : p.1 ≠ .nilIface := fun e => by
            rw [e] at hp2
            exact absurd hp2 (by decide)
          refine ⟨hne, ?_⟩
          exact Good.chain hS2 (Good.later (hR.good p hp1) fun pb v hv => (hbJ.block pb (lt_of_heap hv)).trans hv)
        have hst := Status_join J g2 cap2 wr.heap.size (zs.filter fun p => nn p.1) (a 5) cb2 tb2 w2 hl2 g52 hb2 hcJ hownJ hz2
        rw [HA.out] at hst
        have HS : Hid (Calls Ybad.prog 6 #[.iface 36 (.pointer (some ⟨J, 0, none⟩))] w2 _) := hst
        clear hst hf HJ hcJ hm2
        go_wp2_with fail
        refine HS.out.mono ?_
        rintro e w3 ⟨rfl, rfl⟩
        have hww : wantOf (zs.any Prod.snd) = if zs.any Prod.snd then 413 else 403 := rfl
        rw [← hww]
        clear hww
        go_wp2
        go_ret
        exact ⟨rfl, hR.bel.trans (hbJ.mono hR.bel.size)⟩

/-- Every length: beyond 1024 the law answers at once. -/
theorem joined_any (ao : Option Addr) (len cap : Nat) (ns : List Int) (a : Nat → Addr) (w : World) (hS : Sent w a)
    (hc : ∀ k, k < len → ∃ b off, ao = some ⟨b, off, none⟩ ∧ w.cell? ⟨b, off + k, none⟩ = some (.int .u8 (ns.getD k 0))) (hns : ∀ k, 0 ≤ ns.getD k 0 ∧ ns.getD k 0 ≤ 255) :
    Calls Ybad.prog 4 #[.slice ao len cap] w fun e w' => e = .returned (.bool true) ∧ Below w.heap.size w w' := by
  by_cases hl : len ≤ 1024
  · exact joined_law ao len cap ns a w hS hl hc hns
  · clear hc hns
    have hl' : (1024 : Int) < (len : Int) := by omega
    clear hl
    go_enter Ybad.func4, Ybad.ntmps4
    go_wp2
    go_ret
    exact ⟨rfl, Below.refl _ _⟩
end Go.Proofs.YbulkcyssDoor
