import Derived.Test.YbulkcyvyBase
import Derived.Lib.AppendStr
import Derived.RangeFuncBox
namespace Go.Proofs.Ybulkcyvy
open Go.RowKit

/-- Two owned rows of different element types lie in different blocks. -/
theorem rows_apart {w : World} {b1 b2 : Nat} {e1 e2 : TypeId} {s1 s2 : Nat} {v1 v2 : Value} {n1 n2 : Nat} {x1 x2 : List Value} (h1 : w.ownsRow b1 e1 s1 v1 n1 x1) (h2 : w.ownsRow b2 e2 s2 v2 n2 x2) (hne : e1 ≠ e2) :
    v1.ownBlock = none ∨ v1.ownBlock ≠ v2.ownBlock := by
  rcases h1.2 with ⟨rfl, _⟩ | ⟨g1, c1, u1, rfl, _, hg1, _⟩
  · exact Or.inl rfl
  · rcases h2.2 with ⟨rfl, _⟩ | ⟨g2, c2, u2, rfl, _, hg2, _⟩
    · exact Or.inr (by simp [Value.ownBlock])
    · refine Or.inr ?_
      simp only [Value.ownBlock, ne_eq, Option.some.injEq]
      rintro rfl
      rw [hg1] at hg2
      simp only [Option.some.injEq, Obj.cells.injEq] at hg2
      exact hne hg2.2.1

/-- The three rows that the build owns: the text (n bytes), the nodes (c of them), the names (m of them). -/
structure BSt (w wr : World) (tv nv mv : Value) (n : Nat) (T : List Value) (c : Nat) (N : List Value) (m : Nat) (M : List Value) : Prop where
  text : wr.ownsRow w.heap.size 5 1 tv n T
  nodes : wr.ownsRow w.heap.size 36 5 nv c N
  names : wr.ownsRow w.heap.size 9 1 mv m M
  bel : Below w.heap.size w wr

theorem own_pos {w : World} {base : Nat} {e : TypeId} {s : Nat} {v : Value} {n : Nat} {xs : List Value} (h : w.ownsRow base e s v n xs) (hn : 0 < n) : ∃ g cap, v = .slice (some ⟨g, 0, none⟩) n cap ∧ n ≤ cap ∧ cap ≤ maxLen := by
  rcases h.2 with ⟨_, h0⟩ | ⟨g, cap, cur, hv, _, _, hc, hm, _⟩
  · omega
  · exact ⟨g, cap, hv, hc, hm⟩

theorem Below.grownBy {w wx : World} (h : Below w.heap.size w wx) : w.grownBy wx none := ⟨h.os, h.tape, h.output, h.size, fun k hk _ => h.block k hk⟩

theorem own_later {w wx : World} {base : Nat} {e : TypeId} {s : Nat} {v : Value} {n : Nat} {xs : List Value} (h : w.ownsRow base e s v n xs) (hb : Below w.heap.size w wx) : wx.ownsRow base e s v n xs :=
  h.kept (Below.grownBy hb) (by cases hv : v.ownBlock <;> simp)

/-- One more piece of text. wx: the world behind wr in which the append is made. -/
theorem BSt.pushT {w wr wx w1 : World} {tv tv' nv mv : Value} {T N M T' : List Value} {n n' c m : Nat} (h : BSt w wr tv nv mv n T c N m M) (hx : Below wr.heap.size wr wx)
    (hown : w1.ownsRow w.heap.size 5 1 tv' n' T') (hg : wx.grownBy w1 tv.ownBlock) : BSt w w1 tv' nv mv n' T' c N m M := by
  have hbx : Below w.heap.size w wx := h.bel.trans (hx.mono h.bel.size)
  have ht := own_later h.text hx
  have hn := own_later h.nodes hx
  have hm := own_later h.names hx
  exact ⟨hown, hn.kept hg (rows_apart hn ht (by decide)), hm.kept hg (rows_apart hm ht (by decide)), hbx.grown hg hbx.size (fun j hj => (ht.lt j hj).1)⟩

theorem BSt.pushN {w wr wx w1 : World} {tv nv nv' mv : Value} {T N M N' : List Value} {n c c' m : Nat} (h : BSt w wr tv nv mv n T c N m M) (hx : Below wr.heap.size wr wx)
    (hown : w1.ownsRow w.heap.size 36 5 nv' c' N') (hg : wx.grownBy w1 nv.ownBlock) : BSt w w1 tv nv' mv n T c' N' m M := by
  have hbx : Below w.heap.size w wx := h.bel.trans (hx.mono h.bel.size)
  have ht := own_later h.text hx
  have hn := own_later h.nodes hx
  have hm := own_later h.names hx
  exact ⟨ht.kept hg (rows_apart ht hn (by decide)), hown, hm.kept hg (rows_apart hm hn (by decide)), hbx.grown hg hbx.size (fun j hj => (hn.lt j hj).1)⟩

theorem BSt.pushM {w wr wx w1 : World} {tv nv mv mv' : Value} {T N M M' : List Value} {n c m m' : Nat} (h : BSt w wr tv nv mv n T c N m M) (hx : Below wr.heap.size wr wx)
    (hown : w1.ownsRow w.heap.size 9 1 mv' m' M') (hg : wx.grownBy w1 mv.ownBlock) : BSt w w1 tv nv mv' n T c N m' M' := by
  have hbx : Below w.heap.size w wx := h.bel.trans (hx.mono h.bel.size)
  have ht := own_later h.text hx
  have hn := own_later h.nodes hx
  have hm := own_later h.names hx
  exact ⟨ht.kept hg (rows_apart ht hm (by decide)), hn.kept hg (rows_apart hn hm (by decide)), hown, hbx.grown hg hbx.size (fun j hj => (hm.lt j hj).1)⟩

theorem cells_new {w : World} {c : Array Value} {t : TypeId} : ∀ j u, c.toList[j]? = some u → (w.alloc (.cells c t)).cell? ((⟨w.heap.size, 0, none⟩ : Addr).add j) = some u := by
  intro j u hu
  have e : (⟨w.heap.size, 0, none⟩ : Addr).add j = ⟨w.heap.size, j, none⟩ := by unfold Addr.add; split <;> simp_all
  rw [e]
  unfold World.cell?
  rw [show (w.alloc (.cells c t)).heap[w.heap.size]? = some (.cells c t (0, 0)) from (MapKept.heap_alloc w _).1]
  simpa using hu
theorem one_cell {u : Value} (h : u.oneCell' = true) : ∀ x ∈ [u], x.oneCell' = true := by
  intro x hx
  obtain rfl := List.mem_singleton.1 hx
  exact h
theorem below_alloc (w : World) (o : Obj) : Below w.heap.size w (w.alloc o) := (Below.refl _ _).alloc (Nat.le_refl _) _
end Go.Proofs.Ybulkcyvy
