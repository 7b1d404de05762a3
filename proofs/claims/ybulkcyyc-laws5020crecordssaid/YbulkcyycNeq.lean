import Derived.Test.YbulkcyycHash
namespace Go.Proofs.Ybulkcyyc
open Go.RowKit

theorem fields_same (d : Nat) (pn : Option Addr) (h c : Int) (b : Bool) (W : World) (fs : List Field) (hf : fs.map (fun f => (f.name, f.type, f.offset)) = [("n", 39, 0), ("h", 26, 1), ("writes", 26, 2), ("set", 4, 3)]) :
    (Op.eqFields (d + 1) #[.pointer pn, .int .u64 h, .int .u64 c, .bool b] #[.pointer pn, .int .u64 h, .int .u64 c, .bool b] fs).run Yba.prog W = .ok true W := by
  have hl : fs.length = 4 := by
    have := congrArg List.length hf
    simpa using this
  match fs, hl, hf with
  | [f0, f1, f2, f3], _, hf =>
    simp only [List.map_cons, List.map_nil, List.cons.injEq, Prod.mk.injEq, and_true] at hf
    obtain ⟨⟨n0, t0, o0⟩, ⟨n1, t1, o1⟩, ⟨n2, t2, o2⟩, ⟨n3, t3, o3⟩⟩ := hf
    have hp := ptr_same d pn W
    simp [Op.eqFields, n0, t0, o0, n1, t1, o1, n2, t2, o2, n3, t3, o3, hp, go_sem]

theorem neq82 (pn : Option Addr) (h c : Int) (b : Bool) (W : World) : (binOp .neq 82 (.agg #[.pointer pn, .int .u64 h, .int .u64 c, .bool b]) (.agg #[.pointer pn, .int .u64 h, .int .u64 c, .bool b])).run Yba.prog W = .ok (.bool false) W := by
  rw [run_neq_struct, run_equalIn_struct W 9999 82 _ _ under82 held82, fields_same 9998 pn h c b W _ fields82]
  rfl
end Go.Proofs.Ybulkcyyc
