/-
  'clear' on a slice of one held message.
-/
import Derived.Test.YbulkbxpiFmtSv
import Derived.Laws.CopyRow
namespace Go.Proofs.YbulkbxpiFmt
open Go.RowKit

theorem zeroHeld (w : World) : (zeroValue 111).run Ybaf.prog w = .ok (.agg #[.int .u64 0, .string ⟨#[]⟩, .int .u64 0, .string ⟨#[]⟩, .bool false, .slice none 0 0, .int .i64 0]) w := by kernel_rfl

theorem clear_held (W : World) (g cap : Nat) (cur : Array Value) (h : W.heap[g]? = some (.cells cur 111)) (hs : 7 ≤ cur.size) :
    ∃ W', (∀ ty, (Builtin.clear_ #[80] ty #[.slice (some ⟨g, 0, none⟩) 1 cap]).run Ybaf.prog W = .ok (.tuple #[]) W') ∧ Kp [g] W W' := by
  have hz : (Builtin.zeroCells #[.int .u64 0, .string ⟨#[]⟩, .int .u64 0, .string ⟨#[]⟩, .bool false, .slice none 0 0, .int .i64 0] 1).toList = [.int .u64 0, .string ⟨#[]⟩, .int .u64 0, .string ⟨#[]⟩, .bool false, .slice none 0 0, .int .i64 0] := by
    simp [Builtin.zeroCells, List.range, List.range.loop]
  have hst := run_storeCells_at (P := Ybaf.prog) g 0 111 [.int .u64 0, .string ⟨#[]⟩, .int .u64 0, .string ⟨#[]⟩, .bool false, .slice none 0 0, .int .i64 0] 0 cur W h (by simpa using hs) (by simp [Value.oneCell'])
  refine ⟨W.setRow g (([.int .u64 0, .string ⟨#[]⟩, .int .u64 0, .string ⟨#[]⟩, .bool false, .slice none 0 0, .int .i64 0] : List Value) ++ cur.toList.drop 7).toArray, ?_, ?_⟩
  · intro ty
    simp only [Nat.add_zero, List.take_zero, List.nil_append, List.length_cons, List.length_nil, Nat.zero_add, Nat.reduceAdd] at hst
    simp [Builtin.clear_, Ybaf.runUnderlying80, Value.cells, hz]
    rw [hst]
    simp
  · refine ⟨rfl, rfl, rfl, by simp [World.setRow], fun k hk hn => ?_⟩
    simp only [World.setRow, Array.getElem?_modify]
    simp at hn
    rw [if_neg (fun e => hn e.symm)]

end Go.Proofs.YbulkbxpiFmt
