/-
  'checkPast', 'learnSettled' where nothing is named.
-/
import Derived.Test.YbulkbxpiFmtSa
import Derived.Laws.IdiomRangeMap
namespace Go.Proofs.YbulkbxpiFmt
open Go.RowKit Go.MuLone Go.Stop

section
variable {i : Ids} {w : World} {mu t : Int} {hd td se : List Int} {q wt : Value}

set_option maxRecDepth 100000 in
theorem past_nil (T : Int) (nm : ByteArray) (w : World) :
    Calls Ybaf.prog 28 #[.pointer (some ⟨i.D, 0, none⟩), .agg #[.int .u64 T, .string nm], .agg #[.slice none 0 0, .map none]] w fun e w' => e = .returned .nilIface ∧ Kp [] w w' := by
  have hr := fun w => run_range_nilMap (P := Ybaf.prog) w 36 9 31 Ybaf.underlying36
  go_enter Ybaf.func28, Ybaf.ntmps28
  go_wp2
  refine wp_loop_rounds 1 ?_
  rw [rounds_succ]
  go_wp2
  refine wp_loop_rounds 1 ?_
  rw [rounds_succ]
  have hn1 := run_next_nilMap (P := Ybaf.prog) ((w.alloc (.cells #[.int .u64 T, .string nm] 34)).alloc (.cells #[.slice none 0 0, .map none] 77)) 0 0 0 #[]
  simp at hn1
  go_wp2
  go_ret
  exact ⟨rfl, (((Kp.refl [] w).alloc _).alloc _).alloc _⟩

set_option maxRecDepth 100000 in
theorem learn_nil (T : Int) (nm : ByteArray) (w : World) :
    Calls Ybaf.prog 31 #[.pointer (some ⟨i.D, 0, none⟩), .agg #[.int .u64 T, .string nm], .map none] w fun e w' => e = .returned (.tuple #[]) ∧ Kp [] w w' := by
  have hr := fun w => run_range_nilMap (P := Ybaf.prog) w 36 9 31 Ybaf.underlying36
  go_enter Ybaf.func31, Ybaf.ntmps31
  go_wp2
  refine wp_loop_rounds 1 ?_
  rw [rounds_succ]
  have hn1 := run_next_nilMap (P := Ybaf.prog) (w.alloc (.cells #[.int .u64 T, .string nm] 34)) 0 0 0 #[]
  simp at hn1
  go_wp2
  go_end0
  exact ⟨rfl, (((Kp.refl [] w).alloc _).alloc _)⟩
end

end Go.Proofs.YbulkbxpiFmt
