/-
  'learnSettled' where one process is told settled.
-/
import Derived.Test.YbulkbxpiFmtPo
import Derived.Test.YbulkbxpiFmtAp
namespace Go.Proofs.YbulkbxpiFmt
open Go.RowKit Go.MuLone Go.Stop

theorem copy_nil75 (W : World) (ty : TypeId) : (Builtin.copy_ #[75, 75] ty #[.slice none 0 0, .slice none 0 0]).run Ybaf.prog W = .ok (.int .i64 0) W := by kernel_rfl
theorem clear_nil75 (W : World) (ty : TypeId) : (Builtin.clear_ #[75] ty #[.slice none 0 0]).run Ybaf.prog W = .ok (.tuple #[]) W := by kernel_rfl

section
variable {i : Ids} {w : World} {mu t : Int} {hd td se : List Int} {q wt : Value}

set_option maxRecDepth 100000 in
set_option maxHeartbeats 1000000 in
theorem learn_one_le (v : Srv i w mu t hd td se q wt) (T : Int) (nm : ByteArray) (M : Nat) (x y : Int) (hM : w.heap[M]? = some (one1 P2 (.int .u64 x))) (hy : se[2]? = some y) (hxy : x ≤ y) :
    Calls Ybaf.prog 31 #[.pointer (some ⟨i.D, 0, none⟩), .agg #[.int .u64 T, .string nm], .map (some M)] w fun e w' => e = .returned (.tuple #[]) ∧ Kp [] w w' := by
  have hlD := heap_lt v.d
  have hlS := heap_lt v.s
  obtain ⟨w1, hw1⟩ : ∃ y, y = w.alloc (.cells #[.int .u64 T, .string nm] 34) := ⟨_, rfl⟩
  have K1 : Kp [] w w1 := by rw [hw1]; exact ((Kp.refl [] w).alloc _)
  have hz : w1.heap.size = w.heap.size + 1 := by rw [hw1]; simp
  have hM1 := K1.heap hM (by simp)
  have hr : (Instr.range 36 (.map (some M))).run Ybaf.prog (w.alloc (.cells #[.int .u64 T, .string nm] 34)) = .ok (.pointer (some ⟨w.heap.size + 1, 0, none⟩)) (w1.alloc (.mapIter (some M) 1 #[] 1)) := by
    rw [← hw1, ← hz]
    exact run_range_map (P := Ybaf.prog) w1 36 9 31 M _ 1 Ybaf.underlying36 hM1
  clear hw1
  go_enter Ybaf.func31, Ybaf.ntmps31
  go_wp2
  have hit : (w1.alloc (.mapIter (some M) 1 #[] 1)).heap[w.heap.size + 1]? = some (.mapIter (some M) 1 #[] 1) := heap_newk _ _ _ hz
  have K2 : Kp [] w (w1.alloc (.mapIter (some M) 1 #[] 1)) := K1.alloc _
  have hn := run_next_first (P := Ybaf.prog) 0 hit (K2.heap hM (by simp))
  obtain ⟨w3, hw3⟩ : ∃ y, y = setO (w1.alloc (.mapIter (some M) 1 #[] 1)) (w.heap.size + 1) (.mapIter (some M) 1 #[0] 1) := ⟨_, rfl⟩
  have K3 : Kp [] w w3 := by rw [hw3]; exact K2.setO (.inr (by omega)) _
  have hr3 : w3.heap[w.heap.size + 1]? = some (.mapIter (some M) 1 #[0] 1) := by rw [hw3]; exact setO_same _ (by simp; omega)
  have hen := run_entry_one (P := Ybaf.prog) hr3 (K3.heap hM (by simp))
  rw [← hw3] at hn
  clear hw3
  have hs3 := K3.size
  have K4 : Kp [] w (w3.alloc (.cells #[.int .u64 x] 31)) := K3.alloc _
  have v4 := v.kp0 K4
  have hx4 := heap_new w3 (.cells #[.int .u64 x] 31)
  have hr4 : (w3.alloc (.cells #[.int .u64 x] 31)).heap[w.heap.size + 1]? = some (.mapIter (some M) 1 #[0] 1) := (Below.heap_alloc _ _ _ (heap_lt hr3)).trans hr3
  have hlk : (Instr.lookup 49 (.map (some i.X)) (.string P2) false).run Ybaf.prog (w3.alloc (.cells #[.int .u64 x] 31)) = .ok (.int .i64 2) (w3.alloc (.cells #[.int .u64 x] 31)) := look_in1 v4.x 2 (by omega)
  have c5 := cell_at (i := 5) (v := .map (some i.X)) v4.d rfl
  have c14 := cell_at (i := 14) (v := .slice (some ⟨i.Se, 0, none⟩) 3 3) v4.d rfl
  have s2 := rowU_get v4.s hy
  have x0 := cell_at (i := 0) (v := .int .u64 x) hx4 rfl
  have hl := run_next_last (P := Ybaf.prog) (w := (w3.alloc (.cells #[.int .u64 x] 31)).drew) 0 hr4 (K4.heap hM (by simp))
  refine wp_loop_rounds 2 ?_
  rw [rounds_succ]
  go_wp2_with fail
  go_region
  go_wp2
  rw [rounds_succ]
  go_wp2
  go_end0
  exact ⟨rfl, K4.drew⟩

set_option maxRecDepth 100000 in
set_option maxHeartbeats 1000000 in
theorem learn_one_gt (v : Srv i w mu t hd td se q wt) (T : Int) (nm : ByteArray) (M : Nat) (x y : Int) (hM : w.heap[M]? = some (one1 P2 (.int .u64 x))) (hy : se[2]? = some y) (hxy : y < x) :
    Calls Ybaf.prog 31 #[.pointer (some ⟨i.D, 0, none⟩), .agg #[.int .u64 T, .string nm], .map (some M)] w fun e w' => e = .returned (.tuple #[]) ∧ Kp [i.Se] w w' ∧ Srv i w' mu t hd td (se.set 2 x) q wt := by
  have hlD := heap_lt v.d
  have hlS := heap_lt v.s
  obtain ⟨w1, hw1⟩ : ∃ y, y = w.alloc (.cells #[.int .u64 T, .string nm] 34) := ⟨_, rfl⟩
  have K1 : Kp [] w w1 := by rw [hw1]; exact ((Kp.refl [] w).alloc _)
  have hz : w1.heap.size = w.heap.size + 1 := by rw [hw1]; simp
  have hM1 := K1.heap hM (by simp)
  have hr : (Instr.range 36 (.map (some M))).run Ybaf.prog (w.alloc (.cells #[.int .u64 T, .string nm] 34)) = .ok (.pointer (some ⟨w.heap.size + 1, 0, none⟩)) (w1.alloc (.mapIter (some M) 1 #[] 1)) := by
    rw [← hw1, ← hz]
    exact run_range_map (P := Ybaf.prog) w1 36 9 31 M _ 1 Ybaf.underlying36 hM1
  clear hw1
  go_enter Ybaf.func31, Ybaf.ntmps31
  go_wp2
  have hit : (w1.alloc (.mapIter (some M) 1 #[] 1)).heap[w.heap.size + 1]? = some (.mapIter (some M) 1 #[] 1) := heap_newk _ _ _ hz
  have K2 : Kp [] w (w1.alloc (.mapIter (some M) 1 #[] 1)) := K1.alloc _
  have hn := run_next_first (P := Ybaf.prog) 0 hit (K2.heap hM (by simp))
  obtain ⟨w3, hw3⟩ : ∃ y, y = setO (w1.alloc (.mapIter (some M) 1 #[] 1)) (w.heap.size + 1) (.mapIter (some M) 1 #[0] 1) := ⟨_, rfl⟩
  have K3 : Kp [] w w3 := by rw [hw3]; exact K2.setO (.inr (by omega)) _
  have hr3 : w3.heap[w.heap.size + 1]? = some (.mapIter (some M) 1 #[0] 1) := by rw [hw3]; exact setO_same _ (by simp; omega)
  have hen := run_entry_one (P := Ybaf.prog) hr3 (K3.heap hM (by simp))
  rw [← hw3] at hn
  clear hw3
  have hs3 := K3.size
  have K4 : Kp [] w (w3.alloc (.cells #[.int .u64 x] 31)) := K3.alloc _
  have v4 := v.kp0 K4
  have hx4 := heap_new w3 (.cells #[.int .u64 x] 31)
  have hr4 : (w3.alloc (.cells #[.int .u64 x] 31)).heap[w.heap.size + 1]? = some (.mapIter (some M) 1 #[0] 1) := (Below.heap_alloc _ _ _ (heap_lt hr3)).trans hr3
  have hlk : (Instr.lookup 49 (.map (some i.X)) (.string P2) false).run Ybaf.prog (w3.alloc (.cells #[.int .u64 x] 31)) = .ok (.int .i64 2) (w3.alloc (.cells #[.int .u64 x] 31)) := look_in1 v4.x 2 (by omega)
  have c5 := cell_at (i := 5) (v := .map (some i.X)) v4.d rfl
  have c14 := cell_at (i := 14) (v := .slice (some ⟨i.Se, 0, none⟩) 3 3) v4.d rfl
  have s2 := rowU_get v4.s hy
  have x0 := cell_at (i := 0) (v := .int .u64 x) hx4 rfl
  have fs2 := frozen_at (i := 2) v4.s
  have hxy' : ¬ x ≤ y := by omega
  refine wp_loop_rounds 2 ?_
  rw [rounds_succ]
  go_wp2_with fail
  go_region
  go_wp2_with fail
  go_region
  obtain ⟨w5, hw5⟩ : ∃ y, y = ((w3.alloc (.cells #[.int .u64 x] 31)).setCell ⟨i.Se, 2, none⟩ (.int .u64 x)).drew.drew := ⟨_, rfl⟩
  have k5 : Kp [i.Se] (w3.alloc (.cells #[.int .u64 x] 31)) w5 := by rw [hw5]; exact (((Kp.refl [i.Se] _).set (a := ⟨i.Se, 2, none⟩) (.inl (by simp)) _).drew).drew
  have hS5 : w5.heap[i.Se]? = some (.cells (rowU (se.set 2 x)) 31) := by
    rw [hw5]
    refine (heap_set (i := 2) _ v4.s).trans ?_
    simp [rowU, List.map_set]
  have v5 := v4.setS k5 hS5
  rw [← hw5]
  clear hw5 hS5 hlk c5 c14 s2 x0 fs2
  have hlt := v.lt
  have hSlt := hlt i.Se (by simp)
  have K5 : Kp [i.Se] w w5 := (K4.mono (by simp)).trans k5
  have hr5 := k5.heap hr4 (by simp; omega)
  have hx5 := k5.heap hx4 (by simp; omega)
  have hM5 := k5.heap (K4.heap hM (by simp)) (by
    intro e
    simp at e
    have := v.s
    rw [← e, hM] at this
    simp at this)
  have x0 := cell_at (i := 0) (v := .int .u64 x) hx5 rfl
  have c13 := cell_at (i := 13) (v := .slice (some ⟨i.Us, 0, none⟩) 3 3) v5.d rfl
  have u2 := cell_at (i := 2) (v := .slice none 0 0) v5.u rfl
  have hcp := copy_nil75
  have hcl := clear_nil75
  go_wp2_with fail
  refine (search_0 _ _).mono ?_
  rintro e w6 ⟨rfl, rfl⟩
  have K6 : Kp [] w5 (w5.alloc (.cells #[.slice none 0 0] 75)) := (Kp.refl [] w5).alloc _
  have v6 := v5.kp0 K6
  have hU6 := heap_new w5 (.cells #[.slice none 0 0] 75)
  have d13 := cell_at (i := 13) (v := .slice (some ⟨i.Us, 0, none⟩) 3 3) v6.d rfl
  have uu0 := cell_at (i := 0) (v := .slice none 0 0) hU6 rfl
  have uu2 := cell_at (i := 2) (v := .slice none 0 0) v6.u rfl
  have fu2 := frozen_at (i := 2) v6.u
  have hlU6 := heap_lt v6.u
  go_wp2_with fail
  refine wp_loop_rounds 1 ?_
  rw [rounds_succ]
  go_wp2_with fail
  go_region
  go_wp2_with fail
  go_region
  have k7 : Kp [] (w5.alloc (.cells #[.slice none 0 0] 75)) (((w5.alloc (.cells #[.slice none 0 0] 75)).setCell ⟨i.Us, 2, none⟩ (.slice none 0 0)).drew.drew) :=
    ((((Kp.refl [i.Us] _).set (a := ⟨i.Us, 2, none⟩) (.inl (by simp)) _).drew).drew).shrink ((heap_set (i := 2) _ v6.u).trans v6.u.symm)
  have v7 := v6.kp0 k7
  have K7 := K5.trans ((K6.trans k7).mono (by simp))
  have hl := run_next_last (P := Ybaf.prog) (w := (((w5.alloc (.cells #[.slice none 0 0] 75)).setCell ⟨i.Us, 2, none⟩ (.slice none 0 0)).drew.drew)) 0 ((K6.trans k7).heap hr5 (by simp)) ((K6.trans k7).heap hM5 (by simp))
  go_wp2
  rw [rounds_succ]
  go_wp2
  go_end0
  exact ⟨rfl, K7.mono (by simp), v7⟩
end

end Go.Proofs.YbulkbxpiFmt
