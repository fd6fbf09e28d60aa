/-
  'checkPast' where one process is told settled.
-/
import Derived.Test.YbulkbxpiFmtPa
import Derived.Maps.RangeRun
namespace Go.Proofs.YbulkbxpiFmt
open Go.RowKit Go.MuLone Go.Stop

/-- A map of one entry. -/
abbrev one1 (s : ByteArray) (v : Value) : Obj := .map #[{ key := .string s, val := v, born := 0 }] 1
theorem run_next_first {P : Program} {w : World} (ty : TypeId) {r bm : Nat} {s : ByteArray} {v : Value} (hr : w.heap[r]? = some (.mapIter (some bm) 1 #[] 1)) (hb : w.heap[bm]? = some (one1 s v)) :
    (Instr.next (.pointer (some ⟨r, 0, none⟩)) false ty).run P w = .ok (.tuple #[.bool true, .string s, v]) (setO w r (.mapIter (some bm) 1 #[0] 1)) := by
  simp [Instr.next, getObj, Sem.run_bind, Sem.run, hr, hb, Result.andThen, choose, Question.forced, setObj, setO]
theorem run_next_last {P : Program} {w : World} (ty : TypeId) {r bm : Nat} {s : ByteArray} {v : Value} (hr : w.heap[r]? = some (.mapIter (some bm) 1 #[0] 1)) (hb : w.heap[bm]? = some (one1 s v)) :
    (Instr.next (.pointer (some ⟨r, 0, none⟩)) false ty).run P w = .ok (.tuple #[.bool false]) w := by
  simp [Instr.next, getObj, Sem.run_bind, Sem.run, hr, hb, Result.andThen, choose, Question.forced]
theorem run_entry_one {P : Program} {w : World} {r bm : Nat} {s : ByteArray} {v : Value} (hr : w.heap[r]? = some (.mapIter (some bm) 1 #[0] 1)) (hb : w.heap[bm]? = some (one1 s v)) :
    (Instr.entry (.pointer (some ⟨r, 0, none⟩))).run P w = .ok (.tuple #[.string s, v]) w :=
  run_entry_at w r bm 1 #[] _ 1 { key := .string s, val := v, born := 0 } hr hb (by simp) (by simp)

section
variable {i : Ids} {w : World} {mu t : Int} {hd td se : List Int} {q wt : Value}

set_option maxRecDepth 100000 in
theorem past_one_ok (v : Srv i w mu t hd td se q wt) (T : Int) (nm : ByteArray) (M : Nat) (x : Int) (hM : w.heap[M]? = some (one1 P2 (.int .u64 x))) (hx : x < T) :
    Calls Ybaf.prog 28 #[.pointer (some ⟨i.D, 0, none⟩), .agg #[.int .u64 T, .string nm], .agg #[.slice none 0 0, .map (some M)]] w fun e w' => e = .returned .nilIface ∧ Kp [] w w' := by
  go_enter Ybaf.func28, Ybaf.ntmps28
  go_wp2
  refine wp_loop_rounds 1 ?_
  rw [rounds_succ]
  obtain ⟨w1, hw1⟩ : ∃ y, y = (w.alloc (.cells #[.int .u64 T, .string nm] 34)).alloc (.cells #[.slice none 0 0, .map (some M)] 77) := ⟨_, rfl⟩
  have K1 : Kp [] w w1 := by rw [hw1]; exact ((Kp.refl [] w).alloc _).alloc _
  have hM1 := K1.heap hM (by simp)
  have hr := run_range_map (P := Ybaf.prog) w1 36 9 31 M _ 1 Ybaf.underlying36 hM1
  rw [← hw1]
  have hz : w1.heap.size = w.heap.size + 2 := by rw [hw1]; simp
  have hb1 : w1.heap[w.heap.size]? = some (.cells #[.int .u64 T, .string nm] 34) := by rw [hw1]; exact (Below.heap_alloc _ _ _ (by simp)).trans (heap_new _ _)
  have hc1 : w1.heap[w.heap.size + 1]? = some (.cells #[.slice none 0 0, .map (some M)] 77) := by rw [hw1]; exact heap_newk _ _ _ (by simp)
  have a1 := cell_at (i := 1) (v := .map (some M)) hc1 rfl
  clear hw1
  go_wp2
  have hit : (w1.alloc (.mapIter (some M) 1 #[] 1)).heap[w.heap.size + 2]? = some (.mapIter (some M) 1 #[] 1) := heap_newk _ _ _ hz
  have K2 : Kp [] w (w1.alloc (.mapIter (some M) 1 #[] 1)) := K1.alloc _
  have hn := run_next_first (P := Ybaf.prog) 0 hit (K2.heap hM (by simp))
  obtain ⟨w3, hw3⟩ : ∃ y, y = setO (w1.alloc (.mapIter (some M) 1 #[] 1)) (w.heap.size + 2) (.mapIter (some M) 1 #[0] 1) := ⟨_, rfl⟩
  have K3 : Kp [] w w3 := by rw [hw3]; exact K2.setO (.inr (by omega)) _
  have hb3 : w3.heap[w.heap.size]? = some (.cells #[.int .u64 T, .string nm] 34) := by rw [hw3, setO_other _ (by omega)]; exact (Below.heap_alloc _ _ _ (heap_lt hb1)).trans hb1
  have h0 := cell_at (i := 0) (v := .int .u64 T) hb3 rfl
  have h1 := cell_at (i := 1) (v := .string nm) hb3 rfl
  have hr3 : w3.heap[w.heap.size + 2]? = some (.mapIter (some M) 1 #[0] 1) := by rw [hw3]; exact setO_same _ (by simp; omega)
  have hen := run_entry_one (P := Ybaf.prog) hr3 (K3.heap hM (by simp))
  rw [← hw3] at hn
  clear hw3
  refine wp_loop_rounds 2 ?_
  rw [rounds_succ]
  go_wp2_with fail
  refine (before_ok (v.kp0 K3) T nm 2 (by omega) x hx).mono ?_
  rintro e w4 ⟨rfl, k4⟩
  have K4 := K3.trans k4
  have hl := run_next_last (P := Ybaf.prog) 0 (k4.heap hr3 (by simp)) (K4.heap hM (by simp))
  go_wp2
  rw [rounds_succ]
  go_wp2
  go_ret
  exact ⟨rfl, K4⟩

set_option maxRecDepth 100000 in
theorem past_one_late (F : Interp) (hF : F.answers w.tape) (v : Srv i w mu t hd td se q wt) (T : Int) (nm : ByteArray) (M : Nat) (x : Int) (hM : w.heap[M]? = some (one1 P2 (.int .u64 x))) (hx : T ≤ x) :
    Calls Ybaf.prog 28 #[.pointer (some ⟨i.D, 0, none⟩), .agg #[.int .u64 T, .string nm], .agg #[.slice none 0 0, .map (some M)]] w fun e w' => ∃ er, e = .returned er ∧ Kp [] w w' ∧ NewErr w w' er := by
  go_enter Ybaf.func28, Ybaf.ntmps28
  go_wp2
  refine wp_loop_rounds 1 ?_
  rw [rounds_succ]
  obtain ⟨w1, hw1⟩ : ∃ y, y = (w.alloc (.cells #[.int .u64 T, .string nm] 34)).alloc (.cells #[.slice none 0 0, .map (some M)] 77) := ⟨_, rfl⟩
  have K1 : Kp [] w w1 := by rw [hw1]; exact ((Kp.refl [] w).alloc _).alloc _
  have hM1 := K1.heap hM (by simp)
  have hr := run_range_map (P := Ybaf.prog) w1 36 9 31 M _ 1 Ybaf.underlying36 hM1
  rw [← hw1]
  have hz : w1.heap.size = w.heap.size + 2 := by rw [hw1]; simp
  have hb1 : w1.heap[w.heap.size]? = some (.cells #[.int .u64 T, .string nm] 34) := by rw [hw1]; exact (Below.heap_alloc _ _ _ (by simp)).trans (heap_new _ _)
  have hc1 : w1.heap[w.heap.size + 1]? = some (.cells #[.slice none 0 0, .map (some M)] 77) := by rw [hw1]; exact heap_newk _ _ _ (by simp)
  have a1 := cell_at (i := 1) (v := .map (some M)) hc1 rfl
  clear hw1
  go_wp2
  have hit : (w1.alloc (.mapIter (some M) 1 #[] 1)).heap[w.heap.size + 2]? = some (.mapIter (some M) 1 #[] 1) := heap_newk _ _ _ hz
  have K2 : Kp [] w (w1.alloc (.mapIter (some M) 1 #[] 1)) := K1.alloc _
  have hn := run_next_first (P := Ybaf.prog) 0 hit (K2.heap hM (by simp))
  obtain ⟨w3, hw3⟩ : ∃ y, y = setO (w1.alloc (.mapIter (some M) 1 #[] 1)) (w.heap.size + 2) (.mapIter (some M) 1 #[0] 1) := ⟨_, rfl⟩
  have K3 : Kp [] w w3 := by rw [hw3]; exact K2.setO (.inr (by omega)) _
  have hb3 : w3.heap[w.heap.size]? = some (.cells #[.int .u64 T, .string nm] 34) := by rw [hw3, setO_other _ (by omega)]; exact (Below.heap_alloc _ _ _ (heap_lt hb1)).trans hb1
  have h0 := cell_at (i := 0) (v := .int .u64 T) hb3 rfl
  have h1 := cell_at (i := 1) (v := .string nm) hb3 rfl
  have hr3 : w3.heap[w.heap.size + 2]? = some (.mapIter (some M) 1 #[0] 1) := by rw [hw3]; exact setO_same _ (by simp; omega)
  have hen := run_entry_one (P := Ybaf.prog) hr3 (K3.heap hM (by simp))
  rw [← hw3] at hn
  clear hw3
  refine wp_loop_rounds 1 ?_
  rw [rounds_succ]
  go_wp2_with fail
  refine (before_late F (by rw [K3.tape]; exact hF) (v.kp0 K3) T nm 2 (by omega) x hx).mono ?_
  rintro e w4 ⟨er, rfl, k4, b, s, rfl, hb, hs⟩
  go_wp2
  go_ret
  exact ⟨_, rfl, K3.trans k4, b, s, rfl, Nat.le_trans K3.size hb, hs⟩
end

end Go.Proofs.YbulkbxpiFmt
