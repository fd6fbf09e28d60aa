/-
  'past', where no message is unsettled.
-/
import Derived.Test.YbulkbxpiFmtSa
import Derived.Carry
namespace Go.Proofs.YbulkbxpiFmt
open Go.RowKit Go.MuLone Go.Stop

theorem field34 (x : Int) (y : ByteArray) (w : World) : (Instr.field 34 (.agg #[.int .u64 x, .string y]) 0).run Ybaf.prog w = .ok (.int .u64 x) w := by kernel_rfl
theorem field34p (x : Int) (y : ByteArray) (w : World) : (Instr.field 34 (.agg #[.int .u64 x, .string y]) 1).run Ybaf.prog w = .ok (.string y) w := by kernel_rfl

section
variable {i : Ids} {w : World} {mu t : Int} {hd td se : List Int} {q wt : Value}

set_option maxRecDepth 100000 in
set_option maxHeartbeats 1000000 in
theorem past_c (v : Srv i w mu t hd td se q wt) :
    Calls Ybaf.prog 47 #[.pointer (some ⟨i.D, 0, none⟩), .bool true] w fun e w' => ∃ m, e = .returned (.agg #[.slice none 0 0, .map (some m)]) ∧ Kp [] w w' ∧ w.heap.size ≤ m ∧ w'.heap[m]? = some (.map #[{ key := .string P0, val := .int .u64 t, born := 0 }] 1) := by
  have hlD := heap_lt v.d
  have c2 := cell_at (i := 2) (v := .pointer (some ⟨i.C, 0, none⟩)) v.d rfl
  have hfd := field34
  have hmk := @run_makeMap Ybaf.prog
  go_enter Ybaf.func47, Ybaf.ntmps47
  go_wp2_with fail
  refine (now_c i.C P0 t _ (v.kp0 ((Kp.refl [] w).alloc _)).c).mono ?_
  rintro e w1 ⟨rfl, k1⟩
  have K1 := ((Kp.refl [] w).alloc (.cells #[.slice none 0 0, .map none] 77)).trans k1
  have v1 := v.kp0 K1
  have hlD1 := heap_lt v1.d
  have c8 := cell_at (i := 8) (v := .slice none 0 0) v1.d rfl
  go_wp2_with fail
  refine (process_c (v1.kp0 ((Kp.refl [] w1).alloc (.map #[] 0)))).mono ?_
  rintro e w2 ⟨rfl, k2⟩
  have K2 := ((Kp.refl [] w1).alloc (.map #[] 0)).trans k2
  have v2 := v1.kp0 K2
  have hm := k2.heap (heap_new w1 (.map #[] 0)) (by simp)
  have hst := run_store_miss 36 9 31 Ybaf.underlying36 Ybaf.underlying9 hm P0 (.int .u64 t) rfl
  obtain ⟨w3, hw3⟩ : ∃ x, x = setO w2 w1.heap.size (.map #[{ key := .string P0, val := .int .u64 t, born := 0 }] 1) := ⟨_, rfl⟩
  have hst' : (Instr.mapUpdate 36 (.map (some w1.heap.size)) (.string P0) (.int .u64 t)).run Ybaf.prog w2 = .ok () w3 := by rw [hw3]; exact hst
  have hm3 : w3.heap[w1.heap.size]? = some (.map #[{ key := .string P0, val := .int .u64 t, born := 0 }] 1) := by rw [hw3]; exact setO_same _ (heap_lt hm)
  have hs1 := K1.size
  have K3 : Kp [] w w3 := by rw [hw3]; exact (K1.trans K2).setO (.inr hs1) _
  have hs3 := K3.size
  have v3 := v.kp0 K3
  have hs23 := K2.size
  have hsz : w.heap.size < w3.heap.size := by
    have := k1.size
    simp at this
    have h2 := heap_lt hm3
    omega
  have hr3 : w3.heap[w.heap.size]? = some (.cells #[.slice none 0 0, .map none] 77) := by
    rw [hw3, setO_other _ (by have := k1.size; simp at this; omega)]
    exact k2.heap ((Below.heap_alloc _ _ _ (by have := k1.size; simp at this; omega)).trans (k1.heap (heap_new w _) (by simp))) (by simp)
  clear hst hw3
  have hlD3 := heap_lt v3.d
  have hlU3 := heap_lt v3.u
  have e13 := cell_at (i := 13) (v := .slice (some ⟨i.Us, 0, none⟩) 3 3) v3.d rfl
  have e8 := cell_at (i := 8) (v := .slice none 0 0) v3.d rfl
  have u0 := cell_at (i := 0) (v := .slice none 0 0) v3.u rfl
  have u1 := cell_at (i := 1) (v := .slice none 0 0) v3.u rfl
  have u2 := cell_at (i := 2) (v := .slice none 0 0) v3.u rfl
  have r0 := cell_at (i := 0) (v := .slice none 0 0) hr3 rfl
  have r1 := cell_at (i := 1) (v := .map none) hr3 rfl
  have f0 := frozen_at (i := 0) hr3
  have f1 := frozen_at (i := 1) hr3
  go_wp2_with fail
  refine wp_loop_rounds 4 ?_
  rw [rounds_succ]
  go_wp2
  rw [rounds_succ]
  go_wp2
  rw [rounds_succ]
  go_wp2
  rw [rounds_succ]
  go_wp2
  refine wp_loop_rounds 1 ?_
  rw [rounds_succ]
  go_wp2
  have hR : (((w3.setCell ⟨w.heap.size, 0, none⟩ (.slice none 0 0)).setCell ⟨w.heap.size, 1, none⟩ (.map (some w1.heap.size))).alloc (.cells #[.slice none 0 0, .map (some w1.heap.size)] 77)).heap[w.heap.size]? = some (.cells #[.slice none 0 0, .map (some w1.heap.size)] 77) :=
    (Below.heap_alloc _ _ _ (by simpa [World.setCell] using hsz)).trans (heap_set (i := 1) _ (heap_set (i := 0) _ hr3))
  have k0 := cell_at (i := 0) (v := .slice none 0 0) hR rfl
  have k1' := cell_at (i := 1) (v := .map (some w1.heap.size)) hR rfl
  refine bodyPost_ret (v := .agg #[.slice none 0 0, .map (some w1.heap.size)]) (by simp [results, Ybaf.results47, go_sem, k0, k1']) rfl ⟨_, rfl, ?_, hs1, ?_⟩
  · exact ((K3.set (.inr (Nat.le_refl _)) _).set (.inr (Nat.le_refl _)) _).alloc _
  · have hne : w1.heap.size ≠ w.heap.size := by have := k1.size; simp at this; omega
    exact (Below.heap_alloc _ _ _ (by simpa [World.setCell] using heap_lt hm3)).trans ((Below.heap_setCell _ _ _ _ hne).trans ((Below.heap_setCell _ _ _ _ hne).trans hm3))

set_option maxRecDepth 100000 in
set_option maxHeartbeats 1000000 in
/-- A message of the process's own, none of them unplaced: settled. -/
theorem sett_own (v : Srv i w mu t hd td se q wt) (a : Int) :
    Calls Ybaf.prog 46 #[.pointer (some ⟨i.D, 0, none⟩), .agg #[.int .u64 a, .string P0]] w fun e w' => e = .returned (.bool true) ∧ Kp [] w w' := by
  have hlD := heap_lt v.d
  have c3 := cell_at (i := 3) (v := .int .i64 0) v.d rfl
  have c5 := cell_at (i := 5) (v := .map (some i.X)) v.d rfl
  have c8 := cell_at (i := 8) (v := .slice none 0 0) v.d rfl
  have hlk := look_in1 (w := (w.alloc (.cells #[.int .u64 a, .string P0] 34)).drew) ((Below.heap_alloc _ _ _ (heap_lt v.x)).trans v.x) 0 (by omega)
  simp only [nmOf] at hlk
  go_enter Ybaf.func46, Ybaf.ntmps46
  go_wp2_with fail
  go_region
  go_wp2_with fail
  go_region
  go_wp2
  go_ret
  exact ⟨rfl, ((Kp.refl [] w).alloc _).drewN 2⟩

set_option maxRecDepth 100000 in
set_option maxHeartbeats 1000000 in
theorem sett_k (v : Srv i w mu t hd td se q wt) (a : Int) (k : Nat) (hk1 : 1 ≤ k) (hk2 : k ≤ 2) (x : Int) (hx : se[k]? = some x) :
    Calls Ybaf.prog 46 #[.pointer (some ⟨i.D, 0, none⟩), .agg #[.int .u64 a, .string (nmOf k)]] w fun e w' => e = .returned (.bool (decide (a ≤ x))) ∧ Kp [] w w' := by
  have hlD := heap_lt v.d
  have hlS := heap_lt v.s
  have c3 := cell_at (i := 3) (v := .int .i64 0) v.d rfl
  have c5 := cell_at (i := 5) (v := .map (some i.X)) v.d rfl
  have c14 := cell_at (i := 14) (v := .slice (some ⟨i.Se, 0, none⟩) 3 3) v.d rfl
  have s0 := rowU_get v.s hx
  have dk : ¬ (k : Int) = 0 := by omega
  have dk0 : (0 : Int) ≤ (k : Int) := by omega
  have dk3 : (k : Int) < 3 := by omega
  have hlk := look_in1 (w := (w.alloc (.cells #[.int .u64 a, .string (nmOf k)] 34)).drew) ((Below.heap_alloc _ _ _ (heap_lt v.x)).trans v.x) k (by omega)
  generalize nmOf k = nm at hlk ⊢
  go_enter Ybaf.func46, Ybaf.ntmps46
  go_wp2_with fail
  go_region
  go_wp2_with fail
  go_region
  go_wp2
  go_ret
  exact ⟨rfl, ((Kp.refl [] w).alloc _).drewN 2⟩
end

end Go.Proofs.YbulkbxpiFmt
