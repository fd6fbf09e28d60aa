/-
  'send' to one process; the peers' 'receive' that overflows; 'handOver' where nothing is final.
-/
import Derived.Test.YbulkbxpiFmtRp
import Derived.Test.YbulkbxpiFmtPp
import Derived.Test.YbulkbxpiFmtPa
namespace Go.Proofs.YbulkbxpiFmt
open Go.RowKit Go.MuLone Go.Stop

theorem Srv.lt {i : Ids} {w : World} {mu t : Int} {hd td se : List Int} {q wt : Value} (v : Srv i w mu t hd td se q wt) : ∀ a ∈ i.list, a < w.heap.size := by
  intro a ha
  simp only [Ids.list, List.mem_cons, List.not_mem_nil, or_false] at ha
  obtain ⟨cn, hn, _⟩ := v.n
  rcases ha with rfl | rfl | rfl | rfl | rfl | rfl | rfl | rfl
  · exact heap_lt v.d
  · exact heap_lt v.c
  · exact heap_lt hn
  · exact heap_lt v.x
  · exact heap_lt v.h
  · exact heap_lt v.t
  · exact heap_lt v.u
  · exact heap_lt v.s

section
variable {i : Ids} {w : World} {mu t : Int} {hd td se : List Int} {q wt : Value}

set_option maxRecDepth 100000 in
set_option maxHeartbeats 1000000 in
theorem send_c (v : Srv i w mu t hd td se q wt) (ht : 0 ≤ t ∧ t < 18446744073709551615) (k : Nat) (hk : k < 3) (x : Int) (hx : td[k]? = some x) (b c : Nat) (hb : w.heap[b]? = some (.cells #[.int .i64 (k : Int)] 3)) (hbn : ∀ a ∈ i.list, b ≠ a) :
    Calls Ybaf.prog 21 #[.pointer (some ⟨i.D, 2, none⟩), .slice (some ⟨b, 0, none⟩) 1 c] w fun e w' => e = .returned (.agg #[.int .u64 (t + 1), .string P0]) ∧ Kp [i.C, i.Td] w w' ∧ Srv i w' mu (t + 1) hd (td.set k (t + 1)) se q wt := by
  have hlD := heap_lt v.d
  have c2 := cell_at (i := 2) (v := .pointer (some ⟨i.C, 0, none⟩)) v.d rfl
  have dk0 : (0 : Int) ≤ (k : Int) := by omega
  have dk3 : (k : Int) < 3 := by omega
  go_enter Ybaf.func21, Ybaf.ntmps21
  go_wp2_with fail
  refine (tick_c i.C P0 t _ (v.kp0 ((Kp.refl [] w).alloc _)).c ht).mono ?_
  rintro e w1 ⟨rfl, k1, c1⟩
  have K1 := ((Kp.refl [i.C] w).alloc (.cells #[.int .u64 0, .string ⟨#[]⟩] 34)).trans k1
  have v1 := v.setC K1 c1
  have hlC := heap_lt v.c
  have hs1 := k1.size
  simp at hs1
  have hr1 := k1.heap (heap_new w (.cells #[.int .u64 0, .string ⟨#[]⟩] 34)) (by simp; omega)
  have hb1 := K1.heap hb (by simp; exact hbn i.C (by simp))
  have hlD1 := heap_lt v1.d
  have hlT1 := heap_lt v1.t
  have hlb1 := heap_lt hb1
  have hlr1 := heap_lt hr1
  have e7 := cell_at (i := 7) (v := .slice (some ⟨i.Td, 0, none⟩) 3 3) v1.d rfl
  have b0 := cell_at (i := 0) (v := .int .i64 (k : Int)) hb1 rfl
  have tk := rowU_get v1.t hx
  have ft := frozen_at (i := k) v1.t
  have r0 := cell_at (i := 0) (v := .int .u64 0) hr1 rfl
  have r1 := cell_at (i := 1) (v := .string ⟨#[]⟩) hr1 rfl
  have f0 := frozen_at (i := 0) hr1
  have f1 := frozen_at (i := 1) hr1
  have nTr : i.Td ≠ w.heap.size := by have := heap_lt v.t; omega
  have nTr' : ¬ w.heap.size = i.Td := by omega
  go_wp2_with fail
  refine wp_loop_rounds 2 ?_
  rw [rounds_succ]
  go_wp2_with fail
  go_region
  go_wp2
  rw [rounds_succ]
  go_wp2
  have hT2 : (w1.setCell ⟨i.Td, k, none⟩ (.int .u64 (t + 1))).heap[i.Td]? = some (.cells (rowU (td.set k (t + 1))) 31) := by
    refine (heap_set (i := k) (.int .u64 (t + 1)) v1.t).trans ?_
    rw [rowU, rowU]
    simp [List.map_set]
  have v2 := v1.setT ((Kp.refl [i.Td] w1).set (.inl (by simp)) _) hT2
  have hr2 : (w1.setCell ⟨i.Td, k, none⟩ (.int .u64 (t + 1))).heap[w.heap.size]? = _ := (Below.heap_setCell _ _ _ _ (Ne.symm nTr)).trans hr1
  generalize hW2 : w1.setCell ⟨i.Td, k, none⟩ (.int .u64 (t + 1)) = w2 at v2 hr2 ⊢
  have hlr2 := heap_lt hr2
  have hR : ((((w2.setCell ⟨w.heap.size, 0, none⟩ (.int .u64 (t + 1))).setCell ⟨w.heap.size, 1, none⟩ (.string P0)).alloc (.cells #[.int .u64 (t + 1), .string P0] 34)).drew).heap[w.heap.size]? = some (.cells #[.int .u64 (t + 1), .string P0] 34) :=
    (Below.heap_alloc _ _ _ (by simpa [World.setCell] using hlr2)).trans (heap_set (i := 1) _ (heap_set (i := 0) _ hr2))
  have z0 := cell_at (i := 0) (v := .int .u64 (t + 1)) hR rfl
  have z1 := cell_at (i := 1) (v := .string P0) hR rfl
  have K2 : Kp [i.C, i.Td] w w2 := by rw [← hW2]; exact (K1.mono (by simp)).set (.inl (by simp)) _
  refine bodyPost_ret (v := .agg #[.int .u64 (t + 1), .string P0]) (by simp [results, Ybaf.results21, go_sem, z0, z1]) rfl ⟨rfl, ?_, ?_⟩
  · exact (((K2.set (.inr (Nat.le_refl _)) _).set (.inr (Nat.le_refl _)) _).alloc _).drew
  · refine v2.kp (bs := [w.heap.size]) (((((Kp.refl _ w2).set (.inl (by simp)) _).set (.inl (by simp)) _).alloc _).drew) ?_
    intro a ha
    have : a < w.heap.size := v.lt a ha
    simp; omega

set_option maxRecDepth 100000 in
set_option maxHeartbeats 1000000 in
theorem hand_c (v : Srv i w mu t hd td se q wt) (hq : q = .slice none 0 0 ∨ ∃ g cap cells ty, q = .slice (some ⟨g, 0, none⟩) 1 cap ∧ w.heap[g]? = some (.cells cells ty) ∧ cells[4]? = some (.bool false)) :
    Calls Ybaf.prog 49 #[.pointer (some ⟨i.D, 0, none⟩)] w fun e w' => e = .returned (.slice none 0 0) ∧ w' = w := by
  have c11 := cell_at (i := 11) (v := q) v.d rfl
  rcases hq with rfl | ⟨g, cap, cells, ty, rfl, hg, h4⟩
  · go_enter Ybaf.func49, Ybaf.ntmps49
    go_wp2_with fail
    refine wp_loop_rounds 1 ?_
    rw [rounds_succ]
    go_wp2
    go_ret
    exact ⟨rfl, rfl⟩
  · have g4 := cell_at (i := 4) (v := .bool false) hg h4
    go_enter Ybaf.func49, Ybaf.ntmps49
    go_wp2_with fail
    refine wp_loop_rounds 1 ?_
    rw [rounds_succ]
    go_wp2
    go_ret
    exact ⟨rfl, rfl⟩
end

end Go.Proofs.YbulkbxpiFmt
