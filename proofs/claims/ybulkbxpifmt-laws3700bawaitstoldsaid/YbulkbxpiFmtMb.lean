/-
  'LawS3700BAwaits', walked: an unknown process.
-/
import Derived.Test.YbulkbxpiFmtLa
import Derived.Test.YbulkbxpiFmtLc
import Derived.Test.YbulkbxpiFmtLe
import Derived.Test.YbulkbxpiFmtRz
import Derived.Test.YbulkbxpiFmtRs
namespace Go.Proofs.YbulkbxpiFmt
open Go.RowKit Go.MuLone Go.Stop

set_option maxRecDepth 100000 in
set_option maxHeartbeats 4000000 in
theorem law5_b2f (w : World) (T a x sel m : Int) (hT : 0 ≤ T ∧ T ≤ 18446744073709551612) (F : Interp) (hF : F.answers w.tape) (Hn : ∀ W, Calls Ybaf.prog 12 #[.int .u8 sel] W fun e w' => e = .returned (.string Qq) ∧ w' = W) (hz0 : 0 < T) (a0 : Addr) (hg : w.cell? ⟨0, 0, none⟩ = some (.iface 161 (.pointer (some a0)))) (ca : Array Value) (ta : TypeId) (ha : w.heap[a0.block]? = some (.cells ca ta (0, 0))) :
    Calls Ybaf.prog 5 #[.int .u64 T, .int .u64 a, .int .u64 x, .int .u8 sel, .bool false, .int .i64 m] w (LawOk w) := by
  have hd : decide (18446744073709551612 < T) = false := by simp; omega
  have hz : (T == 0) = false := by simp; omega
  have hmk := @run_makeMap Ybaf.prog
  have hfd := field34
  have hlg : 0 < w.heap.size := World.block_lt_of_cell? w _ hg
  have hla := heap_lt ha
  go_enter Ybaf.func5, Ybaf.ntmps5
  go_wp2_with fail
  refine (new_c w).mono ?_
  rintro e w1 ⟨i, rfl, k1, v1, hle⟩
  have hs1 := k1.size
  have hlt1 := v1.lt
  go_wp2_with fail
  refine (Hn _).mono ?_
  rintro e w1' ⟨rfl, hw1⟩
  rw [hw1]
  clear hw1
  have hM0 : ((w1.alloc (.map #[] 0)).alloc (.cells #[.int .u64 a, .string Qq] 34)).heap[w1.heap.size]? = some (.map #[] 0) := (Below.heap_alloc _ _ _ (by simp)).trans (heap_new w1 _)
  have hst := run_store_miss 35 9 84 Ybaf.underlying35 Ybaf.underlying9 hM0 P0 (.slice (some ⟨w1.heap.size + 1, 0, none⟩) 1 1) rfl
  obtain ⟨w2, hw2⟩ : ∃ y, y = setO ((w1.alloc (.map #[] 0)).alloc (.cells #[.int .u64 a, .string Qq] 34)) w1.heap.size (one1 P0 (.slice (some ⟨w1.heap.size + 1, 0, none⟩) 1 1)) := ⟨_, rfl⟩
  have hst' : (Instr.mapUpdate 35 (.map (some w1.heap.size)) (.string P0) (.slice (some ⟨w1.heap.size + 1, 0, none⟩) 1 1)).run Ybaf.prog ((w1.alloc (.map #[] 0)).alloc (.cells #[.int .u64 a, .string Qq] 34)) = .ok () w2 := by rw [hw2]; exact hst
  have hs2 : w2.heap.size = w1.heap.size + 2 := by rw [hw2, setO_size]; simp
  have K2 : Kp [] w1 w2 := by rw [hw2]; exact (((Kp.refl [] w1).alloc _).alloc _).setO (.inr (Nat.le_refl _)) _
  have hma2 : w2.heap[w1.heap.size]? = some (one1 P0 (.slice (some ⟨w1.heap.size + 1, 0, none⟩) 1 1)) := by rw [hw2]; exact setO_same _ (by simp; omega)
  have hab2 : w2.heap[w1.heap.size + 1]? = some (.cells #[.int .u64 a, .string Qq] 34) := by rw [hw2, setO_other _ (by omega)]; exact heap_newk _ _ _ (by simp)
  clear hst hw2
  have K5 : Kp [] w1 (w2.alloc (.cells #[.int .u64 T, .string P1, .map (some w1.heap.size), .map none] 38)) := K2.alloc _
  have hb5 : (w2.alloc (.cells #[.int .u64 T, .string P1, .map (some w1.heap.size), .map none] 38)).heap[w1.heap.size + 2]? = some (.cells #[.int .u64 T, .string P1, .map (some w1.heap.size), .map none] 38) := heap_newk _ _ _ hs2
  have hma5 := (Below.heap_alloc w2 (.cells #[.int .u64 T, .string P1, .map (some w1.heap.size), .map none] 38) _ (heap_lt hma2)).trans hma2
  have hab5 := (Below.heap_alloc w2 (.cells #[.int .u64 T, .string P1, .map (some w1.heap.size), .map none] 38) _ (heap_lt hab2)).trans hab2
  go_wp2_with fail
  generalize w2.alloc (.cells #[.int .u64 T, .string P1, .map (some w1.heap.size), .map none] 38) = w5 at K5 hb5 hma5 hab5 ⊢
  refine (recv_bad1 (v1.kp0 K5) T 1 (by omega) (by omega) 0 rfl (by omega) m w1.heap.size (w1.heap.size + 1) none a Qq hma5 hab5 (fun b hb => by have := hlt1 b hb; omega) ?_).mono ?_
  · intro W vW hW
    exact before_out F (by rw [hW, (k1.trans K5).tape]; exact hF) vW T (nmOf 1) a
  rintro e w6 ⟨er, rfl, k6, eb, es, rfl, hel, heh⟩
  have K6 : Kp [] w w6 := (k1.trans K5).trans k6
  have v6 := v1.kp0 (K5.trans k6)
  have hs5 := K5.size
  go_wp2_with fail
  refine (refused_other v6 eb es heh a0 (K6.cell hg (by simp)) ca ta (K6.heap ha (by simp)) (by omega)).mono ?_
  rintro e w7 ⟨rfl, k7⟩
  go_wp2
  go_ret
  exact ⟨rfl, (K6.trans k7).below⟩

set_option maxRecDepth 100000 in
set_option maxHeartbeats 4000000 in
theorem law5_b2t (w : World) (T a x sel m : Int) (hT : 0 ≤ T ∧ T ≤ 18446744073709551612) (F : Interp) (hF : F.answers w.tape) (Hn : ∀ W, Calls Ybaf.prog 12 #[.int .u8 sel] W fun e w' => e = .returned (.string Qq) ∧ w' = W) (hz0 : 0 < T) (a0 : Addr) (hg : w.cell? ⟨0, 0, none⟩ = some (.iface 161 (.pointer (some a0)))) (ca : Array Value) (ta : TypeId) (ha : w.heap[a0.block]? = some (.cells ca ta (0, 0))) :
    Calls Ybaf.prog 5 #[.int .u64 T, .int .u64 a, .int .u64 x, .int .u8 sel, .bool true, .int .i64 m] w (LawOk w) := by
  have hd : decide (18446744073709551612 < T) = false := by simp; omega
  have hz : (T == 0) = false := by simp; omega
  have hmk := @run_makeMap Ybaf.prog
  have hfd := field34
  have hlg : 0 < w.heap.size := World.block_lt_of_cell? w _ hg
  have hla := heap_lt ha
  go_enter Ybaf.func5, Ybaf.ntmps5
  go_wp2_with fail
  refine (new_c w).mono ?_
  rintro e w1 ⟨i, rfl, k1, v1, hle⟩
  have hs1 := k1.size
  have hlt1 := v1.lt
  go_wp2_with fail
  refine (Hn _).mono ?_
  rintro e w1' ⟨rfl, hw1⟩
  rw [hw1]
  clear hw1
  have hM0 : ((w1.alloc (.map #[] 0)).alloc (.cells #[.int .u64 a, .string Qq] 34)).heap[w1.heap.size]? = some (.map #[] 0) := (Below.heap_alloc _ _ _ (by simp)).trans (heap_new w1 _)
  have hst := run_store_miss 35 9 84 Ybaf.underlying35 Ybaf.underlying9 hM0 P0 (.slice (some ⟨w1.heap.size + 1, 0, none⟩) 1 1) rfl
  obtain ⟨w2, hw2⟩ : ∃ y, y = setO ((w1.alloc (.map #[] 0)).alloc (.cells #[.int .u64 a, .string Qq] 34)) w1.heap.size (one1 P0 (.slice (some ⟨w1.heap.size + 1, 0, none⟩) 1 1)) := ⟨_, rfl⟩
  have hst' : (Instr.mapUpdate 35 (.map (some w1.heap.size)) (.string P0) (.slice (some ⟨w1.heap.size + 1, 0, none⟩) 1 1)).run Ybaf.prog ((w1.alloc (.map #[] 0)).alloc (.cells #[.int .u64 a, .string Qq] 34)) = .ok () w2 := by rw [hw2]; exact hst
  have hs2 : w2.heap.size = w1.heap.size + 2 := by rw [hw2, setO_size]; simp
  have K2 : Kp [] w1 w2 := by rw [hw2]; exact (((Kp.refl [] w1).alloc _).alloc _).setO (.inr (Nat.le_refl _)) _
  have hma2 : w2.heap[w1.heap.size]? = some (one1 P0 (.slice (some ⟨w1.heap.size + 1, 0, none⟩) 1 1)) := by rw [hw2]; exact setO_same _ (by simp; omega)
  have hab2 : w2.heap[w1.heap.size + 1]? = some (.cells #[.int .u64 a, .string Qq] 34) := by rw [hw2, setO_other _ (by omega)]; exact heap_newk _ _ _ (by simp)
  clear hst hw2
  have hb3 : (w2.alloc (.cells #[.int .u64 T, .string P1, .map (some w1.heap.size), .map none] 38)).heap[w1.heap.size + 2]? = some (.cells #[.int .u64 T, .string P1, .map (some w1.heap.size), .map none] 38) := heap_newk _ _ _ hs2
  obtain ⟨w3, hw3⟩ : ∃ y, y = w2.alloc (.cells #[.int .u64 T, .string P1, .map (some w1.heap.size), .map none] 38) := ⟨_, rfl⟩
  rw [← hw3] at hb3
  have hs3 : w3.heap.size = w1.heap.size + 3 := by rw [hw3]; simp [hs2]
  have K3 : Kp [] w2 w3 := by rw [hw3]; exact (Kp.refl [] w2).alloc _
  have hS0 : (w3.alloc (.map #[] 0)).heap[w1.heap.size + 3]? = some (.map #[] 0) := heap_newk _ _ _ hs3
  have hst2 := run_store_miss 36 9 31 Ybaf.underlying36 Ybaf.underlying9 hS0 P2 (.int .u64 x) rfl
  obtain ⟨w4, hw4⟩ : ∃ y, y = setO (w3.alloc (.map #[] 0)) (w1.heap.size + 3) (one1 P2 (.int .u64 x)) := ⟨_, rfl⟩
  have hst2' : (Instr.mapUpdate 36 (.map (some (w1.heap.size + 3))) (.string P2) (.int .u64 x)).run Ybaf.prog ((w2.alloc (.cells #[.int .u64 T, .string P1, .map (some w1.heap.size), .map none] 38)).alloc (.map #[] 0)) = .ok () w4 := by rw [← hw3, hw4]; exact hst2
  have K4 : Kp [] w3 w4 := by rw [hw4]; exact ((Kp.refl [] w3).alloc _).setO (.inr (by omega)) _
  have hS4 : w4.heap[w1.heap.size + 3]? = some (one1 P2 (.int .u64 x)) := by rw [hw4]; exact setO_same _ (by simp; omega)
  clear hst2 hw4 hw3
  have hb4 := K4.heap hb3 (by simp)
  have q0 := cell_at (i := 0) (v := .int .u64 T) hb4 rfl
  have q1 := cell_at (i := 1) (v := .string P1) hb4 rfl
  have q2 := cell_at (i := 2) (v := .map (some w1.heap.size)) hb4 rfl
  have q3 := cell_at (i := 3) (v := .map none) hb4 rfl
  have qf := frozen_at (i := 3) hb4
  have hlb4 := heap_lt hb4
  have hb5 : (w4.setCell ⟨w1.heap.size + 2, 3, none⟩ (.map (some (w1.heap.size + 3)))).heap[w1.heap.size + 2]? = some (.cells #[.int .u64 T, .string P1, .map (some w1.heap.size), .map (some (w1.heap.size + 3))] 38) := heap_set (i := 3) (.map (some (w1.heap.size + 3))) hb4
  have k5 : Kp [w1.heap.size + 2] w4 (w4.setCell ⟨w1.heap.size + 2, 3, none⟩ (.map (some (w1.heap.size + 3)))) := (Kp.refl _ w4).set (a := ⟨w1.heap.size + 2, 3, none⟩) (.inl (by simp)) _
  have K5 : Kp [] w1 (w4.setCell ⟨w1.heap.size + 2, 3, none⟩ (.map (some (w1.heap.size + 3)))) := (((K2.trans K3).trans K4)).set (a := ⟨w1.heap.size + 2, 3, none⟩) (.inr (by show _ ≤ w1.heap.size + 2; omega)) _
  have hma5 := k5.heap ((K3.trans K4).heap hma2 (by simp)) (by simp)
  have hab5 := k5.heap ((K3.trans K4).heap hab2 (by simp)) (by simp)
  have hS5 := k5.heap hS4 (by simp)
  go_wp2_with fail
  generalize w4.setCell ⟨w1.heap.size + 2, 3, none⟩ (.map (some (w1.heap.size + 3))) = w5 at K5 hb5 k5 hma5 hab5 hS5 ⊢
  clear q0 q1 q2 q3 qf
  refine (recv_bad1 (v1.kp0 K5) T 1 (by omega) (by omega) 0 rfl (by omega) m w1.heap.size (w1.heap.size + 1) (some (w1.heap.size + 3)) a Qq hma5 hab5 (fun b hb => by have := hlt1 b hb; omega) ?_).mono ?_
  · intro W vW hW
    exact before_out F (by rw [hW, (k1.trans K5).tape]; exact hF) vW T (nmOf 1) a
  rintro e w6 ⟨er, rfl, k6, eb, es, rfl, hel, heh⟩
  have K6 : Kp [] w w6 := (k1.trans K5).trans k6
  have v6 := v1.kp0 (K5.trans k6)
  have hs5 := K5.size
  go_wp2_with fail
  refine (refused_other v6 eb es heh a0 (K6.cell hg (by simp)) ca ta (K6.heap ha (by simp)) (by omega)).mono ?_
  rintro e w7 ⟨rfl, k7⟩
  go_wp2
  go_ret
  exact ⟨rfl, (K6.trans k7).below⟩

end Go.Proofs.YbulkbxpiFmt
