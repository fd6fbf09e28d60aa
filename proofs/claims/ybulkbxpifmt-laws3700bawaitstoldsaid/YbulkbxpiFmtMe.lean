/-
  'LawS3700BAwaits', walked: proposed, nothing told settled.
-/
import Derived.Test.YbulkbxpiFmtLa
import Derived.Test.YbulkbxpiFmtLc
import Derived.Test.YbulkbxpiFmtLe
import Derived.Test.YbulkbxpiFmtRz
import Derived.Test.YbulkbxpiFmtRs
namespace Go.Proofs.YbulkbxpiFmt
open Go.RowKit Go.MuLone Go.Stop

set_option maxRecDepth 100000 in
set_option maxHeartbeats 4000000 in
theorem law5_s0f (w : World) (T a x sel m : Int) (hT : 0 ≤ T ∧ T ≤ 18446744073709551612) (Hn : ∀ W, Calls Ybaf.prog 12 #[.int .u8 sel] W fun e w' => e = .returned (.string P0) ∧ w' = W) (hz0 : 0 < T) (hza : a < T)  (a0 : Addr) (hg : w.cell? ⟨0, 0, none⟩ = some (.iface 161 (.pointer (some a0)))) :
    Calls Ybaf.prog 5 #[.int .u64 T, .int .u64 a, .int .u64 x, .int .u8 sel, .bool false, .int .i64 m] w (LawOk w) := by
  have hd : decide (18446744073709551612 < T) = false := by simp; omega
  have hz : (T == 0) = false := by simp; omega
  have hza' : ¬ T ≤ a := by omega
  have hmk := @run_makeMap Ybaf.prog
  have hfd := field34
  have hlg : 0 < w.heap.size := World.block_lt_of_cell? w _ hg
  go_enter Ybaf.func5, Ybaf.ntmps5
  go_wp2_with fail
  refine (new_c w).mono ?_
  rintro e w1 ⟨i, rfl, k1, v1, hle⟩
  have hs1 := k1.size
  have hlt1 := v1.lt
  go_wp2_with fail
  refine (Hn _).mono ?_
  rintro e w1' ⟨rfl, hw1⟩
  rw [hw1]
  clear hw1
  have hM0 : ((w1.alloc (.map #[] 0)).alloc (.cells #[.int .u64 a, .string P0] 34)).heap[w1.heap.size]? = some (.map #[] 0) := (Below.heap_alloc _ _ _ (by simp)).trans (heap_new w1 _)
  have hst := run_store_miss 35 9 84 Ybaf.underlying35 Ybaf.underlying9 hM0 P0 (.slice (some ⟨w1.heap.size + 1, 0, none⟩) 1 1) rfl
  obtain ⟨w2, hw2⟩ : ∃ y, y = setO ((w1.alloc (.map #[] 0)).alloc (.cells #[.int .u64 a, .string P0] 34)) w1.heap.size (one1 P0 (.slice (some ⟨w1.heap.size + 1, 0, none⟩) 1 1)) := ⟨_, rfl⟩
  have hst' : (Instr.mapUpdate 35 (.map (some w1.heap.size)) (.string P0) (.slice (some ⟨w1.heap.size + 1, 0, none⟩) 1 1)).run Ybaf.prog ((w1.alloc (.map #[] 0)).alloc (.cells #[.int .u64 a, .string P0] 34)) = .ok () w2 := by rw [hw2]; exact hst
  have hs2 : w2.heap.size = w1.heap.size + 2 := by rw [hw2, setO_size]; simp
  have K2 : Kp [] w1 w2 := by rw [hw2]; exact (((Kp.refl [] w1).alloc _).alloc _).setO (.inr (Nat.le_refl _)) _
  have hma2 : w2.heap[w1.heap.size]? = some (one1 P0 (.slice (some ⟨w1.heap.size + 1, 0, none⟩) 1 1)) := by rw [hw2]; exact setO_same _ (by simp; omega)
  have hab2 : w2.heap[w1.heap.size + 1]? = some (.cells #[.int .u64 a, .string P0] 34) := by rw [hw2, setO_other _ (by omega)]; exact heap_newk _ _ _ (by simp)
  clear hst hw2
  have K5 : Kp [] w1 (w2.alloc (.cells #[.int .u64 T, .string P1, .map (some w1.heap.size), .map none] 38)) := K2.alloc _
  have hb5 : (w2.alloc (.cells #[.int .u64 T, .string P1, .map (some w1.heap.size), .map none] 38)).heap[w1.heap.size + 2]? = some (.cells #[.int .u64 T, .string P1, .map (some w1.heap.size), .map none] 38) := heap_newk _ _ _ hs2
  have hma5 := (Below.heap_alloc w2 (.cells #[.int .u64 T, .string P1, .map (some w1.heap.size), .map none] 38) _ (heap_lt hma2)).trans hma2
  have hab5 := (Below.heap_alloc w2 (.cells #[.int .u64 T, .string P1, .map (some w1.heap.size), .map none] 38) _ (heap_lt hab2)).trans hab2
  go_wp2_with fail
  generalize w2.alloc (.cells #[.int .u64 T, .string P1, .map (some w1.heap.size), .map none] 38) = w5 at K5 hb5 hma5 hab5 ⊢
  refine (recv_sett (v1.kp0 K5) T 1 (by omega) (by omega) 0 rfl (by omega) (by omega) m w1.heap.size (w1.heap.size + 1) none a P0 hma5 hab5 (fun b hb => by have := hlt1 b hb; omega) [0, 0, 0] (fun W vW => before_ok vW T (nmOf 1) 0 (by omega) a hza) (fun W KW vW => past_nil (i := i) T (nmOf 1) W)
    (fun W KW vW => (learn_nil (i := i) T (nmOf 1) W).mono fun e w' ⟨h1, h2⟩ => ⟨h1, h2.mono (by simp), vW.kp0 h2⟩)
    0 rfl (fun wt' W vW => sett_own vW a)).mono ?_
  rintro e w6 ⟨go, cap', curo, gt, mm, q', wt', rfl, ⟨bs, k6, hbs⟩, v6, ⟨g1, c1, rfl⟩, ⟨g2, c2, rfl⟩, ho, hoc, lo⟩
  have hlb5 := heap_lt hb5
  have nb : w1.heap.size + 2 ∉ bs := fun hx => by
    rcases hbs _ hx with m | m
    · have := hlt1 _ m; omega
    · omega
  have hb6 := k6.heap hb5 nb
  have o0 := cell_at (i := 0) ho (hoc 0 (by omega))
  have o1 := cell_at (i := 1) ho (hoc 1 (by omega))
  have o2 := cell_at (i := 2) ho (hoc 2 (by omega))
  have o3 := cell_at (i := 3) ho (hoc 3 (by omega))
  have o4 := cell_at (i := 4) ho (hoc 4 (by omega))
  have o5 := cell_at (i := 5) ho (hoc 5 (by omega))
  have o6 := cell_at (i := 6) ho (hoc 6 (by omega))
  have o7 := cell_at (i := 7) ho (hoc 7 (by omega))
  have o8 := cell_at (i := 8) ho (hoc 8 (by omega))
  have o9 := cell_at (i := 9) ho (hoc 9 (by omega))
  simp [nmOf] at o0 o1 o2 o3 o4 o5 o6 o7 o8 o9
  have b0 := cell_at (i := 0) (v := .int .u64 T) hb6 rfl
  have b1 := cell_at (i := 1) (v := .string P1) hb6 rfl
  have hlo := heap_lt ho
  have hlb := heap_lt hb6
  have hlD := heap_lt v6.d
  have d2 := cell_at (i := 2) (v := .pointer (some ⟨i.C, 0, none⟩)) v6.d rfl
  have hs5 := K5.size
  have B6 : Below w.heap.size w w6 := ((k1.trans K5).below).trans ((v1.kp0 K5).kpOut hle k6 hbs (by omega))
  go_wp2_with fail
  have v7 := v6.kp0 ((Kp.refl [] w6).alloc (.cells #[.string ⟨#[112, 114, 111, 112, 111, 115, 97, 108]⟩, .int .u64 (T + 2), .string P0, .slice (some ⟨gt, 0, none⟩) 1 1, .int .u64 T, .string P1, .int .u64 (T + 2), .string P0, .slice none 0 0, .map (some mm)] 79))
  refine (now_c i.C P0 (T + 2) _ v7.c).mono ?_
  rintro e w8 ⟨rfl, k8⟩
  have K8 : Kp [] w6 w8 := ((Kp.refl [] w6).alloc _).trans k8
  have v8 := v6.kp0 K8
  have f11 := cell_at (i := 11) (v := .slice (some ⟨g1, 0, none⟩) 1 c1) v8.d rfl
  have f12 := cell_at (i := 12) (v := .slice (some ⟨g2, 0, none⟩) 0 c2) v8.d rfl
  clear o0 o1 o2 o3 o4 o5 o6 o7 o8 o9 b0 b1 d2
  go_wp2
  go_ret
  exact ⟨rfl, B6.trans (K8.below.mono B6.size)⟩

set_option maxRecDepth 100000 in
set_option maxHeartbeats 4000000 in
theorem law5_s1f (w : World) (T a x sel m : Int) (hT : 0 ≤ T ∧ T ≤ 18446744073709551612) (Hn : ∀ W, Calls Ybaf.prog 12 #[.int .u8 sel] W fun e w' => e = .returned (.string P1) ∧ w' = W) (hz0 : 0 < T) (hza : a < T) (hs : Hid2 (a = 0))  (a0 : Addr) (hg : w.cell? ⟨0, 0, none⟩ = some (.iface 161 (.pointer (some a0)))) :
    Calls Ybaf.prog 5 #[.int .u64 T, .int .u64 a, .int .u64 x, .int .u8 sel, .bool false, .int .i64 m] w (LawOk w) := by
  have hd : decide (18446744073709551612 < T) = false := by simp; omega
  have hz : (T == 0) = false := by simp; omega
  have hza' : ¬ T ≤ a := by omega
  have hs' : (a == 0) = true := by have e : a = 0 := hs; simp [e]
  have hmk := @run_makeMap Ybaf.prog
  have hfd := field34
  have hlg : 0 < w.heap.size := World.block_lt_of_cell? w _ hg
  go_enter Ybaf.func5, Ybaf.ntmps5
  go_wp2_with fail
  refine (new_c w).mono ?_
  rintro e w1 ⟨i, rfl, k1, v1, hle⟩
  have hs1 := k1.size
  have hlt1 := v1.lt
  go_wp2_with fail
  refine (Hn _).mono ?_
  rintro e w1' ⟨rfl, hw1⟩
  rw [hw1]
  clear hw1
  have hM0 : ((w1.alloc (.map #[] 0)).alloc (.cells #[.int .u64 a, .string P1] 34)).heap[w1.heap.size]? = some (.map #[] 0) := (Below.heap_alloc _ _ _ (by simp)).trans (heap_new w1 _)
  have hst := run_store_miss 35 9 84 Ybaf.underlying35 Ybaf.underlying9 hM0 P0 (.slice (some ⟨w1.heap.size + 1, 0, none⟩) 1 1) rfl
  obtain ⟨w2, hw2⟩ : ∃ y, y = setO ((w1.alloc (.map #[] 0)).alloc (.cells #[.int .u64 a, .string P1] 34)) w1.heap.size (one1 P0 (.slice (some ⟨w1.heap.size + 1, 0, none⟩) 1 1)) := ⟨_, rfl⟩
  have hst' : (Instr.mapUpdate 35 (.map (some w1.heap.size)) (.string P0) (.slice (some ⟨w1.heap.size + 1, 0, none⟩) 1 1)).run Ybaf.prog ((w1.alloc (.map #[] 0)).alloc (.cells #[.int .u64 a, .string P1] 34)) = .ok () w2 := by rw [hw2]; exact hst
  have hs2 : w2.heap.size = w1.heap.size + 2 := by rw [hw2, setO_size]; simp
  have K2 : Kp [] w1 w2 := by rw [hw2]; exact (((Kp.refl [] w1).alloc _).alloc _).setO (.inr (Nat.le_refl _)) _
  have hma2 : w2.heap[w1.heap.size]? = some (one1 P0 (.slice (some ⟨w1.heap.size + 1, 0, none⟩) 1 1)) := by rw [hw2]; exact setO_same _ (by simp; omega)
  have hab2 : w2.heap[w1.heap.size + 1]? = some (.cells #[.int .u64 a, .string P1] 34) := by rw [hw2, setO_other _ (by omega)]; exact heap_newk _ _ _ (by simp)
  clear hst hw2
  have K5 : Kp [] w1 (w2.alloc (.cells #[.int .u64 T, .string P1, .map (some w1.heap.size), .map none] 38)) := K2.alloc _
  have hb5 : (w2.alloc (.cells #[.int .u64 T, .string P1, .map (some w1.heap.size), .map none] 38)).heap[w1.heap.size + 2]? = some (.cells #[.int .u64 T, .string P1, .map (some w1.heap.size), .map none] 38) := heap_newk _ _ _ hs2
  have hma5 := (Below.heap_alloc w2 (.cells #[.int .u64 T, .string P1, .map (some w1.heap.size), .map none] 38) _ (heap_lt hma2)).trans hma2
  have hab5 := (Below.heap_alloc w2 (.cells #[.int .u64 T, .string P1, .map (some w1.heap.size), .map none] 38) _ (heap_lt hab2)).trans hab2
  go_wp2_with fail
  generalize w2.alloc (.cells #[.int .u64 T, .string P1, .map (some w1.heap.size), .map none] 38) = w5 at K5 hb5 hma5 hab5 ⊢
  refine (recv_sett (v1.kp0 K5) T 1 (by omega) (by omega) 0 rfl (by omega) (by omega) m w1.heap.size (w1.heap.size + 1) none a P1 hma5 hab5 (fun b hb => by have := hlt1 b hb; omega) [0, 0, 0] (fun W vW => before_ok vW T (nmOf 1) 1 (by omega) a hza) (fun W KW vW => past_nil (i := i) T (nmOf 1) W)
    (fun W KW vW => (learn_nil (i := i) T (nmOf 1) W).mono fun e w' ⟨h1, h2⟩ => ⟨h1, h2.mono (by simp), vW.kp0 h2⟩)
    0 rfl (fun wt' W vW => by
    have e : decide (a ≤ 0) = true := by have e1 : a = 0 := hs; simp [e1]
    rw [← e]
    exact sett_k vW a 1 (by omega) (by omega) 0 rfl)).mono ?_
  rintro e w6 ⟨go, cap', curo, gt, mm, q', wt', rfl, ⟨bs, k6, hbs⟩, v6, ⟨g1, c1, rfl⟩, ⟨g2, c2, rfl⟩, ho, hoc, lo⟩
  have hlb5 := heap_lt hb5
  have nb : w1.heap.size + 2 ∉ bs := fun hx => by
    rcases hbs _ hx with m | m
    · have := hlt1 _ m; omega
    · omega
  have hb6 := k6.heap hb5 nb
  have o0 := cell_at (i := 0) ho (hoc 0 (by omega))
  have o1 := cell_at (i := 1) ho (hoc 1 (by omega))
  have o2 := cell_at (i := 2) ho (hoc 2 (by omega))
  have o3 := cell_at (i := 3) ho (hoc 3 (by omega))
  have o4 := cell_at (i := 4) ho (hoc 4 (by omega))
  have o5 := cell_at (i := 5) ho (hoc 5 (by omega))
  have o6 := cell_at (i := 6) ho (hoc 6 (by omega))
  have o7 := cell_at (i := 7) ho (hoc 7 (by omega))
  have o8 := cell_at (i := 8) ho (hoc 8 (by omega))
  have o9 := cell_at (i := 9) ho (hoc 9 (by omega))
  simp [nmOf] at o0 o1 o2 o3 o4 o5 o6 o7 o8 o9
  have b0 := cell_at (i := 0) (v := .int .u64 T) hb6 rfl
  have b1 := cell_at (i := 1) (v := .string P1) hb6 rfl
  have hlo := heap_lt ho
  have hlb := heap_lt hb6
  have hlD := heap_lt v6.d
  have d2 := cell_at (i := 2) (v := .pointer (some ⟨i.C, 0, none⟩)) v6.d rfl
  have hs5 := K5.size
  have B6 : Below w.heap.size w w6 := ((k1.trans K5).below).trans ((v1.kp0 K5).kpOut hle k6 hbs (by omega))
  go_wp2_with fail
  have v7 := v6.kp0 ((Kp.refl [] w6).alloc (.cells #[.string ⟨#[112, 114, 111, 112, 111, 115, 97, 108]⟩, .int .u64 (T + 2), .string P0, .slice (some ⟨gt, 0, none⟩) 1 1, .int .u64 T, .string P1, .int .u64 (T + 2), .string P0, .slice none 0 0, .map (some mm)] 79))
  refine (now_c i.C P0 (T + 2) _ v7.c).mono ?_
  rintro e w8 ⟨rfl, k8⟩
  have K8 : Kp [] w6 w8 := ((Kp.refl [] w6).alloc _).trans k8
  have v8 := v6.kp0 K8
  have f11 := cell_at (i := 11) (v := .slice (some ⟨g1, 0, none⟩) 1 c1) v8.d rfl
  have f12 := cell_at (i := 12) (v := .slice (some ⟨g2, 0, none⟩) 0 c2) v8.d rfl
  clear o0 o1 o2 o3 o4 o5 o6 o7 o8 o9 b0 b1 d2
  go_wp2
  go_ret
  exact ⟨rfl, B6.trans (K8.below.mono B6.size)⟩

set_option maxRecDepth 100000 in
set_option maxHeartbeats 4000000 in
theorem law5_s2f (w : World) (T a x sel m : Int) (hT : 0 ≤ T ∧ T ≤ 18446744073709551612) (Hn : ∀ W, Calls Ybaf.prog 12 #[.int .u8 sel] W fun e w' => e = .returned (.string P2) ∧ w' = W) (hz0 : 0 < T) (hza : a < T) (hs : a ≤ 0)  (a0 : Addr) (hg : w.cell? ⟨0, 0, none⟩ = some (.iface 161 (.pointer (some a0)))) :
    Calls Ybaf.prog 5 #[.int .u64 T, .int .u64 a, .int .u64 x, .int .u8 sel, .bool false, .int .i64 m] w (LawOk w) := by
  have hd : decide (18446744073709551612 < T) = false := by simp; omega
  have hz : (T == 0) = false := by simp; omega
  have hza' : ¬ T ≤ a := by omega
  have hmk := @run_makeMap Ybaf.prog
  have hfd := field34
  have hlg : 0 < w.heap.size := World.block_lt_of_cell? w _ hg
  go_enter Ybaf.func5, Ybaf.ntmps5
  go_wp2_with fail
  refine (new_c w).mono ?_
  rintro e w1 ⟨i, rfl, k1, v1, hle⟩
  have hs1 := k1.size
  have hlt1 := v1.lt
  go_wp2_with fail
  refine (Hn _).mono ?_
  rintro e w1' ⟨rfl, hw1⟩
  rw [hw1]
  clear hw1
  have hM0 : ((w1.alloc (.map #[] 0)).alloc (.cells #[.int .u64 a, .string P2] 34)).heap[w1.heap.size]? = some (.map #[] 0) := (Below.heap_alloc _ _ _ (by simp)).trans (heap_new w1 _)
  have hst := run_store_miss 35 9 84 Ybaf.underlying35 Ybaf.underlying9 hM0 P0 (.slice (some ⟨w1.heap.size + 1, 0, none⟩) 1 1) rfl
  obtain ⟨w2, hw2⟩ : ∃ y, y = setO ((w1.alloc (.map #[] 0)).alloc (.cells #[.int .u64 a, .string P2] 34)) w1.heap.size (one1 P0 (.slice (some ⟨w1.heap.size + 1, 0, none⟩) 1 1)) := ⟨_, rfl⟩
  have hst' : (Instr.mapUpdate 35 (.map (some w1.heap.size)) (.string P0) (.slice (some ⟨w1.heap.size + 1, 0, none⟩) 1 1)).run Ybaf.prog ((w1.alloc (.map #[] 0)).alloc (.cells #[.int .u64 a, .string P2] 34)) = .ok () w2 := by rw [hw2]; exact hst
  have hs2 : w2.heap.size = w1.heap.size + 2 := by rw [hw2, setO_size]; simp
  have K2 : Kp [] w1 w2 := by rw [hw2]; exact (((Kp.refl [] w1).alloc _).alloc _).setO (.inr (Nat.le_refl _)) _
  have hma2 : w2.heap[w1.heap.size]? = some (one1 P0 (.slice (some ⟨w1.heap.size + 1, 0, none⟩) 1 1)) := by rw [hw2]; exact setO_same _ (by simp; omega)
  have hab2 : w2.heap[w1.heap.size + 1]? = some (.cells #[.int .u64 a, .string P2] 34) := by rw [hw2, setO_other _ (by omega)]; exact heap_newk _ _ _ (by simp)
  clear hst hw2
  have K5 : Kp [] w1 (w2.alloc (.cells #[.int .u64 T, .string P1, .map (some w1.heap.size), .map none] 38)) := K2.alloc _
  have hb5 : (w2.alloc (.cells #[.int .u64 T, .string P1, .map (some w1.heap.size), .map none] 38)).heap[w1.heap.size + 2]? = some (.cells #[.int .u64 T, .string P1, .map (some w1.heap.size), .map none] 38) := heap_newk _ _ _ hs2
  have hma5 := (Below.heap_alloc w2 (.cells #[.int .u64 T, .string P1, .map (some w1.heap.size), .map none] 38) _ (heap_lt hma2)).trans hma2
  have hab5 := (Below.heap_alloc w2 (.cells #[.int .u64 T, .string P1, .map (some w1.heap.size), .map none] 38) _ (heap_lt hab2)).trans hab2
  go_wp2_with fail
  generalize w2.alloc (.cells #[.int .u64 T, .string P1, .map (some w1.heap.size), .map none] 38) = w5 at K5 hb5 hma5 hab5 ⊢
  refine (recv_sett (v1.kp0 K5) T 1 (by omega) (by omega) 0 rfl (by omega) (by omega) m w1.heap.size (w1.heap.size + 1) none a P2 hma5 hab5 (fun b hb => by have := hlt1 b hb; omega) [0, 0, 0] (fun W vW => before_ok vW T (nmOf 1) 2 (by omega) a hza) (fun W KW vW => past_nil (i := i) T (nmOf 1) W)
    (fun W KW vW => (learn_nil (i := i) T (nmOf 1) W).mono fun e w' ⟨h1, h2⟩ => ⟨h1, h2.mono (by simp), vW.kp0 h2⟩)
    0 rfl (fun wt' W vW => by
    have e : decide (a ≤ 0) = true := by simp; omega
    rw [← e]
    exact sett_k vW a 2 (by omega) (by omega) 0 rfl)).mono ?_
  rintro e w6 ⟨go, cap', curo, gt, mm, q', wt', rfl, ⟨bs, k6, hbs⟩, v6, ⟨g1, c1, rfl⟩, ⟨g2, c2, rfl⟩, ho, hoc, lo⟩
  have hlb5 := heap_lt hb5
  have nb : w1.heap.size + 2 ∉ bs := fun hx => by
    rcases hbs _ hx with m | m
    · have := hlt1 _ m; omega
    · omega
  have hb6 := k6.heap hb5 nb
  have o0 := cell_at (i := 0) ho (hoc 0 (by omega))
  have o1 := cell_at (i := 1) ho (hoc 1 (by omega))
  have o2 := cell_at (i := 2) ho (hoc 2 (by omega))
  have o3 := cell_at (i := 3) ho (hoc 3 (by omega))
  have o4 := cell_at (i := 4) ho (hoc 4 (by omega))
  have o5 := cell_at (i := 5) ho (hoc 5 (by omega))
  have o6 := cell_at (i := 6) ho (hoc 6 (by omega))
  have o7 := cell_at (i := 7) ho (hoc 7 (by omega))
  have o8 := cell_at (i := 8) ho (hoc 8 (by omega))
  have o9 := cell_at (i := 9) ho (hoc 9 (by omega))
  simp [nmOf] at o0 o1 o2 o3 o4 o5 o6 o7 o8 o9
  have b0 := cell_at (i := 0) (v := .int .u64 T) hb6 rfl
  have b1 := cell_at (i := 1) (v := .string P1) hb6 rfl
  have hlo := heap_lt ho
  have hlb := heap_lt hb6
  have hlD := heap_lt v6.d
  have d2 := cell_at (i := 2) (v := .pointer (some ⟨i.C, 0, none⟩)) v6.d rfl
  have hs5 := K5.size
  have B6 : Below w.heap.size w w6 := ((k1.trans K5).below).trans ((v1.kp0 K5).kpOut hle k6 hbs (by omega))
  go_wp2_with fail
  have v7 := v6.kp0 ((Kp.refl [] w6).alloc (.cells #[.string ⟨#[112, 114, 111, 112, 111, 115, 97, 108]⟩, .int .u64 (T + 2), .string P0, .slice (some ⟨gt, 0, none⟩) 1 1, .int .u64 T, .string P1, .int .u64 (T + 2), .string P0, .slice none 0 0, .map (some mm)] 79))
  refine (now_c i.C P0 (T + 2) _ v7.c).mono ?_
  rintro e w8 ⟨rfl, k8⟩
  have K8 : Kp [] w6 w8 := ((Kp.refl [] w6).alloc _).trans k8
  have v8 := v6.kp0 K8
  have f11 := cell_at (i := 11) (v := .slice (some ⟨g1, 0, none⟩) 1 c1) v8.d rfl
  have f12 := cell_at (i := 12) (v := .slice (some ⟨g2, 0, none⟩) 0 c2) v8.d rfl
  clear o0 o1 o2 o3 o4 o5 o6 o7 o8 o9 b0 b1 d2
  go_wp2
  go_ret
  exact ⟨rfl, B6.trans (K8.below.mono B6.size)⟩

end Go.Proofs.YbulkbxpiFmt
