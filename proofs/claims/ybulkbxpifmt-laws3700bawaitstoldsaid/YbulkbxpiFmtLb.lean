/-
  'LawS3700BFirstReceipt', walked: the clock would overflow.
-/
import Derived.Test.YbulkbxpiFmtLa
import Derived.Test.YbulkbxpiFmtRw
namespace Go.Proofs.YbulkbxpiFmt
open Go.RowKit Go.MuLone Go.Stop

set_option maxRecDepth 100000 in
set_option maxHeartbeats 1000000 in
theorem law4_over1 (w : World) (sel T m : Int) (h0 : 0 ≤ sel ∧ sel ≤ 255) (h : sel % 4 = 1) (hT : 18446744073709551612 < T ∧ T ≤ 18446744073709551615) (a : Addr) (hg : w.cell? ⟨0, 0, none⟩ = some (.iface 161 (.pointer (some a)))) :
    Calls Ybaf.prog 4 #[.int .u8 sel, .int .u64 T, .int .i64 m] w (LawOk w) := by
  have hz : (T == 0) = false := by simp; omega
  have hd : decide (18446744073709551612 < T) = true := by simp; omega
  have hlg : 0 < w.heap.size := World.block_lt_of_cell? w _ hg
  go_enter Ybaf.func4, Ybaf.ntmps4
  go_wp2_with fail
  refine (new_c w).mono ?_
  rintro e w1 ⟨i, rfl, k1, v1, hle⟩
  go_wp2_with fail
  refine (name_P1 sel _ h0 h).mono ?_
  rintro e w1' ⟨rfl, hw1⟩
  rw [hw1]
  clear hw1
  go_wp2_with fail
  refine (recv_over (v1.kp0 ((Kp.refl [] w1).alloc _)) T 1 (by omega) (by omega) 0 rfl (by omega) a ((k1.trans ((Kp.refl [] w1).alloc _)).cell hg (by simp)) (fun b hb => by have := hle b hb; omega) (by omega) m).mono ?_
  rintro e w3 ⟨rfl, k3⟩
  have K3 : Kp [] w w3 := (k1.trans ((Kp.refl [] w1).alloc _)).trans k3
  have v3 := v1.kp0 (((Kp.refl [] w1).alloc _).trans k3)
  go_wp2_with fail
  refine (refused_over v3 a (K3.cell hg (by simp))).mono ?_
  rintro e w4 ⟨rfl, k4⟩
  go_wp2
  go_ret
  exact ⟨rfl, (K3.trans k4).below⟩

set_option maxRecDepth 100000 in
set_option maxHeartbeats 1000000 in
theorem law4_over2 (w : World) (sel T m : Int) (h0 : 0 ≤ sel ∧ sel ≤ 255) (h : sel % 4 = 2) (hT : 18446744073709551612 < T ∧ T ≤ 18446744073709551615) (a : Addr) (hg : w.cell? ⟨0, 0, none⟩ = some (.iface 161 (.pointer (some a)))) :
    Calls Ybaf.prog 4 #[.int .u8 sel, .int .u64 T, .int .i64 m] w (LawOk w) := by
  have hz : (T == 0) = false := by simp; omega
  have hd : decide (18446744073709551612 < T) = true := by simp; omega
  have hlg : 0 < w.heap.size := World.block_lt_of_cell? w _ hg
  go_enter Ybaf.func4, Ybaf.ntmps4
  go_wp2_with fail
  refine (new_c w).mono ?_
  rintro e w1 ⟨i, rfl, k1, v1, hle⟩
  go_wp2_with fail
  refine (name_P2 sel _ h0 h).mono ?_
  rintro e w1' ⟨rfl, hw1⟩
  rw [hw1]
  clear hw1
  go_wp2_with fail
  refine (recv_over (v1.kp0 ((Kp.refl [] w1).alloc _)) T 2 (by omega) (by omega) 0 rfl (by omega) a ((k1.trans ((Kp.refl [] w1).alloc _)).cell hg (by simp)) (fun b hb => by have := hle b hb; omega) (by omega) m).mono ?_
  rintro e w3 ⟨rfl, k3⟩
  have K3 : Kp [] w w3 := (k1.trans ((Kp.refl [] w1).alloc _)).trans k3
  have v3 := v1.kp0 (((Kp.refl [] w1).alloc _).trans k3)
  go_wp2_with fail
  refine (refused_over v3 a (K3.cell hg (by simp))).mono ?_
  rintro e w4 ⟨rfl, k4⟩
  go_wp2
  go_ret
  exact ⟨rfl, (K3.trans k4).below⟩

end Go.Proofs.YbulkbxpiFmt
