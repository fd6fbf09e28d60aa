/-
  'LawS3700BFirstReceipt', walked: the refused ways.
-/
import Derived.Test.YbulkbxpiFmtNw
import Derived.Test.YbulkbxpiFmtRf
namespace Go.Proofs.YbulkbxpiFmt
open Go.RowKit Go.MuLone Go.Stop

set_option maxRecDepth 100000 in
theorem name_P0 (sel : Int) (w : World) (h0 : 0 ≤ sel ∧ sel ≤ 255) (h : sel % 4 = 0) : Calls Ybaf.prog 12 #[.int .u8 sel] w fun e w' => e = .returned (.string P0) ∧ w' = w := by
  have hm : sel.tmod 4 = 0 := by rw [Int.tmod_eq_emod_of_nonneg h0.1]; exact h
  go_enter Ybaf.func12, Ybaf.ntmps12
  go_wp2
  go_ret
  exact ⟨rfl, rfl⟩
set_option maxRecDepth 100000 in
theorem name_P1 (sel : Int) (w : World) (h0 : 0 ≤ sel ∧ sel ≤ 255) (h : sel % 4 = 1) : Calls Ybaf.prog 12 #[.int .u8 sel] w fun e w' => e = .returned (.string P1) ∧ w' = w := by
  have hm : sel.tmod 4 = 1 := by rw [Int.tmod_eq_emod_of_nonneg h0.1]; exact h
  go_enter Ybaf.func12, Ybaf.ntmps12
  go_wp2
  go_ret
  exact ⟨rfl, rfl⟩
set_option maxRecDepth 100000 in
theorem name_P2 (sel : Int) (w : World) (h0 : 0 ≤ sel ∧ sel ≤ 255) (h : sel % 4 = 2) : Calls Ybaf.prog 12 #[.int .u8 sel] w fun e w' => e = .returned (.string P2) ∧ w' = w := by
  have hm : sel.tmod 4 = 2 := by rw [Int.tmod_eq_emod_of_nonneg h0.1]; exact h
  go_enter Ybaf.func12, Ybaf.ntmps12
  go_wp2
  go_ret
  exact ⟨rfl, rfl⟩
set_option maxRecDepth 100000 in
theorem name_Qq (sel : Int) (w : World) (h0 : 0 ≤ sel ∧ sel ≤ 255) (h : sel % 4 = 3) : Calls Ybaf.prog 12 #[.int .u8 sel] w fun e w' => e = .returned (.string Qq) ∧ w' = w := by
  have hm : sel.tmod 4 = 3 := by rw [Int.tmod_eq_emod_of_nonneg h0.1]; exact h
  go_enter Ybaf.func12, Ybaf.ntmps12
  go_wp2
  go_ret
  exact ⟨rfl, rfl⟩

/-- What the call leaves of old memory, and its answer. -/
def LawOk (w : World) (e : Ending) (w' : World) : Prop := e = .returned (.bool true) ∧ Below w.heap.size w w'

set_option maxRecDepth 100000 in
set_option maxHeartbeats 1000000 in
theorem law4_p0 (F : Interp) (w : World) (sel T m : Int) (hF : F.answers w.tape) (h0 : 0 ≤ sel ∧ sel ≤ 255) (h : sel % 4 = 0) (a : Addr) (hg : w.cell? ⟨0, 0, none⟩ = some (.iface 161 (.pointer (some a)))) (ca : Array Value) (ta : TypeId) (ha : w.heap[a.block]? = some (.cells ca ta (0, 0))) :
    Calls Ybaf.prog 4 #[.int .u8 sel, .int .u64 T, .int .i64 m] w (LawOk w) := by
  go_enter Ybaf.func4, Ybaf.ntmps4
  go_wp2_with fail
  refine (new_c w).mono ?_
  rintro e w1 ⟨i, rfl, k1, v1, hle⟩
  go_wp2_with fail
  refine (name_P0 sel _ h0 h).mono ?_
  rintro e w1' ⟨rfl, hw1⟩
  rw [hw1]
  clear hw1
  go_wp2_with fail
  refine (recv_refused (v1.kp0 ((Kp.refl [] w1).alloc _)) T P0 none none m ?_).mono ?_
  · intro W vW hW
    exact sender_self F (by rw [(show W.tape = w.tape from (hW.trans (k1.trans ((Kp.refl [] w1).alloc _)).tape))]; exact hF) vW T
  rintro e w3 ⟨er, rfl, k3, eb, es, rfl, hel, heh⟩
  have K3 : Kp [] w w3 := (k1.trans ((Kp.refl [] w1).alloc _)).trans k3
  have v3 := v1.kp0 (((Kp.refl [] w1).alloc _).trans k3)
  have hs1 := k1.size
  have hla := heap_lt ha
  simp at hel
  go_wp2_with fail
  refine (refused_other v3 eb es heh a (K3.cell hg (by simp)) ca ta (K3.heap ha (by simp)) (by omega)).mono ?_
  rintro e w4 ⟨rfl, k4⟩
  go_wp2
  go_ret
  exact ⟨rfl, (K3.trans k4).below⟩

set_option maxRecDepth 100000 in
set_option maxHeartbeats 1000000 in
theorem law4_q (F : Interp) (w : World) (sel T m : Int) (hF : F.answers w.tape) (h0 : 0 ≤ sel ∧ sel ≤ 255) (h : sel % 4 = 3) (a : Addr) (hg : w.cell? ⟨0, 0, none⟩ = some (.iface 161 (.pointer (some a)))) (ca : Array Value) (ta : TypeId) (ha : w.heap[a.block]? = some (.cells ca ta (0, 0))) :
    Calls Ybaf.prog 4 #[.int .u8 sel, .int .u64 T, .int .i64 m] w (LawOk w) := by
  go_enter Ybaf.func4, Ybaf.ntmps4
  go_wp2_with fail
  refine (new_c w).mono ?_
  rintro e w1 ⟨i, rfl, k1, v1, hle⟩
  go_wp2_with fail
  refine (name_Qq sel _ h0 h).mono ?_
  rintro e w1' ⟨rfl, hw1⟩
  rw [hw1]
  clear hw1
  go_wp2_with fail
  refine (recv_refused (v1.kp0 ((Kp.refl [] w1).alloc _)) T Qq none none m ?_).mono ?_
  · intro W vW hW
    exact sender_out F (by rw [(show W.tape = w.tape from (hW.trans (k1.trans ((Kp.refl [] w1).alloc _)).tape))]; exact hF) vW T
  rintro e w3 ⟨er, rfl, k3, eb, es, rfl, hel, heh⟩
  have K3 : Kp [] w w3 := (k1.trans ((Kp.refl [] w1).alloc _)).trans k3
  have v3 := v1.kp0 (((Kp.refl [] w1).alloc _).trans k3)
  have hs1 := k1.size
  have hla := heap_lt ha
  simp at hel
  go_wp2_with fail
  refine (refused_other v3 eb es heh a (K3.cell hg (by simp)) ca ta (K3.heap ha (by simp)) (by omega)).mono ?_
  rintro e w4 ⟨rfl, k4⟩
  go_wp2
  go_ret
  exact ⟨rfl, (K3.trans k4).below⟩

set_option maxRecDepth 100000 in
set_option maxHeartbeats 1000000 in
theorem law4_z1 (F : Interp) (w : World) (sel T m : Int) (hF : F.answers w.tape) (h0 : 0 ≤ sel ∧ sel ≤ 255) (h : sel % 4 = 1) (hT : Hid2 (T = 0)) (a : Addr) (hg : w.cell? ⟨0, 0, none⟩ = some (.iface 161 (.pointer (some a)))) (ca : Array Value) (ta : TypeId) (ha : w.heap[a.block]? = some (.cells ca ta (0, 0))) :
    Calls Ybaf.prog 4 #[.int .u8 sel, .int .u64 T, .int .i64 m] w (LawOk w) := by
  have hz : (T == 0) = true := by have e : T = 0 := hT; simp [e]
  go_enter Ybaf.func4, Ybaf.ntmps4
  go_wp2_with fail
  refine (new_c w).mono ?_
  rintro e w1 ⟨i, rfl, k1, v1, hle⟩
  go_wp2_with fail
  refine (name_P1 sel _ h0 h).mono ?_
  rintro e w1' ⟨rfl, hw1⟩
  rw [hw1]
  clear hw1
  go_wp2_with fail
  refine (recv_refused (v1.kp0 ((Kp.refl [] w1).alloc _)) T P1 none none m ?_).mono ?_
  · intro W vW hW
    exact sender_late F (by rw [(show W.tape = w.tape from (hW.trans (k1.trans ((Kp.refl [] w1).alloc _)).tape))]; exact hF) vW T 1 (by omega) (by omega) 0 rfl (by have e : T = 0 := hT; omega)
  rintro e w3 ⟨er, rfl, k3, eb, es, rfl, hel, heh⟩
  have K3 : Kp [] w w3 := (k1.trans ((Kp.refl [] w1).alloc _)).trans k3
  have v3 := v1.kp0 (((Kp.refl [] w1).alloc _).trans k3)
  have hs1 := k1.size
  have hla := heap_lt ha
  simp at hel
  go_wp2_with fail
  refine (refused_other v3 eb es heh a (K3.cell hg (by simp)) ca ta (K3.heap ha (by simp)) (by omega)).mono ?_
  rintro e w4 ⟨rfl, k4⟩
  go_wp2
  go_ret
  exact ⟨rfl, (K3.trans k4).below⟩

set_option maxRecDepth 100000 in
set_option maxHeartbeats 1000000 in
theorem law4_z2 (F : Interp) (w : World) (sel T m : Int) (hF : F.answers w.tape) (h0 : 0 ≤ sel ∧ sel ≤ 255) (h : sel % 4 = 2) (hT : Hid2 (T = 0)) (a : Addr) (hg : w.cell? ⟨0, 0, none⟩ = some (.iface 161 (.pointer (some a)))) (ca : Array Value) (ta : TypeId) (ha : w.heap[a.block]? = some (.cells ca ta (0, 0))) :
    Calls Ybaf.prog 4 #[.int .u8 sel, .int .u64 T, .int .i64 m] w (LawOk w) := by
  have hz : (T == 0) = true := by have e : T = 0 := hT; simp [e]
  go_enter Ybaf.func4, Ybaf.ntmps4
  go_wp2_with fail
  refine (new_c w).mono ?_
  rintro e w1 ⟨i, rfl, k1, v1, hle⟩
  go_wp2_with fail
  refine (name_P2 sel _ h0 h).mono ?_
  rintro e w1' ⟨rfl, hw1⟩
  rw [hw1]
  clear hw1
  go_wp2_with fail
  refine (recv_refused (v1.kp0 ((Kp.refl [] w1).alloc _)) T P2 none none m ?_).mono ?_
  · intro W vW hW
    exact sender_late F (by rw [(show W.tape = w.tape from (hW.trans (k1.trans ((Kp.refl [] w1).alloc _)).tape))]; exact hF) vW T 2 (by omega) (by omega) 0 rfl (by have e : T = 0 := hT; omega)
  rintro e w3 ⟨er, rfl, k3, eb, es, rfl, hel, heh⟩
  have K3 : Kp [] w w3 := (k1.trans ((Kp.refl [] w1).alloc _)).trans k3
  have v3 := v1.kp0 (((Kp.refl [] w1).alloc _).trans k3)
  have hs1 := k1.size
  have hla := heap_lt ha
  simp at hel
  go_wp2_with fail
  refine (refused_other v3 eb es heh a (K3.cell hg (by simp)) ca ta (K3.heap ha (by simp)) (by omega)).mono ?_
  rintro e w4 ⟨rfl, k4⟩
  go_wp2
  go_ret
  exact ⟨rfl, (K3.trans k4).below⟩

end Go.Proofs.YbulkbxpiFmt
