/-
  The peers' 'receive' where the clock would overflow.
-/
import Derived.Test.YbulkbxpiFmtSd
namespace Go.Proofs.YbulkbxpiFmt
open Go.RowKit Go.MuLone Go.Stop

section
variable {i : Ids} {w : World} {mu t : Int} {hd td se : List Int} {q wt : Value}

set_option maxRecDepth 100000 in
set_option maxHeartbeats 1000000 in
theorem precv_over (v : Srv i w mu t hd td se q wt) (T : Int) (nm : ByteArray) (k : Nat) (a : Addr) (hg : w.cell? ⟨0, 0, none⟩ = some (.iface 161 (.pointer (some a)))) (hC0 : i.C ≠ 0) (ht : 0 ≤ t ∧ t ≤ T ∧ T ≤ 18446744073709551615 ∧ 18446744073709551615 < T + 3) :
    Calls Ybaf.prog 29 #[.pointer (some ⟨i.D, 2, none⟩), .int .i64 (k : Int), .agg #[.int .u64 T, .string nm], .int .u64 2] w fun e w' => e = .returned (.iface 161 (.pointer (some a))) ∧ Kp [] w w' := by
  have hlD := heap_lt v.d
  have hlC := heap_lt v.c
  have c2 := cell_at (i := 2) (v := .pointer (some ⟨i.C, 0, none⟩)) v.d rfl
  have hC1 : ∀ o, Clk i.C P0 t (w.alloc o) := fun o => (Below.heap_alloc _ _ _ hlC).trans v.c
  have hC2 : ∀ o1 o2, Clk i.C P0 t ((w.alloc o1).alloc o2) := fun o1 o2 => (Below.heap_alloc _ _ _ (by simp; omega)).trans (hC1 o1)
  have hG1 : ∀ o, (w.alloc o).cell? ⟨0, 0, none⟩ = some (.iface 161 (.pointer (some a))) := fun o => (Below.cell ((Below.refl _ w).alloc (Nat.le_refl _) o) (p := ⟨0, 0, none⟩) (by show 0 < w.heap.size; omega)).trans hg
  have hG2 : ∀ o1 o2, ((w.alloc o1).alloc o2).cell? ⟨0, 0, none⟩ = some (.iface 161 (.pointer (some a))) := fun o1 o2 => (Below.cell (((Below.refl _ w).alloc (Nat.le_refl _) o1).alloc (by simp) o2) (p := ⟨0, 0, none⟩) (by show 0 < w.heap.size; omega)).trans hg
  obtain ⟨A, hA⟩ : ∃ A, A = Obj.cells #[.int .u64 T, .string nm] 34 := ⟨_, rfl⟩
  have hX1 : (w.alloc A).heap[w.heap.size]? = some (.cells #[.int .u64 T, .string nm] 34) := by rw [heap_new, hA]
  have hX2 : ∀ o, ((w.alloc A).alloc o).heap[w.heap.size]? = some (.cells #[.int .u64 T, .string nm] 34) := fun o => (Below.heap_alloc _ _ _ (by simp)).trans hX1
  have hD1 : (w.alloc A).heap[i.D]? = _ := (Below.heap_alloc _ _ _ hlD).trans v.d
  have hD2 : ∀ o, ((w.alloc A).alloc o).heap[i.D]? = _ := fun o => (Below.heap_alloc _ _ _ (by simp; omega)).trans hD1
  have hY2 : ((w.alloc A).alloc (.cells #[.int .u64 0, .string ⟨#[]⟩] 34)).heap[w.heap.size + 1]? = some (.cells #[.int .u64 0, .string ⟨#[]⟩] 34) := heap_newk _ _ _ (by simp)
  rw [hA] at hX1 hX2 hD1 hD2 hY2
  clear hA A
  have nDC : i.D ∉ ([] : List Nat) := by simp
  have nYD : w.heap.size + 1 ≠ i.D := by omega
  have nYD' : i.D ≠ w.heap.size + 1 := by omega
  have nYC : w.heap.size + 1 ∉ ([] : List Nat) := by simp
  have nBC : w.heap.size ∉ ([] : List Nat) := by simp
  go_enter Ybaf.func29, Ybaf.ntmps29
  go_wp2_with fail
  go_region_held3 (fun w' => w'.cell? ⟨i.D, 2, none⟩ = some (.pointer (some ⟨i.C, 0, none⟩)) ∧ w'.cell? ⟨w.heap.size, 0, none⟩ = some (.int .u64 T) ∧ w'.cell? ⟨w.heap.size, 1, none⟩ = some (.string nm)) (simp (maxDischargeDepth := 9) [*, World.cell?_alloc_some, World.cell?_setCell_far])
    (first | (go_at_call 41; refine (crecv_over i.C P0 t T nm _ a ?_ ?_ ht hC0).mono ?_; (first | exact hC1 _ | exact hC2 _ _); (first | exact hG1 _ | exact hG2 _ _); rintro e w' ⟨rfl, hk1⟩; have hbx : w'.heap[w.heap.size]? = some (.cells #[.int .u64 T, .string nm] 34) := hk1.heap (by first | exact hX1 | exact hX2 _) nBC; have hdx : w'.heap[i.D]? = some (.cells (i.cells mu q wt) 82) := hk1.heap (by first | exact hD1 | exact hD2 _) nDC; have q0 := cell_at (i := 0) (v := .int .u64 T) hbx rfl; have q1 := cell_at (i := 1) (v := .string nm) hbx rfl; have q2 := cell_at (i := 2) (v := .pointer (some ⟨i.C, 0, none⟩)) hdx rfl; (first | (have hyx : w'.heap[w.heap.size + 1]? = some (.cells #[.int .u64 0, .string ⟨#[]⟩] 34) := hk1.heap (by exact hY2) nYC; have y0 := cell_at (i := 0) (v := .int .u64 0) hyx rfl; have y1 := cell_at (i := 1) (v := .string ⟨#[]⟩) hyx rfl; have z0 := frozen_at (i := 0) hyx; have z1 := frozen_at (i := 1) hyx) | skip)))
  · go_wp2
    go_ret
    exact ⟨rfl, (((Kp.refl _ w).alloc _).drew.trans hk1).alloc _⟩
  · go_wp2
    go_ret
    exact ⟨rfl, ((((((Kp.refl _ w).alloc _).alloc _).drew.trans hk1).set (.inr (by show w.heap.size ≤ w.heap.size + 1; omega)) _).set (.inr (by show w.heap.size ≤ w.heap.size + 1; omega)) _)⟩
end

end Go.Proofs.YbulkbxpiFmt
