/-
  The peers' 'receive'.
-/
import Derived.Test.YbulkbxpiFmtRc
namespace Go.Proofs.YbulkbxpiFmt
open Go.RowKit Go.MuLone Go.Stop

section
variable {i : Ids} {w : World} {mu t : Int} {hd td se : List Int} {q wt : Value}

set_option maxRecDepth 100000 in
set_option maxHeartbeats 1000000 in
theorem precv_ok (v : Srv i w mu t hd td se q wt) (T : Int) (nm : ByteArray) (k : Nat) (hk : k < 3) (x : Int) (hx : hd[k]? = some x) (ht : 0 ≤ t ∧ t ≤ T ∧ T + 3 ≤ 18446744073709551615) :
    Calls Ybaf.prog 29 #[.pointer (some ⟨i.D, 2, none⟩), .int .i64 (k : Int), .agg #[.int .u64 T, .string nm], .int .u64 2] w fun e w' => e = .returned .nilIface ∧ Kp [i.C, i.Hd] w w' ∧ Srv i w' mu (T + 1) (hd.set k T) td se q wt := by
  have hlD := heap_lt v.d
  have hlC := heap_lt v.c
  have hlH := heap_lt v.h
  have c2 := cell_at (i := 2) (v := .pointer (some ⟨i.C, 0, none⟩)) v.d rfl
  have dk0 : (0 : Int) ≤ (k : Int) := by omega
  have dk3 : (k : Int) < 3 := by omega
  have hC1 : ∀ o, Clk i.C P0 t (w.alloc o) := fun o => (Below.heap_alloc _ _ _ hlC).trans v.c
  have hC2 : ∀ o1 o2, Clk i.C P0 t ((w.alloc o1).alloc o2) := fun o1 o2 => (Below.heap_alloc _ _ _ (by simp; omega)).trans (hC1 o1)
  obtain ⟨A, hA⟩ : ∃ A, A = Obj.cells #[.int .u64 T, .string nm] 34 := ⟨_, rfl⟩
  have hX1 : (w.alloc A).heap[w.heap.size]? = some (.cells #[.int .u64 T, .string nm] 34) := by rw [heap_new, hA]
  have hX2 : ∀ o, ((w.alloc A).alloc o).heap[w.heap.size]? = some (.cells #[.int .u64 T, .string nm] 34) := fun o => (Below.heap_alloc _ _ _ (by simp)).trans hX1
  have hD1 : (w.alloc A).heap[i.D]? = _ := (Below.heap_alloc _ _ _ hlD).trans v.d
  have hD2 : ∀ o, ((w.alloc A).alloc o).heap[i.D]? = _ := fun o => (Below.heap_alloc _ _ _ (by simp; omega)).trans hD1
  have hY2 : ((w.alloc A).alloc (.cells #[.int .u64 0, .string ⟨#[]⟩] 34)).heap[w.heap.size + 1]? = some (.cells #[.int .u64 0, .string ⟨#[]⟩] 34) := heap_newk _ _ _ (by simp)
  rw [hA] at hX1 hX2 hD1 hD2 hY2
  clear hA A
  have nDC : i.D ∉ [i.C] := nodup_ne v.nd 0 1 rfl rfl (by decide)
  have nYD : w.heap.size + 1 ≠ i.D := by omega
  have nYD' : i.D ≠ w.heap.size + 1 := by omega
  have nYC' : i.C ≠ w.heap.size + 1 := by omega
  have nYH : i.Hd ≠ w.heap.size + 1 := by omega
  have nHC : i.Hd ∉ [i.C] := nodup_ne v.nd 4 1 rfl rfl (by decide)
  have hH1 : ∀ o, (w.alloc o).heap[i.Hd]? = _ := fun o => (Below.heap_alloc _ _ _ hlH).trans v.h
  have hH2 : ∀ o1 o2, ((w.alloc o1).alloc o2).heap[i.Hd]? = _ := fun o1 o2 => (Below.heap_alloc _ _ _ (by simp; omega)).trans (hH1 o1)
  have fin : ∀ {W5 : World} {q1 : Nat}, Kp [i.C] w W5 → Clk i.C P0 (T + 1) W5 → W5.heap[i.Hd]? = some (.cells (rowU hd) 31) → Kp [i.C, i.Hd] w ((W5.setCell ⟨i.Hd, k, none⟩ (.int .u64 T)).drewN q1) ∧ Srv i ((W5.setCell ⟨i.Hd, k, none⟩ (.int .u64 T)).drewN q1) mu (T + 1) (hd.set k T) td se q wt := by
    intro W5 q1 K5 c5 h5
    refine ⟨((K5.mono (by simp)).set (.inl (by simp)) _).drewN q1, ?_⟩
    refine (v.setC K5 c5).setH (((Kp.refl [i.Hd] W5).set (.inl (by simp)) _).drewN q1) ?_
    refine (heap_set (i := k) (.int .u64 T) h5).trans ?_
    rw [rowU, rowU]
    simp [List.map_set]
  have nYC : w.heap.size + 1 ∉ [i.C] := by simp; omega
  have nBC : w.heap.size ∉ [i.C] := by simp; omega
  go_enter Ybaf.func29, Ybaf.ntmps29
  go_wp2_with fail
  go_region_held3 (fun w' => w'.cell? ⟨i.D, 2, none⟩ = some (.pointer (some ⟨i.C, 0, none⟩)) ∧ w'.cell? ⟨w.heap.size, 0, none⟩ = some (.int .u64 T) ∧ w'.cell? ⟨w.heap.size, 1, none⟩ = some (.string nm)) (simp (maxDischargeDepth := 9) [*, World.cell?_alloc_some, World.cell?_setCell_far])
    (first | (go_at_call 41; refine (crecv_ok i.C P0 t T nm _ ?_ ht).mono ?_; (first | exact hC1 _ | exact hC2 _ _); rintro e w' ⟨rfl, hk1, hc1⟩; have hbx : w'.heap[w.heap.size]? = some (.cells #[.int .u64 T, .string nm] 34) := hk1.heap (by first | exact hX1 | exact hX2 _) nBC; have hdx : w'.heap[i.D]? = some (.cells (i.cells mu q wt) 82) := hk1.heap (by first | exact hD1 | exact hD2 _) nDC; have hhx : w'.heap[i.Hd]? = some (.cells (rowU hd) 31) := hk1.heap (by first | exact hH1 _ | exact hH2 _ _) nHC; have q0 := cell_at (i := 0) (v := .int .u64 T) hbx rfl; have q1 := cell_at (i := 1) (v := .string nm) hbx rfl; have q2 := cell_at (i := 2) (v := .pointer (some ⟨i.C, 0, none⟩)) hdx rfl; have q6 := cell_at (i := 6) (v := .slice (some ⟨i.Hd, 0, none⟩) 3 3) hdx rfl; (first | (have hyx : w'.heap[w.heap.size + 1]? = some (.cells #[.int .u64 0, .string ⟨#[]⟩] 34) := hk1.heap (by exact hY2) nYC; have y0 := cell_at (i := 0) (v := .int .u64 0) hyx rfl; have y1 := cell_at (i := 1) (v := .string ⟨#[]⟩) hyx rfl; have z0 := frozen_at (i := 0) hyx; have z1 := frozen_at (i := 1) hyx) | skip)))
  · have K5 : Kp [i.C] w (w'.alloc (.cells #[.int .u64 (T + 1), .string P0] 34)) := (((Kp.refl _ w).alloc _).drew.trans hk1).alloc _
    have b5 : (w'.alloc (.cells #[.int .u64 (T + 1), .string P0] 34)).heap[w.heap.size]? = some (.cells #[.int .u64 T, .string nm] 34) := (Below.heap_alloc _ _ _ (heap_lt hbx)).trans hbx
    have d5 : (w'.alloc (.cells #[.int .u64 (T + 1), .string P0] 34)).heap[i.D]? = some (.cells (i.cells mu q wt) 82) := (Below.heap_alloc _ _ _ (heap_lt hdx)).trans hdx
    have h5 : (w'.alloc (.cells #[.int .u64 (T + 1), .string P0] 34)).heap[i.Hd]? = some (.cells (rowU hd) 31) := (Below.heap_alloc _ _ _ (heap_lt hhx)).trans hhx
    have c5 : Clk i.C P0 (T + 1) (w'.alloc (.cells #[.int .u64 (T + 1), .string P0] 34)) := (Below.heap_alloc _ _ _ (heap_lt hc1)).trans hc1
    obtain ⟨W5, hW5⟩ : ∃ x, x = w'.alloc (.cells #[.int .u64 (T + 1), .string P0] 34) := ⟨_, rfl⟩
    rw [← hW5] at K5 b5 d5 h5 c5 ⊢
    have q0 := cell_at (i := 0) (v := .int .u64 T) b5 rfl
    have q6 := cell_at (i := 6) (v := .slice (some ⟨i.Hd, 0, none⟩) 3 3) d5 rfl
    have qk := rowU_get h5 hx
    have qf := frozen_at (i := k) h5
    clear hW5
    go_wp2_with fail
    go_region
    go_wp2
    go_ret
    exact ⟨rfl, fin K5 c5 h5⟩
  · have K5 : Kp [i.C] w ((w'.setCell ⟨w.heap.size + 1, 0, none⟩ (.int .u64 (T + 1))).setCell ⟨w.heap.size + 1, 1, none⟩ (.string P0)) := ((((((Kp.refl _ w).alloc _).alloc _).drew.trans hk1).set (.inr (by show w.heap.size ≤ w.heap.size + 1; omega)) _).set (.inr (by show w.heap.size ≤ w.heap.size + 1; omega)) _)
    have b5 : ((w'.setCell ⟨w.heap.size + 1, 0, none⟩ (.int .u64 (T + 1))).setCell ⟨w.heap.size + 1, 1, none⟩ (.string P0)).heap[w.heap.size]? = some (.cells #[.int .u64 T, .string nm] 34) := (Below.heap_setCell _ _ _ _ (by simp)).trans ((Below.heap_setCell _ _ _ _ (by simp)).trans hbx)
    have d5 : ((w'.setCell ⟨w.heap.size + 1, 0, none⟩ (.int .u64 (T + 1))).setCell ⟨w.heap.size + 1, 1, none⟩ (.string P0)).heap[i.D]? = some (.cells (i.cells mu q wt) 82) := (Below.heap_setCell _ _ _ _ nYD').trans ((Below.heap_setCell _ _ _ _ nYD').trans hdx)
    have h5 : ((w'.setCell ⟨w.heap.size + 1, 0, none⟩ (.int .u64 (T + 1))).setCell ⟨w.heap.size + 1, 1, none⟩ (.string P0)).heap[i.Hd]? = some (.cells (rowU hd) 31) := (Below.heap_setCell _ _ _ _ nYH).trans ((Below.heap_setCell _ _ _ _ nYH).trans hhx)
    have c5 : Clk i.C P0 (T + 1) ((w'.setCell ⟨w.heap.size + 1, 0, none⟩ (.int .u64 (T + 1))).setCell ⟨w.heap.size + 1, 1, none⟩ (.string P0)) := (Below.heap_setCell _ _ _ _ nYC').trans ((Below.heap_setCell _ _ _ _ nYC').trans hc1)
    obtain ⟨W5, hW5⟩ : ∃ x, x = (w'.setCell ⟨w.heap.size + 1, 0, none⟩ (.int .u64 (T + 1))).setCell ⟨w.heap.size + 1, 1, none⟩ (.string P0) := ⟨_, rfl⟩
    rw [← hW5] at K5 b5 d5 h5 c5 ⊢
    have q0 := cell_at (i := 0) (v := .int .u64 T) b5 rfl
    have q6 := cell_at (i := 6) (v := .slice (some ⟨i.Hd, 0, none⟩) 3 3) d5 rfl
    have qk := rowU_get h5 hx
    have qf := frozen_at (i := k) h5
    clear hW5
    go_wp2_with fail
    go_region
    go_wp2
    go_ret
    exact ⟨rfl, fin K5 c5 h5⟩
end

end Go.Proofs.YbulkbxpiFmt
