/-
  The Lamport clock's methods.
-/
import Derived.Test.YbulkbxpiFmtSt
namespace Go.Proofs.YbulkbxpiFmt
open Go.RowKit Go.MuLone

set_option maxRecDepth 100000 in
theorem local_c (C : Nat) (nm : ByteArray) (t : Int) (w : World) (h : Clk C nm t w) (ht : 0 ≤ t ∧ t < 18446744073709551615) :
    Calls Ybaf.prog 62 #[.pointer (some ⟨C, 0, none⟩)] w fun e w' => e = .returned (.tuple #[.agg #[.int .u64 (t + 1), .string nm], .nilIface]) ∧ Kp [C] w w' ∧ Clk C nm (t + 1) w' := by
  have c0 := cell_at (i := 0) (v := .string nm) h rfl
  have c1 := cell_at (i := 1) (v := .int .i32 0) h rfl
  have c3 := cell_at (i := 3) (v := .int .u64 t) h rfl
  have f3 := frozen_at (i := 3) h
  have hlt : C < w.heap.size := (Array.getElem?_eq_some_iff.1 h).1
  have d1 : decide (t ≤ 18446744073709551615 - 1) = true := by simp; omega
  go_enter_defers Ybaf.func62, Ybaf.ntmps62
  go_wp2_with fail
  refine (lock_free Ybaf.muLib ⟨C, 1, none⟩ _ ?_ ?_).mono ?_
  · exact cell_at ((Below.heap_alloc _ _ _ hlt).trans h) rfl
  · exact frozen_at ((Below.heap_alloc _ _ _ hlt).trans h)
  rintro e w' ⟨rfl, rfl⟩
  go_wp2_with (go_at_call 39; refine (fits_c t 1 _ (by omega)).mono ?_; rintro e w' ⟨rfl, rfl⟩; rw [d1])
  go_region
  go_wp2
  have h1 := heap_set (i := 3) (.int .u64 (t + 1)) (heap_set (i := 1) (.int .i32 1) h)
  have h2 : ((((w.setCell ⟨C, 1, none⟩ (.int .i32 1)).setCell ⟨C, 3, none⟩ (.int .u64 (t + 1))).alloc (.cells #[.int .u64 (t + 1), .string nm] 34)).drew).heap[C]? = _ := (Below.heap_alloc _ _ _ (by simpa [World.setCell] using hlt)).trans h1
  refine leaves_cons (f := 18) (args := #[.pointer (some ⟨C, 1, none⟩)]) (by simp) (by simp [go_sem]) ?_
  refine (unlock_deferred Ybaf.muLib ⟨C, 1, none⟩ .returning _ ?_ ?_).mono ?_
  · exact cell_at h2 rfl
  · exact frozen_at h2
  rintro e u' w'' ⟨rfl, rfl, rfl⟩
  refine ⟨.tuple #[.agg #[.int .u64 (t + 1), .string nm], .nilIface], by simp [results, Ybaf.results62, go_sem], rfl, ?_, ?_⟩
  · exact (((((Kp.refl [C] w).set (.inl (by simp)) _).set (.inl (by simp)) _).alloc _).drew).set (.inl (by simp)) _
  · exact heap_set (i := 1) (.int .i32 0) h2

set_option maxRecDepth 100000 in
theorem tick_c (C : Nat) (nm : ByteArray) (t : Int) (w : World) (h : Clk C nm t w) (ht : 0 ≤ t ∧ t < 18446744073709551615) :
    Calls Ybaf.prog 40 #[.pointer (some ⟨C, 0, none⟩)] w fun e w' => e = .returned (.agg #[.int .u64 (t + 1), .string nm]) ∧ Kp [C] w w' ∧ Clk C nm (t + 1) w' := by
  have hlt : C < w.heap.size := (Array.getElem?_eq_some_iff.1 h).1
  go_enter Ybaf.func40, Ybaf.ntmps40
  go_wp2_with fail
  refine (local_c C nm t _ ((Below.heap_alloc _ _ _ hlt).trans h) ht).mono ?_
  rintro e w' ⟨rfl, hk, hc⟩
  have hb := hk.block w.heap.size (by simp) (by simp; omega)
  rw [heap_new] at hb
  have r0 := cell_at (i := 0) (v := .int .u64 0) hb rfl
  have r1 := cell_at (i := 1) (v := .string ⟨#[]⟩) hb rfl
  have fr0 := frozen_at (i := 0) hb
  have fr1 := frozen_at (i := 1) hb
  have hlw := hk.size
  simp at hlw
  have hl1 : w.heap.size < w'.heap.size := by omega
  go_wp2
  have hR : (((w'.setCell ⟨w.heap.size, 0, none⟩ (.int .u64 (t + 1))).setCell ⟨w.heap.size, 1, none⟩ (.string nm)).alloc (.cells #[.int .u64 (t + 1), .string nm] 34)).heap[w.heap.size]? = some (.cells #[.int .u64 (t + 1), .string nm] 34) :=
    (Below.heap_alloc _ _ _ (by simpa [World.setCell] using hl1)).trans (heap_set (i := 1) _ (heap_set (i := 0) _ hb))
  have k0 := cell_at (i := 0) (v := .int .u64 (t + 1)) hR rfl
  have k1 := cell_at (i := 1) (v := .string nm) hR rfl
  refine bodyPost_ret (v := .agg #[.int .u64 (t + 1), .string nm]) (by simp [results, Ybaf.results40, go_sem, k0, k1]) rfl ⟨rfl, ?_, ?_⟩
  · have K0 : Kp [C] w w' := ((Kp.refl [C] w).alloc _).trans hk
    exact ((K0.set (.inr (Nat.le_refl _)) _).set (.inr (Nat.le_refl _)) _).alloc _
  · have hne : w.heap.size ∉ [C] := by simp; omega
    exact (hc.kp (bs := [w.heap.size]) ((((Kp.refl _ w').set (.inl (by simp)) _).set (.inl (by simp)) _).alloc _) (by simp; omega))

end Go.Proofs.YbulkbxpiFmt
