/-
  The clock's 'receive'; the peers' 'receive'.
-/
import Derived.Test.YbulkbxpiFmtSa
namespace Go.Proofs.YbulkbxpiFmt
open Go.RowKit Go.MuLone Go.Stop

/-- A fact kept from the walk's eyes. -/
def Hid2 (p : Prop) : Prop := p

set_option maxRecDepth 100000 in
set_option maxHeartbeats 1000000 in
theorem crecv_ok (C : Nat) (nm : ByteArray) (t T : Int) (nm2 : ByteArray) (w : World) (h : Clk C nm t w) (ht : 0 ≤ t ∧ t ≤ T ∧ T + 3 ≤ 18446744073709551615) :
    Calls Ybaf.prog 41 #[.pointer (some ⟨C, 0, none⟩), .agg #[.int .u64 T, .string nm2], .int .u64 2] w fun e w' => e = .returned (.tuple #[.agg #[.int .u64 (T + 1), .string nm], .nilIface]) ∧ Kp [C] w w' ∧ Clk C nm (T + 1) w' := by
  have c0 := cell_at (i := 0) (v := .string nm) h rfl
  have c1 := cell_at (i := 1) (v := .int .i32 0) h rfl
  have c3 := cell_at (i := 3) (v := .int .u64 t) h rfl
  have f3 := frozen_at (i := 3) h
  have hlt : C < w.heap.size := (Array.getElem?_eq_some_iff.1 h).1
  have d1 : decide (T ≤ 18446744073709551615 - 1) = true := by simp; omega
  have d2 : decide (T + 1 ≤ 18446744073709551615 - 2) = true := by simp; omega
  have dm : (if t < T then T else t) = T := by split <;> omega
  have hA : ∀ (o1 o2 : Obj), ((w.alloc o1).alloc o2).heap[C]? = w.heap[C]? := fun o1 o2 => (Below.heap_alloc _ _ _ (by simp; omega)).trans (Below.heap_alloc _ _ _ hlt)
  go_enter_defers Ybaf.func41, Ybaf.ntmps41
  go_wp2_with fail
  refine (lock_free Ybaf.muLib ⟨C, 1, none⟩ _ ?_ ?_).mono ?_
  · exact cell_at ((hA _ _).trans h) rfl
  · exact frozen_at ((hA _ _).trans h)
  rintro e w' ⟨rfl, rfl⟩
  go_wp2_with fail
  go_region
  go_wp2_with (first | (go_at_call 39; refine (fits_c T 1 _ (by omega)).mono ?_; rintro e w' ⟨rfl, rfl⟩; rw [d1]) | (go_at_call 39; refine (fits_c (T + 1) 2 _ (by omega)).mono ?_; rintro e w' ⟨rfl, rfl⟩; rw [d2]))
  go_region
  go_wp2
  have h1 := heap_set (i := 3) (.int .u64 (T + 1)) (heap_set (i := 1) (.int .i32 1) h)
  have hl2 : C < (w.heap.size) + 1 := by omega
  have h2 : (((((w.setCell ⟨C, 1, none⟩ (.int .i32 1)).setCell ⟨C, 3, none⟩ (.int .u64 (T + 1))).alloc (.cells #[.int .u64 T, .string nm2] 34)).alloc (.cells #[.int .u64 (T + 1), .string nm] 34)).drewN 2).heap[C]? = _ := (Below.heap_alloc _ _ _ (by simpa [World.setCell] using hl2)).trans ((Below.heap_alloc _ _ _ (by simpa [World.setCell] using hlt)).trans h1)
  refine leaves_cons (f := 18) (args := #[.pointer (some ⟨C, 1, none⟩)]) (by simp) (by simp [go_sem]) ?_
  refine (unlock_deferred Ybaf.muLib ⟨C, 1, none⟩ .returning _ ?_ ?_).mono ?_
  · exact cell_at h2 rfl
  · exact frozen_at h2
  rintro e u' w'' ⟨rfl, rfl, rfl⟩
  refine ⟨.tuple #[.agg #[.int .u64 (T + 1), .string nm], .nilIface], by simp [results, Ybaf.results41, go_sem], rfl, ?_, ?_⟩
  · exact ((((((Kp.refl [C] w).set (.inl (by simp)) _).set (.inl (by simp)) _).alloc _).alloc _).drewN 2).set (.inl (by simp)) _
  · exact heap_set (i := 1) (.int .i32 0) h2

set_option maxRecDepth 100000 in
set_option maxHeartbeats 1000000 in
theorem crecv_over (C : Nat) (nm : ByteArray) (t T : Int) (nm2 : ByteArray) (w : World) (a : Addr) (h : Clk C nm t w) (hg : w.cell? ⟨0, 0, none⟩ = some (.iface 161 (.pointer (some a)))) (ht : 0 ≤ t ∧ t ≤ T ∧ T ≤ 18446744073709551615 ∧ 18446744073709551615 < T + 3) (_hC0 : C ≠ 0) :
    Calls Ybaf.prog 41 #[.pointer (some ⟨C, 0, none⟩), .agg #[.int .u64 T, .string nm2], .int .u64 2] w fun e w' => e = .returned (.tuple #[.agg #[.int .u64 0, .string ⟨#[]⟩], .iface 161 (.pointer (some a))]) ∧ Kp [] w w' := by
  have c0 := cell_at (i := 0) (v := .string nm) h rfl
  have c1 := cell_at (i := 1) (v := .int .i32 0) h rfl
  have c3 := cell_at (i := 3) (v := .int .u64 t) h rfl
  have f3 := frozen_at (i := 3) h
  have hlt : C < w.heap.size := (Array.getElem?_eq_some_iff.1 h).1
  have h00 : 0 < w.heap.size := by omega
  have dm : (if t < T then T else t) = T := by split <;> omega
  have hA : ∀ (o1 o2 : Obj), ((w.alloc o1).alloc o2).heap[C]? = w.heap[C]? := fun o1 o2 => (Below.heap_alloc _ _ _ (by simp; omega)).trans (Below.heap_alloc _ _ _ hlt)
  have h1 := heap_set (i := 1) (.int .i32 1) h
  have hl2 : C < (w.heap.size) + 1 := by omega
  have H2 : ∀ (o1 o2 : Obj) q, ((((w.setCell ⟨C, 1, none⟩ (.int .i32 1)).alloc o1).alloc o2).drewN q).heap[C]? = _ := fun o1 o2 q => (Below.heap_alloc _ _ _ (by simpa [World.setCell] using hl2)).trans ((Below.heap_alloc _ _ _ (by simpa [World.setCell] using hlt)).trans h1)
  have KK : ∀ (o1 o2 : Obj) q, Kp [] w ((((((w.setCell ⟨C, 1, none⟩ (.int .i32 1)).alloc o1).alloc o2).drewN q)).setCell ⟨C, 1, none⟩ (.int .i32 0)) := fun o1 o2 q =>
    (((((((Kp.refl [C] w).set (.inl (by simp)) _).alloc _).alloc _).drewN q)).set (.inl (by simp)) _).shrink ((heap_set (i := 1) (.int .i32 0) (H2 o1 o2 q)).trans h.symm)
  go_enter_defers Ybaf.func41, Ybaf.ntmps41
  go_wp2_with fail
  refine (lock_free Ybaf.muLib ⟨C, 1, none⟩ _ ?_ ?_).mono ?_
  · exact cell_at ((hA _ _).trans h) rfl
  · exact frozen_at ((hA _ _).trans h)
  rintro e w' ⟨rfl, rfl⟩
  go_wp2_with fail
  go_region
  by_cases hT : T = 18446744073709551615
  · have d1 : decide (T ≤ 18446744073709551615 - 1) = false := by simp; omega
    have HT : Hid2 (T = 18446744073709551615) := hT
    clear hT
    go_wp2_with (first | (go_at_call 39; refine (fits_c T 1 _ (by omega)).mono ?_; rintro e w' ⟨rfl, rfl⟩; rw [d1]))
    go_region
    go_wp2
    refine leaves_cons (f := 18) (args := #[.pointer (some ⟨C, 1, none⟩)]) (by simp) (by simp [go_sem]) ?_
    refine (unlock_deferred Ybaf.muLib ⟨C, 1, none⟩ .returning _ ?_ ?_).mono ?_
    · exact cell_at (H2 _ _ 2) rfl
    · exact frozen_at (H2 _ _ 2)
    rintro e u' w'' ⟨rfl, rfl, rfl⟩
    exact ⟨.tuple #[.agg #[.int .u64 0, .string ⟨#[]⟩], .iface 161 (.pointer (some a))], by simp [results, Ybaf.results41, go_sem], rfl, KK _ _ 2⟩
  · have d1 : decide (T ≤ 18446744073709551615 - 1) = true := by simp; omega
    have d2 : decide (T + 1 ≤ 18446744073709551615 - 2) = false := by simp; omega
    have hT1 : T + 1 ≤ 18446744073709551615 := by omega
    clear hT
    go_wp2_with (first | (go_at_call 39; refine (fits_c T 1 _ (by omega)).mono ?_; rintro e w' ⟨rfl, rfl⟩; rw [d1]) | (go_at_call 39; refine (fits_c (T + 1) 2 _ (by omega)).mono ?_; rintro e w' ⟨rfl, rfl⟩; rw [d2]))
    go_region
    go_wp2
    refine leaves_cons (f := 18) (args := #[.pointer (some ⟨C, 1, none⟩)]) (by simp) (by simp [go_sem]) ?_
    refine (unlock_deferred Ybaf.muLib ⟨C, 1, none⟩ .returning _ ?_ ?_).mono ?_
    · exact cell_at (H2 _ _ 2) rfl
    · exact frozen_at (H2 _ _ 2)
    rintro e u' w'' ⟨rfl, rfl, rfl⟩
    exact ⟨.tuple #[.agg #[.int .u64 0, .string ⟨#[]⟩], .iface 161 (.pointer (some a))], by simp [results, Ybaf.results41, go_sem], rfl, KK _ _ 2⟩

end Go.Proofs.YbulkbxpiFmt
