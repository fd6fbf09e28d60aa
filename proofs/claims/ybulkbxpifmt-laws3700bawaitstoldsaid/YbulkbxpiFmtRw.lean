/-
  'Receive' where the sender is let through: the clock would overflow; a proposal is sent.
-/
import Derived.Test.YbulkbxpiFmtRv
namespace Go.Proofs.YbulkbxpiFmt
open Go.RowKit Go.MuLone Go.Stop

section
variable {i : Ids} {w : World} {mu t : Int} {hd td se : List Int} {q wt : Value}

theorem Kp.cell {bs : List Nat} {x y : World} (h : Kp bs x y) {p : Addr} {u : Value} (hv : x.cell? p = some u) (hn : p.block ∉ bs) : y.cell? p = some u :=
  (World.cell?_of_block (w := x) (h.block p.block (World.block_lt_of_cell? x p hv) hn)).trans hv

theorem app_nil (W : World) (ty : TypeId) : (Builtin.append_ #[84, 84] ty #[.slice none 0 0, .slice none 0 0]).run Ybaf.prog W = .ok (.slice none 0 0) W := by
  simp [Builtin.append_, Ybaf.runUnderlying84, Ybaf.sizeOf34, Builtin.lenOf, Builtin.firstCells]

theorem look35_nil (W : World) : (Instr.lookup 35 (.map none) (.string P0) false).run Ybaf.prog W = .ok (.slice none 0 0) W :=
  run_look_nil 35 9 84 Ybaf.underlying35 Ybaf.underlying9 P0 (.slice none 0 0) (by kernel_rfl) false

set_option maxRecDepth 100000 in
set_option maxHeartbeats 1000000 in
theorem recv_over (v : Srv i w 0 t hd td se (.slice none 0 0) (.slice none 0 0)) (T : Int) (k : Nat) (hk1 : 1 ≤ k) (hk2 : k ≤ 2) (x : Int) (hx : hd[k]? = some x) (hxT : x < T) (a : Addr) (hg : w.cell? ⟨0, 0, none⟩ = some (.iface 161 (.pointer (some a)))) (h0 : ∀ b ∈ i.list, b ≠ 0) (ht : 0 ≤ t ∧ t ≤ T ∧ T ≤ 18446744073709551615 ∧ 18446744073709551615 < T + 3) (m : Int) :
    Calls Ybaf.prog 13 #[.pointer (some ⟨i.D, 0, none⟩), .agg #[.int .u64 T, .string (nmOf k), .map none, .map none], .int .i64 m] w fun e w' => e = .returned (.tuple #[.slice none 0 0, .slice none 0 0, .iface 161 (.pointer (some a))]) ∧ Kp [] w w' := by
  have hlD := heap_lt v.d
  have hl35 := look35_nil
  go_enter_defers Ybaf.func13, Ybaf.ntmps13
  go_wp2_with fail
  refine (lock_free Ybaf.muLib ⟨i.D, 0, none⟩ _ ?_ ?_).mono ?_
  · exact cell_at ((Below.heap_alloc _ _ _ hlD).trans v.d) rfl
  · exact frozen_at ((Below.heap_alloc _ _ _ hlD).trans v.d)
  rintro e w1 ⟨rfl, rfl⟩
  go_upto_region 3 with fail
  obtain ⟨w2, hw2⟩ : ∃ x, x = (w.setCell ⟨i.D, 0, none⟩ (.int .i32 1)).alloc (.cells #[.int .u64 T, .string (nmOf k), .map none, .map none] 38) := ⟨_, rfl⟩
  have v2 : Srv i w2 1 t hd td se (.slice none 0 0) (.slice none 0 0) := by rw [hw2]; exact (v.lock 1).kp0 ((Kp.refl [] _).alloc _)
  have K2 : Kp [i.D] w w2 := by rw [hw2]; exact ((Kp.refl [i.D] w).set (a := ⟨i.D, 0, none⟩) (.inl (by simp)) _).alloc _
  have hb2 : w2.heap[w.heap.size]? = some (.cells #[.int .u64 T, .string (nmOf k), .map none, .map none] 38) := by rw [hw2]; exact heap_newk _ _ _ (by simp [World.setCell])
  rw [← hw2]
  clear hw2
  have hlb2 := heap_lt hb2
  have b0 := cell_at (i := 0) (v := .int .u64 T) hb2 rfl
  have b1 := cell_at (i := 1) (v := .string (nmOf k)) hb2 rfl
  go_region_held3 (fun w' => w'.cell? ⟨w.heap.size, 0, none⟩ = some (.int .u64 T) ∧ w'.cell? ⟨w.heap.size, 1, none⟩ = some (.string (nmOf k))) (simp [*])
    (first | (go_at_call 25; refine (sender_ok (v2.kp0 ((Kp.refl [] w2).drew)) T k hk1 hk2 x hx hxT).mono ?_; rintro e w3 ⟨rfl, k3⟩; have hb3 := k3.heap hb2 (by simp); have b30 := cell_at (i := 0) (v := .int .u64 T) hb3 rfl; have b31 := cell_at (i := 1) (v := .string (nmOf k)) hb3 rfl))
  have K3 : Kp [] w2 w3 := (Kp.refl [] w2).drew.trans k3
  have v3 := v2.kp0 K3
  have b32 := cell_at (i := 2) (v := .map none) hb3 rfl
  go_wp2_with fail
  go_region_held3 (fun w' => w'.cell? ⟨w.heap.size, 2, none⟩ = some (.map none)) (simp [*])
    (first | (go_at_call 26; refine (process_c (v3.kp0 ((Kp.refl [] w3).drew))).mono ?_; rintro e w4 ⟨rfl, k4⟩; have hb4 := k4.heap hb3 (by simp); have b42 := cell_at (i := 2) (v := .map none) hb4 rfl))
  have K4 : Kp [] w2 w4 := K3.trans ((Kp.refl [] w3).drew.trans k4)
  have v4 := v2.kp0 K4
  have b40 := cell_at (i := 0) (v := .int .u64 T) hb4 rfl
  have b41 := cell_at (i := 1) (v := .string (nmOf k)) hb4 rfl
  have b43 := cell_at (i := 3) (v := .map none) hb4 rfl
  go_wp2_with fail
  refine wp_loop_rounds 1 ?_
  rw [rounds_succ]
  go_wp2_with fail
  refine (past_nil (i := i) T (nmOf k) w4).mono ?_
  rintro e w5 ⟨rfl, k5⟩
  have K5 : Kp [] w2 w5 := K4.trans k5
  have v5 := v2.kp0 K5
  have hb5 := k5.heap hb4 (by simp)
  have b50 := cell_at (i := 0) (v := .int .u64 T) hb5 rfl
  have b51 := cell_at (i := 1) (v := .string (nmOf k)) hb5 rfl
  clear b0 b1 b30 b31 b32 b42
  go_wp2_with fail
  have hgr : ∀ wr, Kp [] w5 wr → wr.cell? ⟨0, 0, none⟩ = some (.iface 161 (.pointer (some a))) := fun wr kr => (K5.trans kr).cell (K2.cell hg (by simp; exact (h0 i.D (by simp)).symm)) (by simp)
  go_region_held3 (fun w' => w'.cell? ⟨w.heap.size, 0, none⟩ = some (.int .u64 T) ∧ w'.cell? ⟨w.heap.size, 1, none⟩ = some (.string (nmOf k))) (simp [*])
    (first | (go_at_call 30; refine (room_c (v5.kp0 ((Kp.refl [] w5).drew))).mono ?_; rintro e w6 ⟨rfl, k6⟩; have hb6 := k6.heap hb5 (by simp); have K6 : Kp [] w5 w6 := (Kp.refl [] w5).drew.trans k6; have v6 := v5.kp0 K6; have b60 := cell_at (i := 0) (v := .int .u64 T) hb6 rfl; have b61 := cell_at (i := 1) (v := .string (nmOf k)) hb6 rfl) | (go_at_call 29; refine (precv_over v6 T (nmOf k) k a (hgr _ K6) (h0 i.C (by simp)) ht).mono ?_; rintro e w7 ⟨rfl, k7⟩; have hb7 := k7.heap hb6 (by simp); have b70 := cell_at (i := 0) (v := .int .u64 T) hb7 rfl; have b71 := cell_at (i := 1) (v := .string (nmOf k)) hb7 rfl))
  have K7 : Kp [] w2 w7 := (K5.trans K6).trans k7
  have v7 := v2.kp0 K7
  go_wp2
  refine leaves_cons (f := 18) (args := #[.pointer (some ⟨i.D, 0, none⟩)]) (by simp) (by simp [go_sem]) ?_
  refine (unlock_deferred Ybaf.muLib ⟨i.D, 0, none⟩ .returning _ (cell_at (v := .int .i32 1) v7.d rfl) (frozen_at v7.d)).mono ?_
  rintro e u' w'' ⟨rfl, rfl, rfl⟩
  refine ⟨.tuple #[.slice none 0 0, .slice none 0 0, .iface 161 (.pointer (some a))], by simp [results, Ybaf.results13, go_sem], rfl, ?_⟩
  have K8 : Kp [i.D] w (w7.setCell ⟨i.D, 0, none⟩ (.int .i32 0)) := (K2.trans (K7.mono (by simp))).set (a := ⟨i.D, 0, none⟩) (.inl (by simp)) _
  exact K8.shrink ((heap_set (i := 0) (.int .i32 0) v7.d).trans v.d.symm)

end

end Go.Proofs.YbulkbxpiFmt
