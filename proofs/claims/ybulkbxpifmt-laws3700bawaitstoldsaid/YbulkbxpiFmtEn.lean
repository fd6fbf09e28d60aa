/-
  'enqueue' into an empty queue.
-/
import Derived.Test.YbulkbxpiFmtAp
import Derived.Deep.CutRange
namespace Go.Proofs.YbulkbxpiFmt
open Go.RowKit Go.MuLone Go.Stop

theorem copy_zero (W : World) (ty : TypeId) (d : Option Addr) (dc : Nat) (b : Addr) (sl sc : Nat) : (Builtin.copy_ #[80, 80] ty #[.slice d 0 dc, .slice (some b) sl sc]).run Ybaf.prog W = .ok (.int .i64 0) W := by
  cases d <;> simp [Builtin.copy_, Ybaf.runUnderlying80, Builtin.lenOf, Builtin.firstCells, loadCells, loadCellsFrom, storeCells, Ybaf.sizeOf111, goInt]

section
variable {i : Ids} {w : World} {mu t : Int} {hd td se : List Int} {q wt : Value}

abbrev heldC (T : Int) (nm : ByteArray) (P : Int) (pn : ByteArray) (so : Option Addr) (sn sc : Nat) (m : Int) : Array Value :=
  #[.int .u64 T, .string nm, .int .u64 P, .string pn, .bool false, .slice so sn sc, .int .i64 m]

set_option maxRecDepth 100000 in
set_option maxHeartbeats 1000000 in
theorem enqueue_c (v : Srv i w mu t hd td se (.slice none 0 0) wt) (T : Int) (nm : ByteArray) (P : Int) (pn : ByteArray) (so : Option Addr) (sn sc : Nat) (m : Int) :
    Calls Ybaf.prog 48 #[.pointer (some ⟨i.D, 0, none⟩), .agg (heldC T nm P pn so sn sc m)] w fun e w' => e = .returned (.tuple #[]) ∧ Kp [i.D] w w' ∧ ∃ g cap cur, w.heap.size ≤ g ∧ w'.heap[g]? = some (.cells cur 111) ∧ (∀ j, j < 7 → cur[j]? = (heldC T nm P pn so sn sc m)[j]?) ∧ Srv i w' mu t hd td se (.slice (some ⟨g, 0, none⟩) 1 cap) wt := by
  obtain ⟨i0, hi0, hz0, hz1, hz2⟩ := info_parts Ybaf.info111
  have hlD := heap_lt v.d
  have c11 := cell_at (i := 11) (v := .slice none 0 0) v.d rfl
  have f11 := frozen_at (i := 11) v.d
  have nDb : i.D ≠ w.heap.size := by omega
  have hl1 : i.D < w.heap.size + 1 := by omega
  have hbx1 : ∀ o1 o2, (((w.alloc (.cells #[.pointer (some ⟨i.D, 0, none⟩)] 67)).alloc o1).alloc o2).heap[w.heap.size]? = some (.cells #[.pointer (some ⟨i.D, 0, none⟩)] 67) := fun o1 o2 => (Below.heap_alloc _ _ _ (by simp; omega)).trans ((Below.heap_alloc _ _ _ (by simp)).trans (heap_new w _))
  have hby1 : ∀ o2, (((w.alloc (.cells #[.pointer (some ⟨i.D, 0, none⟩)] 67)).alloc (.cells (heldC T nm P pn so sn sc m) 111)).alloc o2).heap[w.heap.size + 1]? = some (.cells (heldC T nm P pn so sn sc m) 111) := fun o2 => (Below.heap_alloc _ _ _ (by simp)).trans (heap_newk _ _ _ (by simp))
  go_enter Ybaf.func48, Ybaf.ntmps48
  go_wp2_with fail
  refine (search_0 _ _).mono ?_
  rintro e w1 ⟨rfl, rfl⟩
  go_upto_region 2 with fail
  go_cut [19] from 12 to 21 (fun v wx => ∃ cap cur w2, v = .slice (some ⟨w.heap.size + 1 + 1 + 1, 0, none⟩) 1 cap ∧ wx = w2.setCell ⟨i.D, 11, none⟩ (.slice (some ⟨w.heap.size + 1 + 1 + 1, 0, none⟩) 1 cap) ∧ Kp [] w w2 ∧ w2.heap[w.heap.size + 1 + 1 + 1]? = some (.cells cur 111) ∧ (1 ≤ cap ∧ cap ≤ maxLen ∧ cur.size = cap * 7) ∧ w2.heap[w.heap.size]? = some (.cells #[.pointer (some ⟨i.D, 0, none⟩)] 67) ∧ w2.heap[w.heap.size + 1]? = some (.cells (heldC T nm P pn so sn sc m) 111))
  case first =>
    go_region_law (refine step_app1 rfl (.tmp 16) (.tmp 18) 80 rfl 111 i0 _ 7 88 Ybaf.underlying80 hi0 hz0 hz1 hz2 rfl (by decide) (by decide) (by rfl) (w.heap.size + 1 + 1) 1 _ 111 (0, 0) (by rfl) (heap_newk _ _ _ (by simp)) rfl (by decide) ?_; intro cap cur w2 happ; have K2 : Kp [] w w2 := (by first | exact (((((Kp.refl [] w).alloc _).alloc _).alloc _).drew).trans happ.kp | exact ((((Kp.refl [] w).alloc _).alloc _).alloc _).trans happ.kp); have v2 := v.kp0 K2; have d11 := cell_at (i := 11) (v := .slice none 0 0) v2.d rfl; have g11 := frozen_at (i := 11) v2.d; have hlD2 := heap_lt v2.d; have hbx : w2.heap[w.heap.size]? = some (.cells #[.pointer (some ⟨i.D, 0, none⟩)] 67) := happ.kp.heap (by first | exact hbx1 _ _) (by simp); have hby : w2.heap[w.heap.size + 1]? = some (.cells (heldC T nm P pn so sn sc m) 111) := happ.kp.heap (by first | exact hby1 _) (by simp); have bx0 := cell_at (i := 0) (v := .pointer (some ⟨i.D, 0, none⟩)) hbx rfl)
    all_goals (go_wp2; go_meet; case rel => exact ⟨cap, cur, w2, rfl, rfl, K2, by simpa using happ.heap, ⟨happ.one, happ.max, happ.len⟩, hbx, hby⟩)
  case rest =>
    obtain ⟨cap, cur, w2, rfl, rfl, K2, hg2, ⟨hc1, hcm, hlen⟩, hbx, hby⟩ := hcut
    have v2 := v.kp0 K2
    have hD3 := heap_set (i := 11) (.slice (some ⟨w.heap.size + 1 + 1 + 1, 0, none⟩) 1 cap) v2.d
    have v3 := v2.setD (mu' := mu) (q' := .slice (some ⟨w.heap.size + 1 + 1 + 1, 0, none⟩) 1 cap) (wt' := wt) ((Kp.refl [i.D] w2).set (.inl (by simp)) _) hD3
    have hg3 : (w2.setCell ⟨i.D, 11, none⟩ (.slice (some ⟨w.heap.size + 1 + 1 + 1, 0, none⟩) 1 cap)).heap[w.heap.size + 1 + 1 + 1]? = some (.cells cur 111) := (Below.heap_setCell _ _ _ _ (by show w.heap.size + 1 + 1 + 1 ≠ i.D; omega)).trans hg2
    have hbx3 : (w2.setCell ⟨i.D, 11, none⟩ (.slice (some ⟨w.heap.size + 1 + 1 + 1, 0, none⟩) 1 cap)).heap[w.heap.size]? = _ := (Below.heap_setCell _ _ _ _ (Ne.symm nDb)).trans hbx
    have hby3 : (w2.setCell ⟨i.D, 11, none⟩ (.slice (some ⟨w.heap.size + 1 + 1 + 1, 0, none⟩) 1 cap)).heap[w.heap.size + 1]? = _ := (Below.heap_setCell _ _ _ _ (by show w.heap.size + 1 ≠ i.D; omega)).trans hby
    have K3 : Kp [i.D] w (w2.setCell ⟨i.D, 11, none⟩ (.slice (some ⟨w.heap.size + 1 + 1 + 1, 0, none⟩) 1 cap)) := (K2.mono (by simp)).set (.inl (by simp)) _
    generalize w2.setCell ⟨i.D, 11, none⟩ (.slice (some ⟨w.heap.size + 1 + 1 + 1, 0, none⟩) 1 cap) = w3 at hD3 v3 hg3 hbx3 hby3 K3 ⊢
    have e11 := cell_at (i := 11) (v := .slice (some ⟨w.heap.size + 1 + 1 + 1, 0, none⟩) 1 cap) v3.d rfl
    have bx3 := cell_at (i := 0) (v := .pointer (some ⟨i.D, 0, none⟩)) hbx3 rfl
    have q0 : (1 : Int) ≤ (cap : Int) := by omega
    clear hD3 v2 hg2
    have hcp := copy_zero
    obtain ⟨ad, had⟩ : ∃ ad, (if cap = 1 then some (⟨w.heap.size + 1 + 1 + 1, 0, none⟩ : Addr) else some ⟨w.heap.size + 1 + 1 + 1, 7, none⟩) = ad := ⟨_, rfl⟩
    have gG : ∀ j, j < 7 → ∃ u, w3.cell? ⟨w.heap.size + 1 + 1 + 1, j, none⟩ = some u := fun j hj => ⟨cur[j]'(by rw [hlen]; omega), cell_at hg3 (by simp)⟩
    obtain ⟨x0, gx0⟩ := gG 0 (by omega)
    have gf0 := frozen_at (i := 0) hg3
    have by0 := cell_at (i := 0) (v := (.int .u64 T)) hby3 rfl
    obtain ⟨x1, gx1⟩ := gG 1 (by omega)
    have gf1 := frozen_at (i := 1) hg3
    have by1 := cell_at (i := 1) (v := (.string nm)) hby3 rfl
    obtain ⟨x2, gx2⟩ := gG 2 (by omega)
    have gf2 := frozen_at (i := 2) hg3
    have by2 := cell_at (i := 2) (v := (.int .u64 P)) hby3 rfl
    obtain ⟨x3, gx3⟩ := gG 3 (by omega)
    have gf3 := frozen_at (i := 3) hg3
    have by3 := cell_at (i := 3) (v := (.string pn)) hby3 rfl
    obtain ⟨x4, gx4⟩ := gG 4 (by omega)
    have gf4 := frozen_at (i := 4) hg3
    have by4 := cell_at (i := 4) (v := (.bool false)) hby3 rfl
    obtain ⟨x5, gx5⟩ := gG 5 (by omega)
    have gf5 := frozen_at (i := 5) hg3
    have by5 := cell_at (i := 5) (v := (.slice so sn sc)) hby3 rfl
    obtain ⟨x6, gx6⟩ := gG 6 (by omega)
    have gf6 := frozen_at (i := 6) hg3
    have by6 := cell_at (i := 6) (v := (.int .i64 m)) hby3 rfl
    clear gG
    go_wp2_with fail
    go_region
    go_wp2_with fail
    go_region
    go_wp2
    have hGe : w.heap.size ≤ w.heap.size + 1 + 1 + 1 := by omega
    have KA0 := Kp.set (a := ⟨w.heap.size + 1 + 1 + 1, 0, none⟩) K3 (.inr hGe) (.int .u64 T)
    have KB0 := Kp.set (a := ⟨w.heap.size + 1 + 1 + 1, 0, none⟩) (Kp.refl [w.heap.size + 1 + 1 + 1] w3) (.inl (by simp)) (.int .u64 T)
    have hH0 := heap_set (i := 0) (.int .u64 T) hg3
    have KA1 := Kp.set (a := ⟨w.heap.size + 1 + 1 + 1, 1, none⟩) KA0 (.inr hGe) (.string nm)
    have KB1 := Kp.set (a := ⟨w.heap.size + 1 + 1 + 1, 1, none⟩) KB0 (.inl (by simp)) (.string nm)
    have hH1 := heap_set (i := 1) (.string nm) hH0
    have KA2 := Kp.set (a := ⟨w.heap.size + 1 + 1 + 1, 2, none⟩) KA1 (.inr hGe) (.int .u64 P)
    have KB2 := Kp.set (a := ⟨w.heap.size + 1 + 1 + 1, 2, none⟩) KB1 (.inl (by simp)) (.int .u64 P)
    have hH2 := heap_set (i := 2) (.int .u64 P) hH1
    have KA3 := Kp.set (a := ⟨w.heap.size + 1 + 1 + 1, 3, none⟩) KA2 (.inr hGe) (.string pn)
    have KB3 := Kp.set (a := ⟨w.heap.size + 1 + 1 + 1, 3, none⟩) KB2 (.inl (by simp)) (.string pn)
    have hH3 := heap_set (i := 3) (.string pn) hH2
    have KA4 := Kp.set (a := ⟨w.heap.size + 1 + 1 + 1, 4, none⟩) KA3 (.inr hGe) (.bool false)
    have KB4 := Kp.set (a := ⟨w.heap.size + 1 + 1 + 1, 4, none⟩) KB3 (.inl (by simp)) (.bool false)
    have hH4 := heap_set (i := 4) (.bool false) hH3
    have KA5 := Kp.set (a := ⟨w.heap.size + 1 + 1 + 1, 5, none⟩) KA4 (.inr hGe) (.slice so sn sc)
    have KB5 := Kp.set (a := ⟨w.heap.size + 1 + 1 + 1, 5, none⟩) KB4 (.inl (by simp)) (.slice so sn sc)
    have hH5 := heap_set (i := 5) (.slice so sn sc) hH4
    have KA6 := Kp.set (a := ⟨w.heap.size + 1 + 1 + 1, 6, none⟩) KA5 (.inr hGe) (.int .i64 m)
    have KB6 := Kp.set (a := ⟨w.heap.size + 1 + 1 + 1, 6, none⟩) KB5 (.inl (by simp)) (.int .i64 m)
    have hH6 := heap_set (i := 6) (.int .i64 m) hH5
    have v4 := v3.kp KB6 (by intro a ha; have := v.lt a ha; simp; omega)
    have hcur : ∀ j, j < 7 → (((((((cur.setIfInBounds 0 (.int .u64 T)).setIfInBounds 1 (.string nm)).setIfInBounds 2 (.int .u64 P)).setIfInBounds 3 (.string pn)).setIfInBounds 4 (.bool false)).setIfInBounds 5 (.slice so sn sc)).setIfInBounds 6 (.int .i64 m))[j]? = (heldC T nm P pn so sn sc m)[j]? := by
      intro j hj
      have hsz : 7 ≤ cur.size := by rw [hlen]; omega
      have s0 : 0 < cur.size := by omega
      have s1 : 1 < cur.size := by omega
      have s2 : 2 < cur.size := by omega
      have s3 : 3 < cur.size := by omega
      have s4 : 4 < cur.size := by omega
      have s5 : 5 < cur.size := by omega
      have s6 : 6 < cur.size := by omega
      rcases (by omega : j = 0 ∨ j = 1 ∨ j = 2 ∨ j = 3 ∨ j = 4 ∨ j = 5 ∨ j = 6) with rfl | rfl | rfl | rfl | rfl | rfl | rfl <;> simp [s0, s1, s2, s3, s4, s5, s6]
    clear gx0 gf0 by0 gx1 gf1 by1 gx2 gf2 by2 gx3 gf3 by3 gx4 gf4 by4 gx5 gf5 by5 gx6 gf6 by6 KA0 KB0 hH0 KA1 KB1 hH1 KA2 KB2 hH2 KA3 KB3 hH3 KA4 KB4 hH4 KA5 KB5 hH5 KB6 v3 hg3
    generalize (((((((w3.setCell ⟨w.heap.size + 1 + 1 + 1, 0, none⟩ (.int .u64 T)).setCell ⟨w.heap.size + 1 + 1 + 1, 1, none⟩ (.string nm)).setCell ⟨w.heap.size + 1 + 1 + 1, 2, none⟩ (.int .u64 P)).setCell ⟨w.heap.size + 1 + 1 + 1, 3, none⟩ (.string pn)).setCell ⟨w.heap.size + 1 + 1 + 1, 4, none⟩ (.bool false)).setCell ⟨w.heap.size + 1 + 1 + 1, 5, none⟩ (.slice so sn sc)).setCell ⟨w.heap.size + 1 + 1 + 1, 6, none⟩ (.int .i64 m)) = w4 at KA6 hH6 v4 ⊢
    go_end0
    exact ⟨rfl, KA6.drewN 2, _, cap, _, hGe, hH6, hcur, v4.kp0 ((Kp.refl [] w4).drewN 2)⟩
end

end Go.Proofs.YbulkbxpiFmt
