/-
  'act', where one message waits for nothing.
-/
import Derived.Test.YbulkbxpiFmtEn
import Derived.Test.YbulkbxpiFmtRo
import Derived.Test.YbulkbxpiFmtCl
namespace Go.Proofs.YbulkbxpiFmt
open Go.RowKit Go.MuLone Go.Stop

theorem Kp.trans2 {ds bs cs : List Nat} {x y z : World} (h : Kp ds x y) (k : Kp bs y z) (ha : ∀ b ∈ ds, b ∈ cs) (hb : ∀ b ∈ bs, b ∈ cs ∨ x.heap.size ≤ b) : Kp cs x z :=
  ⟨k.os.trans h.os, k.tape.trans h.tape, k.output.trans h.output, Nat.le_trans h.size k.size, fun i hi hn => (k.block i (Nat.lt_of_lt_of_le hi h.size) (fun e => by rcases hb i e with m | m; exact hn m; omega)).trans (h.block i hi (fun e => hn (ha i e)))⟩

section
variable {i : Ids} {w : World} {mu t : Int} {hd td se : List Int} {q wt : Value}

set_option maxRecDepth 100000 in
set_option maxHeartbeats 1000000 in
theorem act_prop (g cap : Nat) (v : Srv i w mu t hd td se (.slice none 0 0) (.slice (some ⟨g, 0, none⟩) 1 cap)) (ht : 0 ≤ t ∧ t < 18446744073709551615) (T : Int) (k : Nat) (hk1 : 1 ≤ k) (hk2 : k ≤ 2) (so : Option Addr) (sc : Nat) (m : Int) (cur : Array Value)
    (hg : w.heap[g]? = some (.cells cur 111)) (hcap : 1 ≤ cap) (hcsz : 7 ≤ cur.size) (hcur : ∀ j, j < 7 → cur[j]? = (heldC T (nmOf k) 0 ⟨#[]⟩ so 0 sc m)[j]?) (hgn : ∀ a ∈ i.list, g ≠ a) (x : Int) (hx : td[k]? = some x) :
    Calls Ybaf.prog 32 #[.pointer (some ⟨i.D, 0, none⟩)] w fun e w' => ∃ go cap' curo gt mm gq cq curq, e = .returned (.tuple #[.slice (some ⟨go, 0, none⟩) 1 cap', .slice none 0 0]) ∧ Kp [i.D, i.C, i.Td, g] w w' ∧
      Srv i w' mu (t + 1) hd (td.set k (t + 1)) se (.slice (some ⟨gq, 0, none⟩) 1 cq) (.slice (some ⟨g, 0, none⟩) 0 cap) ∧ w'.heap[go]? = some (.cells curo 79) ∧
      (∀ j, j < 10 → curo[j]? = (#[.string ⟨#[112, 114, 111, 112, 111, 115, 97, 108]⟩, .int .u64 (t + 1), .string P0, .slice (some ⟨gt, 0, none⟩) 1 1, .int .u64 T, .string (nmOf k), .int .u64 (t + 1), .string P0, .slice none 0 0, .map (some mm)] : Array Value)[j]?) ∧
      w'.heap[gt]? = some (.cells #[.string (nmOf k)] 9) ∧ w'.heap[mm]? = some (.map #[{ key := .string P0, val := .int .u64 t, born := 0 }] 1) ∧ w'.heap[gq]? = some (.cells curq 111) ∧ w.heap.size ≤ go ∧ w.heap.size ≤ gt ∧ w.heap.size ≤ mm := by
  obtain ⟨i79, hi79, hz790, hz791, hz792⟩ := info_parts Ybaf.info79
  have hlD := heap_lt v.d
  have hlg := heap_lt hg
  have c8 := cell_at (i := 8) (v := .slice none 0 0) v.d rfl
  have c12 := cell_at (i := 12) (v := .slice (some ⟨g, 0, none⟩) 1 cap) v.d rfl
  have g0 := cell_at (i := 0) hg (hcur 0 (by omega))
  have g1 := cell_at (i := 1) hg (hcur 1 (by omega))
  have g2 := cell_at (i := 2) hg (hcur 2 (by omega))
  have g3 := cell_at (i := 3) hg (hcur 3 (by omega))
  have g4 := cell_at (i := 4) hg (hcur 4 (by omega))
  have g5 := cell_at (i := 5) hg (hcur 5 (by omega))
  have g6 := cell_at (i := 6) hg (hcur 6 (by omega))
  simp at g0 g1 g2 g3 g4 g5 g6
  have qc : (1 : Int) ≤ (cap : Int) := by omega
  go_enter Ybaf.func32, Ybaf.ntmps32
  go_wp2_with fail
  refine wp_loop_rounds 1 ?_
  rw [rounds_succ]
  go_wp2_with fail
  refine wp_loop_rounds 2 ?_
  rw [rounds_succ]
  go_wp2_with fail
  refine wp_loop_rounds 1 ?_
  rw [rounds_succ]
  go_wp2_with fail
  refine (past_c (v.kp0 ((Kp.refl [] w).alloc (.cells (heldC T (nmOf k) 0 ⟨#[]⟩ so 0 sc m) 111)))).mono ?_
  rintro e w1 ⟨mm, rfl, k1, hm1, hm2⟩
  have K1 := ((Kp.refl [] w).alloc (.cells (heldC T (nmOf k) 0 ⟨#[]⟩ so 0 sc m) 111)).trans k1
  have v1 := v.kp0 K1
  have hh1 := k1.heap (heap_new w (.cells (heldC T (nmOf k) 0 ⟨#[]⟩ so 0 sc m) 111)) (by simp)
  have hs1 := k1.size
  simp at hs1 hm1
  obtain ⟨w2, hw2⟩ : ∃ x, x = w1.alloc (.cells #[.slice none 0 0, .map (some mm)] 77) := ⟨_, rfl⟩
  have k2 : Kp [] w1 w2 := by rw [hw2]; exact (Kp.refl [] w1).alloc _
  have v2 := v1.kp0 k2
  have hh2 := k2.heap hh1 (by simp)
  have hm22 := k2.heap hm2 (by simp)
  have hp2 : w2.heap[w1.heap.size]? = some (.cells #[.slice none 0 0, .map (some mm)] 77) := by rw [hw2]; exact heap_new w1 _
  have hsz2 : Hid2 (w2.heap.size = w1.heap.size + 1) := by rw [hw2]; show _ = _; simp
  have hg2 := k2.heap (K1.heap hg (by simp)) (by simp)
  go_upto_region 13 with fail
  rw [← hw2]
  clear hw2
  go_cut [98] from 85 to 99 (fun u wx => u = .agg #[.int .u64 (t + 1), .string P0] ∧ wx.heap[w.heap.size]? = some (.cells (heldC T (nmOf k) (t + 1) P0 so 0 sc m) 111) ∧ Srv i wx mu (t + 1) hd (td.set k (t + 1)) se (.slice none 0 0) (.slice (some ⟨g, 0, none⟩) 1 cap) ∧ Kp [i.C, i.Td, w.heap.size] w2 wx)
  case first =>
    have hlk := look_in1 (w := w2.drew) v2.x k (by omega)
    have hlD2 := heap_lt v2.d
    have hlh2 := heap_lt hh2
    have d5 := cell_at (i := 5) (v := .map (some i.X)) v2.d rfl
    have q0 := cell_at (i := 0) (v := .int .u64 T) hh2 rfl
    have q1 := cell_at (i := 1) (v := .string (nmOf k)) hh2 rfl
    have hhW : ∀ o, (w2.alloc o).heap[w.heap.size]? = some (.cells (heldC T (nmOf k) 0 ⟨#[]⟩ so 0 sc m) 111) := fun o => (Below.heap_alloc _ _ _ hlh2).trans hh2
    have nh : w.heap.size ∉ [i.C, i.Td] := by
      have h1 := v.lt i.C (by simp)
      have h2 := v.lt i.Td (by simp)
      simp; omega
    have hbn : ∀ a ∈ i.list, w2.heap.size ≠ a := fun a ha => by have := v2.lt a ha; omega
    go_region_with (go_at_call 21; refine (send_c (v2.kp0 (((Kp.refl [] w2).alloc (.cells #[.int .i64 (k : Int)] 3)).drew)) ht k (by omega) x hx w2.heap.size 1 (heap_new w2 _) hbn).mono ?_; rintro e w3 ⟨rfl, k3, v3⟩; have hh3 : w3.heap[w.heap.size]? = some (.cells (heldC T (nmOf k) 0 ⟨#[]⟩ so 0 sc m) 111) := k3.heap (hhW _) nh; have r2 := cell_at (i := 2) (v := .int .u64 0) hh3 rfl; have r3 := cell_at (i := 3) (v := .string ⟨#[]⟩) hh3 rfl; have fr2 := frozen_at (i := 2) hh3; have fr3 := frozen_at (i := 3) hh3)
    all_goals
      have hh4 : ((w3.setCell ⟨w.heap.size, 2, none⟩ (.int .u64 (t + 1))).setCell ⟨w.heap.size, 3, none⟩ (.string P0)).heap[w.heap.size]? = some (.cells (heldC T (nmOf k) (t + 1) P0 so 0 sc m) 111) := heap_set (i := 3) _ (heap_set (i := 2) _ hh3)
      have k4 : Kp [w.heap.size] w3 ((w3.setCell ⟨w.heap.size, 2, none⟩ (.int .u64 (t + 1))).setCell ⟨w.heap.size, 3, none⟩ (.string P0)) := ((Kp.refl _ w3).set (a := ⟨w.heap.size, 2, none⟩) (.inl (by simp)) _).set (a := ⟨w.heap.size, 3, none⟩) (.inl (by simp)) _
      generalize (w3.setCell ⟨w.heap.size, 2, none⟩ (.int .u64 (t + 1))).setCell ⟨w.heap.size, 3, none⟩ (.string P0) = w4 at hh4 k4 ⊢
      have v4 := v3.kp k4 (fun a ha => by have := v.lt a ha; simp; omega)
      have K24 : Kp [i.C, i.Td, w.heap.size] w2 w4 := ((((Kp.refl _ w2).alloc (.cells #[.int .i64 (k : Int)] 3)).drew).trans (k3.mono (by simp))).trans (k4.mono (by simp))
      go_wp2
      go_meet
      case rel => exact ⟨rfl, hh4, v4, K24⟩
  case rest =>
    obtain ⟨rfl, hh4, v4, K24⟩ := hcut
    obtain ⟨w4, hw4⟩ : ∃ x, x = wc := ⟨_, rfl⟩
    subst hw4
    have e1 := hsz2
    have ln : ∀ b, w1.heap.size ≤ b ∨ b = mm → b ∉ [i.C, i.Td, w.heap.size] := fun b hb => by
      have h1 := v.lt i.C (by simp)
      have h2 := v.lt i.Td (by simp)
      simp; omega
    have hp4 := K24.heap hp2 (ln _ (.inl (Nat.le_refl _)))
    have hm4 := K24.heap hm22 (ln _ (.inr rfl))
    have hg4 := K24.heap hg2 (by have h1 := hgn i.C (by simp); have h2 := hgn i.Td (by simp); simp; omega)
    have hlh4 := heap_lt hh4
    have hlp4 := heap_lt hp4
    have q40 := cell_at (i := 0) (v := .int .u64 T) hh4 rfl
    have q41 := cell_at (i := 1) (v := .string (nmOf k)) hh4 rfl
    have q42 := cell_at (i := 2) (v := .int .u64 (t + 1)) hh4 rfl
    have q43 := cell_at (i := 3) (v := .string P0) hh4 rfl
    have q44 := cell_at (i := 4) (v := .bool false) hh4 rfl
    have q45 := cell_at (i := 5) (v := .slice so 0 sc) hh4 rfl
    have q46 := cell_at (i := 6) (v := .int .i64 m) hh4 rfl
    have p40 := cell_at (i := 0) (v := .slice none 0 0) hp4 rfl
    have p41 := cell_at (i := 1) (v := .map (some mm)) hp4 rfl
    go_wp2_with (refine wpList_app1 rfl (.tmp 100) (.tmp 113) 70 rfl 79 i79 _ 10 144 Ybaf.underlying70 hi79 hz790 hz791 hz792 rfl (by decide) (by decide) rfl (w4.heap.size + 1) 1 _ 79 (0, 0) rfl (heap_newk _ _ _ (by simp)) rfl (by simp [Value.oneCell']) ?_; intro cp5 cur5 w5 happ; have K5 := (((Kp.refl [] w4).alloc _).alloc _).trans happ.kp; have hh5 := K5.heap hh4 (by simp); have v5 := v4.kp0 K5; have z0 := cell_at (i := 0) (v := .int .u64 T) hh5 rfl; have z1 := cell_at (i := 1) (v := .string (nmOf k)) hh5 rfl; have z2 := cell_at (i := 2) (v := .int .u64 (t + 1)) hh5 rfl; have z3 := cell_at (i := 3) (v := .string P0) hh5 rfl; have z4 := cell_at (i := 4) (v := .bool false) hh5 rfl; have z5 := cell_at (i := 5) (v := .slice so 0 sc) hh5 rfl; have z6 := cell_at (i := 6) (v := .int .i64 m) hh5 rfl)
    refine (enqueue_c v5 T (nmOf k) (t + 1) P0 so 0 sc m).mono ?_
    rintro e w6 ⟨rfl, k6, gq, cq, curq, hgq, hq6, hcq, v6⟩
    have hg6 := k6.heap (K5.heap hg4 (by simp)) (by simp; exact hgn i.D (by simp))
    obtain ⟨w7, hcl, k7⟩ := clear_held w6 g cap cur hg6 hcsz
    have v7 := v6.kp k7 (fun a ha => by simp; exact (hgn a ha).symm)
    have d12 := cell_at (i := 12) (v := .slice (some ⟨g, 0, none⟩) 1 cap) v6.d rfl
    have e12 := cell_at (i := 12) (v := .slice (some ⟨g, 0, none⟩) 1 cap) v7.d rfl
    have f12 := frozen_at (i := 12) v7.d
    clear q40 q41 q42 q43 q44 q45 q46 p40 p41 z0 z1 z2 z3 z4 z5 z6
    go_wp2_with fail
    rw [rounds_succ]
    go_wp2_with fail
    have v8 := v7.setD (mu' := mu) (q' := .slice (some ⟨gq, 0, none⟩) 1 cq) (wt' := .slice (some ⟨g, 0, none⟩) 0 cap) ((Kp.refl [i.D] w7).set (a := ⟨i.D, 12, none⟩) (.inl (by simp)) (.slice (some ⟨g, 0, none⟩) 0 cap)) (heap_set (i := 12) _ v7.d)
    have k8 : Kp [i.D] w7 (w7.setCell ⟨i.D, 12, none⟩ (.slice (some ⟨g, 0, none⟩) 0 cap)) := (Kp.refl [i.D] w7).set (a := ⟨i.D, 12, none⟩) (.inl (by simp)) _
    have hs5 := K5.size
    have hs4 := K24.size
    have hs2 := k2.size
    have K68 : Kp [i.D, g] w6 (w7.setCell ⟨i.D, 12, none⟩ (.slice (some ⟨g, 0, none⟩) 0 cap)) := (k7.mono (by simp)).trans (k8.mono (by simp))
    have K58 : Kp [i.D, g] w5 (w7.setCell ⟨i.D, 12, none⟩ (.slice (some ⟨g, 0, none⟩) 0 cap)) := (k6.mono (by simp)).trans K68
    have nn : ∀ b, w.heap.size ≤ b → b ∉ [i.D, g] := fun b hb => by simp; omega
    have hq8 := K68.heap hq6 (nn gq (by omega))
    have ho5 : w5.heap[w4.heap.size + 1 + 1]? = some (.cells cur5 79) := by simpa using happ.heap
    have ho8 := K58.heap ho5 (nn _ (by omega))
    have ht8 := K58.heap (happ.kp.heap ((Below.heap_alloc _ _ _ (by simp)).trans (heap_new w4 (.cells #[.string (nmOf k)] 9))) (by simp)) (nn _ (by omega))
    have hm8 := K58.heap (K5.heap hm4 (by simp)) (nn _ (by omega))
    have KK : Kp [i.D, i.C, i.Td, g] w (w7.setCell ⟨i.D, 12, none⟩ (.slice (some ⟨g, 0, none⟩) 0 cap)) := by
      have h1 : Kp [i.C, i.Td] w w4 := (K1.trans k2).trans2 K24 (by simp) (by simp)
      have h2 : Kp [i.C, i.Td] w w5 := h1.trans (K5.mono (by simp))
      exact (h2.mono (by simp)).trans (K58.mono (by simp))
    refine (hand_c v8 (.inr ⟨gq, cq, curq, 111, rfl, hq8, by simpa using hcq 4 (by omega)⟩)).mono ?_
    rintro e w9 ⟨rfl, rfl⟩
    go_wp2
    go_ret2
    exact ⟨_, cp5, cur5, _, mm, gq, cq, curq, rfl, KK, v8, ho8, happ.cells, ht8, hm8, hq8, by omega, by omega, by omega⟩
end

end Go.Proofs.YbulkbxpiFmt
