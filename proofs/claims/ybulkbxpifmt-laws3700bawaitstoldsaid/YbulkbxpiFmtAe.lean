/-
  'act', where one message waits for one that is not settled.
-/
import Derived.Test.YbulkbxpiFmtAc
import Derived.Test.YbulkbxpiFmtAg
namespace Go.Proofs.YbulkbxpiFmt
open Go.RowKit Go.MuLone Go.Stop

section
variable {i : Ids} {w : World} {mu t : Int} {hd td se : List Int} {q wt : Value}

set_option maxRecDepth 100000 in
set_option maxHeartbeats 1000000 in
theorem act_wait (g cap : Nat) (v : Srv i w mu t hd td se (.slice none 0 0) (.slice (some ⟨g, 0, none⟩) 1 cap)) (T : Int) (k : Nat) (aw ac : Nat) (m : Int) (cur : Array Value)
    (hg : w.heap[g]? = some (.cells cur 111)) (hcap : 1 ≤ cap) (hcm : cap ≤ maxLen) (hcsz : cur.size = cap * 7) (hcur : ∀ j, j < 7 → cur[j]? = (heldC T (nmOf k) 0 ⟨#[]⟩ (some ⟨aw, 0, none⟩) 1 ac m)[j]?) (hgn : ∀ a ∈ i.list, g ≠ a)
    (hac : 1 ≤ ac) (a : Int) (na : ByteArray) (cura : Array Value) (ha : w.heap[aw]? = some (.cells cura 34)) (ha0 : cura[0]? = some (.int .u64 a)) (ha1 : cura[1]? = some (.string na))
    (hS : ∀ w', Srv i w' mu t hd td se (.slice none 0 0) (.slice (some ⟨g, 0, none⟩) 1 cap) → Calls Ybaf.prog 46 #[.pointer (some ⟨i.D, 0, none⟩), .agg #[.int .u64 a, .string na]] w' fun e w'' => e = .returned (.bool false) ∧ Kp [] w' w'') :
    Calls Ybaf.prog 32 #[.pointer (some ⟨i.D, 0, none⟩)] w fun e w' => ∃ g' cap', e = .returned (.tuple #[.slice none 0 0, .slice none 0 0]) ∧ Kp [i.D, g] w w' ∧
      Srv i w' mu t hd td se (.slice none 0 0) (.slice (some ⟨g', 0, none⟩) 1 cap') := by
  obtain ⟨i0, hi0, hz0, hz1, hz2⟩ := info_parts Ybaf.info111
  have hlD := heap_lt v.d
  have hlg := heap_lt hg
  have c8 := cell_at (i := 8) (v := .slice none 0 0) v.d rfl
  have c12 := cell_at (i := 12) (v := .slice (some ⟨g, 0, none⟩) 1 cap) v.d rfl
  have g0 := cell_at (i := 0) hg (hcur 0 (by omega))
  have g1 := cell_at (i := 1) hg (hcur 1 (by omega))
  have g2 := cell_at (i := 2) hg (hcur 2 (by omega))
  have g3 := cell_at (i := 3) hg (hcur 3 (by omega))
  have g4 := cell_at (i := 4) hg (hcur 4 (by omega))
  have g5 := cell_at (i := 5) hg (hcur 5 (by omega))
  have g6 := cell_at (i := 6) hg (hcur 6 (by omega))
  simp at g0 g1 g2 g3 g4 g5 g6
  have qc : (1 : Int) ≤ (cap : Int) := by omega
  have hlA := heap_lt ha
  have A0 := cell_at (i := 0) ha ha0
  have A1 := cell_at (i := 1) ha ha1
  have qa : (1 : Int) ≤ (ac : Int) := by omega
  go_enter Ybaf.func32, Ybaf.ntmps32
  go_wp2_with fail
  refine wp_loop_rounds 1 ?_
  rw [rounds_succ]
  go_wp2_with fail
  refine wp_loop_rounds 2 ?_
  rw [rounds_succ]
  go_wp2_with fail
  refine wp_loop_rounds 1 ?_
  rw [rounds_succ]
  go_wp2_with fail
  refine (hS _ (v.kp0 ((Kp.refl [] w).alloc _))).mono ?_
  rintro e wa ⟨rfl, ka⟩
  have hha := ka.heap (heap_new w (.cells (heldC T (nmOf k) 0 ⟨#[]⟩ (some ⟨aw, 0, none⟩) 1 ac m) 111)) (by simp)
  have hlha := heap_lt hha
  have Ka := ((Kp.refl [] w).alloc (.cells (heldC T (nmOf k) 0 ⟨#[]⟩ (some ⟨aw, 0, none⟩) 1 ac m) 111)).trans ka
  have va := v.kp0 Ka
  have hga := Ka.heap hg (by simp)
  have q0 := cell_at (i := 0) (v := .int .u64 T) hha rfl
  have q1 := cell_at (i := 1) (v := .string (nmOf k)) hha rfl
  have q2 := cell_at (i := 2) (v := .int .u64 0) hha rfl
  have q3 := cell_at (i := 3) (v := .string ⟨#[]⟩) hha rfl
  have q4 := cell_at (i := 4) (v := .bool false) hha rfl
  have q5 := cell_at (i := 5) (v := .slice (some ⟨aw, 0, none⟩) 1 ac) hha rfl
  have q6 := cell_at (i := 6) (v := .int .i64 m) hha rfl
  clear A0 A1
  go_wp2_with (refine wpList_appg rfl (.tmp 79) (.tmp 81) 80 rfl 111 i0 _ 7 88 Ybaf.underlying80 hi0 hz0 hz1 hz2 rfl (by decide) (by decide) g cap cur rfl ((Below.heap_alloc _ _ _ (heap_lt hga)).trans hga) hcm hcsz wa.heap.size 1 _ 111 (0, 0) rfl (heap_new _ _) rfl (by simp [Value.oneCell']) ?_; intro g' cap' w1 happ)
  have k1 : Kp [g] wa w1 := ((Kp.refl [g] wa).alloc _).trans happ.kp
  have v1 := va.kp k1 (fun a ha => by simp; exact (hgn a ha).symm)
  have hlD1 := heap_lt v1.d
  have d12 := cell_at (i := 12) (v := .slice (some ⟨g, 0, none⟩) 1 cap) v1.d rfl
  have f12 := frozen_at (i := 12) v1.d
  have hcl := clear_zero
  obtain ⟨so, hso⟩ : ∃ so, (if cap = 1 then (some (⟨g, 0, none⟩ : Addr)) else some ⟨g, 7, none⟩) = so := ⟨_, rfl⟩
  clear q0 q1 q2 q3 q4 q5 q6 g0 g1 g2 g3 g4 g5 g6
  rw [rounds_succ]
  go_wp2_with fail
  have v2 := v1.setD (mu' := mu) (q' := .slice none 0 0) (wt' := .slice (some ⟨g', 0, none⟩) 1 cap') ((Kp.refl [i.D] w1).set (a := ⟨i.D, 12, none⟩) (.inl (by simp)) (.slice (some ⟨g', 0, none⟩) 1 cap')) (heap_set (i := 12) _ v1.d)
  have k2 : Kp [i.D] w1 (w1.setCell ⟨i.D, 12, none⟩ (.slice (some ⟨g', 0, none⟩) 1 cap')) := (Kp.refl [i.D] w1).set (a := ⟨i.D, 12, none⟩) (.inl (by simp)) _
  refine (hand_c v2 (.inl rfl)).mono ?_
  rintro e w9 ⟨rfl, rfl⟩
  go_wp2
  go_ret2
  exact ⟨g', cap', rfl, ((Ka.mono (by simp)).trans (k1.mono (by simp))).trans (k2.mono (by simp)), v2⟩
end

end Go.Proofs.YbulkbxpiFmt
