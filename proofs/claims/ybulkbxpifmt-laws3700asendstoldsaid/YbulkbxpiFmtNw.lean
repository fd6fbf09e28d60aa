/-
  'NewProposalTotalOrder[int]' and 'zzs3700bnew'.
-/
import Derived.Test.YbulkbxpiFmtNp
namespace Go.Proofs.YbulkbxpiFmt
open Go.RowKit Go.MuLone

theorem Ybaf.info75 : (Ybaf.prog.info? 75).map (fun i => (i.zero, i.size, i.bytes)) = some (some (.slice none 0 0), 1, 24) := by kernel_rfl
theorem made3s : madeCells #[Value.slice none 0 0] 3 = #[.slice none 0 0, .slice none 0 0, .slice none 0 0] := by
  apply Array.ext'
  simp [madeCells, List.range, List.range.loop]

theorem heap5k (w : World) (A B C D E : Obj) : (((((w.alloc A).alloc B).alloc C).alloc D).alloc E).heap[w.heap.size + 1]? = some B ∧ (((((w.alloc A).alloc B).alloc C).alloc D).alloc E).heap[w.heap.size + 1 + 1]? = some C ∧
    (((((w.alloc A).alloc B).alloc C).alloc D).alloc E).heap[w.heap.size + 1 + 1 + 1]? = some D ∧ (((((w.alloc A).alloc B).alloc C).alloc D).alloc E).heap[w.heap.size + 1 + 1 + 1 + 1]? = some E := by
  have hn : ∀ (w : World) (o : Obj) (k : Nat), k = w.heap.size → (w.alloc o).heap[k]? = some o := fun w o k h => heap_newk w o k h.symm
  have hp : ∀ (w : World) (o : Obj) (k : Nat), k < w.heap.size → (w.alloc o).heap[k]? = w.heap[k]? := fun w o k h => Below.heap_alloc _ _ _ h
  refine ⟨?_, ?_, ?_, ?_⟩
  · rw [hp _ _ _ (by simp <;> omega), hp _ _ _ (by simp <;> omega), hp _ _ _ (by simp), hn _ _ _ (by simp)]
  · rw [hp _ _ _ (by simp <;> omega), hp _ _ _ (by simp), hn _ _ _ (by simp)]
  · rw [hp _ _ _ (by simp), hn _ _ _ (by simp)]
  · rw [hn _ _ _ (by simp)]

theorem heap5d (w : World) (A B C D E : Obj) : ((((((w.alloc A).alloc B).alloc C).alloc D).alloc E).drew).heap[w.heap.size + 1]? = some B ∧ ((((((w.alloc A).alloc B).alloc C).alloc D).alloc E).drew).heap[w.heap.size + 1 + 1]? = some C ∧
    ((((((w.alloc A).alloc B).alloc C).alloc D).alloc E).drew).heap[w.heap.size + 1 + 1 + 1]? = some D ∧ ((((((w.alloc A).alloc B).alloc C).alloc D).alloc E).drew).heap[w.heap.size + 1 + 1 + 1 + 1]? = some E := heap5k w A B C D E

set_option maxRecDepth 100000 in
set_option maxHeartbeats 1000000 in
theorem newOrder_c (w : World) (sb sc : Nat) (hs : ∀ (k : Nat) (s : ByteArray), [P0, P1, P2][k]? = some s → w.cell? ⟨sb, k, none⟩ = some (.string s)) :
    Calls Ybaf.prog 24 #[.string P0, .slice (some ⟨sb, 0, none⟩) 3 sc] w fun e w' => ∃ i : Ids, e = .returned (.tuple #[.pointer (some ⟨i.D, 0, none⟩), .nilIface]) ∧ Kp [] w w' ∧ Srv i w' 0 0 [0, 0, 0] [0, 0, 0] [0, 0, 0] (.slice none 0 0) (.slice none 0 0) ∧ ∀ b ∈ i.list, w.heap.size ≤ b := by
  have hmk := @run_makeMap Ybaf.prog
  have hm1 := fun w => run_make_row' (P := Ybaf.prog) 54 75 (.slice none 0 0) 24 Ybaf.underlying54 Ybaf.info75 rfl .i64 .i64 3 (by omega) (by omega) w
  have hm2 := fun w => run_make_row' (P := Ybaf.prog) 30 31 (.int .u64 0) 8 Ybaf.underlying30 Ybaf.info31 rfl .i64 .i64 3 (by omega) (by omega) w
  rw [made3s] at hm1
  rw [made3] at hm2
  simp at hm1 hm2
  go_enter Ybaf.func24, Ybaf.ntmps24
  go_wp2_with fail
  refine (newPeers_c w P0 [P0, P1, P2] sb sc hs (by simp) (by simp) rfl rfl).mono ?_
  rintro e w1 ⟨C, N, X, Hd, Td, kn, cn, rfl, k1, hC, hN, hN0, hX, hH, hT, hnd, hle⟩
  have fin : ∀ (W : World) (Us Se Aw : Nat), Kp [] w1 W → (w1.heap.size + 1 ≤ Us ∧ Us ≤ w1.heap.size + 3 ∧ w1.heap.size + 1 ≤ Se ∧ Se ≤ w1.heap.size + 3 ∧ Us ≠ Se) →
      W.heap[Us]? = some (.cells #[.slice none 0 0, .slice none 0 0, .slice none 0 0] 75) → W.heap[Se]? = some (.cells (rowU [0, 0, 0]) 31) →
      W.heap[w1.heap.size + 1 + 1 + 1 + 1]? = some (.cells (Ids.cells ⟨w1.heap.size + 1 + 1 + 1 + 1, C, N, X, Hd, Td, Us, Se, kn, Aw⟩ 0 (.slice none 0 0) (.slice none 0 0)) 82) →
      ∃ i : Ids, Ending.returned (.tuple #[.pointer (some ⟨w1.heap.size + 1 + 1 + 1 + 1, 0, none⟩), .nilIface]) = .returned (.tuple #[.pointer (some ⟨i.D, 0, none⟩), .nilIface]) ∧ Kp [] w W ∧ Srv i W 0 0 [0, 0, 0] [0, 0, 0] [0, 0, 0] (.slice none 0 0) (.slice none 0 0) ∧ ∀ b ∈ i.list, w.heap.size ≤ b := by
    intro W Us Se Aw kW hb hU hS hD
    have lt : ∀ b ∈ [C, N, X, Hd, Td], b < w1.heap.size := by
      intro b hb
      simp only [List.mem_cons, List.not_mem_nil, or_false] at hb
      rcases hb with rfl | rfl | rfl | rfl | rfl
      · exact heap_lt hC
      · exact heap_lt hN
      · exact heap_lt hX
      · exact heap_lt hH
      · exact heap_lt hT
    have hw1 := k1.size
    refine ⟨⟨w1.heap.size + 1 + 1 + 1 + 1, C, N, X, Hd, Td, Us, Se, kn, Aw⟩, rfl, k1.trans kW, ⟨hD, kW.heap hC (by simp), ⟨cn, kW.heap hN (by simp), hN0⟩, kW.heap hX (by simp), kW.heap hH (by simp), kW.heap hT (by simp), hS, hU, ?_⟩, ?_⟩
    · have g1 := lt C (by simp)
      have g2 := lt N (by simp)
      have g3 := lt X (by simp)
      have g4 := lt Hd (by simp)
      have g5 := lt Td (by simp)
      simp only [List.nodup_cons, List.mem_cons, List.not_mem_nil, or_false, not_or, List.nodup_nil, and_true, not_false_eq_true] at hnd ⊢
      obtain ⟨⟨a1, a2, a3, a4⟩, ⟨a5, a6, a7⟩, ⟨a8, a9⟩, a10⟩ := hnd
      obtain ⟨b1, b2, b3, b4, b5⟩ := hb
      clear hm1 hm2 hmk
      exact ⟨⟨by omega, by omega, by omega, by omega, by omega, by omega, by omega⟩, ⟨a1, a2, a3, a4, by omega, by omega⟩, ⟨a5, a6, a7, by omega, by omega⟩, ⟨a8, a9, by omega, by omega⟩, ⟨a10, by omega, by omega⟩, ⟨by omega, by omega⟩, b5⟩
    · intro b hb'
      simp only [List.mem_cons, List.not_mem_nil, or_false] at hb'
      have q1 := hle C (by simp)
      have q2 := hle N (by simp)
      have q3 := hle X (by simp)
      have q4 := hle Hd (by simp)
      have q5 := hle Td (by simp)
      rcases hb' with rfl | rfl | rfl | rfl | rfl | rfl | rfl | rfl <;> omega
  go_wp2_with fail
  go_region
  all_goals (try go_wp2)
  all_goals go_ret2
  all_goals
    refine fin _ _ _ _ ((((((Kp.refl [] w1).alloc _).alloc _).alloc _).alloc _).alloc _).drew ?_ ?_ ?_ (heap5d w1 _ _ _ _ _).2.2.2
    · exact ⟨by omega, by omega, by omega, by omega, by omega⟩
    · first | exact (heap5d w1 _ _ _ _ _).1 | exact (heap5d w1 _ _ _ _ _).2.1 | exact (heap5d w1 _ _ _ _ _).2.2.1
    · first | exact (heap5d w1 _ _ _ _ _).1 | exact (heap5d w1 _ _ _ _ _).2.1 | exact (heap5d w1 _ _ _ _ _).2.2.1

set_option maxRecDepth 100000 in
theorem new_c (w : World) : Calls Ybaf.prog 11 #[] w fun e w' => ∃ i : Ids, e = .returned (.pointer (some ⟨i.D, 0, none⟩)) ∧ Kp [] w w' ∧ Srv i w' 0 0 [0, 0, 0] [0, 0, 0] [0, 0, 0] (.slice none 0 0) (.slice none 0 0) ∧ ∀ b ∈ i.list, w.heap.size ≤ b := by
  go_enter Ybaf.func11, Ybaf.ntmps11
  go_wp2_with fail
  refine (newOrder_c _ w.heap.size 3 ?_).mono ?_
  · intro k s hk
    have hh := heap_new w (.cells #[.string P0, .string P1, .string P2] 9)
    refine cell_at hh ?_
    match k, hk with
    | 0, hk => simp at hk; simp [hk]
    | 1, hk => simp at hk; simp [hk]
    | 2, hk => simp at hk; simp [hk]
  rintro e w1 ⟨i, rfl, k1, v1, hle⟩
  go_wp2
  go_ret
  exact ⟨i, rfl, ((Kp.refl [] w).alloc _).trans k1, v1, fun b hb => by have := hle b hb; simp at this; omega⟩

end Go.Proofs.YbulkbxpiFmt
