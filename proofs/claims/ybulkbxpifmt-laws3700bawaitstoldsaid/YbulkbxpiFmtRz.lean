/-
  'Receive' refused: by what the stamp awaits, by what it tells settled.
-/
import Derived.Test.YbulkbxpiFmtRw
import Derived.Test.YbulkbxpiFmtPo
namespace Go.Proofs.YbulkbxpiFmt
open Go.RowKit Go.MuLone Go.Stop

section
variable {i : Ids} {w : World} {mu t : Int} {hd td se : List Int} {q wt : Value}

set_option maxRecDepth 100000 in
set_option maxHeartbeats 6000000 in
theorem recv_bad1 (v : Srv i w 0 t hd td se q wt) (T : Int) (k : Nat) (hk1 : 1 ≤ k) (hk2 : k ≤ 2) (x : Int) (hx : hd[k]? = some x) (hxT : x < T) (m : Int)
    (ma ab : Nat) (sl : Option Nat) (a : Int) (na : ByteArray) (hma : w.heap[ma]? = some (one1 P0 (.slice (some ⟨ab, 0, none⟩) 1 1))) (hab : w.heap[ab]? = some (.cells #[.int .u64 a, .string na] 34)) (hn : ∀ b ∈ i.list, ma ≠ b ∧ ab ≠ b)
    (Hb : ∀ W, Srv i W 1 t hd td se q wt → W.tape = w.tape → Calls Ybaf.prog 27 #[.pointer (some ⟨i.D, 0, none⟩), .agg #[.int .u64 T, .string (nmOf k)], .string na, .int .u64 a] W fun e w' => ∃ er, e = .returned er ∧ Kp [] W w' ∧ NewErr W w' er) :
    Calls Ybaf.prog 13 #[.pointer (some ⟨i.D, 0, none⟩), .agg #[.int .u64 T, .string (nmOf k), .map (some ma), .map sl], .int .i64 m] w fun e w' => ∃ er, e = .returned (.tuple #[.slice none 0 0, .slice none 0 0, er]) ∧ Kp [] w w' ∧ NewErr w w' er := by
  have hlD := heap_lt v.d
  have hnD := hn i.D (by simp)
  go_enter_defers Ybaf.func13, Ybaf.ntmps13
  go_wp2_with fail
  refine (lock_free Ybaf.muLib ⟨i.D, 0, none⟩ _ ?_ ?_).mono ?_
  · exact cell_at ((Below.heap_alloc _ _ _ hlD).trans v.d) rfl
  · exact frozen_at ((Below.heap_alloc _ _ _ hlD).trans v.d)
  rintro e w1 ⟨rfl, rfl⟩
  go_upto_region 3 with fail
  obtain ⟨w2, hw2⟩ : ∃ x, x = (w.setCell ⟨i.D, 0, none⟩ (.int .i32 1)).alloc (.cells #[.int .u64 T, .string (nmOf k), .map (some ma), .map sl] 38) := ⟨_, rfl⟩
  have v2 : Srv i w2 1 t hd td se q wt := by rw [hw2]; exact (v.lock 1).kp0 ((Kp.refl [] _).alloc _)
  have K2 : Kp [i.D] w w2 := by rw [hw2]; exact ((Kp.refl [i.D] w).set (a := ⟨i.D, 0, none⟩) (.inl (by simp)) _).alloc _
  have hb2 : w2.heap[w.heap.size]? = some (.cells #[.int .u64 T, .string (nmOf k), .map (some ma), .map sl] 38) := by rw [hw2]; exact heap_newk _ _ _ (by simp [World.setCell])
  rw [← hw2]
  clear hw2
  have hma2 := K2.heap hma (by simp; exact hnD.1)
  have hab2 := K2.heap hab (by simp; exact hnD.2)
  have hlb2 := heap_lt hb2
  have b0 := cell_at (i := 0) (v := .int .u64 T) hb2 rfl
  have b1 := cell_at (i := 1) (v := .string (nmOf k)) hb2 rfl
  go_region_held3 (fun w' => w'.cell? ⟨w.heap.size, 0, none⟩ = some (.int .u64 T) ∧ w'.cell? ⟨w.heap.size, 1, none⟩ = some (.string (nmOf k))) (simp [*])
    (first | (go_at_call 25; refine (sender_ok (v2.kp0 ((Kp.refl [] w2).drew)) T k hk1 hk2 x hx hxT).mono ?_; rintro e w3 ⟨rfl, k3⟩; have hb3 := k3.heap hb2 (by simp); have b30 := cell_at (i := 0) (v := .int .u64 T) hb3 rfl; have b31 := cell_at (i := 1) (v := .string (nmOf k)) hb3 rfl))
  have K3 : Kp [] w2 w3 := (Kp.refl [] w2).drew.trans k3
  have v3 := v2.kp0 K3
  have b32 := cell_at (i := 2) (v := .map (some ma)) hb3 rfl
  have hma3 := K3.heap hma2 (by simp)
  go_wp2_with fail
  go_region_held3 (fun w' => w'.cell? ⟨w.heap.size, 2, none⟩ = some (.map (some ma))) (simp [*])
    (first | (go_at_call 26; refine (process_c (v3.kp0 ((Kp.refl [] w3).drew))).mono ?_; rintro e w4 ⟨rfl, k4⟩; have hb4 := k4.heap hb3 (by simp); have b42 := cell_at (i := 2) (v := .map (some ma)) hb4 rfl; have hl35 := run_look_hit 35 9 84 Ybaf.underlying35 Ybaf.underlying9 (k4.heap hma3 (by simp)) P0 0 (.slice (some ⟨ab, 0, none⟩) 1 1) rfl false; simp at hl35))
  have K4 : Kp [] w2 w4 := K3.trans ((Kp.refl [] w3).drew.trans k4)
  have v4 := v2.kp0 K4
  have hab4 := K4.heap hab2 (by simp)
  have hlab4 := heap_lt hab4
  have hlb4 := heap_lt hb4
  have a40 := cell_at (i := 0) (v := .int .u64 a) hab4 rfl
  have a41 := cell_at (i := 1) (v := .string na) hab4 rfl
  have b40 := cell_at (i := 0) (v := .int .u64 T) hb4 rfl
  have b41 := cell_at (i := 1) (v := .string (nmOf k)) hb4 rfl
  clear b0 b1 b30 b31 b32 b42
  go_wp2_with fail
  refine wp_loop_rounds 1 ?_
  rw [rounds_succ]
  go_wp2_with fail
  refine (Hb _ (v4.kp0 ((Kp.refl [] w4).alloc _)) ((K4.alloc _).tape.trans K2.tape)).mono ?_
  rintro e wN ⟨er, rfl, kN, heN⟩
  have KN : Kp [] w2 wN := (K4.alloc _).trans kN
  have vN := v2.kp0 KN
  have hsN := (K4.alloc (.cells #[.int .u64 a, .string na] 34)).size
  obtain ⟨eb, es, rfl, hel, heh⟩ := heN
  go_wp2
  refine leaves_cons (f := 18) (args := #[.pointer (some ⟨i.D, 0, none⟩)]) (by simp) (by simp [go_sem]) ?_
  refine (unlock_deferred Ybaf.muLib ⟨i.D, 0, none⟩ .returning _ (cell_at (v := .int .i32 1) vN.d rfl) (frozen_at vN.d)).mono ?_
  rintro e u' w'' ⟨rfl, rfl, rfl⟩
  refine ⟨.tuple #[.slice none 0 0, .slice none 0 0, .iface 161 (.pointer (some ⟨eb, 0, none⟩))], by simp [results, Ybaf.results13, go_sem], _, rfl, ?_, eb, es, rfl, ?_, ?_⟩
  · have K3 : Kp [i.D] w (wN.setCell ⟨i.D, 0, none⟩ (.int .i32 0)) := (K2.trans (KN.mono (by simp))).set (a := ⟨i.D, 0, none⟩) (.inl (by simp)) _
    exact K3.shrink ((heap_set (i := 0) (.int .i32 0) vN.d).trans v.d.symm)
  · exact Nat.le_trans (Nat.le_trans K2.size hsN) hel
  · exact (Below.heap_setCell _ _ _ _ (by show eb ≠ i.D; have := K2.size; omega)).trans heh

set_option maxRecDepth 100000 in
set_option maxHeartbeats 6000000 in
theorem recv_bad2 (v : Srv i w 0 t hd td se q wt) (T : Int) (k : Nat) (hk1 : 1 ≤ k) (hk2 : k ≤ 2) (x : Int) (hx : hd[k]? = some x) (hxT : x < T) (m : Int)
    (ma ab : Nat) (sl : Option Nat) (a : Int) (na : ByteArray) (hma : w.heap[ma]? = some (one1 P0 (.slice (some ⟨ab, 0, none⟩) 1 1))) (hab : w.heap[ab]? = some (.cells #[.int .u64 a, .string na] 34)) (hn : ∀ b ∈ i.list, ma ≠ b ∧ ab ≠ b)
    (Hb : ∀ W, Srv i W 1 t hd td se q wt → Calls Ybaf.prog 27 #[.pointer (some ⟨i.D, 0, none⟩), .agg #[.int .u64 T, .string (nmOf k)], .string na, .int .u64 a] W fun e w' => e = .returned .nilIface ∧ Kp [] W w')
    (Hp : ∀ W, Kp [i.D] w W → Srv i W 1 t hd td se q wt → Calls Ybaf.prog 28 #[.pointer (some ⟨i.D, 0, none⟩), .agg #[.int .u64 T, .string (nmOf k)], .agg #[.slice none 0 0, .map sl]] W fun e w' => ∃ er, e = .returned er ∧ Kp [] W w' ∧ NewErr W w' er) :
    Calls Ybaf.prog 13 #[.pointer (some ⟨i.D, 0, none⟩), .agg #[.int .u64 T, .string (nmOf k), .map (some ma), .map sl], .int .i64 m] w fun e w' => ∃ er, e = .returned (.tuple #[.slice none 0 0, .slice none 0 0, er]) ∧ Kp [] w w' ∧ NewErr w w' er := by
  have hlD := heap_lt v.d
  have hnD := hn i.D (by simp)
  go_enter_defers Ybaf.func13, Ybaf.ntmps13
  go_wp2_with fail
  refine (lock_free Ybaf.muLib ⟨i.D, 0, none⟩ _ ?_ ?_).mono ?_
  · exact cell_at ((Below.heap_alloc _ _ _ hlD).trans v.d) rfl
  · exact frozen_at ((Below.heap_alloc _ _ _ hlD).trans v.d)
  rintro e w1 ⟨rfl, rfl⟩
  go_upto_region 3 with fail
  obtain ⟨w2, hw2⟩ : ∃ x, x = (w.setCell ⟨i.D, 0, none⟩ (.int .i32 1)).alloc (.cells #[.int .u64 T, .string (nmOf k), .map (some ma), .map sl] 38) := ⟨_, rfl⟩
  have v2 : Srv i w2 1 t hd td se q wt := by rw [hw2]; exact (v.lock 1).kp0 ((Kp.refl [] _).alloc _)
  have K2 : Kp [i.D] w w2 := by rw [hw2]; exact ((Kp.refl [i.D] w).set (a := ⟨i.D, 0, none⟩) (.inl (by simp)) _).alloc _
  have hb2 : w2.heap[w.heap.size]? = some (.cells #[.int .u64 T, .string (nmOf k), .map (some ma), .map sl] 38) := by rw [hw2]; exact heap_newk _ _ _ (by simp [World.setCell])
  rw [← hw2]
  clear hw2
  have hma2 := K2.heap hma (by simp; exact hnD.1)
  have hab2 := K2.heap hab (by simp; exact hnD.2)
  have hlb2 := heap_lt hb2
  have b0 := cell_at (i := 0) (v := .int .u64 T) hb2 rfl
  have b1 := cell_at (i := 1) (v := .string (nmOf k)) hb2 rfl
  go_region_held3 (fun w' => w'.cell? ⟨w.heap.size, 0, none⟩ = some (.int .u64 T) ∧ w'.cell? ⟨w.heap.size, 1, none⟩ = some (.string (nmOf k))) (simp [*])
    (first | (go_at_call 25; refine (sender_ok (v2.kp0 ((Kp.refl [] w2).drew)) T k hk1 hk2 x hx hxT).mono ?_; rintro e w3 ⟨rfl, k3⟩; have hb3 := k3.heap hb2 (by simp); have b30 := cell_at (i := 0) (v := .int .u64 T) hb3 rfl; have b31 := cell_at (i := 1) (v := .string (nmOf k)) hb3 rfl))
  have K3 : Kp [] w2 w3 := (Kp.refl [] w2).drew.trans k3
  have v3 := v2.kp0 K3
  have b32 := cell_at (i := 2) (v := .map (some ma)) hb3 rfl
  have hma3 := K3.heap hma2 (by simp)
  go_wp2_with fail
  go_region_held3 (fun w' => w'.cell? ⟨w.heap.size, 2, none⟩ = some (.map (some ma))) (simp [*])
    (first | (go_at_call 26; refine (process_c (v3.kp0 ((Kp.refl [] w3).drew))).mono ?_; rintro e w4 ⟨rfl, k4⟩; have hb4 := k4.heap hb3 (by simp); have b42 := cell_at (i := 2) (v := .map (some ma)) hb4 rfl; have hl35 := run_look_hit 35 9 84 Ybaf.underlying35 Ybaf.underlying9 (k4.heap hma3 (by simp)) P0 0 (.slice (some ⟨ab, 0, none⟩) 1 1) rfl false; simp at hl35))
  have K4 : Kp [] w2 w4 := K3.trans ((Kp.refl [] w3).drew.trans k4)
  have v4 := v2.kp0 K4
  have hab4 := K4.heap hab2 (by simp)
  have hlab4 := heap_lt hab4
  have hlb4 := heap_lt hb4
  have a40 := cell_at (i := 0) (v := .int .u64 a) hab4 rfl
  have a41 := cell_at (i := 1) (v := .string na) hab4 rfl
  have b40 := cell_at (i := 0) (v := .int .u64 T) hb4 rfl
  have b41 := cell_at (i := 1) (v := .string (nmOf k)) hb4 rfl
  clear b0 b1 b30 b31 b32 b42
  go_wp2_with fail
  refine wp_loop_rounds 2 ?_
  rw [rounds_succ]
  go_wp2_with fail
  refine (Hb _ (v4.kp0 ((Kp.refl [] w4).alloc _))).mono ?_
  rintro e w5 ⟨rfl, k5⟩
  have K5 : Kp [] w2 w5 := (K4.alloc _).trans k5
  have v5 := v2.kp0 K5
  have hb5 := K5.heap hb2 (by simp)
  have b50 := cell_at (i := 0) (v := .int .u64 T) hb5 rfl
  have b51 := cell_at (i := 1) (v := .string (nmOf k)) hb5 rfl
  have b53 := cell_at (i := 3) (v := .map sl) hb5 rfl
  clear b40 b41 a40 a41 hl35
  go_wp2_with fail
  rw [rounds_succ]
  go_wp2_with fail
  refine (Hp _ (K2.trans (K5.mono (by simp))) v5).mono ?_
  rintro e wN ⟨er, rfl, kN, heN⟩
  have KN : Kp [] w2 wN := K5.trans kN
  have vN := v2.kp0 KN
  have hsN := K5.size
  obtain ⟨eb, es, rfl, hel, heh⟩ := heN
  go_wp2
  refine leaves_cons (f := 18) (args := #[.pointer (some ⟨i.D, 0, none⟩)]) (by simp) (by simp [go_sem]) ?_
  refine (unlock_deferred Ybaf.muLib ⟨i.D, 0, none⟩ .returning _ (cell_at (v := .int .i32 1) vN.d rfl) (frozen_at vN.d)).mono ?_
  rintro e u' w'' ⟨rfl, rfl, rfl⟩
  refine ⟨.tuple #[.slice none 0 0, .slice none 0 0, .iface 161 (.pointer (some ⟨eb, 0, none⟩))], by simp [results, Ybaf.results13, go_sem], _, rfl, ?_, eb, es, rfl, ?_, ?_⟩
  · have K3 : Kp [i.D] w (wN.setCell ⟨i.D, 0, none⟩ (.int .i32 0)) := (K2.trans (KN.mono (by simp))).set (a := ⟨i.D, 0, none⟩) (.inl (by simp)) _
    exact K3.shrink ((heap_set (i := 0) (.int .i32 0) vN.d).trans v.d.symm)
  · exact Nat.le_trans (Nat.le_trans K2.size hsN) hel
  · exact (Below.heap_setCell _ _ _ _ (by show eb ≠ i.D; have := K2.size; omega)).trans heh
end

end Go.Proofs.YbulkbxpiFmt
