/-
  'LawS3700BFirstReceipt', walked: a proposal is sent.
-/
import Derived.Test.YbulkbxpiFmtLa
import Derived.Test.YbulkbxpiFmtRx
namespace Go.Proofs.YbulkbxpiFmt
open Go.RowKit Go.MuLone Go.Stop

theorem Srv.kpOut {i : Ids} {w w' : World} {mu t : Int} {hd td se : List Int} {q wt : Value} (_v : Srv i w mu t hd td se q wt) {n : Nat} (hle : ∀ b ∈ i.list, n ≤ b) {bs : List Nat} (k : Kp bs w w') (hb : ∀ b ∈ bs, b ∈ i.list ∨ w.heap.size ≤ b) (hn : n ≤ w.heap.size) : Below n w w' :=
  ⟨k.os, k.tape, k.output, k.size, fun j hj => k.block j (by omega) (fun e => by rcases hb j e with m | m; have := hle j m; omega; omega)⟩

set_option maxRecDepth 100000 in
set_option maxHeartbeats 4000000 in
theorem law4_ok1 (F : Interp) (w : World) (sel T m : Int) (hF : F.answers w.tape) (h0 : 0 ≤ sel ∧ sel ≤ 255) (h : sel % 4 = 1) (hT : 0 < T ∧ T ≤ 18446744073709551612) (a : Addr) (hg : w.cell? ⟨0, 0, none⟩ = some (.iface 161 (.pointer (some a)))) (ca : Array Value) (ta : TypeId) (ha : w.heap[a.block]? = some (.cells ca ta (0, 0))) :
    Calls Ybaf.prog 4 #[.int .u8 sel, .int .u64 T, .int .i64 m] w (LawOk w) := by
  have hz : (T == 0) = false := by simp; omega
  have hd : decide (18446744073709551612 < T) = false := by simp; omega
  have hlg : 0 < w.heap.size := World.block_lt_of_cell? w _ hg
  have hla := heap_lt ha
  have hfd := field34
  go_enter Ybaf.func4, Ybaf.ntmps4
  go_wp2_with fail
  refine (new_c w).mono ?_
  rintro e w1 ⟨i, rfl, k1, v1, hle⟩
  have hs1 := k1.size
  go_wp2_with fail
  refine (name_P1 sel _ h0 h).mono ?_
  rintro e w1' ⟨rfl, hw1⟩
  rw [hw1]
  clear hw1
  go_wp2_with fail
  refine (recv_ok (v1.kp0 ((Kp.refl [] w1).alloc _)) T 1 (by omega) (by omega) 0 rfl (by omega) 0 rfl (by omega) m).mono ?_
  rintro e w3 ⟨go, cap', curo, gt, mm, q', wt', rfl, ⟨bs, k3, hbs⟩, v3, ⟨g1, c1, rfl⟩, ⟨g2, c2, rfl⟩, ho, hoc, ht3, hm3, lo, lt, lm⟩
  have hb2 : (w1.alloc (.cells #[.int .u64 T, .string P1, .map none, .map none] 38)).heap[w1.heap.size]? = some (.cells #[.int .u64 T, .string P1, .map none, .map none] 38) := heap_new w1 _
  have nb : w1.heap.size ∉ bs := fun hx => by
    rcases hbs _ hx with m | m
    · have := v1.lt _ m; omega
    · rw [World.size_alloc] at m; omega
  have hb3 := k3.heap hb2 nb
  have o0 := cell_at (i := 0) ho (hoc 0 (by omega))
  have o1 := cell_at (i := 1) ho (hoc 1 (by omega))
  have o2 := cell_at (i := 2) ho (hoc 2 (by omega))
  have o3 := cell_at (i := 3) ho (hoc 3 (by omega))
  have o4 := cell_at (i := 4) ho (hoc 4 (by omega))
  have o5 := cell_at (i := 5) ho (hoc 5 (by omega))
  have o6 := cell_at (i := 6) ho (hoc 6 (by omega))
  have o7 := cell_at (i := 7) ho (hoc 7 (by omega))
  have o8 := cell_at (i := 8) ho (hoc 8 (by omega))
  have o9 := cell_at (i := 9) ho (hoc 9 (by omega))
  simp [nmOf] at o0 o1 o2 o3 o4 o5 o6 o7 o8 o9
  have t0 := cell_at (i := 0) (v := .string P1) ht3 rfl
  have b0 := cell_at (i := 0) (v := .int .u64 T) hb3 rfl
  have b1 := cell_at (i := 1) (v := .string P1) hb3 rfl
  have b2 := cell_at (i := 2) (v := .map none) hb3 rfl
  have b3 := cell_at (i := 3) (v := .map none) hb3 rfl
  have hlo := heap_lt ho
  have hlt := heap_lt ht3
  have hlm := heap_lt hm3
  have hlb := heap_lt hb3
  have hlD := heap_lt v3.d
  have hmW : ∀ o1 o2, ((w3.alloc o1).alloc o2).heap[mm]? = some (.map #[{ key := .string P0, val := .int .u64 (T + 1), born := 0 }] 1) := fun o1 o2 => (Below.heap_alloc _ _ _ (by simp; omega)).trans ((Below.heap_alloc _ _ _ hlm).trans hm3)
  have hlen : ∀ o1 o2 ty, (Builtin.len_ #[36] ty #[.map (some mm)]).run Ybaf.prog ((w3.alloc o1).alloc o2) = .ok (.int .i64 1) ((w3.alloc o1).alloc o2) := fun o1 o2 ty => by
    rw [run_len_map _ 36 ty mm _ _ Ybaf.underlying36 (hmW o1 o2)]; rfl
  have hlk : ∀ o1 o2, (Instr.lookup 36 (.map (some mm)) (.string P0) true).run Ybaf.prog ((w3.alloc o1).alloc o2) = .ok (.tuple #[.int .u64 (T + 1), .bool true]) ((w3.alloc o1).alloc o2) := fun o1 o2 => run_look_hit 36 9 31 Ybaf.underlying36 Ybaf.underlying9 (hmW o1 o2) P0 0 (.int .u64 (T + 1)) rfl true
  have d2 := cell_at (i := 2) (v := .pointer (some ⟨i.C, 0, none⟩)) v3.d rfl
  have hlD1 : i.D < w3.heap.size + 1 := by omega
  go_wp2_with fail
  have v4 := v3.kp0 (((Kp.refl [] w3).alloc (.cells #[.string ⟨#[112, 114, 111, 112, 111, 115, 97, 108]⟩, .int .u64 (T + 2), .string P0, .slice (some ⟨gt, 0, none⟩) 1 1, .int .u64 T, .string P1, .int .u64 (T + 2), .string P0, .slice none 0 0, .map (some mm)] 79)).alloc (.cells #[.int .u64 (T + 2), .string P0] 34))
  refine (now_c i.C P0 (T + 2) _ v4.c).mono ?_
  rintro e w5 ⟨rfl, k5⟩
  have K5 : Kp [] w3 w5 := (((Kp.refl [] w3).alloc _).alloc _).trans k5
  have v5 := v3.kp0 K5
  have hb5 := K5.heap hb3 (by simp)
  have f11 := cell_at (i := 11) (v := .slice (some ⟨g1, 0, none⟩) 1 c1) v5.d rfl
  have f12 := cell_at (i := 12) (v := .slice (some ⟨g2, 0, none⟩) 0 c2) v5.d rfl
  have e0 := cell_at (i := 0) (v := .int .u64 T) hb5 rfl
  have e1 := cell_at (i := 1) (v := .string P1) hb5 rfl
  have e2 := cell_at (i := 2) (v := .map none) hb5 rfl
  have e3 := cell_at (i := 3) (v := .map none) hb5 rfl
  have hle1 : ∀ b ∈ i.list, w.heap.size ≤ b := hle
  have B3 : Below w.heap.size w w3 := ((k1.trans ((Kp.refl [] w1).alloc _)).below).trans ((v1.kp0 ((Kp.refl [] w1).alloc _)).kpOut hle1 k3 hbs (by rw [World.size_alloc]; omega))
  have B5 : Below w.heap.size w w5 := B3.trans (K5.below.mono B3.size)
  clear o0 o1 o2 o3 o4 o5 o6 o7 o8 o9 t0 b0 b1 b2 b3 hlen hlk d2
  go_wp2_with fail
  refine (recv_refused v5 T P1 none none m ?_).mono ?_
  · intro W vW hW
    exact sender_late F (by rw [hW, B5.tape]; exact hF) vW T 1 (by omega) (by omega) T rfl (by omega)
  rintro e w6 ⟨er, rfl, k6, eb, es, rfl, hel, heh⟩
  have v6 := v5.kp0 k6
  have B6 : Below w.heap.size w w6 := B5.trans (k6.below.mono B5.size)
  have hs5 := B5.size
  go_wp2_with fail
  refine (refused_other v6 eb es heh a ((B6.cell (p := ⟨0, 0, none⟩) hlg).trans hg) ca ta ((B6.block _ hla).trans ha) (by omega)).mono ?_
  rintro e w7 ⟨rfl, k7⟩
  go_wp2
  go_ret
  exact ⟨rfl, B6.trans (k7.below.mono B6.size)⟩

set_option maxRecDepth 100000 in
set_option maxHeartbeats 4000000 in
theorem law4_ok2 (F : Interp) (w : World) (sel T m : Int) (hF : F.answers w.tape) (h0 : 0 ≤ sel ∧ sel ≤ 255) (h : sel % 4 = 2) (hT : 0 < T ∧ T ≤ 18446744073709551612) (a : Addr) (hg : w.cell? ⟨0, 0, none⟩ = some (.iface 161 (.pointer (some a)))) (ca : Array Value) (ta : TypeId) (ha : w.heap[a.block]? = some (.cells ca ta (0, 0))) :
    Calls Ybaf.prog 4 #[.int .u8 sel, .int .u64 T, .int .i64 m] w (LawOk w) := by
  have hz : (T == 0) = false := by simp; omega
  have hd : decide (18446744073709551612 < T) = false := by simp; omega
  have hlg : 0 < w.heap.size := World.block_lt_of_cell? w _ hg
  have hla := heap_lt ha
  have hfd := field34
  go_enter Ybaf.func4, Ybaf.ntmps4
  go_wp2_with fail
  refine (new_c w).mono ?_
  rintro e w1 ⟨i, rfl, k1, v1, hle⟩
  have hs1 := k1.size
  go_wp2_with fail
  refine (name_P2 sel _ h0 h).mono ?_
  rintro e w1' ⟨rfl, hw1⟩
  rw [hw1]
  clear hw1
  go_wp2_with fail
  refine (recv_ok (v1.kp0 ((Kp.refl [] w1).alloc _)) T 2 (by omega) (by omega) 0 rfl (by omega) 0 rfl (by omega) m).mono ?_
  rintro e w3 ⟨go, cap', curo, gt, mm, q', wt', rfl, ⟨bs, k3, hbs⟩, v3, ⟨g1, c1, rfl⟩, ⟨g2, c2, rfl⟩, ho, hoc, ht3, hm3, lo, lt, lm⟩
  have hb2 : (w1.alloc (.cells #[.int .u64 T, .string P2, .map none, .map none] 38)).heap[w1.heap.size]? = some (.cells #[.int .u64 T, .string P2, .map none, .map none] 38) := heap_new w1 _
  have nb : w1.heap.size ∉ bs := fun hx => by
    rcases hbs _ hx with m | m
    · have := v1.lt _ m; omega
    · rw [World.size_alloc] at m; omega
  have hb3 := k3.heap hb2 nb
  have o0 := cell_at (i := 0) ho (hoc 0 (by omega))
  have o1 := cell_at (i := 1) ho (hoc 1 (by omega))
  have o2 := cell_at (i := 2) ho (hoc 2 (by omega))
  have o3 := cell_at (i := 3) ho (hoc 3 (by omega))
  have o4 := cell_at (i := 4) ho (hoc 4 (by omega))
  have o5 := cell_at (i := 5) ho (hoc 5 (by omega))
  have o6 := cell_at (i := 6) ho (hoc 6 (by omega))
  have o7 := cell_at (i := 7) ho (hoc 7 (by omega))
  have o8 := cell_at (i := 8) ho (hoc 8 (by omega))
  have o9 := cell_at (i := 9) ho (hoc 9 (by omega))
  simp [nmOf] at o0 o1 o2 o3 o4 o5 o6 o7 o8 o9
  have t0 := cell_at (i := 0) (v := .string P2) ht3 rfl
  have b0 := cell_at (i := 0) (v := .int .u64 T) hb3 rfl
  have b1 := cell_at (i := 1) (v := .string P2) hb3 rfl
  have b2 := cell_at (i := 2) (v := .map none) hb3 rfl
  have b3 := cell_at (i := 3) (v := .map none) hb3 rfl
  have hlo := heap_lt ho
  have hlt := heap_lt ht3
  have hlm := heap_lt hm3
  have hlb := heap_lt hb3
  have hlD := heap_lt v3.d
  have hmW : ∀ o1 o2, ((w3.alloc o1).alloc o2).heap[mm]? = some (.map #[{ key := .string P0, val := .int .u64 (T + 1), born := 0 }] 1) := fun o1 o2 => (Below.heap_alloc _ _ _ (by simp; omega)).trans ((Below.heap_alloc _ _ _ hlm).trans hm3)
  have hlen : ∀ o1 o2 ty, (Builtin.len_ #[36] ty #[.map (some mm)]).run Ybaf.prog ((w3.alloc o1).alloc o2) = .ok (.int .i64 1) ((w3.alloc o1).alloc o2) := fun o1 o2 ty => by
    rw [run_len_map _ 36 ty mm _ _ Ybaf.underlying36 (hmW o1 o2)]; rfl
  have hlk : ∀ o1 o2, (Instr.lookup 36 (.map (some mm)) (.string P0) true).run Ybaf.prog ((w3.alloc o1).alloc o2) = .ok (.tuple #[.int .u64 (T + 1), .bool true]) ((w3.alloc o1).alloc o2) := fun o1 o2 => run_look_hit 36 9 31 Ybaf.underlying36 Ybaf.underlying9 (hmW o1 o2) P0 0 (.int .u64 (T + 1)) rfl true
  have d2 := cell_at (i := 2) (v := .pointer (some ⟨i.C, 0, none⟩)) v3.d rfl
  have hlD1 : i.D < w3.heap.size + 1 := by omega
  go_wp2_with fail
  have v4 := v3.kp0 (((Kp.refl [] w3).alloc (.cells #[.string ⟨#[112, 114, 111, 112, 111, 115, 97, 108]⟩, .int .u64 (T + 2), .string P0, .slice (some ⟨gt, 0, none⟩) 1 1, .int .u64 T, .string P2, .int .u64 (T + 2), .string P0, .slice none 0 0, .map (some mm)] 79)).alloc (.cells #[.int .u64 (T + 2), .string P0] 34))
  refine (now_c i.C P0 (T + 2) _ v4.c).mono ?_
  rintro e w5 ⟨rfl, k5⟩
  have K5 : Kp [] w3 w5 := (((Kp.refl [] w3).alloc _).alloc _).trans k5
  have v5 := v3.kp0 K5
  have hb5 := K5.heap hb3 (by simp)
  have f11 := cell_at (i := 11) (v := .slice (some ⟨g1, 0, none⟩) 1 c1) v5.d rfl
  have f12 := cell_at (i := 12) (v := .slice (some ⟨g2, 0, none⟩) 0 c2) v5.d rfl
  have e0 := cell_at (i := 0) (v := .int .u64 T) hb5 rfl
  have e1 := cell_at (i := 1) (v := .string P2) hb5 rfl
  have e2 := cell_at (i := 2) (v := .map none) hb5 rfl
  have e3 := cell_at (i := 3) (v := .map none) hb5 rfl
  have hle1 : ∀ b ∈ i.list, w.heap.size ≤ b := hle
  have B3 : Below w.heap.size w w3 := ((k1.trans ((Kp.refl [] w1).alloc _)).below).trans ((v1.kp0 ((Kp.refl [] w1).alloc _)).kpOut hle1 k3 hbs (by rw [World.size_alloc]; omega))
  have B5 : Below w.heap.size w w5 := B3.trans (K5.below.mono B3.size)
  clear o0 o1 o2 o3 o4 o5 o6 o7 o8 o9 t0 b0 b1 b2 b3 hlen hlk d2
  go_wp2_with fail
  refine (recv_refused v5 T P2 none none m ?_).mono ?_
  · intro W vW hW
    exact sender_late F (by rw [hW, B5.tape]; exact hF) vW T 2 (by omega) (by omega) T rfl (by omega)
  rintro e w6 ⟨er, rfl, k6, eb, es, rfl, hel, heh⟩
  have v6 := v5.kp0 k6
  have B6 : Below w.heap.size w w6 := B5.trans (k6.below.mono B5.size)
  have hs5 := B5.size
  go_wp2_with fail
  refine (refused_other v6 eb es heh a ((B6.cell (p := ⟨0, 0, none⟩) hlg).trans hg) ca ta ((B6.block _ hla).trans ha) (by omega)).mono ?_
  rintro e w7 ⟨rfl, k7⟩
  go_wp2
  go_ret
  exact ⟨rfl, B6.trans (k7.below.mono B6.size)⟩

end Go.Proofs.YbulkbxpiFmt
