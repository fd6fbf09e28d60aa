/-
  'Receive' where a proposal is sent.
-/
import Derived.Test.YbulkbxpiFmtRw
namespace Go.Proofs.YbulkbxpiFmt
open Go.RowKit Go.MuLone Go.Stop

section
variable {i : Ids} {w : World} {mu t : Int} {hd td se : List Int} {q wt : Value}

set_option maxRecDepth 100000 in
set_option maxHeartbeats 6000000 in
theorem recv_ok (v : Srv i w 0 t hd td se (.slice none 0 0) (.slice none 0 0)) (T : Int) (k : Nat) (hk1 : 1 ≤ k) (hk2 : k ≤ 2) (x : Int) (hx : hd[k]? = some x) (hxT : x < T) (y : Int) (hy : td[k]? = some y) (ht : 0 ≤ t ∧ t ≤ T ∧ T + 3 ≤ 18446744073709551615) (m : Int) :
    Calls Ybaf.prog 13 #[.pointer (some ⟨i.D, 0, none⟩), .agg #[.int .u64 T, .string (nmOf k), .map none, .map none], .int .i64 m] w fun e w' => ∃ go cap' curo gt mm q' wt', e = .returned (.tuple #[.slice (some ⟨go, 0, none⟩) 1 cap', .slice none 0 0, .nilIface]) ∧
      (∃ bs, Kp bs w w' ∧ ∀ b ∈ bs, b ∈ i.list ∨ w.heap.size ≤ b) ∧ Srv i w' 0 (T + 2) (hd.set k T) (td.set k (T + 2)) se q' wt' ∧ (∃ g1 c1, q' = .slice (some ⟨g1, 0, none⟩) 1 c1) ∧ (∃ g2 c2, wt' = .slice (some ⟨g2, 0, none⟩) 0 c2) ∧ w'.heap[go]? = some (.cells curo 79) ∧
      (∀ j, j < 10 → curo[j]? = (#[.string ⟨#[112, 114, 111, 112, 111, 115, 97, 108]⟩, .int .u64 (T + 2), .string P0, .slice (some ⟨gt, 0, none⟩) 1 1, .int .u64 T, .string (nmOf k), .int .u64 (T + 2), .string P0, .slice none 0 0, .map (some mm)] : Array Value)[j]?) ∧
      w'.heap[gt]? = some (.cells #[.string (nmOf k)] 9) ∧ w'.heap[mm]? = some (.map #[{ key := .string P0, val := .int .u64 (T + 1), born := 0 }] 1) ∧ w.heap.size ≤ go ∧ w.heap.size ≤ gt ∧ w.heap.size ≤ mm := by
  have hlD := heap_lt v.d
  have hl35 := look35_nil
  go_enter_defers Ybaf.func13, Ybaf.ntmps13
  go_wp2_with fail
  refine (lock_free Ybaf.muLib ⟨i.D, 0, none⟩ _ ?_ ?_).mono ?_
  · exact cell_at ((Below.heap_alloc _ _ _ hlD).trans v.d) rfl
  · exact frozen_at ((Below.heap_alloc _ _ _ hlD).trans v.d)
  rintro e w1 ⟨rfl, rfl⟩
  go_upto_region 3 with fail
  obtain ⟨w2, hw2⟩ : ∃ x, x = (w.setCell ⟨i.D, 0, none⟩ (.int .i32 1)).alloc (.cells #[.int .u64 T, .string (nmOf k), .map none, .map none] 38) := ⟨_, rfl⟩
  have v2 : Srv i w2 1 t hd td se (.slice none 0 0) (.slice none 0 0) := by rw [hw2]; exact (v.lock 1).kp0 ((Kp.refl [] _).alloc _)
  have K2 : Kp [i.D] w w2 := by rw [hw2]; exact ((Kp.refl [i.D] w).set (a := ⟨i.D, 0, none⟩) (.inl (by simp)) _).alloc _
  have hb2 : w2.heap[w.heap.size]? = some (.cells #[.int .u64 T, .string (nmOf k), .map none, .map none] 38) := by rw [hw2]; exact heap_newk _ _ _ (by simp [World.setCell])
  rw [← hw2]
  clear hw2
  have hlb2 := heap_lt hb2
  have b0 := cell_at (i := 0) (v := .int .u64 T) hb2 rfl
  have b1 := cell_at (i := 1) (v := .string (nmOf k)) hb2 rfl
  go_region_held3 (fun w' => w'.cell? ⟨w.heap.size, 0, none⟩ = some (.int .u64 T) ∧ w'.cell? ⟨w.heap.size, 1, none⟩ = some (.string (nmOf k))) (simp [*])
    (first | (go_at_call 25; refine (sender_ok (v2.kp0 ((Kp.refl [] w2).drew)) T k hk1 hk2 x hx hxT).mono ?_; rintro e w3 ⟨rfl, k3⟩; have hb3 := k3.heap hb2 (by simp); have b30 := cell_at (i := 0) (v := .int .u64 T) hb3 rfl; have b31 := cell_at (i := 1) (v := .string (nmOf k)) hb3 rfl))
  have K3 : Kp [] w2 w3 := (Kp.refl [] w2).drew.trans k3
  have v3 := v2.kp0 K3
  have b32 := cell_at (i := 2) (v := .map none) hb3 rfl
  go_wp2_with fail
  go_region_held3 (fun w' => w'.cell? ⟨w.heap.size, 2, none⟩ = some (.map none)) (simp [*])
    (first | (go_at_call 26; refine (process_c (v3.kp0 ((Kp.refl [] w3).drew))).mono ?_; rintro e w4 ⟨rfl, k4⟩; have hb4 := k4.heap hb3 (by simp); have b42 := cell_at (i := 2) (v := .map none) hb4 rfl))
  have K4 : Kp [] w2 w4 := K3.trans ((Kp.refl [] w3).drew.trans k4)
  have v4 := v2.kp0 K4
  have b40 := cell_at (i := 0) (v := .int .u64 T) hb4 rfl
  have b41 := cell_at (i := 1) (v := .string (nmOf k)) hb4 rfl
  have b43 := cell_at (i := 3) (v := .map none) hb4 rfl
  go_wp2_with fail
  refine wp_loop_rounds 1 ?_
  rw [rounds_succ]
  go_wp2_with fail
  refine (past_nil (i := i) T (nmOf k) w4).mono ?_
  rintro e w5 ⟨rfl, k5⟩
  have K5 : Kp [] w2 w5 := K4.trans k5
  have v5 := v2.kp0 K5
  have hb5 := k5.heap hb4 (by simp)
  have b50 := cell_at (i := 0) (v := .int .u64 T) hb5 rfl
  have b51 := cell_at (i := 1) (v := .string (nmOf k)) hb5 rfl
  clear b0 b1 b30 b31 b32 b42
  go_wp2_with fail
  go_region_held3 (fun w' => w'.cell? ⟨w.heap.size, 0, none⟩ = some (.int .u64 T) ∧ w'.cell? ⟨w.heap.size, 1, none⟩ = some (.string (nmOf k))) (simp [*])
    (first | (go_at_call 30; refine (room_c (v5.kp0 ((Kp.refl [] w5).drew))).mono ?_; rintro e w6 ⟨rfl, k6⟩; have hb6 := k6.heap hb5 (by simp); have K6 : Kp [] w5 w6 := (Kp.refl [] w5).drew.trans k6; have v6 := v5.kp0 K6; have b60 := cell_at (i := 0) (v := .int .u64 T) hb6 rfl; have b61 := cell_at (i := 1) (v := .string (nmOf k)) hb6 rfl) | (go_at_call 29; refine (precv_ok v6 T (nmOf k) k (by omega) x hx ht).mono ?_; rintro e w7 ⟨rfl, k7, v7⟩; have hb7 := k7.heap hb6 (by have h1 := v.lt i.C (by simp); have h2 := v.lt i.Hd (by simp); simp; omega); have b70 := cell_at (i := 0) (v := .int .u64 T) hb7 rfl; have b71 := cell_at (i := 1) (v := .string (nmOf k)) hb7 rfl))
  have K7 : Kp [i.C, i.Hd] w2 w7 := ((K5.trans K6).mono (by simp)).trans k7
  have b73 := cell_at (i := 3) (v := .map none) hb7 rfl
  clear b40 b41 b43 b50 b51 b60 b61
  go_wp2_with fail
  refine (learn_nil (i := i) T (nmOf k) w7).mono ?_
  rintro e w8 ⟨rfl, k8⟩
  have v8 := v7.kp0 k8
  have hb8 := k8.heap hb7 (by simp)
  have b80 := cell_at (i := 0) (v := .int .u64 T) hb8 rfl
  have b81 := cell_at (i := 1) (v := .string (nmOf k)) hb8 rfl
  have K8 : Kp [i.C, i.Hd] w2 w8 := K7.trans (k8.mono (by simp))
  have hap := app_nil
  obtain ⟨i0, hi0, hz0, hz1, hz2⟩ := info_parts Ybaf.info111
  have d12 := cell_at (i := 12) (v := .slice none 0 0) v8.d rfl
  have f12 := frozen_at (i := 12) v8.d
  have hlD8 := heap_lt v8.d
  have hlb8 := heap_lt hb8
  go_upto_region 21 with fail
  go_cut [100] from 88 to 102 (fun u wx => ∃ cap cur w9, u = .slice (some ⟨w8.heap.size + 1, 0, none⟩) 1 cap ∧ wx = w9.setCell ⟨i.D, 12, none⟩ (.slice (some ⟨w8.heap.size + 1, 0, none⟩) 1 cap) ∧ Kp [] w8 w9 ∧ w9.heap[w8.heap.size + 1]? = some (.cells cur 111) ∧ (1 ≤ cap ∧ cap ≤ maxLen ∧ cur.size = cap * 7) ∧ (∀ j, j < 7 → cur[j]? = (heldC T (nmOf k) 0 ⟨#[]⟩ none 0 0 m)[j]?))
  case first =>
    refine wp_region_noPanic ?_
    go_region_law (refine step_app1 rfl (.tmp 92) (.tmp 99) 80 rfl 111 i0 _ 7 88 Ybaf.underlying80 hi0 hz0 hz1 hz2 rfl (by decide) (by decide) (by simp [Act.eval, Act.put]) w8.heap.size 1 _ 111 (0, 0) (by simp [Act.eval, Act.put]) (heap_newk _ _ _ (by simp)) rfl (by simp [Value.oneCell']) ?_; intro cap cur w9 happ; have K9 : Kp [] w8 w9 := (by first | exact ((Kp.refl [] w8).alloc _).drew.trans happ.kp | exact ((Kp.refl [] w8).alloc _).trans happ.kp); have v9 := v8.kp0 K9; have d912 := cell_at (i := 12) (v := .slice none 0 0) v9.d rfl; have f912 := frozen_at (i := 12) v9.d)
    all_goals (refine NoPanic.normal ?_; go_wp2; go_meet; case rel => exact ⟨cap, cur, w9, rfl, rfl, K9, by simpa using happ.heap, ⟨happ.one, happ.max, happ.len⟩, happ.cells⟩)
  case rest =>
    obtain ⟨cap, cur, w9, rfl, rfl, K9, hg9, ⟨hc1, hcm, hlen⟩, hcur⟩ := hcut
    have v9 := v8.kp0 K9
    have hlt8 := v8.lt
    have v10 : Srv i (w9.setCell ⟨i.D, 12, none⟩ (.slice (some ⟨w8.heap.size + 1, 0, none⟩) 1 cap)) 1 (T + 1) (hd.set k T) td se (.slice none 0 0) (.slice (some ⟨w8.heap.size + 1, 0, none⟩) 1 cap) := v9.setD ((Kp.refl [i.D] w9).set (a := ⟨i.D, 12, none⟩) (.inl (by simp)) _) (heap_set (i := 12) _ v9.d)
    have K10 : Kp [i.D] w8 (w9.setCell ⟨i.D, 12, none⟩ (.slice (some ⟨w8.heap.size + 1, 0, none⟩) 1 cap)) := (K9.mono (by simp)).set (a := ⟨i.D, 12, none⟩) (.inl (by simp)) _
    have hgD : w8.heap.size + 1 ≠ i.D := by omega
    have hg10 : (w9.setCell ⟨i.D, 12, none⟩ (.slice (some ⟨w8.heap.size + 1, 0, none⟩) 1 cap)).heap[w8.heap.size + 1]? = some (.cells cur 111) := (Below.heap_setCell _ _ _ _ hgD).trans hg9
    generalize w9.setCell ⟨i.D, 12, none⟩ (.slice (some ⟨w8.heap.size + 1, 0, none⟩) 1 cap) = w10 at v10 K10 hg10 ⊢
    have hgn : ∀ a ∈ i.list, w8.heap.size + 1 ≠ a := fun a ha => by have := hlt8 a ha; omega
    have hs8 : w.heap.size ≤ w8.heap.size := Nat.le_trans K2.size K8.size
    have hs10 := K10.size
    clear d12 f12 b80 b81 hap hl35
    go_wp2_with fail
    refine (act_prop (w8.heap.size + 1) cap v10 (by omega) T k hk1 hk2 none 0 m cur hg10 hc1 (by rw [hlen]; omega) hcur hgn y hy).mono ?_
    rintro e w11 ⟨go, cap', curo, gt, mm, gq, cq, curq, rfl, k11, v11, ho, hoc, ht11, hm11, hq11, lo, lt, lm⟩
    have eT : T + 1 + 1 = T + 2 := by omega
    rw [eT] at v11 hoc
    go_wp2
    refine leaves_cons (f := 18) (args := #[.pointer (some ⟨i.D, 0, none⟩)]) (by simp) (by simp [go_sem]) ?_
    refine (unlock_deferred Ybaf.muLib ⟨i.D, 0, none⟩ .returning _ (cell_at (v := .int .i32 1) v11.d rfl) (frozen_at v11.d)).mono ?_
    rintro e u' w'' ⟨rfl, rfl, rfl⟩
    have v12 := v11.lock 0
    have k12 : Kp [i.D] w11 (w11.setCell ⟨i.D, 0, none⟩ (.int .i32 0)) := (Kp.refl [i.D] w11).set (a := ⟨i.D, 0, none⟩) (.inl (by simp)) _
    have hDlt := v.lt i.D (by simp)
    refine ⟨.tuple #[.slice (some ⟨go, 0, none⟩) 1 cap', .slice none 0 0, .nilIface], by simp [results, Ybaf.results13, go_sem], go, cap', curo, gt, mm, _, _, rfl, ⟨[i.D, i.C, i.Hd, i.Td, w8.heap.size + 1], ?_, ?_⟩, v12, ⟨gq, cq, rfl⟩, ⟨_, cap, rfl⟩, k12.heap ho (by simp; omega), hoc, k12.heap ht11 (by simp; omega), k12.heap hm11 (by simp; omega), by omega, by omega, by omega⟩
    · exact ((((K2.mono (by simp)).trans (K8.mono (by simp))).trans (K10.mono (by simp))).trans (k11.mono (by simp))).trans (k12.mono (by simp))
    · intro b hb
      simp only [List.mem_cons, List.not_mem_nil, or_false] at hb
      rcases hb with rfl | rfl | rfl | rfl | rfl
      · exact .inl (by simp)
      · exact .inl (by simp)
      · exact .inl (by simp)
      · exact .inl (by simp)
      · exact .inr (by omega)
end

end Go.Proofs.YbulkbxpiFmt
