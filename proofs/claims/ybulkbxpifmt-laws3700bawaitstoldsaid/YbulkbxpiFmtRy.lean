/-
  'Receive' where the stamp awaits one message, and may tell one process settled.
-/
import Derived.Test.YbulkbxpiFmtRw
namespace Go.Proofs.YbulkbxpiFmt
open Go.RowKit Go.MuLone Go.Stop

abbrev oneA (s : ByteArray) (v : Value) : Obj := .map #[{ key := .string s, val := v, born := 0 }] 1

section
variable {i : Ids} {w : World} {mu t : Int} {hd td se : List Int} {q wt : Value}

set_option maxRecDepth 100000 in
set_option maxHeartbeats 6000000 in
theorem recv_aw (v : Srv i w 0 t hd td se (.slice none 0 0) (.slice none 0 0)) (T : Int) (k : Nat) (hk1 : 1 ≤ k) (hk2 : k ≤ 2) (x : Int) (hx : hd[k]? = some x) (hxT : x < T) (ht : 0 ≤ t ∧ t ≤ T ∧ T + 3 ≤ 18446744073709551615) (m : Int)
    (ma ab : Nat) (sl : Option Nat) (a : Int) (na : ByteArray) (hma : w.heap[ma]? = some (oneA P0 (.slice (some ⟨ab, 0, none⟩) 1 1))) (hab : w.heap[ab]? = some (.cells #[.int .u64 a, .string na] 34)) (hn : ∀ b ∈ i.list, ma ≠ b ∧ ab ≠ b) (se' : List Int)
    (Hb : ∀ W, Srv i W 1 t hd td se (.slice none 0 0) (.slice none 0 0) → Calls Ybaf.prog 27 #[.pointer (some ⟨i.D, 0, none⟩), .agg #[.int .u64 T, .string (nmOf k)], .string na, .int .u64 a] W fun e w' => e = .returned .nilIface ∧ Kp [] W w')
    (Hp : ∀ W, Kp [i.D] w W → Srv i W 1 t hd td se (.slice none 0 0) (.slice none 0 0) → Calls Ybaf.prog 28 #[.pointer (some ⟨i.D, 0, none⟩), .agg #[.int .u64 T, .string (nmOf k)], .agg #[.slice none 0 0, .map sl]] W fun e w' => e = .returned .nilIface ∧ Kp [] W w')
    (Hl : ∀ W, Kp [i.D, i.C, i.Hd] w W → Srv i W 1 (T + 1) (hd.set k T) td se (.slice none 0 0) (.slice none 0 0) → Calls Ybaf.prog 31 #[.pointer (some ⟨i.D, 0, none⟩), .agg #[.int .u64 T, .string (nmOf k)], .map sl] W fun e w' => e = .returned (.tuple #[]) ∧ Kp [i.Se] W w' ∧ Srv i w' 1 (T + 1) (hd.set k T) td se' (.slice none 0 0) (.slice none 0 0))
    (R : Value → World → Prop) (HR : ∀ o W, R o W → ∃ t' hd' td' se'' q' wt', Srv i W 1 t' hd' td' se'' q' wt')
    (Ha : ∀ W g cap cur aw ac cura, Kp [i.D, i.C, i.Hd, i.Se] w W → Srv i W 1 (T + 1) (hd.set k T) td se' (.slice none 0 0) (.slice (some ⟨g, 0, none⟩) 1 cap) → w.heap.size ≤ g → W.heap[g]? = some (.cells cur 111) → 1 ≤ cap → cap ≤ maxLen → cur.size = cap * 7 → (∀ j, j < 7 → cur[j]? = (heldC T (nmOf k) 0 ⟨#[]⟩ (some ⟨aw, 0, none⟩) 1 ac m)[j]?) → (∀ a ∈ i.list, g ≠ a) → 1 ≤ ac → W.heap[aw]? = some (.cells cura 34) → cura[0]? = some (.int .u64 a) → cura[1]? = some (.string na) →
      Calls Ybaf.prog 32 #[.pointer (some ⟨i.D, 0, none⟩)] W fun e w' => ∃ o, e = .returned (.tuple #[o, .slice none 0 0]) ∧ R o w') :
    Calls Ybaf.prog 13 #[.pointer (some ⟨i.D, 0, none⟩), .agg #[.int .u64 T, .string (nmOf k), .map (some ma), .map sl], .int .i64 m] w fun e w' => ∃ o w1, e = .returned (.tuple #[o, .slice none 0 0, .nilIface]) ∧ R o w1 ∧ w' = w1.setCell ⟨i.D, 0, none⟩ (.int .i32 0) := by
  have hlD := heap_lt v.d
  have hnD := hn i.D (by simp)
  have hnC := hn i.C (by simp)
  have hnH := hn i.Hd (by simp)
  have hnS := hn i.Se (by simp)
  go_enter_defers Ybaf.func13, Ybaf.ntmps13
  go_wp2_with fail
  refine (lock_free Ybaf.muLib ⟨i.D, 0, none⟩ _ ?_ ?_).mono ?_
  · exact cell_at ((Below.heap_alloc _ _ _ hlD).trans v.d) rfl
  · exact frozen_at ((Below.heap_alloc _ _ _ hlD).trans v.d)
  rintro e w1 ⟨rfl, rfl⟩
  go_upto_region 3 with fail
  obtain ⟨w2, hw2⟩ : ∃ x, x = (w.setCell ⟨i.D, 0, none⟩ (.int .i32 1)).alloc (.cells #[.int .u64 T, .string (nmOf k), .map (some ma), .map sl] 38) := ⟨_, rfl⟩
  have v2 : Srv i w2 1 t hd td se (.slice none 0 0) (.slice none 0 0) := by rw [hw2]; exact (v.lock 1).kp0 ((Kp.refl [] _).alloc _)
  have K2 : Kp [i.D] w w2 := by rw [hw2]; exact ((Kp.refl [i.D] w).set (a := ⟨i.D, 0, none⟩) (.inl (by simp)) _).alloc _
  have hb2 : w2.heap[w.heap.size]? = some (.cells #[.int .u64 T, .string (nmOf k), .map (some ma), .map sl] 38) := by rw [hw2]; exact heap_newk _ _ _ (by simp [World.setCell])
  rw [← hw2]
  clear hw2
  have hma2 := K2.heap hma (by simp; exact hnD.1)
  have hab2 := K2.heap hab (by simp; exact hnD.2)
  have hlb2 := heap_lt hb2
  have b0 := cell_at (i := 0) (v := .int .u64 T) hb2 rfl
  have b1 := cell_at (i := 1) (v := .string (nmOf k)) hb2 rfl
  go_region_held3 (fun w' => w'.cell? ⟨w.heap.size, 0, none⟩ = some (.int .u64 T) ∧ w'.cell? ⟨w.heap.size, 1, none⟩ = some (.string (nmOf k))) (simp [*])
    (first | (go_at_call 25; refine (sender_ok (v2.kp0 ((Kp.refl [] w2).drew)) T k hk1 hk2 x hx hxT).mono ?_; rintro e w3 ⟨rfl, k3⟩; have hb3 := k3.heap hb2 (by simp); have b30 := cell_at (i := 0) (v := .int .u64 T) hb3 rfl; have b31 := cell_at (i := 1) (v := .string (nmOf k)) hb3 rfl))
  have K3 : Kp [] w2 w3 := (Kp.refl [] w2).drew.trans k3
  have v3 := v2.kp0 K3
  have b32 := cell_at (i := 2) (v := .map (some ma)) hb3 rfl
  have hma3 := K3.heap hma2 (by simp)
  go_wp2_with fail
  go_region_held3 (fun w' => w'.cell? ⟨w.heap.size, 2, none⟩ = some (.map (some ma))) (simp [*])
    (first | (go_at_call 26; refine (process_c (v3.kp0 ((Kp.refl [] w3).drew))).mono ?_; rintro e w4 ⟨rfl, k4⟩; have hb4 := k4.heap hb3 (by simp); have b42 := cell_at (i := 2) (v := .map (some ma)) hb4 rfl; have hl35 := run_look_hit 35 9 84 Ybaf.underlying35 Ybaf.underlying9 (k4.heap hma3 (by simp)) P0 0 (.slice (some ⟨ab, 0, none⟩) 1 1) rfl false; simp at hl35))
  have K4 : Kp [] w2 w4 := K3.trans ((Kp.refl [] w3).drew.trans k4)
  have v4 := v2.kp0 K4
  have hab4 := K4.heap hab2 (by simp)
  have hlab4 := heap_lt hab4
  have hlb4 := heap_lt hb4
  have a40 := cell_at (i := 0) (v := .int .u64 a) hab4 rfl
  have a41 := cell_at (i := 1) (v := .string na) hab4 rfl
  have b40 := cell_at (i := 0) (v := .int .u64 T) hb4 rfl
  have b41 := cell_at (i := 1) (v := .string (nmOf k)) hb4 rfl
  clear b0 b1 b30 b31 b32 b42
  go_wp2_with fail
  refine wp_loop_rounds 2 ?_
  rw [rounds_succ]
  go_wp2_with fail
  refine (Hb _ (v4.kp0 ((Kp.refl [] w4).alloc _))).mono ?_
  rintro e w5 ⟨rfl, k5⟩
  have K5 : Kp [] w2 w5 := (K4.alloc _).trans k5
  have v5 := v2.kp0 K5
  have hb5 := K5.heap hb2 (by simp)
  have b50 := cell_at (i := 0) (v := .int .u64 T) hb5 rfl
  have b51 := cell_at (i := 1) (v := .string (nmOf k)) hb5 rfl
  have b53 := cell_at (i := 3) (v := .map sl) hb5 rfl
  clear b40 b41 a40 a41 hl35
  go_wp2_with fail
  rw [rounds_succ]
  go_wp2_with fail
  refine (Hp _ (K2.trans (K5.mono (by simp))) v5).mono ?_
  rintro e w6 ⟨rfl, k6⟩
  have K6 : Kp [] w2 w6 := K5.trans k6
  have v6 := v2.kp0 K6
  have hb6 := k6.heap hb5 (by simp)
  have b60 := cell_at (i := 0) (v := .int .u64 T) hb6 rfl
  have b61 := cell_at (i := 1) (v := .string (nmOf k)) hb6 rfl
  clear b50 b51 b53
  go_wp2_with fail
  go_region_held3 (fun w' => w'.cell? ⟨w.heap.size, 0, none⟩ = some (.int .u64 T) ∧ w'.cell? ⟨w.heap.size, 1, none⟩ = some (.string (nmOf k))) (simp [*])
    (first | (go_at_call 30; refine (room_c (v6.kp0 ((Kp.refl [] w6).drew))).mono ?_; rintro e w6' ⟨rfl, k6'⟩; have hb6' := k6'.heap hb6 (by simp); have K6' : Kp [] w6 w6' := (Kp.refl [] w6).drew.trans k6'; have v6' := v6.kp0 K6'; have b60' := cell_at (i := 0) (v := .int .u64 T) hb6' rfl; have b61' := cell_at (i := 1) (v := .string (nmOf k)) hb6' rfl) | (go_at_call 29; refine (precv_ok v6' T (nmOf k) k (by omega) x hx ht).mono ?_; rintro e w7 ⟨rfl, k7, v7⟩; have hb7 := k7.heap hb6' (by have h1 := v.lt i.C (by simp); have h2 := v.lt i.Hd (by simp); simp; omega); have b70 := cell_at (i := 0) (v := .int .u64 T) hb7 rfl; have b71 := cell_at (i := 1) (v := .string (nmOf k)) hb7 rfl))
  have K7 : Kp [i.C, i.Hd] w2 w7 := ((K6.trans K6').mono (by simp)).trans k7
  have b73 := cell_at (i := 3) (v := .map sl) hb7 rfl
  clear b60 b61 b60' b61'
  go_wp2_with fail
  refine (Hl _ ((K2.mono (by simp)).trans (K7.mono (by simp))) v7).mono ?_
  rintro e w8 ⟨rfl, k8, v8⟩
  have hlS := v.lt i.Se (by simp)
  have hb8 := k8.heap hb7 (by simp; omega)
  have b80 := cell_at (i := 0) (v := .int .u64 T) hb8 rfl
  have b81 := cell_at (i := 1) (v := .string (nmOf k)) hb8 rfl
  have K8 : Kp [i.C, i.Hd, i.Se] w2 w8 := (K7.mono (by simp)).trans (k8.mono (by simp))
  have hab8 := K8.heap hab2 (by simp; exact ⟨hnC.2, hnH.2, hnS.2⟩)
  obtain ⟨i0, hi0, hz0, hz1, hz2⟩ := info_parts Ybaf.info111
  obtain ⟨i4, hi4, hy0, hy1, hy2⟩ := info_parts Ybaf.info34
  have d12 := cell_at (i := 12) (v := .slice none 0 0) v8.d rfl
  have f12 := frozen_at (i := 12) v8.d
  have hlD8 := heap_lt v8.d
  have hlb8 := heap_lt hb8
  clear b70 b71 b73
  go_upto_region 21 with fail
  go_cut [100] from 88 to 102 (fun u wx => ∃ g cap cur w9 ac cura, w8.heap.size ≤ g ∧ u = .slice (some ⟨g, 0, none⟩) 1 cap ∧ wx = w9.setCell ⟨i.D, 12, none⟩ (.slice (some ⟨g, 0, none⟩) 1 cap) ∧ Kp [] w8 w9 ∧ w9.heap[g]? = some (.cells cur 111) ∧ (1 ≤ cap ∧ cap ≤ maxLen ∧ cur.size = cap * 7) ∧ (∀ j, j < 7 → cur[j]? = (heldC T (nmOf k) 0 ⟨#[]⟩ (some ⟨w8.heap.size, 0, none⟩) 1 ac m)[j]?) ∧ 1 ≤ ac ∧ w9.heap[w8.heap.size]? = some (.cells cura 34) ∧ (∀ j, j < 2 → cura[j]? = (#[.int .u64 a, .string na] : Array Value)[j]?))
  case first =>
    refine wp_region_noPanic ?_
    go_region_law (first | (refine step_app1 rfl (.const (.slice none 0 0)) (.tmp 95) 84 rfl 34 i4 _ 2 24 Ybaf.underlying84 hi4 hy0 hy1 hy2 rfl (by decide) (by decide) (by rfl) ab 1 _ 34 (0, 0) (by rfl) hab8 rfl (by simp [Value.oneCell']) ?_; intro ac cura wA happA; have KA : Kp [] w8 wA := (by first | exact (Kp.refl [] w8).drew.trans happA.kp | exact happA.kp); have vA := v8.kp0 KA; have dA12 := cell_at (i := 12) (v := .slice none 0 0) vA.d rfl; have fA12 := frozen_at (i := 12) vA.d; have hlDA := heap_lt vA.d; have hlbA := heap_lt (KA.heap hb8 (by simp)); have hbA := KA.heap hb8 (by simp); have bA0 := cell_at (i := 0) (v := .int .u64 T) hbA rfl; have bA1 := cell_at (i := 1) (v := .string (nmOf k)) hbA rfl) | (refine step_app1 rfl (.tmp 92) (.tmp 99) 80 rfl 111 i0 _ 7 88 Ybaf.underlying80 hi0 hz0 hz1 hz2 rfl (by decide) (by decide) (by rfl) wA.heap.size 1 _ 111 (0, 0) (by rfl) (heap_newk _ _ _ (by simp)) rfl (by simp [Value.oneCell']) ?_; intro cap cur w9 happ; have K9 : Kp [] wA w9 := (by first | exact ((Kp.refl [] wA).alloc _).drew.trans happ.kp | exact ((Kp.refl [] wA).alloc _).trans happ.kp); have v9 := vA.kp0 K9; have d912 := cell_at (i := 12) (v := .slice none 0 0) v9.d rfl; have f912 := frozen_at (i := 12) v9.d))
    all_goals (refine NoPanic.normal ?_; go_wp2; go_meet; case rel => exact ⟨wA.heap.size + 1, cap, cur, w9, ac, cura, Nat.le_succ_of_le KA.size, rfl, rfl, KA.trans K9, by simpa using happ.heap, ⟨happ.one, happ.max, happ.len⟩, happ.cells, happA.one, K9.heap (by simpa using happA.heap) (by simp), happA.cells⟩)
  case rest =>
    obtain ⟨g, cap, cur, w9, ac, cura, hgs, rfl, rfl, K9, hg9, ⟨hc1, hcm, hlen⟩, hcur, hac, hca9, hcura⟩ := hcut
    have v9 := v8.kp0 K9
    have hlt8 := v8.lt
    have v10 : Srv i (w9.setCell ⟨i.D, 12, none⟩ (.slice (some ⟨g, 0, none⟩) 1 cap)) 1 (T + 1) (hd.set k T) td se' (.slice none 0 0) (.slice (some ⟨g, 0, none⟩) 1 cap) := v9.setD ((Kp.refl [i.D] w9).set (a := ⟨i.D, 12, none⟩) (.inl (by simp)) _) (heap_set (i := 12) _ v9.d)
    have K10 : Kp [i.D] w8 (w9.setCell ⟨i.D, 12, none⟩ (.slice (some ⟨g, 0, none⟩) 1 cap)) := (K9.mono (by simp)).set (a := ⟨i.D, 12, none⟩) (.inl (by simp)) _
    have hgD : g ≠ i.D := by omega
    have haD : w8.heap.size ≠ i.D := by omega
    have hg10 : (w9.setCell ⟨i.D, 12, none⟩ (.slice (some ⟨g, 0, none⟩) 1 cap)).heap[g]? = some (.cells cur 111) := (Below.heap_setCell _ _ _ _ hgD).trans hg9
    have ha10 : (w9.setCell ⟨i.D, 12, none⟩ (.slice (some ⟨g, 0, none⟩) 1 cap)).heap[w8.heap.size]? = some (.cells cura 34) := (Below.heap_setCell _ _ _ _ haD).trans hca9
    generalize w9.setCell ⟨i.D, 12, none⟩ (.slice (some ⟨g, 0, none⟩) 1 cap) = w10 at v10 K10 hg10 ha10 ⊢
    have hgn : ∀ a ∈ i.list, g ≠ a := fun a ha => by have := hlt8 a ha; omega
    have hs8 : w.heap.size ≤ w8.heap.size := Nat.le_trans K2.size K8.size
    clear d12 f12 b80 b81
    have K10w : Kp [i.D, i.C, i.Hd, i.Se] w w10 := ((K2.mono (by simp)).trans (K8.mono (by simp))).trans (K10.mono (by simp))
    go_wp2_with fail
    refine (Ha w10 g cap cur w8.heap.size ac cura K10w v10 (by omega) hg10 hc1 hcm hlen hcur hgn hac ha10 (by simpa using hcura 0 (by omega)) (by simpa using hcura 1 (by omega))).mono ?_
    rintro e w11 ⟨o, rfl, r11⟩
    obtain ⟨t', hd', td', se'', q', wt', v11⟩ := HR o w11 r11
    go_wp2
    refine leaves_cons (f := 18) (args := #[.pointer (some ⟨i.D, 0, none⟩)]) (by simp) (by simp [go_sem]) ?_
    refine (unlock_deferred Ybaf.muLib ⟨i.D, 0, none⟩ .returning _ (cell_at (v := .int .i32 1) v11.d rfl) (frozen_at v11.d)).mono ?_
    rintro e u' w'' ⟨rfl, rfl, rfl⟩
    exact ⟨.tuple #[o, .slice none 0 0, .nilIface], by simp [results, Ybaf.results13, go_sem], o, w11, rfl, r11, rfl⟩
end

end Go.Proofs.YbulkbxpiFmt
