/-
  'newPeers' of law A: names a, b, .. and whichever process.
-/
import Derived.Test.YbulkbxpiFmtXc
import Derived.Test.YbulkbxpiFmtNp
namespace Go.Proofs.YbulkbxpiFmt
open Go.RowKit Go.MuLone

abbrev boxA (b : Nat → Nat) (n kn : Nat) (s : Int) : Array Value :=
  #[.pointer (some ⟨b 1, 0, none⟩), .int .i64 s, .slice (some ⟨b 3, 0, none⟩) n kn, .map (some (b 6)), .slice (some ⟨b 9, 0, none⟩) n n, .slice (some ⟨b 12, 0, none⟩) n n]

set_option maxRecDepth 100000 in
set_option maxHeartbeats 2000000 in
theorem newPeers_cA (w : World) (nm : ByteArray) (L : List ByteArray) (me : Nat) (sb sc : Nat) (hs : ∀ (k : Nat) (s : ByteArray), L[k]? = some s → w.cell? ⟨sb, k, none⟩ = some (.string s)) (hL1 : 1 ≤ L.length) (hL : L.length ≤ 1024) (hL6 : L.length ≤ 6) (hLL : Hid3 (L = (List.range L.length).map nmA)) (hnm : Hid3 (nm = nmA me)) (hme : me < L.length) :
    Calls Ybaf.prog 15 #[.string nm, .slice (some ⟨sb, 0, none⟩) L.length sc] w fun e w' => ∃ C N X Hd Td kn, e = .returned (.tuple #[.agg #[.pointer (some ⟨C, 0, none⟩), .int .i64 (me : Int), .slice (some ⟨N, 0, none⟩) L.length kn, .map (some X), .slice (some ⟨Hd, 0, none⟩) L.length L.length, .slice (some ⟨Td, 0, none⟩) L.length L.length], .nilIface]) ∧ Kp [] w w' ∧
      Clk C (nmA me) 0 w' ∧ AtS w' N (List.range L.length) ∧ w'.heap[X]? = some (.map (idxA L.length) L.length) ∧ w'.heap[Td]? = some (.cells (rowU (List.replicate L.length 0)) 31) ∧ [C, N, X, Td].Nodup ∧ (∀ b ∈ [C, N, X, Td], w.heap.size ≤ b ∧ b < w'.heap.size) := by
  go_enter Ybaf.func15, Ybaf.ntmps15
  go_upto_region 1 with fail
  refine wp_region_inv (by kernel_rfl) (fun listed a W => ∃ b kn, a = npFrame nm (.slice (some ⟨sb, 0, none⟩) L.length sc) w.heap.size L.length b kn (fun k => listed.getD k false) ∧ NI nm L (w.alloc (.cells #[.pointer none, .int .i64 0, .slice none 0 0, .map none, .slice none 0 0, .slice none 0 0] 51)) b kn (fun k => listed.getD k false) W) ?_ ?_ ?_
  · refine ⟨fun _ => 0, 0, ?_, ?_⟩
    · have hz : (fun k => (Array.replicate 16 false).getD k false) = fun _ => false := by funext k; exact getD_rep 16 k
      show _ = npFrame _ _ _ _ _ _ (fun k => (Array.replicate 16 false).getD k false)
      rw [hz]
      simp [npFrame]
    · have hz : (fun k => (Array.replicate 16 false).getD k false) = fun _ => false := by funext k; exact getD_rep 16 k
      show NI _ _ _ _ _ (fun k => (Array.replicate 16 false).getD k false) _
      rw [hz]
      exact ⟨(Kp.refl [] _).drew, fun j _ h => (by cases h), fun j k _ _ h => (by cases h), fun h => (by cases h), fun h => (by cases h), fun h => (by cases h)⟩
  · rintro listed a W j o hsz ⟨b, kn, rfl, hI⟩ hj ho hdep
    have hj16 : j < 16 := by have := (Array.getElem?_eq_some_iff.1 ho).1; simpa using this
    have hfj := getf hj
    have hset := setf listed j hj
    obtain ⟨f, hf⟩ : ∃ f : Nat → Bool, f = fun k => listed.getD k false := ⟨_, rfl⟩
    have hfj' : f j = false := by rw [hf]; exact hfj
    have hset' : (fun k => (listed.setIfInBounds j true).getD k false) = fun k => if k = j then true else f k := by rw [hset, hf]
    have hd : ∀ e ∈ o.after, Region.binds .any e = true → f e.on = true := by rw [hf]; exact hdep
    rw [← hf] at hI ⊢
    simp only [hset']
    clear hf hset hfj hdep hj hset'
    refine wpOp_do ho ?hgd ?hop
    case hgd =>
      rcases (by omega : j = 0 ∨ j = 1 ∨ j = 2 ∨ j = 3 ∨ j = 4 ∨ j = 5 ∨ j = 6 ∨ j = 7 ∨ j = 8 ∨ j = 9 ∨ j = 10 ∨ j = 11 ∨ j = 12 ∨ j = 13 ∨ j = 14 ∨ j = 15) with rfl | rfl | rfl | rfl | rfl | rfl | rfl | rfl | rfl | rfl | rfl | rfl | rfl | rfl | rfl | rfl <;> (simp at ho; subst ho; rfl)
    case hop =>
      obtain ⟨K, hK⟩ : ∃ K : Act → World → Prop, K = fun a W => ∃ b kn, a = npFrame nm (.slice (some ⟨sb, 0, none⟩) L.length sc) w.heap.size L.length b kn (fun k => if k = j then true else f k) ∧ NI nm L (w.alloc (.cells #[.pointer none, .int .i64 0, .slice none 0 0, .map none, .slice none 0 0, .slice none 0 0] 51)) b kn (fun k => if k = j then true else f k) W := ⟨_, rfl⟩
      rw [← hK]
      have hpure : ∀ (j : Nat), j ∉ 15 :: npMem → ∀ k, k ∈ 15 :: npMem → (fun k => if k = j then true else f k) k = f k := by
        intro j hj k hk
        have : k ≠ j := fun e => hj (e ▸ hk)
        simp [this]
      rcases (by omega : j = 0 ∨ j = 1 ∨ j = 2 ∨ j = 3 ∨ j = 4 ∨ j = 5 ∨ j = 6 ∨ j = 7 ∨ j = 8 ∨ j = 9 ∨ j = 10 ∨ j = 11 ∨ j = 12 ∨ j = 13 ∨ j = 14 ∨ j = 15) with rfl | rfl | rfl | rfl | rfl | rfl | rfl | rfl | rfl | rfl | rfl | rfl | rfl | rfl | rfl | rfl
      · simp at ho
        subst ho
        unfold Oper.wp execOp
        simp [npFrame, Act.eval, go_sem]
        rw [hK]
        exact ⟨b, kn, by simp [npFrame], hI.pure (hpure 0 (by decide)) (fun h13 k hk => by have := hI.bd (by simpa using h13) k hk; simp [this])⟩
      · simp at ho
        subst ho
        have d0 := hd { on := 0, ground := .data } (by simp) rfl
        simp only at d0
        unfold Oper.wp execOp
        simp [npFrame, Act.eval, go_sem, d0]
        refine (newClock_c nm W).mono ?_
        rintro e W1 ⟨rfl, rfl⟩
        rw [hK]
        refine ⟨_, kn, ?_, hI.new 1 (by simp) hfj' rfl ((Kp.refl [] W).alloc (.cells #[.string nm, .int .i32 0, .int .u32 0, .int .u64 0] 99)) (by show (W.alloc _).heap[_]? = _; exact heap_new W _) (fun _ => rfl) (by simp)⟩
        simp [npFrame, d0, hI.no13 (j := 1) (by simp) hfj']
      · simp at ho
        subst ho
        unfold Oper.wp execOp
        simp [npFrame, Act.eval, go_sem]
        rw [hK]
        exact ⟨b, kn, by simp [npFrame], hI.pure (hpure 2 (by decide)) (fun h13 k hk => by have := hI.bd (by simpa using h13) k hk; simp [this])⟩
      · simp at ho
        subst ho
        have d2 := hd { on := 2, ground := .data } (by simp) rfl
        simp only at d2
        have hsW : ∀ (k : Nat) (s : ByteArray), L[k]? = some s → W.cell? ⟨sb, k, none⟩ = some (.string s) := fun k s hk => (((Kp.refl [] w).alloc _).trans hI.kp).cell' (hs k s hk)
        obtain ⟨cap, cur, W1, hr, hcap, hh, hcur, hkp⟩ := run_appN W L hL1 hL sb sc hsW 24
        refine wp_appEq (.const (.slice none 0 0)) (.tmp 13) 24 rfl (by simp [Act.eval]) (by simp [npFrame, Act.eval, d2]) hr ?_
        rw [hK]
        refine ⟨_, cap, ?_, hI.new 3 (by simp) hfj' rfl hkp (by show ∃ cur, _; exact ⟨cur, hh, hcur⟩) (by simp) (fun _ => hcap)⟩
        simp [npFrame, Act.put, d2, hI.no13 (j := 3) (by simp) hfj']
      · simp at ho
        subst ho
        unfold Oper.wp execOp
        simp [npFrame, Act.eval, go_sem]
        rw [hK]
        exact ⟨b, kn, by simp [npFrame], hI.pure (hpure 4 (by decide)) (fun h13 k hk => by have := hI.bd (by simpa using h13) k hk; simp [this])⟩
      · simp at ho
        subst ho
        have d4 := hd { on := 4, ground := .data } (by simp) rfl
        simp only at d4
        unfold Oper.wp execOp
        simp [npFrame, Act.eval, go_sem, d4]
        rw [hK]
        exact ⟨b, kn, by simp [npFrame, d4], hI.pure (hpure 5 (by decide)) (fun h13 k hk => by have := hI.bd (by simpa using h13) k hk; simp [this])⟩
      · simp at ho
        subst ho
        have d5 := hd { on := 5, ground := .data } (by simp) rfl
        simp only at d5
        have hmk := fun n w => run_makeMapL 49 9 3 n w Ybaf.underlying49
        unfold Oper.wp execOp
        simp [npFrame, Act.eval, go_sem, d5, hmk]
        rw [hK]
        refine ⟨_, kn, ?_, hI.new 6 (by simp) hfj' rfl ((Kp.refl [] W).alloc (.map #[] 0)) (by show (W.alloc _).heap[_]? = _; exact heap_new W _) (fun _ => rfl) (by simp)⟩
        simp [npFrame, d5, hI.no13 (j := 6) (by simp) hfj']
      · simp at ho
        subst ho
        unfold Oper.wp execOp
        simp [npFrame, Act.eval, go_sem]
        rw [hK]
        exact ⟨b, kn, by simp [npFrame], hI.pure (hpure 7 (by decide)) (fun h13 k hk => by have := hI.bd (by simpa using h13) k hk; simp [this])⟩
      · simp at ho
        subst ho
        have d7 := hd { on := 7, ground := .data } (by simp) rfl
        simp only at d7
        unfold Oper.wp execOp
        simp [npFrame, Act.eval, go_sem, d7]
        rw [hK]
        exact ⟨b, kn, by simp [npFrame, d7], hI.pure (hpure 8 (by decide)) (fun h13 k hk => by have := hI.bd (by simpa using h13) k hk; simp [this])⟩
      · simp at ho
        subst ho
        have d8 := hd { on := 8, ground := .data } (by simp) rfl
        simp only at d8
        have hmk := fun w => run_make_row' (P := Ybaf.prog) 30 31 (.int .u64 0) 8 Ybaf.underlying30 Ybaf.info31 rfl .i64 .i64 L.length (by omega) (by omega) w
        unfold Oper.wp execOp
        simp [npFrame, Act.eval, go_sem, d8, hmk]
        rw [hK]
        refine ⟨_, kn, ?_, hI.new 9 (by simp) hfj' rfl ((Kp.refl [] W).alloc (.cells (madeCells #[.int .u64 0] L.length) 31)) (by show (W.alloc _).heap[_]? = _; exact heap_new W _) (fun _ => rfl) (by simp)⟩
        simp [npFrame, d8, hI.no13 (j := 9) (by simp) hfj']
      · simp at ho
        subst ho
        unfold Oper.wp execOp
        simp [npFrame, Act.eval, go_sem]
        rw [hK]
        exact ⟨b, kn, by simp [npFrame], hI.pure (hpure 10 (by decide)) (fun h13 k hk => by have := hI.bd (by simpa using h13) k hk; simp [this])⟩
      · simp at ho
        subst ho
        have d10 := hd { on := 10, ground := .data } (by simp) rfl
        simp only at d10
        unfold Oper.wp execOp
        simp [npFrame, Act.eval, go_sem, d10]
        rw [hK]
        exact ⟨b, kn, by simp [npFrame, d10], hI.pure (hpure 11 (by decide)) (fun h13 k hk => by have := hI.bd (by simpa using h13) k hk; simp [this])⟩
      · simp at ho
        subst ho
        have d11 := hd { on := 11, ground := .data } (by simp) rfl
        simp only at d11
        have hmk := fun w => run_make_row' (P := Ybaf.prog) 30 31 (.int .u64 0) 8 Ybaf.underlying30 Ybaf.info31 rfl .i64 .i64 L.length (by omega) (by omega) w
        unfold Oper.wp execOp
        simp [npFrame, Act.eval, go_sem, d11, hmk]
        rw [hK]
        refine ⟨_, kn, ?_, hI.new 12 (by simp) hfj' rfl ((Kp.refl [] W).alloc (.cells (madeCells #[.int .u64 0] L.length) 31)) (by show (W.alloc _).heap[_]? = _; exact heap_new W _) (fun _ => rfl) (by simp)⟩
        simp [npFrame, d11, hI.no13 (j := 12) (by simp) hfj']
      · simp at ho
        subst ho
        have d1 := hd { on := 1, ground := .data } (by simp) rfl
        simp only at d1
        have d3 := hd { on := 3, ground := .data } (by simp) rfl
        simp only at d3
        have d6 := hd { on := 6, ground := .data } (by simp) rfl
        simp only at d6
        have d9 := hd { on := 9, ground := .data } (by simp) rfl
        simp only at d9
        have d12 := hd { on := 12, ground := .data } (by simp) rfl
        simp only at d12
        unfold Oper.wp execOp
        simp [npFrame, Act.eval, go_sem, d1, d3, d6, d9, d12]
        rw [hK]
        exact ⟨b, kn, by simp [npFrame, d1, d3, d6, d9, d12], hI.pure (hpure 13 (by decide)) (fun _ k hk => by simp at hk; rcases hk with rfl | rfl | rfl | rfl | rfl <;> simp [d1, d3, d6, d9, d12])⟩
      · simp at ho
        subst ho
        unfold Oper.wp execOp
        simp [npFrame, go_sem]
        rw [hK]
        refine ⟨_, kn, ?_, hI.new 14 (by simp) hfj' rfl ((Kp.refl [] W).alloc (.cells #[.pointer none, .int .i64 0, .slice none 0 0, .map none, .slice none 0 0, .slice none 0 0] 51)) (by show ∃ cs, _; exact ⟨_, heap_new W _, rfl⟩) (fun _ => rfl) (by simp)⟩
        simp [npFrame]
        rfl
      · simp at ho
        subst ho
        have d13 := hd { on := 13, ground := .data } (by simp) rfl
        have d14 := hd { on := 14, ground := .data } (by simp) rfl
        simp only at d13 d14
        have hall : ∀ j, j ∈ npMem → f j = true := by
          intro j hj
          simp at hj
          rcases hj with rfl | rfl | rfl | rfl | rfl | rfl
          · exact hI.bd d13 1 (by simp)
          · exact hI.bd d13 3 (by simp)
          · exact hI.bd d13 6 (by simp)
          · exact hI.bd d13 9 (by simp)
          · exact hI.bd d13 12 (by simp)
          · exact d14
        obtain ⟨cs, hcs, hsz6⟩ : ∃ cs : Array Value, W.heap[b 14]? = some (.cells cs 51) ∧ cs.size = 6 := (hI.mem 14 (by simp) d14).2
        have hc : ∀ j, j < 6 → ∃ u, W.cell? ⟨b 14, j, none⟩ = some u := fun j hj => ⟨cs[j]'(by omega), cell_at hcs (by simp)⟩
        obtain ⟨x0, e0⟩ := hc 0 (by omega)
        obtain ⟨x1, e1⟩ := hc 1 (by omega)
        obtain ⟨x2, e2⟩ := hc 2 (by omega)
        obtain ⟨x3, e3⟩ := hc 3 (by omega)
        obtain ⟨x4, e4⟩ := hc 4 (by omega)
        obtain ⟨x5, e5⟩ := hc 5 (by omega)
        have hz : ∀ j, W.frozen? ⟨b 14, j, none⟩ = false := fun j => frozen_at hcs
        unfold Oper.wp execOp
        simp [npFrame, Act.eval, go_sem, d13, d14, e0, e1, e2, e3, e4, e5, hz]
        rw [hK]
        have hH := heap_set (i := 5) (.slice (some ⟨b 12, 0, none⟩) L.length L.length) (heap_set (i := 4) (.slice (some ⟨b 9, 0, none⟩) L.length L.length) (heap_set (i := 3) (.map (some (b 6))) (heap_set (i := 2) (.slice (some ⟨b 3, 0, none⟩) L.length kn) (heap_set (i := 1) (.int .i64 (-1)) (heap_set (i := 0) (.pointer (some ⟨b 1, 0, none⟩)) hcs)))))
        have hB : ((((((cs.setIfInBounds 0 (.pointer (some ⟨b 1, 0, none⟩))).setIfInBounds 1 (.int .i64 (-1))).setIfInBounds 2 (.slice (some ⟨b 3, 0, none⟩) L.length kn)).setIfInBounds 3 (.map (some (b 6)))).setIfInBounds 4 (.slice (some ⟨b 9, 0, none⟩) L.length L.length)).setIfInBounds 5 (.slice (some ⟨b 12, 0, none⟩) L.length L.length)) = npBox b L.length kn := by
          obtain ⟨l⟩ := cs
          rcases l with _ | ⟨a0, _ | ⟨a1, _ | ⟨a2, _ | ⟨a3, _ | ⟨a4, _ | ⟨a5, _ | ⟨a6, l⟩⟩⟩⟩⟩⟩⟩ <;> simp at hsz6
          rfl
        rw [hB] at hH
        have KS : Kp [b 14] W _ := (((((((Kp.refl [b 14] W).set (a := ⟨b 14, 0, none⟩) (.inl (by simp)) (.pointer (some ⟨b 1, 0, none⟩))).set (a := ⟨b 14, 1, none⟩) (.inl (by simp)) (.int .i64 (-1))).set (a := ⟨b 14, 2, none⟩) (.inl (by simp)) (.slice (some ⟨b 3, 0, none⟩) L.length kn)).set (a := ⟨b 14, 3, none⟩) (.inl (by simp)) (.map (some (b 6)))).set (a := ⟨b 14, 4, none⟩) (.inl (by simp)) (.slice (some ⟨b 9, 0, none⟩) L.length L.length)).set (a := ⟨b 14, 5, none⟩) (.inl (by simp)) (.slice (some ⟨b 12, 0, none⟩) L.length L.length))
        exact ⟨b, kn, by simp [npFrame, d13, d14], hI.store hall rfl KS hH⟩
  · rintro listed a W hsz ⟨b, kn, rfl, hI⟩ hready
    have hsz16 : listed.size = 16 := by simpa using hsz
    have up : ∀ j, j < 16 → listed.getD j true = true → listed.getD j false = true := by
      intro j hj h
      simpa [Array.getD, hsz16, hj] using h
    have T0 : listed.getD 0 false = true := up 0 (by omega) (hready 0 _ rfl (by
      intro e he _
      have hlt : e.on < 0 ∨ False := by
        first | (exfalso; simp at he; done) | (simp at he; first | (subst he; decide) | (rcases he with rfl | rfl <;> decide) | (rcases he with rfl | rfl | rfl <;> decide) | (rcases he with rfl | rfl | rfl | rfl | rfl <;> decide) | (rcases he with rfl | rfl | rfl | rfl | rfl | rfl | rfl | rfl | rfl | rfl | rfl | rfl | rfl | rfl | rfl | rfl | rfl | rfl <;> decide))
      have hlt2 : e.on < 0 := hlt.resolve_right id
      omega))
    have T1 : listed.getD 1 false = true := up 1 (by omega) (hready 1 _ rfl (by
      intro e he _
      have hlt : e.on < 1 ∨ False := by
        first | (exfalso; simp at he; done) | (simp at he; first | (subst he; decide) | (rcases he with rfl | rfl <;> decide) | (rcases he with rfl | rfl | rfl <;> decide) | (rcases he with rfl | rfl | rfl | rfl | rfl <;> decide) | (rcases he with rfl | rfl | rfl | rfl | rfl | rfl | rfl | rfl | rfl | rfl | rfl | rfl | rfl | rfl | rfl | rfl | rfl | rfl <;> decide))
      have hlt2 : e.on < 1 := hlt.resolve_right id
      rcases (by omega : e.on = 0) with h <;> rw [h]
      · exact T0))
    have T2 : listed.getD 2 false = true := up 2 (by omega) (hready 2 _ rfl (by
      intro e he _
      have hlt : e.on < 2 ∨ False := by
        first | (exfalso; simp at he; done) | (simp at he; first | (subst he; decide) | (rcases he with rfl | rfl <;> decide) | (rcases he with rfl | rfl | rfl <;> decide) | (rcases he with rfl | rfl | rfl | rfl | rfl <;> decide) | (rcases he with rfl | rfl | rfl | rfl | rfl | rfl | rfl | rfl | rfl | rfl | rfl | rfl | rfl | rfl | rfl | rfl | rfl | rfl <;> decide))
      have hlt2 : e.on < 2 := hlt.resolve_right id
      rcases (by omega : e.on = 0 ∨ e.on = 1) with h | h <;> rw [h]
      · exact T0
      · exact T1))
    have T3 : listed.getD 3 false = true := up 3 (by omega) (hready 3 _ rfl (by
      intro e he _
      have hlt : e.on < 3 ∨ False := by
        first | (exfalso; simp at he; done) | (simp at he; first | (subst he; decide) | (rcases he with rfl | rfl <;> decide) | (rcases he with rfl | rfl | rfl <;> decide) | (rcases he with rfl | rfl | rfl | rfl | rfl <;> decide) | (rcases he with rfl | rfl | rfl | rfl | rfl | rfl | rfl | rfl | rfl | rfl | rfl | rfl | rfl | rfl | rfl | rfl | rfl | rfl <;> decide))
      have hlt2 : e.on < 3 := hlt.resolve_right id
      rcases (by omega : e.on = 0 ∨ e.on = 1 ∨ e.on = 2) with h | h | h <;> rw [h]
      · exact T0
      · exact T1
      · exact T2))
    have T4 : listed.getD 4 false = true := up 4 (by omega) (hready 4 _ rfl (by
      intro e he _
      have hlt : e.on < 4 ∨ False := by
        first | (exfalso; simp at he; done) | (simp at he; first | (subst he; decide) | (rcases he with rfl | rfl <;> decide) | (rcases he with rfl | rfl | rfl <;> decide) | (rcases he with rfl | rfl | rfl | rfl | rfl <;> decide) | (rcases he with rfl | rfl | rfl | rfl | rfl | rfl | rfl | rfl | rfl | rfl | rfl | rfl | rfl | rfl | rfl | rfl | rfl | rfl <;> decide))
      have hlt2 : e.on < 4 := hlt.resolve_right id
      rcases (by omega : e.on = 0 ∨ e.on = 1 ∨ e.on = 2 ∨ e.on = 3) with h | h | h | h <;> rw [h]
      · exact T0
      · exact T1
      · exact T2
      · exact T3))
    have T5 : listed.getD 5 false = true := up 5 (by omega) (hready 5 _ rfl (by
      intro e he _
      have hlt : e.on < 5 ∨ False := by
        first | (exfalso; simp at he; done) | (simp at he; first | (subst he; decide) | (rcases he with rfl | rfl <;> decide) | (rcases he with rfl | rfl | rfl <;> decide) | (rcases he with rfl | rfl | rfl | rfl | rfl <;> decide) | (rcases he with rfl | rfl | rfl | rfl | rfl | rfl | rfl | rfl | rfl | rfl | rfl | rfl | rfl | rfl | rfl | rfl | rfl | rfl <;> decide))
      have hlt2 : e.on < 5 := hlt.resolve_right id
      rcases (by omega : e.on = 0 ∨ e.on = 1 ∨ e.on = 2 ∨ e.on = 3 ∨ e.on = 4) with h | h | h | h | h <;> rw [h]
      · exact T0
      · exact T1
      · exact T2
      · exact T3
      · exact T4))
    have T6 : listed.getD 6 false = true := up 6 (by omega) (hready 6 _ rfl (by
      intro e he _
      have hlt : e.on < 6 ∨ False := by
        first | (exfalso; simp at he; done) | (simp at he; first | (subst he; decide) | (rcases he with rfl | rfl <;> decide) | (rcases he with rfl | rfl | rfl <;> decide) | (rcases he with rfl | rfl | rfl | rfl | rfl <;> decide) | (rcases he with rfl | rfl | rfl | rfl | rfl | rfl | rfl | rfl | rfl | rfl | rfl | rfl | rfl | rfl | rfl | rfl | rfl | rfl <;> decide))
      have hlt2 : e.on < 6 := hlt.resolve_right id
      rcases (by omega : e.on = 0 ∨ e.on = 1 ∨ e.on = 2 ∨ e.on = 3 ∨ e.on = 4 ∨ e.on = 5) with h | h | h | h | h | h <;> rw [h]
      · exact T0
      · exact T1
      · exact T2
      · exact T3
      · exact T4
      · exact T5))
    have T7 : listed.getD 7 false = true := up 7 (by omega) (hready 7 _ rfl (by
      intro e he _
      have hlt : e.on < 7 ∨ False := by
        first | (exfalso; simp at he; done) | (simp at he; first | (subst he; decide) | (rcases he with rfl | rfl <;> decide) | (rcases he with rfl | rfl | rfl <;> decide) | (rcases he with rfl | rfl | rfl | rfl | rfl <;> decide) | (rcases he with rfl | rfl | rfl | rfl | rfl | rfl | rfl | rfl | rfl | rfl | rfl | rfl | rfl | rfl | rfl | rfl | rfl | rfl <;> decide))
      have hlt2 : e.on < 7 := hlt.resolve_right id
      rcases (by omega : e.on = 0 ∨ e.on = 1 ∨ e.on = 2 ∨ e.on = 3 ∨ e.on = 4 ∨ e.on = 5 ∨ e.on = 6) with h | h | h | h | h | h | h <;> rw [h]
      · exact T0
      · exact T1
      · exact T2
      · exact T3
      · exact T4
      · exact T5
      · exact T6))
    have T8 : listed.getD 8 false = true := up 8 (by omega) (hready 8 _ rfl (by
      intro e he _
      have hlt : e.on < 8 ∨ False := by
        first | (exfalso; simp at he; done) | (simp at he; first | (subst he; decide) | (rcases he with rfl | rfl <;> decide) | (rcases he with rfl | rfl | rfl <;> decide) | (rcases he with rfl | rfl | rfl | rfl | rfl <;> decide) | (rcases he with rfl | rfl | rfl | rfl | rfl | rfl | rfl | rfl | rfl | rfl | rfl | rfl | rfl | rfl | rfl | rfl | rfl | rfl <;> decide))
      have hlt2 : e.on < 8 := hlt.resolve_right id
      rcases (by omega : e.on = 0 ∨ e.on = 1 ∨ e.on = 2 ∨ e.on = 3 ∨ e.on = 4 ∨ e.on = 5 ∨ e.on = 6 ∨ e.on = 7) with h | h | h | h | h | h | h | h <;> rw [h]
      · exact T0
      · exact T1
      · exact T2
      · exact T3
      · exact T4
      · exact T5
      · exact T6
      · exact T7))
    have T9 : listed.getD 9 false = true := up 9 (by omega) (hready 9 _ rfl (by
      intro e he _
      have hlt : e.on < 9 ∨ False := by
        first | (exfalso; simp at he; done) | (simp at he; first | (subst he; decide) | (rcases he with rfl | rfl <;> decide) | (rcases he with rfl | rfl | rfl <;> decide) | (rcases he with rfl | rfl | rfl | rfl | rfl <;> decide) | (rcases he with rfl | rfl | rfl | rfl | rfl | rfl | rfl | rfl | rfl | rfl | rfl | rfl | rfl | rfl | rfl | rfl | rfl | rfl <;> decide))
      have hlt2 : e.on < 9 := hlt.resolve_right id
      rcases (by omega : e.on = 0 ∨ e.on = 1 ∨ e.on = 2 ∨ e.on = 3 ∨ e.on = 4 ∨ e.on = 5 ∨ e.on = 6 ∨ e.on = 7 ∨ e.on = 8) with h | h | h | h | h | h | h | h | h <;> rw [h]
      · exact T0
      · exact T1
      · exact T2
      · exact T3
      · exact T4
      · exact T5
      · exact T6
      · exact T7
      · exact T8))
    have T10 : listed.getD 10 false = true := up 10 (by omega) (hready 10 _ rfl (by
      intro e he _
      have hlt : e.on < 10 ∨ False := by
        first | (exfalso; simp at he; done) | (simp at he; first | (subst he; decide) | (rcases he with rfl | rfl <;> decide) | (rcases he with rfl | rfl | rfl <;> decide) | (rcases he with rfl | rfl | rfl | rfl | rfl <;> decide) | (rcases he with rfl | rfl | rfl | rfl | rfl | rfl | rfl | rfl | rfl | rfl | rfl | rfl | rfl | rfl | rfl | rfl | rfl | rfl <;> decide))
      have hlt2 : e.on < 10 := hlt.resolve_right id
      rcases (by omega : e.on = 0 ∨ e.on = 1 ∨ e.on = 2 ∨ e.on = 3 ∨ e.on = 4 ∨ e.on = 5 ∨ e.on = 6 ∨ e.on = 7 ∨ e.on = 8 ∨ e.on = 9) with h | h | h | h | h | h | h | h | h | h <;> rw [h]
      · exact T0
      · exact T1
      · exact T2
      · exact T3
      · exact T4
      · exact T5
      · exact T6
      · exact T7
      · exact T8
      · exact T9))
    have T11 : listed.getD 11 false = true := up 11 (by omega) (hready 11 _ rfl (by
      intro e he _
      have hlt : e.on < 11 ∨ False := by
        first | (exfalso; simp at he; done) | (simp at he; first | (subst he; decide) | (rcases he with rfl | rfl <;> decide) | (rcases he with rfl | rfl | rfl <;> decide) | (rcases he with rfl | rfl | rfl | rfl | rfl <;> decide) | (rcases he with rfl | rfl | rfl | rfl | rfl | rfl | rfl | rfl | rfl | rfl | rfl | rfl | rfl | rfl | rfl | rfl | rfl | rfl <;> decide))
      have hlt2 : e.on < 11 := hlt.resolve_right id
      rcases (by omega : e.on = 0 ∨ e.on = 1 ∨ e.on = 2 ∨ e.on = 3 ∨ e.on = 4 ∨ e.on = 5 ∨ e.on = 6 ∨ e.on = 7 ∨ e.on = 8 ∨ e.on = 9 ∨ e.on = 10) with h | h | h | h | h | h | h | h | h | h | h <;> rw [h]
      · exact T0
      · exact T1
      · exact T2
      · exact T3
      · exact T4
      · exact T5
      · exact T6
      · exact T7
      · exact T8
      · exact T9
      · exact T10))
    have T12 : listed.getD 12 false = true := up 12 (by omega) (hready 12 _ rfl (by
      intro e he _
      have hlt : e.on < 12 ∨ False := by
        first | (exfalso; simp at he; done) | (simp at he; first | (subst he; decide) | (rcases he with rfl | rfl <;> decide) | (rcases he with rfl | rfl | rfl <;> decide) | (rcases he with rfl | rfl | rfl | rfl | rfl <;> decide) | (rcases he with rfl | rfl | rfl | rfl | rfl | rfl | rfl | rfl | rfl | rfl | rfl | rfl | rfl | rfl | rfl | rfl | rfl | rfl <;> decide))
      have hlt2 : e.on < 12 := hlt.resolve_right id
      rcases (by omega : e.on = 0 ∨ e.on = 1 ∨ e.on = 2 ∨ e.on = 3 ∨ e.on = 4 ∨ e.on = 5 ∨ e.on = 6 ∨ e.on = 7 ∨ e.on = 8 ∨ e.on = 9 ∨ e.on = 10 ∨ e.on = 11) with h | h | h | h | h | h | h | h | h | h | h | h <;> rw [h]
      · exact T0
      · exact T1
      · exact T2
      · exact T3
      · exact T4
      · exact T5
      · exact T6
      · exact T7
      · exact T8
      · exact T9
      · exact T10
      · exact T11))
    have T13 : listed.getD 13 false = true := up 13 (by omega) (hready 13 _ rfl (by
      intro e he _
      have hlt : e.on < 13 ∨ False := by
        first | (exfalso; simp at he; done) | (simp at he; first | (subst he; decide) | (rcases he with rfl | rfl <;> decide) | (rcases he with rfl | rfl | rfl <;> decide) | (rcases he with rfl | rfl | rfl | rfl | rfl <;> decide) | (rcases he with rfl | rfl | rfl | rfl | rfl | rfl | rfl | rfl | rfl | rfl | rfl | rfl | rfl | rfl | rfl | rfl | rfl | rfl <;> decide))
      have hlt2 : e.on < 13 := hlt.resolve_right id
      rcases (by omega : e.on = 0 ∨ e.on = 1 ∨ e.on = 2 ∨ e.on = 3 ∨ e.on = 4 ∨ e.on = 5 ∨ e.on = 6 ∨ e.on = 7 ∨ e.on = 8 ∨ e.on = 9 ∨ e.on = 10 ∨ e.on = 11 ∨ e.on = 12) with h | h | h | h | h | h | h | h | h | h | h | h | h <;> rw [h]
      · exact T0
      · exact T1
      · exact T2
      · exact T3
      · exact T4
      · exact T5
      · exact T6
      · exact T7
      · exact T8
      · exact T9
      · exact T10
      · exact T11
      · exact T12))
    have T14 : listed.getD 14 false = true := up 14 (by omega) (hready 14 _ rfl (by
      intro e he _
      have hlt : e.on < 14 ∨ False := by
        first | (exfalso; simp at he; done) | (simp at he; first | (subst he; decide) | (rcases he with rfl | rfl <;> decide) | (rcases he with rfl | rfl | rfl <;> decide) | (rcases he with rfl | rfl | rfl | rfl | rfl <;> decide) | (rcases he with rfl | rfl | rfl | rfl | rfl | rfl | rfl | rfl | rfl | rfl | rfl | rfl | rfl | rfl | rfl | rfl | rfl | rfl <;> decide))
      have hlt2 : e.on < 14 := hlt.resolve_right id
      rcases (by omega : e.on = 0 ∨ e.on = 1 ∨ e.on = 2 ∨ e.on = 3 ∨ e.on = 4 ∨ e.on = 5 ∨ e.on = 6 ∨ e.on = 7 ∨ e.on = 8 ∨ e.on = 9 ∨ e.on = 10 ∨ e.on = 11 ∨ e.on = 12 ∨ e.on = 13) with h | h | h | h | h | h | h | h | h | h | h | h | h | h <;> rw [h]
      · exact T0
      · exact T1
      · exact T2
      · exact T3
      · exact T4
      · exact T5
      · exact T6
      · exact T7
      · exact T8
      · exact T9
      · exact T10
      · exact T11
      · exact T12
      · exact T13))
    have T15 : listed.getD 15 false = true := up 15 (by omega) (hready 15 _ rfl (by
      intro e he _
      have hlt : e.on < 15 ∨ False := by
        first | (exfalso; simp at he; done) | (simp at he; first | (subst he; decide) | (rcases he with rfl | rfl <;> decide) | (rcases he with rfl | rfl | rfl <;> decide) | (rcases he with rfl | rfl | rfl | rfl | rfl <;> decide) | (rcases he with rfl | rfl | rfl | rfl | rfl | rfl | rfl | rfl | rfl | rfl | rfl | rfl | rfl | rfl | rfl | rfl | rfl | rfl <;> decide))
      have hlt2 : e.on < 15 := hlt.resolve_right id
      rcases (by omega : e.on = 0 ∨ e.on = 1 ∨ e.on = 2 ∨ e.on = 3 ∨ e.on = 4 ∨ e.on = 5 ∨ e.on = 6 ∨ e.on = 7 ∨ e.on = 8 ∨ e.on = 9 ∨ e.on = 10 ∨ e.on = 11 ∨ e.on = 12 ∨ e.on = 13 ∨ e.on = 14) with h | h | h | h | h | h | h | h | h | h | h | h | h | h | h <;> rw [h]
      · exact T0
      · exact T1
      · exact T2
      · exact T3
      · exact T4
      · exact T5
      · exact T6
      · exact T7
      · exact T8
      · exact T9
      · exact T10
      · exact T11
      · exact T12
      · exact T13
      · exact T14))
    have T : ∀ j, j < 16 → listed.getD j false = true := by
      intro j hj
      rcases (by omega : j = 0 ∨ j = 1 ∨ j = 2 ∨ j = 3 ∨ j = 4 ∨ j = 5 ∨ j = 6 ∨ j = 7 ∨ j = 8 ∨ j = 9 ∨ j = 10 ∨ j = 11 ∨ j = 12 ∨ j = 13 ∨ j = 14 ∨ j = 15) with rfl | rfl | rfl | rfl | rfl | rfl | rfl | rfl | rfl | rfl | rfl | rfl | rfl | rfl | rfl | rfl
      · exact T0
      · exact T1
      · exact T2
      · exact T3
      · exact T4
      · exact T5
      · exact T6
      · exact T7
      · exact T8
      · exact T9
      · exact T10
      · exact T11
      · exact T12
      · exact T13
      · exact T14
      · exact T15
    have hf : (fun k => listed.getD k false) = fun k => decide (k < 16) := by
      funext k
      by_cases hk : k < 16
      · rw [T k hk]; simp [hk]
      · simp [Array.getD, hsz16, hk]
    rw [hf] at hI ⊢
    have H1 : W.heap[b 1]? = some (.cells #[.string nm, .int .i32 0, .int .u32 0, .int .u64 0] 99) := (hI.mem 1 (by simp) rfl).2
    obtain ⟨cn, H3, H3'⟩ : ∃ cur : Array Value, W.heap[b 3]? = some (.cells cur 9) ∧ ∀ (k : Nat) (s : ByteArray), L[k]? = some s → cur[k]? = some (Value.string s) := (hI.mem 3 (by simp) rfl).2
    have H6 : W.heap[b 6]? = some (.map #[] 0) := (hI.mem 6 (by simp) rfl).2
    have H9 : W.heap[b 9]? = some (.cells (madeCells #[.int .u64 0] L.length) 31) := (hI.mem 9 (by simp) rfl).2
    have H12 : W.heap[b 12]? = some (.cells (madeCells #[.int .u64 0] L.length) 31) := (hI.mem 12 (by simp) rfl).2
    have H14 := (hI.st rfl).2
    have hkn := hI.cap rfl
    have hle := fun j hj => (hI.mem j hj (by simp at hj; rcases hj with rfl | rfl | rfl | rfl | rfl | rfl <;> rfl)).1
    have hne := fun j k hj hk => hI.ne j k hj hk (by simp at hj; rcases hj with rfl | rfl | rfl | rfl | rfl | rfl <;> rfl) (by simp at hk; rcases hk with rfl | rfl | rfl | rfl | rfl | rfl <;> rfl)
    have hkp := hI.kp
    clear hI hready up T hf T0 T1 T2 T3 T4 T5 T6 T7 T8 T9 T10 T11 T12 T13 T14 T15
    simp [npFrame]
    have HLk : Hid3 (∀ k, k < L.length → L[k]? = some (nmA k)) := fun k hk => by
      have h : L = _ := hLL
      rw [h]
      simp [hk]
    have HNk : Hid3 (∀ k, k < L.length → cn[k]? = some (.string (nmA k))) := fun k hk => H3' k (nmA k) (HLk k hk)
    have en : nm = nmA me := hnm
    clear hLL hnm H3' HLk
    subst en
    simp only [World.size_alloc] at hle
    have l14 := hle 14 (by simp)
    have l6 := hle 6 (by simp)
    have n614 : b 6 ≠ b 14 := hne 6 14 (by simp) (by simp) (by decide)
    have n314 : b 3 ≠ b 14 := hne 3 14 (by simp) (by simp) (by decide)
    have n36 : b 3 ≠ b 6 := hne 3 6 (by simp) (by simp) (by decide)
    have hl6 := heap_lt H6
    have hl14 := heap_lt H14
    have p2 := cell_at (i := 2) (v := .slice (some ⟨b 3, 0, none⟩) L.length kn) H14 rfl
    have KR : Kp [] w W := ((Kp.refl [] w).alloc _).trans hkp
    have hR0 := hkp.heap (heap_new w _) (by simp)
    go_wp2_with fail
    go_loopw [28] (fun vi wr => ∃ k : Nat, k ≤ L.length ∧ vi = .int .i64 k ∧ Kp [b 6, b 14] W wr ∧ wr.heap[b 6]? = some (.map (entS (fun k => .int .i64 (k : Int)) 0 (List.range k)).toArray k) ∧ wr.heap[b 14]? = some (.cells (boxA b L.length kn (if me < k then (me : Int) else -1)) 51)) (fun vi _ => L.length - (intOf vi).toNat)
    case atStart => exact ⟨0, Nat.zero_le _, rfl, Kp.refl _ W, by simpa [entS] using H6, by simpa using H14⟩
    case round =>
      obtain ⟨k, hk, rfl, kr, h6, h14⟩ := hrel
      have q3 := cell_at (i := 3) (v := .map (some (b 6))) h14 rfl
      by_cases hlt : k < L.length
      · have H3r := kr.heap H3 (by simp; exact ⟨n36, n314⟩)
        have c1 := cell_at (i := k) H3r (HNk k hlt)
        have hf := findS_miss (fun k => .int .i64 (k : Int)) k (by omega) (List.range k) (fun x hx => by simp at hx; omega) (by simp) 0 0
        have hlk := run_look_miss 49 9 3 Ybaf.underlying49 Ybaf.underlying9 h6 (nmA k) (.int .i64 0) (by kernel_rfl) hf true
        have hst := run_store_miss 49 9 3 Ybaf.underlying49 Ybaf.underlying9 h6 (nmA k) (.int .i64 (k : Int)) hf
        have hpush : ((entS (fun k => Value.int .i64 (k : Int)) 0 (List.range k)).toArray.push { key := .string (nmA k), val := .int .i64 (k : Int), born := k }) = (entS (fun k => Value.int .i64 (k : Int)) 0 (List.range (k + 1))).toArray := by
          rw [List.range_succ, entS_push]
          simp
        rw [hpush] at hst
        obtain ⟨wq, hwq⟩ : ∃ y, y = setO wr (b 6) (.map (entS (fun k => Value.int .i64 (k : Int)) 0 (List.range (k + 1))).toArray (k + 1)) := ⟨_, rfl⟩
        rw [← hwq] at hst
        have kq : Kp [b 6] wr wq := by rw [hwq]; exact (Kp.refl _ wr).setO (.inl (by simp)) _
        have hq6 : wq.heap[b 6]? = some (.map (entS (fun k => Value.int .i64 (k : Int)) 0 (List.range (k + 1))).toArray (k + 1)) := by rw [hwq]; exact setO_same _ (heap_lt h6)
        have hq14 := kq.heap h14 (by simp; exact n614.symm)
        have Kq : Kp [b 6, b 14] W wq := kr.trans (kq.mono (by simp))
        clear hwq hpush hf
        simp only [if_true] at hlk
        have hne1 := nmA_list k (by omega) me (by omega)
        by_cases e : k = me
        · subst e
          have hne2 : ((nmA k).toList == (nmA k).toList) = true := by simp
          have z1 := cell_at (i := 1) (v := .int .i64 (-1)) hq14 (by simp)
          have f1 := frozen_at (i := 1) hq14
          clear hne1
          generalize hsx : nmA k = sx at c1 hlk hst hne2 ⊢
          go_wp2
          go_roundw
          case rel =>
            refine ⟨k + 1, by omega, by go_num, Kq.set (a := ⟨b 14, 1, none⟩) (.inl (by simp)) _, (Below.heap_setCell _ _ _ _ n614).trans hq6, ?_⟩
            refine (heap_set (i := 1) _ hq14).trans ?_
            simp
          case measure => simp [intOf]; omega
        · have hne2 : ((nmA k).toList == (nmA me).toList) = false := by rw [hne1]; simpa using e
          have hne3 : ¬ (nmA k).toList = (nmA me).toList := by simpa using hne2
          clear hne1
          generalize hsx : nmA k = sx at c1 hlk hst hne2 hne3
          generalize hsm : nmA me = sm at hne2 hne3 ⊢
          go_wp2
          go_roundw
          case rel =>
            refine ⟨k + 1, by omega, by go_num, Kq, hq6, ?_⟩
            rw [hq14]
            by_cases h1 : me < k
            · simp [h1, show me < k + 1 by omega]
            · simp [h1, show ¬ me < k + 1 by omega]
          case measure => simp [intOf]; omega
      · have hke : k = L.length := by omega
        rw [hke] at h6 h14
        rw [if_pos hme] at h14
        have hlr : w.heap.size ∉ [b 6, b 14] := by simp; omega
        have hRr := kr.heap hR0 hlr
        have d0 := cell_at (i := 0) (v := .pointer (some ⟨b 1, 0, none⟩)) h14 rfl
        have d1 := cell_at (i := 1) (v := .int .i64 (me : Int)) h14 rfl
        have d2 := cell_at (i := 2) (v := .slice (some ⟨b 3, 0, none⟩) L.length kn) h14 rfl
        have d3 := cell_at (i := 3) (v := .map (some (b 6))) h14 rfl
        have d4 := cell_at (i := 4) (v := .slice (some ⟨b 9, 0, none⟩) L.length L.length) h14 rfl
        have d5 := cell_at (i := 5) (v := .slice (some ⟨b 12, 0, none⟩) L.length L.length) h14 rfl
        have r0 := cell_at (i := 0) (v := .pointer none) hRr rfl
        have r1 := cell_at (i := 1) (v := .int .i64 0) hRr rfl
        have r2 := cell_at (i := 2) (v := .slice none 0 0) hRr rfl
        have r3 := cell_at (i := 3) (v := .map none) hRr rfl
        have r4 := cell_at (i := 4) (v := .slice none 0 0) hRr rfl
        have r5 := cell_at (i := 5) (v := .slice none 0 0) hRr rfl
        have rf0 := frozen_at (i := 0) hRr
        have rf1 := frozen_at (i := 1) hRr
        have rf2 := frozen_at (i := 2) hRr
        have rf3 := frozen_at (i := 3) hRr
        have rf4 := frozen_at (i := 4) hRr
        have rf5 := frozen_at (i := 5) hRr
        have hlRr := heap_lt hRr
        have dm : decide ((me : Int) < 0) = false := by simp
        go_wp2
        have hS0 := heap_set (i := 0) (.pointer (some ⟨b 1, 0, none⟩)) hRr
        have hS1 := heap_set (i := 1) (.int .i64 (me : Int)) hS0
        have hS2 := heap_set (i := 2) (.slice (some ⟨b 3, 0, none⟩) L.length kn) hS1
        have hS3 := heap_set (i := 3) (.map (some (b 6))) hS2
        have hS4 := heap_set (i := 4) (.slice (some ⟨b 9, 0, none⟩) L.length L.length) hS3
        have hS5 := heap_set (i := 5) (.slice (some ⟨b 12, 0, none⟩) L.length L.length) hS4
        have kS0 := Kp.set (a := ⟨w.heap.size, 0, none⟩) (Kp.refl [w.heap.size] wr) (.inl (by simp)) (.pointer (some ⟨b 1, 0, none⟩))
        have kS1 := Kp.set (a := ⟨w.heap.size, 1, none⟩) kS0 (.inl (by simp)) (.int .i64 (me : Int))
        have kS2 := Kp.set (a := ⟨w.heap.size, 2, none⟩) kS1 (.inl (by simp)) (.slice (some ⟨b 3, 0, none⟩) L.length kn)
        have kS3 := Kp.set (a := ⟨w.heap.size, 3, none⟩) kS2 (.inl (by simp)) (.map (some (b 6)))
        have kS4 := Kp.set (a := ⟨w.heap.size, 4, none⟩) kS3 (.inl (by simp)) (.slice (some ⟨b 9, 0, none⟩) L.length L.length)
        have kS5 := Kp.set (a := ⟨w.heap.size, 5, none⟩) kS4 (.inl (by simp)) (.slice (some ⟨b 12, 0, none⟩) L.length L.length)
        generalize (((((wr.setCell ⟨w.heap.size, 0, none⟩ (.pointer (some ⟨b 1, 0, none⟩))).setCell ⟨w.heap.size, 1, none⟩ (.int .i64 (me : Int))).setCell ⟨w.heap.size, 2, none⟩ (.slice (some ⟨b 3, 0, none⟩) L.length kn)).setCell ⟨w.heap.size, 3, none⟩ (.map (some (b 6)))).setCell ⟨w.heap.size, 4, none⟩ (.slice (some ⟨b 9, 0, none⟩) L.length L.length)).setCell ⟨w.heap.size, 5, none⟩ (.slice (some ⟨b 12, 0, none⟩) L.length L.length) = W4 at hS5 kS5 ⊢
        have z0 := cell_at (i := 0) (v := (.pointer (some ⟨b 1, 0, none⟩))) hS5 rfl
        have z1 := cell_at (i := 1) (v := (.int .i64 (me : Int))) hS5 rfl
        have z2 := cell_at (i := 2) (v := (.slice (some ⟨b 3, 0, none⟩) L.length kn)) hS5 rfl
        have z3 := cell_at (i := 3) (v := (.map (some (b 6)))) hS5 rfl
        have z4 := cell_at (i := 4) (v := (.slice (some ⟨b 9, 0, none⟩) L.length L.length)) hS5 rfl
        have z5 := cell_at (i := 5) (v := (.slice (some ⟨b 12, 0, none⟩) L.length L.length)) hS5 rfl
        have KF : Kp [b 6, b 14, w.heap.size] W W4 := (kr.mono (by simp)).trans (kS5.mono (by simp))
        have nF : ∀ j, j ∈ npMem → j ≠ 6 → j ≠ 14 → b j ∉ [b 6, b 14, w.heap.size] := fun j hj h1 h2 => by
          have a1 := hne j 6 hj (by simp) h1
          have a2 := hne j 14 hj (by simp) h2
          have a3 := hle j hj
          simp only [List.mem_cons, List.not_mem_nil, or_false, not_or]
          exact ⟨a1, a2, by omega⟩
        have G1 := KF.heap H1 (nF 1 (by simp) (by decide) (by decide))
        have G3 := KF.heap H3 (nF 3 (by simp) (by decide) (by decide))
        have G6 := kS5.heap h6 (by simp; omega)
        have G12 := KF.heap H12 (nF 12 (by simp) (by decide) (by decide))
        rw [made_rep] at G12
        refine bodyPost_ret (v := .tuple #[.agg #[.pointer (some ⟨b 1, 0, none⟩), .int .i64 (me : Int), .slice (some ⟨b 3, 0, none⟩) L.length kn, .map (some (b 6)), .slice (some ⟨b 9, 0, none⟩) L.length L.length, .slice (some ⟨b 12, 0, none⟩) L.length L.length], .nilIface]) (by simp [results, Ybaf.results15, go_sem, z0, z1, z2, z3, z4, z5]) rfl ⟨b 1, b 3, b 6, b 9, b 12, kn, rfl, ?_, G1, ?_, G6, ?_, ?_, ?_⟩
        · refine KR.trans2' KF fun c hc => ?_
          simp only [List.mem_cons, List.not_mem_nil, or_false] at hc
          rcases hc with rfl | rfl | rfl <;> omega
        · intro j x hj
          have hjl : j < L.length := by have := (List.getElem?_eq_some_iff.1 hj).1; simpa using this
          have hx : x = j := by
            rw [List.getElem?_eq_getElem (by simpa using hjl)] at hj
            simpa using hj.symm
          rw [hx]
          exact cell_at G3 (HNk j hjl)
        · rw [G12, rowU]
          simp
        · have e1 := hne 1 3 (by simp) (by simp) (by decide)
          have e2 := hne 1 6 (by simp) (by simp) (by decide)
          have e4 := hne 1 12 (by simp) (by simp) (by decide)
          have e5 := hne 3 6 (by simp) (by simp) (by decide)
          have e7 := hne 3 12 (by simp) (by simp) (by decide)
          have e9 := hne 6 12 (by simp) (by simp) (by decide)
          simp [e1, e2, e4, e5, e7, e9]
        · intro c hc
          simp only [List.mem_cons, List.not_mem_nil, or_false] at hc
          have g1 := hle 1 (by simp)
          have g3 := hle 3 (by simp)
          have g12 := hle 12 (by simp)
          have u1 := heap_lt G1
          have u3 := heap_lt G3
          have u6 := heap_lt G6
          have u12 := heap_lt G12
          rcases hc with rfl | rfl | rfl | rfl <;> omega

end Go.Proofs.YbulkbxpiFmt
