/-
  'newPeers': its first statement draws the order of six operations that make memory: by the invariant law.
-/
import Derived.Test.YbulkbxpiFmtNi
import Derived.Deep.CutRange
namespace Go.Proofs.YbulkbxpiFmt
open Go.RowKit Go.MuLone

/-- A fact kept from the walk's eyes. -/
def Hid3 (p : Prop) : Prop := p

theorem Ybaf.info9 : (Ybaf.prog.info? 9).map (fun i => (i.zero, i.size, i.bytes)) = some (some (.string ⟨#[]⟩), 1, 16) := by kernel_rfl
theorem Ybaf.info31 : (Ybaf.prog.info? 31).map (fun i => (i.zero, i.size, i.bytes)) = some (some (.int .u64 0), 1, 8) := by kernel_rfl

set_option maxRecDepth 100000 in
theorem newClock_c (nm : ByteArray) (w : World) : Calls Ybaf.prog 34 #[.string nm] w fun e w' => e = .returned (.pointer (some ⟨w.heap.size, 0, none⟩)) ∧ w' = w.alloc (.cells #[.string nm, .int .i32 0, .int .u32 0, .int .u64 0] 99) := by
  go_enter Ybaf.func34, Ybaf.ntmps34
  go_wp2
  go_ret
  exact ⟨rfl, rfl⟩

theorem Kp.cell' {x y : World} (h : Kp [] x y) {p : Addr} {u : Value} (hv : x.cell? p = some u) : y.cell? p = some u :=
  (World.cell?_of_block (w := x) (h.block p.block (World.block_lt_of_cell? x p hv) (by simp))).trans hv

theorem run_makeMapL (t k e : TypeId) (n : Int) (w : World) (ht : Ybaf.prog.underlying t = some (.map k e)) : (Instr.makeMap t (some (.int .i64 n))).run Ybaf.prog w = .ok (.map (some w.heap.size)) (w.alloc (.map #[] 0)) := by
  simp [Instr.makeMap, run_underlying ht, asInt, asIntOf]

theorem setf (listed : Array Bool) (j : Nat) (hj : listed.getD j true = false) : (fun k => (listed.setIfInBounds j true).getD k false) = fun k => if k = j then true else listed.getD k false := by
  obtain ⟨hlt, _⟩ := getD_lt hj
  funext k
  by_cases e : k = j
  · subst e; simp [Array.getD, hlt]
  · simp only [e, if_false]; exact getD_set_ne false (Ne.symm e)
theorem getf {listed : Array Bool} {j : Nat} (hj : listed.getD j true = false) : listed.getD j false = false := by
  obtain ⟨hlt, he⟩ := getD_lt hj
  simp [Array.getD, hlt, he]

theorem run_appN (W : World) (L : List ByteArray) (hL1 : 1 ≤ L.length) (hL : L.length ≤ 1024) (sb sc : Nat) (hs : ∀ (k : Nat) (s : ByteArray), L[k]? = some s → W.cell? ⟨sb, k, none⟩ = some (.string s)) (ty : TypeId) :
    ∃ cap cur W', (Builtin.append_ #[24, 24] ty #[.slice none 0 0, .slice (some ⟨sb, 0, none⟩) L.length sc]).run Ybaf.prog W = .ok (.slice (some ⟨W.heap.size, 0, none⟩) L.length cap) W' ∧ L.length ≤ cap ∧ W'.heap[W.heap.size]? = some (.cells cur 9) ∧ (∀ (k : Nat) (s : ByteArray), L[k]? = some s → cur[k]? = some (Value.string s)) ∧ Kp [] W W' := by
  obtain ⟨i, hi, hz0, hz1, hz2⟩ := info_parts Ybaf.info9
  obtain ⟨v', w', hr, hown, hgrow, hnil, hloc⟩ := run_append_own_at (P := Ybaf.prog) (w := W) 0 24 ty 9 i (.string ⟨#[]⟩) 1 16 Ybaf.underlying24 hi hz0 hz1 hz2 rfl (by decide) (.slice none 0 0) 0 [] ⟨by simp, .inl ⟨rfl, rfl⟩⟩ ⟨sb, 0, none⟩ L.length sc (L.map Value.string) (by simp)
    (fun j u hj => by
      have : (⟨sb, 0, none⟩ : Addr).add j = ⟨sb, j, none⟩ := by unfold Addr.add; split <;> simp_all
      rw [this]
      rw [List.getElem?_map] at hj
      obtain ⟨s, h1, rfl⟩ := Option.map_eq_some_iff.1 hj
      exact hs j s h1) (by intro u hu; obtain ⟨s, _, rfl⟩ := List.mem_map.1 hu; rfl) (by unfold maxLen; omega) (by omega) (Nat.zero_le _)
  rcases hown.2 with ⟨h', _⟩ | ⟨g, cap, cur, rfl, _, hg, h2, h3, h4, h5⟩
  · have := hnil.1 h'; omega
  · have hgw : g = W.heap.size := by
      rcases hloc with h | h
      · simp [Value.ownBlock] at h
      · simpa [Value.ownBlock] using h
    subst hgw
    refine ⟨cap, cur, w', by simpa using hr, by omega, hg, fun k s hk => ?_, ⟨hgrow.os, hgrow.tape, hgrow.output, hgrow.size, fun k hk _ => hgrow.block k hk (by simp [Value.ownBlock])⟩⟩
    have hkl : k < L.length := (List.getElem?_eq_some_iff.1 hk).1
    have : (cur.toList.take ((0 + L.length) * 1))[k]? = some (.string s) := by
      rw [h5]; simp [hk]
    rw [List.getElem?_take_of_lt (by omega)] at this
    simpa using this

theorem Kp.trans2' {bs : List Nat} {x y z : World} (h : Kp [] x y) (k : Kp bs y z) (hb : ∀ b ∈ bs, x.heap.size ≤ b) : Kp [] x z :=
  ⟨k.os.trans h.os, k.tape.trans h.tape, k.output.trans h.output, Nat.le_trans h.size k.size, fun i hi hn => (k.block i (Nat.lt_of_lt_of_le hi h.size) (fun e => by have := hb i e; omega)).trans (h.block i hi hn)⟩

theorem made3 : madeCells #[Value.int .u64 0] 3 = rowU [0, 0, 0] := by
  apply Array.ext'
  simp [madeCells, List.range, List.range.loop]

theorem wp_appEq {P : Program} {o : Oper} {a : Act} {w W' : World} {K : Act → World → Prop} {Q : Exit → Act → World → Prop} (s x : Operand) (t : TypeId) (ho : o.op = .call { callee := .builtin .append, args := #[s, x], argTypes := #[t, t] }) {v1 v2 v : Value} (h1 : a.eval s = v1) (h2 : a.eval x = v2)
    (hr : (Builtin.append_ #[t, t] o.type #[v1, v2]).run P w = .ok v W') (h : K (a.put o.dst v) W') : Oper.wp P o a w K Q := by
  unfold Oper.wp execOp
  simp only [ho, resolve, invoke, builtin, Sem.run_bind, Sem.run_pure, Result.andThen_ok, List.map_toArray, List.map_cons, List.map_nil, h1, h2, hr]
  exact h

theorem wpOp_do {P : Program} {ops : Array Oper} {Q : Exit → Act → World → Prop} {j : Nat} {o : Oper} {K : Act → World → Prop} {a : Act} {w : World} (ho : ops[j]? = some o) (hg : o.guard = none) (h : o.wp P a w K Q) : wpOp P ops Q j K a w := by
  unfold wpOp
  rw [ho]
  simp only [Region.wanted, hg, if_true]
  exact .inl h
theorem getD_rep (n j : Nat) : (Array.replicate n false).getD j false = false := by
  unfold Array.getD
  split <;> simp

set_option maxRecDepth 100000 in
set_option maxHeartbeats 1000000 in
theorem newPeers_c (w : World) (nm : ByteArray) (L : List ByteArray) (sb sc : Nat) (hs : ∀ (k : Nat) (s : ByteArray), L[k]? = some s → w.cell? ⟨sb, k, none⟩ = some (.string s)) (hL1 : 1 ≤ L.length) (hL : L.length ≤ 1024) (hLL : Hid3 (L = [P0, P1, P2])) (hnm : Hid3 (nm = P0)) :
    Calls Ybaf.prog 15 #[.string nm, .slice (some ⟨sb, 0, none⟩) L.length sc] w fun e w' => ∃ C N X Hd Td kn cn, e = .returned (.tuple #[.agg #[.pointer (some ⟨C, 0, none⟩), .int .i64 0, .slice (some ⟨N, 0, none⟩) 3 kn, .map (some X), .slice (some ⟨Hd, 0, none⟩) 3 3, .slice (some ⟨Td, 0, none⟩) 3 3], .nilIface]) ∧ Kp [] w w' ∧
      Clk C P0 0 w' ∧ w'.heap[N]? = some (.cells cn 9) ∧ cn[0]? = some (.string P0) ∧ w'.heap[X]? = some (.map idx3 3) ∧ w'.heap[Hd]? = some (.cells (rowU [0, 0, 0]) 31) ∧ w'.heap[Td]? = some (.cells (rowU [0, 0, 0]) 31) ∧ [C, N, X, Hd, Td].Nodup ∧ (∀ b ∈ [C, N, X, Hd, Td], w.heap.size ≤ b) := by
  go_enter Ybaf.func15, Ybaf.ntmps15
  go_upto_region 1 with fail
  refine wp_region_inv (by kernel_rfl) (fun listed a W => ∃ b kn, a = npFrame nm (.slice (some ⟨sb, 0, none⟩) L.length sc) w.heap.size L.length b kn (fun k => listed.getD k false) ∧ NI nm L (w.alloc (.cells #[.pointer none, .int .i64 0, .slice none 0 0, .map none, .slice none 0 0, .slice none 0 0] 51)) b kn (fun k => listed.getD k false) W) ?_ ?_ ?_
  · refine ⟨fun _ => 0, 0, ?_, ?_⟩
    · have hz : (fun k => (Array.replicate 16 false).getD k false) = fun _ => false := by funext k; exact getD_rep 16 k
      show _ = npFrame _ _ _ _ _ _ (fun k => (Array.replicate 16 false).getD k false)
      rw [hz]
      simp [npFrame]
    · have hz : (fun k => (Array.replicate 16 false).getD k false) = fun _ => false := by funext k; exact getD_rep 16 k
      show NI _ _ _ _ _ (fun k => (Array.replicate 16 false).getD k false) _
      rw [hz]
      exact ⟨(Kp.refl [] _).drew, fun j _ h => (by cases h), fun j k _ _ h => (by cases h), fun h => (by cases h), fun h => (by cases h), fun h => (by cases h)⟩
  · rintro listed a W j o hsz ⟨b, kn, rfl, hI⟩ hj ho hdep
    have hj16 : j < 16 := by have := (Array.getElem?_eq_some_iff.1 ho).1; simpa using this
    have hfj := getf hj
    have hset := setf listed j hj
    obtain ⟨f, hf⟩ : ∃ f : Nat → Bool, f = fun k => listed.getD k false := ⟨_, rfl⟩
    have hfj' : f j = false := by rw [hf]; exact hfj
    have hset' : (fun k => (listed.setIfInBounds j true).getD k false) = fun k => if k = j then true else f k := by rw [hset, hf]
    have hd : ∀ e ∈ o.after, Region.binds .any e = true → f e.on = true := by rw [hf]; exact hdep
    rw [← hf] at hI ⊢
    simp only [hset']
    clear hf hset hfj hdep hj hset'
    refine wpOp_do ho ?hgd ?hop
    case hgd =>
      rcases (by omega : j = 0 ∨ j = 1 ∨ j = 2 ∨ j = 3 ∨ j = 4 ∨ j = 5 ∨ j = 6 ∨ j = 7 ∨ j = 8 ∨ j = 9 ∨ j = 10 ∨ j = 11 ∨ j = 12 ∨ j = 13 ∨ j = 14 ∨ j = 15) with rfl | rfl | rfl | rfl | rfl | rfl | rfl | rfl | rfl | rfl | rfl | rfl | rfl | rfl | rfl | rfl <;> (simp at ho; subst ho; rfl)
    case hop =>
      obtain ⟨K, hK⟩ : ∃ K : Act → World → Prop, K = fun a W => ∃ b kn, a = npFrame nm (.slice (some ⟨sb, 0, none⟩) L.length sc) w.heap.size L.length b kn (fun k => if k = j then true else f k) ∧ NI nm L (w.alloc (.cells #[.pointer none, .int .i64 0, .slice none 0 0, .map none, .slice none 0 0, .slice none 0 0] 51)) b kn (fun k => if k = j then true else f k) W := ⟨_, rfl⟩
      rw [← hK]
      have hpure : ∀ (j : Nat), j ∉ 15 :: npMem → ∀ k, k ∈ 15 :: npMem → (fun k => if k = j then true else f k) k = f k := by
        intro j hj k hk
        have : k ≠ j := fun e => hj (e ▸ hk)
        simp [this]
      rcases (by omega : j = 0 ∨ j = 1 ∨ j = 2 ∨ j = 3 ∨ j = 4 ∨ j = 5 ∨ j = 6 ∨ j = 7 ∨ j = 8 ∨ j = 9 ∨ j = 10 ∨ j = 11 ∨ j = 12 ∨ j = 13 ∨ j = 14 ∨ j = 15) with rfl | rfl | rfl | rfl | rfl | rfl | rfl | rfl | rfl | rfl | rfl | rfl | rfl | rfl | rfl | rfl
      · simp at ho
        subst ho
        unfold Oper.wp execOp
        simp [npFrame, Act.eval, go_sem]
        rw [hK]
        exact ⟨b, kn, by simp [npFrame], hI.pure (hpure 0 (by decide)) (fun h13 k hk => by have := hI.bd (by simpa using h13) k hk; simp [this])⟩
      · simp at ho
        subst ho
        have d0 := hd { on := 0, ground := .data } (by simp) rfl
        simp only at d0
        unfold Oper.wp execOp
        simp [npFrame, Act.eval, go_sem, d0]
        refine (newClock_c nm W).mono ?_
        rintro e W1 ⟨rfl, rfl⟩
        rw [hK]
        refine ⟨_, kn, ?_, hI.new 1 (by simp) hfj' rfl ((Kp.refl [] W).alloc (.cells #[.string nm, .int .i32 0, .int .u32 0, .int .u64 0] 99)) (by show (W.alloc _).heap[_]? = _; exact heap_new W _) (fun _ => rfl) (by simp)⟩
        simp [npFrame, d0, hI.no13 (j := 1) (by simp) hfj']
      · simp at ho
        subst ho
        unfold Oper.wp execOp
        simp [npFrame, Act.eval, go_sem]
        rw [hK]
        exact ⟨b, kn, by simp [npFrame], hI.pure (hpure 2 (by decide)) (fun h13 k hk => by have := hI.bd (by simpa using h13) k hk; simp [this])⟩
      · simp at ho
        subst ho
        have d2 := hd { on := 2, ground := .data } (by simp) rfl
        simp only at d2
        have hsW : ∀ (k : Nat) (s : ByteArray), L[k]? = some s → W.cell? ⟨sb, k, none⟩ = some (.string s) := fun k s hk => (((Kp.refl [] w).alloc _).trans hI.kp).cell' (hs k s hk)
        obtain ⟨cap, cur, W1, hr, hcap, hh, hcur, hkp⟩ := run_appN W L hL1 hL sb sc hsW 24
        refine wp_appEq (.const (.slice none 0 0)) (.tmp 13) 24 rfl (by simp [Act.eval]) (by simp [npFrame, Act.eval, d2]) hr ?_
        rw [hK]
        refine ⟨_, cap, ?_, hI.new 3 (by simp) hfj' rfl hkp (by show ∃ cur, _; exact ⟨cur, hh, hcur⟩) (by simp) (fun _ => hcap)⟩
        simp [npFrame, Act.put, d2, hI.no13 (j := 3) (by simp) hfj']
      · simp at ho
        subst ho
        unfold Oper.wp execOp
        simp [npFrame, Act.eval, go_sem]
        rw [hK]
        exact ⟨b, kn, by simp [npFrame], hI.pure (hpure 4 (by decide)) (fun h13 k hk => by have := hI.bd (by simpa using h13) k hk; simp [this])⟩
      · simp at ho
        subst ho
        have d4 := hd { on := 4, ground := .data } (by simp) rfl
        simp only at d4
        unfold Oper.wp execOp
        simp [npFrame, Act.eval, go_sem, d4]
        rw [hK]
        exact ⟨b, kn, by simp [npFrame, d4], hI.pure (hpure 5 (by decide)) (fun h13 k hk => by have := hI.bd (by simpa using h13) k hk; simp [this])⟩
      · simp at ho
        subst ho
        have d5 := hd { on := 5, ground := .data } (by simp) rfl
        simp only at d5
        have hmk := fun n w => run_makeMapL 49 9 3 n w Ybaf.underlying49
        unfold Oper.wp execOp
        simp [npFrame, Act.eval, go_sem, d5, hmk]
        rw [hK]
        refine ⟨_, kn, ?_, hI.new 6 (by simp) hfj' rfl ((Kp.refl [] W).alloc (.map #[] 0)) (by show (W.alloc _).heap[_]? = _; exact heap_new W _) (fun _ => rfl) (by simp)⟩
        simp [npFrame, d5, hI.no13 (j := 6) (by simp) hfj']
      · simp at ho
        subst ho
        unfold Oper.wp execOp
        simp [npFrame, Act.eval, go_sem]
        rw [hK]
        exact ⟨b, kn, by simp [npFrame], hI.pure (hpure 7 (by decide)) (fun h13 k hk => by have := hI.bd (by simpa using h13) k hk; simp [this])⟩
      · simp at ho
        subst ho
        have d7 := hd { on := 7, ground := .data } (by simp) rfl
        simp only at d7
        unfold Oper.wp execOp
        simp [npFrame, Act.eval, go_sem, d7]
        rw [hK]
        exact ⟨b, kn, by simp [npFrame, d7], hI.pure (hpure 8 (by decide)) (fun h13 k hk => by have := hI.bd (by simpa using h13) k hk; simp [this])⟩
      · simp at ho
        subst ho
        have d8 := hd { on := 8, ground := .data } (by simp) rfl
        simp only at d8
        have hmk := fun w => run_make_row' (P := Ybaf.prog) 30 31 (.int .u64 0) 8 Ybaf.underlying30 Ybaf.info31 rfl .i64 .i64 L.length (by omega) (by omega) w
        unfold Oper.wp execOp
        simp [npFrame, Act.eval, go_sem, d8, hmk]
        rw [hK]
        refine ⟨_, kn, ?_, hI.new 9 (by simp) hfj' rfl ((Kp.refl [] W).alloc (.cells (madeCells #[.int .u64 0] L.length) 31)) (by show (W.alloc _).heap[_]? = _; exact heap_new W _) (fun _ => rfl) (by simp)⟩
        simp [npFrame, d8, hI.no13 (j := 9) (by simp) hfj']
      · simp at ho
        subst ho
        unfold Oper.wp execOp
        simp [npFrame, Act.eval, go_sem]
        rw [hK]
        exact ⟨b, kn, by simp [npFrame], hI.pure (hpure 10 (by decide)) (fun h13 k hk => by have := hI.bd (by simpa using h13) k hk; simp [this])⟩
      · simp at ho
        subst ho
        have d10 := hd { on := 10, ground := .data } (by simp) rfl
        simp only at d10
        unfold Oper.wp execOp
        simp [npFrame, Act.eval, go_sem, d10]
        rw [hK]
        exact ⟨b, kn, by simp [npFrame, d10], hI.pure (hpure 11 (by decide)) (fun h13 k hk => by have := hI.bd (by simpa using h13) k hk; simp [this])⟩
      · simp at ho
        subst ho
        have d11 := hd { on := 11, ground := .data } (by simp) rfl
        simp only at d11
        have hmk := fun w => run_make_row' (P := Ybaf.prog) 30 31 (.int .u64 0) 8 Ybaf.underlying30 Ybaf.info31 rfl .i64 .i64 L.length (by omega) (by omega) w
        unfold Oper.wp execOp
        simp [npFrame, Act.eval, go_sem, d11, hmk]
        rw [hK]
        refine ⟨_, kn, ?_, hI.new 12 (by simp) hfj' rfl ((Kp.refl [] W).alloc (.cells (madeCells #[.int .u64 0] L.length) 31)) (by show (W.alloc _).heap[_]? = _; exact heap_new W _) (fun _ => rfl) (by simp)⟩
        simp [npFrame, d11, hI.no13 (j := 12) (by simp) hfj']
      · simp at ho
        subst ho
        have d1 := hd { on := 1, ground := .data } (by simp) rfl
        simp only at d1
        have d3 := hd { on := 3, ground := .data } (by simp) rfl
        simp only at d3
        have d6 := hd { on := 6, ground := .data } (by simp) rfl
        simp only at d6
        have d9 := hd { on := 9, ground := .data } (by simp) rfl
        simp only at d9
        have d12 := hd { on := 12, ground := .data } (by simp) rfl
        simp only at d12
        unfold Oper.wp execOp
        simp [npFrame, Act.eval, go_sem, d1, d3, d6, d9, d12]
        rw [hK]
        exact ⟨b, kn, by simp [npFrame, d1, d3, d6, d9, d12], hI.pure (hpure 13 (by decide)) (fun _ k hk => by simp at hk; rcases hk with rfl | rfl | rfl | rfl | rfl <;> simp [d1, d3, d6, d9, d12])⟩
      · simp at ho
        subst ho
        unfold Oper.wp execOp
        simp [npFrame, go_sem]
        rw [hK]
        refine ⟨_, kn, ?_, hI.new 14 (by simp) hfj' rfl ((Kp.refl [] W).alloc (.cells #[.pointer none, .int .i64 0, .slice none 0 0, .map none, .slice none 0 0, .slice none 0 0] 51)) (by show ∃ cs, _; exact ⟨_, heap_new W _, rfl⟩) (fun _ => rfl) (by simp)⟩
        simp [npFrame]
        rfl
      · simp at ho
        subst ho
        have d13 := hd { on := 13, ground := .data } (by simp) rfl
        have d14 := hd { on := 14, ground := .data } (by simp) rfl
        simp only at d13 d14
        have hall : ∀ j, j ∈ npMem → f j = true := by
          intro j hj
          simp at hj
          rcases hj with rfl | rfl | rfl | rfl | rfl | rfl
          · exact hI.bd d13 1 (by simp)
          · exact hI.bd d13 3 (by simp)
          · exact hI.bd d13 6 (by simp)
          · exact hI.bd d13 9 (by simp)
          · exact hI.bd d13 12 (by simp)
          · exact d14
        obtain ⟨cs, hcs, hsz6⟩ : ∃ cs : Array Value, W.heap[b 14]? = some (.cells cs 51) ∧ cs.size = 6 := (hI.mem 14 (by simp) d14).2
        have hc : ∀ j, j < 6 → ∃ u, W.cell? ⟨b 14, j, none⟩ = some u := fun j hj => ⟨cs[j]'(by omega), cell_at hcs (by simp)⟩
        obtain ⟨x0, e0⟩ := hc 0 (by omega)
        obtain ⟨x1, e1⟩ := hc 1 (by omega)
        obtain ⟨x2, e2⟩ := hc 2 (by omega)
        obtain ⟨x3, e3⟩ := hc 3 (by omega)
        obtain ⟨x4, e4⟩ := hc 4 (by omega)
        obtain ⟨x5, e5⟩ := hc 5 (by omega)
        have hz : ∀ j, W.frozen? ⟨b 14, j, none⟩ = false := fun j => frozen_at hcs
        unfold Oper.wp execOp
        simp [npFrame, Act.eval, go_sem, d13, d14, e0, e1, e2, e3, e4, e5, hz]
        rw [hK]
        have hH := heap_set (i := 5) (.slice (some ⟨b 12, 0, none⟩) L.length L.length) (heap_set (i := 4) (.slice (some ⟨b 9, 0, none⟩) L.length L.length) (heap_set (i := 3) (.map (some (b 6))) (heap_set (i := 2) (.slice (some ⟨b 3, 0, none⟩) L.length kn) (heap_set (i := 1) (.int .i64 (-1)) (heap_set (i := 0) (.pointer (some ⟨b 1, 0, none⟩)) hcs)))))
        have hB : ((((((cs.setIfInBounds 0 (.pointer (some ⟨b 1, 0, none⟩))).setIfInBounds 1 (.int .i64 (-1))).setIfInBounds 2 (.slice (some ⟨b 3, 0, none⟩) L.length kn)).setIfInBounds 3 (.map (some (b 6)))).setIfInBounds 4 (.slice (some ⟨b 9, 0, none⟩) L.length L.length)).setIfInBounds 5 (.slice (some ⟨b 12, 0, none⟩) L.length L.length)) = npBox b L.length kn := by
          obtain ⟨l⟩ := cs
          rcases l with _ | ⟨a0, _ | ⟨a1, _ | ⟨a2, _ | ⟨a3, _ | ⟨a4, _ | ⟨a5, _ | ⟨a6, l⟩⟩⟩⟩⟩⟩⟩ <;> simp at hsz6
          rfl
        rw [hB] at hH
        have KS : Kp [b 14] W _ := (((((((Kp.refl [b 14] W).set (a := ⟨b 14, 0, none⟩) (.inl (by simp)) (.pointer (some ⟨b 1, 0, none⟩))).set (a := ⟨b 14, 1, none⟩) (.inl (by simp)) (.int .i64 (-1))).set (a := ⟨b 14, 2, none⟩) (.inl (by simp)) (.slice (some ⟨b 3, 0, none⟩) L.length kn)).set (a := ⟨b 14, 3, none⟩) (.inl (by simp)) (.map (some (b 6)))).set (a := ⟨b 14, 4, none⟩) (.inl (by simp)) (.slice (some ⟨b 9, 0, none⟩) L.length L.length)).set (a := ⟨b 14, 5, none⟩) (.inl (by simp)) (.slice (some ⟨b 12, 0, none⟩) L.length L.length))
        exact ⟨b, kn, by simp [npFrame, d13, d14], hI.store hall rfl KS hH⟩
  · rintro listed a W hsz ⟨b, kn, rfl, hI⟩ hready
    have hsz16 : listed.size = 16 := by simpa using hsz
    have up : ∀ j, j < 16 → listed.getD j true = true → listed.getD j false = true := by
      intro j hj h
      simpa [Array.getD, hsz16, hj] using h
    have T0 : listed.getD 0 false = true := up 0 (by omega) (hready 0 _ rfl (by
      intro e he _
      have hlt : e.on < 0 ∨ False := by
        first | (exfalso; simp at he; done) | (simp at he; first | (subst he; decide) | (rcases he with rfl | rfl <;> decide) | (rcases he with rfl | rfl | rfl <;> decide) | (rcases he with rfl | rfl | rfl | rfl | rfl <;> decide) | (rcases he with rfl | rfl | rfl | rfl | rfl | rfl | rfl | rfl | rfl | rfl | rfl | rfl | rfl | rfl | rfl | rfl | rfl | rfl <;> decide))
      have hlt2 : e.on < 0 := hlt.resolve_right id
      omega))
    have T1 : listed.getD 1 false = true := up 1 (by omega) (hready 1 _ rfl (by
      intro e he _
      have hlt : e.on < 1 ∨ False := by
        first | (exfalso; simp at he; done) | (simp at he; first | (subst he; decide) | (rcases he with rfl | rfl <;> decide) | (rcases he with rfl | rfl | rfl <;> decide) | (rcases he with rfl | rfl | rfl | rfl | rfl <;> decide) | (rcases he with rfl | rfl | rfl | rfl | rfl | rfl | rfl | rfl | rfl | rfl | rfl | rfl | rfl | rfl | rfl | rfl | rfl | rfl <;> decide))
      have hlt2 : e.on < 1 := hlt.resolve_right id
      rcases (by omega : e.on = 0) with h <;> rw [h]
      · exact T0))
    have T2 : listed.getD 2 false = true := up 2 (by omega) (hready 2 _ rfl (by
      intro e he _
      have hlt : e.on < 2 ∨ False := by
        first | (exfalso; simp at he; done) | (simp at he; first | (subst he; decide) | (rcases he with rfl | rfl <;> decide) | (rcases he with rfl | rfl | rfl <;> decide) | (rcases he with rfl | rfl | rfl | rfl | rfl <;> decide) | (rcases he with rfl | rfl | rfl | rfl | rfl | rfl | rfl | rfl | rfl | rfl | rfl | rfl | rfl | rfl | rfl | rfl | rfl | rfl <;> decide))
      have hlt2 : e.on < 2 := hlt.resolve_right id
      rcases (by omega : e.on = 0 ∨ e.on = 1) with h | h <;> rw [h]
      · exact T0
      · exact T1))
    have T3 : listed.getD 3 false = true := up 3 (by omega) (hready 3 _ rfl (by
      intro e he _
      have hlt : e.on < 3 ∨ False := by
        first | (exfalso; simp at he; done) | (simp at he; first | (subst he; decide) | (rcases he with rfl | rfl <;> decide) | (rcases he with rfl | rfl | rfl <;> decide) | (rcases he with rfl | rfl | rfl | rfl | rfl <;> decide) | (rcases he with rfl | rfl | rfl | rfl | rfl | rfl | rfl | rfl | rfl | rfl | rfl | rfl | rfl | rfl | rfl | rfl | rfl | rfl <;> decide))
      have hlt2 : e.on < 3 := hlt.resolve_right id
      rcases (by omega : e.on = 0 ∨ e.on = 1 ∨ e.on = 2) with h | h | h <;> rw [h]
      · exact T0
      · exact T1
      · exact T2))
    have T4 : listed.getD 4 false = true := up 4 (by omega) (hready 4 _ rfl (by
      intro e he _
      have hlt : e.on < 4 ∨ False := by
        first | (exfalso; simp at he; done) | (simp at he; first | (subst he; decide) | (rcases he with rfl | rfl <;> decide) | (rcases he with rfl | rfl | rfl <;> decide) | (rcases he with rfl | rfl | rfl | rfl | rfl <;> decide) | (rcases he with rfl | rfl | rfl | rfl | rfl | rfl | rfl | rfl | rfl | rfl | rfl | rfl | rfl | rfl | rfl | rfl | rfl | rfl <;> decide))
      have hlt2 : e.on < 4 := hlt.resolve_right id
      rcases (by omega : e.on = 0 ∨ e.on = 1 ∨ e.on = 2 ∨ e.on = 3) with h | h | h | h <;> rw [h]
      · exact T0
      · exact T1
      · exact T2
      · exact T3))
    have T5 : listed.getD 5 false = true := up 5 (by omega) (hready 5 _ rfl (by
      intro e he _
      have hlt : e.on < 5 ∨ False := by
        first | (exfalso; simp at he; done) | (simp at he; first | (subst he; decide) | (rcases he with rfl | rfl <;> decide) | (rcases he with rfl | rfl | rfl <;> decide) | (rcases he with rfl | rfl | rfl | rfl | rfl <;> decide) | (rcases he with rfl | rfl | rfl | rfl | rfl | rfl | rfl | rfl | rfl | rfl | rfl | rfl | rfl | rfl | rfl | rfl | rfl | rfl <;> decide))
      have hlt2 : e.on < 5 := hlt.resolve_right id
      rcases (by omega : e.on = 0 ∨ e.on = 1 ∨ e.on = 2 ∨ e.on = 3 ∨ e.on = 4) with h | h | h | h | h <;> rw [h]
      · exact T0
      · exact T1
      · exact T2
      · exact T3
      · exact T4))
    have T6 : listed.getD 6 false = true := up 6 (by omega) (hready 6 _ rfl (by
      intro e he _
      have hlt : e.on < 6 ∨ False := by
        first | (exfalso; simp at he; done) | (simp at he; first | (subst he; decide) | (rcases he with rfl | rfl <;> decide) | (rcases he with rfl | rfl | rfl <;> decide) | (rcases he with rfl | rfl | rfl | rfl | rfl <;> decide) | (rcases he with rfl | rfl | rfl | rfl | rfl | rfl | rfl | rfl | rfl | rfl | rfl | rfl | rfl | rfl | rfl | rfl | rfl | rfl <;> decide))
      have hlt2 : e.on < 6 := hlt.resolve_right id
      rcases (by omega : e.on = 0 ∨ e.on = 1 ∨ e.on = 2 ∨ e.on = 3 ∨ e.on = 4 ∨ e.on = 5) with h | h | h | h | h | h <;> rw [h]
      · exact T0
      · exact T1
      · exact T2
      · exact T3
      · exact T4
      · exact T5))
    have T7 : listed.getD 7 false = true := up 7 (by omega) (hready 7 _ rfl (by
      intro e he _
      have hlt : e.on < 7 ∨ False := by
        first | (exfalso; simp at he; done) | (simp at he; first | (subst he; decide) | (rcases he with rfl | rfl <;> decide) | (rcases he with rfl | rfl | rfl <;> decide) | (rcases he with rfl | rfl | rfl | rfl | rfl <;> decide) | (rcases he with rfl | rfl | rfl | rfl | rfl | rfl | rfl | rfl | rfl | rfl | rfl | rfl | rfl | rfl | rfl | rfl | rfl | rfl <;> decide))
      have hlt2 : e.on < 7 := hlt.resolve_right id
      rcases (by omega : e.on = 0 ∨ e.on = 1 ∨ e.on = 2 ∨ e.on = 3 ∨ e.on = 4 ∨ e.on = 5 ∨ e.on = 6) with h | h | h | h | h | h | h <;> rw [h]
      · exact T0
      · exact T1
      · exact T2
      · exact T3
      · exact T4
      · exact T5
      · exact T6))
    have T8 : listed.getD 8 false = true := up 8 (by omega) (hready 8 _ rfl (by
      intro e he _
      have hlt : e.on < 8 ∨ False := by
        first | (exfalso; simp at he; done) | (simp at he; first | (subst he; decide) | (rcases he with rfl | rfl <;> decide) | (rcases he with rfl | rfl | rfl <;> decide) | (rcases he with rfl | rfl | rfl | rfl | rfl <;> decide) | (rcases he with rfl | rfl | rfl | rfl | rfl | rfl | rfl | rfl | rfl | rfl | rfl | rfl | rfl | rfl | rfl | rfl | rfl | rfl <;> decide))
      have hlt2 : e.on < 8 := hlt.resolve_right id
      rcases (by omega : e.on = 0 ∨ e.on = 1 ∨ e.on = 2 ∨ e.on = 3 ∨ e.on = 4 ∨ e.on = 5 ∨ e.on = 6 ∨ e.on = 7) with h | h | h | h | h | h | h | h <;> rw [h]
      · exact T0
      · exact T1
      · exact T2
      · exact T3
      · exact T4
      · exact T5
      · exact T6
      · exact T7))
    have T9 : listed.getD 9 false = true := up 9 (by omega) (hready 9 _ rfl (by
      intro e he _
      have hlt : e.on < 9 ∨ False := by
        first | (exfalso; simp at he; done) | (simp at he; first | (subst he; decide) | (rcases he with rfl | rfl <;> decide) | (rcases he with rfl | rfl | rfl <;> decide) | (rcases he with rfl | rfl | rfl | rfl | rfl <;> decide) | (rcases he with rfl | rfl | rfl | rfl | rfl | rfl | rfl | rfl | rfl | rfl | rfl | rfl | rfl | rfl | rfl | rfl | rfl | rfl <;> decide))
      have hlt2 : e.on < 9 := hlt.resolve_right id
      rcases (by omega : e.on = 0 ∨ e.on = 1 ∨ e.on = 2 ∨ e.on = 3 ∨ e.on = 4 ∨ e.on = 5 ∨ e.on = 6 ∨ e.on = 7 ∨ e.on = 8) with h | h | h | h | h | h | h | h | h <;> rw [h]
      · exact T0
      · exact T1
      · exact T2
      · exact T3
      · exact T4
      · exact T5
      · exact T6
      · exact T7
      · exact T8))
    have T10 : listed.getD 10 false = true := up 10 (by omega) (hready 10 _ rfl (by
      intro e he _
      have hlt : e.on < 10 ∨ False := by
        first | (exfalso; simp at he; done) | (simp at he; first | (subst he; decide) | (rcases he with rfl | rfl <;> decide) | (rcases he with rfl | rfl | rfl <;> decide) | (rcases he with rfl | rfl | rfl | rfl | rfl <;> decide) | (rcases he with rfl | rfl | rfl | rfl | rfl | rfl | rfl | rfl | rfl | rfl | rfl | rfl | rfl | rfl | rfl | rfl | rfl | rfl <;> decide))
      have hlt2 : e.on < 10 := hlt.resolve_right id
      rcases (by omega : e.on = 0 ∨ e.on = 1 ∨ e.on = 2 ∨ e.on = 3 ∨ e.on = 4 ∨ e.on = 5 ∨ e.on = 6 ∨ e.on = 7 ∨ e.on = 8 ∨ e.on = 9) with h | h | h | h | h | h | h | h | h | h <;> rw [h]
      · exact T0
      · exact T1
      · exact T2
      · exact T3
      · exact T4
      · exact T5
      · exact T6
      · exact T7
      · exact T8
      · exact T9))
    have T11 : listed.getD 11 false = true := up 11 (by omega) (hready 11 _ rfl (by
      intro e he _
      have hlt : e.on < 11 ∨ False := by
        first | (exfalso; simp at he; done) | (simp at he; first | (subst he; decide) | (rcases he with rfl | rfl <;> decide) | (rcases he with rfl | rfl | rfl <;> decide) | (rcases he with rfl | rfl | rfl | rfl | rfl <;> decide) | (rcases he with rfl | rfl | rfl | rfl | rfl | rfl | rfl | rfl | rfl | rfl | rfl | rfl | rfl | rfl | rfl | rfl | rfl | rfl <;> decide))
      have hlt2 : e.on < 11 := hlt.resolve_right id
      rcases (by omega : e.on = 0 ∨ e.on = 1 ∨ e.on = 2 ∨ e.on = 3 ∨ e.on = 4 ∨ e.on = 5 ∨ e.on = 6 ∨ e.on = 7 ∨ e.on = 8 ∨ e.on = 9 ∨ e.on = 10) with h | h | h | h | h | h | h | h | h | h | h <;> rw [h]
      · exact T0
      · exact T1
      · exact T2
      · exact T3
      · exact T4
      · exact T5
      · exact T6
      · exact T7
      · exact T8
      · exact T9
      · exact T10))
    have T12 : listed.getD 12 false = true := up 12 (by omega) (hready 12 _ rfl (by
      intro e he _
      have hlt : e.on < 12 ∨ False := by
        first | (exfalso; simp at he; done) | (simp at he; first | (subst he; decide) | (rcases he with rfl | rfl <;> decide) | (rcases he with rfl | rfl | rfl <;> decide) | (rcases he with rfl | rfl | rfl | rfl | rfl <;> decide) | (rcases he with rfl | rfl | rfl | rfl | rfl | rfl | rfl | rfl | rfl | rfl | rfl | rfl | rfl | rfl | rfl | rfl | rfl | rfl <;> decide))
      have hlt2 : e.on < 12 := hlt.resolve_right id
      rcases (by omega : e.on = 0 ∨ e.on = 1 ∨ e.on = 2 ∨ e.on = 3 ∨ e.on = 4 ∨ e.on = 5 ∨ e.on = 6 ∨ e.on = 7 ∨ e.on = 8 ∨ e.on = 9 ∨ e.on = 10 ∨ e.on = 11) with h | h | h | h | h | h | h | h | h | h | h | h <;> rw [h]
      · exact T0
      · exact T1
      · exact T2
      · exact T3
      · exact T4
      · exact T5
      · exact T6
      · exact T7
      · exact T8
      · exact T9
      · exact T10
      · exact T11))
    have T13 : listed.getD 13 false = true := up 13 (by omega) (hready 13 _ rfl (by
      intro e he _
      have hlt : e.on < 13 ∨ False := by
        first | (exfalso; simp at he; done) | (simp at he; first | (subst he; decide) | (rcases he with rfl | rfl <;> decide) | (rcases he with rfl | rfl | rfl <;> decide) | (rcases he with rfl | rfl | rfl | rfl | rfl <;> decide) | (rcases he with rfl | rfl | rfl | rfl | rfl | rfl | rfl | rfl | rfl | rfl | rfl | rfl | rfl | rfl | rfl | rfl | rfl | rfl <;> decide))
      have hlt2 : e.on < 13 := hlt.resolve_right id
      rcases (by omega : e.on = 0 ∨ e.on = 1 ∨ e.on = 2 ∨ e.on = 3 ∨ e.on = 4 ∨ e.on = 5 ∨ e.on = 6 ∨ e.on = 7 ∨ e.on = 8 ∨ e.on = 9 ∨ e.on = 10 ∨ e.on = 11 ∨ e.on = 12) with h | h | h | h | h | h | h | h | h | h | h | h | h <;> rw [h]
      · exact T0
      · exact T1
      · exact T2
      · exact T3
      · exact T4
      · exact T5
      · exact T6
      · exact T7
      · exact T8
      · exact T9
      · exact T10
      · exact T11
      · exact T12))
    have T14 : listed.getD 14 false = true := up 14 (by omega) (hready 14 _ rfl (by
      intro e he _
      have hlt : e.on < 14 ∨ False := by
        first | (exfalso; simp at he; done) | (simp at he; first | (subst he; decide) | (rcases he with rfl | rfl <;> decide) | (rcases he with rfl | rfl | rfl <;> decide) | (rcases he with rfl | rfl | rfl | rfl | rfl <;> decide) | (rcases he with rfl | rfl | rfl | rfl | rfl | rfl | rfl | rfl | rfl | rfl | rfl | rfl | rfl | rfl | rfl | rfl | rfl | rfl <;> decide))
      have hlt2 : e.on < 14 := hlt.resolve_right id
      rcases (by omega : e.on = 0 ∨ e.on = 1 ∨ e.on = 2 ∨ e.on = 3 ∨ e.on = 4 ∨ e.on = 5 ∨ e.on = 6 ∨ e.on = 7 ∨ e.on = 8 ∨ e.on = 9 ∨ e.on = 10 ∨ e.on = 11 ∨ e.on = 12 ∨ e.on = 13) with h | h | h | h | h | h | h | h | h | h | h | h | h | h <;> rw [h]
      · exact T0
      · exact T1
      · exact T2
      · exact T3
      · exact T4
      · exact T5
      · exact T6
      · exact T7
      · exact T8
      · exact T9
      · exact T10
      · exact T11
      · exact T12
      · exact T13))
    have T15 : listed.getD 15 false = true := up 15 (by omega) (hready 15 _ rfl (by
      intro e he _
      have hlt : e.on < 15 ∨ False := by
        first | (exfalso; simp at he; done) | (simp at he; first | (subst he; decide) | (rcases he with rfl | rfl <;> decide) | (rcases he with rfl | rfl | rfl <;> decide) | (rcases he with rfl | rfl | rfl | rfl | rfl <;> decide) | (rcases he with rfl | rfl | rfl | rfl | rfl | rfl | rfl | rfl | rfl | rfl | rfl | rfl | rfl | rfl | rfl | rfl | rfl | rfl <;> decide))
      have hlt2 : e.on < 15 := hlt.resolve_right id
      rcases (by omega : e.on = 0 ∨ e.on = 1 ∨ e.on = 2 ∨ e.on = 3 ∨ e.on = 4 ∨ e.on = 5 ∨ e.on = 6 ∨ e.on = 7 ∨ e.on = 8 ∨ e.on = 9 ∨ e.on = 10 ∨ e.on = 11 ∨ e.on = 12 ∨ e.on = 13 ∨ e.on = 14) with h | h | h | h | h | h | h | h | h | h | h | h | h | h | h <;> rw [h]
      · exact T0
      · exact T1
      · exact T2
      · exact T3
      · exact T4
      · exact T5
      · exact T6
      · exact T7
      · exact T8
      · exact T9
      · exact T10
      · exact T11
      · exact T12
      · exact T13
      · exact T14))
    have T : ∀ j, j < 16 → listed.getD j false = true := by
      intro j hj
      rcases (by omega : j = 0 ∨ j = 1 ∨ j = 2 ∨ j = 3 ∨ j = 4 ∨ j = 5 ∨ j = 6 ∨ j = 7 ∨ j = 8 ∨ j = 9 ∨ j = 10 ∨ j = 11 ∨ j = 12 ∨ j = 13 ∨ j = 14 ∨ j = 15) with rfl | rfl | rfl | rfl | rfl | rfl | rfl | rfl | rfl | rfl | rfl | rfl | rfl | rfl | rfl | rfl
      · exact T0
      · exact T1
      · exact T2
      · exact T3
      · exact T4
      · exact T5
      · exact T6
      · exact T7
      · exact T8
      · exact T9
      · exact T10
      · exact T11
      · exact T12
      · exact T13
      · exact T14
      · exact T15
    have hf : (fun k => listed.getD k false) = fun k => decide (k < 16) := by
      funext k
      by_cases hk : k < 16
      · rw [T k hk]; simp [hk]
      · simp [Array.getD, hsz16, hk]
    rw [hf] at hI ⊢
    have H1 : W.heap[b 1]? = some (.cells #[.string nm, .int .i32 0, .int .u32 0, .int .u64 0] 99) := (hI.mem 1 (by simp) rfl).2
    obtain ⟨cn, H3, H3'⟩ : ∃ cur : Array Value, W.heap[b 3]? = some (.cells cur 9) ∧ ∀ (k : Nat) (s : ByteArray), L[k]? = some s → cur[k]? = some (Value.string s) := (hI.mem 3 (by simp) rfl).2
    have H6 : W.heap[b 6]? = some (.map #[] 0) := (hI.mem 6 (by simp) rfl).2
    have H9 : W.heap[b 9]? = some (.cells (madeCells #[.int .u64 0] L.length) 31) := (hI.mem 9 (by simp) rfl).2
    have H12 : W.heap[b 12]? = some (.cells (madeCells #[.int .u64 0] L.length) 31) := (hI.mem 12 (by simp) rfl).2
    have H14 := (hI.st rfl).2
    have hkn := hI.cap rfl
    have hle := fun j hj => (hI.mem j hj (by simp at hj; rcases hj with rfl | rfl | rfl | rfl | rfl | rfl <;> rfl)).1
    have hne := fun j k hj hk => hI.ne j k hj hk (by simp at hj; rcases hj with rfl | rfl | rfl | rfl | rfl | rfl <;> rfl) (by simp at hk; rcases hk with rfl | rfl | rfl | rfl | rfl | rfl <;> rfl)
    have hkp := hI.kp
    clear hI hready up T hf T0 T1 T2 T3 T4 T5 T6 T7 T8 T9 T10 T11 T12 T13 T14 T15
    simp [npFrame]
    have eL : L = [P0, P1, P2] := hLL
    have en : nm = P0 := hnm
    clear hLL hnm
    subst eL en
    have z3 : madeCells #[Value.int .u64 0] ([P0, P1, P2] : List ByteArray).length = rowU [0, 0, 0] := made3
    rw [z3] at H9 H12
    have n0 := cell_at (i := 0) H3 (H3' 0 P0 rfl)
    have n1c := H3' 1 P1 rfl
    have n2c := H3' 2 P2 rfl
    have n0c := H3' 0 P0 rfl
    simp only [World.size_alloc] at hle
    have l14 := hle 14 (by simp)
    have l6 := hle 6 (by simp)
    have n614 : b 6 ≠ b 14 := hne 6 14 (by simp) (by simp) (by decide)
    have n314 : b 3 ≠ b 14 := hne 3 14 (by simp) (by simp) (by decide)
    have n36 : b 3 ≠ b 6 := hne 3 6 (by simp) (by simp) (by decide)
    have hl6 := heap_lt H6
    have hl14 := heap_lt H14
    -- the three rounds' worlds
    have hlk0 := run_look_miss 49 9 3 Ybaf.underlying49 Ybaf.underlying9 H6 P0 (.int .i64 0) (by kernel_rfl) rfl true
    have hst0 := run_store_miss 49 9 3 Ybaf.underlying49 Ybaf.underlying9 H6 P0 (.int .i64 0) rfl
    obtain ⟨W1, hW1⟩ : ∃ x, x = setO W (b 6) (.map #[{ key := .string P0, val := .int .i64 0, born := 0 }] 1) := ⟨_, rfl⟩
    have hst0' : (Instr.mapUpdate 49 (.map (some (b 6))) (.string P0) (.int .i64 0)).run Ybaf.prog W = .ok () W1 := by rw [hW1]; exact hst0
    have k1 : Kp [b 6] W W1 := by rw [hW1]; exact (Kp.refl _ W).setO (.inl (by simp)) _
    have m1 : W1.heap[b 6]? = some (.map #[{ key := .string P0, val := .int .i64 0, born := 0 }] 1) := by rw [hW1]; exact setO_same _ hl6
    have H14a : W1.heap[b 14]? = some (.cells (npBox b 3 kn) 51) := k1.heap H14 (by simp; exact n614.symm)
    obtain ⟨W1', hW1'⟩ : ∃ x, x = W1.setCell ⟨b 14, 1, none⟩ (.int .i64 0) := ⟨_, rfl⟩
    have k1' : Kp [b 14] W1 W1' := by rw [hW1']; exact (Kp.refl _ W1).set (a := ⟨b 14, 1, none⟩) (.inl (by simp)) _
    have m1' := k1'.heap m1 (by simp; exact n614)
    have H14b : W1'.heap[b 14]? = some (.cells #[.pointer (some ⟨b 1, 0, none⟩), .int .i64 0, .slice (some ⟨b 3, 0, none⟩) 3 kn, .map (some (b 6)), .slice (some ⟨b 9, 0, none⟩) 3 3, .slice (some ⟨b 12, 0, none⟩) 3 3] 51) := by rw [hW1']; exact heap_set (i := 1) _ H14a
    have hlk1 := run_look_miss 49 9 3 Ybaf.underlying49 Ybaf.underlying9 m1' P1 (.int .i64 0) (by kernel_rfl) rfl true
    have hst1 := run_store_miss 49 9 3 Ybaf.underlying49 Ybaf.underlying9 m1' P1 (.int .i64 1) rfl
    obtain ⟨W2, hW2⟩ : ∃ x, x = setO W1' (b 6) (.map #[{ key := .string P0, val := .int .i64 0, born := 0 }, { key := .string P1, val := .int .i64 1, born := 1 }] 2) := ⟨_, rfl⟩
    have hst1' : (Instr.mapUpdate 49 (.map (some (b 6))) (.string P1) (.int .i64 1)).run Ybaf.prog W1' = .ok () W2 := by rw [hW2]; exact hst1
    have k2 : Kp [b 6] W1' W2 := by rw [hW2]; exact (Kp.refl _ W1').setO (.inl (by simp)) _
    have m2 : W2.heap[b 6]? = some (.map #[{ key := .string P0, val := .int .i64 0, born := 0 }, { key := .string P1, val := .int .i64 1, born := 1 }] 2) := by rw [hW2]; exact setO_same _ (heap_lt m1')
    have H14c := k2.heap H14b (by simp; exact n614.symm)
    have hlk2 := run_look_miss 49 9 3 Ybaf.underlying49 Ybaf.underlying9 m2 P2 (.int .i64 0) (by kernel_rfl) rfl true
    have hst2 := run_store_miss 49 9 3 Ybaf.underlying49 Ybaf.underlying9 m2 P2 (.int .i64 2) rfl
    obtain ⟨W3, hW3⟩ : ∃ x, x = setO W2 (b 6) (.map idx3 3) := ⟨_, rfl⟩
    have hst2' : (Instr.mapUpdate 49 (.map (some (b 6))) (.string P2) (.int .i64 2)).run Ybaf.prog W2 = .ok () W3 := by rw [hW3]; exact hst2
    have k3 : Kp [b 6] W2 W3 := by rw [hW3]; exact (Kp.refl _ W2).setO (.inl (by simp)) _
    have m3 : W3.heap[b 6]? = some (.map idx3 3) := by rw [hW3]; exact setO_same _ (heap_lt m2)
    have H14d := k3.heap H14c (by simp; exact n614.symm)
    have HW1 : Hid3 (W1' = W1.setCell ⟨b 14, 1, none⟩ (.int .i64 0)) := hW1'
    clear hW1'
    simp only [if_true] at hlk0 hlk1 hlk2
    clear hst0 hst1 hst2 hW1 hW2 hW3 hs H3'
    have H3a := k1'.heap (k1.heap H3 (by simp; exact n36)) (by simp; exact n314)
    have KW : Kp [b 6, b 14] W W3 := (((k1.mono (by simp)).trans (k1'.mono (by simp))).trans (k2.mono (by simp))).trans (k3.mono (by simp))
    have p0 := cell_at (i := 2) (v := .slice (some ⟨b 3, 0, none⟩) 3 kn) H14 rfl
    have p03 := cell_at (i := 3) (v := .map (some (b 6))) H14 rfl
    have pa1 := cell_at (i := 1) (v := .int .i64 (-1)) H14a rfl
    have fa1 := frozen_at (i := 1) H14a
    have pb3 := cell_at (i := 3) (v := .map (some (b 6))) H14b rfl
    have pc3 := cell_at (i := 3) (v := .map (some (b 6))) H14c rfl
    have n0a := n0
    have H3b := k2.heap H3a (by simp; exact n36)
    have q1 := cell_at (i := 1) (v := .string P1) H3a (n1c)
    have q2 := cell_at (i := 2) (v := .string P2) H3b (n2c)
    have KR : Kp [] w W := ((Kp.refl [] w).alloc _).trans hkp
    have hR0 := hkp.heap (heap_new w _) (by simp)
    have hR3 := KW.heap hR0 (by simp; omega)
    have hlR3 := heap_lt hR3
    have r0 := cell_at (i := 0) (v := .pointer none) hR3 rfl
    have r1 := cell_at (i := 1) (v := .int .i64 0) hR3 rfl
    have r2 := cell_at (i := 2) (v := .slice none 0 0) hR3 rfl
    have r3 := cell_at (i := 3) (v := .map none) hR3 rfl
    have r4 := cell_at (i := 4) (v := .slice none 0 0) hR3 rfl
    have r5 := cell_at (i := 5) (v := .slice none 0 0) hR3 rfl
    have rf0 := frozen_at (i := 0) hR3
    have rf1 := frozen_at (i := 1) hR3
    have rf2 := frozen_at (i := 2) hR3
    have rf3 := frozen_at (i := 3) hR3
    have rf4 := frozen_at (i := 4) hR3
    have rf5 := frozen_at (i := 5) hR3
    have d0 := cell_at (i := 0) (v := .pointer (some ⟨b 1, 0, none⟩)) H14d rfl
    have d1 := cell_at (i := 1) (v := .int .i64 0) H14d rfl
    have d2 := cell_at (i := 2) (v := .slice (some ⟨b 3, 0, none⟩) 3 kn) H14d rfl
    have d3 := cell_at (i := 3) (v := .map (some (b 6))) H14d rfl
    have d4 := cell_at (i := 4) (v := .slice (some ⟨b 9, 0, none⟩) 3 3) H14d rfl
    have d5 := cell_at (i := 5) (v := .slice (some ⟨b 12, 0, none⟩) 3 3) H14d rfl
    go_wp2_with fail
    refine wp_loop_rounds 4 ?_
    rw [rounds_succ]
    go_wp2_with fail
    rw [← (show W1' = W1.setCell ⟨b 14, 1, none⟩ (.int .i64 0) from HW1)]
    rw [rounds_succ]
    go_wp2_with fail
    rw [rounds_succ]
    go_wp2_with fail
    rw [rounds_succ]
    go_wp2_with fail
    have hS0 := heap_set (i := 0) (.pointer (some ⟨b 1, 0, none⟩)) hR3
    have kS0 := Kp.set (a := ⟨w.heap.size, 0, none⟩) (Kp.refl [w.heap.size] W3) (.inl (by simp)) (.pointer (some ⟨b 1, 0, none⟩))
    have hS1 := heap_set (i := 1) (.int .i64 0) hS0
    have kS1 := Kp.set (a := ⟨w.heap.size, 1, none⟩) kS0 (.inl (by simp)) (.int .i64 0)
    have hS2 := heap_set (i := 2) (.slice (some ⟨b 3, 0, none⟩) 3 kn) hS1
    have kS2 := Kp.set (a := ⟨w.heap.size, 2, none⟩) kS1 (.inl (by simp)) (.slice (some ⟨b 3, 0, none⟩) 3 kn)
    have hS3 := heap_set (i := 3) (.map (some (b 6))) hS2
    have kS3 := Kp.set (a := ⟨w.heap.size, 3, none⟩) kS2 (.inl (by simp)) (.map (some (b 6)))
    have hS4 := heap_set (i := 4) (.slice (some ⟨b 9, 0, none⟩) 3 3) hS3
    have kS4 := Kp.set (a := ⟨w.heap.size, 4, none⟩) kS3 (.inl (by simp)) (.slice (some ⟨b 9, 0, none⟩) 3 3)
    have hS5 := heap_set (i := 5) (.slice (some ⟨b 12, 0, none⟩) 3 3) hS4
    have kS5 := Kp.set (a := ⟨w.heap.size, 5, none⟩) kS4 (.inl (by simp)) (.slice (some ⟨b 12, 0, none⟩) 3 3)
    generalize (((((W3.setCell ⟨w.heap.size, 0, none⟩ (.pointer (some ⟨b 1, 0, none⟩))).setCell ⟨w.heap.size, 1, none⟩ (.int .i64 0)).setCell ⟨w.heap.size, 2, none⟩ (.slice (some ⟨b 3, 0, none⟩) 3 kn)).setCell ⟨w.heap.size, 3, none⟩ (.map (some (b 6)))).setCell ⟨w.heap.size, 4, none⟩ (.slice (some ⟨b 9, 0, none⟩) 3 3)).setCell ⟨w.heap.size, 5, none⟩ (.slice (some ⟨b 12, 0, none⟩) 3 3) = W4 at hS5 kS5 ⊢
    have z0 := cell_at (i := 0) (v := (.pointer (some ⟨b 1, 0, none⟩))) hS5 rfl
    have z1 := cell_at (i := 1) (v := (.int .i64 0)) hS5 rfl
    have z2 := cell_at (i := 2) (v := (.slice (some ⟨b 3, 0, none⟩) 3 kn)) hS5 rfl
    have z3 := cell_at (i := 3) (v := (.map (some (b 6)))) hS5 rfl
    have z4 := cell_at (i := 4) (v := (.slice (some ⟨b 9, 0, none⟩) 3 3)) hS5 rfl
    have z5 := cell_at (i := 5) (v := (.slice (some ⟨b 12, 0, none⟩) 3 3)) hS5 rfl
    have KF : Kp [b 6, b 14, w.heap.size] W W4 := (KW.mono (by simp)).trans (kS5.mono (by simp))
    have nF : ∀ j, j ∈ npMem → j ≠ 6 → j ≠ 14 → b j ∉ [b 6, b 14, w.heap.size] := fun j hj h1 h2 => by
      have a1 := hne j 6 hj (by simp) h1
      have a2 := hne j 14 hj (by simp) h2
      have a3 := hle j hj
      simp only [List.mem_cons, List.not_mem_nil, or_false, not_or]
      exact ⟨a1, a2, by omega⟩
    refine bodyPost_ret (v := .tuple #[.agg #[.pointer (some ⟨b 1, 0, none⟩), .int .i64 0, .slice (some ⟨b 3, 0, none⟩) 3 kn, .map (some (b 6)), .slice (some ⟨b 9, 0, none⟩) 3 3, .slice (some ⟨b 12, 0, none⟩) 3 3], .nilIface]) (by simp [results, Ybaf.results15, go_sem, z0, z1, z2, z3, z4, z5]) rfl ⟨b 1, b 3, b 6, b 9, b 12, kn, cn, rfl, ?_, ?_, ?_, n0c, ?_, ?_, ?_, ?_, ?_⟩
    · refine KR.trans2' KF fun c hc => ?_
      simp only [List.mem_cons, List.not_mem_nil, or_false] at hc
      rcases hc with rfl | rfl | rfl <;> omega
    · exact KF.heap H1 (nF 1 (by simp) (by decide) (by decide))
    · exact KF.heap H3 (nF 3 (by simp) (by decide) (by decide))
    · exact kS5.heap m3 (by simp; omega)
    · exact KF.heap H9 (nF 9 (by simp) (by decide) (by decide))
    · exact KF.heap H12 (nF 12 (by simp) (by decide) (by decide))
    · have e1 := hne 1 3 (by simp) (by simp) (by decide)
      have e2 := hne 1 6 (by simp) (by simp) (by decide)
      have e3 := hne 1 9 (by simp) (by simp) (by decide)
      have e4 := hne 1 12 (by simp) (by simp) (by decide)
      have e5 := hne 3 6 (by simp) (by simp) (by decide)
      have e6 := hne 3 9 (by simp) (by simp) (by decide)
      have e7 := hne 3 12 (by simp) (by simp) (by decide)
      have e8 := hne 6 9 (by simp) (by simp) (by decide)
      have e9 := hne 6 12 (by simp) (by simp) (by decide)
      have e10 := hne 9 12 (by simp) (by simp) (by decide)
      simp [e1, e2, e3, e4, e5, e6, e7, e8, e9, e10]
    · intro c hc
      simp only [List.mem_cons, List.not_mem_nil, or_false] at hc
      have g1 := hle 1 (by simp)
      have g3 := hle 3 (by simp)
      have g9 := hle 9 (by simp)
      have g12 := hle 12 (by simp)
      rcases hc with rfl | rfl | rfl | rfl | rfl <;> omega

end Go.Proofs.YbulkbxpiFmt
