/-
  Law B's road: zzs3698bbuild walked.
-/
import Derived.Test.YbulkbxogBi
import Derived.RangeFuncBox
namespace Go.Proofs.Ybulkbxog
open Go.RowKit Go.Sort

theorem Yba.info71b : (Yba.prog.info? 71).map (fun i => (i.zero, i.size, i.bytes)) = some (some (.agg #[.int .i64 0, .int .i64 0, .int .i64 0]), 3, 24) := by kernel_rfl

theorem wpList_builtB {P : Program} {ops : Array Oper} {rest : List Oper} {o : Oper} {a : Act} {w : World} {Q : Exit → Act → World → Prop} (hg : o.guard = none) (t : TypeId) (parts : Array (Nat × Operand)) (ho : o.op = .build t parts) (cells : Array Value)
    (hf : P.built t (parts.map fun (i, x) => (i, a.eval x)).toList = some cells) (h : wpList P ops Q rest (a.put o.dst (.agg cells)) w) : wpList P ops Q (o :: rest) a w :=
  wpList_build hg t parts ho (by rw [hf]; rfl) (by rw [hf]; exact h)

theorem own_capB {w : World} {n cp : Nat} {e : TypeId} {ao : Option Addr} {xs : List Value} (h : w.ownsRow 0 e 1 (.slice ao n cp) n xs) : n ≤ cp ∧ cp ≤ maxLen := by
  rcases h.2 with ⟨h', h0⟩ | ⟨g, cap, cur, h', _, _, h1, h2, _⟩
  · simp at h'; subst h0; exact ⟨Nat.zero_le _, by rw [h'.2.2]; exact Nat.zero_le _⟩
  · simp at h'; obtain ⟨rfl, rfl⟩ := h'; exact ⟨h1, h2⟩

theorem wp_builtB {P : Program} {o : Oper} {a : Act} {w : World} {K : Act → World → Prop} {Q : Exit → Act → World → Prop} (t : TypeId) (parts : Array (Nat × Operand)) (ho : o.op = .build t parts) (cells : Array Value)
    (hf : P.built t (parts.map fun (i, x) => (i, a.eval x)).toList = some cells) (h : K (a.put o.dst (.agg cells)) w) : o.wp P a w K Q :=
  wp_build t parts ho (by rw [hf]; rfl) (by rw [hf]; exact h)

/-- A slice of bools. -/
def Picks (w : World) (ao : Option Addr) (n : Nat) : Prop := ∀ j, j < n → ∃ b o v, ao = some ⟨b, o, none⟩ ∧ w.cell? ⟨b, o + j, none⟩ = some (.bool v)

theorem Picks.below {w w' : World} {ao : Option Addr} {n : Nat} (h : Picks w ao n) (hb : Below w.heap.size w w') : Picks w' ao n := by
  intro j hj
  obtain ⟨b, o, v, rfl, hc⟩ := h j hj
  exact ⟨b, o, v, rfl, (hb.cell (World.block_lt_of_cell? w _ hc)).trans hc⟩

/-- What the build leaves. -/
structure Built (w w' : World) (sb gs S g n gi : Nat) (it : Nat → Int) (f : Nat → Nat) (items : List Int) : Prop where
  vs : Vs w' sb gs S it
  work : w'.cell? ⟨sb, 40, none⟩ = some (.int .i64 0)
  wf : w'.frozen? ⟨sb, 40, none⟩ = false
  rd : Rd w' g n f
  hf : ∀ i, i < n → f i < S
  hn : n ≤ 1024
  hs : Srt it 0 n f
  ir : IRow w' .i64 (some ⟨gi, 0, none⟩) items
  hi : items.Pairwise (· < ·)
  hm : items.length ≤ 1024
  bel : Below w.heap.size w w'
  l1 : w.heap.size ≤ sb
  n1 : sb ≠ gs
  n2 : sb ≠ g
  n3 : sb ≠ gi
  l2 : sb < w'.heap.size
  l3 : gs < w'.heap.size
  l4 : g < w'.heap.size
  l5 : gi < w'.heap.size

set_option maxRecDepth 100000 in
set_option maxHeartbeats 4000000 in
theorem build_c (aS aP aR : Option Addr) (cS nP cP cR : Nat) (zS zR : List Int) (w : World) (hS : IRow w .i8 aS zS) (hP : Picks w aP nP) (hR : IRow w .i8 aR zR) (lS : zS.length ≤ 1024) (lR : zR.length ≤ 1024) (lP : nP ≤ maxLen) (bS : ∀ x ∈ zS, -128 ≤ x ∧ x ≤ 127) (bR : ∀ x ∈ zR, -128 ≤ x ∧ x ≤ 127) :
    Calls Yba.prog 7 #[.slice aS zS.length cS, .slice aP nP cP, .slice aR zR.length cR] w fun e w' =>
      ∃ (sb gs g n c gi ci : Nat) (f : Nat → Nat) (items : List Int), e = .returned (.tuple #[.pointer (some ⟨sb, 0, none⟩), .slice (some ⟨g, 0, none⟩) n c, .slice (some ⟨gi, 0, none⟩) items.length ci]) ∧ Built w w' sb gs zS.length g n gi (fun i => zS[i]?.getD 0) f items := by
  obtain ⟨i0, hi0, hz0, hz1, hz2⟩ := info_parts Yba.info3b
  obtain ⟨i71, hi71, hz71, hs71, hb71⟩ := info_parts Yba.info71b
  unfold maxLen at lP
  go_enter Yba.func7, Yba.ntmps7
  go_wp2_with (at_make; refine wpList_make_full _ rfl _ _ 38 rfl 0 71 i71 (.agg #[.int .i64 0, .int .i64 0, .int .i64 0]) 3 Yba.underlying38 hi71 hz71 hs71 .i64 .i64 _ _ zS.length rfl rfl rfl rfl (by rw [hb71]; omega) (by unfold maxLen; omega) (Nat.zero_le _) ?_; intro w1 hown1 hgrow1)
  have hgs : w.heap.size < w1.heap.size := (hown1.lt w.heap.size rfl).2
  obtain ⟨Bb, hBb⟩ : ∃ x, x = w1.heap.size := ⟨_, rfl⟩
  obtain ⟨gs, hgs'⟩ : ∃ x, x = w.heap.size := ⟨_, rfl⟩
  have HBb : Hid (Bb = w1.heap.size) := hBb
  have HGs : Hid (gs = w.heap.size) := hgs'
  have B1 : Below w.heap.size w (w1.alloc (.cells #[.slice (some ⟨w.heap.size, 0, none⟩) zS.length zS.length] 38)) := ((Below.refl _ w).grown hgrow1 (Nat.le_refl _) (by simp)).alloc (by omega) _
  have hown2 := hown1.alloc (.cells #[.slice (some ⟨w.heap.size, 0, none⟩) zS.length zS.length] 38)
  rw [← hBb, ← hgs']
  rw [← hgs'] at hown2 hown1
  clear hBb hgs'
  go_loopw [22, 33] (fun vi _ wr => ∃ (k : Nat) (zs : List Value), k ≤ zS.length ∧ vi = .int .i64 k ∧ wr.ownsRow 0 71 3 (.slice (some ⟨gs, 0, none⟩) zS.length zS.length) zS.length zs ∧ Hid (∀ i, i < k → zs[i * 3 + 2]? = some (.int .i64 (zS[i]?.getD 0))) ∧ wr.cell? ⟨Bb, 0, none⟩ = some (.slice (some ⟨gs, 0, none⟩) zS.length zS.length) ∧ Below w.heap.size w wr ∧ Hid (wr.heap.size = w1.heap.size + 1)) (fun vi _ _ => zS.length - (intOf vi).toNat)
  case atStart => exact ⟨0, _, Nat.zero_le _, rfl, by rw [HGs.out] at hown2 ⊢; exact hown2, fun i hi => absurd hi (Nat.not_lt_zero _), by rw [HBb.out, HGs.out]; simp, by rw [HGs.out]; exact B1, by show _ = _; simp⟩
  case round =>
    obtain ⟨k, zs, hk, rfl, hown, HZ, hcB, hB, HSz⟩ := hrel
    by_cases hlt : k < zS.length
    · obtain ⟨x, hx⟩ : ∃ x, zS[k]? = some x := ⟨zS[k], by simp [hlt]⟩
      obtain ⟨ga, oa, rfl, hca⟩ := hS k x hx
      have ca : wr.cell? ⟨ga, oa + k, none⟩ = some (.int .i8 x) := (hB.cell (World.block_lt_of_cell? w _ hca)).trans hca
      obtain ⟨bx1, bx2⟩ := bS x (List.mem_of_getElem? hx)
      have hzl : zs.length = zS.length * 3 := hown.1
      have cz := hown.cellAt (k * 3 + 2) (by omega)
      obtain ⟨u, hu⟩ : ∃ u, zs[k * 3 + 2]? = some u := ⟨zs[k * 3 + 2]'(by omega), by simp⟩
      rw [hu] at cz
      have fz := hown.frozenAt (k * 3 + 2)
      have HX : Hid (zS[k]? = some x) := hx
      have HZL : Hid (zs.length = zS.length * 3) := hzl
      clear hx hca hu hzl
      go_wp2
      go_roundw
      case rel =>
        refine ⟨k + 1, zs.set (k * 3 + 2) (.int .i64 x), by omega, by go_num, (hown.stored _ _).1, fun i hi => ?_, (World.cell?_setCell_other _ _ _ _ (by intro e; cases e)).trans hcB, hB.grown (hown.stored (k * 3 + 2) (.int .i64 x)).2 hB.size (fun j e => by cases e; exact Nat.le_of_eq HGs.out.symm), by show _ = _; simpa [World.setCell] using HSz.out⟩
        by_cases e : i = k
        · subst e; rw [HX.out, List.getElem?_set_self (by rw [HZL.out]; omega)]; rfl
        · rw [List.getElem?_set_ne (by omega)]; exact HZ.out i (by omega)
      case measure => simp [intOf]; omega
    · have hke : k = zS.length := by omega
      obtain ⟨wA, hwA⟩ : ∃ x, x = wr := ⟨_, rfl⟩
      subst hwA
      have V0 : ∀ i, i < zS.length → wA.cell? ⟨gs, i * 3 + 2, none⟩ = some (.int .i64 (zS[i]?.getD 0)) := fun i hi => by rw [hown.cellAt _ (by omega)]; exact HZ.out i (by omega)
      have hBbA : Bb + 1 = wA.heap.size := by rw [HSz.out, HBb.out]
      have hgsA : gs < Bb := by rw [HBb.out, HGs.out]; exact hgs
      have HV0 : Hid _ := V0
      have HA1 : Hid (Bb + 1 = wA.heap.size) := hBbA
      clear V0 hBbA HZ HSz hown B1 hown1 hown2 hgrow1 hS bS hlt hk
      subst hke
      have hBA : Bb < wA.heap.size := by have := HA1.out; omega
      have O0 : (wA.alloc (.cells #[] 3)).ownsRow 0 3 1 (.slice (some ⟨wA.heap.size, 0, none⟩) 0 0) 0 ((([] : List Nat).map Int.ofNat).map (Value.int .i64)) :=
        ⟨rfl, .inr ⟨wA.heap.size, 0, #[], rfl, Nat.zero_le _, heap_alloc_new wA _, by simp, by simp [maxLen], rfl, rfl⟩⟩
      go_wp2
      go_loopw [12, 37, 56] (fun vo vi _ wr => ∃ (k g cp : Nat) (ps : List Nat), k ≤ zS.length ∧ vi = .int .i64 k ∧ vo = .slice (some ⟨g, 0, none⟩) ps.length cp ∧ ps.length ≤ k ∧ (∀ p ∈ ps, p < zS.length) ∧ wr.ownsRow 0 3 1 (.slice (some ⟨g, 0, none⟩) ps.length cp) ps.length ((ps.map Int.ofNat).map (Value.int .i64)) ∧ Bb + 1 ≤ g ∧ Below (Bb + 1) wA wr) (fun _ vi _ _ => zS.length - (intOf vi).toNat)
      case atStart => exact ⟨0, wA.heap.size, 0, [], Nat.zero_le _, rfl, rfl, Nat.le_refl _, fun p hp => by simp at hp, O0, Nat.le_of_eq HA1.out, (Below.refl _ wA).alloc (Nat.le_of_eq HA1.out) _⟩
      case round =>
        clear O0
        obtain ⟨k, g, cp, ps, hk, rfl, rfl, hpl, hps, hown, hg, hBr⟩ := hrel
        by_cases hlt : k < zS.length
        · have hwr := hBr.size
          have hsr : Bb + 1 ≤ wr.heap.size := by have := HA1.out; omega
          have hcp := hown
          have APP : Hid (∀ (ao2 : Option Addr) (cp2 : Nat) (w2 : World), w2.ownsRow 0 3 1 (.slice ao2 (ps.length + 1) cp2) (ps.length + 1) ((ps.map Int.ofNat ++ [(k : Int)]).map (Value.int .i64)) → (wr.alloc (.cells #[.int .i64 (k : Int)] 3)).grownBy w2 (Value.slice (some ⟨g, 0, none⟩) ps.length cp).ownBlock → (blk ao2 = (Value.slice (some ⟨g, 0, none⟩) ps.length cp).ownBlock ∨ blk ao2 = some (wr.alloc (.cells #[.int .i64 (k : Int)] 3)).heap.size) →
              ∃ g', ao2 = some ⟨g', 0, none⟩ ∧ w2.ownsRow 0 3 1 (.slice (some ⟨g', 0, none⟩) (ps ++ [k]).length cp2) (ps ++ [k]).length (((ps ++ [k]).map Int.ofNat).map (Value.int .i64)) ∧ Bb + 1 ≤ g' ∧ Below (Bb + 1) wA w2) := by
            intro ao2 cp2 w2 ho hgr ha
            obtain ⟨g', cap', hform⟩ := ownsRow_succ ho
            simp at hform
            obtain ⟨rfl, rfl⟩ := hform
            refine ⟨g', rfl, by rw [List.length_append, List.map_append]; exact ho, ?_, (hBr.alloc hsr _).grown hgr (by simp; omega) (fun j e => by cases e; exact hg)⟩
            rcases ha with e | e
            · simp [blk, Value.ownBlock] at e; omega
            · simp [blk] at e; omega
          by_cases h0 : nP = 0
          · subst h0
            go_wp2_with (at_builtin; refine wpList_app _ rfl (.tmp 52) (.tmp 54) 25 rfl 0 3 i0 (.int .i64 0) 8 Yba.underlying25 hi0 hz0 hz1 hz2 rfl .i64 (.slice (some ⟨g, 0, none⟩) ps.length cp) ps.length (ps.map Int.ofNat) rfl (hown.alloc _) (some ⟨wr.heap.size, 0, none⟩) 1 1 [(k : Int)] rfl rfl (one_rowB _ _ _ _) (by simp) (by unfold maxLen; omega) (by omega) (Nat.zero_le _) ?_; intro ao2 cp2 w2 hown2 hgrow2 hat2 _; obtain ⟨g', rfl, hown3, hg', hB3⟩ := APP.out ao2 cp2 w2 hown2 hgrow2 hat2; clear hown2 hgrow2 hat2)
            go_roundw
            case rel => exact ⟨k + 1, g', cp2, ps ++ [k], by omega, by go_num, by rw [List.length_append]; rfl, by rw [List.length_append]; simp; omega, fun p hp => by rcases List.mem_append.1 hp with e | e; exact hps p e; simp at e; omega, hown3, hg', hB3⟩
            case measure => simp [intOf]; omega
          · obtain ⟨r, hr⟩ : ∃ r : Nat, (k : Int) % nP = r := ⟨((k : Int) % nP).toNat, by have := Int.emod_nonneg (k : Int) (show (nP : Int) ≠ 0 by omega); omega⟩
            have hrn : r < nP := by have := Int.emod_lt_of_pos (k : Int) (show (0 : Int) < nP by omega); omega
            have Bw : Below w.heap.size w wr := hB.trans (hBr.mono (by have := HGs.out; omega))
            obtain ⟨bp, op, v, rfl, hcv⟩ := (hP.below Bw) r hrn
            have q0 : ((nP : Int) == 0) = false := by simp; omega
            have q1 : (r : Int) < nP := by omega
            have q2 : ¬ ((nP : Int) = 0) := by omega
            cases v with
            | true =>
              go_wp2_with (at_builtin; refine wpList_app _ rfl (.tmp 52) (.tmp 54) 25 rfl 0 3 i0 (.int .i64 0) 8 Yba.underlying25 hi0 hz0 hz1 hz2 rfl .i64 (.slice (some ⟨g, 0, none⟩) ps.length cp) ps.length (ps.map Int.ofNat) rfl (hown.alloc _) (some ⟨wr.heap.size, 0, none⟩) 1 1 [(k : Int)] rfl rfl (one_rowB _ _ _ _) (by simp) (by unfold maxLen; omega) (by omega) (Nat.zero_le _) ?_; intro ao2 cp2 w2 hown2 hgrow2 hat2 _; obtain ⟨g', rfl, hown3, hg', hB3⟩ := APP.out ao2 cp2 w2 hown2 hgrow2 hat2; clear hown2 hgrow2 hat2)
              go_roundw
              case rel => exact ⟨k + 1, g', cp2, ps ++ [k], by omega, by go_num, by rw [List.length_append]; rfl, by rw [List.length_append]; simp; omega, fun p hp => by rcases List.mem_append.1 hp with e | e; exact hps p e; simp at e; omega, hown3, hg', hB3⟩
              case measure => simp [intOf]; omega
            | false =>
              go_wp2
              go_roundw
              case rel => exact ⟨k + 1, g, cp, ps, by omega, by go_num, rfl, by omega, hps, hown, hg, hBr⟩
              case measure => simp [intOf]; omega
        · have hke : k = zS.length := by omega
          subst hke
          obtain ⟨wB, hwB⟩ : ∃ x, x = wr := ⟨_, rfl⟩
          subst hwB
          have Rw0 : Rw wB g ps.length (fun i => ps[i]?.getD 0) := by
            refine ⟨fun i hi => ?_, fun i hi => hown.frozenAt i⟩
            rw [hown.cellAt i (by omega)]
            simp [hi]
          have hv0 : ∀ i, i < ps.length → (fun i => ps[i]?.getD 0) i < zS.length := fun i hi => by
            have := hps ps[i] (List.getElem_mem hi)
            simpa [hi] using this
          have Sp0 : Sp wB Bb gs zS.length (fun i => zS[i]?.getD 0) := ⟨(hBr.cell (by simp)).trans hcB, fun i hi => (hBr.cell (by show gs < Bb + 1; omega)).trans (HV0.out i hi)⟩
          have hnB : Bb ≠ g := by omega
          have hng : gs ≠ g := by omega
          have hgB : g < wB.heap.size := (hown.lt g rfl).2
          have hpl2 : ps.length ≤ 1024 := by omega
          have BwB : Below w.heap.size w wB := hB.trans (hBr.mono (by have := HGs.out; omega))
          have hgw : w.heap.size ≤ g := by have := HGs.out; omega
          have HC := sortStable_c g ps.length cp Bb gs zS.length (fun i => zS[i]?.getD 0) _ wB Rw0 hv0 Sp0 hnB hng hpl2
          clear hps hown hBr hcB HV0 hP hlt hk hB Rw0
          obtain ⟨n, hnn⟩ : ∃ n, n = ps.length := ⟨_, rfl⟩
          rw [← hnn] at HC hv0 hpl2 ⊢
          clear hpl hnn
          generalize (fun i : Nat => ps[i]?.getD 0) = f0 at HC hv0
          go_wp2_with fail
          refine HC.mono ?_
          rintro e' w3 ⟨rfl, f, hRf, hIf, hSf, hFf⟩
          have hvf := hIf.bound (Nat.le_refl _) hv0
          have Sp3 := Sp0.fr hFf hnB hng
          have Bw3 : Below w.heap.size w w3 := BwB.trans (hFf.below hgw)
          have hg3 : g < w3.heap.size := by rw [hFf.size]; exact hgB
          have hb3 : Bb < w3.heap.size := by rw [hFf.size]; have := HA1.out; have := BwB.size; exact World.block_lt_of_cell? wB _ Sp0.box
          have O1 : (w3.alloc (.cells #[] 3)).ownsRow 0 3 1 (.slice (some ⟨w3.heap.size, 0, none⟩) 0 0) 0 (([] : List Int).map (Value.int .i64)) :=
            ⟨rfl, .inr ⟨w3.heap.size, 0, #[], rfl, Nat.zero_le _, heap_alloc_new w3 _, by simp, by simp [maxLen], rfl, rfl⟩⟩
          clear HC hIf hFf Sp0 BwB hv0 hgB HA1 hBA
          go_wp2
          go_loopw [14, 63, 72] (fun vo vi _ wr => ∃ (k gi ci : Nat), k ≤ zR.length ∧ vi = .int .i64 k ∧ vo = .slice (some ⟨gi, 0, none⟩) k ci ∧ wr.ownsRow 0 3 1 (.slice (some ⟨gi, 0, none⟩) k ci) k ((zR.take k).map (Value.int .i64)) ∧ w3.heap.size ≤ gi ∧ Below w3.heap.size w3 wr) (fun _ vi _ _ => zR.length - (intOf vi).toNat)
          case atStart => exact ⟨0, w3.heap.size, 0, Nat.zero_le _, rfl, rfl, O1, Nat.le_refl _, (Below.refl _ w3).alloc (Nat.le_refl _) _⟩
          case round =>
            clear O1
            obtain ⟨k, gi, ci, hk, rfl, rfl, hown, hgi, hBr⟩ := hrel
            by_cases hlt : k < zR.length
            · obtain ⟨x, hx⟩ : ∃ x, zR[k]? = some x := ⟨zR[k], by simp [hlt]⟩
              obtain ⟨ga, oa, rfl, hca⟩ := hR k x hx
              have Bwr : Below w.heap.size w wr := Bw3.trans (hBr.mono Bw3.size)
              have ca : wr.cell? ⟨ga, oa + k, none⟩ = some (.int .i8 x) := (Bwr.cell (World.block_lt_of_cell? w _ hca)).trans hca
              obtain ⟨bx1, bx2⟩ := bR x (List.mem_of_getElem? hx)
              have HT : Hid (zR.take (k + 1) = zR.take k ++ [x]) := by
                show zR.take (k + 1) = _
                obtain ⟨_, rfl⟩ := List.getElem?_eq_some_iff.1 hx
                rw [List.take_succ_eq_append_getElem hlt]
              have hwr := hBr.size
              clear hx hca
              go_wp2_with (at_builtin; refine wpList_app _ rfl (.tmp 67) (.tmp 70) 25 rfl 0 3 i0 (.int .i64 0) 8 Yba.underlying25 hi0 hz0 hz1 hz2 rfl .i64 (.slice (some ⟨gi, 0, none⟩) k ci) k (zR.take k) rfl (hown.alloc _) (some ⟨wr.heap.size, 0, none⟩) 1 1 [x] rfl rfl (one_rowB _ _ _ _) (by simp) (by unfold maxLen; omega) (by omega) (Nat.zero_le _) ?_; intro ao2 cp2 w2 hown2 hgrow2 hat2 _)
              obtain ⟨g', cap', hform⟩ := ownsRow_succ hown2
              simp at hform
              obtain ⟨rfl, rfl⟩ := hform
              have hg' : w3.heap.size ≤ g' := by
                rcases hat2 with e | e
                · simp [blk, Value.ownBlock] at e; omega
                · simp [blk] at e; omega
              have hB2 : Below w3.heap.size w3 w2 := (hBr.alloc hwr _).grown hgrow2 (by simp; omega) (fun j e => by cases e; exact hgi)
              go_roundw
              case rel => exact ⟨k + 1, g', cp2, by omega, by go_num, rfl, by rw [HT.out]; exact hown2, hg', hB2⟩
              case measure => simp [intOf]; omega
            · have hke : k = zR.length := by omega
              subst hke
              rw [List.take_length] at hown
              obtain ⟨wC, hwC⟩ : ∃ x, x = wr := ⟨_, rfl⟩
              subst hwC
              have H0 := holds_of_owns hown
              have hgC : gi < wC.heap.size := (hown.lt gi rfl).2
              have hcap := (own_capB hown).1
              have hcap2 := (own_capB hown).2
              have hlS : (zR.mergeSort fun x y => decide (x ≤ y)).length = zR.length := List.length_mergeSort _
              have hsorted : (zR.mergeSort fun x y => decide (x ≤ y)).Pairwise (· ≤ ·) := by
                have := List.pairwise_mergeSort (le := fun x y : Int => decide (x ≤ y)) (by intro a b c h1 h2; simp at h1 h2 ⊢; omega) (by intro a b; simp; omega) zR
                exact this.imp (by intro a b h; simpa using h)
              have HC := Yba.slices_Sort_int gi 0 ci zR wC H0 hgC (by omega)
              clear hown
              go_wp2_with fail
              refine HC.mono ?_
              rintro e' w4 ⟨rfl, nq, os, rfl⟩
              obtain ⟨zs, hzs⟩ : ∃ z, z = zR.mergeSort fun x y => decide (x ≤ y) := ⟨_, rfl⟩
              rw [← hzs] at hlS hsorted ⊢
              have H1 : Holds (Value.int .i64) (Sort.grow (putRow (Value.int .i64) (Sort.ahead wC nq) gi 0 zs.toArray) os) gi 0 zs.toArray :=
                holds_grow _ _ _ _ _ _ (by simpa using hgC) (holds_putRow _ _ _ _ _ _ (holds_ahead _ _ _ _ _ _ H0) (by simpa using hlS))
              have T1 : Ot gi wC (Sort.grow (putRow (Value.int .i64) (Sort.ahead wC nq) gi 0 zs.toArray) os) := (Ot.put wC _).trans (Ot.grow _ _)
              generalize Sort.grow (putRow (Value.int .i64) (Sort.ahead wC nq) gi 0 zs.toArray) os = w4 at H1 T1 ⊢
              have HC2 := Yba.slices_Compact_int gi 0 ci zs w4 H1 (by omega) (by omega)
              rw [hlS] at HC2
              clear hzs HC H0
              go_wp2_with fail
              refine HC2.mono ?_
              rintro e' w5 ⟨rfl, nq2, hw5⟩
              rw [← hlS] at hw5
              have hcl : (Lib.compact zs).length ≤ zs.length := Lib.compact_length_le zs
              have hcs : (Lib.compact zs).Pairwise (· < ·) := compact_lt zs hsorted
              have hrl : (Lib.compact zs ++ List.replicate (zs.length - (Lib.compact zs).length) 0).length = zs.length := by
                rw [List.length_append, List.length_replicate]; omega
              have H2 : Holds (Value.int .i64) w5 gi 0 (Lib.compact zs ++ List.replicate (zs.length - (Lib.compact zs).length) 0).toArray := by
                rw [hw5]; exact holds_putRow (Value.int .i64) (Sort.ahead w4 nq2) gi 0 zs.toArray _ (holds_ahead _ _ _ _ _ _ H1) (by simpa using hrl)
              have T2 : Ot gi wC w5 := by rw [hw5]; exact T1.trans (Ot.put w4 _)
              have hIR := row_of_holds H2 (Lib.compact zs).length
              rw [List.take_left] at hIR
              clear hw5 H2 hrl
              generalize Lib.compact zs = items at hcl hcs hIR ⊢
              have hil : items.length ≤ 1024 := by omega
              clear H1 T1 HC2 hsorted hlS
              have hw35 : ∀ k, k < w3.heap.size → w5.heap[k]? = w3.heap[k]? := fun k hk => (T2.block k (by have := hBr.size; omega) (by omega)).trans (hBr.block k hk)
              have hs5 : w3.heap.size ≤ w5.heap.size := Nat.le_trans hBr.size T2.size
              have hg5 : gi < w5.heap.size := Nat.lt_of_lt_of_le hgC T2.size
              have hcB5 : w5.cell? ⟨Bb, 0, none⟩ = some (.slice (some ⟨gs, 0, none⟩) zS.length zS.length) := (World.cell?_of_block (w := w3) (hw35 Bb hb3)).trans Sp3.box
              have hB5 : Below w.heap.size w w5 := Bw3.trans ((hBr.mono Bw3.size).trans (T2.below (by have := Bw3.size; omega) (by have := Bw3.size; have := hBr.size; omega)))
              obtain ⟨zc, hzc, hz⟩ := Option.map_eq_some_iff.1 (Yba.built57 gs zS.length)
              simp only [Prod.mk.injEq] at hz
              obtain ⟨z2, z40⟩ := hz
              have hgs3 : gs < w3.heap.size := by omega
              go_wp2
              refine wp_builtB 57 #[(1, .tmp 77)] rfl zc (by simp only [List.map_toArray, List.map_cons, List.map_nil]; exact hzc) ?_
              go_wp2
              have hblk : (w5.alloc (.cells zc 57)).heap[w5.heap.size]? = some (.cells zc 57) := heap_alloc_new w5 _
              have hw36 : ∀ k, k < w3.heap.size → (w5.alloc (.cells zc 57)).heap[k]? = w3.heap[k]? := fun k hk => (Below.heap_alloc _ _ _ (by omega)).trans (hw35 k hk)
              go_ret3
              refine ⟨w5.heap.size, gs, g, n, cp, gi, ci, f, items, rfl, ⟨⟨?_, fun i hi => ?_⟩, ?_, ?_, fun i hi => ?_, hvf, hpl2, hSf, hIR.alloc _, hcs, hil, hB5.alloc hB5.size _, hB5.size, by omega, by omega, by omega, by simp, by simp; omega, by simp; omega, by simp; omega⟩⟩
              · rw [cell_of_row _ w5.heap.size 2 zc 57 (0, 0) hblk]; exact z2
              · exact (World.cell?_of_block (w := w3) (hw36 gs hgs3)).trans (Sp3.item i hi)
              · rw [cell_of_row _ w5.heap.size 40 zc 57 (0, 0) hblk]; exact z40
              · clear hblk; simp
              · exact (World.cell?_of_block (w := w3) (hw36 g hg3)).trans (hRf.cell i hi)

end Go.Proofs.Ybulkbxog
