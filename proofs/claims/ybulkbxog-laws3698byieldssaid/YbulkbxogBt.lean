/-
  Law B: 'LawS3698BYields' walked.
-/
import Derived.Test.YbulkbxogBq
namespace Go.Proofs.Ybulkbxog
open Go.RowKit Go.Shelf

attribute [local go_sem] Oper.semAt_some

set_option maxRecDepth 100000 in
set_option maxHeartbeats 4000000 in
theorem law3_ok (aS aP aR : Option Addr) (cS nP cP cR : Nat) (zS zR : List Int) (st : Int) (w : World) (hS : IRow w .i8 aS zS) (hP : Picks w aP nP) (hR : IRow w .i8 aR zR) (lS : zS.length ≤ 1024) (lR : zR.length ≤ 1024) (lP : nP ≤ maxLen) (bS : ∀ x ∈ zS, -128 ≤ x ∧ x ≤ 127) (bR : ∀ x ∈ zR, -128 ≤ x ∧ x ≤ 127) (hst0 : 0 ≤ st) (hst1 : st ≤ 255) :
    Calls Yba.prog 3 #[.slice aS zS.length cS, .slice aP nP cP, .slice aR zR.length cR, .int .u8 st] w fun e w' => e = .returned (.bool true) ∧ Below w.heap.size w w' := by
  obtain ⟨i0, hi0, hz0, hz1, hz2⟩ := info_parts Yba.info3b
  have HB := build_c aS aP aR cS nP cP cR zS zR w hS hP hR lS lR lP bS bR
  have d1 : decide ((1024 : Int) < zS.length) = false := by simp; omega
  have d2 : decide ((1024 : Int) < zR.length) = false := by simp; omega
  clear hS hP hR bS bR lP
  obtain ⟨lim, hlim, hlim12⟩ : ∃ lim : Nat, st % 12 = (lim : Int) ∧ lim < 12 := ⟨(st % 12).toNat, by omega, by omega⟩
  have hw1 : wrap64 st = st := by unfold wrap64; omega
  have hrm : st.tmod 12 = (lim : Int) := by rw [Int.tmod_eq_emod_of_nonneg hst0]; exact hlim
  refine (callsIn_wide (n := 6)).1 ?_
  refine callsIn_of_wp_marks Yba.func3 rfl trivial ?_ rfl
  simp only [Yba.ntmps3, List.size_toArray, List.length_cons, List.length_nil, Nat.reduceAdd, Nat.reduceSub, Array.replicate_succ, Array.replicate_zero, List.push_toArray, List.append_toArray, List.nil_append, List.cons_append]
  refine wpIn_wide.2 ?_
  go_wp2_with fail
  refine HB.mono ?_
  rintro e w1 ⟨sb, gs, g, n, c, gi, ci, f, items, rfl, hb⟩
  have HE := expect_c sb gs zS.length g n c (fun i => zS[i]?.getD 0) f (some ⟨gi, 0, none⟩) ci items w1 hb.vs hb.rd hb.hf hb.ir hb.hn hb.hm
  clear HB
  go_wp2_with fail
  refine HE.mono ?_
  rintro e w2 ⟨aw, cw, rfl, hown, hat, hB2⟩
  obtain ⟨want, hwant⟩ : ∃ x, x = wantOf (fun i => zS[i]?.getD 0) f items n := ⟨_, rfl⟩
  rw [← hwant] at hown ⊢
  have hwl : want.length ≤ 1024 := by rw [hwant]; have := wantOf_len (fun i => zS[i]?.getD 0) f items n; have := hb.hn; omega
  have HWa : Hid (want = wantOf (fun i => zS[i]?.getD 0) f items n) := hwant
  clear hwant HE
  have hn := hb.hn
  have hm := hb.hm
  go_upto_region 6 with fail
  obtain ⟨w3, hw3⟩ : ∃ x, x = w2.alloc (.cells #[.int .i64 (lim : Int)] 3) := ⟨_, rfl⟩
  rw [← hw3]
  have hlc : w3.cell? ⟨w2.heap.size, 0, none⟩ = some (.int .i64 (lim : Int)) := by rw [hw3]; simp
  have hs23 : Hid (w3.heap.size = w2.heap.size + 1) := by show _ = _; rw [hw3]; simp
  have hB3 : Below w2.heap.size w2 w3 := by rw [hw3]; exact (Below.refl _ w2).alloc (Nat.le_refl _) _
  have hcap : want.length ≤ cw := by
    rcases hown.2 with ⟨_, h0⟩ | ⟨g', cap, cur, h', _, hgb, hsz, _⟩
    · omega
    · simp at h'; omega
  clear hw3
  have hgw : ∀ k, blk aw = some k → k < w2.heap.size := by
    intro k hk
    rcases hown.2 with ⟨h', h0⟩ | ⟨g', cap, cur, h', _, hgb, _⟩
    · simp at h'; rw [h'.1] at hk; simp [blk] at hk
    · simp at h'; rw [h'.1] at hk; simp [blk] at hk; rw [← hk]; exact (Array.getElem?_eq_some_iff.1 hgb).1
  obtain ⟨bl, hbl⟩ : ∃ b : Bool, b = decide (0 < lim ∧ lim < want.length) := ⟨_, rfl⟩
  have HBl : Hid (bl = decide (0 < lim ∧ lim < want.length)) := hbl
  clear hbl
  go_cut [46] from 39 to 46 (fun v wx => wx = w3 ∧ v = .bool bl)
  case first =>
    by_cases hl0 : lim = 0
    · have dl : decide ((0 : Int) < lim) = false := by simp; omega
      go_wp2
      go_meet
      case rel => exact ⟨rfl, by rw [HBl.out]; simp [hl0]⟩
    · have dl : decide ((0 : Int) < lim) = true := by simp; omega
      go_wp2
      go_meet
      case rel => exact ⟨rfl, by rw [HBl.out]; congr 1; rw [decide_eq_decide]; omega⟩
  case rest =>
    obtain ⟨rfl, rfl⟩ := hcut
    obtain ⟨w3, hw3⟩ : ∃ x, x = wc := ⟨_, rfl⟩
    subst hw3
    go_upto_if 46 with fail
    obtain ⟨wl, hwlE⟩ : ∃ l, l = if 0 < lim ∧ lim < want.length then want.take lim else want := ⟨_, rfl⟩
    have HWl : Hid (wl = if 0 < lim ∧ lim < want.length then want.take lim else want) := hwlE
    clear hwlE
    go_cut [12] from 46 to 49 (fun v wx => wx = w3 ∧ v = .slice aw wl.length cw)
    case first =>
      by_cases hl : 0 < lim ∧ lim < want.length
      · have dl : bl = true := by rw [HBl.out]; simp; omega
        subst dl
        go_wp2
        go_meet
        case rel => exact ⟨rfl, by rw [HWl.out, if_pos hl, List.length_take, Nat.min_eq_left (by omega)]⟩
      · have dl : bl = false := by rw [HBl.out]; simp; omega
        subst dl
        go_wp2
        go_meet
        case rel => exact ⟨rfl, by rw [HWl.out, if_neg hl]⟩
    case rest =>
      obtain ⟨rfl, rfl⟩ := hcut
      obtain ⟨w3, hw3⟩ : ∃ x, x = wc := ⟨_, rfl⟩
      subst hw3
      have hlc4 : Hid (w3.cell? ⟨w2.heap.size, 0, none⟩ = some (.int .i64 (lim : Int))) := hlc
      have hB2o := hB2
      replace hB2 : Below w1.heap.size w1 w3 := hB2.trans (hB3.mono hB2.size)
      clear hlc
      go_wp2_with fail
      refine (spansOf_c _ _ _ _ _ _ _ _).mono ?_
      rintro e w4 ⟨rfl, hw4⟩
      simp only [World.size_alloc] at hw4 ⊢
      have hsz4 : w4.heap.size = w3.heap.size + 5 := by rw [hw4]; simp
      have hB4 : Below w3.heap.size w3 w4 := by
        rw [hw4]; exact (((((Below.refl _ w3).alloc (Nat.le_refl _) _).alloc (by simp) _).alloc (by simp; omega) _).alloc (by simp; omega) _).alloc (by simp; omega) _
      have hsb3 : sb < w3.heap.size := World.block_lt_of_cell? w3 _ (hb.vs.below hB2).spans
      have hq3 : IRow w3 .i64 (some ⟨gi, 0, none⟩) items := hb.ir.below hB2
      have hs3 := hB2.size
      have hw1 := hb.bel.size
      have blt : ∀ b, b = sb ∨ b = gs ∨ b = g ∨ b = gi → b < w3.heap.size := by
        have := hb.l2
        have := hb.l3
        have := hb.l4
        have := hb.l5
        omega
      have q4 : IQ (w3.heap.size + 1 + 1 + 1) (w3.heap.size + 1 + 1 + 2) (w3.heap.size + 1 + 1) sb gs zS.length g n c gi ci (fun i => zS[i]?.getD 0) f items w4 := by
        refine ⟨?_, ?_, ?_, (hb.vs.below hB2).below hB4, (hb.rd.below hB2).below hB4, hq3.below hB4⟩
        · exact cell_of_row w4 _ 0 _ 25 (0, 0) (by rw [hw4]; exact (heap5 w3 _ _ _ _ _).2.2.2.1)
        · exact cell_of_row w4 _ 0 _ 25 (0, 0) (by rw [hw4]; exact (heap5 w3 _ _ _ _ _).2.2.2.2)
        · exact cell_of_row w4 _ 0 _ 24 (0, 0) (by rw [hw4]; exact (heap5 w3 _ _ _ _ _).2.2.1)
      have wk4 : Wk sb 0 w4 := by
        have e := hB4.block sb hsb3
        have e2 := hB2.block sb hb.l2
        exact ⟨(World.cell?_of_block (w := w1) (e.trans e2)).trans hb.work, (World.frozen?_of_block (w := w1) (e.trans e2)).trans hb.wf⟩
      have log4 : GotAt (w3.heap.size + 1) w3.heap.size [] w4 := by
        refine ⟨0, ?_, rfl, .inr ⟨w3.heap.size, 0, #[], rfl, Nat.zero_le _, ?_, by simp, by simp [maxLen], rfl, rfl⟩⟩
        · show w4.heap[_]? = _
          rw [hw4]; exact (heap5 w3 _ _ _ _ _).2.1
        · rw [hw4]; exact (heap5 w3 _ _ _ _ _).1
      have lt4 : ∀ b, b = w3.heap.size + 1 + 1 + 1 ∨ b = w3.heap.size + 1 + 1 + 2 ∨ b = w3.heap.size + 1 + 1 ∨ b = sb ∨ b = gs ∨ b = g ∨ b = gi → b < w4.heap.size ∧ b ≠ w3.heap.size + 1 ∧ b ≠ w3.heap.size := by
        intro b hb'
        rw [hsz4]
        have := blt b
        omega
      have SQ := iter_seq (6 - 1) (w3.heap.size + 1 + 1 + 1) (w3.heap.size + 1 + 1 + 2) (w3.heap.size + 1 + 1) sb gs zS.length g n c gi ci (w3.heap.size + 1) w3.heap.size (fun i => zS[i]?.getD 0) f items (by omega) (by omega) (by omega) (Ne.symm hb.n1) (Ne.symm hb.n2) (Ne.symm hb.n3) hb.hf hb.hn hb.hm hb.hi hb.hs w4 lt4 q4 wk4
      rw [← HWa.out] at SQ
      have hBw4 : Below w.heap.size w w4 := hb.bel.trans ((hB2.mono hw1).trans (hB4.mono (by omega)))
      have hl1 := hb.l1
      have hIRw : IRow w3 .i64 aw want := (IRow.ofOwns hown).below hB3
      have hl2 := hb.l2
      have hlim5 : ∀ W, K3 w4.heap.size (w3.heap.size + 1) w3.heap.size sb w4 W → W.cell? ⟨w2.heap.size, 0, none⟩ = some (.int .i64 (lim : Int)) := by
        intro W hK
        have h2 : w2.heap.size < w3.heap.size := by have := hs23.out; omega
        exact ((hK.cell (p := ⟨w2.heap.size, 0, none⟩) (by show w2.heap.size < _; omega) (by show w2.heap.size ≠ _; omega) (by show w2.heap.size ≠ _; omega) (by show w2.heap.size ≠ _; have := hB2o.size; have := hb.l2; omega)).trans (hB4.cell (p := ⟨w2.heap.size, 0, none⟩) h2)).trans hlc4.out
      clear hw4 q4 wk4 hq3 hown hB2 hb
      go_wp2_with fail
      refine wpIn_wide.1 (range_st (n := 6) (by omega) (gf := 22) (lb := #[.pointer (some ⟨w3.heap.size + 1 + 1 + 1, 0, none⟩), .pointer (some ⟨w3.heap.size + 1 + 1 + 2, 0, none⟩), .pointer (some ⟨w3.heap.size + 1 + 1, 0, none⟩)]) rfl (enters_of Yba.func22 (by kernel_rfl) rfl) (fun X Y h => h.keeps) ?hfin SQ (fun h k => h.trans k)
        (fun W l o o' hl ho h1 => ⟨rfl, rfl, rfl, by simp, fun k hk _ _ => World.putObj_heap_other (by omega)⟩)
        (fun pre W => ((∃ g', GotAt (w3.heap.size + 1) g' pre W ∧ (g' = w3.heap.size ∨ w4.heap.size ≤ g')) ∧ K3 w4.heap.size (w3.heap.size + 1) w3.heap.size sb w4 W) ∧ (lim = 0 ∨ pre.length < lim))
        (fun c pre W => ((∃ g', GotAt (w3.heap.size + 1) g' pre W ∧ (g' = w3.heap.size ∨ w4.heap.size ≤ g')) ∧ K3 w4.heap.size (w3.heap.size + 1) w3.heap.size sb w4 W) ∧ (0 < lim ∧ pre.length = lim ∧ c = .exit 0))
        (OwnFrom.and (OwnFrom.and (ownFrom_exB _ fun g => (GotAt.own _ g).from _) (k3_own _ _ _ _ _ rfl)) (fun s X Y row h _ _ => h))
        (fun c => OwnFrom.and (OwnFrom.and (ownFrom_exB _ fun g => (GotAt.own _ g).from _) (k3_own _ _ _ _ _ rfl)) (fun s X Y row h _ _ => h)) ?hIs ⟨⟨⟨_, log4, .inl rfl⟩, K3.refl _ _ _ _ _⟩, by simp; omega⟩
        (fun x => { tmps := List.toArray (Value.slice aS zS.length cS :: Value.slice aP nP cP :: Value.slice aR zR.length cR :: Value.int IntKind.u8 st :: undef :: undef :: undef :: undef :: Value.bool false :: Value.pointer (some ⟨sb, 0, none⟩) :: Value.slice (some ⟨g, 0, none⟩) n c :: Value.slice (some ⟨gi, 0, none⟩) items.length ci :: Value.slice aw wl.length cw :: Value.pointer (some ⟨w2.heap.size, 0, none⟩) :: Value.pointer (some ⟨w3.heap.size + 1, 0, none⟩) :: .int .i64 x :: Value.slice aS zS.length cS :: Value.int IntKind.i64 (zS.length : Int) :: Value.bool false :: Value.bool false :: Value.slice aR zR.length cR :: Value.int IntKind.i64 (zR.length : Int) :: Value.bool false :: Value.bool false :: Value.tuple #[Value.pointer (some ⟨sb, 0, none⟩), Value.slice (some ⟨g, 0, none⟩) n c, Value.slice (some ⟨gi, 0, none⟩) items.length ci] :: Value.slice aS zS.length cS :: Value.slice aP nP cP :: Value.slice aR zR.length cR :: Value.tuple #[Value.pointer (some ⟨sb, 0, none⟩), Value.slice (some ⟨g, 0, none⟩) n c, Value.slice (some ⟨gi, 0, none⟩) items.length ci] :: Value.pointer (some ⟨sb, 0, none⟩) :: Value.slice (some ⟨g, 0, none⟩) n c :: Value.slice (some ⟨gi, 0, none⟩) items.length ci :: Value.pointer (some ⟨sb, 0, none⟩) :: Value.slice (some ⟨g, 0, none⟩) n c :: Value.slice (some ⟨gi, 0, none⟩) items.length ci :: Value.slice aw want.length cw :: Value.int IntKind.u8 st :: Value.int IntKind.i64 st :: Value.int IntKind.i64 (lim : Int) :: u39 :: u40 :: u41 :: u42 :: u43 :: u44 :: u45 :: u46 :: u47 :: u48 :: u49 :: Value.slice (some ⟨w3.heap.size, 0, none⟩) 0 0 :: Value.pointer (some ⟨sb, 0, none⟩) :: Value.slice (some ⟨g, 0, none⟩) n c :: Value.slice (some ⟨gi, 0, none⟩) items.length ci :: Value.func (Fn.func 22) #[] #[Value.pointer (some ⟨w3.heap.size + 1 + 1 + 1, 0, none⟩), Value.pointer (some ⟨w3.heap.size + 1 + 1 + 2, 0, none⟩), Value.pointer (some ⟨w3.heap.size + 1 + 1, 0, none⟩)] :: .int .i64 x :: undef :: undef :: undef :: undef :: undef :: undef :: undef :: undef :: undef :: undef :: undef :: undef :: undef :: undef :: undef :: []), defers := [] }) ?assign ?body ?done ?stop)
      case hfin => exact fin_own _ _ _ _ (by omega)
      case hIs =>
        rintro pre X Y ⟨⟨⟨g', hg, hg'⟩, hk⟩, hl⟩ hs
        exact ⟨⟨⟨g', hg.st hs (by omega) (by omega), hg'⟩, hk.st hs⟩, hl⟩
      case assign =>
        intro l x W K hK
        gi_wp2
        exact hK
      case body =>
        rintro l pre x W ⟨⟨⟨g', hG, hg'⟩, hK⟩, hl⟩ hlen
        have hsW := hK.size
        obtain ⟨cp, hv, hr⟩ := hG
        have hc := hv.cell
        have hf := hv.frozen
        by_cases hl0 : lim = 0
        · have dl : decide ((0 : Int) < lim) = false := by simp; omega
          gi_wp2_with (refine wpListIn_app _ rfl (.tmp 56) (.tmp 58) 25 rfl 0 3 i0 (.int .i64 0) 8 Yba.underlying25 hi0 hz0 hz1 hz2 rfl .i64 (.slice (some ⟨g', 0, none⟩) pre.length cp) pre.length _ rfl (hr.alloc _) (some ⟨W.heap.size, 0, none⟩) 1 1 [x] rfl rfl (one_rowB _ _ _ _) (by simp) (by unfold maxLen; omega) (by omega) (Nat.zero_le _) ?_; intro ao2 cp2 w5 hown2 hgrow2 hat2; obtain ⟨hv1, g2, rfl, hG2, hg2, hKb, hO⟩ := GotAt.step hv hr hown2 hgrow2 (by simpa [Value.ownBlock] using hat2); have hc1 := hv1.cell; have hf1 := hv1.frozen; have hlW := hlim5 _ (hK.kb (kb_stepB hKb hsW hg')); have hlW5 := (World.cell?_setCell_other w5 ⟨w3.heap.size + 1, 0, none⟩ ⟨w2.heap.size, 0, none⟩ (.slice (some ⟨g2, 0, none⟩) (pre.length + 1) cp2) (by simp; have := hs23.out; omega)).symm.trans hlW)
          have hK4 := kb_stepB hKb hsW hg'
          exact ⟨hO, hK4, ⟨⟨g2, hG2, by omega⟩, hK.kb hK4⟩, .inl hl0⟩
        · have dl : decide ((0 : Int) < lim) = true := by simp; omega
          have hl' : pre.length < lim := by omega
          by_cases hr2 : pre.length + 1 = lim
          · have dg : decide ((lim : Int) ≤ (pre.length : Int) + 1) = true := by simp; omega
            have Hr2 : Hid (pre.length + 1 = lim) := hr2
            clear hr2
            gi_wp2_with (refine wpListIn_app _ rfl (.tmp 56) (.tmp 58) 25 rfl 0 3 i0 (.int .i64 0) 8 Yba.underlying25 hi0 hz0 hz1 hz2 rfl .i64 (.slice (some ⟨g', 0, none⟩) pre.length cp) pre.length _ rfl (hr.alloc _) (some ⟨W.heap.size, 0, none⟩) 1 1 [x] rfl rfl (one_rowB _ _ _ _) (by simp) (by unfold maxLen; omega) (by omega) (Nat.zero_le _) ?_; intro ao2 cp2 w5 hown2 hgrow2 hat2; obtain ⟨hv1, g2, rfl, hG2, hg2, hKb, hO⟩ := GotAt.step hv hr hown2 hgrow2 (by simpa [Value.ownBlock] using hat2); have hc1 := hv1.cell; have hf1 := hv1.frozen; have hlW := hlim5 _ (hK.kb (kb_stepB hKb hsW hg')); have hlW5 := (World.cell?_setCell_other w5 ⟨w3.heap.size + 1, 0, none⟩ ⟨w2.heap.size, 0, none⟩ (.slice (some ⟨g2, 0, none⟩) (pre.length + 1) cp2) (by simp; have := hs23.out; omega)).symm.trans hlW)
            have hK4 := kb_stepB hKb hsW hg'
            exact ⟨hO, ⟨⟨g2, hG2, by omega⟩, hK.kb hK4⟩, by omega, by simpa using Hr2.out, rfl⟩
          · have dg : decide ((lim : Int) ≤ (pre.length : Int) + 1) = false := by simp; omega
            gi_wp2_with (refine wpListIn_app _ rfl (.tmp 56) (.tmp 58) 25 rfl 0 3 i0 (.int .i64 0) 8 Yba.underlying25 hi0 hz0 hz1 hz2 rfl .i64 (.slice (some ⟨g', 0, none⟩) pre.length cp) pre.length _ rfl (hr.alloc _) (some ⟨W.heap.size, 0, none⟩) 1 1 [x] rfl rfl (one_rowB _ _ _ _) (by simp) (by unfold maxLen; omega) (by omega) (Nat.zero_le _) ?_; intro ao2 cp2 w5 hown2 hgrow2 hat2; obtain ⟨hv1, g2, rfl, hG2, hg2, hKb, hO⟩ := GotAt.step hv hr hown2 hgrow2 (by simpa [Value.ownBlock] using hat2); have hc1 := hv1.cell; have hf1 := hv1.frozen; have hlW := hlim5 _ (hK.kb (kb_stepB hKb hsW hg')); have hlW5 := (World.cell?_setCell_other w5 ⟨w3.heap.size + 1, 0, none⟩ ⟨w2.heap.size, 0, none⟩ (.slice (some ⟨g2, 0, none⟩) (pre.length + 1) cp2) (by simp; have := hs23.out; omega)).symm.trans hlW)
            have hK4 := kb_stepB hKb hsW hg'
            exact ⟨hO, hK4, ⟨⟨g2, hG2, by omega⟩, hK.kb hK4⟩, .inr (by simp; omega)⟩
      case done =>
        rintro D xs W hD ⟨hxs, hwk⟩ ⟨⟨⟨g', hG, hg'⟩, hK⟩, hl⟩ hKd
        have hxw : wl = xs := by
          rw [HWl.out, hxs]
          rw [if_neg]
          rw [← hxs]; omega
        subst hxw
        have hrow := hG.row
        obtain ⟨cp, hv, _⟩ := hG
        have hc := hv.cell
        have hwlen : wl.length ≤ 1024 := by
          have h1 : wl.length ≤ want.length := by rw [HWl.out]; split <;> simp <;> omega
          omega
        have hrw : IRow W .i64 aw wl := by
          intro j x hj
          have hj' : want[j]? = some x := by
            rw [HWl.out] at hj
            split at hj
            · rw [List.getElem?_take] at hj
              split at hj
              · exact hj
              · cases hj
            · exact hj
          obtain ⟨gw, ow, rfl, hcw⟩ := hIRw j x hj'
          have h1 := hat gw rfl
          have h2 : gw < w2.heap.size := hgw gw rfl
          exact ⟨gw, ow, rfl, ((hK.cell (p := ⟨gw, ow + j, none⟩) (by show gw < w4.heap.size; have := hs23.out; omega) (by show gw ≠ _; have := hs23.out; omega) (by show gw ≠ _; have := hs23.out; omega) (by show gw ≠ _; omega)).trans (hB4.cell (p := ⟨gw, ow + j, none⟩) (by show gw < _; have := hs23.out; omega))).trans hcw⟩
        have HEq := eq10 (some ⟨g', 0, none⟩) aw cp cw wl W hrow hrw hwlen
        have hBW : Below w.heap.size w W := hBw4.trans (hK.below (by omega) (by omega) (by omega) hl1)
        clear SQ hIRw log4 lt4 blt hrow hrw hv hxs hl
        go_wp2_with fail
        refine HEq.mono ?_
        rintro e W2 ⟨rfl, q, rfl⟩
        go_wp2
        refine ⟨by simp, .inl ⟨_, _, rfl, run_takeDeferred (show (W.drewN q).heap[D]? = _ from hKd), ?_⟩⟩
        exact ⟨_, results_tmp rfl _ _ _, rfl, below_putObjB (B := w.heap.size) (W := W.drewN q) ⟨hBW.os, hBW.tape, hBW.output, hBW.size, hBW.block⟩ (by omega)⟩
      case stop =>
        rintro D c pre W hD hpre ⟨⟨⟨g', hG, hg'⟩, hK⟩, hl0, hl, rfl⟩ hKd
        have hxw : wl = pre := by
          have hle := hpre.length_le
          have ht : want.take lim = pre := by rw [← hl]; exact (List.prefix_iff_eq_take.1 hpre).symm
          by_cases hlt : lim < want.length
          · rw [HWl.out, if_pos ⟨hl0, hlt⟩, ht]
          · rw [HWl.out, if_neg (by omega), ← ht, List.take_of_length_le (by omega)]
        subst hxw
        refine wpIn_exit ?_
        have hrow := hG.row
        obtain ⟨cp, hv, _⟩ := hG
        have hc := hv.cell
        have hwlen : wl.length ≤ 1024 := by
          have h1 : wl.length ≤ want.length := by rw [HWl.out]; split <;> simp <;> omega
          omega
        have hrw : IRow W .i64 aw wl := by
          intro j x hj
          have hj' : want[j]? = some x := by
            rw [HWl.out] at hj
            split at hj
            · rw [List.getElem?_take] at hj
              split at hj
              · exact hj
              · cases hj
            · exact hj
          obtain ⟨gw, ow, rfl, hcw⟩ := hIRw j x hj'
          have h1 := hat gw rfl
          have h2 : gw < w2.heap.size := hgw gw rfl
          exact ⟨gw, ow, rfl, ((hK.cell (p := ⟨gw, ow + j, none⟩) (by show gw < w4.heap.size; have := hs23.out; omega) (by show gw ≠ _; have := hs23.out; omega) (by show gw ≠ _; have := hs23.out; omega) (by show gw ≠ _; omega)).trans (hB4.cell (p := ⟨gw, ow + j, none⟩) (by show gw < _; have := hs23.out; omega))).trans hcw⟩
        have HEq := eq10 (some ⟨g', 0, none⟩) aw cp cw wl W hrow hrw hwlen
        have hBW : Below w.heap.size w W := hBw4.trans (hK.below (by omega) (by omega) (by omega) hl1)
        clear SQ hIRw log4 lt4 blt hrow hrw hv hl hl0 hpre
        go_wp2_with fail
        refine HEq.mono ?_
        rintro e W2 ⟨rfl, q, rfl⟩
        go_wp2
        refine ⟨by simp, .inl ⟨_, _, rfl, run_takeDeferred (show (W.drewN q).heap[D]? = _ from hKd), ?_⟩⟩
        exact ⟨_, results_tmp rfl _ _ _, rfl, below_putObjB (B := w.heap.size) (W := W.drewN q) ⟨hBW.os, hBW.tape, hBW.output, hBW.size, hBW.block⟩ (by omega)⟩

end Go.Proofs.Ybulkbxog
