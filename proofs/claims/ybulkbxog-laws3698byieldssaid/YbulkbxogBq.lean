/-
  Law B: 'LawS3698BWork' walked.
-/
import Derived.Test.YbulkbxogBp
namespace Go.Proofs.Ybulkbxog
open Go.RowKit Go.Shelf

attribute [local go_sem] Oper.semAt_some

theorem eq10 (ao bo : Option Addr) (ca cb : Nat) (xs : List Int) (w : World) (ha : IRow w .i64 ao xs) (hb : IRow w .i64 bo xs) (hl : xs.length ≤ 1024) :
    Calls Yba.prog 10 #[.slice ao xs.length ca, .slice bo xs.length cb] w fun e w' => e = .returned (.bool true) ∧ ∃ q, w' = w.drewN q := by
  by_cases h0 : xs.length = 0
  · rw [h0]
    refine (Yba.slices_Equal_int_empty ao bo ca 0 cb w (by omega)).mono ?_
    rintro e w' ⟨rfl, rfl⟩
    exact ⟨by simp, 0, rfl⟩
  · obtain ⟨g1, o1, rfl, h1⟩ := ha.at (by omega)
    obtain ⟨g2, o2, rfl, h2⟩ := hb.at (by omega)
    refine (Yba.slices_Equal_int g1 o1 xs.length ca g2 o2 xs.length cb xs xs w (Nat.le_refl _) (Nat.le_refl _) (by omega) (by omega) (fun j hj => by rw [h1 j hj]; simp [List.getD]) (fun j hj => by rw [h2 j hj]; simp [List.getD])).mono ?_
    rintro e w' ⟨rfl, q, rfl⟩
    exact ⟨by simp, q, rfl⟩

theorem fin_own (sb n : Nat) (want : List Int) (v : Int) (h : sb < n) : OwnFrom n (fun (xs : List Int) Y => xs = want ∧ Wk sb v Y) := by
  intro s X Y row hs hg hr
  have hlt := World.block_lt_of_cell? X _ hs.2.1
  have e := hg.block sb hlt (fun e => by have := (hr sb e.symm).1; omega)
  exact ⟨hs.1, (World.cell?_of_block (w := X) e).trans hs.2.1, (World.frozen?_of_block (w := X) e).trans hs.2.2⟩

set_option maxRecDepth 100000 in
set_option maxHeartbeats 4000000 in
theorem law4_ok (aS aP aR : Option Addr) (cS nP cP cR : Nat) (zS zR : List Int) (w : World) (hS : IRow w .i8 aS zS) (hP : Picks w aP nP) (hR : IRow w .i8 aR zR) (lS : zS.length ≤ 1024) (lR : zR.length ≤ 1024) (lP : nP ≤ maxLen) (bS : ∀ x ∈ zS, -128 ≤ x ∧ x ≤ 127) (bR : ∀ x ∈ zR, -128 ≤ x ∧ x ≤ 127) :
    Calls Yba.prog 4 #[.slice aS zS.length cS, .slice aP nP cP, .slice aR zR.length cR] w fun e w' => e = .returned (.bool true) ∧ Below w.heap.size w w' := by
  obtain ⟨i0, hi0, hz0, hz1, hz2⟩ := info_parts Yba.info3b
  have HB := build_c aS aP aR cS nP cP cR zS zR w hS hP hR lS lR lP bS bR
  have d1 : decide ((1024 : Int) < zS.length) = false := by simp; omega
  have d2 : decide ((1024 : Int) < zR.length) = false := by simp; omega
  clear hS hP hR bS bR lP
  refine (callsIn_wide (n := 6)).1 ?_
  refine callsIn_of_wp_marks Yba.func4 rfl trivial ?_ rfl
  simp only [Yba.ntmps4, List.size_toArray, List.length_cons, List.length_nil, Nat.reduceAdd, Nat.reduceSub, Array.replicate_succ, Array.replicate_zero, List.push_toArray, List.append_toArray, List.nil_append, List.cons_append]
  refine wpIn_wide.2 ?_
  go_wp2_with fail
  refine HB.mono ?_
  rintro e w1 ⟨sb, gs, g, n, c, gi, ci, f, items, rfl, hb⟩
  have HE := expect_c sb gs zS.length g n c (fun i => zS[i]?.getD 0) f (some ⟨gi, 0, none⟩) ci items w1 hb.vs hb.rd hb.hf hb.ir hb.hn hb.hm
  clear HB
  go_wp2_with fail
  refine HE.mono ?_
  rintro e w2 ⟨aw, cw, rfl, hown, hat, hB2⟩
  obtain ⟨want, hwant⟩ : ∃ x, x = wantOf (fun i => zS[i]?.getD 0) f items n := ⟨_, rfl⟩
  rw [← hwant] at hown ⊢
  have hwl : want.length ≤ 1024 := by rw [hwant]; have := wantOf_len (fun i => zS[i]?.getD 0) f items n; have := hb.hn; omega
  have HWa : Hid (want = wantOf (fun i => zS[i]?.getD 0) f items n) := hwant
  clear hwant HE
  have hn := hb.hn
  have hm := hb.hm
  go_upto_if 38 with fail
  go_cut [11] from 38 to 53 (fun v wx => wx = w2 ∧ v = .int .i64 (workOf n items.length want.length : Nat))
  case first =>
    by_cases hle : n ≤ items.length
    · have dl : decide ((n : Int) ≤ items.length) = true := by simp; omega
      have hbl := bitLen_le items.length
      have hmul : n * Lib.bitLen items.length ≤ 1024 * 64 := Nat.mul_le_mul hn hbl
      have HWk : Hid (workOf n items.length want.length = n * Lib.bitLen items.length) := by show _ = _; unfold workOf; rw [if_pos hle]
      go_wp2_with fail
      refine (blen_c items.length hm w2).mono ?_
      rintro e w3 ⟨rfl, rfl⟩
      generalize Lib.bitLen items.length = bl at hbl hmul HWk
      have hmul' : (n : Int) * bl ≤ 65536 := by rw [← Int.natCast_mul]; omega
      have hmul0 : (0 : Int) ≤ (n : Int) * bl := by rw [← Int.natCast_mul]; omega
      go_wp2
      go_meet
      case rel => exact ⟨rfl, by rw [HWk.out, Int.natCast_mul]⟩
    · have dl : decide ((n : Int) ≤ items.length) = false := by simp; omega
      have hbl := bitLen_le n
      have hmul : items.length * Lib.bitLen n ≤ 1024 * 64 := Nat.mul_le_mul hm hbl
      have HWk : Hid (workOf n items.length want.length = items.length * Lib.bitLen n + want.length) := by show _ = _; unfold workOf; rw [if_neg hle]
      go_wp2_with fail
      refine (blen_c n hn w2).mono ?_
      rintro e w3 ⟨rfl, rfl⟩
      generalize Lib.bitLen n = bl at hbl hmul HWk
      have hmul' : (items.length : Int) * bl ≤ 65536 := by rw [← Int.natCast_mul]; omega
      have hmul0 : (0 : Int) ≤ (items.length : Int) * bl := by rw [← Int.natCast_mul]; omega
      go_wp2
      go_meet
      case rel => exact ⟨rfl, by rw [HWk.out, Int.natCast_add, Int.natCast_mul]⟩
  case rest =>
    obtain ⟨rfl, rfl⟩ := hcut
    obtain ⟨w3, hw3⟩ : ∃ x, x = wc := ⟨_, rfl⟩
    subst hw3
    go_wp2_with fail
    refine (spansOf_c _ _ _ _ _ _ _ _).mono ?_
    rintro e w4 ⟨rfl, hw4⟩
    simp only [World.size_alloc] at hw4 ⊢
    have hsz4 : w4.heap.size = w3.heap.size + 5 := by rw [hw4]; simp
    have hB4 : Below w3.heap.size w3 w4 := by
      rw [hw4]; exact (((((Below.refl _ w3).alloc (Nat.le_refl _) _).alloc (by simp) _).alloc (by simp; omega) _).alloc (by simp; omega) _).alloc (by simp; omega) _
    have hsb3 : sb < w3.heap.size := World.block_lt_of_cell? w3 _ (hb.vs.below hB2).spans
    have hq3 : IRow w3 .i64 (some ⟨gi, 0, none⟩) items := hb.ir.below hB2
    have hs3 := hB2.size
    have hw1 := hb.bel.size
    have blt : ∀ b, b = sb ∨ b = gs ∨ b = g ∨ b = gi → b < w3.heap.size := by
      have := hb.l2
      have := hb.l3
      have := hb.l4
      have := hb.l5
      omega
    have q4 : IQ (w3.heap.size + 1 + 1 + 1) (w3.heap.size + 1 + 1 + 2) (w3.heap.size + 1 + 1) sb gs zS.length g n c gi ci (fun i => zS[i]?.getD 0) f items w4 := by
      refine ⟨?_, ?_, ?_, (hb.vs.below hB2).below hB4, (hb.rd.below hB2).below hB4, hq3.below hB4⟩
      · exact cell_of_row w4 _ 0 _ 25 (0, 0) (by rw [hw4]; exact (heap5 w3 _ _ _ _ _).2.2.2.1)
      · exact cell_of_row w4 _ 0 _ 25 (0, 0) (by rw [hw4]; exact (heap5 w3 _ _ _ _ _).2.2.2.2)
      · exact cell_of_row w4 _ 0 _ 24 (0, 0) (by rw [hw4]; exact (heap5 w3 _ _ _ _ _).2.2.1)
    have wk4 : Wk sb 0 w4 := by
      have e := hB4.block sb hsb3
      have e2 := hB2.block sb hb.l2
      exact ⟨(World.cell?_of_block (w := w1) (e.trans e2)).trans hb.work, (World.frozen?_of_block (w := w1) (e.trans e2)).trans hb.wf⟩
    have log4 : GotAt (w3.heap.size + 1) w3.heap.size [] w4 := by
      refine ⟨0, ?_, rfl, .inr ⟨w3.heap.size, 0, #[], rfl, Nat.zero_le _, ?_, by simp, by simp [maxLen], rfl, rfl⟩⟩
      · show w4.heap[_]? = _
        rw [hw4]; exact (heap5 w3 _ _ _ _ _).2.1
      · rw [hw4]; exact (heap5 w3 _ _ _ _ _).1
    have lt4 : ∀ b, b = w3.heap.size + 1 + 1 + 1 ∨ b = w3.heap.size + 1 + 1 + 2 ∨ b = w3.heap.size + 1 + 1 ∨ b = sb ∨ b = gs ∨ b = g ∨ b = gi → b < w4.heap.size ∧ b ≠ w3.heap.size + 1 ∧ b ≠ w3.heap.size := by
      intro b hb'
      rw [hsz4]
      have := blt b
      omega
    have SQ := iter_seq (6 - 1) (w3.heap.size + 1 + 1 + 1) (w3.heap.size + 1 + 1 + 2) (w3.heap.size + 1 + 1) sb gs zS.length g n c gi ci (w3.heap.size + 1) w3.heap.size (fun i => zS[i]?.getD 0) f items (by omega) (by omega) (by omega) (Ne.symm hb.n1) (Ne.symm hb.n2) (Ne.symm hb.n3) hb.hf hb.hn hb.hm hb.hi hb.hs w4 lt4 q4 wk4
    rw [← HWa.out] at SQ
    have hBw4 : Below w.heap.size w w4 := hb.bel.trans ((hB2.mono hw1).trans (hB4.mono (by omega)))
    have hl1 := hb.l1
    have hIRw : IRow w3 .i64 aw want := IRow.ofOwns hown
    have hl2 := hb.l2
    clear hw4 q4 wk4 hq3 hown hB2 hb
    go_wp2_with fail
    refine wpIn_wide.1 (range_st (n := 6) (by omega) (gf := 22) (lb := #[.pointer (some ⟨w3.heap.size + 1 + 1 + 1, 0, none⟩), .pointer (some ⟨w3.heap.size + 1 + 1 + 2, 0, none⟩), .pointer (some ⟨w3.heap.size + 1 + 1, 0, none⟩)]) rfl (enters_of Yba.func22 (by kernel_rfl) rfl) (fun X Y h => h.keeps) ?hfin SQ (fun h k => h.trans k)
      (fun W l o o' hl ho h1 => ⟨rfl, rfl, rfl, by simp, fun k hk _ _ => World.putObj_heap_other (by omega)⟩)
      (fun pre W => (∃ g', GotAt (w3.heap.size + 1) g' pre W ∧ (g' = w3.heap.size ∨ w4.heap.size ≤ g')) ∧ K3 w4.heap.size (w3.heap.size + 1) w3.heap.size sb w4 W)
      (fun _ _ _ => False)
      (OwnFrom.and (ownFrom_exB _ fun g => (GotAt.own _ g).from _) (k3_own _ _ _ _ _ rfl))
      (fun c s X Y row h _ _ => h) ?hIs ⟨⟨_, log4, .inl rfl⟩, K3.refl _ _ _ _ _⟩
      (fun x => { tmps := List.toArray (Value.slice aS zS.length cS :: Value.slice aP nP cP :: Value.slice aR zR.length cR :: undef :: undef :: undef :: Value.bool false :: Value.pointer (some ⟨sb, 0, none⟩) :: Value.slice (some ⟨g, 0, none⟩) n c :: Value.slice (some ⟨gi, 0, none⟩) items.length ci :: Value.slice aw want.length cw :: Value.int IntKind.i64 ((workOf n items.length want.length : Nat) : Int) :: Value.pointer (some ⟨w3.heap.size + 1, 0, none⟩) :: .int .i64 x :: Value.slice aS zS.length cS :: Value.int IntKind.i64 (zS.length : Int) :: Value.bool false :: Value.bool false :: Value.slice aR zR.length cR :: Value.int IntKind.i64 (zR.length : Int) :: Value.bool false :: Value.bool false :: Value.tuple #[Value.pointer (some ⟨sb, 0, none⟩), Value.slice (some ⟨g, 0, none⟩) n c, Value.slice (some ⟨gi, 0, none⟩) items.length ci] :: Value.slice aS zS.length cS :: Value.slice aP nP cP :: Value.slice aR zR.length cR :: Value.tuple #[Value.pointer (some ⟨sb, 0, none⟩), Value.slice (some ⟨g, 0, none⟩) n c, Value.slice (some ⟨gi, 0, none⟩) items.length ci] :: Value.pointer (some ⟨sb, 0, none⟩) :: Value.slice (some ⟨g, 0, none⟩) n c :: Value.slice (some ⟨gi, 0, none⟩) items.length ci :: Value.pointer (some ⟨sb, 0, none⟩) :: Value.slice (some ⟨g, 0, none⟩) n c :: Value.slice (some ⟨gi, 0, none⟩) items.length ci :: Value.slice aw want.length cw :: Value.slice (some ⟨g, 0, none⟩) n c :: Value.int IntKind.i64 (n : Int) :: Value.slice (some ⟨gi, 0, none⟩) items.length ci :: Value.int IntKind.i64 (items.length : Int) :: u38 :: u39 :: u40 :: u41 :: u42 :: u43 :: u44 :: u45 :: u46 :: u47 :: u48 :: u49 :: u50 :: u51 :: u52 :: u53 :: Value.slice (some ⟨w3.heap.size, 0, none⟩) 0 0 :: Value.pointer (some ⟨sb, 0, none⟩) :: Value.slice (some ⟨g, 0, none⟩) n c :: Value.slice (some ⟨gi, 0, none⟩) items.length ci :: Value.func (Fn.func 22) #[] #[Value.pointer (some ⟨w3.heap.size + 1 + 1 + 1, 0, none⟩), Value.pointer (some ⟨w3.heap.size + 1 + 1 + 2, 0, none⟩), Value.pointer (some ⟨w3.heap.size + 1 + 1, 0, none⟩)] :: .int .i64 x :: undef :: undef :: undef :: undef :: undef :: undef :: undef :: undef :: undef :: undef :: undef :: undef :: undef :: undef :: undef :: []), defers := [] }) ?assign ?body ?done ?stop)
    case hfin => exact fin_own _ _ _ _ (by omega)
    case hIs =>
      rintro pre X Y ⟨⟨g', hg, hg'⟩, hk⟩ hs
      exact ⟨⟨g', hg.st hs (by omega) (by omega), hg'⟩, hk.st hs⟩
    case assign =>
      intro l x W K hK
      gi_wp2
      exact hK
    case body =>
      rintro l pre x W ⟨⟨g', hG, hg'⟩, hK⟩ hlen
      have hsW := hK.size
      obtain ⟨cp, hv, hr⟩ := hG
      have hc := hv.cell
      have hf := hv.frozen
      gi_wp2_with (refine wpListIn_app _ rfl (.tmp 60) (.tmp 62) 25 rfl 0 3 i0 (.int .i64 0) 8 Yba.underlying25 hi0 hz0 hz1 hz2 rfl .i64 (.slice (some ⟨g', 0, none⟩) pre.length cp) pre.length _ rfl (hr.alloc _) (some ⟨W.heap.size, 0, none⟩) 1 1 [x] rfl rfl (one_rowB _ _ _ _) (by simp) (by unfold maxLen; omega) (by omega) (Nat.zero_le _) ?_; intro ao2 cp2 w5 hown2 hgrow2 hat2; obtain ⟨hv1, g2, rfl, hG2, hg2, hKb, hO⟩ := GotAt.step hv hr hown2 hgrow2 (by simpa [Value.ownBlock] using hat2); have hc1 := hv1.cell; have hf1 := hv1.frozen)
      have hK4 := kb_stepB hKb hsW hg'
      exact ⟨hO, hK4, ⟨g2, hG2, by omega⟩, hK.kb hK4⟩
    case done =>
      rintro D xs W hD ⟨rfl, hwk⟩ ⟨⟨g', hG, hg'⟩, hK⟩ hKd
      have hrow := hG.row
      obtain ⟨cp, hv, _⟩ := hG
      have hc := hv.cell
      have hw0 := hwk.1
      have hrw : IRow W .i64 aw xs := by
        intro j x hj
        obtain ⟨gw, ow, rfl, hcw⟩ := hIRw j x hj
        have h1 := hat gw rfl
        have h2 : gw < w3.heap.size := World.block_lt_of_cell? w3 _ hcw
        exact ⟨gw, ow, rfl, ((hK.cell (p := ⟨gw, ow + j, none⟩) (by show gw < w4.heap.size; omega) (by show gw ≠ _; omega) (by show gw ≠ _; omega) (by show gw ≠ _; omega)).trans (hB4.cell (p := ⟨gw, ow + j, none⟩) h2)).trans hcw⟩
      have HEq := eq10 (some ⟨g', 0, none⟩) aw cp cw xs W hrow hrw hwl
      have hBW : Below w.heap.size w W := hBw4.trans (hK.below (by omega) (by omega) (by omega) hl1)
      clear SQ hIRw log4 lt4 blt hrow hrw hv hwk
      go_wp2_with fail
      refine HEq.mono ?_
      rintro e W2 ⟨rfl, q, rfl⟩
      go_wp2
      refine ⟨by simp, .inl ⟨_, _, rfl, run_takeDeferred (show (W.drewN q).heap[D]? = _ from hKd), ?_⟩⟩
      exact ⟨_, results_tmp rfl _ _ _, rfl, below_putObjB (B := w.heap.size) (W := W.drewN q) ⟨hBW.os, hBW.tape, hBW.output, hBW.size, hBW.block⟩ (by omega)⟩
    case stop => exact fun D c pre W _ _ h => h.elim

end Go.Proofs.Ybulkbxog
