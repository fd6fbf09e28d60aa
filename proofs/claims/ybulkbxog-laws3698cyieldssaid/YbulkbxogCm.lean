/-
  Law C's road: 'zzs3698cbuild', where nothing is big.
-/
import Derived.Test.YbulkbxogCl
import Derived.Deep.DeepCutAuto
import Derived.Deep.AppendLies
namespace Go.Proofs.Ybulkbxog
open Go.RowKit

set_option maxRecDepth 100000 in
set_option maxHeartbeats 4000000 in
theorem build_ok (w : World) (d : CIn) (aA aI aP aW aR aS : Option Addr) (cA cI cP cW cR cS : Nat) (h : InAt w d aA aI aP aW aR aS) (hbig : d.isBig = false) :
    Calls Yba.prog 12 #[.agg (inCells d aA aI aP aW aR aS cA cI cP cW cR cS)] w (BuildOk w) := by
  unfold inCells
  have HA := fun o => big_raw aA cA d.Arcs (w.alloc o) (h.hA.below ((Below.refl _ w).alloc (Nat.le_refl _) o) (Nat.le_refl _)) h.lA
  have HI := fun o => big_raw aI cI d.Inf (w.alloc o) (h.hI.below ((Below.refl _ w).alloc (Nat.le_refl _) o) (Nat.le_refl _)) h.lI
  have HP := fun o => big_raw aP cP d.Pre (w.alloc o) (h.hP.below ((Below.refl _ w).alloc (Nat.le_refl _) o) (Nat.le_refl _)) h.lP
  have HW := fun o => big_raw aW cW d.Wr (w.alloc o) (h.hW.below ((Below.refl _ w).alloc (Nat.le_refl _) o) (Nat.le_refl _)) h.lW
  have HR := fun o => big_raw aR cR d.Rd (w.alloc o) (h.hR.below ((Below.refl _ w).alloc (Nat.le_refl _) o) (Nat.le_refl _)) h.lR
  unfold CIn.isBig at hbig
  simp only [Bool.or_eq_false_iff, decide_eq_false_iff_not] at hbig
  obtain ⟨b1, b2, b3, b4, b5, b6⟩ := hbig
  rw [b1] at HA
  rw [b2] at HI
  rw [b3] at HP
  rw [b4] at HW
  rw [b5] at HR
  have hS' : (d.Sp.length : Int) ≤ 1024 := by omega
  have hSd : decide ((1024 : Int) < (d.Sp.length : Int)) = false := by simp; omega
  obtain ⟨i0, hi0, hz0, hz1, hz2⟩ := info_parts Yba.info3
  obtain ⟨i25, hi25, hz25, hs25, hb25⟩ := info_parts Yba.info25
  have hN := h.bN
  have hM := h.bM
  have hU := h.bU
  obtain ⟨n, hn1, hn2, hn⟩ : ∃ n : Nat, 1 ≤ n ∧ n ≤ 8 ∧ d.N % 8 + 1 = n := ⟨(d.N % 8 + 1).toNat, by omega, by omega, by omega⟩
  obtain ⟨m, hm1, hm2, hm⟩ : ∃ n : Nat, 1 ≤ n ∧ n ≤ 5 ∧ d.M % 5 + 1 = n := ⟨(d.M % 5 + 1).toNat, by omega, by omega, by omega⟩
  have hmkn := fun w => run_make_row' (P := Yba.prog) 39 25 (.slice none 0 0) 24 Yba.underlying39 Yba.info25 rfl .i64 .i64 n (by omega) (by omega) w
  have hmkm := fun w => run_make_row' (P := Yba.prog) 39 25 (.slice none 0 0) 24 Yba.underlying39 Yba.info25 rfl .i64 .i64 m (by omega) (by omega) w
  go_enter Yba.func12, Yba.ntmps12
  go_wp2_with fail
  refine (HA _).mono ?_
  rintro e w1 ⟨rfl, rfl⟩
  go_wp2_with fail
  refine (HI _).mono ?_
  rintro e w1 ⟨rfl, rfl⟩
  go_wp2_with fail
  refine (HP _).mono ?_
  rintro e w1 ⟨rfl, rfl⟩
  go_wp2_with fail
  refine (HW _).mono ?_
  rintro e w1 ⟨rfl, rfl⟩
  go_wp2_with fail
  refine (HR _).mono ?_
  rintro e w1 ⟨rfl, rfl⟩
  clear HA HI HP HW HR
  go_wp2
  have I0 := Inv1.start w #[.int .u8 d.N, .int .u8 d.M, .int .u8 d.U, .slice aA d.Arcs.length cA, .slice aI d.Inf.length cI, .slice aP d.Pre.length cP, .slice aW d.Wr.length cW, .slice aR d.Rd.length cR, .slice aS d.Sp.length cS] n (fun j => rowMod d.Inf j n) (fun j => rowMod d.Pre j n)
  obtain ⟨w0, hw0⟩ : ∃ w0, w0 = w.alloc (.cells #[.int .u8 d.N, .int .u8 d.M, .int .u8 d.U, .slice aA d.Arcs.length cA, .slice aI d.Inf.length cI, .slice aP d.Pre.length cP, .slice aW d.Wr.length cW, .slice aR d.Rd.length cR, .slice aS d.Sp.length cS] 62) := ⟨_, rfl⟩
  have q0 : w0.cell? ⟨w.heap.size, 0, none⟩ = some (.int .u8 d.N) := by rw [hw0]; simp
  have q1 : w0.cell? ⟨w.heap.size, 1, none⟩ = some (.int .u8 d.M) := by rw [hw0]; simp
  have q2 : w0.cell? ⟨w.heap.size, 2, none⟩ = some (.int .u8 d.U) := by rw [hw0]; simp
  have q3 : w0.cell? ⟨w.heap.size, 3, none⟩ = some (.slice aA d.Arcs.length cA) := by rw [hw0]; simp
  have q4 : w0.cell? ⟨w.heap.size, 4, none⟩ = some (.slice aI d.Inf.length cI) := by rw [hw0]; simp
  have q5 : w0.cell? ⟨w.heap.size, 5, none⟩ = some (.slice aP d.Pre.length cP) := by rw [hw0]; simp
  have q6 : w0.cell? ⟨w.heap.size, 6, none⟩ = some (.slice aW d.Wr.length cW) := by rw [hw0]; simp
  have q7 : w0.cell? ⟨w.heap.size, 7, none⟩ = some (.slice aR d.Rd.length cR) := by rw [hw0]; simp
  have q8 : w0.cell? ⟨w.heap.size, 8, none⟩ = some (.slice aS d.Sp.length cS) := by rw [hw0]; simp
  have hbw0 : Below w.heap.size w w0 := by rw [hw0]; exact (Below.refl _ w).alloc (Nat.le_refl _) _
  rw [← hw0] at I0 ⊢
  clear hw0
  have box : ∀ {j : Nat} {v : Value} {wr : World}, w0.cell? ⟨w.heap.size, j, none⟩ = some v → Below (w.heap.size + 1) w0 wr → wr.cell? ⟨w.heap.size, j, none⟩ = some v := fun hq hb => (hb.cell (by simp)).trans hq
  have arg : ∀ {wr : World}, Below (w.heap.size + 1) w0 wr → Below w.heap.size w wr := fun hb => hbw0.trans (hb.mono (by omega))
  have HB : Hid (∀ {j : Nat} {v : Value} {wr : World}, w0.cell? ⟨w.heap.size, j, none⟩ = some v → Below (w.heap.size + 1) w0 wr → wr.cell? ⟨w.heap.size, j, none⟩ = some v) := box
  have HG : Hid (∀ {wr : World}, Below (w.heap.size + 1) w0 wr → Below w.heap.size w wr) := arg
  clear box arg
  clear hmkn hmkm hN hM hU hn hm
  go_loopw [8, 9, 12] (fun sv av i wr => ∃ (k gs cs ga ca : Nat) (st al : List Int), k ≤ n ∧ i = .int .i64 k ∧ sv = .slice (some ⟨gs, 0, none⟩) st.length cs ∧ av = .slice (some ⟨ga, 0, none⟩) al.length ca ∧ Inv1 w0 w.heap.size n (fun j => rowMod d.Inf j n) (fun j => rowMod d.Pre j n) wr gs cs ga ca st al k k ∧
    Hid (st = stL d.Arcs n k ∧ al = alL d.Arcs n k) ∧ al.length ≤ 1024 * k ∧ st.length ≤ k + 1) (fun _ _ i _ => n - (intOf i).toNat)
  case atStart => exact ⟨0, w.heap.size + 1, 1, w.heap.size + 2, 0, [0], [], Nat.zero_le _, rfl, rfl, rfl, I0, ⟨rfl, rfl⟩, by simp, by simp⟩
  case round =>
    obtain ⟨k, gs, cs, ga, ca, st, al, hk, rfl, rfl, rfl, I0, HS, hal, hst⟩ := hrel
    by_cases hlt : k < n
    · have t3 := HB.out q3 I0.bel
      have hn' : (1 : Int) ≤ n := by omega
      have hn'' : (n : Int) ≤ 4096 := by omega
      have L1 := rowMod_length d.Arcs k n (bigL_false b1).2
      have C1 := list_raw aA cA d.Arcs k n wr (h.hA.below (HG.out I0.bel) (Nat.le_refl _)) b1 hn' hn''
      go_wp2_with fail
      refine C1.mono ?_
      clear C1
      rintro e w1 ⟨a1, c1, rfl, hr1, hf1, hc1, hb1⟩
      have I1 := I0.call hb1
      generalize HX : rowMod d.Arcs k n = xs at hr1 L1 ⊢
      have HX' : Hid (rowMod d.Arcs k n = xs) := HX
      clear HX
      go_wp2_with (first
        | (at_builtin; refine wpList_app _ rfl (.tmp 75) (.tmp 80) 25 rfl 0 3 i0 (.int .i64 0) 8 Yba.underlying25 hi0 hz0 hz1 hz2 rfl .i64 (.slice (some ⟨ga, 0, none⟩) al.length ca) al.length al rfl I1.hal a1 xs.length c1 xs rfl rfl hr1 hc1 (by unfold maxLen; omega) (by omega) (Nat.zero_le _) ?_; intro ao2 cp2 w2 hown2 hgrow2 hat2 _; obtain ⟨ga2, rfl, I2⟩ := I1.appAll rfl hown2 hgrow2 hat2; clear hown2 hgrow2 hat2)
        | (at_builtin; refine wpList_app _ rfl (.tmp 82) (.tmp 85) 25 rfl 0 3 i0 (.int .i64 0) 8 Yba.underlying25 hi0 hz0 hz1 hz2 rfl .i64 (.slice (some ⟨gs, 0, none⟩) st.length cs) st.length st rfl (I2.hst.alloc _) (some ⟨w2.heap.size, 0, none⟩) 1 1 _ rfl rfl (one_row _ _ _ _) (by simp) (by unfold maxLen; omega) (by omega) (Nat.zero_le _) ?_; intro ao3 cp3 w3 hown3 hgrow3 hat3 _; obtain ⟨gs3, rfl, I3⟩ := (I2.call ((Below.refl _ w2).alloc (Nat.le_refl _) _)).appSt hown3 hgrow3 hat3; clear hown3 hgrow3 hat3; have t4 := HB.out q4 I3.bel))
      clear I0 I1 I2 t3 hr1 hb1 hf1
      have L2 := rowMod_length d.Inf k n (bigL_false b2).2
      refine (list_raw aI cI d.Inf k n w3 (h.hI.below (HG.out I3.bel) (Nat.le_refl _)) b2 hn' hn'').mono ?_
      rintro e w4 ⟨a4, c4, rfl, hr4, hf4, hc4, hb4⟩
      have I4 := I3.call hb4
      obtain ⟨f4, hfI, _⟩ := I4.rI
      have s1 : w4.cell? ⟨w.heap.size + 1 + 1 + 1, k, none⟩ = some (f4 k) := hfI.cell hlt
      have s2 : w4.frozen? ⟨w.heap.size + 1 + 1 + 1, k, none⟩ = false := hfI.frozen k
      have hsz3 := I3.sz
      have hlS := I3.ltS
      have hlA := I3.ltA
      have hsz4 := hb4.size
      have I5 : Inv1 w0 w.heap.size n (fun j => rowMod d.Inf j n) (fun j => rowMod d.Pre j n) (w4.setCell ⟨w.heap.size + 1 + 1 + 1, k, none⟩ (.slice a4 (rowMod d.Inf k n).length c4)) gs3 cp3 ga2 cp2 _ _ (k + 1) k :=
        I4.setI hr4 (fun g hg => ⟨⟨by have := (hf4 g hg).1; omega, by have := (hf4 g hg).1; omega, by have := (hf4 g hg).1; omega⟩, (hf4 g hg).2⟩) hc4
      have t5 := HB.out q5 I5.bel
      have k1 : (k : Int) < n := by omega
      go_wp2_with fail
      clear s1 s2 I3 I4 hr4 hf4 hb4 hfI hsz3 hsz4 hlS hlA t4
      generalize w4.setCell ⟨w.heap.size + 1 + 1 + 1, k, none⟩ (.slice a4 (rowMod d.Inf k n).length c4) = w5 at I5 t5 ⊢
      have L3 := rowMod_length d.Pre k n (bigL_false b3).2
      refine (list_raw aP cP d.Pre k n w5 (h.hP.below (HG.out I5.bel) (Nat.le_refl _)) b3 hn' hn'').mono ?_
      rintro e w6 ⟨a6, c6, rfl, hr6, hf6, hc6, hb6⟩
      have I6 := I5.call hb6
      obtain ⟨f6, hfP, _⟩ := I6.rP
      have s1 : w6.cell? ⟨w.heap.size + 1 + 1 + 1 + 1, k, none⟩ = some (f6 k) := hfP.cell hlt
      have s2 : w6.frozen? ⟨w.heap.size + 1 + 1 + 1 + 1, k, none⟩ = false := hfP.frozen k
      have hsz5 := I5.sz
      have hlS := I5.ltS
      have hlA := I5.ltA
      have I7 : Inv1 w0 w.heap.size n (fun j => rowMod d.Inf j n) (fun j => rowMod d.Pre j n) (w6.setCell ⟨w.heap.size + 1 + 1 + 1 + 1, k, none⟩ (.slice a6 (rowMod d.Pre k n).length c6)) gs3 cp3 ga2 cp2 _ _ (k + 1) (k + 1) :=
        I6.setP hr6 (fun g hg => ⟨⟨by have := (hf6 g hg).1; omega, by have := (hf6 g hg).1; omega, by have := (hf6 g hg).1; omega⟩, (hf6 g hg).2⟩) hc6
      clear I5 I6 hr6 hf6 hb6 hfP hsz5 hlS hlA t5
      go_wp2
      go_roundw
      case rel =>
        refine ⟨k + 1, gs3, cp3, ga2, cp2, _, _, by omega, by go_num, ?_, ?_, I7, ?_, ?_, ?_⟩
        · rw [List.length_append]; rfl
        · rw [List.length_append]
        · have e1 := HS.out.1
          have e2 := HS.out.2
          refine ⟨?_, ?_⟩
          · rw [stL_succ, alL_succ, HX'.out, ← e1, ← e2]; simp
          · rw [alL_succ, HX'.out, ← e2]
        · rw [List.length_append]; omega
        · rw [List.length_append]; simp; omega
      case measure => simp [intOf]; omega
    · have hke : n = k := by omega
      subst hke
      obtain ⟨wA, hwA⟩ : ∃ x, x = wr := ⟨_, rfl⟩
      subst hwA
      have S1 : Below w.heap.size w wA := HG.out I0.bel
      have hszr := I0.sz
      have hmkm := fun w => run_make_row' (P := Yba.prog) 39 25 (.slice none 0 0) 24 Yba.underlying39 Yba.info25 rfl .i64 .i64 m (by omega) (by omega) w
      go_wp2
      clear hmkm
      have hn' : (1 : Int) ≤ n := by omega
      have hn'' : (n : Int) ≤ 4096 := by omega
      have R0 : RowsP (wA.alloc (.cells (madeCells #[.slice none 0 0] m) 25)) wA.heap.size m 0 (fun j => rowMod d.Wr j n) (fun g => wA.heap.size + 1 ≤ g) :=
        ⟨fun _ => .slice none 0 0, World.rowIs_made wA (.slice none 0 0) m 25, fun j hj => absurd hj (Nat.not_lt_zero _)⟩
      have hb0 : Below wA.heap.size wA (wA.alloc (.cells (madeCells #[.slice none 0 0] m) 25)) := (Below.refl _ wA).alloc (Nat.le_refl _) _
      go_loopw [14] (fun i w2 => ∃ k : Nat, k ≤ m ∧ i = .int .i64 k ∧ Below wA.heap.size wA w2 ∧ RowsP w2 wA.heap.size m k (fun j => rowMod d.Wr j n) (fun g => wA.heap.size + 1 ≤ g) ∧ wA.heap.size + 1 ≤ w2.heap.size) (fun i _ => m - (intOf i).toNat)
      case atStart => exact ⟨0, Nat.zero_le _, rfl, hb0, R0, by simp⟩
      case round =>
        clear R0 hb0
        obtain ⟨k, hk, rfl, hB2, R2, hs2⟩ := hrel
        by_cases hlt2 : k < m
        · have hBA : Below (w.heap.size + 1) w0 wr := I0.bel.trans (hB2.mono (by omega))
          have t6 := HB.out q6 hBA
          have k1 : (k : Int) < m := by omega
          have L2 := rowMod_length d.Wr k n (bigL_false b4).2
          go_wp2_with fail
          refine (list_raw aW cW d.Wr k n wr (h.hW.below (HG.out hBA) (Nat.le_refl _)) b4 hn' hn'').mono ?_
          rintro e w4 ⟨a4, c4, rfl, hr4, hf4, hc4, hb4⟩
          have R3 := R2.below hb4
          obtain ⟨f4, hfI, _⟩ := R3
          have s1 : w4.cell? ⟨wA.heap.size, k, none⟩ = some (f4 k) := hfI.cell hlt2
          have s2 : w4.frozen? ⟨wA.heap.size, k, none⟩ = false := hfI.frozen k
          have R4 : RowsP (w4.setCell ⟨wA.heap.size, k, none⟩ (.slice a4 (rowMod d.Wr k n).length c4)) wA.heap.size m (k + 1) (fun j => rowMod d.Wr j n) (fun g => wA.heap.size + 1 ≤ g) :=
            (R2.below hb4).set (fun g hg => by omega) a4 c4 hr4 (fun g hg => ⟨by have := (hf4 g hg).1; omega, (hf4 g hg).2⟩) hc4
          have hB4 : Below wA.heap.size wA (w4.setCell ⟨wA.heap.size, k, none⟩ (.slice a4 (rowMod d.Wr k n).length c4)) := (hB2.trans (hb4.mono (by omega))).setCell (p := ⟨wA.heap.size, k, none⟩) (Nat.le_refl _) _
          have hs4 : wA.heap.size + 1 ≤ (w4.setCell ⟨wA.heap.size, k, none⟩ (.slice a4 (rowMod d.Wr k n).length c4)).heap.size := by have := hb4.size; simp [World.setCell]; omega
          clear hr4 hf4 hb4 hfI R2 hB2 t6 hBA
          go_wp2
          go_roundw
          case rel => exact ⟨k + 1, by omega, by go_num, hB4, R4, hs4⟩
          case measure => simp [intOf]; omega
        · have hke : m = k := by omega
          subst hke
          obtain ⟨wC, hwC⟩ : ∃ x, x = wr := ⟨_, rfl⟩
          subst hwC
          have hBC : Below (w.heap.size + 1) w0 wC := I0.bel.trans (hB2.mono (by omega))
          have t8 := HB.out q8 hBC
          have hsl : (d.Sp.length : Int) ≤ 1024 := by omega
          obtain ⟨i71, hi71, hz71, hs71, hb71⟩ := info_parts Yba.info71
          go_wp2_with (at_make; refine wpList_make_own _ rfl _ _ 38 rfl 0 71 i71 (.agg #[.int .i64 0, .int .i64 0, .int .i64 0]) 3 Yba.underlying38 hi71 hz71 hs71 .i64 .i64 _ d.Sp.length rfl rfl rfl (by rw [hb71]; omega) (by unfold maxLen; omega) (Nat.zero_le _) ?_; intro wD hownD hgrowD; have t8D := hgrowD.cell t8 (by simp))
          have hbD : Below wC.heap.size wC wD := (Below.refl _ _).grown hgrowD (Nat.le_refl _) (by simp)
          have hsD : wC.heap.size < wD.heap.size := (hownD.lt wC.heap.size rfl).2
          clear t8D t8 hgrowD
          go_loopw [15, 17, 125] (fun sv _ i wr => ∃ k : Nat, k ≤ d.Sp.length ∧ i = .int .i64 k ∧ sv = .slice (some ⟨wC.heap.size, 0, none⟩) k d.Sp.length ∧ wr.ownsRow 0 71 3 (.slice (some ⟨wC.heap.size, 0, none⟩) k d.Sp.length) k (spCells ((d.Sp.take k).map (· % (m : Int)))) ∧ Below wC.heap.size wC wr ∧ wC.heap.size < wr.heap.size) (fun _ _ i _ => d.Sp.length - (intOf i).toNat)
          case atStart => exact ⟨0, Nat.zero_le _, rfl, rfl, by simpa [spCells] using hownD, hbD, hsD⟩
          case round =>
            clear hownD hbD hsD
            obtain ⟨k, hk, rfl, rfl, hown, hb, hs⟩ := hrel
            by_cases hlt3 : k < d.Sp.length
            · obtain ⟨g, o, rfl, hcS⟩ := h.hS.at (by omega)
              obtain ⟨x, hx⟩ : ∃ x, d.Sp[k]? = some x := ⟨d.Sp[k], by simp [hlt3]⟩
              have hgl : g < w.heap.size := World.block_lt_of_cell? w _ (hcS k hlt3)
              have hcx : wr.cell? ⟨g, o + k, none⟩ = some (.int .u8 x) := ((S1.trans ((hB2.trans (hb.mono (by have := hB2.size; omega))).mono (by omega))).cell hgl).trans (by rw [hcS k hlt3, hx]; rfl)
              obtain ⟨hx1, hx2⟩ := h.bS x (List.mem_of_getElem? hx)
              have HT : Hid (spCells ((d.Sp.take (k + 1)).map (· % (m : Int))) = spCells ((d.Sp.take k).map (· % (m : Int))) ++ [.int .i64 0, .int .i64 0, .int .i64 (x % m)]) := by
                unfold Hid; rw [take_snoc d.Sp k x hx]; simp [spCells]
              clear hx hcS
              go_wp2_with (at_builtin; go_must (refine wpList_append_fits _ rfl (.tmp 129) (.tmp 135) 38 rfl 0 71 i71 3 Yba.underlying38 hi71 hs71 wC.heap.size k d.Sp.length _ rfl (hown.alloc _) ⟨wr.heap.size, 0, none⟩ 1 1 [.int .i64 0, .int .i64 0, .int .i64 (x % m)] rfl rfl (World.news_of_block (cs := #[.int .i64 0, .int .i64 0, .int .i64 (x % m)]) (heap_alloc_new _ _)) (by simp [Value.oneCell']) (by omega) ?_); intro w2 hown2 hgrow2)
              have hb2 : Below wC.heap.size wC w2 := ((hb.alloc (by omega) _).grown hgrow2 (by simp; omega) (by intro k h; cases h; exact Nat.le_refl _))
              have hs2 := hgrow2.size
              simp at hs2
              go_roundw
              case rel => exact ⟨k + 1, by omega, by go_num, rfl, by rw [HT.out]; exact hown2, hb2, by omega⟩
              case measure => simp [intOf]; omega
            · have hke : k = d.Sp.length := by omega
              subst hke
              obtain ⟨wE, hwE⟩ : ∃ x, x = wr := ⟨_, rfl⟩
              subst hwE
              rw [List.take_length] at hown
              have hsA := hB2.size
              have hsC := hb.size
              have hBE : Below (w.heap.size + 1) w0 wE := I0.bel.trans ((hB2.trans (hb.mono (by omega))).mono (by omega))
              have hmkn := fun w => run_make_row' (P := Yba.prog) 39 25 (.slice none 0 0) 24 Yba.underlying39 Yba.info25 rfl .i64 .i64 n (by omega) (by omega) w
              have hU := h.bU
              by_cases hL : 0 < d.Sp.length
              · have hL' : (0 : Int) < d.Sp.length := by omega
                have hLd : decide (0 < d.Sp.length) = true := by simpa using hL
                have hL1 : (1 : Int) ≤ d.Sp.length := by omega
                have hL2 : (d.Sp.length : Int) ≤ 4096 := by omega
                have HR : Hid (∀ j, rdRow d.Rd d.Sp.length j = rowMod d.Rd j d.Sp.length) := fun j => by unfold rdRow; rw [if_neg (by omega)]
                go_wp2
                clear hmkn
                have RR0 : RowsP (wE.alloc (.cells (madeCells #[.slice none 0 0] n) 25)) wE.heap.size n 0 (rdRow d.Rd d.Sp.length) (fun g => wE.heap.size + 1 ≤ g) :=
                  ⟨fun _ => .slice none 0 0, World.rowIs_made wE (.slice none 0 0) n 25, fun j hj => absurd hj (Nat.not_lt_zero _)⟩
                have hbE0 : Below wE.heap.size wE (wE.alloc (.cells (madeCells #[.slice none 0 0] n) 25)) := (Below.refl _ wE).alloc (Nat.le_refl _) _
                go_loopw [19] (fun i w2 => ∃ k : Nat, k ≤ n ∧ i = .int .i64 k ∧ Below wE.heap.size wE w2 ∧ RowsP w2 wE.heap.size n k (rdRow d.Rd d.Sp.length) (fun g => wE.heap.size + 1 ≤ g) ∧ wE.heap.size + 1 ≤ w2.heap.size) (fun i _ => n - (intOf i).toNat)
                case atStart => exact ⟨0, Nat.zero_le _, rfl, hbE0, RR0, by simp⟩
                case round =>
                  clear RR0 hbE0
                  obtain ⟨k, hk, rfl, hB4, R4, hs4⟩ := hrel
                  by_cases hlt4 : k < n
                  · have hBA : Below (w.heap.size + 1) w0 wr := hBE.trans (hB4.mono (by omega))
                    have t7 := HB.out q7 hBA
                    have k1 : (k : Int) < n := by omega
                    have L2 := rowMod_length d.Rd k d.Sp.length (bigL_false b5).2
                    go_wp2_with fail
                    refine (list_raw aR cR d.Rd k d.Sp.length wr (h.hR.below (HG.out hBA) (Nat.le_refl _)) b5 hL1 hL2).mono ?_
                    rintro e w4 ⟨a4, c4, rfl, hr4, hf4, hc4, hb4⟩
                    have R5 := R4.below hb4
                    obtain ⟨f4, hfI, _⟩ := R5
                    have s1 : w4.cell? ⟨wE.heap.size, k, none⟩ = some (f4 k) := hfI.cell hlt4
                    have s2 : w4.frozen? ⟨wE.heap.size, k, none⟩ = false := hfI.frozen k
                    have R6 : RowsP (w4.setCell ⟨wE.heap.size, k, none⟩ (.slice a4 (rowMod d.Rd k d.Sp.length).length c4)) wE.heap.size n (k + 1) (rdRow d.Rd d.Sp.length) (fun g => wE.heap.size + 1 ≤ g) := by
                      have := (R4.below hb4).set (fun g hg => by omega) a4 c4 (by rw [HR.out]; exact hr4) (fun g hg => ⟨by have := (hf4 g hg).1; omega, (hf4 g hg).2⟩) hc4
                      rw [HR.out] at this
                      exact this
                    have hB6 : Below wE.heap.size wE (w4.setCell ⟨wE.heap.size, k, none⟩ (.slice a4 (rowMod d.Rd k d.Sp.length).length c4)) := (hB4.trans (hb4.mono (by omega))).setCell (p := ⟨wE.heap.size, k, none⟩) (Nat.le_refl _) _
                    have hs6 : wE.heap.size + 1 ≤ (w4.setCell ⟨wE.heap.size, k, none⟩ (.slice a4 (rowMod d.Rd k d.Sp.length).length c4)).heap.size := by have := hb4.size; simp [World.setCell]; omega
                    clear hr4 hf4 hb4 hfI R4 hB4 t7 hBA
                    go_wp2
                    go_roundw
                    case rel => exact ⟨k + 1, by omega, by go_num, hB6, R6, hs6⟩
                    case measure => simp [intOf]; omega
                  · have hke : n = k := by omega
                    subst hke
                    go_upto_region 33 with fail
                    exact tail33 _ _ _ _ _ _ _ _ _ _ _ _ _ _ _ _ _ _ _ _ _ _ _ _ _ _ _ _ _ _ _ _ _ _ _ _ _ _ _ _ _ _ _ _ _ _ _ _ _ _ _ _ _ _ _ _ _ _ _ _ _ _ _ _ _ _ _ _ _ _ _ _ _ _ _ _ _ _ _ _ _ _ _ _ _ _ _ _ _ _ _ _ _ _ _ _ _ _ _ _ _ _ _ _ _ _ _ _ _ _ _ _ _ _ _ _ _ _ _ _ _ _ _ _ _ _ _ _ _ _ _ _ _ _ _ _ _ _ _ _ _ _ _ _ _ _ _ _ _ _ _ _ _ _ _ _ _ _ _ _ _ _ _ _ _ _ _ _ _ _ _ _ _ _ _ _ _ _ _ _ _ _ _ _ _ _ _ _ _ _ _ _ _ _ _ _ _ _ _ _ _ _ _ _ _ _ _ _ _ _ _ _ _ _ _ _ _ _ _ _ _ _ _ _ _ _ _ _ _ _ _ _ _ _ _ _ _ _ _ _ _ _ _ _ _ _ _ _ _ _ _ _ w.heap.size n m gs cs ga ca d.Sp.length d st al w w0 wA wC wE wr _ (by assumption) hn1 hn2 hm1 hm2 hU.1 hU.2 (HB.out q2 (hBE.trans (hB4.mono (by omega)))) (Nat.le_refl _) hbw0 I0 HS.out (by omega) hB2 R2 hb rfl (by omega) hown hB4 R4 b2 b3 b4 b5 _ _ rfl rfl
              · have hL0 : d.Sp.length = 0 := by omega
                have hLd : decide (0 < d.Sp.length) = false := by simpa using hL
                have HL0 : Hid (d.Sp.length = 0) := hL0
                clear hL0
                go_upto_region 33 with fail
                have hB4 : Below wE.heap.size wE (wE.alloc (.cells (madeCells #[.slice none 0 0] n) 25)) := (Below.refl _ wE).alloc (Nat.le_refl _) _
                have R4 : RowsP (wE.alloc (.cells (madeCells #[.slice none 0 0] n) 25)) wE.heap.size n n (rdRow d.Rd d.Sp.length) (fun g => wE.heap.size + 1 ≤ g) := by
                  refine ⟨fun _ => .slice none 0 0, World.rowIs_made wE (.slice none 0 0) n 25, fun j hj => ⟨none, 0, ?_, ?_, by simp [blk], fun _ => rfl⟩⟩
                  · unfold rdRow; rw [if_pos HL0.out]; rfl
                  · unfold rdRow; rw [if_pos HL0.out]; exact IRow.nil _ _ _
                exact tail33 _ _ _ _ _ _ _ _ _ _ _ _ _ _ _ _ _ _ _ _ _ _ _ _ _ _ _ _ _ _ _ _ _ _ _ _ _ _ _ _ _ _ _ _ _ _ _ _ _ _ _ _ _ _ _ _ _ _ _ _ _ _ _ _ _ _ _ _ _ _ _ _ _ _ _ _ _ _ _ _ _ _ _ _ _ _ _ _ _ _ _ _ _ _ _ _ _ _ _ _ _ _ _ _ _ _ _ _ _ _ _ _ _ _ _ _ _ _ _ _ _ _ _ _ _ _ _ _ _ _ _ _ _ _ _ _ _ _ _ _ _ _ _ _ _ _ _ _ _ _ _ _ _ _ _ _ _ _ _ _ _ _ _ _ _ _ _ _ _ _ _ _ _ _ _ _ _ _ _ _ _ _ _ _ _ _ _ _ _ _ _ _ _ _ _ _ _ _ _ _ _ _ _ _ _ _ _ _ _ _ _ _ _ _ _ _ _ _ _ _ _ _ _ _ _ _ _ _ _ _ _ _ _ _ _ _ _ _ _ _ _ _ _ _ _ _ _ _ _ _ _ _ w.heap.size n m gs cs ga ca d.Sp.length d st al w w0 wA wC wE _ _ (by assumption) hn1 hn2 hm1 hm2 hU.1 hU.2 (HB.out q2 (hBE.trans (hB4.mono (by omega)))) (Nat.le_refl _) hbw0 I0 HS.out (by omega) hB2 R2 hb rfl (by omega) hown hB4 R4 b2 b3 b4 b5 _ _ rfl rfl

end Go.Proofs.Ybulkbxog
