/-
  Law C's road: the closures and the small methods.
-/
import Derived.Test.YbulkbxogCa
import Derived.RangeFuncNested
import Derived.Deep.RegionHeld3
namespace Go.Proofs.Ybulkbxog
open Go.RowKit

set_option maxRecDepth 100000 in
set_option maxHeartbeats 800000 in
/-- '(lists).of'. -/
theorem of_any (gs cs ga ca : Nat) (st al : List Int) (i : Nat) (lo hi : Nat) (w : World) (hs : IRow w .i64 (some ⟨gs, 0, none⟩) st) (hi1 : i + 1 < st.length) (_hst : st.length ≤ 1024)
    (h1 : st[i]? = some (lo : Int)) (h2 : st[i+1]? = some (hi : Int)) (hlh : lo ≤ hi) (hh : hi ≤ al.length) (hca : al.length ≤ ca) (_hcm : ca ≤ maxLen) (ha : IRow w .i64 (some ⟨ga, 0, none⟩) al) :
    Calls Yba.prog 53 #[.agg #[.slice (some ⟨gs, 0, none⟩) st.length cs, .slice (some ⟨ga, 0, none⟩) al.length ca], .int .i64 i] w fun e w' =>
      ∃ ao cp, e = .returned (.slice ao (hi - lo) cp) ∧ IRow w' .i64 ao ((al.drop lo).take (hi - lo)) ∧ blk ao = some ga ∧ Below w.heap.size w w' := by
  unfold maxLen at _hcm
  obtain ⟨g, o, hgo, hc⟩ := hs.at (by omega)
  simp at hgo
  obtain ⟨rfl, rfl⟩ := hgo
  have c1 := hc i (by omega)
  have c2 := hc (i + 1) hi1
  rw [h1] at c1
  rw [h2] at c2
  simp only [Nat.zero_add, Option.getD_some] at c1 c2
  have hgl : gs < w.heap.size := World.block_lt_of_cell? w _ c1
  have e1 : (i : Int) < st.length := by omega
  have e2 : (i : Int) + 1 < st.length := by omega
  have e3 : (lo : Int) ≤ hi := by omega
  have e4 : (hi : Int) ≤ ca := by omega
  clear hc hs h1 h2
  go_enter Yba.func53, Yba.ntmps53
  go_wp2
  go_quiet (fail)
  go_wp2
  all_goals go_ret
  · refine ⟨_, ⟨_, rfl⟩, ?_, rfl, below_drewN ((Below.refl _ _).alloc (Nat.le_refl _) _) _⟩
    have : hi - lo = 0 := by omega
    rw [this]; exact IRow.nil _ _ _
  · refine ⟨_, ⟨_, rfl⟩, ?_, rfl, below_drewN ((Below.refl _ _).alloc (Nat.le_refl _) _) _⟩
    have := ha.sub lo (hi - lo)
    rw [Nat.zero_add] at this
    exact this.below (below_drewN ((Below.refl _ w).alloc (Nat.le_refl _) _) nq)

set_option maxRecDepth 100000 in
set_option maxHeartbeats 800000 in
/-- '(graph).successors'. -/
theorem gsucc_any (gs cs ga ca : Nat) (st al : List Int) (i : Nat) (lo hi : Nat) (w : World) (hs : IRow w .i64 (some ⟨gs, 0, none⟩) st) (hi1 : i + 1 < st.length) (hst : st.length ≤ 1024)
    (h1 : st[i]? = some (lo : Int)) (h2 : st[i+1]? = some (hi : Int)) (hlh : lo ≤ hi) (hh : hi ≤ al.length) (hca : al.length ≤ ca) (hcm : ca ≤ maxLen) (ha : IRow w .i64 (some ⟨ga, 0, none⟩) al) :
    Calls Yba.prog 39 #[.agg #[.slice (some ⟨gs, 0, none⟩) st.length cs, .slice (some ⟨ga, 0, none⟩) al.length ca], .int .i64 i] w fun e w' =>
      ∃ ao cp, e = .returned (.slice ao (hi - lo) cp) ∧ IRow w' .i64 ao ((al.drop lo).take (hi - lo)) ∧ blk ao = some ga ∧ Below w.heap.size w w' := by
  have HC := of_any gs cs ga ca st al i lo hi (w.alloc (.cells #[.slice (some ⟨gs, 0, none⟩) st.length cs, .slice (some ⟨ga, 0, none⟩) al.length ca] 37)) (hs.alloc _) hi1 hst h1 h2 hlh hh hca hcm (ha.alloc _)
  clear h1 h2 hs ha
  go_enter Yba.func39, Yba.ntmps39
  go_wp2_with (go_at_call 53; refine HC.mono ?_; rintro e w1 ⟨ao, cp, rfl, hr, hab, hb⟩)
  go_ret
  exact ⟨ao, cp, rfl, hr, hab, (((Below.refl _ w).alloc (Nat.le_refl _) _).trans (hb.mono (by simp)))⟩

/-- A slice of slices of ints in memory. -/
def RRow (w : World) (ao : Option Addr) (xss : List (List Int)) : Prop :=
  ∀ j xs, xss[j]? = some xs → ∃ g o a c, ao = some ⟨g, o, none⟩ ∧ w.cell? ⟨g, o + j, none⟩ = some (.slice a xs.length c) ∧ IRow w .i64 a xs

theorem RRow.below {w w' : World} {ao : Option Addr} {xss : List (List Int)} (h : RRow w ao xss) (hb : Below w.heap.size w w') : RRow w' ao xss := by
  intro j xs hj
  obtain ⟨g, o, a, c, rfl, hc, hr⟩ := h j xs hj
  exact ⟨g, o, a, c, rfl, (hb.cell (World.block_lt_of_cell? w _ hc)).trans hc, hr.below hb⟩

/-- What the search 's' holds, as the roads of 'forcedAfter' read it. -/
structure SAt (w : World) (sb n m gs cs ga ca : Nat) (st al : List Int) (pa : Option Addr) (pc : Nat) (ia fa ra wa : Option Addr) (ic fc rc wc : Nat) (Inf Pre Rd Wr : List (List Int)) (sa : Option Addr) (sc : Nat) (sp : List Int) : Prop where
  c0 : w.cell? ⟨sb, 0, none⟩ = some (.slice (some ⟨gs, 0, none⟩) st.length cs)
  c1 : w.cell? ⟨sb, 1, none⟩ = some (.slice (some ⟨ga, 0, none⟩) al.length ca)
  c2 : w.cell? ⟨sb, 2, none⟩ = some (.slice sa sp.length sc)
  c4 : w.cell? ⟨sb, 4, none⟩ = some (.slice wa m wc)
  c7 : w.cell? ⟨sb, 7, none⟩ = some (.slice ra n rc)
  c12 : w.cell? ⟨sb, 12, none⟩ = some (.slice pa n pc)
  c46 : w.cell? ⟨sb, 46, none⟩ = some (.slice ia n ic)
  c48 : w.cell? ⟨sb, 48, none⟩ = some (.slice fa n fc)
  hst : IRow w .i64 (some ⟨gs, 0, none⟩) st
  hal : IRow w .i64 (some ⟨ga, 0, none⟩) al
  hca : al.length ≤ ca
  hcm : ca ≤ maxLen
  li : Inf.length = n
  lf : Pre.length = n
  lr : Rd.length = n
  lw : Wr.length = m
  hi : RRow w ia Inf
  hf : RRow w fa Pre
  hr : RRow w ra Rd
  hw : RRow w wa Wr
  hsp : ∀ j x, sp[j]? = some x → ∃ g o, sa = some ⟨g, o, none⟩ ∧ w.cell? ⟨g, o + (j * 3 + 2), none⟩ = some (.int .i64 x)
  -- sizes
  ln : n ≤ 8
  lm : m ≤ 8
  lst : st.length = n + 1
  lal : al.length ≤ 10000
  lsp : sp.length ≤ 1024
  zst : ∀ i, i < n → ∃ lo hi : Nat, st[i]? = some (lo : Int) ∧ st[i+1]? = some (hi : Int) ∧ lo ≤ hi ∧ hi ≤ al.length
  zi : ∀ xs ∈ Inf, xs.length ≤ 1024
  zf : ∀ xs ∈ Pre, xs.length ≤ 1024
  zr : ∀ xs ∈ Rd, xs.length ≤ 1024 ∧ ∀ x ∈ xs, 0 ≤ x ∧ x < sp.length
  zw : ∀ xs ∈ Wr, xs.length ≤ 1024
  zs : ∀ x ∈ sp, 0 ≤ x ∧ x ≤ 8

theorem SAt.below {w w' : World} {sb n m gs cs ga ca : Nat} {st al : List Int} {pa : Option Addr} {pc : Nat} {ia fa ra wa : Option Addr} {ic fc rc wc : Nat} {Inf Pre Rd Wr : List (List Int)} {sa : Option Addr} {sc : Nat} {sp : List Int}
    (h : SAt w sb n m gs cs ga ca st al pa pc ia fa ra wa ic fc rc wc Inf Pre Rd Wr sa sc sp) (hb : Below w.heap.size w w') : SAt w' sb n m gs cs ga ca st al pa pc ia fa ra wa ic fc rc wc Inf Pre Rd Wr sa sc sp := by
  have hsb : sb < w.heap.size := World.block_lt_of_cell? w _ h.c0
  exact ⟨(hb.cell hsb).trans h.c0, (hb.cell hsb).trans h.c1, (hb.cell hsb).trans h.c2, (hb.cell hsb).trans h.c4, (hb.cell hsb).trans h.c7, (hb.cell hsb).trans h.c12, (hb.cell hsb).trans h.c46, (hb.cell hsb).trans h.c48,
    h.hst.below hb, h.hal.below hb, h.hca, h.hcm, h.li, h.lf, h.lr, h.lw, h.hi.below hb, h.hf.below hb, h.hr.below hb, h.hw.below hb,
    fun j x hj => by obtain ⟨g, o, e, hc⟩ := h.hsp j x hj; exact ⟨g, o, e, (hb.cell (World.block_lt_of_cell? w _ hc)).trans hc⟩,
    h.ln, h.lm, h.lst, h.lal, h.lsp, h.zst, h.zi, h.zf, h.zr, h.zw, h.zs⟩

/-- The arcs of node i. -/
def arcsOf (st al : List Int) (i : Nat) : List Int := (al.drop (st[i]?.getD 0).toNat).take ((st[i+1]?.getD 0).toNat - (st[i]?.getD 0).toNat)

set_option maxRecDepth 100000 in
set_option maxHeartbeats 800000 in
/-- 'each': the closure over a box that holds the slice of lists. -/
theorem each_any (v : Value) (w : World) (ao : Option Addr) (n c : Nat) (hv : v = .slice ao n c) :
    Calls Yba.prog 38 #[v] w fun e w' => e = .returned (.func (.func 52) #[] #[.pointer (some ⟨w.heap.size, 0, none⟩)]) ∧ w' = w.alloc (.cells #[v] 39) := by
  subst hv
  go_enter Yba.func38, Yba.ntmps38
  go_wp2
  go_ret
  exact ⟨rfl, rfl⟩

set_option maxRecDepth 100000 in
set_option maxHeartbeats 800000 in
/-- 'forcedAfter': the closure over two boxes. -/
theorem fa_any (sb : Nat) (u : Int) (w : World) :
    Calls Yba.prog 13 #[.pointer (some ⟨sb, 0, none⟩), .int .i64 u] w fun e w' => e = .returned (.func (.func 30) #[] #[.pointer (some ⟨w.heap.size, 0, none⟩), .pointer (some ⟨w.heap.size + 1, 0, none⟩)]) ∧
      w' = (w.alloc (.cells #[.pointer (some ⟨sb, 0, none⟩)] 24)).alloc (.cells #[.int .i64 u] 3) := by
  go_enter Yba.func13, Yba.ntmps13
  go_wp2
  go_ret
  exact ⟨rfl, rfl⟩

/-- The box Bl holds a slice of lists, in block Bt; list j is the slice at 'A j' that reads as the j-th of xss. -/
def LQ (Bl Bt : Nat) (A : Nat → Option Addr) (C : Nat → Nat) (xss : List (List Int)) (w : World) : Prop :=
  w.cell? ⟨Bl, 0, none⟩ = some (.slice (some ⟨Bt, 0, none⟩) xss.length xss.length) ∧
  ∀ j xs, xss[j]? = some xs → w.cell? ⟨Bt, j, none⟩ = some (.slice (A j) xs.length (C j)) ∧ IRow w .i64 (A j) xs

def three {α : Type} (a b c : α) : Nat → α
  | 0 => a
  | 1 => b
  | _ => c

theorem blk_lt {w : World} {k : IntKind} {ao : Option Addr} {xs : List Int} (h : IRow w k ao xs) (hne : xs ≠ []) {b : Nat} (hb : blk ao = some b) : b < w.heap.size := by
  obtain ⟨g, o, rfl, hc⟩ := h.at (List.length_pos_iff.2 hne)
  have : g = b := by simpa [blk] using hb
  subst this
  exact World.block_lt_of_cell? w _ (hc 0 (List.length_pos_iff.2 hne))

theorem rr3 (w : World) (a1 a2 a3 : Option Addr) (c1 c2 c3 : Nat) (x1 x2 x3 : List Int) (h1 : IRow w .i64 a1 x1) (h2 : IRow w .i64 a2 x2) (h3 : IRow w .i64 a3 x3) :
    LQ (w.heap.size + 1) w.heap.size (three a1 a2 a3) (three c1 c2 c3) [x1, x2, x3]
      ((w.alloc (.cells #[.slice a1 x1.length c1, .slice a2 x2.length c2, .slice a3 x3.length c3] 25)).alloc (.cells #[.slice (some ⟨w.heap.size, 0, none⟩) 3 3] 39)) := by
  refine ⟨by simp, fun j xs hj => ?_⟩
  match j, hj with
  | 0, hj => simp at hj; subst hj; exact ⟨by simp [three], (h1.alloc _).alloc _⟩
  | 1, hj => simp at hj; subst hj; exact ⟨by simp [three], (h2.alloc _).alloc _⟩
  | 2, hj => simp at hj; subst hj; exact ⟨by simp [three], (h3.alloc _).alloc _⟩

set_option maxRecDepth 100000 in
set_option maxHeartbeats 1600000 in
/-- '(*viewSearch).successors'. -/
theorem succ_any {wB w : World} {sb n m gs cs ga ca : Nat} {st al : List Int} {pa : Option Addr} {pc : Nat} {ia fa ra wa : Option Addr} {ic fc rc wc : Nat} {Inf Pre Rd Wr : List (List Int)} {sa : Option Addr} {sc : Nat} {sp : List Int}
    (hB : SAt wB sb n m gs cs ga ca st al pa pc ia fa ra wa ic fc rc wc Inf Pre Rd Wr sa sc sp) (hbel : Below wB.heap.size wB w) (v : Nat) (hv : v < n) :
    Calls Yba.prog 31 #[.pointer (some ⟨sb, 0, none⟩), .int .i64 v] w fun e w' => ∃ Bl Bt A C, e = .returned (.func (.func 52) #[] #[.pointer (some ⟨Bl, 0, none⟩)]) ∧ w.heap.size ≤ Bl ∧ w.heap.size ≤ Bt ∧ Below w.heap.size w w' ∧
      LQ Bl Bt A C [arcsOf st al v, Inf[v]?.getD [], Pre[v]?.getD []] w' ∧ (∀ j xs, [arcsOf st al v, Inf[v]?.getD [], Pre[v]?.getD []][j]? = some xs → xs ≠ [] → ∀ b, blk (A j) = some b → b < wB.heap.size) := by
  have h := hB.below hbel
  obtain ⟨lo, hi, z1, z2, z3, z4⟩ := h.zst v hv
  have hn := h.ln
  have hlst := h.lst
  obtain ⟨xI, hI⟩ : ∃ I, Inf[v]? = some I := ⟨Inf[v]'(by rw [h.li]; exact hv), by simp [h.li, hv]⟩
  obtain ⟨xF, hF⟩ : ∃ I, Pre[v]? = some I := ⟨Pre[v]'(by rw [h.lf]; exact hv), by simp [h.lf, hv]⟩
  obtain ⟨gi, oi, ai, ci, ei, hciB, hrBi⟩ := hB.hi v xI hI
  obtain ⟨gf, of, af, cf, ef, hcfB, hrBf⟩ := hB.hf v xF hF
  have hci := (hbel.cell (World.block_lt_of_cell? wB _ hciB)).trans hciB
  have hcf := (hbel.cell (World.block_lt_of_cell? wB _ hcfB)).trans hcfB
  have hri := hrBi.below hbel
  have hrf := hrBf.below hbel
  clear hciB hcfB
  have HI : Hid (Inf[v]?.getD [] = xI) := by unfold Hid; rw [hI]; rfl
  have HF : Hid (Pre[v]?.getD [] = xF) := by unfold Hid; rw [hF]; rfl
  clear hI hF
  subst ei
  subst ef
  have hsb : sb < w.heap.size := World.block_lt_of_cell? w _ h.c0
  have hgi : gi < w.heap.size := World.block_lt_of_cell? w _ hci
  have hgf : gf < w.heap.size := World.block_lt_of_cell? w _ hcf
  have e0 := h.c0
  have e1 := h.c1
  have e46 := h.c46
  have e48 := h.c48
  have hv1 : (0 : Int) ≤ v := by omega
  have hv2 : (v : Int) < n := by omega
  have HG := gsucc_any gs cs ga ca st al v lo hi w.drew h.hst (by omega) (by omega) z1 z2 z3 z4 h.hca h.hcm h.hal
  have HGA : Hid (al ≠ [] → ga < wB.heap.size) := fun hne => blk_lt hB.hal hne rfl
  have HbI : Hid (xI ≠ [] → ∀ b, blk ai = some b → b < wB.heap.size) := fun hne b hb => blk_lt hrBi hne hb
  have HbF : Hid (xF ≠ [] → ∀ b, blk af = some b → b < wB.heap.size) := fun hne b hb => blk_lt hrBf hne hb
  clear hrBi hrBf
  have HA : Hid (arcsOf st al v = (al.drop lo).take (hi - lo)) := by unfold Hid arcsOf; rw [z1, z2]; simp
  clear z1 z2 hlst
  clear h hB hbel
  go_enter Yba.func31, Yba.ntmps31
  go_wp2
  go_region_held3 (fun w' => w'.cell? ⟨sb, 0, none⟩ = some (.slice (some ⟨gs, 0, none⟩) st.length cs) ∧ w'.cell? ⟨sb, 1, none⟩ = some (.slice (some ⟨ga, 0, none⟩) al.length ca) ∧ w'.cell? ⟨sb, 46, none⟩ = some (.slice (some ⟨gi, oi, none⟩) n ic) ∧ w'.cell? ⟨sb, 48, none⟩ = some (.slice (some ⟨gf, of, none⟩) n fc)
     ∧ w'.cell? ⟨gi, oi + v, none⟩ = some (.slice ai xI.length ci) ∧ w'.cell? ⟨gf, of + v, none⟩ = some (.slice af xF.length cf)) (go_keep)
    (first | (go_at_call 39; refine HG.mono ?_; rintro e w1 ⟨ao, cp, rfl, hr1, hab, hb1⟩; have k0 := (hb1.cell (p := ⟨sb, 0, none⟩) hsb).trans e0; have k1 := (hb1.cell (p := ⟨sb, 1, none⟩) hsb).trans e1; have k46 := (hb1.cell (p := ⟨sb, 46, none⟩) hsb).trans e46; have k48 := (hb1.cell (p := ⟨sb, 48, none⟩) hsb).trans e48; have ki := (hb1.cell (p := ⟨gi, oi + v, none⟩) hgi).trans hci; have kf := (hb1.cell (p := ⟨gf, of + v, none⟩) hgf).trans hcf; have hs1 : w.heap.size ≤ w1.heap.size := hb1.size) | (go_at_call 38; refine (each_any _ _ _ 3 3 rfl).mono ?_; rintro e w2 ⟨rfl, rfl⟩))
  go_wp2
  go_ret
  have hb2 : Below w.heap.size w w1 := ((Below.refl _ w).drew).trans hb1
  refine ⟨_, w1.heap.size, three ao ai af, three cp ci cf, rfl, by omega, hs1, (hb2.alloc (by omega) _).alloc (by simp; omega) _, ?_, ?_⟩
  · rw [HI.out, HF.out, HA.out]
    have hl : ((al.drop lo).take (hi - lo)).length = hi - lo := by simp; omega
    have := rr3 w1 ao ai af cp ci cf ((al.drop lo).take (hi - lo)) xI xF hr1 (hri.below hb2) (hrf.below hb2)
    rw [hl] at this
    exact this
  · rw [HI.out, HF.out, HA.out]
    intro j xs hj hne b hb
    match j, hj with
    | 0, hj =>
      simp at hj; subst hj
      have : ga = b := by simpa [three, hab] using hb
      subst this
      exact HGA.out (fun e => hne (by simp [e]))
    | 1, hj => simp at hj; subst hj; exact HbI.out hne b (by simpa [three] using hb)
    | 2, hj => simp at hj; subst hj; exact HbF.out hne b (by simpa [three] using hb)

end Go.Proofs.Ybulkbxog
