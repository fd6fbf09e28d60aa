/-
  Law C: the two laws, walked.
-/
import Derived.Test.YbulkbxogCm
namespace Go.Proofs.Ybulkbxog
open Go.RowKit Go.Shelf

theorem ran_true {model got : List Int} (h : Ran (fun _ => true) model got) : got = model := by
  rcases h.2.1 with h | h
  · exact h
  · cases h

theorem yok14 (Bg : Nat) : YOk 14 #[.pointer (some ⟨Bg, 0, none⟩)] Bg 20001 (fun _ => true) (GotAt Bg) := by
  intro g pre x W hJ hl
  have := y14 Bg g pre x W hJ (by omega)
  exact this

theorem gotAt_new (wB : World) : GotAt (wB.heap.size + 1) wB.heap.size [] ((wB.alloc (.cells #[] 3)).alloc (.cells #[.slice (some ⟨wB.heap.size, 0, none⟩) 0 0] 25)) := by
  refine ⟨0, ?_, ?_⟩
  · have := Boxed.new (wB.alloc (.cells #[] 3)) 25 (.slice (some ⟨wB.heap.size, 0, none⟩) 0 0)
    simpa using this
  · refine World.ownsRow.alloc ?_ _
    exact ⟨rfl, .inr ⟨wB.heap.size, 0, #[], rfl, Nat.zero_le _, heap_alloc_new wB _, by simp, by simp [maxLen], rfl, rfl⟩⟩

/-- 'forcedAfter(u)(yield)', u an item's node or not. -/
theorem forced_run {wB W : World} {sb n m gs cs ga ca : Nat} {st al : List Int} {pa : Option Addr} {pc : Nat} {ia fa ra wa : Option Addr} {ic fc rc wc : Nat} {Inf Pre Rd Wr : List (List Int)} {sa : Option Addr} {sc : Nat} {sp : List Int}
    (hB : SAt wB sb n m gs cs ga ca st al pa pc ia fa ra wa ic fc rc wc Inf Pre Rd Wr sa sc sp) (hbel : Below wB.heap.size wB W)
    (gy : Nat) (caps : Array Value) (Bg N : Nat) (cont : List Int → Bool) (J : Nat → List Int → World → Prop) (hY : YOk gy caps Bg N cont J) (hJo : ∀ g, Own (J g)) (hE : ∀ args w, (callFunc gy args).run Yba.prog w = .ok (.enter gy args) w)
    (g0 u : Nat) (hBg : wB.heap.size ≤ Bg) (hg0 : wB.heap.size ≤ g0) (hBgw : Bg < W.heap.size) (hg0w : g0 < W.heap.size) (h0 : J g0 [] W) (model : List Int) (hum : u < n + m) (hN : model.length ≤ N) (hA1 : n ≤ u → Wr[u - n]? = some model)
    (hA2 : u < n → ∃ xI xF xR, Inf[u]? = some xI ∧ Pre[u]? = some xF ∧ Rd[u]? = some xR ∧ model = nodeModel n (arcsOf st al u) xI xF xR sp) :
    Calls Yba.prog 30 #[.func (.func gy) #[] caps, .pointer (some ⟨W.heap.size, 0, none⟩), .pointer (some ⟨W.heap.size + 1, 0, none⟩)] ((W.alloc (.cells #[.pointer (some ⟨sb, 0, none⟩)] 24)).alloc (.cells #[.int .i64 u] 3)) fun e w' =>
      e = .returned (.tuple #[]) ∧ (∃ g got, J g got w' ∧ Ran cont model got) ∧ Below wB.heap.size W w' := by
  have hsz := hbel.size
  have hb1 : Below wB.heap.size W ((W.alloc (.cells #[.pointer (some ⟨sb, 0, none⟩)] 24)).alloc (.cells #[.int .i64 u] 3)) := ((Below.refl _ W).alloc hsz _).alloc (by simp; omega) _
  have hb2 := hbel.trans hb1
  have hJ : J g0 [] ((W.alloc (.cells #[.pointer (some ⟨sb, 0, none⟩)] 24)).alloc (.cells #[.int .i64 u] 3)) := (hJo g0).alloc _ ((hJo g0).alloc _ h0)
  have c1 : ((W.alloc (.cells #[.pointer (some ⟨sb, 0, none⟩)] 24)).alloc (.cells #[.int .i64 u] 3)).cell? ⟨W.heap.size, 0, none⟩ = some (.pointer (some ⟨sb, 0, none⟩)) := by simp
  have c2 : ((W.alloc (.cells #[.pointer (some ⟨sb, 0, none⟩)] 24)).alloc (.cells #[.int .i64 u] 3)).cell? ⟨W.heap.size + 1, 0, none⟩ = some (.int .i64 u) := by simp
  by_cases hnu : n ≤ u
  · refine (fa1_item hB hb2 gy caps Bg N cont J hY hJo hE g0 W.heap.size (W.heap.size + 1) u hBg hg0 (by simp; omega) (by simp) (by omega) (by omega) (by omega) (by omega) (by simp; omega) (by simp; omega) c1 c2 hnu hum hJ model (hA1 hnu) hN).mono ?_
    rintro e w' ⟨rfl, h1, h2⟩
    exact ⟨rfl, h1, hb1.trans h2⟩
  · obtain ⟨xI, xF, xR, h1, h2, h3, rfl⟩ := hA2 (by omega)
    refine (fa1_node hB hb2 gy caps Bg N cont J hY hJo hE g0 W.heap.size (W.heap.size + 1) u hBg hg0 (by simp; omega) (by simp) (by omega) (by omega) (by omega) (by omega) (by simp; omega) (by simp; omega) c1 c2 (by omega) hJ xI xF xR h1 h2 h3 hN).mono ?_
    rintro e w' ⟨rfl, h1, h2⟩
    exact ⟨rfl, h1, hb1.trans h2⟩

theorem ran_lim {model got : List Int} {lim : Nat} (hl : 1 ≤ lim) (h : Ran (fun pre => decide (pre.length < lim)) model got) : got = model.take lim := by
  obtain ⟨hp, h1, h2⟩ := h
  have hle : got.length ≤ lim := by
    rcases Nat.lt_or_ge lim got.length with hlt | hge
    · have hq : got.take lim <+: got := List.take_prefix _ _
      have hl' : (got.take lim).length = lim := by rw [List.length_take]; omega
      have := h2 (got.take lim) hq (fun e => by rw [e] at hl'; omega) (fun e => by rw [e] at hl'; simp at hl'; omega)
      simp at this
      omega
    · exact hge
  rcases h1 with rfl | h1
  · exact (List.take_of_length_le hle).symm
  · have : lim ≤ got.length := by simpa using h1
    have e : got.length = lim := by omega
    rw [← e]
    exact List.prefix_iff_eq_take.1 hp

theorem yok16 (Bg Bl lim : Nat) : YOk 16 #[.pointer (some ⟨Bg, 0, none⟩), .pointer (some ⟨Bl, 0, none⟩)] Bg 20001 (fun pre => decide (pre.length < lim)) (fun g pre W => GotAt Bg g pre W ∧ Boxed W Bl 3 (.int .i64 lim) ∧ Bl ≠ g) := by
  rintro g pre x W ⟨hJ, hB, hne⟩ hl
  have := y16 Bg g Bl lim pre x W hJ hB hne (by omega)
  refine this.mono ?_
  rintro e w' ⟨rfl, h1, h2, h3⟩
  exact ⟨ret_bool (by simp), h1, h2, h3⟩

theorem got6_own (Bg Bl lim g : Nat) : Own (fun pre W => GotAt Bg g pre W ∧ Boxed W Bl 3 (.int .i64 lim) ∧ Bl ≠ g) := by
  rintro pre X Y row ⟨h1, h2, h3⟩ hg hr
  exact ⟨GotAt.own Bg g pre X Y row h1 hg hr, boxed_own Bl 3 (fun _ : Unit => .int .i64 lim) () X Y row h2 hg hr, h3⟩

theorem gotAt_new6 (wB : World) (lim : Nat) : GotAt (wB.heap.size + 2) (wB.heap.size + 1) [] (((wB.alloc (.cells #[.int .i64 lim] 3)).alloc (.cells #[] 3)).alloc (.cells #[.slice (some ⟨wB.heap.size + 1, 0, none⟩) 0 0] 25)) ∧
    Boxed (((wB.alloc (.cells #[.int .i64 lim] 3)).alloc (.cells #[] 3)).alloc (.cells #[.slice (some ⟨wB.heap.size + 1, 0, none⟩) 0 0] 25)) wB.heap.size 3 (.int .i64 lim) ∧ wB.heap.size ≠ wB.heap.size + 1 := by
  refine ⟨?_, ((Boxed.new wB 3 _).alloc _).alloc _, by omega⟩
  have := gotAt_new (wB.alloc (.cells #[.int .i64 lim] 3))
  simpa using this

set_option maxRecDepth 100000 in
set_option maxHeartbeats 2000000 in
theorem law5_ok (w : World) (d : CIn) (aA aI aP aW aR aS : Option Addr) (cA cI cP cW cR cS : Nat) (h : InAt w d aA aI aP aW aR aS) (hbig : d.isBig = false) :
    Calls Yba.prog 5 #[.agg (inCells d aA aI aP aW aR aS cA cI cP cW cR cS)] w fun e w' => e = .returned (.bool true) ∧ Below w.heap.size w w' := by
  have hIn : ∀ o, InAt (w.alloc o) d aA aI aP aW aR aS := fun o => by
    have hb : Below w.heap.size w (w.alloc o) := (Below.refl _ w).alloc (Nat.le_refl _) o
    exact ⟨h.hA.below hb (Nat.le_refl _), h.hI.below hb (Nat.le_refl _), h.hP.below hb (Nat.le_refl _), h.hW.below hb (Nat.le_refl _), h.hR.below hb (Nat.le_refl _), h.hS.below hb, h.lA, h.lI, h.lP, h.lW, h.lR, h.lS, h.bN, h.bM, h.bU, h.bS⟩
  have C12 := fun o => build_ok (w.alloc o) d aA aI aP aW aR aS cA cI cP cW cR cS (hIn o) hbig
  unfold inCells at C12 ⊢
  go_enter Yba.func5, Yba.ntmps5
  go_wp2_with fail
  refine (C12 _).mono ?_
  rintro e wB ⟨sb, u, n, m, gs, cs, ga, ca, st, al, pa, pc, ia, fa, ra, wa, ic, fc, rc, wc, Inf, Pre, Rd, Wr, sa, sc, sp, am, cm, model, rfl, hSA, hrm, hbel, hum, hml, hmc, hA1, hA2⟩
  clear C12 hIn
  simp only [World.size_alloc] at hbel
  have hB0 : Below w.heap.size w wB := ((Below.refl _ w).alloc (Nat.le_refl _) _).trans (hbel.mono (by omega))
  have hbW : Below wB.heap.size wB ((wB.alloc (.cells #[] 3)).alloc (.cells #[.slice (some ⟨wB.heap.size, 0, none⟩) 0 0] 25)) := ((Below.refl _ wB).alloc (Nat.le_refl _) _).alloc (by simp) _
  have C30 := forced_run hSA hbW 14 #[.pointer (some ⟨wB.heap.size + 1, 0, none⟩)] (wB.heap.size + 1) 20001 (fun _ => true) (GotAt (wB.heap.size + 1)) (yok14 _) (GotAt.own _) (enters_of Yba.func14 (by kernel_rfl) rfl) wB.heap.size u (by omega) (Nat.le_refl _) (by simp) (by simp; omega) (gotAt_new wB) model hum (by omega) hA1 hA2
  have C13 := fa_any sb u ((wB.alloc (.cells #[] 3)).alloc (.cells #[.slice (some ⟨wB.heap.size, 0, none⟩) 0 0] 25))
  simp only [World.size_alloc] at C13 C30
  clear hA1 hA2 hSA h
  go_wp2_with fail
  refine C13.mono ?_
  rintro e w1 ⟨rfl, rfl⟩
  clear C13
  go_wp2_with fail
  refine C30.mono ?_
  rintro e w2 ⟨rfl, ⟨g, got, hG, hR⟩, hb2⟩
  clear C30
  obtain rfl := ran_true hR
  have hb3 : Below wB.heap.size wB w2 := hbW.trans hb2
  have hrow := hG.row
  obtain ⟨cp, hbox, _⟩ := hG
  have hcell := hbox.cell
  have hrm2 := hrm.below hb3
  go_wp2_with fail
  refine (eq_same (some ⟨g, 0, none⟩) am cp cm got w2 hrow hrm2 (by unfold maxLen; omega)).mono ?_
  rintro e w3 ⟨rfl, nn, rfl⟩
  go_wp2
  go_ret
  exact ⟨rfl, below_drewN (hB0.trans (hb3.mono hB0.size)) nn⟩

set_option maxRecDepth 100000 in
set_option maxHeartbeats 2000000 in
theorem law6_ok (w : World) (d : CIn) (aA aI aP aW aR aS : Option Addr) (cA cI cP cW cR cS : Nat) (h : InAt w d aA aI aP aW aR aS) (hbig : d.isBig = false) (kk : Int) (hk0 : 0 ≤ kk) (hk1 : kk ≤ 255) :
    Calls Yba.prog 6 #[.agg (inCells d aA aI aP aW aR aS cA cI cP cW cR cS), .int .u8 kk] w fun e w' => e = .returned (.bool true) ∧ Below w.heap.size w w' := by
  have hIn : ∀ o, InAt (w.alloc o) d aA aI aP aW aR aS := fun o => by
    have hb : Below w.heap.size w (w.alloc o) := (Below.refl _ w).alloc (Nat.le_refl _) o
    exact ⟨h.hA.below hb (Nat.le_refl _), h.hI.below hb (Nat.le_refl _), h.hP.below hb (Nat.le_refl _), h.hW.below hb (Nat.le_refl _), h.hR.below hb (Nat.le_refl _), h.hS.below hb, h.lA, h.lI, h.lP, h.lW, h.lR, h.lS, h.bN, h.bM, h.bU, h.bS⟩
  have C12 := fun o => build_ok (w.alloc o) d aA aI aP aW aR aS cA cI cP cW cR cS (hIn o) hbig
  unfold inCells at C12 ⊢
  go_enter Yba.func6, Yba.ntmps6
  go_wp2_with fail
  refine (C12 _).mono ?_
  rintro e wB ⟨sb, u, n, m, gs, cs, ga, ca, st, al, pa, pc, ia, fa, ra, wa, ic, fc, rc, wc, Inf, Pre, Rd, Wr, sa, sc, sp, am, cm, model, rfl, hSA, hrm, hbel, hum, hml, hmc, hA1, hA2⟩
  clear C12 hIn
  simp only [World.size_alloc] at hbel
  have hB0 : Below w.heap.size w wB := ((Below.refl _ w).alloc (Nat.le_refl _) _).trans (hbel.mono (by omega))
  obtain ⟨lim, hl1, hl2, hlim⟩ : ∃ n : Nat, 1 ≤ n ∧ n ≤ 12 ∧ kk % 12 + 1 = n := ⟨(kk % 12 + 1).toNat, by omega, by omega, by omega⟩
  have hbW : Below wB.heap.size wB (((wB.alloc (.cells #[.int .i64 lim] 3)).alloc (.cells #[] 3)).alloc (.cells #[.slice (some ⟨wB.heap.size + 1, 0, none⟩) 0 0] 25)) := (((Below.refl _ wB).alloc (Nat.le_refl _) _).alloc (by simp) _).alloc (by simp; omega) _
  have C30 := forced_run hSA hbW 16 #[.pointer (some ⟨wB.heap.size + 2, 0, none⟩), .pointer (some ⟨wB.heap.size, 0, none⟩)] (wB.heap.size + 2) 20001 (fun pre => decide (pre.length < lim)) (fun g pre W => GotAt (wB.heap.size + 2) g pre W ∧ Boxed W wB.heap.size 3 (.int .i64 lim) ∧ wB.heap.size ≠ g) (yok16 _ _ _) (fun g => got6_own _ _ _ g) (enters_of Yba.func16 (by kernel_rfl) rfl) (wB.heap.size + 1) u (by omega) (by omega) (by simp) (by simp) (gotAt_new6 wB lim) model hum (by omega) hA1 hA2
  have C13 := fa_any sb u (((wB.alloc (.cells #[.int .i64 lim] 3)).alloc (.cells #[] 3)).alloc (.cells #[.slice (some ⟨wB.heap.size + 1, 0, none⟩) 0 0] 25))
  simp only [World.size_alloc] at C13 C30
  clear hA1 hA2 hSA h
  go_wp2_with fail
  refine C13.mono ?_
  rintro e w1 ⟨rfl, rfl⟩
  clear C13
  go_wp2_with fail
  refine C30.mono ?_
  rintro e w2 ⟨rfl, ⟨g, got, ⟨hG, hLim, _⟩, hR⟩, hb2⟩
  clear C30
  have hgot := ran_lim hl1 hR
  have hb3 : Below wB.heap.size wB w2 := hbW.trans hb2
  have hrow := hG.row
  obtain ⟨cp, hbox, _⟩ := hG
  have hcell := hbox.cell
  have hlc := hLim.cell
  have hrm2 := hrm.below hb3
  obtain ⟨hmc1, hmc2⟩ := hmc
  unfold maxLen at hmc2
  clear hlim hR
  by_cases hgt : lim < model.length
  · have hgt' : (lim : Int) < model.length := by omega
    have hgtd : decide ((lim : Int) < (model.length : Int)) = true := by simpa using hgt
    obtain ⟨gm, om, rfl, _⟩ := hrm2.at (by omega)
    have hr3 := hrm2.sub 0 lim
    have hlen : (model.take lim).length = lim := by rw [List.length_take]; omega
    have hgl : got.length = lim := by rw [hgot]; exact hlen
    have HG : Hid (got = model.take lim) := hgot
    clear hgot
    rw [hgl] at hcell
    rw [HG.out] at hrow
    simp only [Nat.add_zero, List.drop_zero] at hr3
    have CE := eq_same (some ⟨g, 0, none⟩) (some ⟨gm, om, none⟩) cp cm (model.take lim) w2 hrow hr3 (by unfold maxLen; omega)
    rw [hlen] at CE
    clear hlen hgl
    go_wp2_with fail
    refine CE.mono ?_
    rintro e w3 ⟨rfl, nn, rfl⟩
    go_wp2
    go_ret
    exact ⟨rfl, below_drewN (hB0.trans (hb3.mono hB0.size)) nn⟩
  · have hgt' : (model.length : Int) ≤ lim := by omega
    have hgtd : decide ((lim : Int) < (model.length : Int)) = false := by simp; omega
    have hge : got = model := by rw [hgot]; exact List.take_of_length_le (by omega)
    subst hge
    clear hgot
    go_wp2_with fail
    refine (eq_same (some ⟨g, 0, none⟩) am cp cm got w2 hrow hrm2 (by unfold maxLen; omega)).mono ?_
    rintro e w3 ⟨rfl, nn, rfl⟩
    go_wp2
    go_ret
    exact ⟨rfl, below_drewN (hB0.trans (hb3.mono hB0.size)) nn⟩

set_option maxRecDepth 100000 in
set_option maxHeartbeats 1000000 in
theorem law5_big (w : World) (d : CIn) (aA aI aP aW aR aS : Option Addr) (cA cI cP cW cR cS : Nat) (h : InAt w d aA aI aP aW aR aS) (hbig : d.isBig = true) :
    Calls Yba.prog 5 #[.agg (inCells d aA aI aP aW aR aS cA cI cP cW cR cS)] w fun e w' => e = .returned (.bool true) ∧ Below w.heap.size w w' := by
  have hIn : ∀ o, InAt (w.alloc o) d aA aI aP aW aR aS := fun o => by
    have hb : Below w.heap.size w (w.alloc o) := (Below.refl _ w).alloc (Nat.le_refl _) o
    exact ⟨h.hA.below hb (Nat.le_refl _), h.hI.below hb (Nat.le_refl _), h.hP.below hb (Nat.le_refl _), h.hW.below hb (Nat.le_refl _), h.hR.below hb (Nat.le_refl _), h.hS.below hb, h.lA, h.lI, h.lP, h.lW, h.lR, h.lS, h.bN, h.bM, h.bU, h.bS⟩
  have C12 := fun o => build_big (w.alloc o) d aA aI aP aW aR aS cA cI cP cW cR cS (hIn o) hbig
  unfold inCells at C12 ⊢
  go_enter Yba.func5, Yba.ntmps5
  go_wp2_with fail
  refine (C12 _).mono ?_
  rintro e wB ⟨rfl, hbel⟩
  clear C12 hIn
  simp only [World.size_alloc] at hbel
  have hB0 : Below w.heap.size w wB := ((Below.refl _ w).alloc (Nat.le_refl _) _).trans (hbel.mono (by omega))
  go_wp2
  go_ret
  exact ⟨rfl, hB0⟩

set_option maxRecDepth 100000 in
set_option maxHeartbeats 1000000 in
theorem law6_big (w : World) (d : CIn) (aA aI aP aW aR aS : Option Addr) (cA cI cP cW cR cS : Nat) (h : InAt w d aA aI aP aW aR aS) (hbig : d.isBig = true) (kk : Int) :
    Calls Yba.prog 6 #[.agg (inCells d aA aI aP aW aR aS cA cI cP cW cR cS), .int .u8 kk] w fun e w' => e = .returned (.bool true) ∧ Below w.heap.size w w' := by
  have hIn : ∀ o, InAt (w.alloc o) d aA aI aP aW aR aS := fun o => by
    have hb : Below w.heap.size w (w.alloc o) := (Below.refl _ w).alloc (Nat.le_refl _) o
    exact ⟨h.hA.below hb (Nat.le_refl _), h.hI.below hb (Nat.le_refl _), h.hP.below hb (Nat.le_refl _), h.hW.below hb (Nat.le_refl _), h.hR.below hb (Nat.le_refl _), h.hS.below hb, h.lA, h.lI, h.lP, h.lW, h.lR, h.lS, h.bN, h.bM, h.bU, h.bS⟩
  have C12 := fun o => build_big (w.alloc o) d aA aI aP aW aR aS cA cI cP cW cR cS (hIn o) hbig
  unfold inCells at C12 ⊢
  go_enter Yba.func6, Yba.ntmps6
  go_wp2_with fail
  refine (C12 _).mono ?_
  rintro e wB ⟨rfl, hbel⟩
  clear C12 hIn
  simp only [World.size_alloc] at hbel
  have hB0 : Below w.heap.size w wB := ((Below.refl _ w).alloc (Nat.le_refl _) _).trans (hbel.mono (by omega))
  go_wp2
  go_ret
  exact ⟨rfl, hB0⟩

end Go.Proofs.Ybulkbxog
