/-
  Law C's road: 'forcedAfter$1' at a node (u < n).
-/
import Derived.Test.YbulkbxogCe
namespace Go.Proofs.Ybulkbxog
open Go.RowKit Go.Shelf

attribute [local go_sem] Oper.semAt_some

/-- What 'forcedAfter(u)' yields at a node. -/
def nodeModel (n : Nat) (arcs inf pre rd sp : List Int) : List Int := arcs ++ (inf ++ (pre ++ rd.map fun i => (n : Int) + (sp[i.toNat]?.getD 0)))

theorem grownBy_of_below {w w' : World} (h : Below w.heap.size w w') : w.grownBy w' none := ⟨h.os, h.tape, h.output, h.size, fun k hk _ => h.block k hk⟩

theorem Own.below {β : Type} {I : β → World → Prop} (h : Own I) {s : β} {W W' : World} (hs : I s W) (hb : Below W.heap.size W W') : I s W' := h s W _ none hs (grownBy_of_below hb) (fun r e => by cases e)

theorem LQ.kb {Bl Bt n2 Bg g0 : Nat} {A : Nat → Option Addr} {C : Nat → Nat} {xss : List (List Int)} {W W' : World} (hq : LQ Bl Bt A C xss W) (hk : Kb n2 Bg g0 W W') (h1 : Bl < n2 ∧ Bl ≠ Bg ∧ Bl ≠ g0) (h2 : Bt < n2 ∧ Bt ≠ Bg ∧ Bt ≠ g0)
    (hA : ∀ j xs, xss[j]? = some xs → xs ≠ [] → ∀ b, blk (A j) = some b → b < n2 ∧ b ≠ Bg ∧ b ≠ g0) : LQ Bl Bt A C xss W' := by
  refine ⟨(hk.cell (p := ⟨Bl, 0, none⟩) h1.1 h1.2.1 h1.2.2).trans hq.1, fun j xs hj => ?_⟩
  obtain ⟨hc, hr⟩ := hq.2 j xs hj
  refine ⟨(hk.cell (p := ⟨Bt, j, none⟩) h2.1 h2.2.1 h2.2.2).trans hc, fun i x hx => ?_⟩
  obtain ⟨g, o, hao, hcx⟩ := hr i x hx
  have hb := hA j xs hj (fun e => by rw [e] at hx; simp at hx) g (by rw [hao]; rfl)
  exact ⟨g, o, hao, (hk.cell (p := ⟨g, o + i, none⟩) hb.1 hb.2.1 hb.2.2).trans hcx⟩

theorem kb_own {β : Type} (n2 Bg g0 : Nat) (w2 : World) (hn : w2.heap.size = n2) : OwnFrom n2 (fun (_ : β) W => Kb n2 Bg g0 w2 W) := by
  intro s X Y row hs hg hr
  refine hs.trans ⟨hg.os, hg.tape, hg.output, hg.size, fun k hk _ _ => hg.block k (by have := hs.size; omega) (fun e => ?_)⟩
  have := (hr k e.symm).1
  omega

theorem ownFrom_ex {β γ : Type} {B : Nat} {I : γ → β → World → Prop} (p : γ → Prop) (h : ∀ g, OwnFrom B (I g)) : OwnFrom B (fun s W => ∃ g, I g s W ∧ p g) :=
  fun s X Y row ⟨g, hs, hp⟩ hg hr => ⟨g, h g s X Y row hs hg hr, hp⟩

theorem Own.drew {β : Type} {I : β → World → Prop} (h : Own I) {s : β} {W : World} (hs : I s W) : I s W.drew := h s W _ none hs ⟨rfl, rfl, rfl, Nat.le_refl _, fun _ _ _ => rfl⟩ (fun r e => by cases e)

theorem node_flat (n : Nat) (a b c rd sp : List Int) : nodeModel n a b c rd sp = [a, b, c].flatten ++ rd.map fun i => (n : Int) + (sp[i.toNat]?.getD 0) := by
  simp [nodeModel]

theorem node_snoc (n : Nat) (a b c rd sp : List Int) (k : Nat) (i : Int) (x : Int) (hi : rd[k]? = some i) (hx : sp[i.toNat]? = some x) :
    ([a, b, c].flatten ++ (rd.take k).map (fun i => (n : Int) + (sp[i.toNat]?.getD 0))) ++ [(n : Int) + x] = [a, b, c].flatten ++ (rd.take (k + 1)).map (fun i => (n : Int) + (sp[i.toNat]?.getD 0)) := by
  obtain ⟨hlt, rfl⟩ := List.getElem?_eq_some_iff.1 hi
  rw [List.take_succ_eq_append_getElem hlt, List.map_append, ← List.append_assoc]
  simp [hx]

theorem node_take (n : Nat) (a b c rd sp : List Int) (k : Nat) : [a, b, c].flatten ++ (rd.take k).map (fun i => (n : Int) + (sp[i.toNat]?.getD 0)) <+: nodeModel n a b c rd sp := by
  rw [node_flat]
  exact (List.prefix_append_right_inj _).2 ((List.take_prefix k rd).map _)

theorem below_putObj {B D : Nat} {w W : World} {o' : Obj} (h : Below B w W) (hD : B ≤ D) : Below B w (W.putObj D o') :=
  h.trans ⟨rfl, rfl, rfl, by simp, fun k hk => World.putObj_heap_other (by omega)⟩

set_option maxRecDepth 100000 in
set_option maxHeartbeats 2000000 in
theorem fa1_node {wB w : World} {sb n m gs cs ga ca : Nat} {st al : List Int} {pa : Option Addr} {pc : Nat} {ia fa ra wa : Option Addr} {ic fc rc wc : Nat} {Inf Pre Rd Wr : List (List Int)} {sa : Option Addr} {sc : Nat} {sp : List Int}
    (hB : SAt wB sb n m gs cs ga ca st al pa pc ia fa ra wa ic fc rc wc Inf Pre Rd Wr sa sc sp) (hbel : Below wB.heap.size wB w)
    (gy : Nat) (caps : Array Value) (Bg N : Nat) (cont : List Int → Bool) (J : Nat → List Int → World → Prop) (hY : YOk gy caps Bg N cont J) (hJo : ∀ g, Own (J g)) (hE : ∀ args w, (callFunc gy args).run Yba.prog w = .ok (.enter gy args) w)
    (g0 Bs Bu u : Nat) (hBg : wB.heap.size ≤ Bg) (hg0 : wB.heap.size ≤ g0) (hBs : Bs < w.heap.size) (hBu : Bu < w.heap.size) (hBsg : Bs ≠ Bg) (hBug : Bu ≠ Bg) (hBsg0 : Bs ≠ g0) (hBug0 : Bu ≠ g0) (hBgw : Bg < w.heap.size) (hg0w : g0 < w.heap.size)
    (hcs : w.cell? ⟨Bs, 0, none⟩ = some (.pointer (some ⟨sb, 0, none⟩))) (hcu : w.cell? ⟨Bu, 0, none⟩ = some (.int .i64 u)) (hun : u < n) (h0 : J g0 [] w) (xI xF xR : List Int) (hxI : Inf[u]? = some xI) (hxF : Pre[u]? = some xF) (hxR : Rd[u]? = some xR)
    (hN : (nodeModel n (arcsOf st al u) xI xF xR sp).length ≤ N) :
    Calls Yba.prog 30 #[.func (.func gy) #[] caps, .pointer (some ⟨Bs, 0, none⟩), .pointer (some ⟨Bu, 0, none⟩)] w fun e w' =>
      e = .returned (.tuple #[]) ∧ (∃ g got, J g got w' ∧ Ran cont (nodeModel n (arcsOf st al u) xI xF xR sp) got) ∧ Below wB.heap.size w w' := by
  have h := hB.below hbel
  have hn := h.ln
  have hm := h.lm
  have hsb : sb < wB.heap.size := World.block_lt_of_cell? wB _ hB.c0
  have e12 := h.c12
  have hsz := hbel.size
  have hsbw : sb < w.heap.size := by omega
  have hun' : (u : Int) < n := by omega
  have hund : decide ((n : Int) ≤ (u : Int)) = false := by simp; omega
  have hbelA : Below wB.heap.size wB (w.alloc (.cells #[.func (.func gy) #[] caps] 66)) := hbel.alloc hsz _
  have HS := succ_any hB hbelA u hun
  rw [hxI, hxF] at HS
  simp only [Option.getD_some] at HS
  clear h
  refine (callsIn_wide (n := 5)).1 ?_
  refine callsIn_of_wp_marks Yba.func30 rfl trivial ?_ rfl
  simp only [Yba.ntmps30, List.size_toArray, List.length_cons, List.length_nil, Nat.reduceAdd, Nat.reduceSub, Array.replicate_succ, Array.replicate_zero, List.push_toArray, List.append_toArray, List.nil_append, List.cons_append]
  refine wpIn_wide.2 ?_
  go_wp2_with (go_at_call 31; refine HS.mono ?_; rintro e w2 ⟨Bl, Bt, A, C, rfl, hBl, hBt, hb2, hLQ, hAb⟩)
  have hsz2 := hb2.size
  simp only [World.size_alloc] at hsz2
  have hBl2 : Bl < w2.heap.size := World.block_lt_of_cell? w2 _ hLQ.1
  have hBt2 : Bt < w2.heap.size := World.block_lt_of_cell? w2 _ (hLQ.2 0 _ rfl).1
  simp only [World.size_alloc] at hBl hBt hb2
  have hb02 : Below wB.heap.size w w2 := ((Below.refl _ w).alloc hsz _).trans (hb2.mono (by omega))
  have hcy2 : w2.cell? ⟨w.heap.size, 0, none⟩ = some (.func (.func gy) #[] caps) := (hb2.cell (p := ⟨w.heap.size, 0, none⟩) (by simp)).trans (by simp)
  have hcs2 : w2.cell? ⟨Bs, 0, none⟩ = some (.pointer (some ⟨sb, 0, none⟩)) := (hb2.cell (p := ⟨Bs, 0, none⟩) (by simp; omega)).trans ((World.cell?_alloc_past _ _ _ hBs).trans hcs)
  have hcu2 : w2.cell? ⟨Bu, 0, none⟩ = some (.int .i64 u) := (hb2.cell (p := ⟨Bu, 0, none⟩) (by simp; omega)).trans ((World.cell?_alloc_past _ _ _ hBu).trans hcu)
  have hJ2 : J g0 [] w2 := Own.below (hJo g0) ((hJo g0).alloc _ h0) (by simpa using hb2)
  have HQ : ∀ W W', LQ Bl Bt A C [arcsOf st al u, xI, xF] W → Kb w2.heap.size Bg g0 W W' → LQ Bl Bt A C [arcsOf st al u, xI, xF] W' := fun W W' hq hk =>
    hq.kb hk ⟨hBl2, by omega, by omega⟩ ⟨hBt2, by omega, by omega⟩ (fun j xs hj hne b hb => by have := hAb j xs hj hne b hb; exact ⟨by omega, by omega, by omega⟩)
  have hlI := hB.zi xI (List.mem_of_getElem? hxI)
  have hlF := hB.zf xF (List.mem_of_getElem? hxF)
  have hlA : (arcsOf st al u).length ≤ 100000 := by
    have := hB.lal
    unfold arcsOf
    rw [List.length_take, List.length_drop]; omega
  have hSeq : SeqStopsK Fence.wide (5 - 1) Yba.prog 52 #[.pointer (some ⟨Bl, 0, none⟩)] (fun x : Int => #[Value.int .i64 x]) (Kb w2.heap.size Bg g0) (fun xs => xs = [arcsOf st al u, xI, xF].flatten) (fun pre => pre <+: [arcsOf st al u, xI, xF].flatten) ([arcsOf st al u, xI, xF].flatten.length) w2 :=
    fun l J Jx W hW _ _ hY h0 => each1_in 4 (by omega) l Bl Bt _ A C [arcsOf st al u, xI, xF] (Kb w2.heap.size Bg g0) J Jx hY (Nat.le_refl _) (by simp) (by
      intro xs hx; simp at hx; rcases hx with rfl | rfl | rfl <;> omega) HQ W (HQ w2 W hLQ (Kb.of_below hW)) h0
  refine wpIn_wide.1 (wpIn_rangeFunc_ownF (F := Fence.wide) (n := 5) rfl (by omega) (gf := 52) (lb := #[.pointer (some ⟨Bl, 0, none⟩)]) rfl trivial (enters_of Yba.func52 (by kernel_rfl) rfl) hSeq (fun h k => h.trans k)
    (fun W l o o' hl ho h1 h2 => ⟨rfl, rfl, rfl, by simp, fun k hk _ _ => World.putObj_heap_other (by omega)⟩) (Below.refl _ _) (fun _ => rfl)
    (fun pre W => ((∃ g, J g pre W ∧ (g = g0 ∨ w2.heap.size ≤ g)) ∧ AllYes cont pre) ∧ Kb w2.heap.size Bg g0 w2 W)
    (fun c pre W => ((∃ g, J g pre W ∧ (g = g0 ∨ w2.heap.size ≤ g)) ∧ (c = .ret ∧ ∃ q x, pre = q ++ [x] ∧ AllYes cont q ∧ cont pre = false)) ∧ Kb w2.heap.size Bg g0 w2 W)
    (OwnFrom.and (OwnFrom.and (ownFrom_ex _ fun g => (hJo g).from _) (ownFrom_pure _ _)) (kb_own _ _ _ _ rfl))
    (fun c => OwnFrom.and (OwnFrom.and (ownFrom_ex _ fun g => (hJo g).from _) (ownFrom_pure _ _)) (kb_own _ _ _ _ rfl))
    ⟨⟨⟨g0, hJ2, Or.inl rfl⟩, allYes_nil _⟩, Kb.refl _ _ _ _⟩
    (fun x => { tmps := #[.func (.func gy) #[] caps, .pointer (some ⟨Bs, 0, none⟩), .pointer (some ⟨Bu, 0, none⟩), .pointer (some ⟨w.heap.size, 0, none⟩), .int .i64 n, undef, undef, .int .i64 x, undef, undef, .pointer (some ⟨sb, 0, none⟩), .pointer (some ⟨sb, 0, none⟩), .pointer (some ⟨sb, 12, none⟩), .slice pa n pc, .int .i64 n, .int .i64 u, .int .i64 n, .bool false, undef, undef, undef, undef, undef, undef, undef, undef, undef, undef, undef, undef, undef, undef, undef, undef, undef, undef, undef, .pointer (some ⟨sb, 0, none⟩), .int .i64 u, .func (.func 52) #[] #[.pointer (some ⟨Bl, 0, none⟩)], .int .i64 x, undef, undef, undef, undef, undef, undef, undef, undef, undef, undef, undef, undef, undef, undef, undef, undef, undef, undef, undef, undef, undef, undef, undef, undef, undef, undef, undef, undef, undef, undef], defers := [] }) ?assign ?body ?done ?stop)
  case assign =>
    intro l x W K hK
    gi_wp2
    exact hK
  case body =>
    rintro l pre x W ⟨⟨⟨g, hJ, hg⟩, hA⟩, hK⟩ hlen
    have hcy : W.cell? ⟨w.heap.size, 0, none⟩ = some (.func (.func gy) #[] caps) := (hK.cell (p := ⟨w.heap.size, 0, none⟩) (by simp; omega) (by simp; omega) (by simp; omega)).trans hcy2
    have HC := hY g pre x W hJ (by simp [nodeModel] at hN hlen; omega)
    have hsW := hK.size
    cases hcont : cont (pre ++ [x]) with
    | true =>
      rw [hcont] at HC
      have Hc : Hid (cont (pre ++ [x]) = true) := hcont
      clear hcont
      gi_wp2_with fail
      refine ⟨trivial, (CallsIn.inRound l (callsIn_wide.2 HC)).mono ?_⟩
      rintro e w3 ⟨rfl, ⟨g', hJ', hg'⟩, hK', hO⟩
      gi_wp2
      exact ⟨hO, kb_step hK' hsW hg, ⟨⟨g', hJ', by omega⟩, hA.snoc Hc.out⟩, hK.trans (kb_step hK' hsW hg)⟩
    | false =>
      rw [hcont] at HC
      have Hc : Hid (cont (pre ++ [x]) = false) := hcont
      clear hcont
      gi_wp2_with fail
      refine ⟨trivial, (CallsIn.inRound l (callsIn_wide.2 HC)).mono ?_⟩
      rintro e w3 ⟨rfl, ⟨g', hJ', hg'⟩, hK', hO⟩
      gi_wp2
      exact ⟨hO, ⟨⟨g', hJ', by omega⟩, rfl, pre, x, rfl, hA, Hc.out⟩, hK.trans (kb_step hK' hsW hg)⟩
  case stop =>
    rintro D c pre W hD hpre ⟨⟨⟨g, hJ, hg⟩, rfl, q, x, rfl, hA, hcf⟩, hK⟩ hKd
    refine wpIn_wide.2 ?_
    go_wp2
    refine ⟨by simp, .inl ⟨_, _, rfl, run_takeDeferred hKd, ?_⟩⟩
    refine ⟨_, results_none rfl _ _ _, rfl, ⟨g, _, (hJo g).putObj _ hJ hKd rfl, ran_stop hA hcf ?_⟩, below_putObj (hb02.trans (hK.below (by omega) hBg hg0)) (by omega)⟩
    refine hpre.trans ?_
    rw [node_flat]
    exact List.prefix_append _ _
  case done =>
    rintro D ys W hD rfl ⟨⟨⟨g, hJ, hg⟩, hA⟩, hK⟩ hKd
    have hsW := hK.size
    have hbBW : Below wB.heap.size wB W := hbel.trans (hb02.trans (hK.below (by omega) hBg hg0))
    have f7 := (hbBW.cell hsb).trans hB.c7
    obtain ⟨gr, or, ar, cr, er, hcr, hrr⟩ := hB.hr u xR hxR
    have hgr : gr < wB.heap.size := World.block_lt_of_cell? wB _ hcr
    have f7r := (hbBW.cell (p := ⟨gr, or + u, none⟩) hgr).trans hcr
    rw [er] at f7
    have fs : W.cell? ⟨Bs, 0, none⟩ = some (.pointer (some ⟨sb, 0, none⟩)) := (hK.cell (p := ⟨Bs, 0, none⟩) (by simp; omega) hBsg hBsg0).trans hcs2
    have fu : W.cell? ⟨Bu, 0, none⟩ = some (.int .i64 u) := (hK.cell (p := ⟨Bu, 0, none⟩) (by simp; omega) hBug hBug0).trans hcu2
    have hu0 : (0 : Int) ≤ u := by omega
    have hlR := hB.zr xR (List.mem_of_getElem? hxR)
    have hB2 := hB.c2
    have hBsp := hB.hsp
    have hBzs := hB.zs
    have hBlsp := hB.lsp
    clear HS HQ hSeq hLQ hAb hcs hcu hxI hxF hxR e12 hcr hB
    go_wp2
    go_quiet (fail)
    go_wp2
    have hJq : J g [arcsOf st al u, xI, xF].flatten (W.drewN nq) := Own.drewN (hJo g) nq hJ
    have hKq : Kb w2.heap.size Bg g0 w2 (W.drewN nq) := hK.trans ⟨rfl, rfl, rfl, Nat.le_refl _, fun _ _ _ _ => rfl⟩
    have hKdq : (W.drewN nq).heap[D]? = some (.deferred (some [])) := hKd
    have HKd : Hid ((W.drewN nq).heap[D]? = some (.deferred (some []))) := hKdq
    generalize W.drewN nq = W1 at hJq hKq HKd ⊢
    clear f7 f7r fs fu hJ hK hKd hKdq hbBW hsW
    by_cases hx0 : xR.length = 0
    · have hx : xR = [] := List.eq_nil_of_length_eq_zero hx0
      subst hx
      refine wp_loop_rounds 1 ?_
      rw [rounds_succ]
      go_wp2
      refine ⟨by simp, .inl ⟨_, _, rfl, run_takeDeferred HKd.out, ?_⟩⟩
      refine ⟨_, results_none rfl _ _ _, rfl, ⟨g, _, (hJo g).putObj _ hJq HKd.out rfl, ?_⟩, below_putObj (hb02.trans (hKq.below (by omega) hBg hg0)) (by omega)⟩
      have : nodeModel n (arcsOf st al u) xI xF [] sp = [arcsOf st al u, xI, xF].flatten := by simp [nodeModel]
      rw [this]
      exact ran_all hA
    · obtain ⟨gx, ox, rfl, hcx⟩ := hrr.at (by omega)
      have hgx : gx < wB.heap.size := World.block_lt_of_cell? wB _ (hcx 0 (by omega))
      go_loopw [53] (fun i wr => ∃ (k g : Nat), k ≤ xR.length ∧ i = .int .i64 k ∧ J g ([arcsOf st al u, xI, xF].flatten ++ (xR.take k).map (fun i => (n : Int) + (sp[i.toNat]?.getD 0))) wr ∧ (g = g0 ∨ w2.heap.size ≤ g) ∧ Kb w2.heap.size Bg g0 w2 wr ∧ AllYes cont ([arcsOf st al u, xI, xF].flatten ++ (xR.take k).map (fun i => (n : Int) + (sp[i.toNat]?.getD 0))) ∧ Hid (wr.heap[D]? = some (.deferred (some [])))) (fun i _ => xR.length - (intOf i).toNat)
      case atStart => exact ⟨0, g, Nat.zero_le _, rfl, by simpa using hJq, hg, hKq, by simpa using hA, HKd⟩
      case round =>
        obtain ⟨k, g, hk, rfl, hJ, hg, hK, hA, HD⟩ := hrel
        have hsr := hK.size
        have hbB : Below wB.heap.size wB wr := hbel.trans (hb02.trans (hK.below (by omega) hBg hg0))
        by_cases hlt : k < xR.length
        · obtain ⟨i, hi⟩ : ∃ x, xR[k]? = some x := ⟨xR[k], by simp [hlt]⟩
          obtain ⟨hi0, hi1⟩ := hlR.2 i (List.mem_of_getElem? hi)
          obtain ⟨j, rfl⟩ := Int.eq_ofNat_of_zero_le hi0
          obtain ⟨x, hx⟩ : ∃ x, sp[j]? = some x := ⟨sp[j]'(by omega), by simp⟩
          obtain ⟨gp, op, rfl, hcp⟩ := hBsp j x hx
          have hgp : gp < wB.heap.size := World.block_lt_of_cell? wB _ hcp
          obtain ⟨hx1, hx2⟩ := hBzs x (List.mem_of_getElem? hx)
          have c13 : wr.cell? ⟨gx, ox + k, none⟩ = some (.int .i64 j) := (hbB.cell hgx).trans (by rw [hcx k hlt, hi]; rfl)
          have cy : wr.cell? ⟨w.heap.size, 0, none⟩ = some (.func (.func gy) #[] caps) := (hK.cell (p := ⟨w.heap.size, 0, none⟩) (by simp; omega) (by simp; omega) (by simp; omega)).trans hcy2
          have cs' : wr.cell? ⟨Bs, 0, none⟩ = some (.pointer (some ⟨sb, 0, none⟩)) := (hK.cell (p := ⟨Bs, 0, none⟩) (by simp; omega) hBsg hBsg0).trans hcs2
          have c2' : wr.cell? ⟨sb, 2, none⟩ = some (.slice (some ⟨gp, op, none⟩) sp.length sc) := (hbB.cell hsb).trans hB2
          have cp' : wr.cell? ⟨gp, op + j * 3 + 2, none⟩ = some (.int .i64 x) := by rw [Nat.add_assoc]; exact (hbB.cell hgp).trans hcp
          have HC := hY g _ ((n : Int) + x) wr.drew (Own.drew (hJo g) hJ) (by
            have := (node_take n (arcsOf st al u) xI xF xR sp (k + 1)).length_le
            rw [List.length_append, List.length_map, List.length_take] at this ⊢
            omega)
          have HT : Hid _ := node_snoc n (arcsOf st al u) xI xF xR sp k j x hi (by simpa using hx)
          rw [HT.out] at HC
          have hlR1 := hlR.1
          clear hi hx hcp hcx hBsp hBzs hlR
          have hj1 : (0 : Int) ≤ j := by omega
          have hj2 : (j : Int) < sp.length := by omega
          have hwrap : IntKind.i64.wrap ((n : Int) + x) = (n : Int) + x := by rw [IntKind.wrap_i64]; omega
          have hne1 : w.heap.size ≠ g := by omega
          have hne2 : Bs ≠ g := by omega
          have hne3 : sb ≠ g := by omega
          have hne4 : gp ≠ g := by omega
          have hne5 : w.heap.size ≠ Bg := by omega
          have hne6 : sb ≠ Bg := by omega
          have hne7 : gp ≠ Bg := by omega
          have hl1 : w.heap.size < wr.heap.size := by omega
          have hl2 : Bs < wr.heap.size := by omega
          have hl3 : sb < wr.heap.size := by omega
          have hl4 : gp < wr.heap.size := by omega
          cases hcont : cont ([arcsOf st al u, xI, xF].flatten ++ (xR.take (k + 1)).map (fun i => (n : Int) + (sp[i.toNat]?.getD 0))) with
          | true =>
            rw [hcont] at HC
            have Hc : Hid _ := hcont
            clear hcont
            go_wp2
            go_region_held3 (fun w' => w'.cell? ⟨w.heap.size, 0, none⟩ = some (.func (.func gy) #[] caps) ∧ w'.cell? ⟨Bs, 0, none⟩ = some (.pointer (some ⟨sb, 0, none⟩)) ∧ w'.cell? ⟨sb, 2, none⟩ = some (.slice (some ⟨gp, op, none⟩) sp.length sc) ∧ w'.cell? ⟨gp, op + j * 3 + 2, none⟩ = some (.int .i64 x)) (go_keep)
              ((refine HC.mono ?_; rintro e w3 ⟨rfl, ⟨g', hJ', hg'⟩, hK', hO⟩; have q1 := (hK'.cell (p := ⟨w.heap.size, 0, none⟩) hl1 hne5 hne1).trans cy; have q2 := (hK'.cell (p := ⟨Bs, 0, none⟩) hl2 hBsg hne2).trans cs'; have q3 := (hK'.cell (p := ⟨sb, 2, none⟩) hl3 hne6 hne3).trans c2'; have q4 := (hK'.cell (p := ⟨gp, op + j * 3 + 2, none⟩) hl4 hne7 hne4).trans cp'))
            have hK3 : Kb w2.heap.size Bg g0 wr w3 := Kb.trans (y := wr.drew) ⟨rfl, rfl, rfl, Nat.le_refl _, fun _ _ _ _ => rfl⟩ (kb_step (W := wr.drew) hK' hsr hg)
            have hD3 : w3.heap[D]? = some (.deferred (some [])) := hO.same D _ HD.out rfl
            have HD3 : Hid (w3.heap[D]? = some (.deferred (some []))) := hD3
            have hg3 : g' = g0 ∨ w2.heap.size ≤ g' := by rcases hg' with h | h; (· rw [h]; exact hg); (· right; have : wr.heap.size ≤ g' := h; omega)
            clear hD3 q1 q2 q3 q4 HC
            go_wp2
            go_roundw
            case rel => exact ⟨k + 1, g', by omega, by go_num, hJ', hg3, hK.trans hK3, by rw [← HT.out]; exact hA.snoc (by rw [HT.out]; exact Hc.out), HD3⟩
            case measure => simp [intOf]; omega
          | false =>
            rw [hcont] at HC
            have Hc : Hid _ := hcont
            clear hcont
            go_wp2
            go_region_held3 (fun w' => w'.cell? ⟨w.heap.size, 0, none⟩ = some (.func (.func gy) #[] caps) ∧ w'.cell? ⟨Bs, 0, none⟩ = some (.pointer (some ⟨sb, 0, none⟩)) ∧ w'.cell? ⟨sb, 2, none⟩ = some (.slice (some ⟨gp, op, none⟩) sp.length sc) ∧ w'.cell? ⟨gp, op + j * 3 + 2, none⟩ = some (.int .i64 x)) (go_keep)
              ((refine HC.mono ?_; rintro e w3 ⟨rfl, ⟨g', hJ', hg'⟩, hK', hO⟩; have q1 := (hK'.cell (p := ⟨w.heap.size, 0, none⟩) hl1 hne5 hne1).trans cy; have q2 := (hK'.cell (p := ⟨Bs, 0, none⟩) hl2 hBsg hne2).trans cs'; have q3 := (hK'.cell (p := ⟨sb, 2, none⟩) hl3 hne6 hne3).trans c2'; have q4 := (hK'.cell (p := ⟨gp, op + j * 3 + 2, none⟩) hl4 hne7 hne4).trans cp'))
            have hK3 : Kb w2.heap.size Bg g0 wr w3 := Kb.trans (y := wr.drew) ⟨rfl, rfl, rfl, Nat.le_refl _, fun _ _ _ _ => rfl⟩ (kb_step (W := wr.drew) hK' hsr hg)
            have hD3 : w3.heap[D]? = some (.deferred (some [])) := hO.same D _ HD.out rfl
            have HD3 : Hid (w3.heap[D]? = some (.deferred (some []))) := hD3
            have hg3 : g' = g0 ∨ w2.heap.size ≤ g' := by rcases hg' with h | h; (· rw [h]; exact hg); (· right; have : wr.heap.size ≤ g' := h; omega)
            clear hD3 q1 q2 q3 q4 HC
            go_wp2
            refine ⟨by simp, .inl ⟨_, _, rfl, run_takeDeferred HD3.out, ?_⟩⟩
            refine ⟨_, results_none rfl _ _ _, rfl, ⟨g', _, (hJo g').putObj _ hJ' HD3.out rfl, ?_⟩, below_putObj (hb02.trans ((hK.trans hK3).below (by omega) hBg hg0)) (by omega)⟩
            rw [← HT.out]
            exact ran_stop hA (by rw [HT.out]; exact Hc.out) (by rw [HT.out]; exact node_take _ _ _ _ _ _ _)
        · go_wp2
          refine ⟨by simp, .inl ⟨_, _, rfl, run_takeDeferred HD.out, ?_⟩⟩
          have e : xR.take k = xR := List.take_of_length_le (by omega)
          rw [e, ← node_flat] at hJ hA
          exact ⟨_, results_none rfl _ _ _, rfl, ⟨g, _, (hJo g).putObj _ hJ HD.out rfl, ran_all hA⟩, below_putObj (hb02.trans (hK.below (by omega) hBg hg0)) (by omega)⟩

end Go.Proofs.Ybulkbxog
