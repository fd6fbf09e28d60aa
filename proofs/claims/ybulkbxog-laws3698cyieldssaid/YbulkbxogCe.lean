/-
  Law C's road: 'forcedAfter$1' at the node of an item (u >= n).
-/
import Derived.Test.YbulkbxogCd
namespace Go.Proofs.Ybulkbxog
open Go.RowKit Go.Shelf

/-- What a 'yield' of ours does: it takes x in, says whether to go on, and writes its own variable's box Bg and the row g alone. -/
def YOk (gy : Nat) (caps : Array Value) (Bg N : Nat) (cont : List Int → Bool) (J : Nat → List Int → World → Prop) : Prop :=
  ∀ g pre x W, J g pre W → pre.length < N → Calls Yba.prog gy (#[.int .i64 x] ++ caps) W fun e W' =>
    e = .returned (.bool (cont (pre ++ [x]))) ∧ (∃ g', J g' (pre ++ [x]) W' ∧ (g' = g ∨ W.heap.size ≤ g')) ∧ Kb W.heap.size Bg g W W' ∧ KeepsOthers W W'

/-- The calls were those of model, one after the other, up to the first that was answered 'no more'. -/
def Ran (cont : List Int → Bool) (model got : List Int) : Prop :=
  got <+: model ∧ (got = model ∨ cont got = false) ∧ ∀ q, q <+: got → q ≠ got → q ≠ [] → cont q = true

/-- All so far said yes. -/
def AllYes (cont : List Int → Bool) (pre : List Int) : Prop := ∀ q, q <+: pre → q ≠ [] → cont q = true

theorem AllYes.snoc {cont : List Int → Bool} {pre : List Int} {x : Int} (h : AllYes cont pre) (hx : cont (pre ++ [x]) = true) : AllYes cont (pre ++ [x]) := by
  intro q hq hne
  rcases List.prefix_concat_iff.1 hq with rfl | hq
  · exact hx
  · exact h q hq hne

theorem ran_stop {cont : List Int → Bool} {pre model : List Int} {x : Int} (h : AllYes cont pre) (hx : cont (pre ++ [x]) = false) (hp : pre ++ [x] <+: model) : Ran cont model (pre ++ [x]) := by
  refine ⟨hp, Or.inr hx, fun q hq hne hn => ?_⟩
  rcases List.prefix_concat_iff.1 hq with rfl | hq
  · exact absurd rfl hne
  · exact h q hq hn

theorem ran_all {cont : List Int → Bool} {model : List Int} (h : AllYes cont model) : Ran cont model model :=
  ⟨List.prefix_refl _, Or.inl rfl, fun q hq _ hn => h q hq hn⟩

theorem allYes_nil (cont : List Int → Bool) : AllYes cont [] := fun _ hq hn => absurd (List.prefix_nil.1 hq) hn

/-- One call of yield, seen from a caller that has laid its own blocks below n1. -/
theorem kb_step {n1 Bg g0 g : Nat} {W W' : World} (hk : Kb W.heap.size Bg g W W') (hn : n1 ≤ W.heap.size) (hg : g = g0 ∨ n1 ≤ g) : Kb n1 Bg g0 W W' :=
  ⟨hk.os, hk.tape, hk.output, hk.size, fun k hk' h1 h2 => hk.block k (by omega) h1 (by omega)⟩

theorem grownBy_drewN (w : World) (n : Nat) : w.grownBy (w.drewN n) none := ⟨rfl, rfl, rfl, Nat.le_refl _, fun _ _ _ => rfl⟩

theorem Own.drewN {β : Type} {I : β → World → Prop} (h : Own I) {s : β} {W : World} (n : Nat) (hs : I s W) : I s (W.drewN n) := h s W _ none hs (grownBy_drewN W n) (fun r e => by cases e)

theorem take_snoc (xs : List Int) (k : Nat) (x : Int) (hx : xs[k]? = some x) : xs.take (k + 1) = xs.take k ++ [x] := by
  obtain ⟨hlt, rfl⟩ := List.getElem?_eq_some_iff.1 hx
  exact List.take_succ_eq_append_getElem hlt

set_option maxRecDepth 100000 in
set_option maxHeartbeats 2000000 in
theorem fa1_item {wB w : World} {sb n m gs cs ga ca : Nat} {st al : List Int} {pa : Option Addr} {pc : Nat} {ia fa ra wa : Option Addr} {ic fc rc wc : Nat} {Inf Pre Rd Wr : List (List Int)} {sa : Option Addr} {sc : Nat} {sp : List Int}
    (hB : SAt wB sb n m gs cs ga ca st al pa pc ia fa ra wa ic fc rc wc Inf Pre Rd Wr sa sc sp) (hbel : Below wB.heap.size wB w)
    (gy : Nat) (caps : Array Value) (Bg N : Nat) (cont : List Int → Bool) (J : Nat → List Int → World → Prop) (hY : YOk gy caps Bg N cont J) (hJo : ∀ g, Own (J g)) (hE : ∀ args w, (callFunc gy args).run Yba.prog w = .ok (.enter gy args) w)
    (g0 Bs Bu u : Nat) (hBg : wB.heap.size ≤ Bg) (hg0 : wB.heap.size ≤ g0) (hBs : Bs < w.heap.size) (hBu : Bu < w.heap.size) (_hBsg : Bs ≠ Bg) (_hBug : Bu ≠ Bg) (_hBsg0 : Bs ≠ g0) (_hBug0 : Bu ≠ g0) (hBgw : Bg < w.heap.size) (hg0w : g0 < w.heap.size)
    (hcs : w.cell? ⟨Bs, 0, none⟩ = some (.pointer (some ⟨sb, 0, none⟩))) (hcu : w.cell? ⟨Bu, 0, none⟩ = some (.int .i64 u)) (hun : n ≤ u) (hum : u < n + m) (h0 : J g0 [] w) (xs : List Int) (hxs : Wr[u - n]? = some xs) (hN : xs.length ≤ N) :
    Calls Yba.prog 30 #[.func (.func gy) #[] caps, .pointer (some ⟨Bs, 0, none⟩), .pointer (some ⟨Bu, 0, none⟩)] w fun e w' =>
      e = .returned (.tuple #[]) ∧ (∃ g got, J g got w' ∧ Ran cont xs got) ∧ Below wB.heap.size w w' := by
  have h := hB.below hbel
  have hn := h.ln
  have hm := h.lm
  have hsb : sb < wB.heap.size := World.block_lt_of_cell? wB _ hB.c0
  have e12 := h.c12
  have e4 := h.c4
  obtain ⟨gw, ow, aw, cw, ew, hcw, hrw⟩ := hB.hw (u - n) xs hxs
  have hgw : gw < wB.heap.size := World.block_lt_of_cell? wB _ hcw
  have hxl := hB.zw xs (List.mem_of_getElem? hxs)
  have hcw' := (hbel.cell (p := ⟨gw, ow + (u - n), none⟩) hgw).trans hcw
  have hsz := hbel.size
  rw [ew] at e4
  have hsbw : sb < w.heap.size := by omega
  have hgww : gw < w.heap.size := by omega
  have hun' : (n : Int) ≤ u := by omega
  have hum' : (u : Int) - n < m := by omega
  have hund : decide ((n : Int) ≤ (u : Int)) = true := by simp; omega
  clear h hB hcw ew
  go_enter Yba.func30, Yba.ntmps30
  go_wp2
  go_quiet (fail)
  go_wp2
  have hc3 : ((w.alloc (.cells #[.func (.func gy) #[] caps] 66)).drewN nq).cell? ⟨w.heap.size, 0, none⟩ = some (.func (.func gy) #[] caps) := by simp
  have hJ1 : J g0 [] ((w.alloc (.cells #[.func (.func gy) #[] caps] 66)).drewN nq) := Own.drewN (hJo g0) nq ((hJo g0).alloc _ h0)
  have hb1 : Below wB.heap.size w ((w.alloc (.cells #[.func (.func gy) #[] caps] 66)).drewN nq) := below_drewN ((Below.refl _ _).alloc hsz _) nq
  have hs1 : ((w.alloc (.cells #[.func (.func gy) #[] caps] 66)).drewN nq).heap.size = w.heap.size + 1 := by simp
  generalize (w.alloc (.cells #[.func (.func gy) #[] caps] 66)).drewN nq = w1 at hc3 hJ1 hb1 hs1 ⊢
  clear hcs hcu e12 e4 hcw'
  by_cases hx0 : xs.length = 0
  · have hx : xs = [] := List.eq_nil_of_length_eq_zero hx0
    subst hx
    refine wp_loop_rounds 1 ?_
    rw [rounds_succ]
    go_wp2
    refine bodyPost_ret (results_none rfl _ _ _) rfl ?_
    exact ⟨rfl, ⟨g0, [], hJ1, ran_all (allYes_nil _)⟩, hb1⟩
  · obtain ⟨gx, ox, rfl, hcx⟩ := hrw.at (by omega)
    have hgx : gx < wB.heap.size := World.block_lt_of_cell? wB _ (hcx 0 (by omega))
    have HS : Hid (w1.heap.size = w.heap.size + 1) := hs1
    clear hs1
    go_loopw [28] (fun i wr => ∃ (k g : Nat), k ≤ xs.length ∧ i = .int .i64 k ∧ J g (xs.take k) wr ∧ (g = g0 ∨ w.heap.size + 1 ≤ g) ∧ Kb (w.heap.size + 1) Bg g0 w1 wr ∧ AllYes cont (xs.take k)) (fun i _ => xs.length - (intOf i).toNat)
    case atStart => exact ⟨0, g0, Nat.zero_le _, rfl, hJ1, Or.inl rfl, Kb.refl _ _ _ _, allYes_nil _⟩
    case round =>
      obtain ⟨k, g, hk, rfl, hJ, hg, hK, hA⟩ := hrel
      have hwr : w.heap.size + 1 ≤ wr.heap.size := by have := hK.size; have := HS.out; omega
      have hbB : Below wB.heap.size wB wr := hbel.trans (hb1.trans (hK.below (by omega) hBg hg0))
      have hcy : wr.cell? ⟨w.heap.size, 0, none⟩ = some (.func (.func gy) #[] caps) := (hK.cell (p := ⟨w.heap.size, 0, none⟩) (by simp) (by simp; omega) (by simp; omega)).trans hc3
      by_cases hlt : k < xs.length
      · obtain ⟨x, hx⟩ : ∃ x, xs[k]? = some x := ⟨xs[k], by simp [hlt]⟩
        have hcell : wr.cell? ⟨gx, ox + k, none⟩ = some (.int .i64 x) := (hbB.cell hgx).trans (by rw [hcx k hlt, hx]; rfl)
        have HC := hY g (xs.take k) x wr hJ (by rw [List.length_take]; omega)
        rw [← take_snoc xs k x hx] at HC
        clear hcx hc3 hJ1
        have hT := take_snoc xs k x hx
        have HT : Hid (xs.take (k + 1) = xs.take k ++ [x]) := hT
        clear hT hx
        cases hcont : cont (xs.take (k + 1)) with
        | true =>
          rw [hcont] at HC
          have Hc : Hid (cont (xs.take (k + 1)) = true) := hcont
          clear hcont
          go_wp2_with fail
          refine HC.mono ?_
          rintro e w2 ⟨rfl, ⟨g', hJ', hg'⟩, hK', hO⟩
          go_wp2
          go_roundw
          case rel => exact ⟨k + 1, g', by omega, by go_num, hJ', by omega, hK.trans (kb_step hK' hwr hg), by rw [HT.out]; exact hA.snoc (by rw [← HT.out]; exact Hc.out)⟩
          case measure => simp [intOf]; omega
        | false =>
          rw [hcont] at HC
          have Hc : Hid (cont (xs.take (k + 1)) = false) := hcont
          clear hcont
          go_wp2_with fail
          refine HC.mono ?_
          rintro e w2 ⟨rfl, ⟨g', hJ', hg'⟩, hK', hO⟩
          go_wp2
          refine bodyPost_ret (results_none rfl _ _ _) rfl ?_
          refine ⟨rfl, ⟨g', _, hJ', ?_⟩, hb1.trans ((hK.trans (kb_step hK' hwr hg)).below (by omega) hBg hg0)⟩
          rw [HT.out]
          exact ran_stop hA (by rw [← HT.out]; exact Hc.out) (by rw [← HT.out]; exact List.take_prefix _ _)
      · go_wp2
        refine bodyPost_ret (results_none rfl _ _ _) rfl ?_
        have e : xs.take k = xs := List.take_of_length_le (by omega)
        rw [e] at hJ hA
        exact ⟨rfl, ⟨g, xs, hJ, ran_all hA⟩, hb1.trans (hK.below (by omega) hBg hg0)⟩

end Go.Proofs.Ybulkbxog
