/-
  'Send' that is let through: up to the unplaced message's box.
-/
import Derived.Test.YbulkbxpiFmtXf
import Derived.Deep.CutRange
import Derived.Deep.RegionWith
namespace Go.Proofs.YbulkbxpiFmt
open Go.RowKit Go.MuLone Go.Stop

abbrev unpC (t : Int) (nm : ByteArray) (T2 cT r len L : Nat) : Array Value :=
  #[.int .u64 t, .string nm, .slice (some ⟨T2, 0, none⟩) len cT, .slice (some ⟨r, 0, none⟩) len len, .map (some L), .int .u64 0, .string ⟨#[]⟩, .int .i64 0, .int .u64 0, .string ⟨#[]⟩]

/-- What stands behind the statement that makes the unplaced message. -/
structure Mid (i : Ids) (n me : Nat) (w8 W : World) (t : Int) (td : List Int) (ow : Value) (ks : List Nat) (r U T2 cT L : Nat) : Prop where
  kp : Kp [i.C, i.Td] w8 W
  v : SrvA i n me W 1 (t + 1) (tdSet td ks (t + 1)) ow
  u : W.heap[U]? = some (.cells (unpC (t + 1) (nmA me) T2 cT r ks.length L) 63)
  tto : AtS W T2 ks
  l : W.heap[L]? = some (.map #[] 0)
  uL : L ≠ U
  tL : T2 ≠ L
  tU : T2 ≠ U
  hu : w8.heap.size ≤ U
  hl : w8.heap.size ≤ L
  ht : w8.heap.size ≤ T2

theorem Mid.mk' {i : Ids} {n me : Nat} {w8 W : World} {t : Int} {td : List Int} {ow : Value} {ks : List Nat} (r U T2 cT L : Nat) (hU : W.heap.size = U) (kp : Kp [i.C, i.Td] w8 W) (v : SrvA i n me W 1 (t + 1) (tdSet td ks (t + 1)) ow) (tto : AtS W T2 ks) (l : W.heap[L]? = some (.map #[] 0)) (tlt : T2 < W.heap.size) (tL : T2 ≠ L) (hl : w8.heap.size ≤ L) (ht : w8.heap.size ≤ T2) :
    Mid i n me w8 (W.alloc (.cells (unpC (t + 1) (nmA me) T2 cT r ks.length L) 63)) t td ow ks r U T2 cT L := by
  subst hU
  have k0 := (Kp.refl [] W).alloc (.cells (unpC (t + 1) (nmA me) T2 cT r ks.length L) 63)
  have hl' := heap_lt l
  exact ⟨kp.alloc _, v.kp0 k0, heap_new W _, tto.kp k0 (by simp), k0.heap l (by simp), by omega, tL, by omega, kp.size, hl, ht⟩

/-- The process's own messages, ps their blocks. -/
structure OwnA (i : Ids) (w : World) (ow : Value) (ps : List Nat) : Prop where
  row : w.ownsRow 0 60 1 ow ps.length (ps.map fun p => Value.pointer (some ⟨p, 0, none⟩))
  nil : ps = [] → ow = .slice none 0 0
  first : ∀ p, ps[0]? = some p → w.cell? ⟨p, 0, none⟩ = some (.int .u64 1)
  ob : ∀ g, ow.ownBlock = some g → g ∉ i.listA
  pb : ∀ p, ps[0]? = some p → p ∉ i.listA ∧ ow.ownBlock ≠ some p

theorem ownsRow_kp {bs : List Nat} {w w' : World} {e : TypeId} {v : Value} {n : Nat} {xs : List Value} (h : w.ownsRow 0 e 1 v n xs) (k : Kp bs w w') (hb : ∀ g, v.ownBlock = some g → g ∉ bs) : w'.ownsRow 0 e 1 v n xs := by
  obtain ⟨h1, h2⟩ := h
  refine ⟨h1, ?_⟩
  rcases h2 with h2 | ⟨g, cap, cur, rfl, hg, hh, r⟩
  · exact .inl h2
  · exact .inr ⟨g, cap, cur, rfl, hg, k.heap hh (hb g rfl), r⟩

theorem OwnA.kp {i : Ids} {w w' : World} {ow : Value} {ps : List Nat} (h : OwnA i w ow ps) {bs : List Nat} (k : Kp bs w w') (hb : ∀ b ∈ bs, b ∈ i.listA) : OwnA i w' ow ps :=
  ⟨ownsRow_kp h.row k (fun g hg e => h.ob g hg (hb g e)), h.nil, fun p hp => cell_kept k (fun e => (h.pb p hp).1 (hb p e)) (h.first p hp), h.ob, h.pb⟩

theorem OwnA.z {i : Ids} {w : World} {ow : Value} {ps : List Nat} (h : OwnA i w ow ps) {t : Int} (ht : t = ps.length) : OwnZ w ow t := by
  cases ps with
  | nil => exact .inl ⟨h.nil rfl, by simpa using ht⟩
  | cons p ps =>
    rcases h.row.2 with ⟨_, h0⟩ | ⟨g, cap, cur, rfl, _, hg, _, _, _, h5⟩
    · simp at h0
    · refine .inr ⟨g, _, cap, p, rfl, by simp, cell_at hg ?_, h.first p rfl⟩
      have : (cur.toList.take ((p :: ps).length * 1))[0]? = some (.pointer (some ⟨p, 0, none⟩)) := by rw [h5]; simp
      rw [List.getElem?_take_of_lt (by simp)] at this
      simpa using this

theorem Kp.trans3 {bs cs : List Nat} {x y z : World} (h : Kp bs x y) (k : Kp cs y z) (hc : ∀ c ∈ cs, x.heap.size ≤ c) : Kp bs x z :=
  ⟨k.os.trans h.os, k.tape.trans h.tape, k.output.trans h.output, Nat.le_trans h.size k.size, fun i hi hn => (k.block i (Nat.lt_of_lt_of_le hi h.size) (fun e => by have := hc i e; omega)).trans (h.block i hi hn)⟩

/-- What a send that is let through leaves. -/
structure Sent (i : Ids) (n me : Nat) (w w' : World) (t : Int) (td : List Int) (ow : Value) (ps ks : List Nat) (A m U T2 cT r L : Nat) (ow' : Value) : Prop where
  kp : Kp (i.D :: i.C :: i.Td :: ow.ownBlock.toList) w w'
  v : SrvA i n me w' 0 (t + 1) (tdSet td ks (t + 1)) ow'
  o : OwnA i w' ow' (ps ++ [U])
  u : w'.heap[U]? = some (.cells (unpC (t + 1) (nmA me) T2 cT r ks.length L) 63)
  tto : AtS w' T2 ks
  rr : AtI w' r ks
  l : w'.heap[L]? = some (.map (entI (fun _ => .bool true) 0 ks).toArray ks.length)
  a : w'.heap[A]? = some (.map #[] 0)
  m : w'.heap[m]? = some (.map #[{ key := .string (nmA me), val := .int .u64 0, born := 0 }] 1)
  ob : ∀ g, ow'.ownBlock = some g → ow.ownBlock = some g ∨ w.heap.size ≤ g
  hU : w.heap.size ≤ U

theorem own_form {w : World} {e : TypeId} {v : Value} {n : Nat} {xs : List Value} (h : w.ownsRow 0 e 1 v (n + 1) xs) : ∃ g cap, v = .slice (some ⟨g, 0, none⟩) (n + 1) cap ∧ g < w.heap.size := by
  rcases h.2 with ⟨_, h0⟩ | ⟨g, cap, cur, rfl, _, hg, _⟩
  · omega
  · exact ⟨g, cap, rfl, heap_lt hg⟩

theorem Ybaf.info60 : (Ybaf.prog.info? 60).map (fun i => (i.zero, i.size, i.bytes)) = some (some (.pointer none), 1, 8) := by kernel_rfl

section
variable {i : Ids} {n me : Nat} {w : World} {t : Int} {td : List Int} {ow : Value}
set_option maxRecDepth 100000 in
set_option maxHeartbeats 2000000 in
theorem Send_ok (F : Interp) (hF : F.answers w.tape) (v : SrvA i n me w 0 t td ow) (ps : List Nat) (ho : OwnA i w ow ps) (hps : Hid (t = ps.length)) (ht : 0 ≤ t ∧ t < 18446744073709551615) (g cap : Nat) (ks : List Nat) (hlen : ks.length ≤ 256) (h7 : ∀ k ∈ ks, k ≤ n) (hA : AtS w g ks) (hok : okSend n me ks) (hgn : g ∉ i.listA) (hpl : ps.length ≤ 256) :
    Calls Ybaf.prog 7 #[.pointer (some ⟨i.D, 0, none⟩), .slice (some ⟨g, 0, none⟩) ks.length cap] w fun e w' => ∃ A m U T2 cT r L ow', e = .returned (.tuple #[.agg #[.int .u64 (t + 1), .string (nmA me), .map (some A), .map (some m)], .nilIface]) ∧ Sent i n me w w' t td ow ps ks A m U T2 cT r L ow' := by
  have hlD := heap_lt v.d
  have h0 : ks ≠ [] := hok.1.1
  have hkn : ∀ k ∈ ks, k < n := fun k hk => by
    have h1 := h7 k hk
    have h2 : k ≠ n := fun e => hok.2 (e ▸ hk)
    omega
  have K0 := (Kp.refl [] w).alloc (.cells #[.int .u64 0, .string ⟨#[]⟩, .map none, .map none] 38)
  have hmk := @run_makeMap Ybaf.prog
  have hmkL := fun n w => run_makeMapA (P := Ybaf.prog) 61 3 4 n w Ybaf.underlying61
  go_enter_defers Ybaf.func7, Ybaf.ntmps7
  go_wp2_with fail
  refine (receivers_c F ?_ (v.kp0 K0) g cap ks hlen h7 (hA.kp K0 (by simp))).mono ?_
  · exact hF
  rintro e w1 ⟨k1, hc⟩
  rcases hc with ⟨_, r, rfl, hr, hrl, hAr⟩ | ⟨hbad, _⟩
  rotate_left
  · exact absurd hok hbad
  have K1 := K0.trans k1
  have v1 := v.kp0 K1
  have hr1 := k1.heap (heap_new w (.cells #[.int .u64 0, .string ⟨#[]⟩, .map none, .map none] 38)) (by simp)
  simp at hr
  have hlD1 := heap_lt v1.d
  go_wp2_with fail
  refine (lock_free Ybaf.muLib ⟨i.D, 0, none⟩ _ ?_ ?_).mono ?_
  · exact cell_at v1.d rfl
  · exact frozen_at v1.d
  rintro e w2' ⟨rfl, rfl⟩
  have K12 := (Kp.refl [i.D] w1).set (a := ⟨i.D, 0, none⟩) (.inl (by simp)) (.int .i32 1)
  have v2 : SrvA i n me (w1.setCell ⟨i.D, 0, none⟩ (.int .i32 1)) 1 t td ow := v1.setD K12 (heap_set (i := 0) _ v1.d)
  generalize hw2 : w1.setCell ⟨i.D, 0, none⟩ (.int .i32 1) = w2 at K12 v2 ⊢
  have c2 := cell_at (i := 2) (v := .pointer (some ⟨i.C, 0, none⟩)) v2.d rfl
  have nrA : r ∉ i.listA := fun e => by have := v.lt r e; omega
  have hAr2 := hAr.kp K12 (fun e => nrA (by simp at e; simp [e]))
  have hr2 := K12.heap hr1 (by simp; omega)
  go_wp2_with fail
  refine (hasRoom_c i.C (nmA me) t _ v2.c ht).mono ?_
  rintro e w3 ⟨rfl, k3⟩
  have v3 := v2.kp0 k3
  have K13 := K12.trans (k3.mono (by simp))
  have ho3 : OwnA i w3 ow ps := (ho.kp K1 (by simp)).kp K13 (by simp)
  have hz3 := ho3.z hps.out
  go_wp2_with fail
  refine (past_cA v3 hz3).mono ?_
  rintro e w4 ⟨m, rfl, k4, hm, hm4⟩
  have v4 := v3.kp0 k4
  have hr4 := k4.heap (k3.heap hr2 (by simp)) (by simp)
  have hAr4 := (hAr2.kp k3 (by simp)).kp k4 (by simp)
  go_wp2_with fail
  obtain ⟨w5, hw5⟩ : ∃ x, x = w4.alloc (.cells #[.slice none 0 0, .map (some m)] 77) := ⟨_, rfl⟩
  have k5 : Kp [] w4 w5 := by rw [hw5]; exact (Kp.refl [] w4).alloc _
  have hb5 : w5.heap[w4.heap.size]? = some (.cells #[.slice none 0 0, .map (some m)] 77) := by rw [hw5]; exact heap_new w4 _
  rw [← hw5]
  clear hw5
  have v5 := v4.kp0 k5
  have hr5 := k5.heap hr4 (by simp)
  have hAr5 := hAr4.kp k5 (by simp)
  have K15 : Kp [i.D] w1 w5 := (K13.trans (k4.mono (by simp))).trans (k5.mono (by simp))
  have hA5 : AtS w5 g ks := (hA.kp K1 (by simp)).kp K15 (fun e => hgn (by simp at e; simp [e]))
  go_cut [9] from 47 to 59 (fun u wx => ∃ U T2 cT L, u = .pointer (some ⟨U, 0, none⟩) ∧ Mid i n me w5 wx t td ow ks r U T2 cT L)
  case first =>
    have hAr5d : AtI w5.drew r ks := hAr5
    have hA5d : AtS w5.drew g ks := hA5
    have v5d : SrvA i n me w5.drew 1 t td ow := v5.kp0 (Kp.refl [] w5).drew
    have k5d : Kp [i.C, i.Td] w5 w5.drew := (Kp.refl _ w5).drew
    have hgC : g ∉ [i.C, i.Td] := fun e => hgn (by simp at e; rcases e with e | e <;> simp [e])
    have hlC := v5.lt i.C (by simp)
    have hlT := v5.lt i.Td (by simp)
    go_region_held3 (fun _ => True) (trivial) (first
      | (go_at_call 21; refine (send_cA (by first | exact v5d | exact v5d.kp0 ((Kp.refl [] w5.drew).alloc _) | exact vA | exact vA.kp0 ((Kp.refl [] wA).alloc _)) ht r ks.length ks hlen hkn (by first | exact hAr5d | exact hAr5d.kp ((Kp.refl [] w5.drew).alloc _) (by simp) | exact rA | exact rA.kp ((Kp.refl [] wA).alloc _) (by simp)) nrA).mono ?_; rintro e wS ⟨rfl, kS, vS⟩; have KS : Kp [i.C, i.Td] w5 wS := (by first | exact k5d.trans kS | exact (k5d.alloc _).trans kS | exact KA.trans kS | exact (KA.alloc _).trans kS); (try have sA : AtS wS g ks := (by first | exact hA5d.kp kS hgC | exact (hA5d.kp ((Kp.refl [] w5.drew).alloc _) (by simp)).kp kS hgC)); have zS := kS.size; (try simp at zS); have yS := KS.size)
      | (refine step_appS rfl (.const (.slice none 0 0)) (.tmp 52) rfl (by rfl) g cap ks (by rfl) (by first | exact hA5d | exact hA5d.kp ((Kp.refl [] w5.drew).alloc _) (by simp) | exact sA | exact sA.kp ((Kp.refl [] wS).alloc _) (by simp)) h0 hlen ?_; intro cT wA happ; have KA : Kp [i.C, i.Td] w5 wA := (by first | exact k5d.trans (happ.kp.mono (by simp)) | exact (k5d.alloc _).trans (happ.kp.mono (by simp)) | exact KS.trans (happ.kp.mono (by simp)) | exact (KS.alloc _).trans (happ.kp.mono (by simp))); (try have vA : SrvA i n me wA 1 t td ow := (by first | exact v5d.kp0 happ.kp | exact (v5d.kp0 ((Kp.refl [] w5.drew).alloc _)).kp0 happ.kp)); (try have rA : AtI wA r ks := (by first | exact hAr5d.kp happ.kp (by simp) | exact (hAr5d.kp ((Kp.refl [] w5.drew).alloc _) (by simp)).kp happ.kp (by simp))); have tA := happ.at'; (try simp at tA); have ltA := happ.lt; (try simp at ltA); have zA := happ.kp.size; (try simp at zA); have yA := KA.size))
    all_goals
      go_wp2
      go_meet
      case rel =>
        refine ⟨_, _, cT, _, rfl, Mid.mk' r _ _ _ _ (by first | rfl | simp) ?_ ?_ ?_ ?_ ?_ ?_ ?_ ?_⟩
        · first | exact KA | exact KA.alloc _ | exact KS | exact KS.alloc _
        · first | exact vS | exact vS.kp0 ((Kp.refl [] wS).alloc _) | exact vS.kp0 happ.kp | exact (vS.kp0 ((Kp.refl [] wS).alloc _)).kp0 happ.kp | exact (vS.kp0 happ.kp).kp0 ((Kp.refl [] wA).alloc _)
        · first | exact tA | exact tA.kp ((Kp.refl [] wA).alloc _) (by simp) | exact tA.kp kS (by simp; omega) | exact (tA.kp ((Kp.refl [] wA).alloc _) (by simp)).kp kS (by simp; omega) | exact (tA.kp kS (by simp; omega)).kp ((Kp.refl [] wS).alloc _) (by simp)
        · first | exact heap_new wA _ | exact heap_new wS _ | exact happ.kp.heap (heap_newk _ _ _ (by simp)) (by simp) | exact kS.heap (heap_newk _ _ _ (by simp)) (by simp; omega) | exact happ.kp.heap (kS.heap (heap_newk _ _ _ (by simp)) (by simp; omega)) (by simp) | exact kS.heap (happ.kp.heap (heap_newk _ _ _ (by simp)) (by simp)) (by simp; omega)
        · first | omega | (simp; done) | (simp; omega)
        · first | omega | (simp; done) | (simp; omega)
        · first | omega | (simp; done) | (simp; omega)
        · first | omega | (simp; done) | (simp; omega)
  case rest =>
    obtain ⟨U, T2, cT, L, rfl, M⟩ := hcut
    have lt5 := v5.lt
    have hAc := hAr5.kp M.kp (fun e => nrA (by simp at e; rcases e with e | e <;> simp [e]))
    have hrL : r ≠ L := by
      have h1 := heap_lt (k5.heap (k4.heap (k3.heap (K12.heap (Kp.heap (bs := []) (Kp.refl [] w1) hr1 (by simp)) (by simp; omega)) (by simp)) (by simp)) (by simp))
      have h2 := M.hl
      have h3 : r < w5.heap.size := Nat.lt_of_lt_of_le hrl K15.size
      omega
    have HA : Hid (AtI wc r ks) := hAc
    clear hAc
    have hnd : ks.Nodup := hok.1.2.2
    go_wp2_with fail
    go_loopw [62] (fun vi wr => ∃ k : Nat, k ≤ ks.length ∧ vi = .int .i64 k ∧ Kp [L] wc wr ∧ wr.heap[L]? = some (.map (entI (fun _ => .bool true) 0 (ks.take k)).toArray k)) (fun vi _ => ks.length - (intOf vi).toNat)
    case atStart => exact ⟨0, Nat.zero_le _, rfl, Kp.refl _ wc, by simpa [entI] using M.l⟩
    case round =>
      obtain ⟨k, hkl, rfl, kr, hL⟩ := hrel
      have hur := kr.heap M.u (by simp; exact M.uL.symm)
      have u4 := cell_at (i := 4) (v := .map (some L)) hur rfl
      by_cases hlt : k < ks.length
      · obtain ⟨x, hx⟩ : ∃ x, ks[k]? = some x := ⟨ks[k], by simp [hlt]⟩
        have q1 := HA.out.kp kr (by simp; exact hrL) k x hx
        have HX : Hid (ks[k]? = some x) := hx
        clear hx
        have hin : x ∉ ks.take k := by
          have h2 : (ks.take (k + 1)).Nodup := (List.take_sublist _ _).nodup hnd
          rw [take_succ' HX, List.nodup_append] at h2
          exact fun e => h2.2.2 x e x (by simp) rfl
        have hst := run_storeI_miss (P := Ybaf.prog) Ybaf.underlying61 Ybaf.underlying3 hL (x : Int) (.bool true) (findI_miss (fun _ => .bool true) x (ks.take k) hin 0 0)
        have hpush : ((entI (fun _ => Value.bool true) 0 (ks.take k)).toArray.push { key := .int .i64 (x : Int), val := .bool true, born := k }) = (entI (fun _ => Value.bool true) 0 (ks.take (k + 1))).toArray := by
          rw [take_succ' HX, entI_push]
          simp
          omega
        rw [hpush] at hst
        obtain ⟨wq, hwq⟩ : ∃ y, y = setO wr L (.map (entI (fun _ => Value.bool true) 0 (ks.take (k + 1))).toArray (k + 1)) := ⟨_, rfl⟩
        rw [← hwq] at hst
        have kq : Kp [L] wc wq := by rw [hwq]; exact kr.setO (.inl (by simp)) _
        have hq : wq.heap[L]? = some (.map (entI (fun _ => Value.bool true) 0 (ks.take (k + 1))).toArray (k + 1)) := by rw [hwq]; exact setO_same _ (heap_lt hL)
        clear hwq hpush
        go_wp2
        go_roundw
        case rel => exact ⟨k + 1, by omega, by go_num, kq, hq⟩
        case measure => simp [intOf]; omega
      · have hke : k = ks.length := by omega
        subst hke
        rw [List.take_length] at hL
        have szc := M.kp.size
        have K5r : Kp [i.C, i.Td] w5 wr := M.kp.trans3 kr (by simp; exact M.hl)
        have vr : SrvA i n me wr 1 (t + 1) (tdSet td ks (t + 1)) ow := M.v.kp kr (fun b hb => by have := lt5 b hb; have := M.hl; simp; omega)
        have hbr := K5r.heap hb5 (by have := lt5 i.C (by simp); have := lt5 i.Td (by simp); have := v4.lt i.C (by simp); have := v4.lt i.Td (by simp); simp; omega)
        have b0 := cell_at (i := 0) (v := .slice none 0 0) hbr rfl
        have b1 := cell_at (i := 1) (v := .map (some m)) hbr rfl
        have u0 := cell_at (i := 0) (v := .int .u64 (t + 1)) hur rfl
        have u1 := cell_at (i := 1) (v := .string (nmA me)) hur rfl
        go_wp2_with fail
        go_cut [12] from 72 to 79 (fun u wx => ∃ S A, u = .pointer (some ⟨S, 0, none⟩) ∧ Kp [] wr wx ∧ wx.heap[S]? = some (.cells #[.int .u64 (t + 1), .string (nmA me), .map (some A), .map (some m)] 38) ∧ wx.heap[A]? = some (.map #[] 0) ∧ wr.heap.size ≤ S ∧ wr.heap.size ≤ A)
        case first =>
          go_region_held3 (fun w' => w'.cell? ⟨U, 0, none⟩ = some (.int .u64 (t + 1)) ∧ w'.cell? ⟨U, 1, none⟩ = some (.string (nmA me)) ∧ w'.cell? ⟨w4.heap.size, 1, none⟩ = some (.map (some m))) (simp (maxDischargeDepth := 9) [*, World.cell?_alloc_some]) (fail)
          all_goals
            go_wp2
            go_meet
            case rel => first | exact ⟨_, _, rfl, (((Kp.refl [] wr).alloc _).alloc _).drew, heap_newk _ _ _ (by simp), (Below.heap_alloc _ _ _ (by simp)).trans (heap_new wr _), by omega, by omega⟩ | exact ⟨_, _, rfl, (((Kp.refl [] wr).alloc _).alloc _).drew, (Below.heap_alloc _ _ _ (by simp)).trans (heap_new wr _), heap_newk _ _ _ (by simp), by omega, by omega⟩
        case rest =>
          obtain ⟨S, A, rfl, kx, hSx, hAx, hS1, hA1⟩ := hcut
          have K5x := K5r.trans (kx.mono (by simp))
          have vx := vr.kp0 kx
          have hbx := kx.heap hbr (by simp)
          have hb0 := cell_at (i := 0) (v := .slice none 0 0) hbx rfl
          have hoX : OwnA i wc ow ps := ((ho3.kp k4 (by simp)).kp k5 (by simp)).kp K5x (by simp)
          have d8 := cell_at (i := 8) (v := ow) vx.d rfl
          have lxD := heap_lt vx.d
          obtain ⟨i6, hi6, hz6, hs6, hb6⟩ := info_parts Ybaf.info60
          have hrowX := ownsRow_kp hoX.row ((Kp.refl [] wc).alloc (.cells #[.pointer (some ⟨U, 0, none⟩)] 60)) (by simp)
          go_wp2_with fail
          refine wp_loop_rounds 1 ?_
          rw [rounds_succ]
          go_upto_region 27 with (at_builtin; refine wpList_append_own_at _ rfl (.tmp 137) (.tmp 139) 52 rfl 0 60 i6 (.pointer none) 1 8 Ybaf.underlying52 hi6 hz6 hs6 hb6 rfl (by decide) ow ps.length _ rfl hrowX ⟨wc.heap.size, 0, none⟩ 1 1 [.pointer (some ⟨U, 0, none⟩)] rfl rfl (cell_one_new _ _ _) (by simp [Value.oneCell']) (by simp only [maxLen]; omega) (by omega) (Nat.zero_le _) ?_; intro ow' w9 hown hgrow hnil hloc; obtain ⟨gO, cO, rfl, hgO⟩ := own_form hown; have KG : Kp ow.ownBlock.toList (wc.alloc (.cells #[.pointer (some ⟨U, 0, none⟩)] 60)) w9 := ⟨hgrow.os, hgrow.tape, hgrow.output, hgrow.size, fun k hk hn => hgrow.block k hk (by intro e; exact hn (by simp [← e]))⟩; have v9 := (vx.kp0 ((Kp.refl [] wc).alloc (.cells #[.pointer (some ⟨U, 0, none⟩)] 60))).kp KG (fun b hb e => ho.ob b (by simpa using e) hb); have d98 := cell_at (i := 8) (v := ow) v9.d rfl; have f98 := frozen_at (i := 8) v9.d)
          have K10 := (Kp.refl [i.D] w9).set (a := ⟨i.D, 8, none⟩) (.inl (by simp)) (.slice (some ⟨gO, 0, none⟩) (ps.length + 1) cO)
          have v10 : SrvA i n me (w9.setCell ⟨i.D, 8, none⟩ (.slice (some ⟨gO, 0, none⟩) (ps.length + 1) cO)) 1 (t + 1) (tdSet td ks (t + 1)) (.slice (some ⟨gO, 0, none⟩) (ps.length + 1) cO) := v9.setD K10 (heap_set (i := 8) _ v9.d)
          generalize hw10 : w9.setCell ⟨i.D, 8, none⟩ (.slice (some ⟨gO, 0, none⟩) (ps.length + 1) cO) = w10 at K10 v10 ⊢
          have hobl : ∀ g', ow.ownBlock = some g' → g' < w.heap.size := fun g' hg' => by
            rcases ho.row.2 with ⟨e, _⟩ | ⟨g2, _, _, e, _, hh, _⟩
            · rw [e] at hg'; cases hg'
            · rw [e] at hg'; cases hg'; exact heap_lt hh
          have hnot : ∀ b, w.heap.size ≤ b → b ∉ i.D :: ow.ownBlock.toList := fun b hb e => by
            simp at e
            rcases e with e | e
            · omega
            · have := hobl b e; omega
          have KX : Kp (i.D :: ow.ownBlock.toList) wc w10 := ((((Kp.refl _ wc).alloc _).trans (KG.mono (fun b hb => List.mem_cons_of_mem _ hb))).trans (K10.mono (by simp)))
          have lC := v.lt i.C (by simp)
          have lT := v.lt i.Td (by simp)
          have nCT : ∀ b, w.heap.size ≤ b → b ∉ [i.C, i.Td] := fun b hb => by simp; omega
          have z1 := K1.size
          have z15 := K15.size
          have z5x := K5x.size
          have z13 := K13.size
          have zM1 := M.hu
          have zM2 := M.hl
          have zM3 := M.ht
          have zrx := kx.size
          have z5r := K5r.size
          have hRc := K5x.heap hr5 (nCT _ (Nat.le_refl _))
          have hR10 := KX.heap hRc (hnot _ (Nat.le_refl _))
          have hms : w.heap.size ≤ m := by omega
          have hm10 := KX.heap (K5x.heap (k5.heap hm4 (by simp)) (nCT _ hms)) (hnot _ hms)
          have hU10 := KX.heap (kx.heap hur (by simp)) (hnot U (by omega))
          have hL10 := KX.heap (kx.heap hL (by simp)) (hnot L (by omega))
          have hA10 := KX.heap hAx (hnot A (by omega))
          have hS10 := KX.heap hSx (hnot S (by omega))
          have tt10 := (((M.tto.kp kr (by simp; exact M.tL)).kp kx (by simp)).kp KX (hnot T2 (by omega)))
          have rr10 := (((HA.out.kp kr (by simp; exact hrL)).kp kx (by simp)).kp KX (hnot r (by omega)))
          have hOn : gO ∉ i.listA ∧ gO ≠ w.heap.size ∧ gO ≠ U ∧ (∀ p, ps[0]? = some p → gO ≠ p) := by
            rcases hloc with e | e
            · have h1 := hobl gO e.symm
              exact ⟨ho.ob gO e.symm, by omega, by omega, fun p hp h => (ho.pb p hp).2 (by rw [← h]; exact e.symm)⟩
            · simp [Value.ownBlock] at e
              have hUl := heap_lt (kx.heap hur (by simp))
              refine ⟨fun h => ?_, by omega, by omega, fun p hp h => ?_⟩
              · have := v.lt gO h; omega
              · have := World.block_lt_of_cell? w _ (ho.first p hp); simp at this; omega
          have s0 := cell_at (i := 0) (v := .int .u64 (t + 1)) hS10 rfl
          have s1 := cell_at (i := 1) (v := .string (nmA me)) hS10 rfl
          have s2 := cell_at (i := 2) (v := .map (some A)) hS10 rfl
          have s3 := cell_at (i := 3) (v := .map (some m)) hS10 rfl
          have r0 := cell_at (i := 0) (v := .int .u64 0) hR10 rfl
          have r1 := cell_at (i := 1) (v := .string ⟨#[]⟩) hR10 rfl
          have r2 := cell_at (i := 2) (v := .map none) hR10 rfl
          have r3 := cell_at (i := 3) (v := .map none) hR10 rfl
          have f0 := frozen_at (i := 0) hR10
          have f1 := frozen_at (i := 1) hR10
          have f2 := frozen_at (i := 2) hR10
          have f3 := frozen_at (i := 3) hR10
          have lR10 := heap_lt hR10
          go_wp2
          have hR11 := heap_set (i := 3) (.map (some m)) (heap_set (i := 2) (.map (some A)) (heap_set (i := 1) (.string (nmA me)) (heap_set (i := 0) (.int .u64 (t + 1)) hR10)))
          have K11 := Kp.set (a := ⟨w.heap.size, 3, none⟩) (Kp.set (a := ⟨w.heap.size, 2, none⟩) (Kp.set (a := ⟨w.heap.size, 1, none⟩) (Kp.set (a := ⟨w.heap.size, 0, none⟩) (Kp.refl [w.heap.size] w10) (.inl (by simp)) (.int .u64 (t + 1))) (.inl (by simp)) (.string (nmA me))) (.inl (by simp)) (.map (some A))) (.inl (by simp)) (.map (some m))
          generalize (((w10.setCell ⟨w.heap.size, 0, none⟩ (.int .u64 (t + 1))).setCell ⟨w.heap.size, 1, none⟩ (.string (nmA me))).setCell ⟨w.heap.size, 2, none⟩ (.map (some A))).setCell ⟨w.heap.size, 3, none⟩ (.map (some m)) = w11 at hR11 K11 ⊢
          have v11 := v10.kp K11 (fun b hb => by have := v.lt b hb; simp; omega)
          refine leaves_cons (f := 18) (args := #[.pointer (some ⟨i.D, 0, none⟩)]) (by simp) (by simp [go_sem]) ?_
          refine (unlock_deferred Ybaf.muLib ⟨i.D, 0, none⟩ .returning _ (cell_at v11.d rfl) (frozen_at v11.d)).mono ?_
          rintro e u' w12' ⟨rfl, rfl, rfl⟩
          have K12' := (Kp.refl [i.D] w11).set (a := ⟨i.D, 0, none⟩) (.inl (by simp)) (.int .i32 0)
          have v12 : SrvA i n me (w11.setCell ⟨i.D, 0, none⟩ (.int .i32 0)) 0 (t + 1) (tdSet td ks (t + 1)) (.slice (some ⟨gO, 0, none⟩) (ps.length + 1) cO) := v11.setD K12' (heap_set (i := 0) _ v11.d)
          have hR12 := K12'.heap hR11 (by simp; omega)
          generalize w11.setCell ⟨i.D, 0, none⟩ (.int .i32 0) = w12 at K12' v12 hR12 ⊢
          have y0 := cell_at (i := 0) (v := .int .u64 (t + 1)) hR12 rfl
          have y1 := cell_at (i := 1) (v := .string (nmA me)) hR12 rfl
          have y2 := cell_at (i := 2) (v := .map (some A)) hR12 rfl
          have y3 := cell_at (i := 3) (v := .map (some m)) hR12 rfl
          have KZ : Kp [i.D, w.heap.size] w10 w12 := (K11.mono (by simp)).trans (K12'.mono (by simp))
          have nZ : ∀ b, w.heap.size < b → b ∉ [i.D, w.heap.size] := fun b hb => by simp; omega
          refine ⟨.tuple #[.agg #[.int .u64 (t + 1), .string (nmA me), .map (some A), .map (some m)], .nilIface], by simp [results, Ybaf.results7, go_sem, y0, y1, y2, y3], A, m, U, T2, cT, r, L, .slice (some ⟨gO, 0, none⟩) (ps.length + 1) cO, rfl, ?_⟩
          have zw : w.heap.size < w5.heap.size := by have := heap_lt hr5; omega
          have hz4 : w.heap.size < w4.heap.size := by have := heap_lt hr4; omega
          have K1w : Kp [i.D] w w5 := (K1.mono (by simp)).trans K15
          have KW : Kp (i.D :: i.C :: i.Td :: ow.ownBlock.toList) w w12 :=
            ((((K1w.mono (by simp)).trans (K5x.mono (by simp))).trans (KX.mono (by intro b hb; simp at hb ⊢; rcases hb with hb | hb <;> simp [hb]))).trans3 K11 (by simp)).trans (K12'.mono (by simp))
          refine ⟨KW, v12, ⟨?_, ?_, ?_, ?_, ?_⟩, KZ.heap hU10 (nZ _ (by omega)), tt10.kp KZ (nZ _ (by omega)), rr10.kp KZ (nZ _ (by omega)), KZ.heap hL10 (nZ _ (by omega)), KZ.heap hA10 (nZ _ (by omega)), KZ.heap hm10 (nZ _ (by have := heap_lt (k3.heap hr2 (by simp)); omega)), ?_, by omega⟩
          · have h9 := ownsRow_kp (ownsRow_kp hown K10 (by intro g' e; cases e; simp; intro e; exact hOn.1 (by simp [e]))) KZ (by intro g' e; cases e; simp; exact ⟨fun e => hOn.1 (by simp [e]), hOn.2.1⟩)
            rw [List.length_append, List.map_append]
            exact h9
          · intro e; simp at e
          · intro p hp
            cases hps' : ps with
            | nil =>
              rw [hps'] at hp
              simp at hp
              subst hp
              have e1 : t + 1 = 1 := by have := hps.out; rw [hps'] at this; simp at this; omega
              have := cell_at (i := 0) (v := .int .u64 (t + 1)) (KZ.heap hU10 (nZ _ (by omega))) rfl
              rw [e1] at this
              exact this
            | cons p0 ps0 =>
              rw [hps'] at hp
              simp at hp
              subst hp
              have h0p : ps[0]? = some p0 := by rw [hps']; rfl
              refine cell_kept KW ?_ (ho.first p0 h0p)
              have h1 := ho.pb p0 h0p
              simp only [List.mem_cons, not_or]
              exact ⟨fun e => h1.1 (by simp [e]), fun e => h1.1 (by simp [e]), fun e => h1.1 (by simp [e]), fun e => h1.2 (by simpa using e)⟩
          · intro g' e; cases e; exact hOn.1
          · intro p hp
            cases hps' : ps with
            | nil =>
              rw [hps'] at hp
              simp at hp
              subst hp
              refine ⟨fun e => by have := v.lt U e; omega, fun e => hOn.2.2.1 (by cases e; rfl)⟩
            | cons p0 ps0 =>
              rw [hps'] at hp
              simp at hp
              subst hp
              have h0p : ps[0]? = some p0 := by rw [hps']; rfl
              exact ⟨(ho.pb p0 h0p).1, fun e => hOn.2.2.2 p0 h0p (by cases e; rfl)⟩
          · intro g' e
            cases e
            rcases hloc with e | e
            · exact .inl e.symm
            · simp [Value.ownBlock] at e
              exact .inr (show w.heap.size ≤ gO by omega)
end

end Go.Proofs.YbulkbxpiFmt
