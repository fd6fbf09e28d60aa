/-
  Law B's road: the iterator 'spansOf$1', its first road.
-/
import Derived.Test.YbulkbxogBl
import Derived.Deep.RegionWith
import Derived.Deep.CutRange
namespace Go.Proofs.Ybulkbxog
open Go.RowKit Go.Shelf

attribute [local go_sem] Oper.semAt_some

set_option maxRecDepth 100000 in
set_option maxHeartbeats 4000000 in
theorem road1 (Bsp Bit Bs sb gs S g n c gi ci : Nat) (it : Nat → Int) (f : Nat → Nat) (items : List Int) (Kp : World → World → Prop) (n1 : Bsp ≠ sb) (n2 : Bit ≠ sb) (n3 : Bs ≠ sb) (n4 : gs ≠ sb) (n5 : g ≠ sb) (n6 : gi ≠ sb)
    (hQ : ∀ X Y, IQ Bsp Bit Bs sb gs S g n c gi ci it f items X → Kp X Y → IQ Bsp Bit Bs sb gs S g n c gi ci it f items Y) (hW : ∀ X Y v, Wk sb v X → Kp X Y → Wk sb v Y)
    (hv : ∀ i, i < n → f i < S) (hn : n ≤ 1024) (hm : items.length ≤ 1024) (hp : items.Pairwise (· < ·)) (hle : n ≤ items.length)
    (m : Nat) (l : Nat) (J Jx : List Int → World → Prop) (hJ : ∀ pre X Y, J pre X → St sb X Y → J pre Y)
    (hY : ∀ pre x X, J pre X → pre.length < 1025 → YieldAt Fence.wide (m - 1) Yba.prog l #[.int .i64 x] X fun e Y => (e = .returned (.bool true) ∧ J (pre ++ [x]) Y ∧ Kp X Y) ∨ (e = .returned (.bool false) ∧ Jx (pre ++ [x]) Y))
    (W : World) (q0 : IQ Bsp Bit Bs sb gs S g n c gi ci it f items W) (w0 : Wk sb 0 W) (h0 : J [] W) :
    CallsIn Fence.wide m Yba.prog 22 #[.func (.yield l) #[] #[], .pointer (some ⟨Bsp, 0, none⟩), .pointer (some ⟨Bit, 0, none⟩), .pointer (some ⟨Bs, 0, none⟩)] W fun e Y => (∃ v, e = .returned v) ∧
      ((∃ xs, J xs Y ∧ xs = wantOf it f items n ∧ Wk sb ((n * Lib.bitLen items.length : Nat) : Int) Y) ∨ (∃ xs, Jx xs Y ∧ xs <+: wantOf it f items n)) := by
  obtain ⟨bl, hble⟩ : ∃ b, b = Lib.bitLen items.length := ⟨_, rfl⟩
  have hbl : bl ≤ 64 := by rw [hble]; exact bitLen_le _
  have hstep : ∀ W, Calls Yba.prog 23 #[.int .i64 items.length] W fun e w' => e = .returned (.int .i64 bl) ∧ w' = W := fun W => by rw [hble]; exact steps_c items.length hm W
  rw [← hble]
  clear hble
  have hle' : (n : Int) ≤ items.length := by omega
  have hps : items.Pairwise (· ≤ ·) := hp.imp (fun h => by omega)
  have hbs : ∀ x W, IRow W .i64 (some ⟨gi, 0, none⟩) items → Calls Yba.prog 24 #[.slice (some ⟨gi, 0, none⟩) items.length ci, .int .i64 x] W fun e w' => e = .returned (.tuple #[.int .i64 (items.countP (· < x) : Nat), .bool (items.contains x)]) ∧ ∃ q, w' = W.drewN q := by
    intro x W hr
    have := Yba.slices_BinarySearch_int gi 0 items.length ci items x W (Nat.le_refl _) (by omega) (fun j hj => by
      obtain ⟨g', o', e, hc⟩ := hr j items[j] (by simp)
      cases e
      rw [hc]; simp [List.getD, hj]) (by rw [List.take_length]; exact hps)
    rwa [List.take_length] at this
  refine callsIn_of_wp Yba.func22 rfl trivial ?_ rfl
  simp only [Yba.ntmps22, List.size_toArray, List.length_cons, List.length_nil, Nat.reduceAdd, Nat.reduceSub, Array.replicate_succ, Array.replicate_zero, List.push_toArray, List.append_toArray, List.nil_append, List.cons_append]
  have b1 := q0.b1
  have b2 := q0.b2
  gi_wp2
  clear b1 b2
  gi_loopw [20, 54] (fun i _ wr => ∃ k : Nat, k ≤ n ∧ i = .int .i64 k ∧ J (wantOf it f items k) wr ∧ IQ Bsp Bit Bs sb gs S g n c gi ci it f items wr ∧ Wk sb ((k * bl : Nat) : Int) wr) (fun i _ _ => n - (intOf i).toNat)
  case atStart => exact ⟨0, Nat.zero_le _, rfl, h0, q0, by simpa using w0⟩
  case round =>
    clear q0 w0 h0
    obtain ⟨k, hk, rfl, hj, q, wk⟩ := hrel
    by_cases hlt : k < n
    · have b2 := q.b2
      have b3 := q.b3
      have hs := q.vs.spans
      have hr := q.rd k hlt
      have hfk := hv k hlt
      have hit := q.vs.item (f k) hfk
      have hwk := wk.1
      have hwf := wk.2
      have hvb : k * bl ≤ 1024 * 64 := Nat.mul_le_mul (by omega) hbl
      have HV : Hid ((k + 1) * bl = k * bl + bl) := Nat.succ_mul k bl
      have HS : Hid (wantOf it f items (k + 1) = wantOf it f items k ++ if items.contains (it (f k)) then [(f k : Int)] else []) := wantOf_succ it f items k
      have hpl := wantOf_len it f items k
      generalize k * bl = v at hwk hvb HV wk
      have q1 : IntKind.i64.wrap ((v : Int) + bl) = (v : Int) + bl := by rw [IntKind.wrap_i64] <;> omega
      gi_wp2
      refine wpIn_wide.2 ?_
      go_cut [] from 24 to 33 (fun wx => wx = (wr.setCell ⟨sb, 40, none⟩ (.int .i64 ((v : Int) + bl))).drew)
      case first =>
        go_region_with (go_at_call 23; refine (hstep _).mono ?_; rintro e w' ⟨rfl, rfl⟩)
        all_goals (go_wp2_with fail; go_meet; exact rfl)
      case rest =>
        have qX : IQ Bsp Bit Bs sb gs S g n c gi ci it f items wc := by rw [hcut]; exact (q.set n1 n2 n3 n4 n5 n6 _).drewN 1
        have wX : Wk sb ((v + bl : Nat) : Int) wc := by rw [hcut]; have := wk.set (v' := (v : Int) + bl); exact ⟨by rw [Int.natCast_add]; exact this.1, this.2⟩
        have jX : J (wantOf it f items k) wc := hJ _ _ _ hj ⟨1, .inr ⟨(v : Int) + bl, by rw [hcut]; rfl⟩⟩
        obtain ⟨X, hX⟩ : ∃ x, x = wc := ⟨_, rfl⟩
        subst hX
        clear hcut hj q wk hwk hwf b2 b3 hs hr hit
        have b2 := qX.b2
        have b3 := qX.b3
        have hs := qX.vs.spans
        have hit := qX.vs.item (f k) hfk
        have hir := qX.ir
        have hfs : (f k : Int) < S := by omega
        cases hc : items.contains (it (f k)) with
        | false =>
          have HB := hbs (it (f k))
          rw [hc] at HB HS
          clear hc
          gi_wp2
          refine wpIn_wide.2 ?_
          go_quiet (first | (go_at_call 24; refine Calls.quiet_of (HB _ hir)))
          have qY := qX.drewN nq
          have wY : Wk sb ((v + bl : Nat) : Int) (X.drewN nq) := wX
          have jY : J (wantOf it f items k) (X.drewN nq) := hJ _ _ _ jX ⟨nq, .inl rfl⟩
          generalize X.drewN nq = Y at qY wY jY ⊢
          clear qX wX jX b2 b3 hs hit hir HB
          gi_wp2
          repeat (refine ⟨fun f h => (by cases h), ?_⟩; gi_wp2)
          go_roundw
          case rel => exact ⟨k + 1, by omega, by go_num, by rw [HS.out]; simpa using jY, qY, by rw [HV.out]; exact wY⟩
          case measure => simp [intOf]; omega
        | true =>
          have HB := hbs (it (f k))
          rw [hc] at HB HS
          clear hc
          gi_wp2
          refine wpIn_wide.2 ?_
          go_quiet (first | (go_at_call 24; refine Calls.quiet_of (HB _ hir)))
          have qY := qX.drewN nq
          have wY : Wk sb ((v + bl : Nat) : Int) (X.drewN nq) := wX
          have jY : J (wantOf it f items k) (X.drewN nq) := hJ _ _ _ jX ⟨nq, .inl rfl⟩
          generalize X.drewN nq = Y at qY wY jY ⊢
          clear qX wX jX b2 b3 hs hit hir HB
          obtain ⟨fn, tmps, assign, body, hy, hR⟩ := hY _ (f k : Int) Y jY (by omega)
          gi_wp2
          refine ⟨fun h => (by cases h), hR.mono ?_⟩
          rintro e Z (⟨rfl, jZ, kZ⟩ | ⟨rfl, jZ⟩)
          · have qZ := hQ _ _ qY kZ
            have wZ := hW _ _ _ wY kZ
            gi_wp2
            go_roundw
            case rel => exact ⟨k + 1, by omega, by go_num, by rw [HS.out]; exact jZ, qZ, by rw [HV.out]; exact wZ⟩
            case measure => simp [intOf]; omega
          · gi_wp2
            refine bodyPost_ret (results_none rfl _ _ _) rfl ?_
            exact ⟨⟨_, rfl⟩, .inr ⟨_, jZ, by have := wantOf_pre it f items (show k + 1 ≤ n by omega); rw [HS.out] at this; exact this⟩⟩
    · gi_wp2
      refine bodyPost_ret (results_none rfl _ _ _) rfl ?_
      obtain rfl : k = n := by omega
      exact ⟨⟨_, rfl⟩, .inl ⟨_, hj, rfl, wk⟩⟩

end Go.Proofs.Ybulkbxog
