/-
  Law B's road: the iterator 'spansOf$1', its second road.
-/
import Derived.Test.YbulkbxogBl
import Derived.Deep.RegionWith
import Derived.Deep.CutRange
namespace Go.Proofs.Ybulkbxog
open Go.RowKit Go.Shelf

attribute [local go_sem] Oper.semAt_some

set_option maxRecDepth 100000 in
set_option maxHeartbeats 4000000 in
theorem road2 (Bsp Bit Bs sb gs S g n c gi ci : Nat) (it : Nat → Int) (f : Nat → Nat) (items : List Int) (Kp : World → World → Prop) (n1 : Bsp ≠ sb) (n2 : Bit ≠ sb) (n3 : Bs ≠ sb) (n4 : gs ≠ sb) (n5 : g ≠ sb) (n6 : gi ≠ sb)
    (hQ : ∀ X Y, IQ Bsp Bit Bs sb gs S g n c gi ci it f items X → Kp X Y → IQ Bsp Bit Bs sb gs S g n c gi ci it f items Y) (hW : ∀ X Y v, Wk sb v X → Kp X Y → Wk sb v Y)
    (hv : ∀ i, i < n → f i < S) (hn : n ≤ 1024) (hm : items.length ≤ 1024) (hp : items.Pairwise (· < ·)) (hsrt : Srt it 0 n f) (hle : items.length < n)
    (m : Nat) (l : Nat) (J Jx : List Int → World → Prop) (hJ : ∀ pre X Y, J pre X → St sb X Y → J pre Y)
    (hY : ∀ pre x X, J pre X → pre.length < 1025 → YieldAt Fence.wide (m - 1) Yba.prog l #[.int .i64 x] X fun e Y => (e = .returned (.bool true) ∧ J (pre ++ [x]) Y ∧ Kp X Y) ∨ (e = .returned (.bool false) ∧ Jx (pre ++ [x]) Y))
    (W : World) (q0 : IQ Bsp Bit Bs sb gs S g n c gi ci it f items W) (w0 : Wk sb 0 W) (h0 : J [] W) :
    CallsIn Fence.wide m Yba.prog 22 #[.func (.yield l) #[] #[], .pointer (some ⟨Bsp, 0, none⟩), .pointer (some ⟨Bit, 0, none⟩), .pointer (some ⟨Bs, 0, none⟩)] W fun e Y => (∃ v, e = .returned v) ∧
      ((∃ xs, J xs Y ∧ xs = wantOf it f items n ∧ Wk sb ((items.length * Lib.bitLen n + (wantOf it f items n).length : Nat) : Int) Y) ∨ (∃ xs, Jx xs Y ∧ xs <+: wantOf it f items n)) := by
  obtain ⟨bl, hble⟩ : ∃ b, b = Lib.bitLen n := ⟨_, rfl⟩
  have hbl : bl ≤ 64 := by rw [hble]; exact bitLen_le _
  have hstep : ∀ W, Calls Yba.prog 23 #[.int .i64 n] W fun e w' => e = .returned (.int .i64 bl) ∧ w' = W := fun W => by rw [hble]; exact steps_c n hn W
  rw [← hble]
  clear hble
  have hle' : ¬ ((n : Int) ≤ items.length) := by omega
  have hled : decide ((n : Int) ≤ items.length) = false := by simp; omega
  refine callsIn_of_wp Yba.func22 rfl trivial ?_ rfl
  simp only [Yba.ntmps22, List.size_toArray, List.length_cons, List.length_nil, Nat.reduceAdd, Nat.reduceSub, Array.replicate_succ, Array.replicate_zero, List.push_toArray, List.append_toArray, List.nil_append, List.cons_append]
  have b1 := q0.b1
  have b2 := q0.b2
  gi_wp2
  clear b1 b2
  gi_loopw [57, 113] (fun i _ wr => ∃ j p : Nat, j ≤ items.length ∧ i = .int .i64 j ∧ Way it f items n j p ∧ J (wantOf it f items p) wr ∧ IQ Bsp Bit Bs sb gs S g n c gi ci it f items wr ∧ Wk sb ((j * bl + (wantOf it f items p).length : Nat) : Int) wr) (fun i _ _ => items.length - (intOf i).toNat)
  case atStart => exact ⟨0, 0, Nat.zero_le _, rfl, Way.start it f items n, h0, q0, by simpa [wantOf] using w0⟩
  case round =>
    clear q0 w0 h0
    obtain ⟨j, p, hjl, rfl, hway, hj, q, wk⟩ := hrel
    by_cases hlt : j < items.length
    · obtain ⟨y, hy⟩ : ∃ y, items[j]? = some y := ⟨items[j], by simp [hlt]⟩
      have HY : Hid (items[j]? = some y) := hy
      have hcy : wr.cell? ⟨gi, j, none⟩ = some (.int .i64 y) := by
        obtain ⟨g', o', e, hc⟩ := q.ir j y hy
        cases e
        simpa using hc
      clear hy
      have b1 := q.b1
      have b3 := q.b3
      have hwk := wk.1
      have hwf := wk.2
      have hpl := wantOf_len it f items p
      have hpn := hway.pn
      have hvb : j * bl ≤ 1024 * 64 := Nat.mul_le_mul (by omega) hbl
      have HV : Hid ((j + 1) * bl + (wantOf it f items p).length = j * bl + (wantOf it f items p).length + bl) := by show _ = _; rw [Nat.succ_mul]; omega
      have hvb2 : j * bl + (wantOf it f items p).length ≤ 70000 := by omega
      generalize j * bl + (wantOf it f items p).length = v at hwk HV wk hvb2
      have q1 : IntKind.i64.wrap ((v : Int) + bl) = (v : Int) + bl := by rw [IntKind.wrap_i64] <;> omega
      gi_wp2
      refine wpIn_wide.2 ?_
      go_cut [] from 61 to 70 (fun wx => wx = (wr.setCell ⟨sb, 40, none⟩ (.int .i64 ((v : Int) + bl))).drew)
      case first =>
        go_region_with (go_at_call 23; refine (hstep _).mono ?_; rintro e w' ⟨rfl, rfl⟩)
        all_goals (go_wp2_with fail; go_meet; exact rfl)
      case rest =>
        have qX : IQ Bsp Bit Bs sb gs S g n c gi ci it f items wc := by rw [hcut]; exact (q.set n1 n2 n3 n4 n5 n6 _).drewN 1
        have wX : Wk sb ((v + bl : Nat) : Int) wc := by rw [hcut]; have := wk.set (v' := (v : Int) + bl); exact ⟨by rw [Int.natCast_add]; exact this.1, this.2⟩
        have jX : J (wantOf it f items p) wc := hJ _ _ _ hj ⟨1, .inr ⟨(v : Int) + bl, by rw [hcut]; rfl⟩⟩
        obtain ⟨X, hX⟩ : ∃ x, x = wc := ⟨_, rfl⟩
        subst hX
        clear hcut hj q wk hwk hwf b1 b3 hcy
        rw [← HV.out] at wX
        clear HV hvb2 q1
        have b1 := qX.b1
        gi_wp2
        refine ⟨trivial, fun h => (by cases h), (callsIn_wide.2 (search_c Bs sb gs S g n c it f y X qX.vs qX.b3 qX.rd hv hn)).mono ?_⟩
        rintro e w2 ⟨k0, ⟨vv, rfl⟩, hk0, g1, g2, rfl⟩
        have E0 := hway.found hp HY.out hsrt hk0 g1 g2
        rw [← E0] at jX wX
        have HW0 : Hid (Way it f items n j p) := hway
        have G1 : Hid (k0 = 0 ∨ it (f (k0 - 1)) < y) := g1
        have G2 : Hid (k0 = n ∨ y ≤ it (f k0)) := g2
        clear E0 hway g1 g2 hpl hpn b1
        gi_wp2
        gi_loopw [11, 112] (fun vk _ wz => ∃ k : Nat, k0 ≤ k ∧ k ≤ n ∧ vk = .int .i64 k ∧ Hid (∀ x, k0 ≤ x → x < k → it (f x) = y) ∧ J (wantOf it f items k) wz ∧ IQ Bsp Bit Bs sb gs S g n c gi ci it f items wz ∧ Wk sb (((j + 1) * bl + (wantOf it f items k).length : Nat) : Int) wz) (fun vk _ _ => n - (intOf vk).toNat)
        case atStart => exact ⟨k0, Nat.le_refl _, hk0, rfl, fun x h1 h2 => by omega, jX, qX, wX⟩
        case round =>
          clear qX jX wX
          obtain ⟨k, hkk, hkn, rfl, HR, hj, q, wk⟩ := hrel
          have b1 := q.b1
          by_cases hkl : k < n
          · have b3 := q.b3
            have hs := q.vs.spans
            have hr := q.rd k hkl
            have hfk := hv k hkl
            have hfs : (f k : Int) < S := by omega
            have hit := q.vs.item (f k) hfk
            have d1 : decide ((k : Int) < n) = true := by simp; omega
            have d2 : (k : Int) < n := by omega
            by_cases he : it (f k) = y
            · have HE : Hid (it (f k) = y) := he
              rw [he] at hit
              have HS : Hid (wantOf it f items (k + 1) = wantOf it f items k ++ [(f k : Int)]) := by
                show _ = _
                rw [wantOf_succ, he]
                have : items.contains y = true := by simpa using List.mem_of_getElem? HY.out
                rw [this]; rfl
              have hpl := wantOf_len it f items k
              have hvb : (j + 1) * bl ≤ 1025 * 64 := Nat.mul_le_mul (by omega) hbl
              have HV : Hid ((j + 1) * bl + (wantOf it f items k).length + 1 = (j + 1) * bl + (wantOf it f items (k + 1)).length) := by show _ = _; rw [HS.out, List.length_append]; rfl
              have hvb2 : (j + 1) * bl + (wantOf it f items k).length ≤ 70000 := by omega
              clear he
              gi_wp2
              refine wpIn_wide.2 ?_
              go_quiet (fail)
              have qY := q.drewN nq
              have wY : Wk sb (((j + 1) * bl + (wantOf it f items k).length : Nat) : Int) (wr.drewN nq) := wk
              have jY : J (wantOf it f items k) (wr.drewN nq) := hJ _ _ _ hj ⟨nq, .inl rfl⟩
              generalize wr.drewN nq = Y at qY wY jY ⊢
              generalize (j + 1) * bl + (wantOf it f items k).length = v at wY HV hvb2
              clear q wk hj b1 b3 hs hr hit
              have b3 := qY.b3
              have hwk := wY.1
              have hwf := wY.2
              have qZ := qY.set n1 n2 n3 n4 n5 n6 (.int .i64 ((v : Int) + 1))
              have wZ := wY.set (v' := (v : Int) + 1)
              have jZ : J (wantOf it f items k) (Y.setCell ⟨sb, 40, none⟩ (.int .i64 ((v : Int) + 1))) := hJ _ _ _ jY ⟨0, .inr ⟨(v : Int) + 1, rfl⟩⟩
              have b1Z := qZ.b1
              have hrZ := qZ.rd k hkl
              obtain ⟨fn, tmps, assign, body, hy, hRd⟩ := hY _ (f k : Int) _ jZ (by omega)
              gi_wp2
              refine ⟨fun h => (by cases h), hRd.mono ?_⟩
              rintro e U (⟨rfl, jU, kU⟩ | ⟨rfl, jU⟩)
              · have qU := hQ _ _ qZ kU
                have wU := hW _ _ _ wZ kU
                clear qZ wZ jZ b1Z hrZ hy hRd qY wY jY b3 hwk hwf
                gi_wp2
                go_roundw
                case rel => exact ⟨k + 1, by omega, by omega, by go_num, fun x h1 h2 => by
                  by_cases e : x = k
                  · subst e; exact HE.out
                  · exact HR.out x h1 (by omega), by rw [HS.out]; exact jU, qU, by rw [← HV.out]; rw [Int.natCast_add]; exact wU⟩
                case measure => simp [intOf]; omega
              · gi_wp2
                refine bodyPost_ret (results_none rfl _ _ _) rfl ?_
                exact ⟨⟨_, rfl⟩, .inr ⟨_, jU, by have := wantOf_pre it f items (show k + 1 ≤ n by omega); rw [HS.out] at this; exact this⟩⟩
            · have hen : (it (f k) == y) = false := by simpa using he
              have HE : Hid (it (f k) ≠ y) := he
              clear he
              gi_wp2
              refine wpIn_wide.2 ?_
              go_quiet (fail)
              gi_wp2
              go_roundw
              case rel =>
                refine ⟨j + 1, k, by omega, by go_num, HW0.out.next hp HY.out hsrt G1.out hkk hkn HR.out (.inr ?_), hJ _ _ _ hj ⟨nq, .inl rfl⟩, q.drewN nq, wk⟩
                have := HE.out
                rcases G2.out with e | e
                · omega
                · have := hsrt k0 k (Nat.zero_le _) hkk hkl; omega
              case measure => simp [intOf]; omega
          · have d1 : decide ((k : Int) < n) = false := by simp; omega
            gi_wp2
            refine wpIn_wide.2 ?_
            go_quiet (fail)
            gi_wp2
            go_roundw
            case rel => exact ⟨j + 1, k, by omega, by go_num, HW0.out.next hp HY.out hsrt G1.out hkk hkn HR.out (.inl (by omega)), hJ _ _ _ hj ⟨nq, .inl rfl⟩, q.drewN nq, wk⟩
            case measure => simp [intOf]; omega
    · gi_wp2
      go_end0
      obtain rfl : j = items.length := by omega
      exact ⟨⟨_, rfl⟩, .inl ⟨_, hj, hway.all.symm, by rw [hway.all]; exact wk⟩⟩

end Go.Proofs.Ybulkbxog
