/-
  'LawS3700ASends': the law walked.
-/
import Derived.Test.YbulkbxpiFmtXl
import Derived.Test.YbulkbxpiFmtXm
namespace Go.Proofs.YbulkbxpiFmt
open Go.RowKit Go.MuLone Go.Stop

set_option maxRecDepth 100000 in
set_option maxHeartbeats 4000000 in
theorem law3_ok (F : Interp) (w : World) (hF : F.answers w.tape) (nv sv : Int) (ao : Option Addr) (rows : List (List Int)) (cap : Nat) (hn0 : 0 ≤ nv ∧ nv ≤ 255) (hs0 : 0 ≤ sv ∧ sv ≤ 255) (hR : BRows w ao rows) (hb : rows.length ≤ 256) :
    Calls Ybaf.prog 3 #[.int .u8 nv, .int .u8 sv, .slice ao rows.length cap] w (LawOkA w) := by
  have hd : decide ((256 : Int) < (rows.length : Int)) = false := by simp; omega
  obtain ⟨p, hp⟩ : ∃ p : Nat, nv.tmod 6 = (p : Int) := ⟨(nv % 6).toNat, by rw [Int.tmod_eq_emod_of_nonneg hn0.1]; omega⟩
  have hp6 : p < 6 := by rw [Int.tmod_eq_emod_of_nonneg hn0.1] at hp; omega
  obtain ⟨n, hn⟩ : ∃ n : Nat, (1 : Int) + (p : Int) = (n : Int) := ⟨p + 1, by omega⟩
  have hn6 : 1 ≤ n ∧ n ≤ 6 := by omega
  obtain ⟨me, hme⟩ : ∃ m : Nat, sv.tmod (n : Int) = (m : Int) := ⟨(sv % n).toNat, by rw [Int.tmod_eq_emod_of_nonneg hs0.1]; have := Int.emod_nonneg sv (show (n : Int) ≠ 0 by omega); omega⟩
  have hmn : me < n := by
    rw [Int.tmod_eq_emod_of_nonneg hs0.1] at hme
    have := Int.emod_lt_of_pos sv (show (0 : Int) < n by omega)
    omega
  go_enter Ybaf.func3, Ybaf.ntmps3
  go_wp2
  have HR : Hid (BRows w ao rows) := hR
  clear hR
  go_loopw [38] (fun vi wr => w = wr ∧ ∃ k : Nat, k ≤ rows.length ∧ vi = .int .i64 k ∧ Hid (∀ j r, j < k → rows[j]? = some r → r.length ≤ 256)) (fun vi _ => rows.length - (intOf vi).toNat)
  case atStart => exact ⟨rfl, 0, Nat.zero_le _, rfl, fun j r h => absurd h (Nat.not_lt_zero _)⟩
  case round =>
    obtain ⟨rfl, k, hk, rfl, HS⟩ := hrel
    by_cases hlt : k < rows.length
    · obtain ⟨r, hr⟩ : ∃ r, rows[k]? = some r := ⟨rows[k], by simp [hlt]⟩
      obtain ⟨g, o, rfl, hrow⟩ := HR.out.at (by omega)
      obtain ⟨A, C, hc, _, _⟩ := hrow k r hr
      have HR1 : Hid (rows[k]? = some r) := hr
      clear hrow hr
      by_cases hbig : 256 < r.length
      · have hd2 : decide ((256 : Int) < (r.length : Int)) = true := by simp; omega
        go_wp2
        go_ret
        exact ⟨rfl, (Kp.refl [] w).below⟩
      · have hd2 : decide ((256 : Int) < (r.length : Int)) = false := by simp; omega
        go_wp2
        go_roundw
        case rel =>
          refine ⟨trivial, k + 1, by omega, by go_num, fun j r' hj hr' => ?_⟩
          by_cases e : j = k
          · subst e
            rw [HR1.out] at hr'
            cases hr'
            omega
          · exact HS j r' (by omega) hr'
        case measure => simp [intOf]; omega
    · have hke : k = rows.length := by omega
      subst hke
      have HSm : Hid (∀ r ∈ rows, r.length ≤ 256) := fun r hr => by
        obtain ⟨j, hj⟩ := List.getElem?_of_mem hr
        exact HS j r (List.getElem?_eq_some_iff.1 hj).1 hj
      clear HS
      go_upto_region 12 with fail
      obtain ⟨w1, hw1⟩ : ∃ x, x = w.alloc (.cells (rowS (List.range 7)) 9) := ⟨_, rfl⟩
      have hcells : rowS (List.range 7) = #[.string ⟨#[97]⟩, .string ⟨#[98]⟩, .string ⟨#[99]⟩, .string ⟨#[100]⟩, .string ⟨#[101]⟩, .string ⟨#[102]⟩, .string ⟨#[103]⟩] := by kernel_rfl
      have hw1' := hw1
      rw [hcells] at hw1
      rw [← hw1]
      have k1 : Kp [] w w1 := by rw [hw1]; exact (Kp.refl [] w).alloc _
      have htb : w1.heap[w.heap.size]? = some (.cells (rowS (List.range 7)) 9) := by rw [hw1']; exact heap_new w _
      have hT : AtS w1 w.heap.size (List.range 7) := fun j x hj => cell_at htb (by simp [rowS, hj])
      clear hw1 hw1' hcells
      have tM := hT me me (by rw [List.getElem?_range (by omega)])
      have d0 : (0 : Int) ≤ (me : Int) := by omega
      have d1 : (me : Int) < 7 := by omega
      have d2 : (0 : Int) ≤ (n : Int) := by omega
      have d3 : (n : Int) ≤ 7 := by omega
      have hT6 : AtS w1 w.heap.size (List.range n) := fun j x hj => hT j x (by
        have hl := (List.getElem?_eq_some_iff.1 hj).1
        simp at hl
        rw [List.getElem?_range (by omega)] at hj ⊢
        exact hj)
      have hT6d : AtS w1.drew w.heap.size (List.range n) := hT6
      go_region_held3 (fun w' => w'.cell? ⟨w.heap.size, me, none⟩ = some (.string (nmA me))) (simp [*])
        (first | (go_at_call 6; refine (newOrder_cA w1.drew n me w.heap.size 7 hn6 hmn hT6d).mono ?_; rintro e w2 ⟨i, rfl, k2, v2, hi2⟩; have tM2 := cell_kept k2 (by simp) tM))
      have K2 : Kp [] w w2 := k1.trans ((Kp.refl [] w1).drew.trans k2)
      have hm30 := fun w => run_make_row' (P := Ybaf.prog) 30 31 (.int .u64 0) 8 Ybaf.underlying30 Ybaf.info31 rfl .i64 .i64 n (by omega) (by omega) w
      rw [made_rep] at hm30
      go_wp2_with fail
      obtain ⟨w3, hw3⟩ : ∃ x, x = w2.alloc (.cells (Array.replicate n (.int .u64 0)) 31) := ⟨_, rfl⟩
      have k3 : Kp [] w2 w3 := by rw [hw3]; exact (Kp.refl [] w2).alloc _
      have hlb : w3.heap[w2.heap.size]? = some (.cells (rowU (List.replicate n 0)) 31) := by
        rw [hw3, heap_new w2 _, rowU]
        simp
      rw [← hw3]
      clear hw3
      have hst := k1.size
      have hs12 := k2.size
      have l1 : w.heap.size < w1.heap.size := heap_lt htb
      have hI0 : Inv i n me w w.heap.size w2.heap.size w3 0 (List.replicate n 0) (.slice none 0 0) [] :=
        ⟨K2.trans k3, v2.kp0 k3, ⟨⟨rfl, .inl ⟨rfl, rfl⟩⟩, fun _ => rfl, (fun p h => by simp at h), (fun g h => by cases h), (fun p h => by simp at h)⟩, rfl, hlb, (hT.kp ((Kp.refl [] w1).drew.trans k2) (by simp)).kp k3 (by simp),
          (fun h => by have := v2.lt _ h; omega), (fun h => by have h1 := hi2 _ h; have h2 : w1.heap.size ≤ w.heap.size := h1; omega), (by have h1 : w1.heap.size ≤ w2.heap.size := hs12; omega), (fun g h => by cases h), (fun p h => by simp at h), (fun b hb => by have h1 : w1.heap.size ≤ b := hi2 b hb; omega), (by have h1 : w1.heap.size ≤ w2.heap.size := hs12; omega)⟩
      clear hm30 hlb k3 K2 k2 v2 hi2 hs12 tM2 hT6d hT6 tM d0 d1 d2 d3 hT htb
      generalize htbe : w.heap.size = tb at hI0 ⊢
      generalize hlbe : w2.heap.size = lb at hI0 ⊢
      clear htbe hlbe hst l1 k1
      as_aux_lemma =>
        go_loopw [15, 72] (fun vc vi wx => ∃ (k cnt : Nat) (td : List Int) (ow : Value) (ps : List Nat), k ≤ rows.length ∧ vi = .int .i64 k ∧ vc = .int .u64 (cnt : Int) ∧ cnt ≤ k ∧ Inv i n me w tb lb wx cnt td ow ps) (fun _ vi _ => rows.length - (intOf vi).toNat)
        case atStart => exact ⟨0, 0, _, _, _, Nat.zero_le _, rfl, rfl, Nat.le_refl _, hI0⟩
        case round =>
          obtain ⟨k, cnt, td, ow, ps, hk, rfl, rfl, hck, I⟩ := hrel
          by_cases hlt : k < rows.length
          · obtain ⟨r, hr⟩ : ∃ r, rows[k]? = some r := ⟨rows[k], by simp [hlt]⟩
            obtain ⟨g, o, rfl, hrow⟩ := HR.out.at (by omega)
            obtain ⟨A, C, hc, hBr, hB8⟩ := hrow k r hr
            have hc1 := cell_kept I.kp (by simp) hc
            have hl256 := HSm.out r (List.mem_of_getElem? hr)
            have HB : Hid (BRow w A r) := hBr
            have HB8 : Hid (∀ x ∈ r, 0 ≤ x ∧ x ≤ 255) := hB8
            clear hrow hr hBr hB8 hc
            have hm24 := fun w => run_make0 (P := Ybaf.prog) 24 9 (.string ⟨#[]⟩) 16 Ybaf.underlying24 Ybaf.info9A rfl r.length (by omega) (by omega) w
            have hm32 := fun w => run_make0 (P := Ybaf.prog) 32 3 (.int .i64 0) 8 Ybaf.underlying32 Ybaf.info3 rfl r.length (by omega) (by omega) w
            go_upto_block 4 with fail
            obtain ⟨w4, hw4⟩ : ∃ x, x = (wr.alloc (.cells (Array.replicate r.length (.string ⟨#[]⟩)) 9)).alloc (.cells (Array.replicate r.length (.int .i64 0)) 3) := ⟨_, rfl⟩
            have k4 : Kp [] wr w4 := by rw [hw4]; exact ((Kp.refl [] wr).alloc _).alloc _
            have ht4 : w4.heap[wr.heap.size]? = some (.cells (Array.replicate r.length (.string ⟨#[]⟩)) 9) := by rw [hw4]; exact (Below.heap_alloc _ _ _ (by simp)).trans (heap_new wr _)
            have hx4 : w4.heap[wr.heap.size + 1]? = some (.cells (Array.replicate r.length (.int .i64 0)) 3) := by rw [hw4]; exact heap_newk _ _ _ (by simp)
            rw [← hw4]
            clear hw4 hm24 hm32
            have hOt : w4.ownsRow 0 9 1 (.slice (some ⟨wr.heap.size, 0, none⟩) 0 r.length) 0 [] := ⟨rfl, .inr ⟨_, _, _, rfl, Nat.zero_le _, ht4, Nat.zero_le _, by simp only [maxLen]; omega, by simp, rfl⟩⟩
            have hOx : w4.ownsRow 0 3 1 (.slice (some ⟨wr.heap.size + 1, 0, none⟩) 0 r.length) 0 [] := ⟨rfl, .inr ⟨_, _, _, rfl, Nat.zero_le _, hx4, Nat.zero_le _, by simp only [maxLen]; omega, by simp, rfl⟩⟩
            have I4 := I.kp0 k4
            have hwz : w.heap.size ≤ wr.heap.size := I.kp.size
            obtain ⟨tob, htob⟩ : ∃ x, x = wr.heap.size := ⟨_, rfl⟩
            obtain ⟨ixb, hixb⟩ : ∃ x, x = wr.heap.size + 1 := ⟨_, rfl⟩
            rw [← htob] at hOt
            rw [← hixb] at hOx
            simp only [← hixb]
            simp only [← htob]
            have htl : tb < tob := by rw [htob]; exact I.tt.lt (by simp)
            have hll : lb < tob := by rw [htob]; exact heap_lt I.tl
            have hwt : w.heap.size ≤ tob := by omega
            have hti : ixb = tob + 1 := by omega
            have HTI : Hid (ixb = tob + 1) := hti
            have hti' : tob ≠ ixb := by omega
            have hwi : w.heap.size ≤ ixb := by omega
            have htx : tb ≠ ixb := by omega
            have htx' : tb ≠ tob := by omega
            have HTOB : Hid (tob = wr.heap.size) := htob
            clear htob hixb hti
            obtain ⟨ks, hks⟩ : ∃ ks, ks = ksOf n r := ⟨_, rfl⟩
            have hksl : ks.length = r.length := by rw [hks]; simp [ksOf]
            have hk7 : ∀ x ∈ ks, x ≤ n := fun x hx => by
              rw [hks, ksOf] at hx
              obtain ⟨y, hy, rfl⟩ := List.mem_map.1 hx
              have h8 := HB8.out y hy
              rw [Int.tmod_eq_emod_of_nonneg h8.1]
              have := Int.emod_lt_of_pos y (show (0 : Int) < (n : Int) + 1 by omega)
              have := Int.emod_nonneg y (show (n : Int) + 1 ≠ 0 by omega)
              omega
            have HK : Hid (∀ (j : Nat) (x : Int), r[j]? = some x → ∃ y : Nat, ks[j]? = some y ∧ x.tmod ((n : Int) + 1) = (y : Int)) := fun j x hj => by
              have h8 := HB8.out x (List.mem_of_getElem? hj)
              refine ⟨(x.tmod ((n : Int) + 1)).toNat, by rw [hks, ksOf, List.getElem?_map, hj]; rfl, ?_⟩
              rw [Int.tmod_eq_emod_of_nonneg h8.1]
              have := Int.emod_nonneg x (show (n : Int) + 1 ≠ 0 by omega)
              omega
            clear hks
            go_cut [18, 19, 20, 21, 22, 23, 24, 72] from 72 to 311 (fun vto vix vv _ _ _ _ v72 wy => v72 = .int .i64 k ∧ ∃ b : Bool, vto = .slice (some ⟨tob, 0, none⟩) r.length r.length ∧ vix = .slice (some ⟨ixb, 0, none⟩) r.length r.length ∧ vv = .bool b ∧ Kp [tob, ixb] w4 wy ∧ AtS wy tob ks ∧ AtI wy ixb ks ∧ Hid (b = true ↔ okSend n me ks))
            case first =>
              as_aux_lemma =>
                refine first_c hn6 hl256 hksl hk7 HB HB8 HK I4.kp I4.tt hwt hwi hti' htx htx' hOt hOx ?_
                intro b
                intros
                rename_i wy ky hAt hAi HOK
                go_wp2_with fail
                go_meet
                case rel => exact ⟨rfl, b, rfl, rfl, rfl, ky, hAt, hAi, HOK⟩
            case rest =>
              obtain ⟨rfl, b, rfl, rfl, rfl, ky, hAt, hAi, HOK⟩ := hcut
              as_aux_lemma =>
                have Kwc : Kp [] wr wc := k4.trans3 ky (by intro c hc; simp at hc; have := HTOB.out; have := HTI.out; rcases hc with rfl | rfl <;> omega)
                have I5 := I.kp0 Kwc
                have htn : tob ∉ i.listA := fun h => by have := I.v.lt tob h; have := HTOB.out; omega
                have hxn : ixb ∉ i.listA := fun h => by have := I.v.lt ixb h; have := HTOB.out; have := HTI.out; omega
                have hFc : F.answers wc.tape := by rw [I5.kp.tape]; exact hF
                have hlw := I5.v.lt i.D (by simp)
                have HCP : Hid (cnt = ps.length) := I5.hps
                have hcn : cnt ≤ 256 := by omega
                go_upto_region 37 with fail
                go_cut [25, 26, 72] from 72 to 311 (fun v25 v26 v72 wz => v72 = .int .i64 k ∧ ∃ bx, v25 = .pointer (some ⟨bx, 0, none⟩) ∧ ((Hid (b = true) ∧ v26 = .nilIface ∧ ∃ A m U T2 cT r' L ow', Sent i n me wc wz cnt td ow ps ks A m U T2 cT r' L ow' ∧ wz.heap[bx]? = some (.cells #[.int .u64 ((cnt : Int) + 1), .string (nmA me), .map (some A), .map (some m)] 38)) ∨ (Hid (b = false) ∧ ∃ eb, v26 = .iface 161 (.pointer (some ⟨eb, 0, none⟩)) ∧ Kp [] wc wz)))
                case first =>
                  as_aux_lemma =>
                    by_cases hbv : b = true
                    · have hgood : okSend n me ks := HOK.out.1 hbv
                      have HBT : Hid (b = true) := hbv
                      clear hbv
                      have hcs := Send_ok F hFc I5.v ps I5.o (by show _ = _; rw [← HCP.out]) (by omega) tob r.length ks (by omega) hk7 hAt hgood htn (by rw [← HCP.out]; omega)
                      rw [hksl] at hcs
                      go_wp2_with (first | (go_at_call 7; refine hcs.mono ?_; rintro e w5 ⟨A', m', U', T2', cT', r', L', ow', rfl, S5⟩))
                      go_meet
                      case rel => exact ⟨rfl, _, rfl, .inl ⟨HBT, rfl, A', m', U', T2', cT', r', L', ow', S5.kp0 ((Kp.refl [] w5).alloc _), heap_new w5 _⟩⟩
                    · have hbad : ¬ okSend n me ks := fun h => hbv (HOK.out.2 h)
                      have HBF : Hid (b = false) := by show b = false; simpa using hbv
                      clear hbv
                      have hcs := Send_bad F hFc I5.v tob r.length ks (by omega) hk7 hAt hbad
                      rw [hksl] at hcs
                      go_wp2_with (first | (go_at_call 7; refine hcs.mono ?_; rintro e w5 ⟨eb, es, rfl, k5, heb, hes⟩))
                      go_meet
                      case rel => exact ⟨rfl, _, rfl, .inr ⟨HBF, eb, rfl, k5.alloc _⟩⟩
                case rest =>
                  obtain ⟨rfl, bx, rfl, hres⟩ := hcut
                  go_upto_if 135 with fail
                  go_cut [15, 20, 27, 28, 29, 31, 72] from 72 to 311 (fun v15 _ _ _ _ _ v72 wz => v72 = .int .i64 k ∧ ∃ (cnt' : Nat) (td' : List Int) (ow' : Value) (ps' : List Nat), v15 = .int .u64 (cnt' : Int) ∧ cnt' ≤ k + 1 ∧ Inv i n me w tb lb wz cnt' td' ow' ps')
                  case first =>
                    as_aux_lemma =>
                      rcases hres with ⟨HBT, rfl, A', m', U', T2', cT', r', L', ow', S, hbx⟩ | ⟨HBF, eb, rfl, kz⟩
                      · have hb0 : b = true := HBT
                        have hgood : okSend n me ks := HOK.out.1 hb0
                        clear HBT HOK
                        subst hb0
                        have howl : ∀ g', ow.ownBlock = some g' → g' < tob := fun g' hg' => by
                          have := HTOB.out
                          rcases I.o.row.2 with ⟨e, _⟩ | ⟨g2, _, _, e, _, hh, _⟩
                          · rw [e] at hg'; cases hg'
                          · rw [e] at hg'; cases hg'; have := heap_lt hh; show g2 < tob; omega
                        refine else_c hn6 hmn hl256 hksl hk7 hgood hcn I5 HCP howl htn hxn HTI hll hAt hAi S hbx ?_
                        intro gO cO
                        intros
                        rename_i wz hInv
                        have EC : Hid (((cnt + 1 : Nat) : Int) = (cnt : Int) + 1) := by show _ = _; omega
                        go_wp2_with fail
                        go_meet
                        case rel => exact ⟨rfl, cnt + 1, _, _, _, by rw [EC.out], by omega, hInv⟩
                      · have hb0 : b = false := HBF
                        clear HBF HOK
                        subst hb0
                        have I6 := I5.kp0 kz
                        obtain ⟨ao', cp', rfl⟩ := I6.o.form
                        have d8 := cell_at (i := 8) (v := .slice ao' ps.length cp') I6.v.d rfl
                        have d2 := cell_at (i := 2) (v := .pointer (some ⟨i.C, 0, none⟩)) I6.v.d rfl
                        have hfd := field34A
                        rw [← HCP.out] at d8
                        go_wp2_with (first | (go_at_call 8; refine (now_c i.C (nmA me) cnt _ I6.v.c).mono ?_; rintro e w6 ⟨rfl, k6⟩))
                        go_meet
                        case rel => exact ⟨rfl, cnt, td, _, ps, rfl, by omega, I6.kp0 k6⟩
                  case rest =>
                    obtain ⟨rfl, cnt', td', ow', ps', rfl, hck', I7⟩ := hcut
                    as_aux_lemma =>
                      have hn2 := I7.v.n6
                      have d7 := cell_at (i := 7) (v := .slice (some ⟨i.Td, 0, none⟩) n n) I7.v.d rfl
                      go_wp2_with fail
                      go_loopw [32] (fun vq wz => Kp [] wc wz ∧ ∃ q : Nat, q ≤ n ∧ vq = .int .i64 q) (fun vq _ => n - (intOf vq).toNat)
                      case atStart => exact ⟨Kp.refl _ wc, 0, Nat.zero_le _, rfl⟩
                      case round =>
                        obtain ⟨kq, q, hq, rfl⟩ := hrel
                        have I8 := I7.kp0 kq
                        have e7 := cell_at (i := 7) (v := .slice (some ⟨i.Td, 0, none⟩) n n) I8.v.d rfl
                        by_cases hql : q < n
                        · obtain ⟨z, hz⟩ : ∃ z, td'[q]? = some z := ⟨td'[q]'(by have := I8.v.tl; omega), by simp⟩
                          have z1 := rowU_get I8.v.tt hz
                          have z2 := rowU_get I8.tl hz
                          have q0 : (0 : Int) ≤ (q : Int) := by omega
                          have q1 : (q : Int) < n := by omega
                          clear hz
                          go_wp2_with fail
                          go_region_held3 (fun w' => w'.cell? ⟨i.D, 7, none⟩ = some (.slice (some ⟨i.Td, 0, none⟩) n n) ∧ w'.cell? ⟨i.Td, q, none⟩ = some (.int .u64 z) ∧ w'.cell? ⟨lb, q, none⟩ = some (.int .u64 z)) (simp [*]) (fail)
                          go_wp2
                          go_roundw
                          case rel => exact ⟨kq.drew, q + 1, by omega, by go_num⟩
                          case measure => simp [intOf]; omega
                        · have e15 := cell_at (i := 15) (v := .map (some i.Aw)) I8.v.d rfl
                          have hlen : ∀ ty, (Builtin.len_ #[55] ty #[.map (some i.Aw)]).run Ybaf.prog wr = .ok (.int .i64 0) wr := fun ty => by
                            rw [run_len_map _ 55 ty i.Aw _ _ Ybaf.underlying55 I8.v.aw]; rfl
                          go_wp2
                          go_roundw
                          case rel => exact ⟨k + 1, cnt', td', ow', ps', by omega, by go_num, rfl, hck', I8⟩
                          case measure => simp [intOf]; omega
          · have hke : k = rows.length := by omega
            go_wp2
            go_ret
            exact ⟨rfl, I.kp.below⟩

/-- The law at every input. -/
theorem law3_all (F : Interp) (w : World) (hF : F.answers w.tape) (nv sv : Int) (ao : Option Addr) (rows : List (List Int)) (cap : Nat) (hn0 : 0 ≤ nv ∧ nv ≤ 255) (hs0 : 0 ≤ sv ∧ sv ≤ 255) (hR : BRows w ao rows) :
    Calls Ybaf.prog 3 #[.int .u8 nv, .int .u8 sv, .slice ao rows.length cap] w (LawOkA w) := by
  by_cases hb : 256 < rows.length
  · exact law3_big w nv sv ao rows cap hb
  · exact law3_ok F w hF nv sv ao rows cap hn0 hs0 hR (by omega)

end Go.Proofs.YbulkbxpiFmt
