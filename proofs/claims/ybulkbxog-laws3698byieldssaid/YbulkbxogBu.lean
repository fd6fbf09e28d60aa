/-
  Law B: 'LawS3698BYields': the row.
-/
import Derived.Test.YbulkbxogBt
import Derived.Test.YbulkbxogBr
namespace Go.Proofs.Ybulkbxog
open Go.ChangeShapes Go.WideShapes Go.ChangeAt Go.RowKit

set_option maxRecDepth 100000 in
theorem law3_big (aS aP aR : Option Addr) (cS nP cP cR nS nR : Nat) (st : Int) (w : World) (h : 1024 < nS ∨ 1024 < nR) :
    Calls Yba.prog 3 #[.slice aS nS cS, .slice aP nP cP, .slice aR nR cR, .int .u8 st] w fun e w' => e = .returned (.bool true) ∧ Below w.heap.size w w' := by
  by_cases h1 : 1024 < nS
  · have d1 : decide ((1024 : Int) < nS) = true := by simp; omega
    refine (callsIn_wide (n := 6)).1 ?_
    refine callsIn_of_wp_marks Yba.func3 rfl trivial ?_ rfl
    simp only [Yba.ntmps3, List.size_toArray, List.length_cons, List.length_nil, Nat.reduceAdd, Nat.reduceSub, Array.replicate_succ, Array.replicate_zero, List.push_toArray, List.append_toArray, List.nil_append, List.cons_append]
    refine wpIn_wide.2 ?_
    go_wp2
    exact ⟨_, results_tmp rfl _ _ _, rfl, Below.refl _ _⟩
  · have h2 : 1024 < nR := by omega
    have d1 : decide ((1024 : Int) < nS) = false := by simp; omega
    have d2 : decide ((1024 : Int) < nR) = true := by simp; omega
    refine (callsIn_wide (n := 6)).1 ?_
    refine callsIn_of_wp_marks Yba.func3 rfl trivial ?_ rfl
    simp only [Yba.ntmps3, List.size_toArray, List.length_cons, List.length_nil, Nat.reduceAdd, Nat.reduceSub, Array.replicate_succ, Array.replicate_zero, List.push_toArray, List.append_toArray, List.nil_append, List.cons_append]
    refine wpIn_wide.2 ?_
    go_wp2
    exact ⟨_, results_tmp rfl _ _ _, rfl, Below.refl _ _⟩


set_option maxRecDepth 100000 in
theorem lawS3698BYields_lifted (os : Os) (started : os.Started) (H : Type) (enc : TypeId × Value → H) :
    ReturnsInHanded {} Yba.checked os 3 .any (Rows.lawS3698BYieldsSpec.pre6 enc Yba.prog Yba.f3 Rows.lawS3698BYieldsRow.domain false) (Rows.lawS3698BYieldsSpec.post enc Yba.prog Yba.f3 false true false false) := by
  refine returnsInHanded_of_change (C := Yba.checked) Yba.own started (by kernel_rfl) Yba.func3
    (ChangeSpec.witness6 (enc := enc) (C := Yba.checked) false ⟨#[], #[.slice none 0 0, .slice none 0 0, .slice none 0 0, .int .u8 0], []⟩ 8 (by kernel_rfl) (by kernel_rfl) (by kernel_rfl) (by kernel_rfl)) ?_
  intro W base args ds gs before hval0 hW hcnd _
  have hval : ∀ (j : Nat) t v, Yba.f3.params[j]? = some t → args[j]? = some v → Value.okWide Yba.prog W .any base t v := hval0
  have hW' := hW
  obtain ⟨p, q, hA0, hV, rfl, hfz, hnd⟩ := hW
  have hA : DataW.TrodAll enc Yba.prog W 0 (fun _ => true) true Yba.f3.params.toList args.toList ds p := hA0
  rw [Yba.params3] at hA hval
  obtain ⟨v0, vs0, d0, ds0, p0, q0, hargs, rfl, rfl, h0, r0⟩ := trodAll_cons hA
  obtain ⟨v1, vs1, d1, ds1, p1, q1, rfl, rfl, rfl, h1, r1⟩ := trodAll_cons r0
  obtain ⟨v2, vs2, d2, ds2, p2, q2, rfl, rfl, rfl, h2, r2⟩ := trodAll_cons r1
  obtain ⟨v3, vs3, d3, ds3, p3, q3, rfl, rfl, rfl, h3, r3⟩ := trodAll_cons r2
  obtain ⟨rfl, rfl, rfl⟩ := trodAll_nil r3
  obtain rfl : args = #[v0, v1, v2, v3] := by cases args; simp_all
  obtain ⟨rfl, rfl⟩ := trodVars_none hV
  have k0 := h0
  have k1 := h1
  have k2 := h2
  have lt0 : ∀ x ∈ p0, x.block < W.heap.size := by obtain ⟨m, hm⟩ := k0; exact DataW.trod_lt m _ _ _ hm
  have lt1 : ∀ x ∈ p1, x.block < W.heap.size := by obtain ⟨m, hm⟩ := k1; exact DataW.trod_lt m _ _ _ hm
  have lt2 : ∀ x ∈ p2, x.block < W.heap.size := by obtain ⟨m, hm⟩ := k2; exact DataW.trod_lt m _ _ _ hm
  obtain ⟨a0, l0, c0, rfl⟩ := okWide_slice Yba.underlying22 (hval 0 22 v0 rfl rfl)
  obtain ⟨a1, l1, c1, rfl⟩ := okWide_slice Yba.underlying23 (hval 1 23 v1 rfl rfl)
  obtain ⟨a2, l2, c2, rfl⟩ := okWide_slice Yba.underlying22 (hval 2 22 v2 rfl rfl)
  obtain ⟨st, rfl, rfl, rfl, wst⟩ := open_int Yba.underlying5 (hval 3 5 v3 rfl rfl) h3
  obtain ⟨hst0, hst1⟩ := bounds_u8 wst
  obtain ⟨f0, hf0⟩ := h0
  obtain ⟨f1, hf1⟩ := h1
  obtain ⟨f2, hf2⟩ := h2
  obtain ⟨a0', zS, c0', e0, hS, bS⟩ := row8_open (v := .slice a0 l0 c0) (by simpa [Value.cells] using hf0)
  obtain ⟨a1', nP, c1', e1, hP, lP⟩ := picks_open (v := .slice a1 l1 c1) (by simpa [Value.cells] using hf1)
  obtain ⟨a2', zR, c2', e2, hR, bR⟩ := row8_open (v := .slice a2 l2 c2) (by simpa [Value.cells] using hf2)
  cases e0
  cases e1
  cases e2
  clear hA0 hval0
  have C : Calls Yba.prog 3 #[.slice a0 zS.length c0, .slice a1 l1 c1, .slice a2 zR.length c2, .int .u8 st] W fun e w' => e = .returned (.bool true) ∧ Below W.heap.size W w' := by
    by_cases hl : zS.length ≤ 1024 ∧ zR.length ≤ 1024
    · exact law3_ok a0 a1 a2 c0 l1 c1 c2 zS zR st W hS hP hR hl.1 hl.2 lP bS bR hst0 hst1
    · exact law3_big a0 a1 a2 c0 l1 c1 c2 _ _ st W (by omega)
  refine C.mono fun e W' ⟨he, bel⟩ => ?_
  subst he
  exact ⟨_, rfl, _, _, _, [], _, [], hW', trodAll_mk1 (shut_bool Yba.underlying4 _), (trodAll_cons_mk (Below.trod Yba.laidOut (by kernel_rfl) (of_decide_eq_true (by kernel_rfl)) k0 bel lt0) (trodAll_cons_mk (Below.trod Yba.laidOut (by kernel_rfl) (of_decide_eq_true (by kernel_rfl)) k1 bel lt1) (trodAll_cons_mk (Below.trod Yba.laidOut (by kernel_rfl) (of_decide_eq_true (by kernel_rfl)) k2 bel lt2) (trodAll_cons_mk (shut_int Yba.underlying5 wst) trodAll_mk0)))), rfl, bel.frame _, fun h => by cases h⟩

theorem lawS3698BYields_proved : Rows.LawS3698BYieldsSaid :=
  OpenClaim.holds_of_wide 3 Yba.f3 rfl rfl rfl rfl rfl rfl rfl ⟨rfl, rfl, rfl, rfl, rfl⟩ rfl rfl rfl rfl rfl (by kernel_rfl) Yba.func3 (by kernel_rfl)
    (of_decide_eq_true (by kernel_rfl)) (by unfold Func.isWrapper; first | (rw [if_pos (by decide +kernel)]; kernel_rfl) | (rw [if_neg (by decide +kernel)]; exact ⟨rfl, rfl⟩))
    (fun os started H enc _ => lawS3698BYields_lifted os started H enc)

end Go.Proofs.Ybulkbxog
