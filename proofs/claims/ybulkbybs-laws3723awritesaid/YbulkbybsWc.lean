/-
  'LawS3723AWrite': the row.
-/
import Derived.Test.YbulkbybsWb
import Derived.ProofKit
import Derived.OpenShut
import Derived.ChangeOld
import Derived.Deep.Matrix
namespace Go.Proofs.Ybulkbybs
open Go.ChangeShapes Go.WideShapes Go.ChangeAt Go.RowKit

theorem Yba.own : ownKnob Yba.prog.godebug = none := by kernel_rfl
theorem Yba.laidOut : laidOutB Yba.prog = true := by kernel_rfl
theorem Yba.cells24 : Yba.prog.cellsOf 24 = 1 := by kernel_rfl
theorem Yba.cells5 : Yba.prog.cellsOf 5 = 1 := by kernel_rfl

theorem addr_plain {w : World} {a : Addr} {v : Value} (h : w.cell? (a.add 0) = some v) : ∃ b o, a = ⟨b, o, none⟩ := by
  obtain ⟨b, o, s⟩ := a
  have hs : s = none := by simpa [Addr.add] using World.cell?_spot h
  subst hs
  exact ⟨b, o, rfl⟩

theorem add_lit' (b o j : Nat) : (⟨b, o, none⟩ : Addr).add j = ⟨b, o + j, none⟩ := by unfold Addr.add; split <;> simp_all

theorem raw_open {H : Type} {enc : TypeId × Value → H} {W : World} {fuel : Nat} {v : Value} {x : DataW H × List MemPlace} (h : DataW.trod enc Yba.prog W 0 (fun _ => true) true fuel 23 [v] = some x) :
    ∃ ao rows cap, v = .slice ao (List.length rows) cap ∧ RawAt W ao rows := by
  rcases Go.Deep.open_int_rows Yba.underlying23 Yba.underlying24 Yba.underlying5 Yba.cells24 Yba.cells5 h with ⟨hcs, _⟩ | ⟨a, len, cap, A, L, C, Z, hcs, _, hl, hm, _, hr⟩
  · simp at hcs
    exact ⟨none, [], 0, by simpa using hcs, fun j r hj => by simp at hj⟩
  · simp at hcs
    refine ⟨some a, (List.range len).map (fun r => (Z r).take (L r)), cap, by simpa using hcs, ?_⟩
    intro j r hj
    have hjl : j < len := by have := (List.getElem?_eq_some_iff.1 hj).1; simpa using this
    have hr' : (Z j).take (L j) = r := by simpa [hjl] using hj
    obtain ⟨hc, h1, h2, h3, h4, h5, h6⟩ := hr j (by omega)
    obtain ⟨b, o, rfl⟩ := addr_plain (hr 0 (by omega)).1
    rw [add_lit'] at hc
    have hlen : r.length = L j := by rw [← hr', List.length_take]; omega
    refine ⟨b, o, A j, C j, rfl, by rw [hlen]; exact hc, ?_, by omega, h2, h5⟩
    intro i y hi
    have hil : i < L j := by have := (List.getElem?_eq_some_iff.1 hi).1; omega
    cases hA : A j with
    | none => have := h5 hA; omega
    | some a' =>
      obtain ⟨b', o', rfl⟩ := addr_plain ((h6 a' hA).2 0 (by omega))
      refine ⟨b', o', rfl, ?_⟩
      have := (h6 _ hA).2 i (by omega)
      rw [add_lit'] at this
      rw [this]
      rw [← hr', List.getElem?_take_of_lt hil] at hi
      simp [List.getD, hi]

set_option maxRecDepth 100000 in
theorem lawS3723AWrite_lifted (os : Os) (started : os.Started) (H : Type) (enc : TypeId × Value → H) :
    ReturnsInHanded {} Yba.checked os 3 .any (Rows.lawS3723AWriteSpec.pre6 enc Yba.prog Yba.f3 Rows.lawS3723AWriteRow.domain false) (Rows.lawS3723AWriteSpec.post enc Yba.prog Yba.f3 false true false false) := by
  refine returnsInHanded_of_change (C := Yba.checked) Yba.own started (by kernel_rfl) Yba.func3
    (ChangeSpec.witness6 (enc := enc) (C := Yba.checked) false ⟨#[], #[.bool false, .int .u16 0, .bool false, .slice none 0 0], []⟩ 8 (by kernel_rfl) (by kernel_rfl) (by kernel_rfl) (by kernel_rfl)) ?_
  intro W base args ds gs before hval0 hW hcnd _
  have hval : ∀ (j : Nat) t v, Yba.f3.params[j]? = some t → args[j]? = some v → Value.okWide Yba.prog W .any base t v := hval0
  have hW' := hW
  obtain ⟨p, q, hA0, hV, rfl, hfz, hnd⟩ := hW
  have hA : DataW.TrodAll enc Yba.prog W 0 (fun _ => true) true Yba.f3.params.toList args.toList ds p := hA0
  rw [Yba.params3] at hA hval
  obtain ⟨v0, vs0, d0, ds0, p0, q0, hargs, rfl, rfl, h0, r0⟩ := trodAll_cons hA
  obtain ⟨v1, vs1, d1, ds1, p1, q1, rfl, rfl, rfl, h1, r1⟩ := trodAll_cons r0
  obtain ⟨v2, vs2, d2, ds2, p2, q2, rfl, rfl, rfl, h2, r2⟩ := trodAll_cons r1
  obtain ⟨v3, vs3, d3, ds3, p3, q3, rfl, rfl, rfl, h3, r3⟩ := trodAll_cons r2
  obtain ⟨rfl, rfl, rfl⟩ := trodAll_nil r3
  obtain rfl : args = #[v0, v1, v2, v3] := by cases args; simp_all
  obtain ⟨rfl, rfl⟩ := trodVars_none hV
  have k3 := h3
  have lt3 : ∀ x ∈ p3, x.block < W.heap.size := by obtain ⟨m, hm⟩ := k3; exact DataW.trod_lt m _ _ _ hm
  obtain ⟨near, rfl, rfl, rfl⟩ := open_bool Yba.underlying4 (hval 0 4 v0 rfl rfl) h0
  obtain ⟨pre, rfl, rfl, rfl, wpre⟩ := open_int Yba.underlying22 (hval 1 22 v1 rfl rfl) h1
  obtain ⟨drp, rfl, rfl, rfl⟩ := open_bool Yba.underlying4 (hval 2 4 v2 rfl rfl) h2
  obtain ⟨hp0, hp1⟩ := bounds_u16 wpre
  obtain ⟨ao, len, cap, rfl⟩ := okWide_slice Yba.underlying23 (hval 3 23 v3 rfl rfl)
  obtain ⟨fuel, hf⟩ := h3
  obtain ⟨ao', rows, cap', hv, hr⟩ := raw_open (v := .slice ao len cap) (by simpa [Value.cells] using hf)
  cases hv
  clear hA0 hval0
  have C : Calls Yba.prog 3 #[.bool near, .int .u16 pre, .bool drp, .slice ao rows.length cap] W fun e w' => e = .returned (.bool true) ∧ Below W.heap.size W w' := by
    by_cases hl : rows.length ≤ 1024
    · have hex : ∃ n : Nat, (if near then 65536 - pre % 256 else pre % 256) = (n : Int) := by
        cases near
        · exact ⟨(pre % 256).toNat, by simp; omega⟩
        · exact ⟨(65536 - pre % 256).toNat, by simp; omega⟩
      obtain ⟨n, hn⟩ := hex
      exact law3_rows near drp pre n hp0 hp1 hn ao cap rows W hr hl
    · exact law3_long near drp pre ao _ cap W (by omega)
  refine C.mono fun e W' ⟨he, bel⟩ => ?_
  subst he
  exact ⟨_, rfl, _, _, _, [], _, [], hW', trodAll_mk1 (shut_bool Yba.underlying4 _), (trodAll_cons_mk (shut_bool Yba.underlying4 _) (trodAll_cons_mk (shut_int Yba.underlying22 wpre) (trodAll_cons_mk (shut_bool Yba.underlying4 _) (trodAll_cons_mk (Below.trod Yba.laidOut (by kernel_rfl) (of_decide_eq_true (by kernel_rfl)) k3 bel lt3) trodAll_mk0)))), rfl, bel.frame _, fun h => by cases h⟩

theorem lawS3723AWrite_proved : Rows.LawS3723AWriteSaid :=
  OpenClaim.holds_of_wide 3 Yba.f3 rfl rfl rfl rfl rfl rfl rfl ⟨rfl, rfl, rfl, rfl, rfl⟩ rfl rfl rfl rfl rfl (by kernel_rfl) Yba.func3 (by kernel_rfl)
    (of_decide_eq_true (by kernel_rfl)) (by unfold Func.isWrapper; first | (rw [if_pos (by decide +kernel)]; kernel_rfl) | (rw [if_neg (by decide +kernel)]; exact ⟨rfl, rfl⟩))
    (fun os started H enc _ => lawS3723AWrite_lifted os started H enc)

end Go.Proofs.Ybulkbybs
