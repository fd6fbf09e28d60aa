/-
  'LawS3700BAwaits': the row, told and tied.
-/
import Derived.Test.YbulkbxpiFmtRt
import Derived.Test.YbulkbxpiFmtMi
namespace Go.Proofs.YbulkbxpiFmt
open Go.ChangeShapes Go.WideShapes Go.ChangeAt Go.RowKit Go.Kit
open Go.Extern.Stop Go.Stop Go.Extern

theorem laid5_met (os : Os) (args : Array Value) : laidMet Ybaf.prog Rows.lawS3700BAwaitsRow.laid ((laidWorld os 0 overS).forCall (fun _ _ => 0) ⟨#[], args, []⟩).memory :=
  laidMet_of_run (ps := [.cell 0 0, .cell low 0]) 8 (by kernel_rfl) (by kernel_rfl) (by kernel_rfl)

theorem bounds_u64' {n : Int} (h : (Lit.int .u64 n).wf = true) : 0 ≤ n ∧ n ≤ 18446744073709551615 := by
  simp [Lit.wf, IntKind.min, IntKind.max, IntKind.signed, IntKind.bits] at h
  omega

set_option maxRecDepth 100000 in
theorem law5_lifted (os : Os) (started : os.Started) (H : Type) (enc : TypeId × Value → H) :
    ReturnsInTold none {} Ybaf.checked os 5 .any Input.okWide ((OpenSpec.ofChange Rows.lawS3700BAwaitsSpec).preRow enc Ybaf.prog Ybaf.f5 [] false Rows.lawS3700BAwaitsRow.laid) (fun F => ((OpenSpec.ofChange Rows.lawS3700BAwaitsSpec).at F).post enc Ybaf.prog Ybaf.f5 false true false false) (aloneAtReturn Ybaf.prog) nothingAlways := by
  refine returnsInTold_of_row (C := Ybaf.checked) (s := OpenSpec.ofChange Rows.lawS3700BAwaitsSpec) (by kernel_rfl) Ybaf.own started (by kernel_rfl) Ybaf.func5
    (OpenSpec.witness_stopped_at (enc := enc) (C := Ybaf.checked) false (laidWorld os 0 overS) #[.int .u64 0, .int .u64 0, .int .u64 0, .int .u8 0, .bool false, .int .i64 0] rfl (by kernel_rfl) (by kernel_rfl) (by kernel_rfl)
      (OpenSpec.preRow_of_B rfl 8 (by kernel_rfl) (by kernel_rfl) (laid5_met os _))) ?_
  intro F W base args ds gs before _ hF hval0 hW _ _ _ hL _
  have hval : ∀ (j : Nat) t v, Ybaf.f5.params[j]? = some t → args[j]? = some v → Value.okWide Ybaf.prog W .any base t v := hval0
  have hW' := hW
  obtain ⟨p, q, hA0, hV0, rfl, hfz, hnd⟩ := hW
  have hA : DataW.TrodAll enc Ybaf.prog W 0 (fun _ => true) true Ybaf.f5.params.toList args.toList ds p := hA0
  have hV : DataW.TrodVars enc Ybaf.prog W (fun _ => true) ["example.com/antecede/antecede.ErrClockOverflow"] gs q := hV0
  rw [Ybaf.params5] at hA hval
  obtain ⟨v0, vs0, d0, ds0, p0, q0, hargs, rfl, rfl, k0, r0⟩ := trodAll_cons hA
  obtain ⟨v1, vs1, d1, ds1, p1, q1, rfl, rfl, rfl, k1, r1⟩ := trodAll_cons r0
  obtain ⟨v2, vs2, d2, ds2, p2, q2, rfl, rfl, rfl, k2, r2⟩ := trodAll_cons r1
  obtain ⟨v3, vs3, d3, ds3, p3, q3, rfl, rfl, rfl, k3, r3⟩ := trodAll_cons r2
  obtain ⟨v4, vs4, d4, ds4, p4, q4, rfl, rfl, rfl, k4, r4⟩ := trodAll_cons r3
  obtain ⟨v5, vs5, d5, ds5, p5, q5, rfl, rfl, rfl, k5, r5⟩ := trodAll_cons r4
  obtain ⟨rfl, rfl, rfl⟩ := trodAll_nil r5
  obtain rfl : args = #[v0, v1, v2, v3, v4, v5] := by cases args; simp_all
  obtain ⟨T, rfl, rfl, rfl, wT⟩ := open_int Ybaf.underlying31 (hval 0 31 v0 rfl rfl) k0
  obtain ⟨s, rfl, rfl, rfl, ws⟩ := open_int Ybaf.underlying31 (hval 1 31 v1 rfl rfl) k1
  obtain ⟨x, rfl, rfl, rfl, wx⟩ := open_int Ybaf.underlying31 (hval 2 31 v2 rfl rfl) k2
  obtain ⟨sel, rfl, rfl, rfl, w0⟩ := open_int Ybaf.underlying5 (hval 3 5 v3 rfl rfl) k3
  obtain ⟨b, rfl, rfl, rfl⟩ := open_bool Ybaf.underlying4 (hval 4 4 v4 rfl rfl) k4
  obtain ⟨m, rfl, rfl, rfl, wm⟩ := open_int Ybaf.underlying3 (hval 5 3 v5 rfl rfl) k5
  obtain ⟨a, ca, ta, hv, ha⟩ := laid_one hL Ybaf.gO Ybaf.gOType Ybaf.underlying27 Ybaf.row161 Ybaf.underlying161 Ybaf.underlying163 rfl rfl Ybaf.underlying9 Ybaf.cells163 Ybaf.cells9
  obtain ⟨rfl, rfl⟩ := hV.unique (vars_read1 enc Ybaf.gO Ybaf.gOType Ybaf.underlying27 hv trivial _)
  clear hA0 hV0 hval0
  have hg : W.cell? ⟨0, 0, none⟩ = some (.iface 161 (.pointer (some a))) := by simpa using World.var?_cell Ybaf.gO hv 0
  have hl0 : 0 < W.heap.size := World.block_lt_of_cell? W _ hg
  obtain ⟨b0, b1⟩ := bounds_u8 w0
  refine (law5_all F.told W T s x sel m b hF ⟨b0, b1⟩ (bounds_u64' wT).1 (bounds_u64' ws).1 (bounds_u64' wx).1 a hg ca ta ha).mono fun e W' ⟨he, bel⟩ => ?_
  subst he
  refine ⟨_, rfl, _, _, _, [], _, [.cell 0 0], hW', trodAll_mk1 (shut_bool Ybaf.underlying4 _), (trodAll_cons_mk (shut_int Ybaf.underlying31 wT) (trodAll_cons_mk (shut_int Ybaf.underlying31 ws) (trodAll_cons_mk (shut_int Ybaf.underlying31 wx) (trodAll_cons_mk (shut_int Ybaf.underlying5 w0) (trodAll_cons_mk (shut_bool Ybaf.underlying4 b) (trodAll_cons_mk (shut_int Ybaf.underlying3 wm) trodAll_mk0)))))), ?_, bel.frame _, fun h => by cases h⟩
  exact vars_read1 enc Ybaf.gO Ybaf.gOType Ybaf.underlying27 (var?_below bel Ybaf.gO hl0 hv) trivial _

theorem lawS3700BAwaits_proved : Rows.LawS3700BAwaitsToldSaid :=
  Claim7.holds_of_told_tied_any_at .later 5 Ybaf.f5 "fmt.errorf" [] [] _ _ _ _ _ (by kernel_rfl) rfl rfl rfl Ybaf.laidOut (by kernel_rfl) rfl ⟨rfl, rfl, rfl, rfl, rfl, rfl, rfl⟩ rfl rfl (by kernel_rfl) (by kernel_rfl) Ybaf.func5 (by kernel_rfl)
    (of_decide_eq_true (by kernel_rfl)) (by unfold Func.isWrapper; first | (rw [if_pos (by decide +kernel)]; kernel_rfl) | (rw [if_neg (by decide +kernel)]; exact ⟨rfl, rfl⟩)) Ybaf.stops.symm rfl Ybaf.stopKnobs.symm (by kernel_rfl)
    (by kernel_rfl) (by kernel_rfl) (by kernel_rfl) (by kernel_rfl) (by kernel_rfl) (by kernel_rfl) (by kernel_rfl) (by kernel_rfl) (by kernel_rfl) rfl (by kernel_rfl) rfl rfl
    rfl rfl
    rfl (by kernel_rfl) (by kernel_rfl) (by kernel_rfl) (by decide) (by kernel_rfl) lawS3700BAwaits_row_tie
    (OpenClaim.moreEntering_of (by kernel_rfl) (by kernel_rfl) (by kernel_rfl) (by kernel_rfl) (by kernel_rfl) (by kernel_rfl) (by kernel_rfl) (by kernel_rfl) (by kernel_rfl) (by kernel_rfl))
    ⟨_, WideRow.started_initial, Ybaf.quiet _⟩
    (fun os started _ H enc _ => law5_lifted os started H enc)

end Go.Proofs.YbulkbxpiFmt
