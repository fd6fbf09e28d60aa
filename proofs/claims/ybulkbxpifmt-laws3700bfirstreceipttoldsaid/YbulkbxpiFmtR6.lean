/-
  'LawS3700BFirstReceipt': the row, told and tied.
-/
import Derived.Test.YbulkbxpiFmtRt
namespace Go.Proofs.YbulkbxpiFmt
open Go.ChangeShapes Go.WideShapes Go.ChangeAt Go.RowKit Go.Kit
open Go.Extern.Stop Go.Stop Go.Extern

theorem laid4_met (os : Os) (args : Array Value) : laidMet Ybaf.prog Rows.lawS3700BFirstReceiptRow.laid ((laidWorld os 0 overS).forCall (fun _ _ => 0) ⟨#[], args, []⟩).memory :=
  laidMet_of_run (ps := [.cell 0 0, .cell low 0]) 8 (by kernel_rfl) (by kernel_rfl) (by kernel_rfl)

/-- The law at every input. -/
theorem law4_all (F : Interp) (w : World) (sel T m : Int) (hF : F.answers w.tape) (h0 : 0 ≤ sel ∧ sel ≤ 255) (hT : 0 ≤ T ∧ T ≤ 18446744073709551615) (a : Addr) (hg : w.cell? ⟨0, 0, none⟩ = some (.iface 161 (.pointer (some a)))) (ca : Array Value) (ta : TypeId) (ha : w.heap[a.block]? = some (.cells ca ta (0, 0))) :
    Calls Ybaf.prog 4 #[.int .u8 sel, .int .u64 T, .int .i64 m] w (LawOk w) := by
  rcases (by omega : sel % 4 = 0 ∨ sel % 4 = 1 ∨ sel % 4 = 2 ∨ sel % 4 = 3) with h | h | h | h
  · exact law4_p0 F w sel T m hF h0 h a hg ca ta ha
  · by_cases hz : T = 0
    · exact law4_z1 F w sel T m hF h0 h hz a hg ca ta ha
    · by_cases ho : 18446744073709551612 < T
      · exact law4_over1 w sel T m h0 h ⟨ho, hT.2⟩ a hg
      · exact law4_ok1 F w sel T m hF h0 h (by omega) a hg ca ta ha
  · by_cases hz : T = 0
    · exact law4_z2 F w sel T m hF h0 h hz a hg ca ta ha
    · by_cases ho : 18446744073709551612 < T
      · exact law4_over2 w sel T m h0 h ⟨ho, hT.2⟩ a hg
      · exact law4_ok2 F w sel T m hF h0 h (by omega) a hg ca ta ha
  · exact law4_q F w sel T m hF h0 h a hg ca ta ha

theorem bounds_u64' {n : Int} (h : (Lit.int .u64 n).wf = true) : 0 ≤ n ∧ n ≤ 18446744073709551615 := by
  simp [Lit.wf, IntKind.min, IntKind.max, IntKind.signed, IntKind.bits] at h
  omega

set_option maxRecDepth 100000 in
theorem law4_lifted (os : Os) (started : os.Started) (H : Type) (enc : TypeId × Value → H) :
    ReturnsInTold none {} Ybaf.checked os 4 .any Input.okWide ((OpenSpec.ofChange Rows.lawS3700BFirstReceiptSpec).preRow enc Ybaf.prog Ybaf.f4 [] false Rows.lawS3700BFirstReceiptRow.laid) (fun F => ((OpenSpec.ofChange Rows.lawS3700BFirstReceiptSpec).at F).post enc Ybaf.prog Ybaf.f4 false true false false) (aloneAtReturn Ybaf.prog) nothingAlways := by
  refine returnsInTold_of_row (C := Ybaf.checked) (s := OpenSpec.ofChange Rows.lawS3700BFirstReceiptSpec) (by kernel_rfl) Ybaf.own started (by kernel_rfl) Ybaf.func4
    (OpenSpec.witness_stopped_at (enc := enc) (C := Ybaf.checked) false (laidWorld os 0 overS) #[.int .u8 0, .int .u64 0, .int .i64 0] rfl (by kernel_rfl) (by kernel_rfl) (by kernel_rfl)
      (OpenSpec.preRow_of_B rfl 8 (by kernel_rfl) (by kernel_rfl) (laid4_met os _))) ?_
  intro F W base args ds gs before _ hF hval0 hW _ _ _ hL _
  have hval : ∀ (j : Nat) t v, Ybaf.f4.params[j]? = some t → args[j]? = some v → Value.okWide Ybaf.prog W .any base t v := hval0
  have hW' := hW
  obtain ⟨p, q, hA0, hV0, rfl, hfz, hnd⟩ := hW
  have hA : DataW.TrodAll enc Ybaf.prog W 0 (fun _ => true) true Ybaf.f4.params.toList args.toList ds p := hA0
  have hV : DataW.TrodVars enc Ybaf.prog W (fun _ => true) ["example.com/antecede/antecede.ErrClockOverflow"] gs q := hV0
  rw [Ybaf.params4] at hA hval
  obtain ⟨v0, vs0, d0, ds0, p0, q0, hargs, rfl, rfl, k0, r0⟩ := trodAll_cons hA
  obtain ⟨v1, vs1, d1, ds1, p1, q1, rfl, rfl, rfl, k1, r1⟩ := trodAll_cons r0
  obtain ⟨v2, vs2, d2, ds2, p2, q2, rfl, rfl, rfl, k2, r2⟩ := trodAll_cons r1
  obtain ⟨rfl, rfl, rfl⟩ := trodAll_nil r2
  obtain rfl : args = #[v0, v1, v2] := by cases args; simp_all
  obtain ⟨sel, rfl, rfl, rfl, w0⟩ := open_int Ybaf.underlying5 (hval 0 5 v0 rfl rfl) k0
  obtain ⟨T, rfl, rfl, rfl, wT⟩ := open_int Ybaf.underlying31 (hval 1 31 v1 rfl rfl) k1
  obtain ⟨m, rfl, rfl, rfl, wm⟩ := open_int Ybaf.underlying3 (hval 2 3 v2 rfl rfl) k2
  obtain ⟨a, ca, ta, hv, ha⟩ := laid_one hL Ybaf.gO Ybaf.gOType Ybaf.underlying27 Ybaf.row161 Ybaf.underlying161 Ybaf.underlying163 rfl rfl Ybaf.underlying9 Ybaf.cells163 Ybaf.cells9
  obtain ⟨rfl, rfl⟩ := hV.unique (vars_read1 enc Ybaf.gO Ybaf.gOType Ybaf.underlying27 hv trivial _)
  clear hA0 hV0 hval0
  have hg : W.cell? ⟨0, 0, none⟩ = some (.iface 161 (.pointer (some a))) := by simpa using World.var?_cell Ybaf.gO hv 0
  have hl0 : 0 < W.heap.size := World.block_lt_of_cell? W _ hg
  obtain ⟨b0, b1⟩ := bounds_u8 w0
  refine (law4_all F.told W sel T m hF ⟨b0, b1⟩ (bounds_u64' wT) a hg ca ta ha).mono fun e W' ⟨he, bel⟩ => ?_
  subst he
  refine ⟨_, rfl, _, _, _, [], _, [.cell 0 0], hW', trodAll_mk1 (shut_bool Ybaf.underlying4 _), (trodAll_cons_mk (shut_int Ybaf.underlying5 w0) (trodAll_cons_mk (shut_int Ybaf.underlying31 wT) (trodAll_cons_mk (shut_int Ybaf.underlying3 wm) trodAll_mk0))), ?_, bel.frame _, fun h => by cases h⟩
  exact vars_read1 enc Ybaf.gO Ybaf.gOType Ybaf.underlying27 (var?_below bel Ybaf.gO hl0 hv) trivial _

theorem lawS3700BFirstReceipt_proved : Rows.LawS3700BFirstReceiptToldSaid :=
  Claim7.holds_of_told_tied_any_at .later 4 Ybaf.f4 "fmt.errorf" [] [] _ _ _ _ _ (by kernel_rfl) rfl rfl rfl Ybaf.laidOut (by kernel_rfl) rfl ⟨rfl, rfl, rfl, rfl, rfl, rfl, rfl⟩ rfl rfl (by kernel_rfl) (by kernel_rfl) Ybaf.func4 (by kernel_rfl)
    (of_decide_eq_true (by kernel_rfl)) (by unfold Func.isWrapper; first | (rw [if_pos (by decide +kernel)]; kernel_rfl) | (rw [if_neg (by decide +kernel)]; exact ⟨rfl, rfl⟩)) Ybaf.stops.symm rfl Ybaf.stopKnobs.symm (by kernel_rfl)
    (by kernel_rfl) (by kernel_rfl) (by kernel_rfl) (by kernel_rfl) (by kernel_rfl) (by kernel_rfl) (by kernel_rfl) (by kernel_rfl) (by kernel_rfl) rfl (by kernel_rfl) rfl rfl
    rfl rfl
    rfl (by kernel_rfl) (by kernel_rfl) (by kernel_rfl) (by decide) (by kernel_rfl) lawS3700BFirstReceipt_row_tie
    (OpenClaim.moreEntering_of (by kernel_rfl) (by kernel_rfl) (by kernel_rfl) (by kernel_rfl) (by kernel_rfl) (by kernel_rfl) (by kernel_rfl) (by kernel_rfl) (by kernel_rfl) (by kernel_rfl))
    ⟨_, WideRow.started_initial, Ybaf.quiet _⟩
    (fun os started _ H enc _ => law4_lifted os started H enc)

end Go.Proofs.YbulkbxpiFmt
