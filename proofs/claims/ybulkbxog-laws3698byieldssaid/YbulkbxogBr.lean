/-
  Law B: the rows: the arguments opened.
-/
import Derived.Test.YbulkbxogBp
import Derived.ProofKit
import Derived.OpenShut
import Derived.ChangeOld
import Derived.Deep.Matrix
import Derived.Deep.Grids
namespace Go.Proofs.Ybulkbxog
open Go.ChangeShapes Go.WideShapes Go.ChangeAt Go.RowKit

theorem Yba.own : ownKnob Yba.prog.godebug = none := by kernel_rfl
theorem Yba.laidOut : laidOutB Yba.prog = true := by kernel_rfl
theorem Yba.cells69 : Yba.prog.cellsOf 69 = 1 := by kernel_rfl
theorem Yba.cells4 : Yba.prog.cellsOf 4 = 1 := by kernel_rfl

theorem addr_plain {w : World} {a : Addr} {v : Value} (h : w.cell? (a.add 0) = some v) : ∃ b o, a = ⟨b, o, none⟩ := by
  obtain ⟨b, o, s⟩ := a
  have hs : s = none := by simpa [Addr.add] using World.cell?_spot h
  subst hs
  exact ⟨b, o, rfl⟩

theorem add_lit' (b o j : Nat) : (⟨b, o, none⟩ : Addr).add j = ⟨b, o + j, none⟩ := by unfold Addr.add; split <;> simp_all

theorem bounds_i8' {n : Int} (h : (Lit.int .i8 n).wf = true) : -128 ≤ n ∧ n ≤ 127 := by
  simp [Lit.wf, IntKind.min, IntKind.max, IntKind.signed, IntKind.bits] at h
  omega

/-- A slice of int8 that came in. -/
theorem row8_open {H : Type} {enc : TypeId × Value → H} {W : World} {fuel : Nat} {v : Value} {x : DataW H × List MemPlace} (h : DataW.trod enc Yba.prog W 0 (fun _ => true) true fuel 22 [v] = some x) :
    ∃ ao xs cap, v = .slice ao (List.length xs) cap ∧ IRow W .i8 ao xs ∧ ∀ x ∈ xs, -128 ≤ x ∧ x ≤ 127 := by
  rcases open_ints Yba.underlying22 Yba.underlying69 Yba.cells69 h with ⟨hcs, _⟩ | ⟨a, l, c, zs, hcs, _, hl, hm, hz, _, hcell, hwz⟩
  · simp at hcs
    exact ⟨none, [], 0, by simpa using hcs, IRow.nil _ _ _, by simp⟩
  · simp at hcs
    simp only [if_true] at hz
    have hlen : (zs.take l).length = l := by rw [List.length_take]; omega
    refine ⟨some a, zs.take l, c, by rw [hlen]; exact hcs, ?_, fun y hy => bounds_i8' (hwz y (List.mem_of_mem_take hy))⟩
    intro j y hj
    have hjl : j < l := by have := (List.getElem?_eq_some_iff.1 hj).1; omega
    obtain ⟨b, o, rfl⟩ := addr_plain (hcell 0 (by omega))
    refine ⟨b, o, rfl, ?_⟩
    have := hcell j (by omega)
    rw [add_lit'] at this
    rw [this]
    rw [List.getElem?_take_of_lt hjl] at hj
    simp [List.getD, hj]

theorem picks_open {H : Type} {enc : TypeId × Value → H} {W : World} {fuel : Nat} {v : Value} {x : DataW H × List MemPlace} (h : DataW.trod enc Yba.prog W 0 (fun _ => true) true fuel 23 [v] = some x) :
    ∃ ao n cap, v = .slice ao n cap ∧ Picks W ao n ∧ n ≤ maxLen := by
  rcases Go.Deep.open_bools Yba.underlying23 Yba.underlying4 Yba.cells4 h with ⟨hcs, _⟩ | ⟨a, len, cap, B, hcs, _, hl, hm, _, hc⟩
  · simp at hcs
    exact ⟨none, 0, 0, by simpa using hcs, fun j hj => by omega, by simp [maxLen]⟩
  · simp at hcs
    refine ⟨some a, len, cap, by simpa using hcs, fun j hj => ?_, by omega⟩
    obtain ⟨b, o, rfl⟩ := addr_plain (hc 0 (by omega))
    have := hc j (by omega)
    rw [add_lit'] at this
    exact ⟨b, o, _, rfl, this⟩

end Go.Proofs.Ybulkbxog
