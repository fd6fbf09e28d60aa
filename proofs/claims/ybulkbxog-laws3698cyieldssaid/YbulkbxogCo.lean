/-
  Law C: the rows' steps: the argument opened.
-/
import Derived.Test.YbulkbxogCn
import Derived.ProofKit
import Derived.OpenShut
import Derived.ChangeOld
import Derived.Deep.Matrix
namespace Go.Proofs.Ybulkbxog
open Go.ChangeShapes Go.WideShapes Go.ChangeAt Go.RowKit

theorem Yba.own : ownKnob Yba.prog.godebug = none := by kernel_rfl
theorem Yba.laidOut : laidOutB Yba.prog = true := by kernel_rfl
theorem Yba.cells5 : Yba.prog.cellsOf 5 = 1 := by kernel_rfl
theorem Yba.cells60 : Yba.prog.cellsOf 60 = 1 := by kernel_rfl
theorem Yba.cells59 : Yba.prog.cellsOf 59 = 1 := by kernel_rfl
theorem Yba.cells62 : Yba.prog.cellsOf 62 = 9 := by kernel_rfl

theorem addr_plain {w : World} {a : Addr} {v : Value} (h : w.cell? (a.add 0) = some v) : ∃ b o, a = ⟨b, o, none⟩ := by
  obtain ⟨b, o, s⟩ := a
  have hs : s = none := by simpa [Addr.add] using World.cell?_spot h
  subst hs
  exact ⟨b, o, rfl⟩

theorem add_lit' (b o j : Nat) : (⟨b, o, none⟩ : Addr).add j = ⟨b, o + j, none⟩ := by unfold Addr.add; split <;> simp_all

/-- A slice of bytes that came in. -/
theorem row_open {H : Type} {enc : TypeId × Value → H} {W : World} {fuel : Nat} {v : Value} {x : DataW H × List MemPlace} (h : DataW.trod enc Yba.prog W 0 (fun _ => true) true fuel 60 [v] = some x) :
    ∃ ao xs cap, v = .slice ao (List.length xs) cap ∧ IRow W .u8 ao xs ∧ xs.length ≤ maxLen ∧ ∀ x ∈ xs, 0 ≤ x ∧ x ≤ 255 := by
  rcases open_ints Yba.underlying60 Yba.underlying5 Yba.cells5 h with ⟨hcs, _⟩ | ⟨a, l, c, zs, hcs, _, hl, hm, hz, _, hcell, hwz⟩
  · simp at hcs
    exact ⟨none, [], 0, by simpa using hcs, IRow.nil _ _ _, by simp [maxLen], by simp⟩
  · simp at hcs
    simp only [if_true] at hz
    have hlen : (zs.take l).length = l := by rw [List.length_take]; omega
    refine ⟨some a, zs.take l, c, by rw [hlen]; exact hcs, ?_, by rw [hlen]; omega, fun y hy => bounds_u8 (hwz y (List.mem_of_mem_take hy))⟩
    intro j y hj
    have hjl : j < l := by have := (List.getElem?_eq_some_iff.1 hj).1; omega
    obtain ⟨b, o, rfl⟩ := addr_plain (hcell 0 (by omega))
    refine ⟨b, o, rfl, ?_⟩
    have := hcell j (by omega)
    rw [add_lit'] at this
    rw [this]
    rw [List.getElem?_take_of_lt hjl] at hj
    simp [List.getD, hj]

theorem raw_open {H : Type} {enc : TypeId × Value → H} {W : World} {fuel : Nat} {v : Value} {x : DataW H × List MemPlace} (h : DataW.trod enc Yba.prog W 0 (fun _ => true) true fuel 59 [v] = some x) :
    ∃ ao rows cap, v = .slice ao (List.length rows) cap ∧ RawAt W ao rows ∧ rows.length ≤ maxLen := by
  rcases Go.Deep.open_int_rows Yba.underlying59 Yba.underlying60 Yba.underlying5 Yba.cells60 Yba.cells5 h with ⟨hcs, _⟩ | ⟨a, len, cap, A, L, C, Z, hcs, _, hl, hm, _, hr⟩
  · simp at hcs
    exact ⟨none, [], 0, by simpa using hcs, fun j r hj => by simp at hj, by simp [maxLen]⟩
  · simp at hcs
    refine ⟨some a, (List.range len).map (fun r => (Z r).take (L r)), cap, by simpa using hcs, ?_, by simp; omega⟩
    intro j r hj
    have hjl : j < len := by have := (List.getElem?_eq_some_iff.1 hj).1; simpa using this
    have hr' : (Z j).take (L j) = r := by simpa [hjl] using hj
    obtain ⟨hc, h1, h2, h3, h4, h5, h6⟩ := hr j (by omega)
    obtain ⟨b, o, rfl⟩ := addr_plain (hr 0 (by omega)).1
    rw [add_lit'] at hc
    have hlen : r.length = L j := by rw [← hr', List.length_take]; omega
    refine ⟨b, o, A j, C j, rfl, by rw [hlen]; exact hc, ?_, fun y hy => bounds_u8 (h4 y (by rw [← hr'] at hy; exact List.mem_of_mem_take hy))⟩
    intro i y hi
    have hil : i < L j := by have := (List.getElem?_eq_some_iff.1 hi).1; omega
    cases hA : A j with
    | none => have := h5 hA; omega
    | some a' =>
      obtain ⟨b', o', rfl⟩ := addr_plain ((h6 a' hA).2 0 (by omega))
      refine ⟨b', o', rfl, ?_⟩
      have := (h6 _ hA).2 i (by omega)
      rw [add_lit'] at this
      rw [this]
      rw [← hr', List.getElem?_take_of_lt hil] at hi
      simp [List.getD, hi]

set_option maxRecDepth 100000 in
theorem in_open {H : Type} {enc : TypeId × Value → H} {W : World} {base : Nat} {v : Value} {d : DataW H} {p : List MemPlace} (hv : Value.okWide Yba.prog W .any base 62 v) (h : DataW.Trod enc Yba.prog W 0 (fun _ => true) true 62 v d p) :
    ∃ (c : CIn) (aA aI aP aW aR aS : Option Addr) (cA cI cP cW cR cS : Nat), v = .agg (inCells c aA aI aP aW aR aS cA cI cP cW cR cS) ∧ InAt W c aA aI aP aW aR aS := by
  obtain ⟨cs, rfl, hsz⟩ := okWide_struct Yba.underlying62 hv
  rw [Yba.cells62] at hsz
  obtain ⟨fuel, hf⟩ := h
  obtain ⟨xs, n, _, _, _, hxl, hx⟩ := DataW.trod_struct Yba.underlying62 hf
  obtain ⟨l, rfl⟩ : ∃ l : List Value, cs = l.toArray := ⟨cs.toList, by simp⟩
  match l, hsz with
  | [c0, c1, c2, c3, c4, c5, c6, c7, c8], _ =>
    match xs, hxl with
    | [y0, y1, y2, y3, y4, y5, y6, y7, y8], _ =>
      have f0 := hx 0 _ rfl
      have f1 := hx 1 _ rfl
      have f2 := hx 2 _ rfl
      have f3 := hx 3 _ rfl
      have f4 := hx 4 _ rfl
      have f5 := hx 5 _ rfl
      have f6 := hx 6 _ rfl
      have f7 := hx 7 _ rfl
      have f8 := hx 8 _ rfl
      simp [Value.cells, Yba.cells5, Yba.cells59, Yba.cells60] at f0 f1 f2 f3 f4 f5 f6 f7 f8
      obtain ⟨n0, e0, _, w0⟩ := DataW.trod_int Yba.underlying5 f0
      obtain ⟨n1, e1, _, w1⟩ := DataW.trod_int Yba.underlying5 f1
      obtain ⟨n2, e2, _, w2⟩ := DataW.trod_int Yba.underlying5 f2
      simp at e0 e1 e2
      subst e0 e1 e2
      obtain ⟨a3, r3, k3, rfl, R3, l3⟩ := raw_open f3
      obtain ⟨a4, r4, k4, rfl, R4, l4⟩ := raw_open f4
      obtain ⟨a5, r5, k5, rfl, R5, l5⟩ := raw_open f5
      obtain ⟨a6, r6, k6, rfl, R6, l6⟩ := raw_open f6
      obtain ⟨a7, r7, k7, rfl, R7, l7⟩ := raw_open f7
      obtain ⟨a8, r8, k8, rfl, R8, l8, b8⟩ := row_open f8
      exact ⟨⟨n0, n1, n2, r3, r4, r5, r6, r7, r8⟩, a3, a4, a5, a6, a7, a8, k3, k4, k5, k6, k7, k8, rfl, ⟨R3, R4, R5, R6, R7, R8, l3, l4, l5, l6, l7, l8, bounds_u8 w0, bounds_u8 w1, bounds_u8 w2, b8⟩⟩

end Go.Proofs.Ybulkbxog
