/-
  Law A's row: the sentinel, the start that fits, the argument opened.
-/
import Derived.Test.YbulkbxpiFmtTie
import Derived.Test.YbulkbxpiFmtCards
import Derived.Test.YbulkbxpiFmtXk
import Derived.Deep.Matrix
import Derived.ProofKit
import Derived.WideKeyArgs
import Derived.WideKeyElems4
import Derived.Stop.JoinedAt
import Derived.Stop.JoinedTold
import Derived.Stop.Texts
import Derived.Stop.ErrReads
import Derived.Stop.LaidErr
import Derived.OpenShut
import Derived.WalkSmall
import Derived.SevenTiedAt
namespace Go.Proofs.YbulkbxpiFmt
open Go.ChangeShapes Go.WideShapes Go.ChangeAt Go.RowKit Go.Kit
open Go.Extern.Stop Go.Stop Go.Extern

theorem Ybaf.own : ownKnob Ybaf.prog.godebug = none := by kernel_rfl
theorem Ybaf.laidOut : laidOutB Ybaf.pinned.checked.prog = true := by kernel_rfl
theorem Ybaf.stops : Ybaf.pinned.checked.prog.stops = ["fmt.errorf"] := by kernel_rfl
theorem Ybaf.stopKnobs : Ybaf.pinned.checked.prog.stopKnobs = [] := by kernel_rfl
theorem Ybaf.quiet (os : Os) : Stop.quiet Ybaf.pinned.checked.prog os := by
  intro k hk
  rw [Ybaf.stopKnobs] at hk
  cases hk
theorem Ybaf.gO : Ybaf.prog.globalNamed "example.com/antecede/antecede.ErrClockOverflow" = some 0 := by kernel_rfl
theorem Ybaf.gOType : (Ybaf.prog.globals[0]?).map (·.type) = some 27 := by kernel_rfl
theorem Ybaf.cells163 : Ybaf.prog.cellsOf 163 = 1 := by kernel_rfl
theorem Ybaf.cells9 : Ybaf.prog.cellsOf 9 = 1 := by kernel_rfl
theorem Ybaf.star : "*" ++ "errors.errorString" = "*errors.errorString" := by decide
theorem Ybaf.row161 (u : TypeId) (h : Ybaf.prog.typeName? 3 u = some "*errors.errorString") : u = 161 :=
  typeName_ptr_named (nm := "errors.errorString") (by rw [Ybaf.star]; kernel_rfl) (by kernel_rfl) (by decide) u (by rw [Ybaf.star]; exact h)

/-- What 'laid' gives of one sentinel: its cell, and that nothing of its block is frozen. -/
theorem laid_one {P : Program} {n nm : String} {text : List UInt8} {r : List (String × DataW Unit)} {W : World} {g : Nat} {ti tp te ts : TypeId} {ms : Array (String × TypeId)} {f : Field}
    (h : laidMet P ((n, .iface nm (.ptr (.agg [.lit (.string text)]))) :: r) W)
    (hg : P.globalNamed n = some g) (ht : (P.globals[g]?).map (·.type) = some ti) (hi : P.underlying ti = some (.interface ms)) (hrow : ∀ u, P.typeName? 3 u = some nm → u = tp)
    (hp : P.underlying tp = some (.pointer te)) (he : P.underlying te = some (.struct #[f])) (hft : f.type = ts) (hfo : f.offset = 0) (hs : P.underlying ts = some .string) (hc : P.cellsOf te = 1) (hcs : P.cellsOf ts = 1) :
    ∃ (a : Addr) (c : Array Value) (t : TypeId), W.var? P n = some #[.iface tp (.pointer (some a))] ∧ W.heap[a.block]? = some (.cells c t (0, 0)) := by
  obtain ⟨ps, ⟨g0, t0, cs0, f0, p0, q0, hg0, ht0, hv0, hd0, _, e0⟩, _, hrows⟩ := h
  obtain rfl := Option.some.inj (hg.symm.trans hg0)
  obtain rfl := Option.some.inj (ht.symm.trans ht0)
  subst e0
  obtain ⟨l0⟩ := cs0
  have ok0 : ∀ u v, l0 = [.iface u v] → Value.okWide P W .any 0 u v := fun u v e => by
    subst e
    exact (hrows g 0 (by simp [MemPlace.row])).2 u v (by simpa using World.var?_cell hg0 hv0 0)
  obtain ⟨a0, s0, rfl, hc0, hs0, hz0, rfl⟩ := errorString_of_trod hi hrow hp he hft hfo hs hc hcs hd0 ok0
  obtain ⟨c0, t0, hb0⟩ := (hrows a0.block a0.off (by simp [MemPlace.row])).1
  exact ⟨a0, c0, t0, hv0, hb0⟩

/-! ### One start that fits: the sentinel as its initialiser lays it -/
abbrev overS : ByteArray := { data := #[99, 108, 111, 99, 107, 32, 118, 97, 108, 117, 101, 32, 119, 111, 117, 108, 100, 32, 112, 97, 115, 115, 32, 116, 104, 101, 32, 108, 97, 114, 103, 101, 115, 116, 32, 117, 105, 110, 116, 54, 52] }
noncomputable def low : Nat := (World.holding Ybaf.prog default ⟨#[], #[], []⟩).heap.size
noncomputable def laidWorld (os : Os) (g : Nat) (s : ByteArray) : World :=
  let w0 := World.holding Ybaf.prog os ⟨#[.cells #[.string s] 163], #[], []⟩
  { w0 with heap := w0.heap.modify g fun
      | .cells _ t frozen => .cells #[.iface 161 (.pointer (some ⟨low, 0, none⟩))] t frozen
      | o => o }

/-! ### The argument opened -/
theorem Ybaf.cells5 : Ybaf.prog.cellsOf 5 = 1 := by kernel_rfl
theorem Ybaf.cells23 : Ybaf.prog.cellsOf 23 = 1 := by kernel_rfl
theorem Ybaf.laidOut' : laidOutB Ybaf.prog = true := by kernel_rfl

theorem addr_plain {w : World} {a : Addr} {v : Value} (h : w.cell? (a.add 0) = some v) : ∃ b o, a = ⟨b, o, none⟩ := by
  obtain ⟨b, o, s⟩ := a
  have hs : s = none := by simpa [Addr.add] using World.cell?_spot h
  subst hs
  exact ⟨b, o, rfl⟩

theorem add_lit' (b o j : Nat) : (⟨b, o, none⟩ : Addr).add j = ⟨b, o + j, none⟩ := by unfold Addr.add; split <;> simp_all

theorem rows_open {H : Type} {enc : TypeId × Value → H} {W : World} {fuel : Nat} {v : Value} {x : DataW H × List MemPlace} (h : DataW.trod enc Ybaf.prog W 0 (fun _ => true) true fuel 22 [v] = some x) :
    ∃ ao rows cap, v = .slice ao (List.length rows) cap ∧ BRows W ao rows := by
  rcases Go.Deep.open_int_rows Ybaf.underlying22 Ybaf.underlying23 Ybaf.underlying5 Ybaf.cells23 Ybaf.cells5 h with ⟨hcs, _⟩ | ⟨a, len, cap, A, L, C, Z, hcs, _, hl, hm, _, hr⟩
  · simp at hcs
    exact ⟨none, [], 0, by simpa using hcs, fun j r hj => by simp at hj⟩
  · simp at hcs
    refine ⟨some a, (List.range len).map (fun r => (Z r).take (L r)), cap, by simpa using hcs, ?_⟩
    intro j r hj
    have hjl : j < len := by have := (List.getElem?_eq_some_iff.1 hj).1; simpa using this
    have hr' : (Z j).take (L j) = r := by simpa [hjl] using hj
    obtain ⟨hc, h1, h2, h3, h4, h5, h6⟩ := hr j (by omega)
    obtain ⟨b, o, rfl⟩ := addr_plain (hr 0 (by omega)).1
    rw [add_lit'] at hc
    have hlen : r.length = L j := by rw [← hr', List.length_take]; omega
    refine ⟨b, o, A j, C j, rfl, by rw [hlen]; exact hc, ?_, fun y hy => bounds_u8 (h4 y (by rw [← hr'] at hy; exact List.mem_of_mem_take hy))⟩
    intro i y hi
    have hil : i < L j := by have := (List.getElem?_eq_some_iff.1 hi).1; omega
    cases hA : A j with
    | none => have := h5 hA; omega
    | some a' =>
      obtain ⟨b', o', rfl⟩ := addr_plain ((h6 a' hA).2 0 (by omega))
      refine ⟨b', o', rfl, ?_⟩
      have := (h6 _ hA).2 i (by omega)
      rw [add_lit'] at this
      rw [this]
      rw [← hr', List.getElem?_take_of_lt hil] at hi
      simp [List.getD, hi]

end Go.Proofs.YbulkbxpiFmt
