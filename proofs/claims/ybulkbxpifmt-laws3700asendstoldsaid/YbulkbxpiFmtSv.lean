/-
  The service of law B in memory: of p0 among p0, p1, p2.
-/
import Derived.Test.YbulkbxpiFmtCk
namespace Go.Proofs.YbulkbxpiFmt
open Go.RowKit Go.MuLone

abbrev P0 : ByteArray := ⟨#[112, 48]⟩
abbrev P1 : ByteArray := ⟨#[112, 49]⟩
abbrev P2 : ByteArray := ⟨#[112, 50]⟩
abbrev Qq : ByteArray := ⟨#[113]⟩
/-- The name of process k. -/
def nmOf : Nat → ByteArray
  | 0 => P0
  | 1 => P1
  | _ => P2
abbrev idx3 : Array MapEntry := #[{ key := .string P0, val := .int .i64 0, born := 0 }, { key := .string P1, val := .int .i64 1, born := 1 }, { key := .string P2, val := .int .i64 2, born := 2 }]
abbrev rowU (xs : List Int) : Array Value := (xs.map (Value.int .u64)).toArray

structure Ids where
  D : Nat
  C : Nat
  N : Nat
  X : Nat
  Hd : Nat
  Td : Nat
  Us : Nat
  Se : Nat
  kn : Nat
  Aw : Nat
abbrev Ids.list (i : Ids) : List Nat := [i.D, i.C, i.N, i.X, i.Hd, i.Td, i.Us, i.Se]
abbrev Ids.cells (i : Ids) (mu : Int) (q wt : Value) : Array Value :=
  #[.int .i32 mu, .int .u32 0, .pointer (some ⟨i.C, 0, none⟩), .int .i64 0, .slice (some ⟨i.N, 0, none⟩) 3 i.kn, .map (some i.X), .slice (some ⟨i.Hd, 0, none⟩) 3 3, .slice (some ⟨i.Td, 0, none⟩) 3 3, .slice none 0 0, .int .u64 0, .string ⟨#[]⟩, q, wt, .slice (some ⟨i.Us, 0, none⟩) 3 3, .slice (some ⟨i.Se, 0, none⟩) 3 3, .map (some i.Aw)]

structure Srv (i : Ids) (w : World) (mu t : Int) (hd td se : List Int) (q wt : Value) : Prop where
  d : w.heap[i.D]? = some (.cells (i.cells mu q wt) 82)
  c : Clk i.C P0 t w
  n : ∃ cn, w.heap[i.N]? = some (.cells cn 9) ∧ cn[0]? = some (.string P0)
  x : w.heap[i.X]? = some (.map idx3 3)
  h : w.heap[i.Hd]? = some (.cells (rowU hd) 31)
  t : w.heap[i.Td]? = some (.cells (rowU td) 31)
  s : w.heap[i.Se]? = some (.cells (rowU se) 31)
  u : w.heap[i.Us]? = some (.cells #[.slice none 0 0, .slice none 0 0, .slice none 0 0] 75)
  nd : i.list.Nodup

theorem nodup_ne {l : List Nat} (h : l.Nodup) {a b : Nat} (j k : Nat) (hj : l[j]? = some a) (hk : l[k]? = some b) (hjk : j ≠ k) : a ∉ [b] := by
  intro e
  simp at e
  subst e
  have h1 := (List.getElem?_eq_some_iff.1 hj)
  have h2 := (List.getElem?_eq_some_iff.1 hk)
  obtain ⟨l1, e1⟩ := h1
  obtain ⟨l2, e2⟩ := h2
  exact hjk ((List.getElem_inj h).1 (e1.trans e2.symm))
theorem heap_lt {w : World} {b : Nat} {o : Obj} (h : w.heap[b]? = some o) : b < w.heap.size := (Array.getElem?_eq_some_iff.1 h).1
theorem Kp.heap {bs : List Nat} {w w' : World} (k : Kp bs w w') {b : Nat} {o : Obj} (h : w.heap[b]? = some o) (hn : b ∉ bs) : w'.heap[b]? = some o := (k.block b (heap_lt h) hn).trans h

theorem Srv.upd {i : Ids} {w w' : World} {mu t mu' t' : Int} {hd td se hd' td' se' : List Int} {q wt q' wt' : Value} (v : Srv i w mu t hd td se q wt) {bs : List Nat} (k : Kp bs w w')
    (hN : i.N ∉ bs) (hX : i.X ∉ bs) (hU : i.Us ∉ bs) (d : w'.heap[i.D]? = some (.cells (i.cells mu' q' wt') 82)) (c : Clk i.C P0 t' w')
    (h : w'.heap[i.Hd]? = some (.cells (rowU hd') 31)) (t : w'.heap[i.Td]? = some (.cells (rowU td') 31)) (s : w'.heap[i.Se]? = some (.cells (rowU se') 31)) : Srv i w' mu' t' hd' td' se' q' wt' :=
  ⟨d, c, by obtain ⟨cn, h1, h2⟩ := v.n; exact ⟨cn, k.heap h1 hN, h2⟩, k.heap v.x hX, h, t, s, k.heap v.u hU, v.nd⟩

section
variable {i : Ids} {w w' : World} {mu t : Int} {hd td se : List Int} {q wt : Value}
theorem Srv.kp (v : Srv i w mu t hd td se q wt) {bs : List Nat} (k : Kp bs w w') (hn : ∀ b ∈ i.list, b ∉ bs) : Srv i w' mu t hd td se q wt :=
  v.upd k (hn _ (by simp)) (hn _ (by simp)) (hn _ (by simp)) (k.heap v.d (hn _ (by simp))) (k.heap v.c (hn _ (by simp))) (k.heap v.h (hn _ (by simp))) (k.heap v.t (hn _ (by simp))) (k.heap v.s (hn _ (by simp)))
theorem Srv.kp0 (v : Srv i w mu t hd td se q wt) (k : Kp [] w w') : Srv i w' mu t hd td se q wt := v.kp k (by simp)
theorem Srv.setC (v : Srv i w mu t hd td se q wt) {t' : Int} (k : Kp [i.C] w w') (c : Clk i.C P0 t' w') : Srv i w' mu t' hd td se q wt :=
  v.upd k (nodup_ne v.nd 2 1 rfl rfl (by decide)) (nodup_ne v.nd 3 1 rfl rfl (by decide)) (nodup_ne v.nd 6 1 rfl rfl (by decide)) (k.heap v.d (nodup_ne v.nd 0 1 rfl rfl (by decide))) c (k.heap v.h (nodup_ne v.nd 4 1 rfl rfl (by decide))) (k.heap v.t (nodup_ne v.nd 5 1 rfl rfl (by decide))) (k.heap v.s (nodup_ne v.nd 7 1 rfl rfl (by decide)))
theorem Srv.setD (v : Srv i w mu t hd td se q wt) {mu' : Int} {q' wt' : Value} (k : Kp [i.D] w w') (d : w'.heap[i.D]? = some (.cells (i.cells mu' q' wt') 82)) : Srv i w' mu' t hd td se q' wt' :=
  v.upd k (nodup_ne v.nd 2 0 rfl rfl (by decide)) (nodup_ne v.nd 3 0 rfl rfl (by decide)) (nodup_ne v.nd 6 0 rfl rfl (by decide)) d (k.heap v.c (nodup_ne v.nd 1 0 rfl rfl (by decide))) (k.heap v.h (nodup_ne v.nd 4 0 rfl rfl (by decide))) (k.heap v.t (nodup_ne v.nd 5 0 rfl rfl (by decide))) (k.heap v.s (nodup_ne v.nd 7 0 rfl rfl (by decide)))
theorem Srv.setH (v : Srv i w mu t hd td se q wt) {hd' : List Int} (k : Kp [i.Hd] w w') (h : w'.heap[i.Hd]? = some (.cells (rowU hd') 31)) : Srv i w' mu t hd' td se q wt :=
  v.upd k (nodup_ne v.nd 2 4 rfl rfl (by decide)) (nodup_ne v.nd 3 4 rfl rfl (by decide)) (nodup_ne v.nd 6 4 rfl rfl (by decide)) (k.heap v.d (nodup_ne v.nd 0 4 rfl rfl (by decide))) (k.heap v.c (nodup_ne v.nd 1 4 rfl rfl (by decide))) h (k.heap v.t (nodup_ne v.nd 5 4 rfl rfl (by decide))) (k.heap v.s (nodup_ne v.nd 7 4 rfl rfl (by decide)))
theorem Srv.setT (v : Srv i w mu t hd td se q wt) {td' : List Int} (k : Kp [i.Td] w w') (h : w'.heap[i.Td]? = some (.cells (rowU td') 31)) : Srv i w' mu t hd td' se q wt :=
  v.upd k (nodup_ne v.nd 2 5 rfl rfl (by decide)) (nodup_ne v.nd 3 5 rfl rfl (by decide)) (nodup_ne v.nd 6 5 rfl rfl (by decide)) (k.heap v.d (nodup_ne v.nd 0 5 rfl rfl (by decide))) (k.heap v.c (nodup_ne v.nd 1 5 rfl rfl (by decide))) (k.heap v.h (nodup_ne v.nd 4 5 rfl rfl (by decide))) h (k.heap v.s (nodup_ne v.nd 7 5 rfl rfl (by decide)))
theorem Srv.setS (v : Srv i w mu t hd td se q wt) {se' : List Int} (k : Kp [i.Se] w w') (h : w'.heap[i.Se]? = some (.cells (rowU se') 31)) : Srv i w' mu t hd td se' q wt :=
  v.upd k (nodup_ne v.nd 2 7 rfl rfl (by decide)) (nodup_ne v.nd 3 7 rfl rfl (by decide)) (nodup_ne v.nd 6 7 rfl rfl (by decide)) (k.heap v.d (nodup_ne v.nd 0 7 rfl rfl (by decide))) (k.heap v.c (nodup_ne v.nd 1 7 rfl rfl (by decide))) (k.heap v.h (nodup_ne v.nd 4 7 rfl rfl (by decide))) (k.heap v.t (nodup_ne v.nd 5 7 rfl rfl (by decide))) h
end

/-- Block r turned to o. -/
def setO (w : World) (r : Nat) (o : Obj) : World := { w with heap := w.heap.setIfInBounds r o }
theorem setO_same {w : World} {r : Nat} (o : Obj) (h : r < w.heap.size) : (setO w r o).heap[r]? = some o := by simp [setO, h]
theorem setO_other {w : World} {r k : Nat} (o : Obj) (h : k ≠ r) : (setO w r o).heap[k]? = w.heap[k]? := by simp [setO, Ne.symm h]
theorem setO_size {w : World} {r : Nat} (o : Obj) : (setO w r o).heap.size = w.heap.size := by simp [setO]
theorem Kp.setO {bs : List Nat} {x y : World} (h : Kp bs x y) {r : Nat} (hr : r ∈ bs ∨ x.heap.size ≤ r) (o : Obj) : Kp bs x (setO y r o) :=
  ⟨h.os, h.tape, h.output, by rw [setO_size]; exact h.size, fun k hk hn => by
    rw [setO_other o (fun e => by rcases hr with m | m; exact hn (e ▸ m); omega)]; exact h.block k hk hn⟩
/-- A look-up in a map keyed by strings. -/
theorem run_look_hit {P : Program} {w : World} (T kt et : TypeId) (hT : P.underlying T = some (.map kt et)) (hk : P.underlying kt = some .string) {r clock : Nat} {es : Array MapEntry} (hb : w.heap[r]? = some (.map es clock)) (s : ByteArray) (i : Nat) (v : Value)
    (hf : Instr.findNow .string (.string s) es.toList 0 = some (some (i, v))) (ok : Bool) : (Instr.lookup T (.map (some r)) (.string s) ok).run P w = .ok (if ok then .tuple #[v, .bool true] else v) w := by
  have hc : ∀ e, (Instr.checkKey e 10000 kt (.string s)).run P w = .ok () w := fun e => MapKept.run_checkKey (k := .string s) hk (by simp [MapKept.IsKey]) e 9999
  simp [Instr.lookup, run_underlying hT, MapKept.run_getObj_map hb, hc, MapKept.run_findKey hk hf, Result.andThen]
theorem run_look_miss {P : Program} {w : World} (T kt et : TypeId) (hT : P.underlying T = some (.map kt et)) (hk : P.underlying kt = some .string) {r clock : Nat} {es : Array MapEntry} (hb : w.heap[r]? = some (.map es clock)) (s : ByteArray) (z : Value)
    (hz : (zeroValue et).run P w = .ok z w) (hf : Instr.findNow .string (.string s) es.toList 0 = some none) (ok : Bool) : (Instr.lookup T (.map (some r)) (.string s) ok).run P w = .ok (if ok then .tuple #[z, .bool false] else z) w := by
  have hc : ∀ e, (Instr.checkKey e 10000 kt (.string s)).run P w = .ok () w := fun e => MapKept.run_checkKey (k := .string s) hk (by simp [MapKept.IsKey]) e 9999
  simp [Instr.lookup, run_underlying hT, MapKept.run_getObj_map hb, hc, MapKept.run_findKey hk hf, hz, Result.andThen]
theorem run_look_nil {P : Program} {w : World} (T kt et : TypeId) (hT : P.underlying T = some (.map kt et)) (hk : P.underlying kt = some .string) (s : ByteArray) (z : Value)
    (hz : (zeroValue et).run P w = .ok z w) (ok : Bool) : (Instr.lookup T (.map none) (.string s) ok).run P w = .ok (if ok then .tuple #[z, .bool false] else z) w := by
  have hc : ∀ e, (Instr.checkKey e 10000 kt (.string s)).run P w = .ok () w := fun e => MapKept.run_checkKey (k := .string s) hk (by simp [MapKept.IsKey]) e 9999
  have hf : Instr.findNow .string (.string s) ([] : List MapEntry) 0 = some none := rfl
  simp [Instr.lookup, run_underlying hT, hc, MapKept.run_findKey hk hf, hz, Result.andThen]
theorem run_store_miss {P : Program} {w : World} (T kt et : TypeId) (hT : P.underlying T = some (.map kt et)) (hk : P.underlying kt = some .string) {r clock : Nat} {es : Array MapEntry} (hb : w.heap[r]? = some (.map es clock)) (s : ByteArray) (v : Value)
    (hf : Instr.findNow .string (.string s) es.toList 0 = some none) : (Instr.mapUpdate T (.map (some r)) (.string s) v).run P w = .ok () (setO w r (.map (es.push { key := .string s, val := v, born := clock }) (clock + 1))) := by
  have hc : (Instr.checkKey false 10000 kt (.string s)).run P w = .ok () w := MapKept.run_checkKey (k := .string s) hk (by simp [MapKept.IsKey]) false 9999
  simp [Instr.mapUpdate, run_underlying hT, MapKept.run_getObj_map hb, hc, MapKept.run_findKey hk hf, MapKept.run_setObj_map _ hb, Result.andThen, setO]

theorem find_in (k : Nat) (hk : k < 3) : Instr.findNow .string (.string (nmOf k)) idx3.toList 0 = some (some (k, .int .i64 (k : Int))) := by
  match k, hk with
  | 0, _ => rfl
  | 1, _ => rfl
  | 2, _ => rfl
/-- A look-up in the index. -/
theorem look_in {w : World} {X : Nat} (h : w.heap[X]? = some (.map idx3 3)) (k : Nat) (hk : k < 3) : (Instr.lookup 49 (.map (some X)) (.string (nmOf k)) true).run Ybaf.prog w = .ok (.tuple #[.int .i64 (k : Int), .bool true]) w :=
  run_look_hit 49 9 3 Ybaf.underlying49 Ybaf.underlying9 h _ _ _ (find_in k hk) true
theorem look_in1 {w : World} {X : Nat} (h : w.heap[X]? = some (.map idx3 3)) (k : Nat) (hk : k < 3) : (Instr.lookup 49 (.map (some X)) (.string (nmOf k)) false).run Ybaf.prog w = .ok (.int .i64 (k : Int)) w :=
  run_look_hit 49 9 3 Ybaf.underlying49 Ybaf.underlying9 h _ _ _ (find_in k hk) false
theorem look_out {w : World} {X : Nat} (h : w.heap[X]? = some (.map idx3 3)) : (Instr.lookup 49 (.map (some X)) (.string Qq) true).run Ybaf.prog w = .ok (.tuple #[.int .i64 0, .bool false]) w :=
  run_look_miss 49 9 3 Ybaf.underlying49 Ybaf.underlying9 h _ (.int .i64 0) (by kernel_rfl) rfl true

end Go.Proofs.YbulkbxpiFmt
