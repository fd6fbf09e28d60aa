/-
  'append(nil, x)': one element of whatever number of cells, behind a nil slice.
-/
import Derived.Test.YbulkbxpiFmtSd
import Derived.Maps.AppendAt
import Derived.Deep.RegionLaw
namespace Go.Proofs.YbulkbxpiFmt
open Go.RowKit Go.MuLone Go.Stop

/-- What 'append(nil, x)' leaves: a new block that begins with x's cells. -/
structure App1 (w w' : World) (e : TypeId) (size cap : Nat) (cs cur : Array Value) : Prop where
  one : 1 ≤ cap
  max : cap ≤ maxLen
  heap : w'.heap[w.heap.size]? = some (.cells cur e)
  len : cur.size = cap * size
  cells : ∀ j, j < size → cur[j]? = cs[j]?
  kp : Kp [] w w'

theorem run_app1 {P : Program} (w : World) (t ty e : TypeId) (i : TypeInfo) (z : Value) (size bytes : Nat) (ht : P.underlying t = some (.slice e)) (hi : P.info? e = some i) (hz : i.zero = some z)
    (hsize : i.size = size) (hby : i.bytes = bytes) (hzs : z.cells.size = size) (hsz : 0 < size) (hbytes : bytes ≤ 140737488355328)
    (b c : Nat) (cs : Array Value) (te : TypeId) (f : Nat × Nat) (hb : w.heap[b]? = some (.cells cs te f)) (hcs : cs.size = size) (h1 : ∀ u ∈ cs.toList, u.oneCell' = true) :
    ∃ cap cur w', (Builtin.append_ #[t, t] ty #[.slice none 0 0, .slice (some ⟨b, 0, none⟩) 1 c]).run P w = .ok (.slice (some ⟨w.heap.size, 0, none⟩) 1 cap) w' ∧ App1 w w' e size cap cs cur := by
  obtain ⟨v', w', hr, hown, hgrow, hnil, hloc⟩ := run_append_own_at (P := P) (w := w) 0 t ty e i z size bytes ht hi hz hsize hby hzs hsz (.slice none 0 0) 0 [] ⟨by simp, .inl ⟨rfl, rfl⟩⟩ ⟨b, 0, none⟩ 1 c cs.toList (by simp [hcs])
    (fun j u hj => by
      have : (⟨b, 0, none⟩ : Addr).add j = ⟨b, j, none⟩ := by unfold Addr.add; split <;> simp_all
      rw [this]
      exact cell_at hb (by simpa using hj)) h1 (by decide) (by omega) (Nat.zero_le _)
  rcases hown.2 with ⟨h', _⟩ | ⟨g, cap, cur, rfl, _, hg, h2, h3, h4, h5⟩
  · exact absurd (hnil.1 h') (by simp)
  · have hgw : g = w.heap.size := by
      rcases hloc with h | h
      · simp [Value.ownBlock] at h
      · simpa [Value.ownBlock] using h
    subst hgw
    refine ⟨cap, cur, w', by simpa using hr, by omega, h3, hg, h4, fun j hj => ?_, ⟨hgrow.os, hgrow.tape, hgrow.output, hgrow.size, fun k hk _ => hgrow.block k hk (by simp [Value.ownBlock])⟩⟩
    have : (cur.toList.take (1 * size))[j]? = cs.toList[j]? := by
      simp only [Nat.zero_add] at h5
      rw [h5]; simp
    rw [List.getElem?_take_of_lt (by omega)] at this
    simpa using this

section
variable {P : Program} {w : World} {ops : Array Oper} {rest : List Oper} {o : Oper} {a : Act} {K : Act → World → Prop} {Q : Exit → Act → World → Prop}

theorem wp_app1 (s x : Operand) (t : TypeId) (ho : o.op = .call { callee := .builtin .append, args := #[s, x], argTypes := #[t, t] })
    (e : TypeId) (i : TypeInfo) (z : Value) (size bytes : Nat) (ht : P.underlying t = some (.slice e)) (hi : P.info? e = some i) (hz : i.zero = some z)
    (hsize : i.size = size) (hby : i.bytes = bytes) (hzs : z.cells.size = size) (hsz : 0 < size) (hbytes : bytes ≤ 140737488355328)
    (hs : a.eval s = .slice none 0 0) (b c : Nat) (cs : Array Value) (te : TypeId) (f : Nat × Nat) (hx : a.eval x = .slice (some ⟨b, 0, none⟩) 1 c) (hb : w.heap[b]? = some (.cells cs te f)) (hcs : cs.size = size) (h1 : ∀ u ∈ cs.toList, u.oneCell' = true)
    (h : ∀ cap cur w', App1 w w' e size cap cs cur → K (a.put o.dst (.slice (some ⟨w.heap.size, 0, none⟩) 1 cap)) w') : Oper.wp P o a w K Q := by
  obtain ⟨cap, cur, w', hr, happ⟩ := run_app1 (P := P) w t o.type e i z size bytes ht hi hz hsize hby hzs hsz hbytes b c cs te f hb hcs h1
  unfold Oper.wp execOp
  simp only [ho, resolve, invoke, builtin, Sem.run_bind, Sem.run_pure, Result.andThen_ok, List.map_toArray, List.map_cons, List.map_nil, hs, hx, hr]
  exact h cap cur w' happ

theorem wpList_app1 (hgd : o.guard = none) (s x : Operand) (t : TypeId) (ho : o.op = .call { callee := .builtin .append, args := #[s, x], argTypes := #[t, t] })
    (e : TypeId) (i : TypeInfo) (z : Value) (size bytes : Nat) (ht : P.underlying t = some (.slice e)) (hi : P.info? e = some i) (hz : i.zero = some z)
    (hsize : i.size = size) (hby : i.bytes = bytes) (hzs : z.cells.size = size) (hsz : 0 < size) (hbytes : bytes ≤ 140737488355328)
    (hs : a.eval s = .slice none 0 0) (b c : Nat) (cs : Array Value) (te : TypeId) (f : Nat × Nat) (hx : a.eval x = .slice (some ⟨b, 0, none⟩) 1 c) (hb : w.heap[b]? = some (.cells cs te f)) (hcs : cs.size = size) (h1 : ∀ u ∈ cs.toList, u.oneCell' = true)
    (h : ∀ cap cur w', App1 w w' e size cap cs cur → wpList P ops Q rest (a.put o.dst (.slice (some ⟨w.heap.size, 0, none⟩) 1 cap)) w') : wpList P ops Q (o :: rest) a w :=
  wpList_plain hgd fun _ hK => wp_app1 s x t ho e i z size bytes ht hi hz hsize hby hzs hsz hbytes hs b c cs te f hx hb hcs h1 fun cap cur w' happ => hK _ _ (h cap cur w' happ)

theorem step_app1 {E : Prop} (hgd : o.guard = none) (s x : Operand) (t : TypeId) (ho : o.op = .call { callee := .builtin .append, args := #[s, x], argTypes := #[t, t] })
    (e : TypeId) (i : TypeInfo) (z : Value) (size bytes : Nat) (ht : P.underlying t = some (.slice e)) (hi : P.info? e = some i) (hz : i.zero = some z)
    (hsize : i.size = size) (hby : i.bytes = bytes) (hzs : z.cells.size = size) (hsz : 0 < size) (hbytes : bytes ≤ 140737488355328)
    (hs : a.eval s = .slice none 0 0) (b c : Nat) (cs : Array Value) (te : TypeId) (f : Nat × Nat) (hx : a.eval x = .slice (some ⟨b, 0, none⟩) 1 c) (hb : w.heap[b]? = some (.cells cs te f)) (hcs : cs.size = size) (h1 : ∀ u ∈ cs.toList, u.oneCell' = true)
    (h : ∀ cap cur w', App1 w w' e size cap cs cur → K (a.put o.dst (.slice (some ⟨w.heap.size, 0, none⟩) 1 cap)) w') : if Region.wanted o (yielded ops a.tmps) = true then Oper.wp P o a w K Q else E := by
  have hw : Region.wanted o (yielded ops a.tmps) = true := by simp [Region.wanted, hgd]
  rw [if_pos hw]
  exact wp_app1 s x t ho e i z size bytes ht hi hz hsize hby hzs hsz hbytes hs b c cs te f hx hb hcs h1 h
end

theorem Ybaf.info111 : (Ybaf.prog.info? 111).map (fun i => (i.zero, i.size, i.bytes)) = some (some (.agg #[.int .u64 0, .string ⟨#[]⟩, .int .u64 0, .string ⟨#[]⟩, .bool false, .slice none 0 0, .int .i64 0]), 7, 88) := by kernel_rfl
theorem Ybaf.info79 : (Ybaf.prog.info? 79).map (fun i => (i.zero, i.size, i.bytes)) = some (some (.agg #[.string ⟨#[]⟩, .int .u64 0, .string ⟨#[]⟩, .slice none 0 0, .int .u64 0, .string ⟨#[]⟩, .int .u64 0, .string ⟨#[]⟩, .slice none 0 0, .map none]), 10, 144) := by kernel_rfl
theorem Ybaf.info34 : (Ybaf.prog.info? 34).map (fun i => (i.zero, i.size, i.bytes)) = some (some (.agg #[.int .u64 0, .string ⟨#[]⟩]), 2, 24) := by kernel_rfl

set_option maxRecDepth 100000 in
theorem search_0 (f : Value) (w : World) : Calls Ybaf.prog 42 #[.int .i64 0, f] w fun e w' => e = .returned (.int .i64 0) ∧ w' = w := by
  go_enter Ybaf.func42, Ybaf.ntmps42
  go_wp2
  refine wp_loop_rounds 1 ?_
  rw [rounds_succ]
  go_wp2
  go_ret
  exact ⟨rfl, rfl⟩

end Go.Proofs.YbulkbxpiFmt
