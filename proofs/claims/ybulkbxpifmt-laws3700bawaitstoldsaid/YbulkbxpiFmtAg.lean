/-
  'append(s[:0], x)': one element into a slice with room.
-/
import Derived.Test.YbulkbxpiFmtAp
import Derived.Test.YbulkbxpiFmtCl
namespace Go.Proofs.YbulkbxpiFmt
open Go.RowKit Go.MuLone Go.Stop

theorem clear_zero (W : World) (ty : TypeId) (d : Option Addr) (dc : Nat) : (Builtin.clear_ #[80] ty #[.slice d 0 dc]).run Ybaf.prog W = .ok (.tuple #[]) W := by
  cases d <;> simp [Builtin.clear_, Ybaf.runUnderlying80]

/-- What it leaves. -/
structure AppG (g : Nat) (w w' : World) (e : TypeId) (g' cap' : Nat) : Prop where
  one : 1 ≤ cap'
  heap : ∃ cur, w'.heap[g']? = some (.cells cur e)
  at' : g' = g ∨ g' = w.heap.size
  kp : Kp [g] w w'

theorem run_appg {P : Program} (w : World) (t ty e : TypeId) (i : TypeInfo) (z : Value) (size bytes : Nat) (ht : P.underlying t = some (.slice e)) (hi : P.info? e = some i) (hz : i.zero = some z)
    (hsize : i.size = size) (hby : i.bytes = bytes) (hzs : z.cells.size = size) (hsz : 0 < size) (hbytes : bytes ≤ 140737488355328)
    (g cap : Nat) (cur : Array Value) (hg : w.heap[g]? = some (.cells cur e)) (hcap : cap ≤ maxLen) (hlen : cur.size = cap * size)
    (b c : Nat) (cs : Array Value) (te : TypeId) (f : Nat × Nat) (hb : w.heap[b]? = some (.cells cs te f)) (hcs : cs.size = size) (h1 : ∀ u ∈ cs.toList, u.oneCell' = true) :
    ∃ g' cap' w', (Builtin.append_ #[t, t] ty #[.slice (some ⟨g, 0, none⟩) 0 cap, .slice (some ⟨b, 0, none⟩) 1 c]).run P w = .ok (.slice (some ⟨g', 0, none⟩) 1 cap') w' ∧ AppG g w w' e g' cap' := by
  obtain ⟨v', w', hr, hown, hgrow, hnil, hloc⟩ := run_append_own_at (P := P) (w := w) 0 t ty e i z size bytes ht hi hz hsize hby hzs hsz (.slice (some ⟨g, 0, none⟩) 0 cap) 0 [] ⟨by simp, .inr ⟨g, cap, cur, rfl, Nat.zero_le _, hg, Nat.zero_le _, hcap, hlen, by simp⟩⟩ ⟨b, 0, none⟩ 1 c cs.toList (by simp [hcs])
    (fun j u hj => by
      have : (⟨b, 0, none⟩ : Addr).add j = ⟨b, j, none⟩ := by unfold Addr.add; split <;> simp_all
      rw [this]
      exact cell_at hb (by simpa using hj)) h1 (by decide) (by omega) (Nat.zero_le _)
  rcases hown.2 with ⟨h', _⟩ | ⟨g', cap', cur', rfl, _, hg', h2, h3, h4, h5⟩
  · exact absurd (hnil.1 h') (by simp)
  · refine ⟨g', cap', w', by simpa using hr, by omega, ⟨cur', hg'⟩, ?_, ⟨hgrow.os, hgrow.tape, hgrow.output, hgrow.size, fun k hk hn => hgrow.block k hk (by simp [Value.ownBlock]; simp at hn; exact hn)⟩⟩
    rcases hloc with h | h
    · left; simpa [Value.ownBlock] using h
    · right; simpa [Value.ownBlock] using h

section
variable {P : Program} {w : World} {ops : Array Oper} {rest : List Oper} {o : Oper} {a : Act} {K : Act → World → Prop} {Q : Exit → Act → World → Prop}

theorem wpList_appg (hgd : o.guard = none) (s x : Operand) (t : TypeId) (ho : o.op = .call { callee := .builtin .append, args := #[s, x], argTypes := #[t, t] })
    (e : TypeId) (i : TypeInfo) (z : Value) (size bytes : Nat) (ht : P.underlying t = some (.slice e)) (hi : P.info? e = some i) (hz : i.zero = some z)
    (hsize : i.size = size) (hby : i.bytes = bytes) (hzs : z.cells.size = size) (hsz : 0 < size) (hbytes : bytes ≤ 140737488355328)
    (g cap : Nat) (cur : Array Value) (hs : a.eval s = .slice (some ⟨g, 0, none⟩) 0 cap) (hg : w.heap[g]? = some (.cells cur e)) (hcap : cap ≤ maxLen) (hlen : cur.size = cap * size)
    (b c : Nat) (cs : Array Value) (te : TypeId) (f : Nat × Nat) (hx : a.eval x = .slice (some ⟨b, 0, none⟩) 1 c) (hb : w.heap[b]? = some (.cells cs te f)) (hcs : cs.size = size) (h1 : ∀ u ∈ cs.toList, u.oneCell' = true)
    (h : ∀ g' cap' w', AppG g w w' e g' cap' → wpList P ops Q rest (a.put o.dst (.slice (some ⟨g', 0, none⟩) 1 cap')) w') : wpList P ops Q (o :: rest) a w :=
  wpList_plain hgd fun _ hK => by
    obtain ⟨g', cap', w', hr, happ⟩ := run_appg (P := P) w t o.type e i z size bytes ht hi hz hsize hby hzs hsz hbytes g cap cur hg hcap hlen b c cs te f hb hcs h1
    unfold Oper.wp execOp
    simp only [ho, resolve, invoke, builtin, Sem.run_bind, Sem.run_pure, Result.andThen_ok, List.map_toArray, List.map_cons, List.map_nil, hs, hx, hr]
    exact hK _ _ (h g' cap' w' happ)
end

end Go.Proofs.YbulkbxpiFmt
