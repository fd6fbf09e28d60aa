/-
  Memory lemmas for this seat: a slice of integers that reads as a list ('IRow'), and 'append' onto a slice that the call owns, from whatever source.
-/
import Derived.Test.YbulkbxogRows
import Derived.WalkKit
import Derived.WalkSpells
import Derived.WalkLawsBesides
import Derived.Maps.AppendAt
import Derived.Deep.OwnRows
namespace Go.Proofs.Ybulkbxog
open Go.RowKit

theorem ret_bool {a b : Bool} (h : a = b) : Ending.returned (.bool a) = .returned (.bool b) := by rw [h]

/-- The slice whose address is ao reads as xs. -/
def IRow (w : World) (k : IntKind) (ao : Option Addr) (xs : List Int) : Prop :=
  ∀ j x, xs[j]? = some x → ∃ g o, ao = some ⟨g, o, none⟩ ∧ w.cell? ⟨g, o + j, none⟩ = some (.int k x)

def blk : Option Addr → Option Nat
  | some a => some a.block
  | none => none

theorem ownBlock_slice (ao : Option Addr) (n c : Nat) : (Value.slice ao n c).ownBlock = blk ao := by cases ao <;> rfl

theorem IRow.nil (w : World) (k : IntKind) (ao : Option Addr) : IRow w k ao [] := fun j x h => by simp at h

theorem IRow.at {w : World} {k : IntKind} {ao : Option Addr} {xs : List Int} (h : IRow w k ao xs) (hne : 0 < xs.length) :
    ∃ g o, ao = some ⟨g, o, none⟩ ∧ ∀ j, j < xs.length → w.cell? ⟨g, o + j, none⟩ = some (.int k (xs[j]?.getD 0)) := by
  obtain ⟨g, o, hao, _⟩ := h 0 xs[0] (by simp)
  refine ⟨g, o, hao, fun j hj => ?_⟩
  obtain ⟨g', o', hao', hc⟩ := h j xs[j] (by simp)
  rw [hao] at hao'
  simp at hao'
  obtain ⟨rfl, rfl⟩ := hao'
  rw [hc]; simp [hj]

theorem IRow.mk {w : World} {k : IntKind} {g o : Nat} {xs : List Int} (h : ∀ j, j < xs.length → w.cell? ⟨g, o + j, none⟩ = some (.int k (xs[j]?.getD 0))) : IRow w k (some ⟨g, o, none⟩) xs := by
  intro j x hj
  have hlt : j < xs.length := (List.getElem?_eq_some_iff.1 hj).1
  exact ⟨g, o, rfl, by rw [h j hlt, hj]; rfl⟩

theorem IRow.kept {w w' : World} {row : Option Nat} {k : IntKind} {ao : Option Addr} {xs : List Int} (h : IRow w k ao xs) (hg : w.grownBy w' row) (hne : blk ao = none ∨ blk ao ≠ row) : IRow w' k ao xs := by
  intro j x hj
  obtain ⟨g, o, rfl, hc⟩ := h j x hj
  refine ⟨g, o, rfl, hg.cell hc ?_⟩
  rcases hne with hne | hne
  · simp [blk] at hne
  · simpa [blk] using hne

theorem IRow.below {w w' : World} {k : IntKind} {ao : Option Addr} {xs : List Int} (h : IRow w k ao xs) (hb : Below w.heap.size w w') : IRow w' k ao xs := by
  intro j x hj
  obtain ⟨g, o, rfl, hc⟩ := h j x hj
  exact ⟨g, o, rfl, (hb.cell (World.block_lt_of_cell? w _ hc)).trans hc⟩

theorem IRow.belowB {w w' : World} {B : Nat} {k : IntKind} {ao : Option Addr} {xs : List Int} (h : IRow w k ao xs) (hb : Below B w w') (hB : ∀ g, blk ao = some g → g < B) : IRow w' k ao xs := by
  intro j x hj
  obtain ⟨g, o, rfl, hc⟩ := h j x hj
  exact ⟨g, o, rfl, (hb.cell (hB g rfl)).trans hc⟩

theorem IRow.drew {w : World} {k : IntKind} {ao : Option Addr} {xs : List Int} (h : IRow w k ao xs) : IRow w.drew k ao xs := h

theorem IRow.alloc {w : World} {k : IntKind} {ao : Option Addr} {xs : List Int} (h : IRow w k ao xs) (o : Obj) : IRow (w.alloc o) k ao xs :=
  h.kept (World.grownBy_alloc w o none) (by cases hv : blk ao <;> simp)

theorem IRow.ofOwns {w : World} {base n cap : Nat} {e : TypeId} {k : IntKind} {ao : Option Addr} {xs : List Int} (h : w.ownsRow base e 1 (.slice ao n cap) n (xs.map (Value.int k))) : IRow w k ao xs := by
  intro j x hj
  rcases h.2 with ⟨h', h0⟩ | ⟨g, cap', cur, h', _⟩
  · have := h.1
    have hx : xs = [] := List.eq_nil_of_length_eq_zero (by simpa [h0] using this)
    subst hx; simp at hj
  · simp at h'
    obtain ⟨rfl, rfl⟩ := h'
    refine ⟨g, 0, rfl, ?_⟩
    have hlt : j < xs.length := (List.getElem?_eq_some_iff.1 hj).1
    have hn : xs.length = n := by simpa using h.1
    rw [Nat.zero_add, h.cellAt j (by omega)]
    simp [hj]

theorem IRow.news {w : World} {k : IntKind} {ao : Option Addr} {xs : List Int} (h : IRow w k ao xs) : ∀ ad, ao = some ad → ∀ j u, (xs.map (Value.int k))[j]? = some u → w.cell? (ad.add j) = some u := by
  intro ad had j u hu
  simp only [List.getElem?_map, Option.map_eq_some_iff] at hu
  obtain ⟨x, hx, rfl⟩ := hu
  obtain ⟨g, o, hao, hc⟩ := h j x hx
  rw [had] at hao
  obtain rfl := Option.some.inj hao
  rw [Addr.add_lit]; exact hc

/-- A part of it: 'all[lo:hi]'. -/
theorem IRow.sub {w : World} {k : IntKind} {g o : Nat} {xs : List Int} (h : IRow w k (some ⟨g, o, none⟩) xs) (lo m : Nat) : IRow w k (some ⟨g, o + lo, none⟩) ((xs.drop lo).take m) := by
  intro j x hj
  rw [List.getElem?_take] at hj
  split at hj
  · rw [List.getElem?_drop] at hj
    obtain ⟨g', o', hao, hc⟩ := h _ _ hj
    simp at hao
    obtain ⟨rfl, rfl⟩ := hao
    exact ⟨g, o + lo, rfl, by rw [Nat.add_assoc]; exact hc⟩
  · cases hj

section
variable {P : Program} (w : World)

/-- 'append(v, src...)': v the call's own, src whatever slice of integers: the new value written out; where it lies. -/
theorem run_app (base : Nat) (t ty e : TypeId) (i : TypeInfo) (z : Value) (bytes : Nat) (ht : P.underlying t = some (.slice e)) (hi : P.info? e = some i) (hz : i.zero = some z)
    (hsize : i.size = 1) (hby : i.bytes = bytes) (hzs : z.cells.size = 1) (k : IntKind)
    (v : Value) (n : Nat) (xs : List Int) (hown : w.ownsRow base e 1 v n (xs.map (Value.int k)))
    (ao : Option Addr) (m c : Nat) (ys : List Int) (hm : ys.length = m) (hsrc : IRow w k ao ys) (hnil : ao = none → c = 0)
    (h63 : n + m ≤ maxLen) (hbytes : (n + m) * bytes ≤ 140737488355328) (hbase : base ≤ w.heap.size) :
    ∃ ao' cap' w', (Builtin.append_ #[t, t] ty #[v, .slice ao m c]).run P w = .ok (.slice ao' (n + m) cap') w' ∧ w'.ownsRow base e 1 (.slice ao' (n + m) cap') (n + m) ((xs ++ ys).map (Value.int k)) ∧
      w.grownBy w' v.ownBlock ∧ (blk ao' = v.ownBlock ∨ blk ao' = some w.heap.size) ∧ (ao' = none → cap' = 0 ∧ v = .slice none 0 0) := by
  cases ao with
  | none =>
    have hy : ys = [] := by
      cases ys with
      | nil => rfl
      | cons y ys => obtain ⟨g, o, h, _⟩ := hsrc 0 y (by simp); cases h
    subst hy
    simp at hm
    subst hm
    obtain rfl := hnil rfl
    have hr := run_append_owned_none (P := P) w base t ty e i 1 ht hi v n _ hown
    rcases hown.2 with ⟨rfl, rfl⟩ | ⟨g, cap, cur, rfl, hb, rest⟩
    · exact ⟨none, 0, w, hr, by simpa using hown, ⟨rfl, rfl, rfl, Nat.le_refl _, fun _ _ _ => rfl⟩, Or.inl rfl, fun _ => ⟨rfl, rfl⟩⟩
    · exact ⟨_, cap, w, hr, by simpa using hown, ⟨rfl, rfl, rfl, Nat.le_refl _, fun _ _ _ => rfl⟩, Or.inl rfl, fun h => by cases h⟩
  | some ad =>
    obtain ⟨v', w', hr, h2, h3, h4, h5⟩ := run_append_own_at (P := P) w base t ty e i z 1 bytes ht hi hz hsize hby hzs (by decide) v n _ hown ad m c (ys.map (Value.int k)) (by simp [hm]) (hsrc.news ad rfl) (ints_oneCell k ys) h63 hbytes hbase
    rw [← List.map_append] at h2
    rcases h2.2 with ⟨rfl, h0⟩ | ⟨g, cap, cur, rfl, _⟩
    · refine ⟨none, 0, w', by rw [h0]; exact hr, by rw [h0] at h2 ⊢; exact h2, h3, h5, fun _ => ⟨rfl, (h4.1 rfl).1⟩⟩
    · exact ⟨_, cap, w', hr, h2, h3, h5, fun h => by cases h⟩

theorem wp_app {o : Oper} {a : Act} {K : Act → World → Prop} {Q : Exit → Act → World → Prop} (s x : Operand) (t : TypeId)
    (ho : o.op = .call { callee := .builtin .append, args := #[s, x], argTypes := #[t, t] })
    (base : Nat) (e : TypeId) (i : TypeInfo) (z : Value) (bytes : Nat) (ht : P.underlying t = some (.slice e)) (hi : P.info? e = some i) (hz : i.zero = some z)
    (hsize : i.size = 1) (hby : i.bytes = bytes) (hzs : z.cells.size = 1) (k : IntKind)
    (v : Value) (n : Nat) (xs : List Int) (hs : a.eval s = v) (hown : w.ownsRow base e 1 v n (xs.map (Value.int k)))
    (ao : Option Addr) (m c : Nat) (ys : List Int) (hx : a.eval x = .slice ao m c) (hm : ys.length = m) (hsrc : IRow w k ao ys) (hnil : ao = none → c = 0)
    (h63 : n + m ≤ maxLen) (hbytes : (n + m) * bytes ≤ 140737488355328) (hbase : base ≤ w.heap.size)
    (h : ∀ ao' cap' w', w'.ownsRow base e 1 (.slice ao' (n + m) cap') (n + m) ((xs ++ ys).map (Value.int k)) → w.grownBy w' v.ownBlock → (blk ao' = v.ownBlock ∨ blk ao' = some w.heap.size) → (ao' = none → cap' = 0 ∧ v = .slice none 0 0) → K (a.put o.dst (.slice ao' (n + m) cap')) w') : o.wp P a w K Q := by
  obtain ⟨ao', cap', w', hr, h2, h3, h4, h5⟩ := run_app (P := P) w base t o.type e i z bytes ht hi hz hsize hby hzs k v n xs hown ao m c ys hm hsrc hnil h63 hbytes hbase
  unfold Oper.wp execOp
  simp only [ho, resolve, invoke, builtin, Sem.run_bind, Sem.run_pure, Result.andThen_ok, List.map_toArray, List.map_cons, List.map_nil, hs, hx, hr]
  exact h ao' cap' w' h2 h3 h4 h5

theorem wpList_app {ops : Array Oper} {rest : List Oper} {o : Oper} {a : Act} {Q : Exit → Act → World → Prop} (hgd : o.guard = none) (s x : Operand) (t : TypeId)
    (ho : o.op = .call { callee := .builtin .append, args := #[s, x], argTypes := #[t, t] })
    (base : Nat) (e : TypeId) (i : TypeInfo) (z : Value) (bytes : Nat) (ht : P.underlying t = some (.slice e)) (hi : P.info? e = some i) (hz : i.zero = some z)
    (hsize : i.size = 1) (hby : i.bytes = bytes) (hzs : z.cells.size = 1) (k : IntKind)
    (v : Value) (n : Nat) (xs : List Int) (hs : a.eval s = v) (hown : w.ownsRow base e 1 v n (xs.map (Value.int k)))
    (ao : Option Addr) (m c : Nat) (ys : List Int) (hx : a.eval x = .slice ao m c) (hm : ys.length = m) (hsrc : IRow w k ao ys) (hnil : ao = none → c = 0)
    (h63 : n + m ≤ maxLen) (hbytes : (n + m) * bytes ≤ 140737488355328) (hbase : base ≤ w.heap.size)
    (h : ∀ ao' cap' w', w'.ownsRow base e 1 (.slice ao' (n + m) cap') (n + m) ((xs ++ ys).map (Value.int k)) → w.grownBy w' v.ownBlock → (blk ao' = v.ownBlock ∨ blk ao' = some w.heap.size) → (ao' = none → cap' = 0 ∧ v = .slice none 0 0) → wpList P ops Q rest (a.put o.dst (.slice ao' (n + m) cap')) w') : wpList P ops Q (o :: rest) a w :=
  wpList_plain hgd fun _ hK => wp_app w s x t ho base e i z bytes ht hi hz hsize hby hzs k v n xs hs hown ao m c ys hx hm hsrc hnil h63 hbytes hbase fun ao' cap' w' h2 h3 h4 h5 => hK _ _ (h ao' cap' w' h2 h3 h4 h5)

end
end Go.Proofs.Ybulkbxog
