/-
  Law B: the log of what came, in its box; 'append' inside a round.
-/
import Derived.Test.YbulkbxogBm
import Derived.Test.YbulkbxogBn
namespace Go.Proofs.Ybulkbxog
open Go.RowKit Go.Shelf

theorem wpListIn_app {F : Fence} {nn : Nat} {P : Program} (w : World) {ops : Array Oper} {rest : List Oper} {o : Oper} {a : Act} {Q : Exit → Act → World → Prop} (hgd : o.guard = none) (s x : Operand) (t : TypeId)
    (ho : o.op = .call { callee := .builtin .append, args := #[s, x], argTypes := #[t, t] })
    (base : Nat) (e : TypeId) (i : TypeInfo) (z : Value) (bytes : Nat) (ht : P.underlying t = some (.slice e)) (hi : P.info? e = some i) (hz : i.zero = some z)
    (hsize : i.size = 1) (hby : i.bytes = bytes) (hzs : z.cells.size = 1) (k : IntKind)
    (v : Value) (n : Nat) (xs : List Int) (hs : a.eval s = v) (hown : w.ownsRow base e 1 v n (xs.map (Value.int k)))
    (ao : Option Addr) (m c : Nat) (ys : List Int) (hx : a.eval x = .slice ao m c) (hm : ys.length = m) (hsrc : IRow w k ao ys) (hnil : ao = none → c = 0)
    (h63 : n + m ≤ maxLen) (hbytes : (n + m) * bytes ≤ 140737488355328) (hbase : base ≤ w.heap.size)
    (h : ∀ ao' cap' w', w'.ownsRow base e 1 (.slice ao' (n + m) cap') (n + m) ((xs ++ ys).map (Value.int k)) → w.grownBy w' v.ownBlock → (blk ao' = v.ownBlock ∨ blk ao' = some w.heap.size) → wpListIn F nn P ops Q rest (a.put o.dst (.slice ao' (n + m) cap')) w') : wpListIn F nn P ops Q (o :: rest) a w := by
  obtain ⟨ao', cap', w', hr, h2, h3, h4, _⟩ := run_app (P := P) w base t o.type e i z bytes ht hi hz hsize hby hzs k v n xs hown ao m c ys hm hsrc hnil h63 hbytes hbase
  refine wpListIn_plain hgd fun K hK => ?_
  unfold Oper.wpIn
  refine ⟨by simp [Oper.about, ho, resolve, Target.leads, Sem.run_pure], ?_⟩
  rw [Oper.semAt_plain F _ _ (by rw [ho]; intro c hc'; cases hc')]
  simp [execOp, ho, resolve, invoke, builtin, hs, hx, hr, Result.andThen]
  exact hK _ _ (h ao' cap' w' h2 h3 h4)

/-- Of the blocks below n all but b and g are as they were. -/
structure Kb (n b g : Nat) (w w' : World) : Prop where
  os : w'.os = w.os
  tape : w'.tape = w.tape
  output : w'.output = w.output
  size : w.heap.size ≤ w'.heap.size
  block : ∀ k, k < n → k ≠ b → k ≠ g → w'.heap[k]? = w.heap[k]?

theorem Kb.trans {n b g : Nat} {x y z : World} (h : Kb n b g x y) (k : Kb n b g y z) : Kb n b g x z :=
  ⟨k.os.trans h.os, k.tape.trans h.tape, k.output.trans h.output, Nat.le_trans h.size k.size, fun i hi h1 h2 => (k.block i hi h1 h2).trans (h.block i hi h1 h2)⟩
theorem Kb.mono {n n' b g : Nat} {w w' : World} (h : Kb n b g w w') (hn : n' ≤ n) : Kb n' b g w w' :=
  ⟨h.os, h.tape, h.output, h.size, fun k hk => h.block k (Nat.lt_of_lt_of_le hk hn)⟩
theorem Kb.refl (n b g : Nat) (w : World) : Kb n b g w w := ⟨rfl, rfl, rfl, Nat.le_refl _, fun _ _ _ _ => rfl⟩
theorem Kb.of_below {n b g : Nat} {w w' : World} (h : Below n w w') : Kb n b g w w' := ⟨h.os, h.tape, h.output, h.size, fun k hk _ _ => h.block k hk⟩
theorem Kb.below {n b g m : Nat} {w w' : World} (h : Kb n b g w w') (hm : m ≤ n) (hb : m ≤ b) (hg : m ≤ g) : Below m w w' :=
  ⟨h.os, h.tape, h.output, h.size, fun k hk => h.block k (by omega) (by omega) (by omega)⟩
theorem Kb.cell {n b g : Nat} {w w' : World} (h : Kb n b g w w') {p : Addr} (hp : p.block < n) (hb : p.block ≠ b) (hg : p.block ≠ g) : w'.cell? p = w.cell? p :=
  World.cell?_of_block (w := w) (h.block p.block hp hb hg)

/-- The variable 'got' in its box Bg holds a slice, in block g, that reads as pre. -/
def GotAt (Bg : Nat) (g : Nat) (pre : List Int) (w : World) : Prop :=
  ∃ cp, Boxed w Bg 25 (.slice (some ⟨g, 0, none⟩) pre.length cp) ∧ w.ownsRow 0 3 1 (.slice (some ⟨g, 0, none⟩) pre.length cp) pre.length (pre.map (Value.int .i64))

theorem GotAt.own (Bg g : Nat) : Own (GotAt Bg g) := by
  rintro pre X Y row ⟨cp, hv, hr⟩ hg hrow
  refine ⟨cp, hv.kept hg (fun e' => ?_), hr.kept hg (.inr fun e' => ?_)⟩
  · obtain ⟨o, ho, hc⟩ := hrow Bg e'.symm
    rw [show X.heap[Bg]? = _ from hv] at ho; cases ho; cases hc
  · rcases hr.2 with ⟨h', _⟩ | ⟨g', cap, cur, h', _, hgb, _⟩
    · cases h'
    · simp at h'
      obtain ⟨rfl, rfl⟩ := h'
      obtain ⟨o, ho, hc⟩ := hrow g (by simpa [Value.ownBlock] using e'.symm)
      rw [hgb] at ho; cases ho; cases hc

theorem GotAt.lt {Bg g : Nat} {pre : List Int} {w : World} (h : GotAt Bg g pre w) : Bg < w.heap.size ∧ g < w.heap.size := by
  obtain ⟨cp, hv, hr⟩ := h
  exact ⟨hv.lt, (hr.lt g rfl).2⟩

theorem GotAt.ne {Bg g : Nat} {pre : List Int} {w : World} (h : GotAt Bg g pre w) : Bg ≠ g := by
  obtain ⟨cp, hv, hr⟩ := h
  intro e
  exact hv.not_row (by decide) hr (by rw [e]; rfl)

theorem GotAt.row {Bg g : Nat} {pre : List Int} {w : World} (h : GotAt Bg g pre w) : IRow w .i64 (some ⟨g, 0, none⟩) pre := by
  obtain ⟨cp, hv, hr⟩ := h
  exact IRow.ofOwns hr

/-- Behind the store of the longer slice into the box. -/
theorem GotAt.step {Bg g cp : Nat} {pre : List Int} {w w1 : World} {x : Int} {ao : Option Addr} {cp' : Nat}
    (hv : Boxed w Bg 25 (.slice (some ⟨g, 0, none⟩) pre.length cp)) (hr : w.ownsRow 0 3 1 (.slice (some ⟨g, 0, none⟩) pre.length cp) pre.length (pre.map (Value.int .i64))) {tmp : Obj}
    (hown : w1.ownsRow 0 3 1 (.slice ao (pre.length + 1) cp') (pre.length + 1) ((pre ++ [x]).map (Value.int .i64))) (hgrow : (w.alloc tmp).grownBy w1 (some g))
    (hat : blk ao = some g ∨ blk ao = some (w.heap.size + 1)) :
    Boxed w1 Bg 25 (.slice (some ⟨g, 0, none⟩) pre.length cp) ∧ ∃ g', ao = some ⟨g', 0, none⟩ ∧ GotAt Bg g' (pre ++ [x]) (w1.setCell ⟨Bg, 0, none⟩ (.slice ao (pre.length + 1) cp')) ∧ (g' = g ∨ w.heap.size ≤ g') ∧
      Kb w.heap.size Bg g w (w1.setCell ⟨Bg, 0, none⟩ (.slice ao (pre.length + 1) cp')) ∧ KeepsOthers w (w1.setCell ⟨Bg, 0, none⟩ (.slice ao (pre.length + 1) cp')) := by
  obtain ⟨g', cap', hform⟩ := ownsRow_succ hown
  simp at hform
  obtain ⟨rfl, rfl⟩ := hform
  have hgr2 : (w.alloc tmp).grownBy w1 (Value.slice (some ⟨g, 0, none⟩) pre.length cp).ownBlock := hgrow
  obtain ⟨hv1, hv2, hr2, hk2, hb2⟩ := hv.appended (by decide) hr (Nat.zero_le _) (Nat.zero_le _) hown hgr2
  refine ⟨hv1, g', rfl, ⟨cp', by simpa using hv2, by simpa using hr2⟩, ?_, ?_, hk2⟩
  · rcases hat with h | h
    · left; simpa [blk] using h
    · right
      have : g' = w.heap.size + 1 := by simpa [blk] using h
      omega
  · have hs := hgrow.size
    simp at hs
    refine ⟨?_, ?_, ?_, ?_, ?_⟩
    · exact hgrow.os
    · exact hgrow.tape
    · exact hgrow.output
    · exact hb2.size
    · intro k hk h1 h2
      rw [Below.heap_setCell _ _ _ _ h1, hgrow.block k (by simp; omega) (by simpa using h2)]
      exact Below.heap_alloc _ _ _ hk


/-- Of the blocks below n all but b, g and s are as they were. -/
structure K3 (n b g s : Nat) (w w' : World) : Prop where
  os : w'.os = w.os
  tape : w'.tape = w.tape
  output : w'.output = w.output
  size : w.heap.size ≤ w'.heap.size
  block : ∀ k, k < n → k ≠ b → k ≠ g → k ≠ s → w'.heap[k]? = w.heap[k]?

theorem K3.refl (n b g s : Nat) (w : World) : K3 n b g s w w := ⟨rfl, rfl, rfl, Nat.le_refl _, fun _ _ _ _ _ => rfl⟩
theorem K3.kb {n b g s : Nat} {x y z : World} (h : K3 n b g s x y) (k : Kb n b g y z) : K3 n b g s x z :=
  ⟨k.os.trans h.os, k.tape.trans h.tape, k.output.trans h.output, Nat.le_trans h.size k.size, fun i hi h1 h2 h3 => (k.block i hi h1 h2).trans (h.block i hi h1 h2 h3)⟩
theorem K3.st {n b g s : Nat} {x y z : World} (h : K3 n b g s x y) (k : St s y z) : K3 n b g s x z := by
  obtain ⟨q, rfl | ⟨v, rfl⟩⟩ := k
  · exact ⟨h.os, h.tape, h.output, h.size, h.block⟩
  · exact ⟨h.os, h.tape, h.output, by simpa [World.setCell] using h.size, fun i hi h1 h2 h3 => by rw [Below.heap_setCell _ _ _ _ h3]; exact h.block i hi h1 h2 h3⟩
theorem K3.below {n b g s m : Nat} {w w' : World} (h : K3 n b g s w w') (hm : m ≤ n) (hb : m ≤ b) (hg : m ≤ g) (hs : m ≤ s) : Below m w w' :=
  ⟨h.os, h.tape, h.output, h.size, fun k hk => h.block k (by omega) (by omega) (by omega) (by omega)⟩
theorem K3.cell {n b g s : Nat} {w w' : World} (h : K3 n b g s w w') {p : Addr} (hp : p.block < n) (hb : p.block ≠ b) (hg : p.block ≠ g) (hs : p.block ≠ s) : w'.cell? p = w.cell? p :=
  World.cell?_of_block (w := w) (h.block p.block hp hb hg hs)

theorem k3_own {β : Type} (n2 Bg g0 s : Nat) (w2 : World) (hn : w2.heap.size = n2) : OwnFrom n2 (fun (_ : β) W => K3 n2 Bg g0 s w2 W) := by
  intro _ X Y row hs hg hr
  refine ⟨hg.os.trans hs.os, hg.tape.trans hs.tape, hg.output.trans hs.output, Nat.le_trans hs.size hg.size, fun k hk h1 h2 h3 => (hg.block k (by have := hs.size; omega) (fun e => ?_)).trans (hs.block k hk h1 h2 h3)⟩
  have := (hr k e.symm).1
  omega

theorem ownFrom_exB {β γ : Type} {B : Nat} {I : γ → β → World → Prop} (p : γ → Prop) (h : ∀ g, OwnFrom B (I g)) : OwnFrom B (fun s W => ∃ g, I g s W ∧ p g) :=
  fun s X Y row ⟨g, hs, hp⟩ hg hr => ⟨g, h g s X Y row hs hg hr, hp⟩

theorem below_putObjB {B D : Nat} {w W : World} {o' : Obj} (h : Below B w W) (hD : B ≤ D) : Below B w (W.putObj D o') :=
  h.trans ⟨rfl, rfl, rfl, by simp, fun k hk => World.putObj_heap_other (by omega)⟩

theorem kb_stepB {n Bg g g0 : Nat} {W W' : World} (h : Kb W.heap.size Bg g W W') (hs : n ≤ W.heap.size) (hg : g = g0 ∨ n ≤ g) : Kb n Bg g0 W W' :=
  ⟨h.os, h.tape, h.output, h.size, fun k hk h1 h2 => h.block k (by omega) h1 (by rcases hg with e | e <;> omega)⟩

theorem GotAt.st {Bg g sb : Nat} {pre : List Int} {X Y : World} (h : GotAt Bg g pre X) (k : St sb X Y) (h1 : Bg ≠ sb) (h2 : g ≠ sb) : GotAt Bg g pre Y := by
  obtain ⟨cp, hv, hr⟩ := h
  obtain ⟨q, rfl | ⟨v, rfl⟩⟩ := k
  · exact ⟨cp, hv, hr⟩
  · exact ⟨cp, (Below.heap_setCell _ _ _ _ h1).trans hv, ownsRow_setCell_other (w := X.drewN q) hr (by simp [Value.ownBlock]; exact h2) _⟩

theorem heap5 (w : World) (A B C D E : Obj) : (((((w.alloc A).alloc B).alloc C).alloc D).alloc E).heap[w.heap.size]? = some A ∧ (((((w.alloc A).alloc B).alloc C).alloc D).alloc E).heap[w.heap.size + 1]? = some B ∧
    (((((w.alloc A).alloc B).alloc C).alloc D).alloc E).heap[w.heap.size + 1 + 1]? = some C ∧ (((((w.alloc A).alloc B).alloc C).alloc D).alloc E).heap[w.heap.size + 1 + 1 + 1]? = some D ∧ (((((w.alloc A).alloc B).alloc C).alloc D).alloc E).heap[w.heap.size + 1 + 1 + 2]? = some E := by
  have hn : ∀ (w : World) (o : Obj) (k : Nat), k = w.heap.size → (w.alloc o).heap[k]? = some o := fun w o k h => by subst h; exact World.alloc_heap_new w o
  have hp : ∀ (w : World) (o : Obj) (k : Nat), k < w.heap.size → (w.alloc o).heap[k]? = w.heap[k]? := fun w o k h => Below.heap_alloc _ _ _ h
  refine ⟨?_, ?_, ?_, ?_, ?_⟩
  · rw [hp _ _ _ (by simp <;> omega), hp _ _ _ (by simp <;> omega), hp _ _ _ (by simp <;> omega), hp _ _ _ (by simp), hn _ _ _ rfl]
  · rw [hp _ _ _ (by simp <;> omega), hp _ _ _ (by simp <;> omega), hp _ _ _ (by simp), hn _ _ _ (by simp)]
  · rw [hp _ _ _ (by simp <;> omega), hp _ _ _ (by simp), hn _ _ _ (by simp)]
  · rw [hp _ _ _ (by simp), hn _ _ _ (by simp)]
  · rw [hn _ _ _ (by simp)]

set_option maxRecDepth 100000 in
theorem spansOf_c (pa a1 a2 : Option Addr) (l1 c1 l2 c2 : Nat) (w : World) : Calls Yba.prog 9 #[.pointer pa, .slice a1 l1 c1, .slice a2 l2 c2] w fun e w' => e = .returned (.func (.func 22) #[] #[.pointer (some ⟨w.heap.size + 1, 0, none⟩), .pointer (some ⟨w.heap.size + 2, 0, none⟩), .pointer (some ⟨w.heap.size, 0, none⟩)]) ∧ w' = ((w.alloc (.cells #[.pointer pa] 24)).alloc (.cells #[.slice a1 l1 c1] 25)).alloc (.cells #[.slice a2 l2 c2] 25) := by
  go_enter Yba.func9, Yba.ntmps9
  go_wp2
  go_ret
  exact ⟨rfl, rfl⟩

end Go.Proofs.Ybulkbxog
