/-
  The road's leaves: 'bytes.Equal' at two slices that read alike, and '(*capped).Write'.
-/
import Derived.Test.YbulkbybsMem
import Derived.Laws.BytesArg
import Derived.Deep.QuietTactic
import Derived.BigQuiet
import Derived.Deep.RegionHeld3
import Derived.Deep.RegionLaw
namespace Go.Proofs.Ybulkbybs
open Go.RowKit

theorem Yba.info5 : (Yba.prog.info? 5).map (fun i => (i.zero, i.size, i.bytes)) = some (some (.int .u8 0), 1, 1) := by kernel_rfl

theorem to_string (w : World) (ao : Option Addr) (cap : Nat) (xs : List Int) (h : IRow w .u8 ao xs) : (convert 24 9 (.slice ao xs.length cap)).run Yba.prog w = .ok (.string (strOfNums xs)) w := by
  cases ao with
  | none =>
    have hx : xs = [] := by
      cases xs with
      | nil => rfl
      | cons x xs => obtain ⟨g, o, h', _⟩ := h 0 x (by simp); cases h'
    subst hx
    exact run_convert_bytes_nil w 24 5 Yba.underlying24 Yba.underlying5 0 cap 9 Yba.underlying9
  | some a =>
    by_cases h0 : xs.length = 0
    · have hx : xs = [] := List.eq_nil_of_length_eq_zero h0
      subst hx
      show (convert 24 9 (.slice (some a) 0 cap)).run Yba.prog w = .ok (.string ByteArray.empty) w
      rw [run_convert_bytes_string w 24 9 5 _ 0 cap Yba.underlying24 Yba.underlying5 Yba.underlying9]
      simp [Conv.bytesToString, loadCells]
      rfl
    · obtain ⟨g, o, hao, hc⟩ := h.at (by omega)
      cases hao
      exact run_convert_bytes_arg w 24 5 Yba.underlying24 Yba.underlying5 g o _ cap xs rfl (fun i hi => by rw [hc i hi]; simp [List.getD]) 9 Yba.underlying9

set_option maxRecDepth 100000 in
theorem eq_bytes (w : World) (ao bo : Option Addr) (ca cb : Nat) (xs : List Int) (ha : IRow w .u8 ao xs) (hb : IRow w .u8 bo xs) :
    Calls Yba.prog 6 #[.slice ao xs.length ca, .slice bo xs.length cb] w fun e w' => e = .returned (.bool true) ∧ w' = w := by
  have c1 := to_string w ao ca xs ha
  have c2 := to_string w bo cb xs hb
  go_enter Yba.func6, Yba.ntmps6
  go_wp2
  go_ret
  exact ⟨ret_bool (by simp), rfl⟩

/-- Of the blocks below n all but b and g are as they were. -/
structure Kb (n b g : Nat) (w w' : World) : Prop where
  os : w'.os = w.os
  tape : w'.tape = w.tape
  output : w'.output = w.output
  size : w.heap.size ≤ w'.heap.size
  block : ∀ k, k < n → k ≠ b → k ≠ g → w'.heap[k]? = w.heap[k]?

theorem Kb.trans {n b g : Nat} {x y z : World} (h : Kb n b g x y) (k : Kb n b g y z) : Kb n b g x z :=
  ⟨k.os.trans h.os, k.tape.trans h.tape, k.output.trans h.output, Nat.le_trans h.size k.size, fun i hi h1 h2 => (k.block i hi h1 h2).trans (h.block i hi h1 h2)⟩
theorem Kb.mono {n n' b g : Nat} {w w' : World} (h : Kb n b g w w') (hn : n' ≤ n) : Kb n' b g w w' :=
  ⟨h.os, h.tape, h.output, h.size, fun k hk => h.block k (Nat.lt_of_lt_of_le hk hn)⟩
theorem Kb.refl (n b g : Nat) (w : World) : Kb n b g w w := ⟨rfl, rfl, rfl, Nat.le_refl _, fun _ _ _ _ => rfl⟩
theorem Kb.of_below {n b g : Nat} {w w' : World} (h : Below n w w') : Kb n b g w w' := ⟨h.os, h.tape, h.output, h.size, fun k hk _ _ => h.block k hk⟩
theorem Kb.below {n b g m : Nat} {w w' : World} (h : Kb n b g w w') (hm : m ≤ n) (hb : m ≤ b) (hg : m ≤ g) : Below m w w' :=
  ⟨h.os, h.tape, h.output, h.size, fun k hk => h.block k (by omega) (by omega) (by omega)⟩
theorem Kb.cell {n b g : Nat} {w w' : World} (h : Kb n b g w w') {p : Addr} (hp : p.block < n) (hb : p.block ≠ b) (hg : p.block ≠ g) : w'.cell? p = w.cell? p :=
  World.cell?_of_block (w := w) (h.block p.block hp hb hg)

theorem own_cap {w : World} {n cp : Nat} {e : TypeId} {ao : Option Addr} {xs : List Value} (h : w.ownsRow 0 e 1 (.slice ao n cp) n xs) : n ≤ cp ∧ cp ≤ maxLen := by
  rcases h.2 with ⟨h', h0⟩ | ⟨g, cap, cur, h', _, _, h1, h2, _⟩
  · simp at h'; subst h0; exact ⟨Nat.zero_le _, by rw [h'.2.2]; exact Nat.zero_le _⟩
  · simp at h'; obtain ⟨rfl, rfl⟩ := h'; exact ⟨h1, h2⟩

theorem own_next {w w' : World} {B n m cp cp0 n0 : Nat} {ao ao0 : Option Addr} {xs : List Value} (hown : w'.ownsRow 0 5 1 (.slice ao m cp) n xs) (hat : blk ao = (Value.slice ao0 n0 cp0).ownBlock ∨ blk ao = some w.heap.size) (hB : B ≤ w.heap.size) (h0 : ∀ g, blk ao0 = some g → B ≤ g) :
    ∀ g, blk ao = some g → B ≤ g ∧ g < w'.heap.size := by
  intro g hg
  refine ⟨?_, (hown.lt g (by rw [ownBlock_slice]; exact hg)).2⟩
  rcases hat with h | h
  · exact h0 g (by rw [← ownBlock_slice ao0 n0 cp0, ← h]; exact hg)
  · rw [h] at hg; simp at hg; omega

theorem step_app {P : Program} (w : World) {ops : Array Oper} {o : Oper} {a : Act} {K : Act → World → Prop} {Q : Exit → Act → World → Prop} {E : Prop} (hgd : o.guard = none) (s x : Operand) (t : TypeId)
    (ho : o.op = .call { callee := .builtin .append, args := #[s, x], argTypes := #[t, t] })
    (base : Nat) (e : TypeId) (i : TypeInfo) (z : Value) (bytes : Nat) (ht : P.underlying t = some (.slice e)) (hi : P.info? e = some i) (hz : i.zero = some z)
    (hsize : i.size = 1) (hby : i.bytes = bytes) (hzs : z.cells.size = 1) (k : IntKind)
    (v : Value) (n : Nat) (xs : List Int) (hs : a.eval s = v) (hown : w.ownsRow base e 1 v n (xs.map (Value.int k)))
    (ao : Option Addr) (m c : Nat) (ys : List Int) (hx : a.eval x = .slice ao m c) (hm : ys.length = m) (hsrc : IRow w k ao ys) (hnil : ao = none → c = 0)
    (h63 : n + m ≤ maxLen) (hbytes : (n + m) * bytes ≤ 140737488355328) (hbase : base ≤ w.heap.size)
    (h : ∀ ao' cap' w', w'.ownsRow base e 1 (.slice ao' (n + m) cap') (n + m) ((xs ++ ys).map (Value.int k)) → w.grownBy w' v.ownBlock → (blk ao' = v.ownBlock ∨ blk ao' = some w.heap.size) → (ao' = none → cap' = 0 ∧ v = .slice none 0 0) → K (a.put o.dst (.slice ao' (n + m) cap')) w') :
    if Region.wanted o (yielded ops a.tmps) = true then Oper.wp P o a w K Q else E := by
  have hw : Region.wanted o (yielded ops a.tmps) = true := by simp [Region.wanted, hgd]
  rw [if_pos hw]
  exact wp_app w s x t ho base e i z bytes ht hi hz hsize hby hzs k v n xs hs hown ao m c ys hx hm hsrc hnil h63 hbytes hbase h


/-- A 'capped' at block B: buf reads as xs, the call's own; dropped is d. -/
structure CAt (w : World) (B : Nat) (ao : Option Addr) (cp : Nat) (xs : List Int) (d : Bool) : Prop where
  c0 : w.cell? ⟨B, 0, none⟩ = some (.slice ao xs.length cp)
  c1 : w.cell? ⟨B, 1, none⟩ = some (.bool d)
  f0 : w.frozen? ⟨B, 0, none⟩ = false
  f1 : w.frozen? ⟨B, 1, none⟩ = false
  ne : blk ao ≠ some B
  own : w.ownsRow 0 5 1 (.slice ao xs.length cp) xs.length (xs.map (Value.int .u8))

/-- Behind the append and the store of the longer slice. -/
theorem CAt.step {w w2 : World} {B cp cp2 m g : Nat} {ao ao2 : Option Addr} {xs ys : List Int} {d : Bool} (h : CAt w B ao cp xs d) (hm : ys.length = m) (hg : ∀ k, blk ao = some k → k = g)
    (hown : w2.ownsRow 0 5 1 (.slice ao2 (xs.length + m) cp2) (xs.length + m) ((xs ++ ys).map (Value.int .u8))) (hgrow : w.grownBy w2 (Value.slice ao xs.length cp).ownBlock) (hat : blk ao2 = (Value.slice ao xs.length cp).ownBlock ∨ blk ao2 = some w.heap.size) :
    w2.cell? ⟨B, 0, none⟩ = some (.slice ao xs.length cp) ∧ w2.frozen? ⟨B, 0, none⟩ = false ∧ CAt (w2.setCell ⟨B, 0, none⟩ (.slice ao2 (xs.length + m) cp2)) B ao2 cp2 (xs ++ ys) d ∧
      (blk ao2 = blk ao ∨ ∃ k, blk ao2 = some k ∧ w.heap.size ≤ k) ∧ Kb w.heap.size B g w (w2.setCell ⟨B, 0, none⟩ (.slice ao2 (xs.length + m) cp2)) := by
  subst hm
  obtain ⟨h0, h1, f0, f1, hne, _⟩ := h
  rw [ownBlock_slice] at hgrow hat
  have hB : B < w.heap.size := World.block_lt_of_cell? w _ h0
  have hb : w2.heap[B]? = w.heap[B]? := hgrow.block B hB (fun e => hne e.symm)
  have n2 : blk ao2 ≠ some B := by
    rcases hat with e | e <;> rw [e]
    · exact hne
    · simp; omega
  have p0 : w2.cell? ⟨B, 0, none⟩ = some (.slice ao xs.length cp) := (World.cell?_of_block (w := w) hb).trans h0
  have p1 : w2.cell? ⟨B, 1, none⟩ = some (.bool d) := (World.cell?_of_block (w := w) hb).trans h1
  refine ⟨p0, (World.frozen?_of_block (w := w) hb).trans f0, ⟨?_, ?_, ?_, ?_, n2, ?_⟩, ?_, ?_⟩
  · rw [List.length_append]; exact World.cell?_setCell_same _ _ _ p0
  · exact (World.cell?_setCell_other _ _ _ _ (by simp)).trans p1
  · exact (World.frozen?_setCell _ _ _ _).trans ((World.frozen?_of_block (w := w) hb).trans f0)
  · exact (World.frozen?_setCell _ _ _ _).trans ((World.frozen?_of_block (w := w) hb).trans f1)
  · rw [List.length_append]; exact ownsRow_setCell_other hown (by rw [ownBlock_slice]; exact n2) _
  · rcases hat with e | e
    · exact .inl e
    · exact .inr ⟨_, e, Nat.le_refl _⟩
  · have hs := hgrow.size
    refine ⟨hgrow.os, hgrow.tape, hgrow.output, by simpa [World.setCell] using hs, fun k hk e1 e2 => ?_⟩
    rw [Below.heap_setCell _ _ _ _ e1, hgrow.block k hk (fun e => e2 (hg k e.symm))]

theorem CAt.drop {w : World} {B cp : Nat} {ao : Option Addr} {xs : List Int} {d : Bool} (h : CAt w B ao cp xs d) : CAt (w.setCell ⟨B, 1, none⟩ (.bool true)) B ao cp xs true :=
  ⟨(World.cell?_setCell_other _ _ _ _ (by simp)).trans h.c0, World.cell?_setCell_same _ _ _ h.c1, (World.frozen?_setCell _ _ _ _).trans h.f0, (World.frozen?_setCell _ _ _ _).trans h.f1, h.ne, ownsRow_setCell_other h.own (by rw [ownBlock_slice]; exact h.ne) _⟩

theorem Kb.drop {n B g : Nat} {w w' : World} {v : Value} (h : Kb n B g w w') : Kb n B g w (w'.setCell ⟨B, 1, none⟩ v) :=
  ⟨h.os, h.tape, h.output, by simpa [World.setCell] using h.size, fun k hk e1 e2 => by rw [Below.heap_setCell _ _ _ _ e1]; exact h.block k hk e1 e2⟩

set_option maxRecDepth 100000 in
set_option maxHeartbeats 800000 in
theorem write_c (B c : Nat) (ao ap : Option Addr) (cp : Nat) (xs ys : List Int) (d : Bool) (w : World) (h : CAt w B ao cp xs d) (hx : xs.length ≤ 65536) (_hy : ys.length ≤ 4096) (hp : IRow w .u8 ap ys) (hc : ys.length ≤ c) (_hc2 : c ≤ maxLen) (hnil : ap = none → c = 0) (g : Nat) (hg : ∀ k, blk ao = some k → k = g) :
    Calls Yba.prog 5 #[.pointer (some ⟨B, 0, none⟩), .slice ap ys.length c] w fun e w' => e = .returned (.tuple #[.int .i64 ys.length, .nilIface]) ∧
      ∃ ao' cp', CAt w' B ao' cp' (xs ++ ys.take (65536 - xs.length)) (d || decide (65536 - xs.length < ys.length)) ∧ (blk ao' = blk ao ∨ ∃ k, blk ao' = some k ∧ w.heap.size ≤ k) ∧ Kb w.heap.size B g w w' := by
  obtain ⟨i0, hi0, hz0, hz1, hz2⟩ := info_parts Yba.info5
  have h' := h
  obtain ⟨h0, h1, f0, f1, hne, hown⟩ := h
  unfold maxLen at _hc2
  have hgB : B < w.heap.size := World.block_lt_of_cell? w _ h0
  have q0 : (0 : Int) ≤ (xs.length : Int) := by omega
  by_cases hle : ys.length ≤ 65536 - xs.length
  · have hle' : (ys.length : Int) ≤ 65536 - (xs.length : Int) := by omega
    have q1 : (ys.length : Int) ≤ (c : Int) := by omega
    have q2 : decide ((ys.length : Int) < (ys.length : Int)) = false := by simp
    go_enter Yba.func5, Yba.ntmps5
    go_wp2
    go_region_law
      ((refine step_app _ rfl (.tmp 20) (.tmp 23) 24 rfl 0 5 i0 (.int .u8 0) 1 Yba.underlying24 hi0 hz0 hz1 hz2 rfl .u8 (.slice ao xs.length cp) xs.length xs (by rfl) hown ap ys.length c ys (by simp [Act.eval]) rfl hp hnil (by unfold maxLen; omega) (by omega) (Nat.zero_le _) ?_; intro ao2 cp2 w2 hown2 hgrow2 hat2 _; obtain ⟨p1, p2, hC, hA, hK⟩ := h'.step rfl hg hown2 ⟨hgrow2.os, hgrow2.tape, hgrow2.output, hgrow2.size, hgrow2.block⟩ hat2))
    all_goals (go_wp2; go_ret2; refine ⟨rfl, ao2, cp2, ?_, hA, hK⟩; rw [List.take_of_length_le hle, show decide (65536 - xs.length < ys.length) = false by simp; omega, Bool.or_false]; exact hC)
  · obtain ⟨K, hK0⟩ : ∃ K : Nat, K = 65536 - xs.length := ⟨_, rfl⟩
    rw [← hK0]
    have eK : 65536 - (xs.length : Int) = (K : Int) := by omega
    have q1 : (K : Int) ≤ (c : Int) := by omega
    have q2 : decide ((K : Int) < (ys.length : Int)) = true := by simp; omega
    have q3 : (K : Int) < (ys.length : Int) := by omega
    have hp2 : IRow w .u8 ap (ys.take K) := fun j x hj => hp j x (by rw [List.getElem?_take] at hj; split at hj; exact hj; cases hj)
    have Hm2 : Hid ((ys.take K).length = K) := by show (ys.take K).length = K; simp; omega
    clear hK0
    go_enter Yba.func5, Yba.ntmps5
    go_wp2
    go_region_law
      ((refine step_app _ rfl (.tmp 20) (.tmp 23) 24 rfl 0 5 i0 (.int .u8 0) 1 Yba.underlying24 hi0 hz0 hz1 hz2 rfl .u8 (.slice ao xs.length cp) xs.length xs (by rfl) hown ap K c (ys.take K) (by simp [Act.eval]) Hm2.out hp2 hnil (by unfold maxLen; omega) (by omega) (Nat.zero_le _) ?_; intro ao2 cp2 w2 hown2 hgrow2 hat2 _; obtain ⟨p1, p2, hC, hA, hKb⟩ := h'.step Hm2.out hg hown2 ⟨hgrow2.os, hgrow2.tape, hgrow2.output, hgrow2.size, hgrow2.block⟩ hat2; have p3 := hC.c1; have p4 := hC.f1))
    all_goals (go_wp2; go_ret2; refine ⟨rfl, ao2, cp2, ?_, hA, hKb.drop⟩; rw [show decide (K < ys.length) = true by simp; omega, Bool.or_true]; exact hC.drop)

end Go.Proofs.Ybulkbybs
