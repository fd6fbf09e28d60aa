/-
  Law B's road: zzs3698bbuild: facts beside the walk.
-/
import Derived.Test.YbulkbxogBh
namespace Go.Proofs.Ybulkbxog
open Go.RowKit Go.Sort

theorem compact_lt (zs : List Int) (h : zs.Pairwise (· ≤ ·)) : (Lib.compact zs).Pairwise (· < ·) := by
  unfold Lib.compact Lib.compactUpTo
  rw [List.pairwise_map]
  have hm : ∀ i j, i ≤ j → j < zs.length → zs.toArray[i]! ≤ zs.toArray[j]! := by
    intro i j hij hj
    rcases Nat.lt_or_eq_of_le hij with e | e
    · have := List.pairwise_iff_getElem.1 h i j (by omega) hj e
      simpa [Array.getElem!_eq_getD, Array.getD, show i < zs.length by omega, hj] using this
    · subst e; exact Int.le_refl _
  have hr : (List.range zs.length).Pairwise (fun i j => Lib.keeps zs.toArray j = true → zs.toArray[i]! < zs.toArray[j]!) := by
    refine List.pairwise_iff_getElem.2 fun i j hi hj hij hk => ?_
    simp only [List.getElem_range] at hk ⊢
    simp only [List.length_range] at hi hj
    have h1 := hm i (j - 1) (by omega) (by omega)
    have h2 := hm (j - 1) j (by omega) hj
    have h3 : zs.toArray[j]! ≠ zs.toArray[j - 1]! := by
      intro e
      rw [Lib.keeps_neg (by omega) e] at hk
      cases hk
    omega
  exact (hr.filter _).imp_of_mem fun _ hb hab => hab (List.mem_filter.1 hb).2

theorem Yba.built57 (g S : Nat) : (Yba.prog.built 57 [(1, .slice (some ⟨g, 0, none⟩) S S)]).map (fun z => (z[2]?, z[40]?)) = some (some (.slice (some ⟨g, 0, none⟩) S S), some (.int .i64 0)) := by
  kernel_rfl

theorem Fr.below {g B : Nat} {w w' : World} (h : Fr g w w') (hg : B ≤ g) : Below B w w' :=
  ⟨h.os, h.tape, h.output, Nat.le_of_eq h.size.symm, fun k hk => h.block k (by omega)⟩

/-- Of the blocks of w all but g are as they were. -/
structure Ot (g : Nat) (w w' : World) : Prop where
  os : w'.os = w.os
  tape : w'.tape = w.tape
  output : w'.output = w.output
  size : w.heap.size ≤ w'.heap.size
  block : ∀ k, k < w.heap.size → k ≠ g → w'.heap[k]? = w.heap[k]?

theorem Ot.below {g B : Nat} {w w' : World} (h : Ot g w w') (hg : B ≤ g) (hB : B ≤ w.heap.size) : Below B w w' :=
  ⟨h.os, h.tape, h.output, h.size, fun k hk => h.block k (by omega) (by omega)⟩
theorem Ot.trans {g : Nat} {x y z : World} (h : Ot g x y) (k : Ot g y z) : Ot g x z :=
  ⟨k.os.trans h.os, k.tape.trans h.tape, k.output.trans h.output, Nat.le_trans h.size k.size, fun i hi hg => (k.block i (Nat.lt_of_lt_of_le hi h.size) hg).trans (h.block i hi hg)⟩

theorem heap_putRow_other {α : Type} [Inhabited α] (enc : α → Value) (w : World) (g o : Nat) (d : Array α) (k : Nat) (h : k ≠ g) : (putRow enc w g o d).heap[k]? = w.heap[k]? := by
  unfold putRow mapBlock
  simp only [Array.getElem?_modify]
  rw [if_neg (fun e => h e.symm)]

theorem Ot.put {g o n : Nat} (w : World) (d : Array Int) : Ot g w (putRow (Value.int .i64) (Sort.ahead w n) g o d) :=
  ⟨rfl, rfl, rfl, by simp, fun k _ hg => heap_putRow_other _ _ _ _ _ _ hg⟩

theorem Ot.grow {g : Nat} (w : World) (os : Array Obj) : Ot g w (Sort.grow w os) :=
  ⟨rfl, rfl, rfl, by simp, fun k hk _ => heap_grow_old w os hk⟩

theorem holds_of_owns {w : World} {g cp : Nat} {zs : List Int} (h : w.ownsRow 0 3 1 (.slice (some ⟨g, 0, none⟩) zs.length cp) zs.length (zs.map (Value.int .i64))) : Holds (Value.int .i64) w g 0 zs.toArray := by
  intro j hj
  have hj' : j < zs.length := by simpa using hj
  rw [Nat.zero_add]
  refine ⟨?_, h.frozenAt j⟩
  rw [h.cellAt j (by omega)]
  simp [hj']

theorem row_of_holds {w : World} {g : Nat} {zs : List Int} (h : Holds (Value.int .i64) w g 0 zs.toArray) (m : Nat) : IRow w .i64 (some ⟨g, 0, none⟩) (zs.take m) := by
  intro j x hj
  rw [List.getElem?_take] at hj
  split at hj
  · obtain ⟨hl, rfl⟩ := List.getElem?_eq_some_iff.1 hj
    refine ⟨g, 0, rfl, ?_⟩
    rw [(h j (by simpa using hl)).1]
    simp [hl]
  · cases hj

end Go.Proofs.Ybulkbxog
