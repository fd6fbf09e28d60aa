/-
  What lies in memory: blocks whole; the frame 'Kp': every old block but those listed is as it was.
-/
import Derived.Test.YbulkbxpiFmtErr
import Derived.Test.YbulkbxpiFmtLocks
import Derived.Test.YbulkbxpiFmtIs
import Derived.Conc.MuLone
import Derived.WalkKit
import Derived.WalkSpells
import Derived.WalkLawsBesides
namespace Go.Proofs.YbulkbxpiFmt
open Go.RowKit Go.MuLone

/-- Every block of w but those listed is in w' as it was. -/
structure Kp (bs : List Nat) (w w' : World) : Prop where
  os : w'.os = w.os
  tape : w'.tape = w.tape
  output : w'.output = w.output
  size : w.heap.size ≤ w'.heap.size
  block : ∀ k, k < w.heap.size → k ∉ bs → w'.heap[k]? = w.heap[k]?

theorem Kp.refl (bs : List Nat) (w : World) : Kp bs w w := ⟨rfl, rfl, rfl, Nat.le_refl _, fun _ _ _ => rfl⟩
theorem Kp.trans {bs : List Nat} {x y z : World} (h : Kp bs x y) (k : Kp bs y z) : Kp bs x z :=
  ⟨k.os.trans h.os, k.tape.trans h.tape, k.output.trans h.output, Nat.le_trans h.size k.size, fun i hi hn => (k.block i (Nat.lt_of_lt_of_le hi h.size) hn).trans (h.block i hi hn)⟩
theorem Kp.mono {bs cs : List Nat} {x y : World} (h : Kp bs x y) (hs : ∀ b, b ∈ bs → b ∈ cs) : Kp cs x y :=
  ⟨h.os, h.tape, h.output, h.size, fun i hi hn => h.block i hi (fun e => hn (hs i e))⟩
theorem Kp.below {x y : World} (h : Kp [] x y) : Below x.heap.size x y := ⟨h.os, h.tape, h.output, h.size, fun k hk => h.block k hk (by simp)⟩
theorem Kp.of_below {x y : World} (bs : List Nat) (h : Below x.heap.size x y) : Kp bs x y := ⟨h.os, h.tape, h.output, h.size, fun k hk _ => h.block k hk⟩
theorem Kp.alloc {bs : List Nat} {x y : World} (h : Kp bs x y) (o : Obj) : Kp bs x (y.alloc o) :=
  h.trans ⟨rfl, rfl, rfl, by simp, fun k hk _ => Below.heap_alloc _ _ _ hk⟩
theorem Kp.drew {bs : List Nat} {x y : World} (h : Kp bs x y) : Kp bs x y.drew := ⟨h.os, h.tape, h.output, h.size, h.block⟩
theorem Kp.drewN {bs : List Nat} {x y : World} (h : Kp bs x y) (q : Nat) : Kp bs x (y.drewN q) := ⟨h.os, h.tape, h.output, h.size, h.block⟩
theorem Kp.set {bs : List Nat} {x y : World} (h : Kp bs x y) {a : Addr} (ha : a.block ∈ bs ∨ x.heap.size ≤ a.block) (v : Value) : Kp bs x (y.setCell a v) :=
  ⟨h.os, h.tape, h.output, by simpa [World.setCell] using h.size, fun k hk hn => by
    rw [Below.heap_setCell _ _ _ _ (fun e => by rcases ha with m | m; exact hn (e ▸ m); omega)]
    exact h.block k hk hn⟩

theorem Kp.shrink {b : Nat} {bs : List Nat} {x y : World} (h : Kp (b :: bs) x y) (e : y.heap[b]? = x.heap[b]?) : Kp bs x y :=
  ⟨h.os, h.tape, h.output, h.size, fun k hk hn => by by_cases hb : k = b; rw [hb]; exact e; exact h.block k hk (by simp; exact ⟨hb, hn⟩)⟩

theorem heap_new (w : World) (o : Obj) : (w.alloc o).heap[w.heap.size]? = some o := by
  show (w.heap.push o)[w.heap.size]? = some o
  simp

theorem cell_at {w : World} {b i : Nat} {cs : Array Value} {t : TypeId} {f : Nat × Nat} {v : Value} (h : w.heap[b]? = some (.cells cs t f)) (hv : cs[i]? = some v) : w.cell? ⟨b, i, none⟩ = some v := by
  simp [World.cell?, h, hv]
theorem frozen_at {w : World} {b i : Nat} {cs : Array Value} {t : TypeId} (h : w.heap[b]? = some (.cells cs t (0, 0))) : w.frozen? ⟨b, i, none⟩ = false := by
  simp [World.frozen?, h]
theorem heap_set {w : World} {b i : Nat} {cs : Array Value} {t : TypeId} {f : Nat × Nat} (v : Value) (h : w.heap[b]? = some (.cells cs t f)) : (w.setCell ⟨b, i, none⟩ v).heap[b]? = some (.cells (cs.setIfInBounds i v) t f) := by
  have hlt := (Array.getElem?_eq_some_iff.1 h).1
  have hh := (Array.getElem?_eq_some_iff.1 h).2
  have : (w.setCell ⟨b, i, none⟩ v).heap[b]? = (w.heap[b]?).map (fun x => match x with | .cells c elem frozen => .cells (c.setIfInBounds i v) elem frozen | o => o) := by
    simp only [World.setCell, Array.getElem?_modify]
    simp
    rfl
  rw [this, h]
  rfl

/-- The clock's block. -/
def Clk (C : Nat) (nm : ByteArray) (t : Int) (w : World) : Prop := w.heap[C]? = some (.cells #[.string nm, .int .i32 0, .int .u32 0, .int .u64 t] 99)

theorem Clk.kp {C : Nat} {nm : ByteArray} {t : Int} {w w' : World} {bs : List Nat} (h : Clk C nm t w) (k : Kp bs w w') (hn : C ∉ bs) : Clk C nm t w' :=
  (k.block C (Array.getElem?_eq_some_iff.1 h).1 hn).trans h

theorem fits_c (t e : Int) (w : World) (he : 0 ≤ e ∧ e ≤ 18446744073709551615) :
    Calls Ybaf.prog 39 #[.int .u64 t, .int .u64 e] w fun r w' => r = .returned (.bool (decide (t ≤ 18446744073709551615 - e))) ∧ w' = w := by
  go_enter Ybaf.func39, Ybaf.ntmps39
  go_wp2
  go_ret
  exact ⟨rfl, rfl⟩

set_option maxRecDepth 100000 in
theorem now_c (C : Nat) (nm : ByteArray) (t : Int) (w : World) (h : Clk C nm t w) :
    Calls Ybaf.prog 8 #[.pointer (some ⟨C, 0, none⟩)] w fun e w' => e = .returned (.agg #[.int .u64 t, .string nm]) ∧ Kp [] w w' := by
  have c0 := cell_at (i := 0) (v := .string nm) h rfl
  have c1 := cell_at (i := 1) (v := .int .i32 0) h rfl
  have c3 := cell_at (i := 3) (v := .int .u64 t) h rfl
  have f1 := frozen_at (i := 1) h
  have hlt : C < w.heap.size := (Array.getElem?_eq_some_iff.1 h).1
  go_enter_defers Ybaf.func8, Ybaf.ntmps8
  go_wp2_with fail
  refine (lock_free Ybaf.muLib ⟨C, 1, none⟩ _ ?_ ?_).mono ?_
  · exact cell_at ((Below.heap_alloc _ _ _ hlt).trans h) rfl
  · exact frozen_at ((Below.heap_alloc _ _ _ hlt).trans h)
  rintro e w' ⟨rfl, rfl⟩
  go_wp2_with fail
  go_region
  go_wp2
  have h1 := heap_set (i := 1) (.int .i32 1) h
  have h2 : (((w.setCell ⟨C, 1, none⟩ (.int .i32 1)).alloc (.cells #[.int .u64 t, .string nm] 34)).drew).heap[C]? = _ := (Below.heap_alloc _ _ _ (by simpa [World.setCell] using hlt)).trans h1
  refine leaves_cons (f := 18) (args := #[.pointer (some ⟨C, 1, none⟩)]) (by simp) (by simp [go_sem]) ?_
  refine (unlock_deferred Ybaf.muLib ⟨C, 1, none⟩ .returning _ ?_ ?_).mono ?_
  · exact cell_at h2 rfl
  · exact frozen_at h2
  rintro e u' w'' ⟨rfl, rfl, rfl⟩
  refine ⟨.agg #[.int .u64 t, .string nm], by simp [results, Ybaf.results8, go_sem], rfl, ?_⟩
  have h3 := heap_set (i := 1) (.int .i32 0) h2
  exact ((((((Kp.refl [C] w).set (.inl (by simp)) _).alloc _).drew).set (.inl (by simp)) _).shrink (h3.trans h.symm))

end Go.Proofs.YbulkbxpiFmt
