/-
  Law B's road: 'for x := range seq { body }' over an iterator that writes cells of its own between two rounds ('St').
-/
import Derived.Test.YbulkbxogBj
import Derived.RangeFuncNested
import Derived.RangeFuncBound
import Derived.RangeFuncCalls
import Derived.RangeFuncLeaves
import Derived.Shelf.Abstract
import Derived.Shelf.RegionOpen
import Derived.OwnWalkIn
import Derived.TacticsInMore
import Derived.LoopNIn
import Derived.LoopIn
namespace Go.Proofs.Ybulkbxog
open Go.RowKit Go.Shelf

/-- What the iterator owes: whatever J of the caller's that abides the iterator's own steps 'St' and its calls of yield. -/
def SeqSt (n : Nat) (gf : Nat) (lb : Array Value) (St Kp : World → World → Prop) (Fin : List Int → World → Prop) (FinX : List Int → Prop) (N : Nat) (w : World) : Prop :=
  ∀ (l : Nat) (J Jx : List Int → World → Prop) (W : World), Below w.heap.size w W → (∀ pre X Y, J pre X → St X Y → J pre Y) →
    (∀ pre x X, J pre X → pre.length < N → YieldAt Fence.wide (n - 1) Yba.prog l #[.int .i64 x] X fun e Y =>
      (e = .returned (.bool true) ∧ J (pre ++ [x]) Y ∧ Kp X Y) ∨ (e = .returned (.bool false) ∧ Jx (pre ++ [x]) Y)) →
    J [] W → CallsIn Fence.wide n Yba.prog gf (#[.func (.yield l) #[] #[]] ++ lb) W fun e Y => (∃ v, e = .returned v) ∧ ((∃ xs, J xs Y ∧ Fin xs Y) ∨ (∃ xs, Jx xs Y ∧ FinX xs))

theorem range_st {n : Nat} (h1 : 1 ≤ n) {g : Operand} {p : Tmp} {assign body : Code} {Q : Exit → Act → World → Prop} {a : Act} {w : World} {gf : Nat} {lb : Array Value}
    (hg : a.eval g = .func (.func gf) #[] lb) (eg : ∀ args w, (callFunc gf args).run Yba.prog w = .ok (.enter gf args) w)
    {St Kp : World → World → Prop} (hSt : ∀ X Y, St X Y → KeepsOthers X Y) {Fin : List Int → World → Prop} {FinX : List Int → Prop} {N : Nat} (hFin : OwnFrom w.heap.size Fin) (seq : SeqSt (n - 1) gf lb St Kp Fin FinX N w)
    (hKt : ∀ {A B C : World}, Kp A B → Kp B C → Kp A C) (hKb : ∀ (W : World) (l : Nat) (o o' : Obj), w.heap.size ≤ l → W.heap[l]? = some o → o.isCells = false → Kp W (W.putObj l o'))
    (I : List Int → World → Prop) (Ix : Code → List Int → World → Prop) (hI : OwnFrom w.heap.size I) (hIx : ∀ c, OwnFrom w.heap.size (Ix c)) (hIs : ∀ pre X Y, I pre X → St X Y → I pre Y) (h0 : I [] w) (a₁ : Int → Act)
    (hassign : ∀ (l : Nat) (x : Int) (W : World) (K : Act → World → Prop), K (a₁ x) W →
      assign.wpIn (Fence.wide.inRound l) (n - 1 - 1) Yba.prog (Exit.then K (fun _ _ _ => False)) { tmps := a.tmps.setIfInBounds p (.int .i64 x), defers := [] } W)
    (hbody : ∀ (l : Nat) (pre : List Int) (x : Int) (W : World), I pre W → pre.length < N → body.wpIn (Fence.wide.inRound l) (n - 1 - 1) Yba.prog (ownPostK Kp I Ix (pre ++ [x]) W) (a₁ x) W)
    (hdone : ∀ (D : Nat) (xs : List Int) (W : World), w.heap.size ≤ D → Fin xs W → I xs W → W.heap[D]? = some (.deferred (some [])) → Q .normal { a with defers := { target := .collected D, args := #[] } :: a.defers } W)
    (hstop : ∀ (D : Nat) (c : Code) (pre : List Int) (W : World), w.heap.size ≤ D → FinX pre → Ix c pre W → W.heap[D]? = some (.deferred (some [])) → c.wpIn Fence.wide n Yba.prog Q { a with defers := { target := .collected D, args := #[] } :: a.defers } W) :
    (Code.rangeFunc g #[p] assign body).wpIn Fence.wide n Yba.prog Q a w := by
  refine wpIn_rangeFunc ?_
  intro fn hfn
  obtain ⟨R, hR⟩ : ∃ R : LoopState → Option Code → Loop, R = fun st pe => { state := st, pending := pe, fn := fn, tmps := a.tmps, params := #[p], assign := assign, body := body, defers := w.heap.size } := ⟨_, rfl⟩
  obtain ⟨V, hV⟩ : ∃ V, V = (w.alloc (.deferred (some []))).alloc (.loop (R .ready none)) := ⟨_, rfl⟩
  have vL : V.heap[w.heap.size + 1]? = some (.loop (R .ready none)) := by
    rw [hV]; have := World.alloc_heap_new (w.alloc (.deferred (some []))) (.loop (R .ready none)); rwa [World.size_alloc] at this
  have vD : V.heap[w.heap.size]? = some (.deferred (some [])) := by
    rw [hV]; exact (Below.heap_alloc _ _ _ (by simp)).trans (World.alloc_heap_new w _)
  have vB : Below w.heap.size w V := by rw [hV]; exact ((Below.refl _ w).alloc (Nat.le_refl _) _).alloc (by simp) _
  have vI : I [] V := by rw [hV]; exact hI.alloc _ (hI.alloc _ h0)
  refine ⟨w.heap.size + 1, [{ target := .collected w.heap.size, args := #[] }], V, { target := .fn (.func gf) lb, args := #[.func (.yield (w.heap.size + 1)) #[] #[]] }, V, gf, #[.func (.yield (w.heap.size + 1)) #[] #[]] ++ lb, V, ?_, ?_, ?_, ?_, fun _ => h1, ?_⟩
  · rw [hV, hR]; exact run_enterLoop_outer _ _ _ _ _
  · simp only [resolve, hg]; simp [go_sem]
  · intro f' _; trivial
  · simp [invoke, go_sem, eg]
  · refine (seq (w.heap.size + 1)
      (fun pre X => I pre X ∧ X.heap[w.heap.size + 1]? = some (.loop (R .ready none)) ∧ X.heap[w.heap.size]? = some (.deferred (some [])))
      (fun pre X => ∃ c, Ix c pre X ∧ X.heap[w.heap.size + 1]? = some (.loop (R .done (some c))) ∧ X.heap[w.heap.size]? = some (.deferred (some []))) V vB
      (fun pre X Y h k => ⟨hIs pre X Y h.1 k, (hSt X Y k).same _ _ h.2.1 rfl, (hSt X Y k).same _ _ h.2.2 rfl⟩) ?_ ⟨vI, vL, vD⟩).mono ?_
    · rintro pre x X ⟨xI, xL, xD⟩ hlen
      have hlt : w.heap.size + 1 < X.heap.size := (Array.getElem?_eq_some_iff.1 xL).1
      have hy := run_yield (P := Yba.prog) (args := #[.int .i64 x]) xL (by rw [hR]; rfl)
      refine ⟨_, _, _, _, hy, ?_⟩
      obtain ⟨Y, hYe⟩ : ∃ Y, Y = X.putObj (w.heap.size + 1) (.loop { R .ready none with state := .busy }) := ⟨_, rfl⟩
      have yL : Y.heap[w.heap.size + 1]? = some (.loop { R .ready none with state := .busy }) := by rw [hYe]; exact World.putObj_heap_same hlt
      have yD : Y.heap[w.heap.size]? = some (.deferred (some [])) := by rw [hYe]; exact (World.putObj_heap_other (by omega)).trans xD
      have yK : Kp X Y := by rw [hYe]; exact hKb _ _ _ _ (by omega) xL rfl
      have yI : I pre Y := by rw [hYe]; exact hI.putObj _ xI (by omega) xL rfl
      have close : ∀ (jump : Option Code) (Z : World), KeepsOthers Y Z → ∃ U, (Instr.endRound (w.heap.size + 1) jump).run Yba.prog Z = .ok (.bool jump.isNone) U ∧ U = Z.putObj (w.heap.size + 1) (.loop (R (if jump.isNone then .ready else .done) jump)) ∧
          Z.heap[w.heap.size + 1]? = some (.loop { R .ready none with state := .busy }) ∧ U.heap[w.heap.size + 1]? = some (.loop (R (if jump.isNone then .ready else .done) jump)) ∧ U.heap[w.heap.size]? = some (.deferred (some [])) := by
        intro jump Z hZ
        have zL := hZ.same _ _ yL rfl
        have zD := hZ.same _ _ yD rfl
        refine ⟨_, ?_, rfl, zL, World.putObj_heap_same (Array.getElem?_eq_some_iff.1 zL).1, (World.putObj_heap_other (by omega)).trans zD⟩
        have := run_endRound (P := Yba.prog) jump zL
        rw [hR] at this ⊢
        exact this
      have hfn' : Fence.wide.fn (R .ready none).fn := trivial
      have hA := hassign (w.heap.size + 1) x X (fun a' W' => ∃ w₂, (Instr.beginRound (w.heap.size + 1)).run Yba.prog W' = .ok () w₂ ∧ body.wpIn (Fence.wide.inRound (w.heap.size + 1)) (n - 1 - 1) Yba.prog (roundPost Yba.prog (w.heap.size + 1) fun e Z =>
        (e = .returned (.bool true) ∧ (I (pre ++ [x]) Z ∧ Z.heap[w.heap.size + 1]? = some (.loop (R .ready none)) ∧ Z.heap[w.heap.size]? = some (.deferred (some []))) ∧ Kp X Z) ∨
        (e = .returned (.bool false) ∧ ∃ c, Ix c (pre ++ [x]) Z ∧ Z.heap[w.heap.size + 1]? = some (.loop (R .done (some c))) ∧ Z.heap[w.heap.size]? = some (.deferred (some [])))) a' w₂) ?_
      · refine roundIn_of_wpIn hfn' ?_
        rw [hR]
        rw [hR] at hA
        simpa using hA
      · refine ⟨Y, by rw [hYe]; exact run_beginRound xL (by rw [hR]), wpIn_mono (hbody _ pre x Y yI hlen) ?_⟩
        have leave : ∀ (c : Code) (Z : World), KeepsOthers Y Z ∧ Ix c (pre ++ [x]) Z → ∃ v U, (Instr.endRound (w.heap.size + 1) (some c)).run Yba.prog Z = .ok v U ∧ v = .bool false ∧ ∃ c, Ix c (pre ++ [x]) U ∧ U.heap[w.heap.size + 1]? = some (.loop (R .done (some c))) ∧ U.heap[w.heap.size]? = some (.deferred (some [])) := by
          rintro c Z ⟨hZ, hx⟩
          obtain ⟨U, hr, rfl, zL, uL, uD⟩ := close (some c) Z hZ
          exact ⟨_, _, hr, rfl, c, (hIx c).putObj _ hx (by omega) zL rfl, uL, uD⟩
        rintro e a3 Z hp
        cases e with
        | normal =>
          obtain ⟨hZ, hKp, hi⟩ := hp
          obtain ⟨U, hr, rfl, zL, uL, uD⟩ := close none Z hZ
          exact ⟨_, _, hr, .inl ⟨rfl, ⟨hI.putObj _ hi (by omega) zL rfl, uL, uD⟩, hKt (hKt yK hKp) (hKb _ _ _ _ (by omega) zL rfl)⟩⟩
        | ret => obtain ⟨v, U, hr, rfl, h'⟩ := leave .ret Z hp; exact ⟨_, _, hr, .inr ⟨rfl, h'⟩⟩
        | exit id => obtain ⟨v, U, hr, rfl, h'⟩ := leave (.exit id) Z hp; exact ⟨_, _, hr, .inr ⟨rfl, h'⟩⟩
        | goto t => obtain ⟨v, U, hr, rfl, h'⟩ := leave (.goto t) Z hp; exact ⟨_, _, hr, .inr ⟨rfl, h'⟩⟩
        | panic ch => exact hp.elim
        | outgrown => exact hp.elim
    · rintro e Y ⟨⟨v, rfl⟩, (⟨xs, ⟨yI, yL, yD⟩, hf⟩ | ⟨xs, ⟨c, yI, yL, yD⟩, hf⟩)⟩
      · have hr := run_endLoop (P := Yba.prog) yL (by rw [hR]; simp)
        rw [show (R .ready none).pending = none by rw [hR]] at hr
        refine ⟨none, _, hr, ?_⟩
        exact hdone _ xs _ (Nat.le_refl _) (hFin.putObj _ hf (by omega) yL rfl) (hI.putObj _ yI (by omega) yL rfl) ((World.putObj_heap_other (by omega)).trans yD)
      · have hr := run_endLoop (P := Yba.prog) yL (by rw [hR]; simp)
        rw [show (R .done (some c)).pending = some c by rw [hR]] at hr
        refine ⟨some c, _, hr, ?_⟩
        exact hstop _ c xs _ (Nat.le_refl _) hf ((hIx c).putObj _ yI (by omega) yL rfl) ((World.putObj_heap_other (by omega)).trans yD)

end Go.Proofs.Ybulkbxog
