/-
  'Receive', by its ways, where the stamp carries neither awaits nor settled times.
-/
import Derived.Test.YbulkbxpiFmtAc
namespace Go.Proofs.YbulkbxpiFmt
open Go.RowKit Go.MuLone Go.Stop

section
variable {i : Ids} {w : World} {mu t : Int} {hd td se : List Int} {q wt : Value}

/-- The lock taken. -/
theorem Srv.lock (v : Srv i w mu t hd td se q wt) (x : Int) : Srv i (w.setCell ⟨i.D, 0, none⟩ (.int .i32 x)) x t hd td se q wt :=
  v.setD ((Kp.refl [i.D] w).set (a := ⟨i.D, 0, none⟩) (.inl (by simp)) _) (heap_set (i := 0) _ v.d)

set_option maxRecDepth 100000 in
set_option maxHeartbeats 1000000 in
theorem recv_refused (v : Srv i w 0 t hd td se q wt) (T : Int) (nm : ByteArray) (aw sl : Option Nat) (m : Int)
    (Hs : ∀ W, Srv i W 1 t hd td se q wt → W.tape = w.tape → Calls Ybaf.prog 25 #[.pointer (some ⟨i.D, 2, none⟩), .agg #[.int .u64 T, .string nm]] W fun e w' => ∃ er, e = .returned (.tuple #[.int .i64 0, er]) ∧ Kp [] W w' ∧ NewErr W w' er) :
    Calls Ybaf.prog 13 #[.pointer (some ⟨i.D, 0, none⟩), .agg #[.int .u64 T, .string nm, .map aw, .map sl], .int .i64 m] w fun e w' => ∃ er, e = .returned (.tuple #[.slice none 0 0, .slice none 0 0, er]) ∧ Kp [] w w' ∧ NewErr w w' er := by
  have hlD := heap_lt v.d
  go_enter_defers Ybaf.func13, Ybaf.ntmps13
  go_wp2_with fail
  refine (lock_free Ybaf.muLib ⟨i.D, 0, none⟩ _ ?_ ?_).mono ?_
  · exact cell_at ((Below.heap_alloc _ _ _ hlD).trans v.d) rfl
  · exact frozen_at ((Below.heap_alloc _ _ _ hlD).trans v.d)
  rintro e w1 ⟨rfl, rfl⟩
  go_upto_region 3 with fail
  obtain ⟨w2, hw2⟩ : ∃ x, x = (w.setCell ⟨i.D, 0, none⟩ (.int .i32 1)).alloc (.cells #[.int .u64 T, .string nm, .map aw, .map sl] 38) := ⟨_, rfl⟩
  have v2 : Srv i w2 1 t hd td se q wt := by rw [hw2]; exact (v.lock 1).kp0 ((Kp.refl [] _).alloc _)
  have K2 : Kp [i.D] w w2 := by rw [hw2]; exact ((Kp.refl [i.D] w).set (a := ⟨i.D, 0, none⟩) (.inl (by simp)) _).alloc _
  have hb2 : w2.heap[w.heap.size]? = some (.cells #[.int .u64 T, .string nm, .map aw, .map sl] 38) := by rw [hw2]; exact heap_newk _ _ _ (by simp [World.setCell])
  rw [← hw2]
  clear hw2
  have hlb2 := heap_lt hb2
  have b0 := cell_at (i := 0) (v := .int .u64 T) hb2 rfl
  have b1 := cell_at (i := 1) (v := .string nm) hb2 rfl
  go_region_held3 (fun w' => w'.cell? ⟨w.heap.size, 0, none⟩ = some (.int .u64 T) ∧ w'.cell? ⟨w.heap.size, 1, none⟩ = some (.string nm)) (simp [*])
    (first | (go_at_call 25; refine (Hs _ (v2.kp0 ((Kp.refl [] w2).drew)) K2.tape).mono ?_; rintro e w3 ⟨er, rfl, k3, he3⟩; have hb3 := k3.heap hb2 (by simp); have b30 := cell_at (i := 0) (v := .int .u64 T) hb3 rfl; have b31 := cell_at (i := 1) (v := .string nm) hb3 rfl))
  obtain ⟨eb, es, rfl, hel, heh⟩ := he3
  have v3 := v2.kp0 ((Kp.refl [] w2).drew.trans k3)
  have hel2 : w2.heap.size ≤ eb := hel
  go_wp2
  have c0 := cell_at (i := 0) (v := .int .i32 1) v3.d rfl
  have f0 := frozen_at (i := 0) v3.d
  refine leaves_cons (f := 18) (args := #[.pointer (some ⟨i.D, 0, none⟩)]) (by simp) (by simp [go_sem]) ?_
  refine (unlock_deferred Ybaf.muLib ⟨i.D, 0, none⟩ .returning _ c0 f0).mono ?_
  rintro e u' w'' ⟨rfl, rfl, rfl⟩
  refine ⟨.tuple #[.slice none 0 0, .slice none 0 0, .iface 161 (.pointer (some ⟨eb, 0, none⟩))], by simp [results, Ybaf.results13, go_sem], _, rfl, ?_, eb, es, rfl, ?_, ?_⟩
  · have K3 : Kp [i.D] w (w3.setCell ⟨i.D, 0, none⟩ (.int .i32 0)) := (K2.trans (((Kp.refl [] w2).drew.trans k3).mono (by simp))).set (a := ⟨i.D, 0, none⟩) (.inl (by simp)) _
    exact K3.shrink ((heap_set (i := 0) (.int .i32 0) v3.d).trans v.d.symm)
  · have := K2.size; omega
  · exact (Below.heap_setCell _ _ _ _ (by show eb ≠ i.D; have := heap_lt v2.d; omega)).trans heh
end

end Go.Proofs.YbulkbxpiFmt
