/-
  'newPeers': the invariant of its first statement.
-/
import Derived.Test.YbulkbxpiFmtRi
import Derived.Deep.OwnRows
import Derived.Carry
namespace Go.Proofs.YbulkbxpiFmt
open Go.RowKit

abbrev npMem : List Nat := [1, 3, 6, 9, 12, 14]
abbrev npBox (b : Nat → Nat) (n kn : Nat) : Array Value :=
  #[.pointer (some ⟨b 1, 0, none⟩), .int .i64 (-1), .slice (some ⟨b 3, 0, none⟩) n kn, .map (some (b 6)), .slice (some ⟨b 9, 0, none⟩) n n, .slice (some ⟨b 12, 0, none⟩) n n]
/-- What operation j has made. -/
def npCont (nm : ByteArray) (L : List ByteArray) (j blk : Nat) (W : World) : Prop :=
  if j = 1 then W.heap[blk]? = some (.cells #[.string nm, .int .i32 0, .int .u32 0, .int .u64 0] 99)
  else if j = 3 then ∃ cur : Array Value, W.heap[blk]? = some (.cells cur 9) ∧ ∀ (k : Nat) (s : ByteArray), L[k]? = some s → cur[k]? = some (Value.string s)
  else if j = 6 then W.heap[blk]? = some (.map #[] 0)
  else if j = 14 then ∃ cs : Array Value, W.heap[blk]? = some (.cells cs 51) ∧ cs.size = 6
  else W.heap[blk]? = some (.cells (madeCells #[.int .u64 0] L.length) 31)

theorem npCont.keep {nm : ByteArray} {L : List ByteArray} {j blk : Nat} {W W' : World} (h : npCont nm L j blk W) (e : W'.heap[blk]? = W.heap[blk]?) : npCont nm L j blk W' := by
  unfold npCont at h ⊢
  rw [e]
  exact h
theorem npCont.lt {nm : ByteArray} {L : List ByteArray} {j blk : Nat} {W : World} (h : npCont nm L j blk W) : blk < W.heap.size := by
  unfold npCont at h
  split at h
  · exact heap_lt h
  · split at h
    · obtain ⟨cur, h, _⟩ := h; exact heap_lt h
    · split at h
      · exact heap_lt h
      · split at h
        · obtain ⟨cur, h, _⟩ := h; exact heap_lt h
        · exact heap_lt h

structure NI (nm : ByteArray) (L : List ByteArray) (w0 : World) (b : Nat → Nat) (kn : Nat) (f : Nat → Bool) (W : World) : Prop where
  kp : Kp [] w0 W
  mem : ∀ j, j ∈ npMem → f j = true → w0.heap.size ≤ b j ∧ npCont nm L j (b j) W
  ne : ∀ j k, j ∈ npMem → k ∈ npMem → f j = true → f k = true → j ≠ k → b j ≠ b k
  st : f 15 = true → (∀ j, j ∈ npMem → f j = true) ∧ W.heap[b 14]? = some (.cells (npBox b L.length kn) 51)
  cap : f 3 = true → L.length ≤ kn
  bd : f 13 = true → ∀ j, j ∈ [1, 3, 6, 9, 12] → f j = true

section
variable {nm : ByteArray} {L : List ByteArray} {w0 : World} {b : Nat → Nat} {kn : Nat} {f f' : Nat → Bool} {W W' : World}

theorem NI.pure (h : NI nm L w0 b kn f W) (hf : ∀ j, j ∈ 15 :: npMem → f' j = f j) (hbd : f' 13 = true → ∀ j, j ∈ [1, 3, 6, 9, 12] → f' j = true) : NI nm L w0 b kn f' W :=
  ⟨h.kp, fun j hj hfj => h.mem j hj (by rw [← hf j (List.mem_cons_of_mem _ hj)]; exact hfj), fun j k hj hk h1 h2 => h.ne j k hj hk (by rw [← hf j (List.mem_cons_of_mem _ hj)]; exact h1) (by rw [← hf k (List.mem_cons_of_mem _ hk)]; exact h2),
    fun h15 => ⟨fun j hj => by rw [hf j (List.mem_cons_of_mem _ hj)]; exact (h.st (by rw [← hf 15 (by simp)]; exact h15)).1 j hj, (h.st (by rw [← hf 15 (by simp)]; exact h15)).2⟩,
    fun h3 => h.cap (by rw [← hf 3 (by simp)]; exact h3), hbd⟩

theorem NI.new (h : NI nm L w0 b kn f W) (j : Nat) (hj : j ∈ npMem) (hfj : f j = false) (hf : f' = fun k => if k = j then true else f k) (K : Kp [] W W') (hc : npCont nm L j W.heap.size W') {kn' : Nat} (hkn : j ≠ 3 → kn' = kn) (hk3 : j = 3 → L.length ≤ kn') :
    NI nm L w0 (fun k => if k = j then W.heap.size else b k) kn' f' W' := by
  have h15 : f 15 = false := by
    cases e : f 15 with
    | false => rfl
    | true => rw [(h.st e).1 j hj] at hfj; cases hfj
  have hj15 : (15 : Nat) ≠ j := by intro e; subst e; simp at hj
  refine ⟨h.kp.trans K, fun k hk hfk => ?_, fun k l hk hl hfk hfl hne => ?_, fun h15' => ?_, fun h3 => ?_, fun h13 k hk => ?_⟩
  · by_cases e : k = j
    · subst e; simp only [if_true]; exact ⟨h.kp.size, hc⟩
    · rw [hf] at hfk
      simp only [e, if_false] at hfk ⊢
      obtain ⟨h1, h2⟩ := h.mem k hk hfk
      exact ⟨h1, h2.keep (K.block _ h2.lt (by simp))⟩
  · rw [hf] at hfk hfl
    by_cases e : k = j
    · have e2 : l ≠ j := fun e' => hne (e.trans e'.symm)
      simp only [e2, if_false] at hfl
      simp only [e, e2, if_true, if_false]
      have := (h.mem l hl hfl).2.lt
      omega
    · simp only [e, if_false] at hfk
      by_cases e2 : l = j
      · simp only [e, e2, if_true, if_false]
        have := (h.mem k hk hfk).2.lt
        omega
      · simp only [e2, if_false] at hfl
        simp only [e, e2, if_false]
        exact h.ne k l hk hl hfk hfl hne
  · rw [hf] at h15'
    simp [hj15, h15] at h15'
  · rw [hf] at h3
    by_cases e : j = 3
    · exact hk3 e
    · rw [hkn e]; exact h.cap (by simpa [Ne.symm e] using h3)
  · have hj13 : (13 : Nat) ≠ j := by intro e; subst e; simp at hj
    rw [hf] at h13 ⊢
    simp only [hj13, if_false] at h13
    have := h.bd h13 k hk
    simp [this]

theorem NI.store (h : NI nm L w0 b kn f W) (hall : ∀ j, j ∈ npMem → f j = true) (hf : f' = fun k => if k = 15 then true else f k) (K : Kp [b 14] W W') (hb : W'.heap[b 14]? = some (.cells (npBox b L.length kn) 51)) : NI nm L w0 b kn f' W' := by
  have h14 := h.mem 14 (by simp) (hall 14 (by simp))
  refine ⟨?_, fun k hk hfk => ?_, fun k l hk hl _ _ hne => h.ne k l hk hl (hall k hk) (hall l hl) hne, fun _ => ⟨fun j hj => ?_, hb⟩, fun _ => h.cap (hall 3 (by simp)), fun h13 k hk => ?_⟩
  · exact ⟨K.os.trans h.kp.os, K.tape.trans h.kp.tape, K.output.trans h.kp.output, Nat.le_trans h.kp.size K.size, fun k hk hn => (K.block k (Nat.lt_of_lt_of_le hk h.kp.size) (by simp; omega)).trans (h.kp.block k hk hn)⟩
  · obtain ⟨h1, h2⟩ := h.mem k hk (hall k hk)
    refine ⟨h1, ?_⟩
    by_cases e : k = 14
    · subst e; unfold npCont; simp; exact ⟨_, hb, rfl⟩
    · exact h2.keep (K.block _ h2.lt (by simp; exact h.ne k 14 hk (by simp) (hall k hk) (hall 14 (by simp)) e))
  · rw [hf]
    have : j ≠ 15 := by intro e; subst e; simp at hj
    simp [this, hall j hj]
  · rw [hf] at h13 ⊢
    have := h.bd (by simpa using h13) k hk
    simp [this]
theorem NI.no13 (h : NI nm L w0 b kn f W) {j : Nat} (hj : j ∈ [1, 3, 6, 9, 12]) (hfj : f j = false) : f 13 = false := by
  cases e : f 13 with
  | false => rfl
  | true => rw [h.bd e j hj] at hfj; cases hfj
end

/-- The frame in the midst of that statement. -/
def npFrame (nm : ByteArray) (sv : Value) (R n : Nat) (b : Nat → Nat) (kn : Nat) (f : Nat → Bool) : Act :=
  { tmps := List.toArray (.string nm :: sv :: undef :: undef :: .pointer (some ⟨R, 0, none⟩) :: .nilIface :: cond (f 14) (.pointer (some ⟨b 14, 0, none⟩)) undef :: undef :: undef :: undef :: undef ::
      cond (f 0) (.string nm) undef :: cond (f 1) (.pointer (some ⟨b 1, 0, none⟩)) undef :: cond (f 2) sv undef :: cond (f 3) (.slice (some ⟨b 3, 0, none⟩) n kn) undef :: cond (f 4) sv undef :: cond (f 5) (.int .i64 (n : Int)) undef :: cond (f 6) (.map (some (b 6))) undef ::
      cond (f 7) sv undef :: cond (f 8) (.int .i64 (n : Int)) undef :: cond (f 9) (.slice (some ⟨b 9, 0, none⟩) n n) undef :: cond (f 10) sv undef :: cond (f 11) (.int .i64 (n : Int)) undef :: cond (f 12) (.slice (some ⟨b 12, 0, none⟩) n n) undef :: cond (f 13) (.agg (npBox b n kn)) undef ::
      undef :: undef :: undef :: undef :: undef :: undef :: undef :: undef :: undef :: undef :: undef :: undef :: undef :: undef :: undef :: undef :: undef :: undef :: undef :: undef :: undef :: undef :: undef :: undef :: undef :: undef :: undef :: undef :: undef :: undef :: undef :: undef :: undef :: undef :: undef :: undef :: undef :: undef :: undef :: undef :: []), defers := [] }

end Go.Proofs.YbulkbxpiFmt
