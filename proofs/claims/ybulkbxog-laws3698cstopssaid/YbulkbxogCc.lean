/-
  Law C's road: the two closures that the laws hand in as 'yield'.
-/
import Derived.Test.YbulkbxogCb
namespace Go.Proofs.Ybulkbxog
open Go.RowKit

/-- Of the blocks below n all but b and g are as they were. -/
structure Kb (n b g : Nat) (w w' : World) : Prop where
  os : w'.os = w.os
  tape : w'.tape = w.tape
  output : w'.output = w.output
  size : w.heap.size ≤ w'.heap.size
  block : ∀ k, k < n → k ≠ b → k ≠ g → w'.heap[k]? = w.heap[k]?

theorem Kb.trans {n b g : Nat} {x y z : World} (h : Kb n b g x y) (k : Kb n b g y z) : Kb n b g x z :=
  ⟨k.os.trans h.os, k.tape.trans h.tape, k.output.trans h.output, Nat.le_trans h.size k.size, fun i hi h1 h2 => (k.block i hi h1 h2).trans (h.block i hi h1 h2)⟩
theorem Kb.mono {n n' b g : Nat} {w w' : World} (h : Kb n b g w w') (hn : n' ≤ n) : Kb n' b g w w' :=
  ⟨h.os, h.tape, h.output, h.size, fun k hk => h.block k (Nat.lt_of_lt_of_le hk hn)⟩
theorem Kb.refl (n b g : Nat) (w : World) : Kb n b g w w := ⟨rfl, rfl, rfl, Nat.le_refl _, fun _ _ _ _ => rfl⟩
theorem Kb.of_below {n b g : Nat} {w w' : World} (h : Below n w w') : Kb n b g w w' := ⟨h.os, h.tape, h.output, h.size, fun k hk _ _ => h.block k hk⟩
theorem Kb.below {n b g m : Nat} {w w' : World} (h : Kb n b g w w') (hm : m ≤ n) (hb : m ≤ b) (hg : m ≤ g) : Below m w w' :=
  ⟨h.os, h.tape, h.output, h.size, fun k hk => h.block k (by omega) (by omega) (by omega)⟩
theorem Kb.cell {n b g : Nat} {w w' : World} (h : Kb n b g w w') {p : Addr} (hp : p.block < n) (hb : p.block ≠ b) (hg : p.block ≠ g) : w'.cell? p = w.cell? p :=
  World.cell?_of_block (w := w) (h.block p.block hp hb hg)

/-- The variable 'got' in its box Bg holds a slice, in block g, that reads as pre. -/
def GotAt (Bg : Nat) (g : Nat) (pre : List Int) (w : World) : Prop :=
  ∃ cp, Boxed w Bg 25 (.slice (some ⟨g, 0, none⟩) pre.length cp) ∧ w.ownsRow 0 3 1 (.slice (some ⟨g, 0, none⟩) pre.length cp) pre.length (pre.map (Value.int .i64))

theorem GotAt.own (Bg g : Nat) : Own (GotAt Bg g) := by
  rintro pre X Y row ⟨cp, hv, hr⟩ hg hrow
  refine ⟨cp, hv.kept hg (fun e' => ?_), hr.kept hg (.inr fun e' => ?_)⟩
  · obtain ⟨o, ho, hc⟩ := hrow Bg e'.symm
    rw [show X.heap[Bg]? = _ from hv] at ho; cases ho; cases hc
  · rcases hr.2 with ⟨h', _⟩ | ⟨g', cap, cur, h', _, hgb, _⟩
    · cases h'
    · simp at h'
      obtain ⟨rfl, rfl⟩ := h'
      obtain ⟨o, ho, hc⟩ := hrow g (by simpa [Value.ownBlock] using e'.symm)
      rw [hgb] at ho; cases ho; cases hc

theorem GotAt.lt {Bg g : Nat} {pre : List Int} {w : World} (h : GotAt Bg g pre w) : Bg < w.heap.size ∧ g < w.heap.size := by
  obtain ⟨cp, hv, hr⟩ := h
  exact ⟨hv.lt, (hr.lt g rfl).2⟩

theorem GotAt.ne {Bg g : Nat} {pre : List Int} {w : World} (h : GotAt Bg g pre w) : Bg ≠ g := by
  obtain ⟨cp, hv, hr⟩ := h
  intro e
  exact hv.not_row (by decide) hr (by rw [e]; rfl)

theorem GotAt.row {Bg g : Nat} {pre : List Int} {w : World} (h : GotAt Bg g pre w) : IRow w .i64 (some ⟨g, 0, none⟩) pre := by
  obtain ⟨cp, hv, hr⟩ := h
  exact IRow.ofOwns hr

/-- Behind the store of the longer slice into the box. -/
theorem GotAt.step {Bg g cp : Nat} {pre : List Int} {w w1 : World} {x : Int} {ao : Option Addr} {cp' : Nat}
    (hv : Boxed w Bg 25 (.slice (some ⟨g, 0, none⟩) pre.length cp)) (hr : w.ownsRow 0 3 1 (.slice (some ⟨g, 0, none⟩) pre.length cp) pre.length (pre.map (Value.int .i64))) {tmp : Obj}
    (hown : w1.ownsRow 0 3 1 (.slice ao (pre.length + 1) cp') (pre.length + 1) ((pre ++ [x]).map (Value.int .i64))) (hgrow : (w.alloc tmp).grownBy w1 (some g))
    (hat : blk ao = some g ∨ blk ao = some (w.heap.size + 1)) :
    Boxed w1 Bg 25 (.slice (some ⟨g, 0, none⟩) pre.length cp) ∧ ∃ g', ao = some ⟨g', 0, none⟩ ∧ GotAt Bg g' (pre ++ [x]) (w1.setCell ⟨Bg, 0, none⟩ (.slice ao (pre.length + 1) cp')) ∧ (g' = g ∨ w.heap.size ≤ g') ∧
      Kb w.heap.size Bg g w (w1.setCell ⟨Bg, 0, none⟩ (.slice ao (pre.length + 1) cp')) ∧ KeepsOthers w (w1.setCell ⟨Bg, 0, none⟩ (.slice ao (pre.length + 1) cp')) := by
  obtain ⟨g', cap', hform⟩ := ownsRow_succ hown
  simp at hform
  obtain ⟨rfl, rfl⟩ := hform
  have hgr2 : (w.alloc tmp).grownBy w1 (Value.slice (some ⟨g, 0, none⟩) pre.length cp).ownBlock := hgrow
  obtain ⟨hv1, hv2, hr2, hk2, hb2⟩ := hv.appended (by decide) hr (Nat.zero_le _) (Nat.zero_le _) hown hgr2
  refine ⟨hv1, g', rfl, ⟨cp', by simpa using hv2, by simpa using hr2⟩, ?_, ?_, hk2⟩
  · rcases hat with h | h
    · left; simpa [blk] using h
    · right
      have : g' = w.heap.size + 1 := by simpa [blk] using h
      omega
  · have hs := hgrow.size
    simp at hs
    refine ⟨?_, ?_, ?_, ?_, ?_⟩
    · exact hgrow.os
    · exact hgrow.tape
    · exact hgrow.output
    · exact hb2.size
    · intro k hk h1 h2
      rw [Below.heap_setCell _ _ _ _ h1, hgrow.block k (by simp; omega) (by simpa using h2)]
      exact Below.heap_alloc _ _ _ hk

set_option maxRecDepth 100000 in
set_option maxHeartbeats 800000 in
/-- 'func(w int) bool { got = append(got, w); return true }'. -/
theorem y14 (Bg g : Nat) (pre : List Int) (x : Int) (w : World) (h : GotAt Bg g pre w) (hl : pre.length ≤ 100000) :
    Calls Yba.prog 14 #[.int .i64 x, .pointer (some ⟨Bg, 0, none⟩)] w fun e w' => e = .returned (.bool true) ∧ (∃ g', GotAt Bg g' (pre ++ [x]) w' ∧ (g' = g ∨ w.heap.size ≤ g')) ∧ Kb w.heap.size Bg g w w' ∧ KeepsOthers w w' := by
  obtain ⟨i0, hi0, hz0, hz1, hz2⟩ := info_parts Yba.info3
  obtain ⟨cp, hv, hr⟩ := h
  have hc := hv.cell
  have hf := hv.frozen
  go_enter Yba.func14, Yba.ntmps14
  go_wp2_with (first | (at_builtin; refine wpList_app _ rfl (.tmp 4) (.tmp 6) 25 rfl 0 3 i0 (.int .i64 0) 8 Yba.underlying25 hi0 hz0 hz1 hz2 rfl .i64 (.slice (some ⟨g, 0, none⟩) pre.length cp) pre.length _ rfl (hr.alloc _) (some ⟨w.heap.size, 0, none⟩) 1 1 [x] rfl rfl (one_row _ _ _ _) (by simp) (by unfold maxLen; omega) (by omega) (Nat.zero_le _) ?_; intro ao2 cp2 w2 hown2 hgrow2 hat2 _; obtain ⟨hv1, g', rfl, hG, hg', hK, hO⟩ := GotAt.step hv hr hown2 hgrow2 (by simpa [Value.ownBlock] using hat2); have hc1 := hv1.cell; have hf1 := hv1.frozen))
  go_ret
  exact ⟨rfl, ⟨g', hG, hg'⟩, hK, hO⟩

set_option maxRecDepth 100000 in
set_option maxHeartbeats 800000 in
/-- 'func(w int) bool { got = append(got, w); return len(got) < limit }'. -/
theorem y16 (Bg g Bl : Nat) (lim : Nat) (pre : List Int) (x : Int) (w : World) (h : GotAt Bg g pre w) (hL : Boxed w Bl 3 (.int .i64 lim)) (hlg : Bl ≠ g) (hl : pre.length ≤ 100000) :
    Calls Yba.prog 16 #[.int .i64 x, .pointer (some ⟨Bg, 0, none⟩), .pointer (some ⟨Bl, 0, none⟩)] w fun e w' => e = .returned (.bool (decide (pre.length + 1 < lim))) ∧ (∃ g', (GotAt Bg g' (pre ++ [x]) w' ∧ Boxed w' Bl 3 (.int .i64 lim) ∧ Bl ≠ g') ∧ (g' = g ∨ w.heap.size ≤ g')) ∧ Kb w.heap.size Bg g w w' ∧ KeepsOthers w w' := by
  obtain ⟨i0, hi0, hz0, hz1, hz2⟩ := info_parts Yba.info3
  obtain ⟨cp, hv, hr⟩ := h
  have hc := hv.cell
  have hf := hv.frozen
  have hBne : Bl ≠ Bg := by
    intro e; subst e
    have := (show w.heap[Bl]? = _ from hL).symm.trans hv
    simp at this
  have hLlt := hL.lt
  go_enter Yba.func16, Yba.ntmps16
  go_wp2_with (first | (at_builtin; refine wpList_app _ rfl (.tmp 5) (.tmp 7) 25 rfl 0 3 i0 (.int .i64 0) 8 Yba.underlying25 hi0 hz0 hz1 hz2 rfl .i64 (.slice (some ⟨g, 0, none⟩) pre.length cp) pre.length _ rfl (hr.alloc _) (some ⟨w.heap.size, 0, none⟩) 1 1 [x] rfl rfl (one_row _ _ _ _) (by simp) (by unfold maxLen; omega) (by omega) (Nat.zero_le _) ?_; intro ao2 cp2 w2 hown2 hgrow2 hat2 _; obtain ⟨hv1, g', rfl, hG, hg', hK, hO⟩ := GotAt.step hv hr hown2 hgrow2 (by simpa [Value.ownBlock] using hat2); have hc1 := hv1.cell; have hf1 := hv1.frozen; have hl1 := (hK.cell (p := ⟨Bl, 0, none⟩) hLlt hBne hlg).trans hL.cell))
  go_ret
  refine ⟨ret_bool (by simp; omega), ⟨g', ⟨hG, (hK.block Bl hLlt hBne hlg).trans hL, by omega⟩, hg'⟩, hK, hO⟩

end Go.Proofs.Ybulkbxog
