/-
  Law C's road: what 'zzs3698cbuild' has laid so far, and what each of its steps does to that.
-/
import Derived.Test.YbulkbxogCh
namespace Go.Proofs.Ybulkbxog
open Go.RowKit

/-- Block b is a row of n slices; the first k of them read as 'rows j', each in a block that p lets by. -/
def RowsP (w : World) (b n k : Nat) (rows : Nat → List Int) (p : Nat → Prop) : Prop :=
  ∃ f, w.rowIs b 25 n f ∧ ∀ j, j < k → ∃ a c, f j = .slice a (rows j).length c ∧ IRow w .i64 a (rows j) ∧ (∀ g, blk a = some g → p g ∧ g < w.heap.size) ∧ (a = none → c = 0)

theorem RowsP.kept {w w' : World} {row : Option Nat} {b n k : Nat} {rows : Nat → List Int} {p q : Nat → Prop} (h : RowsP w b n k rows p) (hg : w.grownBy w' row) (hb : some b ≠ row)
    (hp : ∀ g, p g → g < w.heap.size → some g ≠ row ∧ q g) : RowsP w' b n k rows q := by
  obtain ⟨f, hf, hr⟩ := h
  refine ⟨f, hf.of_block (hg.block b hf.lt hb), fun j hj => ?_⟩
  obtain ⟨a, c, e, hi, hs, hz⟩ := hr j hj
  refine ⟨a, c, e, hi.kept hg ?_, fun g hgb => ⟨(hp g (hs g hgb).1 (hs g hgb).2).2, Nat.lt_of_lt_of_le (hs g hgb).2 hg.size⟩, hz⟩
  cases hb' : blk a with
  | none => exact Or.inl rfl
  | some g => exact Or.inr (hp g (hs g hb').1 (hs g hb').2).1

theorem RowsP.below {w w' : World} {b n k : Nat} {rows : Nat → List Int} {p : Nat → Prop} (h : RowsP w b n k rows p) (hb : Below w.heap.size w w') : RowsP w' b n k rows p :=
  h.kept (row := none) (grownBy_of_below hb) (by simp) (fun g hg _ => ⟨by simp, hg⟩)

theorem RowsP.mono {w : World} {b n k : Nat} {rows : Nat → List Int} {p q : Nat → Prop} (h : RowsP w b n k rows p) (hp : ∀ g, p g → g < w.heap.size → q g) : RowsP w b n k rows q := by
  obtain ⟨f, hf, hr⟩ := h
  refine ⟨f, hf, fun j hj => ?_⟩
  obtain ⟨a, c, e, hi, hs, hz⟩ := hr j hj
  exact ⟨a, c, e, hi, fun g hgb => ⟨hp g (hs g hgb).1 (hs g hgb).2, (hs g hgb).2⟩, hz⟩

theorem RowsP.set {w : World} {b n k : Nat} {rows : Nat → List Int} {p : Nat → Prop} (h : RowsP w b n k rows p) (hpb : ∀ g, p g → g ≠ b) (a : Option Addr) (c : Nat) (hi : IRow w .i64 a (rows k))
    (hs : ∀ g, blk a = some g → p g ∧ g < w.heap.size) (hz : a = none → c = 0) : RowsP (w.setCell ⟨b, k, none⟩ (.slice a (rows k).length c)) b n (k + 1) rows p := by
  obtain ⟨f, hf, hr⟩ := h
  have hsz : (w.setCell ⟨b, k, none⟩ (.slice a (rows k).length c)).heap.size = w.heap.size := by simp [World.setCell]
  have keep : ∀ (a' : Option Addr) (xs : List Int), IRow w .i64 a' xs → (∀ g, blk a' = some g → p g ∧ g < w.heap.size) → IRow (w.setCell ⟨b, k, none⟩ (.slice a (rows k).length c)) .i64 a' xs := by
    intro a' xs h' hs' i x hx
    obtain ⟨g, o, e, hc⟩ := h' i x hx
    refine ⟨g, o, e, ?_⟩
    rw [← hc]
    exact World.cell?_of_block (Below.heap_setCell _ _ _ _ (hpb g (hs' g (by rw [e]; rfl)).1))
  refine ⟨_, hf.set k _, fun j hj => ?_⟩
  by_cases hjk : j = k
  · subst hjk
    exact ⟨a, c, by simp, keep a _ hi hs, fun g hg => ⟨(hs g hg).1, by rw [hsz]; exact (hs g hg).2⟩, hz⟩
  · obtain ⟨a', c', e, hi', hs', hz'⟩ := hr j (by omega)
    exact ⟨a', c', by simp [hjk, e], keep a' _ hi' hs', fun g hg => ⟨(hs' g hg).1, by rw [hsz]; exact (hs' g hg).2⟩, hz'⟩

theorem RowsP.setOther {w : World} {b b' i n k : Nat} {v : Value} {rows : Nat → List Int} {p : Nat → Prop} (h : RowsP w b n k rows p) (hne : b ≠ b') (hpb : ∀ g, p g → g ≠ b') : RowsP (w.setCell ⟨b', i, none⟩ v) b n k rows p := by
  refine h.kept (row := some b') ⟨rfl, rfl, rfl, by simp [World.setCell], fun j _ hj => Below.heap_setCell _ _ _ _ (fun e => hj (by rw [e]))⟩ (by simpa using hne) (fun g hg _ => ⟨by simpa using hpb g hg, hg⟩)

theorem RowsP.cell {w : World} {b n k : Nat} {rows : Nat → List Int} {p : Nat → Prop} (h : RowsP w b n k rows p) {j : Nat} (hj : j < k) (hkn : k ≤ n) :
    ∃ a c, w.cell? ⟨b, j, none⟩ = some (.slice a (rows j).length c) ∧ IRow w .i64 a (rows j) ∧ (a = none → c = 0) := by
  obtain ⟨f, hf, hr⟩ := h
  obtain ⟨a, c, e, hi, _, hz⟩ := hr j hj
  exact ⟨a, c, by rw [hf.cell (by omega), e], hi, hz⟩

theorem RowsP.rrow {w : World} {b n : Nat} {rows : Nat → List Int} {p : Nat → Prop} (h : RowsP w b n n rows p) : RRow w (some ⟨b, 0, none⟩) ((List.range n).map rows) := by
  intro j xs hj
  have hlt : j < n := by have := (List.getElem?_eq_some_iff.1 hj).1; simpa using this
  obtain ⟨a, c, hc, hi, _⟩ := h.cell hlt (Nat.le_refl _)
  have : rows j = xs := by simpa [hlt] using hj
  subst this
  exact ⟨b, 0, a, c, rfl, by rw [Nat.zero_add]; exact hc, hi⟩

/-- The first loop's invariant. B: the block of the box that 'in' lies in; w0: the world behind it. -/
structure Inv1 (w0 : World) (B n : Nat) (fI fP : Nat → List Int) (wr : World) (gs cs ga ca : Nat) (st al : List Int) (kI kP : Nat) : Prop where
  bel : Below (B + 1) w0 wr
  hst : wr.ownsRow 0 3 1 (.slice (some ⟨gs, 0, none⟩) st.length cs) st.length (st.map (Value.int .i64))
  hal : wr.ownsRow 0 3 1 (.slice (some ⟨ga, 0, none⟩) al.length ca) al.length (al.map (Value.int .i64))
  ps : gs = B + 1 ∨ B + 5 ≤ gs
  pa : ga = B + 2 ∨ B + 5 ≤ ga
  ne : gs ≠ ga
  sz : B + 5 ≤ wr.heap.size
  rI : RowsP wr (B + 3) n kI fI (fun g => B + 5 ≤ g ∧ g ≠ gs ∧ g ≠ ga)
  rP : RowsP wr (B + 4) n kP fP (fun g => B + 5 ≤ g ∧ g ≠ gs ∧ g ≠ ga)

section
variable {w0 wr w1 : World} {B n gs cs ga ca kI kP : Nat} {fI fP : Nat → List Int} {st al : List Int}

theorem Inv1.ltS (h : Inv1 w0 B n fI fP wr gs cs ga ca st al kI kP) : gs < wr.heap.size := (h.hst.lt gs rfl).2
theorem Inv1.ltA (h : Inv1 w0 B n fI fP wr gs cs ga ca st al kI kP) : ga < wr.heap.size := (h.hal.lt ga rfl).2

theorem Inv1.call (h : Inv1 w0 B n fI fP wr gs cs ga ca st al kI kP) (hb : Below wr.heap.size wr w1) : Inv1 w0 B n fI fP w1 gs cs ga ca st al kI kP :=
  ⟨h.bel.trans (hb.mono (by have := h.sz; omega)), h.hst.kept (grownBy_of_below hb) (.inr (by simp [Value.ownBlock])), h.hal.kept (grownBy_of_below hb) (.inr (by simp [Value.ownBlock])), h.ps, h.pa, h.ne, Nat.le_trans h.sz hb.size, h.rI.below hb, h.rP.below hb⟩

theorem Inv1.appAll (h : Inv1 w0 B n fI fP wr gs cs ga ca st al kI kP) {ao : Option Addr} {cp m : Nat} {ys : List Int} (hm : ys.length = m)
    (hown : w1.ownsRow 0 3 1 (.slice ao (al.length + m) cp) (al.length + m) ((al ++ ys).map (Value.int .i64))) (hgrow : wr.grownBy w1 (some ga)) (hat : blk ao = some ga ∨ blk ao = some wr.heap.size) :
    ∃ ga', ao = some ⟨ga', 0, none⟩ ∧ Inv1 w0 B n fI fP w1 gs cs ga' cp st (al ++ ys) kI kP := by
  subst hm
  rcases hown.2 with ⟨h', _⟩ | ⟨g, cap, cur, h', _⟩
  · simp at h'
    rw [h'.1] at hat; simp [blk] at hat
  · simp at h'
    obtain ⟨rfl, rfl⟩ := h'
    have hg : g = ga ∨ g = wr.heap.size := by simpa [blk] using hat
    have hsS := h.ltS
    have hsA := h.ltA
    have hsz := h.sz
    have hps := h.ps
    have hpa := h.pa
    have hne := h.ne
    refine ⟨g, rfl, (h.bel.grown hgrow (by omega) (fun k e => by cases e; omega)), h.hst.kept hgrow (.inr (by simpa [Value.ownBlock] using hne)), by rw [List.length_append]; exact hown, hps, by omega, by omega, Nat.le_trans hsz hgrow.size,
      h.rI.kept hgrow (by simp; omega) (fun x hx hlt => ⟨by simp; omega, hx.1, hx.2.1, by omega⟩), h.rP.kept hgrow (by simp; omega) (fun x hx hlt => ⟨by simp; omega, hx.1, hx.2.1, by omega⟩)⟩

theorem Inv1.appSt (h : Inv1 w0 B n fI fP wr gs cs ga ca st al kI kP) {ao : Option Addr} {cp : Nat} {y : Int}
    (hown : w1.ownsRow 0 3 1 (.slice ao (st.length + 1) cp) (st.length + 1) ((st ++ [y]).map (Value.int .i64))) (hgrow : wr.grownBy w1 (some gs)) (hat : blk ao = some gs ∨ blk ao = some wr.heap.size) :
    ∃ gs', ao = some ⟨gs', 0, none⟩ ∧ Inv1 w0 B n fI fP w1 gs' cp ga ca (st ++ [y]) al kI kP := by
  rcases hown.2 with ⟨h', _⟩ | ⟨g, cap, cur, h', _⟩
  · simp at h'
  · simp at h'
    obtain ⟨rfl, rfl⟩ := h'
    have hg : g = gs ∨ g = wr.heap.size := by simpa [blk] using hat
    have hsS := h.ltS
    have hsA := h.ltA
    have hsz := h.sz
    have hps := h.ps
    have hpa := h.pa
    have hne := h.ne
    refine ⟨g, rfl, (h.bel.grown hgrow (by omega) (fun k e => by cases e; omega)), by rw [List.length_append]; exact hown, h.hal.kept hgrow (.inr (by simpa [Value.ownBlock] using hne.symm)), by omega, hpa, by omega, Nat.le_trans hsz hgrow.size,
      h.rI.kept hgrow (by simp; omega) (fun x hx hlt => ⟨by simp; omega, hx.1, by omega, hx.2.2⟩), h.rP.kept hgrow (by simp; omega) (fun x hx hlt => ⟨by simp; omega, hx.1, by omega, hx.2.2⟩)⟩

theorem Inv1.setI (h : Inv1 w0 B n fI fP wr gs cs ga ca st al kI kP) {a : Option Addr} {c : Nat} (hi : IRow wr .i64 a (fI kI)) (hs : ∀ g, blk a = some g → (B + 5 ≤ g ∧ g ≠ gs ∧ g ≠ ga) ∧ g < wr.heap.size) (hz : a = none → c = 0) :
    Inv1 w0 B n fI fP (wr.setCell ⟨B + 3, kI, none⟩ (.slice a (fI kI).length c)) gs cs ga ca st al (kI + 1) kP := by
  have hps := h.ps
  have hpa := h.pa
  refine ⟨h.bel.setCell (p := ⟨B + 3, kI, none⟩) (by simp) _, ownsRow_setCell_other h.hst (by simp [Value.ownBlock]; omega) _, ownsRow_setCell_other h.hal (by simp [Value.ownBlock]; omega) _, hps, hpa, h.ne, by simp [World.setCell]; exact h.sz,
    h.rI.set (fun g hg => by omega) a c hi hs hz, h.rP.setOther (by omega) (fun g hg => by omega)⟩

theorem Inv1.setP (h : Inv1 w0 B n fI fP wr gs cs ga ca st al kI kP) {a : Option Addr} {c : Nat} (hi : IRow wr .i64 a (fP kP)) (hs : ∀ g, blk a = some g → (B + 5 ≤ g ∧ g ≠ gs ∧ g ≠ ga) ∧ g < wr.heap.size) (hz : a = none → c = 0) :
    Inv1 w0 B n fI fP (wr.setCell ⟨B + 4, kP, none⟩ (.slice a (fP kP).length c)) gs cs ga ca st al kI (kP + 1) := by
  have hps := h.ps
  have hpa := h.pa
  refine ⟨h.bel.setCell (p := ⟨B + 4, kP, none⟩) (by simp) _, ownsRow_setCell_other h.hst (by simp [Value.ownBlock]; omega) _, ownsRow_setCell_other h.hal (by simp [Value.ownBlock]; omega) _, hps, hpa, h.ne, by simp [World.setCell]; exact h.sz,
    h.rI.setOther (by omega) (fun g hg => by omega), h.rP.set (fun g hg => by omega) a c hi hs hz⟩

end

theorem Inv1.start (w : World) (cells : Array Value) (n : Nat) (fI fP : Nat → List Int) :
    Inv1 (w.alloc (.cells cells 62)) w.heap.size n fI fP (((((w.alloc (.cells cells 62)).alloc (.cells #[.int .i64 0] 3)).alloc (.cells #[] 3)).alloc (.cells (madeCells #[.slice none 0 0] n) 25)).alloc (.cells (madeCells #[.slice none 0 0] n) 25))
      (w.heap.size + 1) 1 (w.heap.size + 2) 0 [0] [] 0 0 := by
  refine ⟨?_, ?_, ?_, Or.inl rfl, Or.inl rfl, by omega, by simp, ?_, ?_⟩
  · exact ((((Below.refl _ _).alloc (by simp) _).alloc (by simp) _).alloc (by simp) _).alloc (by simp) _
  · refine ⟨rfl, .inr ⟨w.heap.size + 1, 1, #[.int .i64 0], rfl, Nat.zero_le _, ?_, by simp, by simp [maxLen], rfl, rfl⟩⟩
    rw [Below.heap_alloc _ _ _ (by simp), Below.heap_alloc _ _ _ (by simp), Below.heap_alloc _ _ _ (by simp)]
    have := heap_alloc_new (w.alloc (.cells cells 62)) (.cells #[.int .i64 0] 3)
    simpa using this
  · refine ⟨rfl, .inr ⟨w.heap.size + 2, 0, #[], rfl, Nat.zero_le _, ?_, by simp, by simp [maxLen], rfl, rfl⟩⟩
    rw [Below.heap_alloc _ _ _ (by simp), Below.heap_alloc _ _ _ (by simp)]
    have := heap_alloc_new ((w.alloc (.cells cells 62)).alloc (.cells #[.int .i64 0] 3)) (.cells #[] 3)
    simpa using this
  · refine ⟨fun _ => .slice none 0 0, ?_, fun j hj => absurd hj (Nat.not_lt_zero _)⟩
    have := (World.rowIs_made (((w.alloc (.cells cells 62)).alloc (.cells #[.int .i64 0] 3)).alloc (.cells #[] 3)) (.slice none 0 0) n 25).alloc (.cells (madeCells #[.slice none 0 0] n) 25)
    simpa using this
  · refine ⟨fun _ => .slice none 0 0, ?_, fun j hj => absurd hj (Nat.not_lt_zero _)⟩
    have := (World.rowIs_made ((((w.alloc (.cells cells 62)).alloc (.cells #[.int .i64 0] 3)).alloc (.cells #[] 3)).alloc (.cells (madeCells #[.slice none 0 0] n) 25)) (.slice none 0 0) n 25)
    simpa using this

end Go.Proofs.Ybulkbxog
