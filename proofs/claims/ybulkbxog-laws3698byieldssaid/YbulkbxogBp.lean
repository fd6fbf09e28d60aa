/-
  Law B: the iterator's word, both roads.
-/
import Derived.Test.YbulkbxogBo
namespace Go.Proofs.Ybulkbxog
open Go.RowKit Go.Shelf

/-- What a full run adds to the count of work. -/
def workOf (n m l : Nat) : Nat := if n ≤ m then n * Lib.bitLen m else m * Lib.bitLen n + l

theorem IQ.kb {Bsp Bit Bs sb gs S g n c gi ci n0 Bl g0 : Nat} {it : Nat → Int} {f : Nat → Nat} {items : List Int} {X Y : World} (h : IQ Bsp Bit Bs sb gs S g n c gi ci it f items X) (k : Kb n0 Bl g0 X Y)
    (lt : ∀ b, b = Bsp ∨ b = Bit ∨ b = Bs ∨ b = sb ∨ b = gs ∨ b = g ∨ b = gi → b < n0 ∧ b ≠ Bl ∧ b ≠ g0) : IQ Bsp Bit Bs sb gs S g n c gi ci it f items Y := by
  have o : ∀ (p : Addr), p.block = Bsp ∨ p.block = Bit ∨ p.block = Bs ∨ p.block = sb ∨ p.block = gs ∨ p.block = g ∨ p.block = gi → Y.cell? p = X.cell? p := fun p hp => k.cell (lt _ hp).1 (lt _ hp).2.1 (lt _ hp).2.2
  refine ⟨(o _ (by simp)).trans h.b1, (o _ (by simp)).trans h.b2, (o _ (by simp)).trans h.b3, ⟨(o _ (by simp)).trans h.vs.spans, fun i hi => (o _ (by simp)).trans (h.vs.item i hi)⟩, fun i hi => (o _ (by simp)).trans (h.rd i hi), ?_⟩
  intro j x hj
  obtain ⟨g', o', e, hc⟩ := h.ir j x hj
  cases e
  exact ⟨gi, 0, rfl, (o _ (by simp)).trans hc⟩

theorem Wk.kb {sb n0 Bl g0 : Nat} {v : Int} {X Y : World} (h : Wk sb v X) (k : Kb n0 Bl g0 X Y) (lt : sb < n0 ∧ sb ≠ Bl ∧ sb ≠ g0) : Wk sb v Y :=
  ⟨(k.cell (p := ⟨sb, 40, none⟩) lt.1 lt.2.1 lt.2.2).trans h.1, (World.frozen?_of_block (w := X) (k.block sb lt.1 lt.2.1 lt.2.2)).trans h.2⟩

theorem iter_seq (m : Nat) (Bsp Bit Bs sb gs S g n c gi ci Bl g0 : Nat) (it : Nat → Int) (f : Nat → Nat) (items : List Int) (n1 : Bsp ≠ sb) (n2 : Bit ≠ sb) (n3 : Bs ≠ sb) (n4 : gs ≠ sb) (n5 : g ≠ sb) (n6 : gi ≠ sb)
    (hv : ∀ i, i < n → f i < S) (hn : n ≤ 1024) (hm : items.length ≤ 1024) (hp : items.Pairwise (· < ·)) (hs : Srt it 0 n f) (w : World)
    (lt : ∀ b, b = Bsp ∨ b = Bit ∨ b = Bs ∨ b = sb ∨ b = gs ∨ b = g ∨ b = gi → b < w.heap.size ∧ b ≠ Bl ∧ b ≠ g0)
    (q : IQ Bsp Bit Bs sb gs S g n c gi ci it f items w) (wk : Wk sb 0 w) :
    SeqSt m 22 #[.pointer (some ⟨Bsp, 0, none⟩), .pointer (some ⟨Bit, 0, none⟩), .pointer (some ⟨Bs, 0, none⟩)] (St sb) (Kb w.heap.size Bl g0)
      (fun xs Y => xs = wantOf it f items n ∧ Wk sb (workOf n items.length (wantOf it f items n).length : Nat) Y) (fun xs => xs <+: wantOf it f items n) 1025 w := by
  intro l J Jx W hW hJ hY h0
  have hQ : ∀ X Y, IQ Bsp Bit Bs sb gs S g n c gi ci it f items X → Kb w.heap.size Bl g0 X Y → IQ Bsp Bit Bs sb gs S g n c gi ci it f items Y := fun X Y h k => h.kb k lt
  have hWk : ∀ X Y v, Wk sb v X → Kb w.heap.size Bl g0 X Y → Wk sb v Y := fun X Y v h k => h.kb k (lt sb (by simp))
  have qW := hQ _ _ q (Kb.of_below hW)
  have wW := hWk _ _ _ wk (Kb.of_below hW)
  by_cases hle : n ≤ items.length
  · refine (road1 Bsp Bit Bs sb gs S g n c gi ci it f items _ n1 n2 n3 n4 n5 n6 hQ hWk hv hn hm hp hle m l J Jx hJ hY W qW wW h0).mono ?_
    rintro e Y ⟨he, ⟨xs, a, b, c⟩ | ⟨xs, a, b⟩⟩
    · exact ⟨he, .inl ⟨xs, a, b, by unfold workOf; rw [if_pos hle]; exact c⟩⟩
    · exact ⟨he, .inr ⟨xs, a, b⟩⟩
  · refine (road2 Bsp Bit Bs sb gs S g n c gi ci it f items _ n1 n2 n3 n4 n5 n6 hQ hWk hv hn hm hp hs (by omega) m l J Jx hJ hY W qW wW h0).mono ?_
    rintro e Y ⟨he, ⟨xs, a, b, c⟩ | ⟨xs, a, b⟩⟩
    · exact ⟨he, .inl ⟨xs, a, b, by unfold workOf; rw [if_neg hle]; exact c⟩⟩
    · exact ⟨he, .inr ⟨xs, a, b⟩⟩

end Go.Proofs.Ybulkbxog
