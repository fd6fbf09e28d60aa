/-
  Law B's road: what the iterator 'spansOf$1' yields: plain laws, and what it keeps.
-/
import Derived.Test.YbulkbxogBk
namespace Go.Proofs.Ybulkbxog
open Go.RowKit Go.Shelf

theorem wantOf_pre (it : Nat → Int) (f : Nat → Nat) (items : List Int) {k n : Nat} (h : k ≤ n) : wantOf it f items k <+: wantOf it f items n := by
  obtain ⟨d, rfl⟩ := Nat.exists_eq_add_of_le h
  induction d with
  | zero => exact List.prefix_refl _
  | succ d ih => rw [← Nat.add_assoc, wantOf_succ]; exact (ih (by omega)).trans (List.prefix_append _ _)

/-- Where no place in [p, k) meets an item nothing is added. -/
theorem wantOf_skip (it : Nat → Int) (f : Nat → Nat) (items : List Int) {p k : Nat} (h : p ≤ k) (hn : ∀ x, p ≤ x → x < k → it (f x) ∉ items) : wantOf it f items k = wantOf it f items p := by
  obtain ⟨d, rfl⟩ := Nat.exists_eq_add_of_le h
  induction d with
  | zero => rfl
  | succ d ih =>
    rw [← Nat.add_assoc, wantOf_succ, ih (by omega) (fun x h1 h2 => hn x h1 (by omega))]
    have : items.contains (it (f (p + d))) = false := by
      have := hn (p + d) (by omega) (by omega)
      simpa using this
    rw [this]; simp

/-- Between two items of the second road. -/
structure Way (it : Nat → Int) (f : Nat → Nat) (items : List Int) (n j p : Nat) : Prop where
  pn : p ≤ n
  hi : ∀ k, p ≤ k → k < n → ∀ t x, t < j → items[t]? = some x → x < it (f k)
  lo : ∀ k, k < p → ∃ t x, t < j ∧ items[t]? = some x ∧ it (f k) ≤ x

theorem Way.start (it : Nat → Int) (f : Nat → Nat) (items : List Int) (n : Nat) : Way it f items n 0 0 := ⟨Nat.zero_le _, fun k _ _ t x h => by omega, fun k h => by omega⟩

theorem lt_of_items {items : List Int} (hp : items.Pairwise (· < ·)) {t j : Nat} {x y : Int} (h : t < j) (ht : items[t]? = some x) (hj : items[j]? = some y) : x < y := by
  obtain ⟨a, rfl⟩ := List.getElem?_eq_some_iff.1 ht
  obtain ⟨b, rfl⟩ := List.getElem?_eq_some_iff.1 hj
  exact List.pairwise_iff_getElem.1 hp t j a b h

/-- The search for item j finds its place: nothing lies between. -/
theorem Way.found {it : Nat → Int} {f : Nat → Nat} {items : List Int} {n j p k : Nat} {y : Int} (h : Way it f items n j p) (hp : items.Pairwise (· < ·)) (hj : items[j]? = some y) (hs : Srt it 0 n f) (hk : k ≤ n) (h1 : k = 0 ∨ it (f (k - 1)) < y) (h2 : k = n ∨ y ≤ it (f k)) :
    wantOf it f items k = wantOf it f items p := by
  have below : ∀ x, x < k → it (f x) < y := fun x hx => by
    rcases h1 with e | e
    · omega
    · have := hs x (k - 1) (Nat.zero_le _) (by omega) (by omega); omega
  have hpk : p ≤ k := by
    rcases Nat.lt_or_ge k p with e | e
    · exfalso
      obtain ⟨t, x, ht, hx, hle⟩ := h.lo k e
      have := lt_of_items hp ht hx hj
      rcases h2 with e2 | e2
      · have := h.pn; omega
      · omega
    · exact e
  refine wantOf_skip it f items hpk fun x hx1 hx2 hm => ?_
  obtain ⟨t, ht⟩ := List.getElem?_of_mem hm
  rcases Nat.lt_trichotomy t j with e | e | e
  · have := h.hi x hx1 (by omega) t _ e ht; omega
  · subst e; rw [hj] at ht; cases ht; have := below x hx2; omega
  · have := lt_of_items hp e hj ht; have := below x hx2; omega

/-- Behind the run of item j. -/
theorem Way.next {it : Nat → Int} {f : Nat → Nat} {items : List Int} {n j p k k1 : Nat} {y : Int} (h : Way it f items n j p) (hp : items.Pairwise (· < ·)) (hj : items[j]? = some y) (hs : Srt it 0 n f) (h1 : k = 0 ∨ it (f (k - 1)) < y) (hkk : k ≤ k1) (hk1 : k1 ≤ n) (hrun : ∀ x, k ≤ x → x < k1 → it (f x) = y) (hend : k1 = n ∨ y < it (f k1)) :
    Way it f items n (j + 1) k1 := by
  refine ⟨hk1, fun x e1 e2 t z ht hz => ?_, fun x e1 => ⟨j, y, by omega, hj, ?_⟩⟩
  · have hyx : y < it (f x) := by
      rcases hend with e | e
      · omega
      · have := hs k1 x (Nat.zero_le _) e1 e2; omega
    rcases Nat.lt_or_ge t j with e | e
    · have := lt_of_items hp e hz hj; omega
    · obtain rfl : t = j := by omega
      rw [hj] at hz; cases hz; exact hyx
  · by_cases e : k ≤ x
    · exact Int.le_of_eq (hrun x e e1)
    · rcases h1 with e' | e'
      · omega
      · have := hs x (k - 1) (Nat.zero_le _) (by omega) (by omega); omega

theorem Way.all {it : Nat → Int} {f : Nat → Nat} {items : List Int} {n p : Nat} (h : Way it f items n items.length p) : wantOf it f items n = wantOf it f items p := by
  refine wantOf_skip it f items h.pn fun x h1 h2 hm => ?_
  obtain ⟨t, ht⟩ := List.getElem?_of_mem hm
  have := h.hi x h1 h2 t _ (List.getElem?_eq_some_iff.1 ht).1 ht
  omega

/-- What the iterator reads. -/
structure IQ (Bsp Bit Bs sb gs S g n c gi ci : Nat) (it : Nat → Int) (f : Nat → Nat) (items : List Int) (W : World) : Prop where
  b1 : W.cell? ⟨Bsp, 0, none⟩ = some (.slice (some ⟨g, 0, none⟩) n c)
  b2 : W.cell? ⟨Bit, 0, none⟩ = some (.slice (some ⟨gi, 0, none⟩) items.length ci)
  b3 : W.cell? ⟨Bs, 0, none⟩ = some (.pointer (some ⟨sb, 0, none⟩))
  vs : Vs W sb gs S it
  rd : Rd W g n f
  ir : IRow W .i64 (some ⟨gi, 0, none⟩) items

/-- The count of work. -/
def Wk (sb : Nat) (v : Int) (W : World) : Prop := W.cell? ⟨sb, 40, none⟩ = some (.int .i64 v) ∧ W.frozen? ⟨sb, 40, none⟩ = false

/-- The iterator's own step: it counts, or draws. -/
def St (sb : Nat) (X Y : World) : Prop := ∃ q, Y = X.drewN q ∨ ∃ v, Y = (X.drewN q).setCell ⟨sb, 40, none⟩ (.int .i64 v)

theorem St.keeps {sb : Nat} {X Y : World} (h : St sb X Y) : KeepsOthers X Y := by
  obtain ⟨q, rfl | ⟨v, rfl⟩⟩ := h
  · exact ⟨Nat.le_refl _, fun k o h _ => h⟩
  · exact KeepsOthers.trans (B := X.drewN q) ⟨Nat.le_refl _, fun k o h _ => h⟩ (KeepsOthers.setCell _ _ _)

theorem IQ.drewN {Bsp Bit Bs sb gs S g n c gi ci : Nat} {it : Nat → Int} {f : Nat → Nat} {items : List Int} {W : World} (h : IQ Bsp Bit Bs sb gs S g n c gi ci it f items W) (q : Nat) : IQ Bsp Bit Bs sb gs S g n c gi ci it f items (W.drewN q) :=
  ⟨h.b1, h.b2, h.b3, h.vs.drewN q, h.rd, h.ir⟩

theorem IQ.set {Bsp Bit Bs sb gs S g n c gi ci : Nat} {it : Nat → Int} {f : Nat → Nat} {items : List Int} {W : World} (h : IQ Bsp Bit Bs sb gs S g n c gi ci it f items W) (n1 : Bsp ≠ sb) (n2 : Bit ≠ sb) (n3 : Bs ≠ sb) (n4 : gs ≠ sb) (n5 : g ≠ sb) (n6 : gi ≠ sb) (v : Value) : IQ Bsp Bit Bs sb gs S g n c gi ci it f items (W.setCell ⟨sb, 40, none⟩ v) := by
  have o : ∀ (p : Addr), p.block ≠ sb → (W.setCell ⟨sb, 40, none⟩ v).cell? p = W.cell? p := fun p hp => World.cell?_setCell_other _ _ _ _ (fun e => hp (by rw [← e]))
  refine ⟨(o _ n1).trans h.b1, (o _ n2).trans h.b2, (o _ n3).trans h.b3, ⟨(World.cell?_setCell_other _ _ _ _ (by intro e; cases e)).trans h.vs.spans, fun i hi => (o _ n4).trans (h.vs.item i hi)⟩, fun i hi => (o _ n5).trans (h.rd i hi), ?_⟩
  intro j x hj
  obtain ⟨g', o', e, hc⟩ := h.ir j x hj
  cases e
  exact ⟨gi, 0, rfl, (o _ n6).trans hc⟩

theorem Wk.set {sb : Nat} {v v' : Int} {W : World} (h : Wk sb v W) : Wk sb v' (W.setCell ⟨sb, 40, none⟩ (.int .i64 v')) :=
  ⟨World.cell?_setCell_same _ _ _ h.1, (World.frozen?_setCell _ _ _ _).trans h.2⟩

theorem bitLenAux_le : ∀ f x, Lib.bitLenAux f x ≤ f
  | 0, _ => Nat.le_refl _
  | f + 1, x => by
    rw [Lib.bitLenAux]
    have := bitLenAux_le f (x / 2)
    split <;> omega
theorem bitLen_le (x : Nat) : Lib.bitLen x ≤ 64 := bitLenAux_le 64 x

end Go.Proofs.Ybulkbxog
