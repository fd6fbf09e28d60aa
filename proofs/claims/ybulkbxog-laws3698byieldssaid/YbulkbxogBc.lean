/-
  Law B's road: the order's closure, and slices.insertionSortCmpFunc.
-/
import Derived.Test.YbulkbxogBb
namespace Go.Proofs.Ybulkbxog
open Go.RowKit

/-- The variable 'ss' in its box Bb holds S spans; the item of span i is it i. -/
structure Sp (w : World) (Bb gs S : Nat) (it : Nat → Int) : Prop where
  box : w.cell? ⟨Bb, 0, none⟩ = some (.slice (some ⟨gs, 0, none⟩) S S)
  item : ∀ i, i < S → w.cell? ⟨gs, i * 3 + 2, none⟩ = some (.int .i64 (it i))

theorem Sp.fr {w w' : World} {Bb gs S g : Nat} {it : Nat → Int} (h : Sp w Bb gs S it) (hF : Fr g w w') (h1 : Bb ≠ g) (h2 : gs ≠ g) : Sp w' Bb gs S it :=
  ⟨(hF.cell h1).trans h.box, fun i hi => (hF.cell h2).trans (h.item i hi)⟩

theorem Sp.drewN {w : World} {Bb gs S : Nat} {it : Nat → Int} (h : Sp w Bb gs S it) (n : Nat) : Sp (w.drewN n) Bb gs S it := ⟨h.box, h.item⟩

theorem compare_neg (x y : Int) : (Lib.compareInt x y < 0) ↔ x < y := by
  unfold Lib.compareInt
  split <;> (try split) <;> omega

abbrev cmpv (Bb : Nat) : Value := .func (.func 18) #[] #[.pointer (some ⟨Bb, 0, none⟩)]

set_option maxRecDepth 100000 in
set_option maxHeartbeats 800000 in
theorem cmp18 (Bb gs S : Nat) (it : Nat → Int) (x y : Nat) (w : World) (h : Sp w Bb gs S it) (hx : x < S) (hy : y < S) :
    Calls Yba.prog 18 #[.int .i64 x, .int .i64 y, .pointer (some ⟨Bb, 0, none⟩)] w fun e w' => e = .returned (.int .i64 (Lib.compareInt (it x) (it y))) ∧ ∃ n, w' = w.drewN n := by
  have hb := h.box
  have c1 := h.item x hx
  have c2 := h.item y hy
  have q1 : (x : Int) < S := by omega
  have q2 : (y : Int) < S := by omega
  go_enter Yba.func18, Yba.ntmps18
  go_wp2
  go_quiet (first | (go_at_call 19; refine Calls.quiet_of_same (Yba.cmp_Compare_int _ _ _)))
  go_wp2
  go_ret
  exact ⟨rfl, _, rfl⟩

theorem In.bound {a b n S : Nat} {f f' : Nat → Nat} (h : In a b f f') (hb : b ≤ n) (hv : ∀ i, i < n → f i < S) : ∀ i, i < n → f' i < S := by
  intro i hi
  by_cases hx : a ≤ i ∧ i < b
  · obtain ⟨y, _, y2, e⟩ := h.ins i hx.1 hx.2
    rw [e]; exact hv y (by omega)
  · rw [h.out i (by omega)]; exact hv i hi

/-- The insertion's inner round. -/
def Ins (key : Nat → Int) (a i j : Nat) (f : Nat → Nat) : Prop := ∀ x y, a ≤ x → x < y → y ≤ i → y ≠ j → key (f x) ≤ key (f y)

theorem Ins.start {key : Nat → Int} {a i : Nat} {f : Nat → Nat} (h : Srt key a i f) : Ins key a i i f := fun x y h1 h2 h3 h4 => h x y h1 (by omega) (by omega)

theorem Ins.step {key : Nat → Int} {a i j : Nat} {f : Nat → Nat} (h : Ins key a i j f) (hj : a < j) (hji : j ≤ i) (hl : key (f j) < key (f (j - 1))) : Ins key a i (j - 1) (Sw j (j - 1) f) := by
  intro x y h1 h2 h3 h4
  by_cases e1 : y = j
  · subst e1
    have v1 : Sw y (y - 1) f y = f (y - 1) := by simp [Sw]
    by_cases e2 : x = y - 1
    · subst e2
      have v2 : Sw y (y - 1) f (y - 1) = f y := by unfold Sw; rw [if_neg (by omega), if_pos rfl]
      rw [v1, v2]; omega
    · have v2 : Sw y (y - 1) f x = f x := by unfold Sw; rw [if_neg (by omega), if_neg e2]
      rw [v1, v2]; exact h x (y - 1) h1 (by omega) (by omega) (by omega)
  · have v1 : Sw j (j - 1) f y = f y := by unfold Sw; rw [if_neg e1, if_neg h4]
    rw [v1]
    unfold Sw
    split
    · exact h (j - 1) y (by omega) (by omega) h3 e1
    · split
      · exact h j y (by omega) (by omega) h3 e1
      · exact h x y h1 h2 h3 e1

theorem Ins.done {key : Nat → Int} {a i j : Nat} {f : Nat → Nat} (h : Ins key a i j f) (haj : a ≤ j) (hji : j ≤ i) (hs : j = a ∨ key (f (j - 1)) ≤ key (f j)) : Srt key a (i + 1) f := by
  intro x y h1 h2 h3
  by_cases e0 : x = y
  · subst e0; exact Int.le_refl _
  by_cases e1 : y = j
  · subst e1
    rcases hs with hs | hs
    · omega
    · by_cases e2 : x = y - 1
      · subst e2; exact hs
      · have := h x (y - 1) h1 (by omega) (by omega) (by omega); omega
  · exact h x y h1 (by omega) (by omega) e1

set_option maxRecDepth 100000 in
set_option maxHeartbeats 1600000 in
theorem isort_c (g n c a b Bb gs S : Nat) (it : Nat → Int) (f : Nat → Nat) (w : World) (h : Rw w g n f) (hv : ∀ i, i < n → f i < S) (hS : Sp w Bb gs S it) (h1 : Bb ≠ g) (h2 : gs ≠ g) (hab : a ≤ b) (hb : b ≤ n) (hn : n ≤ 1024) :
    Calls Yba.prog 40 #[.slice (some ⟨g, 0, none⟩) n c, .int .i64 a, .int .i64 b, cmpv Bb] w fun e w' => e = .returned (.tuple #[]) ∧ ∃ f', Rw w' g n f' ∧ In a b f f' ∧ Srt it a b f' ∧ Fr g w w' := by
  go_enter Yba.func40, Yba.ntmps40
  go_wp2
  go_loopw [8, 14] (fun vi _ wr => ∃ (i : Nat) (G : Nat → Nat), a + 1 ≤ i ∧ (i ≤ b ∨ i = a + 1) ∧ vi = .int .i64 i ∧ In a b f G ∧ Srt it a i G ∧ Rw wr g n G ∧ Fr g w wr) (fun vi _ _ => b + 1 - (intOf vi).toNat)
  case atStart => exact ⟨a + 1, f, Nat.le_refl _, .inr rfl, by go_num, In.refl _ _ _, Srt.one (Nat.le_refl _), h, Fr.refl _ _⟩
  case round =>
    obtain ⟨i, G, hai, hib, rfl, hI, hs, hR, hF⟩ := hrel
    by_cases hlt : i < b
    · go_wp2
      go_loopw [9, 52] (fun vj _ wq => ∃ (j : Nat) (G : Nat → Nat), a ≤ j ∧ j ≤ i ∧ vj = .int .i64 j ∧ In a b f G ∧ Ins it a i j G ∧ Rw wq g n G ∧ Fr g w wq) (fun vj _ _ => (intOf vj).toNat)
      case atStart => exact ⟨i, G, by omega, Nat.le_refl _, rfl, hI, Ins.start hs, hR, hF⟩
      case round =>
        clear hI hs hR hF
        obtain ⟨j, G, haj, hji, rfl, hI, hs, hR, hF⟩ := hrel
        by_cases hja : a < j
        · have hSr := hS.fr hF h1 h2
          have hvG := hI.bound hb hv
          have c1 := hR.cell j (by omega)
          have c2 := hR.cell (j - 1) (by omega)
          have f1 := hR.fz j (by omega)
          have f2 := hR.fz (j - 1) (by omega)
          have b1 := hvG j (by omega)
          have b2 := hvG (j - 1) (by omega)
          have q1 : (j : Int) < n := by omega
          have q2 : (j : Int) - 1 < n := by omega
          have q3 : (0 : Int) ≤ (j : Int) - 1 := by omega
          have q4 : ((j : Int) - 1).toNat = j - 1 := by omega
          have q5 : (a : Int) < j := by omega
          have q6 : IntKind.i64.wrap ((j : Int) - 1) = (j : Int) - 1 := by rw [IntKind.wrap_i64]; omega
          have HV : Hid (∀ i, i < n → G i < S) := hvG
          clear hvG
          by_cases hl : it (G j) < it (G (j - 1))
          · have hd : Lib.compareInt (it (G j)) (it (G (j - 1))) < 0 := (compare_neg _ _).2 hl
            go_wp2
            go_quiet (first | (go_at_call 18; refine Calls.quiet_of (cmp18 Bb gs S it _ _ _ (hSr.drewN _) b1 b2)))
            go_wp2
            go_region
            all_goals go_wp2
            go_roundw
            case rel =>
              refine ⟨j - 1, Sw j (j - 1) G, by omega, by omega, by congr 1; omega, hI.trans (In.sw G ⟨by omega, by omega⟩ ⟨by omega, by omega⟩), hs.step hja hji hl, ?_, ?_⟩
              · exact (hR.sw (by omega) (by omega) (by omega)).drewN _
              · exact ((hF.set _ _).set _ _).drewN _
            case measure => simp [intOf]; omega
          · have hd : ¬ Lib.compareInt (it (G j)) (it (G (j - 1))) < 0 := fun e => hl ((compare_neg _ _).1 e)
            go_wp2
            go_quiet (first | (go_at_call 18; refine Calls.quiet_of (cmp18 Bb gs S it _ _ _ (hSr.drewN _) b1 b2)))
            go_wp2
            go_roundw
            case rel => exact ⟨i + 1, G, by omega, by omega, by go_num, hI, hs.done haj hji (.inr (by omega)), hR.drewN _, hF.drewN _⟩
            case measure => simp [intOf]; omega
        · have hjd : decide ((a : Int) < j) = false := by simp; omega
          go_wp2
          go_quiet (fail)
          go_wp2
          go_roundw
          case rel => exact ⟨i + 1, G, by omega, by omega, by go_num, hI, hs.done haj hji (.inl (by omega)), hR.drewN _, hF.drewN _⟩
          case measure => simp [intOf]; omega
    · go_wp2
      go_end0
      exact ⟨rfl, G, hR, hI, hs.sub (Nat.le_refl _) (by omega), hF⟩

end Go.Proofs.Ybulkbxog
