/-
  Law B's road: the parts of slices.SortStableFunc walked: swapRange, rotate, the order's closure.
-/
import Derived.Test.YbulkbxogBa
import Derived.Test.YbulkbxogShelf
import Derived.Test.YbulkbxogMem
import Derived.WalkKit
import Derived.BigGuard
import Derived.BigCall
import Derived.CellFam
import Derived.Deep.Draws
import Derived.Deep.QuietTactic
import Derived.BigQuiet
namespace Go.Proofs.Ybulkbxog
open Go.RowKit

/-- The row of n numbers in block g reads as f. -/
structure Rw (w : World) (g n : Nat) (f : Nat → Nat) : Prop where
  cell : ∀ i, i < n → w.cell? ⟨g, i, none⟩ = some (.int .i64 (f i))
  fz : ∀ i, i < n → w.frozen? ⟨g, i, none⟩ = false

/-- All blocks but g are as they were. -/
structure Fr (g : Nat) (w w' : World) : Prop where
  os : w'.os = w.os
  tape : w'.tape = w.tape
  output : w'.output = w.output
  size : w'.heap.size = w.heap.size
  block : ∀ k, k ≠ g → w'.heap[k]? = w.heap[k]?

theorem Fr.refl (g : Nat) (w : World) : Fr g w w := ⟨rfl, rfl, rfl, rfl, fun _ _ => rfl⟩
theorem Fr.trans {g : Nat} {x y z : World} (h : Fr g x y) (k : Fr g y z) : Fr g x z := ⟨k.os.trans h.os, k.tape.trans h.tape, k.output.trans h.output, k.size.trans h.size, fun i hi => (k.block i hi).trans (h.block i hi)⟩
theorem Fr.drewN {g : Nat} {x y : World} (h : Fr g x y) (n : Nat) : Fr g x (y.drewN n) := ⟨h.os, h.tape, h.output, h.size, h.block⟩
theorem Fr.set {g : Nat} {x y : World} (h : Fr g x y) (i : Nat) (v : Value) : Fr g x (y.setCell ⟨g, i, none⟩ v) :=
  ⟨h.os, h.tape, h.output, by simpa [World.setCell] using h.size, fun k hk => by rw [Below.heap_setCell _ _ _ _ hk]; exact h.block k hk⟩
theorem Fr.cell {g : Nat} {x y : World} (h : Fr g x y) {p : Addr} (hp : p.block ≠ g) : y.cell? p = x.cell? p := World.cell?_of_block (w := x) (h.block p.block hp)

theorem Rw.drewN {w : World} {g n : Nat} {f : Nat → Nat} (h : Rw w g n f) (q : Nat) : Rw (w.drewN q) g n f := ⟨h.cell, h.fz⟩

theorem Rw.sw {w : World} {g n i j : Nat} {f : Nat → Nat} (h : Rw w g n f) (hi : i < n) (hj : j < n) (hij : i ≠ j) : Rw ((w.setCell ⟨g, i, none⟩ (.int .i64 (f j))).setCell ⟨g, j, none⟩ (.int .i64 (f i))) g n (Sw i j f) := by
  refine ⟨fun x hx => ?_, fun x hx => ?_⟩
  · by_cases h1 : x = j
    · subst h1
      rw [World.cell?_setCell_same (u := .int .i64 (f x)) _ _ _ ((World.cell?_setCell_other _ _ _ _ (by intro e; cases e; omega)).trans (h.cell x hx))]
      unfold Sw; rw [if_neg (by omega), if_pos rfl]
    · rw [World.cell?_setCell_other _ _ _ _ (by intro e; cases e; omega)]
      by_cases h2 : x = i
      · subst h2
        rw [World.cell?_setCell_same _ _ _ (h.cell x hx)]
        unfold Sw; rw [if_pos rfl]
      · rw [World.cell?_setCell_other _ _ _ _ (by intro e; cases e; omega), h.cell x hx]
        unfold Sw; rw [if_neg h2, if_neg h1]
  · rw [World.frozen?_setCell, World.frozen?_setCell]; exact h.fz x hx

set_option maxRecDepth 100000 in
set_option maxHeartbeats 800000 in
theorem swapRange_c (g L c a b n : Nat) (f : Nat → Nat) (cmp : Value) (w : World) (h : Rw w g L f) (hab : a + n ≤ b) (hb : b + n ≤ L) (hL : L ≤ 1024) :
    Calls Yba.prog 60 #[.slice (some ⟨g, 0, none⟩) L c, .int .i64 a, .int .i64 b, .int .i64 n, cmp] w fun e w' => e = .returned (.tuple #[]) ∧ Rw w' g L (Swp a b n f) ∧ Fr g w w' := by
  go_enter Yba.func60, Yba.ntmps60
  go_wp2
  go_loopw [10, 37] (fun i _ wr => ∃ k : Nat, k ≤ n ∧ i = .int .i64 k ∧ Rw wr g L (Swp a b k f) ∧ Fr g w wr) (fun i _ _ => n - (intOf i).toNat)
  case atStart => exact ⟨0, Nat.zero_le _, rfl, by rw [swp_zero]; exact h, Fr.refl _ _⟩
  case round =>
    obtain ⟨k, hk, rfl, hR, hF⟩ := hrel
    by_cases hlt : k < n
    · obtain ⟨G, hG⟩ : ∃ G : Nat → Nat, G = Swp a b k f := ⟨_, rfl⟩
      have HG : Hid (Sw (a + k) (b + k) G = Swp a b (k + 1) f) := by have := swp_succ a b k f (by omega); rw [← hG] at this; exact this
      rw [← hG] at hR
      clear hG
      have c1 := hR.cell (a + k) (by omega)
      have c2 := hR.cell (b + k) (by omega)
      have f1 := hR.fz (a + k) (by omega)
      have f2 := hR.fz (b + k) (by omega)
      have z1 : (0 : Int) ≤ (a : Int) + k := by omega
      have z2 : (0 : Int) ≤ (b : Int) + k := by omega
      have i1 : ((a : Int) + k) < L := by omega
      have i2 : ((b : Int) + k) < L := by omega
      have e1 : IntKind.i64.wrap ((a : Int) + k) = (a : Int) + k := by rw [IntKind.wrap_i64]; omega
      have e2 : IntKind.i64.wrap ((b : Int) + k) = (b : Int) + k := by rw [IntKind.wrap_i64]; omega
      have t1 : ((a : Int) + k).toNat = a + k := by omega
      have t2 : ((b : Int) + k).toNat = b + k := by omega
      go_wp2
      go_region
      all_goals go_wp2
      go_roundw
      case rel => exact ⟨k + 1, by omega, by go_num, by rw [← HG.out]; exact (hR.sw (by omega) (by omega) (by omega)).drewN 1, ((hF.set _ _).set _ _).drewN 1⟩
      case measure => simp [intOf]; omega
    · have hke : k = n := by omega
      subst hke
      go_wp2
      go_end0
      exact ⟨rfl, hR, hF⟩

set_option maxRecDepth 100000 in
set_option maxHeartbeats 800000 in
theorem rotate_c (g L c a m b : Nat) (f : Nat → Nat) (cmp : Value) (w : World) (h : Rw w g L f) (ham : a < m) (hmb : m < b) (hb : b ≤ L) (hL : L ≤ 1024) :
    Calls Yba.prog 54 #[.slice (some ⟨g, 0, none⟩) L c, .int .i64 a, .int .i64 m, .int .i64 b, cmp] w fun e w' => e = .returned (.tuple #[]) ∧ Rw w' g L (Rot a m b f) ∧ Fr g w w' := by
  go_enter Yba.func54, Yba.ntmps54
  go_wp2
  go_loopw [10, 11, 49] (fun vi vj _ wr => ∃ (i j : Nat) (G : Nat → Nat), 1 ≤ i ∧ i ≤ m ∧ 1 ≤ j ∧ m + j ≤ L ∧ vi = .int .i64 i ∧ vj = .int .i64 j ∧ Hid (Rot (m - i) m (m + j) G = Rot a m b f) ∧ Rw wr g L G ∧ Fr g w wr) (fun vi vj _ _ => (intOf vi).toNat + (intOf vj).toNat)
  case atStart => exact ⟨m - a, b - m, f, by omega, by omega, by omega, by omega, by congr 1; omega, by congr 1; omega, by show _ = _; rw [show m - (m - a) = a by omega, show m + (b - m) = b by omega], h, Fr.refl _ _⟩
  case round =>
    obtain ⟨i, j, G, hi1, hi2, hj1, hj2, rfl, rfl, HG, hR, hF⟩ := hrel
    by_cases hij : i = j
    · subst hij
      obtain ⟨p, hp⟩ : ∃ p : Nat, (m : Int) - i = p := ⟨m - i, by omega⟩
      have HP : Hid (p = m - i) := by show p = m - i; omega
      go_wp2_with fail
      refine (swapRange_c g L c p m i G cmp wr hR (by have := HP.out; omega) (by omega) hL).mono ?_
      rintro e w2 ⟨rfl, hR2, hF2⟩
      go_wp2
      go_end0
      refine ⟨rfl, ?_, hF.trans hF2⟩
      rw [← HG.out, rot_eq m i G hi2, ← HP.out]; exact hR2
    · by_cases hlt : j < i
      · obtain ⟨p, hp⟩ : ∃ p : Nat, (m : Int) - i = p := ⟨m - i, by omega⟩
        have HP : Hid (p = m - i) := by show p = m - i; omega
        have hne : ¬ ((i : Int) = j) := by omega
        go_wp2_with fail
        refine (swapRange_c g L c p m j G cmp wr hR (by have := HP.out; omega) (by omega) hL).mono ?_
        rintro e w2 ⟨rfl, hR2, hF2⟩
        go_wp2
        go_roundw
        case rel => exact ⟨i - j, j, _, by omega, by omega, hj1, hj2, by congr 1; omega, rfl, by show _ = _; rw [HP.out, ← rot_gt m i j G hlt hi2]; exact HG.out, hR2, hF.trans hF2⟩
        case measure => simp [intOf]; omega
      · obtain ⟨p, hp⟩ : ∃ p : Nat, (m : Int) - i = p := ⟨m - i, by omega⟩
        obtain ⟨q, hq⟩ : ∃ q : Nat, (m : Int) + j - i = q := ⟨m + j - i, by omega⟩
        have HP : Hid (p = m - i) := by show p = m - i; omega
        have HQ : Hid (q = m + j - i) := by show q = m + j - i; omega
        have hne : ¬ ((i : Int) = j) := by omega
        have hle : (i : Int) < j := by omega
        go_wp2_with fail
        refine (swapRange_c g L c p q i G cmp wr hR (by have := HP.out; have := HQ.out; omega) (by have := HQ.out; omega) hL).mono ?_
        rintro e w2 ⟨rfl, hR2, hF2⟩
        go_wp2
        go_roundw
        case rel => exact ⟨i, j - i, _, hi1, hi2, by omega, by omega, rfl, by congr 1; omega, by show _ = _; rw [HP.out, HQ.out, ← rot_lt m i j G (by omega) hi2]; exact HG.out, hR2, hF.trans hF2⟩
        case measure => simp [intOf]; omega

end Go.Proofs.Ybulkbxog
