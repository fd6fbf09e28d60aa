/-
  Law B's road: slices.stableCmpFunc, slices.SortStableFunc.
-/
import Derived.Test.YbulkbxogBe2
namespace Go.Proofs.Ybulkbxog
open Go.RowKit

theorem blk_eq {B q k y : Nat} (h1 : q * B ≤ y) (h2 : y < q * B + B) (h3 : k * B ≤ y) (h4 : y < k * B + B) : q = k := by
  rcases Nat.lt_trichotomy q k with h | h | h
  · have := Nat.mul_le_mul_right B (show q + 1 ≤ k by omega)
    rw [Nat.succ_mul] at this; omega
  · exact h
  · have := Nat.mul_le_mul_right B (show k + 1 ≤ q by omega)
    rw [Nat.succ_mul] at this; omega

/-- The blocks of length B are sorted as far as they lie in [lo, hi). -/
def Bls (key : Nat → Int) (B lo hi : Nat) (f : Nat → Nat) : Prop := ∀ q x y, q * B ≤ x → x ≤ y → y < q * B + B → lo ≤ x → y < hi → key (f x) ≤ key (f y)

theorem Bls.none {key : Nat → Int} {B : Nat} {f : Nat → Nat} (lo : Nat) : Bls key B lo 0 f := fun _ _ _ _ _ _ _ h => absurd h (Nat.not_lt_zero _)

theorem Bls.keep {key : Nat → Int} {B lo hi a b : Nat} {f f' : Nat → Nat} (h : Bls key B lo hi f) (k : In a b f f') (hd : hi ≤ a ∨ b ≤ lo) : Bls key B lo hi f' := fun q x y h1 h2 h3 h4 h5 => by
  rw [k.out x (by omega), k.out y (by omega)]; exact h q x y h1 h2 h3 h4 h5

/-- One block more. -/
theorem Bls.more {key : Nat → Int} {B k b : Nat} {f : Nat → Nat} (h : Bls key B 0 (k * B) f) (hs : Srt key (k * B) b f) (hb : b ≤ k * B + B) : Bls key B 0 b f := fun q x y h1 h2 h3 h4 h5 => by
  by_cases e : y < k * B
  · exact h q x y h1 h2 h3 h4 e
  · obtain rfl := blk_eq (q := q) (k := k) (B := B) (y := y) (by omega) h3 (by omega) (by omega)
    exact hs x y h1 h2 h5

theorem Bls.later {key : Nat → Int} {B lo lo' hi : Nat} {f : Nat → Nat} (h : Bls key B lo hi f) (hl : lo ≤ lo') : Bls key B lo' hi f := fun q x y h1 h2 h3 h4 h5 => h q x y h1 h2 h3 (by omega) h5

theorem Bls.block {key : Nat → Int} {B lo hi q a b : Nat} {f : Nat → Nat} (h : Bls key B lo hi f) (h1 : q * B = a) (h2 : b ≤ a + B) (h3 : lo ≤ a) (h4 : b ≤ hi) : Srt key a b f := fun x y e1 e2 e3 => h q x y (by omega) e2 (by omega) (by omega) (by omega)

set_option maxRecDepth 100000 in
set_option maxHeartbeats 1600000 in
theorem stable_c (g n c Bb gs S : Nat) (it : Nat → Int) (f : Nat → Nat) (w : World) (h : Rw w g n f) (hv : ∀ i, i < n → f i < S) (hS : Sp w Bb gs S it) (h1 : Bb ≠ g) (h2 : gs ≠ g) (hn : n ≤ 1024) :
    Calls Yba.prog 32 #[.slice (some ⟨g, 0, none⟩) n c, .int .i64 n, cmpv Bb] w fun e w' => e = .returned (.tuple #[]) ∧ ∃ f', Rw w' g n f' ∧ In 0 n f f' ∧ Srt it 0 n f' ∧ Fr g w w' := by
  go_enter Yba.func32, Yba.ntmps32
  go_wp2
  go_loopw [7, 8, 22] (fun va vb _ wr => ∃ (k a b : Nat) (G : Nat → Nat), va = .int .i64 a ∧ vb = .int .i64 b ∧ Hid (k * 20 = a) ∧ b = a + 20 ∧ a ≤ n ∧ In 0 n f G ∧ Bls it 20 0 a G ∧ Rw wr g n G ∧ Fr g w wr) (fun _ vb _ _ => 2000 - (intOf vb).toNat)
  case atStart => exact ⟨0, 0, 20, f, rfl, rfl, rfl, rfl, Nat.zero_le _, In.refl _ _ _, Bls.none _, h, Fr.refl _ _⟩
  case round =>
    obtain ⟨k, a, b, G, rfl, rfl, HA, hab, han, hI, hB, hR, hF⟩ := hrel
    have HAB : Hid (b = a + 20) := hab
    have hab1 : a ≤ b := by omega
    have hab2 : b ≤ 1044 := by omega
    clear hab
    by_cases hbn : b ≤ n
    · go_wp2_with fail
      refine (isort_c g n c a b Bb gs S it G wr hR (hI.bound (Nat.le_refl _) hv) (hS.fr hF h1 h2) h1 h2 hab1 hbn hn).mono ?_
      rintro e' w2 ⟨rfl, G', hR2, hI2, hs2, hF2⟩
      go_wp2
      go_roundw
      case rel =>
        have ha := HA.out
        have hab := HAB.out
        refine ⟨k + 1, b, b + 20, G', rfl, by go_num, ?_, rfl, hbn, hI.trans (hI2.wide (Nat.zero_le _) hbn), ?_, hR2, hF.trans hF2⟩
        · show (k + 1) * 20 = b
          omega
        · have := hB.keep hI2 (.inl (Nat.le_refl _))
          rw [← ha] at this hs2
          exact this.more hs2 (by omega)
      case measure => simp [intOf]; omega
    · go_wp2_with fail
      refine (isort_c g n c a n Bb gs S it G wr hR (hI.bound (Nat.le_refl _) hv) (hS.fr hF h1 h2) h1 h2 han (Nat.le_refl _) hn).mono ?_
      rintro e' w2 ⟨rfl, G', hR2, hI2, hs2, hF2⟩
      have I1 : In 0 n f G' := hI.trans (hI2.wide (Nat.zero_le _) (Nat.le_refl _))
      have B1 : Bls it 20 0 n G' := by
        have ha := HA.out
        have hab := HAB.out
        have := hB.keep hI2 (.inl (Nat.le_refl _))
        rw [← ha] at this hs2
        exact this.more hs2 (by omega)
      have F1 := hF.trans hF2
      clear hI hB hR hF hs2 hI2 hF2 HA HAB h
      go_wp2
      go_loopw [6, 62] (fun vs _ wq => ∃ (B : Nat) (G : Nat → Nat), vs = .int .i64 B ∧ 1 ≤ B ∧ B ≤ 2048 ∧ In 0 n f G ∧ Bls it B 0 n G ∧ Rw wq g n G ∧ Fr g w wq) (fun vs _ _ => 4096 - (intOf vs).toNat)
      case atStart => exact ⟨20, G', rfl, by omega, by omega, I1, B1, hR2, F1⟩
      case round =>
        clear I1 B1 hR2 F1
        obtain ⟨B, G, rfl, hB1, hB2, hI, hBl, hR, hF⟩ := hrel
        by_cases hlt : B < n
        · clear hbn hab1 hab2 han
          go_wp2
          go_loopw [7, 8, 48] (fun va vb _ wz => ∃ (k a b : Nat) (G : Nat → Nat), va = .int .i64 a ∧ vb = .int .i64 b ∧ Hid (k * (2 * B) = a) ∧ b = a + 2 * B ∧ a ≤ n ∧ In 0 n f G ∧ Bls it (2 * B) 0 a G ∧ Bls it B a n G ∧ Rw wz g n G ∧ Fr g w wz) (fun _ vb _ _ => 8000 - (intOf vb).toNat)
          case atStart => exact ⟨0, 0, 2 * B, G, rfl, by go_num, Nat.zero_mul _, by omega, Nat.zero_le _, hI, Bls.none _, hBl, hR, hF⟩
          case round =>
            clear hI hBl hR hF
            obtain ⟨k, a, b, G, rfl, rfl, HA, hab, han, hI, hL1, hL2, hR, hF⟩ := hrel
            have HAB : Hid (b = a + 2 * B) := hab
            have e1 : 2 * k * B = a := by rw [← HA.out, Nat.mul_comm 2 k, Nat.mul_assoc]
            have e2 : (2 * k + 1) * B = a + B := by rw [Nat.succ_mul, e1]
            have E1 : Hid (2 * k * B = a) := e1
            have E2 : Hid ((2 * k + 1) * B = a + B) := e2
            have hb3 : b ≤ 6000 := by omega
            have hb4 : a + B < b := by omega
            clear e1 e2 hab
            by_cases hbn : b ≤ n
            · obtain ⟨m, em⟩ : ∃ m : Nat, (a : Int) + B = m := ⟨a + B, by omega⟩
              have HM : Hid (m = a + B) := by show m = a + B; omega
              have hm1 : a < m := by omega
              have hm2 : m < b := by omega
              go_wp2_with fail
              refine (merge_all (b - a) g n c a m b Bb gs S it G wr (Nat.le_refl _) hR (hI.bound (Nat.le_refl _) hv) (hS.fr hF h1 h2) h1 h2 hm1 hm2 hbn hn (hL2.block E1.out (by have := HM.out; omega) (Nat.le_refl _) (by omega)) (by
                have := hL2.block (b := b) E2.out (by have := HAB.out; omega) (by omega) (by omega)
                rw [← HM.out] at this; exact this)).mono ?_
              rintro e' w2 ⟨rfl, G', hR2, hI2, hs2, hF2⟩
              go_wp2
              go_roundw
              case rel =>
                have ha := HA.out
                have hab := HAB.out
                refine ⟨k + 1, b, b + 2 * B, G', rfl, by go_num, ?_, rfl, hbn, hI.trans (hI2.wide (Nat.zero_le _) hbn), ?_, (hL2.later (by omega)).keep hI2 (.inr (Nat.le_refl _)), hR2, hF.trans hF2⟩
                · show (k + 1) * (2 * B) = b
                  rw [Nat.succ_mul, ha, hab]
                · have := hL1.keep hI2 (.inl (Nat.le_refl _))
                  rw [← ha] at this hs2
                  exact this.more hs2 (by omega)
              case measure => simp [intOf]; omega
            · by_cases hmn : a + B < n
              · obtain ⟨m, em⟩ : ∃ m : Nat, (a : Int) + B = m := ⟨a + B, by omega⟩
                have HM : Hid (m = a + B) := by show m = a + B; omega
                have hm1 : a < m := by omega
                have hm2 : m < n := by omega
                go_wp2_with fail
                refine (merge_all (n - a) g n c a m n Bb gs S it G wr (Nat.le_refl _) hR (hI.bound (Nat.le_refl _) hv) (hS.fr hF h1 h2) h1 h2 hm1 hm2 (Nat.le_refl _) hn (hL2.block E1.out (by have := HM.out; omega) (Nat.le_refl _) (by omega)) (by
                  have := hL2.block (b := n) E2.out (by have := HAB.out; omega) (by omega) (Nat.le_refl _)
                  rw [← HM.out] at this; exact this)).mono ?_
                rintro e' w2 ⟨rfl, G', hR2, hI2, hs2, hF2⟩
                go_wp2
                go_roundw
                case rel =>
                  have ha := HA.out
                  have hab := HAB.out
                  refine ⟨2 * B, G', by congr 1; omega, by omega, by omega, hI.trans (hI2.wide (Nat.zero_le _) (Nat.le_refl _)), ?_, hR2, hF.trans hF2⟩
                  have := hL1.keep hI2 (.inl (Nat.le_refl _))
                  rw [← ha] at this hs2
                  exact this.more hs2 (by omega)
                case measure => simp [intOf]; omega
              · have hmn' : (n : Int) ≤ (a : Int) + B := by omega
                have hmd : decide ((a : Int) + B < n) = false := by simp; omega
                go_wp2
                go_roundw
                case rel =>
                  have ha := HA.out
                  have hab := HAB.out
                  refine ⟨2 * B, G, by congr 1; omega, by omega, by omega, hI, ?_, hR, hF⟩
                  have hs2 : Srt it a n G := hL2.block E1.out (by omega) (Nat.le_refl _) (Nat.le_refl _)
                  have := hL1
                  rw [← ha] at this hs2
                  exact this.more hs2 (by omega)
                case measure => simp [intOf]; omega
        · go_wp2
          go_end0
          exact ⟨rfl, G, hR, hI, hBl.block (q := 0) (Nat.zero_mul _) (by omega) (Nat.le_refl _) (Nat.le_refl _), hF⟩

set_option maxRecDepth 100000 in
theorem sortStable_c (g n c Bb gs S : Nat) (it : Nat → Int) (f : Nat → Nat) (w : World) (h : Rw w g n f) (hv : ∀ i, i < n → f i < S) (hS : Sp w Bb gs S it) (h1 : Bb ≠ g) (h2 : gs ≠ g) (hn : n ≤ 1024) :
    Calls Yba.prog 17 #[.slice (some ⟨g, 0, none⟩) n c, cmpv Bb] w fun e w' => e = .returned (.tuple #[]) ∧ ∃ f', Rw w' g n f' ∧ In 0 n f f' ∧ Srt it 0 n f' ∧ Fr g w w' := by
  go_enter Yba.func17, Yba.ntmps17
  go_wp2_with fail
  refine (stable_c g n c Bb gs S it f w h hv hS h1 h2 hn).mono ?_
  rintro e' w2 ⟨rfl, h'⟩
  go_wp2
  go_end0
  exact ⟨rfl, h'⟩

end Go.Proofs.Ybulkbxog
