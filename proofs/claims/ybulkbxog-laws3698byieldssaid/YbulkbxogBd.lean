/-
  Law B's road: slices.symMergeCmpFunc, where one of the two parts holds one element.
-/
import Derived.Test.YbulkbxogBc
namespace Go.Proofs.Ybulkbxog
open Go.RowKit

set_option maxRecDepth 100000 in
set_option maxHeartbeats 1600000 in
theorem merge_first (g n c a b Bb gs S : Nat) (it : Nat → Int) (f : Nat → Nat) (w : World) (h : Rw w g n f) (hv : ∀ i, i < n → f i < S) (hS : Sp w Bb gs S it) (h1 : Bb ≠ g) (h2 : gs ≠ g) (hab : a + 1 < b) (hb : b ≤ n) (hn : n ≤ 1024) (hs : Srt it (a + 1) b f) :
    Calls Yba.prog 41 #[.slice (some ⟨g, 0, none⟩) n c, .int .i64 a, .int .i64 ((a : Int) + 1), .int .i64 b, cmpv Bb] w fun e w' => e = .returned (.tuple #[]) ∧ ∃ f', Rw w' g n f' ∧ In a b f f' ∧ Srt it a b f' ∧ Fr g w w' := by
  have qd : ((a : Int) + 1 - a) = 1 := by omega
  go_enter Yba.func41, Yba.ntmps41
  go_wp2
  go_loopw [10, 11, 53] (fun vi vj _ wr => ∃ (i j : Nat), a + 1 ≤ i ∧ i ≤ j ∧ j ≤ b ∧ vi = .int .i64 i ∧ vj = .int .i64 j ∧ (i = a + 1 ∨ it (f (i - 1)) < it (f a)) ∧ (j = b ∨ it (f a) ≤ it (f j)) ∧ Rw wr g n f ∧ Fr g w wr) (fun vi vj _ _ => (intOf vj).toNat - (intOf vi).toNat)
  case atStart => exact ⟨a + 1, b, Nat.le_refl _, by omega, Nat.le_refl _, by go_num, rfl, .inl rfl, .inl rfl, h, Fr.refl _ _⟩
  case round =>
    obtain ⟨i, j, hi, hij, hj, rfl, rfl, H1, H2, hR, hF⟩ := hrel
    have HH1 : Hid (i = a + 1 ∨ it (f (i - 1)) < it (f a)) := H1
    have HH2 : Hid (j = b ∨ it (f a) ≤ it (f j)) := H2
    clear H1 H2
    by_cases hlt : i < j
    · obtain ⟨m, em⟩ : ∃ m : Nat, ((i : Int) + j) / 2 = m := ⟨(i + j) / 2, by omega⟩
      have hm1 : i ≤ m := by omega
      have hm2 : m < j := by omega
      have hSr := hS.fr hF h1 h2
      have c1 := hR.cell m (by omega)
      have c2 := hR.cell a (by omega)
      have b1 := hv m (by omega)
      have b2 := hv a (by omega)
      have q1 : (m : Int) < n := by omega
      have q2 : (a : Int) < n := by omega
      by_cases hl : it (f m) < it (f a)
      · have hd : Lib.compareInt (it (f m)) (it (f a)) < 0 := (compare_neg _ _).2 hl
        go_wp2
        go_quiet (first | (go_at_call 18; refine Calls.quiet_of (cmp18 Bb gs S it _ _ _ (hSr.drewN _) b1 b2)))
        go_wp2
        go_roundw
        case rel => exact ⟨m + 1, j, by omega, by omega, hj, by go_num, rfl, .inr (by simpa using hl), HH2.out, hR.drewN _, hF.drewN _⟩
        case measure => simp [intOf]; omega
      · have hd : ¬ Lib.compareInt (it (f m)) (it (f a)) < 0 := fun e => hl ((compare_neg _ _).1 e)
        go_wp2
        go_quiet (first | (go_at_call 18; refine Calls.quiet_of (cmp18 Bb gs S it _ _ _ (hSr.drewN _) b1 b2)))
        go_wp2
        go_roundw
        case rel => exact ⟨i, m, hi, hm1, by omega, rfl, rfl, HH1.out, .inr (by omega), hR.drewN _, hF.drewN _⟩
        case measure => simp [intOf]; omega
    · have hje : j = i := by omega
      subst hje
      clear h hS
      go_wp2
      go_loopw [13, 76] (fun vk _ wq => ∃ (k : Nat) (G : Nat → Nat), a ≤ k ∧ k + 1 ≤ j ∧ vk = .int .i64 k ∧ Hid (G = Rot a (a + 1) (k + 1) f) ∧ Rw wq g n G ∧ Fr g w wq) (fun vk _ _ => j - (intOf vk).toNat)
      case atStart => exact ⟨a, f, Nat.le_refl _, hi, rfl, by show f = _; rw [rot_left _ _ _ (by omega)], hR, hF⟩
      case round =>
        clear hR hF
        obtain ⟨k, G, hk1, hk2, rfl, HG, hR, hF⟩ := hrel
        by_cases hkl : k + 1 < j
        · have c1 := hR.cell k (by omega)
          have c2 := hR.cell (k + 1) (by omega)
          have f1 := hR.fz k (by omega)
          have f2 := hR.fz (k + 1) (by omega)
          have q1 : (k : Int) < n := by omega
          have q2 : (k : Int) + 1 < n := by omega
          have q3 : (k : Int) < (j : Int) - 1 := by omega
          have q4 : IntKind.i64.wrap ((k : Int) + 1) = (k : Int) + 1 := by rw [IntKind.wrap_i64]; omega
          have q5 : ((k : Int) + 1).toNat = k + 1 := by omega
          have q6 : (0 : Int) ≤ (k : Int) + 1 := by omega
          go_wp2
          go_region
          all_goals go_wp2
          go_roundw
          case rel =>
            refine ⟨k + 1, Sw k (k + 1) G, by omega, by omega, by go_num, ?_, (hR.sw (by omega) (by omega) (by omega)).drewN _, ((hF.set _ _).set _ _).drewN _⟩
            show _ = _
            rw [HG.out]; exact rot_up a k f hk1
          case measure => simp [intOf]; omega
        · have q3 : (j : Int) - 1 ≤ (k : Int) := by omega
          have hje : k + 1 = j := by omega
          have eG := HG.out
          rw [hje] at eG
          clear HG
          subst eG
          go_wp2
          refine bodyPost_ret (results_none rfl _ _ _) rfl ?_
          exact ⟨rfl, _, hR, (In.rot f (by omega) hi).wide (Nat.le_refl _) hj, hs.first hi hj HH1.out HH2.out, hF⟩

set_option maxRecDepth 100000 in
set_option maxHeartbeats 1600000 in
theorem merge_last (g n c a m Bb gs S : Nat) (it : Nat → Int) (f : Nat → Nat) (w : World) (h : Rw w g n f) (hv : ∀ i, i < n → f i < S) (hS : Sp w Bb gs S it) (h1 : Bb ≠ g) (h2 : gs ≠ g) (ham : a + 1 < m) (hb : m + 1 ≤ n) (hn : n ≤ 1024) (hs : Srt it a m f) :
    Calls Yba.prog 41 #[.slice (some ⟨g, 0, none⟩) n c, .int .i64 a, .int .i64 m, .int .i64 ((m : Int) + 1), cmpv Bb] w fun e w' => e = .returned (.tuple #[]) ∧ ∃ f', Rw w' g n f' ∧ In a (m + 1) f f' ∧ Srt it a (m + 1) f' ∧ Fr g w w' := by
  have qd : ((m : Int) + 1 - m) = 1 := by omega
  have qe : ((m : Int) - a == 1) = false := by simp; omega
  go_enter Yba.func41, Yba.ntmps41
  go_wp2
  go_loopw [14, 15, 106] (fun vi vj _ wr => ∃ (i j : Nat), a ≤ i ∧ i ≤ j ∧ j ≤ m ∧ vi = .int .i64 i ∧ vj = .int .i64 j ∧ (i = a ∨ it (f (i - 1)) ≤ it (f m)) ∧ (j = m ∨ it (f m) < it (f j)) ∧ Rw wr g n f ∧ Fr g w wr) (fun vi vj _ _ => (intOf vj).toNat - (intOf vi).toNat)
  case atStart => exact ⟨a, m, Nat.le_refl _, by omega, Nat.le_refl _, rfl, rfl, .inl rfl, .inl rfl, h, Fr.refl _ _⟩
  case round =>
    obtain ⟨i, j, hi, hij, hj, rfl, rfl, H1, H2, hR, hF⟩ := hrel
    have HH1 : Hid (i = a ∨ it (f (i - 1)) ≤ it (f m)) := H1
    have HH2 : Hid (j = m ∨ it (f m) < it (f j)) := H2
    clear H1 H2
    by_cases hlt : i < j
    · obtain ⟨t, em⟩ : ∃ t : Nat, ((i : Int) + j) / 2 = t := ⟨(i + j) / 2, by omega⟩
      have hm1 : i ≤ t := by omega
      have hm2 : t < j := by omega
      have hSr := hS.fr hF h1 h2
      have c1 := hR.cell m (by omega)
      have c2 := hR.cell t (by omega)
      have b1 := hv m (by omega)
      have b2 := hv t (by omega)
      have q1 : (m : Int) < n := by omega
      have q2 : (t : Int) < n := by omega
      by_cases hl : it (f m) < it (f t)
      · have hd : Lib.compareInt (it (f m)) (it (f t)) < 0 := (compare_neg _ _).2 hl
        have hdd : decide (Lib.compareInt (it (f m)) (it (f t)) < 0) = true := by simp [hd]
        go_wp2
        go_quiet (first | (go_at_call 18; refine Calls.quiet_of (cmp18 Bb gs S it _ _ _ (hSr.drewN _) b1 b2)))
        go_wp2
        go_roundw
        case rel => exact ⟨i, t, hi, hm1, by omega, rfl, rfl, HH1.out, .inr hl, hR.drewN _, hF.drewN _⟩
        case measure => simp [intOf]; omega
      · have hd : ¬ Lib.compareInt (it (f m)) (it (f t)) < 0 := fun e => hl ((compare_neg _ _).1 e)
        have hdd : decide (Lib.compareInt (it (f m)) (it (f t)) < 0) = false := by simp [hd]
        go_wp2
        go_quiet (first | (go_at_call 18; refine Calls.quiet_of (cmp18 Bb gs S it _ _ _ (hSr.drewN _) b1 b2)))
        go_wp2
        go_roundw
        case rel => exact ⟨t + 1, j, by omega, by omega, hj, by go_num, rfl, .inr (by simp; omega), HH2.out, hR.drewN _, hF.drewN _⟩
        case measure => simp [intOf]; omega
    · have hje : j = i := by omega
      subst hje
      clear h hS
      go_wp2
      go_loopw [17, 128] (fun vk _ wq => ∃ (k : Nat) (G : Nat → Nat), j ≤ k ∧ k ≤ m ∧ vk = .int .i64 k ∧ Hid (G = Rot k m (m + 1) f) ∧ Rw wq g n G ∧ Fr g w wq) (fun vk _ _ => (intOf vk).toNat)
      case atStart => exact ⟨m, f, hj, Nat.le_refl _, rfl, by show f = _; rw [rot_right _ _ _ (by omega)], hR, hF⟩
      case round =>
        clear hR hF
        obtain ⟨k, G, hk1, hk2, rfl, HG, hR, hF⟩ := hrel
        by_cases hkl : j < k
        · have c1 := hR.cell k (by omega)
          have c2 := hR.cell (k - 1) (by omega)
          have f1 := hR.fz k (by omega)
          have f2 := hR.fz (k - 1) (by omega)
          have q1 : (k : Int) < n := by omega
          have q2 : (k : Int) - 1 < n := by omega
          have q4 : IntKind.i64.wrap ((k : Int) - 1) = (k : Int) - 1 := by rw [IntKind.wrap_i64]; omega
          have q5 : ((k : Int) - 1).toNat = k - 1 := by omega
          have q6 : (0 : Int) ≤ (k : Int) - 1 := by omega
          go_wp2
          go_region
          all_goals go_wp2
          go_roundw
          case rel =>
            refine ⟨k - 1, Sw k (k - 1) G, by omega, by omega, by congr 1; omega, ?_, (hR.sw (by omega) (by omega) (by omega)).drewN _, ((hF.set _ _).set _ _).drewN _⟩
            show _ = _
            rw [HG.out]
            have := rot_down m (k - 1) f (by omega)
            rw [show k - 1 + 1 = k by omega] at this
            exact this
          case measure => simp [intOf]; omega
        · have hje : k = j := by omega
          have eG := HG.out
          rw [hje] at eG
          clear HG
          subst eG
          go_wp2
          refine bodyPost_ret (results_none rfl _ _ _) rfl ?_
          exact ⟨rfl, _, hR, (In.rot f hj (by omega)).wide hi (Nat.le_refl _), hs.last hi hj HH1.out HH2.out, hF⟩

end Go.Proofs.Ybulkbxog
