/-
  Law B's road: slices.symMergeCmpFunc, whole.
-/
import Derived.Test.YbulkbxogBe1
namespace Go.Proofs.Ybulkbxog
open Go.RowKit

set_option maxRecDepth 100000 in
set_option maxHeartbeats 4000000 in
theorem merge_step (N : Nat) (ih : MergeOk N) (g n c a m b Bb gs S : Nat) (it : Nat → Int) (f : Nat → Nat) (w : World) (hN : b - a ≤ N + 1) (h : Rw w g n f) (hv : ∀ i, i < n → f i < S) (hS : Sp w Bb gs S it) (h1 : Bb ≠ g) (h2 : gs ≠ g) (ham : a + 1 < m) (hmb : m + 1 < b) (hb : b ≤ n) (hn : n ≤ 1024) (hs1 : Srt it a m f) (hs2 : Srt it m b f) :
    Calls Yba.prog 41 #[.slice (some ⟨g, 0, none⟩) n c, .int .i64 a, .int .i64 m, .int .i64 b, cmpv Bb] w fun e w' => e = .returned (.tuple #[]) ∧ ∃ f', Rw w' g n f' ∧ In a b f f' ∧ Srt it a b f' ∧ Fr g w w' := by
  have qd : ((b : Int) - m == 1) = false := by simp; omega
  have qe : ((m : Int) - a == 1) = false := by simp; omega
  obtain ⟨mid, emid⟩ : ∃ mid : Nat, ((a : Int) + b) / 2 = mid := ⟨(a + b) / 2, by omega⟩
  have HM : Hid (mid = (a + b) / 2) := by show mid = (a + b) / 2; omega
  have hm1 : a < mid := by omega
  have hm2 : mid < b := by omega
  have hm3 : a + b ≤ 2 * mid + 1 := by omega
  have hm4 : 2 * mid ≤ a + b := by omega
  go_enter Yba.func41, Yba.ntmps41
  go_upto_if 140 with fail
  go_cut [20, 21] from 138 to 148 (fun v20 v21 wx => wx = w ∧ ∃ lo hi : Nat, v20 = .int .i64 lo ∧ v21 = .int .i64 hi ∧ lo ≤ hi ∧ a ≤ lo ∧ mid + m ≤ lo + b ∧ hi ≤ mid ∧ hi ≤ m ∧ Hid (lo = a ∨ lo + b = mid + m) ∧ Hid (hi = mid ∨ hi = m))
  case first =>
    by_cases hmm : mid < m
    · go_wp2
      go_meet
      case rel => exact ⟨rfl, mid + m - b, mid, by congr 1; omega, rfl, by omega, by omega, by omega, Nat.le_refl _, by omega, .inr (by omega), .inl rfl⟩
    · go_wp2
      go_meet
      case rel => exact ⟨rfl, a, m, rfl, rfl, by omega, Nat.le_refl _, by omega, by omega, Nat.le_refl _, .inl rfl, .inr rfl⟩
  case rest =>
    obtain ⟨rfl, lo, hi, rfl, rfl, hlh, hal, hlb, hhm, hhm2, HL, HH⟩ := hcut
    obtain ⟨w0, hw0⟩ : ∃ x, x = wc := ⟨_, rfl⟩
    subst hw0
    have hN1 : mid - a ≤ N := by omega
    have hN2 : b - mid ≤ N := by omega
    go_wp2
    go_loopw [20, 21, 174] (fun vi vj _ wr => ∃ (s r : Nat), lo ≤ s ∧ s ≤ r ∧ r ≤ hi ∧ vi = .int .i64 s ∧ vj = .int .i64 r ∧ Hid (s = lo ∨ it (f (s - 1)) ≤ it (f (mid + m - s))) ∧ Hid (r = hi ∨ it (f (mid + m - 1 - r)) < it (f r)) ∧ Rw wr g n f ∧ Fr g w0 wr) (fun vi vj _ _ => (intOf vj).toNat - (intOf vi).toNat)
    case atStart => exact ⟨lo, hi, Nat.le_refl _, hlh, Nat.le_refl _, rfl, rfl, .inl rfl, .inl rfl, h, Fr.refl _ _⟩
    case round =>
      obtain ⟨s, r, hs, hsr, hr, rfl, rfl, HH1, HH2, hR, hF⟩ := hrel
      by_cases hlt : s < r
      · obtain ⟨t, em⟩ : ∃ t : Nat, ((s : Int) + r) / 2 = t := ⟨(s + r) / 2, by omega⟩
        have ht1 : s ≤ t := by omega
        have ht2 : t < r := by omega
        obtain ⟨u, eu⟩ : ∃ u : Nat, (mid : Int) + m - 1 - t = u := ⟨mid + m - 1 - t, by omega⟩
        have HU : Hid (u = mid + m - 1 - t) := by show u = mid + m - 1 - t; omega
        have hu : u < n := by omega
        have hSr := hS.fr hF h1 h2
        have c1 := hR.cell u hu
        have c2 := hR.cell t (by omega)
        have b1 := hv u hu
        have b2 := hv t (by omega)
        have q1 : (u : Int) < n := by omega
        have q2 : (t : Int) < n := by omega
        have q3 : IntKind.i64.wrap ((mid : Int) + m - 1 - t) = u := by rw [IntKind.wrap_i64] <;> omega
        have q4 : IntKind.i64.wrap (u : Int) = u := by rw [IntKind.wrap_i64] <;> omega
        by_cases hl : it (f u) < it (f t)
        · have hd : Lib.compareInt (it (f u)) (it (f t)) < 0 := (compare_neg _ _).2 hl
          have hdd : decide (Lib.compareInt (it (f u)) (it (f t)) < 0) = true := by simp [hd]
          go_wp2
          go_quiet (first | (go_at_call 18; refine Calls.quiet_of (cmp18 Bb gs S it _ _ _ (hSr.drewN _) b1 b2)))
          go_wp2
          go_roundw
          case rel => exact ⟨s, t, hs, ht1, by omega, rfl, rfl, HH1, .inr (by rw [← HU.out]; exact hl), hR.drewN _, hF.drewN _⟩
          case measure => simp [intOf]; omega
        · have hd : ¬ Lib.compareInt (it (f u)) (it (f t)) < 0 := fun e => hl ((compare_neg _ _).1 e)
          have hdd : decide (Lib.compareInt (it (f u)) (it (f t)) < 0) = false := by simp [hd]
          go_wp2
          go_quiet (first | (go_at_call 18; refine Calls.quiet_of (cmp18 Bb gs S it _ _ _ (hSr.drewN _) b1 b2)))
          go_wp2
          go_roundw
          case rel => exact ⟨t + 1, r, by omega, by omega, hr, by go_num, rfl, .inr (by rw [show mid + m - (t + 1) = u by have := HU.out; omega, Nat.add_sub_cancel]; omega), HH2, hR.drewN _, hF.drewN _⟩
          case measure => simp [intOf]; omega
      · have hje : r = s := by omega
        subst hje
        have hlo : r = a ∨ r + b = mid + m ∨ it (f (r - 1)) ≤ it (f (mid + m - r)) := by
          rcases HH1.out with e | e
          · rcases HL.out with e' | e'
            · exact .inl (by omega)
            · exact .inr (.inl (by omega))
          · exact .inr (.inr e)
        have hhi : r = mid ∨ r = m ∨ it (f (mid + m - 1 - r)) < it (f r) := by
          rcases HH2.out with e | e
          · rcases HH.out with e' | e'
            · exact .inl (by omega)
            · exact .inr (.inl (by omega))
          · exact .inr (.inr e)
        have MC := merge_cut hs1 hs2 (by omega) (by omega) HM.out (by omega) (by omega) (by omega) (by omega) hlo hhi
        have hr1 : a ≤ r := by omega
        have hr2 : mid + m ≤ r + b := by omega
        have hr3 : r ≤ mid := by omega
        have hr4 : r ≤ m := by omega
        clear HH1 HH2 HL HH hlo hhi hlt hsr hs hr hlh hal hlb hhm hhm2 hs1 hs2
        go_upto_region 38 with fail
        exact tail38 _ _ _ _ _ _ _ _ _ _ _ _ _ _ _ _ _ _ _ _ _ _ _ _ _ _ _ _ _ _ _ _ _ _ _ _ _ _ _ _ _ _ _ _ _ _ _ _ _ _ _ _ _ _ _ _ _ _ _ _ _ _ _ _ _ _ _ _ _ _ _ _ _ _ _ _ _ _ _ _ _ _ _ _ _ _ _ _ _ _ _ _ _ _ _ _ _ _ _ _ _ _ _ _ _ _ _ _ _ _ _ _ _ _ _ _ _ _ _ _ _ _ _ _ _ _ _ _ _ _ _ _ _ _ _ _ _ _ _ _ _ _ _ _ _ _ _ _ _ _ _ _ _ _ _ _ _ _ _ _ _ _ _ _ _ _ _ _ _ _ _ _ _ _ _ _ _ _ _ _ _ _ _ _ _ _ _ _ _ _ _ _ _ _ _ _ _ _ _ _ _ _ _ _ _ _ _ _ _ _ _ N ih g n c a m b Bb gs S it f w0 wr mid r hv hS h1 h2 ham hmb hb hn hm1 hm2 hN1 hN2 hR hF hr1 hr2 hr3 hr4 MC _ (by assumption)

theorem merge_all : ∀ N, MergeOk N := by
  intro N
  induction N with
  | zero => intro g n c a m b _ _ _ _ _ _ h; intros; omega
  | succ N ih =>
    intro g n c a m b Bb gs S it f w hN h hv hS h1 h2 ham hmb hb hn hs1 hs2
    by_cases e1 : m = a + 1
    · subst e1
      have := merge_first g n c a b Bb gs S it f w h hv hS h1 h2 hmb hb hn hs2
      simpa using this
    · by_cases e2 : b = m + 1
      · subst e2
        have := merge_last g n c a m Bb gs S it f w h hv hS h1 h2 (by omega) hb hn hs1
        simpa using this
      · exact merge_step N ih g n c a m b Bb gs S it f w hN h hv hS h1 h2 (by omega) (by omega) hb hn hs1 hs2

end Go.Proofs.Ybulkbxog
