/-
  Law B's road: searchSteps, zzs3698blen, the search's closure, slices.BinarySearchFunc.
-/
import Derived.Test.YbulkbxogBf
namespace Go.Proofs.Ybulkbxog
open Go.RowKit

set_option maxRecDepth 100000 in
theorem steps_c (n : Nat) (hn : n ≤ 1024) (w : World) : Calls Yba.prog 23 #[.int .i64 n] w fun e w' => e = .returned (.int .i64 (Lib.bitLen n)) ∧ w' = w := by
  go_enter Yba.func23, Yba.ntmps23
  go_wp2_with fail
  refine (Yba.bits_Len (n : Int) w (by omega) (by omega)).mono ?_
  rintro e w2 ⟨rfl, rfl⟩
  go_wp2
  go_ret
  exact ⟨rfl, rfl⟩

theorem bitLen_zero : Lib.bitLen 0 = 0 := by simp [Lib.bitLen, Lib.bitLenAux]
theorem bitLenAux_more : ∀ f x, x < 2 ^ f → Lib.bitLenAux (f + 1) x = Lib.bitLenAux f x
  | 0, x, h => by
    have : x = 0 := by simpa using h
    simp [Lib.bitLenAux, this]
  | f + 1, x, h => by
    have ih := bitLenAux_more f (x / 2) (by rw [Nat.pow_succ] at h; omega)
    rw [Lib.bitLenAux, ih]
    conv => rhs; rw [Lib.bitLenAux]
theorem bitLen_step (n : Nat) (h : 0 < n) (hn : n ≤ 1024) : Lib.bitLen n = Lib.bitLen (n / 2) + 1 := by
  have e := bitLenAux_more 63 (n / 2) (by omega)
  unfold Lib.bitLen
  rw [e, show (64 : Nat) = 63 + 1 from rfl, Lib.bitLenAux, if_neg (by omega)]
  omega

set_option maxRecDepth 100000 in
theorem blen_c (n : Nat) (hn : n ≤ 1024) (w : World) : Calls Yba.prog 11 #[.int .i64 n] w fun e w' => e = .returned (.int .i64 (Lib.bitLen n)) ∧ w' = w := by
  go_enter Yba.func11, Yba.ntmps11
  go_wp2
  go_loop [0, 3, 9] (fun vk vn _ => ∃ k m : Nat, k ≤ n ∧ m ≤ 2000 - k ∧ vk = .int .i64 k ∧ vn = .int .i64 m ∧ Hid (m + Lib.bitLen k = Lib.bitLen n)) (fun vk _ _ => (intOf vk).toNat)
  case atStart => exact ⟨n, 0, Nat.le_refl _, by omega, rfl, rfl, Nat.zero_add _⟩
  case round =>
    obtain ⟨k, m, hk, hm, rfl, rfl, HB⟩ := hrel
    by_cases h0 : 0 < k
    · have q0 : (0 : Int) < k := by omega
      go_wp2
      go_round
      case rel => exact ⟨k / 2, m + 1, by omega, by omega, by congr 1, by go_num, by show _ = _; rw [← HB.out, bitLen_step k h0 (by omega)]; omega⟩
      case measure => simp [intOf]; omega
    · have hk0 : k = 0 := by omega
      subst hk0
      have hb := HB.out
      rw [bitLen_zero, Nat.add_zero] at hb
      go_wp2
      go_ret
      exact ⟨by rw [← hb]; rfl, rfl⟩

/-- s in block sb: its spans, and their items. -/
structure Vs (w : World) (sb gs S : Nat) (it : Nat → Int) : Prop where
  spans : w.cell? ⟨sb, 2, none⟩ = some (.slice (some ⟨gs, 0, none⟩) S S)
  item : ∀ i, i < S → w.cell? ⟨gs, i * 3 + 2, none⟩ = some (.int .i64 (it i))

theorem Vs.drewN {w : World} {sb gs S : Nat} {it : Nat → Int} (h : Vs w sb gs S it) (n : Nat) : Vs (w.drewN n) sb gs S it := ⟨h.spans, h.item⟩

set_option maxRecDepth 100000 in
set_option maxHeartbeats 800000 in
theorem cmp26 (Bs sb gs S : Nat) (it : Nat → Int) (x : Nat) (y : Int) (w : World) (h : Vs w sb gs S it) (hb : w.cell? ⟨Bs, 0, none⟩ = some (.pointer (some ⟨sb, 0, none⟩))) (hx : x < S) :
    Calls Yba.prog 26 #[.int .i64 x, .int .i64 y, .pointer (some ⟨Bs, 0, none⟩)] w fun e w' => e = .returned (.int .i64 (Lib.compareInt (it x) y)) ∧ w' = w := by
  have h1 := h.spans
  have c1 := h.item x hx
  have q1 : (x : Int) < S := by omega
  go_enter Yba.func26, Yba.ntmps26
  go_wp2_with fail
  refine (Yba.cmp_Compare_int _ _ _).mono ?_
  rintro e w2 ⟨rfl, rfl⟩
  go_wp2
  go_ret
  exact ⟨rfl, rfl⟩

/-- The row of n numbers in block g at o reads as f. -/
def Rd (w : World) (g n : Nat) (f : Nat → Nat) : Prop := ∀ i, i < n → w.cell? ⟨g, i, none⟩ = some (.int .i64 (f i))

set_option maxRecDepth 100000 in
set_option maxHeartbeats 1600000 in
theorem search_c (Bs sb gs S g n c : Nat) (it : Nat → Int) (f : Nat → Nat) (x : Int) (w : World) (h : Vs w sb gs S it) (hb : w.cell? ⟨Bs, 0, none⟩ = some (.pointer (some ⟨sb, 0, none⟩))) (hR : Rd w g n f) (hv : ∀ i, i < n → f i < S) (hn : n ≤ 1024) :
    Calls Yba.prog 25 #[.slice (some ⟨g, 0, none⟩) n c, .int .i64 x, .func (.func 26) #[] #[.pointer (some ⟨Bs, 0, none⟩)]] w fun e w' => ∃ k : Nat, (∃ v, e = .returned (.tuple #[.int .i64 k, v])) ∧ k ≤ n ∧ (k = 0 ∨ it (f (k - 1)) < x) ∧ (k = n ∨ x ≤ it (f k)) ∧ w' = w := by
  go_enter Yba.func25, Yba.ntmps25
  go_wp2
  go_loop [9, 10, 34] (fun vi vj _ => ∃ (i j : Nat), i ≤ j ∧ j ≤ n ∧ vi = .int .i64 i ∧ vj = .int .i64 j ∧ Hid (i = 0 ∨ it (f (i - 1)) < x) ∧ Hid (j = n ∨ x ≤ it (f j))) (fun vi vj _ => (intOf vj).toNat - (intOf vi).toNat)
  case atStart => exact ⟨0, n, Nat.zero_le _, Nat.le_refl _, rfl, rfl, .inl rfl, .inl rfl⟩
  case round =>
    obtain ⟨i, j, hij, hj, rfl, rfl, HH1, HH2⟩ := hrel
    by_cases hlt : i < j
    · obtain ⟨t, em⟩ : ∃ t : Nat, ((i : Int) + j) / 2 = t := ⟨(i + j) / 2, by omega⟩
      have hm1 : i ≤ t := by omega
      have hm2 : t < j := by omega
      have c1 := hR t (by omega)
      have b1 := hv t (by omega)
      have q1 : (t : Int) < n := by omega
      by_cases hl : it (f t) < x
      · have hd : Lib.compareInt (it (f t)) x < 0 := (compare_neg _ _).2 hl
        have hdd : decide (Lib.compareInt (it (f t)) x < 0) = true := by simp [hd]
        go_wp2_with fail
        refine (cmp26 Bs sb gs S it (f t) x w h hb b1).mono ?_
        rintro e w2 ⟨rfl, rfl⟩
        go_wp2
        go_round
        case rel => exact ⟨t + 1, j, by omega, hj, by go_num, rfl, .inr (by simpa using hl), HH2⟩
        case measure => simp [intOf]; omega
      · have hd : ¬ Lib.compareInt (it (f t)) x < 0 := fun e => hl ((compare_neg _ _).1 e)
        have hdd : decide (Lib.compareInt (it (f t)) x < 0) = false := by simp [hd]
        go_wp2_with fail
        refine (cmp26 Bs sb gs S it (f t) x w h hb b1).mono ?_
        rintro e w2 ⟨rfl, rfl⟩
        go_wp2
        go_round
        case rel => exact ⟨i, t, hm1, by omega, rfl, rfl, HH1, .inr (by omega)⟩
        case measure => simp [intOf]; omega
    · have hje : j = i := by omega
      subst hje
      by_cases hjn : j < n
      · have c1 := hR j hjn
        have b1 := hv j hjn
        have d1 : decide ((j : Int) < n) = true := by simp; omega
        have q1 : (j : Int) < n := by omega
        go_wp2_with fail
        refine (cmp26 Bs sb gs S it (f j) x w h hb b1).mono ?_
        rintro e w2 ⟨rfl, rfl⟩
        go_wp2
        go_ret2
        exact ⟨j, ⟨_, rfl⟩, hj, HH1.out, HH2.out, rfl⟩
      · have d1 : decide ((j : Int) < n) = false := by simp; omega
        go_wp2
        go_ret2
        exact ⟨j, ⟨_, rfl⟩, hj, HH1.out, HH2.out, rfl⟩

end Go.Proofs.Ybulkbxog
