/-
  Law C's road: the iterator 'each$1'.
-/
import Derived.Test.YbulkbxogCc
import Derived.RangeFuncNested
import Derived.RangeFuncBound
import Derived.RangeFuncCalls
import Derived.RangeFuncLeaves
import Derived.Shelf.Abstract
import Derived.Shelf.RegionOpen
import Derived.OwnWalkIn
import Derived.TacticsInMore
import Derived.LoopNIn
import Derived.LoopIn
namespace Go.Proofs.Ybulkbxog
open Go.RowKit Go.Shelf

attribute [local go_sem] Oper.semAt_some

theorem flat_take_succ (xss : List (List Int)) (k : Nat) (xs : List Int) (h : xss[k]? = some xs) : (xss.take (k + 1)).flatten = (xss.take k).flatten ++ xs := by
  obtain ⟨hlt, rfl⟩ := List.getElem?_eq_some_iff.1 h
  rw [List.take_succ_eq_append_getElem hlt]; simp only [List.flatten_append, List.flatten_cons, List.flatten_nil, List.append_nil]

theorem flat_pre (xss : List (List Int)) (k : Nat) (xs : List Int) (h : xss[k]? = some xs) (m : Nat) : (xss.take k).flatten ++ xs.take m <+: xss.flatten := by
  have h1 := flat_take_succ xss k xs h
  have h2 : xss.flatten = (xss.take (k + 1)).flatten ++ (xss.drop (k + 1)).flatten := by rw [← List.flatten_append, List.take_append_drop]
  rw [h2, h1, List.append_assoc]
  exact (List.prefix_append_right_inj _).2 ((List.take_prefix _ _).trans (List.prefix_append _ _))

set_option maxRecDepth 100000 in
set_option maxHeartbeats 2000000 in
theorem each1_in (n : Nat) (hn : 1 ≤ n) (l Bl Bt N : Nat) (A : Nat → Option Addr) (C : Nat → Nat) (xss : List (List Int)) (Kp : World → World → Prop) (J Jx : List Int → World → Prop)
    (hY : ∀ pre x W, J pre W → pre.length < N → YieldAt Fence.wide (n - 1) Yba.prog l #[.int .i64 x] W fun e W' =>
      (e = .returned (.bool true) ∧ J (pre ++ [x]) W' ∧ Kp W W') ∨ (e = .returned (.bool false) ∧ Jx (pre ++ [x]) W'))
    (hN : xss.flatten.length ≤ N) (hs : xss.length ≤ 100) (hs2 : ∀ xs ∈ xss, xs.length ≤ 100000) (hQ : ∀ W W', LQ Bl Bt A C xss W → Kp W W' → LQ Bl Bt A C xss W')
    (W : World) (hq : LQ Bl Bt A C xss W) (h0 : J [] W) :
    CallsIn Fence.wide n Yba.prog 52 #[.func (.yield l) #[] #[], .pointer (some ⟨Bl, 0, none⟩)] W fun e W' => (∃ v, e = .returned v) ∧
      ((∃ ys, ys = xss.flatten ∧ J ys W') ∨ (∃ pre, pre <+: xss.flatten ∧ Jx pre W')) := by
  refine callsIn_of_wp Yba.func52 rfl trivial ?_ rfl
  simp only [Yba.ntmps52, List.size_toArray, List.length_cons, List.length_nil, Nat.reduceAdd, Nat.reduceSub, Array.replicate_succ, Array.replicate_zero, List.push_toArray, List.append_toArray, List.nil_append, List.cons_append]
  have hb := hq.1
  gi_wp2
  gi_loopw [9] (fun i wr => ∃ k : Nat, k ≤ xss.length ∧ i = .int .i64 k ∧ J ((xss.take k).flatten) wr ∧ LQ Bl Bt A C xss wr) (fun i _ => xss.length - (intOf i).toNat)
  case atStart => exact ⟨0, Nat.zero_le _, rfl, by simpa using h0, hq⟩
  case round =>
    obtain ⟨k, hk, rfl, hJ, hq⟩ := hrel
    by_cases hlt : k < xss.length
    · obtain ⟨xs, hxs⟩ : ∃ xs, xss[k]? = some xs := ⟨xss[k], by simp [hlt]⟩
      have hxl := hs2 xs (List.mem_of_getElem? hxs)
      obtain ⟨hc, hr⟩ := hq.2 k xs hxs
      have HX : Hid (xss[k]? = some xs) := hxs
      clear hxs hb
      by_cases h0 : xs.length = 0
      · have hx0 : xs = [] := List.eq_nil_of_length_eq_zero h0
        subst hx0
        simp only [List.length_nil] at hc
        gi_wp2
        refine wpIn_loop_rounds 1 ?_
        rw [roundsIn_succ]
        gi_wp2
        go_roundw
        case rel => exact ⟨k + 1, by omega, by go_num, by rw [flat_take_succ _ _ _ HX.out]; simpa using hJ, hq⟩
        case measure => simp [intOf]; omega
      · obtain ⟨g, o, hA, hcr⟩ := hr.at (by omega)
        rw [hA] at hc
        have HA : Hid (A k = some ⟨g, o, none⟩) := hA
        clear hA hr hcr
        gi_wp2
        clear hc
        gi_loopw [15] (fun j wr => ∃ m : Nat, m ≤ xs.length ∧ j = .int .i64 m ∧ J ((xss.take k).flatten ++ xs.take m) wr ∧ LQ Bl Bt A C xss wr) (fun j _ => xs.length - (intOf j).toNat)
        case atStart => exact ⟨0, Nat.zero_le _, rfl, by simpa using hJ, hq⟩
        case round =>
          obtain ⟨m, hm, rfl, hJ, hq⟩ := hrel
          by_cases hlm : m < xs.length
          · obtain ⟨x, hx⟩ : ∃ x, xs[m]? = some x := ⟨xs[m], by simp [hlm]⟩
            have hcx : wr.cell? ⟨g, o + m, none⟩ = some (.int .i64 x) := by
              obtain ⟨g', o', hA', hcr⟩ := (hq.2 k xs HX.out).2.at (by omega)
              rw [HA.out] at hA'
              simp at hA'
              obtain ⟨rfl, rfl⟩ := hA'
              rw [hcr m hlm, hx]; rfl
            have hpl : ((xss.take k).flatten ++ xs.take m).length < N := by
              have := (flat_pre xss k xs HX.out (m + 1)).length_le
              have e1 : (xs.take (m + 1)).length = m + 1 := by rw [List.length_take]; omega
              have e2 : (xs.take m).length = m := by rw [List.length_take]; omega
              rw [List.length_append, e1] at this
              rw [List.length_append, e2]
              omega
            obtain ⟨fn, tmps, assign, body, hy, hR⟩ := hY _ x wr hJ hpl
            have HJ : Hid (xs.take m ++ [x] = xs.take (m + 1)) := by
              unfold Hid
              obtain ⟨hlm', rfl⟩ := List.getElem?_eq_some_iff.1 hx
              rw [List.take_succ_eq_append_getElem hlm]
            clear hx
            gi_wp2
            refine hR.mono ?_
            rintro e W3 (⟨rfl, hJ3, hk3⟩ | ⟨rfl, hJx3⟩)
            · have hq3 := hQ _ _ hq hk3
              rw [List.append_assoc, HJ.out] at hJ3
              gi_wp2
              go_roundw
              case rel => exact ⟨m + 1, by omega, by go_num, hJ3, hq3⟩
              case measure => simp [intOf]; omega
            · rw [List.append_assoc, HJ.out] at hJx3
              gi_wp2
              refine bodyPost_ret (results_none rfl _ _ _) rfl ?_
              exact ⟨⟨_, rfl⟩, .inr ⟨_, flat_pre xss k xs HX.out (m + 1), hJx3⟩⟩
          · gi_wp2
            go_roundw
            case rel => exact ⟨k + 1, by omega, by go_num, by rw [flat_take_succ _ _ _ HX.out]; have e : xs.take m = xs := List.take_of_length_le (by omega); rw [e] at hJ; exact hJ, hq⟩
            case measure => simp [intOf]; omega
    · gi_wp2
      go_end0
      exact ⟨⟨_, rfl⟩, .inl ⟨_, rfl, by rwa [List.take_of_length_le (by omega)] at hJ⟩⟩

end Go.Proofs.Ybulkbxog
