/-
  'NewProposalTotalOrder[string]' of law A; the two comparisons of rows.
-/
import Derived.Test.YbulkbxpiFmtXh
import Derived.Test.YbulkbxpiFmtNw
namespace Go.Proofs.YbulkbxpiFmt
open Go.RowKit Go.MuLone

set_option maxRecDepth 100000 in
set_option maxHeartbeats 1000000 in
theorem newOrder_cA (w : World) (n me sb sc : Nat) (hn : 1 ≤ n ∧ n ≤ 6) (hme : me < n) (hs : AtS w sb (List.range n)) :
    Calls Ybaf.prog 6 #[.string (nmA me), .slice (some ⟨sb, 0, none⟩) n sc] w fun e w' => ∃ i : Ids, e = .returned (.tuple #[.pointer (some ⟨i.D, 0, none⟩), .nilIface]) ∧ Kp [] w w' ∧ SrvA i n me w' 0 0 (List.replicate n 0) (.slice none 0 0) ∧ ∀ b ∈ i.listA, w.heap.size ≤ b := by
  have hmk := @run_makeMap Ybaf.prog
  have hm1 := fun w => run_make_row' (P := Ybaf.prog) 54 75 (.slice none 0 0) 24 Ybaf.underlying54 Ybaf.info75 rfl .i64 .i64 n (by omega) (by omega) w
  have hm2 := fun w => run_make_row' (P := Ybaf.prog) 30 31 (.int .u64 0) 8 Ybaf.underlying30 Ybaf.info31 rfl .i64 .i64 n (by omega) (by omega) w
  rw [made_rep] at hm1 hm2
  have hnp := newPeers_cA w (nmA me) ((List.range n).map nmA) me sb sc (fun k s hk => by
    rw [List.getElem?_map] at hk
    cases h : (List.range n)[k]? with
    | none => rw [h] at hk; simp at hk
    | some x => rw [h] at hk; simp at hk; rw [← hk]; exact hs k x h) (by simp; omega) (by simp; omega) (by simp; omega) (by show _ = _; simp) rfl (by simpa using hme)
  rw [List.length_map, List.length_range] at hnp
  go_enter Ybaf.func6, Ybaf.ntmps6
  go_wp2_with fail
  refine hnp.mono ?_
  rintro e w1 ⟨C, N, X, Hd, Td, kn, rfl, k1, hC, hN, hX, hT, hnd, hle⟩
  clear hnp
  have fin : ∀ (W : World) (Us Se Aw : Nat), Kp [] w1 W → (w1.heap.size + 1 ≤ Us ∧ Us ≤ w1.heap.size + 3 ∧ w1.heap.size + 1 ≤ Aw ∧ Aw ≤ w1.heap.size + 3 ∧ Us ≠ Aw) →
      W.heap[Us]? = some (.cells (Array.replicate n (.slice none 0 0)) 75) → W.heap[Aw]? = some (.map #[] 0) →
      W.heap[w1.heap.size + 1 + 1 + 1 + 1]? = some (.cells (Ids.cellsA ⟨w1.heap.size + 1 + 1 + 1 + 1, C, N, X, Hd, Td, Us, Se, kn, Aw⟩ n me 0 (.slice none 0 0)) 57) →
      ∃ i : Ids, Ending.returned (.tuple #[.pointer (some ⟨w1.heap.size + 1 + 1 + 1 + 1, 0, none⟩), .nilIface]) = .returned (.tuple #[.pointer (some ⟨i.D, 0, none⟩), .nilIface]) ∧ Kp [] w W ∧ SrvA i n me W 0 0 (List.replicate n 0) (.slice none 0 0) ∧ ∀ b ∈ i.listA, w.heap.size ≤ b := by
    intro W Us Se Aw kW hb hU hA hD
    have hw1 := k1.size
    have g1 := hle C (by simp)
    have g2 := hle N (by simp)
    have g3 := hle X (by simp)
    have g5 := hle Td (by simp)
    refine ⟨⟨w1.heap.size + 1 + 1 + 1 + 1, C, N, X, Hd, Td, Us, Se, kn, Aw⟩, rfl, k1.trans kW, ⟨hD, kW.heap hC (by simp), hN.kp kW (by simp), kW.heap hX (by simp), kW.heap hT (by simp), hU, hA, ?_, hn, hme, by simp⟩, ?_⟩
    · simp only [List.nodup_cons, List.mem_cons, List.not_mem_nil, or_false, not_or, List.nodup_nil, and_true, not_false_eq_true] at hnd ⊢
      obtain ⟨⟨a1, a2, a3⟩, ⟨a5, a6⟩, a8⟩ := hnd
      obtain ⟨b1, b2, b3, b4, b5⟩ := hb
      clear hm1 hm2 hmk
      exact ⟨⟨by omega, by omega, by omega, by omega, by omega, by omega⟩, ⟨a1, a2, a3, by omega, by omega⟩, ⟨a5, a6, by omega, by omega⟩, ⟨a8, by omega, by omega⟩, ⟨by omega, by omega⟩, b5⟩
    · intro b hb'
      simp only [List.mem_cons, List.not_mem_nil, or_false] at hb'
      rcases hb' with rfl | rfl | rfl | rfl | rfl | rfl | rfl <;> omega
  generalize hsm : nmA me = sm
  go_wp2_with fail
  go_region
  all_goals (try go_wp2)
  all_goals go_ret2
  all_goals
    refine fin _ _ _ _ ((((((Kp.refl [] w1).alloc _).alloc _).alloc _).alloc _).alloc _).drew ?_ ?_ ?_ (heap5d w1 _ _ _ _ _).2.2.2
    · exact ⟨by omega, by omega, by omega, by omega, by omega⟩
    · first | exact (heap5d w1 _ _ _ _ _).1 | exact (heap5d w1 _ _ _ _ _).2.1 | exact (heap5d w1 _ _ _ _ _).2.2.1
    · first | exact (heap5d w1 _ _ _ _ _).1 | exact (heap5d w1 _ _ _ _ _).2.1 | exact (heap5d w1 _ _ _ _ _).2.2.1

set_option maxRecDepth 100000 in
set_option maxHeartbeats 1000000 in
theorem eqs_c (w : World) (a b ca cb : Nat) (ks : List Nat) (hlen : ks.length ≤ 256) (ha : AtS w a ks) (hb : AtS w b ks) :
    Calls Ybaf.prog 9 #[.slice (some ⟨a, 0, none⟩) ks.length ca, .slice (some ⟨b, 0, none⟩) ks.length cb] w fun e w' => e = .returned (.bool true) ∧ Kp [] w w' := by
  go_enter Ybaf.func9, Ybaf.ntmps9
  go_wp2
  have HA : Hid (AtS w a ks) := ha
  have HB : Hid (AtS w b ks) := hb
  clear ha hb
  go_loopw [13] (fun vi wr => ∃ (k : Nat), k ≤ ks.length ∧ vi = .int .i64 k ∧ Kp [] w wr) (fun vi _ => ks.length - (intOf vi).toNat)
  case atStart => exact ⟨0, Nat.zero_le _, rfl, Kp.refl _ w⟩
  case round =>
    obtain ⟨k, hk, rfl, kr⟩ := hrel
    by_cases hlt : k < ks.length
    · obtain ⟨x, hx⟩ : ∃ x, ks[k]? = some x := ⟨ks[k], by simp [hlt]⟩
      have q1 := HA.out.kp kr (by simp) k x hx
      have q2 := HB.out.kp kr (by simp) k x hx
      have dk0 : (0 : Int) ≤ (k : Int) := by omega
      have dk3 : (k : Int) < ks.length := by omega
      clear hx
      generalize nmA x = sx at q1 q2
      go_wp2_with fail
      go_region
      go_wp2
      go_roundw
      case rel => exact ⟨k + 1, by omega, by go_num, kr.drew⟩
      case measure => simp [intOf]; omega
    · have hke : k = ks.length := by omega
      subst hke
      go_wp2
      go_ret
      exact ⟨rfl, kr⟩

set_option maxRecDepth 100000 in
set_option maxHeartbeats 1000000 in
theorem eqi_c (w : World) (a b ca cb : Nat) (ks : List Nat) (hlen : ks.length ≤ 256) (ha : AtI w a ks) (hb : AtI w b ks) :
    Calls Ybaf.prog 10 #[.slice (some ⟨a, 0, none⟩) ks.length ca, .slice (some ⟨b, 0, none⟩) ks.length cb] w fun e w' => e = .returned (.bool true) ∧ Kp [] w w' := by
  go_enter Ybaf.func10, Ybaf.ntmps10
  go_wp2
  have HA : Hid (AtI w a ks) := ha
  have HB : Hid (AtI w b ks) := hb
  clear ha hb
  go_loopw [13] (fun vi wr => ∃ (k : Nat), k ≤ ks.length ∧ vi = .int .i64 k ∧ Kp [] w wr) (fun vi _ => ks.length - (intOf vi).toNat)
  case atStart => exact ⟨0, Nat.zero_le _, rfl, Kp.refl _ w⟩
  case round =>
    obtain ⟨k, hk, rfl, kr⟩ := hrel
    by_cases hlt : k < ks.length
    · obtain ⟨x, hx⟩ : ∃ x, ks[k]? = some x := ⟨ks[k], by simp [hlt]⟩
      have q1 := HA.out.kp kr (by simp) k x hx
      have q2 := HB.out.kp kr (by simp) k x hx
      have dk0 : (0 : Int) ≤ (k : Int) := by omega
      have dk3 : (k : Int) < ks.length := by omega
      clear hx
      go_wp2_with fail
      go_region
      go_wp2
      go_roundw
      case rel => exact ⟨k + 1, by omega, by go_num, kr.drew⟩
      case measure => simp [intOf]; omega
    · have hke : k = ks.length := by omega
      subst hke
      go_wp2
      go_ret
      exact ⟨rfl, kr⟩

end Go.Proofs.YbulkbxpiFmt
