/-
  The leaves of law C's road: 'zzs3698cbig', 'zzs3698clist', 'zzs3698cgrow', 'zzs3698ceq'.
-/
import Derived.Test.YbulkbxogMem
import Derived.Deep.QuietTactic
import Derived.BigQuiet
namespace Go.Proofs.Ybulkbxog
open Go.RowKit

/-- Is a slice of slices 'big': more than 1024 rows, or a row of more than 1024 bytes. -/
def bigOf (L : Nat → Nat) (n : Nat) : Bool := decide (1024 < n) || (List.range n).any fun r => decide (1024 < L r)

set_option maxHeartbeats 400000 in
theorem big_cons (b o len cap : Nat) (A : Nat → Option Addr) (L C : Nat → Nat) (w : World) (hlen : len ≤ maxLen)
    (hc : ∀ r, r < len → w.cell? ⟨b, o + r, none⟩ = some (.slice (A r) (L r) (C r))) :
    Calls Yba.prog 27 #[.slice (some ⟨b, o, none⟩) len cap] w fun e w' => e = .returned (.bool (bigOf L len)) ∧ w' = w := by
  unfold maxLen at hlen
  by_cases h1 : 1024 < len
  · have h1' : (1024 : Int) < (len : Int) := by omega
    go_enter Yba.func27, Yba.ntmps27
    go_wp2
    go_ret
    exact ⟨ret_bool (by simp [bigOf, h1]), rfl⟩
  · have h1' : (len : Int) ≤ 1024 := by omega
    have h1d : decide ((1024 : Int) < (len : Int)) = false := by simp; omega
    go_enter Yba.func27, Yba.ntmps27
    go_wp2
    go_loop [4, 10] (fun _ i => ∃ k : Nat, k ≤ len ∧ i = .int .i64 k ∧ ∀ r, r < k → L r ≤ 1024) (fun _ i => len - (intOf i).toNat)
    case atStart => exact ⟨0, Nat.zero_le _, rfl, fun r h => absurd h (Nat.not_lt_zero _)⟩
    case round =>
      obtain ⟨k, hk, rfl, hall⟩ := hrel
      have H : Hid (∀ r, r < k → L r ≤ 1024) := hall
      clear hall
      by_cases hlt : k < len
      · have hcell := hc k hlt
        by_cases hL : 1024 < L k
        · have hL' : (1024 : Int) < (L k : Int) := by omega
          go_wp2
          go_ret
          exact ⟨ret_bool (by symm; simp [bigOf]; exact Or.inr ⟨k, hlt, hL⟩), rfl⟩
        · have hL' : (L k : Int) ≤ 1024 := by omega
          go_wp2
          go_round
          case rel => exact ⟨k + 1, by omega, by go_num, fun r hr => by rcases Nat.lt_succ_iff_lt_or_eq.1 hr with h | rfl; exact H.out r h; omega⟩
          case measure => simp [intOf]; omega
      · go_wp2
        go_ret
        exact ⟨ret_bool (by symm; simp [bigOf]; exact ⟨by omega, fun r hr => H.out r (by omega)⟩), rfl⟩

set_option maxHeartbeats 400000 in
theorem big_nil (ao : Option Addr) (cap : Nat) (w : World) :
    Calls Yba.prog 27 #[.slice ao 0 cap] w fun e w' => e = .returned (.bool false) ∧ w' = w := by
  go_enter Yba.func27, Yba.ntmps27
  go_wp2
  refine wp_loop_rounds 1 ?_
  rw [rounds_succ]
  go_wp2
  go_ret
  exact ⟨rfl, rfl⟩

theorem Yba.info3 : (Yba.prog.info? 3).map (fun i => (i.zero, i.size, i.bytes)) = some (some (.int .i64 0), 1, 8) := by kernel_rfl

/-- What 'zzs3698clist' makes of a row. -/
def modRow (r : List Int) (md : Int) : List Int := r.map (· % md)

theorem take_map_snoc (f : Int → Int) (r : List Int) (k : Nat) (h : k < r.length) : (r.take (k + 1)).map f = (r.take k).map f ++ [f (r[k]?.getD 0)] := by
  rw [List.take_succ_eq_append_getElem h]; simp only [List.map_append, List.map_cons, List.map_nil, List.getElem?_eq_getElem h, Option.getD_some]

set_option maxHeartbeats 400000 in
theorem list_out (ao : Option Addr) (len cap : Nat) (i md : Int) (w : World) (h : (len : Int) ≤ i) :
    Calls Yba.prog 28 #[.slice ao len cap, .int .i64 i, .int .i64 md] w fun e w' => e = .returned (.slice none 0 0) ∧ w' = w := by
  go_enter Yba.func28, Yba.ntmps28
  go_wp2
  go_ret
  exact ⟨rfl, rfl⟩

set_option maxRecDepth 100000 in
set_option maxHeartbeats 800000 in
theorem list_in (b o len cap : Nat) (i : Nat) (md : Int) (A : Option Addr) (C : Nat) (r : List Int) (w : World) (hi : i < len) (_hlen : len ≤ maxLen) (hmd : 1 ≤ md) (hmd2 : md ≤ 4096)
    (hc : w.cell? ⟨b, o + i, none⟩ = some (.slice A r.length C)) (hr : IRow w .u8 A r) (hl : r.length ≤ 1024) (hby : ∀ x ∈ r, 0 ≤ x ∧ x ≤ 255) :
    Calls Yba.prog 28 #[.slice (some ⟨b, o, none⟩) len cap, .int .i64 i, .int .i64 md] w fun e w' =>
      ∃ cp, e = .returned (.slice (some ⟨w.heap.size, 0, none⟩) r.length cp) ∧ w'.ownsRow w.heap.size 3 1 (.slice (some ⟨w.heap.size, 0, none⟩) r.length cp) r.length ((modRow r md).map (Value.int .i64)) ∧ Below w.heap.size w w' := by
  unfold maxLen at _hlen
  obtain ⟨i0, hi0, hz0, hz1, hz2⟩ := info_parts Yba.info3
  have hi' : (i : Int) < len := by omega
  have hid : decide ((len : Int) ≤ (i : Int)) = false := by simp; omega
  by_cases h0 : r.length = 0
  · have hr0 : r = [] := List.eq_nil_of_length_eq_zero h0
    subst hr0
    simp only [List.length_nil] at hc ⊢
    go_enter Yba.func28, Yba.ntmps28
    go_wp2_with (first | (at_make; refine wpList_make_own _ rfl _ _ 25 rfl w.heap.size 3 i0 (.int .i64 0) 1 Yba.underlying25 hi0 hz0 hz1 .i64 .i64 _ 0 rfl rfl rfl (by omega) (by simp [maxLen]) (Nat.le_refl _) ?_; intro w1 hown hgrow; have hc1 := hgrow.cell hc (by simp)))
    refine wp_loop_rounds 1 ?_
    rw [rounds_succ]
    go_wp2
    go_ret
    exact ⟨0, rfl, by simpa [modRow] using hown, (Below.refl _ _).grown hgrow (Nat.le_refl _) (by simp)⟩
  · obtain ⟨g, o', rfl, hcr⟩ := hr.at (by omega)
    have hgl : g < w.heap.size := World.block_lt_of_cell? w _ (hcr 0 (by omega))
    go_enter Yba.func28, Yba.ntmps28
    go_wp2_with (first | (at_make; refine wpList_make_own _ rfl _ _ 25 rfl w.heap.size 3 i0 (.int .i64 0) 1 Yba.underlying25 hi0 hz0 hz1 .i64 .i64 _ r.length rfl rfl rfl (by rw [hz2]; omega) (by simp [maxLen]; omega) (Nat.le_refl _) ?_; intro w1 hown hgrow; have hc1 := hgrow.cell hc (by simp)))
    have hb1 : Below w.heap.size w w1 := (Below.refl _ _).grown hgrow (Nat.le_refl _) (by simp)
    have hsz1 : w.heap.size < w1.heap.size := (hown.lt w.heap.size rfl).2
    clear hc hc1
    go_loopw [7, 9, 25] (fun v _ i wr => ∃ k : Nat, k ≤ r.length ∧ i = .int .i64 k ∧ v = .slice (some ⟨w.heap.size, 0, none⟩) k r.length ∧ wr.ownsRow w.heap.size 3 1 (.slice (some ⟨w.heap.size, 0, none⟩) k r.length) k (((r.take k).map (· % md)).map (Value.int .i64)) ∧ Below w.heap.size w wr ∧ w.heap.size < wr.heap.size) (fun _ _ i _ => r.length - (intOf i).toNat)
    case atStart => exact ⟨0, Nat.zero_le _, rfl, rfl, hown, hb1, hsz1⟩
    case round =>
      obtain ⟨k, hk, rfl, rfl, hown, hb, hsz⟩ := hrel
      by_cases hlt : k < r.length
      · have hcell : wr.cell? ⟨g, o' + k, none⟩ = some (.int .u8 (r[k]?.getD 0)) := (hb.cell hgl).trans (hcr k hlt)
        have hbd : 0 ≤ r[k]?.getD 0 ∧ r[k]?.getD 0 ≤ 255 := by
          have := hby r[k] (List.getElem_mem hlt); simpa [hlt] using this
        obtain ⟨hbd1, hbd2⟩ := hbd
        have HT : Hid (((r.take (k + 1)).map (· % md)) = (r.take k).map (· % md) ++ [(r[k]?.getD 0) % md]) := take_map_snoc (· % md) r k hlt
        clear hgrow hb1 hr hcr hby
        generalize r[k]?.getD 0 = x at *
        go_wp2_with (first | (at_builtin; refine wpList_append_fits _ rfl (.tmp 29) (.tmp 34) 25 rfl w.heap.size 3 i0 1 Yba.underlying25 hi0 hz1 w.heap.size k r.length _ rfl (hown.alloc _) ⟨wr.heap.size, 0, none⟩ 1 1 [.int .i64 (x % md)] rfl rfl (cell_one_new _ _ _) (by simp [Value.oneCell']) (by omega) ?_; intro w2 hown2 hgrow2))
        have hb2 : Below w.heap.size w w2 := ((hb.alloc (by omega) _).grown hgrow2 (by simp; omega) (by intro k h; cases h; exact Nat.le_refl _))
        have hs2 := hgrow2.size
        simp at hs2
        go_roundw
        case rel => exact ⟨k + 1, by omega, by go_num, rfl, by rw [HT.out]; simpa using hown2, hb2, by omega⟩
        case measure => simp [intOf]; omega
      · have hke : k = r.length := by omega
        subst hke
        go_wp2
        go_ret
        exact ⟨_, rfl, by simpa [modRow] using hown, hb⟩

theorem one_row (w : World) (k : IntKind) (x : Int) (t : TypeId) : IRow (w.alloc (.cells #[.int k x] t)) k (some ⟨w.heap.size, 0, none⟩) [x] := by
  refine IRow.mk fun j hj => ?_
  obtain rfl : j = 0 := by simpa using hj
  simp

set_option maxRecDepth 100000 in
set_option maxHeartbeats 800000 in
theorem grow_nil (n : Nat) (w : World) (hn : n ≤ 1024) :
    Calls Yba.prog 29 #[.slice none 0 0, .int .i64 n] w fun e w' => ∃ ao cp, e = .returned (.slice ao n cp) ∧ Below w.heap.size w w' := by
  obtain ⟨i0, hi0, hz0, hz1, hz2⟩ := info_parts Yba.info3
  go_enter Yba.func29, Yba.ntmps29
  go_wp2
  go_loopw [0, 6] (fun v i wr => ∃ (k : Nat) (ao : Option Addr) (cp : Nat), k ≤ n ∧ i = .int .i64 k ∧ v = .slice ao k cp ∧ wr.ownsRow w.heap.size 3 1 (.slice ao k cp) k ((List.replicate k 0).map (Value.int .i64)) ∧ Below w.heap.size w wr) (fun _ i _ => n - (intOf i).toNat)
  case atStart => exact ⟨0, none, 0, Nat.zero_le _, rfl, rfl, World.ownsRow_nil _ _ _ _, Below.refl _ _⟩
  case round =>
    obtain ⟨k, ao, cp, hk, rfl, rfl, hown, hb⟩ := hrel
    by_cases hlt : k < n
    · have hsz := hb.size
      go_wp2_with (first | (at_builtin; refine wpList_app _ rfl (.tmp 12) (.tmp 14) 25 rfl w.heap.size 3 i0 (.int .i64 0) 8 Yba.underlying25 hi0 hz0 hz1 hz2 rfl .i64 _ k _ rfl (hown.alloc _) (some ⟨wr.heap.size, 0, none⟩) 1 1 [0] rfl rfl (one_row _ _ _ _) (by simp) (by unfold maxLen; omega) (by omega) (by simp; omega) ?_; intro ao2 cp2 w2 hown2 hgrow2 hat2 _))
      have hb2 : Below w.heap.size w w2 := ((hb.alloc (by omega) _).grown hgrow2 (by simp; omega) (by intro j h; exact (hown.lt j h).1))
      go_roundw
      case rel => exact ⟨k + 1, ao2, cp2, by omega, by go_num, rfl, by rw [List.replicate_succ']; exact hown2, hb2⟩
      case measure => simp [intOf]; omega
    · have hke : k = n := by omega
      subst hke
      go_wp2
      go_ret
      exact ⟨ao, cp, rfl, hb⟩

set_option maxRecDepth 100000 in
set_option maxHeartbeats 800000 in
theorem eq_same (ao bo : Option Addr) (ca cb : Nat) (xs : List Int) (w : World) (ha : IRow w .i64 ao xs) (hb : IRow w .i64 bo xs) (_hl : xs.length ≤ maxLen) :
    Calls Yba.prog 15 #[.slice ao xs.length ca, .slice bo xs.length cb] w fun e w' => e = .returned (.bool true) ∧ ∃ n, w' = w.drewN n := by
  unfold maxLen at _hl
  by_cases h0 : xs.length = 0
  · rw [h0]
    go_enter Yba.func15, Yba.ntmps15
    go_wp2
    refine wp_loop_rounds 1 ?_
    rw [rounds_succ]
    go_wp2
    go_ret
    exact ⟨rfl, 0, rfl⟩
  · obtain ⟨g, o, rfl, hca⟩ := ha.at (by omega)
    obtain ⟨g', o', rfl, hcb⟩ := hb.at (by omega)
    go_enter Yba.func15, Yba.ntmps15
    go_wp2
    go_loopw [5, 13] (fun _ i wr => ∃ k : Nat, k ≤ xs.length ∧ i = .int .i64 k ∧ ∃ n, wr = w.drewN n) (fun _ i _ => xs.length - (intOf i).toNat)
    case atStart => exact ⟨0, Nat.zero_le _, rfl, 0, rfl⟩
    case round =>
      obtain ⟨k, hk, rfl, nn, rfl⟩ := hrel
      by_cases hlt : k < xs.length
      · have hlt' : (k : Int) < xs.length := by omega
        have e1 := hca k hlt
        have e2 := hcb k hlt
        go_wp2
        go_quiet (fail)
        go_wp2
        go_roundw
        case rel => exact ⟨k + 1, by omega, by go_num, _, rfl⟩
        case measure => simp [intOf]; omega
      · go_wp2
        go_ret
        exact ⟨rfl, _, rfl⟩
end Go.Proofs.Ybulkbxog
