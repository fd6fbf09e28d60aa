/-
  'hasRoom', 'Process', 'past' in law A.
-/
import Derived.Test.YbulkbxpiFmtXc
import Derived.Carry
namespace Go.Proofs.YbulkbxpiFmt
open Go.RowKit Go.MuLone Go.Stop

set_option maxRecDepth 100000 in
theorem hasRoom_c (C : Nat) (nm : ByteArray) (t : Int) (w : World) (h : Clk C nm t w) (ht : 0 ≤ t ∧ t < 18446744073709551615) :
    Calls Ybaf.prog 19 #[.pointer (some ⟨C, 0, none⟩), .int .u64 1] w fun e w' => e = .returned (.bool true) ∧ Kp [] w w' := by
  have c1 := cell_at (i := 1) (v := .int .i32 0) h rfl
  have c3 := cell_at (i := 3) (v := .int .u64 t) h rfl
  have hlt : C < w.heap.size := (Array.getElem?_eq_some_iff.1 h).1
  have d1 : decide (t ≤ 18446744073709551615 - 1) = true := by simp; omega
  go_enter_defers Ybaf.func19, Ybaf.ntmps19
  go_wp2_with fail
  refine (lock_free Ybaf.muLib ⟨C, 1, none⟩ _ ?_ ?_).mono ?_
  · exact cell_at h rfl
  · exact frozen_at h
  rintro e w' ⟨rfl, rfl⟩
  go_wp2_with (go_at_call 39; refine (fits_c t 1 _ (by omega)).mono ?_; rintro e w' ⟨rfl, rfl⟩; rw [d1])
  have h1 := heap_set (i := 1) (.int .i32 1) h
  refine leaves_cons (f := 18) (args := #[.pointer (some ⟨C, 1, none⟩)]) (by simp) (by simp [go_sem]) ?_
  refine (unlock_deferred Ybaf.muLib ⟨C, 1, none⟩ .returning _ ?_ ?_).mono ?_
  · exact cell_at h1 rfl
  · exact frozen_at h1
  rintro e u' w'' ⟨rfl, rfl, rfl⟩
  refine ⟨.bool true, by simp [results, Ybaf.results19, go_sem], rfl, ?_⟩
  have h3 := heap_set (i := 1) (.int .i32 0) h1
  exact ((((Kp.refl [C] w).set (.inl (by simp)) _).set (.inl (by simp)) _).shrink (h3.trans h.symm))

theorem field34A (x : Int) (y : ByteArray) (w : World) : (Instr.field 34 (.agg #[.int .u64 x, .string y]) 0).run Ybaf.prog w = .ok (.int .u64 x) w := by kernel_rfl

section
variable {i : Ids} {n me : Nat} {w w' : World} {mu t : Int} {td : List Int} {ow : Value}

set_option maxRecDepth 100000 in
theorem process_cA (v : SrvA i n me w mu t td ow) :
    Calls Ybaf.prog 26 #[.pointer (some ⟨i.D, 2, none⟩)] w fun e w' => e = .returned (.string (nmA me)) ∧ Kp [] w w' := by
  have hme := v.me6
  have nM := v.me_cell
  have c3 := cell_at (i := 3) (v := .int .i64 (me : Int)) v.d rfl
  have c4 := cell_at (i := 4) (v := .slice (some ⟨i.N, 0, none⟩) n i.kn) v.d rfl
  have dk0 : (0 : Int) ≤ (me : Int) := by omega
  have dk3 : (me : Int) < n := by omega
  go_enter Ybaf.func26, Ybaf.ntmps26
  go_wp2_with fail
  go_region
  go_wp2
  go_ret
  exact ⟨rfl, (Kp.refl [] w).drew⟩

/-- What 'past' reads of the messages sent. -/
def OwnZ (w : World) (ow : Value) (t : Int) : Prop :=
  (ow = .slice none 0 0 ∧ t = 0) ∨ ∃ O len cap p, ow = .slice (some ⟨O, 0, none⟩) len cap ∧ 0 < len ∧ w.cell? ⟨O, 0, none⟩ = some (.pointer (some ⟨p, 0, none⟩)) ∧ w.cell? ⟨p, 0, none⟩ = some (.int .u64 1)
theorem OwnZ.kp0 (h : OwnZ w ow t) (k : Kp [] w w') : OwnZ w' ow t := by
  rcases h with h | ⟨O, len, cap, p, h1, h2, h3, h4⟩
  · exact .inl h
  · exact .inr ⟨O, len, cap, p, h1, h2, cell_kept k (by simp) h3, cell_kept k (by simp) h4⟩

set_option maxRecDepth 100000 in
set_option maxHeartbeats 1000000 in
theorem past_cA (v : SrvA i n me w mu t td ow) (hz : OwnZ w ow t) :
    Calls Ybaf.prog 20 #[.pointer (some ⟨i.D, 0, none⟩), .bool false] w fun e w' => ∃ m, e = .returned (.agg #[.slice none 0 0, .map (some m)]) ∧ Kp [] w w' ∧ w.heap.size ≤ m ∧ w'.heap[m]? = some (.map #[{ key := .string (nmA me), val := .int .u64 0, born := 0 }] 1) := by
  have h6 := v.n6
  have hlD := heap_lt v.d
  have c2 := cell_at (i := 2) (v := .pointer (some ⟨i.C, 0, none⟩)) v.d rfl
  have hfd := field34A
  have hmk := @run_makeMap Ybaf.prog
  rcases hz with ⟨rfl, rfl⟩ | ⟨O, len, cap, p, rfl, hlp, hO, hp⟩
  · go_enter Ybaf.func20, Ybaf.ntmps20
    go_wp2_with fail
    refine (now_c i.C (nmA me) 0 _ (v.kp0 ((Kp.refl [] w).alloc _)).c).mono ?_
    rintro e w1 ⟨rfl, k1⟩
    have K1 := ((Kp.refl [] w).alloc (.cells #[.slice none 0 0, .map none] 77)).trans k1
    have v1 := v.kp0 K1
    have hlD1 := heap_lt v1.d
    have c8 := cell_at (i := 8) (v := .slice none 0 0) v1.d rfl
    go_wp2_with fail
    refine (process_cA (v1.kp0 ((Kp.refl [] w1).alloc (.map #[] 0)))).mono ?_
    rintro e w2 ⟨rfl, k2⟩
    have K2 := ((Kp.refl [] w1).alloc (.map #[] 0)).trans k2
    have v2 := v1.kp0 K2
    have hm := k2.heap (heap_new w1 (.map #[] 0)) (by simp)
    have hst := run_store_miss 36 9 31 Ybaf.underlying36 Ybaf.underlying9 hm (nmA me) (.int .u64 0) rfl
    obtain ⟨w3, hw3⟩ : ∃ x, x = setO w2 w1.heap.size (.map #[{ key := .string (nmA me), val := .int .u64 0, born := 0 }] 1) := ⟨_, rfl⟩
    have hst' : (Instr.mapUpdate 36 (.map (some w1.heap.size)) (.string (nmA me)) (.int .u64 0)).run Ybaf.prog w2 = .ok () w3 := by rw [hw3]; exact hst
    have hm3 : w3.heap[w1.heap.size]? = some (.map #[{ key := .string (nmA me), val := .int .u64 0, born := 0 }] 1) := by rw [hw3]; exact setO_same _ (heap_lt hm)
    have hs1 := K1.size
    have K3 : Kp [] w w3 := by rw [hw3]; exact (K1.trans K2).setO (.inr hs1) _
    have hs3 := K3.size
    have v3 := v.kp0 K3
    have hs23 := K2.size
    have hsz : w.heap.size < w3.heap.size := by
      have := k1.size
      simp at this
      have h2 := heap_lt hm3
      omega
    have hr3 : w3.heap[w.heap.size]? = some (.cells #[.slice none 0 0, .map none] 77) := by
      rw [hw3, setO_other _ (by have := k1.size; simp at this; omega)]
      exact k2.heap ((Below.heap_alloc _ _ _ (by have := k1.size; simp at this; omega)).trans (k1.heap (heap_new w _) (by simp))) (by simp)
    clear hst hw3
    have hlD3 := heap_lt v3.d
    have hlU3 := heap_lt v3.u
    have e13 := cell_at (i := 13) (v := .slice (some ⟨i.Us, 0, none⟩) n n) v3.d rfl
    have U3 : ∀ j, j < n → w3.cell? ⟨i.Us, j, none⟩ = some (.slice none 0 0) := fun j hj => cell_at v3.u (by simp [hj])
    have r0 := cell_at (i := 0) (v := .slice none 0 0) hr3 rfl
    have r1 := cell_at (i := 1) (v := .map none) hr3 rfl
    have f0 := frozen_at (i := 0) hr3
    have f1 := frozen_at (i := 1) hr3
    generalize hnm : nmA me = sm at hst' hm3 ⊢
    go_wp2_with fail
    obtain ⟨w4, hw4⟩ : ∃ x, x = w3.alloc (.cells #[.slice none 0 0, .map (some w1.heap.size)] 77) := ⟨_, rfl⟩
    have K34 : Kp [] w3 w4 := by rw [hw4]; exact (Kp.refl [] w3).alloc _
    have hb4 : w4.heap[w3.heap.size]? = some (.cells #[.slice none 0 0, .map (some w1.heap.size)] 77) := by rw [hw4]; exact heap_new w3 _
    have U4 : Hid (∀ j, j < n → w4.cell? ⟨i.Us, j, none⟩ = some (.slice none 0 0)) := fun j hj => cell_kept K34 (by simp) (U3 j hj)
    rw [← hw4]
    clear hw4 U3
    have hr4 := K34.heap hr3 (by simp)
    have hm4 := K34.heap hm3 (by simp)
    go_loopw [48] (fun vi wr => wr = w4 ∧ ∃ k : Nat, k ≤ n ∧ vi = .int .i64 k) (fun vi _ => n - (intOf vi).toNat)
    case atStart => exact ⟨rfl, 0, Nat.zero_le _, rfl⟩
    case round =>
      obtain ⟨rfl, k, hk, rfl⟩ := hrel
      by_cases hlt : k < n
      · have uk := U4 k hlt
        go_wp2
        go_roundw
        case rel => exact ⟨trivial, k + 1, by omega, by go_num⟩
        case measure => simp [intOf]; omega
      · have hke : k = n := by omega
        subst hke
        have p0 := cell_at (i := 0) (v := .slice none 0 0) hb4 rfl
        have p1 := cell_at (i := 1) (v := .map (some w1.heap.size)) hb4 rfl
        have r40 := cell_at (i := 0) (v := .slice none 0 0) hr4 rfl
        have r41 := cell_at (i := 1) (v := .map none) hr4 rfl
        have f40 := frozen_at (i := 0) hr4
        have f41 := frozen_at (i := 1) hr4
        have hl4 := heap_lt hr4
        go_wp2
        have hR : ((wr.setCell ⟨w.heap.size, 0, none⟩ (.slice none 0 0)).setCell ⟨w.heap.size, 1, none⟩ (.map (some w1.heap.size))).heap[w.heap.size]? = some (.cells #[.slice none 0 0, .map (some w1.heap.size)] 77) :=
          heap_set (i := 1) _ (heap_set (i := 0) _ hr4)
        have k0 := cell_at (i := 0) (v := .slice none 0 0) hR rfl
        have k1' := cell_at (i := 1) (v := .map (some w1.heap.size)) hR rfl
        refine bodyPost_ret (v := .agg #[.slice none 0 0, .map (some w1.heap.size)]) (by simp [results, Ybaf.results20, go_sem, k0, k1']) rfl ⟨_, rfl, ?_, hs1, ?_⟩
        · exact ((K3.trans K34).set (.inr (Nat.le_refl _)) _).set (.inr (Nat.le_refl _)) _
        · have hne : w1.heap.size ≠ w.heap.size := by have := k1.size; simp at this; omega
          rw [hnm]
          exact (Below.heap_setCell _ _ _ _ hne).trans ((Below.heap_setCell _ _ _ _ hne).trans hm4)
  · go_enter Ybaf.func20, Ybaf.ntmps20
    go_wp2_with fail
    refine (now_c i.C (nmA me) t _ (v.kp0 ((Kp.refl [] w).alloc _)).c).mono ?_
    rintro e w1 ⟨rfl, k1⟩
    have K1 := ((Kp.refl [] w).alloc (.cells #[.slice none 0 0, .map none] 77)).trans k1
    have v1 := v.kp0 K1
    have hlD1 := heap_lt v1.d
    have c8 := cell_at (i := 8) (v := .slice (some ⟨O, 0, none⟩) len cap) v1.d rfl
    have hO1 := cell_kept K1 (by simp) hO
    have hp1 := cell_kept K1 (by simp) hp
    have hl1 : (0 : Int) < len := by omega
    go_wp2_with fail
    refine (process_cA (v1.kp0 ((Kp.refl [] w1).alloc (.map #[] 0)))).mono ?_
    rintro e w2 ⟨rfl, k2⟩
    have K2 := ((Kp.refl [] w1).alloc (.map #[] 0)).trans k2
    have v2 := v1.kp0 K2
    have hm := k2.heap (heap_new w1 (.map #[] 0)) (by simp)
    have hst := run_store_miss 36 9 31 Ybaf.underlying36 Ybaf.underlying9 hm (nmA me) (.int .u64 0) rfl
    obtain ⟨w3, hw3⟩ : ∃ x, x = setO w2 w1.heap.size (.map #[{ key := .string (nmA me), val := .int .u64 0, born := 0 }] 1) := ⟨_, rfl⟩
    have hst' : (Instr.mapUpdate 36 (.map (some w1.heap.size)) (.string (nmA me)) (.int .u64 0)).run Ybaf.prog w2 = .ok () w3 := by rw [hw3]; exact hst
    have hm3 : w3.heap[w1.heap.size]? = some (.map #[{ key := .string (nmA me), val := .int .u64 0, born := 0 }] 1) := by rw [hw3]; exact setO_same _ (heap_lt hm)
    have hs1 := K1.size
    have K3 : Kp [] w w3 := by rw [hw3]; exact (K1.trans K2).setO (.inr hs1) _
    have hs3 := K3.size
    have v3 := v.kp0 K3
    have hs23 := K2.size
    have hsz : w.heap.size < w3.heap.size := by
      have := k1.size
      simp at this
      have h2 := heap_lt hm3
      omega
    have hr3 : w3.heap[w.heap.size]? = some (.cells #[.slice none 0 0, .map none] 77) := by
      rw [hw3, setO_other _ (by have := k1.size; simp at this; omega)]
      exact k2.heap ((Below.heap_alloc _ _ _ (by have := k1.size; simp at this; omega)).trans (k1.heap (heap_new w _) (by simp))) (by simp)
    clear hst hw3
    have hlD3 := heap_lt v3.d
    have hlU3 := heap_lt v3.u
    have e13 := cell_at (i := 13) (v := .slice (some ⟨i.Us, 0, none⟩) n n) v3.d rfl
    have U3 : ∀ j, j < n → w3.cell? ⟨i.Us, j, none⟩ = some (.slice none 0 0) := fun j hj => cell_at v3.u (by simp [hj])
    have r0 := cell_at (i := 0) (v := .slice none 0 0) hr3 rfl
    have r1 := cell_at (i := 1) (v := .map none) hr3 rfl
    have f0 := frozen_at (i := 0) hr3
    have f1 := frozen_at (i := 1) hr3
    generalize hnm : nmA me = sm at hst' hm3 ⊢
    go_wp2_with fail
    obtain ⟨w4, hw4⟩ : ∃ x, x = w3.alloc (.cells #[.slice none 0 0, .map (some w1.heap.size)] 77) := ⟨_, rfl⟩
    have K34 : Kp [] w3 w4 := by rw [hw4]; exact (Kp.refl [] w3).alloc _
    have hb4 : w4.heap[w3.heap.size]? = some (.cells #[.slice none 0 0, .map (some w1.heap.size)] 77) := by rw [hw4]; exact heap_new w3 _
    have U4 : Hid (∀ j, j < n → w4.cell? ⟨i.Us, j, none⟩ = some (.slice none 0 0)) := fun j hj => cell_kept K34 (by simp) (U3 j hj)
    rw [← hw4]
    clear hw4 U3
    have hr4 := K34.heap hr3 (by simp)
    have hm4 := K34.heap hm3 (by simp)
    go_loopw [48] (fun vi wr => wr = w4 ∧ ∃ k : Nat, k ≤ n ∧ vi = .int .i64 k) (fun vi _ => n - (intOf vi).toNat)
    case atStart => exact ⟨rfl, 0, Nat.zero_le _, rfl⟩
    case round =>
      obtain ⟨rfl, k, hk, rfl⟩ := hrel
      by_cases hlt : k < n
      · have uk := U4 k hlt
        go_wp2
        go_roundw
        case rel => exact ⟨trivial, k + 1, by omega, by go_num⟩
        case measure => simp [intOf]; omega
      · have hke : k = n := by omega
        subst hke
        have p0 := cell_at (i := 0) (v := .slice none 0 0) hb4 rfl
        have p1 := cell_at (i := 1) (v := .map (some w1.heap.size)) hb4 rfl
        have r40 := cell_at (i := 0) (v := .slice none 0 0) hr4 rfl
        have r41 := cell_at (i := 1) (v := .map none) hr4 rfl
        have f40 := frozen_at (i := 0) hr4
        have f41 := frozen_at (i := 1) hr4
        have hl4 := heap_lt hr4
        go_wp2
        have hR : ((wr.setCell ⟨w.heap.size, 0, none⟩ (.slice none 0 0)).setCell ⟨w.heap.size, 1, none⟩ (.map (some w1.heap.size))).heap[w.heap.size]? = some (.cells #[.slice none 0 0, .map (some w1.heap.size)] 77) :=
          heap_set (i := 1) _ (heap_set (i := 0) _ hr4)
        have k0 := cell_at (i := 0) (v := .slice none 0 0) hR rfl
        have k1' := cell_at (i := 1) (v := .map (some w1.heap.size)) hR rfl
        refine bodyPost_ret (v := .agg #[.slice none 0 0, .map (some w1.heap.size)]) (by simp [results, Ybaf.results20, go_sem, k0, k1']) rfl ⟨_, rfl, ?_, hs1, ?_⟩
        · exact ((K3.trans K34).set (.inr (Nat.le_refl _)) _).set (.inr (Nat.le_refl _)) _
        · have hne : w1.heap.size ≠ w.heap.size := by have := k1.size; simp at this; omega
          rw [hnm]
          exact (Below.heap_setCell _ _ _ _ hne).trans ((Below.heap_setCell _ _ _ _ hne).trans hm4)
end

end Go.Proofs.YbulkbxpiFmt
