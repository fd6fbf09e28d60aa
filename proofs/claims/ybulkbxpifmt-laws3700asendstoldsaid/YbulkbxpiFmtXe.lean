/-
  'send' to the processes numbered ks.
-/
import Derived.Test.YbulkbxpiFmtXd
namespace Go.Proofs.YbulkbxpiFmt
open Go.RowKit Go.MuLone Go.Stop

/-- The row td with T at each of ks. -/
def tdSet (td : List Int) (ks : List Nat) (T : Int) : List Int := ks.foldl (fun l k => l.set k T) td
theorem tdSet_len (td : List Int) (ks : List Nat) (T : Int) : (tdSet td ks T).length = td.length := by
  unfold tdSet
  induction ks generalizing td with
  | nil => rfl
  | cons k ks ih => rw [List.foldl_cons, ih]; simp
theorem tdSet_snoc (td : List Int) (ks : List Nat) (k : Nat) (T : Int) : tdSet td (ks ++ [k]) T = (tdSet td ks T).set k T := by
  unfold tdSet; rw [List.foldl_append]; rfl

section
variable {i : Ids} {n me : Nat} {w w' : World} {mu t : Int} {td : List Int} {ow : Value}

set_option maxRecDepth 100000 in
set_option maxHeartbeats 1000000 in
theorem send_cA (v : SrvA i n me w mu t td ow) (ht : 0 ≤ t ∧ t < 18446744073709551615) (r cap : Nat) (ks : List Nat) (hlen : ks.length ≤ 256) (hk : ∀ k ∈ ks, k < n) (hA : AtI w r ks) (hrn : r ∉ i.listA) :
    Calls Ybaf.prog 21 #[.pointer (some ⟨i.D, 2, none⟩), .slice (some ⟨r, 0, none⟩) ks.length cap] w fun e w' => e = .returned (.agg #[.int .u64 (t + 1), .string (nmA me)]) ∧ Kp [i.C, i.Td] w w' ∧ SrvA i n me w' mu (t + 1) (tdSet td ks (t + 1)) ow := by
  have h6 := v.n6
  have hlD := heap_lt v.d
  have c2 := cell_at (i := 2) (v := .pointer (some ⟨i.C, 0, none⟩)) v.d rfl
  generalize hsm : nmA me = sm
  go_enter Ybaf.func21, Ybaf.ntmps21
  go_wp2_with fail
  refine (tick_c i.C (nmA me) t _ (v.kp0 ((Kp.refl [] w).alloc _)).c ht).mono ?_
  rintro e w1 ⟨rfl, k1, c1⟩
  have K1 := ((Kp.refl [i.C] w).alloc (.cells #[.int .u64 0, .string ⟨#[]⟩] 34)).trans k1
  have v1 := v.setC K1 c1
  have hlC := heap_lt v.c
  have hs1 := k1.size
  simp at hs1
  have hr1 := k1.heap (heap_new w (.cells #[.int .u64 0, .string ⟨#[]⟩] 34)) (by simp; omega)
  have nrC : r ∉ [i.C] := fun e => hrn (by simp at e; simp [e])
  have nrT : r ∉ [i.Td] := fun e => hrn (by simp at e; simp [e])
  have hA1 := hA.kp K1 nrC
  have hlT := heap_lt v.tt
  rw [hsm]
  go_wp2_with fail
  obtain ⟨w2, hw2⟩ : ∃ x, x = w1.alloc (.cells #[.int .u64 (t + 1), .string sm] 34) := ⟨_, rfl⟩
  have K12 : Kp [] w1 w2 := by rw [hw2]; exact (Kp.refl [] w1).alloc _
  have hb2 : w2.heap[w1.heap.size]? = some (.cells #[.int .u64 (t + 1), .string sm] 34) := by rw [hw2]; exact heap_new w1 _
  have v2 := v1.kp0 K12
  have hr2 := K12.heap hr1 (by simp)
  have hA2 := hA1.kp K12 (by simp)
  rw [← hw2]
  clear hw2
  have HA : Hid (AtI w2 r ks) := hA2
  clear hA2 hA1 hA
  go_loopw [15] (fun vi wr => ∃ k : Nat, k ≤ ks.length ∧ vi = .int .i64 k ∧ Kp [i.Td] w2 wr ∧ wr.heap[i.Td]? = some (.cells (rowU (tdSet td (ks.take k) (t + 1))) 31)) (fun vi _ => ks.length - (intOf vi).toNat)
  case atStart => exact ⟨0, Nat.zero_le _, rfl, Kp.refl _ w2, v2.tt⟩
  case round =>
    obtain ⟨k, hkl, rfl, kr, hT⟩ := hrel
    have lenT := tdSet_len td (ks.take k) (t + 1)
    have tl := v.tl
    have vr := v2.setT kr hT (lenT.trans tl)
    have nb : w1.heap.size ∉ [i.Td] := by simp; omega
    have hbr := kr.heap hb2 nb
    have e7 := cell_at (i := 7) (v := .slice (some ⟨i.Td, 0, none⟩) n n) vr.d rfl
    have b0 := cell_at (i := 0) (v := .int .u64 (t + 1)) hbr rfl
    have b1 := cell_at (i := 1) (v := .string sm) hbr rfl
    by_cases hlt : k < ks.length
    · obtain ⟨x, hx⟩ : ∃ x, ks[k]? = some x := ⟨ks[k], by simp [hlt]⟩
      have hxn := hk x (List.mem_of_getElem? hx)
      have q1 := HA.out.kp kr nrT k x hx
      have dk0 : (0 : Int) ≤ (x : Int) := by omega
      have dk3 : (x : Int) < n := by omega
      obtain ⟨y, hy⟩ : ∃ y, (tdSet td (ks.take k) (t + 1))[x]? = some y := ⟨_, List.getElem?_eq_getElem (by omega)⟩
      have tk := rowU_get hT hy
      have ft := frozen_at (i := x) hT
      have HX : Hid (ks[k]? = some x) := hx
      clear hx
      have hT2 : ((wr.setCell ⟨i.Td, x, none⟩ (.int .u64 (t + 1))).drew).heap[i.Td]? = some (.cells (rowU (tdSet td (ks.take (k + 1)) (t + 1))) 31) := by
        refine (heap_set (i := x) (.int .u64 (t + 1)) hT).trans ?_
        rw [take_succ' HX, tdSet_snoc, rowU, rowU]
        simp [List.map_set]
      go_wp2_with fail
      go_region
      all_goals
        go_wp2
        go_roundw
        case rel => exact ⟨k + 1, by omega, by go_num, (kr.set (.inl (by simp)) _).drew, hT2⟩
        case measure => simp [intOf]; omega
    · have hke : k = ks.length := by omega
      subst hke
      rw [List.take_length] at hT vr
      have nr : w.heap.size ∉ [i.Td] := by simp; omega
      have hrr := kr.heap hr2 nr
      have r0 := cell_at (i := 0) (v := .int .u64 0) hrr rfl
      have r1 := cell_at (i := 1) (v := .string ⟨#[]⟩) hrr rfl
      have f0 := frozen_at (i := 0) hrr
      have f1 := frozen_at (i := 1) hrr
      have hlr := heap_lt hrr
      go_wp2
      have hR : ((wr.setCell ⟨w.heap.size, 0, none⟩ (.int .u64 (t + 1))).setCell ⟨w.heap.size, 1, none⟩ (.string sm)).heap[w.heap.size]? = some (.cells #[.int .u64 (t + 1), .string sm] 34) :=
        heap_set (i := 1) _ (heap_set (i := 0) _ hrr)
      have z0 := cell_at (i := 0) (v := .int .u64 (t + 1)) hR rfl
      have z1 := cell_at (i := 1) (v := .string sm) hR rfl
      have K2 : Kp [i.C, i.Td] w wr := ((K1.mono (by simp)).trans (K12.mono (by simp))).trans (kr.mono (by simp))
      refine bodyPost_ret (v := .agg #[.int .u64 (t + 1), .string sm]) (by simp [results, Ybaf.results21, go_sem, z0, z1]) rfl ⟨rfl, ?_, ?_⟩
      · exact (K2.set (.inr (Nat.le_refl _)) _).set (.inr (Nat.le_refl _)) _
      · refine vr.kp (bs := [w.heap.size]) (((Kp.refl _ wr).set (.inl (by simp)) _).set (.inl (by simp)) _) ?_
        intro a ha
        have : a < w.heap.size := v.lt a ha
        simp; omega
end

end Go.Proofs.YbulkbxpiFmt
