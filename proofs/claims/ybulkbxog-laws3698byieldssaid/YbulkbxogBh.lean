/-
  Law B's road: zzs3698bexpect.
-/
import Derived.Test.YbulkbxogBg
namespace Go.Proofs.Ybulkbxog
open Go.RowKit

theorem Yba.info3b : (Yba.prog.info? 3).map (fun i => (i.zero, i.size, i.bytes)) = some (some (.int .i64 0), 1, 8) := by kernel_rfl

theorem one_rowB (w : World) (k : IntKind) (x : Int) (t : TypeId) : IRow (w.alloc (.cells #[.int k x] t)) k (some ⟨w.heap.size, 0, none⟩) [x] := by
  refine IRow.mk fun j hj => ?_
  obtain rfl : j = 0 := by simpa using hj
  simp

/-- The spans of the list f, n long, whose items are among items. -/
def wantOf (it : Nat → Int) (f : Nat → Nat) (items : List Int) (n : Nat) : List Int := ((List.range n).filter fun k => items.contains (it (f k))).map fun k => (f k : Int)

theorem wantOf_succ (it : Nat → Int) (f : Nat → Nat) (items : List Int) (n : Nat) : wantOf it f items (n + 1) = wantOf it f items n ++ if items.contains (it (f n)) then [(f n : Int)] else [] := by
  unfold wantOf
  rw [List.range_succ, List.filter_append, List.map_append]
  congr 1
  cases h : items.contains (it (f n)) <;> simp_all

theorem wantOf_len (it : Nat → Int) (f : Nat → Nat) (items : List Int) (n : Nat) : (wantOf it f items n).length ≤ n := by
  unfold wantOf
  rw [List.length_map]
  exact Nat.le_trans (List.length_filter_le _ _) (by simp)

theorem Vs.below {w w' : World} {sb gs S : Nat} {it : Nat → Int} (h : Vs w sb gs S it) (hb : Below w.heap.size w w') : Vs w' sb gs S it :=
  ⟨(hb.cell (World.block_lt_of_cell? w _ h.spans)).trans h.spans, fun i hi => (hb.cell (World.block_lt_of_cell? w _ (h.item i hi))).trans (h.item i hi)⟩

theorem Rd.below {w w' : World} {g n : Nat} {f : Nat → Nat} (h : Rd w g n f) (hb : Below w.heap.size w w') : Rd w' g n f :=
  fun i hi => (hb.cell (World.block_lt_of_cell? w _ (h i hi))).trans (h i hi)

theorem own_nextB {w w' : World} {B n m cp cp0 n0 : Nat} {ao ao0 : Option Addr} {xs : List Value} (hown : w'.ownsRow 0 3 1 (.slice ao m cp) n xs) (hat : blk ao = (Value.slice ao0 n0 cp0).ownBlock ∨ blk ao = some w.heap.size) (hB : B ≤ w.heap.size) (h0 : ∀ g, blk ao0 = some g → B ≤ g) :
    ∀ g, blk ao = some g → B ≤ g ∧ g < w'.heap.size := by
  intro g hg
  refine ⟨?_, (hown.lt g (by rw [ownBlock_slice]; exact hg)).2⟩
  rcases hat with h | h
  · exact h0 g (by rw [← ownBlock_slice ao0 n0 cp0, ← h]; exact hg)
  · rw [h] at hg; simp at hg; omega

set_option maxRecDepth 100000 in
set_option maxHeartbeats 1600000 in
theorem expect_c (sb gs S g n c : Nat) (it : Nat → Int) (f : Nat → Nat) (ai : Option Addr) (ci : Nat) (items : List Int) (w : World) (h : Vs w sb gs S it) (hR : Rd w g n f) (hv : ∀ i, i < n → f i < S) (hI : IRow w .i64 ai items) (hn : n ≤ 1024) (hm : items.length ≤ 1024) :
    Calls Yba.prog 8 #[.pointer (some ⟨sb, 0, none⟩), .slice (some ⟨g, 0, none⟩) n c, .slice ai items.length ci] w fun e w' =>
      ∃ ao cp, e = .returned (.slice ao (wantOf it f items n).length cp) ∧ w'.ownsRow 0 3 1 (.slice ao (wantOf it f items n).length cp) (wantOf it f items n).length ((wantOf it f items n).map (Value.int .i64)) ∧ (∀ k, blk ao = some k → w.heap.size ≤ k) ∧ Below w.heap.size w w' := by
  obtain ⟨i0, hi0, hz0, hz1, hz2⟩ := info_parts Yba.info3b
  have O0 : (w.alloc (.cells #[] 3)).ownsRow 0 3 1 (.slice (some ⟨w.heap.size, 0, none⟩) 0 0) 0 (([] : List Int).map (Value.int .i64)) :=
    ⟨rfl, .inr ⟨w.heap.size, 0, #[], rfl, Nat.zero_le _, heap_alloc_new w _, by simp, by simp [maxLen], rfl, rfl⟩⟩
  go_enter Yba.func8, Yba.ntmps8
  go_wp2
  go_loopw [7, 16, 42] (fun vo vi _ wr => ∃ (k : Nat) (ao : Option Addr) (cp : Nat) (out : List Int), k ≤ n ∧ vi = .int .i64 k ∧ vo = .slice ao out.length cp ∧ Hid (out = wantOf it f items k) ∧ out.length ≤ k ∧ wr.ownsRow 0 3 1 (.slice ao out.length cp) out.length (out.map (Value.int .i64)) ∧ (∀ k, blk ao = some k → w.heap.size ≤ k) ∧ Below w.heap.size w wr) (fun _ vi _ _ => n - (intOf vi).toNat)
  case atStart => exact ⟨0, some ⟨w.heap.size, 0, none⟩, 0, [], Nat.zero_le _, rfl, rfl, rfl, Nat.le_refl _, O0, fun k e => by cases e; exact Nat.le_refl _, (Below.refl _ w).alloc (Nat.le_refl _) _⟩
  case round =>
    obtain ⟨k, ao, cp, out, hk, rfl, rfl, HO, hol, hown, hat, hB⟩ := hrel
    by_cases hlt : k < n
    · have hVr := h.below hB
      have c0 := hVr.spans
      have c1 := (hR.below hB) k hlt
      have b1 := hv k hlt
      have c2 := hVr.item (f k) b1
      have q1 : (f k : Int) < S := by omega
      have hIr := hI.below hB
      have HW : Hid (wantOf it f items (k + 1) = wantOf it f items k ++ if items.contains (it (f k)) then [(f k : Int)] else []) := wantOf_succ it f items k
      clear hVr O0
      generalize f k = fk at c1 b1 c2 q1 HW
      generalize it fk = x at c2 HW
      go_wp2
      by_cases h0 : items.length = 0
      · have hx : items = [] := List.eq_nil_of_length_eq_zero h0
        subst hx
        refine wp_loop_rounds 1 ?_
        rw [rounds_succ]
        go_wp2
        go_roundw
        case rel => exact ⟨k + 1, ao, cp, out, by omega, by go_num, rfl, by show out = _; rw [HW.out, HO.out]; simp, by omega, hown, hat, hB⟩
        case measure => simp [intOf]; omega
      · obtain ⟨gi, oi, rfl, hci⟩ := hIr.at (by omega)
        have HCI : Hid _ := hci
        clear hci hIr
        obtain ⟨wA, hwA⟩ : ∃ x, x = wr := ⟨_, rfl⟩
        subst hwA
        go_loopw [7, 30, 36] (fun vo vj _ wq => wq = wA ∧ vo = .slice ao out.length cp ∧ ∃ j : Nat, j ≤ items.length ∧ vj = .int .i64 j ∧ Hid (∀ t, t < j → items[t]?.getD 0 ≠ x)) (fun _ vj _ _ => items.length - (intOf vj).toNat)
        case atStart => exact ⟨rfl, rfl, 0, Nat.zero_le _, rfl, fun t ht => absurd ht (Nat.not_lt_zero _)⟩
        case round =>
          obtain ⟨rfl, rfl, j, hj, rfl, HN⟩ := hrel
          by_cases hjl : j < items.length
          · obtain ⟨y, hy⟩ : ∃ y, items[j]? = some y := ⟨items[j], by simp [hjl]⟩
            have ci : wr.cell? ⟨gi, oi + j, none⟩ = some (.int .i64 y) := by have := HCI.out j hjl; rw [hy] at this; exact this
            have HY : Hid (items[j]? = some y) := hy
            clear hy
            by_cases he : y = x
            · subst he
              have HE : Hid (items.contains y = true) := by show items.contains y = true; simpa using List.mem_of_getElem? HY.out
              go_wp2_with (at_builtin; refine wpList_app _ rfl (.tmp 37) (.tmp 39) 25 rfl 0 3 i0 (.int .i64 0) 8 Yba.underlying25 hi0 hz0 hz1 hz2 rfl .i64 (.slice ao out.length cp) out.length out rfl (hown.alloc _) (some ⟨wr.heap.size, 0, none⟩) 1 1 [(fk : Int)] rfl rfl (one_rowB _ _ _ _) (by simp) (by unfold maxLen; omega) (by omega) (Nat.zero_le _) ?_; intro ao2 cp2 w2 hown2 hgrow2 hat2 _)
              have hsz := hB.size
              have hB2 : Below w.heap.size w w2 := (hB.alloc hsz _).grown hgrow2 (by simp; omega) (fun k e => hat k (by rw [← ownBlock_slice]; exact e))
              have hat3 := own_nextB hown2 hat2 (B := w.heap.size) (by simp; omega) hat
              go_roundw
              case rel =>
                refine ⟨k + 1, ao2, cp2, out ++ [(fk : Int)], by omega, by go_num, by rw [List.length_append]; rfl, ?_, by rw [List.length_append]; simp; omega, by rw [List.length_append]; exact hown2, fun k e => (hat3 k e).1, hB2⟩
                show _ = _
                rw [HW.out, HE.out, HO.out]; rfl
              case measure => simp [intOf]; omega
            · have heb : (y == x) = false := by simpa using he
              go_wp2
              go_roundw
              case rel =>
                refine ⟨trivial, rfl, j + 1, by omega, by go_num, fun t ht => ?_⟩
                by_cases e : t = j
                · subst e; rw [HY.out]; exact he
                · exact HN.out t (by omega)
              case measure => simp [intOf]; omega
          · have HE : Hid (items.contains x = false) := by
              show items.contains x = false
              cases hc : items.contains x with
              | false => rfl
              | true =>
                obtain ⟨t, ht⟩ := List.getElem?_of_mem (by simpa using hc)
                have hl : t < items.length := (List.getElem?_eq_some_iff.1 ht).1
                exact absurd (by rw [ht]; rfl) (HN.out t (by omega))
            go_wp2
            go_roundw
            case rel => exact ⟨k + 1, ao, cp, out, by omega, by go_num, rfl, by show out = _; rw [HW.out, HO.out, HE.out]; simp, by omega, hown, hat, hB⟩
            case measure => simp [intOf]; omega
    · have hke : k = n := by omega
      subst hke
      have eO := HO.out
      clear HO
      subst eO
      go_wp2
      go_ret
      exact ⟨ao, cp, rfl, hown, hat, hB⟩

end Go.Proofs.Ybulkbxog
