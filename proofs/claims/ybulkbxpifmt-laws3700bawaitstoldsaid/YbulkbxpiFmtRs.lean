/-
  'Receive' where the stamp awaits one message: settled, or not.
-/
import Derived.Test.YbulkbxpiFmtRy
import Derived.Test.YbulkbxpiFmtAd
import Derived.Test.YbulkbxpiFmtAe
namespace Go.Proofs.YbulkbxpiFmt
open Go.RowKit Go.MuLone Go.Stop

section
variable {i : Ids} {w : World} {mu t : Int} {hd td se : List Int} {q wt : Value}

theorem recv_sett (v : Srv i w 0 t hd td se (.slice none 0 0) (.slice none 0 0)) (T : Int) (k : Nat) (hk1 : 1 ≤ k) (hk2 : k ≤ 2) (x : Int) (hx : hd[k]? = some x) (hxT : x < T) (ht : 0 ≤ t ∧ t ≤ T ∧ T + 3 ≤ 18446744073709551615) (m : Int)
    (ma ab : Nat) (sl : Option Nat) (a : Int) (na : ByteArray) (hma : w.heap[ma]? = some (oneA P0 (.slice (some ⟨ab, 0, none⟩) 1 1))) (hab : w.heap[ab]? = some (.cells #[.int .u64 a, .string na] 34)) (hn : ∀ b ∈ i.list, ma ≠ b ∧ ab ≠ b) (se' : List Int)
    (Hb : ∀ W, Srv i W 1 t hd td se (.slice none 0 0) (.slice none 0 0) → Calls Ybaf.prog 27 #[.pointer (some ⟨i.D, 0, none⟩), .agg #[.int .u64 T, .string (nmOf k)], .string na, .int .u64 a] W fun e w' => e = .returned .nilIface ∧ Kp [] W w')
    (Hp : ∀ W, Kp [i.D] w W → Srv i W 1 t hd td se (.slice none 0 0) (.slice none 0 0) → Calls Ybaf.prog 28 #[.pointer (some ⟨i.D, 0, none⟩), .agg #[.int .u64 T, .string (nmOf k)], .agg #[.slice none 0 0, .map sl]] W fun e w' => e = .returned .nilIface ∧ Kp [] W w')
    (Hl : ∀ W, Kp [i.D, i.C, i.Hd] w W → Srv i W 1 (T + 1) (hd.set k T) td se (.slice none 0 0) (.slice none 0 0) → Calls Ybaf.prog 31 #[.pointer (some ⟨i.D, 0, none⟩), .agg #[.int .u64 T, .string (nmOf k)], .map sl] W fun e w' => e = .returned (.tuple #[]) ∧ Kp [i.Se] W w' ∧ Srv i w' 1 (T + 1) (hd.set k T) td se' (.slice none 0 0) (.slice none 0 0))
    (y : Int) (hy : td[k]? = some y)
    (Hs : ∀ wt' W, Srv i W 1 (T + 1) (hd.set k T) td se' (.slice none 0 0) wt' → Calls Ybaf.prog 46 #[.pointer (some ⟨i.D, 0, none⟩), .agg #[.int .u64 a, .string na]] W fun e w'' => e = .returned (.bool true) ∧ Kp [] W w'') :
    Calls Ybaf.prog 13 #[.pointer (some ⟨i.D, 0, none⟩), .agg #[.int .u64 T, .string (nmOf k), .map (some ma), .map sl], .int .i64 m] w fun e w' => ∃ go cap' curo gt mm q' wt', e = .returned (.tuple #[.slice (some ⟨go, 0, none⟩) 1 cap', .slice none 0 0, .nilIface]) ∧
      (∃ bs, Kp bs w w' ∧ ∀ b ∈ bs, b ∈ i.list ∨ w.heap.size ≤ b) ∧ Srv i w' 0 (T + 2) (hd.set k T) (td.set k (T + 2)) se' q' wt' ∧ (∃ g1 c1, q' = .slice (some ⟨g1, 0, none⟩) 1 c1) ∧ (∃ g2 c2, wt' = .slice (some ⟨g2, 0, none⟩) 0 c2) ∧ w'.heap[go]? = some (.cells curo 79) ∧
      (∀ j, j < 10 → curo[j]? = (#[.string ⟨#[112, 114, 111, 112, 111, 115, 97, 108]⟩, .int .u64 (T + 2), .string P0, .slice (some ⟨gt, 0, none⟩) 1 1, .int .u64 T, .string (nmOf k), .int .u64 (T + 2), .string P0, .slice none 0 0, .map (some mm)] : Array Value)[j]?) ∧ w.heap.size ≤ go := by
  refine (recv_aw v T k hk1 hk2 x hx hxT ht m ma ab sl a na hma hab hn se' Hb Hp Hl
    (fun o W => ∃ go cap' curo gt mm q' wt', o = .slice (some ⟨go, 0, none⟩) 1 cap' ∧ (∃ bs, Kp bs w W ∧ ∀ b ∈ bs, b ∈ i.list ∨ w.heap.size ≤ b) ∧ Srv i W 1 (T + 2) (hd.set k T) (td.set k (T + 2)) se' q' wt' ∧ (∃ g1 c1, q' = .slice (some ⟨g1, 0, none⟩) 1 c1) ∧ (∃ g2 c2, wt' = .slice (some ⟨g2, 0, none⟩) 0 c2) ∧ W.heap[go]? = some (.cells curo 79) ∧
      (∀ j, j < 10 → curo[j]? = (#[.string ⟨#[112, 114, 111, 112, 111, 115, 97, 108]⟩, .int .u64 (T + 2), .string P0, .slice (some ⟨gt, 0, none⟩) 1 1, .int .u64 T, .string (nmOf k), .int .u64 (T + 2), .string P0, .slice none 0 0, .map (some mm)] : Array Value)[j]?) ∧ w.heap.size ≤ go) ?_ ?_).mono ?_
  · rintro o W ⟨go, cap', curo, gt, mm, q', wt', -, -, v1, -⟩
    exact ⟨_, _, _, _, _, _, v1⟩
  · intro W g cap cur aw ac cura KW vW hgs hg hc1 hcm hlen hcur hgn hac haw h0 h1
    have hsW := KW.size
    refine (act_sett g cap vW (by omega) T k hk1 hk2 aw ac m cur hg hc1 (by rw [hlen]; omega) hcur hgn y hy hac a na cura haw h0 h1 (fun w' v' => Hs _ w' v')).mono ?_
    rintro e w' ⟨go, cap', curo, gt, mm, gq, cq, curq, rfl, k11, v11, ho, hoc, ht11, hm11, hq11, lo, lt, lm⟩
    have eT : T + 1 + 1 = T + 2 := by omega
    rw [eT] at v11 hoc
    refine ⟨_, rfl, go, cap', curo, gt, mm, _, _, rfl, ⟨[i.D, i.C, i.Hd, i.Se, i.Td, g], (KW.mono (by simp)).trans (k11.mono (by simp)), ?_⟩, v11, ⟨gq, cq, rfl⟩, ⟨g, cap, rfl⟩, ho, hoc, by omega⟩
    intro b hb
    simp only [List.mem_cons, List.not_mem_nil, or_false] at hb
    rcases hb with rfl | rfl | rfl | rfl | rfl | rfl
    · exact .inl (by simp)
    · exact .inl (by simp)
    · exact .inl (by simp)
    · exact .inl (by simp)
    · exact .inl (by simp)
    · exact .inr hgs
  · rintro e w' ⟨o, w1, rfl, ⟨go, cap', curo, gt, mm, q', wt', rfl, ⟨bs, kb, hbs⟩, v1, hq, hwt, ho, hoc, lo⟩, rfl⟩
    have hDlt := v.lt i.D (by simp)
    refine ⟨go, cap', curo, gt, mm, q', wt', rfl, ⟨i.D :: bs, (kb.mono (by simp; exact fun b h => .inr h)).set (a := ⟨i.D, 0, none⟩) (.inl (by simp)) _, ?_⟩, v1.lock 0, hq, hwt, (Below.heap_setCell _ _ _ _ (by show go ≠ i.D; omega)).trans ho, hoc, lo⟩
    intro b hb
    rcases List.mem_cons.1 hb with rfl | hb
    · exact .inl (by simp)
    · exact hbs b hb

theorem recv_wait (v : Srv i w 0 t hd td se (.slice none 0 0) (.slice none 0 0)) (T : Int) (k : Nat) (hk1 : 1 ≤ k) (hk2 : k ≤ 2) (x : Int) (hx : hd[k]? = some x) (hxT : x < T) (ht : 0 ≤ t ∧ t ≤ T ∧ T + 3 ≤ 18446744073709551615) (m : Int)
    (ma ab : Nat) (sl : Option Nat) (a : Int) (na : ByteArray) (hma : w.heap[ma]? = some (oneA P0 (.slice (some ⟨ab, 0, none⟩) 1 1))) (hab : w.heap[ab]? = some (.cells #[.int .u64 a, .string na] 34)) (hn : ∀ b ∈ i.list, ma ≠ b ∧ ab ≠ b) (se' : List Int)
    (Hb : ∀ W, Srv i W 1 t hd td se (.slice none 0 0) (.slice none 0 0) → Calls Ybaf.prog 27 #[.pointer (some ⟨i.D, 0, none⟩), .agg #[.int .u64 T, .string (nmOf k)], .string na, .int .u64 a] W fun e w' => e = .returned .nilIface ∧ Kp [] W w')
    (Hp : ∀ W, Kp [i.D] w W → Srv i W 1 t hd td se (.slice none 0 0) (.slice none 0 0) → Calls Ybaf.prog 28 #[.pointer (some ⟨i.D, 0, none⟩), .agg #[.int .u64 T, .string (nmOf k)], .agg #[.slice none 0 0, .map sl]] W fun e w' => e = .returned .nilIface ∧ Kp [] W w')
    (Hl : ∀ W, Kp [i.D, i.C, i.Hd] w W → Srv i W 1 (T + 1) (hd.set k T) td se (.slice none 0 0) (.slice none 0 0) → Calls Ybaf.prog 31 #[.pointer (some ⟨i.D, 0, none⟩), .agg #[.int .u64 T, .string (nmOf k)], .map sl] W fun e w' => e = .returned (.tuple #[]) ∧ Kp [i.Se] W w' ∧ Srv i w' 1 (T + 1) (hd.set k T) td se' (.slice none 0 0) (.slice none 0 0))
    (Hs : ∀ wt' W, Srv i W 1 (T + 1) (hd.set k T) td se' (.slice none 0 0) wt' → Calls Ybaf.prog 46 #[.pointer (some ⟨i.D, 0, none⟩), .agg #[.int .u64 a, .string na]] W fun e w'' => e = .returned (.bool false) ∧ Kp [] W w'') :
    Calls Ybaf.prog 13 #[.pointer (some ⟨i.D, 0, none⟩), .agg #[.int .u64 T, .string (nmOf k), .map (some ma), .map sl], .int .i64 m] w fun e w' => ∃ g' cap', e = .returned (.tuple #[.slice none 0 0, .slice none 0 0, .nilIface]) ∧
      (∃ bs, Kp bs w w' ∧ ∀ b ∈ bs, b ∈ i.list ∨ w.heap.size ≤ b) ∧ Srv i w' 0 (T + 1) (hd.set k T) td se' (.slice none 0 0) (.slice (some ⟨g', 0, none⟩) 1 cap') := by
  refine (recv_aw v T k hk1 hk2 x hx hxT ht m ma ab sl a na hma hab hn se' Hb Hp Hl
    (fun o W => o = .slice none 0 0 ∧ (∃ bs, Kp bs w W ∧ ∀ b ∈ bs, b ∈ i.list ∨ w.heap.size ≤ b) ∧ ∃ g' cap', Srv i W 1 (T + 1) (hd.set k T) td se' (.slice none 0 0) (.slice (some ⟨g', 0, none⟩) 1 cap')) ?_ ?_).mono ?_
  · rintro o W ⟨-, -, g', cap', v1⟩
    exact ⟨_, _, _, _, _, _, v1⟩
  · intro W g cap cur aw ac cura KW vW hgs hg hc1 hcm hlen hcur hgn hac haw h0 h1
    refine (act_wait g cap vW T k aw ac m cur hg hc1 hcm hlen hcur hgn hac a na cura haw h0 h1 (fun w' v' => Hs _ w' v')).mono ?_
    rintro e w' ⟨g', cap', rfl, k11, v11⟩
    refine ⟨_, rfl, rfl, ⟨[i.D, i.C, i.Hd, i.Se, g], (KW.mono (by simp)).trans (k11.mono (by simp)), ?_⟩, g', cap', v11⟩
    intro b hb
    simp only [List.mem_cons, List.not_mem_nil, or_false] at hb
    rcases hb with rfl | rfl | rfl | rfl | rfl
    · exact .inl (by simp)
    · exact .inl (by simp)
    · exact .inl (by simp)
    · exact .inl (by simp)
    · exact .inr hgs
  · rintro e w' ⟨o, w1, rfl, ⟨rfl, ⟨bs, kb, hbs⟩, g', cap', v1⟩, rfl⟩
    refine ⟨g', cap', rfl, ⟨i.D :: bs, (kb.mono (by simp; exact fun b h => .inr h)).set (a := ⟨i.D, 0, none⟩) (.inl (by simp)) _, ?_⟩, v1.lock 0⟩
    intro b hb
    rcases List.mem_cons.1 hb with rfl | hb
    · exact .inl (by simp)
    · exact hbs b hb
end

end Go.Proofs.YbulkbxpiFmt
