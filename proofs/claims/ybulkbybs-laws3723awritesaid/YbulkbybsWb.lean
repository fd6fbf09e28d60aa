/-
  'LawS3723AWrite': the walk.
-/
import Derived.Test.YbulkbybsWa
namespace Go.Proofs.Ybulkbybs
open Go.RowKit

/-- The chunks: a slice of slices of bytes. -/
def RawAt (w : World) (ao : Option Addr) (rows : List (List Int)) : Prop :=
  ∀ j r, rows[j]? = some r → ∃ b o A C, ao = some ⟨b, o, none⟩ ∧ w.cell? ⟨b, o + j, none⟩ = some (.slice A r.length C) ∧ IRow w .u8 A r ∧ r.length ≤ C ∧ C ≤ maxLen ∧ (A = none → C = 0)

theorem RawAt.below {w w' : World} {ao : Option Addr} {rows : List (List Int)} (h : RawAt w ao rows) (hb : Below w.heap.size w w') : RawAt w' ao rows := by
  intro j r hj
  obtain ⟨b, o, A, C, rfl, h1, h2, h3⟩ := h j r hj
  exact ⟨b, o, A, C, rfl, (hb.cell (World.block_lt_of_cell? w _ h1)).trans h1, h2.below hb, h3⟩

theorem ownsRow_block {w w' : World} {base : Nat} {e : TypeId} {size : Nat} {v : Value} {n : Nat} {xs : List Value} (h : w.ownsRow base e size v n xs) (hb : ∀ g, v.ownBlock = some g → w'.heap[g]? = w.heap[g]?) : w'.ownsRow base e size v n xs := by
  refine ⟨h.1, ?_⟩
  rcases h.2 with h' | ⟨g, cap, cur, rfl, h1, h2, h3⟩
  · exact .inl h'
  · exact .inr ⟨g, cap, cur, rfl, h1, (hb g rfl).trans h2, h3⟩

theorem Kb.forget {n n' b g g' : Nat} {w w' : World} (h : Kb n b g w w') (hn : n' ≤ n) (hg : n' ≤ g) : Kb n' b g' w w' :=
  ⟨h.os, h.tape, h.output, h.size, fun k hk h1 _ => h.block k (by omega) h1 (by omega)⟩

/-- What stands behind some writes. -/
def cut (xs : List Int) : List Int := xs.take 65536

theorem cut_step (a ys : List Int) : cut a ++ ys.take (65536 - (cut a).length) = cut (a ++ ys) := by
  unfold cut
  rw [List.take_append, List.length_take]
  congr 2
  omega

theorem drop_step (d : Bool) (a ys : List Int) : ((d || decide (65536 < a.length)) || decide (65536 - (cut a).length < ys.length)) = (d || decide (65536 < (a ++ ys).length)) := by
  unfold cut
  rw [List.length_append, List.length_take]
  cases d <;> simp
  by_cases h : 65536 < a.length
  · simp [h]; omega
  · simp [h]; omega

theorem flat_step (rows : List (List Int)) (k : Nat) (r : List Int) (h : rows[k]? = some r) : (rows.take (k + 1)).flatten = (rows.take k).flatten ++ r := by
  obtain ⟨hk, rfl⟩ := List.getElem?_eq_some_iff.1 h
  rw [List.take_succ_eq_append_getElem hk]; simp only [List.flatten_append, List.flatten_cons, List.flatten_nil, List.append_nil]

theorem flat_len (rows : List (List Int)) (h : ∀ r ∈ rows, r.length ≤ 4096) : rows.flatten.length ≤ rows.length * 4096 := by
  induction rows with
  | nil => simp
  | cons r rs ih =>
    have := ih fun x hx => h x (List.mem_cons_of_mem _ hx)
    have := h r List.mem_cons_self
    simp only [List.flatten_cons, List.length_append, List.length_cons]; omega

set_option maxRecDepth 100000 in
set_option maxHeartbeats 400000 in
theorem law3_long (near dropped : Bool) (pre : Int) (ao : Option Addr) (n cap : Nat) (w : World) (h : 1024 < n) :
    Calls Yba.prog 3 #[.bool near, .int .u16 pre, .bool dropped, .slice ao n cap] w fun e w' => e = .returned (.bool true) ∧ Below w.heap.size w w' := by
  have h1' : (1024 : Int) < (n : Int) := by omega
  go_enter Yba.func3, Yba.ntmps3
  go_wp2
  go_ret
  exact ⟨rfl, Below.refl _ _⟩

set_option maxRecDepth 100000 in
set_option maxHeartbeats 1600000 in
theorem law3_rows (near dropped : Bool) (pre : Int) (n : Nat) (hp0 : 0 ≤ pre) (hp1 : pre ≤ 65535) (hn : (if near then 65536 - pre % 256 else pre % 256) = (n : Int)) (ao : Option Addr) (cap : Nat) (rows : List (List Int)) (w : World) (hr : RawAt w ao rows) (hl : rows.length ≤ 1024) :
    Calls Yba.prog 3 #[.bool near, .int .u16 pre, .bool dropped, .slice ao rows.length cap] w fun e w' => e = .returned (.bool true) ∧ Below w.heap.size w w' := by
  obtain ⟨i0, hi0, hz0, hz1, hz2⟩ := info_parts Yba.info5
  have hn2 : n ≤ 65536 := by cases near <;> simp at hn <;> omega
  have hmk := fun w => run_make_row' (P := Yba.prog) 24 5 (.int .u8 0) 1 Yba.underlying24 Yba.info5 rfl .i64 .i64 n (by omega) (by omega) w
  have H0 : Hid (rows.length ≤ 1024) := hl
  have h1' : (rows.length : Int) ≤ 1024 := by omega
  have h1d : decide ((1024 : Int) < (rows.length : Int)) = false := by simp; omega
  cases near
  all_goals
    simp at hn
    go_enter Yba.func3, Yba.ntmps3
    go_wp2
    go_loop [9, 34] (fun i _ => ∃ k : Nat, k ≤ rows.length ∧ i = .int .i64 k ∧ ∀ r ∈ rows.take k, r.length ≤ 4096) (fun i _ => rows.length - (intOf i).toNat)
    case atStart => exact ⟨0, Nat.zero_le _, rfl, fun r h => by simp at h⟩
    case round =>
      obtain ⟨k, hk, rfl, hall⟩ := hrel
      have H : Hid (∀ r ∈ rows.take k, r.length ≤ 4096) := hall
      clear hall
      by_cases hlt : k < rows.length
      · obtain ⟨b, o, A, C, rfl, hc, hA, hC⟩ := hr k rows[k] (by simp)
        generalize hRk : rows[k] = rk at hc hA hC
        by_cases hL : 4096 < rk.length
        · have hL' : (4096 : Int) < (rk.length : Int) := by omega
          go_wp2
          go_ret
          exact ⟨rfl, Below.refl _ _⟩
        · have hL' : (rk.length : Int) ≤ 4096 := by omega
          go_wp2
          go_round
          case rel => exact ⟨k + 1, by omega, by go_num, fun r hr => by
            rw [List.take_succ_eq_append_getElem hlt] at hr
            rcases List.mem_append.1 hr with h | h
            · exact H.out r h
            · simp at h; subst h; rw [hRk]; omega⟩
          case measure => simp [intOf]; omega
      · have hke : k = rows.length := by omega
        subst hke
        have hall : ∀ r ∈ rows, r.length ≤ 4096 := by have := H.out; rwa [List.take_length] at this
        clear H hk hlt
        go_wp2
        go_loopw [12, 54] (fun i _ wr => ∃ (k : Nat) (xs : List Int), k ≤ n ∧ i = .int .i64 k ∧ xs.length = n ∧ wr.ownsRow 0 5 1 (.slice (some ⟨w.heap.size, 0, none⟩) n n) n (xs.map (Value.int .u8)) ∧ Below w.heap.size w wr ∧ w.heap.size + 1 = wr.heap.size) (fun i _ _ => n - (intOf i).toNat)
        case atStart => exact ⟨0, List.replicate n 0, Nat.zero_le _, rfl, by simp, by have := World.ownsRow_lit (base := 0) (e := 5) (size := 1) w (madeCells #[.int .u8 0] n) n (Nat.zero_le _) (by unfold maxLen; omega) (by simp [madeCells]); rw [toList_madeCells_one] at this; simpa using this, (Below.refl _ w).alloc (Nat.le_refl _) _, by simp⟩
        case round =>
          obtain ⟨k, xs, hk, rfl, hxl, hown, hB, hsz⟩ := hrel
          by_cases hlt : k < n
          · have hc := hown.cellAt k (by omega)
            have hf := hown.frozenAt k
            rw [List.getElem?_map, List.getElem?_eq_getElem (by omega)] at hc
            have HX : Hid (xs.length = n) := hxl
            have HS : Hid (w.heap.size + 1 = wr.heap.size) := hsz
            simp only [Option.map_some] at hc
            generalize xs[k] = x0 at hc
            clear hxl hsz
            go_wp2
            go_roundw
            case rel => exact ⟨k + 1, xs.set k ((↑k * 7 + 3) % 256), by omega, by go_num, by simpa using HX.out, by rw [List.map_set]; exact (hown.stored k _).1, hB.grown (hown.stored k (.int .u8 ((↑k * 7 + 3) % 256))).2 hB.size (fun j e => by cases e; exact Nat.le_refl _), by simpa [World.setCell] using HS.out⟩
            case measure => simp [intOf]; omega
          · have hke : k = n := by omega
            subst hke
            obtain ⟨wA, hwA⟩ : ∃ x, x = wr := ⟨_, rfl⟩
            subst hwA
            have HX : Hid (xs.length = k) := hxl
            have HS : Hid (w.heap.size + 1 = wA.heap.size) := hsz
            have hSr : IRow wA .u8 (some ⟨w.heap.size, 0, none⟩) xs := IRow.ofOwns hown
            clear hxl hsz hlt hk hmk
            go_wp2_with (first
              | (at_make; refine wpList_make_own _ rfl _ _ 24 rfl 0 5 i0 (.int .u8 0) 1 Yba.underlying24 hi0 hz0 hz1 .i64 .i64 _ k rfl rfl rfl (by rw [hz2]; omega) (by simp [maxLen]; omega) (Nat.zero_le _) ?_; intro w1 hown1 hgrow1)
              | (at_builtin; refine wpList_app _ rfl (.tmp 57) (.tmp 58) 24 rfl 0 5 i0 (.int .u8 0) 1 Yba.underlying24 hi0 hz0 hz1 hz2 rfl .u8 (.slice (some ⟨wA.heap.size, 0, none⟩) 0 k) 0 [] rfl hown1 (some ⟨w.heap.size, 0, none⟩) k k xs rfl HX.out (hSr.kept hgrow1 (by simp [blk])) (by simp) (by unfold maxLen; omega) (by omega) (Nat.zero_le _) ?_; intro ao2 cp2 w2 hown2 hgrow2 hat2 _))
            have hs1 := hgrow1.size
            have B1 : Below (w.heap.size + 1) wA w1 := (Below.refl _ wA).grown hgrow1 (Nat.le_of_eq HS.out) (by simp)
            have B2 : Below (w.heap.size + 1) wA w2 := B1.grown hgrow2 (by have := HS.out; omega) (fun j e => by cases e; exact Nat.le_of_eq HS.out)
            have hat3 : ∀ g, blk ao2 = some g → w.heap.size + 1 ≤ g := by
              intro g hg
              have := HS.out
              rcases hat2 with e | e <;> rw [hg] at e <;> simp [Value.ownBlock] at e <;> omega
            clear hgrow1 hgrow2 hat2 hown1 B1 hSr
            have hrA : RawAt wA ao rows := hr.below hB
            simp only [Nat.zero_add, List.nil_append] at hown2
            go_loopw [13, 14, 71] (fun v i _ wr => ∃ (j : Nat) (ac : Option Addr) (cp : Nat) (cur : List Int), j ≤ rows.length ∧ i = .int .i64 j ∧ v = .slice ac cur.length cp ∧ Hid (cur = xs ++ (rows.take j).flatten) ∧ cur.length ≤ 65536 + j * 4096 ∧ wr.ownsRow 0 5 1 (.slice ac cur.length cp) cur.length (cur.map (Value.int .u8)) ∧ Below (w.heap.size + 1) wA wr ∧ ∀ g, blk ac = some g → w.heap.size + 1 ≤ g) (fun _ i _ _ => rows.length - (intOf i).toNat)
            case atStart =>
              refine ⟨0, ao2, cp2, xs, Nat.zero_le _, rfl, by simp [HX.out], ?_, by have := HX.out; omega, by rw [HX.out]; exact hown2, B2, hat3⟩
              show xs = _
              simp
            case round =>
              obtain ⟨j, ac, cp, cur, hj, rfl, rfl, HC, hcl, hownc, hBc, hatc⟩ := hrel
              by_cases hlt : j < rows.length
              · have hszA := HS.out
                have Bw : Below w.heap.size w wr := hB.trans (hBc.mono (by omega))
                obtain ⟨b, o, A, C, rfl, hc, hA, _, _, hAC⟩ := (hr.below Bw) j rows[j] (by simp)
                have hL := hall rows[j] (List.getElem_mem _)
                have HF : Hid ((rows.take (j + 1)).flatten = (rows.take j).flatten ++ rows[j]) := flat_step rows j _ (by simp)
                generalize rows[j] = rk at hc hA hL HF
                clear hszA
                go_wp2_with (at_builtin; refine wpList_app _ rfl (.tmp 66) (.tmp 70) 24 rfl 0 5 i0 (.int .u8 0) 1 Yba.underlying24 hi0 hz0 hz1 hz2 rfl .u8 (.slice ac cur.length cp) cur.length cur rfl hownc A rk.length C rk rfl rfl hA hAC (by unfold maxLen; omega) (by omega) (Nat.zero_le _) ?_; intro ao3 cp3 w3 hown3 hgrow3 hat3 _)
                have hs3 := hgrow3.size
                have hs4 := hBc.size
                go_roundw
                case rel =>
                  refine ⟨j + 1, ao3, cp3, cur ++ rk, by omega, by go_num, by rw [List.length_append], ?_, by rw [List.length_append]; omega, by rw [List.length_append]; exact hown3, hBc.grown hgrow3 (by have := HS.out; omega) (fun k e => hatc k (by rw [← ownBlock_slice]; exact e)), ?_⟩
                  · show cur ++ rk = _
                    rw [HF.out, HC.out, List.append_assoc]
                  · intro g hg
                    rcases hat3 with e | e
                    · exact hatc g (by rw [← hg, e, ownBlock_slice])
                    · rw [hg] at e; simp at e; have := HS.out; omega
                case measure => simp [intOf]; omega
              · have hje : j = rows.length := by omega
                subst hje
                obtain ⟨wB, hwB⟩ : ∃ x, x = wr := ⟨_, rfl⟩
                subst hwB
                clear hlt hj hown2 B2 hat3
                have HC2 : Hid (cur = xs ++ rows.flatten) := by have := HC.out; rwa [List.take_length] at this
                clear HC
                have hsz2 := HS.out
                have hszB := hBc.size
                have hgS : w.heap.size < wB.heap.size := by omega
                have hownS : (wB.alloc (.cells #[.slice (some ⟨w.heap.size, 0, none⟩) k k, .bool dropped] 27)).ownsRow 0 5 1 (.slice (some ⟨w.heap.size, 0, none⟩) k k) k (xs.map (Value.int .u8)) :=
                  (ownsRow_block hown (fun g e => by cases e; exact hBc.block _ (Nat.lt_succ_self _))).alloc _
                have C0 : CAt (wB.alloc (.cells #[.slice (some ⟨w.heap.size, 0, none⟩) k k, .bool dropped] 27)) wB.heap.size (some ⟨w.heap.size, 0, none⟩) k xs dropped := by
                  have e := HX.out
                  refine ⟨?_, ?_, ?_, ?_, ?_, ?_⟩
                  · rw [e]; simp
                  · simp
                  · simp
                  · simp
                  · simp [blk]; omega
                  · rw [e]; exact hownS
                clear hsz2 hszB hownS
                go_wp2
                go_loopw [16, 101] (fun i _ wr => ∃ (j : Nat) (ad : Option Addr) (cq : Nat) (now : List Int) (dd : Bool), j ≤ rows.length ∧ i = .int .i64 j ∧ Hid (now = cut (xs ++ (rows.take j).flatten)) ∧ Hid (dd = (dropped || decide (65536 < (xs ++ (rows.take j).flatten).length))) ∧ CAt wr wB.heap.size ad cq now dd ∧ Kb wB.heap.size wB.heap.size w.heap.size wB wr ∧ ∃ g, blk ad = some g ∧ (g = w.heap.size ∨ wB.heap.size ≤ g)) (fun i _ _ => rows.length - (intOf i).toNat)
                case atStart =>
                  refine ⟨0, _, k, xs, dropped, Nat.zero_le _, rfl, ?_, ?_, C0, Kb.of_below ((Below.refl _ wB).alloc (Nat.le_refl _) _), w.heap.size, rfl, .inl rfl⟩
                  · show xs = _
                    have := HX.out
                    simp only [List.take_zero, List.flatten_nil, List.append_nil]
                    unfold cut
                    exact (List.take_of_length_le (by omega)).symm
                  · show dropped = _
                    have := HX.out
                    simp; omega
                case round =>
                  obtain ⟨j, ad, cq, now, dd, hj, rfl, HN, HD, hC, hK, g, hgd, hg⟩ := hrel
                  have Bw : Below w.heap.size w wr := by
                    have := HS.out
                    exact (hB.trans (hBc.mono (by omega))).trans (hK.below (by omega) (by omega) (Nat.le_refl _))
                  by_cases hlt : j < rows.length
                  · obtain ⟨b, o, A, C, rfl, hc0, hA0, hAl, hAm, hAC⟩ := hr j rows[j] (by simp)
                    have hbl : b < w.heap.size := World.block_lt_of_cell? w _ hc0
                    have hA := hA0.below Bw
                    have hL := hall rows[j] (List.getElem_mem _)
                    have HF : Hid ((rows.take (j + 1)).flatten = (rows.take j).flatten ++ rows[j]) := flat_step rows j _ (by simp)
                    have hnl : now.length ≤ 65536 := by rw [HN.out]; simp [cut]; omega
                    obtain ⟨rk, hrk⟩ : ∃ r, r = rows[j] := ⟨_, rfl⟩
                    have HR : Hid (rows[j]? = some rk) := by show rows[j]? = some rk; rw [hrk]; simp
                    rw [← hrk] at hc0 hA hL HF hAl
                    clear hrk hA0
                    have HC0 : Hid (w.cell? ⟨b, o + j, none⟩ = some (.slice A rk.length C)) := hc0
                    have hc : wr.cell? ⟨b, o + j, none⟩ = some (.slice A rk.length C) := (Bw.cell hbl).trans hc0
                    clear hc0
                    go_wp2_with fail
                    refine (write_c wB.heap.size C ad A cq now rk dd wr hC hnl hL hA hAl hAm hAC g (fun k e => by rw [hgd] at e; cases e; rfl)).mono ?_
                    rintro e w4 ⟨rfl, ad', cq', hC', hA', hK'⟩
                    have K4 : Kb wB.heap.size wB.heap.size w.heap.size wr w4 := by
                      have := hK.size
                      rcases hg with rfl | hg
                      · exact hK'.mono this
                      · exact hK'.forget this hg
                    have Bw4 : Below w.heap.size w w4 := by
                      have := HS.out
                      exact Bw.trans (K4.below (by omega) (by omega) (Nat.le_refl _))
                    have hc4 : w4.cell? ⟨b, o + j, none⟩ = some (.slice A rk.length C) := (Bw4.cell hbl).trans HC0.out
                    go_wp2
                    go_roundw
                    case rel =>
                      refine ⟨j + 1, ad', cq', _, _, by omega, by go_num, ?_, ?_, hC', hK.trans K4, ?_⟩
                      · show now ++ _ = _
                        rw [HF.out, HN.out, ← List.append_assoc]; exact cut_step _ _
                      · show (dd || _) = _
                        rw [HF.out, HD.out, HN.out, ← List.append_assoc]; exact drop_step _ _ _
                      · rcases hA' with e | ⟨k', e, h'⟩
                        · exact ⟨g, e.trans hgd, hg⟩
                        · exact ⟨k', e, .inr (by have := hK.size; omega)⟩
                    case measure => simp [intOf]; omega
                  · have hje : j = rows.length := by omega
                    subst hje
                    have eN : now = cut cur := by rw [HN.out, HC2.out, List.take_length]
                    have eD : dd = (dropped || decide (65536 < cur.length)) := by rw [HD.out, HC2.out, List.take_length]
                    have hcc := own_cap hownc
                    have hrc : IRow wr .u8 ac cur := by
                      intro i x hi
                      obtain ⟨g', o', rfl, hcell⟩ := IRow.ofOwns hownc i x hi
                      have h1 := hatc g' rfl
                      have h2 : g' < wB.heap.size := World.block_lt_of_cell? wB _ hcell
                      exact ⟨g', o', rfl, (hK.cell (p := ⟨g', o' + i, none⟩) h2 (by simp; omega) (by simp; omega)).trans hcell⟩
                    have c0 := hC.c0
                    have c1 := hC.c1
                    have hrn := IRow.ofOwns hC.own
                    clear HN HD HC2 C0 hC hK hown hownc hlt hj
                    subst eN eD
                    have hBw : Hid (Below w.heap.size w wr) := Bw
                    clear Bw hr hrA hB hBc hgd hg hatc hall
                    by_cases hbig : 65536 < cur.length
                    · have eL : (cut cur).length = 65536 := by simp [cut]; omega
                      have q1 : (65536 : Int) < (cur.length : Int) := by omega
                      have q2 : (65536 : Int) ≤ (cp : Int) := by omega
                      have q3 : decide ((65536 : Int) < (cur.length : Int)) = true := by simp; omega
                      have q4 : decide (65536 < cur.length) = true := by simp; omega
                      have hr2 : IRow wr .u8 ac (cut cur) := fun j x hj => hrc j x (by unfold cut at hj; rw [List.getElem?_take] at hj; split at hj; exact hj; cases hj)
                      have E := eq_bytes wr ad ac cq cp (cut cur) hrn hr2
                      rw [eL] at c0 E
                      rw [q4, Bool.or_true] at c1
                      clear eL hr2 hrn hrc
                      cases dropped
                      all_goals
                        go_wp2_with fail
                        refine E.mono ?_
                        rintro e w5 ⟨rfl, rfl⟩
                        go_wp2
                        go_ret
                        exact ⟨rfl, hBw.out⟩
                    · have eC : cut cur = cur := List.take_of_length_le (by omega)
                      have q1 : (cur.length : Int) ≤ 65536 := by omega
                      have q3 : decide ((65536 : Int) < (cur.length : Int)) = false := by simp; omega
                      have q4 : decide (65536 < cur.length) = false := by simp; omega
                      rw [eC] at c0 hrn
                      rw [q4, Bool.or_false] at c1
                      have E := eq_bytes wr ad ac cq cp cur hrn hrc
                      clear hrn hrc eC
                      cases dropped
                      all_goals
                        go_wp2_with fail
                        refine E.mono ?_
                        rintro e w5 ⟨rfl, rfl⟩
                        go_wp2
                        go_ret
                        exact ⟨rfl, hBw.out⟩

end Go.Proofs.Ybulkbybs
