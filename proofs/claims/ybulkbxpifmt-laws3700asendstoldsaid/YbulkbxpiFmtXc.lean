/-
  The service of law A in memory, and 'receivers'.
-/
import Derived.Test.YbulkbxpiFmtXb
import Derived.Deep.OwnRows
import Derived.BigQuiet
import Derived.Deep.RegionHeld3
namespace Go.Proofs.YbulkbxpiFmt
open Go.RowKit Go.MuLone Go.Stop

abbrev Ids.listA (i : Ids) : List Nat := [i.D, i.C, i.N, i.X, i.Td, i.Us, i.Aw]
abbrev Ids.cellsA (i : Ids) (n me : Nat) (mu : Int) (ow : Value) : Array Value :=
  #[.int .i32 mu, .int .u32 0, .pointer (some ⟨i.C, 0, none⟩), .int .i64 (me : Int), .slice (some ⟨i.N, 0, none⟩) n i.kn, .map (some i.X), .slice (some ⟨i.Hd, 0, none⟩) n n, .slice (some ⟨i.Td, 0, none⟩) n n, ow, .int .u64 0, .string ⟨#[]⟩, .slice none 0 0, .slice none 0 0, .slice (some ⟨i.Us, 0, none⟩) n n, .slice (some ⟨i.Se, 0, none⟩) n n, .map (some i.Aw)]
abbrev idxA (n : Nat) : Array MapEntry := (entS (fun k => .int .i64 (k : Int)) 0 (List.range n)).toArray

structure SrvA (i : Ids) (n me : Nat) (w : World) (mu t : Int) (td : List Int) (ow : Value) : Prop where
  d : w.heap[i.D]? = some (.cells (i.cellsA n me mu ow) 57)
  c : Clk i.C (nmA me) t w
  nn : AtS w i.N (List.range n)
  x : w.heap[i.X]? = some (.map (idxA n) n)
  tt : w.heap[i.Td]? = some (.cells (rowU td) 31)
  u : w.heap[i.Us]? = some (.cells (Array.replicate n (.slice none 0 0)) 75)
  aw : w.heap[i.Aw]? = some (.map #[] 0)
  nd : i.listA.Nodup
  n6 : 1 ≤ n ∧ n ≤ 6
  me6 : me < n
  tl : td.length = n

theorem AtS.lt {w : World} {g : Nat} {ks : List Nat} (h : AtS w g ks) (hk : 0 < ks.length) : g < w.heap.size :=
  World.block_lt_of_cell? w _ (h 0 ks[0] (by simp))

theorem SrvA.upd {i : Ids} {n me : Nat} {w w' : World} {mu t mu' t' : Int} {td td' : List Int} {ow ow' : Value} (v : SrvA i n me w mu t td ow) {bs : List Nat} (k : Kp bs w w')
    (hN : i.N ∉ bs) (hX : i.X ∉ bs) (hU : i.Us ∉ bs) (hA : i.Aw ∉ bs) (d : w'.heap[i.D]? = some (.cells (i.cellsA n me mu' ow') 57)) (c : Clk i.C (nmA me) t' w')
    (t : w'.heap[i.Td]? = some (.cells (rowU td') 31)) (tl : td'.length = n) : SrvA i n me w' mu' t' td' ow' :=
  ⟨d, c, v.nn.kp k hN, k.heap v.x hX, t, k.heap v.u hU, k.heap v.aw hA, v.nd, v.n6, v.me6, tl⟩

section
variable {i : Ids} {n me : Nat} {w w' : World} {mu t : Int} {td : List Int} {ow : Value}
theorem SrvA.kp (v : SrvA i n me w mu t td ow) {bs : List Nat} (k : Kp bs w w') (hn : ∀ b ∈ i.listA, b ∉ bs) : SrvA i n me w' mu t td ow :=
  v.upd k (hn _ (by simp)) (hn _ (by simp)) (hn _ (by simp)) (hn _ (by simp)) (k.heap v.d (hn _ (by simp))) (k.heap v.c (hn _ (by simp))) (k.heap v.tt (hn _ (by simp))) v.tl
theorem SrvA.kp0 (v : SrvA i n me w mu t td ow) (k : Kp [] w w') : SrvA i n me w' mu t td ow := v.kp k (by simp)
theorem SrvA.setC (v : SrvA i n me w mu t td ow) {t' : Int} (k : Kp [i.C] w w') (c : Clk i.C (nmA me) t' w') : SrvA i n me w' mu t' td ow :=
  v.upd k (nodup_ne v.nd 2 1 rfl rfl (by decide)) (nodup_ne v.nd 3 1 rfl rfl (by decide)) (nodup_ne v.nd 5 1 rfl rfl (by decide)) (nodup_ne v.nd 6 1 rfl rfl (by decide)) (k.heap v.d (nodup_ne v.nd 0 1 rfl rfl (by decide))) c (k.heap v.tt (nodup_ne v.nd 4 1 rfl rfl (by decide))) v.tl
theorem SrvA.setD (v : SrvA i n me w mu t td ow) {mu' : Int} {ow' : Value} (k : Kp [i.D] w w') (d : w'.heap[i.D]? = some (.cells (i.cellsA n me mu' ow') 57)) : SrvA i n me w' mu' t td ow' :=
  v.upd k (nodup_ne v.nd 2 0 rfl rfl (by decide)) (nodup_ne v.nd 3 0 rfl rfl (by decide)) (nodup_ne v.nd 5 0 rfl rfl (by decide)) (nodup_ne v.nd 6 0 rfl rfl (by decide)) d (k.heap v.c (nodup_ne v.nd 1 0 rfl rfl (by decide))) (k.heap v.tt (nodup_ne v.nd 4 0 rfl rfl (by decide))) v.tl
theorem SrvA.setT (v : SrvA i n me w mu t td ow) {td' : List Int} (k : Kp [i.Td] w w') (h : w'.heap[i.Td]? = some (.cells (rowU td') 31)) (tl : td'.length = n) : SrvA i n me w' mu t td' ow :=
  v.upd k (nodup_ne v.nd 2 4 rfl rfl (by decide)) (nodup_ne v.nd 3 4 rfl rfl (by decide)) (nodup_ne v.nd 5 4 rfl rfl (by decide)) (nodup_ne v.nd 6 4 rfl rfl (by decide)) (k.heap v.d (nodup_ne v.nd 0 4 rfl rfl (by decide))) (k.heap v.c (nodup_ne v.nd 1 4 rfl rfl (by decide))) h tl
theorem SrvA.lt (v : SrvA i n me w mu t td ow) : ∀ a ∈ i.listA, a < w.heap.size := by
  intro a ha
  simp only [Ids.listA, List.mem_cons, List.not_mem_nil, or_false] at ha
  have hN := v.nn.lt (by simp; exact v.n6.1)
  rcases ha with rfl | rfl | rfl | rfl | rfl | rfl | rfl
  · exact heap_lt v.d
  · exact heap_lt v.c
  · exact hN
  · exact heap_lt v.x
  · exact heap_lt v.tt
  · exact heap_lt v.u
  · exact heap_lt v.aw
theorem SrvA.me_cell (v : SrvA i n me w mu t td ow) : w.cell? ⟨i.N, me, none⟩ = some (.string (nmA me)) :=
  v.nn me me (by simp [v.me6])
theorem SrvA.look (v : SrvA i n me w mu t td ow) (k : Nat) (hk : k < n) : (Instr.lookup 49 (.map (some i.X)) (.string (nmA k)) true).run Ybaf.prog w = .ok (.tuple #[.int .i64 (k : Int), .bool true]) w := by
  have h6 := v.n6
  obtain ⟨p, hf⟩ := findS_hit (fun k => .int .i64 (k : Int)) k (by omega) (List.range n) (fun x hx => by simp at hx; omega) (by simp [hk]) 0 0
  exact run_look_hit 49 9 3 Ybaf.underlying49 Ybaf.underlying9 v.x _ _ _ hf true
theorem SrvA.look_out (v : SrvA i n me w mu t td ow) : (Instr.lookup 49 (.map (some i.X)) (.string (nmA n)) true).run Ybaf.prog w = .ok (.tuple #[.int .i64 0, .bool false]) w := by
  have h6 := v.n6
  have hf := findS_miss (fun k => .int .i64 (k : Int)) n (by omega) (List.range n) (fun x hx => by simp at hx; omega) (by simp) 0 0
  exact run_look_miss 49 9 3 Ybaf.underlying49 Ybaf.underlying9 v.x _ (.int .i64 0) (by kernel_rfl) hf true

theorem made_rep (z : Value) (n : Nat) : madeCells #[z] n = Array.replicate n z := by
  apply Array.ext
  · simp [madeCells]
  · intro j h1 h2
    simp [madeCells, Nat.mod_one]

/-- Which sends are let through. -/
def okSend (n me : Nat) (ks : List Nat) : Prop := okTo me ks ∧ n ∉ ks

theorem Ybaf.info3 : (Ybaf.prog.info? 3).map (fun i => (i.zero, i.size, i.bytes)) = some (some (.int .i64 0), 1, 8) := by kernel_rfl

set_option maxRecDepth 100000 in
set_option maxHeartbeats 1000000 in
theorem receivers_c (F : Interp) (hF : F.answers w.tape) (v : SrvA i n me w mu t td ow) (g cap : Nat) (ks : List Nat) (hlen : ks.length ≤ 256) (h7 : ∀ k ∈ ks, k ≤ n) (hA : AtS w g ks) :
    Calls Ybaf.prog 16 #[.pointer (some ⟨i.D, 2, none⟩), .slice (some ⟨g, 0, none⟩) ks.length cap] w fun e w' => Kp [] w w' ∧
      ((okSend n me ks ∧ ∃ r, e = .returned (.tuple #[.slice (some ⟨r, 0, none⟩) ks.length ks.length, .nilIface]) ∧ w.heap.size ≤ r ∧ r < w'.heap.size ∧ AtI w' r ks) ∨ (¬ okSend n me ks ∧ ∃ er, e = .returned (.tuple #[.slice none 0 0, er]) ∧ NewErr w w' er)) := by
  have h6 := v.n6
  have hme := v.me6
  have hlD := heap_lt v.d
  have nM := v.me_cell
  have c3 := cell_at (i := 3) (v := .int .i64 (me : Int)) v.d rfl
  have c4 := cell_at (i := 4) (v := .slice (some ⟨i.N, 0, none⟩) n i.kn) v.d rfl
  have dk0 : (0 : Int) ≤ (me : Int) := by omega
  have dk3 : (me : Int) < n := by omega
  go_enter Ybaf.func16, Ybaf.ntmps16
  go_wp2_with fail
  have h7' : ∀ k ∈ ks, k < 7 := fun k hk => by have := h7 k hk; omega
  have hA' : AtS w.drew g ks := hA
  by_cases hok : okTo me ks
  · go_region_held3 (fun w' => w'.cell? ⟨i.D, 3, none⟩ = some (.int .i64 (me : Int)) ∧ w'.cell? ⟨i.D, 4, none⟩ = some (.slice (some ⟨i.N, 0, none⟩) n i.kn) ∧ w'.cell? ⟨i.N, me, none⟩ = some (.string (nmA me))) (simp [*])
      (first | (go_at_call 36; refine (check_ok F w.drew hF me g cap ks hlen h7' (by omega) hA' hok).mono ?_; rintro e w1 ⟨rfl, k1⟩; have q3 := cell_kept k1 (by simp) c3; have q4 := cell_kept k1 (by simp) c4; have qM := cell_kept k1 (by simp) nM))
    have K1 : Kp [] w w1 := (Kp.refl [] w).drew.trans k1
    have v1 := v.kp0 K1
    have hA1 := hA.kp K1 (by simp)
    have c5 := cell_at (i := 5) (v := .map (some i.X)) v1.d rfl
    have hm := fun w => run_make_row' (P := Ybaf.prog) 32 3 (.int .i64 0) 8 Ybaf.underlying32 Ybaf.info3 rfl .i64 .i64 ks.length (by omega) (by omega) w
    rw [made_rep] at hm
    go_wp2
    have hs1 := K1.size
    go_loopw [32] (fun vi wr => ∃ (k : Nat) (cur : Array Value), k ≤ ks.length ∧ vi = .int .i64 k ∧ Kp [] w wr ∧ wr.heap[w1.heap.size]? = some (.cells cur 3) ∧ cur.size = ks.length ∧ Hid (∀ (j x : Nat), (ks.take k)[j]? = some x → cur[j]? = some (.int .i64 (x : Int))) ∧ Hid (n ∉ ks.take k)) (fun i _ => ks.length - (intOf i).toNat)
    case atStart => exact ⟨0, _, Nat.zero_le _, rfl, K1.alloc _, heap_new w1 _, by simp, fun j x h => by simp at h, by show ¬ _; simp⟩
    case round =>
      obtain ⟨k, cur, hk, rfl, kr, hr, hcs, HC, HN⟩ := hrel
      have hlr := heap_lt hr
      by_cases hlt : k < ks.length
      · obtain ⟨x, hx⟩ : ∃ x, ks[k]? = some x := ⟨ks[k], by simp [hlt]⟩
        have hxn := h7 x (List.mem_of_getElem? hx)
        have vr := v.kp0 kr
        have q1 := hA.kp kr (by simp) k x hx
        have q5 := cell_at (i := 5) (v := .map (some i.X)) vr.d rfl
        have HX : Hid (ks[k]? = some x) := hx
        clear hx
        by_cases hxe : x = n
        · subst hxe
          have hlk := vr.look_out
          generalize hsx : nmA x = sx at q1 hlk
          go_wp2_with fail
          refine (errorf_RNot F _ 1 sx _ ?_ ?_).mono ?_
          · show F.answers wr.tape; rw [kr.tape]; exact hF
          · simp
          rintro e w' ⟨rfl, s, rfl⟩
          go_wp2
          go_ret2
          exact ⟨((kr.alloc _).alloc _).drew, .inr ⟨fun h => h.2 (List.mem_of_getElem? HX), _, rfl, NewErr.mk s _ (by simp) (by omega)⟩⟩
        · have hlk := vr.look x (by omega)
          generalize hsx : nmA x = sx at q1 hlk
          have r0 : wr.cell? ⟨w1.heap.size, k, none⟩ = some cur[k] := cell_at hr (by simp)
          have f0 := frozen_at (i := k) hr
          go_wp2
          go_roundw
          case rel =>
            refine ⟨k + 1, cur.setIfInBounds k (.int .i64 (x : Int)), by omega, by go_num, kr.set (.inr hs1) _, heap_set (i := k) _ hr, by simpa using hcs, fun j y hj => ?_, ?_⟩
            · rw [take_succ' HX] at hj
              by_cases e : j = k
              · subst e
                have : y = x := by
                  rw [List.getElem?_append_right (by simp; omega), List.length_take] at hj
                  simpa [Nat.min_eq_left hk] using hj.symm
                subst this
                simp [hcs, hlt]
              · rw [Array.getElem?_setIfInBounds_ne (Ne.symm e)]
                have hjl : j < k := by
                  have := (List.getElem?_eq_some_iff.1 hj).1
                  simp at this
                  omega
                rw [List.getElem?_append_left (by simp; omega)] at hj
                exact HC j y hj
            · show ¬ _
              rw [take_succ' HX]
              simp
              exact ⟨HN, fun e => hxe e.symm⟩
          case measure => simp [intOf]; omega
      · have hke : k = ks.length := by omega
        subst hke
        go_wp2
        go_ret2
        have h1 : n ∉ ks := by have h1 : _ ∉ _ := HN; rwa [List.take_length] at h1
        refine ⟨kr, .inl ⟨⟨hok, h1⟩, _, rfl, hs1, hlr, fun j x hj => cell_at hr (HC j x (by rw [List.take_length]; exact hj))⟩⟩
  · go_region_held3 (fun w' => w'.cell? ⟨i.D, 3, none⟩ = some (.int .i64 (me : Int)) ∧ w'.cell? ⟨i.D, 4, none⟩ = some (.slice (some ⟨i.N, 0, none⟩) n i.kn) ∧ w'.cell? ⟨i.N, me, none⟩ = some (.string (nmA me))) (simp [*])
      (first | (go_at_call 36; refine (check_bad F w.drew hF me g cap ks hlen h7' (by omega) hA' hok).mono ?_; rintro e w1 ⟨b, s, rfl, k1, hb1, hb2⟩; have q3 := cell_kept k1 (by simp) c3; have q4 := cell_kept k1 (by simp) c4; have qM := cell_kept k1 (by simp) nM))
    go_wp2
    go_ret2
    exact ⟨(Kp.refl [] w).drew.trans k1, .inr ⟨fun h => hok h.1, _, rfl, b, s, rfl, hb1, hb2⟩⟩
end
end Go.Proofs.YbulkbxpiFmt
