/-
  'sender', 'Process', 'checkBefore', 'room'.
-/
import Derived.Test.YbulkbxpiFmtSv
import Derived.Deep.RegionWith
import Derived.Deep.RegionHeld3
namespace Go.Proofs.YbulkbxpiFmt
open Go.RowKit Go.MuLone Go.Stop

/-- A new error of errors.New's make, or of fmt.Errorf's. -/
def NewErr (w w' : World) (v : Value) : Prop := ∃ b s, v = .iface 161 (.pointer (some ⟨b, 0, none⟩)) ∧ w.heap.size ≤ b ∧ w'.heap[b]? = some (.cells #[.string s] 163)

theorem heap_newk (w : World) (o : Obj) (k : Nat) (h : w.heap.size = k) : (w.alloc o).heap[k]? = some o := by rw [← h]; exact heap_new w o
theorem NewErr.mk {w W : World} (t : ByteArray) (b : Nat) (hb : W.heap.size = b) (h : w.heap.size ≤ b) : NewErr w (W.alloc (.cells #[.string t] 163)).drew (.iface 161 (.pointer (some ⟨b, 0, none⟩))) :=
  ⟨_, t, rfl, h, by rw [← hb]; exact heap_new W _⟩

section
variable {i : Ids} {w : World} {mu t : Int} {hd td se : List Int} {q wt : Value}

set_option maxRecDepth 100000 in
theorem sender_out (F : Interp) (hF : F.answers w.tape) (v : Srv i w mu t hd td se q wt) (T : Int) :
    Calls Ybaf.prog 25 #[.pointer (some ⟨i.D, 2, none⟩), .agg #[.int .u64 T, .string Qq]] w fun e w' => ∃ er, e = .returned (.tuple #[.int .i64 0, er]) ∧ Kp [] w w' ∧ NewErr w w' er := by
  have hlt := heap_lt v.d
  have c3 := cell_at (i := 5) (v := .map (some i.X)) v.d rfl
  have hlk := look_out (w := (w.alloc (.cells #[.int .u64 T, .string Qq] 34)).drew) ((Below.heap_alloc _ _ _ (heap_lt v.x)).trans v.x)
  go_enter Ybaf.func25, Ybaf.ntmps25
  go_wp2_with fail
  go_region
  go_wp2_with fail
  refine (errorf_Not F _ 1 Qq _ ?_ ?_).mono ?_
  · exact hF
  · simp
  rintro e w' ⟨rfl, s, rfl⟩
  go_wp2
  go_ret2
  exact ⟨_, rfl, (((((Kp.refl [] w).alloc _).alloc _).drew).alloc _).drew, NewErr.mk s (w.heap.size + 1 + 1) (by simp) (by omega)⟩

set_option maxRecDepth 100000 in
theorem sender_self (F : Interp) (hF : F.answers w.tape) (v : Srv i w mu t hd td se q wt) (T : Int) :
    Calls Ybaf.prog 25 #[.pointer (some ⟨i.D, 2, none⟩), .agg #[.int .u64 T, .string P0]] w fun e w' => ∃ er, e = .returned (.tuple #[.int .i64 0, er]) ∧ Kp [] w w' ∧ NewErr w w' er := by
  have hlt := heap_lt v.d
  have c2 := cell_at (i := 3) (v := .int .i64 0) v.d rfl
  have c3 := cell_at (i := 5) (v := .map (some i.X)) v.d rfl
  have hlk := look_in (w := (w.alloc (.cells #[.int .u64 T, .string P0] 34)).drew) ((Below.heap_alloc _ _ _ (heap_lt v.x)).trans v.x) 0 (by omega)
  simp only [nmOf] at hlk
  go_enter Ybaf.func25, Ybaf.ntmps25
  go_wp2_with fail
  go_region
  go_wp2_with fail
  refine (errorf_Self F _ 1 P0 _ ?_ ?_).mono ?_
  · exact hF
  · simp
  rintro e w' ⟨rfl, s, rfl⟩
  go_wp2
  go_ret2
  exact ⟨_, rfl, (((((Kp.refl [] w).alloc _).alloc _).drew).alloc _).drew, NewErr.mk s (w.heap.size + 1 + 1) (by simp) (by omega)⟩

theorem rowU_get {w : World} {b : Nat} {xs : List Int} (h : w.heap[b]? = some (.cells (rowU xs) 31)) {k : Nat} {x : Int} (hk : xs[k]? = some x) : w.cell? ⟨b, k, none⟩ = some (.int .u64 x) :=
  cell_at h (by simp [rowU, hk])

set_option maxRecDepth 100000 in
theorem sender_ok (v : Srv i w mu t hd td se q wt) (T : Int) (k : Nat) (hk1 : 1 ≤ k) (hk2 : k ≤ 2) (x : Int) (hx : hd[k]? = some x) (hlt : x < T) :
    Calls Ybaf.prog 25 #[.pointer (some ⟨i.D, 2, none⟩), .agg #[.int .u64 T, .string (nmOf k)]] w fun e w' => e = .returned (.tuple #[.int .i64 (k : Int), .nilIface]) ∧ Kp [] w w' := by
  have hlD := heap_lt v.d
  have hlH := heap_lt v.h
  have c2 := cell_at (i := 3) (v := .int .i64 0) v.d rfl
  have c3 := cell_at (i := 5) (v := .map (some i.X)) v.d rfl
  have c4 := cell_at (i := 6) (v := .slice (some ⟨i.Hd, 0, none⟩) 3 3) v.d rfl
  have h0 := rowU_get v.h hx
  have dk : ¬ (k : Int) = 0 := by omega
  have dk0 : (0 : Int) ≤ (k : Int) := by omega
  have dk3 : (k : Int) < 3 := by omega
  have dl : decide (T ≤ x) = false := by simp; omega
  have hlk := look_in (w := (w.alloc (.cells #[.int .u64 T, .string (nmOf k)] 34)).drew) ((Below.heap_alloc _ _ _ (heap_lt v.x)).trans v.x) k (by omega)
  generalize nmOf k = nm at hlk ⊢
  go_enter Ybaf.func25, Ybaf.ntmps25
  go_wp2_with fail
  go_region
  go_wp2_with fail
  go_region
  go_wp2
  go_ret2
  exact ⟨rfl, ((Kp.refl [] w).alloc _).drew.drew⟩

set_option maxRecDepth 100000 in
set_option maxHeartbeats 4000000 in
theorem sender_late (F : Interp) (hF : F.answers w.tape) (v : Srv i w mu t hd td se q wt) (T : Int) (k : Nat) (hk1 : 1 ≤ k) (hk2 : k ≤ 2) (x : Int) (hx : hd[k]? = some x) (hlt : T ≤ x) :
    Calls Ybaf.prog 25 #[.pointer (some ⟨i.D, 2, none⟩), .agg #[.int .u64 T, .string (nmOf k)]] w fun e w' => ∃ er, e = .returned (.tuple #[.int .i64 0, er]) ∧ Kp [] w w' ∧ NewErr w w' er := by
  have hlD := heap_lt v.d
  have hlH := heap_lt v.h
  obtain ⟨cn, hn, hn0⟩ := v.n
  have hlN := heap_lt hn
  have n0 := cell_at (i := 0) hn hn0
  have c2 := cell_at (i := 3) (v := .int .i64 0) v.d rfl
  have c3 := cell_at (i := 5) (v := .map (some i.X)) v.d rfl
  have cN := cell_at (i := 4) (v := .slice (some ⟨i.N, 0, none⟩) 3 i.kn) v.d rfl
  have c4 := cell_at (i := 6) (v := .slice (some ⟨i.Hd, 0, none⟩) 3 3) v.d rfl
  have h0 := rowU_get v.h hx
  have dk : ¬ (k : Int) = 0 := by omega
  have dk0 : (0 : Int) ≤ (k : Int) := by omega
  have dk3 : (k : Int) < 3 := by omega
  have dl : decide (T ≤ x) = true := by simp; omega
  have hlk := look_in (w := (w.alloc (.cells #[.int .u64 T, .string (nmOf k)] 34)).drew) ((Below.heap_alloc _ _ _ (heap_lt v.x)).trans v.x) k (by omega)
  generalize nmOf k = nm at hlk ⊢
  go_enter Ybaf.func25, Ybaf.ntmps25
  go_wp2_with fail
  go_region
  go_wp2_with fail
  go_region
  go_wp2_with fail
  go_region_held3 (fun w' => w'.cell? ⟨i.D, 3, none⟩ = some (.int .i64 0) ∧ w'.cell? ⟨i.D, 4, none⟩ = some (.slice (some ⟨i.N, 0, none⟩) 3 i.kn) ∧ w'.cell? ⟨i.D, 6, none⟩ = some (.slice (some ⟨i.Hd, 0, none⟩) 3 3) ∧ w'.cell? ⟨i.N, 0, none⟩ = some (.string P0) ∧ w'.cell? ⟨i.Hd, k, none⟩ = some (.int .u64 x) ∧ w'.cell? ⟨w.heap.size, 0, none⟩ = some (.int .u64 T) ∧ w'.cell? ⟨w.heap.size, 1, none⟩ = some (.string nm)) (simp (maxDischargeDepth := 9) [*, World.cell?_alloc_some])
    (first | (go_at_call 35; refine (errorf_Order F _ 4 P0 nm T x _ ?_ ?_ ?_ ?_ ?_).mono ?_; exact hF; simp; simp; simp; simp; rintro e w' ⟨rfl, s, rfl⟩))
  go_wp2
  go_ret2
  exact ⟨_, rfl, (((((Kp.refl [] w).alloc _).alloc _).alloc _).drewN 4), ⟨_, s, rfl, Nat.le_trans (Nat.le_succ _) (Nat.le_succ _), heap_newk _ _ _ (by simp)⟩⟩

set_option maxRecDepth 100000 in
theorem process_c (v : Srv i w mu t hd td se q wt) :
    Calls Ybaf.prog 26 #[.pointer (some ⟨i.D, 2, none⟩)] w fun e w' => e = .returned (.string P0) ∧ Kp [] w w' := by
  obtain ⟨cn, hn, hn0⟩ := v.n
  have n0 := cell_at (i := 0) hn hn0
  have c2 := cell_at (i := 3) (v := .int .i64 0) v.d rfl
  have cN := cell_at (i := 4) (v := .slice (some ⟨i.N, 0, none⟩) 3 i.kn) v.d rfl
  go_enter Ybaf.func26, Ybaf.ntmps26
  go_wp2_with fail
  go_region
  go_wp2
  go_ret
  exact ⟨rfl, (Kp.refl [] w).drew⟩

set_option maxRecDepth 100000 in
theorem before_out (F : Interp) (hF : F.answers w.tape) (v : Srv i w mu t hd td se q wt) (T : Int) (nm : ByteArray) (a : Int) :
    Calls Ybaf.prog 27 #[.pointer (some ⟨i.D, 0, none⟩), .agg #[.int .u64 T, .string nm], .string Qq, .int .u64 a] w fun e w' => ∃ er, e = .returned er ∧ Kp [] w w' ∧ NewErr w w' er := by
  have hlt := heap_lt v.d
  have c3 := cell_at (i := 5) (v := .map (some i.X)) v.d rfl
  have hlk := look_out (w := w.alloc (.cells #[.int .u64 T, .string nm] 34)) ((Below.heap_alloc _ _ _ (heap_lt v.x)).trans v.x)
  go_enter Ybaf.func27, Ybaf.ntmps27
  go_wp2_with fail
  refine (errorf_CbNot F _ 2 T nm Qq _ ?_ ?_ ?_).mono ?_
  · exact hF
  · simp
  · simp
  rintro e w' ⟨rfl, s, rfl⟩
  go_wp2
  go_ret
  exact ⟨_, rfl, ((((Kp.refl [] w).alloc _).alloc _).alloc _).drew, NewErr.mk s (w.heap.size + 1 + 1) (by simp) (by omega)⟩

set_option maxRecDepth 100000 in
theorem before_late (F : Interp) (hF : F.answers w.tape) (v : Srv i w mu t hd td se q wt) (T : Int) (nm : ByteArray) (k : Nat) (hk : k < 3) (a : Int) (ha : T ≤ a) :
    Calls Ybaf.prog 27 #[.pointer (some ⟨i.D, 0, none⟩), .agg #[.int .u64 T, .string nm], .string (nmOf k), .int .u64 a] w fun e w' => ∃ er, e = .returned er ∧ Kp [] w w' ∧ NewErr w w' er := by
  have hlt := heap_lt v.d
  have c3 := cell_at (i := 5) (v := .map (some i.X)) v.d rfl
  have hlk := look_in (w := w.alloc (.cells #[.int .u64 T, .string nm] 34)) ((Below.heap_alloc _ _ _ (heap_lt v.x)).trans v.x) k hk
  have dl : decide (T ≤ a) = true := by simp; omega
  generalize nmOf k = nk at hlk ⊢
  go_enter Ybaf.func27, Ybaf.ntmps27
  go_wp2_with fail
  refine (errorf_CbLate F _ 3 T nm nk a _ ?_ ?_ ?_ ?_).mono ?_
  · exact hF
  · simp
  · simp
  · simp
  rintro e w' ⟨rfl, s, rfl⟩
  go_wp2
  go_ret
  exact ⟨_, rfl, ((((Kp.refl [] w).alloc _).alloc _).alloc _).drew, NewErr.mk s (w.heap.size + 1 + 1) (by simp) (by omega)⟩

set_option maxRecDepth 100000 in
theorem before_ok (v : Srv i w mu t hd td se q wt) (T : Int) (nm : ByteArray) (k : Nat) (hk : k < 3) (a : Int) (ha : a < T) :
    Calls Ybaf.prog 27 #[.pointer (some ⟨i.D, 0, none⟩), .agg #[.int .u64 T, .string nm], .string (nmOf k), .int .u64 a] w fun e w' => e = .returned .nilIface ∧ Kp [] w w' := by
  have hlt := heap_lt v.d
  have c3 := cell_at (i := 5) (v := .map (some i.X)) v.d rfl
  have hlk := look_in (w := w.alloc (.cells #[.int .u64 T, .string nm] 34)) ((Below.heap_alloc _ _ _ (heap_lt v.x)).trans v.x) k hk
  have dl : decide (T ≤ a) = false := by simp; omega
  generalize nmOf k = nk at hlk ⊢
  go_enter Ybaf.func27, Ybaf.ntmps27
  go_wp2
  go_ret
  exact ⟨rfl, (Kp.refl [] w).alloc _⟩

set_option maxRecDepth 100000 in
theorem room_c (v : Srv i w mu t hd td se (.slice none 0 0) (.slice none 0 0)) :
    Calls Ybaf.prog 30 #[.pointer (some ⟨i.D, 0, none⟩)] w fun e w' => e = .returned (.int .u64 2) ∧ Kp [] w w' := by
  have c8 := cell_at (i := 8) (v := .slice none 0 0) v.d rfl
  have c11 := cell_at (i := 11) (v := .slice none 0 0) v.d rfl
  have c12 := cell_at (i := 12) (v := .slice none 0 0) v.d rfl
  go_enter Ybaf.func30, Ybaf.ntmps30
  go_wp2_with fail
  go_region
  go_wp2
  go_ret
  exact ⟨rfl, (Kp.refl [] w).drew⟩
end

end Go.Proofs.YbulkbxpiFmt
