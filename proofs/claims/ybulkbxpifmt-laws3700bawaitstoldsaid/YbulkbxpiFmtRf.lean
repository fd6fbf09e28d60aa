/-
  'zzs3700brefused'.
-/
import Derived.Test.YbulkbxpiFmtRw
namespace Go.Proofs.YbulkbxpiFmt
open Go.RowKit Go.MuLone Go.Stop

section
variable {i : Ids} {w : World} {mu t : Int} {hd td se : List Int} {q wt : Value}

set_option maxRecDepth 100000 in
set_option maxHeartbeats 1000000 in
theorem refused_other (v : Srv i w mu t hd td se q wt) (eb : Nat) (s : ByteArray) (he : w.heap[eb]? = some (.cells #[.string s] 163)) (a : Addr) (hg : w.cell? ⟨0, 0, none⟩ = some (.iface 161 (.pointer (some a)))) (ca : Array Value) (ta : TypeId) (ha : w.heap[a.block]? = some (.cells ca ta (0, 0))) (hne : a.block ≠ eb) :
    Calls Ybaf.prog 14 #[.pointer (some ⟨i.D, 0, none⟩), .slice none 0 0, .slice none 0 0, .iface 161 (.pointer (some ⟨eb, 0, none⟩)), .bool false, .int .u64 t] w fun e w' => e = .returned (.bool true) ∧ Kp [] w w' := by
  have c2 := cell_at (i := 2) (v := .pointer (some ⟨i.C, 0, none⟩)) v.d rfl
  have hfd := field34
  have hq70 := fun W => run_eql_nil_slice (P := Ybaf.prog) W 70 79 none 0 0 0 0 Ybaf.underlying70
  have hq32 := fun W => run_eql_nil_slice (P := Ybaf.prog) W 32 3 none 0 0 0 0 Ybaf.underlying32
  simp at hq70 hq32
  go_enter Ybaf.func14, Ybaf.ntmps14
  go_wp2_with (first | (go_at_call 33; refine (is_other ⟨eb, 0, none⟩ a _ _ _ _ w (fun h => hne (by rw [← h])) he ha).mono ?_; rintro e w' ⟨rfl, rfl⟩) | (go_at_call 8; refine (now_c i.C P0 t _ v.c).mono ?_; rintro e w' ⟨rfl, hk⟩))
  go_ret
  exact ⟨rfl, hk⟩

set_option maxRecDepth 100000 in
set_option maxHeartbeats 1000000 in
theorem refused_over (v : Srv i w mu t hd td se q wt) (a : Addr) (hg : w.cell? ⟨0, 0, none⟩ = some (.iface 161 (.pointer (some a)))) :
    Calls Ybaf.prog 14 #[.pointer (some ⟨i.D, 0, none⟩), .slice none 0 0, .slice none 0 0, .iface 161 (.pointer (some a)), .bool true, .int .u64 t] w fun e w' => e = .returned (.bool true) ∧ Kp [] w w' := by
  have c2 := cell_at (i := 2) (v := .pointer (some ⟨i.C, 0, none⟩)) v.d rfl
  have hfd := field34
  have hq70 := fun W => run_eql_nil_slice (P := Ybaf.prog) W 70 79 none 0 0 0 0 Ybaf.underlying70
  have hq32 := fun W => run_eql_nil_slice (P := Ybaf.prog) W 32 3 none 0 0 0 0 Ybaf.underlying32
  simp at hq70 hq32
  go_enter Ybaf.func14, Ybaf.ntmps14
  go_wp2_with (first | (go_at_call 33; refine (is_same a w).mono ?_; rintro e w' ⟨rfl, rfl⟩) | (go_at_call 8; refine (now_c i.C P0 t _ v.c).mono ?_; rintro e w' ⟨rfl, hk⟩))
  go_ret
  exact ⟨rfl, hk⟩
end

end Go.Proofs.YbulkbxpiFmt
