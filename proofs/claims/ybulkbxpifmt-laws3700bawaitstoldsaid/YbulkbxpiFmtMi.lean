/-
  'LawS3700BAwaits' at every input.
-/
import Derived.Test.YbulkbxpiFmtMa
import Derived.Test.YbulkbxpiFmtMb
import Derived.Test.YbulkbxpiFmtMc
import Derived.Test.YbulkbxpiFmtMd
import Derived.Test.YbulkbxpiFmtMe
import Derived.Test.YbulkbxpiFmtMf
import Derived.Test.YbulkbxpiFmtMg
import Derived.Test.YbulkbxpiFmtMh
namespace Go.Proofs.YbulkbxpiFmt
open Go.RowKit
open Go.Extern.Stop Go.Stop Go.Extern


set_option maxRecDepth 100000 in
theorem law5_big (w : World) (T a x sel m : Int) (ws : Bool) (hT : 18446744073709551612 < T) :
    Calls Ybaf.prog 5 #[.int .u64 T, .int .u64 a, .int .u64 x, .int .u8 sel, .bool ws, .int .i64 m] w (LawOk w) := by
  have hd : decide (18446744073709551612 < T) = true := by simp; omega
  go_enter Ybaf.func5, Ybaf.ntmps5
  go_wp2
  go_ret
  exact ⟨rfl, (Kp.refl [] w).below⟩

/-- One name, the rest by cases. -/
theorem law5_known (w : World) (T a x sel m : Int) (ws : Bool) (h0 : 0 ≤ sel ∧ sel ≤ 255) (hT : 0 < T ∧ T ≤ 18446744073709551612) (h3 : sel % 4 ≠ 3) (ha0 : 0 ≤ a) (hx0 : 0 ≤ x) (F : Interp) (hF : F.answers w.tape) (a0 : Addr) (hg : w.cell? ⟨0, 0, none⟩ = some (.iface 161 (.pointer (some a0)))) (ca : Array Value) (ta : TypeId) (ha : w.heap[a0.block]? = some (.cells ca ta (0, 0))) :
    Calls Ybaf.prog 5 #[.int .u64 T, .int .u64 a, .int .u64 x, .int .u8 sel, .bool ws, .int .i64 m] w (LawOk w) := by
  have hT' : 0 ≤ T ∧ T ≤ 18446744073709551612 := ⟨by omega, hT.2⟩
  have hz0 := hT.1
  have hn : ∃ j, j < 3 ∧ ∀ W, Calls Ybaf.prog 12 #[.int .u8 sel] W fun e w' => e = .returned (.string (nmOf j)) ∧ w' = W := by
    rcases (by omega : sel % 4 = 0 ∨ sel % 4 = 1 ∨ sel % 4 = 2) with h | h | h
    · exact ⟨0, by omega, fun W => name_P0 sel W h0 h⟩
    · exact ⟨1, by omega, fun W => name_P1 sel W h0 h⟩
    · exact ⟨2, by omega, fun W => name_P2 sel W h0 h⟩
  obtain ⟨j, hj, Hn⟩ := hn
  by_cases hza : T ≤ a
  · cases ws
    · exact law5_b3f w T a x sel m hT' F hF j hj Hn hz0 hza a0 hg ca ta ha
    · exact law5_b3t w T a x sel m hT' F hF j hj Hn hz0 hza a0 hg ca ta ha
  have hza : a < T := by omega
  by_cases hzx : T ≤ x ∧ ws = true
  · obtain ⟨hzx, rfl⟩ := hzx
    exact law5_b4t w T a x sel m hT' F hF j hj Hn hz0 hza hzx a0 hg ca ta ha
  clear Hn
  rcases (by omega : sel % 4 = 0 ∨ sel % 4 = 1 ∨ sel % 4 = 2) with h | h | h
  · have Hn := fun W => name_P0 sel W h0 h
    cases ws
    · exact law5_s0f w T a x sel m hT' Hn hz0 hza a0 hg
    · exact law5_s0t w T a x sel m hT' Hn hz0 hza hx0 (by simp at hzx; omega) a0 hg
  · have Hn := fun W => name_P1 sel W h0 h
    by_cases hs : a = 0
    · cases ws
      · exact law5_s1f w T a x sel m hT' Hn hz0 hza hs a0 hg
      · exact law5_s1t w T a x sel m hT' Hn hz0 hza hx0 (by simp at hzx; omega) hs a0 hg
    · cases ws
      · exact law5_n1f w T a x sel m hT' Hn hz0 hza (by omega) a0 hg
      · exact law5_n1t w T a x sel m hT' Hn hz0 hza hx0 (by simp at hzx; omega) (by omega) a0 hg
  · have Hn := fun W => name_P2 sel W h0 h
    cases ws
    · by_cases hs : a ≤ 0
      · exact law5_s2f w T a x sel m hT' Hn hz0 hza hs a0 hg
      · exact law5_n2f w T a x sel m hT' Hn hz0 hza (by omega) a0 hg
    · by_cases hs : a ≤ x
      · exact law5_s2t w T a x sel m hT' Hn hz0 hza hx0 (by simp at hzx; omega) hs a0 hg
      · exact law5_n2t w T a x sel m hT' Hn hz0 hza hx0 (by simp at hzx; omega) (by omega) a0 hg

/-- The law at every input. -/
theorem law5_all (F : Interp) (w : World) (T a x sel m : Int) (ws : Bool) (hF : F.answers w.tape) (h0 : 0 ≤ sel ∧ sel ≤ 255) (hT : 0 ≤ T) (ha0 : 0 ≤ a) (hx0 : 0 ≤ x) (a0 : Addr) (hg : w.cell? ⟨0, 0, none⟩ = some (.iface 161 (.pointer (some a0)))) (ca : Array Value) (ta : TypeId) (ha : w.heap[a0.block]? = some (.cells ca ta (0, 0))) :
    Calls Ybaf.prog 5 #[.int .u64 T, .int .u64 a, .int .u64 x, .int .u8 sel, .bool ws, .int .i64 m] w (LawOk w) := by
  by_cases hb : 18446744073709551612 < T
  · exact law5_big w T a x sel m ws hb
  have hT' : 0 ≤ T ∧ T ≤ 18446744073709551612 := ⟨hT, by omega⟩
  by_cases hz : T = 0
  · have hn : ∃ na : ByteArray, ∀ W, Calls Ybaf.prog 12 #[.int .u8 sel] W fun e w' => e = .returned (.string na) ∧ w' = W := by
      rcases (by omega : sel % 4 = 0 ∨ sel % 4 = 1 ∨ sel % 4 = 2 ∨ sel % 4 = 3) with h | h | h | h
      · exact ⟨_, fun W => name_P0 sel W h0 h⟩
      · exact ⟨_, fun W => name_P1 sel W h0 h⟩
      · exact ⟨_, fun W => name_P2 sel W h0 h⟩
      · exact ⟨_, fun W => name_Qq sel W h0 h⟩
    obtain ⟨na, Hn⟩ := hn
    cases ws
    · exact law5_b1f w T a x sel m hT' F hF na Hn hz a0 hg ca ta ha
    · exact law5_b1t w T a x sel m hT' F hF na Hn hz a0 hg ca ta ha
  · by_cases h3 : sel % 4 = 3
    · have Hn := fun W => name_Qq sel W h0 h3
      cases ws
      · exact law5_b2f w T a x sel m hT' F hF Hn (by omega) a0 hg ca ta ha
      · exact law5_b2t w T a x sel m hT' F hF Hn (by omega) a0 hg ca ta ha
    · exact law5_known w T a x sel m ws h0 ⟨by omega, hT'.2⟩ h3 ha0 hx0 F hF a0 hg ca ta ha

end Go.Proofs.YbulkbxpiFmt
