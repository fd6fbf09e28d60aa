/-
  fmt.Errorf at this program's formats: the closed facts for a walk over fmt's stopped front, and a contract a format. The text is left open.
-/
import Derived.Test.YbulkbxpiFmtRows
import Derived.Stop.CallBack
import Derived.Stop.IfaceNil
import Derived.Stop.Walk2
import Derived.WalkKit
import GoSem.ClaimData
namespace Go.Proofs.YbulkbxpiFmt
open Go.RowKit Go.Extern.Stop Go.Stop Go.Extern
set_option maxRecDepth 100000

@[go_sem] theorem Ybaf.call52 (args : Array Value) (w : World) : (callFunc 52 args).run Ybaf.prog w = ((FmtStop.errorf #[9, 136] #[27] args).run Ybaf.prog w).andThen fun v w' => .ok (.value v) w' :=
  run_callFunc_extern Ybaf.func52 (by kernel_rfl) (by kernel_rfl) (by kernel_rfl) (by kernel_rfl) args w
@[go_sem] theorem Ybaf.guard (name : String) (w : World) : (FmtStop.guard name).run Ybaf.prog w = .ok () w := by kernel_rfl
def Ybaf.shape9 : List UInt8 := [12, 6, 0, 0, 0, 0, 0, 0, 0, 115, 116, 114, 105, 110, 103]
@[go_sem] theorem Ybaf.op9_115 (name : String) (x : ByteArray) (w : World) : (FmtStop.operand name false 115 false (.iface 9 (.string x))).run Ybaf.prog w = .ok (Ybaf.shape9, FmtStop.pack x.data.toList) w := by kernel_rfl
@[go_sem] theorem Ybaf.op9_115w (name : String) (x : ByteArray) (w : World) : (FmtStop.operand name true 115 false (.iface 9 (.string x))).run Ybaf.prog w = .ok (Ybaf.shape9, FmtStop.pack x.data.toList) w := by kernel_rfl
def Ybaf.shape31 : List UInt8 := FmtStop.intCode .u64 :: FmtStop.pack "uint64".toUTF8.data.toList
@[go_sem] theorem Ybaf.op31_100 (name : String) (x : Int) (w : World) : (FmtStop.operand name false 100 false (.iface 31 (.int .u64 x))).run Ybaf.prog w = .ok (Ybaf.shape31, Go.Extern.Stop.digits 8 (x % 2 ^ 64).toNat) w := by kernel_rfl
@[go_sem] theorem Ybaf.op31_100w (name : String) (x : Int) (w : World) : (FmtStop.operand name true 100 false (.iface 31 (.int .u64 x))).run Ybaf.prog w = .ok (Ybaf.shape31, Go.Extern.Stop.digits 8 (x % 2 ^ 64).toNat) w := by kernel_rfl
def Ybaf.shape34 : List UInt8 := 18 :: (FmtStop.pack "antecede.LamportStamp".toUTF8.data.toList ++ (Go.Extern.Stop.digits 8 2 ++ (0 :: (FmtStop.pack "Time".toUTF8.data.toList ++ (FmtStop.pack [] ++ (FmtStop.intCode .u64 :: (FmtStop.pack "uint64".toUTF8.data.toList ++ (0 :: (FmtStop.pack "Process".toUTF8.data.toList ++ (FmtStop.pack [] ++ (12 :: FmtStop.pack "string".toUTF8.data.toList)))))))))))
@[go_sem] theorem Ybaf.op34_118 (name : String) (x : Int) (y : ByteArray) (w : World) : (FmtStop.operand name false 118 false (.iface 34 (.agg #[.int .u64 x, .string y]))).run Ybaf.prog w = .ok (Ybaf.shape34, Go.Extern.Stop.digits 8 (x % 2 ^ 64).toNat ++ (FmtStop.pack y.data.toList ++ ([]))) w := by kernel_rfl
@[go_sem] theorem Ybaf.op34_118w (name : String) (x : Int) (y : ByteArray) (w : World) : (FmtStop.operand name true 118 false (.iface 34 (.agg #[.int .u64 x, .string y]))).run Ybaf.prog w = .ok (Ybaf.shape34, Go.Extern.Stop.digits 8 (x % 2 ^ 64).toNat ++ (FmtStop.pack y.data.toList ++ ([]))) w := by kernel_rfl
@[go_sem] theorem Ybaf.ptr161 (w : World) : (FmtStop.ptrTo "errors.errorString").run Ybaf.prog w = .ok 161 w := by kernel_rfl
@[go_sem] theorem Ybaf.elem161 (w : World) : (elemOf 161).run Ybaf.prog w = .ok 163 w := by kernel_rfl

-- "%s is not among the processes"
abbrev fmtNot : ByteArray := ⟨#[37, 115, 32, 105, 115, 32, 110, 111, 116, 32, 97, 109, 111, 110, 103, 32, 116, 104, 101, 32, 112, 114, 111, 99, 101, 115, 115, 101, 115]⟩
theorem fmtNot_p : FmtStop.printed? fmtNot 1 = some [(0, 115, false)] := by kernel_rfl
theorem fmtNot_r (w : World) : (FmtDoors.printed fmtNot 1).run Ybaf.prog w = .ok [(0, 115, false)] w := by kernel_rfl
theorem errorf_Not (F : Interp) (b c : Nat) (x0 : ByteArray) (w : World) (hF : F.answers w.tape) (h0 : w.cell? ⟨b, 0, none⟩ = some (.iface 9 (.string x0))) :
    Calls Ybaf.prog 35 #[.string fmtNot, .slice (some ⟨b, 0, none⟩) 1 c] w fun e w' => e = .returned (.iface 161 (.pointer (some ⟨w.heap.size, 0, none⟩))) ∧ ∃ t, w' = (w.alloc (.cells #[.string t] 163)).drew := by
  have hF' : ∀ i name reading k range, w.tape i (.extern (word name reading k) range) = F name reading k := hF
  have hp := fmtNot_p
  have hr := fmtNot_r
  go_enter Ybaf.func35, Ybaf.ntmps35
  go_wp2
  go_ret
  exact ⟨rfl, _, rfl⟩

-- "%s received from itself"
abbrev fmtSelf : ByteArray := ⟨#[37, 115, 32, 114, 101, 99, 101, 105, 118, 101, 100, 32, 102, 114, 111, 109, 32, 105, 116, 115, 101, 108, 102]⟩
theorem fmtSelf_p : FmtStop.printed? fmtSelf 1 = some [(0, 115, false)] := by kernel_rfl
theorem fmtSelf_r (w : World) : (FmtDoors.printed fmtSelf 1).run Ybaf.prog w = .ok [(0, 115, false)] w := by kernel_rfl
theorem errorf_Self (F : Interp) (b c : Nat) (x0 : ByteArray) (w : World) (hF : F.answers w.tape) (h0 : w.cell? ⟨b, 0, none⟩ = some (.iface 9 (.string x0))) :
    Calls Ybaf.prog 35 #[.string fmtSelf, .slice (some ⟨b, 0, none⟩) 1 c] w fun e w' => e = .returned (.iface 161 (.pointer (some ⟨w.heap.size, 0, none⟩))) ∧ ∃ t, w' = (w.alloc (.cells #[.string t] 163)).drew := by
  have hF' : ∀ i name reading k range, w.tape i (.extern (word name reading k) range) = F name reading k := hF
  have hp := fmtSelf_p
  have hr := fmtSelf_r
  go_enter Ybaf.func35, Ybaf.ntmps35
  go_wp2
  go_ret
  exact ⟨rfl, _, rfl⟩

-- "%s received from %s at %d after %d: not in the order sent"
abbrev fmtOrder : ByteArray := ⟨#[37, 115, 32, 114, 101, 99, 101, 105, 118, 101, 100, 32, 102, 114, 111, 109, 32, 37, 115, 32, 97, 116, 32, 37, 100, 32, 97, 102, 116, 101, 114, 32, 37, 100, 58, 32, 110, 111, 116, 32, 105, 110, 32, 116, 104, 101, 32, 111, 114, 100, 101, 114, 32, 115, 101, 110, 116]⟩
theorem fmtOrder_p : FmtStop.printed? fmtOrder 4 = some [(0, 115, false), (1, 115, false), (2, 100, false), (3, 100, false)] := by kernel_rfl
theorem fmtOrder_r (w : World) : (FmtDoors.printed fmtOrder 4).run Ybaf.prog w = .ok [(0, 115, false), (1, 115, false), (2, 100, false), (3, 100, false)] w := by kernel_rfl
theorem errorf_Order (F : Interp) (b c : Nat) (x0 : ByteArray) (x1 : ByteArray) (x2 : Int) (x3 : Int) (w : World) (hF : F.answers w.tape) (h0 : w.cell? ⟨b, 0, none⟩ = some (.iface 9 (.string x0))) (h1 : w.cell? ⟨b, 1, none⟩ = some (.iface 9 (.string x1))) (h2 : w.cell? ⟨b, 2, none⟩ = some (.iface 31 (.int .u64 x2))) (h3 : w.cell? ⟨b, 3, none⟩ = some (.iface 31 (.int .u64 x3))) :
    Calls Ybaf.prog 35 #[.string fmtOrder, .slice (some ⟨b, 0, none⟩) 4 c] w fun e w' => e = .returned (.iface 161 (.pointer (some ⟨w.heap.size, 0, none⟩))) ∧ ∃ t, w' = (w.alloc (.cells #[.string t] 163)).drew := by
  have hF' : ∀ i name reading k range, w.tape i (.extern (word name reading k) range) = F name reading k := hF
  have hp := fmtOrder_p
  have hr := fmtOrder_r
  go_enter Ybaf.func35, Ybaf.ntmps35
  go_wp2
  go_ret
  exact ⟨rfl, _, rfl⟩

-- "%v names messages of %s, which is not among the processes"
abbrev fmtCbNot : ByteArray := ⟨#[37, 118, 32, 110, 97, 109, 101, 115, 32, 109, 101, 115, 115, 97, 103, 101, 115, 32, 111, 102, 32, 37, 115, 44, 32, 119, 104, 105, 99, 104, 32, 105, 115, 32, 110, 111, 116, 32, 97, 109, 111, 110, 103, 32, 116, 104, 101, 32, 112, 114, 111, 99, 101, 115, 115, 101, 115]⟩
theorem fmtCbNot_p : FmtStop.printed? fmtCbNot 2 = some [(0, 118, false), (1, 115, false)] := by kernel_rfl
theorem fmtCbNot_r (w : World) : (FmtDoors.printed fmtCbNot 2).run Ybaf.prog w = .ok [(0, 118, false), (1, 115, false)] w := by kernel_rfl
theorem errorf_CbNot (F : Interp) (b c : Nat) (x0 : Int) (y0 : ByteArray) (x1 : ByteArray) (w : World) (hF : F.answers w.tape) (h0 : w.cell? ⟨b, 0, none⟩ = some (.iface 34 (.agg #[.int .u64 x0, .string y0]))) (h1 : w.cell? ⟨b, 1, none⟩ = some (.iface 9 (.string x1))) :
    Calls Ybaf.prog 35 #[.string fmtCbNot, .slice (some ⟨b, 0, none⟩) 2 c] w fun e w' => e = .returned (.iface 161 (.pointer (some ⟨w.heap.size, 0, none⟩))) ∧ ∃ t, w' = (w.alloc (.cells #[.string t] 163)).drew := by
  have hF' : ∀ i name reading k range, w.tape i (.extern (word name reading k) range) = F name reading k := hF
  have hp := fmtCbNot_p
  have hr := fmtCbNot_r
  go_enter Ybaf.func35, Ybaf.ntmps35
  go_wp2
  go_ret
  exact ⟨rfl, _, rfl⟩

-- "%v names the messages of %s at %d as sent before it"
abbrev fmtCbLate : ByteArray := ⟨#[37, 118, 32, 110, 97, 109, 101, 115, 32, 116, 104, 101, 32, 109, 101, 115, 115, 97, 103, 101, 115, 32, 111, 102, 32, 37, 115, 32, 97, 116, 32, 37, 100, 32, 97, 115, 32, 115, 101, 110, 116, 32, 98, 101, 102, 111, 114, 101, 32, 105, 116]⟩
theorem fmtCbLate_p : FmtStop.printed? fmtCbLate 3 = some [(0, 118, false), (1, 115, false), (2, 100, false)] := by kernel_rfl
theorem fmtCbLate_r (w : World) : (FmtDoors.printed fmtCbLate 3).run Ybaf.prog w = .ok [(0, 118, false), (1, 115, false), (2, 100, false)] w := by kernel_rfl
theorem errorf_CbLate (F : Interp) (b c : Nat) (x0 : Int) (y0 : ByteArray) (x1 : ByteArray) (x2 : Int) (w : World) (hF : F.answers w.tape) (h0 : w.cell? ⟨b, 0, none⟩ = some (.iface 34 (.agg #[.int .u64 x0, .string y0]))) (h1 : w.cell? ⟨b, 1, none⟩ = some (.iface 9 (.string x1))) (h2 : w.cell? ⟨b, 2, none⟩ = some (.iface 31 (.int .u64 x2))) :
    Calls Ybaf.prog 35 #[.string fmtCbLate, .slice (some ⟨b, 0, none⟩) 3 c] w fun e w' => e = .returned (.iface 161 (.pointer (some ⟨w.heap.size, 0, none⟩))) ∧ ∃ t, w' = (w.alloc (.cells #[.string t] 163)).drew := by
  have hF' : ∀ i name reading k range, w.tape i (.extern (word name reading k) range) = F name reading k := hF
  have hp := fmtCbLate_p
  have hr := fmtCbLate_r
  go_enter Ybaf.func35, Ybaf.ntmps35
  go_wp2
  go_ret
  exact ⟨rfl, _, rfl⟩

-- "%s cannot send a message to itself"
abbrev fmtToSelf : ByteArray := ⟨#[37, 115, 32, 99, 97, 110, 110, 111, 116, 32, 115, 101, 110, 100, 32, 97, 32, 109, 101, 115, 115, 97, 103, 101, 32, 116, 111, 32, 105, 116, 115, 101, 108, 102]⟩
theorem fmtToSelf_p : FmtStop.printed? fmtToSelf 1 = some [(0, 115, false)] := by kernel_rfl
theorem fmtToSelf_r (w : World) : (FmtDoors.printed fmtToSelf 1).run Ybaf.prog w = .ok [(0, 115, false)] w := by kernel_rfl
theorem errorf_ToSelf (F : Interp) (b c : Nat) (x0 : ByteArray) (w : World) (hF : F.answers w.tape) (h0 : w.cell? ⟨b, 0, none⟩ = some (.iface 9 (.string x0))) :
    Calls Ybaf.prog 35 #[.string fmtToSelf, .slice (some ⟨b, 0, none⟩) 1 c] w fun e w' => e = .returned (.iface 161 (.pointer (some ⟨w.heap.size, 0, none⟩))) ∧ ∃ t, w' = (w.alloc (.cells #[.string t] 163)).drew := by
  have hF' : ∀ i name reading k range, w.tape i (.extern (word name reading k) range) = F name reading k := hF
  have hp := fmtToSelf_p
  have hr := fmtToSelf_r
  go_enter Ybaf.func35, Ybaf.ntmps35
  go_wp2
  go_ret
  exact ⟨rfl, _, rfl⟩

-- "receiver %s is named twice"
abbrev fmtTwice : ByteArray := ⟨#[114, 101, 99, 101, 105, 118, 101, 114, 32, 37, 115, 32, 105, 115, 32, 110, 97, 109, 101, 100, 32, 116, 119, 105, 99, 101]⟩
theorem fmtTwice_p : FmtStop.printed? fmtTwice 1 = some [(0, 115, false)] := by kernel_rfl
theorem fmtTwice_r (w : World) : (FmtDoors.printed fmtTwice 1).run Ybaf.prog w = .ok [(0, 115, false)] w := by kernel_rfl
theorem errorf_Twice (F : Interp) (b c : Nat) (x0 : ByteArray) (w : World) (hF : F.answers w.tape) (h0 : w.cell? ⟨b, 0, none⟩ = some (.iface 9 (.string x0))) :
    Calls Ybaf.prog 35 #[.string fmtTwice, .slice (some ⟨b, 0, none⟩) 1 c] w fun e w' => e = .returned (.iface 161 (.pointer (some ⟨w.heap.size, 0, none⟩))) ∧ ∃ t, w' = (w.alloc (.cells #[.string t] 163)).drew := by
  have hF' : ∀ i name reading k range, w.tape i (.extern (word name reading k) range) = F name reading k := hF
  have hp := fmtTwice_p
  have hr := fmtTwice_r
  go_enter Ybaf.func35, Ybaf.ntmps35
  go_wp2
  go_ret
  exact ⟨rfl, _, rfl⟩

-- "receiver %s is not among the processes"
abbrev fmtRNot : ByteArray := ⟨#[114, 101, 99, 101, 105, 118, 101, 114, 32, 37, 115, 32, 105, 115, 32, 110, 111, 116, 32, 97, 109, 111, 110, 103, 32, 116, 104, 101, 32, 112, 114, 111, 99, 101, 115, 115, 101, 115]⟩
theorem fmtRNot_p : FmtStop.printed? fmtRNot 1 = some [(0, 115, false)] := by kernel_rfl
theorem fmtRNot_r (w : World) : (FmtDoors.printed fmtRNot 1).run Ybaf.prog w = .ok [(0, 115, false)] w := by kernel_rfl
theorem errorf_RNot (F : Interp) (b c : Nat) (x0 : ByteArray) (w : World) (hF : F.answers w.tape) (h0 : w.cell? ⟨b, 0, none⟩ = some (.iface 9 (.string x0))) :
    Calls Ybaf.prog 35 #[.string fmtRNot, .slice (some ⟨b, 0, none⟩) 1 c] w fun e w' => e = .returned (.iface 161 (.pointer (some ⟨w.heap.size, 0, none⟩))) ∧ ∃ t, w' = (w.alloc (.cells #[.string t] 163)).drew := by
  have hF' : ∀ i name reading k range, w.tape i (.extern (word name reading k) range) = F name reading k := hF
  have hp := fmtRNot_p
  have hr := fmtRNot_r
  go_enter Ybaf.func35, Ybaf.ntmps35
  go_wp2
  go_ret
  exact ⟨rfl, _, rfl⟩

end Go.Proofs.YbulkbxpiFmt
