/-
  NARROWER THAN 'FOR EVERY INPUT', by the rows' own cells (each row's printed sentence says how): LawS3700ASends: ifaces, laid · LawS3700BFirstReceipt: ifaces, laid · LawS3700BAwaits: ifaces, laid.
  DERIVED. THE GIVEN ROWS OF THIS SEAT. 3 by the template 'for every input the law returns true; each argument reads behind the call as it read before'; 0 by the template 'total and deterministic' (their statements: YbulkbxpiFmtTotals.lean).
  GIVEN WITH THE SEED: the statements are not yours to turn. If you find one false, say at which input.
  Laid BY PROGRAM, IN A SANDBOX (cutbox-rows.mjs): the forced cells as the released guide's own fill.sh prints them over the translation 93ba6e3cd3d4be6d… (all of the seat's roots in one cut). By AI agents, Wed Nov 11 2026. No macro, syntax, notation, axiom, sorry.
-/
import Derived.Test.YbulkbxpiFmtChecked
import GoSem.Claim
import GoSem.ClaimJoined
import GoSem.ClaimMapViews
import Derived.JoinedTies
import Derived.KernelRfl
namespace Go.Proofs.YbulkbxpiFmt
/- THE CELL 'sum', in the pinned program and in every row, IS THE sha256 OF THE DUMP (.gsa) THAT YbulkbxpiFmtProg.lean LOADS. Nothing in Lean hashes anything: it is a label: what it is worth is what the hold of that sum in a sandbox is worth. -/
noncomputable def Ybaf.pinned : Pinned := { name := "ybulkbxpifmt", sum := "93ba6e3cd3d4be6d75a3c48e2079c96eb9b145b1b718bb84cdbb50bafe3a59f9", checked := Ybaf.checked }
namespace Rows
def none {H : Type} : Left H := { results := [], args := [] }

/- WHAT THE LISTED PACKAGE-LEVEL VARIABLES READ AS WHEN THE CALL BEGINS. Each datum BY PROGRAM (the guide's laid-datum.mjs) off the statement by which the dump's own 'gosem.cut.vars' lays the variable. In a bare row this is a premise. The card (YbulkbxpiFmtCards.lean) ties it to the program's text. -/
def laid_example_com_antecede_antecede_ErrClockOverflow {H : Type} : DataW H := .iface "*errors.errorString" (.ptr (.agg [.lit (.string [99, 108, 111, 99, 107, 32, 118, 97, 108, 117, 101, 32, 119, 111, 117, 108, 100, 32, 112, 97, 115, 115, 32, 116, 104, 101, 32, 108, 97, 114, 103, 101, 115, 116, 32, 117, 105, 110, 116, 54, 52])]))

/-- 'antecede.LawS3700ASends': WHATEVER THE INPUT: true; the input reads as it did. -/
def lawS3700ASendsSpec : ChangeSpec := { name := "lawS3700ASends", vars := ["example.com/antecede/antecede.ErrClockOverflow"], fn := fun _ => fun
  | [d1, d2, d3, g1] => { results := [.lit (.bool true)], args := [d1, d2, d3], vars := [g1] }
  | _ => none }
def lawS3700ASendsRow : OpenClaim := { program := "ybulkbxpifmt", sum := "93ba6e3cd3d4be6d75a3c48e2079c96eb9b145b1b718bb84cdbb50bafe3a59f9", func := "example.com/antecede/antecede.LawS3700ASends", spec := "lawS3700ASends", stops := ["fmt.errorf"], inPlace := ["fmt.errorf", "(*internal/sync.Mutex).Lock", "internal/race.Disable", "sync/atomic.CompareAndSwapInt32", "internal/race.Enable", "internal/race.Acquire", "(*internal/sync.Mutex).lockSlow", "internal/sync.runtime_canSpin", "internal/sync.runtime_doSpin", "internal/sync.throw", "internal/sync.runtime_nanotime", "internal/sync.runtime_SemacquireMutex", "sync/atomic.AddInt32", "(*internal/sync.Mutex).Unlock", "internal/race.ReleaseMerge", "(*internal/sync.Mutex).unlockSlow", "internal/sync.fatal", "internal/sync.runtime_Semrelease"], named := ["example.com/antecede/antecede.ErrClockOverflow"], ifaces := true, plainKeys := false, apart := false, laid := [("example.com/antecede/antecede.ErrClockOverflow", laid_example_com_antecede_antecede_ErrClockOverflow)] }
/-- NO THEOREM (fmt's text is open here; it may be false): for the released tool's asking of the row's closed facts alone. THE STATEMENT IS 'LawS3700ASendsToldSaid' (YbulkbxpiFmtCards.lean). -/
def LawS3700ASendsFormAsk : Prop := lawS3700ASendsRow.holds Ybaf.pinned (OpenSpec.ofChange lawS3700ASendsSpec)

/-- ITS FALSE NEIGHBOUR: 'it returns false'. Refute it at one input. -/
def lawS3700ASendsWrong : ChangeSpec := { name := "lawS3700ASends", vars := ["example.com/antecede/antecede.ErrClockOverflow"], fn := fun _ => fun
  | [d1, d2, d3, g1] => { results := [.lit (.bool false)], args := [d1, d2, d3], vars := [g1] }
  | _ => none }
def LawS3700ASendsWrongFormAsk : Prop := lawS3700ASendsRow.holds Ybaf.pinned (OpenSpec.ofChange lawS3700ASendsWrong)

/-- 'antecede.LawS3700BFirstReceipt': WHATEVER THE INPUT: true; the input reads as it did. -/
def lawS3700BFirstReceiptSpec : ChangeSpec := { name := "lawS3700BFirstReceipt", vars := ["example.com/antecede/antecede.ErrClockOverflow"], fn := fun _ => fun
  | [d1, d2, d3, g1] => { results := [.lit (.bool true)], args := [d1, d2, d3], vars := [g1] }
  | _ => none }
def lawS3700BFirstReceiptRow : OpenClaim := { program := "ybulkbxpifmt", sum := "93ba6e3cd3d4be6d75a3c48e2079c96eb9b145b1b718bb84cdbb50bafe3a59f9", func := "example.com/antecede/antecede.LawS3700BFirstReceipt", spec := "lawS3700BFirstReceipt", stops := ["fmt.errorf"], inPlace := ["fmt.errorf", "(*internal/sync.Mutex).Lock", "internal/race.Disable", "sync/atomic.CompareAndSwapInt32", "internal/race.Enable", "internal/race.Acquire", "(*internal/sync.Mutex).lockSlow", "internal/sync.runtime_canSpin", "internal/sync.runtime_doSpin", "internal/sync.throw", "internal/sync.runtime_nanotime", "internal/sync.runtime_SemacquireMutex", "sync/atomic.AddInt32", "(*internal/sync.Mutex).Unlock", "internal/race.ReleaseMerge", "(*internal/sync.Mutex).unlockSlow", "internal/sync.fatal", "internal/sync.runtime_Semrelease", "internal/bytealg.abigen_runtime_cmpstring", "internal/reflectlite.TypeOf"], unfollowed := true, recurses := true, named := ["example.com/antecede/antecede.ErrClockOverflow"], ifaces := true, plainKeys := false, apart := false, laid := [("example.com/antecede/antecede.ErrClockOverflow", laid_example_com_antecede_antecede_ErrClockOverflow)] }
/-- NO THEOREM (fmt's text is open here; it may be false): for the released tool's asking of the row's closed facts alone. THE STATEMENT IS 'LawS3700BFirstReceiptToldSaid' (YbulkbxpiFmtCards.lean). -/
def LawS3700BFirstReceiptFormAsk : Prop := lawS3700BFirstReceiptRow.holds Ybaf.pinned (OpenSpec.ofChange lawS3700BFirstReceiptSpec)

/-- ITS FALSE NEIGHBOUR: 'it returns false'. Refute it at one input. -/
def lawS3700BFirstReceiptWrong : ChangeSpec := { name := "lawS3700BFirstReceipt", vars := ["example.com/antecede/antecede.ErrClockOverflow"], fn := fun _ => fun
  | [d1, d2, d3, g1] => { results := [.lit (.bool false)], args := [d1, d2, d3], vars := [g1] }
  | _ => none }
def LawS3700BFirstReceiptWrongFormAsk : Prop := lawS3700BFirstReceiptRow.holds Ybaf.pinned (OpenSpec.ofChange lawS3700BFirstReceiptWrong)

/-- 'antecede.LawS3700BAwaits': WHATEVER THE INPUT: true; the input reads as it did. -/
def lawS3700BAwaitsSpec : ChangeSpec := { name := "lawS3700BAwaits", vars := ["example.com/antecede/antecede.ErrClockOverflow"], fn := fun _ => fun
  | [d1, d2, d3, d4, d5, d6, g1] => { results := [.lit (.bool true)], args := [d1, d2, d3, d4, d5, d6], vars := [g1] }
  | _ => none }
def lawS3700BAwaitsRow : OpenClaim := { program := "ybulkbxpifmt", sum := "93ba6e3cd3d4be6d75a3c48e2079c96eb9b145b1b718bb84cdbb50bafe3a59f9", func := "example.com/antecede/antecede.LawS3700BAwaits", spec := "lawS3700BAwaits", stops := ["fmt.errorf"], inPlace := ["fmt.errorf", "(*internal/sync.Mutex).Lock", "internal/race.Disable", "sync/atomic.CompareAndSwapInt32", "internal/race.Enable", "internal/race.Acquire", "(*internal/sync.Mutex).lockSlow", "internal/sync.runtime_canSpin", "internal/sync.runtime_doSpin", "internal/sync.throw", "internal/sync.runtime_nanotime", "internal/sync.runtime_SemacquireMutex", "sync/atomic.AddInt32", "(*internal/sync.Mutex).Unlock", "internal/race.ReleaseMerge", "(*internal/sync.Mutex).unlockSlow", "internal/sync.fatal", "internal/sync.runtime_Semrelease", "internal/bytealg.abigen_runtime_cmpstring", "internal/reflectlite.TypeOf"], unfollowed := true, recurses := true, named := ["example.com/antecede/antecede.ErrClockOverflow"], ifaces := true, plainKeys := false, apart := false, laid := [("example.com/antecede/antecede.ErrClockOverflow", laid_example_com_antecede_antecede_ErrClockOverflow)] }
/-- NO THEOREM (fmt's text is open here; it may be false): for the released tool's asking of the row's closed facts alone. THE STATEMENT IS 'LawS3700BAwaitsToldSaid' (YbulkbxpiFmtCards.lean). -/
def LawS3700BAwaitsFormAsk : Prop := lawS3700BAwaitsRow.holds Ybaf.pinned (OpenSpec.ofChange lawS3700BAwaitsSpec)

/-- ITS FALSE NEIGHBOUR: 'it returns false'. Refute it at one input. -/
def lawS3700BAwaitsWrong : ChangeSpec := { name := "lawS3700BAwaits", vars := ["example.com/antecede/antecede.ErrClockOverflow"], fn := fun _ => fun
  | [d1, d2, d3, d4, d5, d6, g1] => { results := [.lit (.bool false)], args := [d1, d2, d3, d4, d5, d6], vars := [g1] }
  | _ => none }
def LawS3700BAwaitsWrongFormAsk : Prop := lawS3700BAwaitsRow.holds Ybaf.pinned (OpenSpec.ofChange lawS3700BAwaitsWrong)

end Rows
end Go.Proofs.YbulkbxpiFmt
