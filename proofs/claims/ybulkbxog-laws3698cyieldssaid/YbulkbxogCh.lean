/-
  Law C's road: 'zzs3698cbuild'.
-/
import Derived.Test.YbulkbxogCg
namespace Go.Proofs.Ybulkbxog
open Go.RowKit

theorem Yba.info25 : (Yba.prog.info? 25).map (fun i => (i.zero, i.size, i.bytes)) = some (some (.slice none 0 0), 1, 24) := by kernel_rfl

/-- The plain data of the argument. -/
structure CIn where
  N : Int
  M : Int
  U : Int
  Arcs : List (List Int)
  Inf : List (List Int)
  Pre : List (List Int)
  Wr : List (List Int)
  Rd : List (List Int)
  Sp : List Int

def CIn.isBig (d : CIn) : Bool := bigL d.Arcs || (bigL d.Inf || (bigL d.Pre || (bigL d.Wr || (bigL d.Rd || decide (1024 < d.Sp.length)))))

/-- The box that 'in' lies in. -/
def inCells (d : CIn) (aA aI aP aW aR aS : Option Addr) (cA cI cP cW cR cS : Nat) : Array Value :=
  #[.int .u8 d.N, .int .u8 d.M, .int .u8 d.U, .slice aA d.Arcs.length cA, .slice aI d.Inf.length cI, .slice aP d.Pre.length cP, .slice aW d.Wr.length cW, .slice aR d.Rd.length cR, .slice aS d.Sp.length cS]

structure InAt (w : World) (d : CIn) (aA aI aP aW aR aS : Option Addr) : Prop where
  hA : RawAt w aA d.Arcs
  hI : RawAt w aI d.Inf
  hP : RawAt w aP d.Pre
  hW : RawAt w aW d.Wr
  hR : RawAt w aR d.Rd
  hS : IRow w .u8 aS d.Sp
  lA : d.Arcs.length ≤ maxLen
  lI : d.Inf.length ≤ maxLen
  lP : d.Pre.length ≤ maxLen
  lW : d.Wr.length ≤ maxLen
  lR : d.Rd.length ≤ maxLen
  lS : d.Sp.length ≤ maxLen
  bN : 0 ≤ d.N ∧ d.N ≤ 255
  bM : 0 ≤ d.M ∧ d.M ≤ 255
  bU : 0 ≤ d.U ∧ d.U ≤ 255
  bS : ∀ x ∈ d.Sp, 0 ≤ x ∧ x ≤ 255

set_option maxRecDepth 100000 in
set_option maxHeartbeats 1000000 in
theorem build_big (w : World) (d : CIn) (aA aI aP aW aR aS : Option Addr) (cA cI cP cW cR cS : Nat) (h : InAt w d aA aI aP aW aR aS) (hbig : d.isBig = true) :
    Calls Yba.prog 12 #[.agg (inCells d aA aI aP aW aR aS cA cI cP cW cR cS)] w fun e w' => e = .returned (.tuple #[.pointer none, .int .i64 0, .slice none 0 0, .bool false]) ∧ Below w.heap.size w w' := by
  unfold inCells
  have HA := fun o => big_raw aA cA d.Arcs (w.alloc o) (h.hA.below ((Below.refl _ w).alloc (Nat.le_refl _) o) (Nat.le_refl _)) h.lA
  have HI := fun o => big_raw aI cI d.Inf (w.alloc o) (h.hI.below ((Below.refl _ w).alloc (Nat.le_refl _) o) (Nat.le_refl _)) h.lI
  have HP := fun o => big_raw aP cP d.Pre (w.alloc o) (h.hP.below ((Below.refl _ w).alloc (Nat.le_refl _) o) (Nat.le_refl _)) h.lP
  have HW := fun o => big_raw aW cW d.Wr (w.alloc o) (h.hW.below ((Below.refl _ w).alloc (Nat.le_refl _) o) (Nat.le_refl _)) h.lW
  have HR := fun o => big_raw aR cR d.Rd (w.alloc o) (h.hR.below ((Below.refl _ w).alloc (Nat.le_refl _) o) (Nat.le_refl _)) h.lR
  unfold CIn.isBig at hbig
  have hend : Below w.heap.size w (w.alloc (.cells #[.int .u8 d.N, .int .u8 d.M, .int .u8 d.U, .slice aA d.Arcs.length cA, .slice aI d.Inf.length cI, .slice aP d.Pre.length cP, .slice aW d.Wr.length cW, .slice aR d.Rd.length cR, .slice aS d.Sp.length cS] 62)) := (Below.refl _ w).alloc (Nat.le_refl _) _
  have HE : Hid _ := hend
  clear hend
  by_cases b1 : bigL d.Arcs = true
  · rw [b1] at HA
    clear hbig
    go_enter Yba.func12, Yba.ntmps12
    go_wp2_with fail
    refine (HA _).mono ?_
    rintro e w1 ⟨rfl, rfl⟩
    go_wp2
    exact bodyPost_ret (v := .tuple #[.pointer none, .int .i64 0, .slice none 0 0, .bool false]) (by simp [results, Yba.results12, go_sem]) rfl ⟨rfl, HE.out⟩
  have c1 : bigL d.Arcs = false := by simpa using b1
  rw [c1] at HA hbig
  clear b1 c1
  by_cases b2 : bigL d.Inf = true
  · rw [b2] at HI
    clear hbig
    go_enter Yba.func12, Yba.ntmps12
    go_wp2_with fail
    refine (HA _).mono ?_
    rintro e w1 ⟨rfl, rfl⟩
    go_wp2_with fail
    refine (HI _).mono ?_
    rintro e w1 ⟨rfl, rfl⟩
    go_wp2
    exact bodyPost_ret (v := .tuple #[.pointer none, .int .i64 0, .slice none 0 0, .bool false]) (by simp [results, Yba.results12, go_sem]) rfl ⟨rfl, HE.out⟩
  have c2 : bigL d.Inf = false := by simpa using b2
  rw [c2] at HI hbig
  clear b2 c2
  by_cases b3 : bigL d.Pre = true
  · rw [b3] at HP
    clear hbig
    go_enter Yba.func12, Yba.ntmps12
    go_wp2_with fail
    refine (HA _).mono ?_
    rintro e w1 ⟨rfl, rfl⟩
    go_wp2_with fail
    refine (HI _).mono ?_
    rintro e w1 ⟨rfl, rfl⟩
    go_wp2_with fail
    refine (HP _).mono ?_
    rintro e w1 ⟨rfl, rfl⟩
    go_wp2
    exact bodyPost_ret (v := .tuple #[.pointer none, .int .i64 0, .slice none 0 0, .bool false]) (by simp [results, Yba.results12, go_sem]) rfl ⟨rfl, HE.out⟩
  have c3 : bigL d.Pre = false := by simpa using b3
  rw [c3] at HP hbig
  clear b3 c3
  by_cases b4 : bigL d.Wr = true
  · rw [b4] at HW
    clear hbig
    go_enter Yba.func12, Yba.ntmps12
    go_wp2_with fail
    refine (HA _).mono ?_
    rintro e w1 ⟨rfl, rfl⟩
    go_wp2_with fail
    refine (HI _).mono ?_
    rintro e w1 ⟨rfl, rfl⟩
    go_wp2_with fail
    refine (HP _).mono ?_
    rintro e w1 ⟨rfl, rfl⟩
    go_wp2_with fail
    refine (HW _).mono ?_
    rintro e w1 ⟨rfl, rfl⟩
    go_wp2
    exact bodyPost_ret (v := .tuple #[.pointer none, .int .i64 0, .slice none 0 0, .bool false]) (by simp [results, Yba.results12, go_sem]) rfl ⟨rfl, HE.out⟩
  have c4 : bigL d.Wr = false := by simpa using b4
  rw [c4] at HW hbig
  clear b4 c4
  by_cases b5 : bigL d.Rd = true
  · rw [b5] at HR
    clear hbig
    go_enter Yba.func12, Yba.ntmps12
    go_wp2_with fail
    refine (HA _).mono ?_
    rintro e w1 ⟨rfl, rfl⟩
    go_wp2_with fail
    refine (HI _).mono ?_
    rintro e w1 ⟨rfl, rfl⟩
    go_wp2_with fail
    refine (HP _).mono ?_
    rintro e w1 ⟨rfl, rfl⟩
    go_wp2_with fail
    refine (HW _).mono ?_
    rintro e w1 ⟨rfl, rfl⟩
    go_wp2_with fail
    refine (HR _).mono ?_
    rintro e w1 ⟨rfl, rfl⟩
    go_wp2
    exact bodyPost_ret (v := .tuple #[.pointer none, .int .i64 0, .slice none 0 0, .bool false]) (by simp [results, Yba.results12, go_sem]) rfl ⟨rfl, HE.out⟩
  have c5 : bigL d.Rd = false := by simpa using b5
  rw [c5] at HR hbig
  clear b5 c5
  have hS : 1024 < d.Sp.length := by simpa using hbig
  have hS' : (1024 : Int) < (d.Sp.length : Int) := by omega
  clear hbig
  have h4 := h.lS
  unfold maxLen at h4
  go_enter Yba.func12, Yba.ntmps12
  go_wp2_with fail
  refine (HA _).mono ?_
  rintro e w1 ⟨rfl, rfl⟩
  go_wp2_with fail
  refine (HI _).mono ?_
  rintro e w1 ⟨rfl, rfl⟩
  go_wp2_with fail
  refine (HP _).mono ?_
  rintro e w1 ⟨rfl, rfl⟩
  go_wp2_with fail
  refine (HW _).mono ?_
  rintro e w1 ⟨rfl, rfl⟩
  go_wp2_with fail
  refine (HR _).mono ?_
  rintro e w1 ⟨rfl, rfl⟩
  go_wp2
  exact bodyPost_ret (v := .tuple #[.pointer none, .int .i64 0, .slice none 0 0, .bool false]) (by simp [results, Yba.results12, go_sem]) rfl ⟨rfl, HE.out⟩

end Go.Proofs.Ybulkbxog
