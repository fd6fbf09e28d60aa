/-
  Law C's road: 'zzs3698cbig' and 'zzs3698clist' over a slice of slices of bytes that came in.
-/
import Derived.Test.YbulkbxogCf
import Derived.Deep.Slices
namespace Go.Proofs.Ybulkbxog
open Go.RowKit

/-- A slice of slices of bytes in memory. -/
def RawAt (w : World) (ao : Option Addr) (rows : List (List Int)) : Prop :=
  ∀ j r, rows[j]? = some r → ∃ b o A C, ao = some ⟨b, o, none⟩ ∧ w.cell? ⟨b, o + j, none⟩ = some (.slice A r.length C) ∧ IRow w .u8 A r ∧ ∀ x ∈ r, 0 ≤ x ∧ x ≤ 255

theorem RawAt.below {w w' : World} {B : Nat} {ao : Option Addr} {rows : List (List Int)} (h : RawAt w ao rows) (hb : Below B w w') (hB : w.heap.size ≤ B) : RawAt w' ao rows := by
  intro j r hj
  obtain ⟨b, o, A, C, e, hc, hr, hx⟩ := h j r hj
  exact ⟨b, o, A, C, e, (hb.cell (Nat.lt_of_lt_of_le (World.block_lt_of_cell? w _ hc) hB)).trans hc, hr.below (hb.mono hB), hx⟩

def bigL (rows : List (List Int)) : Bool := decide (1024 < rows.length) || rows.any fun r => decide (1024 < r.length)

theorem bigL_false {rows : List (List Int)} (h : bigL rows = false) : rows.length ≤ 1024 ∧ ∀ r ∈ rows, r.length ≤ 1024 := by
  simp [bigL] at h
  exact h

theorem big_raw (ao : Option Addr) (cap : Nat) (rows : List (List Int)) (w : World) (h : RawAt w ao rows) (hl : rows.length ≤ maxLen) :
    Calls Yba.prog 27 #[.slice ao rows.length cap] w fun e w' => e = .returned (.bool (bigL rows)) ∧ w' = w := by
  by_cases h0 : rows = []
  · subst h0
    exact big_nil ao cap w
  · have hpos : 0 < rows.length := List.length_pos_iff.2 h0
    obtain ⟨b, o, _, _, rfl, _⟩ := h 0 rows[0] (by simp)
    have each : ∀ r, r < rows.length → ∃ y : Option Addr × Nat, w.cell? ⟨b, o + r, none⟩ = some (.slice y.1 ((rows.getD r []).length) y.2) := by
      intro r hr
      obtain ⟨b', o', A, C, e, hc, _⟩ := h r rows[r] (by simp)
      simp at e
      obtain ⟨rfl, rfl⟩ := e
      exact ⟨(A, C), by rw [hc]; simp [hr]⟩
    obtain ⟨f, hf⟩ := Go.Deep.choose_lt each
    refine (big_cons b o rows.length cap (fun r => (f r).1) (fun r => (rows.getD r []).length) (fun r => (f r).2) w hl hf).mono ?_
    rintro e w' ⟨rfl, rfl⟩
    refine ⟨ret_bool ?_, rfl⟩
    unfold bigOf bigL
    congr 1
    rw [Bool.eq_iff_iff]
    simp only [List.any_eq_true, List.mem_range, decide_eq_true_eq]
    constructor
    · rintro ⟨r, hr, hx⟩
      exact ⟨rows[r], List.getElem_mem hr, by simpa [hr] using hx⟩
    · rintro ⟨r, hr, hx⟩
      obtain ⟨i, hi, rfl⟩ := List.mem_iff_getElem.1 hr
      exact ⟨i, hi, by simpa [hi] using hx⟩

/-- What 'zzs3698clist(raw, i, md)' hands back, as a list. -/
def rowMod (rows : List (List Int)) (i : Nat) (md : Int) : List Int := modRow (rows[i]?.getD []) md

theorem rowMod_length (rows : List (List Int)) (i : Nat) (md : Int) (h : ∀ r ∈ rows, r.length ≤ 1024) : (rowMod rows i md).length ≤ 1024 := by
  unfold rowMod modRow
  rw [List.length_map]
  cases hr : rows[i]? with
  | none => simp
  | some r => simpa using h r (List.mem_of_getElem? hr)

theorem rowMod_range (rows : List (List Int)) (i : Nat) (md : Int) (hm : 1 ≤ md) : ∀ x ∈ rowMod rows i md, 0 ≤ x ∧ x < md := by
  intro x hx
  unfold rowMod modRow at hx
  obtain ⟨y, _, rfl⟩ := List.mem_map.1 hx
  exact ⟨Int.emod_nonneg _ (by omega), Int.emod_lt_of_pos _ (by omega)⟩

theorem fresh_blk {w' : World} {B n cp : Nat} {xs : List Value} (h : w'.ownsRow B 3 1 (.slice (some ⟨B, 0, none⟩) n cp) n xs) {g : Nat} (hg : blk (some ⟨B, 0, none⟩) = some g) : g = B ∧ g < w'.heap.size := by
  have e : B = g := by simpa [blk] using hg
  subst e
  exact ⟨rfl, (h.lt B rfl).2⟩

theorem list_raw (ao : Option Addr) (cap : Nat) (rows : List (List Int)) (i : Nat) (md : Int) (w : World) (h : RawAt w ao rows) (hb : bigL rows = false) (hmd : 1 ≤ md) (hmd2 : md ≤ 4096) :
    Calls Yba.prog 28 #[.slice ao rows.length cap, .int .i64 i, .int .i64 md] w fun e w' =>
      ∃ a c, e = .returned (.slice a (rowMod rows i md).length c) ∧ IRow w' .i64 a (rowMod rows i md) ∧ (∀ g, blk a = some g → g = w.heap.size ∧ g < w'.heap.size) ∧ (a = none → c = 0) ∧ Below w.heap.size w w' := by
  obtain ⟨hl, hr⟩ := bigL_false hb
  by_cases hi : i < rows.length
  · obtain ⟨b, o, A, C, rfl, hc, hrow, hx⟩ := h i rows[i] (by simp)
    have e : rowMod rows i md = modRow rows[i] md := by simp [rowMod, hi]
    refine (list_in b o rows.length cap i md A C rows[i] w hi (by unfold maxLen; omega) hmd hmd2 hc hrow (hr _ (List.getElem_mem hi)) hx).mono ?_
    rintro e' w' ⟨cp, rfl, hown, hbel⟩
    rw [e]
    have hml : (modRow rows[i] md).length = rows[i].length := by simp [modRow]
    rw [hml]
    exact ⟨_, cp, rfl, IRow.ofOwns hown, (fun g hg => fresh_blk hown hg), (fun h => by cases h), hbel⟩
  · have e : rowMod rows i md = [] := by simp [rowMod, modRow, List.getElem?_eq_none (by omega : rows.length ≤ i)]
    refine (list_out ao rows.length cap i md w (by omega)).mono ?_
    rintro e' w' ⟨rfl, rfl⟩
    rw [e]
    exact ⟨none, 0, rfl, IRow.nil _ _ _, fun g hg => by simp [blk] at hg, fun _ => rfl, Below.refl _ _⟩

end Go.Proofs.Ybulkbxog
