/-
  Law A's names, and maps keyed by them or by numbers.
-/
import Derived.Test.YbulkbxpiFmtSa
namespace Go.Proofs.YbulkbxpiFmt
open Go.RowKit Go.MuLone

/-- The name of process k: one letter from "a" on. -/
def nmA (k : Nat) : ByteArray := ⟨#[UInt8.ofNat (97 + k)]⟩
theorem nmA_beq : ∀ k < 7, ∀ j < 7, (nmA k == nmA j) = decide (k = j) := by decide
theorem nmA_inj0 : ∀ k < 7, ∀ j < 7, nmA k = nmA j → k = j := by decide
theorem nmA_inj {k j : Nat} (hk : k < 7) (hj : j < 7) (h : nmA k = nmA j) : k = j := nmA_inj0 k hk j hj h

theorem nmA_list : ∀ k < 7, ∀ j < 7, ((nmA k).toList == (nmA j).toList) = decide (k = j) := by decide +kernel

/-- The entries of a map that was filled with the keys ks, in order, from birth b on. -/
def entS (v : Nat → Value) : Nat → List Nat → List MapEntry
  | _, [] => []
  | b, k :: ks => { key := .string (nmA k), val := v k, born := b } :: entS v (b + 1) ks
def entI (v : Nat → Value) : Nat → List Nat → List MapEntry
  | _, [] => []
  | b, k :: ks => { key := .int .i64 (k : Int), val := v k, born := b } :: entI v (b + 1) ks

theorem entS_push (v : Nat → Value) (b : Nat) (ks : List Nat) (k : Nat) : entS v b (ks ++ [k]) = entS v b ks ++ [{ key := .string (nmA k), val := v k, born := b + ks.length }] := by
  induction ks generalizing b with
  | nil => rfl
  | cons x xs ih => simp [entS, ih, Nat.add_assoc, Nat.add_comm 1]
theorem entI_push (v : Nat → Value) (b : Nat) (ks : List Nat) (k : Nat) : entI v b (ks ++ [k]) = entI v b ks ++ [{ key := .int .i64 (k : Int), val := v k, born := b + ks.length }] := by
  induction ks generalizing b with
  | nil => rfl
  | cons x xs ih => simp [entI, ih, Nat.add_assoc, Nat.add_comm 1]
theorem entI_len (v : Nat → Value) (b : Nat) (ks : List Nat) : (entI v b ks).length = ks.length := by
  induction ks generalizing b with
  | nil => rfl
  | cons x xs ih => simp [entI, ih]

theorem findS_miss (v : Nat → Value) (j : Nat) (hj : j < 7) (ks : List Nat) (hk : ∀ k ∈ ks, k < 7) (hn : j ∉ ks) (b i : Nat) : Instr.findNow .string (.string (nmA j)) (entS v b ks) i = some none := by
  induction ks generalizing b i with
  | nil => rfl
  | cons x xs ih =>
    have hx := hk x (by simp)
    have hb : (nmA j == nmA x) = false := by rw [nmA_beq j hj x hx]; simp; intro e; exact hn (by simp [e])
    simp only [entS, Instr.findNow, Instr.sameNow, hb]
    exact ih (fun k h => hk k (by simp [h])) (fun h => hn (by simp [h])) _ _
theorem findS_hit (v : Nat → Value) (j : Nat) (hj : j < 7) (ks : List Nat) (hk : ∀ k ∈ ks, k < 7) (hn : j ∈ ks) (b i : Nat) : ∃ p, Instr.findNow .string (.string (nmA j)) (entS v b ks) i = some (some (p, v j)) := by
  induction ks generalizing b i with
  | nil => simp at hn
  | cons x xs ih =>
    have hx := hk x (by simp)
    by_cases e : j = x
    · subst e
      have hb : (nmA j == nmA j) = true := by rw [nmA_beq j hj j hx]; simp
      exact ⟨i, by simp only [entS, Instr.findNow, Instr.sameNow, hb]⟩
    · have hb : (nmA j == nmA x) = false := by rw [nmA_beq j hj x hx]; simp [e]
      simp only [entS, Instr.findNow, Instr.sameNow, hb]
      exact ih (fun k h => hk k (by simp [h])) (by simpa [e] using hn) _ _
theorem findI_miss (v : Nat → Value) (j : Nat) (ks : List Nat) (hn : j ∉ ks) (b i : Nat) : Instr.findNow (.int .i64) (.int .i64 (j : Int)) (entI v b ks) i = some none := by
  induction ks generalizing b i with
  | nil => rfl
  | cons x xs ih =>
    have hb : ((j : Int) == (x : Int)) = false := by simp; intro e; exact hn (by simp; omega)
    simp only [entI, Instr.findNow, Instr.sameNow, hb]
    exact ih (fun h => hn (by simp [h])) _ _
theorem findI_hit (v : Nat → Value) (j : Nat) (ks : List Nat) (hn : j ∈ ks) (b i : Nat) : ∃ p, Instr.findNow (.int .i64) (.int .i64 (j : Int)) (entI v b ks) i = some (some (p, v j)) := by
  induction ks generalizing b i with
  | nil => simp at hn
  | cons x xs ih =>
    by_cases e : j = x
    · subst e
      exact ⟨i, by simp [entI, Instr.findNow, Instr.sameNow]⟩
    · have hb : ((j : Int) == (x : Int)) = false := by simp; omega
      simp only [entI, Instr.findNow, Instr.sameNow, hb]
      exact ih (by simpa [e] using hn) _ _

section
variable {P : Program} {w : World} {T kt et : TypeId} {r clock : Nat} {es : Array MapEntry}
theorem run_lookI_hit (hT : P.underlying T = some (.map kt et)) (hk : P.underlying kt = some (.int .i64)) (hb : w.heap[r]? = some (.map es clock)) (j : Int) (i : Nat) (v : Value)
    (hf : Instr.findNow (.int .i64) (.int .i64 j) es.toList 0 = some (some (i, v))) (ok : Bool) : (Instr.lookup T (.map (some r)) (.int .i64 j) ok).run P w = .ok (if ok then .tuple #[v, .bool true] else v) w := by
  have hc : ∀ e, (Instr.checkKey e 10000 kt (.int .i64 j)).run P w = .ok () w := fun e => MapKept.run_checkKey (k := .int .i64 j) hk (by simp [MapKept.IsKey]) e 9999
  simp [Instr.lookup, run_underlying hT, MapKept.run_getObj_map hb, hc, MapKept.run_findKey hk hf, Result.andThen]
theorem run_storeI_miss (hT : P.underlying T = some (.map kt et)) (hk : P.underlying kt = some (.int .i64)) (hb : w.heap[r]? = some (.map es clock)) (j : Int) (v : Value)
    (hf : Instr.findNow (.int .i64) (.int .i64 j) es.toList 0 = some none) : (Instr.mapUpdate T (.map (some r)) (.int .i64 j) v).run P w = .ok () (setO w r (.map (es.push { key := .int .i64 j, val := v, born := clock }) (clock + 1))) := by
  have hc : (Instr.checkKey false 10000 kt (.int .i64 j)).run P w = .ok () w := MapKept.run_checkKey (k := .int .i64 j) hk (by simp [MapKept.IsKey]) false 9999
  simp [Instr.mapUpdate, run_underlying hT, MapKept.run_getObj_map hb, hc, MapKept.run_findKey hk hf, MapKept.run_setObj_map _ hb, Result.andThen, setO]
end

theorem run_makeMapA {P : Program} (t k e : TypeId) (n : Int) (w : World) (ht : P.underlying t = some (.map k e)) : (Instr.makeMap t (some (.int .i64 n))).run P w = .ok (.map (some w.heap.size)) (w.alloc (.map #[] 0)) := by
  simp [Instr.makeMap, run_underlying ht, asInt, asIntOf]

/-- A block of names. -/
def rowS (ks : List Nat) : Array Value := (ks.map fun (k : Nat) => Value.string (nmA k)).toArray
def rowI (ks : List Nat) : Array Value := (ks.map fun (k : Nat) => Value.int .i64 (k : Int)).toArray
/-- The slice at block g begins with these names, these numbers. -/
def AtS (w : World) (g : Nat) (ks : List Nat) : Prop := ∀ (j k : Nat), ks[j]? = some k → w.cell? ⟨g, j, none⟩ = some (.string (nmA k))
def AtI (w : World) (g : Nat) (ks : List Nat) : Prop := ∀ (j k : Nat), ks[j]? = some k → w.cell? ⟨g, j, none⟩ = some (.int .i64 (k : Int))

theorem cell_kept {bs : List Nat} {w w' : World} (k : Kp bs w w') {a : Addr} {v : Value} (hn : a.block ∉ bs) (h : w.cell? a = some v) : w'.cell? a = some v := by
  have hl := World.block_lt_of_cell? w _ h
  unfold World.cell? at h ⊢
  rw [k.block _ hl hn]
  exact h
theorem AtS.kp {bs : List Nat} {w w' : World} {g : Nat} {ks : List Nat} (h : AtS w g ks) (k : Kp bs w w') (hn : g ∉ bs) : AtS w' g ks := fun j x hj => cell_kept k hn (h j x hj)
theorem AtI.kp {bs : List Nat} {w w' : World} {g : Nat} {ks : List Nat} (h : AtI w g ks) (k : Kp bs w w') (hn : g ∉ bs) : AtI w' g ks := fun j x hj => cell_kept k hn (h j x hj)

end Go.Proofs.YbulkbxpiFmt
