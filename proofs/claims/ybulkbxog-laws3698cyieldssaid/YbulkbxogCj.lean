/-
  Law C's road: the end of 'zzs3698cbuild': the search is laid.
-/
import Derived.Test.YbulkbxogCi
namespace Go.Proofs.Ybulkbxog
open Go.RowKit

theorem wpList_built {P : Program} {ops : Array Oper} {rest : List Oper} {o : Oper} {a : Act} {w : World} {Q : Exit → Act → World → Prop} (hg : o.guard = none) (t : TypeId) (parts : Array (Nat × Operand)) (ho : o.op = .build t parts) (cells : Array Value)
    (hf : P.built t (parts.map fun (i, x) => (i, a.eval x)).toList = some cells) (h : wpList P ops Q rest (a.put o.dst (.agg cells)) w) : wpList P ops Q (o :: rest) a w :=
  wpList_build hg t parts ho (by rw [hf]; rfl) (by rw [hf]; exact h)

theorem Yba.zero57 : (Yba.prog.built 57 []).map (fun z => (z[0]?, z[1]?, z[2]?, z[4]?, z[7]?, z[12]?, z[46]?, z[48]?)) =
    some (some (.slice none 0 0), some (.slice none 0 0), some (.slice none 0 0), some (.slice none 0 0), some (.slice none 0 0), some (.slice none 0 0), some (.slice none 0 0), some (.slice none 0 0)) := by kernel_rfl

/-- The part of a body that begins with region k. -/
def fromRegion (k : Nat) : Code → Option Code
  | .seq (.region i o b) y => if i = k then some (.seq (.region i o b) y) else fromRegion k y
  | .seq (.seq a b) y => (fromRegion k (.seq a b)).orElse fun _ => fromRegion k y
  | .seq _ y => fromRegion k y
  | _ => none

def seqFst : Code → Code
  | .seq a _ => a
  | c => c
def seqSnd : Code → Code
  | .seq _ b => b
  | c => c

set_option maxRecDepth 1000000 in
set_option maxHeartbeats 2000000 in
theorem tail45 (c0 c1 c2 c3 c4 c5 c7 c12 c14 c16 c17 c19 c22 c23 c24 c25 c26 c27 c28 c29 c30 c31 c32 c33 c34 c35 c36 c37 c38 c39 c40 c41 c42 c43 c44 c45 c46 c47 c48 c49 c50 c51 c52 c53 c54 c55 c56 c57 c58 c59 c60 c61 c62 c63 c64 c65 c66 c67 c68 c69 c70 c71 c72 c73 c74 c75 c76 c77 c78 c79 c80 c81 c82 c83 c84 c85 c86 c87 c88 c89 c90 c91 c92 c93 c94 c95 c96 c97 c98 c99 c100 c101 c102 c103 c104 c105 c106 c107 c108 c109 c110 c111 c112 c113 c114 c115 c116 c117 c118 c119 c120 c121 c122 c123 c124 c125 c126 c127 c128 c129 c130 c131 c132 c133 c134 c135 c136 c137 c138 c139 c140 c141 c142 c143 c144 c145 c146 c147 c148 c149 c150 c151 c152 c153 c154 c155 c156 c157 c158 c159 c160 c161 c162 c163 c164 c165 c166 c167 c168 c169 c170 c171 c172 c173 c174 c175 c176 c177 c178 c179 c180 c181 c182 c183 c184 c185 c186 c187 c188 c189 c190 c191 c192 c193 c194 c195 c196 c197 c198 c199 c200 c201 c202 c203 c204 c205 c206 c207 c208 c209 c210 c211 c212 c213 c214 c215 c216 c217 c218 c219 c220 c221 c222 c223 c224 c225 c226 c227 c228 c229 c230 c231 c232 c233 c234 c235 c236 c237 c238 c239 c240 c241 c242 c243 c244 c245 c246 c247 c248 c249 c250 c251 c252 c253 c254 c255 c256 c257 c258 c259 c260 c261 : Value) (n : Nat) (u : Int) (a8 a9 a10 a11 a13 a15 a18 a21 : Option Addr) (l8 l9 l10 l11 l13 l15 l18 l21 k8 k9 k10 k11 k13 k15 k18 k21 : Nat) (w : World) (R : Ending → World → Prop) (hn : n ≤ 8)
    (K : Act → World → Prop) (hK : ∀ a w, Code.wp Yba.prog (seqSnd ((Yba.f12.body.bind (fromRegion 45)).getD .skip)) (bodyPost Yba.prog Yba.f12 R) a w → K a w)
    (hR : ∀ (pa : Option Addr) (pc : Nat) (wz : World), Below w.heap.size w wz → wz.cell? ⟨w.heap.size, 0, none⟩ = some (.slice a8 l8 k8) → wz.cell? ⟨w.heap.size, 1, none⟩ = some (.slice a9 l9 k9) → wz.cell? ⟨w.heap.size, 2, none⟩ = some (.slice a15 l15 k15) →
      wz.cell? ⟨w.heap.size, 4, none⟩ = some (.slice a13 l13 k13) → wz.cell? ⟨w.heap.size, 7, none⟩ = some (.slice a18 l18 k18) → wz.cell? ⟨w.heap.size, 12, none⟩ = some (.slice pa n pc) → wz.cell? ⟨w.heap.size, 46, none⟩ = some (.slice a10 l10 k10) → wz.cell? ⟨w.heap.size, 48, none⟩ = some (.slice a11 l11 k11) →
      R (.returned (.tuple #[.pointer (some ⟨w.heap.size, 0, none⟩), .int .i64 u, .slice a21 l21 k21, .bool true])) wz) :
    Code.wp Yba.prog (seqFst ((Yba.f12.body.bind (fromRegion 45)).getD .skip)) (Exit.then K (bodyPost Yba.prog Yba.f12 R)) { tmps := List.toArray (c0 :: c1 :: c2 :: c3 :: c4 :: c5 :: .int .i64 n :: c7 :: .slice a8 l8 k8 :: .slice a9 l9 k9 :: .slice a10 l10 k10 :: .slice a11 l11 k11 :: c12 :: .slice a13 l13 k13 :: c14 :: .slice a15 l15 k15 :: c16 :: c17 :: .slice a18 l18 k18 :: c19 :: .int .i64 u :: .slice a21 l21 k21 :: c22 :: c23 :: c24 :: c25 :: c26 :: c27 :: c28 :: c29 :: c30 :: c31 :: c32 :: c33 :: c34 :: c35 :: c36 :: c37 :: c38 :: c39 :: c40 :: c41 :: c42 :: c43 :: c44 :: c45 :: c46 :: c47 :: c48 :: c49 :: c50 :: c51 :: c52 :: c53 :: c54 :: c55 :: c56 :: c57 :: c58 :: c59 :: c60 :: c61 :: c62 :: c63 :: c64 :: c65 :: c66 :: c67 :: c68 :: c69 :: c70 :: c71 :: c72 :: c73 :: c74 :: c75 :: c76 :: c77 :: c78 :: c79 :: c80 :: c81 :: c82 :: c83 :: c84 :: c85 :: c86 :: c87 :: c88 :: c89 :: c90 :: c91 :: c92 :: c93 :: c94 :: c95 :: c96 :: c97 :: c98 :: c99 :: c100 :: c101 :: c102 :: c103 :: c104 :: c105 :: c106 :: c107 :: c108 :: c109 :: c110 :: c111 :: c112 :: c113 :: c114 :: c115 :: c116 :: c117 :: c118 :: c119 :: c120 :: c121 :: c122 :: c123 :: c124 :: c125 :: c126 :: c127 :: c128 :: c129 :: c130 :: c131 :: c132 :: c133 :: c134 :: c135 :: c136 :: c137 :: c138 :: c139 :: c140 :: c141 :: c142 :: c143 :: c144 :: c145 :: c146 :: c147 :: c148 :: c149 :: c150 :: c151 :: c152 :: c153 :: c154 :: c155 :: c156 :: c157 :: c158 :: c159 :: c160 :: c161 :: c162 :: c163 :: c164 :: c165 :: c166 :: c167 :: c168 :: c169 :: c170 :: c171 :: c172 :: c173 :: c174 :: c175 :: c176 :: c177 :: c178 :: c179 :: c180 :: c181 :: c182 :: c183 :: c184 :: c185 :: c186 :: c187 :: c188 :: c189 :: c190 :: c191 :: c192 :: c193 :: c194 :: c195 :: c196 :: c197 :: c198 :: c199 :: c200 :: c201 :: c202 :: c203 :: c204 :: c205 :: c206 :: c207 :: c208 :: c209 :: c210 :: c211 :: c212 :: c213 :: c214 :: c215 :: c216 :: c217 :: c218 :: c219 :: c220 :: c221 :: c222 :: c223 :: c224 :: c225 :: c226 :: c227 :: c228 :: c229 :: c230 :: c231 :: c232 :: c233 :: c234 :: c235 :: c236 :: c237 :: c238 :: c239 :: c240 :: c241 :: c242 :: c243 :: c244 :: c245 :: c246 :: c247 :: c248 :: c249 :: c250 :: c251 :: c252 :: c253 :: c254 :: c255 :: c256 :: c257 :: c258 :: c259 :: c260 :: c261 :: []), defers := [] } w := by
  conv => arg 2; whnf
  conv at hK => enter [a, w, 1, 2]; whnf
  obtain ⟨zs, hzs, hz⟩ := Option.map_eq_some_iff.1 Yba.zero57
  simp only [Prod.mk.injEq] at hz
  obtain ⟨z0, z1, z2, z4, z7, z12, z46, z48⟩ := hz
  have HG := grow_nil n (w.alloc (.cells zs 57)) (by omega)
  go_wp2_with (refine wpList_built rfl 57 #[] rfl zs (by simpa using hzs) ?_)
  refine HG.mono ?_
  rintro e w1 ⟨pa, pc, rfl, hb⟩
  have hblk : w1.heap[w.heap.size]? = some (.cells zs 57) := (hb.block w.heap.size (by simp)).trans (heap_alloc_new w _)
  have hB : Below w.heap.size w w1 := ((Below.refl _ w).alloc (Nat.le_refl _) _).trans (hb.mono (by simp))
  have e0 : w1.cell? ⟨w.heap.size, 0, none⟩ = some (.slice none 0 0) := by rw [cell_of_row w1 w.heap.size 0 zs 57 (0, 0) hblk]; exact z0
  have f0 : w1.frozen? ⟨w.heap.size, 0, none⟩ = false := by simp [World.frozen?, hblk]
  have e1 : w1.cell? ⟨w.heap.size, 1, none⟩ = some (.slice none 0 0) := by rw [cell_of_row w1 w.heap.size 1 zs 57 (0, 0) hblk]; exact z1
  have f1 : w1.frozen? ⟨w.heap.size, 1, none⟩ = false := by simp [World.frozen?, hblk]
  have e2 : w1.cell? ⟨w.heap.size, 2, none⟩ = some (.slice none 0 0) := by rw [cell_of_row w1 w.heap.size 2 zs 57 (0, 0) hblk]; exact z2
  have f2 : w1.frozen? ⟨w.heap.size, 2, none⟩ = false := by simp [World.frozen?, hblk]
  have e4 : w1.cell? ⟨w.heap.size, 4, none⟩ = some (.slice none 0 0) := by rw [cell_of_row w1 w.heap.size 4 zs 57 (0, 0) hblk]; exact z4
  have f4 : w1.frozen? ⟨w.heap.size, 4, none⟩ = false := by simp [World.frozen?, hblk]
  have e7 : w1.cell? ⟨w.heap.size, 7, none⟩ = some (.slice none 0 0) := by rw [cell_of_row w1 w.heap.size 7 zs 57 (0, 0) hblk]; exact z7
  have f7 : w1.frozen? ⟨w.heap.size, 7, none⟩ = false := by simp [World.frozen?, hblk]
  have e12 : w1.cell? ⟨w.heap.size, 12, none⟩ = some (.slice none 0 0) := by rw [cell_of_row w1 w.heap.size 12 zs 57 (0, 0) hblk]; exact z12
  have f12 : w1.frozen? ⟨w.heap.size, 12, none⟩ = false := by simp [World.frozen?, hblk]
  have e46 : w1.cell? ⟨w.heap.size, 46, none⟩ = some (.slice none 0 0) := by rw [cell_of_row w1 w.heap.size 46 zs 57 (0, 0) hblk]; exact z46
  have f46 : w1.frozen? ⟨w.heap.size, 46, none⟩ = false := by simp [World.frozen?, hblk]
  have e48 : w1.cell? ⟨w.heap.size, 48, none⟩ = some (.slice none 0 0) := by rw [cell_of_row w1 w.heap.size 48 zs 57 (0, 0) hblk]; exact z48
  have f48 : w1.frozen? ⟨w.heap.size, 48, none⟩ = false := by simp [World.frozen?, hblk]
  clear hblk z0 z1 z2 z4 z7 z12 z46 z48 HG hb hzs
  go_wp2
  refine bodyPost_ret (v := .tuple #[.pointer (some ⟨w.heap.size, 0, none⟩), .int .i64 u, .slice a21 l21 k21, .bool true]) (by simp [results, Yba.results12, go_sem]) rfl (hR pa pc _ ?_ ?_ ?_ ?_ ?_ ?_ ?_ ?_ ?_)
  · exact ((((((((hB.setCell (p := ⟨w.heap.size, 12, none⟩) (Nat.le_refl _) _).setCell (p := ⟨w.heap.size, 0, none⟩) (Nat.le_refl _) _).setCell (p := ⟨w.heap.size, 1, none⟩) (Nat.le_refl _) _).setCell (p := ⟨w.heap.size, 46, none⟩) (Nat.le_refl _) _).setCell (p := ⟨w.heap.size, 48, none⟩) (Nat.le_refl _) _).setCell (p := ⟨w.heap.size, 4, none⟩) (Nat.le_refl _) _).setCell (p := ⟨w.heap.size, 2, none⟩) (Nat.le_refl _) _).setCell (p := ⟨w.heap.size, 7, none⟩) (Nat.le_refl _) _)
  all_goals simp [e0, e1, e2, e4, e7, e12, e46, e48, go_sem]

end Go.Proofs.Ybulkbxog
