/-
  Law C's road: 'zzs3698cbuild' from the choice of u on: the model, and the search.
-/
import Derived.Test.YbulkbxogCj
import Derived.Deep.DeepCutAuto
namespace Go.Proofs.Ybulkbxog
open Go.RowKit

theorem own_cap {w : World} {n cp : Nat} {e : TypeId} {ao : Option Addr} {xs : List Value} (h : w.ownsRow 0 e 1 (.slice ao n cp) n xs) : n ≤ cp ∧ cp ≤ maxLen := by
  rcases h.2 with ⟨h', h0⟩ | ⟨g, cap, cur, h', _, _, h1, h2, _⟩
  · simp at h'; subst h0; exact ⟨Nat.zero_le _, by rw [h'.2.2]; exact Nat.zero_le _⟩
  · simp at h'; obtain ⟨rfl, rfl⟩ := h'; exact ⟨h1, h2⟩

theorem own_next {w w' : World} {B n m cp cp0 n0 : Nat} {ao ao0 : Option Addr} {xs : List Value} (hown : w'.ownsRow 0 3 1 (.slice ao m cp) n xs) (hat : blk ao = (Value.slice ao0 n0 cp0).ownBlock ∨ blk ao = some w.heap.size) (hB : B ≤ w.heap.size) (h0 : ∀ g, blk ao0 = some g → B ≤ g) :
    ∀ g, blk ao = some g → B ≤ g ∧ g < w'.heap.size := by
  intro g hg
  refine ⟨?_, (hown.lt g (by rw [ownBlock_slice]; exact hg)).2⟩
  rcases hat with h | h
  · exact h0 g (by rw [← ownBlock_slice ao0 n0 cp0, ← h]; exact hg)
  · rw [h] at hg; simp at hg; omega

theorem step_app {P : Program} (w : World) {ops : Array Oper} {o : Oper} {a : Act} {K : Act → World → Prop} {Q : Exit → Act → World → Prop} {E : Prop} (hgd : o.guard = none) (s x : Operand) (t : TypeId)
    (ho : o.op = .call { callee := .builtin .append, args := #[s, x], argTypes := #[t, t] })
    (base : Nat) (e : TypeId) (i : TypeInfo) (z : Value) (bytes : Nat) (ht : P.underlying t = some (.slice e)) (hi : P.info? e = some i) (hz : i.zero = some z)
    (hsize : i.size = 1) (hby : i.bytes = bytes) (hzs : z.cells.size = 1) (k : IntKind)
    (v : Value) (n : Nat) (xs : List Int) (hs : a.eval s = v) (hown : w.ownsRow base e 1 v n (xs.map (Value.int k)))
    (ao : Option Addr) (m c : Nat) (ys : List Int) (hx : a.eval x = .slice ao m c) (hm : ys.length = m) (hsrc : IRow w k ao ys) (hnil : ao = none → c = 0)
    (h63 : n + m ≤ maxLen) (hbytes : (n + m) * bytes ≤ 140737488355328) (hbase : base ≤ w.heap.size)
    (h : ∀ ao' cap' w', w'.ownsRow base e 1 (.slice ao' (n + m) cap') (n + m) ((xs ++ ys).map (Value.int k)) → w.grownBy w' v.ownBlock → (blk ao' = v.ownBlock ∨ blk ao' = some w.heap.size) → (ao' = none → cap' = 0 ∧ v = .slice none 0 0) → K (a.put o.dst (.slice ao' (n + m) cap')) w') :
    if Region.wanted o (yielded ops a.tmps) = true then Oper.wp P o a w K Q else E := by
  have hw : Region.wanted o (yielded ops a.tmps) = true := by simp [Region.wanted, hgd]
  rw [if_pos hw]
  exact wp_app w s x t ho base e i z bytes ht hi hz hsize hby hzs k v n xs hs hown ao m c ys hx hm hsrc hnil h63 hbytes hbase h

set_option maxRecDepth 1000000 in
set_option maxHeartbeats 2000000 in
theorem tail33A (c0 c2 c3 c4 c5 c12 c14 c16 c17 c19 c20 c21 c22 c23 c24 c25 c26 c27 c28 c29 c30 c31 c32 c33 c34 c35 c36 c37 c38 c39 c40 c41 c42 c43 c44 c45 c46 c47 c48 c49 c50 c51 c52 c53 c54 c55 c56 c57 c58 c59 c60 c61 c62 c63 c64 c65 c66 c67 c68 c69 c70 c71 c72 c73 c74 c75 c76 c77 c78 c79 c80 c81 c82 c83 c84 c85 c86 c87 c88 c89 c90 c91 c92 c93 c94 c95 c96 c97 c98 c99 c100 c101 c102 c103 c104 c105 c106 c107 c108 c109 c110 c111 c112 c113 c114 c115 c116 c117 c118 c119 c120 c121 c122 c123 c124 c125 c126 c127 c128 c129 c130 c131 c132 c133 c134 c135 c136 c137 c138 c139 c140 c141 c142 c143 c144 c145 c146 c147 c148 c149 c150 c151 c152 c153 c154 c155 c156 c157 c158 c159 c160 c161 c162 c163 c164 c165 c166 c167 c168 c169 c170 c171 c172 c173 c174 c175 c176 c177 c178 c179 c180 c181 c182 c183 c184 c185 c186 c187 c188 c189 c190 c191 c192 c193 c194 c195 c196 c197 c198 c199 c200 c201 c202 c203 c204 c205 c206 c207 c208 c209 c210 c211 c212 c213 c214 c215 c216 c217 c218 c219 c220 c221 c222 c223 c224 c225 c226 c227 c228 c229 c230 c231 c232 c233 c234 c235 c236 c237 c238 c239 c240 c241 c242 c243 c244 c245 c246 c247 c248 c249 c250 c251 c252 c253 c254 c255 c256 c257 c258 c259 c260 c261 : Value) (B n m gs cs ga ca bi bf bw bs br L u : Nat) (U : Int) (st al : List Int) (w : World) (R : Ending → World → Prop) (hn1 : 1 ≤ n) (hn : n ≤ 8) (hm1 : 1 ≤ m) (hm : m ≤ 8) (hU0 : 0 ≤ U) (hU1 : U ≤ 255) (hu : U % ((n : Int) + (m : Int)) = u) (hbox : w.cell? ⟨B, 2, none⟩ = some (.int .u8 U)) (hnu : n ≤ u) (aw : Option Addr) (kw : Nat) (model : List Int) (hcw : w.cell? ⟨bw, u - n, none⟩ = some (.slice aw model.length kw)) (hrw : IRow w .i64 aw model) (hzw : aw = none → kw = 0) (hlw : model.length ≤ 1024)
    (K : Act → World → Prop) (hK : ∀ a w, Code.wp Yba.prog (seqSnd ((Yba.f12.body.bind (fromRegion 33)).getD .skip)) (bodyPost Yba.prog Yba.f12 R) a w → K a w)
    (hR : ∀ (am : Option Addr) (cm : Nat) (sb : Nat) (pa : Option Addr) (pc : Nat) (wz : World), Below w.heap.size w wz → IRow wz .i64 am model → model.length ≤ cm → cm ≤ maxLen → wz.cell? ⟨sb, 0, none⟩ = some (.slice (some ⟨gs, 0, none⟩) st.length cs) → wz.cell? ⟨sb, 1, none⟩ = some (.slice (some ⟨ga, 0, none⟩) al.length ca) → wz.cell? ⟨sb, 2, none⟩ = some (.slice (some ⟨bs, 0, none⟩) L L) →
      wz.cell? ⟨sb, 4, none⟩ = some (.slice (some ⟨bw, 0, none⟩) m m) → wz.cell? ⟨sb, 7, none⟩ = some (.slice (some ⟨br, 0, none⟩) n n) → wz.cell? ⟨sb, 12, none⟩ = some (.slice pa n pc) → wz.cell? ⟨sb, 46, none⟩ = some (.slice (some ⟨bi, 0, none⟩) n n) → wz.cell? ⟨sb, 48, none⟩ = some (.slice (some ⟨bf, 0, none⟩) n n) →
      R (.returned (.tuple #[.pointer (some ⟨sb, 0, none⟩), .int .i64 u, .slice am model.length cm, .bool true])) wz) :
    Code.wp Yba.prog (seqFst ((Yba.f12.body.bind (fromRegion 33)).getD .skip)) (Exit.then K (bodyPost Yba.prog Yba.f12 R)) { tmps := List.toArray (c0 :: .pointer (some ⟨B, 0, none⟩) :: c2 :: c3 :: c4 :: c5 :: .int .i64 n :: .int .i64 m :: .slice (some ⟨gs, 0, none⟩) st.length cs :: .slice (some ⟨ga, 0, none⟩) al.length ca :: .slice (some ⟨bi, 0, none⟩) n n :: .slice (some ⟨bf, 0, none⟩) n n :: c12 :: .slice (some ⟨bw, 0, none⟩) m m :: c14 :: .slice (some ⟨bs, 0, none⟩) L L :: c16 :: c17 :: .slice (some ⟨br, 0, none⟩) n n :: c19 :: c20 :: c21 :: c22 :: c23 :: c24 :: c25 :: c26 :: c27 :: c28 :: c29 :: c30 :: c31 :: c32 :: c33 :: c34 :: c35 :: c36 :: c37 :: c38 :: c39 :: c40 :: c41 :: c42 :: c43 :: c44 :: c45 :: c46 :: c47 :: c48 :: c49 :: c50 :: c51 :: c52 :: c53 :: c54 :: c55 :: c56 :: c57 :: c58 :: c59 :: c60 :: c61 :: c62 :: c63 :: c64 :: c65 :: c66 :: c67 :: c68 :: c69 :: c70 :: c71 :: c72 :: c73 :: c74 :: c75 :: c76 :: c77 :: c78 :: c79 :: c80 :: c81 :: c82 :: c83 :: c84 :: c85 :: c86 :: c87 :: c88 :: c89 :: c90 :: c91 :: c92 :: c93 :: c94 :: c95 :: c96 :: c97 :: c98 :: c99 :: c100 :: c101 :: c102 :: c103 :: c104 :: c105 :: c106 :: c107 :: c108 :: c109 :: c110 :: c111 :: c112 :: c113 :: c114 :: c115 :: c116 :: c117 :: c118 :: c119 :: c120 :: c121 :: c122 :: c123 :: c124 :: c125 :: c126 :: c127 :: c128 :: c129 :: c130 :: c131 :: c132 :: c133 :: c134 :: c135 :: c136 :: c137 :: c138 :: c139 :: c140 :: c141 :: c142 :: c143 :: c144 :: c145 :: c146 :: c147 :: c148 :: c149 :: c150 :: c151 :: c152 :: c153 :: c154 :: c155 :: c156 :: c157 :: c158 :: c159 :: c160 :: c161 :: c162 :: c163 :: c164 :: c165 :: c166 :: c167 :: c168 :: c169 :: c170 :: c171 :: c172 :: c173 :: c174 :: c175 :: c176 :: c177 :: c178 :: c179 :: c180 :: c181 :: c182 :: c183 :: c184 :: c185 :: c186 :: c187 :: c188 :: c189 :: c190 :: c191 :: c192 :: c193 :: c194 :: c195 :: c196 :: c197 :: c198 :: c199 :: c200 :: c201 :: c202 :: c203 :: c204 :: c205 :: c206 :: c207 :: c208 :: c209 :: c210 :: c211 :: c212 :: c213 :: c214 :: c215 :: c216 :: c217 :: c218 :: c219 :: c220 :: c221 :: c222 :: c223 :: c224 :: c225 :: c226 :: c227 :: c228 :: c229 :: c230 :: c231 :: c232 :: c233 :: c234 :: c235 :: c236 :: c237 :: c238 :: c239 :: c240 :: c241 :: c242 :: c243 :: c244 :: c245 :: c246 :: c247 :: c248 :: c249 :: c250 :: c251 :: c252 :: c253 :: c254 :: c255 :: c256 :: c257 :: c258 :: c259 :: c260 :: c261 :: []), defers := [] } w := by
  conv => arg 2; whnf
  conv at hK => enter [a, w, 1, 2]; whnf
  obtain ⟨i0, hi0, hz0, hz1, hz2⟩ := info_parts Yba.info3
  have hum : (u : Int) < n + m := by rw [← hu]; exact Int.emod_lt_of_pos _ (by omega)
  have hum2 : (u : Int) - n < m := by omega
  have hnu' : (n : Int) ≤ u := by omega
  have hnud : decide ((n : Int) ≤ u) = true := by simp; omega
  have hgw : bw < w.heap.size := World.block_lt_of_cell? w _ hcw
  have O0 : (w.alloc (.cells #[] 3)).ownsRow 0 3 1 (.slice (some ⟨w.heap.size, 0, none⟩) 0 0) 0 (([] : List Int).map (Value.int .i64)) :=
    ⟨rfl, .inr ⟨w.heap.size, 0, #[], rfl, Nat.zero_le _, heap_alloc_new w _, by simp, by simp [maxLen], rfl, rfl⟩⟩
  go_upto_region 45 with (at_builtin; refine wpList_app _ rfl (.tmp 168) (.tmp 174) 25 rfl 0 3 i0 (.int .i64 0) 8 Yba.underlying25 hi0 hz0 hz1 hz2 rfl .i64 (.slice (some ⟨w.heap.size, 0, none⟩) 0 0) 0 [] rfl O0 aw model.length kw model rfl rfl (hrw.alloc _) hzw (by unfold maxLen; omega) (by omega) (Nat.zero_le _) ?_; intro ao2 cp2 w2 hown2 hgrow2 hat2 _)
  have hB : Below w.heap.size w w2 := ((Below.refl _ w).alloc (Nat.le_refl _) _).grown hgrow2 (by simp) (fun k e => by cases e; exact Nat.le_refl _)
  refine tail45 _ _ _ _ _ _ _ _ _ _ _ _ _ _ _ _ _ _ _ _ _ _ _ _ _ _ _ _ _ _ _ _ _ _ _ _ _ _ _ _ _ _ _ _ _ _ _ _ _ _ _ _ _ _ _ _ _ _ _ _ _ _ _ _ _ _ _ _ _ _ _ _ _ _ _ _ _ _ _ _ _ _ _ _ _ _ _ _ _ _ _ _ _ _ _ _ _ _ _ _ _ _ _ _ _ _ _ _ _ _ _ _ _ _ _ _ _ _ _ _ _ _ _ _ _ _ _ _ _ _ _ _ _ _ _ _ _ _ _ _ _ _ _ _ _ _ _ _ _ _ _ _ _ _ _ _ _ _ _ _ _ _ _ _ _ _ _ _ _ _ _ _ _ _ _ _ _ _ _ _ _ _ _ _ _ _ _ _ _ _ _ _ _ _ _ _ _ _ _ _ _ _ _ _ _ _ _ _ _ _ _ _ _ _ _ _ _ _ _ _ _ _ _ _ _ _ _ _ _ _ _ _ _ _ _ _ _ _ _ _ _ _ _ _ _ _ _ _ _ _ _ _ n u _ _ _ _ _ _ _ ao2 _ _ _ _ _ _ _ model.length _ _ _ _ _ _ _ cp2 w2 R hn _ (by assumption) ?_
  intro pa pc wz hBz e0 e1 e2 e4 e7 e12 e46 e48
  have := hR ao2 cp2 w2.heap.size pa pc wz (hB.trans (hBz.mono hB.size)) ((IRow.ofOwns (xs := model) hown2).below hBz) (by simpa using (own_cap hown2).1) (own_cap hown2).2 e0 e1 e2 e4 e7 e12 e46 e48
  exact this

set_option maxRecDepth 1000000 in
set_option maxHeartbeats 4000000 in
theorem tail33B (c0 c2 c3 c4 c5 c12 c14 c16 c17 c19 c20 c21 c22 c23 c24 c25 c26 c27 c28 c29 c30 c31 c32 c33 c34 c35 c36 c37 c38 c39 c40 c41 c42 c43 c44 c45 c46 c47 c48 c49 c50 c51 c52 c53 c54 c55 c56 c57 c58 c59 c60 c61 c62 c63 c64 c65 c66 c67 c68 c69 c70 c71 c72 c73 c74 c75 c76 c77 c78 c79 c80 c81 c82 c83 c84 c85 c86 c87 c88 c89 c90 c91 c92 c93 c94 c95 c96 c97 c98 c99 c100 c101 c102 c103 c104 c105 c106 c107 c108 c109 c110 c111 c112 c113 c114 c115 c116 c117 c118 c119 c120 c121 c122 c123 c124 c125 c126 c127 c128 c129 c130 c131 c132 c133 c134 c135 c136 c137 c138 c139 c140 c141 c142 c143 c144 c145 c146 c147 c148 c149 c150 c151 c152 c153 c154 c155 c156 c157 c158 c159 c160 c161 c162 c163 c164 c165 c166 c167 c168 c169 c170 c171 c172 c173 c174 c175 c176 c177 c178 c179 c180 c181 c182 c183 c184 c185 c186 c187 c188 c189 c190 c191 c192 c193 c194 c195 c196 c197 c198 c199 c200 c201 c202 c203 c204 c205 c206 c207 c208 c209 c210 c211 c212 c213 c214 c215 c216 c217 c218 c219 c220 c221 c222 c223 c224 c225 c226 c227 c228 c229 c230 c231 c232 c233 c234 c235 c236 c237 c238 c239 c240 c241 c242 c243 c244 c245 c246 c247 c248 c249 c250 c251 c252 c253 c254 c255 c256 c257 c258 c259 c260 c261 : Value) (B n m gs cs ga ca bi bf bw bs br L u : Nat) (U : Int) (st al : List Int) (w : World) (R : Ending → World → Prop) (hn1 : 1 ≤ n) (hn : n ≤ 8) (hm1 : 1 ≤ m) (hm : m ≤ 8) (hU0 : 0 ≤ U) (hU1 : U ≤ 255) (hu : U % ((n : Int) + (m : Int)) = u) (hbox : w.cell? ⟨B, 2, none⟩ = some (.int .u8 U)) (hnu : u < n) (lo hi : Nat) (hst : IRow w .i64 (some ⟨gs, 0, none⟩) st) (hal : IRow w .i64 (some ⟨ga, 0, none⟩) al) (hlst : st.length = n + 1) (hlo : st[u]? = some (lo : Int)) (hhi : st[u+1]? = some (hi : Int)) (hlh : lo ≤ hi) (hha : hi ≤ al.length) (hca : al.length ≤ ca) (hcm : ca ≤ maxLen) (hla : al.length ≤ 10000)
    (aI aP aR : Option Addr) (kI kP kR : Nat) (xI xP xR sp : List Int) (hcI : w.cell? ⟨bi, u, none⟩ = some (.slice aI xI.length kI)) (hcP : w.cell? ⟨bf, u, none⟩ = some (.slice aP xP.length kP)) (hcR : w.cell? ⟨br, u, none⟩ = some (.slice aR xR.length kR))
    (hrI : IRow w .i64 aI xI) (hrP : IRow w .i64 aP xP) (hrR : IRow w .i64 aR xR) (hzI : aI = none → kI = 0) (hzP : aP = none → kP = 0) (hlI : xI.length ≤ 1024) (hlP : xP.length ≤ 1024) (hlR : xR.length ≤ 1024)
    (hLs : sp.length = L) (_hL : L ≤ 1024) (hxR : ∀ x ∈ xR, 0 ≤ x ∧ x < L) (hsp : ∀ j x, sp[j]? = some x → w.cell? ⟨bs, j * 3 + 2, none⟩ = some (.int .i64 x)) (hsz : ∀ x ∈ sp, 0 ≤ x ∧ x ≤ 8) (model : List Int) (hmod : model = nodeModel n ((al.drop lo).take (hi - lo)) xI xP xR sp)
    (K : Act → World → Prop) (hK : ∀ a w, Code.wp Yba.prog (seqSnd ((Yba.f12.body.bind (fromRegion 33)).getD .skip)) (bodyPost Yba.prog Yba.f12 R) a w → K a w)
    (hR : ∀ (am : Option Addr) (cm : Nat) (sb : Nat) (pa : Option Addr) (pc : Nat) (wz : World), Below w.heap.size w wz → IRow wz .i64 am model → model.length ≤ cm → cm ≤ maxLen → wz.cell? ⟨sb, 0, none⟩ = some (.slice (some ⟨gs, 0, none⟩) st.length cs) → wz.cell? ⟨sb, 1, none⟩ = some (.slice (some ⟨ga, 0, none⟩) al.length ca) → wz.cell? ⟨sb, 2, none⟩ = some (.slice (some ⟨bs, 0, none⟩) L L) →
      wz.cell? ⟨sb, 4, none⟩ = some (.slice (some ⟨bw, 0, none⟩) m m) → wz.cell? ⟨sb, 7, none⟩ = some (.slice (some ⟨br, 0, none⟩) n n) → wz.cell? ⟨sb, 12, none⟩ = some (.slice pa n pc) → wz.cell? ⟨sb, 46, none⟩ = some (.slice (some ⟨bi, 0, none⟩) n n) → wz.cell? ⟨sb, 48, none⟩ = some (.slice (some ⟨bf, 0, none⟩) n n) →
      R (.returned (.tuple #[.pointer (some ⟨sb, 0, none⟩), .int .i64 u, .slice am model.length cm, .bool true])) wz) :
    Code.wp Yba.prog (seqFst ((Yba.f12.body.bind (fromRegion 33)).getD .skip)) (Exit.then K (bodyPost Yba.prog Yba.f12 R)) { tmps := List.toArray (c0 :: .pointer (some ⟨B, 0, none⟩) :: c2 :: c3 :: c4 :: c5 :: .int .i64 n :: .int .i64 m :: .slice (some ⟨gs, 0, none⟩) st.length cs :: .slice (some ⟨ga, 0, none⟩) al.length ca :: .slice (some ⟨bi, 0, none⟩) n n :: .slice (some ⟨bf, 0, none⟩) n n :: c12 :: .slice (some ⟨bw, 0, none⟩) m m :: c14 :: .slice (some ⟨bs, 0, none⟩) L L :: c16 :: c17 :: .slice (some ⟨br, 0, none⟩) n n :: c19 :: c20 :: c21 :: c22 :: c23 :: c24 :: c25 :: c26 :: c27 :: c28 :: c29 :: c30 :: c31 :: c32 :: c33 :: c34 :: c35 :: c36 :: c37 :: c38 :: c39 :: c40 :: c41 :: c42 :: c43 :: c44 :: c45 :: c46 :: c47 :: c48 :: c49 :: c50 :: c51 :: c52 :: c53 :: c54 :: c55 :: c56 :: c57 :: c58 :: c59 :: c60 :: c61 :: c62 :: c63 :: c64 :: c65 :: c66 :: c67 :: c68 :: c69 :: c70 :: c71 :: c72 :: c73 :: c74 :: c75 :: c76 :: c77 :: c78 :: c79 :: c80 :: c81 :: c82 :: c83 :: c84 :: c85 :: c86 :: c87 :: c88 :: c89 :: c90 :: c91 :: c92 :: c93 :: c94 :: c95 :: c96 :: c97 :: c98 :: c99 :: c100 :: c101 :: c102 :: c103 :: c104 :: c105 :: c106 :: c107 :: c108 :: c109 :: c110 :: c111 :: c112 :: c113 :: c114 :: c115 :: c116 :: c117 :: c118 :: c119 :: c120 :: c121 :: c122 :: c123 :: c124 :: c125 :: c126 :: c127 :: c128 :: c129 :: c130 :: c131 :: c132 :: c133 :: c134 :: c135 :: c136 :: c137 :: c138 :: c139 :: c140 :: c141 :: c142 :: c143 :: c144 :: c145 :: c146 :: c147 :: c148 :: c149 :: c150 :: c151 :: c152 :: c153 :: c154 :: c155 :: c156 :: c157 :: c158 :: c159 :: c160 :: c161 :: c162 :: c163 :: c164 :: c165 :: c166 :: c167 :: c168 :: c169 :: c170 :: c171 :: c172 :: c173 :: c174 :: c175 :: c176 :: c177 :: c178 :: c179 :: c180 :: c181 :: c182 :: c183 :: c184 :: c185 :: c186 :: c187 :: c188 :: c189 :: c190 :: c191 :: c192 :: c193 :: c194 :: c195 :: c196 :: c197 :: c198 :: c199 :: c200 :: c201 :: c202 :: c203 :: c204 :: c205 :: c206 :: c207 :: c208 :: c209 :: c210 :: c211 :: c212 :: c213 :: c214 :: c215 :: c216 :: c217 :: c218 :: c219 :: c220 :: c221 :: c222 :: c223 :: c224 :: c225 :: c226 :: c227 :: c228 :: c229 :: c230 :: c231 :: c232 :: c233 :: c234 :: c235 :: c236 :: c237 :: c238 :: c239 :: c240 :: c241 :: c242 :: c243 :: c244 :: c245 :: c246 :: c247 :: c248 :: c249 :: c250 :: c251 :: c252 :: c253 :: c254 :: c255 :: c256 :: c257 :: c258 :: c259 :: c260 :: c261 :: []), defers := [] } w := by
  conv => arg 2; whnf
  conv at hK => enter [a, w, 1, 2]; whnf
  obtain ⟨i0, hi0, hz0, hz1, hz2⟩ := info_parts Yba.info3
  have hnu' : (u : Int) < n := by omega
  have hnud : decide ((n : Int) ≤ u) = false := by simp; omega
  have hgI : bi < w.heap.size := World.block_lt_of_cell? w _ hcI
  have hgP : bf < w.heap.size := World.block_lt_of_cell? w _ hcP
  have hgR : br < w.heap.size := World.block_lt_of_cell? w _ hcR
  have O0 : (w.alloc (.cells #[] 3)).ownsRow 0 3 1 (.slice (some ⟨w.heap.size, 0, none⟩) 0 0) 0 (([] : List Int).map (Value.int .i64)) :=
    ⟨rfl, .inr ⟨w.heap.size, 0, #[], rfl, Nat.zero_le _, heap_alloc_new w _, by simp, by simp [maxLen], rfl, rfl⟩⟩
  obtain ⟨g, o, hgo, hc⟩ := hst.at (by omega)
  simp at hgo
  obtain ⟨rfl, rfl⟩ := hgo
  have c1 := hc u (by omega)
  have c2 := hc (u + 1) (by omega)
  rw [hlo] at c1
  rw [hhi] at c2
  simp only [Nat.zero_add, Option.getD_some] at c1 c2
  have hgl : gs < w.heap.size := World.block_lt_of_cell? w _ c1
  have e0 : (0 : Int) ≤ u := by omega
  have e1 : (u : Int) < st.length := by omega
  have e2 : (u : Int) + 1 < st.length := by omega
  have e2' : (0 : Int) ≤ (u : Int) + 1 := by omega
  have e3 : (lo : Int) ≤ hi := by omega
  have e4 : (hi : Int) ≤ ca := by omega
  have e5 : (0 : Int) ≤ lo := by omega
  have e6 : IntKind.i64.wrap ((u : Int) + 1) = (u : Int) + 1 := by rw [IntKind.wrap_i64]; omega
  unfold maxLen at hcm
  clear hc hlo hhi hlst
  obtain ⟨ax, hax, hrx⟩ : ∃ ax, (if ca = lo then some (⟨ga, 0, none⟩ : Addr) else some ⟨ga, lo, none⟩) = some ax ∧ IRow w .i64 (some ax) ((al.drop lo).take (hi - lo)) := by
    by_cases h : ca = lo
    · refine ⟨⟨ga, 0, none⟩, by rw [if_pos h], ?_⟩
      have : hi - lo = 0 := by omega
      rw [this]; exact IRow.nil _ _ _
    · refine ⟨⟨ga, lo, none⟩, by rw [if_neg h], ?_⟩
      have := hal.sub lo (hi - lo)
      rwa [Nat.zero_add] at this
  have hxl : ((al.drop lo).take (hi - lo)).length = hi - lo := by simp; omega
  generalize hX : (al.drop lo).take (hi - lo) = X at hrx hxl hmod
  have HXl : Hid (X.length = hi - lo) := hxl
  clear hxl hX hal
  have d1 : ((w.alloc (.cells #[] 3)).drew).cell? ⟨gs, u, none⟩ = some (.int .i64 lo) := (World.cell?_alloc_past _ _ _ hgl).trans c1
  have d2 : ((w.alloc (.cells #[] 3)).drew).cell? ⟨gs, u + 1, none⟩ = some (.int .i64 hi) := (World.cell?_alloc_past _ _ _ hgl).trans c2
  have d3 : some gs ≠ (Value.slice (some ⟨w.heap.size, 0, none⟩) 0 0).ownBlock := by simp [Value.ownBlock]; omega
  go_upto_region 37 with fail
  go_region_held3 (fun w' => w'.cell? ⟨gs, u, none⟩ = some (.int .i64 lo) ∧ w'.cell? ⟨gs, u + 1, none⟩ = some (.int .i64 hi)) (go_keep)
    ((refine step_app _ rfl (.tmp 176) (.tmp 187) 25 rfl 0 3 i0 (.int .i64 0) 8 Yba.underlying25 hi0 hz0 hz1 hz2 rfl .i64 (.slice (some ⟨w.heap.size, 0, none⟩) 0 0) 0 [] (by rfl) O0 (some ax) (hi - lo) _ X (by simp [Act.eval]; rfl) HXl.out (hrx.alloc _) (by simp) (by unfold maxLen; omega) (by omega) (Nat.zero_le _) ?_; intro ao2 cp2 w2 hown2 hgrow2 hat2 _; have p1 : w2.cell? ⟨gs, u, none⟩ = some (.int .i64 lo) := hgrow2.cell d1 d3; have p2 : w2.cell? ⟨gs, u + 1, none⟩ = some (.int .i64 hi) := hgrow2.cell d2 d3))
  have B2 : Below w.heap.size w w2 := (((Below.refl _ w).alloc (Nat.le_refl _) _).drew).grown hgrow2 (by simp) (fun k e => by cases e; exact Nat.le_refl _)
  have hI2 := (B2.cell (p := ⟨bi, u, none⟩) hgI).trans hcI
  have ow2 : ∀ g, blk ao2 = some g → w.heap.size ≤ g ∧ g < w2.heap.size := fun g hg => ⟨by
    have : (some w.heap.size = some g) ∨ (some (w.heap.size + 1) = some g) := by rcases hat2 with h | h; (· left; rw [← hg, h]; rfl); (· right; rw [← hg, h]; simp)
    rcases this with h | h <;> simp at h <;> omega, (hown2.lt g (by rw [ownBlock_slice]; exact hg)).2⟩
  have own2 : w2.ownsRow 0 3 1 (.slice ao2 (hi - lo) cp2) (hi - lo) (X.map (Value.int .i64)) := by simpa using hown2
  clear hgrow2 hat2 d1 d2 d3 hown2
  have hun : U % ((n : Int) + (m : Int)) = u := hu
  go_upto_region 40 with (first
    | (at_builtin; refine wpList_app _ rfl (.tmp 189) (.tmp 193) 25 rfl 0 3 i0 (.int .i64 0) 8 Yba.underlying25 hi0 hz0 hz1 hz2 rfl .i64 (.slice ao2 (hi - lo) cp2) (hi - lo) X rfl own2 aI xI.length kI xI rfl rfl (hrI.below B2) hzI (by unfold maxLen; omega) (by omega) (Nat.zero_le _) ?_; intro ao3 cp3 w3 own3 hgrow3 hat3 _; have B3 : Below w.heap.size w w3 := B2.grown hgrow3 B2.size (fun k e => (ow2 k (by rw [← ownBlock_slice]; exact e)).1); have hP3 := (B3.cell (p := ⟨bf, u, none⟩) hgP).trans hcP; have ow3 := own_next own3 hat3 B2.size (fun k e => (ow2 k e).1))
    | (at_builtin; refine wpList_app _ rfl (.tmp 195) (.tmp 199) 25 rfl 0 3 i0 (.int .i64 0) 8 Yba.underlying25 hi0 hz0 hz1 hz2 rfl .i64 (.slice ao3 (hi - lo + xI.length) cp3) (hi - lo + xI.length) (X ++ xI) rfl own3 aP xP.length kP xP rfl rfl (hrP.below B3) hzP (by unfold maxLen; omega) (by omega) (Nat.zero_le _) ?_; intro ao4 cp4 w4 own4 hgrow4 hat4 _; have B4 : Below w.heap.size w w4 := B3.grown hgrow4 B3.size (fun k e => (ow3 k (by rw [← ownBlock_slice]; exact e)).1); have hR4 := (B4.cell (p := ⟨br, u, none⟩) hgR).trans hcR; have ow4 := own_next own4 hat4 B3.size (fun k e => (ow3 k e).1)))
  clear hgrow3 hat3 hgrow4 hat4 own2 own3 hP3 hI2 B2 B3 ow2 ow3
  go_wp2
  have Hm : Hid (model = (X ++ xI ++ xP) ++ xR.map fun i => (n : Int) + (sp[i.toNat]?.getD 0)) := by unfold Hid; rw [hmod]; simp [nodeModel]
  have hbd : hi - lo + xI.length + xP.length ≤ 13000 := by omega
  have HN0 : Hid ((X ++ xI ++ xP).length = hi - lo + xI.length + xP.length) := by unfold Hid; rw [List.length_append, List.length_append, HXl.out]
  generalize hi - lo + xI.length + xP.length = n0 at own4 hbd HN0 ⊢
  generalize X ++ xI ++ xP = Y at own4 HN0 Hm
  clear hR4 hmod
  go_loopw [21, 23, 206] (fun mv _ i wr => ∃ (k : Nat) (ao : Option Addr) (cp : Nat), k ≤ xR.length ∧ i = .int .i64 k ∧ mv = .slice ao (n0 + k) cp ∧ wr.ownsRow 0 3 1 (.slice ao (n0 + k) cp) (n0 + k) ((Y ++ (xR.take k).map fun i => (n : Int) + (sp[i.toNat]?.getD 0)).map (Value.int .i64)) ∧ Below w.heap.size w wr ∧ (∀ g, blk ao = some g → w.heap.size ≤ g ∧ g < wr.heap.size)) (fun _ _ i _ => xR.length - (intOf i).toNat)
  case atStart => exact ⟨0, ao4, cp4, Nat.zero_le _, rfl, rfl, by simpa using own4, B4, ow4⟩
  case round =>
    clear own4 ow4 B4
    obtain ⟨k, ao, cp, hk, rfl, rfl, own, hB, how⟩ := hrel
    by_cases hlt : k < xR.length
    · obtain ⟨gx, ox, rfl, hcx⟩ := hrR.at (by omega)
      have hgx : gx < w.heap.size := World.block_lt_of_cell? w _ (hcx 0 (by omega))
      obtain ⟨i, hi'⟩ : ∃ x, xR[k]? = some x := ⟨xR[k], by simp [hlt]⟩
      obtain ⟨hi0', hi1'⟩ := hxR i (List.mem_of_getElem? hi')
      obtain ⟨j, rfl⟩ := Int.eq_ofNat_of_zero_le hi0'
      obtain ⟨x, hx⟩ : ∃ x, sp[j]? = some x := ⟨sp[j]'(by omega), by simp⟩
      have hcp := hsp j x hx
      have hgp : bs < w.heap.size := World.block_lt_of_cell? w _ hcp
      obtain ⟨hx1, hx2⟩ := hsz x (List.mem_of_getElem? hx)
      have c13 : wr.cell? ⟨gx, ox + k, none⟩ = some (.int .i64 j) := (hB.cell hgx).trans (by rw [hcx k hlt, hi']; rfl)
      have c2' : wr.cell? ⟨bs, j * 3 + 2, none⟩ = some (.int .i64 x) := (hB.cell hgp).trans hcp
      have HT : Hid (Y ++ (xR.take (k + 1)).map (fun i => (n : Int) + (sp[i.toNat]?.getD 0)) = (Y ++ (xR.take k).map fun i => (n : Int) + (sp[i.toNat]?.getD 0)) ++ [(n : Int) + x]) := by
        unfold Hid; rw [take_snoc xR k j hi', List.map_append, List.append_assoc]; simp [hx]
      have hj2 : (j : Int) < L := by omega
      have hszr := hB.size
      clear hi' hx hcp hcx hsp hsz hxR hrR
      go_wp2_with (at_builtin; refine wpList_app _ rfl (.tmp 210) (.tmp 218) 25 rfl 0 3 i0 (.int .i64 0) 8 Yba.underlying25 hi0 hz0 hz1 hz2 rfl .i64 (.slice ao (n0 + k) cp) (n0 + k) _ rfl (own.alloc _) (some ⟨wr.heap.size, 0, none⟩) 1 1 [(n : Int) + x] rfl rfl (one_row _ _ _ _) (by simp) (by unfold maxLen; omega) (by omega) (Nat.zero_le _) ?_; intro ao2 cp2 w2 own2 hgrow2 hat2 _; have B2 : Below w.heap.size w w2 := (hB.alloc hszr _).grown hgrow2 (by simp; omega) (fun k e => (how k (by rw [← ownBlock_slice]; exact e)).1); have ow2 := own_next own2 hat2 (by simp; omega) (fun k e => (how k e).1))
      go_roundw
      case rel => exact ⟨k + 1, ao2, cp2, by omega, by go_num, by rw [Nat.add_assoc], by rw [HT.out, ← Nat.add_assoc]; exact own2, B2, ow2⟩
      case measure => simp [intOf]; omega
    · have hke : k = xR.length := by omega
      subst hke
      rw [List.take_length] at own
      go_upto_region 45 with fail
      have hml : model.length = n0 + xR.length := by rw [Hm.out, List.length_append, HN0.out, List.length_map]
      refine tail45 _ _ _ _ _ _ _ _ _ _ _ _ _ _ _ _ _ _ _ _ _ _ _ _ _ _ _ _ _ _ _ _ _ _ _ _ _ _ _ _ _ _ _ _ _ _ _ _ _ _ _ _ _ _ _ _ _ _ _ _ _ _ _ _ _ _ _ _ _ _ _ _ _ _ _ _ _ _ _ _ _ _ _ _ _ _ _ _ _ _ _ _ _ _ _ _ _ _ _ _ _ _ _ _ _ _ _ _ _ _ _ _ _ _ _ _ _ _ _ _ _ _ _ _ _ _ _ _ _ _ _ _ _ _ _ _ _ _ _ _ _ _ _ _ _ _ _ _ _ _ _ _ _ _ _ _ _ _ _ _ _ _ _ _ _ _ _ _ _ _ _ _ _ _ _ _ _ _ _ _ _ _ _ _ _ _ _ _ _ _ _ _ _ _ _ _ _ _ _ _ _ _ _ _ _ _ _ _ _ _ _ _ _ _ _ _ _ _ _ _ _ _ _ _ _ _ _ _ _ _ _ _ _ _ _ _ _ _ _ _ _ _ _ _ _ _ _ _ _ _ _ _ n u _ _ _ _ _ _ _ ao _ _ _ _ _ _ _ (n0 + xR.length) _ _ _ _ _ _ _ cp wr R hn _ (by assumption) ?_
      intro pa pc wz hBz e0 e1 e2 e4 e7 e12 e46 e48
      have := hR ao cp wr.heap.size pa pc wz (hB.trans (hBz.mono hB.size)) (by rw [Hm.out]; exact (IRow.ofOwns own).below hBz) (by rw [hml]; exact (own_cap own).1) (own_cap own).2 e0 e1 e2 e4 e7 e12 e46 e48
      rwa [hml] at this

end Go.Proofs.Ybulkbxog
