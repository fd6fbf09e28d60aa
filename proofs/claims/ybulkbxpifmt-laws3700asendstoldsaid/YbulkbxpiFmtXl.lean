/-
  'LawS3700ASends': behind a send that was let through.
-/
import Derived.Test.YbulkbxpiFmtXk
namespace Go.Proofs.YbulkbxpiFmt
open Go.RowKit Go.MuLone Go.Stop

/-- The 'if' whose test lies in slot k. -/
def condAt (k : Nat) : Code → Option Code
  | .seq a b => (condAt k a).orElse fun _ => condAt k b
  | .cond (.tmp j) a b => if j = k then some (.cond (.tmp j) a b) else (condAt k a).orElse fun _ => condAt k b
  | .block _ c => condAt k c
  | .loop c => condAt k c
  | _ => none

set_option maxRecDepth 1000000 in
set_option maxHeartbeats 4000000 in
theorem else_c {c0 c1 c2 c3 c4 c5 c6 c7 c8 c10 c13 c16 c17 c20 c21 c22 c23 c24 c27 c28 c29 c30 c31 c32 c33 c34 c35 c36 c37 c38 c39 c40 c41 c42 c43 c44 c45 c46 c47 c48 c49 c50 c51 c52 c53 c54 c55 c56 c57 c58 c59 c60 c61 c62 c63 c64 c65 c66 c67 c68 c69 c70 c71 c72 c73 c74 c75 c76 c77 c78 c79 c80 c81 c82 c83 c84 c85 c86 c87 c88 c89 c90 c91 c92 c93 c94 c95 c96 c97 c98 c99 c100 c101 c102 c103 c104 c105 c106 c107 c108 c109 c110 c111 c112 c113 c114 c115 c116 c117 c118 c119 c120 c121 c122 c123 c124 c125 c126 c127 c128 c129 c130 c131 c132 c133 c134 c136 c137 c138 c139 c140 c141 c142 c143 c144 c145 c146 c147 c148 c149 c150 c151 c152 c153 c154 c155 c156 c157 c158 c159 c160 c161 c162 c163 c164 c165 c166 c167 c168 c169 c170 c171 c172 c173 c174 c175 c176 c177 c178 c179 c180 c181 c182 c183 c184 c185 c186 c187 c188 c189 c190 c191 c192 c193 c194 c195 c196 c197 c198 c199 c200 c201 c202 c203 c204 c205 c206 c207 c208 c209 c210 c211 c212 c213 c214 c215 c216 c217 c218 c219 c220 c221 c222 c223 c224 c225 c226 c227 c228 c229 c230 c231 c232 c233 c234 c235 c236 c237 c238 c239 c240 c241 c242 c243 c244 c245 c246 c247 c248 c249 c250 c251 c252 c253 c254 c255 c256 c257 c258 c259 c260 c261 c262 c263 c264 c265 c266 c267 c268 c269 c270 c271 c272 c273 c274 c275 c276 c277 c278 c279 c280 c281 c282 c283 c284 c285 c286 c287 c288 c289 c290 c291 c292 c293 c294 c295 c296 c297 c298 c299 c300 c301 c302 c303 c304 c305 c306 c307 c308 c309 c310 c311 : Value} {Q : Exit → Act → World → Prop} {i : Ids} {n me : Nat} {w : World} {tb lb tob ixb bx cnt : Nat} {td : List Int} {ow : Value} {ps ks : List Nat} {r : List Int} {w0 wc : World} {A' m' U' T2' cT' r' L' : Nat} {ow' : Value}
    (hn6 : 1 ≤ n ∧ n ≤ 6) (hmn : me < n) (hl256 : r.length ≤ 256) (hksl : ks.length = r.length) (hk7 : ∀ x ∈ ks, x ≤ n) (hgood : okSend n me ks) (hcn : cnt ≤ 256)
    (I5 : Inv i n me w tb lb w0 cnt td ow ps) (HCP : Hid (cnt = ps.length)) (howl : ∀ g', ow.ownBlock = some g' → g' < tob) (htn : tob ∉ i.listA) (hxn : ixb ∉ i.listA) (HTI : Hid (ixb = tob + 1)) (hll : lb < tob)
    (hAt : AtS w0 tob ks) (hAi : AtI w0 ixb ks) (S : Sent i n me w0 wc cnt td ow ps ks A' m' U' T2' cT' r' L' ow') (hbx : wc.heap[bx]? = some (.cells #[.int .u64 ((cnt : Int) + 1), .string (nmA me), .map (some A'), .map (some m')] 38))
    (hQ : ∀ (gO cO : Nat) {d6 d27 d28 d29 d31 d157 d158 d159 d160 d161 d162 d163 d164 d165 d166 d167 d168 d169 d170 d171 d172 d173 d174 d175 d176 d177 d178 d179 d180 d181 d182 d183 d184 d185 d186 d187 d188 d189 d190 d191 d192 d193 d194 d195 d196 d197 d198 d199 d200 d201 d202 d203 d204 d205 d206 d207 d208 d209 d210 d211 d212 d213 d214 d215 d216 d217 d218 d219 d220 d221 d222 d223 d224 d225 d226 d227 d228 d229 d230 d231 d232 d233 d234 d235 d236 d237 d238 d239 d240 d241 d242 d243 d244 d245 d246 d247 d248 d249 d250 d251 d252 d253 d254 d255 d256 d257 d258 d259 d260 d261 d262 d263 d264 d265 d266 d267 d268 d269 d270 d271 d272 d273 d274 d275 d276 d277 d278 d279 d280 d281 d282 d283 d284 d285 d286 : Value} {wz : World}, Inv i n me w tb lb wz (cnt + 1) (tdSet td ks ((cnt : Int) + 1)) (.slice (some ⟨gO, 0, none⟩) (cnt + 1) cO) (ps ++ [U']) → Q .normal { tmps := List.toArray (c0 :: c1 :: c2 :: c3 :: c4 :: c5 :: d6 :: c7 :: c8 :: .slice (some ⟨tb, 0, none⟩) 7 7 :: c10 :: .int .i64 (me : Int) :: .pointer (some ⟨i.D, 0, none⟩) :: c13 :: .slice (some ⟨lb, 0, none⟩) n n :: .int .u64 ((cnt : Int) + 1) :: c16 :: c17 :: .slice (some ⟨tob, 0, none⟩) r.length r.length :: .slice (some ⟨ixb, 0, none⟩) r.length r.length :: c20 :: c21 :: c22 :: c23 :: c24 :: .pointer (some ⟨bx, 0, none⟩) :: .nilIface :: d27 :: d28 :: d29 :: c30 :: d31 :: c32 :: c33 :: c34 :: c35 :: c36 :: c37 :: c38 :: c39 :: c40 :: c41 :: c42 :: c43 :: c44 :: c45 :: c46 :: c47 :: c48 :: c49 :: c50 :: c51 :: c52 :: c53 :: c54 :: c55 :: c56 :: c57 :: c58 :: c59 :: c60 :: c61 :: c62 :: c63 :: c64 :: c65 :: c66 :: c67 :: c68 :: c69 :: c70 :: c71 :: c72 :: c73 :: c74 :: c75 :: c76 :: c77 :: c78 :: c79 :: c80 :: c81 :: c82 :: c83 :: c84 :: c85 :: c86 :: c87 :: c88 :: c89 :: c90 :: c91 :: c92 :: c93 :: c94 :: c95 :: c96 :: c97 :: c98 :: c99 :: c100 :: c101 :: c102 :: c103 :: c104 :: c105 :: c106 :: c107 :: c108 :: c109 :: c110 :: c111 :: c112 :: c113 :: c114 :: c115 :: c116 :: c117 :: c118 :: c119 :: c120 :: c121 :: c122 :: c123 :: c124 :: c125 :: c126 :: c127 :: c128 :: c129 :: c130 :: c131 :: c132 :: c133 :: c134 :: .bool false :: c136 :: c137 :: c138 :: c139 :: c140 :: c141 :: c142 :: c143 :: c144 :: c145 :: c146 :: c147 :: c148 :: c149 :: c150 :: c151 :: c152 :: c153 :: c154 :: c155 :: c156 :: d157 :: d158 :: d159 :: d160 :: d161 :: d162 :: d163 :: d164 :: d165 :: d166 :: d167 :: d168 :: d169 :: d170 :: d171 :: d172 :: d173 :: d174 :: d175 :: d176 :: d177 :: d178 :: d179 :: d180 :: d181 :: d182 :: d183 :: d184 :: d185 :: d186 :: d187 :: d188 :: d189 :: d190 :: d191 :: d192 :: d193 :: d194 :: d195 :: d196 :: d197 :: d198 :: d199 :: d200 :: d201 :: d202 :: d203 :: d204 :: d205 :: d206 :: d207 :: d208 :: d209 :: d210 :: d211 :: d212 :: d213 :: d214 :: d215 :: d216 :: d217 :: d218 :: d219 :: d220 :: d221 :: d222 :: d223 :: d224 :: d225 :: d226 :: d227 :: d228 :: d229 :: d230 :: d231 :: d232 :: d233 :: d234 :: d235 :: d236 :: d237 :: d238 :: d239 :: d240 :: d241 :: d242 :: d243 :: d244 :: d245 :: d246 :: d247 :: d248 :: d249 :: d250 :: d251 :: d252 :: d253 :: d254 :: d255 :: d256 :: d257 :: d258 :: d259 :: d260 :: d261 :: d262 :: d263 :: d264 :: d265 :: d266 :: d267 :: d268 :: d269 :: d270 :: d271 :: d272 :: d273 :: d274 :: d275 :: d276 :: d277 :: d278 :: d279 :: d280 :: d281 :: d282 :: d283 :: d284 :: d285 :: d286 :: c287 :: c288 :: c289 :: c290 :: c291 :: c292 :: c293 :: c294 :: c295 :: c296 :: c297 :: c298 :: c299 :: c300 :: c301 :: c302 :: c303 :: c304 :: c305 :: c306 :: c307 :: c308 :: c309 :: c310 :: c311 :: []), defers := [] } wz) :
    Code.wp Ybaf.prog ((Ybaf.f3.body.bind (condAt 135)).getD .skip) Q { tmps := List.toArray (c0 :: c1 :: c2 :: c3 :: c4 :: c5 :: c6 :: c7 :: c8 :: .slice (some ⟨tb, 0, none⟩) 7 7 :: c10 :: .int .i64 (me : Int) :: .pointer (some ⟨i.D, 0, none⟩) :: c13 :: .slice (some ⟨lb, 0, none⟩) n n :: .int .u64 (cnt : Int) :: c16 :: c17 :: .slice (some ⟨tob, 0, none⟩) r.length r.length :: .slice (some ⟨ixb, 0, none⟩) r.length r.length :: c20 :: c21 :: c22 :: c23 :: c24 :: .pointer (some ⟨bx, 0, none⟩) :: .nilIface :: c27 :: c28 :: c29 :: c30 :: c31 :: c32 :: c33 :: c34 :: c35 :: c36 :: c37 :: c38 :: c39 :: c40 :: c41 :: c42 :: c43 :: c44 :: c45 :: c46 :: c47 :: c48 :: c49 :: c50 :: c51 :: c52 :: c53 :: c54 :: c55 :: c56 :: c57 :: c58 :: c59 :: c60 :: c61 :: c62 :: c63 :: c64 :: c65 :: c66 :: c67 :: c68 :: c69 :: c70 :: c71 :: c72 :: c73 :: c74 :: c75 :: c76 :: c77 :: c78 :: c79 :: c80 :: c81 :: c82 :: c83 :: c84 :: c85 :: c86 :: c87 :: c88 :: c89 :: c90 :: c91 :: c92 :: c93 :: c94 :: c95 :: c96 :: c97 :: c98 :: c99 :: c100 :: c101 :: c102 :: c103 :: c104 :: c105 :: c106 :: c107 :: c108 :: c109 :: c110 :: c111 :: c112 :: c113 :: c114 :: c115 :: c116 :: c117 :: c118 :: c119 :: c120 :: c121 :: c122 :: c123 :: c124 :: c125 :: c126 :: c127 :: c128 :: c129 :: c130 :: c131 :: c132 :: c133 :: c134 :: .bool false :: c136 :: c137 :: c138 :: c139 :: c140 :: c141 :: c142 :: c143 :: c144 :: c145 :: c146 :: c147 :: c148 :: c149 :: c150 :: c151 :: c152 :: c153 :: c154 :: c155 :: c156 :: c157 :: c158 :: c159 :: c160 :: c161 :: c162 :: c163 :: c164 :: c165 :: c166 :: c167 :: c168 :: c169 :: c170 :: c171 :: c172 :: c173 :: c174 :: c175 :: c176 :: c177 :: c178 :: c179 :: c180 :: c181 :: c182 :: c183 :: c184 :: c185 :: c186 :: c187 :: c188 :: c189 :: c190 :: c191 :: c192 :: c193 :: c194 :: c195 :: c196 :: c197 :: c198 :: c199 :: c200 :: c201 :: c202 :: c203 :: c204 :: c205 :: c206 :: c207 :: c208 :: c209 :: c210 :: c211 :: c212 :: c213 :: c214 :: c215 :: c216 :: c217 :: c218 :: c219 :: c220 :: c221 :: c222 :: c223 :: c224 :: c225 :: c226 :: c227 :: c228 :: c229 :: c230 :: c231 :: c232 :: c233 :: c234 :: c235 :: c236 :: c237 :: c238 :: c239 :: c240 :: c241 :: c242 :: c243 :: c244 :: c245 :: c246 :: c247 :: c248 :: c249 :: c250 :: c251 :: c252 :: c253 :: c254 :: c255 :: c256 :: c257 :: c258 :: c259 :: c260 :: c261 :: c262 :: c263 :: c264 :: c265 :: c266 :: c267 :: c268 :: c269 :: c270 :: c271 :: c272 :: c273 :: c274 :: c275 :: c276 :: c277 :: c278 :: c279 :: c280 :: c281 :: c282 :: c283 :: c284 :: c285 :: c286 :: c287 :: c288 :: c289 :: c290 :: c291 :: c292 :: c293 :: c294 :: c295 :: c296 :: c297 :: c298 :: c299 :: c300 :: c301 :: c302 :: c303 :: c304 :: c305 :: c306 :: c307 :: c308 :: c309 :: c310 :: c311 :: []), defers := [] } wc := by
  conv => arg 2; whnf
  have hkn : ∀ x ∈ ks, x < n := fun x hx => by
    have h1 := hk7 x hx
    have h2 : x ≠ n := fun e => hgood.2 (e ▸ hx)
    omega
  have hnt : tob ∉ i.D :: i.C :: i.Td :: ow.ownBlock.toList := fun e => by
    simp only [List.mem_cons] at e
    rcases e with e | e | e | e
    · exact htn (by simp [e])
    · exact htn (by simp [e])
    · exact htn (by simp [e])
    · have := howl tob (by simpa using e); omega
  have hnx : ixb ∉ i.D :: i.C :: i.Td :: ow.ownBlock.toList := fun e => by
    have := HTI.out
    simp only [List.mem_cons] at e
    rcases e with e | e | e | e
    · exact hxn (by simp [e])
    · exact hxn (by simp [e])
    · exact hxn (by simp [e])
    · have := howl ixb (by simpa using e); omega
  obtain ⟨KS, hlb1, hT1, hob1, hpl1, htl1, hll1⟩ := I5.sent S
  have hrow : wc.ownsRow 0 60 1 ow' (ps.length + 1) ((ps ++ [U']).map fun p => Value.pointer (some ⟨p, 0, none⟩)) := by have h := S.o.row; rw [List.length_append] at h; exact h
  rw [← HCP.out] at hrow
  obtain ⟨gO, cO, rfl, hgO⟩ := own_form hrow
  have Af : Aft i n me _ wc cnt td ow ps ks A' m' U' T2' cT' r' L' gO cO tb lb tob ixb bx := ⟨S, hbx, hT1, hlb1, hAt.kp S.kp hnt, hAi.kp S.kp hnx, hrow⟩
  have b0 := cell_at (i := 0) (v := .int .u64 ((cnt : Int) + 1)) hbx rfl
  have b1 := cell_at (i := 1) (v := .string (nmA me)) hbx rfl
  have tM := hT1 me me (by rw [List.getElem?_range (by omega)])
  have dm0 : (0 : Int) ≤ (me : Int) := by omega
  have dm1 : (me : Int) < 7 := by omega
  go_upto_region 46 with fail
  go_region_held3 (fun w' => w'.cell? ⟨bx, 0, none⟩ = some (.int .u64 ((cnt : Int) + 1)) ∧ w'.cell? ⟨bx, 1, none⟩ = some (.string (nmA me)) ∧ w'.cell? ⟨tb, me, none⟩ = some (.string (nmA me))) (simp [*]) (fail)
  have kd1 : Kp [] wc wc.drew := (Kp.refl [] wc).drew
  clear b0 b1 tM
  generalize wc.drew = wd at kd1 ⊢
  have Ad := Af.kp0 kd1
  have b2 := cell_at (i := 2) (v := .map (some A')) Ad.b rfl
  have b3 := cell_at (i := 3) (v := .map (some m')) Ad.b rfl
  have hlA : ∀ ty, (Builtin.len_ #[35] ty #[.map (some A')]).run Ybaf.prog wd = .ok (.int .i64 0) wd := fun ty => by
    rw [run_len_map _ 35 ty A' _ _ Ybaf.underlying35 Ad.s.a]; rfl
  have hlm : ∀ ty, (Builtin.len_ #[36] ty #[.map (some m')]).run Ybaf.prog wd = .ok (.int .i64 1) wd := fun ty => by
    rw [run_len_map _ 36 ty m' _ _ Ybaf.underlying36 Ad.s.m]; rfl
  have tM := Ad.tt me me (by rw [List.getElem?_range (by omega)])
  have hbq : (nmA me == nmA me) = true := by rw [nmA_beq me (by omega) me (by omega)]; simp
  have hlk := run_look_hit (w := wd.drew) 36 9 31 Ybaf.underlying36 Ybaf.underlying9 Ad.s.m (nmA me) 0 (.int .u64 0) (by simp [Instr.findNow, Instr.sameNow, hbq]) true
  simp only [if_true] at hlk
  go_upto_region 50 with fail
  go_region_held3 (fun w' => w'.cell? ⟨bx, 3, none⟩ = some (.map (some m')) ∧ w'.cell? ⟨tb, me, none⟩ = some (.string (nmA me))) (simp [*]) (fail)
  clear hlA hlm hlk b2 b3 tM hbq
  have kd2 : Kp [] wd wd.drew := (Kp.refl [] wd).drew
  generalize wd.drew = we at kd2 ⊢
  have Ae := Ad.kp0 kd2
  have d8 := cell_at (i := 8) (v := .slice (some ⟨gO, 0, none⟩) (cnt + 1) cO) Ae.s.v.d rfl
  have d2 := cell_at (i := 2) (v := .pointer (some ⟨i.C, 0, none⟩)) Ae.s.v.d rfl
  have hfd := field34A
  go_upto_region 55 with (first | (go_at_call 8; refine (now_c i.C (nmA me) ((cnt : Int) + 1) _ Ae.s.v.c).mono ?_; rintro e wf ⟨rfl, k6⟩))
  as_aux_lemma =>
    clear d8 d2
    have Ag := Ae.kp0 k6
    have g8 := cell_at (i := 8) (v := .slice (some ⟨gO, 0, none⟩) (cnt + 1) cO) Ag.s.v.d rfl
    have uo : wf.cell? ⟨gO, cnt, none⟩ = some (.pointer (some ⟨U', 0, none⟩)) := own_cell Ag.row (by rw [HCP.out]; simp)
    have dc0 : (0 : Int) ≤ (cnt : Int) := by omega
    have dc1 : (cnt : Int) < ((cnt + 1 : Nat) : Int) := by omega
    go_upto_region 56 with fail
    clear uo g8
    have x0 := cell_at (i := 0) (v := .int .u64 ((cnt : Int) + 1)) Ag.s.u rfl
    have x1 := cell_at (i := 1) (v := .string (nmA me)) Ag.s.u rfl
    have x2 := cell_at (i := 2) (v := .slice (some ⟨T2', 0, none⟩) ks.length cT') Ag.s.u rfl
    have x3 := cell_at (i := 3) (v := .slice (some ⟨r', 0, none⟩) ks.length ks.length) Ag.s.u rfl
    have b0 := cell_at (i := 0) (v := .int .u64 ((cnt : Int) + 1)) Ag.b rfl
    have b1 := cell_at (i := 1) (v := .string (nmA me)) Ag.b rfl
    rw [hksl] at x2 x3
    have hEs : ∀ W, Kp [] wf W → Calls Ybaf.prog 9 #[.slice (some ⟨T2', 0, none⟩) r.length cT', .slice (some ⟨tob, 0, none⟩) r.length r.length] W fun e w' => e = .returned (.bool true) ∧ Kp [] W w' := fun W kW => by
      have h := eqs_c W T2' tob cT' r.length ks (by omega) (Ag.s.tto.kp kW (by simp)) (Ag.at'.kp kW (by simp))
      rw [hksl] at h
      exact h
    have hEi : ∀ W, Kp [] wf W → Calls Ybaf.prog 10 #[.slice (some ⟨r', 0, none⟩) r.length r.length, .slice (some ⟨ixb, 0, none⟩) r.length r.length] W fun e w' => e = .returned (.bool true) ∧ Kp [] W w' := fun W kW => by
      have h := eqi_c W r' ixb r.length r.length ks (by omega) (Ag.s.rr.kp kW (by simp)) (Ag.ix.kp kW (by simp))
      rw [hksl] at h
      exact h
    go_region_held3 (fun w' => w'.cell? ⟨U', 0, none⟩ = some (.int .u64 ((cnt : Int) + 1)) ∧ w'.cell? ⟨U', 1, none⟩ = some (.string (nmA me)) ∧ w'.cell? ⟨U', 2, none⟩ = some (.slice (some ⟨T2', 0, none⟩) r.length cT') ∧ w'.cell? ⟨U', 3, none⟩ = some (.slice (some ⟨r', 0, none⟩) r.length r.length) ∧ w'.cell? ⟨bx, 0, none⟩ = some (.int .u64 ((cnt : Int) + 1)) ∧ w'.cell? ⟨bx, 1, none⟩ = some (.string (nmA me))) (simp [*])
      (first | (go_at_call 9; refine (hEs _ (Kp.refl [] wf).drew).mono ?_; rintro e wE ⟨rfl, kE⟩; have KE : Kp [] wf wE := (Kp.refl [] wf).drew.trans kE; have y0 := cell_kept KE (by simp) x0; have y1 := cell_kept KE (by simp) x1; have y2 := cell_kept KE (by simp) x2; have y3 := cell_kept KE (by simp) x3; have a0 := cell_kept KE (by simp) b0; have a1 := cell_kept KE (by simp) b1) | (go_at_call 10; refine (hEi _ KE).mono ?_; rintro e wG ⟨rfl, kG⟩; have KG : Kp [] wf wG := KE.trans kG; have z0 := cell_kept KG (by simp) x0; have z1 := cell_kept KG (by simp) x1; have z2 := cell_kept KG (by simp) x2; have z3 := cell_kept KG (by simp) x3; have c0 := cell_kept KG (by simp) b0; have c1 := cell_kept KG (by simp) b1))
    have Ah := Ag.kp0 KG
    clear x0 x1 x2 x3 b0 b1 y0 y1 y2 y3 a0 a1 z0 z1 z2 z3 c0 c1 hEs hEi
    as_aux_lemma =>
      have u4 := cell_at (i := 4) (v := .map (some L')) Ah.s.u rfl
      have u7 := cell_at (i := 7) (v := .int .i64 0) Ah.s.u rfl
      have hlL : ∀ ty, (Builtin.len_ #[61] ty #[.map (some L')]).run Ybaf.prog wG = .ok (.int .i64 (r.length : Int)) wG := fun ty => by
        rw [run_len_map _ 61 ty L' _ _ Ybaf.underlying61 Ah.s.l]
        simp [goInt, entI_len, hksl]
      have hUl : U' ≠ lb := by have := S.hU; omega
      have hLl : L' ≠ lb := fun e => by have h1 := Ah.s.l; rw [e, Ah.lb] at h1; cases h1
      have hil : ixb ≠ lb := by have := HTI.out; omega
      have htl' : td.length = n := I5.v.tl
      have ec : ((cnt + 1 : Nat) : Int) = (cnt : Int) + 1 := by omega
      have EC : Hid (((cnt + 1 : Nat) : Int) = (cnt : Int) + 1) := ec
      clear ec
      go_wp2_with fail
      clear u4 u7 hlL
      go_loopw [271] (fun vj wz => ∃ j : Nat, j ≤ r.length ∧ vj = .int .i64 j ∧ Kp [lb] wG wz ∧ wz.heap[lb]? = some (.cells (rowU (tdSet td (ks.take j) ((cnt : Int) + 1))) 31)) (fun vj _ => r.length - (intOf vj).toNat)
      case atStart => exact ⟨0, Nat.zero_le _, rfl, Kp.refl _ wG, Ah.lb⟩
      case round =>
        obtain ⟨j, hj, rfl, kr, hlr⟩ := hrel
        by_cases hjl : j < r.length
        · obtain ⟨x, hx⟩ : ∃ x, ks[j]? = some x := ⟨ks[j]'(by omega), by simp⟩
          have hxn := hkn x (List.mem_of_getElem? hx)
          have q1 := (Ah.ix.kp kr (by simpa using hil)) j x hx
          have q4 := cell_at (i := 4) (v := .map (some L')) (kr.heap Ah.s.u (by simpa using hUl)) rfl
          obtain ⟨pp, hpf⟩ := findI_hit (fun _ => .bool true) x ks (List.mem_of_getElem? hx) 0 0
          have hlk := run_lookI_hit (P := Ybaf.prog) Ybaf.underlying61 Ybaf.underlying3 (kr.heap Ah.s.l (by simpa using hLl)) (x : Int) pp (.bool true) hpf false
          simp only [Bool.false_eq_true, if_false] at hlk
          have lenT := tdSet_len td (ks.take j) ((cnt : Int) + 1)
          obtain ⟨y, hy⟩ : ∃ y, (tdSet td (ks.take j) ((cnt : Int) + 1))[x]? = some y := ⟨_, List.getElem?_eq_getElem (by omega)⟩
          have tk := rowU_get hlr hy
          have ft := frozen_at (i := x) hlr
          have dx0 : (0 : Int) ≤ (x : Int) := by omega
          have dx1 : (x : Int) < n := by omega
          have HX : Hid (ks[j]? = some x) := hx
          have hT2 : (wr.setCell ⟨lb, x, none⟩ (.int .u64 ((cnt : Int) + 1))).heap[lb]? = some (.cells (rowU (tdSet td (ks.take (j + 1)) ((cnt : Int) + 1))) 31) := by
            refine (heap_set (i := x) (.int .u64 ((cnt : Int) + 1)) hlr).trans ?_
            rw [take_succ' HX, tdSet_snoc, rowU, rowU]
            simp [List.map_set]
          clear hx hpf hy lenT
          go_wp2
          go_roundw
          case rel => exact ⟨j + 1, by omega, by go_num, kr.set (a := ⟨lb, x, none⟩) (.inl (by simp)) _, hT2⟩
          case measure => simp [intOf]; omega
        · have hje : j = r.length := by omega
          have hkt : ks.take j = ks := by rw [hje, ← hksl, List.take_length]
          rw [hkt] at hlr
          clear hkt hje
          go_wp2_with fail
          have nlb : ∀ b' ∈ i.listA, b' ∉ [lb] := fun b' hb' e => by simp at e; exact I5.nl (e ▸ hb')
          have Kw : Kp [] w wG := (((KS.trans kd1).trans kd2).trans k6).trans KG
          have hv : SrvA i n me wr 0 ((cnt + 1 : Nat) : Int) (tdSet td ks ((cnt : Int) + 1)) (.slice (some ⟨gO, 0, none⟩) (cnt + 1) cO) := by rw [EC.out]; exact Ah.s.v.kp kr nlb
          apply hQ gO cO
          exact ⟨Kw.trans3 kr (by simp; exact I5.bl), hv, Ah.s.o.kp' kr (fun g' hg' e => by simp at e; exact (hob1 g' hg').2.1 e) (fun p' hp' e => by simp at e; exact hpl1 p' hp' e), by rw [List.length_append, ← HCP.out]; rfl, hlr, Ah.tt.kp kr (by simpa using I5.ntl), I5.nl, I5.nt, I5.ntl, hob1, hpl1, I5.il, I5.bl⟩

end Go.Proofs.YbulkbxpiFmt
