/-
  'LawS3700ASends': a send's receivers gathered.
-/
import Derived.Test.YbulkbxpiFmtXk
namespace Go.Proofs.YbulkbxpiFmt
open Go.RowKit Go.MuLone Go.Stop

/-- Block k. -/
def blockAt (k : Nat) : Code → Option Code
  | .seq a b => (blockAt k a).orElse fun _ => blockAt k b
  | .cond _ a b => (blockAt k a).orElse fun _ => blockAt k b
  | .block j c => if j = k then some (.block j c) else blockAt k c
  | .loop c => blockAt k c
  | _ => none

set_option maxRecDepth 1000000 in
set_option maxHeartbeats 4000000 in
theorem first_c {c0 c1 c2 c3 c4 c5 c6 c7 c8 c12 c13 c14 c15 c16 c21 c22 c23 c24 c25 c26 c27 c28 c29 c30 c31 c32 c33 c34 c35 c36 c37 c38 c39 c40 c41 c42 c43 c44 c45 c46 c47 c48 c49 c50 c51 c52 c53 c54 c55 c56 c57 c58 c59 c60 c61 c62 c63 c64 c65 c66 c67 c68 c69 c70 c71 c72 c73 c74 c75 c76 c77 c78 c79 c80 c81 c82 c83 c84 c88 c89 c90 c91 c92 c93 c94 c95 c96 c97 c98 c99 c100 c101 c102 c103 c104 c105 c106 c107 c108 c109 c110 c111 c112 c113 c114 c115 c116 c117 c118 c119 c120 c121 c122 c123 c124 c125 c126 c127 c128 c129 c130 c131 c132 c133 c134 c135 c136 c137 c138 c139 c140 c141 c142 c143 c144 c145 c146 c147 c148 c149 c150 c151 c152 c153 c154 c155 c156 c157 c158 c159 c160 c161 c162 c163 c164 c165 c166 c167 c168 c169 c170 c171 c172 c173 c174 c175 c176 c177 c178 c179 c180 c181 c182 c183 c184 c185 c186 c187 c188 c189 c190 c191 c192 c193 c194 c195 c196 c197 c198 c199 c200 c201 c202 c203 c204 c205 c206 c207 c208 c209 c210 c211 c212 c213 c214 c215 c216 c217 c218 c219 c220 c221 c222 c223 c224 c225 c226 c227 c228 c229 c230 c231 c232 c233 c234 c235 c236 c237 c238 c239 c240 c241 c242 c243 c244 c245 c246 c247 c248 c249 c250 c251 c252 c253 c254 c255 c256 c257 c258 c259 c260 c261 c262 c263 c264 c265 c266 c267 c268 c269 c270 c271 c272 c273 c274 c275 c276 c277 c278 c279 c280 c281 c282 c283 c284 c285 c286 c287 c288 c289 c290 c291 c292 c293 c294 c295 c296 c297 c298 c299 c300 c301 c302 c303 c304 c305 c306 c307 c308 c309 c310 c311 : Value} {Q : Exit → Act → World → Prop} {n me : Nat} {w : World} {tb tob ixb : Nat} {ks : List Nat} {r : List Int} {w4 : World} {A : Option Addr} {C : Nat}
    (hn6 : 1 ≤ n ∧ n ≤ 6) (hl256 : r.length ≤ 256) (hksl : ks.length = r.length) (hk7 : ∀ x ∈ ks, x ≤ n)
    (HB : Hid (BRow w A r)) (HB8 : Hid (∀ x ∈ r, 0 ≤ x ∧ x ≤ 255)) (HK : Hid (∀ (j : Nat) (x : Int), r[j]? = some x → ∃ y : Nat, ks[j]? = some y ∧ x.tmod ((n : Int) + 1) = (y : Int)))
    (K4 : Kp [] w w4) (T4 : AtS w4 tb (List.range 7)) (hwt : w.heap.size ≤ tob) (hwi : w.heap.size ≤ ixb) (hti' : tob ≠ ixb) (htx : tb ≠ ixb) (htx' : tb ≠ tob)
    (hOt : w4.ownsRow 0 9 1 (.slice (some ⟨tob, 0, none⟩) 0 r.length) 0 []) (hOx : w4.ownsRow 0 3 1 (.slice (some ⟨ixb, 0, none⟩) 0 r.length) 0 [])
    (hQ : ∀ (b : Bool) {d21 d22 d23 d24 d87 d88 d89 d90 d91 d92 d93 d94 d95 d96 d97 d98 d99 d100 d101 d102 d103 d104 d105 d106 d107 d108 d109 d110 d111 d112 d113 d114 d115 d116 d117 d118 d119 d120 d121 d122 d123 d124 d125 d126 d127 : Value} {wy : World}, Kp [tob, ixb] w4 wy → AtS wy tob ks → AtI wy ixb ks → Hid (b = true ↔ okSend n me ks) → Q .normal { tmps := List.toArray (c0 :: c1 :: c2 :: c3 :: c4 :: c5 :: c6 :: c7 :: c8 :: .slice (some ⟨tb, 0, none⟩) 7 7 :: .int .i64 (n : Int) :: .int .i64 (me : Int) :: c12 :: c13 :: c14 :: c15 :: c16 :: .slice A r.length C :: .slice (some ⟨tob, 0, none⟩) r.length r.length :: .slice (some ⟨ixb, 0, none⟩) r.length r.length :: .bool b :: d21 :: d22 :: d23 :: d24 :: c25 :: c26 :: c27 :: c28 :: c29 :: c30 :: c31 :: c32 :: c33 :: c34 :: c35 :: c36 :: c37 :: c38 :: c39 :: c40 :: c41 :: c42 :: c43 :: c44 :: c45 :: c46 :: c47 :: c48 :: c49 :: c50 :: c51 :: c52 :: c53 :: c54 :: c55 :: c56 :: c57 :: c58 :: c59 :: c60 :: c61 :: c62 :: c63 :: c64 :: c65 :: c66 :: c67 :: c68 :: c69 :: c70 :: c71 :: c72 :: c73 :: c74 :: c75 :: c76 :: c77 :: c78 :: c79 :: c80 :: c81 :: c82 :: c83 :: c84 :: .slice A r.length C :: .int .i64 (r.length : Int) :: d87 :: d88 :: d89 :: d90 :: d91 :: d92 :: d93 :: d94 :: d95 :: d96 :: d97 :: d98 :: d99 :: d100 :: d101 :: d102 :: d103 :: d104 :: d105 :: d106 :: d107 :: d108 :: d109 :: d110 :: d111 :: d112 :: d113 :: d114 :: d115 :: d116 :: d117 :: d118 :: d119 :: d120 :: d121 :: d122 :: d123 :: d124 :: d125 :: d126 :: d127 :: c128 :: c129 :: c130 :: c131 :: c132 :: c133 :: c134 :: c135 :: c136 :: c137 :: c138 :: c139 :: c140 :: c141 :: c142 :: c143 :: c144 :: c145 :: c146 :: c147 :: c148 :: c149 :: c150 :: c151 :: c152 :: c153 :: c154 :: c155 :: c156 :: c157 :: c158 :: c159 :: c160 :: c161 :: c162 :: c163 :: c164 :: c165 :: c166 :: c167 :: c168 :: c169 :: c170 :: c171 :: c172 :: c173 :: c174 :: c175 :: c176 :: c177 :: c178 :: c179 :: c180 :: c181 :: c182 :: c183 :: c184 :: c185 :: c186 :: c187 :: c188 :: c189 :: c190 :: c191 :: c192 :: c193 :: c194 :: c195 :: c196 :: c197 :: c198 :: c199 :: c200 :: c201 :: c202 :: c203 :: c204 :: c205 :: c206 :: c207 :: c208 :: c209 :: c210 :: c211 :: c212 :: c213 :: c214 :: c215 :: c216 :: c217 :: c218 :: c219 :: c220 :: c221 :: c222 :: c223 :: c224 :: c225 :: c226 :: c227 :: c228 :: c229 :: c230 :: c231 :: c232 :: c233 :: c234 :: c235 :: c236 :: c237 :: c238 :: c239 :: c240 :: c241 :: c242 :: c243 :: c244 :: c245 :: c246 :: c247 :: c248 :: c249 :: c250 :: c251 :: c252 :: c253 :: c254 :: c255 :: c256 :: c257 :: c258 :: c259 :: c260 :: c261 :: c262 :: c263 :: c264 :: c265 :: c266 :: c267 :: c268 :: c269 :: c270 :: c271 :: c272 :: c273 :: c274 :: c275 :: c276 :: c277 :: c278 :: c279 :: c280 :: c281 :: c282 :: c283 :: c284 :: c285 :: c286 :: c287 :: c288 :: c289 :: c290 :: c291 :: c292 :: c293 :: c294 :: c295 :: c296 :: c297 :: c298 :: c299 :: c300 :: c301 :: c302 :: c303 :: c304 :: c305 :: c306 :: c307 :: c308 :: c309 :: c310 :: c311 :: []), defers := [] } wy) :
    Code.wp Ybaf.prog ((Ybaf.f3.body.bind (blockAt 4)).getD .skip) Q { tmps := List.toArray (c0 :: c1 :: c2 :: c3 :: c4 :: c5 :: c6 :: c7 :: c8 :: .slice (some ⟨tb, 0, none⟩) 7 7 :: .int .i64 (n : Int) :: .int .i64 (me : Int) :: c12 :: c13 :: c14 :: c15 :: c16 :: .slice A r.length C :: .slice (some ⟨tob, 0, none⟩) 0 r.length :: .slice (some ⟨ixb, 0, none⟩) 0 r.length :: .bool (decide (0 < r.length)) :: c21 :: c22 :: c23 :: c24 :: c25 :: c26 :: c27 :: c28 :: c29 :: c30 :: c31 :: c32 :: c33 :: c34 :: c35 :: c36 :: c37 :: c38 :: c39 :: c40 :: c41 :: c42 :: c43 :: c44 :: c45 :: c46 :: c47 :: c48 :: c49 :: c50 :: c51 :: c52 :: c53 :: c54 :: c55 :: c56 :: c57 :: c58 :: c59 :: c60 :: c61 :: c62 :: c63 :: c64 :: c65 :: c66 :: c67 :: c68 :: c69 :: c70 :: c71 :: c72 :: c73 :: c74 :: c75 :: c76 :: c77 :: c78 :: c79 :: c80 :: c81 :: c82 :: c83 :: c84 :: .slice A r.length C :: .int .i64 (r.length : Int) :: .int .i64 0 :: c88 :: c89 :: c90 :: c91 :: c92 :: c93 :: c94 :: c95 :: c96 :: c97 :: c98 :: c99 :: c100 :: c101 :: c102 :: c103 :: c104 :: c105 :: c106 :: c107 :: c108 :: c109 :: c110 :: c111 :: c112 :: c113 :: c114 :: c115 :: c116 :: c117 :: c118 :: c119 :: c120 :: c121 :: c122 :: c123 :: c124 :: c125 :: c126 :: c127 :: c128 :: c129 :: c130 :: c131 :: c132 :: c133 :: c134 :: c135 :: c136 :: c137 :: c138 :: c139 :: c140 :: c141 :: c142 :: c143 :: c144 :: c145 :: c146 :: c147 :: c148 :: c149 :: c150 :: c151 :: c152 :: c153 :: c154 :: c155 :: c156 :: c157 :: c158 :: c159 :: c160 :: c161 :: c162 :: c163 :: c164 :: c165 :: c166 :: c167 :: c168 :: c169 :: c170 :: c171 :: c172 :: c173 :: c174 :: c175 :: c176 :: c177 :: c178 :: c179 :: c180 :: c181 :: c182 :: c183 :: c184 :: c185 :: c186 :: c187 :: c188 :: c189 :: c190 :: c191 :: c192 :: c193 :: c194 :: c195 :: c196 :: c197 :: c198 :: c199 :: c200 :: c201 :: c202 :: c203 :: c204 :: c205 :: c206 :: c207 :: c208 :: c209 :: c210 :: c211 :: c212 :: c213 :: c214 :: c215 :: c216 :: c217 :: c218 :: c219 :: c220 :: c221 :: c222 :: c223 :: c224 :: c225 :: c226 :: c227 :: c228 :: c229 :: c230 :: c231 :: c232 :: c233 :: c234 :: c235 :: c236 :: c237 :: c238 :: c239 :: c240 :: c241 :: c242 :: c243 :: c244 :: c245 :: c246 :: c247 :: c248 :: c249 :: c250 :: c251 :: c252 :: c253 :: c254 :: c255 :: c256 :: c257 :: c258 :: c259 :: c260 :: c261 :: c262 :: c263 :: c264 :: c265 :: c266 :: c267 :: c268 :: c269 :: c270 :: c271 :: c272 :: c273 :: c274 :: c275 :: c276 :: c277 :: c278 :: c279 :: c280 :: c281 :: c282 :: c283 :: c284 :: c285 :: c286 :: c287 :: c288 :: c289 :: c290 :: c291 :: c292 :: c293 :: c294 :: c295 :: c296 :: c297 :: c298 :: c299 :: c300 :: c301 :: c302 :: c303 :: c304 :: c305 :: c306 :: c307 :: c308 :: c309 :: c310 :: c311 :: []), defers := [] } w4 := by
  conv => arg 2; whnf
  go_wp2_with fail
  go_loopw [18, 19, 20, 87] (fun vto vix vv vj wy => ∃ (j : Nat) (b : Bool), j ≤ r.length ∧ vj = .int .i64 j ∧ vto = .slice (some ⟨tob, 0, none⟩) j r.length ∧ vix = .slice (some ⟨ixb, 0, none⟩) j r.length ∧ vv = .bool b ∧ Kp [tob, ixb] w4 wy ∧ wy.ownsRow 0 9 1 (.slice (some ⟨tob, 0, none⟩) j r.length) j ((ks.take j).map fun (x : Nat) => Value.string (nmA x)) ∧ wy.ownsRow 0 3 1 (.slice (some ⟨ixb, 0, none⟩) j r.length) j ((ks.take j).map fun (x : Nat) => Value.int .i64 (x : Int)) ∧ Hid (b = true ↔ 0 < r.length ∧ okP n me (ks.take j))) (fun _ _ _ vj _ => r.length - (intOf vj).toNat)
  case atStart => exact ⟨0, decide (0 < r.length), Nat.zero_le _, rfl, rfl, rfl, rfl, Kp.refl _ w4, hOt, hOx, by show _ ↔ _; simp [okP]⟩
  case round =>
    obtain ⟨j, b, hj, rfl, rfl, rfl, rfl, ky, hot, hox, HV⟩ := hrel
    by_cases hjl : j < r.length
    · obtain ⟨x, hx⟩ : ∃ x, r[j]? = some x := ⟨r[j], by simp [hjl]⟩
      obtain ⟨ga, oa, rfl, hca⟩ := HB.out j x hx
      obtain ⟨y, hy, hmod⟩ := HK.out j x hx
      have hx8 := HB8.out x (List.mem_of_getElem? hx)
      have hyn := hk7 y (List.mem_of_getElem? hy)
      have Kwy : Kp [] w wr := K4.trans3 ky (by intro c hc; simp at hc; rcases hc with rfl | rfl <;> assumption)
      have c1 := cell_kept Kwy (by simp) hca
      have HY : Hid (ks[j]? = some y) := hy
      clear hx hy hca
      have tY := (T4.kp ky (by simp; exact ⟨htx', htx⟩)) y y (by rw [List.getElem?_range (by omega)])
      go_upto_region 27 with fail
      go_cut [20, 87, 104] from 87 to 127 (fun v20 v87 v104 wz => wr = wz ∧ v20 = .bool b ∧ v87 = .int .i64 j ∧ ∃ c : Bool, v104 = .bool c ∧ Hid (c = true ↔ y = n ∨ y = me))
      case first =>
        by_cases e1 : y = n
        · have q1 : ((y : Int) == (n : Int)) = true := by simp [e1]
          have E1 : Hid (y = n) := e1
          clear e1
          go_wp2_with fail
          go_meet
          case rel => exact ⟨rfl, rfl, rfl, true, rfl, by show _ ↔ _; simp [E1.out]⟩
        · have q1 : ((y : Int) == (n : Int)) = false := by simp; omega
          by_cases e2 : y = me
          · have q2 : ((y : Int) == (me : Int)) = true := by simp [e2]
            have E2 : Hid (y = me) := e2
            clear e2
            go_wp2_with fail
            go_meet
            case rel => exact ⟨rfl, rfl, rfl, true, rfl, by show _ ↔ _; simp [E2.out]⟩
          · have q2 : ((y : Int) == (me : Int)) = false := by simp; omega
            go_wp2_with fail
            go_meet
            case rel => exact ⟨rfl, rfl, rfl, false, rfl, by show _ ↔ _; simp [e1, e2]⟩
      case rest =>
        obtain ⟨rfl, rfl, rfl, c, rfl, HC⟩ := hcut
        go_upto_if 104 with fail
        go_cut [20, 87] from 87 to 127 (fun v20 v87 wz => wr = wz ∧ v87 = .int .i64 j ∧ ∃ b1 : Bool, v20 = .bool b1 ∧ Hid (b1 = true ↔ b = true ∧ y ≠ n ∧ y ≠ me))
        case first =>
          cases c
          · go_wp2_with fail
            go_meet
            case rel => exact ⟨rfl, rfl, b, rfl, by show _ ↔ _; have := HC.out; simp at this; simp [this]⟩
          · go_wp2_with fail
            go_meet
            case rel => exact ⟨rfl, rfl, false, rfl, by show _ ↔ _; have := HC.out; simp at this; simp; intro _ h; omega⟩
        case rest =>
          obtain ⟨rfl, rfl, b1, rfl, HB1⟩ := hcut
          go_wp2_with fail
          go_loopw [20, 24] (fun vv vq wz => wr = wz ∧ ∃ (q : Nat) (b2 : Bool), q ≤ j ∧ vq = .int .i64 q ∧ vv = .bool b2 ∧ Hid (b2 = true ↔ b1 = true ∧ y ∉ ks.take q)) (fun _ vq _ => j - (intOf vq).toNat)
          case atStart => exact ⟨rfl, 0, b1, Nat.zero_le _, rfl, rfl, by show _ ↔ _; simp⟩
          case round =>
            obtain ⟨rfl, q, b2, hq, rfl, rfl, HQ⟩ := hrel
            by_cases hql : q < j
            · obtain ⟨z, hz⟩ : ∃ z, ks[q]? = some z := ⟨ks[q]'(by omega), by simp⟩
              have hz' : (ks.take j)[q]? = some z := by rw [List.getElem?_take_of_lt hql]; exact hz
              have cz : wr.cell? ⟨ixb, q, none⟩ = some (.int .i64 (z : Int)) := own_cell hox (by rw [List.getElem?_map, hz']; rfl)
              have hzt : ks.take (q + 1) = ks.take q ++ [z] := take_succ' hz
              have HZ : Hid (y ∉ ks.take (q + 1) ↔ y ∉ ks.take q ∧ y ≠ z) := by show _ ↔ _; rw [hzt]; simp
              clear hz hz' hzt
              by_cases ez : z = y
              · have qz : ((z : Int) == (y : Int)) = true := by simp [ez]
                have EZ : Hid (z = y) := ez
                clear ez
                go_wp2
                go_roundw
                case rel => exact ⟨trivial, q + 1, false, by omega, by go_num, rfl, by show _ ↔ _; rw [HZ.out]; simp [EZ.out]⟩
                case measure => simp [intOf]; omega
              · have qz : ((z : Int) == (y : Int)) = false := by simp; omega
                go_wp2
                go_roundw
                case rel => exact ⟨trivial, q + 1, b2, by omega, by go_num, rfl, by show _ ↔ _; rw [HZ.out, HQ.out]; have : y ≠ z := fun e => ez e.symm; simp [this]⟩
                case measure => simp [intOf]; omega
            · have hqj : q = j := by omega
              have HQJ : Hid (b2 = true ↔ b1 = true ∧ y ∉ ks.take j) := by rw [← hqj]; exact HQ
              clear HQ
              obtain ⟨i3, hi3, hz3, hs3, hb3⟩ := info_parts Ybaf.info3
              obtain ⟨i9, hi9, hz9, hs9, hb9⟩ := info_parts Ybaf.info9A
              have d0 : (0 : Int) ≤ (y : Int) := by omega
              have d1 : (y : Int) < 7 := by omega
              go_wp2_with (first
                | (at_builtin; refine wpList_append_fits _ rfl (.tmp 116) (.tmp 118) 32 rfl 0 3 i3 1 Ybaf.underlying32 hi3 hs3 ixb j r.length _ rfl (ownsRow_kp hox ((Kp.refl [] wr).alloc _) (by simp)) ⟨wr.heap.size, 0, none⟩ 1 1 [.int .i64 (y : Int)] rfl rfl (cell_one_new _ _ _) (by simp [Value.oneCell']) (by omega) ?_; intro w5 hox5 hg5; have K5 : Kp [ixb] wr w5 := ((Kp.refl [ixb] wr).alloc (.cells #[.int .i64 (y : Int)] 3)).trans (grown_kp hg5 rfl); have hot5 := ownsRow_kp hot K5 (by intro g' e; cases e; simpa using hti'); have tY5 := cell_kept K5 (by simpa using htx) tY)
                | (at_builtin; refine wpList_append_fits _ rfl (.tmp 120) (.tmp 125) 24 rfl 0 9 i9 1 Ybaf.underlying24 hi9 hs9 tob j r.length _ rfl (ownsRow_kp hot5 ((Kp.refl [] w5).alloc _) (by simp)) ⟨w5.heap.size, 0, none⟩ 1 1 [.string (nmA y)] rfl rfl (cell_one_new _ _ _) (by simp [Value.oneCell']) (by omega) ?_; intro w6 hot6 hg6; have K6 : Kp [tob] w5 w6 := ((Kp.refl [tob] w5).alloc (.cells #[.string (nmA y)] 9)).trans (grown_kp hg6 rfl); have hox6 := ownsRow_kp hox5 K6 (by intro g' e; cases e; simpa using hti'.symm)))
              have Kf : Kp [tob, ixb] w4 w6 := (ky.trans (K5.mono (by simp))).trans (K6.mono (by simp))
              have HVf : Hid (b2 = true ↔ 0 < r.length ∧ okP n me (ks.take (j + 1))) := by
                show _ ↔ _
                rw [take_succ' HY, okP_snoc, HQJ.out, HB1.out, HV.out]
                constructor
                · rintro ⟨⟨⟨h1, h2⟩, h3, h4⟩, h5⟩; exact ⟨h1, h2, h3, h4, h5⟩
                · rintro ⟨h1, h2, h3, h4, h5⟩; exact ⟨⟨⟨h1, h2⟩, h3, h4⟩, h5⟩
              have et : (ks.take (j + 1)).map (fun (x : Nat) => Value.string (nmA x)) = (ks.take j).map (fun (x : Nat) => Value.string (nmA x)) ++ [.string (nmA y)] := by rw [take_succ' HY]; simp
              have ex : (ks.take (j + 1)).map (fun (x : Nat) => Value.int .i64 (x : Int)) = (ks.take j).map (fun (x : Nat) => Value.int .i64 (x : Int)) ++ [.int .i64 (y : Int)] := by rw [take_succ' HY]; simp
              go_roundw
              case rel =>
                refine ⟨j + 1, b2, by omega, by go_num, rfl, rfl, rfl, Kf, ?_, ?_, HVf⟩
                · rw [et]; exact hot6
                · rw [ex]; exact hox6
              case measure => simp [intOf]; omega
    · have hje : j = r.length := by omega
      have hkt : ks.take j = ks := by rw [hje, ← hksl, List.take_length]
      rw [hkt] at hot hox HV
      clear hkt
      subst hje
      go_wp2_with fail
      apply hQ b ky (fun q x hq => own_cell hot (by rw [List.getElem?_map, hq]; rfl)) (fun q x hq => own_cell hox (by rw [List.getElem?_map, hq]; rfl))
      show _ ↔ _
      rw [HV.out, okSend, okTo, okP]
      constructor
      · rintro ⟨h1, h2, h3, h4⟩
        exact ⟨⟨fun e => by rw [e] at hksl; simp at hksl; omega, h3, h4⟩, h2⟩
      · rintro ⟨⟨h1, h3, h4⟩, h2⟩
        exact ⟨by rw [← hksl]; exact List.length_pos_iff.2 h1, h2, h3, h4⟩

end Go.Proofs.YbulkbxpiFmt
