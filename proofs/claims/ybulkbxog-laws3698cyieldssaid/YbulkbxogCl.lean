/-
  Law C's road: 'zzs3698cbuild': what it hands back, told of the search and the model.
-/
import Derived.Test.YbulkbxogCk
namespace Go.Proofs.Ybulkbxog
open Go.RowKit

theorem Yba.info71 : (Yba.prog.info? 71).map (fun i => (i.zero, i.size, i.bytes)) = some (some (.agg #[.int .i64 0, .int .i64 0, .int .i64 0]), 3, 24) := by kernel_rfl

def spCells (xs : List Int) : List Value := xs.flatMap fun x => [.int .i64 0, .int .i64 0, .int .i64 x]

theorem spCells_at (xs : List Int) : ∀ (j : Nat) (x : Int), xs[j]? = some x → (spCells xs)[j * 3 + 2]? = some (.int .i64 x) := by
  induction xs with
  | nil => intro j x h; simp at h
  | cons y ys ih =>
    intro j x h
    cases j with
    | zero => simp at h; subst h; simp [spCells]
    | succ j =>
      have := ih j x (by simpa using h)
      have e : spCells (y :: ys) = .int .i64 0 :: .int .i64 0 :: .int .i64 y :: spCells ys := by simp [spCells]
      rw [e, show (j + 1) * 3 + 2 = (j * 3 + 2) + 1 + 1 + 1 from by omega]
      simpa using this

theorem spCells_length (xs : List Int) : (spCells xs).length = xs.length * 3 := by
  induction xs with
  | nil => rfl
  | cons y ys ih =>
    have e : spCells (y :: ys) = .int .i64 0 :: .int .i64 0 :: .int .i64 y :: spCells ys := by simp [spCells]
    rw [e]; simp [ih]; omega

def rdRow (R : List (List Int)) (L j : Nat) : List Int := if L = 0 then [] else rowMod R j L

/-- All arcs of the first k nodes, one node's after another's. -/
def alL (A : List (List Int)) (n k : Nat) : List Int := ((List.range k).map fun v => rowMod A v n).flatten
def stL (A : List (List Int)) (n k : Nat) : List Int := (List.range (k + 1)).map fun v => ((alL A n v).length : Int)

theorem alL_succ (A : List (List Int)) (n k : Nat) : alL A n (k + 1) = alL A n k ++ rowMod A k n := by
  simp [alL, List.range_succ]
theorem stL_succ (A : List (List Int)) (n k : Nat) : stL A n (k + 1) = stL A n k ++ [((alL A n (k + 1)).length : Int)] := by
  simp [stL, List.range_succ]
theorem alL_le (A : List (List Int)) (n : Nat) : ∀ k j, j ≤ k → (alL A n j).length ≤ (alL A n k).length := by
  intro k
  induction k with
  | zero =>
    intro j hj
    have e : j = 0 := by omega
    rw [e]
    exact Nat.le_refl _
  | succ k ih =>
    intro j hj
    rcases Nat.lt_or_ge k j with h | h
    · obtain rfl : j = k + 1 := by omega
      exact Nat.le_refl _
    · rw [alL_succ, List.length_append]
      have := ih j h
      omega
theorem stL_get (A : List (List Int)) (n k i : Nat) (h : i ≤ k) : (stL A n k)[i]? = some ((alL A n i).length : Int) := by
  have : i < k + 1 := by omega
  simp [stL, this]
theorem stL_length (A : List (List Int)) (n k : Nat) : (stL A n k).length = k + 1 := by simp [stL]

theorem rdRow_range (R : List (List Int)) (L j : Nat) : ∀ x ∈ rdRow R L j, 0 ≤ x ∧ x < L := by
  intro x hx
  unfold rdRow at hx
  split at hx
  · cases hx
  · exact rowMod_range R j L (by omega) x hx
theorem rdRow_length (R : List (List Int)) (L j : Nat) (h : ∀ r ∈ R, r.length ≤ 1024) : (rdRow R L j).length ≤ 1024 := by
  unfold rdRow
  split
  · simp
  · exact rowMod_length R j L h

/-- What 'zzs3698cbuild' hands back where nothing is big. -/
def BuildOk (w : World) (e : Ending) (w' : World) : Prop :=
  ∃ (sb u n m gs cs ga ca : Nat) (st al : List Int) (pa : Option Addr) (pc : Nat) (ia fa ra wa : Option Addr) (ic fc rc wc : Nat) (Inf Pre Rd Wr : List (List Int)) (sa : Option Addr) (sc : Nat) (sp : List Int) (am : Option Addr) (cm : Nat) (model : List Int),
    e = .returned (.tuple #[.pointer (some ⟨sb, 0, none⟩), .int .i64 u, .slice am model.length cm, .bool true]) ∧ SAt w' sb n m gs cs ga ca st al pa pc ia fa ra wa ic fc rc wc Inf Pre Rd Wr sa sc sp ∧ IRow w' .i64 am model ∧ Below w.heap.size w w' ∧
    u < n + m ∧ model.length ≤ 20000 ∧ (model.length ≤ cm ∧ cm ≤ maxLen) ∧ (n ≤ u → Wr[u - n]? = some model) ∧
    (u < n → ∃ xI xF xR, Inf[u]? = some xI ∧ Pre[u]? = some xF ∧ Rd[u]? = some xR ∧ model = nodeModel n (arcsOf st al u) xI xF xR sp)

theorem IRow.nil_of {w : World} {k : IntKind} {ao : Option Addr} : IRow w k ao [] := IRow.nil w k ao

set_option maxRecDepth 1000000 in
set_option maxHeartbeats 1000000 in
theorem tail33 (c0 c2 c3 c4 c5 c12 c14 c16 c17 c19 c20 c21 c22 c23 c24 c25 c26 c27 c28 c29 c30 c31 c32 c33 c34 c35 c36 c37 c38 c39 c40 c41 c42 c43 c44 c45 c46 c47 c48 c49 c50 c51 c52 c53 c54 c55 c56 c57 c58 c59 c60 c61 c62 c63 c64 c65 c66 c67 c68 c69 c70 c71 c72 c73 c74 c75 c76 c77 c78 c79 c80 c81 c82 c83 c84 c85 c86 c87 c88 c89 c90 c91 c92 c93 c94 c95 c96 c97 c98 c99 c100 c101 c102 c103 c104 c105 c106 c107 c108 c109 c110 c111 c112 c113 c114 c115 c116 c117 c118 c119 c120 c121 c122 c123 c124 c125 c126 c127 c128 c129 c130 c131 c132 c133 c134 c135 c136 c137 c138 c139 c140 c141 c142 c143 c144 c145 c146 c147 c148 c149 c150 c151 c152 c153 c154 c155 c156 c157 c158 c159 c160 c161 c162 c163 c164 c165 c166 c167 c168 c169 c170 c171 c172 c173 c174 c175 c176 c177 c178 c179 c180 c181 c182 c183 c184 c185 c186 c187 c188 c189 c190 c191 c192 c193 c194 c195 c196 c197 c198 c199 c200 c201 c202 c203 c204 c205 c206 c207 c208 c209 c210 c211 c212 c213 c214 c215 c216 c217 c218 c219 c220 c221 c222 c223 c224 c225 c226 c227 c228 c229 c230 c231 c232 c233 c234 c235 c236 c237 c238 c239 c240 c241 c242 c243 c244 c245 c246 c247 c248 c249 c250 c251 c252 c253 c254 c255 c256 c257 c258 c259 c260 c261 : Value) (B n m gs cs ga ca L : Nat) (d : CIn) (st al : List Int) (w w0 wA wC wE wQ : World) (K : Act → World → Prop)
    (hK : ∀ a w', Code.wp Yba.prog (seqSnd ((Yba.f12.body.bind (fromRegion 33)).getD .skip)) (bodyPost Yba.prog Yba.f12 (BuildOk w)) a w' → K a w')
    (hn1 : 1 ≤ n) (hn : n ≤ 8) (hm1 : 1 ≤ m) (hm : m ≤ 5) (hU0 : 0 ≤ d.U) (hU1 : d.U ≤ 255) (hbox : wQ.cell? ⟨B, 2, none⟩ = some (.int .u8 d.U)) (hB : w.heap.size ≤ B) (hw : Below w.heap.size w w0)
    (I : Inv1 w0 B n (fun j => rowMod d.Inf j n) (fun j => rowMod d.Pre j n) wA gs cs ga ca st al n n) (hS : st = stL d.Arcs n n ∧ al = alL d.Arcs n n) (hal : al.length ≤ 10000)
    (hBC : Below wA.heap.size wA wC) (RW : RowsP wC wA.heap.size m m (fun j => rowMod d.Wr j n) (fun g => wA.heap.size + 1 ≤ g)) (hBE : Below wC.heap.size wC wE) (hL : d.Sp.length = L) (hL2 : L ≤ 1024)
    (own : wE.ownsRow 0 71 3 (.slice (some ⟨wC.heap.size, 0, none⟩) L L) L (spCells (d.Sp.map (· % (m : Int))))) (hBQ : Below wE.heap.size wE wQ) (RR : RowsP wQ wE.heap.size n n (rdRow d.Rd L) (fun g => wE.heap.size + 1 ≤ g))
    (b2 : bigL d.Inf = false) (b3 : bigL d.Pre = false) (b4 : bigL d.Wr = false) (b5 : bigL d.Rd = false) (bi bf : Nat) (hbi : bi = B + 3) (hbf : bf = B + 4) :
    Code.wp Yba.prog (seqFst ((Yba.f12.body.bind (fromRegion 33)).getD .skip)) (Exit.then K (bodyPost Yba.prog Yba.f12 (BuildOk w)))
      { tmps := List.toArray (c0 :: .pointer (some ⟨B, 0, none⟩) :: c2 :: c3 :: c4 :: c5 :: .int .i64 n :: .int .i64 m :: .slice (some ⟨gs, 0, none⟩) st.length cs :: .slice (some ⟨ga, 0, none⟩) al.length ca :: .slice (some ⟨bi, 0, none⟩) n n :: .slice (some ⟨bf, 0, none⟩) n n :: c12 :: .slice (some ⟨wA.heap.size, 0, none⟩) m m :: c14 :: .slice (some ⟨wC.heap.size, 0, none⟩) L L :: c16 :: c17 :: .slice (some ⟨wE.heap.size, 0, none⟩) n n :: c19 :: c20 :: c21 :: c22 :: c23 :: c24 :: c25 :: c26 :: c27 :: c28 :: c29 :: c30 :: c31 :: c32 :: c33 :: c34 :: c35 :: c36 :: c37 :: c38 :: c39 :: c40 :: c41 :: c42 :: c43 :: c44 :: c45 :: c46 :: c47 :: c48 :: c49 :: c50 :: c51 :: c52 :: c53 :: c54 :: c55 :: c56 :: c57 :: c58 :: c59 :: c60 :: c61 :: c62 :: c63 :: c64 :: c65 :: c66 :: c67 :: c68 :: c69 :: c70 :: c71 :: c72 :: c73 :: c74 :: c75 :: c76 :: c77 :: c78 :: c79 :: c80 :: c81 :: c82 :: c83 :: c84 :: c85 :: c86 :: c87 :: c88 :: c89 :: c90 :: c91 :: c92 :: c93 :: c94 :: c95 :: c96 :: c97 :: c98 :: c99 :: c100 :: c101 :: c102 :: c103 :: c104 :: c105 :: c106 :: c107 :: c108 :: c109 :: c110 :: c111 :: c112 :: c113 :: c114 :: c115 :: c116 :: c117 :: c118 :: c119 :: c120 :: c121 :: c122 :: c123 :: c124 :: c125 :: c126 :: c127 :: c128 :: c129 :: c130 :: c131 :: c132 :: c133 :: c134 :: c135 :: c136 :: c137 :: c138 :: c139 :: c140 :: c141 :: c142 :: c143 :: c144 :: c145 :: c146 :: c147 :: c148 :: c149 :: c150 :: c151 :: c152 :: c153 :: c154 :: c155 :: c156 :: c157 :: c158 :: c159 :: c160 :: c161 :: c162 :: c163 :: c164 :: c165 :: c166 :: c167 :: c168 :: c169 :: c170 :: c171 :: c172 :: c173 :: c174 :: c175 :: c176 :: c177 :: c178 :: c179 :: c180 :: c181 :: c182 :: c183 :: c184 :: c185 :: c186 :: c187 :: c188 :: c189 :: c190 :: c191 :: c192 :: c193 :: c194 :: c195 :: c196 :: c197 :: c198 :: c199 :: c200 :: c201 :: c202 :: c203 :: c204 :: c205 :: c206 :: c207 :: c208 :: c209 :: c210 :: c211 :: c212 :: c213 :: c214 :: c215 :: c216 :: c217 :: c218 :: c219 :: c220 :: c221 :: c222 :: c223 :: c224 :: c225 :: c226 :: c227 :: c228 :: c229 :: c230 :: c231 :: c232 :: c233 :: c234 :: c235 :: c236 :: c237 :: c238 :: c239 :: c240 :: c241 :: c242 :: c243 :: c244 :: c245 :: c246 :: c247 :: c248 :: c249 :: c250 :: c251 :: c252 :: c253 :: c254 :: c255 :: c256 :: c257 :: c258 :: c259 :: c260 :: c261 :: []), defers := [] } wQ := by
  have sA : wA.heap.size ≤ wC.heap.size := hBC.size
  have sC : wC.heap.size ≤ wE.heap.size := hBE.size
  have sE : wE.heap.size ≤ wQ.heap.size := hBQ.size
  have szA := I.sz
  have hAQ : Below wA.heap.size wA wQ := hBC.trans ((hBE.trans (hBQ.mono sC)).mono sA)
  have hCQ : Below wC.heap.size wC wQ := hBE.trans (hBQ.mono sC)
  obtain ⟨u, hu, hum⟩ : ∃ u : Nat, d.U % ((n : Int) + (m : Int)) = u ∧ u < n + m := by
    have h1 := Int.emod_nonneg d.U (show (n : Int) + m ≠ 0 by omega)
    have h2 := Int.emod_lt_of_pos d.U (show (0 : Int) < (n : Int) + m by omega)
    exact ⟨(d.U % ((n : Int) + m)).toNat, by omega, by omega⟩
  have hsp : ∀ j x, (d.Sp.map (· % (m : Int)))[j]? = some x → wE.cell? ⟨wC.heap.size, j * 3 + 2, none⟩ = some (.int .i64 x) := by
    intro j x hj
    have hlt : j < L := by have := (List.getElem?_eq_some_iff.1 hj).1; simpa [hL] using this
    rw [own.cellAt (j * 3 + 2) (by omega)]
    exact spCells_at _ j x hj
  have hgC : ∀ j x, (d.Sp.map (· % (m : Int)))[j]? = some x → wC.heap.size < wE.heap.size := fun j x hj => World.block_lt_of_cell? wE _ (hsp j x hj)
  have hspr : ∀ x ∈ d.Sp.map (· % (m : Int)), 0 ≤ x ∧ x ≤ 8 := by
    intro x hx
    obtain ⟨y, _, rfl⟩ := List.mem_map.1 hx
    have h1 := Int.emod_nonneg y (show (m : Int) ≠ 0 by omega)
    have h2 := Int.emod_lt_of_pos y (show (0 : Int) < (m : Int) by omega)
    exact ⟨h1, by omega⟩
  have hcaA : al.length ≤ ca ∧ ca ≤ maxLen := by
    rcases I.hal.2 with ⟨h', _⟩ | ⟨g, cap, cur, h', _, _, h1, h2, _⟩
    · simp at h'
    · simp at h'; obtain ⟨rfl, rfl⟩ := h'; exact ⟨h1, h2⟩
  have rst : IRow wA .i64 (some ⟨gs, 0, none⟩) st := IRow.ofOwns I.hst
  have ral : IRow wA .i64 (some ⟨ga, 0, none⟩) al := IRow.ofOwns I.hal
  have zst : ∀ i, i < n → ∃ lo hi : Nat, st[i]? = some (lo : Int) ∧ st[i+1]? = some (hi : Int) ∧ lo ≤ hi ∧ hi ≤ al.length := by
    intro i hi
    obtain ⟨rfl, rfl⟩ := hS
    exact ⟨_, _, stL_get _ _ _ i (by omega), stL_get _ _ _ (i + 1) (by omega), alL_le _ _ _ _ (by omega), alL_le _ _ _ _ (by omega)⟩
  have mk : ∀ (sb : Nat) (pa : Option Addr) (pc : Nat) (wz : World), Below wQ.heap.size wQ wz → wz.cell? ⟨sb, 0, none⟩ = some (.slice (some ⟨gs, 0, none⟩) st.length cs) → wz.cell? ⟨sb, 1, none⟩ = some (.slice (some ⟨ga, 0, none⟩) al.length ca) → wz.cell? ⟨sb, 2, none⟩ = some (.slice (some ⟨wC.heap.size, 0, none⟩) L L) →
      wz.cell? ⟨sb, 4, none⟩ = some (.slice (some ⟨wA.heap.size, 0, none⟩) m m) → wz.cell? ⟨sb, 7, none⟩ = some (.slice (some ⟨wE.heap.size, 0, none⟩) n n) → wz.cell? ⟨sb, 12, none⟩ = some (.slice pa n pc) → wz.cell? ⟨sb, 46, none⟩ = some (.slice (some ⟨bi, 0, none⟩) n n) → wz.cell? ⟨sb, 48, none⟩ = some (.slice (some ⟨bf, 0, none⟩) n n) →
      SAt wz sb n m gs cs ga ca st al pa pc (some ⟨bi, 0, none⟩) (some ⟨bf, 0, none⟩) (some ⟨wE.heap.size, 0, none⟩) (some ⟨wA.heap.size, 0, none⟩) n n n m ((List.range n).map fun j => rowMod d.Inf j n) ((List.range n).map fun j => rowMod d.Pre j n) ((List.range n).map (rdRow d.Rd L)) ((List.range m).map fun j => rowMod d.Wr j n) (some ⟨wC.heap.size, 0, none⟩) L (d.Sp.map (· % (m : Int))) := by
    intro sb pa pc wz hz e0 e1 e2 e4 e7 e12 e46 e48
    have hAz : Below wA.heap.size wA wz := hAQ.trans (hz.mono (by omega))
    have hCz : Below wC.heap.size wC wz := hCQ.trans (hz.mono (by omega))
    have hEz : Below wE.heap.size wE wz := hBQ.trans (hz.mono sE)
    subst hbi
    subst hbf
    refine ⟨e0, e1, by rw [List.length_map, hL]; exact e2, e4, e7, e12, e46, e48, rst.below hAz, ral.below hAz, hcaA.1, hcaA.2, by simp, by simp, by simp, by simp, I.rI.rrow.below hAz, I.rP.rrow.below hAz, RR.rrow.below hz, RW.rrow.below hCz, ?_, hn, by omega, ?_, hal, by rw [List.length_map, hL]; exact hL2, zst, ?_, ?_, ?_, ?_, hspr⟩
    · intro j x hj
      exact ⟨_, 0, rfl, by rw [Nat.zero_add]; exact (hEz.cell (hgC j x hj)).trans (hsp j x hj)⟩
    · rw [hS.1, stL_length]
    · intro xs hx; obtain ⟨j, _, rfl⟩ := List.mem_map.1 hx; exact rowMod_length _ _ _ (bigL_false b2).2
    · intro xs hx; obtain ⟨j, _, rfl⟩ := List.mem_map.1 hx; exact rowMod_length _ _ _ (bigL_false b3).2
    · intro xs hx
      obtain ⟨j, _, rfl⟩ := List.mem_map.1 hx
      exact ⟨rdRow_length _ _ _ (bigL_false b5).2, by rw [List.length_map, hL]; exact rdRow_range _ _ _⟩
    · intro xs hx; obtain ⟨j, _, rfl⟩ := List.mem_map.1 hx; exact rowMod_length _ _ _ (bigL_false b4).2
  have hwQ : Below w.heap.size w wQ := hw.trans ((I.bel.mono (by omega)).trans (hAQ.mono (by omega)))
  by_cases hnu : n ≤ u
  · obtain ⟨aw, kw, hcw, hrw, hzw⟩ := (RW.below hCQ).cell (j := u - n) (by omega) (Nat.le_refl _)
    refine tail33A _ _ _ _ _ _ _ _ _ _ _ _ _ _ _ _ _ _ _ _ _ _ _ _ _ _ _ _ _ _ _ _ _ _ _ _ _ _ _ _ _ _ _ _ _ _ _ _ _ _ _ _ _ _ _ _ _ _ _ _ _ _ _ _ _ _ _ _ _ _ _ _ _ _ _ _ _ _ _ _ _ _ _ _ _ _ _ _ _ _ _ _ _ _ _ _ _ _ _ _ _ _ _ _ _ _ _ _ _ _ _ _ _ _ _ _ _ _ _ _ _ _ _ _ _ _ _ _ _ _ _ _ _ _ _ _ _ _ _ _ _ _ _ _ _ _ _ _ _ _ _ _ _ _ _ _ _ _ _ _ _ _ _ _ _ _ _ _ _ _ _ _ _ _ _ _ _ _ _ _ _ _ _ _ _ _ _ _ _ _ _ _ _ _ _ _ _ _ _ _ _ _ _ _ _ _ _ _ _ _ _ _ _ _ _ _ _ _ _ _ _ _ _ _ _ _ _ _ _ _ _ _ _ _ _ _ _ _ _ _ _ _ _ _ _ _ _ _ _ _ _ _ B n m gs cs ga ca bi bf wA.heap.size wC.heap.size wE.heap.size L u d.U st al wQ _ hn1 hn hm1 (by omega) hU0 hU1 hu hbox hnu aw kw (rowMod d.Wr (u - n) n) hcw hrw hzw (rowMod_length _ _ _ (bigL_false b4).2) K hK ?_
    intro am cm sb pa pc wz hz hrm hc1 hc2 e0 e1 e2 e4 e7 e12 e46 e48
    refine ⟨sb, u, n, m, gs, cs, ga, ca, st, al, pa, pc, _, _, _, _, _, _, _, _, _, _, _, _, _, _, _, am, cm, _, rfl, mk sb pa pc wz hz e0 e1 e2 e4 e7 e12 e46 e48, hrm, hwQ.trans (hz.mono hwQ.size), hum, ?_, ⟨hc1, hc2⟩, ?_, fun h => by omega⟩
    · have := rowMod_length d.Wr (u - n) n (bigL_false b4).2; omega
    · intro _
      have : u - n < m := by omega
      simp [this]
  · have hnu' : u < n := by omega
    obtain ⟨lo, hi, z1, z2, z3, z4⟩ := zst u hnu'
    have hRI : RowsP wQ bi n n (fun j => rowMod d.Inf j n) (fun _ => True) := by subst hbi; exact (I.rI.below hAQ).mono fun _ _ _ => trivial
    have hRP : RowsP wQ bf n n (fun j => rowMod d.Pre j n) (fun _ => True) := by subst hbf; exact (I.rP.below hAQ).mono fun _ _ _ => trivial
    obtain ⟨aI, kI, hcI, hrI, hzI⟩ := hRI.cell hnu' (Nat.le_refl _)
    obtain ⟨aP, kP, hcP, hrP, hzP⟩ := hRP.cell hnu' (Nat.le_refl _)
    obtain ⟨aR, kR, hcR, hrR, hzR⟩ := RR.cell hnu' (Nat.le_refl _)
    have hlI := rowMod_length d.Inf u n (bigL_false b2).2
    have hlP := rowMod_length d.Pre u n (bigL_false b3).2
    have hlR := rdRow_length d.Rd L u (bigL_false b5).2
    refine tail33B _ _ _ _ _ _ _ _ _ _ _ _ _ _ _ _ _ _ _ _ _ _ _ _ _ _ _ _ _ _ _ _ _ _ _ _ _ _ _ _ _ _ _ _ _ _ _ _ _ _ _ _ _ _ _ _ _ _ _ _ _ _ _ _ _ _ _ _ _ _ _ _ _ _ _ _ _ _ _ _ _ _ _ _ _ _ _ _ _ _ _ _ _ _ _ _ _ _ _ _ _ _ _ _ _ _ _ _ _ _ _ _ _ _ _ _ _ _ _ _ _ _ _ _ _ _ _ _ _ _ _ _ _ _ _ _ _ _ _ _ _ _ _ _ _ _ _ _ _ _ _ _ _ _ _ _ _ _ _ _ _ _ _ _ _ _ _ _ _ _ _ _ _ _ _ _ _ _ _ _ _ _ _ _ _ _ _ _ _ _ _ _ _ _ _ _ _ _ _ _ _ _ _ _ _ _ _ _ _ _ _ _ _ _ _ _ _ _ _ _ _ _ _ _ _ _ _ _ _ _ _ _ _ _ _ _ _ _ _ _ _ _ _ _ _ _ _ _ _ _ _ _ B n m gs cs ga ca bi bf wA.heap.size wC.heap.size wE.heap.size L u d.U st al wQ _ hn1 hn hm1 (by omega) hU0 hU1 hu hbox hnu' lo hi (rst.below hAQ) (ral.below hAQ) (by rw [hS.1, stL_length]) z1 z2 z3 z4 hcaA.1 hcaA.2 hal
      aI aP aR kI kP kR _ _ _ (d.Sp.map (· % (m : Int))) hcI hcP hcR hrI hrP hrR hzI hzP hlI hlP hlR (by rw [List.length_map, hL]) hL2 (rdRow_range _ _ _) (fun j x hj => (hBQ.cell (hgC j x hj)).trans (hsp j x hj)) hspr _ rfl K hK ?_
    intro am cm sb pa pc wz hz hrm hc1 hc2 e0 e1 e2 e4 e7 e12 e46 e48
    refine ⟨sb, u, n, m, gs, cs, ga, ca, st, al, pa, pc, _, _, _, _, _, _, _, _, _, _, _, _, _, _, _, am, cm, _, rfl, mk sb pa pc wz hz e0 e1 e2 e4 e7 e12 e46 e48, hrm, hwQ.trans (hz.mono hwQ.size), hum, ?_, ⟨hc1, hc2⟩, fun h => by omega, fun _ => ⟨rowMod d.Inf u n, rowMod d.Pre u n, rdRow d.Rd L u, by simp [hnu'], by simp [hnu'], by simp [hnu'], ?_⟩⟩
    · rw [node_flat, List.length_append, List.length_map]
      simp
      omega
    · unfold arcsOf; rw [z1, z2]; simp

end Go.Proofs.Ybulkbxog
