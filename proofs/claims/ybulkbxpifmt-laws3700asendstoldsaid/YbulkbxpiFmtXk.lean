/-
  'LawS3700ASends': what comes in, what stands between two sends.
-/
import Derived.Test.YbulkbxpiFmtXg
import Derived.Test.YbulkbxpiFmtXi
import Derived.Deep.CutBlock
namespace Go.Proofs.YbulkbxpiFmt
open Go.RowKit Go.MuLone Go.Stop

/-- The law says true, and nothing old has turned. -/
def LawOkA (w : World) (e : Ending) (w' : World) : Prop := e = .returned (.bool true) ∧ Below w.heap.size w w'

/-- The slice at ao reads as these bytes. -/
def BRow (w : World) (ao : Option Addr) (xs : List Int) : Prop :=
  ∀ j x, xs[j]? = some x → ∃ g o, ao = some ⟨g, o, none⟩ ∧ w.cell? ⟨g, o + j, none⟩ = some (.int .u8 x)
/-- .. and as these rows of bytes. -/
def BRows (w : World) (ao : Option Addr) (rows : List (List Int)) : Prop :=
  ∀ j r, rows[j]? = some r → ∃ g o A C, ao = some ⟨g, o, none⟩ ∧ w.cell? ⟨g, o + j, none⟩ = some (.slice A r.length C) ∧ BRow w A r ∧ ∀ x ∈ r, 0 ≤ x ∧ x ≤ 255

theorem BRow.kp {w w' : World} {ao : Option Addr} {xs : List Int} (h : BRow w ao xs) (k : Kp [] w w') : BRow w' ao xs := fun j x hj => by
  obtain ⟨g, o, h1, h2⟩ := h j x hj
  exact ⟨g, o, h1, cell_kept k (by simp) h2⟩
theorem BRows.kp {w w' : World} {ao : Option Addr} {rows : List (List Int)} (h : BRows w ao rows) (k : Kp [] w w') : BRows w' ao rows := fun j r hj => by
  obtain ⟨g, o, A, C, h1, h2, h3, h4⟩ := h j r hj
  exact ⟨g, o, A, C, h1, cell_kept k (by simp) h2, h3.kp k, h4⟩
theorem BRows.at {w : World} {ao : Option Addr} {rows : List (List Int)} (h : BRows w ao rows) (hne : 0 < rows.length) : ∃ g o, ao = some ⟨g, o, none⟩ ∧
    ∀ j r, rows[j]? = some r → ∃ A C, w.cell? ⟨g, o + j, none⟩ = some (.slice A r.length C) ∧ BRow w A r ∧ ∀ x ∈ r, 0 ≤ x ∧ x ≤ 255 := by
  obtain ⟨g, o, A, C, h1, _⟩ := h 0 rows[0] (by simp)
  refine ⟨g, o, h1, fun j r hj => ?_⟩
  obtain ⟨g', o', A', C', h1', h2', h3', h4'⟩ := h j r hj
  rw [h1] at h1'
  simp at h1'
  obtain ⟨rfl, rfl⟩ := h1'
  exact ⟨A', C', h2', h3', h4'⟩

set_option maxRecDepth 100000 in
set_option maxHeartbeats 1000000 in
theorem law3_big (w : World) (nv sv : Int) (ao : Option Addr) (rows : List (List Int)) (cap : Nat) (hb : 256 < rows.length) :
    Calls Ybaf.prog 3 #[.int .u8 nv, .int .u8 sv, .slice ao rows.length cap] w (LawOkA w) := by
  have hd : decide ((256 : Int) < (rows.length : Int)) = true := by simp; omega
  go_enter Ybaf.func3, Ybaf.ntmps3
  go_wp2
  go_ret
  exact ⟨rfl, (Kp.refl [] w).below⟩

/-- What stands between two sends. -/
structure Inv (i : Ids) (n me : Nat) (w : World) (tb lb : Nat) (wx : World) (cnt : Nat) (td : List Int) (ow : Value) (ps : List Nat) : Prop where
  kp : Kp [] w wx
  v : SrvA i n me wx 0 cnt td ow
  o : OwnA i wx ow ps
  hps : cnt = ps.length
  tl : wx.heap[lb]? = some (.cells (rowU td) 31)
  tt : AtS wx tb (List.range 7)
  nl : lb ∉ i.listA
  nt : tb ∉ i.listA
  ntl : tb ≠ lb
  ob : ∀ g, ow.ownBlock = some g → w.heap.size ≤ g ∧ g ≠ lb ∧ g ≠ tb
  pl : ∀ p, ps[0]? = some p → p ≠ lb
  il : ∀ b ∈ i.listA, w.heap.size ≤ b
  bl : w.heap.size ≤ lb

theorem Inv.kp0 {i : Ids} {n me : Nat} {w : World} {tb lb : Nat} {wx : World} {cnt : Nat} {td : List Int} {ow : Value} {ps : List Nat} (h : Inv i n me w tb lb wx cnt td ow ps) {wy : World} (k : Kp [] wx wy) : Inv i n me w tb lb wy cnt td ow ps :=
  ⟨h.kp.trans k, h.v.kp0 k, h.o.kp k (by simp), h.hps, k.heap h.tl (by simp), h.tt.kp k (by simp), h.nl, h.nt, h.ntl, h.ob, h.pl, h.il, h.bl⟩

/-- Whom a row of bytes names. -/
def ksOf (n : Nat) (r : List Int) : List Nat := r.map fun x => (x.tmod ((n : Int) + 1)).toNat
def okP (n me : Nat) (l : List Nat) : Prop := n ∉ l ∧ me ∉ l ∧ l.Nodup

theorem okP_snoc (n me : Nat) (l : List Nat) (y : Nat) : okP n me (l ++ [y]) ↔ okP n me l ∧ y ≠ n ∧ y ≠ me ∧ y ∉ l := by
  unfold okP
  rw [List.nodup_append]
  simp only [List.mem_append, List.mem_singleton, not_or]
  constructor
  · rintro ⟨⟨h1, h2⟩, ⟨h3, h4⟩, h5, _, h7⟩
    exact ⟨⟨h1, h3, h5⟩, Ne.symm h2, Ne.symm h4, fun h => h7 y h y rfl rfl⟩
  · rintro ⟨⟨h1, h3, h5⟩, h2, h4, h6⟩
    exact ⟨⟨h1, Ne.symm h2⟩, ⟨h3, Ne.symm h4⟩, h5, by simp, fun a ha b hb e => h6 (by rw [← hb, ← e]; exact ha)⟩

theorem grown_kp {w w' : World} {row : Option Nat} {g : Nat} (h : w.grownBy w' row) (hr : row = some g) : Kp [g] w w' :=
  ⟨h.os, h.tape, h.output, h.size, fun k hk hn => h.block k hk (by rw [hr]; intro e; cases e; exact hn (by simp))⟩

theorem OwnA.form {i : Ids} {w : World} {ow : Value} {ps : List Nat} (h : OwnA i w ow ps) : ∃ ao cp, ow = .slice ao ps.length cp := by
  rcases h.row.2 with ⟨h1, h2⟩ | ⟨g, cap, cur, h1, _⟩
  · exact ⟨none, 0, by rw [h1, h2]⟩
  · exact ⟨_, _, h1⟩

theorem Sent.kp0 {i : Ids} {n me : Nat} {w w' w'' : World} {t : Int} {td : List Int} {ow : Value} {ps ks : List Nat} {A m U T2 cT r L : Nat} {ow' : Value} (h : Sent i n me w w' t td ow ps ks A m U T2 cT r L ow') (k : Kp [] w' w'') : Sent i n me w w'' t td ow ps ks A m U T2 cT r L ow' :=
  ⟨h.kp.trans (k.mono (by simp)), h.v.kp0 k, h.o.kp k (by simp), k.heap h.u (by simp), h.tto.kp k (by simp), h.rr.kp k (by simp), k.heap h.l (by simp), k.heap h.a (by simp), k.heap h.m (by simp), h.ob, h.hU⟩

/-- Behind a send: the state is as before but for the law's own told row. -/
theorem Inv.sent {i : Ids} {n me : Nat} {w : World} {tb lb : Nat} {wx : World} {cnt : Nat} {td : List Int} {ow : Value} {ps : List Nat} (I : Inv i n me w tb lb wx cnt td ow ps) {w' : World} {ks : List Nat} {A m U T2 cT r L : Nat} {ow' : Value} (S : Sent i n me wx w' cnt td ow ps ks A m U T2 cT r L ow') :
    Kp [] w w' ∧ w'.heap[lb]? = some (.cells (rowU td) 31) ∧ AtS w' tb (List.range 7) ∧ (∀ g, ow'.ownBlock = some g → w.heap.size ≤ g ∧ g ≠ lb ∧ g ≠ tb) ∧ (∀ p, (ps ++ [U])[0]? = some p → p ≠ lb) ∧ tb < wx.heap.size ∧ lb < wx.heap.size := by
  have ht := I.tt.lt (by simp)
  have hl := heap_lt I.tl
  have h0 := I.kp.size
  have hb : ∀ b, b ∈ i.D :: i.C :: i.Td :: ow.ownBlock.toList → w.heap.size ≤ b ∧ b ≠ lb ∧ b ≠ tb := by
    intro b hb
    simp only [List.mem_cons] at hb
    rcases hb with rfl | rfl | rfl | hb
    · exact ⟨I.il _ (by simp), fun e => I.nl (by rw [← e]; simp), fun e => I.nt (by rw [← e]; simp)⟩
    · exact ⟨I.il _ (by simp), fun e => I.nl (by rw [← e]; simp), fun e => I.nt (by rw [← e]; simp)⟩
    · exact ⟨I.il _ (by simp), fun e => I.nl (by rw [← e]; simp), fun e => I.nt (by rw [← e]; simp)⟩
    · exact I.ob b (by simpa using hb)
  refine ⟨I.kp.trans3 S.kp (fun c hc => (hb c hc).1), S.kp.heap I.tl (fun e => (hb _ e).2.1 rfl), I.tt.kp S.kp (fun e => (hb _ e).2.2 rfl), fun g hg => ?_, fun p hp => ?_, ht, hl⟩
  · rcases S.ob g hg with h | h
    · exact I.ob g h
    · exact ⟨by omega, by omega, by omega⟩
  · cases hps : ps with
    | nil => rw [hps] at hp; simp at hp; have := S.hU; omega
    | cons a l => rw [hps] at hp; simp at hp; exact I.pl p (by rw [hps, ← hp]; rfl)

theorem OwnA.kp' {i : Ids} {w w' : World} {ow : Value} {ps : List Nat} (h : OwnA i w ow ps) {bs : List Nat} (k : Kp bs w w') (hb : ∀ g, ow.ownBlock = some g → g ∉ bs) (hp : ∀ p, ps[0]? = some p → p ∉ bs) : OwnA i w' ow ps :=
  ⟨ownsRow_kp h.row k hb, h.nil, fun p q => cell_kept k (hp p q) (h.first p q), h.ob, h.pb⟩

/-- What the law reads behind a send that was let through. -/
structure Aft (i : Ids) (n me : Nat) (w0 W : World) (cnt : Nat) (td : List Int) (ow : Value) (ps ks : List Nat) (A m U T2 cT r L gO cO tb lb tob ixb bx : Nat) : Prop where
  s : Sent i n me w0 W cnt td ow ps ks A m U T2 cT r L (.slice (some ⟨gO, 0, none⟩) (cnt + 1) cO)
  b : W.heap[bx]? = some (.cells #[.int .u64 ((cnt : Int) + 1), .string (nmA me), .map (some A), .map (some m)] 38)
  tt : AtS W tb (List.range 7)
  lb : W.heap[lb]? = some (.cells (rowU td) 31)
  at' : AtS W tob ks
  ix : AtI W ixb ks
  row : W.ownsRow 0 60 1 (.slice (some ⟨gO, 0, none⟩) (cnt + 1) cO) (cnt + 1) ((ps ++ [U]).map fun p => Value.pointer (some ⟨p, 0, none⟩))

theorem Aft.kp0 {i : Ids} {n me : Nat} {w0 W W' : World} {cnt : Nat} {td : List Int} {ow : Value} {ps ks : List Nat} {A m U T2 cT r L gO cO tb lb tob ixb bx : Nat} (h : Aft i n me w0 W cnt td ow ps ks A m U T2 cT r L gO cO tb lb tob ixb bx) (k : Kp [] W W') : Aft i n me w0 W' cnt td ow ps ks A m U T2 cT r L gO cO tb lb tob ixb bx :=
  ⟨h.s.kp0 k, k.heap h.b (by simp), h.tt.kp k (by simp), k.heap h.lb (by simp), h.at'.kp k (by simp), h.ix.kp k (by simp), ownsRow_kp h.row k (by simp)⟩

theorem run_make0 {P : Program} (t e : TypeId) (z : Value) (bytes : Nat) (ht : P.underlying t = some (.slice e)) (hinfo : (P.info? e).map (fun i => (i.zero, i.size, i.bytes)) = some (some z, 1, bytes)) (hz1 : z.cells = #[z]) (n : Nat) (hbytes : bytes * n ≤ 281474976710656) (h63 : n ≤ 9223372036854775807) (w : World) :
    (Instr.makeSlice t (.int .i64 0) (.int .i64 (n : Int))).run P w = .ok (.slice (some ⟨w.heap.size, 0, none⟩) 0 n) (w.alloc (.cells (Array.replicate n z) e)) := by
  obtain ⟨i, hi, hz, hs, hb⟩ := info_parts hinfo
  have hb' : (i.bytes : Int) * (n : Int) ≤ 281474976710656 := by
    have h : ((i.bytes * n : Nat) : Int) ≤ 281474976710656 := by rw [hb]; omega
    rwa [Int.natCast_mul] at h
  have hr := run_make (P := P) w t e i z ht hi hz .i64 .i64 0 n (by omega) (by omega) hb' (by omega)
  simp only [Int.toNat_natCast, hs, Nat.mul_one, hz1, made_rep] at hr
  exact hr

theorem own_cell {w : World} {e : TypeId} {g n cap : Nat} {xs : List Value} (h : w.ownsRow 0 e 1 (.slice (some ⟨g, 0, none⟩) n cap) n xs) {j : Nat} {u : Value} (hj : xs[j]? = some u) : w.cell? ⟨g, j, none⟩ = some u := by
  rcases h.2 with ⟨h0, _⟩ | ⟨g', cap', cur, h1, _, hg, _, _, _, h5⟩
  · cases h0
  · cases h1
    refine cell_at hg ?_
    have hl : j < xs.length := (List.getElem?_eq_some_iff.1 hj).1
    rw [h.1] at hl
    have : (cur.toList.take (n * 1))[j]? = some u := by rw [h5]; exact hj
    rw [List.getElem?_take_of_lt hl] at this
    simpa using this

end Go.Proofs.YbulkbxpiFmt
