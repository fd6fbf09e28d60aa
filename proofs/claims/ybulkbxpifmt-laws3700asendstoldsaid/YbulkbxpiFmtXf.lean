/-
  'append(nil, to...)' over names; 'Send' that is refused.
-/
import Derived.Test.YbulkbxpiFmtXe
import Derived.Maps.AppendAt
import Derived.Deep.RegionLaw
namespace Go.Proofs.YbulkbxpiFmt
open Go.RowKit Go.MuLone Go.Stop

theorem Ybaf.info9A : (Ybaf.prog.info? 9).map (fun i => (i.zero, i.size, i.bytes)) = some (some (.string ⟨#[]⟩), 1, 16) := by kernel_rfl

/-- What 'append(nil, to...)' leaves. -/
structure AppS (w w' : World) (ks : List Nat) (cap : Nat) : Prop where
  at' : AtS w' w.heap.size ks
  lt : w.heap.size < w'.heap.size
  kp : Kp [] w w'

theorem run_appS (w : World) (ty : TypeId) (g c : Nat) (ks : List Nat) (hA : AtS w g ks) (h0 : ks ≠ []) (hlen : ks.length ≤ 256) :
    ∃ cap w', (Builtin.append_ #[24, 24] ty #[.slice none 0 0, .slice (some ⟨g, 0, none⟩) ks.length c]).run Ybaf.prog w = .ok (.slice (some ⟨w.heap.size, 0, none⟩) ks.length cap) w' ∧ AppS w w' ks cap := by
  obtain ⟨i, hi, hz, hs, hb⟩ := info_parts Ybaf.info9A
  have hl0 := List.length_pos_iff.2 h0
  obtain ⟨v', w', hr, hown, hgrow, hnil, hloc⟩ := run_append_own_at (P := Ybaf.prog) (w := w) 0 24 ty 9 i (.string ⟨#[]⟩) 1 16 Ybaf.underlying24 hi hz hs hb rfl (by decide) (.slice none 0 0) 0 [] ⟨by simp, .inl ⟨rfl, rfl⟩⟩ ⟨g, 0, none⟩ ks.length c (ks.map fun k => Value.string (nmA k)) (by simp)
    (fun j u hj => by
      have : (⟨g, 0, none⟩ : Addr).add j = ⟨g, j, none⟩ := by unfold Addr.add; split <;> simp_all
      rw [this]
      rw [List.getElem?_map] at hj
      cases hk : ks[j]? with
      | none => rw [hk] at hj; simp at hj
      | some k => rw [hk] at hj; simp at hj; rw [← hj]; exact hA j k hk) (by intro u hu; simp at hu; obtain ⟨k, _, rfl⟩ := hu; rfl) (by simp only [maxLen]; omega) (by omega) (Nat.zero_le _)
  rcases hown.2 with ⟨h', _⟩ | ⟨g', cap, cur, rfl, _, hg, h2, h3, h4, h5⟩
  · exact absurd (hnil.1 h').2 (by omega)
  · have hgw : g' = w.heap.size := by
      rcases hloc with h | h
      · simp [Value.ownBlock] at h
      · simpa [Value.ownBlock] using h
    subst hgw
    refine ⟨cap, w', by simpa using hr, ⟨fun j k hj => cell_at hg ?_, heap_lt hg, ⟨hgrow.os, hgrow.tape, hgrow.output, hgrow.size, fun k hk _ => hgrow.block k hk (by simp [Value.ownBlock])⟩⟩⟩
    have hjl : j < ks.length := (List.getElem?_eq_some_iff.1 hj).1
    have : (cur.toList.take ((0 + ks.length) * 1))[j]? = some (.string (nmA k)) := by
      rw [h5]; simp [hj]
    rw [List.getElem?_take_of_lt (by omega)] at this
    simpa using this

section
variable {w : World} {ops : Array Oper} {o : Oper} {a : Act} {K : Act → World → Prop} {Q : Exit → Act → World → Prop}
theorem wp_appS (s x : Operand) (ho : o.op = .call { callee := .builtin .append, args := #[s, x], argTypes := #[24, 24] })
    (hs : a.eval s = .slice none 0 0) (g c : Nat) (ks : List Nat) (hx : a.eval x = .slice (some ⟨g, 0, none⟩) ks.length c) (hA : AtS w g ks) (h0 : ks ≠ []) (hlen : ks.length ≤ 256)
    (h : ∀ cap w', AppS w w' ks cap → K (a.put o.dst (.slice (some ⟨w.heap.size, 0, none⟩) ks.length cap)) w') : Oper.wp Ybaf.prog o a w K Q := by
  obtain ⟨cap, w', hr, happ⟩ := run_appS w o.type g c ks hA h0 hlen
  unfold Oper.wp execOp
  simp only [ho, resolve, invoke, builtin, Sem.run_bind, Sem.run_pure, Result.andThen_ok, List.map_toArray, List.map_cons, List.map_nil, hs, hx, hr]
  exact h cap w' happ
theorem step_appS {E : Prop} (hgd : o.guard = none) (s x : Operand) (ho : o.op = .call { callee := .builtin .append, args := #[s, x], argTypes := #[24, 24] })
    (hs : a.eval s = .slice none 0 0) (g c : Nat) (ks : List Nat) (hx : a.eval x = .slice (some ⟨g, 0, none⟩) ks.length c) (hA : AtS w g ks) (h0 : ks ≠ []) (hlen : ks.length ≤ 256)
    (h : ∀ cap w', AppS w w' ks cap → K (a.put o.dst (.slice (some ⟨w.heap.size, 0, none⟩) ks.length cap)) w') : if Region.wanted o (yielded ops a.tmps) = true then Oper.wp Ybaf.prog o a w K Q else E := by
  have hw : Region.wanted o (yielded ops a.tmps) = true := by simp [Region.wanted, hgd]
  rw [if_pos hw]
  exact wp_appS s x ho hs g c ks hx hA h0 hlen h
end

abbrev zero38 : Value := .agg #[.int .u64 0, .string ⟨#[]⟩, .map none, .map none]

section
variable {i : Ids} {n me : Nat} {w w' : World} {t : Int} {td : List Int} {ow : Value}
set_option maxRecDepth 100000 in
set_option maxHeartbeats 1000000 in
theorem Send_bad (F : Interp) (hF : F.answers w.tape) (v : SrvA i n me w 0 t td ow) (g cap : Nat) (ks : List Nat) (hlen : ks.length ≤ 256) (h7 : ∀ k ∈ ks, k ≤ n) (hA : AtS w g ks) (hbad : ¬ okSend n me ks) :
    Calls Ybaf.prog 7 #[.pointer (some ⟨i.D, 0, none⟩), .slice (some ⟨g, 0, none⟩) ks.length cap] w fun e w' => ∃ b s, e = .returned (.tuple #[zero38, .iface 161 (.pointer (some ⟨b, 0, none⟩))]) ∧ Kp [] w w' ∧ w.heap.size ≤ b ∧ w'.heap[b]? = some (.cells #[.string s] 163) := by
  have hlD := heap_lt v.d
  have K0 := (Kp.refl [] w).alloc (.cells #[.int .u64 0, .string ⟨#[]⟩, .map none, .map none] 38)
  go_enter_defers Ybaf.func7, Ybaf.ntmps7
  go_wp2_with fail
  refine (receivers_c F ?_ (v.kp0 K0) g cap ks hlen h7 (hA.kp K0 (by simp))).mono ?_
  · exact hF
  rintro e w1 ⟨k1, hc⟩
  rcases hc with ⟨hok, _⟩ | ⟨_, er, rfl, b, s, rfl, hb, hbs⟩
  · exact absurd hok hbad
  have hr1 := k1.heap (heap_new w (.cells #[.int .u64 0, .string ⟨#[]⟩, .map none, .map none] 38)) (by simp)
  simp at hb
  have r0 := cell_at (i := 0) (v := .int .u64 0) hr1 rfl
  have r1 := cell_at (i := 1) (v := .string ⟨#[]⟩) hr1 rfl
  have r2 := cell_at (i := 2) (v := .map none) hr1 rfl
  have r3 := cell_at (i := 3) (v := .map none) hr1 rfl
  have f0 := frozen_at (i := 0) hr1
  have f1 := frozen_at (i := 1) hr1
  have f2 := frozen_at (i := 2) hr1
  have f3 := frozen_at (i := 3) hr1
  have hlr := heap_lt hr1
  go_wp2
  have K1 : Kp [] w w1 := K0.trans k1
  have hR := heap_set (i := 3) (.map none) (heap_set (i := 2) (.map none) (heap_set (i := 1) (.string ⟨#[]⟩) (heap_set (i := 0) (.int .u64 0) hr1)))
  have KR := (((K1.set (a := ⟨w.heap.size, 0, none⟩) (.inr (Nat.le_refl _)) (.int .u64 0)).set (a := ⟨w.heap.size, 1, none⟩) (.inr (Nat.le_refl _)) (.string ⟨#[]⟩)).set (a := ⟨w.heap.size, 2, none⟩) (.inr (Nat.le_refl _)) (.map none)).set (a := ⟨w.heap.size, 3, none⟩) (.inr (Nat.le_refl _)) (.map none)
  have hB : ((((w1.setCell ⟨w.heap.size, 0, none⟩ (.int .u64 0)).setCell ⟨w.heap.size, 1, none⟩ (.string ⟨#[]⟩)).setCell ⟨w.heap.size, 2, none⟩ (.map none)).setCell ⟨w.heap.size, 3, none⟩ (.map none)).heap[b]? = some (.cells #[.string s] 163) := by
    have hne : b ≠ w.heap.size := by omega
    exact (Below.heap_setCell _ _ _ _ hne).trans ((Below.heap_setCell _ _ _ _ hne).trans ((Below.heap_setCell _ _ _ _ hne).trans ((Below.heap_setCell _ _ _ _ hne).trans hbs)))
  generalize (((w1.setCell ⟨w.heap.size, 0, none⟩ (.int .u64 0)).setCell ⟨w.heap.size, 1, none⟩ (.string ⟨#[]⟩)).setCell ⟨w.heap.size, 2, none⟩ (.map none)).setCell ⟨w.heap.size, 3, none⟩ (.map none) = w5 at hR KR hB ⊢
  have z0 := cell_at (i := 0) (v := .int .u64 0) hR rfl
  have z1 := cell_at (i := 1) (v := .string ⟨#[]⟩) hR rfl
  have z2 := cell_at (i := 2) (v := .map none) hR rfl
  have z3 := cell_at (i := 3) (v := .map none) hR rfl
  exact ⟨.tuple #[zero38, .iface 161 (.pointer (some ⟨b, 0, none⟩))], by simp [results, Ybaf.results7, go_sem, z0, z1, z2, z3], b, s, rfl, KR, by omega, hB⟩
end

end Go.Proofs.YbulkbxpiFmt
