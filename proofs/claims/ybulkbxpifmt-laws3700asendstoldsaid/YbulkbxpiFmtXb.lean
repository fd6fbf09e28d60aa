/-
  'checkReceivers'.
-/
import Derived.Test.YbulkbxpiFmtXa
namespace Go.Proofs.YbulkbxpiFmt
open Go.RowKit Go.MuLone Go.Stop

theorem errNew_c (s : ByteArray) (w : World) : Calls Ybaf.prog 53 #[.string s] w fun e w' => ∃ er, e = .returned er ∧ Kp [] w w' ∧ NewErr w w' er := by
  go_enter Ybaf.func53, Ybaf.ntmps53
  go_wp2
  go_ret
  exact ⟨_, rfl, (Kp.refl [] w).alloc _, _, s, rfl, Nat.le_refl _, heap_new w _⟩

/-- Whom a message may be sent to, by 'checkReceivers'. -/
def okTo (me : Nat) (ks : List Nat) : Prop := ks ≠ [] ∧ me ∉ ks ∧ ks.Nodup

theorem take_succ' {ks : List Nat} {k x : Nat} (h : ks[k]? = some x) : ks.take (k + 1) = ks.take k ++ [x] := by
  obtain ⟨hl, rfl⟩ := List.getElem?_eq_some_iff.1 h
  rw [List.take_succ_eq_append_getElem hl]

set_option maxRecDepth 100000 in
set_option maxHeartbeats 1000000 in
theorem check_c (F : Interp) (w : World) (hF : F.answers w.tape) (me g cap : Nat) (ks : List Nat) (hlen : ks.length ≤ 256) (h7 : ∀ k ∈ ks, k < 7) (hme : me < 7) (hA : AtS w g ks) :
    Calls Ybaf.prog 36 #[.string (nmA me), .slice (some ⟨g, 0, none⟩) ks.length cap] w fun e w' => Kp [] w w' ∧ ((okTo me ks ∧ e = .returned .nilIface) ∨ (¬ okTo me ks ∧ ∃ er, e = .returned er ∧ NewErr w w' er)) := by
  have hmk := fun n w => run_makeMapA (P := Ybaf.prog) 139 9 4 n w Ybaf.underlying139
  by_cases h0 : ks = []
  · subst h0
    go_enter Ybaf.func36, Ybaf.ntmps36
    go_wp2_with fail
    refine (errNew_c _ w).mono ?_
    rintro e w' ⟨er, rfl, k1, hn⟩
    go_wp2
    go_ret
    exact ⟨k1, .inr ⟨fun h => h.1 rfl, er, rfl, hn⟩⟩
  · have hl0 : (ks.length : Int) ≠ 0 := by have := List.length_pos_iff.2 h0; omega
    have hl1 : ((ks.length : Int) == 0) = false := by simpa using hl0
    go_enter Ybaf.func36, Ybaf.ntmps36
    go_wp2
    go_loopw [17] (fun i wr => ∃ k : Nat, k ≤ ks.length ∧ i = .int .i64 k ∧ Kp [] w wr ∧ w.heap.size < wr.heap.size ∧ wr.heap[w.heap.size]? = some (.map (entS (fun _ => .bool true) 0 (ks.take k)).toArray k) ∧ Hid (me ∉ ks.take k ∧ (ks.take k).Nodup)) (fun i _ => ks.length - (intOf i).toNat)
    case atStart => exact ⟨0, Nat.zero_le _, rfl, (Kp.refl [] w).alloc _, by simp, by simpa [entS] using heap_new w (.map #[] 0), by show _ ∧ _; simp⟩
    case round =>
      obtain ⟨k, hk, rfl, kr, hsz, hm, HN⟩ := hrel
      by_cases hlt : k < ks.length
      · obtain ⟨x, hx⟩ : ∃ x, ks[k]? = some x := ⟨ks[k], by simp [hlt]⟩
        have hx7 := h7 x (List.mem_of_getElem? hx)
        have c1 := hA.kp kr (by simp) k x hx
        have HX : Hid (ks[k]? = some x) := hx
        have HA : Hid (AtS w g ks) := hA
        clear hx hA
        by_cases hs : x = me
        · subst hs
          go_wp2_with fail
          refine (errorf_ToSelf F _ 1 (nmA x) _ ?_ ?_).mono ?_
          · show F.answers wr.tape; rw [kr.tape]; exact hF
          · simp
          rintro e w' ⟨rfl, s, rfl⟩
          go_wp2
          go_ret
          exact ⟨((kr.alloc _).alloc _).drew, .inr ⟨fun h => h.2.1 (List.mem_of_getElem? HX), _, rfl, NewErr.mk s _ (by simp) (by omega)⟩⟩
        · have hne : ¬ (nmA x).toList = (nmA me).toList := by have := nmA_list x hx7 me hme; simpa [hs] using this
          have hne' : ((nmA x).toList == (nmA me).toList) = false := by rw [nmA_list x hx7 me hme]; simpa using hs
          have h7' : ∀ y ∈ ks.take k, y < 7 := fun y hy => h7 y (List.mem_of_mem_take hy)
          by_cases hin : x ∈ ks.take k
          · obtain ⟨p, hf⟩ := findS_hit (fun _ => .bool true) x hx7 (ks.take k) h7' hin 0 0
            have hlk := run_look_hit 139 9 4 Ybaf.underlying139 Ybaf.underlying9 hm (nmA x) p (.bool true) hf false
            generalize hsx : nmA x = sx at c1 hne hne' hlk
            generalize hsm : nmA me = sm at hne hne'
            go_wp2_with fail
            refine (errorf_Twice F _ 1 sx _ ?_ ?_).mono ?_
            · show F.answers wr.tape; rw [kr.tape]; exact hF
            · simp
            rintro e w' ⟨rfl, s, rfl⟩
            go_wp2
            go_ret
            refine ⟨((kr.alloc _).alloc _).drew, .inr ⟨fun h => ?_, _, rfl, NewErr.mk s _ (by simp) (by omega)⟩⟩
            have h1 := h.2.2
            have h2 : (ks.take (k + 1)).Nodup := (List.take_sublist _ _).nodup h1
            rw [take_succ' HX, List.nodup_append] at h2
            exact h2.2.2 x hin x (by simp) rfl
          · have hf := findS_miss (fun _ => .bool true) x hx7 (ks.take k) h7' hin 0 0
            have hlk := run_look_miss 139 9 4 Ybaf.underlying139 Ybaf.underlying9 hm (nmA x) (.bool false) (by kernel_rfl) hf false
            have hst := run_store_miss 139 9 4 Ybaf.underlying139 Ybaf.underlying9 hm (nmA x) (.bool true) hf
            have hpush : ((entS (fun _ => Value.bool true) 0 (ks.take k)).toArray.push { key := .string (nmA x), val := .bool true, born := k }) = (entS (fun _ => Value.bool true) 0 (ks.take (k + 1))).toArray := by
              rw [take_succ' HX, entS_push]
              simp
              omega
            rw [hpush] at hst
            obtain ⟨w2, hw2⟩ : ∃ y, y = setO wr w.heap.size (.map (entS (fun _ => Value.bool true) 0 (ks.take (k + 1))).toArray (k + 1)) := ⟨_, rfl⟩
            rw [← hw2] at hst
            have k2 : Kp [] w w2 := by rw [hw2]; exact kr.setO (.inr (Nat.le_refl _)) _
            have hm2 : w2.heap[w.heap.size]? = some (.map (entS (fun _ => Value.bool true) 0 (ks.take (k + 1))).toArray (k + 1)) := by rw [hw2]; exact setO_same _ hsz
            have hs2 : w.heap.size < w2.heap.size := heap_lt hm2
            have HN2 : Hid (me ∉ ks.take (k + 1) ∧ (ks.take (k + 1)).Nodup) := by
              show _ ∧ _
              rw [take_succ' HX]
              refine ⟨by simp; exact ⟨HN.out.1, fun e => hs e.symm⟩, List.nodup_append.2 ⟨HN.out.2, by simp, fun a ha b hb => by simp at hb; subst hb; intro e; exact hin (e ▸ ha)⟩⟩
            clear hw2 hpush hf
            generalize hsx : nmA x = sx at c1 hne hne' hlk hst
            generalize hsm : nmA me = sm at hne hne'
            go_wp2
            go_roundw
            case rel => exact ⟨k + 1, by omega, by go_num, k2, hs2, hm2, HN2⟩
            case measure => simp [intOf]; omega
      · have hke : k = ks.length := by omega
        subst hke
        go_wp2
        go_ret
        have := HN.out
        rw [List.take_length] at this
        exact ⟨kr, .inl ⟨⟨h0, this.1, this.2⟩, rfl⟩⟩

theorem check_ok (F : Interp) (w : World) (hF : F.answers w.tape) (me g cap : Nat) (ks : List Nat) (hlen : ks.length ≤ 256) (h7 : ∀ k ∈ ks, k < 7) (hme : me < 7) (hA : AtS w g ks) (hok : okTo me ks) :
    Calls Ybaf.prog 36 #[.string (nmA me), .slice (some ⟨g, 0, none⟩) ks.length cap] w fun e w' => e = .returned .nilIface ∧ Kp [] w w' :=
  (check_c F w hF me g cap ks hlen h7 hme hA).mono fun e w' ⟨k, h⟩ => by
    rcases h with ⟨_, rfl⟩ | ⟨hn, _⟩
    · exact ⟨rfl, k⟩
    · exact absurd hok hn
theorem check_bad (F : Interp) (w : World) (hF : F.answers w.tape) (me g cap : Nat) (ks : List Nat) (hlen : ks.length ≤ 256) (h7 : ∀ k ∈ ks, k < 7) (hme : me < 7) (hA : AtS w g ks) (hok : ¬ okTo me ks) :
    Calls Ybaf.prog 36 #[.string (nmA me), .slice (some ⟨g, 0, none⟩) ks.length cap] w fun e w' => ∃ b s, e = .returned (.iface 161 (.pointer (some ⟨b, 0, none⟩))) ∧ Kp [] w w' ∧ w.heap.size ≤ b ∧ w'.heap[b]? = some (.cells #[.string s] 163) :=
  (check_c F w hF me g cap ks hlen h7 hme hA).mono fun e w' ⟨k, h⟩ => by
    rcases h with ⟨hn, rfl⟩ | ⟨_, er, rfl, b, s, rfl, h1, h2⟩
    · exact absurd hn hok
    · exact ⟨b, s, rfl, k, h1, h2⟩

end Go.Proofs.YbulkbxpiFmt
