/-
  A region that draws its order, by an invariant over which operations have been carried out: one step an operation, whatever the order.
-/
import Derived.Test.YbulkbxpiFmtAp
import Derived.Orders
namespace Go.Proofs.YbulkbxpiFmt
open Go.RowKit

theorem getD_lt {listed : Array Bool} {j : Nat} (h : listed.getD j true = false) : ∃ hj : j < listed.size, listed[j] = false := by
  by_cases hj : j < listed.size
  · exact ⟨hj, by simpa [Array.getD, hj] using h⟩
  · simp [Array.getD, hj] at h

theorem count_set {l : List Bool} {j : Nat} (hj : j < l.length) (h : l[j] = false) : (l.set j true).count false + 1 = l.count false := by
  induction l generalizing j with
  | nil => simp at hj
  | cons x xs ih =>
    cases j with
    | zero => simp at h; subst h; simp
    | succ j =>
      simp at h hj
      have := ih hj h
      simp only [List.set_cons_succ, List.count_cons]
      omega

theorem wpAny_inv {P : Program} {ops : Array Oper} {Q : Exit → Act → World → Prop} (Inv : Array Bool → Act → World → Prop)
    (hs : ∀ listed a w j o, listed.size = ops.size → Inv listed a w → listed.getD j true = false → ops[j]? = some o → (∀ e ∈ o.after, Region.binds .any e = true → listed.getD e.on false = true) → wpOp P ops Q j (Inv (listed.setIfInBounds j true)) a w)
    (hd : ∀ listed a w, listed.size = ops.size → Inv listed a w → (∀ j o, ops[j]? = some o → (∀ e ∈ o.after, Region.binds .any e = true → listed.getD e.on false = true) → listed.getD j true = true) → Q .normal a w) :
    ∀ fuel (listed : Array Bool) a w, listed.size = ops.size → listed.toList.count false ≤ fuel → Inv listed a w → wpAny P .any ops Q fuel listed a w := by
  have hdone : ∀ (listed : Array Bool) a w, listed.size = ops.size → Inv listed a w → Region.ready .any ops listed = [] → Q .normal a w := by
    intro listed a w hsz hI hr
    refine hd listed a w hsz hI fun j o ho hdep => ?_
    cases hl : listed.getD j true with
    | true => rfl
    | false =>
      have : j ∈ Region.ready .any ops listed := mem_ready.2 ⟨hl, o, ho, hdep⟩
      rw [hr] at this
      cases this
  intro fuel
  induction fuel with
  | zero =>
    intro listed a w hsz hc hI
    have hr : Region.ready .any ops listed = [] := by
      cases hr : Region.ready .any ops listed with
      | nil => rfl
      | cons j rest =>
        have hj : j ∈ Region.ready .any ops listed := by rw [hr]; simp
        obtain ⟨hl, _⟩ := mem_ready.1 hj
        obtain ⟨hlt, he⟩ := getD_lt hl
        have := count_set (l := listed.toList) (j := j) (by simpa using hlt) (by simpa using he)
        omega
    exact ⟨hr, hdone listed a w hsz hI hr⟩
  | succ fuel ih =>
    intro listed a w hsz hc hI
    refine ⟨hdone listed a w hsz hI, fun j hj => ?_⟩
    obtain ⟨hl, o, ho, hdep⟩ := mem_ready.1 hj
    obtain ⟨hlt, he⟩ := getD_lt hl
    have hcnt := count_set (l := listed.toList) (j := j) (by simpa using hlt) (by simpa using he)
    refine wpOp_mono (fun a' w' h => ih _ a' w' (by simpa using hsz) ?_ h) (hs listed a w j o hsz hI hl ho hdep)
    simp
    omega

theorem wp_region_inv {P : Program} {ops : Array Oper} {Q : Exit → Act → World → Prop} {id : Nat} {a : Act} {w : World} (hm : P.follows .mixedOrders = true) (Inv : Array Bool → Act → World → Prop)
    (h0 : Inv (Array.replicate ops.size false) a w.drew)
    (hs : ∀ listed a w j o, listed.size = ops.size → Inv listed a w → listed.getD j true = false → ops[j]? = some o → (∀ e ∈ o.after, Region.binds .any e = true → listed.getD e.on false = true) → wpOp P ops Q j (Inv (listed.setIfInBounds j true)) a w)
    (hd : ∀ listed a w, listed.size = ops.size → Inv listed a w → (∀ j o, ops[j]? = some o → (∀ e ∈ o.after, Region.binds .any e = true → listed.getD e.on false = true) → listed.getD j true = true) → Q .normal a w) :
    (Code.region id ops true).wp P Q a w :=
  wp_region_any hm (wpAny_inv Inv hs hd ops.size _ _ _ (by simp) (by simp) h0)

end Go.Proofs.YbulkbxpiFmt
