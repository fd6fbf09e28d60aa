/-
  Law B's road: the plain theory of the stable sort's parts: swap of two ranges, rotation, merge, on functions from places to values.
-/
import Derived.Test.YbulkbxogRows
namespace Go.Proofs.Ybulkbxog

/-- The ranges [a, a+n) and [b, b+n) change places. -/
def Swp (a b n : Nat) (f : Nat → Nat) : Nat → Nat := fun x => if a ≤ x ∧ x < a + n then f (x - a + b) else if b ≤ x ∧ x < b + n then f (x - b + a) else f x

/-- [p, m) and [m, q) change places. -/
def Rot (p m q : Nat) (f : Nat → Nat) : Nat → Nat := fun x => if p ≤ x ∧ x < p + (q - m) then f (x + (m - p)) else if p + (q - m) ≤ x ∧ x < q then f (x - (q - m)) else f x

theorem rot_gt (m i j : Nat) (f : Nat → Nat) (h : j < i) (hi : i ≤ m) : Rot (m - i) m (m + j) f = Rot (m - (i - j)) m (m + j) (Swp (m - i) m j f) := by
  funext x
  simp only [Rot, Swp]
  repeat' split
  all_goals first | rfl | (exfalso; omega) | (congr 1; omega)

theorem rot_lt (m i j : Nat) (f : Nat → Nat) (h : i < j) (hi : i ≤ m) : Rot (m - i) m (m + j) f = Rot (m - i) m (m + (j - i)) (Swp (m - i) (m + j - i) i f) := by
  funext x
  simp only [Rot, Swp]
  repeat' split
  all_goals first | rfl | (exfalso; omega) | (congr 1; omega)

theorem rot_eq (m i : Nat) (f : Nat → Nat) (hi : i ≤ m) : Rot (m - i) m (m + i) f = Swp (m - i) m i f := by
  funext x
  simp only [Rot, Swp]
  repeat' split
  all_goals first | rfl | (exfalso; omega) | (congr 1; omega)

theorem rot_left (p m : Nat) (f : Nat → Nat) (_h : p ≤ m) : Rot p m m f = f := by
  funext x
  simp only [Rot]
  repeat' split
  all_goals first | rfl | (exfalso; omega) | (congr 1; omega)

theorem rot_right (m q : Nat) (f : Nat → Nat) (h : m ≤ q) : Rot m m q f = f := by
  funext x
  simp only [Rot]
  repeat' split
  all_goals first | rfl | (exfalso; omega) | (congr 1; omega)

/-- Two places change. -/
def Sw (i j : Nat) (f : Nat → Nat) : Nat → Nat := fun x => if x = i then f j else if x = j then f i else f x

theorem swp_zero (a b : Nat) (f : Nat → Nat) : Swp a b 0 f = f := by
  funext x
  simp only [Swp]
  repeat' split
  all_goals first | rfl | (exfalso; omega)

theorem swp_succ (a b n : Nat) (f : Nat → Nat) (h : a + n < b) : Sw (a + n) (b + n) (Swp a b n f) = Swp a b (n + 1) f := by
  funext x
  simp only [Swp, Sw]
  repeat' split
  all_goals first | rfl | (exfalso; omega) | (congr 1; omega)

theorem rot_up (a k : Nat) (f : Nat → Nat) (h : a ≤ k) : Sw k (k + 1) (Rot a (a + 1) (k + 1) f) = Rot a (a + 1) (k + 2) f := by
  funext x
  simp only [Rot, Sw]
  repeat' split
  all_goals first | rfl | (exfalso; omega) | (congr 1; omega)

theorem rot_down (m k : Nat) (f : Nat → Nat) (h : k + 1 ≤ m) : Sw (k + 1) k (Rot (k + 1) m (m + 1) f) = Rot k m (m + 1) f := by
  funext x
  simp only [Rot, Sw]
  repeat' split
  all_goals first | rfl | (exfalso; omega) | (congr 1; omega)

/-- What a step may do to [a, b): nothing outside, and inside only values that stood inside. -/
structure In (a b : Nat) (f f' : Nat → Nat) : Prop where
  out : ∀ x, x < a ∨ b ≤ x → f' x = f x
  ins : ∀ x, a ≤ x → x < b → ∃ y, a ≤ y ∧ y < b ∧ f' x = f y

theorem In.refl (a b : Nat) (f : Nat → Nat) : In a b f f := ⟨fun _ _ => rfl, fun x h1 h2 => ⟨x, h1, h2, rfl⟩⟩

theorem In.trans {a b : Nat} {f g h : Nat → Nat} (h1 : In a b f g) (h2 : In a b g h) : In a b f h := by
  refine ⟨fun x hx => (h2.out x hx).trans (h1.out x hx), fun x hx hy => ?_⟩
  obtain ⟨y, y1, y2, e⟩ := h2.ins x hx hy
  obtain ⟨z, z1, z2, e'⟩ := h1.ins y y1 y2
  exact ⟨z, z1, z2, e.trans e'⟩

theorem In.wide {a b a' b' : Nat} {f g : Nat → Nat} (h : In a b f g) (ha : a' ≤ a) (hb : b ≤ b') : In a' b' f g := by
  refine ⟨fun x hx => h.out x (by omega), fun x hx hy => ?_⟩
  by_cases hx' : a ≤ x ∧ x < b
  · obtain ⟨y, y1, y2, e⟩ := h.ins x hx'.1 hx'.2
    exact ⟨y, by omega, by omega, e⟩
  · exact ⟨x, hx, hy, h.out x (by omega)⟩

theorem In.sw {a b i j : Nat} (f : Nat → Nat) (hi : a ≤ i ∧ i < b) (hj : a ≤ j ∧ j < b) : In a b f (Sw i j f) := by
  refine ⟨fun x hx => ?_, fun x hx hy => ?_⟩
  · simp only [Sw]; rw [if_neg (by omega), if_neg (by omega)]
  · simp only [Sw]
    by_cases h1 : x = i
    · rw [if_pos h1]; exact ⟨j, hj.1, hj.2, rfl⟩
    · rw [if_neg h1]
      by_cases h2 : x = j
      · rw [if_pos h2]; exact ⟨i, hi.1, hi.2, rfl⟩
      · rw [if_neg h2]; exact ⟨x, hx, hy, rfl⟩

theorem In.rot {p m q : Nat} (f : Nat → Nat) (h1 : p ≤ m) (h2 : m ≤ q) : In p q f (Rot p m q f) := by
  refine ⟨fun x hx => ?_, fun x hx hy => ?_⟩
  · simp only [Rot]; rw [if_neg (by omega), if_neg (by omega)]
  · simp only [Rot]
    by_cases h : p ≤ x ∧ x < p + (q - m)
    · rw [if_pos h]; exact ⟨_, by omega, by omega, rfl⟩
    · rw [if_neg h, if_pos (by omega)]; exact ⟨_, by omega, by omega, rfl⟩

variable (key : Nat → Int)

/-- Sorted on [a, b). -/
def Srt (a b : Nat) (f : Nat → Nat) : Prop := ∀ x y, a ≤ x → x ≤ y → y < b → key (f x) ≤ key (f y)

variable {key}

theorem Srt.sub {a b a' b' : Nat} {f : Nat → Nat} (h : Srt key a b f) (ha : a ≤ a') (hb : b' ≤ b) : Srt key a' b' f := fun x y h1 h2 h3 => h x y (by omega) h2 (by omega)

theorem Srt.keep {a b a' b' : Nat} {f f' : Nat → Nat} (h : Srt key a b f) (k : In a' b' f f') (hd : b ≤ a' ∨ b' ≤ a) : Srt key a b f' := fun x y h1 h2 h3 => by
  rw [k.out x (by omega), k.out y (by omega)]; exact h x y h1 h2 h3

theorem Srt.one {a b : Nat} {f : Nat → Nat} (h : b ≤ a + 1) : Srt key a b f := fun x y h1 h2 h3 => by
  obtain rfl : x = y := by omega
  exact Int.le_refl _

/-- The two halves sorted, the left one under the right one. -/
theorem Srt.join {a m b : Nat} {f : Nat → Nat} (h1 : Srt key a m f) (h2 : Srt key m b f) (h : ∀ x y, a ≤ x → x < m → m ≤ y → y < b → key (f x) ≤ key (f y)) : Srt key a b f := fun x y hx hxy hy => by
  by_cases e1 : y < m
  · exact h1 x y hx hxy e1
  · by_cases e2 : m ≤ x
    · exact h2 x y e2 hxy hy
    · exact h x y hx (by omega) (by omega) hy

/-- One element in front of a sorted row goes to its place. -/
theorem Srt.first {a b i : Nat} {f : Nat → Nat} (h : Srt key (a + 1) b f) (hi : a + 1 ≤ i) (hib : i ≤ b) (h1 : i = a + 1 ∨ key (f (i - 1)) < key (f a)) (h2 : i = b ∨ key (f a) ≤ key (f i)) : Srt key a b (Rot a (a + 1) i f) := by
  have hl : ∀ x, a + 1 ≤ x → x < i → key (f x) ≤ key (f a) := fun x e1 e2 => by
    rcases h1 with h1 | h1
    · omega
    · have := h x (i - 1) e1 (by omega) (by omega); omega
  have hr : ∀ x, i ≤ x → x < b → key (f a) ≤ key (f x) := fun x e1 e2 => by
    rcases h2 with h2 | h2
    · omega
    · have := h i x hi e1 e2; omega
  intro x y e1 e2 e3
  simp only [Rot]
  repeat' split
  all_goals first
    | (exfalso; omega)
    | exact h _ _ (by omega) (by omega) (by omega)
    | (rw [show y - (i - (a + 1)) = a by omega]; exact hl _ (by omega) (by omega))
    | (rw [show x - (i - (a + 1)) = a by omega, show y - (i - (a + 1)) = a by omega]; exact Int.le_refl _)
    | (rw [show x - (i - (a + 1)) = a by omega]; exact hr _ (by omega) (by omega))

/-- One element behind a sorted row goes to its place. -/
theorem Srt.last {a m i : Nat} {f : Nat → Nat} (h : Srt key a m f) (hi : a ≤ i) (him : i ≤ m) (h1 : i = a ∨ key (f (i - 1)) ≤ key (f m)) (h2 : i = m ∨ key (f m) < key (f i)) : Srt key a (m + 1) (Rot i m (m + 1) f) := by
  have hl : ∀ x, a ≤ x → x < i → key (f x) ≤ key (f m) := fun x e1 e2 => by
    rcases h1 with h1 | h1
    · omega
    · have := h x (i - 1) e1 (by omega) (by omega); omega
  have hr : ∀ x, i ≤ x → x < m → key (f m) ≤ key (f x) := fun x e1 e2 => by
    rcases h2 with h2 | h2
    · omega
    · have := h i x hi e1 e2; omega
  intro x y e1 e2 e3
  simp only [Rot]
  repeat' split
  all_goals first
    | (exfalso; omega)
    | exact h _ _ (by omega) (by omega) (by omega)
    | (rw [show x + (m - i) = m by omega, show y + (m - i) = m by omega]; exact Int.le_refl _)
    | (rw [show x + (m - i) = m by omega]; exact hr _ (by omega) (by omega))
    | (rw [show y + (m - i) = m by omega]; exact hl _ (by omega) (by omega))

/-- Behind the rotation of 'symMerge': the four pieces are sorted, and what lies left of mid is under what lies right of it. -/
theorem merge_cut {a m b mid s : Nat} {f : Nat → Nat} (h1 : Srt key a m f) (h2 : Srt key m b f) (ham : a < m) (hmb : m < b) (hmid : mid = (a + b) / 2)
    (hs0 : a ≤ s) (hs1 : mid + m ≤ s + b) (hs2 : s ≤ mid) (hs3 : s ≤ m)
    (hlo : s = a ∨ s + b = mid + m ∨ key (f (s - 1)) ≤ key (f (mid + m - s))) (hhi : s = mid ∨ s = m ∨ key (f (mid + m - 1 - s)) < key (f s)) :
    Srt key a s (Rot s m (mid + m - s) f) ∧ Srt key s mid (Rot s m (mid + m - s) f) ∧ Srt key mid (mid + m - s) (Rot s m (mid + m - s) f) ∧ Srt key (mid + m - s) b (Rot s m (mid + m - s) f) ∧
      ∀ x y, a ≤ x → x < mid → mid ≤ y → y < b → key (Rot s m (mid + m - s) f x) ≤ key (Rot s m (mid + m - s) f y) := by
  obtain ⟨e, he⟩ : ∃ e, e = mid + m - s := ⟨_, rfl⟩
  rw [← he] at hlo ⊢
  have hA : ∀ x y, a ≤ x → x < s → e ≤ y → y < b → key (f x) ≤ key (f y) := fun x y e1 e2 e3 e4 => by
    rcases hlo with h | h | h
    · omega
    · omega
    · have p1 := h1 x (s - 1) e1 (by omega) (by omega)
      have p2 := h2 e y (by omega) e3 e4
      omega
  have hB : ∀ x y, m ≤ x → x < e → s ≤ y → y < m → key (f x) ≤ key (f y) := fun x y e1 e2 e3 e4 => by
    rcases hhi with h | h | h
    · omega
    · omega
    · have p1 := h2 x (mid + m - 1 - s) e1 (by omega) (by omega)
      have p2 := h1 s y hs0 e3 e4
      omega
  refine ⟨?_, ?_, ?_, ?_, ?_⟩
  · intro x y e1 e2 e3
    simp only [Rot]
    rw [if_neg (by omega), if_neg (by omega), if_neg (by omega), if_neg (by omega)]
    exact h1 x y e1 e2 (by omega)
  · intro x y e1 e2 e3
    simp only [Rot]
    rw [if_pos (by omega), if_pos (by omega)]
    exact h2 _ _ (by omega) (by omega) (by omega)
  · intro x y e1 e2 e3
    simp only [Rot]
    rw [if_neg (by omega), if_pos (by omega), if_neg (by omega), if_pos (by omega)]
    exact h1 _ _ (by omega) (by omega) (by omega)
  · intro x y e1 e2 e3
    simp only [Rot]
    rw [if_neg (by omega), if_neg (by omega), if_neg (by omega), if_neg (by omega)]
    exact h2 x y (by omega) e2 e3
  · intro x y e1 e2 e3 e4
    simp only [Rot]
    repeat' split
    all_goals first
      | (exfalso; omega)
      | exact hB _ _ (by omega) (by omega) (by omega) (by omega)
      | exact hA _ _ (by omega) (by omega) (by omega) (by omega)
      | exact h1 _ _ (by omega) (by omega) (by omega)
      | exact h2 _ _ (by omega) (by omega) (by omega)

/-- Both halves merged. -/
theorem merge_join {a b mid : Nat} {f f' : Nat → Nat} (hf : ∀ x y, a ≤ x → x < mid → mid ≤ y → y < b → key (f x) ≤ key (f y)) (hl : Srt key a mid f') (hr : Srt key mid b f')
    (hi1 : ∀ x, a ≤ x → x < mid → ∃ y, a ≤ y ∧ y < mid ∧ f' x = f y) (hi2 : ∀ x, mid ≤ x → x < b → ∃ y, mid ≤ y ∧ y < b ∧ f' x = f y) : Srt key a b f' :=
  hl.join hr fun x y h1 h2 h3 h4 => by
    obtain ⟨x', p1, p2, e1⟩ := hi1 x h1 h2
    obtain ⟨y', q1, q2, e2⟩ := hi2 y h3 h4
    rw [e1, e2]; exact hf x' y' p1 p2 q1 q2

end Go.Proofs.Ybulkbxog
