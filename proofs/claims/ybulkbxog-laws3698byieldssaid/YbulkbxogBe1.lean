/-
  Law B's road: slices.symMergeCmpFunc: from the found cut on: the rotation and the two calls of itself.
-/
import Derived.Test.YbulkbxogBd
import Derived.Deep.CutRange
namespace Go.Proofs.Ybulkbxog
open Go.RowKit

def MergeOk (N : Nat) : Prop := ∀ (g n c a m b Bb gs S : Nat) (it : Nat → Int) (f : Nat → Nat) (w : World), b - a ≤ N → Rw w g n f → (∀ i, i < n → f i < S) → Sp w Bb gs S it → Bb ≠ g → gs ≠ g → a < m → m < b → b ≤ n → n ≤ 1024 → Srt it a m f → Srt it m b f →
    Calls Yba.prog 41 #[.slice (some ⟨g, 0, none⟩) n c, .int .i64 a, .int .i64 m, .int .i64 b, cmpv Bb] w fun e w' => e = .returned (.tuple #[]) ∧ ∃ f', Rw w' g n f' ∧ In a b f f' ∧ Srt it a b f' ∧ Fr g w w'

/-- The part of a body that begins with region k. -/
def fromReg (k : Nat) : Code → Option Code
  | .seq (.region i o b) y => if i = k then some (.seq (.region i o b) y) else fromReg k y
  | .seq (.seq a b) y => (fromReg k (.seq a b)).orElse fun _ => fromReg k y
  | .seq _ y => fromReg k y
  | _ => none

def fstC : Code → Code
  | .seq a _ => a
  | c => c
def sndC : Code → Code
  | .seq _ b => b
  | c => c

set_option maxRecDepth 1000000 in
set_option maxHeartbeats 4000000 in
theorem tail38 (c5 c6 c7 c8 c9 c10 c11 c12 c13 c14 c15 c16 c17 c22 c23 c24 c25 c26 c27 c28 c29 c30 c31 c32 c33 c34 c35 c36 c37 c38 c39 c40 c41 c42 c43 c44 c45 c46 c47 c48 c49 c50 c51 c52 c53 c54 c55 c56 c57 c58 c59 c60 c61 c62 c63 c64 c65 c66 c67 c68 c69 c70 c71 c72 c73 c74 c75 c76 c77 c78 c79 c80 c81 c82 c83 c84 c85 c86 c87 c88 c89 c90 c91 c92 c93 c94 c95 c96 c97 c98 c99 c100 c101 c102 c103 c104 c105 c106 c107 c108 c109 c110 c111 c112 c113 c114 c115 c116 c117 c118 c119 c120 c121 c122 c123 c124 c125 c126 c127 c128 c129 c130 c131 c132 c133 c134 c135 c136 c137 c138 c139 c140 c141 c142 c143 c144 c145 c146 c147 c148 c149 c150 c151 c152 c153 c154 c155 c156 c157 c158 c159 c160 c161 c162 c163 c164 c165 c166 c167 c168 c169 c170 c171 c172 c173 c174 c175 c176 c177 c178 c179 c180 c181 c182 c183 c184 c185 c186 c187 c188 c189 c190 c191 c192 c193 c194 c195 c196 c197 c198 c199 c200 c201 c202 c203 c204 c205 c206 c207 c208 c209 c210 c211 c212 c213 c214 c215 c216 c217 c218 c219 : Value) (N : Nat) (ih : MergeOk N) (g n c a m b Bb gs S : Nat) (it : Nat → Int) (f : Nat → Nat) (w0 wr : World) (mid r : Nat) (hv : ∀ i, i < n → f i < S) (hS : Sp w0 Bb gs S it) (h1 : Bb ≠ g) (h2 : gs ≠ g) (ham : a + 1 < m) (hmb : m + 1 < b) (hb : b ≤ n) (hn : n ≤ 1024) (hm1 : a < mid) (hm2 : mid < b) (hN1 : mid - a ≤ N) (hN2 : b - mid ≤ N)
    (hR : Rw wr g n f) (hF : Fr g w0 wr) (hr1 : a ≤ r) (hr2 : mid + m ≤ r + b) (hr3 : r ≤ mid) (hr4 : r ≤ m)
    (MC : Srt it a r (Rot r m (mid + m - r) f) ∧ Srt it r mid (Rot r m (mid + m - r) f) ∧ Srt it mid (mid + m - r) (Rot r m (mid + m - r) f) ∧ Srt it (mid + m - r) b (Rot r m (mid + m - r) f) ∧
      ∀ x y, a ≤ x → x < mid → mid ≤ y → y < b → it (Rot r m (mid + m - r) f x) ≤ it (Rot r m (mid + m - r) f y))
    (K : Act → World → Prop) (hK : ∀ a' w', Code.wp Yba.prog (sndC ((Yba.f41.body.bind (fromReg 38)).getD .skip)) (bodyPost Yba.prog Yba.f41 (fun e w' => e = .returned (.tuple #[]) ∧ ∃ f', Rw w' g n f' ∧ In a b f f' ∧ Srt it a b f' ∧ Fr g w0 w')) a' w' → K a' w') :
    Code.wp Yba.prog (fstC ((Yba.f41.body.bind (fromReg 38)).getD .skip)) (Exit.then K (bodyPost Yba.prog Yba.f41 (fun e w' => e = .returned (.tuple #[]) ∧ ∃ f', Rw w' g n f' ∧ In a b f f' ∧ Srt it a b f' ∧ Fr g w0 w'))) { tmps := List.toArray (.slice (some ⟨g, 0, none⟩) n c :: .int .i64 a :: .int .i64 m :: .int .i64 b :: cmpv Bb :: c5 :: c6 :: c7 :: c8 :: c9 :: c10 :: c11 :: c12 :: c13 :: c14 :: c15 :: c16 :: c17 :: .int .i64 mid :: .int .i64 ((mid : Int) + m) :: .int .i64 r :: .int .i64 r :: c22 :: c23 :: c24 :: c25 :: c26 :: c27 :: c28 :: c29 :: c30 :: c31 :: c32 :: c33 :: c34 :: c35 :: c36 :: c37 :: c38 :: c39 :: c40 :: c41 :: c42 :: c43 :: c44 :: c45 :: c46 :: c47 :: c48 :: c49 :: c50 :: c51 :: c52 :: c53 :: c54 :: c55 :: c56 :: c57 :: c58 :: c59 :: c60 :: c61 :: c62 :: c63 :: c64 :: c65 :: c66 :: c67 :: c68 :: c69 :: c70 :: c71 :: c72 :: c73 :: c74 :: c75 :: c76 :: c77 :: c78 :: c79 :: c80 :: c81 :: c82 :: c83 :: c84 :: c85 :: c86 :: c87 :: c88 :: c89 :: c90 :: c91 :: c92 :: c93 :: c94 :: c95 :: c96 :: c97 :: c98 :: c99 :: c100 :: c101 :: c102 :: c103 :: c104 :: c105 :: c106 :: c107 :: c108 :: c109 :: c110 :: c111 :: c112 :: c113 :: c114 :: c115 :: c116 :: c117 :: c118 :: c119 :: c120 :: c121 :: c122 :: c123 :: c124 :: c125 :: c126 :: c127 :: c128 :: c129 :: c130 :: c131 :: c132 :: c133 :: c134 :: c135 :: c136 :: c137 :: c138 :: c139 :: c140 :: c141 :: c142 :: c143 :: c144 :: c145 :: c146 :: c147 :: c148 :: c149 :: c150 :: c151 :: c152 :: c153 :: c154 :: c155 :: c156 :: c157 :: c158 :: c159 :: c160 :: c161 :: c162 :: c163 :: c164 :: c165 :: c166 :: c167 :: c168 :: c169 :: c170 :: c171 :: c172 :: c173 :: c174 :: c175 :: c176 :: c177 :: c178 :: c179 :: c180 :: c181 :: c182 :: c183 :: c184 :: c185 :: c186 :: c187 :: c188 :: c189 :: c190 :: c191 :: c192 :: c193 :: c194 :: c195 :: c196 :: c197 :: c198 :: c199 :: c200 :: c201 :: c202 :: c203 :: c204 :: c205 :: c206 :: c207 :: c208 :: c209 :: c210 :: c211 :: c212 :: c213 :: c214 :: c215 :: c216 :: c217 :: c218 :: c219 :: []), defers := [] } wr := by
  conv => arg 2; whnf
  conv at hK => enter [a, w, 1, 2]; whnf
  obtain ⟨e, he⟩ : ∃ e : Nat, e = mid + m - r := ⟨_, rfl⟩
  rw [← he] at MC
  have ee : (mid : Int) + m - r = e := by omega
  have hE : e + r = mid + m := by omega
  clear he
  have HE : Hid (e + r = mid + m) := hE
  clear hE
  go_upto_region 39 with fail
  go_cut [185] from 178 to 185 (fun v wx => v = .bool (decide (r < m ∧ m < e)) ∧ wx = wr)
  case first =>
    by_cases k1 : r < m
    · by_cases k2 : m < e
      · have d1 : decide ((r : Int) < m) = true := by simp; omega
        have d2 : decide ((m : Int) < e) = true := by simp; omega
        go_wp2
        go_meet
        case rel => exact ⟨by simp [k1, k2], rfl⟩
      · have d1 : decide ((r : Int) < m) = true := by simp; omega
        have d2 : decide ((m : Int) < e) = false := by simp; omega
        go_wp2
        go_meet
        case rel => exact ⟨by simp [k2], rfl⟩
    · have d1 : decide ((r : Int) < m) = false := by simp; omega
      go_wp2
      go_meet
      case rel => exact ⟨by simp [k1], rfl⟩
  case rest =>
    obtain ⟨rfl, rfl⟩ := hcut
    go_upto_if 185 with fail
    go_cut [] from 178 to 191 (fun wx => Rw wx g n (Rot r m e f) ∧ Fr g w0 wx)
    case first =>
      by_cases k : r < m ∧ m < e
      · have dk : decide (r < m ∧ m < e) = true := by simp; omega
        go_wp2_with fail
        refine (rotate_c g n c r m e f (cmpv Bb) wc hR k.1 k.2 (by have := HE.out; omega) hn).mono ?_
        rintro e' w2 ⟨rfl, hR2, hF2⟩
        go_wp2
        go_meet
        case rel => exact ⟨hR2, hF.trans hF2⟩
      · have dk : decide (r < m ∧ m < e) = false := by simp; omega
        go_wp2
        go_meet
        case rel =>
          refine ⟨?_, hF⟩
          have := HE.out
          by_cases k1 : r = m
          · subst k1; rw [rot_right _ _ _ (by omega)]; exact hR
          · obtain rfl : e = m := by omega
            rw [rot_left _ _ _ (by omega)]; exact hR
    case rest =>
      clear hR hF
      obtain ⟨hR, hF⟩ := hcut
      have I1 : In a b f (Rot r m e f) := (In.rot f hr4 (by have := HE.out; omega)).wide hr1 (by have := HE.out; omega)
      obtain ⟨s1, s2, s3, s4, s5⟩ := MC
      generalize Rot r m e f = G at I1 s1 s2 s3 s4 s5 hR
      go_upto_region 41 with fail
      obtain ⟨w1, hw1⟩ : ∃ x, x = wc := ⟨_, rfl⟩
      subst hw1
      go_cut [199] from 192 to 199 (fun v wx => v = .bool (decide (a < r ∧ r < mid)) ∧ wx = w1)
      case first =>
        by_cases k1 : a < r
        · by_cases k2 : r < mid
          · have d1 : decide ((a : Int) < r) = true := by simp; omega
            have d2 : decide ((r : Int) < mid) = true := by simp; omega
            go_wp2
            go_meet
            case rel => exact ⟨by simp [k1, k2], rfl⟩
          · have d1 : decide ((a : Int) < r) = true := by simp; omega
            have d2 : decide ((r : Int) < mid) = false := by simp; omega
            go_wp2
            go_meet
            case rel => exact ⟨by simp [k2], rfl⟩
        · have d1 : decide ((a : Int) < r) = false := by simp; omega
          go_wp2
          go_meet
          case rel => exact ⟨by simp [k1], rfl⟩
      case rest =>
        obtain ⟨rfl, rfl⟩ := hcut
        go_upto_if 199 with fail
        go_cut [] from 192 to 205 (fun wx => ∃ G', Rw wx g n G' ∧ In a mid G G' ∧ Srt it a mid G' ∧ Fr g w0 wx)
        case first =>
          by_cases k : a < r ∧ r < mid
          · have dk : decide (a < r ∧ r < mid) = true := by simp; omega
            go_wp2_with fail
            refine (ih g n c a r mid Bb gs S it G wc hN1 hR (I1.bound hb hv) (hS.fr hF h1 h2) h1 h2 k.1 k.2 (by omega) hn s1 s2).mono ?_
            rintro e' w2 ⟨rfl, G', hR2, hI2, hs2, hF2⟩
            go_wp2
            go_meet
            case rel => exact ⟨G', hR2, hI2, hs2, hF.trans hF2⟩
          · have dk : decide (a < r ∧ r < mid) = false := by simp; omega
            go_wp2
            go_meet
            case rel =>
              refine ⟨G, hR, In.refl _ _ _, ?_, hF⟩
              by_cases k1 : a = r
              · subst k1; exact s2
              · obtain rfl : r = mid := by omega
                exact s1
        case rest =>
          clear hR hF
          obtain ⟨G', hR, I2, s6, hF⟩ := hcut
          go_upto_region 43 with fail
          obtain ⟨w1, hw1⟩ : ∃ x, x = wc := ⟨_, rfl⟩
          subst hw1
          go_cut [213] from 206 to 213 (fun v wx => v = .bool (decide (mid < e ∧ e < b)) ∧ wx = w1)
          case first =>
            by_cases k1 : mid < e
            · by_cases k2 : e < b
              · have d1 : decide ((mid : Int) < e) = true := by simp; omega
                have d2 : decide ((e : Int) < b) = true := by simp; omega
                go_wp2
                go_meet
                case rel => exact ⟨by simp [k1, k2], rfl⟩
              · have d1 : decide ((mid : Int) < e) = true := by simp; omega
                have d2 : decide ((e : Int) < b) = false := by simp; omega
                go_wp2
                go_meet
                case rel => exact ⟨by simp [k2], rfl⟩
            · have d1 : decide ((mid : Int) < e) = false := by simp; omega
              go_wp2
              go_meet
              case rel => exact ⟨by simp [k1], rfl⟩
          case rest =>
            obtain ⟨rfl, rfl⟩ := hcut
            have J1 : Srt it mid e G' := s3.keep I2 (.inr (Nat.le_refl _))
            have J2 : Srt it e b G' := s4.keep I2 (.inr (by have := HE.out; omega))
            have J3 : Hid (∀ (G'' : Nat → Nat), In mid b G' G'' → Srt it mid b G'' → In a b f G'' ∧ Srt it a b G'') := by
              intro G'' I3 s7
              refine ⟨(I1.trans (I2.wide (Nat.le_refl _) (by omega))).trans (I3.wide (by omega) (Nat.le_refl _)), merge_join s5 (s6.keep I3 (.inl (Nat.le_refl _))) s7 ?_ ?_⟩
              · intro x x1 x2
                rw [I3.out x (.inl x2)]
                exact I2.ins x x1 x2
              · intro x x1 x2
                obtain ⟨y, y1, y2, ey⟩ := I3.ins x x1 x2
                exact ⟨y, y1, y2, ey.trans (I2.out y (.inr y1))⟩
            by_cases k : mid < e ∧ e < b
            · have dk : decide (mid < e ∧ e < b) = true := by simp; omega
              go_wp2_with fail
              refine (ih g n c mid e b Bb gs S it G' wc hN2 hR (I2.bound (by omega) (I1.bound hb hv)) (hS.fr hF h1 h2) h1 h2 k.1 k.2 hb hn J1 J2).mono ?_
              rintro e' w2 ⟨rfl, G'', hR2, hI2, hs2, hF2⟩
              go_wp2
              go_end0
              exact ⟨rfl, G'', hR2, (J3.out G'' hI2 hs2).1, (J3.out G'' hI2 hs2).2, hF.trans hF2⟩
            · have dk : decide (mid < e ∧ e < b) = false := by simp; omega
              have s7 : Srt it mid b G' := by
                by_cases k1 : e = mid
                · subst k1; exact J2
                · have := HE.out
                  obtain rfl : e = b := by omega
                  exact J1
              go_wp2
              go_end0
              exact ⟨rfl, G', hR, (J3.out G' (In.refl _ _ _) s7).1, (J3.out G' (In.refl _ _ _) s7).2, hF⟩

end Go.Proofs.Ybulkbxog
