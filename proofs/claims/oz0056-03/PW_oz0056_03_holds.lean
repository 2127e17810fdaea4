import PyProof.Rows.All
import Wide.All
import OpenK.AllK
import Wide.FinOn
import Flt.Zero
import PySem.Builtin.Math.Norm
import Lean
import PySem.Challenge.RW_oz0056_03
set_option Elab.async false
set_option maxRecDepth 100000
set_option maxHeartbeats 8000000
set_option linter.unusedVariables false
section
namespace Mine
open PySem PySem.Float64

/-! ## magnitudes -/
theorem V_rep : ∀ (k : Nat) (q : Nat), q ≤ 2 ^ 53 → ∃ t, V t = q * 2 ^ k
  | 0, q, h => ⟨0 * 2 ^ 52 + q, V_at h (.inr rfl)⟩
  | k + 1, q, h => by
    by_cases h2 : 2 ^ 52 ≤ q
    · exact ⟨_, V_at (k := k + 1) h (.inl h2)⟩
    · obtain ⟨t, ht⟩ := V_rep k (2 * q) (by omega)
      refine ⟨t, ht.trans ?_⟩
      rw [Nat.pow_succ]
      generalize (2 : Nat) ^ k = P
      ac_rfl

theorem V_inj {t t' : Nat} (h : V t = V t') : t = t' := by
  rcases Nat.lt_trichotomy t t' with h1 | h1 | h1
  · exact absurd h (Nat.ne_of_lt (V_lt h1))
  · exact h1
  · exact absurd h.symm (Nat.ne_of_lt (V_lt h1))

/-- a right magnitude is within half an ulp -/
theorem near_of_right {W D t : Nat} (hD : 0 < D) (h : ∀ t', Float64.dist W (D * V t) ≤ Float64.dist W (D * V t')) :
    2 * Float64.dist W (D * V t) ≤ D ∨ 2 ^ 53 * Float64.dist W (D * V t) ≤ W := by
  have hw := Nat.div_add_mod W D
  have hm := Nat.mod_lt W hD
  generalize hn : W / D = n at *
  by_cases hs : n < 2 ^ 53
  · left
    obtain ⟨t1, e1⟩ := V_rep 0 n (by omega)
    obtain ⟨t2, e2⟩ := V_rep 0 (n + 1) (by omega)
    have h1 := h t1
    have h2 := h t2
    rw [e1] at h1
    rw [e2] at h2
    simp only [Nat.pow_zero, Nat.mul_one, Nat.mul_add] at h1 h2
    generalize D * n = x at *
    generalize D * V t = y at *
    unfold Float64.dist at *
    omega
  · right
    obtain ⟨k, hk1, hk2⟩ : ∃ k, 2 ^ 52 * 2 ^ k ≤ n ∧ n < 2 ^ 53 * 2 ^ k := by
      have hn0 : n ≠ 0 := by omega
      have a1 := Nat.log2_self_le hn0
      have a2 := @Nat.lt_log2_self n
      have a3 : 52 ≤ n.log2 := (Nat.le_log2 hn0).mpr (by omega)
      refine ⟨n.log2 - 52, ?_, ?_⟩
      · rw [← Nat.pow_add, show 52 + (n.log2 - 52) = n.log2 by omega]; exact a1
      · rw [← Nat.pow_add, show 53 + (n.log2 - 52) = n.log2 + 1 by omega]; exact a2
    have hP := Nat.two_pow_pos k
    have hq := Nat.div_add_mod n (2 ^ k)
    have hr := Nat.mod_lt n hP
    have hq2 : n / 2 ^ k < 2 ^ 53 := (Nat.div_lt_iff_lt_mul hP).mpr hk2
    generalize hqe : n / 2 ^ k = q at *
    obtain ⟨t1, e1⟩ := V_rep k q (by omega)
    obtain ⟨t2, e2⟩ := V_rep k (q + 1) (by omega)
    have h1 := h t1
    have h2 := h t2
    rw [e1] at h1
    rw [e2, Nat.add_mul, Nat.one_mul] at h2
    rw [Nat.mul_comm q] at h1 h2
    -- D*(P q) ≤ W < D*(P q) + D*P
    have b1 : D * (2 ^ k * q) ≤ W := by
      have := Nat.mul_le_mul_left D (show 2 ^ k * q ≤ n by omega)
      omega
    have b2 : W ≤ D * (2 ^ k * q + 2 ^ k) := by
      have := Nat.mul_le_mul_left D (show n + 1 ≤ 2 ^ k * q + 2 ^ k by omega)
      rw [Nat.mul_add D n 1] at this
      omega
    have b3 : 2 ^ 52 * (D * 2 ^ k) ≤ W := by
      have := Nat.mul_le_mul_left D hk1
      rw [show D * (2 ^ 52 * 2 ^ k) = 2 ^ 52 * (D * 2 ^ k) by ac_rfl] at this
      omega
    rw [Nat.mul_add] at b2 h2
    generalize D * (2 ^ k * q) = x at *
    generalize D * 2 ^ k = p at *
    generalize D * V t = y at *
    unfold Float64.dist at *
    omega

/-- two right magnitudes of one quotient are one -/
theorem right_unique {r1 r2 : UInt64} {n1 n2 : Bool} {W1 D1 W2 D2 : Nat} (h1 : Right r1 n1 W1 D1) (h2 : Right r2 n2 W2 D2) (hD1 : 0 < D1) (hD2 : 0 < D2) (he : W1 * D2 = W2 * D1) :
    ∃ t, t ≤ infMag ∧ r1 = pack n1 t ∧ r2 = pack n2 t := by
  obtain ⟨t1, rfl, l1, o1, c1⟩ := h1
  obtain ⟨t2, rfl, l2, o2, c2⟩ := h2
  have key : t1 = t2 := by
    generalize hM : (2 ^ 54 - 1) * 2 ^ 2045 = M at *
    have sc : ∀ v, D2 * Float64.dist W1 (D1 * v) = D1 * Float64.dist W2 (D2 * v) := by
      intro v
      rw [← dist_mul, ← dist_mul, Nat.mul_comm D2 W1, he, Nat.mul_comm W2 D1, show D2 * (D1 * v) = D1 * (D2 * v) by ac_rfl]
    have ov : D1 * M ≤ 2 * W1 ↔ D2 * M ≤ 2 * W2 := by
      have e1 : D2 * (D1 * M) = D1 * (D2 * M) := by ac_rfl
      have e2 : D2 * (2 * W1) = D1 * (2 * W2) := by rw [Nat.mul_left_comm, Nat.mul_comm D2, he]; ac_rfl
      constructor
      · intro h; refine Nat.le_of_mul_le_mul_left (c := D1) ?_ hD1; rw [← e1, ← e2]; exact Nat.mul_le_mul_left _ h
      · intro h; refine Nat.le_of_mul_le_mul_left (c := D2) ?_ hD2; rw [e1, e2]; exact Nat.mul_le_mul_left _ h
    by_cases hi : t1 = infMag
    · have := o2.mpr (ov.mp (o1.mp hi)); omega
    · have hi2 : t2 ≠ infMag := fun h => hi (o1.mpr (ov.mpr (o2.mp h)))
      have a1 := c1 (by omega) t2
      have a2 := c2 (by omega) t1
      by_cases hV : V t1 = V t2
      · exact V_inj hV
      · exfalso
        have d21 : Float64.dist W1 (D1 * V t2) ≤ Float64.dist W1 (D1 * V t1) := by
          refine Nat.le_of_mul_le_mul_left (c := D2) ?_ hD2
          rw [sc, sc]; exact Nat.mul_le_mul_left _ a2.1
        have deq : Float64.dist W1 (D1 * V t1) = Float64.dist W1 (D1 * V t2) := Nat.le_antisymm a1.1 d21
        have deq2 : Float64.dist W2 (D2 * V t2) = Float64.dist W2 (D2 * V t1) := by
          refine Nat.eq_of_mul_eq_mul_left hD1 ?_
          rw [← sc, ← sc, deq]
        have p1 := a1.2 (fun h => hV h.symm) deq
        have p2 := a2.2 hV deq2
        -- a midpoint neighbour
        have step : ∀ a b : Nat, a < b → a % 2 = 0 → b % 2 = 0 → Float64.dist W1 (D1 * V a) = Float64.dist W1 (D1 * V b) →
            (∀ t', Float64.dist W1 (D1 * V a) ≤ Float64.dist W1 (D1 * V t')) → False := by
          intro a b hab pa pb hd hmin
          have m := hmin (a + 1)
          have v1 := Nat.mul_lt_mul_of_pos_left (V_succ a) hD1
          have v2 := Nat.mul_lt_mul_of_pos_left (V_lt (show a + 1 < b by omega)) hD1
          generalize D1 * V a = x at *
          generalize D1 * V b = y at *
          generalize D1 * V (a + 1) = z at *
          unfold Float64.dist at *
          omega
        rcases Nat.lt_trichotomy t1 t2 with h | h | h
        · exact step t1 t2 h p1 p2 deq (fun t' => (c1 (by omega) t').1)
        · exact hV (by rw [h])
        · refine step t2 t1 h p2 p1 deq.symm (fun t' => ?_)
          rw [← deq]; exact (c1 (by omega) t').1
  exact ⟨t1, l1, rfl, by rw [key]⟩

/-! ## floats as rationals -/
def Fin (x : UInt64) : Prop := ∃ a m e, decode x = .fin a m e
def TW : Rat := 2 ^ 1074
theorem TW_pos : 0 < TW := Rat.pow_pos (by decide)
def R (x : UInt64) : Rat := (val x : Rat) / TW
theorem R_mul (x : UInt64) : R x * TW = (val x : Rat) := Rat.div_mul_cancel (fun h => by have := TW_pos; rw [h] at this; exact Rat.lt_irrefl this)
theorem TW_nat : TW = ((2 ^ 1074 : Nat) : Rat) := (Rat.natCast_pow 2 1074).symm

theorem fin_pack (neg : Bool) {t : Nat} (h : t < infMag) : Fin (pack neg t) := by
  obtain ⟨m, e, hd, _⟩ := decode_pack neg h
  exact ⟨_, _, _, hd⟩

def Rep (z : Rat) : Prop := ∃ (n : Int) (k : Nat), n.natAbs ≤ 2 ^ 53 ∧ z * TW = (n : Rat) * (2 : Rat) ^ k
/-- what a correctly rounded result of z tells -/
structure Rd (r : UInt64) (z : Rat) : Prop where
  fin : Fin r
  err : ∀ B, -B ≤ z → z ≤ B → z - (B * (1/2^53) + 1/2^200) ≤ R r ∧ R r ≤ z + (B * (1/2^53) + 1/2^200)
  rel : 1/2^1000 ≤ z → z - z * (1/2^53) ≤ R r ∧ R r ≤ z + z * (1/2^53)
  ex : Rep z → R r = z
  nonneg : 0 ≤ z → 0 ≤ R r
  nonpos : z ≤ 0 → R r ≤ 0

theorem le_of_mul {x y P : Rat} (h : x * P ≤ y * P) (hP : 0 < P) : x ≤ y := Rat.le_of_mul_le_mul_right h hP
theorem TW_big : 1 / 2 ^ 200 * TW ≥ 1 := by unfold TW; decide +kernel
theorem TW_big2 : 1 / 2 ^ 1000 * TW ≥ 2 ^ 53 := by unfold TW; decide +kernel
theorem TW_ne : TW ≠ 0 := fun h => by have := TW_pos; rw [h] at this; exact Rat.lt_irrefl this

/-- magnitudes: rho the result, zeta the true one -/
theorem mag_err {W D v : Nat} {ρ ζ : Rat} (hD : 0 < D) (h : 2 * Float64.dist W (D * v) ≤ D ∨ 2 ^ 53 * Float64.dist W (D * v) ≤ W) (hρ : ρ * TW = (v : Rat)) (hζ : ζ * (D : Rat) * TW = (W : Rat)) :
    (ρ ≤ ζ + (ζ * (1/2^53) + 1/2^200) ∧ ζ ≤ ρ + (ζ * (1/2^53) + 1/2^200)) ∧ (1/2^1000 ≤ ζ → ρ ≤ ζ + ζ * (1/2^53) ∧ ζ ≤ ρ + ζ * (1/2^53)) := by
  have hT := TW_pos
  have hb := TW_big
  have hb2 := TW_big2
  have hDr : (0 : Rat) < (D : Rat) := Rat.natCast_pos.mpr hD
  have hP : (0 : Rat) < (D : Rat) * TW := Rat.mul_pos hDr hT
  have hW0 : (0 : Rat) ≤ (W : Rat) := Rat.natCast_nonneg
  have e1 : ρ * ((D : Rat) * TW) = (D : Rat) * (v : Rat) := by rw [← hρ]; grind
  have e2 : ζ * ((D : Rat) * TW) = (W : Rat) := by rw [← hζ]; grind
  have hz0 : 0 ≤ ζ := le_of_mul (by rw [e2, Rat.zero_mul]; exact hW0) hP
  generalize hd : Float64.dist W (D * v) = d at *
  have f1 : D * v ≤ W + d := by unfold Float64.dist at hd; omega
  have f2 : W ≤ D * v + d := by unfold Float64.dist at hd; omega
  have g1 : (D : Rat) * (v : Rat) ≤ (W : Rat) + (d : Rat) := by rw [← Rat.natCast_mul, ← Rat.natCast_add]; exact Rat.natCast_le_natCast.mpr f1
  have g2 : (W : Rat) ≤ (D : Rat) * (v : Rat) + (d : Rat) := by rw [← Rat.natCast_mul, ← Rat.natCast_add]; exact Rat.natCast_le_natCast.mpr f2
  have key : ∀ ε : Rat, (d : Rat) ≤ ε * ((D : Rat) * TW) → ρ ≤ ζ + ε ∧ ζ ≤ ρ + ε := by
    intro ε hε
    refine ⟨le_of_mul ?_ hP, le_of_mul ?_ hP⟩
    · rw [Rat.add_mul, e1, e2]; grind
    · rw [Rat.add_mul, e1, e2]; grind
  rcases h with h | h
  · have h' : 2 * (d : Rat) ≤ (D : Rat) := by have := Rat.natCast_le_natCast.mpr h; rw [Rat.natCast_mul] at this; exact this
    have hA : (d : Rat) ≤ (1/2^200 : Rat) * ((D : Rat) * TW) := by
      have : (D : Rat) * 1 ≤ (D : Rat) * (1/2^200 * TW) := Rat.mul_le_mul_of_nonneg_left hb (Rat.le_of_lt hDr)
      grind
    have hA2 : 1/2^1000 ≤ ζ → (d : Rat) ≤ (ζ * (1/2^53) : Rat) * ((D : Rat) * TW) := by
      intro hz
      have a1 : (1/2^1000) * TW ≤ ζ * TW := Rat.mul_le_mul_of_nonneg_right hz (Rat.le_of_lt hT)
      have a2 : (2:Rat)^53 ≤ ζ * TW := Rat.le_trans hb2 a1
      have a3 : (D : Rat) * 2^53 ≤ (D : Rat) * (ζ * TW) := Rat.mul_le_mul_of_nonneg_left a2 (Rat.le_of_lt hDr)
      grind
    constructor
    · have := key _ hA
      have hz1 : 0 ≤ ζ * (1/2^53) := Rat.mul_nonneg hz0 (by decide +kernel)
      grind
    · intro hz; exact key _ (hA2 hz)
  · have h' : 2 ^ 53 * (d : Rat) ≤ (W : Rat) := by have := Rat.natCast_le_natCast.mpr h; rw [Rat.natCast_mul] at this; exact this
    have hA : (d : Rat) ≤ (ζ * (1/2^53) : Rat) * ((D : Rat) * TW) := by
      have : (ζ * (1/2^53) : Rat) * ((D : Rat) * TW) = (W : Rat) * (1/2^53) := by rw [← e2]; grind
      rw [this]; grind
    have := key _ hA
    constructor
    · have : (0 : Rat) ≤ 1/2^200 := by decide +kernel
      grind
    · intro _; exact this

theorem natAbs_pos {n : Int} (h : 0 ≤ n) : (n.natAbs : Rat) = (n : Rat) := by rw [← Rat.intCast_natCast]; congr 1; omega
theorem natAbs_neg {n : Int} (h : n ≤ 0) : (n.natAbs : Rat) = -(n : Rat) := by rw [← Rat.intCast_natCast, ← Rat.intCast_neg]; congr 1; omega
theorem nonneg_of {z P w : Rat} (h : z * P = w) (hw : 0 ≤ w) (hP : 0 < P) : 0 ≤ z := le_of_mul (by rw [h, Rat.zero_mul]; exact hw) hP

theorem sgn_false (n : Nat) : sgn false n = (n : Int) := rfl
theorem sgn_true (n : Nat) : sgn true n = -(n : Int) := rfl

theorem rd_of_right {r : UInt64} {neg : Bool} {W D : Nat} {z : Rat} (h : Right r neg W D) (hD : 0 < D) (hz : z * (D : Rat) * TW = (sgn neg W : Rat)) (hlo : -(2 ^ 900) ≤ z) (hhi : z ≤ 2 ^ 900) : Rd r z := by
  obtain ⟨t, rfl, hle, hov, hn⟩ := h
  have hT := TW_pos
  have hDr : (0 : Rat) < (D : Rat) := Rat.natCast_pos.mpr hD
  have hP : (0 : Rat) < (D : Rat) * TW := Rat.mul_pos hDr hT
  have hWle : (W : Rat) ≤ 2 ^ 900 * ((D : Rat) * TW) := by
    cases neg
    · have : (W : Rat) = z * ((D : Rat) * TW) := by rw [sgn_false, Rat.intCast_natCast] at hz; rw [← hz]; grind
      rw [this]; exact Rat.mul_le_mul_of_nonneg_right hhi (Rat.le_of_lt hP)
    · have : (W : Rat) = (-z) * ((D : Rat) * TW) := by rw [sgn_true, Rat.intCast_neg, Rat.intCast_natCast] at hz; grind
      rw [this]; exact Rat.mul_le_mul_of_nonneg_right (by grind) (Rat.le_of_lt hP)
  have hlt : t < infMag := by
    rcases Nat.lt_or_ge t infMag with h1 | h1
    · exact h1
    · exfalso
      have h2 := hov.mp (by omega)
      have h3 : W ≤ 2 ^ 900 * (D * 2 ^ 1074) := by
        rw [TW_nat] at hWle
        have : ((2 ^ 900 * (D * 2 ^ 1074) : Nat) : Rat) = 2 ^ 900 * ((D : Rat) * ((2 ^ 1074 : Nat) : Rat)) := by
          rw [Rat.natCast_mul, Rat.natCast_mul, Rat.natCast_pow]; rfl
        rw [← this] at hWle
        exact Rat.natCast_le_natCast.mp hWle
      have h4 : D * ((2 ^ 54 - 1) * 2 ^ 2045) ≤ 2 * (2 ^ 900 * (D * 2 ^ 1074)) := Nat.le_trans h2 (Nat.mul_le_mul_left 2 h3)
      have h5 : 2 * (2 ^ 900 * (D * 2 ^ 1074)) = D * (2 * (2 ^ 900 * 2 ^ 1074)) := by generalize (2:Nat)^900 = A; generalize (2:Nat)^1074 = B; ac_rfl
      rw [h5] at h4
      have h6 := Nat.le_of_mul_le_mul_left h4 hD
      exact absurd h6 (by decide +kernel)
  have hv : val (pack neg t) = sgn neg (V t) := val_pack neg hlt
  have hR : R (pack neg t) * TW = (sgn neg (V t) : Rat) := by rw [R_mul, hv]
  have near := near_of_right hD (fun t' => (hn hlt t').1)
  have exact' : ∀ t', D * V t' = W → V t = V t' := by
    intro t' e
    have := (hn hlt t').1
    rw [e] at this
    have h0 : Float64.dist W W = 0 := by unfold Float64.dist; omega
    rw [h0] at this
    have h1 : D * V t = W := by
      generalize D * V t = y at *
      unfold Float64.dist at this; omega
    exact Nat.eq_of_mul_eq_mul_left hD (h1.trans e.symm)
  have hrep : Rep z → R (pack neg t) = z := by
    rintro ⟨n, k, hn1, hn2⟩
    obtain ⟨t', ht'⟩ := V_rep k n.natAbs hn1
    have hWn : (W : Rat) = (D : Rat) * ((n.natAbs : Rat) * 2 ^ k) ∧ (sgn neg (V t') : Rat) = z * TW := by
      have hzz : z * (D : Rat) * TW = (D : Rat) * ((n : Rat) * 2 ^ k) := by rw [← hn2]; grind
      rw [hz] at hzz
      have hpk : (0 : Rat) < 2 ^ k := Rat.pow_pos (by decide)
      rw [ht', hn2]
      have hI : ((n.natAbs * 2 ^ k : Nat) : Rat) = (n.natAbs : Rat) * 2 ^ k := by rw [Rat.natCast_mul, Rat.natCast_pow]; rfl
      have hW0 : (0 : Rat) ≤ (W : Rat) := Rat.natCast_nonneg
      have hDk : (0 : Rat) < (D : Rat) * 2 ^ k := Rat.mul_pos hDr hpk
      cases neg
      · rw [sgn_false, Rat.intCast_natCast] at hzz ⊢
        have hn0 : 0 ≤ n := by
          rcases Int.lt_or_le n 0 with h | h
          · exfalso
            have h1 : (n : Rat) < 0 := Rat.intCast_neg_iff.mpr h
            have h2 : (n : Rat) * ((D : Rat) * 2 ^ k) < 0 * ((D : Rat) * 2 ^ k) := Rat.mul_lt_mul_of_pos_right h1 hDk
            grind
          · exact h
        have := natAbs_pos hn0
        rw [hI, this]; exact ⟨hzz, rfl⟩
      · rw [sgn_true, Rat.intCast_neg, Rat.intCast_natCast] at hzz ⊢
        have hn0 : n ≤ 0 := by
          rcases Int.lt_or_le 0 n with h | h
          · exfalso
            have h1 : (0 : Rat) < (n : Rat) := Rat.intCast_pos.mpr h
            have h2 : 0 * ((D : Rat) * 2 ^ k) < (n : Rat) * ((D : Rat) * 2 ^ k) := Rat.mul_lt_mul_of_pos_right h1 hDk
            grind
          · exact h
        have := natAbs_neg hn0
        rw [hI, this]; constructor <;> grind
    have hDW : D * V t' = W := by
      rw [ht']
      refine Rat.natCast_inj.mp ?_
      rw [hWn.1, Rat.natCast_mul, Rat.natCast_mul, Rat.natCast_pow]; rfl
    have hVV := exact' t' hDW
    have : R (pack neg t) * TW = z * TW := by rw [hR, hVV, hWn.2]
    exact Rat.le_antisymm (le_of_mul (by rw [this]; exact Rat.le_refl) hT) (le_of_mul (by rw [this]; exact Rat.le_refl) hT)
  have hV0 : (0 : Rat) ≤ (V t : Rat) := Rat.natCast_nonneg
  cases neg
  · rw [sgn_false, Rat.intCast_natCast] at hz hR
    have m := mag_err hD near hR hz
    have hR0 : 0 ≤ R (pack false t) := le_of_mul (by rw [hR, Rat.zero_mul]; exact hV0) hT
    refine ⟨fin_pack _ hlt, fun B h1 h2 => ?_, fun h1 => ?_, hrep, fun _ => hR0, fun h0 => ?_⟩
    · have := m.1; grind
    · have := m.2 h1; grind
    · have hW0 : (0 : Rat) ≤ (W : Rat) := Rat.natCast_nonneg
      have hz0 : z = 0 := by
        have : 0 ≤ z := nonneg_of (by rw [← Rat.mul_assoc]; exact hz) hW0 hP
        exact Rat.le_antisymm h0 this
      have : R (pack false t) = z := hrep ⟨0, 0, by decide, by rw [hz0]; decide +kernel⟩
      rw [this]; exact h0
  · rw [sgn_true, Rat.intCast_neg, Rat.intCast_natCast] at hz hR
    have hR' : (-R (pack true t)) * TW = (V t : Rat) := by grind
    have hz' : (-z) * (D : Rat) * TW = (W : Rat) := by grind
    have m := mag_err hD near hR' hz'
    have hR0 : 0 ≤ -R (pack true t) := le_of_mul (by rw [hR', Rat.zero_mul]; exact hV0) hT
    have hW0 : (0 : Rat) ≤ (W : Rat) := Rat.natCast_nonneg
    have hz0 : 0 ≤ -z := nonneg_of (by rw [← Rat.mul_assoc]; exact hz') hW0 hP
    refine ⟨fin_pack _ hlt, fun B h1 h2 => ?_, fun h1 => ?_, hrep, fun h0 => ?_, fun _ => by grind⟩
    · have := m.1; grind
    · exfalso
      have : (0 : Rat) < 1/2^1000 := by decide +kernel
      grind
    · have hz0 : z = 0 := by grind
      have : R (pack true t) = z := hrep ⟨0, 0, by decide, by rw [hz0]; decide +kernel⟩
      rw [this]; exact h0
end Mine
end
section
namespace Mine
open PySem PySem.Float64

theorem TW_ne0 : TW ≠ 0 := TW_ne
theorem eq_of_mul {x y P : Rat} (h : x * P = y * P) (hP : 0 < P) : x = y :=
  Rat.le_antisymm (le_of_mul (by rw [h]; exact Rat.le_refl) hP) (le_of_mul (by rw [h]; exact Rat.le_refl) hP)
theorem R_eq {x : UInt64} {z : Rat} (h : (val x : Rat) = z * TW) : R x = z := eq_of_mul (by rw [R_mul, h]) TW_pos

theorem fin_zero (b : Bool) : Fin (zero b) := fin_pack b (by decide)
theorem R_zero (b : Bool) : R (zero b) = 0 := by
  refine R_eq ?_
  have : val (zero b) = sgn b (V 0) := val_pack b (by decide)
  rw [this, V_zero]
  cases b <;> decide +kernel
theorem rd_exact {r : UInt64} {z : Rat} (hf : Fin r) (h : R r = z) : Rd r z := by
  have h0 : (0 : Rat) ≤ 1/2^200 := by decide +kernel
  exact ⟨hf, fun B h1 h2 => by grind, fun h1 => by have : (0:Rat) ≤ 1/2^1000 := by decide +kernel
                                                   grind, fun _ => h, fun h1 => by rw [h]; exact h1, fun h1 => by rw [h]; exact h1⟩
theorem Rd.cong {r : UInt64} {y z : Rat} (h : Rd r y) (e : y = z) : Rd r z := e ▸ h

theorem sgn_abs {z : Int} : sgn (decide (z < 0)) z.natAbs = z := by
  unfold sgn
  by_cases h : z < 0
  · rw [decide_eq_true h, if_pos rfl]; omega
  · rw [decide_eq_false h]; simp; omega

theorem add_rd {x y : UInt64} (hx : Fin x) (hy : Fin y) (lo : -(2 ^ 900) ≤ R x + R y) (hi : R x + R y ≤ 2 ^ 900) : Rd (add x y) (R x + R y) := by
  obtain ⟨a, m, e, hx⟩ := hx
  obtain ⟨b, k, f, hy⟩ := hy
  have hs : (R x + R y) * TW = ((val x + val y : Int) : Rat) := by rw [Rat.intCast_add, ← R_mul, ← R_mul]; grind
  obtain ⟨h0, h1⟩ := add_right hx hy
  by_cases hz : val x + val y = 0
  · rw [h0 hz]
    refine rd_exact (fin_zero _) ?_
    rw [R_zero]
    refine eq_of_mul ?_ TW_pos
    rw [hs, hz]; decide +kernel
  · refine rd_of_right (h1 hz) (by decide) ?_ lo hi
    rw [sgn_abs, ← hs]; grind

theorem neg_fin {y : UInt64} (hy : Fin y) : Fin (neg y) ∧ R (neg y) = -R y := by
  obtain ⟨b, k, f, hy⟩ := hy
  refine ⟨⟨_, _, _, neg_decode hy⟩, R_eq ?_⟩
  rw [neg_val hy, Rat.intCast_neg, ← R_mul]; grind
theorem sub_rd {x y : UInt64} (hx : Fin x) (hy : Fin y) (lo : -(2 ^ 900) ≤ R x - R y) (hi : R x - R y ≤ 2 ^ 900) : Rd (sub x y) (R x - R y) := by
  obtain ⟨h1, h2⟩ := neg_fin hy
  have e : R x - R y = R x + R (neg y) := by rw [h2]; grind
  rw [e] at lo hi ⊢
  unfold sub
  exact add_rd hx h1 lo hi

theorem sgn_xor {a b : Bool} {m k : Nat} : sgn (a != b) (m * k) = sgn a m * sgn b k := by
  cases a <;> cases b <;> simp [sgn, Int.neg_mul, Int.mul_neg]
theorem sgn_val {x : UInt64} {a : Bool} {m : Nat} {e : Int} (hx : decode x = .fin a m e) : sgn a (val x).natAbs = val x := by
  rw [val_natAbs hx, val_eq hx]

theorem mul_rd {x y : UInt64} (hx : Fin x) (hy : Fin y) (lo : -(2 ^ 900) ≤ R x * R y) (hi : R x * R y ≤ 2 ^ 900) : Rd (mul x y) (R x * R y) := by
  obtain ⟨a, m, e, hx⟩ := hx
  obtain ⟨b, k, f, hy⟩ := hy
  refine rd_of_right (mul_right hx hy) (Nat.two_pow_pos _) ?_ lo hi
  rw [sgn_xor, sgn_val hx, sgn_val hy, Rat.intCast_mul, ← R_mul, ← R_mul, ← TW_nat]; grind

theorem val_ne {x : UInt64} (h : R x ≠ 0) : val x ≠ 0 := fun e => h (R_eq (by rw [e]; grind))
theorem ne_of_val {x : UInt64} {a : Bool} {m : Nat} {e : Int} (hx : decode x = .fin a m e) (h : R x ≠ 0) : m ≠ 0 := fun q => by
  have := val_ne h
  rw [val_eq hx, q] at this
  simp [sgn] at this
theorem sgn_div {a b : Bool} {W D : Nat} : sgn (a != b) W * sgn b D = sgn a W * (D : Int) := by
  cases a <;> cases b <;> simp [sgn, Int.neg_mul, Int.mul_neg]
theorem div_rd {x y : UInt64} (hx : Fin x) (hy : Fin y) (h0 : R y ≠ 0) (lo : -(2 ^ 900) ≤ R x / R y) (hi : R x / R y ≤ 2 ^ 900) : Rd (div x y) (R x / R y) := by
  obtain ⟨a, m, e, hx⟩ := hx
  obtain ⟨b, k, f, hy⟩ := hy
  have hv := val_ne h0
  refine rd_of_right (div_right hx hy (ne_of_val hy h0)) (by omega) ?_ lo hi
  have e1 : sgn (a != b) ((val x).natAbs * 2 ^ 1074) * sgn b (val y).natAbs = sgn a ((val x).natAbs * 2 ^ 1074) * ((val y).natAbs : Int) := sgn_div
  rw [sgn_val hy, sgn_mul a, sgn_val hx] at e1
  have e2 := congrArg (fun z : Int => (z : Rat)) e1
  simp only [Rat.intCast_mul] at e2
  rw [show (((2 ^ 1074 : Nat) : Int) : Rat) = TW by rw [TW_nat, Rat.intCast_natCast]] at e2
  have hvr : (val y : Rat) ≠ 0 := fun q => hv (Rat.intCast_eq_zero_iff.mp q)
  rw [Rat.intCast_natCast] at e2
  have e3 : R x / R y = (val x : Rat) / (val y : Rat) := by
    have h1 := R_mul x
    have h2 := R_mul y
    have := TW_ne
    rw [← h1, ← h2]
    grind
  rw [e3]
  generalize ((val y).natAbs : Rat) = D at *
  generalize (sgn (a != b) ((val x).natAbs * 2 ^ 1074) : Rat) = S at *
  have : S = (val x : Rat) * TW * D / (val y : Rat) := by grind
  rw [this]; grind

theorem ofFrac_rd {neg : Bool} {n d : Nat} {z : Rat} (hd : 0 < d) (hz : z * (d : Rat) = (sgn neg n : Rat)) (lo : -(2 ^ 900) ≤ z) (hi : z ≤ 2 ^ 900) : Rd (ofFrac neg n d) z := by
  refine rd_of_right (ofFrac_right (W := n * 2 ^ 1074) (D := d) hd rfl hd) hd ?_ lo hi
  rw [hz, sgn_mul, Rat.intCast_mul, TW_nat, Rat.intCast_natCast]
theorem ofInt_rd {n : Int} (lo : -(2 ^ 900) ≤ (n : Rat)) (hi : (n : Rat) ≤ 2 ^ 900) : Rd (ofInt n) (n : Rat) := by
  unfold ofInt
  refine ofFrac_rd (by decide) ?_ lo hi
  rw [sgn_abs]; grind

theorem rep_int {n : Int} (h : n.natAbs ≤ 2 ^ 53) : Rep (n : Rat) := ⟨n, 1074, h, rfl⟩
theorem Rep.neg {z : Rat} (h : Rep z) : Rep (-z) := by
  obtain ⟨n, k, h1, h2⟩ := h
  exact ⟨-n, k, by omega, by rw [Rat.intCast_neg]; grind⟩

theorem fma_rd {x y w : UInt64} (hx : Fin x) (hy : Fin y) (hw : Fin w) (lo : -(2 ^ 900) ≤ R x * R y + R w) (hi : R x * R y + R w ≤ 2 ^ 900) : Rd (fma x y w) (R x * R y + R w) := by
  obtain ⟨a, m, e, hx⟩ := hx
  obtain ⟨b, k, f, hy⟩ := hy
  obtain ⟨c, n, g, hw⟩ := hw
  have he := decode_ge hx
  have hf := decode_ge hy
  have hg := decode_ge hw
  generalize hh : min (e + f) g = h at *
  have hfma : fma x y w = (if sgn (a != b) (m * k * 2 ^ (e + f - h).toNat) + sgn c (n * 2 ^ (g - h).toNat) == 0 then zero (if m * k == 0 && n == 0 then (a != b) && c else false)
      else ofBin (decide (sgn (a != b) (m * k * 2 ^ (e + f - h).toNat) + sgn c (n * 2 ^ (g - h).toNat) < 0)) (sgn (a != b) (m * k * 2 ^ (e + f - h).toNat) + sgn c (n * 2 ^ (g - h).toNat)).natAbs h) := by
    subst hh
    unfold fma
    rw [hx, hy, hw]
    rfl
  have hp : (sgn (a != b) (m * k * 2 ^ (e + f - h).toNat) + sgn c (n * 2 ^ (g - h).toNat)) * ((2 ^ (h + 2148).toNat : Nat) : Int) = val x * val y + val w * ((2 ^ 1074 : Nat) : Int) := by
    rw [Int.add_mul, ← sgn_mul, ← sgn_mul, val_eq hx, val_eq hy, val_eq hw, ← sgn_xor, ← sgn_mul, Nat.mul_assoc, Nat.mul_assoc n, Nat.mul_assoc n, ← Nat.pow_add, ← Nat.pow_add, ← Nat.pow_add]
    have e1 : (e + f - h).toNat + (h + 2148).toNat = (e + 1074).toNat + (f + 1074).toNat := by omega
    have e2 : (g - h).toNat + (h + 2148).toNat = (g + 1074).toNat + 1074 := by omega
    rw [e1, e2, Nat.pow_add]
    generalize (2 : Nat) ^ (e + 1074).toNat = A
    generalize (2 : Nat) ^ (f + 1074).toNat = B
    rw [show m * k * (A * B) = m * A * (k * B) by ac_rfl, Nat.pow_add, ← Nat.mul_assoc n]
  generalize sgn (a != b) (m * k * 2 ^ (e + f - h).toNat) + sgn c (n * 2 ^ (g - h).toNat) = s at *
  have hz : (R x * R y + R w) * TW * TW = ((s * ((2 ^ (h + 2148).toNat : Nat) : Int) : Int) : Rat) := by
    rw [hp, Rat.intCast_add, Rat.intCast_mul, Rat.intCast_mul, ← R_mul, ← R_mul, ← R_mul, Rat.intCast_natCast, ← TW_nat]; grind
  by_cases hs : s = 0
  · rw [hfma, hs]
    rw [show ((0 : Int) == 0) = true from rfl, if_pos rfl]
    refine rd_exact (fin_zero _) ?_
    rw [hs, Int.zero_mul] at hz
    rw [R_zero]
    have := TW_ne
    have h3 : ((0 : Int) : Rat) = 0 := rfl
    rw [h3] at hz
    grind
  · rw [hfma, if_neg (by simpa using hs)]
    have hr : Right (ofBin (decide (s < 0)) s.natAbs h) (decide (s < 0)) (s.natAbs * 2 ^ (h + 2148).toNat) (2 ^ 1074) := by
      unfold ofBin
      refine ofFrac_right (shift_pos _ _ _ (by decide)) ?_ (Nat.two_pow_pos _)
      have := shift_one s.natAbs h 2148 (by omega)
      rw [Nat.mul_assoc _ (2 ^ 1074) (2 ^ 1074), ← Nat.pow_add]
      exact this
    refine rd_of_right hr (Nat.two_pow_pos _) ?_ lo hi
    rw [sgn_mul, sgn_abs, ← TW_nat, ← hz]

theorem abs_fin {x : UInt64} (hx : Fin x) : Fin (Float64.abs x) ∧ (0 ≤ R x → R (Float64.abs x) = R x) ∧ (R x ≤ 0 → R (Float64.abs x) = -R x) := by
  obtain ⟨a, m, e, h⟩ := hx
  have hnan : isNaN x = false := by unfold isNaN; rw [h]
  have hle := decode_le h
  have hn : (Float64.abs x).toNat = x.toNat % 2 ^ 63 := by
    unfold Float64.abs
    rw [if_neg (by simp [hnan]), pack_toNat false (Nat.mod_lt _ (by decide))]; simp
  have h1 : (Float64.abs x).toNat / 2 ^ 63 = 0 := by omega
  have h2 : (Float64.abs x).toNat / 2 ^ 52 % 2048 = x.toNat / 2 ^ 52 % 2048 := by omega
  have h3 : (Float64.abs x).toNat % 2 ^ 52 = x.toNat % 2 ^ 52 := by omega
  have hd : decode (Float64.abs x) = .fin false m e := by
    unfold decode at h ⊢
    simp only [h1, h2, h3] at h ⊢
    split at h
    · split at h <;> cases h
    · rename_i q1
      rw [if_neg q1]
      split at h
      · rename_i q2; rw [if_pos q2]; cases h; rfl
      · rename_i q2; rw [if_neg q2]; cases h; rfl
  have hv : val (Float64.abs x) = ((m * 2 ^ (e + 1074).toNat : Nat) : Int) := by rw [val_eq hd]; rfl
  have hvx := val_eq h
  have key := R_mul x
  refine ⟨⟨_, _, _, hd⟩, fun h0 => R_eq ?_, fun h0 => R_eq ?_⟩
  · rw [key, hv, hvx]
    cases a
    · rfl
    · have hm0 : (0 : Rat) ≤ ((m * 2 ^ (e + 1074).toNat : Nat) : Rat) := Rat.natCast_nonneg
      have : 0 ≤ R x * TW := Rat.mul_nonneg h0 (Rat.le_of_lt TW_pos)
      rw [key, hvx, sgn_true, Rat.intCast_neg, Rat.intCast_natCast] at this
      rw [sgn_true, Rat.intCast_neg, Rat.intCast_natCast]
      grind
  · rw [show -R x * TW = -(R x * TW) by grind, key, hv, hvx]
    cases a
    · have hm0 : (0 : Rat) ≤ ((m * 2 ^ (e + 1074).toNat : Nat) : Rat) := Rat.natCast_nonneg
      have : 0 ≤ (-R x) * TW := Rat.mul_nonneg (by grind) (Rat.le_of_lt TW_pos)
      rw [show -R x * TW = -(R x * TW) by grind, key, hvx, sgn_false, Rat.intCast_natCast] at this
      rw [sgn_false, Rat.intCast_natCast]
      grind
    · rw [sgn_true, Rat.intCast_neg]; grind

theorem val_lt_iff {x y : UInt64} : val x < val y ↔ R x < R y := by
  rw [← Rat.intCast_lt_intCast, ← R_mul, ← R_mul]
  exact Rat.mul_lt_mul_right TW_pos
theorem val_eq_iff {x y : UInt64} : val x = val y ↔ R x = R y := by
  rw [← Rat.intCast_inj, ← R_mul, ← R_mul]
  exact ⟨fun h => eq_of_mul h TW_pos, fun h => by rw [h]⟩
theorem cmp_fin {x y : UInt64} (hx : Fin x) (hy : Fin y) : cmp x y = some (compare (val x) (val y)) := by
  obtain ⟨a, m, e, hx⟩ := hx
  obtain ⟨b, k, f, hy⟩ := hy
  exact cmp_right hx hy
theorem cmp_eq_of {x y : UInt64} (hx : Fin x) (hy : Fin y) (h : R x = R y) : (cmp x y == some .eq) = true := by
  rw [cmp_fin hx hy, val_eq_iff.mpr h, Int.compare_eq_eq.mpr rfl]; rfl
theorem cmp_lt_of {x y : UInt64} (hx : Fin x) (hy : Fin y) (h : R x < R y) : cmp x y = some .lt := by
  rw [cmp_fin hx hy, Int.compare_eq_lt.mpr (val_lt_iff.mpr h)]
theorem cmp_gt_of {x y : UInt64} (hx : Fin x) (hy : Fin y) (h : R y < R x) : cmp x y = some .gt := by
  rw [cmp_fin hx hy, Int.compare_eq_gt.mpr (val_lt_iff.mpr h)]
theorem cmp_not_lt {x y : UInt64} (hx : Fin x) (hy : Fin y) (h : R y ≤ R x) : (cmp x y == some .lt) = false := by
  rw [cmp_fin hx hy]
  have : ¬ val x < val y := fun q => by have := val_lt_iff.mp q; grind
  cases hc : compare (val x) (val y) with
  | lt => exact absurd (Int.compare_eq_lt.mp hc) this
  | eq => rfl
  | gt => rfl

/-- the root -/
theorem gap_up {t : Nat} (h : 2 ^ 52 ≤ t) : 2 ^ 52 * (V (t + 1) - V t) ≤ V t := by
  obtain ⟨k, q, ht, hq, hor, hV⟩ := V_form t
  have h2 : 2 ^ 52 ≤ q := by rcases hor with h3 | h3 <;> omega
  have e : t + 1 = k * 2 ^ 52 + (q + 1) := by omega
  rw [hV, e, V_at (by omega) (.inl (by omega)), Nat.add_mul, Nat.add_sub_cancel_left, Nat.one_mul]
  exact Nat.mul_le_mul_right _ h2
theorem gap_down {t : Nat} (h : 2 ^ 52 ≤ t) : 2 ^ 52 * (V t - V (t - 1)) ≤ V t := by
  obtain ⟨k, q, ht, hq, hor, hV⟩ := V_form t
  have h2 : 2 ^ 52 ≤ q := by rcases hor with h3 | h3 <;> omega
  by_cases h3 : 2 ^ 52 < q ∨ k = 0
  · have e : t - 1 = k * 2 ^ 52 + (q - 1) := by omega
    rw [hV, e, V_at (by omega) (by omega)]
    have : q * 2 ^ k - (q - 1) * 2 ^ k = 2 ^ k := by
      rw [← Nat.sub_mul]; rw [show q - (q - 1) = 1 by omega, Nat.one_mul]
    rw [this]
    exact Nat.mul_le_mul_right _ h2
  · have hq : q = 2 ^ 52 := by omega
    have hk : k ≠ 0 := by omega
    obtain ⟨j, rfl⟩ : ∃ j, k = j + 1 := ⟨k - 1, by omega⟩
    have e : t - 1 = j * 2 ^ 52 + (2 ^ 53 - 1) := by omega
    rw [hV, e, V_at (by omega) (.inl (by omega)), hq, Nat.pow_succ 2 j]
    generalize (2 : Nat) ^ j = P
    omega
theorem sqrt_rd {x : UInt64} (hx : Fin x) (h0 : 0 < R x) (hlo : 1 / 2 ^ 900 ≤ R x) (hhi : R x ≤ 2 ^ 900) :
    Fin (sqrt x) ∧ 0 ≤ R (sqrt x) ∧ R x ≤ R (sqrt x) * R (sqrt x) * ((1 + 1/2^53) * (1 + 1/2^53)) ∧ R (sqrt x) * R (sqrt x) * ((1 - 1/2^53) * (1 - 1/2^53)) ≤ R x := by
  obtain ⟨a, m, e, hd⟩ := hx
  have hv := R_mul x
  have hpos : 0 < val x := by
    have : (0 : Rat) < R x * TW := Rat.mul_pos h0 TW_pos
    rw [hv] at this
    exact Rat.intCast_pos.mp this
  have ha : a = false := by
    cases a
    · rfl
    · rw [val_eq hd, sgn_true] at hpos; omega
  subst ha
  have hm : m ≠ 0 := ne_of_val hd (fun q => by rw [q] at h0; exact Rat.lt_irrefl h0)
  obtain ⟨t, ht, hlt, up, dn⟩ := sqrt_right hd hm
  have hX : (val x).natAbs * 2 ^ 1074 ≥ 2 ^ 1074 := Nat.le_mul_of_pos_left _ (by omega)
  have ht52 : 2 ^ 52 ≤ t := by
    rcases Nat.lt_or_ge t (2 ^ 52) with h | h
    · exfalso
      have h1 := up (t + 1) (by omega)
      have v1 : V t ≤ 2 ^ 53 := by
        have := V_mono (show t ≤ 2 ^ 52 by omega)
        have e1 : V (2 ^ 52) = 2 ^ 52 := by decide +kernel
        omega
      have v2 : V (t + 1) ≤ 2 ^ 53 := by
        have := V_mono (show t + 1 ≤ 2 ^ 52 by omega)
        have e1 : V (2 ^ 52) = 2 ^ 52 := by decide +kernel
        omega
      have h2 : (V t + V (t + 1)) * (V t + V (t + 1)) ≤ 2 ^ 54 * 2 ^ 54 := Nat.mul_le_mul (by omega) (by omega)
      have h3 : (2 : Nat) ^ 54 * 2 ^ 54 < 4 * 2 ^ 1074 := by decide +kernel
      have h4 := Nat.mul_le_mul_left 4 hX
      exact absurd (Nat.lt_of_lt_of_le h3 (Nat.le_trans h4 (Nat.le_trans h1 h2))) (Nat.lt_irrefl _)
    · exact h
  have gu := gap_up ht52
  have gd := gap_down ht52
  have u1 := up (t + 1) (by omega)
  have d1 := dn (t - 1) (by omega)
  have hvs : val (sqrt x) = ((V t : Nat) : Int) := by rw [ht, val_pack false hlt]; rfl
  have hRs : R (sqrt x) * TW = (V t : Rat) := by rw [R_mul, hvs, Rat.intCast_natCast]
  have hVt : (0 : Rat) ≤ (V t : Rat) := Rat.natCast_nonneg
  have hR0 : 0 ≤ R (sqrt x) := nonneg_of hRs hVt TW_pos
  have hXr : (((val x).natAbs * 2 ^ 1074 : Nat) : Rat) = R x * (TW * TW) := by
    rw [Rat.natCast_mul, ← TW_nat, natAbs_pos (by omega), ← hv]; grind
  have hTT : 0 < TW * TW := Rat.mul_pos TW_pos TW_pos
  generalize (val x).natAbs * 2 ^ 1074 = X at *
  have vs := V_succ t
  have vp : V (t - 1) ≤ V t := V_mono (by omega)
  -- in rationals
  have A1 : (2:Rat) ^ 52 * ((V (t + 1) : Rat) - (V t : Rat)) ≤ (V t : Rat) := by
    have := Rat.natCast_le_natCast.mpr (show 2 ^ 52 * V (t + 1) ≤ V t + 2 ^ 52 * V t by omega)
    simp only [Rat.natCast_mul, Rat.natCast_add] at this
    have c : ((2 ^ 52 : Nat) : Rat) = 2 ^ 52 := rfl
    rw [c] at this
    grind
  have A2 : (2:Rat) ^ 52 * ((V t : Rat) - (V (t - 1) : Rat)) ≤ (V t : Rat) := by
    have := Rat.natCast_le_natCast.mpr (show 2 ^ 52 * V t ≤ V t + 2 ^ 52 * V (t - 1) by omega)
    simp only [Rat.natCast_mul, Rat.natCast_add] at this
    have c : ((2 ^ 52 : Nat) : Rat) = 2 ^ 52 := rfl
    rw [c] at this
    grind
  have B1 : 4 * (X : Rat) ≤ ((V t : Rat) + (V (t + 1) : Rat)) * ((V t : Rat) + (V (t + 1) : Rat)) := by
    have := Rat.natCast_le_natCast.mpr u1
    simp only [Rat.natCast_mul, Rat.natCast_add] at this
    exact this
  have B2 : ((V t : Rat) + (V (t - 1) : Rat)) * ((V t : Rat) + (V (t - 1) : Rat)) ≤ 4 * (X : Rat) := by
    have := Rat.natCast_le_natCast.mpr d1
    simp only [Rat.natCast_mul, Rat.natCast_add] at this
    exact this
  have hVp : (0 : Rat) ≤ (V (t - 1) : Rat) := Rat.natCast_nonneg
  have hVs : (0 : Rat) ≤ (V (t + 1) : Rat) := Rat.natCast_nonneg
  rw [hXr] at B1 B2
  rw [← hRs] at *
  generalize (V (t + 1) : Rat) = vu at *
  generalize (V (t - 1) : Rat) = vd at *
  generalize hρ : R (sqrt x) = ρ at *
  have hρT : 0 ≤ ρ * TW := hVt
  have sq : ∀ p q : Rat, 0 ≤ p → p ≤ q → p * p ≤ q * q := fun p q h1 h2 =>
    Rat.le_trans (Rat.mul_le_mul_of_nonneg_left h2 h1) (Rat.mul_le_mul_of_nonneg_right h2 (Rat.le_trans h1 h2))
  refine ⟨ht ▸ fin_pack _ hlt, hR0, le_of_mul (P := TW * TW) ?_ hTT, le_of_mul (P := TW * TW) ?_ hTT⟩
  · have h1 : ρ * TW + vu ≤ 2 * (ρ * TW) * (1 + 1/2^53) := by grind
    have h2 := sq _ _ (by grind) h1
    grind
  · have h1 : 2 * (ρ * TW) * (1 - 1/2^53) ≤ ρ * TW + vd := by grind
    have h2 := sq _ _ (by have : 0 ≤ (ρ * TW) * (2 * (1 - 1/2^53)) := Rat.mul_nonneg hρT (by decide +kernel)
                          grind) h1
    grind
end Mine
end
section
namespace Mine
open PySem PySem.Float64 PySem.Builtin.Math

/-- the heart of math.hypot of two scaled numbers -/
def core (p q : UInt64) : UInt64 :=
  let z1 := mul p p
  let l1 := fma p p (neg z1)
  let x1 := add one z1
  let y1 := add (sub one x1) z1
  let z2 := mul q q
  let l2 := fma q q (neg z2)
  let x2 := add x1 z2
  let y2 := add (sub x1 x2) z2
  let F := add (add (zero false) l1) l2
  let G := add (add (zero false) y1) y2
  let h := sqrt (add (sub x2 one) (add F G))
  let z3 := mul (neg h) h
  let l3 := fma (neg h) h (neg z3)
  let x3 := add x2 z3
  let y3 := add (sub x2 x3) z3
  let X := add (sub x3 one) (add (add F l3) (add G y3))
  add h (div X (mul (ofInt 2) h))
theorem scaled_core (p q big : UInt64) : scaledNorm [p, q] big =
    div (core (mul p (ldexp one (-(frexp big).2))) (mul q (ldexp one (-(frexp big).2)))) (ldexp one (-(frexp big).2)) := rfl

theorem one_fin : Fin one ∧ R one = 1 := ⟨⟨false, 2 ^ 52, -52, by with_unfolding_all rfl⟩, R_eq (by decide +kernel)⟩
theorem two_fin : Fin (ofInt 2) ∧ R (ofInt 2) = 2 := ⟨⟨false, 2 ^ 52, -51, by with_unfolding_all rfl⟩, R_eq (by decide +kernel)⟩

theorem big900 : (2 : Rat) ^ 20 ≤ 2 ^ 900 := by decide +kernel
/-- an operation of numbers of everyday size -/
theorem Rd.at {r : UInt64} {z : Rat} (h : Rd r z) (B : Rat) (h1 : -B ≤ z) (h2 : z ≤ B) : z - (B * (1/2^53) + 1/2^200) ≤ R r ∧ R r ≤ z + (B * (1/2^53) + 1/2^200) := h.err B h1 h2
theorem add_s {x y : UInt64} (hx : Fin x) (hy : Fin y) (lo : -1000 ≤ R x + R y) (hi : R x + R y ≤ 1000) : Rd (add x y) (R x + R y) :=
  add_rd hx hy (Rat.le_trans (by decide +kernel) lo) (Rat.le_trans hi (by decide +kernel))
theorem sub_s {x y : UInt64} (hx : Fin x) (hy : Fin y) (lo : -1000 ≤ R x - R y) (hi : R x - R y ≤ 1000) : Rd (sub x y) (R x - R y) :=
  sub_rd hx hy (Rat.le_trans (by decide +kernel) lo) (Rat.le_trans hi (by decide +kernel))
theorem mul_s {x y : UInt64} (hx : Fin x) (hy : Fin y) (lo : -1000 ≤ R x * R y) (hi : R x * R y ≤ 1000) : Rd (mul x y) (R x * R y) :=
  mul_rd hx hy (Rat.le_trans (by decide +kernel) lo) (Rat.le_trans hi (by decide +kernel))
theorem fma_s {x y w : UInt64} (hx : Fin x) (hy : Fin y) (hw : Fin w) (lo : -1000 ≤ R x * R y + R w) (hi : R x * R y + R w ≤ 1000) : Rd (fma x y w) (R x * R y + R w) :=
  fma_rd hx hy hw (Rat.le_trans (by decide +kernel) lo) (Rat.le_trans hi (by decide +kernel))
theorem div_s {x y : UInt64} (hx : Fin x) (hy : Fin y) (h0 : R y ≠ 0) (lo : -1000 ≤ R x / R y) (hi : R x / R y ≤ 1000) : Rd (div x y) (R x / R y) :=
  div_rd hx hy h0 (Rat.le_trans (by decide +kernel) lo) (Rat.le_trans hi (by decide +kernel))

/-- the product and its rest -/
theorem prod_s {p : UInt64} (hp : Fin p) (A : Rat) (hA : R p * R p = A) (h0 : 0 ≤ A) (h1 : A ≤ 1) :
    Fin (mul p p) ∧ Fin (fma p p (neg (mul p p))) ∧ 0 ≤ R (mul p p) ∧ (A - R (mul p p) ≤ 1/2^53 + 1/2^200 ∧ R (mul p p) - A ≤ 1/2^53 + 1/2^200) ∧
    (R (fma p p (neg (mul p p))) - (A - R (mul p p)) ≤ 2/2^106 ∧ (A - R (mul p p)) - R (fma p p (neg (mul p p))) ≤ 2/2^106) := by
  have m := mul_s hp hp (by rw [hA]; grind) (by rw [hA]; grind)
  rw [hA] at m
  have e := m.at 1 (by grind) (by grind)
  have n := neg_fin m.fin
  have n0 := m.nonneg h0
  have f := fma_s hp hp n.1 (by rw [hA, n.2]; grind) (by rw [hA, n.2]; grind)
  rw [hA, n.2] at f
  have g := f.at (3/2 * (1/2^53)) (by grind) (by grind)
  exact ⟨m.fin, f.fin, n0, by grind, by grind⟩

/-- the fast sum and its rest: x ≈ c + z -/
theorem fast_s {c z : UInt64} (hc : Fin c) (hz : Fin z) (M N : Rat) (hM : -M ≤ R c + R z ∧ R c + R z ≤ M) (hM4 : M ≤ 4) (hN : -N ≤ R z ∧ R z ≤ N) (hN4 : N ≤ 4) (hN0 : 0 ≤ N) (hM0 : 0 ≤ M) :
    Fin (add c z) ∧ Fin (add (sub c (add c z)) z) ∧ ((R c + R z) - R (add c z) ≤ M * (1/2^53) + 1/2^200 ∧ R (add c z) - (R c + R z) ≤ M * (1/2^53) + 1/2^200) ∧
    (R (add (sub c (add c z)) z) - ((R c + R z) - R (add c z)) ≤ N * (1/2^53) + 20/2^106 ∧ ((R c + R z) - R (add c z)) - R (add (sub c (add c z)) z) ≤ N * (1/2^53) + 20/2^106) := by
  have a := add_s hc hz (by grind) (by grind)
  have e := a.at M hM.1 hM.2
  have s := sub_s hc a.fin (by grind) (by grind)
  have f := s.at (N + 5 * (1/2^53)) (by grind) (by grind)
  have b := add_s s.fin hz (by grind) (by grind)
  have g := b.at (10 * (1/2^53)) (by grind) (by grind)
  exact ⟨a.fin, b.fin, by grind, by grind⟩

theorem zero_fin : Fin (zero false) ∧ R (zero false) = 0 := ⟨fin_zero _, R_zero _⟩

/-- up to the root's argument -/
theorem core1 {p q : UInt64} (hp : Fin p) (hq : Fin q) (A B : Rat) (hA : R p * R p = A) (hB : R q * R q = B) (a0 : 0 ≤ A) (a1 : A ≤ 1) (b0 : 0 ≤ B) (b1 : B ≤ 1) (hS : 1/4 ≤ A + B) :
    ∃ x2 F G : UInt64, Fin x2 ∧ Fin F ∧ Fin G ∧
      core p q = (let h := sqrt (add (sub x2 one) (add F G)); let z3 := mul (neg h) h; let l3 := fma (neg h) h (neg z3); let x3 := add x2 z3; let y3 := add (sub x2 x3) z3
        let X := add (sub x3 one) (add (add F l3) (add G y3)); add h (div X (mul (ofInt 2) h))) ∧
      (R x2 - 1 - (A + B) ≤ 9 * (1/2^53) ∧ (A + B) - (R x2 - 1) ≤ 9 * (1/2^53)) ∧ (-(6 * (1/2^53)) ≤ R F ∧ R F ≤ 6 * (1/2^53)) ∧ (-(12 * (1/2^53)) ≤ R G ∧ R G ≤ 12 * (1/2^53)) ∧
      (R x2 - 1 + R F + R G - (A + B) ≤ (A + B) * (1/2^53) + 100/2^106 ∧ (A + B) - (R x2 - 1 + R F + R G) ≤ (A + B) * (1/2^53) + 100/2^106) := by
  obtain ⟨o1, o2⟩ := one_fin
  obtain ⟨fz1, fl1, z10, ez1, el1⟩ := prod_s hp A hA a0 a1
  obtain ⟨fz2, fl2, z20, ez2, el2⟩ := prod_s hq B hB b0 b1
  obtain ⟨fx1, fy1, ex1, ey1⟩ := fast_s o1 fz1 (R (mul p p) + 1) (R (mul p p)) (by grind) (by grind) (by grind) (by grind) z10 (by grind)
  obtain ⟨fx2, fy2, ex2, ey2⟩ := fast_s fx1 fz2 4 (R (mul q q)) (by grind) (by grind) (by grind) (by grind) z20 (by grind)
  obtain ⟨i1, i2⟩ := zero_fin
  generalize hz1 : mul p p = z1 at *
  generalize hz2 : mul q q = z2 at *
  generalize hl1 : fma p p (neg z1) = l1 at *
  generalize hl2 : fma q q (neg z2) = l2 at *
  generalize hx1 : add one z1 = x1 at *
  generalize hy1 : add (sub one x1) z1 = y1 at *
  generalize hx2 : add x1 z2 = x2 at *
  generalize hy2 : add (sub x1 x2) z2 = y2 at *
  have F0 := add_s i1 fl1 (by grind) (by grind)
  have eF0 := F0.at (2 * (1/2^53)) (by grind) (by grind)
  have F1 := add_s F0.fin fl2 (by grind) (by grind)
  have eF1 := F1.at (4 * (1/2^53)) (by grind) (by grind)
  have G0 := add_s i1 fy1 (by grind) (by grind)
  have eG0 := G0.at (5 * (1/2^53)) (by grind) (by grind)
  have G1 := add_s G0.fin fy2 (by grind) (by grind)
  have eG1 := G1.at (11 * (1/2^53)) (by grind) (by grind)
  refine ⟨x2, _, _, fx2, F1.fin, G1.fin, ?_, by grind, by grind, by grind, by grind⟩
  unfold core
  simp only [hz1, hz2, hl1, hl2, hx1, hy1, hx2, hy2]

theorem sqle {p q : Rat} (h1 : 0 ≤ p) (h2 : p ≤ q) : p * p ≤ q * q :=
  Rat.le_trans (Rat.mul_le_mul_of_nonneg_left h2 h1) (Rat.mul_le_mul_of_nonneg_right h2 (Rat.le_trans h1 h2))
theorem le_of_sq {p q : Rat} (h2 : 0 ≤ q) (h : p * p ≤ q * q) : p ≤ q := by
  rcases @Rat.le_total p q with h3 | h3
  · exact h3
  · rcases Rat.le_iff_lt_or_eq.mp h3 with h4 | h4
    · exfalso
      have h5 : q * q ≤ q * p := Rat.mul_le_mul_of_nonneg_left h3 h2
      have h6 : 0 < p := by grind
      have h7 : q * p < p * p := Rat.mul_lt_mul_of_pos_right h4 h6
      grind
    · exact h4 ▸ Rat.le_refl

/-- the root and its square -/
theorem core2 {x2 F G : UInt64} {S : Rat} (fx : Fin x2) (fF : Fin F) (fG : Fin G) (s0 : 1/4 ≤ S) (s1 : S ≤ 2)
    (hx : R x2 - 1 - S ≤ 9 * (1/2^53) ∧ S - (R x2 - 1) ≤ 9 * (1/2^53)) (hF : -(6 * (1/2^53)) ≤ R F ∧ R F ≤ 6 * (1/2^53)) (hG : -(12 * (1/2^53)) ≤ R G ∧ R G ≤ 12 * (1/2^53))
    (hT : R x2 - 1 + R F + R G - S ≤ S * (1/2^53) + 100/2^106 ∧ S - (R x2 - 1 + R F + R G) ≤ S * (1/2^53) + 100/2^106) :
    Fin (sqrt (add (sub x2 one) (add F G))) ∧ 2/5 ≤ R (sqrt (add (sub x2 one) (add F G))) ∧ R (sqrt (add (sub x2 one) (add F G))) ≤ 3/2 ∧
      (R (sqrt (add (sub x2 one) (add F G))) * R (sqrt (add (sub x2 one) (add F G))) - S ≤ 6 * S * (1/2^53) ∧ S - R (sqrt (add (sub x2 one) (add F G))) * R (sqrt (add (sub x2 one) (add F G))) ≤ 6 * S * (1/2^53)) := by
  obtain ⟨o1, o2⟩ := one_fin
  have a := sub_s fx o1 (by grind) (by grind)
  have ea := a.at (S + 10 * (1/2^53)) (by grind) (by grind)
  have b := add_s fF fG (by grind) (by grind)
  have eb := b.at (20 * (1/2^53)) (by grind) (by grind)
  have c := add_s a.fin b.fin (by grind) (by grind)
  have ec := c.at (S + 40 * (1/2^53)) (by grind) (by grind)
  rw [o2] at ea
  have T1 : R (add (sub x2 one) (add F G)) - S ≤ 3 * S * (1/2^53) + 200/2^106 := by grind
  have T2 : S - R (add (sub x2 one) (add F G)) ≤ 3 * S * (1/2^53) + 200/2^106 := by grind
  generalize add (sub x2 one) (add F G) = t at *
  have q := sqrt_rd c.fin (by grind) (by have : (1/2^900 : Rat) ≤ 1/8 := by decide +kernel
                                         grind) (by have : (4 : Rat) ≤ 2^900 := by decide +kernel
                                                    grind)
  obtain ⟨q1, q2, q3, q4⟩ := q
  generalize R (sqrt t) = h at *
  generalize hh : h * h = H at *
  have e1 : H - S ≤ 6 * S * (1/2^53) := by grind
  have e2 : S - H ≤ 6 * S * (1/2^53) := by grind
  refine ⟨q1, ?_, ?_, e1, e2⟩
  · exact le_of_sq q2 (by grind)
  · exact le_of_sq (by decide +kernel) (by grind)

/-- the correction -/
theorem core3 {x2 F G h : UInt64} {S H : Rat} (fx : Fin x2) (fF : Fin F) (fG : Fin G) (fh : Fin h) (s0 : 1/4 ≤ S) (s1 : S ≤ 2)
    (hx : R x2 - 1 - S ≤ 9 * (1/2^53) ∧ S - (R x2 - 1) ≤ 9 * (1/2^53)) (hF : -(6 * (1/2^53)) ≤ R F ∧ R F ≤ 6 * (1/2^53)) (hG : -(12 * (1/2^53)) ≤ R G ∧ R G ≤ 12 * (1/2^53))
    (hT : R x2 - 1 + R F + R G - S ≤ S * (1/2^53) + 100/2^106 ∧ S - (R x2 - 1 + R F + R G) ≤ S * (1/2^53) + 100/2^106)
    (hH : R h * R h = H) (e1 : H - S ≤ 6 * S * (1/2^53)) (e2 : S - H ≤ 6 * S * (1/2^53)) :
    ∃ X, X = (let z3 := mul (neg h) h; let l3 := fma (neg h) h (neg z3); let x3 := add x2 z3; let y3 := add (sub x2 x3) z3; add (sub x3 one) (add (add F l3) (add G y3))) ∧ Fin X ∧
      (R X - (S - H) ≤ (S + H) * (1/2^53) + 600/2^106 ∧ (S - H) - R X ≤ (S + H) * (1/2^53) + 600/2^106) := by
  obtain ⟨o1, o2⟩ := one_fin
  have n := neg_fin fh
  have ez : R (neg h) * R h = -H := by rw [n.2, ← hH]; grind
  have m := mul_s n.1 fh (by rw [ez]; grind) (by rw [ez]; grind)
  rw [ez] at m
  have em := m.at H (by grind) (by grind)
  have mn := neg_fin m.fin
  have f := fma_s n.1 fh mn.1 (by rw [ez, mn.2]; grind) (by rw [ez, mn.2]; grind)
  rw [ez, mn.2] at f
  have ef := f.at (3 * (1/2^53)) (by grind) (by grind)
  obtain ⟨g1, g2, g3, g4⟩ := fast_s fx m.fin (1 + 40 * (1/2^53)) (H + 4 * (1/2^53)) (by grind) (by grind) (by grind) (by grind) (by grind) (by grind)
  refine ⟨_, rfl, ?_⟩
  dsimp only
  generalize mul (neg h) h = z3 at *
  generalize fma (neg h) h (neg z3) = l3 at *
  generalize add (sub x2 (add x2 z3)) z3 = y3 at *
  generalize add x2 z3 = x3 at *
  have p1 := add_s fF f.fin (by grind) (by grind)
  have ep1 := p1.at (10 * (1/2^53)) (by grind) (by grind)
  have p2 := add_s fG g2 (by grind) (by grind)
  have ep2 := p2.at (20 * (1/2^53)) (by grind) (by grind)
  have p3 := sub_s g1 o1 (by grind) (by grind)
  rw [o2] at p3
  have ep3 := p3.at (30 * (1/2^53)) (by grind) (by grind)
  have p4 := add_s p1.fin p2.fin (by grind) (by grind)
  have ep4 := p4.at (40 * (1/2^53)) (by grind) (by grind)
  have p5 := add_s p3.fin p4.fin (by grind) (by grind)
  have ep5 := p5.at (80 * (1/2^53)) (by grind) (by grind)
  exact ⟨p5.fin, by grind, by grind⟩

/-- the last step -/
theorem core4 {h X : UInt64} {S H : Rat} (fh : Fin h) (fX : Fin X) (s0 : 1/4 ≤ S) (s1 : S ≤ 2) (h0 : 2/5 ≤ R h) (h1 : R h ≤ 3/2)
    (hH : R h * R h = H) (e1 : H - S ≤ 6 * S * (1/2^53)) (e2 : S - H ≤ 6 * S * (1/2^53))
    (hX : R X - (S - H) ≤ (S + H) * (1/2^53) + 600/2^106 ∧ (S - H) - R X ≤ (S + H) * (1/2^53) + 600/2^106) :
    Fin (add h (div X (mul (ofInt 2) h))) ∧ 0 ≤ R (add h (div X (mul (ofInt 2) h))) ∧
      R (add h (div X (mul (ofInt 2) h))) * R (add h (div X (mul (ofInt 2) h))) - S ≤ 5 * S * (1/2^53) ∧ S - R (add h (div X (mul (ofInt 2) h))) * R (add h (div X (mul (ofInt 2) h))) ≤ 5 * S * (1/2^53) := by
  obtain ⟨t1, t2⟩ := two_fin
  have m := mul_s t1 fh (by rw [t2]; grind) (by rw [t2]; grind)
  rw [t2] at m
  have em := m.at (2 * R h) (by grind) (by grind)
  generalize mul (ofInt 2) h = M at *
  have hM : 3/4 ≤ R M := by grind
  have hM0 : R M ≠ 0 := by grind
  generalize hW : R X / R M = W at *
  have hWM : W * R M = R X := by rw [← hW]; exact Rat.div_mul_cancel hM0
  have xs : -(18 * (1/2^53)) ≤ R X ∧ R X ≤ 18 * (1/2^53) := by grind
  have w1 : W ≤ 24 * (1/2^53) := by
    refine le_of_mul (P := R M) ?_ (by grind)
    rw [hWM]; grind
  have w2 : -(24 * (1/2^53)) ≤ W := by
    refine le_of_mul (P := R M) ?_ (by grind)
    rw [hWM]; grind
  have d := div_s fX m.fin hM0 (by rw [hW]; grind) (by rw [hW]; grind)
  rw [hW] at d
  have ed := d.at (24 * (1/2^53)) w2 w1
  generalize div X M = q at *
  have a := add_s fh d.fin (by grind) (by grind)
  have ea := a.at (R h + 25 * (1/2^53)) (by grind) (by grind)
  have a0 := a.nonneg (by grind)
  refine ⟨a.fin, a0, ?_⟩
  generalize R (add h q) = r at *
  generalize hδ : r - R h - W = δ
  have hr : r = R h + W + δ := by grind
  have dl : -(R h * (1/2^53) + 100/2^106) ≤ δ ∧ δ ≤ R h * (1/2^53) + 100/2^106 := by grind
  generalize R h = k at *
  generalize R M = M at *
  -- 2 k W ≈ R X
  generalize hp : k * W = p
  have p1 : 2 * p - R X ≤ 200/2^106 := by
    have : W * (2 * k - M) ≤ 200/2^106 := by
      generalize hv : 2 * k - M = v
      have v1 : -(4 * (1/2^53)) ≤ v ∧ v ≤ 4 * (1/2^53) := by grind
      have a1 : (24 * (1/2^53) - W) * (4 * (1/2^53) - v) ≥ 0 := Rat.mul_nonneg (by grind) (by grind)
      have a2 : (24 * (1/2^53) + W) * (4 * (1/2^53) + v) ≥ 0 := Rat.mul_nonneg (by grind) (by grind)
      have a3 : (24 * (1/2^53) - W) * (4 * (1/2^53) + v) ≥ 0 := Rat.mul_nonneg (by grind) (by grind)
      have a4 : (24 * (1/2^53) + W) * (4 * (1/2^53) - v) ≥ 0 := Rat.mul_nonneg (by grind) (by grind)
      grind
    grind
  have p2 : R X - 2 * p ≤ 200/2^106 := by
    have : -(W * (2 * k - M)) ≤ 200/2^106 := by
      generalize hv : 2 * k - M = v
      have v1 : -(4 * (1/2^53)) ≤ v ∧ v ≤ 4 * (1/2^53) := by grind
      have a1 : (24 * (1/2^53) - W) * (4 * (1/2^53) - v) ≥ 0 := Rat.mul_nonneg (by grind) (by grind)
      have a2 : (24 * (1/2^53) + W) * (4 * (1/2^53) + v) ≥ 0 := Rat.mul_nonneg (by grind) (by grind)
      have a3 : (24 * (1/2^53) - W) * (4 * (1/2^53) + v) ≥ 0 := Rat.mul_nonneg (by grind) (by grind)
      have a4 : (24 * (1/2^53) + W) * (4 * (1/2^53) - v) ≥ 0 := Rat.mul_nonneg (by grind) (by grind)
      grind
    grind
  have q0 : 0 ≤ W * W ∧ W * W ≤ 600/2^106 := by
    have a1 : (24 * (1/2^53) - W) * (24 * (1/2^53) + W) ≥ 0 := Rat.mul_nonneg (by grind) (by grind)
    refine ⟨?_, by grind⟩
    rcases @Rat.le_total 0 W with h3 | h3
    · exact Rat.mul_nonneg h3 h3
    · have : 0 ≤ (-W) * (-W) := Rat.mul_nonneg (by grind) (by grind)
      grind
  have d1 : k * δ ≤ H * (1/2^53) + 200/2^106 := by
    have : 0 ≤ k * (k * (1/2^53) + 100/2^106 - δ) := Rat.mul_nonneg (by grind) (by grind)
    grind
  have d2 : -(k * δ) ≤ H * (1/2^53) + 200/2^106 := by
    have : 0 ≤ k * (k * (1/2^53) + 100/2^106 + δ) := Rat.mul_nonneg (by grind) (by grind)
    grind
  have db : -(2 * (1/2^53)) ≤ δ ∧ δ ≤ 2 * (1/2^53) := by grind
  have wd : -(100/2^106) ≤ W * δ ∧ W * δ ≤ 100/2^106 := by
    have a1 : (24 * (1/2^53) - W) * (2 * (1/2^53) - δ) ≥ 0 := Rat.mul_nonneg (by grind) (by grind)
    have a2 : (24 * (1/2^53) + W) * (2 * (1/2^53) + δ) ≥ 0 := Rat.mul_nonneg (by grind) (by grind)
    have a3 : (24 * (1/2^53) - W) * (2 * (1/2^53) + δ) ≥ 0 := Rat.mul_nonneg (by grind) (by grind)
    have a4 : (24 * (1/2^53) + W) * (2 * (1/2^53) - δ) ≥ 0 := Rat.mul_nonneg (by grind) (by grind)
    constructor <;> grind
  have dd : 0 ≤ δ * δ ∧ δ * δ ≤ 10/2^106 := by
    have a1 : (2 * (1/2^53) - δ) * (2 * (1/2^53) + δ) ≥ 0 := Rat.mul_nonneg (by grind) (by grind)
    refine ⟨?_, by grind⟩
    rcases @Rat.le_total 0 δ with h3 | h3
    · exact Rat.mul_nonneg h3 h3
    · have : 0 ≤ (-δ) * (-δ) := Rat.mul_nonneg (by grind) (by grind)
      grind
  have rr : r * r = H + 2 * p + W * W + 2 * (k * δ) + 2 * (W * δ) + δ * δ := by rw [hr, ← hH, ← hp]; grind
  rw [rr]
  clear rr hr hδ hWM hp hH
  generalize W * W = ww at *
  generalize k * δ = kd at *
  generalize W * δ = wd' at *
  generalize δ * δ = dd' at *
  constructor <;> grind

theorem core_err {p q : UInt64} (hp : Fin p) (hq : Fin q) (p0 : 0 ≤ R p) (p1 : R p ≤ 1) (q0 : 0 ≤ R q) (q1 : R q ≤ 1) (hS : 1/4 ≤ R p * R p + R q * R q) :
    Fin (core p q) ∧ 0 ≤ R (core p q) ∧ R (core p q) * R (core p q) - (R p * R p + R q * R q) ≤ 5 * (R p * R p + R q * R q) * (1/2^53) ∧
      (R p * R p + R q * R q) - R (core p q) * R (core p q) ≤ 5 * (R p * R p + R q * R q) * (1/2^53) := by
  have a0 : 0 ≤ R p * R p := Rat.mul_nonneg p0 p0
  have b0 : 0 ≤ R q * R q := Rat.mul_nonneg q0 q0
  have a1 : R p * R p ≤ 1 := by have := sqle p0 p1; grind
  have b1 : R q * R q ≤ 1 := by have := sqle q0 q1; grind
  obtain ⟨x2, F, G, fx, fF, fG, hc, hx, hF, hG, hT⟩ := core1 hp hq _ _ rfl rfl a0 a1 b0 b1 hS
  obtain ⟨fh, h0, h1, e1, e2⟩ := core2 fx fF fG hS (by grind) hx hF hG hT
  obtain ⟨X, hX, fX, eX⟩ := core3 fx fF fG fh hS (by grind) hx hF hG hT rfl e1 e2
  have := core4 fh fX hS (by grind) h0 h1 rfl e1 e2 eX
  rw [hX] at this
  rw [hc]
  exact this
end Mine
end
section
namespace Mine
open PySem PySem.Float64 PySem.Builtin.Math

theorem rpow_add (a : Rat) (m n : Nat) : a ^ (m + n) = a ^ m * a ^ n := by
  induction n with
  | zero => rw [Nat.add_zero, Rat.pow_zero, Rat.mul_one]
  | succ n ih => rw [← Nat.add_assoc, Rat.pow_succ, Rat.pow_succ, ih, Rat.mul_assoc]
theorem V_inf : V infMag = 2 ^ 53 * 2 ^ 2045 := by
  have e : infMag = 2045 * 2 ^ 52 + 2 ^ 53 := by unfold infMag; omega
  rw [e]
  exact V_at (k := 2045) (q := 2 ^ 53) (by omega) (.inl (by omega))
/-- an exact result -/
theorem right_rep {r : UInt64} {neg : Bool} {W D n k : Nat} (h : Right r neg W D) (hD : 0 < D) (hW : W = D * (n * 2 ^ k)) (hn : n ≤ 2 ^ 53) (hk : n * 2 ^ k < 2 ^ 53 * 2 ^ 2045) :
    Fin r ∧ val r = sgn neg (n * 2 ^ k) := by
  obtain ⟨t0, ht0⟩ := V_rep k n hn
  have hlt0 : t0 < infMag := by
    rcases Nat.lt_or_ge t0 infMag with h1 | h1
    · exact h1
    · have := V_mono h1; rw [V_inf, ht0] at this; exact absurd hk (Nat.not_lt.mpr this)
  obtain ⟨t, rfl, hle, hov, hc⟩ := h
  have hlt : t < infMag := by
    rcases Nat.lt_or_ge t infMag with h1 | h1
    · exact h1
    · exfalso
      have h2 := hov.mp (by omega)
      rw [hW, show 2 * (D * (n * 2 ^ k)) = D * (2 * (n * 2 ^ k)) by ac_rfl] at h2
      have h3 := Nat.le_of_mul_le_mul_left h2 hD
      -- n 2^k < 2^53 2^2045 and it is V t0, at most the greatest
      have h4 := V_mono (show t0 ≤ infMag - 1 by omega)
      have hA : V (infMag - 1) = (2 ^ 53 - 1) * 2 ^ 2045 := by
        have e : infMag - 1 = 2045 * 2 ^ 52 + (2 ^ 53 - 1) := by unfold infMag; omega
        rw [e]
        exact V_at (k := 2045) (q := 2 ^ 53 - 1) (by omega) (.inl (by omega))
      rw [hA, ht0] at h4
      have hp := Nat.two_pow_pos 2045
      generalize (2 : Nat) ^ 2045 = Z at *
      generalize n * 2 ^ k = y at *
      omega
  have h1 := (hc hlt t0).1
  rw [ht0, hW] at h1
  have h0 : Float64.dist (D * (n * 2 ^ k)) (D * (n * 2 ^ k)) = 0 := by unfold Float64.dist; omega
  rw [h0] at h1
  have h2 : D * V t = D * (n * 2 ^ k) := by
    generalize D * V t = y at *
    generalize D * (n * 2 ^ k) = z at *
    unfold Float64.dist at h1; omega
  refine ⟨fin_pack _ hlt, ?_⟩
  rw [val_pack neg hlt, Nat.eq_of_mul_eq_mul_left hD h2]

theorem rep_mul {z : Rat} {m : Nat} {n : Int} (h : z * 2 ^ m = (n : Rat)) (hm : m ≤ 1074) (hn : n.natAbs ≤ 2 ^ 53) : Rep z := by
  refine ⟨n, 1074 - m, hn, ?_⟩
  rw [← h]
  unfold TW
  rw [Rat.mul_assoc]
  congr 1
  have e : (2 : Rat) ^ 1074 = 2 ^ (m + (1074 - m)) := by congr 1; omega
  rw [e, rpow_add]

theorem sqrt_exact {x : UInt64} (hx : Fin x) {c : Rat} (h0 : 0 < c) (h : R x = c * c) (hc : Rep c) : Fin (sqrt x) ∧ R (sqrt x) = c := by
  obtain ⟨a, m, e, hd⟩ := hx
  obtain ⟨n, k, hn, hk⟩ := hc
  have hTT : 0 < TW * TW := Rat.mul_pos TW_pos TW_pos
  have hcT : 0 < c * TW := Rat.mul_pos h0 TW_pos
  have hn0 : 0 < n := by
    rw [hk] at hcT
    rcases Int.lt_or_le 0 n with q | q
    · exact q
    · exfalso
      have h1 : (n : Rat) ≤ 0 := Rat.intCast_nonpos.mpr q
      have h2 : 0 ≤ (-(n : Rat)) * 2 ^ k := Rat.mul_nonneg (by grind) (Rat.pow_nonneg (by decide))
      grind
  obtain ⟨t0, ht0⟩ := V_rep k n.natAbs hn
  have hw : c * TW = (V t0 : Rat) := by
    rw [hk, ht0, Rat.natCast_mul, Rat.natCast_pow, natAbs_pos (by omega)]; rfl
  have hv := R_mul x
  have hpos : 0 < val x := by
    have : (0 : Rat) < R x * TW := Rat.mul_pos (by rw [h]; exact Rat.mul_pos h0 h0) TW_pos
    rw [hv] at this
    exact Rat.intCast_pos.mp this
  have ha : a = false := by
    cases a
    · rfl
    · rw [val_eq hd, sgn_true] at hpos; omega
  subst ha
  have hm : m ≠ 0 := fun q => by rw [val_eq hd, q, sgn_false] at hpos; simp at hpos
  obtain ⟨t, ht, hlt, up, dn⟩ := sqrt_right hd hm
  have hX : (val x).natAbs * 2 ^ 1074 = V t0 * V t0 := by
    refine Rat.natCast_inj.mp ?_
    rw [Rat.natCast_mul, Rat.natCast_mul, ← hw, ← TW_nat, natAbs_pos (by omega), ← hv, h]; grind
  have key : t = t0 := by
    rcases Nat.lt_trichotomy t t0 with q | q | q
    · exfalso
      have h1 := up t0 q
      rw [hX] at h1
      have h2 := V_lt q
      have h3 : (V t + V t0) * (V t + V t0) < (2 * V t0) * (2 * V t0) := Nat.mul_lt_mul'' (by omega) (by omega)
      have h4 : (2 * V t0) * (2 * V t0) = 4 * (V t0 * V t0) := by rw [show (4 : Nat) = 2 * 2 by decide]; ac_rfl
      omega
    · exact q
    · exfalso
      have h1 := dn t0 q
      rw [hX] at h1
      have h2 := V_lt q
      have h3 : (2 * V t0) * (2 * V t0) < (V t + V t0) * (V t + V t0) := Nat.mul_lt_mul'' (by omega) (by omega)
      have h4 : (2 * V t0) * (2 * V t0) = 4 * (V t0 * V t0) := by rw [show (4 : Nat) = 2 * 2 by decide]; ac_rfl
      omega
  refine ⟨ht ▸ fin_pack _ hlt, R_eq ?_⟩
  rw [ht, val_pack false hlt, key, hw, sgn_false, Rat.intCast_natCast]

/-- on small exact squares nothing is rounded -/
theorem core_exact {p q : UInt64} (hp : Fin p) (hq : Fin q) {a b c k : Nat} (hk : k ≤ 25) (ha : a ≤ 2 ^ k) (hb : b ≤ 2 ^ k) (habc : a * a + b * b = c * c) (hc : 0 < c)
    (hP : R p * 2 ^ k = (a : Rat)) (hQ : R q * 2 ^ k = (b : Rat)) : Fin (core p q) ∧ R (core p q) * 2 ^ k = (c : Rat) := by
  obtain ⟨o1, o2⟩ := one_fin
  obtain ⟨i1, i2⟩ := zero_fin
  obtain ⟨t1, t2⟩ := two_fin
  have hKpos : (0 : Rat) < 2 ^ k := Rat.pow_pos (by decide)
  have hNk : (2 : Nat) ^ k ≤ 2 ^ 25 := Nat.pow_le_pow_right (by decide) hk
  have hM : (2 : Nat) ^ (k + k) = 2 ^ k * 2 ^ k := Nat.pow_add _ _ _
  have hMM : (2 : Rat) ^ (k + k) = 2 ^ k * 2 ^ k := rpow_add _ _ _
  have hN : (2 : Rat) ^ k = ((2 ^ k : Nat) : Rat) := by rw [Rat.natCast_pow]; rfl
  have n1 : a * a ≤ 2 ^ 50 := Nat.le_trans (Nat.mul_le_mul (Nat.le_trans ha hNk) (Nat.le_trans ha hNk)) (by decide)
  have n2 : b * b ≤ 2 ^ 50 := Nat.le_trans (Nat.mul_le_mul (Nat.le_trans hb hNk) (Nat.le_trans hb hNk)) (by decide)
  have n3 : 2 ^ k * 2 ^ k ≤ 2 ^ 50 := Nat.le_trans (Nat.mul_le_mul hNk hNk) (by decide)
  -- the values, in units of 2^-2k
  have rep : ∀ z : Rat, ∀ n : Int, z * (2 ^ k * 2 ^ k) = (n : Rat) → n.natAbs ≤ 2 ^ 53 → Rep z := fun z n h1 h2 => rep_mul (m := k + k) (by rw [hMM]; exact h1) (by omega) h2
  have lim : ∀ z : Rat, ∀ n : Int, z * (2 ^ k * 2 ^ k) = (n : Rat) → n.natAbs ≤ 4 * (2 ^ k * 2 ^ k) → -1000 ≤ z ∧ z ≤ 1000 := by
    intro z n h1 h2
    have hK2 : (0 : Rat) < 2 ^ k * 2 ^ k := Rat.mul_pos hKpos hKpos
    have b1 : (n : Rat) ≤ 4 * (2 ^ k * 2 ^ k) := by
      rw [hN]
      have := Rat.intCast_le_intCast.mpr (show n ≤ ((4 * (2 ^ k * 2 ^ k) : Nat) : Int) by omega)
      rw [Rat.intCast_natCast, Rat.natCast_mul, Rat.natCast_mul] at this
      exact this
    have b2 : -(4 * (2 ^ k * 2 ^ k)) ≤ (n : Rat) := by
      rw [hN]
      have := Rat.intCast_le_intCast.mpr (show -((4 * (2 ^ k * 2 ^ k) : Nat) : Int) ≤ n by omega)
      rw [Rat.intCast_neg, Rat.intCast_natCast, Rat.natCast_mul, Rat.natCast_mul] at this
      exact this
    constructor
    · have : -4 ≤ z := le_of_mul (by rw [h1]; grind) hK2
      grind
    · have : z ≤ 4 := le_of_mul (by rw [h1]; grind) hK2
      grind
  have adde : ∀ {x y : UInt64} (z : Rat) (n : Int), Fin x → Fin y → R x + R y = z → z * (2 ^ k * 2 ^ k) = (n : Rat) → n.natAbs ≤ 2 ^ 53 → n.natAbs ≤ 4 * (2 ^ k * 2 ^ k) → Fin (add x y) ∧ R (add x y) = z := by
    intro x y z n hx hy e h1 h2 h3
    have l := lim z n h1 h3
    have h := add_s hx hy (by rw [e]; exact l.1) (by rw [e]; exact l.2)
    rw [e] at h
    exact ⟨h.fin, h.ex (rep z n h1 h2)⟩
  have sube : ∀ {x y : UInt64} (z : Rat) (n : Int), Fin x → Fin y → R x - R y = z → z * (2 ^ k * 2 ^ k) = (n : Rat) → n.natAbs ≤ 2 ^ 53 → n.natAbs ≤ 4 * (2 ^ k * 2 ^ k) → Fin (sub x y) ∧ R (sub x y) = z := by
    intro x y z n hx hy e h1 h2 h3
    have l := lim z n h1 h3
    have h := sub_s hx hy (by rw [e]; exact l.1) (by rw [e]; exact l.2)
    rw [e] at h
    exact ⟨h.fin, h.ex (rep z n h1 h2)⟩
  have mule : ∀ {x y : UInt64} (z : Rat) (n : Int), Fin x → Fin y → R x * R y = z → z * (2 ^ k * 2 ^ k) = (n : Rat) → n.natAbs ≤ 2 ^ 53 → n.natAbs ≤ 4 * (2 ^ k * 2 ^ k) → Fin (mul x y) ∧ R (mul x y) = z := by
    intro x y z n hx hy e h1 h2 h3
    have l := lim z n h1 h3
    have h := mul_s hx hy (by rw [e]; exact l.1) (by rw [e]; exact l.2)
    rw [e] at h
    exact ⟨h.fin, h.ex (rep z n h1 h2)⟩
  have fmae : ∀ {x y w : UInt64} (z : Rat) (n : Int), Fin x → Fin y → Fin w → R x * R y + R w = z → z * (2 ^ k * 2 ^ k) = (n : Rat) → n.natAbs ≤ 2 ^ 53 → n.natAbs ≤ 4 * (2 ^ k * 2 ^ k) → Fin (fma x y w) ∧ R (fma x y w) = z := by
    intro x y w z n hx hy hw e h1 h2 h3
    have l := lim z n h1 h3
    have h := fma_s hx hy hw (by rw [e]; exact l.1) (by rw [e]; exact l.2)
    rw [e] at h
    exact ⟨h.fin, h.ex (rep z n h1 h2)⟩
  have zK : (0 : Rat) * (2 ^ k * 2 ^ k) = ((0 : Int) : Rat) := by rw [Rat.zero_mul]; rfl
  have aa : a * a ≤ 2 ^ k * 2 ^ k := Nat.mul_le_mul ha ha
  have bb : b * b ≤ 2 ^ k * 2 ^ k := Nat.mul_le_mul hb hb
  have cA : ∀ m n : Nat, ((m * n : Nat) : Rat) = (m : Rat) * (n : Rat) := fun m n => Rat.natCast_mul m n
  have eA : R p * R p * (2 ^ k * 2 ^ k) = (((a * a : Nat) : Int) : Rat) := by rw [Rat.intCast_natCast, cA, ← hP]; grind
  have eB : R q * R q * (2 ^ k * 2 ^ k) = (((b * b : Nat) : Int) : Rat) := by rw [Rat.intCast_natCast, cA, ← hQ]; grind
  have eO : (1 : Rat) * (2 ^ k * 2 ^ k) = (((2 ^ k * 2 ^ k : Nat) : Int) : Rat) := by rw [Rat.intCast_natCast, cA, ← hN]; grind
  generalize hKK : (2 : Rat) ^ k * 2 ^ k = KK at *
  generalize hNN : (2 : Nat) ^ k * 2 ^ k = NN at *
  -- the steps
  obtain ⟨fz1, ez1⟩ := mule (R p * R p) _ hp hp rfl eA (by omega) (by omega)
  have nz1 := neg_fin fz1
  obtain ⟨fl1, el1⟩ := fmae 0 0 hp hp nz1.1 (by rw [nz1.2, ez1]; grind) zK (by omega) (by omega)
  obtain ⟨fx1, ex1⟩ := adde (1 + R p * R p) ((NN + a * a : Nat) : Int) o1 fz1 (by rw [o2, ez1]) (by rw [Rat.add_mul, eA, eO, ← Rat.intCast_add, ← Int.natCast_add]) (by omega) (by omega)
  obtain ⟨fw1, ew1⟩ := sube (-(R p * R p)) (-((a * a : Nat) : Int)) o1 fx1 (by rw [o2, ex1]; grind) (by rw [Rat.intCast_neg, ← eA]; grind) (by omega) (by omega)
  obtain ⟨fy1, ey1⟩ := adde 0 0 fw1 fz1 (by rw [ew1, ez1]; grind) zK (by omega) (by omega)
  obtain ⟨fz2, ez2⟩ := mule (R q * R q) _ hq hq rfl eB (by omega) (by omega)
  have nz2 := neg_fin fz2
  obtain ⟨fl2, el2⟩ := fmae 0 0 hq hq nz2.1 (by rw [nz2.2, ez2]; grind) zK (by omega) (by omega)
  obtain ⟨fx2, ex2⟩ := adde (1 + R p * R p + R q * R q) ((NN + a * a + b * b : Nat) : Int) fx1 fz2 (by rw [ex1, ez2]) (by rw [Rat.add_mul, Rat.add_mul, eA, eO, eB, ← Rat.intCast_add, ← Rat.intCast_add, ← Int.natCast_add, ← Int.natCast_add]) (by omega) (by omega)
  obtain ⟨fw2, ew2⟩ := sube (-(R q * R q)) (-((b * b : Nat) : Int)) fx1 fx2 (by rw [ex1, ex2]; grind) (by rw [Rat.intCast_neg, ← eB]; grind) (by omega) (by omega)
  obtain ⟨fy2, ey2⟩ := adde 0 0 fw2 fz2 (by rw [ew2, ez2]; grind) zK (by omega) (by omega)
  obtain ⟨fF0, eF0⟩ := adde 0 0 i1 fl1 (by rw [i2, el1]; grind) zK (by omega) (by omega)
  obtain ⟨fF, eF⟩ := adde 0 0 fF0 fl2 (by rw [eF0, el2]; grind) zK (by omega) (by omega)
  obtain ⟨fG0, eG0⟩ := adde 0 0 i1 fy1 (by rw [i2, ey1]; grind) zK (by omega) (by omega)
  obtain ⟨fG, eG⟩ := adde 0 0 fG0 fy2 (by rw [eG0, ey2]; grind) zK (by omega) (by omega)
  obtain ⟨fs, es⟩ := sube (R p * R p + R q * R q) ((a * a + b * b : Nat) : Int) fx2 o1 (by rw [ex2, o2]; grind) (by rw [Rat.add_mul, eA, eB, ← Rat.intCast_add, ← Int.natCast_add]) (by omega) (by omega)
  obtain ⟨fFG, eFG⟩ := adde 0 0 fF fG (by rw [eF, eG]; grind) zK (by omega) (by omega)
  obtain ⟨ft, et⟩ := adde (R p * R p + R q * R q) ((a * a + b * b : Nat) : Int) fs fFG (by rw [es, eFG]; grind) (by rw [Rat.add_mul, eA, eB, ← Rat.intCast_add, ← Int.natCast_add]) (by omega) (by omega)
  -- the root
  have hcr : (0 : Rat) < (c : Rat) := Rat.natCast_pos.mpr hc
  have hKne : (2 : Rat) ^ k ≠ 0 := fun h => by rw [h] at hKpos; exact Rat.lt_irrefl hKpos
  obtain ⟨γ, hγ⟩ : ∃ γ : Rat, γ * 2 ^ k = (c : Rat) := ⟨(c : Rat) / 2 ^ k, Rat.div_mul_cancel hKne⟩
  have hγ0 : 0 < γ := by
    rcases @Rat.le_total γ 0 with h3 | h3
    · exfalso
      have : 0 ≤ (-γ) * 2 ^ k := Rat.mul_nonneg (by grind) (Rat.le_of_lt hKpos)
      grind
    · rcases Rat.le_iff_lt_or_eq.mp h3 with h4 | h4
      · exact h4
      · exfalso; rw [← h4] at hγ; grind
  have hcc2 : c * c ≤ 2 ^ 51 := by omega
  have hcle : c ≤ 2 ^ 26 := by
    rcases Nat.lt_or_ge (2 ^ 26) c with h | h
    · have := Nat.mul_le_mul (Nat.le_of_lt h) (Nat.le_of_lt h); omega
    · exact h
  have eC : γ * γ * KK = (((c * c : Nat) : Int) : Rat) := by rw [Rat.intCast_natCast, cA, ← hγ, ← hKK]; grind
  have hKK0 : 0 < KK := by rw [← hKK]; exact Rat.mul_pos hKpos hKpos
  have hCC : R p * R p + R q * R q = γ * γ := eq_of_mul (P := KK) (by rw [Rat.add_mul, eA, eB, eC, ← Rat.intCast_add, ← Int.natCast_add, habc]) hKK0
  have hγrep : Rep γ := rep_mul (m := k) (n := (c : Int)) (by rw [Rat.intCast_natCast]; exact hγ) (by omega) (by omega)
  obtain ⟨fh, eh⟩ := sqrt_exact ft hγ0 (by rw [et, hCC]) hγrep
  have nh := neg_fin fh
  obtain ⟨fz3, ez3⟩ := mule (-(γ * γ)) (-((c * c : Nat) : Int)) nh.1 fh (by rw [nh.2, eh]; grind) (by rw [Rat.intCast_neg, ← eC]; grind) (by omega) (by omega)
  have nz3 := neg_fin fz3
  obtain ⟨fl3, el3⟩ := fmae 0 0 nh.1 fh nz3.1 (by rw [nh.2, nz3.2, ez3, eh]; grind) zK (by omega) (by omega)
  obtain ⟨fx3, ex3⟩ := adde 1 ((NN : Nat) : Int) fx2 fz3 (by rw [ex2, ez3]; grind) (by rw [eO]) (by omega) (by omega)
  obtain ⟨fw3, ew3⟩ := sube (R p * R p + R q * R q) ((a * a + b * b : Nat) : Int) fx2 fx3 (by rw [ex2, ex3]; grind) (by rw [Rat.add_mul, eA, eB, ← Rat.intCast_add, ← Int.natCast_add]) (by omega) (by omega)
  obtain ⟨fy3, ey3⟩ := adde 0 0 fw3 fz3 (by rw [ew3, ez3]; grind) zK (by omega) (by omega)
  obtain ⟨fF3, eF3⟩ := adde 0 0 fF fl3 (by rw [eF, el3]; grind) zK (by omega) (by omega)
  obtain ⟨fG3, eG3⟩ := adde 0 0 fG fy3 (by rw [eG, ey3]; grind) zK (by omega) (by omega)
  obtain ⟨fs3, es3⟩ := sube 0 0 fx3 o1 (by rw [ex3, o2]; grind) zK (by omega) (by omega)
  obtain ⟨fFG3, eFG3⟩ := adde 0 0 fF3 fG3 (by rw [eF3, eG3]; grind) zK (by omega) (by omega)
  obtain ⟨fX, eX⟩ := adde 0 0 fs3 fFG3 (by rw [es3, eFG3]; grind) zK (by omega) (by omega)
  have hγ4 : γ ≤ 2 := by
    refine le_of_sq (by decide) (le_of_mul (P := KK) ?_ hKK0)
    rw [eC, show (2 : Rat) * 2 * KK = 4 * (1 * KK) by grind, eO]
    have := Rat.intCast_le_intCast.mpr (show ((c * c : Nat) : Int) ≤ ((4 * NN : Nat) : Int) by omega)
    rw [Int.natCast_mul 4, Rat.intCast_mul] at this
    exact this
  have m2 := mul_s t1 fh (by rw [t2, eh]; grind) (by rw [t2, eh]; grind)
  have em2 := m2.at 4 (by rw [t2, eh]; grind) (by rw [t2, eh]; grind)
  have hrep2 : Rep (2 * γ) := rep_mul (m := k) (n := ((2 * c : Nat) : Int)) (by rw [Rat.intCast_natCast, cA, ← hγ]; grind) (by omega) (by omega)
  have em : R (mul (ofInt 2) (sqrt (add (sub (add (add one (mul p p)) (mul q q)) one) (add (add (add (zero false) (fma p p (neg (mul p p)))) (fma q q (neg (mul q q)))) (add (add (zero false) (add (sub one (add one (mul p p))) (mul p p))) (add (sub (add one (mul p p)) (add (add one (mul p p)) (mul q q))) (mul q q))))))) = 2 * γ := by
    rw [t2, eh] at m2
    exact m2.ex hrep2
  have m0 : (2 * γ : Rat) ≠ 0 := by grind
  have dv := div_s fX m2.fin (by rw [em]; exact m0) (by rw [eX, em]; rw [Rat.div_def, Rat.zero_mul]; decide) (by rw [eX, em]; rw [Rat.div_def, Rat.zero_mul]; decide)
  have edv := dv.ex (by rw [eX, em, Rat.div_def, Rat.zero_mul]; exact rep_int (n := 0) (by decide))
  rw [eX, em, Rat.div_def, Rat.zero_mul] at edv
  have fin := add_s fh dv.fin (by rw [eh, edv]; grind) (by rw [eh, edv]; grind)
  have efin := fin.ex (by rw [eh, edv, Rat.add_zero]; exact hγrep)
  rw [eh, edv, Rat.add_zero] at efin
  refine ⟨fin.fin, ?_⟩
  have : R (core p q) = γ := efin
  rw [this]; exact hγ
end Mine
end
section
namespace Mine
open PySem PySem.Float64 PySem.Builtin.Math

def hyp (x y : UInt64) : UInt64 := vectorNorm [Float64.abs x, Float64.abs y]

theorem val_nat {x : UInt64} {a : Bool} {m : Nat} {e : Int} (hx : decode x = .fin a m e) (h0 : 0 ≤ R x) : R x * TW = (m : Rat) * 2 ^ (e + 1074).toNat := by
  have h1 := R_mul x
  have h2 : (0 : Rat) ≤ (m : Rat) * 2 ^ (e + 1074).toNat := Rat.mul_nonneg Rat.natCast_nonneg (Rat.pow_nonneg (by decide))
  have c : ((m * 2 ^ (e + 1074).toNat : Nat) : Rat) = (m : Rat) * 2 ^ (e + 1074).toNat := by rw [Rat.natCast_mul, Rat.natCast_pow]; rfl
  rw [h1, val_eq hx]
  cases a
  · rw [sgn_false, Rat.intCast_natCast, c]
  · have h3 : 0 ≤ R x * TW := Rat.mul_nonneg h0 (Rat.le_of_lt TW_pos)
    rw [h1, val_eq hx, sgn_true, Rat.intCast_neg, Rat.intCast_natCast, c] at h3
    rw [sgn_true, Rat.intCast_neg, Rat.intCast_natCast, c]
    exact Rat.le_antisymm (by grind) (by grind)

theorem gt_fin {x m : UInt64} (hx : Fin x) (hm : Fin m) : Float64.gt x m = decide (R m < R x) := by
  unfold Float64.gt
  by_cases h : R m < R x
  · rw [cmp_gt_of hx hm h, decide_eq_true h]; rfl
  · rw [decide_eq_false h, cmp_fin hx hm]
    have : ¬ val m < val x := fun q => h (val_lt_iff.mp q)
    cases hc : compare (val x) (val m) with
    | lt => rfl
    | eq => rfl
    | gt => exact absurd (Int.compare_eq_gt.mp hc) this

theorem big_spec {P Q : UInt64} (hP : Fin P) (hQ : Fin Q) (p0 : 0 ≤ R P) (q0 : 0 ≤ R Q) :
    Fin (maxMagnitude [P, Q]) ∧ R P ≤ R (maxMagnitude [P, Q]) ∧ R Q ≤ R (maxMagnitude [P, Q]) ∧ (R (maxMagnitude [P, Q]) = R P ∨ R (maxMagnitude [P, Q]) = R Q) := by
  obtain ⟨i1, i2⟩ := zero_fin
  have e : maxMagnitude [P, Q] = (if Float64.gt Q (if Float64.gt P (zero false) then P else zero false) then Q else (if Float64.gt P (zero false) then P else zero false)) := rfl
  rw [e, gt_fin hP i1, i2]
  by_cases h1 : 0 < R P
  · rw [decide_eq_true h1, if_pos rfl, gt_fin hQ hP]
    by_cases h2 : R P < R Q
    · rw [decide_eq_true h2, if_pos rfl]; exact ⟨hQ, by grind, by grind, .inr rfl⟩
    · rw [decide_eq_false h2, if_neg Bool.false_ne_true]; exact ⟨hP, by grind, by grind, .inl rfl⟩
  · rw [decide_eq_false h1, if_neg Bool.false_ne_true, gt_fin hQ i1, i2]
    by_cases h2 : 0 < R Q
    · rw [decide_eq_true h2, if_pos rfl]; exact ⟨hQ, by grind, by grind, .inr rfl⟩
    · rw [decide_eq_false h2, if_neg Bool.false_ne_true, i2]; exact ⟨i1, by grind, by grind, .inl (by grind)⟩

theorem notNaN_fin {x : UInt64} (h : Fin x) : isNaN x = false := by obtain ⟨a, m, e, h⟩ := h; unfold isNaN; rw [h]
theorem notInf_fin {x : UInt64} (h : Fin x) : isInf x = false := by obtain ⟨a, m, e, h⟩ := h; unfold isInf; rw [h]
theorem isZero_fin {x : UInt64} (h : Fin x) : isZero x = decide (R x = 0) := by
  obtain ⟨a, m, e, h⟩ := h
  have h1 := R_mul x
  rw [val_eq h] at h1
  by_cases hm : m = 0
  · subst hm
    have : R x = 0 := R_eq (by rw [val_eq h, Rat.zero_mul, Nat.zero_mul]; cases a <;> rfl)
    rw [decide_eq_true this]
    unfold isZero; rw [h]; rfl
  · have : R x ≠ 0 := fun q => by
      rw [q, Rat.zero_mul] at h1
      have h2 := Rat.intCast_eq_zero_iff.mp h1.symm
      have h3 : (sgn a (m * 2 ^ (e + 1074).toNat)).natAbs = m * 2 ^ (e + 1074).toNat := sgn_natAbs _ _
      rw [h2] at h3
      have h4 : 0 < m * 2 ^ (e + 1074).toNat := Nat.mul_pos (by omega) (Nat.two_pow_pos _)
      simp at h3
      omega
    rw [decide_eq_false this]
    unfold isZero; rw [h]
    cases m with
    | zero => exact absurd rfl hm
    | succ n => rfl

theorem vn_zero {P Q : UInt64} (hP : Fin P) (hQ : Fin Q) (p0 : R P = 0) (q0 : R Q = 0) : Fin (vectorNorm [P, Q]) ∧ R (vectorNorm [P, Q]) = 0 := by
  obtain ⟨b1, b2, b3, b4⟩ := big_spec hP hQ (by rw [p0]; decide) (by rw [q0]; decide)
  have hz : R (maxMagnitude [P, Q]) = 0 := by grind
  have e : vectorNorm [P, Q] = maxMagnitude [P, Q] := by
    unfold vectorNorm
    simp only
    rw [notInf_fin b1, isZero_fin b1, decide_eq_true hz]
    simp [notNaN_fin hP, notNaN_fin hQ]
  rw [e]; exact ⟨b1, hz⟩

theorem frexp_two {x : UInt64} {a : Bool} {m : Nat} {e : Int} (h : decode x = .fin a m e) (hm : m ≠ 0) : (frexp x).2 = e + (m.log2 : Int) + 1 := by
  unfold frexp; rw [h]; simp only
  rw [if_neg (by simpa using hm)]

theorem vn_norm {P Q : UInt64} (hP : Fin P) (hQ : Fin Q) (p0 : 0 ≤ R P) (q0 : 0 ≤ R Q) (hb : R (maxMagnitude [P, Q]) ≠ 0) (hex : -1023 ≤ (frexp (maxMagnitude [P, Q])).2) :
    vectorNorm [P, Q] = scaledNorm [P, Q] (maxMagnitude [P, Q]) := by
  obtain ⟨b1, b2, b3, b4⟩ := big_spec hP hQ p0 q0
  unfold vectorNorm
  simp only
  rw [notInf_fin b1, isZero_fin b1, decide_eq_false hb]
  simp [notNaN_fin hP, notNaN_fin hQ, Int.not_lt.mpr hex]
theorem vn_tiny {P Q : UInt64} (hP : Fin P) (hQ : Fin Q) (p0 : 0 ≤ R P) (q0 : 0 ≤ R Q) (hb : R (maxMagnitude [P, Q]) ≠ 0) (hex : (frexp (maxMagnitude [P, Q])).2 < -1023) :
    vectorNorm [P, Q] = mul (pack false (2 ^ 52)) (scaledNorm [div P (pack false (2 ^ 52)), div Q (pack false (2 ^ 52))] (div (maxMagnitude [P, Q]) (pack false (2 ^ 52)))) := by
  obtain ⟨b1, b2, b3, b4⟩ := big_spec hP hQ p0 q0
  unfold vectorNorm
  simp only
  rw [notInf_fin b1, isZero_fin b1, decide_eq_false hb]
  simp [notNaN_fin hP, notNaN_fin hQ, hex]

theorem one_decode : decode one = .fin false (2 ^ 52) (-52) := by with_unfolding_all rfl
/-- the scale: a power of two -/
theorem scale_spec {k : Int} (h1 : -1074 ≤ k) (h2 : k ≤ 1023) : Fin (ldexp one k) ∧ val (ldexp one k) = ((2 ^ (k + 1074).toNat : Nat) : Int) := by
  have e : ldexp one k = ofBin false (2 ^ 52) (k - 52) := by
    unfold ldexp; rw [one_decode]; simp only
    congr 1; omega
  have key : (shift (2 ^ 52) 1 (k - 52)).1 * 2 ^ 1074 * 1 = 2 ^ (k + 1074).toNat * (shift (2 ^ 52) 1 (k - 52)).2 := by
    have := shift_one (2 ^ 52) (k - 52) 1126 (by omega)
    rw [Nat.mul_one]
    have e2 : (k - 52 + ((1126 : Nat) : Int)).toNat = (k + 1074).toNat := by omega
    rw [e2] at this
    refine Nat.eq_of_mul_eq_mul_left (show 0 < 2 ^ 52 by decide) ?_
    have e3 : (2 : Nat) ^ 1126 = 2 ^ 52 * 2 ^ 1074 := by rw [← Nat.pow_add]
    rw [e3] at this
    generalize (shift (2 ^ 52) 1 (k - 52)).1 = s1 at *
    generalize (shift (2 ^ 52) 1 (k - 52)).2 = s2 at *
    rw [show 2 ^ 52 * (s1 * 2 ^ 1074) = s1 * (2 ^ 52 * 2 ^ 1074) by generalize (2 : Nat) ^ 1074 = K; ac_rfl, this]
    generalize (2 : Nat) ^ (k + 1074).toNat = K
    ac_rfl
  have hr : Right (ofBin false (2 ^ 52) (k - 52)) false (2 ^ (k + 1074).toNat) 1 := ofFrac_right (shift_pos _ _ _ (by decide)) key (by decide)
  rw [e]
  have hk : (k + 1074).toNat ≤ 2097 := by omega
  obtain ⟨f1, f2⟩ := right_rep hr (by decide) (n := 1) (k := (k + 1074).toNat) (by rw [Nat.one_mul, Nat.one_mul]) (by decide) (by
    rw [Nat.one_mul, ← Nat.pow_add]; exact Nat.pow_lt_pow_right (by decide) (by omega))
  refine ⟨f1, ?_⟩
  rw [f2, Nat.one_mul]; rfl

theorem rpow_pos (n : Nat) : (0 : Rat) < 2 ^ n := Rat.pow_pos (by decide)
theorem rpow_nat (n : Nat) : (2 : Rat) ^ n = ((2 ^ n : Nat) : Rat) := by rw [Rat.natCast_pow]; rfl
theorem rpow_le {a b : Nat} (h : a ≤ b) : (2 : Rat) ^ a ≤ 2 ^ b := by
  rw [rpow_nat, rpow_nat]; exact Rat.natCast_le_natCast.mpr (Nat.pow_le_pow_right (by decide) h)
theorem TW_pow : TW = 2 ^ 1074 := rfl
theorem mul_rpow {x : Rat} {a b : Nat} (h : a = b) : x * 2 ^ a = x * 2 ^ b := by rw [h]
theorem log_bounds {m : Nat} (hm : m ≠ 0) : ((2 : Rat) ^ m.log2 ≤ (m : Rat)) ∧ (m : Rat) < 2 ^ (m.log2 + 1) := by
  constructor
  · rw [rpow_nat]; exact Rat.natCast_le_natCast.mpr (Nat.log2_self_le hm)
  · rw [rpow_nat]; exact Rat.natCast_lt_natCast.mpr Nat.lt_log2_self

/-- the hypotenuse of everyday numbers -/
theorem vn_ok {P Q : UInt64} (hP : Fin P) (hQ : Fin Q) (p0 : R P = 0 ∨ (1/2^300 ≤ R P ∧ R P ≤ 2^300)) (q0 : R Q = 0 ∨ (1/2^300 ≤ R Q ∧ R Q ≤ 2^300)) :
    Fin (vectorNorm [P, Q]) ∧ 0 ≤ R (vectorNorm [P, Q]) ∧ R (vectorNorm [P, Q]) * R (vectorNorm [P, Q]) - (R P * R P + R Q * R Q) ≤ 5 * (R P * R P + R Q * R Q) * (1/2^53) ∧
      (R P * R P + R Q * R Q) - R (vectorNorm [P, Q]) * R (vectorNorm [P, Q]) ≤ 5 * (R P * R P + R Q * R Q) * (1/2^53) := by
  have t300 : (0 : Rat) < 1/2^300 := by decide +kernel
  have pp : 0 ≤ R P := by rcases p0 with h | h <;> grind
  have qq : 0 ≤ R Q := by rcases q0 with h | h <;> grind
  by_cases hz : R P = 0 ∧ R Q = 0
  · obtain ⟨f, e⟩ := vn_zero hP hQ hz.1 hz.2
    refine ⟨f, by rw [e]; decide, ?_, ?_⟩ <;> rw [e, hz.1, hz.2] <;> decide +kernel
  obtain ⟨b1, b2, b3, b4⟩ := big_spec hP hQ pp qq
  have hBlo : 1/2^300 ≤ R (maxMagnitude [P, Q]) ∧ R (maxMagnitude [P, Q]) ≤ 2^300 := by
    rcases p0 with h | h <;> rcases q0 with h' | h'
    · exact absurd ⟨h, h'⟩ hz
    · constructor <;> grind
    · constructor <;> grind
    · constructor <;> grind
  have hB0 : R (maxMagnitude [P, Q]) ≠ 0 := by grind
  obtain ⟨ab, m, e, hd⟩ := id b1
  have hm : m ≠ 0 := ne_of_val hd hB0
  have hfr := frexp_two hd hm
  have hv := val_nat hd (by grind)
  obtain ⟨lb1, lb2⟩ := log_bounds hm
  have hge := decode_ge hd
  have hm53 := (decode_le hd).1
  have hL52 : m.log2 < 53 := (Nat.log2_lt hm).mpr hm53
  generalize hL : m.log2 = L at *
  have hTWp := TW_pos
  -- the exponent's bounds
  have hup : (e : Int) + L ≤ 300 := by
    rcases Int.lt_or_le 300 (e + L) with h | h
    · exfalso
      have h1 : (2 : Rat) ^ (L + (e + 1074).toNat) ≤ (m : Rat) * 2 ^ (e + 1074).toNat := by
        rw [rpow_add]; exact Rat.mul_le_mul_of_nonneg_right lb1 (Rat.le_of_lt (rpow_pos _))
      have h2 : (2 : Rat) ^ 1375 ≤ 2 ^ (L + (e + 1074).toNat) := rpow_le (by omega)
      have h3 : R (maxMagnitude [P, Q]) * TW ≤ 2^300 * TW := Rat.mul_le_mul_of_nonneg_right hBlo.2 (Rat.le_of_lt hTWp)
      have h4 : (2:Rat)^300 * TW < 2^1375 := by unfold TW; decide +kernel
      rw [hv] at h3
      grind
    · exact h
  have hlo : -301 ≤ (e : Int) + L := by
    rcases Int.lt_or_le (e + L) (-301) with h | h
    · exfalso
      have h1 : (m : Rat) * 2 ^ (e + 1074).toNat ≤ (2 : Rat) ^ (L + 1 + (e + 1074).toNat) := by
        rw [rpow_add 2 (L + 1)]; exact Rat.mul_le_mul_of_nonneg_right (Rat.le_of_lt lb2) (Rat.le_of_lt (rpow_pos _))
      have h2 : (2 : Rat) ^ (L + 1 + (e + 1074).toNat) ≤ 2 ^ 773 := rpow_le (by omega)
      have h3 : 1/2^300 * TW ≤ R (maxMagnitude [P, Q]) * TW := Rat.mul_le_mul_of_nonneg_right hBlo.1 (Rat.le_of_lt hTWp)
      have h4 : (2:Rat)^773 < 1/2^300 * TW := by unfold TW; decide +kernel
      rw [hv] at h3
      grind
    · exact h
  -- the scale
  obtain ⟨fs, vs⟩ := scale_spec (k := -(e + L + 1)) (by omega) (by omega)
  have hs : R (ldexp one (-(e + L + 1))) * TW = 2 ^ (-(e + L + 1) + 1074).toNat := by
    rw [R_mul, vs, Rat.intCast_natCast, ← rpow_nat]
  rw [vn_norm hP hQ pp qq hB0 (by rw [hfr]; omega), scaled_core, hfr]
  generalize ldexp one (-(e + L + 1)) = sc at *
  generalize hσ : R sc = σ at *
  have hσ0 : 0 < σ := by
    rcases @Rat.le_total σ 0 with h3 | h3
    · exfalso
      have : 0 ≤ (-σ) * TW := Rat.mul_nonneg (by grind) (Rat.le_of_lt hTWp)
      have := rpow_pos (-(e + L + 1) + 1074).toNat
      grind
    · rcases Rat.le_iff_lt_or_eq.mp h3 with h4 | h4
      · exact h4
      · exfalso
        have := rpow_pos (-(e + L + 1) + 1074).toNat
        grind
  -- the greatest one scaled
  have hβ : R (maxMagnitude [P, Q]) * σ * 2 ^ (L + 1) = (m : Rat) := by
    have h1 : R (maxMagnitude [P, Q]) * σ * 2 ^ (L + 1) * (TW * TW) = (m : Rat) * (TW * TW) := by
      have h2 : R (maxMagnitude [P, Q]) * σ * 2 ^ (L + 1) * (TW * TW) = (R (maxMagnitude [P, Q]) * TW) * (σ * TW) * 2 ^ (L + 1) := by grind
      rw [h2, hv, hs, TW_pow, ← rpow_add, Rat.mul_assoc, Rat.mul_assoc, ← rpow_add, ← rpow_add]
      exact mul_rpow (by omega)
    exact eq_of_mul h1 (Rat.mul_pos hTWp hTWp)
  have hβ1 : 1/2 ≤ R (maxMagnitude [P, Q]) * σ ∧ R (maxMagnitude [P, Q]) * σ ≤ 1 := by
    have hL0 := rpow_pos (L + 1)
    constructor
    · refine le_of_mul (P := 2 ^ (L + 1)) ?_ hL0
      rw [hβ, Rat.pow_succ]; grind
    · refine le_of_mul (P := 2 ^ (L + 1)) ?_ hL0
      rw [hβ]; grind
  -- each scaled exactly
  have sc1 : ∀ {C : UInt64}, Fin C → (R C = 0 ∨ (1/2^300 ≤ R C ∧ R C ≤ 2^300)) → R C ≤ R (maxMagnitude [P, Q]) → Fin (mul C sc) ∧ R (mul C sc) = R C * σ ∧ 0 ≤ R C * σ ∧ R C * σ ≤ 1 := by
    intro C hC c0 cb
    have cc : 0 ≤ R C := by rcases c0 with h | h <;> grind
    have z0 : 0 ≤ R C * σ := Rat.mul_nonneg cc (Rat.le_of_lt hσ0)
    have z1 : R C * σ ≤ 1 := Rat.le_trans (Rat.mul_le_mul_of_nonneg_right cb (Rat.le_of_lt hσ0)) hβ1.2
    have hmul := mul_s hC fs (by rw [hσ]; grind) (by rw [hσ]; grind)
    rw [hσ] at hmul
    refine ⟨hmul.fin, hmul.ex ?_, z0, z1⟩
    rcases c0 with h | h
    · rw [h, Rat.zero_mul]; exact rep_int (n := 0) (by decide)
    · obtain ⟨a', m', e', hd'⟩ := hC
      have hv' := val_nat hd' cc
      have hle' := decode_le hd'
      have hge' := decode_ge hd'
      have he' : 722 ≤ e' + 1074 := by
        rcases Int.lt_or_le (e' + 1074) 722 with q | q
        · exfalso
          have h3 : 1/2^300 * TW ≤ R C * TW := Rat.mul_le_mul_of_nonneg_right h.1 (Rat.le_of_lt hTWp)
          have h4 : (2:Rat)^774 ≤ 1/2^300 * TW := by unfold TW; decide +kernel
          have h5 : (m' : Rat) < 2 ^ 53 := by rw [rpow_nat]; exact Rat.natCast_lt_natCast.mpr hle'.1
          have h6 : (m' : Rat) * 2 ^ (e' + 1074).toNat < 2 ^ 53 * 2 ^ (e' + 1074).toNat := Rat.mul_lt_mul_of_pos_right h5 (rpow_pos _)
          have h7 : (2 : Rat) ^ (53 + (e' + 1074).toNat) ≤ 2 ^ 774 := rpow_le (by omega)
          rw [rpow_add] at h7
          rw [hv'] at h3
          grind
        · exact q
      refine ⟨(m' : Int), (e' + 1074 - (e + L + 1)).toNat, by omega, ?_⟩
      have h1 : R C * σ * TW * TW = (m' : Rat) * 2 ^ (e' + 1074 - (e + L + 1)).toNat * TW := by
        have h2 : R C * σ * TW * TW = (R C * TW) * (σ * TW) := by grind
        rw [h2, hv', hs, TW_pow, Rat.mul_assoc, Rat.mul_assoc, ← rpow_add, ← rpow_add]
        exact mul_rpow (by omega)
      rw [Rat.intCast_natCast]
      exact eq_of_mul h1 hTWp
  obtain ⟨f1, r1, l1, u1⟩ := sc1 hP p0 b2
  obtain ⟨f2, r2, l2, u2⟩ := sc1 hQ q0 b3
  have hS' : 1/4 ≤ R P * σ * (R P * σ) + R Q * σ * (R Q * σ) := by
    have g1 := Rat.mul_nonneg l1 l1
    have g2 := Rat.mul_nonneg l2 l2
    rcases b4 with h | h
    · rw [h] at hβ1
      have := sqle (by decide +kernel) hβ1.1
      grind
    · rw [h] at hβ1
      have := sqle (by decide +kernel) hβ1.1
      grind
  have ce := core_err f1 f2 (by rw [r1]; exact l1) (by rw [r1]; exact u1) (by rw [r2]; exact l2) (by rw [r2]; exact u2) (by rw [r1, r2]; exact hS')
  rw [r1, r2] at ce
  obtain ⟨fc, c0, ce1, ce2⟩ := ce
  generalize core (mul P sc) (mul Q sc) = X at *
  generalize hS : R P * R P + R Q * R Q = S at *
  have hSS : R P * σ * (R P * σ) + R Q * σ * (R Q * σ) = S * (σ * σ) := by rw [← hS]; grind
  have hSS2 : S * (σ * σ) ≤ 2 := by
    rw [← hSS]
    have := sqle l1 u1
    have := sqle l2 u2
    grind
  rw [hSS] at ce1 ce2 hS'
  have hXlo : 2/5 ≤ R X := le_of_sq c0 (by grind)
  have hXhi : R X ≤ 2 := le_of_sq (by decide) (by grind)
  have hσne : σ ≠ 0 := by grind
  obtain ⟨z, hz2⟩ : ∃ z : Rat, z = R X / σ := ⟨_, rfl⟩
  have hzσ : z * σ = R X := by rw [hz2]; exact Rat.div_mul_cancel hσne
  have hz0 : 0 ≤ z := nonneg_of hzσ c0 hσ0
  have hσlo : 1/2^302 ≤ σ := by
    refine le_of_mul (P := TW) ?_ hTWp
    rw [hs]
    have h1 : (2 : Rat) ^ 773 ≤ 2 ^ (-(e + L + 1) + 1074).toNat := rpow_le (by omega)
    have h2 : 1/2^302 * TW ≤ (2 : Rat)^773 := by unfold TW; decide +kernel
    exact Rat.le_trans h2 h1
  have hzhi : z ≤ 2^900 := by
    refine le_of_mul (P := σ) ?_ hσ0
    rw [hzσ]
    have h1 : (2:Rat)^900 * (1/2^302) ≤ 2^900 * σ := Rat.mul_le_mul_of_nonneg_left hσlo (Rat.le_of_lt (rpow_pos _))
    have h2 : (2 : Rat) ≤ 2^900 * (1/2^302) := by decide +kernel
    grind
  have dv := div_rd fc fs (by rw [hσ]; exact hσne) (by rw [hσ, ← hz2]; have := rpow_pos 900; grind) (by rw [hσ, ← hz2]; exact hzhi)
  rw [hσ, ← hz2] at dv
  have hrep : Rep z := by
    obtain ⟨a', m', e', hd'⟩ := fc
    have hv' := val_nat hd' c0
    have hle' := decode_le hd'
    have hge' := decode_ge hd'
    have he' : 1018 ≤ e' + 1074 := by
      rcases Int.lt_or_le (e' + 1074) 1018 with q | q
      · exfalso
        have h3 : 2/5 * TW ≤ R X * TW := Rat.mul_le_mul_of_nonneg_right hXlo (Rat.le_of_lt hTWp)
        have h4 : (2:Rat)^1072 ≤ 2/5 * TW := by unfold TW; decide +kernel
        have h5 : (m' : Rat) < 2 ^ 53 := by rw [rpow_nat]; exact Rat.natCast_lt_natCast.mpr hle'.1
        have h6 : (m' : Rat) * 2 ^ (e' + 1074).toNat < 2 ^ 53 * 2 ^ (e' + 1074).toNat := Rat.mul_lt_mul_of_pos_right h5 (rpow_pos _)
        have h7 : (2 : Rat) ^ (53 + (e' + 1074).toNat) ≤ 2 ^ 1072 := rpow_le (by omega)
        rw [rpow_add] at h7
        rw [hv'] at h3
        grind
      · exact q
    refine ⟨(m' : Int), (e' + 1074 + (e + L + 1)).toNat, by omega, ?_⟩
    have h1 : z * TW * (σ * TW) = (m' : Rat) * 2 ^ (e' + 1074 + (e + L + 1)).toNat * (σ * TW) := by
      have h2 : z * TW * (σ * TW) = (R X * TW) * TW := by rw [← hzσ]; grind
      rw [h2, hv', hs, TW_pow, Rat.mul_assoc, Rat.mul_assoc, ← rpow_add, ← rpow_add]
      exact mul_rpow (by omega)
    rw [Rat.intCast_natCast]
    exact eq_of_mul h1 (Rat.mul_pos hσ0 hTWp)
  have hR := dv.ex hrep
  refine ⟨dv.fin, by rw [hR]; exact hz0, ?_, ?_⟩
  · rw [hR]
    refine le_of_mul (P := σ * σ) ?_ (Rat.mul_pos hσ0 hσ0)
    have : (z * z - S) * (σ * σ) = R X * R X - S * (σ * σ) := by rw [← hzσ]; grind
    rw [this]; grind
  · rw [hR]
    refine le_of_mul (P := σ * σ) ?_ (Rat.mul_pos hσ0 hσ0)
    have : (S - z * z) * (σ * σ) = S * (σ * σ) - R X * R X := by rw [← hzσ]; grind
    rw [this]; grind

theorem hyp_ok {x y : UInt64} (hx : Fin x) (hy : Fin y) (x0 : R x = 0 ∨ (1/2^300 ≤ R x ∧ R x ≤ 2^300)) (y0 : R y = 0 ∨ (1/2^300 ≤ R y ∧ R y ≤ 2^300)) :
    Fin (hyp x y) ∧ 0 ≤ R (hyp x y) ∧ R (hyp x y) * R (hyp x y) - (R x * R x + R y * R y) ≤ 5 * (R x * R x + R y * R y) * (1/2^53) ∧
      (R x * R x + R y * R y) - R (hyp x y) * R (hyp x y) ≤ 5 * (R x * R x + R y * R y) * (1/2^53) := by
  have t300 : (0 : Rat) < 1/2^300 := by decide +kernel
  have a := abs_fin hx
  have b := abs_fin hy
  have ea := a.2.1 (by rcases x0 with h | h <;> grind)
  have eb := b.2.1 (by rcases y0 with h | h <;> grind)
  have := vn_ok a.1 b.1 (by rw [ea]; exact x0) (by rw [eb]; exact y0)
  rw [ea, eb] at this
  exact this
end Mine
end
section
namespace Mine
open PySem PySem.Float64 PySem.Builtin.Math

theorem log2_shift {m : Nat} (hm : m ≠ 0) (s : Nat) : (m * 2 ^ s).log2 = m.log2 + s := by
  have h1 := Nat.log2_self_le hm
  have h2 := @Nat.lt_log2_self m
  have h0 : m * 2 ^ s ≠ 0 := Nat.mul_ne_zero hm (Nat.ne_of_gt (Nat.two_pow_pos s))
  have a1 : m.log2 + s ≤ (m * 2 ^ s).log2 := (Nat.le_log2 h0).2 (by rw [Nat.pow_add]; exact Nat.mul_le_mul_right _ h1)
  have a2 : (m * 2 ^ s).log2 < m.log2 + s + 1 := (Nat.log2_lt h0).2 (by rw [show m.log2 + s + 1 = m.log2 + 1 + s by omega, Nat.pow_add]; exact Nat.mul_lt_mul_of_pos_right h2 (Nat.two_pow_pos s))
  omega

theorem mul_npow {x a b : Nat} (h : a = b) : x * 2 ^ a = x * 2 ^ b := by rw [h]
theorem R_of_val {x : UInt64} {n j : Nat} (h : val x = ((n * 2 ^ j : Nat) : Int)) : R x * TW = (n : Rat) * 2 ^ j := by
  rw [R_mul, h, Rat.intCast_natCast, Rat.natCast_mul, Rat.natCast_pow]; rfl
theorem pos_sign {x : UInt64} {a : Bool} {m : Nat} {e : Int} (hx : decode x = .fin a m e) (h : 0 < val x) : a = false := by
  cases a
  · rfl
  · rw [val_eq hx, sgn_true] at h; omega

theorem scaled_exact {P Q B : UInt64} (hP : Fin P) (hQ : Fin Q) (hB : Fin B) {a b c M j : Nat} (vP : val P = ((a * 2 ^ j : Nat) : Int)) (vQ : val Q = ((b * 2 ^ j : Nat) : Int)) (vB : val B = ((M * 2 ^ j : Nat) : Int))
    (habc : a * a + b * b = c * c) (ha : a ≤ M) (hb : b ≤ M) (hM0 : M ≠ 0) (hM : M < 2 ^ 25) (hc : 0 < c) (hj : 50 ≤ M.log2 + j) (hj2 : j ≤ 2093) (hsz : c * 2 ^ j < 2 ^ 53 * 2 ^ 2045) :
    Fin (scaledNorm [P, Q] B) ∧ val (scaledNorm [P, Q] B) = ((c * 2 ^ j : Nat) : Int) := by
  obtain ⟨s, m, e, hd⟩ := hB
  have hge := decode_ge hd
  have hMj : 0 < M * 2 ^ j := Nat.mul_pos (by omega) (Nat.two_pow_pos j)
  have hmv : m * 2 ^ (e + 1074).toNat = M * 2 ^ j := by
    have := val_natAbs hd
    rw [vB] at this
    omega
  have hm : m ≠ 0 := fun q => by rw [q, Nat.zero_mul] at hmv; omega
  have hlog : (m.log2 : Int) + (e + 1074) = M.log2 + j := by
    have h1 := log2_shift hm (e + 1074).toNat
    rw [hmv, log2_shift hM0] at h1
    omega
  have hfr := frexp_two hd hm
  have hL : M.log2 < 25 := (Nat.log2_lt hM0).mpr hM
  have hML := @Nat.lt_log2_self M
  generalize M.log2 = L at *
  have hex : (frexp B).2 = (L : Int) + j + 1 - 1074 := by rw [hfr]; omega
  obtain ⟨fs, vs⟩ := scale_spec (k := -((L : Int) + j + 1 - 1074)) (by omega) (by omega)
  have hs : R (ldexp one (-((L : Int) + j + 1 - 1074))) * TW = 2 ^ (2147 - L - j) := by
    rw [R_mul, vs, Rat.intCast_natCast, ← rpow_nat]
    exact (by have e1 : (-((L : Int) + j + 1 - 1074) + 1074).toNat = 2147 - L - j := by omega
              rw [e1])
  have vs' : val (ldexp one (-((L : Int) + j + 1 - 1074))) = ((2 ^ (2147 - L - j) : Nat) : Int) := by
    have e1 : (-((L : Int) + j + 1 - 1074) + 1074).toNat = 2147 - L - j := by omega
    rw [vs, e1]
  rw [scaled_core, hex]
  generalize ldexp one (-((L : Int) + j + 1 - 1074)) = sc at *
  have hTT : 0 < TW * TW := Rat.mul_pos TW_pos TW_pos
  have sc1 : ∀ {C : UInt64} {n : Nat}, Fin C → val C = ((n * 2 ^ j : Nat) : Int) → n ≤ 2 ^ (L + 1) → Fin (mul C sc) ∧ R (mul C sc) * 2 ^ (L + 1) = (n : Rat) := by
    intro C n hC vC hn
    have h1 := R_of_val vC
    have e1 : R C * R sc * 2 ^ (L + 1) = (n : Rat) := by
      have h2 : R C * R sc * 2 ^ (L + 1) * (TW * TW) = (n : Rat) * (TW * TW) := by
        have h3 : R C * R sc * 2 ^ (L + 1) * (TW * TW) = (R C * TW) * (R sc * TW) * 2 ^ (L + 1) := by grind
        rw [h3, h1, hs, TW_pow, ← rpow_add, Rat.mul_assoc, Rat.mul_assoc, ← rpow_add, ← rpow_add]
        exact mul_rpow (by omega)
      exact eq_of_mul h2 hTT
    have hp := rpow_pos (L + 1)
    have hn' : (n : Rat) ≤ 2 ^ (L + 1) := by rw [rpow_nat]; exact Rat.natCast_le_natCast.mpr hn
    have z1 : R C * R sc ≤ 1 := le_of_mul (by rw [e1]; grind) hp
    have z0 : 0 ≤ R C * R sc := nonneg_of e1 Rat.natCast_nonneg hp
    have hmul := mul_s hC fs (by grind) (by grind)
    have hn2 : (2 : Nat) ^ (L + 1) ≤ 2 ^ 25 := Nat.pow_le_pow_right (by decide) (by omega)
    have rp : Rep (R C * R sc) := rep_mul (m := L + 1) (n := (n : Int)) (by rw [Rat.intCast_natCast]; exact e1) (by omega) (by omega)
    exact ⟨hmul.fin, by rw [hmul.ex rp]; exact e1⟩
  obtain ⟨f1, r1⟩ := sc1 hP vP (by omega)
  obtain ⟨f2, r2⟩ := sc1 hQ vQ (by omega)
  obtain ⟨fc, rc⟩ := core_exact f1 f2 (k := L + 1) (by omega) (by omega) (by omega) habc hc r1 r2
  generalize core (mul P sc) (mul Q sc) = X at *
  have hvX : val X = ((c * 2 ^ (1073 - L) : Nat) : Int) := by
    have h1 : R X * TW = (c : Rat) * 2 ^ (1073 - L) := by
      refine eq_of_mul (P := 2 ^ (L + 1)) ?_ (rpow_pos _)
      rw [show R X * TW * 2 ^ (L + 1) = R X * 2 ^ (L + 1) * TW by grind, rc, TW_pow, Rat.mul_assoc, ← rpow_add]
      exact mul_rpow (by omega)
    rw [R_mul, rpow_nat, ← Rat.natCast_mul, ← Rat.intCast_natCast] at h1
    exact Rat.intCast_inj.mp h1
  obtain ⟨ax, mx, ex, hdx⟩ := fc
  obtain ⟨as, ms, es, hds⟩ := fs
  have hX0 : 0 < val X := by rw [hvX]; have := Nat.mul_pos hc (Nat.two_pow_pos (1073 - L)); omega
  have hS0 : 0 < val sc := by rw [vs']; have := Nat.two_pow_pos (2147 - L - j); omega
  have e1 := pos_sign hdx hX0
  have e2 := pos_sign hds hS0
  subst e1 e2
  have hms : ms ≠ 0 := fun q => by rw [val_eq hds, q, Nat.zero_mul] at hS0; exact absurd hS0 (by decide)
  have hr := div_right hdx hds hms
  rw [hvX, vs', Int.natAbs_natCast, Int.natAbs_natCast] at hr
  have hc24 : c ≤ 2 ^ 26 := by
    rcases Nat.lt_or_ge (2 ^ 26) c with h | h
    · have := Nat.mul_le_mul (Nat.le_of_lt h) (Nat.le_of_lt h)
      have := Nat.mul_le_mul (show a ≤ 2 ^ 25 by omega) (show a ≤ 2 ^ 25 by omega)
      have := Nat.mul_le_mul (show b ≤ 2 ^ 25 by omega) (show b ≤ 2 ^ 25 by omega)
      omega
    · exact h
  exact right_rep hr (Nat.two_pow_pos _) (n := c) (k := j) (by
    rw [Nat.mul_assoc, ← Nat.pow_add, Nat.mul_left_comm, ← Nat.pow_add]
    exact mul_npow (by omega)) (by omega) hsz

theorem val_nonneg {x : UInt64} (h : 0 ≤ val x) : 0 ≤ R x := nonneg_of (R_mul x) (Rat.intCast_nonneg.mpr h) TW_pos
theorem vn_exact {P Q : UInt64} (hP : Fin P) (hQ : Fin Q) {a b c j : Nat} (vP : val P = ((a * 2 ^ j : Nat) : Int)) (vQ : val Q = ((b * 2 ^ j : Nat) : Int))
    (habc : a * a + b * b = c * c) (ha : a < 2 ^ 25) (hb : b < 2 ^ 25) (hc : 0 < c) (hj2 : j ≤ 2093) (hsz : c * 2 ^ j < 2 ^ 53 * 2 ^ 2045) :
    Fin (vectorNorm [P, Q]) ∧ val (vectorNorm [P, Q]) = ((c * 2 ^ j : Nat) : Int) := by
  have p0 : 0 ≤ R P := val_nonneg (by rw [vP]; omega)
  have q0 : 0 ≤ R Q := val_nonneg (by rw [vQ]; omega)
  obtain ⟨b1, b2, b3, b4⟩ := big_spec hP hQ p0 q0
  obtain ⟨M, hM1, hM2, hM3, vB⟩ : ∃ M, a ≤ M ∧ b ≤ M ∧ (M = a ∨ M = b) ∧ val (maxMagnitude [P, Q]) = ((M * 2 ^ j : Nat) : Int) := by
    have hj0 := Nat.two_pow_pos j
    have le_of : ∀ {x y : UInt64} {m n : Nat}, R x ≤ R y → val x = ((m * 2 ^ j : Nat) : Int) → val y = ((n * 2 ^ j : Nat) : Int) → m ≤ n := by
      intro x y m n h hx hy
      have h1 : ¬ val y < val x := fun q => by have := val_lt_iff.mp q; grind
      rw [hx, hy] at h1
      exact Nat.le_of_mul_le_mul_right (by omega) hj0
    rcases b4 with h | h
    · have e := (val_eq_iff.mpr h).trans vP
      exact ⟨a, Nat.le_refl _, le_of b3 vQ e, .inl rfl, e⟩
    · have e := (val_eq_iff.mpr h).trans vQ
      exact ⟨b, le_of b2 vP e, Nat.le_refl _, .inr rfl, e⟩
  have hM0 : M ≠ 0 := by
    intro q
    have ha0 : a = 0 := by omega
    have hb0 : b = 0 := by omega
    rw [ha0, hb0] at habc
    have := Nat.mul_pos hc hc
    omega
  have hMlt : M < 2 ^ 25 := by omega
  have hRB : R (maxMagnitude [P, Q]) ≠ 0 := fun q => by
    have h1 := R_of_val vB
    rw [q, Rat.zero_mul] at h1
    have h2 : (0 : Rat) < (M : Rat) * 2 ^ j := Rat.mul_pos (Rat.natCast_pos.mpr (by omega)) (rpow_pos j)
    grind
  -- the exponent
  obtain ⟨s, m, e, hd⟩ := id b1
  have hge := decode_ge hd
  have hMj : 0 < M * 2 ^ j := Nat.mul_pos (by omega) (Nat.two_pow_pos j)
  have hmv : m * 2 ^ (e + 1074).toNat = M * 2 ^ j := by
    have := val_natAbs hd
    rw [vB] at this
    omega
  have hm : m ≠ 0 := fun q => by rw [q, Nat.zero_mul] at hmv; omega
  have hlog : (m.log2 : Int) + (e + 1074) = M.log2 + j := by
    have h1 := log2_shift hm (e + 1074).toNat
    rw [hmv, log2_shift hM0] at h1
    omega
  have hfr := frexp_two hd hm
  by_cases hex : -1023 ≤ (frexp (maxMagnitude [P, Q])).2
  · rw [vn_norm hP hQ p0 q0 hRB hex]
    exact scaled_exact hP hQ b1 vP vQ vB habc hM1 hM2 hM0 hMlt hc (by omega) hj2 hsz
  · rw [vn_tiny hP hQ p0 q0 hRB (by omega)]
    have hLj : M.log2 + j < 50 := by omega
    have td : decode (pack false (2 ^ 52)) = .fin false (2 ^ 52) (-1074) := by with_unfolding_all rfl
    have tv : val (pack false (2 ^ 52)) = ((2 ^ 52 : Nat) : Int) := by rw [val_eq td]; decide +kernel
    have dv : ∀ {C : UInt64} {n : Nat}, Fin C → val C = ((n * 2 ^ j : Nat) : Int) → n < 2 ^ 25 → Fin (div C (pack false (2 ^ 52))) ∧ val (div C (pack false (2 ^ 52))) = ((n * 2 ^ (j + 1022) : Nat) : Int) := by
      intro C n hC vC hn
      obtain ⟨ac, mc, ec, hdc⟩ := hC
      have hr := div_right hdc td (by decide)
      rw [vC, tv, Int.natAbs_natCast, Int.natAbs_natCast] at hr
      have sz : n * 2 ^ (j + 1022) < 2 ^ 53 * 2 ^ 2045 := Nat.mul_lt_mul_of_lt_of_le (by omega) (Nat.pow_le_pow_right (by decide) (by omega)) (Nat.two_pow_pos _)
      obtain ⟨g1, g2⟩ := right_rep hr (by decide) (n := n) (k := j + 1022) (by
        rw [Nat.mul_assoc, ← Nat.pow_add, Nat.mul_left_comm, ← Nat.pow_add]
        exact mul_npow (by omega)) (by omega) sz
      refine ⟨g1, g2.trans ?_⟩
      cases ac
      · rfl
      · have h0 : n * 2 ^ j = 0 := by
          have h3 := val_eq hdc
          rw [vC, sgn_true] at h3
          omega
        have h1 : n = 0 := by
          rcases Nat.mul_eq_zero.mp h0 with h | h
          · exact h
          · exact absurd h (Nat.ne_of_gt (Nat.two_pow_pos j))
        rw [h1, Nat.zero_mul]; rfl
    obtain ⟨f1, v1⟩ := dv hP vP ha
    obtain ⟨f2, v2⟩ := dv hQ vQ hb
    obtain ⟨f3, v3⟩ := dv b1 vB hMlt
    have hc24 : c ≤ 2 ^ 26 := by
      rcases Nat.lt_or_ge (2 ^ 26) c with h | h
      · have := Nat.mul_le_mul (Nat.le_of_lt h) (Nat.le_of_lt h)
        have := Nat.mul_le_mul (show a ≤ 2 ^ 25 by omega) (show a ≤ 2 ^ 25 by omega)
        have := Nat.mul_le_mul (show b ≤ 2 ^ 25 by omega) (show b ≤ 2 ^ 25 by omega)
        omega
      · exact h
    obtain ⟨g1, g2⟩ := scaled_exact f1 f2 f3 v1 v2 v3 habc hM1 hM2 hM0 hMlt hc (by omega) (by omega) (Nat.mul_lt_mul_of_lt_of_le (by omega) (Nat.pow_le_pow_right (by decide) (by omega)) (Nat.two_pow_pos _))
    generalize scaledNorm [div P (pack false (2 ^ 52)), div Q (pack false (2 ^ 52))] (div (maxMagnitude [P, Q]) (pack false (2 ^ 52))) = r at *
    obtain ⟨ar, mr, er, hdr⟩ := g1
    have hr0 : 0 < val r := by rw [g2]; have := Nat.mul_pos hc (Nat.two_pow_pos (j + 1022)); omega
    have e1 := pos_sign hdr hr0
    subst e1
    have hr := mul_right td hdr
    rw [g2, tv, Int.natAbs_natCast, Int.natAbs_natCast] at hr
    exact right_rep hr (Nat.two_pow_pos _) (n := c) (k := j) (by
      rw [Nat.mul_left_comm, ← Nat.pow_add, Nat.mul_left_comm, ← Nat.pow_add]
      exact mul_npow (by omega)) (by omega) hsz

theorem hyp_exact {x y : UInt64} (hx : Fin x) (hy : Fin y) {a b c j : Nat} (vx : val x = ((a * 2 ^ j : Nat) : Int)) (vy : val y = ((b * 2 ^ j : Nat) : Int))
    (habc : a * a + b * b = c * c) (ha : a < 2 ^ 25) (hb : b < 2 ^ 25) (hc : 0 < c) (hj2 : j ≤ 2093) (hsz : c * 2 ^ j < 2 ^ 53 * 2 ^ 2045) :
    Fin (hyp x y) ∧ val (hyp x y) = ((c * 2 ^ j : Nat) : Int) := by
  have h1 := abs_fin hx
  have h2 := abs_fin hy
  exact vn_exact h1.1 h2.1 ((val_eq_iff.mpr (h1.2.1 (val_nonneg (by rw [vx]; omega)))).trans vx) ((val_eq_iff.mpr (h2.2.1 (val_nonneg (by rw [vy]; omega)))).trans vy) habc ha hb hc hj2 hsz
end Mine
end
section
namespace Mine
open PySem PySem.Float64

/-- a float that is the whole number n -/
def IsI (x : UInt64) (n : Int) : Prop := Fin x ∧ R x = (n : Rat)
theorem lim_int {n : Int} (h : n.natAbs ≤ 2 ^ 53) : -(2 ^ 900) ≤ (n : Rat) ∧ (n : Rat) ≤ 2 ^ 900 := by
  have a : (n : Rat) ≤ 2 ^ 53 := Rat.intCast_le_intCast (b := 2 ^ 53).mpr (by omega)
  have b : -(2 ^ 53) ≤ (n : Rat) := Rat.intCast_le_intCast (a := -(2 ^ 53)).mpr (by omega)
  have c : (2 : Rat) ^ 53 ≤ 2 ^ 900 := by decide +kernel
  constructor <;> grind
theorem isI_ofInt {n : Int} (h : n.natAbs ≤ 2 ^ 53) : IsI (ofInt n) n := by
  have r := ofInt_rd (lim_int h).1 (lim_int h).2
  exact ⟨r.fin, r.ex (rep_int h)⟩
theorem IsI.add {x y : UInt64} {a b : Int} (hx : IsI x a) (hy : IsI y b) (h : (a + b).natAbs ≤ 2 ^ 53) : IsI (add x y) (a + b) := by
  have e : R x + R y = ((a + b : Int) : Rat) := by rw [hx.2, hy.2, Rat.intCast_add]
  have r := add_rd hx.1 hy.1 (by rw [e]; exact (lim_int h).1) (by rw [e]; exact (lim_int h).2)
  rw [e] at r
  exact ⟨r.fin, r.ex (rep_int h)⟩
theorem IsI.sub {x y : UInt64} {a b : Int} (hx : IsI x a) (hy : IsI y b) (h : (a - b).natAbs ≤ 2 ^ 53) : IsI (sub x y) (a - b) := by
  have e : R x - R y = ((a - b : Int) : Rat) := by rw [hx.2, hy.2, Rat.intCast_sub]
  have r := sub_rd hx.1 hy.1 (by rw [e]; exact (lim_int h).1) (by rw [e]; exact (lim_int h).2)
  rw [e] at r
  exact ⟨r.fin, r.ex (rep_int h)⟩
theorem IsI.mul {x y : UInt64} {a b : Int} (hx : IsI x a) (hy : IsI y b) (h : (a * b).natAbs ≤ 2 ^ 53) : IsI (mul x y) (a * b) := by
  have e : R x * R y = ((a * b : Int) : Rat) := by rw [hx.2, hy.2, Rat.intCast_mul]
  have r := mul_rd hx.1 hy.1 (by rw [e]; exact (lim_int h).1) (by rw [e]; exact (lim_int h).2)
  rw [e] at r
  exact ⟨r.fin, r.ex (rep_int h)⟩
theorem IsI.neg {x : UInt64} {a : Int} (hx : IsI x a) : IsI (neg x) (-a) := by
  have n := neg_fin hx.1
  exact ⟨n.1, by rw [n.2, hx.2, Rat.intCast_neg]⟩
theorem IsI.abs {x : UInt64} {a : Int} (hx : IsI x a) : IsI (Float64.abs x) (a.natAbs : Int) := by
  have n := abs_fin hx.1
  refine ⟨n.1, ?_⟩
  rcases Int.le_total 0 a with h | h
  · rw [n.2.1 (by rw [hx.2]; exact Rat.intCast_nonneg.mpr h), hx.2]; congr 1; omega
  · rw [n.2.2 (by rw [hx.2]; exact Rat.intCast_nonpos.mpr h), hx.2, ← Rat.intCast_neg]; congr 1; omega
theorem IsI.val {x : UInt64} {n : Int} (h : IsI x n) : val x = n * 2 ^ 1074 := by
  have h1 := R_mul x
  rw [h.2, TW_nat] at h1
  have h2 : ((n * 2 ^ 1074 : Int) : Rat) = (n : Rat) * ((2 ^ 1074 : Nat) : Rat) := by
    rw [Rat.intCast_mul, Rat.intCast_pow, Rat.natCast_pow]; rfl
  rw [← h2] at h1
  exact (Rat.intCast_inj.mp h1).symm
theorem IsI.nn {x : UInt64} {n : Int} (h : IsI x n) (h0 : 0 ≤ n) : 0 ≤ R x := by rw [h.2]; exact Rat.intCast_nonneg.mpr h0
theorem nn_cmp {x : UInt64} (h : Fin x) (h0 : 0 ≤ R x) : (cmp x 0 == some Ordering.lt) = false := by
  have z := zero_fin
  exact cmp_not_lt h (y := 0) z.1 (by rw [show (0 : UInt64) = zero false from rfl, z.2]; exact h0)
theorem IsI.eq {x y : UInt64} {n m : Int} (hx : IsI x n) (hy : IsI y m) (h : n = m) : (cmp x y == some .eq) = true :=
  cmp_eq_of hx.1 hy.1 (by rw [hx.2, hy.2, h])
theorem cmpInt_nn {k : Int} (h : 0 ≤ k) : (cmpInt 0 k == some Ordering.gt) = false := by
  have z : Fin 0 := zero_fin.1
  obtain ⟨a, m, e, hd⟩ := z
  rw [cmpInt_right hd k]
  have hv : val 0 = 0 := by decide +kernel
  rw [hv]
  have : ¬ (k * 2 ^ 1074 < 0) := by
    have : 0 ≤ k * 2 ^ 1074 := Int.mul_nonneg h (Int.pow_nonneg (by decide))
    omega
  cases hc : compare (0 : Int) (k * 2 ^ 1074) with
  | lt => rfl
  | eq => rfl
  | gt => exact absurd (Int.compare_eq_gt.mp hc) this

/-- a quotient of floats and one of whole numbers are one rounding -/
theorem quot_eq {x y : UInt64} {n d : Int} (hx : Fin x) (hy : Fin y) (h0 : val y ≠ 0) (hd : d ≠ 0) (h : val x * d = n * val y) (hn : n.natAbs < 2 ^ 1023) :
    Fin (div x y) ∧ Fin (ofFrac (decide (n < 0) != decide (d < 0)) n.natAbs d.natAbs) ∧ R (div x y) = R (ofFrac (decide (n < 0) != decide (d < 0)) n.natAbs d.natAbs) := by
  obtain ⟨a, m, e, hdx⟩ := id hx
  obtain ⟨b, k, f, hdy⟩ := id hy
  have hk : k ≠ 0 := fun q => h0 (by rw [val_eq hdy, q, Nat.zero_mul]; cases b <;> rfl)
  have r1 := div_right hdx hdy hk
  have r2 : Right (ofFrac (decide (n < 0) != decide (d < 0)) n.natAbs d.natAbs) (decide (n < 0) != decide (d < 0)) (n.natAbs * 2 ^ 1074) d.natAbs := ofFrac_right (by omega) rfl (by omega)
  have habs : (val x).natAbs * d.natAbs = n.natAbs * (val y).natAbs := by rw [← Int.natAbs_mul, h, Int.natAbs_mul]
  obtain ⟨t, ht, e1, e2⟩ := right_unique r1 r2 (by omega) (by omega) (by
    generalize (2 : Nat) ^ 1074 = K
    calc (val x).natAbs * K * d.natAbs = (val x).natAbs * d.natAbs * K := by ac_rfl
      _ = n.natAbs * (val y).natAbs * K := by rw [habs]
      _ = n.natAbs * K * (val y).natAbs := by ac_rfl)
  have hni := PySem.Flt.quot_fits (sg := (decide (n < 0) != decide (d < 0))) (n := n.natAbs) (d := d.natAbs) (by omega) hn
  have hlt : t < infMag := by
    rcases Nat.lt_or_ge t infMag with q | q
    · exact q
    · exfalso
      have : t = infMag := by omega
      rw [e2, this] at hni
      exact hni (isInf_pack_inf _)
  rw [e1, e2]
  refine ⟨fin_pack _ hlt, fin_pack _ hlt, val_eq_iff.mp ?_⟩
  rw [val_pack _ hlt, val_pack _ hlt]
  by_cases hz : n = 0
  · -- both are nothing
    have hVt : V t = 0 := by
      obtain ⟨t', q1, _, _, q4⟩ := r2
      rw [e2] at q1
      have q5 := (q4 (by
        have : t' = t := by
          have i1 := congrArg UInt64.toNat q1
          have hh : infMag < 2 ^ 63 := by decide
          rw [pack_toNat _ (by omega), pack_toNat _ (by omega)] at i1
          omega
        omega) 0).1
      have : t' = t := by
        have i1 := congrArg UInt64.toNat q1
        have hh : infMag < 2 ^ 63 := by decide
        rw [pack_toNat _ (by omega), pack_toNat _ (by omega)] at i1
        omega
      rw [this, V_zero, hz] at q5
      simp only [Int.natAbs_zero, Nat.zero_mul, Nat.mul_zero] at q5
      unfold Float64.dist at q5
      have h3 : d.natAbs * V t = 0 := by generalize d.natAbs * V t = y at *; omega
      rcases Nat.mul_eq_zero.mp h3 with h4 | h4
      · omega
      · exact h4
    rw [hVt]
    cases (a != b) <;> cases (decide (n < 0) != decide (d < 0)) <;> rfl
  · have sx : val x ≠ 0 := fun q => by
      rw [q, Int.zero_mul] at h
      rcases Int.mul_eq_zero.mp h.symm with h1 | h1
      · exact hz h1
      · exact h0 h1
    have sa : a = decide (val x < 0) := by
      cases a
      · rw [val_eq hdx, sgn_false]; exact (decide_eq_false (by omega)).symm
      · rw [val_eq hdx, sgn_true] at sx ⊢; exact (decide_eq_true (by omega)).symm
    have sb : b = decide (val y < 0) := by
      cases b
      · rw [val_eq hdy, sgn_false]; exact (decide_eq_false (by omega)).symm
      · rw [val_eq hdy, sgn_true] at h0 ⊢; exact (decide_eq_true (by omega)).symm
    have sgn_eq : (a != b) = (decide (n < 0) != decide (d < 0)) := by
      rw [sa, sb]
      have prod : ∀ p q : Int, p ≠ 0 → q ≠ 0 → (decide (p < 0) != decide (q < 0)) = decide (p * q < 0) := by
        intro p q hp hq
        rcases Int.lt_or_lt_of_ne hp with h1 | h1 <;> rcases Int.lt_or_lt_of_ne hq with h2 | h2
        · rw [decide_eq_true h1, decide_eq_true h2, decide_eq_false (by have := Int.mul_pos_of_neg_of_neg h1 h2; omega)]; rfl
        · rw [decide_eq_true h1, decide_eq_false (show ¬ q < 0 by omega), decide_eq_true (Int.mul_neg_of_neg_of_pos h1 h2)]; rfl
        · rw [decide_eq_false (show ¬ p < 0 by omega), decide_eq_true h2, decide_eq_true (Int.mul_neg_of_pos_of_neg h1 h2)]; rfl
        · rw [decide_eq_false (show ¬ p < 0 by omega), decide_eq_false (show ¬ q < 0 by omega), decide_eq_false (by have := Int.mul_pos h1 h2; omega)]; rfl
      rw [prod _ _ sx h0, prod _ _ hz hd]
      -- (x y)(d d) = (n d)(y y)
      have e3 : val x * val y * (d * d) = n * d * (val y * val y) := by
        calc val x * val y * (d * d) = val x * d * (val y * d) := by ac_rfl
          _ = n * val y * (val y * d) := by rw [h]
          _ = n * d * (val y * val y) := by ac_rfl
      have pd : 0 < d * d := by rcases Int.lt_or_lt_of_ne hd with q | q; exact Int.mul_pos_of_neg_of_neg q q; exact Int.mul_pos q q
      have py : 0 < val y * val y := by rcases Int.lt_or_lt_of_ne h0 with q | q; exact Int.mul_pos_of_neg_of_neg q q; exact Int.mul_pos q q
      generalize val x * val y = A at *
      generalize n * d = B at *
      generalize d * d = C at *
      generalize val y * val y = D at *
      apply decide_eq_decide.mpr
      constructor
      · intro hA
        have := Int.mul_neg_of_neg_of_pos hA pd
        rw [e3] at this
        rcases Int.lt_or_le B 0 with q | q
        · exact q
        · have := Int.mul_nonneg q (Int.le_of_lt py); omega
      · intro hA
        have := Int.mul_neg_of_neg_of_pos hA py
        rw [← e3] at this
        rcases Int.lt_or_le A 0 with q | q
        · exact q
        · have := Int.mul_nonneg q (Int.le_of_lt pd); omega
    rw [sgn_eq]
end Mine
end
section
namespace Mine
open PySem PySem.Float64

structure Tri (u v h : Int) : Prop where
  u0 : 3 ≤ u
  u1 : u ≤ 224
  v0 : 4 ≤ v
  v1 : v ≤ 420
  h0 : 5 ≤ h
  h1 : h ≤ 421
  py : u * u + v * v = h * h

theorem Tri.sq {u v h : Int} (T : Tri u v h) : 9 ≤ u * u ∧ u * u ≤ 50176 ∧ 16 ≤ v * v ∧ v * v ≤ 176400 ∧ 25 ≤ h * h ∧ h * h ≤ 177241 := by
  obtain ⟨a, b, c, d, e, f, _⟩ := T
  refine ⟨Int.mul_le_mul a a (by decide) (by omega), Int.mul_le_mul b b (by omega) (by decide), Int.mul_le_mul c c (by decide) (by omega), Int.mul_le_mul d d (by omega) (by decide), Int.mul_le_mul e e (by decide) (by omega), Int.mul_le_mul f f (by omega) (by decide)⟩

theorem mulb {a b A B : Int} (ha : a.natAbs ≤ A.natAbs) (hb : b.natAbs ≤ B.natAbs) : (a * b).natAbs ≤ A.natAbs * B.natAbs := by
  rw [Int.natAbs_mul]; exact Nat.mul_le_mul ha hb
theorem mulb' {a b : Int} {A B : Nat} (ha : a.natAbs ≤ A) (hb : b.natAbs ≤ B) : (a * b).natAbs ≤ A * B := by
  rw [Int.natAbs_mul]; exact Nat.mul_le_mul ha hb

/-- the weighed mean of two normals -/
theorem mean_law {l m w z d : Int} (hl : l.natAbs ≤ 2 ^ 30) (hm : m.natAbs ≤ 2 ^ 30) (hw : w.natAbs ≤ 2 ^ 21) (hz : z.natAbs ≤ 2 ^ 21) (hd0 : 0 < d) (hd1 : d ≤ 177241) (n : Int) (hn : n = l * w + m * z) :
    (cmp (div (add (mul (ofInt l) (ofInt w)) (mul (ofInt m) (ofInt z))) (ofInt d)) (ofFrac (decide (n < 0) != decide (d < 0)) n.natAbs d.natAbs) == some .eq) = true := by
  have b1 := mulb' hl hw
  have b2 := mulb' hm hz
  have i1 := (isI_ofInt (n := l) (by omega)).mul (isI_ofInt (n := w) (by omega)) (by omega)
  have i2 := (isI_ofInt (n := m) (by omega)).mul (isI_ofInt (n := z) (by omega)) (by omega)
  have i3 := i1.add i2 (by omega)
  have i4 := isI_ofInt (n := d) (by omega)
  have v3 := i3.val
  have v4 := i4.val
  have hK : (0 : Int) < 2 ^ 1074 := Int.pow_pos (by decide)
  have hnb : n.natAbs ≤ 2 ^ 53 := by omega
  have hb : n.natAbs < 2 ^ 1023 := Nat.lt_of_le_of_lt hnb (by decide +kernel)
  generalize (2 : Int) ^ 1074 = K at *
  obtain ⟨f1, f2, e⟩ := quot_eq (n := n) (d := d) i3.1 i4.1 (by rw [v4]; exact Int.ne_of_gt (Int.mul_pos hd0 hK)) (by omega) (by rw [v3, v4, hn]; ac_rfl) hb
  exact cmp_eq_of f1 f2 e

/-- the spread's facts -/
theorem sg_mul {u w : Int} (hu0 : 0 ≤ u) (hu1 : u ≤ 2 ^ 20) (hw : w.natAbs ≤ 2 ^ 21) : IsI (mul (ofInt u) (Float64.abs (ofInt w))) (u * (w.natAbs : Int)) := by
  have b1 := mulb' (a := u) (b := (w.natAbs : Int)) (A := 2 ^ 20) (B := 2 ^ 21) (by omega) (by omega)
  exact (isI_ofInt (by omega)).mul (isI_ofInt (by omega)).abs (by omega)
/-- whole numbers are zero or of everyday size -/
theorem IsI.range {x : UInt64} {n : Int} (h : IsI x n) (h0 : 0 ≤ n) (h1 : n ≤ 2 ^ 60) : R x = 0 ∨ (1/2^300 ≤ R x ∧ R x ≤ 2^300) := by
  rw [h.2]
  by_cases hz : n = 0
  · left; rw [hz]; rfl
  · right
    have a1 : (1 : Rat) ≤ (n : Rat) := Rat.intCast_le_intCast (a := 1).mpr (by omega)
    have a2 : (n : Rat) ≤ 2 ^ 60 := Rat.intCast_le_intCast (b := 2 ^ 60).mpr (by omega)
    have a3 : (1/2^300 : Rat) ≤ 1 := by decide +kernel
    have a4 : (2 : Rat)^60 ≤ 2 ^ 300 := by decide +kernel
    constructor <;> grind
theorem IsI.hyp {x y : UInt64} {a b : Int} (hx : IsI x a) (hy : IsI y b) (a0 : 0 ≤ a) (a1 : a ≤ 2 ^ 60) (b0 : 0 ≤ b) (b1 : b ≤ 2 ^ 60) :
    Fin (hyp x y) ∧ 0 ≤ R (hyp x y) ∧ R (hyp x y) * R (hyp x y) - ((a * a + b * b : Int) : Rat) ≤ 5 * ((a * a + b * b : Int) : Rat) * (1/2^53) ∧ ((a * a + b * b : Int) : Rat) - R (hyp x y) * R (hyp x y) ≤ 5 * ((a * a + b * b : Int) : Rat) * (1/2^53) := by
  have := hyp_ok hx.1 hy.1 (hx.range a0 a1) (hy.range b0 b1)
  rw [hx.2, hy.2, ← Rat.intCast_mul, ← Rat.intCast_mul, ← Rat.intCast_add] at this
  exact this
theorem IsI.hyp_exact {x y : UInt64} {a b c : Int} (hx : IsI x a) (hy : IsI y b) (a0 : 0 ≤ a) (a1 : a < 2 ^ 25) (b0 : 0 ≤ b) (b1 : b < 2 ^ 25) (c0 : 0 < c) (h : a * a + b * b = c * c) : IsI (Mine.hyp x y) c := by
  have hc : c.natAbs ≤ 2 ^ 26 := by
    rcases Nat.lt_or_ge (2 ^ 26) c.natAbs with q | q
    · exfalso
      have h1 : (2 ^ 26 : Int) * 2 ^ 26 ≤ c * c := Int.mul_le_mul (by omega) (by omega) (by decide) (by omega)
      have h2 : a * a ≤ 2 ^ 25 * 2 ^ 25 := Int.mul_le_mul (by omega) (by omega) a0 (by decide)
      have h3 : b * b ≤ 2 ^ 25 * 2 ^ 25 := Int.mul_le_mul (by omega) (by omega) b0 (by decide)
      omega
    · exact q
  have cast : ∀ n : Int, 0 ≤ n → n * 2 ^ 1074 = ((n.natAbs * 2 ^ 1074 : Nat) : Int) := by
    intro n hn
    rw [Int.natCast_mul, Int.natCast_pow, show ((n.natAbs : Nat) : Int) = n by omega]; rfl
  have hh : a.natAbs * a.natAbs + b.natAbs * b.natAbs = c.natAbs * c.natAbs := by
    have e1 : ((a.natAbs : Nat) : Int) = a := by omega
    have e2 : ((b.natAbs : Nat) : Int) = b := by omega
    have e3 : ((c.natAbs : Nat) : Int) = c := by omega
    have : ((a.natAbs * a.natAbs + b.natAbs * b.natAbs : Nat) : Int) = ((c.natAbs * c.natAbs : Nat) : Int) := by
      rw [Int.natCast_add, Int.natCast_mul, Int.natCast_mul, Int.natCast_mul, e1, e2, e3]; exact h
    exact Int.ofNat.inj this
  have sz : c.natAbs * 2 ^ 1074 < 2 ^ 53 * 2 ^ 2045 := Nat.mul_lt_mul_of_lt_of_le (by omega) (Nat.pow_le_pow_right (by decide) (by decide)) (Nat.two_pow_pos _)
  obtain ⟨f, v⟩ := Mine.hyp_exact hx.1 hy.1 (a := a.natAbs) (b := b.natAbs) (c := c.natAbs) (j := 1074) (by rw [hx.val, cast a a0]) (by rw [hy.val, cast b b0]) hh (by omega) (by omega) (by omega) (by decide) sz
  refine ⟨f, R_eq ?_⟩
  rw [v, Rat.intCast_natCast, Rat.natCast_mul, natAbs_pos (by omega), ← TW_nat]

/-- the best spread -/
theorem best_spread {u v h : Int} (T : Tri u v h) : IsI (hyp (mul (ofInt u) (Float64.abs (ofInt (v * v)))) (mul (ofInt v) (Float64.abs (ofInt (u * u))))) (u * v * h) := by
  obtain ⟨s1, s2, s3, s4, s5, s6⟩ := T.sq
  have a := sg_mul (u := u) (w := v * v) (by have := T.u0; omega) (by have := T.u1; omega) (by omega)
  have b := sg_mul (u := v) (w := u * u) (by have := T.v0; omega) (by have := T.v1; omega) (by omega)
  rw [show (((v * v).natAbs : Nat) : Int) = v * v by omega] at a
  rw [show (((u * u).natAbs : Nat) : Int) = u * u by omega] at b
  have u0 := T.u0
  have u1 := T.u1
  have v0 := T.v0
  have v1 := T.v1
  have h0 := T.h0
  have py := T.py
  have p1 : 0 ≤ u * (v * v) := Int.mul_nonneg (by omega) (by omega)
  have p2 : 0 ≤ v * (u * u) := Int.mul_nonneg (by omega) (by omega)
  have q1 : u * (v * v) < 2 ^ 25 := by
    have hh := s6
    rcases Int.lt_or_le u 190 with q | q
    · have := Int.mul_le_mul (show u ≤ 189 by omega) (show v * v ≤ 177241 by omega) (by omega) (by decide)
      omega
    · have h3 := Int.mul_le_mul q q (by decide) (by omega)
      have := Int.mul_le_mul u1 (show v * v ≤ 141141 by omega) (by omega) (by decide)
      omega
  have q2 : v * (u * u) < 2 ^ 25 := by
    have := Int.mul_le_mul v1 s2 (by omega) (by decide)
    omega
  have uv : 0 < u * v := Int.mul_pos (by omega) (by omega)
  refine a.hyp_exact b p1 q1 p2 q2 (Int.mul_pos uv (by omega)) ?_
  have e : u * (v * v) * (u * (v * v)) + v * (u * u) * (v * (u * u)) = (u * v) * (u * v) * (u * u + v * v) := by grind
  rw [e, py]; grind

theorem val_ne_of {x : UInt64} {n : Int} (h : IsI x n) (h0 : n ≠ 0) : val x ≠ 0 := by
  rw [h.val]; exact Int.mul_ne_zero h0 (Int.ne_of_gt (Int.pow_pos (by decide)))

theorem best_stdev {u v h : Int} (T : Tri u v h) (n : Int) (hn : n = u * v) :
    Fin (div (hyp (mul (ofInt u) (Float64.abs (ofInt (v * v)))) (mul (ofInt v) (Float64.abs (ofInt (u * u))))) (Float64.abs (ofInt (h * h)))) ∧
    (cmp (div (hyp (mul (ofInt u) (Float64.abs (ofInt (v * v)))) (mul (ofInt v) (Float64.abs (ofInt (u * u))))) (Float64.abs (ofInt (h * h)))) (ofFrac (decide (n < 0) != decide (h < 0)) n.natAbs h.natAbs) == some .eq) = true := by
  obtain ⟨s1, s2, s3, s4, s5, s6⟩ := T.sq
  have b := best_spread T
  have d := (isI_ofInt (n := h * h) (by omega)).abs
  rw [show (((h * h).natAbs : Nat) : Int) = h * h by omega] at d
  have v1 := b.val
  have v2 := d.val
  have hd0 := val_ne_of d (by omega)
  have u1 := T.u1
  have v1' := T.v1
  have h0 := T.h0
  have hb : n.natAbs ≤ 2 ^ 53 := by
    have := mulb' (a := u) (b := v) (A := 224) (B := 420) (by have := T.u0; omega) (by have := T.v0; omega)
    rw [hn]; omega
  have hb' : n.natAbs < 2 ^ 1023 := Nat.lt_of_le_of_lt hb (by decide +kernel)
  obtain ⟨f1, f2, e⟩ := quot_eq (n := n) (d := h) b.1 d.1 hd0 (by omega) (by rw [v1, v2, hn]; generalize (2 : Int) ^ 1074 = K; grind) hb'
  exact ⟨f1, cmp_eq_of f1 f2 e⟩

/-- any other weights give a greater spread -/
theorem other_stdev {u v h w z : Int} (T : Tri u v h) (hw : w.natAbs ≤ 2 ^ 21) (hne : w ≠ v * v) (hz : z = h * h - w) (hzb : z.natAbs ≤ 2 ^ 21) :
    Fin (div (hyp (mul (ofInt u) (Float64.abs (ofInt w))) (mul (ofInt v) (Float64.abs (ofInt z)))) (Float64.abs (ofInt (h * h)))) ∧
    (cmp (div (hyp (mul (ofInt u) (Float64.abs (ofInt w))) (mul (ofInt v) (Float64.abs (ofInt z)))) (Float64.abs (ofInt (h * h))))
      (div (hyp (mul (ofInt u) (Float64.abs (ofInt (v * v)))) (mul (ofInt v) (Float64.abs (ofInt (u * u))))) (Float64.abs (ofInt (h * h))))) = some .gt := by
  obtain ⟨s1, s2, s3, s4, s5, s6⟩ := T.sq
  have u0 := T.u0
  have u1 := T.u1
  have v0 := T.v0
  have v1 := T.v1
  have h0 := T.h0
  have h1 := T.h1
  have py := T.py
  have a := sg_mul (u := u) (w := w) (by omega) (by omega) hw
  have b := sg_mul (u := v) (w := z) (by omega) (by omega) hzb
  have pa : 0 ≤ u * (w.natAbs : Int) := Int.mul_nonneg (by omega) (by omega)
  have pb : 0 ≤ v * (z.natAbs : Int) := Int.mul_nonneg (by omega) (by omega)
  have ba := mulb' (a := u) (b := (w.natAbs : Int)) (A := 224) (B := 2 ^ 21) (by omega) (by omega)
  have bb := mulb' (a := v) (b := (z.natAbs : Int)) (A := 420) (B := 2 ^ 21) (by omega) (by omega)
  obtain ⟨fY, Y0, Y1, Y2⟩ := a.hyp b pa (by omega) pb (by omega)
  have best := best_spread T
  have d := (isI_ofInt (n := h * h) (by omega)).abs
  rw [show (((h * h).natAbs : Nat) : Int) = h * h by omega] at d
  generalize Mine.hyp (mul (ofInt u) (Float64.abs (ofInt w))) (mul (ofInt v) (Float64.abs (ofInt z))) = Y at *
  generalize Mine.hyp (mul (ofInt u) (Float64.abs (ofInt (v * v)))) (mul (ofInt v) (Float64.abs (ofInt (u * u)))) = X at *
  generalize Float64.abs (ofInt (h * h)) = D at *
  -- the square of the other's spread is at least that much more
  have hS : u * (w.natAbs : Int) * (u * (w.natAbs : Int)) + v * (z.natAbs : Int) * (v * (z.natAbs : Int)) = h * h * (u * u * (v * v) + (w - v * v) * (w - v * v)) := by
    have e1 : ((w.natAbs : Nat) : Int) * (w.natAbs : Int) = w * w := Int.natAbs_mul_self
    have e2 : ((z.natAbs : Nat) : Int) * (z.natAbs : Int) = z * z := Int.natAbs_mul_self
    have e3 : u * (w.natAbs : Int) * (u * (w.natAbs : Int)) + v * (z.natAbs : Int) * (v * (z.natAbs : Int)) = u * u * ((w.natAbs : Int) * (w.natAbs : Int)) + v * v * ((z.natAbs : Int) * (z.natAbs : Int)) := by grind
    rw [e3, e1, e2, hz, ← py]; grind
  have ho : 1 ≤ (w - v * v) * (w - v * v) := by
    have : w - v * v ≠ 0 := by omega
    rcases Int.lt_or_lt_of_ne this with q | q
    · have := Int.mul_pos_of_neg_of_neg q q; omega
    · have := Int.mul_pos q q; omega
  generalize hP : u * u * (v * v) = P at *
  have hP0 : 0 < P := by rw [← hP]; exact Int.mul_pos (by omega) (by omega)
  have hP1 : P ≤ 2 ^ 34 := by
    have := Int.mul_le_mul s2 s4 (by omega) (by decide)
    rw [hP] at this; omega
  have hX2 : u * v * h * (u * v * h) = h * h * P := by rw [← hP]; grind
  generalize (w - v * v) * (w - v * v) = O at *
  -- into rationals
  have hH : (25 : Rat) ≤ ((h * h : Int) : Rat) := Rat.intCast_le_intCast (a := 25).mpr s5
  have hH2 : ((h * h : Int) : Rat) ≤ 177241 := Rat.intCast_le_intCast (b := 177241).mpr s6
  have hPr : (0 : Rat) < (P : Rat) := Rat.intCast_pos.mpr hP0
  have hPr1 : (P : Rat) ≤ 2 ^ 34 := Rat.intCast_le_intCast (b := 2 ^ 34).mpr (by omega)
  have hOr : (1 : Rat) ≤ (O : Rat) := Rat.intCast_le_intCast (a := 1).mpr ho
  rw [hS, Rat.intCast_mul, Rat.intCast_add] at Y2
  have hXr : R X * R X = ((h * h : Int) : Rat) * (P : Rat) := by rw [best.2, ← Rat.intCast_mul, hX2, Rat.intCast_mul]
  have X0 : 0 ≤ R X := by
    rw [best.2]
    exact Rat.intCast_nonneg.mpr (Int.mul_nonneg (Int.mul_nonneg (by omega) (by omega)) (by omega))
  have hDr : R D = ((h * h : Int) : Rat) := d.2
  generalize hHH : ((h * h : Int) : Rat) = H at *
  have hHpos : 0 < H := by grind
  have hDne : R D ≠ 0 := by rw [hDr]; grind
  -- bounds of the two
  have Xhi : R X ≤ 2 ^ 40 := by
    refine le_of_sq (by decide +kernel) ?_
    rw [hXr]
    have : H * (P : Rat) ≤ 177241 * 2 ^ 34 := Rat.le_trans (Rat.mul_le_mul_of_nonneg_left hPr1 (Rat.le_of_lt hHpos)) (Rat.mul_le_mul_of_nonneg_right hH2 (by decide +kernel))
    grind
  obtain ⟨z1, hz1⟩ : ∃ z1 : Rat, z1 = R X / R D := ⟨_, rfl⟩
  have hz1H : z1 * H = R X := by rw [hz1, hDr]; exact Rat.div_mul_cancel (by grind)
  have hYlo : H * ((P : Rat) + (O : Rat)) * (1 - 5 * (1/2^53)) ≤ R Y * R Y := by grind
  have key : R X * (1 + 1/2^50) < R Y := by
    rcases @Rat.le_total (R Y) (R X * (1 + 1/2^50)) with q | q
    · exfalso
      have q2 := sqle Y0 q
      have e : R X * (1 + 1/2^50) * (R X * (1 + 1/2^50)) = H * (P : Rat) * ((1 + 1/2^50) * (1 + 1/2^50)) := by rw [← hXr]; grind
      rw [e] at q2
      have q3 : H * (((P : Rat) + (O : Rat)) * (1 - 5 * (1/2^53))) ≤ H * ((P : Rat) * ((1 + 1/2^50) * (1 + 1/2^50))) := by grind
      have q4 := Rat.le_of_mul_le_mul_left q3 hHpos
      grind
    · rcases Rat.le_iff_lt_or_eq.mp q with h4 | h4
      · exact h4
      · exfalso
        have q2 := sqle Y0 (show R Y ≤ R X * (1 + 1/2^50) by rw [h4]; exact Rat.le_refl)
        have e : R X * (1 + 1/2^50) * (R X * (1 + 1/2^50)) = H * (P : Rat) * ((1 + 1/2^50) * (1 + 1/2^50)) := by rw [← hXr]; grind
        rw [e] at q2
        have q3 : H * (((P : Rat) + (O : Rat)) * (1 - 5 * (1/2^53))) ≤ H * ((P : Rat) * ((1 + 1/2^50) * (1 + 1/2^50))) := by grind
        have q4 := Rat.le_of_mul_le_mul_left q3 hHpos
        grind
  have Yhi : R Y ≤ 2 ^ 50 := by
    refine le_of_sq (by decide +kernel) ?_
    have hsum : ((u * (w.natAbs : Int) * (u * (w.natAbs : Int)) + v * (z.natAbs : Int) * (v * (z.natAbs : Int)) : Int) : Rat) ≤ 2 ^ 62 := by
      have m1 : u * (w.natAbs : Int) * (u * (w.natAbs : Int)) ≤ 2 ^ 30 * 2 ^ 30 := Int.mul_le_mul (by omega) (by omega) pa (by decide)
      have m2 : v * (z.natAbs : Int) * (v * (z.natAbs : Int)) ≤ 2 ^ 30 * 2 ^ 30 := Int.mul_le_mul (by omega) (by omega) pb (by decide)
      exact Rat.intCast_le_intCast (b := 2 ^ 62).mpr (by omega)
    generalize ((u * (w.natAbs : Int) * (u * (w.natAbs : Int)) + v * (z.natAbs : Int) * (v * (z.natAbs : Int)) : Int) : Rat) = ss at *
    grind
  obtain ⟨z2, hz2⟩ : ∃ z2 : Rat, z2 = R Y / R D := ⟨_, rfl⟩
  have hz2H : z2 * H = R Y := by rw [hz2, hDr]; exact Rat.div_mul_cancel (by grind)
  have z10 : 0 ≤ z1 := nonneg_of hz1H X0 hHpos
  have z20 : 0 ≤ z2 := nonneg_of hz2H Y0 hHpos
  have z1hi : z1 ≤ 2 ^ 40 := le_of_mul (P := H) (by rw [hz1H]; grind) hHpos
  have z2hi : z2 ≤ 2 ^ 50 := le_of_mul (P := H) (by rw [hz2H]; grind) hHpos
  have big : (2 : Rat) ^ 50 ≤ 2 ^ 900 := by decide +kernel
  have dX := div_rd best.1 d.1 hDne (by rw [← hz1]; grind) (by rw [← hz1]; grind)
  have dY := div_rd fY d.1 hDne (by rw [← hz2]; grind) (by rw [← hz2]; grind)
  rw [← hz1] at dX
  rw [← hz2] at dY
  have zk : z1 * (1 + 1/2^50) < z2 := by
    rcases @Rat.le_total z2 (z1 * (1 + 1/2^50)) with q | q
    · exfalso
      have := Rat.mul_le_mul_of_nonneg_right q (Rat.le_of_lt hHpos)
      grind
    · rcases Rat.le_iff_lt_or_eq.mp q with h4 | h4
      · exact h4
      · exfalso
        have : z1 * (1 + 1/2^50) * H = z2 * H := by rw [h4]
        grind
  -- z1 is not tiny: X is at least 1
  have X1 : 1 ≤ R X := by
    rw [best.2]
    have : 0 < u * v * h := Int.mul_pos (Int.mul_pos (by omega) (by omega)) (by omega)
    exact Rat.intCast_le_intCast (a := 1).mpr (by omega)
  have z1lo : 1/2^20 ≤ z1 := le_of_mul (P := H) (by rw [hz1H]; grind) hHpos
  have tiny : (1/2^1000 : Rat) ≤ 1/2^20 := by decide +kernel
  have r1 := dX.rel (by grind)
  have r2 := dY.rel (by grind)
  exact ⟨dY.fin, cmp_gt_of dY.fin dX.fin (by grind)⟩

/-- no weight at all -/
theorem zero_spread {u v : Int} (hu0 : 0 ≤ u) (hu1 : u ≤ 2 ^ 20) (hv0 : 0 < v) (hv1 : v ≤ 2 ^ 20) : IsI (hyp (mul (ofInt u) (Float64.abs (ofInt 0))) (ofInt v)) v ∧ IsI (hyp (ofInt v) (mul (ofInt u) (Float64.abs (ofInt 0)))) v := by
  have a := sg_mul (u := u) (w := 0) hu0 hu1 (by decide)
  rw [show u * ((Int.natAbs 0 : Nat) : Int) = 0 by simp] at a
  have b := isI_ofInt (n := v) (by omega)
  exact ⟨a.hyp_exact b (by decide) (by decide) (by omega) (by omega) hv0 (by grind), b.hyp_exact a (by omega) (by omega) (by decide) (by decide) hv0 (by grind)⟩
theorem zero_mean {l m : Int} (hl : l.natAbs ≤ 2 ^ 30) (hm : m.natAbs ≤ 2 ^ 30) : IsI (add (mul (ofInt l) (ofInt 0)) (ofInt m)) m ∧ IsI (sub (ofInt m) (mul (ofInt l) (ofInt 0))) m ∧ IsI (add (mul (ofInt l) (ofInt 0)) (mul (ofInt m) (ofInt 0))) 0 := by
  have a := (isI_ofInt (n := l) (by omega)).mul (isI_ofInt (n := 0) (by decide)) (by rw [Int.mul_zero]; decide)
  have a' := (isI_ofInt (n := m) (by omega)).mul (isI_ofInt (n := 0) (by decide)) (by rw [Int.mul_zero]; decide)
  rw [Int.mul_zero] at a a'
  have b := isI_ofInt (n := m) (by omega)
  have c := a.add b (by omega)
  have d := b.sub a (by omega)
  have e := a.add a' (by decide)
  rw [Int.zero_add] at c
  rw [Int.sub_zero] at d
  exact ⟨c, d, e⟩
theorem zero_both {u v : Int} (hu0 : 0 ≤ u) (hu1 : u ≤ 2 ^ 20) (hv0 : 0 ≤ v) (hv1 : v ≤ 2 ^ 20) : IsI (hyp (mul (ofInt u) (Float64.abs (ofInt 0))) (mul (ofInt v) (Float64.abs (ofInt 0)))) 0 := by
  have a := sg_mul (u := u) (w := 0) hu0 hu1 (by decide)
  have b := sg_mul (u := v) (w := 0) hv0 hv1 (by decide)
  rw [show u * ((Int.natAbs 0 : Nat) : Int) = 0 by simp] at a
  rw [show v * ((Int.natAbs 0 : Nat) : Int) = 0 by simp] at b
  have h1 := abs_fin a.1
  have h2 := abs_fin b.1
  have e1 := a.abs.2
  have e2 := b.abs.2
  obtain ⟨f, e⟩ := vn_zero h1.1 h2.1 (by rw [e1]; rfl) (by rw [e2]; rfl)
  exact ⟨f, e⟩
end Mine
end
section
open PySem PySem.W PyProof.Rows PySem.Calls
namespace Mine
open PySem.Builtin
/-- int.__mul__ and its kin answer NotImplemented for an object of an own class (no int below) -/
theorem int_mul_own (a : Int) (t : Tok) (l : Addr) (ob : Obj) (C : Addr) (hc : ob.cls = .ref C) (hd : ob.data = .plain) :
    Meets (Builtin.«int.__mul__» ⟨[.int a t, .ref l], []⟩) (fun _ R s => s.heap.get? l = some ob ∧ R (.ok (.ret Value.notImplemented)) s) := by
  obtain ⟨c, d, dt, sl⟩ := ob
  cases hc; cases hd
  exact .of_wp fun prog w A R s h => by obtain ⟨hp, g, d, tk, os⟩ := s; obtain ⟨hl, h⟩ := h; wp_walk; exact ⟨_, rfl, h⟩
theorem int_add_own (a : Int) (t : Tok) (l : Addr) (ob : Obj) (C : Addr) (hc : ob.cls = .ref C) (hd : ob.data = .plain) :
    Meets (Builtin.«int.__add__» ⟨[.int a t, .ref l], []⟩) (fun _ R s => s.heap.get? l = some ob ∧ R (.ok (.ret Value.notImplemented)) s) := by
  obtain ⟨c, d, dt, sl⟩ := ob
  cases hc; cases hd
  exact .of_wp fun prog w A R s h => by obtain ⟨hp, g, d, tk, os⟩ := s; obtain ⟨hl, h⟩ := h; wp_walk; exact ⟨_, rfl, h⟩
theorem int_sub_own (a : Int) (t : Tok) (l : Addr) (ob : Obj) (C : Addr) (hc : ob.cls = .ref C) (hd : ob.data = .plain) :
    Meets (Builtin.«int.__sub__» ⟨[.int a t, .ref l], []⟩) (fun _ R s => s.heap.get? l = some ob ∧ R (.ok (.ret Value.notImplemented)) s) := by
  obtain ⟨c, d, dt, sl⟩ := ob
  cases hc; cases hd
  exact .of_wp fun prog w A R s h => by obtain ⟨hp, g, d, tk, os⟩ := s; obtain ⟨hl, h⟩ := h; wp_walk; exact ⟨_, rfl, h⟩

section
variable {prog : Program} {w : World} {M : Model} {A : Around} {E : Value → Shared → Prop} {s : Shared} {K : Frag} {x C L f p : Addr} {h₀ : Heap} {m : Str → Option Value} {ox : Obj} {od : Option Obj} {name : Str}

/-- a property of an object whose class has slots -/
theorem get_propS {expr : Bool} {Q : Value → Shared → Prop} {fget : Addr} {rest : List Value} {od : Obj} (F : Fr h₀ L s.heap m) (X₀ : K.In h₀) (I : InstAt s.heap x ox C (some od)) (hg : plainGet K C name = true) (hc : isClsIn K C = true)
    (ha : findIn K (.ref C) name = some (some (.ref p))) (hn : specialIn K (.ref p) "__get__" = some (some (.builtin "property.__get__"))) (ht : takesIn K (.ref p) = some true) (hp : recIn K p "property" = some (.ref fget :: rest))
    (h : codeAny (model prog w) A.in1 (.call (.ref fget) ⟨[.ref x], []⟩) (fun r s' => match r with | .ok (.ret v) => wpAny (model prog w) A (handedOut v) Q E s' | .ok _ => False | .error e => wpAny (model prog w) A (noteIf true (.ref x) (.str name s.toks) e) (fun _ s'' => E e s'') E s') { s with toks := s.toks + 1 }) :
    wpAny (model prog w) A (getAttr (.ref x) name expr) Q E s :=
  get_bind (X₀.keeps F.keep) I (plainGet_of hg).1 (findObj_data hc ha hn ht) (plainGet_of hg).2 (wpAny_call (prop_get (s := { s with toks := s.toks + 1 }) (X₀.keeps F.keep) hp h))

/-- int OP own: the int's slot declines, the own class's reflected method is asked -/
theorem rbin {op : Operator} {sym nm : String} {id : String} {B : Builtin} {n : Int} {t : Tok} {g : Addr} {Q : Value → Shared → Prop} (hi : op.info = (sym, nm)) (F : Fr h₀ L s.heap m) (X₀ : K.In h₀) (I : InstAt s.heap x ox C od) (hc : selfFirst K C = true)
    (hs : findIn K (.ref C) (PySem.dunder nm) = some (some (.ref g))) (hr : findIn K (.ref C) (dunderR nm) = some (some (.ref f))) (hf : isFn K (.ref f) = true)
    (hfl : fillsNumberSlot (.type "int") nm = pure true) (hsub : subIn K (.ref C) (.type "int") = some false)
    (slot : Slot "int" (PySem.dunder nm) id) (entry : entryFor table id = some B) (args : argsOk id ⟨[.int n t, .ref x], []⟩)
    (hB : Meets (B ⟨[.int n t, .ref x], []⟩) (fun _ R s => s.heap.get? x = some ox ∧ R (.ok (.ret Value.notImplemented)) s))
    (h : wpAny (model prog w) A (call (.ref f) [.ref x, .int n t]) (PySem.W.CmpBack Q) E s) : wpAny (model prog w) A (binaryOp op (.int n t) (.ref x)) Q E s := by
  have X := X₀.keeps F.keep
  obtain ⟨cd, rest, hcd, hm⟩ := ksp_first hc
  have one := ksp_try X I hr hf h
  have hx : s.heap.get? x = some ox := I.1
  have two : wpAny (model prog w) A (tryMethod (.int n t) (PySem.dunder nm) (.ref x)) (fun r s' => r = none ∧ s' = s) E s := by
    refine wpAny_tryMethod_declines (typeIs_int s n t) slot (call_meets slot (typeIs_int s n t) entry args hB ⟨hx, ?_⟩)
    exact ⟨rfl, rfl, rfl⟩
  obtain ⟨hh, g, d, tt, os⟩ := s
  have L1 : Looks (model prog w) hh (typeOf (.ref x)) (.ref C) := I.type
  have L2 : Looks (model prog w) hh (typeOf (.int n t)) (.type "int") := Looks.of_pure rfl
  have L3 : Looks (model prog w) hh (fillsNumberSlot (.ref C) nm) true := fills_K X hcd hm hs
  have L4 : Looks (model prog w) hh (fillsNumberSlot (.type "int") nm) true := Looks.of_pure hfl
  have L5 : Looks (model prog w) hh (isSubtype (.ref C) (.type "int")) false := looks_subIn X hsub
  have L7 : Looks (model prog w) hh (numberSlotInPython (.type "int") nm) false := Looks.of_pure rfl
  have hne : (Value.type "int" == Value.ref C) = false := Bool.eq_false_iff.mpr fun q => by cases beq_iff_eq.mp q
  simp only [binaryOp, hi]
  refine wpAny_holding (wpAny_bind ?_)
  unfold binaryOp1
  refine wpAny_bind (L2.at (wpAny_bind (L1.at (wpAny_bind (L4.at ?_)))))
  simp only [hne, Bool.false_eq_true, if_false]
  ksp_lk
  refine wpAny_mono two (fun r s' hr' => ?_) fun _ _ e => e
  obtain ⟨rfl, rfl⟩ := hr'
  ksp_lk
  refine wpAny_mono one (fun r s' hr' => ?_) fun _ _ e => e
  obtain ⟨v, rfl, hq⟩ := hr'
  ksp_lk
  exact hq

theorem entry_one : entryFor table "object.__ne__" = some Builtin.«object.__ne__» := entryFor_of_tree (by kernel_rfl)
theorem one_plain : plainId "object.__ne__" = true := by decide +kernel
theorem one_kind : builtinKind "object.__ne__" = some .slot := by decide +kernel
theorem one_split : splitId "object.__ne__" = some ("object", "__ne__") := by decide +kernel
theorem one_args (a b : Value) : argsOk "object.__ne__" ⟨[a, b], []⟩ := by unfold argsOk; kernel_rfl
theorem one_bind (self : Value) : bindSpecial (.builtin "object.__ne__") self = pure (.builtin "object.__ne__", [self]) :=
  (Slot.of (T := "object") (name := "__ne__") (owner := "object") (n := "__ne__") (by rw [typeLookup_type, builtinLookup_eq_fast]; kernel_rfl) (by decide +kernel) (by decide +kernel) (by decide +kernel)
    (.inl (by decide +kernel)) (by rw [isSubtype_type]; kernel_rfl)).bind self

/-- x != b for an own class with __eq__ alone: object.__ne__ asks it and turns the answer -/
theorem ne_own {b : Value} {Q : Value → Shared → Prop} (hu : A.units + 8 < cLine) (F : Fr h₀ L s.heap m) (X₀ : K.In h₀) (I : InstAt s.heap x ox C od) (hb : Looks (model prog w) s.heap (typeOf b) (.ref C)) 
    (hn : findIn K (.ref C) "__ne__" = some (some (.builtin "object.__ne__"))) (hsub : subIn K (.ref C) (.type "object") = some true)
    (hs : findIn K (.ref C) "__eq__" = some (some (.ref f))) (hf : isFn K (.ref f) = true)
    (h : wpAny (model prog w) A.in1 (call (.ref f) [.ref x, b]) (fun v s' => ∃ r, v = .bool r ∧ Q (.bool (!r)) s') E s) : wpAny (model prog w) A (compareOp .NotEq (.ref x) b) Q E s := by
  have X := X₀.keeps F.keep
  show wpAny (model prog w) A (richCompare .NotEq (.ref x) b) Q E s
  have Lt : Looks (model prog w) s.heap (typeOf (.ref x)) (.ref C) := I.type
  have Li : Looks (model prog w) s.heap (isInstance (.ref x) (.type "object")) true := Lt.andThen (looks_subIn X hsub)
  have body : wpAny (model prog w) A (call (.builtin "object.__ne__") [.ref x, b]) (fun v s' => v ≠ .notImplemented ∧ Q v s') E s := by
    refine wpAny_call (codeAny_call_builtin one_plain entry_one (@check_slot (model prog w) _ _ _ "object.__ne__" "object" "__ne__" (.ref x) [b] [] _ one_kind one_split Li (one_args (.ref x) b) ?_))
    unfold Builtin.«object.__ne__»
    have sa : PySem.slotArgs "__ne__" 1 ⟨[Value.ref x, b], []⟩ = pure (Value.ref x, [b]) := by rfl
    show wpAny _ _ (PySem.slotArgs "__ne__" 1 ⟨[.ref x, b], []⟩ >>= _) _ _ _
    rw [sa, pure_bind]
    refine wpAny_bind (wpAny_cRoomFor (by show A.units + 1 < _; omega) ?_)
    refine wpAny_bind (ifBound_K X I hs hf (wpAny_mono h (fun v s' hv => ?_) fun _ _ e => e))
    obtain ⟨r, rfl, hq⟩ := hv
    refine wpAny_bind (wpAny_pure ?_)
    exact wpAny_pure ⟨Value.noConfusion, hq⟩
  have one : wpAny (model prog w) A (tryCompare (.ref x) "__ne__" b) (fun r s' => ∃ v, r = some v ∧ Q v s') E s := by
    unfold tryCompare
    simp only [callSpecialIfBound?, bindSpecialIfBound?]
    refine wpAny_bind (wpAny_holding (wpAny_bind (wpAny_bind (wpAny_bind (I.type.here ((looks_findIn X hn).here ?_))))))
    refine wpAny_bind (wpAny_askSetting (wpAny_ite ?_))
    have fin : wpAny (model prog w) A (call (.builtin "object.__ne__") ([.ref x] ++ [b]) >>= fun v => pure (some v)) (fun a s' => wpAny (model prog w) A (match a with | some .notImplemented | none => pure none | some v => pure (some v)) (fun r s' => ∃ v, r = some v ∧ Q v s') E s') E s := 
      wpAny_bind (wpAny_mono body (fun v s' h' => wpAny_pure (by obtain ⟨h1, h2⟩ := h'; cases v <;> first | exact (h1 rfl).elim | exact wpAny_pure ⟨_, rfl, h2⟩)) fun _ _ h' => h')
    split
    · exact wpAny_bind ((Looks.of_pure (one_bind (.ref x))).here (wpAny_pure (by exact fin)))
    · exact wpAny_tryCatch (wpAny_bind ((Looks.of_pure (one_bind (.ref x))).here (wpAny_pure (by exact fin))))
  unfold richCompare
  simp only [oneThing_ref]
  refine wpAny_holding (wpAny_bind (wpAny_cRoomFor (by omega) ?_))
  refine wpAny_bind (I.type.here (wpAny_bind (hb.here ?_)))
  simp only [bne_self_eq_false, Bool.false_eq_true, if_false]
  refine wpAny_bind (wpAny_pure ?_)
  simp only [Bool.false_eq_true, if_false]
  refine wpAny_bind (wpAny_mono one (fun r s' z => ?_) fun _ _ e => e)
  obtain ⟨v, rfl, hq⟩ := z
  exact wpAny_pure hq

theorem kind_hypot : builtinKind "math.hypot" = none := by decide +kernel
theorem plain_hypot : plainId "math.hypot" = true := by decide +kernel
theorem entry_hypot : entryFor table "math.hypot" = some Builtin.«math.hypot» := entryFor_of_fast (by kernel_rfl)
theorem args_hypot (a b : Value) : argsOk "math.hypot" ⟨[a, b], []⟩ := by unfold argsOk; kernel_rfl
theorem call_hypot {a b : UInt64} {t u : Tok} {Q : Value → Shared → Prop} (h : Q (.float (hyp a b) s.toks) { s with toks := s.toks + 1 }) :
    wpAny (model prog w) A (call (.builtin "math.hypot") [.float a t, .float b u]) Q E s := by
  refine call_function_entry kind_hypot plain_hypot entry_hypot (args_hypot _ _) ?_
  show wpAny _ _ (mkFloat (hyp a b) >>= fun v => ret v) _ _ s
  exact fun _ _ _ => ⟨_, rfl, h⟩
end
end Mine
end
section
open PySem PySem.W PyProof.Rows PySem.Calls
open Sem (wp)
namespace Mine
theorem parse_inf : Float64.parse? ((some (List.map Char.ofNat (if ((Str.ofString "inf").cps.all fun x => decide (x < 128)) = true then (Str.ofString "inf").cps.toList else Unicode.numberText (Str.ofString "inf").cps.toList))).getD []) = some (Float64.inf false) := by decide +kernel
theorem parse_minf : Float64.parse? ((some (List.map Char.ofNat (if ((Str.ofString "-inf").cps.all fun x => decide (x < 128)) = true then (Str.ofString "-inf").cps.toList else Unicode.numberText (Str.ofString "-inf").cps.toList))).getD []) = some (Float64.inf true) := by decide +kernel
theorem meets_float_inf (u : Tok) : Meets (Builtin.«float.__new__» ⟨[.type "float", .str (Str.ofString "inf") u], []⟩) (Made.float (Float64.inf false)).spec :=
  Meets.of_wp fun prog w A R s hs => by
    obtain ⟨hp, g, d, tk, os⟩ := s
    have f1 := F.conv_sub_float
    repeat (any_goals (first | assumption | wp_step))
    rw [parse_inf]
    repeat (any_goals (first | assumption | wp_step))
    all_goals first | exact ⟨_, rfl, hs⟩ | skip
theorem meets_float_minf (u : Tok) : Meets (Builtin.«float.__new__» ⟨[.type "float", .str (Str.ofString "-inf") u], []⟩) (Made.float (Float64.inf true)).spec :=
  Meets.of_wp fun prog w A R s hs => by
    obtain ⟨hp, g, d, tk, os⟩ := s
    have f1 := F.conv_sub_float
    repeat (any_goals (first | assumption | wp_step))
    rw [parse_minf]
    repeat (any_goals (first | assumption | wp_step))
    all_goals first | exact ⟨_, rfl, hs⟩ | skip
section
variable {prog : Program} {w : World} {A : Around} {E : Value → Shared → Prop} {s : Shared}
theorem call_float_inf {u : Tok} {Q : Value → Shared → Prop} (h : Q (.float (Float64.inf false) s.toks) { s with toks := s.toks + 1 }) : wpAny (model prog w) A (call (.type "float") [.str (Str.ofString "inf") u]) Q E s :=
  call_float_1 (meets_float_inf u) (show (Made.float (Float64.inf false)).post _ s from ⟨rfl, h⟩)
theorem call_float_minf {u : Tok} {Q : Value → Shared → Prop} (h : Q (.float (Float64.inf true) s.toks) { s with toks := s.toks + 1 }) : wpAny (model prog w) A (call (.type "float") [.str (Str.ofString "-inf") u]) Q E s :=
  call_float_1 (meets_float_minf u) (show (Made.float (Float64.inf true)).post _ s from ⟨rfl, h⟩)
end
theorem inf_of {sg : Bool} {n d : Nat} (h : Float64.isInf (Float64.ofFrac sg n d) = true) : Float64.ofFrac sg n d = Float64.inf sg := by
  have hle : Float64.roundMag n d ≤ Float64.infMag := by rw [Float64.roundMag_min]; exact Nat.min_le_left _ _
  unfold Float64.ofFrac Float64.inf at *
  rcases Nat.lt_or_ge (Float64.roundMag n d) Float64.infMag with q | q
  · rw [notInf_fin (fin_pack sg q)] at h; cases h
  · rw [Nat.le_antisymm hle q]
/-- a whole number moved by binary places, as a float -/
def mv (n k : Int) : UInt64 := if k < 0 then Float64.ofFrac (decide (n < 0)) n.natAbs (2 ^ (-k).toNat) else Float64.ofFrac (decide (n < 0)) (n.natAbs * 2 ^ k.toNat) 1
theorem mv_neg {n k : Int} (h : k < 0) : Float64.ofFrac (decide (n < 0) != decide ((1 * 2 ^ (-k).toNat : Int) < 0)) n.natAbs (1 * 2 ^ (-k).toNat : Int).natAbs = mv n k := by
  have h2 : (0 : Int) < 2 ^ (-k).toNat := Int.pow_pos (by decide)
  unfold mv
  rw [if_pos h, Int.one_mul, decide_eq_false (show ¬ ((2 : Int) ^ (-k).toNat < 0) by omega), Bool.bne_false, Int.natAbs_pow]; rfl
theorem mv_nonneg {n k : Int} (h : ¬ k < 0) : Float64.ofFrac (decide ((n * 2 ^ k.toNat : Int) < 0) != decide ((1 : Int) < 0)) (n * 2 ^ k.toNat : Int).natAbs (Int.natAbs 1) = mv n k := by
  have h2 : (0 : Int) < 2 ^ k.toNat := Int.pow_pos (by decide)
  unfold mv
  rw [if_neg h, show (decide ((1 : Int) < 0)) = false from rfl, Bool.bne_false, Int.natAbs_mul, Int.natAbs_pow]
  have e : decide ((n * 2 ^ k.toNat : Int) < 0) = decide (n < 0) := by
    apply decide_eq_decide.mpr
    constructor
    · intro q
      rcases Int.lt_or_le n 0 with q2 | q2
      · exact q2
      · have := Int.mul_nonneg q2 (Int.le_of_lt h2); omega
    · intro q; exact Int.mul_neg_of_neg_of_pos q h2
  rw [e]; rfl
theorem mv_inf {n k : Int} (h : ¬ k < 0) (hi : Float64.isInf (Float64.ofFrac (decide ((n * 2 ^ k.toNat : Int) < 0) != decide ((1 : Int) < 0)) (n * 2 ^ k.toNat : Int).natAbs (Int.natAbs 1)) = true) : mv n k = Float64.inf (decide (n < 0)) := by
  rw [mv_nonneg h] at hi
  unfold mv at hi ⊢
  rw [if_neg h] at hi ⊢
  exact inf_of hi
theorem mv_inf1 {n k : Int} (h : ¬ k < 0) (hi : Float64.isInf (Float64.ofFrac (decide ((n * 2 ^ k.toNat : Int) < 0) != decide ((1 : Int) < 0)) (n * 2 ^ k.toNat : Int).natAbs (Int.natAbs 1)) = true) (hn : 0 < n) : Float64.inf false = mv n k := by
  rw [mv_inf h hi, decide_eq_false (show ¬ n < 0 by omega)]
theorem mv_inf2 {n k : Int} (h : ¬ k < 0) (hi : Float64.isInf (Float64.ofFrac (decide ((n * 2 ^ k.toNat : Int) < 0) != decide ((1 : Int) < 0)) (n * 2 ^ k.toNat : Int).natAbs (Int.natAbs 1)) = true) (hn : ¬ 0 < n) : Float64.inf true = mv n k := by
  have hne : n ≠ 0 := by
    intro q
    rw [q] at hi
    simp only [Int.zero_mul] at hi
    exact absurd hi (by decide +kernel)
  rw [mv_inf h hi, decide_eq_true (show n < 0 by omega)]
theorem zdiv_no {k : Int} {P : Prop} (h1 : (1 * 2 ^ (-k).toNat : Int) = 0) : P := by
  have h2 : (0 : Int) < 2 ^ (-k).toNat := Int.pow_pos (by decide)
  omega
theorem cast_q {Q : Value → Shared → Prop} {x y : UInt64} {t : Tok} {s : Shared} (e : x = y) (h : Q (.float y t) s) : Q (.float x t) s := e ▸ h
theorem leave_back0 {h₀ : Heap} {L L' : Addr} {m m' : Str → Option Value} {oL : Obj} {P : Prop} {s' : Shared} {new : List (Addr × Obj)} (C : TI.Caller h₀ L m oL) (F' : Fr h₀ L' s'.heap m') (N' : News h₀ L' s'.heap (new ++ [(L, oL)])) (hne : TLg.AllNe L new)
    (k : Fr h₀ L s'.heap m → News h₀ L s'.heap new → P) : TI.LeaveI s' P := TLg.leave_back (sl := oL.slots) C F' N' hne k
end Mine
end
section
namespace Mine
open PySem PySem.Float64

structure Six (a b h : Int) : Prop where
  a0 : 0 ≤ a
  a1 : a ≤ 24
  b0 : 0 ≤ b
  b1 : b ≤ 24
  h0 : 1 ≤ h
  h1 : h ≤ 29
  py : a * a + b * b = h * h

theorem ofFrac_pack (sg : Bool) (n d : Nat) : ∃ t, t ≤ infMag ∧ ofFrac sg n d = pack sg t := ⟨roundMag n d, by rw [roundMag_min]; exact Nat.min_le_left _ _, by unfold ofFrac; rfl⟩
theorem mv_pack (n k : Int) : ∃ t, t ≤ infMag ∧ mv n k = pack (decide (n < 0)) t := by
  unfold mv; split <;> exact ofFrac_pack _ _ _
theorem cmp_pack (sg : Bool) {t : Nat} (h : t ≤ infMag) : (cmp (pack sg t) (pack sg t) == some .eq) = true := by
  rcases Nat.lt_or_ge t infMag with q | q
  · exact cmp_eq_of (fin_pack sg q) (fin_pack sg q) rfl
  · rw [Nat.le_antisymm h q]; cases sg <;> decide +kernel
theorem cmp_mv (n k : Int) : (cmp (mv n k) (mv n k) == some .eq) = true := by
  obtain ⟨t, h, e⟩ := mv_pack n k
  rw [e]; exact cmp_pack _ h
/-- what the moved number is the right rounding of -/
theorem mv_right (n k : Int) : ∃ W D, 0 < D ∧ Right (mv n k) (decide (n < 0)) W D ∧ ((k < 0 ∧ W = n.natAbs * 2 ^ 1074 ∧ D = 2 ^ (-k).toNat) ∨ (0 ≤ k ∧ W = n.natAbs * 2 ^ k.toNat * 2 ^ 1074 ∧ D = 1)) := by
  by_cases hk : k < 0
  · refine ⟨n.natAbs * 2 ^ 1074, 2 ^ (-k).toNat, Nat.two_pow_pos _, ?_, .inl ⟨hk, rfl, rfl⟩⟩
    unfold mv; rw [if_pos hk]
    exact ofFrac_right (Nat.two_pow_pos _) rfl (Nat.two_pow_pos _)
  · refine ⟨n.natAbs * 2 ^ k.toNat * 2 ^ 1074, 1, by decide, ?_, .inr ⟨by omega, rfl, rfl⟩⟩
    unfold mv; rw [if_neg hk]
    exact ofFrac_right (by decide) rfl (by decide)
theorem sgn_dec (n : Int) (K : Nat) : sgn (decide (n < 0)) (n.natAbs * K) = n * (K : Int) := by
  rw [sgn_mul, sgn_abs]
theorem mv_exact {n e : Int} (hn : n.natAbs ≤ 31) (he : -1074 ≤ e) (he2 : e ≤ 1019) : Fin (mv n e) ∧ val (mv n e) = n * ((2 ^ (e + 1074).toNat : Nat) : Int) := by
  obtain ⟨W, D, hD, hr, hc⟩ := mv_right n e
  have hsz : n.natAbs * 2 ^ (e + 1074).toNat < 2 ^ 53 * 2 ^ 2045 := by
    have h1 : n.natAbs * 2 ^ (e + 1074).toNat ≤ 31 * 2 ^ 2093 := Nat.mul_le_mul hn (Nat.pow_le_pow_right (by decide) (by omega))
    have h2 : (31 : Nat) * 2 ^ 2093 < 2 ^ 53 * 2 ^ 2045 := by decide +kernel
    exact Nat.lt_of_le_of_lt h1 h2
  obtain ⟨f, v⟩ := right_rep hr hD (n := n.natAbs) (k := (e + 1074).toNat) (by
    rcases hc with ⟨hk, hW, hDD⟩ | ⟨hk, hW, hDD⟩
    · rw [hW, hDD, Nat.mul_left_comm, ← Nat.pow_add]; exact mul_npow (by omega)
    · rw [hW, hDD, Nat.one_mul, Nat.mul_assoc, ← Nat.pow_add]; exact mul_npow (by omega)) (by omega) hsz
  exact ⟨f, by rw [v, sgn_dec]⟩

/-- a sum of two moved numbers -/
theorem add_mv {x y : UInt64} {l m s e : Int} (hx : Fin x) (hy : Fin y) (vx : val x = l * ((2 ^ (e + 1074).toNat : Nat) : Int)) (vy : val y = m * ((2 ^ (e + 1074).toNat : Nat) : Int)) (he : -1074 ≤ e) (hs : s = l + m) :
    (s = 0 → Fin (add x y) ∧ R (add x y) = 0 ∧ Fin (mv s e) ∧ R (mv s e) = 0) ∧ (s ≠ 0 → add x y = mv s e) := by
  obtain ⟨a, mx, ex, hdx⟩ := hx
  obtain ⟨b, my, ey, hdy⟩ := hy
  obtain ⟨z0, z1⟩ := add_right hdx hdy
  have hsum : val x + val y = s * ((2 ^ (e + 1074).toNat : Nat) : Int) := by rw [vx, vy, hs, Int.add_mul]
  have hp : (0 : Int) < ((2 ^ (e + 1074).toNat : Nat) : Int) := Int.ofNat_lt.mpr (Nat.two_pow_pos _)
  constructor
  · intro q
    rw [z0 (by rw [hsum, q, Int.zero_mul])]
    refine ⟨fin_zero _, R_zero _, ?_⟩
    have hz : mv s e = zero false := by
      rw [q]; unfold mv
      have r0 : ∀ d, ofFrac (decide ((0 : Int) < 0)) 0 d = zero false := fun d => by unfold ofFrac roundMag; rfl
      split
      · exact r0 _
      · rw [show (Int.natAbs 0 * 2 ^ e.toNat) = 0 by simp]; exact r0 _
    rw [hz]
    exact ⟨fin_zero _, R_zero _⟩
  · intro q
    have hne : val x + val y ≠ 0 := by rw [hsum]; exact Int.mul_ne_zero q (Int.ne_of_gt hp)
    have r1 := z1 hne
    have hsg : decide (val x + val y < 0) = decide (s < 0) := by
      rw [hsum]
      apply decide_eq_decide.mpr
      constructor
      · intro h
        rcases Int.lt_or_le s 0 with h2 | h2
        · exact h2
        · have := Int.mul_nonneg h2 (Int.le_of_lt hp); omega
      · intro h; exact Int.mul_neg_of_neg_of_pos h hp
    rw [hsg, hsum, Int.natAbs_mul, Int.natAbs_natCast] at r1
    obtain ⟨W, D, hD, hr, hc⟩ := mv_right s e
    obtain ⟨t, _, e1, e2⟩ := right_unique r1 hr (by decide) hD (by
      rcases hc with ⟨hk, hW, hDD⟩ | ⟨hk, hW, hDD⟩
      · rw [hW, hDD, Nat.mul_one, Nat.mul_assoc, ← Nat.pow_add]; exact mul_npow (by omega)
      · rw [hW, hDD, Nat.mul_one, Nat.mul_one, Nat.mul_assoc, ← Nat.pow_add]; exact mul_npow (by omega))
    rw [e1, e2]
theorem cmp_of_eq {x : UInt64} {n k : Int} (h : x = mv n k) : (cmp x (mv n k) == some .eq) = true := h ▸ cmp_mv n k
theorem add_cmp {l m s e : Int} (hl : l.natAbs ≤ 31) (hm : m.natAbs ≤ 31) (he : -1074 ≤ e) (he2 : e ≤ 1019) (hs : s = l + m) : (cmp (add (mv l e) (mv m e)) (mv s e) == some .eq) = true := by
  obtain ⟨f1, v1⟩ := mv_exact hl he he2
  obtain ⟨f2, v2⟩ := mv_exact hm he he2
  obtain ⟨z, nz⟩ := add_mv f1 f2 v1 v2 he hs
  by_cases q : s = 0
  · obtain ⟨a, b, c, d⟩ := z q
    exact cmp_eq_of a c (by rw [b, d])
  · exact cmp_of_eq (nz q)
theorem sub_mv {l m s e : Int} (hl : l.natAbs ≤ 31) (hm : m.natAbs ≤ 31) (he : -1074 ≤ e) (he2 : e ≤ 1019) (hs : s = l - m) :
    (s = 0 → Fin (sub (mv l e) (mv m e)) ∧ R (sub (mv l e) (mv m e)) = 0 ∧ Fin (mv s e) ∧ R (mv s e) = 0) ∧ (s ≠ 0 → sub (mv l e) (mv m e) = mv s e) := by
  obtain ⟨f1, v1⟩ := mv_exact hl he he2
  obtain ⟨f2, v2⟩ := mv_exact hm he he2
  have n := neg_fin f2
  have vn : val (neg (mv m e)) = (-m) * ((2 ^ (e + 1074).toNat : Nat) : Int) := by
    obtain ⟨b, k, f, hd⟩ := f2
    rw [neg_val hd, v2, Int.neg_mul]
  unfold sub
  exact add_mv f1 n.1 v1 vn he (s := s) (by omega)
theorem sub_cmp {l m s e : Int} (hl : l.natAbs ≤ 31) (hm : m.natAbs ≤ 31) (he : -1074 ≤ e) (he2 : e ≤ 1019) (hs : s = l - m) : (cmp (sub (mv l e) (mv m e)) (mv s e) == some .eq) = true := by
  obtain ⟨z, nz⟩ := sub_mv hl hm he he2 hs
  by_cases q : s = 0
  · obtain ⟨a, b, c, d⟩ := z q
    exact cmp_eq_of a c (by rw [b, d])
  · exact cmp_of_eq (nz q)
theorem add_comm_cmp {l m e : Int} (hl : l.natAbs ≤ 31) (hm : m.natAbs ≤ 31) (he : -1074 ≤ e) (he2 : e ≤ 1019) : (cmp (add (mv l e) (mv m e)) (add (mv m e) (mv l e)) == some .eq) = true := by
  obtain ⟨f1, v1⟩ := mv_exact hl he he2
  obtain ⟨f2, v2⟩ := mv_exact hm he he2
  obtain ⟨z, nz⟩ := add_mv f1 f2 v1 v2 he (s := l + m) rfl
  obtain ⟨z', nz'⟩ := add_mv f2 f1 v2 v1 he (s := l + m) (by omega)
  by_cases q : l + m = 0
  · obtain ⟨a, b, c, d⟩ := z q
    obtain ⟨a', b', c', d'⟩ := z' q
    exact cmp_eq_of a a' (by rw [b, b'])
  · rw [nz q, nz' q]; exact cmp_mv _ _
theorem neg_pack (sg : Bool) {t : Nat} (h : t ≤ infMag) : neg (pack sg t) = pack (!sg) t := by
  have hh : infMag < 2 ^ 63 := by decide
  have hn : isNaN (pack sg t) = false := W.isNaN_pack sg h
  obtain ⟨h1, h2⟩ := neg_toNat hn
  have p1 := pack_toNat sg (t := t) (by omega)
  have p2 := pack_toNat (!sg) (t := t) (by omega)
  have hlt := (neg (pack sg t)).toNat_lt
  refine UInt64.toNat_inj.mp ?_
  rw [p2]
  rw [p1] at h1 h2
  cases sg
  · simp only [Bool.false_eq_true, if_false, Nat.zero_add, Bool.not_false, if_true] at *
    have e1 : t / 2 ^ 63 = 0 := by omega
    rw [e1] at h2
    have : (neg (pack false t)).toNat / 2 ^ 63 = 1 := by simpa using h2
    omega
  · simp only [if_true, Bool.not_true, Bool.false_eq_true, if_false, Nat.zero_add] at *
    have e1 : (2 ^ 63 + t) / 2 ^ 63 = 1 := by omega
    rw [e1] at h2
    have : (neg (pack true t)).toNat / 2 ^ 63 ≠ 1 := by simpa using h2
    omega
theorem neg_mv (n k : Int) (h : n ≠ 0) : neg (mv n k) = mv (-n) k := by
  obtain ⟨W, D, hD, hr, hc⟩ := mv_right n k
  obtain ⟨W', D', hD', hr', hc'⟩ := mv_right (-n) k
  have hW : W * D' = W' * D := by
    rcases hc with ⟨hk, e1, e2⟩ | ⟨hk, e1, e2⟩ <;> rcases hc' with ⟨hk', e1', e2'⟩ | ⟨hk', e1', e2'⟩
    · rw [e1, e2, e1', e2', Int.natAbs_neg]
    · omega
    · omega
    · rw [e1, e2, e1', e2', Int.natAbs_neg]
  obtain ⟨t, ht, e1, e2⟩ := right_unique hr hr' hD hD' hW
  rw [e1, e2, neg_pack _ ht]
  congr 1
  by_cases q : n < 0
  · rw [decide_eq_true q, decide_eq_false (show ¬ -n < 0 by omega)]; rfl
  · rw [decide_eq_false q, decide_eq_true (show -n < 0 by omega)]; rfl
theorem sub_neg_cmp {l m e : Int} (hl : l.natAbs ≤ 31) (hm : m.natAbs ≤ 31) (he : -1074 ≤ e) (he2 : e ≤ 1019) : (cmp (sub (mv l e) (mv m e)) (neg (sub (mv m e) (mv l e))) == some .eq) = true := by
  obtain ⟨z, nz⟩ := sub_mv hl hm he he2 (s := l - m) rfl
  obtain ⟨z', nz'⟩ := sub_mv hm hl he he2 (s := m - l) rfl
  by_cases q : l - m = 0
  · obtain ⟨a, b, c, d⟩ := z q
    obtain ⟨a', b', c', d'⟩ := z' (by omega)
    have n := neg_fin a'
    exact cmp_eq_of a n.1 (by rw [b, n.2, b']; rfl)
  · rw [nz q, nz' (by omega), neg_mv _ _ (by omega), show -(m - l) = l - m by omega]; exact cmp_mv _ _

/-- the spread -/
theorem cast_mv {n : Int} (h : 0 ≤ n) (j : Nat) : n * ((2 ^ j : Nat) : Int) = ((n.natAbs * 2 ^ j : Nat) : Int) := by
  rw [Int.natCast_mul, show ((n.natAbs : Nat) : Int) = n by omega]
theorem hyp_mv {a b h e : Int} (a0 : 0 ≤ a) (a1 : a ≤ 24) (b0 : 0 ≤ b) (b1 : b ≤ 24) (h0 : 1 ≤ h) (h1 : h ≤ 29) (py : a * a + b * b = h * h) (he : -1074 ≤ e) (he2 : e ≤ 1019) :
    Fin (hyp (mv a e) (mv b e)) ∧ val (hyp (mv a e) (mv b e)) = h * ((2 ^ (e + 1074).toNat : Nat) : Int) := by
  obtain ⟨f1, v1⟩ := mv_exact (n := a) (by omega) he he2
  obtain ⟨f2, v2⟩ := mv_exact (n := b) (by omega) he he2
  rw [cast_mv a0] at v1
  rw [cast_mv b0] at v2
  have hh : a.natAbs * a.natAbs + b.natAbs * b.natAbs = h.natAbs * h.natAbs := by
    have e1 : ((a.natAbs : Nat) : Int) = a := by omega
    have e2 : ((b.natAbs : Nat) : Int) = b := by omega
    have e3 : ((h.natAbs : Nat) : Int) = h := by omega
    have : ((a.natAbs * a.natAbs + b.natAbs * b.natAbs : Nat) : Int) = ((h.natAbs * h.natAbs : Nat) : Int) := by
      rw [Int.natCast_add, Int.natCast_mul, Int.natCast_mul, Int.natCast_mul, e1, e2, e3]; exact py
    exact Int.ofNat.inj this
  have sz : h.natAbs * 2 ^ (e + 1074).toNat < 2 ^ 53 * 2 ^ 2045 := by
    have h1 : h.natAbs * 2 ^ (e + 1074).toNat ≤ 29 * 2 ^ 2093 := Nat.mul_le_mul (by omega) (Nat.pow_le_pow_right (by decide) (by omega))
    have h2 : (29 : Nat) * 2 ^ 2093 < 2 ^ 53 * 2 ^ 2045 := by decide +kernel
    exact Nat.lt_of_le_of_lt h1 h2
  obtain ⟨f, v⟩ := hyp_exact f1 f2 v1 v2 hh (by omega) (by omega) (by omega) (by omega) sz
  exact ⟨f, by rw [v, cast_mv (by omega)]⟩
theorem Six.hyp {a b h e : Int} (S : Six a b h) (he : -1074 ≤ e) (he2 : e ≤ 1019) : (Fin (hyp (mv a e) (mv b e)) ∧ val (hyp (mv a e) (mv b e)) = h * ((2 ^ (e + 1074).toNat : Nat) : Int)) ∧ (Fin (Mine.hyp (mv b e) (mv a e)) ∧ val (Mine.hyp (mv b e) (mv a e)) = h * ((2 ^ (e + 1074).toNat : Nat) : Int)) := by
  obtain ⟨a0, a1, b0, b1, h0, h1, py⟩ := S
  exact ⟨hyp_mv a0 a1 b0 b1 h0 h1 py he he2, hyp_mv b0 b1 a0 a1 h0 h1 (by omega) he he2⟩
theorem val_pos_nn {x : UInt64} {n : Int} {j : Nat} (hf : Fin x) (h : val x = n * ((2 ^ j : Nat) : Int)) (h0 : 0 ≤ n) : (cmp x 0 == some Ordering.lt) = false :=
  nn_cmp hf (val_nonneg (by rw [h]; exact Int.mul_nonneg h0 (Int.natCast_nonneg _)))
theorem Six.nn {a b h e : Int} (S : Six a b h) (he : -1074 ≤ e) (he2 : e ≤ 1019) : (cmp (mv a e) 0 == some Ordering.lt) = false ∧ (cmp (mv b e) 0 == some Ordering.lt) = false ∧ (cmp (Mine.hyp (mv a e) (mv b e)) 0 == some Ordering.lt) = false ∧ (cmp (Mine.hyp (mv b e) (mv a e)) 0 == some Ordering.lt) = false := by
  obtain ⟨g1, g2⟩ := S.hyp he he2
  obtain ⟨a0, a1, b0, b1, h0, h1, py⟩ := S
  obtain ⟨f1, v1⟩ := mv_exact (n := a) (by omega) he he2
  obtain ⟨f2, v2⟩ := mv_exact (n := b) (by omega) he he2
  exact ⟨val_pos_nn f1 v1 a0, val_pos_nn f2 v2 b0, val_pos_nn g1.1 g1.2 (by omega), val_pos_nn g2.1 g2.2 (by omega)⟩
theorem cmp_val {x y : UInt64} (hx : Fin x) (hy : Fin y) (h : val x = val y) : (cmp x y == some .eq) = true := cmp_eq_of hx hy (val_eq_iff.mp h)
theorem Six.stdev {a b h e : Int} (S : Six a b h) (he : -1074 ≤ e) (he2 : e ≤ 1019) : (cmp (Mine.hyp (mv a e) (mv b e)) (mv h e) == some .eq) = true ∧ (cmp (Mine.hyp (mv b e) (mv a e)) (mv h e) == some .eq) = true ∧ (cmp (Mine.hyp (mv a e) (mv b e)) (Mine.hyp (mv b e) (mv a e)) == some .eq) = true := by
  obtain ⟨g1, g2⟩ := S.hyp he he2
  obtain ⟨f3, v3⟩ := mv_exact (n := h) (by have := S.h0; have := S.h1; omega) he he2
  exact ⟨cmp_val g1.1 f3 (by rw [g1.2, v3]), cmp_val g2.1 f3 (by rw [g2.2, v3]), cmp_val g1.1 g2.1 (by rw [g1.2, g2.2])⟩
theorem sq_mv {x : UInt64} {h e q k : Int} (hx : Fin x) (v : val x = h * ((2 ^ (e + 1074).toNat : Nat) : Int)) (h0 : 1 ≤ h) (he : -1074 ≤ e) (hq : q = h * h) (hk : k = 2 * e) : (cmp (mul x x) (mv q k) == some .eq) = true := by
  obtain ⟨a, m, f, hd⟩ := hx
  have r := mul_right hd hd
  have hsg : (a != a) = decide (q < 0) := by
    have : 0 ≤ q := by rw [hq]; exact Int.mul_nonneg (by omega) (by omega)
    rw [decide_eq_false (by omega)]; cases a <;> rfl
  rw [hsg, v, Int.natAbs_mul, Int.natAbs_natCast] at r
  obtain ⟨W, D, hD, hr, hc⟩ := mv_right q k
  have hqa : q.natAbs = h.natAbs * h.natAbs := by rw [hq, Int.natAbs_mul]
  obtain ⟨t, ht, e1, e2⟩ := right_unique r hr (Nat.two_pow_pos _) hD (by
    have hre : h.natAbs * 2 ^ (e + 1074).toNat * (h.natAbs * 2 ^ (e + 1074).toNat) = h.natAbs * h.natAbs * 2 ^ ((e + 1074).toNat + (e + 1074).toNat) := by
      rw [Nat.pow_add]; generalize (2 : Nat) ^ (e + 1074).toNat = P; ac_rfl
    rw [hre]
    rcases hc with ⟨hk', hW, hDD⟩ | ⟨hk', hW, hDD⟩
    · rw [hW, hDD, hqa, Nat.mul_assoc (h.natAbs * h.natAbs), ← Nat.pow_add, Nat.mul_assoc (h.natAbs * h.natAbs), ← Nat.pow_add]; exact mul_npow (by omega)
    · rw [hW, hDD, hqa, Nat.mul_one, Nat.mul_assoc (h.natAbs * h.natAbs), ← Nat.pow_add, Nat.mul_assoc (h.natAbs * h.natAbs), ← Nat.pow_add]; exact mul_npow (by omega))
  rw [e1, e2]; exact cmp_pack _ ht
theorem Six.var {a b h e q k : Int} (S : Six a b h) (he : -1074 ≤ e) (he2 : e ≤ 1019) (hq : q = h * h) (hk : k = 2 * e) : (cmp (mul (Mine.hyp (mv a e) (mv b e)) (Mine.hyp (mv a e) (mv b e))) (mv q k) == some .eq) = true ∧ (cmp (mul (Mine.hyp (mv b e) (mv a e)) (Mine.hyp (mv b e) (mv a e))) (mv q k) == some .eq) = true := by
  obtain ⟨g1, g2⟩ := S.hyp he he2
  exact ⟨sq_mv g1.1 g1.2 S.h0 he hq hk, sq_mv g2.1 g2.2 S.h0 he hq hk⟩
end Mine
end
section
open PySem PySem.W PyProof.Rows
namespace Mine
noncomputable def topS (k : Nat) (l : List Stmt) : Stmt := (l.drop k).headD (.Pass default)
noncomputable def inC : Stmt → List Stmt | .ClassDef _ _ _ b .. => b | _ => []
noncomputable def mkFn {n : Str} {a1 a2 : List Arg} {a3 : Option Arg} {a4 : List Arg} {a5 : List (Option Expr)} {a6 : Option Arg} {a7 : List Expr} {b : List Stmt} {dl : List Expr} {rt : Option Expr} {tp : List TypeParam}
    {s1 : ScopeKind} {s2 : List (Str × NameKind)} {s3 s4 : Bool} {s5 : List (Str × Const)} {ts : Option Scope} {bi : Str} {ps : Pos} (st : Stmt)
    (_ : st = Stmt.FunctionDef n ⟨a1, a2, a3, a4, a5, a6, a7⟩ b dl rt tp ⟨s1, s2, s3, s4, s5⟩ ts bi ps) (k : Arguments → FuncBody → Scope → Obj) : Obj := k ⟨a1, a2, a3, a4, a5, a6, a7⟩ (.stmts b) ⟨s1, s2, s3, s4, s5⟩
noncomputable def inP (i : Nat) : Stmt := topS i PySem.Challenge.pw_oz0056_03.main.body
noncomputable def inQ (i j : Nat) : Stmt := topS j (inC (inP i))
noncomputable def hd03.view_39 : Program := { PySem.Challenge.pw_oz0056_03 with main := { PySem.Challenge.pw_oz0056_03.main with body := [inP 0, inP 1, inP 3, inP 4, inP 6, inP 7] } }
noncomputable def hd03.o_49 : Obj := mkFn (inP 1) rfl fun a b s => { cls := Value.type "function", data := Data.func { name := Str.ofString "_wall", qualname := Str.ofString "_wall", params := a, body := b, scope := s, globals := 3, closure := [], defaults := Value.none, kwdefaults := Value.none, pyModule := Value.str (Str.ofString "__main__") 164, code := Value.ref 48 } }
noncomputable def hd03.o_78 : Obj := mkFn (inQ 4 1) rfl fun a b s => { cls := Value.type "function", data := Data.func { name := Str.ofString "__init__", qualname := Str.ofString "NormalDist.__init__", params := a, body := b, scope := s, globals := 3, closure := [], defaults := Value.ref 71, kwdefaults := Value.none, pyModule := Value.str (Str.ofString "cpy313.statistics") 387, code := Value.ref 77 } }
noncomputable def hd03.o_85 : Obj := mkFn (inQ 4 2) rfl fun a b s => { cls := Value.type "function", data := Data.func { name := Str.ofString "from_samples", qualname := Str.ofString "NormalDist.from_samples", params := a, body := b, scope := s, globals := 3, closure := [], defaults := Value.none, kwdefaults := Value.none, pyModule := Value.str (Str.ofString "cpy313.statistics") 387, annotations := some 88, code := Value.ref 84 } }
noncomputable def hd03.o_96 : Obj := mkFn (inQ 4 3) rfl fun a b s => { cls := Value.type "function", data := Data.func { name := Str.ofString "samples", qualname := Str.ofString "NormalDist.samples", params := a, body := b, scope := s, globals := 3, closure := [], defaults := Value.none, kwdefaults := Value.ref 89, pyModule := Value.str (Str.ofString "cpy313.statistics") 387, code := Value.ref 95 } }
noncomputable def hd03.o_103 : Obj := mkFn (inQ 4 4) rfl fun a b s => { cls := Value.type "function", data := Data.func { name := Str.ofString "pdf", qualname := Str.ofString "NormalDist.pdf", params := a, body := b, scope := s, globals := 3, closure := [], defaults := Value.none, kwdefaults := Value.none, pyModule := Value.str (Str.ofString "cpy313.statistics") 387, code := Value.ref 102 } }
noncomputable def hd03.o_110 : Obj := mkFn (inQ 4 5) rfl fun a b s => { cls := Value.type "function", data := Data.func { name := Str.ofString "cdf", qualname := Str.ofString "NormalDist.cdf", params := a, body := b, scope := s, globals := 3, closure := [], defaults := Value.none, kwdefaults := Value.none, pyModule := Value.str (Str.ofString "cpy313.statistics") 387, code := Value.ref 109 } }
noncomputable def hd03.o_117 : Obj := mkFn (inQ 4 6) rfl fun a b s => { cls := Value.type "function", data := Data.func { name := Str.ofString "inv_cdf", qualname := Str.ofString "NormalDist.inv_cdf", params := a, body := b, scope := s, globals := 3, closure := [], defaults := Value.none, kwdefaults := Value.none, pyModule := Value.str (Str.ofString "cpy313.statistics") 387, code := Value.ref 116 } }
noncomputable def hd03.o_125 : Obj := mkFn (inQ 4 7) rfl fun a b s => { cls := Value.type "function", data := Data.func { name := Str.ofString "quantiles", qualname := Str.ofString "NormalDist.quantiles", params := a, body := b, scope := s, globals := 3, closure := [], defaults := Value.ref 118, kwdefaults := Value.none, pyModule := Value.str (Str.ofString "cpy313.statistics") 387, code := Value.ref 124 } }
noncomputable def hd03.o_132 : Obj := mkFn (inQ 4 8) rfl fun a b s => { cls := Value.type "function", data := Data.func { name := Str.ofString "overlap", qualname := Str.ofString "NormalDist.overlap", params := a, body := b, scope := s, globals := 3, closure := [], defaults := Value.none, kwdefaults := Value.none, pyModule := Value.str (Str.ofString "cpy313.statistics") 387, code := Value.ref 131 } }
noncomputable def hd03.o_139 : Obj := mkFn (inQ 4 9) rfl fun a b s => { cls := Value.type "function", data := Data.func { name := Str.ofString "zscore", qualname := Str.ofString "NormalDist.zscore", params := a, body := b, scope := s, globals := 3, closure := [], defaults := Value.none, kwdefaults := Value.none, pyModule := Value.str (Str.ofString "cpy313.statistics") 387, code := Value.ref 138 } }
noncomputable def hd03.o_146 : Obj := mkFn (inQ 4 10) rfl fun a b s => { cls := Value.type "function", data := Data.func { name := Str.ofString "mean", qualname := Str.ofString "NormalDist.mean", params := a, body := b, scope := s, globals := 3, closure := [], defaults := Value.none, kwdefaults := Value.none, pyModule := Value.str (Str.ofString "cpy313.statistics") 387, code := Value.ref 145 } }
noncomputable def hd03.o_154 : Obj := mkFn (inQ 4 11) rfl fun a b s => { cls := Value.type "function", data := Data.func { name := Str.ofString "median", qualname := Str.ofString "NormalDist.median", params := a, body := b, scope := s, globals := 3, closure := [], defaults := Value.none, kwdefaults := Value.none, pyModule := Value.str (Str.ofString "cpy313.statistics") 387, code := Value.ref 153 } }
noncomputable def hd03.o_162 : Obj := mkFn (inQ 4 12) rfl fun a b s => { cls := Value.type "function", data := Data.func { name := Str.ofString "mode", qualname := Str.ofString "NormalDist.mode", params := a, body := b, scope := s, globals := 3, closure := [], defaults := Value.none, kwdefaults := Value.none, pyModule := Value.str (Str.ofString "cpy313.statistics") 387, code := Value.ref 161 } }
noncomputable def hd03.o_170 : Obj := mkFn (inQ 4 13) rfl fun a b s => { cls := Value.type "function", data := Data.func { name := Str.ofString "stdev", qualname := Str.ofString "NormalDist.stdev", params := a, body := b, scope := s, globals := 3, closure := [], defaults := Value.none, kwdefaults := Value.none, pyModule := Value.str (Str.ofString "cpy313.statistics") 387, code := Value.ref 169 } }
noncomputable def hd03.o_178 : Obj := mkFn (inQ 4 14) rfl fun a b s => { cls := Value.type "function", data := Data.func { name := Str.ofString "variance", qualname := Str.ofString "NormalDist.variance", params := a, body := b, scope := s, globals := 3, closure := [], defaults := Value.none, kwdefaults := Value.none, pyModule := Value.str (Str.ofString "cpy313.statistics") 387, code := Value.ref 177 } }
noncomputable def hd03.o_186 : Obj := mkFn (inQ 4 15) rfl fun a b s => { cls := Value.type "function", data := Data.func { name := Str.ofString "__add__", qualname := Str.ofString "NormalDist.__add__", params := a, body := b, scope := s, globals := 3, closure := [], defaults := Value.none, kwdefaults := Value.none, pyModule := Value.str (Str.ofString "cpy313.statistics") 387, code := Value.ref 185 } }
noncomputable def hd03.o_193 : Obj := mkFn (inQ 4 16) rfl fun a b s => { cls := Value.type "function", data := Data.func { name := Str.ofString "__sub__", qualname := Str.ofString "NormalDist.__sub__", params := a, body := b, scope := s, globals := 3, closure := [], defaults := Value.none, kwdefaults := Value.none, pyModule := Value.str (Str.ofString "cpy313.statistics") 387, code := Value.ref 192 } }
noncomputable def hd03.o_200 : Obj := mkFn (inQ 4 17) rfl fun a b s => { cls := Value.type "function", data := Data.func { name := Str.ofString "__mul__", qualname := Str.ofString "NormalDist.__mul__", params := a, body := b, scope := s, globals := 3, closure := [], defaults := Value.none, kwdefaults := Value.none, pyModule := Value.str (Str.ofString "cpy313.statistics") 387, code := Value.ref 199 } }
noncomputable def hd03.o_207 : Obj := mkFn (inQ 4 18) rfl fun a b s => { cls := Value.type "function", data := Data.func { name := Str.ofString "__truediv__", qualname := Str.ofString "NormalDist.__truediv__", params := a, body := b, scope := s, globals := 3, closure := [], defaults := Value.none, kwdefaults := Value.none, pyModule := Value.str (Str.ofString "cpy313.statistics") 387, code := Value.ref 206 } }
noncomputable def hd03.o_214 : Obj := mkFn (inQ 4 19) rfl fun a b s => { cls := Value.type "function", data := Data.func { name := Str.ofString "__pos__", qualname := Str.ofString "NormalDist.__pos__", params := a, body := b, scope := s, globals := 3, closure := [], defaults := Value.none, kwdefaults := Value.none, pyModule := Value.str (Str.ofString "cpy313.statistics") 387, code := Value.ref 213 } }
noncomputable def hd03.o_221 : Obj := mkFn (inQ 4 20) rfl fun a b s => { cls := Value.type "function", data := Data.func { name := Str.ofString "__neg__", qualname := Str.ofString "NormalDist.__neg__", params := a, body := b, scope := s, globals := 3, closure := [], defaults := Value.none, kwdefaults := Value.none, pyModule := Value.str (Str.ofString "cpy313.statistics") 387, code := Value.ref 220 } }
noncomputable def hd03.o_228 : Obj := mkFn (inQ 4 22) rfl fun a b s => { cls := Value.type "function", data := Data.func { name := Str.ofString "__rsub__", qualname := Str.ofString "NormalDist.__rsub__", params := a, body := b, scope := s, globals := 3, closure := [], defaults := Value.none, kwdefaults := Value.none, pyModule := Value.str (Str.ofString "cpy313.statistics") 387, code := Value.ref 227 } }
noncomputable def hd03.o_235 : Obj := mkFn (inQ 4 24) rfl fun a b s => { cls := Value.type "function", data := Data.func { name := Str.ofString "__eq__", qualname := Str.ofString "NormalDist.__eq__", params := a, body := b, scope := s, globals := 3, closure := [], defaults := Value.none, kwdefaults := Value.none, pyModule := Value.str (Str.ofString "cpy313.statistics") 387, code := Value.ref 234 } }
noncomputable def hd03.o_242 : Obj := mkFn (inQ 4 25) rfl fun a b s => { cls := Value.type "function", data := Data.func { name := Str.ofString "__hash__", qualname := Str.ofString "NormalDist.__hash__", params := a, body := b, scope := s, globals := 3, closure := [], defaults := Value.none, kwdefaults := Value.none, pyModule := Value.str (Str.ofString "cpy313.statistics") 387, code := Value.ref 241 } }
noncomputable def hd03.o_249 : Obj := mkFn (inQ 4 26) rfl fun a b s => { cls := Value.type "function", data := Data.func { name := Str.ofString "__repr__", qualname := Str.ofString "NormalDist.__repr__", params := a, body := b, scope := s, globals := 3, closure := [], defaults := Value.none, kwdefaults := Value.none, pyModule := Value.str (Str.ofString "cpy313.statistics") 387, code := Value.ref 248 } }
noncomputable def hd03.o_256 : Obj := mkFn (inQ 4 27) rfl fun a b s => { cls := Value.type "function", data := Data.func { name := Str.ofString "__getstate__", qualname := Str.ofString "NormalDist.__getstate__", params := a, body := b, scope := s, globals := 3, closure := [], defaults := Value.none, kwdefaults := Value.none, pyModule := Value.str (Str.ofString "cpy313.statistics") 387, code := Value.ref 255 } }
noncomputable def hd03.o_263 : Obj := mkFn (inQ 4 28) rfl fun a b s => { cls := Value.type "function", data := Data.func { name := Str.ofString "__setstate__", qualname := Str.ofString "NormalDist.__setstate__", params := a, body := b, scope := s, globals := 3, closure := [], defaults := Value.none, kwdefaults := Value.none, pyModule := Value.str (Str.ofString "cpy313.statistics") 387, code := Value.ref 262 } }
noncomputable def hd03.o_281 : Obj := mkFn (inP 6) rfl fun a b s => { cls := Value.type "function", data := Data.func { name := Str.ofString "_law_moved", qualname := Str.ofString "_law_moved", params := a, body := b, scope := s, globals := 3, closure := [], defaults := Value.none, kwdefaults := Value.none, pyModule := Value.str (Str.ofString "law_oz0056_03") 659, code := Value.ref 280 } }
noncomputable def hd03.o_288 : Obj := mkFn (inP 7) rfl fun a b s => { cls := Value.type "function", data := Data.func { name := Str.ofString "law", qualname := Str.ofString "law", params := a, body := b, scope := s, globals := 3, closure := [], defaults := Value.none, kwdefaults := Value.none, pyModule := Value.str (Str.ofString "law_oz0056_03") 659, code := Value.ref 287 } }
noncomputable def hd03.heap_39 : Params → Frag := fun P =>
  (nat_lit 2, { cls := Value.none, data := Data.dict #[{ hash := PyData.keyHash P (Str.ofString "\x69mport.loaded.math"), key := Value.str (Str.ofString "\x69mport.loaded.math") 186, val := Value.bool true }, { hash := PyData.keyHash P (Str.ofString "class._frozen_importlib_external._LoaderBasics"), key := Value.str (Str.ofString "class._frozen_importlib_external._LoaderBasics") 191, val := Value.ref 16 }, { hash := PyData.keyHash P (Str.ofString "watched.\x69mport"), key := Value.str (Str.ofString "watched.\x69mport") 207, val := Value.ref 20 }, { hash := PyData.keyHash P (Str.ofString "class._frozen_importlib_external.FileLoader"), key := Value.str (Str.ofString "class._frozen_importlib_external.FileLoader") 208, val := Value.ref 22 }, { hash := PyData.keyHash P (Str.ofString "class._frozen_importlib_external.ExtensionFileLoader"), key := Value.str (Str.ofString "class._frozen_importlib_external.ExtensionFileLoader") 229, val := Value.ref 27 }, { hash := PyData.keyHash P (Str.ofString "class._frozen_importlib.ModuleSpec"), key := Value.str (Str.ofString "class._frozen_importlib.ModuleSpec") 257, val := Value.ref 33 }, { hash := PyData.keyHash P (Str.ofString "sys.modules.booked-epoch"), key := Value.str (Str.ofString "sys.modules.booked-epoch") 286, val := Value.int 3 0 }, { hash := PyData.keyHash P (Str.ofString "\x69mport.later-laid.math"), key := Value.str (Str.ofString "\x69mport.later-laid.math") 362, val := Value.bool true }, { hash := PyData.keyHash P (Str.ofString "watched.library"), key := Value.str (Str.ofString "watched.library") 364, val := Value.ref 38 }, { hash := PyData.keyHash P (Str.ofString "watched.library-objects"), key := Value.str (Str.ofString "watched.library-objects") 0, val := Value.str (Str.ofString "\x0d") 0 }] 10 }) ::
  (nat_lit 3, { cls := Value.type "dict", data := Data.dict #[{ hash := PyData.keyHash P (Str.ofString "__name__"), key := Value.str (Str.ofString "__name__") 165, val := Value.str (Str.ofString "law_oz0056_03") 659 }, { hash := PyData.keyHash P (Str.ofString "__doc__"), key := Value.str (Str.ofString "__doc__") 166, val := Value.none }, { hash := PyData.keyHash P (Str.ofString "__package__"), key := Value.str (Str.ofString "__package__") 167, val := Value.none }, { hash := PyData.keyHash P (Str.ofString "__loader__"), key := Value.str (Str.ofString "__loader__") 168, val := Value.builtin "__main__.__loader__#opaque" }, { hash := PyData.keyHash P (Str.ofString "__spec__"), key := Value.str (Str.ofString "__spec__") 169, val := Value.none }, { hash := PyData.keyHash P (Str.ofString "__annotations__"), key := Value.str (Str.ofString "__annotations__") 170, val := Value.ref 6 }, { hash := PyData.keyHash P (Str.ofString "__builtins__"), key := Value.str (Str.ofString "__builtins__") 171, val := Value.ref 4 }, { hash := PyData.keyHash P (Str.ofString "__file__"), key := Value.str (Str.ofString "__file__") 173, val := Value.str (Str.ofString "/claim/cut.py") 172 }, { hash := PyData.keyHash P (Str.ofString "__cached__"), key := Value.str (Str.ofString "__cached__") 174, val := Value.none }, { hash := PyData.keyHash P (Str.ofString "fabs"), key := Value.str (Str.ofString "fabs") 370, val := Value.builtin "math.fabs" }, { hash := PyData.keyHash P (Str.ofString "hypot"), key := Value.str (Str.ofString "hypot") 373, val := Value.builtin "math.hypot" }, { hash := PyData.keyHash P (Str.ofString "_wall"), key := Value.str (Str.ofString "_wall") 386, val := Value.ref 49 }, { hash := PyData.keyHash P (Str.ofString "StatisticsError"), key := Value.str (Str.ofString "StatisticsError") 406, val := Value.ref 59 }, { hash := PyData.keyHash P (Str.ofString "NormalDist"), key := Value.str (Str.ofString "NormalDist") 658, val := Value.ref 270 }, { hash := PyData.keyHash P (Str.ofString "_law_moved"), key := Value.str (Str.ofString "_law_moved") 668, val := Value.ref 281 }, { hash := PyData.keyHash P (Str.ofString "law"), key := Value.str (Str.ofString "law") 690, val := Value.ref 288 }] 16 }) ::
  (nat_lit 43, { cls := Value.type "tuple", data := Data.seq #[] }) ::
  (nat_lit 45, { cls := Value.type "tuple", data := Data.seq #[Value.str (Str.ofString "k") 383] }) ::
  (nat_lit 46, { cls := Value.type "tuple", data := Data.seq #[] }) ::
  (nat_lit 48, { cls := Value.type "code", data := Data.fields #[Value.str (Str.ofString "_wall") 380, Value.str (Str.ofString "_wall") 381, Value.str (Str.ofString "/claim/cut.py") 382, Value.int 2 0, Value.int 1 0, Value.int 0 0, Value.int 0 0, Value.int 3 0, Value.ref 43, Value.bool true, Value.int 374 0, Value.ref 44, Value.none, Value.ref 45, Value.ref 46, Value.ref 47, Value.int 384 0, Value.int 2 0, Value.str (Str.ofString "/claim/cut.py") 385] }) ::
  (nat_lit 49, hd03.o_49) ::
  (nat_lit 50, { cls := Value.type "tuple", data := Data.seq #[Value.type "ValueError"] }) ::
  (nat_lit 57, { cls := Value.type "tuple", data := Data.seq #[] }) ::
  (nat_lit 58, { cls := Value.type "dict", data := Data.dict #[{ hash := PyData.keyHash P (Str.ofString "__module__"), key := Value.str (Str.ofString "__module__") 396, val := Value.str (Str.ofString "cpy313.statistics") 387 }, { hash := PyData.keyHash P (Str.ofString "__firstlineno__"), key := Value.str (Str.ofString "__firstlineno__") 400, val := Value.int 6 399 }, { hash := PyData.keyHash P (Str.ofString "__static_attributes__"), key := Value.str (Str.ofString "__static_attributes__") 401, val := Value.ref 57 }, { hash := PyData.keyHash P (Str.ofString "__weakref__"), key := Value.str (Str.ofString "__weakref__") 403, val := Value.ref 60 }, { hash := PyData.keyHash P (Str.ofString "__doc__"), key := Value.str (Str.ofString "__doc__") 404, val := Value.none }] 3 }) ::
  (nat_lit 59, { cls := Value.type "type", data := Data.cls { name := Str.ofString "StatisticsError", bases := [Value.type "ValueError"], mro := [Value.ref 59, Value.type "ValueError", Value.type "Exception", Value.type "BaseException", Value.type "object"], ns := 58, qualname := Str.ofString "StatisticsError" }, slots := #[some (Value.ref 50), none, some (Value.str (Str.ofString "StatisticsError") 389), some (Value.str (Str.ofString "StatisticsError") 397), some (Value.builtin "ValueError.__new__"), some (Value.bool true)] }) ::
  (nat_lit 60, { cls := Value.type "getset_descriptor", data := Data.fields #[Value.str (Str.ofString "__weakref__") 402, Value.ref 59, Value.builtin "ExceptionGroup.__weakref__", Value.none] }) ::
  (nat_lit 70, { cls := Value.type "dict", data := Data.dict #[{ hash := PyData.keyHash P (Str.ofString "_mu"), key := Value.str (Str.ofString "_mu") 419, val := Value.str (Str.ofString "Arithmetic mean of a normal distribution") 420 }, { hash := PyData.keyHash P (Str.ofString "_sigma"), key := Value.str (Str.ofString "_sigma") 421, val := Value.str (Str.ofString "Standard deviation of a normal distribution") 422 }] 2 }) ::
  (nat_lit 71, { cls := Value.type "tuple", data := Data.seq #[Value.float 0 426, Value.float 4607182418800017408 427] }) ::
  (nat_lit 72, { cls := Value.type "tuple", data := Data.seq #[] }) ::
  (nat_lit 74, { cls := Value.type "tuple", data := Data.seq #[Value.str (Str.ofString "self") 431, Value.str (Str.ofString "mu") 432, Value.str (Str.ofString "sigma") 433] }) ::
  (nat_lit 75, { cls := Value.type "tuple", data := Data.seq #[] }) ::
  (nat_lit 77, { cls := Value.type "code", data := Data.fields #[Value.str (Str.ofString "__init__") 428, Value.str (Str.ofString "NormalDist.__init__") 429, Value.str (Str.ofString "/claim/cut.py") 430, Value.int 11 0, Value.int 3 0, Value.int 0 0, Value.int 0 0, Value.int 3 0, Value.ref 72, Value.bool true, Value.int 374 0, Value.ref 73, Value.none, Value.ref 74, Value.ref 75, Value.ref 76, Value.int 434 0, Value.int 11 0, Value.str (Str.ofString "/claim/cut.py") 435] }) ::
  (nat_lit 78, hd03.o_78) ::
  (nat_lit 79, { cls := Value.type "tuple", data := Data.seq #[] }) ::
  (nat_lit 81, { cls := Value.type "tuple", data := Data.seq #[Value.str (Str.ofString "cls") 440, Value.str (Str.ofString "data") 441] }) ::
  (nat_lit 82, { cls := Value.type "tuple", data := Data.seq #[] }) ::
  (nat_lit 84, { cls := Value.type "code", data := Data.fields #[Value.str (Str.ofString "from_samples") 437, Value.str (Str.ofString "NormalDist.from_samples") 438, Value.str (Str.ofString "/claim/cut.py") 439, Value.int 17 0, Value.int 2 0, Value.int 0 0, Value.int 0 0, Value.int 3 0, Value.ref 79, Value.bool true, Value.int 374 0, Value.ref 80, Value.none, Value.ref 81, Value.ref 82, Value.ref 83, Value.int 442 0, Value.int 17 0, Value.str (Str.ofString "/claim/cut.py") 443] }) ::
  (nat_lit 85, hd03.o_85) ::
  (nat_lit 86, { cls := Value.type "dict", data := Data.dict #[{ hash := PyData.keyHash P (Str.ofString "__module__"), key := Value.str (Str.ofString "__module__") 445, val := Value.str (Str.ofString "cpy313.statistics") 387 }, { hash := PyData.keyHash P (Str.ofString "__name__"), key := Value.str (Str.ofString "__name__") 448, val := Value.str (Str.ofString "from_samples") 447 }, { hash := PyData.keyHash P (Str.ofString "__qualname__"), key := Value.str (Str.ofString "__qualname__") 451, val := Value.str (Str.ofString "NormalDist.from_samples") 450 }, { hash := PyData.keyHash P (Str.ofString "__doc__"), key := Value.str (Str.ofString "__doc__") 453, val := Value.none }, { hash := PyData.keyHash P (Str.ofString "__annotations__"), key := Value.str (Str.ofString "__annotations__") 455, val := Value.ref 88 }] 5 }) ::
  (nat_lit 87, { cls := Value.type "classmethod", dict := some 86, data := Data.fields #[Value.ref 85, Value.bool false] }) ::
  (nat_lit 88, { cls := Value.type "dict", data := Data.dict #[] }) ::
  (nat_lit 89, { cls := Value.type "dict", data := Data.dict #[{ hash := PyData.keyHash P (Str.ofString "seed"), key := Value.str (Str.ofString "seed") 457, val := Value.none }] 1 }) ::
  (nat_lit 90, { cls := Value.type "tuple", data := Data.seq #[] }) ::
  (nat_lit 92, { cls := Value.type "tuple", data := Data.seq #[Value.str (Str.ofString "self") 461, Value.str (Str.ofString "n") 462, Value.str (Str.ofString "seed") 463] }) ::
  (nat_lit 93, { cls := Value.type "tuple", data := Data.seq #[] }) ::
  (nat_lit 95, { cls := Value.type "code", data := Data.fields #[Value.str (Str.ofString "samples") 458, Value.str (Str.ofString "NormalDist.samples") 459, Value.str (Str.ofString "/claim/cut.py") 460, Value.int 21 0, Value.int 2 0, Value.int 0 0, Value.int 1 0, Value.int 3 0, Value.ref 90, Value.bool true, Value.int 374 0, Value.ref 91, Value.none, Value.ref 92, Value.ref 93, Value.ref 94, Value.int 464 0, Value.int 21 0, Value.str (Str.ofString "/claim/cut.py") 465] }) ::
  (nat_lit 96, hd03.o_96) ::
  (nat_lit 97, { cls := Value.type "tuple", data := Data.seq #[] }) ::
  (nat_lit 99, { cls := Value.type "tuple", data := Data.seq #[Value.str (Str.ofString "self") 470, Value.str (Str.ofString "x") 471] }) ::
  (nat_lit 100, { cls := Value.type "tuple", data := Data.seq #[] }) ::
  (nat_lit 102, { cls := Value.type "code", data := Data.fields #[Value.str (Str.ofString "pdf") 467, Value.str (Str.ofString "NormalDist.pdf") 468, Value.str (Str.ofString "/claim/cut.py") 469, Value.int 24 0, Value.int 2 0, Value.int 0 0, Value.int 0 0, Value.int 3 0, Value.ref 97, Value.bool true, Value.int 374 0, Value.ref 98, Value.none, Value.ref 99, Value.ref 100, Value.ref 101, Value.int 472 0, Value.int 24 0, Value.str (Str.ofString "/claim/cut.py") 473] }) ::
  (nat_lit 103, hd03.o_103) ::
  (nat_lit 104, { cls := Value.type "tuple", data := Data.seq #[] }) ::
  (nat_lit 106, { cls := Value.type "tuple", data := Data.seq #[Value.str (Str.ofString "self") 478, Value.str (Str.ofString "x") 479] }) ::
  (nat_lit 107, { cls := Value.type "tuple", data := Data.seq #[] }) ::
  (nat_lit 109, { cls := Value.type "code", data := Data.fields #[Value.str (Str.ofString "cdf") 475, Value.str (Str.ofString "NormalDist.cdf") 476, Value.str (Str.ofString "/claim/cut.py") 477, Value.int 27 0, Value.int 2 0, Value.int 0 0, Value.int 0 0, Value.int 3 0, Value.ref 104, Value.bool true, Value.int 374 0, Value.ref 105, Value.none, Value.ref 106, Value.ref 107, Value.ref 108, Value.int 480 0, Value.int 27 0, Value.str (Str.ofString "/claim/cut.py") 481] }) ::
  (nat_lit 110, hd03.o_110) ::
  (nat_lit 111, { cls := Value.type "tuple", data := Data.seq #[] }) ::
  (nat_lit 113, { cls := Value.type "tuple", data := Data.seq #[Value.str (Str.ofString "self") 486, Value.str (Str.ofString "p") 487] }) ::
  (nat_lit 114, { cls := Value.type "tuple", data := Data.seq #[] }) ::
  (nat_lit 116, { cls := Value.type "code", data := Data.fields #[Value.str (Str.ofString "inv_cdf") 483, Value.str (Str.ofString "NormalDist.inv_cdf") 484, Value.str (Str.ofString "/claim/cut.py") 485, Value.int 30 0, Value.int 2 0, Value.int 0 0, Value.int 0 0, Value.int 3 0, Value.ref 111, Value.bool true, Value.int 374 0, Value.ref 112, Value.none, Value.ref 113, Value.ref 114, Value.ref 115, Value.int 488 0, Value.int 30 0, Value.str (Str.ofString "/claim/cut.py") 489] }) ::
  (nat_lit 117, hd03.o_117) ::
  (nat_lit 118, { cls := Value.type "tuple", data := Data.seq #[Value.int 4 491] }) ::
  (nat_lit 119, { cls := Value.type "tuple", data := Data.seq #[] }) ::
  (nat_lit 121, { cls := Value.type "tuple", data := Data.seq #[Value.str (Str.ofString "self") 495, Value.str (Str.ofString "n") 496] }) ::
  (nat_lit 122, { cls := Value.type "tuple", data := Data.seq #[] }) ::
  (nat_lit 124, { cls := Value.type "code", data := Data.fields #[Value.str (Str.ofString "quantiles") 492, Value.str (Str.ofString "NormalDist.quantiles") 493, Value.str (Str.ofString "/claim/cut.py") 494, Value.int 33 0, Value.int 2 0, Value.int 0 0, Value.int 0 0, Value.int 3 0, Value.ref 119, Value.bool true, Value.int 374 0, Value.ref 120, Value.none, Value.ref 121, Value.ref 122, Value.ref 123, Value.int 497 0, Value.int 33 0, Value.str (Str.ofString "/claim/cut.py") 498] }) ::
  (nat_lit 125, hd03.o_125) ::
  (nat_lit 126, { cls := Value.type "tuple", data := Data.seq #[] }) ::
  (nat_lit 128, { cls := Value.type "tuple", data := Data.seq #[Value.str (Str.ofString "self") 503, Value.str (Str.ofString "other") 504] }) ::
  (nat_lit 129, { cls := Value.type "tuple", data := Data.seq #[] }) ::
  (nat_lit 131, { cls := Value.type "code", data := Data.fields #[Value.str (Str.ofString "overlap") 500, Value.str (Str.ofString "NormalDist.overlap") 501, Value.str (Str.ofString "/claim/cut.py") 502, Value.int 36 0, Value.int 2 0, Value.int 0 0, Value.int 0 0, Value.int 3 0, Value.ref 126, Value.bool true, Value.int 374 0, Value.ref 127, Value.none, Value.ref 128, Value.ref 129, Value.ref 130, Value.int 505 0, Value.int 36 0, Value.str (Str.ofString "/claim/cut.py") 506] }) ::
  (nat_lit 132, hd03.o_132) ::
  (nat_lit 133, { cls := Value.type "tuple", data := Data.seq #[] }) ::
  (nat_lit 135, { cls := Value.type "tuple", data := Data.seq #[Value.str (Str.ofString "self") 511, Value.str (Str.ofString "x") 512] }) ::
  (nat_lit 136, { cls := Value.type "tuple", data := Data.seq #[] }) ::
  (nat_lit 138, { cls := Value.type "code", data := Data.fields #[Value.str (Str.ofString "zscore") 508, Value.str (Str.ofString "NormalDist.zscore") 509, Value.str (Str.ofString "/claim/cut.py") 510, Value.int 39 0, Value.int 2 0, Value.int 0 0, Value.int 0 0, Value.int 3 0, Value.ref 133, Value.bool true, Value.int 374 0, Value.ref 134, Value.none, Value.ref 135, Value.ref 136, Value.ref 137, Value.int 513 0, Value.int 39 0, Value.str (Str.ofString "/claim/cut.py") 514] }) ::
  (nat_lit 139, hd03.o_139) ::
  (nat_lit 140, { cls := Value.type "tuple", data := Data.seq #[] }) ::
  (nat_lit 142, { cls := Value.type "tuple", data := Data.seq #[Value.str (Str.ofString "self") 519] }) ::
  (nat_lit 143, { cls := Value.type "tuple", data := Data.seq #[] }) ::
  (nat_lit 145, { cls := Value.type "code", data := Data.fields #[Value.str (Str.ofString "mean") 516, Value.str (Str.ofString "NormalDist.mean") 517, Value.str (Str.ofString "/claim/cut.py") 518, Value.int 42 0, Value.int 1 0, Value.int 0 0, Value.int 0 0, Value.int 3 0, Value.ref 140, Value.bool true, Value.int 374 0, Value.ref 141, Value.none, Value.ref 142, Value.ref 143, Value.ref 144, Value.int 520 0, Value.int 42 0, Value.str (Str.ofString "/claim/cut.py") 521] }) ::
  (nat_lit 146, hd03.o_146) ::
  (nat_lit 147, { cls := Value.type "property", data := Data.fields #[Value.ref 146, Value.none, Value.none, Value.none, Value.str (Str.ofString "mean") 523, Value.bool false] }) ::
  (nat_lit 148, { cls := Value.type "tuple", data := Data.seq #[] }) ::
  (nat_lit 150, { cls := Value.type "tuple", data := Data.seq #[Value.str (Str.ofString "self") 527] }) ::
  (nat_lit 151, { cls := Value.type "tuple", data := Data.seq #[] }) ::
  (nat_lit 153, { cls := Value.type "code", data := Data.fields #[Value.str (Str.ofString "median") 524, Value.str (Str.ofString "NormalDist.median") 525, Value.str (Str.ofString "/claim/cut.py") 526, Value.int 46 0, Value.int 1 0, Value.int 0 0, Value.int 0 0, Value.int 3 0, Value.ref 148, Value.bool true, Value.int 374 0, Value.ref 149, Value.none, Value.ref 150, Value.ref 151, Value.ref 152, Value.int 528 0, Value.int 46 0, Value.str (Str.ofString "/claim/cut.py") 529] }) ::
  (nat_lit 154, hd03.o_154) ::
  (nat_lit 155, { cls := Value.type "property", data := Data.fields #[Value.ref 154, Value.none, Value.none, Value.none, Value.str (Str.ofString "median") 531, Value.bool false] }) ::
  (nat_lit 156, { cls := Value.type "tuple", data := Data.seq #[] }) ::
  (nat_lit 158, { cls := Value.type "tuple", data := Data.seq #[Value.str (Str.ofString "self") 535] }) ::
  (nat_lit 159, { cls := Value.type "tuple", data := Data.seq #[] }) ::
  (nat_lit 161, { cls := Value.type "code", data := Data.fields #[Value.str (Str.ofString "mode") 532, Value.str (Str.ofString "NormalDist.mode") 533, Value.str (Str.ofString "/claim/cut.py") 534, Value.int 50 0, Value.int 1 0, Value.int 0 0, Value.int 0 0, Value.int 3 0, Value.ref 156, Value.bool true, Value.int 374 0, Value.ref 157, Value.none, Value.ref 158, Value.ref 159, Value.ref 160, Value.int 536 0, Value.int 50 0, Value.str (Str.ofString "/claim/cut.py") 537] }) ::
  (nat_lit 162, hd03.o_162) ::
  (nat_lit 163, { cls := Value.type "property", data := Data.fields #[Value.ref 162, Value.none, Value.none, Value.none, Value.str (Str.ofString "mode") 539, Value.bool false] }) ::
  (nat_lit 164, { cls := Value.type "tuple", data := Data.seq #[] }) ::
  (nat_lit 166, { cls := Value.type "tuple", data := Data.seq #[Value.str (Str.ofString "self") 543] }) ::
  (nat_lit 167, { cls := Value.type "tuple", data := Data.seq #[] }) ::
  (nat_lit 169, { cls := Value.type "code", data := Data.fields #[Value.str (Str.ofString "stdev") 540, Value.str (Str.ofString "NormalDist.stdev") 541, Value.str (Str.ofString "/claim/cut.py") 542, Value.int 54 0, Value.int 1 0, Value.int 0 0, Value.int 0 0, Value.int 3 0, Value.ref 164, Value.bool true, Value.int 374 0, Value.ref 165, Value.none, Value.ref 166, Value.ref 167, Value.ref 168, Value.int 544 0, Value.int 54 0, Value.str (Str.ofString "/claim/cut.py") 545] }) ::
  (nat_lit 170, hd03.o_170) ::
  (nat_lit 171, { cls := Value.type "property", data := Data.fields #[Value.ref 170, Value.none, Value.none, Value.none, Value.str (Str.ofString "stdev") 547, Value.bool false] }) ::
  (nat_lit 172, { cls := Value.type "tuple", data := Data.seq #[] }) ::
  (nat_lit 174, { cls := Value.type "tuple", data := Data.seq #[Value.str (Str.ofString "self") 551] }) ::
  (nat_lit 175, { cls := Value.type "tuple", data := Data.seq #[] }) ::
  (nat_lit 177, { cls := Value.type "code", data := Data.fields #[Value.str (Str.ofString "variance") 548, Value.str (Str.ofString "NormalDist.variance") 549, Value.str (Str.ofString "/claim/cut.py") 550, Value.int 58 0, Value.int 1 0, Value.int 0 0, Value.int 0 0, Value.int 3 0, Value.ref 172, Value.bool true, Value.int 374 0, Value.ref 173, Value.none, Value.ref 174, Value.ref 175, Value.ref 176, Value.int 552 0, Value.int 58 0, Value.str (Str.ofString "/claim/cut.py") 553] }) ::
  (nat_lit 178, hd03.o_178) ::
  (nat_lit 179, { cls := Value.type "property", data := Data.fields #[Value.ref 178, Value.none, Value.none, Value.none, Value.str (Str.ofString "variance") 555, Value.bool false] }) ::
  (nat_lit 180, { cls := Value.type "tuple", data := Data.seq #[] }) ::
  (nat_lit 182, { cls := Value.type "tuple", data := Data.seq #[Value.str (Str.ofString "x1") 559, Value.str (Str.ofString "x2") 560] }) ::
  (nat_lit 183, { cls := Value.type "tuple", data := Data.seq #[] }) ::
  (nat_lit 185, { cls := Value.type "code", data := Data.fields #[Value.str (Str.ofString "__add__") 556, Value.str (Str.ofString "NormalDist.__add__") 557, Value.str (Str.ofString "/claim/cut.py") 558, Value.int 62 0, Value.int 2 0, Value.int 0 0, Value.int 0 0, Value.int 3 0, Value.ref 180, Value.bool true, Value.int 374 0, Value.ref 181, Value.none, Value.ref 182, Value.ref 183, Value.ref 184, Value.int 561 0, Value.int 62 0, Value.str (Str.ofString "/claim/cut.py") 562] }) ::
  (nat_lit 186, hd03.o_186) ::
  (nat_lit 187, { cls := Value.type "tuple", data := Data.seq #[] }) ::
  (nat_lit 189, { cls := Value.type "tuple", data := Data.seq #[Value.str (Str.ofString "x1") 567, Value.str (Str.ofString "x2") 568] }) ::
  (nat_lit 190, { cls := Value.type "tuple", data := Data.seq #[] }) ::
  (nat_lit 192, { cls := Value.type "code", data := Data.fields #[Value.str (Str.ofString "__sub__") 564, Value.str (Str.ofString "NormalDist.__sub__") 565, Value.str (Str.ofString "/claim/cut.py") 566, Value.int 67 0, Value.int 2 0, Value.int 0 0, Value.int 0 0, Value.int 3 0, Value.ref 187, Value.bool true, Value.int 374 0, Value.ref 188, Value.none, Value.ref 189, Value.ref 190, Value.ref 191, Value.int 569 0, Value.int 67 0, Value.str (Str.ofString "/claim/cut.py") 570] }) ::
  (nat_lit 193, hd03.o_193) ::
  (nat_lit 194, { cls := Value.type "tuple", data := Data.seq #[] }) ::
  (nat_lit 196, { cls := Value.type "tuple", data := Data.seq #[Value.str (Str.ofString "x1") 575, Value.str (Str.ofString "x2") 576] }) ::
  (nat_lit 197, { cls := Value.type "tuple", data := Data.seq #[] }) ::
  (nat_lit 199, { cls := Value.type "code", data := Data.fields #[Value.str (Str.ofString "__mul__") 572, Value.str (Str.ofString "NormalDist.__mul__") 573, Value.str (Str.ofString "/claim/cut.py") 574, Value.int 72 0, Value.int 2 0, Value.int 0 0, Value.int 0 0, Value.int 3 0, Value.ref 194, Value.bool true, Value.int 374 0, Value.ref 195, Value.none, Value.ref 196, Value.ref 197, Value.ref 198, Value.int 577 0, Value.int 72 0, Value.str (Str.ofString "/claim/cut.py") 578] }) ::
  (nat_lit 200, hd03.o_200) ::
  (nat_lit 201, { cls := Value.type "tuple", data := Data.seq #[] }) ::
  (nat_lit 203, { cls := Value.type "tuple", data := Data.seq #[Value.str (Str.ofString "x1") 583, Value.str (Str.ofString "x2") 584] }) ::
  (nat_lit 204, { cls := Value.type "tuple", data := Data.seq #[] }) ::
  (nat_lit 206, { cls := Value.type "code", data := Data.fields #[Value.str (Str.ofString "__truediv__") 580, Value.str (Str.ofString "NormalDist.__truediv__") 581, Value.str (Str.ofString "/claim/cut.py") 582, Value.int 75 0, Value.int 2 0, Value.int 0 0, Value.int 0 0, Value.int 3 0, Value.ref 201, Value.bool true, Value.int 374 0, Value.ref 202, Value.none, Value.ref 203, Value.ref 204, Value.ref 205, Value.int 585 0, Value.int 75 0, Value.str (Str.ofString "/claim/cut.py") 586] }) ::
  (nat_lit 207, hd03.o_207) ::
  (nat_lit 208, { cls := Value.type "tuple", data := Data.seq #[] }) ::
  (nat_lit 210, { cls := Value.type "tuple", data := Data.seq #[Value.str (Str.ofString "x1") 591] }) ::
  (nat_lit 211, { cls := Value.type "tuple", data := Data.seq #[] }) ::
  (nat_lit 213, { cls := Value.type "code", data := Data.fields #[Value.str (Str.ofString "__pos__") 588, Value.str (Str.ofString "NormalDist.__pos__") 589, Value.str (Str.ofString "/claim/cut.py") 590, Value.int 78 0, Value.int 1 0, Value.int 0 0, Value.int 0 0, Value.int 3 0, Value.ref 208, Value.bool true, Value.int 374 0, Value.ref 209, Value.none, Value.ref 210, Value.ref 211, Value.ref 212, Value.int 592 0, Value.int 78 0, Value.str (Str.ofString "/claim/cut.py") 593] }) ::
  (nat_lit 214, hd03.o_214) ::
  (nat_lit 215, { cls := Value.type "tuple", data := Data.seq #[] }) ::
  (nat_lit 217, { cls := Value.type "tuple", data := Data.seq #[Value.str (Str.ofString "x1") 598] }) ::
  (nat_lit 218, { cls := Value.type "tuple", data := Data.seq #[] }) ::
  (nat_lit 220, { cls := Value.type "code", data := Data.fields #[Value.str (Str.ofString "__neg__") 595, Value.str (Str.ofString "NormalDist.__neg__") 596, Value.str (Str.ofString "/claim/cut.py") 597, Value.int 81 0, Value.int 1 0, Value.int 0 0, Value.int 0 0, Value.int 3 0, Value.ref 215, Value.bool true, Value.int 374 0, Value.ref 216, Value.none, Value.ref 217, Value.ref 218, Value.ref 219, Value.int 599 0, Value.int 81 0, Value.str (Str.ofString "/claim/cut.py") 600] }) ::
  (nat_lit 221, hd03.o_221) ::
  (nat_lit 222, { cls := Value.type "tuple", data := Data.seq #[] }) ::
  (nat_lit 224, { cls := Value.type "tuple", data := Data.seq #[Value.str (Str.ofString "x1") 606, Value.str (Str.ofString "x2") 607] }) ::
  (nat_lit 225, { cls := Value.type "tuple", data := Data.seq #[] }) ::
  (nat_lit 227, { cls := Value.type "code", data := Data.fields #[Value.str (Str.ofString "__rsub__") 603, Value.str (Str.ofString "NormalDist.__rsub__") 604, Value.str (Str.ofString "/claim/cut.py") 605, Value.int 85 0, Value.int 2 0, Value.int 0 0, Value.int 0 0, Value.int 3 0, Value.ref 222, Value.bool true, Value.int 374 0, Value.ref 223, Value.none, Value.ref 224, Value.ref 225, Value.ref 226, Value.int 608 0, Value.int 85 0, Value.str (Str.ofString "/claim/cut.py") 609] }) ::
  (nat_lit 228, hd03.o_228) ::
  (nat_lit 229, { cls := Value.type "tuple", data := Data.seq #[] }) ::
  (nat_lit 231, { cls := Value.type "tuple", data := Data.seq #[Value.str (Str.ofString "x1") 615, Value.str (Str.ofString "x2") 616] }) ::
  (nat_lit 232, { cls := Value.type "tuple", data := Data.seq #[] }) ::
  (nat_lit 234, { cls := Value.type "code", data := Data.fields #[Value.str (Str.ofString "__eq__") 612, Value.str (Str.ofString "NormalDist.__eq__") 613, Value.str (Str.ofString "/claim/cut.py") 614, Value.int 89 0, Value.int 2 0, Value.int 0 0, Value.int 0 0, Value.int 3 0, Value.ref 229, Value.bool true, Value.int 374 0, Value.ref 230, Value.none, Value.ref 231, Value.ref 232, Value.ref 233, Value.int 617 0, Value.int 89 0, Value.str (Str.ofString "/claim/cut.py") 618] }) ::
  (nat_lit 235, hd03.o_235) ::
  (nat_lit 236, { cls := Value.type "tuple", data := Data.seq #[] }) ::
  (nat_lit 238, { cls := Value.type "tuple", data := Data.seq #[Value.str (Str.ofString "self") 623] }) ::
  (nat_lit 239, { cls := Value.type "tuple", data := Data.seq #[] }) ::
  (nat_lit 241, { cls := Value.type "code", data := Data.fields #[Value.str (Str.ofString "__hash__") 620, Value.str (Str.ofString "NormalDist.__hash__") 621, Value.str (Str.ofString "/claim/cut.py") 622, Value.int 94 0, Value.int 1 0, Value.int 0 0, Value.int 0 0, Value.int 3 0, Value.ref 236, Value.bool true, Value.int 374 0, Value.ref 237, Value.none, Value.ref 238, Value.ref 239, Value.ref 240, Value.int 624 0, Value.int 94 0, Value.str (Str.ofString "/claim/cut.py") 625] }) ::
  (nat_lit 242, hd03.o_242) ::
  (nat_lit 243, { cls := Value.type "tuple", data := Data.seq #[] }) ::
  (nat_lit 245, { cls := Value.type "tuple", data := Data.seq #[Value.str (Str.ofString "self") 630] }) ::
  (nat_lit 246, { cls := Value.type "tuple", data := Data.seq #[] }) ::
  (nat_lit 248, { cls := Value.type "code", data := Data.fields #[Value.str (Str.ofString "__repr__") 627, Value.str (Str.ofString "NormalDist.__repr__") 628, Value.str (Str.ofString "/claim/cut.py") 629, Value.int 97 0, Value.int 1 0, Value.int 0 0, Value.int 0 0, Value.int 3 0, Value.ref 243, Value.bool true, Value.int 374 0, Value.ref 244, Value.none, Value.ref 245, Value.ref 246, Value.ref 247, Value.int 631 0, Value.int 97 0, Value.str (Str.ofString "/claim/cut.py") 632] }) ::
  (nat_lit 249, hd03.o_249) ::
  (nat_lit 250, { cls := Value.type "tuple", data := Data.seq #[] }) ::
  (nat_lit 252, { cls := Value.type "tuple", data := Data.seq #[Value.str (Str.ofString "self") 637] }) ::
  (nat_lit 253, { cls := Value.type "tuple", data := Data.seq #[] }) ::
  (nat_lit 255, { cls := Value.type "code", data := Data.fields #[Value.str (Str.ofString "__getstate__") 634, Value.str (Str.ofString "NormalDist.__getstate__") 635, Value.str (Str.ofString "/claim/cut.py") 636, Value.int 100 0, Value.int 1 0, Value.int 0 0, Value.int 0 0, Value.int 3 0, Value.ref 250, Value.bool true, Value.int 374 0, Value.ref 251, Value.none, Value.ref 252, Value.ref 253, Value.ref 254, Value.int 638 0, Value.int 100 0, Value.str (Str.ofString "/claim/cut.py") 639] }) ::
  (nat_lit 256, hd03.o_256) ::
  (nat_lit 257, { cls := Value.type "tuple", data := Data.seq #[] }) ::
  (nat_lit 259, { cls := Value.type "tuple", data := Data.seq #[Value.str (Str.ofString "self") 644, Value.str (Str.ofString "state") 645] }) ::
  (nat_lit 260, { cls := Value.type "tuple", data := Data.seq #[] }) ::
  (nat_lit 262, { cls := Value.type "code", data := Data.fields #[Value.str (Str.ofString "__setstate__") 641, Value.str (Str.ofString "NormalDist.__setstate__") 642, Value.str (Str.ofString "/claim/cut.py") 643, Value.int 103 0, Value.int 2 0, Value.int 0 0, Value.int 0 0, Value.int 3 0, Value.ref 257, Value.bool true, Value.int 374 0, Value.ref 258, Value.none, Value.ref 259, Value.ref 260, Value.ref 261, Value.int 646 0, Value.int 103 0, Value.str (Str.ofString "/claim/cut.py") 647] }) ::
  (nat_lit 263, hd03.o_263) ::
  (nat_lit 264, { cls := Value.type "tuple", data := Data.seq #[Value.str (Str.ofString "_mu") 649, Value.str (Str.ofString "_sigma") 650] }) ::
  (nat_lit 269, { cls := Value.type "dict", data := Data.dict #[{ hash := PyData.keyHash P (Str.ofString "__module__"), key := Value.str (Str.ofString "__module__") 414, val := Value.str (Str.ofString "cpy313.statistics") 387 }, { hash := PyData.keyHash P (Str.ofString "__firstlineno__"), key := Value.str (Str.ofString "__firstlineno__") 418, val := Value.int 8 417 }, { hash := PyData.keyHash P (Str.ofString "__slots__"), key := Value.str (Str.ofString "__slots__") 425, val := Value.ref 70 }, { hash := PyData.keyHash P (Str.ofString "__init__"), key := Value.str (Str.ofString "__init__") 436, val := Value.ref 78 }, { hash := PyData.keyHash P (Str.ofString "from_samples"), key := Value.str (Str.ofString "from_samples") 456, val := Value.ref 87 }, { hash := PyData.keyHash P (Str.ofString "samples"), key := Value.str (Str.ofString "samples") 466, val := Value.ref 96 }, { hash := PyData.keyHash P (Str.ofString "pdf"), key := Value.str (Str.ofString "pdf") 474, val := Value.ref 103 }, { hash := PyData.keyHash P (Str.ofString "cdf"), key := Value.str (Str.ofString "cdf") 482, val := Value.ref 110 }, { hash := PyData.keyHash P (Str.ofString "inv_cdf"), key := Value.str (Str.ofString "inv_cdf") 490, val := Value.ref 117 }, { hash := PyData.keyHash P (Str.ofString "quantiles"), key := Value.str (Str.ofString "quantiles") 499, val := Value.ref 125 }, { hash := PyData.keyHash P (Str.ofString "overlap"), key := Value.str (Str.ofString "overlap") 507, val := Value.ref 132 }, { hash := PyData.keyHash P (Str.ofString "zscore"), key := Value.str (Str.ofString "zscore") 515, val := Value.ref 139 }, { hash := PyData.keyHash P (Str.ofString "mean"), key := Value.str (Str.ofString "mean") 523, val := Value.ref 147 }, { hash := PyData.keyHash P (Str.ofString "median"), key := Value.str (Str.ofString "median") 531, val := Value.ref 155 }, { hash := PyData.keyHash P (Str.ofString "mode"), key := Value.str (Str.ofString "mode") 539, val := Value.ref 163 }, { hash := PyData.keyHash P (Str.ofString "stdev"), key := Value.str (Str.ofString "stdev") 547, val := Value.ref 171 }, { hash := PyData.keyHash P (Str.ofString "variance"), key := Value.str (Str.ofString "variance") 555, val := Value.ref 179 }, { hash := PyData.keyHash P (Str.ofString "__add__"), key := Value.str (Str.ofString "__add__") 563, val := Value.ref 186 }, { hash := PyData.keyHash P (Str.ofString "__sub__"), key := Value.str (Str.ofString "__sub__") 571, val := Value.ref 193 }, { hash := PyData.keyHash P (Str.ofString "__mul__"), key := Value.str (Str.ofString "__mul__") 579, val := Value.ref 200 }, { hash := PyData.keyHash P (Str.ofString "__truediv__"), key := Value.str (Str.ofString "__truediv__") 587, val := Value.ref 207 }, { hash := PyData.keyHash P (Str.ofString "__pos__"), key := Value.str (Str.ofString "__pos__") 594, val := Value.ref 214 }, { hash := PyData.keyHash P (Str.ofString "__neg__"), key := Value.str (Str.ofString "__neg__") 601, val := Value.ref 221 }, { hash := PyData.keyHash P (Str.ofString "__radd__"), key := Value.str (Str.ofString "__radd__") 602, val := Value.ref 186 }, { hash := PyData.keyHash P (Str.ofString "__rsub__"), key := Value.str (Str.ofString "__rsub__") 610, val := Value.ref 228 }, { hash := PyData.keyHash P (Str.ofString "__rmul__"), key := Value.str (Str.ofString "__rmul__") 611, val := Value.ref 200 }, { hash := PyData.keyHash P (Str.ofString "__eq__"), key := Value.str (Str.ofString "__eq__") 619, val := Value.ref 235 }, { hash := PyData.keyHash P (Str.ofString "__hash__"), key := Value.str (Str.ofString "__hash__") 626, val := Value.ref 242 }, { hash := PyData.keyHash P (Str.ofString "__repr__"), key := Value.str (Str.ofString "__repr__") 633, val := Value.ref 249 }, { hash := PyData.keyHash P (Str.ofString "__getstate__"), key := Value.str (Str.ofString "__getstate__") 640, val := Value.ref 256 }, { hash := PyData.keyHash P (Str.ofString "__setstate__"), key := Value.str (Str.ofString "__setstate__") 648, val := Value.ref 263 }, { hash := PyData.keyHash P (Str.ofString "__static_attributes__"), key := Value.str (Str.ofString "__static_attributes__") 651, val := Value.ref 264 }, { hash := PyData.keyHash P (Str.ofString "_mu"), key := Value.str (Str.ofString "_mu") 653, val := Value.ref 271 }, { hash := PyData.keyHash P (Str.ofString "_sigma"), key := Value.str (Str.ofString "_sigma") 655, val := Value.ref 272 }, { hash := PyData.keyHash P (Str.ofString "__doc__"), key := Value.str (Str.ofString "__doc__") 656, val := Value.none }] 4 }) ::
  (nat_lit 270, { cls := Value.type "type", data := Data.cls { name := Str.ofString "NormalDist", bases := [Value.type "object"], mro := [Value.ref 270, Value.type "object"], ns := 269, qualname := Str.ofString "NormalDist", hasDict := false, slotNames := [Str.ofString "_mu", Str.ofString "_sigma"] }, slots := #[none, none, some (Value.str (Str.ofString "NormalDist") 407), some (Value.str (Str.ofString "NormalDist") 415), some (Value.builtin "object.__new__"), some (Value.bool false)] }) ::
  (nat_lit 271, { cls := Value.type "member_descriptor", data := Data.fields #[Value.str (Str.ofString "_mu") 652, Value.ref 270, Value.builtin "proto.slot", Value.builtin "proto.slot#set", Value.int 1 0] }) ::
  (nat_lit 272, { cls := Value.type "member_descriptor", data := Data.fields #[Value.str (Str.ofString "_sigma") 654, Value.ref 270, Value.builtin "proto.slot", Value.builtin "proto.slot#set", Value.int 0 0] }) ::
  (nat_lit 275, { cls := Value.type "tuple", data := Data.seq #[] }) ::
  (nat_lit 277, { cls := Value.type "tuple", data := Data.seq #[Value.str (Str.ofString "number") 664, Value.str (Str.ofString "places") 665] }) ::
  (nat_lit 278, { cls := Value.type "tuple", data := Data.seq #[] }) ::
  (nat_lit 280, { cls := Value.type "code", data := Data.fields #[Value.str (Str.ofString "_law_moved") 661, Value.str (Str.ofString "_law_moved") 662, Value.str (Str.ofString "/claim/cut.py") 663, Value.int 106 0, Value.int 2 0, Value.int 0 0, Value.int 0 0, Value.int 3 0, Value.ref 275, Value.bool true, Value.int 374 0, Value.ref 276, Value.none, Value.ref 277, Value.ref 278, Value.ref 279, Value.int 666 0, Value.int 106 0, Value.str (Str.ofString "/claim/cut.py") 667] }) ::
  (nat_lit 281, hd03.o_281) ::
  (nat_lit 282, { cls := Value.type "tuple", data := Data.seq #[] }) ::
  (nat_lit 284, { cls := Value.type "tuple", data := Data.seq #[Value.str (Str.ofString "script") 672, Value.str (Str.ofString "triangles") 673, Value.str (Str.ofString "row") 674, Value.str (Str.ofString "i") 675, Value.str (Str.ofString "a") 676, Value.str (Str.ofString "b") 677, Value.str (Str.ofString "h") 678, Value.str (Str.ofString "e") 679, Value.str (Str.ofString "l") 680, Value.str (Str.ofString "m") 681, Value.str (Str.ofString "x") 682, Value.str (Str.ofString "y") 683, Value.str (Str.ofString "spread") 684, Value.str (Str.ofString "square") 685, Value.str (Str.ofString "told") 686, Value.str (Str.ofString "mean") 687] }) ::
  (nat_lit 285, { cls := Value.type "tuple", data := Data.seq #[] }) ::
  (nat_lit 287, { cls := Value.type "code", data := Data.fields #[Value.str (Str.ofString "law") 669, Value.str (Str.ofString "law") 670, Value.str (Str.ofString "/claim/cut.py") 671, Value.int 113 0, Value.int 1 0, Value.int 0 0, Value.int 0 0, Value.int 3 0, Value.ref 282, Value.bool true, Value.int 374 0, Value.ref 283, Value.none, Value.ref 284, Value.ref 285, Value.ref 286, Value.int 688 0, Value.int 113 0, Value.str (Str.ofString "/claim/cut.py") 689] }) ::
  (nat_lit 288, hd03.o_288) :: []
theorem hk_as : ∀ P, ([2, 3, 43, 45, 46, 48, 49, 50, 57, 58, 59, 60, 70, 71, 72, 74, 75, 77, 78, 79, 81, 82, 84, 85, 86, 87, 88, 89, 90, 92, 93, 95, 96, 97, 99, 100, 102, 103, 104, 106, 107, 109, 110, 111, 113, 114, 116, 117, 118, 119, 121, 122, 124, 125, 126, 128, 129, 131, 132, 133, 135, 136, 138, 139, 140, 142, 143, 145, 146, 147, 148, 150, 151, 153, 154, 155, 156, 158, 159, 161, 162, 163, 164, 166, 167, 169, 170, 171, 172, 174, 175, 177, 178, 179, 180, 182, 183, 185, 186, 187, 189, 190, 192, 193, 194, 196, 197, 199, 200, 201, 203, 204, 206, 207, 208, 210, 211, 213, 214, 215, 217, 218, 220, 221, 222, 224, 225, 227, 228, 229, 231, 232, 234, 235, 236, 238, 239, 241, 242, 243, 245, 246, 248, 249, 250, 252, 253, 255, 256, 257, 259, 260, 262, 263, 264, 269, 270, 271, 272, 275, 277, 278, 280, 281, 282, 284, 285, 287, 288] : List Addr) = (hd03.heap_39 P).map (·.1) := fun _ => by kernel_rfl
theorem arm_no (w : World) : (openEnds treeTable PySem.Challenge.pw_oz0056_03 (w.withFollow "special-get-raises" false) 3942).map (fun s => (openSeen hd03.view_39 [Str.ofString "NormalDist"] (importedModules PySem.Challenge.pw_oz0056_03.main.body) (fun s => xlAt hd03.view_39 [] s && recOk PySem.Challenge.rw_oz0056_03.row.toRowW.records s) true s, (kHook hd03.heap_39 [2, 3, 43, 45, 46, 48, 49, 50, 57, 58, 59, 60, 70, 71, 72, 74, 75, 77, 78, 79, 81, 82, 84, 85, 86, 87, 88, 89, 90, 92, 93, 95, 96, 97, 99, 100, 102, 103, 104, 106, 107, 109, 110, 111, 113, 114, 116, 117, 118, 119, 121, 122, 124, 125, 126, 128, 129, 131, 132, 133, 135, 136, 138, 139, 140, 142, 143, 145, 146, 147, 148, 150, 151, 153, 154, 155, 156, 158, 159, 161, 162, 163, 164, 166, 167, 169, 170, 171, 172, 174, 175, 177, 178, 179, 180, 182, 183, 185, 186, 187, 189, 190, 192, 193, 194, 196, 197, 199, 200, 201, 203, 204, 206, 207, 208, 210, 211, 213, 214, 215, 217, 218, 220, 221, 222, 224, 225, 227, 228, 229, 231, 232, 234, 235, 236, 238, 239, 241, 242, 243, 245, 246, 248, 249, 250, 252, 253, 255, 256, 257, 259, 260, 262, 263, 264, 269, 270, 271, 272, 275, 277, 278, 280, 281, 282, 284, 285, 287, 288] hk_as).obs s)) = some (openGood hd03.view_39 [Str.ofString "NormalDist"], (kHook hd03.heap_39 [2, 3, 43, 45, 46, 48, 49, 50, 57, 58, 59, 60, 70, 71, 72, 74, 75, 77, 78, 79, 81, 82, 84, 85, 86, 87, 88, 89, 90, 92, 93, 95, 96, 97, 99, 100, 102, 103, 104, 106, 107, 109, 110, 111, 113, 114, 116, 117, 118, 119, 121, 122, 124, 125, 126, 128, 129, 131, 132, 133, 135, 136, 138, 139, 140, 142, 143, 145, 146, 147, 148, 150, 151, 153, 154, 155, 156, 158, 159, 161, 162, 163, 164, 166, 167, 169, 170, 171, 172, 174, 175, 177, 178, 179, 180, 182, 183, 185, 186, 187, 189, 190, 192, 193, 194, 196, 197, 199, 200, 201, 203, 204, 206, 207, 208, 210, 211, 213, 214, 215, 217, 218, 220, 221, 222, 224, 225, 227, 228, 229, 231, 232, 234, 235, 236, 238, 239, 241, 242, 243, 245, 246, 248, 249, 250, 252, 253, 255, 256, 257, 259, 260, 262, 263, 264, 269, 270, 271, 272, 275, 277, 278, 280, 281, 282, 284, 285, 287, 288] hk_as).val (w.withFollow "special-get-raises" false)) := by
  delta openEnds fencedOpening topFrom
  rw [Fast.te10274390034422433532, Fast.te14364793385576792824, Fast.te1435165496053646825, Fast.te14289696077712309145, Fast.te14082659384304107361, Fast.te8920871248978507458, Fast.te4187177175401517315]
  kernel_rfl
theorem arm_yes (w : World) : (openEnds treeTable PySem.Challenge.pw_oz0056_03 (w.withFollow "special-get-raises" true) 3942).map (fun s => (openSeen hd03.view_39 [Str.ofString "NormalDist"] (importedModules PySem.Challenge.pw_oz0056_03.main.body) (fun s => xlAt hd03.view_39 [] s && recOk PySem.Challenge.rw_oz0056_03.row.toRowW.records s) true s, (kHook hd03.heap_39 [2, 3, 43, 45, 46, 48, 49, 50, 57, 58, 59, 60, 70, 71, 72, 74, 75, 77, 78, 79, 81, 82, 84, 85, 86, 87, 88, 89, 90, 92, 93, 95, 96, 97, 99, 100, 102, 103, 104, 106, 107, 109, 110, 111, 113, 114, 116, 117, 118, 119, 121, 122, 124, 125, 126, 128, 129, 131, 132, 133, 135, 136, 138, 139, 140, 142, 143, 145, 146, 147, 148, 150, 151, 153, 154, 155, 156, 158, 159, 161, 162, 163, 164, 166, 167, 169, 170, 171, 172, 174, 175, 177, 178, 179, 180, 182, 183, 185, 186, 187, 189, 190, 192, 193, 194, 196, 197, 199, 200, 201, 203, 204, 206, 207, 208, 210, 211, 213, 214, 215, 217, 218, 220, 221, 222, 224, 225, 227, 228, 229, 231, 232, 234, 235, 236, 238, 239, 241, 242, 243, 245, 246, 248, 249, 250, 252, 253, 255, 256, 257, 259, 260, 262, 263, 264, 269, 270, 271, 272, 275, 277, 278, 280, 281, 282, 284, 285, 287, 288] hk_as).obs s)) = some (openGood hd03.view_39 [Str.ofString "NormalDist"], (kHook hd03.heap_39 [2, 3, 43, 45, 46, 48, 49, 50, 57, 58, 59, 60, 70, 71, 72, 74, 75, 77, 78, 79, 81, 82, 84, 85, 86, 87, 88, 89, 90, 92, 93, 95, 96, 97, 99, 100, 102, 103, 104, 106, 107, 109, 110, 111, 113, 114, 116, 117, 118, 119, 121, 122, 124, 125, 126, 128, 129, 131, 132, 133, 135, 136, 138, 139, 140, 142, 143, 145, 146, 147, 148, 150, 151, 153, 154, 155, 156, 158, 159, 161, 162, 163, 164, 166, 167, 169, 170, 171, 172, 174, 175, 177, 178, 179, 180, 182, 183, 185, 186, 187, 189, 190, 192, 193, 194, 196, 197, 199, 200, 201, 203, 204, 206, 207, 208, 210, 211, 213, 214, 215, 217, 218, 220, 221, 222, 224, 225, 227, 228, 229, 231, 232, 234, 235, 236, 238, 239, 241, 242, 243, 245, 246, 248, 249, 250, 252, 253, 255, 256, 257, 259, 260, 262, 263, 264, 269, 270, 271, 272, 275, 277, 278, 280, 281, 282, 284, 285, 287, 288] hk_as).val (w.withFollow "special-get-raises" true)) := by
  delta openEnds fencedOpening topFrom
  rw [Fast.te10274390034422433532, Fast.te14364793385576792824, Fast.te1435165496053646825, Fast.te14289696077712309145, Fast.te14082659384304107361, Fast.te8920871248978507458, Fast.te4187177175401517315]
  kernel_rfl
theorem hd03.left : LeftO PySem.Challenge.rw_oz0056_03.row.toRowW.prog hd03.view_39 [Str.ofString "NormalDist"] (fun s => xlAt hd03.view_39 [] s && recOk PySem.Challenge.rw_oz0056_03.row.toRowW.records s) (Hook.obs (kHook hd03.heap_39 [2, 3, 43, 45, 46, 48, 49, 50, 57, 58, 59, 60, 70, 71, 72, 74, 75, 77, 78, 79, 81, 82, 84, 85, 86, 87, 88, 89, 90, 92, 93, 95, 96, 97, 99, 100, 102, 103, 104, 106, 107, 109, 110, 111, 113, 114, 116, 117, 118, 119, 121, 122, 124, 125, 126, 128, 129, 131, 132, 133, 135, 136, 138, 139, 140, 142, 143, 145, 146, 147, 148, 150, 151, 153, 154, 155, 156, 158, 159, 161, 162, 163, 164, 166, 167, 169, 170, 171, 172, 174, 175, 177, 178, 179, 180, 182, 183, 185, 186, 187, 189, 190, 192, 193, 194, 196, 197, 199, 200, 201, 203, 204, 206, 207, 208, 210, 211, 213, 214, 215, 217, 218, 220, 221, 222, 224, 225, 227, 228, 229, 231, 232, 234, 235, 236, 238, 239, 241, 242, 243, 245, 246, 248, 249, 250, 252, 253, 255, 256, 257, 259, 260, 262, 263, 264, 269, 270, 271, 272, 275, 277, 278, 280, 281, 282, 284, 285, 287, 288] hk_as)) (Hook.val (kHook hd03.heap_39 [2, 3, 43, 45, 46, 48, 49, 50, 57, 58, 59, 60, 70, 71, 72, 74, 75, 77, 78, 79, 81, 82, 84, 85, 86, 87, 88, 89, 90, 92, 93, 95, 96, 97, 99, 100, 102, 103, 104, 106, 107, 109, 110, 111, 113, 114, 116, 117, 118, 119, 121, 122, 124, 125, 126, 128, 129, 131, 132, 133, 135, 136, 138, 139, 140, 142, 143, 145, 146, 147, 148, 150, 151, 153, 154, 155, 156, 158, 159, 161, 162, 163, 164, 166, 167, 169, 170, 171, 172, 174, 175, 177, 178, 179, 180, 182, 183, 185, 186, 187, 189, 190, 192, 193, 194, 196, 197, 199, 200, 201, 203, 204, 206, 207, 208, 210, 211, 213, 214, 215, 217, 218, 220, 221, 222, 224, 225, 227, 228, 229, 231, 232, 234, 235, 236, 238, 239, 241, 242, 243, 245, 246, 248, 249, 250, 252, 253, 255, 256, 257, 259, 260, 262, 263, 264, 269, 270, 271, 272, 275, 277, 278, 280, 281, 282, 284, 285, 287, 288] hk_as)) 3942 := byRow2 "special-get-raises" arm_no arm_yes
end Mine
end
section
open PySem PySem.W PyProof.Rows
namespace Mine
noncomputable abbrev loose := looseW hd03.view_39 [Str.ofString "NormalDist"]
abbrev ndObj (dx : Addr) (a : UInt64) (ta : Tok) (b : UInt64) (tb : Tok) : Obj := { cls := .ref 270, dict := some dx, data := .plain, slots := #[some (.float a ta), some (.float b tb)] }

local macro_rules | `(tactic| k_enter) => `(tactic| (refine' code_def ?k1 ?k2 ?k3 ?k4 ?k5 ?kA ?kF ?kK ?k6 ?k7 ?k8 ?k9 ?kB ?_ ?c2 ?c3 ?c4 ?c5; (case kA => exact rfl); (case kF => exact rfl); (case kK => first | exact rfl | assumption); (case k1 => k_asm); (case k2 => k_asm); (case k3 => k_asm); (case k4 => k_asm); (case k5 => k_asm); (case k6 => k_is); (case k7 => k_is); (case k8 => ktr_room); (case k9 => first | exact BindsTo.of_eq rfl | exact binds_K (by k_in) rfl (by k_is) rfl rfl rfl); (case c5 => decide); (case kB => exact locs rfl); (case c2 => exact rfl); (case c3 => exact rfl); (case c4 => exact rfl); k_whole; intro g' L' h' FG' F' N' B' X' T'; (try dsimp only); (try k_fold)))
theorem all_ne {news : List (Addr × Obj)} {d x : Addr} (h : ∀ p ∈ news, p.1 < d) (h2 : d < x) : ∀ p ∈ news, p.1 ≠ x := fun p hp => Nat.ne_of_lt (Nat.lt_trans (h p hp) h2)
local macro_rules | `(tactic| k_all) => `(tactic| exact all_ne (by assumption) (by assumption))
local macro_rules | `(tactic| k_mem) => `(tactic| assumption)
local macro_rules | `(tactic| k_units) => `(tactic| ktr_units)
local macro_rules | `(tactic| walk_at "call builtin:math.hypot") => `(tactic| (refine call_hypot ?_))
local macro_rules | `(tactic| walk_at "getAttr ref") => `(tactic| (k_here; k_dflt (refine' get_propS ?k1 ?k2 ?k3 ?k4 ?k5 ?k6 ?k7 ?k8 ?k9 ?_; (case k1 => k_asm); (case k2 => k_asm); (case k3 => k_inst); (case k4 => k_is); (case k5 => k_is); (case k6 => k_is); (case k7 => k_is); (case k8 => k_is); (case k9 => k_is); k_whole; k_enter)))
local macro_rules | `(tactic| walk_at "binaryOp Mult int ref") => `(tactic| (k_here; k_dflt (refine' rbin rfl ?F ?X ?I ?hc ?hs ?hr ?hf ?hfl ?hsub ?slot ?entry ?args ?hB ?_; (case slot => exact PySem.F.slot_int_mul); (case entry => exact PySem.F.entry_int_mul); (case args => exact PySem.F.args_int_mul_2 _ _); (case hfl => exact rfl); (case F => k_asm); (case X => k_asm); (case I => k_inst); (case hB => exact int_mul_own _ _ _ _ _ rfl rfl); (case hc => k_is); (case hs => k_is); (case hr => k_is); (case hf => k_is); (case hsub => k_is); k_whole)))
local macro_rules | `(tactic| walk_at "binaryOp Add int ref") => `(tactic| (k_here; k_dflt (refine' rbin rfl ?F ?X ?I ?hc ?hs ?hr ?hf ?hfl ?hsub ?slot ?entry ?args ?hB ?_; (case slot => exact PySem.F.slot_int_add); (case entry => exact PySem.F.entry_int_add); (case args => exact PySem.F.args_int_add_2 _ _); (case hfl => exact rfl); (case F => k_asm); (case X => k_asm); (case I => k_inst); (case hB => exact int_add_own _ _ _ _ _ rfl rfl); (case hc => k_is); (case hs => k_is); (case hr => k_is); (case hf => k_is); (case hsub => k_is); k_whole)))
local macro_rules | `(tactic| walk_at "binaryOp Sub int ref") => `(tactic| (k_here; k_dflt (refine' rbin rfl ?F ?X ?I ?hc ?hs ?hr ?hf ?hfl ?hsub ?slot ?entry ?args ?hB ?_; (case slot => exact PySem.F.slot_int_sub); (case entry => exact PySem.F.entry_int_sub); (case args => exact PySem.F.args_int_sub_2 _ _); (case hfl => exact rfl); (case F => k_asm); (case X => k_asm); (case I => k_inst); (case hB => exact int_sub_own _ _ _ _ _ rfl rfl); (case hc => k_is); (case hs => k_is); (case hr => k_is); (case hf => k_is); (case hsub => k_is); k_whole)))
local macro_rules | `(tactic| walk_at "compareOp NotEq ref ref") => `(tactic| (k_here; k_dflt (refine' ne_own ?U ?F ?X ?I ?hb ?hn ?hsub ?hs ?hf ?_; (case U => ktr_units); (case F => k_asm); (case X => k_asm); (case I => k_inst); (case hb => exact InstAt.type (by k_inst)); (case hn => k_is); (case hsub => k_is); (case hs => k_is); (case hf => k_is); k_whole)))

section
variable {w : World} {mean : ExcName → Option Value} {mg mb : Str → Option Value} {dp un : Nat} {gd : Option (List Code)} {cn : Str} {cs : Scope} {a : Addr} {ccd : Value} {cl : List (Str × Addr)} {outer : List Env} {A₀ : Around} {base h₀ : Heap} {L : Addr} {m : Str → Option Value} {news : List (Addr × Obj)} {s : Shared} {Q E : Value → Shared → Prop}

theorem nd_new_ff {x y : UInt64} {tx ty : Tok}
   (B : Below A₀ base outer h₀) (F : Fr h₀ L s.heap m) (X : (hd03.heap_39 w.params).In h₀) (N : News h₀ L s.heap news) (T : Top hd03.view_39 loose mean mg mb h₀) (hk : cs.kind = .function)
   (hd : dp + 12 < recursionLimit) (hu : un + 80 < cLine)
   (hs : (Float64.cmp (y) 0 == some Ordering.lt) = false)
   (hret : ∀ z dx tx ty h' tk', Fr h₀ L h' m → News h₀ L h' ((z, ndObj dx (x) tx (y) ty) :: (dx, dictOf [] 0) :: news) → Q (.ref z) { s with heap := h', toks := tk' }) :
    wpAny (model PySem.Challenge.rw_oz0056_03.row.prog w) (ktrTop dp un gd cn cs L a ccd cl outer) (call (.ref 270) [.float x tx, .float y ty]) Q E s := by
  revert X; k_fill; intro X
  w_strict (k_steps; (try exact hret _ _ _ _ _ _ (by assumption) (by first | assumption | exact News.perm (by assumption) (by simp +contextual))))

local macro_rules | `(tactic| walk_at "call ref") => `(tactic| (k_here; k_dflt (refine' nd_new_ff ?k1 ?k2 ?k3 ?k4 ?k5 ?kK ?kd ?ku ?hs ?_; (case k1 => k_asm); (case k2 => k_asm); (case k3 => k_asm); (case k4 => k_asm); (case k5 => k_asm); (case kK => first | exact rfl | assumption); (case kd => ktr_room); (case ku => ktr_units); (case hs => assumption); k_whole; intro z9 dx9 tx9 ty9 h9 tk9 F9 N9; (try dsimp only); (try k_fold))))

theorem nd_add {x dx : Addr} {p q : UInt64} {tp tq : Tok} {y dy : Addr} {p2 q2 : UInt64} {tp2 tq2 : Tok}
   (B : Below A₀ base outer h₀) (F : Fr h₀ L s.heap m) (X : (hd03.heap_39 w.params).In h₀) (N : News h₀ L s.heap news) (T : Top hd03.view_39 loose mean mg mb h₀) (hk : cs.kind = .function)
   (hd : dp + 12 < recursionLimit) (hu : un + 80 < cLine)
   (hx : (x, ndObj dx p tp q tq) ∈ news) (hdx : (dx, dictOf [] 0) ∈ news) (hy : (y, ndObj dy p2 tp2 q2 tq2) ∈ news) (hdy : (dy, dictOf [] 0) ∈ news) (hs : (Float64.cmp (hyp q q2) 0 == some Ordering.lt) = false)
   (hret : ∀ z dx tx ty h' tk', Fr h₀ L h' m → News h₀ L h' ((z, ndObj dx (Float64.add p p2) tx (hyp q q2) ty) :: (dx, dictOf [] 0) :: news) → Q (.ref z) { s with heap := h', toks := tk' }) :
    wpAny (model PySem.Challenge.rw_oz0056_03.row.prog w) (ktrTop dp un gd cn cs L a ccd cl outer) (binaryOp .Add (.ref x) (.ref y)) Q E s := by
  revert X; k_fill; intro X
  w_strict (k_steps; (try exact hret _ _ _ _ _ _ (by assumption) (by first | assumption | exact News.perm (by assumption) (by simp +contextual))))

theorem nd_sub {x dx : Addr} {p q : UInt64} {tp tq : Tok} {y dy : Addr} {p2 q2 : UInt64} {tp2 tq2 : Tok}
   (B : Below A₀ base outer h₀) (F : Fr h₀ L s.heap m) (X : (hd03.heap_39 w.params).In h₀) (N : News h₀ L s.heap news) (T : Top hd03.view_39 loose mean mg mb h₀) (hk : cs.kind = .function)
   (hd : dp + 12 < recursionLimit) (hu : un + 80 < cLine)
   (hx : (x, ndObj dx p tp q tq) ∈ news) (hdx : (dx, dictOf [] 0) ∈ news) (hy : (y, ndObj dy p2 tp2 q2 tq2) ∈ news) (hdy : (dy, dictOf [] 0) ∈ news) (hs : (Float64.cmp (hyp q q2) 0 == some Ordering.lt) = false)
   (hret : ∀ z dx tx ty h' tk', Fr h₀ L h' m → News h₀ L h' ((z, ndObj dx (Float64.sub p p2) tx (hyp q q2) ty) :: (dx, dictOf [] 0) :: news) → Q (.ref z) { s with heap := h', toks := tk' }) :
    wpAny (model PySem.Challenge.rw_oz0056_03.row.prog w) (ktrTop dp un gd cn cs L a ccd cl outer) (binaryOp .Sub (.ref x) (.ref y)) Q E s := by
  revert X; k_fill; intro X
  w_strict (k_steps; (try exact hret _ _ _ _ _ _ (by assumption) (by first | assumption | exact News.perm (by assumption) (by simp +contextual))))

theorem nd_mean {x dx : Addr} {p q : UInt64} {tp tq : Tok} {ex : Bool}
   (B : Below A₀ base outer h₀) (F : Fr h₀ L s.heap m) (X : (hd03.heap_39 w.params).In h₀) (N : News h₀ L s.heap news) (T : Top hd03.view_39 loose mean mg mb h₀) (hk : cs.kind = .function)
   (hd : dp + 12 < recursionLimit) (hu : un + 80 < cLine)
   (hx : (x, ndObj dx p tp q tq) ∈ news) (hdx : (dx, dictOf [] 0) ∈ news)
   (hret : ∀ h' tk', Fr h₀ L h' m → News h₀ L h' news → Q (.float p tp) { s with heap := h', toks := tk' }) :
    wpAny (model PySem.Challenge.rw_oz0056_03.row.prog w) (ktrTop dp un gd cn cs L a ccd cl outer) (getAttr (.ref x) (Str.ofString "mean") ex) Q E s := by
  revert X; k_fill; intro X
  w_strict (k_steps; (try exact hret _ _ (by assumption) (by assumption)))

theorem nd_stdev {x dx : Addr} {p q : UInt64} {tp tq : Tok} {ex : Bool}
   (B : Below A₀ base outer h₀) (F : Fr h₀ L s.heap m) (X : (hd03.heap_39 w.params).In h₀) (N : News h₀ L s.heap news) (T : Top hd03.view_39 loose mean mg mb h₀) (hk : cs.kind = .function)
   (hd : dp + 12 < recursionLimit) (hu : un + 80 < cLine)
   (hx : (x, ndObj dx p tp q tq) ∈ news) (hdx : (dx, dictOf [] 0) ∈ news)
   (hret : ∀ h' tk', Fr h₀ L h' m → News h₀ L h' news → Q (.float q tq) { s with heap := h', toks := tk' }) :
    wpAny (model PySem.Challenge.rw_oz0056_03.row.prog w) (ktrTop dp un gd cn cs L a ccd cl outer) (getAttr (.ref x) (Str.ofString "stdev") ex) Q E s := by
  revert X; k_fill; intro X
  w_strict (k_steps; (try exact hret _ _ (by assumption) (by assumption)))

theorem nd_variance {x dx : Addr} {p q : UInt64} {tp tq : Tok} {ex : Bool}
   (B : Below A₀ base outer h₀) (F : Fr h₀ L s.heap m) (X : (hd03.heap_39 w.params).In h₀) (N : News h₀ L s.heap news) (T : Top hd03.view_39 loose mean mg mb h₀) (hk : cs.kind = .function)
   (hd : dp + 12 < recursionLimit) (hu : un + 80 < cLine)
   (hx : (x, ndObj dx p tp q tq) ∈ news) (hdx : (dx, dictOf [] 0) ∈ news)
   (hret : ∀ (t' : Tok) h' tk', Fr h₀ L h' m → News h₀ L h' news → Q (Value.float (Float64.mul q q) t') { s with heap := h', toks := tk' }) :
    wpAny (model PySem.Challenge.rw_oz0056_03.row.prog w) (ktrTop dp un gd cn cs L a ccd cl outer) (getAttr (.ref x) (Str.ofString "variance") ex) Q E s := by
  revert X; k_fill; intro X
  w_strict (k_steps; (try exact hret _ _ _ (by assumption) (by assumption)))

theorem nd_ne {x dx : Addr} {p q : UInt64} {tp tq : Tok} {y dy : Addr} {p2 q2 : UInt64} {tp2 tq2 : Tok}
   (B : Below A₀ base outer h₀) (F : Fr h₀ L s.heap m) (X : (hd03.heap_39 w.params).In h₀) (N : News h₀ L s.heap news) (T : Top hd03.view_39 loose mean mg mb h₀) (hk : cs.kind = .function)
   (hd : dp + 12 < recursionLimit) (hu : un + 80 < cLine)
   (hx : (x, ndObj dx p tp q tq) ∈ news) (hdx : (dx, dictOf [] 0) ∈ news) (hy : (y, ndObj dy p2 tp2 q2 tq2) ∈ news) (hdy : (dy, dictOf [] 0) ∈ news)
   (hret : ∀ (r : Bool) h' tk', r = (!((Float64.cmp p p2 == some Ordering.eq) && (Float64.cmp q q2 == some Ordering.eq))) → Fr h₀ L h' m → News h₀ L h' news → Q (.bool r) { s with heap := h', toks := tk' }) :
    wpAny (model PySem.Challenge.rw_oz0056_03.row.prog w) (ktrTop dp un gd cn cs L a ccd cl outer) (compareOp .NotEq (.ref x) (.ref y)) Q E s := by
  revert X; k_fill; intro X
  w_strict (k_steps; (all_goals (try exact hret _ _ _ (by simp_all) (by assumption) (by assumption))))

theorem nd_ne_f {x dx : Addr} {p q : UInt64} {tp tq : Tok} {y dy : Addr} {p2 q2 : UInt64} {tp2 tq2 : Tok}
   (B : Below A₀ base outer h₀) (F : Fr h₀ L s.heap m) (X : (hd03.heap_39 w.params).In h₀) (N : News h₀ L s.heap news) (T : Top hd03.view_39 loose mean mg mb h₀) (hk : cs.kind = .function)
   (hd : dp + 12 < recursionLimit) (hu : un + 80 < cLine)
   (hx : (x, ndObj dx p tp q tq) ∈ news) (hdx : (dx, dictOf [] 0) ∈ news) (hy : (y, ndObj dy p2 tp2 q2 tq2) ∈ news) (hdy : (dy, dictOf [] 0) ∈ news) (hc1 : (Float64.cmp p p2 == some Ordering.eq) = true) (hc2 : (Float64.cmp q q2 == some Ordering.eq) = true)
   (hret : ∀ h' tk', Fr h₀ L h' m → News h₀ L h' news → Q (.bool false) { s with heap := h', toks := tk' }) :
    wpAny (model PySem.Challenge.rw_oz0056_03.row.prog w) (ktrTop dp un gd cn cs L a ccd cl outer) (compareOp .NotEq (.ref x) (.ref y)) Q E s := by
  exact nd_ne B F X N T hk hd hu hx hdx hy hdy (fun r h' tk' e => by rw [hc1, hc2] at e; subst e; exact hret h' tk')

theorem nd_neg {x dx : Addr} {p q : UInt64} {tp tq : Tok}
   (B : Below A₀ base outer h₀) (F : Fr h₀ L s.heap m) (X : (hd03.heap_39 w.params).In h₀) (N : News h₀ L s.heap news) (T : Top hd03.view_39 loose mean mg mb h₀) (hk : cs.kind = .function)
   (hd : dp + 12 < recursionLimit) (hu : un + 80 < cLine)
   (hx : (x, ndObj dx p tp q tq) ∈ news) (hdx : (dx, dictOf [] 0) ∈ news) (hs : (Float64.cmp (q) 0 == some Ordering.lt) = false)
   (hret : ∀ z dx tx ty h' tk', Fr h₀ L h' m → News h₀ L h' ((z, ndObj dx (Float64.neg p) tx (q) ty) :: (dx, dictOf [] 0) :: news) → Q (.ref z) { s with heap := h', toks := tk' }) :
    wpAny (model PySem.Challenge.rw_oz0056_03.row.prog w) (ktrTop dp un gd cn cs L a ccd cl outer) (unaryOp .USub (.ref x)) Q E s := by
  revert X; k_fill; intro X
  w_strict (k_steps; (try exact hret _ _ _ _ _ _ (by assumption) (by first | assumption | exact News.perm (by assumption) (by simp +contextual))))

local macro_rules | `(tactic| walk_at "LeaveI") => `(tactic| (k_here; (with_reducible rename TI.Caller _ _ _ _ => tiC'); k_dflt (refine leave_back0 tiC' (by assumption) (by assumption) (by assumption) ?_); intro F' N'))
local macro_rules | `(tactic| walk_at "LeaveI") => `(tactic| (k_here; (with_reducible rename TI.Caller _ _ _ _ => tiC'); k_dflt (refine TLg.leave_back tiC' (by assumption) (by assumption) (by assumption) ?_); intro F' N'))
local macro_rules | `(tactic| walk_at "noteFrame ref") => `(tactic| (k_here; (with_reducible rename TI.Caller _ _ _ _ => tiC'); (with_reducible rename Heap.NewExc _ _ _ _ => tiX'); k_dflt (refine TLg.noted_new1 (by rfl) (by assumption) tiX' (by assumption) (by assumption) (by assumption) ?_); clear tiX'; intro h' sl' tiF' tiH'; have tiHH' := TT.HeldNA.held tiH'))
local macro_rules | `(tactic| walk_at "call type:float") => `(tactic| (first | refine call_float_inf ?_ | refine call_float_minf ?_))

theorem mv_call {n k : Int} {t u : Tok}
   (F : Fr h₀ L s.heap m) (X : (hd03.heap_39 w.params).In h₀) (N : News h₀ L s.heap news) (T : Top hd03.view_39 loose mean mg mb h₀) (hk : cs.kind = .function)
   (hn : n.natAbs ≤ 1000) (hb : -2200 ≤ k ∧ k ≤ 2200)
   (hret : ∀ (t' : Tok) h' tk', Fr h₀ L h' m → News h₀ L h' news → Q (.float (mv n k) t') { s with heap := h', toks := tk' }) :
    wpAny (model PySem.Challenge.rw_oz0056_03.row.prog w) (callerA.deeper (envOf cn cs L a ccd)) (call (.ref 281) [.int n t, .int k u]) Q E s := by
  revert X; k_fill; intro X
  refine wpAny_call ?_
  w_strict (k_dflt (refine TLgL.code_def (by k_asm) (by k_asm) (by k_asm) (by k_asm) (by rfl) (by k_is) (by k_is) (by k_room) (by first | exact binds_K (by k_in) rfl (by k_is) rfl rfl rfl | exact BindsTo.of_eq rfl) (locs rfl) ?_ hk; intro oL' h' tiC' tiF' tiE' F' N'; (try dsimp only); (replace tiE' := TLgL.allNe_of tiE')); k_steps; (all_goals (try first | exact zdiv_no (by assumption) | exact cast_q (by first | exact mv_neg (by assumption) | exact mv_nonneg (by assumption) | exact mv_inf1 (by assumption) (by assumption) (by assumption) | exact mv_inf2 (by assumption) (by assumption) (by assumption)) (hret _ _ _ (by assumption) (by assumption)))))

end
end Mine
end
section
open PySem PySem.W PyProof.Rows PySem.Calls
namespace Mine
section
variable {prog : Program} {w : World} {A : Around} {E : Value → Shared → Prop} {s : Shared} {env : Env} {h₀ : Heap} {target : Expr} {body : List Stmt} {Q : Flow → Shared → Prop}

/-- no list's iterator stands in the ledger, but what stood there ahead -/
def Clean (news nx : List (Addr × Obj)) : Prop := ∀ p ∈ nx, p ∈ news ∨ p.2.cls ≠ .type "list_iterator"
/-- a turn's end: the ledger may grow -/
def TNext (h₀ : Heap) (L : Addr) (J : (Str → Option Value) → List (Addr × Obj) → Prop) (own : List (Addr × Obj)) (s₁ s₂ : Shared) : Prop :=
  ∃ h' tk m' nx, s₂ = { s₁ with heap := h', toks := tk } ∧ Fr h₀ L h' m' ∧ News h₀ L h' (own ++ nx) ∧ J m' nx
def TEnd (h₀ : Heap) (L : Addr) (J : (Str → Option Value) → List (Addr × Obj) → Prop) (own : List (Addr × Obj)) (s₁ : Shared) (Q : Flow → Shared → Prop) (f : Flow) (s₂ : Shared) : Prop :=
  match f with
  | .ret v => Q (.ret v) s₂
  | .brk => Q .next s₂
  | _ => TNext h₀ L J own s₁ s₂

theorem iter_grow {l : Addr} {vs : List Value} {nn : Nat} {m₀ : Str → Option Value} {news : List (Addr × Obj)} (J : Nat → (Str → Option Value) → List (Addr × Obj) → Prop)
    (hh : A.handled = none) (hJ : ∀ i m nx, J i m nx → Clean news nx ∧ (l, listOf vs.toArray nn) ∈ nx) (F : Fr h₀ env.locals s.heap m₀) (N : News h₀ env.locals s.heap news) (h0 : J 0 m₀ news)
    (turn : ∀ i v m₁ nx h tk own, vs[i]? = some v → J i m₁ nx → Fr h₀ env.locals h m₁ → News h₀ env.locals h (own ++ nx) →
      wpAny (model prog w) A (assign target env v) (fun _ s₃ => wpAny (model prog w) A (execs body env) (TEnd h₀ env.locals (J (i + 1)) own { s with heap := h, toks := tk } Q) E s₃) E { s with heap := h, toks := tk })
    (done : ∀ m₁ nx h tk, J vs.length m₁ nx → Fr h₀ env.locals h m₁ → News h₀ env.locals h nx → Q .next { s with heap := h, toks := tk }) :
    wpAny (model prog w) A (pyIter (.ref l)) (fun it s₂ => TurnsAt prog w A h₀ env target body Q E it s₂) E s := by
  obtain ⟨hclean, hm⟩ := hJ _ _ _ h0
  have hol : s.heap.get? l = some (listOf vs.toArray nn) := (N _ hm).1
  have hls : s.heap.IsList l vs.toArray := ⟨_, hol, rfl, nn, rfl⟩
  have hne : l ≠ s.heap.objs.size := Nat.ne_of_lt (Heap.lt_size hol)
  refine wpAny_pyIter_list hls ?_
  have W := KTurns.ofWalks (target := target) (Walks.list (prog := prog) (w := w) hh s.heap.objs.size l hne vs.toArray) fun i v s Q E st q => letGo_listiter st.1 q
  refine ⟨_, _, _, vs.toArray.size, _, _, _, m₀, news, J, rfl, W, ?_, ?_, ?_, ⟨⟨_, Heap.get?_push_size _ rfl, rfl, rfl⟩, hls.at fun o e => Heap.get?_push_of_some _ e⟩, F.push _, (fun p hp => ⟨Heap.get?_push_of_some _ (N p hp).1, (N p hp).2⟩), h0, ?_, ?_⟩
  · intro hI
    rcases List.mem_cons.mp hI with e | hI
    · exact absurd F.ns.lt (e ▸ Nat.lt_irrefl _)
    · exact (N _ hm).2.1 ((List.mem_singleton.mp hI).symm)
  · intro b hb
    rw [List.mem_singleton.mp hb]
    exact next_is_new F
  · intro p hp hI
    exact absurd (Heap.lt_size (N p hp).1) ((List.mem_singleton.mp hI) ▸ Nat.lt_irrefl _)
  · intro i v m₁ news₁ h₁ tk₁ own hin hP hJ₁ hoff hown hget hfp hst F₁ N₁
    have hv : vs[i]? = some v := by simpa using hP
    refine wpAny_mono (turn i v m₁ news₁ h₁ tk₁ own hv hJ₁ F₁ N₁) (fun _ s₃ x => wpAny_mono x (fun f s₄ y => ?_) fun _ _ e => e) fun _ _ e => e
    obtain ⟨it, hit, hic, _⟩ := hst.1
    have hio : (s.heap.objs.size, it) ∈ own := hfp _ (List.mem_cons_self ..) (next_is_new F) it hit
    have fin : TNext h₀ env.locals (J (i + 1)) own { s with heap := h₁, toks := tk₁ } s₄ → LoopStepU h₀ env.locals [s.heap.objs.size] own (J (i + 1)) { s with heap := h₁, toks := tk₁ } .next s₄ := by
      rintro ⟨h', tk, m', nx, e, F', N', hj⟩
      refine ⟨rfl, h', tk, m', nx, e, F', N', fun p hp hI => ?_, hj⟩
      have h1 := (N' p (List.mem_append.mpr (.inr hp))).1
      have h2 := (N' _ (List.mem_append.mpr (.inl hio))).1
      rw [List.mem_singleton.mp hI, h2] at h1
      rcases (hJ _ _ _ hj).1 p hp with h3 | h3
      · exact absurd (Heap.lt_size (N p h3).1) ((List.mem_singleton.mp hI) ▸ Nat.lt_irrefl _)
      · rw [← Option.some.inj h1] at h3
        exact h3 hic
    cases f with
    | ret v => exact y
    | brk => exact y
    | next => exact fin y
    | cont => exact fin y
  · intro h' tk m' news' F' N' _ hj
    have e : vs.toArray.size = vs.length := List.size_toArray ..
    rw [e] at hj
    exact done m' news' h' tk hj F' N'

/-- a loop that keeps all but a few names -/
def KNext (h₀ : Heap) (L : Addr) (stored : List Str) (m₀ : Str → Option Value) (need : List (Addr × Obj)) (s₁ s₂ : Shared) : Prop :=
  ∃ h' tk m' news', s₂ = { s₁ with heap := h', toks := tk } ∧ Fr h₀ L h' m' ∧ News h₀ L h' news' ∧ (∀ p ∈ need, p ∈ news') ∧ ∀ z, stored.contains z = false → m' z = m₀ z
def KEnd (h₀ : Heap) (L : Addr) (stored : List Str) (m₀ : Str → Option Value) (need : List (Addr × Obj)) (s₁ : Shared) (Q : Flow → Shared → Prop) (f : Flow) (s₂ : Shared) : Prop :=
  match f with
  | .ret v => Q (.ret v) s₂
  | .brk => Q .next s₂
  | _ => KNext h₀ L stored m₀ need s₁ s₂
theorem KNext.intro {L : Addr} {stored : List Str} {m₀ m' : Str → Option Value} {need news' : List (Addr × Obj)} {s₁ : Shared} {h' : Heap} {tk : Nat} (F : Fr h₀ L h' m') (N : News h₀ L h' news') (hn : ∀ p ∈ need, p ∈ news') (hz : ∀ z, stored.contains z = false → m' z = m₀ z) :
    KNext h₀ L stored m₀ need s₁ { s₁ with heap := h', toks := tk } := ⟨h', tk, m', news', rfl, F, N, hn, hz⟩
theorem iter_keep {l : Addr} {vs : List Value} {nn : Nat} {m₀ : Str → Option Value} {news : List (Addr × Obj)} (stored : List Str)
    (hh : A.handled = none) (F : Fr h₀ env.locals s.heap m₀) (N : News h₀ env.locals s.heap news) (hm : (l, listOf vs.toArray nn) ∈ news)
    (turn : ∀ v (u : Str → Option Value) h tk own, v ∈ vs → Fr h₀ env.locals h (fun z => if stored.contains z then u z else m₀ z) → News h₀ env.locals h (news ++ own) →
      wpAny (model prog w) A (assign target env v) (fun _ s₃ => wpAny (model prog w) A (execs body env) (KEnd h₀ env.locals stored m₀ (news ++ own) { s with heap := h, toks := tk } Q) E s₃) E { s with heap := h, toks := tk })
    (done : ∀ (u : Str → Option Value) h tk, Fr h₀ env.locals h (fun z => if stored.contains z then u z else m₀ z) → News h₀ env.locals h news → Q .next { s with heap := h, toks := tk }) :
    wpAny (model prog w) A (pyIter (.ref l)) (fun it s₂ => TurnsAt prog w A h₀ env target body Q E it s₂) E s := by
  have kept : ∀ m₁ : Str → Option Value, (∀ z, stored.contains z = false → m₁ z = m₀ z) → (fun z => if stored.contains z then m₁ z else m₀ z) = m₁ := by
    intro m₁ hz
    funext z
    cases h : stored.contains z with
    | true => simp
    | false => simp [hz z h]
  refine iter_grow (fun _ m nx => nx = news ∧ ∀ z, stored.contains z = false → m z = m₀ z) hh (fun i m nx hj => by rw [hj.1]; exact ⟨fun p hp => .inl hp, hm⟩) F N ⟨rfl, fun _ _ => rfl⟩ ?_ ?_
  · rintro i v m₁ nx h tk own hv ⟨rfl, hz⟩ F₁ N₁
    have N₂ : News h₀ env.locals h (nx ++ own) := fun p hp => N₁ p ((List.mem_append.mp hp).elim (fun x => List.mem_append.mpr (.inr x)) fun x => List.mem_append.mpr (.inl x))
    rw [← kept m₁ hz] at F₁
    refine wpAny_mono (turn v m₁ h tk own (List.mem_of_getElem? hv) F₁ N₂) (fun _ s₃ x => wpAny_mono x (fun f s₄ y => ?_) fun _ _ e => e) fun _ _ e => e
    have fin : KNext h₀ env.locals stored m₀ (nx ++ own) { s with heap := h, toks := tk } s₄ → TNext h₀ env.locals (fun m nx' => nx' = nx ∧ ∀ z, stored.contains z = false → m z = m₀ z) own { s with heap := h, toks := tk } s₄ := by
      rintro ⟨h', tk', m', news', e, F', N', hn, hz'⟩
      exact ⟨h', tk', m', nx, e, F', fun p hp => N' p (hn p ((List.mem_append.mp hp).elim (fun x => List.mem_append.mpr (.inr x)) fun x => List.mem_append.mpr (.inl x))), rfl, hz'⟩
    cases f with
    | ret v => exact y
    | brk => exact y
    | next => exact fin y
    | cont => exact fin y
  · rintro m₁ nx h tk ⟨rfl, hz⟩ F₁ N₁
    rw [← kept m₁ hz] at F₁
    exact done m₁ h tk F₁ N₁
end
end Mine
end
section
open PySem PySem.W PyProof.Rows PySem.Calls
namespace Mine
section
variable {prog : Program} {w : World} {M : Model} {A : Around} {E : Value → Shared → Prop} {s : Shared} {env : Env} {x : Str} {t u9 : Tok}
theorem gst_e {n : Int} {Q : Unit → Shared → Prop} (h : ∀ k : Int, (-1074 ≤ k ∧ k ≤ 1019) → wpAny M A (storeName env x (.int k t)) Q E s) : wpAny M A (storeName env x (.int (Int.fmod n 2094 - 1074) t)) Q E s := by
  have h1 := Int.fmod_nonneg_of_pos n (b := 2094) (by decide)
  have h2 := Int.fmod_lt_of_pos n (b := 2094) (by decide)
  exact h _ (by omega)
theorem neff {a b : UInt64} {Q : Value → Shared → Prop} (hc : (Float64.cmp a b == some Ordering.eq) = true) (h : Q (.bool false) s) : wpAny (model prog w) A (compareOp .NotEq (.float a t) (.float b u9)) Q E s := by
  refine AutoFloatOps.ne_0 ?_
  have : (Float64.cmp a b != some Ordering.eq) = false := by rw [bne, hc]; rfl
  rw [this]; exact h
theorem item_any {h₀ : Heap} {L a : Addr} {news : List (Addr × Obj)} {vs : List Value} {ns : List Int} {nn : Nat} {k : Int} {value slice : Expr} {Q : Value → Shared → Prop} (N : News h₀ L s.heap news) (hm : (a, listOf vs.toArray nn) ∈ news) (hi : IntsAre vs ns)
    (h1 : -(ns.length : Int) ≤ k) (h2 : k < (ns.length : Int)) (h3 : -(2 ^ 62) ≤ k ∧ k < 2 ^ 62) (h : ∀ n t', Q (.int n t') s)
    (hs : subscripted slice false (.ref a) (.int k t) = operate [.ref a, .int k t] (getItem (.ref a) (.int k t)) := by with_unfolding_all rfl) (hg : ∀ r, letTemporaryGo value (.ref a) r = pure () := by intro _; with_unfolding_all rfl) :
    wpAny (model prog w) A (subscriptTail value slice (.ref a) (.int k t)) Q E s := by
  have hl : s.heap.IsList a vs.toArray := PySem.IsL.isList (n := nn) (N _ hm).1
  have hlen := hi.length
  rcases Int.lt_or_le k 0 with hk | hk
  · obtain ⟨t', hx⟩ := hi.get (k + (vs.length : Int)).toNat ns[(k + (vs.length : Int)).toNat] (List.getElem?_eq_getElem (by omega))
    exact subscriptTail_builtin hl.typeIs slot_list_getitem.lookup (wpAny_getItem_list_neg hl hk (by rw [List.size_toArray]; omega) (by omega) (by rw [List.size_toArray]; simpa using hx) (h _ _)) hs hg
  · obtain ⟨t', hx⟩ := hi.get k.toNat ns[k.toNat] (List.getElem?_eq_getElem (by omega))
    exact subscriptTail_builtin hl.typeIs slot_list_getitem.lookup (wpAny_getItem_list hl hk (by omega) (by simpa using hx) (h _ _)) hs hg
/-- one of the written tuples -/
theorem item_tri {h₀ : Heap} {L l : Addr} {news : List (Addr × Obj)} {vs : List Value} {nn : Nat} {r : Int} {value slice : Expr} {Q : Value → Shared → Prop} (N : News h₀ L s.heap news) (hm : (l, listOf vs.toArray nn) ∈ news) (hlen : vs.length = 6)
    (all : ∀ v ∈ vs, ∃ d a b h ta tb th, v = .ref d ∧ (d, ({ cls := .type "tuple", data := .seq #[.int a ta, .int b tb, .int h th] } : Obj)) ∈ news ∧ Six a b h)
    (hQ : ∀ d a b h ta tb th, Six a b h → (0 ≤ a ∧ a ≤ 24 ∧ 0 ≤ b ∧ b ≤ 24 ∧ 1 ≤ h ∧ h ≤ 29 ∧ 1 ≤ h * h ∧ h * h ≤ 841) → IsTup s.heap d #[.int a ta, .int b tb, .int h th] → Q (.ref d) s)
    (hs : subscripted slice false (.ref l) (.int (Int.fmod r 6) t) = operate [.ref l, .int (Int.fmod r 6) t] (getItem (.ref l) (.int (Int.fmod r 6) t)) := by with_unfolding_all rfl) (hg : ∀ r', letTemporaryGo value (.ref l) r' = pure () := by intro _; with_unfolding_all rfl) :
    wpAny (model prog w) A (subscriptTail value slice (.ref l) (.int (Int.fmod r 6) t)) Q E s := by
  have h1 := Int.fmod_nonneg_of_pos r (b := 6) (by decide)
  have h2 := Int.fmod_lt_of_pos r (b := 6) (by decide)
  have hl : s.heap.IsList l vs.toArray := PySem.IsL.isList (n := nn) (N _ hm).1
  generalize Int.fmod r 6 = k at *
  have hx : vs[k.toNat]? = some (vs[k.toNat]'(by omega)) := List.getElem?_eq_getElem (by omega)
  obtain ⟨d, a, b, h, ta, tb, th, e, hd, S⟩ := all _ (List.getElem_mem (by omega : k.toNat < vs.length))
  rw [e] at hx
  refine subscriptTail_builtin hl.typeIs slot_list_getitem.lookup (wpAny_getItem_list hl h1 (by omega) (by simpa using hx) ?_) hs hg
  have q1 := Int.mul_le_mul S.h0 S.h0 (by decide) (by have := S.h0; omega)
  have q2 := Int.mul_le_mul S.h1 S.h1 (by have := S.h0; omega) (by decide)
  exact hQ d a b h ta tb th S ⟨S.a0, S.a1, S.b0, S.b1, S.h0, S.h1, by omega, by omega⟩ (News.isTup N hd)
/-- a choice between two whole numbers, as one -/
theorem cut_int {h₀ : Heap} {L : Addr} {m : Str → Option Value} {news : List (Addr × Obj)} {e : Expr} {Q : Value → Shared → Prop} (P : Int → Prop) (F : Fr h₀ L s.heap m) (N : News h₀ L s.heap news)
    (first : wpAny M A (eval e env) (fun v s' => ∃ n t' h' tk', v = .int n t' ∧ P n ∧ s' = { s with heap := h', toks := tk' } ∧ Fr h₀ L h' m ∧ News h₀ L h' news) E s)
    (second : ∀ n t' h' tk', P n → Fr h₀ L h' m → News h₀ L h' news → Q (.int n t') { s with heap := h', toks := tk' }) : wpAny M A (eval e env) Q E s :=
  wpAny_mono first (fun v s' h => by obtain ⟨n, t', h', tk', rfl, hP, rfl, F', N'⟩ := h; exact second n t' h' tk' hP F' N') fun _ _ h => h
end
theorem sub_refl {A : List (Addr × Obj)} : ∀ p ∈ A, p ∈ A := fun _ h => h
theorem sub_app {A B : List (Addr × Obj)} : ∀ p ∈ A, p ∈ A ++ B := fun _ h => List.mem_append.mpr (.inl h)
theorem sub_appr {A B : List (Addr × Obj)} : ∀ p ∈ B, p ∈ A ++ B := fun _ h => List.mem_append.mpr (.inr h)
theorem sub_app2 {A B C : List (Addr × Obj)} (h : ∀ p ∈ A, p ∈ B) : ∀ p ∈ A, p ∈ B ++ C := fun p hp => List.mem_append.mpr (.inl (h p hp))
theorem sub_app3 {A B C : List (Addr × Obj)} (h : ∀ p ∈ A, p ∈ C) : ∀ p ∈ A, p ∈ B ++ C := fun p hp => List.mem_append.mpr (.inr (h p hp))
theorem sub_cons {a : Addr × Obj} {A B : List (Addr × Obj)} (h : ∀ p ∈ A, p ∈ B) : ∀ p ∈ a :: A, p ∈ a :: B := fun p hp => by
  rcases List.mem_cons.mp hp with e | e
  · rw [e]; exact List.mem_cons_self
  · exact List.mem_cons_of_mem _ (h p e)
theorem sub_skip {b : Addr × Obj} {A B : List (Addr × Obj)} (h : ∀ p ∈ A, p ∈ B) : ∀ p ∈ A, p ∈ b :: B := fun p hp => List.mem_cons_of_mem _ (h p hp)
local macro_rules | `(tactic| ktr_unf) => `(tactic| first | with_reducible exact List.forall_mem_nil _ | with_reducible exact sub_refl | with_reducible exact sub_app | with_reducible exact sub_appr | (with_reducible refine sub_cons ?_; ktr_unf) | (with_reducible refine sub_skip ?_; ktr_unf) | (with_reducible refine sub_app2 ?_; ktr_unf) | (with_reducible refine sub_app3 ?_; ktr_unf))
local macro_rules | `(tactic| walk_at "InvEndN") => `(tactic| ((try dsimp only [envOf]); (rename News _ _ _ _ => nE'); ((refine kst_end () (by with_reducible assumption) nE' ?eI ?eO (by with_unfolding_all rfl) True.intro (List.forall_mem_nil _) ?eS True.intro); (case eI => (try dsimp only); ktr_unf); (case eO => (try dsimp only); ktr_unf); (case eS => (intro z9 hz1 hz2 hz3; (simp only [List.contains_cons, List.contains_nil, Bool.or_false, Bool.or_eq_false_iff, beq_eq_false_iff_ne, ne_eq] at hz1 hz3); (simp [hz1, hz3, kstB]; done))))))
theorem four_of {a b c d v : Value} (h : v ∈ [a, b, c, d]) : v = a ∨ v = b ∨ v = c ∨ v = d := by simpa using h
local macro_rules | `(tactic| walk_at "pyIter ref") => `(tactic| (k_here; (with_reducible show wpAny _ _ (pyIter (Value.ref _)) (fun it s₂ => TurnsAt _ _ _ _ _ _ _ _ _ it s₂) _ _); (rename Fr _ _ _ _ => lF'); (rename News _ _ _ _ => lN'); ((with_unfolding_all refine' iter_keep [Str.ofString "told", Str.ofString "mean"] (by rfl) lF' lN' (by k_mem) ?turn ?done); (all_goals (clear lF' lN')); (all_goals (first | (intro v9 u9 h9 tk9 own9 hv9 F9 N9; rcases four_of hv9 with e9 | e9 | e9 | e9 <;> (subst e9; (try dsimp only [envOf] at F9 N9); (try simp only [List.cons_append, List.nil_append, List.append_nil] at N9); (try k_fold))) | (intro u9 h9 tk9 F9 N9; (try dsimp only [envOf] at F9 N9); (try k_fold)))))))
local macro_rules | `(tactic| walk_at "KEnd") => `(tactic| (dsimp only [KEnd]))
local macro_rules | `(tactic| walk_at "KNext") => `(tactic| ((try dsimp only [envOf]); (rename News _ _ _ _ => nE'); (refine KNext.intro (by with_reducible assumption) nE' ?eI ?eS; (case eI => (try simp only [List.cons_append, List.nil_append, List.append_nil]); ktr_unf); (case eS => (intro z9 hz3; (simp only [List.contains_cons, List.contains_nil, Bool.or_false, Bool.or_eq_false_iff, beq_eq_false_iff_ne, ne_eq] at hz3); (simp [hz3]; done))))))
local macro_rules | `(tactic| walk_at "assign Tuple") => `(tactic| (k_here; (with_reducible show wpAny _ _ (assign (Expr.Tuple _ _ _) _ (Value.ref _)) _ _ _); (k_dflt (refine' unpackN_ ?F ?N ?T ?k1 ?k2 ?k3 ?_; (case F => k_asm); (case N => k_asm); (case T => refine News.isTup (by k_asm) (by k_mem)); (case k1 => exact rfl); (case k2 => exact rfl); (case k3 => exact rfl); k_whole)); intro h' F' N'; (try k_sweep)))
local macro_rules | `(tactic| walk_at "call ref") => `(tactic| (k_here; (with_reducible show wpAny _ _ (PySem.call (Value.ref 270) [Value.float _ _, Value.float _ _]) _ _ _); k_dflt (refine' nd_new_ff ?k1 ?k2 ?k3 ?k4 ?k5 ?kK ?kd ?ku ?hs ?_; (case k1 => k_asm); (case k2 => k_asm); (case k3 => k_asm); (case k4 => k_asm); (case k5 => k_asm); (case kK => first | exact rfl | assumption); (case kd => ktr_room); (case ku => ktr_units); (case hs => ktr_rel); k_whole; intro z9 dx9 tx9 ty9 h9 tk9 F9 N9; (try dsimp only); (try k_sweep); (try k_fold))))
local macro_rules | `(tactic| walk_at "binaryOp Add") => `(tactic| (k_here; (with_reducible show wpAny _ _ (binaryOp _ (Value.ref _) (Value.ref _)) _ _ _); k_dflt (refine' nd_add ?k1 ?k2 ?k3 ?k4 ?k5 ?kK ?kd ?ku ?hx ?hdx ?hy ?hdy ?hs ?_; (case k1 => k_asm); (case k2 => k_asm); (case k3 => k_asm); (case k4 => k_asm); (case k5 => k_asm); (case kK => first | exact rfl | assumption); (case kd => ktr_room); (case ku => ktr_units); (case hx => k_mem); (case hdx => k_mem); (case hy => k_mem); (case hdy => k_mem); (case hs => ktr_rel); k_whole; intro z9 dx9 tx9 ty9 h9 tk9 F9 N9; (try dsimp only); (try k_sweep); (try k_fold))))
local macro_rules | `(tactic| walk_at "binaryOp Sub") => `(tactic| (k_here; (with_reducible show wpAny _ _ (binaryOp _ (Value.ref _) (Value.ref _)) _ _ _); k_dflt (refine' nd_sub ?k1 ?k2 ?k3 ?k4 ?k5 ?kK ?kd ?ku ?hx ?hdx ?hy ?hdy ?hs ?_; (case k1 => k_asm); (case k2 => k_asm); (case k3 => k_asm); (case k4 => k_asm); (case k5 => k_asm); (case kK => first | exact rfl | assumption); (case kd => ktr_room); (case ku => ktr_units); (case hx => k_mem); (case hdx => k_mem); (case hy => k_mem); (case hdy => k_mem); (case hs => ktr_rel); k_whole; intro z9 dx9 tx9 ty9 h9 tk9 F9 N9; (try dsimp only); (try k_sweep); (try k_fold))))
local macro_rules | `(tactic| walk_at "getAttr ref") => `(tactic| (k_here; (with_reducible show wpAny _ _ (getAttr (Value.ref _) (Str.ofString "mean") _) _ _ _); k_dflt (refine' nd_mean ?k1 ?k2 ?k3 ?k4 ?k5 ?kK ?kd ?ku ?hx ?hdx ?_; (case k1 => k_asm); (case k2 => k_asm); (case k3 => k_asm); (case k4 => k_asm); (case k5 => k_asm); (case kK => first | exact rfl | assumption); (case kd => ktr_room); (case ku => ktr_units); (case hx => k_mem); (case hdx => k_mem); k_whole; intro h9 tk9 F9 N9; (try dsimp only); (try k_sweep); (try k_fold))))
local macro_rules | `(tactic| walk_at "getAttr ref") => `(tactic| (k_here; (with_reducible show wpAny _ _ (getAttr (Value.ref _) (Str.ofString "stdev") _) _ _ _); k_dflt (refine' nd_stdev ?k1 ?k2 ?k3 ?k4 ?k5 ?kK ?kd ?ku ?hx ?hdx ?_; (case k1 => k_asm); (case k2 => k_asm); (case k3 => k_asm); (case k4 => k_asm); (case k5 => k_asm); (case kK => first | exact rfl | assumption); (case kd => ktr_room); (case ku => ktr_units); (case hx => k_mem); (case hdx => k_mem); k_whole; intro h9 tk9 F9 N9; (try dsimp only); (try k_sweep); (try k_fold))))
local macro_rules | `(tactic| walk_at "getAttr ref") => `(tactic| (k_here; (with_reducible show wpAny _ _ (getAttr (Value.ref _) (Str.ofString "variance") _) _ _ _); k_dflt (refine' nd_variance ?k1 ?k2 ?k3 ?k4 ?k5 ?kK ?kd ?ku ?hx ?hdx ?_; (case k1 => k_asm); (case k2 => k_asm); (case k3 => k_asm); (case k4 => k_asm); (case k5 => k_asm); (case kK => first | exact rfl | assumption); (case kd => ktr_room); (case ku => ktr_units); (case hx => k_mem); (case hdx => k_mem); k_whole; intro t9 h9 tk9 F9 N9; (try dsimp only); (try k_sweep); (try k_fold))))
local macro_rules | `(tactic| walk_at "compareOp NotEq ref") => `(tactic| (k_here; (with_reducible show wpAny _ _ (compareOp _ (Value.ref _) (Value.ref _)) _ _ _); k_dflt (refine' nd_ne_f ?k1 ?k2 ?k3 ?k4 ?k5 ?kK ?kd ?ku ?hx ?hdx ?hy ?hdy ?hc1 ?hc2 ?_; (case k1 => k_asm); (case k2 => k_asm); (case k3 => k_asm); (case k4 => k_asm); (case k5 => k_asm); (case kK => first | exact rfl | assumption); (case kd => ktr_room); (case ku => ktr_units); (case hx => k_mem); (case hdx => k_mem); (case hy => k_mem); (case hdy => k_mem); (case hc1 => ktr_rel); (case hc2 => ktr_rel); k_whole; intro h9 tk9 F9 N9; (try dsimp only); (try k_sweep); (try k_fold))))
local macro_rules | `(tactic| walk_at "call ref") => `(tactic| (k_here; (with_reducible show wpAny _ _ (PySem.call (Value.ref 281) [Value.int _ _, Value.int _ _]) _ _ _); k_dflt (refine' mv_call ?k2 ?k3 ?k4 ?k5 ?kK ?hn ?hb ?_; (case k2 => k_asm); (case k3 => k_asm); (case k4 => k_asm); (case k5 => k_asm); (case kK => first | exact rfl | assumption); (case hn => omega); (case hb => omega); k_whole; intro t9 h9 tk9 F9 N9; (try dsimp only); (try k_sweep); (try k_fold))))
local macro_rules | `(tactic| walk_at "unaryOp USub") => `(tactic| (k_here; (with_reducible show wpAny _ _ (unaryOp _ (Value.ref _)) _ _ _); k_dflt (refine' nd_neg ?k1 ?k2 ?k3 ?k4 ?k5 ?kK ?kd ?ku ?hx ?hdx ?hs ?_; (case k1 => k_asm); (case k2 => k_asm); (case k3 => k_asm); (case k4 => k_asm); (case k5 => k_asm); (case kK => first | exact rfl | assumption); (case kd => ktr_room); (case ku => ktr_units); (case hx => k_mem); (case hdx => k_mem); (case hs => ktr_rel); k_whole; intro z9 dx9 tx9 ty9 h9 tk9 F9 N9; (try dsimp only); (try k_sweep); (try k_fold))))
local macro_rules | `(tactic| ktr_rel) => `(tactic| first
  | exact (Six.nn (by assumption) (by omega) (by omega)).1
  | exact (Six.nn (by assumption) (by omega) (by omega)).2.1
  | exact (Six.nn (by assumption) (by omega) (by omega)).2.2.1
  | exact (Six.nn (by assumption) (by omega) (by omega)).2.2.2
  | exact add_cmp (by omega) (by omega) (by omega) (by omega) rfl
  | exact add_cmp (by omega) (by omega) (by omega) (by omega) (by omega)
  | exact sub_cmp (by omega) (by omega) (by omega) (by omega) rfl
  | exact (Six.stdev (by assumption) (by omega) (by omega)).1
  | exact (Six.stdev (by assumption) (by omega) (by omega)).2.1
  | exact (Six.stdev (by assumption) (by omega) (by omega)).2.2
  | exact (Six.var (by assumption) (by omega) (by omega) rfl rfl).1
  | exact (Six.var (by assumption) (by omega) (by omega) rfl rfl).2
  | exact add_comm_cmp (by omega) (by omega) (by omega) (by omega)
  | exact sub_neg_cmp (by omega) (by omega) (by omega) (by omega))
local macro_rules | `(tactic| walk_at "storeName") => `(tactic| ((with_reducible show wpAny _ _ (storeName _ _ (Value.int (Int.fmod _ _ - 1074) _)) _ _ _); (refine gst_e ?_); intro e9 he9))
local macro_rules | `(tactic| walk_at "compareOp NotEq float float") => `(tactic| (refine neff (by ktr_rel) ?_))
local macro_rules | `(tactic| walk_at "subscriptTail") => `(tactic| (k_here; (with_reducible show wpAny _ _ (subscriptTail _ _ (Value.ref _) (Value.int _ _)) _ _ _); (with_unfolding_all refine' item_any ?kN ?km ?ki ?k1 ?k2 ?k3 ?_; (case kN => k_asm); (case km => k_mem); (case ki => assumption); (case k1 => (simp only [List.length_append, List.length_cons, List.length_nil]; omega)); (case k2 => (simp only [List.length_append, List.length_cons, List.length_nil]; omega)); (case k3 => (constructor <;> omega)); k_whole); intro n9 t9))
local macro_rules | `(tactic| walk_at "subscriptTail") => `(tactic| (k_here; (with_reducible show wpAny _ _ (subscriptTail _ _ (Value.ref _) (Value.int (Int.fmod _ 6) _)) _ _ _); (with_unfolding_all refine' item_tri ?kN ?km ?kl ?ka ?_; (case kN => k_asm); (case km => k_mem); (case kl => rfl); (case ka => (intro v9 hv9; simp only [List.mem_cons, List.not_mem_nil, or_false] at hv9; rcases hv9 with e9 | e9 | e9 | e9 | e9 | e9 <;> subst e9 <;> exact ⟨_, _, _, _, _, _, _, rfl, by k_mem, by constructor <;> decide⟩)); k_whole); intro d9 a9 b9 h9 ta9 tb9 th9 S9 B9 T9; (try dsimp only at T9)))
local macro_rules | `(tactic| walk_at "eval IfExp") => `(tactic| (k_here; (rename Fr _ _ _ _ => lF'); (rename News _ _ _ _ => lN'); (refine cut_int (fun n => -24 ≤ n ∧ n ≤ 24) lF' lN' ?cfirst ?_; (case cfirst => (refine IfExp_ ?_; k_steps; (all_goals (exact ⟨_, _, _, _, rfl, by omega, rfl, by assumption, by assumption⟩))))); intro n9 t9 h9 tk9 hn9 F9 N9; (try k_sweep)))
theorem law : PySem.Challenge.rw_oz0056_03.Holds := by
  (k_with "pyIter ref" => k_search (fun _ => True))
  w_on; o_law
  refine holds_open (q := hd03.view_39) (loose := [Str.ofString "NormalDist"]) (XP := XL hd03.view_39 []) (YP := Hook.says (kHook hd03.heap_39 [2, 3, 43, 45, 46, 48, 49, 50, 57, 58, 59, 60, 70, 71, 72, 74, 75, 77, 78, 79, 81, 82, 84, 85, 86, 87, 88, 89, 90, 92, 93, 95, 96, 97, 99, 100, 102, 103, 104, 106, 107, 109, 110, 111, 113, 114, 116, 117, 118, 119, 121, 122, 124, 125, 126, 128, 129, 131, 132, 133, 135, 136, 138, 139, 140, 142, 143, 145, 146, 147, 148, 150, 151, 153, 154, 155, 156, 158, 159, 161, 162, 163, 164, 166, 167, 169, 170, 171, 172, 174, 175, 177, 178, 179, 180, 182, 183, 185, 186, 187, 189, 190, 192, 193, 194, 196, 197, 199, 200, 201, 203, 204, 206, 207, 208, 210, 211, 213, 214, 215, 217, 218, 220, 221, 222, 224, 225, 227, 228, 229, 231, 232, 234, 235, 236, 238, 239, 241, 242, 243, 245, 246, 248, 249, 250, 252, 253, 255, 256, 257, 259, 260, 262, 263, 264, 269, 270, 271, 272, 275, 277, 278, 280, 281, 282, 284, 285, 287, 288] hk_as)) hd03.left (Hook.of (kHook hd03.heap_39 [2, 3, 43, 45, 46, 48, 49, 50, 57, 58, 59, 60, 70, 71, 72, 74, 75, 77, 78, 79, 81, 82, 84, 85, 86, 87, 88, 89, 90, 92, 93, 95, 96, 97, 99, 100, 102, 103, 104, 106, 107, 109, 110, 111, 113, 114, 116, 117, 118, 119, 121, 122, 124, 125, 126, 128, 129, 131, 132, 133, 135, 136, 138, 139, 140, 142, 143, 145, 146, 147, 148, 150, 151, 153, 154, 155, 156, 158, 159, 161, 162, 163, 164, 166, 167, 169, 170, 171, 172, 174, 175, 177, 178, 179, 180, 182, 183, 185, 186, 187, 189, 190, 192, 193, 194, 196, 197, 199, 200, 201, 203, 204, 206, 207, 208, 210, 211, 213, 214, 215, 217, 218, 220, 221, 222, 224, 225, 227, 228, 229, 231, 232, 234, 235, 236, 238, 239, 241, 242, 243, 245, 246, 248, 249, 250, 252, 253, 255, 256, 257, 259, 260, 262, 263, 264, 269, 270, 271, 272, 275, 277, 278, 280, 281, 282, 284, 285, 287, 288] hk_as)) (Hook.keeps (kHook hd03.heap_39 [2, 3, 43, 45, 46, 48, 49, 50, 57, 58, 59, 60, 70, 71, 72, 74, 75, 77, 78, 79, 81, 82, 84, 85, 86, 87, 88, 89, 90, 92, 93, 95, 96, 97, 99, 100, 102, 103, 104, 106, 107, 109, 110, 111, 113, 114, 116, 117, 118, 119, 121, 122, 124, 125, 126, 128, 129, 131, 132, 133, 135, 136, 138, 139, 140, 142, 143, 145, 146, 147, 148, 150, 151, 153, 154, 155, 156, 158, 159, 161, 162, 163, 164, 166, 167, 169, 170, 171, 172, 174, 175, 177, 178, 179, 180, 182, 183, 185, 186, 187, 189, 190, 192, 193, 194, 196, 197, 199, 200, 201, 203, 204, 206, 207, 208, 210, 211, 213, 214, 215, 217, 218, 220, 221, 222, 224, 225, 227, 228, 229, 231, 232, 234, 235, 236, 238, 239, 241, 242, 243, 245, 246, 248, 249, 250, 252, 253, 255, 256, 257, 259, 260, 262, 263, 264, 269, 270, 271, 272, 275, 277, 278, 280, 281, 282, 284, 285, 287, 288] hk_as)) (fun s e => xl_of s (Bool.and_eq_true_iff.mp e).1) XL.keeps (by rfl) (by rfl) (by rfl) (fun s e => recFacts_of (Bool.and_eq_true_iff.mp e).2) (by rfl) (by first | assumption | decide +kernel) (by decide +kernel) ⟨rfl, rfl, rfl, rfl, rfl, by decide +kernel⟩ ?hw ?hc
  case hw => w_witness2
  rename_i sd9; clear sd9
  w_strict (k_go0; (all_goals try k_fold); k_steps)
end Mine
end
set_option maxHeartbeats 8000000 in
theorem PySem.Challenge.cw_oz0056_03_holds : PySem.Challenge.rw_oz0056_03.Holds := by
  exact Mine.law
