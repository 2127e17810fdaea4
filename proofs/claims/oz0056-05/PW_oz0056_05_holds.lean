import PyProof.Rows.All
import Wide.All
import OpenK.AllK
import Wide.FinOn
import Flt.Zero
import PySem.Builtin.Math.Norm
import Lean
import PySem.Challenge.RW_oz0056_05
set_option Elab.async false
set_option maxRecDepth 100000
set_option compiler.extract_closed false
set_option maxHeartbeats 8000000
set_option linter.unusedVariables false
section
namespace Mine
open PySem PySem.Float64

/-! ## magnitudes -/
theorem V_rep : ∀ (k : Nat) (q : Nat), q ≤ 2 ^ 53 → ∃ t, V t = q * 2 ^ k
  | 0, q, h => ⟨0 * 2 ^ 52 + q, V_at h (.inr rfl)⟩
  | k + 1, q, h => by
    by_cases h2 : 2 ^ 52 ≤ q
    · exact ⟨_, V_at (k := k + 1) h (.inl h2)⟩
    · obtain ⟨t, ht⟩ := V_rep k (2 * q) (by omega)
      refine ⟨t, ht.trans ?_⟩
      rw [Nat.pow_succ]
      generalize (2 : Nat) ^ k = P
      ac_rfl

theorem V_inj {t t' : Nat} (h : V t = V t') : t = t' := by
  rcases Nat.lt_trichotomy t t' with h1 | h1 | h1
  · exact absurd h (Nat.ne_of_lt (V_lt h1))
  · exact h1
  · exact absurd h.symm (Nat.ne_of_lt (V_lt h1))

/-- a right magnitude is within half an ulp -/
theorem near_of_right {W D t : Nat} (hD : 0 < D) (h : ∀ t', Float64.dist W (D * V t) ≤ Float64.dist W (D * V t')) :
    2 * Float64.dist W (D * V t) ≤ D ∨ 2 ^ 53 * Float64.dist W (D * V t) ≤ W := by
  have hw := Nat.div_add_mod W D
  have hm := Nat.mod_lt W hD
  generalize hn : W / D = n at *
  by_cases hs : n < 2 ^ 53
  · left
    obtain ⟨t1, e1⟩ := V_rep 0 n (by omega)
    obtain ⟨t2, e2⟩ := V_rep 0 (n + 1) (by omega)
    have h1 := h t1
    have h2 := h t2
    rw [e1] at h1
    rw [e2] at h2
    simp only [Nat.pow_zero, Nat.mul_one, Nat.mul_add] at h1 h2
    generalize D * n = x at *
    generalize D * V t = y at *
    unfold Float64.dist at *
    omega
  · right
    obtain ⟨k, hk1, hk2⟩ : ∃ k, 2 ^ 52 * 2 ^ k ≤ n ∧ n < 2 ^ 53 * 2 ^ k := by
      have hn0 : n ≠ 0 := by omega
      have a1 := Nat.log2_self_le hn0
      have a2 := @Nat.lt_log2_self n
      have a3 : 52 ≤ n.log2 := (Nat.le_log2 hn0).mpr (by omega)
      refine ⟨n.log2 - 52, ?_, ?_⟩
      · rw [← Nat.pow_add, show 52 + (n.log2 - 52) = n.log2 by omega]; exact a1
      · rw [← Nat.pow_add, show 53 + (n.log2 - 52) = n.log2 + 1 by omega]; exact a2
    have hP := Nat.two_pow_pos k
    have hq := Nat.div_add_mod n (2 ^ k)
    have hr := Nat.mod_lt n hP
    have hq2 : n / 2 ^ k < 2 ^ 53 := (Nat.div_lt_iff_lt_mul hP).mpr hk2
    generalize hqe : n / 2 ^ k = q at *
    obtain ⟨t1, e1⟩ := V_rep k q (by omega)
    obtain ⟨t2, e2⟩ := V_rep k (q + 1) (by omega)
    have h1 := h t1
    have h2 := h t2
    rw [e1] at h1
    rw [e2, Nat.add_mul, Nat.one_mul] at h2
    rw [Nat.mul_comm q] at h1 h2
    -- D*(P q) ≤ W < D*(P q) + D*P
    have b1 : D * (2 ^ k * q) ≤ W := by
      have := Nat.mul_le_mul_left D (show 2 ^ k * q ≤ n by omega)
      omega
    have b2 : W ≤ D * (2 ^ k * q + 2 ^ k) := by
      have := Nat.mul_le_mul_left D (show n + 1 ≤ 2 ^ k * q + 2 ^ k by omega)
      rw [Nat.mul_add D n 1] at this
      omega
    have b3 : 2 ^ 52 * (D * 2 ^ k) ≤ W := by
      have := Nat.mul_le_mul_left D hk1
      rw [show D * (2 ^ 52 * 2 ^ k) = 2 ^ 52 * (D * 2 ^ k) by ac_rfl] at this
      omega
    rw [Nat.mul_add] at b2 h2
    generalize D * (2 ^ k * q) = x at *
    generalize D * 2 ^ k = p at *
    generalize D * V t = y at *
    unfold Float64.dist at *
    omega

/-- two right magnitudes of one quotient are one -/
theorem right_unique {r1 r2 : UInt64} {n1 n2 : Bool} {W1 D1 W2 D2 : Nat} (h1 : Right r1 n1 W1 D1) (h2 : Right r2 n2 W2 D2) (hD1 : 0 < D1) (hD2 : 0 < D2) (he : W1 * D2 = W2 * D1) :
    ∃ t, t ≤ infMag ∧ r1 = pack n1 t ∧ r2 = pack n2 t := by
  obtain ⟨t1, rfl, l1, o1, c1⟩ := h1
  obtain ⟨t2, rfl, l2, o2, c2⟩ := h2
  have key : t1 = t2 := by
    generalize hM : (2 ^ 54 - 1) * 2 ^ 2045 = M at *
    have sc : ∀ v, D2 * Float64.dist W1 (D1 * v) = D1 * Float64.dist W2 (D2 * v) := by
      intro v
      rw [← dist_mul, ← dist_mul, Nat.mul_comm D2 W1, he, Nat.mul_comm W2 D1, show D2 * (D1 * v) = D1 * (D2 * v) by ac_rfl]
    have ov : D1 * M ≤ 2 * W1 ↔ D2 * M ≤ 2 * W2 := by
      have e1 : D2 * (D1 * M) = D1 * (D2 * M) := by ac_rfl
      have e2 : D2 * (2 * W1) = D1 * (2 * W2) := by rw [Nat.mul_left_comm, Nat.mul_comm D2, he]; ac_rfl
      constructor
      · intro h; refine Nat.le_of_mul_le_mul_left (c := D1) ?_ hD1; rw [← e1, ← e2]; exact Nat.mul_le_mul_left _ h
      · intro h; refine Nat.le_of_mul_le_mul_left (c := D2) ?_ hD2; rw [e1, e2]; exact Nat.mul_le_mul_left _ h
    by_cases hi : t1 = infMag
    · have := o2.mpr (ov.mp (o1.mp hi)); omega
    · have hi2 : t2 ≠ infMag := fun h => hi (o1.mpr (ov.mpr (o2.mp h)))
      have a1 := c1 (by omega) t2
      have a2 := c2 (by omega) t1
      by_cases hV : V t1 = V t2
      · exact V_inj hV
      · exfalso
        have d21 : Float64.dist W1 (D1 * V t2) ≤ Float64.dist W1 (D1 * V t1) := by
          refine Nat.le_of_mul_le_mul_left (c := D2) ?_ hD2
          rw [sc, sc]; exact Nat.mul_le_mul_left _ a2.1
        have deq : Float64.dist W1 (D1 * V t1) = Float64.dist W1 (D1 * V t2) := Nat.le_antisymm a1.1 d21
        have deq2 : Float64.dist W2 (D2 * V t2) = Float64.dist W2 (D2 * V t1) := by
          refine Nat.eq_of_mul_eq_mul_left hD1 ?_
          rw [← sc, ← sc, deq]
        have p1 := a1.2 (fun h => hV h.symm) deq
        have p2 := a2.2 hV deq2
        -- a midpoint neighbour
        have step : ∀ a b : Nat, a < b → a % 2 = 0 → b % 2 = 0 → Float64.dist W1 (D1 * V a) = Float64.dist W1 (D1 * V b) →
            (∀ t', Float64.dist W1 (D1 * V a) ≤ Float64.dist W1 (D1 * V t')) → False := by
          intro a b hab pa pb hd hmin
          have m := hmin (a + 1)
          have v1 := Nat.mul_lt_mul_of_pos_left (V_succ a) hD1
          have v2 := Nat.mul_lt_mul_of_pos_left (V_lt (show a + 1 < b by omega)) hD1
          generalize D1 * V a = x at *
          generalize D1 * V b = y at *
          generalize D1 * V (a + 1) = z at *
          unfold Float64.dist at *
          omega
        rcases Nat.lt_trichotomy t1 t2 with h | h | h
        · exact step t1 t2 h p1 p2 deq (fun t' => (c1 (by omega) t').1)
        · exact hV (by rw [h])
        · refine step t2 t1 h p2 p1 deq.symm (fun t' => ?_)
          rw [← deq]; exact (c1 (by omega) t').1
  exact ⟨t1, l1, rfl, by rw [key]⟩

/-! ## floats as rationals -/
def Fin (x : UInt64) : Prop := ∃ a m e, decode x = .fin a m e
def TW : Rat := 2 ^ 1074
theorem TW_pos : 0 < TW := Rat.pow_pos (by decide)
def R (x : UInt64) : Rat := (val x : Rat) / TW
theorem R_mul (x : UInt64) : R x * TW = (val x : Rat) := Rat.div_mul_cancel (fun h => by have := TW_pos; rw [h] at this; exact Rat.lt_irrefl this)
theorem TW_nat : TW = ((2 ^ 1074 : Nat) : Rat) := (Rat.natCast_pow 2 1074).symm

theorem fin_pack (neg : Bool) {t : Nat} (h : t < infMag) : Fin (pack neg t) := by
  obtain ⟨m, e, hd, _⟩ := decode_pack neg h
  exact ⟨_, _, _, hd⟩

def Rep (z : Rat) : Prop := ∃ (n : Int) (k : Nat), n.natAbs ≤ 2 ^ 53 ∧ z * TW = (n : Rat) * (2 : Rat) ^ k
/-- what a correctly rounded result of z tells -/
structure Rd (r : UInt64) (z : Rat) : Prop where
  fin : Fin r
  err : ∀ B, -B ≤ z → z ≤ B → z - (B * (1/2^53) + 1/2^200) ≤ R r ∧ R r ≤ z + (B * (1/2^53) + 1/2^200)
  rel : 1/2^1000 ≤ z → z - z * (1/2^53) ≤ R r ∧ R r ≤ z + z * (1/2^53)
  ex : Rep z → R r = z
  nonneg : 0 ≤ z → 0 ≤ R r
  nonpos : z ≤ 0 → R r ≤ 0

theorem le_of_mul {x y P : Rat} (h : x * P ≤ y * P) (hP : 0 < P) : x ≤ y := Rat.le_of_mul_le_mul_right h hP
theorem TW_big : 1 / 2 ^ 200 * TW ≥ 1 := by unfold TW; decide +kernel
theorem TW_big2 : 1 / 2 ^ 1000 * TW ≥ 2 ^ 53 := by unfold TW; decide +kernel
theorem TW_ne : TW ≠ 0 := fun h => by have := TW_pos; rw [h] at this; exact Rat.lt_irrefl this

/-- magnitudes: rho the result, zeta the true one -/
theorem mag_err {W D v : Nat} {ρ ζ : Rat} (hD : 0 < D) (h : 2 * Float64.dist W (D * v) ≤ D ∨ 2 ^ 53 * Float64.dist W (D * v) ≤ W) (hρ : ρ * TW = (v : Rat)) (hζ : ζ * (D : Rat) * TW = (W : Rat)) :
    (ρ ≤ ζ + (ζ * (1/2^53) + 1/2^200) ∧ ζ ≤ ρ + (ζ * (1/2^53) + 1/2^200)) ∧ (1/2^1000 ≤ ζ → ρ ≤ ζ + ζ * (1/2^53) ∧ ζ ≤ ρ + ζ * (1/2^53)) := by
  have hT := TW_pos
  have hb := TW_big
  have hb2 := TW_big2
  have hDr : (0 : Rat) < (D : Rat) := Rat.natCast_pos.mpr hD
  have hP : (0 : Rat) < (D : Rat) * TW := Rat.mul_pos hDr hT
  have hW0 : (0 : Rat) ≤ (W : Rat) := Rat.natCast_nonneg
  have e1 : ρ * ((D : Rat) * TW) = (D : Rat) * (v : Rat) := by rw [← hρ]; grind
  have e2 : ζ * ((D : Rat) * TW) = (W : Rat) := by rw [← hζ]; grind
  have hz0 : 0 ≤ ζ := le_of_mul (by rw [e2, Rat.zero_mul]; exact hW0) hP
  generalize hd : Float64.dist W (D * v) = d at *
  have f1 : D * v ≤ W + d := by unfold Float64.dist at hd; omega
  have f2 : W ≤ D * v + d := by unfold Float64.dist at hd; omega
  have g1 : (D : Rat) * (v : Rat) ≤ (W : Rat) + (d : Rat) := by rw [← Rat.natCast_mul, ← Rat.natCast_add]; exact Rat.natCast_le_natCast.mpr f1
  have g2 : (W : Rat) ≤ (D : Rat) * (v : Rat) + (d : Rat) := by rw [← Rat.natCast_mul, ← Rat.natCast_add]; exact Rat.natCast_le_natCast.mpr f2
  have key : ∀ ε : Rat, (d : Rat) ≤ ε * ((D : Rat) * TW) → ρ ≤ ζ + ε ∧ ζ ≤ ρ + ε := by
    intro ε hε
    refine ⟨le_of_mul ?_ hP, le_of_mul ?_ hP⟩
    · rw [Rat.add_mul, e1, e2]; grind
    · rw [Rat.add_mul, e1, e2]; grind
  rcases h with h | h
  · have h' : 2 * (d : Rat) ≤ (D : Rat) := by have := Rat.natCast_le_natCast.mpr h; rw [Rat.natCast_mul] at this; exact this
    have hA : (d : Rat) ≤ (1/2^200 : Rat) * ((D : Rat) * TW) := by
      have : (D : Rat) * 1 ≤ (D : Rat) * (1/2^200 * TW) := Rat.mul_le_mul_of_nonneg_left hb (Rat.le_of_lt hDr)
      grind
    have hA2 : 1/2^1000 ≤ ζ → (d : Rat) ≤ (ζ * (1/2^53) : Rat) * ((D : Rat) * TW) := by
      intro hz
      have a1 : (1/2^1000) * TW ≤ ζ * TW := Rat.mul_le_mul_of_nonneg_right hz (Rat.le_of_lt hT)
      have a2 : (2:Rat)^53 ≤ ζ * TW := Rat.le_trans hb2 a1
      have a3 : (D : Rat) * 2^53 ≤ (D : Rat) * (ζ * TW) := Rat.mul_le_mul_of_nonneg_left a2 (Rat.le_of_lt hDr)
      grind
    constructor
    · have := key _ hA
      have hz1 : 0 ≤ ζ * (1/2^53) := Rat.mul_nonneg hz0 (by decide +kernel)
      grind
    · intro hz; exact key _ (hA2 hz)
  · have h' : 2 ^ 53 * (d : Rat) ≤ (W : Rat) := by have := Rat.natCast_le_natCast.mpr h; rw [Rat.natCast_mul] at this; exact this
    have hA : (d : Rat) ≤ (ζ * (1/2^53) : Rat) * ((D : Rat) * TW) := by
      have : (ζ * (1/2^53) : Rat) * ((D : Rat) * TW) = (W : Rat) * (1/2^53) := by rw [← e2]; grind
      rw [this]; grind
    have := key _ hA
    constructor
    · have : (0 : Rat) ≤ 1/2^200 := by decide +kernel
      grind
    · intro _; exact this

theorem natAbs_pos {n : Int} (h : 0 ≤ n) : (n.natAbs : Rat) = (n : Rat) := by rw [← Rat.intCast_natCast]; congr 1; omega
theorem natAbs_neg {n : Int} (h : n ≤ 0) : (n.natAbs : Rat) = -(n : Rat) := by rw [← Rat.intCast_natCast, ← Rat.intCast_neg]; congr 1; omega
theorem nonneg_of {z P w : Rat} (h : z * P = w) (hw : 0 ≤ w) (hP : 0 < P) : 0 ≤ z := le_of_mul (by rw [h, Rat.zero_mul]; exact hw) hP

theorem sgn_false (n : Nat) : sgn false n = (n : Int) := rfl
theorem sgn_true (n : Nat) : sgn true n = -(n : Int) := rfl

theorem rd_of_right {r : UInt64} {neg : Bool} {W D : Nat} {z : Rat} (h : Right r neg W D) (hD : 0 < D) (hz : z * (D : Rat) * TW = (sgn neg W : Rat)) (hlo : -(2 ^ 900) ≤ z) (hhi : z ≤ 2 ^ 900) : Rd r z := by
  obtain ⟨t, rfl, hle, hov, hn⟩ := h
  have hT := TW_pos
  have hDr : (0 : Rat) < (D : Rat) := Rat.natCast_pos.mpr hD
  have hP : (0 : Rat) < (D : Rat) * TW := Rat.mul_pos hDr hT
  have hWle : (W : Rat) ≤ 2 ^ 900 * ((D : Rat) * TW) := by
    cases neg
    · have : (W : Rat) = z * ((D : Rat) * TW) := by rw [sgn_false, Rat.intCast_natCast] at hz; rw [← hz]; grind
      rw [this]; exact Rat.mul_le_mul_of_nonneg_right hhi (Rat.le_of_lt hP)
    · have : (W : Rat) = (-z) * ((D : Rat) * TW) := by rw [sgn_true, Rat.intCast_neg, Rat.intCast_natCast] at hz; grind
      rw [this]; exact Rat.mul_le_mul_of_nonneg_right (by grind) (Rat.le_of_lt hP)
  have hlt : t < infMag := by
    rcases Nat.lt_or_ge t infMag with h1 | h1
    · exact h1
    · exfalso
      have h2 := hov.mp (by omega)
      have h3 : W ≤ 2 ^ 900 * (D * 2 ^ 1074) := by
        rw [TW_nat] at hWle
        have : ((2 ^ 900 * (D * 2 ^ 1074) : Nat) : Rat) = 2 ^ 900 * ((D : Rat) * ((2 ^ 1074 : Nat) : Rat)) := by
          rw [Rat.natCast_mul, Rat.natCast_mul, Rat.natCast_pow]; rfl
        rw [← this] at hWle
        exact Rat.natCast_le_natCast.mp hWle
      have h4 : D * ((2 ^ 54 - 1) * 2 ^ 2045) ≤ 2 * (2 ^ 900 * (D * 2 ^ 1074)) := Nat.le_trans h2 (Nat.mul_le_mul_left 2 h3)
      have h5 : 2 * (2 ^ 900 * (D * 2 ^ 1074)) = D * (2 * (2 ^ 900 * 2 ^ 1074)) := by generalize (2:Nat)^900 = A; generalize (2:Nat)^1074 = B; ac_rfl
      rw [h5] at h4
      have h6 := Nat.le_of_mul_le_mul_left h4 hD
      exact absurd h6 (by decide +kernel)
  have hv : val (pack neg t) = sgn neg (V t) := val_pack neg hlt
  have hR : R (pack neg t) * TW = (sgn neg (V t) : Rat) := by rw [R_mul, hv]
  have near := near_of_right hD (fun t' => (hn hlt t').1)
  have exact' : ∀ t', D * V t' = W → V t = V t' := by
    intro t' e
    have := (hn hlt t').1
    rw [e] at this
    have h0 : Float64.dist W W = 0 := by unfold Float64.dist; omega
    rw [h0] at this
    have h1 : D * V t = W := by
      generalize D * V t = y at *
      unfold Float64.dist at this; omega
    exact Nat.eq_of_mul_eq_mul_left hD (h1.trans e.symm)
  have hrep : Rep z → R (pack neg t) = z := by
    rintro ⟨n, k, hn1, hn2⟩
    obtain ⟨t', ht'⟩ := V_rep k n.natAbs hn1
    have hWn : (W : Rat) = (D : Rat) * ((n.natAbs : Rat) * 2 ^ k) ∧ (sgn neg (V t') : Rat) = z * TW := by
      have hzz : z * (D : Rat) * TW = (D : Rat) * ((n : Rat) * 2 ^ k) := by rw [← hn2]; grind
      rw [hz] at hzz
      have hpk : (0 : Rat) < 2 ^ k := Rat.pow_pos (by decide)
      rw [ht', hn2]
      have hI : ((n.natAbs * 2 ^ k : Nat) : Rat) = (n.natAbs : Rat) * 2 ^ k := by rw [Rat.natCast_mul, Rat.natCast_pow]; rfl
      have hW0 : (0 : Rat) ≤ (W : Rat) := Rat.natCast_nonneg
      have hDk : (0 : Rat) < (D : Rat) * 2 ^ k := Rat.mul_pos hDr hpk
      cases neg
      · rw [sgn_false, Rat.intCast_natCast] at hzz ⊢
        have hn0 : 0 ≤ n := by
          rcases Int.lt_or_le n 0 with h | h
          · exfalso
            have h1 : (n : Rat) < 0 := Rat.intCast_neg_iff.mpr h
            have h2 : (n : Rat) * ((D : Rat) * 2 ^ k) < 0 * ((D : Rat) * 2 ^ k) := Rat.mul_lt_mul_of_pos_right h1 hDk
            grind
          · exact h
        have := natAbs_pos hn0
        rw [hI, this]; exact ⟨hzz, rfl⟩
      · rw [sgn_true, Rat.intCast_neg, Rat.intCast_natCast] at hzz ⊢
        have hn0 : n ≤ 0 := by
          rcases Int.lt_or_le 0 n with h | h
          · exfalso
            have h1 : (0 : Rat) < (n : Rat) := Rat.intCast_pos.mpr h
            have h2 : 0 * ((D : Rat) * 2 ^ k) < (n : Rat) * ((D : Rat) * 2 ^ k) := Rat.mul_lt_mul_of_pos_right h1 hDk
            grind
          · exact h
        have := natAbs_neg hn0
        rw [hI, this]; constructor <;> grind
    have hDW : D * V t' = W := by
      rw [ht']
      refine Rat.natCast_inj.mp ?_
      rw [hWn.1, Rat.natCast_mul, Rat.natCast_mul, Rat.natCast_pow]; rfl
    have hVV := exact' t' hDW
    have : R (pack neg t) * TW = z * TW := by rw [hR, hVV, hWn.2]
    exact Rat.le_antisymm (le_of_mul (by rw [this]; exact Rat.le_refl) hT) (le_of_mul (by rw [this]; exact Rat.le_refl) hT)
  have hV0 : (0 : Rat) ≤ (V t : Rat) := Rat.natCast_nonneg
  cases neg
  · rw [sgn_false, Rat.intCast_natCast] at hz hR
    have m := mag_err hD near hR hz
    have hR0 : 0 ≤ R (pack false t) := le_of_mul (by rw [hR, Rat.zero_mul]; exact hV0) hT
    refine ⟨fin_pack _ hlt, fun B h1 h2 => ?_, fun h1 => ?_, hrep, fun _ => hR0, fun h0 => ?_⟩
    · have := m.1; grind
    · have := m.2 h1; grind
    · have hW0 : (0 : Rat) ≤ (W : Rat) := Rat.natCast_nonneg
      have hz0 : z = 0 := by
        have : 0 ≤ z := nonneg_of (by rw [← Rat.mul_assoc]; exact hz) hW0 hP
        exact Rat.le_antisymm h0 this
      have : R (pack false t) = z := hrep ⟨0, 0, by decide, by rw [hz0]; decide +kernel⟩
      rw [this]; exact h0
  · rw [sgn_true, Rat.intCast_neg, Rat.intCast_natCast] at hz hR
    have hR' : (-R (pack true t)) * TW = (V t : Rat) := by grind
    have hz' : (-z) * (D : Rat) * TW = (W : Rat) := by grind
    have m := mag_err hD near hR' hz'
    have hR0 : 0 ≤ -R (pack true t) := le_of_mul (by rw [hR', Rat.zero_mul]; exact hV0) hT
    have hW0 : (0 : Rat) ≤ (W : Rat) := Rat.natCast_nonneg
    have hz0 : 0 ≤ -z := nonneg_of (by rw [← Rat.mul_assoc]; exact hz') hW0 hP
    refine ⟨fin_pack _ hlt, fun B h1 h2 => ?_, fun h1 => ?_, hrep, fun h0 => ?_, fun _ => by grind⟩
    · have := m.1; grind
    · exfalso
      have : (0 : Rat) < 1/2^1000 := by decide +kernel
      grind
    · have hz0 : z = 0 := by grind
      have : R (pack true t) = z := hrep ⟨0, 0, by decide, by rw [hz0]; decide +kernel⟩
      rw [this]; exact h0
end Mine
end
section
namespace Mine
open PySem PySem.Float64

theorem TW_ne0 : TW ≠ 0 := TW_ne
theorem eq_of_mul {x y P : Rat} (h : x * P = y * P) (hP : 0 < P) : x = y :=
  Rat.le_antisymm (le_of_mul (by rw [h]; exact Rat.le_refl) hP) (le_of_mul (by rw [h]; exact Rat.le_refl) hP)
theorem R_eq {x : UInt64} {z : Rat} (h : (val x : Rat) = z * TW) : R x = z := eq_of_mul (by rw [R_mul, h]) TW_pos

theorem fin_zero (b : Bool) : Fin (zero b) := fin_pack b (by decide)
theorem R_zero (b : Bool) : R (zero b) = 0 := by
  refine R_eq ?_
  have : val (zero b) = sgn b (V 0) := val_pack b (by decide)
  rw [this, V_zero]
  cases b <;> decide +kernel
theorem rd_exact {r : UInt64} {z : Rat} (hf : Fin r) (h : R r = z) : Rd r z := by
  have h0 : (0 : Rat) ≤ 1/2^200 := by decide +kernel
  exact ⟨hf, fun B h1 h2 => by grind, fun h1 => by have : (0:Rat) ≤ 1/2^1000 := by decide +kernel
                                                   grind, fun _ => h, fun h1 => by rw [h]; exact h1, fun h1 => by rw [h]; exact h1⟩
theorem Rd.cong {r : UInt64} {y z : Rat} (h : Rd r y) (e : y = z) : Rd r z := e ▸ h

theorem sgn_abs {z : Int} : sgn (decide (z < 0)) z.natAbs = z := by
  unfold sgn
  by_cases h : z < 0
  · rw [decide_eq_true h, if_pos rfl]; omega
  · rw [decide_eq_false h]; simp; omega

theorem add_rd {x y : UInt64} (hx : Fin x) (hy : Fin y) (lo : -(2 ^ 900) ≤ R x + R y) (hi : R x + R y ≤ 2 ^ 900) : Rd (add x y) (R x + R y) := by
  obtain ⟨a, m, e, hx⟩ := hx
  obtain ⟨b, k, f, hy⟩ := hy
  have hs : (R x + R y) * TW = ((val x + val y : Int) : Rat) := by rw [Rat.intCast_add, ← R_mul, ← R_mul]; grind
  obtain ⟨h0, h1⟩ := add_right hx hy
  by_cases hz : val x + val y = 0
  · rw [h0 hz]
    refine rd_exact (fin_zero _) ?_
    rw [R_zero]
    refine eq_of_mul ?_ TW_pos
    rw [hs, hz]; decide +kernel
  · refine rd_of_right (h1 hz) (by decide) ?_ lo hi
    rw [sgn_abs, ← hs]; grind

theorem neg_fin {y : UInt64} (hy : Fin y) : Fin (neg y) ∧ R (neg y) = -R y := by
  obtain ⟨b, k, f, hy⟩ := hy
  refine ⟨⟨_, _, _, neg_decode hy⟩, R_eq ?_⟩
  rw [neg_val hy, Rat.intCast_neg, ← R_mul]; grind
theorem sub_rd {x y : UInt64} (hx : Fin x) (hy : Fin y) (lo : -(2 ^ 900) ≤ R x - R y) (hi : R x - R y ≤ 2 ^ 900) : Rd (sub x y) (R x - R y) := by
  obtain ⟨h1, h2⟩ := neg_fin hy
  have e : R x - R y = R x + R (neg y) := by rw [h2]; grind
  rw [e] at lo hi ⊢
  unfold sub
  exact add_rd hx h1 lo hi

theorem sgn_xor {a b : Bool} {m k : Nat} : sgn (a != b) (m * k) = sgn a m * sgn b k := by
  cases a <;> cases b <;> simp [sgn, Int.neg_mul, Int.mul_neg]
theorem sgn_val {x : UInt64} {a : Bool} {m : Nat} {e : Int} (hx : decode x = .fin a m e) : sgn a (val x).natAbs = val x := by
  rw [val_natAbs hx, val_eq hx]

theorem mul_rd {x y : UInt64} (hx : Fin x) (hy : Fin y) (lo : -(2 ^ 900) ≤ R x * R y) (hi : R x * R y ≤ 2 ^ 900) : Rd (mul x y) (R x * R y) := by
  obtain ⟨a, m, e, hx⟩ := hx
  obtain ⟨b, k, f, hy⟩ := hy
  refine rd_of_right (mul_right hx hy) (Nat.two_pow_pos _) ?_ lo hi
  rw [sgn_xor, sgn_val hx, sgn_val hy, Rat.intCast_mul, ← R_mul, ← R_mul, ← TW_nat]; grind

theorem val_ne {x : UInt64} (h : R x ≠ 0) : val x ≠ 0 := fun e => h (R_eq (by rw [e]; grind))
theorem ne_of_val {x : UInt64} {a : Bool} {m : Nat} {e : Int} (hx : decode x = .fin a m e) (h : R x ≠ 0) : m ≠ 0 := fun q => by
  have := val_ne h
  rw [val_eq hx, q] at this
  simp [sgn] at this
theorem sgn_div {a b : Bool} {W D : Nat} : sgn (a != b) W * sgn b D = sgn a W * (D : Int) := by
  cases a <;> cases b <;> simp [sgn, Int.neg_mul, Int.mul_neg]
theorem div_rd {x y : UInt64} (hx : Fin x) (hy : Fin y) (h0 : R y ≠ 0) (lo : -(2 ^ 900) ≤ R x / R y) (hi : R x / R y ≤ 2 ^ 900) : Rd (div x y) (R x / R y) := by
  obtain ⟨a, m, e, hx⟩ := hx
  obtain ⟨b, k, f, hy⟩ := hy
  have hv := val_ne h0
  refine rd_of_right (div_right hx hy (ne_of_val hy h0)) (by omega) ?_ lo hi
  have e1 : sgn (a != b) ((val x).natAbs * 2 ^ 1074) * sgn b (val y).natAbs = sgn a ((val x).natAbs * 2 ^ 1074) * ((val y).natAbs : Int) := sgn_div
  rw [sgn_val hy, sgn_mul a, sgn_val hx] at e1
  have e2 := congrArg (fun z : Int => (z : Rat)) e1
  simp only [Rat.intCast_mul] at e2
  rw [show (((2 ^ 1074 : Nat) : Int) : Rat) = TW by rw [TW_nat, Rat.intCast_natCast]] at e2
  have hvr : (val y : Rat) ≠ 0 := fun q => hv (Rat.intCast_eq_zero_iff.mp q)
  rw [Rat.intCast_natCast] at e2
  have e3 : R x / R y = (val x : Rat) / (val y : Rat) := by
    have h1 := R_mul x
    have h2 := R_mul y
    have := TW_ne
    rw [← h1, ← h2]
    grind
  rw [e3]
  generalize ((val y).natAbs : Rat) = D at *
  generalize (sgn (a != b) ((val x).natAbs * 2 ^ 1074) : Rat) = S at *
  have : S = (val x : Rat) * TW * D / (val y : Rat) := by grind
  rw [this]; grind

theorem ofFrac_rd {neg : Bool} {n d : Nat} {z : Rat} (hd : 0 < d) (hz : z * (d : Rat) = (sgn neg n : Rat)) (lo : -(2 ^ 900) ≤ z) (hi : z ≤ 2 ^ 900) : Rd (ofFrac neg n d) z := by
  refine rd_of_right (ofFrac_right (W := n * 2 ^ 1074) (D := d) hd rfl hd) hd ?_ lo hi
  rw [hz, sgn_mul, Rat.intCast_mul, TW_nat, Rat.intCast_natCast]
theorem ofInt_rd {n : Int} (lo : -(2 ^ 900) ≤ (n : Rat)) (hi : (n : Rat) ≤ 2 ^ 900) : Rd (ofInt n) (n : Rat) := by
  unfold ofInt
  refine ofFrac_rd (by decide) ?_ lo hi
  rw [sgn_abs]; grind

theorem rep_int {n : Int} (h : n.natAbs ≤ 2 ^ 53) : Rep (n : Rat) := ⟨n, 1074, h, rfl⟩
theorem Rep.neg {z : Rat} (h : Rep z) : Rep (-z) := by
  obtain ⟨n, k, h1, h2⟩ := h
  exact ⟨-n, k, by omega, by rw [Rat.intCast_neg]; grind⟩

theorem fma_rd {x y w : UInt64} (hx : Fin x) (hy : Fin y) (hw : Fin w) (lo : -(2 ^ 900) ≤ R x * R y + R w) (hi : R x * R y + R w ≤ 2 ^ 900) : Rd (fma x y w) (R x * R y + R w) := by
  obtain ⟨a, m, e, hx⟩ := hx
  obtain ⟨b, k, f, hy⟩ := hy
  obtain ⟨c, n, g, hw⟩ := hw
  have he := decode_ge hx
  have hf := decode_ge hy
  have hg := decode_ge hw
  generalize hh : min (e + f) g = h at *
  have hfma : fma x y w = (if sgn (a != b) (m * k * 2 ^ (e + f - h).toNat) + sgn c (n * 2 ^ (g - h).toNat) == 0 then zero (if m * k == 0 && n == 0 then (a != b) && c else false)
      else ofBin (decide (sgn (a != b) (m * k * 2 ^ (e + f - h).toNat) + sgn c (n * 2 ^ (g - h).toNat) < 0)) (sgn (a != b) (m * k * 2 ^ (e + f - h).toNat) + sgn c (n * 2 ^ (g - h).toNat)).natAbs h) := by
    subst hh
    unfold fma
    rw [hx, hy, hw]
    rfl
  have hp : (sgn (a != b) (m * k * 2 ^ (e + f - h).toNat) + sgn c (n * 2 ^ (g - h).toNat)) * ((2 ^ (h + 2148).toNat : Nat) : Int) = val x * val y + val w * ((2 ^ 1074 : Nat) : Int) := by
    rw [Int.add_mul, ← sgn_mul, ← sgn_mul, val_eq hx, val_eq hy, val_eq hw, ← sgn_xor, ← sgn_mul, Nat.mul_assoc, Nat.mul_assoc n, Nat.mul_assoc n, ← Nat.pow_add, ← Nat.pow_add, ← Nat.pow_add]
    have e1 : (e + f - h).toNat + (h + 2148).toNat = (e + 1074).toNat + (f + 1074).toNat := by omega
    have e2 : (g - h).toNat + (h + 2148).toNat = (g + 1074).toNat + 1074 := by omega
    rw [e1, e2, Nat.pow_add]
    generalize (2 : Nat) ^ (e + 1074).toNat = A
    generalize (2 : Nat) ^ (f + 1074).toNat = B
    rw [show m * k * (A * B) = m * A * (k * B) by ac_rfl, Nat.pow_add, ← Nat.mul_assoc n]
  generalize sgn (a != b) (m * k * 2 ^ (e + f - h).toNat) + sgn c (n * 2 ^ (g - h).toNat) = s at *
  have hz : (R x * R y + R w) * TW * TW = ((s * ((2 ^ (h + 2148).toNat : Nat) : Int) : Int) : Rat) := by
    rw [hp, Rat.intCast_add, Rat.intCast_mul, Rat.intCast_mul, ← R_mul, ← R_mul, ← R_mul, Rat.intCast_natCast, ← TW_nat]; grind
  by_cases hs : s = 0
  · rw [hfma, hs]
    rw [show ((0 : Int) == 0) = true from rfl, if_pos rfl]
    refine rd_exact (fin_zero _) ?_
    rw [hs, Int.zero_mul] at hz
    rw [R_zero]
    have := TW_ne
    have h3 : ((0 : Int) : Rat) = 0 := rfl
    rw [h3] at hz
    grind
  · rw [hfma, if_neg (by simpa using hs)]
    have hr : Right (ofBin (decide (s < 0)) s.natAbs h) (decide (s < 0)) (s.natAbs * 2 ^ (h + 2148).toNat) (2 ^ 1074) := by
      unfold ofBin
      refine ofFrac_right (shift_pos _ _ _ (by decide)) ?_ (Nat.two_pow_pos _)
      have := shift_one s.natAbs h 2148 (by omega)
      rw [Nat.mul_assoc _ (2 ^ 1074) (2 ^ 1074), ← Nat.pow_add]
      exact this
    refine rd_of_right hr (Nat.two_pow_pos _) ?_ lo hi
    rw [sgn_mul, sgn_abs, ← TW_nat, ← hz]

theorem abs_fin {x : UInt64} (hx : Fin x) : Fin (Float64.abs x) ∧ (0 ≤ R x → R (Float64.abs x) = R x) ∧ (R x ≤ 0 → R (Float64.abs x) = -R x) := by
  obtain ⟨a, m, e, h⟩ := hx
  have hnan : isNaN x = false := by unfold isNaN; rw [h]
  have hle := decode_le h
  have hn : (Float64.abs x).toNat = x.toNat % 2 ^ 63 := by
    unfold Float64.abs
    rw [if_neg (by simp [hnan]), pack_toNat false (Nat.mod_lt _ (by decide))]; simp
  have h1 : (Float64.abs x).toNat / 2 ^ 63 = 0 := by omega
  have h2 : (Float64.abs x).toNat / 2 ^ 52 % 2048 = x.toNat / 2 ^ 52 % 2048 := by omega
  have h3 : (Float64.abs x).toNat % 2 ^ 52 = x.toNat % 2 ^ 52 := by omega
  have hd : decode (Float64.abs x) = .fin false m e := by
    unfold decode at h ⊢
    simp only [h1, h2, h3] at h ⊢
    split at h
    · split at h <;> cases h
    · rename_i q1
      rw [if_neg q1]
      split at h
      · rename_i q2; rw [if_pos q2]; cases h; rfl
      · rename_i q2; rw [if_neg q2]; cases h; rfl
  have hv : val (Float64.abs x) = ((m * 2 ^ (e + 1074).toNat : Nat) : Int) := by rw [val_eq hd]; rfl
  have hvx := val_eq h
  have key := R_mul x
  refine ⟨⟨_, _, _, hd⟩, fun h0 => R_eq ?_, fun h0 => R_eq ?_⟩
  · rw [key, hv, hvx]
    cases a
    · rfl
    · have hm0 : (0 : Rat) ≤ ((m * 2 ^ (e + 1074).toNat : Nat) : Rat) := Rat.natCast_nonneg
      have : 0 ≤ R x * TW := Rat.mul_nonneg h0 (Rat.le_of_lt TW_pos)
      rw [key, hvx, sgn_true, Rat.intCast_neg, Rat.intCast_natCast] at this
      rw [sgn_true, Rat.intCast_neg, Rat.intCast_natCast]
      grind
  · rw [show -R x * TW = -(R x * TW) by grind, key, hv, hvx]
    cases a
    · have hm0 : (0 : Rat) ≤ ((m * 2 ^ (e + 1074).toNat : Nat) : Rat) := Rat.natCast_nonneg
      have : 0 ≤ (-R x) * TW := Rat.mul_nonneg (by grind) (Rat.le_of_lt TW_pos)
      rw [show -R x * TW = -(R x * TW) by grind, key, hvx, sgn_false, Rat.intCast_natCast] at this
      rw [sgn_false, Rat.intCast_natCast]
      grind
    · rw [sgn_true, Rat.intCast_neg]; grind

theorem val_lt_iff {x y : UInt64} : val x < val y ↔ R x < R y := by
  rw [← Rat.intCast_lt_intCast, ← R_mul, ← R_mul]
  exact Rat.mul_lt_mul_right TW_pos
theorem val_eq_iff {x y : UInt64} : val x = val y ↔ R x = R y := by
  rw [← Rat.intCast_inj, ← R_mul, ← R_mul]
  exact ⟨fun h => eq_of_mul h TW_pos, fun h => by rw [h]⟩
theorem cmp_fin {x y : UInt64} (hx : Fin x) (hy : Fin y) : cmp x y = some (compare (val x) (val y)) := by
  obtain ⟨a, m, e, hx⟩ := hx
  obtain ⟨b, k, f, hy⟩ := hy
  exact cmp_right hx hy
theorem cmp_eq_of {x y : UInt64} (hx : Fin x) (hy : Fin y) (h : R x = R y) : (cmp x y == some .eq) = true := by
  rw [cmp_fin hx hy, val_eq_iff.mpr h, Int.compare_eq_eq.mpr rfl]; rfl
theorem cmp_lt_of {x y : UInt64} (hx : Fin x) (hy : Fin y) (h : R x < R y) : cmp x y = some .lt := by
  rw [cmp_fin hx hy, Int.compare_eq_lt.mpr (val_lt_iff.mpr h)]
theorem cmp_gt_of {x y : UInt64} (hx : Fin x) (hy : Fin y) (h : R y < R x) : cmp x y = some .gt := by
  rw [cmp_fin hx hy, Int.compare_eq_gt.mpr (val_lt_iff.mpr h)]
theorem cmp_not_lt {x y : UInt64} (hx : Fin x) (hy : Fin y) (h : R y ≤ R x) : (cmp x y == some .lt) = false := by
  rw [cmp_fin hx hy]
  have : ¬ val x < val y := fun q => by have := val_lt_iff.mp q; grind
  cases hc : compare (val x) (val y) with
  | lt => exact absurd (Int.compare_eq_lt.mp hc) this
  | eq => rfl
  | gt => rfl

/-- the root -/
theorem gap_up {t : Nat} (h : 2 ^ 52 ≤ t) : 2 ^ 52 * (V (t + 1) - V t) ≤ V t := by
  obtain ⟨k, q, ht, hq, hor, hV⟩ := V_form t
  have h2 : 2 ^ 52 ≤ q := by rcases hor with h3 | h3 <;> omega
  have e : t + 1 = k * 2 ^ 52 + (q + 1) := by omega
  rw [hV, e, V_at (by omega) (.inl (by omega)), Nat.add_mul, Nat.add_sub_cancel_left, Nat.one_mul]
  exact Nat.mul_le_mul_right _ h2
theorem gap_down {t : Nat} (h : 2 ^ 52 ≤ t) : 2 ^ 52 * (V t - V (t - 1)) ≤ V t := by
  obtain ⟨k, q, ht, hq, hor, hV⟩ := V_form t
  have h2 : 2 ^ 52 ≤ q := by rcases hor with h3 | h3 <;> omega
  by_cases h3 : 2 ^ 52 < q ∨ k = 0
  · have e : t - 1 = k * 2 ^ 52 + (q - 1) := by omega
    rw [hV, e, V_at (by omega) (by omega)]
    have : q * 2 ^ k - (q - 1) * 2 ^ k = 2 ^ k := by
      rw [← Nat.sub_mul]; rw [show q - (q - 1) = 1 by omega, Nat.one_mul]
    rw [this]
    exact Nat.mul_le_mul_right _ h2
  · have hq : q = 2 ^ 52 := by omega
    have hk : k ≠ 0 := by omega
    obtain ⟨j, rfl⟩ : ∃ j, k = j + 1 := ⟨k - 1, by omega⟩
    have e : t - 1 = j * 2 ^ 52 + (2 ^ 53 - 1) := by omega
    rw [hV, e, V_at (by omega) (.inl (by omega)), hq, Nat.pow_succ 2 j]
    generalize (2 : Nat) ^ j = P
    omega
theorem sqrt_rd {x : UInt64} (hx : Fin x) (h0 : 0 < R x) (hlo : 1 / 2 ^ 900 ≤ R x) (hhi : R x ≤ 2 ^ 900) :
    Fin (sqrt x) ∧ 0 ≤ R (sqrt x) ∧ R x ≤ R (sqrt x) * R (sqrt x) * ((1 + 1/2^53) * (1 + 1/2^53)) ∧ R (sqrt x) * R (sqrt x) * ((1 - 1/2^53) * (1 - 1/2^53)) ≤ R x := by
  obtain ⟨a, m, e, hd⟩ := hx
  have hv := R_mul x
  have hpos : 0 < val x := by
    have : (0 : Rat) < R x * TW := Rat.mul_pos h0 TW_pos
    rw [hv] at this
    exact Rat.intCast_pos.mp this
  have ha : a = false := by
    cases a
    · rfl
    · rw [val_eq hd, sgn_true] at hpos; omega
  subst ha
  have hm : m ≠ 0 := ne_of_val hd (fun q => by rw [q] at h0; exact Rat.lt_irrefl h0)
  obtain ⟨t, ht, hlt, up, dn⟩ := sqrt_right hd hm
  have hX : (val x).natAbs * 2 ^ 1074 ≥ 2 ^ 1074 := Nat.le_mul_of_pos_left _ (by omega)
  have ht52 : 2 ^ 52 ≤ t := by
    rcases Nat.lt_or_ge t (2 ^ 52) with h | h
    · exfalso
      have h1 := up (t + 1) (by omega)
      have v1 : V t ≤ 2 ^ 53 := by
        have := V_mono (show t ≤ 2 ^ 52 by omega)
        have e1 : V (2 ^ 52) = 2 ^ 52 := by decide +kernel
        omega
      have v2 : V (t + 1) ≤ 2 ^ 53 := by
        have := V_mono (show t + 1 ≤ 2 ^ 52 by omega)
        have e1 : V (2 ^ 52) = 2 ^ 52 := by decide +kernel
        omega
      have h2 : (V t + V (t + 1)) * (V t + V (t + 1)) ≤ 2 ^ 54 * 2 ^ 54 := Nat.mul_le_mul (by omega) (by omega)
      have h3 : (2 : Nat) ^ 54 * 2 ^ 54 < 4 * 2 ^ 1074 := by decide +kernel
      have h4 := Nat.mul_le_mul_left 4 hX
      exact absurd (Nat.lt_of_lt_of_le h3 (Nat.le_trans h4 (Nat.le_trans h1 h2))) (Nat.lt_irrefl _)
    · exact h
  have gu := gap_up ht52
  have gd := gap_down ht52
  have u1 := up (t + 1) (by omega)
  have d1 := dn (t - 1) (by omega)
  have hvs : val (sqrt x) = ((V t : Nat) : Int) := by rw [ht, val_pack false hlt]; rfl
  have hRs : R (sqrt x) * TW = (V t : Rat) := by rw [R_mul, hvs, Rat.intCast_natCast]
  have hVt : (0 : Rat) ≤ (V t : Rat) := Rat.natCast_nonneg
  have hR0 : 0 ≤ R (sqrt x) := nonneg_of hRs hVt TW_pos
  have hXr : (((val x).natAbs * 2 ^ 1074 : Nat) : Rat) = R x * (TW * TW) := by
    rw [Rat.natCast_mul, ← TW_nat, natAbs_pos (by omega), ← hv]; grind
  have hTT : 0 < TW * TW := Rat.mul_pos TW_pos TW_pos
  generalize (val x).natAbs * 2 ^ 1074 = X at *
  have vs := V_succ t
  have vp : V (t - 1) ≤ V t := V_mono (by omega)
  -- in rationals
  have A1 : (2:Rat) ^ 52 * ((V (t + 1) : Rat) - (V t : Rat)) ≤ (V t : Rat) := by
    have := Rat.natCast_le_natCast.mpr (show 2 ^ 52 * V (t + 1) ≤ V t + 2 ^ 52 * V t by omega)
    simp only [Rat.natCast_mul, Rat.natCast_add] at this
    have c : ((2 ^ 52 : Nat) : Rat) = 2 ^ 52 := rfl
    rw [c] at this
    grind
  have A2 : (2:Rat) ^ 52 * ((V t : Rat) - (V (t - 1) : Rat)) ≤ (V t : Rat) := by
    have := Rat.natCast_le_natCast.mpr (show 2 ^ 52 * V t ≤ V t + 2 ^ 52 * V (t - 1) by omega)
    simp only [Rat.natCast_mul, Rat.natCast_add] at this
    have c : ((2 ^ 52 : Nat) : Rat) = 2 ^ 52 := rfl
    rw [c] at this
    grind
  have B1 : 4 * (X : Rat) ≤ ((V t : Rat) + (V (t + 1) : Rat)) * ((V t : Rat) + (V (t + 1) : Rat)) := by
    have := Rat.natCast_le_natCast.mpr u1
    simp only [Rat.natCast_mul, Rat.natCast_add] at this
    exact this
  have B2 : ((V t : Rat) + (V (t - 1) : Rat)) * ((V t : Rat) + (V (t - 1) : Rat)) ≤ 4 * (X : Rat) := by
    have := Rat.natCast_le_natCast.mpr d1
    simp only [Rat.natCast_mul, Rat.natCast_add] at this
    exact this
  have hVp : (0 : Rat) ≤ (V (t - 1) : Rat) := Rat.natCast_nonneg
  have hVs : (0 : Rat) ≤ (V (t + 1) : Rat) := Rat.natCast_nonneg
  rw [hXr] at B1 B2
  rw [← hRs] at *
  generalize (V (t + 1) : Rat) = vu at *
  generalize (V (t - 1) : Rat) = vd at *
  generalize hρ : R (sqrt x) = ρ at *
  have hρT : 0 ≤ ρ * TW := hVt
  have sq : ∀ p q : Rat, 0 ≤ p → p ≤ q → p * p ≤ q * q := fun p q h1 h2 =>
    Rat.le_trans (Rat.mul_le_mul_of_nonneg_left h2 h1) (Rat.mul_le_mul_of_nonneg_right h2 (Rat.le_trans h1 h2))
  refine ⟨ht ▸ fin_pack _ hlt, hR0, le_of_mul (P := TW * TW) ?_ hTT, le_of_mul (P := TW * TW) ?_ hTT⟩
  · have h1 : ρ * TW + vu ≤ 2 * (ρ * TW) * (1 + 1/2^53) := by grind
    have h2 := sq _ _ (by grind) h1
    grind
  · have h1 : 2 * (ρ * TW) * (1 - 1/2^53) ≤ ρ * TW + vd := by grind
    have h2 := sq _ _ (by have : 0 ≤ (ρ * TW) * (2 * (1 - 1/2^53)) := Rat.mul_nonneg hρT (by decide +kernel)
                          grind) h1
    grind
end Mine
end
section
namespace Mine
open PySem PySem.Float64 PySem.Builtin.Math

/-- the heart of math.hypot of two scaled numbers -/
def core (p q : UInt64) : UInt64 :=
  let z1 := mul p p
  let l1 := fma p p (neg z1)
  let x1 := add one z1
  let y1 := add (sub one x1) z1
  let z2 := mul q q
  let l2 := fma q q (neg z2)
  let x2 := add x1 z2
  let y2 := add (sub x1 x2) z2
  let F := add (add (zero false) l1) l2
  let G := add (add (zero false) y1) y2
  let h := sqrt (add (sub x2 one) (add F G))
  let z3 := mul (neg h) h
  let l3 := fma (neg h) h (neg z3)
  let x3 := add x2 z3
  let y3 := add (sub x2 x3) z3
  let X := add (sub x3 one) (add (add F l3) (add G y3))
  add h (div X (mul (ofInt 2) h))
theorem scaled_core (p q big : UInt64) : scaledNorm [p, q] big =
    div (core (mul p (ldexp one (-(frexp big).2))) (mul q (ldexp one (-(frexp big).2)))) (ldexp one (-(frexp big).2)) := rfl

theorem one_fin : Fin one ∧ R one = 1 := ⟨⟨false, 2 ^ 52, -52, by with_unfolding_all rfl⟩, R_eq (by decide +kernel)⟩
theorem two_fin : Fin (ofInt 2) ∧ R (ofInt 2) = 2 := ⟨⟨false, 2 ^ 52, -51, by with_unfolding_all rfl⟩, R_eq (by decide +kernel)⟩

theorem big900 : (2 : Rat) ^ 20 ≤ 2 ^ 900 := by decide +kernel
/-- an operation of numbers of everyday size -/
theorem Rd.at {r : UInt64} {z : Rat} (h : Rd r z) (B : Rat) (h1 : -B ≤ z) (h2 : z ≤ B) : z - (B * (1/2^53) + 1/2^200) ≤ R r ∧ R r ≤ z + (B * (1/2^53) + 1/2^200) := h.err B h1 h2
theorem add_s {x y : UInt64} (hx : Fin x) (hy : Fin y) (lo : -1000 ≤ R x + R y) (hi : R x + R y ≤ 1000) : Rd (add x y) (R x + R y) :=
  add_rd hx hy (Rat.le_trans (by decide +kernel) lo) (Rat.le_trans hi (by decide +kernel))
theorem sub_s {x y : UInt64} (hx : Fin x) (hy : Fin y) (lo : -1000 ≤ R x - R y) (hi : R x - R y ≤ 1000) : Rd (sub x y) (R x - R y) :=
  sub_rd hx hy (Rat.le_trans (by decide +kernel) lo) (Rat.le_trans hi (by decide +kernel))
theorem mul_s {x y : UInt64} (hx : Fin x) (hy : Fin y) (lo : -1000 ≤ R x * R y) (hi : R x * R y ≤ 1000) : Rd (mul x y) (R x * R y) :=
  mul_rd hx hy (Rat.le_trans (by decide +kernel) lo) (Rat.le_trans hi (by decide +kernel))
theorem fma_s {x y w : UInt64} (hx : Fin x) (hy : Fin y) (hw : Fin w) (lo : -1000 ≤ R x * R y + R w) (hi : R x * R y + R w ≤ 1000) : Rd (fma x y w) (R x * R y + R w) :=
  fma_rd hx hy hw (Rat.le_trans (by decide +kernel) lo) (Rat.le_trans hi (by decide +kernel))
theorem div_s {x y : UInt64} (hx : Fin x) (hy : Fin y) (h0 : R y ≠ 0) (lo : -1000 ≤ R x / R y) (hi : R x / R y ≤ 1000) : Rd (div x y) (R x / R y) :=
  div_rd hx hy h0 (Rat.le_trans (by decide +kernel) lo) (Rat.le_trans hi (by decide +kernel))

theorem add_at {x y : UInt64} (hx : Fin x) (hy : Fin y) (B : Rat) (hB : B ≤ 1000) (lo : -B ≤ R x + R y) (hi : R x + R y ≤ B) : Rd (add x y) (R x + R y) ∧ (R x + R y - (B * (1/2^53) + 1/2^200) ≤ R (add x y) ∧ R (add x y) ≤ R x + R y + (B * (1/2^53) + 1/2^200)) :=
  have h := add_s hx hy (Rat.le_trans (Rat.neg_le_neg hB) lo) (Rat.le_trans hi hB); ⟨h, h.at B lo hi⟩
theorem sub_at {x y : UInt64} (hx : Fin x) (hy : Fin y) (B : Rat) (hB : B ≤ 1000) (lo : -B ≤ R x - R y) (hi : R x - R y ≤ B) : Rd (sub x y) (R x - R y) ∧ (R x - R y - (B * (1/2^53) + 1/2^200) ≤ R (sub x y) ∧ R (sub x y) ≤ R x - R y + (B * (1/2^53) + 1/2^200)) :=
  have h := sub_s hx hy (Rat.le_trans (Rat.neg_le_neg hB) lo) (Rat.le_trans hi hB); ⟨h, h.at B lo hi⟩
theorem mul_at {x y : UInt64} {Z : Rat} (hx : Fin x) (hy : Fin y) (e : R x * R y = Z) (B : Rat) (hB : B ≤ 1000) (lo : -B ≤ Z) (hi : Z ≤ B) : Rd (mul x y) Z ∧ (Z - (B * (1/2^53) + 1/2^200) ≤ R (mul x y) ∧ R (mul x y) ≤ Z + (B * (1/2^53) + 1/2^200)) := by
  subst e
  have h := mul_s hx hy (Rat.le_trans (Rat.neg_le_neg hB) lo) (Rat.le_trans hi hB)
  exact ⟨h, h.at B lo hi⟩
theorem fma_at {x y w : UInt64} {Z : Rat} (hx : Fin x) (hy : Fin y) (hw : Fin w) (e : R x * R y + R w = Z) (B : Rat) (hB : B ≤ 1000) (lo : -B ≤ Z) (hi : Z ≤ B) : Rd (fma x y w) Z ∧ (Z - (B * (1/2^53) + 1/2^200) ≤ R (fma x y w) ∧ R (fma x y w) ≤ Z + (B * (1/2^53) + 1/2^200)) := by
  subst e
  have h := fma_s hx hy hw (Rat.le_trans (Rat.neg_le_neg hB) lo) (Rat.le_trans hi hB)
  exact ⟨h, h.at B lo hi⟩

/-- the product and its rest -/
theorem prod_s {p : UInt64} (hp : Fin p) (A : Rat) (hA : R p * R p = A) (h0 : 0 ≤ A) (h1 : A ≤ 1) :
    Fin (mul p p) ∧ Fin (fma p p (neg (mul p p))) ∧ 0 ≤ R (mul p p) ∧ (A - R (mul p p) ≤ 1/2^53 + 1/2^200 ∧ R (mul p p) - A ≤ 1/2^53 + 1/2^200) ∧
    (R (fma p p (neg (mul p p))) - (A - R (mul p p)) ≤ 2/2^106 ∧ (A - R (mul p p)) - R (fma p p (neg (mul p p))) ≤ 2/2^106) := by
  obtain ⟨m, e⟩ := mul_at hp hp hA 1 (by decide +kernel) (by grind) h1
  have n := neg_fin m.fin
  have n0 := m.nonneg h0
  obtain ⟨f, g⟩ := fma_at (Z := A + -R (mul p p)) hp hp n.1 (by rw [hA, n.2]) (3/2 * (1/2^53)) (by decide +kernel) (by grind) (by grind)
  exact ⟨m.fin, f.fin, n0, by grind, by grind⟩

/-- the fast sum and its rest: x ≈ c + z -/
theorem fast_s {c z : UInt64} (hc : Fin c) (hz : Fin z) (M N : Rat) (hM : -M ≤ R c + R z ∧ R c + R z ≤ M) (hM4 : M ≤ 4) (hN : -N ≤ R z ∧ R z ≤ N) (hN4 : N ≤ 4) (hN0 : 0 ≤ N) (hM0 : 0 ≤ M) :
    Fin (add c z) ∧ Fin (add (sub c (add c z)) z) ∧ ((R c + R z) - R (add c z) ≤ M * (1/2^53) + 1/2^200 ∧ R (add c z) - (R c + R z) ≤ M * (1/2^53) + 1/2^200) ∧
    (R (add (sub c (add c z)) z) - ((R c + R z) - R (add c z)) ≤ N * (1/2^53) + 20/2^106 ∧ ((R c + R z) - R (add c z)) - R (add (sub c (add c z)) z) ≤ N * (1/2^53) + 20/2^106) := by
  obtain ⟨a, e⟩ := add_at hc hz M (Rat.le_trans hM4 (by decide +kernel)) hM.1 hM.2
  obtain ⟨s, f⟩ := sub_at hc a.fin (N + 5 * (1/2^53)) (by clear hM hM0 hN hN0 e; grind) (by grind) (by grind)
  obtain ⟨b, g⟩ := add_at s.fin hz (10 * (1/2^53)) (by decide +kernel) (by grind) (by grind)
  exact ⟨a.fin, b.fin, by grind, by grind⟩

theorem zero_fin : Fin (zero false) ∧ R (zero false) = 0 := ⟨fin_zero _, R_zero _⟩

/-- up to the root's argument -/
theorem core1 {p q : UInt64} (hp : Fin p) (hq : Fin q) (A B : Rat) (hA : R p * R p = A) (hB : R q * R q = B) (a0 : 0 ≤ A) (a1 : A ≤ 1) (b0 : 0 ≤ B) (b1 : B ≤ 1) (hS : 1/4 ≤ A + B) :
    ∃ x2 F G : UInt64, Fin x2 ∧ Fin F ∧ Fin G ∧
      core p q = (let h := sqrt (add (sub x2 one) (add F G)); let z3 := mul (neg h) h; let l3 := fma (neg h) h (neg z3); let x3 := add x2 z3; let y3 := add (sub x2 x3) z3
        let X := add (sub x3 one) (add (add F l3) (add G y3)); add h (div X (mul (ofInt 2) h))) ∧
      (R x2 - 1 - (A + B) ≤ 9 * (1/2^53) ∧ (A + B) - (R x2 - 1) ≤ 9 * (1/2^53)) ∧ (-(6 * (1/2^53)) ≤ R F ∧ R F ≤ 6 * (1/2^53)) ∧ (-(12 * (1/2^53)) ≤ R G ∧ R G ≤ 12 * (1/2^53)) ∧
      (R x2 - 1 + R F + R G - (A + B) ≤ (A + B) * (1/2^53) + 100/2^106 ∧ (A + B) - (R x2 - 1 + R F + R G) ≤ (A + B) * (1/2^53) + 100/2^106) := by
  obtain ⟨o1, o2⟩ := one_fin
  obtain ⟨fz1, fl1, z10, ez1, el1⟩ := prod_s hp A hA a0 a1
  obtain ⟨fz2, fl2, z20, ez2, el2⟩ := prod_s hq B hB b0 b1
  obtain ⟨fx1, fy1, ex1, ey1⟩ := fast_s o1 fz1 (R (mul p p) + 1) (R (mul p p)) (by grind) (by grind) (by grind) (by grind) z10 (by grind)
  obtain ⟨fx2, fy2, ex2, ey2⟩ := fast_s fx1 fz2 4 (R (mul q q)) (by grind) (by grind) (by grind) (by grind) z20 (by grind)
  obtain ⟨i1, i2⟩ := zero_fin
  generalize hz1 : mul p p = z1 at *
  generalize hz2 : mul q q = z2 at *
  generalize hl1 : fma p p (neg z1) = l1 at *
  generalize hl2 : fma q q (neg z2) = l2 at *
  generalize hx1 : add one z1 = x1 at *
  generalize hy1 : add (sub one x1) z1 = y1 at *
  generalize hx2 : add x1 z2 = x2 at *
  generalize hy2 : add (sub x1 x2) z2 = y2 at *
  obtain ⟨F0, eF0⟩ := add_at i1 fl1 (2 * (1/2^53)) (by decide +kernel) (by grind) (by grind)
  obtain ⟨F1, eF1⟩ := add_at F0.fin fl2 (4 * (1/2^53)) (by decide +kernel) (by grind) (by grind)
  obtain ⟨G0, eG0⟩ := add_at i1 fy1 (5 * (1/2^53)) (by decide +kernel) (by grind) (by grind)
  obtain ⟨G1, eG1⟩ := add_at G0.fin fy2 (11 * (1/2^53)) (by decide +kernel) (by grind) (by grind)
  refine ⟨x2, _, _, fx2, F1.fin, G1.fin, ?_, by grind, by grind, by grind, by grind⟩
  unfold core
  simp only [hz1, hz2, hl1, hl2, hx1, hy1, hx2, hy2]

theorem sqle {p q : Rat} (h1 : 0 ≤ p) (h2 : p ≤ q) : p * p ≤ q * q :=
  Rat.le_trans (Rat.mul_le_mul_of_nonneg_left h2 h1) (Rat.mul_le_mul_of_nonneg_right h2 (Rat.le_trans h1 h2))
theorem le_of_sq {p q : Rat} (h2 : 0 ≤ q) (h : p * p ≤ q * q) : p ≤ q := by
  rcases @Rat.le_total p q with h3 | h3
  · exact h3
  · rcases Rat.le_iff_lt_or_eq.mp h3 with h4 | h4
    · exfalso
      have h5 : q * q ≤ q * p := Rat.mul_le_mul_of_nonneg_left h3 h2
      have h6 : 0 < p := by grind
      have h7 : q * p < p * p := Rat.mul_lt_mul_of_pos_right h4 h6
      grind
    · exact h4 ▸ Rat.le_refl

/-- the root and its square -/
theorem core2 {x2 F G : UInt64} {S : Rat} (fx : Fin x2) (fF : Fin F) (fG : Fin G) (s0 : 1/4 ≤ S) (s1 : S ≤ 2)
    (hx : R x2 - 1 - S ≤ 9 * (1/2^53) ∧ S - (R x2 - 1) ≤ 9 * (1/2^53)) (hF : -(6 * (1/2^53)) ≤ R F ∧ R F ≤ 6 * (1/2^53)) (hG : -(12 * (1/2^53)) ≤ R G ∧ R G ≤ 12 * (1/2^53))
    (hT : R x2 - 1 + R F + R G - S ≤ S * (1/2^53) + 100/2^106 ∧ S - (R x2 - 1 + R F + R G) ≤ S * (1/2^53) + 100/2^106) :
    Fin (sqrt (add (sub x2 one) (add F G))) ∧ 2/5 ≤ R (sqrt (add (sub x2 one) (add F G))) ∧ R (sqrt (add (sub x2 one) (add F G))) ≤ 3/2 ∧
      (R (sqrt (add (sub x2 one) (add F G))) * R (sqrt (add (sub x2 one) (add F G))) - S ≤ 6 * S * (1/2^53) ∧ S - R (sqrt (add (sub x2 one) (add F G))) * R (sqrt (add (sub x2 one) (add F G))) ≤ 6 * S * (1/2^53)) := by
  obtain ⟨o1, o2⟩ := one_fin
  obtain ⟨a, ea⟩ := sub_at fx o1 (S + 10 * (1/2^53)) (by grind) (by grind) (by grind)
  obtain ⟨b, eb⟩ := add_at fF fG (20 * (1/2^53)) (by decide +kernel) (by grind) (by grind)
  obtain ⟨c, ec⟩ := add_at a.fin b.fin (S + 40 * (1/2^53)) (by grind) (by grind) (by grind)
  rw [o2] at ea
  have T1 : R (add (sub x2 one) (add F G)) - S ≤ 3 * S * (1/2^53) + 200/2^106 := by grind
  have T2 : S - R (add (sub x2 one) (add F G)) ≤ 3 * S * (1/2^53) + 200/2^106 := by grind
  generalize add (sub x2 one) (add F G) = t at *
  have q := sqrt_rd c.fin (by grind) (by have : (1/2^900 : Rat) ≤ 1/8 := by decide +kernel
                                         grind) (by have : (4 : Rat) ≤ 2^900 := by decide +kernel
                                                    grind)
  obtain ⟨q1, q2, q3, q4⟩ := q
  generalize R (sqrt t) = h at *
  generalize hh : h * h = H at *
  have e1 : H - S ≤ 6 * S * (1/2^53) := by grind
  have e2 : S - H ≤ 6 * S * (1/2^53) := by grind
  refine ⟨q1, ?_, ?_, e1, e2⟩
  · exact le_of_sq q2 (by grind)
  · exact le_of_sq (by decide +kernel) (by grind)

/-- the correction -/
theorem core3 {x2 F G h : UInt64} {S H : Rat} (fx : Fin x2) (fF : Fin F) (fG : Fin G) (fh : Fin h) (s0 : 1/4 ≤ S) (s1 : S ≤ 2)
    (hx : R x2 - 1 - S ≤ 9 * (1/2^53) ∧ S - (R x2 - 1) ≤ 9 * (1/2^53)) (hF : -(6 * (1/2^53)) ≤ R F ∧ R F ≤ 6 * (1/2^53)) (hG : -(12 * (1/2^53)) ≤ R G ∧ R G ≤ 12 * (1/2^53))
    (hT : R x2 - 1 + R F + R G - S ≤ S * (1/2^53) + 100/2^106 ∧ S - (R x2 - 1 + R F + R G) ≤ S * (1/2^53) + 100/2^106)
    (hH : R h * R h = H) (e1 : H - S ≤ 6 * S * (1/2^53)) (e2 : S - H ≤ 6 * S * (1/2^53)) :
    ∃ X, X = (let z3 := mul (neg h) h; let l3 := fma (neg h) h (neg z3); let x3 := add x2 z3; let y3 := add (sub x2 x3) z3; add (sub x3 one) (add (add F l3) (add G y3))) ∧ Fin X ∧
      (R X - (S - H) ≤ (S + H) * (1/2^53) + 600/2^106 ∧ (S - H) - R X ≤ (S + H) * (1/2^53) + 600/2^106) := by
  obtain ⟨o1, o2⟩ := one_fin
  have n := neg_fin fh
  have ez : R (neg h) * R h = -H := by rw [n.2, ← hH]; grind
  obtain ⟨m, em⟩ := mul_at n.1 fh ez H (by grind) (by grind) (by grind)
  have mn := neg_fin m.fin
  obtain ⟨f, ef⟩ := fma_at (Z := -H + -R (mul (neg h) h)) n.1 fh mn.1 (by rw [ez, mn.2]) (3 * (1/2^53)) (by decide +kernel) (by grind) (by grind)
  obtain ⟨g1, g2, g3, g4⟩ := fast_s fx m.fin (1 + 40 * (1/2^53)) (H + 4 * (1/2^53)) (by grind) (by grind) (by grind) (by grind) (by grind) (by grind)
  refine ⟨_, rfl, ?_⟩
  dsimp only
  generalize mul (neg h) h = z3 at *
  generalize fma (neg h) h (neg z3) = l3 at *
  generalize add (sub x2 (add x2 z3)) z3 = y3 at *
  generalize add x2 z3 = x3 at *
  obtain ⟨p1, ep1⟩ := add_at fF f.fin (10 * (1/2^53)) (by decide +kernel) (by grind) (by grind)
  obtain ⟨p2, ep2⟩ := add_at fG g2 (20 * (1/2^53)) (by decide +kernel) (by grind) (by grind)
  obtain ⟨p3, ep3⟩ := sub_at g1 o1 (30 * (1/2^53)) (by decide +kernel) (by rw [o2]; grind) (by rw [o2]; grind)
  rw [o2] at p3 ep3
  obtain ⟨p4, ep4⟩ := add_at p1.fin p2.fin (40 * (1/2^53)) (by decide +kernel) (by grind) (by grind)
  obtain ⟨p5, ep5⟩ := add_at p3.fin p4.fin (80 * (1/2^53)) (by decide +kernel) (by grind) (by grind)
  exact ⟨p5.fin, by grind, by grind⟩

/-- the last step -/
theorem core4 {h X : UInt64} {S H : Rat} (fh : Fin h) (fX : Fin X) (s0 : 1/4 ≤ S) (s1 : S ≤ 2) (h0 : 2/5 ≤ R h) (h1 : R h ≤ 3/2)
    (hH : R h * R h = H) (e1 : H - S ≤ 6 * S * (1/2^53)) (e2 : S - H ≤ 6 * S * (1/2^53))
    (hX : R X - (S - H) ≤ (S + H) * (1/2^53) + 600/2^106 ∧ (S - H) - R X ≤ (S + H) * (1/2^53) + 600/2^106) :
    Fin (add h (div X (mul (ofInt 2) h))) ∧ 0 ≤ R (add h (div X (mul (ofInt 2) h))) ∧
      R (add h (div X (mul (ofInt 2) h))) * R (add h (div X (mul (ofInt 2) h))) - S ≤ 5 * S * (1/2^53) ∧ S - R (add h (div X (mul (ofInt 2) h))) * R (add h (div X (mul (ofInt 2) h))) ≤ 5 * S * (1/2^53) := by
  obtain ⟨t1, t2⟩ := two_fin
  obtain ⟨m, em⟩ := mul_at (Z := 2 * R h) t1 fh (by rw [t2]) (2 * R h) (by grind) (by grind) Rat.le_refl
  generalize mul (ofInt 2) h = M at *
  have hM : 3/4 ≤ R M := by grind
  have hM0 : R M ≠ 0 := by grind
  generalize hW : R X / R M = W at *
  have hWM : W * R M = R X := by rw [← hW]; exact Rat.div_mul_cancel hM0
  have xs : -(18 * (1/2^53)) ≤ R X ∧ R X ≤ 18 * (1/2^53) := by grind
  have w1 : W ≤ 24 * (1/2^53) := by
    refine le_of_mul (P := R M) ?_ (by grind)
    rw [hWM]; grind
  have w2 : -(24 * (1/2^53)) ≤ W := by
    refine le_of_mul (P := R M) ?_ (by grind)
    rw [hWM]; grind
  have d := div_s fX m.fin hM0 (by rw [hW]; grind) (by rw [hW]; grind)
  rw [hW] at d
  have ed := d.at (24 * (1/2^53)) w2 w1
  generalize div X M = q at *
  obtain ⟨a, ea⟩ := add_at fh d.fin (R h + 25 * (1/2^53)) (by grind) (by grind) (by grind)
  have a0 := a.nonneg (by grind)
  refine ⟨a.fin, a0, ?_⟩
  generalize R (add h q) = r at *
  generalize hδ : r - R h - W = δ
  have hr : r = R h + W + δ := by grind
  have dl : -(R h * (1/2^53) + 100/2^106) ≤ δ ∧ δ ≤ R h * (1/2^53) + 100/2^106 := by grind
  generalize R h = k at *
  generalize R M = M at *
  -- 2 k W ≈ R X
  generalize hp : k * W = p
  have p1 : 2 * p - R X ≤ 200/2^106 := by
    have : W * (2 * k - M) ≤ 200/2^106 := by
      generalize hv : 2 * k - M = v
      have v1 : -(4 * (1/2^53)) ≤ v ∧ v ≤ 4 * (1/2^53) := by grind
      have a1 : (24 * (1/2^53) - W) * (4 * (1/2^53) - v) ≥ 0 := Rat.mul_nonneg (by grind) (by grind)
      have a2 : (24 * (1/2^53) + W) * (4 * (1/2^53) + v) ≥ 0 := Rat.mul_nonneg (by grind) (by grind)
      have a3 : (24 * (1/2^53) - W) * (4 * (1/2^53) + v) ≥ 0 := Rat.mul_nonneg (by grind) (by grind)
      have a4 : (24 * (1/2^53) + W) * (4 * (1/2^53) - v) ≥ 0 := Rat.mul_nonneg (by grind) (by grind)
      grind
    grind
  have p2 : R X - 2 * p ≤ 200/2^106 := by
    have : -(W * (2 * k - M)) ≤ 200/2^106 := by
      generalize hv : 2 * k - M = v
      have v1 : -(4 * (1/2^53)) ≤ v ∧ v ≤ 4 * (1/2^53) := by grind
      have a1 : (24 * (1/2^53) - W) * (4 * (1/2^53) - v) ≥ 0 := Rat.mul_nonneg (by grind) (by grind)
      have a2 : (24 * (1/2^53) + W) * (4 * (1/2^53) + v) ≥ 0 := Rat.mul_nonneg (by grind) (by grind)
      have a3 : (24 * (1/2^53) - W) * (4 * (1/2^53) + v) ≥ 0 := Rat.mul_nonneg (by grind) (by grind)
      have a4 : (24 * (1/2^53) + W) * (4 * (1/2^53) - v) ≥ 0 := Rat.mul_nonneg (by grind) (by grind)
      grind
    grind
  have q0 : 0 ≤ W * W ∧ W * W ≤ 600/2^106 := by
    have a1 : (24 * (1/2^53) - W) * (24 * (1/2^53) + W) ≥ 0 := Rat.mul_nonneg (by grind) (by grind)
    refine ⟨?_, by grind⟩
    rcases @Rat.le_total 0 W with h3 | h3
    · exact Rat.mul_nonneg h3 h3
    · have : 0 ≤ (-W) * (-W) := Rat.mul_nonneg (by grind) (by grind)
      grind
  have d1 : k * δ ≤ H * (1/2^53) + 200/2^106 := by
    have : 0 ≤ k * (k * (1/2^53) + 100/2^106 - δ) := Rat.mul_nonneg (by grind) (by grind)
    grind
  have d2 : -(k * δ) ≤ H * (1/2^53) + 200/2^106 := by
    have : 0 ≤ k * (k * (1/2^53) + 100/2^106 + δ) := Rat.mul_nonneg (by grind) (by grind)
    grind
  have db : -(2 * (1/2^53)) ≤ δ ∧ δ ≤ 2 * (1/2^53) := by grind
  have wd : -(100/2^106) ≤ W * δ ∧ W * δ ≤ 100/2^106 := by
    have a1 : (24 * (1/2^53) - W) * (2 * (1/2^53) - δ) ≥ 0 := Rat.mul_nonneg (by grind) (by grind)
    have a2 : (24 * (1/2^53) + W) * (2 * (1/2^53) + δ) ≥ 0 := Rat.mul_nonneg (by grind) (by grind)
    have a3 : (24 * (1/2^53) - W) * (2 * (1/2^53) + δ) ≥ 0 := Rat.mul_nonneg (by grind) (by grind)
    have a4 : (24 * (1/2^53) + W) * (2 * (1/2^53) - δ) ≥ 0 := Rat.mul_nonneg (by grind) (by grind)
    constructor <;> grind
  have dd : 0 ≤ δ * δ ∧ δ * δ ≤ 10/2^106 := by
    have a1 : (2 * (1/2^53) - δ) * (2 * (1/2^53) + δ) ≥ 0 := Rat.mul_nonneg (by grind) (by grind)
    refine ⟨?_, by grind⟩
    rcases @Rat.le_total 0 δ with h3 | h3
    · exact Rat.mul_nonneg h3 h3
    · have : 0 ≤ (-δ) * (-δ) := Rat.mul_nonneg (by grind) (by grind)
      grind
  have rr : r * r = H + 2 * p + W * W + 2 * (k * δ) + 2 * (W * δ) + δ * δ := by rw [hr, ← hH, ← hp]; grind
  rw [rr]
  clear rr hr hδ hWM hp hH
  generalize W * W = ww at *
  generalize k * δ = kd at *
  generalize W * δ = wd' at *
  generalize δ * δ = dd' at *
  constructor <;> grind

theorem core_err {p q : UInt64} (hp : Fin p) (hq : Fin q) (p0 : 0 ≤ R p) (p1 : R p ≤ 1) (q0 : 0 ≤ R q) (q1 : R q ≤ 1) (hS : 1/4 ≤ R p * R p + R q * R q) :
    Fin (core p q) ∧ 0 ≤ R (core p q) ∧ R (core p q) * R (core p q) - (R p * R p + R q * R q) ≤ 5 * (R p * R p + R q * R q) * (1/2^53) ∧
      (R p * R p + R q * R q) - R (core p q) * R (core p q) ≤ 5 * (R p * R p + R q * R q) * (1/2^53) := by
  have a0 : 0 ≤ R p * R p := Rat.mul_nonneg p0 p0
  have b0 : 0 ≤ R q * R q := Rat.mul_nonneg q0 q0
  have a1 : R p * R p ≤ 1 := by have := sqle p0 p1; grind
  have b1 : R q * R q ≤ 1 := by have := sqle q0 q1; grind
  obtain ⟨x2, F, G, fx, fF, fG, hc, hx, hF, hG, hT⟩ := core1 hp hq _ _ rfl rfl a0 a1 b0 b1 hS
  obtain ⟨fh, h0, h1, e1, e2⟩ := core2 fx fF fG hS (by grind) hx hF hG hT
  obtain ⟨X, hX, fX, eX⟩ := core3 fx fF fG fh hS (by grind) hx hF hG hT rfl e1 e2
  have := core4 fh fX hS (by grind) h0 h1 rfl e1 e2 eX
  rw [hX] at this
  rw [hc]
  exact this
end Mine
end
section
namespace Mine
open PySem PySem.Float64 PySem.Builtin.Math

theorem rpow_add (a : Rat) (m n : Nat) : a ^ (m + n) = a ^ m * a ^ n := by
  induction n with
  | zero => rw [Nat.add_zero, Rat.pow_zero, Rat.mul_one]
  | succ n ih => rw [← Nat.add_assoc, Rat.pow_succ, Rat.pow_succ, ih, Rat.mul_assoc]
theorem V_inf : V infMag = 2 ^ 53 * 2 ^ 2045 := by
  have e : infMag = 2045 * 2 ^ 52 + 2 ^ 53 := by unfold infMag; omega
  rw [e]
  exact V_at (k := 2045) (q := 2 ^ 53) (by omega) (.inl (by omega))
/-- an exact result -/
theorem right_rep {r : UInt64} {neg : Bool} {W D n k : Nat} (h : Right r neg W D) (hD : 0 < D) (hW : W = D * (n * 2 ^ k)) (hn : n ≤ 2 ^ 53) (hk : n * 2 ^ k < 2 ^ 53 * 2 ^ 2045) :
    Fin r ∧ val r = sgn neg (n * 2 ^ k) := by
  obtain ⟨t0, ht0⟩ := V_rep k n hn
  have hlt0 : t0 < infMag := by
    rcases Nat.lt_or_ge t0 infMag with h1 | h1
    · exact h1
    · have := V_mono h1; rw [V_inf, ht0] at this; exact absurd hk (Nat.not_lt.mpr this)
  obtain ⟨t, rfl, hle, hov, hc⟩ := h
  have hlt : t < infMag := by
    rcases Nat.lt_or_ge t infMag with h1 | h1
    · exact h1
    · exfalso
      have h2 := hov.mp (by omega)
      rw [hW, show 2 * (D * (n * 2 ^ k)) = D * (2 * (n * 2 ^ k)) by ac_rfl] at h2
      have h3 := Nat.le_of_mul_le_mul_left h2 hD
      -- n 2^k < 2^53 2^2045 and it is V t0, at most the greatest
      have h4 := V_mono (show t0 ≤ infMag - 1 by omega)
      have hA : V (infMag - 1) = (2 ^ 53 - 1) * 2 ^ 2045 := by
        have e : infMag - 1 = 2045 * 2 ^ 52 + (2 ^ 53 - 1) := by unfold infMag; omega
        rw [e]
        exact V_at (k := 2045) (q := 2 ^ 53 - 1) (by omega) (.inl (by omega))
      rw [hA, ht0] at h4
      have hp := Nat.two_pow_pos 2045
      generalize (2 : Nat) ^ 2045 = Z at *
      generalize n * 2 ^ k = y at *
      omega
  have h1 := (hc hlt t0).1
  rw [ht0, hW] at h1
  have h0 : Float64.dist (D * (n * 2 ^ k)) (D * (n * 2 ^ k)) = 0 := by unfold Float64.dist; omega
  rw [h0] at h1
  have h2 : D * V t = D * (n * 2 ^ k) := by
    generalize D * V t = y at *
    generalize D * (n * 2 ^ k) = z at *
    unfold Float64.dist at h1; omega
  refine ⟨fin_pack _ hlt, ?_⟩
  rw [val_pack neg hlt, Nat.eq_of_mul_eq_mul_left hD h2]

theorem rep_mul {z : Rat} {m : Nat} {n : Int} (h : z * 2 ^ m = (n : Rat)) (hm : m ≤ 1074) (hn : n.natAbs ≤ 2 ^ 53) : Rep z := by
  refine ⟨n, 1074 - m, hn, ?_⟩
  rw [← h]
  unfold TW
  rw [Rat.mul_assoc]
  congr 1
  have e : (2 : Rat) ^ 1074 = 2 ^ (m + (1074 - m)) := by congr 1; omega
  rw [e, rpow_add]

end Mine
end
section
namespace Mine
open PySem PySem.Float64 PySem.Builtin.Math

def hyp (x y : UInt64) : UInt64 := vectorNorm [Float64.abs x, Float64.abs y]

theorem val_nat {x : UInt64} {a : Bool} {m : Nat} {e : Int} (hx : decode x = .fin a m e) (h0 : 0 ≤ R x) : R x * TW = (m : Rat) * 2 ^ (e + 1074).toNat := by
  have h1 := R_mul x
  have h2 : (0 : Rat) ≤ (m : Rat) * 2 ^ (e + 1074).toNat := Rat.mul_nonneg Rat.natCast_nonneg (Rat.pow_nonneg (by decide))
  have c : ((m * 2 ^ (e + 1074).toNat : Nat) : Rat) = (m : Rat) * 2 ^ (e + 1074).toNat := by rw [Rat.natCast_mul, Rat.natCast_pow]; rfl
  rw [h1, val_eq hx]
  cases a
  · rw [sgn_false, Rat.intCast_natCast, c]
  · have h3 : 0 ≤ R x * TW := Rat.mul_nonneg h0 (Rat.le_of_lt TW_pos)
    rw [h1, val_eq hx, sgn_true, Rat.intCast_neg, Rat.intCast_natCast, c] at h3
    rw [sgn_true, Rat.intCast_neg, Rat.intCast_natCast, c]
    exact Rat.le_antisymm (by grind) (by grind)

theorem gt_fin {x m : UInt64} (hx : Fin x) (hm : Fin m) : Float64.gt x m = decide (R m < R x) := by
  unfold Float64.gt
  by_cases h : R m < R x
  · rw [cmp_gt_of hx hm h, decide_eq_true h]; rfl
  · rw [decide_eq_false h, cmp_fin hx hm]
    have : ¬ val m < val x := fun q => h (val_lt_iff.mp q)
    cases hc : compare (val x) (val m) with
    | lt => rfl
    | eq => rfl
    | gt => exact absurd (Int.compare_eq_gt.mp hc) this

theorem big_spec {P Q : UInt64} (hP : Fin P) (hQ : Fin Q) (p0 : 0 ≤ R P) (q0 : 0 ≤ R Q) :
    Fin (maxMagnitude [P, Q]) ∧ R P ≤ R (maxMagnitude [P, Q]) ∧ R Q ≤ R (maxMagnitude [P, Q]) ∧ (R (maxMagnitude [P, Q]) = R P ∨ R (maxMagnitude [P, Q]) = R Q) := by
  obtain ⟨i1, i2⟩ := zero_fin
  have e : maxMagnitude [P, Q] = (if Float64.gt Q (if Float64.gt P (zero false) then P else zero false) then Q else (if Float64.gt P (zero false) then P else zero false)) := rfl
  rw [e, gt_fin hP i1, i2]
  by_cases h1 : 0 < R P
  · rw [decide_eq_true h1, if_pos rfl, gt_fin hQ hP]
    by_cases h2 : R P < R Q
    · rw [decide_eq_true h2, if_pos rfl]; exact ⟨hQ, by grind, by grind, .inr rfl⟩
    · rw [decide_eq_false h2, if_neg Bool.false_ne_true]; exact ⟨hP, by grind, by grind, .inl rfl⟩
  · rw [decide_eq_false h1, if_neg Bool.false_ne_true, gt_fin hQ i1, i2]
    by_cases h2 : 0 < R Q
    · rw [decide_eq_true h2, if_pos rfl]; exact ⟨hQ, by grind, by grind, .inr rfl⟩
    · rw [decide_eq_false h2, if_neg Bool.false_ne_true, i2]; exact ⟨i1, by grind, by grind, .inl (by grind)⟩

theorem notNaN_fin {x : UInt64} (h : Fin x) : isNaN x = false := by obtain ⟨a, m, e, h⟩ := h; unfold isNaN; rw [h]
theorem notInf_fin {x : UInt64} (h : Fin x) : isInf x = false := by obtain ⟨a, m, e, h⟩ := h; unfold isInf; rw [h]
theorem isZero_fin {x : UInt64} (h : Fin x) : isZero x = decide (R x = 0) := by
  obtain ⟨a, m, e, h⟩ := h
  have h1 := R_mul x
  rw [val_eq h] at h1
  by_cases hm : m = 0
  · subst hm
    have : R x = 0 := R_eq (by rw [val_eq h, Rat.zero_mul, Nat.zero_mul]; cases a <;> rfl)
    rw [decide_eq_true this]
    unfold isZero; rw [h]; rfl
  · have : R x ≠ 0 := fun q => by
      rw [q, Rat.zero_mul] at h1
      have h2 := Rat.intCast_eq_zero_iff.mp h1.symm
      have h3 : (sgn a (m * 2 ^ (e + 1074).toNat)).natAbs = m * 2 ^ (e + 1074).toNat := sgn_natAbs _ _
      rw [h2] at h3
      have h4 : 0 < m * 2 ^ (e + 1074).toNat := Nat.mul_pos (by omega) (Nat.two_pow_pos _)
      simp at h3
      omega
    rw [decide_eq_false this]
    unfold isZero; rw [h]
    cases m with
    | zero => exact absurd rfl hm
    | succ n => rfl

theorem vn_zero {P Q : UInt64} (hP : Fin P) (hQ : Fin Q) (p0 : R P = 0) (q0 : R Q = 0) : Fin (vectorNorm [P, Q]) ∧ R (vectorNorm [P, Q]) = 0 := by
  obtain ⟨b1, b2, b3, b4⟩ := big_spec hP hQ (by rw [p0]; decide) (by rw [q0]; decide)
  have hz : R (maxMagnitude [P, Q]) = 0 := by grind
  have e : vectorNorm [P, Q] = maxMagnitude [P, Q] := by
    unfold vectorNorm
    simp only
    rw [notInf_fin b1, isZero_fin b1, decide_eq_true hz]
    simp [notNaN_fin hP, notNaN_fin hQ]
  rw [e]; exact ⟨b1, hz⟩

theorem frexp_two {x : UInt64} {a : Bool} {m : Nat} {e : Int} (h : decode x = .fin a m e) (hm : m ≠ 0) : (frexp x).2 = e + (m.log2 : Int) + 1 := by
  unfold frexp; rw [h]; simp only
  rw [if_neg (by simpa using hm)]

theorem vn_norm {P Q : UInt64} (hP : Fin P) (hQ : Fin Q) (p0 : 0 ≤ R P) (q0 : 0 ≤ R Q) (hb : R (maxMagnitude [P, Q]) ≠ 0) (hex : -1023 ≤ (frexp (maxMagnitude [P, Q])).2) :
    vectorNorm [P, Q] = scaledNorm [P, Q] (maxMagnitude [P, Q]) := by
  obtain ⟨b1, b2, b3, b4⟩ := big_spec hP hQ p0 q0
  unfold vectorNorm
  simp only
  rw [notInf_fin b1, isZero_fin b1, decide_eq_false hb]
  simp [notNaN_fin hP, notNaN_fin hQ, Int.not_lt.mpr hex]
theorem vn_tiny {P Q : UInt64} (hP : Fin P) (hQ : Fin Q) (p0 : 0 ≤ R P) (q0 : 0 ≤ R Q) (hb : R (maxMagnitude [P, Q]) ≠ 0) (hex : (frexp (maxMagnitude [P, Q])).2 < -1023) :
    vectorNorm [P, Q] = mul (pack false (2 ^ 52)) (scaledNorm [div P (pack false (2 ^ 52)), div Q (pack false (2 ^ 52))] (div (maxMagnitude [P, Q]) (pack false (2 ^ 52)))) := by
  obtain ⟨b1, b2, b3, b4⟩ := big_spec hP hQ p0 q0
  unfold vectorNorm
  simp only
  rw [notInf_fin b1, isZero_fin b1, decide_eq_false hb]
  simp [notNaN_fin hP, notNaN_fin hQ, hex]

theorem one_decode : decode one = .fin false (2 ^ 52) (-52) := by with_unfolding_all rfl
/-- the scale: a power of two -/
theorem scale_spec {k : Int} (h1 : -1074 ≤ k) (h2 : k ≤ 1023) : Fin (ldexp one k) ∧ val (ldexp one k) = ((2 ^ (k + 1074).toNat : Nat) : Int) := by
  have e : ldexp one k = ofBin false (2 ^ 52) (k - 52) := by
    unfold ldexp; rw [one_decode]; simp only
    congr 1; omega
  have key : (shift (2 ^ 52) 1 (k - 52)).1 * 2 ^ 1074 * 1 = 2 ^ (k + 1074).toNat * (shift (2 ^ 52) 1 (k - 52)).2 := by
    have := shift_one (2 ^ 52) (k - 52) 1126 (by omega)
    rw [Nat.mul_one]
    have e2 : (k - 52 + ((1126 : Nat) : Int)).toNat = (k + 1074).toNat := by omega
    rw [e2] at this
    refine Nat.eq_of_mul_eq_mul_left (show 0 < 2 ^ 52 by decide) ?_
    have e3 : (2 : Nat) ^ 1126 = 2 ^ 52 * 2 ^ 1074 := by rw [← Nat.pow_add]
    rw [e3] at this
    generalize (shift (2 ^ 52) 1 (k - 52)).1 = s1 at *
    generalize (shift (2 ^ 52) 1 (k - 52)).2 = s2 at *
    rw [show 2 ^ 52 * (s1 * 2 ^ 1074) = s1 * (2 ^ 52 * 2 ^ 1074) by generalize (2 : Nat) ^ 1074 = K; ac_rfl, this]
    generalize (2 : Nat) ^ (k + 1074).toNat = K
    ac_rfl
  have hr : Right (ofBin false (2 ^ 52) (k - 52)) false (2 ^ (k + 1074).toNat) 1 := ofFrac_right (shift_pos _ _ _ (by decide)) key (by decide)
  rw [e]
  have hk : (k + 1074).toNat ≤ 2097 := by omega
  obtain ⟨f1, f2⟩ := right_rep hr (by decide) (n := 1) (k := (k + 1074).toNat) (by rw [Nat.one_mul, Nat.one_mul]) (by decide) (by
    rw [Nat.one_mul, ← Nat.pow_add]; exact Nat.pow_lt_pow_right (by decide) (by omega))
  refine ⟨f1, ?_⟩
  rw [f2, Nat.one_mul]; rfl

theorem rpow_pos (n : Nat) : (0 : Rat) < 2 ^ n := Rat.pow_pos (by decide)
theorem rpow_nat (n : Nat) : (2 : Rat) ^ n = ((2 ^ n : Nat) : Rat) := by rw [Rat.natCast_pow]; rfl
theorem rpow_le {a b : Nat} (h : a ≤ b) : (2 : Rat) ^ a ≤ 2 ^ b := by
  rw [rpow_nat, rpow_nat]; exact Rat.natCast_le_natCast.mpr (Nat.pow_le_pow_right (by decide) h)
theorem TW_pow : TW = 2 ^ 1074 := rfl
theorem mul_rpow {x : Rat} {a b : Nat} (h : a = b) : x * 2 ^ a = x * 2 ^ b := by rw [h]
theorem log_bounds {m : Nat} (hm : m ≠ 0) : ((2 : Rat) ^ m.log2 ≤ (m : Rat)) ∧ (m : Rat) < 2 ^ (m.log2 + 1) := by
  constructor
  · rw [rpow_nat]; exact Rat.natCast_le_natCast.mpr (Nat.log2_self_le hm)
  · rw [rpow_nat]; exact Rat.natCast_lt_natCast.mpr Nat.lt_log2_self

/-- the hypotenuse of everyday numbers -/
theorem vn_ok {P Q : UInt64} (hP : Fin P) (hQ : Fin Q) (p0 : R P = 0 ∨ (1/2^300 ≤ R P ∧ R P ≤ 2^300)) (q0 : R Q = 0 ∨ (1/2^300 ≤ R Q ∧ R Q ≤ 2^300)) :
    Fin (vectorNorm [P, Q]) ∧ 0 ≤ R (vectorNorm [P, Q]) ∧ R (vectorNorm [P, Q]) * R (vectorNorm [P, Q]) - (R P * R P + R Q * R Q) ≤ 5 * (R P * R P + R Q * R Q) * (1/2^53) ∧
      (R P * R P + R Q * R Q) - R (vectorNorm [P, Q]) * R (vectorNorm [P, Q]) ≤ 5 * (R P * R P + R Q * R Q) * (1/2^53) := by
  have t300 : (0 : Rat) < 1/2^300 := by decide +kernel
  have pp : 0 ≤ R P := by rcases p0 with h | h <;> grind
  have qq : 0 ≤ R Q := by rcases q0 with h | h <;> grind
  by_cases hz : R P = 0 ∧ R Q = 0
  · obtain ⟨f, e⟩ := vn_zero hP hQ hz.1 hz.2
    refine ⟨f, by rw [e]; decide, ?_, ?_⟩ <;> rw [e, hz.1, hz.2] <;> decide +kernel
  obtain ⟨b1, b2, b3, b4⟩ := big_spec hP hQ pp qq
  have hBlo : 1/2^300 ≤ R (maxMagnitude [P, Q]) ∧ R (maxMagnitude [P, Q]) ≤ 2^300 := by
    rcases p0 with h | h <;> rcases q0 with h' | h'
    · exact absurd ⟨h, h'⟩ hz
    · constructor <;> grind
    · constructor <;> grind
    · constructor <;> grind
  have hB0 : R (maxMagnitude [P, Q]) ≠ 0 := by grind
  obtain ⟨ab, m, e, hd⟩ := id b1
  have hm : m ≠ 0 := ne_of_val hd hB0
  have hfr := frexp_two hd hm
  have hv := val_nat hd (by grind)
  obtain ⟨lb1, lb2⟩ := log_bounds hm
  have hge := decode_ge hd
  have hm53 := (decode_le hd).1
  have hL52 : m.log2 < 53 := (Nat.log2_lt hm).mpr hm53
  generalize hL : m.log2 = L at *
  have hTWp := TW_pos
  -- the exponent's bounds
  have hup : (e : Int) + L ≤ 300 := by
    rcases Int.lt_or_le 300 (e + L) with h | h
    · exfalso
      have h1 : (2 : Rat) ^ (L + (e + 1074).toNat) ≤ (m : Rat) * 2 ^ (e + 1074).toNat := by
        rw [rpow_add]; exact Rat.mul_le_mul_of_nonneg_right lb1 (Rat.le_of_lt (rpow_pos _))
      have h2 : (2 : Rat) ^ 1375 ≤ 2 ^ (L + (e + 1074).toNat) := rpow_le (by omega)
      have h3 : R (maxMagnitude [P, Q]) * TW ≤ 2^300 * TW := Rat.mul_le_mul_of_nonneg_right hBlo.2 (Rat.le_of_lt hTWp)
      have h4 : (2:Rat)^300 * TW < 2^1375 := by unfold TW; decide +kernel
      rw [hv] at h3
      grind
    · exact h
  have hlo : -301 ≤ (e : Int) + L := by
    rcases Int.lt_or_le (e + L) (-301) with h | h
    · exfalso
      have h1 : (m : Rat) * 2 ^ (e + 1074).toNat ≤ (2 : Rat) ^ (L + 1 + (e + 1074).toNat) := by
        rw [rpow_add 2 (L + 1)]; exact Rat.mul_le_mul_of_nonneg_right (Rat.le_of_lt lb2) (Rat.le_of_lt (rpow_pos _))
      have h2 : (2 : Rat) ^ (L + 1 + (e + 1074).toNat) ≤ 2 ^ 773 := rpow_le (by omega)
      have h3 : 1/2^300 * TW ≤ R (maxMagnitude [P, Q]) * TW := Rat.mul_le_mul_of_nonneg_right hBlo.1 (Rat.le_of_lt hTWp)
      have h4 : (2:Rat)^773 < 1/2^300 * TW := by unfold TW; decide +kernel
      rw [hv] at h3
      grind
    · exact h
  -- the scale
  obtain ⟨fs, vs⟩ := scale_spec (k := -(e + L + 1)) (by omega) (by omega)
  have hs : R (ldexp one (-(e + L + 1))) * TW = 2 ^ (-(e + L + 1) + 1074).toNat := by
    rw [R_mul, vs, Rat.intCast_natCast, ← rpow_nat]
  rw [vn_norm hP hQ pp qq hB0 (by rw [hfr]; omega), scaled_core, hfr]
  generalize ldexp one (-(e + L + 1)) = sc at *
  generalize hσ : R sc = σ at *
  have hσ0 : 0 < σ := by
    rcases @Rat.le_total σ 0 with h3 | h3
    · exfalso
      have : 0 ≤ (-σ) * TW := Rat.mul_nonneg (by grind) (Rat.le_of_lt hTWp)
      have := rpow_pos (-(e + L + 1) + 1074).toNat
      grind
    · rcases Rat.le_iff_lt_or_eq.mp h3 with h4 | h4
      · exact h4
      · exfalso
        have := rpow_pos (-(e + L + 1) + 1074).toNat
        grind
  -- the greatest one scaled
  have hβ : R (maxMagnitude [P, Q]) * σ * 2 ^ (L + 1) = (m : Rat) := by
    have h1 : R (maxMagnitude [P, Q]) * σ * 2 ^ (L + 1) * (TW * TW) = (m : Rat) * (TW * TW) := by
      have h2 : R (maxMagnitude [P, Q]) * σ * 2 ^ (L + 1) * (TW * TW) = (R (maxMagnitude [P, Q]) * TW) * (σ * TW) * 2 ^ (L + 1) := by grind
      rw [h2, hv, hs, TW_pow, ← rpow_add, Rat.mul_assoc, Rat.mul_assoc, ← rpow_add, ← rpow_add]
      exact mul_rpow (by omega)
    exact eq_of_mul h1 (Rat.mul_pos hTWp hTWp)
  have hβ1 : 1/2 ≤ R (maxMagnitude [P, Q]) * σ ∧ R (maxMagnitude [P, Q]) * σ ≤ 1 := by
    have hL0 := rpow_pos (L + 1)
    constructor
    · refine le_of_mul (P := 2 ^ (L + 1)) ?_ hL0
      rw [hβ, Rat.pow_succ]; grind
    · refine le_of_mul (P := 2 ^ (L + 1)) ?_ hL0
      rw [hβ]; grind
  -- each scaled exactly
  have sc1 : ∀ {C : UInt64}, Fin C → (R C = 0 ∨ (1/2^300 ≤ R C ∧ R C ≤ 2^300)) → R C ≤ R (maxMagnitude [P, Q]) → Fin (mul C sc) ∧ R (mul C sc) = R C * σ ∧ 0 ≤ R C * σ ∧ R C * σ ≤ 1 := by
    intro C hC c0 cb
    have cc : 0 ≤ R C := by rcases c0 with h | h <;> grind
    have z0 : 0 ≤ R C * σ := Rat.mul_nonneg cc (Rat.le_of_lt hσ0)
    have z1 : R C * σ ≤ 1 := Rat.le_trans (Rat.mul_le_mul_of_nonneg_right cb (Rat.le_of_lt hσ0)) hβ1.2
    have hmul := mul_s hC fs (by rw [hσ]; grind) (by rw [hσ]; grind)
    rw [hσ] at hmul
    refine ⟨hmul.fin, hmul.ex ?_, z0, z1⟩
    rcases c0 with h | h
    · rw [h, Rat.zero_mul]; exact rep_int (n := 0) (by decide)
    · obtain ⟨a', m', e', hd'⟩ := hC
      have hv' := val_nat hd' cc
      have hle' := decode_le hd'
      have hge' := decode_ge hd'
      have he' : 722 ≤ e' + 1074 := by
        rcases Int.lt_or_le (e' + 1074) 722 with q | q
        · exfalso
          have h3 : 1/2^300 * TW ≤ R C * TW := Rat.mul_le_mul_of_nonneg_right h.1 (Rat.le_of_lt hTWp)
          have h4 : (2:Rat)^774 ≤ 1/2^300 * TW := by unfold TW; decide +kernel
          have h5 : (m' : Rat) < 2 ^ 53 := by rw [rpow_nat]; exact Rat.natCast_lt_natCast.mpr hle'.1
          have h6 : (m' : Rat) * 2 ^ (e' + 1074).toNat < 2 ^ 53 * 2 ^ (e' + 1074).toNat := Rat.mul_lt_mul_of_pos_right h5 (rpow_pos _)
          have h7 : (2 : Rat) ^ (53 + (e' + 1074).toNat) ≤ 2 ^ 774 := rpow_le (by omega)
          rw [rpow_add] at h7
          rw [hv'] at h3
          grind
        · exact q
      refine ⟨(m' : Int), (e' + 1074 - (e + L + 1)).toNat, by omega, ?_⟩
      have h1 : R C * σ * TW * TW = (m' : Rat) * 2 ^ (e' + 1074 - (e + L + 1)).toNat * TW := by
        have h2 : R C * σ * TW * TW = (R C * TW) * (σ * TW) := by grind
        rw [h2, hv', hs, TW_pow, Rat.mul_assoc, Rat.mul_assoc, ← rpow_add, ← rpow_add]
        exact mul_rpow (by omega)
      rw [Rat.intCast_natCast]
      exact eq_of_mul h1 hTWp
  obtain ⟨f1, r1, l1, u1⟩ := sc1 hP p0 b2
  obtain ⟨f2, r2, l2, u2⟩ := sc1 hQ q0 b3
  have hS' : 1/4 ≤ R P * σ * (R P * σ) + R Q * σ * (R Q * σ) := by
    have g1 := Rat.mul_nonneg l1 l1
    have g2 := Rat.mul_nonneg l2 l2
    rcases b4 with h | h
    · rw [h] at hβ1
      have := sqle (by decide +kernel) hβ1.1
      grind
    · rw [h] at hβ1
      have := sqle (by decide +kernel) hβ1.1
      grind
  have ce := core_err f1 f2 (by rw [r1]; exact l1) (by rw [r1]; exact u1) (by rw [r2]; exact l2) (by rw [r2]; exact u2) (by rw [r1, r2]; exact hS')
  rw [r1, r2] at ce
  obtain ⟨fc, c0, ce1, ce2⟩ := ce
  generalize core (mul P sc) (mul Q sc) = X at *
  generalize hS : R P * R P + R Q * R Q = S at *
  have hSS : R P * σ * (R P * σ) + R Q * σ * (R Q * σ) = S * (σ * σ) := by rw [← hS]; grind
  have hSS2 : S * (σ * σ) ≤ 2 := by
    rw [← hSS]
    have := sqle l1 u1
    have := sqle l2 u2
    grind
  rw [hSS] at ce1 ce2 hS'
  have hXlo : 2/5 ≤ R X := le_of_sq c0 (by grind)
  have hXhi : R X ≤ 2 := le_of_sq (by decide) (by grind)
  have hσne : σ ≠ 0 := by grind
  obtain ⟨z, hz2⟩ : ∃ z : Rat, z = R X / σ := ⟨_, rfl⟩
  have hzσ : z * σ = R X := by rw [hz2]; exact Rat.div_mul_cancel hσne
  have hz0 : 0 ≤ z := nonneg_of hzσ c0 hσ0
  have hσlo : 1/2^302 ≤ σ := by
    refine le_of_mul (P := TW) ?_ hTWp
    rw [hs]
    have h1 : (2 : Rat) ^ 773 ≤ 2 ^ (-(e + L + 1) + 1074).toNat := rpow_le (by omega)
    have h2 : 1/2^302 * TW ≤ (2 : Rat)^773 := by unfold TW; decide +kernel
    exact Rat.le_trans h2 h1
  have hzhi : z ≤ 2^900 := by
    refine le_of_mul (P := σ) ?_ hσ0
    rw [hzσ]
    have h1 : (2:Rat)^900 * (1/2^302) ≤ 2^900 * σ := Rat.mul_le_mul_of_nonneg_left hσlo (Rat.le_of_lt (rpow_pos _))
    have h2 : (2 : Rat) ≤ 2^900 * (1/2^302) := by decide +kernel
    grind
  have dv := div_rd fc fs (by rw [hσ]; exact hσne) (by rw [hσ, ← hz2]; have := rpow_pos 900; grind) (by rw [hσ, ← hz2]; exact hzhi)
  rw [hσ, ← hz2] at dv
  have hrep : Rep z := by
    obtain ⟨a', m', e', hd'⟩ := fc
    have hv' := val_nat hd' c0
    have hle' := decode_le hd'
    have hge' := decode_ge hd'
    have he' : 1018 ≤ e' + 1074 := by
      rcases Int.lt_or_le (e' + 1074) 1018 with q | q
      · exfalso
        have h3 : 2/5 * TW ≤ R X * TW := Rat.mul_le_mul_of_nonneg_right hXlo (Rat.le_of_lt hTWp)
        have h4 : (2:Rat)^1072 ≤ 2/5 * TW := by unfold TW; decide +kernel
        have h5 : (m' : Rat) < 2 ^ 53 := by rw [rpow_nat]; exact Rat.natCast_lt_natCast.mpr hle'.1
        have h6 : (m' : Rat) * 2 ^ (e' + 1074).toNat < 2 ^ 53 * 2 ^ (e' + 1074).toNat := Rat.mul_lt_mul_of_pos_right h5 (rpow_pos _)
        have h7 : (2 : Rat) ^ (53 + (e' + 1074).toNat) ≤ 2 ^ 1072 := rpow_le (by omega)
        rw [rpow_add] at h7
        rw [hv'] at h3
        grind
      · exact q
    refine ⟨(m' : Int), (e' + 1074 + (e + L + 1)).toNat, by omega, ?_⟩
    have h1 : z * TW * (σ * TW) = (m' : Rat) * 2 ^ (e' + 1074 + (e + L + 1)).toNat * (σ * TW) := by
      have h2 : z * TW * (σ * TW) = (R X * TW) * TW := by rw [← hzσ]; grind
      rw [h2, hv', hs, TW_pow, Rat.mul_assoc, Rat.mul_assoc, ← rpow_add, ← rpow_add]
      exact mul_rpow (by omega)
    rw [Rat.intCast_natCast]
    exact eq_of_mul h1 (Rat.mul_pos hσ0 hTWp)
  have hR := dv.ex hrep
  refine ⟨dv.fin, by rw [hR]; exact hz0, ?_, ?_⟩
  · rw [hR]
    refine le_of_mul (P := σ * σ) ?_ (Rat.mul_pos hσ0 hσ0)
    have : (z * z - S) * (σ * σ) = R X * R X - S * (σ * σ) := by rw [← hzσ]; grind
    rw [this]; grind
  · rw [hR]
    refine le_of_mul (P := σ * σ) ?_ (Rat.mul_pos hσ0 hσ0)
    have : (S - z * z) * (σ * σ) = S * (σ * σ) - R X * R X := by rw [← hzσ]; grind
    rw [this]; grind

theorem hyp_ok {x y : UInt64} (hx : Fin x) (hy : Fin y) (x0 : R x = 0 ∨ (1/2^300 ≤ R x ∧ R x ≤ 2^300)) (y0 : R y = 0 ∨ (1/2^300 ≤ R y ∧ R y ≤ 2^300)) :
    Fin (hyp x y) ∧ 0 ≤ R (hyp x y) ∧ R (hyp x y) * R (hyp x y) - (R x * R x + R y * R y) ≤ 5 * (R x * R x + R y * R y) * (1/2^53) ∧
      (R x * R x + R y * R y) - R (hyp x y) * R (hyp x y) ≤ 5 * (R x * R x + R y * R y) * (1/2^53) := by
  have t300 : (0 : Rat) < 1/2^300 := by decide +kernel
  have a := abs_fin hx
  have b := abs_fin hy
  have ea := a.2.1 (by rcases x0 with h | h <;> grind)
  have eb := b.2.1 (by rcases y0 with h | h <;> grind)
  have := vn_ok a.1 b.1 (by rw [ea]; exact x0) (by rw [eb]; exact y0)
  rw [ea, eb] at this
  exact this
end Mine
end
section
namespace Mine
open PySem PySem.Float64

/-- a float that is the whole number n -/
def IsI (x : UInt64) (n : Int) : Prop := Fin x ∧ R x = (n : Rat)
theorem lim_int {n : Int} (h : n.natAbs ≤ 2 ^ 53) : -(2 ^ 900) ≤ (n : Rat) ∧ (n : Rat) ≤ 2 ^ 900 := by
  have a : (n : Rat) ≤ 2 ^ 53 := Rat.intCast_le_intCast (b := 2 ^ 53).mpr (by omega)
  have b : -(2 ^ 53) ≤ (n : Rat) := Rat.intCast_le_intCast (a := -(2 ^ 53)).mpr (by omega)
  have c : (2 : Rat) ^ 53 ≤ 2 ^ 900 := by decide +kernel
  constructor <;> grind
theorem isI_ofInt {n : Int} (h : n.natAbs ≤ 2 ^ 53) : IsI (ofInt n) n := by
  have r := ofInt_rd (lim_int h).1 (lim_int h).2
  exact ⟨r.fin, r.ex (rep_int h)⟩
theorem IsI.add {x y : UInt64} {a b : Int} (hx : IsI x a) (hy : IsI y b) (h : (a + b).natAbs ≤ 2 ^ 53) : IsI (add x y) (a + b) := by
  have e : R x + R y = ((a + b : Int) : Rat) := by rw [hx.2, hy.2, Rat.intCast_add]
  have r := add_rd hx.1 hy.1 (by rw [e]; exact (lim_int h).1) (by rw [e]; exact (lim_int h).2)
  rw [e] at r
  exact ⟨r.fin, r.ex (rep_int h)⟩
theorem IsI.sub {x y : UInt64} {a b : Int} (hx : IsI x a) (hy : IsI y b) (h : (a - b).natAbs ≤ 2 ^ 53) : IsI (sub x y) (a - b) := by
  have e : R x - R y = ((a - b : Int) : Rat) := by rw [hx.2, hy.2, Rat.intCast_sub]
  have r := sub_rd hx.1 hy.1 (by rw [e]; exact (lim_int h).1) (by rw [e]; exact (lim_int h).2)
  rw [e] at r
  exact ⟨r.fin, r.ex (rep_int h)⟩
theorem IsI.mul {x y : UInt64} {a b : Int} (hx : IsI x a) (hy : IsI y b) (h : (a * b).natAbs ≤ 2 ^ 53) : IsI (mul x y) (a * b) := by
  have e : R x * R y = ((a * b : Int) : Rat) := by rw [hx.2, hy.2, Rat.intCast_mul]
  have r := mul_rd hx.1 hy.1 (by rw [e]; exact (lim_int h).1) (by rw [e]; exact (lim_int h).2)
  rw [e] at r
  exact ⟨r.fin, r.ex (rep_int h)⟩
theorem IsI.neg {x : UInt64} {a : Int} (hx : IsI x a) : IsI (neg x) (-a) := by
  have n := neg_fin hx.1
  exact ⟨n.1, by rw [n.2, hx.2, Rat.intCast_neg]⟩
theorem IsI.abs {x : UInt64} {a : Int} (hx : IsI x a) : IsI (Float64.abs x) (a.natAbs : Int) := by
  have n := abs_fin hx.1
  refine ⟨n.1, ?_⟩
  rcases Int.le_total 0 a with h | h
  · rw [n.2.1 (by rw [hx.2]; exact Rat.intCast_nonneg.mpr h), hx.2]; congr 1; omega
  · rw [n.2.2 (by rw [hx.2]; exact Rat.intCast_nonpos.mpr h), hx.2, ← Rat.intCast_neg]; congr 1; omega
theorem IsI.val {x : UInt64} {n : Int} (h : IsI x n) : val x = n * 2 ^ 1074 := by
  have h1 := R_mul x
  rw [h.2, TW_nat] at h1
  have h2 : ((n * 2 ^ 1074 : Int) : Rat) = (n : Rat) * ((2 ^ 1074 : Nat) : Rat) := by
    rw [Rat.intCast_mul, Rat.intCast_pow, Rat.natCast_pow]; rfl
  rw [← h2] at h1
  exact (Rat.intCast_inj.mp h1).symm
theorem IsI.nn {x : UInt64} {n : Int} (h : IsI x n) (h0 : 0 ≤ n) : 0 ≤ R x := by rw [h.2]; exact Rat.intCast_nonneg.mpr h0
theorem nn_cmp {x : UInt64} (h : Fin x) (h0 : 0 ≤ R x) : (cmp x 0 == some Ordering.lt) = false := by
  have z := zero_fin
  exact cmp_not_lt h (y := 0) z.1 (by rw [show (0 : UInt64) = zero false from rfl, z.2]; exact h0)
theorem IsI.eq {x y : UInt64} {n m : Int} (hx : IsI x n) (hy : IsI y m) (h : n = m) : (cmp x y == some .eq) = true :=
  cmp_eq_of hx.1 hy.1 (by rw [hx.2, hy.2, h])
theorem cmpInt_nn {k : Int} (h : 0 ≤ k) : (cmpInt 0 k == some Ordering.gt) = false := by
  have z : Fin 0 := zero_fin.1
  obtain ⟨a, m, e, hd⟩ := z
  rw [cmpInt_right hd k]
  have hv : val 0 = 0 := by decide +kernel
  rw [hv]
  have : ¬ (k * 2 ^ 1074 < 0) := by
    have : 0 ≤ k * 2 ^ 1074 := Int.mul_nonneg h (Int.pow_nonneg (by decide))
    omega
  cases hc : compare (0 : Int) (k * 2 ^ 1074) with
  | lt => rfl
  | eq => rfl
  | gt => exact absurd (Int.compare_eq_gt.mp hc) this

/-- a quotient of floats and one of whole numbers are one rounding -/
theorem quot_eq {x y : UInt64} {n d : Int} (hx : Fin x) (hy : Fin y) (h0 : val y ≠ 0) (hd : d ≠ 0) (h : val x * d = n * val y) (hn : n.natAbs < 2 ^ 1023) :
    Fin (div x y) ∧ Fin (ofFrac (decide (n < 0) != decide (d < 0)) n.natAbs d.natAbs) ∧ R (div x y) = R (ofFrac (decide (n < 0) != decide (d < 0)) n.natAbs d.natAbs) := by
  obtain ⟨a, m, e, hdx⟩ := id hx
  obtain ⟨b, k, f, hdy⟩ := id hy
  have hk : k ≠ 0 := fun q => h0 (by rw [val_eq hdy, q, Nat.zero_mul]; cases b <;> rfl)
  have r1 := div_right hdx hdy hk
  have r2 : Right (ofFrac (decide (n < 0) != decide (d < 0)) n.natAbs d.natAbs) (decide (n < 0) != decide (d < 0)) (n.natAbs * 2 ^ 1074) d.natAbs := ofFrac_right (by omega) rfl (by omega)
  have habs : (val x).natAbs * d.natAbs = n.natAbs * (val y).natAbs := by rw [← Int.natAbs_mul, h, Int.natAbs_mul]
  obtain ⟨t, ht, e1, e2⟩ := right_unique r1 r2 (by omega) (by omega) (by
    generalize (2 : Nat) ^ 1074 = K
    calc (val x).natAbs * K * d.natAbs = (val x).natAbs * d.natAbs * K := by ac_rfl
      _ = n.natAbs * (val y).natAbs * K := by rw [habs]
      _ = n.natAbs * K * (val y).natAbs := by ac_rfl)
  have hni := PySem.Flt.quot_fits (sg := (decide (n < 0) != decide (d < 0))) (n := n.natAbs) (d := d.natAbs) (by omega) hn
  have hlt : t < infMag := by
    rcases Nat.lt_or_ge t infMag with q | q
    · exact q
    · exfalso
      have : t = infMag := by omega
      rw [e2, this] at hni
      exact hni (isInf_pack_inf _)
  rw [e1, e2]
  refine ⟨fin_pack _ hlt, fin_pack _ hlt, val_eq_iff.mp ?_⟩
  rw [val_pack _ hlt, val_pack _ hlt]
  by_cases hz : n = 0
  · -- both are nothing
    have hVt : V t = 0 := by
      obtain ⟨t', q1, _, _, q4⟩ := r2
      rw [e2] at q1
      have q5 := (q4 (by
        have : t' = t := by
          have i1 := congrArg UInt64.toNat q1
          have hh : infMag < 2 ^ 63 := by decide
          rw [pack_toNat _ (by omega), pack_toNat _ (by omega)] at i1
          omega
        omega) 0).1
      have : t' = t := by
        have i1 := congrArg UInt64.toNat q1
        have hh : infMag < 2 ^ 63 := by decide
        rw [pack_toNat _ (by omega), pack_toNat _ (by omega)] at i1
        omega
      rw [this, V_zero, hz] at q5
      simp only [Int.natAbs_zero, Nat.zero_mul, Nat.mul_zero] at q5
      unfold Float64.dist at q5
      have h3 : d.natAbs * V t = 0 := by generalize d.natAbs * V t = y at *; omega
      rcases Nat.mul_eq_zero.mp h3 with h4 | h4
      · omega
      · exact h4
    rw [hVt]
    cases (a != b) <;> cases (decide (n < 0) != decide (d < 0)) <;> rfl
  · have sx : val x ≠ 0 := fun q => by
      rw [q, Int.zero_mul] at h
      rcases Int.mul_eq_zero.mp h.symm with h1 | h1
      · exact hz h1
      · exact h0 h1
    have sa : a = decide (val x < 0) := by
      cases a
      · rw [val_eq hdx, sgn_false]; exact (decide_eq_false (by omega)).symm
      · rw [val_eq hdx, sgn_true] at sx ⊢; exact (decide_eq_true (by omega)).symm
    have sb : b = decide (val y < 0) := by
      cases b
      · rw [val_eq hdy, sgn_false]; exact (decide_eq_false (by omega)).symm
      · rw [val_eq hdy, sgn_true] at h0 ⊢; exact (decide_eq_true (by omega)).symm
    have sgn_eq : (a != b) = (decide (n < 0) != decide (d < 0)) := by
      rw [sa, sb]
      have prod : ∀ p q : Int, p ≠ 0 → q ≠ 0 → (decide (p < 0) != decide (q < 0)) = decide (p * q < 0) := by
        intro p q hp hq
        rcases Int.lt_or_lt_of_ne hp with h1 | h1 <;> rcases Int.lt_or_lt_of_ne hq with h2 | h2
        · rw [decide_eq_true h1, decide_eq_true h2, decide_eq_false (by have := Int.mul_pos_of_neg_of_neg h1 h2; omega)]; rfl
        · rw [decide_eq_true h1, decide_eq_false (show ¬ q < 0 by omega), decide_eq_true (Int.mul_neg_of_neg_of_pos h1 h2)]; rfl
        · rw [decide_eq_false (show ¬ p < 0 by omega), decide_eq_true h2, decide_eq_true (Int.mul_neg_of_pos_of_neg h1 h2)]; rfl
        · rw [decide_eq_false (show ¬ p < 0 by omega), decide_eq_false (show ¬ q < 0 by omega), decide_eq_false (by have := Int.mul_pos h1 h2; omega)]; rfl
      rw [prod _ _ sx h0, prod _ _ hz hd]
      -- (x y)(d d) = (n d)(y y)
      have e3 : val x * val y * (d * d) = n * d * (val y * val y) := by
        calc val x * val y * (d * d) = val x * d * (val y * d) := by ac_rfl
          _ = n * val y * (val y * d) := by rw [h]
          _ = n * d * (val y * val y) := by ac_rfl
      have pd : 0 < d * d := by rcases Int.lt_or_lt_of_ne hd with q | q; exact Int.mul_pos_of_neg_of_neg q q; exact Int.mul_pos q q
      have py : 0 < val y * val y := by rcases Int.lt_or_lt_of_ne h0 with q | q; exact Int.mul_pos_of_neg_of_neg q q; exact Int.mul_pos q q
      generalize val x * val y = A at *
      generalize n * d = B at *
      generalize d * d = C at *
      generalize val y * val y = D at *
      apply decide_eq_decide.mpr
      constructor
      · intro hA
        have := Int.mul_neg_of_neg_of_pos hA pd
        rw [e3] at this
        rcases Int.lt_or_le B 0 with q | q
        · exact q
        · have := Int.mul_nonneg q (Int.le_of_lt py); omega
      · intro hA
        have := Int.mul_neg_of_neg_of_pos hA py
        rw [← e3] at this
        rcases Int.lt_or_le A 0 with q | q
        · exact q
        · have := Int.mul_nonneg q (Int.le_of_lt pd); omega
    rw [sgn_eq]
end Mine
end
section
namespace Mine
open PySem PySem.Float64

/-- a spread whose square is q, n roundings away -/
structure Sp (σ : UInt64) (q : Rat) (n : Nat) : Prop where
  fin : Fin σ
  nn : 0 ≤ R σ
  lo : q - q * ((n : Rat) * (6/2^53)) ≤ R σ * R σ
  hi : R σ * R σ ≤ q + q * ((n : Rat) * (6/2^53))

def Rg (q : Rat) : Prop := q = 0 ∨ (1/2^500 ≤ q ∧ q ≤ 2^500)
theorem Rg.nn {q : Rat} (h : Rg q) : 0 ≤ q := by
  rcases h with h | h
  · rw [h]; exact Rat.le_refl
  · have : (0 : Rat) < 1/2^500 := by decide +kernel
    grind
theorem n_le {n : Nat} (h : n ≤ 70) : (n : Rat) * (6/2^53) ≤ 1/2^44 ∧ 0 ≤ (n : Rat) * (6/2^53) ∧ (n : Rat) * (6/2^53) * 2 ≤ 1/2^43 := by
  have a : (n : Rat) ≤ 70 := Rat.natCast_le_natCast (b := 70).mpr h
  have b : (0 : Rat) ≤ (n : Rat) := Rat.natCast_nonneg
  refine ⟨?_, ?_, ?_⟩ <;> grind
theorem Sp.range {σ : UInt64} {q : Rat} {n : Nat} (h : Sp σ q n) (hn : n ≤ 70) (hq : Rg q) : R σ = 0 ∨ (1/2^300 ≤ R σ ∧ R σ ≤ 2^300) := by
  obtain ⟨n1, n2, _⟩ := n_le hn
  have hlo := h.lo
  have hhi := h.hi
  generalize (n : Rat) * (6/2^53) = e at *
  rcases hq with hq | hq
  · left
    rw [hq] at hhi
    have h1 : R σ * R σ ≤ 0 * 0 := by grind
    have h2 := le_of_sq (p := R σ) (q := 0) Rat.le_refl h1
    exact Rat.le_antisymm h2 h.nn
  · right
    have q0 : 0 < q := by
      have : (0 : Rat) < 1/2^500 := by decide +kernel
      grind
    have e1 : q * e ≤ q * (1/2^44) := Rat.mul_le_mul_of_nonneg_left n1 (Rat.le_of_lt q0)
    constructor
    · refine le_of_sq h.nn ?_
      have : (1/2^300 : Rat) * (1/2^300) ≤ 1/2^500 * (1/2) := by decide +kernel
      grind
    · refine le_of_sq (by decide +kernel) ?_
      have : (2^500 : Rat) * 2 ≤ 2^300 * 2^300 := by decide +kernel
      grind
theorem sp_int {k : Int} (h0 : 0 ≤ k) (h : k ≤ 2 ^ 53) : Sp (ofInt k) ((k * k : Int) : Rat) 0 := by
  have i := isI_ofInt (n := k) (by omega)
  refine ⟨i.1, i.nn h0, ?_, ?_⟩ <;> rw [i.2, Rat.intCast_mul] <;> (have : ((0 : Nat) : Rat) = 0 := rfl) <;> grind
theorem Sp.mono {σ : UInt64} {q : Rat} {n m : Nat} (h : Sp σ q n) (hq : 0 ≤ q) (hm : n ≤ m) : Sp σ q m := by
  have a : (n : Rat) ≤ (m : Rat) := Rat.natCast_le_natCast.mpr hm
  have b : q * ((n : Rat) * (6/2^53)) ≤ q * ((m : Rat) * (6/2^53)) := Rat.mul_le_mul_of_nonneg_left (Rat.mul_le_mul_of_nonneg_right a (by decide +kernel)) hq
  have hlo := h.lo
  have hhi := h.hi
  exact ⟨h.fin, h.nn, by grind, by grind⟩

theorem Sp.hyp {σ τ : UInt64} {p q : Rat} {n : Nat} (h : Sp σ p n) (k : Sp τ q n) (hn : n ≤ 69) (hp : Rg p) (hq : Rg q) : Sp (hyp σ τ) (p + q) (n + 1) := by
  obtain ⟨f, f0, f1, f2⟩ := hyp_ok h.fin k.fin (h.range (by omega) hp) (k.range (by omega) hq)
  obtain ⟨n1, n2, _⟩ := n_le (show n ≤ 70 by omega)
  have hlo := h.lo
  have hhi := h.hi
  have klo := k.lo
  have khi := k.hi
  have p0 := hp.nn
  have q0 := hq.nn
  have hc : ((n + 1 : Nat) : Rat) * (6/2^53) = (n : Rat) * (6/2^53) + 6/2^53 := by rw [Rat.natCast_add, Rat.add_mul]; have c1 : ((1 : Nat) : Rat) = 1 := rfl; rw [c1, Rat.one_mul]
  refine ⟨f, f0, ?_, ?_⟩
  · rw [hc]
    generalize (n : Rat) * (6/2^53) = e at *
    generalize R σ * R σ = a at *
    generalize R τ * R τ = b at *
    generalize R (Mine.hyp σ τ) * R (Mine.hyp σ τ) = c at *
    have pe : p * e ≤ p * (1/2^44) := Rat.mul_le_mul_of_nonneg_left n1 p0
    have qe : q * e ≤ q * (1/2^44) := Rat.mul_le_mul_of_nonneg_left n1 q0
    generalize hpe : p * e = pe' at *
    generalize hqe : q * e = qe' at *
    have : (p + q) * (e + 6/2^53) = pe' + qe' + (p + q) * (6/2^53) := by rw [← hpe, ← hqe]; grind
    rw [this]
    grind
  · rw [hc]
    generalize (n : Rat) * (6/2^53) = e at *
    generalize R σ * R σ = a at *
    generalize R τ * R τ = b at *
    generalize R (Mine.hyp σ τ) * R (Mine.hyp σ τ) = c at *
    have pe : p * e ≤ p * (1/2^44) := Rat.mul_le_mul_of_nonneg_left n1 p0
    have qe : q * e ≤ q * (1/2^44) := Rat.mul_le_mul_of_nonneg_left n1 q0
    generalize hpe : p * e = pe' at *
    generalize hqe : q * e = qe' at *
    have : (p + q) * (e + 6/2^53) = pe' + qe' + (p + q) * (6/2^53) := by rw [← hpe, ← hqe]; grind
    rw [this]
    grind
/-- a correctly rounded multiple of a spread -/
theorem Sp.scaled {σ r : UInt64} {q z k : Rat} {n : Nat} (h : Sp σ q n) (hn : n ≤ 69) (hq : 0 ≤ q) (hk : 0 ≤ k) (hz : z = R σ * k) (hr : Rd r z) (hz0 : z = 0 ∨ 1/2^1000 ≤ z) : Sp r (q * (k * k)) (n + 1) := by
  obtain ⟨n1, n2, _⟩ := n_le (show n ≤ 70 by omega)
  have hlo := h.lo
  have hhi := h.hi
  have z0 : 0 ≤ z := by rw [hz]; exact Rat.mul_nonneg h.nn hk
  have r0 := hr.nonneg z0
  have bounds : z - z * (1/2^53) ≤ R r ∧ R r ≤ z + z * (1/2^53) := by
    rcases hz0 with q1 | q1
    · have := hr.ex (by rw [q1]; exact rep_int (n := 0) (by decide))
      rw [this, q1]; constructor <;> grind
    · exact hr.rel q1
  have zz : z * z = R σ * R σ * (k * k) := by rw [hz]; grind
  have up : R r * R r ≤ z * z * ((1 + 1/2^53) * (1 + 1/2^53)) := by
    have := sqle r0 bounds.2
    grind
  have dn : z * z * ((1 - 1/2^53) * (1 - 1/2^53)) ≤ R r * R r := by
    have := sqle (p := z - z * (1/2^53)) (q := R r) (by grind) bounds.1
    grind
  have hc : ((n + 1 : Nat) : Rat) * (6/2^53) = (n : Rat) * (6/2^53) + 6/2^53 := by rw [Rat.natCast_add, Rat.add_mul]; have c1 : ((1 : Nat) : Rat) = 1 := rfl; rw [c1, Rat.one_mul]
  have kk : 0 ≤ k * k := Rat.mul_nonneg hk hk
  have qk : 0 ≤ q * (k * k) := Rat.mul_nonneg hq kk
  have l1 := Rat.mul_le_mul_of_nonneg_right hlo kk
  have l2 := Rat.mul_le_mul_of_nonneg_right hhi kk
  rw [zz] at up dn
  generalize R σ * R σ * (k * k) = a at *
  have e1 : (q - q * ((n : Rat) * (6/2^53))) * (k * k) = q * (k * k) - q * (k * k) * ((n : Rat) * (6/2^53)) := by grind
  have e2 : (q + q * ((n : Rat) * (6/2^53))) * (k * k) = q * (k * k) + q * (k * k) * ((n : Rat) * (6/2^53)) := by grind
  rw [e1] at l1
  rw [e2] at l2
  generalize q * (k * k) = b at *
  have be : b * ((n : Rat) * (6/2^53)) ≤ b * (1/2^44) := Rat.mul_le_mul_of_nonneg_left n1 qk
  refine ⟨hr.fin, r0, ?_, ?_⟩
  · rw [hc, Rat.mul_add]
    generalize b * ((n : Rat) * (6/2^53)) = c at *
    generalize R r * R r = d at *
    grind
  · rw [hc, Rat.mul_add]
    generalize b * ((n : Rat) * (6/2^53)) = c at *
    generalize R r * R r = d at *
    grind
/-- the variance, within one part in 2^44 -/
theorem Sp.var {σ : UInt64} {q : Rat} {n : Nat} (h : Sp σ q n) (hn : n ≤ 70) (hq : Rg q) : Fin (mul σ σ) ∧ R (mul σ σ) - q ≤ q * (1/2^44) ∧ q - R (mul σ σ) ≤ q * (1/2^44) := by
  have a : (n : Rat) ≤ 70 := Rat.natCast_le_natCast (b := 70).mpr hn
  have n1 : (n : Rat) * (6/2^53) ≤ 420/2^53 := by grind
  have rg := h.range hn hq
  have hlo := h.lo
  have hhi := h.hi
  have q0 := hq.nn
  have ss0 : 0 ≤ R σ * R σ := Rat.mul_nonneg h.nn h.nn
  have hs : R σ * R σ ≤ 2^900 := by
    rcases rg with g | g
    · rw [g]; decide +kernel
    · have := sqle h.nn g.2
      have t : (2^300 : Rat) * 2^300 ≤ 2^900 := by decide +kernel
      grind
  have m := mul_rd h.fin h.fin (by have : (0 : Rat) ≤ 2^900 := by decide +kernel
                                   grind) hs
  have qe : q * ((n : Rat) * (6/2^53)) ≤ q * (420/2^53) := Rat.mul_le_mul_of_nonneg_left n1 q0
  have bounds : R σ * R σ - R σ * R σ * (1/2^53) ≤ R (mul σ σ) ∧ R (mul σ σ) ≤ R σ * R σ + R σ * R σ * (1/2^53) := by
    rcases rg with g | g
    · have e0 : R σ * R σ = 0 := by rw [g, Rat.zero_mul]
      have := m.ex (by rw [e0]; exact rep_int (n := 0) (by decide))
      rw [this, e0]; constructor <;> grind
    · have t : (1/2^1000 : Rat) ≤ 1/2^300 * (1/2^300) := by decide +kernel
      have := sqle (by decide +kernel) g.1
      exact m.rel (by grind)
  generalize q * ((n : Rat) * (6/2^53)) = c at *
  generalize R σ * R σ = d at *
  exact ⟨m.fin, by grind, by grind⟩
end Mine
end
section
namespace Mine
open PySem PySem.Float64

/-- what an entry of the pile is: its mean a whole number, its spread's square near sq / pa; a and B bound how small and how big that square may be, n counts roundings, M bounds the mean -/
structure Nm (a n : Nat) (B M mn sq pa : Int) (μ σ : UInt64) : Prop where
  mu : IsI μ mn
  m1 : -M ≤ mn
  m2 : mn ≤ M
  s0 : 0 ≤ sq
  p0 : ∃ j, j ≤ 3 * a ∧ pa = 4 ^ j
  lo : sq = 0 ∨ pa ≤ sq * 64 ^ a
  hi : sq ≤ pa * B
  sp : Sp σ ((sq : Rat) / (pa : Rat)) n

theorem Nm.pa_pos {a n : Nat} {B M mn sq pa : Int} {μ σ : UInt64} (h : Nm a n B M mn sq pa μ σ) : 0 < pa := by
  obtain ⟨j, _, e⟩ := h.p0
  rw [e]; exact Int.pow_pos (by decide)
theorem ipow_le {a b : Nat} (h : a ≤ b) : (64 : Int) ^ a ≤ 64 ^ b := by
  have := Nat.pow_le_pow_right (n := 64) (by decide) h
  exact_mod_cast this
theorem rat_pos {p : Int} (h : 0 < p) : (0 : Rat) < (p : Rat) := Rat.intCast_lt_intCast (a := 0).mpr h
theorem Nm.rg {a n : Nat} {B M mn sq pa : Int} {μ σ : UInt64} (h : Nm a n B M mn sq pa μ σ) (ha : a ≤ 64) (hB : B ≤ 2 ^ 450) : Rg ((sq : Rat) / (pa : Rat)) := by
  have pp := h.pa_pos
  have pr := rat_pos pp
  rcases h.lo with q | q
  · left; rw [q, Rat.div_def]; exact Rat.zero_mul _
  · right
    have i : (pa : Rat) * (pa : Rat)⁻¹ = 1 := Rat.mul_inv_cancel _ (Rat.ne_of_gt pr)
    have iv : (0 : Rat) < (pa : Rat)⁻¹ := Rat.inv_pos.mpr pr
    rw [Rat.div_def (sq : Rat)]
    constructor
    · have e1 : (64 : Int) ^ a ≤ 64 ^ 64 := ipow_le ha
      have e2 : sq * 64 ^ a ≤ sq * 64 ^ 64 := Int.mul_le_mul_of_nonneg_left e1 h.s0
      have e3 : (pa : Rat) ≤ (sq : Rat) * 64 ^ 64 := by
        have := Rat.intCast_le_intCast.mpr (Int.le_trans q e2)
        rw [Rat.intCast_mul] at this
        exact this
      have e4 : (pa : Rat) * (pa : Rat)⁻¹ ≤ (sq : Rat) * 64 ^ 64 * (pa : Rat)⁻¹ := Rat.mul_le_mul_of_nonneg_right e3 (Rat.le_of_lt iv)
      rw [i] at e4
      have t : (1 : Rat)/2^500 * 64^64 ≤ 1 := by decide +kernel
      generalize hz : (sq : Rat) * (pa : Rat)⁻¹ = z
      have e5 : (1 : Rat) ≤ z * 64 ^ 64 := by rw [← hz]; grind
      refine Rat.not_lt.mp fun hlt => ?_
      have : z * 64 ^ 64 < (1 : Rat)/2^500 * 64^64 := Rat.mul_lt_mul_of_pos_right hlt (by decide +kernel)
      grind
    · have e1 : pa * B ≤ pa * 2 ^ 450 := Int.mul_le_mul_of_nonneg_left hB (Int.le_of_lt pp)
      have e3 : (sq : Rat) ≤ (pa : Rat) * 2 ^ 450 := by
        have := Rat.intCast_le_intCast.mpr (Int.le_trans h.hi e1)
        rw [Rat.intCast_mul] at this
        exact this
      have e4 : (sq : Rat) * (pa : Rat)⁻¹ ≤ (pa : Rat) * 2 ^ 450 * (pa : Rat)⁻¹ := Rat.mul_le_mul_of_nonneg_right e3 (Rat.le_of_lt iv)
      have t : (2 : Rat)^450 ≤ 2 ^ 500 := by decide +kernel
      grind
theorem Nm.nn {a n : Nat} {B M mn sq pa : Int} {μ σ : UInt64} (h : Nm a n B M mn sq pa μ σ) : (cmp σ 0 == some Ordering.lt) = false := nn_cmp h.sp.fin h.sp.nn
theorem Nm.mono {a b n k : Nat} {B C M N mn sq pa : Int} {μ σ : UInt64} (h : Nm a n B M mn sq pa μ σ) (ha : a ≤ b) (hn : n ≤ k) (hB : B ≤ C) (hM : M ≤ N) : Nm b k C N mn sq pa μ σ := by
  have pp := h.pa_pos
  refine ⟨h.mu, by have := h.m1; omega, by have := h.m2; omega, h.s0, ?_, ?_, ?_, h.sp.mono ?_ hn⟩
  · obtain ⟨j, hj, e⟩ := h.p0
    exact ⟨j, by omega, e⟩
  · rcases h.lo with q | q
    · exact .inl q
    · exact .inr (Int.le_trans q (Int.mul_le_mul_of_nonneg_left (ipow_le ha) h.s0))
  · exact Int.le_trans h.hi (Int.mul_le_mul_of_nonneg_left hB (Int.le_of_lt pp))
  · rw [Rat.div_def]; exact Rat.mul_nonneg (Rat.intCast_nonneg.mpr h.s0) (Rat.le_of_lt (Rat.inv_pos.mpr (rat_pos pp)))

theorem Nm.lay {v u : Int} (h1 : -(2 ^ 20) ≤ v) (h2 : v ≤ 2 ^ 20) (hu : u = if v < 0 then -v else v) : Nm 0 0 (2 ^ 42) (2 ^ 20) v (v * v) 1 (ofInt v) (ofInt u) := by
  have u0 : 0 ≤ u ∧ u ≤ 2 ^ 20 := by split at hu <;> omega
  have e : u * u = v * v := by split at hu <;> (subst hu; grind)
  have vv : 0 ≤ v * v := by rw [← e]; exact Int.mul_nonneg u0.1 u0.1
  have vle : v * v ≤ 2 ^ 20 * 2 ^ 20 := by rw [← e]; exact Int.mul_le_mul u0.2 u0.2 u0.1 (by decide)
  refine ⟨isI_ofInt (by omega), h1, h2, vv, ⟨0, by omega, rfl⟩, ?_, by omega, ?_⟩
  · rw [Int.pow_zero]; omega
  · have s := sp_int (k := u) u0.1 (by omega)
    rw [e] at s
    have : ((1 : Int) : Rat) = 1 := rfl
    rw [this, Rat.div_def, show (1 : Rat)⁻¹ = 1 from by decide +kernel, Rat.mul_one]
    exact s
theorem fdiv_pow {i j : Nat} (h : i ≤ j) : (Int.fdiv (4 ^ j) (4 ^ i) : Int) = 4 ^ (j - i) := by
  have e : (4 : Int) ^ j = 4 ^ (j - i) * 4 ^ i := by rw [← Int.pow_add]; congr 1; omega
  rw [e]; exact Int.mul_fdiv_cancel _ (Int.ne_of_gt (Int.pow_pos (by decide)))

theorem div_scale {s p c : Int} (hp : 0 < p) (hc : 0 < c) : (s : Rat) / (p : Rat) = ((s * c : Int) : Rat) / ((p * c : Int) : Rat) := by
  have hp' := rat_pos hp
  have hc' := rat_pos hc
  rw [Rat.intCast_mul, Rat.intCast_mul, Rat.div_def, Rat.div_def]
  have i1 : (p : Rat) * (p : Rat)⁻¹ = 1 := Rat.mul_inv_cancel _ (Rat.ne_of_gt hp')
  have i2 : ((p : Rat) * c) * ((p : Rat) * c)⁻¹ = 1 := Rat.mul_inv_cancel _ (Rat.ne_of_gt (Rat.mul_pos hp' hc'))
  grind
theorem add_div {a b w : Rat} : a / w + b / w = (a + b) / w := by rw [Rat.div_def, Rat.div_def, Rat.div_def]; grind
/-- the bigger of two powers of four holds each of them a whole number of times -/
theorem pow_max {i j : Nat} {w : Int} (h : w = 4 ^ i ∨ w = 4 ^ j) (hi : (4 : Int) ^ i ≤ w) (hj : (4 : Int) ^ j ≤ w) :
    ∃ k, (k = i ∨ k = j) ∧ w = 4 ^ k ∧ i ≤ k ∧ j ≤ k := by
  have lt4 : ∀ {a b : Nat}, (4 : Int) ^ a ≤ 4 ^ b → a ≤ b := fun {a b} h => by
    have : (4 : Nat) ^ a ≤ 4 ^ b := by exact_mod_cast h
    exact (Nat.pow_le_pow_iff_right (by decide)).mp this
  rcases h with e | e
  · exact ⟨i, .inl rfl, e, Nat.le_refl _, lt4 (e ▸ hj)⟩
  · exact ⟨j, .inr rfl, e, lt4 (e ▸ hi), Nat.le_refl _⟩
theorem Nm.sum {a n : Nat} {B C M N m1 s1 p1 m2 s2 p2 w mn : Int} {μ σ μ' σ' ρ : UInt64} (h : Nm a n B M m1 s1 p1 μ σ) (k : Nm a n C N m2 s2 p2 μ' σ') (ha : a ≤ 64) (hn : n ≤ 69) (hB : B ≤ 2 ^ 450) (hC : C ≤ 2 ^ 450)
    (hw : w = p1 ∨ w = p2) (w1 : p1 ≤ w) (w2 : p2 ≤ w) (hm : IsI ρ mn) (l1 : -(M + N) ≤ mn) (l2 : mn ≤ M + N) :
    Nm a (n + 1) (B + C) (M + N) mn (s1 * Int.fdiv w p1 + s2 * Int.fdiv w p2) w ρ (hyp σ σ') := by
  have hs := h.sp.hyp k.sp hn (h.rg ha hB) (k.rg ha hC)
  obtain ⟨i, hi, e1⟩ := h.p0
  obtain ⟨j, hj, e2⟩ := k.p0
  have h1 := h.s0
  have k1 := k.s0
  have hlo := h.lo
  have klo := k.lo
  have hhi := h.hi
  have khi := k.hi
  subst e1 e2
  obtain ⟨x, hx, rfl, xi, xj⟩ := pow_max hw w1 w2
  rw [fdiv_pow xi, fdiv_pow xj]
  have q1 : (4 : Int) ^ x = 4 ^ i * 4 ^ (x - i) := by rw [← Int.pow_add]; congr 1; omega
  have q2 : (4 : Int) ^ x = 4 ^ j * 4 ^ (x - j) := by rw [← Int.pow_add]; congr 1; omega
  have c1 : (0 : Int) < 4 ^ (x - i) := Int.pow_pos (by decide)
  have c2 : (0 : Int) < 4 ^ (x - j) := Int.pow_pos (by decide)
  have a1 : (0 : Int) < 4 ^ i := Int.pow_pos (by decide)
  have a2 : (0 : Int) < 4 ^ j := Int.pow_pos (by decide)
  have g : (0 : Int) < 64 ^ a := Int.pow_pos (by decide)
  refine ⟨hm, l1, l2, Int.add_nonneg (Int.mul_nonneg h1 (Int.le_of_lt c1)) (Int.mul_nonneg k1 (Int.le_of_lt c2)), ⟨x, by omega, rfl⟩, ?_, ?_, ?_⟩
  · have b1 := Int.mul_nonneg (Int.mul_nonneg h1 (Int.le_of_lt c1)) (Int.le_of_lt g)
    have b2 := Int.mul_nonneg (Int.mul_nonneg k1 (Int.le_of_lt c2)) (Int.le_of_lt g)
    rcases hlo with z | z
    · rcases klo with y | y
      · left; rw [z, y]; omega
      · right
        have := Int.mul_le_mul_of_nonneg_right y (Int.le_of_lt c2)
        rw [← q2] at this
        rw [Int.add_mul]
        have e : s2 * 64 ^ a * 4 ^ (x - j) = s2 * 4 ^ (x - j) * 64 ^ a := by ac_rfl
        rw [e] at this
        omega
    · right
      have := Int.mul_le_mul_of_nonneg_right z (Int.le_of_lt c1)
      rw [← q1] at this
      rw [Int.add_mul]
      have e : s1 * 64 ^ a * 4 ^ (x - i) = s1 * 4 ^ (x - i) * 64 ^ a := by ac_rfl
      rw [e] at this
      omega
  · have y1 := Int.mul_le_mul_of_nonneg_right hhi (Int.le_of_lt c1)
    have y2 := Int.mul_le_mul_of_nonneg_right khi (Int.le_of_lt c2)
    have e1 : (4 : Int) ^ i * B * 4 ^ (x - i) = 4 ^ x * B := by rw [q1]; ac_rfl
    have e2 : (4 : Int) ^ j * C * 4 ^ (x - j) = 4 ^ x * C := by rw [q2]; ac_rfl
    rw [e1] at y1
    rw [e2] at y2
    rw [Int.mul_add]
    omega
  · have d1 := div_scale (s := s1) a1 c1
    have d2 := div_scale (s := s2) a2 c2
    rw [← q1] at d1
    rw [← q2] at d2
    rw [d1, d2, add_div, ← Rat.intCast_add] at hs
    exact hs
theorem Nm.add {a n : Nat} {B C M N m1 s1 p1 m2 s2 p2 w mn : Int} {μ σ μ' σ' : UInt64} (h : Nm a n B M m1 s1 p1 μ σ) (k : Nm a n C N m2 s2 p2 μ' σ') (ha : a ≤ 64) (hn : n ≤ 69) (hB : B ≤ 2 ^ 450) (hC : C ≤ 2 ^ 450) (hM : M + N ≤ 2 ^ 53)
    (hw : w = p1 ∨ w = p2) (w1 : p1 ≤ w) (w2 : p2 ≤ w) (hmn : mn = m1 + m2) :
    Nm a (n + 1) (B + C) (M + N) mn (s1 * Int.fdiv w p1 + s2 * Int.fdiv w p2) w (Float64.add μ μ') (hyp σ σ') := by
  have := h.m1; have := h.m2; have := k.m1; have := k.m2
  subst hmn
  exact h.sum k ha hn hB hC hw w1 w2 (h.mu.add k.mu (by omega)) (by omega) (by omega)
theorem Nm.sub {a n : Nat} {B C M N m1 s1 p1 m2 s2 p2 w mn : Int} {μ σ μ' σ' : UInt64} (h : Nm a n B M m1 s1 p1 μ σ) (k : Nm a n C N m2 s2 p2 μ' σ') (ha : a ≤ 64) (hn : n ≤ 69) (hB : B ≤ 2 ^ 450) (hC : C ≤ 2 ^ 450) (hM : M + N ≤ 2 ^ 53)
    (hw : w = p1 ∨ w = p2) (w1 : p1 ≤ w) (w2 : p2 ≤ w) (hmn : mn = m1 - m2) :
    Nm a (n + 1) (B + C) (M + N) mn (s1 * Int.fdiv w p1 + s2 * Int.fdiv w p2) w (Float64.sub μ μ') (hyp σ σ') := by
  have := h.m1; have := h.m2; have := k.m1; have := k.m2
  subst hmn
  exact h.sum k ha hn hB hC hw w1 w2 (h.mu.sub k.mu (by omega)) (by omega) (by omega)
theorem Nm.q0 {a n : Nat} {B M mn sq pa : Int} {μ σ : UInt64} (h : Nm a n B M mn sq pa μ σ) : 0 ≤ (sq : Rat) / (pa : Rat) := by
  rw [Rat.div_def]; exact Rat.mul_nonneg (Rat.intCast_nonneg.mpr h.s0) (Rat.le_of_lt (Rat.inv_pos.mpr (rat_pos h.pa_pos)))
theorem Nm.neg {a n : Nat} {B M mn sq pa : Int} {μ σ : UInt64} (h : Nm a n B M mn sq pa μ σ) : Nm a n B M (-mn) sq pa (Float64.neg μ) σ :=
  ⟨h.mu.neg, by have := h.m2; omega, by have := h.m1; omega, h.s0, h.p0, h.lo, h.hi, h.sp⟩
theorem Nm.rsub {a n : Nat} {B M N mn sq pa v r : Int} {μ σ : UInt64} (h : Nm a n B M mn sq pa μ σ) (h1 : -N ≤ v) (h2 : v ≤ N) (hM : M + N ≤ 2 ^ 53) (hr : r = v - mn) (hN : 0 ≤ M) : Nm a n B (M + N) r sq pa (Float64.neg (Float64.sub μ (ofInt v))) σ := by
  have := h.m1; have := h.m2
  have i := (h.mu.sub (isI_ofInt (n := v) (by omega)) (by omega)).neg
  have e : -(mn - v) = r := by omega
  rw [e] at i
  exact ⟨i, by omega, by omega, h.s0, h.p0, h.lo, h.hi, h.sp⟩

theorem abs_int {k : Int} (h : k.natAbs ≤ 2 ^ 53) : Fin (Float64.abs (ofInt k)) ∧ R (Float64.abs (ofInt k)) = ((k.natAbs : Int) : Rat) := (isI_ofInt h).abs
theorem nat_sq (k : Int) : ((k.natAbs : Int)) * (k.natAbs : Int) = k * k := Int.natAbs_mul_self' k
theorem Nm.mulk {a n : Nat} {B M mn sq pa k m' s' : Int} {μ σ : UInt64} (h : Nm a n B M mn sq pa μ σ) (ha : a ≤ 64) (hn : n ≤ 69) (hB : B ≤ 2 ^ 450) (k1 : -8 ≤ k) (k2 : k ≤ 8) (hM : M * 8 ≤ 2 ^ 53) (hm : m' = mn * k) (hs : s' = sq * k * k) (hB0 : 0 ≤ B) :
    Nm a (n + 1) (B * 64) (M * 8) m' s' pa (Float64.mul μ (ofInt k)) (Float64.mul σ (Float64.abs (ofInt k))) := by
  have := h.m1; have := h.m2
  have s0 := h.s0
  have pp := h.pa_pos
  have rg := h.rg ha hB
  have kn : (k.natAbs : Int) ≤ 8 ∧ 0 ≤ (k.natAbs : Int) := by omega
  have kk : 0 ≤ k * k ∧ k * k ≤ 64 := by
    rw [← nat_sq]
    exact ⟨Int.mul_nonneg kn.2 kn.2, Int.mul_le_mul kn.1 kn.1 kn.2 (by decide)⟩
  have M0 : 0 ≤ M := by omega
  have b1 : mn * k ≤ M * 8 ∧ -(M * 8) ≤ mn * k := by
    have a1 : (mn * k).natAbs ≤ (M * 8).natAbs := by
      rw [Int.natAbs_mul, Int.natAbs_mul]
      exact Nat.mul_le_mul (by omega) (by omega)
    omega
  subst hm
  have hs2 : s' = sq * (k * k) := by rw [hs, Int.mul_assoc]
  subst hs2
  refine ⟨h.mu.mul (isI_ofInt (by omega)) (by omega), by omega, by omega, Int.mul_nonneg s0 kk.1, h.p0, ?_, ?_, ?_⟩
  · by_cases k0 : k = 0
    · left; rw [k0]; simp
    · rcases h.lo with z | z
      · left; rw [z]; simp
      · right
        have p1 : 1 ≤ k * k := by
          rw [← nat_sq]
          have : 1 ≤ (k.natAbs : Int) := by omega
          exact Int.mul_le_mul this this (by decide) (by omega)
        have := Int.mul_le_mul_of_nonneg_left p1 s0
        rw [Int.mul_one] at this
        exact Int.le_trans z (Int.mul_le_mul_of_nonneg_right this (Int.le_of_lt (Int.pow_pos (by decide))))
  · have y := Int.mul_le_mul_of_nonneg_right h.hi kk.1
    have z := Int.mul_le_mul_of_nonneg_left kk.2 (Int.mul_nonneg (Int.le_of_lt pp) hB0)
    rw [← Int.mul_assoc pa]
    exact Int.le_trans y z
  · have ab := abs_int (k := k) (by omega)
    have hr := h.sp.range (by omega) rg
    have k8 : ((k.natAbs : Int) : Rat) ≤ 8 := Rat.intCast_le_intCast (b := 8).mpr kn.1
    have k0 : (0 : Rat) ≤ ((k.natAbs : Int) : Rat) := Rat.intCast_nonneg.mpr kn.2
    have z0 : 0 ≤ R σ * ((k.natAbs : Int) : Rat) := Rat.mul_nonneg h.sp.nn k0
    have ub : R σ * ((k.natAbs : Int) : Rat) ≤ 2 ^ 900 := by
      rcases hr with g | g
      · rw [g, Rat.zero_mul]; decide +kernel
      · have a1 := Rat.mul_le_mul_of_nonneg_left k8 h.sp.nn
        have a2 : (2 : Rat) ^ 300 * 8 ≤ 2 ^ 900 := by decide +kernel
        grind
    have rd := mul_rd h.sp.fin ab.1 (by rw [ab.2]; have : (0 : Rat) ≤ 2 ^ 900 := by decide +kernel
                                        grind) (by rw [ab.2]; exact ub)
    rw [ab.2] at rd
    have sc := h.sp.scaled hn h.q0 k0 rfl rd (by
      by_cases e : k.natAbs = 0
      · left; rw [e]; exact Rat.mul_zero _
      · rcases hr with g | g
        · left; rw [g, Rat.zero_mul]
        · right
          have o1 : (1 : Rat) ≤ ((k.natAbs : Int) : Rat) := Rat.intCast_le_intCast (a := 1).mpr (by omega)
          have a1 := Rat.mul_le_mul_of_nonneg_left o1 h.sp.nn
          rw [Rat.mul_one] at a1
          have a2 : (1 : Rat) / 2 ^ 1000 ≤ 1 / 2 ^ 300 := by decide +kernel
          grind)
    have e : (sq : Rat) / (pa : Rat) * (((k.natAbs : Int) : Rat) * ((k.natAbs : Int) : Rat)) = ((sq * (k * k) : Int) : Rat) / (pa : Rat) := by
      rw [← Rat.intCast_mul, nat_sq, Rat.div_def, Rat.div_def, Rat.intCast_mul]; grind
    rw [e] at sc
    exact sc
theorem pow_d {d : Int} (h : d = 1 ∨ d = 2 ∨ d = 4 ∨ d = 8 ∨ d = -1 ∨ d = -2 ∨ d = -4 ∨ d = -8) : ∃ e : Nat, e ≤ 3 ∧ d * d = 4 ^ e := by
  rcases h with e | e | e | e | e | e | e | e
  · exact ⟨0, by omega, by rw [e]; rfl⟩
  · exact ⟨1, by omega, by rw [e]; rfl⟩
  · exact ⟨2, by omega, by rw [e]; rfl⟩
  · exact ⟨3, by omega, by rw [e]; rfl⟩
  · exact ⟨0, by omega, by rw [e]; rfl⟩
  · exact ⟨1, by omega, by rw [e]; rfl⟩
  · exact ⟨2, by omega, by rw [e]; rfl⟩
  · exact ⟨3, by omega, by rw [e]; rfl⟩
def D8 (d : Int) : Prop := d = 1 ∨ d = 2 ∨ d = 4 ∨ d = 8 ∨ d = -1 ∨ d = -2 ∨ d = -4 ∨ d = -8
theorem D8.ne {d : Int} (h : D8 d) : d ≠ 0 := by unfold D8 at h; omega
theorem D8.le {d : Int} (h : D8 d) : d.natAbs ≤ 8 ∧ 1 ≤ d.natAbs := by unfold D8 at h; omega
theorem D8.d1 {d : Int} (h : D8 d) : ¬ isInf (ofInt d) = true := by
  unfold D8 at h
  rcases h with e | e | e | e | e | e | e | e <;> (subst e; decide +kernel)
theorem D8.d2 {d : Int} (h : D8 d) : ¬ isZero (ofInt d) = true ∧ ¬ isZero (Float64.abs (ofInt d)) = true := by
  unfold D8 at h
  rcases h with e | e | e | e | e | e | e | e <;> (subst e; decide +kernel)
theorem Nm.divd {a n : Nat} {B M mn sq pa d m' p' : Int} {μ σ : UInt64} (h : Nm a n B M mn sq pa μ σ) (ha : a ≤ 64) (hn : n ≤ 69) (hB : B ≤ 2 ^ 450) (hB0 : 0 ≤ B) (hd : D8 d) (hM : M ≤ 2 ^ 53) (hz : Int.fmod mn d = 0) (hm : m' = Int.fdiv mn d) (hp : p' = pa * d * d) :
    Nm (a + 1) (n + 1) B M m' sq p' (Float64.div μ (ofInt d)) (Float64.div σ (Float64.abs (ofInt d))) := by
  have m1 := h.m1; have m2 := h.m2
  have s0 := h.s0
  have pp := h.pa_pos
  have rg := h.rg ha hB
  have d0 := hd.ne
  have dl := hd.le
  obtain ⟨e, he, de⟩ := pow_d hd
  have c0 : (0 : Int) < 4 ^ e := Int.pow_pos (by decide)
  have c64 : (4 : Int) ^ e ≤ 64 := by
    rcases (show e = 0 ∨ e = 1 ∨ e = 2 ∨ e = 3 by omega) with q | q | q | q <;> (rw [q]; decide)
  have hp2 : p' = pa * 4 ^ e := by rw [hp, Int.mul_assoc, de]
  have hmd : mn = m' * d := by
    have := Int.mul_fdiv_add_fmod mn d
    rw [hz, ← hm] at this
    rw [← this]; rw [Int.mul_comm]; omega
  have mle : m'.natAbs ≤ mn.natAbs := by
    rw [hmd, Int.natAbs_mul]
    exact Nat.le_mul_of_pos_right _ (by omega)
  clear hm hp
  subst hp2
  have ib := isI_ofInt (n := d) (by omega)
  have ab := abs_int (k := d) (by omega)
  have dr : (d : Rat) ≠ 0 := fun q => d0 (Rat.intCast_eq_zero_iff.mp q)
  have idr : (d : Rat) * (d : Rat)⁻¹ = 1 := Rat.mul_inv_cancel _ dr
  have muq : R μ / R (ofInt d) = (m' : Rat) := by
    rw [h.mu.2, ib.2, hmd, Rat.intCast_mul, Rat.div_def, Rat.mul_assoc, idr, Rat.mul_one]
  have li := lim_int (n := m') (by omega)
  have rm := div_rd h.mu.1 ib.1 (by rw [ib.2]; exact dr) (by rw [muq]; exact li.1) (by rw [muq]; exact li.2)
  rw [muq] at rm
  refine ⟨⟨rm.fin, rm.ex (rep_int (by omega))⟩, by omega, by omega, s0, ?_, ?_, ?_, ?_⟩
  · obtain ⟨j, hj, ej⟩ := h.p0
    exact ⟨j + e, by omega, by rw [ej, ← Int.pow_add]⟩
  · rcases h.lo with z | z
    · exact .inl z
    · right
      have y := Int.mul_le_mul_of_nonneg_right z (Int.le_of_lt c0)
      have x := Int.mul_le_mul_of_nonneg_left c64 (Int.mul_nonneg s0 (Int.le_of_lt (Int.pow_pos (n := 64) (m := a) (by decide))))
      have g : sq * 64 ^ (a + 1) = sq * 64 ^ a * 64 := by rw [Int.pow_succ, Int.mul_assoc]
      rw [g]
      exact Int.le_trans y x
  · have o1 : (1 : Int) ≤ 4 ^ e := c0
    have y := Int.mul_le_mul_of_nonneg_left o1 (Int.mul_nonneg (Int.le_of_lt pp) hB0)
    rw [Int.mul_one] at y
    have g : pa * 4 ^ e * B = pa * B * 4 ^ e := by ac_rfl
    rw [g]
    exact Int.le_trans h.hi y
  · have hr := h.sp.range (by omega) rg
    have k8 : ((d.natAbs : Int) : Rat) ≤ 8 := Rat.intCast_le_intCast (b := 8).mpr (by omega)
    have k1 : (1 : Rat) ≤ ((d.natAbs : Int) : Rat) := Rat.intCast_le_intCast (a := 1).mpr (by omega)
    have sq2 : ((d.natAbs : Int) : Rat) * ((d.natAbs : Int) : Rat) = ((4 ^ e : Int) : Rat) := by rw [← Rat.intCast_mul, nat_sq, de]
    rw [show ((d.natAbs : Int) : Rat) = ((d.natAbs : Int) : Rat) from rfl] at ab
    generalize hk : ((d.natAbs : Int) : Rat) = k at ab k8 k1 sq2
    have kp : 0 < k := by grind
    have ik : k * k⁻¹ = 1 := Rat.mul_inv_cancel _ (Rat.ne_of_gt kp)
    have iv : 0 < k⁻¹ := Rat.inv_pos.mpr kp
    have iv1 : k⁻¹ ≤ 1 := by
      have := Rat.mul_le_mul_of_nonneg_right k1 (Rat.le_of_lt iv)
      rw [ik, Rat.one_mul] at this
      exact this
    have iv8 : 1 ≤ 8 * k⁻¹ := by
      have := Rat.mul_le_mul_of_nonneg_right k8 (Rat.le_of_lt iv)
      rw [ik] at this
      exact this
    have zq : R σ / R (Float64.abs (ofInt d)) = R σ * k⁻¹ := by rw [ab.2, Rat.div_def]
    have z0 : 0 ≤ R σ * k⁻¹ := Rat.mul_nonneg h.sp.nn (Rat.le_of_lt iv)
    have ub : R σ * k⁻¹ ≤ 2 ^ 900 := by
      rcases hr with g | g
      · rw [g, Rat.zero_mul]; decide +kernel
      · have a1 := Rat.mul_le_mul_of_nonneg_left iv1 h.sp.nn
        have a2 : (2 : Rat) ^ 300 ≤ 2 ^ 900 := by decide +kernel
        grind
    have rd := div_rd h.sp.fin ab.1 (by rw [ab.2]; exact Rat.ne_of_gt kp) (by rw [zq]; have : (0 : Rat) ≤ 2 ^ 900 := by decide +kernel
                                                                              grind) (by rw [zq]; exact ub)
    rw [zq] at rd
    have sc := h.sp.scaled hn h.q0 (Rat.le_of_lt iv) rfl rd (by
      rcases hr with g | g
      · left; rw [g, Rat.zero_mul]
      · right
        have a1 := Rat.mul_le_mul_of_nonneg_left iv8 h.sp.nn
        have a2 : (1 : Rat) / 2 ^ 1000 * 8 ≤ 1 / 2 ^ 300 := by decide +kernel
        grind)
    have pr := rat_pos pp
    have cr := rat_pos c0
    have ip : (pa : Rat) * (pa : Rat)⁻¹ = 1 := Rat.mul_inv_cancel _ (Rat.ne_of_gt pr)
    have ipc : ((pa : Rat) * ((4 ^ e : Int) : Rat)) * ((pa : Rat) * ((4 ^ e : Int) : Rat))⁻¹ = 1 := Rat.mul_inv_cancel _ (Rat.ne_of_gt (Rat.mul_pos pr cr))
    have ee : (sq : Rat) / (pa : Rat) * (k⁻¹ * k⁻¹) = (sq : Rat) / ((pa * 4 ^ e : Int) : Rat) := by
      rw [Rat.intCast_mul, Rat.div_def, Rat.div_def]
      rw [← sq2] at ipc ⊢
      generalize (sq : Rat) = x at *
      generalize ((pa : Rat) * (k * k))⁻¹ = y at *
      generalize (pa : Rat)⁻¹ = pi at *
      generalize (pa : Rat) = p at *
      generalize k⁻¹ = ki at *
      have g1 : p * (k * k) * (pi * (ki * ki)) = 1 := by
        have : p * (k * k) * (pi * (ki * ki)) = (p * pi) * ((k * ki) * (k * ki)) := by grind
        rw [this, ip, ik]; decide +kernel
      have g2 : y = pi * (ki * ki) := by
        have : y * (p * (k * k) * (pi * (ki * ki))) = (p * (k * k) * y) * (pi * (ki * ki)) := by grind
        rw [g1, ipc, Rat.mul_one, Rat.one_mul] at this
        exact this
      rw [g2]; grind
    rw [ee] at sc
    exact sc

theorem nn_hyp2 {a n b k : Nat} {B C M N m1 s1 p1 m2 s2 p2 : Int} {μ σ μ' σ' : UInt64} (h : Nm a n B M m1 s1 p1 μ σ) (g : Nm b k C N m2 s2 p2 μ' σ') (ha : a ≤ 64) (hb : b ≤ 64) (hn : n ≤ 69) (hk : k ≤ 69) (hB : B ≤ 2 ^ 450) (hC : C ≤ 2 ^ 450) :
    (cmp (hyp σ σ') 0 == some Ordering.lt) = false := by
  have x := hyp_ok h.sp.fin g.sp.fin (h.sp.range (by omega) (h.rg ha hB)) (g.sp.range (by omega) (g.rg hb hC))
  exact nn_cmp x.1 x.2.1
theorem D8.b {d : Int} (h : D8 d) : -8 ≤ d ∧ d ≤ 8 := by unfold D8 at h; omega
end Mine
end
section
open PySem PySem.W PyProof.Rows PySem.Calls
namespace Mine
open PySem.Builtin
/-- int.__mul__ and its kin answer NotImplemented for an object of an own class (no int below) -/
theorem int_mul_own (a : Int) (t : Tok) (l : Addr) (ob : Obj) (C : Addr) (hc : ob.cls = .ref C) (hd : ob.data = .plain) :
    Meets (Builtin.«int.__mul__» ⟨[.int a t, .ref l], []⟩) (fun _ R s => s.heap.get? l = some ob ∧ R (.ok (.ret Value.notImplemented)) s) := by
  obtain ⟨c, d, dt, sl⟩ := ob
  cases hc; cases hd
  exact .of_wp fun prog w A R s h => by obtain ⟨hp, g, d, tk, os⟩ := s; obtain ⟨hl, h⟩ := h; wp_walk; exact ⟨_, rfl, h⟩
theorem int_add_own (a : Int) (t : Tok) (l : Addr) (ob : Obj) (C : Addr) (hc : ob.cls = .ref C) (hd : ob.data = .plain) :
    Meets (Builtin.«int.__add__» ⟨[.int a t, .ref l], []⟩) (fun _ R s => s.heap.get? l = some ob ∧ R (.ok (.ret Value.notImplemented)) s) := by
  obtain ⟨c, d, dt, sl⟩ := ob
  cases hc; cases hd
  exact .of_wp fun prog w A R s h => by obtain ⟨hp, g, d, tk, os⟩ := s; obtain ⟨hl, h⟩ := h; wp_walk; exact ⟨_, rfl, h⟩
theorem int_sub_own (a : Int) (t : Tok) (l : Addr) (ob : Obj) (C : Addr) (hc : ob.cls = .ref C) (hd : ob.data = .plain) :
    Meets (Builtin.«int.__sub__» ⟨[.int a t, .ref l], []⟩) (fun _ R s => s.heap.get? l = some ob ∧ R (.ok (.ret Value.notImplemented)) s) := by
  obtain ⟨c, d, dt, sl⟩ := ob
  cases hc; cases hd
  exact .of_wp fun prog w A R s h => by obtain ⟨hp, g, d, tk, os⟩ := s; obtain ⟨hl, h⟩ := h; wp_walk; exact ⟨_, rfl, h⟩

section
variable {prog : Program} {w : World} {M : Model} {A : Around} {E : Value → Shared → Prop} {s : Shared} {K : Frag} {x C L f p : Addr} {h₀ : Heap} {m : Str → Option Value} {ox : Obj} {od : Option Obj} {name : Str}

/-- a property of an object whose class has slots -/
theorem get_propS {expr : Bool} {Q : Value → Shared → Prop} {fget : Addr} {rest : List Value} {od : Obj} (F : Fr h₀ L s.heap m) (X₀ : K.In h₀) (I : InstAt s.heap x ox C (some od)) (hg : plainGet K C name = true) (hc : isClsIn K C = true)
    (ha : findIn K (.ref C) name = some (some (.ref p))) (hn : specialIn K (.ref p) "__get__" = some (some (.builtin "property.__get__"))) (ht : takesIn K (.ref p) = some true) (hp : recIn K p "property" = some (.ref fget :: rest))
    (h : codeAny (model prog w) A.in1 (.call (.ref fget) ⟨[.ref x], []⟩) (fun r s' => match r with | .ok (.ret v) => wpAny (model prog w) A (handedOut v) Q E s' | .ok _ => False | .error e => wpAny (model prog w) A (noteIf true (.ref x) (.str name s.toks) e) (fun _ s'' => E e s'') E s') { s with toks := s.toks + 1 }) :
    wpAny (model prog w) A (getAttr (.ref x) name expr) Q E s :=
  get_bind (X₀.keeps F.keep) I (plainGet_of hg).1 (findObj_data hc ha hn ht) (plainGet_of hg).2 (wpAny_call (prop_get (s := { s with toks := s.toks + 1 }) (X₀.keeps F.keep) hp h))

/-- int OP own: the int's slot declines, the own class's reflected method is asked -/
theorem rbin {op : Operator} {sym nm : String} {id : String} {B : Builtin} {n : Int} {t : Tok} {g : Addr} {Q : Value → Shared → Prop} (hi : op.info = (sym, nm)) (F : Fr h₀ L s.heap m) (X₀ : K.In h₀) (I : InstAt s.heap x ox C od) (hc : selfFirst K C = true)
    (hs : findIn K (.ref C) (PySem.dunder nm) = some (some (.ref g))) (hr : findIn K (.ref C) (dunderR nm) = some (some (.ref f))) (hf : isFn K (.ref f) = true)
    (hfl : fillsNumberSlot (.type "int") nm = pure true) (hsub : subIn K (.ref C) (.type "int") = some false)
    (slot : Slot "int" (PySem.dunder nm) id) (entry : entryFor table id = some B) (args : argsOk id ⟨[.int n t, .ref x], []⟩)
    (hB : Meets (B ⟨[.int n t, .ref x], []⟩) (fun _ R s => s.heap.get? x = some ox ∧ R (.ok (.ret Value.notImplemented)) s))
    (h : wpAny (model prog w) A (call (.ref f) [.ref x, .int n t]) (PySem.W.CmpBack Q) E s) : wpAny (model prog w) A (binaryOp op (.int n t) (.ref x)) Q E s := by
  have X := X₀.keeps F.keep
  obtain ⟨cd, rest, hcd, hm⟩ := ksp_first hc
  have one := ksp_try X I hr hf h
  have hx : s.heap.get? x = some ox := I.1
  have two : wpAny (model prog w) A (tryMethod (.int n t) (PySem.dunder nm) (.ref x)) (fun r s' => r = none ∧ s' = s) E s := by
    refine wpAny_tryMethod_declines (typeIs_int s n t) slot (call_meets slot (typeIs_int s n t) entry args hB ⟨hx, ?_⟩)
    exact ⟨rfl, rfl, rfl⟩
  obtain ⟨hh, g, d, tt, os⟩ := s
  have L1 : Looks (model prog w) hh (typeOf (.ref x)) (.ref C) := I.type
  have L2 : Looks (model prog w) hh (typeOf (.int n t)) (.type "int") := Looks.of_pure rfl
  have L3 : Looks (model prog w) hh (fillsNumberSlot (.ref C) nm) true := fills_K X hcd hm hs
  have L4 : Looks (model prog w) hh (fillsNumberSlot (.type "int") nm) true := Looks.of_pure hfl
  have L5 : Looks (model prog w) hh (isSubtype (.ref C) (.type "int")) false := looks_subIn X hsub
  have L7 : Looks (model prog w) hh (numberSlotInPython (.type "int") nm) false := Looks.of_pure rfl
  have hne : (Value.type "int" == Value.ref C) = false := Bool.eq_false_iff.mpr fun q => by cases beq_iff_eq.mp q
  simp only [binaryOp, hi]
  refine wpAny_holding (wpAny_bind ?_)
  unfold binaryOp1
  refine wpAny_bind (L2.at (wpAny_bind (L1.at (wpAny_bind (L4.at ?_)))))
  simp only [hne, Bool.false_eq_true, if_false]
  ksp_lk
  refine wpAny_mono two (fun r s' hr' => ?_) fun _ _ e => e
  obtain ⟨rfl, rfl⟩ := hr'
  ksp_lk
  refine wpAny_mono one (fun r s' hr' => ?_) fun _ _ e => e
  obtain ⟨v, rfl, hq⟩ := hr'
  ksp_lk
  exact hq

theorem entry_one : entryFor table "object.__ne__" = some Builtin.«object.__ne__» := entryFor_of_tree (by kernel_rfl)
theorem one_plain : plainId "object.__ne__" = true := by decide +kernel
theorem one_kind : builtinKind "object.__ne__" = some .slot := by decide +kernel
theorem one_split : splitId "object.__ne__" = some ("object", "__ne__") := by decide +kernel
theorem one_args (a b : Value) : argsOk "object.__ne__" ⟨[a, b], []⟩ := by unfold argsOk; kernel_rfl
theorem one_bind (self : Value) : bindSpecial (.builtin "object.__ne__") self = pure (.builtin "object.__ne__", [self]) :=
  (Slot.of (T := "object") (name := "__ne__") (owner := "object") (n := "__ne__") (by rw [typeLookup_type, builtinLookup_eq_fast]; kernel_rfl) (by decide +kernel) (by decide +kernel) (by decide +kernel)
    (.inl (by decide +kernel)) (by rw [isSubtype_type]; kernel_rfl)).bind self

/-- x != b for an own class with __eq__ alone: object.__ne__ asks it and turns the answer -/
theorem ne_own {b : Value} {Q : Value → Shared → Prop} (hu : A.units + 8 < cLine) (F : Fr h₀ L s.heap m) (X₀ : K.In h₀) (I : InstAt s.heap x ox C od) (hb : Looks (model prog w) s.heap (typeOf b) (.ref C)) 
    (hn : findIn K (.ref C) "__ne__" = some (some (.builtin "object.__ne__"))) (hsub : subIn K (.ref C) (.type "object") = some true)
    (hs : findIn K (.ref C) "__eq__" = some (some (.ref f))) (hf : isFn K (.ref f) = true)
    (h : wpAny (model prog w) A.in1 (call (.ref f) [.ref x, b]) (fun v s' => ∃ r, v = .bool r ∧ Q (.bool (!r)) s') E s) : wpAny (model prog w) A (compareOp .NotEq (.ref x) b) Q E s := by
  have X := X₀.keeps F.keep
  show wpAny (model prog w) A (richCompare .NotEq (.ref x) b) Q E s
  have Lt : Looks (model prog w) s.heap (typeOf (.ref x)) (.ref C) := I.type
  have Li : Looks (model prog w) s.heap (isInstance (.ref x) (.type "object")) true := Lt.andThen (looks_subIn X hsub)
  have body : wpAny (model prog w) A (call (.builtin "object.__ne__") [.ref x, b]) (fun v s' => v ≠ .notImplemented ∧ Q v s') E s := by
    refine wpAny_call (codeAny_call_builtin one_plain entry_one (@check_slot (model prog w) _ _ _ "object.__ne__" "object" "__ne__" (.ref x) [b] [] _ one_kind one_split Li (one_args (.ref x) b) ?_))
    unfold Builtin.«object.__ne__»
    have sa : PySem.slotArgs "__ne__" 1 ⟨[Value.ref x, b], []⟩ = pure (Value.ref x, [b]) := by rfl
    show wpAny _ _ (PySem.slotArgs "__ne__" 1 ⟨[.ref x, b], []⟩ >>= _) _ _ _
    rw [sa, pure_bind]
    refine wpAny_bind (wpAny_cRoomFor (by show A.units + 1 < _; omega) ?_)
    refine wpAny_bind (ifBound_K X I hs hf (wpAny_mono h (fun v s' hv => ?_) fun _ _ e => e))
    obtain ⟨r, rfl, hq⟩ := hv
    refine wpAny_bind (wpAny_pure ?_)
    exact wpAny_pure ⟨Value.noConfusion, hq⟩
  have one : wpAny (model prog w) A (tryCompare (.ref x) "__ne__" b) (fun r s' => ∃ v, r = some v ∧ Q v s') E s := by
    unfold tryCompare
    simp only [callSpecialIfBound?, bindSpecialIfBound?]
    refine wpAny_bind (wpAny_holding (wpAny_bind (wpAny_bind (wpAny_bind (I.type.here ((looks_findIn X hn).here ?_))))))
    refine wpAny_bind (wpAny_askSetting (wpAny_ite ?_))
    have fin : wpAny (model prog w) A (call (.builtin "object.__ne__") ([.ref x] ++ [b]) >>= fun v => pure (some v)) (fun a s' => wpAny (model prog w) A (match a with | some .notImplemented | none => pure none | some v => pure (some v)) (fun r s' => ∃ v, r = some v ∧ Q v s') E s') E s := 
      wpAny_bind (wpAny_mono body (fun v s' h' => wpAny_pure (by obtain ⟨h1, h2⟩ := h'; cases v <;> first | exact (h1 rfl).elim | exact wpAny_pure ⟨_, rfl, h2⟩)) fun _ _ h' => h')
    split
    · exact wpAny_bind ((Looks.of_pure (one_bind (.ref x))).here (wpAny_pure (by exact fin)))
    · exact wpAny_tryCatch (wpAny_bind ((Looks.of_pure (one_bind (.ref x))).here (wpAny_pure (by exact fin))))
  unfold richCompare
  simp only [oneThing_ref]
  refine wpAny_holding (wpAny_bind (wpAny_cRoomFor (by omega) ?_))
  refine wpAny_bind (I.type.here (wpAny_bind (hb.here ?_)))
  simp only [bne_self_eq_false, Bool.false_eq_true, if_false]
  refine wpAny_bind (wpAny_pure ?_)
  simp only [Bool.false_eq_true, if_false]
  refine wpAny_bind (wpAny_mono one (fun r s' z => ?_) fun _ _ e => e)
  obtain ⟨v, rfl, hq⟩ := z
  exact wpAny_pure hq

theorem kind_hypot : builtinKind "math.hypot" = none := by decide +kernel
theorem plain_hypot : plainId "math.hypot" = true := by decide +kernel
theorem entry_hypot : entryFor table "math.hypot" = some Builtin.«math.hypot» := entryFor_of_fast (by kernel_rfl)
theorem args_hypot (a b : Value) : argsOk "math.hypot" ⟨[a, b], []⟩ := by unfold argsOk; kernel_rfl
theorem call_hypot {a b : UInt64} {t u : Tok} {Q : Value → Shared → Prop} (h : Q (.float (hyp a b) s.toks) { s with toks := s.toks + 1 }) :
    wpAny (model prog w) A (call (.builtin "math.hypot") [.float a t, .float b u]) Q E s := by
  refine call_function_entry kind_hypot plain_hypot entry_hypot (args_hypot _ _) ?_
  show wpAny _ _ (mkFloat (hyp a b) >>= fun v => ret v) _ _ s
  exact fun _ _ _ => ⟨_, rfl, h⟩
end
end Mine
end
section
open PySem PySem.W PyProof.Rows PySem.Calls
namespace Mine
theorem ratio_ok {m : Nat} {e : Int} (he : -1074 ≤ e) : 0 < (Float64.ratio m e).2 ∧ m * 2 ^ (e + 1074).toNat * (Float64.ratio m e).2 = (Float64.ratio m e).1 * 2 ^ 1074 := by
  have key : ∀ n d : Nat, 0 < d → m * 2 ^ (e + 1074).toNat * d = n * 2 ^ 1074 → 0 < d / n.gcd d ∧ m * 2 ^ (e + 1074).toNat * (d / n.gcd d) = n / n.gcd d * 2 ^ 1074 := by
    intro n d hd h
    have g : 0 < n.gcd d := Nat.gcd_pos_of_pos_right _ hd
    have e1 : n / n.gcd d * n.gcd d = n := Nat.div_mul_cancel (Nat.gcd_dvd_left n d)
    have e2 : d / n.gcd d * n.gcd d = d := Nat.div_mul_cancel (Nat.gcd_dvd_right n d)
    refine ⟨Nat.div_pos (Nat.le_of_dvd hd (Nat.gcd_dvd_right n d)) g, Nat.eq_of_mul_eq_mul_right g ?_⟩
    rw [Nat.mul_assoc, e2, h, Nat.mul_right_comm, e1]
  unfold Float64.ratio Float64.shift
  by_cases h : e ≥ 0
  · rw [if_pos h]
    refine key _ _ (by decide) ?_
    rw [Nat.mul_one, Nat.mul_assoc, ← Nat.pow_add]
    congr 2; omega
  · rw [if_neg h]
    refine key _ _ (by rw [Nat.one_mul]; exact Nat.two_pow_pos _) ?_
    rw [Nat.one_mul, Nat.mul_assoc, ← Nat.pow_add]
    congr 2; omega
theorem ratio_le {m : Nat} {e : Int} (he : -1074 ≤ e) : (Float64.ratio m e).2 ≤ 2 ^ 1074 := by
  unfold Float64.ratio Float64.shift
  by_cases h : e ≥ 0
  · rw [if_pos h]
    exact Nat.le_trans (Nat.div_le_self _ _) Nat.one_le_two_pow
  · rw [if_neg h]
    refine Nat.le_trans (Nat.div_le_self _ _) ?_
    rw [Nat.one_mul]
    exact Nat.pow_le_pow_right (by decide) (by omega)
theorem air_val {x : UInt64} {b : Bool} {m : Nat} {e : Int} (hd : Float64.decode x = .fin b m e) : (0 : Int) < ((Float64.ratio m e).2 : Int) ∧ R x * (((Float64.ratio m e).2 : Int) : Rat) = ((Float64.sgn b (Float64.ratio m e).1 : Int) : Rat) := by
  obtain ⟨d0, h⟩ := ratio_ok (m := m) (Float64.decode_ge hd)
  refine ⟨by omega, ?_⟩
  have hv : Float64.val x = Float64.sgn b (m * 2 ^ (e + 1074).toNat) := by unfold Float64.val; rw [hd]
  have hi : Float64.val x * ((Float64.ratio m e).2 : Int) = Float64.sgn b (Float64.ratio m e).1 * 2 ^ 1074 := by
    rw [hv]
    have hz : ((m * 2 ^ (e + 1074).toNat : Nat) : Int) * ((Float64.ratio m e).2 : Int) = ((Float64.ratio m e).1 : Int) * 2 ^ 1074 := by exact_mod_cast h
    generalize ((m * 2 ^ (e + 1074).toNat : Nat)) = z at hz ⊢
    cases b with
    | false => exact hz
    | true =>
      show -(z : Int) * _ = -((Float64.ratio m e).1 : Int) * _
      rw [Int.neg_mul, Int.neg_mul, hz]
  have hr := R_mul x
  have hq : (Float64.val x : Rat) * (((Float64.ratio m e).2 : Int) : Rat) = ((Float64.sgn b (Float64.ratio m e).1 : Int) : Rat) * TW := by
    rw [TW_nat, ← Rat.intCast_mul, hi, Rat.intCast_mul]
    congr 1
  rw [← hr] at hq
  have tp := TW_pos
  have ti : TW * TW⁻¹ = 1 := Rat.mul_inv_cancel _ (Rat.ne_of_gt tp)
  have hh := congrArg (fun z : Rat => z * TW⁻¹) hq
  generalize TW⁻¹ = y at *
  generalize (((Float64.ratio m e).2 : Int) : Rat) = dd at *
  generalize ((Float64.sgn b (Float64.ratio m e).1 : Int) : Rat) = nn at *
  have a1 : R x * TW * dd * y = R x * dd * (TW * y) := by generalize TW = tt; grind
  have a2 : nn * TW * y = nn * (TW * y) := by generalize TW = tt; grind
  rw [a1, a2, ti, Rat.mul_one, Rat.mul_one] at hh
  exact hh
section
variable {prog : Program} {w : World} {A : Around} {E : Value → Shared → Prop} {s : Shared} {h₀ : Heap} {L : Addr} {mm : Str → Option Value} {news : List (Addr × Obj)}
def airSpec (p d : Int) : PySem.Spec := fun _ R s => R (.ok (.ret (.ref s.heap.objs.size))) { s with toks := s.toks + 1 + 1, heap := s.heap.push { cls := .type "tuple", data := .seq #[.int p s.toks, .int d (s.toks + 1)] } }
theorem meets_air {x : UInt64} {t : Tok} {b : Bool} {m : Nat} {e : Int} (hd : Float64.decode x = .fin b m e) :
    Meets (Builtin.«float.as_integer_ratio» ⟨[.float x t], []⟩) (airSpec (Float64.sgn b (Float64.ratio m e).1) (Float64.ratio m e).2) := by
  intro prog w A R s h
  unfold Builtin.«float.as_integer_ratio»
  refine wpAny_bind (m := Builtin.Float.floatMethod0 _ _) (wpAny_pure ?_)
  dsimp only
  rw [hd]
  dsimp only
  exact wpAny_bind (wpAny_mkInt (wpAny_bind (wpAny_mkInt (wpAny_bind (wpAny_newTuple (wpAny_pure h))))))
theorem getMethod_air {M : Model} {x : UInt64} {t : Tok} {pl : Sem Bool} {Q : Value × List Value → Shared → Prop} (h : Q (.builtin "float.as_integer_ratio", [.float x t]) s) : wpAny M A (getMethod (.float x t) "as_integer_ratio" pl) Q E s := by
  with_reducible exact getMethod_builtin (typeIs_float _ _ _) F.plainAttrs_float F.slot_float_as_integer_ratio F.type_float_as_integer_ratio (fun _ e => nomatch e) h
theorem call_air {x : UInt64} {t : Tok} {Q : Value → Shared → Prop} (hf : Fin x) (Fm : Fr h₀ L s.heap mm) (N : News h₀ L s.heap news)
    (h : ∀ p d z tp td h' tk', 0 < d → d ≤ 2 ^ 1074 → R x * ((d : Int) : Rat) = ((p : Int) : Rat) → Fr h₀ L h' mm → News h₀ L h' ((z, { cls := .type "tuple", data := .seq [Value.int p tp, Value.int d td].toArray }) :: news) → Q (.ref z) { s with heap := h', toks := tk' }) :
    wpAny (model prog w) A (call (.builtin "float.as_integer_ratio") [.float x t]) Q E s := by
  obtain ⟨b, m, e, hd⟩ := hf
  obtain ⟨d0, hv⟩ := air_val hd
  exact call_meets F.slot_float_as_integer_ratio (typeIs_float s x t) F.entry_float_as_integer_ratio (F.args_float_as_integer_ratio_1 _) (meets_air hd) (h _ _ _ _ _ _ _ d0 (by have := ratio_le (m := m) (Float64.decode_ge hd); exact_mod_cast this) hv (Fm.push _) (N.push Fm _))
end
theorem rsub_mul {a b c : Rat} : (a - b) * c = a * c - b * c := by grind
/-- the law's test of a variance -/
theorem Nm.fits {a n : Nat} {B M mn sq pa p d : Int} {μ σ : UInt64} (h : Nm a n B M mn sq pa μ σ) (ha : a ≤ 64) (hn : n ≤ 70) (hB : B ≤ 2 ^ 450) (hd : 0 < d) (hv : R (Float64.mul σ σ) * (d : Rat) = (p : Rat)) :
    (if p * pa - sq * d < 0 then -(p * pa - sq * d) else p * pa - sq * d) * 2 ^ 44 ≤ sq * d := by
  obtain ⟨_, u1, u2⟩ := h.sp.var hn (h.rg ha hB)
  have pp := rat_pos h.pa_pos
  have dp := rat_pos hd
  have ip : (pa : Rat) * (pa : Rat)⁻¹ = 1 := Rat.mul_inv_cancel _ (Rat.ne_of_gt pp)
  have pd : (0 : Rat) < (pa : Rat) * d := Rat.mul_pos pp dp
  have c1 := Rat.mul_le_mul_of_nonneg_right u1 (Rat.le_of_lt pd)
  have c2 := Rat.mul_le_mul_of_nonneg_right u2 (Rat.le_of_lt pd)
  rw [Rat.div_def (sq : Rat)] at c1 c2
  have e1 : R (Float64.mul σ σ) * ((pa : Rat) * d) = (p : Rat) * pa := by rw [← hv]; generalize R (Float64.mul σ σ) = r; grind
  have e2 : (sq : Rat) * (pa : Rat)⁻¹ * ((pa : Rat) * d) = (sq : Rat) * d := by
    have : (sq : Rat) * (pa : Rat)⁻¹ * ((pa : Rat) * d) = (sq : Rat) * ((pa : Rat) * (pa : Rat)⁻¹) * d := by generalize (pa : Rat)⁻¹ = y; grind
    rw [this, ip, Rat.mul_one]
  have e3 : (sq : Rat) * (pa : Rat)⁻¹ * (1/2^44) * ((pa : Rat) * d) = (sq : Rat) * d * (1/2^44) := by
    rw [← e2]; generalize (pa : Rat)⁻¹ = y; grind
  rw [e3] at c1 c2
  rw [rsub_mul, e1, e2] at c1
  rw [rsub_mul, e1, e2] at c2
  have t44 : ((2 ^ 44 : Int) : Rat) = 2 ^ 44 := rfl
  have g1 : ((p * pa - sq * d : Int) : Rat) * (2 ^ 44 : Int) ≤ ((sq * d : Int) : Rat) := by
    rw [Rat.intCast_sub, Rat.intCast_mul, Rat.intCast_mul, t44]
    generalize (p : Rat) * pa = x at *
    generalize (sq : Rat) * d = y at *
    clear e1 e2 e3 ip pd u1 u2 hv
    grind
  have g2 : ((sq * d - p * pa : Int) : Rat) * (2 ^ 44 : Int) ≤ ((sq * d : Int) : Rat) := by
    rw [Rat.intCast_sub, Rat.intCast_mul, Rat.intCast_mul, t44]
    generalize (p : Rat) * pa = x at *
    generalize (sq : Rat) * d = y at *
    clear e1 e2 e3 ip pd u1 u2 hv
    grind
  rw [← Rat.intCast_mul] at g1 g2
  have i1 := Rat.intCast_le_intCast.mp g1
  have i2 := Rat.intCast_le_intCast.mp g2
  split
  · have : -(p * pa - sq * d) = sq * d - p * pa := by omega
    rw [this]; exact i2
  · exact i1

/-- a whole number of at most k places -/
def Bt (k : Nat) (a : Int) : Prop := a.natAbs ≤ 2 ^ k
theorem Bt.mul {j k : Nat} {a b : Int} (h : Bt j a) (g : Bt k b) : Bt (j + k) (a * b) := by
  unfold Bt at *
  rw [Int.natAbs_mul, Nat.pow_add]
  exact Nat.mul_le_mul h g
theorem Bt.mono {j k : Nat} {a : Int} (h : Bt j a) (hk : j ≤ k) : Bt k a := Nat.le_trans h (Nat.pow_le_pow_right (by decide) hk)
theorem Bt.bits {k : Nat} {a : Int} (h : Bt k a) (hk : k ≤ 1000000) : Builtin.Int.intBits a ≤ 2 ^ 20 := by
  unfold Builtin.Int.intBits
  split
  · omega
  · rename_i hz
    have hne : a.natAbs ≠ 0 := fun q => hz (by have : a = 0 := by omega
                                               rw [this]; rfl)
    have h2 : a.natAbs < 2 ^ (k + 1) := Nat.lt_of_le_of_lt h (Nat.pow_lt_pow_right (by decide) (by omega))
    have := (Nat.log2_lt hne).mpr h2
    omega
theorem Bt.ok {j k : Nat} {a b : Int} (h : Bt j a) (g : Bt k b) (hj : j ≤ 1000000) (hk : k ≤ 1000000) : IntMulOk a b := IntMulOk.of_bits (h.bits hj) (g.bits hk)
theorem Bt.of {k : Nat} {a : Int} (h0 : 0 ≤ a) (h : a ≤ 2 ^ k) : Bt k a := by
  unfold Bt
  have h1 : ((a.natAbs : Nat) : Int) = a := Int.natAbs_of_nonneg h0
  have : ((a.natAbs : Nat) : Int) ≤ ((2 ^ k : Nat) : Int) := by rw [h1]; exact_mod_cast h
  exact_mod_cast this
theorem Nm.bpa {a n : Nat} {B M mn sq pa : Int} {μ σ : UInt64} (h : Nm a n B M mn sq pa μ σ) (ha : a ≤ 64) : Bt 384 pa := by
  obtain ⟨j, hj, e⟩ := h.p0
  refine Bt.of (Int.le_of_lt h.pa_pos) ?_
  rw [e]
  have : (4 : Nat) ^ j ≤ 2 ^ 384 := by
    rw [show (4 : Nat) = 2 ^ 2 from rfl, ← Nat.pow_mul]
    exact Nat.pow_le_pow_right (by decide) (by omega)
  exact_mod_cast this
theorem Nm.bsq {a n : Nat} {B M mn sq pa : Int} {μ σ : UInt64} (h : Nm a n B M mn sq pa μ σ) (ha : a ≤ 64) (hB : B ≤ 2 ^ 450) : Bt 834 sq := by
  have b := h.bpa ha
  have pp := h.pa_pos
  refine Bt.of h.s0 (Int.le_trans h.hi (Int.le_trans (Int.mul_le_mul_of_nonneg_left hB (Int.le_of_lt pp)) ?_))
  have : pa ≤ 2 ^ 384 := by
    have h1 : ((pa.natAbs : Nat) : Int) = pa := Int.natAbs_of_nonneg (Int.le_of_lt pp)
    rw [← h1]
    have b' : pa.natAbs ≤ 2 ^ 384 := b
    exact_mod_cast b'
  have g := Int.mul_le_mul_of_nonneg_right this (show (0 : Int) ≤ 2 ^ 450 from Int.le_of_lt (Int.pow_pos (by decide)))
  rw [← Int.pow_add] at g
  exact g
theorem Nm.bp {a n : Nat} {B M mn sq pa p d : Int} {μ σ : UInt64} (h : Nm a n B M mn sq pa μ σ) (ha : a ≤ 64) (hn : n ≤ 70) (hB : B ≤ 2 ^ 450) (hd : 0 < d) (hd2 : d ≤ 2 ^ 1074) (hv : R (Float64.mul σ σ) * (d : Rat) = (p : Rat)) : Bt 1576 p := by
  have rg := h.rg ha hB
  obtain ⟨_, u1, u2⟩ := h.sp.var hn rg
  have q0 := h.q0
  have rle : R (Float64.mul σ σ) ≤ 2 ^ 502 ∧ 0 ≤ R (Float64.mul σ σ) := by
    have t1 : (2 : Rat) ^ 500 * 2 ≤ 2 ^ 502 := by decide +kernel
    have t2 : (0 : Rat) ≤ 2 ^ 502 := by decide +kernel
    generalize (sq : Rat) / (pa : Rat) = q at *
    rcases rg with g | g <;> constructor <;> grind
  have d1 : (d : Rat) ≤ ((2 ^ 1074 : Int) : Rat) := Rat.intCast_le_intCast.mpr hd2
  have d0 := rat_pos hd
  have p0 : (0 : Rat) ≤ (p : Rat) := by rw [← hv]; exact Rat.mul_nonneg rle.2 (Rat.le_of_lt d0)
  have pl : (p : Rat) ≤ ((2 ^ 1576 : Int) : Rat) := by
    rw [← hv]
    have a1 := Rat.mul_le_mul_of_nonneg_right rle.1 (Rat.le_of_lt d0)
    have a2 := Rat.mul_le_mul_of_nonneg_left d1 (show (0 : Rat) ≤ 2 ^ 502 by decide +kernel)
    have a3 : (2 : Rat) ^ 502 * ((2 ^ 1074 : Int) : Rat) = ((2 ^ 1576 : Int) : Rat) := by decide +kernel
    rw [a3] at a2
    exact Rat.le_trans a1 a2
  exact Bt.of (Rat.intCast_nonneg.mp p0) (Rat.intCast_le_intCast.mp pl)
theorem Nm.ok_p {a n : Nat} {B M mn sq pa p d : Int} {μ σ : UInt64} (h : Nm a n B M mn sq pa μ σ) (ha : a ≤ 64) (hn : n ≤ 70) (hB : B ≤ 2 ^ 450) (hd : 0 < d) (hd2 : d ≤ 2 ^ 1074) (hv : R (Float64.mul σ σ) * (d : Rat) = (p : Rat)) : IntMulOk p pa :=
  (h.bp ha hn hB hd hd2 hv).ok (h.bpa ha) (by decide) (by decide)
theorem Nm.ok_s {a n : Nat} {B M mn sq pa d : Int} {μ σ : UInt64} (h : Nm a n B M mn sq pa μ σ) (ha : a ≤ 64) (hB : B ≤ 2 ^ 450) (hd : 0 < d) (hd2 : d ≤ 2 ^ 1074) : IntMulOk sq d :=
  (h.bsq ha hB).ok (Bt.of (Int.le_of_lt hd) hd2) (by decide) (by decide)
end Mine
end
section
open PySem PySem.W PyProof.Rows
namespace Mine
noncomputable def topS (k : Nat) (l : List Stmt) : Stmt := (l.drop k).headD (.Pass default)
noncomputable def inC : Stmt → List Stmt | .ClassDef _ _ _ b .. => b | _ => []
noncomputable def mkFn {n : Str} {a1 a2 : List Arg} {a3 : Option Arg} {a4 : List Arg} {a5 : List (Option Expr)} {a6 : Option Arg} {a7 : List Expr} {b : List Stmt} {dl : List Expr} {rt : Option Expr} {tp : List TypeParam}
    {s1 : ScopeKind} {s2 : List (Str × NameKind)} {s3 s4 : Bool} {s5 : List (Str × Const)} {ts : Option Scope} {bi : Str} {ps : Pos} (st : Stmt)
    (_ : st = Stmt.FunctionDef n ⟨a1, a2, a3, a4, a5, a6, a7⟩ b dl rt tp ⟨s1, s2, s3, s4, s5⟩ ts bi ps) (k : Arguments → FuncBody → Scope → Obj) : Obj := k ⟨a1, a2, a3, a4, a5, a6, a7⟩ (.stmts b) ⟨s1, s2, s3, s4, s5⟩
noncomputable def inP (i : Nat) : Stmt := topS i PySem.Challenge.pw_oz0056_05.main.body
noncomputable def inQ (i j : Nat) : Stmt := topS j (inC (inP i))
noncomputable def hd05.view_39 : Program := { PySem.Challenge.pw_oz0056_05 with main := { PySem.Challenge.pw_oz0056_05.main with body := [inP 0, inP 1, inP 3, inP 4, inP 6, inP 7, inP 8, inP 9] } }
noncomputable def hd05.o_49 : Obj := mkFn (inP 1) rfl fun a b s => { cls := Value.type "function", data := Data.func { name := Str.ofString "_wall", qualname := Str.ofString "_wall", params := a, body := b, scope := s, globals := 3, closure := [], defaults := Value.none, kwdefaults := Value.none, pyModule := Value.str (Str.ofString "__main__") 164, code := Value.ref 48 } }
noncomputable def hd05.o_78 : Obj := mkFn (inQ 4 1) rfl fun a b s => { cls := Value.type "function", data := Data.func { name := Str.ofString "__init__", qualname := Str.ofString "NormalDist.__init__", params := a, body := b, scope := s, globals := 3, closure := [], defaults := Value.ref 71, kwdefaults := Value.none, pyModule := Value.str (Str.ofString "cpy313.statistics") 387, code := Value.ref 77 } }
noncomputable def hd05.o_85 : Obj := mkFn (inQ 4 2) rfl fun a b s => { cls := Value.type "function", data := Data.func { name := Str.ofString "from_samples", qualname := Str.ofString "NormalDist.from_samples", params := a, body := b, scope := s, globals := 3, closure := [], defaults := Value.none, kwdefaults := Value.none, pyModule := Value.str (Str.ofString "cpy313.statistics") 387, annotations := some 88, code := Value.ref 84 } }
noncomputable def hd05.o_96 : Obj := mkFn (inQ 4 3) rfl fun a b s => { cls := Value.type "function", data := Data.func { name := Str.ofString "samples", qualname := Str.ofString "NormalDist.samples", params := a, body := b, scope := s, globals := 3, closure := [], defaults := Value.none, kwdefaults := Value.ref 89, pyModule := Value.str (Str.ofString "cpy313.statistics") 387, code := Value.ref 95 } }
noncomputable def hd05.o_103 : Obj := mkFn (inQ 4 4) rfl fun a b s => { cls := Value.type "function", data := Data.func { name := Str.ofString "pdf", qualname := Str.ofString "NormalDist.pdf", params := a, body := b, scope := s, globals := 3, closure := [], defaults := Value.none, kwdefaults := Value.none, pyModule := Value.str (Str.ofString "cpy313.statistics") 387, code := Value.ref 102 } }
noncomputable def hd05.o_110 : Obj := mkFn (inQ 4 5) rfl fun a b s => { cls := Value.type "function", data := Data.func { name := Str.ofString "cdf", qualname := Str.ofString "NormalDist.cdf", params := a, body := b, scope := s, globals := 3, closure := [], defaults := Value.none, kwdefaults := Value.none, pyModule := Value.str (Str.ofString "cpy313.statistics") 387, code := Value.ref 109 } }
noncomputable def hd05.o_117 : Obj := mkFn (inQ 4 6) rfl fun a b s => { cls := Value.type "function", data := Data.func { name := Str.ofString "inv_cdf", qualname := Str.ofString "NormalDist.inv_cdf", params := a, body := b, scope := s, globals := 3, closure := [], defaults := Value.none, kwdefaults := Value.none, pyModule := Value.str (Str.ofString "cpy313.statistics") 387, code := Value.ref 116 } }
noncomputable def hd05.o_125 : Obj := mkFn (inQ 4 7) rfl fun a b s => { cls := Value.type "function", data := Data.func { name := Str.ofString "quantiles", qualname := Str.ofString "NormalDist.quantiles", params := a, body := b, scope := s, globals := 3, closure := [], defaults := Value.ref 118, kwdefaults := Value.none, pyModule := Value.str (Str.ofString "cpy313.statistics") 387, code := Value.ref 124 } }
noncomputable def hd05.o_132 : Obj := mkFn (inQ 4 8) rfl fun a b s => { cls := Value.type "function", data := Data.func { name := Str.ofString "overlap", qualname := Str.ofString "NormalDist.overlap", params := a, body := b, scope := s, globals := 3, closure := [], defaults := Value.none, kwdefaults := Value.none, pyModule := Value.str (Str.ofString "cpy313.statistics") 387, code := Value.ref 131 } }
noncomputable def hd05.o_139 : Obj := mkFn (inQ 4 9) rfl fun a b s => { cls := Value.type "function", data := Data.func { name := Str.ofString "zscore", qualname := Str.ofString "NormalDist.zscore", params := a, body := b, scope := s, globals := 3, closure := [], defaults := Value.none, kwdefaults := Value.none, pyModule := Value.str (Str.ofString "cpy313.statistics") 387, code := Value.ref 138 } }
noncomputable def hd05.o_146 : Obj := mkFn (inQ 4 10) rfl fun a b s => { cls := Value.type "function", data := Data.func { name := Str.ofString "mean", qualname := Str.ofString "NormalDist.mean", params := a, body := b, scope := s, globals := 3, closure := [], defaults := Value.none, kwdefaults := Value.none, pyModule := Value.str (Str.ofString "cpy313.statistics") 387, code := Value.ref 145 } }
noncomputable def hd05.o_154 : Obj := mkFn (inQ 4 11) rfl fun a b s => { cls := Value.type "function", data := Data.func { name := Str.ofString "median", qualname := Str.ofString "NormalDist.median", params := a, body := b, scope := s, globals := 3, closure := [], defaults := Value.none, kwdefaults := Value.none, pyModule := Value.str (Str.ofString "cpy313.statistics") 387, code := Value.ref 153 } }
noncomputable def hd05.o_162 : Obj := mkFn (inQ 4 12) rfl fun a b s => { cls := Value.type "function", data := Data.func { name := Str.ofString "mode", qualname := Str.ofString "NormalDist.mode", params := a, body := b, scope := s, globals := 3, closure := [], defaults := Value.none, kwdefaults := Value.none, pyModule := Value.str (Str.ofString "cpy313.statistics") 387, code := Value.ref 161 } }
noncomputable def hd05.o_170 : Obj := mkFn (inQ 4 13) rfl fun a b s => { cls := Value.type "function", data := Data.func { name := Str.ofString "stdev", qualname := Str.ofString "NormalDist.stdev", params := a, body := b, scope := s, globals := 3, closure := [], defaults := Value.none, kwdefaults := Value.none, pyModule := Value.str (Str.ofString "cpy313.statistics") 387, code := Value.ref 169 } }
noncomputable def hd05.o_178 : Obj := mkFn (inQ 4 14) rfl fun a b s => { cls := Value.type "function", data := Data.func { name := Str.ofString "variance", qualname := Str.ofString "NormalDist.variance", params := a, body := b, scope := s, globals := 3, closure := [], defaults := Value.none, kwdefaults := Value.none, pyModule := Value.str (Str.ofString "cpy313.statistics") 387, code := Value.ref 177 } }
noncomputable def hd05.o_186 : Obj := mkFn (inQ 4 15) rfl fun a b s => { cls := Value.type "function", data := Data.func { name := Str.ofString "__add__", qualname := Str.ofString "NormalDist.__add__", params := a, body := b, scope := s, globals := 3, closure := [], defaults := Value.none, kwdefaults := Value.none, pyModule := Value.str (Str.ofString "cpy313.statistics") 387, code := Value.ref 185 } }
noncomputable def hd05.o_193 : Obj := mkFn (inQ 4 16) rfl fun a b s => { cls := Value.type "function", data := Data.func { name := Str.ofString "__sub__", qualname := Str.ofString "NormalDist.__sub__", params := a, body := b, scope := s, globals := 3, closure := [], defaults := Value.none, kwdefaults := Value.none, pyModule := Value.str (Str.ofString "cpy313.statistics") 387, code := Value.ref 192 } }
noncomputable def hd05.o_200 : Obj := mkFn (inQ 4 17) rfl fun a b s => { cls := Value.type "function", data := Data.func { name := Str.ofString "__mul__", qualname := Str.ofString "NormalDist.__mul__", params := a, body := b, scope := s, globals := 3, closure := [], defaults := Value.none, kwdefaults := Value.none, pyModule := Value.str (Str.ofString "cpy313.statistics") 387, code := Value.ref 199 } }
noncomputable def hd05.o_207 : Obj := mkFn (inQ 4 18) rfl fun a b s => { cls := Value.type "function", data := Data.func { name := Str.ofString "__truediv__", qualname := Str.ofString "NormalDist.__truediv__", params := a, body := b, scope := s, globals := 3, closure := [], defaults := Value.none, kwdefaults := Value.none, pyModule := Value.str (Str.ofString "cpy313.statistics") 387, code := Value.ref 206 } }
noncomputable def hd05.o_214 : Obj := mkFn (inQ 4 19) rfl fun a b s => { cls := Value.type "function", data := Data.func { name := Str.ofString "__pos__", qualname := Str.ofString "NormalDist.__pos__", params := a, body := b, scope := s, globals := 3, closure := [], defaults := Value.none, kwdefaults := Value.none, pyModule := Value.str (Str.ofString "cpy313.statistics") 387, code := Value.ref 213 } }
noncomputable def hd05.o_221 : Obj := mkFn (inQ 4 20) rfl fun a b s => { cls := Value.type "function", data := Data.func { name := Str.ofString "__neg__", qualname := Str.ofString "NormalDist.__neg__", params := a, body := b, scope := s, globals := 3, closure := [], defaults := Value.none, kwdefaults := Value.none, pyModule := Value.str (Str.ofString "cpy313.statistics") 387, code := Value.ref 220 } }
noncomputable def hd05.o_228 : Obj := mkFn (inQ 4 22) rfl fun a b s => { cls := Value.type "function", data := Data.func { name := Str.ofString "__rsub__", qualname := Str.ofString "NormalDist.__rsub__", params := a, body := b, scope := s, globals := 3, closure := [], defaults := Value.none, kwdefaults := Value.none, pyModule := Value.str (Str.ofString "cpy313.statistics") 387, code := Value.ref 227 } }
noncomputable def hd05.o_235 : Obj := mkFn (inQ 4 24) rfl fun a b s => { cls := Value.type "function", data := Data.func { name := Str.ofString "__eq__", qualname := Str.ofString "NormalDist.__eq__", params := a, body := b, scope := s, globals := 3, closure := [], defaults := Value.none, kwdefaults := Value.none, pyModule := Value.str (Str.ofString "cpy313.statistics") 387, code := Value.ref 234 } }
noncomputable def hd05.o_242 : Obj := mkFn (inQ 4 25) rfl fun a b s => { cls := Value.type "function", data := Data.func { name := Str.ofString "__hash__", qualname := Str.ofString "NormalDist.__hash__", params := a, body := b, scope := s, globals := 3, closure := [], defaults := Value.none, kwdefaults := Value.none, pyModule := Value.str (Str.ofString "cpy313.statistics") 387, code := Value.ref 241 } }
noncomputable def hd05.o_249 : Obj := mkFn (inQ 4 26) rfl fun a b s => { cls := Value.type "function", data := Data.func { name := Str.ofString "__repr__", qualname := Str.ofString "NormalDist.__repr__", params := a, body := b, scope := s, globals := 3, closure := [], defaults := Value.none, kwdefaults := Value.none, pyModule := Value.str (Str.ofString "cpy313.statistics") 387, code := Value.ref 248 } }
noncomputable def hd05.o_256 : Obj := mkFn (inQ 4 27) rfl fun a b s => { cls := Value.type "function", data := Data.func { name := Str.ofString "__getstate__", qualname := Str.ofString "NormalDist.__getstate__", params := a, body := b, scope := s, globals := 3, closure := [], defaults := Value.none, kwdefaults := Value.none, pyModule := Value.str (Str.ofString "cpy313.statistics") 387, code := Value.ref 255 } }
noncomputable def hd05.o_263 : Obj := mkFn (inQ 4 28) rfl fun a b s => { cls := Value.type "function", data := Data.func { name := Str.ofString "__setstate__", qualname := Str.ofString "NormalDist.__setstate__", params := a, body := b, scope := s, globals := 3, closure := [], defaults := Value.none, kwdefaults := Value.none, pyModule := Value.str (Str.ofString "cpy313.statistics") 387, code := Value.ref 262 } }
noncomputable def hd05.o_281 : Obj := mkFn (inP 6) rfl fun a b s => { cls := Value.type "function", data := Data.func { name := Str.ofString "_law_small", qualname := Str.ofString "_law_small", params := a, body := b, scope := s, globals := 3, closure := [], defaults := Value.none, kwdefaults := Value.none, pyModule := Value.str (Str.ofString "law_oz0056_05") 659, code := Value.ref 280 } }
noncomputable def hd05.o_288 : Obj := mkFn (inP 7) rfl fun a b s => { cls := Value.type "function", data := Data.func { name := Str.ofString "_law_step", qualname := Str.ofString "_law_step", params := a, body := b, scope := s, globals := 3, closure := [], defaults := Value.none, kwdefaults := Value.none, pyModule := Value.str (Str.ofString "law_oz0056_05") 659, code := Value.ref 287 } }
noncomputable def hd05.o_295 : Obj := mkFn (inP 8) rfl fun a b s => { cls := Value.type "function", data := Data.func { name := Str.ofString "_law_fits", qualname := Str.ofString "_law_fits", params := a, body := b, scope := s, globals := 3, closure := [], defaults := Value.none, kwdefaults := Value.none, pyModule := Value.str (Str.ofString "law_oz0056_05") 659, code := Value.ref 294 } }
noncomputable def hd05.o_302 : Obj := mkFn (inP 9) rfl fun a b s => { cls := Value.type "function", data := Data.func { name := Str.ofString "law", qualname := Str.ofString "law", params := a, body := b, scope := s, globals := 3, closure := [], defaults := Value.none, kwdefaults := Value.none, pyModule := Value.str (Str.ofString "law_oz0056_05") 659, code := Value.ref 301 } }
noncomputable def hd05.heap_39 : Params → Frag := fun P =>
  (nat_lit 2, { cls := Value.none, data := Data.dict #[{ hash := PyData.keyHash P (Str.ofString "\x69mport.loaded.math"), key := Value.str (Str.ofString "\x69mport.loaded.math") 186, val := Value.bool true }, { hash := PyData.keyHash P (Str.ofString "class._frozen_importlib_external._LoaderBasics"), key := Value.str (Str.ofString "class._frozen_importlib_external._LoaderBasics") 191, val := Value.ref 16 }, { hash := PyData.keyHash P (Str.ofString "watched.\x69mport"), key := Value.str (Str.ofString "watched.\x69mport") 207, val := Value.ref 20 }, { hash := PyData.keyHash P (Str.ofString "class._frozen_importlib_external.FileLoader"), key := Value.str (Str.ofString "class._frozen_importlib_external.FileLoader") 208, val := Value.ref 22 }, { hash := PyData.keyHash P (Str.ofString "class._frozen_importlib_external.ExtensionFileLoader"), key := Value.str (Str.ofString "class._frozen_importlib_external.ExtensionFileLoader") 229, val := Value.ref 27 }, { hash := PyData.keyHash P (Str.ofString "class._frozen_importlib.ModuleSpec"), key := Value.str (Str.ofString "class._frozen_importlib.ModuleSpec") 257, val := Value.ref 33 }, { hash := PyData.keyHash P (Str.ofString "sys.modules.booked-epoch"), key := Value.str (Str.ofString "sys.modules.booked-epoch") 286, val := Value.int 3 0 }, { hash := PyData.keyHash P (Str.ofString "\x69mport.later-laid.math"), key := Value.str (Str.ofString "\x69mport.later-laid.math") 362, val := Value.bool true }, { hash := PyData.keyHash P (Str.ofString "watched.library"), key := Value.str (Str.ofString "watched.library") 364, val := Value.ref 38 }, { hash := PyData.keyHash P (Str.ofString "watched.library-objects"), key := Value.str (Str.ofString "watched.library-objects") 0, val := Value.str (Str.ofString "\x0d") 0 }] 10 }) ::
  (nat_lit 3, { cls := Value.type "dict", data := Data.dict #[{ hash := PyData.keyHash P (Str.ofString "__name__"), key := Value.str (Str.ofString "__name__") 165, val := Value.str (Str.ofString "law_oz0056_05") 659 }, { hash := PyData.keyHash P (Str.ofString "__doc__"), key := Value.str (Str.ofString "__doc__") 166, val := Value.none }, { hash := PyData.keyHash P (Str.ofString "__package__"), key := Value.str (Str.ofString "__package__") 167, val := Value.none }, { hash := PyData.keyHash P (Str.ofString "__loader__"), key := Value.str (Str.ofString "__loader__") 168, val := Value.builtin "__main__.__loader__#opaque" }, { hash := PyData.keyHash P (Str.ofString "__spec__"), key := Value.str (Str.ofString "__spec__") 169, val := Value.none }, { hash := PyData.keyHash P (Str.ofString "__annotations__"), key := Value.str (Str.ofString "__annotations__") 170, val := Value.ref 6 }, { hash := PyData.keyHash P (Str.ofString "__builtins__"), key := Value.str (Str.ofString "__builtins__") 171, val := Value.ref 4 }, { hash := PyData.keyHash P (Str.ofString "__file__"), key := Value.str (Str.ofString "__file__") 173, val := Value.str (Str.ofString "/claim/cut.py") 172 }, { hash := PyData.keyHash P (Str.ofString "__cached__"), key := Value.str (Str.ofString "__cached__") 174, val := Value.none }, { hash := PyData.keyHash P (Str.ofString "fabs"), key := Value.str (Str.ofString "fabs") 370, val := Value.builtin "math.fabs" }, { hash := PyData.keyHash P (Str.ofString "hypot"), key := Value.str (Str.ofString "hypot") 373, val := Value.builtin "math.hypot" }, { hash := PyData.keyHash P (Str.ofString "_wall"), key := Value.str (Str.ofString "_wall") 386, val := Value.ref 49 }, { hash := PyData.keyHash P (Str.ofString "StatisticsError"), key := Value.str (Str.ofString "StatisticsError") 406, val := Value.ref 59 }, { hash := PyData.keyHash P (Str.ofString "NormalDist"), key := Value.str (Str.ofString "NormalDist") 658, val := Value.ref 270 }, { hash := PyData.keyHash P (Str.ofString "_law_small"), key := Value.str (Str.ofString "_law_small") 668, val := Value.ref 281 }, { hash := PyData.keyHash P (Str.ofString "_law_step"), key := Value.str (Str.ofString "_law_step") 691, val := Value.ref 288 }, { hash := PyData.keyHash P (Str.ofString "_law_fits"), key := Value.str (Str.ofString "_law_fits") 703, val := Value.ref 295 }, { hash := PyData.keyHash P (Str.ofString "law"), key := Value.str (Str.ofString "law") 722, val := Value.ref 302 }] 18 }) ::
  (nat_lit 43, { cls := Value.type "tuple", data := Data.seq #[] }) ::
  (nat_lit 45, { cls := Value.type "tuple", data := Data.seq #[Value.str (Str.ofString "k") 383] }) ::
  (nat_lit 46, { cls := Value.type "tuple", data := Data.seq #[] }) ::
  (nat_lit 48, { cls := Value.type "code", data := Data.fields #[Value.str (Str.ofString "_wall") 380, Value.str (Str.ofString "_wall") 381, Value.str (Str.ofString "/claim/cut.py") 382, Value.int 2 0, Value.int 1 0, Value.int 0 0, Value.int 0 0, Value.int 3 0, Value.ref 43, Value.bool true, Value.int 374 0, Value.ref 44, Value.none, Value.ref 45, Value.ref 46, Value.ref 47, Value.int 384 0, Value.int 2 0, Value.str (Str.ofString "/claim/cut.py") 385] }) ::
  (nat_lit 49, hd05.o_49) ::
  (nat_lit 50, { cls := Value.type "tuple", data := Data.seq #[Value.type "ValueError"] }) ::
  (nat_lit 57, { cls := Value.type "tuple", data := Data.seq #[] }) ::
  (nat_lit 58, { cls := Value.type "dict", data := Data.dict #[{ hash := PyData.keyHash P (Str.ofString "__module__"), key := Value.str (Str.ofString "__module__") 396, val := Value.str (Str.ofString "cpy313.statistics") 387 }, { hash := PyData.keyHash P (Str.ofString "__firstlineno__"), key := Value.str (Str.ofString "__firstlineno__") 400, val := Value.int 6 399 }, { hash := PyData.keyHash P (Str.ofString "__static_attributes__"), key := Value.str (Str.ofString "__static_attributes__") 401, val := Value.ref 57 }, { hash := PyData.keyHash P (Str.ofString "__weakref__"), key := Value.str (Str.ofString "__weakref__") 403, val := Value.ref 60 }, { hash := PyData.keyHash P (Str.ofString "__doc__"), key := Value.str (Str.ofString "__doc__") 404, val := Value.none }] 3 }) ::
  (nat_lit 59, { cls := Value.type "type", data := Data.cls { name := Str.ofString "StatisticsError", bases := [Value.type "ValueError"], mro := [Value.ref 59, Value.type "ValueError", Value.type "Exception", Value.type "BaseException", Value.type "object"], ns := 58, qualname := Str.ofString "StatisticsError" }, slots := #[some (Value.ref 50), none, some (Value.str (Str.ofString "StatisticsError") 389), some (Value.str (Str.ofString "StatisticsError") 397), some (Value.builtin "ValueError.__new__"), some (Value.bool true)] }) ::
  (nat_lit 60, { cls := Value.type "getset_descriptor", data := Data.fields #[Value.str (Str.ofString "__weakref__") 402, Value.ref 59, Value.builtin "ExceptionGroup.__weakref__", Value.none] }) ::
  (nat_lit 70, { cls := Value.type "dict", data := Data.dict #[{ hash := PyData.keyHash P (Str.ofString "_mu"), key := Value.str (Str.ofString "_mu") 419, val := Value.str (Str.ofString "Arithmetic mean of a normal distribution") 420 }, { hash := PyData.keyHash P (Str.ofString "_sigma"), key := Value.str (Str.ofString "_sigma") 421, val := Value.str (Str.ofString "Standard deviation of a normal distribution") 422 }] 2 }) ::
  (nat_lit 71, { cls := Value.type "tuple", data := Data.seq #[Value.float 0 426, Value.float 4607182418800017408 427] }) ::
  (nat_lit 72, { cls := Value.type "tuple", data := Data.seq #[] }) ::
  (nat_lit 74, { cls := Value.type "tuple", data := Data.seq #[Value.str (Str.ofString "self") 431, Value.str (Str.ofString "mu") 432, Value.str (Str.ofString "sigma") 433] }) ::
  (nat_lit 75, { cls := Value.type "tuple", data := Data.seq #[] }) ::
  (nat_lit 77, { cls := Value.type "code", data := Data.fields #[Value.str (Str.ofString "__init__") 428, Value.str (Str.ofString "NormalDist.__init__") 429, Value.str (Str.ofString "/claim/cut.py") 430, Value.int 11 0, Value.int 3 0, Value.int 0 0, Value.int 0 0, Value.int 3 0, Value.ref 72, Value.bool true, Value.int 374 0, Value.ref 73, Value.none, Value.ref 74, Value.ref 75, Value.ref 76, Value.int 434 0, Value.int 11 0, Value.str (Str.ofString "/claim/cut.py") 435] }) ::
  (nat_lit 78, hd05.o_78) ::
  (nat_lit 79, { cls := Value.type "tuple", data := Data.seq #[] }) ::
  (nat_lit 81, { cls := Value.type "tuple", data := Data.seq #[Value.str (Str.ofString "cls") 440, Value.str (Str.ofString "data") 441] }) ::
  (nat_lit 82, { cls := Value.type "tuple", data := Data.seq #[] }) ::
  (nat_lit 84, { cls := Value.type "code", data := Data.fields #[Value.str (Str.ofString "from_samples") 437, Value.str (Str.ofString "NormalDist.from_samples") 438, Value.str (Str.ofString "/claim/cut.py") 439, Value.int 17 0, Value.int 2 0, Value.int 0 0, Value.int 0 0, Value.int 3 0, Value.ref 79, Value.bool true, Value.int 374 0, Value.ref 80, Value.none, Value.ref 81, Value.ref 82, Value.ref 83, Value.int 442 0, Value.int 17 0, Value.str (Str.ofString "/claim/cut.py") 443] }) ::
  (nat_lit 85, hd05.o_85) ::
  (nat_lit 86, { cls := Value.type "dict", data := Data.dict #[{ hash := PyData.keyHash P (Str.ofString "__module__"), key := Value.str (Str.ofString "__module__") 445, val := Value.str (Str.ofString "cpy313.statistics") 387 }, { hash := PyData.keyHash P (Str.ofString "__name__"), key := Value.str (Str.ofString "__name__") 448, val := Value.str (Str.ofString "from_samples") 447 }, { hash := PyData.keyHash P (Str.ofString "__qualname__"), key := Value.str (Str.ofString "__qualname__") 451, val := Value.str (Str.ofString "NormalDist.from_samples") 450 }, { hash := PyData.keyHash P (Str.ofString "__doc__"), key := Value.str (Str.ofString "__doc__") 453, val := Value.none }, { hash := PyData.keyHash P (Str.ofString "__annotations__"), key := Value.str (Str.ofString "__annotations__") 455, val := Value.ref 88 }] 5 }) ::
  (nat_lit 87, { cls := Value.type "classmethod", dict := some 86, data := Data.fields #[Value.ref 85, Value.bool false] }) ::
  (nat_lit 88, { cls := Value.type "dict", data := Data.dict #[] }) ::
  (nat_lit 89, { cls := Value.type "dict", data := Data.dict #[{ hash := PyData.keyHash P (Str.ofString "seed"), key := Value.str (Str.ofString "seed") 457, val := Value.none }] 1 }) ::
  (nat_lit 90, { cls := Value.type "tuple", data := Data.seq #[] }) ::
  (nat_lit 92, { cls := Value.type "tuple", data := Data.seq #[Value.str (Str.ofString "self") 461, Value.str (Str.ofString "n") 462, Value.str (Str.ofString "seed") 463] }) ::
  (nat_lit 93, { cls := Value.type "tuple", data := Data.seq #[] }) ::
  (nat_lit 95, { cls := Value.type "code", data := Data.fields #[Value.str (Str.ofString "samples") 458, Value.str (Str.ofString "NormalDist.samples") 459, Value.str (Str.ofString "/claim/cut.py") 460, Value.int 21 0, Value.int 2 0, Value.int 0 0, Value.int 1 0, Value.int 3 0, Value.ref 90, Value.bool true, Value.int 374 0, Value.ref 91, Value.none, Value.ref 92, Value.ref 93, Value.ref 94, Value.int 464 0, Value.int 21 0, Value.str (Str.ofString "/claim/cut.py") 465] }) ::
  (nat_lit 96, hd05.o_96) ::
  (nat_lit 97, { cls := Value.type "tuple", data := Data.seq #[] }) ::
  (nat_lit 99, { cls := Value.type "tuple", data := Data.seq #[Value.str (Str.ofString "self") 470, Value.str (Str.ofString "x") 471] }) ::
  (nat_lit 100, { cls := Value.type "tuple", data := Data.seq #[] }) ::
  (nat_lit 102, { cls := Value.type "code", data := Data.fields #[Value.str (Str.ofString "pdf") 467, Value.str (Str.ofString "NormalDist.pdf") 468, Value.str (Str.ofString "/claim/cut.py") 469, Value.int 24 0, Value.int 2 0, Value.int 0 0, Value.int 0 0, Value.int 3 0, Value.ref 97, Value.bool true, Value.int 374 0, Value.ref 98, Value.none, Value.ref 99, Value.ref 100, Value.ref 101, Value.int 472 0, Value.int 24 0, Value.str (Str.ofString "/claim/cut.py") 473] }) ::
  (nat_lit 103, hd05.o_103) ::
  (nat_lit 104, { cls := Value.type "tuple", data := Data.seq #[] }) ::
  (nat_lit 106, { cls := Value.type "tuple", data := Data.seq #[Value.str (Str.ofString "self") 478, Value.str (Str.ofString "x") 479] }) ::
  (nat_lit 107, { cls := Value.type "tuple", data := Data.seq #[] }) ::
  (nat_lit 109, { cls := Value.type "code", data := Data.fields #[Value.str (Str.ofString "cdf") 475, Value.str (Str.ofString "NormalDist.cdf") 476, Value.str (Str.ofString "/claim/cut.py") 477, Value.int 27 0, Value.int 2 0, Value.int 0 0, Value.int 0 0, Value.int 3 0, Value.ref 104, Value.bool true, Value.int 374 0, Value.ref 105, Value.none, Value.ref 106, Value.ref 107, Value.ref 108, Value.int 480 0, Value.int 27 0, Value.str (Str.ofString "/claim/cut.py") 481] }) ::
  (nat_lit 110, hd05.o_110) ::
  (nat_lit 111, { cls := Value.type "tuple", data := Data.seq #[] }) ::
  (nat_lit 113, { cls := Value.type "tuple", data := Data.seq #[Value.str (Str.ofString "self") 486, Value.str (Str.ofString "p") 487] }) ::
  (nat_lit 114, { cls := Value.type "tuple", data := Data.seq #[] }) ::
  (nat_lit 116, { cls := Value.type "code", data := Data.fields #[Value.str (Str.ofString "inv_cdf") 483, Value.str (Str.ofString "NormalDist.inv_cdf") 484, Value.str (Str.ofString "/claim/cut.py") 485, Value.int 30 0, Value.int 2 0, Value.int 0 0, Value.int 0 0, Value.int 3 0, Value.ref 111, Value.bool true, Value.int 374 0, Value.ref 112, Value.none, Value.ref 113, Value.ref 114, Value.ref 115, Value.int 488 0, Value.int 30 0, Value.str (Str.ofString "/claim/cut.py") 489] }) ::
  (nat_lit 117, hd05.o_117) ::
  (nat_lit 118, { cls := Value.type "tuple", data := Data.seq #[Value.int 4 491] }) ::
  (nat_lit 119, { cls := Value.type "tuple", data := Data.seq #[] }) ::
  (nat_lit 121, { cls := Value.type "tuple", data := Data.seq #[Value.str (Str.ofString "self") 495, Value.str (Str.ofString "n") 496] }) ::
  (nat_lit 122, { cls := Value.type "tuple", data := Data.seq #[] }) ::
  (nat_lit 124, { cls := Value.type "code", data := Data.fields #[Value.str (Str.ofString "quantiles") 492, Value.str (Str.ofString "NormalDist.quantiles") 493, Value.str (Str.ofString "/claim/cut.py") 494, Value.int 33 0, Value.int 2 0, Value.int 0 0, Value.int 0 0, Value.int 3 0, Value.ref 119, Value.bool true, Value.int 374 0, Value.ref 120, Value.none, Value.ref 121, Value.ref 122, Value.ref 123, Value.int 497 0, Value.int 33 0, Value.str (Str.ofString "/claim/cut.py") 498] }) ::
  (nat_lit 125, hd05.o_125) ::
  (nat_lit 126, { cls := Value.type "tuple", data := Data.seq #[] }) ::
  (nat_lit 128, { cls := Value.type "tuple", data := Data.seq #[Value.str (Str.ofString "self") 503, Value.str (Str.ofString "other") 504] }) ::
  (nat_lit 129, { cls := Value.type "tuple", data := Data.seq #[] }) ::
  (nat_lit 131, { cls := Value.type "code", data := Data.fields #[Value.str (Str.ofString "overlap") 500, Value.str (Str.ofString "NormalDist.overlap") 501, Value.str (Str.ofString "/claim/cut.py") 502, Value.int 36 0, Value.int 2 0, Value.int 0 0, Value.int 0 0, Value.int 3 0, Value.ref 126, Value.bool true, Value.int 374 0, Value.ref 127, Value.none, Value.ref 128, Value.ref 129, Value.ref 130, Value.int 505 0, Value.int 36 0, Value.str (Str.ofString "/claim/cut.py") 506] }) ::
  (nat_lit 132, hd05.o_132) ::
  (nat_lit 133, { cls := Value.type "tuple", data := Data.seq #[] }) ::
  (nat_lit 135, { cls := Value.type "tuple", data := Data.seq #[Value.str (Str.ofString "self") 511, Value.str (Str.ofString "x") 512] }) ::
  (nat_lit 136, { cls := Value.type "tuple", data := Data.seq #[] }) ::
  (nat_lit 138, { cls := Value.type "code", data := Data.fields #[Value.str (Str.ofString "zscore") 508, Value.str (Str.ofString "NormalDist.zscore") 509, Value.str (Str.ofString "/claim/cut.py") 510, Value.int 39 0, Value.int 2 0, Value.int 0 0, Value.int 0 0, Value.int 3 0, Value.ref 133, Value.bool true, Value.int 374 0, Value.ref 134, Value.none, Value.ref 135, Value.ref 136, Value.ref 137, Value.int 513 0, Value.int 39 0, Value.str (Str.ofString "/claim/cut.py") 514] }) ::
  (nat_lit 139, hd05.o_139) ::
  (nat_lit 140, { cls := Value.type "tuple", data := Data.seq #[] }) ::
  (nat_lit 142, { cls := Value.type "tuple", data := Data.seq #[Value.str (Str.ofString "self") 519] }) ::
  (nat_lit 143, { cls := Value.type "tuple", data := Data.seq #[] }) ::
  (nat_lit 145, { cls := Value.type "code", data := Data.fields #[Value.str (Str.ofString "mean") 516, Value.str (Str.ofString "NormalDist.mean") 517, Value.str (Str.ofString "/claim/cut.py") 518, Value.int 42 0, Value.int 1 0, Value.int 0 0, Value.int 0 0, Value.int 3 0, Value.ref 140, Value.bool true, Value.int 374 0, Value.ref 141, Value.none, Value.ref 142, Value.ref 143, Value.ref 144, Value.int 520 0, Value.int 42 0, Value.str (Str.ofString "/claim/cut.py") 521] }) ::
  (nat_lit 146, hd05.o_146) ::
  (nat_lit 147, { cls := Value.type "property", data := Data.fields #[Value.ref 146, Value.none, Value.none, Value.none, Value.str (Str.ofString "mean") 523, Value.bool false] }) ::
  (nat_lit 148, { cls := Value.type "tuple", data := Data.seq #[] }) ::
  (nat_lit 150, { cls := Value.type "tuple", data := Data.seq #[Value.str (Str.ofString "self") 527] }) ::
  (nat_lit 151, { cls := Value.type "tuple", data := Data.seq #[] }) ::
  (nat_lit 153, { cls := Value.type "code", data := Data.fields #[Value.str (Str.ofString "median") 524, Value.str (Str.ofString "NormalDist.median") 525, Value.str (Str.ofString "/claim/cut.py") 526, Value.int 46 0, Value.int 1 0, Value.int 0 0, Value.int 0 0, Value.int 3 0, Value.ref 148, Value.bool true, Value.int 374 0, Value.ref 149, Value.none, Value.ref 150, Value.ref 151, Value.ref 152, Value.int 528 0, Value.int 46 0, Value.str (Str.ofString "/claim/cut.py") 529] }) ::
  (nat_lit 154, hd05.o_154) ::
  (nat_lit 155, { cls := Value.type "property", data := Data.fields #[Value.ref 154, Value.none, Value.none, Value.none, Value.str (Str.ofString "median") 531, Value.bool false] }) ::
  (nat_lit 156, { cls := Value.type "tuple", data := Data.seq #[] }) ::
  (nat_lit 158, { cls := Value.type "tuple", data := Data.seq #[Value.str (Str.ofString "self") 535] }) ::
  (nat_lit 159, { cls := Value.type "tuple", data := Data.seq #[] }) ::
  (nat_lit 161, { cls := Value.type "code", data := Data.fields #[Value.str (Str.ofString "mode") 532, Value.str (Str.ofString "NormalDist.mode") 533, Value.str (Str.ofString "/claim/cut.py") 534, Value.int 50 0, Value.int 1 0, Value.int 0 0, Value.int 0 0, Value.int 3 0, Value.ref 156, Value.bool true, Value.int 374 0, Value.ref 157, Value.none, Value.ref 158, Value.ref 159, Value.ref 160, Value.int 536 0, Value.int 50 0, Value.str (Str.ofString "/claim/cut.py") 537] }) ::
  (nat_lit 162, hd05.o_162) ::
  (nat_lit 163, { cls := Value.type "property", data := Data.fields #[Value.ref 162, Value.none, Value.none, Value.none, Value.str (Str.ofString "mode") 539, Value.bool false] }) ::
  (nat_lit 164, { cls := Value.type "tuple", data := Data.seq #[] }) ::
  (nat_lit 166, { cls := Value.type "tuple", data := Data.seq #[Value.str (Str.ofString "self") 543] }) ::
  (nat_lit 167, { cls := Value.type "tuple", data := Data.seq #[] }) ::
  (nat_lit 169, { cls := Value.type "code", data := Data.fields #[Value.str (Str.ofString "stdev") 540, Value.str (Str.ofString "NormalDist.stdev") 541, Value.str (Str.ofString "/claim/cut.py") 542, Value.int 54 0, Value.int 1 0, Value.int 0 0, Value.int 0 0, Value.int 3 0, Value.ref 164, Value.bool true, Value.int 374 0, Value.ref 165, Value.none, Value.ref 166, Value.ref 167, Value.ref 168, Value.int 544 0, Value.int 54 0, Value.str (Str.ofString "/claim/cut.py") 545] }) ::
  (nat_lit 170, hd05.o_170) ::
  (nat_lit 171, { cls := Value.type "property", data := Data.fields #[Value.ref 170, Value.none, Value.none, Value.none, Value.str (Str.ofString "stdev") 547, Value.bool false] }) ::
  (nat_lit 172, { cls := Value.type "tuple", data := Data.seq #[] }) ::
  (nat_lit 174, { cls := Value.type "tuple", data := Data.seq #[Value.str (Str.ofString "self") 551] }) ::
  (nat_lit 175, { cls := Value.type "tuple", data := Data.seq #[] }) ::
  (nat_lit 177, { cls := Value.type "code", data := Data.fields #[Value.str (Str.ofString "variance") 548, Value.str (Str.ofString "NormalDist.variance") 549, Value.str (Str.ofString "/claim/cut.py") 550, Value.int 58 0, Value.int 1 0, Value.int 0 0, Value.int 0 0, Value.int 3 0, Value.ref 172, Value.bool true, Value.int 374 0, Value.ref 173, Value.none, Value.ref 174, Value.ref 175, Value.ref 176, Value.int 552 0, Value.int 58 0, Value.str (Str.ofString "/claim/cut.py") 553] }) ::
  (nat_lit 178, hd05.o_178) ::
  (nat_lit 179, { cls := Value.type "property", data := Data.fields #[Value.ref 178, Value.none, Value.none, Value.none, Value.str (Str.ofString "variance") 555, Value.bool false] }) ::
  (nat_lit 180, { cls := Value.type "tuple", data := Data.seq #[] }) ::
  (nat_lit 182, { cls := Value.type "tuple", data := Data.seq #[Value.str (Str.ofString "x1") 559, Value.str (Str.ofString "x2") 560] }) ::
  (nat_lit 183, { cls := Value.type "tuple", data := Data.seq #[] }) ::
  (nat_lit 185, { cls := Value.type "code", data := Data.fields #[Value.str (Str.ofString "__add__") 556, Value.str (Str.ofString "NormalDist.__add__") 557, Value.str (Str.ofString "/claim/cut.py") 558, Value.int 62 0, Value.int 2 0, Value.int 0 0, Value.int 0 0, Value.int 3 0, Value.ref 180, Value.bool true, Value.int 374 0, Value.ref 181, Value.none, Value.ref 182, Value.ref 183, Value.ref 184, Value.int 561 0, Value.int 62 0, Value.str (Str.ofString "/claim/cut.py") 562] }) ::
  (nat_lit 186, hd05.o_186) ::
  (nat_lit 187, { cls := Value.type "tuple", data := Data.seq #[] }) ::
  (nat_lit 189, { cls := Value.type "tuple", data := Data.seq #[Value.str (Str.ofString "x1") 567, Value.str (Str.ofString "x2") 568] }) ::
  (nat_lit 190, { cls := Value.type "tuple", data := Data.seq #[] }) ::
  (nat_lit 192, { cls := Value.type "code", data := Data.fields #[Value.str (Str.ofString "__sub__") 564, Value.str (Str.ofString "NormalDist.__sub__") 565, Value.str (Str.ofString "/claim/cut.py") 566, Value.int 67 0, Value.int 2 0, Value.int 0 0, Value.int 0 0, Value.int 3 0, Value.ref 187, Value.bool true, Value.int 374 0, Value.ref 188, Value.none, Value.ref 189, Value.ref 190, Value.ref 191, Value.int 569 0, Value.int 67 0, Value.str (Str.ofString "/claim/cut.py") 570] }) ::
  (nat_lit 193, hd05.o_193) ::
  (nat_lit 194, { cls := Value.type "tuple", data := Data.seq #[] }) ::
  (nat_lit 196, { cls := Value.type "tuple", data := Data.seq #[Value.str (Str.ofString "x1") 575, Value.str (Str.ofString "x2") 576] }) ::
  (nat_lit 197, { cls := Value.type "tuple", data := Data.seq #[] }) ::
  (nat_lit 199, { cls := Value.type "code", data := Data.fields #[Value.str (Str.ofString "__mul__") 572, Value.str (Str.ofString "NormalDist.__mul__") 573, Value.str (Str.ofString "/claim/cut.py") 574, Value.int 72 0, Value.int 2 0, Value.int 0 0, Value.int 0 0, Value.int 3 0, Value.ref 194, Value.bool true, Value.int 374 0, Value.ref 195, Value.none, Value.ref 196, Value.ref 197, Value.ref 198, Value.int 577 0, Value.int 72 0, Value.str (Str.ofString "/claim/cut.py") 578] }) ::
  (nat_lit 200, hd05.o_200) ::
  (nat_lit 201, { cls := Value.type "tuple", data := Data.seq #[] }) ::
  (nat_lit 203, { cls := Value.type "tuple", data := Data.seq #[Value.str (Str.ofString "x1") 583, Value.str (Str.ofString "x2") 584] }) ::
  (nat_lit 204, { cls := Value.type "tuple", data := Data.seq #[] }) ::
  (nat_lit 206, { cls := Value.type "code", data := Data.fields #[Value.str (Str.ofString "__truediv__") 580, Value.str (Str.ofString "NormalDist.__truediv__") 581, Value.str (Str.ofString "/claim/cut.py") 582, Value.int 75 0, Value.int 2 0, Value.int 0 0, Value.int 0 0, Value.int 3 0, Value.ref 201, Value.bool true, Value.int 374 0, Value.ref 202, Value.none, Value.ref 203, Value.ref 204, Value.ref 205, Value.int 585 0, Value.int 75 0, Value.str (Str.ofString "/claim/cut.py") 586] }) ::
  (nat_lit 207, hd05.o_207) ::
  (nat_lit 208, { cls := Value.type "tuple", data := Data.seq #[] }) ::
  (nat_lit 210, { cls := Value.type "tuple", data := Data.seq #[Value.str (Str.ofString "x1") 591] }) ::
  (nat_lit 211, { cls := Value.type "tuple", data := Data.seq #[] }) ::
  (nat_lit 213, { cls := Value.type "code", data := Data.fields #[Value.str (Str.ofString "__pos__") 588, Value.str (Str.ofString "NormalDist.__pos__") 589, Value.str (Str.ofString "/claim/cut.py") 590, Value.int 78 0, Value.int 1 0, Value.int 0 0, Value.int 0 0, Value.int 3 0, Value.ref 208, Value.bool true, Value.int 374 0, Value.ref 209, Value.none, Value.ref 210, Value.ref 211, Value.ref 212, Value.int 592 0, Value.int 78 0, Value.str (Str.ofString "/claim/cut.py") 593] }) ::
  (nat_lit 214, hd05.o_214) ::
  (nat_lit 215, { cls := Value.type "tuple", data := Data.seq #[] }) ::
  (nat_lit 217, { cls := Value.type "tuple", data := Data.seq #[Value.str (Str.ofString "x1") 598] }) ::
  (nat_lit 218, { cls := Value.type "tuple", data := Data.seq #[] }) ::
  (nat_lit 220, { cls := Value.type "code", data := Data.fields #[Value.str (Str.ofString "__neg__") 595, Value.str (Str.ofString "NormalDist.__neg__") 596, Value.str (Str.ofString "/claim/cut.py") 597, Value.int 81 0, Value.int 1 0, Value.int 0 0, Value.int 0 0, Value.int 3 0, Value.ref 215, Value.bool true, Value.int 374 0, Value.ref 216, Value.none, Value.ref 217, Value.ref 218, Value.ref 219, Value.int 599 0, Value.int 81 0, Value.str (Str.ofString "/claim/cut.py") 600] }) ::
  (nat_lit 221, hd05.o_221) ::
  (nat_lit 222, { cls := Value.type "tuple", data := Data.seq #[] }) ::
  (nat_lit 224, { cls := Value.type "tuple", data := Data.seq #[Value.str (Str.ofString "x1") 606, Value.str (Str.ofString "x2") 607] }) ::
  (nat_lit 225, { cls := Value.type "tuple", data := Data.seq #[] }) ::
  (nat_lit 227, { cls := Value.type "code", data := Data.fields #[Value.str (Str.ofString "__rsub__") 603, Value.str (Str.ofString "NormalDist.__rsub__") 604, Value.str (Str.ofString "/claim/cut.py") 605, Value.int 85 0, Value.int 2 0, Value.int 0 0, Value.int 0 0, Value.int 3 0, Value.ref 222, Value.bool true, Value.int 374 0, Value.ref 223, Value.none, Value.ref 224, Value.ref 225, Value.ref 226, Value.int 608 0, Value.int 85 0, Value.str (Str.ofString "/claim/cut.py") 609] }) ::
  (nat_lit 228, hd05.o_228) ::
  (nat_lit 229, { cls := Value.type "tuple", data := Data.seq #[] }) ::
  (nat_lit 231, { cls := Value.type "tuple", data := Data.seq #[Value.str (Str.ofString "x1") 615, Value.str (Str.ofString "x2") 616] }) ::
  (nat_lit 232, { cls := Value.type "tuple", data := Data.seq #[] }) ::
  (nat_lit 234, { cls := Value.type "code", data := Data.fields #[Value.str (Str.ofString "__eq__") 612, Value.str (Str.ofString "NormalDist.__eq__") 613, Value.str (Str.ofString "/claim/cut.py") 614, Value.int 89 0, Value.int 2 0, Value.int 0 0, Value.int 0 0, Value.int 3 0, Value.ref 229, Value.bool true, Value.int 374 0, Value.ref 230, Value.none, Value.ref 231, Value.ref 232, Value.ref 233, Value.int 617 0, Value.int 89 0, Value.str (Str.ofString "/claim/cut.py") 618] }) ::
  (nat_lit 235, hd05.o_235) ::
  (nat_lit 236, { cls := Value.type "tuple", data := Data.seq #[] }) ::
  (nat_lit 238, { cls := Value.type "tuple", data := Data.seq #[Value.str (Str.ofString "self") 623] }) ::
  (nat_lit 239, { cls := Value.type "tuple", data := Data.seq #[] }) ::
  (nat_lit 241, { cls := Value.type "code", data := Data.fields #[Value.str (Str.ofString "__hash__") 620, Value.str (Str.ofString "NormalDist.__hash__") 621, Value.str (Str.ofString "/claim/cut.py") 622, Value.int 94 0, Value.int 1 0, Value.int 0 0, Value.int 0 0, Value.int 3 0, Value.ref 236, Value.bool true, Value.int 374 0, Value.ref 237, Value.none, Value.ref 238, Value.ref 239, Value.ref 240, Value.int 624 0, Value.int 94 0, Value.str (Str.ofString "/claim/cut.py") 625] }) ::
  (nat_lit 242, hd05.o_242) ::
  (nat_lit 243, { cls := Value.type "tuple", data := Data.seq #[] }) ::
  (nat_lit 245, { cls := Value.type "tuple", data := Data.seq #[Value.str (Str.ofString "self") 630] }) ::
  (nat_lit 246, { cls := Value.type "tuple", data := Data.seq #[] }) ::
  (nat_lit 248, { cls := Value.type "code", data := Data.fields #[Value.str (Str.ofString "__repr__") 627, Value.str (Str.ofString "NormalDist.__repr__") 628, Value.str (Str.ofString "/claim/cut.py") 629, Value.int 97 0, Value.int 1 0, Value.int 0 0, Value.int 0 0, Value.int 3 0, Value.ref 243, Value.bool true, Value.int 374 0, Value.ref 244, Value.none, Value.ref 245, Value.ref 246, Value.ref 247, Value.int 631 0, Value.int 97 0, Value.str (Str.ofString "/claim/cut.py") 632] }) ::
  (nat_lit 249, hd05.o_249) ::
  (nat_lit 250, { cls := Value.type "tuple", data := Data.seq #[] }) ::
  (nat_lit 252, { cls := Value.type "tuple", data := Data.seq #[Value.str (Str.ofString "self") 637] }) ::
  (nat_lit 253, { cls := Value.type "tuple", data := Data.seq #[] }) ::
  (nat_lit 255, { cls := Value.type "code", data := Data.fields #[Value.str (Str.ofString "__getstate__") 634, Value.str (Str.ofString "NormalDist.__getstate__") 635, Value.str (Str.ofString "/claim/cut.py") 636, Value.int 100 0, Value.int 1 0, Value.int 0 0, Value.int 0 0, Value.int 3 0, Value.ref 250, Value.bool true, Value.int 374 0, Value.ref 251, Value.none, Value.ref 252, Value.ref 253, Value.ref 254, Value.int 638 0, Value.int 100 0, Value.str (Str.ofString "/claim/cut.py") 639] }) ::
  (nat_lit 256, hd05.o_256) ::
  (nat_lit 257, { cls := Value.type "tuple", data := Data.seq #[] }) ::
  (nat_lit 259, { cls := Value.type "tuple", data := Data.seq #[Value.str (Str.ofString "self") 644, Value.str (Str.ofString "state") 645] }) ::
  (nat_lit 260, { cls := Value.type "tuple", data := Data.seq #[] }) ::
  (nat_lit 262, { cls := Value.type "code", data := Data.fields #[Value.str (Str.ofString "__setstate__") 641, Value.str (Str.ofString "NormalDist.__setstate__") 642, Value.str (Str.ofString "/claim/cut.py") 643, Value.int 103 0, Value.int 2 0, Value.int 0 0, Value.int 0 0, Value.int 3 0, Value.ref 257, Value.bool true, Value.int 374 0, Value.ref 258, Value.none, Value.ref 259, Value.ref 260, Value.ref 261, Value.int 646 0, Value.int 103 0, Value.str (Str.ofString "/claim/cut.py") 647] }) ::
  (nat_lit 263, hd05.o_263) ::
  (nat_lit 264, { cls := Value.type "tuple", data := Data.seq #[Value.str (Str.ofString "_mu") 649, Value.str (Str.ofString "_sigma") 650] }) ::
  (nat_lit 269, { cls := Value.type "dict", data := Data.dict #[{ hash := PyData.keyHash P (Str.ofString "__module__"), key := Value.str (Str.ofString "__module__") 414, val := Value.str (Str.ofString "cpy313.statistics") 387 }, { hash := PyData.keyHash P (Str.ofString "__firstlineno__"), key := Value.str (Str.ofString "__firstlineno__") 418, val := Value.int 8 417 }, { hash := PyData.keyHash P (Str.ofString "__slots__"), key := Value.str (Str.ofString "__slots__") 425, val := Value.ref 70 }, { hash := PyData.keyHash P (Str.ofString "__init__"), key := Value.str (Str.ofString "__init__") 436, val := Value.ref 78 }, { hash := PyData.keyHash P (Str.ofString "from_samples"), key := Value.str (Str.ofString "from_samples") 456, val := Value.ref 87 }, { hash := PyData.keyHash P (Str.ofString "samples"), key := Value.str (Str.ofString "samples") 466, val := Value.ref 96 }, { hash := PyData.keyHash P (Str.ofString "pdf"), key := Value.str (Str.ofString "pdf") 474, val := Value.ref 103 }, { hash := PyData.keyHash P (Str.ofString "cdf"), key := Value.str (Str.ofString "cdf") 482, val := Value.ref 110 }, { hash := PyData.keyHash P (Str.ofString "inv_cdf"), key := Value.str (Str.ofString "inv_cdf") 490, val := Value.ref 117 }, { hash := PyData.keyHash P (Str.ofString "quantiles"), key := Value.str (Str.ofString "quantiles") 499, val := Value.ref 125 }, { hash := PyData.keyHash P (Str.ofString "overlap"), key := Value.str (Str.ofString "overlap") 507, val := Value.ref 132 }, { hash := PyData.keyHash P (Str.ofString "zscore"), key := Value.str (Str.ofString "zscore") 515, val := Value.ref 139 }, { hash := PyData.keyHash P (Str.ofString "mean"), key := Value.str (Str.ofString "mean") 523, val := Value.ref 147 }, { hash := PyData.keyHash P (Str.ofString "median"), key := Value.str (Str.ofString "median") 531, val := Value.ref 155 }, { hash := PyData.keyHash P (Str.ofString "mode"), key := Value.str (Str.ofString "mode") 539, val := Value.ref 163 }, { hash := PyData.keyHash P (Str.ofString "stdev"), key := Value.str (Str.ofString "stdev") 547, val := Value.ref 171 }, { hash := PyData.keyHash P (Str.ofString "variance"), key := Value.str (Str.ofString "variance") 555, val := Value.ref 179 }, { hash := PyData.keyHash P (Str.ofString "__add__"), key := Value.str (Str.ofString "__add__") 563, val := Value.ref 186 }, { hash := PyData.keyHash P (Str.ofString "__sub__"), key := Value.str (Str.ofString "__sub__") 571, val := Value.ref 193 }, { hash := PyData.keyHash P (Str.ofString "__mul__"), key := Value.str (Str.ofString "__mul__") 579, val := Value.ref 200 }, { hash := PyData.keyHash P (Str.ofString "__truediv__"), key := Value.str (Str.ofString "__truediv__") 587, val := Value.ref 207 }, { hash := PyData.keyHash P (Str.ofString "__pos__"), key := Value.str (Str.ofString "__pos__") 594, val := Value.ref 214 }, { hash := PyData.keyHash P (Str.ofString "__neg__"), key := Value.str (Str.ofString "__neg__") 601, val := Value.ref 221 }, { hash := PyData.keyHash P (Str.ofString "__radd__"), key := Value.str (Str.ofString "__radd__") 602, val := Value.ref 186 }, { hash := PyData.keyHash P (Str.ofString "__rsub__"), key := Value.str (Str.ofString "__rsub__") 610, val := Value.ref 228 }, { hash := PyData.keyHash P (Str.ofString "__rmul__"), key := Value.str (Str.ofString "__rmul__") 611, val := Value.ref 200 }, { hash := PyData.keyHash P (Str.ofString "__eq__"), key := Value.str (Str.ofString "__eq__") 619, val := Value.ref 235 }, { hash := PyData.keyHash P (Str.ofString "__hash__"), key := Value.str (Str.ofString "__hash__") 626, val := Value.ref 242 }, { hash := PyData.keyHash P (Str.ofString "__repr__"), key := Value.str (Str.ofString "__repr__") 633, val := Value.ref 249 }, { hash := PyData.keyHash P (Str.ofString "__getstate__"), key := Value.str (Str.ofString "__getstate__") 640, val := Value.ref 256 }, { hash := PyData.keyHash P (Str.ofString "__setstate__"), key := Value.str (Str.ofString "__setstate__") 648, val := Value.ref 263 }, { hash := PyData.keyHash P (Str.ofString "__static_attributes__"), key := Value.str (Str.ofString "__static_attributes__") 651, val := Value.ref 264 }, { hash := PyData.keyHash P (Str.ofString "_mu"), key := Value.str (Str.ofString "_mu") 653, val := Value.ref 271 }, { hash := PyData.keyHash P (Str.ofString "_sigma"), key := Value.str (Str.ofString "_sigma") 655, val := Value.ref 272 }, { hash := PyData.keyHash P (Str.ofString "__doc__"), key := Value.str (Str.ofString "__doc__") 656, val := Value.none }] 4 }) ::
  (nat_lit 270, { cls := Value.type "type", data := Data.cls { name := Str.ofString "NormalDist", bases := [Value.type "object"], mro := [Value.ref 270, Value.type "object"], ns := 269, qualname := Str.ofString "NormalDist", hasDict := false, slotNames := [Str.ofString "_mu", Str.ofString "_sigma"] }, slots := #[none, none, some (Value.str (Str.ofString "NormalDist") 407), some (Value.str (Str.ofString "NormalDist") 415), some (Value.builtin "object.__new__"), some (Value.bool false)] }) ::
  (nat_lit 271, { cls := Value.type "member_descriptor", data := Data.fields #[Value.str (Str.ofString "_mu") 652, Value.ref 270, Value.builtin "proto.slot", Value.builtin "proto.slot#set", Value.int 1 0] }) ::
  (nat_lit 272, { cls := Value.type "member_descriptor", data := Data.fields #[Value.str (Str.ofString "_sigma") 654, Value.ref 270, Value.builtin "proto.slot", Value.builtin "proto.slot#set", Value.int 0 0] }) ::
  (nat_lit 275, { cls := Value.type "tuple", data := Data.seq #[] }) ::
  (nat_lit 277, { cls := Value.type "tuple", data := Data.seq #[Value.str (Str.ofString "v") 664, Value.str (Str.ofString "room") 665] }) ::
  (nat_lit 278, { cls := Value.type "tuple", data := Data.seq #[] }) ::
  (nat_lit 280, { cls := Value.type "code", data := Data.fields #[Value.str (Str.ofString "_law_small") 661, Value.str (Str.ofString "_law_small") 662, Value.str (Str.ofString "/claim/cut.py") 663, Value.int 106 0, Value.int 2 0, Value.int 0 0, Value.int 0 0, Value.int 3 0, Value.ref 275, Value.bool true, Value.int 374 0, Value.ref 276, Value.none, Value.ref 277, Value.ref 278, Value.ref 279, Value.int 666 0, Value.int 106 0, Value.str (Str.ofString "/claim/cut.py") 667] }) ::
  (nat_lit 281, hd05.o_281) ::
  (nat_lit 282, { cls := Value.type "tuple", data := Data.seq #[] }) ::
  (nat_lit 284, { cls := Value.type "tuple", data := Data.seq #[Value.str (Str.ofString "pile") 672, Value.str (Str.ofString "x") 673, Value.str (Str.ofString "v") 674, Value.str (Str.ofString "normal") 675, Value.str (Str.ofString "mean") 676, Value.str (Str.ofString "square") 677, Value.str (Str.ofString "parts") 678, Value.str (Str.ofString "step") 679, Value.str (Str.ofString "other") 680, Value.str (Str.ofString "low") 681, Value.str (Str.ofString "below") 682, Value.str (Str.ofString "by") 683, Value.str (Str.ofString "sign") 684, Value.str (Str.ofString "told") 685, Value.str (Str.ofString "whole") 686, Value.str (Str.ofString "k") 687, Value.str (Str.ofString "d") 688] }) ::
  (nat_lit 285, { cls := Value.type "tuple", data := Data.seq #[] }) ::
  (nat_lit 287, { cls := Value.type "code", data := Data.fields #[Value.str (Str.ofString "_law_step") 669, Value.str (Str.ofString "_law_step") 670, Value.str (Str.ofString "/claim/cut.py") 671, Value.int 108 0, Value.int 2 0, Value.int 0 0, Value.int 0 0, Value.int 3 0, Value.ref 282, Value.bool true, Value.int 374 0, Value.ref 283, Value.none, Value.ref 284, Value.ref 285, Value.ref 286, Value.int 689 0, Value.int 108 0, Value.str (Str.ofString "/claim/cut.py") 690] }) ::
  (nat_lit 288, hd05.o_288) ::
  (nat_lit 289, { cls := Value.type "tuple", data := Data.seq #[] }) ::
  (nat_lit 291, { cls := Value.type "tuple", data := Data.seq #[Value.str (Str.ofString "normal") 695, Value.str (Str.ofString "mean") 696, Value.str (Str.ofString "square") 697, Value.str (Str.ofString "parts") 698, Value.str (Str.ofString "p") 699, Value.str (Str.ofString "q") 700] }) ::
  (nat_lit 292, { cls := Value.type "tuple", data := Data.seq #[] }) ::
  (nat_lit 294, { cls := Value.type "code", data := Data.fields #[Value.str (Str.ofString "_law_fits") 692, Value.str (Str.ofString "_law_fits") 693, Value.str (Str.ofString "/claim/cut.py") 694, Value.int 134 0, Value.int 4 0, Value.int 0 0, Value.int 0 0, Value.int 3 0, Value.ref 289, Value.bool true, Value.int 374 0, Value.ref 290, Value.none, Value.ref 291, Value.ref 292, Value.ref 293, Value.int 701 0, Value.int 134 0, Value.str (Str.ofString "/claim/cut.py") 702] }) ::
  (nat_lit 295, hd05.o_295) ::
  (nat_lit 296, { cls := Value.type "tuple", data := Data.seq #[] }) ::
  (nat_lit 298, { cls := Value.type "tuple", data := Data.seq #[Value.str (Str.ofString "script") 707, Value.str (Str.ofString "pile") 708, Value.str (Str.ofString "x") 709, Value.str (Str.ofString "after") 710, Value.str (Str.ofString "whole") 711, Value.str (Str.ofString "total") 712, Value.str (Str.ofString "all_squares") 713, Value.str (Str.ofString "by") 714, Value.str (Str.ofString "normal") 715, Value.str (Str.ofString "mean") 716, Value.str (Str.ofString "square") 717, Value.str (Str.ofString "parts") 718, Value.str (Str.ofString "most") 719] }) ::
  (nat_lit 299, { cls := Value.type "tuple", data := Data.seq #[] }) ::
  (nat_lit 301, { cls := Value.type "code", data := Data.fields #[Value.str (Str.ofString "law") 704, Value.str (Str.ofString "law") 705, Value.str (Str.ofString "/claim/cut.py") 706, Value.int 137 0, Value.int 1 0, Value.int 0 0, Value.int 0 0, Value.int 3 0, Value.ref 296, Value.bool true, Value.int 374 0, Value.ref 297, Value.none, Value.ref 298, Value.ref 299, Value.ref 300, Value.int 720 0, Value.int 137 0, Value.str (Str.ofString "/claim/cut.py") 721] }) ::
  (nat_lit 302, hd05.o_302) :: []
theorem hk_as : ∀ P, ([2, 3, 43, 45, 46, 48, 49, 50, 57, 58, 59, 60, 70, 71, 72, 74, 75, 77, 78, 79, 81, 82, 84, 85, 86, 87, 88, 89, 90, 92, 93, 95, 96, 97, 99, 100, 102, 103, 104, 106, 107, 109, 110, 111, 113, 114, 116, 117, 118, 119, 121, 122, 124, 125, 126, 128, 129, 131, 132, 133, 135, 136, 138, 139, 140, 142, 143, 145, 146, 147, 148, 150, 151, 153, 154, 155, 156, 158, 159, 161, 162, 163, 164, 166, 167, 169, 170, 171, 172, 174, 175, 177, 178, 179, 180, 182, 183, 185, 186, 187, 189, 190, 192, 193, 194, 196, 197, 199, 200, 201, 203, 204, 206, 207, 208, 210, 211, 213, 214, 215, 217, 218, 220, 221, 222, 224, 225, 227, 228, 229, 231, 232, 234, 235, 236, 238, 239, 241, 242, 243, 245, 246, 248, 249, 250, 252, 253, 255, 256, 257, 259, 260, 262, 263, 264, 269, 270, 271, 272, 275, 277, 278, 280, 281, 282, 284, 285, 287, 288, 289, 291, 292, 294, 295, 296, 298, 299, 301, 302] : List Addr) = (hd05.heap_39 P).map (·.1) := fun _ => by kernel_rfl
theorem arm_no (w : World) : (openEnds treeTable PySem.Challenge.pw_oz0056_05 (w.withFollow "special-get-raises" false) 4094).map (fun s => (openSeen hd05.view_39 [Str.ofString "NormalDist"] (importedModules PySem.Challenge.pw_oz0056_05.main.body) (fun s => xlAt hd05.view_39 [] s && recOk PySem.Challenge.rw_oz0056_05.row.toRowW.records s) true s, (kHook hd05.heap_39 [2, 3, 43, 45, 46, 48, 49, 50, 57, 58, 59, 60, 70, 71, 72, 74, 75, 77, 78, 79, 81, 82, 84, 85, 86, 87, 88, 89, 90, 92, 93, 95, 96, 97, 99, 100, 102, 103, 104, 106, 107, 109, 110, 111, 113, 114, 116, 117, 118, 119, 121, 122, 124, 125, 126, 128, 129, 131, 132, 133, 135, 136, 138, 139, 140, 142, 143, 145, 146, 147, 148, 150, 151, 153, 154, 155, 156, 158, 159, 161, 162, 163, 164, 166, 167, 169, 170, 171, 172, 174, 175, 177, 178, 179, 180, 182, 183, 185, 186, 187, 189, 190, 192, 193, 194, 196, 197, 199, 200, 201, 203, 204, 206, 207, 208, 210, 211, 213, 214, 215, 217, 218, 220, 221, 222, 224, 225, 227, 228, 229, 231, 232, 234, 235, 236, 238, 239, 241, 242, 243, 245, 246, 248, 249, 250, 252, 253, 255, 256, 257, 259, 260, 262, 263, 264, 269, 270, 271, 272, 275, 277, 278, 280, 281, 282, 284, 285, 287, 288, 289, 291, 292, 294, 295, 296, 298, 299, 301, 302] hk_as).obs s)) = some (openGood hd05.view_39 [Str.ofString "NormalDist"], (kHook hd05.heap_39 [2, 3, 43, 45, 46, 48, 49, 50, 57, 58, 59, 60, 70, 71, 72, 74, 75, 77, 78, 79, 81, 82, 84, 85, 86, 87, 88, 89, 90, 92, 93, 95, 96, 97, 99, 100, 102, 103, 104, 106, 107, 109, 110, 111, 113, 114, 116, 117, 118, 119, 121, 122, 124, 125, 126, 128, 129, 131, 132, 133, 135, 136, 138, 139, 140, 142, 143, 145, 146, 147, 148, 150, 151, 153, 154, 155, 156, 158, 159, 161, 162, 163, 164, 166, 167, 169, 170, 171, 172, 174, 175, 177, 178, 179, 180, 182, 183, 185, 186, 187, 189, 190, 192, 193, 194, 196, 197, 199, 200, 201, 203, 204, 206, 207, 208, 210, 211, 213, 214, 215, 217, 218, 220, 221, 222, 224, 225, 227, 228, 229, 231, 232, 234, 235, 236, 238, 239, 241, 242, 243, 245, 246, 248, 249, 250, 252, 253, 255, 256, 257, 259, 260, 262, 263, 264, 269, 270, 271, 272, 275, 277, 278, 280, 281, 282, 284, 285, 287, 288, 289, 291, 292, 294, 295, 296, 298, 299, 301, 302] hk_as).val (w.withFollow "special-get-raises" false)) := by
  delta openEnds fencedOpening topFrom
  rw [Fast.te10274390034422433532, Fast.te14364793385576792824, Fast.te1435165496053646825, Fast.te14289696077712309145, Fast.te14082659384304107361, Fast.te8920871248978507458, Fast.te4187177175401517315]
  kernel_rfl
theorem arm_yes (w : World) : (openEnds treeTable PySem.Challenge.pw_oz0056_05 (w.withFollow "special-get-raises" true) 4094).map (fun s => (openSeen hd05.view_39 [Str.ofString "NormalDist"] (importedModules PySem.Challenge.pw_oz0056_05.main.body) (fun s => xlAt hd05.view_39 [] s && recOk PySem.Challenge.rw_oz0056_05.row.toRowW.records s) true s, (kHook hd05.heap_39 [2, 3, 43, 45, 46, 48, 49, 50, 57, 58, 59, 60, 70, 71, 72, 74, 75, 77, 78, 79, 81, 82, 84, 85, 86, 87, 88, 89, 90, 92, 93, 95, 96, 97, 99, 100, 102, 103, 104, 106, 107, 109, 110, 111, 113, 114, 116, 117, 118, 119, 121, 122, 124, 125, 126, 128, 129, 131, 132, 133, 135, 136, 138, 139, 140, 142, 143, 145, 146, 147, 148, 150, 151, 153, 154, 155, 156, 158, 159, 161, 162, 163, 164, 166, 167, 169, 170, 171, 172, 174, 175, 177, 178, 179, 180, 182, 183, 185, 186, 187, 189, 190, 192, 193, 194, 196, 197, 199, 200, 201, 203, 204, 206, 207, 208, 210, 211, 213, 214, 215, 217, 218, 220, 221, 222, 224, 225, 227, 228, 229, 231, 232, 234, 235, 236, 238, 239, 241, 242, 243, 245, 246, 248, 249, 250, 252, 253, 255, 256, 257, 259, 260, 262, 263, 264, 269, 270, 271, 272, 275, 277, 278, 280, 281, 282, 284, 285, 287, 288, 289, 291, 292, 294, 295, 296, 298, 299, 301, 302] hk_as).obs s)) = some (openGood hd05.view_39 [Str.ofString "NormalDist"], (kHook hd05.heap_39 [2, 3, 43, 45, 46, 48, 49, 50, 57, 58, 59, 60, 70, 71, 72, 74, 75, 77, 78, 79, 81, 82, 84, 85, 86, 87, 88, 89, 90, 92, 93, 95, 96, 97, 99, 100, 102, 103, 104, 106, 107, 109, 110, 111, 113, 114, 116, 117, 118, 119, 121, 122, 124, 125, 126, 128, 129, 131, 132, 133, 135, 136, 138, 139, 140, 142, 143, 145, 146, 147, 148, 150, 151, 153, 154, 155, 156, 158, 159, 161, 162, 163, 164, 166, 167, 169, 170, 171, 172, 174, 175, 177, 178, 179, 180, 182, 183, 185, 186, 187, 189, 190, 192, 193, 194, 196, 197, 199, 200, 201, 203, 204, 206, 207, 208, 210, 211, 213, 214, 215, 217, 218, 220, 221, 222, 224, 225, 227, 228, 229, 231, 232, 234, 235, 236, 238, 239, 241, 242, 243, 245, 246, 248, 249, 250, 252, 253, 255, 256, 257, 259, 260, 262, 263, 264, 269, 270, 271, 272, 275, 277, 278, 280, 281, 282, 284, 285, 287, 288, 289, 291, 292, 294, 295, 296, 298, 299, 301, 302] hk_as).val (w.withFollow "special-get-raises" true)) := by
  delta openEnds fencedOpening topFrom
  rw [Fast.te10274390034422433532, Fast.te14364793385576792824, Fast.te1435165496053646825, Fast.te14289696077712309145, Fast.te14082659384304107361, Fast.te8920871248978507458, Fast.te4187177175401517315]
  kernel_rfl
theorem hd05.left : LeftO PySem.Challenge.rw_oz0056_05.row.toRowW.prog hd05.view_39 [Str.ofString "NormalDist"] (fun s => xlAt hd05.view_39 [] s && recOk PySem.Challenge.rw_oz0056_05.row.toRowW.records s) (Hook.obs (kHook hd05.heap_39 [2, 3, 43, 45, 46, 48, 49, 50, 57, 58, 59, 60, 70, 71, 72, 74, 75, 77, 78, 79, 81, 82, 84, 85, 86, 87, 88, 89, 90, 92, 93, 95, 96, 97, 99, 100, 102, 103, 104, 106, 107, 109, 110, 111, 113, 114, 116, 117, 118, 119, 121, 122, 124, 125, 126, 128, 129, 131, 132, 133, 135, 136, 138, 139, 140, 142, 143, 145, 146, 147, 148, 150, 151, 153, 154, 155, 156, 158, 159, 161, 162, 163, 164, 166, 167, 169, 170, 171, 172, 174, 175, 177, 178, 179, 180, 182, 183, 185, 186, 187, 189, 190, 192, 193, 194, 196, 197, 199, 200, 201, 203, 204, 206, 207, 208, 210, 211, 213, 214, 215, 217, 218, 220, 221, 222, 224, 225, 227, 228, 229, 231, 232, 234, 235, 236, 238, 239, 241, 242, 243, 245, 246, 248, 249, 250, 252, 253, 255, 256, 257, 259, 260, 262, 263, 264, 269, 270, 271, 272, 275, 277, 278, 280, 281, 282, 284, 285, 287, 288, 289, 291, 292, 294, 295, 296, 298, 299, 301, 302] hk_as)) (Hook.val (kHook hd05.heap_39 [2, 3, 43, 45, 46, 48, 49, 50, 57, 58, 59, 60, 70, 71, 72, 74, 75, 77, 78, 79, 81, 82, 84, 85, 86, 87, 88, 89, 90, 92, 93, 95, 96, 97, 99, 100, 102, 103, 104, 106, 107, 109, 110, 111, 113, 114, 116, 117, 118, 119, 121, 122, 124, 125, 126, 128, 129, 131, 132, 133, 135, 136, 138, 139, 140, 142, 143, 145, 146, 147, 148, 150, 151, 153, 154, 155, 156, 158, 159, 161, 162, 163, 164, 166, 167, 169, 170, 171, 172, 174, 175, 177, 178, 179, 180, 182, 183, 185, 186, 187, 189, 190, 192, 193, 194, 196, 197, 199, 200, 201, 203, 204, 206, 207, 208, 210, 211, 213, 214, 215, 217, 218, 220, 221, 222, 224, 225, 227, 228, 229, 231, 232, 234, 235, 236, 238, 239, 241, 242, 243, 245, 246, 248, 249, 250, 252, 253, 255, 256, 257, 259, 260, 262, 263, 264, 269, 270, 271, 272, 275, 277, 278, 280, 281, 282, 284, 285, 287, 288, 289, 291, 292, 294, 295, 296, 298, 299, 301, 302] hk_as)) 4094 := byRow2 "special-get-raises" arm_no arm_yes
end Mine
end
section
open PySem PySem.W PyProof.Rows
namespace Mine
noncomputable abbrev loose := looseW hd05.view_39 [Str.ofString "NormalDist"]
abbrev ndObj (dx : Addr) (a : UInt64) (ta : Tok) (b : UInt64) (tb : Tok) : Obj := { cls := .ref 270, dict := some dx, data := .plain, slots := #[some (.float a ta), some (.float b tb)] }

local macro_rules | `(tactic| k_enter) => `(tactic| (refine' code_def ?k1 ?k2 ?k3 ?k4 ?k5 ?kA ?kF ?kK ?k6 ?k7 ?k8 ?k9 ?kB ?_ ?c2 ?c3 ?c4 ?c5; (case kA => exact rfl); (case kF => exact rfl); (case kK => first | exact rfl | assumption); (case k1 => k_asm); (case k2 => k_asm); (case k3 => k_asm); (case k4 => k_asm); (case k5 => k_asm); (case k6 => k_is); (case k7 => k_is); (case k8 => ktr_room); (case k9 => first | exact BindsTo.of_eq rfl | exact binds_K (by k_in) rfl (by k_is) rfl rfl rfl); (case c5 => decide); (case kB => exact locs rfl); (case c2 => exact rfl); (case c3 => exact rfl); (case c4 => exact rfl); k_whole; intro g' L' h' FG' F' N' B' X' T'; (try dsimp only); (try k_fold)))
theorem news_drop {h₀ h : Heap} {L : Addr} {a b c d : Addr × Obj} {news : List (Addr × Obj)} (N : News h₀ L h (a :: b :: c :: d :: news)) : News h₀ L h (a :: b :: news) := fun p hp => N p (by
  rcases List.mem_cons.mp hp with e | hp
  · rw [e]; exact .head _
  rcases List.mem_cons.mp hp with e | hp
  · rw [e]; exact .tail _ (.head _)
  exact .tail _ (.tail _ (.tail _ (.tail _ hp))))
theorem all_ne {news : List (Addr × Obj)} {d x : Addr} (h : ∀ p ∈ news, p.1 < d) (h2 : d < x) : ∀ p ∈ news, p.1 ≠ x := fun p hp => Nat.ne_of_lt (Nat.lt_trans (h p hp) h2)
local macro_rules | `(tactic| k_all) => `(tactic| exact all_ne (by assumption) (by assumption))
local macro_rules | `(tactic| k_mem) => `(tactic| assumption)
local macro_rules | `(tactic| k_units) => `(tactic| ktr_units)
local macro_rules | `(tactic| walk_at "call builtin:math.hypot") => `(tactic| (refine call_hypot ?_))
local macro_rules | `(tactic| walk_at "getAttr ref") => `(tactic| (k_here; k_dflt (refine' get_propS ?k1 ?k2 ?k3 ?k4 ?k5 ?k6 ?k7 ?k8 ?k9 ?_; (case k1 => k_asm); (case k2 => k_asm); (case k3 => k_inst); (case k4 => k_is); (case k5 => k_is); (case k6 => k_is); (case k7 => k_is); (case k8 => k_is); (case k9 => k_is); k_whole; k_enter)))
local macro_rules | `(tactic| walk_at "binaryOp Mult int ref") => `(tactic| (k_here; k_dflt (refine' rbin rfl ?F ?X ?I ?hc ?hs ?hr ?hf ?hfl ?hsub ?slot ?entry ?args ?hB ?_; (case slot => exact PySem.F.slot_int_mul); (case entry => exact PySem.F.entry_int_mul); (case args => exact PySem.F.args_int_mul_2 _ _); (case hfl => exact rfl); (case F => k_asm); (case X => k_asm); (case I => k_inst); (case hB => exact int_mul_own _ _ _ _ _ rfl rfl); (case hc => k_is); (case hs => k_is); (case hr => k_is); (case hf => k_is); (case hsub => k_is); k_whole)))
local macro_rules | `(tactic| walk_at "binaryOp Add int ref") => `(tactic| (k_here; k_dflt (refine' rbin rfl ?F ?X ?I ?hc ?hs ?hr ?hf ?hfl ?hsub ?slot ?entry ?args ?hB ?_; (case slot => exact PySem.F.slot_int_add); (case entry => exact PySem.F.entry_int_add); (case args => exact PySem.F.args_int_add_2 _ _); (case hfl => exact rfl); (case F => k_asm); (case X => k_asm); (case I => k_inst); (case hB => exact int_add_own _ _ _ _ _ rfl rfl); (case hc => k_is); (case hs => k_is); (case hr => k_is); (case hf => k_is); (case hsub => k_is); k_whole)))
local macro_rules | `(tactic| walk_at "binaryOp Sub int ref") => `(tactic| (k_here; k_dflt (refine' rbin rfl ?F ?X ?I ?hc ?hs ?hr ?hf ?hfl ?hsub ?slot ?entry ?args ?hB ?_; (case slot => exact PySem.F.slot_int_sub); (case entry => exact PySem.F.entry_int_sub); (case args => exact PySem.F.args_int_sub_2 _ _); (case hfl => exact rfl); (case F => k_asm); (case X => k_asm); (case I => k_inst); (case hB => exact int_sub_own _ _ _ _ _ rfl rfl); (case hc => k_is); (case hs => k_is); (case hr => k_is); (case hf => k_is); (case hsub => k_is); k_whole)))
local macro_rules | `(tactic| walk_at "compareOp NotEq ref ref") => `(tactic| (k_here; k_dflt (refine' ne_own ?U ?F ?X ?I ?hb ?hn ?hsub ?hs ?hf ?_; (case U => ktr_units); (case F => k_asm); (case X => k_asm); (case I => k_inst); (case hb => exact InstAt.type (by k_inst)); (case hn => k_is); (case hsub => k_is); (case hs => k_is); (case hf => k_is); k_whole)))

section
variable {w : World} {mean : ExcName → Option Value} {mg mb : Str → Option Value} {dp un : Nat} {gd : Option (List Code)} {cn : Str} {cs : Scope} {a : Addr} {ccd : Value} {cl : List (Str × Addr)} {outer : List Env} {A₀ : Around} {base h₀ : Heap} {L : Addr} {m : Str → Option Value} {news : List (Addr × Obj)} {s : Shared} {Q E : Value → Shared → Prop}

theorem nd_new_ff {x y : UInt64} {tx ty : Tok}
   (B : Below A₀ base outer h₀) (F : Fr h₀ L s.heap m) (X : (hd05.heap_39 w.params).In h₀) (N : News h₀ L s.heap news) (T : Top hd05.view_39 loose mean mg mb h₀) (hk : cs.kind = .function)
   (hd : dp + 12 < recursionLimit) (hu : un + 80 < cLine)
   (hs : (Float64.cmp (y) 0 == some Ordering.lt) = false)
   (hret : ∀ z dx tx ty h' tk', Fr h₀ L h' m → News h₀ L h' ((z, ndObj dx (x) tx (y) ty) :: (dx, dictOf [] 0) :: news) → Q (.ref z) { s with heap := h', toks := tk' }) :
    wpAny (model PySem.Challenge.rw_oz0056_05.row.prog w) (ktrTop dp un gd cn cs L a ccd cl outer) (call (.ref 270) [.float x tx, .float y ty]) Q E s := by
  revert X; k_fill; intro X
  w_strict (k_steps; (try exact hret _ _ _ _ _ _ (by assumption) (by first | assumption | exact news_drop (by assumption))))

theorem nd_new_ii {n k : Int} {tx ty : Tok}
   (B : Below A₀ base outer h₀) (F : Fr h₀ L s.heap m) (X : (hd05.heap_39 w.params).In h₀) (N : News h₀ L s.heap news) (T : Top hd05.view_39 loose mean mg mb h₀) (hk : cs.kind = .function)
   (hd : dp + 12 < recursionLimit) (hu : un + 80 < cLine)
   (hn : n.natAbs < 2 ^ 1023) (hk0 : 0 ≤ k) (hkf : k.natAbs < 2 ^ 1023) (hs : (Float64.cmpInt 0 k == some Ordering.gt) = false)
   (hret : ∀ z dx tx ty h' tk', Fr h₀ L h' m → News h₀ L h' ((z, ndObj dx (Float64.ofInt n) tx (Float64.ofInt k) ty) :: (dx, dictOf [] 0) :: news) → Q (.ref z) { s with heap := h', toks := tk' }) :
    wpAny (model PySem.Challenge.rw_oz0056_05.row.prog w) (ktrTop dp un gd cn cs L a ccd cl outer) (call (.ref 270) [.int n tx, .int k ty]) Q E s := by
  revert X; k_fill; intro X
  w_strict (k_steps; (try exact hret _ _ _ _ _ _ (by assumption) (by first | assumption | exact news_drop (by assumption))))

local macro_rules | `(tactic| walk_at "call ref") => `(tactic| (k_here; k_dflt (refine' nd_new_ff ?k1 ?k2 ?k3 ?k4 ?k5 ?kK ?kd ?ku ?hs ?_; (case k1 => k_asm); (case k2 => k_asm); (case k3 => k_asm); (case k4 => k_asm); (case k5 => k_asm); (case kK => first | exact rfl | assumption); (case kd => ktr_room); (case ku => ktr_units); (case hs => assumption); k_whole; intro z9 dx9 tx9 ty9 h9 tk9 F9 N9; (try dsimp only); (try k_fold))))

theorem nd_mul {x dx : Addr} {p q : UInt64} {tp tq : Tok} {n : Int} {t : Tok}
   (B : Below A₀ base outer h₀) (F : Fr h₀ L s.heap m) (X : (hd05.heap_39 w.params).In h₀) (N : News h₀ L s.heap news) (T : Top hd05.view_39 loose mean mg mb h₀) (hk : cs.kind = .function)
   (hd : dp + 12 < recursionLimit) (hu : un + 80 < cLine)
   (hx : (x, ndObj dx p tp q tq) ∈ news) (hdx : (dx, dictOf [] 0) ∈ news) (hn : n.natAbs < 2 ^ 1023) (hs : (Float64.cmp (Float64.mul q (Float64.abs (Float64.ofInt n))) 0 == some Ordering.lt) = false)
   (hret : ∀ z dx tx ty h' tk', Fr h₀ L h' m → News h₀ L h' ((z, ndObj dx (Float64.mul p (Float64.ofInt n)) tx (Float64.mul q (Float64.abs (Float64.ofInt n))) ty) :: (dx, dictOf [] 0) :: news) → Q (.ref z) { s with heap := h', toks := tk' }) :
    wpAny (model PySem.Challenge.rw_oz0056_05.row.prog w) (ktrTop dp un gd cn cs L a ccd cl outer) (binaryOp .Mult (.ref x) (.int n t)) Q E s := by
  revert X; k_fill; intro X
  w_strict (k_steps; (try exact hret _ _ _ _ _ _ (by assumption) (by first | assumption | exact news_drop (by assumption))))

theorem nd_rmul {x dx : Addr} {p q : UInt64} {tp tq : Tok} {n : Int} {t : Tok}
   (B : Below A₀ base outer h₀) (F : Fr h₀ L s.heap m) (X : (hd05.heap_39 w.params).In h₀) (N : News h₀ L s.heap news) (T : Top hd05.view_39 loose mean mg mb h₀) (hk : cs.kind = .function)
   (hd : dp + 12 < recursionLimit) (hu : un + 80 < cLine)
   (hx : (x, ndObj dx p tp q tq) ∈ news) (hdx : (dx, dictOf [] 0) ∈ news) (hn : n.natAbs < 2 ^ 1023) (hs : (Float64.cmp (Float64.mul q (Float64.abs (Float64.ofInt n))) 0 == some Ordering.lt) = false)
   (hret : ∀ z dx tx ty h' tk', Fr h₀ L h' m → News h₀ L h' ((z, ndObj dx (Float64.mul p (Float64.ofInt n)) tx (Float64.mul q (Float64.abs (Float64.ofInt n))) ty) :: (dx, dictOf [] 0) :: news) → Q (.ref z) { s with heap := h', toks := tk' }) :
    wpAny (model PySem.Challenge.rw_oz0056_05.row.prog w) (ktrTop dp un gd cn cs L a ccd cl outer) (binaryOp .Mult (.int n t) (.ref x)) Q E s := by
  revert X; k_fill; intro X
  w_strict (k_steps; (try exact hret _ _ _ _ _ _ (by assumption) (by first | assumption | exact news_drop (by assumption))))

theorem nd_div {x dx : Addr} {p q : UInt64} {tp tq : Tok} {n : Int} {t : Tok}
   (B : Below A₀ base outer h₀) (F : Fr h₀ L s.heap m) (X : (hd05.heap_39 w.params).In h₀) (N : News h₀ L s.heap news) (T : Top hd05.view_39 loose mean mg mb h₀) (hk : cs.kind = .function)
   (hd : dp + 12 < recursionLimit) (hu : un + 80 < cLine)
   (hx : (x, ndObj dx p tp q tq) ∈ news) (hdx : (dx, dictOf [] 0) ∈ news) (hn : n.natAbs < 2 ^ 1023) (hn0 : n ≠ 0) (hi : ¬ Float64.isInf (Float64.ofInt n) = true) (hz : ¬ Float64.isZero (Float64.ofInt n) = true) (hz2 : ¬ Float64.isZero (Float64.abs (Float64.ofInt n)) = true) (hs : (Float64.cmp (Float64.div q (Float64.abs (Float64.ofInt n))) 0 == some Ordering.lt) = false)
   (hret : ∀ z dx tx ty h' tk', Fr h₀ L h' m → News h₀ L h' ((z, ndObj dx (Float64.div p (Float64.ofInt n)) tx (Float64.div q (Float64.abs (Float64.ofInt n))) ty) :: (dx, dictOf [] 0) :: news) → Q (.ref z) { s with heap := h', toks := tk' }) :
    wpAny (model PySem.Challenge.rw_oz0056_05.row.prog w) (ktrTop dp un gd cn cs L a ccd cl outer) (binaryOp .Div (.ref x) (.int n t)) Q E s := by
  revert X; k_fill; intro X
  w_strict (k_steps; (try exact hret _ _ _ _ _ _ (by assumption) (by first | assumption | exact news_drop (by assumption))))

theorem nd_add {x dx : Addr} {p q : UInt64} {tp tq : Tok} {y dy : Addr} {p2 q2 : UInt64} {tp2 tq2 : Tok}
   (B : Below A₀ base outer h₀) (F : Fr h₀ L s.heap m) (X : (hd05.heap_39 w.params).In h₀) (N : News h₀ L s.heap news) (T : Top hd05.view_39 loose mean mg mb h₀) (hk : cs.kind = .function)
   (hd : dp + 12 < recursionLimit) (hu : un + 80 < cLine)
   (hx : (x, ndObj dx p tp q tq) ∈ news) (hdx : (dx, dictOf [] 0) ∈ news) (hy : (y, ndObj dy p2 tp2 q2 tq2) ∈ news) (hdy : (dy, dictOf [] 0) ∈ news) (hs : (Float64.cmp (hyp q q2) 0 == some Ordering.lt) = false)
   (hret : ∀ z dx tx ty h' tk', Fr h₀ L h' m → News h₀ L h' ((z, ndObj dx (Float64.add p p2) tx (hyp q q2) ty) :: (dx, dictOf [] 0) :: news) → Q (.ref z) { s with heap := h', toks := tk' }) :
    wpAny (model PySem.Challenge.rw_oz0056_05.row.prog w) (ktrTop dp un gd cn cs L a ccd cl outer) (binaryOp .Add (.ref x) (.ref y)) Q E s := by
  revert X; k_fill; intro X
  w_strict (k_steps; (try exact hret _ _ _ _ _ _ (by assumption) (by first | assumption | exact news_drop (by assumption))))

theorem nd_sub {x dx : Addr} {p q : UInt64} {tp tq : Tok} {y dy : Addr} {p2 q2 : UInt64} {tp2 tq2 : Tok}
   (B : Below A₀ base outer h₀) (F : Fr h₀ L s.heap m) (X : (hd05.heap_39 w.params).In h₀) (N : News h₀ L s.heap news) (T : Top hd05.view_39 loose mean mg mb h₀) (hk : cs.kind = .function)
   (hd : dp + 12 < recursionLimit) (hu : un + 80 < cLine)
   (hx : (x, ndObj dx p tp q tq) ∈ news) (hdx : (dx, dictOf [] 0) ∈ news) (hy : (y, ndObj dy p2 tp2 q2 tq2) ∈ news) (hdy : (dy, dictOf [] 0) ∈ news) (hs : (Float64.cmp (hyp q q2) 0 == some Ordering.lt) = false)
   (hret : ∀ z dx tx ty h' tk', Fr h₀ L h' m → News h₀ L h' ((z, ndObj dx (Float64.sub p p2) tx (hyp q q2) ty) :: (dx, dictOf [] 0) :: news) → Q (.ref z) { s with heap := h', toks := tk' }) :
    wpAny (model PySem.Challenge.rw_oz0056_05.row.prog w) (ktrTop dp un gd cn cs L a ccd cl outer) (binaryOp .Sub (.ref x) (.ref y)) Q E s := by
  revert X; k_fill; intro X
  w_strict (k_steps; (try exact hret _ _ _ _ _ _ (by assumption) (by first | assumption | exact news_drop (by assumption))))

theorem nd_mean {x dx : Addr} {p q : UInt64} {tp tq : Tok} {ex : Bool}
   (B : Below A₀ base outer h₀) (F : Fr h₀ L s.heap m) (X : (hd05.heap_39 w.params).In h₀) (N : News h₀ L s.heap news) (T : Top hd05.view_39 loose mean mg mb h₀) (hk : cs.kind = .function)
   (hd : dp + 12 < recursionLimit) (hu : un + 80 < cLine)
   (hx : (x, ndObj dx p tp q tq) ∈ news) (hdx : (dx, dictOf [] 0) ∈ news)
   (hret : ∀ h' tk', Fr h₀ L h' m → News h₀ L h' news → Q (.float p tp) { s with heap := h', toks := tk' }) :
    wpAny (model PySem.Challenge.rw_oz0056_05.row.prog w) (ktrTop dp un gd cn cs L a ccd cl outer) (getAttr (.ref x) (Str.ofString "mean") ex) Q E s := by
  revert X; k_fill; intro X
  w_strict (k_steps; (try exact hret _ _ (by assumption) (by assumption)))

theorem nd_variance {x dx : Addr} {p q : UInt64} {tp tq : Tok} {ex : Bool}
   (B : Below A₀ base outer h₀) (F : Fr h₀ L s.heap m) (X : (hd05.heap_39 w.params).In h₀) (N : News h₀ L s.heap news) (T : Top hd05.view_39 loose mean mg mb h₀) (hk : cs.kind = .function)
   (hd : dp + 12 < recursionLimit) (hu : un + 80 < cLine)
   (hx : (x, ndObj dx p tp q tq) ∈ news) (hdx : (dx, dictOf [] 0) ∈ news)
   (hret : ∀ (t' : Tok) h' tk', Fr h₀ L h' m → News h₀ L h' news → Q (Value.float (Float64.mul q q) t') { s with heap := h', toks := tk' }) :
    wpAny (model PySem.Challenge.rw_oz0056_05.row.prog w) (ktrTop dp un gd cn cs L a ccd cl outer) (getAttr (.ref x) (Str.ofString "variance") ex) Q E s := by
  revert X; k_fill; intro X
  w_strict (k_steps; (try exact hret _ _ _ (by assumption) (by assumption)))

theorem nd_neg {x dx : Addr} {p q : UInt64} {tp tq : Tok}
   (B : Below A₀ base outer h₀) (F : Fr h₀ L s.heap m) (X : (hd05.heap_39 w.params).In h₀) (N : News h₀ L s.heap news) (T : Top hd05.view_39 loose mean mg mb h₀) (hk : cs.kind = .function)
   (hd : dp + 12 < recursionLimit) (hu : un + 80 < cLine)
   (hx : (x, ndObj dx p tp q tq) ∈ news) (hdx : (dx, dictOf [] 0) ∈ news) (hs : (Float64.cmp (q) 0 == some Ordering.lt) = false)
   (hret : ∀ z dx tx ty h' tk', Fr h₀ L h' m → News h₀ L h' ((z, ndObj dx (Float64.neg p) tx (q) ty) :: (dx, dictOf [] 0) :: news) → Q (.ref z) { s with heap := h', toks := tk' }) :
    wpAny (model PySem.Challenge.rw_oz0056_05.row.prog w) (ktrTop dp un gd cn cs L a ccd cl outer) (unaryOp .USub (.ref x)) Q E s := by
  revert X; k_fill; intro X
  w_strict (k_steps; (try exact hret _ _ _ _ _ _ (by assumption) (by first | assumption | exact news_drop (by assumption))))

theorem nd_subi {x dx : Addr} {p q : UInt64} {tp tq : Tok} {n : Int} {t : Tok}
   (B : Below A₀ base outer h₀) (F : Fr h₀ L s.heap m) (X : (hd05.heap_39 w.params).In h₀) (N : News h₀ L s.heap news) (T : Top hd05.view_39 loose mean mg mb h₀) (hk : cs.kind = .function)
   (hd : dp + 12 < recursionLimit) (hu : un + 80 < cLine)
   (hx : (x, ndObj dx p tp q tq) ∈ news) (hdx : (dx, dictOf [] 0) ∈ news) (hn : n.natAbs < 2 ^ 1023) (hs : (Float64.cmp (q) 0 == some Ordering.lt) = false)
   (hret : ∀ z dx tx ty h' tk', Fr h₀ L h' m → News h₀ L h' ((z, ndObj dx (Float64.sub p (Float64.ofInt n)) tx (q) ty) :: (dx, dictOf [] 0) :: news) → Q (.ref z) { s with heap := h', toks := tk' }) :
    wpAny (model PySem.Challenge.rw_oz0056_05.row.prog w) (ktrTop dp un gd cn cs L a ccd cl outer) (binaryOp .Sub (.ref x) (.int n t)) Q E s := by
  revert X; k_fill; intro X
  w_strict (k_steps; (try exact hret _ _ _ _ _ _ (by assumption) (by first | assumption | exact news_drop (by assumption))))

local macro_rules | `(tactic| walk_at "unaryOp USub") => `(tactic| (k_here; (with_reducible show wpAny _ _ (unaryOp _ (Value.ref _)) _ _ _); k_dflt (refine' nd_neg ?k1 ?k2 ?k3 ?k4 ?k5 ?kK ?kd ?ku ?hx ?hdx ?hs ?_; (case k1 => k_asm); (case k2 => k_asm); (case k3 => k_asm); (case k4 => k_asm); (case k5 => k_asm); (case kK => first | exact rfl | assumption); (case kd => ktr_room); (case ku => ktr_units); (case hx => k_mem); (case hdx => k_mem); (case hs => assumption); k_whole; intro z9 dx9 tx9 ty9 h9 tk9 F9 N9; (try dsimp only); (try k_sweep); (try k_fold))))
local macro_rules | `(tactic| walk_at "binaryOp Sub ref") => `(tactic| (k_here; (with_reducible show wpAny _ _ (binaryOp _ (Value.ref _) (Value.int _ _)) _ _ _); k_dflt (refine' nd_subi ?k1 ?k2 ?k3 ?k4 ?k5 ?kK ?kd ?ku ?hx ?hdx ?hn ?hs ?_; (case k1 => k_asm); (case k2 => k_asm); (case k3 => k_asm); (case k4 => k_asm); (case k5 => k_asm); (case kK => first | exact rfl | assumption); (case kd => ktr_room); (case ku => ktr_units); (case hx => k_mem); (case hdx => k_mem); (case hn => assumption); (case hs => assumption); k_whole; intro z9 dx9 tx9 ty9 h9 tk9 F9 N9; (try dsimp only); (try k_sweep); (try k_fold))))

theorem nd_rsub {x dx : Addr} {p q : UInt64} {tp tq : Tok} {n : Int} {t : Tok}
   (B : Below A₀ base outer h₀) (F : Fr h₀ L s.heap m) (X : (hd05.heap_39 w.params).In h₀) (N : News h₀ L s.heap news) (T : Top hd05.view_39 loose mean mg mb h₀) (hk : cs.kind = .function)
   (hd : dp + 30 < recursionLimit) (hu : un + 240 < cLine)
   (hx : (x, ndObj dx p tp q tq) ∈ news) (hdx : (dx, dictOf [] 0) ∈ news) (hn : n.natAbs < 2 ^ 1023) (hs : (Float64.cmp (q) 0 == some Ordering.lt) = false)
   (hret : ∀ z dx tx ty h' tk', Fr h₀ L h' m → News h₀ L h' ((z, ndObj dx (Float64.neg (Float64.sub p (Float64.ofInt n))) tx (q) ty) :: (dx, dictOf [] 0) :: news) → Q (.ref z) { s with heap := h', toks := tk' }) :
    wpAny (model PySem.Challenge.rw_oz0056_05.row.prog w) (ktrTop dp un gd cn cs L a ccd cl outer) (binaryOp .Sub (.int n t) (.ref x)) Q E s := by
  revert X; k_fill; intro X
  w_strict (k_steps; (try exact hret _ _ _ _ _ _ (by assumption) (by first | assumption | exact news_drop (by assumption))))

end
end Mine
end
section
open PySem PySem.W PyProof.Rows PySem.Calls
namespace Mine
local macro_rules | `(tactic| k_enter) => `(tactic| (refine' code_def ?k1 ?k2 ?k3 ?k4 ?k5 ?kA ?kF ?kK ?k6 ?k7 ?k8 ?k9 ?kB ?_ ?c2 ?c3 ?c4 ?c5; (case kA => exact rfl); (case kF => exact rfl); (case kK => first | exact rfl | assumption); (case k1 => k_asm); (case k2 => k_asm); (case k3 => k_asm); (case k4 => k_asm); (case k5 => k_asm); (case k6 => k_is); (case k7 => k_is); (case k8 => ktr_room); (case k9 => first | exact BindsTo.of_eq rfl | exact binds_K (by k_in) rfl (by k_is) rfl rfl rfl); (case c5 => decide); (case kB => exact locs rfl); (case c2 => exact rfl); (case c3 => exact rfl); (case c4 => exact rfl); k_whole; intro g' L' h' FG' F' N' B' X' T'; (try dsimp only); (try k_fold)))
local macro_rules | `(tactic| k_all) => `(tactic| exact all_ne (by assumption) (by assumption))
local macro_rules | `(tactic| k_mem) => `(tactic| assumption)
local macro_rules | `(tactic| k_units) => `(tactic| ktr_units)
section
variable {w : World} {mean : ExcName → Option Value} {mg mb : Str → Option Value} {dp un : Nat} {gd : Option (List Code)} {cn : Str} {cs : Scope} {a : Addr} {ccd : Value} {cl : List (Str × Addr)} {outer : List Env} {A₀ : Around} {base h₀ : Heap} {L : Addr} {m : Str → Option Value} {news : List (Addr × Obj)} {s : Shared} {Q E : Value → Shared → Prop}
theorem ls1 {n r : Int} (h : (if n < 0 then -n else n) < r) : -r ≤ n ∧ n ≤ r := by split at h <;> omega
theorem ls2 {n r : Int} (hr : 0 < r) : -r ≤ Int.fmod n r ∧ Int.fmod n r ≤ r := by
  have h1 := Int.fmod_nonneg_of_pos n hr
  have h2 := Int.fmod_lt_of_pos n hr
  omega
theorem ls_call {n r : Int} {t u : Tok}
   (B : Below A₀ base outer h₀) (F : Fr h₀ L s.heap m) (X : (hd05.heap_39 w.params).In h₀) (N : News h₀ L s.heap news) (T : Top hd05.view_39 loose mean mg mb h₀) (hk : cs.kind = .function)
   (hd : dp + 12 < recursionLimit) (hu : un + 80 < cLine) (hr : 0 < r) (hr2 : r < 2 ^ 50)
   (hret : ∀ l (t' : Tok) h' tk', (-r ≤ l ∧ l ≤ r) → Fr h₀ L h' m → News h₀ L h' news → Q (.int l t') { s with heap := h', toks := tk' }) :
    wpAny (model PySem.Challenge.rw_oz0056_05.row.prog w) (ktrTop dp un gd cn cs L a ccd cl outer) (call (.ref 281) [.int n t, .int r u]) Q E s := by
  revert X; k_fill; intro X
  w_strict (k_steps; (all_goals (try exact hret _ _ _ _ (by first | exact ls1 (by assumption) | exact ls2 (by assumption)) (by assumption) (by assumption))))

end
section
variable {w : World} {mean : ExcName → Option Value} {mg mb : Str → Option Value} {dp un : Nat} {gd : Option (List Code)} {cn : Str} {cs : Scope} {a : Addr} {ccd : Value} {cl : List (Str × Addr)} {outer : List Env} {A₀ : Around} {base h₀ : Heap} {L : Addr} {m : Str → Option Value} {news : List (Addr × Obj)} {s : Shared} {Q E : Value → Shared → Prop}
theorem cmpI_eq {x : UInt64} {n : Int} (h : IsI x n) : (Float64.cmpInt x n == some Ordering.eq) = true := by
  obtain ⟨b, m, e, hd⟩ := h.1
  rw [Float64.cmpInt_right hd n, h.val]
  simp [compare, compareOfLessAndEq]
local macro_rules | `(tactic| walk_at "getAttr ref") => `(tactic| (k_here; (with_reducible show wpAny _ _ (getAttr (Value.ref _) (Str.ofString "mean") _) _ _ _); k_dflt (refine' nd_mean ?k1 ?k2 ?k3 ?k4 ?k5 ?kK ?kd ?ku ?hx ?hdx ?_; (case k1 => k_asm); (case k2 => k_asm); (case k3 => k_asm); (case k4 => k_asm); (case k5 => k_asm); (case kK => first | exact rfl | assumption); (case kd => ktr_room); (case ku => ktr_units); (case hx => k_mem); (case hdx => k_mem); k_whole; intro h9 tk9 F9 N9; (try dsimp only); (try k_sweep); (try k_fold))))
local macro_rules | `(tactic| walk_at "getAttr ref") => `(tactic| (k_here; (with_reducible show wpAny _ _ (getAttr (Value.ref _) (Str.ofString "variance") _) _ _ _); k_dflt (refine' nd_variance ?k1 ?k2 ?k3 ?k4 ?k5 ?kK ?kd ?ku ?hx ?hdx ?_; (case k1 => k_asm); (case k2 => k_asm); (case k3 => k_asm); (case k4 => k_asm); (case k5 => k_asm); (case kK => first | exact rfl | assumption); (case kd => ktr_room); (case ku => ktr_units); (case hx => k_mem); (case hdx => k_mem); k_whole; intro t9 h9 tk9 F9 N9; (try dsimp only); (try k_sweep); (try k_fold))))
local macro_rules | `(tactic| walk_at "binaryOp Mult int int") => `(tactic| (with_reducible refine mul_int ?_ (by first | exact Nm.ok_p (by assumption) (by assumption) (by assumption) (by assumption) (by assumption) (by assumption) (by assumption) | exact Nm.ok_s (by assumption) (by assumption) (by assumption) (by assumption) (by assumption) | mul_fits)))
local macro_rules | `(tactic| walk_at "getMethod float") => `(tactic| (refine getMethod_air ?_))
local macro_rules | `(tactic| walk_at "call builtin:float.as_integer_ratio") => `(tactic| (k_here; k_dflt (refine' call_air ?hf ?kF ?kN ?_; (case hf => assumption); (case kF => k_asm); (case kN => k_asm); k_whole); intro p9 d9 z9 tp9 td9 h9 tk9 hd9 hl9 hv9 F9 N9; (try dsimp only); (try k_fold)))
theorem news_tl {h₀ h : Heap} {L : Addr} {p : Addr × Obj} {news : List (Addr × Obj)} (N : News h₀ L h (p :: news)) : News h₀ L h news := fun q hq => N q (List.mem_cons_of_mem _ hq)
theorem fits_q {s : Shared} {c : Prop} {dc : Decidable c} {Q : Value → Shared → Prop} (hc : c) (h : Q (.bool true) s) : Q (.bool (@decide c dc)) s := by
  rw [decide_eq_true hc]; exact h
theorem fits_call {x dx : Addr} {μ σ : UInt64} {tp tq t1 t2 t3 : Tok} {n : Nat} {aa : Nat} {BB M mn sq pa : Int}
   (B : Below A₀ base outer h₀) (F : Fr h₀ L s.heap m) (X : (hd05.heap_39 w.params).In h₀) (N : News h₀ L s.heap news) (T : Top hd05.view_39 loose mean mg mb h₀) (hk : cs.kind = .function)
   (hd : dp + 30 < recursionLimit) (hu : un + 240 < cLine) (hx : (x, ndObj dx μ tp σ tq) ∈ news) (hdx : (dx, dictOf [] 0) ∈ news)
   (hN : Nm aa n BB M mn sq pa μ σ) (ha : aa ≤ 64) (hn : n ≤ 70) (hB : BB ≤ 2 ^ 450)
   (hret : ∀ h' tk', Fr h₀ L h' m → News h₀ L h' news → Q (.bool true) { s with heap := h', toks := tk' }) :
    wpAny (model PySem.Challenge.rw_oz0056_05.row.prog w) (ktrTop dp un gd cn cs L a ccd cl outer) (call (.ref 295) [.ref x, .int mn t1, .int sq t2, .int pa t3]) Q E s := by
  revert X; k_fill; intro X
  have hf9 := (hN.sp.var hn (hN.rg ha hB)).1
  have e9 := cmpI_eq hN.mu
  w_strict (k_steps; (all_goals (try first | exact fits_q (hN.fits ha hn hB (by assumption) (by assumption)) (hret _ _ (by assumption) (news_tl (by assumption))) | exact absurd e9 (by assumption))))

end
section
abbrev tupO (x : Addr) (mn sq pa : Int) (t1 t2 t3 : Tok) : Obj := { cls := .type "tuple", data := .seq [Value.ref x, .int mn t1, .int sq t2, .int pa t3].toArray }
/-- a ledger that holds another one, and no list's iterator besides -/
def Ext (news news' : List (Addr × Obj)) : Prop := (∀ p ∈ news, p ∈ news') ∧ ∀ p ∈ news', p ∈ news ∨ p.2.cls ≠ .type "list_iterator"
theorem Ext.refl {news : List (Addr × Obj)} : Ext news news := ⟨fun _ h => h, fun _ h => .inl h⟩
theorem Ext.cons {news news' : List (Addr × Obj)} {p : Addr × Obj} (hp : p.2.cls ≠ .type "list_iterator") (h : Ext news news') : Ext news (p :: news') :=
  ⟨fun q hq => List.mem_cons_of_mem _ (h.1 q hq), fun q hq => (List.mem_cons.mp hq).elim (fun e => .inr (e ▸ hp)) (h.2 q)⟩
theorem fitsM {n : Int} (h1 : -(2 ^ 60) ≤ n) (h2 : n ≤ 2 ^ 60) : n.natAbs < 2 ^ 1023 := Nat.lt_of_le_of_lt (show n.natAbs ≤ 2 ^ 60 by omega) (by decide +kernel)
theorem abs_nn {n : Int} : 0 ≤ (if n < 0 then -n else n) := by split <;> omega
theorem abs_fits {n : Int} (h1 : -(2 ^ 60) ≤ n) (h2 : n ≤ 2 ^ 60) : (if n < 0 then -n else n).natAbs < 2 ^ 1023 := fitsM (by split <;> omega) (by split <;> omega)
theorem D8.fits {d : Int} (h : D8 d) : d.natAbs < 2 ^ 1023 := fitsM (by have := h.le; omega) (by have := h.le; omega)
theorem pick1 {ini : List Value} {v : Value} : kms_pick (ini ++ [v]).toArray.toList none (some (-1)) = ini := by
  show kms_pick (ini ++ [v]) none (some (-1)) = ini
  unfold kms_pick kms_lo kms_hi
  simp
theorem pick2 {ini : List Value} {u v : Value} : kms_pick (ini ++ [u] ++ [v]).toArray.toList none (some (-2)) = ini := by
  show kms_pick (ini ++ [u] ++ [v]) none (some (-2)) = ini
  unfold kms_pick kms_lo kms_hi
  simp
theorem cat_eq {xs ys : List Value} : xs.toArray.toList ++ ys.toArray.toList = xs ++ ys := rfl
section
variable {prog : Program} {w : World} {A : Around} {E : Value → Shared → Prop} {s : Shared} {t : Tok}
theorem item_last {h₀ : Heap} {L a : Addr} {news : List (Addr × Obj)} {ini : List Value} {v : Value} {nn : Nat} {value slice : Expr} {Q : Value → Shared → Prop} (N : News h₀ L s.heap news) (hm : (a, listOf (ini ++ [v]).toArray nn) ∈ news)
    (h : Q v s) (hs : subscripted slice false (.ref a) (.int (-1) t) = operate [.ref a, .int (-1) t] (getItem (.ref a) (.int (-1) t)) := by with_unfolding_all rfl) (hg : ∀ r, letTemporaryGo value (.ref a) r = pure () := by intro _; with_unfolding_all rfl) :
    wpAny (model prog w) A (subscriptTail value slice (.ref a) (.int (-1) t)) Q E s := by
  have hl : s.heap.IsList a (ini ++ [v]).toArray := PySem.IsL.isList (n := nn) (N _ hm).1
  refine subscriptTail_builtin hl.typeIs slot_list_getitem.lookup (wpAny_getItem_list_neg hl (by decide) (by rw [List.size_toArray, List.length_append, List.length_singleton]; omega) (by decide) ?_ h) hs hg
  rw [List.size_toArray, List.length_append]
  have e : ((-1 + ((ini.length : Int) + 1)).toNat) = ini.length := by omega
  simp [e]
theorem item_last2 {h₀ : Heap} {L a : Addr} {news : List (Addr × Obj)} {ini : List Value} {u v : Value} {nn : Nat} {value slice : Expr} {Q : Value → Shared → Prop} (N : News h₀ L s.heap news) (hm : (a, listOf (ini ++ [u] ++ [v]).toArray nn) ∈ news)
    (h : Q u s) (hs : subscripted slice false (.ref a) (.int (-2) t) = operate [.ref a, .int (-2) t] (getItem (.ref a) (.int (-2) t)) := by with_unfolding_all rfl) (hg : ∀ r, letTemporaryGo value (.ref a) r = pure () := by intro _; with_unfolding_all rfl) :
    wpAny (model prog w) A (subscriptTail value slice (.ref a) (.int (-2) t)) Q E s := by
  have hl : s.heap.IsList a (ini ++ [u] ++ [v]).toArray := PySem.IsL.isList (n := nn) (N _ hm).1
  refine subscriptTail_builtin hl.typeIs slot_list_getitem.lookup (wpAny_getItem_list_neg hl (by decide) (by rw [List.size_toArray, List.length_append, List.length_append, List.length_singleton, List.length_singleton]; omega) (by decide) ?_ h) hs hg
  rw [List.size_toArray, List.length_append, List.length_append]
  simp
  have e : ((-2 + ((ini.length : Int) + 1 + 1)).toNat) = ini.length := by omega
  simp [e]
end
section
variable {prog : Program} {w : World} {M : Model} {A : Around} {E : Value → Shared → Prop} {s : Shared} {env : Env} {x : Str} {t : Tok} {Q : Unit → Shared → Prop}
theorem gst_k {n : Int} (h : ∀ k : Int, (-8 ≤ k ∧ k ≤ 8) → wpAny M A (storeName env x (.int k t)) Q E s) : wpAny M A (storeName env x (.int (Int.fmod n 17 - 8) t)) Q E s := by
  have h1 := Int.fmod_nonneg_of_pos n (b := 17) (by decide)
  have h2 := Int.fmod_lt_of_pos n (b := 17) (by decide)
  exact h _ (by omega)
theorem pow4 {n : Int} : ∃ e : Nat, e ≤ 3 ∧ (2 : Int) ^ (Int.fmod n 4).toNat = 2 ^ e := by
  have h1 := Int.fmod_nonneg_of_pos n (b := 4) (by decide)
  have h2 := Int.fmod_lt_of_pos n (b := 4) (by decide)
  exact ⟨(Int.fmod n 4).toNat, by omega, rfl⟩
theorem gst_d {n : Int} (h : ∀ d : Int, D8 d → (-8 ≤ d ∧ d ≤ 8) → wpAny M A (storeName env x (.int d t)) Q E s) : wpAny M A (storeName env x (.int (2 ^ (Int.fmod n 4).toNat) t)) Q E s := by
  obtain ⟨e, he, q⟩ := pow4 (n := n)
  rw [q]
  have d8 : D8 (2 ^ e) := by
    unfold D8
    rcases (show e = 0 ∨ e = 1 ∨ e = 2 ∨ e = 3 by omega) with r | r | r | r <;> (subst r; decide)
  exact h _ d8 d8.b
theorem gst_e {n : Int} (h : ∀ d : Int, D8 d → (-8 ≤ d ∧ d ≤ 8) → wpAny M A (storeName env x (.int d t)) Q E s) : wpAny M A (storeName env x (.int (-2 ^ (Int.fmod n 4).toNat) t)) Q E s := by
  obtain ⟨e, he, q⟩ := pow4 (n := n)
  rw [q]
  have d8 : D8 (-2 ^ e) := by
    unfold D8
    rcases (show e = 0 ∨ e = 1 ∨ e = 2 ∨ e = 3 by omega) with r | r | r | r <;> (subst r; decide)
  exact h _ d8 d8.b
end
theorem max_store {M : Model} {A : Around} {E : Value → Shared → Prop} {s : Shared} {env : Env} {x : Str} {t u : Tok} {a b : Int} {Q : Unit → Shared → Prop}
    (h : ∀ (k : Int) t', (k = b ∨ k = a) → b ≤ k → a ≤ k → wpAny M A (storeName env x (.int k t')) Q E s) : wpAny M A (storeName env x (.int (if a > b then a else b) (if a > b then t else u))) Q E s := by
  refine h _ _ ?_ ?_ ?_ <;> split <;> omega
theorem max_store2 {M : Model} {A : Around} {E : Value → Shared → Prop} {s : Shared} {env : Env} {x : Str} {t u : Tok} {a b : Int} {Q : Unit → Shared → Prop}
    (h : ∀ (k : Int) t', (k = b ∨ k = a) → b ≤ k → a ≤ k → wpAny M A (storeName env x (.int k t')) Q E s) : wpAny M A (storeName env x (if a > b then .int a t else .int b u)) Q E s := by
  split
  · exact h _ _ (.inr rfl) (by omega) (by omega)
  · exact h _ _ (.inl rfl) (by omega) (by omega)
theorem Nm.lg {a n : Nat} {B M mn sq pa : Int} {μ σ : UInt64} (h : Nm a n B M mn sq pa μ σ) (ha : a ≤ 64) : pa.natAbs.log2 < 9000 := by
  have b : pa.natAbs ≤ 2 ^ 384 := h.bpa ha
  have p := h.pa_pos
  refine (Nat.log2_lt (by omega)).mpr (Nat.lt_of_le_of_lt b (Nat.pow_lt_pow_right (by decide) (by decide)))
theorem Nm.okw {a n : Nat} {B C M N m1 s1 p1 m2 s2 p2 k : Int} {μ σ μ' σ' : UInt64} (h : Nm a n B M m1 s1 p1 μ σ) (ha : a ≤ 64) (hB : B ≤ 2 ^ 450) (hk : k = p1 ∨ k = p2) (g : Nm a n C N m2 s2 p2 μ' σ') : IntMulOk s1 (Int.fdiv k p1) := by
  have q1 := h.pa_pos
  have q2 := g.pa_pos
  have b1 := h.bpa ha
  have b2 := g.bpa ha
  have bk : Bt 384 k ∧ 0 < k := by rcases hk with e | e <;> (subst e; exact ⟨by assumption, by assumption⟩)
  refine (h.bsq ha hB).ok (k := 384) ?_ (by decide) (by decide)
  rw [Int.fdiv_eq_ediv_of_nonneg _ (Int.le_of_lt q1)]
  have l1 : k / p1 ≤ k := Int.ediv_le_self _ (Int.le_of_lt bk.2)
  have l2 : 0 ≤ k / p1 := Int.ediv_nonneg (Int.le_of_lt bk.2) (Int.le_of_lt q1)
  have b3 : k.natAbs ≤ 2 ^ 384 := bk.1
  show (k / p1).natAbs ≤ 2 ^ 384
  exact Nat.le_trans (by omega) b3
theorem ext_ok {o : Obj} {q : String} (h : o.cls = .type q) (hs : q ≠ "list_iterator") : o.cls ≠ .type "list_iterator" := by
  rw [h]; intro e; injection e with e; exact hs e
theorem ext_ok2 {o : Obj} {c : Addr} (h : o.cls = .ref c) : o.cls ≠ .type "list_iterator" := by
  rw [h]; intro e; cases e
section
variable {prog : Program} {w : World} {A : Around} {E : Value → Shared → Prop} {s : Shared}
theorem len_pile {h₀ : Heap} {L a : Addr} {news : List (Addr × Obj)} {ini : List Value} {u v : Value} {nn : Nat} {Q : Value → Shared → Prop} (N : News h₀ L s.heap news) (hm : (a, listOf (ini ++ [u] ++ [v]).toArray nn) ∈ news)
    (hlen : ini.length ≤ 100) (h : ∀ (n : Int) t, 2 ≤ n → Q (.int n t) { s with toks := s.toks + 1 + 1 }) : wpAny (model prog w) A (call (.builtin "len") [.ref a]) Q E s := by
  refine call_len_list (PySem.IsL.isList (n := nn) (N _ hm).1) ?_ (h _ _ ?_)
  · rw [List.size_toArray, List.length_append, List.length_append, List.length_singleton, List.length_singleton]; omega
  · rw [List.size_toArray, List.length_append, List.length_append, List.length_singleton, List.length_singleton]; omega
end
section
variable {prog : Program} {w : World} {A : Around} {E : Value → Shared → Prop} {s : Shared}
theorem len_one {h₀ : Heap} {L a : Addr} {news : List (Addr × Obj)} {ini : List Value} {v : Value} {nn : Nat} {Q : Value → Shared → Prop} (N : News h₀ L s.heap news) (hm : (a, listOf (ini ++ [v]).toArray nn) ∈ news)
    (h0 : ini.length = 0) (h : ∀ (n : Int) t, n = 1 → Q (.int n t) { s with toks := s.toks + 1 + 1 }) : wpAny (model prog w) A (call (.builtin "len") [.ref a]) Q E s := by
  refine call_len_list (PySem.IsL.isList (n := nn) (N _ hm).1) ?_ (h _ _ ?_)
  · rw [List.size_toArray, List.length_append, List.length_singleton]; omega
  · rw [List.size_toArray, List.length_append, List.length_singleton]; omega
end
variable {w : World} {mean : ExcName → Option Value} {mg mb : Str → Option Value} {dp un : Nat} {gd : Option (List Code)} {cn : Str} {cs : Scope} {a : Addr} {ccd : Value} {cl : List (Str × Addr)} {outer : List Env} {A₀ : Around} {base h₀ : Heap} {L : Addr} {m : Str → Option Value} {news : List (Addr × Obj)} {s : Shared} {Q E : Value → Shared → Prop}

local macro_rules | `(tactic| walk_at "storeName") => `(tactic| ((with_reducible show wpAny _ _ (storeName _ _ (Value.int (Int.fmod _ 17 - 8) _)) _ _ _); (refine gst_k ?_); intro k9 hk9))
local macro_rules | `(tactic| walk_at "storeName") => `(tactic| ((with_reducible show wpAny _ _ (storeName _ _ (Value.int (2 ^ Int.toNat _) _)) _ _ _); (refine gst_d ?_); intro d9 hd9 hb9))
local macro_rules | `(tactic| walk_at "storeName") => `(tactic| ((with_reducible show wpAny _ _ (storeName _ _ (Value.int (-2 ^ Int.toNat _) _)) _ _ _); (refine gst_e ?_); intro d9 hd9 hb9))
local macro_rules | `(tactic| walk_at "binaryOp Mod int int") => `(tactic| (with_reducible refine mod_int' (D8.ne (by assumption)) ?_))
local macro_rules | `(tactic| walk_at "binaryOp FloorDiv int int") => `(tactic| (first | (with_reducible refine floordiv_int (D8.ne (by assumption)) ?_) | (with_reducible refine floordiv_int (Int.ne_of_gt (Nm.pa_pos (by assumption))) ?_ (Or.inl (PyProof.noPylong_of_log2 (Nm.lg (by assumption) (by omega)))))))
local macro_rules | `(tactic| walk_at "storeName") => `(tactic| ((with_reducible show wpAny _ _ (storeName _ _ (Value.int (@ite _ _ _ _ _) (@ite _ _ _ _ _))) _ _ _); (refine max_store ?_); intro w9 t9 hw9 hv9 hu9))
local macro_rules | `(tactic| walk_at "storeName") => `(tactic| ((with_reducible show wpAny _ _ (storeName _ _ (@ite _ _ _ _ _)) _ _ _); (refine max_store2 ?_); intro w9 t9 hw9 hv9 hu9))
local macro_rules | `(tactic| walk_at "call builtin:len") => `(tactic| (k_here; k_dflt (refine' len_one ?kN ?km ?kl ?_; (case kN => k_asm); (case km => k_mem); (case kl => assumption); k_whole); intro n9 t9 hn9))
local macro_rules | `(tactic| walk_at "call builtin:len") => `(tactic| (k_here; k_dflt (refine' len_pile ?kN ?km ?kl ?_; (case kN => k_asm); (case km => k_mem); (case kl => assumption); k_whole); intro n9 t9 hn9))
local macro_rules | `(tactic| k_mem) => `(tactic| first | with_reducible assumption | with_reducible exact List.mem_cons_self | (with_reducible refine List.mem_cons_of_mem _ ?_; k_mem))
local macro_rules | `(tactic| walk_at "binaryOp Mult int int") => `(tactic| (with_reducible refine mul_int ?_ (by first | exact IntMulOk.of_right (intBits_le_64 (by omega) (by omega)) | exact IntMulOk.of_left (intBits_le_64 (by omega) (by omega)) | exact Nm.okw (by assumption) (by omega) (by assumption) (by assumption) (by assumption) | exact Nm.okw (by assumption) (by omega) (by assumption) (Or.symm (by assumption)) (by assumption) | mul_fits)))
local macro_rules | `(tactic| walk_at "call ref") => `(tactic| (k_here; (with_reducible show wpAny _ _ (PySem.call (Value.ref 270) [Value.int _ _, Value.int _ _]) _ _ _); k_dflt (refine' nd_new_ii ?k1 ?k2 ?k3 ?k4 ?k5 ?kK ?kd ?ku ?hn ?hk0 ?hkf ?hs ?_; (case k1 => k_asm); (case k2 => k_asm); (case k3 => k_asm); (case k4 => k_asm); (case k5 => k_asm); (case kK => first | exact rfl | assumption); (case kd => ktr_room); (case ku => ktr_units); (case hn => exact fitsM (by omega) (by omega)); (case hk0 => exact abs_nn); (case hkf => exact abs_fits (by omega) (by omega)); (case hs => exact cmpInt_nn abs_nn); k_whole; intro z9 dx9 tx9 ty9 h9 tk9 F9 N9; (try dsimp only); (try k_sweep); (try k_fold))))
local macro_rules | `(tactic| walk_at "call ref") => `(tactic| (k_here; (with_reducible show wpAny _ _ (PySem.call (Value.ref 281) [Value.int _ _, Value.int _ _]) _ _ _); k_dflt (refine' ls_call ?k1 ?k2 ?k3 ?k4 ?k5 ?kK ?kd ?ku ?hr ?hr2 ?_; (case k1 => k_asm); (case k2 => k_asm); (case k3 => k_asm); (case k4 => k_asm); (case k5 => k_asm); (case kK => first | exact rfl | assumption); (case kd => ktr_room); (case ku => ktr_units); (case hr => decide); (case hr2 => decide); k_whole; intro l9 t9 h9 tk9 hl9 F9 N9; (try simp only [Int.reduceToNat] at hl9); (try dsimp only); (try k_sweep); (try k_fold))))
local macro_rules | `(tactic| walk_at "binaryOp Mult ref") => `(tactic| (k_here; (with_reducible show wpAny _ _ (binaryOp _ (Value.ref _) (Value.int _ _)) _ _ _); k_dflt (refine' nd_mul ?k1 ?k2 ?k3 ?k4 ?k5 ?kK ?kd ?ku ?hx ?hdx ?hn ?hs ?_; (case k1 => k_asm); (case k2 => k_asm); (case k3 => k_asm); (case k4 => k_asm); (case k5 => k_asm); (case kK => first | exact rfl | assumption); (case kd => ktr_room); (case ku => ktr_units); (case hx => k_mem); (case hdx => k_mem); (case hn => exact fitsM (by omega) (by omega)); (case hs => exact (Nm.mulk (by assumption) (by omega) (by omega) (by assumption) (by omega) (by omega) (by decide) rfl rfl (by omega)).nn); k_whole; intro z9 dx9 tx9 ty9 h9 tk9 F9 N9; (try dsimp only); (try k_sweep); (try k_fold))))
local macro_rules | `(tactic| walk_at "binaryOp Mult int ref") => `(tactic| (k_here; (with_reducible show wpAny _ _ (binaryOp _ (Value.int _ _) (Value.ref _)) _ _ _); k_dflt (refine' nd_rmul ?k1 ?k2 ?k3 ?k4 ?k5 ?kK ?kd ?ku ?hx ?hdx ?hn ?hs ?_; (case k1 => k_asm); (case k2 => k_asm); (case k3 => k_asm); (case k4 => k_asm); (case k5 => k_asm); (case kK => first | exact rfl | assumption); (case kd => ktr_room); (case ku => ktr_units); (case hx => k_mem); (case hdx => k_mem); (case hn => exact fitsM (by omega) (by omega)); (case hs => exact (Nm.mulk (by assumption) (by omega) (by omega) (by assumption) (by omega) (by omega) (by decide) rfl rfl (by omega)).nn); k_whole; intro z9 dx9 tx9 ty9 h9 tk9 F9 N9; (try dsimp only); (try k_sweep); (try k_fold))))
local macro_rules | `(tactic| walk_at "binaryOp Div ref") => `(tactic| (k_here; (with_reducible show wpAny _ _ (binaryOp _ (Value.ref _) (Value.int _ _)) _ _ _); k_dflt (refine' nd_div ?k1 ?k2 ?k3 ?k4 ?k5 ?kK ?kd ?ku ?hx ?hdx ?hn ?hn0 ?hi ?hz ?hz2 ?hs ?_; (case k1 => k_asm); (case k2 => k_asm); (case k3 => k_asm); (case k4 => k_asm); (case k5 => k_asm); (case kK => first | exact rfl | assumption); (case kd => ktr_room); (case ku => ktr_units); (case hx => k_mem); (case hdx => k_mem); (case hn => exact D8.fits (by assumption)); (case hn0 => exact D8.ne (by assumption)); (case hi => exact D8.d1 (by assumption)); (case hz => exact (D8.d2 (by assumption)).1); (case hz2 => exact (D8.d2 (by assumption)).2); (case hs => exact (Nm.divd (by assumption) (by omega) (by omega) (by assumption) (by omega) (by assumption) (by decide) (by assumption) rfl rfl).nn); k_whole; intro z9 dx9 tx9 ty9 h9 tk9 F9 N9; (try dsimp only); (try k_sweep); (try k_fold))))
local macro_rules | `(tactic| walk_at "binaryOp Add") => `(tactic| (k_here; (with_reducible show wpAny _ _ (binaryOp Operator.Add (Value.ref _) (Value.ref _)) _ _ _); k_dflt (refine' nd_add ?k1 ?k2 ?k3 ?k4 ?k5 ?kK ?kd ?ku ?hx ?hdx ?hy ?hdy ?hs ?_; (case k1 => k_asm); (case k2 => k_asm); (case k3 => k_asm); (case k4 => k_asm); (case k5 => k_asm); (case kK => first | exact rfl | assumption); (case kd => ktr_room); (case ku => ktr_units); (case hx => k_mem); (case hdx => k_mem); (case hy => k_mem); (case hdy => k_mem); (case hs => exact nn_hyp2 (by assumption) (by assumption) (by omega) (by omega) (by omega) (by omega) (by assumption) (by assumption)); k_whole; intro z9 dx9 tx9 ty9 h9 tk9 F9 N9; (try dsimp only); (try k_sweep); (try k_fold))))
local macro_rules | `(tactic| walk_at "binaryOp Sub") => `(tactic| (k_here; (with_reducible show wpAny _ _ (binaryOp Operator.Sub (Value.ref _) (Value.ref _)) _ _ _); k_dflt (refine' nd_sub ?k1 ?k2 ?k3 ?k4 ?k5 ?kK ?kd ?ku ?hx ?hdx ?hy ?hdy ?hs ?_; (case k1 => k_asm); (case k2 => k_asm); (case k3 => k_asm); (case k4 => k_asm); (case k5 => k_asm); (case kK => first | exact rfl | assumption); (case kd => ktr_room); (case ku => ktr_units); (case hx => k_mem); (case hdx => k_mem); (case hy => k_mem); (case hdy => k_mem); (case hs => exact nn_hyp2 (by assumption) (by assumption) (by omega) (by omega) (by omega) (by omega) (by assumption) (by assumption)); k_whole; intro z9 dx9 tx9 ty9 h9 tk9 F9 N9; (try dsimp only); (try k_sweep); (try k_fold))))
local macro_rules | `(tactic| walk_at "binaryOp Sub int ref") => `(tactic| (k_here; (with_reducible show wpAny _ _ (binaryOp _ (Value.int _ _) (Value.ref _)) _ _ _); k_dflt (refine' nd_rsub ?k1 ?k2 ?k3 ?k4 ?k5 ?kK ?kd ?ku ?hx ?hdx ?hn ?hs ?_; (case k1 => k_asm); (case k2 => k_asm); (case k3 => k_asm); (case k4 => k_asm); (case k5 => k_asm); (case kK => first | exact rfl | assumption); (case kd => ktr_room); (case ku => ktr_units); (case hx => k_mem); (case hdx => k_mem); (case hn => exact fitsM (by omega) (by omega)); (case hs => exact Nm.nn (by assumption)); k_whole; intro z9 dx9 tx9 ty9 h9 tk9 F9 N9; (try dsimp only); (try k_sweep); (try k_fold))))
local macro_rules | `(tactic| walk_at "unaryOp USub") => `(tactic| (k_here; (with_reducible show wpAny _ _ (unaryOp _ (Value.ref _)) _ _ _); k_dflt (refine' nd_neg ?k1 ?k2 ?k3 ?k4 ?k5 ?kK ?kd ?ku ?hx ?hdx ?hs ?_; (case k1 => k_asm); (case k2 => k_asm); (case k3 => k_asm); (case k4 => k_asm); (case k5 => k_asm); (case kK => first | exact rfl | assumption); (case kd => ktr_room); (case ku => ktr_units); (case hx => k_mem); (case hdx => k_mem); (case hs => exact Nm.nn (by assumption)); k_whole; intro z9 dx9 tx9 ty9 h9 tk9 F9 N9; (try dsimp only); (try k_sweep); (try k_fold))))
local macro_rules | `(tactic| walk_at "subscriptTail") => `(tactic| (k_here; (with_reducible show wpAny _ _ (subscriptTail _ _ (Value.ref _) (Value.int (-1) _)) _ _ _); k_dflt (with_unfolding_all refine' item_last ?kN ?km ?_; (case kN => k_asm); (case km => k_mem); k_whole)))
local macro_rules | `(tactic| walk_at "subscriptTail") => `(tactic| (k_here; (with_reducible show wpAny _ _ (subscriptTail _ _ (Value.ref _) (Value.int (-2) _)) _ _ _); k_dflt (with_unfolding_all refine' item_last2 ?kN ?km ?_; (case kN => k_asm); (case km => k_mem); k_whole)))
local macro_rules | `(tactic| walk_at "subscriptTail Name Slice ref ref") => `(tactic| (k_here; (with_reducible show wpAny _ _ (subscriptTail _ (PySem.Expr.Slice _ _ none _) (Value.ref _) (Value.ref _)) _ _ _); k_dflt (refine' kms_slice_lit ?F ?N ?l ?p ?q ?e ?_ ?s ?t ?z; (case F => k_asm); (case N => k_asm); (case l => exact News.isList (by k_asm) (by k_mem)); (case p => kmk_part); (case q => kmk_part); (case e => first | exact pick1 | exact pick2); (case s => with_unfolding_all rfl); (case t => kmk_pure); (case z => (first | (rw [List.size_toArray, List.length_append, List.length_append]; simp only [sizeLine_eq, List.length_cons, List.length_nil]; omega) | (rw [List.size_toArray, List.length_append]; simp only [sizeLine_eq, List.length_cons, List.length_nil]; omega) | (simp only [sizeLine_eq, List.length_append, List.length_cons, List.length_nil]; omega)))); intro D' h' F' N' l1; (try k_lt l1); (try k_sweep)))
local macro_rules | `(tactic| walk_at "binaryOp Add ref ref") => `(tactic| (k_here; (with_reducible show wpAny _ _ (binaryOp _ (Value.ref _) (Value.ref _)) _ _ _); k_dflt (refine' kmk_add_lit ?F ?N ?a ?b ?e ?_ ?z; (case F => k_asm); (case N => k_asm); (case a => exact News.isList (by k_asm) (by k_mem)); (case b => exact News.isList (by k_asm) (by k_mem)); (case e => exact cat_eq); (case z => (first | (rw [List.size_toArray, List.length_append, List.length_append]; simp only [sizeLine_eq, List.length_cons, List.length_nil]; omega) | (rw [List.size_toArray, List.length_append]; simp only [sizeLine_eq, List.length_cons, List.length_nil]; omega) | (simp only [sizeLine_eq, List.length_append, List.length_cons, List.length_nil]; omega)))); intro D' h' F' N' l1; (try k_lt l1); (try k_sweep)))
local macro_rules | `(tactic| walk_at "assign Tuple") => `(tactic| (k_here; (with_reducible show wpAny _ _ (assign (Expr.Tuple _ _ _) _ (Value.ref _)) _ _ _); (k_dflt (refine' unpackN_ ?F ?N ?T ?k1 ?k2 ?k3 ?_; (case F => k_asm); (case N => k_asm); (case T => refine News.isTup (by k_asm) (by k_mem)); (case k1 => exact rfl); (case k2 => exact rfl); (case k3 => exact rfl); k_whole)); intro h' F' N'; (try k_sweep)))
theorem step2 {pl tp x dx tp2 x2 dx2 : Addr} {nn : Nat} {ini : List Value} {i D : Nat} {BB xx mn sq pa low be bp : Int} {t0 t1 t2 t3 u1 u2 u3 ta tb tc td : Tok} {μ σ μ2 σ2 : UInt64}
   (B : Below A₀ base outer h₀) (F : Fr h₀ L s.heap m) (X : (hd05.heap_39 w.params).In h₀) (N : News h₀ L s.heap news) (T : Top hd05.view_39 loose mean mg mb h₀) (hk : cs.kind = .function)
   (hd : dp + 90 < recursionLimit) (hu : un + 700 < cLine) (hl : (pl, listOf (ini ++ [Value.ref tp2] ++ [Value.ref tp]).toArray nn) ∈ news)
   (ht : (tp, tupO x mn sq pa t1 t2 t3) ∈ news) (hx : (x, ndObj dx μ ta σ tb) ∈ news) (hdx : (dx, dictOf [] 0) ∈ news) (hN : Nm i D BB (2 ^ 46) mn sq pa μ σ)
   (ht2 : (tp2, tupO x2 low be bp u1 u2 u3) ∈ news) (hx2 : (x2, ndObj dx2 μ2 tc σ2 td) ∈ news) (hdx2 : (dx2, dictOf [] 0) ∈ news) (hN2 : Nm i D BB (2 ^ 46) low be bp μ2 σ2)
   (hi : i ≤ 63) (hD : D ≤ 64) (hB0 : 2 ^ 42 ≤ BB) (hB : BB ≤ 2 ^ 450) (hlen : ini.length ≤ 100)
   (hret : ∀ l' nn' ini' z dz μ' σ' tpp tqq t' v1 v2 v3 mn' sq' pa' D' news' h' tk', Fr h₀ L h' m → News h₀ L h' news' → Ext news news' → (l', listOf (ini' ++ [Value.ref t']).toArray nn') ∈ news' → (t', tupO z mn' sq' pa' v1 v2 v3) ∈ news' → (z, ndObj dz μ' tpp σ' tqq) ∈ news' → (dz, dictOf [] 0) ∈ news' →
     ((ini' = ini ++ [Value.ref tp2] ++ [Value.ref tp] ∧ D' = D) ∨ (ini' = ini ++ [Value.ref tp2] ∧ D' = D + 1) ∨ (ini' = ini ∧ D' = D + 1)) → Nm (i + 1) D' (64 * BB) (2 ^ 50) mn' sq' pa' μ' σ' → Q (.ref l') { s with heap := h', toks := tk' }) :
    wpAny (model PySem.Challenge.rw_oz0056_05.row.prog w) (ktrTop dp un gd cn cs L a ccd cl outer) (call (.ref 288) [.ref pl, .int xx t0]) Q E s := by
  have m1 := hN.m1
  have m2 := hN.m2
  have m3 := hN2.m1
  have m4 := hN2.m2
  revert X; k_fill; intro X
  w_strict (k_steps; (all_goals (try (first | (exfalso; omega) | ((exact hret _ _ _ _ _ _ _ _ _ _ _ _ _ _ _ _ _ _ _ _ (by assumption) (by assumption) (by (repeat (first | exact Ext.refl | refine Ext.cons (ext_ok rfl (by decide)) ?_ | refine Ext.cons (ext_ok2 rfl) ?_))) (by k_mem) (by k_mem) (by k_mem) (by k_mem) (by first | exact .inl ⟨rfl, rfl⟩ | exact .inr (.inl ⟨rfl, rfl⟩) | exact .inr (.inr ⟨rfl, rfl⟩)) (by (first | exact (Nm.lay (by omega) (by omega) rfl).mono (by omega) (by omega) (by omega) (by decide) | exact Nm.mono (by assumption) (by omega) (by omega) (by omega) (by decide) | exact (Nm.mulk (by assumption) (by omega) (by omega) (by assumption) (by omega) (by omega) (by decide) rfl rfl (by omega)).mono (by omega) (by omega) (by omega) (by decide) | exact (Nm.neg (by assumption)).mono (by omega) (by omega) (by omega) (by decide) | exact (Nm.rsub (N := 2 ^ 40) (by assumption) (by omega) (by omega) (by decide) rfl (by decide)).mono (by omega) (by omega) (by omega) (by decide) | exact (Nm.divd (by assumption) (by omega) (by omega) (by assumption) (by omega) (by assumption) (by decide) (by assumption) rfl rfl).mono (by omega) (by omega) (by omega) (by decide) | exact (Nm.add (by assumption) (by assumption) (by omega) (by omega) (by assumption) (by assumption) (by decide) (by assumption) (by assumption) (by assumption) (by omega)).mono (by omega) (by omega) (by omega) (by decide) | exact (Nm.sub (by assumption) (by assumption) (by omega) (by omega) (by assumption) (by assumption) (by decide) (by assumption) (by assumption) (by assumption) (by omega)).mono (by omega) (by omega) (by omega) (by decide)))))))))
  
theorem step1 {pl tp x dx : Addr} {nn : Nat} {ini : List Value} {i D : Nat} {BB xx mn sq pa : Int} {t0 t1 t2 t3 ta tb : Tok} {μ σ : UInt64}
   (B : Below A₀ base outer h₀) (F : Fr h₀ L s.heap m) (X : (hd05.heap_39 w.params).In h₀) (N : News h₀ L s.heap news) (T : Top hd05.view_39 loose mean mg mb h₀) (hk : cs.kind = .function)
   (hd : dp + 90 < recursionLimit) (hu : un + 700 < cLine) (hl : (pl, listOf (ini ++ [Value.ref tp]).toArray nn) ∈ news)
   (ht : (tp, tupO x mn sq pa t1 t2 t3) ∈ news) (hx : (x, ndObj dx μ ta σ tb) ∈ news) (hdx : (dx, dictOf [] 0) ∈ news) (hN : Nm i D BB (2 ^ 46) mn sq pa μ σ)
   (hi : i ≤ 63) (hD : D ≤ 64) (hB0 : 2 ^ 42 ≤ BB) (hB : BB ≤ 2 ^ 450) (h0 : ini.length = 0)
   (hret : ∀ l' nn' ini' z dz μ' σ' tpp tqq t' v1 v2 v3 mn' sq' pa' D' news' h' tk', Fr h₀ L h' m → News h₀ L h' news' → Ext news news' → (l', listOf (ini' ++ [Value.ref t']).toArray nn') ∈ news' → (t', tupO z mn' sq' pa' v1 v2 v3) ∈ news' → (z, ndObj dz μ' tpp σ' tqq) ∈ news' → (dz, dictOf [] 0) ∈ news' →
     ((ini' = ini ++ [Value.ref tp] ∧ D' = D) ∨ (ini' = ini ∧ D' = D + 1)) → Nm (i + 1) D' (64 * BB) (2 ^ 50) mn' sq' pa' μ' σ' → Q (.ref l') { s with heap := h', toks := tk' }) :
    wpAny (model PySem.Challenge.rw_oz0056_05.row.prog w) (ktrTop dp un gd cn cs L a ccd cl outer) (call (.ref 288) [.ref pl, .int xx t0]) Q E s := by
  have m1 := hN.m1
  have m2 := hN.m2
  revert X; k_fill; intro X
  w_strict (k_steps; (all_goals (try (first | (exfalso; omega) | ((exact hret _ _ _ _ _ _ _ _ _ _ _ _ _ _ _ _ _ _ _ _ (by assumption) (by assumption) (by (repeat (first | exact Ext.refl | refine Ext.cons (ext_ok rfl (by decide)) ?_ | refine Ext.cons (ext_ok2 rfl) ?_))) (by k_mem) (by k_mem) (by k_mem) (by k_mem) (by first | exact .inl ⟨rfl, rfl⟩ | exact .inr ⟨rfl, rfl⟩) (by (first | exact (Nm.lay (by omega) (by omega) rfl).mono (by omega) (by omega) (by omega) (by decide) | exact Nm.mono (by assumption) (by omega) (by omega) (by omega) (by decide) | exact (Nm.mulk (by assumption) (by omega) (by omega) (by assumption) (by omega) (by omega) (by decide) rfl rfl (by omega)).mono (by omega) (by omega) (by omega) (by decide) | exact (Nm.neg (by assumption)).mono (by omega) (by omega) (by omega) (by decide) | exact (Nm.rsub (N := 2 ^ 40) (by assumption) (by omega) (by omega) (by decide) rfl (by decide)).mono (by omega) (by omega) (by omega) (by decide) | exact (Nm.divd (by assumption) (by omega) (by omega) (by assumption) (by omega) (by assumption) (by decide) (by assumption) rfl rfl).mono (by omega) (by omega) (by omega) (by decide) | exact (Nm.add (by assumption) (by assumption) (by omega) (by omega) (by assumption) (by assumption) (by decide) (by assumption) (by assumption) (by assumption) (by omega)).mono (by omega) (by omega) (by omega) (by decide) | exact (Nm.sub (by assumption) (by assumption) (by omega) (by omega) (by assumption) (by assumption) (by decide) (by assumption) (by assumption) (by assumption) (by omega)).mono (by omega) (by omega) (by omega) (by decide)))))))))
  

end
end Mine
end
section
open PySem PySem.W PyProof.Rows PySem.Calls
namespace Mine
section
variable {prog : Program} {w : World} {A : Around} {E : Value → Shared → Prop} {s : Shared} {env : Env} {h₀ : Heap} {target : Expr} {body : List Stmt} {Q : Flow → Shared → Prop}

/-- no list's iterator stands in the ledger, but what stood there ahead -/
def Clean (news nx : List (Addr × Obj)) : Prop := ∀ p ∈ nx, p ∈ news ∨ p.2.cls ≠ .type "list_iterator"
/-- a turn's end: the ledger may grow -/
def TNext (h₀ : Heap) (L : Addr) (J : (Str → Option Value) → List (Addr × Obj) → Prop) (own : List (Addr × Obj)) (s₁ s₂ : Shared) : Prop :=
  ∃ h' tk m' nx, s₂ = { s₁ with heap := h', toks := tk } ∧ Fr h₀ L h' m' ∧ News h₀ L h' (own ++ nx) ∧ J m' nx
def TEnd (h₀ : Heap) (L : Addr) (J : (Str → Option Value) → List (Addr × Obj) → Prop) (own : List (Addr × Obj)) (s₁ : Shared) (Q : Flow → Shared → Prop) (f : Flow) (s₂ : Shared) : Prop :=
  match f with
  | .ret v => Q (.ret v) s₂
  | .brk => Q .next s₂
  | _ => TNext h₀ L J own s₁ s₂

theorem iter_grow {l : Addr} {vs : List Value} {nn : Nat} {m₀ : Str → Option Value} {news : List (Addr × Obj)} (J : Nat → (Str → Option Value) → List (Addr × Obj) → Prop)
    (hh : A.handled = none) (hJ : ∀ i m nx, J i m nx → Clean news nx ∧ (l, listOf vs.toArray nn) ∈ nx) (F : Fr h₀ env.locals s.heap m₀) (N : News h₀ env.locals s.heap news) (h0 : J 0 m₀ news)
    (turn : ∀ i v m₁ nx h tk own, vs[i]? = some v → J i m₁ nx → Fr h₀ env.locals h m₁ → News h₀ env.locals h (own ++ nx) →
      wpAny (model prog w) A (assign target env v) (fun _ s₃ => wpAny (model prog w) A (execs body env) (TEnd h₀ env.locals (J (i + 1)) own { s with heap := h, toks := tk } Q) E s₃) E { s with heap := h, toks := tk })
    (done : ∀ m₁ nx h tk, J vs.length m₁ nx → Fr h₀ env.locals h m₁ → News h₀ env.locals h nx → Q .next { s with heap := h, toks := tk }) :
    wpAny (model prog w) A (pyIter (.ref l)) (fun it s₂ => TurnsAt prog w A h₀ env target body Q E it s₂) E s := by
  obtain ⟨hclean, hm⟩ := hJ _ _ _ h0
  have hol : s.heap.get? l = some (listOf vs.toArray nn) := (N _ hm).1
  have hls : s.heap.IsList l vs.toArray := ⟨_, hol, rfl, nn, rfl⟩
  have hne : l ≠ s.heap.objs.size := Nat.ne_of_lt (Heap.lt_size hol)
  refine wpAny_pyIter_list hls ?_
  have W := KTurns.ofWalks (target := target) (Walks.list (prog := prog) (w := w) hh s.heap.objs.size l hne vs.toArray) fun i v s Q E st q => letGo_listiter st.1 q
  refine ⟨_, _, _, vs.toArray.size, _, _, _, m₀, news, J, rfl, W, ?_, ?_, ?_, ⟨⟨_, Heap.get?_push_size _ rfl, rfl, rfl⟩, hls.at fun o e => Heap.get?_push_of_some _ e⟩, F.push _, (fun p hp => ⟨Heap.get?_push_of_some _ (N p hp).1, (N p hp).2⟩), h0, ?_, ?_⟩
  · intro hI
    rcases List.mem_cons.mp hI with e | hI
    · exact absurd F.ns.lt (e ▸ Nat.lt_irrefl _)
    · exact (N _ hm).2.1 ((List.mem_singleton.mp hI).symm)
  · intro b hb
    rw [List.mem_singleton.mp hb]
    exact next_is_new F
  · intro p hp hI
    exact absurd (Heap.lt_size (N p hp).1) ((List.mem_singleton.mp hI) ▸ Nat.lt_irrefl _)
  · intro i v m₁ news₁ h₁ tk₁ own hin hP hJ₁ hoff hown hget hfp hst F₁ N₁
    have hv : vs[i]? = some v := by simpa using hP
    refine wpAny_mono (turn i v m₁ news₁ h₁ tk₁ own hv hJ₁ F₁ N₁) (fun _ s₃ x => wpAny_mono x (fun f s₄ y => ?_) fun _ _ e => e) fun _ _ e => e
    obtain ⟨it, hit, hic, _⟩ := hst.1
    have hio : (s.heap.objs.size, it) ∈ own := hfp _ (List.mem_cons_self ..) (next_is_new F) it hit
    have fin : TNext h₀ env.locals (J (i + 1)) own { s with heap := h₁, toks := tk₁ } s₄ → LoopStepU h₀ env.locals [s.heap.objs.size] own (J (i + 1)) { s with heap := h₁, toks := tk₁ } .next s₄ := by
      rintro ⟨h', tk, m', nx, e, F', N', hj⟩
      refine ⟨rfl, h', tk, m', nx, e, F', N', fun p hp hI => ?_, hj⟩
      have h1 := (N' p (List.mem_append.mpr (.inr hp))).1
      have h2 := (N' _ (List.mem_append.mpr (.inl hio))).1
      rw [List.mem_singleton.mp hI, h2] at h1
      rcases (hJ _ _ _ hj).1 p hp with h3 | h3
      · exact absurd (Heap.lt_size (N p h3).1) ((List.mem_singleton.mp hI) ▸ Nat.lt_irrefl _)
      · rw [← Option.some.inj h1] at h3
        exact h3 hic
    cases f with
    | ret v => exact y
    | brk => exact y
    | next => exact fin y
    | cont => exact fin y
  · intro h' tk m' news' F' N' _ hj
    have e : vs.toArray.size = vs.length := List.size_toArray ..
    rw [e] at hj
    exact done m' news' h' tk hj F' N'

/-- the same for a name as the loop's target -/
theorem iter_growV {x : Str} {l : Addr} {vs : List Value} {nn : Nat} {m₀ : Str → Option Value} {news : List (Addr × Obj)} (J : Nat → (Str → Option Value) → List (Addr × Obj) → Prop)
    (hh : A.handled = none) (hJ : ∀ i m nx, J i m nx → Clean news nx ∧ (l, listOf vs.toArray nn) ∈ nx) (F : Fr h₀ env.locals s.heap m₀) (N : News h₀ env.locals s.heap news) (h0 : J 0 m₀ news)
    (turn : ∀ i v m₁ nx h tk own, vs[i]? = some v → J i m₁ nx → Fr h₀ env.locals h (fun y => if y = x then some v else m₁ y) → News h₀ env.locals h (own ++ nx) →
      wpAny (model prog w) A (execs body env) (TEnd h₀ env.locals (J (i + 1)) own { s with heap := h, toks := tk } Q) E { s with heap := h, toks := tk })
    (done : ∀ m₁ nx h tk, J vs.length m₁ nx → Fr h₀ env.locals h m₁ → News h₀ env.locals h nx → Q .next { s with heap := h, toks := tk }) :
    wpAny (model prog w) A (pyIter (.ref l)) (fun it s₂ => LoopAtV prog w A h₀ env x body Q E it s₂) E s := by
  obtain ⟨hclean, hm⟩ := hJ _ _ _ h0
  have hol : s.heap.get? l = some (listOf vs.toArray nn) := (N _ hm).1
  have hls : s.heap.IsList l vs.toArray := ⟨_, hol, rfl, nn, rfl⟩
  have hne : l ≠ s.heap.objs.size := Nat.ne_of_lt (Heap.lt_size hol)
  refine wpAny_pyIter_list hls ?_
  have W := Walks.list (prog := prog) (w := w) hh s.heap.objs.size l hne vs.toArray
  refine ⟨_, _, _, vs.toArray.size, _, _, m₀, news, J, rfl, W, ?_, ?_, ?_, ⟨⟨_, Heap.get?_push_size _ rfl, rfl, rfl⟩, hls.at fun o e => Heap.get?_push_of_some _ e⟩, F.push _, (fun p hp => ⟨Heap.get?_push_of_some _ (N p hp).1, (N p hp).2⟩), h0, ?_, ?_⟩
  · intro hI
    rcases List.mem_cons.mp hI with e | hI
    · exact absurd F.ns.lt (e ▸ Nat.lt_irrefl _)
    · exact (N _ hm).2.1 ((List.mem_singleton.mp hI).symm)
  · intro b hb
    rw [List.mem_singleton.mp hb]
    exact next_is_new F
  · intro p hp hI
    exact absurd (Heap.lt_size (N p hp).1) ((List.mem_singleton.mp hI) ▸ Nat.lt_irrefl _)
  · rintro i v m₁ news₁ s₁ own ⟨h₁, tk₁, rfl⟩ hin hP hJ₁ hoff hown hget hfp hst F₁ N₁
    have hv : vs[i]? = some v := by simpa using hP
    refine wpAny_mono (turn i v m₁ news₁ h₁ tk₁ own hv hJ₁ F₁ N₁) (fun f s₄ y => ?_) fun _ _ e => e
    obtain ⟨it, hit, hic, _⟩ := hst.1
    have hio : (s.heap.objs.size, it) ∈ own := hfp _ (List.mem_cons_self ..) (next_is_new F) it hit
    have fin : TNext h₀ env.locals (J (i + 1)) own { s with heap := h₁, toks := tk₁ } s₄ → LoopStepU h₀ env.locals [s.heap.objs.size] own (J (i + 1)) { s with heap := h₁, toks := tk₁ } .next s₄ := by
      rintro ⟨h', tk, m', nx, e, F', N', hj⟩
      refine ⟨rfl, h', tk, m', nx, e, F', N', fun p hp hI => ?_, hj⟩
      have h1 := (N' p (List.mem_append.mpr (.inr hp))).1
      have h2 := (N' _ (List.mem_append.mpr (.inl hio))).1
      rw [List.mem_singleton.mp hI, h2] at h1
      rcases (hJ _ _ _ hj).1 p hp with h3 | h3
      · exact absurd (Heap.lt_size (N p h3).1) ((List.mem_singleton.mp hI) ▸ Nat.lt_irrefl _)
      · rw [← Option.some.inj h1] at h3
        exact h3 hic
    cases f with
    | ret v => exact y
    | brk => exact y
    | next => exact fin y
    | cont => exact fin y
  · intro h' tk m' news' F' N' _ hj
    have e : vs.toArray.size = vs.length := List.size_toArray ..
    rw [e] at hj
    exact done m' news' h' tk hj F' N'

/-- a loop that keeps all but a few names -/
def KNext (h₀ : Heap) (L : Addr) (stored : List Str) (m₀ : Str → Option Value) (need : List (Addr × Obj)) (s₁ s₂ : Shared) : Prop :=
  ∃ h' tk m' news', s₂ = { s₁ with heap := h', toks := tk } ∧ Fr h₀ L h' m' ∧ News h₀ L h' news' ∧ (∀ p ∈ need, p ∈ news') ∧ ∀ z, stored.contains z = false → m' z = m₀ z
def KEnd (h₀ : Heap) (L : Addr) (stored : List Str) (m₀ : Str → Option Value) (need : List (Addr × Obj)) (s₁ : Shared) (Q : Flow → Shared → Prop) (f : Flow) (s₂ : Shared) : Prop :=
  match f with
  | .ret v => Q (.ret v) s₂
  | .brk => Q .next s₂
  | _ => KNext h₀ L stored m₀ need s₁ s₂
theorem KNext.intro {L : Addr} {stored : List Str} {m₀ m' : Str → Option Value} {need news' : List (Addr × Obj)} {s₁ : Shared} {h' : Heap} {tk : Nat} (F : Fr h₀ L h' m') (N : News h₀ L h' news') (hn : ∀ p ∈ need, p ∈ news') (hz : ∀ z, stored.contains z = false → m' z = m₀ z) :
    KNext h₀ L stored m₀ need s₁ { s₁ with heap := h', toks := tk } := ⟨h', tk, m', news', rfl, F, N, hn, hz⟩
theorem iter_keep {l : Addr} {vs : List Value} {nn : Nat} {m₀ : Str → Option Value} {news : List (Addr × Obj)} (stored : List Str)
    (hh : A.handled = none) (F : Fr h₀ env.locals s.heap m₀) (N : News h₀ env.locals s.heap news) (hm : (l, listOf vs.toArray nn) ∈ news)
    (turn : ∀ v (u : Str → Option Value) h tk own, v ∈ vs → Fr h₀ env.locals h (fun z => if stored.contains z then u z else m₀ z) → News h₀ env.locals h (news ++ own) →
      wpAny (model prog w) A (assign target env v) (fun _ s₃ => wpAny (model prog w) A (execs body env) (KEnd h₀ env.locals stored m₀ (news ++ own) { s with heap := h, toks := tk } Q) E s₃) E { s with heap := h, toks := tk })
    (done : ∀ (u : Str → Option Value) h tk, Fr h₀ env.locals h (fun z => if stored.contains z then u z else m₀ z) → News h₀ env.locals h news → Q .next { s with heap := h, toks := tk }) :
    wpAny (model prog w) A (pyIter (.ref l)) (fun it s₂ => TurnsAt prog w A h₀ env target body Q E it s₂) E s := by
  have kept : ∀ m₁ : Str → Option Value, (∀ z, stored.contains z = false → m₁ z = m₀ z) → (fun z => if stored.contains z then m₁ z else m₀ z) = m₁ := by
    intro m₁ hz
    funext z
    cases h : stored.contains z with
    | true => simp
    | false => simp [hz z h]
  refine iter_grow (fun _ m nx => nx = news ∧ ∀ z, stored.contains z = false → m z = m₀ z) hh (fun i m nx hj => by rw [hj.1]; exact ⟨fun p hp => .inl hp, hm⟩) F N ⟨rfl, fun _ _ => rfl⟩ ?_ ?_
  · rintro i v m₁ nx h tk own hv ⟨rfl, hz⟩ F₁ N₁
    have N₂ : News h₀ env.locals h (nx ++ own) := fun p hp => N₁ p ((List.mem_append.mp hp).elim (fun x => List.mem_append.mpr (.inr x)) fun x => List.mem_append.mpr (.inl x))
    rw [← kept m₁ hz] at F₁
    refine wpAny_mono (turn v m₁ h tk own (List.mem_of_getElem? hv) F₁ N₂) (fun _ s₃ x => wpAny_mono x (fun f s₄ y => ?_) fun _ _ e => e) fun _ _ e => e
    have fin : KNext h₀ env.locals stored m₀ (nx ++ own) { s with heap := h, toks := tk } s₄ → TNext h₀ env.locals (fun m nx' => nx' = nx ∧ ∀ z, stored.contains z = false → m z = m₀ z) own { s with heap := h, toks := tk } s₄ := by
      rintro ⟨h', tk', m', news', e, F', N', hn, hz'⟩
      exact ⟨h', tk', m', nx, e, F', fun p hp => N' p (hn p ((List.mem_append.mp hp).elim (fun x => List.mem_append.mpr (.inr x)) fun x => List.mem_append.mpr (.inl x))), rfl, hz'⟩
    cases f with
    | ret v => exact y
    | brk => exact y
    | next => exact fin y
    | cont => exact fin y
  · rintro m₁ nx h tk ⟨rfl, hz⟩ F₁ N₁
    rw [← kept m₁ hz] at F₁
    exact done m₁ h tk F₁ N₁
end
end Mine
end
section
open PySem PySem.W PyProof.Rows PySem.Calls
namespace Mine
def isIt (o : Obj) : Bool := match o.cls with
  | .type q => q == "list_iterator"
  | _ => false
theorem isIt_ne {o : Obj} (h : isIt o = false) : o.cls ≠ .type "list_iterator" := by
  intro e
  unfold isIt at h
  rw [e] at h
  exact absurd h (by decide)
theorem isIt_of {o : Obj} (h : o.cls ≠ .type "list_iterator") : isIt o = false := by
  unfold isIt
  split
  · rename_i q e
    rw [e] at h
    exact beq_eq_false_iff_ne.mpr fun z => h (by rw [z])
  · rfl
structure Ent (news : List (Addr × Obj)) (i D : Nat) (B M : Int) (v : Value) : Prop where
  ex : ∃ t x dx μ σ ta tb t1 t2 t3 mn sq pa, v = Value.ref t ∧ (t, tupO x mn sq pa t1 t2 t3) ∈ news ∧ (x, ndObj dx μ ta σ tb) ∈ news ∧ (dx, dictOf [] 0) ∈ news ∧ Nm i D B M mn sq pa μ σ
theorem Ent.mono {news news' : List (Addr × Obj)} {i j D D' : Nat} {B B' M M' : Int} {v : Value} (h : Ent news i D B M v) (hs : ∀ p ∈ news, isIt p.2 = false → p ∈ news') (hi : i ≤ j) (hD : D ≤ D') (hB : B ≤ B') (hM : M ≤ M') : Ent news' j D' B' M' v := by
  obtain ⟨t, x, dx, μ, σ, ta, tb, t1, t2, t3, mn, sq, pa, e, a, b, c, d⟩ := h.ex
  exact ⟨t, x, dx, μ, σ, ta, tb, t1, t2, t3, mn, sq, pa, e, hs _ a rfl, hs _ b rfl, hs _ c rfl, d.mono hi hD hB hM⟩
def bb (i : Nat) : Int := 2 ^ 42 * 64 ^ i
theorem bb_succ (i : Nat) : bb (i + 1) = 64 * bb i := by unfold bb; rw [show (64 : Int) ^ (i + 1) = 64 ^ i * 64 from Int.pow_succ 64 i]; generalize (64 : Int) ^ i = y; omega
theorem bb_lo (i : Nat) : 2 ^ 42 ≤ bb i := by
  unfold bb
  have : (1 : Int) ≤ 64 ^ i := Int.pow_pos (by decide)
  omega
theorem bb_le {i : Nat} (h : i ≤ 64) : bb i ≤ 2 ^ 426 := by
  unfold bb
  have a : (64 : Int) ^ i ≤ 64 ^ 64 := ipow_le h
  have b : (2 : Int) ^ 42 * 64 ^ 64 = 2 ^ 426 := by decide +kernel
  rw [← b]
  exact Int.mul_le_mul_of_nonneg_left a (by decide)
theorem bb_le2 {i : Nat} (h : i ≤ 64) : bb i ≤ 2 ^ 450 := Int.le_trans (bb_le h) (by decide +kernel)
def Pile (news : List (Addr × Obj)) (i : Nat) (vs : List Value) : Prop := ∃ D, D + vs.length ≤ i + 1 ∧ 1 ≤ vs.length ∧ ∀ v ∈ vs, Ent news i D (bb i) (2 ^ 46) v
theorem Pile.sub {news news' : List (Addr × Obj)} {i : Nat} {vs : List Value} (h : Pile news i vs) (hs : ∀ p ∈ news, isIt p.2 = false → p ∈ news') : Pile news' i vs := by
  obtain ⟨D, a, b, c⟩ := h
  exact ⟨D, a, b, fun v hv => (c v hv).mono hs (Nat.le_refl _) (Nat.le_refl _) (Int.le_refl _) (Int.le_refl _)⟩
theorem Pile.up {news : List (Addr × Obj)} {i : Nat} {vs : List Value} (h : Pile news i vs) : Pile news (i + 1) vs := by
  obtain ⟨D, a, b, c⟩ := h
  have := bb_lo i
  exact ⟨D, by omega, b, fun v hv => (c v hv).mono (fun _ h _ => h) (Nat.le_succ _) (Nat.le_refl _) (by rw [bb_succ]; omega) (Int.le_refl _)⟩
/-- the turn's pile: the elder part as it was, a new top -/
theorem Pile.next {news news' : List (Addr × Obj)} {i D D' : Nat} {ini' : List Value} {t' z dz : Addr} {μ' σ' : UInt64} {tpp tqq v1 v2 v3 : Tok} {mn' sq' pa' : Int} (old : ∀ v ∈ ini', Ent news i D (bb i) (2 ^ 46) v) (hD : D ≤ D') (hlen : D' + (ini'.length + 1) ≤ i + 2)
    (hx : Ext news news') (ht : (t', tupO z mn' sq' pa' v1 v2 v3) ∈ news') (hz : (z, ndObj dz μ' tpp σ' tqq) ∈ news') (hdz : (dz, dictOf [] 0) ∈ news') (hN : Nm (i + 1) D' (64 * bb i) (2 ^ 50) mn' sq' pa' μ' σ')
    (l1 : -(2 ^ 46) < mn') (l2 : mn' < 2 ^ 46) : Pile news' (i + 1) (ini' ++ [Value.ref t']) := by
  have := bb_lo i
  refine ⟨D', by rw [List.length_append, List.length_singleton]; omega, by rw [List.length_append, List.length_singleton]; omega, fun v hv => ?_⟩
  rcases List.mem_append.mp hv with h | h
  · exact (old v h).mono (fun p hp _ => hx.1 p hp) (Nat.le_succ _) hD (by rw [bb_succ]; omega) (Int.le_refl _)
  · rw [List.mem_singleton.mp h]
    rw [← bb_succ] at hN
    exact ⟨⟨_, _, _, _, _, _, _, _, _, _, _, _, _, rfl, ht, hz, hdz, ⟨hN.mu, by omega, by omega, hN.s0, hN.p0, hN.lo, hN.hi, hN.sp⟩⟩⟩
/-- the turn's pile, if its top is not too big -/
def PileIf (led : List (Addr × Obj)) (i : Nat) (vs : List Value) (mn : Int) : Prop := -(2 ^ 46) < mn → mn < 2 ^ 46 → Pile led i vs
theorem PileIf.get {led : List (Addr × Obj)} {i : Nat} {vs : List Value} {mn : Int} (h : PileIf led i vs mn) (l : (if mn < 0 then -mn else mn) < 2 ^ Int.toNat 46) : Pile led i vs := by
  have l' : (if mn < 0 then -mn else mn) < 2 ^ 46 := l
  exact h (by split at l' <;> omega) (by split at l' <;> omega)
theorem Nm.start : Nm 0 0 (bb 0) (2 ^ 46) 2 9 1 (Float64.ofInt 2) (Float64.ofInt 3) := by
  have s := sp_int (k := 3) (by decide) (by decide)
  refine ⟨isI_ofInt (by decide), by decide, by decide, by decide, ⟨0, by omega, rfl⟩, .inr (by decide), by decide +kernel, ?_⟩
  have e : ((9 : Int) : Rat) / ((1 : Int) : Rat) = ((3 * 3 : Int) : Rat) := by decide +kernel
  rw [e]
  exact s
theorem pile_start {news : List (Addr × Obj)} {t x dx : Addr} {ta tb t1 t2 t3 : Tok} (ht : (t, tupO x 2 9 1 t1 t2 t3) ∈ news) (hx : (x, ndObj dx (Float64.ofInt 2) ta (Float64.ofInt 3) tb) ∈ news) (hdx : (dx, dictOf [] 0) ∈ news) : Pile news 0 [Value.ref t] :=
  ⟨0, Nat.le_refl 1, Nat.le_refl 1, fun v hv => by
    rw [List.mem_singleton.mp hv]
    exact ⟨⟨_, _, _, _, _, _, _, _, _, _, _, _, _, rfl, ht, hx, hdx, Nm.start⟩⟩⟩
section
variable {w : World} {mean : ExcName → Option Value} {mg mb : Str → Option Value} {dp un : Nat} {gd : Option (List Code)} {cn : Str} {cs : Scope} {a : Addr} {ccd : Value} {cl : List (Str × Addr)} {outer : List Env} {A₀ : Around} {base h₀ : Heap} {L : Addr} {m : Str → Option Value} {news : List (Addr × Obj)} {s : Shared} {Q E : Value → Shared → Prop}
theorem step_call {pl : Addr} {nn : Nat} {vs : List Value} {i : Nat} {xx : Int} {t0 : Tok}
   (B : Below A₀ base outer h₀) (F : Fr h₀ L s.heap m) (X : (hd05.heap_39 w.params).In h₀) (N : News h₀ L s.heap news) (T : Top hd05.view_39 loose mean mg mb h₀) (hk : cs.kind = .function)
   (hd : dp + 90 < recursionLimit) (hu : un + 700 < cLine)
   (hl : (pl, listOf vs.toArray nn) ∈ news) (hP : Pile news i vs) (hi : i ≤ 62)
   (hret : ∀ l' nn' ini' t' z mn' sq' pa' v1 v2 v3 news' h' tk', Fr h₀ L h' m → News h₀ L h' news' → Ext news news' → (l', listOf (ini' ++ [Value.ref t']).toArray nn') ∈ news' → (t', tupO z mn' sq' pa' v1 v2 v3) ∈ news' →
     PileIf news' (i + 1) (ini' ++ [Value.ref t']) mn' → Q (.ref l') { s with heap := h', toks := tk' }) :
    wpAny (model PySem.Challenge.rw_oz0056_05.row.prog w) (ktrTop dp un gd cn cs L a ccd cl outer) (call (.ref 288) [.ref pl, .int xx t0]) Q E s := by
  obtain ⟨D, hD, h1, hE⟩ := hP
  have q1 := bb_lo i
  have q2 := bb_le2 (i := i) (by omega)
  rcases List.eq_nil_or_concat vs with e | ⟨ini, v, e⟩
  · rw [e] at h1; exact absurd h1 (by decide)
  · rw [List.concat_eq_append] at e
    subst e
    rw [List.length_append, List.length_singleton] at hD
    obtain ⟨tp, x, dx, μ, σ, ta, tb, t1, t2, t3, mn, sq, pa, rfl, ht, hx, hdx, hN⟩ := (hE v (List.mem_append.mpr (.inr List.mem_cons_self))).ex
    rcases List.eq_nil_or_concat ini with e | ⟨ini2, v2, e⟩
    · subst e
      refine step1 B F X N T hk hd hu hl ht hx hdx hN (by omega) (by omega) q1 q2 rfl fun l' nn' ini' z dz μ' σ' tpp tqq t' v1 v2 v3 mn' sq' pa' D' news' h' tk' F' N' hx' hl' ht' hz' hdz' hs hN' => hret l' nn' ini' t' z mn' sq' pa' v1 v2 v3 news' h' tk' F' N' hx' hl' ht' fun l1 l2 => ?_
      rcases hs with ⟨e1, e2⟩ | ⟨e1, e2⟩
      · subst e1 e2
        exact Pile.next (D := D') hE (Nat.le_refl _) (by rw [List.length_append, List.length_singleton]; omega) hx' ht' hz' hdz' hN' l1 l2
      · subst e1 e2
        exact Pile.next (D := D) (fun v hv => nomatch hv) (Nat.le_succ _) (by rw [List.length_nil] at *; omega) hx' ht' hz' hdz' hN' l1 l2
    · rw [List.concat_eq_append] at e
      subst e
      rw [List.length_append, List.length_singleton] at hD
      obtain ⟨tp2, x2, dx2, μ2, σ2, tc, td, u1, u2, u3, low, be, bp, rfl, ht2, hx2, hdx2, hN2⟩ := (hE v2 (List.mem_append.mpr (.inl (List.mem_append.mpr (.inr List.mem_cons_self))))).ex
      refine step2 B F X N T hk hd hu hl ht hx hdx hN ht2 hx2 hdx2 hN2 (by omega) (by omega) q1 q2 (by omega) fun l' nn' ini' z dz μ' σ' tpp tqq t' v1 v2 v3 mn' sq' pa' D' news' h' tk' F' N' hx' hl' ht' hz' hdz' hs hN' => hret l' nn' ini' t' z mn' sq' pa' v1 v2 v3 news' h' tk' F' N' hx' hl' ht' fun l1 l2 => ?_
      rcases hs with ⟨e1, e2⟩ | ⟨e1, e2⟩ | ⟨e1, e2⟩
      · subst e1 e2
        exact Pile.next (D := D') hE (Nat.le_refl _) (by rw [List.length_append, List.length_append, List.length_singleton, List.length_singleton]; omega) hx' ht' hz' hdz' hN' l1 l2
      · subst e1 e2
        exact Pile.next (D := D) (fun v hv => hE v (List.mem_append.mpr (.inl hv))) (Nat.le_succ _) (by rw [List.length_append, List.length_singleton]; omega) hx' ht' hz' hdz' hN' l1 l2
      · subst e1 e2
        exact Pile.next (D := D) (fun v hv => hE v (List.mem_append.mpr (.inl (List.mem_append.mpr (.inl hv))))) (Nat.le_succ _) (by omega) hx' ht' hz' hdz' hN' l1 l2
end
end Mine
end
section
open PySem PySem.W PyProof.Rows PySem.Calls
namespace Mine
theorem Ext.fst {a b : List (Addr × Obj)} (h : Ext a b) : ∀ p ∈ a, p ∈ b := h.1
section
variable {prog : Program} {w : World} {A : Around} {E : Value → Shared → Prop} {s : Shared} {env : Env} {h₀ : Heap} {target : Expr} {body : List Stmt} {Q : Flow → Shared → Prop}
theorem ints_at {xs : List Value} {ns : List Int} {i : Nat} {v : Value} (h : IntsAre xs ns) (hv : xs[i]? = some v) : ∃ n t, v = Value.int n t := by
  have hl := h.length
  have hlt : i < xs.length := (List.getElem?_eq_some_iff.mp hv).1
  obtain ⟨t', hx⟩ := h.get i ns[i] (List.getElem?_eq_getElem (by omega))
  rw [hx] at hv
  exact ⟨_, t', (Option.some.inj hv).symm⟩
theorem turn_le {xs : List Value} {ns : List Int} {i : Nat} (h : IntsAre xs (List.take 63 ns)) (hi : i < xs.length) : i ≤ 62 := by
  have hl := h.length
  rw [List.length_take] at hl
  omega
theorem len_le {xs : List Value} {ns : List Int} (h : IntsAre xs (List.take 63 ns)) : xs.length ≤ 63 := by
  have hl := h.length
  rw [List.length_take] at hl
  omega
theorem Pile.last {led : List (Addr × Obj)} {i : Nat} {vs : List Value} (h : Pile led i vs) : ∃ D ini t x dx μ σ ta tb t1 t2 t3 mn sq pa, vs = ini ++ [Value.ref t] ∧ D + (ini.length + 1) ≤ i + 1 ∧ (∀ v ∈ ini, Ent led i D (bb i) (2 ^ 46) v) ∧
    (t, tupO x mn sq pa t1 t2 t3) ∈ led ∧ (x, ndObj dx μ ta σ tb) ∈ led ∧ (dx, dictOf [] 0) ∈ led ∧ Nm i D (bb i) (2 ^ 46) mn sq pa μ σ := by
  obtain ⟨D, hD, h1, hE⟩ := h
  rcases List.eq_nil_or_concat vs with e | ⟨ini, v, e⟩
  · rw [e] at h1; exact absurd h1 (by decide)
  · rw [List.concat_eq_append] at e
    subst e
    rw [List.length_append, List.length_singleton] at hD
    obtain ⟨tp, x, dx, μ, σ, ta, tb, t1, t2, t3, mn, sq, pa, rfl, ht, hx, hdx, hN⟩ := (hE v (List.mem_append.mpr (.inr List.mem_cons_self))).ex
    exact ⟨D, ini, tp, x, dx, μ, σ, ta, tb, t1, t2, t3, mn, sq, pa, rfl, hD, fun v hv => hE v (List.mem_append.mpr (.inl hv)), ht, hx, hdx, hN⟩
abbrev nX : Str := Str.ofString "x"
abbrev nPile : Str := Str.ofString "pile"
abbrev nAfter : Str := Str.ofString "after"
def PNext (h₀ : Heap) (L : Addr) (m₀ : Str → Option Value) (i : Nat) (led : List (Addr × Obj)) (s₁ s₂ : Shared) : Prop :=
  ∃ h' tk m' led' pl' vs' nn', s₂ = { s₁ with heap := h', toks := tk } ∧ Fr h₀ L h' m' ∧ News h₀ L h' led' ∧ Ext led led' ∧ m' nPile = some (Value.ref pl') ∧ (pl', listOf (List.toArray vs') nn') ∈ led' ∧ Pile led' (i + 1) vs' ∧ ∀ z, z ≠ nX → z ≠ nPile → z ≠ nAfter → m' z = m₀ z
def PEnd (h₀ : Heap) (L : Addr) (m₀ : Str → Option Value) (i : Nat) (led : List (Addr × Obj)) (s₁ : Shared) (Q : Flow → Shared → Prop) (f : Flow) (s₂ : Shared) : Prop :=
  match f with
  | .ret v => Q (.ret v) s₂
  | .brk => Q .next s₂
  | _ => PNext h₀ L m₀ i led s₁ s₂
theorem PNext.intro {L : Addr} {m₀ m' : Str → Option Value} {i : Nat} {led led' : List (Addr × Obj)} {s₁ : Shared} {h' : Heap} {tk : Nat} {pl' : Addr} {vs' : List Value} {nn' : Nat} (F : Fr h₀ L h' m') (N : News h₀ L h' led') (hx : Ext led led')
    (hp : m' nPile = some (Value.ref pl')) (hl : (pl', listOf (List.toArray vs') nn') ∈ led') (hP : Pile led' (i + 1) vs') (hz : ∀ z, z ≠ nX → z ≠ nPile → z ≠ nAfter → m' z = m₀ z) : PNext h₀ L m₀ i led s₁ { s₁ with heap := h', toks := tk } :=
  ⟨h', tk, m', led', pl', vs', nn', rfl, F, N, hx, hp, hl, hP, hz⟩
/-- the loop over the script: the pile grows and shrinks -/
theorem iter_pile {l pl0 : Addr} {xs vs0 : List Value} {nS nn0 : Nat} {m₀ : Str → Option Value} {news : List (Addr × Obj)}
    (hh : A.handled = none) (F : Fr h₀ env.locals s.heap m₀) (N : News h₀ env.locals s.heap news) (hm : (l, listOf xs.toArray nS) ∈ news) (hp : m₀ nPile = some (Value.ref pl0)) (hpl : (pl0, listOf vs0.toArray nn0) ∈ news) (hP : Pile news 0 vs0)
    (turn : ∀ i v u pl vs nn led h tk, xs[i]? = some v → i < xs.length → (pl, listOf (List.toArray vs) nn) ∈ led → Pile led i vs → Fr h₀ env.locals h (fun z => if z = nX then some v else if z = nPile then some (Value.ref pl) else if z = nAfter then u else m₀ z) → News h₀ env.locals h led →
      wpAny (model prog w) A (execs body env) (PEnd h₀ env.locals m₀ i led { s with heap := h, toks := tk } Q) E { s with heap := h, toks := tk })
    (done : ∀ u1 u2 pl vs nn led h tk, (pl, listOf (List.toArray vs) nn) ∈ led → Pile led xs.length vs → Fr h₀ env.locals h (fun z => if z = nX then u1 else if z = nPile then some (Value.ref pl) else if z = nAfter then u2 else m₀ z) → News h₀ env.locals h led → Q .next { s with heap := h, toks := tk }) :
    wpAny (model prog w) A (pyIter (.ref l)) (fun it s₂ => LoopAtV prog w A h₀ env nX body Q E it s₂) E s := by
  refine iter_growV (x := nX) (fun i m nx => (∀ p ∈ nx, p ∈ news ∨ isIt p.2 = false) ∧ (l, listOf xs.toArray nS) ∈ nx ∧ ∃ pl vs nn, m nPile = some (Value.ref pl) ∧ (pl, listOf (List.toArray vs) nn) ∈ nx ∧ Pile nx i vs ∧ ∀ z, z ≠ nX → z ≠ nPile → z ≠ nAfter → m z = m₀ z) hh
    (fun i m nx hj => ⟨fun p hp => (hj.1 p hp).imp id isIt_ne, hj.2.1⟩) F N ⟨fun p hp => .inl hp, hm, pl0, vs0, nn0, hp, hpl, hP, fun _ _ _ _ => rfl⟩ ?_ ?_
  · rintro i v m₁ nx h tk own hv ⟨hc, hs, pl, vs, nn, hmp, hl, hPi, hz⟩ F₁ N₁
    have hlt : i < xs.length := (List.getElem?_eq_some_iff.mp hv).1
    have fe : (fun y => if y = nX then some v else m₁ y) = (fun z => if z = nX then some v else if z = nPile then some (Value.ref pl) else if z = nAfter then m₁ nAfter else m₀ z) := by
      funext z
      by_cases a1 : z = nX
      · rw [if_pos a1, if_pos a1]
      · rw [if_neg a1, if_neg a1]
        by_cases a2 : z = nPile
        · rw [if_pos a2, a2, hmp]
        · rw [if_neg a2]
          by_cases a3 : z = nAfter
          · rw [if_pos a3, a3]
          · rw [if_neg a3, hz z a1 a2 a3]
    rw [fe] at F₁
    refine wpAny_mono (turn i v _ pl vs nn (own ++ nx) h tk hv hlt (List.mem_append.mpr (.inr hl)) (hPi.sub fun p hp _ => List.mem_append.mpr (.inr hp)) F₁ N₁) (fun f s₄ y => ?_) fun _ _ e => e
    have fin : PNext h₀ env.locals m₀ i (own ++ nx) { s with heap := h, toks := tk } s₄ → TNext h₀ env.locals (fun m nx => (∀ p ∈ nx, p ∈ news ∨ isIt p.2 = false) ∧ (l, listOf xs.toArray nS) ∈ nx ∧ ∃ pl vs nn, m nPile = some (Value.ref pl) ∧ (pl, listOf (List.toArray vs) nn) ∈ nx ∧ Pile nx (i + 1) vs ∧ ∀ z, z ≠ nX → z ≠ nPile → z ≠ nAfter → m z = m₀ z) own { s with heap := h, toks := tk } s₄ := by
      rintro ⟨h', tk', m', led', pl', vs', nn', e, F', N', hx', hp', hl', hP', hz'⟩
      have keep : ∀ p ∈ led', isIt p.2 = false → p ∈ led'.filter (fun p => !isIt p.2) := fun p hp hi => List.mem_filter.mpr ⟨hp, by simp [hi]⟩
      refine ⟨h', tk', m', led'.filter (fun p => !isIt p.2), e, F', fun p hp => ?_, fun p hp => .inr ?_, keep _ (hx'.1 _ (List.mem_append.mpr (.inr hs))) rfl, pl', vs', nn', hp', keep _ hl' rfl, hP'.sub keep, hz'⟩
      · rcases List.mem_append.mp hp with hp | hp
        · exact N' p (hx'.1 p (List.mem_append.mpr (.inl hp)))
        · exact N' p (List.mem_filter.mp hp).1
      · have := (List.mem_filter.mp hp).2
        simpa using this
    cases f with
    | ret v => exact y
    | brk => exact y
    | next => exact fin y
    | cont => exact fin y
  · rintro m₁ nx h tk ⟨hc, hs, pl, vs, nn, hmp, hl, hPi, hz⟩ F₁ N₁
    have fe : m₁ = (fun z => if z = nX then m₁ nX else if z = nPile then some (Value.ref pl) else if z = nAfter then m₁ nAfter else m₀ z) := by
      funext z
      by_cases a1 : z = nX
      · rw [if_pos a1, a1]
      · rw [if_neg a1]
        by_cases a2 : z = nPile
        · rw [if_pos a2, a2, hmp]
        · rw [if_neg a2]
          by_cases a3 : z = nAfter
          · rw [if_pos a3, a3]
          · rw [if_neg a3, hz z a1 a2 a3]
    rw [fe] at F₁
    exact done _ _ pl vs nn nx h tk hl hPi F₁ N₁
end
end Mine
end
section
open PySem PySem.W PyProof.Rows PySem.Calls
namespace Mine
section
variable {prog : Program} {w : World} {A : Around} {E : Value → Shared → Prop} {s : Shared} {env : Env} {h₀ : Heap} {target : Expr} {body : List Stmt} {Q : Flow → Shared → Prop}
abbrev nW : Str := Str.ofString "whole"
abbrev nT : Str := Str.ofString "total"
abbrev nA : Str := Str.ofString "all_squares"
abbrev nB : Str := Str.ofString "by"
abbrev loopN : List Str := [Str.ofString "normal", Str.ofString "mean", Str.ofString "square", Str.ofString "parts", Str.ofString "most"]
/-- the sum so far: its normal and its whole numbers, under their names -/
structure Acc (led : List (Addr × Obj)) (m : Str → Option Value) (i n : Nat) (C M : Int) (y dy : Addr) (ν τ : UInt64) (tc td d1 d2 d3 : Tok) (tot al by_ : Int) : Prop where
  w : m nW = some (Value.ref y)
  t : m nT = some (Value.int tot d1)
  a : m nA = some (Value.int al d2)
  b : m nB = some (Value.int by_ d3)
  hy : (y, ndObj dy ν tc τ td) ∈ led
  hdy : (dy, dictOf [] 0) ∈ led
  nm : Nm i n C M tot al by_ ν τ
def sumMap (m₀ u : Str → Option Value) (y : Addr) (tot al by_ : Int) (d1 d2 d3 : Tok) : Str → Option Value := fun z =>
  if z = nW then some (Value.ref y) else if z = nT then some (Value.int tot d1) else if z = nA then some (Value.int al d2) else if z = nB then some (Value.int by_ d3) else if loopN.contains z then u z else m₀ z
theorem sumMap_out {m₀ u : Str → Option Value} {y : Addr} {tot al by_ : Int} {d1 d2 d3 : Tok} {z : Str} (a : z ≠ nW) (b : z ≠ nT) (c : z ≠ nA) (d : z ≠ nB) (e : loopN.contains z = false) : sumMap m₀ u y tot al by_ d1 d2 d3 z = m₀ z := by
  unfold sumMap
  rw [if_neg a, if_neg b, if_neg c, if_neg d, e]
  simp
def SNext (h₀ : Heap) (L : Addr) (m₀ : Str → Option Value) (i n : Nat) (C M : Int) (led : List (Addr × Obj)) (s₁ s₂ : Shared) : Prop :=
  ∃ h' tk m' led' y dy ν τ tc td d1 d2 d3 tot al by_, s₂ = { s₁ with heap := h', toks := tk } ∧ Fr h₀ L h' m' ∧ News h₀ L h' led' ∧ Ext led led' ∧ Acc led' m' i n C M y dy ν τ tc td d1 d2 d3 tot al by_ ∧ ∀ z, z ≠ nW → z ≠ nT → z ≠ nA → z ≠ nB → loopN.contains z = false → m' z = m₀ z
def SEnd (h₀ : Heap) (L : Addr) (m₀ : Str → Option Value) (i n : Nat) (C M : Int) (led : List (Addr × Obj)) (s₁ : Shared) (Q : Flow → Shared → Prop) (f : Flow) (s₂ : Shared) : Prop :=
  match f with
  | .ret v => Q (.ret v) s₂
  | .brk => Q .next s₂
  | _ => SNext h₀ L m₀ i n C M led s₁ s₂
theorem SNext.intro {L : Addr} {m₀ m' : Str → Option Value} {i n : Nat} {C M : Int} {led led' : List (Addr × Obj)} {s₁ : Shared} {h' : Heap} {tk : Nat} {y dy : Addr} {ν τ : UInt64} {tc td d1 d2 d3 : Tok} {tot al by_ : Int} (F : Fr h₀ L h' m') (N : News h₀ L h' led') (hx : Ext led led')
    (w : m' nW = some (Value.ref y)) (t : m' nT = some (Value.int tot d1)) (a : m' nA = some (Value.int al d2)) (b : m' nB = some (Value.int by_ d3)) (hy : (y, ndObj dy ν tc τ td) ∈ led') (hdy : (dy, dictOf [] 0) ∈ led') (nm : Nm i n C M tot al by_ ν τ)
    (hz : ∀ z, z ≠ nW → z ≠ nT → z ≠ nA → z ≠ nB → loopN.contains z = false → m' z = m₀ z) : SNext h₀ L m₀ i n C M led s₁ { s₁ with heap := h', toks := tk } :=
  ⟨h', tk, m', led', y, dy, ν, τ, tc, td, d1, d2, d3, tot, al, by_, rfl, F, N, hx, ⟨w, t, a, b, hy, hdy, nm⟩, hz⟩
theorem sumMap_eq {m₀ m : Str → Option Value} {y : Addr} {tot al by_ : Int} {d1 d2 d3 : Tok} (w : m nW = some (Value.ref y)) (t : m nT = some (Value.int tot d1)) (a : m nA = some (Value.int al d2)) (b : m nB = some (Value.int by_ d3))
    (hz : ∀ z, z ≠ nW → z ≠ nT → z ≠ nA → z ≠ nB → loopN.contains z = false → m z = m₀ z) : m = sumMap m₀ m y tot al by_ d1 d2 d3 := by
  funext z
  unfold sumMap
  by_cases a1 : z = nW
  · rw [if_pos a1, a1, w]
  · rw [if_neg a1]
    by_cases a2 : z = nT
    · rw [if_pos a2, a2, t]
    · rw [if_neg a2]
      by_cases a3 : z = nA
      · rw [if_pos a3, a3, a]
      · rw [if_neg a3]
        by_cases a4 : z = nB
        · rw [if_pos a4, a4, b]
        · rw [if_neg a4]
          cases h : loopN.contains z with
          | true => simp
          | false => simp [hz z a1 a2 a3 a4 h]
/-- the loop that adds up the pile -/
theorem iter_sum {l : Addr} {ini : List Value} {nS : Nat} {m₀ : Str → Option Value} {news : List (Addr × Obj)} {i D : Nat} {x8 dx8 : Addr} {μ8 σ8 : UInt64} {ta8 tb8 c1 c2 c3 : Tok} {mn8 sq8 pa8 : Int}
    (hh : A.handled = none) (F : Fr h₀ env.locals s.heap m₀) (N : News h₀ env.locals s.heap news) (hm : (l, listOf ini.toArray nS) ∈ news) (hw : m₀ nW = some (Value.ref x8)) (ht : m₀ nT = some (Value.int mn8 c1)) (ha : m₀ nA = some (Value.int sq8 c2)) (hb : m₀ nB = some (Value.int pa8 c3))
    (hx : (x8, ndObj dx8 μ8 ta8 σ8 tb8) ∈ news) (hdx : (dx8, dictOf [] 0) ∈ news) (hN : Nm i D (bb i) (2 ^ 46) mn8 sq8 pa8 μ8 σ8) (hi : i ≤ 63) (hD : D + (ini.length + 1) ≤ i + 1) (hE : ∀ v ∈ ini, Ent news i D (bb i) (2 ^ 46) v)
    {pl : Addr} {vsP : List Value} {nP : Nat} (hlP : (pl, listOf vsP.toArray nP) ∈ news) (hPP : Pile news i vsP)
    (turn : ∀ n C M t x dx μ σ ta tb t1 t2 t3 mn sq pa y dy ν τ tc td d1 d2 d3 tot al by_ u led h tk, n ≤ 63 → C ≤ 2 ^ 450 → M ≤ 2 ^ 52 → (t, tupO x mn sq pa t1 t2 t3) ∈ led → (x, ndObj dx μ ta σ tb) ∈ led → (dx, dictOf [] 0) ∈ led → Nm i n (bb i) (2 ^ 46) mn sq pa μ σ →
      (y, ndObj dy ν tc τ td) ∈ led → (dy, dictOf [] 0) ∈ led → Nm i n C M tot al by_ ν τ → Fr h₀ env.locals h (sumMap m₀ u y tot al by_ d1 d2 d3) → News h₀ env.locals h led →
      wpAny (model prog w) A (assign target env (Value.ref t)) (fun _ s₃ => wpAny (model prog w) A (execs body env) (SEnd h₀ env.locals m₀ i (n + 1) (C + bb i) (M + 2 ^ 46) led { s with heap := h, toks := tk } Q) E s₃) E { s with heap := h, toks := tk })
    (done : ∀ n C M y dy ν τ tc td d1 d2 d3 tot al by_ u led h tk, n ≤ 63 → C ≤ 2 ^ 450 → (pl, listOf vsP.toArray nP) ∈ led → Pile led i vsP → (y, ndObj dy ν tc τ td) ∈ led → (dy, dictOf [] 0) ∈ led → Nm i n C M tot al by_ ν τ → Fr h₀ env.locals h (sumMap m₀ u y tot al by_ d1 d2 d3) → News h₀ env.locals h led → Q .next { s with heap := h, toks := tk }) :
    wpAny (model prog w) A (pyIter (.ref l)) (fun it s₂ => TurnsAt prog w A h₀ env target body Q E it s₂) E s := by
  have b0 := bb_lo i
  have bl := bb_le (i := i) (by omega)
  have cap : ∀ k : Nat, k ≤ 63 → ((k : Int) + 1) * bb i ≤ 2 ^ 450 := fun k hk => by
    have a1 : ((k : Int) + 1) * bb i ≤ 64 * 2 ^ 426 := Int.mul_le_mul (by omega) bl (by omega) (by decide)
    exact Int.le_trans a1 (by decide +kernel)
  refine iter_grow (fun j m nx => (∀ p ∈ nx, p ∈ news ∨ isIt p.2 = false) ∧ (∀ p ∈ news, isIt p.2 = false → p ∈ nx) ∧ (∃ y dy ν τ tc td d1 d2 d3 tot al by_, Acc nx m i (D + j) (((j : Nat) + 1 : Int) * bb i) (((j : Nat) + 1 : Int) * 2 ^ 46) y dy ν τ tc td d1 d2 d3 tot al by_) ∧ ∀ z, z ≠ nW → z ≠ nT → z ≠ nA → z ≠ nB → loopN.contains z = false → m z = m₀ z) hh
    (fun i m nx hj => ⟨fun p hp => (hj.1 p hp).imp id isIt_ne, hj.2.1 _ hm rfl⟩) F N ⟨fun p hp => .inl hp, fun p hp _ => hp, ⟨_, _, _, _, _, _, _, _, _, _, _, _, hw, ht, ha, hb, hx, hdx, by simpa using hN⟩, fun _ _ _ _ _ _ => rfl⟩ ?_ ?_
  · rintro j v m₁ nx h tk own hv ⟨hc, hs, ⟨y, dy, ν, τ, tc, td, d1, d2, d3, tot, al, by_, acc⟩, hz⟩ F₁ N₁
    have hlt : j < ini.length := (List.getElem?_eq_some_iff.mp hv).1
    obtain ⟨t, x, dx, μ, σ, ta, tb, t1, t2, t3, mn, sq, pa, rfl, e1, e2, e3, e4⟩ := (hE v (List.mem_of_getElem? hv)).ex
    have up : ∀ {p : Addr × Obj}, p ∈ nx → p ∈ own ++ nx := fun hp => List.mem_append.mpr (.inr hp)
    rw [sumMap_eq acc.w acc.t acc.a acc.b hz] at F₁
    refine wpAny_mono (turn (D + j) _ _ t x dx μ σ ta tb t1 t2 t3 mn sq pa y dy ν τ tc td d1 d2 d3 tot al by_ m₁ (own ++ nx) h tk (by omega) (cap j (by omega)) (by omega) (up (hs _ e1 rfl)) (up (hs _ e2 rfl)) (up (hs _ e3 rfl)) (e4.mono (Nat.le_refl _) (by omega) (Int.le_refl _) (Int.le_refl _)) (up acc.hy) (up acc.hdy) acc.nm F₁ N₁) (fun _ s₃ x => wpAny_mono x (fun f s₄ y => ?_) fun _ _ e => e) fun _ _ e => e
    have fin : SNext h₀ env.locals m₀ i (D + j + 1) (((j : Int) + 1) * bb i + bb i) (((j : Int) + 1) * 2 ^ 46 + 2 ^ 46) (own ++ nx) { s with heap := h, toks := tk } s₄ → TNext h₀ env.locals (fun m nx => (∀ p ∈ nx, p ∈ news ∨ isIt p.2 = false) ∧ (∀ p ∈ news, isIt p.2 = false → p ∈ nx) ∧ (∃ y dy ν τ tc td d1 d2 d3 tot al by_, Acc nx m i (D + (j + 1)) ((((j + 1 : Nat) : Int) + 1) * bb i) ((((j + 1 : Nat) : Int) + 1) * 2 ^ 46) y dy ν τ tc td d1 d2 d3 tot al by_) ∧ ∀ z, z ≠ nW → z ≠ nT → z ≠ nA → z ≠ nB → loopN.contains z = false → m z = m₀ z) own { s with heap := h, toks := tk } s₄ := by
      rintro ⟨h', tk', m', led', y', dy', ν', τ', tc', td', d1', d2', d3', tot', al', by', e, F', N', hx', acc', hz'⟩
      have keep : ∀ p ∈ led', isIt p.2 = false → p ∈ led'.filter (fun p => !isIt p.2) := fun p hp hi => List.mem_filter.mpr ⟨hp, by simp [hi]⟩
      have z1 : (((j + 1 : Nat) : Int) + 1) * bb i = ((j : Int) + 1) * bb i + bb i := by rw [Int.natCast_add, Int.add_mul _ 1 (bb i)]; simp
      have z2 : (((j + 1 : Nat) : Int) + 1) * 2 ^ 46 = ((j : Int) + 1) * 2 ^ 46 + 2 ^ 46 := by omega
      refine ⟨h', tk', m', led'.filter (fun p => !isIt p.2), e, F', fun p hp => ?_, fun p hp => .inr ?_, fun p hp hi => keep _ (hx'.1 _ (up (hs p hp hi))) hi, ⟨y', dy', ν', τ', tc', td', d1', d2', d3', tot', al', by', acc'.w, acc'.t, acc'.a, acc'.b, keep _ acc'.hy rfl, keep _ acc'.hdy rfl, ?_⟩, hz'⟩
      · rcases List.mem_append.mp hp with hp | hp
        · exact N' p (hx'.1 p (List.mem_append.mpr (.inl hp)))
        · exact N' p (List.mem_filter.mp hp).1
      · have := (List.mem_filter.mp hp).2
        simpa using this
      · rw [z1, z2]; exact acc'.nm
    cases f with
    | ret v => exact y
    | brk => exact y
    | next => exact fin y
    | cont => exact fin y
  · rintro m₁ nx h tk ⟨hc, hs, ⟨y, dy, ν, τ, tc, td, d1, d2, d3, tot, al, by_, acc⟩, hz⟩ F₁ N₁
    rw [sumMap_eq acc.w acc.t acc.a acc.b hz] at F₁
    exact done _ _ _ y dy ν τ tc td d1 d2 d3 tot al by_ _ nx h tk (by omega) (cap ini.length (by omega)) (hs _ hlP rfl) (hPP.sub hs) acc.hy acc.hdy acc.nm F₁ N₁
abbrev fitN : List Str := [Str.ofString "normal", Str.ofString "mean", Str.ofString "square", Str.ofString "parts"]
theorem fit_all {news : List (Addr × Obj)} {i n : Nat} {vs : List Value} {C M tot al by_ : Int} {t' y dy : Addr} {ν τ : UInt64} {tc td d1 d2 d3 : Tok} (hP : Pile news i vs) (hi : i ≤ 63) (ht : (t', tupO y tot al by_ d1 d2 d3) ∈ news) (hy : (y, ndObj dy ν tc τ td) ∈ news) (hdy : (dy, dictOf [] 0) ∈ news)
    (hN : Nm i n C M tot al by_ ν τ) (hn : n ≤ 63) (hC : C ≤ 2 ^ 450) : ∀ v ∈ vs ++ [Value.ref t'], ∃ n C M, n ≤ 70 ∧ C ≤ 2 ^ 450 ∧ Ent news i n C M v := by
  intro v hv
  rcases List.mem_append.mp hv with h | h
  · obtain ⟨D, hD, h1, hE⟩ := hP
    exact ⟨D, _, _, by omega, bb_le2 (by omega), hE v h⟩
  · rw [List.mem_singleton.mp h]
    exact ⟨n, C, M, by omega, hC, ⟨_, _, _, _, _, _, _, _, _, _, _, _, _, rfl, ht, hy, hdy, hN⟩⟩
/-- the loop that tests each normal -/
theorem iter_fits {l : Addr} {vs : List Value} {nS : Nat} {m₀ : Str → Option Value} {news : List (Addr × Obj)} {i : Nat}
    (hh : A.handled = none) (F : Fr h₀ env.locals s.heap m₀) (N : News h₀ env.locals s.heap news) (hm : (l, listOf vs.toArray nS) ∈ news) (hE : ∀ v ∈ vs, ∃ n C M, n ≤ 70 ∧ C ≤ 2 ^ 450 ∧ Ent news i n C M v)
    (turn : ∀ t x dx μ σ ta tb t1 t2 t3 mn sq pa n C M (u : Str → Option Value) led h tk, n ≤ 70 → C ≤ 2 ^ 450 → (t, tupO x mn sq pa t1 t2 t3) ∈ led → (x, ndObj dx μ ta σ tb) ∈ led → (dx, dictOf [] 0) ∈ led → Nm i n C M mn sq pa μ σ → Fr h₀ env.locals h (fun z => if fitN.contains z then u z else m₀ z) → News h₀ env.locals h led →
      wpAny (model prog w) A (assign target env (Value.ref t)) (fun _ s₃ => wpAny (model prog w) A (execs body env) (KEnd h₀ env.locals fitN m₀ led { s with heap := h, toks := tk } Q) E s₃) E { s with heap := h, toks := tk })
    (done : ∀ (u : Str → Option Value) h tk, Fr h₀ env.locals h (fun z => if fitN.contains z then u z else m₀ z) → News h₀ env.locals h news → Q .next { s with heap := h, toks := tk }) :
    wpAny (model prog w) A (pyIter (.ref l)) (fun it s₂ => TurnsAt prog w A h₀ env target body Q E it s₂) E s := by
  refine iter_keep fitN hh F N hm (fun v u h tk own hv F₁ N₁ => ?_) done
  obtain ⟨n, C, M, hn, hC, ⟨t, x, dx, μ, σ, ta, tb, t1, t2, t3, mn, sq, pa, rfl, e1, e2, e3, e4⟩⟩ := hE v hv
  have up : ∀ {p : Addr × Obj}, p ∈ news → p ∈ news ++ own := fun hp => List.mem_append.mpr (.inl hp)
  exact turn t x dx μ σ ta tb t1 t2 t3 mn sq pa n C M u (news ++ own) h tk hn hC (up e1) (up e2) (up e3) e4 F₁ N₁
theorem ent_up {a b : List (Addr × Obj)} {i D : Nat} {B M : Int} {ini : List Value} (h : ∀ v ∈ ini, Ent a i D B M v) (hs : ∀ p ∈ a, p ∈ b) : ∀ v ∈ ini, Ent b i D B M v := fun v hv => (h v hv).mono (fun p hp _ => hs p hp) (Nat.le_refl _) (Nat.le_refl _) (Int.le_refl _) (Int.le_refl _)
theorem Pile.ups {a b : List (Addr × Obj)} {i : Nat} {vs : List Value} (h : Pile a i vs) (hs : ∀ p ∈ a, p ∈ b) : Pile b i vs := h.sub fun p hp _ => hs p hp
end
end Mine
end
section
open PySem PySem.W PyProof.Rows PySem.Calls
namespace Mine
local macro_rules | `(tactic| k_mem) => `(tactic| first | with_reducible assumption | with_reducible exact List.mem_cons_self | (with_reducible refine List.mem_cons_of_mem _ ?_; k_mem))
local macro_rules | `(tactic| walk_at "call ref") => `(tactic| (k_here; (with_reducible show wpAny _ _ (PySem.call (Value.ref 270) [Value.int _ _, Value.int _ _]) _ _ _); k_dflt (refine' nd_new_ii ?k1 ?k2 ?k3 ?k4 ?k5 ?kK ?kd ?ku ?hn ?hk0 ?hkf ?hs ?_; (case k1 => k_asm); (case k2 => k_asm); (case k3 => k_asm); (case k4 => k_asm); (case k5 => k_asm); (case kK => first | exact rfl | assumption); (case kd => ktr_room); (case ku => ktr_units); (case hn => exact fitsM (by omega) (by omega)); (case hk0 => omega); (case hkf => exact fitsM (by omega) (by omega)); (case hs => exact cmpInt_nn (by omega)); k_whole; intro z9 dx9 tx9 ty9 h9 tk9 F9 N9; (try dsimp only); (try k_sweep); (try k_fold))))
local macro_rules | `(tactic| walk_at "call ref") => `(tactic| (k_here; (with_reducible show wpAny _ _ (PySem.call (Value.ref 288) [Value.ref _, Value.int _ _]) _ _ _); k_dflt (refine' step_call ?k1 ?k2 ?k3 ?k4 ?k5 ?kK ?kd ?ku ?hl ?hP ?hi ?_; (case k1 => k_asm); (case k2 => k_asm); (case k3 => k_asm); (case k4 => k_asm); (case k5 => k_asm); (case kK => first | exact rfl | assumption); (case kd => ktr_room); (case ku => ktr_units); (case hl => k_mem); (case hP => assumption); (case hi => omega); k_whole; intro l9 nn9 ini9 t9 z9 m9 s9 p9 v1 v2 v3 led9 h9 tk9 F9 N9 X9 L9 T9 P9; (try dsimp only); (try k_sweep); (try k_fold))))
local macro_rules | `(tactic| walk_at "call ref") => `(tactic| (k_here; (with_reducible show wpAny _ _ (PySem.call (Value.ref 295) [Value.ref _, Value.int _ _, Value.int _ _, Value.int _ _]) _ _ _); k_dflt (refine' fits_call ?k1 ?k2 ?k3 ?k4 ?k5 ?kK ?kd ?ku ?hx ?hdx ?hN ?ha ?hn ?hB ?_; (case k1 => k_asm); (case k2 => k_asm); (case k3 => k_asm); (case k4 => k_asm); (case k5 => k_asm); (case kK => first | exact rfl | assumption); (case kd => ktr_room); (case ku => ktr_units); (case hx => k_mem); (case hdx => k_mem); (case hN => assumption); (case ha => omega); (case hn => omega); (case hB => assumption); k_whole; intro h9 tk9 F9 N9; (try dsimp only); (try k_sweep); (try k_fold))))
local macro_rules | `(tactic| walk_at "binaryOp Add") => `(tactic| (k_here; (with_reducible show wpAny _ _ (binaryOp Operator.Add (Value.ref _) (Value.ref _)) _ _ _); k_dflt (refine' nd_add ?k1 ?k2 ?k3 ?k4 ?k5 ?kK ?kd ?ku ?hx ?hdx ?hy ?hdy ?hs ?_; (case k1 => k_asm); (case k2 => k_asm); (case k3 => k_asm); (case k4 => k_asm); (case k5 => k_asm); (case kK => first | exact rfl | assumption); (case kd => ktr_room); (case ku => ktr_units); (case hx => k_mem); (case hdx => k_mem); (case hy => k_mem); (case hdy => k_mem); (case hs => exact nn_hyp2 (by assumption) (by assumption) (by omega) (by omega) (by omega) (by omega) (by assumption) (by assumption)); k_whole; intro z9 dx9 tx9 ty9 h9 tk9 F9 N9; (try dsimp only); (try k_sweep); (try k_fold))))
local macro_rules | `(tactic| walk_at "pyIter ref") => `(tactic| (k_here; (with_reducible show wpAny _ _ (pyIter (Value.ref _)) (fun it s₂ => LoopAtV _ _ _ _ _ _ _ _ _ it s₂) _ _); (rename Fr _ _ _ _ => lF'); (rename News _ _ _ _ => lN'); (rename IntsAre _ (List.take _ _) => lI'); ((with_unfolding_all refine' iter_pile (by rfl) lF' lN' (by k_mem) (by rfl) (by k_mem) ?pile0q1 ?turnq1 ?doneq1); (case pile0q1 => exact pile_start (by k_mem) (by k_mem) (by k_mem)); (all_goals (clear lF' lN')); (all_goals (first | (intro i9 v9 u9 pl9 vs9 nn9 led9 h9 tk9 hv9 hi9 hl9 hP9 F9 N9; have hi8 := turn_le lI' hi9; obtain ⟨n9, t9, e9⟩ := ints_at lI' hv9; subst e9; clear hv9; (try dsimp only [envOf] at F9 N9); (try k_fold)) | (intro u9 u8 pl9 vs9 nn9 led9 h9 tk9 hl9 hP9 F9 N9; obtain ⟨D8, ini8, t8, x8, dx8, μ8, σ8, ta8, tb8, c1, c2, c3, mn8, sq8, pa8, ev8, hD8, hE8, ht8, hx8, hdx8, hN8⟩ := Pile.last hP9; subst ev8; have hl8 := len_le lI'; have hb8 := bb_le2 (i := _) (show _ ≤ 64 from Nat.le_trans hl8 (by decide)); (try dsimp only [envOf] at F9 N9); (try k_fold)))))))
local macro_rules | `(tactic| walk_at "subscriptTail") => `(tactic| (k_here; (with_reducible show wpAny _ _ (subscriptTail _ _ (Value.ref _) (Value.int (-1) _)) _ _ _); k_dflt (with_unfolding_all refine' item_last ?kN ?km ?_; (case kN => k_asm); (case km => k_mem); k_whole)))
local macro_rules | `(tactic| walk_at "PEnd") => `(tactic| (dsimp only [PEnd]))
local macro_rules | `(tactic| walk_at "PNext") => `(tactic| ((try dsimp only [envOf]); (rename News _ _ _ _ => nE'); (exact PNext.intro (by with_reducible assumption) nE' (by assumption) (by with_unfolding_all rfl) (by first | k_mem | exact (Ext.fst (by assumption)) _ (by assumption)) (by first | exact PileIf.get (by assumption) (by assumption) | exact (Pile.up (by assumption)).sub fun p hp _ => Ext.fst (by assumption) p hp) (by (intro z9 a9 b9 c9; simp [a9, b9, c9])))))
local macro_rules | `(tactic| walk_at "subscriptTail Name Slice ref ref") => `(tactic| (k_here; (with_reducible show wpAny _ _ (subscriptTail _ (PySem.Expr.Slice _ _ none _) (Value.ref _) (Value.ref _)) _ _ _); k_dflt (refine' kms_slice_lit ?F ?N ?l ?p ?q ?e ?_ ?s ?t ?z; (case F => k_asm); (case N => k_asm); (case l => exact News.isList (by k_asm) (by k_mem)); (case p => kmk_part); (case q => kmk_part); (case e => first | exact pick1 | exact pick2); (case s => with_unfolding_all rfl); (case t => kmk_pure); (case z => (first | (rw [List.size_toArray, List.length_append, List.length_append]; simp only [sizeLine_eq, List.length_cons, List.length_nil]; omega) | (rw [List.size_toArray, List.length_append]; simp only [sizeLine_eq, List.length_cons, List.length_nil]; omega) | (simp only [sizeLine_eq, List.length_append, List.length_cons, List.length_nil]; omega)))); intro D' h' F' N' l1; (try k_lt l1); (try k_sweep)))
local macro_rules | `(tactic| walk_at "binaryOp Add ref ref") => `(tactic| (k_here; (with_reducible show wpAny _ _ (binaryOp _ (Value.ref _) (Value.ref _)) _ _ _); k_dflt (refine' kmk_add_lit ?F ?N ?a ?b ?e ?_ ?z; (case F => k_asm); (case N => k_asm); (case a => exact News.isList (by k_asm) (by k_mem)); (case b => exact News.isList (by k_asm) (by k_mem)); (case e => exact cat_eq); (case z => (first | (rw [List.size_toArray, List.length_append, List.length_append]; simp only [sizeLine_eq, List.length_cons, List.length_nil]; omega) | (rw [List.size_toArray, List.length_append]; simp only [sizeLine_eq, List.length_cons, List.length_nil]; omega) | (simp only [sizeLine_eq, List.length_append, List.length_cons, List.length_nil]; omega)))); intro D' h' F' N' l1; (try k_lt l1); (try k_sweep)))
local macro_rules | `(tactic| walk_at "assign Tuple") => `(tactic| (k_here; (with_reducible show wpAny _ _ (assign (Expr.Tuple _ _ _) _ (Value.ref _)) _ _ _); (k_dflt (refine' unpackN_ ?F ?N ?T ?k1 ?k2 ?k3 ?_; (case F => k_asm); (case N => k_asm); (case T => refine News.isTup (by k_asm) (by k_mem)); (case k1 => exact rfl); (case k2 => exact rfl); (case k3 => exact rfl); k_whole)); intro h' F' N'; (try k_sweep)))
local macro_rules | `(tactic| walk_at "storeName") => `(tactic| ((with_reducible show wpAny _ _ (storeName _ _ (Value.int (@ite _ _ _ _ _) (@ite _ _ _ _ _))) _ _ _); (refine max_store ?_); intro w9 t9 hw9 hv9 hu9))
local macro_rules | `(tactic| walk_at "storeName") => `(tactic| ((with_reducible show wpAny _ _ (storeName _ _ (@ite _ _ _ _ _)) _ _ _); (refine max_store2 ?_); intro w9 t9 hw9 hv9 hu9))
local macro_rules | `(tactic| walk_at "binaryOp FloorDiv int int") => `(tactic| (first | (with_reducible refine floordiv_int (D8.ne (by assumption)) ?_) | (with_reducible refine floordiv_int (Int.ne_of_gt (Nm.pa_pos (by assumption))) ?_ (Or.inl (PyProof.noPylong_of_log2 (Nm.lg (by assumption) (by omega)))))))
local macro_rules | `(tactic| walk_at "binaryOp Mult int int") => `(tactic| (with_reducible refine mul_int ?_ (by first | exact IntMulOk.of_right (intBits_le_64 (by omega) (by omega)) | exact IntMulOk.of_left (intBits_le_64 (by omega) (by omega)) | exact Nm.okw (by assumption) (by omega) (by assumption) (by assumption) (by assumption) | exact Nm.okw (by assumption) (by omega) (by assumption) (Or.symm (by assumption)) (by assumption) | mul_fits)))
local macro_rules | `(tactic| walk_at "exec For Tuple Subscript cons nil") => `(tactic| (k_here; (rename Fr _ _ _ _ => lF'); (with_unfolding_all refine' For_turns lF' ?_); k_whole))
local macro_rules | `(tactic| walk_at "exec For Tuple BinOp cons nil") => `(tactic| (k_here; (rename Fr _ _ _ _ => lF'); (with_unfolding_all refine' For_turns lF' ?_); k_whole))
local macro_rules | `(tactic| walk_at "pyIter ref") => `(tactic| (k_here; (with_reducible show wpAny _ _ (pyIter (Value.ref _)) (fun it s₂ => TurnsAt _ _ _ _ _ _ _ _ _ it s₂) _ _); (rename Fr _ _ _ _ => lF'); (rename News _ _ _ _ => lN'); ((with_unfolding_all refine' iter_fits (by rfl) lF' lN' ?hmq3 ?hEq3 ?turnq3 ?doneq3); (case hmq3 => k_mem); (case hEq3 => exact fit_all (Pile.ups (by assumption) (fun p hp => by k_mem)) (by assumption) (by k_mem) (by k_mem) (by k_mem) (by assumption) (by assumption) (by assumption)); (all_goals (clear lF' lN')); (all_goals (first | (intro t9 x9 dx9 μ9 σ9 ta9 tb9 t1 t2 t3 mn9 sq9 pa9 n9 C9 M9 u9 led9 h9 tk9 hn9 hC9 ht9 hx9 hdx9 hN9 F9 N9; (try dsimp only [envOf] at F9 N9); (try k_fold)) | (intro u9 h9 tk9 F9 N9; (try dsimp only [envOf] at F9 N9); (try k_fold)))))))
local macro_rules | `(tactic| walk_at "pyIter ref") => `(tactic| (k_here; (with_reducible show wpAny _ _ (pyIter (Value.ref _)) (fun it s₂ => TurnsAt _ _ _ _ _ _ _ _ _ it s₂) _ _); (rename Fr _ _ _ _ => lF'); (rename News _ _ _ _ => lN'); ((with_unfolding_all refine' iter_sum (by rfl) lF' lN' ?hmq2 (by rfl) (by rfl) (by rfl) (by rfl) ?hxq2 ?hdxq2 ?hNq2 ?hiq2 ?hDq2 ?hEq2 ?hlPq2 ?hPPq2 ?turnq2 ?doneq2); (case hmq2 => k_mem); (case hxq2 => k_mem); (case hdxq2 => k_mem); (case hNq2 => assumption); (case hiq2 => assumption); (case hDq2 => assumption); (case hEq2 => exact ent_up (by assumption) (fun p hp => by k_mem)); (case hPPq2 => exact Pile.ups (by assumption) (fun p hp => by k_mem)); (case hlPq2 => k_mem); (all_goals (clear lF' lN')); (all_goals (first | (intro n9 C9 M9 t9 x9 dx9 μ9 σ9 ta9 tb9 t1 t2 t3 mn9 sq9 pa9 y9 dy9 ν9 τ9 tc9 td9 d1 d2 d3 to9 al9 by9 u9 led9 h9 tk9 hn9 hC9 hM9 ht9 hx9 hdx9 hN9 hy9 hdy9 hA9 F9 N9; (try dsimp only [envOf, sumMap] at F9 N9); (try k_fold)) | (intro n9 C9 M9 y9 dy9 ν9 τ9 tc9 td9 d1 d2 d3 to9 al9 by9 u9 led9 h9 tk9 hn9 hC9 hl9 hP9 hy9 hdy9 hA9 F9 N9; (try dsimp only [envOf, sumMap] at F9 N9); (try k_fold)))))))
local macro_rules | `(tactic| walk_at "SEnd") => `(tactic| (dsimp only [SEnd]))
local macro_rules | `(tactic| walk_at "KEnd") => `(tactic| (dsimp only [KEnd]))
local macro_rules | `(tactic| walk_at "SNext") => `(tactic| ((try dsimp only [envOf]); (rename News _ _ _ _ => nE'); (exact SNext.intro (by with_reducible assumption) nE' (by (repeat (first | exact Ext.refl | refine Ext.cons (ext_ok rfl (by decide)) ?_ | refine Ext.cons (ext_ok2 rfl) ?_))) (by with_unfolding_all rfl) (by with_unfolding_all rfl) (by with_unfolding_all rfl) (by with_unfolding_all rfl) (by k_mem) (by k_mem) (by exact Nm.add (by assumption) (by assumption) (by omega) (by omega) (by assumption) (by assumption) (by omega) (by assumption) (by assumption) (by assumption) rfl) (by (intro z9 a9 b9 c9 d9 e9; have f9 := e9; (simp only [List.contains_cons, List.contains_nil, Bool.or_false, Bool.or_eq_false_iff, beq_eq_false_iff_ne, ne_eq] at e9); simp [a9, b9, c9, d9, e9, sumMap_out a9 b9 c9 d9 f9])))))
local macro_rules | `(tactic| walk_at "KNext") => `(tactic| ((try dsimp only [envOf]); (rename News _ _ _ _ => nE'); (refine KNext.intro (by with_reducible assumption) nE' ?eI ?eS; (case eI => exact fun p hp => by k_mem); (case eS => (intro z9 hz3; (simp only [List.contains_cons, List.contains_nil, Bool.or_false, Bool.or_eq_false_iff, beq_eq_false_iff_ne, ne_eq] at hz3); (simp [hz3]; done))))))

theorem law : PySem.Challenge.rw_oz0056_05.Holds := by
  w_on; o_law
  refine holds_open (q := hd05.view_39) (loose := [Str.ofString "NormalDist"]) (XP := XL hd05.view_39 []) (YP := Hook.says (kHook hd05.heap_39 [2, 3, 43, 45, 46, 48, 49, 50, 57, 58, 59, 60, 70, 71, 72, 74, 75, 77, 78, 79, 81, 82, 84, 85, 86, 87, 88, 89, 90, 92, 93, 95, 96, 97, 99, 100, 102, 103, 104, 106, 107, 109, 110, 111, 113, 114, 116, 117, 118, 119, 121, 122, 124, 125, 126, 128, 129, 131, 132, 133, 135, 136, 138, 139, 140, 142, 143, 145, 146, 147, 148, 150, 151, 153, 154, 155, 156, 158, 159, 161, 162, 163, 164, 166, 167, 169, 170, 171, 172, 174, 175, 177, 178, 179, 180, 182, 183, 185, 186, 187, 189, 190, 192, 193, 194, 196, 197, 199, 200, 201, 203, 204, 206, 207, 208, 210, 211, 213, 214, 215, 217, 218, 220, 221, 222, 224, 225, 227, 228, 229, 231, 232, 234, 235, 236, 238, 239, 241, 242, 243, 245, 246, 248, 249, 250, 252, 253, 255, 256, 257, 259, 260, 262, 263, 264, 269, 270, 271, 272, 275, 277, 278, 280, 281, 282, 284, 285, 287, 288, 289, 291, 292, 294, 295, 296, 298, 299, 301, 302] hk_as)) hd05.left (Hook.of (kHook hd05.heap_39 [2, 3, 43, 45, 46, 48, 49, 50, 57, 58, 59, 60, 70, 71, 72, 74, 75, 77, 78, 79, 81, 82, 84, 85, 86, 87, 88, 89, 90, 92, 93, 95, 96, 97, 99, 100, 102, 103, 104, 106, 107, 109, 110, 111, 113, 114, 116, 117, 118, 119, 121, 122, 124, 125, 126, 128, 129, 131, 132, 133, 135, 136, 138, 139, 140, 142, 143, 145, 146, 147, 148, 150, 151, 153, 154, 155, 156, 158, 159, 161, 162, 163, 164, 166, 167, 169, 170, 171, 172, 174, 175, 177, 178, 179, 180, 182, 183, 185, 186, 187, 189, 190, 192, 193, 194, 196, 197, 199, 200, 201, 203, 204, 206, 207, 208, 210, 211, 213, 214, 215, 217, 218, 220, 221, 222, 224, 225, 227, 228, 229, 231, 232, 234, 235, 236, 238, 239, 241, 242, 243, 245, 246, 248, 249, 250, 252, 253, 255, 256, 257, 259, 260, 262, 263, 264, 269, 270, 271, 272, 275, 277, 278, 280, 281, 282, 284, 285, 287, 288, 289, 291, 292, 294, 295, 296, 298, 299, 301, 302] hk_as)) (Hook.keeps (kHook hd05.heap_39 [2, 3, 43, 45, 46, 48, 49, 50, 57, 58, 59, 60, 70, 71, 72, 74, 75, 77, 78, 79, 81, 82, 84, 85, 86, 87, 88, 89, 90, 92, 93, 95, 96, 97, 99, 100, 102, 103, 104, 106, 107, 109, 110, 111, 113, 114, 116, 117, 118, 119, 121, 122, 124, 125, 126, 128, 129, 131, 132, 133, 135, 136, 138, 139, 140, 142, 143, 145, 146, 147, 148, 150, 151, 153, 154, 155, 156, 158, 159, 161, 162, 163, 164, 166, 167, 169, 170, 171, 172, 174, 175, 177, 178, 179, 180, 182, 183, 185, 186, 187, 189, 190, 192, 193, 194, 196, 197, 199, 200, 201, 203, 204, 206, 207, 208, 210, 211, 213, 214, 215, 217, 218, 220, 221, 222, 224, 225, 227, 228, 229, 231, 232, 234, 235, 236, 238, 239, 241, 242, 243, 245, 246, 248, 249, 250, 252, 253, 255, 256, 257, 259, 260, 262, 263, 264, 269, 270, 271, 272, 275, 277, 278, 280, 281, 282, 284, 285, 287, 288, 289, 291, 292, 294, 295, 296, 298, 299, 301, 302] hk_as)) (fun s e => xl_of s (Bool.and_eq_true_iff.mp e).1) XL.keeps (by rfl) (by rfl) (by rfl) (fun s e => recFacts_of (Bool.and_eq_true_iff.mp e).2) (by rfl) (by first | assumption | decide +kernel) (by decide +kernel) ⟨rfl, rfl, rfl, rfl, rfl, by decide +kernel⟩ ?hw ?hc
  case hw => w_witness2
  rename_i sd9; clear sd9
  w_strict (k_go0; (all_goals try k_fold); k_steps)
  
  
end Mine
end
set_option maxHeartbeats 8000000 in
theorem PySem.Challenge.cw_oz0056_05_holds : PySem.Challenge.rw_oz0056_05.Holds := by
  exact Mine.law
