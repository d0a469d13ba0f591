import JvmDerived
import JvmDerived.Pilot.@@N@@Statement
import JvmDerived.Pilot.@@N@@Code
set_option linter.unusedVariables false
set_option linter.unusedSimpArgs false
@@BLOCK:NumsL.lean.txt@@
namespace Jvm.FP.Core
theorem own_fits_q {s : Bool} {c : Nat} {q : Int} (h : fits b64 (.fin s c q)) : -1074 ≤ q ∧ q ≤ 971 ∧ c < 2 ^ 53 := ⟨h.2.1, h.2.2.1, h.1⟩
def own_U : Nat := 2 ^ 1074
theorem own_U_pos : 0 < own_U := Nat.two_pow_pos 1074
theorem own_U_big : 2 ^ 300 ≤ own_U := Nat.pow_le_pow_right (by decide) (by decide)
theorem own_U_split {i : Nat} (h : i ≤ 1000) : own_U = 2 ^ i * 2 ^ (1074 - i) := by
  unfold own_U; rw [← Nat.pow_add]; congr 1; omega
/-- K * 2^j least units are a double -/
theorem own_rep {K j : Nat} (hK : K < 2 ^ 53) (hj : j ≤ 2045) : ∃ V, fits b64 V ∧ V ≠ .nan ∧ zmag b64 V = K * 2 ^ j := by
  obtain ⟨c, q, e1, e2⟩ := round_exact good_b64 false (c := K) (q := (j : Int) - 1074) hK (by show (-1074 : Int) ≤ _; omega) (by show _ ≤ (971 : Int); omega)
  refine ⟨_, round_fits good_b64 (.fin false K ((j : Int) - 1074)), by rw [e1]; exact Datum.noConfusion, ?_⟩
  rw [e1]
  show inUnits c q b64.qmin = _
  rw [e2]
  show K * 2 ^ ((j : Int) - 1074 - (-1074)).toNat = _
  have : ((j : Int) - 1074 - (-1074)).toNat = j := by omega
  rw [this]
theorem own_lo {s : Bool} {N D K j : Nat} (hD : 0 < D) (hK : K < 2 ^ 53) (hj : j ≤ 2045) (h : K * 2 ^ j * D ≤ N) : K * 2 ^ j ≤ zmag b64 (roundRatio b64 s N D (-1074)) := by
  obtain ⟨V, f, n, e⟩ := own_rep hK hj
  rw [← e]
  refine zmag_roundRatio_ge good_b64 (e0 := -1074) hD f (by decide) (by decide) ?_
  rw [e]
  show K * 2 ^ j * 1 * D ≤ N * 1
  rw [Nat.mul_one, Nat.mul_one]; exact h
theorem own_hi {s : Bool} {N D K j : Nat} (hD : 0 < D) (hK : K < 2 ^ 53) (hj : j ≤ 2045) (h : N ≤ K * 2 ^ j * D) : zmag b64 (roundRatio b64 s N D (-1074)) ≤ K * 2 ^ j := by
  obtain ⟨V, f, n, e⟩ := own_rep hK hj
  rw [← e]
  refine zmag_roundRatio_le good_b64 (e0 := -1074) hD f n (by decide) (by decide) ?_
  rw [e]
  show N * 1 ≤ K * 2 ^ j * 1 * D
  rw [Nat.mul_one, Nat.mul_one]; exact h
/-- one rounding: at most one part in 2^52 -/
theorem own_zinf (t : Bool) : zmag b64 (.inf t) = 2 ^ 2098 := by cases t <;> decide +kernel
theorem own_re {s : Bool} {N D : Nat} (hD : 0 < D) (h1 : 2 ^ 52 * D ≤ N) (h2 : N < 2 ^ 1974 * D) :
    zmag b64 (roundRatio b64 s N D (-1074)) * D * 4503599627370496 ≤ N * 4503599627370497 ∧ N * 4503599627370496 ≤ zmag b64 (roundRatio b64 s N D (-1074)) * D * 4503599627370496 + N ∧ zmag b64 (roundRatio b64 s N D (-1074)) ≤ 2 ^ 1976 := by
  have hm1 : 2 ^ 52 ≤ N / D := (Nat.le_div_iff_mul_le hD).mpr h1
  have hm2 : N / D < 2 ^ 1974 := (Nat.div_lt_iff_lt_mul hD).mpr h2
  have hm0 : N / D ≠ 0 := fun h => by rw [h] at hm1; exact absurd hm1 (by decide)
  have hdm := Nat.div_add_mod N D
  have hmod := Nat.mod_lt N hD
  generalize hm : N / D = m at *
  have hL1 : 2 ^ m.log2 ≤ m := Nat.log2_self_le hm0
  have hL2 : m < 2 ^ (m.log2 + 1) := Nat.lt_log2_self
  have hL3 : 52 ≤ m.log2 := (Nat.le_log2 hm0).mpr hm1
  have hL4 : m.log2 < 1974 := (Nat.log2_lt hm0).mpr hm2
  obtain ⟨k, hk⟩ : ∃ k, m.log2 = k + 52 := ⟨m.log2 - 52, by omega⟩
  rw [hk] at hL1 hL2 hL4
  have e1 : 2 ^ (k + 52) = 2 ^ 52 * 2 ^ k := by rw [Nat.pow_add, Nat.mul_comm]
  have e2 : 2 ^ (k + 52 + 1) = 2 ^ 53 * 2 ^ k := by rw [Nat.add_assoc, Nat.pow_add, Nat.mul_comm]
  rw [e1] at hL1
  rw [e2] at hL2
  have hP : 0 < 2 ^ k := Nat.two_pow_pos k
  have hc1 : 2 ^ 52 ≤ m / 2 ^ k := (Nat.le_div_iff_mul_le hP).mpr hL1
  have hc2 : m / 2 ^ k < 2 ^ 53 := (Nat.div_lt_iff_lt_mul hP).mpr hL2
  have hcd := Nat.div_add_mod m (2 ^ k)
  have hcm := Nat.mod_lt m hP
  generalize hc : m / 2 ^ k = c at *
  have lo : c * 2 ^ k * D ≤ N := by
    have a1 : c * 2 ^ k ≤ m := by rw [Nat.mul_comm]; omega
    have := Nat.mul_le_mul_right D a1
    rw [Nat.mul_comm m D] at this
    omega
  have hi : N ≤ (c + 1) * 2 ^ k * D := by
    have a1 : m + 1 ≤ (c + 1) * 2 ^ k := by rw [Nat.add_mul, Nat.one_mul, Nat.mul_comm c]; omega
    have := Nat.mul_le_mul_right D a1
    rw [Nat.add_mul, Nat.one_mul, Nat.mul_comm m D] at this
    omega
  have zl := own_lo (s := s) hD hc2 (by omega : k ≤ 2045) lo
  have zh : zmag b64 (roundRatio b64 s N D (-1074)) ≤ (c + 1) * 2 ^ k := by
    by_cases g : c + 1 < 2 ^ 53
    · exact own_hi hD g (by omega) hi
    · have gc : c + 1 = 2 ^ 52 * 2 := by omega
      have e3 : 2 ^ (k + 1) = 2 * 2 ^ k := by rw [Nat.pow_succ, Nat.mul_comm]
      have e4 : 2 ^ 52 * 2 ^ (k + 1) = (c + 1) * 2 ^ k := by rw [e3, ← Nat.mul_assoc, ← gc]
      have := own_hi (s := s) (K := 2 ^ 52) (j := k + 1) hD (by decide) (by omega) (by rw [e4]; exact hi)
      rw [e4] at this
      exact this
  generalize zmag b64 (roundRatio b64 s N D (-1074)) = z at *
  have zz : z ≤ 2 ^ 1976 := by
    have a1 : (c + 1) * 2 ^ k ≤ 2 ^ 53 * 2 ^ k := Nat.mul_le_mul_right _ (by omega)
    have a2 : 2 ^ 53 * 2 ^ k = 2 ^ (53 + k) := (Nat.pow_add 2 53 k).symm
    have a3 : 2 ^ (53 + k) ≤ 2 ^ 1976 := Nat.pow_le_pow_right (by decide) (by omega)
    rw [a2] at a1
    exact Nat.le_trans zh (Nat.le_trans a1 a3)
  refine ⟨?_, ?_, zz⟩
  all_goals
    have b1 := Nat.mul_le_mul_right D zh
    have b2 := Nat.mul_le_mul_right D zl
    have b3 : 2 ^ 52 * (2 ^ k * D) ≤ c * (2 ^ k * D) := Nat.mul_le_mul_right _ hc1
    have b4 : (c + 1) * 2 ^ k * D = c * 2 ^ k * D + 2 ^ k * D := by rw [Nat.add_mul, Nat.add_mul, Nat.one_mul]
    rw [b4] at b1 hi
    rw [← Nat.mul_assoc c] at b3
    clear hcd hcm hL1 hL2 hc1 hc2 hc e1 e2 hP zh zl zz hm hm1 hm2 hdm hmod h1 h2
    generalize c * 2 ^ k * D = x at *
    generalize 2 ^ k * D = y at *
    generalize z * D = w at *
    omega
theorem own_tail {s : Bool} {N D : Nat} (hD : 0 < D) (h1 : N = 0 ∨ 2 ^ 52 * D ≤ N) (h2 : N < 2 ^ 1974 * D) :
    (∃ c q, roundRatio b64 s N D (-1074) = .fin s c q) ∧ zmag b64 (roundRatio b64 s N D (-1074)) * D * 4503599627370496 ≤ N * 4503599627370497 ∧ N * 4503599627370496 ≤ zmag b64 (roundRatio b64 s N D (-1074)) * D * 4503599627370496 + N := by
  rcases h1 with rfl | h1
  · have e : roundRatio b64 s 0 D (-1074) = .fin s 0 b64.qmin := by unfold roundRatio; rw [if_pos rfl]
    rw [e]
    refine ⟨⟨_, _, rfl⟩, ?_, ?_⟩
    · show (0 * _) * D * _ ≤ _; rw [Nat.zero_mul, Nat.zero_mul, Nat.zero_mul]; exact Nat.zero_le _
    · rw [Nat.zero_mul]; exact Nat.zero_le _
  · obtain ⟨a, b, c⟩ := own_re (s := s) hD h1 h2
    refine ⟨?_, a, b⟩
    have hs := sgn_roundRatio b64 s N D (-1074)
    have hn := roundRatio_ne_nan b64 s N D (-1074)
    cases h : roundRatio b64 s N D (-1074) with
    | nan => exact absurd h hn
    | inf t =>
      rw [h, own_zinf] at c
      exfalso
      have : (2 : Nat) ^ 1976 < 2 ^ 2098 := Nat.pow_lt_pow_right (by decide) (by decide)
      exact Nat.lt_irrefl _ (Nat.lt_of_lt_of_le this c)
    | fin t c' q' =>
      rw [h] at hs
      exact ⟨c', q', by rw [show t = s from hs]⟩
/-- a finite double that is not below zero; its value -/
def NF (a : UInt64) : Prop := ∃ c q, val64 a = .fin false c q
def rv (a : UInt64) : Rat := ((zmag b64 (val64 a) : Nat) : Rat) / ((own_U : Nat) : Rat)
theorem own_Uq : (0 : Rat) < ((own_U : Nat) : Rat) := Rat.natCast_pos.mpr own_U_pos
theorem own_Uq0 : ((own_U : Nat) : Rat) ≠ 0 := fun h => by have := own_Uq; rw [h] at this; exact absurd this (by decide)
theorem rv_mul_U (a : UInt64) : rv a * ((own_U : Nat) : Rat) = ((zmag b64 (val64 a) : Nat) : Rat) := Rat.div_mul_cancel own_Uq0
theorem rv_nn (a : UInt64) : 0 ≤ rv a := by
  have h : (0 : Rat) ≤ rv a * ((own_U : Nat) : Rat) := by rw [rv_mul_U]; exact Rat.natCast_nonneg
  exact Rat.le_of_mul_le_mul_right (by rw [Rat.zero_mul]; exact h) own_Uq
theorem own_fin {w : UInt64} {N D : Nat} {x : Rat} (hv : val64 w = roundRatio b64 false N D (-1074)) (hD : 0 < D) (hx : x * ((D : Rat) * ((own_U : Nat) : Rat)) = (N : Rat)) (h0 : x = 0 ∨ 1 / 1606938044258990275541962092341162602522202993782792835301376 ≤ x) (h1 : x ≤ 1606938044258990275541962092341162602522202993782792835301376) :
    NF w ∧ (1 - 1 / 4503599627370496) * x ≤ rv w ∧ rv w ≤ (1 + 1 / 4503599627370496) * x := by
  have dq : (0 : Rat) < (D : Rat) := Rat.natCast_pos.mpr hD
  have duq : (0 : Rat) < (D : Rat) * ((own_U : Nat) : Rat) := Rat.mul_pos dq own_Uq
  have c1 : N = 0 ∨ 2 ^ 52 * D ≤ N := by
    rcases h0 with h0 | h0
    · left
      rw [h0, Rat.zero_mul] at hx
      exact_mod_cast hx.symm
    · right
      have a1 : 1 / 1606938044258990275541962092341162602522202993782792835301376 * ((D : Rat) * ((own_U : Nat) : Rat)) ≤ (N : Rat) := by rw [← hx]; exact Rat.mul_le_mul_of_nonneg_right h0 (Rat.le_of_lt duq)
      have a2 : ((2 ^ 300 : Nat) : Rat) ≤ ((own_U : Nat) : Rat) := Rat.natCast_le_natCast.mpr own_U_big
      have a3 : ((2 ^ 300 : Nat) : Rat) * (D : Rat) ≤ ((own_U : Nat) : Rat) * (D : Rat) := Rat.mul_le_mul_of_nonneg_right a2 (Rat.le_of_lt dq)
      have a4 : ((2 ^ 300 : Nat) : Rat) = 2037035976334486086268445688409378161051468393665936250636140449354381299763336706183397376 := by norm_cast
      rw [a4] at a3
      have a5 : ((2 ^ 52 * D : Nat) : Rat) ≤ (N : Rat) := by
        rw [Rat.natCast_mul]
        have a6 : ((2 ^ 52 : Nat) : Rat) = 4503599627370496 := by norm_cast
        rw [a6]
        grind
      exact Rat.natCast_le_natCast.mp a5
  have c2 : N < 2 ^ 1974 * D := by
    have a1 : (N : Rat) ≤ 1606938044258990275541962092341162602522202993782792835301376 * ((D : Rat) * ((own_U : Nat) : Rat)) := by rw [← hx]; exact Rat.mul_le_mul_of_nonneg_right h1 (Rat.le_of_lt duq)
    have a2 : ((N : Nat) : Rat) ≤ ((2 ^ 200 * (D * own_U) : Nat) : Rat) := by
      rw [Rat.natCast_mul, Rat.natCast_mul]
      have a6 : ((2 ^ 200 : Nat) : Rat) = 1606938044258990275541962092341162602522202993782792835301376 := by norm_cast
      rw [a6]; exact a1
    have a3 := Rat.natCast_le_natCast.mp a2
    have a4 : 2 ^ 200 * (D * own_U) = 2 ^ 1274 * D := by
      unfold own_U
      rw [Nat.mul_comm D, ← Nat.mul_assoc, ← Nat.pow_add]
    have a5 : (2 : Nat) ^ 1274 < 2 ^ 1974 := Nat.pow_lt_pow_right (by decide) (by decide)
    exact Nat.lt_of_le_of_lt (a4 ▸ a3) (Nat.mul_lt_mul_of_pos_right a5 hD)
  obtain ⟨⟨c, q, e⟩, t1, t2⟩ := own_tail (s := false) hD c1 c2
  refine ⟨⟨c, q, hv.trans e⟩, ?_, ?_⟩
  all_goals
    rw [← hv] at t1 t2
    have z1 := rv_mul_U w
    have u1 : ((zmag b64 (val64 w) * D * 4503599627370496 : Nat) : Rat) ≤ ((N * 4503599627370497 : Nat) : Rat) := Rat.natCast_le_natCast.mpr t1
    have u2 : ((N * 4503599627370496 : Nat) : Rat) ≤ ((zmag b64 (val64 w) * D * 4503599627370496 + N : Nat) : Rat) := Rat.natCast_le_natCast.mpr t2
    simp only [Rat.natCast_mul, Rat.natCast_add] at u1 u2
    have w1 : (((4503599627370496 : Nat)) : Rat) = 4503599627370496 := by norm_cast
    have w2 : (((4503599627370497 : Nat)) : Rat) = 4503599627370497 := by norm_cast
    rw [w1] at u1 u2
    rw [w2] at u1
    rw [← hx, ← z1] at u1 u2
    refine Rat.le_of_mul_le_mul_right ?_ duq
    generalize rv w = r at *
    generalize ((own_U : Nat) : Rat) = U at *
    generalize (D : Rat) = d at *
    grind
/-- exact results -/
theorem own_exact {w : UInt64} {N D : Nat} {x : Rat} (hv : val64 w = roundRatio b64 false N D (-1074)) (hD : 0 < D) (hx : x * ((D : Rat) * ((own_U : Nat) : Rat)) = (N : Rat)) (K i : Nat) (hK : K < 2 ^ 53) (hi : i ≤ 1000) (hr : x * ((2 ^ i : Nat) : Rat) = (K : Rat)) : NF w ∧ rv w = x := by
  have hN : N = K * 2 ^ (1074 - i) * D := by
    have : ((N : Nat) : Rat) = ((K * 2 ^ (1074 - i) * D : Nat) : Rat) := by
      rw [← hx, own_U_split hi]
      simp only [Rat.natCast_mul]
      rw [← hr]
      grind
    exact_mod_cast this
  have a1 := own_lo (s := false) hD hK (by omega : 1074 - i ≤ 2045) (Nat.le_of_eq hN.symm)
  have a2 := own_hi (s := false) hD hK (by omega : 1074 - i ≤ 2045) (Nat.le_of_eq hN)
  have a3 : zmag b64 (val64 w) = K * 2 ^ (1074 - i) := by rw [hv]; omega
  constructor
  · have hs := sgn_roundRatio b64 false N D (-1074)
    have hn := roundRatio_ne_nan b64 false N D (-1074)
    rw [← hv] at hs hn
    cases h : val64 w with
    | nan => exact absurd h hn
    | inf t =>
      exfalso
      rw [h, own_zinf] at a3
      have b1 : (2 : Nat) ^ (53 + 1074) < 2 ^ 2098 := Nat.pow_lt_pow_right (by decide) (by decide)
      have b2 : K * 2 ^ (1074 - i) ≤ 2 ^ 53 * 2 ^ 1074 := Nat.mul_le_mul (Nat.le_of_lt hK) (Nat.pow_le_pow_right (by decide) (by omega))
      rw [← a3, ← Nat.pow_add] at b2
      exact Nat.lt_irrefl _ (Nat.lt_of_lt_of_le b1 b2)
    | fin t c' q' =>
      rw [h] at hs
      exact ⟨c', q', by rw [h, show t = false from hs]⟩
  · have z1 := rv_mul_U w
    rw [a3, own_U_split hi] at z1
    simp only [Rat.natCast_mul] at z1
    rw [← hr] at z1
    have p1 : (0 : Rat) < ((2 ^ i : Nat) : Rat) * ((2 ^ (1074 - i) : Nat) : Rat) := Rat.mul_pos (Rat.natCast_pos.mpr (Nat.two_pow_pos _)) (Rat.natCast_pos.mpr (Nat.two_pow_pos _))
    have p2 : rv w * (((2 ^ i : Nat) : Rat) * ((2 ^ (1074 - i) : Nat) : Rat)) = x * (((2 ^ i : Nat) : Rat) * ((2 ^ (1074 - i) : Nat) : Rat)) := by rw [z1]; grind
    exact Rat.le_antisymm (Rat.le_of_mul_le_mul_right (by rw [p2]; exact Rat.le_refl) p1) (Rat.le_of_mul_le_mul_right (by rw [p2]; exact Rat.le_refl) p1)
end Jvm.FP.Core
namespace Jvm.FP.Core
theorem own_mulR {a b : UInt64} (ha : NF a) (hb : NF b) : val64 (dmul a b) = roundRatio b64 false (zmag b64 (val64 a) * zmag b64 (val64 b)) own_U (-1074) := by
  obtain ⟨c, q, ha⟩ := ha
  obtain ⟨d, r, hb⟩ := hb
  have fa := val64_fits a
  have fb := val64_fits b
  rw [ha] at fa
  rw [hb] at fb
  have q1 := (own_fits_q fa).1
  have r1 := (own_fits_q fb).1
  rw [val64_dmul, ha, hb]
  show roundRatio b64 (false != false) (c * d) 1 (q + r) = _
  refine roundRatio_congr (by decide) own_U_pos ?_
  show c * d * own_U * 2 ^ (q + r - (-1074)).toNat = c * 2 ^ (q - (-1074)).toNat * (d * 2 ^ (r - (-1074)).toNat) * 1 * 2 ^ ((-1074) - (q + r)).toNat
  have e : 2 ^ 1074 * 2 ^ (q + r - (-1074)).toNat = 2 ^ (q - (-1074)).toNat * 2 ^ (r - (-1074)).toNat * 2 ^ ((-1074) - (q + r)).toNat := by
    rw [← Nat.pow_add, ← Nat.pow_add, ← Nat.pow_add]; congr 1; omega
  unfold own_U
  generalize 2 ^ 1074 = x at *
  generalize 2 ^ (q + r - (-1074)).toNat = y at *
  generalize 2 ^ (q - (-1074)).toNat = z at *
  generalize 2 ^ (r - (-1074)).toNat = w at *
  generalize 2 ^ ((-1074) - (q + r)).toNat = v at *
  calc c * d * x * y = c * d * (x * y) := by rw [Nat.mul_assoc]
    _ = c * d * (z * w * v) := by rw [e]
    _ = c * z * (d * w) * 1 * v := by simp only [Nat.mul_one, Nat.mul_left_comm, Nat.mul_comm, Nat.mul_assoc]
theorem own_sgR {sg : Bool} {n M : Nat} {e : Int} (he : -1074 ≤ e) (h : signed sg (inUnits n e (-1074)) = (M : Int)) (hM : sg = false ∨ 0 < M) : round b64 (.fin sg n e) = roundRatio b64 false M 1 (-1074) := by
  have hs : sg = false := by
    rcases hM with h0 | h0
    · exact h0
    · cases sg with
      | false => rfl
      | true => simp only [signed, if_true] at h; omega
  subst hs
  have h2 : inUnits n e (-1074) = M := by simp only [signed, Bool.false_eq_true, if_false] at h; omega
  show roundRatio b64 false n 1 e = _
  refine roundRatio_congr (by decide) (by decide) ?_
  have a1 : ((-1074) - e).toNat = 0 := by omega
  rw [a1, ← h2]
  unfold inUnits
  rw [Nat.pow_zero, Nat.mul_one, Nat.mul_one, Nat.mul_one]
theorem own_zvalF {c : Nat} {q : Int} : zval b64 (.fin false c q) = (zmag b64 (.fin false c q) : Int) := rfl
theorem own_addR {a b : UInt64} (ha : NF a) (hb : NF b) : val64 (dadd a b) = roundRatio b64 false (zmag b64 (val64 a) + zmag b64 (val64 b)) 1 (-1074) := by
  obtain ⟨c, q, ha⟩ := ha
  obtain ⟨d, r, hb⟩ := hb
  have fa := val64_fits a
  have fb := val64_fits b
  rw [ha] at fa
  rw [hb] at fb
  rw [val64_dadd, ha, hb]
  obtain ⟨sg, n, e, h1, h2, h3⟩ := sum_units fa fb
  rw [h1]
  refine own_sgR h2 ?_ ?_
  · rw [own_zvalF, own_zvalF] at h3
    rw [Int.natCast_add]
    exact h3
  · by_cases g : zmag b64 (.fin false c q) + zmag b64 (.fin false d r) = 0
    · left
      have h1' : Datum.fin (sumSign false false (sumUnits false c q false d r (min q r))) (sumUnits false c q false d r (min q r)).natAbs (min q r) = .fin sg n e := h1
      have h4 : sumSign false false (sumUnits false c q false d r (min q r)) = sg := by injection h1'
      have h5 : 0 ≤ sumUnits false c q false d r (min q r) := by
        unfold sumUnits signed
        simp only [Bool.false_eq_true, if_false]
        omega
      rw [← h4]
      unfold sumSign
      split
      · rfl
      · exact decide_eq_false (by omega)
    · right; omega
theorem own_subR {a b : UInt64} (ha : NF a) (hb : NF b) (hlt : zmag b64 (val64 b) < zmag b64 (val64 a)) : val64 (dsub a b) = roundRatio b64 false (zmag b64 (val64 a) - zmag b64 (val64 b)) 1 (-1074) := by
  obtain ⟨c, q, ha⟩ := ha
  obtain ⟨d, r, hb⟩ := hb
  have fa := val64_fits a
  have fb := negate_fits (val64_fits b)
  rw [ha] at fa
  rw [hb] at fb
  rw [val64_dsub]
  rw [ha, hb] at hlt ⊢
  obtain ⟨sg, n, e, h1, h2, h3⟩ := sum_units (s := false) (t := true) fa fb
  show round b64 (exactSum (.fin false c q) (.fin true d r)) = _
  rw [h1]
  refine own_sgR h2 ?_ (Or.inr (by omega))
  have h4 : zval b64 (.fin true d r) = -((zmag b64 (.fin false d r) : Nat) : Int) := rfl
  rw [own_zvalF, h4] at h3
  have h5 : signed sg (inUnits n e (-1074)) = ((zmag b64 (.fin false c q) : Nat) : Int) + -((zmag b64 (.fin false d r) : Nat) : Int) := h3
  rw [h5]
  omega
theorem own_divR {a b : UInt64} (ha : NF a) (hb : NF b) (h0 : 0 < zmag b64 (val64 b)) : val64 (ddiv a b) = roundRatio b64 false (zmag b64 (val64 a) * own_U) (zmag b64 (val64 b)) (-1074) := by
  obtain ⟨c, q, ha⟩ := ha
  obtain ⟨d, r, hb⟩ := hb
  have fa := val64_fits a
  have fb := val64_fits b
  rw [ha] at fa
  rw [hb] at fb h0
  have q1 := (own_fits_q fa).1
  have r1 := (own_fits_q fb).1
  rw [val64_ddiv, ha, hb]
  have h0' : 0 < d * 2 ^ (r - (-1074)).toNat := h0
  have hd : d ≠ 0 := fun h => by rw [h, Nat.zero_mul] at h0'; exact absurd h0' (by decide)
  show (if d = 0 then _ else roundRatio b64 (false != false) c d (q - r)) = _
  rw [if_neg hd]
  refine roundRatio_congr (Nat.pos_of_ne_zero hd) h0 ?_
  show c * (d * 2 ^ (r - (-1074)).toNat) * 2 ^ (q - r - (-1074)).toNat = c * 2 ^ (q - (-1074)).toNat * own_U * d * 2 ^ ((-1074) - (q - r)).toNat
  have e : 2 ^ (r - (-1074)).toNat * 2 ^ (q - r - (-1074)).toNat = 2 ^ (q - (-1074)).toNat * 2 ^ 1074 * 2 ^ ((-1074) - (q - r)).toNat := by
    rw [← Nat.pow_add, ← Nat.pow_add, ← Nat.pow_add]; congr 1; omega
  unfold own_U
  generalize 2 ^ 1074 = x at *
  generalize 2 ^ (q - r - (-1074)).toNat = y at *
  generalize 2 ^ (q - (-1074)).toNat = z at *
  generalize 2 ^ (r - (-1074)).toNat = w at *
  generalize 2 ^ ((-1074) - (q - r)).toNat = v at *
  calc c * (d * w) * y = c * d * (w * y) := by simp only [Nat.mul_left_comm, Nat.mul_comm, Nat.mul_assoc]
    _ = c * d * (z * x * v) := by rw [e]
    _ = c * z * x * d * v := by simp only [Nat.mul_left_comm, Nat.mul_comm, Nat.mul_assoc]
/-- w is what rounding x gives -/
def Op (w : UInt64) (x : Rat) : Prop := ∃ N D : Nat, 0 < D ∧ val64 w = roundRatio b64 false N D (-1074) ∧ x * ((D : Rat) * ((own_U : Nat) : Rat)) = (N : Rat)
theorem Op.mul {a b : UInt64} (ha : NF a) (hb : NF b) : Op (dmul a b) (rv a * rv b) := by
  refine ⟨_, _, own_U_pos, own_mulR ha hb, ?_⟩
  rw [Rat.natCast_mul, ← rv_mul_U a, ← rv_mul_U b]
  grind
theorem Op.add {a b : UInt64} (ha : NF a) (hb : NF b) : Op (dadd a b) (rv a + rv b) := by
  refine ⟨_, _, by decide, own_addR ha hb, ?_⟩
  rw [Rat.natCast_add, ← rv_mul_U a, ← rv_mul_U b]
  have : ((1 : Nat) : Rat) = 1 := by norm_cast
  rw [this]
  grind
theorem own_rvlt {a b : UInt64} : rv b < rv a ↔ zmag b64 (val64 b) < zmag b64 (val64 a) := by
  rw [← Rat.mul_lt_mul_right own_Uq, rv_mul_U, rv_mul_U, Rat.natCast_lt_natCast]
theorem Op.sub {a b : UInt64} (ha : NF a) (hb : NF b) (h : rv b < rv a) : Op (dsub a b) (rv a - rv b) := by
  have h' := own_rvlt.mp h
  refine ⟨_, _, by decide, own_subR ha hb h', ?_⟩
  have e : ((zmag b64 (val64 a) - zmag b64 (val64 b) : Nat) : Rat) + ((zmag b64 (val64 b) : Nat) : Rat) = ((zmag b64 (val64 a) : Nat) : Rat) := by
    rw [← Rat.natCast_add, Nat.sub_add_cancel (Nat.le_of_lt h')]
  have : ((1 : Nat) : Rat) = 1 := by norm_cast
  rw [this]
  rw [← rv_mul_U a, ← rv_mul_U b] at e
  grind
theorem Op.div {a b : UInt64} (ha : NF a) (hb : NF b) (h : 0 < rv b) : Op (ddiv a b) (rv a * (rv b)⁻¹) := by
  have h' : 0 < zmag b64 (val64 b) := by
    have : (0 : Rat) < ((zmag b64 (val64 b) : Nat) : Rat) := by rw [← rv_mul_U]; exact Rat.mul_pos h own_Uq
    exact Rat.natCast_pos.mp this
  refine ⟨_, _, h', own_divR ha hb h', ?_⟩
  rw [Rat.natCast_mul, ← rv_mul_U a, ← rv_mul_U b]
  have e : (rv b)⁻¹ * rv b = 1 := Rat.inv_mul_cancel _ (fun g => by rw [g] at h; exact absurd h (by decide))
  grind
theorem Op.long {k : Int64} (h : 0 ≤ k.toInt) : Op (l2d k) ((k.toInt.toNat : Nat) : Rat) := by
  have e : val64 (l2d k) = roundRatio b64 (decide (k.toInt < 0)) k.toInt.natAbs 1 0 := val64_l2d k
  rw [decide_eq_false (by omega)] at e
  refine ⟨k.toInt.natAbs * own_U, 1, by decide, e.trans (roundRatio_congr (by decide) (by decide) ?_), ?_⟩
  · show k.toInt.natAbs * 1 * 2 ^ 1074 = k.toInt.natAbs * own_U * 1 * 1
    unfold own_U
    rw [Nat.mul_one, Nat.mul_one, Nat.mul_one]
  · have : k.toInt.natAbs = k.toInt.toNat := by omega
    rw [this, Rat.natCast_mul]
    have : ((1 : Nat) : Rat) = 1 := by norm_cast
    rw [this]
    grind
theorem Op.near {w : UInt64} {x : Rat} (O : Op w x) (h0 : x = 0 ∨ 1 / 1606938044258990275541962092341162602522202993782792835301376 ≤ x) (h1 : x ≤ 1606938044258990275541962092341162602522202993782792835301376) : NF w ∧ (1 - 1 / 4503599627370496) * x ≤ rv w ∧ rv w ≤ (1 + 1 / 4503599627370496) * x := by
  obtain ⟨N, D, hD, hv, hx⟩ := O
  exact own_fin hv hD hx h0 h1
theorem Op.exact {w : UInt64} {x : Rat} (O : Op w x) (K i : Nat) (hK : K < 2 ^ 53) (hi : i ≤ 1000) (hr : x * ((2 ^ i : Nat) : Rat) = (K : Rat)) : NF w ∧ rv w = x := by
  obtain ⟨N, D, hD, hv, hx⟩ := O
  exact own_exact hv hD hx K i hK hi hr
theorem own_const {w : UInt64} {c i : Nat} (h : val64 w = .fin false c (-(i : Int))) (hi : i ≤ 1000) : NF w ∧ rv w * ((2 ^ i : Nat) : Rat) = (c : Rat) := by
  refine ⟨⟨_, _, h⟩, ?_⟩
  have z := rv_mul_U w
  rw [h, own_U_split hi] at z
  have e : zmag b64 (.fin false c (-(i : Int))) = c * 2 ^ (1074 - i) := by
    show c * 2 ^ (-(i : Int) - (-1074)).toNat = _
    congr 2; omega
  rw [e, Rat.natCast_mul, Rat.natCast_mul] at z
  have p : (0 : Rat) < ((2 ^ (1074 - i) : Nat) : Rat) := Rat.natCast_pos.mpr (Nat.two_pow_pos _)
  have z2 : (rv w * ((2 ^ i : Nat) : Rat)) * ((2 ^ (1074 - i) : Nat) : Rat) = (c : Rat) * ((2 ^ (1074 - i) : Nat) : Rat) := by rw [← z]; grind
  exact Rat.le_antisymm (Rat.le_of_mul_le_mul_right (by rw [z2]; exact Rat.le_refl) p) (Rat.le_of_mul_le_mul_right (by rw [z2]; exact Rat.le_refl) p)
end Jvm.FP.Core
namespace Jvm.FP.Core
def Nr (x y : Rat) : Prop := (1 - 1 / 4503599627370496) * x ≤ y ∧ y ≤ (1 + 1 / 4503599627370496) * x
theorem own_small {d t1 t2 t3 r s1 t4 e sl : Rat} (d0 : 0 ≤ d) (d4 : d ≤ 1 / 4) (h1 : Nr (1 / 2 * d * d) t1) (h2 : Nr (1 + d) t2) (h3 : Nr (t1 * t2) t3) (h4 : Nr (d + t3) r) (h5 : Nr (d + t1) s1) (h6 : Nr (t1 * d) t4) (h7 : Nr (s1 + t4) e) (h8 : Nr (e * (1 / 562949953421312)) sl) : r - e ≤ sl ∧ e - r ≤ sl := by
  obtain ⟨P, hP⟩ : ∃ P, P = 1 / 2 * d * d := ⟨_, rfl⟩
  obtain ⟨Q, hQ⟩ : ∃ Q, Q = P * d := ⟨_, rfl⟩
  have dd : d * d ≤ 1 / 4 * d := Rat.mul_le_mul_of_nonneg_right d4 d0
  have dd0 : 0 ≤ d * d := Rat.mul_nonneg d0 d0
  have P0 : 0 ≤ P := by rw [hP]; grind
  have P1 : P ≤ 1 / 8 * d := by rw [hP]; grind
  have Q0 : 0 ≤ Q := by rw [hQ]; exact Rat.mul_nonneg P0 d0
  have Q1 : Q ≤ 1 / 4 * P := by
    have := Rat.mul_le_mul_of_nonneg_left d4 P0
    rw [hQ]; grind
  unfold Nr at *
  rw [← hP] at h1
  have t10 : 0 ≤ t1 := by grind
  have t20 : 0 ≤ t2 := by grind
  -- t1 * d
  have a1 := Rat.mul_le_mul_of_nonneg_right h1.1 d0
  have a2 := Rat.mul_le_mul_of_nonneg_right h1.2 d0
  -- t1 * t2
  have b1 := Rat.mul_le_mul_of_nonneg_right h1.1 t20
  have b2 := Rat.mul_le_mul_of_nonneg_right h1.2 t20
  have b3 := Rat.mul_le_mul_of_nonneg_left h2.1 P0
  have b4 := Rat.mul_le_mul_of_nonneg_left h2.2 P0
  have c1 : (1 - 1 / 4503599627370496) * Q ≤ t1 * d := by grind
  have c2 : t1 * d ≤ (1 + 1 / 4503599627370496) * Q := by grind
  have c3 : (1 - 1 / 4503599627370496) * (P + Q) ≤ P * t2 := by grind
  have c4 : P * t2 ≤ (1 + 1 / 4503599627370496) * (P + Q) := by grind
  have c5 : (1 - 1 / 4503599627370496) * (P * t2) ≤ t1 * t2 := by grind
  have c6 : t1 * t2 ≤ (1 + 1 / 4503599627370496) * (P * t2) := by grind
  clear a1 a2 b1 b2 b3 b4 hP hQ dd dd0
  generalize t1 * d = w1 at *
  generalize t1 * t2 = w2 at *
  generalize P * t2 = w3 at *
  obtain ⟨h1a, h1b⟩ := h1
  obtain ⟨h3a, h3b⟩ := h3
  obtain ⟨h4a, h4b⟩ := h4
  obtain ⟨h5a, h5b⟩ := h5
  obtain ⟨h6a, h6b⟩ := h6
  obtain ⟨h7a, h7b⟩ := h7
  obtain ⟨h8a, h8b⟩ := h8
  clear h2
  constructor <;> grind
/-- the other road: r against F = d + T, e against F -/
theorem own_large {d T t r e sl F dd : Rat} (d0 : 0 ≤ d) (T0 : 0 ≤ T) (hF : F = d + T) (h1 : Nr T dd) (h2 : Nr dd t) (h3 : Nr (d + t) r) (e1 : (1 - 4 / 4503599627370496) * F ≤ e) (e2 : e ≤ (1 + 4 / 4503599627370496) * F) (h8 : Nr (e * (1 / 562949953421312)) sl) : r - e ≤ sl ∧ e - r ≤ sl := by
  unfold Nr at *
  obtain ⟨h1a, h1b⟩ := h1
  obtain ⟨h2a, h2b⟩ := h2
  obtain ⟨h3a, h3b⟩ := h3
  obtain ⟨h8a, h8b⟩ := h8
  constructor <;> grind
theorem own_three {G g p v e d : Rat} (d0 : 0 ≤ d) (v0 : 0 ≤ v) (G0 : 0 ≤ 2 - d) (hG : G = d * (2 - d) * v) (h1 : Nr (2 - d) g) (h2 : Nr (d * g) p) (h3 : Nr (p * v) e) : (1 - 4 / 4503599627370496) * G ≤ e ∧ e ≤ (1 + 4 / 4503599627370496) * G := by
  unfold Nr at *
  have g0 : 0 ≤ G := by rw [hG]; exact Rat.mul_nonneg (Rat.mul_nonneg d0 G0) v0
  have a1 := Rat.mul_le_mul_of_nonneg_left h1.1 d0
  have a2 := Rat.mul_le_mul_of_nonneg_left h1.2 d0
  have dv := Rat.mul_nonneg d0 v0
  have b1 := Rat.mul_le_mul_of_nonneg_right a1 v0
  have b2 := Rat.mul_le_mul_of_nonneg_right a2 v0
  have c1 := Rat.mul_le_mul_of_nonneg_right h2.1 v0
  have c2 := Rat.mul_le_mul_of_nonneg_right h2.2 v0
  have f1 : (1 - 1 / 4503599627370496) * G ≤ d * g * v := by rw [hG]; grind
  have f2 : d * g * v ≤ (1 + 1 / 4503599627370496) * G := by rw [hG]; grind
  have f3 : (1 - 1 / 4503599627370496) * (d * g * v) ≤ p * v := by grind
  have f4 : p * v ≤ (1 + 1 / 4503599627370496) * (d * g * v) := by grind
  obtain ⟨h3a, h3b⟩ := h3
  clear a1 a2 b1 b2 c1 c2 h1 h2 hG
  generalize d * g * v = w1 at *
  generalize p * v = w2 at *
  constructor <;> grind
end Jvm.FP.Core
namespace Jvm.FP.Core
abbrev cH : UInt64 := 4602678819172646912
abbrev cQ : UInt64 := 4598175219545276416
abbrev c2 : UInt64 := 4611686018427387904
abbrev c49 : UInt64 := 4386506037058863104
abbrev c53 : UInt64 := 4368491638549381120
abbrev c16 : UInt64 := 4535124824762089472
theorem own_cst {w : UInt64} (i : Nat) (P : Rat) (hP : ((2 ^ i : Nat) : Rat) = P) (hP0 : 0 < P) (h : val64 w = .fin false 4503599627370496 (-(i : Int))) (hi : i ≤ 1000) (v : Rat) (hv : v * P = 4503599627370496) : NF w ∧ rv w = v := by
  obtain ⟨a, b⟩ := own_const h hi
  refine ⟨a, ?_⟩
  rw [hP] at b
  have e : ((4503599627370496 : Nat) : Rat) = 4503599627370496 := by norm_cast
  rw [e, ← hv] at b
  exact Rat.le_antisymm (Rat.le_of_mul_le_mul_right (by rw [b]; exact Rat.le_refl) hP0) (Rat.le_of_mul_le_mul_right (by rw [b]; exact Rat.le_refl) hP0)
theorem own_cH : NF cH ∧ rv cH = 1 / 2 := own_cst 53 9007199254740992 (by norm_cast) (by grind) (by decide +kernel) (by decide) _ (by grind)
theorem own_cQ : NF cQ ∧ rv cQ = 1 / 4 := own_cst 54 18014398509481984 (by norm_cast) (by grind) (by decide +kernel) (by decide) _ (by grind)
theorem own_c1 : NF dconst1 ∧ rv dconst1 = 1 := own_cst 52 4503599627370496 (by norm_cast) (by grind) (by decide +kernel) (by decide) _ (by grind)
theorem own_c2 : NF c2 ∧ rv c2 = 2 := own_cst 51 2251799813685248 (by norm_cast) (by grind) (by decide +kernel) (by decide) _ (by grind)
theorem own_c49 : NF c49 ∧ rv c49 = 1 / 562949953421312 := own_cst 101 2535301200456458802993406410752 (by norm_cast) (by grind) (by decide +kernel) (by decide) _ (by grind)
theorem own_c53 : NF c53 ∧ rv c53 = 1 / 9007199254740992 := own_cst 105 40564819207303340847894502572032 (by norm_cast) (by grind) (by decide +kernel) (by decide) _ (by grind)
theorem own_c16 : NF c16 ∧ rv c16 = 1 / 65536 := own_cst 68 295147905179352825856 (by norm_cast) (by grind) (by decide +kernel) (by decide) _ (by grind)
/-- a double that is K / 2^53 -/
def Dom (D : UInt64) (d : Rat) (K : Nat) : Prop := NF D ∧ rv D = d ∧ K < 2 ^ 53 ∧ d * 9007199254740992 = (K : Rat)
theorem Dom.low {D : UInt64} {d : Rat} {K : Nat} (h : Dom D d K) : d = 0 ∨ 1 / 9007199254740992 ≤ d := by
  obtain ⟨-, -, -, h4⟩ := h
  rcases Nat.eq_zero_or_pos K with h0 | h0
  · left
    rw [h0] at h4
    have : ((0 : Nat) : Rat) = 0 := by norm_cast
    rw [this] at h4
    grind
  · right
    have : ((1 : Nat) : Rat) ≤ (K : Rat) := Rat.natCast_le_natCast.mpr h0
    have e : ((1 : Nat) : Rat) = 1 := by norm_cast
    rw [e] at this
    grind
theorem Dom.nn {D : UInt64} {d : Rat} {K : Nat} (h : Dom D d K) : 0 ≤ d := by rw [← h.2.1]; exact rv_nn D
theorem Dom.lt1 {D : UInt64} {d : Rat} {K : Nat} (h : Dom D d K) : d ≤ 1 - 1 / 9007199254740992 := by
  obtain ⟨-, -, h3, h4⟩ := h
  have : (K : Rat) ≤ ((9007199254740991 : Nat) : Rat) := Rat.natCast_le_natCast.mpr (by omega)
  have e : ((9007199254740991 : Nat) : Rat) = 9007199254740991 := by norm_cast
  rw [e] at this
  grind
/-- the road below a quarter -/
theorem own_S {D hh t1 t2 t3 r s1 t4 e sl : UInt64} {d : Rat} {K : Nat} (h : Dom D d K) (d4 : d ≤ 1 / 4) (e1 : hh = dmul cH D) (e2 : t1 = dmul hh D) (e3 : t2 = dadd dconst1 D) (e4 : t3 = dmul t1 t2) (e5 : r = dadd D t3) (e6 : s1 = dadd D t1) (e7 : t4 = dmul t1 D) (e8 : e = dadd s1 t4) (e9 : sl = dmul e c49) :
    NF hh ∧ NF t1 ∧ NF t2 ∧ NF t3 ∧ NF r ∧ NF s1 ∧ NF t4 ∧ NF e ∧ NF sl ∧ rv r - rv e ≤ rv sl ∧ rv e - rv r ≤ rv sl := by
  have d0 := h.nn
  have dl := h.low
  obtain ⟨fD, vD, hK, hd⟩ := h
  obtain ⟨f1, v1⟩ := (Op.mul own_cH.1 fD).exact K 54 hK (by decide) (by
    have : ((2 ^ 54 : Nat) : Rat) = 18014398509481984 := by norm_cast
    rw [this, own_cH.2, vD, ← hd]; grind)
  rw [own_cH.2, vD, ← e1] at v1
  rw [← e1] at f1
  have q0 : d * d = 0 ∨ 1 / 81129638414606681695789005144064 ≤ d * d := by
    rcases dl with g | g
    · left; rw [g]; grind
    · right
      have a1 := Rat.mul_le_mul_of_nonneg_right g d0
      grind
  have q1 : d * d ≤ 1 / 16 := by
    have a1 := Rat.mul_le_mul_of_nonneg_right d4 d0
    grind
  have O1 := Op.mul f1 fD
  rw [v1, vD, ← e2] at O1
  obtain ⟨f2, n1⟩ := O1.near (by rcases q0 with g | g; (left; grind); (right; grind)) (by grind)
  have O2 := Op.add own_c1.1 fD
  rw [own_c1.2, vD, ← e3] at O2
  obtain ⟨f3, n2⟩ := O2.near (by right; grind) (by grind)
  have t10 : rv t1 = 0 ∨ 1 / 649037107316853453566312041152512 ≤ rv t1 := by rcases q0 with g | g; (left; grind); (right; grind)
  have t1u : rv t1 ≤ 1 := by grind
  have t2l : 1 / 2 ≤ rv t2 := by grind
  have t2u : rv t2 ≤ 2 := by grind
  have t1n := rv_nn t1
  have t2n := rv_nn t2
  have O3 := Op.mul f2 f3
  rw [← e4] at O3
  have p1 : rv t1 * rv t2 = 0 ∨ 1 / 1298074214633706907132624082305024 ≤ rv t1 * rv t2 := by
    rcases t10 with g | g
    · left; rw [g]; grind
    · right
      have a1 := Rat.mul_le_mul_of_nonneg_right g t2n
      grind
  have p2 : rv t1 * rv t2 ≤ 2 := by
    have a1 := Rat.mul_le_mul_of_nonneg_right t1u t2n
    grind
  obtain ⟨f4, n3⟩ := O3.near (by rcases p1 with g | g; (left; grind); (right; grind)) (by grind)
  have t3n := rv_nn t3
  have z0 : d = 0 → rv t1 = 0 := by intro g; rw [g] at n1; grind
  have z1 : d = 0 → rv t3 = 0 := by intro g; rw [z0 g] at n3; grind
  have O4 := Op.add fD f4
  rw [vD, ← e5] at O4
  obtain ⟨f5, n4⟩ := O4.near (by
    rcases dl with g | g
    · left; rw [z1 g, g]; grind
    · right; grind) (by grind)
  have O5 := Op.add fD f2
  rw [vD, ← e6] at O5
  obtain ⟨f6, n5⟩ := O5.near (by
    rcases dl with g | g
    · left; rw [z0 g, g]; grind
    · right; grind) (by grind)
  have O6 := Op.mul f2 fD
  rw [vD, ← e7] at O6
  have p3 : rv t1 * d = 0 ∨ 1 / 10000000000000000000000000000000000000000000000000000000 ≤ rv t1 * d := by
    rcases dl with g | g
    · left; rw [g]; grind
    · rcases t10 with g2 | g2
      · left; rw [g2]; grind
      · right
        have a1 := Rat.mul_le_mul_of_nonneg_right g2 d0
        grind
  have p4 : rv t1 * d ≤ 1 := by
    have a1 := Rat.mul_le_mul_of_nonneg_right t1u d0
    grind
  obtain ⟨f7, n6⟩ := O6.near (by rcases p3 with g | g; (left; grind); (right; grind)) (by grind)
  have s1n := rv_nn s1
  have t4n := rv_nn t4
  have z2 : d = 0 → rv s1 = 0 := by intro g; rw [z0 g, g] at n5; grind
  have z3 : d = 0 → rv t4 = 0 := by intro g; rw [z0 g, g] at n6; grind
  have O7 := Op.add f6 f7
  rw [← e8] at O7
  obtain ⟨f8, n7⟩ := O7.near (by
    rcases dl with g | g
    · left; rw [z2 g, z3 g]; grind
    · right; grind) (by grind)
  have z4 : d = 0 → rv e = 0 := by intro g; rw [z2 g, z3 g] at n7; grind
  have O8 := Op.mul f8 own_c49.1
  rw [own_c49.2, ← e9] at O8
  obtain ⟨f9, n8⟩ := O8.near (by
    rcases dl with g | g
    · left; rw [z4 g]; grind
    · right; grind) (by grind)
  have fin := own_small d0 d4 n1 n2 n3 n4 n5 n6 n7 n8
  exact ⟨f1, f2, f3, f4, f5, f6, f7, f8, f9, fin.1, fin.2⟩
end Jvm.FP.Core
namespace Jvm.FP.Core
/-- the road above a quarter -/
theorem own_L {D dd w0 w t r : UInt64} {d : Rat} {K : Nat} (h : Dom D d K) (d4 : 1 / 4 < d) (e1 : dd = dmul D D) (e2 : w0 = dsub dconst1 D) (e3 : w = dmul c2 w0) (e4 : t = ddiv dd w) (e5 : r = dadd D t) :
    NF dd ∧ NF w0 ∧ NF w ∧ NF t ∧ NF r ∧ ∃ v dv : Rat, v = (rv w)⁻¹ ∧ 1 / 2 ≤ v ∧ v ≤ 4503599627370496 ∧ (2 * (1 - d)) * v = 1 ∧ 0 < rv w ∧ Nr (d * d * v) dv ∧ Nr dv (rv t) ∧ Nr (d + rv t) (rv r) := by
  have d0 := h.nn
  have d1 := h.lt1
  obtain ⟨fD, vD, hK, hd⟩ := h
  have q0 : 1 / 16 ≤ d * d := by
    have a1 := Rat.mul_le_mul_of_nonneg_right (Rat.le_of_lt d4) d0
    grind
  have q1 : d * d ≤ 1 := by
    have a1 := Rat.mul_le_mul_of_nonneg_right d1 d0
    grind
  have O1 := Op.mul fD fD
  rw [vD, ← e1] at O1
  obtain ⟨f1, n1⟩ := O1.near (by right; grind) (by grind)
  have hKc : (((2 ^ 53 - K : Nat)) : Rat) = 9007199254740992 - (K : Rat) := by
    have : (((2 ^ 53 - K : Nat)) : Rat) + (K : Rat) = ((2 ^ 53 : Nat) : Rat) := by rw [← Rat.natCast_add, Nat.sub_add_cancel (Nat.le_of_lt hK)]
    have e : ((2 ^ 53 : Nat) : Rat) = 9007199254740992 := by norm_cast
    rw [e] at this
    grind
  have O2 := Op.sub own_c1.1 fD (by rw [own_c1.2, vD]; grind)
  rw [own_c1.2, vD, ← e2] at O2
  by_cases hK0 : K = 0
  · exfalso
    rw [hK0] at hd
    have : ((0 : Nat) : Rat) = 0 := by norm_cast
    rw [this] at hd
    grind
  obtain ⟨f2, v2⟩ := O2.exact (2 ^ 53 - K) 53 (by omega) (by decide) (by
    have : ((2 ^ 53 : Nat) : Rat) = 9007199254740992 := by norm_cast
    rw [hKc, this, ← hd]; grind)
  have O3 := Op.mul own_c2.1 f2
  rw [own_c2.2, v2, ← e3] at O3
  obtain ⟨f3, v3⟩ := O3.exact (2 ^ 53 - K) 52 (by omega) (by decide) (by
    have : ((2 ^ 52 : Nat) : Rat) = 4503599627370496 := by norm_cast
    rw [hKc, this, ← hd]; grind)
  have w0 : 0 < rv w := by rw [v3]; grind
  have wv : rv w * (rv w)⁻¹ = 1 := Rat.mul_inv_cancel _ (fun g => by rw [g] at w0; exact absurd w0 (by decide))
  have v0 : 0 ≤ (rv w)⁻¹ := by
    rcases Rat.le_total (a := 0) (b := (rv w)⁻¹) with g | g
    · exact g
    · have := Rat.mul_le_mul_of_nonneg_left g (Rat.le_of_lt w0)
      grind
  have O4 := Op.div f1 f3 w0
  rw [← e4] at O4
  rw [v3] at wv
  obtain ⟨v, hv⟩ : ∃ v, v = (rv w)⁻¹ := ⟨_, rfl⟩
  rw [v3] at hv
  rw [v3, ← hv] at O4
  rw [← hv] at wv
  rw [v3, ← hv] at v0
  have vl : 1 / 2 ≤ v := by
    have a1 : 2 * (1 - d) ≤ 2 := by grind
    have a2 := Rat.mul_le_mul_of_nonneg_right a1 v0
    grind
  have vu : v ≤ 4503599627370496 := by
    have a1 : 1 / 4503599627370496 ≤ 2 * (1 - d) := by grind
    have a2 := Rat.mul_le_mul_of_nonneg_right a1 v0
    grind
  have ddl : 1 / 32 ≤ rv dd := by grind
  have ddu : rv dd ≤ 2 := by grind
  have x1 : 1 / 64 ≤ rv dd * v := by
    have a2 := Rat.mul_le_mul_of_nonneg_right ddl v0
    grind
  have x2 : rv dd * v ≤ 9007199254740992 := by
    have a2 := Rat.mul_le_mul_of_nonneg_right ddu v0
    grind
  obtain ⟨f4, n4⟩ := O4.near (by right; grind) (by grind)
  have tn := rv_nn t
  have O5 := Op.add fD f4
  rw [vD, ← e5] at O5
  obtain ⟨f5, n5⟩ := O5.near (by right; grind) (by grind)
  have n1a := Rat.mul_le_mul_of_nonneg_right n1.1 v0
  have n1b := Rat.mul_le_mul_of_nonneg_right n1.2 v0
  refine ⟨f1, f2, f3, f4, f5, v, rv dd * v, by rw [v3]; exact hv, vl, vu, wv, w0, ⟨?_, ?_⟩, n4, n5⟩
  · clear n1b; grind
  · clear n1a; grind
/-- what is compared with it -/
theorem own_C {r e sl t : UInt64} {d v dv F : Rat} (d0 : 1 / 4 < d) (d1 : d ≤ 1) (vl : 1 / 2 ≤ v) (vu : v ≤ 4503599627370496) (hF : F = d + d * d * v) (h1 : Nr (d * d * v) dv) (h2 : Nr dv (rv t)) (h3 : Nr (d + rv t) (rv r)) (fe : NF e) (ea : (1 - 4 / 4503599627370496) * F ≤ rv e) (eb : rv e ≤ (1 + 4 / 4503599627370496) * F) (e9 : sl = dmul e c49) :
    NF sl ∧ rv r - rv e ≤ rv sl ∧ rv e - rv r ≤ rv sl := by
  have dn : 0 ≤ d := by grind
  have vn : 0 ≤ v := by grind
  have q0 : 0 ≤ d * d := Rat.mul_nonneg dn dn
  have T0 : 0 ≤ d * d * v := Rat.mul_nonneg q0 vn
  have q1 : d * d ≤ 1 := by
    have a1 := Rat.mul_le_mul_of_nonneg_right d1 dn
    grind
  have T1 : d * d * v ≤ 4503599627370496 := by
    have a1 := Rat.mul_le_mul_of_nonneg_right q1 vn
    grind
  have O8 := Op.mul fe own_c49.1
  rw [own_c49.2, ← e9] at O8
  obtain ⟨f9, n8⟩ := O8.near (by right; grind) (by grind)
  have fin := own_large dn T0 hF h1 h2 h3 ea eb n8
  exact ⟨f9, fin.1, fin.2⟩
theorem own_R {D w g p e : UInt64} {d v : Rat} {K : Nat} (h : Dom D d K) (d4 : 1 / 4 < d) (fw : NF w) (hv : v = (rv w)⁻¹) (w0' : 0 < rv w) (vl : 1 / 2 ≤ v) (vu : v ≤ 4503599627370496) (e1 : g = dsub c2 D) (e2 : p = dmul D g) (e3 : e = ddiv p w) :
    NF g ∧ NF p ∧ NF e ∧ (1 - 4 / 4503599627370496) * (d * (2 - d) * v) ≤ rv e ∧ rv e ≤ (1 + 4 / 4503599627370496) * (d * (2 - d) * v) := by
  have d0 := h.nn
  have d1 := h.lt1
  obtain ⟨fD, vD, hK, hd⟩ := h
  have vn : 0 ≤ v := by grind
  have O1 := Op.sub own_c2.1 fD (by rw [own_c2.2, vD]; grind)
  rw [own_c2.2, vD, ← e1] at O1
  obtain ⟨f1, n1⟩ := O1.near (by right; grind) (by grind)
  have gl : 1 / 2 ≤ rv g := by grind
  have gu : rv g ≤ 3 := by grind
  have gn := rv_nn g
  have O2 := Op.mul fD f1
  rw [vD, ← e2] at O2
  have x1 : 1 / 8 ≤ d * rv g := by
    have a := Rat.mul_le_mul_of_nonneg_right (Rat.le_of_lt d4) gn
    grind
  have x2 : d * rv g ≤ 3 := by
    have a := Rat.mul_le_mul_of_nonneg_right (show d ≤ 1 by grind) gn
    grind
  obtain ⟨f2, n2⟩ := O2.near (by right; grind) (by grind)
  have pl : 1 / 16 ≤ rv p := by grind
  have pu : rv p ≤ 4 := by grind
  have O3 := Op.div f2 fw w0'
  rw [← hv, ← e3] at O3
  have x3 : 1 / 32 ≤ rv p * v := by
    have a := Rat.mul_le_mul_of_nonneg_right pl vn
    grind
  have x4 : rv p * v ≤ 18014398509481984 := by
    have a := Rat.mul_le_mul_of_nonneg_right pu vn
    grind
  obtain ⟨f3, n3⟩ := O3.near (by right; grind) (by grind)
  have fin := own_three (G := d * (2 - d) * v) d0 vn (by grind) rfl n1 n2 n3
  exact ⟨f1, f2, f3, fin.1, fin.2⟩
theorem own_FG {d v : Rat} (h : (2 * (1 - d)) * v = 1) : d * (2 - d) * v = d + d * d * v := by
  have : d * ((2 * (1 - d)) * v) = d := by rw [h]; grind
  grind
/-- a whole number below 2^53 -/
theorem own_i {k : Int64} (h0 : 0 ≤ k.toInt) (h1 : k.toInt < 2 ^ 53) : NF (l2d k) ∧ rv (l2d k) = ((k.toInt.toNat : Nat) : Rat) :=
  (Op.long h0).exact k.toInt.toNat 0 (by omega) (by decide) (by
    have : ((2 ^ 0 : Nat) : Rat) = 1 := by norm_cast
    rw [this]; grind)
theorem own_dom53 {k : Int64} (h0 : 0 ≤ k.toInt) (h1 : k.toInt < 2 ^ 53) : Dom (dmul (l2d k) c53) (((k.toInt.toNat : Nat) : Rat) * (1 / 9007199254740992)) k.toInt.toNat := by
  obtain ⟨f, v⟩ := own_i h0 h1
  have O := Op.mul f own_c53.1
  rw [v, own_c53.2] at O
  obtain ⟨f2, v2⟩ := O.exact k.toInt.toNat 53 (by omega) (by decide) (by
    have : ((2 ^ 53 : Nat) : Rat) = 9007199254740992 := by norm_cast
    rw [this]; grind)
  exact ⟨f2, v2, by omega, by grind⟩
theorem own_dom16 {a : Int64} (h0 : 0 ≤ a.toInt) (h1 : a.toInt < 65536) : Dom (dmul (l2d a) c16) (((a.toInt.toNat : Nat) : Rat) * (1 / 65536)) (a.toInt.toNat * 137438953472) := by
  obtain ⟨f, v⟩ := own_i h0 (by omega)
  have O := Op.mul f own_c16.1
  rw [v, own_c16.2] at O
  obtain ⟨f2, v2⟩ := O.exact a.toInt.toNat 16 (by omega) (by decide) (by
    have : ((2 ^ 16 : Nat) : Rat) = 65536 := by norm_cast
    rw [this]; grind)
  refine ⟨f2, v2, by omega, ?_⟩
  rw [Rat.natCast_mul]
  have : ((137438953472 : Nat) : Rat) = 137438953472 := by norm_cast
  rw [this]; grind
/-- on the grid below a quarter: exact -/
theorem own_X {D hh t1 t2 t3 r n : UInt64} {a num : Int64} (h0 : 0 ≤ a.toInt) (h1 : a.toInt ≤ 16384) (eD : D = dmul (l2d a) c16) (e1 : hh = dmul cH D) (e2 : t1 = dmul hh D) (e3 : t2 = dadd dconst1 D) (e4 : t3 = dmul t1 t2) (e5 : r = dadd D t3) (hn : num.toInt = a.toInt * 8589934592 + a.toInt * a.toInt * 65536 + a.toInt * a.toInt * a.toInt) (e6 : n = dmul (l2d num) c49) : NF r ∧ NF n ∧ rv r = rv n := by
  obtain ⟨A, hA⟩ : ∃ A : Nat, a.toInt = (A : Int) := ⟨a.toInt.toNat, by omega⟩
  have hA2 : A ≤ 16384 := by omega
  have hAA : A * A ≤ 16384 * 16384 := Nat.mul_le_mul hA2 hA2
  have hAAA : A * A * A ≤ 16384 * 16384 * 16384 := Nat.mul_le_mul hAA hA2
  have hnum : num.toInt = ((A * 8589934592 + A * A * 65536 + A * A * A : Nat) : Int) := by
    have k1 : ((8589934592 : Nat) : Int) = 8589934592 := rfl
    have k2 : ((65536 : Nat) : Int) = 65536 := rfl
    rw [hn, hA]; simp only [Int.natCast_add, Int.natCast_mul, k1, k2]
  have dm := own_dom16 h0 (by omega)
  rw [← eD, hA] at dm
  have tA : (A : Int).toNat = A := by omega
  rw [tA] at dm
  obtain ⟨fD, vD, -, -⟩ := dm
  have c65 : ((65536 : Nat) : Rat) = 65536 := by norm_cast
  have O1 := Op.mul own_cH.1 fD
  rw [own_cH.2, vD, ← e1] at O1
  obtain ⟨f1, v1⟩ := O1.exact A 17 (by omega) (by decide) (by
    have : ((2 ^ 17 : Nat) : Rat) = 131072 := by norm_cast
    rw [this]; grind)
  have O2 := Op.mul f1 fD
  rw [v1, vD, ← e2] at O2
  obtain ⟨f2, v2⟩ := O2.exact (A * A) 33 (by omega) (by decide) (by
    have : ((2 ^ 33 : Nat) : Rat) = 8589934592 := by norm_cast
    rw [this, Rat.natCast_mul]; grind)
  have O3 := Op.add own_c1.1 fD
  rw [own_c1.2, vD, ← e3] at O3
  obtain ⟨f3, v3⟩ := O3.exact (65536 + A) 16 (by omega) (by decide) (by
    have : ((2 ^ 16 : Nat) : Rat) = 65536 := by norm_cast
    rw [this, Rat.natCast_add, c65]; grind)
  have O4 := Op.mul f2 f3
  rw [v2, v3, ← e4] at O4
  obtain ⟨f4, v4⟩ := O4.exact (A * A * 65536 + A * A * A) 49 (by omega) (by decide) (by
    have : ((2 ^ 49 : Nat) : Rat) = 562949953421312 := by norm_cast
    simp only [this, Rat.natCast_mul, Rat.natCast_add, c65]; grind)
  have O5 := Op.add fD f4
  rw [v4, vD, ← e5] at O5
  obtain ⟨f5, v5⟩ := O5.exact (A * 8589934592 + A * A * 65536 + A * A * A) 49 (by omega) (by decide) (by
    have : ((2 ^ 49 : Nat) : Rat) = 562949953421312 := by norm_cast
    have c3 : ((8589934592 : Nat) : Rat) = 8589934592 := by norm_cast
    simp only [this, Rat.natCast_mul, Rat.natCast_add, c65, c3]; grind)
  obtain ⟨f6, v6⟩ := own_i (k := num) (by omega) (by omega)
  have tn : num.toInt.toNat = A * 8589934592 + A * A * 65536 + A * A * A := by omega
  rw [tn] at v6
  have O7 := Op.mul f6 own_c49.1
  rw [v6, own_c49.2, ← e6] at O7
  obtain ⟨f7, v7⟩ := O7.exact (A * 8589934592 + A * A * 65536 + A * A * A) 49 (by omega) (by decide) (by
    have : ((2 ^ 49 : Nat) : Rat) = 562949953421312 := by norm_cast
    rw [this]; grind)
  refine ⟨f5, f7, ?_⟩
  rw [v5, v7]
  have c3 : ((8589934592 : Nat) : Rat) = 8589934592 := by norm_cast
  simp only [Rat.natCast_mul, Rat.natCast_add, c65, c3]
  grind
/-- on the grid above a quarter -/
theorem own_G {e : UInt64} {a p q : Int64} {d v : Rat} (h0 : 16384 < a.toInt) (h1 : a.toInt < 65536) (hd : d = ((a.toInt.toNat : Nat) : Rat) * (1 / 65536)) (hv : (2 * (1 - d)) * v = 1) (vl : 1 / 2 ≤ v) (vu : v ≤ 4503599627370496) (hp : p.toInt = a.toInt * (131072 - a.toInt)) (hq : q.toInt = (65536 - a.toInt) * 131072) (e1 : e = ddiv (l2d p) (l2d q)) :
    NF e ∧ (1 - 4 / 4503599627370496) * (d * (2 - d) * v) ≤ rv e ∧ rv e ≤ (1 + 4 / 4503599627370496) * (d * (2 - d) * v) := by
  obtain ⟨A, hA⟩ : ∃ A : Nat, a.toInt = (A : Int) := ⟨a.toInt.toNat, by omega⟩
  obtain ⟨B, hB⟩ : ∃ B : Nat, 65536 = A + B := ⟨65536 - A, by omega⟩
  have tA : (A : Int).toNat = A := by omega
  rw [hA, tA] at hd
  have b1 : p.toInt = ((A * (65536 + B) : Nat) : Int) := by
    rw [hp, hA, Int.natCast_mul]; congr 1; omega
  have b2 : q.toInt = ((B * 131072 : Nat) : Int) := by rw [hq, hA]; omega
  have b3 : A * (65536 + B) ≤ 65536 * 131072 := Nat.mul_le_mul (by omega) (by omega)
  obtain ⟨f1, v1⟩ := own_i (k := p) (by omega) (by omega)
  obtain ⟨f2, v2⟩ := own_i (k := q) (by omega) (by omega)
  have t1 : p.toInt.toNat = A * (65536 + B) := by omega
  have t2 : q.toInt.toNat = B * 131072 := by omega
  have c65 : ((65536 : Nat) : Rat) = 65536 := by norm_cast
  have c13 : ((131072 : Nat) : Rat) = 131072 := by norm_cast
  rw [t1, Rat.natCast_mul, Rat.natCast_add, c65] at v1
  rw [t2, Rat.natCast_mul, c13] at v2
  have hAB : (65536 : Rat) = (A : Rat) + (B : Rat) := by rw [← Rat.natCast_add, ← hB]; norm_cast
  have hB0 : (1 : Rat) ≤ (B : Rat) := by
    have : ((1 : Nat) : Rat) ≤ (B : Rat) := Rat.natCast_le_natCast.mpr (by omega)
    have e : ((1 : Nat) : Rat) = 1 := by norm_cast
    rw [e] at this; exact this
  have q0 : 0 < rv (l2d q) := by rw [v2]; grind
  have O := Op.div f1 f2 q0
  rw [← e1] at O
  have iv : rv (l2d q) * (rv (l2d q))⁻¹ = 1 := Rat.mul_inv_cancel _ (fun g => by rw [g] at q0; exact absurd q0 (by decide))
  rw [v1] at O
  generalize (rv (l2d q))⁻¹ = u at *
  rw [v2] at iv
  have w1 : 2 * (1 - d) = (B : Rat) * (1 / 32768) := by rw [hd]; grind
  rw [w1] at hv
  have uv : u = v * (1 / 4294967296) := by
    have x1 : v * ((B : Rat) * 131072 * u) = v := by rw [iv]; grind
    have x2 : ((B : Rat) * (1 / 32768) * v) * u = u := by rw [hv]; grind
    grind
  have hx : (A : Rat) * (65536 + (B : Rat)) * u = d * (2 - d) * v := by
    have x3 : 2 - d = (65536 + (B : Rat)) * (1 / 65536) := by rw [hd]; grind
    rw [uv, x3, hd]; grind
  rw [hx] at O
  have dl : 1 / 4 ≤ d := by
    have : ((16384 : Nat) : Rat) ≤ (A : Rat) := Rat.natCast_le_natCast.mpr (by omega)
    have e : ((16384 : Nat) : Rat) = 16384 := by norm_cast
    rw [e] at this
    rw [hd]; grind
  have du : d ≤ 1 := by rw [hd]; grind
  have vn : 0 ≤ v := by grind
  have y1 : 1 / 4 ≤ d * (2 - d) := by
    have := Rat.mul_le_mul_of_nonneg_right dl (show 0 ≤ 2 - d by grind)
    grind
  have y2 : d * (2 - d) ≤ 2 := by
    have := Rat.mul_le_mul_of_nonneg_right du (show 0 ≤ 2 - d by grind)
    grind
  have y3 := Rat.mul_le_mul_of_nonneg_right y1 vn
  have y4 := Rat.mul_le_mul_of_nonneg_right y2 vn
  obtain ⟨f3, n1, n2⟩ := O.near (by right; grind) (by grind)
  generalize d * (2 - d) * v = G at *
  exact ⟨f3, by grind, by grind⟩
/-- 'close': a difference that is at most the slack, rounded, is at most the slack -/
theorem own_cl {r e sl : UInt64} (hr : NF r) (he : NF e) (hs : NF sl) (h : rv r - rv e ≤ rv sl) : val64 (dsub r e) ≠ .nan ∧ (dcmp (dsub r e) sl = some .lt ∨ dcmp (dsub r e) sl = some .eq) := by
  obtain ⟨c, q, hr'⟩ := hr
  obtain ⟨d, q', he'⟩ := he
  obtain ⟨s, q'', hs'⟩ := hs
  have nn : val64 (dsub r e) ≠ .nan := by
    rw [val64_dsub, hr', he']
    exact roundRatio_ne_nan _ _ _ _ _
  refine ⟨nn, dcmp_le.mpr ⟨nn, by rw [hs']; exact Datum.noConfusion, ?_⟩⟩
  rw [val64_dsub]
  refine sum_le good_b64 ⟨_, _, _, hr'⟩ ⟨!false, d, q', by rw [he']; rfl⟩ (val64_fits r) (negate_fits (val64_fits e)) (val64_fits sl) (by rw [hs']; exact Datum.noConfusion) ?_
  rw [zval_negate]
  have z1 : zval b64 (val64 r) = ((zmag b64 (val64 r) : Nat) : Int) := by rw [hr']; rfl
  have z2 : zval b64 (val64 e) = ((zmag b64 (val64 e) : Nat) : Int) := by rw [he']; rfl
  have z3 : zval b64 (val64 sl) = ((zmag b64 (val64 sl) : Nat) : Int) := by rw [hs']; rfl
  rw [z1, z2, z3]
  have h2 : rv r ≤ rv sl + rv e := by grind
  have h3 := Rat.mul_le_mul_of_nonneg_right h2 (Rat.le_of_lt own_Uq)
  rw [Rat.add_mul, rv_mul_U, rv_mul_U, rv_mul_U, ← Rat.natCast_add] at h3
  have h4 := Rat.natCast_le_natCast.mp h3
  omega
theorem own_eq {r n : UInt64} (hr : NF r) (hn : NF n) (h : rv r = rv n) : dcmp r n = some .eq := by
  obtain ⟨c, q, hr'⟩ := hr
  obtain ⟨d, q', hn'⟩ := hn
  refine dcmp_eq.mpr ⟨by rw [hr']; exact Datum.noConfusion, by rw [hn']; exact Datum.noConfusion, ?_⟩
  have h2 : rv r * ((own_U : Nat) : Rat) = rv n * ((own_U : Nat) : Rat) := by rw [h]
  rw [rv_mul_U, rv_mul_U] at h2
  have h3 : zmag b64 (val64 r) = zmag b64 (val64 n) := by exact_mod_cast h2
  have z1 : zval b64 (val64 r) = ((zmag b64 (val64 r) : Nat) : Int) := by rw [hr']; rfl
  have z2 : zval b64 (val64 n) = ((zmag b64 (val64 n) : Nat) : Int) := by rw [hn']; rfl
  rw [z1, z2, h3]
theorem own_cmpQ {D : UInt64} (hD : NF D) : (rv D ≤ 1 / 4 → dcmp D cQ = some .lt ∨ dcmp D cQ = some .eq) ∧ (1 / 4 < rv D → dcmp D cQ = some .gt) := by
  have hq := own_cQ
  obtain ⟨c, q, hr'⟩ := hD
  obtain ⟨⟨d, q', hn'⟩, vq⟩ := hq
  have z1 : zval b64 (val64 D) = ((zmag b64 (val64 D) : Nat) : Int) := by rw [hr']; rfl
  have z2 : zval b64 (val64 cQ) = ((zmag b64 (val64 cQ) : Nat) : Int) := by rw [hn']; rfl
  constructor
  · intro h
    refine dcmp_le.mpr ⟨by rw [hr']; exact Datum.noConfusion, by rw [hn']; exact Datum.noConfusion, ?_⟩
    rw [← vq] at h
    have h3 := Rat.mul_le_mul_of_nonneg_right h (Rat.le_of_lt own_Uq)
    rw [rv_mul_U, rv_mul_U] at h3
    have h4 := Rat.natCast_le_natCast.mp h3
    rw [z1, z2]; omega
  · intro h
    refine dcmp_gt.mpr ⟨by rw [hr']; exact Datum.noConfusion, by rw [hn']; exact Datum.noConfusion, ?_⟩
    rw [← vq] at h
    have h4 := own_rvlt.mp h
    rw [z1, z2]; omega
end Jvm.FP.Core
namespace Jvm.RoadKit
open Sem ClassFile Op Lib Jvm.Stand Jvm.Free Jvm.LawKit Jvm.FP Jvm.Free.Fl
theorem own_topk (x : Int64) : 0 ≤ ((x.toUInt64 >>> ((11 : Int32) &&& 0x3f).toInt64.toUInt64).toInt64).toInt ∧ ((x.toUInt64 >>> ((11 : Int32) &&& 0x3f).toInt64.toUInt64).toInt64).toInt < 2 ^ 53 := by
  have e : ((11 : Int32) &&& 0x3f).toInt64.toUInt64 = 11 := by decide +kernel
  rw [e]
  have h : (x.toUInt64 >>> 11).toInt64.toBitVec.toNat < 2 ^ 53 := by
    show (x.toUInt64 >>> 11).toNat < _
    rw [UInt64.toNat_shiftRight]
    show x.toUInt64.toNat >>> 11 < _
    rw [Nat.shiftRight_eq_div_pow]
    have := x.toUInt64.toNat_lt
    omega
  have h2 : (x.toUInt64 >>> 11).toInt64.toInt = ((x.toUInt64 >>> 11).toInt64.toBitVec.toNat : Int) := by
    show (x.toUInt64 >>> 11).toInt64.toBitVec.toInt = _
    rw [BitVec.toInt_eq_toNat_of_lt (by omega)]
  omega
theorem own_a (p : Int32) : 0 ≤ ((p &&& (65535 : Int32)).toInt64).toInt ∧ ((p &&& (65535 : Int32)).toInt64).toInt < 65536 := by
  rw [Jvm.Kit.i64_of_i32, Jvm.Kit.i32_mask p 65535 (k := 16) (by decide) (by decide)]
  omega
theorem own_num {a : Int64} (h0 : 0 ≤ a.toInt) (h1 : a.toInt ≤ 16384) : (((a <<< ((33 : Int32) &&& 0x3f).toInt64) + ((a * a) <<< ((16 : Int32) &&& 0x3f).toInt64)) + ((a * a) * a)).toInt = a.toInt * 8589934592 + a.toInt * a.toInt * 65536 + a.toInt * a.toInt * a.toInt := by
  have s1 : 0 ≤ a.toInt * a.toInt := Int.mul_nonneg h0 h0
  have s2 : a.toInt * a.toInt ≤ 16384 * 16384 := Int.mul_le_mul h1 h1 h0 (by decide)
  have s3 : 0 ≤ a.toInt * a.toInt * a.toInt := Int.mul_nonneg s1 h0
  have s4 : a.toInt * a.toInt * a.toInt ≤ 16384 * 16384 * 16384 := Int.mul_le_mul s2 h1 h0 (by decide)
  have m1 : (a * a).toInt = a.toInt * a.toInt := Jvm.Kit.i64_mul (by omega) (by omega)
  have m2 : (a * a * a).toInt = a.toInt * a.toInt * a.toInt := by rw [Jvm.Kit.i64_mul (by rw [m1]; omega) (by rw [m1]; omega), m1]
  have l1 : (a <<< ((33 : Int32) &&& 0x3f).toInt64).toInt = a.toInt * 8589934592 := by
    rw [Jvm.Kit.i64_shl a _ (k := 33) (by decide) (by omega) (by omega), show (2 : Int) ^ 33 = 8589934592 from by decide]
  have l2 : ((a * a) <<< ((16 : Int32) &&& 0x3f).toInt64).toInt = a.toInt * a.toInt * 65536 := by
    rw [Jvm.Kit.i64_shl (a * a) _ (k := 16) (by decide) (by rw [m1]; omega) (by rw [m1]; omega), m1, show (2 : Int) ^ 16 = 65536 from by decide]
  have a1 : ((a <<< ((33 : Int32) &&& 0x3f).toInt64) + ((a * a) <<< ((16 : Int32) &&& 0x3f).toInt64)).toInt = a.toInt * 8589934592 + a.toInt * a.toInt * 65536 := by
    rw [Jvm.Kit.i64_add (by rw [l1, l2]; omega) (by rw [l1, l2]; omega), l1, l2]
  rw [Jvm.Kit.i64_add (by rw [a1, m2]; omega) (by rw [a1, m2]; omega), a1, m2]
theorem own_pq {a : Int64} (h0 : 0 ≤ a.toInt) (h1 : a.toInt < 65536) : (a * ((131072 : Int64) - a)).toInt = a.toInt * (131072 - a.toInt) ∧ (((65536 : Int64) - a) <<< ((17 : Int32) &&& 0x3f).toInt64).toInt = (65536 - a.toInt) * 131072 := by
  have c1 : (131072 : Int64).toInt = 131072 := by decide
  have c2 : (65536 : Int64).toInt = 65536 := by decide
  have e1 : ((131072 : Int64) - a).toInt = 131072 - a.toInt := by rw [Jvm.Kit.i64_sub (by rw [c1]; omega) (by rw [c1]; omega), c1]
  have e2 : ((65536 : Int64) - a).toInt = 65536 - a.toInt := by rw [Jvm.Kit.i64_sub (by rw [c2]; omega) (by rw [c2]; omega), c2]
  have s1 : 0 ≤ a.toInt * (131072 - a.toInt) := Int.mul_nonneg h0 (by omega)
  have s2 : a.toInt * (131072 - a.toInt) ≤ 65536 * 131072 := Int.mul_le_mul (by omega) (by omega) (by omega) (by decide)
  constructor
  · rw [Jvm.Kit.i64_mul (by rw [e1]; omega) (by rw [e1]; omega), e1]
  · rw [Jvm.Kit.i64_shl _ _ (k := 17) (by decide) (by rw [e2]; omega) (by rw [e2]; omega), e2, show (2 : Int) ^ 17 = 131072 from by decide]
theorem own_nn {x : UInt64} (h : Core.NF x) : NoNaN64 x := by
  obtain ⟨c, q, e⟩ := h
  exact val64_no.mpr (by rw [e]; intro g; cases g)
theorem own_ng {r : Option Ordering} (h : r = some .lt ∨ r = some .eq) : ¬ ((0 : Int32) < cmpValue r .g) := by
  rcases h with rfl | rfl <;> decide
theorem own_gt {r : Option Ordering} (h : r = some .gt) : (0 : Int32) < cmpValue r .g := by rw [h]; decide
def LA (D R : UInt64) : Prop :=
  (¬ ((0 : Int32) < (cmpValue (FP.dcmp D (4598175219545276416 : UInt64)) .g)) ∧ NoNaN64 (FP.dmul (4602678819172646912 : UInt64) D) ∧ NoNaN64 (FP.dmul (FP.dmul (4602678819172646912 : UInt64) D) D) ∧ NoNaN64 (FP.dadd FP.dconst1 D) ∧ NoNaN64 (FP.dmul (FP.dmul (FP.dmul (4602678819172646912 : UInt64) D) D) (FP.dadd FP.dconst1 D)) ∧ NoNaN64 (FP.dadd D (FP.dmul (FP.dmul (FP.dmul (4602678819172646912 : UInt64) D) D) (FP.dadd FP.dconst1 D))) ∧ FP.dadd D (FP.dmul (FP.dmul (FP.dmul (4602678819172646912 : UInt64) D) D) (FP.dadd FP.dconst1 D)) = R) ∨
  ((0 : Int32) < (cmpValue (FP.dcmp D (4598175219545276416 : UInt64)) .g) ∧ NoNaN64 (FP.dmul D D) ∧ NoNaN64 (FP.dsub FP.dconst1 D) ∧ NoNaN64 (FP.dmul (4611686018427387904 : UInt64) (FP.dsub FP.dconst1 D)) ∧ NoNaN64 (FP.ddiv (FP.dmul D D) (FP.dmul (4611686018427387904 : UInt64) (FP.dsub FP.dconst1 D))) ∧ NoNaN64 (FP.dadd D (FP.ddiv (FP.dmul D D) (FP.dmul (4611686018427387904 : UInt64) (FP.dsub FP.dconst1 D)))) ∧ FP.dadd D (FP.ddiv (FP.dmul D D) (FP.dmul (4611686018427387904 : UInt64) (FP.dsub FP.dconst1 D))) = R)
def CL (r e : UInt64) : Prop := NoNaN64 (FP.dmul e (4386506037058863104 : UInt64)) ∧ NoNaN64 (FP.dsub r e) ∧ ¬ ((0 : Int32) < (cmpValue (FP.dcmp (FP.dsub r e) (FP.dmul e (4386506037058863104 : UInt64))) .g)) ∧ NoNaN64 (FP.dsub e r) ∧ ¬ ((0 : Int32) < (cmpValue (FP.dcmp (FP.dsub e r) (FP.dmul e (4386506037058863104 : UInt64))) .g))
theorem own_CL {r e : UInt64} (hr : Core.NF r) (he : Core.NF e) (hs : Core.NF (Core.dmul e Core.c49)) (h1 : Core.rv r - Core.rv e ≤ Core.rv (Core.dmul e Core.c49)) (h2 : Core.rv e - Core.rv r ≤ Core.rv (Core.dmul e Core.c49)) : CL r e :=
  ⟨own_nn hs, val64_no.mpr (Core.own_cl hr he hs h1).1, own_ng (Core.own_cl hr he hs h1).2, val64_no.mpr (Core.own_cl he hr hs h2).1, own_ng (Core.own_cl he hr hs h2).2⟩
theorem own_LA1 {D R : UInt64} {d : Rat} {K : Nat} (h : Core.Dom D d K) (d4 : d ≤ 1 / 4) (hR : FP.dadd D (FP.dmul (FP.dmul (FP.dmul (4602678819172646912 : UInt64) D) D) (FP.dadd FP.dconst1 D)) = R) : LA D R := by
  obtain ⟨f1, f2, f3, f4, f5, -⟩ := Core.own_S h d4 rfl rfl rfl rfl rfl rfl rfl rfl rfl
  exact Or.inl ⟨own_ng ((Core.own_cmpQ h.1).1 (by rw [h.2.1]; exact d4)), own_nn f1, own_nn f2, own_nn f3, own_nn f4, own_nn f5, hR⟩
theorem own_LA2 {D R : UInt64} {d : Rat} {K : Nat} (h : Core.Dom D d K) (d4 : 1 / 4 < d) (hR : FP.dadd D (FP.ddiv (FP.dmul D D) (FP.dmul (4611686018427387904 : UInt64) (FP.dsub FP.dconst1 D))) = R) : LA D R := by
  obtain ⟨f1, f2, f3, f4, f5, -⟩ := Core.own_L h d4 rfl rfl rfl rfl rfl
  exact Or.inr ⟨own_gt ((Core.own_cmpQ h.1).2 (by rw [h.2.1]; exact d4)), own_nn f1, own_nn f2, own_nn f3, own_nn f4, own_nn f5, hR⟩
theorem own_ks {D R e : UInt64} {d : Rat} {K : Nat} (h : Core.Dom D d K) (d4 : d ≤ 1 / 4) (hR : FP.dadd D (FP.dmul (FP.dmul (FP.dmul (4602678819172646912 : UInt64) D) D) (FP.dadd FP.dconst1 D)) = R) (he : e = FP.dadd (FP.dadd D (FP.dmul (FP.dmul (4602678819172646912 : UInt64) D) D)) (FP.dmul (FP.dmul (FP.dmul (4602678819172646912 : UInt64) D) D) D)) :
    NoNaN64 (FP.dmul (4602678819172646912 : UInt64) D) ∧ NoNaN64 (FP.dmul (FP.dmul (4602678819172646912 : UInt64) D) D) ∧ NoNaN64 (FP.dadd D (FP.dmul (FP.dmul (4602678819172646912 : UInt64) D) D)) ∧ NoNaN64 (FP.dmul (FP.dmul (FP.dmul (4602678819172646912 : UInt64) D) D) D) ∧ NoNaN64 (FP.dadd (FP.dadd D (FP.dmul (FP.dmul (4602678819172646912 : UInt64) D) D)) (FP.dmul (FP.dmul (FP.dmul (4602678819172646912 : UInt64) D) D) D)) ∧ CL R e := by
  subst hR he
  obtain ⟨f1, f2, f3, f4, f5, f6, f7, f8, f9, h1, h2⟩ := Core.own_S h d4 rfl rfl rfl rfl rfl rfl rfl rfl rfl
  exact ⟨own_nn f1, own_nn f2, own_nn f6, own_nn f7, own_nn f8, own_CL f5 f8 f9 h1 h2⟩
theorem own_kl {D R e : UInt64} {d : Rat} {K : Nat} (h : Core.Dom D d K) (d4 : 1 / 4 < d) (hR : FP.dadd D (FP.ddiv (FP.dmul D D) (FP.dmul (4611686018427387904 : UInt64) (FP.dsub FP.dconst1 D))) = R) (he : e = FP.ddiv (FP.dmul D (FP.dsub (4611686018427387904 : UInt64) D)) (FP.dmul (4611686018427387904 : UInt64) (FP.dsub FP.dconst1 D))) :
    NoNaN64 (FP.dsub (4611686018427387904 : UInt64) D) ∧ NoNaN64 (FP.dmul D (FP.dsub (4611686018427387904 : UInt64) D)) ∧ NoNaN64 (FP.dsub FP.dconst1 D) ∧ NoNaN64 (FP.dmul (4611686018427387904 : UInt64) (FP.dsub FP.dconst1 D)) ∧ NoNaN64 (FP.ddiv (FP.dmul D (FP.dsub (4611686018427387904 : UInt64) D)) (FP.dmul (4611686018427387904 : UInt64) (FP.dsub FP.dconst1 D))) ∧ CL R e := by
  subst hR he
  have d1 := h.lt1
  obtain ⟨f1, f2, f3, f4, f5, v, dv, hv, vl, vu, wv, w0, n1, n2, n3⟩ := Core.own_L h d4 rfl rfl rfl rfl rfl
  obtain ⟨g1, g2, g3, ea, eb⟩ := Core.own_R h d4 f3 hv w0 vl vu rfl rfl rfl
  rw [Core.own_FG wv] at ea eb
  obtain ⟨s1, h1, h2⟩ := Core.own_C d4 (by grind) vl vu rfl n1 n2 n3 g3 ea eb rfl
  exact ⟨own_nn g1, own_nn g2, own_nn f2, own_nn f3, own_nn g3, own_CL f5 g3 s1 h1 h2⟩
theorem own_ksd {k : Int64} (h0 : 0 ≤ k.toInt) (hk : k.toInt ≤ 2251799813685248) : ((k.toInt.toNat : Nat) : Rat) * (1 / 9007199254740992) ≤ 1 / 4 := by
  have : ((k.toInt.toNat : Nat) : Rat) ≤ ((2251799813685248 : Nat) : Rat) := Rat.natCast_le_natCast.mpr (by omega)
  have e : ((2251799813685248 : Nat) : Rat) = 2251799813685248 := by norm_cast
  rw [e] at this
  grind
theorem own_kld {k : Int64} (hk : 2251799813685248 < k.toInt) : 1 / 4 < ((k.toInt.toNat : Nat) : Rat) * (1 / 9007199254740992) := by
  have : ((2251799813685248 : Nat) : Rat) < ((k.toInt.toNat : Nat) : Rat) := Rat.natCast_lt_natCast.mpr (by omega)
  have e : ((2251799813685248 : Nat) : Rat) = 2251799813685248 := by norm_cast
  rw [e] at this
  grind
theorem own_gsd {k : Int64} (h0 : 0 ≤ k.toInt) (hk : k.toInt ≤ 16384) : ((k.toInt.toNat : Nat) : Rat) * (1 / 65536) ≤ 1 / 4 := by
  have : ((k.toInt.toNat : Nat) : Rat) ≤ ((16384 : Nat) : Rat) := Rat.natCast_le_natCast.mpr (by omega)
  have e : ((16384 : Nat) : Rat) = 16384 := by norm_cast
  rw [e] at this
  grind
theorem own_gld {k : Int64} (hk : 16384 < k.toInt) : 1 / 4 < ((k.toInt.toNat : Nat) : Rat) * (1 / 65536) := by
  have : ((16384 : Nat) : Rat) < ((k.toInt.toNat : Nat) : Rat) := Rat.natCast_lt_natCast.mpr (by omega)
  have e : ((16384 : Nat) : Rat) = 16384 := by norm_cast
  rw [e] at this
  grind
theorem own_gs {a num : Int64} (h0 : 0 ≤ a.toInt) (h1 : a.toInt ≤ 16384) (hn : num = (((a <<< ((33 : Int32) &&& 0x3f).toInt64) + ((a * a) <<< ((16 : Int32) &&& 0x3f).toInt64)) + ((a * a) * a))) {D R : UInt64} (hD : D = FP.dmul (FP.l2d a) (4535124824762089472 : UInt64)) (hR : FP.dadd D (FP.dmul (FP.dmul (FP.dmul (4602678819172646912 : UInt64) D) D) (FP.dadd FP.dconst1 D)) = R) :
    NoNaN64 (FP.dmul (FP.l2d a) (4535124824762089472 : UInt64)) ∧ LA D R ∧ NoNaN64 (FP.dmul (FP.l2d num) (4386506037058863104 : UInt64)) ∧ (cmpValue (FP.dcmp R (FP.dmul (FP.l2d num) (4386506037058863104 : UInt64))) .l) = (0 : Int32) := by
  have dm := Core.own_dom16 h0 (by omega)
  obtain ⟨x1, x2, x3⟩ := Core.own_X (num := num) h0 h1 hD rfl rfl rfl rfl hR.symm (by rw [hn]; exact own_num h0 h1) rfl
  refine ⟨own_nn dm.1, ?_, own_nn x2, ?_⟩
  · subst hD
    exact own_LA1 dm (own_gsd h0 h1) hR
  · have := Core.own_eq x1 x2 x3
    rw [show FP.dcmp R (FP.dmul (FP.l2d num) (4386506037058863104 : UInt64)) = some .eq from this]
    decide
theorem own_gl {a : Int64} (h0 : 16384 < a.toInt) (h1 : a.toInt < 65536) {D R e : UInt64} (hD : D = FP.dmul (FP.l2d a) (4535124824762089472 : UInt64)) (hR : FP.dadd D (FP.ddiv (FP.dmul D D) (FP.dmul (4611686018427387904 : UInt64) (FP.dsub FP.dconst1 D))) = R) (he : e = FP.ddiv (FP.l2d (a * ((131072 : Int64) - a))) (FP.l2d (((65536 : Int64) - a) <<< ((17 : Int32) &&& 0x3f).toInt64))) :
    NoNaN64 (FP.dmul (FP.l2d a) (4535124824762089472 : UInt64)) ∧ LA D R ∧ NoNaN64 (FP.ddiv (FP.l2d (a * ((131072 : Int64) - a))) (FP.l2d (((65536 : Int64) - a) <<< ((17 : Int32) &&& 0x3f).toInt64))) ∧ CL R e := by
  have dm := Core.own_dom16 (a := a) (by omega) h1
  have d4 := own_gld h0
  have pq := own_pq (a := a) (by omega) h1
  have nD := own_nn dm.1
  have dm' : Core.Dom D (((a.toInt.toNat : Nat) : Rat) * (1 / 65536)) (a.toInt.toNat * 137438953472) := by rw [hD]; exact dm
  have d1 := dm'.lt1
  obtain ⟨f1, f2, f3, f4, f5, v, dv, hv, vl, vu, wv, w0, n1, n2, n3⟩ := Core.own_L dm' d4 rfl rfl rfl rfl hR.symm
  obtain ⟨g3, ea, eb⟩ := Core.own_G h0 h1 rfl wv vl vu pq.1 pq.2 he
  rw [Core.own_FG wv] at ea eb
  obtain ⟨s1, c1, c2⟩ := Core.own_C d4 (by grind) vl vu rfl n1 n2 n3 g3 ea eb rfl
  exact ⟨nD, own_LA2 dm' d4 hR, by have := own_nn g3; rw [he] at this; exact this, own_CL f5 g3 s1 c1 c2⟩
end Jvm.RoadKit
namespace Jvm.RoadKit
open Sem ClassFile Op Lib Jvm.Stand Jvm.Free Jvm.LawKit
section New
variable {p : Program} {l : Launch} {e : Env} {R : Room} {s : State} {m : MethodId} {args : Array Value} {below : List Frame} {meth : Method} {c : Code} {T : State} {locs : List Loc} {cells slots : Nat}
theorem retI (X : Stand p l e R s m args below meth c T locs cells slots) (hx : p.tables.exec = Jvm.exec) {pc : Nat} {Ls : Array Slot} {z : Int32} {rest : List Value} (hret : meth.sig.returnType = some .int) (hd : decode c.code pc = .ok (.ireturn, 1)) {fs : List Frame}
    (hl : ∀ (f : JFrame) (acts : List Action), f.method = m → f.locked = none → f.entered = [] → (doReturn e (T.setTop f) acts (some (.int z))).1 = T.setFrames fs) : Steps p.tables e below (T.setTop (mkF m pc Ls (.int z :: rest))) (T.setFrames fs) := by
  have hm' : T.vm.method? m = some meth := X.method'
  have hn : narrow .int (.int z) = .int z := rfl
  show Steps p.tables e below (T.setTop { method := m, pc := pc, locals := Ls, stack := _ :: rest, locked := none }) _
  jvm_step X.here [X.here.top, hx, hd, hm', hret, hn]
  first | (intro acts; rw [hl _ acts rfl rfl rfl]) | rw [hl _ _ rfl rfl rfl]
  exact Steps.refl _
theorem own_retL (X : Stand p l e R s m args below meth c T locs cells slots) (hx : p.tables.exec = Jvm.exec) {pc : Nat} {Ls : Array Slot} {z : Int64} {rest : List Value} (hret : meth.sig.returnType = some .long) (hd : decode c.code pc = .ok (.lreturn, 1)) {fs : List Frame}
    (hl : ∀ (f : JFrame) (acts : List Action), f.method = m → f.locked = none → f.entered = [] → (doReturn e (T.setTop f) acts (some (.long z))).1 = T.setFrames fs) : Steps p.tables e below (T.setTop (mkF m pc Ls (.long z :: rest))) (T.setFrames fs) := by
  have hm' : T.vm.method? m = some meth := X.method'
  have hn : narrow .long (.long z) = .long z := rfl
  show Steps p.tables e below (T.setTop { method := m, pc := pc, locals := Ls, stack := _ :: rest, locked := none }) _
  jvm_step X.here [X.here.top, hx, hd, hm', hret, hn]
  first | (intro acts; rw [hl _ acts rfl rfl rfl]) | rw [hl _ _ rfl rfl rfl]
  exact Steps.refl _
theorem own_retD (X : Stand p l e R s m args below meth c T locs cells slots) (hx : p.tables.exec = Jvm.exec) {pc : Nat} {Ls : Array Slot} {z : UInt64} {rest : List Value} (hret : meth.sig.returnType = some .double) (hd : decode c.code pc = .ok (.dreturn, 1)) {fs : List Frame}
    (hl : ∀ (f : JFrame) (acts : List Action), f.method = m → f.locked = none → f.entered = [] → (doReturn e (T.setTop f) acts (some (.double z))).1 = T.setFrames fs) : Steps p.tables e below (T.setTop (mkF m pc Ls (.double z :: rest))) (T.setFrames fs) := by
  have hm' : T.vm.method? m = some meth := X.method'
  have hn : narrow .double (.double z) = .double z := rfl
  show Steps p.tables e below (T.setTop { method := m, pc := pc, locals := Ls, stack := _ :: rest, locked := none }) _
  jvm_step X.here [X.here.top, hx, hd, hm', hret, hn]
  first | (intro acts; rw [hl _ acts rfl rfl rfl]) | rw [hl _ _ rfl rfl rfl]
  exact Steps.refl _
end New
end Jvm.RoadKit
namespace Jvm.Pilot.@@N@@
open Jvm Jvm.ClassFile Sem Op Lib Jvm.Free Jvm.Stand Jvm.LawKit Jvm.RoadKit Bundle Jvm.Pilot.@@N@@.Jvm.D
def Q1 (R : UInt64) (h0 : Heap) (n0 : Nat) (v : Option Value) (h : Heap) (L : List Loc) : Prop := v = some (.double R) ∧ Fr n0 L ∧ h = h0
theorem d1_0 : decode prog_36_method_32_code 0 = .ok (.dload_n 0, 1) := by decide +kernel
theorem d1_1 : decode prog_36_method_32_code 1 = .ok (.ldc2_w 300, 3) := by decide +kernel
theorem d1_4 : decode prog_36_method_32_code 4 = .ok (.dcmp .g, 1) := by decide +kernel
theorem d1_5 : decode prog_36_method_32_code 5 = .ok (.ifCond .gt 19, 3) := by decide +kernel
theorem d1_8 : decode prog_36_method_32_code 8 = .ok (.dload_n 0, 1) := by decide +kernel
theorem d1_9 : decode prog_36_method_32_code 9 = .ok (.ldc2_w 298, 3) := by decide +kernel
theorem d1_12 : decode prog_36_method_32_code 12 = .ok (.dload_n 0, 1) := by decide +kernel
theorem d1_13 : decode prog_36_method_32_code 13 = .ok (.dmul, 1) := by decide +kernel
theorem d1_14 : decode prog_36_method_32_code 14 = .ok (.dload_n 0, 1) := by decide +kernel
theorem d1_15 : decode prog_36_method_32_code 15 = .ok (.dmul, 1) := by decide +kernel
theorem d1_16 : decode prog_36_method_32_code 16 = .ok (.dconst 1, 1) := by decide +kernel
theorem d1_17 : decode prog_36_method_32_code 17 = .ok (.dload_n 0, 1) := by decide +kernel
theorem d1_18 : decode prog_36_method_32_code 18 = .ok (.dadd, 1) := by decide +kernel
theorem d1_19 : decode prog_36_method_32_code 19 = .ok (.dmul, 1) := by decide +kernel
theorem d1_20 : decode prog_36_method_32_code 20 = .ok (.dadd, 1) := by decide +kernel
theorem d1_21 : decode prog_36_method_32_code 21 = .ok (.goto 16, 3) := by decide +kernel
theorem d1_37 : decode prog_36_method_32_code 37 = .ok (.dreturn, 1) := by decide +kernel
theorem pn_1 : plainName "com/example/level_ring/levelring/placement/Members" = true := by first | (simp [plainName, overriddenIn]; done) | decide +kernel
theorem ef_1 (m : MethodId) (x0 : UInt64) : entryFrame m #[(.double x0)] 2 = mkF m 0 #[.val (.double x0), .second] [] := by first | (simp [entryFrame, mkF, argsToLocals, Value.category]; done) | rfl
set_option maxRecDepth 65536 in
set_option maxHeartbeats 40000000 in
theorem rm1_f (l : Launch) (Z : State) (a0 : Array Value) (hw : ∀ d ∈ tables_1, d.before a0 Z = true) (ws : List Jvm.Cond) (dd1 : UInt64) (R : UInt64) (h0 : Heap) (n0 : Nat) (Z0 : n0 ≤ h0.size) (hc5 : ¬ ((0 : Int32) < (cmpValue (FP.dcmp dd1 (4598175219545276416 : UInt64)) .g))) (hnn13 : Jvm.Free.Fl.NoNaN64 (FP.dmul (4602678819172646912 : UInt64) dd1)) (hnn15 : Jvm.Free.Fl.NoNaN64 (FP.dmul (FP.dmul (4602678819172646912 : UInt64) dd1) dd1)) (hnn18 : Jvm.Free.Fl.NoNaN64 (FP.dadd FP.dconst1 dd1)) (hnn19 : Jvm.Free.Fl.NoNaN64 (FP.dmul (FP.dmul (FP.dmul (4602678819172646912 : UInt64) dd1) dd1) (FP.dadd FP.dconst1 dd1))) (hnn20 : Jvm.Free.Fl.NoNaN64 (FP.dadd dd1 (FP.dmul (FP.dmul (FP.dmul (4602678819172646912 : UInt64) dd1) dd1) (FP.dadd FP.dconst1 dd1)))) (hR : True → (FP.dadd dd1 (FP.dmul (FP.dmul (FP.dmul (4602678819172646912 : UInt64) dd1) dd1) (FP.dadd FP.dconst1 dd1))) = R) :
    MetFree l (⟨"com/example/level_ring/levelring/placement/Members", "logAtMost", "(D)D"⟩ : MethodName) (head1 (Jvm.Cond.code (⟨"com/example/level_ring/levelring/placement/Members", "logAtMost", "(D)D"⟩ : MethodName) prog_36_method_32_code 2 (some .double) :: ws) ({ frames := 0, cells := 0, slots := 0, locals := 0 } : Room)) (fun a U => a = #[(.double dd1)] ∧ Z.Warmed39 U.vm ∧ U.heap = h0) (fun _ _ _ _ _ => True) (fun _ U o U' => ∃ v L, o = .returned v ∧ Q1 R h0 n0 v U'.heap L ∧ FrameEnd U o U' L ({ frames := 0, cells := 0, slots := 0, locals := 0 } : Room).cells ({ frames := 0, cells := 0, slots := 0, locals := 0 } : Room).slots) := by
  refine MetFree.of_bodySF (plainFor_of_name pn_1) hisR ?_
  intro p e s m args below meth c s₁ Bd hml0 hP hK
  obtain ⟨rfl, hZ, hh⟩ := hP
  have hx := Bd.exec
  have hby := Bd.bytes
  have hml : c.maxLocals = 2 := hml0
  have hown : s.vm.findClass "com/example/level_ring/levelring/placement/Members" = some m.cls := findClass_of_methodNamed Bd.named
  have hnm := (name_of_methodNamed Bd.named Bd.method).1
  have X0 : Stand p l e ({ frames := 0, cells := 0, slots := 0, locals := 0 } : Room) s m #[(.double dd1)] below meth c s₁ [] 0 0 := Stand.of_body Bd
  have e0 : s₁.heap = h0 := by rw [← hh, Bd.state]; rfl
  have N0 := Fr.nil n0
  have pre0 : ∀ t, Steps p.tables e below (s₁.setTop (mkF m 0 #[.val (.double dd1), .second] [])) t → Steps p.tables e below (s₁.setTop (entryFrame m #[(.double dd1)] 2)) t := fun t k => castTop (ef_1 m dd1) k
  -- 3. LAWS

  obtain ⟨fs, hr, hrun, hended, hW, hsame⟩ := X0.leave (v := some (.double (FP.dadd dd1 (FP.dmul (FP.dmul (FP.dmul (4602678819172646912 : UInt64) dd1) dd1) (FP.dadd FP.dconst1 dd1))))) (fun h => by rw [Bd.returns] at h; cases h)
  refine ⟨_, _, pre0 _ ?_, hrun, hended, _, _, rfl, ?_, ⟨_, rfl⟩, hW, hsame.mono (by decide) (by decide)⟩
  -- 4. STEPS
  · show Steps p.tables e below (s₁.setTop (mkF m 0 #[.val (.double dd1), .second] [])) _
    refine XS.dloadN X0.here hx rfl (hb hby d1_0) rfl ?_
    show Steps p.tables e below (s₁.setTop (mkF m 1 #[.val (.double dd1), .second] [(.double dd1)])) _
    refine X0.ldc2DoubleC hx hown (mvT hZ (hw _ (List.mem_of_getElem? (i := 6) rfl))) (g := (mkF m 1 #[.val (.double dd1), .second] [(.double dd1)])) rfl (hb hby d1_1) _ ?_
    show Steps p.tables e below (s₁.setTop (mkF m 4 #[.val (.double dd1), .second] [(.double (4598175219545276416 : UInt64)), (.double dd1)])) _
    refine XS.dcmpS X0.here hx rfl (hb hby d1_4) rfl rfl ?_
    show Steps p.tables e below (s₁.setTop (mkF m 5 #[.val (.double dd1), .second] [(.int (cmpValue (FP.dcmp dd1 (4598175219545276416 : UInt64)) .g))])) _
    refine XS.ifNo X0.here hx rfl (hb hby d1_5) rfl ((if0 _ _).trans (flt hc5).2.2.1) ?_
    show Steps p.tables e below (s₁.setTop (mkF m 8 #[.val (.double dd1), .second] [])) _
    refine XS.dloadN X0.here hx rfl (hb hby d1_8) rfl ?_
    show Steps p.tables e below (s₁.setTop (mkF m 9 #[.val (.double dd1), .second] [(.double dd1)])) _
    refine X0.ldc2DoubleC hx hown (mvT hZ (hw _ (List.mem_of_getElem? (i := 7) rfl))) (g := (mkF m 9 #[.val (.double dd1), .second] [(.double dd1)])) rfl (hb hby d1_9) _ ?_
    show Steps p.tables e below (s₁.setTop (mkF m 12 #[.val (.double dd1), .second] [(.double (4602678819172646912 : UInt64)), (.double dd1)])) _
    refine XS.dloadN X0.here hx rfl (hb hby d1_12) rfl ?_
    show Steps p.tables e below (s₁.setTop (mkF m 13 #[.val (.double dd1), .second] [(.double dd1), (.double (4602678819172646912 : UInt64)), (.double dd1)])) _
    refine XS.dmulS X0.here hx rfl (hb hby d1_13) rfl hnn13 rfl ?_
    show Steps p.tables e below (s₁.setTop (mkF m 14 #[.val (.double dd1), .second] [(.double (FP.dmul (4602678819172646912 : UInt64) dd1)), (.double dd1)])) _
    refine XS.dloadN X0.here hx rfl (hb hby d1_14) rfl ?_
    show Steps p.tables e below (s₁.setTop (mkF m 15 #[.val (.double dd1), .second] [(.double dd1), (.double (FP.dmul (4602678819172646912 : UInt64) dd1)), (.double dd1)])) _
    refine XS.dmulS X0.here hx rfl (hb hby d1_15) rfl hnn15 rfl ?_
    show Steps p.tables e below (s₁.setTop (mkF m 16 #[.val (.double dd1), .second] [(.double (FP.dmul (FP.dmul (4602678819172646912 : UInt64) dd1) dd1)), (.double dd1)])) _
    refine XS.dconst1 X0.here hx rfl (hb hby d1_16) rfl ?_
    show Steps p.tables e below (s₁.setTop (mkF m 17 #[.val (.double dd1), .second] [(.double FP.dconst1), (.double (FP.dmul (FP.dmul (4602678819172646912 : UInt64) dd1) dd1)), (.double dd1)])) _
    refine XS.dloadN X0.here hx rfl (hb hby d1_17) rfl ?_
    show Steps p.tables e below (s₁.setTop (mkF m 18 #[.val (.double dd1), .second] [(.double dd1), (.double FP.dconst1), (.double (FP.dmul (FP.dmul (4602678819172646912 : UInt64) dd1) dd1)), (.double dd1)])) _
    refine XS.daddS X0.here hx rfl (hb hby d1_18) rfl hnn18 rfl ?_
    show Steps p.tables e below (s₁.setTop (mkF m 19 #[.val (.double dd1), .second] [(.double (FP.dadd FP.dconst1 dd1)), (.double (FP.dmul (FP.dmul (4602678819172646912 : UInt64) dd1) dd1)), (.double dd1)])) _
    refine XS.dmulS X0.here hx rfl (hb hby d1_19) rfl hnn19 rfl ?_
    show Steps p.tables e below (s₁.setTop (mkF m 20 #[.val (.double dd1), .second] [(.double (FP.dmul (FP.dmul (FP.dmul (4602678819172646912 : UInt64) dd1) dd1) (FP.dadd FP.dconst1 dd1))), (.double dd1)])) _
    refine XS.daddS X0.here hx rfl (hb hby d1_20) rfl hnn20 rfl ?_
    show Steps p.tables e below (s₁.setTop (mkF m 21 #[.val (.double dd1), .second] [(.double (FP.dadd dd1 (FP.dmul (FP.dmul (FP.dmul (4602678819172646912 : UInt64) dd1) dd1) (FP.dadd FP.dconst1 dd1))))])) _
    refine XS.goto X0.here hx rfl (pc0 := 21) (pc' := 37) rfl (hb hby d1_21) (by decide) (by decide) ?_
    show Steps p.tables e below (s₁.setTop (mkF m 37 #[.val (.double dd1), .second] [(.double (FP.dadd dd1 (FP.dmul (FP.dmul (FP.dmul (4602678819172646912 : UInt64) dd1) dd1) (FP.dadd FP.dconst1 dd1))))])) _
    exact own_retD X0 hx Bd.returns (hb hby d1_37) hr
  · show Q1 R h0 n0 _ s₁.heap _
    rw [e0]
    exact ⟨by rw [hR trivial], N0, rfl⟩
theorem d1_24 : decode prog_36_method_32_code 24 = .ok (.dload_n 0, 1) := by decide +kernel
theorem d1_25 : decode prog_36_method_32_code 25 = .ok (.dload_n 0, 1) := by decide +kernel
theorem d1_26 : decode prog_36_method_32_code 26 = .ok (.dload_n 0, 1) := by decide +kernel
theorem d1_27 : decode prog_36_method_32_code 27 = .ok (.dmul, 1) := by decide +kernel
theorem d1_28 : decode prog_36_method_32_code 28 = .ok (.ldc2_w 302, 3) := by decide +kernel
theorem d1_31 : decode prog_36_method_32_code 31 = .ok (.dconst 1, 1) := by decide +kernel
theorem d1_32 : decode prog_36_method_32_code 32 = .ok (.dload_n 0, 1) := by decide +kernel
theorem d1_33 : decode prog_36_method_32_code 33 = .ok (.dsub, 1) := by decide +kernel
theorem d1_34 : decode prog_36_method_32_code 34 = .ok (.dmul, 1) := by decide +kernel
theorem d1_35 : decode prog_36_method_32_code 35 = .ok (.ddiv, 1) := by decide +kernel
theorem d1_36 : decode prog_36_method_32_code 36 = .ok (.dadd, 1) := by decide +kernel
set_option maxRecDepth 65536 in
set_option maxHeartbeats 40000000 in
theorem rm1_t (l : Launch) (Z : State) (a0 : Array Value) (hw : ∀ d ∈ tables_1, d.before a0 Z = true) (ws : List Jvm.Cond) (dd1 : UInt64) (R : UInt64) (h0 : Heap) (n0 : Nat) (Z0 : n0 ≤ h0.size) (hc5 : (0 : Int32) < (cmpValue (FP.dcmp dd1 (4598175219545276416 : UInt64)) .g)) (hnn27 : Jvm.Free.Fl.NoNaN64 (FP.dmul dd1 dd1)) (hnn33 : Jvm.Free.Fl.NoNaN64 (FP.dsub FP.dconst1 dd1)) (hnn34 : Jvm.Free.Fl.NoNaN64 (FP.dmul (4611686018427387904 : UInt64) (FP.dsub FP.dconst1 dd1))) (hnn35 : Jvm.Free.Fl.NoNaN64 (FP.ddiv (FP.dmul dd1 dd1) (FP.dmul (4611686018427387904 : UInt64) (FP.dsub FP.dconst1 dd1)))) (hnn36 : Jvm.Free.Fl.NoNaN64 (FP.dadd dd1 (FP.ddiv (FP.dmul dd1 dd1) (FP.dmul (4611686018427387904 : UInt64) (FP.dsub FP.dconst1 dd1))))) (hR : True → (FP.dadd dd1 (FP.ddiv (FP.dmul dd1 dd1) (FP.dmul (4611686018427387904 : UInt64) (FP.dsub FP.dconst1 dd1)))) = R) :
    MetFree l (⟨"com/example/level_ring/levelring/placement/Members", "logAtMost", "(D)D"⟩ : MethodName) (head1 (Jvm.Cond.code (⟨"com/example/level_ring/levelring/placement/Members", "logAtMost", "(D)D"⟩ : MethodName) prog_36_method_32_code 2 (some .double) :: ws) ({ frames := 0, cells := 0, slots := 0, locals := 0 } : Room)) (fun a U => a = #[(.double dd1)] ∧ Z.Warmed39 U.vm ∧ U.heap = h0) (fun _ _ _ _ _ => True) (fun _ U o U' => ∃ v L, o = .returned v ∧ Q1 R h0 n0 v U'.heap L ∧ FrameEnd U o U' L ({ frames := 0, cells := 0, slots := 0, locals := 0 } : Room).cells ({ frames := 0, cells := 0, slots := 0, locals := 0 } : Room).slots) := by
  refine MetFree.of_bodySF (plainFor_of_name pn_1) hisR ?_
  intro p e s m args below meth c s₁ Bd hml0 hP hK
  obtain ⟨rfl, hZ, hh⟩ := hP
  have hx := Bd.exec
  have hby := Bd.bytes
  have hml : c.maxLocals = 2 := hml0
  have hown : s.vm.findClass "com/example/level_ring/levelring/placement/Members" = some m.cls := findClass_of_methodNamed Bd.named
  have hnm := (name_of_methodNamed Bd.named Bd.method).1
  have X0 : Stand p l e ({ frames := 0, cells := 0, slots := 0, locals := 0 } : Room) s m #[(.double dd1)] below meth c s₁ [] 0 0 := Stand.of_body Bd
  have e0 : s₁.heap = h0 := by rw [← hh, Bd.state]; rfl
  have N0 := Fr.nil n0
  have pre0 : ∀ t, Steps p.tables e below (s₁.setTop (mkF m 0 #[.val (.double dd1), .second] [])) t → Steps p.tables e below (s₁.setTop (entryFrame m #[(.double dd1)] 2)) t := fun t k => castTop (ef_1 m dd1) k
  -- 3. LAWS

  obtain ⟨fs, hr, hrun, hended, hW, hsame⟩ := X0.leave (v := some (.double (FP.dadd dd1 (FP.ddiv (FP.dmul dd1 dd1) (FP.dmul (4611686018427387904 : UInt64) (FP.dsub FP.dconst1 dd1)))))) (fun h => by rw [Bd.returns] at h; cases h)
  refine ⟨_, _, pre0 _ ?_, hrun, hended, _, _, rfl, ?_, ⟨_, rfl⟩, hW, hsame.mono (by decide) (by decide)⟩
  -- 4. STEPS
  · show Steps p.tables e below (s₁.setTop (mkF m 0 #[.val (.double dd1), .second] [])) _
    refine XS.dloadN X0.here hx rfl (hb hby d1_0) rfl ?_
    show Steps p.tables e below (s₁.setTop (mkF m 1 #[.val (.double dd1), .second] [(.double dd1)])) _
    refine X0.ldc2DoubleC hx hown (mvT hZ (hw _ (List.mem_of_getElem? (i := 6) rfl))) (g := (mkF m 1 #[.val (.double dd1), .second] [(.double dd1)])) rfl (hb hby d1_1) _ ?_
    show Steps p.tables e below (s₁.setTop (mkF m 4 #[.val (.double dd1), .second] [(.double (4598175219545276416 : UInt64)), (.double dd1)])) _
    refine XS.dcmpS X0.here hx rfl (hb hby d1_4) rfl rfl ?_
    show Steps p.tables e below (s₁.setTop (mkF m 5 #[.val (.double dd1), .second] [(.int (cmpValue (FP.dcmp dd1 (4598175219545276416 : UInt64)) .g))])) _
    refine XS.ifYes X0.here hx rfl (pc0 := 5) (pc' := 24) rfl (hb hby d1_5) rfl ((if0 _ _).trans (tlt hc5).2.2.1) (by decide) (by decide) ?_
    show Steps p.tables e below (s₁.setTop (mkF m 24 #[.val (.double dd1), .second] [])) _
    refine XS.dloadN X0.here hx rfl (hb hby d1_24) rfl ?_
    show Steps p.tables e below (s₁.setTop (mkF m 25 #[.val (.double dd1), .second] [(.double dd1)])) _
    refine XS.dloadN X0.here hx rfl (hb hby d1_25) rfl ?_
    show Steps p.tables e below (s₁.setTop (mkF m 26 #[.val (.double dd1), .second] [(.double dd1), (.double dd1)])) _
    refine XS.dloadN X0.here hx rfl (hb hby d1_26) rfl ?_
    show Steps p.tables e below (s₁.setTop (mkF m 27 #[.val (.double dd1), .second] [(.double dd1), (.double dd1), (.double dd1)])) _
    refine XS.dmulS X0.here hx rfl (hb hby d1_27) rfl hnn27 rfl ?_
    show Steps p.tables e below (s₁.setTop (mkF m 28 #[.val (.double dd1), .second] [(.double (FP.dmul dd1 dd1)), (.double dd1)])) _
    refine X0.ldc2DoubleC hx hown (mvT hZ (hw _ (List.mem_of_getElem? (i := 17) rfl))) (g := (mkF m 28 #[.val (.double dd1), .second] [(.double (FP.dmul dd1 dd1)), (.double dd1)])) rfl (hb hby d1_28) _ ?_
    show Steps p.tables e below (s₁.setTop (mkF m 31 #[.val (.double dd1), .second] [(.double (4611686018427387904 : UInt64)), (.double (FP.dmul dd1 dd1)), (.double dd1)])) _
    refine XS.dconst1 X0.here hx rfl (hb hby d1_31) rfl ?_
    show Steps p.tables e below (s₁.setTop (mkF m 32 #[.val (.double dd1), .second] [(.double FP.dconst1), (.double (4611686018427387904 : UInt64)), (.double (FP.dmul dd1 dd1)), (.double dd1)])) _
    refine XS.dloadN X0.here hx rfl (hb hby d1_32) rfl ?_
    show Steps p.tables e below (s₁.setTop (mkF m 33 #[.val (.double dd1), .second] [(.double dd1), (.double FP.dconst1), (.double (4611686018427387904 : UInt64)), (.double (FP.dmul dd1 dd1)), (.double dd1)])) _
    refine XS.dsubS X0.here hx rfl (hb hby d1_33) rfl hnn33 rfl ?_
    show Steps p.tables e below (s₁.setTop (mkF m 34 #[.val (.double dd1), .second] [(.double (FP.dsub FP.dconst1 dd1)), (.double (4611686018427387904 : UInt64)), (.double (FP.dmul dd1 dd1)), (.double dd1)])) _
    refine XS.dmulS X0.here hx rfl (hb hby d1_34) rfl hnn34 rfl ?_
    show Steps p.tables e below (s₁.setTop (mkF m 35 #[.val (.double dd1), .second] [(.double (FP.dmul (4611686018427387904 : UInt64) (FP.dsub FP.dconst1 dd1))), (.double (FP.dmul dd1 dd1)), (.double dd1)])) _
    refine XS.ddivS X0.here hx rfl (hb hby d1_35) rfl hnn35 rfl ?_
    show Steps p.tables e below (s₁.setTop (mkF m 36 #[.val (.double dd1), .second] [(.double (FP.ddiv (FP.dmul dd1 dd1) (FP.dmul (4611686018427387904 : UInt64) (FP.dsub FP.dconst1 dd1)))), (.double dd1)])) _
    refine XS.daddS X0.here hx rfl (hb hby d1_36) rfl hnn36 rfl ?_
    show Steps p.tables e below (s₁.setTop (mkF m 37 #[.val (.double dd1), .second] [(.double (FP.dadd dd1 (FP.ddiv (FP.dmul dd1 dd1) (FP.dmul (4611686018427387904 : UInt64) (FP.dsub FP.dconst1 dd1)))))])) _
    exact own_retD X0 hx Bd.returns (hb hby d1_37) hr
  · show Q1 R h0 n0 _ s₁.heap _
    rw [e0]
    exact ⟨by rw [hR trivial], N0, rfl⟩
theorem rm1 (l : Launch) (Z : State) (a0 : Array Value) (hw : ∀ d ∈ tables_1, d.before a0 Z = true) (ws : List Jvm.Cond) (dd1 : UInt64) (R : UInt64) (h0 : Heap) (n0 : Nat) (Z0 : n0 ≤ h0.size) (A : LA dd1 R) :
    MetFree l (⟨"com/example/level_ring/levelring/placement/Members", "logAtMost", "(D)D"⟩ : MethodName) (head1 (Jvm.Cond.code (⟨"com/example/level_ring/levelring/placement/Members", "logAtMost", "(D)D"⟩ : MethodName) prog_36_method_32_code 2 (some .double) :: ws) ({ frames := 0, cells := 0, slots := 0, locals := 0 } : Room)) (fun a U => a = #[(.double dd1)] ∧ Z.Warmed39 U.vm ∧ U.heap = h0) (fun _ _ _ _ _ => True) (fun _ U o U' => ∃ v L, o = .returned v ∧ Q1 R h0 n0 v U'.heap L ∧ FrameEnd U o U' L ({ frames := 0, cells := 0, slots := 0, locals := 0 } : Room).cells ({ frames := 0, cells := 0, slots := 0, locals := 0 } : Room).slots) := by
  rcases A with ⟨c1, c2, c3, c4, c5, c6, c7⟩ | ⟨c1, c2, c3, c4, c5, c6, c7⟩
  · exact rm1_f l Z a0 hw ws dd1 R h0 n0 Z0 c1 c2 c3 c4 c5 c6 (fun _ => c7)
  · exact rm1_t l Z a0 hw ws dd1 R h0 n0 Z0 c1 c2 c3 c4 c5 c6 (fun _ => c7)
theorem d2_0 : decode method_3_code 0 = .ok (.dload_n 2, 1) := by decide +kernel
theorem d2_1 : decode method_3_code 1 = .ok (.ldc2_w 18, 3) := by decide +kernel
theorem d2_4 : decode method_3_code 4 = .ok (.dmul, 1) := by decide +kernel
theorem d2_5 : decode method_3_code 5 = .ok (.dstore 4, 2) := by decide +kernel
theorem d2_7 : decode method_3_code 7 = .ok (.dload_n 0, 1) := by decide +kernel
theorem d2_8 : decode method_3_code 8 = .ok (.dload_n 2, 1) := by decide +kernel
theorem d2_9 : decode method_3_code 9 = .ok (.dsub, 1) := by decide +kernel
theorem d2_10 : decode method_3_code 10 = .ok (.dload 4, 2) := by decide +kernel
theorem d2_12 : decode method_3_code 12 = .ok (.dcmp .g, 1) := by decide +kernel
theorem d2_13 : decode method_3_code 13 = .ok (.ifCond .gt 16, 3) := by decide +kernel
theorem d2_16 : decode method_3_code 16 = .ok (.dload_n 2, 1) := by decide +kernel
theorem d2_17 : decode method_3_code 17 = .ok (.dload_n 0, 1) := by decide +kernel
theorem d2_18 : decode method_3_code 18 = .ok (.dsub, 1) := by decide +kernel
theorem d2_19 : decode method_3_code 19 = .ok (.dload 4, 2) := by decide +kernel
theorem d2_21 : decode method_3_code 21 = .ok (.dcmp .g, 1) := by decide +kernel
theorem d2_22 : decode method_3_code 22 = .ok (.ifCond .gt 7, 3) := by decide +kernel
theorem d2_25 : decode method_3_code 25 = .ok (.iconst 1, 1) := by decide +kernel
theorem d2_26 : decode method_3_code 26 = .ok (.goto 4, 3) := by decide +kernel
theorem d2_30 : decode method_3_code 30 = .ok (.ireturn, 1) := by decide +kernel
theorem pn_2 : plainName "com/example/level_ring/levelring/placement/MembersLogAtMostPinLaw" = true := by first | (simp [plainName, overriddenIn]; done) | decide +kernel
theorem ef_2 (m : MethodId) (x0 : UInt64) (x1 : UInt64) : entryFrame m #[(.double x0), (.double x1)] 6 = mkF m 0 #[.val (.double x0), .second, .val (.double x1), .second, .unset, .unset] [] := by first | (simp [entryFrame, mkF, argsToLocals, Value.category]; done) | rfl
def Q2 (Z : State) (dd1 : UInt64) (dd2 : UInt64) (h0 : Heap) (n0 : Nat) (v : Option Value) (h : Heap) (L : List Loc) : Prop := v = some (.int (1 : Int32)) ∧ Fr n0 L ∧ h = h0
set_option maxRecDepth 65536 in
set_option maxHeartbeats 40000000 in
theorem rm2 (l : Launch) (Z : State) (a0 : Array Value) (hw : ∀ d ∈ tables_1, d.before a0 Z = true) (ws : List Jvm.Cond) (dd1 : UInt64) (dd2 : UInt64) (h0 : Heap) (n0 : Nat) (Z0 : n0 ≤ h0.size) (hnn4 : Jvm.Free.Fl.NoNaN64 (FP.dmul dd2 (4386506037058863104 : UInt64))) (hnn9 : Jvm.Free.Fl.NoNaN64 (FP.dsub dd1 dd2)) (hc13 : ¬ ((0 : Int32) < (cmpValue (FP.dcmp (FP.dsub dd1 dd2) (FP.dmul dd2 (4386506037058863104 : UInt64))) .g))) (hnn18 : Jvm.Free.Fl.NoNaN64 (FP.dsub dd2 dd1)) (hc22 : ¬ ((0 : Int32) < (cmpValue (FP.dcmp (FP.dsub dd2 dd1) (FP.dmul dd2 (4386506037058863104 : UInt64))) .g))) :
    MetFree l (⟨"com/example/level_ring/levelring/placement/MembersLogAtMostPinLaw", "close", "(DD)Z"⟩ : MethodName) (head1 (Jvm.Cond.code (⟨"com/example/level_ring/levelring/placement/MembersLogAtMostPinLaw", "close", "(DD)Z"⟩ : MethodName) method_3_code 6 (some .boolean) :: ws) ({ frames := 0, cells := 0, slots := 0, locals := 0 } : Room)) (fun a U => a = #[(.double dd1), (.double dd2)] ∧ Z.Warmed39 U.vm ∧ U.heap = h0) (fun _ _ _ _ _ => True) (fun _ U o U' => ∃ v L, o = .returned v ∧ Q2 Z dd1 dd2 h0 n0 v U'.heap L ∧ FrameEnd U o U' L ({ frames := 0, cells := 0, slots := 0, locals := 0 } : Room).cells ({ frames := 0, cells := 0, slots := 0, locals := 0 } : Room).slots) := by
  refine MetFree.of_bodySF (plainFor_of_name pn_2) hisR ?_
  intro p e s m args below meth c s₁ Bd hml0 hP hK
  obtain ⟨rfl, hZ, hh⟩ := hP
  have hx := Bd.exec
  have hby := Bd.bytes
  have hml : c.maxLocals = 6 := hml0
  have hown : s.vm.findClass "com/example/level_ring/levelring/placement/MembersLogAtMostPinLaw" = some m.cls := findClass_of_methodNamed Bd.named
  have hnm := (name_of_methodNamed Bd.named Bd.method).1
  have X0 : Stand p l e ({ frames := 0, cells := 0, slots := 0, locals := 0 } : Room) s m #[(.double dd1), (.double dd2)] below meth c s₁ [] 0 0 := Stand.of_body Bd
  have e0 : s₁.heap = h0 := by rw [← hh, Bd.state]; rfl
  have N0 := Fr.nil n0
  have pre0 : ∀ t, Steps p.tables e below (s₁.setTop (mkF m 0 #[.val (.double dd1), .second, .val (.double dd2), .second, .unset, .unset] [])) t → Steps p.tables e below (s₁.setTop (entryFrame m #[(.double dd1), (.double dd2)] 6)) t := fun t k => castTop (ef_2 m dd1 dd2) k
  -- 3. LAWS

  obtain ⟨fs, hr, hrun, hended, hW, hsame⟩ := X0.leave (v := some (.int (1 : Int32))) (fun h => by rw [Bd.returns] at h; cases h)
  refine ⟨_, _, pre0 _ ?_, hrun, hended, _, _, rfl, ?_, ⟨_, rfl⟩, hW, hsame.mono (by decide) (by decide)⟩
  -- 4. STEPS
  · show Steps p.tables e below (s₁.setTop (mkF m 0 #[.val (.double dd1), .second, .val (.double dd2), .second, .unset, .unset] [])) _
    refine XS.dloadN X0.here hx rfl (hb hby d2_0) rfl ?_
    show Steps p.tables e below (s₁.setTop (mkF m 1 #[.val (.double dd1), .second, .val (.double dd2), .second, .unset, .unset] [(.double dd2)])) _
    refine X0.ldc2DoubleC hx hown (mvT hZ (hw _ (List.mem_of_getElem? (i := 9) rfl))) (g := (mkF m 1 #[.val (.double dd1), .second, .val (.double dd2), .second, .unset, .unset] [(.double dd2)])) rfl (hb hby d2_1) _ ?_
    show Steps p.tables e below (s₁.setTop (mkF m 4 #[.val (.double dd1), .second, .val (.double dd2), .second, .unset, .unset] [(.double (4386506037058863104 : UInt64)), (.double dd2)])) _
    refine XS.dmulS X0.here hx rfl (hb hby d2_4) rfl hnn4 rfl ?_
    show Steps p.tables e below (s₁.setTop (mkF m 5 #[.val (.double dd1), .second, .val (.double dd2), .second, .unset, .unset] [(.double (FP.dmul dd2 (4386506037058863104 : UInt64)))])) _
    refine XS.dstore X0.here hx rfl (hb hby d2_5) rfl (l' := #[.val (.double dd1), .second, .val (.double dd2), .second, .val (.double (FP.dmul dd2 (4386506037058863104 : UInt64))), .second]) rfl ?_
    show Steps p.tables e below (s₁.setTop (mkF m 7 #[.val (.double dd1), .second, .val (.double dd2), .second, .val (.double (FP.dmul dd2 (4386506037058863104 : UInt64))), .second] [])) _
    refine XS.dloadN X0.here hx rfl (hb hby d2_7) rfl ?_
    show Steps p.tables e below (s₁.setTop (mkF m 8 #[.val (.double dd1), .second, .val (.double dd2), .second, .val (.double (FP.dmul dd2 (4386506037058863104 : UInt64))), .second] [(.double dd1)])) _
    refine XS.dloadN X0.here hx rfl (hb hby d2_8) rfl ?_
    show Steps p.tables e below (s₁.setTop (mkF m 9 #[.val (.double dd1), .second, .val (.double dd2), .second, .val (.double (FP.dmul dd2 (4386506037058863104 : UInt64))), .second] [(.double dd2), (.double dd1)])) _
    refine XS.dsubS X0.here hx rfl (hb hby d2_9) rfl hnn9 rfl ?_
    show Steps p.tables e below (s₁.setTop (mkF m 10 #[.val (.double dd1), .second, .val (.double dd2), .second, .val (.double (FP.dmul dd2 (4386506037058863104 : UInt64))), .second] [(.double (FP.dsub dd1 dd2))])) _
    refine XS.dload X0.here hx rfl (hb hby d2_10) rfl ?_
    show Steps p.tables e below (s₁.setTop (mkF m 12 #[.val (.double dd1), .second, .val (.double dd2), .second, .val (.double (FP.dmul dd2 (4386506037058863104 : UInt64))), .second] [(.double (FP.dmul dd2 (4386506037058863104 : UInt64))), (.double (FP.dsub dd1 dd2))])) _
    refine XS.dcmpS X0.here hx rfl (hb hby d2_12) rfl rfl ?_
    show Steps p.tables e below (s₁.setTop (mkF m 13 #[.val (.double dd1), .second, .val (.double dd2), .second, .val (.double (FP.dmul dd2 (4386506037058863104 : UInt64))), .second] [(.int (cmpValue (FP.dcmp (FP.dsub dd1 dd2) (FP.dmul dd2 (4386506037058863104 : UInt64))) .g))])) _
    refine XS.ifNo X0.here hx rfl (hb hby d2_13) rfl ((if0 _ _).trans (flt hc13).2.2.1) ?_
    show Steps p.tables e below (s₁.setTop (mkF m 16 #[.val (.double dd1), .second, .val (.double dd2), .second, .val (.double (FP.dmul dd2 (4386506037058863104 : UInt64))), .second] [])) _
    refine XS.dloadN X0.here hx rfl (hb hby d2_16) rfl ?_
    show Steps p.tables e below (s₁.setTop (mkF m 17 #[.val (.double dd1), .second, .val (.double dd2), .second, .val (.double (FP.dmul dd2 (4386506037058863104 : UInt64))), .second] [(.double dd2)])) _
    refine XS.dloadN X0.here hx rfl (hb hby d2_17) rfl ?_
    show Steps p.tables e below (s₁.setTop (mkF m 18 #[.val (.double dd1), .second, .val (.double dd2), .second, .val (.double (FP.dmul dd2 (4386506037058863104 : UInt64))), .second] [(.double dd1), (.double dd2)])) _
    refine XS.dsubS X0.here hx rfl (hb hby d2_18) rfl hnn18 rfl ?_
    show Steps p.tables e below (s₁.setTop (mkF m 19 #[.val (.double dd1), .second, .val (.double dd2), .second, .val (.double (FP.dmul dd2 (4386506037058863104 : UInt64))), .second] [(.double (FP.dsub dd2 dd1))])) _
    refine XS.dload X0.here hx rfl (hb hby d2_19) rfl ?_
    show Steps p.tables e below (s₁.setTop (mkF m 21 #[.val (.double dd1), .second, .val (.double dd2), .second, .val (.double (FP.dmul dd2 (4386506037058863104 : UInt64))), .second] [(.double (FP.dmul dd2 (4386506037058863104 : UInt64))), (.double (FP.dsub dd2 dd1))])) _
    refine XS.dcmpS X0.here hx rfl (hb hby d2_21) rfl rfl ?_
    show Steps p.tables e below (s₁.setTop (mkF m 22 #[.val (.double dd1), .second, .val (.double dd2), .second, .val (.double (FP.dmul dd2 (4386506037058863104 : UInt64))), .second] [(.int (cmpValue (FP.dcmp (FP.dsub dd2 dd1) (FP.dmul dd2 (4386506037058863104 : UInt64))) .g))])) _
    refine XS.ifNo X0.here hx rfl (hb hby d2_22) rfl ((if0 _ _).trans (flt hc22).2.2.1) ?_
    show Steps p.tables e below (s₁.setTop (mkF m 25 #[.val (.double dd1), .second, .val (.double dd2), .second, .val (.double (FP.dmul dd2 (4386506037058863104 : UInt64))), .second] [])) _
    refine XS.iconst X0.here hx rfl (hb hby d2_25) ?_
    show Steps p.tables e below (s₁.setTop (mkF m 26 #[.val (.double dd1), .second, .val (.double dd2), .second, .val (.double (FP.dmul dd2 (4386506037058863104 : UInt64))), .second] [(.int (1 : Int32))])) _
    refine XS.goto X0.here hx rfl (pc0 := 26) (pc' := 30) rfl (hb hby d2_26) (by decide) (by decide) ?_
    show Steps p.tables e below (s₁.setTop (mkF m 30 #[.val (.double dd1), .second, .val (.double dd2), .second, .val (.double (FP.dmul dd2 (4386506037058863104 : UInt64))), .second] [(.int (1 : Int32))])) _
    exact retN X0 hx (t := .boolean) Bd.returns (by simp) (hb hby d2_30) hr
  · show Q2 Z dd1 dd2 h0 n0 _ s₁.heap _
    rw [e0]
    exact ⟨rfl, N0, rfl⟩
def Q0 (h0 : Heap) (n0 : Nat) (v : Option Value) (h : Heap) (L : List Loc) : Prop := v = some (.int (1 : Int32)) ∧ Fr n0 L
theorem pn_0 : plainName "com/example/level_ring/levelring/placement/MembersLogAtMostPinLaw" = true := by first | (simp [plainName, overriddenIn]; done) | decide +kernel
theorem pdw_0 : parseMethodDescriptor "(D)D" = some ⟨[.double], some .double⟩ := by decide +kernel
theorem pdw_1 : parseMethodDescriptor "(DD)Z" = some ⟨[.double, .double], some .boolean⟩ := by decide +kernel
theorem ef_0 (m : MethodId) (x0 : Int32) (x1 : Int64) : entryFrame m #[(.int x0), (.long x1)] maxLocals = mkF m 0 #[.val (.int x0), .val (.long x1), .second, .unset, .unset, .unset, .unset, .unset, .unset, .unset, .unset, .unset, .unset, .unset, .unset, .unset, .unset, .unset] [] := by first | (simp [entryFrame, mkF, argsToLocals, Value.category, maxLocals]; done) | rfl
set_option maxRecDepth 65536 in
set_option maxHeartbeats 40000000 in
theorem rm0_ss (l : Launch) (Z : State) (a0 : Array Value) (hw : ∀ d ∈ tables_1, d.before a0 Z = true) (ws : List Jvm.Cond) (p1 : Int32) (q2 : Int64) (x3_5 : Int64) (x5_12 : UInt64) (x10_46 : Int64) (x10_104 : Int64) (x12_113 : UInt64) (x16_156 : UInt64) (R1 R2 : UInt64) (h0 : Heap) (n0 : Nat) (Z0 : n0 ≤ h0.size) (hx3_5 : True → x3_5 = ((p1 &&& (65535 : Int32)).toInt64)) (hnn11 : Jvm.Free.Fl.NoNaN64 (FP.dmul (FP.l2d x3_5) (4535124824762089472 : UInt64))) (hx5_12 : True → x5_12 = (FP.dmul (FP.l2d x3_5) (4535124824762089472 : UInt64))) (hc26 : ¬ ((0 : Int32) < (lcmpW x3_5 (16384 : Int64)))) (hx10_46 : True → x10_46 = (((x3_5 <<< ((33 : Int32) &&& 0x3f).toInt64) + ((x3_5 * x3_5) <<< ((16 : Int32) &&& 0x3f).toInt64)) + ((x3_5 * x3_5) * x3_5))) (hnn56 : Jvm.Free.Fl.NoNaN64 (FP.dmul (FP.l2d x10_46) (4386506037058863104 : UInt64))) (hx10_104 : True → x10_104 = ((q2.toUInt64 >>> ((11 : Int32) &&& 0x3f).toInt64.toUInt64).toInt64)) (hnn112 : Jvm.Free.Fl.NoNaN64 (FP.dmul (FP.l2d x10_104) (4368491638549381120 : UInt64))) (hx12_113 : True → x12_113 = (FP.dmul (FP.l2d x10_104) (4368491638549381120 : UInt64))) (hc128 : ¬ ((0 : Int32) < (lcmpW x10_104 (2251799813685248 : Int64)))) (hnn138 : Jvm.Free.Fl.NoNaN64 (FP.dmul (4602678819172646912 : UInt64) x12_113)) (hnn141 : Jvm.Free.Fl.NoNaN64 (FP.dmul (FP.dmul (4602678819172646912 : UInt64) x12_113) x12_113)) (hnn142 : Jvm.Free.Fl.NoNaN64 (FP.dadd x12_113 (FP.dmul (FP.dmul (4602678819172646912 : UInt64) x12_113) x12_113))) (hnn148 : Jvm.Free.Fl.NoNaN64 (FP.dmul (4602678819172646912 : UInt64) x12_113)) (hnn151 : Jvm.Free.Fl.NoNaN64 (FP.dmul (FP.dmul (4602678819172646912 : UInt64) x12_113) x12_113)) (hnn154 : Jvm.Free.Fl.NoNaN64 (FP.dmul (FP.dmul (FP.dmul (4602678819172646912 : UInt64) x12_113) x12_113) x12_113)) (hnn155 : Jvm.Free.Fl.NoNaN64 (FP.dadd (FP.dadd x12_113 (FP.dmul (FP.dmul (4602678819172646912 : UInt64) x12_113) x12_113)) (FP.dmul (FP.dmul (FP.dmul (4602678819172646912 : UInt64) x12_113) x12_113) x12_113))) (hx16_156 : True → x16_156 = (FP.dadd (FP.dadd x12_113 (FP.dmul (FP.dmul (4602678819172646912 : UInt64) x12_113) x12_113)) (FP.dmul (FP.dmul (FP.dmul (4602678819172646912 : UInt64) x12_113) x12_113) x12_113))) (hc183 : ¬ ((1 : Int32) = (0 : Int32))) (hL1 : LA x5_12 R1) (hL2 : LA x12_113 R2) (hC2 : CL R2 x16_156) (hq : True → (cmpValue (FP.dcmp R1 (FP.dmul (FP.l2d x10_46) (4386506037058863104 : UInt64))) .l) = (0 : Int32)) :
    MetFree l x (head1 (Jvm.Cond.code x code maxLocals ret :: ws) room_1) (fun a U => a = #[(.int p1), (.long q2)] ∧ Z.Warmed39 U.vm ∧ U.heap = h0) (fun _ _ _ _ _ => True) (fun _ U o U' => ∃ v L, o = .returned v ∧ Q0 h0 n0 v U'.heap L ∧ FrameEnd U o U' L room_1.cells room_1.slots) := by
  refine MetFree.of_bodySF (plainFor_of_name pn_0) hisR ?_
  intro p e s m args below meth c s₁ Bd hml0 hP hK
  obtain ⟨rfl, hZ, hh⟩ := hP
  have hx := Bd.exec
  have hby := Bd.bytes
  have hml : c.maxLocals = 18 := hml0
  have hown : s.vm.findClass "com/example/level_ring/levelring/placement/MembersLogAtMostPinLaw" = some m.cls := findClass_of_methodNamed Bd.named
  have hnm := (name_of_methodNamed Bd.named Bd.method).1
  have X0 : Stand p l e room_1 s m #[(.int p1), (.long q2)] below meth c s₁ [] 0 0 := Stand.of_body Bd
  have e0 : s₁.heap = h0 := by rw [← hh, Bd.state]; rfl
  have N0 := Fr.nil n0
  have pre0 : ∀ t, Steps p.tables e below (s₁.setTop (mkF m 0 #[.val (.int p1), .val (.long q2), .second, .unset, .unset, .unset, .unset, .unset, .unset, .unset, .unset, .unset, .unset, .unset, .unset, .unset, .unset, .unset] [])) t → Steps p.tables e below (s₁.setTop (entryFrame m #[(.int p1), (.long q2)] maxLocals)) t := fun t k => castTop (ef_0 m p1 q2) k
  -- 3. LAWS
  -- pc 16: com/example/level_ring/levelring/placement/Members.logAtMost by its contract rm1
  obtain ⟨_, _, ⟨T3, L3, k3, n3⟩, -, X3, ⟨Lc3, hQ3, l3, y3, z3⟩, st3⟩ := Jvm.LawKit.callS X0 hx (y := (⟨"com/example/level_ring/levelring/placement/Members", "logAtMost", "(D)D"⟩ : MethodName)) hown (mvT hZ (hw _ (List.mem_of_getElem? (i := 2) rfl))) (mvT hZ (hw _ (List.mem_of_getElem? (i := 3) rfl))) (mvT hZ (hw _ (List.mem_of_getElem? (i := 4) rfl))) (mvT hZ (hw _ (List.mem_of_getElem? (i := 5) rfl))) (by decide) (backOf (W := 0) (rm1 l Z a0 hw [] x5_12 R1 h0 n0 Z0 hL1) hZ (hw _ (List.mem_of_getElem? (i := 5) rfl)) (hw _ (List.mem_of_getElem? (i := 4) rfl)) (by decide) (by decide)) (g := (mkF m 16 #[.val (.int p1), .val (.long q2), .second, .val (.long x3_5), .second, .val (.double x5_12), .second, .unset, .unset, .unset, .unset, .unset, .unset, .unset, .unset, .unset, .unset, .unset] [(.double x5_12)])) rfl (by rw [hml]; rfl) (argsL := [(.double x5_12)]) (rest := []) (lenOf pdw_0 rfl) rfl (by show 2 * 0 + _ ≤ _; exact Nat.le_of_eq rfl) (hb hby at_16) (fun _ _ => ⟨rfl, e0, (by decide : 0 + 0 ≤ _), (by decide : 0 + 0 ≤ _)⟩)
  dsimp only [Pt.U, Pt.locs, Pt.cells, Pt.slots] at X3 l3 y3 z3 st3 hQ3
  subst l3 y3 z3
  obtain ⟨rfl, N3q, hh3⟩ := hQ3
  have N3 := Fr.app N0 N3q
  -- pc 117: com/example/level_ring/levelring/placement/Members.logAtMost by its contract rm1
  obtain ⟨_, _, ⟨T4, L4, k4, n4⟩, -, X4, ⟨Lc4, hQ4, l4, y4, z4⟩, st4⟩ := Jvm.LawKit.callS X3 hx (y := (⟨"com/example/level_ring/levelring/placement/Members", "logAtMost", "(D)D"⟩ : MethodName)) hown (mvT hZ (hw _ (List.mem_of_getElem? (i := 2) rfl))) (mvT hZ (hw _ (List.mem_of_getElem? (i := 3) rfl))) (mvT hZ (hw _ (List.mem_of_getElem? (i := 4) rfl))) (mvT hZ (hw _ (List.mem_of_getElem? (i := 5) rfl))) (by decide) (backOf (W := 0) (rm1 l Z a0 hw [] x12_113 R2 h0 n0 Z0 hL2) hZ (hw _ (List.mem_of_getElem? (i := 5) rfl)) (hw _ (List.mem_of_getElem? (i := 4) rfl)) (by decide) (by decide)) (g := (mkF m 117 #[.val (.int p1), .val (.long q2), .second, .val (.long x3_5), .second, .val (.double x5_12), .second, .val (.double R1), .second, .val (.int (1 : Int32)), .val (.long x10_104), .second, .val (.double x12_113), .second, .unset, .unset, .unset, .unset] [(.double x12_113)])) rfl (by rw [hml]; rfl) (argsL := [(.double x12_113)]) (rest := []) (lenOf pdw_0 rfl) rfl (by show 2 * 0 + _ ≤ _; exact Nat.le_of_eq rfl) (hb hby at_117) (fun _ _ => ⟨rfl, hh3, (by decide : 0 + 0 ≤ _), (by decide : 0 + 0 ≤ _)⟩)
  dsimp only [Pt.U, Pt.locs, Pt.cells, Pt.slots] at X4 l4 y4 z4 st4 hQ4
  subst l4 y4 z4
  obtain ⟨rfl, N4q, hh4⟩ := hQ4
  have N4 := Fr.app N3 N4q
  -- pc 190: com/example/level_ring/levelring/placement/MembersLogAtMostPinLaw.close by its contract rm2
  obtain ⟨_, _, ⟨T5, L5, k5, n5⟩, -, X5, ⟨Lc5, hQ5, l5, y5, z5⟩, st5⟩ := Jvm.LawKit.callS X4 hx (y := (⟨"com/example/level_ring/levelring/placement/MembersLogAtMostPinLaw", "close", "(DD)Z"⟩ : MethodName)) hown (mvT hZ (hw _ (List.mem_of_getElem? (i := 13) rfl))) (mvT hZ (hw _ (List.mem_of_getElem? (i := 14) rfl))) (mvT hZ (hw _ (List.mem_of_getElem? (i := 15) rfl))) (mvT hZ (hw _ (List.mem_of_getElem? (i := 16) rfl))) (by decide) (backOf (W := 0) (rm2 l Z a0 hw [] R2 x16_156  h0 n0 Z0 hC2.1 hC2.2.1 hC2.2.2.1 hC2.2.2.2.1 hC2.2.2.2.2) hZ (hw _ (List.mem_of_getElem? (i := 16) rfl)) (hw _ (List.mem_of_getElem? (i := 15) rfl)) (by decide) (by decide)) (g := (mkF m 190 #[.val (.int p1), .val (.long q2), .second, .val (.long x3_5), .second, .val (.double x5_12), .second, .val (.double R1), .second, .val (.int (1 : Int32)), .val (.long x10_104), .second, .val (.double x12_113), .second, .val (.double R2), .second, .val (.double x16_156), .second] [(.double x16_156), (.double R2)])) rfl (by rw [hml]; rfl) (argsL := [(.double R2), (.double x16_156)]) (rest := []) (lenOf pdw_1 rfl) rfl (by show 2 * 0 + _ ≤ _; exact Nat.le_of_eq rfl) (hb hby at_190) (fun _ _ => ⟨rfl, hh4, (by decide : 0 + 0 ≤ _), (by decide : 0 + 0 ≤ _)⟩)
  dsimp only [Pt.U, Pt.locs, Pt.cells, Pt.slots] at X5 l5 y5 z5 st5 hQ5
  subst l5 y5 z5
  obtain ⟨rfl, N5q, hh5⟩ := hQ5
  have N5 := Fr.app N4 N5q
  obtain ⟨fs, hr, hrun, hended, hW, hsame⟩ := X5.leave (v := some (.int (1 : Int32))) (fun h => by rw [Bd.returns] at h; cases h)
  refine ⟨_, _, pre0 _ ?_, hrun, hended, _, _, rfl, ?_, ⟨_, rfl⟩, hW, hsame.mono (by decide) (by decide)⟩
  -- 4. STEPS
  · show Steps p.tables e below (s₁.setTop (mkF m 0 #[.val (.int p1), .val (.long q2), .second, .unset, .unset, .unset, .unset, .unset, .unset, .unset, .unset, .unset, .unset, .unset, .unset, .unset, .unset, .unset] [])) _
    refine XS.iloadN X0.here hx rfl (hb hby at_0) rfl ?_
    show Steps p.tables e below (s₁.setTop (mkF m 1 #[.val (.int p1), .val (.long q2), .second, .unset, .unset, .unset, .unset, .unset, .unset, .unset, .unset, .unset, .unset, .unset, .unset, .unset, .unset, .unset] [(.int p1)])) _
    refine X0.ldcInt hx hown (mvT hZ (hw _ (List.mem_of_getElem? (i := 0) rfl))) (g := (mkF m 1 #[.val (.int p1), .val (.long q2), .second, .unset, .unset, .unset, .unset, .unset, .unset, .unset, .unset, .unset, .unset, .unset, .unset, .unset, .unset, .unset] [(.int p1)])) rfl (hb hby at_1) _ ?_
    show Steps p.tables e below (s₁.setTop (mkF m 3 #[.val (.int p1), .val (.long q2), .second, .unset, .unset, .unset, .unset, .unset, .unset, .unset, .unset, .unset, .unset, .unset, .unset, .unset, .unset, .unset] [(.int (65535 : Int32)), (.int p1)])) _
    refine XS.iand X0.here hx rfl (hb hby at_3) rfl ?_
    show Steps p.tables e below (s₁.setTop (mkF m 4 #[.val (.int p1), .val (.long q2), .second, .unset, .unset, .unset, .unset, .unset, .unset, .unset, .unset, .unset, .unset, .unset, .unset, .unset, .unset, .unset] [(.int (p1 &&& (65535 : Int32)))])) _
    refine XS.i2l X0.here hx rfl (hb hby at_4) rfl ?_
    show Steps p.tables e below (s₁.setTop (mkF m 5 #[.val (.int p1), .val (.long q2), .second, .unset, .unset, .unset, .unset, .unset, .unset, .unset, .unset, .unset, .unset, .unset, .unset, .unset, .unset, .unset] [(.long ((p1 &&& (65535 : Int32)).toInt64))])) _
    rw [← hx3_5 trivial]
    refine XS.lstoreN X0.here hx rfl (hb hby at_5) rfl (l' := #[.val (.int p1), .val (.long q2), .second, .val (.long x3_5), .second, .unset, .unset, .unset, .unset, .unset, .unset, .unset, .unset, .unset, .unset, .unset, .unset, .unset]) rfl ?_
    show Steps p.tables e below (s₁.setTop (mkF m 6 #[.val (.int p1), .val (.long q2), .second, .val (.long x3_5), .second, .unset, .unset, .unset, .unset, .unset, .unset, .unset, .unset, .unset, .unset, .unset, .unset, .unset] [])) _
    refine XS.lloadN X0.here hx rfl (hb hby at_6) rfl ?_
    show Steps p.tables e below (s₁.setTop (mkF m 7 #[.val (.int p1), .val (.long q2), .second, .val (.long x3_5), .second, .unset, .unset, .unset, .unset, .unset, .unset, .unset, .unset, .unset, .unset, .unset, .unset, .unset] [(.long x3_5)])) _
    refine XS.l2dS X0.here hx rfl (hb hby at_7) rfl rfl ?_
    show Steps p.tables e below (s₁.setTop (mkF m 8 #[.val (.int p1), .val (.long q2), .second, .val (.long x3_5), .second, .unset, .unset, .unset, .unset, .unset, .unset, .unset, .unset, .unset, .unset, .unset, .unset, .unset] [(.double (FP.l2d x3_5))])) _
    refine X0.ldc2DoubleC hx hown (mvT hZ (hw _ (List.mem_of_getElem? (i := 1) rfl))) (g := (mkF m 8 #[.val (.int p1), .val (.long q2), .second, .val (.long x3_5), .second, .unset, .unset, .unset, .unset, .unset, .unset, .unset, .unset, .unset, .unset, .unset, .unset, .unset] [(.double (FP.l2d x3_5))])) rfl (hb hby at_8) _ ?_
    show Steps p.tables e below (s₁.setTop (mkF m 11 #[.val (.int p1), .val (.long q2), .second, .val (.long x3_5), .second, .unset, .unset, .unset, .unset, .unset, .unset, .unset, .unset, .unset, .unset, .unset, .unset, .unset] [(.double (4535124824762089472 : UInt64)), (.double (FP.l2d x3_5))])) _
    refine XS.dmulS X0.here hx rfl (hb hby at_11) rfl hnn11 rfl ?_
    show Steps p.tables e below (s₁.setTop (mkF m 12 #[.val (.int p1), .val (.long q2), .second, .val (.long x3_5), .second, .unset, .unset, .unset, .unset, .unset, .unset, .unset, .unset, .unset, .unset, .unset, .unset, .unset] [(.double (FP.dmul (FP.l2d x3_5) (4535124824762089472 : UInt64)))])) _
    rw [← hx5_12 trivial]
    refine XS.dstore X0.here hx rfl (hb hby at_12) rfl (l' := #[.val (.int p1), .val (.long q2), .second, .val (.long x3_5), .second, .val (.double x5_12), .second, .unset, .unset, .unset, .unset, .unset, .unset, .unset, .unset, .unset, .unset, .unset]) rfl ?_
    show Steps p.tables e below (s₁.setTop (mkF m 14 #[.val (.int p1), .val (.long q2), .second, .val (.long x3_5), .second, .val (.double x5_12), .second, .unset, .unset, .unset, .unset, .unset, .unset, .unset, .unset, .unset, .unset, .unset] [])) _
    refine XS.dload X0.here hx rfl (hb hby at_14) rfl ?_
    show Steps p.tables e below (s₁.setTop (mkF m 16 #[.val (.int p1), .val (.long q2), .second, .val (.long x3_5), .second, .val (.double x5_12), .second, .unset, .unset, .unset, .unset, .unset, .unset, .unset, .unset, .unset, .unset, .unset] [(.double x5_12)])) _
    refine st3 _ ?_
    show Steps p.tables e below (T3.setTop (mkF m 19 #[.val (.int p1), .val (.long q2), .second, .val (.long x3_5), .second, .val (.double x5_12), .second, .unset, .unset, .unset, .unset, .unset, .unset, .unset, .unset, .unset, .unset, .unset] [(.double R1)])) _
    refine XS.dstore X3.here hx rfl (hb hby at_19) rfl (l' := #[.val (.int p1), .val (.long q2), .second, .val (.long x3_5), .second, .val (.double x5_12), .second, .val (.double R1), .second, .unset, .unset, .unset, .unset, .unset, .unset, .unset, .unset, .unset]) rfl ?_
    show Steps p.tables e below (T3.setTop (mkF m 21 #[.val (.int p1), .val (.long q2), .second, .val (.long x3_5), .second, .val (.double x5_12), .second, .val (.double R1), .second, .unset, .unset, .unset, .unset, .unset, .unset, .unset, .unset, .unset] [])) _
    refine XS.lloadN X3.here hx rfl (hb hby at_21) rfl ?_
    show Steps p.tables e below (T3.setTop (mkF m 22 #[.val (.int p1), .val (.long q2), .second, .val (.long x3_5), .second, .val (.double x5_12), .second, .val (.double R1), .second, .unset, .unset, .unset, .unset, .unset, .unset, .unset, .unset, .unset] [(.long x3_5)])) _
    refine X3.ldc2Long hx hown (mvT hZ (hw _ (List.mem_of_getElem? (i := 8) rfl))) (g := (mkF m 22 #[.val (.int p1), .val (.long q2), .second, .val (.long x3_5), .second, .val (.double x5_12), .second, .val (.double R1), .second, .unset, .unset, .unset, .unset, .unset, .unset, .unset, .unset, .unset] [(.long x3_5)])) rfl (hb hby at_22) _ ?_
    show Steps p.tables e below (T3.setTop (mkF m 25 #[.val (.int p1), .val (.long q2), .second, .val (.long x3_5), .second, .val (.double x5_12), .second, .val (.double R1), .second, .unset, .unset, .unset, .unset, .unset, .unset, .unset, .unset, .unset] [(.long (16384 : Int64)), (.long x3_5)])) _
    refine XS.lcmp X3.here hx rfl (hb hby at_25) rfl ?_
    show Steps p.tables e below (T3.setTop (mkF m 26 #[.val (.int p1), .val (.long q2), .second, .val (.long x3_5), .second, .val (.double x5_12), .second, .val (.double R1), .second, .unset, .unset, .unset, .unset, .unset, .unset, .unset, .unset, .unset] [(.int (lcmpW x3_5 (16384 : Int64)))])) _
    refine XS.ifNo X3.here hx rfl (hb hby at_26) rfl ((if0 _ _).trans (flt hc26).2.2.1) ?_
    show Steps p.tables e below (T3.setTop (mkF m 29 #[.val (.int p1), .val (.long q2), .second, .val (.long x3_5), .second, .val (.double x5_12), .second, .val (.double R1), .second, .unset, .unset, .unset, .unset, .unset, .unset, .unset, .unset, .unset] [])) _
    refine XS.lloadN X3.here hx rfl (hb hby at_29) rfl ?_
    show Steps p.tables e below (T3.setTop (mkF m 30 #[.val (.int p1), .val (.long q2), .second, .val (.long x3_5), .second, .val (.double x5_12), .second, .val (.double R1), .second, .unset, .unset, .unset, .unset, .unset, .unset, .unset, .unset, .unset] [(.long x3_5)])) _
    refine XS.bipush X3.here hx rfl (hb hby at_30) ?_
    show Steps p.tables e below (T3.setTop (mkF m 32 #[.val (.int p1), .val (.long q2), .second, .val (.long x3_5), .second, .val (.double x5_12), .second, .val (.double R1), .second, .unset, .unset, .unset, .unset, .unset, .unset, .unset, .unset, .unset] [(.int (33 : Int32)), (.long x3_5)])) _
    refine XS.lshl X3.here hx rfl (hb hby at_32) rfl ?_
    show Steps p.tables e below (T3.setTop (mkF m 33 #[.val (.int p1), .val (.long q2), .second, .val (.long x3_5), .second, .val (.double x5_12), .second, .val (.double R1), .second, .unset, .unset, .unset, .unset, .unset, .unset, .unset, .unset, .unset] [(.long (x3_5 <<< ((33 : Int32) &&& 0x3f).toInt64))])) _
    refine XS.lloadN X3.here hx rfl (hb hby at_33) rfl ?_
    show Steps p.tables e below (T3.setTop (mkF m 34 #[.val (.int p1), .val (.long q2), .second, .val (.long x3_5), .second, .val (.double x5_12), .second, .val (.double R1), .second, .unset, .unset, .unset, .unset, .unset, .unset, .unset, .unset, .unset] [(.long x3_5), (.long (x3_5 <<< ((33 : Int32) &&& 0x3f).toInt64))])) _
    refine XS.lloadN X3.here hx rfl (hb hby at_34) rfl ?_
    show Steps p.tables e below (T3.setTop (mkF m 35 #[.val (.int p1), .val (.long q2), .second, .val (.long x3_5), .second, .val (.double x5_12), .second, .val (.double R1), .second, .unset, .unset, .unset, .unset, .unset, .unset, .unset, .unset, .unset] [(.long x3_5), (.long x3_5), (.long (x3_5 <<< ((33 : Int32) &&& 0x3f).toInt64))])) _
    refine XS.lmul X3.here hx rfl (hb hby at_35) rfl ?_
    show Steps p.tables e below (T3.setTop (mkF m 36 #[.val (.int p1), .val (.long q2), .second, .val (.long x3_5), .second, .val (.double x5_12), .second, .val (.double R1), .second, .unset, .unset, .unset, .unset, .unset, .unset, .unset, .unset, .unset] [(.long (x3_5 * x3_5)), (.long (x3_5 <<< ((33 : Int32) &&& 0x3f).toInt64))])) _
    refine XS.bipush X3.here hx rfl (hb hby at_36) ?_
    show Steps p.tables e below (T3.setTop (mkF m 38 #[.val (.int p1), .val (.long q2), .second, .val (.long x3_5), .second, .val (.double x5_12), .second, .val (.double R1), .second, .unset, .unset, .unset, .unset, .unset, .unset, .unset, .unset, .unset] [(.int (16 : Int32)), (.long (x3_5 * x3_5)), (.long (x3_5 <<< ((33 : Int32) &&& 0x3f).toInt64))])) _
    refine XS.lshl X3.here hx rfl (hb hby at_38) rfl ?_
    show Steps p.tables e below (T3.setTop (mkF m 39 #[.val (.int p1), .val (.long q2), .second, .val (.long x3_5), .second, .val (.double x5_12), .second, .val (.double R1), .second, .unset, .unset, .unset, .unset, .unset, .unset, .unset, .unset, .unset] [(.long ((x3_5 * x3_5) <<< ((16 : Int32) &&& 0x3f).toInt64)), (.long (x3_5 <<< ((33 : Int32) &&& 0x3f).toInt64))])) _
    refine XS.ladd X3.here hx rfl (hb hby at_39) rfl ?_
    show Steps p.tables e below (T3.setTop (mkF m 40 #[.val (.int p1), .val (.long q2), .second, .val (.long x3_5), .second, .val (.double x5_12), .second, .val (.double R1), .second, .unset, .unset, .unset, .unset, .unset, .unset, .unset, .unset, .unset] [(.long ((x3_5 <<< ((33 : Int32) &&& 0x3f).toInt64) + ((x3_5 * x3_5) <<< ((16 : Int32) &&& 0x3f).toInt64)))])) _
    refine XS.lloadN X3.here hx rfl (hb hby at_40) rfl ?_
    show Steps p.tables e below (T3.setTop (mkF m 41 #[.val (.int p1), .val (.long q2), .second, .val (.long x3_5), .second, .val (.double x5_12), .second, .val (.double R1), .second, .unset, .unset, .unset, .unset, .unset, .unset, .unset, .unset, .unset] [(.long x3_5), (.long ((x3_5 <<< ((33 : Int32) &&& 0x3f).toInt64) + ((x3_5 * x3_5) <<< ((16 : Int32) &&& 0x3f).toInt64)))])) _
    refine XS.lloadN X3.here hx rfl (hb hby at_41) rfl ?_
    show Steps p.tables e below (T3.setTop (mkF m 42 #[.val (.int p1), .val (.long q2), .second, .val (.long x3_5), .second, .val (.double x5_12), .second, .val (.double R1), .second, .unset, .unset, .unset, .unset, .unset, .unset, .unset, .unset, .unset] [(.long x3_5), (.long x3_5), (.long ((x3_5 <<< ((33 : Int32) &&& 0x3f).toInt64) + ((x3_5 * x3_5) <<< ((16 : Int32) &&& 0x3f).toInt64)))])) _
    refine XS.lmul X3.here hx rfl (hb hby at_42) rfl ?_
    show Steps p.tables e below (T3.setTop (mkF m 43 #[.val (.int p1), .val (.long q2), .second, .val (.long x3_5), .second, .val (.double x5_12), .second, .val (.double R1), .second, .unset, .unset, .unset, .unset, .unset, .unset, .unset, .unset, .unset] [(.long (x3_5 * x3_5)), (.long ((x3_5 <<< ((33 : Int32) &&& 0x3f).toInt64) + ((x3_5 * x3_5) <<< ((16 : Int32) &&& 0x3f).toInt64)))])) _
    refine XS.lloadN X3.here hx rfl (hb hby at_43) rfl ?_
    show Steps p.tables e below (T3.setTop (mkF m 44 #[.val (.int p1), .val (.long q2), .second, .val (.long x3_5), .second, .val (.double x5_12), .second, .val (.double R1), .second, .unset, .unset, .unset, .unset, .unset, .unset, .unset, .unset, .unset] [(.long x3_5), (.long (x3_5 * x3_5)), (.long ((x3_5 <<< ((33 : Int32) &&& 0x3f).toInt64) + ((x3_5 * x3_5) <<< ((16 : Int32) &&& 0x3f).toInt64)))])) _
    refine XS.lmul X3.here hx rfl (hb hby at_44) rfl ?_
    show Steps p.tables e below (T3.setTop (mkF m 45 #[.val (.int p1), .val (.long q2), .second, .val (.long x3_5), .second, .val (.double x5_12), .second, .val (.double R1), .second, .unset, .unset, .unset, .unset, .unset, .unset, .unset, .unset, .unset] [(.long ((x3_5 * x3_5) * x3_5)), (.long ((x3_5 <<< ((33 : Int32) &&& 0x3f).toInt64) + ((x3_5 * x3_5) <<< ((16 : Int32) &&& 0x3f).toInt64)))])) _
    refine XS.ladd X3.here hx rfl (hb hby at_45) rfl ?_
    show Steps p.tables e below (T3.setTop (mkF m 46 #[.val (.int p1), .val (.long q2), .second, .val (.long x3_5), .second, .val (.double x5_12), .second, .val (.double R1), .second, .unset, .unset, .unset, .unset, .unset, .unset, .unset, .unset, .unset] [(.long (((x3_5 <<< ((33 : Int32) &&& 0x3f).toInt64) + ((x3_5 * x3_5) <<< ((16 : Int32) &&& 0x3f).toInt64)) + ((x3_5 * x3_5) * x3_5)))])) _
    rw [← hx10_46 trivial]
    refine XS.lstore X3.here hx rfl (hb hby at_46) rfl (l' := #[.val (.int p1), .val (.long q2), .second, .val (.long x3_5), .second, .val (.double x5_12), .second, .val (.double R1), .second, .unset, .val (.long x10_46), .second, .unset, .unset, .unset, .unset, .unset, .unset]) rfl ?_
    show Steps p.tables e below (T3.setTop (mkF m 48 #[.val (.int p1), .val (.long q2), .second, .val (.long x3_5), .second, .val (.double x5_12), .second, .val (.double R1), .second, .unset, .val (.long x10_46), .second, .unset, .unset, .unset, .unset, .unset, .unset] [])) _
    refine XS.dload X3.here hx rfl (hb hby at_48) rfl ?_
    show Steps p.tables e below (T3.setTop (mkF m 50 #[.val (.int p1), .val (.long q2), .second, .val (.long x3_5), .second, .val (.double x5_12), .second, .val (.double R1), .second, .unset, .val (.long x10_46), .second, .unset, .unset, .unset, .unset, .unset, .unset] [(.double R1)])) _
    refine XS.lload X3.here hx rfl (hb hby at_50) rfl ?_
    show Steps p.tables e below (T3.setTop (mkF m 52 #[.val (.int p1), .val (.long q2), .second, .val (.long x3_5), .second, .val (.double x5_12), .second, .val (.double R1), .second, .unset, .val (.long x10_46), .second, .unset, .unset, .unset, .unset, .unset, .unset] [(.long x10_46), (.double R1)])) _
    refine XS.l2dS X3.here hx rfl (hb hby at_52) rfl rfl ?_
    show Steps p.tables e below (T3.setTop (mkF m 53 #[.val (.int p1), .val (.long q2), .second, .val (.long x3_5), .second, .val (.double x5_12), .second, .val (.double R1), .second, .unset, .val (.long x10_46), .second, .unset, .unset, .unset, .unset, .unset, .unset] [(.double (FP.l2d x10_46)), (.double R1)])) _
    refine X3.ldc2DoubleC hx hown (mvT hZ (hw _ (List.mem_of_getElem? (i := 9) rfl))) (g := (mkF m 53 #[.val (.int p1), .val (.long q2), .second, .val (.long x3_5), .second, .val (.double x5_12), .second, .val (.double R1), .second, .unset, .val (.long x10_46), .second, .unset, .unset, .unset, .unset, .unset, .unset] [(.double (FP.l2d x10_46)), (.double R1)])) rfl (hb hby at_53) _ ?_
    show Steps p.tables e below (T3.setTop (mkF m 56 #[.val (.int p1), .val (.long q2), .second, .val (.long x3_5), .second, .val (.double x5_12), .second, .val (.double R1), .second, .unset, .val (.long x10_46), .second, .unset, .unset, .unset, .unset, .unset, .unset] [(.double (4386506037058863104 : UInt64)), (.double (FP.l2d x10_46)), (.double R1)])) _
    refine XS.dmulS X3.here hx rfl (hb hby at_56) rfl hnn56 rfl ?_
    show Steps p.tables e below (T3.setTop (mkF m 57 #[.val (.int p1), .val (.long q2), .second, .val (.long x3_5), .second, .val (.double x5_12), .second, .val (.double R1), .second, .unset, .val (.long x10_46), .second, .unset, .unset, .unset, .unset, .unset, .unset] [(.double (FP.dmul (FP.l2d x10_46) (4386506037058863104 : UInt64))), (.double R1)])) _
    refine XS.dcmpS X3.here hx rfl (hb hby at_57) rfl rfl ?_
    show Steps p.tables e below (T3.setTop (mkF m 58 #[.val (.int p1), .val (.long q2), .second, .val (.long x3_5), .second, .val (.double x5_12), .second, .val (.double R1), .second, .unset, .val (.long x10_46), .second, .unset, .unset, .unset, .unset, .unset, .unset] [(.int (cmpValue (FP.dcmp R1 (FP.dmul (FP.l2d x10_46) (4386506037058863104 : UInt64))) .l))])) _
    refine XS.ifNo X3.here hx rfl (hb hby at_58) rfl ((if0 _ _).trans (teq (hq trivial : (cmpValue (FP.dcmp R1 (FP.dmul (FP.l2d x10_46) (4386506037058863104 : UInt64))) .l) = (0 : Int32))).2) ?_
    show Steps p.tables e below (T3.setTop (mkF m 61 #[.val (.int p1), .val (.long q2), .second, .val (.long x3_5), .second, .val (.double x5_12), .second, .val (.double R1), .second, .unset, .val (.long x10_46), .second, .unset, .unset, .unset, .unset, .unset, .unset] [])) _
    refine XS.iconst X3.here hx rfl (hb hby at_61) ?_
    show Steps p.tables e below (T3.setTop (mkF m 62 #[.val (.int p1), .val (.long q2), .second, .val (.long x3_5), .second, .val (.double x5_12), .second, .val (.double R1), .second, .unset, .val (.long x10_46), .second, .unset, .unset, .unset, .unset, .unset, .unset] [(.int (1 : Int32))])) _
    refine XS.goto X3.here hx rfl (pc0 := 62) (pc' := 66) rfl (hb hby at_62) (by decide) (by decide) ?_
    show Steps p.tables e below (T3.setTop (mkF m 66 #[.val (.int p1), .val (.long q2), .second, .val (.long x3_5), .second, .val (.double x5_12), .second, .val (.double R1), .second, .unset, .val (.long x10_46), .second, .unset, .unset, .unset, .unset, .unset, .unset] [(.int (1 : Int32))])) _
    refine XS.istore X3.here hx rfl (hb hby at_66) rfl (l' := #[.val (.int p1), .val (.long q2), .second, .val (.long x3_5), .second, .val (.double x5_12), .second, .val (.double R1), .second, .val (.int (1 : Int32)), .val (.long x10_46), .second, .unset, .unset, .unset, .unset, .unset, .unset]) rfl ?_
    show Steps p.tables e below (T3.setTop (mkF m 68 #[.val (.int p1), .val (.long q2), .second, .val (.long x3_5), .second, .val (.double x5_12), .second, .val (.double R1), .second, .val (.int (1 : Int32)), .val (.long x10_46), .second, .unset, .unset, .unset, .unset, .unset, .unset] [])) _
    refine XS.goto X3.here hx rfl (pc0 := 68) (pc' := 100) rfl (hb hby at_68) (by decide) (by decide) ?_
    show Steps p.tables e below (T3.setTop (mkF m 100 #[.val (.int p1), .val (.long q2), .second, .val (.long x3_5), .second, .val (.double x5_12), .second, .val (.double R1), .second, .val (.int (1 : Int32)), .val (.long x10_46), .second, .unset, .unset, .unset, .unset, .unset, .unset] [])) _
    refine XS.lloadN X3.here hx rfl (hb hby at_100) rfl ?_
    show Steps p.tables e below (T3.setTop (mkF m 101 #[.val (.int p1), .val (.long q2), .second, .val (.long x3_5), .second, .val (.double x5_12), .second, .val (.double R1), .second, .val (.int (1 : Int32)), .val (.long x10_46), .second, .unset, .unset, .unset, .unset, .unset, .unset] [(.long q2)])) _
    refine XS.bipush X3.here hx rfl (hb hby at_101) ?_
    show Steps p.tables e below (T3.setTop (mkF m 103 #[.val (.int p1), .val (.long q2), .second, .val (.long x3_5), .second, .val (.double x5_12), .second, .val (.double R1), .second, .val (.int (1 : Int32)), .val (.long x10_46), .second, .unset, .unset, .unset, .unset, .unset, .unset] [(.int (11 : Int32)), (.long q2)])) _
    refine XS.lushr X3.here hx rfl (hb hby at_103) rfl ?_
    show Steps p.tables e below (T3.setTop (mkF m 104 #[.val (.int p1), .val (.long q2), .second, .val (.long x3_5), .second, .val (.double x5_12), .second, .val (.double R1), .second, .val (.int (1 : Int32)), .val (.long x10_46), .second, .unset, .unset, .unset, .unset, .unset, .unset] [(.long ((q2.toUInt64 >>> ((11 : Int32) &&& 0x3f).toInt64.toUInt64).toInt64))])) _
    rw [← hx10_104 trivial]
    refine XS.lstore X3.here hx rfl (hb hby at_104) rfl (l' := #[.val (.int p1), .val (.long q2), .second, .val (.long x3_5), .second, .val (.double x5_12), .second, .val (.double R1), .second, .val (.int (1 : Int32)), .val (.long x10_104), .second, .unset, .unset, .unset, .unset, .unset, .unset]) rfl ?_
    show Steps p.tables e below (T3.setTop (mkF m 106 #[.val (.int p1), .val (.long q2), .second, .val (.long x3_5), .second, .val (.double x5_12), .second, .val (.double R1), .second, .val (.int (1 : Int32)), .val (.long x10_104), .second, .unset, .unset, .unset, .unset, .unset, .unset] [])) _
    refine XS.lload X3.here hx rfl (hb hby at_106) rfl ?_
    show Steps p.tables e below (T3.setTop (mkF m 108 #[.val (.int p1), .val (.long q2), .second, .val (.long x3_5), .second, .val (.double x5_12), .second, .val (.double R1), .second, .val (.int (1 : Int32)), .val (.long x10_104), .second, .unset, .unset, .unset, .unset, .unset, .unset] [(.long x10_104)])) _
    refine XS.l2dS X3.here hx rfl (hb hby at_108) rfl rfl ?_
    show Steps p.tables e below (T3.setTop (mkF m 109 #[.val (.int p1), .val (.long q2), .second, .val (.long x3_5), .second, .val (.double x5_12), .second, .val (.double R1), .second, .val (.int (1 : Int32)), .val (.long x10_104), .second, .unset, .unset, .unset, .unset, .unset, .unset] [(.double (FP.l2d x10_104))])) _
    refine X3.ldc2DoubleC hx hown (mvT hZ (hw _ (List.mem_of_getElem? (i := 10) rfl))) (g := (mkF m 109 #[.val (.int p1), .val (.long q2), .second, .val (.long x3_5), .second, .val (.double x5_12), .second, .val (.double R1), .second, .val (.int (1 : Int32)), .val (.long x10_104), .second, .unset, .unset, .unset, .unset, .unset, .unset] [(.double (FP.l2d x10_104))])) rfl (hb hby at_109) _ ?_
    show Steps p.tables e below (T3.setTop (mkF m 112 #[.val (.int p1), .val (.long q2), .second, .val (.long x3_5), .second, .val (.double x5_12), .second, .val (.double R1), .second, .val (.int (1 : Int32)), .val (.long x10_104), .second, .unset, .unset, .unset, .unset, .unset, .unset] [(.double (4368491638549381120 : UInt64)), (.double (FP.l2d x10_104))])) _
    refine XS.dmulS X3.here hx rfl (hb hby at_112) rfl hnn112 rfl ?_
    show Steps p.tables e below (T3.setTop (mkF m 113 #[.val (.int p1), .val (.long q2), .second, .val (.long x3_5), .second, .val (.double x5_12), .second, .val (.double R1), .second, .val (.int (1 : Int32)), .val (.long x10_104), .second, .unset, .unset, .unset, .unset, .unset, .unset] [(.double (FP.dmul (FP.l2d x10_104) (4368491638549381120 : UInt64)))])) _
    rw [← hx12_113 trivial]
    refine XS.dstore X3.here hx rfl (hb hby at_113) rfl (l' := #[.val (.int p1), .val (.long q2), .second, .val (.long x3_5), .second, .val (.double x5_12), .second, .val (.double R1), .second, .val (.int (1 : Int32)), .val (.long x10_104), .second, .val (.double x12_113), .second, .unset, .unset, .unset, .unset]) rfl ?_
    show Steps p.tables e below (T3.setTop (mkF m 115 #[.val (.int p1), .val (.long q2), .second, .val (.long x3_5), .second, .val (.double x5_12), .second, .val (.double R1), .second, .val (.int (1 : Int32)), .val (.long x10_104), .second, .val (.double x12_113), .second, .unset, .unset, .unset, .unset] [])) _
    refine XS.dload X3.here hx rfl (hb hby at_115) rfl ?_
    show Steps p.tables e below (T3.setTop (mkF m 117 #[.val (.int p1), .val (.long q2), .second, .val (.long x3_5), .second, .val (.double x5_12), .second, .val (.double R1), .second, .val (.int (1 : Int32)), .val (.long x10_104), .second, .val (.double x12_113), .second, .unset, .unset, .unset, .unset] [(.double x12_113)])) _
    refine st4 _ ?_
    show Steps p.tables e below (T4.setTop (mkF m 120 #[.val (.int p1), .val (.long q2), .second, .val (.long x3_5), .second, .val (.double x5_12), .second, .val (.double R1), .second, .val (.int (1 : Int32)), .val (.long x10_104), .second, .val (.double x12_113), .second, .unset, .unset, .unset, .unset] [(.double R2)])) _
    refine XS.dstore X4.here hx rfl (hb hby at_120) rfl (l' := #[.val (.int p1), .val (.long q2), .second, .val (.long x3_5), .second, .val (.double x5_12), .second, .val (.double R1), .second, .val (.int (1 : Int32)), .val (.long x10_104), .second, .val (.double x12_113), .second, .val (.double R2), .second, .unset, .unset]) rfl ?_
    show Steps p.tables e below (T4.setTop (mkF m 122 #[.val (.int p1), .val (.long q2), .second, .val (.long x3_5), .second, .val (.double x5_12), .second, .val (.double R1), .second, .val (.int (1 : Int32)), .val (.long x10_104), .second, .val (.double x12_113), .second, .val (.double R2), .second, .unset, .unset] [])) _
    refine XS.lload X4.here hx rfl (hb hby at_122) rfl ?_
    show Steps p.tables e below (T4.setTop (mkF m 124 #[.val (.int p1), .val (.long q2), .second, .val (.long x3_5), .second, .val (.double x5_12), .second, .val (.double R1), .second, .val (.int (1 : Int32)), .val (.long x10_104), .second, .val (.double x12_113), .second, .val (.double R2), .second, .unset, .unset] [(.long x10_104)])) _
    refine X4.ldc2Long hx hown (mvT hZ (hw _ (List.mem_of_getElem? (i := 11) rfl))) (g := (mkF m 124 #[.val (.int p1), .val (.long q2), .second, .val (.long x3_5), .second, .val (.double x5_12), .second, .val (.double R1), .second, .val (.int (1 : Int32)), .val (.long x10_104), .second, .val (.double x12_113), .second, .val (.double R2), .second, .unset, .unset] [(.long x10_104)])) rfl (hb hby at_124) _ ?_
    show Steps p.tables e below (T4.setTop (mkF m 127 #[.val (.int p1), .val (.long q2), .second, .val (.long x3_5), .second, .val (.double x5_12), .second, .val (.double R1), .second, .val (.int (1 : Int32)), .val (.long x10_104), .second, .val (.double x12_113), .second, .val (.double R2), .second, .unset, .unset] [(.long (2251799813685248 : Int64)), (.long x10_104)])) _
    refine XS.lcmp X4.here hx rfl (hb hby at_127) rfl ?_
    show Steps p.tables e below (T4.setTop (mkF m 128 #[.val (.int p1), .val (.long q2), .second, .val (.long x3_5), .second, .val (.double x5_12), .second, .val (.double R1), .second, .val (.int (1 : Int32)), .val (.long x10_104), .second, .val (.double x12_113), .second, .val (.double R2), .second, .unset, .unset] [(.int (lcmpW x10_104 (2251799813685248 : Int64)))])) _
    refine XS.ifNo X4.here hx rfl (hb hby at_128) rfl ((if0 _ _).trans (flt hc128).2.2.1) ?_
    show Steps p.tables e below (T4.setTop (mkF m 131 #[.val (.int p1), .val (.long q2), .second, .val (.long x3_5), .second, .val (.double x5_12), .second, .val (.double R1), .second, .val (.int (1 : Int32)), .val (.long x10_104), .second, .val (.double x12_113), .second, .val (.double R2), .second, .unset, .unset] [])) _
    refine XS.dload X4.here hx rfl (hb hby at_131) rfl ?_
    show Steps p.tables e below (T4.setTop (mkF m 133 #[.val (.int p1), .val (.long q2), .second, .val (.long x3_5), .second, .val (.double x5_12), .second, .val (.double R1), .second, .val (.int (1 : Int32)), .val (.long x10_104), .second, .val (.double x12_113), .second, .val (.double R2), .second, .unset, .unset] [(.double x12_113)])) _
    refine X4.ldc2DoubleC hx hown (mvT hZ (hw _ (List.mem_of_getElem? (i := 12) rfl))) (g := (mkF m 133 #[.val (.int p1), .val (.long q2), .second, .val (.long x3_5), .second, .val (.double x5_12), .second, .val (.double R1), .second, .val (.int (1 : Int32)), .val (.long x10_104), .second, .val (.double x12_113), .second, .val (.double R2), .second, .unset, .unset] [(.double x12_113)])) rfl (hb hby at_133) _ ?_
    show Steps p.tables e below (T4.setTop (mkF m 136 #[.val (.int p1), .val (.long q2), .second, .val (.long x3_5), .second, .val (.double x5_12), .second, .val (.double R1), .second, .val (.int (1 : Int32)), .val (.long x10_104), .second, .val (.double x12_113), .second, .val (.double R2), .second, .unset, .unset] [(.double (4602678819172646912 : UInt64)), (.double x12_113)])) _
    refine XS.dload X4.here hx rfl (hb hby at_136) rfl ?_
    show Steps p.tables e below (T4.setTop (mkF m 138 #[.val (.int p1), .val (.long q2), .second, .val (.long x3_5), .second, .val (.double x5_12), .second, .val (.double R1), .second, .val (.int (1 : Int32)), .val (.long x10_104), .second, .val (.double x12_113), .second, .val (.double R2), .second, .unset, .unset] [(.double x12_113), (.double (4602678819172646912 : UInt64)), (.double x12_113)])) _
    refine XS.dmulS X4.here hx rfl (hb hby at_138) rfl hnn138 rfl ?_
    show Steps p.tables e below (T4.setTop (mkF m 139 #[.val (.int p1), .val (.long q2), .second, .val (.long x3_5), .second, .val (.double x5_12), .second, .val (.double R1), .second, .val (.int (1 : Int32)), .val (.long x10_104), .second, .val (.double x12_113), .second, .val (.double R2), .second, .unset, .unset] [(.double (FP.dmul (4602678819172646912 : UInt64) x12_113)), (.double x12_113)])) _
    refine XS.dload X4.here hx rfl (hb hby at_139) rfl ?_
    show Steps p.tables e below (T4.setTop (mkF m 141 #[.val (.int p1), .val (.long q2), .second, .val (.long x3_5), .second, .val (.double x5_12), .second, .val (.double R1), .second, .val (.int (1 : Int32)), .val (.long x10_104), .second, .val (.double x12_113), .second, .val (.double R2), .second, .unset, .unset] [(.double x12_113), (.double (FP.dmul (4602678819172646912 : UInt64) x12_113)), (.double x12_113)])) _
    refine XS.dmulS X4.here hx rfl (hb hby at_141) rfl hnn141 rfl ?_
    show Steps p.tables e below (T4.setTop (mkF m 142 #[.val (.int p1), .val (.long q2), .second, .val (.long x3_5), .second, .val (.double x5_12), .second, .val (.double R1), .second, .val (.int (1 : Int32)), .val (.long x10_104), .second, .val (.double x12_113), .second, .val (.double R2), .second, .unset, .unset] [(.double (FP.dmul (FP.dmul (4602678819172646912 : UInt64) x12_113) x12_113)), (.double x12_113)])) _
    refine XS.daddS X4.here hx rfl (hb hby at_142) rfl hnn142 rfl ?_
    show Steps p.tables e below (T4.setTop (mkF m 143 #[.val (.int p1), .val (.long q2), .second, .val (.long x3_5), .second, .val (.double x5_12), .second, .val (.double R1), .second, .val (.int (1 : Int32)), .val (.long x10_104), .second, .val (.double x12_113), .second, .val (.double R2), .second, .unset, .unset] [(.double (FP.dadd x12_113 (FP.dmul (FP.dmul (4602678819172646912 : UInt64) x12_113) x12_113)))])) _
    refine X4.ldc2DoubleC hx hown (mvT hZ (hw _ (List.mem_of_getElem? (i := 12) rfl))) (g := (mkF m 143 #[.val (.int p1), .val (.long q2), .second, .val (.long x3_5), .second, .val (.double x5_12), .second, .val (.double R1), .second, .val (.int (1 : Int32)), .val (.long x10_104), .second, .val (.double x12_113), .second, .val (.double R2), .second, .unset, .unset] [(.double (FP.dadd x12_113 (FP.dmul (FP.dmul (4602678819172646912 : UInt64) x12_113) x12_113)))])) rfl (hb hby at_143) _ ?_
    show Steps p.tables e below (T4.setTop (mkF m 146 #[.val (.int p1), .val (.long q2), .second, .val (.long x3_5), .second, .val (.double x5_12), .second, .val (.double R1), .second, .val (.int (1 : Int32)), .val (.long x10_104), .second, .val (.double x12_113), .second, .val (.double R2), .second, .unset, .unset] [(.double (4602678819172646912 : UInt64)), (.double (FP.dadd x12_113 (FP.dmul (FP.dmul (4602678819172646912 : UInt64) x12_113) x12_113)))])) _
    refine XS.dload X4.here hx rfl (hb hby at_146) rfl ?_
    show Steps p.tables e below (T4.setTop (mkF m 148 #[.val (.int p1), .val (.long q2), .second, .val (.long x3_5), .second, .val (.double x5_12), .second, .val (.double R1), .second, .val (.int (1 : Int32)), .val (.long x10_104), .second, .val (.double x12_113), .second, .val (.double R2), .second, .unset, .unset] [(.double x12_113), (.double (4602678819172646912 : UInt64)), (.double (FP.dadd x12_113 (FP.dmul (FP.dmul (4602678819172646912 : UInt64) x12_113) x12_113)))])) _
    refine XS.dmulS X4.here hx rfl (hb hby at_148) rfl hnn148 rfl ?_
    show Steps p.tables e below (T4.setTop (mkF m 149 #[.val (.int p1), .val (.long q2), .second, .val (.long x3_5), .second, .val (.double x5_12), .second, .val (.double R1), .second, .val (.int (1 : Int32)), .val (.long x10_104), .second, .val (.double x12_113), .second, .val (.double R2), .second, .unset, .unset] [(.double (FP.dmul (4602678819172646912 : UInt64) x12_113)), (.double (FP.dadd x12_113 (FP.dmul (FP.dmul (4602678819172646912 : UInt64) x12_113) x12_113)))])) _
    refine XS.dload X4.here hx rfl (hb hby at_149) rfl ?_
    show Steps p.tables e below (T4.setTop (mkF m 151 #[.val (.int p1), .val (.long q2), .second, .val (.long x3_5), .second, .val (.double x5_12), .second, .val (.double R1), .second, .val (.int (1 : Int32)), .val (.long x10_104), .second, .val (.double x12_113), .second, .val (.double R2), .second, .unset, .unset] [(.double x12_113), (.double (FP.dmul (4602678819172646912 : UInt64) x12_113)), (.double (FP.dadd x12_113 (FP.dmul (FP.dmul (4602678819172646912 : UInt64) x12_113) x12_113)))])) _
    refine XS.dmulS X4.here hx rfl (hb hby at_151) rfl hnn151 rfl ?_
    show Steps p.tables e below (T4.setTop (mkF m 152 #[.val (.int p1), .val (.long q2), .second, .val (.long x3_5), .second, .val (.double x5_12), .second, .val (.double R1), .second, .val (.int (1 : Int32)), .val (.long x10_104), .second, .val (.double x12_113), .second, .val (.double R2), .second, .unset, .unset] [(.double (FP.dmul (FP.dmul (4602678819172646912 : UInt64) x12_113) x12_113)), (.double (FP.dadd x12_113 (FP.dmul (FP.dmul (4602678819172646912 : UInt64) x12_113) x12_113)))])) _
    refine XS.dload X4.here hx rfl (hb hby at_152) rfl ?_
    show Steps p.tables e below (T4.setTop (mkF m 154 #[.val (.int p1), .val (.long q2), .second, .val (.long x3_5), .second, .val (.double x5_12), .second, .val (.double R1), .second, .val (.int (1 : Int32)), .val (.long x10_104), .second, .val (.double x12_113), .second, .val (.double R2), .second, .unset, .unset] [(.double x12_113), (.double (FP.dmul (FP.dmul (4602678819172646912 : UInt64) x12_113) x12_113)), (.double (FP.dadd x12_113 (FP.dmul (FP.dmul (4602678819172646912 : UInt64) x12_113) x12_113)))])) _
    refine XS.dmulS X4.here hx rfl (hb hby at_154) rfl hnn154 rfl ?_
    show Steps p.tables e below (T4.setTop (mkF m 155 #[.val (.int p1), .val (.long q2), .second, .val (.long x3_5), .second, .val (.double x5_12), .second, .val (.double R1), .second, .val (.int (1 : Int32)), .val (.long x10_104), .second, .val (.double x12_113), .second, .val (.double R2), .second, .unset, .unset] [(.double (FP.dmul (FP.dmul (FP.dmul (4602678819172646912 : UInt64) x12_113) x12_113) x12_113)), (.double (FP.dadd x12_113 (FP.dmul (FP.dmul (4602678819172646912 : UInt64) x12_113) x12_113)))])) _
    refine XS.daddS X4.here hx rfl (hb hby at_155) rfl hnn155 rfl ?_
    show Steps p.tables e below (T4.setTop (mkF m 156 #[.val (.int p1), .val (.long q2), .second, .val (.long x3_5), .second, .val (.double x5_12), .second, .val (.double R1), .second, .val (.int (1 : Int32)), .val (.long x10_104), .second, .val (.double x12_113), .second, .val (.double R2), .second, .unset, .unset] [(.double (FP.dadd (FP.dadd x12_113 (FP.dmul (FP.dmul (4602678819172646912 : UInt64) x12_113) x12_113)) (FP.dmul (FP.dmul (FP.dmul (4602678819172646912 : UInt64) x12_113) x12_113) x12_113)))])) _
    rw [← hx16_156 trivial]
    refine XS.dstore X4.here hx rfl (hb hby at_156) rfl (l' := #[.val (.int p1), .val (.long q2), .second, .val (.long x3_5), .second, .val (.double x5_12), .second, .val (.double R1), .second, .val (.int (1 : Int32)), .val (.long x10_104), .second, .val (.double x12_113), .second, .val (.double R2), .second, .val (.double x16_156), .second]) rfl ?_
    show Steps p.tables e below (T4.setTop (mkF m 158 #[.val (.int p1), .val (.long q2), .second, .val (.long x3_5), .second, .val (.double x5_12), .second, .val (.double R1), .second, .val (.int (1 : Int32)), .val (.long x10_104), .second, .val (.double x12_113), .second, .val (.double R2), .second, .val (.double x16_156), .second] [])) _
    refine XS.goto X4.here hx rfl (pc0 := 158) (pc' := 181) rfl (hb hby at_158) (by decide) (by decide) ?_
    show Steps p.tables e below (T4.setTop (mkF m 181 #[.val (.int p1), .val (.long q2), .second, .val (.long x3_5), .second, .val (.double x5_12), .second, .val (.double R1), .second, .val (.int (1 : Int32)), .val (.long x10_104), .second, .val (.double x12_113), .second, .val (.double R2), .second, .val (.double x16_156), .second] [])) _
    refine XS.iload X4.here hx rfl (hb hby at_181) rfl ?_
    show Steps p.tables e below (T4.setTop (mkF m 183 #[.val (.int p1), .val (.long q2), .second, .val (.long x3_5), .second, .val (.double x5_12), .second, .val (.double R1), .second, .val (.int (1 : Int32)), .val (.long x10_104), .second, .val (.double x12_113), .second, .val (.double R2), .second, .val (.double x16_156), .second] [(.int (1 : Int32))])) _
    refine XS.ifNo X4.here hx rfl (hb hby at_183) rfl ((if0 _ _).trans (feq hc183).1) ?_
    show Steps p.tables e below (T4.setTop (mkF m 186 #[.val (.int p1), .val (.long q2), .second, .val (.long x3_5), .second, .val (.double x5_12), .second, .val (.double R1), .second, .val (.int (1 : Int32)), .val (.long x10_104), .second, .val (.double x12_113), .second, .val (.double R2), .second, .val (.double x16_156), .second] [])) _
    refine XS.dload X4.here hx rfl (hb hby at_186) rfl ?_
    show Steps p.tables e below (T4.setTop (mkF m 188 #[.val (.int p1), .val (.long q2), .second, .val (.long x3_5), .second, .val (.double x5_12), .second, .val (.double R1), .second, .val (.int (1 : Int32)), .val (.long x10_104), .second, .val (.double x12_113), .second, .val (.double R2), .second, .val (.double x16_156), .second] [(.double R2)])) _
    refine XS.dload X4.here hx rfl (hb hby at_188) rfl ?_
    show Steps p.tables e below (T4.setTop (mkF m 190 #[.val (.int p1), .val (.long q2), .second, .val (.long x3_5), .second, .val (.double x5_12), .second, .val (.double R1), .second, .val (.int (1 : Int32)), .val (.long x10_104), .second, .val (.double x12_113), .second, .val (.double R2), .second, .val (.double x16_156), .second] [(.double x16_156), (.double R2)])) _
    refine st5 _ ?_
    show Steps p.tables e below (T5.setTop (mkF m 193 #[.val (.int p1), .val (.long q2), .second, .val (.long x3_5), .second, .val (.double x5_12), .second, .val (.double R1), .second, .val (.int (1 : Int32)), .val (.long x10_104), .second, .val (.double x12_113), .second, .val (.double R2), .second, .val (.double x16_156), .second] [(.int (1 : Int32))])) _
    refine XS.ifNo X5.here hx rfl (hb hby at_193) rfl ((if0 _ _).trans (feq (by decide : ¬ ((1 : Int32) = (0 : Int32)))).1) ?_
    show Steps p.tables e below (T5.setTop (mkF m 196 #[.val (.int p1), .val (.long q2), .second, .val (.long x3_5), .second, .val (.double x5_12), .second, .val (.double R1), .second, .val (.int (1 : Int32)), .val (.long x10_104), .second, .val (.double x12_113), .second, .val (.double R2), .second, .val (.double x16_156), .second] [])) _
    refine XS.iconst X5.here hx rfl (hb hby at_196) ?_
    show Steps p.tables e below (T5.setTop (mkF m 197 #[.val (.int p1), .val (.long q2), .second, .val (.long x3_5), .second, .val (.double x5_12), .second, .val (.double R1), .second, .val (.int (1 : Int32)), .val (.long x10_104), .second, .val (.double x12_113), .second, .val (.double R2), .second, .val (.double x16_156), .second] [(.int (1 : Int32))])) _
    refine XS.goto X5.here hx rfl (pc0 := 197) (pc' := 201) rfl (hb hby at_197) (by decide) (by decide) ?_
    show Steps p.tables e below (T5.setTop (mkF m 201 #[.val (.int p1), .val (.long q2), .second, .val (.long x3_5), .second, .val (.double x5_12), .second, .val (.double R1), .second, .val (.int (1 : Int32)), .val (.long x10_104), .second, .val (.double x12_113), .second, .val (.double R2), .second, .val (.double x16_156), .second] [(.int (1 : Int32))])) _
    exact retN X5 hx (t := .boolean) Bd.returns (by simp) (hb hby at_201) hr
  · show Q0 h0 n0 _ T5.heap _
    exact ⟨rfl, N5⟩
set_option maxRecDepth 65536 in
set_option maxHeartbeats 40000000 in
theorem rm0_sl (l : Launch) (Z : State) (a0 : Array Value) (hw : ∀ d ∈ tables_1, d.before a0 Z = true) (ws : List Jvm.Cond) (p1 : Int32) (q2 : Int64) (x3_5 : Int64) (x5_12 : UInt64) (x10_46 : Int64) (x10_104 : Int64) (x12_113 : UInt64) (x16_179 : UInt64) (R1 R2 : UInt64) (h0 : Heap) (n0 : Nat) (Z0 : n0 ≤ h0.size) (hx3_5 : True → x3_5 = ((p1 &&& (65535 : Int32)).toInt64)) (hnn11 : Jvm.Free.Fl.NoNaN64 (FP.dmul (FP.l2d x3_5) (4535124824762089472 : UInt64))) (hx5_12 : True → x5_12 = (FP.dmul (FP.l2d x3_5) (4535124824762089472 : UInt64))) (hc26 : ¬ ((0 : Int32) < (lcmpW x3_5 (16384 : Int64)))) (hx10_46 : True → x10_46 = (((x3_5 <<< ((33 : Int32) &&& 0x3f).toInt64) + ((x3_5 * x3_5) <<< ((16 : Int32) &&& 0x3f).toInt64)) + ((x3_5 * x3_5) * x3_5))) (hnn56 : Jvm.Free.Fl.NoNaN64 (FP.dmul (FP.l2d x10_46) (4386506037058863104 : UInt64))) (hx10_104 : True → x10_104 = ((q2.toUInt64 >>> ((11 : Int32) &&& 0x3f).toInt64.toUInt64).toInt64)) (hnn112 : Jvm.Free.Fl.NoNaN64 (FP.dmul (FP.l2d x10_104) (4368491638549381120 : UInt64))) (hx12_113 : True → x12_113 = (FP.dmul (FP.l2d x10_104) (4368491638549381120 : UInt64))) (hc128 : (0 : Int32) < (lcmpW x10_104 (2251799813685248 : Int64))) (hnn168 : Jvm.Free.Fl.NoNaN64 (FP.dsub (4611686018427387904 : UInt64) x12_113)) (hnn169 : Jvm.Free.Fl.NoNaN64 (FP.dmul x12_113 (FP.dsub (4611686018427387904 : UInt64) x12_113))) (hnn176 : Jvm.Free.Fl.NoNaN64 (FP.dsub FP.dconst1 x12_113)) (hnn177 : Jvm.Free.Fl.NoNaN64 (FP.dmul (4611686018427387904 : UInt64) (FP.dsub FP.dconst1 x12_113))) (hnn178 : Jvm.Free.Fl.NoNaN64 (FP.ddiv (FP.dmul x12_113 (FP.dsub (4611686018427387904 : UInt64) x12_113)) (FP.dmul (4611686018427387904 : UInt64) (FP.dsub FP.dconst1 x12_113)))) (hx16_179 : True → x16_179 = (FP.ddiv (FP.dmul x12_113 (FP.dsub (4611686018427387904 : UInt64) x12_113)) (FP.dmul (4611686018427387904 : UInt64) (FP.dsub FP.dconst1 x12_113)))) (hc183 : ¬ ((1 : Int32) = (0 : Int32))) (hL1 : LA x5_12 R1) (hL2 : LA x12_113 R2) (hC2 : CL R2 x16_179) (hq : True → (cmpValue (FP.dcmp R1 (FP.dmul (FP.l2d x10_46) (4386506037058863104 : UInt64))) .l) = (0 : Int32)) :
    MetFree l x (head1 (Jvm.Cond.code x code maxLocals ret :: ws) room_1) (fun a U => a = #[(.int p1), (.long q2)] ∧ Z.Warmed39 U.vm ∧ U.heap = h0) (fun _ _ _ _ _ => True) (fun _ U o U' => ∃ v L, o = .returned v ∧ Q0 h0 n0 v U'.heap L ∧ FrameEnd U o U' L room_1.cells room_1.slots) := by
  refine MetFree.of_bodySF (plainFor_of_name pn_0) hisR ?_
  intro p e s m args below meth c s₁ Bd hml0 hP hK
  obtain ⟨rfl, hZ, hh⟩ := hP
  have hx := Bd.exec
  have hby := Bd.bytes
  have hml : c.maxLocals = 18 := hml0
  have hown : s.vm.findClass "com/example/level_ring/levelring/placement/MembersLogAtMostPinLaw" = some m.cls := findClass_of_methodNamed Bd.named
  have hnm := (name_of_methodNamed Bd.named Bd.method).1
  have X0 : Stand p l e room_1 s m #[(.int p1), (.long q2)] below meth c s₁ [] 0 0 := Stand.of_body Bd
  have e0 : s₁.heap = h0 := by rw [← hh, Bd.state]; rfl
  have N0 := Fr.nil n0
  have pre0 : ∀ t, Steps p.tables e below (s₁.setTop (mkF m 0 #[.val (.int p1), .val (.long q2), .second, .unset, .unset, .unset, .unset, .unset, .unset, .unset, .unset, .unset, .unset, .unset, .unset, .unset, .unset, .unset] [])) t → Steps p.tables e below (s₁.setTop (entryFrame m #[(.int p1), (.long q2)] maxLocals)) t := fun t k => castTop (ef_0 m p1 q2) k
  -- 3. LAWS
  -- pc 16: com/example/level_ring/levelring/placement/Members.logAtMost by its contract rm1
  obtain ⟨_, _, ⟨T3, L3, k3, n3⟩, -, X3, ⟨Lc3, hQ3, l3, y3, z3⟩, st3⟩ := Jvm.LawKit.callS X0 hx (y := (⟨"com/example/level_ring/levelring/placement/Members", "logAtMost", "(D)D"⟩ : MethodName)) hown (mvT hZ (hw _ (List.mem_of_getElem? (i := 2) rfl))) (mvT hZ (hw _ (List.mem_of_getElem? (i := 3) rfl))) (mvT hZ (hw _ (List.mem_of_getElem? (i := 4) rfl))) (mvT hZ (hw _ (List.mem_of_getElem? (i := 5) rfl))) (by decide) (backOf (W := 0) (rm1 l Z a0 hw [] x5_12 R1 h0 n0 Z0 hL1) hZ (hw _ (List.mem_of_getElem? (i := 5) rfl)) (hw _ (List.mem_of_getElem? (i := 4) rfl)) (by decide) (by decide)) (g := (mkF m 16 #[.val (.int p1), .val (.long q2), .second, .val (.long x3_5), .second, .val (.double x5_12), .second, .unset, .unset, .unset, .unset, .unset, .unset, .unset, .unset, .unset, .unset, .unset] [(.double x5_12)])) rfl (by rw [hml]; rfl) (argsL := [(.double x5_12)]) (rest := []) (lenOf pdw_0 rfl) rfl (by show 2 * 0 + _ ≤ _; exact Nat.le_of_eq rfl) (hb hby at_16) (fun _ _ => ⟨rfl, e0, (by decide : 0 + 0 ≤ _), (by decide : 0 + 0 ≤ _)⟩)
  dsimp only [Pt.U, Pt.locs, Pt.cells, Pt.slots] at X3 l3 y3 z3 st3 hQ3
  subst l3 y3 z3
  obtain ⟨rfl, N3q, hh3⟩ := hQ3
  have N3 := Fr.app N0 N3q
  -- pc 117: com/example/level_ring/levelring/placement/Members.logAtMost by its contract rm1
  obtain ⟨_, _, ⟨T4, L4, k4, n4⟩, -, X4, ⟨Lc4, hQ4, l4, y4, z4⟩, st4⟩ := Jvm.LawKit.callS X3 hx (y := (⟨"com/example/level_ring/levelring/placement/Members", "logAtMost", "(D)D"⟩ : MethodName)) hown (mvT hZ (hw _ (List.mem_of_getElem? (i := 2) rfl))) (mvT hZ (hw _ (List.mem_of_getElem? (i := 3) rfl))) (mvT hZ (hw _ (List.mem_of_getElem? (i := 4) rfl))) (mvT hZ (hw _ (List.mem_of_getElem? (i := 5) rfl))) (by decide) (backOf (W := 0) (rm1 l Z a0 hw [] x12_113 R2 h0 n0 Z0 hL2) hZ (hw _ (List.mem_of_getElem? (i := 5) rfl)) (hw _ (List.mem_of_getElem? (i := 4) rfl)) (by decide) (by decide)) (g := (mkF m 117 #[.val (.int p1), .val (.long q2), .second, .val (.long x3_5), .second, .val (.double x5_12), .second, .val (.double R1), .second, .val (.int (1 : Int32)), .val (.long x10_104), .second, .val (.double x12_113), .second, .unset, .unset, .unset, .unset] [(.double x12_113)])) rfl (by rw [hml]; rfl) (argsL := [(.double x12_113)]) (rest := []) (lenOf pdw_0 rfl) rfl (by show 2 * 0 + _ ≤ _; exact Nat.le_of_eq rfl) (hb hby at_117) (fun _ _ => ⟨rfl, hh3, (by decide : 0 + 0 ≤ _), (by decide : 0 + 0 ≤ _)⟩)
  dsimp only [Pt.U, Pt.locs, Pt.cells, Pt.slots] at X4 l4 y4 z4 st4 hQ4
  subst l4 y4 z4
  obtain ⟨rfl, N4q, hh4⟩ := hQ4
  have N4 := Fr.app N3 N4q
  -- pc 190: com/example/level_ring/levelring/placement/MembersLogAtMostPinLaw.close by its contract rm2
  obtain ⟨_, _, ⟨T5, L5, k5, n5⟩, -, X5, ⟨Lc5, hQ5, l5, y5, z5⟩, st5⟩ := Jvm.LawKit.callS X4 hx (y := (⟨"com/example/level_ring/levelring/placement/MembersLogAtMostPinLaw", "close", "(DD)Z"⟩ : MethodName)) hown (mvT hZ (hw _ (List.mem_of_getElem? (i := 13) rfl))) (mvT hZ (hw _ (List.mem_of_getElem? (i := 14) rfl))) (mvT hZ (hw _ (List.mem_of_getElem? (i := 15) rfl))) (mvT hZ (hw _ (List.mem_of_getElem? (i := 16) rfl))) (by decide) (backOf (W := 0) (rm2 l Z a0 hw [] R2 x16_179  h0 n0 Z0 hC2.1 hC2.2.1 hC2.2.2.1 hC2.2.2.2.1 hC2.2.2.2.2) hZ (hw _ (List.mem_of_getElem? (i := 16) rfl)) (hw _ (List.mem_of_getElem? (i := 15) rfl)) (by decide) (by decide)) (g := (mkF m 190 #[.val (.int p1), .val (.long q2), .second, .val (.long x3_5), .second, .val (.double x5_12), .second, .val (.double R1), .second, .val (.int (1 : Int32)), .val (.long x10_104), .second, .val (.double x12_113), .second, .val (.double R2), .second, .val (.double x16_179), .second] [(.double x16_179), (.double R2)])) rfl (by rw [hml]; rfl) (argsL := [(.double R2), (.double x16_179)]) (rest := []) (lenOf pdw_1 rfl) rfl (by show 2 * 0 + _ ≤ _; exact Nat.le_of_eq rfl) (hb hby at_190) (fun _ _ => ⟨rfl, hh4, (by decide : 0 + 0 ≤ _), (by decide : 0 + 0 ≤ _)⟩)
  dsimp only [Pt.U, Pt.locs, Pt.cells, Pt.slots] at X5 l5 y5 z5 st5 hQ5
  subst l5 y5 z5
  obtain ⟨rfl, N5q, hh5⟩ := hQ5
  have N5 := Fr.app N4 N5q
  obtain ⟨fs, hr, hrun, hended, hW, hsame⟩ := X5.leave (v := some (.int (1 : Int32))) (fun h => by rw [Bd.returns] at h; cases h)
  refine ⟨_, _, pre0 _ ?_, hrun, hended, _, _, rfl, ?_, ⟨_, rfl⟩, hW, hsame.mono (by decide) (by decide)⟩
  -- 4. STEPS
  · show Steps p.tables e below (s₁.setTop (mkF m 0 #[.val (.int p1), .val (.long q2), .second, .unset, .unset, .unset, .unset, .unset, .unset, .unset, .unset, .unset, .unset, .unset, .unset, .unset, .unset, .unset] [])) _
    refine XS.iloadN X0.here hx rfl (hb hby at_0) rfl ?_
    show Steps p.tables e below (s₁.setTop (mkF m 1 #[.val (.int p1), .val (.long q2), .second, .unset, .unset, .unset, .unset, .unset, .unset, .unset, .unset, .unset, .unset, .unset, .unset, .unset, .unset, .unset] [(.int p1)])) _
    refine X0.ldcInt hx hown (mvT hZ (hw _ (List.mem_of_getElem? (i := 0) rfl))) (g := (mkF m 1 #[.val (.int p1), .val (.long q2), .second, .unset, .unset, .unset, .unset, .unset, .unset, .unset, .unset, .unset, .unset, .unset, .unset, .unset, .unset, .unset] [(.int p1)])) rfl (hb hby at_1) _ ?_
    show Steps p.tables e below (s₁.setTop (mkF m 3 #[.val (.int p1), .val (.long q2), .second, .unset, .unset, .unset, .unset, .unset, .unset, .unset, .unset, .unset, .unset, .unset, .unset, .unset, .unset, .unset] [(.int (65535 : Int32)), (.int p1)])) _
    refine XS.iand X0.here hx rfl (hb hby at_3) rfl ?_
    show Steps p.tables e below (s₁.setTop (mkF m 4 #[.val (.int p1), .val (.long q2), .second, .unset, .unset, .unset, .unset, .unset, .unset, .unset, .unset, .unset, .unset, .unset, .unset, .unset, .unset, .unset] [(.int (p1 &&& (65535 : Int32)))])) _
    refine XS.i2l X0.here hx rfl (hb hby at_4) rfl ?_
    show Steps p.tables e below (s₁.setTop (mkF m 5 #[.val (.int p1), .val (.long q2), .second, .unset, .unset, .unset, .unset, .unset, .unset, .unset, .unset, .unset, .unset, .unset, .unset, .unset, .unset, .unset] [(.long ((p1 &&& (65535 : Int32)).toInt64))])) _
    rw [← hx3_5 trivial]
    refine XS.lstoreN X0.here hx rfl (hb hby at_5) rfl (l' := #[.val (.int p1), .val (.long q2), .second, .val (.long x3_5), .second, .unset, .unset, .unset, .unset, .unset, .unset, .unset, .unset, .unset, .unset, .unset, .unset, .unset]) rfl ?_
    show Steps p.tables e below (s₁.setTop (mkF m 6 #[.val (.int p1), .val (.long q2), .second, .val (.long x3_5), .second, .unset, .unset, .unset, .unset, .unset, .unset, .unset, .unset, .unset, .unset, .unset, .unset, .unset] [])) _
    refine XS.lloadN X0.here hx rfl (hb hby at_6) rfl ?_
    show Steps p.tables e below (s₁.setTop (mkF m 7 #[.val (.int p1), .val (.long q2), .second, .val (.long x3_5), .second, .unset, .unset, .unset, .unset, .unset, .unset, .unset, .unset, .unset, .unset, .unset, .unset, .unset] [(.long x3_5)])) _
    refine XS.l2dS X0.here hx rfl (hb hby at_7) rfl rfl ?_
    show Steps p.tables e below (s₁.setTop (mkF m 8 #[.val (.int p1), .val (.long q2), .second, .val (.long x3_5), .second, .unset, .unset, .unset, .unset, .unset, .unset, .unset, .unset, .unset, .unset, .unset, .unset, .unset] [(.double (FP.l2d x3_5))])) _
    refine X0.ldc2DoubleC hx hown (mvT hZ (hw _ (List.mem_of_getElem? (i := 1) rfl))) (g := (mkF m 8 #[.val (.int p1), .val (.long q2), .second, .val (.long x3_5), .second, .unset, .unset, .unset, .unset, .unset, .unset, .unset, .unset, .unset, .unset, .unset, .unset, .unset] [(.double (FP.l2d x3_5))])) rfl (hb hby at_8) _ ?_
    show Steps p.tables e below (s₁.setTop (mkF m 11 #[.val (.int p1), .val (.long q2), .second, .val (.long x3_5), .second, .unset, .unset, .unset, .unset, .unset, .unset, .unset, .unset, .unset, .unset, .unset, .unset, .unset] [(.double (4535124824762089472 : UInt64)), (.double (FP.l2d x3_5))])) _
    refine XS.dmulS X0.here hx rfl (hb hby at_11) rfl hnn11 rfl ?_
    show Steps p.tables e below (s₁.setTop (mkF m 12 #[.val (.int p1), .val (.long q2), .second, .val (.long x3_5), .second, .unset, .unset, .unset, .unset, .unset, .unset, .unset, .unset, .unset, .unset, .unset, .unset, .unset] [(.double (FP.dmul (FP.l2d x3_5) (4535124824762089472 : UInt64)))])) _
    rw [← hx5_12 trivial]
    refine XS.dstore X0.here hx rfl (hb hby at_12) rfl (l' := #[.val (.int p1), .val (.long q2), .second, .val (.long x3_5), .second, .val (.double x5_12), .second, .unset, .unset, .unset, .unset, .unset, .unset, .unset, .unset, .unset, .unset, .unset]) rfl ?_
    show Steps p.tables e below (s₁.setTop (mkF m 14 #[.val (.int p1), .val (.long q2), .second, .val (.long x3_5), .second, .val (.double x5_12), .second, .unset, .unset, .unset, .unset, .unset, .unset, .unset, .unset, .unset, .unset, .unset] [])) _
    refine XS.dload X0.here hx rfl (hb hby at_14) rfl ?_
    show Steps p.tables e below (s₁.setTop (mkF m 16 #[.val (.int p1), .val (.long q2), .second, .val (.long x3_5), .second, .val (.double x5_12), .second, .unset, .unset, .unset, .unset, .unset, .unset, .unset, .unset, .unset, .unset, .unset] [(.double x5_12)])) _
    refine st3 _ ?_
    show Steps p.tables e below (T3.setTop (mkF m 19 #[.val (.int p1), .val (.long q2), .second, .val (.long x3_5), .second, .val (.double x5_12), .second, .unset, .unset, .unset, .unset, .unset, .unset, .unset, .unset, .unset, .unset, .unset] [(.double R1)])) _
    refine XS.dstore X3.here hx rfl (hb hby at_19) rfl (l' := #[.val (.int p1), .val (.long q2), .second, .val (.long x3_5), .second, .val (.double x5_12), .second, .val (.double R1), .second, .unset, .unset, .unset, .unset, .unset, .unset, .unset, .unset, .unset]) rfl ?_
    show Steps p.tables e below (T3.setTop (mkF m 21 #[.val (.int p1), .val (.long q2), .second, .val (.long x3_5), .second, .val (.double x5_12), .second, .val (.double R1), .second, .unset, .unset, .unset, .unset, .unset, .unset, .unset, .unset, .unset] [])) _
    refine XS.lloadN X3.here hx rfl (hb hby at_21) rfl ?_
    show Steps p.tables e below (T3.setTop (mkF m 22 #[.val (.int p1), .val (.long q2), .second, .val (.long x3_5), .second, .val (.double x5_12), .second, .val (.double R1), .second, .unset, .unset, .unset, .unset, .unset, .unset, .unset, .unset, .unset] [(.long x3_5)])) _
    refine X3.ldc2Long hx hown (mvT hZ (hw _ (List.mem_of_getElem? (i := 8) rfl))) (g := (mkF m 22 #[.val (.int p1), .val (.long q2), .second, .val (.long x3_5), .second, .val (.double x5_12), .second, .val (.double R1), .second, .unset, .unset, .unset, .unset, .unset, .unset, .unset, .unset, .unset] [(.long x3_5)])) rfl (hb hby at_22) _ ?_
    show Steps p.tables e below (T3.setTop (mkF m 25 #[.val (.int p1), .val (.long q2), .second, .val (.long x3_5), .second, .val (.double x5_12), .second, .val (.double R1), .second, .unset, .unset, .unset, .unset, .unset, .unset, .unset, .unset, .unset] [(.long (16384 : Int64)), (.long x3_5)])) _
    refine XS.lcmp X3.here hx rfl (hb hby at_25) rfl ?_
    show Steps p.tables e below (T3.setTop (mkF m 26 #[.val (.int p1), .val (.long q2), .second, .val (.long x3_5), .second, .val (.double x5_12), .second, .val (.double R1), .second, .unset, .unset, .unset, .unset, .unset, .unset, .unset, .unset, .unset] [(.int (lcmpW x3_5 (16384 : Int64)))])) _
    refine XS.ifNo X3.here hx rfl (hb hby at_26) rfl ((if0 _ _).trans (flt hc26).2.2.1) ?_
    show Steps p.tables e below (T3.setTop (mkF m 29 #[.val (.int p1), .val (.long q2), .second, .val (.long x3_5), .second, .val (.double x5_12), .second, .val (.double R1), .second, .unset, .unset, .unset, .unset, .unset, .unset, .unset, .unset, .unset] [])) _
    refine XS.lloadN X3.here hx rfl (hb hby at_29) rfl ?_
    show Steps p.tables e below (T3.setTop (mkF m 30 #[.val (.int p1), .val (.long q2), .second, .val (.long x3_5), .second, .val (.double x5_12), .second, .val (.double R1), .second, .unset, .unset, .unset, .unset, .unset, .unset, .unset, .unset, .unset] [(.long x3_5)])) _
    refine XS.bipush X3.here hx rfl (hb hby at_30) ?_
    show Steps p.tables e below (T3.setTop (mkF m 32 #[.val (.int p1), .val (.long q2), .second, .val (.long x3_5), .second, .val (.double x5_12), .second, .val (.double R1), .second, .unset, .unset, .unset, .unset, .unset, .unset, .unset, .unset, .unset] [(.int (33 : Int32)), (.long x3_5)])) _
    refine XS.lshl X3.here hx rfl (hb hby at_32) rfl ?_
    show Steps p.tables e below (T3.setTop (mkF m 33 #[.val (.int p1), .val (.long q2), .second, .val (.long x3_5), .second, .val (.double x5_12), .second, .val (.double R1), .second, .unset, .unset, .unset, .unset, .unset, .unset, .unset, .unset, .unset] [(.long (x3_5 <<< ((33 : Int32) &&& 0x3f).toInt64))])) _
    refine XS.lloadN X3.here hx rfl (hb hby at_33) rfl ?_
    show Steps p.tables e below (T3.setTop (mkF m 34 #[.val (.int p1), .val (.long q2), .second, .val (.long x3_5), .second, .val (.double x5_12), .second, .val (.double R1), .second, .unset, .unset, .unset, .unset, .unset, .unset, .unset, .unset, .unset] [(.long x3_5), (.long (x3_5 <<< ((33 : Int32) &&& 0x3f).toInt64))])) _
    refine XS.lloadN X3.here hx rfl (hb hby at_34) rfl ?_
    show Steps p.tables e below (T3.setTop (mkF m 35 #[.val (.int p1), .val (.long q2), .second, .val (.long x3_5), .second, .val (.double x5_12), .second, .val (.double R1), .second, .unset, .unset, .unset, .unset, .unset, .unset, .unset, .unset, .unset] [(.long x3_5), (.long x3_5), (.long (x3_5 <<< ((33 : Int32) &&& 0x3f).toInt64))])) _
    refine XS.lmul X3.here hx rfl (hb hby at_35) rfl ?_
    show Steps p.tables e below (T3.setTop (mkF m 36 #[.val (.int p1), .val (.long q2), .second, .val (.long x3_5), .second, .val (.double x5_12), .second, .val (.double R1), .second, .unset, .unset, .unset, .unset, .unset, .unset, .unset, .unset, .unset] [(.long (x3_5 * x3_5)), (.long (x3_5 <<< ((33 : Int32) &&& 0x3f).toInt64))])) _
    refine XS.bipush X3.here hx rfl (hb hby at_36) ?_
    show Steps p.tables e below (T3.setTop (mkF m 38 #[.val (.int p1), .val (.long q2), .second, .val (.long x3_5), .second, .val (.double x5_12), .second, .val (.double R1), .second, .unset, .unset, .unset, .unset, .unset, .unset, .unset, .unset, .unset] [(.int (16 : Int32)), (.long (x3_5 * x3_5)), (.long (x3_5 <<< ((33 : Int32) &&& 0x3f).toInt64))])) _
    refine XS.lshl X3.here hx rfl (hb hby at_38) rfl ?_
    show Steps p.tables e below (T3.setTop (mkF m 39 #[.val (.int p1), .val (.long q2), .second, .val (.long x3_5), .second, .val (.double x5_12), .second, .val (.double R1), .second, .unset, .unset, .unset, .unset, .unset, .unset, .unset, .unset, .unset] [(.long ((x3_5 * x3_5) <<< ((16 : Int32) &&& 0x3f).toInt64)), (.long (x3_5 <<< ((33 : Int32) &&& 0x3f).toInt64))])) _
    refine XS.ladd X3.here hx rfl (hb hby at_39) rfl ?_
    show Steps p.tables e below (T3.setTop (mkF m 40 #[.val (.int p1), .val (.long q2), .second, .val (.long x3_5), .second, .val (.double x5_12), .second, .val (.double R1), .second, .unset, .unset, .unset, .unset, .unset, .unset, .unset, .unset, .unset] [(.long ((x3_5 <<< ((33 : Int32) &&& 0x3f).toInt64) + ((x3_5 * x3_5) <<< ((16 : Int32) &&& 0x3f).toInt64)))])) _
    refine XS.lloadN X3.here hx rfl (hb hby at_40) rfl ?_
    show Steps p.tables e below (T3.setTop (mkF m 41 #[.val (.int p1), .val (.long q2), .second, .val (.long x3_5), .second, .val (.double x5_12), .second, .val (.double R1), .second, .unset, .unset, .unset, .unset, .unset, .unset, .unset, .unset, .unset] [(.long x3_5), (.long ((x3_5 <<< ((33 : Int32) &&& 0x3f).toInt64) + ((x3_5 * x3_5) <<< ((16 : Int32) &&& 0x3f).toInt64)))])) _
    refine XS.lloadN X3.here hx rfl (hb hby at_41) rfl ?_
    show Steps p.tables e below (T3.setTop (mkF m 42 #[.val (.int p1), .val (.long q2), .second, .val (.long x3_5), .second, .val (.double x5_12), .second, .val (.double R1), .second, .unset, .unset, .unset, .unset, .unset, .unset, .unset, .unset, .unset] [(.long x3_5), (.long x3_5), (.long ((x3_5 <<< ((33 : Int32) &&& 0x3f).toInt64) + ((x3_5 * x3_5) <<< ((16 : Int32) &&& 0x3f).toInt64)))])) _
    refine XS.lmul X3.here hx rfl (hb hby at_42) rfl ?_
    show Steps p.tables e below (T3.setTop (mkF m 43 #[.val (.int p1), .val (.long q2), .second, .val (.long x3_5), .second, .val (.double x5_12), .second, .val (.double R1), .second, .unset, .unset, .unset, .unset, .unset, .unset, .unset, .unset, .unset] [(.long (x3_5 * x3_5)), (.long ((x3_5 <<< ((33 : Int32) &&& 0x3f).toInt64) + ((x3_5 * x3_5) <<< ((16 : Int32) &&& 0x3f).toInt64)))])) _
    refine XS.lloadN X3.here hx rfl (hb hby at_43) rfl ?_
    show Steps p.tables e below (T3.setTop (mkF m 44 #[.val (.int p1), .val (.long q2), .second, .val (.long x3_5), .second, .val (.double x5_12), .second, .val (.double R1), .second, .unset, .unset, .unset, .unset, .unset, .unset, .unset, .unset, .unset] [(.long x3_5), (.long (x3_5 * x3_5)), (.long ((x3_5 <<< ((33 : Int32) &&& 0x3f).toInt64) + ((x3_5 * x3_5) <<< ((16 : Int32) &&& 0x3f).toInt64)))])) _
    refine XS.lmul X3.here hx rfl (hb hby at_44) rfl ?_
    show Steps p.tables e below (T3.setTop (mkF m 45 #[.val (.int p1), .val (.long q2), .second, .val (.long x3_5), .second, .val (.double x5_12), .second, .val (.double R1), .second, .unset, .unset, .unset, .unset, .unset, .unset, .unset, .unset, .unset] [(.long ((x3_5 * x3_5) * x3_5)), (.long ((x3_5 <<< ((33 : Int32) &&& 0x3f).toInt64) + ((x3_5 * x3_5) <<< ((16 : Int32) &&& 0x3f).toInt64)))])) _
    refine XS.ladd X3.here hx rfl (hb hby at_45) rfl ?_
    show Steps p.tables e below (T3.setTop (mkF m 46 #[.val (.int p1), .val (.long q2), .second, .val (.long x3_5), .second, .val (.double x5_12), .second, .val (.double R1), .second, .unset, .unset, .unset, .unset, .unset, .unset, .unset, .unset, .unset] [(.long (((x3_5 <<< ((33 : Int32) &&& 0x3f).toInt64) + ((x3_5 * x3_5) <<< ((16 : Int32) &&& 0x3f).toInt64)) + ((x3_5 * x3_5) * x3_5)))])) _
    rw [← hx10_46 trivial]
    refine XS.lstore X3.here hx rfl (hb hby at_46) rfl (l' := #[.val (.int p1), .val (.long q2), .second, .val (.long x3_5), .second, .val (.double x5_12), .second, .val (.double R1), .second, .unset, .val (.long x10_46), .second, .unset, .unset, .unset, .unset, .unset, .unset]) rfl ?_
    show Steps p.tables e below (T3.setTop (mkF m 48 #[.val (.int p1), .val (.long q2), .second, .val (.long x3_5), .second, .val (.double x5_12), .second, .val (.double R1), .second, .unset, .val (.long x10_46), .second, .unset, .unset, .unset, .unset, .unset, .unset] [])) _
    refine XS.dload X3.here hx rfl (hb hby at_48) rfl ?_
    show Steps p.tables e below (T3.setTop (mkF m 50 #[.val (.int p1), .val (.long q2), .second, .val (.long x3_5), .second, .val (.double x5_12), .second, .val (.double R1), .second, .unset, .val (.long x10_46), .second, .unset, .unset, .unset, .unset, .unset, .unset] [(.double R1)])) _
    refine XS.lload X3.here hx rfl (hb hby at_50) rfl ?_
    show Steps p.tables e below (T3.setTop (mkF m 52 #[.val (.int p1), .val (.long q2), .second, .val (.long x3_5), .second, .val (.double x5_12), .second, .val (.double R1), .second, .unset, .val (.long x10_46), .second, .unset, .unset, .unset, .unset, .unset, .unset] [(.long x10_46), (.double R1)])) _
    refine XS.l2dS X3.here hx rfl (hb hby at_52) rfl rfl ?_
    show Steps p.tables e below (T3.setTop (mkF m 53 #[.val (.int p1), .val (.long q2), .second, .val (.long x3_5), .second, .val (.double x5_12), .second, .val (.double R1), .second, .unset, .val (.long x10_46), .second, .unset, .unset, .unset, .unset, .unset, .unset] [(.double (FP.l2d x10_46)), (.double R1)])) _
    refine X3.ldc2DoubleC hx hown (mvT hZ (hw _ (List.mem_of_getElem? (i := 9) rfl))) (g := (mkF m 53 #[.val (.int p1), .val (.long q2), .second, .val (.long x3_5), .second, .val (.double x5_12), .second, .val (.double R1), .second, .unset, .val (.long x10_46), .second, .unset, .unset, .unset, .unset, .unset, .unset] [(.double (FP.l2d x10_46)), (.double R1)])) rfl (hb hby at_53) _ ?_
    show Steps p.tables e below (T3.setTop (mkF m 56 #[.val (.int p1), .val (.long q2), .second, .val (.long x3_5), .second, .val (.double x5_12), .second, .val (.double R1), .second, .unset, .val (.long x10_46), .second, .unset, .unset, .unset, .unset, .unset, .unset] [(.double (4386506037058863104 : UInt64)), (.double (FP.l2d x10_46)), (.double R1)])) _
    refine XS.dmulS X3.here hx rfl (hb hby at_56) rfl hnn56 rfl ?_
    show Steps p.tables e below (T3.setTop (mkF m 57 #[.val (.int p1), .val (.long q2), .second, .val (.long x3_5), .second, .val (.double x5_12), .second, .val (.double R1), .second, .unset, .val (.long x10_46), .second, .unset, .unset, .unset, .unset, .unset, .unset] [(.double (FP.dmul (FP.l2d x10_46) (4386506037058863104 : UInt64))), (.double R1)])) _
    refine XS.dcmpS X3.here hx rfl (hb hby at_57) rfl rfl ?_
    show Steps p.tables e below (T3.setTop (mkF m 58 #[.val (.int p1), .val (.long q2), .second, .val (.long x3_5), .second, .val (.double x5_12), .second, .val (.double R1), .second, .unset, .val (.long x10_46), .second, .unset, .unset, .unset, .unset, .unset, .unset] [(.int (cmpValue (FP.dcmp R1 (FP.dmul (FP.l2d x10_46) (4386506037058863104 : UInt64))) .l))])) _
    refine XS.ifNo X3.here hx rfl (hb hby at_58) rfl ((if0 _ _).trans (teq (hq trivial : (cmpValue (FP.dcmp R1 (FP.dmul (FP.l2d x10_46) (4386506037058863104 : UInt64))) .l) = (0 : Int32))).2) ?_
    show Steps p.tables e below (T3.setTop (mkF m 61 #[.val (.int p1), .val (.long q2), .second, .val (.long x3_5), .second, .val (.double x5_12), .second, .val (.double R1), .second, .unset, .val (.long x10_46), .second, .unset, .unset, .unset, .unset, .unset, .unset] [])) _
    refine XS.iconst X3.here hx rfl (hb hby at_61) ?_
    show Steps p.tables e below (T3.setTop (mkF m 62 #[.val (.int p1), .val (.long q2), .second, .val (.long x3_5), .second, .val (.double x5_12), .second, .val (.double R1), .second, .unset, .val (.long x10_46), .second, .unset, .unset, .unset, .unset, .unset, .unset] [(.int (1 : Int32))])) _
    refine XS.goto X3.here hx rfl (pc0 := 62) (pc' := 66) rfl (hb hby at_62) (by decide) (by decide) ?_
    show Steps p.tables e below (T3.setTop (mkF m 66 #[.val (.int p1), .val (.long q2), .second, .val (.long x3_5), .second, .val (.double x5_12), .second, .val (.double R1), .second, .unset, .val (.long x10_46), .second, .unset, .unset, .unset, .unset, .unset, .unset] [(.int (1 : Int32))])) _
    refine XS.istore X3.here hx rfl (hb hby at_66) rfl (l' := #[.val (.int p1), .val (.long q2), .second, .val (.long x3_5), .second, .val (.double x5_12), .second, .val (.double R1), .second, .val (.int (1 : Int32)), .val (.long x10_46), .second, .unset, .unset, .unset, .unset, .unset, .unset]) rfl ?_
    show Steps p.tables e below (T3.setTop (mkF m 68 #[.val (.int p1), .val (.long q2), .second, .val (.long x3_5), .second, .val (.double x5_12), .second, .val (.double R1), .second, .val (.int (1 : Int32)), .val (.long x10_46), .second, .unset, .unset, .unset, .unset, .unset, .unset] [])) _
    refine XS.goto X3.here hx rfl (pc0 := 68) (pc' := 100) rfl (hb hby at_68) (by decide) (by decide) ?_
    show Steps p.tables e below (T3.setTop (mkF m 100 #[.val (.int p1), .val (.long q2), .second, .val (.long x3_5), .second, .val (.double x5_12), .second, .val (.double R1), .second, .val (.int (1 : Int32)), .val (.long x10_46), .second, .unset, .unset, .unset, .unset, .unset, .unset] [])) _
    refine XS.lloadN X3.here hx rfl (hb hby at_100) rfl ?_
    show Steps p.tables e below (T3.setTop (mkF m 101 #[.val (.int p1), .val (.long q2), .second, .val (.long x3_5), .second, .val (.double x5_12), .second, .val (.double R1), .second, .val (.int (1 : Int32)), .val (.long x10_46), .second, .unset, .unset, .unset, .unset, .unset, .unset] [(.long q2)])) _
    refine XS.bipush X3.here hx rfl (hb hby at_101) ?_
    show Steps p.tables e below (T3.setTop (mkF m 103 #[.val (.int p1), .val (.long q2), .second, .val (.long x3_5), .second, .val (.double x5_12), .second, .val (.double R1), .second, .val (.int (1 : Int32)), .val (.long x10_46), .second, .unset, .unset, .unset, .unset, .unset, .unset] [(.int (11 : Int32)), (.long q2)])) _
    refine XS.lushr X3.here hx rfl (hb hby at_103) rfl ?_
    show Steps p.tables e below (T3.setTop (mkF m 104 #[.val (.int p1), .val (.long q2), .second, .val (.long x3_5), .second, .val (.double x5_12), .second, .val (.double R1), .second, .val (.int (1 : Int32)), .val (.long x10_46), .second, .unset, .unset, .unset, .unset, .unset, .unset] [(.long ((q2.toUInt64 >>> ((11 : Int32) &&& 0x3f).toInt64.toUInt64).toInt64))])) _
    rw [← hx10_104 trivial]
    refine XS.lstore X3.here hx rfl (hb hby at_104) rfl (l' := #[.val (.int p1), .val (.long q2), .second, .val (.long x3_5), .second, .val (.double x5_12), .second, .val (.double R1), .second, .val (.int (1 : Int32)), .val (.long x10_104), .second, .unset, .unset, .unset, .unset, .unset, .unset]) rfl ?_
    show Steps p.tables e below (T3.setTop (mkF m 106 #[.val (.int p1), .val (.long q2), .second, .val (.long x3_5), .second, .val (.double x5_12), .second, .val (.double R1), .second, .val (.int (1 : Int32)), .val (.long x10_104), .second, .unset, .unset, .unset, .unset, .unset, .unset] [])) _
    refine XS.lload X3.here hx rfl (hb hby at_106) rfl ?_
    show Steps p.tables e below (T3.setTop (mkF m 108 #[.val (.int p1), .val (.long q2), .second, .val (.long x3_5), .second, .val (.double x5_12), .second, .val (.double R1), .second, .val (.int (1 : Int32)), .val (.long x10_104), .second, .unset, .unset, .unset, .unset, .unset, .unset] [(.long x10_104)])) _
    refine XS.l2dS X3.here hx rfl (hb hby at_108) rfl rfl ?_
    show Steps p.tables e below (T3.setTop (mkF m 109 #[.val (.int p1), .val (.long q2), .second, .val (.long x3_5), .second, .val (.double x5_12), .second, .val (.double R1), .second, .val (.int (1 : Int32)), .val (.long x10_104), .second, .unset, .unset, .unset, .unset, .unset, .unset] [(.double (FP.l2d x10_104))])) _
    refine X3.ldc2DoubleC hx hown (mvT hZ (hw _ (List.mem_of_getElem? (i := 10) rfl))) (g := (mkF m 109 #[.val (.int p1), .val (.long q2), .second, .val (.long x3_5), .second, .val (.double x5_12), .second, .val (.double R1), .second, .val (.int (1 : Int32)), .val (.long x10_104), .second, .unset, .unset, .unset, .unset, .unset, .unset] [(.double (FP.l2d x10_104))])) rfl (hb hby at_109) _ ?_
    show Steps p.tables e below (T3.setTop (mkF m 112 #[.val (.int p1), .val (.long q2), .second, .val (.long x3_5), .second, .val (.double x5_12), .second, .val (.double R1), .second, .val (.int (1 : Int32)), .val (.long x10_104), .second, .unset, .unset, .unset, .unset, .unset, .unset] [(.double (4368491638549381120 : UInt64)), (.double (FP.l2d x10_104))])) _
    refine XS.dmulS X3.here hx rfl (hb hby at_112) rfl hnn112 rfl ?_
    show Steps p.tables e below (T3.setTop (mkF m 113 #[.val (.int p1), .val (.long q2), .second, .val (.long x3_5), .second, .val (.double x5_12), .second, .val (.double R1), .second, .val (.int (1 : Int32)), .val (.long x10_104), .second, .unset, .unset, .unset, .unset, .unset, .unset] [(.double (FP.dmul (FP.l2d x10_104) (4368491638549381120 : UInt64)))])) _
    rw [← hx12_113 trivial]
    refine XS.dstore X3.here hx rfl (hb hby at_113) rfl (l' := #[.val (.int p1), .val (.long q2), .second, .val (.long x3_5), .second, .val (.double x5_12), .second, .val (.double R1), .second, .val (.int (1 : Int32)), .val (.long x10_104), .second, .val (.double x12_113), .second, .unset, .unset, .unset, .unset]) rfl ?_
    show Steps p.tables e below (T3.setTop (mkF m 115 #[.val (.int p1), .val (.long q2), .second, .val (.long x3_5), .second, .val (.double x5_12), .second, .val (.double R1), .second, .val (.int (1 : Int32)), .val (.long x10_104), .second, .val (.double x12_113), .second, .unset, .unset, .unset, .unset] [])) _
    refine XS.dload X3.here hx rfl (hb hby at_115) rfl ?_
    show Steps p.tables e below (T3.setTop (mkF m 117 #[.val (.int p1), .val (.long q2), .second, .val (.long x3_5), .second, .val (.double x5_12), .second, .val (.double R1), .second, .val (.int (1 : Int32)), .val (.long x10_104), .second, .val (.double x12_113), .second, .unset, .unset, .unset, .unset] [(.double x12_113)])) _
    refine st4 _ ?_
    show Steps p.tables e below (T4.setTop (mkF m 120 #[.val (.int p1), .val (.long q2), .second, .val (.long x3_5), .second, .val (.double x5_12), .second, .val (.double R1), .second, .val (.int (1 : Int32)), .val (.long x10_104), .second, .val (.double x12_113), .second, .unset, .unset, .unset, .unset] [(.double R2)])) _
    refine XS.dstore X4.here hx rfl (hb hby at_120) rfl (l' := #[.val (.int p1), .val (.long q2), .second, .val (.long x3_5), .second, .val (.double x5_12), .second, .val (.double R1), .second, .val (.int (1 : Int32)), .val (.long x10_104), .second, .val (.double x12_113), .second, .val (.double R2), .second, .unset, .unset]) rfl ?_
    show Steps p.tables e below (T4.setTop (mkF m 122 #[.val (.int p1), .val (.long q2), .second, .val (.long x3_5), .second, .val (.double x5_12), .second, .val (.double R1), .second, .val (.int (1 : Int32)), .val (.long x10_104), .second, .val (.double x12_113), .second, .val (.double R2), .second, .unset, .unset] [])) _
    refine XS.lload X4.here hx rfl (hb hby at_122) rfl ?_
    show Steps p.tables e below (T4.setTop (mkF m 124 #[.val (.int p1), .val (.long q2), .second, .val (.long x3_5), .second, .val (.double x5_12), .second, .val (.double R1), .second, .val (.int (1 : Int32)), .val (.long x10_104), .second, .val (.double x12_113), .second, .val (.double R2), .second, .unset, .unset] [(.long x10_104)])) _
    refine X4.ldc2Long hx hown (mvT hZ (hw _ (List.mem_of_getElem? (i := 11) rfl))) (g := (mkF m 124 #[.val (.int p1), .val (.long q2), .second, .val (.long x3_5), .second, .val (.double x5_12), .second, .val (.double R1), .second, .val (.int (1 : Int32)), .val (.long x10_104), .second, .val (.double x12_113), .second, .val (.double R2), .second, .unset, .unset] [(.long x10_104)])) rfl (hb hby at_124) _ ?_
    show Steps p.tables e below (T4.setTop (mkF m 127 #[.val (.int p1), .val (.long q2), .second, .val (.long x3_5), .second, .val (.double x5_12), .second, .val (.double R1), .second, .val (.int (1 : Int32)), .val (.long x10_104), .second, .val (.double x12_113), .second, .val (.double R2), .second, .unset, .unset] [(.long (2251799813685248 : Int64)), (.long x10_104)])) _
    refine XS.lcmp X4.here hx rfl (hb hby at_127) rfl ?_
    show Steps p.tables e below (T4.setTop (mkF m 128 #[.val (.int p1), .val (.long q2), .second, .val (.long x3_5), .second, .val (.double x5_12), .second, .val (.double R1), .second, .val (.int (1 : Int32)), .val (.long x10_104), .second, .val (.double x12_113), .second, .val (.double R2), .second, .unset, .unset] [(.int (lcmpW x10_104 (2251799813685248 : Int64)))])) _
    refine XS.ifYes X4.here hx rfl (pc0 := 128) (pc' := 161) rfl (hb hby at_128) rfl ((if0 _ _).trans (tlt hc128).2.2.1) (by decide) (by decide) ?_
    show Steps p.tables e below (T4.setTop (mkF m 161 #[.val (.int p1), .val (.long q2), .second, .val (.long x3_5), .second, .val (.double x5_12), .second, .val (.double R1), .second, .val (.int (1 : Int32)), .val (.long x10_104), .second, .val (.double x12_113), .second, .val (.double R2), .second, .unset, .unset] [])) _
    refine XS.dload X4.here hx rfl (hb hby at_161) rfl ?_
    show Steps p.tables e below (T4.setTop (mkF m 163 #[.val (.int p1), .val (.long q2), .second, .val (.long x3_5), .second, .val (.double x5_12), .second, .val (.double R1), .second, .val (.int (1 : Int32)), .val (.long x10_104), .second, .val (.double x12_113), .second, .val (.double R2), .second, .unset, .unset] [(.double x12_113)])) _
    refine X4.ldc2DoubleC hx hown (mvT hZ (hw _ (List.mem_of_getElem? (i := 18) rfl))) (g := (mkF m 163 #[.val (.int p1), .val (.long q2), .second, .val (.long x3_5), .second, .val (.double x5_12), .second, .val (.double R1), .second, .val (.int (1 : Int32)), .val (.long x10_104), .second, .val (.double x12_113), .second, .val (.double R2), .second, .unset, .unset] [(.double x12_113)])) rfl (hb hby at_163) _ ?_
    show Steps p.tables e below (T4.setTop (mkF m 166 #[.val (.int p1), .val (.long q2), .second, .val (.long x3_5), .second, .val (.double x5_12), .second, .val (.double R1), .second, .val (.int (1 : Int32)), .val (.long x10_104), .second, .val (.double x12_113), .second, .val (.double R2), .second, .unset, .unset] [(.double (4611686018427387904 : UInt64)), (.double x12_113)])) _
    refine XS.dload X4.here hx rfl (hb hby at_166) rfl ?_
    show Steps p.tables e below (T4.setTop (mkF m 168 #[.val (.int p1), .val (.long q2), .second, .val (.long x3_5), .second, .val (.double x5_12), .second, .val (.double R1), .second, .val (.int (1 : Int32)), .val (.long x10_104), .second, .val (.double x12_113), .second, .val (.double R2), .second, .unset, .unset] [(.double x12_113), (.double (4611686018427387904 : UInt64)), (.double x12_113)])) _
    refine XS.dsubS X4.here hx rfl (hb hby at_168) rfl hnn168 rfl ?_
    show Steps p.tables e below (T4.setTop (mkF m 169 #[.val (.int p1), .val (.long q2), .second, .val (.long x3_5), .second, .val (.double x5_12), .second, .val (.double R1), .second, .val (.int (1 : Int32)), .val (.long x10_104), .second, .val (.double x12_113), .second, .val (.double R2), .second, .unset, .unset] [(.double (FP.dsub (4611686018427387904 : UInt64) x12_113)), (.double x12_113)])) _
    refine XS.dmulS X4.here hx rfl (hb hby at_169) rfl hnn169 rfl ?_
    show Steps p.tables e below (T4.setTop (mkF m 170 #[.val (.int p1), .val (.long q2), .second, .val (.long x3_5), .second, .val (.double x5_12), .second, .val (.double R1), .second, .val (.int (1 : Int32)), .val (.long x10_104), .second, .val (.double x12_113), .second, .val (.double R2), .second, .unset, .unset] [(.double (FP.dmul x12_113 (FP.dsub (4611686018427387904 : UInt64) x12_113)))])) _
    refine X4.ldc2DoubleC hx hown (mvT hZ (hw _ (List.mem_of_getElem? (i := 18) rfl))) (g := (mkF m 170 #[.val (.int p1), .val (.long q2), .second, .val (.long x3_5), .second, .val (.double x5_12), .second, .val (.double R1), .second, .val (.int (1 : Int32)), .val (.long x10_104), .second, .val (.double x12_113), .second, .val (.double R2), .second, .unset, .unset] [(.double (FP.dmul x12_113 (FP.dsub (4611686018427387904 : UInt64) x12_113)))])) rfl (hb hby at_170) _ ?_
    show Steps p.tables e below (T4.setTop (mkF m 173 #[.val (.int p1), .val (.long q2), .second, .val (.long x3_5), .second, .val (.double x5_12), .second, .val (.double R1), .second, .val (.int (1 : Int32)), .val (.long x10_104), .second, .val (.double x12_113), .second, .val (.double R2), .second, .unset, .unset] [(.double (4611686018427387904 : UInt64)), (.double (FP.dmul x12_113 (FP.dsub (4611686018427387904 : UInt64) x12_113)))])) _
    refine XS.dconst1 X4.here hx rfl (hb hby at_173) rfl ?_
    show Steps p.tables e below (T4.setTop (mkF m 174 #[.val (.int p1), .val (.long q2), .second, .val (.long x3_5), .second, .val (.double x5_12), .second, .val (.double R1), .second, .val (.int (1 : Int32)), .val (.long x10_104), .second, .val (.double x12_113), .second, .val (.double R2), .second, .unset, .unset] [(.double FP.dconst1), (.double (4611686018427387904 : UInt64)), (.double (FP.dmul x12_113 (FP.dsub (4611686018427387904 : UInt64) x12_113)))])) _
    refine XS.dload X4.here hx rfl (hb hby at_174) rfl ?_
    show Steps p.tables e below (T4.setTop (mkF m 176 #[.val (.int p1), .val (.long q2), .second, .val (.long x3_5), .second, .val (.double x5_12), .second, .val (.double R1), .second, .val (.int (1 : Int32)), .val (.long x10_104), .second, .val (.double x12_113), .second, .val (.double R2), .second, .unset, .unset] [(.double x12_113), (.double FP.dconst1), (.double (4611686018427387904 : UInt64)), (.double (FP.dmul x12_113 (FP.dsub (4611686018427387904 : UInt64) x12_113)))])) _
    refine XS.dsubS X4.here hx rfl (hb hby at_176) rfl hnn176 rfl ?_
    show Steps p.tables e below (T4.setTop (mkF m 177 #[.val (.int p1), .val (.long q2), .second, .val (.long x3_5), .second, .val (.double x5_12), .second, .val (.double R1), .second, .val (.int (1 : Int32)), .val (.long x10_104), .second, .val (.double x12_113), .second, .val (.double R2), .second, .unset, .unset] [(.double (FP.dsub FP.dconst1 x12_113)), (.double (4611686018427387904 : UInt64)), (.double (FP.dmul x12_113 (FP.dsub (4611686018427387904 : UInt64) x12_113)))])) _
    refine XS.dmulS X4.here hx rfl (hb hby at_177) rfl hnn177 rfl ?_
    show Steps p.tables e below (T4.setTop (mkF m 178 #[.val (.int p1), .val (.long q2), .second, .val (.long x3_5), .second, .val (.double x5_12), .second, .val (.double R1), .second, .val (.int (1 : Int32)), .val (.long x10_104), .second, .val (.double x12_113), .second, .val (.double R2), .second, .unset, .unset] [(.double (FP.dmul (4611686018427387904 : UInt64) (FP.dsub FP.dconst1 x12_113))), (.double (FP.dmul x12_113 (FP.dsub (4611686018427387904 : UInt64) x12_113)))])) _
    refine XS.ddivS X4.here hx rfl (hb hby at_178) rfl hnn178 rfl ?_
    show Steps p.tables e below (T4.setTop (mkF m 179 #[.val (.int p1), .val (.long q2), .second, .val (.long x3_5), .second, .val (.double x5_12), .second, .val (.double R1), .second, .val (.int (1 : Int32)), .val (.long x10_104), .second, .val (.double x12_113), .second, .val (.double R2), .second, .unset, .unset] [(.double (FP.ddiv (FP.dmul x12_113 (FP.dsub (4611686018427387904 : UInt64) x12_113)) (FP.dmul (4611686018427387904 : UInt64) (FP.dsub FP.dconst1 x12_113))))])) _
    rw [← hx16_179 trivial]
    refine XS.dstore X4.here hx rfl (hb hby at_179) rfl (l' := #[.val (.int p1), .val (.long q2), .second, .val (.long x3_5), .second, .val (.double x5_12), .second, .val (.double R1), .second, .val (.int (1 : Int32)), .val (.long x10_104), .second, .val (.double x12_113), .second, .val (.double R2), .second, .val (.double x16_179), .second]) rfl ?_
    show Steps p.tables e below (T4.setTop (mkF m 181 #[.val (.int p1), .val (.long q2), .second, .val (.long x3_5), .second, .val (.double x5_12), .second, .val (.double R1), .second, .val (.int (1 : Int32)), .val (.long x10_104), .second, .val (.double x12_113), .second, .val (.double R2), .second, .val (.double x16_179), .second] [])) _
    refine XS.iload X4.here hx rfl (hb hby at_181) rfl ?_
    show Steps p.tables e below (T4.setTop (mkF m 183 #[.val (.int p1), .val (.long q2), .second, .val (.long x3_5), .second, .val (.double x5_12), .second, .val (.double R1), .second, .val (.int (1 : Int32)), .val (.long x10_104), .second, .val (.double x12_113), .second, .val (.double R2), .second, .val (.double x16_179), .second] [(.int (1 : Int32))])) _
    refine XS.ifNo X4.here hx rfl (hb hby at_183) rfl ((if0 _ _).trans (feq hc183).1) ?_
    show Steps p.tables e below (T4.setTop (mkF m 186 #[.val (.int p1), .val (.long q2), .second, .val (.long x3_5), .second, .val (.double x5_12), .second, .val (.double R1), .second, .val (.int (1 : Int32)), .val (.long x10_104), .second, .val (.double x12_113), .second, .val (.double R2), .second, .val (.double x16_179), .second] [])) _
    refine XS.dload X4.here hx rfl (hb hby at_186) rfl ?_
    show Steps p.tables e below (T4.setTop (mkF m 188 #[.val (.int p1), .val (.long q2), .second, .val (.long x3_5), .second, .val (.double x5_12), .second, .val (.double R1), .second, .val (.int (1 : Int32)), .val (.long x10_104), .second, .val (.double x12_113), .second, .val (.double R2), .second, .val (.double x16_179), .second] [(.double R2)])) _
    refine XS.dload X4.here hx rfl (hb hby at_188) rfl ?_
    show Steps p.tables e below (T4.setTop (mkF m 190 #[.val (.int p1), .val (.long q2), .second, .val (.long x3_5), .second, .val (.double x5_12), .second, .val (.double R1), .second, .val (.int (1 : Int32)), .val (.long x10_104), .second, .val (.double x12_113), .second, .val (.double R2), .second, .val (.double x16_179), .second] [(.double x16_179), (.double R2)])) _
    refine st5 _ ?_
    show Steps p.tables e below (T5.setTop (mkF m 193 #[.val (.int p1), .val (.long q2), .second, .val (.long x3_5), .second, .val (.double x5_12), .second, .val (.double R1), .second, .val (.int (1 : Int32)), .val (.long x10_104), .second, .val (.double x12_113), .second, .val (.double R2), .second, .val (.double x16_179), .second] [(.int (1 : Int32))])) _
    refine XS.ifNo X5.here hx rfl (hb hby at_193) rfl ((if0 _ _).trans (feq (by decide : ¬ ((1 : Int32) = (0 : Int32)))).1) ?_
    show Steps p.tables e below (T5.setTop (mkF m 196 #[.val (.int p1), .val (.long q2), .second, .val (.long x3_5), .second, .val (.double x5_12), .second, .val (.double R1), .second, .val (.int (1 : Int32)), .val (.long x10_104), .second, .val (.double x12_113), .second, .val (.double R2), .second, .val (.double x16_179), .second] [])) _
    refine XS.iconst X5.here hx rfl (hb hby at_196) ?_
    show Steps p.tables e below (T5.setTop (mkF m 197 #[.val (.int p1), .val (.long q2), .second, .val (.long x3_5), .second, .val (.double x5_12), .second, .val (.double R1), .second, .val (.int (1 : Int32)), .val (.long x10_104), .second, .val (.double x12_113), .second, .val (.double R2), .second, .val (.double x16_179), .second] [(.int (1 : Int32))])) _
    refine XS.goto X5.here hx rfl (pc0 := 197) (pc' := 201) rfl (hb hby at_197) (by decide) (by decide) ?_
    show Steps p.tables e below (T5.setTop (mkF m 201 #[.val (.int p1), .val (.long q2), .second, .val (.long x3_5), .second, .val (.double x5_12), .second, .val (.double R1), .second, .val (.int (1 : Int32)), .val (.long x10_104), .second, .val (.double x12_113), .second, .val (.double R2), .second, .val (.double x16_179), .second] [(.int (1 : Int32))])) _
    exact retN X5 hx (t := .boolean) Bd.returns (by simp) (hb hby at_201) hr
  · show Q0 h0 n0 _ T5.heap _
    exact ⟨rfl, N5⟩
set_option maxRecDepth 65536 in
set_option maxHeartbeats 40000000 in
theorem rm0_ls (l : Launch) (Z : State) (a0 : Array Value) (hw : ∀ d ∈ tables_1, d.before a0 Z = true) (ws : List Jvm.Cond) (p1 : Int32) (q2 : Int64) (x3_5 : Int64) (x5_12 : UInt64) (x10_89 : UInt64) (x10_104 : Int64) (x12_113 : UInt64) (x16_156 : UInt64) (R1 R2 : UInt64) (h0 : Heap) (n0 : Nat) (Z0 : n0 ≤ h0.size) (hx3_5 : True → x3_5 = ((p1 &&& (65535 : Int32)).toInt64)) (hnn11 : Jvm.Free.Fl.NoNaN64 (FP.dmul (FP.l2d x3_5) (4535124824762089472 : UInt64))) (hx5_12 : True → x5_12 = (FP.dmul (FP.l2d x3_5) (4535124824762089472 : UInt64))) (hc26 : (0 : Int32) < (lcmpW x3_5 (16384 : Int64))) (hnn88 : Jvm.Free.Fl.NoNaN64 (FP.ddiv (FP.l2d (x3_5 * ((131072 : Int64) - x3_5))) (FP.l2d (((65536 : Int64) - x3_5) <<< ((17 : Int32) &&& 0x3f).toInt64)))) (hx10_89 : True → x10_89 = (FP.ddiv (FP.l2d (x3_5 * ((131072 : Int64) - x3_5))) (FP.l2d (((65536 : Int64) - x3_5) <<< ((17 : Int32) &&& 0x3f).toInt64)))) (hx10_104 : True → x10_104 = ((q2.toUInt64 >>> ((11 : Int32) &&& 0x3f).toInt64.toUInt64).toInt64)) (hnn112 : Jvm.Free.Fl.NoNaN64 (FP.dmul (FP.l2d x10_104) (4368491638549381120 : UInt64))) (hx12_113 : True → x12_113 = (FP.dmul (FP.l2d x10_104) (4368491638549381120 : UInt64))) (hc128 : ¬ ((0 : Int32) < (lcmpW x10_104 (2251799813685248 : Int64)))) (hnn138 : Jvm.Free.Fl.NoNaN64 (FP.dmul (4602678819172646912 : UInt64) x12_113)) (hnn141 : Jvm.Free.Fl.NoNaN64 (FP.dmul (FP.dmul (4602678819172646912 : UInt64) x12_113) x12_113)) (hnn142 : Jvm.Free.Fl.NoNaN64 (FP.dadd x12_113 (FP.dmul (FP.dmul (4602678819172646912 : UInt64) x12_113) x12_113))) (hnn148 : Jvm.Free.Fl.NoNaN64 (FP.dmul (4602678819172646912 : UInt64) x12_113)) (hnn151 : Jvm.Free.Fl.NoNaN64 (FP.dmul (FP.dmul (4602678819172646912 : UInt64) x12_113) x12_113)) (hnn154 : Jvm.Free.Fl.NoNaN64 (FP.dmul (FP.dmul (FP.dmul (4602678819172646912 : UInt64) x12_113) x12_113) x12_113)) (hnn155 : Jvm.Free.Fl.NoNaN64 (FP.dadd (FP.dadd x12_113 (FP.dmul (FP.dmul (4602678819172646912 : UInt64) x12_113) x12_113)) (FP.dmul (FP.dmul (FP.dmul (4602678819172646912 : UInt64) x12_113) x12_113) x12_113))) (hx16_156 : True → x16_156 = (FP.dadd (FP.dadd x12_113 (FP.dmul (FP.dmul (4602678819172646912 : UInt64) x12_113) x12_113)) (FP.dmul (FP.dmul (FP.dmul (4602678819172646912 : UInt64) x12_113) x12_113) x12_113))) (hL1 : LA x5_12 R1) (hL2 : LA x12_113 R2) (hC2 : CL R2 x16_156) (hC1 : CL R1 x10_89) :
    MetFree l x (head1 (Jvm.Cond.code x code maxLocals ret :: ws) room_1) (fun a U => a = #[(.int p1), (.long q2)] ∧ Z.Warmed39 U.vm ∧ U.heap = h0) (fun _ _ _ _ _ => True) (fun _ U o U' => ∃ v L, o = .returned v ∧ Q0 h0 n0 v U'.heap L ∧ FrameEnd U o U' L room_1.cells room_1.slots) := by
  refine MetFree.of_bodySF (plainFor_of_name pn_0) hisR ?_
  intro p e s m args below meth c s₁ Bd hml0 hP hK
  obtain ⟨rfl, hZ, hh⟩ := hP
  have hx := Bd.exec
  have hby := Bd.bytes
  have hml : c.maxLocals = 18 := hml0
  have hown : s.vm.findClass "com/example/level_ring/levelring/placement/MembersLogAtMostPinLaw" = some m.cls := findClass_of_methodNamed Bd.named
  have hnm := (name_of_methodNamed Bd.named Bd.method).1
  have X0 : Stand p l e room_1 s m #[(.int p1), (.long q2)] below meth c s₁ [] 0 0 := Stand.of_body Bd
  have e0 : s₁.heap = h0 := by rw [← hh, Bd.state]; rfl
  have N0 := Fr.nil n0
  have pre0 : ∀ t, Steps p.tables e below (s₁.setTop (mkF m 0 #[.val (.int p1), .val (.long q2), .second, .unset, .unset, .unset, .unset, .unset, .unset, .unset, .unset, .unset, .unset, .unset, .unset, .unset, .unset, .unset] [])) t → Steps p.tables e below (s₁.setTop (entryFrame m #[(.int p1), (.long q2)] maxLocals)) t := fun t k => castTop (ef_0 m p1 q2) k
  -- 3. LAWS
  -- pc 16: com/example/level_ring/levelring/placement/Members.logAtMost by its contract rm1
  obtain ⟨_, _, ⟨T3, L3, k3, n3⟩, -, X3, ⟨Lc3, hQ3, l3, y3, z3⟩, st3⟩ := Jvm.LawKit.callS X0 hx (y := (⟨"com/example/level_ring/levelring/placement/Members", "logAtMost", "(D)D"⟩ : MethodName)) hown (mvT hZ (hw _ (List.mem_of_getElem? (i := 2) rfl))) (mvT hZ (hw _ (List.mem_of_getElem? (i := 3) rfl))) (mvT hZ (hw _ (List.mem_of_getElem? (i := 4) rfl))) (mvT hZ (hw _ (List.mem_of_getElem? (i := 5) rfl))) (by decide) (backOf (W := 0) (rm1 l Z a0 hw [] x5_12 R1 h0 n0 Z0 hL1) hZ (hw _ (List.mem_of_getElem? (i := 5) rfl)) (hw _ (List.mem_of_getElem? (i := 4) rfl)) (by decide) (by decide)) (g := (mkF m 16 #[.val (.int p1), .val (.long q2), .second, .val (.long x3_5), .second, .val (.double x5_12), .second, .unset, .unset, .unset, .unset, .unset, .unset, .unset, .unset, .unset, .unset, .unset] [(.double x5_12)])) rfl (by rw [hml]; rfl) (argsL := [(.double x5_12)]) (rest := []) (lenOf pdw_0 rfl) rfl (by show 2 * 0 + _ ≤ _; exact Nat.le_of_eq rfl) (hb hby at_16) (fun _ _ => ⟨rfl, e0, (by decide : 0 + 0 ≤ _), (by decide : 0 + 0 ≤ _)⟩)
  dsimp only [Pt.U, Pt.locs, Pt.cells, Pt.slots] at X3 l3 y3 z3 st3 hQ3
  subst l3 y3 z3
  obtain ⟨rfl, N3q, hh3⟩ := hQ3
  have N3 := Fr.app N0 N3q
  -- pc 95: com/example/level_ring/levelring/placement/MembersLogAtMostPinLaw.close by its contract rm2
  obtain ⟨_, _, ⟨T4, L4, k4, n4⟩, -, X4, ⟨Lc4, hQ4, l4, y4, z4⟩, st4⟩ := Jvm.LawKit.callS X3 hx (y := (⟨"com/example/level_ring/levelring/placement/MembersLogAtMostPinLaw", "close", "(DD)Z"⟩ : MethodName)) hown (mvT hZ (hw _ (List.mem_of_getElem? (i := 13) rfl))) (mvT hZ (hw _ (List.mem_of_getElem? (i := 14) rfl))) (mvT hZ (hw _ (List.mem_of_getElem? (i := 15) rfl))) (mvT hZ (hw _ (List.mem_of_getElem? (i := 16) rfl))) (by decide) (backOf (W := 0) (rm2 l Z a0 hw [] R1 x10_89  h0 n0 Z0 hC1.1 hC1.2.1 hC1.2.2.1 hC1.2.2.2.1 hC1.2.2.2.2) hZ (hw _ (List.mem_of_getElem? (i := 16) rfl)) (hw _ (List.mem_of_getElem? (i := 15) rfl)) (by decide) (by decide)) (g := (mkF m 95 #[.val (.int p1), .val (.long q2), .second, .val (.long x3_5), .second, .val (.double x5_12), .second, .val (.double R1), .second, .unset, .val (.double x10_89), .second, .unset, .unset, .unset, .unset, .unset, .unset] [(.double x10_89), (.double R1)])) rfl (by rw [hml]; rfl) (argsL := [(.double R1), (.double x10_89)]) (rest := []) (lenOf pdw_1 rfl) rfl (by show 2 * 0 + _ ≤ _; exact Nat.le_of_eq rfl) (hb hby at_95) (fun _ _ => ⟨rfl, hh3, (by decide : 0 + 0 ≤ _), (by decide : 0 + 0 ≤ _)⟩)
  dsimp only [Pt.U, Pt.locs, Pt.cells, Pt.slots] at X4 l4 y4 z4 st4 hQ4
  subst l4 y4 z4
  obtain ⟨rfl, N4q, hh4⟩ := hQ4
  have N4 := Fr.app N3 N4q
  -- pc 117: com/example/level_ring/levelring/placement/Members.logAtMost by its contract rm1
  obtain ⟨_, _, ⟨T5, L5, k5, n5⟩, -, X5, ⟨Lc5, hQ5, l5, y5, z5⟩, st5⟩ := Jvm.LawKit.callS X4 hx (y := (⟨"com/example/level_ring/levelring/placement/Members", "logAtMost", "(D)D"⟩ : MethodName)) hown (mvT hZ (hw _ (List.mem_of_getElem? (i := 2) rfl))) (mvT hZ (hw _ (List.mem_of_getElem? (i := 3) rfl))) (mvT hZ (hw _ (List.mem_of_getElem? (i := 4) rfl))) (mvT hZ (hw _ (List.mem_of_getElem? (i := 5) rfl))) (by decide) (backOf (W := 0) (rm1 l Z a0 hw [] x12_113 R2 h0 n0 Z0 hL2) hZ (hw _ (List.mem_of_getElem? (i := 5) rfl)) (hw _ (List.mem_of_getElem? (i := 4) rfl)) (by decide) (by decide)) (g := (mkF m 117 #[.val (.int p1), .val (.long q2), .second, .val (.long x3_5), .second, .val (.double x5_12), .second, .val (.double R1), .second, .val (.int (1 : Int32)), .val (.long x10_104), .second, .val (.double x12_113), .second, .unset, .unset, .unset, .unset] [(.double x12_113)])) rfl (by rw [hml]; rfl) (argsL := [(.double x12_113)]) (rest := []) (lenOf pdw_0 rfl) rfl (by show 2 * 0 + _ ≤ _; exact Nat.le_of_eq rfl) (hb hby at_117) (fun _ _ => ⟨rfl, hh4, (by decide : 0 + 0 ≤ _), (by decide : 0 + 0 ≤ _)⟩)
  dsimp only [Pt.U, Pt.locs, Pt.cells, Pt.slots] at X5 l5 y5 z5 st5 hQ5
  subst l5 y5 z5
  obtain ⟨rfl, N5q, hh5⟩ := hQ5
  have N5 := Fr.app N4 N5q
  -- pc 190: com/example/level_ring/levelring/placement/MembersLogAtMostPinLaw.close by its contract rm2
  obtain ⟨_, _, ⟨T6, L6, k6, n6⟩, -, X6, ⟨Lc6, hQ6, l6, y6, z6⟩, st6⟩ := Jvm.LawKit.callS X5 hx (y := (⟨"com/example/level_ring/levelring/placement/MembersLogAtMostPinLaw", "close", "(DD)Z"⟩ : MethodName)) hown (mvT hZ (hw _ (List.mem_of_getElem? (i := 13) rfl))) (mvT hZ (hw _ (List.mem_of_getElem? (i := 14) rfl))) (mvT hZ (hw _ (List.mem_of_getElem? (i := 15) rfl))) (mvT hZ (hw _ (List.mem_of_getElem? (i := 16) rfl))) (by decide) (backOf (W := 0) (rm2 l Z a0 hw [] R2 x16_156  h0 n0 Z0 hC2.1 hC2.2.1 hC2.2.2.1 hC2.2.2.2.1 hC2.2.2.2.2) hZ (hw _ (List.mem_of_getElem? (i := 16) rfl)) (hw _ (List.mem_of_getElem? (i := 15) rfl)) (by decide) (by decide)) (g := (mkF m 190 #[.val (.int p1), .val (.long q2), .second, .val (.long x3_5), .second, .val (.double x5_12), .second, .val (.double R1), .second, .val (.int (1 : Int32)), .val (.long x10_104), .second, .val (.double x12_113), .second, .val (.double R2), .second, .val (.double x16_156), .second] [(.double x16_156), (.double R2)])) rfl (by rw [hml]; rfl) (argsL := [(.double R2), (.double x16_156)]) (rest := []) (lenOf pdw_1 rfl) rfl (by show 2 * 0 + _ ≤ _; exact Nat.le_of_eq rfl) (hb hby at_190) (fun _ _ => ⟨rfl, hh5, (by decide : 0 + 0 ≤ _), (by decide : 0 + 0 ≤ _)⟩)
  dsimp only [Pt.U, Pt.locs, Pt.cells, Pt.slots] at X6 l6 y6 z6 st6 hQ6
  subst l6 y6 z6
  obtain ⟨rfl, N6q, hh6⟩ := hQ6
  have N6 := Fr.app N5 N6q
  obtain ⟨fs, hr, hrun, hended, hW, hsame⟩ := X6.leave (v := some (.int (1 : Int32))) (fun h => by rw [Bd.returns] at h; cases h)
  refine ⟨_, _, pre0 _ ?_, hrun, hended, _, _, rfl, ?_, ⟨_, rfl⟩, hW, hsame.mono (by decide) (by decide)⟩
  -- 4. STEPS
  · show Steps p.tables e below (s₁.setTop (mkF m 0 #[.val (.int p1), .val (.long q2), .second, .unset, .unset, .unset, .unset, .unset, .unset, .unset, .unset, .unset, .unset, .unset, .unset, .unset, .unset, .unset] [])) _
    refine XS.iloadN X0.here hx rfl (hb hby at_0) rfl ?_
    show Steps p.tables e below (s₁.setTop (mkF m 1 #[.val (.int p1), .val (.long q2), .second, .unset, .unset, .unset, .unset, .unset, .unset, .unset, .unset, .unset, .unset, .unset, .unset, .unset, .unset, .unset] [(.int p1)])) _
    refine X0.ldcInt hx hown (mvT hZ (hw _ (List.mem_of_getElem? (i := 0) rfl))) (g := (mkF m 1 #[.val (.int p1), .val (.long q2), .second, .unset, .unset, .unset, .unset, .unset, .unset, .unset, .unset, .unset, .unset, .unset, .unset, .unset, .unset, .unset] [(.int p1)])) rfl (hb hby at_1) _ ?_
    show Steps p.tables e below (s₁.setTop (mkF m 3 #[.val (.int p1), .val (.long q2), .second, .unset, .unset, .unset, .unset, .unset, .unset, .unset, .unset, .unset, .unset, .unset, .unset, .unset, .unset, .unset] [(.int (65535 : Int32)), (.int p1)])) _
    refine XS.iand X0.here hx rfl (hb hby at_3) rfl ?_
    show Steps p.tables e below (s₁.setTop (mkF m 4 #[.val (.int p1), .val (.long q2), .second, .unset, .unset, .unset, .unset, .unset, .unset, .unset, .unset, .unset, .unset, .unset, .unset, .unset, .unset, .unset] [(.int (p1 &&& (65535 : Int32)))])) _
    refine XS.i2l X0.here hx rfl (hb hby at_4) rfl ?_
    show Steps p.tables e below (s₁.setTop (mkF m 5 #[.val (.int p1), .val (.long q2), .second, .unset, .unset, .unset, .unset, .unset, .unset, .unset, .unset, .unset, .unset, .unset, .unset, .unset, .unset, .unset] [(.long ((p1 &&& (65535 : Int32)).toInt64))])) _
    rw [← hx3_5 trivial]
    refine XS.lstoreN X0.here hx rfl (hb hby at_5) rfl (l' := #[.val (.int p1), .val (.long q2), .second, .val (.long x3_5), .second, .unset, .unset, .unset, .unset, .unset, .unset, .unset, .unset, .unset, .unset, .unset, .unset, .unset]) rfl ?_
    show Steps p.tables e below (s₁.setTop (mkF m 6 #[.val (.int p1), .val (.long q2), .second, .val (.long x3_5), .second, .unset, .unset, .unset, .unset, .unset, .unset, .unset, .unset, .unset, .unset, .unset, .unset, .unset] [])) _
    refine XS.lloadN X0.here hx rfl (hb hby at_6) rfl ?_
    show Steps p.tables e below (s₁.setTop (mkF m 7 #[.val (.int p1), .val (.long q2), .second, .val (.long x3_5), .second, .unset, .unset, .unset, .unset, .unset, .unset, .unset, .unset, .unset, .unset, .unset, .unset, .unset] [(.long x3_5)])) _
    refine XS.l2dS X0.here hx rfl (hb hby at_7) rfl rfl ?_
    show Steps p.tables e below (s₁.setTop (mkF m 8 #[.val (.int p1), .val (.long q2), .second, .val (.long x3_5), .second, .unset, .unset, .unset, .unset, .unset, .unset, .unset, .unset, .unset, .unset, .unset, .unset, .unset] [(.double (FP.l2d x3_5))])) _
    refine X0.ldc2DoubleC hx hown (mvT hZ (hw _ (List.mem_of_getElem? (i := 1) rfl))) (g := (mkF m 8 #[.val (.int p1), .val (.long q2), .second, .val (.long x3_5), .second, .unset, .unset, .unset, .unset, .unset, .unset, .unset, .unset, .unset, .unset, .unset, .unset, .unset] [(.double (FP.l2d x3_5))])) rfl (hb hby at_8) _ ?_
    show Steps p.tables e below (s₁.setTop (mkF m 11 #[.val (.int p1), .val (.long q2), .second, .val (.long x3_5), .second, .unset, .unset, .unset, .unset, .unset, .unset, .unset, .unset, .unset, .unset, .unset, .unset, .unset] [(.double (4535124824762089472 : UInt64)), (.double (FP.l2d x3_5))])) _
    refine XS.dmulS X0.here hx rfl (hb hby at_11) rfl hnn11 rfl ?_
    show Steps p.tables e below (s₁.setTop (mkF m 12 #[.val (.int p1), .val (.long q2), .second, .val (.long x3_5), .second, .unset, .unset, .unset, .unset, .unset, .unset, .unset, .unset, .unset, .unset, .unset, .unset, .unset] [(.double (FP.dmul (FP.l2d x3_5) (4535124824762089472 : UInt64)))])) _
    rw [← hx5_12 trivial]
    refine XS.dstore X0.here hx rfl (hb hby at_12) rfl (l' := #[.val (.int p1), .val (.long q2), .second, .val (.long x3_5), .second, .val (.double x5_12), .second, .unset, .unset, .unset, .unset, .unset, .unset, .unset, .unset, .unset, .unset, .unset]) rfl ?_
    show Steps p.tables e below (s₁.setTop (mkF m 14 #[.val (.int p1), .val (.long q2), .second, .val (.long x3_5), .second, .val (.double x5_12), .second, .unset, .unset, .unset, .unset, .unset, .unset, .unset, .unset, .unset, .unset, .unset] [])) _
    refine XS.dload X0.here hx rfl (hb hby at_14) rfl ?_
    show Steps p.tables e below (s₁.setTop (mkF m 16 #[.val (.int p1), .val (.long q2), .second, .val (.long x3_5), .second, .val (.double x5_12), .second, .unset, .unset, .unset, .unset, .unset, .unset, .unset, .unset, .unset, .unset, .unset] [(.double x5_12)])) _
    refine st3 _ ?_
    show Steps p.tables e below (T3.setTop (mkF m 19 #[.val (.int p1), .val (.long q2), .second, .val (.long x3_5), .second, .val (.double x5_12), .second, .unset, .unset, .unset, .unset, .unset, .unset, .unset, .unset, .unset, .unset, .unset] [(.double R1)])) _
    refine XS.dstore X3.here hx rfl (hb hby at_19) rfl (l' := #[.val (.int p1), .val (.long q2), .second, .val (.long x3_5), .second, .val (.double x5_12), .second, .val (.double R1), .second, .unset, .unset, .unset, .unset, .unset, .unset, .unset, .unset, .unset]) rfl ?_
    show Steps p.tables e below (T3.setTop (mkF m 21 #[.val (.int p1), .val (.long q2), .second, .val (.long x3_5), .second, .val (.double x5_12), .second, .val (.double R1), .second, .unset, .unset, .unset, .unset, .unset, .unset, .unset, .unset, .unset] [])) _
    refine XS.lloadN X3.here hx rfl (hb hby at_21) rfl ?_
    show Steps p.tables e below (T3.setTop (mkF m 22 #[.val (.int p1), .val (.long q2), .second, .val (.long x3_5), .second, .val (.double x5_12), .second, .val (.double R1), .second, .unset, .unset, .unset, .unset, .unset, .unset, .unset, .unset, .unset] [(.long x3_5)])) _
    refine X3.ldc2Long hx hown (mvT hZ (hw _ (List.mem_of_getElem? (i := 8) rfl))) (g := (mkF m 22 #[.val (.int p1), .val (.long q2), .second, .val (.long x3_5), .second, .val (.double x5_12), .second, .val (.double R1), .second, .unset, .unset, .unset, .unset, .unset, .unset, .unset, .unset, .unset] [(.long x3_5)])) rfl (hb hby at_22) _ ?_
    show Steps p.tables e below (T3.setTop (mkF m 25 #[.val (.int p1), .val (.long q2), .second, .val (.long x3_5), .second, .val (.double x5_12), .second, .val (.double R1), .second, .unset, .unset, .unset, .unset, .unset, .unset, .unset, .unset, .unset] [(.long (16384 : Int64)), (.long x3_5)])) _
    refine XS.lcmp X3.here hx rfl (hb hby at_25) rfl ?_
    show Steps p.tables e below (T3.setTop (mkF m 26 #[.val (.int p1), .val (.long q2), .second, .val (.long x3_5), .second, .val (.double x5_12), .second, .val (.double R1), .second, .unset, .unset, .unset, .unset, .unset, .unset, .unset, .unset, .unset] [(.int (lcmpW x3_5 (16384 : Int64)))])) _
    refine XS.ifYes X3.here hx rfl (pc0 := 26) (pc' := 71) rfl (hb hby at_26) rfl ((if0 _ _).trans (tlt hc26).2.2.1) (by decide) (by decide) ?_
    show Steps p.tables e below (T3.setTop (mkF m 71 #[.val (.int p1), .val (.long q2), .second, .val (.long x3_5), .second, .val (.double x5_12), .second, .val (.double R1), .second, .unset, .unset, .unset, .unset, .unset, .unset, .unset, .unset, .unset] [])) _
    refine XS.lloadN X3.here hx rfl (hb hby at_71) rfl ?_
    show Steps p.tables e below (T3.setTop (mkF m 72 #[.val (.int p1), .val (.long q2), .second, .val (.long x3_5), .second, .val (.double x5_12), .second, .val (.double R1), .second, .unset, .unset, .unset, .unset, .unset, .unset, .unset, .unset, .unset] [(.long x3_5)])) _
    refine X3.ldc2Long hx hown (mvT hZ (hw _ (List.mem_of_getElem? (i := 19) rfl))) (g := (mkF m 72 #[.val (.int p1), .val (.long q2), .second, .val (.long x3_5), .second, .val (.double x5_12), .second, .val (.double R1), .second, .unset, .unset, .unset, .unset, .unset, .unset, .unset, .unset, .unset] [(.long x3_5)])) rfl (hb hby at_72) _ ?_
    show Steps p.tables e below (T3.setTop (mkF m 75 #[.val (.int p1), .val (.long q2), .second, .val (.long x3_5), .second, .val (.double x5_12), .second, .val (.double R1), .second, .unset, .unset, .unset, .unset, .unset, .unset, .unset, .unset, .unset] [(.long (131072 : Int64)), (.long x3_5)])) _
    refine XS.lloadN X3.here hx rfl (hb hby at_75) rfl ?_
    show Steps p.tables e below (T3.setTop (mkF m 76 #[.val (.int p1), .val (.long q2), .second, .val (.long x3_5), .second, .val (.double x5_12), .second, .val (.double R1), .second, .unset, .unset, .unset, .unset, .unset, .unset, .unset, .unset, .unset] [(.long x3_5), (.long (131072 : Int64)), (.long x3_5)])) _
    refine XS.lsub X3.here hx rfl (hb hby at_76) rfl ?_
    show Steps p.tables e below (T3.setTop (mkF m 77 #[.val (.int p1), .val (.long q2), .second, .val (.long x3_5), .second, .val (.double x5_12), .second, .val (.double R1), .second, .unset, .unset, .unset, .unset, .unset, .unset, .unset, .unset, .unset] [(.long ((131072 : Int64) - x3_5)), (.long x3_5)])) _
    refine XS.lmul X3.here hx rfl (hb hby at_77) rfl ?_
    show Steps p.tables e below (T3.setTop (mkF m 78 #[.val (.int p1), .val (.long q2), .second, .val (.long x3_5), .second, .val (.double x5_12), .second, .val (.double R1), .second, .unset, .unset, .unset, .unset, .unset, .unset, .unset, .unset, .unset] [(.long (x3_5 * ((131072 : Int64) - x3_5)))])) _
    refine XS.l2dS X3.here hx rfl (hb hby at_78) rfl rfl ?_
    show Steps p.tables e below (T3.setTop (mkF m 79 #[.val (.int p1), .val (.long q2), .second, .val (.long x3_5), .second, .val (.double x5_12), .second, .val (.double R1), .second, .unset, .unset, .unset, .unset, .unset, .unset, .unset, .unset, .unset] [(.double (FP.l2d (x3_5 * ((131072 : Int64) - x3_5))))])) _
    refine X3.ldc2Long hx hown (mvT hZ (hw _ (List.mem_of_getElem? (i := 20) rfl))) (g := (mkF m 79 #[.val (.int p1), .val (.long q2), .second, .val (.long x3_5), .second, .val (.double x5_12), .second, .val (.double R1), .second, .unset, .unset, .unset, .unset, .unset, .unset, .unset, .unset, .unset] [(.double (FP.l2d (x3_5 * ((131072 : Int64) - x3_5))))])) rfl (hb hby at_79) _ ?_
    show Steps p.tables e below (T3.setTop (mkF m 82 #[.val (.int p1), .val (.long q2), .second, .val (.long x3_5), .second, .val (.double x5_12), .second, .val (.double R1), .second, .unset, .unset, .unset, .unset, .unset, .unset, .unset, .unset, .unset] [(.long (65536 : Int64)), (.double (FP.l2d (x3_5 * ((131072 : Int64) - x3_5))))])) _
    refine XS.lloadN X3.here hx rfl (hb hby at_82) rfl ?_
    show Steps p.tables e below (T3.setTop (mkF m 83 #[.val (.int p1), .val (.long q2), .second, .val (.long x3_5), .second, .val (.double x5_12), .second, .val (.double R1), .second, .unset, .unset, .unset, .unset, .unset, .unset, .unset, .unset, .unset] [(.long x3_5), (.long (65536 : Int64)), (.double (FP.l2d (x3_5 * ((131072 : Int64) - x3_5))))])) _
    refine XS.lsub X3.here hx rfl (hb hby at_83) rfl ?_
    show Steps p.tables e below (T3.setTop (mkF m 84 #[.val (.int p1), .val (.long q2), .second, .val (.long x3_5), .second, .val (.double x5_12), .second, .val (.double R1), .second, .unset, .unset, .unset, .unset, .unset, .unset, .unset, .unset, .unset] [(.long ((65536 : Int64) - x3_5)), (.double (FP.l2d (x3_5 * ((131072 : Int64) - x3_5))))])) _
    refine XS.bipush X3.here hx rfl (hb hby at_84) ?_
    show Steps p.tables e below (T3.setTop (mkF m 86 #[.val (.int p1), .val (.long q2), .second, .val (.long x3_5), .second, .val (.double x5_12), .second, .val (.double R1), .second, .unset, .unset, .unset, .unset, .unset, .unset, .unset, .unset, .unset] [(.int (17 : Int32)), (.long ((65536 : Int64) - x3_5)), (.double (FP.l2d (x3_5 * ((131072 : Int64) - x3_5))))])) _
    refine XS.lshl X3.here hx rfl (hb hby at_86) rfl ?_
    show Steps p.tables e below (T3.setTop (mkF m 87 #[.val (.int p1), .val (.long q2), .second, .val (.long x3_5), .second, .val (.double x5_12), .second, .val (.double R1), .second, .unset, .unset, .unset, .unset, .unset, .unset, .unset, .unset, .unset] [(.long (((65536 : Int64) - x3_5) <<< ((17 : Int32) &&& 0x3f).toInt64)), (.double (FP.l2d (x3_5 * ((131072 : Int64) - x3_5))))])) _
    refine XS.l2dS X3.here hx rfl (hb hby at_87) rfl rfl ?_
    show Steps p.tables e below (T3.setTop (mkF m 88 #[.val (.int p1), .val (.long q2), .second, .val (.long x3_5), .second, .val (.double x5_12), .second, .val (.double R1), .second, .unset, .unset, .unset, .unset, .unset, .unset, .unset, .unset, .unset] [(.double (FP.l2d (((65536 : Int64) - x3_5) <<< ((17 : Int32) &&& 0x3f).toInt64))), (.double (FP.l2d (x3_5 * ((131072 : Int64) - x3_5))))])) _
    refine XS.ddivS X3.here hx rfl (hb hby at_88) rfl hnn88 rfl ?_
    show Steps p.tables e below (T3.setTop (mkF m 89 #[.val (.int p1), .val (.long q2), .second, .val (.long x3_5), .second, .val (.double x5_12), .second, .val (.double R1), .second, .unset, .unset, .unset, .unset, .unset, .unset, .unset, .unset, .unset] [(.double (FP.ddiv (FP.l2d (x3_5 * ((131072 : Int64) - x3_5))) (FP.l2d (((65536 : Int64) - x3_5) <<< ((17 : Int32) &&& 0x3f).toInt64))))])) _
    rw [← hx10_89 trivial]
    refine XS.dstore X3.here hx rfl (hb hby at_89) rfl (l' := #[.val (.int p1), .val (.long q2), .second, .val (.long x3_5), .second, .val (.double x5_12), .second, .val (.double R1), .second, .unset, .val (.double x10_89), .second, .unset, .unset, .unset, .unset, .unset, .unset]) rfl ?_
    show Steps p.tables e below (T3.setTop (mkF m 91 #[.val (.int p1), .val (.long q2), .second, .val (.long x3_5), .second, .val (.double x5_12), .second, .val (.double R1), .second, .unset, .val (.double x10_89), .second, .unset, .unset, .unset, .unset, .unset, .unset] [])) _
    refine XS.dload X3.here hx rfl (hb hby at_91) rfl ?_
    show Steps p.tables e below (T3.setTop (mkF m 93 #[.val (.int p1), .val (.long q2), .second, .val (.long x3_5), .second, .val (.double x5_12), .second, .val (.double R1), .second, .unset, .val (.double x10_89), .second, .unset, .unset, .unset, .unset, .unset, .unset] [(.double R1)])) _
    refine XS.dload X3.here hx rfl (hb hby at_93) rfl ?_
    show Steps p.tables e below (T3.setTop (mkF m 95 #[.val (.int p1), .val (.long q2), .second, .val (.long x3_5), .second, .val (.double x5_12), .second, .val (.double R1), .second, .unset, .val (.double x10_89), .second, .unset, .unset, .unset, .unset, .unset, .unset] [(.double x10_89), (.double R1)])) _
    refine st4 _ ?_
    show Steps p.tables e below (T4.setTop (mkF m 98 #[.val (.int p1), .val (.long q2), .second, .val (.long x3_5), .second, .val (.double x5_12), .second, .val (.double R1), .second, .unset, .val (.double x10_89), .second, .unset, .unset, .unset, .unset, .unset, .unset] [(.int (1 : Int32))])) _
    refine XS.istore X4.here hx rfl (hb hby at_98) rfl (l' := #[.val (.int p1), .val (.long q2), .second, .val (.long x3_5), .second, .val (.double x5_12), .second, .val (.double R1), .second, .val (.int (1 : Int32)), .val (.double x10_89), .second, .unset, .unset, .unset, .unset, .unset, .unset]) rfl ?_
    show Steps p.tables e below (T4.setTop (mkF m 100 #[.val (.int p1), .val (.long q2), .second, .val (.long x3_5), .second, .val (.double x5_12), .second, .val (.double R1), .second, .val (.int (1 : Int32)), .val (.double x10_89), .second, .unset, .unset, .unset, .unset, .unset, .unset] [])) _
    refine XS.lloadN X4.here hx rfl (hb hby at_100) rfl ?_
    show Steps p.tables e below (T4.setTop (mkF m 101 #[.val (.int p1), .val (.long q2), .second, .val (.long x3_5), .second, .val (.double x5_12), .second, .val (.double R1), .second, .val (.int (1 : Int32)), .val (.double x10_89), .second, .unset, .unset, .unset, .unset, .unset, .unset] [(.long q2)])) _
    refine XS.bipush X4.here hx rfl (hb hby at_101) ?_
    show Steps p.tables e below (T4.setTop (mkF m 103 #[.val (.int p1), .val (.long q2), .second, .val (.long x3_5), .second, .val (.double x5_12), .second, .val (.double R1), .second, .val (.int (1 : Int32)), .val (.double x10_89), .second, .unset, .unset, .unset, .unset, .unset, .unset] [(.int (11 : Int32)), (.long q2)])) _
    refine XS.lushr X4.here hx rfl (hb hby at_103) rfl ?_
    show Steps p.tables e below (T4.setTop (mkF m 104 #[.val (.int p1), .val (.long q2), .second, .val (.long x3_5), .second, .val (.double x5_12), .second, .val (.double R1), .second, .val (.int (1 : Int32)), .val (.double x10_89), .second, .unset, .unset, .unset, .unset, .unset, .unset] [(.long ((q2.toUInt64 >>> ((11 : Int32) &&& 0x3f).toInt64.toUInt64).toInt64))])) _
    rw [← hx10_104 trivial]
    refine XS.lstore X4.here hx rfl (hb hby at_104) rfl (l' := #[.val (.int p1), .val (.long q2), .second, .val (.long x3_5), .second, .val (.double x5_12), .second, .val (.double R1), .second, .val (.int (1 : Int32)), .val (.long x10_104), .second, .unset, .unset, .unset, .unset, .unset, .unset]) rfl ?_
    show Steps p.tables e below (T4.setTop (mkF m 106 #[.val (.int p1), .val (.long q2), .second, .val (.long x3_5), .second, .val (.double x5_12), .second, .val (.double R1), .second, .val (.int (1 : Int32)), .val (.long x10_104), .second, .unset, .unset, .unset, .unset, .unset, .unset] [])) _
    refine XS.lload X4.here hx rfl (hb hby at_106) rfl ?_
    show Steps p.tables e below (T4.setTop (mkF m 108 #[.val (.int p1), .val (.long q2), .second, .val (.long x3_5), .second, .val (.double x5_12), .second, .val (.double R1), .second, .val (.int (1 : Int32)), .val (.long x10_104), .second, .unset, .unset, .unset, .unset, .unset, .unset] [(.long x10_104)])) _
    refine XS.l2dS X4.here hx rfl (hb hby at_108) rfl rfl ?_
    show Steps p.tables e below (T4.setTop (mkF m 109 #[.val (.int p1), .val (.long q2), .second, .val (.long x3_5), .second, .val (.double x5_12), .second, .val (.double R1), .second, .val (.int (1 : Int32)), .val (.long x10_104), .second, .unset, .unset, .unset, .unset, .unset, .unset] [(.double (FP.l2d x10_104))])) _
    refine X4.ldc2DoubleC hx hown (mvT hZ (hw _ (List.mem_of_getElem? (i := 10) rfl))) (g := (mkF m 109 #[.val (.int p1), .val (.long q2), .second, .val (.long x3_5), .second, .val (.double x5_12), .second, .val (.double R1), .second, .val (.int (1 : Int32)), .val (.long x10_104), .second, .unset, .unset, .unset, .unset, .unset, .unset] [(.double (FP.l2d x10_104))])) rfl (hb hby at_109) _ ?_
    show Steps p.tables e below (T4.setTop (mkF m 112 #[.val (.int p1), .val (.long q2), .second, .val (.long x3_5), .second, .val (.double x5_12), .second, .val (.double R1), .second, .val (.int (1 : Int32)), .val (.long x10_104), .second, .unset, .unset, .unset, .unset, .unset, .unset] [(.double (4368491638549381120 : UInt64)), (.double (FP.l2d x10_104))])) _
    refine XS.dmulS X4.here hx rfl (hb hby at_112) rfl hnn112 rfl ?_
    show Steps p.tables e below (T4.setTop (mkF m 113 #[.val (.int p1), .val (.long q2), .second, .val (.long x3_5), .second, .val (.double x5_12), .second, .val (.double R1), .second, .val (.int (1 : Int32)), .val (.long x10_104), .second, .unset, .unset, .unset, .unset, .unset, .unset] [(.double (FP.dmul (FP.l2d x10_104) (4368491638549381120 : UInt64)))])) _
    rw [← hx12_113 trivial]
    refine XS.dstore X4.here hx rfl (hb hby at_113) rfl (l' := #[.val (.int p1), .val (.long q2), .second, .val (.long x3_5), .second, .val (.double x5_12), .second, .val (.double R1), .second, .val (.int (1 : Int32)), .val (.long x10_104), .second, .val (.double x12_113), .second, .unset, .unset, .unset, .unset]) rfl ?_
    show Steps p.tables e below (T4.setTop (mkF m 115 #[.val (.int p1), .val (.long q2), .second, .val (.long x3_5), .second, .val (.double x5_12), .second, .val (.double R1), .second, .val (.int (1 : Int32)), .val (.long x10_104), .second, .val (.double x12_113), .second, .unset, .unset, .unset, .unset] [])) _
    refine XS.dload X4.here hx rfl (hb hby at_115) rfl ?_
    show Steps p.tables e below (T4.setTop (mkF m 117 #[.val (.int p1), .val (.long q2), .second, .val (.long x3_5), .second, .val (.double x5_12), .second, .val (.double R1), .second, .val (.int (1 : Int32)), .val (.long x10_104), .second, .val (.double x12_113), .second, .unset, .unset, .unset, .unset] [(.double x12_113)])) _
    refine st5 _ ?_
    show Steps p.tables e below (T5.setTop (mkF m 120 #[.val (.int p1), .val (.long q2), .second, .val (.long x3_5), .second, .val (.double x5_12), .second, .val (.double R1), .second, .val (.int (1 : Int32)), .val (.long x10_104), .second, .val (.double x12_113), .second, .unset, .unset, .unset, .unset] [(.double R2)])) _
    refine XS.dstore X5.here hx rfl (hb hby at_120) rfl (l' := #[.val (.int p1), .val (.long q2), .second, .val (.long x3_5), .second, .val (.double x5_12), .second, .val (.double R1), .second, .val (.int (1 : Int32)), .val (.long x10_104), .second, .val (.double x12_113), .second, .val (.double R2), .second, .unset, .unset]) rfl ?_
    show Steps p.tables e below (T5.setTop (mkF m 122 #[.val (.int p1), .val (.long q2), .second, .val (.long x3_5), .second, .val (.double x5_12), .second, .val (.double R1), .second, .val (.int (1 : Int32)), .val (.long x10_104), .second, .val (.double x12_113), .second, .val (.double R2), .second, .unset, .unset] [])) _
    refine XS.lload X5.here hx rfl (hb hby at_122) rfl ?_
    show Steps p.tables e below (T5.setTop (mkF m 124 #[.val (.int p1), .val (.long q2), .second, .val (.long x3_5), .second, .val (.double x5_12), .second, .val (.double R1), .second, .val (.int (1 : Int32)), .val (.long x10_104), .second, .val (.double x12_113), .second, .val (.double R2), .second, .unset, .unset] [(.long x10_104)])) _
    refine X5.ldc2Long hx hown (mvT hZ (hw _ (List.mem_of_getElem? (i := 11) rfl))) (g := (mkF m 124 #[.val (.int p1), .val (.long q2), .second, .val (.long x3_5), .second, .val (.double x5_12), .second, .val (.double R1), .second, .val (.int (1 : Int32)), .val (.long x10_104), .second, .val (.double x12_113), .second, .val (.double R2), .second, .unset, .unset] [(.long x10_104)])) rfl (hb hby at_124) _ ?_
    show Steps p.tables e below (T5.setTop (mkF m 127 #[.val (.int p1), .val (.long q2), .second, .val (.long x3_5), .second, .val (.double x5_12), .second, .val (.double R1), .second, .val (.int (1 : Int32)), .val (.long x10_104), .second, .val (.double x12_113), .second, .val (.double R2), .second, .unset, .unset] [(.long (2251799813685248 : Int64)), (.long x10_104)])) _
    refine XS.lcmp X5.here hx rfl (hb hby at_127) rfl ?_
    show Steps p.tables e below (T5.setTop (mkF m 128 #[.val (.int p1), .val (.long q2), .second, .val (.long x3_5), .second, .val (.double x5_12), .second, .val (.double R1), .second, .val (.int (1 : Int32)), .val (.long x10_104), .second, .val (.double x12_113), .second, .val (.double R2), .second, .unset, .unset] [(.int (lcmpW x10_104 (2251799813685248 : Int64)))])) _
    refine XS.ifNo X5.here hx rfl (hb hby at_128) rfl ((if0 _ _).trans (flt hc128).2.2.1) ?_
    show Steps p.tables e below (T5.setTop (mkF m 131 #[.val (.int p1), .val (.long q2), .second, .val (.long x3_5), .second, .val (.double x5_12), .second, .val (.double R1), .second, .val (.int (1 : Int32)), .val (.long x10_104), .second, .val (.double x12_113), .second, .val (.double R2), .second, .unset, .unset] [])) _
    refine XS.dload X5.here hx rfl (hb hby at_131) rfl ?_
    show Steps p.tables e below (T5.setTop (mkF m 133 #[.val (.int p1), .val (.long q2), .second, .val (.long x3_5), .second, .val (.double x5_12), .second, .val (.double R1), .second, .val (.int (1 : Int32)), .val (.long x10_104), .second, .val (.double x12_113), .second, .val (.double R2), .second, .unset, .unset] [(.double x12_113)])) _
    refine X5.ldc2DoubleC hx hown (mvT hZ (hw _ (List.mem_of_getElem? (i := 12) rfl))) (g := (mkF m 133 #[.val (.int p1), .val (.long q2), .second, .val (.long x3_5), .second, .val (.double x5_12), .second, .val (.double R1), .second, .val (.int (1 : Int32)), .val (.long x10_104), .second, .val (.double x12_113), .second, .val (.double R2), .second, .unset, .unset] [(.double x12_113)])) rfl (hb hby at_133) _ ?_
    show Steps p.tables e below (T5.setTop (mkF m 136 #[.val (.int p1), .val (.long q2), .second, .val (.long x3_5), .second, .val (.double x5_12), .second, .val (.double R1), .second, .val (.int (1 : Int32)), .val (.long x10_104), .second, .val (.double x12_113), .second, .val (.double R2), .second, .unset, .unset] [(.double (4602678819172646912 : UInt64)), (.double x12_113)])) _
    refine XS.dload X5.here hx rfl (hb hby at_136) rfl ?_
    show Steps p.tables e below (T5.setTop (mkF m 138 #[.val (.int p1), .val (.long q2), .second, .val (.long x3_5), .second, .val (.double x5_12), .second, .val (.double R1), .second, .val (.int (1 : Int32)), .val (.long x10_104), .second, .val (.double x12_113), .second, .val (.double R2), .second, .unset, .unset] [(.double x12_113), (.double (4602678819172646912 : UInt64)), (.double x12_113)])) _
    refine XS.dmulS X5.here hx rfl (hb hby at_138) rfl hnn138 rfl ?_
    show Steps p.tables e below (T5.setTop (mkF m 139 #[.val (.int p1), .val (.long q2), .second, .val (.long x3_5), .second, .val (.double x5_12), .second, .val (.double R1), .second, .val (.int (1 : Int32)), .val (.long x10_104), .second, .val (.double x12_113), .second, .val (.double R2), .second, .unset, .unset] [(.double (FP.dmul (4602678819172646912 : UInt64) x12_113)), (.double x12_113)])) _
    refine XS.dload X5.here hx rfl (hb hby at_139) rfl ?_
    show Steps p.tables e below (T5.setTop (mkF m 141 #[.val (.int p1), .val (.long q2), .second, .val (.long x3_5), .second, .val (.double x5_12), .second, .val (.double R1), .second, .val (.int (1 : Int32)), .val (.long x10_104), .second, .val (.double x12_113), .second, .val (.double R2), .second, .unset, .unset] [(.double x12_113), (.double (FP.dmul (4602678819172646912 : UInt64) x12_113)), (.double x12_113)])) _
    refine XS.dmulS X5.here hx rfl (hb hby at_141) rfl hnn141 rfl ?_
    show Steps p.tables e below (T5.setTop (mkF m 142 #[.val (.int p1), .val (.long q2), .second, .val (.long x3_5), .second, .val (.double x5_12), .second, .val (.double R1), .second, .val (.int (1 : Int32)), .val (.long x10_104), .second, .val (.double x12_113), .second, .val (.double R2), .second, .unset, .unset] [(.double (FP.dmul (FP.dmul (4602678819172646912 : UInt64) x12_113) x12_113)), (.double x12_113)])) _
    refine XS.daddS X5.here hx rfl (hb hby at_142) rfl hnn142 rfl ?_
    show Steps p.tables e below (T5.setTop (mkF m 143 #[.val (.int p1), .val (.long q2), .second, .val (.long x3_5), .second, .val (.double x5_12), .second, .val (.double R1), .second, .val (.int (1 : Int32)), .val (.long x10_104), .second, .val (.double x12_113), .second, .val (.double R2), .second, .unset, .unset] [(.double (FP.dadd x12_113 (FP.dmul (FP.dmul (4602678819172646912 : UInt64) x12_113) x12_113)))])) _
    refine X5.ldc2DoubleC hx hown (mvT hZ (hw _ (List.mem_of_getElem? (i := 12) rfl))) (g := (mkF m 143 #[.val (.int p1), .val (.long q2), .second, .val (.long x3_5), .second, .val (.double x5_12), .second, .val (.double R1), .second, .val (.int (1 : Int32)), .val (.long x10_104), .second, .val (.double x12_113), .second, .val (.double R2), .second, .unset, .unset] [(.double (FP.dadd x12_113 (FP.dmul (FP.dmul (4602678819172646912 : UInt64) x12_113) x12_113)))])) rfl (hb hby at_143) _ ?_
    show Steps p.tables e below (T5.setTop (mkF m 146 #[.val (.int p1), .val (.long q2), .second, .val (.long x3_5), .second, .val (.double x5_12), .second, .val (.double R1), .second, .val (.int (1 : Int32)), .val (.long x10_104), .second, .val (.double x12_113), .second, .val (.double R2), .second, .unset, .unset] [(.double (4602678819172646912 : UInt64)), (.double (FP.dadd x12_113 (FP.dmul (FP.dmul (4602678819172646912 : UInt64) x12_113) x12_113)))])) _
    refine XS.dload X5.here hx rfl (hb hby at_146) rfl ?_
    show Steps p.tables e below (T5.setTop (mkF m 148 #[.val (.int p1), .val (.long q2), .second, .val (.long x3_5), .second, .val (.double x5_12), .second, .val (.double R1), .second, .val (.int (1 : Int32)), .val (.long x10_104), .second, .val (.double x12_113), .second, .val (.double R2), .second, .unset, .unset] [(.double x12_113), (.double (4602678819172646912 : UInt64)), (.double (FP.dadd x12_113 (FP.dmul (FP.dmul (4602678819172646912 : UInt64) x12_113) x12_113)))])) _
    refine XS.dmulS X5.here hx rfl (hb hby at_148) rfl hnn148 rfl ?_
    show Steps p.tables e below (T5.setTop (mkF m 149 #[.val (.int p1), .val (.long q2), .second, .val (.long x3_5), .second, .val (.double x5_12), .second, .val (.double R1), .second, .val (.int (1 : Int32)), .val (.long x10_104), .second, .val (.double x12_113), .second, .val (.double R2), .second, .unset, .unset] [(.double (FP.dmul (4602678819172646912 : UInt64) x12_113)), (.double (FP.dadd x12_113 (FP.dmul (FP.dmul (4602678819172646912 : UInt64) x12_113) x12_113)))])) _
    refine XS.dload X5.here hx rfl (hb hby at_149) rfl ?_
    show Steps p.tables e below (T5.setTop (mkF m 151 #[.val (.int p1), .val (.long q2), .second, .val (.long x3_5), .second, .val (.double x5_12), .second, .val (.double R1), .second, .val (.int (1 : Int32)), .val (.long x10_104), .second, .val (.double x12_113), .second, .val (.double R2), .second, .unset, .unset] [(.double x12_113), (.double (FP.dmul (4602678819172646912 : UInt64) x12_113)), (.double (FP.dadd x12_113 (FP.dmul (FP.dmul (4602678819172646912 : UInt64) x12_113) x12_113)))])) _
    refine XS.dmulS X5.here hx rfl (hb hby at_151) rfl hnn151 rfl ?_
    show Steps p.tables e below (T5.setTop (mkF m 152 #[.val (.int p1), .val (.long q2), .second, .val (.long x3_5), .second, .val (.double x5_12), .second, .val (.double R1), .second, .val (.int (1 : Int32)), .val (.long x10_104), .second, .val (.double x12_113), .second, .val (.double R2), .second, .unset, .unset] [(.double (FP.dmul (FP.dmul (4602678819172646912 : UInt64) x12_113) x12_113)), (.double (FP.dadd x12_113 (FP.dmul (FP.dmul (4602678819172646912 : UInt64) x12_113) x12_113)))])) _
    refine XS.dload X5.here hx rfl (hb hby at_152) rfl ?_
    show Steps p.tables e below (T5.setTop (mkF m 154 #[.val (.int p1), .val (.long q2), .second, .val (.long x3_5), .second, .val (.double x5_12), .second, .val (.double R1), .second, .val (.int (1 : Int32)), .val (.long x10_104), .second, .val (.double x12_113), .second, .val (.double R2), .second, .unset, .unset] [(.double x12_113), (.double (FP.dmul (FP.dmul (4602678819172646912 : UInt64) x12_113) x12_113)), (.double (FP.dadd x12_113 (FP.dmul (FP.dmul (4602678819172646912 : UInt64) x12_113) x12_113)))])) _
    refine XS.dmulS X5.here hx rfl (hb hby at_154) rfl hnn154 rfl ?_
    show Steps p.tables e below (T5.setTop (mkF m 155 #[.val (.int p1), .val (.long q2), .second, .val (.long x3_5), .second, .val (.double x5_12), .second, .val (.double R1), .second, .val (.int (1 : Int32)), .val (.long x10_104), .second, .val (.double x12_113), .second, .val (.double R2), .second, .unset, .unset] [(.double (FP.dmul (FP.dmul (FP.dmul (4602678819172646912 : UInt64) x12_113) x12_113) x12_113)), (.double (FP.dadd x12_113 (FP.dmul (FP.dmul (4602678819172646912 : UInt64) x12_113) x12_113)))])) _
    refine XS.daddS X5.here hx rfl (hb hby at_155) rfl hnn155 rfl ?_
    show Steps p.tables e below (T5.setTop (mkF m 156 #[.val (.int p1), .val (.long q2), .second, .val (.long x3_5), .second, .val (.double x5_12), .second, .val (.double R1), .second, .val (.int (1 : Int32)), .val (.long x10_104), .second, .val (.double x12_113), .second, .val (.double R2), .second, .unset, .unset] [(.double (FP.dadd (FP.dadd x12_113 (FP.dmul (FP.dmul (4602678819172646912 : UInt64) x12_113) x12_113)) (FP.dmul (FP.dmul (FP.dmul (4602678819172646912 : UInt64) x12_113) x12_113) x12_113)))])) _
    rw [← hx16_156 trivial]
    refine XS.dstore X5.here hx rfl (hb hby at_156) rfl (l' := #[.val (.int p1), .val (.long q2), .second, .val (.long x3_5), .second, .val (.double x5_12), .second, .val (.double R1), .second, .val (.int (1 : Int32)), .val (.long x10_104), .second, .val (.double x12_113), .second, .val (.double R2), .second, .val (.double x16_156), .second]) rfl ?_
    show Steps p.tables e below (T5.setTop (mkF m 158 #[.val (.int p1), .val (.long q2), .second, .val (.long x3_5), .second, .val (.double x5_12), .second, .val (.double R1), .second, .val (.int (1 : Int32)), .val (.long x10_104), .second, .val (.double x12_113), .second, .val (.double R2), .second, .val (.double x16_156), .second] [])) _
    refine XS.goto X5.here hx rfl (pc0 := 158) (pc' := 181) rfl (hb hby at_158) (by decide) (by decide) ?_
    show Steps p.tables e below (T5.setTop (mkF m 181 #[.val (.int p1), .val (.long q2), .second, .val (.long x3_5), .second, .val (.double x5_12), .second, .val (.double R1), .second, .val (.int (1 : Int32)), .val (.long x10_104), .second, .val (.double x12_113), .second, .val (.double R2), .second, .val (.double x16_156), .second] [])) _
    refine XS.iload X5.here hx rfl (hb hby at_181) rfl ?_
    show Steps p.tables e below (T5.setTop (mkF m 183 #[.val (.int p1), .val (.long q2), .second, .val (.long x3_5), .second, .val (.double x5_12), .second, .val (.double R1), .second, .val (.int (1 : Int32)), .val (.long x10_104), .second, .val (.double x12_113), .second, .val (.double R2), .second, .val (.double x16_156), .second] [(.int (1 : Int32))])) _
    refine XS.ifNo X5.here hx rfl (hb hby at_183) rfl ((if0 _ _).trans (feq (by decide : ¬ ((1 : Int32) = (0 : Int32)))).1) ?_
    show Steps p.tables e below (T5.setTop (mkF m 186 #[.val (.int p1), .val (.long q2), .second, .val (.long x3_5), .second, .val (.double x5_12), .second, .val (.double R1), .second, .val (.int (1 : Int32)), .val (.long x10_104), .second, .val (.double x12_113), .second, .val (.double R2), .second, .val (.double x16_156), .second] [])) _
    refine XS.dload X5.here hx rfl (hb hby at_186) rfl ?_
    show Steps p.tables e below (T5.setTop (mkF m 188 #[.val (.int p1), .val (.long q2), .second, .val (.long x3_5), .second, .val (.double x5_12), .second, .val (.double R1), .second, .val (.int (1 : Int32)), .val (.long x10_104), .second, .val (.double x12_113), .second, .val (.double R2), .second, .val (.double x16_156), .second] [(.double R2)])) _
    refine XS.dload X5.here hx rfl (hb hby at_188) rfl ?_
    show Steps p.tables e below (T5.setTop (mkF m 190 #[.val (.int p1), .val (.long q2), .second, .val (.long x3_5), .second, .val (.double x5_12), .second, .val (.double R1), .second, .val (.int (1 : Int32)), .val (.long x10_104), .second, .val (.double x12_113), .second, .val (.double R2), .second, .val (.double x16_156), .second] [(.double x16_156), (.double R2)])) _
    refine st6 _ ?_
    show Steps p.tables e below (T6.setTop (mkF m 193 #[.val (.int p1), .val (.long q2), .second, .val (.long x3_5), .second, .val (.double x5_12), .second, .val (.double R1), .second, .val (.int (1 : Int32)), .val (.long x10_104), .second, .val (.double x12_113), .second, .val (.double R2), .second, .val (.double x16_156), .second] [(.int (1 : Int32))])) _
    refine XS.ifNo X6.here hx rfl (hb hby at_193) rfl ((if0 _ _).trans (feq (by decide : ¬ ((1 : Int32) = (0 : Int32)))).1) ?_
    show Steps p.tables e below (T6.setTop (mkF m 196 #[.val (.int p1), .val (.long q2), .second, .val (.long x3_5), .second, .val (.double x5_12), .second, .val (.double R1), .second, .val (.int (1 : Int32)), .val (.long x10_104), .second, .val (.double x12_113), .second, .val (.double R2), .second, .val (.double x16_156), .second] [])) _
    refine XS.iconst X6.here hx rfl (hb hby at_196) ?_
    show Steps p.tables e below (T6.setTop (mkF m 197 #[.val (.int p1), .val (.long q2), .second, .val (.long x3_5), .second, .val (.double x5_12), .second, .val (.double R1), .second, .val (.int (1 : Int32)), .val (.long x10_104), .second, .val (.double x12_113), .second, .val (.double R2), .second, .val (.double x16_156), .second] [(.int (1 : Int32))])) _
    refine XS.goto X6.here hx rfl (pc0 := 197) (pc' := 201) rfl (hb hby at_197) (by decide) (by decide) ?_
    show Steps p.tables e below (T6.setTop (mkF m 201 #[.val (.int p1), .val (.long q2), .second, .val (.long x3_5), .second, .val (.double x5_12), .second, .val (.double R1), .second, .val (.int (1 : Int32)), .val (.long x10_104), .second, .val (.double x12_113), .second, .val (.double R2), .second, .val (.double x16_156), .second] [(.int (1 : Int32))])) _
    exact retN X6 hx (t := .boolean) Bd.returns (by simp) (hb hby at_201) hr
  · show Q0 h0 n0 _ T6.heap _
    exact ⟨rfl, N6⟩
set_option maxRecDepth 65536 in
set_option maxHeartbeats 40000000 in
theorem rm0_ll (l : Launch) (Z : State) (a0 : Array Value) (hw : ∀ d ∈ tables_1, d.before a0 Z = true) (ws : List Jvm.Cond) (p1 : Int32) (q2 : Int64) (x3_5 : Int64) (x5_12 : UInt64) (x10_89 : UInt64) (x10_104 : Int64) (x12_113 : UInt64) (x16_179 : UInt64) (R1 R2 : UInt64) (h0 : Heap) (n0 : Nat) (Z0 : n0 ≤ h0.size) (hx3_5 : True → x3_5 = ((p1 &&& (65535 : Int32)).toInt64)) (hnn11 : Jvm.Free.Fl.NoNaN64 (FP.dmul (FP.l2d x3_5) (4535124824762089472 : UInt64))) (hx5_12 : True → x5_12 = (FP.dmul (FP.l2d x3_5) (4535124824762089472 : UInt64))) (hc26 : (0 : Int32) < (lcmpW x3_5 (16384 : Int64))) (hnn88 : Jvm.Free.Fl.NoNaN64 (FP.ddiv (FP.l2d (x3_5 * ((131072 : Int64) - x3_5))) (FP.l2d (((65536 : Int64) - x3_5) <<< ((17 : Int32) &&& 0x3f).toInt64)))) (hx10_89 : True → x10_89 = (FP.ddiv (FP.l2d (x3_5 * ((131072 : Int64) - x3_5))) (FP.l2d (((65536 : Int64) - x3_5) <<< ((17 : Int32) &&& 0x3f).toInt64)))) (hx10_104 : True → x10_104 = ((q2.toUInt64 >>> ((11 : Int32) &&& 0x3f).toInt64.toUInt64).toInt64)) (hnn112 : Jvm.Free.Fl.NoNaN64 (FP.dmul (FP.l2d x10_104) (4368491638549381120 : UInt64))) (hx12_113 : True → x12_113 = (FP.dmul (FP.l2d x10_104) (4368491638549381120 : UInt64))) (hc128 : (0 : Int32) < (lcmpW x10_104 (2251799813685248 : Int64))) (hnn168 : Jvm.Free.Fl.NoNaN64 (FP.dsub (4611686018427387904 : UInt64) x12_113)) (hnn169 : Jvm.Free.Fl.NoNaN64 (FP.dmul x12_113 (FP.dsub (4611686018427387904 : UInt64) x12_113))) (hnn176 : Jvm.Free.Fl.NoNaN64 (FP.dsub FP.dconst1 x12_113)) (hnn177 : Jvm.Free.Fl.NoNaN64 (FP.dmul (4611686018427387904 : UInt64) (FP.dsub FP.dconst1 x12_113))) (hnn178 : Jvm.Free.Fl.NoNaN64 (FP.ddiv (FP.dmul x12_113 (FP.dsub (4611686018427387904 : UInt64) x12_113)) (FP.dmul (4611686018427387904 : UInt64) (FP.dsub FP.dconst1 x12_113)))) (hx16_179 : True → x16_179 = (FP.ddiv (FP.dmul x12_113 (FP.dsub (4611686018427387904 : UInt64) x12_113)) (FP.dmul (4611686018427387904 : UInt64) (FP.dsub FP.dconst1 x12_113)))) (hL1 : LA x5_12 R1) (hL2 : LA x12_113 R2) (hC2 : CL R2 x16_179) (hC1 : CL R1 x10_89) :
    MetFree l x (head1 (Jvm.Cond.code x code maxLocals ret :: ws) room_1) (fun a U => a = #[(.int p1), (.long q2)] ∧ Z.Warmed39 U.vm ∧ U.heap = h0) (fun _ _ _ _ _ => True) (fun _ U o U' => ∃ v L, o = .returned v ∧ Q0 h0 n0 v U'.heap L ∧ FrameEnd U o U' L room_1.cells room_1.slots) := by
  refine MetFree.of_bodySF (plainFor_of_name pn_0) hisR ?_
  intro p e s m args below meth c s₁ Bd hml0 hP hK
  obtain ⟨rfl, hZ, hh⟩ := hP
  have hx := Bd.exec
  have hby := Bd.bytes
  have hml : c.maxLocals = 18 := hml0
  have hown : s.vm.findClass "com/example/level_ring/levelring/placement/MembersLogAtMostPinLaw" = some m.cls := findClass_of_methodNamed Bd.named
  have hnm := (name_of_methodNamed Bd.named Bd.method).1
  have X0 : Stand p l e room_1 s m #[(.int p1), (.long q2)] below meth c s₁ [] 0 0 := Stand.of_body Bd
  have e0 : s₁.heap = h0 := by rw [← hh, Bd.state]; rfl
  have N0 := Fr.nil n0
  have pre0 : ∀ t, Steps p.tables e below (s₁.setTop (mkF m 0 #[.val (.int p1), .val (.long q2), .second, .unset, .unset, .unset, .unset, .unset, .unset, .unset, .unset, .unset, .unset, .unset, .unset, .unset, .unset, .unset] [])) t → Steps p.tables e below (s₁.setTop (entryFrame m #[(.int p1), (.long q2)] maxLocals)) t := fun t k => castTop (ef_0 m p1 q2) k
  -- 3. LAWS
  -- pc 16: com/example/level_ring/levelring/placement/Members.logAtMost by its contract rm1
  obtain ⟨_, _, ⟨T3, L3, k3, n3⟩, -, X3, ⟨Lc3, hQ3, l3, y3, z3⟩, st3⟩ := Jvm.LawKit.callS X0 hx (y := (⟨"com/example/level_ring/levelring/placement/Members", "logAtMost", "(D)D"⟩ : MethodName)) hown (mvT hZ (hw _ (List.mem_of_getElem? (i := 2) rfl))) (mvT hZ (hw _ (List.mem_of_getElem? (i := 3) rfl))) (mvT hZ (hw _ (List.mem_of_getElem? (i := 4) rfl))) (mvT hZ (hw _ (List.mem_of_getElem? (i := 5) rfl))) (by decide) (backOf (W := 0) (rm1 l Z a0 hw [] x5_12 R1 h0 n0 Z0 hL1) hZ (hw _ (List.mem_of_getElem? (i := 5) rfl)) (hw _ (List.mem_of_getElem? (i := 4) rfl)) (by decide) (by decide)) (g := (mkF m 16 #[.val (.int p1), .val (.long q2), .second, .val (.long x3_5), .second, .val (.double x5_12), .second, .unset, .unset, .unset, .unset, .unset, .unset, .unset, .unset, .unset, .unset, .unset] [(.double x5_12)])) rfl (by rw [hml]; rfl) (argsL := [(.double x5_12)]) (rest := []) (lenOf pdw_0 rfl) rfl (by show 2 * 0 + _ ≤ _; exact Nat.le_of_eq rfl) (hb hby at_16) (fun _ _ => ⟨rfl, e0, (by decide : 0 + 0 ≤ _), (by decide : 0 + 0 ≤ _)⟩)
  dsimp only [Pt.U, Pt.locs, Pt.cells, Pt.slots] at X3 l3 y3 z3 st3 hQ3
  subst l3 y3 z3
  obtain ⟨rfl, N3q, hh3⟩ := hQ3
  have N3 := Fr.app N0 N3q
  -- pc 95: com/example/level_ring/levelring/placement/MembersLogAtMostPinLaw.close by its contract rm2
  obtain ⟨_, _, ⟨T4, L4, k4, n4⟩, -, X4, ⟨Lc4, hQ4, l4, y4, z4⟩, st4⟩ := Jvm.LawKit.callS X3 hx (y := (⟨"com/example/level_ring/levelring/placement/MembersLogAtMostPinLaw", "close", "(DD)Z"⟩ : MethodName)) hown (mvT hZ (hw _ (List.mem_of_getElem? (i := 13) rfl))) (mvT hZ (hw _ (List.mem_of_getElem? (i := 14) rfl))) (mvT hZ (hw _ (List.mem_of_getElem? (i := 15) rfl))) (mvT hZ (hw _ (List.mem_of_getElem? (i := 16) rfl))) (by decide) (backOf (W := 0) (rm2 l Z a0 hw [] R1 x10_89  h0 n0 Z0 hC1.1 hC1.2.1 hC1.2.2.1 hC1.2.2.2.1 hC1.2.2.2.2) hZ (hw _ (List.mem_of_getElem? (i := 16) rfl)) (hw _ (List.mem_of_getElem? (i := 15) rfl)) (by decide) (by decide)) (g := (mkF m 95 #[.val (.int p1), .val (.long q2), .second, .val (.long x3_5), .second, .val (.double x5_12), .second, .val (.double R1), .second, .unset, .val (.double x10_89), .second, .unset, .unset, .unset, .unset, .unset, .unset] [(.double x10_89), (.double R1)])) rfl (by rw [hml]; rfl) (argsL := [(.double R1), (.double x10_89)]) (rest := []) (lenOf pdw_1 rfl) rfl (by show 2 * 0 + _ ≤ _; exact Nat.le_of_eq rfl) (hb hby at_95) (fun _ _ => ⟨rfl, hh3, (by decide : 0 + 0 ≤ _), (by decide : 0 + 0 ≤ _)⟩)
  dsimp only [Pt.U, Pt.locs, Pt.cells, Pt.slots] at X4 l4 y4 z4 st4 hQ4
  subst l4 y4 z4
  obtain ⟨rfl, N4q, hh4⟩ := hQ4
  have N4 := Fr.app N3 N4q
  -- pc 117: com/example/level_ring/levelring/placement/Members.logAtMost by its contract rm1
  obtain ⟨_, _, ⟨T5, L5, k5, n5⟩, -, X5, ⟨Lc5, hQ5, l5, y5, z5⟩, st5⟩ := Jvm.LawKit.callS X4 hx (y := (⟨"com/example/level_ring/levelring/placement/Members", "logAtMost", "(D)D"⟩ : MethodName)) hown (mvT hZ (hw _ (List.mem_of_getElem? (i := 2) rfl))) (mvT hZ (hw _ (List.mem_of_getElem? (i := 3) rfl))) (mvT hZ (hw _ (List.mem_of_getElem? (i := 4) rfl))) (mvT hZ (hw _ (List.mem_of_getElem? (i := 5) rfl))) (by decide) (backOf (W := 0) (rm1 l Z a0 hw [] x12_113 R2 h0 n0 Z0 hL2) hZ (hw _ (List.mem_of_getElem? (i := 5) rfl)) (hw _ (List.mem_of_getElem? (i := 4) rfl)) (by decide) (by decide)) (g := (mkF m 117 #[.val (.int p1), .val (.long q2), .second, .val (.long x3_5), .second, .val (.double x5_12), .second, .val (.double R1), .second, .val (.int (1 : Int32)), .val (.long x10_104), .second, .val (.double x12_113), .second, .unset, .unset, .unset, .unset] [(.double x12_113)])) rfl (by rw [hml]; rfl) (argsL := [(.double x12_113)]) (rest := []) (lenOf pdw_0 rfl) rfl (by show 2 * 0 + _ ≤ _; exact Nat.le_of_eq rfl) (hb hby at_117) (fun _ _ => ⟨rfl, hh4, (by decide : 0 + 0 ≤ _), (by decide : 0 + 0 ≤ _)⟩)
  dsimp only [Pt.U, Pt.locs, Pt.cells, Pt.slots] at X5 l5 y5 z5 st5 hQ5
  subst l5 y5 z5
  obtain ⟨rfl, N5q, hh5⟩ := hQ5
  have N5 := Fr.app N4 N5q
  -- pc 190: com/example/level_ring/levelring/placement/MembersLogAtMostPinLaw.close by its contract rm2
  obtain ⟨_, _, ⟨T6, L6, k6, n6⟩, -, X6, ⟨Lc6, hQ6, l6, y6, z6⟩, st6⟩ := Jvm.LawKit.callS X5 hx (y := (⟨"com/example/level_ring/levelring/placement/MembersLogAtMostPinLaw", "close", "(DD)Z"⟩ : MethodName)) hown (mvT hZ (hw _ (List.mem_of_getElem? (i := 13) rfl))) (mvT hZ (hw _ (List.mem_of_getElem? (i := 14) rfl))) (mvT hZ (hw _ (List.mem_of_getElem? (i := 15) rfl))) (mvT hZ (hw _ (List.mem_of_getElem? (i := 16) rfl))) (by decide) (backOf (W := 0) (rm2 l Z a0 hw [] R2 x16_179  h0 n0 Z0 hC2.1 hC2.2.1 hC2.2.2.1 hC2.2.2.2.1 hC2.2.2.2.2) hZ (hw _ (List.mem_of_getElem? (i := 16) rfl)) (hw _ (List.mem_of_getElem? (i := 15) rfl)) (by decide) (by decide)) (g := (mkF m 190 #[.val (.int p1), .val (.long q2), .second, .val (.long x3_5), .second, .val (.double x5_12), .second, .val (.double R1), .second, .val (.int (1 : Int32)), .val (.long x10_104), .second, .val (.double x12_113), .second, .val (.double R2), .second, .val (.double x16_179), .second] [(.double x16_179), (.double R2)])) rfl (by rw [hml]; rfl) (argsL := [(.double R2), (.double x16_179)]) (rest := []) (lenOf pdw_1 rfl) rfl (by show 2 * 0 + _ ≤ _; exact Nat.le_of_eq rfl) (hb hby at_190) (fun _ _ => ⟨rfl, hh5, (by decide : 0 + 0 ≤ _), (by decide : 0 + 0 ≤ _)⟩)
  dsimp only [Pt.U, Pt.locs, Pt.cells, Pt.slots] at X6 l6 y6 z6 st6 hQ6
  subst l6 y6 z6
  obtain ⟨rfl, N6q, hh6⟩ := hQ6
  have N6 := Fr.app N5 N6q
  obtain ⟨fs, hr, hrun, hended, hW, hsame⟩ := X6.leave (v := some (.int (1 : Int32))) (fun h => by rw [Bd.returns] at h; cases h)
  refine ⟨_, _, pre0 _ ?_, hrun, hended, _, _, rfl, ?_, ⟨_, rfl⟩, hW, hsame.mono (by decide) (by decide)⟩
  -- 4. STEPS
  · show Steps p.tables e below (s₁.setTop (mkF m 0 #[.val (.int p1), .val (.long q2), .second, .unset, .unset, .unset, .unset, .unset, .unset, .unset, .unset, .unset, .unset, .unset, .unset, .unset, .unset, .unset] [])) _
    refine XS.iloadN X0.here hx rfl (hb hby at_0) rfl ?_
    show Steps p.tables e below (s₁.setTop (mkF m 1 #[.val (.int p1), .val (.long q2), .second, .unset, .unset, .unset, .unset, .unset, .unset, .unset, .unset, .unset, .unset, .unset, .unset, .unset, .unset, .unset] [(.int p1)])) _
    refine X0.ldcInt hx hown (mvT hZ (hw _ (List.mem_of_getElem? (i := 0) rfl))) (g := (mkF m 1 #[.val (.int p1), .val (.long q2), .second, .unset, .unset, .unset, .unset, .unset, .unset, .unset, .unset, .unset, .unset, .unset, .unset, .unset, .unset, .unset] [(.int p1)])) rfl (hb hby at_1) _ ?_
    show Steps p.tables e below (s₁.setTop (mkF m 3 #[.val (.int p1), .val (.long q2), .second, .unset, .unset, .unset, .unset, .unset, .unset, .unset, .unset, .unset, .unset, .unset, .unset, .unset, .unset, .unset] [(.int (65535 : Int32)), (.int p1)])) _
    refine XS.iand X0.here hx rfl (hb hby at_3) rfl ?_
    show Steps p.tables e below (s₁.setTop (mkF m 4 #[.val (.int p1), .val (.long q2), .second, .unset, .unset, .unset, .unset, .unset, .unset, .unset, .unset, .unset, .unset, .unset, .unset, .unset, .unset, .unset] [(.int (p1 &&& (65535 : Int32)))])) _
    refine XS.i2l X0.here hx rfl (hb hby at_4) rfl ?_
    show Steps p.tables e below (s₁.setTop (mkF m 5 #[.val (.int p1), .val (.long q2), .second, .unset, .unset, .unset, .unset, .unset, .unset, .unset, .unset, .unset, .unset, .unset, .unset, .unset, .unset, .unset] [(.long ((p1 &&& (65535 : Int32)).toInt64))])) _
    rw [← hx3_5 trivial]
    refine XS.lstoreN X0.here hx rfl (hb hby at_5) rfl (l' := #[.val (.int p1), .val (.long q2), .second, .val (.long x3_5), .second, .unset, .unset, .unset, .unset, .unset, .unset, .unset, .unset, .unset, .unset, .unset, .unset, .unset]) rfl ?_
    show Steps p.tables e below (s₁.setTop (mkF m 6 #[.val (.int p1), .val (.long q2), .second, .val (.long x3_5), .second, .unset, .unset, .unset, .unset, .unset, .unset, .unset, .unset, .unset, .unset, .unset, .unset, .unset] [])) _
    refine XS.lloadN X0.here hx rfl (hb hby at_6) rfl ?_
    show Steps p.tables e below (s₁.setTop (mkF m 7 #[.val (.int p1), .val (.long q2), .second, .val (.long x3_5), .second, .unset, .unset, .unset, .unset, .unset, .unset, .unset, .unset, .unset, .unset, .unset, .unset, .unset] [(.long x3_5)])) _
    refine XS.l2dS X0.here hx rfl (hb hby at_7) rfl rfl ?_
    show Steps p.tables e below (s₁.setTop (mkF m 8 #[.val (.int p1), .val (.long q2), .second, .val (.long x3_5), .second, .unset, .unset, .unset, .unset, .unset, .unset, .unset, .unset, .unset, .unset, .unset, .unset, .unset] [(.double (FP.l2d x3_5))])) _
    refine X0.ldc2DoubleC hx hown (mvT hZ (hw _ (List.mem_of_getElem? (i := 1) rfl))) (g := (mkF m 8 #[.val (.int p1), .val (.long q2), .second, .val (.long x3_5), .second, .unset, .unset, .unset, .unset, .unset, .unset, .unset, .unset, .unset, .unset, .unset, .unset, .unset] [(.double (FP.l2d x3_5))])) rfl (hb hby at_8) _ ?_
    show Steps p.tables e below (s₁.setTop (mkF m 11 #[.val (.int p1), .val (.long q2), .second, .val (.long x3_5), .second, .unset, .unset, .unset, .unset, .unset, .unset, .unset, .unset, .unset, .unset, .unset, .unset, .unset] [(.double (4535124824762089472 : UInt64)), (.double (FP.l2d x3_5))])) _
    refine XS.dmulS X0.here hx rfl (hb hby at_11) rfl hnn11 rfl ?_
    show Steps p.tables e below (s₁.setTop (mkF m 12 #[.val (.int p1), .val (.long q2), .second, .val (.long x3_5), .second, .unset, .unset, .unset, .unset, .unset, .unset, .unset, .unset, .unset, .unset, .unset, .unset, .unset] [(.double (FP.dmul (FP.l2d x3_5) (4535124824762089472 : UInt64)))])) _
    rw [← hx5_12 trivial]
    refine XS.dstore X0.here hx rfl (hb hby at_12) rfl (l' := #[.val (.int p1), .val (.long q2), .second, .val (.long x3_5), .second, .val (.double x5_12), .second, .unset, .unset, .unset, .unset, .unset, .unset, .unset, .unset, .unset, .unset, .unset]) rfl ?_
    show Steps p.tables e below (s₁.setTop (mkF m 14 #[.val (.int p1), .val (.long q2), .second, .val (.long x3_5), .second, .val (.double x5_12), .second, .unset, .unset, .unset, .unset, .unset, .unset, .unset, .unset, .unset, .unset, .unset] [])) _
    refine XS.dload X0.here hx rfl (hb hby at_14) rfl ?_
    show Steps p.tables e below (s₁.setTop (mkF m 16 #[.val (.int p1), .val (.long q2), .second, .val (.long x3_5), .second, .val (.double x5_12), .second, .unset, .unset, .unset, .unset, .unset, .unset, .unset, .unset, .unset, .unset, .unset] [(.double x5_12)])) _
    refine st3 _ ?_
    show Steps p.tables e below (T3.setTop (mkF m 19 #[.val (.int p1), .val (.long q2), .second, .val (.long x3_5), .second, .val (.double x5_12), .second, .unset, .unset, .unset, .unset, .unset, .unset, .unset, .unset, .unset, .unset, .unset] [(.double R1)])) _
    refine XS.dstore X3.here hx rfl (hb hby at_19) rfl (l' := #[.val (.int p1), .val (.long q2), .second, .val (.long x3_5), .second, .val (.double x5_12), .second, .val (.double R1), .second, .unset, .unset, .unset, .unset, .unset, .unset, .unset, .unset, .unset]) rfl ?_
    show Steps p.tables e below (T3.setTop (mkF m 21 #[.val (.int p1), .val (.long q2), .second, .val (.long x3_5), .second, .val (.double x5_12), .second, .val (.double R1), .second, .unset, .unset, .unset, .unset, .unset, .unset, .unset, .unset, .unset] [])) _
    refine XS.lloadN X3.here hx rfl (hb hby at_21) rfl ?_
    show Steps p.tables e below (T3.setTop (mkF m 22 #[.val (.int p1), .val (.long q2), .second, .val (.long x3_5), .second, .val (.double x5_12), .second, .val (.double R1), .second, .unset, .unset, .unset, .unset, .unset, .unset, .unset, .unset, .unset] [(.long x3_5)])) _
    refine X3.ldc2Long hx hown (mvT hZ (hw _ (List.mem_of_getElem? (i := 8) rfl))) (g := (mkF m 22 #[.val (.int p1), .val (.long q2), .second, .val (.long x3_5), .second, .val (.double x5_12), .second, .val (.double R1), .second, .unset, .unset, .unset, .unset, .unset, .unset, .unset, .unset, .unset] [(.long x3_5)])) rfl (hb hby at_22) _ ?_
    show Steps p.tables e below (T3.setTop (mkF m 25 #[.val (.int p1), .val (.long q2), .second, .val (.long x3_5), .second, .val (.double x5_12), .second, .val (.double R1), .second, .unset, .unset, .unset, .unset, .unset, .unset, .unset, .unset, .unset] [(.long (16384 : Int64)), (.long x3_5)])) _
    refine XS.lcmp X3.here hx rfl (hb hby at_25) rfl ?_
    show Steps p.tables e below (T3.setTop (mkF m 26 #[.val (.int p1), .val (.long q2), .second, .val (.long x3_5), .second, .val (.double x5_12), .second, .val (.double R1), .second, .unset, .unset, .unset, .unset, .unset, .unset, .unset, .unset, .unset] [(.int (lcmpW x3_5 (16384 : Int64)))])) _
    refine XS.ifYes X3.here hx rfl (pc0 := 26) (pc' := 71) rfl (hb hby at_26) rfl ((if0 _ _).trans (tlt hc26).2.2.1) (by decide) (by decide) ?_
    show Steps p.tables e below (T3.setTop (mkF m 71 #[.val (.int p1), .val (.long q2), .second, .val (.long x3_5), .second, .val (.double x5_12), .second, .val (.double R1), .second, .unset, .unset, .unset, .unset, .unset, .unset, .unset, .unset, .unset] [])) _
    refine XS.lloadN X3.here hx rfl (hb hby at_71) rfl ?_
    show Steps p.tables e below (T3.setTop (mkF m 72 #[.val (.int p1), .val (.long q2), .second, .val (.long x3_5), .second, .val (.double x5_12), .second, .val (.double R1), .second, .unset, .unset, .unset, .unset, .unset, .unset, .unset, .unset, .unset] [(.long x3_5)])) _
    refine X3.ldc2Long hx hown (mvT hZ (hw _ (List.mem_of_getElem? (i := 19) rfl))) (g := (mkF m 72 #[.val (.int p1), .val (.long q2), .second, .val (.long x3_5), .second, .val (.double x5_12), .second, .val (.double R1), .second, .unset, .unset, .unset, .unset, .unset, .unset, .unset, .unset, .unset] [(.long x3_5)])) rfl (hb hby at_72) _ ?_
    show Steps p.tables e below (T3.setTop (mkF m 75 #[.val (.int p1), .val (.long q2), .second, .val (.long x3_5), .second, .val (.double x5_12), .second, .val (.double R1), .second, .unset, .unset, .unset, .unset, .unset, .unset, .unset, .unset, .unset] [(.long (131072 : Int64)), (.long x3_5)])) _
    refine XS.lloadN X3.here hx rfl (hb hby at_75) rfl ?_
    show Steps p.tables e below (T3.setTop (mkF m 76 #[.val (.int p1), .val (.long q2), .second, .val (.long x3_5), .second, .val (.double x5_12), .second, .val (.double R1), .second, .unset, .unset, .unset, .unset, .unset, .unset, .unset, .unset, .unset] [(.long x3_5), (.long (131072 : Int64)), (.long x3_5)])) _
    refine XS.lsub X3.here hx rfl (hb hby at_76) rfl ?_
    show Steps p.tables e below (T3.setTop (mkF m 77 #[.val (.int p1), .val (.long q2), .second, .val (.long x3_5), .second, .val (.double x5_12), .second, .val (.double R1), .second, .unset, .unset, .unset, .unset, .unset, .unset, .unset, .unset, .unset] [(.long ((131072 : Int64) - x3_5)), (.long x3_5)])) _
    refine XS.lmul X3.here hx rfl (hb hby at_77) rfl ?_
    show Steps p.tables e below (T3.setTop (mkF m 78 #[.val (.int p1), .val (.long q2), .second, .val (.long x3_5), .second, .val (.double x5_12), .second, .val (.double R1), .second, .unset, .unset, .unset, .unset, .unset, .unset, .unset, .unset, .unset] [(.long (x3_5 * ((131072 : Int64) - x3_5)))])) _
    refine XS.l2dS X3.here hx rfl (hb hby at_78) rfl rfl ?_
    show Steps p.tables e below (T3.setTop (mkF m 79 #[.val (.int p1), .val (.long q2), .second, .val (.long x3_5), .second, .val (.double x5_12), .second, .val (.double R1), .second, .unset, .unset, .unset, .unset, .unset, .unset, .unset, .unset, .unset] [(.double (FP.l2d (x3_5 * ((131072 : Int64) - x3_5))))])) _
    refine X3.ldc2Long hx hown (mvT hZ (hw _ (List.mem_of_getElem? (i := 20) rfl))) (g := (mkF m 79 #[.val (.int p1), .val (.long q2), .second, .val (.long x3_5), .second, .val (.double x5_12), .second, .val (.double R1), .second, .unset, .unset, .unset, .unset, .unset, .unset, .unset, .unset, .unset] [(.double (FP.l2d (x3_5 * ((131072 : Int64) - x3_5))))])) rfl (hb hby at_79) _ ?_
    show Steps p.tables e below (T3.setTop (mkF m 82 #[.val (.int p1), .val (.long q2), .second, .val (.long x3_5), .second, .val (.double x5_12), .second, .val (.double R1), .second, .unset, .unset, .unset, .unset, .unset, .unset, .unset, .unset, .unset] [(.long (65536 : Int64)), (.double (FP.l2d (x3_5 * ((131072 : Int64) - x3_5))))])) _
    refine XS.lloadN X3.here hx rfl (hb hby at_82) rfl ?_
    show Steps p.tables e below (T3.setTop (mkF m 83 #[.val (.int p1), .val (.long q2), .second, .val (.long x3_5), .second, .val (.double x5_12), .second, .val (.double R1), .second, .unset, .unset, .unset, .unset, .unset, .unset, .unset, .unset, .unset] [(.long x3_5), (.long (65536 : Int64)), (.double (FP.l2d (x3_5 * ((131072 : Int64) - x3_5))))])) _
    refine XS.lsub X3.here hx rfl (hb hby at_83) rfl ?_
    show Steps p.tables e below (T3.setTop (mkF m 84 #[.val (.int p1), .val (.long q2), .second, .val (.long x3_5), .second, .val (.double x5_12), .second, .val (.double R1), .second, .unset, .unset, .unset, .unset, .unset, .unset, .unset, .unset, .unset] [(.long ((65536 : Int64) - x3_5)), (.double (FP.l2d (x3_5 * ((131072 : Int64) - x3_5))))])) _
    refine XS.bipush X3.here hx rfl (hb hby at_84) ?_
    show Steps p.tables e below (T3.setTop (mkF m 86 #[.val (.int p1), .val (.long q2), .second, .val (.long x3_5), .second, .val (.double x5_12), .second, .val (.double R1), .second, .unset, .unset, .unset, .unset, .unset, .unset, .unset, .unset, .unset] [(.int (17 : Int32)), (.long ((65536 : Int64) - x3_5)), (.double (FP.l2d (x3_5 * ((131072 : Int64) - x3_5))))])) _
    refine XS.lshl X3.here hx rfl (hb hby at_86) rfl ?_
    show Steps p.tables e below (T3.setTop (mkF m 87 #[.val (.int p1), .val (.long q2), .second, .val (.long x3_5), .second, .val (.double x5_12), .second, .val (.double R1), .second, .unset, .unset, .unset, .unset, .unset, .unset, .unset, .unset, .unset] [(.long (((65536 : Int64) - x3_5) <<< ((17 : Int32) &&& 0x3f).toInt64)), (.double (FP.l2d (x3_5 * ((131072 : Int64) - x3_5))))])) _
    refine XS.l2dS X3.here hx rfl (hb hby at_87) rfl rfl ?_
    show Steps p.tables e below (T3.setTop (mkF m 88 #[.val (.int p1), .val (.long q2), .second, .val (.long x3_5), .second, .val (.double x5_12), .second, .val (.double R1), .second, .unset, .unset, .unset, .unset, .unset, .unset, .unset, .unset, .unset] [(.double (FP.l2d (((65536 : Int64) - x3_5) <<< ((17 : Int32) &&& 0x3f).toInt64))), (.double (FP.l2d (x3_5 * ((131072 : Int64) - x3_5))))])) _
    refine XS.ddivS X3.here hx rfl (hb hby at_88) rfl hnn88 rfl ?_
    show Steps p.tables e below (T3.setTop (mkF m 89 #[.val (.int p1), .val (.long q2), .second, .val (.long x3_5), .second, .val (.double x5_12), .second, .val (.double R1), .second, .unset, .unset, .unset, .unset, .unset, .unset, .unset, .unset, .unset] [(.double (FP.ddiv (FP.l2d (x3_5 * ((131072 : Int64) - x3_5))) (FP.l2d (((65536 : Int64) - x3_5) <<< ((17 : Int32) &&& 0x3f).toInt64))))])) _
    rw [← hx10_89 trivial]
    refine XS.dstore X3.here hx rfl (hb hby at_89) rfl (l' := #[.val (.int p1), .val (.long q2), .second, .val (.long x3_5), .second, .val (.double x5_12), .second, .val (.double R1), .second, .unset, .val (.double x10_89), .second, .unset, .unset, .unset, .unset, .unset, .unset]) rfl ?_
    show Steps p.tables e below (T3.setTop (mkF m 91 #[.val (.int p1), .val (.long q2), .second, .val (.long x3_5), .second, .val (.double x5_12), .second, .val (.double R1), .second, .unset, .val (.double x10_89), .second, .unset, .unset, .unset, .unset, .unset, .unset] [])) _
    refine XS.dload X3.here hx rfl (hb hby at_91) rfl ?_
    show Steps p.tables e below (T3.setTop (mkF m 93 #[.val (.int p1), .val (.long q2), .second, .val (.long x3_5), .second, .val (.double x5_12), .second, .val (.double R1), .second, .unset, .val (.double x10_89), .second, .unset, .unset, .unset, .unset, .unset, .unset] [(.double R1)])) _
    refine XS.dload X3.here hx rfl (hb hby at_93) rfl ?_
    show Steps p.tables e below (T3.setTop (mkF m 95 #[.val (.int p1), .val (.long q2), .second, .val (.long x3_5), .second, .val (.double x5_12), .second, .val (.double R1), .second, .unset, .val (.double x10_89), .second, .unset, .unset, .unset, .unset, .unset, .unset] [(.double x10_89), (.double R1)])) _
    refine st4 _ ?_
    show Steps p.tables e below (T4.setTop (mkF m 98 #[.val (.int p1), .val (.long q2), .second, .val (.long x3_5), .second, .val (.double x5_12), .second, .val (.double R1), .second, .unset, .val (.double x10_89), .second, .unset, .unset, .unset, .unset, .unset, .unset] [(.int (1 : Int32))])) _
    refine XS.istore X4.here hx rfl (hb hby at_98) rfl (l' := #[.val (.int p1), .val (.long q2), .second, .val (.long x3_5), .second, .val (.double x5_12), .second, .val (.double R1), .second, .val (.int (1 : Int32)), .val (.double x10_89), .second, .unset, .unset, .unset, .unset, .unset, .unset]) rfl ?_
    show Steps p.tables e below (T4.setTop (mkF m 100 #[.val (.int p1), .val (.long q2), .second, .val (.long x3_5), .second, .val (.double x5_12), .second, .val (.double R1), .second, .val (.int (1 : Int32)), .val (.double x10_89), .second, .unset, .unset, .unset, .unset, .unset, .unset] [])) _
    refine XS.lloadN X4.here hx rfl (hb hby at_100) rfl ?_
    show Steps p.tables e below (T4.setTop (mkF m 101 #[.val (.int p1), .val (.long q2), .second, .val (.long x3_5), .second, .val (.double x5_12), .second, .val (.double R1), .second, .val (.int (1 : Int32)), .val (.double x10_89), .second, .unset, .unset, .unset, .unset, .unset, .unset] [(.long q2)])) _
    refine XS.bipush X4.here hx rfl (hb hby at_101) ?_
    show Steps p.tables e below (T4.setTop (mkF m 103 #[.val (.int p1), .val (.long q2), .second, .val (.long x3_5), .second, .val (.double x5_12), .second, .val (.double R1), .second, .val (.int (1 : Int32)), .val (.double x10_89), .second, .unset, .unset, .unset, .unset, .unset, .unset] [(.int (11 : Int32)), (.long q2)])) _
    refine XS.lushr X4.here hx rfl (hb hby at_103) rfl ?_
    show Steps p.tables e below (T4.setTop (mkF m 104 #[.val (.int p1), .val (.long q2), .second, .val (.long x3_5), .second, .val (.double x5_12), .second, .val (.double R1), .second, .val (.int (1 : Int32)), .val (.double x10_89), .second, .unset, .unset, .unset, .unset, .unset, .unset] [(.long ((q2.toUInt64 >>> ((11 : Int32) &&& 0x3f).toInt64.toUInt64).toInt64))])) _
    rw [← hx10_104 trivial]
    refine XS.lstore X4.here hx rfl (hb hby at_104) rfl (l' := #[.val (.int p1), .val (.long q2), .second, .val (.long x3_5), .second, .val (.double x5_12), .second, .val (.double R1), .second, .val (.int (1 : Int32)), .val (.long x10_104), .second, .unset, .unset, .unset, .unset, .unset, .unset]) rfl ?_
    show Steps p.tables e below (T4.setTop (mkF m 106 #[.val (.int p1), .val (.long q2), .second, .val (.long x3_5), .second, .val (.double x5_12), .second, .val (.double R1), .second, .val (.int (1 : Int32)), .val (.long x10_104), .second, .unset, .unset, .unset, .unset, .unset, .unset] [])) _
    refine XS.lload X4.here hx rfl (hb hby at_106) rfl ?_
    show Steps p.tables e below (T4.setTop (mkF m 108 #[.val (.int p1), .val (.long q2), .second, .val (.long x3_5), .second, .val (.double x5_12), .second, .val (.double R1), .second, .val (.int (1 : Int32)), .val (.long x10_104), .second, .unset, .unset, .unset, .unset, .unset, .unset] [(.long x10_104)])) _
    refine XS.l2dS X4.here hx rfl (hb hby at_108) rfl rfl ?_
    show Steps p.tables e below (T4.setTop (mkF m 109 #[.val (.int p1), .val (.long q2), .second, .val (.long x3_5), .second, .val (.double x5_12), .second, .val (.double R1), .second, .val (.int (1 : Int32)), .val (.long x10_104), .second, .unset, .unset, .unset, .unset, .unset, .unset] [(.double (FP.l2d x10_104))])) _
    refine X4.ldc2DoubleC hx hown (mvT hZ (hw _ (List.mem_of_getElem? (i := 10) rfl))) (g := (mkF m 109 #[.val (.int p1), .val (.long q2), .second, .val (.long x3_5), .second, .val (.double x5_12), .second, .val (.double R1), .second, .val (.int (1 : Int32)), .val (.long x10_104), .second, .unset, .unset, .unset, .unset, .unset, .unset] [(.double (FP.l2d x10_104))])) rfl (hb hby at_109) _ ?_
    show Steps p.tables e below (T4.setTop (mkF m 112 #[.val (.int p1), .val (.long q2), .second, .val (.long x3_5), .second, .val (.double x5_12), .second, .val (.double R1), .second, .val (.int (1 : Int32)), .val (.long x10_104), .second, .unset, .unset, .unset, .unset, .unset, .unset] [(.double (4368491638549381120 : UInt64)), (.double (FP.l2d x10_104))])) _
    refine XS.dmulS X4.here hx rfl (hb hby at_112) rfl hnn112 rfl ?_
    show Steps p.tables e below (T4.setTop (mkF m 113 #[.val (.int p1), .val (.long q2), .second, .val (.long x3_5), .second, .val (.double x5_12), .second, .val (.double R1), .second, .val (.int (1 : Int32)), .val (.long x10_104), .second, .unset, .unset, .unset, .unset, .unset, .unset] [(.double (FP.dmul (FP.l2d x10_104) (4368491638549381120 : UInt64)))])) _
    rw [← hx12_113 trivial]
    refine XS.dstore X4.here hx rfl (hb hby at_113) rfl (l' := #[.val (.int p1), .val (.long q2), .second, .val (.long x3_5), .second, .val (.double x5_12), .second, .val (.double R1), .second, .val (.int (1 : Int32)), .val (.long x10_104), .second, .val (.double x12_113), .second, .unset, .unset, .unset, .unset]) rfl ?_
    show Steps p.tables e below (T4.setTop (mkF m 115 #[.val (.int p1), .val (.long q2), .second, .val (.long x3_5), .second, .val (.double x5_12), .second, .val (.double R1), .second, .val (.int (1 : Int32)), .val (.long x10_104), .second, .val (.double x12_113), .second, .unset, .unset, .unset, .unset] [])) _
    refine XS.dload X4.here hx rfl (hb hby at_115) rfl ?_
    show Steps p.tables e below (T4.setTop (mkF m 117 #[.val (.int p1), .val (.long q2), .second, .val (.long x3_5), .second, .val (.double x5_12), .second, .val (.double R1), .second, .val (.int (1 : Int32)), .val (.long x10_104), .second, .val (.double x12_113), .second, .unset, .unset, .unset, .unset] [(.double x12_113)])) _
    refine st5 _ ?_
    show Steps p.tables e below (T5.setTop (mkF m 120 #[.val (.int p1), .val (.long q2), .second, .val (.long x3_5), .second, .val (.double x5_12), .second, .val (.double R1), .second, .val (.int (1 : Int32)), .val (.long x10_104), .second, .val (.double x12_113), .second, .unset, .unset, .unset, .unset] [(.double R2)])) _
    refine XS.dstore X5.here hx rfl (hb hby at_120) rfl (l' := #[.val (.int p1), .val (.long q2), .second, .val (.long x3_5), .second, .val (.double x5_12), .second, .val (.double R1), .second, .val (.int (1 : Int32)), .val (.long x10_104), .second, .val (.double x12_113), .second, .val (.double R2), .second, .unset, .unset]) rfl ?_
    show Steps p.tables e below (T5.setTop (mkF m 122 #[.val (.int p1), .val (.long q2), .second, .val (.long x3_5), .second, .val (.double x5_12), .second, .val (.double R1), .second, .val (.int (1 : Int32)), .val (.long x10_104), .second, .val (.double x12_113), .second, .val (.double R2), .second, .unset, .unset] [])) _
    refine XS.lload X5.here hx rfl (hb hby at_122) rfl ?_
    show Steps p.tables e below (T5.setTop (mkF m 124 #[.val (.int p1), .val (.long q2), .second, .val (.long x3_5), .second, .val (.double x5_12), .second, .val (.double R1), .second, .val (.int (1 : Int32)), .val (.long x10_104), .second, .val (.double x12_113), .second, .val (.double R2), .second, .unset, .unset] [(.long x10_104)])) _
    refine X5.ldc2Long hx hown (mvT hZ (hw _ (List.mem_of_getElem? (i := 11) rfl))) (g := (mkF m 124 #[.val (.int p1), .val (.long q2), .second, .val (.long x3_5), .second, .val (.double x5_12), .second, .val (.double R1), .second, .val (.int (1 : Int32)), .val (.long x10_104), .second, .val (.double x12_113), .second, .val (.double R2), .second, .unset, .unset] [(.long x10_104)])) rfl (hb hby at_124) _ ?_
    show Steps p.tables e below (T5.setTop (mkF m 127 #[.val (.int p1), .val (.long q2), .second, .val (.long x3_5), .second, .val (.double x5_12), .second, .val (.double R1), .second, .val (.int (1 : Int32)), .val (.long x10_104), .second, .val (.double x12_113), .second, .val (.double R2), .second, .unset, .unset] [(.long (2251799813685248 : Int64)), (.long x10_104)])) _
    refine XS.lcmp X5.here hx rfl (hb hby at_127) rfl ?_
    show Steps p.tables e below (T5.setTop (mkF m 128 #[.val (.int p1), .val (.long q2), .second, .val (.long x3_5), .second, .val (.double x5_12), .second, .val (.double R1), .second, .val (.int (1 : Int32)), .val (.long x10_104), .second, .val (.double x12_113), .second, .val (.double R2), .second, .unset, .unset] [(.int (lcmpW x10_104 (2251799813685248 : Int64)))])) _
    refine XS.ifYes X5.here hx rfl (pc0 := 128) (pc' := 161) rfl (hb hby at_128) rfl ((if0 _ _).trans (tlt hc128).2.2.1) (by decide) (by decide) ?_
    show Steps p.tables e below (T5.setTop (mkF m 161 #[.val (.int p1), .val (.long q2), .second, .val (.long x3_5), .second, .val (.double x5_12), .second, .val (.double R1), .second, .val (.int (1 : Int32)), .val (.long x10_104), .second, .val (.double x12_113), .second, .val (.double R2), .second, .unset, .unset] [])) _
    refine XS.dload X5.here hx rfl (hb hby at_161) rfl ?_
    show Steps p.tables e below (T5.setTop (mkF m 163 #[.val (.int p1), .val (.long q2), .second, .val (.long x3_5), .second, .val (.double x5_12), .second, .val (.double R1), .second, .val (.int (1 : Int32)), .val (.long x10_104), .second, .val (.double x12_113), .second, .val (.double R2), .second, .unset, .unset] [(.double x12_113)])) _
    refine X5.ldc2DoubleC hx hown (mvT hZ (hw _ (List.mem_of_getElem? (i := 18) rfl))) (g := (mkF m 163 #[.val (.int p1), .val (.long q2), .second, .val (.long x3_5), .second, .val (.double x5_12), .second, .val (.double R1), .second, .val (.int (1 : Int32)), .val (.long x10_104), .second, .val (.double x12_113), .second, .val (.double R2), .second, .unset, .unset] [(.double x12_113)])) rfl (hb hby at_163) _ ?_
    show Steps p.tables e below (T5.setTop (mkF m 166 #[.val (.int p1), .val (.long q2), .second, .val (.long x3_5), .second, .val (.double x5_12), .second, .val (.double R1), .second, .val (.int (1 : Int32)), .val (.long x10_104), .second, .val (.double x12_113), .second, .val (.double R2), .second, .unset, .unset] [(.double (4611686018427387904 : UInt64)), (.double x12_113)])) _
    refine XS.dload X5.here hx rfl (hb hby at_166) rfl ?_
    show Steps p.tables e below (T5.setTop (mkF m 168 #[.val (.int p1), .val (.long q2), .second, .val (.long x3_5), .second, .val (.double x5_12), .second, .val (.double R1), .second, .val (.int (1 : Int32)), .val (.long x10_104), .second, .val (.double x12_113), .second, .val (.double R2), .second, .unset, .unset] [(.double x12_113), (.double (4611686018427387904 : UInt64)), (.double x12_113)])) _
    refine XS.dsubS X5.here hx rfl (hb hby at_168) rfl hnn168 rfl ?_
    show Steps p.tables e below (T5.setTop (mkF m 169 #[.val (.int p1), .val (.long q2), .second, .val (.long x3_5), .second, .val (.double x5_12), .second, .val (.double R1), .second, .val (.int (1 : Int32)), .val (.long x10_104), .second, .val (.double x12_113), .second, .val (.double R2), .second, .unset, .unset] [(.double (FP.dsub (4611686018427387904 : UInt64) x12_113)), (.double x12_113)])) _
    refine XS.dmulS X5.here hx rfl (hb hby at_169) rfl hnn169 rfl ?_
    show Steps p.tables e below (T5.setTop (mkF m 170 #[.val (.int p1), .val (.long q2), .second, .val (.long x3_5), .second, .val (.double x5_12), .second, .val (.double R1), .second, .val (.int (1 : Int32)), .val (.long x10_104), .second, .val (.double x12_113), .second, .val (.double R2), .second, .unset, .unset] [(.double (FP.dmul x12_113 (FP.dsub (4611686018427387904 : UInt64) x12_113)))])) _
    refine X5.ldc2DoubleC hx hown (mvT hZ (hw _ (List.mem_of_getElem? (i := 18) rfl))) (g := (mkF m 170 #[.val (.int p1), .val (.long q2), .second, .val (.long x3_5), .second, .val (.double x5_12), .second, .val (.double R1), .second, .val (.int (1 : Int32)), .val (.long x10_104), .second, .val (.double x12_113), .second, .val (.double R2), .second, .unset, .unset] [(.double (FP.dmul x12_113 (FP.dsub (4611686018427387904 : UInt64) x12_113)))])) rfl (hb hby at_170) _ ?_
    show Steps p.tables e below (T5.setTop (mkF m 173 #[.val (.int p1), .val (.long q2), .second, .val (.long x3_5), .second, .val (.double x5_12), .second, .val (.double R1), .second, .val (.int (1 : Int32)), .val (.long x10_104), .second, .val (.double x12_113), .second, .val (.double R2), .second, .unset, .unset] [(.double (4611686018427387904 : UInt64)), (.double (FP.dmul x12_113 (FP.dsub (4611686018427387904 : UInt64) x12_113)))])) _
    refine XS.dconst1 X5.here hx rfl (hb hby at_173) rfl ?_
    show Steps p.tables e below (T5.setTop (mkF m 174 #[.val (.int p1), .val (.long q2), .second, .val (.long x3_5), .second, .val (.double x5_12), .second, .val (.double R1), .second, .val (.int (1 : Int32)), .val (.long x10_104), .second, .val (.double x12_113), .second, .val (.double R2), .second, .unset, .unset] [(.double FP.dconst1), (.double (4611686018427387904 : UInt64)), (.double (FP.dmul x12_113 (FP.dsub (4611686018427387904 : UInt64) x12_113)))])) _
    refine XS.dload X5.here hx rfl (hb hby at_174) rfl ?_
    show Steps p.tables e below (T5.setTop (mkF m 176 #[.val (.int p1), .val (.long q2), .second, .val (.long x3_5), .second, .val (.double x5_12), .second, .val (.double R1), .second, .val (.int (1 : Int32)), .val (.long x10_104), .second, .val (.double x12_113), .second, .val (.double R2), .second, .unset, .unset] [(.double x12_113), (.double FP.dconst1), (.double (4611686018427387904 : UInt64)), (.double (FP.dmul x12_113 (FP.dsub (4611686018427387904 : UInt64) x12_113)))])) _
    refine XS.dsubS X5.here hx rfl (hb hby at_176) rfl hnn176 rfl ?_
    show Steps p.tables e below (T5.setTop (mkF m 177 #[.val (.int p1), .val (.long q2), .second, .val (.long x3_5), .second, .val (.double x5_12), .second, .val (.double R1), .second, .val (.int (1 : Int32)), .val (.long x10_104), .second, .val (.double x12_113), .second, .val (.double R2), .second, .unset, .unset] [(.double (FP.dsub FP.dconst1 x12_113)), (.double (4611686018427387904 : UInt64)), (.double (FP.dmul x12_113 (FP.dsub (4611686018427387904 : UInt64) x12_113)))])) _
    refine XS.dmulS X5.here hx rfl (hb hby at_177) rfl hnn177 rfl ?_
    show Steps p.tables e below (T5.setTop (mkF m 178 #[.val (.int p1), .val (.long q2), .second, .val (.long x3_5), .second, .val (.double x5_12), .second, .val (.double R1), .second, .val (.int (1 : Int32)), .val (.long x10_104), .second, .val (.double x12_113), .second, .val (.double R2), .second, .unset, .unset] [(.double (FP.dmul (4611686018427387904 : UInt64) (FP.dsub FP.dconst1 x12_113))), (.double (FP.dmul x12_113 (FP.dsub (4611686018427387904 : UInt64) x12_113)))])) _
    refine XS.ddivS X5.here hx rfl (hb hby at_178) rfl hnn178 rfl ?_
    show Steps p.tables e below (T5.setTop (mkF m 179 #[.val (.int p1), .val (.long q2), .second, .val (.long x3_5), .second, .val (.double x5_12), .second, .val (.double R1), .second, .val (.int (1 : Int32)), .val (.long x10_104), .second, .val (.double x12_113), .second, .val (.double R2), .second, .unset, .unset] [(.double (FP.ddiv (FP.dmul x12_113 (FP.dsub (4611686018427387904 : UInt64) x12_113)) (FP.dmul (4611686018427387904 : UInt64) (FP.dsub FP.dconst1 x12_113))))])) _
    rw [← hx16_179 trivial]
    refine XS.dstore X5.here hx rfl (hb hby at_179) rfl (l' := #[.val (.int p1), .val (.long q2), .second, .val (.long x3_5), .second, .val (.double x5_12), .second, .val (.double R1), .second, .val (.int (1 : Int32)), .val (.long x10_104), .second, .val (.double x12_113), .second, .val (.double R2), .second, .val (.double x16_179), .second]) rfl ?_
    show Steps p.tables e below (T5.setTop (mkF m 181 #[.val (.int p1), .val (.long q2), .second, .val (.long x3_5), .second, .val (.double x5_12), .second, .val (.double R1), .second, .val (.int (1 : Int32)), .val (.long x10_104), .second, .val (.double x12_113), .second, .val (.double R2), .second, .val (.double x16_179), .second] [])) _
    refine XS.iload X5.here hx rfl (hb hby at_181) rfl ?_
    show Steps p.tables e below (T5.setTop (mkF m 183 #[.val (.int p1), .val (.long q2), .second, .val (.long x3_5), .second, .val (.double x5_12), .second, .val (.double R1), .second, .val (.int (1 : Int32)), .val (.long x10_104), .second, .val (.double x12_113), .second, .val (.double R2), .second, .val (.double x16_179), .second] [(.int (1 : Int32))])) _
    refine XS.ifNo X5.here hx rfl (hb hby at_183) rfl ((if0 _ _).trans (feq (by decide : ¬ ((1 : Int32) = (0 : Int32)))).1) ?_
    show Steps p.tables e below (T5.setTop (mkF m 186 #[.val (.int p1), .val (.long q2), .second, .val (.long x3_5), .second, .val (.double x5_12), .second, .val (.double R1), .second, .val (.int (1 : Int32)), .val (.long x10_104), .second, .val (.double x12_113), .second, .val (.double R2), .second, .val (.double x16_179), .second] [])) _
    refine XS.dload X5.here hx rfl (hb hby at_186) rfl ?_
    show Steps p.tables e below (T5.setTop (mkF m 188 #[.val (.int p1), .val (.long q2), .second, .val (.long x3_5), .second, .val (.double x5_12), .second, .val (.double R1), .second, .val (.int (1 : Int32)), .val (.long x10_104), .second, .val (.double x12_113), .second, .val (.double R2), .second, .val (.double x16_179), .second] [(.double R2)])) _
    refine XS.dload X5.here hx rfl (hb hby at_188) rfl ?_
    show Steps p.tables e below (T5.setTop (mkF m 190 #[.val (.int p1), .val (.long q2), .second, .val (.long x3_5), .second, .val (.double x5_12), .second, .val (.double R1), .second, .val (.int (1 : Int32)), .val (.long x10_104), .second, .val (.double x12_113), .second, .val (.double R2), .second, .val (.double x16_179), .second] [(.double x16_179), (.double R2)])) _
    refine st6 _ ?_
    show Steps p.tables e below (T6.setTop (mkF m 193 #[.val (.int p1), .val (.long q2), .second, .val (.long x3_5), .second, .val (.double x5_12), .second, .val (.double R1), .second, .val (.int (1 : Int32)), .val (.long x10_104), .second, .val (.double x12_113), .second, .val (.double R2), .second, .val (.double x16_179), .second] [(.int (1 : Int32))])) _
    refine XS.ifNo X6.here hx rfl (hb hby at_193) rfl ((if0 _ _).trans (feq (by decide : ¬ ((1 : Int32) = (0 : Int32)))).1) ?_
    show Steps p.tables e below (T6.setTop (mkF m 196 #[.val (.int p1), .val (.long q2), .second, .val (.long x3_5), .second, .val (.double x5_12), .second, .val (.double R1), .second, .val (.int (1 : Int32)), .val (.long x10_104), .second, .val (.double x12_113), .second, .val (.double R2), .second, .val (.double x16_179), .second] [])) _
    refine XS.iconst X6.here hx rfl (hb hby at_196) ?_
    show Steps p.tables e below (T6.setTop (mkF m 197 #[.val (.int p1), .val (.long q2), .second, .val (.long x3_5), .second, .val (.double x5_12), .second, .val (.double R1), .second, .val (.int (1 : Int32)), .val (.long x10_104), .second, .val (.double x12_113), .second, .val (.double R2), .second, .val (.double x16_179), .second] [(.int (1 : Int32))])) _
    refine XS.goto X6.here hx rfl (pc0 := 197) (pc' := 201) rfl (hb hby at_197) (by decide) (by decide) ?_
    show Steps p.tables e below (T6.setTop (mkF m 201 #[.val (.int p1), .val (.long q2), .second, .val (.long x3_5), .second, .val (.double x5_12), .second, .val (.double R1), .second, .val (.int (1 : Int32)), .val (.long x10_104), .second, .val (.double x12_113), .second, .val (.double R2), .second, .val (.double x16_179), .second] [(.int (1 : Int32))])) _
    exact retN X6 hx (t := .boolean) Bd.returns (by simp) (hb hby at_201) hr
  · show Q0 h0 n0 _ T6.heap _
    exact ⟨rfl, N6⟩
theorem rm0 (l : Launch) (Z : State) (a0 : Array Value) (hw : ∀ d ∈ tables_1, d.before a0 Z = true) (ws : List Jvm.Cond) (p1 : Int32) (q2 : Int64) (h0 : Heap) (n0 : Nat) (Z0 : n0 ≤ h0.size) :
    MetFree l x (head1 (Jvm.Cond.code x code maxLocals ret :: ws) room_1) (fun a U => a = #[(.int p1), (.long q2)] ∧ Z.Warmed39 U.vm ∧ U.heap = h0) (fun _ _ _ _ _ => True) (fun _ U o U' => ∃ v L, o = .returned v ∧ Q0 h0 n0 v U'.heap L ∧ FrameEnd U o U' L room_1.cells room_1.slots) := by
  have ha := own_a p1
  have hk := own_topk q2
  have dk := Jvm.FP.Core.own_dom53 hk.1 hk.2
  by_cases hc26 : (0 : Int32) < (lcmpW ((p1 &&& (65535 : Int32)).toInt64) (16384 : Int64))
  · have G := fun {D R e : UInt64} => own_gl (a := ((p1 &&& (65535 : Int32)).toInt64)) (D := D) (R := R) (e := e) (by have := (lw_gt _ _).mp hc26; rw [Int64.lt_iff_toInt_lt] at this; exact this) ha.2
    by_cases hc128 : (0 : Int32) < (lcmpW ((q2.toUInt64 >>> ((11 : Int32) &&& 0x3f).toInt64.toUInt64).toInt64) (2251799813685248 : Int64))
    · have d4 := own_kld (k := ((q2.toUInt64 >>> ((11 : Int32) &&& 0x3f).toInt64.toUInt64).toInt64)) (by have := (lw_gt _ _).mp hc128; rw [Int64.lt_iff_toInt_lt] at this; exact this)
      have K := fun {R e : UInt64} => own_kl (R := R) (e := e) dk d4
      exact rm0_ll l Z a0 hw ws p1 q2 _ _ _ _ _ _ _ _ h0 n0 Z0 (fun _ => rfl) ((G rfl rfl rfl).1) (fun _ => rfl) (hc26) ((G rfl rfl rfl).2.2.1) (fun _ => rfl) (fun _ => rfl) (own_nn dk.1) (fun _ => rfl) (hc128) ((K rfl rfl).1) ((K rfl rfl).2.1) ((K rfl rfl).2.2.1) ((K rfl rfl).2.2.2.1) ((K rfl rfl).2.2.2.2.1) (fun _ => rfl) (G rfl rfl rfl).2.1 (own_LA2 dk d4 rfl) (K rfl rfl).2.2.2.2.2 (G rfl rfl rfl).2.2.2
    · have d4 := own_ksd (k := ((q2.toUInt64 >>> ((11 : Int32) &&& 0x3f).toInt64.toUInt64).toInt64)) hk.1 (by have := fun q => hc128 ((lw_gt _ _).mpr q); rw [Int64.lt_iff_toInt_lt] at this; exact Int.not_lt.mp this)
      have K := fun {R e : UInt64} => own_ks (R := R) (e := e) dk d4
      exact rm0_ls l Z a0 hw ws p1 q2 _ _ _ _ _ _ _ _ h0 n0 Z0 (fun _ => rfl) ((G rfl rfl rfl).1) (fun _ => rfl) (hc26) ((G rfl rfl rfl).2.2.1) (fun _ => rfl) (fun _ => rfl) (own_nn dk.1) (fun _ => rfl) (hc128) ((K rfl rfl).1) ((K rfl rfl).2.1) ((K rfl rfl).2.2.1) ((K rfl rfl).1) ((K rfl rfl).2.1) ((K rfl rfl).2.2.2.1) ((K rfl rfl).2.2.2.2.1) (fun _ => rfl) (G rfl rfl rfl).2.1 (own_LA1 dk d4 rfl) (K rfl rfl).2.2.2.2.2 (G rfl rfl rfl).2.2.2
  · have G := fun {D R : UInt64} => own_gs (a := ((p1 &&& (65535 : Int32)).toInt64)) (D := D) (R := R) ha.1 (by have := fun q => hc26 ((lw_gt _ _).mpr q); rw [Int64.lt_iff_toInt_lt] at this; exact Int.not_lt.mp this) rfl
    by_cases hc128 : (0 : Int32) < (lcmpW ((q2.toUInt64 >>> ((11 : Int32) &&& 0x3f).toInt64.toUInt64).toInt64) (2251799813685248 : Int64))
    · have d4 := own_kld (k := ((q2.toUInt64 >>> ((11 : Int32) &&& 0x3f).toInt64.toUInt64).toInt64)) (by have := (lw_gt _ _).mp hc128; rw [Int64.lt_iff_toInt_lt] at this; exact this)
      have K := fun {R e : UInt64} => own_kl (R := R) (e := e) dk d4
      exact rm0_sl l Z a0 hw ws p1 q2 _ _ _ _ _ _ _ _ h0 n0 Z0 (fun _ => rfl) ((G rfl rfl).1) (fun _ => rfl) (hc26) (fun _ => rfl) ((G rfl rfl).2.2.1) (fun _ => rfl) (own_nn dk.1) (fun _ => rfl) (hc128) ((K rfl rfl).1) ((K rfl rfl).2.1) ((K rfl rfl).2.2.1) ((K rfl rfl).2.2.2.1) ((K rfl rfl).2.2.2.2.1) (fun _ => rfl) ((by decide)) (G rfl rfl).2.1 (own_LA2 dk d4 rfl) (K rfl rfl).2.2.2.2.2 (fun _ => (G rfl rfl).2.2.2)
    · have d4 := own_ksd (k := ((q2.toUInt64 >>> ((11 : Int32) &&& 0x3f).toInt64.toUInt64).toInt64)) hk.1 (by have := fun q => hc128 ((lw_gt _ _).mpr q); rw [Int64.lt_iff_toInt_lt] at this; exact Int.not_lt.mp this)
      have K := fun {R e : UInt64} => own_ks (R := R) (e := e) dk d4
      exact rm0_ss l Z a0 hw ws p1 q2 _ _ _ _ _ _ _ _ h0 n0 Z0 (fun _ => rfl) ((G rfl rfl).1) (fun _ => rfl) (hc26) (fun _ => rfl) ((G rfl rfl).2.2.1) (fun _ => rfl) (own_nn dk.1) (fun _ => rfl) (hc128) ((K rfl rfl).1) ((K rfl rfl).2.1) ((K rfl rfl).2.2.1) ((K rfl rfl).1) ((K rfl rfl).2.1) ((K rfl rfl).2.2.2.1) ((K rfl rfl).2.2.2.2.1) (fun _ => rfl) ((by decide)) (G rfl rfl).2.1 (own_LA1 dk d4 rfl) (K rfl rfl).2.2.2.2.2 (fun _ => (G rfl rfl).2.2.2)
-- 5. FROM THE CASE'S WORDS TO rm0, AND THE OWED THEOREMS
set_option maxRecDepth 65536 in
set_option maxHeartbeats 40000000 in
theorem comes_1 {Post : Tables → Env → Array Value → State → Outcome → State → Prop} (hpost : ∀ tb e args s v u, (limb_1_1.after args s (.returned v) u = true ∧ limb_1_2.after args s (.returned v) u = true ∧ True) → FrameEnd s (.returned v) u (Jvm.fieldLocs frame_1_writes args s ++ Jvm.arrayLocs frame_1_arrays args s ++ Jvm.staticLocs frame_1_statics s) 0 0 → Post tb e args s (.returned v) u) :
    ArmFor flags0 classFile x code maxLocals ret World_1 tables_1 room_1 Calls_1 rest_1 Pre_1 Post := by
  intro l hfl _ _ p e ha hc hk s m args below hf hA hF happ hP
  obtain ⟨hcalls, hrest, hpre⟩ := hP
  obtain ⟨-, -, -, hnamed, -, -, -, hat⟩ := (Spec.applies_iff hf).mp happ
  obtain ⟨hg, hn⟩ := and_e (Cond.before_iff.mp (show (Jvm.Cond.and given_1 narrow_1).before args s = true from hpre))
  obtain ⟨g7, g8⟩ := and_e hg
  obtain ⟨g9, g10⟩ := and_e g8
  obtain ⟨w0, w1, rfl⟩ : ∃ w0 w1 : Value, args = #[w0, w1] := by
    have hs : args.size = 2 := by simpa [Cond.value, given_1] using g7
    obtain ⟨L⟩ := args
    match L, hs with
    | [w0, w1], _ => exact ⟨w0, w1, rfl⟩
  have hw := fun d (hd : d ∈ tables_1) => atoms_spec (ws := Jvm.Cond.code x code maxLocals ret :: tables_1) hat d (List.mem_cons_of_mem _ hd)
  have hfit : Fit s := fun {y c} hc i hi => by
    obtain ⟨ha, rfl⟩ := Array.getElem?_eq_some_iff.mp hc
    have q := List.all_eq_true.mp ((Array.all_eq_true_iff_forall_mem.mp hF) _ (Array.getElem_mem ha)) i (List.mem_range.mpr hi)
    simpa [Array.getElem?_eq_getElem hi] using q
  obtain ⟨i0, ei0⟩ := is_v g9
  obtain rfl : w0 = (.int i0) := Option.some.inj ei0
  obtain ⟨i1, ei1⟩ := isL_v g10
  obtain rfl : w1 = (.long i1) := Option.some.inj ei1
  obtain ⟨n, o, h1, h2, h3, _, L, rfl, ⟨rfl, N⟩, hq⟩ := rm0 l s _ hw tables_1 i0 i1 s.heap s.heap.size (Nat.le_refl _)  p e ha hc hk s m _ below hf ((Spec.applies_iff_loose hf).mp happ).1 ⟨rfl, State.Warmed39.refl s, rfl⟩ trivial
  refine ⟨n, _, h1, h2, h3, hpost _ _ _ _ _ _ ⟨Cond.after_iff.mpr rfl, Cond.after_iff.mpr (eq_i res_at (Term.int_eval (1)) rfl), trivial⟩ ⟨hq.1, hq.2.1, (hq.2.2.sift fun y hy => Or.inr (N y hy)).mono (by decide) (by decide)⟩⟩
theorem main_1_1 : Claimed_1_1 := comes_1 fun _ _ _ _ _ _ h hF => ⟨h.1, hF⟩
theorem main_1_2 : Claimed_1_2 := comes_1 fun _ _ _ _ _ _ h hF => ⟨h.2.1, hF⟩
-- 6. THE WITNESS: 'witness <made dir> --arg ..' lays it behind; then: end Jvm.Pilot.@@N@@
end Jvm.Pilot.@@N@@
namespace Jvm.Pilot.@@N@@
open Jvm Jvm.ClassFile Sem Op Lib Jvm.Free Jvm.Stand Jvm.Pilot.@@N@@.Jvm.D
/-! MADE BY PROGRAM (witnessworld.py) out of the Statement's table words and the real class files: 7 classes; the members and pool entries that the words name. The judged class is class 1, her method 1. -/
namespace start1
open Jvm.ClassFile
def u (s : String) : CpInfo := .utf8 (stringToUtf16 s)
/-- a pool by its gaps: so many unusable entries, then the entry; so many at the end -/
def gap : Nat → List CpInfo → List CpInfo
  | 0, r => r
  | n + 1, r => .unusable :: gap n r
def poolList (es : List (Nat × CpInfo)) (last : Nat) : List CpInfo := es.foldr (fun e r => gap e.1 (e.2 :: r)) (gap last [])
def pool (es : List (Nat × CpInfo)) (last : Nat) : Array CpInfo := ⟨poolList es last⟩
def fileOf (pool : Array CpInfo) (this : Nat) (attrs : Array Attribute := #[]) (ms : Array MethodInfo := #[]) (fl : Nat := 33) (sup : Nat := 0) (ifs : Array Nat := #[]) (fds : Array FieldInfo := #[]) : ClassFile where
  minorVersion := 0
  majorVersion := 65
  constantPool := pool
  accessFlags := fl
  thisClass := this
  superClass := sup
  interfaces := ifs
  fields := fds
  methods := ms
  attributes := attrs
def plain (name : String) (sup : Option ClassId) : Class where
  name := name
  kind := .ordinary
  loader := none
  accessFlags := 33
  super := sup
  interfaces := #[]
  cf := none
  fields := #[]
  methods := #[]
  instanceTypes := #[]
  staticTypes := #[]
  resolved := #[]
  callSites := []
  init := .initialized
  statics := none
  mirror := none

def pool0 : Array CpInfo := pool [(5, u "<init>"), (0, u "()V"), (1, .class_ 10), (1, u "java/lang/Object")] 113

def k0m0 : Method := { name := "<init>", desc := "()V", sig := { parameters := [], returnType := none }, accessFlags := 1, code := none }
/-- java/lang/Object -/
def k0 : Class := { plain "java/lang/Object" none with
  accessFlags := 33
  interfaces := #[]
  cf := some (fileOf pool0 8 #[] #[{ accessFlags := 1, nameIndex := 5, descriptorIndex := 6, attributes := #[] }] 33 0 #[] #[])
  fields := #[]
  methods := #[k0m0]
  instanceTypes := #[]
  staticTypes := #[]
  resolved := Array.replicate 124 none
  statics := none }

def pool1 : Array CpInfo := pool [(2, .class_ 4), (1, u "java/lang/Object"), (0, u "<init>"), (0, u "()V"), (0, .integer 65535), (0, .double 4535124824762089472), (1, .methodref 11 12), (0, .class_ 13), (0, .nameAndType 14 15), (0, u "com/example/level_ring/levelring/placement/Members"), (0, u "logAtMost"), (0, u "(D)D"), (0, .long 16384), (1, .double 4386506037058863104), (1, .long 131072), (1, .long 65536), (1, .methodref 25 26), (0, .class_ 27), (0, .nameAndType 28 29), (0, u "com/example/level_ring/levelring/placement/MembersLogAtMostPinLaw"), (0, u "close"), (0, u "(DD)Z"), (0, .double 4368491638549381120), (1, .long 2251799813685248), (1, .double 4602678819172646912), (1, .double 4611686018427387904), (3, u "law"), (0, u "(IJ)Z")] 3

def k1m0 : Method := { name := "<init>", desc := "()V", sig := { parameters := [], returnType := none }, accessFlags := 2, code := none }
def k1c1 : Code := { maxStack := 8, maxLocals := 18, code := code, exceptionTable := #[], attributes := #[] }
def k1m1 : Method := { name := "law", desc := "(IJ)Z", sig := { parameters := [.int, .long], returnType := some .boolean }, accessFlags := 9, code := some k1c1 }
def k1c2 : Code := { maxStack := 4, maxLocals := 6, code := method_3_code, exceptionTable := #[], attributes := #[] }
def k1m2 : Method := { name := "close", desc := "(DD)Z", sig := { parameters := [.double, .double], returnType := some .boolean }, accessFlags := 10, code := some k1c2 }
/-- com/example/level_ring/levelring/placement/MembersLogAtMostPinLaw -/
def k1 : Class := { plain "com/example/level_ring/levelring/placement/MembersLogAtMostPinLaw" (some 0) with
  accessFlags := 49
  interfaces := #[]
  cf := some (fileOf pool1 25 #[] #[{ accessFlags := 2, nameIndex := 5, descriptorIndex := 6, attributes := #[] }, { accessFlags := 9, nameIndex := 40, descriptorIndex := 41, attributes := #[] }, { accessFlags := 10, nameIndex := 28, descriptorIndex := 29, attributes := #[] }] 49 2 #[] #[])
  fields := #[]
  methods := #[k1m0, k1m1, k1m2]
  instanceTypes := #[]
  staticTypes := #[]
  resolved := Array.replicate 45 none
  statics := none }

def pool2 : Array CpInfo := pool [(2, .class_ 4), (1, u "java/lang/Object"), (3, .class_ 10), (1, u "com/example/level_ring/levelring/placement/Members"), (8, .class_ 20), (0, u "com/example/level_ring/levelring/placement/Members$Named"), (64, u "nodes"), (0, u "[Lcom/example/level_ring/levelring/placement/Node;"), (3, u "names"), (0, u "[[B"), (2, u "namePositions"), (0, u "[J"), (2, u "weightValues"), (0, u "[D"), (2, u "inverseWeights"), (2, u "everyMember"), (0, u "[I"), (2, u "byName"), (22, u "largestWeightValue"), (0, u "D"), (136, u "(D)D"), (6, u "logAtMost"), (20, .double 4602678819172646912), (1, .double 4598175219545276416), (1, .double 4611686018427387904), (36, u "CERTAIN_RELATIVE_GAP"), (1, u "CUBIC_BOUND_REACH"), (0, u "TOO_CLOSE_BITS"), (0, u "I"), (1, u "LOGARITHM_ROUNDING")] 73

def k2c0 : Code := { maxStack := 10, maxLocals := 2, code := prog_36_method_32_code, exceptionTable := #[], attributes := #[] }
def k2m0 : Method := { name := "logAtMost", desc := "(D)D", sig := { parameters := [.double], returnType := some .double }, accessFlags := 8, code := some k2c0 }
/-- com/example/level_ring/levelring/placement/Members -/
def k2 : Class := { plain "com/example/level_ring/levelring/placement/Members" (some 0) with
  accessFlags := 48
  interfaces := #[]
  cf := some (fileOf pool2 8 #[.nestMembers #[19]] #[{ accessFlags := 8, nameIndex := 277, descriptorIndex := 270, attributes := #[] }] 48 2 #[] #[{ accessFlags := 24, nameIndex := 339, descriptorIndex := 133, attributes := #[] }, { accessFlags := 24, nameIndex := 341, descriptorIndex := 133, attributes := #[] }, { accessFlags := 24, nameIndex := 342, descriptorIndex := 343, attributes := #[] }, { accessFlags := 26, nameIndex := 345, descriptorIndex := 133, attributes := #[] }, { accessFlags := 18, nameIndex := 85, descriptorIndex := 86, attributes := #[] }, { accessFlags := 18, nameIndex := 90, descriptorIndex := 91, attributes := #[] }, { accessFlags := 18, nameIndex := 109, descriptorIndex := 106, attributes := #[] }, { accessFlags := 18, nameIndex := 94, descriptorIndex := 95, attributes := #[] }, { accessFlags := 18, nameIndex := 98, descriptorIndex := 99, attributes := #[] }, { accessFlags := 18, nameIndex := 132, descriptorIndex := 133, attributes := #[] }, { accessFlags := 18, nameIndex := 102, descriptorIndex := 99, attributes := #[] }, { accessFlags := 18, nameIndex := 105, descriptorIndex := 106, attributes := #[] }])
  fields := #[{ name := "CERTAIN_RELATIVE_GAP", type := .double, accessFlags := 24, slot := 0, constantValue := 0 }, { name := "CUBIC_BOUND_REACH", type := .double, accessFlags := 24, slot := 1, constantValue := 0 }, { name := "TOO_CLOSE_BITS", type := .int, accessFlags := 24, slot := 2, constantValue := 0 }, { name := "LOGARITHM_ROUNDING", type := .double, accessFlags := 26, slot := 3, constantValue := 0 }, { name := "nodes", type := (.array (.object "com/example/level_ring/levelring/placement/Node")), accessFlags := 18, slot := 0, constantValue := 0 }, { name := "names", type := (.array (.array .byte)), accessFlags := 18, slot := 1, constantValue := 0 }, { name := "byName", type := (.array .int), accessFlags := 18, slot := 2, constantValue := 0 }, { name := "namePositions", type := (.array .long), accessFlags := 18, slot := 3, constantValue := 0 }, { name := "weightValues", type := (.array .double), accessFlags := 18, slot := 4, constantValue := 0 }, { name := "largestWeightValue", type := .double, accessFlags := 18, slot := 5, constantValue := 0 }, { name := "inverseWeights", type := (.array .double), accessFlags := 18, slot := 6, constantValue := 0 }, { name := "everyMember", type := (.array .int), accessFlags := 18, slot := 7, constantValue := 0 }]
  methods := #[k2m0]
  instanceTypes := #[(.array (.object "com/example/level_ring/levelring/placement/Node")), (.array (.array .byte)), (.array .int), (.array .long), (.array .double), .double, (.array .double), (.array .int)]
  staticTypes := #[.double, .double, .int, .double]
  resolved := Array.replicate 419 none
  statics := none }

def pool3 : Array CpInfo := pool [(1, u "java/lang/Cloneable"), (0, .class_ 1), (0, u "java/lang/Object"), (0, .class_ 3)] 3

/-- java/lang/Cloneable -/
def k3 : Class := { plain "java/lang/Cloneable" (some 0) with
  accessFlags := 1537
  interfaces := #[]
  cf := some (fileOf pool3 2 #[] #[] 1537 4 #[] #[])
  fields := #[]
  methods := #[]
  instanceTypes := #[]
  staticTypes := #[]
  resolved := Array.replicate 8 none
  statics := none }

def pool4 : Array CpInfo := pool [(1, u "java/io/Serializable"), (0, .class_ 1), (0, u "java/lang/Object"), (0, .class_ 3)] 3

/-- java/io/Serializable -/
def k4 : Class := { plain "java/io/Serializable" (some 0) with
  accessFlags := 1537
  interfaces := #[]
  cf := some (fileOf pool4 2 #[] #[] 1537 4 #[] #[])
  fields := #[]
  methods := #[]
  instanceTypes := #[]
  staticTypes := #[]
  resolved := Array.replicate 8 none
  statics := none }

/-- the primitive byte -/
def k5 : Class := { plain "byte" none with kind := .primitive 'B', accessFlags := 0x411 }
/-- [B -/
def k6 : Class := { plain "[B" (some 0) with kind := .array 5 .byte, interfaces := #[3, 4], accessFlags := 1041 }

def heap : Heap := #[]
def classes : Array Class := #[k0, k1, k2, k3, k4, k5, k6]
def interned : List (Array UInt16 × Addr) := []
def slotsUsed : Nat := 0
def theMethod : MethodId := ⟨1, 1⟩
def args0 : Array Value := #[.int 5, .long 6]
def aboutOver (below : List Frame) : State where
  vm := { classes := classes, interned := interned.toArray }
  heap := heap
  slotsUsed := slotsUsed
  threads := #[{ frames := .invoking theMethod args0 :: below }]
def below0 : List Frame := [.native { method := ⟨0, 0⟩, args := #[] }]
def about1 : State := aboutOver below0
def p0 : Program := .bare "" "" ""
def e0 : Env := launch0.env 0 0 0
theorem w_frames : about1.frames = Frame.invoking theMethod args0 :: below0 := rfl
set_option maxRecDepth 65536 in
theorem w_args : argsFit about1.vm theMethod args0 = true := by decide +kernel
set_option maxRecDepth 65536 in
theorem w_heap : heapFits about1 = true := by decide +kernel
set_option maxRecDepth 65536 in
theorem w_runnable : about1.curStatus? = some .runnable := by decide +kernel
set_option maxRecDepth 65536 in
theorem w_alone : about1.alone = true := by decide +kernel
set_option maxRecDepth 65536 in
theorem w_named : about1.methodNamed? x = some theMethod := by decide +kernel
set_option maxRecDepth 65536 in
theorem w_hears : about1.hears theMethod below0 = true := by decide +kernel
set_option maxRecDepth 65536 in
theorem w_ripe : about1.ripe theMethod args0 below0 = true := by decide +kernel
theorem w_running : about1.status = .running := rfl
set_option maxRecDepth 65536 in
theorem w_room : about1.hasRoom e0.platform room_1 = true :=
  launch0.hasRoom_least _ room_1 (by decide +kernel) (by decide +kernel) (by decide +kernel) (by decide +kernel) (by decide +kernel) (by decide +kernel)
theorem allAtoms_all (ts : List Jvm.Cond) (a : Array Jvm.Value) (st : Jvm.State) : (allAtoms ts).before a st = ts.all (fun c => c.before a st) := by
  induction ts with
  | nil => rfl
  | cons c t ih =>
    show (Jvm.Cond.and c (allAtoms t)).before a st = _
    rw [Jvm.Cond.before_and, ih, List.all_cons]
def words1 : List Jvm.Cond := Jvm.Cond.code x code maxLocals ret :: tables_1
/-- a 'code' word, met by the world's own term for the bytes: nothing is compared byte by byte -/
theorem code_word {y : MethodName} {bytes : ByteArray} {mx : Nat} {rt : Option FieldType} {a : Array Value} {s : State} {m : MethodId} {meth : Method} {c : Code} (h1 : s.methodNamed? y = some m) (h2 : s.vm.method? m = some meth) (h3 : meth.code = some c) (h4 : c.code = bytes)
    (h5 : (c.maxLocals == mx && c.exceptionTable.isEmpty && decide (c.maxStack ≤ mostOperands) && decide (meth.sig.returnType = rt) && !meth.locks && decide (parseMethodDescriptor y.desc = some meth.sig)) = true) : (Jvm.Cond.code y bytes mx rt).before a s = true := by
  simp only [Bool.and_eq_true, beq_iff_eq, Bool.not_eq_true', decide_eq_true_eq] at h5
  obtain ⟨⟨⟨⟨⟨g1, g2⟩, g3⟩, g4⟩, g5⟩, g6⟩ := h5
  simp [Cond.before, Cond.holds, Cond.value, h1, h2, h3, h4, g1, g2, g3, g4, g5, g6]
def isCode : Jvm.Cond → Bool
  | .code _ _ _ _ => true
  | _ => false
theorem all_split {L : List Jvm.Cond} {P : Jvm.Cond → Bool} (h1 : L.all (fun c => isCode c || P c) = true) (h2 : ∀ c ∈ L.filter isCode, P c = true) : L.all P = true := by
  refine List.all_eq_true.mpr fun c hc => ?_
  have h := List.all_eq_true.mp h1 c hc
  rcases Bool.eq_false_or_eq_true (isCode c) with hi | hi
  · exact h2 c (List.mem_filter.mpr ⟨hc, hi⟩)
  · simpa [hi] using h
set_option maxRecDepth 65536 in
theorem w_c0 : (Jvm.Cond.code x code maxLocals ret).before args0 about1 = true := code_word (m := ⟨1, 1⟩) (meth := k1m1) (c := k1c1) (by decide +kernel) rfl rfl rfl (by decide +kernel)
set_option maxRecDepth 65536 in
theorem w_c1 : (Jvm.Cond.code ({ cls := "com/example/level_ring/levelring/placement/Members", name := "logAtMost", desc := "(D)D" } : Jvm.MethodName) prog_36_method_32_code (2 : Nat) (Option.some Jvm.ClassFile.FieldType.double)).before args0 about1 = true := code_word (m := ⟨2, 0⟩) (meth := k2m0) (c := k2c0) (by decide +kernel) rfl rfl rfl (by decide +kernel)
set_option maxRecDepth 65536 in
theorem w_c2 : (Jvm.Cond.code ({ cls := "com/example/level_ring/levelring/placement/MembersLogAtMostPinLaw", name := "close", desc := "(DD)Z" } : Jvm.MethodName) method_3_code (6 : Nat) (Option.some Jvm.ClassFile.FieldType.boolean)).before args0 about1 = true := code_word (m := ⟨1, 2⟩) (meth := k1m2) (c := k1c2) (by decide +kernel) rfl rfl rfl (by decide +kernel)
def codes1 : List Jvm.Cond := [Jvm.Cond.code x code maxLocals ret, Jvm.Cond.code ({ cls := "com/example/level_ring/levelring/placement/Members", name := "logAtMost", desc := "(D)D" } : Jvm.MethodName) prog_36_method_32_code (2 : Nat) (Option.some Jvm.ClassFile.FieldType.double), Jvm.Cond.code ({ cls := "com/example/level_ring/levelring/placement/MembersLogAtMostPinLaw", name := "close", desc := "(DD)Z" } : Jvm.MethodName) method_3_code (6 : Nat) (Option.some Jvm.ClassFile.FieldType.boolean)]
set_option maxRecDepth 65536 in
theorem codes_eq : words1.filter isCode = codes1 := rfl
theorem w_codes : ∀ c ∈ words1.filter isCode, c.before args0 about1 = true := by
  rw [codes_eq]
  intro c hc
  simp only [codes1, List.mem_cons, List.not_mem_nil, or_false] at hc
  rcases hc with rfl | rfl | rfl
  · exact w_c0
  · exact w_c1
  · exact w_c2
set_option maxRecDepth 65536 in
theorem w_t1 : words1.all (fun c => isCode c || c.before args0 about1) = true := by decide +kernel
theorem w_tables : (allAtoms (Jvm.Cond.code x code maxLocals ret :: tables_1)).before args0 about1 = true := by
  rw [allAtoms_all]
  show words1.all (fun c => c.before args0 about1) = true
  refine all_split ?_ w_codes
  rw [w_t1]
set_option maxRecDepth 65536 in
theorem w_case : (Jvm.Cond.and given_1 narrow_1).before args0 about1 = true := by decide +kernel
theorem w_applies : (headSpec (Jvm.Cond.code x code maxLocals ret :: tables_1) room_1).applies x e0.platform about1 = true :=
  (Spec.applies_iff w_frames).mpr ⟨w_running, w_runnable, w_alone, w_named, w_hears, w_ripe, w_room, w_tables⟩
theorem atStart : AtStart classFile x code maxLocals ret World_1 tables_1 room_1 Calls_1 rest_1 Pre_1 launch0 p0 e0 about1 theMethod args0 below0 :=
  ⟨lists_1, trivial, launch0.admits_env _ _ _, launch0.least_env, fairChoices_fair.cas, fairChoices_fair.clock, w_frames, w_args, w_heap, w_applies, trivial, trivial, w_case⟩
end start1
theorem witness_1 : WitnessClaimed_1 := ⟨start1.p0, start1.e0, start1.about1, start1.theMethod, start1.args0, start1.below0, start1.atStart⟩
end Jvm.Pilot.@@N@@
