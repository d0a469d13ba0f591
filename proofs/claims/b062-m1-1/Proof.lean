import JvmDerived
import JvmDerived.Pilot.@@N@@Statement
import JvmDerived.Pilot.@@N@@Code
set_option linter.unusedVariables false
set_option linter.unusedSimpArgs false
@@BLOCK:NumsL.lean.txt@@
namespace Jvm.FP.Core
theorem own_rr_exact {s : Bool} {A : Nat} {e : Int} (K : Nat) (q : Int) (hK : K < 2 ^ 53) (h1 : -1074 ≤ q) (h2 : q ≤ 971) (h : A * 2 ^ (e - q).toNat = K * 2 ^ (q - e).toNat) :
    ∃ c q', roundRatio b64 s A 1 e = .fin s c q' ∧ inUnits c q' b64.qmin = inUnits K q b64.qmin := by
  have := round_exact good_b64 s (c := K) (q := q) hK h1 h2
  unfold round at this
  rwa [roundRatio_congr (f := b64) (s := s) (A := A) (B := 1) (A' := K) (B' := 1) (e := e) (e' := q) (by decide) (by decide) (by rw [Nat.mul_one, Nat.mul_one]; exact h)]
theorem own_fits_q {s : Bool} {c : Nat} {q : Int} (h : fits b64 (.fin s c q)) : -1074 ≤ q ∧ q ≤ 971 ∧ c < 2 ^ 53 := ⟨h.2.1, h.2.2.1, h.1⟩
theorem own_mul {a b : UInt64} {s t : Bool} {c d : Nat} {q r : Int} (ha : val64 a = .fin s c q) (hb : val64 b = .fin t d r) : val64 (dmul a b) = roundRatio b64 (s != t) (zmag b64 (val64 a) * zmag b64 (val64 b)) 1 (-2148) := by
  have fa := val64_fits a
  have fb := val64_fits b
  rw [ha] at fa
  rw [hb] at fb
  have q1 := (own_fits_q fa).1
  have r1 := (own_fits_q fb).1
  rw [val64_dmul, ha, hb]
  show roundRatio b64 (s != t) (c * d) 1 (q + r) = _
  refine roundRatio_congr (by decide) (by decide) ?_
  show c * d * 1 * 2 ^ (q + r - (-2148)).toNat = c * 2 ^ (q - (-1074)).toNat * (d * 2 ^ (r - (-1074)).toNat) * 1 * 2 ^ ((-2148) - (q + r)).toNat
  have e1 : (q + r - (-2148)).toNat = (q - (-1074)).toNat + (r - (-1074)).toNat := by omega
  have e2 : ((-2148) - (q + r)).toNat = 0 := by omega
  rw [e1, e2, Nat.pow_add, Nat.pow_zero, Nat.mul_one, Nat.mul_one, Nat.mul_one]
  generalize 2 ^ (q - (-1074)).toNat = x
  generalize 2 ^ (r - (-1074)).toNat = y
  simp only [Nat.mul_left_comm, Nat.mul_comm]
/-- a whole number below 2^53 as a double: its sign and its size in least units -/
theorem own_l2d {k : Int64} (h1 : k.toInt.natAbs < 2 ^ 53) : ∃ c q, val64 (l2d k) = .fin (decide (k.toInt < 0)) c q ∧ zmag b64 (val64 (l2d k)) = k.toInt.natAbs * 2 ^ 1074 := by
  have e : val64 (l2d k) = roundRatio b64 (decide (k.toInt < 0)) k.toInt.natAbs 1 0 := val64_l2d k
  obtain ⟨c, q, e1, e2⟩ := own_rr_exact (s := decide (k.toInt < 0)) (A := k.toInt.natAbs) (e := 0) k.toInt.natAbs 0 h1 (by omega) (by omega) rfl
  refine ⟨c, q, e.trans e1, ?_⟩
  rw [e, e1]
  exact e2
/-- a power of two as a double -/
def Pow (b : UInt64) (J : Nat) : Prop := (∃ d r, val64 b = .fin false d r) ∧ zmag b64 (val64 b) = 2 ^ J
theorem own_ms {k : Int64} {b : UInt64} {J : Nat} (h1 : k.toInt.natAbs < 2 ^ 53) (hb : Pow b J) (hJ : J ≤ 2045) :
    ∃ c q, val64 (dmul (l2d k) b) = .fin (decide (k.toInt < 0)) c q ∧ zmag b64 (val64 (dmul (l2d k) b)) = k.toInt.natAbs * 2 ^ J := by
  obtain ⟨⟨d, r, hb1⟩, hb2⟩ := hb
  obtain ⟨c, q, e1, e2⟩ := own_l2d h1
  have e3 := own_mul e1 hb1
  rw [e2, hb2] at e3
  have s0 : (decide (k.toInt < 0) != false) = decide (k.toInt < 0) := by cases decide (k.toInt < 0) <;> rfl
  rw [s0] at e3
  obtain ⟨c', q', e4, e5⟩ := own_rr_exact (s := decide (k.toInt < 0)) (A := k.toInt.natAbs * 2 ^ 1074 * 2 ^ J) (e := -2148) k.toInt.natAbs ((J : Int) - 1074) h1 (by omega) (by omega) (by
    have a1 : (-2148 - ((J : Int) - 1074)).toNat = 0 := by omega
    have a2 : ((J : Int) - 1074 - -2148).toNat = 1074 + J := by omega
    rw [a1, a2, Nat.pow_zero, Nat.mul_one, Nat.mul_assoc, ← Nat.pow_add])
  refine ⟨c', q', e3.trans e4, ?_⟩
  rw [e3, e4]
  refine e5.trans ?_
  show k.toInt.natAbs * 2 ^ ((J : Int) - 1074 - (-1074)).toNat = _
  have : ((J : Int) - 1074 - (-1074)).toNat = J := by omega
  rw [this]
theorem own_zval {a : UInt64} {k : Int} {c : Nat} {q : Int} {J : Nat} (h : val64 a = .fin (decide (k < 0)) c q) (hz : zmag b64 (val64 a) = k.natAbs * 2 ^ J) : zval b64 (val64 a) = k * ((2 ^ J : Nat) : Int) := by
  unfold zval
  rw [hz, h]
  show signed (decide (k < 0)) (k.natAbs * 2 ^ J) = _
  unfold signed
  generalize (2 : Nat) ^ J = P
  by_cases g : k < 0
  · rw [decide_eq_true g, if_pos rfl]
    have : k = -(k.natAbs : Int) := by omega
    conv => rhs; rw [this]
    rw [Int.neg_mul]; simp
  · rw [decide_eq_false g, if_neg (by simp)]
    have : k = (k.natAbs : Int) := by omega
    conv => rhs; rw [this]
    simp
theorem own_leading {n k : Nat} (h1 : 2 ^ k ≤ n) (h2 : n < 2 ^ (k + 1)) : leading n 1 = k := by
  have hn : n ≠ 0 := fun h => by rw [h] at h1; exact absurd h1 (Nat.not_le.mpr (Nat.two_pow_pos k))
  have hl : n.log2 = k := by
    have a := (Nat.le_log2 hn).mpr h1
    have b := (Nat.log2_lt hn).mpr h2
    omega
  have h0 : (1 : Nat).log2 = 0 := by decide
  unfold leading
  simp only [hl, h0]
  have e1 : ((k : Int) - ((0 : Nat) : Int)).toNat = k := by omega
  have e2 : (-((k : Int) - ((0 : Nat) : Int))).toNat = 0 := by omega
  rw [e1, e2, if_pos (by rw [Nat.one_mul, Nat.pow_zero, Nat.mul_one]; exact h1)]
  omega
/-- h (1 + 2^-48), rounded, for h from 2^52 to 3 * 2^51 -/
theorem own_gap {a b : UInt64} {h J : Nat} {c : Nat} {q : Int} (ha : val64 a = .fin false c q) (hz : zmag b64 (val64 a) = h * 2 ^ J) (h1 : 2 ^ 52 ≤ h) (h2 : h < 2 ^ 52 + 2 ^ 51) (hJ : J ≤ 2044) (hb : val64 b = .fin false 4503599627370512 (-52)) :
    ∃ c' q', val64 (dmul a b) = .fin false c' q' ∧ zmag b64 (val64 (dmul a b)) = nearest (h * 281474976710657) 281474976710656 * 2 ^ J := by
  have e3 := own_mul ha hb
  have zb : zmag b64 (val64 b) = 281474976710657 * 2 ^ 1026 := by rw [hb]; decide +kernel
  rw [hz, zb] at e3
  have e4 : roundRatio b64 (false != false) (h * 2 ^ J * (281474976710657 * 2 ^ 1026)) 1 (-2148) = roundRatio b64 false (h * 281474976710657) 1 ((J : Int) - 1122) := by
    refine roundRatio_congr (by decide) (by decide) ?_
    have a1 : (-2148 - ((J : Int) - 1122)).toNat = 0 := by omega
    have a2 : ((J : Int) - 1122 - -2148).toNat = J + 1026 := by omega
    rw [a1, a2, Nat.pow_zero, Nat.mul_one, Nat.mul_one, Nat.mul_one, Nat.pow_add]
    generalize 2 ^ J = x
    generalize 2 ^ 1026 = y
    generalize 281474976710657 = z
    simp only [Nat.mul_left_comm, Nat.mul_comm]
  rw [e4] at e3
  have hl : leading (h * 281474976710657) 1 = (100 : Nat) := own_leading (by omega) (by omega)
  have hq : quantum b64 (h * 281474976710657) 1 ((J : Int) - 1122) = (J : Int) - 1074 := by
    unfold quantum
    rw [hl]
    show max (-1074 : Int) (((100 : Nat) : Int) + ((J : Int) - 1122) - (53 - 1)) = _
    omega
  have hne : ¬ (h * 281474976710657 = 0) := by omega
  have hd : 0 < 281474976710656 := by decide
  have hlt : nearest (h * 281474976710657) 281474976710656 ≤ h + 24 := nearest_le hd (by omega)
  have e5 : roundRatio b64 false (h * 281474976710657) 1 ((J : Int) - 1122) = .fin false (nearest (h * 281474976710657) 281474976710656) ((J : Int) - 1074) := by
    unfold roundRatio
    rw [if_neg hne, hq]
    unfold roundAt unitsNum unitsDen
    have a1 : ((J : Int) - 1122 - ((J : Int) - 1074)).toNat = 0 := by omega
    have a2 : ((J : Int) - 1074 - ((J : Int) - 1122)).toNat = 48 := by omega
    rw [a1, a2, Nat.pow_zero, Nat.mul_one, Nat.one_mul]
    show settle b64 false (nearest (h * 281474976710657) 281474976710656) ((J : Int) - 1074) = _
    unfold settle bound
    rw [if_pos (show nearest (h * 281474976710657) 281474976710656 < 2 ^ b64.p from (by show _ < 2 ^ 53; omega)), if_pos (show (J : Int) - 1074 ≤ b64.qmax from (by show _ ≤ (971 : Int); omega))]
  refine ⟨_, _, e3.trans e5, ?_⟩
  rw [e3, e5]
  show nearest (h * 281474976710657) 281474976710656 * 2 ^ ((J : Int) - 1074 - (-1074)).toNat = _
  have : ((J : Int) - 1074 - (-1074)).toNat = J := by omega
  rw [this]
theorem own_near {h q r : Nat} (hr : r < 281474976710656) (e : h = q * 281474976710656 + r) : nearest (h * 281474976710657) 281474976710656 = if 2 * r < 281474976710656 then h + q else if 281474976710656 < 2 * r then h + q + 1 else h + q + (h + q) % 2 := by
  have e1 : h * 281474976710657 = (h + q) * 281474976710656 + r := by omega
  have e2 : h * 281474976710657 % 281474976710656 = r := by omega
  have e3 : h * 281474976710657 / 281474976710656 = h + q := by omega
  unfold nearest
  rw [e2, e3]
theorem own_cmp {a b : UInt64} {s t : Bool} {c d : Nat} {q r : Int} (ha : val64 a = .fin s c q) (hb : val64 b = .fin t d r) : dcmp a b = some (compare (zval b64 (val64 a)) (zval b64 (val64 b))) :=
  dcmp_zval (by rw [ha]; intro h; cases h) (by rw [hb]; intro h; cases h)
abbrev own_C : UInt64 := 4607182418800017424
abbrev own_MN : UInt64 := 4503599627370496
theorem own_v_C : val64 own_C = .fin false 4503599627370512 (-52) := by decide +kernel
theorem own_v_MN : val64 own_MN = .fin false 4503599627370496 (-1074) := by decide +kernel
theorem own_z_MN : zval b64 (val64 own_MN) = 4503599627370496 := by rw [own_v_MN]; decide +kernel
def own_ich (b h : UInt64) : Int32 := if cmpInt (-1) (dcmp h 0) = 0 then (if cmpInt (-1) (dcmp b own_MN) < 0 then 0 else 1) else if cmpInt (-1) (dcmp h own_MN) < 0 then 0 else if 0 < cmpInt (-1) (dcmp b (dmul h own_C)) then 1 else 0
theorem own_ci (a b : Int) : (cmpInt (-1) (some (compare a b)) = 0 ↔ a = b) ∧ (cmpInt (-1) (some (compare a b)) < 0 ↔ a < b) ∧ (0 < cmpInt (-1) (some (compare a b)) ↔ b < a) := by
  rcases Int.lt_trichotomy a b with h | h | h
  · rw [(compare_lt_iff a b).mpr h]
    have h1 : ¬ (a = b) := by omega
    have h2 : ¬ (b < a) := by omega
    simp only [h, h1, h2, iff_true, iff_false]
    decide
  · rw [(compare_eq_iff a b).mpr h]
    have h1 : ¬ (a < b) := by omega
    have h2 : ¬ (b < a) := by omega
    simp only [h1, h2, h, iff_true, iff_false]
    subst h
    simp only [Int.lt_irrefl, iff_false]
    decide
  · rw [(compare_gt_iff a b).mpr h]
    have h1 : ¬ (a = b) := by omega
    have h2 : ¬ (a < b) := by omega
    simp only [h, h1, h2, iff_true, iff_false]
    decide
theorem own_v0 : val64 0 = .fin false 0 b64.qmin := val64_zero
/-- a height of zero -/
theorem own_zero {b z : UInt64} {s t : Bool} {c d : Nat} {q r : Int} (hb : val64 b = .fin s c q) (hz : val64 z = .fin t d r) (z0 : zval b64 (val64 z) = 0) : own_ich b z = if zval b64 (val64 b) < 4503599627370496 then 0 else 1 := by
  unfold own_ich
  rw [own_cmp hz own_v0, own_cmp hb own_v_MN, zval64_zero, own_z_MN, if_pos ((own_ci _ _).1.mpr z0)]
  by_cases h : zval b64 (val64 b) < 4503599627370496
  · rw [if_pos ((own_ci _ _).2.1.mpr h), if_pos h]
  · rw [if_neg (fun g => h ((own_ci _ _).2.1.mp g)), if_neg h]
/-- a height that is not zero, below the least normal one -/
theorem own_low {b z : UInt64} {t : Bool} {d : Nat} {r : Int} (hz : val64 z = .fin t d r) (z0 : zval b64 (val64 z) ≠ 0) (z1 : zval b64 (val64 z) < 4503599627370496) : own_ich b z = 0 := by
  unfold own_ich
  rw [own_cmp hz own_v0, own_cmp hz own_v_MN, zval64_zero, own_z_MN, if_neg (fun g => z0 ((own_ci _ _).1.mp g)), if_pos ((own_ci _ _).2.1.mpr z1)]
/-- a height of normal size -/
theorem own_high {b z p : UInt64} {s t u : Bool} {c d g : Nat} {q r w : Int} (hb : val64 b = .fin s c q) (hz : val64 z = .fin t d r) (hp : val64 (dmul z own_C) = .fin u g w) (z1 : 4503599627370496 ≤ zval b64 (val64 z)) : own_ich b z = if zval b64 (val64 (dmul z own_C)) < zval b64 (val64 b) then 1 else 0 := by
  unfold own_ich
  rw [own_cmp hz own_v0, own_cmp hz own_v_MN, zval64_zero, own_z_MN, if_neg (fun g => by have := (own_ci _ _).1.mp g; omega), if_neg (fun g => by have := (own_ci _ _).2.1.mp g; omega), own_cmp hb hp]
  by_cases h : zval b64 (val64 (dmul z own_C)) < zval b64 (val64 b)
  · rw [if_pos ((own_ci _ _).2.2.mpr h), if_pos h]
  · rw [if_neg (fun g => h ((own_ci _ _).2.2.mp g)), if_neg h]
theorem own_case0 {h m : Int64} {b : UInt64} {J : Nat} {q r : Nat} (hJ : J ≤ 2044) (hb : Pow b J) (h1 : 2 ^ 52 ≤ h.toInt) (h2 : h.toInt < 2 ^ 52 + 2 ^ 51) (m1 : m.toInt.natAbs < 2 ^ 53) (e : h.toInt.natAbs = q * 281474976710656 + r) (hr : r < 281474976710656) {t : Int}
    (ht : t = if 2 * r < 281474976710656 then h.toInt + q else if 281474976710656 < 2 * r then h.toInt + q + 1 else h.toInt + q + (h.toInt + q) % 2) :
    own_ich (dmul (l2d m) b) (dmul (l2d h) b) = if t < m.toInt then 1 else 0 := by
  obtain ⟨c1, q1, a1, a2⟩ := own_ms (k := m) m1 hb (by omega)
  obtain ⟨c2, q2, b1, b2⟩ := own_ms (k := h) (by omega) hb (by omega)
  have za := own_zval a1 a2
  have zb := own_zval b1 b2
  rw [decide_eq_false (by omega)] at b1
  obtain ⟨c3, q3, d1, d2⟩ := own_gap b1 b2 (by omega) (by omega) hJ own_v_C
  rw [own_near hr e] at d2
  have zd : zval b64 (val64 (dmul (dmul (l2d h) b) own_C)) = t * ((2 ^ J : Nat) : Int) := by
    unfold zval
    rw [d2, d1]
    show ((_ * 2 ^ J : Nat) : Int) = _
    rw [Int.natCast_mul]
    congr 1
    rw [ht]
    split
    · omega
    · split <;> omega
  have hp : (0 : Int) < ((2 ^ J : Nat) : Int) := by have := Nat.two_pow_pos J; omega
  rw [own_high (p := 0) a1 b1 d1 (by rw [zb]; have := Int.mul_le_mul_of_nonneg_left (a := 1) (b := ((2 ^ J : Nat) : Int)) (c := h.toInt) (by omega) (by omega); omega), za, zd]
  by_cases g : t < m.toInt
  · rw [if_pos g, if_pos (Int.mul_lt_mul_of_pos_right g hp)]
  · rw [if_neg g, if_neg (fun w => g (Int.lt_of_mul_lt_mul_right w (Int.le_of_lt hp)))]
theorem own_case1 {m : Int64} {b z : UInt64} {J : Nat} {t : Bool} {d : Nat} {r : Int} (hJ : J ≤ 2044) (hb : Pow b J) (m1 : m.toInt.natAbs < 2 ^ 53) (hz : val64 z = .fin t d r) (z0 : zval b64 (val64 z) = 0) :
    own_ich (dmul (l2d m) b) z = if m.toInt * ((2 ^ J : Nat) : Int) < 4503599627370496 then 0 else 1 := by
  obtain ⟨c1, q1, a1, a2⟩ := own_ms (k := m) m1 hb (by omega)
  rw [own_zero a1 hz z0, own_zval a1 a2]
theorem own_big {J : Nat} (hJ : 52 ≤ J) (m : Int) : m * ((2 ^ J : Nat) : Int) < 4503599627370496 ↔ m < 1 := by
  have h : ((2 ^ J : Nat) : Int) ≥ 4503599627370496 := by
    have := Nat.pow_le_pow_right (n := 2) (by decide) hJ
    have e : (2 : Nat) ^ 52 = 4503599627370496 := by decide
    omega
  generalize ((2 ^ J : Nat) : Int) = P at h
  constructor
  · intro g
    apply Int.not_le.mp
    intro k
    have := Int.mul_le_mul_of_nonneg_right k (show 0 ≤ P by omega)
    omega
  · intro g
    have := Int.mul_le_mul_of_nonneg_right (show m ≤ 0 by omega) (show 0 ≤ P by omega)
    omega
theorem own_pow0 : Pow dconst1 1074 := ⟨⟨_, _, val64_dconst1⟩, by rw [val64_dconst1]; decide +kernel⟩
theorem own_pow1 : Pow 1 0 := ⟨⟨1, -1074, by decide +kernel⟩, by decide +kernel⟩
theorem own_pow2 : Pow 8975674057349398528 2044 := ⟨⟨4503599627370496, 918, by decide +kernel⟩, by decide +kernel⟩
theorem own_pow3 : Pow 2188749418902061056 537 := ⟨⟨4503599627370496, -589, by decide +kernel⟩, by decide +kernel⟩
end Jvm.FP.Core
namespace Jvm.RoadKit
open Sem ClassFile Op Lib Jvm.Stand Jvm.Free Jvm.LawKit
section New
variable {p : Program} {l : Launch} {e : Env} {R : Room} {s : State} {m : MethodId} {args : Array Value} {below : List Frame} {meth : Method} {c : Code} {T : State} {locs : List Loc} {cells slots : Nat}
theorem retI (X : Stand p l e R s m args below meth c T locs cells slots) (hx : p.tables.exec = Jvm.exec) {pc : Nat} {Ls : Array Slot} {z : Int32} {rest : List Value} (hret : meth.sig.returnType = some .int) (hd : decode c.code pc = .ok (.ireturn, 1)) {fs : List Frame}
    (hl : ∀ (f : JFrame) (acts : List Action), f.method = m → f.locked = none → f.entered = [] → (doReturn e (T.setTop f) acts (some (.int z))).1 = T.setFrames fs) : Steps p.tables e below (T.setTop (mkF m pc Ls (.int z :: rest))) (T.setFrames fs) := by
  have hm' : T.vm.method? m = some meth := X.method'
  have hn : narrow .int (.int z) = .int z := rfl
  show Steps p.tables e below (T.setTop { method := m, pc := pc, locals := Ls, stack := _ :: rest, locked := none }) _
  jvm_step X.here [X.here.top, hx, hd, hm', hret, hn]
  first | (intro acts; rw [hl _ acts rfl rfl rfl]) | rw [hl _ _ rfl rfl rfl]
  exact Steps.refl _
theorem own_retL (X : Stand p l e R s m args below meth c T locs cells slots) (hx : p.tables.exec = Jvm.exec) {pc : Nat} {Ls : Array Slot} {z : Int64} {rest : List Value} (hret : meth.sig.returnType = some .long) (hd : decode c.code pc = .ok (.lreturn, 1)) {fs : List Frame}
    (hl : ∀ (f : JFrame) (acts : List Action), f.method = m → f.locked = none → f.entered = [] → (doReturn e (T.setTop f) acts (some (.long z))).1 = T.setFrames fs) : Steps p.tables e below (T.setTop (mkF m pc Ls (.long z :: rest))) (T.setFrames fs) := by
  have hm' : T.vm.method? m = some meth := X.method'
  have hn : narrow .long (.long z) = .long z := rfl
  show Steps p.tables e below (T.setTop { method := m, pc := pc, locals := Ls, stack := _ :: rest, locked := none }) _
  jvm_step X.here [X.here.top, hx, hd, hm', hret, hn]
  first | (intro acts; rw [hl _ acts rfl rfl rfl]) | rw [hl _ _ rfl rfl rfl]
  exact Steps.refl _
theorem own_retD (X : Stand p l e R s m args below meth c T locs cells slots) (hx : p.tables.exec = Jvm.exec) {pc : Nat} {Ls : Array Slot} {z : UInt64} {rest : List Value} (hret : meth.sig.returnType = some .double) (hd : decode c.code pc = .ok (.dreturn, 1)) {fs : List Frame}
    (hl : ∀ (f : JFrame) (acts : List Action), f.method = m → f.locked = none → f.entered = [] → (doReturn e (T.setTop f) acts (some (.double z))).1 = T.setFrames fs) : Steps p.tables e below (T.setTop (mkF m pc Ls (.double z :: rest))) (T.setFrames fs) := by
  have hm' : T.vm.method? m = some meth := X.method'
  have hn : narrow .double (.double z) = .double z := rfl
  show Steps p.tables e below (T.setTop { method := m, pc := pc, locals := Ls, stack := _ :: rest, locked := none }) _
  jvm_step X.here [X.here.top, hx, hd, hm', hret, hn]
  first | (intro acts; rw [hl _ acts rfl rfl rfl]) | rw [hl _ _ rfl rfl rfl]
  exact Steps.refl _
end New
end Jvm.RoadKit
namespace Jvm.Pilot.@@N@@
open Jvm Jvm.ClassFile Sem Op Lib Jvm.Free Jvm.Stand Jvm.LawKit Jvm.RoadKit Bundle Jvm.Pilot.@@N@@.Jvm.D
theorem own_irem {tb : Tables} [Ours tb] {e : Env} {below : List Frame} {T target : State} {m : MethodId} {c : Code} {g : JFrame} (h : At T m c below) (hx : tb.exec = Jvm.exec) (hg : g.method = m) {x y : Int32} {rest : List Value} (hd : decode c.code g.pc = .ok (.irem, 1)) (hs : g.stack = .int y :: .int x :: rest) (hy : y ≠ 0)
    (hr : Steps tb e below (T.setTop { g with pc := g.pc + 1, stack := .int (x % y) :: rest }) target) : Steps tb e below (T.setTop g) target := XS.irem h hx hg hd hs hy (by rw [irem_eq_mod]; exact hr)
def own_H (x : Int64) : Int64 := ((4503599627370496 : Int64) ||| (x &&& (2251799813685247 : Int64)))
def own_q (x : Int64) : Int64 := (((own_H x).toUInt64 >>> ((48 : Int32) &&& 0x3f).toInt64.toUInt64).toInt64)
def own_r (x : Int64) : Int64 := (own_H x &&& (281474976710655 : Int64))
theorem own_H_int (x : Int64) : (own_H x).toInt = 4503599627370496 + x.toInt % 2251799813685248 := by
  have e : (x &&& (2251799813685247 : Int64)).toInt = x.toInt % 2 ^ 51 := Jvm.Kit.i64_mask _ _ (by decide) (by decide +kernel)
  have hadd : own_H x = (4503599627370496 : Int64) + (x &&& (2251799813685247 : Int64)) := by
    unfold own_H
    apply Int64.toBitVec_inj.mp
    rw [Int64.toBitVec_or, Int64.toBitVec_add]
    refine (BitVec.add_eq_or_of_and_eq_zero _ _ ?_).symm
    rw [Int64.toBitVec_and, BitVec.and_comm, BitVec.and_assoc]
    have : (2251799813685247 : Int64).toBitVec &&& (4503599627370496 : Int64).toBitVec = 0#64 := by decide +kernel
    rw [this, BitVec.and_zero]
  have k : (4503599627370496 : Int64).toInt = 4503599627370496 := by decide +kernel
  have a := Jvm.Kit.i64_add (x := (4503599627370496 : Int64)) (y := x &&& (2251799813685247 : Int64)) (by rw [k, e]; omega) (by rw [k, e]; omega)
  rw [hadd, a, k, e]
  omega
theorem own_H_rng (x : Int64) : 2 ^ 52 ≤ (own_H x).toInt ∧ (own_H x).toInt < 2 ^ 52 + 2 ^ 51 := by
  have := own_H_int x; omega
theorem own_q_int (x : Int64) : (own_q x).toInt = (own_H x).toInt / 281474976710656 := by
  have e : ((48 : Int32) &&& 0x3f).toInt64.toUInt64 = 48 := by decide +kernel
  unfold own_q
  rw [e]
  have h := own_H_rng x
  exact Jvm.Kit.i64_lushr (Jvm.Kit.i64_nonneg.mpr (by omega)) (k := 48) (by decide) (by decide)
theorem own_r_int (x : Int64) : (own_r x).toInt = (own_H x).toInt % 281474976710656 := by
  have e : (own_H x &&& (281474976710655 : Int64)).toInt = (own_H x).toInt % 2 ^ 48 := Jvm.Kit.i64_mask _ _ (by decide) (by decide +kernel)
  exact e
def own_u (x : Int64) : Int64 := if (140737488355328 : Int64) < own_r x then 1 else if own_r x < 140737488355328 then 0 else if ((own_H x + own_q x) &&& (1 : Int64)) = 0 then 0 else 1
def own_t (x : Int64) : Int64 := (own_H x + own_q x) + own_u x
theorem own_hq (x : Int64) : (own_H x + own_q x).toInt = (own_H x).toInt + (own_H x).toInt / 281474976710656 := by
  have h := own_H_rng x
  rw [Jvm.Kit.i64_add, own_q_int] <;> (rw [own_q_int]; omega)
theorem own_t_int (x : Int64) {q r : Nat} (e : (own_H x).toInt.natAbs = q * 281474976710656 + r) (hr : r < 281474976710656) : (own_t x).toInt = if 2 * r < 281474976710656 then (own_H x).toInt + q else if 281474976710656 < 2 * r then (own_H x).toInt + q + 1 else (own_H x).toInt + q + ((own_H x).toInt + q) % 2 := by
  have h := own_H_rng x
  have hq := own_hq x
  have hr' := own_r_int x
  have eq : (own_H x).toInt / 281474976710656 = q := by omega
  have er : (own_H x).toInt % 281474976710656 = r := by omega
  rw [eq] at hq
  rw [er] at hr'
  have k : (140737488355328 : Int64).toInt = 140737488355328 := by decide +kernel
  have o : (1 : Int64).toInt = 1 := by decide +kernel
  have z : (0 : Int64).toInt = 0 := by decide +kernel
  have m1 : ((own_H x + own_q x) &&& (1 : Int64)).toInt = (own_H x + own_q x).toInt % 2 ^ 1 := Jvm.Kit.i64_mask _ _ (by decide) (by decide +kernel)
  rw [hq] at m1
  have c1 : (140737488355328 : Int64) < own_r x ↔ 140737488355328 < (r : Int) := by rw [Int64.lt_iff_toInt_lt, k, hr']
  have c2 : own_r x < (140737488355328 : Int64) ↔ (r : Int) < 140737488355328 := by rw [Int64.lt_iff_toInt_lt, k, hr']
  have c3 : ((own_H x + own_q x) &&& (1 : Int64)) = 0 ↔ ((own_H x).toInt + q) % 2 ^ 1 = 0 := by rw [← Int64.toInt_inj, z, m1]
  have a0 : ∀ u : Int64, (u.toInt = 0 ∨ u.toInt = 1) → (own_H x + own_q x + u).toInt = (own_H x).toInt + q + u.toInt := by
    intro u hu
    have hb : (q : Int) < 100 := by clear m1 c1 c2 c3 k o z hq hr'; omega
    rw [Jvm.Kit.i64_add, hq] <;> (rw [hq]; clear m1 c1 c2 c3 k o z hq hr' eq er e; omega)
  clear hq hr' m1 eq er e h
  generalize (own_H x).toInt = H at *
  unfold own_t own_u
  by_cases g1 : (140737488355328 : Int64) < own_r x
  · rw [if_pos g1, a0 _ (Or.inr o), o]
    have g1' := c1.mp g1
    rw [if_neg (by omega), if_pos (by omega)]
  · rw [if_neg g1]
    have g1' : ¬ (140737488355328 < (r : Int)) := fun w => g1 (c1.mpr w)
    by_cases g2 : own_r x < (140737488355328 : Int64)
    · rw [if_pos g2, a0 _ (Or.inl z), z]
      have g2' := c2.mp g2
      rw [if_pos (by omega)]
      omega
    · rw [if_neg g2]
      have g2' : ¬ ((r : Int) < 140737488355328) := fun w => g2 (c2.mpr w)
      rw [if_neg (by omega : ¬ 2 * r < 281474976710656), if_neg (by omega : ¬ 281474976710656 < 2 * r)]
      by_cases g3 : ((own_H x + own_q x) &&& (1 : Int64)) = 0
      · rw [if_pos g3, a0 _ (Or.inl z), z]
        have g3' := c3.mp g3
        omega
      · rw [if_neg g3, a0 _ (Or.inr o), o]
        have g3' : ¬ ((H + q) % 2 ^ 1 = 0) := fun w => g3 (c3.mpr w)
        omega
theorem own_d_rng (y : Int32) : -64 < (y % (64 : Int32)).toInt64.toInt ∧ (y % (64 : Int32)).toInt64.toInt < 64 := by
  rw [Jvm.Kit.i64_of_i32, Jvm.Kit.i32_rem]
  have : (64 : Int32).toInt = 64 := by decide
  rw [this]
  have a := Int.tmod_lt_of_pos y.toInt (b := 64) (by omega)
  have b := Int.lt_tmod_of_pos y.toInt (b := 64) (by omega)
  omega
theorem own_m_int (x : Int64) (y : Int32) : (own_H x + (y % (64 : Int32)).toInt64).toInt = (own_H x).toInt + (y % (64 : Int32)).toInt64.toInt := by
  have h := own_H_rng x
  have d := own_d_rng y
  rw [Jvm.Kit.i64_add] <;> omega
theorem own_k_rng (x : Int64) : (x - (x / (9007199254740992 : Int64)) * (9007199254740992 : Int64)).toInt.natAbs < 2 ^ 53 := by
  rw [Jvm.Kit.i64_rem]
  have : (9007199254740992 : Int64).toInt = 9007199254740992 := by decide +kernel
  rw [this]
  have a := Int.tmod_lt_of_pos x.toInt (b := 9007199254740992) (by omega)
  have b := Int.lt_tmod_of_pos x.toInt (b := 9007199254740992) (by omega)
  omega
theorem own_m2_rng (x : Int64) : (x - (x / (4503599627370496 : Int64)) * (4503599627370496 : Int64)).toInt.natAbs < 2 ^ 52 := by
  rw [Jvm.Kit.i64_rem]
  have : (4503599627370496 : Int64).toInt = 4503599627370496 := by decide +kernel
  rw [this]
  have a := Int.tmod_lt_of_pos x.toInt (b := 4503599627370496) (by omega)
  have b := Int.lt_tmod_of_pos x.toInt (b := 4503599627370496) (by omega)
  omega
open Jvm.FP Jvm.Free.Fl
def own_dl (y : Int32) : Int64 := (y % (64 : Int32)).toInt64
def own_m (x : Int64) (y : Int32) : Int64 := own_H x + own_dl y
def own_hq1 (x : Int64) : Int64 := own_H x + own_q x
def own_scale (p : Int32) : UInt64 := if p = 0 then FP.dconst1 else if p = 1 then 1 else if p = 2 then 8975674057349398528 else 2188749418902061056
def own_sc (p : Int32) : UInt64 := own_scale (p &&& (3 : Int32))
theorem own_scale_pow (p : Int32) : ∃ J, J ≤ 2044 ∧ Core.Pow (own_scale p) J ∧ (p = 1 → J = 0) ∧ (p ≠ 1 → 52 ≤ J) := by
  unfold own_scale
  by_cases h0 : p = 0
  · rw [if_pos h0]; exact ⟨1074, by decide, Core.own_pow0, fun h => by rw [h0] at h; exact absurd h (by decide), fun _ => by decide⟩
  · rw [if_neg h0]
    by_cases h1 : p = 1
    · rw [if_pos h1]; exact ⟨0, by decide, Core.own_pow1, fun _ => rfl, fun h => absurd h1 h⟩
    · rw [if_neg h1]
      by_cases h2 : p = 2
      · rw [if_pos h2]; exact ⟨2044, by decide, Core.own_pow2, fun h => absurd h h1, fun _ => by decide⟩
      · rw [if_neg h2]; exact ⟨537, by decide, Core.own_pow3, fun h => absurd h h1, fun _ => by decide⟩
def own_ich (b h : UInt64) : Int32 := if (cmpValue (FP.dcmp h FP.dconst0) .l) = (0 : Int32) then (if (cmpValue (FP.dcmp b (4503599627370496 : UInt64)) .l) < (0 : Int32) then 0 else 1) else if (cmpValue (FP.dcmp h (4503599627370496 : UInt64)) .l) < (0 : Int32) then 0 else if (0 : Int32) < (cmpValue (FP.dcmp b (FP.dmul h (4607182418800017424 : UInt64))) .l) then 1 else 0
theorem own_ich_core (b h : UInt64) : own_ich b h = Core.own_ich b h := by
  have e : ∀ r : Option Ordering, cmpValue r .l = Core.cmpInt (-1) r := fun r => by rcases r with _ | (_ | _ | _) <;> rfl
  unfold own_ich Core.own_ich
  simp only [e]
  rfl
theorem own_scale_fin (p : Int32) : Fin64 (own_scale p) := by
  obtain ⟨J, -, ⟨⟨d, r, h⟩, -⟩, -⟩ := own_scale_pow p
  exact fin64_core.mpr ⟨_, _, _, h⟩
theorem own_nn (k : Int64) (p : Int32) : NoNaN64 (FP.dmul (FP.l2d k) (own_scale p)) := dmul_out (l2d_fin k) (own_scale_fin p)
theorem own_nni (y : Int32) : NoNaN64 (FP.dmul (FP.i2d y) (8975674057349398528 : UInt64)) := dmul_out (i2d_fin y) (by unfold Fin64; decide +kernel)
theorem own_nn1 (k : Int64) : NoNaN64 (FP.dmul (FP.l2d k) (1 : UInt64)) := dmul_out (l2d_fin k) (by unfold Fin64; decide +kernel)
theorem own_C_fin : Fin64 (4607182418800017424 : UInt64) := by unfold Fin64; decide +kernel
theorem own_ms_fin {k : Int64} (p : Int32) (h : k.toInt.natAbs < 2 ^ 53) : Fin64 (FP.dmul (FP.l2d k) (own_scale p)) := by
  obtain ⟨J, hJ, hp, -⟩ := own_scale_pow p
  obtain ⟨c, q, e, -⟩ := Core.own_ms h hp (by omega)
  exact fin64_core.mpr ⟨_, _, _, e⟩
theorem own_k0 (x : Int64) (y sc : Int32) : own_ich (FP.dmul (FP.l2d (own_H x + (y % (64 : Int32)).toInt64)) (own_scale sc)) (FP.dmul (FP.l2d (own_H x)) (own_scale sc)) = if own_t x < own_H x + (y % (64 : Int32)).toInt64 then 1 else 0 := by
  obtain ⟨J, hJ, hp, -⟩ := own_scale_pow sc
  have h := own_H_rng x
  have d := own_d_rng y
  have m := own_m_int x y
  have e : (own_H x).toInt.natAbs = (own_H x).toInt.natAbs / 281474976710656 * 281474976710656 + (own_H x).toInt.natAbs % 281474976710656 := by omega
  have hr : (own_H x).toInt.natAbs % 281474976710656 < 281474976710656 := Nat.mod_lt _ (by decide)
  rw [own_ich_core]
  refine (Core.own_case0 hJ hp h.1 h.2 (by omega) e hr (t := (own_t x).toInt) (own_t_int x e hr)).trans ?_
  simp only [Int64.lt_iff_toInt_lt]
theorem own_fin1 {x : Int64} {y sc : Int32} {u : Int64} (hu : own_u x = u) (h : (0 : Int32) < lcmpW (own_H x + (y % (64 : Int32)).toInt64) ((own_H x + own_q x) + u)) : own_ich (FP.dmul (FP.l2d (own_H x + (y % (64 : Int32)).toInt64)) (own_scale sc)) (FP.dmul (FP.l2d (own_H x)) (own_scale sc)) = (1 : Int32) := by
  rw [own_k0, if_pos]
  unfold own_t; rw [hu]; exact (lw_gt _ _).mp h
theorem own_fin0 {x : Int64} {y sc : Int32} {u : Int64} (hu : own_u x = u) (h : ¬ ((0 : Int32) < lcmpW (own_H x + (y % (64 : Int32)).toInt64) ((own_H x + own_q x) + u))) : own_ich (FP.dmul (FP.l2d (own_H x + (y % (64 : Int32)).toInt64)) (own_scale sc)) (FP.dmul (FP.l2d (own_H x)) (own_scale sc)) = (0 : Int32) := by
  rw [own_k0, if_neg]
  unfold own_t; rw [hu]; exact fun g => h ((lw_gt _ _).mpr g)
theorem own_u1 {x : Int64} (h : (0 : Int32) < lcmpW (own_r x) (140737488355328 : Int64)) : own_u x = 1 := by unfold own_u; rw [if_pos ((lw_gt _ _).mp h)]
theorem own_u2 {x : Int64} (h : ¬ ((0 : Int32) < lcmpW (own_r x) (140737488355328 : Int64))) (h' : lcmpW (own_r x) (140737488355328 : Int64) < (0 : Int32)) : own_u x = 0 := by
  unfold own_u; rw [if_neg (fun g => h ((lw_gt _ _).mpr g)), if_pos ((lw_lt _ _).mp h')]
theorem own_u3 {x : Int64} (h : ¬ ((0 : Int32) < lcmpW (own_r x) (140737488355328 : Int64))) (h' : ¬ (lcmpW (own_r x) (140737488355328 : Int64) < (0 : Int32))) (h'' : lcmpW ((own_H x + own_q x) &&& (1 : Int64)) (0 : Int64) = (0 : Int32)) : own_u x = 0 := by
  unfold own_u; rw [if_neg (fun g => h ((lw_gt _ _).mpr g)), if_neg (fun g => h' ((lw_lt _ _).mpr g)), if_pos ((lw_eq _ _).mp h'')]
theorem own_u4 {x : Int64} (h : ¬ ((0 : Int32) < lcmpW (own_r x) (140737488355328 : Int64))) (h' : ¬ (lcmpW (own_r x) (140737488355328 : Int64) < (0 : Int32))) (h'' : ¬ (lcmpW ((own_H x + own_q x) &&& (1 : Int64)) (0 : Int64) = (0 : Int32))) : own_u x = 1 := by
  unfold own_u; rw [if_neg (fun g => h ((lw_gt _ _).mpr g)), if_neg (fun g => h' ((lw_lt _ _).mpr g)), if_neg (fun g => h'' ((lw_eq _ _).mpr g))]
def own_k (x : Int64) : Int64 := (x - (x / (9007199254740992 : Int64)) * (9007199254740992 : Int64))
def own_m2 (x : Int64) : Int64 := (x - (x / (4503599627370496 : Int64)) * (4503599627370496 : Int64))
theorem own_z_pos : (∃ t d r, Core.val64 FP.dconst0 = .fin t d r) ∧ Core.zval Core.b64 (Core.val64 FP.dconst0) = 0 := ⟨⟨_, _, _, Core.val64_zero⟩, Core.zval64_zero⟩
theorem own_z_neg : (∃ t d r, Core.val64 (9223372036854775808 : UInt64) = .fin t d r) ∧ Core.zval Core.b64 (Core.val64 (9223372036854775808 : UInt64)) = 0 := ⟨⟨_, _, _, Core.val64_dzeroNeg⟩, by decide +kernel⟩
theorem own_k1 (x : Int64) (sc : Int32) {z : UInt64} (hz : (∃ t d r, Core.val64 z = .fin t d r) ∧ Core.zval Core.b64 (Core.val64 z) = 0) : (sc = 1 → own_ich (FP.dmul (FP.l2d (own_k x)) (own_scale sc)) z = if own_k x < (4503599627370496 : Int64) then 0 else 1) ∧ (sc ≠ 1 → own_ich (FP.dmul (FP.l2d (own_k x)) (own_scale sc)) z = if own_k x < (1 : Int64) then 0 else 1) := by
  obtain ⟨J, hJ, hp, j1, j2⟩ := own_scale_pow sc
  obtain ⟨⟨t, d, r, z1⟩, z0⟩ := hz
  have k1 : (4503599627370496 : Int64).toInt = 4503599627370496 := by decide +kernel
  have k2 : (1 : Int64).toInt = 1 := by decide +kernel
  have e := Core.own_case1 (m := own_k x) hJ hp (own_k_rng x) z1 z0
  rw [own_ich_core]
  constructor
  · intro hs
    refine e.trans ?_
    have := j1 hs
    subst this
    simp only [Int64.lt_iff_toInt_lt, k1]
    rw [show (((2 ^ 0 : Nat)) : Int) = 1 from rfl, Int.mul_one]
  · intro hs
    refine e.trans ?_
    simp only [Int64.lt_iff_toInt_lt, k2]
    by_cases g : (own_k x).toInt < 1
    · rw [if_pos ((Core.own_big (j2 hs) _).mpr g), if_pos g]
    · rw [if_neg (fun w => g ((Core.own_big (j2 hs) _).mp w)), if_neg g]
theorem own_k1a {x : Int64} {sc : Int32} {z : UInt64} (hz : (∃ t d r, Core.val64 z = .fin t d r) ∧ Core.zval Core.b64 (Core.val64 z) = 0) (hs : sc = 1) (h : lcmpW (own_k x) (4503599627370496 : Int64) < (0 : Int32)) : own_ich (FP.dmul (FP.l2d (own_k x)) (own_scale sc)) z = (0 : Int32) := by
  rw [(own_k1 x sc hz).1 hs, if_pos ((lw_lt _ _).mp h)]
theorem own_k1b {x : Int64} {sc : Int32} {z : UInt64} (hz : (∃ t d r, Core.val64 z = .fin t d r) ∧ Core.zval Core.b64 (Core.val64 z) = 0) (hs : sc = 1) (h : ¬ (lcmpW (own_k x) (4503599627370496 : Int64) < (0 : Int32))) : own_ich (FP.dmul (FP.l2d (own_k x)) (own_scale sc)) z = (1 : Int32) := by
  rw [(own_k1 x sc hz).1 hs, if_neg (fun g => h ((lw_lt _ _).mpr g))]
theorem own_k1c {x : Int64} {sc : Int32} {z : UInt64} (hz : (∃ t d r, Core.val64 z = .fin t d r) ∧ Core.zval Core.b64 (Core.val64 z) = 0) (hs : ¬ (sc = 1)) (h : lcmpW (own_k x) (1 : Int64) < (0 : Int32)) : own_ich (FP.dmul (FP.l2d (own_k x)) (own_scale sc)) z = (0 : Int32) := by
  rw [(own_k1 x sc hz).2 hs, if_pos ((lw_lt _ _).mp h)]
theorem own_k1d {x : Int64} {sc : Int32} {z : UInt64} (hz : (∃ t d r, Core.val64 z = .fin t d r) ∧ Core.zval Core.b64 (Core.val64 z) = 0) (hs : ¬ (sc = 1)) (h : ¬ (lcmpW (own_k x) (1 : Int64) < (0 : Int32))) : own_ich (FP.dmul (FP.l2d (own_k x)) (own_scale sc)) z = (1 : Int32) := by
  rw [(own_k1 x sc hz).2 hs, if_neg (fun g => h ((lw_lt _ _).mpr g))]
theorem own_k2 {b : UInt64} {m : Int64} (h : m.toInt.natAbs < 2 ^ 52) (h0 : ¬ (lcmpW m (0 : Int64) = (0 : Int32))) : own_ich b (FP.dmul (FP.l2d m) (1 : UInt64)) = (0 : Int32) := by
  have h0' : m.toInt ≠ 0 := fun e => h0 ((lw_eq _ _).mpr (Int64.toInt_inj.mp (by rw [e, Int64.toInt_zero])))
  obtain ⟨c, q, e1, e2⟩ := Core.own_ms (k := m) (by omega) Core.own_pow1 (by omega)
  have z := Core.own_zval e1 e2
  rw [show (((2 ^ 0 : Nat)) : Int) = 1 from rfl, Int.mul_one] at z
  rw [own_ich_core]
  exact Core.own_low e1 (by rw [z]; exact h0') (by rw [z]; omega)
theorem own_k2_fin {m : Int64} (h : m.toInt.natAbs < 2 ^ 52) : Fin64 (FP.dmul (FP.l2d m) (1 : UInt64)) := by
  obtain ⟨c, q, e1, -⟩ := Core.own_ms (k := m) (by omega) Core.own_pow1 (by omega)
  exact fin64_core.mpr ⟨_, _, _, e1⟩
theorem own_neg (x : Int64) (sc : Int32) : ∃ c q, Core.val64 (FP.dneg (FP.dmul (FP.l2d (own_H x)) (own_scale sc))) = .fin true c q ∧ Core.zval Core.b64 (Core.val64 (FP.dneg (FP.dmul (FP.l2d (own_H x)) (own_scale sc)))) < 0 := by
  obtain ⟨J, hJ, hp, -⟩ := own_scale_pow sc
  have h := own_H_rng x
  obtain ⟨c, q, e1, e2⟩ := Core.own_ms (k := own_H x) (by omega) hp (by omega)
  rw [decide_eq_false (by omega)] at e1
  have e1' : Core.val64 (FP.dmul (FP.l2d (own_H x)) (own_scale sc)) = .fin false c q := e1
  have en : Core.val64 (FP.dneg (FP.dmul (FP.l2d (own_H x)) (own_scale sc))) = .fin true c q := (FP.val64_dneg _).trans (by rw [e1']; rfl)
  refine ⟨c, q, en, ?_⟩
  rw [en]
  have z : Core.zmag Core.b64 (.fin true c q) = (own_H x).toInt.natAbs * 2 ^ J := by rw [← e2, e1]; rfl
  show Core.signed true (Core.zmag Core.b64 (.fin true c q)) < 0
  rw [z]
  have : 0 < (own_H x).toInt.natAbs * 2 ^ J := Nat.mul_pos (by omega) (Nat.two_pow_pos J)
  show -(((own_H x).toInt.natAbs * 2 ^ J : Nat) : Int) < 0
  omega
theorem own_k3 {b : UInt64} (x : Int64) (sc : Int32) : own_ich b (FP.dneg (FP.dmul (FP.l2d (own_H x)) (own_scale sc))) = (0 : Int32) := by
  obtain ⟨c, q, e1, e2⟩ := own_neg x sc
  rw [own_ich_core]
  exact Core.own_low e1 (by omega) (by omega)
theorem own_k3_fin (x : Int64) (sc : Int32) : Fin64 (FP.dneg (FP.dmul (FP.l2d (own_H x)) (own_scale sc))) := by
  obtain ⟨c, q, e1, -⟩ := own_neg x sc
  exact fin64_core.mpr ⟨_, _, _, e1⟩
theorem d1_0 : decode method_3_code 0 = .ok (.iload_n 0, 1) := by decide +kernel
theorem d1_1 : decode method_3_code 1 = .ok (.ifCond .ne 5, 3) := by decide +kernel
theorem d1_4 : decode method_3_code 4 = .ok (.dconst 1, 1) := by decide +kernel
theorem d1_5 : decode method_3_code 5 = .ok (.dreturn, 1) := by decide +kernel
theorem pn_1 : plainName "com/example/level_ring/levelring/placement/MembersIsCertainlyHigherPinLaw" = true := by first | (simp [plainName, overriddenIn]; done) | decide +kernel
theorem ef_1 (m : MethodId) (x0 : Int32) : entryFrame m #[(.int x0)] 1 = mkF m 0 #[.val (.int x0)] [] := by first | (simp [entryFrame, mkF, argsToLocals, Value.category]; done) | rfl
def Q1 (Z : State) (p1 : Int32) (h0 : Heap) (n0 : Nat) (v : Option Value) (h : Heap) (L : List Loc) : Prop := v = some (.double (own_scale p1)) ∧ Fr n0 L ∧ h = h0
set_option maxRecDepth 65536 in
set_option maxHeartbeats 40000000 in
theorem rm1_f (l : Launch) (Z : State) (a0 : Array Value) (hw : ∀ d ∈ tables_1, d.before a0 Z = true) (ws : List Jvm.Cond) (p1 : Int32) (h0 : Heap) (n0 : Nat) (Z0 : n0 ≤ h0.size) (hc1 : p1 = (0 : Int32)) :
    MetFree l (⟨"com/example/level_ring/levelring/placement/MembersIsCertainlyHigherPinLaw", "scaleOf", "(I)D"⟩ : MethodName) (head1 (Jvm.Cond.code (⟨"com/example/level_ring/levelring/placement/MembersIsCertainlyHigherPinLaw", "scaleOf", "(I)D"⟩ : MethodName) method_3_code 1 (some .double) :: ws) ({ frames := 0, cells := 0, slots := 0, locals := 0 } : Room)) (fun a U => a = #[(.int p1)] ∧ Z.Warmed39 U.vm ∧ U.heap = h0) (fun _ _ _ _ _ => True) (fun _ U o U' => ∃ v L, o = .returned v ∧ Q1 Z p1 h0 n0 v U'.heap L ∧ FrameEnd U o U' L ({ frames := 0, cells := 0, slots := 0, locals := 0 } : Room).cells ({ frames := 0, cells := 0, slots := 0, locals := 0 } : Room).slots) := by
  refine MetFree.of_bodySF (plainFor_of_name pn_1) hisR ?_
  intro p e s m args below meth c s₁ Bd hml0 hP hK
  obtain ⟨rfl, hZ, hh⟩ := hP
  have hx := Bd.exec
  have hby := Bd.bytes
  have hml : c.maxLocals = 1 := hml0
  have hown : s.vm.findClass "com/example/level_ring/levelring/placement/MembersIsCertainlyHigherPinLaw" = some m.cls := findClass_of_methodNamed Bd.named
  have hnm := (name_of_methodNamed Bd.named Bd.method).1
  have X0 : Stand p l e ({ frames := 0, cells := 0, slots := 0, locals := 0 } : Room) s m #[(.int p1)] below meth c s₁ [] 0 0 := Stand.of_body Bd
  have e0 : s₁.heap = h0 := by rw [← hh, Bd.state]; rfl
  have N0 := Fr.nil n0
  have pre0 : ∀ t, Steps p.tables e below (s₁.setTop (mkF m 0 #[.val (.int p1)] [])) t → Steps p.tables e below (s₁.setTop (entryFrame m #[(.int p1)] 1)) t := fun t k => castTop (ef_1 m p1) k
  -- 3. LAWS

  obtain ⟨fs, hr, hrun, hended, hW, hsame⟩ := X0.leave (v := some (.double FP.dconst1)) (fun h => by rw [Bd.returns] at h; cases h)
  refine ⟨_, _, pre0 _ ?_, hrun, hended, _, _, rfl, ?_, ⟨_, rfl⟩, hW, hsame.mono (by decide) (by decide)⟩
  -- 4. STEPS
  · show Steps p.tables e below (s₁.setTop (mkF m 0 #[.val (.int p1)] [])) _
    refine XS.iloadN X0.here hx rfl (hb hby d1_0) rfl ?_
    show Steps p.tables e below (s₁.setTop (mkF m 1 #[.val (.int p1)] [(.int p1)])) _
    refine XS.ifNo X0.here hx rfl (hb hby d1_1) rfl ((if0 _ _).trans (teq hc1).2) ?_
    show Steps p.tables e below (s₁.setTop (mkF m 4 #[.val (.int p1)] [])) _
    refine XS.dconst1 X0.here hx rfl (hb hby d1_4) rfl ?_
    show Steps p.tables e below (s₁.setTop (mkF m 5 #[.val (.int p1)] [(.double FP.dconst1)])) _
    exact own_retD X0 hx Bd.returns (hb hby d1_5) hr
  · show Q1 Z p1 h0 n0 _ s₁.heap _
    rw [e0]
    exact ⟨(by unfold own_scale; rw [if_pos hc1]), N0, rfl⟩
theorem d1_6 : decode method_3_code 6 = .ok (.iload_n 0, 1) := by decide +kernel
theorem d1_7 : decode method_3_code 7 = .ok (.iconst 1, 1) := by decide +kernel
theorem d1_8 : decode method_3_code 8 = .ok (.if_icmp .ne 7, 3) := by decide +kernel
theorem d1_11 : decode method_3_code 11 = .ok (.ldc2_w 33, 3) := by decide +kernel
theorem d1_14 : decode method_3_code 14 = .ok (.dreturn, 1) := by decide +kernel
set_option maxRecDepth 65536 in
set_option maxHeartbeats 40000000 in
theorem rm1_tf (l : Launch) (Z : State) (a0 : Array Value) (hw : ∀ d ∈ tables_1, d.before a0 Z = true) (ws : List Jvm.Cond) (p1 : Int32) (h0 : Heap) (n0 : Nat) (Z0 : n0 ≤ h0.size) (hc1 : ¬ (p1 = (0 : Int32))) (hc8 : p1 = (1 : Int32)) :
    MetFree l (⟨"com/example/level_ring/levelring/placement/MembersIsCertainlyHigherPinLaw", "scaleOf", "(I)D"⟩ : MethodName) (head1 (Jvm.Cond.code (⟨"com/example/level_ring/levelring/placement/MembersIsCertainlyHigherPinLaw", "scaleOf", "(I)D"⟩ : MethodName) method_3_code 1 (some .double) :: ws) ({ frames := 0, cells := 0, slots := 0, locals := 0 } : Room)) (fun a U => a = #[(.int p1)] ∧ Z.Warmed39 U.vm ∧ U.heap = h0) (fun _ _ _ _ _ => True) (fun _ U o U' => ∃ v L, o = .returned v ∧ Q1 Z p1 h0 n0 v U'.heap L ∧ FrameEnd U o U' L ({ frames := 0, cells := 0, slots := 0, locals := 0 } : Room).cells ({ frames := 0, cells := 0, slots := 0, locals := 0 } : Room).slots) := by
  refine MetFree.of_bodySF (plainFor_of_name pn_1) hisR ?_
  intro p e s m args below meth c s₁ Bd hml0 hP hK
  obtain ⟨rfl, hZ, hh⟩ := hP
  have hx := Bd.exec
  have hby := Bd.bytes
  have hml : c.maxLocals = 1 := hml0
  have hown : s.vm.findClass "com/example/level_ring/levelring/placement/MembersIsCertainlyHigherPinLaw" = some m.cls := findClass_of_methodNamed Bd.named
  have hnm := (name_of_methodNamed Bd.named Bd.method).1
  have X0 : Stand p l e ({ frames := 0, cells := 0, slots := 0, locals := 0 } : Room) s m #[(.int p1)] below meth c s₁ [] 0 0 := Stand.of_body Bd
  have e0 : s₁.heap = h0 := by rw [← hh, Bd.state]; rfl
  have N0 := Fr.nil n0
  have pre0 : ∀ t, Steps p.tables e below (s₁.setTop (mkF m 0 #[.val (.int p1)] [])) t → Steps p.tables e below (s₁.setTop (entryFrame m #[(.int p1)] 1)) t := fun t k => castTop (ef_1 m p1) k
  -- 3. LAWS

  obtain ⟨fs, hr, hrun, hended, hW, hsame⟩ := X0.leave (v := some (.double (1 : UInt64))) (fun h => by rw [Bd.returns] at h; cases h)
  refine ⟨_, _, pre0 _ ?_, hrun, hended, _, _, rfl, ?_, ⟨_, rfl⟩, hW, hsame.mono (by decide) (by decide)⟩
  -- 4. STEPS
  · show Steps p.tables e below (s₁.setTop (mkF m 0 #[.val (.int p1)] [])) _
    refine XS.iloadN X0.here hx rfl (hb hby d1_0) rfl ?_
    show Steps p.tables e below (s₁.setTop (mkF m 1 #[.val (.int p1)] [(.int p1)])) _
    refine XS.ifYes X0.here hx rfl (pc0 := 1) (pc' := 6) rfl (hb hby d1_1) rfl ((if0 _ _).trans (feq hc1).2) (by decide) (by decide) ?_
    show Steps p.tables e below (s₁.setTop (mkF m 6 #[.val (.int p1)] [])) _
    refine XS.iloadN X0.here hx rfl (hb hby d1_6) rfl ?_
    show Steps p.tables e below (s₁.setTop (mkF m 7 #[.val (.int p1)] [(.int p1)])) _
    refine XS.iconst X0.here hx rfl (hb hby d1_7) ?_
    show Steps p.tables e below (s₁.setTop (mkF m 8 #[.val (.int p1)] [(.int (1 : Int32)), (.int p1)])) _
    refine XS.icmpNo X0.here hx rfl (hb hby d1_8) rfl (teq hc8).2 ?_
    show Steps p.tables e below (s₁.setTop (mkF m 11 #[.val (.int p1)] [])) _
    refine X0.ldc2DoubleC hx hown (mvT hZ (hw _ (List.mem_of_getElem? (i := 17) rfl))) (g := (mkF m 11 #[.val (.int p1)] [])) rfl (hb hby d1_11) _ ?_
    show Steps p.tables e below (s₁.setTop (mkF m 14 #[.val (.int p1)] [(.double (1 : UInt64))])) _
    exact own_retD X0 hx Bd.returns (hb hby d1_14) hr
  · show Q1 Z p1 h0 n0 _ s₁.heap _
    rw [e0]
    exact ⟨(by unfold own_scale; rw [if_neg hc1, if_pos hc8]), N0, rfl⟩
theorem d1_15 : decode method_3_code 15 = .ok (.iload_n 0, 1) := by decide +kernel
theorem d1_16 : decode method_3_code 16 = .ok (.iconst 2, 1) := by decide +kernel
theorem d1_17 : decode method_3_code 17 = .ok (.if_icmp .ne 7, 3) := by decide +kernel
theorem d1_20 : decode method_3_code 20 = .ok (.ldc2_w 31, 3) := by decide +kernel
theorem d1_23 : decode method_3_code 23 = .ok (.dreturn, 1) := by decide +kernel
set_option maxRecDepth 65536 in
set_option maxHeartbeats 40000000 in
theorem rm1_ttf (l : Launch) (Z : State) (a0 : Array Value) (hw : ∀ d ∈ tables_1, d.before a0 Z = true) (ws : List Jvm.Cond) (p1 : Int32) (h0 : Heap) (n0 : Nat) (Z0 : n0 ≤ h0.size) (hc1 : ¬ (p1 = (0 : Int32))) (hc8 : ¬ (p1 = (1 : Int32))) (hc17 : p1 = (2 : Int32)) :
    MetFree l (⟨"com/example/level_ring/levelring/placement/MembersIsCertainlyHigherPinLaw", "scaleOf", "(I)D"⟩ : MethodName) (head1 (Jvm.Cond.code (⟨"com/example/level_ring/levelring/placement/MembersIsCertainlyHigherPinLaw", "scaleOf", "(I)D"⟩ : MethodName) method_3_code 1 (some .double) :: ws) ({ frames := 0, cells := 0, slots := 0, locals := 0 } : Room)) (fun a U => a = #[(.int p1)] ∧ Z.Warmed39 U.vm ∧ U.heap = h0) (fun _ _ _ _ _ => True) (fun _ U o U' => ∃ v L, o = .returned v ∧ Q1 Z p1 h0 n0 v U'.heap L ∧ FrameEnd U o U' L ({ frames := 0, cells := 0, slots := 0, locals := 0 } : Room).cells ({ frames := 0, cells := 0, slots := 0, locals := 0 } : Room).slots) := by
  refine MetFree.of_bodySF (plainFor_of_name pn_1) hisR ?_
  intro p e s m args below meth c s₁ Bd hml0 hP hK
  obtain ⟨rfl, hZ, hh⟩ := hP
  have hx := Bd.exec
  have hby := Bd.bytes
  have hml : c.maxLocals = 1 := hml0
  have hown : s.vm.findClass "com/example/level_ring/levelring/placement/MembersIsCertainlyHigherPinLaw" = some m.cls := findClass_of_methodNamed Bd.named
  have hnm := (name_of_methodNamed Bd.named Bd.method).1
  have X0 : Stand p l e ({ frames := 0, cells := 0, slots := 0, locals := 0 } : Room) s m #[(.int p1)] below meth c s₁ [] 0 0 := Stand.of_body Bd
  have e0 : s₁.heap = h0 := by rw [← hh, Bd.state]; rfl
  have N0 := Fr.nil n0
  have pre0 : ∀ t, Steps p.tables e below (s₁.setTop (mkF m 0 #[.val (.int p1)] [])) t → Steps p.tables e below (s₁.setTop (entryFrame m #[(.int p1)] 1)) t := fun t k => castTop (ef_1 m p1) k
  -- 3. LAWS

  obtain ⟨fs, hr, hrun, hended, hW, hsame⟩ := X0.leave (v := some (.double (8975674057349398528 : UInt64))) (fun h => by rw [Bd.returns] at h; cases h)
  refine ⟨_, _, pre0 _ ?_, hrun, hended, _, _, rfl, ?_, ⟨_, rfl⟩, hW, hsame.mono (by decide) (by decide)⟩
  -- 4. STEPS
  · show Steps p.tables e below (s₁.setTop (mkF m 0 #[.val (.int p1)] [])) _
    refine XS.iloadN X0.here hx rfl (hb hby d1_0) rfl ?_
    show Steps p.tables e below (s₁.setTop (mkF m 1 #[.val (.int p1)] [(.int p1)])) _
    refine XS.ifYes X0.here hx rfl (pc0 := 1) (pc' := 6) rfl (hb hby d1_1) rfl ((if0 _ _).trans (feq hc1).2) (by decide) (by decide) ?_
    show Steps p.tables e below (s₁.setTop (mkF m 6 #[.val (.int p1)] [])) _
    refine XS.iloadN X0.here hx rfl (hb hby d1_6) rfl ?_
    show Steps p.tables e below (s₁.setTop (mkF m 7 #[.val (.int p1)] [(.int p1)])) _
    refine XS.iconst X0.here hx rfl (hb hby d1_7) ?_
    show Steps p.tables e below (s₁.setTop (mkF m 8 #[.val (.int p1)] [(.int (1 : Int32)), (.int p1)])) _
    refine XS.icmpYes X0.here hx rfl (pc0 := 8) (pc' := 15) rfl (hb hby d1_8) rfl (feq hc8).2 (by decide) (by decide) ?_
    show Steps p.tables e below (s₁.setTop (mkF m 15 #[.val (.int p1)] [])) _
    refine XS.iloadN X0.here hx rfl (hb hby d1_15) rfl ?_
    show Steps p.tables e below (s₁.setTop (mkF m 16 #[.val (.int p1)] [(.int p1)])) _
    refine XS.iconst X0.here hx rfl (hb hby d1_16) ?_
    show Steps p.tables e below (s₁.setTop (mkF m 17 #[.val (.int p1)] [(.int (2 : Int32)), (.int p1)])) _
    refine XS.icmpNo X0.here hx rfl (hb hby d1_17) rfl (teq hc17).2 ?_
    show Steps p.tables e below (s₁.setTop (mkF m 20 #[.val (.int p1)] [])) _
    refine X0.ldc2DoubleC hx hown (mvT hZ (hw _ (List.mem_of_getElem? (i := 15) rfl))) (g := (mkF m 20 #[.val (.int p1)] [])) rfl (hb hby d1_20) _ ?_
    show Steps p.tables e below (s₁.setTop (mkF m 23 #[.val (.int p1)] [(.double (8975674057349398528 : UInt64))])) _
    exact own_retD X0 hx Bd.returns (hb hby d1_23) hr
  · show Q1 Z p1 h0 n0 _ s₁.heap _
    rw [e0]
    exact ⟨(by unfold own_scale; rw [if_neg hc1, if_neg hc8, if_pos hc17]), N0, rfl⟩
theorem d1_24 : decode method_3_code 24 = .ok (.ldc2_w 35, 3) := by decide +kernel
theorem d1_27 : decode method_3_code 27 = .ok (.dreturn, 1) := by decide +kernel
set_option maxRecDepth 65536 in
set_option maxHeartbeats 40000000 in
theorem rm1_ttt (l : Launch) (Z : State) (a0 : Array Value) (hw : ∀ d ∈ tables_1, d.before a0 Z = true) (ws : List Jvm.Cond) (p1 : Int32) (h0 : Heap) (n0 : Nat) (Z0 : n0 ≤ h0.size) (hc1 : ¬ (p1 = (0 : Int32))) (hc8 : ¬ (p1 = (1 : Int32))) (hc17 : ¬ (p1 = (2 : Int32))) :
    MetFree l (⟨"com/example/level_ring/levelring/placement/MembersIsCertainlyHigherPinLaw", "scaleOf", "(I)D"⟩ : MethodName) (head1 (Jvm.Cond.code (⟨"com/example/level_ring/levelring/placement/MembersIsCertainlyHigherPinLaw", "scaleOf", "(I)D"⟩ : MethodName) method_3_code 1 (some .double) :: ws) ({ frames := 0, cells := 0, slots := 0, locals := 0 } : Room)) (fun a U => a = #[(.int p1)] ∧ Z.Warmed39 U.vm ∧ U.heap = h0) (fun _ _ _ _ _ => True) (fun _ U o U' => ∃ v L, o = .returned v ∧ Q1 Z p1 h0 n0 v U'.heap L ∧ FrameEnd U o U' L ({ frames := 0, cells := 0, slots := 0, locals := 0 } : Room).cells ({ frames := 0, cells := 0, slots := 0, locals := 0 } : Room).slots) := by
  refine MetFree.of_bodySF (plainFor_of_name pn_1) hisR ?_
  intro p e s m args below meth c s₁ Bd hml0 hP hK
  obtain ⟨rfl, hZ, hh⟩ := hP
  have hx := Bd.exec
  have hby := Bd.bytes
  have hml : c.maxLocals = 1 := hml0
  have hown : s.vm.findClass "com/example/level_ring/levelring/placement/MembersIsCertainlyHigherPinLaw" = some m.cls := findClass_of_methodNamed Bd.named
  have hnm := (name_of_methodNamed Bd.named Bd.method).1
  have X0 : Stand p l e ({ frames := 0, cells := 0, slots := 0, locals := 0 } : Room) s m #[(.int p1)] below meth c s₁ [] 0 0 := Stand.of_body Bd
  have e0 : s₁.heap = h0 := by rw [← hh, Bd.state]; rfl
  have N0 := Fr.nil n0
  have pre0 : ∀ t, Steps p.tables e below (s₁.setTop (mkF m 0 #[.val (.int p1)] [])) t → Steps p.tables e below (s₁.setTop (entryFrame m #[(.int p1)] 1)) t := fun t k => castTop (ef_1 m p1) k
  -- 3. LAWS

  obtain ⟨fs, hr, hrun, hended, hW, hsame⟩ := X0.leave (v := some (.double (2188749418902061056 : UInt64))) (fun h => by rw [Bd.returns] at h; cases h)
  refine ⟨_, _, pre0 _ ?_, hrun, hended, _, _, rfl, ?_, ⟨_, rfl⟩, hW, hsame.mono (by decide) (by decide)⟩
  -- 4. STEPS
  · show Steps p.tables e below (s₁.setTop (mkF m 0 #[.val (.int p1)] [])) _
    refine XS.iloadN X0.here hx rfl (hb hby d1_0) rfl ?_
    show Steps p.tables e below (s₁.setTop (mkF m 1 #[.val (.int p1)] [(.int p1)])) _
    refine XS.ifYes X0.here hx rfl (pc0 := 1) (pc' := 6) rfl (hb hby d1_1) rfl ((if0 _ _).trans (feq hc1).2) (by decide) (by decide) ?_
    show Steps p.tables e below (s₁.setTop (mkF m 6 #[.val (.int p1)] [])) _
    refine XS.iloadN X0.here hx rfl (hb hby d1_6) rfl ?_
    show Steps p.tables e below (s₁.setTop (mkF m 7 #[.val (.int p1)] [(.int p1)])) _
    refine XS.iconst X0.here hx rfl (hb hby d1_7) ?_
    show Steps p.tables e below (s₁.setTop (mkF m 8 #[.val (.int p1)] [(.int (1 : Int32)), (.int p1)])) _
    refine XS.icmpYes X0.here hx rfl (pc0 := 8) (pc' := 15) rfl (hb hby d1_8) rfl (feq hc8).2 (by decide) (by decide) ?_
    show Steps p.tables e below (s₁.setTop (mkF m 15 #[.val (.int p1)] [])) _
    refine XS.iloadN X0.here hx rfl (hb hby d1_15) rfl ?_
    show Steps p.tables e below (s₁.setTop (mkF m 16 #[.val (.int p1)] [(.int p1)])) _
    refine XS.iconst X0.here hx rfl (hb hby d1_16) ?_
    show Steps p.tables e below (s₁.setTop (mkF m 17 #[.val (.int p1)] [(.int (2 : Int32)), (.int p1)])) _
    refine XS.icmpYes X0.here hx rfl (pc0 := 17) (pc' := 24) rfl (hb hby d1_17) rfl (feq hc17).2 (by decide) (by decide) ?_
    show Steps p.tables e below (s₁.setTop (mkF m 24 #[.val (.int p1)] [])) _
    refine X0.ldc2DoubleC hx hown (mvT hZ (hw _ (List.mem_of_getElem? (i := 14) rfl))) (g := (mkF m 24 #[.val (.int p1)] [])) rfl (hb hby d1_24) _ ?_
    show Steps p.tables e below (s₁.setTop (mkF m 27 #[.val (.int p1)] [(.double (2188749418902061056 : UInt64))])) _
    exact own_retD X0 hx Bd.returns (hb hby d1_27) hr
  · show Q1 Z p1 h0 n0 _ s₁.heap _
    rw [e0]
    exact ⟨(by unfold own_scale; rw [if_neg hc1, if_neg hc8, if_neg hc17]), N0, rfl⟩
theorem rm1 (l : Launch) (Z : State) (a0 : Array Value) (hw : ∀ d ∈ tables_1, d.before a0 Z = true) (ws : List Jvm.Cond) (p1 : Int32) (h0 : Heap) (n0 : Nat) (Z0 : n0 ≤ h0.size)  :
    MetFree l (⟨"com/example/level_ring/levelring/placement/MembersIsCertainlyHigherPinLaw", "scaleOf", "(I)D"⟩ : MethodName) (head1 (Jvm.Cond.code (⟨"com/example/level_ring/levelring/placement/MembersIsCertainlyHigherPinLaw", "scaleOf", "(I)D"⟩ : MethodName) method_3_code 1 (some .double) :: ws) ({ frames := 0, cells := 0, slots := 0, locals := 0 } : Room)) (fun a U => a = #[(.int p1)] ∧ Z.Warmed39 U.vm ∧ U.heap = h0) (fun _ _ _ _ _ => True) (fun _ U o U' => ∃ v L, o = .returned v ∧ Q1 Z p1 h0 n0 v U'.heap L ∧ FrameEnd U o U' L ({ frames := 0, cells := 0, slots := 0, locals := 0 } : Room).cells ({ frames := 0, cells := 0, slots := 0, locals := 0 } : Room).slots) := by
  by_cases hc1 : p1 = (0 : Int32)
  · exact rm1_f l Z a0 hw ws p1 h0 n0 Z0 hc1
  · by_cases hc8 : p1 = (1 : Int32)
    · exact rm1_tf l Z a0 hw ws p1 h0 n0 Z0 hc1 hc8
    · by_cases hc17 : p1 = (2 : Int32)
      · exact rm1_ttf l Z a0 hw ws p1 h0 n0 Z0 hc1 hc8 hc17
      · exact rm1_ttt l Z a0 hw ws p1 h0 n0 Z0 hc1 hc8 hc17
theorem d2_0 : decode prog_36_method_28_code 0 = .ok (.dload_n 2, 1) := by decide +kernel
theorem d2_1 : decode prog_36_method_28_code 1 = .ok (.dconst 0, 1) := by decide +kernel
theorem d2_2 : decode prog_36_method_28_code 2 = .ok (.dcmp .l, 1) := by decide +kernel
theorem d2_3 : decode prog_36_method_28_code 3 = .ok (.ifCond .ne 19, 3) := by decide +kernel
theorem d2_6 : decode prog_36_method_28_code 6 = .ok (.dload_n 0, 1) := by decide +kernel
theorem d2_7 : decode prog_36_method_28_code 7 = .ok (.ldc2_w 289, 3) := by decide +kernel
theorem d2_10 : decode prog_36_method_28_code 10 = .ok (.dcmp .l, 1) := by decide +kernel
theorem d2_11 : decode prog_36_method_28_code 11 = .ok (.ifCond .lt 7, 3) := by decide +kernel
theorem d2_18 : decode prog_36_method_28_code 18 = .ok (.iconst 0, 1) := by decide +kernel
theorem d2_19 : decode prog_36_method_28_code 19 = .ok (.goto 26, 3) := by decide +kernel
theorem d2_45 : decode prog_36_method_28_code 45 = .ok (.ireturn, 1) := by decide +kernel
theorem pn_2 : plainName "com/example/level_ring/levelring/placement/Members" = true := by first | (simp [plainName, overriddenIn]; done) | decide +kernel
theorem ef_2 (m : MethodId) (x0 : UInt64) (x1 : UInt64) : entryFrame m #[(.double x0), (.double x1)] 4 = mkF m 0 #[.val (.double x0), .second, .val (.double x1), .second] [] := by first | (simp [entryFrame, mkF, argsToLocals, Value.category]; done) | rfl
def Q2 (Z : State) (dd1 : UInt64) (dd2 : UInt64) (h0 : Heap) (n0 : Nat) (v : Option Value) (h : Heap) (L : List Loc) : Prop := v = some (.int (own_ich dd1 dd2)) ∧ Fr n0 L ∧ h = h0
set_option maxRecDepth 65536 in
set_option maxHeartbeats 40000000 in
theorem rm2_ft (l : Launch) (Z : State) (a0 : Array Value) (hw : ∀ d ∈ tables_1, d.before a0 Z = true) (ws : List Jvm.Cond) (dd1 : UInt64) (dd2 : UInt64) (h0 : Heap) (n0 : Nat) (Z0 : n0 ≤ h0.size) (hc3 : (cmpValue (FP.dcmp dd2 FP.dconst0) .l) = (0 : Int32)) (hc11 : (cmpValue (FP.dcmp dd1 (4503599627370496 : UInt64)) .l) < (0 : Int32)) :
    MetFree l (⟨"com/example/level_ring/levelring/placement/Members", "isCertainlyHigher", "(DD)Z"⟩ : MethodName) (head1 (Jvm.Cond.code (⟨"com/example/level_ring/levelring/placement/Members", "isCertainlyHigher", "(DD)Z"⟩ : MethodName) prog_36_method_28_code 4 (some .boolean) :: ws) ({ frames := 0, cells := 0, slots := 0, locals := 0 } : Room)) (fun a U => a = #[(.double dd1), (.double dd2)] ∧ Z.Warmed39 U.vm ∧ U.heap = h0) (fun _ _ _ _ _ => True) (fun _ U o U' => ∃ v L, o = .returned v ∧ Q2 Z dd1 dd2 h0 n0 v U'.heap L ∧ FrameEnd U o U' L ({ frames := 0, cells := 0, slots := 0, locals := 0 } : Room).cells ({ frames := 0, cells := 0, slots := 0, locals := 0 } : Room).slots) := by
  refine MetFree.of_bodySF (plainFor_of_name pn_2) hisR ?_
  intro p e s m args below meth c s₁ Bd hml0 hP hK
  obtain ⟨rfl, hZ, hh⟩ := hP
  have hx := Bd.exec
  have hby := Bd.bytes
  have hml : c.maxLocals = 4 := hml0
  have hown : s.vm.findClass "com/example/level_ring/levelring/placement/Members" = some m.cls := findClass_of_methodNamed Bd.named
  have hnm := (name_of_methodNamed Bd.named Bd.method).1
  have X0 : Stand p l e ({ frames := 0, cells := 0, slots := 0, locals := 0 } : Room) s m #[(.double dd1), (.double dd2)] below meth c s₁ [] 0 0 := Stand.of_body Bd
  have e0 : s₁.heap = h0 := by rw [← hh, Bd.state]; rfl
  have N0 := Fr.nil n0
  have pre0 : ∀ t, Steps p.tables e below (s₁.setTop (mkF m 0 #[.val (.double dd1), .second, .val (.double dd2), .second] [])) t → Steps p.tables e below (s₁.setTop (entryFrame m #[(.double dd1), (.double dd2)] 4)) t := fun t k => castTop (ef_2 m dd1 dd2) k
  -- 3. LAWS

  obtain ⟨fs, hr, hrun, hended, hW, hsame⟩ := X0.leave (v := some (.int (0 : Int32))) (fun h => by rw [Bd.returns] at h; cases h)
  refine ⟨_, _, pre0 _ ?_, hrun, hended, _, _, rfl, ?_, ⟨_, rfl⟩, hW, hsame.mono (by decide) (by decide)⟩
  -- 4. STEPS
  · show Steps p.tables e below (s₁.setTop (mkF m 0 #[.val (.double dd1), .second, .val (.double dd2), .second] [])) _
    refine XS.dloadN X0.here hx rfl (hb hby d2_0) rfl ?_
    show Steps p.tables e below (s₁.setTop (mkF m 1 #[.val (.double dd1), .second, .val (.double dd2), .second] [(.double dd2)])) _
    refine XS.dconst0 X0.here hx rfl (hb hby d2_1) rfl ?_
    show Steps p.tables e below (s₁.setTop (mkF m 2 #[.val (.double dd1), .second, .val (.double dd2), .second] [(.double FP.dconst0), (.double dd2)])) _
    refine XS.dcmpS X0.here hx rfl (hb hby d2_2) rfl rfl ?_
    show Steps p.tables e below (s₁.setTop (mkF m 3 #[.val (.double dd1), .second, .val (.double dd2), .second] [(.int (cmpValue (FP.dcmp dd2 FP.dconst0) .l))])) _
    refine XS.ifNo X0.here hx rfl (hb hby d2_3) rfl ((if0 _ _).trans (teq hc3).2) ?_
    show Steps p.tables e below (s₁.setTop (mkF m 6 #[.val (.double dd1), .second, .val (.double dd2), .second] [])) _
    refine XS.dloadN X0.here hx rfl (hb hby d2_6) rfl ?_
    show Steps p.tables e below (s₁.setTop (mkF m 7 #[.val (.double dd1), .second, .val (.double dd2), .second] [(.double dd1)])) _
    refine X0.ldc2DoubleC hx hown (mvT hZ (hw _ (List.mem_of_getElem? (i := 12) rfl))) (g := (mkF m 7 #[.val (.double dd1), .second, .val (.double dd2), .second] [(.double dd1)])) rfl (hb hby d2_7) _ ?_
    show Steps p.tables e below (s₁.setTop (mkF m 10 #[.val (.double dd1), .second, .val (.double dd2), .second] [(.double (4503599627370496 : UInt64)), (.double dd1)])) _
    refine XS.dcmpS X0.here hx rfl (hb hby d2_10) rfl rfl ?_
    show Steps p.tables e below (s₁.setTop (mkF m 11 #[.val (.double dd1), .second, .val (.double dd2), .second] [(.int (cmpValue (FP.dcmp dd1 (4503599627370496 : UInt64)) .l))])) _
    refine XS.ifYes X0.here hx rfl (pc0 := 11) (pc' := 18) rfl (hb hby d2_11) rfl ((if0 _ _).trans (tlt hc11).1) (by decide) (by decide) ?_
    show Steps p.tables e below (s₁.setTop (mkF m 18 #[.val (.double dd1), .second, .val (.double dd2), .second] [])) _
    refine XS.iconst X0.here hx rfl (hb hby d2_18) ?_
    show Steps p.tables e below (s₁.setTop (mkF m 19 #[.val (.double dd1), .second, .val (.double dd2), .second] [(.int (0 : Int32))])) _
    refine XS.goto X0.here hx rfl (pc0 := 19) (pc' := 45) rfl (hb hby d2_19) (by decide) (by decide) ?_
    show Steps p.tables e below (s₁.setTop (mkF m 45 #[.val (.double dd1), .second, .val (.double dd2), .second] [(.int (0 : Int32))])) _
    exact retN X0 hx (t := .boolean) Bd.returns (by simp) (hb hby d2_45) hr
  · show Q2 Z dd1 dd2 h0 n0 _ s₁.heap _
    rw [e0]
    exact ⟨(by unfold own_ich; rw [if_pos hc3, if_pos hc11]), N0, rfl⟩
theorem d2_14 : decode prog_36_method_28_code 14 = .ok (.iconst 1, 1) := by decide +kernel
theorem d2_15 : decode prog_36_method_28_code 15 = .ok (.goto 30, 3) := by decide +kernel
set_option maxRecDepth 65536 in
set_option maxHeartbeats 40000000 in
theorem rm2_ff (l : Launch) (Z : State) (a0 : Array Value) (hw : ∀ d ∈ tables_1, d.before a0 Z = true) (ws : List Jvm.Cond) (dd1 : UInt64) (dd2 : UInt64) (h0 : Heap) (n0 : Nat) (Z0 : n0 ≤ h0.size) (hc3 : (cmpValue (FP.dcmp dd2 FP.dconst0) .l) = (0 : Int32)) (hc11 : ¬ ((cmpValue (FP.dcmp dd1 (4503599627370496 : UInt64)) .l) < (0 : Int32))) :
    MetFree l (⟨"com/example/level_ring/levelring/placement/Members", "isCertainlyHigher", "(DD)Z"⟩ : MethodName) (head1 (Jvm.Cond.code (⟨"com/example/level_ring/levelring/placement/Members", "isCertainlyHigher", "(DD)Z"⟩ : MethodName) prog_36_method_28_code 4 (some .boolean) :: ws) ({ frames := 0, cells := 0, slots := 0, locals := 0 } : Room)) (fun a U => a = #[(.double dd1), (.double dd2)] ∧ Z.Warmed39 U.vm ∧ U.heap = h0) (fun _ _ _ _ _ => True) (fun _ U o U' => ∃ v L, o = .returned v ∧ Q2 Z dd1 dd2 h0 n0 v U'.heap L ∧ FrameEnd U o U' L ({ frames := 0, cells := 0, slots := 0, locals := 0 } : Room).cells ({ frames := 0, cells := 0, slots := 0, locals := 0 } : Room).slots) := by
  refine MetFree.of_bodySF (plainFor_of_name pn_2) hisR ?_
  intro p e s m args below meth c s₁ Bd hml0 hP hK
  obtain ⟨rfl, hZ, hh⟩ := hP
  have hx := Bd.exec
  have hby := Bd.bytes
  have hml : c.maxLocals = 4 := hml0
  have hown : s.vm.findClass "com/example/level_ring/levelring/placement/Members" = some m.cls := findClass_of_methodNamed Bd.named
  have hnm := (name_of_methodNamed Bd.named Bd.method).1
  have X0 : Stand p l e ({ frames := 0, cells := 0, slots := 0, locals := 0 } : Room) s m #[(.double dd1), (.double dd2)] below meth c s₁ [] 0 0 := Stand.of_body Bd
  have e0 : s₁.heap = h0 := by rw [← hh, Bd.state]; rfl
  have N0 := Fr.nil n0
  have pre0 : ∀ t, Steps p.tables e below (s₁.setTop (mkF m 0 #[.val (.double dd1), .second, .val (.double dd2), .second] [])) t → Steps p.tables e below (s₁.setTop (entryFrame m #[(.double dd1), (.double dd2)] 4)) t := fun t k => castTop (ef_2 m dd1 dd2) k
  -- 3. LAWS

  obtain ⟨fs, hr, hrun, hended, hW, hsame⟩ := X0.leave (v := some (.int (1 : Int32))) (fun h => by rw [Bd.returns] at h; cases h)
  refine ⟨_, _, pre0 _ ?_, hrun, hended, _, _, rfl, ?_, ⟨_, rfl⟩, hW, hsame.mono (by decide) (by decide)⟩
  -- 4. STEPS
  · show Steps p.tables e below (s₁.setTop (mkF m 0 #[.val (.double dd1), .second, .val (.double dd2), .second] [])) _
    refine XS.dloadN X0.here hx rfl (hb hby d2_0) rfl ?_
    show Steps p.tables e below (s₁.setTop (mkF m 1 #[.val (.double dd1), .second, .val (.double dd2), .second] [(.double dd2)])) _
    refine XS.dconst0 X0.here hx rfl (hb hby d2_1) rfl ?_
    show Steps p.tables e below (s₁.setTop (mkF m 2 #[.val (.double dd1), .second, .val (.double dd2), .second] [(.double FP.dconst0), (.double dd2)])) _
    refine XS.dcmpS X0.here hx rfl (hb hby d2_2) rfl rfl ?_
    show Steps p.tables e below (s₁.setTop (mkF m 3 #[.val (.double dd1), .second, .val (.double dd2), .second] [(.int (cmpValue (FP.dcmp dd2 FP.dconst0) .l))])) _
    refine XS.ifNo X0.here hx rfl (hb hby d2_3) rfl ((if0 _ _).trans (teq hc3).2) ?_
    show Steps p.tables e below (s₁.setTop (mkF m 6 #[.val (.double dd1), .second, .val (.double dd2), .second] [])) _
    refine XS.dloadN X0.here hx rfl (hb hby d2_6) rfl ?_
    show Steps p.tables e below (s₁.setTop (mkF m 7 #[.val (.double dd1), .second, .val (.double dd2), .second] [(.double dd1)])) _
    refine X0.ldc2DoubleC hx hown (mvT hZ (hw _ (List.mem_of_getElem? (i := 12) rfl))) (g := (mkF m 7 #[.val (.double dd1), .second, .val (.double dd2), .second] [(.double dd1)])) rfl (hb hby d2_7) _ ?_
    show Steps p.tables e below (s₁.setTop (mkF m 10 #[.val (.double dd1), .second, .val (.double dd2), .second] [(.double (4503599627370496 : UInt64)), (.double dd1)])) _
    refine XS.dcmpS X0.here hx rfl (hb hby d2_10) rfl rfl ?_
    show Steps p.tables e below (s₁.setTop (mkF m 11 #[.val (.double dd1), .second, .val (.double dd2), .second] [(.int (cmpValue (FP.dcmp dd1 (4503599627370496 : UInt64)) .l))])) _
    refine XS.ifNo X0.here hx rfl (hb hby d2_11) rfl ((if0 _ _).trans (flt hc11).1) ?_
    show Steps p.tables e below (s₁.setTop (mkF m 14 #[.val (.double dd1), .second, .val (.double dd2), .second] [])) _
    refine XS.iconst X0.here hx rfl (hb hby d2_14) ?_
    show Steps p.tables e below (s₁.setTop (mkF m 15 #[.val (.double dd1), .second, .val (.double dd2), .second] [(.int (1 : Int32))])) _
    refine XS.goto X0.here hx rfl (pc0 := 15) (pc' := 45) rfl (hb hby d2_15) (by decide) (by decide) ?_
    show Steps p.tables e below (s₁.setTop (mkF m 45 #[.val (.double dd1), .second, .val (.double dd2), .second] [(.int (1 : Int32))])) _
    exact retN X0 hx (t := .boolean) Bd.returns (by simp) (hb hby d2_45) hr
  · show Q2 Z dd1 dd2 h0 n0 _ s₁.heap _
    rw [e0]
    exact ⟨(by unfold own_ich; rw [if_pos hc3, if_neg hc11]), N0, rfl⟩
theorem d2_22 : decode prog_36_method_28_code 22 = .ok (.dload_n 2, 1) := by decide +kernel
theorem d2_23 : decode prog_36_method_28_code 23 = .ok (.ldc2_w 289, 3) := by decide +kernel
theorem d2_26 : decode prog_36_method_28_code 26 = .ok (.dcmp .l, 1) := by decide +kernel
theorem d2_27 : decode prog_36_method_28_code 27 = .ok (.ifCond .lt 17, 3) := by decide +kernel
theorem d2_44 : decode prog_36_method_28_code 44 = .ok (.iconst 0, 1) := by decide +kernel
set_option maxRecDepth 65536 in
set_option maxHeartbeats 40000000 in
theorem rm2_tt (l : Launch) (Z : State) (a0 : Array Value) (hw : ∀ d ∈ tables_1, d.before a0 Z = true) (ws : List Jvm.Cond) (dd1 : UInt64) (dd2 : UInt64) (h0 : Heap) (n0 : Nat) (Z0 : n0 ≤ h0.size) (hc3 : ¬ ((cmpValue (FP.dcmp dd2 FP.dconst0) .l) = (0 : Int32))) (hc27 : (cmpValue (FP.dcmp dd2 (4503599627370496 : UInt64)) .l) < (0 : Int32)) :
    MetFree l (⟨"com/example/level_ring/levelring/placement/Members", "isCertainlyHigher", "(DD)Z"⟩ : MethodName) (head1 (Jvm.Cond.code (⟨"com/example/level_ring/levelring/placement/Members", "isCertainlyHigher", "(DD)Z"⟩ : MethodName) prog_36_method_28_code 4 (some .boolean) :: ws) ({ frames := 0, cells := 0, slots := 0, locals := 0 } : Room)) (fun a U => a = #[(.double dd1), (.double dd2)] ∧ Z.Warmed39 U.vm ∧ U.heap = h0) (fun _ _ _ _ _ => True) (fun _ U o U' => ∃ v L, o = .returned v ∧ Q2 Z dd1 dd2 h0 n0 v U'.heap L ∧ FrameEnd U o U' L ({ frames := 0, cells := 0, slots := 0, locals := 0 } : Room).cells ({ frames := 0, cells := 0, slots := 0, locals := 0 } : Room).slots) := by
  refine MetFree.of_bodySF (plainFor_of_name pn_2) hisR ?_
  intro p e s m args below meth c s₁ Bd hml0 hP hK
  obtain ⟨rfl, hZ, hh⟩ := hP
  have hx := Bd.exec
  have hby := Bd.bytes
  have hml : c.maxLocals = 4 := hml0
  have hown : s.vm.findClass "com/example/level_ring/levelring/placement/Members" = some m.cls := findClass_of_methodNamed Bd.named
  have hnm := (name_of_methodNamed Bd.named Bd.method).1
  have X0 : Stand p l e ({ frames := 0, cells := 0, slots := 0, locals := 0 } : Room) s m #[(.double dd1), (.double dd2)] below meth c s₁ [] 0 0 := Stand.of_body Bd
  have e0 : s₁.heap = h0 := by rw [← hh, Bd.state]; rfl
  have N0 := Fr.nil n0
  have pre0 : ∀ t, Steps p.tables e below (s₁.setTop (mkF m 0 #[.val (.double dd1), .second, .val (.double dd2), .second] [])) t → Steps p.tables e below (s₁.setTop (entryFrame m #[(.double dd1), (.double dd2)] 4)) t := fun t k => castTop (ef_2 m dd1 dd2) k
  -- 3. LAWS

  obtain ⟨fs, hr, hrun, hended, hW, hsame⟩ := X0.leave (v := some (.int (0 : Int32))) (fun h => by rw [Bd.returns] at h; cases h)
  refine ⟨_, _, pre0 _ ?_, hrun, hended, _, _, rfl, ?_, ⟨_, rfl⟩, hW, hsame.mono (by decide) (by decide)⟩
  -- 4. STEPS
  · show Steps p.tables e below (s₁.setTop (mkF m 0 #[.val (.double dd1), .second, .val (.double dd2), .second] [])) _
    refine XS.dloadN X0.here hx rfl (hb hby d2_0) rfl ?_
    show Steps p.tables e below (s₁.setTop (mkF m 1 #[.val (.double dd1), .second, .val (.double dd2), .second] [(.double dd2)])) _
    refine XS.dconst0 X0.here hx rfl (hb hby d2_1) rfl ?_
    show Steps p.tables e below (s₁.setTop (mkF m 2 #[.val (.double dd1), .second, .val (.double dd2), .second] [(.double FP.dconst0), (.double dd2)])) _
    refine XS.dcmpS X0.here hx rfl (hb hby d2_2) rfl rfl ?_
    show Steps p.tables e below (s₁.setTop (mkF m 3 #[.val (.double dd1), .second, .val (.double dd2), .second] [(.int (cmpValue (FP.dcmp dd2 FP.dconst0) .l))])) _
    refine XS.ifYes X0.here hx rfl (pc0 := 3) (pc' := 22) rfl (hb hby d2_3) rfl ((if0 _ _).trans (feq hc3).2) (by decide) (by decide) ?_
    show Steps p.tables e below (s₁.setTop (mkF m 22 #[.val (.double dd1), .second, .val (.double dd2), .second] [])) _
    refine XS.dloadN X0.here hx rfl (hb hby d2_22) rfl ?_
    show Steps p.tables e below (s₁.setTop (mkF m 23 #[.val (.double dd1), .second, .val (.double dd2), .second] [(.double dd2)])) _
    refine X0.ldc2DoubleC hx hown (mvT hZ (hw _ (List.mem_of_getElem? (i := 12) rfl))) (g := (mkF m 23 #[.val (.double dd1), .second, .val (.double dd2), .second] [(.double dd2)])) rfl (hb hby d2_23) _ ?_
    show Steps p.tables e below (s₁.setTop (mkF m 26 #[.val (.double dd1), .second, .val (.double dd2), .second] [(.double (4503599627370496 : UInt64)), (.double dd2)])) _
    refine XS.dcmpS X0.here hx rfl (hb hby d2_26) rfl rfl ?_
    show Steps p.tables e below (s₁.setTop (mkF m 27 #[.val (.double dd1), .second, .val (.double dd2), .second] [(.int (cmpValue (FP.dcmp dd2 (4503599627370496 : UInt64)) .l))])) _
    refine XS.ifYes X0.here hx rfl (pc0 := 27) (pc' := 44) rfl (hb hby d2_27) rfl ((if0 _ _).trans (tlt hc27).1) (by decide) (by decide) ?_
    show Steps p.tables e below (s₁.setTop (mkF m 44 #[.val (.double dd1), .second, .val (.double dd2), .second] [])) _
    refine XS.iconst X0.here hx rfl (hb hby d2_44) ?_
    show Steps p.tables e below (s₁.setTop (mkF m 45 #[.val (.double dd1), .second, .val (.double dd2), .second] [(.int (0 : Int32))])) _
    exact retN X0 hx (t := .boolean) Bd.returns (by simp) (hb hby d2_45) hr
  · show Q2 Z dd1 dd2 h0 n0 _ s₁.heap _
    rw [e0]
    exact ⟨(by unfold own_ich; rw [if_neg hc3, if_pos hc27]), N0, rfl⟩
theorem d2_30 : decode prog_36_method_28_code 30 = .ok (.dload_n 0, 1) := by decide +kernel
theorem d2_31 : decode prog_36_method_28_code 31 = .ok (.dload_n 2, 1) := by decide +kernel
theorem d2_32 : decode prog_36_method_28_code 32 = .ok (.ldc2_w 291, 3) := by decide +kernel
theorem d2_35 : decode prog_36_method_28_code 35 = .ok (.dmul, 1) := by decide +kernel
theorem d2_36 : decode prog_36_method_28_code 36 = .ok (.dcmp .l, 1) := by decide +kernel
theorem d2_37 : decode prog_36_method_28_code 37 = .ok (.ifCond .le 7, 3) := by decide +kernel
set_option maxRecDepth 65536 in
set_option maxHeartbeats 40000000 in
theorem rm2_tft (l : Launch) (Z : State) (a0 : Array Value) (hw : ∀ d ∈ tables_1, d.before a0 Z = true) (ws : List Jvm.Cond) (dd1 : UInt64) (dd2 : UInt64) (h0 : Heap) (n0 : Nat) (Z0 : n0 ≤ h0.size) (hc3 : ¬ ((cmpValue (FP.dcmp dd2 FP.dconst0) .l) = (0 : Int32))) (hc27 : ¬ ((cmpValue (FP.dcmp dd2 (4503599627370496 : UInt64)) .l) < (0 : Int32))) (hnn35 : Jvm.Free.Fl.NoNaN64 (FP.dmul dd2 (4607182418800017424 : UInt64))) (hc37 : ¬ ((0 : Int32) < (cmpValue (FP.dcmp dd1 (FP.dmul dd2 (4607182418800017424 : UInt64))) .l))) :
    MetFree l (⟨"com/example/level_ring/levelring/placement/Members", "isCertainlyHigher", "(DD)Z"⟩ : MethodName) (head1 (Jvm.Cond.code (⟨"com/example/level_ring/levelring/placement/Members", "isCertainlyHigher", "(DD)Z"⟩ : MethodName) prog_36_method_28_code 4 (some .boolean) :: ws) ({ frames := 0, cells := 0, slots := 0, locals := 0 } : Room)) (fun a U => a = #[(.double dd1), (.double dd2)] ∧ Z.Warmed39 U.vm ∧ U.heap = h0) (fun _ _ _ _ _ => True) (fun _ U o U' => ∃ v L, o = .returned v ∧ Q2 Z dd1 dd2 h0 n0 v U'.heap L ∧ FrameEnd U o U' L ({ frames := 0, cells := 0, slots := 0, locals := 0 } : Room).cells ({ frames := 0, cells := 0, slots := 0, locals := 0 } : Room).slots) := by
  refine MetFree.of_bodySF (plainFor_of_name pn_2) hisR ?_
  intro p e s m args below meth c s₁ Bd hml0 hP hK
  obtain ⟨rfl, hZ, hh⟩ := hP
  have hx := Bd.exec
  have hby := Bd.bytes
  have hml : c.maxLocals = 4 := hml0
  have hown : s.vm.findClass "com/example/level_ring/levelring/placement/Members" = some m.cls := findClass_of_methodNamed Bd.named
  have hnm := (name_of_methodNamed Bd.named Bd.method).1
  have X0 : Stand p l e ({ frames := 0, cells := 0, slots := 0, locals := 0 } : Room) s m #[(.double dd1), (.double dd2)] below meth c s₁ [] 0 0 := Stand.of_body Bd
  have e0 : s₁.heap = h0 := by rw [← hh, Bd.state]; rfl
  have N0 := Fr.nil n0
  have pre0 : ∀ t, Steps p.tables e below (s₁.setTop (mkF m 0 #[.val (.double dd1), .second, .val (.double dd2), .second] [])) t → Steps p.tables e below (s₁.setTop (entryFrame m #[(.double dd1), (.double dd2)] 4)) t := fun t k => castTop (ef_2 m dd1 dd2) k
  -- 3. LAWS

  obtain ⟨fs, hr, hrun, hended, hW, hsame⟩ := X0.leave (v := some (.int (0 : Int32))) (fun h => by rw [Bd.returns] at h; cases h)
  refine ⟨_, _, pre0 _ ?_, hrun, hended, _, _, rfl, ?_, ⟨_, rfl⟩, hW, hsame.mono (by decide) (by decide)⟩
  -- 4. STEPS
  · show Steps p.tables e below (s₁.setTop (mkF m 0 #[.val (.double dd1), .second, .val (.double dd2), .second] [])) _
    refine XS.dloadN X0.here hx rfl (hb hby d2_0) rfl ?_
    show Steps p.tables e below (s₁.setTop (mkF m 1 #[.val (.double dd1), .second, .val (.double dd2), .second] [(.double dd2)])) _
    refine XS.dconst0 X0.here hx rfl (hb hby d2_1) rfl ?_
    show Steps p.tables e below (s₁.setTop (mkF m 2 #[.val (.double dd1), .second, .val (.double dd2), .second] [(.double FP.dconst0), (.double dd2)])) _
    refine XS.dcmpS X0.here hx rfl (hb hby d2_2) rfl rfl ?_
    show Steps p.tables e below (s₁.setTop (mkF m 3 #[.val (.double dd1), .second, .val (.double dd2), .second] [(.int (cmpValue (FP.dcmp dd2 FP.dconst0) .l))])) _
    refine XS.ifYes X0.here hx rfl (pc0 := 3) (pc' := 22) rfl (hb hby d2_3) rfl ((if0 _ _).trans (feq hc3).2) (by decide) (by decide) ?_
    show Steps p.tables e below (s₁.setTop (mkF m 22 #[.val (.double dd1), .second, .val (.double dd2), .second] [])) _
    refine XS.dloadN X0.here hx rfl (hb hby d2_22) rfl ?_
    show Steps p.tables e below (s₁.setTop (mkF m 23 #[.val (.double dd1), .second, .val (.double dd2), .second] [(.double dd2)])) _
    refine X0.ldc2DoubleC hx hown (mvT hZ (hw _ (List.mem_of_getElem? (i := 12) rfl))) (g := (mkF m 23 #[.val (.double dd1), .second, .val (.double dd2), .second] [(.double dd2)])) rfl (hb hby d2_23) _ ?_
    show Steps p.tables e below (s₁.setTop (mkF m 26 #[.val (.double dd1), .second, .val (.double dd2), .second] [(.double (4503599627370496 : UInt64)), (.double dd2)])) _
    refine XS.dcmpS X0.here hx rfl (hb hby d2_26) rfl rfl ?_
    show Steps p.tables e below (s₁.setTop (mkF m 27 #[.val (.double dd1), .second, .val (.double dd2), .second] [(.int (cmpValue (FP.dcmp dd2 (4503599627370496 : UInt64)) .l))])) _
    refine XS.ifNo X0.here hx rfl (hb hby d2_27) rfl ((if0 _ _).trans (flt hc27).1) ?_
    show Steps p.tables e below (s₁.setTop (mkF m 30 #[.val (.double dd1), .second, .val (.double dd2), .second] [])) _
    refine XS.dloadN X0.here hx rfl (hb hby d2_30) rfl ?_
    show Steps p.tables e below (s₁.setTop (mkF m 31 #[.val (.double dd1), .second, .val (.double dd2), .second] [(.double dd1)])) _
    refine XS.dloadN X0.here hx rfl (hb hby d2_31) rfl ?_
    show Steps p.tables e below (s₁.setTop (mkF m 32 #[.val (.double dd1), .second, .val (.double dd2), .second] [(.double dd2), (.double dd1)])) _
    refine X0.ldc2DoubleC hx hown (mvT hZ (hw _ (List.mem_of_getElem? (i := 13) rfl))) (g := (mkF m 32 #[.val (.double dd1), .second, .val (.double dd2), .second] [(.double dd2), (.double dd1)])) rfl (hb hby d2_32) _ ?_
    show Steps p.tables e below (s₁.setTop (mkF m 35 #[.val (.double dd1), .second, .val (.double dd2), .second] [(.double (4607182418800017424 : UInt64)), (.double dd2), (.double dd1)])) _
    refine XS.dmulS X0.here hx rfl (hb hby d2_35) rfl hnn35 rfl ?_
    show Steps p.tables e below (s₁.setTop (mkF m 36 #[.val (.double dd1), .second, .val (.double dd2), .second] [(.double (FP.dmul dd2 (4607182418800017424 : UInt64))), (.double dd1)])) _
    refine XS.dcmpS X0.here hx rfl (hb hby d2_36) rfl rfl ?_
    show Steps p.tables e below (s₁.setTop (mkF m 37 #[.val (.double dd1), .second, .val (.double dd2), .second] [(.int (cmpValue (FP.dcmp dd1 (FP.dmul dd2 (4607182418800017424 : UInt64))) .l))])) _
    refine XS.ifYes X0.here hx rfl (pc0 := 37) (pc' := 44) rfl (hb hby d2_37) rfl ((if0 _ _).trans (flt hc37).2.2.2) (by decide) (by decide) ?_
    show Steps p.tables e below (s₁.setTop (mkF m 44 #[.val (.double dd1), .second, .val (.double dd2), .second] [])) _
    refine XS.iconst X0.here hx rfl (hb hby d2_44) ?_
    show Steps p.tables e below (s₁.setTop (mkF m 45 #[.val (.double dd1), .second, .val (.double dd2), .second] [(.int (0 : Int32))])) _
    exact retN X0 hx (t := .boolean) Bd.returns (by simp) (hb hby d2_45) hr
  · show Q2 Z dd1 dd2 h0 n0 _ s₁.heap _
    rw [e0]
    exact ⟨(by unfold own_ich; rw [if_neg hc3, if_neg hc27, if_neg hc37]), N0, rfl⟩
theorem d2_40 : decode prog_36_method_28_code 40 = .ok (.iconst 1, 1) := by decide +kernel
theorem d2_41 : decode prog_36_method_28_code 41 = .ok (.goto 4, 3) := by decide +kernel
set_option maxRecDepth 65536 in
set_option maxHeartbeats 40000000 in
theorem rm2_tff (l : Launch) (Z : State) (a0 : Array Value) (hw : ∀ d ∈ tables_1, d.before a0 Z = true) (ws : List Jvm.Cond) (dd1 : UInt64) (dd2 : UInt64) (h0 : Heap) (n0 : Nat) (Z0 : n0 ≤ h0.size) (hc3 : ¬ ((cmpValue (FP.dcmp dd2 FP.dconst0) .l) = (0 : Int32))) (hc27 : ¬ ((cmpValue (FP.dcmp dd2 (4503599627370496 : UInt64)) .l) < (0 : Int32))) (hnn35 : Jvm.Free.Fl.NoNaN64 (FP.dmul dd2 (4607182418800017424 : UInt64))) (hc37 : (0 : Int32) < (cmpValue (FP.dcmp dd1 (FP.dmul dd2 (4607182418800017424 : UInt64))) .l)) :
    MetFree l (⟨"com/example/level_ring/levelring/placement/Members", "isCertainlyHigher", "(DD)Z"⟩ : MethodName) (head1 (Jvm.Cond.code (⟨"com/example/level_ring/levelring/placement/Members", "isCertainlyHigher", "(DD)Z"⟩ : MethodName) prog_36_method_28_code 4 (some .boolean) :: ws) ({ frames := 0, cells := 0, slots := 0, locals := 0 } : Room)) (fun a U => a = #[(.double dd1), (.double dd2)] ∧ Z.Warmed39 U.vm ∧ U.heap = h0) (fun _ _ _ _ _ => True) (fun _ U o U' => ∃ v L, o = .returned v ∧ Q2 Z dd1 dd2 h0 n0 v U'.heap L ∧ FrameEnd U o U' L ({ frames := 0, cells := 0, slots := 0, locals := 0 } : Room).cells ({ frames := 0, cells := 0, slots := 0, locals := 0 } : Room).slots) := by
  refine MetFree.of_bodySF (plainFor_of_name pn_2) hisR ?_
  intro p e s m args below meth c s₁ Bd hml0 hP hK
  obtain ⟨rfl, hZ, hh⟩ := hP
  have hx := Bd.exec
  have hby := Bd.bytes
  have hml : c.maxLocals = 4 := hml0
  have hown : s.vm.findClass "com/example/level_ring/levelring/placement/Members" = some m.cls := findClass_of_methodNamed Bd.named
  have hnm := (name_of_methodNamed Bd.named Bd.method).1
  have X0 : Stand p l e ({ frames := 0, cells := 0, slots := 0, locals := 0 } : Room) s m #[(.double dd1), (.double dd2)] below meth c s₁ [] 0 0 := Stand.of_body Bd
  have e0 : s₁.heap = h0 := by rw [← hh, Bd.state]; rfl
  have N0 := Fr.nil n0
  have pre0 : ∀ t, Steps p.tables e below (s₁.setTop (mkF m 0 #[.val (.double dd1), .second, .val (.double dd2), .second] [])) t → Steps p.tables e below (s₁.setTop (entryFrame m #[(.double dd1), (.double dd2)] 4)) t := fun t k => castTop (ef_2 m dd1 dd2) k
  -- 3. LAWS

  obtain ⟨fs, hr, hrun, hended, hW, hsame⟩ := X0.leave (v := some (.int (1 : Int32))) (fun h => by rw [Bd.returns] at h; cases h)
  refine ⟨_, _, pre0 _ ?_, hrun, hended, _, _, rfl, ?_, ⟨_, rfl⟩, hW, hsame.mono (by decide) (by decide)⟩
  -- 4. STEPS
  · show Steps p.tables e below (s₁.setTop (mkF m 0 #[.val (.double dd1), .second, .val (.double dd2), .second] [])) _
    refine XS.dloadN X0.here hx rfl (hb hby d2_0) rfl ?_
    show Steps p.tables e below (s₁.setTop (mkF m 1 #[.val (.double dd1), .second, .val (.double dd2), .second] [(.double dd2)])) _
    refine XS.dconst0 X0.here hx rfl (hb hby d2_1) rfl ?_
    show Steps p.tables e below (s₁.setTop (mkF m 2 #[.val (.double dd1), .second, .val (.double dd2), .second] [(.double FP.dconst0), (.double dd2)])) _
    refine XS.dcmpS X0.here hx rfl (hb hby d2_2) rfl rfl ?_
    show Steps p.tables e below (s₁.setTop (mkF m 3 #[.val (.double dd1), .second, .val (.double dd2), .second] [(.int (cmpValue (FP.dcmp dd2 FP.dconst0) .l))])) _
    refine XS.ifYes X0.here hx rfl (pc0 := 3) (pc' := 22) rfl (hb hby d2_3) rfl ((if0 _ _).trans (feq hc3).2) (by decide) (by decide) ?_
    show Steps p.tables e below (s₁.setTop (mkF m 22 #[.val (.double dd1), .second, .val (.double dd2), .second] [])) _
    refine XS.dloadN X0.here hx rfl (hb hby d2_22) rfl ?_
    show Steps p.tables e below (s₁.setTop (mkF m 23 #[.val (.double dd1), .second, .val (.double dd2), .second] [(.double dd2)])) _
    refine X0.ldc2DoubleC hx hown (mvT hZ (hw _ (List.mem_of_getElem? (i := 12) rfl))) (g := (mkF m 23 #[.val (.double dd1), .second, .val (.double dd2), .second] [(.double dd2)])) rfl (hb hby d2_23) _ ?_
    show Steps p.tables e below (s₁.setTop (mkF m 26 #[.val (.double dd1), .second, .val (.double dd2), .second] [(.double (4503599627370496 : UInt64)), (.double dd2)])) _
    refine XS.dcmpS X0.here hx rfl (hb hby d2_26) rfl rfl ?_
    show Steps p.tables e below (s₁.setTop (mkF m 27 #[.val (.double dd1), .second, .val (.double dd2), .second] [(.int (cmpValue (FP.dcmp dd2 (4503599627370496 : UInt64)) .l))])) _
    refine XS.ifNo X0.here hx rfl (hb hby d2_27) rfl ((if0 _ _).trans (flt hc27).1) ?_
    show Steps p.tables e below (s₁.setTop (mkF m 30 #[.val (.double dd1), .second, .val (.double dd2), .second] [])) _
    refine XS.dloadN X0.here hx rfl (hb hby d2_30) rfl ?_
    show Steps p.tables e below (s₁.setTop (mkF m 31 #[.val (.double dd1), .second, .val (.double dd2), .second] [(.double dd1)])) _
    refine XS.dloadN X0.here hx rfl (hb hby d2_31) rfl ?_
    show Steps p.tables e below (s₁.setTop (mkF m 32 #[.val (.double dd1), .second, .val (.double dd2), .second] [(.double dd2), (.double dd1)])) _
    refine X0.ldc2DoubleC hx hown (mvT hZ (hw _ (List.mem_of_getElem? (i := 13) rfl))) (g := (mkF m 32 #[.val (.double dd1), .second, .val (.double dd2), .second] [(.double dd2), (.double dd1)])) rfl (hb hby d2_32) _ ?_
    show Steps p.tables e below (s₁.setTop (mkF m 35 #[.val (.double dd1), .second, .val (.double dd2), .second] [(.double (4607182418800017424 : UInt64)), (.double dd2), (.double dd1)])) _
    refine XS.dmulS X0.here hx rfl (hb hby d2_35) rfl hnn35 rfl ?_
    show Steps p.tables e below (s₁.setTop (mkF m 36 #[.val (.double dd1), .second, .val (.double dd2), .second] [(.double (FP.dmul dd2 (4607182418800017424 : UInt64))), (.double dd1)])) _
    refine XS.dcmpS X0.here hx rfl (hb hby d2_36) rfl rfl ?_
    show Steps p.tables e below (s₁.setTop (mkF m 37 #[.val (.double dd1), .second, .val (.double dd2), .second] [(.int (cmpValue (FP.dcmp dd1 (FP.dmul dd2 (4607182418800017424 : UInt64))) .l))])) _
    refine XS.ifNo X0.here hx rfl (hb hby d2_37) rfl ((if0 _ _).trans (tlt hc37).2.2.2) ?_
    show Steps p.tables e below (s₁.setTop (mkF m 40 #[.val (.double dd1), .second, .val (.double dd2), .second] [])) _
    refine XS.iconst X0.here hx rfl (hb hby d2_40) ?_
    show Steps p.tables e below (s₁.setTop (mkF m 41 #[.val (.double dd1), .second, .val (.double dd2), .second] [(.int (1 : Int32))])) _
    refine XS.goto X0.here hx rfl (pc0 := 41) (pc' := 45) rfl (hb hby d2_41) (by decide) (by decide) ?_
    show Steps p.tables e below (s₁.setTop (mkF m 45 #[.val (.double dd1), .second, .val (.double dd2), .second] [(.int (1 : Int32))])) _
    exact retN X0 hx (t := .boolean) Bd.returns (by simp) (hb hby d2_45) hr
  · show Q2 Z dd1 dd2 h0 n0 _ s₁.heap _
    rw [e0]
    exact ⟨(by unfold own_ich; rw [if_neg hc3, if_neg hc27, if_pos hc37]), N0, rfl⟩
theorem rm2 (l : Launch) (Z : State) (a0 : Array Value) (hw : ∀ d ∈ tables_1, d.before a0 Z = true) (ws : List Jvm.Cond) (dd1 : UInt64) (dd2 : UInt64) (h0 : Heap) (n0 : Nat) (Z0 : n0 ≤ h0.size)  (hnn35 : NoNaN64 (FP.dmul dd2 (4607182418800017424 : UInt64))) :
    MetFree l (⟨"com/example/level_ring/levelring/placement/Members", "isCertainlyHigher", "(DD)Z"⟩ : MethodName) (head1 (Jvm.Cond.code (⟨"com/example/level_ring/levelring/placement/Members", "isCertainlyHigher", "(DD)Z"⟩ : MethodName) prog_36_method_28_code 4 (some .boolean) :: ws) ({ frames := 0, cells := 0, slots := 0, locals := 0 } : Room)) (fun a U => a = #[(.double dd1), (.double dd2)] ∧ Z.Warmed39 U.vm ∧ U.heap = h0) (fun _ _ _ _ _ => True) (fun _ U o U' => ∃ v L, o = .returned v ∧ Q2 Z dd1 dd2 h0 n0 v U'.heap L ∧ FrameEnd U o U' L ({ frames := 0, cells := 0, slots := 0, locals := 0 } : Room).cells ({ frames := 0, cells := 0, slots := 0, locals := 0 } : Room).slots) := by
  by_cases hc3 : (cmpValue (FP.dcmp dd2 FP.dconst0) .l) = (0 : Int32)
  · by_cases hc11 : (cmpValue (FP.dcmp dd1 (4503599627370496 : UInt64)) .l) < (0 : Int32)
    · exact rm2_ft l Z a0 hw ws dd1 dd2 h0 n0 Z0 hc3 hc11
    · exact rm2_ff l Z a0 hw ws dd1 dd2 h0 n0 Z0 hc3 hc11
  · by_cases hc27 : (cmpValue (FP.dcmp dd2 (4503599627370496 : UInt64)) .l) < (0 : Int32)
    · exact rm2_tt l Z a0 hw ws dd1 dd2 h0 n0 Z0 hc3 hc27
    · by_cases hc37 : (0 : Int32) < (cmpValue (FP.dcmp dd1 (FP.dmul dd2 (4607182418800017424 : UInt64))) .l)
      · exact rm2_tff l Z a0 hw ws dd1 dd2 h0 n0 Z0 hc3 hc27 hnn35 hc37
      · exact rm2_tft l Z a0 hw ws dd1 dd2 h0 n0 Z0 hc3 hc27 hnn35 hc37
theorem pn_0 : plainName "com/example/level_ring/levelring/placement/MembersIsCertainlyHigherPinLaw" = true := by first | (simp [plainName, overriddenIn]; done) | decide +kernel
theorem pdw_0 : parseMethodDescriptor "(I)D" = some ⟨[.int], some .double⟩ := by decide +kernel
theorem pdw_1 : parseMethodDescriptor "(DD)Z" = some ⟨[.double, .double], some .boolean⟩ := by decide +kernel
theorem ef_0 (m : MethodId) (x0 : Int32) (x1 : Int64) (x2 : Int32) (x3 : Int32) : entryFrame m #[(.int x0), (.long x1), (.int x2), (.int x3)] maxLocals = mkF m 0 #[.val (.int x0), .val (.long x1), .second, .val (.int x2), .val (.int x3), .unset, .unset, .unset, .unset, .unset, .unset, .unset, .unset, .unset, .unset, .unset, .unset, .unset, .unset, .unset, .unset, .unset, .unset, .unset, .unset, .unset, .unset, .unset] [] := by first | (simp [entryFrame, mkF, argsToLocals, Value.category, maxLocals]; done) | rfl
def Q0 (Z : State) (p1 : Int32) (q2 : Int64) (p3 : Int32) (p4 : Int32) (h0 : Heap) (n0 : Nat) (v : Option Value) (h : Heap) (L : List Loc) : Prop := v = some (.int (1 : Int32)) ∧ Fr n0 L
set_option maxRecDepth 65536 in
set_option maxHeartbeats 40000000 in
theorem rm0_a1t (l : Launch) (Z : State) (a0 : Array Value) (hw : ∀ d ∈ tables_1, d.before a0 Z = true) (ws : List Jvm.Cond) (p1 : Int32) (q2 : Int64) (p3 : Int32) (p4 : Int32) (h0 : Heap) (n0 : Nat) (Z0 : n0 ≤ h0.size) (hc31 : (p1 &&& (3 : Int32)) = (0 : Int32)) (hc66 : (0 : Int32) < (lcmpW (own_r q2) (140737488355328 : Int64))) (hc145 : (0 : Int32) < (lcmpW (own_m q2 p3) ((own_hq1 q2) + (1 : Int64)))) :
    MetFree l x (head1 (Jvm.Cond.code x code maxLocals ret :: ws) room_1) (fun a U => a = #[(.int p1), (.long q2), (.int p3), (.int p4)] ∧ Z.Warmed39 U.vm ∧ U.heap = h0) (fun _ _ _ _ _ => True) (fun _ U o U' => ∃ v L, o = .returned v ∧ Q0 Z p1 q2 p3 p4 h0 n0 v U'.heap L ∧ FrameEnd U o U' L room_1.cells room_1.slots) := by
  have hnz37 : ¬ ((64 : Int32) = (0 : Int32)) := by decide
  have hnn123 : Jvm.Free.Fl.NoNaN64 (FP.dmul (FP.l2d (own_H q2)) (own_sc p4)) := own_nn _ _
  have hnn134 : Jvm.Free.Fl.NoNaN64 (FP.dmul (FP.l2d (own_m q2 p3)) (own_sc p4)) := own_nn _ _
  refine MetFree.of_bodySF (plainFor_of_name pn_0) hisR ?_
  intro p e s m args below meth c s₁ Bd hml0 hP hK
  obtain ⟨rfl, hZ, hh⟩ := hP
  have hx := Bd.exec
  have hby := Bd.bytes
  have hml : c.maxLocals = 28 := hml0
  have hown : s.vm.findClass "com/example/level_ring/levelring/placement/MembersIsCertainlyHigherPinLaw" = some m.cls := findClass_of_methodNamed Bd.named
  have hnm := (name_of_methodNamed Bd.named Bd.method).1
  have X0 : Stand p l e room_1 s m #[(.int p1), (.long q2), (.int p3), (.int p4)] below meth c s₁ [] 0 0 := Stand.of_body Bd
  have e0 : s₁.heap = h0 := by rw [← hh, Bd.state]; rfl
  have N0 := Fr.nil n0
  have pre0 : ∀ t, Steps p.tables e below (s₁.setTop (mkF m 0 #[.val (.int p1), .val (.long q2), .second, .val (.int p3), .val (.int p4), .unset, .unset, .unset, .unset, .unset, .unset, .unset, .unset, .unset, .unset, .unset, .unset, .unset, .unset, .unset, .unset, .unset, .unset, .unset, .unset, .unset, .unset, .unset] [])) t → Steps p.tables e below (s₁.setTop (entryFrame m #[(.int p1), (.long q2), (.int p3), (.int p4)] maxLocals)) t := fun t k => castTop (ef_0 m p1 q2 p3 p4) k
  -- 3. LAWS
  -- pc 8: com/example/level_ring/levelring/placement/MembersIsCertainlyHigherPinLaw.scaleOf by its contract rm1
  obtain ⟨_, _, ⟨T5, L5, k5, n5⟩, -, X5, ⟨Lc5, hQ5, l5, y5, z5⟩, st5⟩ := Jvm.LawKit.callS X0 hx (y := (⟨"com/example/level_ring/levelring/placement/MembersIsCertainlyHigherPinLaw", "scaleOf", "(I)D"⟩ : MethodName)) hown (mvT hZ (hw _ (List.mem_of_getElem? (i := 0) rfl))) (mvT hZ (hw _ (List.mem_of_getElem? (i := 1) rfl))) (mvT hZ (hw _ (List.mem_of_getElem? (i := 2) rfl))) (mvT hZ (hw _ (List.mem_of_getElem? (i := 3) rfl))) (by decide) (backOf (W := 0) (rm1 l Z a0 hw [] (p4 &&& (3 : Int32))  h0 n0 Z0) hZ (hw _ (List.mem_of_getElem? (i := 3) rfl)) (hw _ (List.mem_of_getElem? (i := 2) rfl)) (by decide) (by decide)) (g := (mkF m 8 #[.val (.int p1), .val (.long q2), .second, .val (.int p3), .val (.int p4), .val (.int (p4 &&& (3 : Int32))), .unset, .unset, .unset, .unset, .unset, .unset, .unset, .unset, .unset, .unset, .unset, .unset, .unset, .unset, .unset, .unset, .unset, .unset, .unset, .unset, .unset, .unset] [(.int (p4 &&& (3 : Int32)))])) rfl (by rw [hml]; rfl) (argsL := [(.int (p4 &&& (3 : Int32)))]) (rest := []) (lenOf pdw_0 rfl) rfl (by show 2 * 0 + _ ≤ _; exact Nat.le_of_eq rfl) (hb hby at_8) (fun _ _ => ⟨rfl, e0, (by decide : 0 + 0 ≤ _), (by decide : 0 + 0 ≤ _)⟩)
  dsimp only [Pt.U, Pt.locs, Pt.cells, Pt.slots] at X5 l5 y5 z5 st5 hQ5
  subst l5 y5 z5
  obtain ⟨rfl, N5q, hh5⟩ := hQ5
  have N5 := Fr.app N0 N5q
  -- pc 159: com/example/level_ring/levelring/placement/Members.isCertainlyHigher by its contract rm2
  obtain ⟨_, _, ⟨T6, L6, k6, n6⟩, -, X6, ⟨Lc6, hQ6, l6, y6, z6⟩, st6⟩ := Jvm.LawKit.callS X5 hx (y := (⟨"com/example/level_ring/levelring/placement/Members", "isCertainlyHigher", "(DD)Z"⟩ : MethodName)) hown (mvT hZ (hw _ (List.mem_of_getElem? (i := 8) rfl))) (mvT hZ (hw _ (List.mem_of_getElem? (i := 9) rfl))) (mvT hZ (hw _ (List.mem_of_getElem? (i := 10) rfl))) (mvT hZ (hw _ (List.mem_of_getElem? (i := 11) rfl))) (by decide) (backOf (W := 0) (rm2 l Z a0 hw [] (FP.dmul (FP.l2d (own_m q2 p3)) (own_sc p4)) (FP.dmul (FP.l2d (own_H q2)) (own_sc p4))  h0 n0 Z0 (dmul_out (own_ms_fin _ (by have := own_H_rng q2; omega)) own_C_fin)) hZ (hw _ (List.mem_of_getElem? (i := 11) rfl)) (hw _ (List.mem_of_getElem? (i := 10) rfl)) (by decide) (by decide)) (g := (mkF m 159 #[.val (.int p1), .val (.long q2), .second, .val (.int p3), .val (.int p4), .val (.int (p4 &&& (3 : Int32))), .val (.double (own_sc p4)), .second, .val (.int (p1 &&& (3 : Int32))), .val (.long (own_H q2)), .second, .val (.long (own_dl p3)), .second, .val (.long (own_q q2)), .second, .val (.long (own_r q2)), .second, .val (.long (140737488355328 : Int64)), .second, .val (.long (1 : Int64)), .second, .val (.long ((own_hq1 q2) + (1 : Int64))), .second, .val (.double (FP.dmul (FP.l2d (own_H q2)) (own_sc p4))), .second, .val (.double (FP.dmul (FP.l2d (own_m q2 p3)) (own_sc p4))), .second, .val (.int (1 : Int32))] [(.double (FP.dmul (FP.l2d (own_H q2)) (own_sc p4))), (.double (FP.dmul (FP.l2d (own_m q2 p3)) (own_sc p4)))])) rfl (by rw [hml]; rfl) (argsL := [(.double (FP.dmul (FP.l2d (own_m q2 p3)) (own_sc p4))), (.double (FP.dmul (FP.l2d (own_H q2)) (own_sc p4)))]) (rest := []) (lenOf pdw_1 rfl) rfl (by show 2 * 0 + _ ≤ _; exact Nat.le_of_eq rfl) (hb hby at_159) (fun _ _ => ⟨rfl, hh5, (by decide : 0 + 0 ≤ _), (by decide : 0 + 0 ≤ _)⟩)
  dsimp only [Pt.U, Pt.locs, Pt.cells, Pt.slots] at X6 l6 y6 z6 st6 hQ6
  subst l6 y6 z6
  obtain ⟨rfl, N6q, hh6⟩ := hQ6
  have N6 := Fr.app N5 N6q
  obtain ⟨fs, hr, hrun, hended, hW, hsame⟩ := X6.leave (v := some (.int (1 : Int32))) (fun h => by rw [Bd.returns] at h; cases h)
  refine ⟨_, _, pre0 _ ?_, hrun, hended, _, _, rfl, ?_, ⟨_, rfl⟩, hW, hsame.mono (by decide) (by decide)⟩
  -- 4. STEPS
  · show Steps p.tables e below (s₁.setTop (mkF m 0 #[.val (.int p1), .val (.long q2), .second, .val (.int p3), .val (.int p4), .unset, .unset, .unset, .unset, .unset, .unset, .unset, .unset, .unset, .unset, .unset, .unset, .unset, .unset, .unset, .unset, .unset, .unset, .unset, .unset, .unset, .unset, .unset] [])) _
    refine XS.iload X0.here hx rfl (hb hby at_0) rfl ?_
    refine XS.iconst X0.here hx rfl (hb hby at_2) ?_
    show Steps p.tables e below (s₁.setTop (mkF m 3 #[.val (.int p1), .val (.long q2), .second, .val (.int p3), .val (.int p4), .unset, .unset, .unset, .unset, .unset, .unset, .unset, .unset, .unset, .unset, .unset, .unset, .unset, .unset, .unset, .unset, .unset, .unset, .unset, .unset, .unset, .unset, .unset] [(.int (3 : Int32)), (.int p4)])) _
    refine XS.iand X0.here hx rfl (hb hby at_3) rfl ?_
    refine XS.istore X0.here hx rfl (hb hby at_4) rfl (l' := #[.val (.int p1), .val (.long q2), .second, .val (.int p3), .val (.int p4), .val (.int (p4 &&& (3 : Int32))), .unset, .unset, .unset, .unset, .unset, .unset, .unset, .unset, .unset, .unset, .unset, .unset, .unset, .unset, .unset, .unset, .unset, .unset, .unset, .unset, .unset, .unset]) rfl ?_
    show Steps p.tables e below (s₁.setTop (mkF m 6 #[.val (.int p1), .val (.long q2), .second, .val (.int p3), .val (.int p4), .val (.int (p4 &&& (3 : Int32))), .unset, .unset, .unset, .unset, .unset, .unset, .unset, .unset, .unset, .unset, .unset, .unset, .unset, .unset, .unset, .unset, .unset, .unset, .unset, .unset, .unset, .unset] [])) _
    refine XS.iload X0.here hx rfl (hb hby at_6) rfl ?_
    show Steps p.tables e below (s₁.setTop (mkF m 8 #[.val (.int p1), .val (.long q2), .second, .val (.int p3), .val (.int p4), .val (.int (p4 &&& (3 : Int32))), .unset, .unset, .unset, .unset, .unset, .unset, .unset, .unset, .unset, .unset, .unset, .unset, .unset, .unset, .unset, .unset, .unset, .unset, .unset, .unset, .unset, .unset] [(.int (p4 &&& (3 : Int32)))])) _
    refine st5 _ ?_
    show Steps p.tables e below (T5.setTop (mkF m 11 #[.val (.int p1), .val (.long q2), .second, .val (.int p3), .val (.int p4), .val (.int (p4 &&& (3 : Int32))), .unset, .unset, .unset, .unset, .unset, .unset, .unset, .unset, .unset, .unset, .unset, .unset, .unset, .unset, .unset, .unset, .unset, .unset, .unset, .unset, .unset, .unset] [(.double (own_sc p4))])) _
    refine XS.dstore X5.here hx rfl (hb hby at_11) rfl (l' := #[.val (.int p1), .val (.long q2), .second, .val (.int p3), .val (.int p4), .val (.int (p4 &&& (3 : Int32))), .val (.double (own_sc p4)), .second, .unset, .unset, .unset, .unset, .unset, .unset, .unset, .unset, .unset, .unset, .unset, .unset, .unset, .unset, .unset, .unset, .unset, .unset, .unset, .unset]) rfl ?_
    refine XS.iloadN X5.here hx rfl (hb hby at_13) rfl ?_
    show Steps p.tables e below (T5.setTop (mkF m 14 #[.val (.int p1), .val (.long q2), .second, .val (.int p3), .val (.int p4), .val (.int (p4 &&& (3 : Int32))), .val (.double (own_sc p4)), .second, .unset, .unset, .unset, .unset, .unset, .unset, .unset, .unset, .unset, .unset, .unset, .unset, .unset, .unset, .unset, .unset, .unset, .unset, .unset, .unset] [(.int p1)])) _
    refine XS.iconst X5.here hx rfl (hb hby at_14) ?_
    refine XS.iand X5.here hx rfl (hb hby at_15) rfl ?_
    show Steps p.tables e below (T5.setTop (mkF m 16 #[.val (.int p1), .val (.long q2), .second, .val (.int p3), .val (.int p4), .val (.int (p4 &&& (3 : Int32))), .val (.double (own_sc p4)), .second, .unset, .unset, .unset, .unset, .unset, .unset, .unset, .unset, .unset, .unset, .unset, .unset, .unset, .unset, .unset, .unset, .unset, .unset, .unset, .unset] [(.int (p1 &&& (3 : Int32)))])) _
    refine XS.istore X5.here hx rfl (hb hby at_16) rfl (l' := #[.val (.int p1), .val (.long q2), .second, .val (.int p3), .val (.int p4), .val (.int (p4 &&& (3 : Int32))), .val (.double (own_sc p4)), .second, .val (.int (p1 &&& (3 : Int32))), .unset, .unset, .unset, .unset, .unset, .unset, .unset, .unset, .unset, .unset, .unset, .unset, .unset, .unset, .unset, .unset, .unset, .unset, .unset]) rfl ?_
    show Steps p.tables e below (T5.setTop (mkF m 18 #[.val (.int p1), .val (.long q2), .second, .val (.int p3), .val (.int p4), .val (.int (p4 &&& (3 : Int32))), .val (.double (own_sc p4)), .second, .val (.int (p1 &&& (3 : Int32))), .unset, .unset, .unset, .unset, .unset, .unset, .unset, .unset, .unset, .unset, .unset, .unset, .unset, .unset, .unset, .unset, .unset, .unset, .unset] [])) _
    refine X5.ldc2Long hx hown (mvT hZ (hw _ (List.mem_of_getElem? (i := 4) rfl))) (g := (mkF m 18 #[.val (.int p1), .val (.long q2), .second, .val (.int p3), .val (.int p4), .val (.int (p4 &&& (3 : Int32))), .val (.double (own_sc p4)), .second, .val (.int (p1 &&& (3 : Int32))), .unset, .unset, .unset, .unset, .unset, .unset, .unset, .unset, .unset, .unset, .unset, .unset, .unset, .unset, .unset, .unset, .unset, .unset, .unset] [])) rfl (hb hby at_18) _ ?_
    show Steps p.tables e below (T5.setTop (mkF m 21 #[.val (.int p1), .val (.long q2), .second, .val (.int p3), .val (.int p4), .val (.int (p4 &&& (3 : Int32))), .val (.double (own_sc p4)), .second, .val (.int (p1 &&& (3 : Int32))), .unset, .unset, .unset, .unset, .unset, .unset, .unset, .unset, .unset, .unset, .unset, .unset, .unset, .unset, .unset, .unset, .unset, .unset, .unset] [(.long (4503599627370496 : Int64))])) _
    refine XS.lloadN X5.here hx rfl (hb hby at_21) rfl ?_
    show Steps p.tables e below (T5.setTop (mkF m 22 #[.val (.int p1), .val (.long q2), .second, .val (.int p3), .val (.int p4), .val (.int (p4 &&& (3 : Int32))), .val (.double (own_sc p4)), .second, .val (.int (p1 &&& (3 : Int32))), .unset, .unset, .unset, .unset, .unset, .unset, .unset, .unset, .unset, .unset, .unset, .unset, .unset, .unset, .unset, .unset, .unset, .unset, .unset] [(.long q2), (.long (4503599627370496 : Int64))])) _
    refine X5.ldc2Long hx hown (mvT hZ (hw _ (List.mem_of_getElem? (i := 5) rfl))) (g := (mkF m 22 #[.val (.int p1), .val (.long q2), .second, .val (.int p3), .val (.int p4), .val (.int (p4 &&& (3 : Int32))), .val (.double (own_sc p4)), .second, .val (.int (p1 &&& (3 : Int32))), .unset, .unset, .unset, .unset, .unset, .unset, .unset, .unset, .unset, .unset, .unset, .unset, .unset, .unset, .unset, .unset, .unset, .unset, .unset] [(.long q2), (.long (4503599627370496 : Int64))])) rfl (hb hby at_22) _ ?_
    show Steps p.tables e below (T5.setTop (mkF m 25 #[.val (.int p1), .val (.long q2), .second, .val (.int p3), .val (.int p4), .val (.int (p4 &&& (3 : Int32))), .val (.double (own_sc p4)), .second, .val (.int (p1 &&& (3 : Int32))), .unset, .unset, .unset, .unset, .unset, .unset, .unset, .unset, .unset, .unset, .unset, .unset, .unset, .unset, .unset, .unset, .unset, .unset, .unset] [(.long (2251799813685247 : Int64)), (.long q2), (.long (4503599627370496 : Int64))])) _
    refine XS.land X5.here hx rfl (hb hby at_25) rfl ?_
    refine XS.lor X5.here hx rfl (hb hby at_26) rfl ?_
    show Steps p.tables e below (T5.setTop (mkF m 27 #[.val (.int p1), .val (.long q2), .second, .val (.int p3), .val (.int p4), .val (.int (p4 &&& (3 : Int32))), .val (.double (own_sc p4)), .second, .val (.int (p1 &&& (3 : Int32))), .unset, .unset, .unset, .unset, .unset, .unset, .unset, .unset, .unset, .unset, .unset, .unset, .unset, .unset, .unset, .unset, .unset, .unset, .unset] [(.long (own_H q2))])) _
    refine XS.lstore X5.here hx rfl (hb hby at_27) rfl (l' := #[.val (.int p1), .val (.long q2), .second, .val (.int p3), .val (.int p4), .val (.int (p4 &&& (3 : Int32))), .val (.double (own_sc p4)), .second, .val (.int (p1 &&& (3 : Int32))), .val (.long (own_H q2)), .second, .unset, .unset, .unset, .unset, .unset, .unset, .unset, .unset, .unset, .unset, .unset, .unset, .unset, .unset, .unset, .unset, .unset]) rfl ?_
    refine XS.iload X5.here hx rfl (hb hby at_29) rfl ?_
    show Steps p.tables e below (T5.setTop (mkF m 31 #[.val (.int p1), .val (.long q2), .second, .val (.int p3), .val (.int p4), .val (.int (p4 &&& (3 : Int32))), .val (.double (own_sc p4)), .second, .val (.int (p1 &&& (3 : Int32))), .val (.long (own_H q2)), .second, .unset, .unset, .unset, .unset, .unset, .unset, .unset, .unset, .unset, .unset, .unset, .unset, .unset, .unset, .unset, .unset, .unset] [(.int (p1 &&& (3 : Int32)))])) _
    refine XS.ifNo X5.here hx rfl (hb hby at_31) rfl ((if0 _ _).trans (teq hc31).2) ?_
    refine XS.iloadN X5.here hx rfl (hb hby at_34) rfl ?_
    show Steps p.tables e below (T5.setTop (mkF m 35 #[.val (.int p1), .val (.long q2), .second, .val (.int p3), .val (.int p4), .val (.int (p4 &&& (3 : Int32))), .val (.double (own_sc p4)), .second, .val (.int (p1 &&& (3 : Int32))), .val (.long (own_H q2)), .second, .unset, .unset, .unset, .unset, .unset, .unset, .unset, .unset, .unset, .unset, .unset, .unset, .unset, .unset, .unset, .unset, .unset] [(.int p3)])) _
    refine XS.bipush X5.here hx rfl (hb hby at_35) ?_
    show Steps p.tables e below (T5.setTop (mkF m 37 #[.val (.int p1), .val (.long q2), .second, .val (.int p3), .val (.int p4), .val (.int (p4 &&& (3 : Int32))), .val (.double (own_sc p4)), .second, .val (.int (p1 &&& (3 : Int32))), .val (.long (own_H q2)), .second, .unset, .unset, .unset, .unset, .unset, .unset, .unset, .unset, .unset, .unset, .unset, .unset, .unset, .unset, .unset, .unset, .unset] [(.int (64 : Int32)), (.int p3)])) _
    refine own_irem X5.here hx rfl (hb hby at_37) rfl hnz37 ?_
    show Steps p.tables e below (T5.setTop (mkF m 38 #[.val (.int p1), .val (.long q2), .second, .val (.int p3), .val (.int p4), .val (.int (p4 &&& (3 : Int32))), .val (.double (own_sc p4)), .second, .val (.int (p1 &&& (3 : Int32))), .val (.long (own_H q2)), .second, .unset, .unset, .unset, .unset, .unset, .unset, .unset, .unset, .unset, .unset, .unset, .unset, .unset, .unset, .unset, .unset, .unset] [(.int (p3 % (64 : Int32)))])) _
    refine XS.i2l X5.here hx rfl (hb hby at_38) rfl ?_
    refine XS.lstore X5.here hx rfl (hb hby at_39) rfl (l' := #[.val (.int p1), .val (.long q2), .second, .val (.int p3), .val (.int p4), .val (.int (p4 &&& (3 : Int32))), .val (.double (own_sc p4)), .second, .val (.int (p1 &&& (3 : Int32))), .val (.long (own_H q2)), .second, .val (.long (own_dl p3)), .second, .unset, .unset, .unset, .unset, .unset, .unset, .unset, .unset, .unset, .unset, .unset, .unset, .unset, .unset, .unset]) rfl ?_
    show Steps p.tables e below (T5.setTop (mkF m 41 #[.val (.int p1), .val (.long q2), .second, .val (.int p3), .val (.int p4), .val (.int (p4 &&& (3 : Int32))), .val (.double (own_sc p4)), .second, .val (.int (p1 &&& (3 : Int32))), .val (.long (own_H q2)), .second, .val (.long (own_dl p3)), .second, .unset, .unset, .unset, .unset, .unset, .unset, .unset, .unset, .unset, .unset, .unset, .unset, .unset, .unset, .unset] [])) _
    refine XS.lload X5.here hx rfl (hb hby at_41) rfl ?_
    refine XS.bipush X5.here hx rfl (hb hby at_43) ?_
    show Steps p.tables e below (T5.setTop (mkF m 45 #[.val (.int p1), .val (.long q2), .second, .val (.int p3), .val (.int p4), .val (.int (p4 &&& (3 : Int32))), .val (.double (own_sc p4)), .second, .val (.int (p1 &&& (3 : Int32))), .val (.long (own_H q2)), .second, .val (.long (own_dl p3)), .second, .unset, .unset, .unset, .unset, .unset, .unset, .unset, .unset, .unset, .unset, .unset, .unset, .unset, .unset, .unset] [(.int (48 : Int32)), (.long (own_H q2))])) _
    refine XS.lushr X5.here hx rfl (hb hby at_45) rfl ?_
    refine XS.lstore X5.here hx rfl (hb hby at_46) rfl (l' := #[.val (.int p1), .val (.long q2), .second, .val (.int p3), .val (.int p4), .val (.int (p4 &&& (3 : Int32))), .val (.double (own_sc p4)), .second, .val (.int (p1 &&& (3 : Int32))), .val (.long (own_H q2)), .second, .val (.long (own_dl p3)), .second, .val (.long (own_q q2)), .second, .unset, .unset, .unset, .unset, .unset, .unset, .unset, .unset, .unset, .unset, .unset, .unset, .unset]) rfl ?_
    show Steps p.tables e below (T5.setTop (mkF m 48 #[.val (.int p1), .val (.long q2), .second, .val (.int p3), .val (.int p4), .val (.int (p4 &&& (3 : Int32))), .val (.double (own_sc p4)), .second, .val (.int (p1 &&& (3 : Int32))), .val (.long (own_H q2)), .second, .val (.long (own_dl p3)), .second, .val (.long (own_q q2)), .second, .unset, .unset, .unset, .unset, .unset, .unset, .unset, .unset, .unset, .unset, .unset, .unset, .unset] [])) _
    refine XS.lload X5.here hx rfl (hb hby at_48) rfl ?_
    show Steps p.tables e below (T5.setTop (mkF m 50 #[.val (.int p1), .val (.long q2), .second, .val (.int p3), .val (.int p4), .val (.int (p4 &&& (3 : Int32))), .val (.double (own_sc p4)), .second, .val (.int (p1 &&& (3 : Int32))), .val (.long (own_H q2)), .second, .val (.long (own_dl p3)), .second, .val (.long (own_q q2)), .second, .unset, .unset, .unset, .unset, .unset, .unset, .unset, .unset, .unset, .unset, .unset, .unset, .unset] [(.long (own_H q2))])) _
    refine X5.ldc2Long hx hown (mvT hZ (hw _ (List.mem_of_getElem? (i := 6) rfl))) (g := (mkF m 50 #[.val (.int p1), .val (.long q2), .second, .val (.int p3), .val (.int p4), .val (.int (p4 &&& (3 : Int32))), .val (.double (own_sc p4)), .second, .val (.int (p1 &&& (3 : Int32))), .val (.long (own_H q2)), .second, .val (.long (own_dl p3)), .second, .val (.long (own_q q2)), .second, .unset, .unset, .unset, .unset, .unset, .unset, .unset, .unset, .unset, .unset, .unset, .unset, .unset] [(.long (own_H q2))])) rfl (hb hby at_50) _ ?_
    show Steps p.tables e below (T5.setTop (mkF m 53 #[.val (.int p1), .val (.long q2), .second, .val (.int p3), .val (.int p4), .val (.int (p4 &&& (3 : Int32))), .val (.double (own_sc p4)), .second, .val (.int (p1 &&& (3 : Int32))), .val (.long (own_H q2)), .second, .val (.long (own_dl p3)), .second, .val (.long (own_q q2)), .second, .unset, .unset, .unset, .unset, .unset, .unset, .unset, .unset, .unset, .unset, .unset, .unset, .unset] [(.long (281474976710655 : Int64)), (.long (own_H q2))])) _
    refine XS.land X5.here hx rfl (hb hby at_53) rfl ?_
    refine XS.lstore X5.here hx rfl (hb hby at_54) rfl (l' := #[.val (.int p1), .val (.long q2), .second, .val (.int p3), .val (.int p4), .val (.int (p4 &&& (3 : Int32))), .val (.double (own_sc p4)), .second, .val (.int (p1 &&& (3 : Int32))), .val (.long (own_H q2)), .second, .val (.long (own_dl p3)), .second, .val (.long (own_q q2)), .second, .val (.long (own_r q2)), .second, .unset, .unset, .unset, .unset, .unset, .unset, .unset, .unset, .unset, .unset, .unset]) rfl ?_
    show Steps p.tables e below (T5.setTop (mkF m 56 #[.val (.int p1), .val (.long q2), .second, .val (.int p3), .val (.int p4), .val (.int (p4 &&& (3 : Int32))), .val (.double (own_sc p4)), .second, .val (.int (p1 &&& (3 : Int32))), .val (.long (own_H q2)), .second, .val (.long (own_dl p3)), .second, .val (.long (own_q q2)), .second, .val (.long (own_r q2)), .second, .unset, .unset, .unset, .unset, .unset, .unset, .unset, .unset, .unset, .unset, .unset] [])) _
    refine X5.ldc2Long hx hown (mvT hZ (hw _ (List.mem_of_getElem? (i := 7) rfl))) (g := (mkF m 56 #[.val (.int p1), .val (.long q2), .second, .val (.int p3), .val (.int p4), .val (.int (p4 &&& (3 : Int32))), .val (.double (own_sc p4)), .second, .val (.int (p1 &&& (3 : Int32))), .val (.long (own_H q2)), .second, .val (.long (own_dl p3)), .second, .val (.long (own_q q2)), .second, .val (.long (own_r q2)), .second, .unset, .unset, .unset, .unset, .unset, .unset, .unset, .unset, .unset, .unset, .unset] [])) rfl (hb hby at_56) _ ?_
    show Steps p.tables e below (T5.setTop (mkF m 59 #[.val (.int p1), .val (.long q2), .second, .val (.int p3), .val (.int p4), .val (.int (p4 &&& (3 : Int32))), .val (.double (own_sc p4)), .second, .val (.int (p1 &&& (3 : Int32))), .val (.long (own_H q2)), .second, .val (.long (own_dl p3)), .second, .val (.long (own_q q2)), .second, .val (.long (own_r q2)), .second, .unset, .unset, .unset, .unset, .unset, .unset, .unset, .unset, .unset, .unset, .unset] [(.long (140737488355328 : Int64))])) _
    refine XS.lstore X5.here hx rfl (hb hby at_59) rfl (l' := #[.val (.int p1), .val (.long q2), .second, .val (.int p3), .val (.int p4), .val (.int (p4 &&& (3 : Int32))), .val (.double (own_sc p4)), .second, .val (.int (p1 &&& (3 : Int32))), .val (.long (own_H q2)), .second, .val (.long (own_dl p3)), .second, .val (.long (own_q q2)), .second, .val (.long (own_r q2)), .second, .val (.long (140737488355328 : Int64)), .second, .unset, .unset, .unset, .unset, .unset, .unset, .unset, .unset, .unset]) rfl ?_
    refine XS.lload X5.here hx rfl (hb hby at_61) rfl ?_
    show Steps p.tables e below (T5.setTop (mkF m 63 #[.val (.int p1), .val (.long q2), .second, .val (.int p3), .val (.int p4), .val (.int (p4 &&& (3 : Int32))), .val (.double (own_sc p4)), .second, .val (.int (p1 &&& (3 : Int32))), .val (.long (own_H q2)), .second, .val (.long (own_dl p3)), .second, .val (.long (own_q q2)), .second, .val (.long (own_r q2)), .second, .val (.long (140737488355328 : Int64)), .second, .unset, .unset, .unset, .unset, .unset, .unset, .unset, .unset, .unset] [(.long (own_r q2))])) _
    refine XS.lload X5.here hx rfl (hb hby at_63) rfl ?_
    refine XS.lcmp X5.here hx rfl (hb hby at_65) rfl ?_
    show Steps p.tables e below (T5.setTop (mkF m 66 #[.val (.int p1), .val (.long q2), .second, .val (.int p3), .val (.int p4), .val (.int (p4 &&& (3 : Int32))), .val (.double (own_sc p4)), .second, .val (.int (p1 &&& (3 : Int32))), .val (.long (own_H q2)), .second, .val (.long (own_dl p3)), .second, .val (.long (own_q q2)), .second, .val (.long (own_r q2)), .second, .val (.long (140737488355328 : Int64)), .second, .unset, .unset, .unset, .unset, .unset, .unset, .unset, .unset, .unset] [(.int (lcmpW (own_r q2) (140737488355328 : Int64)))])) _
    refine XS.ifNo X5.here hx rfl (hb hby at_66) rfl ((if0 _ _).trans (tlt hc66).2.2.2) ?_
    refine XS.lconst X5.here hx rfl (hb hby at_69) ?_
    show Steps p.tables e below (T5.setTop (mkF m 70 #[.val (.int p1), .val (.long q2), .second, .val (.int p3), .val (.int p4), .val (.int (p4 &&& (3 : Int32))), .val (.double (own_sc p4)), .second, .val (.int (p1 &&& (3 : Int32))), .val (.long (own_H q2)), .second, .val (.long (own_dl p3)), .second, .val (.long (own_q q2)), .second, .val (.long (own_r q2)), .second, .val (.long (140737488355328 : Int64)), .second, .unset, .unset, .unset, .unset, .unset, .unset, .unset, .unset, .unset] [(.long (1 : Int64))])) _
    refine XS.lstore X5.here hx rfl (hb hby at_70) rfl (l' := #[.val (.int p1), .val (.long q2), .second, .val (.int p3), .val (.int p4), .val (.int (p4 &&& (3 : Int32))), .val (.double (own_sc p4)), .second, .val (.int (p1 &&& (3 : Int32))), .val (.long (own_H q2)), .second, .val (.long (own_dl p3)), .second, .val (.long (own_q q2)), .second, .val (.long (own_r q2)), .second, .val (.long (140737488355328 : Int64)), .second, .val (.long (1 : Int64)), .second, .unset, .unset, .unset, .unset, .unset, .unset, .unset]) rfl ?_
    refine XS.goto X5.here hx rfl (pc0 := 72) (pc' := 108) rfl (hb hby at_72) (by decide) (by decide) ?_
    show Steps p.tables e below (T5.setTop (mkF m 108 #[.val (.int p1), .val (.long q2), .second, .val (.int p3), .val (.int p4), .val (.int (p4 &&& (3 : Int32))), .val (.double (own_sc p4)), .second, .val (.int (p1 &&& (3 : Int32))), .val (.long (own_H q2)), .second, .val (.long (own_dl p3)), .second, .val (.long (own_q q2)), .second, .val (.long (own_r q2)), .second, .val (.long (140737488355328 : Int64)), .second, .val (.long (1 : Int64)), .second, .unset, .unset, .unset, .unset, .unset, .unset, .unset] [])) _
    refine XS.lload X5.here hx rfl (hb hby at_108) rfl ?_
    refine XS.lload X5.here hx rfl (hb hby at_110) rfl ?_
    show Steps p.tables e below (T5.setTop (mkF m 112 #[.val (.int p1), .val (.long q2), .second, .val (.int p3), .val (.int p4), .val (.int (p4 &&& (3 : Int32))), .val (.double (own_sc p4)), .second, .val (.int (p1 &&& (3 : Int32))), .val (.long (own_H q2)), .second, .val (.long (own_dl p3)), .second, .val (.long (own_q q2)), .second, .val (.long (own_r q2)), .second, .val (.long (140737488355328 : Int64)), .second, .val (.long (1 : Int64)), .second, .unset, .unset, .unset, .unset, .unset, .unset, .unset] [(.long (own_q q2)), (.long (own_H q2))])) _
    refine XS.ladd X5.here hx rfl (hb hby at_112) rfl ?_
    refine XS.lload X5.here hx rfl (hb hby at_113) rfl ?_
    show Steps p.tables e below (T5.setTop (mkF m 115 #[.val (.int p1), .val (.long q2), .second, .val (.int p3), .val (.int p4), .val (.int (p4 &&& (3 : Int32))), .val (.double (own_sc p4)), .second, .val (.int (p1 &&& (3 : Int32))), .val (.long (own_H q2)), .second, .val (.long (own_dl p3)), .second, .val (.long (own_q q2)), .second, .val (.long (own_r q2)), .second, .val (.long (140737488355328 : Int64)), .second, .val (.long (1 : Int64)), .second, .unset, .unset, .unset, .unset, .unset, .unset, .unset] [(.long (1 : Int64)), (.long (own_hq1 q2))])) _
    refine XS.ladd X5.here hx rfl (hb hby at_115) rfl ?_
    refine XS.lstore X5.here hx rfl (hb hby at_116) rfl (l' := #[.val (.int p1), .val (.long q2), .second, .val (.int p3), .val (.int p4), .val (.int (p4 &&& (3 : Int32))), .val (.double (own_sc p4)), .second, .val (.int (p1 &&& (3 : Int32))), .val (.long (own_H q2)), .second, .val (.long (own_dl p3)), .second, .val (.long (own_q q2)), .second, .val (.long (own_r q2)), .second, .val (.long (140737488355328 : Int64)), .second, .val (.long (1 : Int64)), .second, .val (.long ((own_hq1 q2) + (1 : Int64))), .second, .unset, .unset, .unset, .unset, .unset]) rfl ?_
    show Steps p.tables e below (T5.setTop (mkF m 118 #[.val (.int p1), .val (.long q2), .second, .val (.int p3), .val (.int p4), .val (.int (p4 &&& (3 : Int32))), .val (.double (own_sc p4)), .second, .val (.int (p1 &&& (3 : Int32))), .val (.long (own_H q2)), .second, .val (.long (own_dl p3)), .second, .val (.long (own_q q2)), .second, .val (.long (own_r q2)), .second, .val (.long (140737488355328 : Int64)), .second, .val (.long (1 : Int64)), .second, .val (.long ((own_hq1 q2) + (1 : Int64))), .second, .unset, .unset, .unset, .unset, .unset] [])) _
    refine XS.lload X5.here hx rfl (hb hby at_118) rfl ?_
    refine XS.l2dS X5.here hx rfl (hb hby at_120) rfl rfl ?_
    show Steps p.tables e below (T5.setTop (mkF m 121 #[.val (.int p1), .val (.long q2), .second, .val (.int p3), .val (.int p4), .val (.int (p4 &&& (3 : Int32))), .val (.double (own_sc p4)), .second, .val (.int (p1 &&& (3 : Int32))), .val (.long (own_H q2)), .second, .val (.long (own_dl p3)), .second, .val (.long (own_q q2)), .second, .val (.long (own_r q2)), .second, .val (.long (140737488355328 : Int64)), .second, .val (.long (1 : Int64)), .second, .val (.long ((own_hq1 q2) + (1 : Int64))), .second, .unset, .unset, .unset, .unset, .unset] [(.double (FP.l2d (own_H q2)))])) _
    refine XS.dload X5.here hx rfl (hb hby at_121) rfl ?_
    refine XS.dmulS X5.here hx rfl (hb hby at_123) rfl hnn123 rfl ?_
    show Steps p.tables e below (T5.setTop (mkF m 124 #[.val (.int p1), .val (.long q2), .second, .val (.int p3), .val (.int p4), .val (.int (p4 &&& (3 : Int32))), .val (.double (own_sc p4)), .second, .val (.int (p1 &&& (3 : Int32))), .val (.long (own_H q2)), .second, .val (.long (own_dl p3)), .second, .val (.long (own_q q2)), .second, .val (.long (own_r q2)), .second, .val (.long (140737488355328 : Int64)), .second, .val (.long (1 : Int64)), .second, .val (.long ((own_hq1 q2) + (1 : Int64))), .second, .unset, .unset, .unset, .unset, .unset] [(.double (FP.dmul (FP.l2d (own_H q2)) (own_sc p4)))])) _
    refine XS.dstore X5.here hx rfl (hb hby at_124) rfl (l' := #[.val (.int p1), .val (.long q2), .second, .val (.int p3), .val (.int p4), .val (.int (p4 &&& (3 : Int32))), .val (.double (own_sc p4)), .second, .val (.int (p1 &&& (3 : Int32))), .val (.long (own_H q2)), .second, .val (.long (own_dl p3)), .second, .val (.long (own_q q2)), .second, .val (.long (own_r q2)), .second, .val (.long (140737488355328 : Int64)), .second, .val (.long (1 : Int64)), .second, .val (.long ((own_hq1 q2) + (1 : Int64))), .second, .val (.double (FP.dmul (FP.l2d (own_H q2)) (own_sc p4))), .second, .unset, .unset, .unset]) rfl ?_
    refine XS.lload X5.here hx rfl (hb hby at_126) rfl ?_
    show Steps p.tables e below (T5.setTop (mkF m 128 #[.val (.int p1), .val (.long q2), .second, .val (.int p3), .val (.int p4), .val (.int (p4 &&& (3 : Int32))), .val (.double (own_sc p4)), .second, .val (.int (p1 &&& (3 : Int32))), .val (.long (own_H q2)), .second, .val (.long (own_dl p3)), .second, .val (.long (own_q q2)), .second, .val (.long (own_r q2)), .second, .val (.long (140737488355328 : Int64)), .second, .val (.long (1 : Int64)), .second, .val (.long ((own_hq1 q2) + (1 : Int64))), .second, .val (.double (FP.dmul (FP.l2d (own_H q2)) (own_sc p4))), .second, .unset, .unset, .unset] [(.long (own_H q2))])) _
    refine XS.lload X5.here hx rfl (hb hby at_128) rfl ?_
    refine XS.ladd X5.here hx rfl (hb hby at_130) rfl ?_
    show Steps p.tables e below (T5.setTop (mkF m 131 #[.val (.int p1), .val (.long q2), .second, .val (.int p3), .val (.int p4), .val (.int (p4 &&& (3 : Int32))), .val (.double (own_sc p4)), .second, .val (.int (p1 &&& (3 : Int32))), .val (.long (own_H q2)), .second, .val (.long (own_dl p3)), .second, .val (.long (own_q q2)), .second, .val (.long (own_r q2)), .second, .val (.long (140737488355328 : Int64)), .second, .val (.long (1 : Int64)), .second, .val (.long ((own_hq1 q2) + (1 : Int64))), .second, .val (.double (FP.dmul (FP.l2d (own_H q2)) (own_sc p4))), .second, .unset, .unset, .unset] [(.long (own_m q2 p3))])) _
    refine XS.l2dS X5.here hx rfl (hb hby at_131) rfl rfl ?_
    refine XS.dload X5.here hx rfl (hb hby at_132) rfl ?_
    show Steps p.tables e below (T5.setTop (mkF m 134 #[.val (.int p1), .val (.long q2), .second, .val (.int p3), .val (.int p4), .val (.int (p4 &&& (3 : Int32))), .val (.double (own_sc p4)), .second, .val (.int (p1 &&& (3 : Int32))), .val (.long (own_H q2)), .second, .val (.long (own_dl p3)), .second, .val (.long (own_q q2)), .second, .val (.long (own_r q2)), .second, .val (.long (140737488355328 : Int64)), .second, .val (.long (1 : Int64)), .second, .val (.long ((own_hq1 q2) + (1 : Int64))), .second, .val (.double (FP.dmul (FP.l2d (own_H q2)) (own_sc p4))), .second, .unset, .unset, .unset] [(.double (own_sc p4)), (.double (FP.l2d (own_m q2 p3)))])) _
    refine XS.dmulS X5.here hx rfl (hb hby at_134) rfl hnn134 rfl ?_
    refine XS.dstore X5.here hx rfl (hb hby at_135) rfl (l' := #[.val (.int p1), .val (.long q2), .second, .val (.int p3), .val (.int p4), .val (.int (p4 &&& (3 : Int32))), .val (.double (own_sc p4)), .second, .val (.int (p1 &&& (3 : Int32))), .val (.long (own_H q2)), .second, .val (.long (own_dl p3)), .second, .val (.long (own_q q2)), .second, .val (.long (own_r q2)), .second, .val (.long (140737488355328 : Int64)), .second, .val (.long (1 : Int64)), .second, .val (.long ((own_hq1 q2) + (1 : Int64))), .second, .val (.double (FP.dmul (FP.l2d (own_H q2)) (own_sc p4))), .second, .val (.double (FP.dmul (FP.l2d (own_m q2 p3)) (own_sc p4))), .second, .unset]) rfl ?_
    show Steps p.tables e below (T5.setTop (mkF m 137 #[.val (.int p1), .val (.long q2), .second, .val (.int p3), .val (.int p4), .val (.int (p4 &&& (3 : Int32))), .val (.double (own_sc p4)), .second, .val (.int (p1 &&& (3 : Int32))), .val (.long (own_H q2)), .second, .val (.long (own_dl p3)), .second, .val (.long (own_q q2)), .second, .val (.long (own_r q2)), .second, .val (.long (140737488355328 : Int64)), .second, .val (.long (1 : Int64)), .second, .val (.long ((own_hq1 q2) + (1 : Int64))), .second, .val (.double (FP.dmul (FP.l2d (own_H q2)) (own_sc p4))), .second, .val (.double (FP.dmul (FP.l2d (own_m q2 p3)) (own_sc p4))), .second, .unset] [])) _
    refine XS.lload X5.here hx rfl (hb hby at_137) rfl ?_
    refine XS.lload X5.here hx rfl (hb hby at_139) rfl ?_
    show Steps p.tables e below (T5.setTop (mkF m 141 #[.val (.int p1), .val (.long q2), .second, .val (.int p3), .val (.int p4), .val (.int (p4 &&& (3 : Int32))), .val (.double (own_sc p4)), .second, .val (.int (p1 &&& (3 : Int32))), .val (.long (own_H q2)), .second, .val (.long (own_dl p3)), .second, .val (.long (own_q q2)), .second, .val (.long (own_r q2)), .second, .val (.long (140737488355328 : Int64)), .second, .val (.long (1 : Int64)), .second, .val (.long ((own_hq1 q2) + (1 : Int64))), .second, .val (.double (FP.dmul (FP.l2d (own_H q2)) (own_sc p4))), .second, .val (.double (FP.dmul (FP.l2d (own_m q2 p3)) (own_sc p4))), .second, .unset] [(.long (own_dl p3)), (.long (own_H q2))])) _
    refine XS.ladd X5.here hx rfl (hb hby at_141) rfl ?_
    refine XS.lload X5.here hx rfl (hb hby at_142) rfl ?_
    show Steps p.tables e below (T5.setTop (mkF m 144 #[.val (.int p1), .val (.long q2), .second, .val (.int p3), .val (.int p4), .val (.int (p4 &&& (3 : Int32))), .val (.double (own_sc p4)), .second, .val (.int (p1 &&& (3 : Int32))), .val (.long (own_H q2)), .second, .val (.long (own_dl p3)), .second, .val (.long (own_q q2)), .second, .val (.long (own_r q2)), .second, .val (.long (140737488355328 : Int64)), .second, .val (.long (1 : Int64)), .second, .val (.long ((own_hq1 q2) + (1 : Int64))), .second, .val (.double (FP.dmul (FP.l2d (own_H q2)) (own_sc p4))), .second, .val (.double (FP.dmul (FP.l2d (own_m q2 p3)) (own_sc p4))), .second, .unset] [(.long ((own_hq1 q2) + (1 : Int64))), (.long (own_m q2 p3))])) _
    refine XS.lcmp X5.here hx rfl (hb hby at_144) rfl ?_
    refine XS.ifNo X5.here hx rfl (hb hby at_145) rfl ((if0 _ _).trans (tlt hc145).2.2.2) ?_
    show Steps p.tables e below (T5.setTop (mkF m 148 #[.val (.int p1), .val (.long q2), .second, .val (.int p3), .val (.int p4), .val (.int (p4 &&& (3 : Int32))), .val (.double (own_sc p4)), .second, .val (.int (p1 &&& (3 : Int32))), .val (.long (own_H q2)), .second, .val (.long (own_dl p3)), .second, .val (.long (own_q q2)), .second, .val (.long (own_r q2)), .second, .val (.long (140737488355328 : Int64)), .second, .val (.long (1 : Int64)), .second, .val (.long ((own_hq1 q2) + (1 : Int64))), .second, .val (.double (FP.dmul (FP.l2d (own_H q2)) (own_sc p4))), .second, .val (.double (FP.dmul (FP.l2d (own_m q2 p3)) (own_sc p4))), .second, .unset] [])) _
    refine XS.iconst X5.here hx rfl (hb hby at_148) ?_
    refine XS.goto X5.here hx rfl (pc0 := 149) (pc' := 153) rfl (hb hby at_149) (by decide) (by decide) ?_
    show Steps p.tables e below (T5.setTop (mkF m 153 #[.val (.int p1), .val (.long q2), .second, .val (.int p3), .val (.int p4), .val (.int (p4 &&& (3 : Int32))), .val (.double (own_sc p4)), .second, .val (.int (p1 &&& (3 : Int32))), .val (.long (own_H q2)), .second, .val (.long (own_dl p3)), .second, .val (.long (own_q q2)), .second, .val (.long (own_r q2)), .second, .val (.long (140737488355328 : Int64)), .second, .val (.long (1 : Int64)), .second, .val (.long ((own_hq1 q2) + (1 : Int64))), .second, .val (.double (FP.dmul (FP.l2d (own_H q2)) (own_sc p4))), .second, .val (.double (FP.dmul (FP.l2d (own_m q2 p3)) (own_sc p4))), .second, .unset] [(.int (1 : Int32))])) _
    refine XS.istore X5.here hx rfl (hb hby at_153) rfl (l' := #[.val (.int p1), .val (.long q2), .second, .val (.int p3), .val (.int p4), .val (.int (p4 &&& (3 : Int32))), .val (.double (own_sc p4)), .second, .val (.int (p1 &&& (3 : Int32))), .val (.long (own_H q2)), .second, .val (.long (own_dl p3)), .second, .val (.long (own_q q2)), .second, .val (.long (own_r q2)), .second, .val (.long (140737488355328 : Int64)), .second, .val (.long (1 : Int64)), .second, .val (.long ((own_hq1 q2) + (1 : Int64))), .second, .val (.double (FP.dmul (FP.l2d (own_H q2)) (own_sc p4))), .second, .val (.double (FP.dmul (FP.l2d (own_m q2 p3)) (own_sc p4))), .second, .val (.int (1 : Int32))]) rfl ?_
    refine XS.dload X5.here hx rfl (hb hby at_155) rfl ?_
    show Steps p.tables e below (T5.setTop (mkF m 157 #[.val (.int p1), .val (.long q2), .second, .val (.int p3), .val (.int p4), .val (.int (p4 &&& (3 : Int32))), .val (.double (own_sc p4)), .second, .val (.int (p1 &&& (3 : Int32))), .val (.long (own_H q2)), .second, .val (.long (own_dl p3)), .second, .val (.long (own_q q2)), .second, .val (.long (own_r q2)), .second, .val (.long (140737488355328 : Int64)), .second, .val (.long (1 : Int64)), .second, .val (.long ((own_hq1 q2) + (1 : Int64))), .second, .val (.double (FP.dmul (FP.l2d (own_H q2)) (own_sc p4))), .second, .val (.double (FP.dmul (FP.l2d (own_m q2 p3)) (own_sc p4))), .second, .val (.int (1 : Int32))] [(.double (FP.dmul (FP.l2d (own_m q2 p3)) (own_sc p4)))])) _
    refine XS.dload X5.here hx rfl (hb hby at_157) rfl ?_
    show Steps p.tables e below (T5.setTop (mkF m 159 #[.val (.int p1), .val (.long q2), .second, .val (.int p3), .val (.int p4), .val (.int (p4 &&& (3 : Int32))), .val (.double (own_sc p4)), .second, .val (.int (p1 &&& (3 : Int32))), .val (.long (own_H q2)), .second, .val (.long (own_dl p3)), .second, .val (.long (own_q q2)), .second, .val (.long (own_r q2)), .second, .val (.long (140737488355328 : Int64)), .second, .val (.long (1 : Int64)), .second, .val (.long ((own_hq1 q2) + (1 : Int64))), .second, .val (.double (FP.dmul (FP.l2d (own_H q2)) (own_sc p4))), .second, .val (.double (FP.dmul (FP.l2d (own_m q2 p3)) (own_sc p4))), .second, .val (.int (1 : Int32))] [(.double (FP.dmul (FP.l2d (own_H q2)) (own_sc p4))), (.double (FP.dmul (FP.l2d (own_m q2 p3)) (own_sc p4)))])) _
    refine st6 _ ?_
    show Steps p.tables e below (T6.setTop (mkF m 162 #[.val (.int p1), .val (.long q2), .second, .val (.int p3), .val (.int p4), .val (.int (p4 &&& (3 : Int32))), .val (.double (own_sc p4)), .second, .val (.int (p1 &&& (3 : Int32))), .val (.long (own_H q2)), .second, .val (.long (own_dl p3)), .second, .val (.long (own_q q2)), .second, .val (.long (own_r q2)), .second, .val (.long (140737488355328 : Int64)), .second, .val (.long (1 : Int64)), .second, .val (.long ((own_hq1 q2) + (1 : Int64))), .second, .val (.double (FP.dmul (FP.l2d (own_H q2)) (own_sc p4))), .second, .val (.double (FP.dmul (FP.l2d (own_m q2 p3)) (own_sc p4))), .second, .val (.int (1 : Int32))] [(.int (own_ich (FP.dmul (FP.l2d (own_m q2 p3)) (own_sc p4)) (FP.dmul (FP.l2d (own_H q2)) (own_sc p4))))])) _
    refine XS.iload X6.here hx rfl (hb hby at_162) rfl ?_
    refine XS.icmpNo X6.here hx rfl (hb hby at_164) rfl (teq (own_fin1 (own_u1 hc66) hc145 : (own_ich (FP.dmul (FP.l2d (own_m q2 p3)) (own_sc p4)) (FP.dmul (FP.l2d (own_H q2)) (own_sc p4))) = (1 : Int32))).2 ?_
    show Steps p.tables e below (T6.setTop (mkF m 167 #[.val (.int p1), .val (.long q2), .second, .val (.int p3), .val (.int p4), .val (.int (p4 &&& (3 : Int32))), .val (.double (own_sc p4)), .second, .val (.int (p1 &&& (3 : Int32))), .val (.long (own_H q2)), .second, .val (.long (own_dl p3)), .second, .val (.long (own_q q2)), .second, .val (.long (own_r q2)), .second, .val (.long (140737488355328 : Int64)), .second, .val (.long (1 : Int64)), .second, .val (.long ((own_hq1 q2) + (1 : Int64))), .second, .val (.double (FP.dmul (FP.l2d (own_H q2)) (own_sc p4))), .second, .val (.double (FP.dmul (FP.l2d (own_m q2 p3)) (own_sc p4))), .second, .val (.int (1 : Int32))] [])) _
    refine XS.iconst X6.here hx rfl (hb hby at_167) ?_
    refine XS.goto X6.here hx rfl (pc0 := 168) (pc' := 172) rfl (hb hby at_168) (by decide) (by decide) ?_
    show Steps p.tables e below (T6.setTop (mkF m 172 #[.val (.int p1), .val (.long q2), .second, .val (.int p3), .val (.int p4), .val (.int (p4 &&& (3 : Int32))), .val (.double (own_sc p4)), .second, .val (.int (p1 &&& (3 : Int32))), .val (.long (own_H q2)), .second, .val (.long (own_dl p3)), .second, .val (.long (own_q q2)), .second, .val (.long (own_r q2)), .second, .val (.long (140737488355328 : Int64)), .second, .val (.long (1 : Int64)), .second, .val (.long ((own_hq1 q2) + (1 : Int64))), .second, .val (.double (FP.dmul (FP.l2d (own_H q2)) (own_sc p4))), .second, .val (.double (FP.dmul (FP.l2d (own_m q2 p3)) (own_sc p4))), .second, .val (.int (1 : Int32))] [(.int (1 : Int32))])) _
    exact retN X6 hx (t := .boolean) Bd.returns (by simp) (hb hby at_172) hr
  · show Q0 Z p1 q2 p3 p4 h0 n0 _ T6.heap _
    exact ⟨rfl, N6⟩
set_option maxRecDepth 65536 in
set_option maxHeartbeats 40000000 in
theorem rm0_a1f (l : Launch) (Z : State) (a0 : Array Value) (hw : ∀ d ∈ tables_1, d.before a0 Z = true) (ws : List Jvm.Cond) (p1 : Int32) (q2 : Int64) (p3 : Int32) (p4 : Int32) (h0 : Heap) (n0 : Nat) (Z0 : n0 ≤ h0.size) (hc31 : (p1 &&& (3 : Int32)) = (0 : Int32)) (hc66 : (0 : Int32) < (lcmpW (own_r q2) (140737488355328 : Int64))) (hc145 : ¬ ((0 : Int32) < (lcmpW (own_m q2 p3) ((own_hq1 q2) + (1 : Int64))))) :
    MetFree l x (head1 (Jvm.Cond.code x code maxLocals ret :: ws) room_1) (fun a U => a = #[(.int p1), (.long q2), (.int p3), (.int p4)] ∧ Z.Warmed39 U.vm ∧ U.heap = h0) (fun _ _ _ _ _ => True) (fun _ U o U' => ∃ v L, o = .returned v ∧ Q0 Z p1 q2 p3 p4 h0 n0 v U'.heap L ∧ FrameEnd U o U' L room_1.cells room_1.slots) := by
  have hnz37 : ¬ ((64 : Int32) = (0 : Int32)) := by decide
  have hnn123 : Jvm.Free.Fl.NoNaN64 (FP.dmul (FP.l2d (own_H q2)) (own_sc p4)) := own_nn _ _
  have hnn134 : Jvm.Free.Fl.NoNaN64 (FP.dmul (FP.l2d (own_m q2 p3)) (own_sc p4)) := own_nn _ _
  refine MetFree.of_bodySF (plainFor_of_name pn_0) hisR ?_
  intro p e s m args below meth c s₁ Bd hml0 hP hK
  obtain ⟨rfl, hZ, hh⟩ := hP
  have hx := Bd.exec
  have hby := Bd.bytes
  have hml : c.maxLocals = 28 := hml0
  have hown : s.vm.findClass "com/example/level_ring/levelring/placement/MembersIsCertainlyHigherPinLaw" = some m.cls := findClass_of_methodNamed Bd.named
  have hnm := (name_of_methodNamed Bd.named Bd.method).1
  have X0 : Stand p l e room_1 s m #[(.int p1), (.long q2), (.int p3), (.int p4)] below meth c s₁ [] 0 0 := Stand.of_body Bd
  have e0 : s₁.heap = h0 := by rw [← hh, Bd.state]; rfl
  have N0 := Fr.nil n0
  have pre0 : ∀ t, Steps p.tables e below (s₁.setTop (mkF m 0 #[.val (.int p1), .val (.long q2), .second, .val (.int p3), .val (.int p4), .unset, .unset, .unset, .unset, .unset, .unset, .unset, .unset, .unset, .unset, .unset, .unset, .unset, .unset, .unset, .unset, .unset, .unset, .unset, .unset, .unset, .unset, .unset] [])) t → Steps p.tables e below (s₁.setTop (entryFrame m #[(.int p1), (.long q2), (.int p3), (.int p4)] maxLocals)) t := fun t k => castTop (ef_0 m p1 q2 p3 p4) k
  -- 3. LAWS
  -- pc 8: com/example/level_ring/levelring/placement/MembersIsCertainlyHigherPinLaw.scaleOf by its contract rm1
  obtain ⟨_, _, ⟨T5, L5, k5, n5⟩, -, X5, ⟨Lc5, hQ5, l5, y5, z5⟩, st5⟩ := Jvm.LawKit.callS X0 hx (y := (⟨"com/example/level_ring/levelring/placement/MembersIsCertainlyHigherPinLaw", "scaleOf", "(I)D"⟩ : MethodName)) hown (mvT hZ (hw _ (List.mem_of_getElem? (i := 0) rfl))) (mvT hZ (hw _ (List.mem_of_getElem? (i := 1) rfl))) (mvT hZ (hw _ (List.mem_of_getElem? (i := 2) rfl))) (mvT hZ (hw _ (List.mem_of_getElem? (i := 3) rfl))) (by decide) (backOf (W := 0) (rm1 l Z a0 hw [] (p4 &&& (3 : Int32))  h0 n0 Z0) hZ (hw _ (List.mem_of_getElem? (i := 3) rfl)) (hw _ (List.mem_of_getElem? (i := 2) rfl)) (by decide) (by decide)) (g := (mkF m 8 #[.val (.int p1), .val (.long q2), .second, .val (.int p3), .val (.int p4), .val (.int (p4 &&& (3 : Int32))), .unset, .unset, .unset, .unset, .unset, .unset, .unset, .unset, .unset, .unset, .unset, .unset, .unset, .unset, .unset, .unset, .unset, .unset, .unset, .unset, .unset, .unset] [(.int (p4 &&& (3 : Int32)))])) rfl (by rw [hml]; rfl) (argsL := [(.int (p4 &&& (3 : Int32)))]) (rest := []) (lenOf pdw_0 rfl) rfl (by show 2 * 0 + _ ≤ _; exact Nat.le_of_eq rfl) (hb hby at_8) (fun _ _ => ⟨rfl, e0, (by decide : 0 + 0 ≤ _), (by decide : 0 + 0 ≤ _)⟩)
  dsimp only [Pt.U, Pt.locs, Pt.cells, Pt.slots] at X5 l5 y5 z5 st5 hQ5
  subst l5 y5 z5
  obtain ⟨rfl, N5q, hh5⟩ := hQ5
  have N5 := Fr.app N0 N5q
  -- pc 159: com/example/level_ring/levelring/placement/Members.isCertainlyHigher by its contract rm2
  obtain ⟨_, _, ⟨T6, L6, k6, n6⟩, -, X6, ⟨Lc6, hQ6, l6, y6, z6⟩, st6⟩ := Jvm.LawKit.callS X5 hx (y := (⟨"com/example/level_ring/levelring/placement/Members", "isCertainlyHigher", "(DD)Z"⟩ : MethodName)) hown (mvT hZ (hw _ (List.mem_of_getElem? (i := 8) rfl))) (mvT hZ (hw _ (List.mem_of_getElem? (i := 9) rfl))) (mvT hZ (hw _ (List.mem_of_getElem? (i := 10) rfl))) (mvT hZ (hw _ (List.mem_of_getElem? (i := 11) rfl))) (by decide) (backOf (W := 0) (rm2 l Z a0 hw [] (FP.dmul (FP.l2d (own_m q2 p3)) (own_sc p4)) (FP.dmul (FP.l2d (own_H q2)) (own_sc p4))  h0 n0 Z0 (dmul_out (own_ms_fin _ (by have := own_H_rng q2; omega)) own_C_fin)) hZ (hw _ (List.mem_of_getElem? (i := 11) rfl)) (hw _ (List.mem_of_getElem? (i := 10) rfl)) (by decide) (by decide)) (g := (mkF m 159 #[.val (.int p1), .val (.long q2), .second, .val (.int p3), .val (.int p4), .val (.int (p4 &&& (3 : Int32))), .val (.double (own_sc p4)), .second, .val (.int (p1 &&& (3 : Int32))), .val (.long (own_H q2)), .second, .val (.long (own_dl p3)), .second, .val (.long (own_q q2)), .second, .val (.long (own_r q2)), .second, .val (.long (140737488355328 : Int64)), .second, .val (.long (1 : Int64)), .second, .val (.long ((own_hq1 q2) + (1 : Int64))), .second, .val (.double (FP.dmul (FP.l2d (own_H q2)) (own_sc p4))), .second, .val (.double (FP.dmul (FP.l2d (own_m q2 p3)) (own_sc p4))), .second, .val (.int (0 : Int32))] [(.double (FP.dmul (FP.l2d (own_H q2)) (own_sc p4))), (.double (FP.dmul (FP.l2d (own_m q2 p3)) (own_sc p4)))])) rfl (by rw [hml]; rfl) (argsL := [(.double (FP.dmul (FP.l2d (own_m q2 p3)) (own_sc p4))), (.double (FP.dmul (FP.l2d (own_H q2)) (own_sc p4)))]) (rest := []) (lenOf pdw_1 rfl) rfl (by show 2 * 0 + _ ≤ _; exact Nat.le_of_eq rfl) (hb hby at_159) (fun _ _ => ⟨rfl, hh5, (by decide : 0 + 0 ≤ _), (by decide : 0 + 0 ≤ _)⟩)
  dsimp only [Pt.U, Pt.locs, Pt.cells, Pt.slots] at X6 l6 y6 z6 st6 hQ6
  subst l6 y6 z6
  obtain ⟨rfl, N6q, hh6⟩ := hQ6
  have N6 := Fr.app N5 N6q
  obtain ⟨fs, hr, hrun, hended, hW, hsame⟩ := X6.leave (v := some (.int (1 : Int32))) (fun h => by rw [Bd.returns] at h; cases h)
  refine ⟨_, _, pre0 _ ?_, hrun, hended, _, _, rfl, ?_, ⟨_, rfl⟩, hW, hsame.mono (by decide) (by decide)⟩
  -- 4. STEPS
  · show Steps p.tables e below (s₁.setTop (mkF m 0 #[.val (.int p1), .val (.long q2), .second, .val (.int p3), .val (.int p4), .unset, .unset, .unset, .unset, .unset, .unset, .unset, .unset, .unset, .unset, .unset, .unset, .unset, .unset, .unset, .unset, .unset, .unset, .unset, .unset, .unset, .unset, .unset] [])) _
    refine XS.iload X0.here hx rfl (hb hby at_0) rfl ?_
    refine XS.iconst X0.here hx rfl (hb hby at_2) ?_
    show Steps p.tables e below (s₁.setTop (mkF m 3 #[.val (.int p1), .val (.long q2), .second, .val (.int p3), .val (.int p4), .unset, .unset, .unset, .unset, .unset, .unset, .unset, .unset, .unset, .unset, .unset, .unset, .unset, .unset, .unset, .unset, .unset, .unset, .unset, .unset, .unset, .unset, .unset] [(.int (3 : Int32)), (.int p4)])) _
    refine XS.iand X0.here hx rfl (hb hby at_3) rfl ?_
    refine XS.istore X0.here hx rfl (hb hby at_4) rfl (l' := #[.val (.int p1), .val (.long q2), .second, .val (.int p3), .val (.int p4), .val (.int (p4 &&& (3 : Int32))), .unset, .unset, .unset, .unset, .unset, .unset, .unset, .unset, .unset, .unset, .unset, .unset, .unset, .unset, .unset, .unset, .unset, .unset, .unset, .unset, .unset, .unset]) rfl ?_
    show Steps p.tables e below (s₁.setTop (mkF m 6 #[.val (.int p1), .val (.long q2), .second, .val (.int p3), .val (.int p4), .val (.int (p4 &&& (3 : Int32))), .unset, .unset, .unset, .unset, .unset, .unset, .unset, .unset, .unset, .unset, .unset, .unset, .unset, .unset, .unset, .unset, .unset, .unset, .unset, .unset, .unset, .unset] [])) _
    refine XS.iload X0.here hx rfl (hb hby at_6) rfl ?_
    show Steps p.tables e below (s₁.setTop (mkF m 8 #[.val (.int p1), .val (.long q2), .second, .val (.int p3), .val (.int p4), .val (.int (p4 &&& (3 : Int32))), .unset, .unset, .unset, .unset, .unset, .unset, .unset, .unset, .unset, .unset, .unset, .unset, .unset, .unset, .unset, .unset, .unset, .unset, .unset, .unset, .unset, .unset] [(.int (p4 &&& (3 : Int32)))])) _
    refine st5 _ ?_
    show Steps p.tables e below (T5.setTop (mkF m 11 #[.val (.int p1), .val (.long q2), .second, .val (.int p3), .val (.int p4), .val (.int (p4 &&& (3 : Int32))), .unset, .unset, .unset, .unset, .unset, .unset, .unset, .unset, .unset, .unset, .unset, .unset, .unset, .unset, .unset, .unset, .unset, .unset, .unset, .unset, .unset, .unset] [(.double (own_sc p4))])) _
    refine XS.dstore X5.here hx rfl (hb hby at_11) rfl (l' := #[.val (.int p1), .val (.long q2), .second, .val (.int p3), .val (.int p4), .val (.int (p4 &&& (3 : Int32))), .val (.double (own_sc p4)), .second, .unset, .unset, .unset, .unset, .unset, .unset, .unset, .unset, .unset, .unset, .unset, .unset, .unset, .unset, .unset, .unset, .unset, .unset, .unset, .unset]) rfl ?_
    refine XS.iloadN X5.here hx rfl (hb hby at_13) rfl ?_
    show Steps p.tables e below (T5.setTop (mkF m 14 #[.val (.int p1), .val (.long q2), .second, .val (.int p3), .val (.int p4), .val (.int (p4 &&& (3 : Int32))), .val (.double (own_sc p4)), .second, .unset, .unset, .unset, .unset, .unset, .unset, .unset, .unset, .unset, .unset, .unset, .unset, .unset, .unset, .unset, .unset, .unset, .unset, .unset, .unset] [(.int p1)])) _
    refine XS.iconst X5.here hx rfl (hb hby at_14) ?_
    refine XS.iand X5.here hx rfl (hb hby at_15) rfl ?_
    show Steps p.tables e below (T5.setTop (mkF m 16 #[.val (.int p1), .val (.long q2), .second, .val (.int p3), .val (.int p4), .val (.int (p4 &&& (3 : Int32))), .val (.double (own_sc p4)), .second, .unset, .unset, .unset, .unset, .unset, .unset, .unset, .unset, .unset, .unset, .unset, .unset, .unset, .unset, .unset, .unset, .unset, .unset, .unset, .unset] [(.int (p1 &&& (3 : Int32)))])) _
    refine XS.istore X5.here hx rfl (hb hby at_16) rfl (l' := #[.val (.int p1), .val (.long q2), .second, .val (.int p3), .val (.int p4), .val (.int (p4 &&& (3 : Int32))), .val (.double (own_sc p4)), .second, .val (.int (p1 &&& (3 : Int32))), .unset, .unset, .unset, .unset, .unset, .unset, .unset, .unset, .unset, .unset, .unset, .unset, .unset, .unset, .unset, .unset, .unset, .unset, .unset]) rfl ?_
    show Steps p.tables e below (T5.setTop (mkF m 18 #[.val (.int p1), .val (.long q2), .second, .val (.int p3), .val (.int p4), .val (.int (p4 &&& (3 : Int32))), .val (.double (own_sc p4)), .second, .val (.int (p1 &&& (3 : Int32))), .unset, .unset, .unset, .unset, .unset, .unset, .unset, .unset, .unset, .unset, .unset, .unset, .unset, .unset, .unset, .unset, .unset, .unset, .unset] [])) _
    refine X5.ldc2Long hx hown (mvT hZ (hw _ (List.mem_of_getElem? (i := 4) rfl))) (g := (mkF m 18 #[.val (.int p1), .val (.long q2), .second, .val (.int p3), .val (.int p4), .val (.int (p4 &&& (3 : Int32))), .val (.double (own_sc p4)), .second, .val (.int (p1 &&& (3 : Int32))), .unset, .unset, .unset, .unset, .unset, .unset, .unset, .unset, .unset, .unset, .unset, .unset, .unset, .unset, .unset, .unset, .unset, .unset, .unset] [])) rfl (hb hby at_18) _ ?_
    show Steps p.tables e below (T5.setTop (mkF m 21 #[.val (.int p1), .val (.long q2), .second, .val (.int p3), .val (.int p4), .val (.int (p4 &&& (3 : Int32))), .val (.double (own_sc p4)), .second, .val (.int (p1 &&& (3 : Int32))), .unset, .unset, .unset, .unset, .unset, .unset, .unset, .unset, .unset, .unset, .unset, .unset, .unset, .unset, .unset, .unset, .unset, .unset, .unset] [(.long (4503599627370496 : Int64))])) _
    refine XS.lloadN X5.here hx rfl (hb hby at_21) rfl ?_
    show Steps p.tables e below (T5.setTop (mkF m 22 #[.val (.int p1), .val (.long q2), .second, .val (.int p3), .val (.int p4), .val (.int (p4 &&& (3 : Int32))), .val (.double (own_sc p4)), .second, .val (.int (p1 &&& (3 : Int32))), .unset, .unset, .unset, .unset, .unset, .unset, .unset, .unset, .unset, .unset, .unset, .unset, .unset, .unset, .unset, .unset, .unset, .unset, .unset] [(.long q2), (.long (4503599627370496 : Int64))])) _
    refine X5.ldc2Long hx hown (mvT hZ (hw _ (List.mem_of_getElem? (i := 5) rfl))) (g := (mkF m 22 #[.val (.int p1), .val (.long q2), .second, .val (.int p3), .val (.int p4), .val (.int (p4 &&& (3 : Int32))), .val (.double (own_sc p4)), .second, .val (.int (p1 &&& (3 : Int32))), .unset, .unset, .unset, .unset, .unset, .unset, .unset, .unset, .unset, .unset, .unset, .unset, .unset, .unset, .unset, .unset, .unset, .unset, .unset] [(.long q2), (.long (4503599627370496 : Int64))])) rfl (hb hby at_22) _ ?_
    show Steps p.tables e below (T5.setTop (mkF m 25 #[.val (.int p1), .val (.long q2), .second, .val (.int p3), .val (.int p4), .val (.int (p4 &&& (3 : Int32))), .val (.double (own_sc p4)), .second, .val (.int (p1 &&& (3 : Int32))), .unset, .unset, .unset, .unset, .unset, .unset, .unset, .unset, .unset, .unset, .unset, .unset, .unset, .unset, .unset, .unset, .unset, .unset, .unset] [(.long (2251799813685247 : Int64)), (.long q2), (.long (4503599627370496 : Int64))])) _
    refine XS.land X5.here hx rfl (hb hby at_25) rfl ?_
    refine XS.lor X5.here hx rfl (hb hby at_26) rfl ?_
    show Steps p.tables e below (T5.setTop (mkF m 27 #[.val (.int p1), .val (.long q2), .second, .val (.int p3), .val (.int p4), .val (.int (p4 &&& (3 : Int32))), .val (.double (own_sc p4)), .second, .val (.int (p1 &&& (3 : Int32))), .unset, .unset, .unset, .unset, .unset, .unset, .unset, .unset, .unset, .unset, .unset, .unset, .unset, .unset, .unset, .unset, .unset, .unset, .unset] [(.long (own_H q2))])) _
    refine XS.lstore X5.here hx rfl (hb hby at_27) rfl (l' := #[.val (.int p1), .val (.long q2), .second, .val (.int p3), .val (.int p4), .val (.int (p4 &&& (3 : Int32))), .val (.double (own_sc p4)), .second, .val (.int (p1 &&& (3 : Int32))), .val (.long (own_H q2)), .second, .unset, .unset, .unset, .unset, .unset, .unset, .unset, .unset, .unset, .unset, .unset, .unset, .unset, .unset, .unset, .unset, .unset]) rfl ?_
    refine XS.iload X5.here hx rfl (hb hby at_29) rfl ?_
    show Steps p.tables e below (T5.setTop (mkF m 31 #[.val (.int p1), .val (.long q2), .second, .val (.int p3), .val (.int p4), .val (.int (p4 &&& (3 : Int32))), .val (.double (own_sc p4)), .second, .val (.int (p1 &&& (3 : Int32))), .val (.long (own_H q2)), .second, .unset, .unset, .unset, .unset, .unset, .unset, .unset, .unset, .unset, .unset, .unset, .unset, .unset, .unset, .unset, .unset, .unset] [(.int (p1 &&& (3 : Int32)))])) _
    refine XS.ifNo X5.here hx rfl (hb hby at_31) rfl ((if0 _ _).trans (teq hc31).2) ?_
    refine XS.iloadN X5.here hx rfl (hb hby at_34) rfl ?_
    show Steps p.tables e below (T5.setTop (mkF m 35 #[.val (.int p1), .val (.long q2), .second, .val (.int p3), .val (.int p4), .val (.int (p4 &&& (3 : Int32))), .val (.double (own_sc p4)), .second, .val (.int (p1 &&& (3 : Int32))), .val (.long (own_H q2)), .second, .unset, .unset, .unset, .unset, .unset, .unset, .unset, .unset, .unset, .unset, .unset, .unset, .unset, .unset, .unset, .unset, .unset] [(.int p3)])) _
    refine XS.bipush X5.here hx rfl (hb hby at_35) ?_
    show Steps p.tables e below (T5.setTop (mkF m 37 #[.val (.int p1), .val (.long q2), .second, .val (.int p3), .val (.int p4), .val (.int (p4 &&& (3 : Int32))), .val (.double (own_sc p4)), .second, .val (.int (p1 &&& (3 : Int32))), .val (.long (own_H q2)), .second, .unset, .unset, .unset, .unset, .unset, .unset, .unset, .unset, .unset, .unset, .unset, .unset, .unset, .unset, .unset, .unset, .unset] [(.int (64 : Int32)), (.int p3)])) _
    refine own_irem X5.here hx rfl (hb hby at_37) rfl hnz37 ?_
    show Steps p.tables e below (T5.setTop (mkF m 38 #[.val (.int p1), .val (.long q2), .second, .val (.int p3), .val (.int p4), .val (.int (p4 &&& (3 : Int32))), .val (.double (own_sc p4)), .second, .val (.int (p1 &&& (3 : Int32))), .val (.long (own_H q2)), .second, .unset, .unset, .unset, .unset, .unset, .unset, .unset, .unset, .unset, .unset, .unset, .unset, .unset, .unset, .unset, .unset, .unset] [(.int (p3 % (64 : Int32)))])) _
    refine XS.i2l X5.here hx rfl (hb hby at_38) rfl ?_
    refine XS.lstore X5.here hx rfl (hb hby at_39) rfl (l' := #[.val (.int p1), .val (.long q2), .second, .val (.int p3), .val (.int p4), .val (.int (p4 &&& (3 : Int32))), .val (.double (own_sc p4)), .second, .val (.int (p1 &&& (3 : Int32))), .val (.long (own_H q2)), .second, .val (.long (own_dl p3)), .second, .unset, .unset, .unset, .unset, .unset, .unset, .unset, .unset, .unset, .unset, .unset, .unset, .unset, .unset, .unset]) rfl ?_
    show Steps p.tables e below (T5.setTop (mkF m 41 #[.val (.int p1), .val (.long q2), .second, .val (.int p3), .val (.int p4), .val (.int (p4 &&& (3 : Int32))), .val (.double (own_sc p4)), .second, .val (.int (p1 &&& (3 : Int32))), .val (.long (own_H q2)), .second, .val (.long (own_dl p3)), .second, .unset, .unset, .unset, .unset, .unset, .unset, .unset, .unset, .unset, .unset, .unset, .unset, .unset, .unset, .unset] [])) _
    refine XS.lload X5.here hx rfl (hb hby at_41) rfl ?_
    refine XS.bipush X5.here hx rfl (hb hby at_43) ?_
    show Steps p.tables e below (T5.setTop (mkF m 45 #[.val (.int p1), .val (.long q2), .second, .val (.int p3), .val (.int p4), .val (.int (p4 &&& (3 : Int32))), .val (.double (own_sc p4)), .second, .val (.int (p1 &&& (3 : Int32))), .val (.long (own_H q2)), .second, .val (.long (own_dl p3)), .second, .unset, .unset, .unset, .unset, .unset, .unset, .unset, .unset, .unset, .unset, .unset, .unset, .unset, .unset, .unset] [(.int (48 : Int32)), (.long (own_H q2))])) _
    refine XS.lushr X5.here hx rfl (hb hby at_45) rfl ?_
    refine XS.lstore X5.here hx rfl (hb hby at_46) rfl (l' := #[.val (.int p1), .val (.long q2), .second, .val (.int p3), .val (.int p4), .val (.int (p4 &&& (3 : Int32))), .val (.double (own_sc p4)), .second, .val (.int (p1 &&& (3 : Int32))), .val (.long (own_H q2)), .second, .val (.long (own_dl p3)), .second, .val (.long (own_q q2)), .second, .unset, .unset, .unset, .unset, .unset, .unset, .unset, .unset, .unset, .unset, .unset, .unset, .unset]) rfl ?_
    show Steps p.tables e below (T5.setTop (mkF m 48 #[.val (.int p1), .val (.long q2), .second, .val (.int p3), .val (.int p4), .val (.int (p4 &&& (3 : Int32))), .val (.double (own_sc p4)), .second, .val (.int (p1 &&& (3 : Int32))), .val (.long (own_H q2)), .second, .val (.long (own_dl p3)), .second, .val (.long (own_q q2)), .second, .unset, .unset, .unset, .unset, .unset, .unset, .unset, .unset, .unset, .unset, .unset, .unset, .unset] [])) _
    refine XS.lload X5.here hx rfl (hb hby at_48) rfl ?_
    show Steps p.tables e below (T5.setTop (mkF m 50 #[.val (.int p1), .val (.long q2), .second, .val (.int p3), .val (.int p4), .val (.int (p4 &&& (3 : Int32))), .val (.double (own_sc p4)), .second, .val (.int (p1 &&& (3 : Int32))), .val (.long (own_H q2)), .second, .val (.long (own_dl p3)), .second, .val (.long (own_q q2)), .second, .unset, .unset, .unset, .unset, .unset, .unset, .unset, .unset, .unset, .unset, .unset, .unset, .unset] [(.long (own_H q2))])) _
    refine X5.ldc2Long hx hown (mvT hZ (hw _ (List.mem_of_getElem? (i := 6) rfl))) (g := (mkF m 50 #[.val (.int p1), .val (.long q2), .second, .val (.int p3), .val (.int p4), .val (.int (p4 &&& (3 : Int32))), .val (.double (own_sc p4)), .second, .val (.int (p1 &&& (3 : Int32))), .val (.long (own_H q2)), .second, .val (.long (own_dl p3)), .second, .val (.long (own_q q2)), .second, .unset, .unset, .unset, .unset, .unset, .unset, .unset, .unset, .unset, .unset, .unset, .unset, .unset] [(.long (own_H q2))])) rfl (hb hby at_50) _ ?_
    show Steps p.tables e below (T5.setTop (mkF m 53 #[.val (.int p1), .val (.long q2), .second, .val (.int p3), .val (.int p4), .val (.int (p4 &&& (3 : Int32))), .val (.double (own_sc p4)), .second, .val (.int (p1 &&& (3 : Int32))), .val (.long (own_H q2)), .second, .val (.long (own_dl p3)), .second, .val (.long (own_q q2)), .second, .unset, .unset, .unset, .unset, .unset, .unset, .unset, .unset, .unset, .unset, .unset, .unset, .unset] [(.long (281474976710655 : Int64)), (.long (own_H q2))])) _
    refine XS.land X5.here hx rfl (hb hby at_53) rfl ?_
    refine XS.lstore X5.here hx rfl (hb hby at_54) rfl (l' := #[.val (.int p1), .val (.long q2), .second, .val (.int p3), .val (.int p4), .val (.int (p4 &&& (3 : Int32))), .val (.double (own_sc p4)), .second, .val (.int (p1 &&& (3 : Int32))), .val (.long (own_H q2)), .second, .val (.long (own_dl p3)), .second, .val (.long (own_q q2)), .second, .val (.long (own_r q2)), .second, .unset, .unset, .unset, .unset, .unset, .unset, .unset, .unset, .unset, .unset, .unset]) rfl ?_
    show Steps p.tables e below (T5.setTop (mkF m 56 #[.val (.int p1), .val (.long q2), .second, .val (.int p3), .val (.int p4), .val (.int (p4 &&& (3 : Int32))), .val (.double (own_sc p4)), .second, .val (.int (p1 &&& (3 : Int32))), .val (.long (own_H q2)), .second, .val (.long (own_dl p3)), .second, .val (.long (own_q q2)), .second, .val (.long (own_r q2)), .second, .unset, .unset, .unset, .unset, .unset, .unset, .unset, .unset, .unset, .unset, .unset] [])) _
    refine X5.ldc2Long hx hown (mvT hZ (hw _ (List.mem_of_getElem? (i := 7) rfl))) (g := (mkF m 56 #[.val (.int p1), .val (.long q2), .second, .val (.int p3), .val (.int p4), .val (.int (p4 &&& (3 : Int32))), .val (.double (own_sc p4)), .second, .val (.int (p1 &&& (3 : Int32))), .val (.long (own_H q2)), .second, .val (.long (own_dl p3)), .second, .val (.long (own_q q2)), .second, .val (.long (own_r q2)), .second, .unset, .unset, .unset, .unset, .unset, .unset, .unset, .unset, .unset, .unset, .unset] [])) rfl (hb hby at_56) _ ?_
    show Steps p.tables e below (T5.setTop (mkF m 59 #[.val (.int p1), .val (.long q2), .second, .val (.int p3), .val (.int p4), .val (.int (p4 &&& (3 : Int32))), .val (.double (own_sc p4)), .second, .val (.int (p1 &&& (3 : Int32))), .val (.long (own_H q2)), .second, .val (.long (own_dl p3)), .second, .val (.long (own_q q2)), .second, .val (.long (own_r q2)), .second, .unset, .unset, .unset, .unset, .unset, .unset, .unset, .unset, .unset, .unset, .unset] [(.long (140737488355328 : Int64))])) _
    refine XS.lstore X5.here hx rfl (hb hby at_59) rfl (l' := #[.val (.int p1), .val (.long q2), .second, .val (.int p3), .val (.int p4), .val (.int (p4 &&& (3 : Int32))), .val (.double (own_sc p4)), .second, .val (.int (p1 &&& (3 : Int32))), .val (.long (own_H q2)), .second, .val (.long (own_dl p3)), .second, .val (.long (own_q q2)), .second, .val (.long (own_r q2)), .second, .val (.long (140737488355328 : Int64)), .second, .unset, .unset, .unset, .unset, .unset, .unset, .unset, .unset, .unset]) rfl ?_
    refine XS.lload X5.here hx rfl (hb hby at_61) rfl ?_
    show Steps p.tables e below (T5.setTop (mkF m 63 #[.val (.int p1), .val (.long q2), .second, .val (.int p3), .val (.int p4), .val (.int (p4 &&& (3 : Int32))), .val (.double (own_sc p4)), .second, .val (.int (p1 &&& (3 : Int32))), .val (.long (own_H q2)), .second, .val (.long (own_dl p3)), .second, .val (.long (own_q q2)), .second, .val (.long (own_r q2)), .second, .val (.long (140737488355328 : Int64)), .second, .unset, .unset, .unset, .unset, .unset, .unset, .unset, .unset, .unset] [(.long (own_r q2))])) _
    refine XS.lload X5.here hx rfl (hb hby at_63) rfl ?_
    refine XS.lcmp X5.here hx rfl (hb hby at_65) rfl ?_
    show Steps p.tables e below (T5.setTop (mkF m 66 #[.val (.int p1), .val (.long q2), .second, .val (.int p3), .val (.int p4), .val (.int (p4 &&& (3 : Int32))), .val (.double (own_sc p4)), .second, .val (.int (p1 &&& (3 : Int32))), .val (.long (own_H q2)), .second, .val (.long (own_dl p3)), .second, .val (.long (own_q q2)), .second, .val (.long (own_r q2)), .second, .val (.long (140737488355328 : Int64)), .second, .unset, .unset, .unset, .unset, .unset, .unset, .unset, .unset, .unset] [(.int (lcmpW (own_r q2) (140737488355328 : Int64)))])) _
    refine XS.ifNo X5.here hx rfl (hb hby at_66) rfl ((if0 _ _).trans (tlt hc66).2.2.2) ?_
    refine XS.lconst X5.here hx rfl (hb hby at_69) ?_
    show Steps p.tables e below (T5.setTop (mkF m 70 #[.val (.int p1), .val (.long q2), .second, .val (.int p3), .val (.int p4), .val (.int (p4 &&& (3 : Int32))), .val (.double (own_sc p4)), .second, .val (.int (p1 &&& (3 : Int32))), .val (.long (own_H q2)), .second, .val (.long (own_dl p3)), .second, .val (.long (own_q q2)), .second, .val (.long (own_r q2)), .second, .val (.long (140737488355328 : Int64)), .second, .unset, .unset, .unset, .unset, .unset, .unset, .unset, .unset, .unset] [(.long (1 : Int64))])) _
    refine XS.lstore X5.here hx rfl (hb hby at_70) rfl (l' := #[.val (.int p1), .val (.long q2), .second, .val (.int p3), .val (.int p4), .val (.int (p4 &&& (3 : Int32))), .val (.double (own_sc p4)), .second, .val (.int (p1 &&& (3 : Int32))), .val (.long (own_H q2)), .second, .val (.long (own_dl p3)), .second, .val (.long (own_q q2)), .second, .val (.long (own_r q2)), .second, .val (.long (140737488355328 : Int64)), .second, .val (.long (1 : Int64)), .second, .unset, .unset, .unset, .unset, .unset, .unset, .unset]) rfl ?_
    refine XS.goto X5.here hx rfl (pc0 := 72) (pc' := 108) rfl (hb hby at_72) (by decide) (by decide) ?_
    show Steps p.tables e below (T5.setTop (mkF m 108 #[.val (.int p1), .val (.long q2), .second, .val (.int p3), .val (.int p4), .val (.int (p4 &&& (3 : Int32))), .val (.double (own_sc p4)), .second, .val (.int (p1 &&& (3 : Int32))), .val (.long (own_H q2)), .second, .val (.long (own_dl p3)), .second, .val (.long (own_q q2)), .second, .val (.long (own_r q2)), .second, .val (.long (140737488355328 : Int64)), .second, .val (.long (1 : Int64)), .second, .unset, .unset, .unset, .unset, .unset, .unset, .unset] [])) _
    refine XS.lload X5.here hx rfl (hb hby at_108) rfl ?_
    refine XS.lload X5.here hx rfl (hb hby at_110) rfl ?_
    show Steps p.tables e below (T5.setTop (mkF m 112 #[.val (.int p1), .val (.long q2), .second, .val (.int p3), .val (.int p4), .val (.int (p4 &&& (3 : Int32))), .val (.double (own_sc p4)), .second, .val (.int (p1 &&& (3 : Int32))), .val (.long (own_H q2)), .second, .val (.long (own_dl p3)), .second, .val (.long (own_q q2)), .second, .val (.long (own_r q2)), .second, .val (.long (140737488355328 : Int64)), .second, .val (.long (1 : Int64)), .second, .unset, .unset, .unset, .unset, .unset, .unset, .unset] [(.long (own_q q2)), (.long (own_H q2))])) _
    refine XS.ladd X5.here hx rfl (hb hby at_112) rfl ?_
    refine XS.lload X5.here hx rfl (hb hby at_113) rfl ?_
    show Steps p.tables e below (T5.setTop (mkF m 115 #[.val (.int p1), .val (.long q2), .second, .val (.int p3), .val (.int p4), .val (.int (p4 &&& (3 : Int32))), .val (.double (own_sc p4)), .second, .val (.int (p1 &&& (3 : Int32))), .val (.long (own_H q2)), .second, .val (.long (own_dl p3)), .second, .val (.long (own_q q2)), .second, .val (.long (own_r q2)), .second, .val (.long (140737488355328 : Int64)), .second, .val (.long (1 : Int64)), .second, .unset, .unset, .unset, .unset, .unset, .unset, .unset] [(.long (1 : Int64)), (.long (own_hq1 q2))])) _
    refine XS.ladd X5.here hx rfl (hb hby at_115) rfl ?_
    refine XS.lstore X5.here hx rfl (hb hby at_116) rfl (l' := #[.val (.int p1), .val (.long q2), .second, .val (.int p3), .val (.int p4), .val (.int (p4 &&& (3 : Int32))), .val (.double (own_sc p4)), .second, .val (.int (p1 &&& (3 : Int32))), .val (.long (own_H q2)), .second, .val (.long (own_dl p3)), .second, .val (.long (own_q q2)), .second, .val (.long (own_r q2)), .second, .val (.long (140737488355328 : Int64)), .second, .val (.long (1 : Int64)), .second, .val (.long ((own_hq1 q2) + (1 : Int64))), .second, .unset, .unset, .unset, .unset, .unset]) rfl ?_
    show Steps p.tables e below (T5.setTop (mkF m 118 #[.val (.int p1), .val (.long q2), .second, .val (.int p3), .val (.int p4), .val (.int (p4 &&& (3 : Int32))), .val (.double (own_sc p4)), .second, .val (.int (p1 &&& (3 : Int32))), .val (.long (own_H q2)), .second, .val (.long (own_dl p3)), .second, .val (.long (own_q q2)), .second, .val (.long (own_r q2)), .second, .val (.long (140737488355328 : Int64)), .second, .val (.long (1 : Int64)), .second, .val (.long ((own_hq1 q2) + (1 : Int64))), .second, .unset, .unset, .unset, .unset, .unset] [])) _
    refine XS.lload X5.here hx rfl (hb hby at_118) rfl ?_
    refine XS.l2dS X5.here hx rfl (hb hby at_120) rfl rfl ?_
    show Steps p.tables e below (T5.setTop (mkF m 121 #[.val (.int p1), .val (.long q2), .second, .val (.int p3), .val (.int p4), .val (.int (p4 &&& (3 : Int32))), .val (.double (own_sc p4)), .second, .val (.int (p1 &&& (3 : Int32))), .val (.long (own_H q2)), .second, .val (.long (own_dl p3)), .second, .val (.long (own_q q2)), .second, .val (.long (own_r q2)), .second, .val (.long (140737488355328 : Int64)), .second, .val (.long (1 : Int64)), .second, .val (.long ((own_hq1 q2) + (1 : Int64))), .second, .unset, .unset, .unset, .unset, .unset] [(.double (FP.l2d (own_H q2)))])) _
    refine XS.dload X5.here hx rfl (hb hby at_121) rfl ?_
    refine XS.dmulS X5.here hx rfl (hb hby at_123) rfl hnn123 rfl ?_
    show Steps p.tables e below (T5.setTop (mkF m 124 #[.val (.int p1), .val (.long q2), .second, .val (.int p3), .val (.int p4), .val (.int (p4 &&& (3 : Int32))), .val (.double (own_sc p4)), .second, .val (.int (p1 &&& (3 : Int32))), .val (.long (own_H q2)), .second, .val (.long (own_dl p3)), .second, .val (.long (own_q q2)), .second, .val (.long (own_r q2)), .second, .val (.long (140737488355328 : Int64)), .second, .val (.long (1 : Int64)), .second, .val (.long ((own_hq1 q2) + (1 : Int64))), .second, .unset, .unset, .unset, .unset, .unset] [(.double (FP.dmul (FP.l2d (own_H q2)) (own_sc p4)))])) _
    refine XS.dstore X5.here hx rfl (hb hby at_124) rfl (l' := #[.val (.int p1), .val (.long q2), .second, .val (.int p3), .val (.int p4), .val (.int (p4 &&& (3 : Int32))), .val (.double (own_sc p4)), .second, .val (.int (p1 &&& (3 : Int32))), .val (.long (own_H q2)), .second, .val (.long (own_dl p3)), .second, .val (.long (own_q q2)), .second, .val (.long (own_r q2)), .second, .val (.long (140737488355328 : Int64)), .second, .val (.long (1 : Int64)), .second, .val (.long ((own_hq1 q2) + (1 : Int64))), .second, .val (.double (FP.dmul (FP.l2d (own_H q2)) (own_sc p4))), .second, .unset, .unset, .unset]) rfl ?_
    refine XS.lload X5.here hx rfl (hb hby at_126) rfl ?_
    show Steps p.tables e below (T5.setTop (mkF m 128 #[.val (.int p1), .val (.long q2), .second, .val (.int p3), .val (.int p4), .val (.int (p4 &&& (3 : Int32))), .val (.double (own_sc p4)), .second, .val (.int (p1 &&& (3 : Int32))), .val (.long (own_H q2)), .second, .val (.long (own_dl p3)), .second, .val (.long (own_q q2)), .second, .val (.long (own_r q2)), .second, .val (.long (140737488355328 : Int64)), .second, .val (.long (1 : Int64)), .second, .val (.long ((own_hq1 q2) + (1 : Int64))), .second, .val (.double (FP.dmul (FP.l2d (own_H q2)) (own_sc p4))), .second, .unset, .unset, .unset] [(.long (own_H q2))])) _
    refine XS.lload X5.here hx rfl (hb hby at_128) rfl ?_
    refine XS.ladd X5.here hx rfl (hb hby at_130) rfl ?_
    show Steps p.tables e below (T5.setTop (mkF m 131 #[.val (.int p1), .val (.long q2), .second, .val (.int p3), .val (.int p4), .val (.int (p4 &&& (3 : Int32))), .val (.double (own_sc p4)), .second, .val (.int (p1 &&& (3 : Int32))), .val (.long (own_H q2)), .second, .val (.long (own_dl p3)), .second, .val (.long (own_q q2)), .second, .val (.long (own_r q2)), .second, .val (.long (140737488355328 : Int64)), .second, .val (.long (1 : Int64)), .second, .val (.long ((own_hq1 q2) + (1 : Int64))), .second, .val (.double (FP.dmul (FP.l2d (own_H q2)) (own_sc p4))), .second, .unset, .unset, .unset] [(.long (own_m q2 p3))])) _
    refine XS.l2dS X5.here hx rfl (hb hby at_131) rfl rfl ?_
    refine XS.dload X5.here hx rfl (hb hby at_132) rfl ?_
    show Steps p.tables e below (T5.setTop (mkF m 134 #[.val (.int p1), .val (.long q2), .second, .val (.int p3), .val (.int p4), .val (.int (p4 &&& (3 : Int32))), .val (.double (own_sc p4)), .second, .val (.int (p1 &&& (3 : Int32))), .val (.long (own_H q2)), .second, .val (.long (own_dl p3)), .second, .val (.long (own_q q2)), .second, .val (.long (own_r q2)), .second, .val (.long (140737488355328 : Int64)), .second, .val (.long (1 : Int64)), .second, .val (.long ((own_hq1 q2) + (1 : Int64))), .second, .val (.double (FP.dmul (FP.l2d (own_H q2)) (own_sc p4))), .second, .unset, .unset, .unset] [(.double (own_sc p4)), (.double (FP.l2d (own_m q2 p3)))])) _
    refine XS.dmulS X5.here hx rfl (hb hby at_134) rfl hnn134 rfl ?_
    refine XS.dstore X5.here hx rfl (hb hby at_135) rfl (l' := #[.val (.int p1), .val (.long q2), .second, .val (.int p3), .val (.int p4), .val (.int (p4 &&& (3 : Int32))), .val (.double (own_sc p4)), .second, .val (.int (p1 &&& (3 : Int32))), .val (.long (own_H q2)), .second, .val (.long (own_dl p3)), .second, .val (.long (own_q q2)), .second, .val (.long (own_r q2)), .second, .val (.long (140737488355328 : Int64)), .second, .val (.long (1 : Int64)), .second, .val (.long ((own_hq1 q2) + (1 : Int64))), .second, .val (.double (FP.dmul (FP.l2d (own_H q2)) (own_sc p4))), .second, .val (.double (FP.dmul (FP.l2d (own_m q2 p3)) (own_sc p4))), .second, .unset]) rfl ?_
    show Steps p.tables e below (T5.setTop (mkF m 137 #[.val (.int p1), .val (.long q2), .second, .val (.int p3), .val (.int p4), .val (.int (p4 &&& (3 : Int32))), .val (.double (own_sc p4)), .second, .val (.int (p1 &&& (3 : Int32))), .val (.long (own_H q2)), .second, .val (.long (own_dl p3)), .second, .val (.long (own_q q2)), .second, .val (.long (own_r q2)), .second, .val (.long (140737488355328 : Int64)), .second, .val (.long (1 : Int64)), .second, .val (.long ((own_hq1 q2) + (1 : Int64))), .second, .val (.double (FP.dmul (FP.l2d (own_H q2)) (own_sc p4))), .second, .val (.double (FP.dmul (FP.l2d (own_m q2 p3)) (own_sc p4))), .second, .unset] [])) _
    refine XS.lload X5.here hx rfl (hb hby at_137) rfl ?_
    refine XS.lload X5.here hx rfl (hb hby at_139) rfl ?_
    show Steps p.tables e below (T5.setTop (mkF m 141 #[.val (.int p1), .val (.long q2), .second, .val (.int p3), .val (.int p4), .val (.int (p4 &&& (3 : Int32))), .val (.double (own_sc p4)), .second, .val (.int (p1 &&& (3 : Int32))), .val (.long (own_H q2)), .second, .val (.long (own_dl p3)), .second, .val (.long (own_q q2)), .second, .val (.long (own_r q2)), .second, .val (.long (140737488355328 : Int64)), .second, .val (.long (1 : Int64)), .second, .val (.long ((own_hq1 q2) + (1 : Int64))), .second, .val (.double (FP.dmul (FP.l2d (own_H q2)) (own_sc p4))), .second, .val (.double (FP.dmul (FP.l2d (own_m q2 p3)) (own_sc p4))), .second, .unset] [(.long (own_dl p3)), (.long (own_H q2))])) _
    refine XS.ladd X5.here hx rfl (hb hby at_141) rfl ?_
    refine XS.lload X5.here hx rfl (hb hby at_142) rfl ?_
    show Steps p.tables e below (T5.setTop (mkF m 144 #[.val (.int p1), .val (.long q2), .second, .val (.int p3), .val (.int p4), .val (.int (p4 &&& (3 : Int32))), .val (.double (own_sc p4)), .second, .val (.int (p1 &&& (3 : Int32))), .val (.long (own_H q2)), .second, .val (.long (own_dl p3)), .second, .val (.long (own_q q2)), .second, .val (.long (own_r q2)), .second, .val (.long (140737488355328 : Int64)), .second, .val (.long (1 : Int64)), .second, .val (.long ((own_hq1 q2) + (1 : Int64))), .second, .val (.double (FP.dmul (FP.l2d (own_H q2)) (own_sc p4))), .second, .val (.double (FP.dmul (FP.l2d (own_m q2 p3)) (own_sc p4))), .second, .unset] [(.long ((own_hq1 q2) + (1 : Int64))), (.long (own_m q2 p3))])) _
    refine XS.lcmp X5.here hx rfl (hb hby at_144) rfl ?_
    refine XS.ifYes X5.here hx rfl (pc0 := 145) (pc' := 152) rfl (hb hby at_145) rfl ((if0 _ _).trans (flt hc145).2.2.2) (by decide) (by decide) ?_
    show Steps p.tables e below (T5.setTop (mkF m 152 #[.val (.int p1), .val (.long q2), .second, .val (.int p3), .val (.int p4), .val (.int (p4 &&& (3 : Int32))), .val (.double (own_sc p4)), .second, .val (.int (p1 &&& (3 : Int32))), .val (.long (own_H q2)), .second, .val (.long (own_dl p3)), .second, .val (.long (own_q q2)), .second, .val (.long (own_r q2)), .second, .val (.long (140737488355328 : Int64)), .second, .val (.long (1 : Int64)), .second, .val (.long ((own_hq1 q2) + (1 : Int64))), .second, .val (.double (FP.dmul (FP.l2d (own_H q2)) (own_sc p4))), .second, .val (.double (FP.dmul (FP.l2d (own_m q2 p3)) (own_sc p4))), .second, .unset] [])) _
    refine XS.iconst X5.here hx rfl (hb hby at_152) ?_
    refine XS.istore X5.here hx rfl (hb hby at_153) rfl (l' := #[.val (.int p1), .val (.long q2), .second, .val (.int p3), .val (.int p4), .val (.int (p4 &&& (3 : Int32))), .val (.double (own_sc p4)), .second, .val (.int (p1 &&& (3 : Int32))), .val (.long (own_H q2)), .second, .val (.long (own_dl p3)), .second, .val (.long (own_q q2)), .second, .val (.long (own_r q2)), .second, .val (.long (140737488355328 : Int64)), .second, .val (.long (1 : Int64)), .second, .val (.long ((own_hq1 q2) + (1 : Int64))), .second, .val (.double (FP.dmul (FP.l2d (own_H q2)) (own_sc p4))), .second, .val (.double (FP.dmul (FP.l2d (own_m q2 p3)) (own_sc p4))), .second, .val (.int (0 : Int32))]) rfl ?_
    show Steps p.tables e below (T5.setTop (mkF m 155 #[.val (.int p1), .val (.long q2), .second, .val (.int p3), .val (.int p4), .val (.int (p4 &&& (3 : Int32))), .val (.double (own_sc p4)), .second, .val (.int (p1 &&& (3 : Int32))), .val (.long (own_H q2)), .second, .val (.long (own_dl p3)), .second, .val (.long (own_q q2)), .second, .val (.long (own_r q2)), .second, .val (.long (140737488355328 : Int64)), .second, .val (.long (1 : Int64)), .second, .val (.long ((own_hq1 q2) + (1 : Int64))), .second, .val (.double (FP.dmul (FP.l2d (own_H q2)) (own_sc p4))), .second, .val (.double (FP.dmul (FP.l2d (own_m q2 p3)) (own_sc p4))), .second, .val (.int (0 : Int32))] [])) _
    refine XS.dload X5.here hx rfl (hb hby at_155) rfl ?_
    refine XS.dload X5.here hx rfl (hb hby at_157) rfl ?_
    show Steps p.tables e below (T5.setTop (mkF m 159 #[.val (.int p1), .val (.long q2), .second, .val (.int p3), .val (.int p4), .val (.int (p4 &&& (3 : Int32))), .val (.double (own_sc p4)), .second, .val (.int (p1 &&& (3 : Int32))), .val (.long (own_H q2)), .second, .val (.long (own_dl p3)), .second, .val (.long (own_q q2)), .second, .val (.long (own_r q2)), .second, .val (.long (140737488355328 : Int64)), .second, .val (.long (1 : Int64)), .second, .val (.long ((own_hq1 q2) + (1 : Int64))), .second, .val (.double (FP.dmul (FP.l2d (own_H q2)) (own_sc p4))), .second, .val (.double (FP.dmul (FP.l2d (own_m q2 p3)) (own_sc p4))), .second, .val (.int (0 : Int32))] [(.double (FP.dmul (FP.l2d (own_H q2)) (own_sc p4))), (.double (FP.dmul (FP.l2d (own_m q2 p3)) (own_sc p4)))])) _
    refine st6 _ ?_
    show Steps p.tables e below (T6.setTop (mkF m 162 #[.val (.int p1), .val (.long q2), .second, .val (.int p3), .val (.int p4), .val (.int (p4 &&& (3 : Int32))), .val (.double (own_sc p4)), .second, .val (.int (p1 &&& (3 : Int32))), .val (.long (own_H q2)), .second, .val (.long (own_dl p3)), .second, .val (.long (own_q q2)), .second, .val (.long (own_r q2)), .second, .val (.long (140737488355328 : Int64)), .second, .val (.long (1 : Int64)), .second, .val (.long ((own_hq1 q2) + (1 : Int64))), .second, .val (.double (FP.dmul (FP.l2d (own_H q2)) (own_sc p4))), .second, .val (.double (FP.dmul (FP.l2d (own_m q2 p3)) (own_sc p4))), .second, .val (.int (0 : Int32))] [(.int (own_ich (FP.dmul (FP.l2d (own_m q2 p3)) (own_sc p4)) (FP.dmul (FP.l2d (own_H q2)) (own_sc p4))))])) _
    refine XS.iload X6.here hx rfl (hb hby at_162) rfl ?_
    refine XS.icmpNo X6.here hx rfl (hb hby at_164) rfl (teq (own_fin0 (own_u1 hc66) hc145 : (own_ich (FP.dmul (FP.l2d (own_m q2 p3)) (own_sc p4)) (FP.dmul (FP.l2d (own_H q2)) (own_sc p4))) = (0 : Int32))).2 ?_
    show Steps p.tables e below (T6.setTop (mkF m 167 #[.val (.int p1), .val (.long q2), .second, .val (.int p3), .val (.int p4), .val (.int (p4 &&& (3 : Int32))), .val (.double (own_sc p4)), .second, .val (.int (p1 &&& (3 : Int32))), .val (.long (own_H q2)), .second, .val (.long (own_dl p3)), .second, .val (.long (own_q q2)), .second, .val (.long (own_r q2)), .second, .val (.long (140737488355328 : Int64)), .second, .val (.long (1 : Int64)), .second, .val (.long ((own_hq1 q2) + (1 : Int64))), .second, .val (.double (FP.dmul (FP.l2d (own_H q2)) (own_sc p4))), .second, .val (.double (FP.dmul (FP.l2d (own_m q2 p3)) (own_sc p4))), .second, .val (.int (0 : Int32))] [])) _
    refine XS.iconst X6.here hx rfl (hb hby at_167) ?_
    refine XS.goto X6.here hx rfl (pc0 := 168) (pc' := 172) rfl (hb hby at_168) (by decide) (by decide) ?_
    show Steps p.tables e below (T6.setTop (mkF m 172 #[.val (.int p1), .val (.long q2), .second, .val (.int p3), .val (.int p4), .val (.int (p4 &&& (3 : Int32))), .val (.double (own_sc p4)), .second, .val (.int (p1 &&& (3 : Int32))), .val (.long (own_H q2)), .second, .val (.long (own_dl p3)), .second, .val (.long (own_q q2)), .second, .val (.long (own_r q2)), .second, .val (.long (140737488355328 : Int64)), .second, .val (.long (1 : Int64)), .second, .val (.long ((own_hq1 q2) + (1 : Int64))), .second, .val (.double (FP.dmul (FP.l2d (own_H q2)) (own_sc p4))), .second, .val (.double (FP.dmul (FP.l2d (own_m q2 p3)) (own_sc p4))), .second, .val (.int (0 : Int32))] [(.int (1 : Int32))])) _
    exact retN X6 hx (t := .boolean) Bd.returns (by simp) (hb hby at_172) hr
  · show Q0 Z p1 q2 p3 p4 h0 n0 _ T6.heap _
    exact ⟨rfl, N6⟩
set_option maxRecDepth 65536 in
set_option maxHeartbeats 40000000 in
theorem rm0_a2t (l : Launch) (Z : State) (a0 : Array Value) (hw : ∀ d ∈ tables_1, d.before a0 Z = true) (ws : List Jvm.Cond) (p1 : Int32) (q2 : Int64) (p3 : Int32) (p4 : Int32) (h0 : Heap) (n0 : Nat) (Z0 : n0 ≤ h0.size) (hc31 : (p1 &&& (3 : Int32)) = (0 : Int32)) (hc66 : ¬ ((0 : Int32) < (lcmpW (own_r q2) (140737488355328 : Int64)))) (hc80 : (lcmpW (own_r q2) (140737488355328 : Int64)) < (0 : Int32)) (hc145 : (0 : Int32) < (lcmpW (own_m q2 p3) ((own_hq1 q2) + (0 : Int64)))) :
    MetFree l x (head1 (Jvm.Cond.code x code maxLocals ret :: ws) room_1) (fun a U => a = #[(.int p1), (.long q2), (.int p3), (.int p4)] ∧ Z.Warmed39 U.vm ∧ U.heap = h0) (fun _ _ _ _ _ => True) (fun _ U o U' => ∃ v L, o = .returned v ∧ Q0 Z p1 q2 p3 p4 h0 n0 v U'.heap L ∧ FrameEnd U o U' L room_1.cells room_1.slots) := by
  have hnz37 : ¬ ((64 : Int32) = (0 : Int32)) := by decide
  have hnn123 : Jvm.Free.Fl.NoNaN64 (FP.dmul (FP.l2d (own_H q2)) (own_sc p4)) := own_nn _ _
  have hnn134 : Jvm.Free.Fl.NoNaN64 (FP.dmul (FP.l2d (own_m q2 p3)) (own_sc p4)) := own_nn _ _
  refine MetFree.of_bodySF (plainFor_of_name pn_0) hisR ?_
  intro p e s m args below meth c s₁ Bd hml0 hP hK
  obtain ⟨rfl, hZ, hh⟩ := hP
  have hx := Bd.exec
  have hby := Bd.bytes
  have hml : c.maxLocals = 28 := hml0
  have hown : s.vm.findClass "com/example/level_ring/levelring/placement/MembersIsCertainlyHigherPinLaw" = some m.cls := findClass_of_methodNamed Bd.named
  have hnm := (name_of_methodNamed Bd.named Bd.method).1
  have X0 : Stand p l e room_1 s m #[(.int p1), (.long q2), (.int p3), (.int p4)] below meth c s₁ [] 0 0 := Stand.of_body Bd
  have e0 : s₁.heap = h0 := by rw [← hh, Bd.state]; rfl
  have N0 := Fr.nil n0
  have pre0 : ∀ t, Steps p.tables e below (s₁.setTop (mkF m 0 #[.val (.int p1), .val (.long q2), .second, .val (.int p3), .val (.int p4), .unset, .unset, .unset, .unset, .unset, .unset, .unset, .unset, .unset, .unset, .unset, .unset, .unset, .unset, .unset, .unset, .unset, .unset, .unset, .unset, .unset, .unset, .unset] [])) t → Steps p.tables e below (s₁.setTop (entryFrame m #[(.int p1), (.long q2), (.int p3), (.int p4)] maxLocals)) t := fun t k => castTop (ef_0 m p1 q2 p3 p4) k
  -- 3. LAWS
  -- pc 8: com/example/level_ring/levelring/placement/MembersIsCertainlyHigherPinLaw.scaleOf by its contract rm1
  obtain ⟨_, _, ⟨T5, L5, k5, n5⟩, -, X5, ⟨Lc5, hQ5, l5, y5, z5⟩, st5⟩ := Jvm.LawKit.callS X0 hx (y := (⟨"com/example/level_ring/levelring/placement/MembersIsCertainlyHigherPinLaw", "scaleOf", "(I)D"⟩ : MethodName)) hown (mvT hZ (hw _ (List.mem_of_getElem? (i := 0) rfl))) (mvT hZ (hw _ (List.mem_of_getElem? (i := 1) rfl))) (mvT hZ (hw _ (List.mem_of_getElem? (i := 2) rfl))) (mvT hZ (hw _ (List.mem_of_getElem? (i := 3) rfl))) (by decide) (backOf (W := 0) (rm1 l Z a0 hw [] (p4 &&& (3 : Int32))  h0 n0 Z0) hZ (hw _ (List.mem_of_getElem? (i := 3) rfl)) (hw _ (List.mem_of_getElem? (i := 2) rfl)) (by decide) (by decide)) (g := (mkF m 8 #[.val (.int p1), .val (.long q2), .second, .val (.int p3), .val (.int p4), .val (.int (p4 &&& (3 : Int32))), .unset, .unset, .unset, .unset, .unset, .unset, .unset, .unset, .unset, .unset, .unset, .unset, .unset, .unset, .unset, .unset, .unset, .unset, .unset, .unset, .unset, .unset] [(.int (p4 &&& (3 : Int32)))])) rfl (by rw [hml]; rfl) (argsL := [(.int (p4 &&& (3 : Int32)))]) (rest := []) (lenOf pdw_0 rfl) rfl (by show 2 * 0 + _ ≤ _; exact Nat.le_of_eq rfl) (hb hby at_8) (fun _ _ => ⟨rfl, e0, (by decide : 0 + 0 ≤ _), (by decide : 0 + 0 ≤ _)⟩)
  dsimp only [Pt.U, Pt.locs, Pt.cells, Pt.slots] at X5 l5 y5 z5 st5 hQ5
  subst l5 y5 z5
  obtain ⟨rfl, N5q, hh5⟩ := hQ5
  have N5 := Fr.app N0 N5q
  -- pc 159: com/example/level_ring/levelring/placement/Members.isCertainlyHigher by its contract rm2
  obtain ⟨_, _, ⟨T6, L6, k6, n6⟩, -, X6, ⟨Lc6, hQ6, l6, y6, z6⟩, st6⟩ := Jvm.LawKit.callS X5 hx (y := (⟨"com/example/level_ring/levelring/placement/Members", "isCertainlyHigher", "(DD)Z"⟩ : MethodName)) hown (mvT hZ (hw _ (List.mem_of_getElem? (i := 8) rfl))) (mvT hZ (hw _ (List.mem_of_getElem? (i := 9) rfl))) (mvT hZ (hw _ (List.mem_of_getElem? (i := 10) rfl))) (mvT hZ (hw _ (List.mem_of_getElem? (i := 11) rfl))) (by decide) (backOf (W := 0) (rm2 l Z a0 hw [] (FP.dmul (FP.l2d (own_m q2 p3)) (own_sc p4)) (FP.dmul (FP.l2d (own_H q2)) (own_sc p4))  h0 n0 Z0 (dmul_out (own_ms_fin _ (by have := own_H_rng q2; omega)) own_C_fin)) hZ (hw _ (List.mem_of_getElem? (i := 11) rfl)) (hw _ (List.mem_of_getElem? (i := 10) rfl)) (by decide) (by decide)) (g := (mkF m 159 #[.val (.int p1), .val (.long q2), .second, .val (.int p3), .val (.int p4), .val (.int (p4 &&& (3 : Int32))), .val (.double (own_sc p4)), .second, .val (.int (p1 &&& (3 : Int32))), .val (.long (own_H q2)), .second, .val (.long (own_dl p3)), .second, .val (.long (own_q q2)), .second, .val (.long (own_r q2)), .second, .val (.long (140737488355328 : Int64)), .second, .val (.long (0 : Int64)), .second, .val (.long ((own_hq1 q2) + (0 : Int64))), .second, .val (.double (FP.dmul (FP.l2d (own_H q2)) (own_sc p4))), .second, .val (.double (FP.dmul (FP.l2d (own_m q2 p3)) (own_sc p4))), .second, .val (.int (1 : Int32))] [(.double (FP.dmul (FP.l2d (own_H q2)) (own_sc p4))), (.double (FP.dmul (FP.l2d (own_m q2 p3)) (own_sc p4)))])) rfl (by rw [hml]; rfl) (argsL := [(.double (FP.dmul (FP.l2d (own_m q2 p3)) (own_sc p4))), (.double (FP.dmul (FP.l2d (own_H q2)) (own_sc p4)))]) (rest := []) (lenOf pdw_1 rfl) rfl (by show 2 * 0 + _ ≤ _; exact Nat.le_of_eq rfl) (hb hby at_159) (fun _ _ => ⟨rfl, hh5, (by decide : 0 + 0 ≤ _), (by decide : 0 + 0 ≤ _)⟩)
  dsimp only [Pt.U, Pt.locs, Pt.cells, Pt.slots] at X6 l6 y6 z6 st6 hQ6
  subst l6 y6 z6
  obtain ⟨rfl, N6q, hh6⟩ := hQ6
  have N6 := Fr.app N5 N6q
  obtain ⟨fs, hr, hrun, hended, hW, hsame⟩ := X6.leave (v := some (.int (1 : Int32))) (fun h => by rw [Bd.returns] at h; cases h)
  refine ⟨_, _, pre0 _ ?_, hrun, hended, _, _, rfl, ?_, ⟨_, rfl⟩, hW, hsame.mono (by decide) (by decide)⟩
  -- 4. STEPS
  · show Steps p.tables e below (s₁.setTop (mkF m 0 #[.val (.int p1), .val (.long q2), .second, .val (.int p3), .val (.int p4), .unset, .unset, .unset, .unset, .unset, .unset, .unset, .unset, .unset, .unset, .unset, .unset, .unset, .unset, .unset, .unset, .unset, .unset, .unset, .unset, .unset, .unset, .unset] [])) _
    refine XS.iload X0.here hx rfl (hb hby at_0) rfl ?_
    refine XS.iconst X0.here hx rfl (hb hby at_2) ?_
    show Steps p.tables e below (s₁.setTop (mkF m 3 #[.val (.int p1), .val (.long q2), .second, .val (.int p3), .val (.int p4), .unset, .unset, .unset, .unset, .unset, .unset, .unset, .unset, .unset, .unset, .unset, .unset, .unset, .unset, .unset, .unset, .unset, .unset, .unset, .unset, .unset, .unset, .unset] [(.int (3 : Int32)), (.int p4)])) _
    refine XS.iand X0.here hx rfl (hb hby at_3) rfl ?_
    refine XS.istore X0.here hx rfl (hb hby at_4) rfl (l' := #[.val (.int p1), .val (.long q2), .second, .val (.int p3), .val (.int p4), .val (.int (p4 &&& (3 : Int32))), .unset, .unset, .unset, .unset, .unset, .unset, .unset, .unset, .unset, .unset, .unset, .unset, .unset, .unset, .unset, .unset, .unset, .unset, .unset, .unset, .unset, .unset]) rfl ?_
    show Steps p.tables e below (s₁.setTop (mkF m 6 #[.val (.int p1), .val (.long q2), .second, .val (.int p3), .val (.int p4), .val (.int (p4 &&& (3 : Int32))), .unset, .unset, .unset, .unset, .unset, .unset, .unset, .unset, .unset, .unset, .unset, .unset, .unset, .unset, .unset, .unset, .unset, .unset, .unset, .unset, .unset, .unset] [])) _
    refine XS.iload X0.here hx rfl (hb hby at_6) rfl ?_
    show Steps p.tables e below (s₁.setTop (mkF m 8 #[.val (.int p1), .val (.long q2), .second, .val (.int p3), .val (.int p4), .val (.int (p4 &&& (3 : Int32))), .unset, .unset, .unset, .unset, .unset, .unset, .unset, .unset, .unset, .unset, .unset, .unset, .unset, .unset, .unset, .unset, .unset, .unset, .unset, .unset, .unset, .unset] [(.int (p4 &&& (3 : Int32)))])) _
    refine st5 _ ?_
    show Steps p.tables e below (T5.setTop (mkF m 11 #[.val (.int p1), .val (.long q2), .second, .val (.int p3), .val (.int p4), .val (.int (p4 &&& (3 : Int32))), .unset, .unset, .unset, .unset, .unset, .unset, .unset, .unset, .unset, .unset, .unset, .unset, .unset, .unset, .unset, .unset, .unset, .unset, .unset, .unset, .unset, .unset] [(.double (own_sc p4))])) _
    refine XS.dstore X5.here hx rfl (hb hby at_11) rfl (l' := #[.val (.int p1), .val (.long q2), .second, .val (.int p3), .val (.int p4), .val (.int (p4 &&& (3 : Int32))), .val (.double (own_sc p4)), .second, .unset, .unset, .unset, .unset, .unset, .unset, .unset, .unset, .unset, .unset, .unset, .unset, .unset, .unset, .unset, .unset, .unset, .unset, .unset, .unset]) rfl ?_
    refine XS.iloadN X5.here hx rfl (hb hby at_13) rfl ?_
    show Steps p.tables e below (T5.setTop (mkF m 14 #[.val (.int p1), .val (.long q2), .second, .val (.int p3), .val (.int p4), .val (.int (p4 &&& (3 : Int32))), .val (.double (own_sc p4)), .second, .unset, .unset, .unset, .unset, .unset, .unset, .unset, .unset, .unset, .unset, .unset, .unset, .unset, .unset, .unset, .unset, .unset, .unset, .unset, .unset] [(.int p1)])) _
    refine XS.iconst X5.here hx rfl (hb hby at_14) ?_
    refine XS.iand X5.here hx rfl (hb hby at_15) rfl ?_
    show Steps p.tables e below (T5.setTop (mkF m 16 #[.val (.int p1), .val (.long q2), .second, .val (.int p3), .val (.int p4), .val (.int (p4 &&& (3 : Int32))), .val (.double (own_sc p4)), .second, .unset, .unset, .unset, .unset, .unset, .unset, .unset, .unset, .unset, .unset, .unset, .unset, .unset, .unset, .unset, .unset, .unset, .unset, .unset, .unset] [(.int (p1 &&& (3 : Int32)))])) _
    refine XS.istore X5.here hx rfl (hb hby at_16) rfl (l' := #[.val (.int p1), .val (.long q2), .second, .val (.int p3), .val (.int p4), .val (.int (p4 &&& (3 : Int32))), .val (.double (own_sc p4)), .second, .val (.int (p1 &&& (3 : Int32))), .unset, .unset, .unset, .unset, .unset, .unset, .unset, .unset, .unset, .unset, .unset, .unset, .unset, .unset, .unset, .unset, .unset, .unset, .unset]) rfl ?_
    show Steps p.tables e below (T5.setTop (mkF m 18 #[.val (.int p1), .val (.long q2), .second, .val (.int p3), .val (.int p4), .val (.int (p4 &&& (3 : Int32))), .val (.double (own_sc p4)), .second, .val (.int (p1 &&& (3 : Int32))), .unset, .unset, .unset, .unset, .unset, .unset, .unset, .unset, .unset, .unset, .unset, .unset, .unset, .unset, .unset, .unset, .unset, .unset, .unset] [])) _
    refine X5.ldc2Long hx hown (mvT hZ (hw _ (List.mem_of_getElem? (i := 4) rfl))) (g := (mkF m 18 #[.val (.int p1), .val (.long q2), .second, .val (.int p3), .val (.int p4), .val (.int (p4 &&& (3 : Int32))), .val (.double (own_sc p4)), .second, .val (.int (p1 &&& (3 : Int32))), .unset, .unset, .unset, .unset, .unset, .unset, .unset, .unset, .unset, .unset, .unset, .unset, .unset, .unset, .unset, .unset, .unset, .unset, .unset] [])) rfl (hb hby at_18) _ ?_
    show Steps p.tables e below (T5.setTop (mkF m 21 #[.val (.int p1), .val (.long q2), .second, .val (.int p3), .val (.int p4), .val (.int (p4 &&& (3 : Int32))), .val (.double (own_sc p4)), .second, .val (.int (p1 &&& (3 : Int32))), .unset, .unset, .unset, .unset, .unset, .unset, .unset, .unset, .unset, .unset, .unset, .unset, .unset, .unset, .unset, .unset, .unset, .unset, .unset] [(.long (4503599627370496 : Int64))])) _
    refine XS.lloadN X5.here hx rfl (hb hby at_21) rfl ?_
    show Steps p.tables e below (T5.setTop (mkF m 22 #[.val (.int p1), .val (.long q2), .second, .val (.int p3), .val (.int p4), .val (.int (p4 &&& (3 : Int32))), .val (.double (own_sc p4)), .second, .val (.int (p1 &&& (3 : Int32))), .unset, .unset, .unset, .unset, .unset, .unset, .unset, .unset, .unset, .unset, .unset, .unset, .unset, .unset, .unset, .unset, .unset, .unset, .unset] [(.long q2), (.long (4503599627370496 : Int64))])) _
    refine X5.ldc2Long hx hown (mvT hZ (hw _ (List.mem_of_getElem? (i := 5) rfl))) (g := (mkF m 22 #[.val (.int p1), .val (.long q2), .second, .val (.int p3), .val (.int p4), .val (.int (p4 &&& (3 : Int32))), .val (.double (own_sc p4)), .second, .val (.int (p1 &&& (3 : Int32))), .unset, .unset, .unset, .unset, .unset, .unset, .unset, .unset, .unset, .unset, .unset, .unset, .unset, .unset, .unset, .unset, .unset, .unset, .unset] [(.long q2), (.long (4503599627370496 : Int64))])) rfl (hb hby at_22) _ ?_
    show Steps p.tables e below (T5.setTop (mkF m 25 #[.val (.int p1), .val (.long q2), .second, .val (.int p3), .val (.int p4), .val (.int (p4 &&& (3 : Int32))), .val (.double (own_sc p4)), .second, .val (.int (p1 &&& (3 : Int32))), .unset, .unset, .unset, .unset, .unset, .unset, .unset, .unset, .unset, .unset, .unset, .unset, .unset, .unset, .unset, .unset, .unset, .unset, .unset] [(.long (2251799813685247 : Int64)), (.long q2), (.long (4503599627370496 : Int64))])) _
    refine XS.land X5.here hx rfl (hb hby at_25) rfl ?_
    refine XS.lor X5.here hx rfl (hb hby at_26) rfl ?_
    show Steps p.tables e below (T5.setTop (mkF m 27 #[.val (.int p1), .val (.long q2), .second, .val (.int p3), .val (.int p4), .val (.int (p4 &&& (3 : Int32))), .val (.double (own_sc p4)), .second, .val (.int (p1 &&& (3 : Int32))), .unset, .unset, .unset, .unset, .unset, .unset, .unset, .unset, .unset, .unset, .unset, .unset, .unset, .unset, .unset, .unset, .unset, .unset, .unset] [(.long (own_H q2))])) _
    refine XS.lstore X5.here hx rfl (hb hby at_27) rfl (l' := #[.val (.int p1), .val (.long q2), .second, .val (.int p3), .val (.int p4), .val (.int (p4 &&& (3 : Int32))), .val (.double (own_sc p4)), .second, .val (.int (p1 &&& (3 : Int32))), .val (.long (own_H q2)), .second, .unset, .unset, .unset, .unset, .unset, .unset, .unset, .unset, .unset, .unset, .unset, .unset, .unset, .unset, .unset, .unset, .unset]) rfl ?_
    refine XS.iload X5.here hx rfl (hb hby at_29) rfl ?_
    show Steps p.tables e below (T5.setTop (mkF m 31 #[.val (.int p1), .val (.long q2), .second, .val (.int p3), .val (.int p4), .val (.int (p4 &&& (3 : Int32))), .val (.double (own_sc p4)), .second, .val (.int (p1 &&& (3 : Int32))), .val (.long (own_H q2)), .second, .unset, .unset, .unset, .unset, .unset, .unset, .unset, .unset, .unset, .unset, .unset, .unset, .unset, .unset, .unset, .unset, .unset] [(.int (p1 &&& (3 : Int32)))])) _
    refine XS.ifNo X5.here hx rfl (hb hby at_31) rfl ((if0 _ _).trans (teq hc31).2) ?_
    refine XS.iloadN X5.here hx rfl (hb hby at_34) rfl ?_
    show Steps p.tables e below (T5.setTop (mkF m 35 #[.val (.int p1), .val (.long q2), .second, .val (.int p3), .val (.int p4), .val (.int (p4 &&& (3 : Int32))), .val (.double (own_sc p4)), .second, .val (.int (p1 &&& (3 : Int32))), .val (.long (own_H q2)), .second, .unset, .unset, .unset, .unset, .unset, .unset, .unset, .unset, .unset, .unset, .unset, .unset, .unset, .unset, .unset, .unset, .unset] [(.int p3)])) _
    refine XS.bipush X5.here hx rfl (hb hby at_35) ?_
    show Steps p.tables e below (T5.setTop (mkF m 37 #[.val (.int p1), .val (.long q2), .second, .val (.int p3), .val (.int p4), .val (.int (p4 &&& (3 : Int32))), .val (.double (own_sc p4)), .second, .val (.int (p1 &&& (3 : Int32))), .val (.long (own_H q2)), .second, .unset, .unset, .unset, .unset, .unset, .unset, .unset, .unset, .unset, .unset, .unset, .unset, .unset, .unset, .unset, .unset, .unset] [(.int (64 : Int32)), (.int p3)])) _
    refine own_irem X5.here hx rfl (hb hby at_37) rfl hnz37 ?_
    show Steps p.tables e below (T5.setTop (mkF m 38 #[.val (.int p1), .val (.long q2), .second, .val (.int p3), .val (.int p4), .val (.int (p4 &&& (3 : Int32))), .val (.double (own_sc p4)), .second, .val (.int (p1 &&& (3 : Int32))), .val (.long (own_H q2)), .second, .unset, .unset, .unset, .unset, .unset, .unset, .unset, .unset, .unset, .unset, .unset, .unset, .unset, .unset, .unset, .unset, .unset] [(.int (p3 % (64 : Int32)))])) _
    refine XS.i2l X5.here hx rfl (hb hby at_38) rfl ?_
    refine XS.lstore X5.here hx rfl (hb hby at_39) rfl (l' := #[.val (.int p1), .val (.long q2), .second, .val (.int p3), .val (.int p4), .val (.int (p4 &&& (3 : Int32))), .val (.double (own_sc p4)), .second, .val (.int (p1 &&& (3 : Int32))), .val (.long (own_H q2)), .second, .val (.long (own_dl p3)), .second, .unset, .unset, .unset, .unset, .unset, .unset, .unset, .unset, .unset, .unset, .unset, .unset, .unset, .unset, .unset]) rfl ?_
    show Steps p.tables e below (T5.setTop (mkF m 41 #[.val (.int p1), .val (.long q2), .second, .val (.int p3), .val (.int p4), .val (.int (p4 &&& (3 : Int32))), .val (.double (own_sc p4)), .second, .val (.int (p1 &&& (3 : Int32))), .val (.long (own_H q2)), .second, .val (.long (own_dl p3)), .second, .unset, .unset, .unset, .unset, .unset, .unset, .unset, .unset, .unset, .unset, .unset, .unset, .unset, .unset, .unset] [])) _
    refine XS.lload X5.here hx rfl (hb hby at_41) rfl ?_
    refine XS.bipush X5.here hx rfl (hb hby at_43) ?_
    show Steps p.tables e below (T5.setTop (mkF m 45 #[.val (.int p1), .val (.long q2), .second, .val (.int p3), .val (.int p4), .val (.int (p4 &&& (3 : Int32))), .val (.double (own_sc p4)), .second, .val (.int (p1 &&& (3 : Int32))), .val (.long (own_H q2)), .second, .val (.long (own_dl p3)), .second, .unset, .unset, .unset, .unset, .unset, .unset, .unset, .unset, .unset, .unset, .unset, .unset, .unset, .unset, .unset] [(.int (48 : Int32)), (.long (own_H q2))])) _
    refine XS.lushr X5.here hx rfl (hb hby at_45) rfl ?_
    refine XS.lstore X5.here hx rfl (hb hby at_46) rfl (l' := #[.val (.int p1), .val (.long q2), .second, .val (.int p3), .val (.int p4), .val (.int (p4 &&& (3 : Int32))), .val (.double (own_sc p4)), .second, .val (.int (p1 &&& (3 : Int32))), .val (.long (own_H q2)), .second, .val (.long (own_dl p3)), .second, .val (.long (own_q q2)), .second, .unset, .unset, .unset, .unset, .unset, .unset, .unset, .unset, .unset, .unset, .unset, .unset, .unset]) rfl ?_
    show Steps p.tables e below (T5.setTop (mkF m 48 #[.val (.int p1), .val (.long q2), .second, .val (.int p3), .val (.int p4), .val (.int (p4 &&& (3 : Int32))), .val (.double (own_sc p4)), .second, .val (.int (p1 &&& (3 : Int32))), .val (.long (own_H q2)), .second, .val (.long (own_dl p3)), .second, .val (.long (own_q q2)), .second, .unset, .unset, .unset, .unset, .unset, .unset, .unset, .unset, .unset, .unset, .unset, .unset, .unset] [])) _
    refine XS.lload X5.here hx rfl (hb hby at_48) rfl ?_
    show Steps p.tables e below (T5.setTop (mkF m 50 #[.val (.int p1), .val (.long q2), .second, .val (.int p3), .val (.int p4), .val (.int (p4 &&& (3 : Int32))), .val (.double (own_sc p4)), .second, .val (.int (p1 &&& (3 : Int32))), .val (.long (own_H q2)), .second, .val (.long (own_dl p3)), .second, .val (.long (own_q q2)), .second, .unset, .unset, .unset, .unset, .unset, .unset, .unset, .unset, .unset, .unset, .unset, .unset, .unset] [(.long (own_H q2))])) _
    refine X5.ldc2Long hx hown (mvT hZ (hw _ (List.mem_of_getElem? (i := 6) rfl))) (g := (mkF m 50 #[.val (.int p1), .val (.long q2), .second, .val (.int p3), .val (.int p4), .val (.int (p4 &&& (3 : Int32))), .val (.double (own_sc p4)), .second, .val (.int (p1 &&& (3 : Int32))), .val (.long (own_H q2)), .second, .val (.long (own_dl p3)), .second, .val (.long (own_q q2)), .second, .unset, .unset, .unset, .unset, .unset, .unset, .unset, .unset, .unset, .unset, .unset, .unset, .unset] [(.long (own_H q2))])) rfl (hb hby at_50) _ ?_
    show Steps p.tables e below (T5.setTop (mkF m 53 #[.val (.int p1), .val (.long q2), .second, .val (.int p3), .val (.int p4), .val (.int (p4 &&& (3 : Int32))), .val (.double (own_sc p4)), .second, .val (.int (p1 &&& (3 : Int32))), .val (.long (own_H q2)), .second, .val (.long (own_dl p3)), .second, .val (.long (own_q q2)), .second, .unset, .unset, .unset, .unset, .unset, .unset, .unset, .unset, .unset, .unset, .unset, .unset, .unset] [(.long (281474976710655 : Int64)), (.long (own_H q2))])) _
    refine XS.land X5.here hx rfl (hb hby at_53) rfl ?_
    refine XS.lstore X5.here hx rfl (hb hby at_54) rfl (l' := #[.val (.int p1), .val (.long q2), .second, .val (.int p3), .val (.int p4), .val (.int (p4 &&& (3 : Int32))), .val (.double (own_sc p4)), .second, .val (.int (p1 &&& (3 : Int32))), .val (.long (own_H q2)), .second, .val (.long (own_dl p3)), .second, .val (.long (own_q q2)), .second, .val (.long (own_r q2)), .second, .unset, .unset, .unset, .unset, .unset, .unset, .unset, .unset, .unset, .unset, .unset]) rfl ?_
    show Steps p.tables e below (T5.setTop (mkF m 56 #[.val (.int p1), .val (.long q2), .second, .val (.int p3), .val (.int p4), .val (.int (p4 &&& (3 : Int32))), .val (.double (own_sc p4)), .second, .val (.int (p1 &&& (3 : Int32))), .val (.long (own_H q2)), .second, .val (.long (own_dl p3)), .second, .val (.long (own_q q2)), .second, .val (.long (own_r q2)), .second, .unset, .unset, .unset, .unset, .unset, .unset, .unset, .unset, .unset, .unset, .unset] [])) _
    refine X5.ldc2Long hx hown (mvT hZ (hw _ (List.mem_of_getElem? (i := 7) rfl))) (g := (mkF m 56 #[.val (.int p1), .val (.long q2), .second, .val (.int p3), .val (.int p4), .val (.int (p4 &&& (3 : Int32))), .val (.double (own_sc p4)), .second, .val (.int (p1 &&& (3 : Int32))), .val (.long (own_H q2)), .second, .val (.long (own_dl p3)), .second, .val (.long (own_q q2)), .second, .val (.long (own_r q2)), .second, .unset, .unset, .unset, .unset, .unset, .unset, .unset, .unset, .unset, .unset, .unset] [])) rfl (hb hby at_56) _ ?_
    show Steps p.tables e below (T5.setTop (mkF m 59 #[.val (.int p1), .val (.long q2), .second, .val (.int p3), .val (.int p4), .val (.int (p4 &&& (3 : Int32))), .val (.double (own_sc p4)), .second, .val (.int (p1 &&& (3 : Int32))), .val (.long (own_H q2)), .second, .val (.long (own_dl p3)), .second, .val (.long (own_q q2)), .second, .val (.long (own_r q2)), .second, .unset, .unset, .unset, .unset, .unset, .unset, .unset, .unset, .unset, .unset, .unset] [(.long (140737488355328 : Int64))])) _
    refine XS.lstore X5.here hx rfl (hb hby at_59) rfl (l' := #[.val (.int p1), .val (.long q2), .second, .val (.int p3), .val (.int p4), .val (.int (p4 &&& (3 : Int32))), .val (.double (own_sc p4)), .second, .val (.int (p1 &&& (3 : Int32))), .val (.long (own_H q2)), .second, .val (.long (own_dl p3)), .second, .val (.long (own_q q2)), .second, .val (.long (own_r q2)), .second, .val (.long (140737488355328 : Int64)), .second, .unset, .unset, .unset, .unset, .unset, .unset, .unset, .unset, .unset]) rfl ?_
    refine XS.lload X5.here hx rfl (hb hby at_61) rfl ?_
    show Steps p.tables e below (T5.setTop (mkF m 63 #[.val (.int p1), .val (.long q2), .second, .val (.int p3), .val (.int p4), .val (.int (p4 &&& (3 : Int32))), .val (.double (own_sc p4)), .second, .val (.int (p1 &&& (3 : Int32))), .val (.long (own_H q2)), .second, .val (.long (own_dl p3)), .second, .val (.long (own_q q2)), .second, .val (.long (own_r q2)), .second, .val (.long (140737488355328 : Int64)), .second, .unset, .unset, .unset, .unset, .unset, .unset, .unset, .unset, .unset] [(.long (own_r q2))])) _
    refine XS.lload X5.here hx rfl (hb hby at_63) rfl ?_
    refine XS.lcmp X5.here hx rfl (hb hby at_65) rfl ?_
    show Steps p.tables e below (T5.setTop (mkF m 66 #[.val (.int p1), .val (.long q2), .second, .val (.int p3), .val (.int p4), .val (.int (p4 &&& (3 : Int32))), .val (.double (own_sc p4)), .second, .val (.int (p1 &&& (3 : Int32))), .val (.long (own_H q2)), .second, .val (.long (own_dl p3)), .second, .val (.long (own_q q2)), .second, .val (.long (own_r q2)), .second, .val (.long (140737488355328 : Int64)), .second, .unset, .unset, .unset, .unset, .unset, .unset, .unset, .unset, .unset] [(.int (lcmpW (own_r q2) (140737488355328 : Int64)))])) _
    refine XS.ifYes X5.here hx rfl (pc0 := 66) (pc' := 75) rfl (hb hby at_66) rfl ((if0 _ _).trans (flt hc66).2.2.2) (by decide) (by decide) ?_
    refine XS.lload X5.here hx rfl (hb hby at_75) rfl ?_
    show Steps p.tables e below (T5.setTop (mkF m 77 #[.val (.int p1), .val (.long q2), .second, .val (.int p3), .val (.int p4), .val (.int (p4 &&& (3 : Int32))), .val (.double (own_sc p4)), .second, .val (.int (p1 &&& (3 : Int32))), .val (.long (own_H q2)), .second, .val (.long (own_dl p3)), .second, .val (.long (own_q q2)), .second, .val (.long (own_r q2)), .second, .val (.long (140737488355328 : Int64)), .second, .unset, .unset, .unset, .unset, .unset, .unset, .unset, .unset, .unset] [(.long (own_r q2))])) _
    refine XS.lload X5.here hx rfl (hb hby at_77) rfl ?_
    refine XS.lcmp X5.here hx rfl (hb hby at_79) rfl ?_
    show Steps p.tables e below (T5.setTop (mkF m 80 #[.val (.int p1), .val (.long q2), .second, .val (.int p3), .val (.int p4), .val (.int (p4 &&& (3 : Int32))), .val (.double (own_sc p4)), .second, .val (.int (p1 &&& (3 : Int32))), .val (.long (own_H q2)), .second, .val (.long (own_dl p3)), .second, .val (.long (own_q q2)), .second, .val (.long (own_r q2)), .second, .val (.long (140737488355328 : Int64)), .second, .unset, .unset, .unset, .unset, .unset, .unset, .unset, .unset, .unset] [(.int (lcmpW (own_r q2) (140737488355328 : Int64)))])) _
    refine XS.ifNo X5.here hx rfl (hb hby at_80) rfl ((if0 _ _).trans (tlt hc80).2.1) ?_
    refine XS.lconst X5.here hx rfl (hb hby at_83) ?_
    show Steps p.tables e below (T5.setTop (mkF m 84 #[.val (.int p1), .val (.long q2), .second, .val (.int p3), .val (.int p4), .val (.int (p4 &&& (3 : Int32))), .val (.double (own_sc p4)), .second, .val (.int (p1 &&& (3 : Int32))), .val (.long (own_H q2)), .second, .val (.long (own_dl p3)), .second, .val (.long (own_q q2)), .second, .val (.long (own_r q2)), .second, .val (.long (140737488355328 : Int64)), .second, .unset, .unset, .unset, .unset, .unset, .unset, .unset, .unset, .unset] [(.long (0 : Int64))])) _
    refine XS.lstore X5.here hx rfl (hb hby at_84) rfl (l' := #[.val (.int p1), .val (.long q2), .second, .val (.int p3), .val (.int p4), .val (.int (p4 &&& (3 : Int32))), .val (.double (own_sc p4)), .second, .val (.int (p1 &&& (3 : Int32))), .val (.long (own_H q2)), .second, .val (.long (own_dl p3)), .second, .val (.long (own_q q2)), .second, .val (.long (own_r q2)), .second, .val (.long (140737488355328 : Int64)), .second, .val (.long (0 : Int64)), .second, .unset, .unset, .unset, .unset, .unset, .unset, .unset]) rfl ?_
    refine XS.goto X5.here hx rfl (pc0 := 86) (pc' := 108) rfl (hb hby at_86) (by decide) (by decide) ?_
    show Steps p.tables e below (T5.setTop (mkF m 108 #[.val (.int p1), .val (.long q2), .second, .val (.int p3), .val (.int p4), .val (.int (p4 &&& (3 : Int32))), .val (.double (own_sc p4)), .second, .val (.int (p1 &&& (3 : Int32))), .val (.long (own_H q2)), .second, .val (.long (own_dl p3)), .second, .val (.long (own_q q2)), .second, .val (.long (own_r q2)), .second, .val (.long (140737488355328 : Int64)), .second, .val (.long (0 : Int64)), .second, .unset, .unset, .unset, .unset, .unset, .unset, .unset] [])) _
    refine XS.lload X5.here hx rfl (hb hby at_108) rfl ?_
    refine XS.lload X5.here hx rfl (hb hby at_110) rfl ?_
    show Steps p.tables e below (T5.setTop (mkF m 112 #[.val (.int p1), .val (.long q2), .second, .val (.int p3), .val (.int p4), .val (.int (p4 &&& (3 : Int32))), .val (.double (own_sc p4)), .second, .val (.int (p1 &&& (3 : Int32))), .val (.long (own_H q2)), .second, .val (.long (own_dl p3)), .second, .val (.long (own_q q2)), .second, .val (.long (own_r q2)), .second, .val (.long (140737488355328 : Int64)), .second, .val (.long (0 : Int64)), .second, .unset, .unset, .unset, .unset, .unset, .unset, .unset] [(.long (own_q q2)), (.long (own_H q2))])) _
    refine XS.ladd X5.here hx rfl (hb hby at_112) rfl ?_
    refine XS.lload X5.here hx rfl (hb hby at_113) rfl ?_
    show Steps p.tables e below (T5.setTop (mkF m 115 #[.val (.int p1), .val (.long q2), .second, .val (.int p3), .val (.int p4), .val (.int (p4 &&& (3 : Int32))), .val (.double (own_sc p4)), .second, .val (.int (p1 &&& (3 : Int32))), .val (.long (own_H q2)), .second, .val (.long (own_dl p3)), .second, .val (.long (own_q q2)), .second, .val (.long (own_r q2)), .second, .val (.long (140737488355328 : Int64)), .second, .val (.long (0 : Int64)), .second, .unset, .unset, .unset, .unset, .unset, .unset, .unset] [(.long (0 : Int64)), (.long (own_hq1 q2))])) _
    refine XS.ladd X5.here hx rfl (hb hby at_115) rfl ?_
    refine XS.lstore X5.here hx rfl (hb hby at_116) rfl (l' := #[.val (.int p1), .val (.long q2), .second, .val (.int p3), .val (.int p4), .val (.int (p4 &&& (3 : Int32))), .val (.double (own_sc p4)), .second, .val (.int (p1 &&& (3 : Int32))), .val (.long (own_H q2)), .second, .val (.long (own_dl p3)), .second, .val (.long (own_q q2)), .second, .val (.long (own_r q2)), .second, .val (.long (140737488355328 : Int64)), .second, .val (.long (0 : Int64)), .second, .val (.long ((own_hq1 q2) + (0 : Int64))), .second, .unset, .unset, .unset, .unset, .unset]) rfl ?_
    show Steps p.tables e below (T5.setTop (mkF m 118 #[.val (.int p1), .val (.long q2), .second, .val (.int p3), .val (.int p4), .val (.int (p4 &&& (3 : Int32))), .val (.double (own_sc p4)), .second, .val (.int (p1 &&& (3 : Int32))), .val (.long (own_H q2)), .second, .val (.long (own_dl p3)), .second, .val (.long (own_q q2)), .second, .val (.long (own_r q2)), .second, .val (.long (140737488355328 : Int64)), .second, .val (.long (0 : Int64)), .second, .val (.long ((own_hq1 q2) + (0 : Int64))), .second, .unset, .unset, .unset, .unset, .unset] [])) _
    refine XS.lload X5.here hx rfl (hb hby at_118) rfl ?_
    refine XS.l2dS X5.here hx rfl (hb hby at_120) rfl rfl ?_
    show Steps p.tables e below (T5.setTop (mkF m 121 #[.val (.int p1), .val (.long q2), .second, .val (.int p3), .val (.int p4), .val (.int (p4 &&& (3 : Int32))), .val (.double (own_sc p4)), .second, .val (.int (p1 &&& (3 : Int32))), .val (.long (own_H q2)), .second, .val (.long (own_dl p3)), .second, .val (.long (own_q q2)), .second, .val (.long (own_r q2)), .second, .val (.long (140737488355328 : Int64)), .second, .val (.long (0 : Int64)), .second, .val (.long ((own_hq1 q2) + (0 : Int64))), .second, .unset, .unset, .unset, .unset, .unset] [(.double (FP.l2d (own_H q2)))])) _
    refine XS.dload X5.here hx rfl (hb hby at_121) rfl ?_
    refine XS.dmulS X5.here hx rfl (hb hby at_123) rfl hnn123 rfl ?_
    show Steps p.tables e below (T5.setTop (mkF m 124 #[.val (.int p1), .val (.long q2), .second, .val (.int p3), .val (.int p4), .val (.int (p4 &&& (3 : Int32))), .val (.double (own_sc p4)), .second, .val (.int (p1 &&& (3 : Int32))), .val (.long (own_H q2)), .second, .val (.long (own_dl p3)), .second, .val (.long (own_q q2)), .second, .val (.long (own_r q2)), .second, .val (.long (140737488355328 : Int64)), .second, .val (.long (0 : Int64)), .second, .val (.long ((own_hq1 q2) + (0 : Int64))), .second, .unset, .unset, .unset, .unset, .unset] [(.double (FP.dmul (FP.l2d (own_H q2)) (own_sc p4)))])) _
    refine XS.dstore X5.here hx rfl (hb hby at_124) rfl (l' := #[.val (.int p1), .val (.long q2), .second, .val (.int p3), .val (.int p4), .val (.int (p4 &&& (3 : Int32))), .val (.double (own_sc p4)), .second, .val (.int (p1 &&& (3 : Int32))), .val (.long (own_H q2)), .second, .val (.long (own_dl p3)), .second, .val (.long (own_q q2)), .second, .val (.long (own_r q2)), .second, .val (.long (140737488355328 : Int64)), .second, .val (.long (0 : Int64)), .second, .val (.long ((own_hq1 q2) + (0 : Int64))), .second, .val (.double (FP.dmul (FP.l2d (own_H q2)) (own_sc p4))), .second, .unset, .unset, .unset]) rfl ?_
    refine XS.lload X5.here hx rfl (hb hby at_126) rfl ?_
    show Steps p.tables e below (T5.setTop (mkF m 128 #[.val (.int p1), .val (.long q2), .second, .val (.int p3), .val (.int p4), .val (.int (p4 &&& (3 : Int32))), .val (.double (own_sc p4)), .second, .val (.int (p1 &&& (3 : Int32))), .val (.long (own_H q2)), .second, .val (.long (own_dl p3)), .second, .val (.long (own_q q2)), .second, .val (.long (own_r q2)), .second, .val (.long (140737488355328 : Int64)), .second, .val (.long (0 : Int64)), .second, .val (.long ((own_hq1 q2) + (0 : Int64))), .second, .val (.double (FP.dmul (FP.l2d (own_H q2)) (own_sc p4))), .second, .unset, .unset, .unset] [(.long (own_H q2))])) _
    refine XS.lload X5.here hx rfl (hb hby at_128) rfl ?_
    refine XS.ladd X5.here hx rfl (hb hby at_130) rfl ?_
    show Steps p.tables e below (T5.setTop (mkF m 131 #[.val (.int p1), .val (.long q2), .second, .val (.int p3), .val (.int p4), .val (.int (p4 &&& (3 : Int32))), .val (.double (own_sc p4)), .second, .val (.int (p1 &&& (3 : Int32))), .val (.long (own_H q2)), .second, .val (.long (own_dl p3)), .second, .val (.long (own_q q2)), .second, .val (.long (own_r q2)), .second, .val (.long (140737488355328 : Int64)), .second, .val (.long (0 : Int64)), .second, .val (.long ((own_hq1 q2) + (0 : Int64))), .second, .val (.double (FP.dmul (FP.l2d (own_H q2)) (own_sc p4))), .second, .unset, .unset, .unset] [(.long (own_m q2 p3))])) _
    refine XS.l2dS X5.here hx rfl (hb hby at_131) rfl rfl ?_
    refine XS.dload X5.here hx rfl (hb hby at_132) rfl ?_
    show Steps p.tables e below (T5.setTop (mkF m 134 #[.val (.int p1), .val (.long q2), .second, .val (.int p3), .val (.int p4), .val (.int (p4 &&& (3 : Int32))), .val (.double (own_sc p4)), .second, .val (.int (p1 &&& (3 : Int32))), .val (.long (own_H q2)), .second, .val (.long (own_dl p3)), .second, .val (.long (own_q q2)), .second, .val (.long (own_r q2)), .second, .val (.long (140737488355328 : Int64)), .second, .val (.long (0 : Int64)), .second, .val (.long ((own_hq1 q2) + (0 : Int64))), .second, .val (.double (FP.dmul (FP.l2d (own_H q2)) (own_sc p4))), .second, .unset, .unset, .unset] [(.double (own_sc p4)), (.double (FP.l2d (own_m q2 p3)))])) _
    refine XS.dmulS X5.here hx rfl (hb hby at_134) rfl hnn134 rfl ?_
    refine XS.dstore X5.here hx rfl (hb hby at_135) rfl (l' := #[.val (.int p1), .val (.long q2), .second, .val (.int p3), .val (.int p4), .val (.int (p4 &&& (3 : Int32))), .val (.double (own_sc p4)), .second, .val (.int (p1 &&& (3 : Int32))), .val (.long (own_H q2)), .second, .val (.long (own_dl p3)), .second, .val (.long (own_q q2)), .second, .val (.long (own_r q2)), .second, .val (.long (140737488355328 : Int64)), .second, .val (.long (0 : Int64)), .second, .val (.long ((own_hq1 q2) + (0 : Int64))), .second, .val (.double (FP.dmul (FP.l2d (own_H q2)) (own_sc p4))), .second, .val (.double (FP.dmul (FP.l2d (own_m q2 p3)) (own_sc p4))), .second, .unset]) rfl ?_
    show Steps p.tables e below (T5.setTop (mkF m 137 #[.val (.int p1), .val (.long q2), .second, .val (.int p3), .val (.int p4), .val (.int (p4 &&& (3 : Int32))), .val (.double (own_sc p4)), .second, .val (.int (p1 &&& (3 : Int32))), .val (.long (own_H q2)), .second, .val (.long (own_dl p3)), .second, .val (.long (own_q q2)), .second, .val (.long (own_r q2)), .second, .val (.long (140737488355328 : Int64)), .second, .val (.long (0 : Int64)), .second, .val (.long ((own_hq1 q2) + (0 : Int64))), .second, .val (.double (FP.dmul (FP.l2d (own_H q2)) (own_sc p4))), .second, .val (.double (FP.dmul (FP.l2d (own_m q2 p3)) (own_sc p4))), .second, .unset] [])) _
    refine XS.lload X5.here hx rfl (hb hby at_137) rfl ?_
    refine XS.lload X5.here hx rfl (hb hby at_139) rfl ?_
    show Steps p.tables e below (T5.setTop (mkF m 141 #[.val (.int p1), .val (.long q2), .second, .val (.int p3), .val (.int p4), .val (.int (p4 &&& (3 : Int32))), .val (.double (own_sc p4)), .second, .val (.int (p1 &&& (3 : Int32))), .val (.long (own_H q2)), .second, .val (.long (own_dl p3)), .second, .val (.long (own_q q2)), .second, .val (.long (own_r q2)), .second, .val (.long (140737488355328 : Int64)), .second, .val (.long (0 : Int64)), .second, .val (.long ((own_hq1 q2) + (0 : Int64))), .second, .val (.double (FP.dmul (FP.l2d (own_H q2)) (own_sc p4))), .second, .val (.double (FP.dmul (FP.l2d (own_m q2 p3)) (own_sc p4))), .second, .unset] [(.long (own_dl p3)), (.long (own_H q2))])) _
    refine XS.ladd X5.here hx rfl (hb hby at_141) rfl ?_
    refine XS.lload X5.here hx rfl (hb hby at_142) rfl ?_
    show Steps p.tables e below (T5.setTop (mkF m 144 #[.val (.int p1), .val (.long q2), .second, .val (.int p3), .val (.int p4), .val (.int (p4 &&& (3 : Int32))), .val (.double (own_sc p4)), .second, .val (.int (p1 &&& (3 : Int32))), .val (.long (own_H q2)), .second, .val (.long (own_dl p3)), .second, .val (.long (own_q q2)), .second, .val (.long (own_r q2)), .second, .val (.long (140737488355328 : Int64)), .second, .val (.long (0 : Int64)), .second, .val (.long ((own_hq1 q2) + (0 : Int64))), .second, .val (.double (FP.dmul (FP.l2d (own_H q2)) (own_sc p4))), .second, .val (.double (FP.dmul (FP.l2d (own_m q2 p3)) (own_sc p4))), .second, .unset] [(.long ((own_hq1 q2) + (0 : Int64))), (.long (own_m q2 p3))])) _
    refine XS.lcmp X5.here hx rfl (hb hby at_144) rfl ?_
    refine XS.ifNo X5.here hx rfl (hb hby at_145) rfl ((if0 _ _).trans (tlt hc145).2.2.2) ?_
    show Steps p.tables e below (T5.setTop (mkF m 148 #[.val (.int p1), .val (.long q2), .second, .val (.int p3), .val (.int p4), .val (.int (p4 &&& (3 : Int32))), .val (.double (own_sc p4)), .second, .val (.int (p1 &&& (3 : Int32))), .val (.long (own_H q2)), .second, .val (.long (own_dl p3)), .second, .val (.long (own_q q2)), .second, .val (.long (own_r q2)), .second, .val (.long (140737488355328 : Int64)), .second, .val (.long (0 : Int64)), .second, .val (.long ((own_hq1 q2) + (0 : Int64))), .second, .val (.double (FP.dmul (FP.l2d (own_H q2)) (own_sc p4))), .second, .val (.double (FP.dmul (FP.l2d (own_m q2 p3)) (own_sc p4))), .second, .unset] [])) _
    refine XS.iconst X5.here hx rfl (hb hby at_148) ?_
    refine XS.goto X5.here hx rfl (pc0 := 149) (pc' := 153) rfl (hb hby at_149) (by decide) (by decide) ?_
    show Steps p.tables e below (T5.setTop (mkF m 153 #[.val (.int p1), .val (.long q2), .second, .val (.int p3), .val (.int p4), .val (.int (p4 &&& (3 : Int32))), .val (.double (own_sc p4)), .second, .val (.int (p1 &&& (3 : Int32))), .val (.long (own_H q2)), .second, .val (.long (own_dl p3)), .second, .val (.long (own_q q2)), .second, .val (.long (own_r q2)), .second, .val (.long (140737488355328 : Int64)), .second, .val (.long (0 : Int64)), .second, .val (.long ((own_hq1 q2) + (0 : Int64))), .second, .val (.double (FP.dmul (FP.l2d (own_H q2)) (own_sc p4))), .second, .val (.double (FP.dmul (FP.l2d (own_m q2 p3)) (own_sc p4))), .second, .unset] [(.int (1 : Int32))])) _
    refine XS.istore X5.here hx rfl (hb hby at_153) rfl (l' := #[.val (.int p1), .val (.long q2), .second, .val (.int p3), .val (.int p4), .val (.int (p4 &&& (3 : Int32))), .val (.double (own_sc p4)), .second, .val (.int (p1 &&& (3 : Int32))), .val (.long (own_H q2)), .second, .val (.long (own_dl p3)), .second, .val (.long (own_q q2)), .second, .val (.long (own_r q2)), .second, .val (.long (140737488355328 : Int64)), .second, .val (.long (0 : Int64)), .second, .val (.long ((own_hq1 q2) + (0 : Int64))), .second, .val (.double (FP.dmul (FP.l2d (own_H q2)) (own_sc p4))), .second, .val (.double (FP.dmul (FP.l2d (own_m q2 p3)) (own_sc p4))), .second, .val (.int (1 : Int32))]) rfl ?_
    refine XS.dload X5.here hx rfl (hb hby at_155) rfl ?_
    show Steps p.tables e below (T5.setTop (mkF m 157 #[.val (.int p1), .val (.long q2), .second, .val (.int p3), .val (.int p4), .val (.int (p4 &&& (3 : Int32))), .val (.double (own_sc p4)), .second, .val (.int (p1 &&& (3 : Int32))), .val (.long (own_H q2)), .second, .val (.long (own_dl p3)), .second, .val (.long (own_q q2)), .second, .val (.long (own_r q2)), .second, .val (.long (140737488355328 : Int64)), .second, .val (.long (0 : Int64)), .second, .val (.long ((own_hq1 q2) + (0 : Int64))), .second, .val (.double (FP.dmul (FP.l2d (own_H q2)) (own_sc p4))), .second, .val (.double (FP.dmul (FP.l2d (own_m q2 p3)) (own_sc p4))), .second, .val (.int (1 : Int32))] [(.double (FP.dmul (FP.l2d (own_m q2 p3)) (own_sc p4)))])) _
    refine XS.dload X5.here hx rfl (hb hby at_157) rfl ?_
    show Steps p.tables e below (T5.setTop (mkF m 159 #[.val (.int p1), .val (.long q2), .second, .val (.int p3), .val (.int p4), .val (.int (p4 &&& (3 : Int32))), .val (.double (own_sc p4)), .second, .val (.int (p1 &&& (3 : Int32))), .val (.long (own_H q2)), .second, .val (.long (own_dl p3)), .second, .val (.long (own_q q2)), .second, .val (.long (own_r q2)), .second, .val (.long (140737488355328 : Int64)), .second, .val (.long (0 : Int64)), .second, .val (.long ((own_hq1 q2) + (0 : Int64))), .second, .val (.double (FP.dmul (FP.l2d (own_H q2)) (own_sc p4))), .second, .val (.double (FP.dmul (FP.l2d (own_m q2 p3)) (own_sc p4))), .second, .val (.int (1 : Int32))] [(.double (FP.dmul (FP.l2d (own_H q2)) (own_sc p4))), (.double (FP.dmul (FP.l2d (own_m q2 p3)) (own_sc p4)))])) _
    refine st6 _ ?_
    show Steps p.tables e below (T6.setTop (mkF m 162 #[.val (.int p1), .val (.long q2), .second, .val (.int p3), .val (.int p4), .val (.int (p4 &&& (3 : Int32))), .val (.double (own_sc p4)), .second, .val (.int (p1 &&& (3 : Int32))), .val (.long (own_H q2)), .second, .val (.long (own_dl p3)), .second, .val (.long (own_q q2)), .second, .val (.long (own_r q2)), .second, .val (.long (140737488355328 : Int64)), .second, .val (.long (0 : Int64)), .second, .val (.long ((own_hq1 q2) + (0 : Int64))), .second, .val (.double (FP.dmul (FP.l2d (own_H q2)) (own_sc p4))), .second, .val (.double (FP.dmul (FP.l2d (own_m q2 p3)) (own_sc p4))), .second, .val (.int (1 : Int32))] [(.int (own_ich (FP.dmul (FP.l2d (own_m q2 p3)) (own_sc p4)) (FP.dmul (FP.l2d (own_H q2)) (own_sc p4))))])) _
    refine XS.iload X6.here hx rfl (hb hby at_162) rfl ?_
    refine XS.icmpNo X6.here hx rfl (hb hby at_164) rfl (teq (own_fin1 (own_u2 hc66 hc80) hc145 : (own_ich (FP.dmul (FP.l2d (own_m q2 p3)) (own_sc p4)) (FP.dmul (FP.l2d (own_H q2)) (own_sc p4))) = (1 : Int32))).2 ?_
    show Steps p.tables e below (T6.setTop (mkF m 167 #[.val (.int p1), .val (.long q2), .second, .val (.int p3), .val (.int p4), .val (.int (p4 &&& (3 : Int32))), .val (.double (own_sc p4)), .second, .val (.int (p1 &&& (3 : Int32))), .val (.long (own_H q2)), .second, .val (.long (own_dl p3)), .second, .val (.long (own_q q2)), .second, .val (.long (own_r q2)), .second, .val (.long (140737488355328 : Int64)), .second, .val (.long (0 : Int64)), .second, .val (.long ((own_hq1 q2) + (0 : Int64))), .second, .val (.double (FP.dmul (FP.l2d (own_H q2)) (own_sc p4))), .second, .val (.double (FP.dmul (FP.l2d (own_m q2 p3)) (own_sc p4))), .second, .val (.int (1 : Int32))] [])) _
    refine XS.iconst X6.here hx rfl (hb hby at_167) ?_
    refine XS.goto X6.here hx rfl (pc0 := 168) (pc' := 172) rfl (hb hby at_168) (by decide) (by decide) ?_
    show Steps p.tables e below (T6.setTop (mkF m 172 #[.val (.int p1), .val (.long q2), .second, .val (.int p3), .val (.int p4), .val (.int (p4 &&& (3 : Int32))), .val (.double (own_sc p4)), .second, .val (.int (p1 &&& (3 : Int32))), .val (.long (own_H q2)), .second, .val (.long (own_dl p3)), .second, .val (.long (own_q q2)), .second, .val (.long (own_r q2)), .second, .val (.long (140737488355328 : Int64)), .second, .val (.long (0 : Int64)), .second, .val (.long ((own_hq1 q2) + (0 : Int64))), .second, .val (.double (FP.dmul (FP.l2d (own_H q2)) (own_sc p4))), .second, .val (.double (FP.dmul (FP.l2d (own_m q2 p3)) (own_sc p4))), .second, .val (.int (1 : Int32))] [(.int (1 : Int32))])) _
    exact retN X6 hx (t := .boolean) Bd.returns (by simp) (hb hby at_172) hr
  · show Q0 Z p1 q2 p3 p4 h0 n0 _ T6.heap _
    exact ⟨rfl, N6⟩
set_option maxRecDepth 65536 in
set_option maxHeartbeats 40000000 in
theorem rm0_a2f (l : Launch) (Z : State) (a0 : Array Value) (hw : ∀ d ∈ tables_1, d.before a0 Z = true) (ws : List Jvm.Cond) (p1 : Int32) (q2 : Int64) (p3 : Int32) (p4 : Int32) (h0 : Heap) (n0 : Nat) (Z0 : n0 ≤ h0.size) (hc31 : (p1 &&& (3 : Int32)) = (0 : Int32)) (hc66 : ¬ ((0 : Int32) < (lcmpW (own_r q2) (140737488355328 : Int64)))) (hc80 : (lcmpW (own_r q2) (140737488355328 : Int64)) < (0 : Int32)) (hc145 : ¬ ((0 : Int32) < (lcmpW (own_m q2 p3) ((own_hq1 q2) + (0 : Int64))))) :
    MetFree l x (head1 (Jvm.Cond.code x code maxLocals ret :: ws) room_1) (fun a U => a = #[(.int p1), (.long q2), (.int p3), (.int p4)] ∧ Z.Warmed39 U.vm ∧ U.heap = h0) (fun _ _ _ _ _ => True) (fun _ U o U' => ∃ v L, o = .returned v ∧ Q0 Z p1 q2 p3 p4 h0 n0 v U'.heap L ∧ FrameEnd U o U' L room_1.cells room_1.slots) := by
  have hnz37 : ¬ ((64 : Int32) = (0 : Int32)) := by decide
  have hnn123 : Jvm.Free.Fl.NoNaN64 (FP.dmul (FP.l2d (own_H q2)) (own_sc p4)) := own_nn _ _
  have hnn134 : Jvm.Free.Fl.NoNaN64 (FP.dmul (FP.l2d (own_m q2 p3)) (own_sc p4)) := own_nn _ _
  refine MetFree.of_bodySF (plainFor_of_name pn_0) hisR ?_
  intro p e s m args below meth c s₁ Bd hml0 hP hK
  obtain ⟨rfl, hZ, hh⟩ := hP
  have hx := Bd.exec
  have hby := Bd.bytes
  have hml : c.maxLocals = 28 := hml0
  have hown : s.vm.findClass "com/example/level_ring/levelring/placement/MembersIsCertainlyHigherPinLaw" = some m.cls := findClass_of_methodNamed Bd.named
  have hnm := (name_of_methodNamed Bd.named Bd.method).1
  have X0 : Stand p l e room_1 s m #[(.int p1), (.long q2), (.int p3), (.int p4)] below meth c s₁ [] 0 0 := Stand.of_body Bd
  have e0 : s₁.heap = h0 := by rw [← hh, Bd.state]; rfl
  have N0 := Fr.nil n0
  have pre0 : ∀ t, Steps p.tables e below (s₁.setTop (mkF m 0 #[.val (.int p1), .val (.long q2), .second, .val (.int p3), .val (.int p4), .unset, .unset, .unset, .unset, .unset, .unset, .unset, .unset, .unset, .unset, .unset, .unset, .unset, .unset, .unset, .unset, .unset, .unset, .unset, .unset, .unset, .unset, .unset] [])) t → Steps p.tables e below (s₁.setTop (entryFrame m #[(.int p1), (.long q2), (.int p3), (.int p4)] maxLocals)) t := fun t k => castTop (ef_0 m p1 q2 p3 p4) k
  -- 3. LAWS
  -- pc 8: com/example/level_ring/levelring/placement/MembersIsCertainlyHigherPinLaw.scaleOf by its contract rm1
  obtain ⟨_, _, ⟨T5, L5, k5, n5⟩, -, X5, ⟨Lc5, hQ5, l5, y5, z5⟩, st5⟩ := Jvm.LawKit.callS X0 hx (y := (⟨"com/example/level_ring/levelring/placement/MembersIsCertainlyHigherPinLaw", "scaleOf", "(I)D"⟩ : MethodName)) hown (mvT hZ (hw _ (List.mem_of_getElem? (i := 0) rfl))) (mvT hZ (hw _ (List.mem_of_getElem? (i := 1) rfl))) (mvT hZ (hw _ (List.mem_of_getElem? (i := 2) rfl))) (mvT hZ (hw _ (List.mem_of_getElem? (i := 3) rfl))) (by decide) (backOf (W := 0) (rm1 l Z a0 hw [] (p4 &&& (3 : Int32))  h0 n0 Z0) hZ (hw _ (List.mem_of_getElem? (i := 3) rfl)) (hw _ (List.mem_of_getElem? (i := 2) rfl)) (by decide) (by decide)) (g := (mkF m 8 #[.val (.int p1), .val (.long q2), .second, .val (.int p3), .val (.int p4), .val (.int (p4 &&& (3 : Int32))), .unset, .unset, .unset, .unset, .unset, .unset, .unset, .unset, .unset, .unset, .unset, .unset, .unset, .unset, .unset, .unset, .unset, .unset, .unset, .unset, .unset, .unset] [(.int (p4 &&& (3 : Int32)))])) rfl (by rw [hml]; rfl) (argsL := [(.int (p4 &&& (3 : Int32)))]) (rest := []) (lenOf pdw_0 rfl) rfl (by show 2 * 0 + _ ≤ _; exact Nat.le_of_eq rfl) (hb hby at_8) (fun _ _ => ⟨rfl, e0, (by decide : 0 + 0 ≤ _), (by decide : 0 + 0 ≤ _)⟩)
  dsimp only [Pt.U, Pt.locs, Pt.cells, Pt.slots] at X5 l5 y5 z5 st5 hQ5
  subst l5 y5 z5
  obtain ⟨rfl, N5q, hh5⟩ := hQ5
  have N5 := Fr.app N0 N5q
  -- pc 159: com/example/level_ring/levelring/placement/Members.isCertainlyHigher by its contract rm2
  obtain ⟨_, _, ⟨T6, L6, k6, n6⟩, -, X6, ⟨Lc6, hQ6, l6, y6, z6⟩, st6⟩ := Jvm.LawKit.callS X5 hx (y := (⟨"com/example/level_ring/levelring/placement/Members", "isCertainlyHigher", "(DD)Z"⟩ : MethodName)) hown (mvT hZ (hw _ (List.mem_of_getElem? (i := 8) rfl))) (mvT hZ (hw _ (List.mem_of_getElem? (i := 9) rfl))) (mvT hZ (hw _ (List.mem_of_getElem? (i := 10) rfl))) (mvT hZ (hw _ (List.mem_of_getElem? (i := 11) rfl))) (by decide) (backOf (W := 0) (rm2 l Z a0 hw [] (FP.dmul (FP.l2d (own_m q2 p3)) (own_sc p4)) (FP.dmul (FP.l2d (own_H q2)) (own_sc p4))  h0 n0 Z0 (dmul_out (own_ms_fin _ (by have := own_H_rng q2; omega)) own_C_fin)) hZ (hw _ (List.mem_of_getElem? (i := 11) rfl)) (hw _ (List.mem_of_getElem? (i := 10) rfl)) (by decide) (by decide)) (g := (mkF m 159 #[.val (.int p1), .val (.long q2), .second, .val (.int p3), .val (.int p4), .val (.int (p4 &&& (3 : Int32))), .val (.double (own_sc p4)), .second, .val (.int (p1 &&& (3 : Int32))), .val (.long (own_H q2)), .second, .val (.long (own_dl p3)), .second, .val (.long (own_q q2)), .second, .val (.long (own_r q2)), .second, .val (.long (140737488355328 : Int64)), .second, .val (.long (0 : Int64)), .second, .val (.long ((own_hq1 q2) + (0 : Int64))), .second, .val (.double (FP.dmul (FP.l2d (own_H q2)) (own_sc p4))), .second, .val (.double (FP.dmul (FP.l2d (own_m q2 p3)) (own_sc p4))), .second, .val (.int (0 : Int32))] [(.double (FP.dmul (FP.l2d (own_H q2)) (own_sc p4))), (.double (FP.dmul (FP.l2d (own_m q2 p3)) (own_sc p4)))])) rfl (by rw [hml]; rfl) (argsL := [(.double (FP.dmul (FP.l2d (own_m q2 p3)) (own_sc p4))), (.double (FP.dmul (FP.l2d (own_H q2)) (own_sc p4)))]) (rest := []) (lenOf pdw_1 rfl) rfl (by show 2 * 0 + _ ≤ _; exact Nat.le_of_eq rfl) (hb hby at_159) (fun _ _ => ⟨rfl, hh5, (by decide : 0 + 0 ≤ _), (by decide : 0 + 0 ≤ _)⟩)
  dsimp only [Pt.U, Pt.locs, Pt.cells, Pt.slots] at X6 l6 y6 z6 st6 hQ6
  subst l6 y6 z6
  obtain ⟨rfl, N6q, hh6⟩ := hQ6
  have N6 := Fr.app N5 N6q
  obtain ⟨fs, hr, hrun, hended, hW, hsame⟩ := X6.leave (v := some (.int (1 : Int32))) (fun h => by rw [Bd.returns] at h; cases h)
  refine ⟨_, _, pre0 _ ?_, hrun, hended, _, _, rfl, ?_, ⟨_, rfl⟩, hW, hsame.mono (by decide) (by decide)⟩
  -- 4. STEPS
  · show Steps p.tables e below (s₁.setTop (mkF m 0 #[.val (.int p1), .val (.long q2), .second, .val (.int p3), .val (.int p4), .unset, .unset, .unset, .unset, .unset, .unset, .unset, .unset, .unset, .unset, .unset, .unset, .unset, .unset, .unset, .unset, .unset, .unset, .unset, .unset, .unset, .unset, .unset] [])) _
    refine XS.iload X0.here hx rfl (hb hby at_0) rfl ?_
    refine XS.iconst X0.here hx rfl (hb hby at_2) ?_
    show Steps p.tables e below (s₁.setTop (mkF m 3 #[.val (.int p1), .val (.long q2), .second, .val (.int p3), .val (.int p4), .unset, .unset, .unset, .unset, .unset, .unset, .unset, .unset, .unset, .unset, .unset, .unset, .unset, .unset, .unset, .unset, .unset, .unset, .unset, .unset, .unset, .unset, .unset] [(.int (3 : Int32)), (.int p4)])) _
    refine XS.iand X0.here hx rfl (hb hby at_3) rfl ?_
    refine XS.istore X0.here hx rfl (hb hby at_4) rfl (l' := #[.val (.int p1), .val (.long q2), .second, .val (.int p3), .val (.int p4), .val (.int (p4 &&& (3 : Int32))), .unset, .unset, .unset, .unset, .unset, .unset, .unset, .unset, .unset, .unset, .unset, .unset, .unset, .unset, .unset, .unset, .unset, .unset, .unset, .unset, .unset, .unset]) rfl ?_
    show Steps p.tables e below (s₁.setTop (mkF m 6 #[.val (.int p1), .val (.long q2), .second, .val (.int p3), .val (.int p4), .val (.int (p4 &&& (3 : Int32))), .unset, .unset, .unset, .unset, .unset, .unset, .unset, .unset, .unset, .unset, .unset, .unset, .unset, .unset, .unset, .unset, .unset, .unset, .unset, .unset, .unset, .unset] [])) _
    refine XS.iload X0.here hx rfl (hb hby at_6) rfl ?_
    show Steps p.tables e below (s₁.setTop (mkF m 8 #[.val (.int p1), .val (.long q2), .second, .val (.int p3), .val (.int p4), .val (.int (p4 &&& (3 : Int32))), .unset, .unset, .unset, .unset, .unset, .unset, .unset, .unset, .unset, .unset, .unset, .unset, .unset, .unset, .unset, .unset, .unset, .unset, .unset, .unset, .unset, .unset] [(.int (p4 &&& (3 : Int32)))])) _
    refine st5 _ ?_
    show Steps p.tables e below (T5.setTop (mkF m 11 #[.val (.int p1), .val (.long q2), .second, .val (.int p3), .val (.int p4), .val (.int (p4 &&& (3 : Int32))), .unset, .unset, .unset, .unset, .unset, .unset, .unset, .unset, .unset, .unset, .unset, .unset, .unset, .unset, .unset, .unset, .unset, .unset, .unset, .unset, .unset, .unset] [(.double (own_sc p4))])) _
    refine XS.dstore X5.here hx rfl (hb hby at_11) rfl (l' := #[.val (.int p1), .val (.long q2), .second, .val (.int p3), .val (.int p4), .val (.int (p4 &&& (3 : Int32))), .val (.double (own_sc p4)), .second, .unset, .unset, .unset, .unset, .unset, .unset, .unset, .unset, .unset, .unset, .unset, .unset, .unset, .unset, .unset, .unset, .unset, .unset, .unset, .unset]) rfl ?_
    refine XS.iloadN X5.here hx rfl (hb hby at_13) rfl ?_
    show Steps p.tables e below (T5.setTop (mkF m 14 #[.val (.int p1), .val (.long q2), .second, .val (.int p3), .val (.int p4), .val (.int (p4 &&& (3 : Int32))), .val (.double (own_sc p4)), .second, .unset, .unset, .unset, .unset, .unset, .unset, .unset, .unset, .unset, .unset, .unset, .unset, .unset, .unset, .unset, .unset, .unset, .unset, .unset, .unset] [(.int p1)])) _
    refine XS.iconst X5.here hx rfl (hb hby at_14) ?_
    refine XS.iand X5.here hx rfl (hb hby at_15) rfl ?_
    show Steps p.tables e below (T5.setTop (mkF m 16 #[.val (.int p1), .val (.long q2), .second, .val (.int p3), .val (.int p4), .val (.int (p4 &&& (3 : Int32))), .val (.double (own_sc p4)), .second, .unset, .unset, .unset, .unset, .unset, .unset, .unset, .unset, .unset, .unset, .unset, .unset, .unset, .unset, .unset, .unset, .unset, .unset, .unset, .unset] [(.int (p1 &&& (3 : Int32)))])) _
    refine XS.istore X5.here hx rfl (hb hby at_16) rfl (l' := #[.val (.int p1), .val (.long q2), .second, .val (.int p3), .val (.int p4), .val (.int (p4 &&& (3 : Int32))), .val (.double (own_sc p4)), .second, .val (.int (p1 &&& (3 : Int32))), .unset, .unset, .unset, .unset, .unset, .unset, .unset, .unset, .unset, .unset, .unset, .unset, .unset, .unset, .unset, .unset, .unset, .unset, .unset]) rfl ?_
    show Steps p.tables e below (T5.setTop (mkF m 18 #[.val (.int p1), .val (.long q2), .second, .val (.int p3), .val (.int p4), .val (.int (p4 &&& (3 : Int32))), .val (.double (own_sc p4)), .second, .val (.int (p1 &&& (3 : Int32))), .unset, .unset, .unset, .unset, .unset, .unset, .unset, .unset, .unset, .unset, .unset, .unset, .unset, .unset, .unset, .unset, .unset, .unset, .unset] [])) _
    refine X5.ldc2Long hx hown (mvT hZ (hw _ (List.mem_of_getElem? (i := 4) rfl))) (g := (mkF m 18 #[.val (.int p1), .val (.long q2), .second, .val (.int p3), .val (.int p4), .val (.int (p4 &&& (3 : Int32))), .val (.double (own_sc p4)), .second, .val (.int (p1 &&& (3 : Int32))), .unset, .unset, .unset, .unset, .unset, .unset, .unset, .unset, .unset, .unset, .unset, .unset, .unset, .unset, .unset, .unset, .unset, .unset, .unset] [])) rfl (hb hby at_18) _ ?_
    show Steps p.tables e below (T5.setTop (mkF m 21 #[.val (.int p1), .val (.long q2), .second, .val (.int p3), .val (.int p4), .val (.int (p4 &&& (3 : Int32))), .val (.double (own_sc p4)), .second, .val (.int (p1 &&& (3 : Int32))), .unset, .unset, .unset, .unset, .unset, .unset, .unset, .unset, .unset, .unset, .unset, .unset, .unset, .unset, .unset, .unset, .unset, .unset, .unset] [(.long (4503599627370496 : Int64))])) _
    refine XS.lloadN X5.here hx rfl (hb hby at_21) rfl ?_
    show Steps p.tables e below (T5.setTop (mkF m 22 #[.val (.int p1), .val (.long q2), .second, .val (.int p3), .val (.int p4), .val (.int (p4 &&& (3 : Int32))), .val (.double (own_sc p4)), .second, .val (.int (p1 &&& (3 : Int32))), .unset, .unset, .unset, .unset, .unset, .unset, .unset, .unset, .unset, .unset, .unset, .unset, .unset, .unset, .unset, .unset, .unset, .unset, .unset] [(.long q2), (.long (4503599627370496 : Int64))])) _
    refine X5.ldc2Long hx hown (mvT hZ (hw _ (List.mem_of_getElem? (i := 5) rfl))) (g := (mkF m 22 #[.val (.int p1), .val (.long q2), .second, .val (.int p3), .val (.int p4), .val (.int (p4 &&& (3 : Int32))), .val (.double (own_sc p4)), .second, .val (.int (p1 &&& (3 : Int32))), .unset, .unset, .unset, .unset, .unset, .unset, .unset, .unset, .unset, .unset, .unset, .unset, .unset, .unset, .unset, .unset, .unset, .unset, .unset] [(.long q2), (.long (4503599627370496 : Int64))])) rfl (hb hby at_22) _ ?_
    show Steps p.tables e below (T5.setTop (mkF m 25 #[.val (.int p1), .val (.long q2), .second, .val (.int p3), .val (.int p4), .val (.int (p4 &&& (3 : Int32))), .val (.double (own_sc p4)), .second, .val (.int (p1 &&& (3 : Int32))), .unset, .unset, .unset, .unset, .unset, .unset, .unset, .unset, .unset, .unset, .unset, .unset, .unset, .unset, .unset, .unset, .unset, .unset, .unset] [(.long (2251799813685247 : Int64)), (.long q2), (.long (4503599627370496 : Int64))])) _
    refine XS.land X5.here hx rfl (hb hby at_25) rfl ?_
    refine XS.lor X5.here hx rfl (hb hby at_26) rfl ?_
    show Steps p.tables e below (T5.setTop (mkF m 27 #[.val (.int p1), .val (.long q2), .second, .val (.int p3), .val (.int p4), .val (.int (p4 &&& (3 : Int32))), .val (.double (own_sc p4)), .second, .val (.int (p1 &&& (3 : Int32))), .unset, .unset, .unset, .unset, .unset, .unset, .unset, .unset, .unset, .unset, .unset, .unset, .unset, .unset, .unset, .unset, .unset, .unset, .unset] [(.long (own_H q2))])) _
    refine XS.lstore X5.here hx rfl (hb hby at_27) rfl (l' := #[.val (.int p1), .val (.long q2), .second, .val (.int p3), .val (.int p4), .val (.int (p4 &&& (3 : Int32))), .val (.double (own_sc p4)), .second, .val (.int (p1 &&& (3 : Int32))), .val (.long (own_H q2)), .second, .unset, .unset, .unset, .unset, .unset, .unset, .unset, .unset, .unset, .unset, .unset, .unset, .unset, .unset, .unset, .unset, .unset]) rfl ?_
    refine XS.iload X5.here hx rfl (hb hby at_29) rfl ?_
    show Steps p.tables e below (T5.setTop (mkF m 31 #[.val (.int p1), .val (.long q2), .second, .val (.int p3), .val (.int p4), .val (.int (p4 &&& (3 : Int32))), .val (.double (own_sc p4)), .second, .val (.int (p1 &&& (3 : Int32))), .val (.long (own_H q2)), .second, .unset, .unset, .unset, .unset, .unset, .unset, .unset, .unset, .unset, .unset, .unset, .unset, .unset, .unset, .unset, .unset, .unset] [(.int (p1 &&& (3 : Int32)))])) _
    refine XS.ifNo X5.here hx rfl (hb hby at_31) rfl ((if0 _ _).trans (teq hc31).2) ?_
    refine XS.iloadN X5.here hx rfl (hb hby at_34) rfl ?_
    show Steps p.tables e below (T5.setTop (mkF m 35 #[.val (.int p1), .val (.long q2), .second, .val (.int p3), .val (.int p4), .val (.int (p4 &&& (3 : Int32))), .val (.double (own_sc p4)), .second, .val (.int (p1 &&& (3 : Int32))), .val (.long (own_H q2)), .second, .unset, .unset, .unset, .unset, .unset, .unset, .unset, .unset, .unset, .unset, .unset, .unset, .unset, .unset, .unset, .unset, .unset] [(.int p3)])) _
    refine XS.bipush X5.here hx rfl (hb hby at_35) ?_
    show Steps p.tables e below (T5.setTop (mkF m 37 #[.val (.int p1), .val (.long q2), .second, .val (.int p3), .val (.int p4), .val (.int (p4 &&& (3 : Int32))), .val (.double (own_sc p4)), .second, .val (.int (p1 &&& (3 : Int32))), .val (.long (own_H q2)), .second, .unset, .unset, .unset, .unset, .unset, .unset, .unset, .unset, .unset, .unset, .unset, .unset, .unset, .unset, .unset, .unset, .unset] [(.int (64 : Int32)), (.int p3)])) _
    refine own_irem X5.here hx rfl (hb hby at_37) rfl hnz37 ?_
    show Steps p.tables e below (T5.setTop (mkF m 38 #[.val (.int p1), .val (.long q2), .second, .val (.int p3), .val (.int p4), .val (.int (p4 &&& (3 : Int32))), .val (.double (own_sc p4)), .second, .val (.int (p1 &&& (3 : Int32))), .val (.long (own_H q2)), .second, .unset, .unset, .unset, .unset, .unset, .unset, .unset, .unset, .unset, .unset, .unset, .unset, .unset, .unset, .unset, .unset, .unset] [(.int (p3 % (64 : Int32)))])) _
    refine XS.i2l X5.here hx rfl (hb hby at_38) rfl ?_
    refine XS.lstore X5.here hx rfl (hb hby at_39) rfl (l' := #[.val (.int p1), .val (.long q2), .second, .val (.int p3), .val (.int p4), .val (.int (p4 &&& (3 : Int32))), .val (.double (own_sc p4)), .second, .val (.int (p1 &&& (3 : Int32))), .val (.long (own_H q2)), .second, .val (.long (own_dl p3)), .second, .unset, .unset, .unset, .unset, .unset, .unset, .unset, .unset, .unset, .unset, .unset, .unset, .unset, .unset, .unset]) rfl ?_
    show Steps p.tables e below (T5.setTop (mkF m 41 #[.val (.int p1), .val (.long q2), .second, .val (.int p3), .val (.int p4), .val (.int (p4 &&& (3 : Int32))), .val (.double (own_sc p4)), .second, .val (.int (p1 &&& (3 : Int32))), .val (.long (own_H q2)), .second, .val (.long (own_dl p3)), .second, .unset, .unset, .unset, .unset, .unset, .unset, .unset, .unset, .unset, .unset, .unset, .unset, .unset, .unset, .unset] [])) _
    refine XS.lload X5.here hx rfl (hb hby at_41) rfl ?_
    refine XS.bipush X5.here hx rfl (hb hby at_43) ?_
    show Steps p.tables e below (T5.setTop (mkF m 45 #[.val (.int p1), .val (.long q2), .second, .val (.int p3), .val (.int p4), .val (.int (p4 &&& (3 : Int32))), .val (.double (own_sc p4)), .second, .val (.int (p1 &&& (3 : Int32))), .val (.long (own_H q2)), .second, .val (.long (own_dl p3)), .second, .unset, .unset, .unset, .unset, .unset, .unset, .unset, .unset, .unset, .unset, .unset, .unset, .unset, .unset, .unset] [(.int (48 : Int32)), (.long (own_H q2))])) _
    refine XS.lushr X5.here hx rfl (hb hby at_45) rfl ?_
    refine XS.lstore X5.here hx rfl (hb hby at_46) rfl (l' := #[.val (.int p1), .val (.long q2), .second, .val (.int p3), .val (.int p4), .val (.int (p4 &&& (3 : Int32))), .val (.double (own_sc p4)), .second, .val (.int (p1 &&& (3 : Int32))), .val (.long (own_H q2)), .second, .val (.long (own_dl p3)), .second, .val (.long (own_q q2)), .second, .unset, .unset, .unset, .unset, .unset, .unset, .unset, .unset, .unset, .unset, .unset, .unset, .unset]) rfl ?_
    show Steps p.tables e below (T5.setTop (mkF m 48 #[.val (.int p1), .val (.long q2), .second, .val (.int p3), .val (.int p4), .val (.int (p4 &&& (3 : Int32))), .val (.double (own_sc p4)), .second, .val (.int (p1 &&& (3 : Int32))), .val (.long (own_H q2)), .second, .val (.long (own_dl p3)), .second, .val (.long (own_q q2)), .second, .unset, .unset, .unset, .unset, .unset, .unset, .unset, .unset, .unset, .unset, .unset, .unset, .unset] [])) _
    refine XS.lload X5.here hx rfl (hb hby at_48) rfl ?_
    show Steps p.tables e below (T5.setTop (mkF m 50 #[.val (.int p1), .val (.long q2), .second, .val (.int p3), .val (.int p4), .val (.int (p4 &&& (3 : Int32))), .val (.double (own_sc p4)), .second, .val (.int (p1 &&& (3 : Int32))), .val (.long (own_H q2)), .second, .val (.long (own_dl p3)), .second, .val (.long (own_q q2)), .second, .unset, .unset, .unset, .unset, .unset, .unset, .unset, .unset, .unset, .unset, .unset, .unset, .unset] [(.long (own_H q2))])) _
    refine X5.ldc2Long hx hown (mvT hZ (hw _ (List.mem_of_getElem? (i := 6) rfl))) (g := (mkF m 50 #[.val (.int p1), .val (.long q2), .second, .val (.int p3), .val (.int p4), .val (.int (p4 &&& (3 : Int32))), .val (.double (own_sc p4)), .second, .val (.int (p1 &&& (3 : Int32))), .val (.long (own_H q2)), .second, .val (.long (own_dl p3)), .second, .val (.long (own_q q2)), .second, .unset, .unset, .unset, .unset, .unset, .unset, .unset, .unset, .unset, .unset, .unset, .unset, .unset] [(.long (own_H q2))])) rfl (hb hby at_50) _ ?_
    show Steps p.tables e below (T5.setTop (mkF m 53 #[.val (.int p1), .val (.long q2), .second, .val (.int p3), .val (.int p4), .val (.int (p4 &&& (3 : Int32))), .val (.double (own_sc p4)), .second, .val (.int (p1 &&& (3 : Int32))), .val (.long (own_H q2)), .second, .val (.long (own_dl p3)), .second, .val (.long (own_q q2)), .second, .unset, .unset, .unset, .unset, .unset, .unset, .unset, .unset, .unset, .unset, .unset, .unset, .unset] [(.long (281474976710655 : Int64)), (.long (own_H q2))])) _
    refine XS.land X5.here hx rfl (hb hby at_53) rfl ?_
    refine XS.lstore X5.here hx rfl (hb hby at_54) rfl (l' := #[.val (.int p1), .val (.long q2), .second, .val (.int p3), .val (.int p4), .val (.int (p4 &&& (3 : Int32))), .val (.double (own_sc p4)), .second, .val (.int (p1 &&& (3 : Int32))), .val (.long (own_H q2)), .second, .val (.long (own_dl p3)), .second, .val (.long (own_q q2)), .second, .val (.long (own_r q2)), .second, .unset, .unset, .unset, .unset, .unset, .unset, .unset, .unset, .unset, .unset, .unset]) rfl ?_
    show Steps p.tables e below (T5.setTop (mkF m 56 #[.val (.int p1), .val (.long q2), .second, .val (.int p3), .val (.int p4), .val (.int (p4 &&& (3 : Int32))), .val (.double (own_sc p4)), .second, .val (.int (p1 &&& (3 : Int32))), .val (.long (own_H q2)), .second, .val (.long (own_dl p3)), .second, .val (.long (own_q q2)), .second, .val (.long (own_r q2)), .second, .unset, .unset, .unset, .unset, .unset, .unset, .unset, .unset, .unset, .unset, .unset] [])) _
    refine X5.ldc2Long hx hown (mvT hZ (hw _ (List.mem_of_getElem? (i := 7) rfl))) (g := (mkF m 56 #[.val (.int p1), .val (.long q2), .second, .val (.int p3), .val (.int p4), .val (.int (p4 &&& (3 : Int32))), .val (.double (own_sc p4)), .second, .val (.int (p1 &&& (3 : Int32))), .val (.long (own_H q2)), .second, .val (.long (own_dl p3)), .second, .val (.long (own_q q2)), .second, .val (.long (own_r q2)), .second, .unset, .unset, .unset, .unset, .unset, .unset, .unset, .unset, .unset, .unset, .unset] [])) rfl (hb hby at_56) _ ?_
    show Steps p.tables e below (T5.setTop (mkF m 59 #[.val (.int p1), .val (.long q2), .second, .val (.int p3), .val (.int p4), .val (.int (p4 &&& (3 : Int32))), .val (.double (own_sc p4)), .second, .val (.int (p1 &&& (3 : Int32))), .val (.long (own_H q2)), .second, .val (.long (own_dl p3)), .second, .val (.long (own_q q2)), .second, .val (.long (own_r q2)), .second, .unset, .unset, .unset, .unset, .unset, .unset, .unset, .unset, .unset, .unset, .unset] [(.long (140737488355328 : Int64))])) _
    refine XS.lstore X5.here hx rfl (hb hby at_59) rfl (l' := #[.val (.int p1), .val (.long q2), .second, .val (.int p3), .val (.int p4), .val (.int (p4 &&& (3 : Int32))), .val (.double (own_sc p4)), .second, .val (.int (p1 &&& (3 : Int32))), .val (.long (own_H q2)), .second, .val (.long (own_dl p3)), .second, .val (.long (own_q q2)), .second, .val (.long (own_r q2)), .second, .val (.long (140737488355328 : Int64)), .second, .unset, .unset, .unset, .unset, .unset, .unset, .unset, .unset, .unset]) rfl ?_
    refine XS.lload X5.here hx rfl (hb hby at_61) rfl ?_
    show Steps p.tables e below (T5.setTop (mkF m 63 #[.val (.int p1), .val (.long q2), .second, .val (.int p3), .val (.int p4), .val (.int (p4 &&& (3 : Int32))), .val (.double (own_sc p4)), .second, .val (.int (p1 &&& (3 : Int32))), .val (.long (own_H q2)), .second, .val (.long (own_dl p3)), .second, .val (.long (own_q q2)), .second, .val (.long (own_r q2)), .second, .val (.long (140737488355328 : Int64)), .second, .unset, .unset, .unset, .unset, .unset, .unset, .unset, .unset, .unset] [(.long (own_r q2))])) _
    refine XS.lload X5.here hx rfl (hb hby at_63) rfl ?_
    refine XS.lcmp X5.here hx rfl (hb hby at_65) rfl ?_
    show Steps p.tables e below (T5.setTop (mkF m 66 #[.val (.int p1), .val (.long q2), .second, .val (.int p3), .val (.int p4), .val (.int (p4 &&& (3 : Int32))), .val (.double (own_sc p4)), .second, .val (.int (p1 &&& (3 : Int32))), .val (.long (own_H q2)), .second, .val (.long (own_dl p3)), .second, .val (.long (own_q q2)), .second, .val (.long (own_r q2)), .second, .val (.long (140737488355328 : Int64)), .second, .unset, .unset, .unset, .unset, .unset, .unset, .unset, .unset, .unset] [(.int (lcmpW (own_r q2) (140737488355328 : Int64)))])) _
    refine XS.ifYes X5.here hx rfl (pc0 := 66) (pc' := 75) rfl (hb hby at_66) rfl ((if0 _ _).trans (flt hc66).2.2.2) (by decide) (by decide) ?_
    refine XS.lload X5.here hx rfl (hb hby at_75) rfl ?_
    show Steps p.tables e below (T5.setTop (mkF m 77 #[.val (.int p1), .val (.long q2), .second, .val (.int p3), .val (.int p4), .val (.int (p4 &&& (3 : Int32))), .val (.double (own_sc p4)), .second, .val (.int (p1 &&& (3 : Int32))), .val (.long (own_H q2)), .second, .val (.long (own_dl p3)), .second, .val (.long (own_q q2)), .second, .val (.long (own_r q2)), .second, .val (.long (140737488355328 : Int64)), .second, .unset, .unset, .unset, .unset, .unset, .unset, .unset, .unset, .unset] [(.long (own_r q2))])) _
    refine XS.lload X5.here hx rfl (hb hby at_77) rfl ?_
    refine XS.lcmp X5.here hx rfl (hb hby at_79) rfl ?_
    show Steps p.tables e below (T5.setTop (mkF m 80 #[.val (.int p1), .val (.long q2), .second, .val (.int p3), .val (.int p4), .val (.int (p4 &&& (3 : Int32))), .val (.double (own_sc p4)), .second, .val (.int (p1 &&& (3 : Int32))), .val (.long (own_H q2)), .second, .val (.long (own_dl p3)), .second, .val (.long (own_q q2)), .second, .val (.long (own_r q2)), .second, .val (.long (140737488355328 : Int64)), .second, .unset, .unset, .unset, .unset, .unset, .unset, .unset, .unset, .unset] [(.int (lcmpW (own_r q2) (140737488355328 : Int64)))])) _
    refine XS.ifNo X5.here hx rfl (hb hby at_80) rfl ((if0 _ _).trans (tlt hc80).2.1) ?_
    refine XS.lconst X5.here hx rfl (hb hby at_83) ?_
    show Steps p.tables e below (T5.setTop (mkF m 84 #[.val (.int p1), .val (.long q2), .second, .val (.int p3), .val (.int p4), .val (.int (p4 &&& (3 : Int32))), .val (.double (own_sc p4)), .second, .val (.int (p1 &&& (3 : Int32))), .val (.long (own_H q2)), .second, .val (.long (own_dl p3)), .second, .val (.long (own_q q2)), .second, .val (.long (own_r q2)), .second, .val (.long (140737488355328 : Int64)), .second, .unset, .unset, .unset, .unset, .unset, .unset, .unset, .unset, .unset] [(.long (0 : Int64))])) _
    refine XS.lstore X5.here hx rfl (hb hby at_84) rfl (l' := #[.val (.int p1), .val (.long q2), .second, .val (.int p3), .val (.int p4), .val (.int (p4 &&& (3 : Int32))), .val (.double (own_sc p4)), .second, .val (.int (p1 &&& (3 : Int32))), .val (.long (own_H q2)), .second, .val (.long (own_dl p3)), .second, .val (.long (own_q q2)), .second, .val (.long (own_r q2)), .second, .val (.long (140737488355328 : Int64)), .second, .val (.long (0 : Int64)), .second, .unset, .unset, .unset, .unset, .unset, .unset, .unset]) rfl ?_
    refine XS.goto X5.here hx rfl (pc0 := 86) (pc' := 108) rfl (hb hby at_86) (by decide) (by decide) ?_
    show Steps p.tables e below (T5.setTop (mkF m 108 #[.val (.int p1), .val (.long q2), .second, .val (.int p3), .val (.int p4), .val (.int (p4 &&& (3 : Int32))), .val (.double (own_sc p4)), .second, .val (.int (p1 &&& (3 : Int32))), .val (.long (own_H q2)), .second, .val (.long (own_dl p3)), .second, .val (.long (own_q q2)), .second, .val (.long (own_r q2)), .second, .val (.long (140737488355328 : Int64)), .second, .val (.long (0 : Int64)), .second, .unset, .unset, .unset, .unset, .unset, .unset, .unset] [])) _
    refine XS.lload X5.here hx rfl (hb hby at_108) rfl ?_
    refine XS.lload X5.here hx rfl (hb hby at_110) rfl ?_
    show Steps p.tables e below (T5.setTop (mkF m 112 #[.val (.int p1), .val (.long q2), .second, .val (.int p3), .val (.int p4), .val (.int (p4 &&& (3 : Int32))), .val (.double (own_sc p4)), .second, .val (.int (p1 &&& (3 : Int32))), .val (.long (own_H q2)), .second, .val (.long (own_dl p3)), .second, .val (.long (own_q q2)), .second, .val (.long (own_r q2)), .second, .val (.long (140737488355328 : Int64)), .second, .val (.long (0 : Int64)), .second, .unset, .unset, .unset, .unset, .unset, .unset, .unset] [(.long (own_q q2)), (.long (own_H q2))])) _
    refine XS.ladd X5.here hx rfl (hb hby at_112) rfl ?_
    refine XS.lload X5.here hx rfl (hb hby at_113) rfl ?_
    show Steps p.tables e below (T5.setTop (mkF m 115 #[.val (.int p1), .val (.long q2), .second, .val (.int p3), .val (.int p4), .val (.int (p4 &&& (3 : Int32))), .val (.double (own_sc p4)), .second, .val (.int (p1 &&& (3 : Int32))), .val (.long (own_H q2)), .second, .val (.long (own_dl p3)), .second, .val (.long (own_q q2)), .second, .val (.long (own_r q2)), .second, .val (.long (140737488355328 : Int64)), .second, .val (.long (0 : Int64)), .second, .unset, .unset, .unset, .unset, .unset, .unset, .unset] [(.long (0 : Int64)), (.long (own_hq1 q2))])) _
    refine XS.ladd X5.here hx rfl (hb hby at_115) rfl ?_
    refine XS.lstore X5.here hx rfl (hb hby at_116) rfl (l' := #[.val (.int p1), .val (.long q2), .second, .val (.int p3), .val (.int p4), .val (.int (p4 &&& (3 : Int32))), .val (.double (own_sc p4)), .second, .val (.int (p1 &&& (3 : Int32))), .val (.long (own_H q2)), .second, .val (.long (own_dl p3)), .second, .val (.long (own_q q2)), .second, .val (.long (own_r q2)), .second, .val (.long (140737488355328 : Int64)), .second, .val (.long (0 : Int64)), .second, .val (.long ((own_hq1 q2) + (0 : Int64))), .second, .unset, .unset, .unset, .unset, .unset]) rfl ?_
    show Steps p.tables e below (T5.setTop (mkF m 118 #[.val (.int p1), .val (.long q2), .second, .val (.int p3), .val (.int p4), .val (.int (p4 &&& (3 : Int32))), .val (.double (own_sc p4)), .second, .val (.int (p1 &&& (3 : Int32))), .val (.long (own_H q2)), .second, .val (.long (own_dl p3)), .second, .val (.long (own_q q2)), .second, .val (.long (own_r q2)), .second, .val (.long (140737488355328 : Int64)), .second, .val (.long (0 : Int64)), .second, .val (.long ((own_hq1 q2) + (0 : Int64))), .second, .unset, .unset, .unset, .unset, .unset] [])) _
    refine XS.lload X5.here hx rfl (hb hby at_118) rfl ?_
    refine XS.l2dS X5.here hx rfl (hb hby at_120) rfl rfl ?_
    show Steps p.tables e below (T5.setTop (mkF m 121 #[.val (.int p1), .val (.long q2), .second, .val (.int p3), .val (.int p4), .val (.int (p4 &&& (3 : Int32))), .val (.double (own_sc p4)), .second, .val (.int (p1 &&& (3 : Int32))), .val (.long (own_H q2)), .second, .val (.long (own_dl p3)), .second, .val (.long (own_q q2)), .second, .val (.long (own_r q2)), .second, .val (.long (140737488355328 : Int64)), .second, .val (.long (0 : Int64)), .second, .val (.long ((own_hq1 q2) + (0 : Int64))), .second, .unset, .unset, .unset, .unset, .unset] [(.double (FP.l2d (own_H q2)))])) _
    refine XS.dload X5.here hx rfl (hb hby at_121) rfl ?_
    refine XS.dmulS X5.here hx rfl (hb hby at_123) rfl hnn123 rfl ?_
    show Steps p.tables e below (T5.setTop (mkF m 124 #[.val (.int p1), .val (.long q2), .second, .val (.int p3), .val (.int p4), .val (.int (p4 &&& (3 : Int32))), .val (.double (own_sc p4)), .second, .val (.int (p1 &&& (3 : Int32))), .val (.long (own_H q2)), .second, .val (.long (own_dl p3)), .second, .val (.long (own_q q2)), .second, .val (.long (own_r q2)), .second, .val (.long (140737488355328 : Int64)), .second, .val (.long (0 : Int64)), .second, .val (.long ((own_hq1 q2) + (0 : Int64))), .second, .unset, .unset, .unset, .unset, .unset] [(.double (FP.dmul (FP.l2d (own_H q2)) (own_sc p4)))])) _
    refine XS.dstore X5.here hx rfl (hb hby at_124) rfl (l' := #[.val (.int p1), .val (.long q2), .second, .val (.int p3), .val (.int p4), .val (.int (p4 &&& (3 : Int32))), .val (.double (own_sc p4)), .second, .val (.int (p1 &&& (3 : Int32))), .val (.long (own_H q2)), .second, .val (.long (own_dl p3)), .second, .val (.long (own_q q2)), .second, .val (.long (own_r q2)), .second, .val (.long (140737488355328 : Int64)), .second, .val (.long (0 : Int64)), .second, .val (.long ((own_hq1 q2) + (0 : Int64))), .second, .val (.double (FP.dmul (FP.l2d (own_H q2)) (own_sc p4))), .second, .unset, .unset, .unset]) rfl ?_
    refine XS.lload X5.here hx rfl (hb hby at_126) rfl ?_
    show Steps p.tables e below (T5.setTop (mkF m 128 #[.val (.int p1), .val (.long q2), .second, .val (.int p3), .val (.int p4), .val (.int (p4 &&& (3 : Int32))), .val (.double (own_sc p4)), .second, .val (.int (p1 &&& (3 : Int32))), .val (.long (own_H q2)), .second, .val (.long (own_dl p3)), .second, .val (.long (own_q q2)), .second, .val (.long (own_r q2)), .second, .val (.long (140737488355328 : Int64)), .second, .val (.long (0 : Int64)), .second, .val (.long ((own_hq1 q2) + (0 : Int64))), .second, .val (.double (FP.dmul (FP.l2d (own_H q2)) (own_sc p4))), .second, .unset, .unset, .unset] [(.long (own_H q2))])) _
    refine XS.lload X5.here hx rfl (hb hby at_128) rfl ?_
    refine XS.ladd X5.here hx rfl (hb hby at_130) rfl ?_
    show Steps p.tables e below (T5.setTop (mkF m 131 #[.val (.int p1), .val (.long q2), .second, .val (.int p3), .val (.int p4), .val (.int (p4 &&& (3 : Int32))), .val (.double (own_sc p4)), .second, .val (.int (p1 &&& (3 : Int32))), .val (.long (own_H q2)), .second, .val (.long (own_dl p3)), .second, .val (.long (own_q q2)), .second, .val (.long (own_r q2)), .second, .val (.long (140737488355328 : Int64)), .second, .val (.long (0 : Int64)), .second, .val (.long ((own_hq1 q2) + (0 : Int64))), .second, .val (.double (FP.dmul (FP.l2d (own_H q2)) (own_sc p4))), .second, .unset, .unset, .unset] [(.long (own_m q2 p3))])) _
    refine XS.l2dS X5.here hx rfl (hb hby at_131) rfl rfl ?_
    refine XS.dload X5.here hx rfl (hb hby at_132) rfl ?_
    show Steps p.tables e below (T5.setTop (mkF m 134 #[.val (.int p1), .val (.long q2), .second, .val (.int p3), .val (.int p4), .val (.int (p4 &&& (3 : Int32))), .val (.double (own_sc p4)), .second, .val (.int (p1 &&& (3 : Int32))), .val (.long (own_H q2)), .second, .val (.long (own_dl p3)), .second, .val (.long (own_q q2)), .second, .val (.long (own_r q2)), .second, .val (.long (140737488355328 : Int64)), .second, .val (.long (0 : Int64)), .second, .val (.long ((own_hq1 q2) + (0 : Int64))), .second, .val (.double (FP.dmul (FP.l2d (own_H q2)) (own_sc p4))), .second, .unset, .unset, .unset] [(.double (own_sc p4)), (.double (FP.l2d (own_m q2 p3)))])) _
    refine XS.dmulS X5.here hx rfl (hb hby at_134) rfl hnn134 rfl ?_
    refine XS.dstore X5.here hx rfl (hb hby at_135) rfl (l' := #[.val (.int p1), .val (.long q2), .second, .val (.int p3), .val (.int p4), .val (.int (p4 &&& (3 : Int32))), .val (.double (own_sc p4)), .second, .val (.int (p1 &&& (3 : Int32))), .val (.long (own_H q2)), .second, .val (.long (own_dl p3)), .second, .val (.long (own_q q2)), .second, .val (.long (own_r q2)), .second, .val (.long (140737488355328 : Int64)), .second, .val (.long (0 : Int64)), .second, .val (.long ((own_hq1 q2) + (0 : Int64))), .second, .val (.double (FP.dmul (FP.l2d (own_H q2)) (own_sc p4))), .second, .val (.double (FP.dmul (FP.l2d (own_m q2 p3)) (own_sc p4))), .second, .unset]) rfl ?_
    show Steps p.tables e below (T5.setTop (mkF m 137 #[.val (.int p1), .val (.long q2), .second, .val (.int p3), .val (.int p4), .val (.int (p4 &&& (3 : Int32))), .val (.double (own_sc p4)), .second, .val (.int (p1 &&& (3 : Int32))), .val (.long (own_H q2)), .second, .val (.long (own_dl p3)), .second, .val (.long (own_q q2)), .second, .val (.long (own_r q2)), .second, .val (.long (140737488355328 : Int64)), .second, .val (.long (0 : Int64)), .second, .val (.long ((own_hq1 q2) + (0 : Int64))), .second, .val (.double (FP.dmul (FP.l2d (own_H q2)) (own_sc p4))), .second, .val (.double (FP.dmul (FP.l2d (own_m q2 p3)) (own_sc p4))), .second, .unset] [])) _
    refine XS.lload X5.here hx rfl (hb hby at_137) rfl ?_
    refine XS.lload X5.here hx rfl (hb hby at_139) rfl ?_
    show Steps p.tables e below (T5.setTop (mkF m 141 #[.val (.int p1), .val (.long q2), .second, .val (.int p3), .val (.int p4), .val (.int (p4 &&& (3 : Int32))), .val (.double (own_sc p4)), .second, .val (.int (p1 &&& (3 : Int32))), .val (.long (own_H q2)), .second, .val (.long (own_dl p3)), .second, .val (.long (own_q q2)), .second, .val (.long (own_r q2)), .second, .val (.long (140737488355328 : Int64)), .second, .val (.long (0 : Int64)), .second, .val (.long ((own_hq1 q2) + (0 : Int64))), .second, .val (.double (FP.dmul (FP.l2d (own_H q2)) (own_sc p4))), .second, .val (.double (FP.dmul (FP.l2d (own_m q2 p3)) (own_sc p4))), .second, .unset] [(.long (own_dl p3)), (.long (own_H q2))])) _
    refine XS.ladd X5.here hx rfl (hb hby at_141) rfl ?_
    refine XS.lload X5.here hx rfl (hb hby at_142) rfl ?_
    show Steps p.tables e below (T5.setTop (mkF m 144 #[.val (.int p1), .val (.long q2), .second, .val (.int p3), .val (.int p4), .val (.int (p4 &&& (3 : Int32))), .val (.double (own_sc p4)), .second, .val (.int (p1 &&& (3 : Int32))), .val (.long (own_H q2)), .second, .val (.long (own_dl p3)), .second, .val (.long (own_q q2)), .second, .val (.long (own_r q2)), .second, .val (.long (140737488355328 : Int64)), .second, .val (.long (0 : Int64)), .second, .val (.long ((own_hq1 q2) + (0 : Int64))), .second, .val (.double (FP.dmul (FP.l2d (own_H q2)) (own_sc p4))), .second, .val (.double (FP.dmul (FP.l2d (own_m q2 p3)) (own_sc p4))), .second, .unset] [(.long ((own_hq1 q2) + (0 : Int64))), (.long (own_m q2 p3))])) _
    refine XS.lcmp X5.here hx rfl (hb hby at_144) rfl ?_
    refine XS.ifYes X5.here hx rfl (pc0 := 145) (pc' := 152) rfl (hb hby at_145) rfl ((if0 _ _).trans (flt hc145).2.2.2) (by decide) (by decide) ?_
    show Steps p.tables e below (T5.setTop (mkF m 152 #[.val (.int p1), .val (.long q2), .second, .val (.int p3), .val (.int p4), .val (.int (p4 &&& (3 : Int32))), .val (.double (own_sc p4)), .second, .val (.int (p1 &&& (3 : Int32))), .val (.long (own_H q2)), .second, .val (.long (own_dl p3)), .second, .val (.long (own_q q2)), .second, .val (.long (own_r q2)), .second, .val (.long (140737488355328 : Int64)), .second, .val (.long (0 : Int64)), .second, .val (.long ((own_hq1 q2) + (0 : Int64))), .second, .val (.double (FP.dmul (FP.l2d (own_H q2)) (own_sc p4))), .second, .val (.double (FP.dmul (FP.l2d (own_m q2 p3)) (own_sc p4))), .second, .unset] [])) _
    refine XS.iconst X5.here hx rfl (hb hby at_152) ?_
    refine XS.istore X5.here hx rfl (hb hby at_153) rfl (l' := #[.val (.int p1), .val (.long q2), .second, .val (.int p3), .val (.int p4), .val (.int (p4 &&& (3 : Int32))), .val (.double (own_sc p4)), .second, .val (.int (p1 &&& (3 : Int32))), .val (.long (own_H q2)), .second, .val (.long (own_dl p3)), .second, .val (.long (own_q q2)), .second, .val (.long (own_r q2)), .second, .val (.long (140737488355328 : Int64)), .second, .val (.long (0 : Int64)), .second, .val (.long ((own_hq1 q2) + (0 : Int64))), .second, .val (.double (FP.dmul (FP.l2d (own_H q2)) (own_sc p4))), .second, .val (.double (FP.dmul (FP.l2d (own_m q2 p3)) (own_sc p4))), .second, .val (.int (0 : Int32))]) rfl ?_
    show Steps p.tables e below (T5.setTop (mkF m 155 #[.val (.int p1), .val (.long q2), .second, .val (.int p3), .val (.int p4), .val (.int (p4 &&& (3 : Int32))), .val (.double (own_sc p4)), .second, .val (.int (p1 &&& (3 : Int32))), .val (.long (own_H q2)), .second, .val (.long (own_dl p3)), .second, .val (.long (own_q q2)), .second, .val (.long (own_r q2)), .second, .val (.long (140737488355328 : Int64)), .second, .val (.long (0 : Int64)), .second, .val (.long ((own_hq1 q2) + (0 : Int64))), .second, .val (.double (FP.dmul (FP.l2d (own_H q2)) (own_sc p4))), .second, .val (.double (FP.dmul (FP.l2d (own_m q2 p3)) (own_sc p4))), .second, .val (.int (0 : Int32))] [])) _
    refine XS.dload X5.here hx rfl (hb hby at_155) rfl ?_
    refine XS.dload X5.here hx rfl (hb hby at_157) rfl ?_
    show Steps p.tables e below (T5.setTop (mkF m 159 #[.val (.int p1), .val (.long q2), .second, .val (.int p3), .val (.int p4), .val (.int (p4 &&& (3 : Int32))), .val (.double (own_sc p4)), .second, .val (.int (p1 &&& (3 : Int32))), .val (.long (own_H q2)), .second, .val (.long (own_dl p3)), .second, .val (.long (own_q q2)), .second, .val (.long (own_r q2)), .second, .val (.long (140737488355328 : Int64)), .second, .val (.long (0 : Int64)), .second, .val (.long ((own_hq1 q2) + (0 : Int64))), .second, .val (.double (FP.dmul (FP.l2d (own_H q2)) (own_sc p4))), .second, .val (.double (FP.dmul (FP.l2d (own_m q2 p3)) (own_sc p4))), .second, .val (.int (0 : Int32))] [(.double (FP.dmul (FP.l2d (own_H q2)) (own_sc p4))), (.double (FP.dmul (FP.l2d (own_m q2 p3)) (own_sc p4)))])) _
    refine st6 _ ?_
    show Steps p.tables e below (T6.setTop (mkF m 162 #[.val (.int p1), .val (.long q2), .second, .val (.int p3), .val (.int p4), .val (.int (p4 &&& (3 : Int32))), .val (.double (own_sc p4)), .second, .val (.int (p1 &&& (3 : Int32))), .val (.long (own_H q2)), .second, .val (.long (own_dl p3)), .second, .val (.long (own_q q2)), .second, .val (.long (own_r q2)), .second, .val (.long (140737488355328 : Int64)), .second, .val (.long (0 : Int64)), .second, .val (.long ((own_hq1 q2) + (0 : Int64))), .second, .val (.double (FP.dmul (FP.l2d (own_H q2)) (own_sc p4))), .second, .val (.double (FP.dmul (FP.l2d (own_m q2 p3)) (own_sc p4))), .second, .val (.int (0 : Int32))] [(.int (own_ich (FP.dmul (FP.l2d (own_m q2 p3)) (own_sc p4)) (FP.dmul (FP.l2d (own_H q2)) (own_sc p4))))])) _
    refine XS.iload X6.here hx rfl (hb hby at_162) rfl ?_
    refine XS.icmpNo X6.here hx rfl (hb hby at_164) rfl (teq (own_fin0 (own_u2 hc66 hc80) hc145 : (own_ich (FP.dmul (FP.l2d (own_m q2 p3)) (own_sc p4)) (FP.dmul (FP.l2d (own_H q2)) (own_sc p4))) = (0 : Int32))).2 ?_
    show Steps p.tables e below (T6.setTop (mkF m 167 #[.val (.int p1), .val (.long q2), .second, .val (.int p3), .val (.int p4), .val (.int (p4 &&& (3 : Int32))), .val (.double (own_sc p4)), .second, .val (.int (p1 &&& (3 : Int32))), .val (.long (own_H q2)), .second, .val (.long (own_dl p3)), .second, .val (.long (own_q q2)), .second, .val (.long (own_r q2)), .second, .val (.long (140737488355328 : Int64)), .second, .val (.long (0 : Int64)), .second, .val (.long ((own_hq1 q2) + (0 : Int64))), .second, .val (.double (FP.dmul (FP.l2d (own_H q2)) (own_sc p4))), .second, .val (.double (FP.dmul (FP.l2d (own_m q2 p3)) (own_sc p4))), .second, .val (.int (0 : Int32))] [])) _
    refine XS.iconst X6.here hx rfl (hb hby at_167) ?_
    refine XS.goto X6.here hx rfl (pc0 := 168) (pc' := 172) rfl (hb hby at_168) (by decide) (by decide) ?_
    show Steps p.tables e below (T6.setTop (mkF m 172 #[.val (.int p1), .val (.long q2), .second, .val (.int p3), .val (.int p4), .val (.int (p4 &&& (3 : Int32))), .val (.double (own_sc p4)), .second, .val (.int (p1 &&& (3 : Int32))), .val (.long (own_H q2)), .second, .val (.long (own_dl p3)), .second, .val (.long (own_q q2)), .second, .val (.long (own_r q2)), .second, .val (.long (140737488355328 : Int64)), .second, .val (.long (0 : Int64)), .second, .val (.long ((own_hq1 q2) + (0 : Int64))), .second, .val (.double (FP.dmul (FP.l2d (own_H q2)) (own_sc p4))), .second, .val (.double (FP.dmul (FP.l2d (own_m q2 p3)) (own_sc p4))), .second, .val (.int (0 : Int32))] [(.int (1 : Int32))])) _
    exact retN X6 hx (t := .boolean) Bd.returns (by simp) (hb hby at_172) hr
  · show Q0 Z p1 q2 p3 p4 h0 n0 _ T6.heap _
    exact ⟨rfl, N6⟩
set_option maxRecDepth 65536 in
set_option maxHeartbeats 40000000 in
theorem rm0_a3t (l : Launch) (Z : State) (a0 : Array Value) (hw : ∀ d ∈ tables_1, d.before a0 Z = true) (ws : List Jvm.Cond) (p1 : Int32) (q2 : Int64) (p3 : Int32) (p4 : Int32) (h0 : Heap) (n0 : Nat) (Z0 : n0 ≤ h0.size) (hc31 : (p1 &&& (3 : Int32)) = (0 : Int32)) (hc66 : ¬ ((0 : Int32) < (lcmpW (own_r q2) (140737488355328 : Int64)))) (hc80 : ¬ ((lcmpW (own_r q2) (140737488355328 : Int64)) < (0 : Int32))) (hc98 : (lcmpW ((own_hq1 q2) &&& (1 : Int64)) (0 : Int64)) = (0 : Int32)) (hc145 : (0 : Int32) < (lcmpW (own_m q2 p3) ((own_hq1 q2) + (0 : Int64)))) :
    MetFree l x (head1 (Jvm.Cond.code x code maxLocals ret :: ws) room_1) (fun a U => a = #[(.int p1), (.long q2), (.int p3), (.int p4)] ∧ Z.Warmed39 U.vm ∧ U.heap = h0) (fun _ _ _ _ _ => True) (fun _ U o U' => ∃ v L, o = .returned v ∧ Q0 Z p1 q2 p3 p4 h0 n0 v U'.heap L ∧ FrameEnd U o U' L room_1.cells room_1.slots) := by
  have hnz37 : ¬ ((64 : Int32) = (0 : Int32)) := by decide
  have hnn123 : Jvm.Free.Fl.NoNaN64 (FP.dmul (FP.l2d (own_H q2)) (own_sc p4)) := own_nn _ _
  have hnn134 : Jvm.Free.Fl.NoNaN64 (FP.dmul (FP.l2d (own_m q2 p3)) (own_sc p4)) := own_nn _ _
  refine MetFree.of_bodySF (plainFor_of_name pn_0) hisR ?_
  intro p e s m args below meth c s₁ Bd hml0 hP hK
  obtain ⟨rfl, hZ, hh⟩ := hP
  have hx := Bd.exec
  have hby := Bd.bytes
  have hml : c.maxLocals = 28 := hml0
  have hown : s.vm.findClass "com/example/level_ring/levelring/placement/MembersIsCertainlyHigherPinLaw" = some m.cls := findClass_of_methodNamed Bd.named
  have hnm := (name_of_methodNamed Bd.named Bd.method).1
  have X0 : Stand p l e room_1 s m #[(.int p1), (.long q2), (.int p3), (.int p4)] below meth c s₁ [] 0 0 := Stand.of_body Bd
  have e0 : s₁.heap = h0 := by rw [← hh, Bd.state]; rfl
  have N0 := Fr.nil n0
  have pre0 : ∀ t, Steps p.tables e below (s₁.setTop (mkF m 0 #[.val (.int p1), .val (.long q2), .second, .val (.int p3), .val (.int p4), .unset, .unset, .unset, .unset, .unset, .unset, .unset, .unset, .unset, .unset, .unset, .unset, .unset, .unset, .unset, .unset, .unset, .unset, .unset, .unset, .unset, .unset, .unset] [])) t → Steps p.tables e below (s₁.setTop (entryFrame m #[(.int p1), (.long q2), (.int p3), (.int p4)] maxLocals)) t := fun t k => castTop (ef_0 m p1 q2 p3 p4) k
  -- 3. LAWS
  -- pc 8: com/example/level_ring/levelring/placement/MembersIsCertainlyHigherPinLaw.scaleOf by its contract rm1
  obtain ⟨_, _, ⟨T5, L5, k5, n5⟩, -, X5, ⟨Lc5, hQ5, l5, y5, z5⟩, st5⟩ := Jvm.LawKit.callS X0 hx (y := (⟨"com/example/level_ring/levelring/placement/MembersIsCertainlyHigherPinLaw", "scaleOf", "(I)D"⟩ : MethodName)) hown (mvT hZ (hw _ (List.mem_of_getElem? (i := 0) rfl))) (mvT hZ (hw _ (List.mem_of_getElem? (i := 1) rfl))) (mvT hZ (hw _ (List.mem_of_getElem? (i := 2) rfl))) (mvT hZ (hw _ (List.mem_of_getElem? (i := 3) rfl))) (by decide) (backOf (W := 0) (rm1 l Z a0 hw [] (p4 &&& (3 : Int32))  h0 n0 Z0) hZ (hw _ (List.mem_of_getElem? (i := 3) rfl)) (hw _ (List.mem_of_getElem? (i := 2) rfl)) (by decide) (by decide)) (g := (mkF m 8 #[.val (.int p1), .val (.long q2), .second, .val (.int p3), .val (.int p4), .val (.int (p4 &&& (3 : Int32))), .unset, .unset, .unset, .unset, .unset, .unset, .unset, .unset, .unset, .unset, .unset, .unset, .unset, .unset, .unset, .unset, .unset, .unset, .unset, .unset, .unset, .unset] [(.int (p4 &&& (3 : Int32)))])) rfl (by rw [hml]; rfl) (argsL := [(.int (p4 &&& (3 : Int32)))]) (rest := []) (lenOf pdw_0 rfl) rfl (by show 2 * 0 + _ ≤ _; exact Nat.le_of_eq rfl) (hb hby at_8) (fun _ _ => ⟨rfl, e0, (by decide : 0 + 0 ≤ _), (by decide : 0 + 0 ≤ _)⟩)
  dsimp only [Pt.U, Pt.locs, Pt.cells, Pt.slots] at X5 l5 y5 z5 st5 hQ5
  subst l5 y5 z5
  obtain ⟨rfl, N5q, hh5⟩ := hQ5
  have N5 := Fr.app N0 N5q
  -- pc 159: com/example/level_ring/levelring/placement/Members.isCertainlyHigher by its contract rm2
  obtain ⟨_, _, ⟨T6, L6, k6, n6⟩, -, X6, ⟨Lc6, hQ6, l6, y6, z6⟩, st6⟩ := Jvm.LawKit.callS X5 hx (y := (⟨"com/example/level_ring/levelring/placement/Members", "isCertainlyHigher", "(DD)Z"⟩ : MethodName)) hown (mvT hZ (hw _ (List.mem_of_getElem? (i := 8) rfl))) (mvT hZ (hw _ (List.mem_of_getElem? (i := 9) rfl))) (mvT hZ (hw _ (List.mem_of_getElem? (i := 10) rfl))) (mvT hZ (hw _ (List.mem_of_getElem? (i := 11) rfl))) (by decide) (backOf (W := 0) (rm2 l Z a0 hw [] (FP.dmul (FP.l2d (own_m q2 p3)) (own_sc p4)) (FP.dmul (FP.l2d (own_H q2)) (own_sc p4))  h0 n0 Z0 (dmul_out (own_ms_fin _ (by have := own_H_rng q2; omega)) own_C_fin)) hZ (hw _ (List.mem_of_getElem? (i := 11) rfl)) (hw _ (List.mem_of_getElem? (i := 10) rfl)) (by decide) (by decide)) (g := (mkF m 159 #[.val (.int p1), .val (.long q2), .second, .val (.int p3), .val (.int p4), .val (.int (p4 &&& (3 : Int32))), .val (.double (own_sc p4)), .second, .val (.int (p1 &&& (3 : Int32))), .val (.long (own_H q2)), .second, .val (.long (own_dl p3)), .second, .val (.long (own_q q2)), .second, .val (.long (own_r q2)), .second, .val (.long (140737488355328 : Int64)), .second, .val (.long (0 : Int64)), .second, .val (.long ((own_hq1 q2) + (0 : Int64))), .second, .val (.double (FP.dmul (FP.l2d (own_H q2)) (own_sc p4))), .second, .val (.double (FP.dmul (FP.l2d (own_m q2 p3)) (own_sc p4))), .second, .val (.int (1 : Int32))] [(.double (FP.dmul (FP.l2d (own_H q2)) (own_sc p4))), (.double (FP.dmul (FP.l2d (own_m q2 p3)) (own_sc p4)))])) rfl (by rw [hml]; rfl) (argsL := [(.double (FP.dmul (FP.l2d (own_m q2 p3)) (own_sc p4))), (.double (FP.dmul (FP.l2d (own_H q2)) (own_sc p4)))]) (rest := []) (lenOf pdw_1 rfl) rfl (by show 2 * 0 + _ ≤ _; exact Nat.le_of_eq rfl) (hb hby at_159) (fun _ _ => ⟨rfl, hh5, (by decide : 0 + 0 ≤ _), (by decide : 0 + 0 ≤ _)⟩)
  dsimp only [Pt.U, Pt.locs, Pt.cells, Pt.slots] at X6 l6 y6 z6 st6 hQ6
  subst l6 y6 z6
  obtain ⟨rfl, N6q, hh6⟩ := hQ6
  have N6 := Fr.app N5 N6q
  obtain ⟨fs, hr, hrun, hended, hW, hsame⟩ := X6.leave (v := some (.int (1 : Int32))) (fun h => by rw [Bd.returns] at h; cases h)
  refine ⟨_, _, pre0 _ ?_, hrun, hended, _, _, rfl, ?_, ⟨_, rfl⟩, hW, hsame.mono (by decide) (by decide)⟩
  -- 4. STEPS
  · show Steps p.tables e below (s₁.setTop (mkF m 0 #[.val (.int p1), .val (.long q2), .second, .val (.int p3), .val (.int p4), .unset, .unset, .unset, .unset, .unset, .unset, .unset, .unset, .unset, .unset, .unset, .unset, .unset, .unset, .unset, .unset, .unset, .unset, .unset, .unset, .unset, .unset, .unset] [])) _
    refine XS.iload X0.here hx rfl (hb hby at_0) rfl ?_
    refine XS.iconst X0.here hx rfl (hb hby at_2) ?_
    show Steps p.tables e below (s₁.setTop (mkF m 3 #[.val (.int p1), .val (.long q2), .second, .val (.int p3), .val (.int p4), .unset, .unset, .unset, .unset, .unset, .unset, .unset, .unset, .unset, .unset, .unset, .unset, .unset, .unset, .unset, .unset, .unset, .unset, .unset, .unset, .unset, .unset, .unset] [(.int (3 : Int32)), (.int p4)])) _
    refine XS.iand X0.here hx rfl (hb hby at_3) rfl ?_
    refine XS.istore X0.here hx rfl (hb hby at_4) rfl (l' := #[.val (.int p1), .val (.long q2), .second, .val (.int p3), .val (.int p4), .val (.int (p4 &&& (3 : Int32))), .unset, .unset, .unset, .unset, .unset, .unset, .unset, .unset, .unset, .unset, .unset, .unset, .unset, .unset, .unset, .unset, .unset, .unset, .unset, .unset, .unset, .unset]) rfl ?_
    show Steps p.tables e below (s₁.setTop (mkF m 6 #[.val (.int p1), .val (.long q2), .second, .val (.int p3), .val (.int p4), .val (.int (p4 &&& (3 : Int32))), .unset, .unset, .unset, .unset, .unset, .unset, .unset, .unset, .unset, .unset, .unset, .unset, .unset, .unset, .unset, .unset, .unset, .unset, .unset, .unset, .unset, .unset] [])) _
    refine XS.iload X0.here hx rfl (hb hby at_6) rfl ?_
    show Steps p.tables e below (s₁.setTop (mkF m 8 #[.val (.int p1), .val (.long q2), .second, .val (.int p3), .val (.int p4), .val (.int (p4 &&& (3 : Int32))), .unset, .unset, .unset, .unset, .unset, .unset, .unset, .unset, .unset, .unset, .unset, .unset, .unset, .unset, .unset, .unset, .unset, .unset, .unset, .unset, .unset, .unset] [(.int (p4 &&& (3 : Int32)))])) _
    refine st5 _ ?_
    show Steps p.tables e below (T5.setTop (mkF m 11 #[.val (.int p1), .val (.long q2), .second, .val (.int p3), .val (.int p4), .val (.int (p4 &&& (3 : Int32))), .unset, .unset, .unset, .unset, .unset, .unset, .unset, .unset, .unset, .unset, .unset, .unset, .unset, .unset, .unset, .unset, .unset, .unset, .unset, .unset, .unset, .unset] [(.double (own_sc p4))])) _
    refine XS.dstore X5.here hx rfl (hb hby at_11) rfl (l' := #[.val (.int p1), .val (.long q2), .second, .val (.int p3), .val (.int p4), .val (.int (p4 &&& (3 : Int32))), .val (.double (own_sc p4)), .second, .unset, .unset, .unset, .unset, .unset, .unset, .unset, .unset, .unset, .unset, .unset, .unset, .unset, .unset, .unset, .unset, .unset, .unset, .unset, .unset]) rfl ?_
    refine XS.iloadN X5.here hx rfl (hb hby at_13) rfl ?_
    show Steps p.tables e below (T5.setTop (mkF m 14 #[.val (.int p1), .val (.long q2), .second, .val (.int p3), .val (.int p4), .val (.int (p4 &&& (3 : Int32))), .val (.double (own_sc p4)), .second, .unset, .unset, .unset, .unset, .unset, .unset, .unset, .unset, .unset, .unset, .unset, .unset, .unset, .unset, .unset, .unset, .unset, .unset, .unset, .unset] [(.int p1)])) _
    refine XS.iconst X5.here hx rfl (hb hby at_14) ?_
    refine XS.iand X5.here hx rfl (hb hby at_15) rfl ?_
    show Steps p.tables e below (T5.setTop (mkF m 16 #[.val (.int p1), .val (.long q2), .second, .val (.int p3), .val (.int p4), .val (.int (p4 &&& (3 : Int32))), .val (.double (own_sc p4)), .second, .unset, .unset, .unset, .unset, .unset, .unset, .unset, .unset, .unset, .unset, .unset, .unset, .unset, .unset, .unset, .unset, .unset, .unset, .unset, .unset] [(.int (p1 &&& (3 : Int32)))])) _
    refine XS.istore X5.here hx rfl (hb hby at_16) rfl (l' := #[.val (.int p1), .val (.long q2), .second, .val (.int p3), .val (.int p4), .val (.int (p4 &&& (3 : Int32))), .val (.double (own_sc p4)), .second, .val (.int (p1 &&& (3 : Int32))), .unset, .unset, .unset, .unset, .unset, .unset, .unset, .unset, .unset, .unset, .unset, .unset, .unset, .unset, .unset, .unset, .unset, .unset, .unset]) rfl ?_
    show Steps p.tables e below (T5.setTop (mkF m 18 #[.val (.int p1), .val (.long q2), .second, .val (.int p3), .val (.int p4), .val (.int (p4 &&& (3 : Int32))), .val (.double (own_sc p4)), .second, .val (.int (p1 &&& (3 : Int32))), .unset, .unset, .unset, .unset, .unset, .unset, .unset, .unset, .unset, .unset, .unset, .unset, .unset, .unset, .unset, .unset, .unset, .unset, .unset] [])) _
    refine X5.ldc2Long hx hown (mvT hZ (hw _ (List.mem_of_getElem? (i := 4) rfl))) (g := (mkF m 18 #[.val (.int p1), .val (.long q2), .second, .val (.int p3), .val (.int p4), .val (.int (p4 &&& (3 : Int32))), .val (.double (own_sc p4)), .second, .val (.int (p1 &&& (3 : Int32))), .unset, .unset, .unset, .unset, .unset, .unset, .unset, .unset, .unset, .unset, .unset, .unset, .unset, .unset, .unset, .unset, .unset, .unset, .unset] [])) rfl (hb hby at_18) _ ?_
    show Steps p.tables e below (T5.setTop (mkF m 21 #[.val (.int p1), .val (.long q2), .second, .val (.int p3), .val (.int p4), .val (.int (p4 &&& (3 : Int32))), .val (.double (own_sc p4)), .second, .val (.int (p1 &&& (3 : Int32))), .unset, .unset, .unset, .unset, .unset, .unset, .unset, .unset, .unset, .unset, .unset, .unset, .unset, .unset, .unset, .unset, .unset, .unset, .unset] [(.long (4503599627370496 : Int64))])) _
    refine XS.lloadN X5.here hx rfl (hb hby at_21) rfl ?_
    show Steps p.tables e below (T5.setTop (mkF m 22 #[.val (.int p1), .val (.long q2), .second, .val (.int p3), .val (.int p4), .val (.int (p4 &&& (3 : Int32))), .val (.double (own_sc p4)), .second, .val (.int (p1 &&& (3 : Int32))), .unset, .unset, .unset, .unset, .unset, .unset, .unset, .unset, .unset, .unset, .unset, .unset, .unset, .unset, .unset, .unset, .unset, .unset, .unset] [(.long q2), (.long (4503599627370496 : Int64))])) _
    refine X5.ldc2Long hx hown (mvT hZ (hw _ (List.mem_of_getElem? (i := 5) rfl))) (g := (mkF m 22 #[.val (.int p1), .val (.long q2), .second, .val (.int p3), .val (.int p4), .val (.int (p4 &&& (3 : Int32))), .val (.double (own_sc p4)), .second, .val (.int (p1 &&& (3 : Int32))), .unset, .unset, .unset, .unset, .unset, .unset, .unset, .unset, .unset, .unset, .unset, .unset, .unset, .unset, .unset, .unset, .unset, .unset, .unset] [(.long q2), (.long (4503599627370496 : Int64))])) rfl (hb hby at_22) _ ?_
    show Steps p.tables e below (T5.setTop (mkF m 25 #[.val (.int p1), .val (.long q2), .second, .val (.int p3), .val (.int p4), .val (.int (p4 &&& (3 : Int32))), .val (.double (own_sc p4)), .second, .val (.int (p1 &&& (3 : Int32))), .unset, .unset, .unset, .unset, .unset, .unset, .unset, .unset, .unset, .unset, .unset, .unset, .unset, .unset, .unset, .unset, .unset, .unset, .unset] [(.long (2251799813685247 : Int64)), (.long q2), (.long (4503599627370496 : Int64))])) _
    refine XS.land X5.here hx rfl (hb hby at_25) rfl ?_
    refine XS.lor X5.here hx rfl (hb hby at_26) rfl ?_
    show Steps p.tables e below (T5.setTop (mkF m 27 #[.val (.int p1), .val (.long q2), .second, .val (.int p3), .val (.int p4), .val (.int (p4 &&& (3 : Int32))), .val (.double (own_sc p4)), .second, .val (.int (p1 &&& (3 : Int32))), .unset, .unset, .unset, .unset, .unset, .unset, .unset, .unset, .unset, .unset, .unset, .unset, .unset, .unset, .unset, .unset, .unset, .unset, .unset] [(.long (own_H q2))])) _
    refine XS.lstore X5.here hx rfl (hb hby at_27) rfl (l' := #[.val (.int p1), .val (.long q2), .second, .val (.int p3), .val (.int p4), .val (.int (p4 &&& (3 : Int32))), .val (.double (own_sc p4)), .second, .val (.int (p1 &&& (3 : Int32))), .val (.long (own_H q2)), .second, .unset, .unset, .unset, .unset, .unset, .unset, .unset, .unset, .unset, .unset, .unset, .unset, .unset, .unset, .unset, .unset, .unset]) rfl ?_
    refine XS.iload X5.here hx rfl (hb hby at_29) rfl ?_
    show Steps p.tables e below (T5.setTop (mkF m 31 #[.val (.int p1), .val (.long q2), .second, .val (.int p3), .val (.int p4), .val (.int (p4 &&& (3 : Int32))), .val (.double (own_sc p4)), .second, .val (.int (p1 &&& (3 : Int32))), .val (.long (own_H q2)), .second, .unset, .unset, .unset, .unset, .unset, .unset, .unset, .unset, .unset, .unset, .unset, .unset, .unset, .unset, .unset, .unset, .unset] [(.int (p1 &&& (3 : Int32)))])) _
    refine XS.ifNo X5.here hx rfl (hb hby at_31) rfl ((if0 _ _).trans (teq hc31).2) ?_
    refine XS.iloadN X5.here hx rfl (hb hby at_34) rfl ?_
    show Steps p.tables e below (T5.setTop (mkF m 35 #[.val (.int p1), .val (.long q2), .second, .val (.int p3), .val (.int p4), .val (.int (p4 &&& (3 : Int32))), .val (.double (own_sc p4)), .second, .val (.int (p1 &&& (3 : Int32))), .val (.long (own_H q2)), .second, .unset, .unset, .unset, .unset, .unset, .unset, .unset, .unset, .unset, .unset, .unset, .unset, .unset, .unset, .unset, .unset, .unset] [(.int p3)])) _
    refine XS.bipush X5.here hx rfl (hb hby at_35) ?_
    show Steps p.tables e below (T5.setTop (mkF m 37 #[.val (.int p1), .val (.long q2), .second, .val (.int p3), .val (.int p4), .val (.int (p4 &&& (3 : Int32))), .val (.double (own_sc p4)), .second, .val (.int (p1 &&& (3 : Int32))), .val (.long (own_H q2)), .second, .unset, .unset, .unset, .unset, .unset, .unset, .unset, .unset, .unset, .unset, .unset, .unset, .unset, .unset, .unset, .unset, .unset] [(.int (64 : Int32)), (.int p3)])) _
    refine own_irem X5.here hx rfl (hb hby at_37) rfl hnz37 ?_
    show Steps p.tables e below (T5.setTop (mkF m 38 #[.val (.int p1), .val (.long q2), .second, .val (.int p3), .val (.int p4), .val (.int (p4 &&& (3 : Int32))), .val (.double (own_sc p4)), .second, .val (.int (p1 &&& (3 : Int32))), .val (.long (own_H q2)), .second, .unset, .unset, .unset, .unset, .unset, .unset, .unset, .unset, .unset, .unset, .unset, .unset, .unset, .unset, .unset, .unset, .unset] [(.int (p3 % (64 : Int32)))])) _
    refine XS.i2l X5.here hx rfl (hb hby at_38) rfl ?_
    refine XS.lstore X5.here hx rfl (hb hby at_39) rfl (l' := #[.val (.int p1), .val (.long q2), .second, .val (.int p3), .val (.int p4), .val (.int (p4 &&& (3 : Int32))), .val (.double (own_sc p4)), .second, .val (.int (p1 &&& (3 : Int32))), .val (.long (own_H q2)), .second, .val (.long (own_dl p3)), .second, .unset, .unset, .unset, .unset, .unset, .unset, .unset, .unset, .unset, .unset, .unset, .unset, .unset, .unset, .unset]) rfl ?_
    show Steps p.tables e below (T5.setTop (mkF m 41 #[.val (.int p1), .val (.long q2), .second, .val (.int p3), .val (.int p4), .val (.int (p4 &&& (3 : Int32))), .val (.double (own_sc p4)), .second, .val (.int (p1 &&& (3 : Int32))), .val (.long (own_H q2)), .second, .val (.long (own_dl p3)), .second, .unset, .unset, .unset, .unset, .unset, .unset, .unset, .unset, .unset, .unset, .unset, .unset, .unset, .unset, .unset] [])) _
    refine XS.lload X5.here hx rfl (hb hby at_41) rfl ?_
    refine XS.bipush X5.here hx rfl (hb hby at_43) ?_
    show Steps p.tables e below (T5.setTop (mkF m 45 #[.val (.int p1), .val (.long q2), .second, .val (.int p3), .val (.int p4), .val (.int (p4 &&& (3 : Int32))), .val (.double (own_sc p4)), .second, .val (.int (p1 &&& (3 : Int32))), .val (.long (own_H q2)), .second, .val (.long (own_dl p3)), .second, .unset, .unset, .unset, .unset, .unset, .unset, .unset, .unset, .unset, .unset, .unset, .unset, .unset, .unset, .unset] [(.int (48 : Int32)), (.long (own_H q2))])) _
    refine XS.lushr X5.here hx rfl (hb hby at_45) rfl ?_
    refine XS.lstore X5.here hx rfl (hb hby at_46) rfl (l' := #[.val (.int p1), .val (.long q2), .second, .val (.int p3), .val (.int p4), .val (.int (p4 &&& (3 : Int32))), .val (.double (own_sc p4)), .second, .val (.int (p1 &&& (3 : Int32))), .val (.long (own_H q2)), .second, .val (.long (own_dl p3)), .second, .val (.long (own_q q2)), .second, .unset, .unset, .unset, .unset, .unset, .unset, .unset, .unset, .unset, .unset, .unset, .unset, .unset]) rfl ?_
    show Steps p.tables e below (T5.setTop (mkF m 48 #[.val (.int p1), .val (.long q2), .second, .val (.int p3), .val (.int p4), .val (.int (p4 &&& (3 : Int32))), .val (.double (own_sc p4)), .second, .val (.int (p1 &&& (3 : Int32))), .val (.long (own_H q2)), .second, .val (.long (own_dl p3)), .second, .val (.long (own_q q2)), .second, .unset, .unset, .unset, .unset, .unset, .unset, .unset, .unset, .unset, .unset, .unset, .unset, .unset] [])) _
    refine XS.lload X5.here hx rfl (hb hby at_48) rfl ?_
    show Steps p.tables e below (T5.setTop (mkF m 50 #[.val (.int p1), .val (.long q2), .second, .val (.int p3), .val (.int p4), .val (.int (p4 &&& (3 : Int32))), .val (.double (own_sc p4)), .second, .val (.int (p1 &&& (3 : Int32))), .val (.long (own_H q2)), .second, .val (.long (own_dl p3)), .second, .val (.long (own_q q2)), .second, .unset, .unset, .unset, .unset, .unset, .unset, .unset, .unset, .unset, .unset, .unset, .unset, .unset] [(.long (own_H q2))])) _
    refine X5.ldc2Long hx hown (mvT hZ (hw _ (List.mem_of_getElem? (i := 6) rfl))) (g := (mkF m 50 #[.val (.int p1), .val (.long q2), .second, .val (.int p3), .val (.int p4), .val (.int (p4 &&& (3 : Int32))), .val (.double (own_sc p4)), .second, .val (.int (p1 &&& (3 : Int32))), .val (.long (own_H q2)), .second, .val (.long (own_dl p3)), .second, .val (.long (own_q q2)), .second, .unset, .unset, .unset, .unset, .unset, .unset, .unset, .unset, .unset, .unset, .unset, .unset, .unset] [(.long (own_H q2))])) rfl (hb hby at_50) _ ?_
    show Steps p.tables e below (T5.setTop (mkF m 53 #[.val (.int p1), .val (.long q2), .second, .val (.int p3), .val (.int p4), .val (.int (p4 &&& (3 : Int32))), .val (.double (own_sc p4)), .second, .val (.int (p1 &&& (3 : Int32))), .val (.long (own_H q2)), .second, .val (.long (own_dl p3)), .second, .val (.long (own_q q2)), .second, .unset, .unset, .unset, .unset, .unset, .unset, .unset, .unset, .unset, .unset, .unset, .unset, .unset] [(.long (281474976710655 : Int64)), (.long (own_H q2))])) _
    refine XS.land X5.here hx rfl (hb hby at_53) rfl ?_
    refine XS.lstore X5.here hx rfl (hb hby at_54) rfl (l' := #[.val (.int p1), .val (.long q2), .second, .val (.int p3), .val (.int p4), .val (.int (p4 &&& (3 : Int32))), .val (.double (own_sc p4)), .second, .val (.int (p1 &&& (3 : Int32))), .val (.long (own_H q2)), .second, .val (.long (own_dl p3)), .second, .val (.long (own_q q2)), .second, .val (.long (own_r q2)), .second, .unset, .unset, .unset, .unset, .unset, .unset, .unset, .unset, .unset, .unset, .unset]) rfl ?_
    show Steps p.tables e below (T5.setTop (mkF m 56 #[.val (.int p1), .val (.long q2), .second, .val (.int p3), .val (.int p4), .val (.int (p4 &&& (3 : Int32))), .val (.double (own_sc p4)), .second, .val (.int (p1 &&& (3 : Int32))), .val (.long (own_H q2)), .second, .val (.long (own_dl p3)), .second, .val (.long (own_q q2)), .second, .val (.long (own_r q2)), .second, .unset, .unset, .unset, .unset, .unset, .unset, .unset, .unset, .unset, .unset, .unset] [])) _
    refine X5.ldc2Long hx hown (mvT hZ (hw _ (List.mem_of_getElem? (i := 7) rfl))) (g := (mkF m 56 #[.val (.int p1), .val (.long q2), .second, .val (.int p3), .val (.int p4), .val (.int (p4 &&& (3 : Int32))), .val (.double (own_sc p4)), .second, .val (.int (p1 &&& (3 : Int32))), .val (.long (own_H q2)), .second, .val (.long (own_dl p3)), .second, .val (.long (own_q q2)), .second, .val (.long (own_r q2)), .second, .unset, .unset, .unset, .unset, .unset, .unset, .unset, .unset, .unset, .unset, .unset] [])) rfl (hb hby at_56) _ ?_
    show Steps p.tables e below (T5.setTop (mkF m 59 #[.val (.int p1), .val (.long q2), .second, .val (.int p3), .val (.int p4), .val (.int (p4 &&& (3 : Int32))), .val (.double (own_sc p4)), .second, .val (.int (p1 &&& (3 : Int32))), .val (.long (own_H q2)), .second, .val (.long (own_dl p3)), .second, .val (.long (own_q q2)), .second, .val (.long (own_r q2)), .second, .unset, .unset, .unset, .unset, .unset, .unset, .unset, .unset, .unset, .unset, .unset] [(.long (140737488355328 : Int64))])) _
    refine XS.lstore X5.here hx rfl (hb hby at_59) rfl (l' := #[.val (.int p1), .val (.long q2), .second, .val (.int p3), .val (.int p4), .val (.int (p4 &&& (3 : Int32))), .val (.double (own_sc p4)), .second, .val (.int (p1 &&& (3 : Int32))), .val (.long (own_H q2)), .second, .val (.long (own_dl p3)), .second, .val (.long (own_q q2)), .second, .val (.long (own_r q2)), .second, .val (.long (140737488355328 : Int64)), .second, .unset, .unset, .unset, .unset, .unset, .unset, .unset, .unset, .unset]) rfl ?_
    refine XS.lload X5.here hx rfl (hb hby at_61) rfl ?_
    show Steps p.tables e below (T5.setTop (mkF m 63 #[.val (.int p1), .val (.long q2), .second, .val (.int p3), .val (.int p4), .val (.int (p4 &&& (3 : Int32))), .val (.double (own_sc p4)), .second, .val (.int (p1 &&& (3 : Int32))), .val (.long (own_H q2)), .second, .val (.long (own_dl p3)), .second, .val (.long (own_q q2)), .second, .val (.long (own_r q2)), .second, .val (.long (140737488355328 : Int64)), .second, .unset, .unset, .unset, .unset, .unset, .unset, .unset, .unset, .unset] [(.long (own_r q2))])) _
    refine XS.lload X5.here hx rfl (hb hby at_63) rfl ?_
    refine XS.lcmp X5.here hx rfl (hb hby at_65) rfl ?_
    show Steps p.tables e below (T5.setTop (mkF m 66 #[.val (.int p1), .val (.long q2), .second, .val (.int p3), .val (.int p4), .val (.int (p4 &&& (3 : Int32))), .val (.double (own_sc p4)), .second, .val (.int (p1 &&& (3 : Int32))), .val (.long (own_H q2)), .second, .val (.long (own_dl p3)), .second, .val (.long (own_q q2)), .second, .val (.long (own_r q2)), .second, .val (.long (140737488355328 : Int64)), .second, .unset, .unset, .unset, .unset, .unset, .unset, .unset, .unset, .unset] [(.int (lcmpW (own_r q2) (140737488355328 : Int64)))])) _
    refine XS.ifYes X5.here hx rfl (pc0 := 66) (pc' := 75) rfl (hb hby at_66) rfl ((if0 _ _).trans (flt hc66).2.2.2) (by decide) (by decide) ?_
    refine XS.lload X5.here hx rfl (hb hby at_75) rfl ?_
    show Steps p.tables e below (T5.setTop (mkF m 77 #[.val (.int p1), .val (.long q2), .second, .val (.int p3), .val (.int p4), .val (.int (p4 &&& (3 : Int32))), .val (.double (own_sc p4)), .second, .val (.int (p1 &&& (3 : Int32))), .val (.long (own_H q2)), .second, .val (.long (own_dl p3)), .second, .val (.long (own_q q2)), .second, .val (.long (own_r q2)), .second, .val (.long (140737488355328 : Int64)), .second, .unset, .unset, .unset, .unset, .unset, .unset, .unset, .unset, .unset] [(.long (own_r q2))])) _
    refine XS.lload X5.here hx rfl (hb hby at_77) rfl ?_
    refine XS.lcmp X5.here hx rfl (hb hby at_79) rfl ?_
    show Steps p.tables e below (T5.setTop (mkF m 80 #[.val (.int p1), .val (.long q2), .second, .val (.int p3), .val (.int p4), .val (.int (p4 &&& (3 : Int32))), .val (.double (own_sc p4)), .second, .val (.int (p1 &&& (3 : Int32))), .val (.long (own_H q2)), .second, .val (.long (own_dl p3)), .second, .val (.long (own_q q2)), .second, .val (.long (own_r q2)), .second, .val (.long (140737488355328 : Int64)), .second, .unset, .unset, .unset, .unset, .unset, .unset, .unset, .unset, .unset] [(.int (lcmpW (own_r q2) (140737488355328 : Int64)))])) _
    refine XS.ifYes X5.here hx rfl (pc0 := 80) (pc' := 89) rfl (hb hby at_80) rfl ((if0 _ _).trans (flt hc80).2.1) (by decide) (by decide) ?_
    refine XS.lload X5.here hx rfl (hb hby at_89) rfl ?_
    show Steps p.tables e below (T5.setTop (mkF m 91 #[.val (.int p1), .val (.long q2), .second, .val (.int p3), .val (.int p4), .val (.int (p4 &&& (3 : Int32))), .val (.double (own_sc p4)), .second, .val (.int (p1 &&& (3 : Int32))), .val (.long (own_H q2)), .second, .val (.long (own_dl p3)), .second, .val (.long (own_q q2)), .second, .val (.long (own_r q2)), .second, .val (.long (140737488355328 : Int64)), .second, .unset, .unset, .unset, .unset, .unset, .unset, .unset, .unset, .unset] [(.long (own_H q2))])) _
    refine XS.lload X5.here hx rfl (hb hby at_91) rfl ?_
    refine XS.ladd X5.here hx rfl (hb hby at_93) rfl ?_
    show Steps p.tables e below (T5.setTop (mkF m 94 #[.val (.int p1), .val (.long q2), .second, .val (.int p3), .val (.int p4), .val (.int (p4 &&& (3 : Int32))), .val (.double (own_sc p4)), .second, .val (.int (p1 &&& (3 : Int32))), .val (.long (own_H q2)), .second, .val (.long (own_dl p3)), .second, .val (.long (own_q q2)), .second, .val (.long (own_r q2)), .second, .val (.long (140737488355328 : Int64)), .second, .unset, .unset, .unset, .unset, .unset, .unset, .unset, .unset, .unset] [(.long (own_hq1 q2))])) _
    refine XS.lconst X5.here hx rfl (hb hby at_94) ?_
    refine XS.land X5.here hx rfl (hb hby at_95) rfl ?_
    show Steps p.tables e below (T5.setTop (mkF m 96 #[.val (.int p1), .val (.long q2), .second, .val (.int p3), .val (.int p4), .val (.int (p4 &&& (3 : Int32))), .val (.double (own_sc p4)), .second, .val (.int (p1 &&& (3 : Int32))), .val (.long (own_H q2)), .second, .val (.long (own_dl p3)), .second, .val (.long (own_q q2)), .second, .val (.long (own_r q2)), .second, .val (.long (140737488355328 : Int64)), .second, .unset, .unset, .unset, .unset, .unset, .unset, .unset, .unset, .unset] [(.long ((own_hq1 q2) &&& (1 : Int64)))])) _
    refine XS.lconst X5.here hx rfl (hb hby at_96) ?_
    refine XS.lcmp X5.here hx rfl (hb hby at_97) rfl ?_
    show Steps p.tables e below (T5.setTop (mkF m 98 #[.val (.int p1), .val (.long q2), .second, .val (.int p3), .val (.int p4), .val (.int (p4 &&& (3 : Int32))), .val (.double (own_sc p4)), .second, .val (.int (p1 &&& (3 : Int32))), .val (.long (own_H q2)), .second, .val (.long (own_dl p3)), .second, .val (.long (own_q q2)), .second, .val (.long (own_r q2)), .second, .val (.long (140737488355328 : Int64)), .second, .unset, .unset, .unset, .unset, .unset, .unset, .unset, .unset, .unset] [(.int (lcmpW ((own_hq1 q2) &&& (1 : Int64)) (0 : Int64)))])) _
    refine XS.ifNo X5.here hx rfl (hb hby at_98) rfl ((if0 _ _).trans (teq hc98).2) ?_
    refine XS.lconst X5.here hx rfl (hb hby at_101) ?_
    show Steps p.tables e below (T5.setTop (mkF m 102 #[.val (.int p1), .val (.long q2), .second, .val (.int p3), .val (.int p4), .val (.int (p4 &&& (3 : Int32))), .val (.double (own_sc p4)), .second, .val (.int (p1 &&& (3 : Int32))), .val (.long (own_H q2)), .second, .val (.long (own_dl p3)), .second, .val (.long (own_q q2)), .second, .val (.long (own_r q2)), .second, .val (.long (140737488355328 : Int64)), .second, .unset, .unset, .unset, .unset, .unset, .unset, .unset, .unset, .unset] [(.long (0 : Int64))])) _
    refine XS.goto X5.here hx rfl (pc0 := 102) (pc' := 106) rfl (hb hby at_102) (by decide) (by decide) ?_
    refine XS.lstore X5.here hx rfl (hb hby at_106) rfl (l' := #[.val (.int p1), .val (.long q2), .second, .val (.int p3), .val (.int p4), .val (.int (p4 &&& (3 : Int32))), .val (.double (own_sc p4)), .second, .val (.int (p1 &&& (3 : Int32))), .val (.long (own_H q2)), .second, .val (.long (own_dl p3)), .second, .val (.long (own_q q2)), .second, .val (.long (own_r q2)), .second, .val (.long (140737488355328 : Int64)), .second, .val (.long (0 : Int64)), .second, .unset, .unset, .unset, .unset, .unset, .unset, .unset]) rfl ?_
    show Steps p.tables e below (T5.setTop (mkF m 108 #[.val (.int p1), .val (.long q2), .second, .val (.int p3), .val (.int p4), .val (.int (p4 &&& (3 : Int32))), .val (.double (own_sc p4)), .second, .val (.int (p1 &&& (3 : Int32))), .val (.long (own_H q2)), .second, .val (.long (own_dl p3)), .second, .val (.long (own_q q2)), .second, .val (.long (own_r q2)), .second, .val (.long (140737488355328 : Int64)), .second, .val (.long (0 : Int64)), .second, .unset, .unset, .unset, .unset, .unset, .unset, .unset] [])) _
    refine XS.lload X5.here hx rfl (hb hby at_108) rfl ?_
    refine XS.lload X5.here hx rfl (hb hby at_110) rfl ?_
    show Steps p.tables e below (T5.setTop (mkF m 112 #[.val (.int p1), .val (.long q2), .second, .val (.int p3), .val (.int p4), .val (.int (p4 &&& (3 : Int32))), .val (.double (own_sc p4)), .second, .val (.int (p1 &&& (3 : Int32))), .val (.long (own_H q2)), .second, .val (.long (own_dl p3)), .second, .val (.long (own_q q2)), .second, .val (.long (own_r q2)), .second, .val (.long (140737488355328 : Int64)), .second, .val (.long (0 : Int64)), .second, .unset, .unset, .unset, .unset, .unset, .unset, .unset] [(.long (own_q q2)), (.long (own_H q2))])) _
    refine XS.ladd X5.here hx rfl (hb hby at_112) rfl ?_
    refine XS.lload X5.here hx rfl (hb hby at_113) rfl ?_
    show Steps p.tables e below (T5.setTop (mkF m 115 #[.val (.int p1), .val (.long q2), .second, .val (.int p3), .val (.int p4), .val (.int (p4 &&& (3 : Int32))), .val (.double (own_sc p4)), .second, .val (.int (p1 &&& (3 : Int32))), .val (.long (own_H q2)), .second, .val (.long (own_dl p3)), .second, .val (.long (own_q q2)), .second, .val (.long (own_r q2)), .second, .val (.long (140737488355328 : Int64)), .second, .val (.long (0 : Int64)), .second, .unset, .unset, .unset, .unset, .unset, .unset, .unset] [(.long (0 : Int64)), (.long (own_hq1 q2))])) _
    refine XS.ladd X5.here hx rfl (hb hby at_115) rfl ?_
    refine XS.lstore X5.here hx rfl (hb hby at_116) rfl (l' := #[.val (.int p1), .val (.long q2), .second, .val (.int p3), .val (.int p4), .val (.int (p4 &&& (3 : Int32))), .val (.double (own_sc p4)), .second, .val (.int (p1 &&& (3 : Int32))), .val (.long (own_H q2)), .second, .val (.long (own_dl p3)), .second, .val (.long (own_q q2)), .second, .val (.long (own_r q2)), .second, .val (.long (140737488355328 : Int64)), .second, .val (.long (0 : Int64)), .second, .val (.long ((own_hq1 q2) + (0 : Int64))), .second, .unset, .unset, .unset, .unset, .unset]) rfl ?_
    show Steps p.tables e below (T5.setTop (mkF m 118 #[.val (.int p1), .val (.long q2), .second, .val (.int p3), .val (.int p4), .val (.int (p4 &&& (3 : Int32))), .val (.double (own_sc p4)), .second, .val (.int (p1 &&& (3 : Int32))), .val (.long (own_H q2)), .second, .val (.long (own_dl p3)), .second, .val (.long (own_q q2)), .second, .val (.long (own_r q2)), .second, .val (.long (140737488355328 : Int64)), .second, .val (.long (0 : Int64)), .second, .val (.long ((own_hq1 q2) + (0 : Int64))), .second, .unset, .unset, .unset, .unset, .unset] [])) _
    refine XS.lload X5.here hx rfl (hb hby at_118) rfl ?_
    refine XS.l2dS X5.here hx rfl (hb hby at_120) rfl rfl ?_
    show Steps p.tables e below (T5.setTop (mkF m 121 #[.val (.int p1), .val (.long q2), .second, .val (.int p3), .val (.int p4), .val (.int (p4 &&& (3 : Int32))), .val (.double (own_sc p4)), .second, .val (.int (p1 &&& (3 : Int32))), .val (.long (own_H q2)), .second, .val (.long (own_dl p3)), .second, .val (.long (own_q q2)), .second, .val (.long (own_r q2)), .second, .val (.long (140737488355328 : Int64)), .second, .val (.long (0 : Int64)), .second, .val (.long ((own_hq1 q2) + (0 : Int64))), .second, .unset, .unset, .unset, .unset, .unset] [(.double (FP.l2d (own_H q2)))])) _
    refine XS.dload X5.here hx rfl (hb hby at_121) rfl ?_
    refine XS.dmulS X5.here hx rfl (hb hby at_123) rfl hnn123 rfl ?_
    show Steps p.tables e below (T5.setTop (mkF m 124 #[.val (.int p1), .val (.long q2), .second, .val (.int p3), .val (.int p4), .val (.int (p4 &&& (3 : Int32))), .val (.double (own_sc p4)), .second, .val (.int (p1 &&& (3 : Int32))), .val (.long (own_H q2)), .second, .val (.long (own_dl p3)), .second, .val (.long (own_q q2)), .second, .val (.long (own_r q2)), .second, .val (.long (140737488355328 : Int64)), .second, .val (.long (0 : Int64)), .second, .val (.long ((own_hq1 q2) + (0 : Int64))), .second, .unset, .unset, .unset, .unset, .unset] [(.double (FP.dmul (FP.l2d (own_H q2)) (own_sc p4)))])) _
    refine XS.dstore X5.here hx rfl (hb hby at_124) rfl (l' := #[.val (.int p1), .val (.long q2), .second, .val (.int p3), .val (.int p4), .val (.int (p4 &&& (3 : Int32))), .val (.double (own_sc p4)), .second, .val (.int (p1 &&& (3 : Int32))), .val (.long (own_H q2)), .second, .val (.long (own_dl p3)), .second, .val (.long (own_q q2)), .second, .val (.long (own_r q2)), .second, .val (.long (140737488355328 : Int64)), .second, .val (.long (0 : Int64)), .second, .val (.long ((own_hq1 q2) + (0 : Int64))), .second, .val (.double (FP.dmul (FP.l2d (own_H q2)) (own_sc p4))), .second, .unset, .unset, .unset]) rfl ?_
    refine XS.lload X5.here hx rfl (hb hby at_126) rfl ?_
    show Steps p.tables e below (T5.setTop (mkF m 128 #[.val (.int p1), .val (.long q2), .second, .val (.int p3), .val (.int p4), .val (.int (p4 &&& (3 : Int32))), .val (.double (own_sc p4)), .second, .val (.int (p1 &&& (3 : Int32))), .val (.long (own_H q2)), .second, .val (.long (own_dl p3)), .second, .val (.long (own_q q2)), .second, .val (.long (own_r q2)), .second, .val (.long (140737488355328 : Int64)), .second, .val (.long (0 : Int64)), .second, .val (.long ((own_hq1 q2) + (0 : Int64))), .second, .val (.double (FP.dmul (FP.l2d (own_H q2)) (own_sc p4))), .second, .unset, .unset, .unset] [(.long (own_H q2))])) _
    refine XS.lload X5.here hx rfl (hb hby at_128) rfl ?_
    refine XS.ladd X5.here hx rfl (hb hby at_130) rfl ?_
    show Steps p.tables e below (T5.setTop (mkF m 131 #[.val (.int p1), .val (.long q2), .second, .val (.int p3), .val (.int p4), .val (.int (p4 &&& (3 : Int32))), .val (.double (own_sc p4)), .second, .val (.int (p1 &&& (3 : Int32))), .val (.long (own_H q2)), .second, .val (.long (own_dl p3)), .second, .val (.long (own_q q2)), .second, .val (.long (own_r q2)), .second, .val (.long (140737488355328 : Int64)), .second, .val (.long (0 : Int64)), .second, .val (.long ((own_hq1 q2) + (0 : Int64))), .second, .val (.double (FP.dmul (FP.l2d (own_H q2)) (own_sc p4))), .second, .unset, .unset, .unset] [(.long (own_m q2 p3))])) _
    refine XS.l2dS X5.here hx rfl (hb hby at_131) rfl rfl ?_
    refine XS.dload X5.here hx rfl (hb hby at_132) rfl ?_
    show Steps p.tables e below (T5.setTop (mkF m 134 #[.val (.int p1), .val (.long q2), .second, .val (.int p3), .val (.int p4), .val (.int (p4 &&& (3 : Int32))), .val (.double (own_sc p4)), .second, .val (.int (p1 &&& (3 : Int32))), .val (.long (own_H q2)), .second, .val (.long (own_dl p3)), .second, .val (.long (own_q q2)), .second, .val (.long (own_r q2)), .second, .val (.long (140737488355328 : Int64)), .second, .val (.long (0 : Int64)), .second, .val (.long ((own_hq1 q2) + (0 : Int64))), .second, .val (.double (FP.dmul (FP.l2d (own_H q2)) (own_sc p4))), .second, .unset, .unset, .unset] [(.double (own_sc p4)), (.double (FP.l2d (own_m q2 p3)))])) _
    refine XS.dmulS X5.here hx rfl (hb hby at_134) rfl hnn134 rfl ?_
    refine XS.dstore X5.here hx rfl (hb hby at_135) rfl (l' := #[.val (.int p1), .val (.long q2), .second, .val (.int p3), .val (.int p4), .val (.int (p4 &&& (3 : Int32))), .val (.double (own_sc p4)), .second, .val (.int (p1 &&& (3 : Int32))), .val (.long (own_H q2)), .second, .val (.long (own_dl p3)), .second, .val (.long (own_q q2)), .second, .val (.long (own_r q2)), .second, .val (.long (140737488355328 : Int64)), .second, .val (.long (0 : Int64)), .second, .val (.long ((own_hq1 q2) + (0 : Int64))), .second, .val (.double (FP.dmul (FP.l2d (own_H q2)) (own_sc p4))), .second, .val (.double (FP.dmul (FP.l2d (own_m q2 p3)) (own_sc p4))), .second, .unset]) rfl ?_
    show Steps p.tables e below (T5.setTop (mkF m 137 #[.val (.int p1), .val (.long q2), .second, .val (.int p3), .val (.int p4), .val (.int (p4 &&& (3 : Int32))), .val (.double (own_sc p4)), .second, .val (.int (p1 &&& (3 : Int32))), .val (.long (own_H q2)), .second, .val (.long (own_dl p3)), .second, .val (.long (own_q q2)), .second, .val (.long (own_r q2)), .second, .val (.long (140737488355328 : Int64)), .second, .val (.long (0 : Int64)), .second, .val (.long ((own_hq1 q2) + (0 : Int64))), .second, .val (.double (FP.dmul (FP.l2d (own_H q2)) (own_sc p4))), .second, .val (.double (FP.dmul (FP.l2d (own_m q2 p3)) (own_sc p4))), .second, .unset] [])) _
    refine XS.lload X5.here hx rfl (hb hby at_137) rfl ?_
    refine XS.lload X5.here hx rfl (hb hby at_139) rfl ?_
    show Steps p.tables e below (T5.setTop (mkF m 141 #[.val (.int p1), .val (.long q2), .second, .val (.int p3), .val (.int p4), .val (.int (p4 &&& (3 : Int32))), .val (.double (own_sc p4)), .second, .val (.int (p1 &&& (3 : Int32))), .val (.long (own_H q2)), .second, .val (.long (own_dl p3)), .second, .val (.long (own_q q2)), .second, .val (.long (own_r q2)), .second, .val (.long (140737488355328 : Int64)), .second, .val (.long (0 : Int64)), .second, .val (.long ((own_hq1 q2) + (0 : Int64))), .second, .val (.double (FP.dmul (FP.l2d (own_H q2)) (own_sc p4))), .second, .val (.double (FP.dmul (FP.l2d (own_m q2 p3)) (own_sc p4))), .second, .unset] [(.long (own_dl p3)), (.long (own_H q2))])) _
    refine XS.ladd X5.here hx rfl (hb hby at_141) rfl ?_
    refine XS.lload X5.here hx rfl (hb hby at_142) rfl ?_
    show Steps p.tables e below (T5.setTop (mkF m 144 #[.val (.int p1), .val (.long q2), .second, .val (.int p3), .val (.int p4), .val (.int (p4 &&& (3 : Int32))), .val (.double (own_sc p4)), .second, .val (.int (p1 &&& (3 : Int32))), .val (.long (own_H q2)), .second, .val (.long (own_dl p3)), .second, .val (.long (own_q q2)), .second, .val (.long (own_r q2)), .second, .val (.long (140737488355328 : Int64)), .second, .val (.long (0 : Int64)), .second, .val (.long ((own_hq1 q2) + (0 : Int64))), .second, .val (.double (FP.dmul (FP.l2d (own_H q2)) (own_sc p4))), .second, .val (.double (FP.dmul (FP.l2d (own_m q2 p3)) (own_sc p4))), .second, .unset] [(.long ((own_hq1 q2) + (0 : Int64))), (.long (own_m q2 p3))])) _
    refine XS.lcmp X5.here hx rfl (hb hby at_144) rfl ?_
    refine XS.ifNo X5.here hx rfl (hb hby at_145) rfl ((if0 _ _).trans (tlt hc145).2.2.2) ?_
    show Steps p.tables e below (T5.setTop (mkF m 148 #[.val (.int p1), .val (.long q2), .second, .val (.int p3), .val (.int p4), .val (.int (p4 &&& (3 : Int32))), .val (.double (own_sc p4)), .second, .val (.int (p1 &&& (3 : Int32))), .val (.long (own_H q2)), .second, .val (.long (own_dl p3)), .second, .val (.long (own_q q2)), .second, .val (.long (own_r q2)), .second, .val (.long (140737488355328 : Int64)), .second, .val (.long (0 : Int64)), .second, .val (.long ((own_hq1 q2) + (0 : Int64))), .second, .val (.double (FP.dmul (FP.l2d (own_H q2)) (own_sc p4))), .second, .val (.double (FP.dmul (FP.l2d (own_m q2 p3)) (own_sc p4))), .second, .unset] [])) _
    refine XS.iconst X5.here hx rfl (hb hby at_148) ?_
    refine XS.goto X5.here hx rfl (pc0 := 149) (pc' := 153) rfl (hb hby at_149) (by decide) (by decide) ?_
    show Steps p.tables e below (T5.setTop (mkF m 153 #[.val (.int p1), .val (.long q2), .second, .val (.int p3), .val (.int p4), .val (.int (p4 &&& (3 : Int32))), .val (.double (own_sc p4)), .second, .val (.int (p1 &&& (3 : Int32))), .val (.long (own_H q2)), .second, .val (.long (own_dl p3)), .second, .val (.long (own_q q2)), .second, .val (.long (own_r q2)), .second, .val (.long (140737488355328 : Int64)), .second, .val (.long (0 : Int64)), .second, .val (.long ((own_hq1 q2) + (0 : Int64))), .second, .val (.double (FP.dmul (FP.l2d (own_H q2)) (own_sc p4))), .second, .val (.double (FP.dmul (FP.l2d (own_m q2 p3)) (own_sc p4))), .second, .unset] [(.int (1 : Int32))])) _
    refine XS.istore X5.here hx rfl (hb hby at_153) rfl (l' := #[.val (.int p1), .val (.long q2), .second, .val (.int p3), .val (.int p4), .val (.int (p4 &&& (3 : Int32))), .val (.double (own_sc p4)), .second, .val (.int (p1 &&& (3 : Int32))), .val (.long (own_H q2)), .second, .val (.long (own_dl p3)), .second, .val (.long (own_q q2)), .second, .val (.long (own_r q2)), .second, .val (.long (140737488355328 : Int64)), .second, .val (.long (0 : Int64)), .second, .val (.long ((own_hq1 q2) + (0 : Int64))), .second, .val (.double (FP.dmul (FP.l2d (own_H q2)) (own_sc p4))), .second, .val (.double (FP.dmul (FP.l2d (own_m q2 p3)) (own_sc p4))), .second, .val (.int (1 : Int32))]) rfl ?_
    refine XS.dload X5.here hx rfl (hb hby at_155) rfl ?_
    show Steps p.tables e below (T5.setTop (mkF m 157 #[.val (.int p1), .val (.long q2), .second, .val (.int p3), .val (.int p4), .val (.int (p4 &&& (3 : Int32))), .val (.double (own_sc p4)), .second, .val (.int (p1 &&& (3 : Int32))), .val (.long (own_H q2)), .second, .val (.long (own_dl p3)), .second, .val (.long (own_q q2)), .second, .val (.long (own_r q2)), .second, .val (.long (140737488355328 : Int64)), .second, .val (.long (0 : Int64)), .second, .val (.long ((own_hq1 q2) + (0 : Int64))), .second, .val (.double (FP.dmul (FP.l2d (own_H q2)) (own_sc p4))), .second, .val (.double (FP.dmul (FP.l2d (own_m q2 p3)) (own_sc p4))), .second, .val (.int (1 : Int32))] [(.double (FP.dmul (FP.l2d (own_m q2 p3)) (own_sc p4)))])) _
    refine XS.dload X5.here hx rfl (hb hby at_157) rfl ?_
    show Steps p.tables e below (T5.setTop (mkF m 159 #[.val (.int p1), .val (.long q2), .second, .val (.int p3), .val (.int p4), .val (.int (p4 &&& (3 : Int32))), .val (.double (own_sc p4)), .second, .val (.int (p1 &&& (3 : Int32))), .val (.long (own_H q2)), .second, .val (.long (own_dl p3)), .second, .val (.long (own_q q2)), .second, .val (.long (own_r q2)), .second, .val (.long (140737488355328 : Int64)), .second, .val (.long (0 : Int64)), .second, .val (.long ((own_hq1 q2) + (0 : Int64))), .second, .val (.double (FP.dmul (FP.l2d (own_H q2)) (own_sc p4))), .second, .val (.double (FP.dmul (FP.l2d (own_m q2 p3)) (own_sc p4))), .second, .val (.int (1 : Int32))] [(.double (FP.dmul (FP.l2d (own_H q2)) (own_sc p4))), (.double (FP.dmul (FP.l2d (own_m q2 p3)) (own_sc p4)))])) _
    refine st6 _ ?_
    show Steps p.tables e below (T6.setTop (mkF m 162 #[.val (.int p1), .val (.long q2), .second, .val (.int p3), .val (.int p4), .val (.int (p4 &&& (3 : Int32))), .val (.double (own_sc p4)), .second, .val (.int (p1 &&& (3 : Int32))), .val (.long (own_H q2)), .second, .val (.long (own_dl p3)), .second, .val (.long (own_q q2)), .second, .val (.long (own_r q2)), .second, .val (.long (140737488355328 : Int64)), .second, .val (.long (0 : Int64)), .second, .val (.long ((own_hq1 q2) + (0 : Int64))), .second, .val (.double (FP.dmul (FP.l2d (own_H q2)) (own_sc p4))), .second, .val (.double (FP.dmul (FP.l2d (own_m q2 p3)) (own_sc p4))), .second, .val (.int (1 : Int32))] [(.int (own_ich (FP.dmul (FP.l2d (own_m q2 p3)) (own_sc p4)) (FP.dmul (FP.l2d (own_H q2)) (own_sc p4))))])) _
    refine XS.iload X6.here hx rfl (hb hby at_162) rfl ?_
    refine XS.icmpNo X6.here hx rfl (hb hby at_164) rfl (teq (own_fin1 (own_u3 hc66 hc80 hc98) hc145 : (own_ich (FP.dmul (FP.l2d (own_m q2 p3)) (own_sc p4)) (FP.dmul (FP.l2d (own_H q2)) (own_sc p4))) = (1 : Int32))).2 ?_
    show Steps p.tables e below (T6.setTop (mkF m 167 #[.val (.int p1), .val (.long q2), .second, .val (.int p3), .val (.int p4), .val (.int (p4 &&& (3 : Int32))), .val (.double (own_sc p4)), .second, .val (.int (p1 &&& (3 : Int32))), .val (.long (own_H q2)), .second, .val (.long (own_dl p3)), .second, .val (.long (own_q q2)), .second, .val (.long (own_r q2)), .second, .val (.long (140737488355328 : Int64)), .second, .val (.long (0 : Int64)), .second, .val (.long ((own_hq1 q2) + (0 : Int64))), .second, .val (.double (FP.dmul (FP.l2d (own_H q2)) (own_sc p4))), .second, .val (.double (FP.dmul (FP.l2d (own_m q2 p3)) (own_sc p4))), .second, .val (.int (1 : Int32))] [])) _
    refine XS.iconst X6.here hx rfl (hb hby at_167) ?_
    refine XS.goto X6.here hx rfl (pc0 := 168) (pc' := 172) rfl (hb hby at_168) (by decide) (by decide) ?_
    show Steps p.tables e below (T6.setTop (mkF m 172 #[.val (.int p1), .val (.long q2), .second, .val (.int p3), .val (.int p4), .val (.int (p4 &&& (3 : Int32))), .val (.double (own_sc p4)), .second, .val (.int (p1 &&& (3 : Int32))), .val (.long (own_H q2)), .second, .val (.long (own_dl p3)), .second, .val (.long (own_q q2)), .second, .val (.long (own_r q2)), .second, .val (.long (140737488355328 : Int64)), .second, .val (.long (0 : Int64)), .second, .val (.long ((own_hq1 q2) + (0 : Int64))), .second, .val (.double (FP.dmul (FP.l2d (own_H q2)) (own_sc p4))), .second, .val (.double (FP.dmul (FP.l2d (own_m q2 p3)) (own_sc p4))), .second, .val (.int (1 : Int32))] [(.int (1 : Int32))])) _
    exact retN X6 hx (t := .boolean) Bd.returns (by simp) (hb hby at_172) hr
  · show Q0 Z p1 q2 p3 p4 h0 n0 _ T6.heap _
    exact ⟨rfl, N6⟩
set_option maxRecDepth 65536 in
set_option maxHeartbeats 40000000 in
theorem rm0_a3f (l : Launch) (Z : State) (a0 : Array Value) (hw : ∀ d ∈ tables_1, d.before a0 Z = true) (ws : List Jvm.Cond) (p1 : Int32) (q2 : Int64) (p3 : Int32) (p4 : Int32) (h0 : Heap) (n0 : Nat) (Z0 : n0 ≤ h0.size) (hc31 : (p1 &&& (3 : Int32)) = (0 : Int32)) (hc66 : ¬ ((0 : Int32) < (lcmpW (own_r q2) (140737488355328 : Int64)))) (hc80 : ¬ ((lcmpW (own_r q2) (140737488355328 : Int64)) < (0 : Int32))) (hc98 : (lcmpW ((own_hq1 q2) &&& (1 : Int64)) (0 : Int64)) = (0 : Int32)) (hc145 : ¬ ((0 : Int32) < (lcmpW (own_m q2 p3) ((own_hq1 q2) + (0 : Int64))))) :
    MetFree l x (head1 (Jvm.Cond.code x code maxLocals ret :: ws) room_1) (fun a U => a = #[(.int p1), (.long q2), (.int p3), (.int p4)] ∧ Z.Warmed39 U.vm ∧ U.heap = h0) (fun _ _ _ _ _ => True) (fun _ U o U' => ∃ v L, o = .returned v ∧ Q0 Z p1 q2 p3 p4 h0 n0 v U'.heap L ∧ FrameEnd U o U' L room_1.cells room_1.slots) := by
  have hnz37 : ¬ ((64 : Int32) = (0 : Int32)) := by decide
  have hnn123 : Jvm.Free.Fl.NoNaN64 (FP.dmul (FP.l2d (own_H q2)) (own_sc p4)) := own_nn _ _
  have hnn134 : Jvm.Free.Fl.NoNaN64 (FP.dmul (FP.l2d (own_m q2 p3)) (own_sc p4)) := own_nn _ _
  refine MetFree.of_bodySF (plainFor_of_name pn_0) hisR ?_
  intro p e s m args below meth c s₁ Bd hml0 hP hK
  obtain ⟨rfl, hZ, hh⟩ := hP
  have hx := Bd.exec
  have hby := Bd.bytes
  have hml : c.maxLocals = 28 := hml0
  have hown : s.vm.findClass "com/example/level_ring/levelring/placement/MembersIsCertainlyHigherPinLaw" = some m.cls := findClass_of_methodNamed Bd.named
  have hnm := (name_of_methodNamed Bd.named Bd.method).1
  have X0 : Stand p l e room_1 s m #[(.int p1), (.long q2), (.int p3), (.int p4)] below meth c s₁ [] 0 0 := Stand.of_body Bd
  have e0 : s₁.heap = h0 := by rw [← hh, Bd.state]; rfl
  have N0 := Fr.nil n0
  have pre0 : ∀ t, Steps p.tables e below (s₁.setTop (mkF m 0 #[.val (.int p1), .val (.long q2), .second, .val (.int p3), .val (.int p4), .unset, .unset, .unset, .unset, .unset, .unset, .unset, .unset, .unset, .unset, .unset, .unset, .unset, .unset, .unset, .unset, .unset, .unset, .unset, .unset, .unset, .unset, .unset] [])) t → Steps p.tables e below (s₁.setTop (entryFrame m #[(.int p1), (.long q2), (.int p3), (.int p4)] maxLocals)) t := fun t k => castTop (ef_0 m p1 q2 p3 p4) k
  -- 3. LAWS
  -- pc 8: com/example/level_ring/levelring/placement/MembersIsCertainlyHigherPinLaw.scaleOf by its contract rm1
  obtain ⟨_, _, ⟨T5, L5, k5, n5⟩, -, X5, ⟨Lc5, hQ5, l5, y5, z5⟩, st5⟩ := Jvm.LawKit.callS X0 hx (y := (⟨"com/example/level_ring/levelring/placement/MembersIsCertainlyHigherPinLaw", "scaleOf", "(I)D"⟩ : MethodName)) hown (mvT hZ (hw _ (List.mem_of_getElem? (i := 0) rfl))) (mvT hZ (hw _ (List.mem_of_getElem? (i := 1) rfl))) (mvT hZ (hw _ (List.mem_of_getElem? (i := 2) rfl))) (mvT hZ (hw _ (List.mem_of_getElem? (i := 3) rfl))) (by decide) (backOf (W := 0) (rm1 l Z a0 hw [] (p4 &&& (3 : Int32))  h0 n0 Z0) hZ (hw _ (List.mem_of_getElem? (i := 3) rfl)) (hw _ (List.mem_of_getElem? (i := 2) rfl)) (by decide) (by decide)) (g := (mkF m 8 #[.val (.int p1), .val (.long q2), .second, .val (.int p3), .val (.int p4), .val (.int (p4 &&& (3 : Int32))), .unset, .unset, .unset, .unset, .unset, .unset, .unset, .unset, .unset, .unset, .unset, .unset, .unset, .unset, .unset, .unset, .unset, .unset, .unset, .unset, .unset, .unset] [(.int (p4 &&& (3 : Int32)))])) rfl (by rw [hml]; rfl) (argsL := [(.int (p4 &&& (3 : Int32)))]) (rest := []) (lenOf pdw_0 rfl) rfl (by show 2 * 0 + _ ≤ _; exact Nat.le_of_eq rfl) (hb hby at_8) (fun _ _ => ⟨rfl, e0, (by decide : 0 + 0 ≤ _), (by decide : 0 + 0 ≤ _)⟩)
  dsimp only [Pt.U, Pt.locs, Pt.cells, Pt.slots] at X5 l5 y5 z5 st5 hQ5
  subst l5 y5 z5
  obtain ⟨rfl, N5q, hh5⟩ := hQ5
  have N5 := Fr.app N0 N5q
  -- pc 159: com/example/level_ring/levelring/placement/Members.isCertainlyHigher by its contract rm2
  obtain ⟨_, _, ⟨T6, L6, k6, n6⟩, -, X6, ⟨Lc6, hQ6, l6, y6, z6⟩, st6⟩ := Jvm.LawKit.callS X5 hx (y := (⟨"com/example/level_ring/levelring/placement/Members", "isCertainlyHigher", "(DD)Z"⟩ : MethodName)) hown (mvT hZ (hw _ (List.mem_of_getElem? (i := 8) rfl))) (mvT hZ (hw _ (List.mem_of_getElem? (i := 9) rfl))) (mvT hZ (hw _ (List.mem_of_getElem? (i := 10) rfl))) (mvT hZ (hw _ (List.mem_of_getElem? (i := 11) rfl))) (by decide) (backOf (W := 0) (rm2 l Z a0 hw [] (FP.dmul (FP.l2d (own_m q2 p3)) (own_sc p4)) (FP.dmul (FP.l2d (own_H q2)) (own_sc p4))  h0 n0 Z0 (dmul_out (own_ms_fin _ (by have := own_H_rng q2; omega)) own_C_fin)) hZ (hw _ (List.mem_of_getElem? (i := 11) rfl)) (hw _ (List.mem_of_getElem? (i := 10) rfl)) (by decide) (by decide)) (g := (mkF m 159 #[.val (.int p1), .val (.long q2), .second, .val (.int p3), .val (.int p4), .val (.int (p4 &&& (3 : Int32))), .val (.double (own_sc p4)), .second, .val (.int (p1 &&& (3 : Int32))), .val (.long (own_H q2)), .second, .val (.long (own_dl p3)), .second, .val (.long (own_q q2)), .second, .val (.long (own_r q2)), .second, .val (.long (140737488355328 : Int64)), .second, .val (.long (0 : Int64)), .second, .val (.long ((own_hq1 q2) + (0 : Int64))), .second, .val (.double (FP.dmul (FP.l2d (own_H q2)) (own_sc p4))), .second, .val (.double (FP.dmul (FP.l2d (own_m q2 p3)) (own_sc p4))), .second, .val (.int (0 : Int32))] [(.double (FP.dmul (FP.l2d (own_H q2)) (own_sc p4))), (.double (FP.dmul (FP.l2d (own_m q2 p3)) (own_sc p4)))])) rfl (by rw [hml]; rfl) (argsL := [(.double (FP.dmul (FP.l2d (own_m q2 p3)) (own_sc p4))), (.double (FP.dmul (FP.l2d (own_H q2)) (own_sc p4)))]) (rest := []) (lenOf pdw_1 rfl) rfl (by show 2 * 0 + _ ≤ _; exact Nat.le_of_eq rfl) (hb hby at_159) (fun _ _ => ⟨rfl, hh5, (by decide : 0 + 0 ≤ _), (by decide : 0 + 0 ≤ _)⟩)
  dsimp only [Pt.U, Pt.locs, Pt.cells, Pt.slots] at X6 l6 y6 z6 st6 hQ6
  subst l6 y6 z6
  obtain ⟨rfl, N6q, hh6⟩ := hQ6
  have N6 := Fr.app N5 N6q
  obtain ⟨fs, hr, hrun, hended, hW, hsame⟩ := X6.leave (v := some (.int (1 : Int32))) (fun h => by rw [Bd.returns] at h; cases h)
  refine ⟨_, _, pre0 _ ?_, hrun, hended, _, _, rfl, ?_, ⟨_, rfl⟩, hW, hsame.mono (by decide) (by decide)⟩
  -- 4. STEPS
  · show Steps p.tables e below (s₁.setTop (mkF m 0 #[.val (.int p1), .val (.long q2), .second, .val (.int p3), .val (.int p4), .unset, .unset, .unset, .unset, .unset, .unset, .unset, .unset, .unset, .unset, .unset, .unset, .unset, .unset, .unset, .unset, .unset, .unset, .unset, .unset, .unset, .unset, .unset] [])) _
    refine XS.iload X0.here hx rfl (hb hby at_0) rfl ?_
    refine XS.iconst X0.here hx rfl (hb hby at_2) ?_
    show Steps p.tables e below (s₁.setTop (mkF m 3 #[.val (.int p1), .val (.long q2), .second, .val (.int p3), .val (.int p4), .unset, .unset, .unset, .unset, .unset, .unset, .unset, .unset, .unset, .unset, .unset, .unset, .unset, .unset, .unset, .unset, .unset, .unset, .unset, .unset, .unset, .unset, .unset] [(.int (3 : Int32)), (.int p4)])) _
    refine XS.iand X0.here hx rfl (hb hby at_3) rfl ?_
    refine XS.istore X0.here hx rfl (hb hby at_4) rfl (l' := #[.val (.int p1), .val (.long q2), .second, .val (.int p3), .val (.int p4), .val (.int (p4 &&& (3 : Int32))), .unset, .unset, .unset, .unset, .unset, .unset, .unset, .unset, .unset, .unset, .unset, .unset, .unset, .unset, .unset, .unset, .unset, .unset, .unset, .unset, .unset, .unset]) rfl ?_
    show Steps p.tables e below (s₁.setTop (mkF m 6 #[.val (.int p1), .val (.long q2), .second, .val (.int p3), .val (.int p4), .val (.int (p4 &&& (3 : Int32))), .unset, .unset, .unset, .unset, .unset, .unset, .unset, .unset, .unset, .unset, .unset, .unset, .unset, .unset, .unset, .unset, .unset, .unset, .unset, .unset, .unset, .unset] [])) _
    refine XS.iload X0.here hx rfl (hb hby at_6) rfl ?_
    show Steps p.tables e below (s₁.setTop (mkF m 8 #[.val (.int p1), .val (.long q2), .second, .val (.int p3), .val (.int p4), .val (.int (p4 &&& (3 : Int32))), .unset, .unset, .unset, .unset, .unset, .unset, .unset, .unset, .unset, .unset, .unset, .unset, .unset, .unset, .unset, .unset, .unset, .unset, .unset, .unset, .unset, .unset] [(.int (p4 &&& (3 : Int32)))])) _
    refine st5 _ ?_
    show Steps p.tables e below (T5.setTop (mkF m 11 #[.val (.int p1), .val (.long q2), .second, .val (.int p3), .val (.int p4), .val (.int (p4 &&& (3 : Int32))), .unset, .unset, .unset, .unset, .unset, .unset, .unset, .unset, .unset, .unset, .unset, .unset, .unset, .unset, .unset, .unset, .unset, .unset, .unset, .unset, .unset, .unset] [(.double (own_sc p4))])) _
    refine XS.dstore X5.here hx rfl (hb hby at_11) rfl (l' := #[.val (.int p1), .val (.long q2), .second, .val (.int p3), .val (.int p4), .val (.int (p4 &&& (3 : Int32))), .val (.double (own_sc p4)), .second, .unset, .unset, .unset, .unset, .unset, .unset, .unset, .unset, .unset, .unset, .unset, .unset, .unset, .unset, .unset, .unset, .unset, .unset, .unset, .unset]) rfl ?_
    refine XS.iloadN X5.here hx rfl (hb hby at_13) rfl ?_
    show Steps p.tables e below (T5.setTop (mkF m 14 #[.val (.int p1), .val (.long q2), .second, .val (.int p3), .val (.int p4), .val (.int (p4 &&& (3 : Int32))), .val (.double (own_sc p4)), .second, .unset, .unset, .unset, .unset, .unset, .unset, .unset, .unset, .unset, .unset, .unset, .unset, .unset, .unset, .unset, .unset, .unset, .unset, .unset, .unset] [(.int p1)])) _
    refine XS.iconst X5.here hx rfl (hb hby at_14) ?_
    refine XS.iand X5.here hx rfl (hb hby at_15) rfl ?_
    show Steps p.tables e below (T5.setTop (mkF m 16 #[.val (.int p1), .val (.long q2), .second, .val (.int p3), .val (.int p4), .val (.int (p4 &&& (3 : Int32))), .val (.double (own_sc p4)), .second, .unset, .unset, .unset, .unset, .unset, .unset, .unset, .unset, .unset, .unset, .unset, .unset, .unset, .unset, .unset, .unset, .unset, .unset, .unset, .unset] [(.int (p1 &&& (3 : Int32)))])) _
    refine XS.istore X5.here hx rfl (hb hby at_16) rfl (l' := #[.val (.int p1), .val (.long q2), .second, .val (.int p3), .val (.int p4), .val (.int (p4 &&& (3 : Int32))), .val (.double (own_sc p4)), .second, .val (.int (p1 &&& (3 : Int32))), .unset, .unset, .unset, .unset, .unset, .unset, .unset, .unset, .unset, .unset, .unset, .unset, .unset, .unset, .unset, .unset, .unset, .unset, .unset]) rfl ?_
    show Steps p.tables e below (T5.setTop (mkF m 18 #[.val (.int p1), .val (.long q2), .second, .val (.int p3), .val (.int p4), .val (.int (p4 &&& (3 : Int32))), .val (.double (own_sc p4)), .second, .val (.int (p1 &&& (3 : Int32))), .unset, .unset, .unset, .unset, .unset, .unset, .unset, .unset, .unset, .unset, .unset, .unset, .unset, .unset, .unset, .unset, .unset, .unset, .unset] [])) _
    refine X5.ldc2Long hx hown (mvT hZ (hw _ (List.mem_of_getElem? (i := 4) rfl))) (g := (mkF m 18 #[.val (.int p1), .val (.long q2), .second, .val (.int p3), .val (.int p4), .val (.int (p4 &&& (3 : Int32))), .val (.double (own_sc p4)), .second, .val (.int (p1 &&& (3 : Int32))), .unset, .unset, .unset, .unset, .unset, .unset, .unset, .unset, .unset, .unset, .unset, .unset, .unset, .unset, .unset, .unset, .unset, .unset, .unset] [])) rfl (hb hby at_18) _ ?_
    show Steps p.tables e below (T5.setTop (mkF m 21 #[.val (.int p1), .val (.long q2), .second, .val (.int p3), .val (.int p4), .val (.int (p4 &&& (3 : Int32))), .val (.double (own_sc p4)), .second, .val (.int (p1 &&& (3 : Int32))), .unset, .unset, .unset, .unset, .unset, .unset, .unset, .unset, .unset, .unset, .unset, .unset, .unset, .unset, .unset, .unset, .unset, .unset, .unset] [(.long (4503599627370496 : Int64))])) _
    refine XS.lloadN X5.here hx rfl (hb hby at_21) rfl ?_
    show Steps p.tables e below (T5.setTop (mkF m 22 #[.val (.int p1), .val (.long q2), .second, .val (.int p3), .val (.int p4), .val (.int (p4 &&& (3 : Int32))), .val (.double (own_sc p4)), .second, .val (.int (p1 &&& (3 : Int32))), .unset, .unset, .unset, .unset, .unset, .unset, .unset, .unset, .unset, .unset, .unset, .unset, .unset, .unset, .unset, .unset, .unset, .unset, .unset] [(.long q2), (.long (4503599627370496 : Int64))])) _
    refine X5.ldc2Long hx hown (mvT hZ (hw _ (List.mem_of_getElem? (i := 5) rfl))) (g := (mkF m 22 #[.val (.int p1), .val (.long q2), .second, .val (.int p3), .val (.int p4), .val (.int (p4 &&& (3 : Int32))), .val (.double (own_sc p4)), .second, .val (.int (p1 &&& (3 : Int32))), .unset, .unset, .unset, .unset, .unset, .unset, .unset, .unset, .unset, .unset, .unset, .unset, .unset, .unset, .unset, .unset, .unset, .unset, .unset] [(.long q2), (.long (4503599627370496 : Int64))])) rfl (hb hby at_22) _ ?_
    show Steps p.tables e below (T5.setTop (mkF m 25 #[.val (.int p1), .val (.long q2), .second, .val (.int p3), .val (.int p4), .val (.int (p4 &&& (3 : Int32))), .val (.double (own_sc p4)), .second, .val (.int (p1 &&& (3 : Int32))), .unset, .unset, .unset, .unset, .unset, .unset, .unset, .unset, .unset, .unset, .unset, .unset, .unset, .unset, .unset, .unset, .unset, .unset, .unset] [(.long (2251799813685247 : Int64)), (.long q2), (.long (4503599627370496 : Int64))])) _
    refine XS.land X5.here hx rfl (hb hby at_25) rfl ?_
    refine XS.lor X5.here hx rfl (hb hby at_26) rfl ?_
    show Steps p.tables e below (T5.setTop (mkF m 27 #[.val (.int p1), .val (.long q2), .second, .val (.int p3), .val (.int p4), .val (.int (p4 &&& (3 : Int32))), .val (.double (own_sc p4)), .second, .val (.int (p1 &&& (3 : Int32))), .unset, .unset, .unset, .unset, .unset, .unset, .unset, .unset, .unset, .unset, .unset, .unset, .unset, .unset, .unset, .unset, .unset, .unset, .unset] [(.long (own_H q2))])) _
    refine XS.lstore X5.here hx rfl (hb hby at_27) rfl (l' := #[.val (.int p1), .val (.long q2), .second, .val (.int p3), .val (.int p4), .val (.int (p4 &&& (3 : Int32))), .val (.double (own_sc p4)), .second, .val (.int (p1 &&& (3 : Int32))), .val (.long (own_H q2)), .second, .unset, .unset, .unset, .unset, .unset, .unset, .unset, .unset, .unset, .unset, .unset, .unset, .unset, .unset, .unset, .unset, .unset]) rfl ?_
    refine XS.iload X5.here hx rfl (hb hby at_29) rfl ?_
    show Steps p.tables e below (T5.setTop (mkF m 31 #[.val (.int p1), .val (.long q2), .second, .val (.int p3), .val (.int p4), .val (.int (p4 &&& (3 : Int32))), .val (.double (own_sc p4)), .second, .val (.int (p1 &&& (3 : Int32))), .val (.long (own_H q2)), .second, .unset, .unset, .unset, .unset, .unset, .unset, .unset, .unset, .unset, .unset, .unset, .unset, .unset, .unset, .unset, .unset, .unset] [(.int (p1 &&& (3 : Int32)))])) _
    refine XS.ifNo X5.here hx rfl (hb hby at_31) rfl ((if0 _ _).trans (teq hc31).2) ?_
    refine XS.iloadN X5.here hx rfl (hb hby at_34) rfl ?_
    show Steps p.tables e below (T5.setTop (mkF m 35 #[.val (.int p1), .val (.long q2), .second, .val (.int p3), .val (.int p4), .val (.int (p4 &&& (3 : Int32))), .val (.double (own_sc p4)), .second, .val (.int (p1 &&& (3 : Int32))), .val (.long (own_H q2)), .second, .unset, .unset, .unset, .unset, .unset, .unset, .unset, .unset, .unset, .unset, .unset, .unset, .unset, .unset, .unset, .unset, .unset] [(.int p3)])) _
    refine XS.bipush X5.here hx rfl (hb hby at_35) ?_
    show Steps p.tables e below (T5.setTop (mkF m 37 #[.val (.int p1), .val (.long q2), .second, .val (.int p3), .val (.int p4), .val (.int (p4 &&& (3 : Int32))), .val (.double (own_sc p4)), .second, .val (.int (p1 &&& (3 : Int32))), .val (.long (own_H q2)), .second, .unset, .unset, .unset, .unset, .unset, .unset, .unset, .unset, .unset, .unset, .unset, .unset, .unset, .unset, .unset, .unset, .unset] [(.int (64 : Int32)), (.int p3)])) _
    refine own_irem X5.here hx rfl (hb hby at_37) rfl hnz37 ?_
    show Steps p.tables e below (T5.setTop (mkF m 38 #[.val (.int p1), .val (.long q2), .second, .val (.int p3), .val (.int p4), .val (.int (p4 &&& (3 : Int32))), .val (.double (own_sc p4)), .second, .val (.int (p1 &&& (3 : Int32))), .val (.long (own_H q2)), .second, .unset, .unset, .unset, .unset, .unset, .unset, .unset, .unset, .unset, .unset, .unset, .unset, .unset, .unset, .unset, .unset, .unset] [(.int (p3 % (64 : Int32)))])) _
    refine XS.i2l X5.here hx rfl (hb hby at_38) rfl ?_
    refine XS.lstore X5.here hx rfl (hb hby at_39) rfl (l' := #[.val (.int p1), .val (.long q2), .second, .val (.int p3), .val (.int p4), .val (.int (p4 &&& (3 : Int32))), .val (.double (own_sc p4)), .second, .val (.int (p1 &&& (3 : Int32))), .val (.long (own_H q2)), .second, .val (.long (own_dl p3)), .second, .unset, .unset, .unset, .unset, .unset, .unset, .unset, .unset, .unset, .unset, .unset, .unset, .unset, .unset, .unset]) rfl ?_
    show Steps p.tables e below (T5.setTop (mkF m 41 #[.val (.int p1), .val (.long q2), .second, .val (.int p3), .val (.int p4), .val (.int (p4 &&& (3 : Int32))), .val (.double (own_sc p4)), .second, .val (.int (p1 &&& (3 : Int32))), .val (.long (own_H q2)), .second, .val (.long (own_dl p3)), .second, .unset, .unset, .unset, .unset, .unset, .unset, .unset, .unset, .unset, .unset, .unset, .unset, .unset, .unset, .unset] [])) _
    refine XS.lload X5.here hx rfl (hb hby at_41) rfl ?_
    refine XS.bipush X5.here hx rfl (hb hby at_43) ?_
    show Steps p.tables e below (T5.setTop (mkF m 45 #[.val (.int p1), .val (.long q2), .second, .val (.int p3), .val (.int p4), .val (.int (p4 &&& (3 : Int32))), .val (.double (own_sc p4)), .second, .val (.int (p1 &&& (3 : Int32))), .val (.long (own_H q2)), .second, .val (.long (own_dl p3)), .second, .unset, .unset, .unset, .unset, .unset, .unset, .unset, .unset, .unset, .unset, .unset, .unset, .unset, .unset, .unset] [(.int (48 : Int32)), (.long (own_H q2))])) _
    refine XS.lushr X5.here hx rfl (hb hby at_45) rfl ?_
    refine XS.lstore X5.here hx rfl (hb hby at_46) rfl (l' := #[.val (.int p1), .val (.long q2), .second, .val (.int p3), .val (.int p4), .val (.int (p4 &&& (3 : Int32))), .val (.double (own_sc p4)), .second, .val (.int (p1 &&& (3 : Int32))), .val (.long (own_H q2)), .second, .val (.long (own_dl p3)), .second, .val (.long (own_q q2)), .second, .unset, .unset, .unset, .unset, .unset, .unset, .unset, .unset, .unset, .unset, .unset, .unset, .unset]) rfl ?_
    show Steps p.tables e below (T5.setTop (mkF m 48 #[.val (.int p1), .val (.long q2), .second, .val (.int p3), .val (.int p4), .val (.int (p4 &&& (3 : Int32))), .val (.double (own_sc p4)), .second, .val (.int (p1 &&& (3 : Int32))), .val (.long (own_H q2)), .second, .val (.long (own_dl p3)), .second, .val (.long (own_q q2)), .second, .unset, .unset, .unset, .unset, .unset, .unset, .unset, .unset, .unset, .unset, .unset, .unset, .unset] [])) _
    refine XS.lload X5.here hx rfl (hb hby at_48) rfl ?_
    show Steps p.tables e below (T5.setTop (mkF m 50 #[.val (.int p1), .val (.long q2), .second, .val (.int p3), .val (.int p4), .val (.int (p4 &&& (3 : Int32))), .val (.double (own_sc p4)), .second, .val (.int (p1 &&& (3 : Int32))), .val (.long (own_H q2)), .second, .val (.long (own_dl p3)), .second, .val (.long (own_q q2)), .second, .unset, .unset, .unset, .unset, .unset, .unset, .unset, .unset, .unset, .unset, .unset, .unset, .unset] [(.long (own_H q2))])) _
    refine X5.ldc2Long hx hown (mvT hZ (hw _ (List.mem_of_getElem? (i := 6) rfl))) (g := (mkF m 50 #[.val (.int p1), .val (.long q2), .second, .val (.int p3), .val (.int p4), .val (.int (p4 &&& (3 : Int32))), .val (.double (own_sc p4)), .second, .val (.int (p1 &&& (3 : Int32))), .val (.long (own_H q2)), .second, .val (.long (own_dl p3)), .second, .val (.long (own_q q2)), .second, .unset, .unset, .unset, .unset, .unset, .unset, .unset, .unset, .unset, .unset, .unset, .unset, .unset] [(.long (own_H q2))])) rfl (hb hby at_50) _ ?_
    show Steps p.tables e below (T5.setTop (mkF m 53 #[.val (.int p1), .val (.long q2), .second, .val (.int p3), .val (.int p4), .val (.int (p4 &&& (3 : Int32))), .val (.double (own_sc p4)), .second, .val (.int (p1 &&& (3 : Int32))), .val (.long (own_H q2)), .second, .val (.long (own_dl p3)), .second, .val (.long (own_q q2)), .second, .unset, .unset, .unset, .unset, .unset, .unset, .unset, .unset, .unset, .unset, .unset, .unset, .unset] [(.long (281474976710655 : Int64)), (.long (own_H q2))])) _
    refine XS.land X5.here hx rfl (hb hby at_53) rfl ?_
    refine XS.lstore X5.here hx rfl (hb hby at_54) rfl (l' := #[.val (.int p1), .val (.long q2), .second, .val (.int p3), .val (.int p4), .val (.int (p4 &&& (3 : Int32))), .val (.double (own_sc p4)), .second, .val (.int (p1 &&& (3 : Int32))), .val (.long (own_H q2)), .second, .val (.long (own_dl p3)), .second, .val (.long (own_q q2)), .second, .val (.long (own_r q2)), .second, .unset, .unset, .unset, .unset, .unset, .unset, .unset, .unset, .unset, .unset, .unset]) rfl ?_
    show Steps p.tables e below (T5.setTop (mkF m 56 #[.val (.int p1), .val (.long q2), .second, .val (.int p3), .val (.int p4), .val (.int (p4 &&& (3 : Int32))), .val (.double (own_sc p4)), .second, .val (.int (p1 &&& (3 : Int32))), .val (.long (own_H q2)), .second, .val (.long (own_dl p3)), .second, .val (.long (own_q q2)), .second, .val (.long (own_r q2)), .second, .unset, .unset, .unset, .unset, .unset, .unset, .unset, .unset, .unset, .unset, .unset] [])) _
    refine X5.ldc2Long hx hown (mvT hZ (hw _ (List.mem_of_getElem? (i := 7) rfl))) (g := (mkF m 56 #[.val (.int p1), .val (.long q2), .second, .val (.int p3), .val (.int p4), .val (.int (p4 &&& (3 : Int32))), .val (.double (own_sc p4)), .second, .val (.int (p1 &&& (3 : Int32))), .val (.long (own_H q2)), .second, .val (.long (own_dl p3)), .second, .val (.long (own_q q2)), .second, .val (.long (own_r q2)), .second, .unset, .unset, .unset, .unset, .unset, .unset, .unset, .unset, .unset, .unset, .unset] [])) rfl (hb hby at_56) _ ?_
    show Steps p.tables e below (T5.setTop (mkF m 59 #[.val (.int p1), .val (.long q2), .second, .val (.int p3), .val (.int p4), .val (.int (p4 &&& (3 : Int32))), .val (.double (own_sc p4)), .second, .val (.int (p1 &&& (3 : Int32))), .val (.long (own_H q2)), .second, .val (.long (own_dl p3)), .second, .val (.long (own_q q2)), .second, .val (.long (own_r q2)), .second, .unset, .unset, .unset, .unset, .unset, .unset, .unset, .unset, .unset, .unset, .unset] [(.long (140737488355328 : Int64))])) _
    refine XS.lstore X5.here hx rfl (hb hby at_59) rfl (l' := #[.val (.int p1), .val (.long q2), .second, .val (.int p3), .val (.int p4), .val (.int (p4 &&& (3 : Int32))), .val (.double (own_sc p4)), .second, .val (.int (p1 &&& (3 : Int32))), .val (.long (own_H q2)), .second, .val (.long (own_dl p3)), .second, .val (.long (own_q q2)), .second, .val (.long (own_r q2)), .second, .val (.long (140737488355328 : Int64)), .second, .unset, .unset, .unset, .unset, .unset, .unset, .unset, .unset, .unset]) rfl ?_
    refine XS.lload X5.here hx rfl (hb hby at_61) rfl ?_
    show Steps p.tables e below (T5.setTop (mkF m 63 #[.val (.int p1), .val (.long q2), .second, .val (.int p3), .val (.int p4), .val (.int (p4 &&& (3 : Int32))), .val (.double (own_sc p4)), .second, .val (.int (p1 &&& (3 : Int32))), .val (.long (own_H q2)), .second, .val (.long (own_dl p3)), .second, .val (.long (own_q q2)), .second, .val (.long (own_r q2)), .second, .val (.long (140737488355328 : Int64)), .second, .unset, .unset, .unset, .unset, .unset, .unset, .unset, .unset, .unset] [(.long (own_r q2))])) _
    refine XS.lload X5.here hx rfl (hb hby at_63) rfl ?_
    refine XS.lcmp X5.here hx rfl (hb hby at_65) rfl ?_
    show Steps p.tables e below (T5.setTop (mkF m 66 #[.val (.int p1), .val (.long q2), .second, .val (.int p3), .val (.int p4), .val (.int (p4 &&& (3 : Int32))), .val (.double (own_sc p4)), .second, .val (.int (p1 &&& (3 : Int32))), .val (.long (own_H q2)), .second, .val (.long (own_dl p3)), .second, .val (.long (own_q q2)), .second, .val (.long (own_r q2)), .second, .val (.long (140737488355328 : Int64)), .second, .unset, .unset, .unset, .unset, .unset, .unset, .unset, .unset, .unset] [(.int (lcmpW (own_r q2) (140737488355328 : Int64)))])) _
    refine XS.ifYes X5.here hx rfl (pc0 := 66) (pc' := 75) rfl (hb hby at_66) rfl ((if0 _ _).trans (flt hc66).2.2.2) (by decide) (by decide) ?_
    refine XS.lload X5.here hx rfl (hb hby at_75) rfl ?_
    show Steps p.tables e below (T5.setTop (mkF m 77 #[.val (.int p1), .val (.long q2), .second, .val (.int p3), .val (.int p4), .val (.int (p4 &&& (3 : Int32))), .val (.double (own_sc p4)), .second, .val (.int (p1 &&& (3 : Int32))), .val (.long (own_H q2)), .second, .val (.long (own_dl p3)), .second, .val (.long (own_q q2)), .second, .val (.long (own_r q2)), .second, .val (.long (140737488355328 : Int64)), .second, .unset, .unset, .unset, .unset, .unset, .unset, .unset, .unset, .unset] [(.long (own_r q2))])) _
    refine XS.lload X5.here hx rfl (hb hby at_77) rfl ?_
    refine XS.lcmp X5.here hx rfl (hb hby at_79) rfl ?_
    show Steps p.tables e below (T5.setTop (mkF m 80 #[.val (.int p1), .val (.long q2), .second, .val (.int p3), .val (.int p4), .val (.int (p4 &&& (3 : Int32))), .val (.double (own_sc p4)), .second, .val (.int (p1 &&& (3 : Int32))), .val (.long (own_H q2)), .second, .val (.long (own_dl p3)), .second, .val (.long (own_q q2)), .second, .val (.long (own_r q2)), .second, .val (.long (140737488355328 : Int64)), .second, .unset, .unset, .unset, .unset, .unset, .unset, .unset, .unset, .unset] [(.int (lcmpW (own_r q2) (140737488355328 : Int64)))])) _
    refine XS.ifYes X5.here hx rfl (pc0 := 80) (pc' := 89) rfl (hb hby at_80) rfl ((if0 _ _).trans (flt hc80).2.1) (by decide) (by decide) ?_
    refine XS.lload X5.here hx rfl (hb hby at_89) rfl ?_
    show Steps p.tables e below (T5.setTop (mkF m 91 #[.val (.int p1), .val (.long q2), .second, .val (.int p3), .val (.int p4), .val (.int (p4 &&& (3 : Int32))), .val (.double (own_sc p4)), .second, .val (.int (p1 &&& (3 : Int32))), .val (.long (own_H q2)), .second, .val (.long (own_dl p3)), .second, .val (.long (own_q q2)), .second, .val (.long (own_r q2)), .second, .val (.long (140737488355328 : Int64)), .second, .unset, .unset, .unset, .unset, .unset, .unset, .unset, .unset, .unset] [(.long (own_H q2))])) _
    refine XS.lload X5.here hx rfl (hb hby at_91) rfl ?_
    refine XS.ladd X5.here hx rfl (hb hby at_93) rfl ?_
    show Steps p.tables e below (T5.setTop (mkF m 94 #[.val (.int p1), .val (.long q2), .second, .val (.int p3), .val (.int p4), .val (.int (p4 &&& (3 : Int32))), .val (.double (own_sc p4)), .second, .val (.int (p1 &&& (3 : Int32))), .val (.long (own_H q2)), .second, .val (.long (own_dl p3)), .second, .val (.long (own_q q2)), .second, .val (.long (own_r q2)), .second, .val (.long (140737488355328 : Int64)), .second, .unset, .unset, .unset, .unset, .unset, .unset, .unset, .unset, .unset] [(.long (own_hq1 q2))])) _
    refine XS.lconst X5.here hx rfl (hb hby at_94) ?_
    refine XS.land X5.here hx rfl (hb hby at_95) rfl ?_
    show Steps p.tables e below (T5.setTop (mkF m 96 #[.val (.int p1), .val (.long q2), .second, .val (.int p3), .val (.int p4), .val (.int (p4 &&& (3 : Int32))), .val (.double (own_sc p4)), .second, .val (.int (p1 &&& (3 : Int32))), .val (.long (own_H q2)), .second, .val (.long (own_dl p3)), .second, .val (.long (own_q q2)), .second, .val (.long (own_r q2)), .second, .val (.long (140737488355328 : Int64)), .second, .unset, .unset, .unset, .unset, .unset, .unset, .unset, .unset, .unset] [(.long ((own_hq1 q2) &&& (1 : Int64)))])) _
    refine XS.lconst X5.here hx rfl (hb hby at_96) ?_
    refine XS.lcmp X5.here hx rfl (hb hby at_97) rfl ?_
    show Steps p.tables e below (T5.setTop (mkF m 98 #[.val (.int p1), .val (.long q2), .second, .val (.int p3), .val (.int p4), .val (.int (p4 &&& (3 : Int32))), .val (.double (own_sc p4)), .second, .val (.int (p1 &&& (3 : Int32))), .val (.long (own_H q2)), .second, .val (.long (own_dl p3)), .second, .val (.long (own_q q2)), .second, .val (.long (own_r q2)), .second, .val (.long (140737488355328 : Int64)), .second, .unset, .unset, .unset, .unset, .unset, .unset, .unset, .unset, .unset] [(.int (lcmpW ((own_hq1 q2) &&& (1 : Int64)) (0 : Int64)))])) _
    refine XS.ifNo X5.here hx rfl (hb hby at_98) rfl ((if0 _ _).trans (teq hc98).2) ?_
    refine XS.lconst X5.here hx rfl (hb hby at_101) ?_
    show Steps p.tables e below (T5.setTop (mkF m 102 #[.val (.int p1), .val (.long q2), .second, .val (.int p3), .val (.int p4), .val (.int (p4 &&& (3 : Int32))), .val (.double (own_sc p4)), .second, .val (.int (p1 &&& (3 : Int32))), .val (.long (own_H q2)), .second, .val (.long (own_dl p3)), .second, .val (.long (own_q q2)), .second, .val (.long (own_r q2)), .second, .val (.long (140737488355328 : Int64)), .second, .unset, .unset, .unset, .unset, .unset, .unset, .unset, .unset, .unset] [(.long (0 : Int64))])) _
    refine XS.goto X5.here hx rfl (pc0 := 102) (pc' := 106) rfl (hb hby at_102) (by decide) (by decide) ?_
    refine XS.lstore X5.here hx rfl (hb hby at_106) rfl (l' := #[.val (.int p1), .val (.long q2), .second, .val (.int p3), .val (.int p4), .val (.int (p4 &&& (3 : Int32))), .val (.double (own_sc p4)), .second, .val (.int (p1 &&& (3 : Int32))), .val (.long (own_H q2)), .second, .val (.long (own_dl p3)), .second, .val (.long (own_q q2)), .second, .val (.long (own_r q2)), .second, .val (.long (140737488355328 : Int64)), .second, .val (.long (0 : Int64)), .second, .unset, .unset, .unset, .unset, .unset, .unset, .unset]) rfl ?_
    show Steps p.tables e below (T5.setTop (mkF m 108 #[.val (.int p1), .val (.long q2), .second, .val (.int p3), .val (.int p4), .val (.int (p4 &&& (3 : Int32))), .val (.double (own_sc p4)), .second, .val (.int (p1 &&& (3 : Int32))), .val (.long (own_H q2)), .second, .val (.long (own_dl p3)), .second, .val (.long (own_q q2)), .second, .val (.long (own_r q2)), .second, .val (.long (140737488355328 : Int64)), .second, .val (.long (0 : Int64)), .second, .unset, .unset, .unset, .unset, .unset, .unset, .unset] [])) _
    refine XS.lload X5.here hx rfl (hb hby at_108) rfl ?_
    refine XS.lload X5.here hx rfl (hb hby at_110) rfl ?_
    show Steps p.tables e below (T5.setTop (mkF m 112 #[.val (.int p1), .val (.long q2), .second, .val (.int p3), .val (.int p4), .val (.int (p4 &&& (3 : Int32))), .val (.double (own_sc p4)), .second, .val (.int (p1 &&& (3 : Int32))), .val (.long (own_H q2)), .second, .val (.long (own_dl p3)), .second, .val (.long (own_q q2)), .second, .val (.long (own_r q2)), .second, .val (.long (140737488355328 : Int64)), .second, .val (.long (0 : Int64)), .second, .unset, .unset, .unset, .unset, .unset, .unset, .unset] [(.long (own_q q2)), (.long (own_H q2))])) _
    refine XS.ladd X5.here hx rfl (hb hby at_112) rfl ?_
    refine XS.lload X5.here hx rfl (hb hby at_113) rfl ?_
    show Steps p.tables e below (T5.setTop (mkF m 115 #[.val (.int p1), .val (.long q2), .second, .val (.int p3), .val (.int p4), .val (.int (p4 &&& (3 : Int32))), .val (.double (own_sc p4)), .second, .val (.int (p1 &&& (3 : Int32))), .val (.long (own_H q2)), .second, .val (.long (own_dl p3)), .second, .val (.long (own_q q2)), .second, .val (.long (own_r q2)), .second, .val (.long (140737488355328 : Int64)), .second, .val (.long (0 : Int64)), .second, .unset, .unset, .unset, .unset, .unset, .unset, .unset] [(.long (0 : Int64)), (.long (own_hq1 q2))])) _
    refine XS.ladd X5.here hx rfl (hb hby at_115) rfl ?_
    refine XS.lstore X5.here hx rfl (hb hby at_116) rfl (l' := #[.val (.int p1), .val (.long q2), .second, .val (.int p3), .val (.int p4), .val (.int (p4 &&& (3 : Int32))), .val (.double (own_sc p4)), .second, .val (.int (p1 &&& (3 : Int32))), .val (.long (own_H q2)), .second, .val (.long (own_dl p3)), .second, .val (.long (own_q q2)), .second, .val (.long (own_r q2)), .second, .val (.long (140737488355328 : Int64)), .second, .val (.long (0 : Int64)), .second, .val (.long ((own_hq1 q2) + (0 : Int64))), .second, .unset, .unset, .unset, .unset, .unset]) rfl ?_
    show Steps p.tables e below (T5.setTop (mkF m 118 #[.val (.int p1), .val (.long q2), .second, .val (.int p3), .val (.int p4), .val (.int (p4 &&& (3 : Int32))), .val (.double (own_sc p4)), .second, .val (.int (p1 &&& (3 : Int32))), .val (.long (own_H q2)), .second, .val (.long (own_dl p3)), .second, .val (.long (own_q q2)), .second, .val (.long (own_r q2)), .second, .val (.long (140737488355328 : Int64)), .second, .val (.long (0 : Int64)), .second, .val (.long ((own_hq1 q2) + (0 : Int64))), .second, .unset, .unset, .unset, .unset, .unset] [])) _
    refine XS.lload X5.here hx rfl (hb hby at_118) rfl ?_
    refine XS.l2dS X5.here hx rfl (hb hby at_120) rfl rfl ?_
    show Steps p.tables e below (T5.setTop (mkF m 121 #[.val (.int p1), .val (.long q2), .second, .val (.int p3), .val (.int p4), .val (.int (p4 &&& (3 : Int32))), .val (.double (own_sc p4)), .second, .val (.int (p1 &&& (3 : Int32))), .val (.long (own_H q2)), .second, .val (.long (own_dl p3)), .second, .val (.long (own_q q2)), .second, .val (.long (own_r q2)), .second, .val (.long (140737488355328 : Int64)), .second, .val (.long (0 : Int64)), .second, .val (.long ((own_hq1 q2) + (0 : Int64))), .second, .unset, .unset, .unset, .unset, .unset] [(.double (FP.l2d (own_H q2)))])) _
    refine XS.dload X5.here hx rfl (hb hby at_121) rfl ?_
    refine XS.dmulS X5.here hx rfl (hb hby at_123) rfl hnn123 rfl ?_
    show Steps p.tables e below (T5.setTop (mkF m 124 #[.val (.int p1), .val (.long q2), .second, .val (.int p3), .val (.int p4), .val (.int (p4 &&& (3 : Int32))), .val (.double (own_sc p4)), .second, .val (.int (p1 &&& (3 : Int32))), .val (.long (own_H q2)), .second, .val (.long (own_dl p3)), .second, .val (.long (own_q q2)), .second, .val (.long (own_r q2)), .second, .val (.long (140737488355328 : Int64)), .second, .val (.long (0 : Int64)), .second, .val (.long ((own_hq1 q2) + (0 : Int64))), .second, .unset, .unset, .unset, .unset, .unset] [(.double (FP.dmul (FP.l2d (own_H q2)) (own_sc p4)))])) _
    refine XS.dstore X5.here hx rfl (hb hby at_124) rfl (l' := #[.val (.int p1), .val (.long q2), .second, .val (.int p3), .val (.int p4), .val (.int (p4 &&& (3 : Int32))), .val (.double (own_sc p4)), .second, .val (.int (p1 &&& (3 : Int32))), .val (.long (own_H q2)), .second, .val (.long (own_dl p3)), .second, .val (.long (own_q q2)), .second, .val (.long (own_r q2)), .second, .val (.long (140737488355328 : Int64)), .second, .val (.long (0 : Int64)), .second, .val (.long ((own_hq1 q2) + (0 : Int64))), .second, .val (.double (FP.dmul (FP.l2d (own_H q2)) (own_sc p4))), .second, .unset, .unset, .unset]) rfl ?_
    refine XS.lload X5.here hx rfl (hb hby at_126) rfl ?_
    show Steps p.tables e below (T5.setTop (mkF m 128 #[.val (.int p1), .val (.long q2), .second, .val (.int p3), .val (.int p4), .val (.int (p4 &&& (3 : Int32))), .val (.double (own_sc p4)), .second, .val (.int (p1 &&& (3 : Int32))), .val (.long (own_H q2)), .second, .val (.long (own_dl p3)), .second, .val (.long (own_q q2)), .second, .val (.long (own_r q2)), .second, .val (.long (140737488355328 : Int64)), .second, .val (.long (0 : Int64)), .second, .val (.long ((own_hq1 q2) + (0 : Int64))), .second, .val (.double (FP.dmul (FP.l2d (own_H q2)) (own_sc p4))), .second, .unset, .unset, .unset] [(.long (own_H q2))])) _
    refine XS.lload X5.here hx rfl (hb hby at_128) rfl ?_
    refine XS.ladd X5.here hx rfl (hb hby at_130) rfl ?_
    show Steps p.tables e below (T5.setTop (mkF m 131 #[.val (.int p1), .val (.long q2), .second, .val (.int p3), .val (.int p4), .val (.int (p4 &&& (3 : Int32))), .val (.double (own_sc p4)), .second, .val (.int (p1 &&& (3 : Int32))), .val (.long (own_H q2)), .second, .val (.long (own_dl p3)), .second, .val (.long (own_q q2)), .second, .val (.long (own_r q2)), .second, .val (.long (140737488355328 : Int64)), .second, .val (.long (0 : Int64)), .second, .val (.long ((own_hq1 q2) + (0 : Int64))), .second, .val (.double (FP.dmul (FP.l2d (own_H q2)) (own_sc p4))), .second, .unset, .unset, .unset] [(.long (own_m q2 p3))])) _
    refine XS.l2dS X5.here hx rfl (hb hby at_131) rfl rfl ?_
    refine XS.dload X5.here hx rfl (hb hby at_132) rfl ?_
    show Steps p.tables e below (T5.setTop (mkF m 134 #[.val (.int p1), .val (.long q2), .second, .val (.int p3), .val (.int p4), .val (.int (p4 &&& (3 : Int32))), .val (.double (own_sc p4)), .second, .val (.int (p1 &&& (3 : Int32))), .val (.long (own_H q2)), .second, .val (.long (own_dl p3)), .second, .val (.long (own_q q2)), .second, .val (.long (own_r q2)), .second, .val (.long (140737488355328 : Int64)), .second, .val (.long (0 : Int64)), .second, .val (.long ((own_hq1 q2) + (0 : Int64))), .second, .val (.double (FP.dmul (FP.l2d (own_H q2)) (own_sc p4))), .second, .unset, .unset, .unset] [(.double (own_sc p4)), (.double (FP.l2d (own_m q2 p3)))])) _
    refine XS.dmulS X5.here hx rfl (hb hby at_134) rfl hnn134 rfl ?_
    refine XS.dstore X5.here hx rfl (hb hby at_135) rfl (l' := #[.val (.int p1), .val (.long q2), .second, .val (.int p3), .val (.int p4), .val (.int (p4 &&& (3 : Int32))), .val (.double (own_sc p4)), .second, .val (.int (p1 &&& (3 : Int32))), .val (.long (own_H q2)), .second, .val (.long (own_dl p3)), .second, .val (.long (own_q q2)), .second, .val (.long (own_r q2)), .second, .val (.long (140737488355328 : Int64)), .second, .val (.long (0 : Int64)), .second, .val (.long ((own_hq1 q2) + (0 : Int64))), .second, .val (.double (FP.dmul (FP.l2d (own_H q2)) (own_sc p4))), .second, .val (.double (FP.dmul (FP.l2d (own_m q2 p3)) (own_sc p4))), .second, .unset]) rfl ?_
    show Steps p.tables e below (T5.setTop (mkF m 137 #[.val (.int p1), .val (.long q2), .second, .val (.int p3), .val (.int p4), .val (.int (p4 &&& (3 : Int32))), .val (.double (own_sc p4)), .second, .val (.int (p1 &&& (3 : Int32))), .val (.long (own_H q2)), .second, .val (.long (own_dl p3)), .second, .val (.long (own_q q2)), .second, .val (.long (own_r q2)), .second, .val (.long (140737488355328 : Int64)), .second, .val (.long (0 : Int64)), .second, .val (.long ((own_hq1 q2) + (0 : Int64))), .second, .val (.double (FP.dmul (FP.l2d (own_H q2)) (own_sc p4))), .second, .val (.double (FP.dmul (FP.l2d (own_m q2 p3)) (own_sc p4))), .second, .unset] [])) _
    refine XS.lload X5.here hx rfl (hb hby at_137) rfl ?_
    refine XS.lload X5.here hx rfl (hb hby at_139) rfl ?_
    show Steps p.tables e below (T5.setTop (mkF m 141 #[.val (.int p1), .val (.long q2), .second, .val (.int p3), .val (.int p4), .val (.int (p4 &&& (3 : Int32))), .val (.double (own_sc p4)), .second, .val (.int (p1 &&& (3 : Int32))), .val (.long (own_H q2)), .second, .val (.long (own_dl p3)), .second, .val (.long (own_q q2)), .second, .val (.long (own_r q2)), .second, .val (.long (140737488355328 : Int64)), .second, .val (.long (0 : Int64)), .second, .val (.long ((own_hq1 q2) + (0 : Int64))), .second, .val (.double (FP.dmul (FP.l2d (own_H q2)) (own_sc p4))), .second, .val (.double (FP.dmul (FP.l2d (own_m q2 p3)) (own_sc p4))), .second, .unset] [(.long (own_dl p3)), (.long (own_H q2))])) _
    refine XS.ladd X5.here hx rfl (hb hby at_141) rfl ?_
    refine XS.lload X5.here hx rfl (hb hby at_142) rfl ?_
    show Steps p.tables e below (T5.setTop (mkF m 144 #[.val (.int p1), .val (.long q2), .second, .val (.int p3), .val (.int p4), .val (.int (p4 &&& (3 : Int32))), .val (.double (own_sc p4)), .second, .val (.int (p1 &&& (3 : Int32))), .val (.long (own_H q2)), .second, .val (.long (own_dl p3)), .second, .val (.long (own_q q2)), .second, .val (.long (own_r q2)), .second, .val (.long (140737488355328 : Int64)), .second, .val (.long (0 : Int64)), .second, .val (.long ((own_hq1 q2) + (0 : Int64))), .second, .val (.double (FP.dmul (FP.l2d (own_H q2)) (own_sc p4))), .second, .val (.double (FP.dmul (FP.l2d (own_m q2 p3)) (own_sc p4))), .second, .unset] [(.long ((own_hq1 q2) + (0 : Int64))), (.long (own_m q2 p3))])) _
    refine XS.lcmp X5.here hx rfl (hb hby at_144) rfl ?_
    refine XS.ifYes X5.here hx rfl (pc0 := 145) (pc' := 152) rfl (hb hby at_145) rfl ((if0 _ _).trans (flt hc145).2.2.2) (by decide) (by decide) ?_
    show Steps p.tables e below (T5.setTop (mkF m 152 #[.val (.int p1), .val (.long q2), .second, .val (.int p3), .val (.int p4), .val (.int (p4 &&& (3 : Int32))), .val (.double (own_sc p4)), .second, .val (.int (p1 &&& (3 : Int32))), .val (.long (own_H q2)), .second, .val (.long (own_dl p3)), .second, .val (.long (own_q q2)), .second, .val (.long (own_r q2)), .second, .val (.long (140737488355328 : Int64)), .second, .val (.long (0 : Int64)), .second, .val (.long ((own_hq1 q2) + (0 : Int64))), .second, .val (.double (FP.dmul (FP.l2d (own_H q2)) (own_sc p4))), .second, .val (.double (FP.dmul (FP.l2d (own_m q2 p3)) (own_sc p4))), .second, .unset] [])) _
    refine XS.iconst X5.here hx rfl (hb hby at_152) ?_
    refine XS.istore X5.here hx rfl (hb hby at_153) rfl (l' := #[.val (.int p1), .val (.long q2), .second, .val (.int p3), .val (.int p4), .val (.int (p4 &&& (3 : Int32))), .val (.double (own_sc p4)), .second, .val (.int (p1 &&& (3 : Int32))), .val (.long (own_H q2)), .second, .val (.long (own_dl p3)), .second, .val (.long (own_q q2)), .second, .val (.long (own_r q2)), .second, .val (.long (140737488355328 : Int64)), .second, .val (.long (0 : Int64)), .second, .val (.long ((own_hq1 q2) + (0 : Int64))), .second, .val (.double (FP.dmul (FP.l2d (own_H q2)) (own_sc p4))), .second, .val (.double (FP.dmul (FP.l2d (own_m q2 p3)) (own_sc p4))), .second, .val (.int (0 : Int32))]) rfl ?_
    show Steps p.tables e below (T5.setTop (mkF m 155 #[.val (.int p1), .val (.long q2), .second, .val (.int p3), .val (.int p4), .val (.int (p4 &&& (3 : Int32))), .val (.double (own_sc p4)), .second, .val (.int (p1 &&& (3 : Int32))), .val (.long (own_H q2)), .second, .val (.long (own_dl p3)), .second, .val (.long (own_q q2)), .second, .val (.long (own_r q2)), .second, .val (.long (140737488355328 : Int64)), .second, .val (.long (0 : Int64)), .second, .val (.long ((own_hq1 q2) + (0 : Int64))), .second, .val (.double (FP.dmul (FP.l2d (own_H q2)) (own_sc p4))), .second, .val (.double (FP.dmul (FP.l2d (own_m q2 p3)) (own_sc p4))), .second, .val (.int (0 : Int32))] [])) _
    refine XS.dload X5.here hx rfl (hb hby at_155) rfl ?_
    refine XS.dload X5.here hx rfl (hb hby at_157) rfl ?_
    show Steps p.tables e below (T5.setTop (mkF m 159 #[.val (.int p1), .val (.long q2), .second, .val (.int p3), .val (.int p4), .val (.int (p4 &&& (3 : Int32))), .val (.double (own_sc p4)), .second, .val (.int (p1 &&& (3 : Int32))), .val (.long (own_H q2)), .second, .val (.long (own_dl p3)), .second, .val (.long (own_q q2)), .second, .val (.long (own_r q2)), .second, .val (.long (140737488355328 : Int64)), .second, .val (.long (0 : Int64)), .second, .val (.long ((own_hq1 q2) + (0 : Int64))), .second, .val (.double (FP.dmul (FP.l2d (own_H q2)) (own_sc p4))), .second, .val (.double (FP.dmul (FP.l2d (own_m q2 p3)) (own_sc p4))), .second, .val (.int (0 : Int32))] [(.double (FP.dmul (FP.l2d (own_H q2)) (own_sc p4))), (.double (FP.dmul (FP.l2d (own_m q2 p3)) (own_sc p4)))])) _
    refine st6 _ ?_
    show Steps p.tables e below (T6.setTop (mkF m 162 #[.val (.int p1), .val (.long q2), .second, .val (.int p3), .val (.int p4), .val (.int (p4 &&& (3 : Int32))), .val (.double (own_sc p4)), .second, .val (.int (p1 &&& (3 : Int32))), .val (.long (own_H q2)), .second, .val (.long (own_dl p3)), .second, .val (.long (own_q q2)), .second, .val (.long (own_r q2)), .second, .val (.long (140737488355328 : Int64)), .second, .val (.long (0 : Int64)), .second, .val (.long ((own_hq1 q2) + (0 : Int64))), .second, .val (.double (FP.dmul (FP.l2d (own_H q2)) (own_sc p4))), .second, .val (.double (FP.dmul (FP.l2d (own_m q2 p3)) (own_sc p4))), .second, .val (.int (0 : Int32))] [(.int (own_ich (FP.dmul (FP.l2d (own_m q2 p3)) (own_sc p4)) (FP.dmul (FP.l2d (own_H q2)) (own_sc p4))))])) _
    refine XS.iload X6.here hx rfl (hb hby at_162) rfl ?_
    refine XS.icmpNo X6.here hx rfl (hb hby at_164) rfl (teq (own_fin0 (own_u3 hc66 hc80 hc98) hc145 : (own_ich (FP.dmul (FP.l2d (own_m q2 p3)) (own_sc p4)) (FP.dmul (FP.l2d (own_H q2)) (own_sc p4))) = (0 : Int32))).2 ?_
    show Steps p.tables e below (T6.setTop (mkF m 167 #[.val (.int p1), .val (.long q2), .second, .val (.int p3), .val (.int p4), .val (.int (p4 &&& (3 : Int32))), .val (.double (own_sc p4)), .second, .val (.int (p1 &&& (3 : Int32))), .val (.long (own_H q2)), .second, .val (.long (own_dl p3)), .second, .val (.long (own_q q2)), .second, .val (.long (own_r q2)), .second, .val (.long (140737488355328 : Int64)), .second, .val (.long (0 : Int64)), .second, .val (.long ((own_hq1 q2) + (0 : Int64))), .second, .val (.double (FP.dmul (FP.l2d (own_H q2)) (own_sc p4))), .second, .val (.double (FP.dmul (FP.l2d (own_m q2 p3)) (own_sc p4))), .second, .val (.int (0 : Int32))] [])) _
    refine XS.iconst X6.here hx rfl (hb hby at_167) ?_
    refine XS.goto X6.here hx rfl (pc0 := 168) (pc' := 172) rfl (hb hby at_168) (by decide) (by decide) ?_
    show Steps p.tables e below (T6.setTop (mkF m 172 #[.val (.int p1), .val (.long q2), .second, .val (.int p3), .val (.int p4), .val (.int (p4 &&& (3 : Int32))), .val (.double (own_sc p4)), .second, .val (.int (p1 &&& (3 : Int32))), .val (.long (own_H q2)), .second, .val (.long (own_dl p3)), .second, .val (.long (own_q q2)), .second, .val (.long (own_r q2)), .second, .val (.long (140737488355328 : Int64)), .second, .val (.long (0 : Int64)), .second, .val (.long ((own_hq1 q2) + (0 : Int64))), .second, .val (.double (FP.dmul (FP.l2d (own_H q2)) (own_sc p4))), .second, .val (.double (FP.dmul (FP.l2d (own_m q2 p3)) (own_sc p4))), .second, .val (.int (0 : Int32))] [(.int (1 : Int32))])) _
    exact retN X6 hx (t := .boolean) Bd.returns (by simp) (hb hby at_172) hr
  · show Q0 Z p1 q2 p3 p4 h0 n0 _ T6.heap _
    exact ⟨rfl, N6⟩
set_option maxRecDepth 65536 in
set_option maxHeartbeats 40000000 in
theorem rm0_a4t (l : Launch) (Z : State) (a0 : Array Value) (hw : ∀ d ∈ tables_1, d.before a0 Z = true) (ws : List Jvm.Cond) (p1 : Int32) (q2 : Int64) (p3 : Int32) (p4 : Int32) (h0 : Heap) (n0 : Nat) (Z0 : n0 ≤ h0.size) (hc31 : (p1 &&& (3 : Int32)) = (0 : Int32)) (hc66 : ¬ ((0 : Int32) < (lcmpW (own_r q2) (140737488355328 : Int64)))) (hc80 : ¬ ((lcmpW (own_r q2) (140737488355328 : Int64)) < (0 : Int32))) (hc98 : ¬ ((lcmpW ((own_hq1 q2) &&& (1 : Int64)) (0 : Int64)) = (0 : Int32))) (hc145 : (0 : Int32) < (lcmpW (own_m q2 p3) ((own_hq1 q2) + (1 : Int64)))) :
    MetFree l x (head1 (Jvm.Cond.code x code maxLocals ret :: ws) room_1) (fun a U => a = #[(.int p1), (.long q2), (.int p3), (.int p4)] ∧ Z.Warmed39 U.vm ∧ U.heap = h0) (fun _ _ _ _ _ => True) (fun _ U o U' => ∃ v L, o = .returned v ∧ Q0 Z p1 q2 p3 p4 h0 n0 v U'.heap L ∧ FrameEnd U o U' L room_1.cells room_1.slots) := by
  have hnz37 : ¬ ((64 : Int32) = (0 : Int32)) := by decide
  have hnn123 : Jvm.Free.Fl.NoNaN64 (FP.dmul (FP.l2d (own_H q2)) (own_sc p4)) := own_nn _ _
  have hnn134 : Jvm.Free.Fl.NoNaN64 (FP.dmul (FP.l2d (own_m q2 p3)) (own_sc p4)) := own_nn _ _
  refine MetFree.of_bodySF (plainFor_of_name pn_0) hisR ?_
  intro p e s m args below meth c s₁ Bd hml0 hP hK
  obtain ⟨rfl, hZ, hh⟩ := hP
  have hx := Bd.exec
  have hby := Bd.bytes
  have hml : c.maxLocals = 28 := hml0
  have hown : s.vm.findClass "com/example/level_ring/levelring/placement/MembersIsCertainlyHigherPinLaw" = some m.cls := findClass_of_methodNamed Bd.named
  have hnm := (name_of_methodNamed Bd.named Bd.method).1
  have X0 : Stand p l e room_1 s m #[(.int p1), (.long q2), (.int p3), (.int p4)] below meth c s₁ [] 0 0 := Stand.of_body Bd
  have e0 : s₁.heap = h0 := by rw [← hh, Bd.state]; rfl
  have N0 := Fr.nil n0
  have pre0 : ∀ t, Steps p.tables e below (s₁.setTop (mkF m 0 #[.val (.int p1), .val (.long q2), .second, .val (.int p3), .val (.int p4), .unset, .unset, .unset, .unset, .unset, .unset, .unset, .unset, .unset, .unset, .unset, .unset, .unset, .unset, .unset, .unset, .unset, .unset, .unset, .unset, .unset, .unset, .unset] [])) t → Steps p.tables e below (s₁.setTop (entryFrame m #[(.int p1), (.long q2), (.int p3), (.int p4)] maxLocals)) t := fun t k => castTop (ef_0 m p1 q2 p3 p4) k
  -- 3. LAWS
  -- pc 8: com/example/level_ring/levelring/placement/MembersIsCertainlyHigherPinLaw.scaleOf by its contract rm1
  obtain ⟨_, _, ⟨T5, L5, k5, n5⟩, -, X5, ⟨Lc5, hQ5, l5, y5, z5⟩, st5⟩ := Jvm.LawKit.callS X0 hx (y := (⟨"com/example/level_ring/levelring/placement/MembersIsCertainlyHigherPinLaw", "scaleOf", "(I)D"⟩ : MethodName)) hown (mvT hZ (hw _ (List.mem_of_getElem? (i := 0) rfl))) (mvT hZ (hw _ (List.mem_of_getElem? (i := 1) rfl))) (mvT hZ (hw _ (List.mem_of_getElem? (i := 2) rfl))) (mvT hZ (hw _ (List.mem_of_getElem? (i := 3) rfl))) (by decide) (backOf (W := 0) (rm1 l Z a0 hw [] (p4 &&& (3 : Int32))  h0 n0 Z0) hZ (hw _ (List.mem_of_getElem? (i := 3) rfl)) (hw _ (List.mem_of_getElem? (i := 2) rfl)) (by decide) (by decide)) (g := (mkF m 8 #[.val (.int p1), .val (.long q2), .second, .val (.int p3), .val (.int p4), .val (.int (p4 &&& (3 : Int32))), .unset, .unset, .unset, .unset, .unset, .unset, .unset, .unset, .unset, .unset, .unset, .unset, .unset, .unset, .unset, .unset, .unset, .unset, .unset, .unset, .unset, .unset] [(.int (p4 &&& (3 : Int32)))])) rfl (by rw [hml]; rfl) (argsL := [(.int (p4 &&& (3 : Int32)))]) (rest := []) (lenOf pdw_0 rfl) rfl (by show 2 * 0 + _ ≤ _; exact Nat.le_of_eq rfl) (hb hby at_8) (fun _ _ => ⟨rfl, e0, (by decide : 0 + 0 ≤ _), (by decide : 0 + 0 ≤ _)⟩)
  dsimp only [Pt.U, Pt.locs, Pt.cells, Pt.slots] at X5 l5 y5 z5 st5 hQ5
  subst l5 y5 z5
  obtain ⟨rfl, N5q, hh5⟩ := hQ5
  have N5 := Fr.app N0 N5q
  -- pc 159: com/example/level_ring/levelring/placement/Members.isCertainlyHigher by its contract rm2
  obtain ⟨_, _, ⟨T6, L6, k6, n6⟩, -, X6, ⟨Lc6, hQ6, l6, y6, z6⟩, st6⟩ := Jvm.LawKit.callS X5 hx (y := (⟨"com/example/level_ring/levelring/placement/Members", "isCertainlyHigher", "(DD)Z"⟩ : MethodName)) hown (mvT hZ (hw _ (List.mem_of_getElem? (i := 8) rfl))) (mvT hZ (hw _ (List.mem_of_getElem? (i := 9) rfl))) (mvT hZ (hw _ (List.mem_of_getElem? (i := 10) rfl))) (mvT hZ (hw _ (List.mem_of_getElem? (i := 11) rfl))) (by decide) (backOf (W := 0) (rm2 l Z a0 hw [] (FP.dmul (FP.l2d (own_m q2 p3)) (own_sc p4)) (FP.dmul (FP.l2d (own_H q2)) (own_sc p4))  h0 n0 Z0 (dmul_out (own_ms_fin _ (by have := own_H_rng q2; omega)) own_C_fin)) hZ (hw _ (List.mem_of_getElem? (i := 11) rfl)) (hw _ (List.mem_of_getElem? (i := 10) rfl)) (by decide) (by decide)) (g := (mkF m 159 #[.val (.int p1), .val (.long q2), .second, .val (.int p3), .val (.int p4), .val (.int (p4 &&& (3 : Int32))), .val (.double (own_sc p4)), .second, .val (.int (p1 &&& (3 : Int32))), .val (.long (own_H q2)), .second, .val (.long (own_dl p3)), .second, .val (.long (own_q q2)), .second, .val (.long (own_r q2)), .second, .val (.long (140737488355328 : Int64)), .second, .val (.long (1 : Int64)), .second, .val (.long ((own_hq1 q2) + (1 : Int64))), .second, .val (.double (FP.dmul (FP.l2d (own_H q2)) (own_sc p4))), .second, .val (.double (FP.dmul (FP.l2d (own_m q2 p3)) (own_sc p4))), .second, .val (.int (1 : Int32))] [(.double (FP.dmul (FP.l2d (own_H q2)) (own_sc p4))), (.double (FP.dmul (FP.l2d (own_m q2 p3)) (own_sc p4)))])) rfl (by rw [hml]; rfl) (argsL := [(.double (FP.dmul (FP.l2d (own_m q2 p3)) (own_sc p4))), (.double (FP.dmul (FP.l2d (own_H q2)) (own_sc p4)))]) (rest := []) (lenOf pdw_1 rfl) rfl (by show 2 * 0 + _ ≤ _; exact Nat.le_of_eq rfl) (hb hby at_159) (fun _ _ => ⟨rfl, hh5, (by decide : 0 + 0 ≤ _), (by decide : 0 + 0 ≤ _)⟩)
  dsimp only [Pt.U, Pt.locs, Pt.cells, Pt.slots] at X6 l6 y6 z6 st6 hQ6
  subst l6 y6 z6
  obtain ⟨rfl, N6q, hh6⟩ := hQ6
  have N6 := Fr.app N5 N6q
  obtain ⟨fs, hr, hrun, hended, hW, hsame⟩ := X6.leave (v := some (.int (1 : Int32))) (fun h => by rw [Bd.returns] at h; cases h)
  refine ⟨_, _, pre0 _ ?_, hrun, hended, _, _, rfl, ?_, ⟨_, rfl⟩, hW, hsame.mono (by decide) (by decide)⟩
  -- 4. STEPS
  · show Steps p.tables e below (s₁.setTop (mkF m 0 #[.val (.int p1), .val (.long q2), .second, .val (.int p3), .val (.int p4), .unset, .unset, .unset, .unset, .unset, .unset, .unset, .unset, .unset, .unset, .unset, .unset, .unset, .unset, .unset, .unset, .unset, .unset, .unset, .unset, .unset, .unset, .unset] [])) _
    refine XS.iload X0.here hx rfl (hb hby at_0) rfl ?_
    refine XS.iconst X0.here hx rfl (hb hby at_2) ?_
    show Steps p.tables e below (s₁.setTop (mkF m 3 #[.val (.int p1), .val (.long q2), .second, .val (.int p3), .val (.int p4), .unset, .unset, .unset, .unset, .unset, .unset, .unset, .unset, .unset, .unset, .unset, .unset, .unset, .unset, .unset, .unset, .unset, .unset, .unset, .unset, .unset, .unset, .unset] [(.int (3 : Int32)), (.int p4)])) _
    refine XS.iand X0.here hx rfl (hb hby at_3) rfl ?_
    refine XS.istore X0.here hx rfl (hb hby at_4) rfl (l' := #[.val (.int p1), .val (.long q2), .second, .val (.int p3), .val (.int p4), .val (.int (p4 &&& (3 : Int32))), .unset, .unset, .unset, .unset, .unset, .unset, .unset, .unset, .unset, .unset, .unset, .unset, .unset, .unset, .unset, .unset, .unset, .unset, .unset, .unset, .unset, .unset]) rfl ?_
    show Steps p.tables e below (s₁.setTop (mkF m 6 #[.val (.int p1), .val (.long q2), .second, .val (.int p3), .val (.int p4), .val (.int (p4 &&& (3 : Int32))), .unset, .unset, .unset, .unset, .unset, .unset, .unset, .unset, .unset, .unset, .unset, .unset, .unset, .unset, .unset, .unset, .unset, .unset, .unset, .unset, .unset, .unset] [])) _
    refine XS.iload X0.here hx rfl (hb hby at_6) rfl ?_
    show Steps p.tables e below (s₁.setTop (mkF m 8 #[.val (.int p1), .val (.long q2), .second, .val (.int p3), .val (.int p4), .val (.int (p4 &&& (3 : Int32))), .unset, .unset, .unset, .unset, .unset, .unset, .unset, .unset, .unset, .unset, .unset, .unset, .unset, .unset, .unset, .unset, .unset, .unset, .unset, .unset, .unset, .unset] [(.int (p4 &&& (3 : Int32)))])) _
    refine st5 _ ?_
    show Steps p.tables e below (T5.setTop (mkF m 11 #[.val (.int p1), .val (.long q2), .second, .val (.int p3), .val (.int p4), .val (.int (p4 &&& (3 : Int32))), .unset, .unset, .unset, .unset, .unset, .unset, .unset, .unset, .unset, .unset, .unset, .unset, .unset, .unset, .unset, .unset, .unset, .unset, .unset, .unset, .unset, .unset] [(.double (own_sc p4))])) _
    refine XS.dstore X5.here hx rfl (hb hby at_11) rfl (l' := #[.val (.int p1), .val (.long q2), .second, .val (.int p3), .val (.int p4), .val (.int (p4 &&& (3 : Int32))), .val (.double (own_sc p4)), .second, .unset, .unset, .unset, .unset, .unset, .unset, .unset, .unset, .unset, .unset, .unset, .unset, .unset, .unset, .unset, .unset, .unset, .unset, .unset, .unset]) rfl ?_
    refine XS.iloadN X5.here hx rfl (hb hby at_13) rfl ?_
    show Steps p.tables e below (T5.setTop (mkF m 14 #[.val (.int p1), .val (.long q2), .second, .val (.int p3), .val (.int p4), .val (.int (p4 &&& (3 : Int32))), .val (.double (own_sc p4)), .second, .unset, .unset, .unset, .unset, .unset, .unset, .unset, .unset, .unset, .unset, .unset, .unset, .unset, .unset, .unset, .unset, .unset, .unset, .unset, .unset] [(.int p1)])) _
    refine XS.iconst X5.here hx rfl (hb hby at_14) ?_
    refine XS.iand X5.here hx rfl (hb hby at_15) rfl ?_
    show Steps p.tables e below (T5.setTop (mkF m 16 #[.val (.int p1), .val (.long q2), .second, .val (.int p3), .val (.int p4), .val (.int (p4 &&& (3 : Int32))), .val (.double (own_sc p4)), .second, .unset, .unset, .unset, .unset, .unset, .unset, .unset, .unset, .unset, .unset, .unset, .unset, .unset, .unset, .unset, .unset, .unset, .unset, .unset, .unset] [(.int (p1 &&& (3 : Int32)))])) _
    refine XS.istore X5.here hx rfl (hb hby at_16) rfl (l' := #[.val (.int p1), .val (.long q2), .second, .val (.int p3), .val (.int p4), .val (.int (p4 &&& (3 : Int32))), .val (.double (own_sc p4)), .second, .val (.int (p1 &&& (3 : Int32))), .unset, .unset, .unset, .unset, .unset, .unset, .unset, .unset, .unset, .unset, .unset, .unset, .unset, .unset, .unset, .unset, .unset, .unset, .unset]) rfl ?_
    show Steps p.tables e below (T5.setTop (mkF m 18 #[.val (.int p1), .val (.long q2), .second, .val (.int p3), .val (.int p4), .val (.int (p4 &&& (3 : Int32))), .val (.double (own_sc p4)), .second, .val (.int (p1 &&& (3 : Int32))), .unset, .unset, .unset, .unset, .unset, .unset, .unset, .unset, .unset, .unset, .unset, .unset, .unset, .unset, .unset, .unset, .unset, .unset, .unset] [])) _
    refine X5.ldc2Long hx hown (mvT hZ (hw _ (List.mem_of_getElem? (i := 4) rfl))) (g := (mkF m 18 #[.val (.int p1), .val (.long q2), .second, .val (.int p3), .val (.int p4), .val (.int (p4 &&& (3 : Int32))), .val (.double (own_sc p4)), .second, .val (.int (p1 &&& (3 : Int32))), .unset, .unset, .unset, .unset, .unset, .unset, .unset, .unset, .unset, .unset, .unset, .unset, .unset, .unset, .unset, .unset, .unset, .unset, .unset] [])) rfl (hb hby at_18) _ ?_
    show Steps p.tables e below (T5.setTop (mkF m 21 #[.val (.int p1), .val (.long q2), .second, .val (.int p3), .val (.int p4), .val (.int (p4 &&& (3 : Int32))), .val (.double (own_sc p4)), .second, .val (.int (p1 &&& (3 : Int32))), .unset, .unset, .unset, .unset, .unset, .unset, .unset, .unset, .unset, .unset, .unset, .unset, .unset, .unset, .unset, .unset, .unset, .unset, .unset] [(.long (4503599627370496 : Int64))])) _
    refine XS.lloadN X5.here hx rfl (hb hby at_21) rfl ?_
    show Steps p.tables e below (T5.setTop (mkF m 22 #[.val (.int p1), .val (.long q2), .second, .val (.int p3), .val (.int p4), .val (.int (p4 &&& (3 : Int32))), .val (.double (own_sc p4)), .second, .val (.int (p1 &&& (3 : Int32))), .unset, .unset, .unset, .unset, .unset, .unset, .unset, .unset, .unset, .unset, .unset, .unset, .unset, .unset, .unset, .unset, .unset, .unset, .unset] [(.long q2), (.long (4503599627370496 : Int64))])) _
    refine X5.ldc2Long hx hown (mvT hZ (hw _ (List.mem_of_getElem? (i := 5) rfl))) (g := (mkF m 22 #[.val (.int p1), .val (.long q2), .second, .val (.int p3), .val (.int p4), .val (.int (p4 &&& (3 : Int32))), .val (.double (own_sc p4)), .second, .val (.int (p1 &&& (3 : Int32))), .unset, .unset, .unset, .unset, .unset, .unset, .unset, .unset, .unset, .unset, .unset, .unset, .unset, .unset, .unset, .unset, .unset, .unset, .unset] [(.long q2), (.long (4503599627370496 : Int64))])) rfl (hb hby at_22) _ ?_
    show Steps p.tables e below (T5.setTop (mkF m 25 #[.val (.int p1), .val (.long q2), .second, .val (.int p3), .val (.int p4), .val (.int (p4 &&& (3 : Int32))), .val (.double (own_sc p4)), .second, .val (.int (p1 &&& (3 : Int32))), .unset, .unset, .unset, .unset, .unset, .unset, .unset, .unset, .unset, .unset, .unset, .unset, .unset, .unset, .unset, .unset, .unset, .unset, .unset] [(.long (2251799813685247 : Int64)), (.long q2), (.long (4503599627370496 : Int64))])) _
    refine XS.land X5.here hx rfl (hb hby at_25) rfl ?_
    refine XS.lor X5.here hx rfl (hb hby at_26) rfl ?_
    show Steps p.tables e below (T5.setTop (mkF m 27 #[.val (.int p1), .val (.long q2), .second, .val (.int p3), .val (.int p4), .val (.int (p4 &&& (3 : Int32))), .val (.double (own_sc p4)), .second, .val (.int (p1 &&& (3 : Int32))), .unset, .unset, .unset, .unset, .unset, .unset, .unset, .unset, .unset, .unset, .unset, .unset, .unset, .unset, .unset, .unset, .unset, .unset, .unset] [(.long (own_H q2))])) _
    refine XS.lstore X5.here hx rfl (hb hby at_27) rfl (l' := #[.val (.int p1), .val (.long q2), .second, .val (.int p3), .val (.int p4), .val (.int (p4 &&& (3 : Int32))), .val (.double (own_sc p4)), .second, .val (.int (p1 &&& (3 : Int32))), .val (.long (own_H q2)), .second, .unset, .unset, .unset, .unset, .unset, .unset, .unset, .unset, .unset, .unset, .unset, .unset, .unset, .unset, .unset, .unset, .unset]) rfl ?_
    refine XS.iload X5.here hx rfl (hb hby at_29) rfl ?_
    show Steps p.tables e below (T5.setTop (mkF m 31 #[.val (.int p1), .val (.long q2), .second, .val (.int p3), .val (.int p4), .val (.int (p4 &&& (3 : Int32))), .val (.double (own_sc p4)), .second, .val (.int (p1 &&& (3 : Int32))), .val (.long (own_H q2)), .second, .unset, .unset, .unset, .unset, .unset, .unset, .unset, .unset, .unset, .unset, .unset, .unset, .unset, .unset, .unset, .unset, .unset] [(.int (p1 &&& (3 : Int32)))])) _
    refine XS.ifNo X5.here hx rfl (hb hby at_31) rfl ((if0 _ _).trans (teq hc31).2) ?_
    refine XS.iloadN X5.here hx rfl (hb hby at_34) rfl ?_
    show Steps p.tables e below (T5.setTop (mkF m 35 #[.val (.int p1), .val (.long q2), .second, .val (.int p3), .val (.int p4), .val (.int (p4 &&& (3 : Int32))), .val (.double (own_sc p4)), .second, .val (.int (p1 &&& (3 : Int32))), .val (.long (own_H q2)), .second, .unset, .unset, .unset, .unset, .unset, .unset, .unset, .unset, .unset, .unset, .unset, .unset, .unset, .unset, .unset, .unset, .unset] [(.int p3)])) _
    refine XS.bipush X5.here hx rfl (hb hby at_35) ?_
    show Steps p.tables e below (T5.setTop (mkF m 37 #[.val (.int p1), .val (.long q2), .second, .val (.int p3), .val (.int p4), .val (.int (p4 &&& (3 : Int32))), .val (.double (own_sc p4)), .second, .val (.int (p1 &&& (3 : Int32))), .val (.long (own_H q2)), .second, .unset, .unset, .unset, .unset, .unset, .unset, .unset, .unset, .unset, .unset, .unset, .unset, .unset, .unset, .unset, .unset, .unset] [(.int (64 : Int32)), (.int p3)])) _
    refine own_irem X5.here hx rfl (hb hby at_37) rfl hnz37 ?_
    show Steps p.tables e below (T5.setTop (mkF m 38 #[.val (.int p1), .val (.long q2), .second, .val (.int p3), .val (.int p4), .val (.int (p4 &&& (3 : Int32))), .val (.double (own_sc p4)), .second, .val (.int (p1 &&& (3 : Int32))), .val (.long (own_H q2)), .second, .unset, .unset, .unset, .unset, .unset, .unset, .unset, .unset, .unset, .unset, .unset, .unset, .unset, .unset, .unset, .unset, .unset] [(.int (p3 % (64 : Int32)))])) _
    refine XS.i2l X5.here hx rfl (hb hby at_38) rfl ?_
    refine XS.lstore X5.here hx rfl (hb hby at_39) rfl (l' := #[.val (.int p1), .val (.long q2), .second, .val (.int p3), .val (.int p4), .val (.int (p4 &&& (3 : Int32))), .val (.double (own_sc p4)), .second, .val (.int (p1 &&& (3 : Int32))), .val (.long (own_H q2)), .second, .val (.long (own_dl p3)), .second, .unset, .unset, .unset, .unset, .unset, .unset, .unset, .unset, .unset, .unset, .unset, .unset, .unset, .unset, .unset]) rfl ?_
    show Steps p.tables e below (T5.setTop (mkF m 41 #[.val (.int p1), .val (.long q2), .second, .val (.int p3), .val (.int p4), .val (.int (p4 &&& (3 : Int32))), .val (.double (own_sc p4)), .second, .val (.int (p1 &&& (3 : Int32))), .val (.long (own_H q2)), .second, .val (.long (own_dl p3)), .second, .unset, .unset, .unset, .unset, .unset, .unset, .unset, .unset, .unset, .unset, .unset, .unset, .unset, .unset, .unset] [])) _
    refine XS.lload X5.here hx rfl (hb hby at_41) rfl ?_
    refine XS.bipush X5.here hx rfl (hb hby at_43) ?_
    show Steps p.tables e below (T5.setTop (mkF m 45 #[.val (.int p1), .val (.long q2), .second, .val (.int p3), .val (.int p4), .val (.int (p4 &&& (3 : Int32))), .val (.double (own_sc p4)), .second, .val (.int (p1 &&& (3 : Int32))), .val (.long (own_H q2)), .second, .val (.long (own_dl p3)), .second, .unset, .unset, .unset, .unset, .unset, .unset, .unset, .unset, .unset, .unset, .unset, .unset, .unset, .unset, .unset] [(.int (48 : Int32)), (.long (own_H q2))])) _
    refine XS.lushr X5.here hx rfl (hb hby at_45) rfl ?_
    refine XS.lstore X5.here hx rfl (hb hby at_46) rfl (l' := #[.val (.int p1), .val (.long q2), .second, .val (.int p3), .val (.int p4), .val (.int (p4 &&& (3 : Int32))), .val (.double (own_sc p4)), .second, .val (.int (p1 &&& (3 : Int32))), .val (.long (own_H q2)), .second, .val (.long (own_dl p3)), .second, .val (.long (own_q q2)), .second, .unset, .unset, .unset, .unset, .unset, .unset, .unset, .unset, .unset, .unset, .unset, .unset, .unset]) rfl ?_
    show Steps p.tables e below (T5.setTop (mkF m 48 #[.val (.int p1), .val (.long q2), .second, .val (.int p3), .val (.int p4), .val (.int (p4 &&& (3 : Int32))), .val (.double (own_sc p4)), .second, .val (.int (p1 &&& (3 : Int32))), .val (.long (own_H q2)), .second, .val (.long (own_dl p3)), .second, .val (.long (own_q q2)), .second, .unset, .unset, .unset, .unset, .unset, .unset, .unset, .unset, .unset, .unset, .unset, .unset, .unset] [])) _
    refine XS.lload X5.here hx rfl (hb hby at_48) rfl ?_
    show Steps p.tables e below (T5.setTop (mkF m 50 #[.val (.int p1), .val (.long q2), .second, .val (.int p3), .val (.int p4), .val (.int (p4 &&& (3 : Int32))), .val (.double (own_sc p4)), .second, .val (.int (p1 &&& (3 : Int32))), .val (.long (own_H q2)), .second, .val (.long (own_dl p3)), .second, .val (.long (own_q q2)), .second, .unset, .unset, .unset, .unset, .unset, .unset, .unset, .unset, .unset, .unset, .unset, .unset, .unset] [(.long (own_H q2))])) _
    refine X5.ldc2Long hx hown (mvT hZ (hw _ (List.mem_of_getElem? (i := 6) rfl))) (g := (mkF m 50 #[.val (.int p1), .val (.long q2), .second, .val (.int p3), .val (.int p4), .val (.int (p4 &&& (3 : Int32))), .val (.double (own_sc p4)), .second, .val (.int (p1 &&& (3 : Int32))), .val (.long (own_H q2)), .second, .val (.long (own_dl p3)), .second, .val (.long (own_q q2)), .second, .unset, .unset, .unset, .unset, .unset, .unset, .unset, .unset, .unset, .unset, .unset, .unset, .unset] [(.long (own_H q2))])) rfl (hb hby at_50) _ ?_
    show Steps p.tables e below (T5.setTop (mkF m 53 #[.val (.int p1), .val (.long q2), .second, .val (.int p3), .val (.int p4), .val (.int (p4 &&& (3 : Int32))), .val (.double (own_sc p4)), .second, .val (.int (p1 &&& (3 : Int32))), .val (.long (own_H q2)), .second, .val (.long (own_dl p3)), .second, .val (.long (own_q q2)), .second, .unset, .unset, .unset, .unset, .unset, .unset, .unset, .unset, .unset, .unset, .unset, .unset, .unset] [(.long (281474976710655 : Int64)), (.long (own_H q2))])) _
    refine XS.land X5.here hx rfl (hb hby at_53) rfl ?_
    refine XS.lstore X5.here hx rfl (hb hby at_54) rfl (l' := #[.val (.int p1), .val (.long q2), .second, .val (.int p3), .val (.int p4), .val (.int (p4 &&& (3 : Int32))), .val (.double (own_sc p4)), .second, .val (.int (p1 &&& (3 : Int32))), .val (.long (own_H q2)), .second, .val (.long (own_dl p3)), .second, .val (.long (own_q q2)), .second, .val (.long (own_r q2)), .second, .unset, .unset, .unset, .unset, .unset, .unset, .unset, .unset, .unset, .unset, .unset]) rfl ?_
    show Steps p.tables e below (T5.setTop (mkF m 56 #[.val (.int p1), .val (.long q2), .second, .val (.int p3), .val (.int p4), .val (.int (p4 &&& (3 : Int32))), .val (.double (own_sc p4)), .second, .val (.int (p1 &&& (3 : Int32))), .val (.long (own_H q2)), .second, .val (.long (own_dl p3)), .second, .val (.long (own_q q2)), .second, .val (.long (own_r q2)), .second, .unset, .unset, .unset, .unset, .unset, .unset, .unset, .unset, .unset, .unset, .unset] [])) _
    refine X5.ldc2Long hx hown (mvT hZ (hw _ (List.mem_of_getElem? (i := 7) rfl))) (g := (mkF m 56 #[.val (.int p1), .val (.long q2), .second, .val (.int p3), .val (.int p4), .val (.int (p4 &&& (3 : Int32))), .val (.double (own_sc p4)), .second, .val (.int (p1 &&& (3 : Int32))), .val (.long (own_H q2)), .second, .val (.long (own_dl p3)), .second, .val (.long (own_q q2)), .second, .val (.long (own_r q2)), .second, .unset, .unset, .unset, .unset, .unset, .unset, .unset, .unset, .unset, .unset, .unset] [])) rfl (hb hby at_56) _ ?_
    show Steps p.tables e below (T5.setTop (mkF m 59 #[.val (.int p1), .val (.long q2), .second, .val (.int p3), .val (.int p4), .val (.int (p4 &&& (3 : Int32))), .val (.double (own_sc p4)), .second, .val (.int (p1 &&& (3 : Int32))), .val (.long (own_H q2)), .second, .val (.long (own_dl p3)), .second, .val (.long (own_q q2)), .second, .val (.long (own_r q2)), .second, .unset, .unset, .unset, .unset, .unset, .unset, .unset, .unset, .unset, .unset, .unset] [(.long (140737488355328 : Int64))])) _
    refine XS.lstore X5.here hx rfl (hb hby at_59) rfl (l' := #[.val (.int p1), .val (.long q2), .second, .val (.int p3), .val (.int p4), .val (.int (p4 &&& (3 : Int32))), .val (.double (own_sc p4)), .second, .val (.int (p1 &&& (3 : Int32))), .val (.long (own_H q2)), .second, .val (.long (own_dl p3)), .second, .val (.long (own_q q2)), .second, .val (.long (own_r q2)), .second, .val (.long (140737488355328 : Int64)), .second, .unset, .unset, .unset, .unset, .unset, .unset, .unset, .unset, .unset]) rfl ?_
    refine XS.lload X5.here hx rfl (hb hby at_61) rfl ?_
    show Steps p.tables e below (T5.setTop (mkF m 63 #[.val (.int p1), .val (.long q2), .second, .val (.int p3), .val (.int p4), .val (.int (p4 &&& (3 : Int32))), .val (.double (own_sc p4)), .second, .val (.int (p1 &&& (3 : Int32))), .val (.long (own_H q2)), .second, .val (.long (own_dl p3)), .second, .val (.long (own_q q2)), .second, .val (.long (own_r q2)), .second, .val (.long (140737488355328 : Int64)), .second, .unset, .unset, .unset, .unset, .unset, .unset, .unset, .unset, .unset] [(.long (own_r q2))])) _
    refine XS.lload X5.here hx rfl (hb hby at_63) rfl ?_
    refine XS.lcmp X5.here hx rfl (hb hby at_65) rfl ?_
    show Steps p.tables e below (T5.setTop (mkF m 66 #[.val (.int p1), .val (.long q2), .second, .val (.int p3), .val (.int p4), .val (.int (p4 &&& (3 : Int32))), .val (.double (own_sc p4)), .second, .val (.int (p1 &&& (3 : Int32))), .val (.long (own_H q2)), .second, .val (.long (own_dl p3)), .second, .val (.long (own_q q2)), .second, .val (.long (own_r q2)), .second, .val (.long (140737488355328 : Int64)), .second, .unset, .unset, .unset, .unset, .unset, .unset, .unset, .unset, .unset] [(.int (lcmpW (own_r q2) (140737488355328 : Int64)))])) _
    refine XS.ifYes X5.here hx rfl (pc0 := 66) (pc' := 75) rfl (hb hby at_66) rfl ((if0 _ _).trans (flt hc66).2.2.2) (by decide) (by decide) ?_
    refine XS.lload X5.here hx rfl (hb hby at_75) rfl ?_
    show Steps p.tables e below (T5.setTop (mkF m 77 #[.val (.int p1), .val (.long q2), .second, .val (.int p3), .val (.int p4), .val (.int (p4 &&& (3 : Int32))), .val (.double (own_sc p4)), .second, .val (.int (p1 &&& (3 : Int32))), .val (.long (own_H q2)), .second, .val (.long (own_dl p3)), .second, .val (.long (own_q q2)), .second, .val (.long (own_r q2)), .second, .val (.long (140737488355328 : Int64)), .second, .unset, .unset, .unset, .unset, .unset, .unset, .unset, .unset, .unset] [(.long (own_r q2))])) _
    refine XS.lload X5.here hx rfl (hb hby at_77) rfl ?_
    refine XS.lcmp X5.here hx rfl (hb hby at_79) rfl ?_
    show Steps p.tables e below (T5.setTop (mkF m 80 #[.val (.int p1), .val (.long q2), .second, .val (.int p3), .val (.int p4), .val (.int (p4 &&& (3 : Int32))), .val (.double (own_sc p4)), .second, .val (.int (p1 &&& (3 : Int32))), .val (.long (own_H q2)), .second, .val (.long (own_dl p3)), .second, .val (.long (own_q q2)), .second, .val (.long (own_r q2)), .second, .val (.long (140737488355328 : Int64)), .second, .unset, .unset, .unset, .unset, .unset, .unset, .unset, .unset, .unset] [(.int (lcmpW (own_r q2) (140737488355328 : Int64)))])) _
    refine XS.ifYes X5.here hx rfl (pc0 := 80) (pc' := 89) rfl (hb hby at_80) rfl ((if0 _ _).trans (flt hc80).2.1) (by decide) (by decide) ?_
    refine XS.lload X5.here hx rfl (hb hby at_89) rfl ?_
    show Steps p.tables e below (T5.setTop (mkF m 91 #[.val (.int p1), .val (.long q2), .second, .val (.int p3), .val (.int p4), .val (.int (p4 &&& (3 : Int32))), .val (.double (own_sc p4)), .second, .val (.int (p1 &&& (3 : Int32))), .val (.long (own_H q2)), .second, .val (.long (own_dl p3)), .second, .val (.long (own_q q2)), .second, .val (.long (own_r q2)), .second, .val (.long (140737488355328 : Int64)), .second, .unset, .unset, .unset, .unset, .unset, .unset, .unset, .unset, .unset] [(.long (own_H q2))])) _
    refine XS.lload X5.here hx rfl (hb hby at_91) rfl ?_
    refine XS.ladd X5.here hx rfl (hb hby at_93) rfl ?_
    show Steps p.tables e below (T5.setTop (mkF m 94 #[.val (.int p1), .val (.long q2), .second, .val (.int p3), .val (.int p4), .val (.int (p4 &&& (3 : Int32))), .val (.double (own_sc p4)), .second, .val (.int (p1 &&& (3 : Int32))), .val (.long (own_H q2)), .second, .val (.long (own_dl p3)), .second, .val (.long (own_q q2)), .second, .val (.long (own_r q2)), .second, .val (.long (140737488355328 : Int64)), .second, .unset, .unset, .unset, .unset, .unset, .unset, .unset, .unset, .unset] [(.long (own_hq1 q2))])) _
    refine XS.lconst X5.here hx rfl (hb hby at_94) ?_
    refine XS.land X5.here hx rfl (hb hby at_95) rfl ?_
    show Steps p.tables e below (T5.setTop (mkF m 96 #[.val (.int p1), .val (.long q2), .second, .val (.int p3), .val (.int p4), .val (.int (p4 &&& (3 : Int32))), .val (.double (own_sc p4)), .second, .val (.int (p1 &&& (3 : Int32))), .val (.long (own_H q2)), .second, .val (.long (own_dl p3)), .second, .val (.long (own_q q2)), .second, .val (.long (own_r q2)), .second, .val (.long (140737488355328 : Int64)), .second, .unset, .unset, .unset, .unset, .unset, .unset, .unset, .unset, .unset] [(.long ((own_hq1 q2) &&& (1 : Int64)))])) _
    refine XS.lconst X5.here hx rfl (hb hby at_96) ?_
    refine XS.lcmp X5.here hx rfl (hb hby at_97) rfl ?_
    show Steps p.tables e below (T5.setTop (mkF m 98 #[.val (.int p1), .val (.long q2), .second, .val (.int p3), .val (.int p4), .val (.int (p4 &&& (3 : Int32))), .val (.double (own_sc p4)), .second, .val (.int (p1 &&& (3 : Int32))), .val (.long (own_H q2)), .second, .val (.long (own_dl p3)), .second, .val (.long (own_q q2)), .second, .val (.long (own_r q2)), .second, .val (.long (140737488355328 : Int64)), .second, .unset, .unset, .unset, .unset, .unset, .unset, .unset, .unset, .unset] [(.int (lcmpW ((own_hq1 q2) &&& (1 : Int64)) (0 : Int64)))])) _
    refine XS.ifYes X5.here hx rfl (pc0 := 98) (pc' := 105) rfl (hb hby at_98) rfl ((if0 _ _).trans (feq hc98).2) (by decide) (by decide) ?_
    refine XS.lconst X5.here hx rfl (hb hby at_105) ?_
    show Steps p.tables e below (T5.setTop (mkF m 106 #[.val (.int p1), .val (.long q2), .second, .val (.int p3), .val (.int p4), .val (.int (p4 &&& (3 : Int32))), .val (.double (own_sc p4)), .second, .val (.int (p1 &&& (3 : Int32))), .val (.long (own_H q2)), .second, .val (.long (own_dl p3)), .second, .val (.long (own_q q2)), .second, .val (.long (own_r q2)), .second, .val (.long (140737488355328 : Int64)), .second, .unset, .unset, .unset, .unset, .unset, .unset, .unset, .unset, .unset] [(.long (1 : Int64))])) _
    refine XS.lstore X5.here hx rfl (hb hby at_106) rfl (l' := #[.val (.int p1), .val (.long q2), .second, .val (.int p3), .val (.int p4), .val (.int (p4 &&& (3 : Int32))), .val (.double (own_sc p4)), .second, .val (.int (p1 &&& (3 : Int32))), .val (.long (own_H q2)), .second, .val (.long (own_dl p3)), .second, .val (.long (own_q q2)), .second, .val (.long (own_r q2)), .second, .val (.long (140737488355328 : Int64)), .second, .val (.long (1 : Int64)), .second, .unset, .unset, .unset, .unset, .unset, .unset, .unset]) rfl ?_
    refine XS.lload X5.here hx rfl (hb hby at_108) rfl ?_
    show Steps p.tables e below (T5.setTop (mkF m 110 #[.val (.int p1), .val (.long q2), .second, .val (.int p3), .val (.int p4), .val (.int (p4 &&& (3 : Int32))), .val (.double (own_sc p4)), .second, .val (.int (p1 &&& (3 : Int32))), .val (.long (own_H q2)), .second, .val (.long (own_dl p3)), .second, .val (.long (own_q q2)), .second, .val (.long (own_r q2)), .second, .val (.long (140737488355328 : Int64)), .second, .val (.long (1 : Int64)), .second, .unset, .unset, .unset, .unset, .unset, .unset, .unset] [(.long (own_H q2))])) _
    refine XS.lload X5.here hx rfl (hb hby at_110) rfl ?_
    refine XS.ladd X5.here hx rfl (hb hby at_112) rfl ?_
    show Steps p.tables e below (T5.setTop (mkF m 113 #[.val (.int p1), .val (.long q2), .second, .val (.int p3), .val (.int p4), .val (.int (p4 &&& (3 : Int32))), .val (.double (own_sc p4)), .second, .val (.int (p1 &&& (3 : Int32))), .val (.long (own_H q2)), .second, .val (.long (own_dl p3)), .second, .val (.long (own_q q2)), .second, .val (.long (own_r q2)), .second, .val (.long (140737488355328 : Int64)), .second, .val (.long (1 : Int64)), .second, .unset, .unset, .unset, .unset, .unset, .unset, .unset] [(.long (own_hq1 q2))])) _
    refine XS.lload X5.here hx rfl (hb hby at_113) rfl ?_
    refine XS.ladd X5.here hx rfl (hb hby at_115) rfl ?_
    show Steps p.tables e below (T5.setTop (mkF m 116 #[.val (.int p1), .val (.long q2), .second, .val (.int p3), .val (.int p4), .val (.int (p4 &&& (3 : Int32))), .val (.double (own_sc p4)), .second, .val (.int (p1 &&& (3 : Int32))), .val (.long (own_H q2)), .second, .val (.long (own_dl p3)), .second, .val (.long (own_q q2)), .second, .val (.long (own_r q2)), .second, .val (.long (140737488355328 : Int64)), .second, .val (.long (1 : Int64)), .second, .unset, .unset, .unset, .unset, .unset, .unset, .unset] [(.long ((own_hq1 q2) + (1 : Int64)))])) _
    refine XS.lstore X5.here hx rfl (hb hby at_116) rfl (l' := #[.val (.int p1), .val (.long q2), .second, .val (.int p3), .val (.int p4), .val (.int (p4 &&& (3 : Int32))), .val (.double (own_sc p4)), .second, .val (.int (p1 &&& (3 : Int32))), .val (.long (own_H q2)), .second, .val (.long (own_dl p3)), .second, .val (.long (own_q q2)), .second, .val (.long (own_r q2)), .second, .val (.long (140737488355328 : Int64)), .second, .val (.long (1 : Int64)), .second, .val (.long ((own_hq1 q2) + (1 : Int64))), .second, .unset, .unset, .unset, .unset, .unset]) rfl ?_
    refine XS.lload X5.here hx rfl (hb hby at_118) rfl ?_
    show Steps p.tables e below (T5.setTop (mkF m 120 #[.val (.int p1), .val (.long q2), .second, .val (.int p3), .val (.int p4), .val (.int (p4 &&& (3 : Int32))), .val (.double (own_sc p4)), .second, .val (.int (p1 &&& (3 : Int32))), .val (.long (own_H q2)), .second, .val (.long (own_dl p3)), .second, .val (.long (own_q q2)), .second, .val (.long (own_r q2)), .second, .val (.long (140737488355328 : Int64)), .second, .val (.long (1 : Int64)), .second, .val (.long ((own_hq1 q2) + (1 : Int64))), .second, .unset, .unset, .unset, .unset, .unset] [(.long (own_H q2))])) _
    refine XS.l2dS X5.here hx rfl (hb hby at_120) rfl rfl ?_
    refine XS.dload X5.here hx rfl (hb hby at_121) rfl ?_
    show Steps p.tables e below (T5.setTop (mkF m 123 #[.val (.int p1), .val (.long q2), .second, .val (.int p3), .val (.int p4), .val (.int (p4 &&& (3 : Int32))), .val (.double (own_sc p4)), .second, .val (.int (p1 &&& (3 : Int32))), .val (.long (own_H q2)), .second, .val (.long (own_dl p3)), .second, .val (.long (own_q q2)), .second, .val (.long (own_r q2)), .second, .val (.long (140737488355328 : Int64)), .second, .val (.long (1 : Int64)), .second, .val (.long ((own_hq1 q2) + (1 : Int64))), .second, .unset, .unset, .unset, .unset, .unset] [(.double (own_sc p4)), (.double (FP.l2d (own_H q2)))])) _
    refine XS.dmulS X5.here hx rfl (hb hby at_123) rfl hnn123 rfl ?_
    refine XS.dstore X5.here hx rfl (hb hby at_124) rfl (l' := #[.val (.int p1), .val (.long q2), .second, .val (.int p3), .val (.int p4), .val (.int (p4 &&& (3 : Int32))), .val (.double (own_sc p4)), .second, .val (.int (p1 &&& (3 : Int32))), .val (.long (own_H q2)), .second, .val (.long (own_dl p3)), .second, .val (.long (own_q q2)), .second, .val (.long (own_r q2)), .second, .val (.long (140737488355328 : Int64)), .second, .val (.long (1 : Int64)), .second, .val (.long ((own_hq1 q2) + (1 : Int64))), .second, .val (.double (FP.dmul (FP.l2d (own_H q2)) (own_sc p4))), .second, .unset, .unset, .unset]) rfl ?_
    show Steps p.tables e below (T5.setTop (mkF m 126 #[.val (.int p1), .val (.long q2), .second, .val (.int p3), .val (.int p4), .val (.int (p4 &&& (3 : Int32))), .val (.double (own_sc p4)), .second, .val (.int (p1 &&& (3 : Int32))), .val (.long (own_H q2)), .second, .val (.long (own_dl p3)), .second, .val (.long (own_q q2)), .second, .val (.long (own_r q2)), .second, .val (.long (140737488355328 : Int64)), .second, .val (.long (1 : Int64)), .second, .val (.long ((own_hq1 q2) + (1 : Int64))), .second, .val (.double (FP.dmul (FP.l2d (own_H q2)) (own_sc p4))), .second, .unset, .unset, .unset] [])) _
    refine XS.lload X5.here hx rfl (hb hby at_126) rfl ?_
    refine XS.lload X5.here hx rfl (hb hby at_128) rfl ?_
    show Steps p.tables e below (T5.setTop (mkF m 130 #[.val (.int p1), .val (.long q2), .second, .val (.int p3), .val (.int p4), .val (.int (p4 &&& (3 : Int32))), .val (.double (own_sc p4)), .second, .val (.int (p1 &&& (3 : Int32))), .val (.long (own_H q2)), .second, .val (.long (own_dl p3)), .second, .val (.long (own_q q2)), .second, .val (.long (own_r q2)), .second, .val (.long (140737488355328 : Int64)), .second, .val (.long (1 : Int64)), .second, .val (.long ((own_hq1 q2) + (1 : Int64))), .second, .val (.double (FP.dmul (FP.l2d (own_H q2)) (own_sc p4))), .second, .unset, .unset, .unset] [(.long (own_dl p3)), (.long (own_H q2))])) _
    refine XS.ladd X5.here hx rfl (hb hby at_130) rfl ?_
    refine XS.l2dS X5.here hx rfl (hb hby at_131) rfl rfl ?_
    show Steps p.tables e below (T5.setTop (mkF m 132 #[.val (.int p1), .val (.long q2), .second, .val (.int p3), .val (.int p4), .val (.int (p4 &&& (3 : Int32))), .val (.double (own_sc p4)), .second, .val (.int (p1 &&& (3 : Int32))), .val (.long (own_H q2)), .second, .val (.long (own_dl p3)), .second, .val (.long (own_q q2)), .second, .val (.long (own_r q2)), .second, .val (.long (140737488355328 : Int64)), .second, .val (.long (1 : Int64)), .second, .val (.long ((own_hq1 q2) + (1 : Int64))), .second, .val (.double (FP.dmul (FP.l2d (own_H q2)) (own_sc p4))), .second, .unset, .unset, .unset] [(.double (FP.l2d (own_m q2 p3)))])) _
    refine XS.dload X5.here hx rfl (hb hby at_132) rfl ?_
    refine XS.dmulS X5.here hx rfl (hb hby at_134) rfl hnn134 rfl ?_
    show Steps p.tables e below (T5.setTop (mkF m 135 #[.val (.int p1), .val (.long q2), .second, .val (.int p3), .val (.int p4), .val (.int (p4 &&& (3 : Int32))), .val (.double (own_sc p4)), .second, .val (.int (p1 &&& (3 : Int32))), .val (.long (own_H q2)), .second, .val (.long (own_dl p3)), .second, .val (.long (own_q q2)), .second, .val (.long (own_r q2)), .second, .val (.long (140737488355328 : Int64)), .second, .val (.long (1 : Int64)), .second, .val (.long ((own_hq1 q2) + (1 : Int64))), .second, .val (.double (FP.dmul (FP.l2d (own_H q2)) (own_sc p4))), .second, .unset, .unset, .unset] [(.double (FP.dmul (FP.l2d (own_m q2 p3)) (own_sc p4)))])) _
    refine XS.dstore X5.here hx rfl (hb hby at_135) rfl (l' := #[.val (.int p1), .val (.long q2), .second, .val (.int p3), .val (.int p4), .val (.int (p4 &&& (3 : Int32))), .val (.double (own_sc p4)), .second, .val (.int (p1 &&& (3 : Int32))), .val (.long (own_H q2)), .second, .val (.long (own_dl p3)), .second, .val (.long (own_q q2)), .second, .val (.long (own_r q2)), .second, .val (.long (140737488355328 : Int64)), .second, .val (.long (1 : Int64)), .second, .val (.long ((own_hq1 q2) + (1 : Int64))), .second, .val (.double (FP.dmul (FP.l2d (own_H q2)) (own_sc p4))), .second, .val (.double (FP.dmul (FP.l2d (own_m q2 p3)) (own_sc p4))), .second, .unset]) rfl ?_
    refine XS.lload X5.here hx rfl (hb hby at_137) rfl ?_
    show Steps p.tables e below (T5.setTop (mkF m 139 #[.val (.int p1), .val (.long q2), .second, .val (.int p3), .val (.int p4), .val (.int (p4 &&& (3 : Int32))), .val (.double (own_sc p4)), .second, .val (.int (p1 &&& (3 : Int32))), .val (.long (own_H q2)), .second, .val (.long (own_dl p3)), .second, .val (.long (own_q q2)), .second, .val (.long (own_r q2)), .second, .val (.long (140737488355328 : Int64)), .second, .val (.long (1 : Int64)), .second, .val (.long ((own_hq1 q2) + (1 : Int64))), .second, .val (.double (FP.dmul (FP.l2d (own_H q2)) (own_sc p4))), .second, .val (.double (FP.dmul (FP.l2d (own_m q2 p3)) (own_sc p4))), .second, .unset] [(.long (own_H q2))])) _
    refine XS.lload X5.here hx rfl (hb hby at_139) rfl ?_
    refine XS.ladd X5.here hx rfl (hb hby at_141) rfl ?_
    show Steps p.tables e below (T5.setTop (mkF m 142 #[.val (.int p1), .val (.long q2), .second, .val (.int p3), .val (.int p4), .val (.int (p4 &&& (3 : Int32))), .val (.double (own_sc p4)), .second, .val (.int (p1 &&& (3 : Int32))), .val (.long (own_H q2)), .second, .val (.long (own_dl p3)), .second, .val (.long (own_q q2)), .second, .val (.long (own_r q2)), .second, .val (.long (140737488355328 : Int64)), .second, .val (.long (1 : Int64)), .second, .val (.long ((own_hq1 q2) + (1 : Int64))), .second, .val (.double (FP.dmul (FP.l2d (own_H q2)) (own_sc p4))), .second, .val (.double (FP.dmul (FP.l2d (own_m q2 p3)) (own_sc p4))), .second, .unset] [(.long (own_m q2 p3))])) _
    refine XS.lload X5.here hx rfl (hb hby at_142) rfl ?_
    refine XS.lcmp X5.here hx rfl (hb hby at_144) rfl ?_
    show Steps p.tables e below (T5.setTop (mkF m 145 #[.val (.int p1), .val (.long q2), .second, .val (.int p3), .val (.int p4), .val (.int (p4 &&& (3 : Int32))), .val (.double (own_sc p4)), .second, .val (.int (p1 &&& (3 : Int32))), .val (.long (own_H q2)), .second, .val (.long (own_dl p3)), .second, .val (.long (own_q q2)), .second, .val (.long (own_r q2)), .second, .val (.long (140737488355328 : Int64)), .second, .val (.long (1 : Int64)), .second, .val (.long ((own_hq1 q2) + (1 : Int64))), .second, .val (.double (FP.dmul (FP.l2d (own_H q2)) (own_sc p4))), .second, .val (.double (FP.dmul (FP.l2d (own_m q2 p3)) (own_sc p4))), .second, .unset] [(.int (lcmpW (own_m q2 p3) ((own_hq1 q2) + (1 : Int64))))])) _
    refine XS.ifNo X5.here hx rfl (hb hby at_145) rfl ((if0 _ _).trans (tlt hc145).2.2.2) ?_
    refine XS.iconst X5.here hx rfl (hb hby at_148) ?_
    show Steps p.tables e below (T5.setTop (mkF m 149 #[.val (.int p1), .val (.long q2), .second, .val (.int p3), .val (.int p4), .val (.int (p4 &&& (3 : Int32))), .val (.double (own_sc p4)), .second, .val (.int (p1 &&& (3 : Int32))), .val (.long (own_H q2)), .second, .val (.long (own_dl p3)), .second, .val (.long (own_q q2)), .second, .val (.long (own_r q2)), .second, .val (.long (140737488355328 : Int64)), .second, .val (.long (1 : Int64)), .second, .val (.long ((own_hq1 q2) + (1 : Int64))), .second, .val (.double (FP.dmul (FP.l2d (own_H q2)) (own_sc p4))), .second, .val (.double (FP.dmul (FP.l2d (own_m q2 p3)) (own_sc p4))), .second, .unset] [(.int (1 : Int32))])) _
    refine XS.goto X5.here hx rfl (pc0 := 149) (pc' := 153) rfl (hb hby at_149) (by decide) (by decide) ?_
    refine XS.istore X5.here hx rfl (hb hby at_153) rfl (l' := #[.val (.int p1), .val (.long q2), .second, .val (.int p3), .val (.int p4), .val (.int (p4 &&& (3 : Int32))), .val (.double (own_sc p4)), .second, .val (.int (p1 &&& (3 : Int32))), .val (.long (own_H q2)), .second, .val (.long (own_dl p3)), .second, .val (.long (own_q q2)), .second, .val (.long (own_r q2)), .second, .val (.long (140737488355328 : Int64)), .second, .val (.long (1 : Int64)), .second, .val (.long ((own_hq1 q2) + (1 : Int64))), .second, .val (.double (FP.dmul (FP.l2d (own_H q2)) (own_sc p4))), .second, .val (.double (FP.dmul (FP.l2d (own_m q2 p3)) (own_sc p4))), .second, .val (.int (1 : Int32))]) rfl ?_
    show Steps p.tables e below (T5.setTop (mkF m 155 #[.val (.int p1), .val (.long q2), .second, .val (.int p3), .val (.int p4), .val (.int (p4 &&& (3 : Int32))), .val (.double (own_sc p4)), .second, .val (.int (p1 &&& (3 : Int32))), .val (.long (own_H q2)), .second, .val (.long (own_dl p3)), .second, .val (.long (own_q q2)), .second, .val (.long (own_r q2)), .second, .val (.long (140737488355328 : Int64)), .second, .val (.long (1 : Int64)), .second, .val (.long ((own_hq1 q2) + (1 : Int64))), .second, .val (.double (FP.dmul (FP.l2d (own_H q2)) (own_sc p4))), .second, .val (.double (FP.dmul (FP.l2d (own_m q2 p3)) (own_sc p4))), .second, .val (.int (1 : Int32))] [])) _
    refine XS.dload X5.here hx rfl (hb hby at_155) rfl ?_
    refine XS.dload X5.here hx rfl (hb hby at_157) rfl ?_
    show Steps p.tables e below (T5.setTop (mkF m 159 #[.val (.int p1), .val (.long q2), .second, .val (.int p3), .val (.int p4), .val (.int (p4 &&& (3 : Int32))), .val (.double (own_sc p4)), .second, .val (.int (p1 &&& (3 : Int32))), .val (.long (own_H q2)), .second, .val (.long (own_dl p3)), .second, .val (.long (own_q q2)), .second, .val (.long (own_r q2)), .second, .val (.long (140737488355328 : Int64)), .second, .val (.long (1 : Int64)), .second, .val (.long ((own_hq1 q2) + (1 : Int64))), .second, .val (.double (FP.dmul (FP.l2d (own_H q2)) (own_sc p4))), .second, .val (.double (FP.dmul (FP.l2d (own_m q2 p3)) (own_sc p4))), .second, .val (.int (1 : Int32))] [(.double (FP.dmul (FP.l2d (own_H q2)) (own_sc p4))), (.double (FP.dmul (FP.l2d (own_m q2 p3)) (own_sc p4)))])) _
    refine st6 _ ?_
    show Steps p.tables e below (T6.setTop (mkF m 162 #[.val (.int p1), .val (.long q2), .second, .val (.int p3), .val (.int p4), .val (.int (p4 &&& (3 : Int32))), .val (.double (own_sc p4)), .second, .val (.int (p1 &&& (3 : Int32))), .val (.long (own_H q2)), .second, .val (.long (own_dl p3)), .second, .val (.long (own_q q2)), .second, .val (.long (own_r q2)), .second, .val (.long (140737488355328 : Int64)), .second, .val (.long (1 : Int64)), .second, .val (.long ((own_hq1 q2) + (1 : Int64))), .second, .val (.double (FP.dmul (FP.l2d (own_H q2)) (own_sc p4))), .second, .val (.double (FP.dmul (FP.l2d (own_m q2 p3)) (own_sc p4))), .second, .val (.int (1 : Int32))] [(.int (own_ich (FP.dmul (FP.l2d (own_m q2 p3)) (own_sc p4)) (FP.dmul (FP.l2d (own_H q2)) (own_sc p4))))])) _
    refine XS.iload X6.here hx rfl (hb hby at_162) rfl ?_
    refine XS.icmpNo X6.here hx rfl (hb hby at_164) rfl (teq (own_fin1 (own_u4 hc66 hc80 hc98) hc145 : (own_ich (FP.dmul (FP.l2d (own_m q2 p3)) (own_sc p4)) (FP.dmul (FP.l2d (own_H q2)) (own_sc p4))) = (1 : Int32))).2 ?_
    show Steps p.tables e below (T6.setTop (mkF m 167 #[.val (.int p1), .val (.long q2), .second, .val (.int p3), .val (.int p4), .val (.int (p4 &&& (3 : Int32))), .val (.double (own_sc p4)), .second, .val (.int (p1 &&& (3 : Int32))), .val (.long (own_H q2)), .second, .val (.long (own_dl p3)), .second, .val (.long (own_q q2)), .second, .val (.long (own_r q2)), .second, .val (.long (140737488355328 : Int64)), .second, .val (.long (1 : Int64)), .second, .val (.long ((own_hq1 q2) + (1 : Int64))), .second, .val (.double (FP.dmul (FP.l2d (own_H q2)) (own_sc p4))), .second, .val (.double (FP.dmul (FP.l2d (own_m q2 p3)) (own_sc p4))), .second, .val (.int (1 : Int32))] [])) _
    refine XS.iconst X6.here hx rfl (hb hby at_167) ?_
    refine XS.goto X6.here hx rfl (pc0 := 168) (pc' := 172) rfl (hb hby at_168) (by decide) (by decide) ?_
    show Steps p.tables e below (T6.setTop (mkF m 172 #[.val (.int p1), .val (.long q2), .second, .val (.int p3), .val (.int p4), .val (.int (p4 &&& (3 : Int32))), .val (.double (own_sc p4)), .second, .val (.int (p1 &&& (3 : Int32))), .val (.long (own_H q2)), .second, .val (.long (own_dl p3)), .second, .val (.long (own_q q2)), .second, .val (.long (own_r q2)), .second, .val (.long (140737488355328 : Int64)), .second, .val (.long (1 : Int64)), .second, .val (.long ((own_hq1 q2) + (1 : Int64))), .second, .val (.double (FP.dmul (FP.l2d (own_H q2)) (own_sc p4))), .second, .val (.double (FP.dmul (FP.l2d (own_m q2 p3)) (own_sc p4))), .second, .val (.int (1 : Int32))] [(.int (1 : Int32))])) _
    exact retN X6 hx (t := .boolean) Bd.returns (by simp) (hb hby at_172) hr
  · show Q0 Z p1 q2 p3 p4 h0 n0 _ T6.heap _
    exact ⟨rfl, N6⟩
set_option maxRecDepth 65536 in
set_option maxHeartbeats 40000000 in
theorem rm0_a4f (l : Launch) (Z : State) (a0 : Array Value) (hw : ∀ d ∈ tables_1, d.before a0 Z = true) (ws : List Jvm.Cond) (p1 : Int32) (q2 : Int64) (p3 : Int32) (p4 : Int32) (h0 : Heap) (n0 : Nat) (Z0 : n0 ≤ h0.size) (hc31 : (p1 &&& (3 : Int32)) = (0 : Int32)) (hc66 : ¬ ((0 : Int32) < (lcmpW (own_r q2) (140737488355328 : Int64)))) (hc80 : ¬ ((lcmpW (own_r q2) (140737488355328 : Int64)) < (0 : Int32))) (hc98 : ¬ ((lcmpW ((own_hq1 q2) &&& (1 : Int64)) (0 : Int64)) = (0 : Int32))) (hc145 : ¬ ((0 : Int32) < (lcmpW (own_m q2 p3) ((own_hq1 q2) + (1 : Int64))))) :
    MetFree l x (head1 (Jvm.Cond.code x code maxLocals ret :: ws) room_1) (fun a U => a = #[(.int p1), (.long q2), (.int p3), (.int p4)] ∧ Z.Warmed39 U.vm ∧ U.heap = h0) (fun _ _ _ _ _ => True) (fun _ U o U' => ∃ v L, o = .returned v ∧ Q0 Z p1 q2 p3 p4 h0 n0 v U'.heap L ∧ FrameEnd U o U' L room_1.cells room_1.slots) := by
  have hnz37 : ¬ ((64 : Int32) = (0 : Int32)) := by decide
  have hnn123 : Jvm.Free.Fl.NoNaN64 (FP.dmul (FP.l2d (own_H q2)) (own_sc p4)) := own_nn _ _
  have hnn134 : Jvm.Free.Fl.NoNaN64 (FP.dmul (FP.l2d (own_m q2 p3)) (own_sc p4)) := own_nn _ _
  refine MetFree.of_bodySF (plainFor_of_name pn_0) hisR ?_
  intro p e s m args below meth c s₁ Bd hml0 hP hK
  obtain ⟨rfl, hZ, hh⟩ := hP
  have hx := Bd.exec
  have hby := Bd.bytes
  have hml : c.maxLocals = 28 := hml0
  have hown : s.vm.findClass "com/example/level_ring/levelring/placement/MembersIsCertainlyHigherPinLaw" = some m.cls := findClass_of_methodNamed Bd.named
  have hnm := (name_of_methodNamed Bd.named Bd.method).1
  have X0 : Stand p l e room_1 s m #[(.int p1), (.long q2), (.int p3), (.int p4)] below meth c s₁ [] 0 0 := Stand.of_body Bd
  have e0 : s₁.heap = h0 := by rw [← hh, Bd.state]; rfl
  have N0 := Fr.nil n0
  have pre0 : ∀ t, Steps p.tables e below (s₁.setTop (mkF m 0 #[.val (.int p1), .val (.long q2), .second, .val (.int p3), .val (.int p4), .unset, .unset, .unset, .unset, .unset, .unset, .unset, .unset, .unset, .unset, .unset, .unset, .unset, .unset, .unset, .unset, .unset, .unset, .unset, .unset, .unset, .unset, .unset] [])) t → Steps p.tables e below (s₁.setTop (entryFrame m #[(.int p1), (.long q2), (.int p3), (.int p4)] maxLocals)) t := fun t k => castTop (ef_0 m p1 q2 p3 p4) k
  -- 3. LAWS
  -- pc 8: com/example/level_ring/levelring/placement/MembersIsCertainlyHigherPinLaw.scaleOf by its contract rm1
  obtain ⟨_, _, ⟨T5, L5, k5, n5⟩, -, X5, ⟨Lc5, hQ5, l5, y5, z5⟩, st5⟩ := Jvm.LawKit.callS X0 hx (y := (⟨"com/example/level_ring/levelring/placement/MembersIsCertainlyHigherPinLaw", "scaleOf", "(I)D"⟩ : MethodName)) hown (mvT hZ (hw _ (List.mem_of_getElem? (i := 0) rfl))) (mvT hZ (hw _ (List.mem_of_getElem? (i := 1) rfl))) (mvT hZ (hw _ (List.mem_of_getElem? (i := 2) rfl))) (mvT hZ (hw _ (List.mem_of_getElem? (i := 3) rfl))) (by decide) (backOf (W := 0) (rm1 l Z a0 hw [] (p4 &&& (3 : Int32))  h0 n0 Z0) hZ (hw _ (List.mem_of_getElem? (i := 3) rfl)) (hw _ (List.mem_of_getElem? (i := 2) rfl)) (by decide) (by decide)) (g := (mkF m 8 #[.val (.int p1), .val (.long q2), .second, .val (.int p3), .val (.int p4), .val (.int (p4 &&& (3 : Int32))), .unset, .unset, .unset, .unset, .unset, .unset, .unset, .unset, .unset, .unset, .unset, .unset, .unset, .unset, .unset, .unset, .unset, .unset, .unset, .unset, .unset, .unset] [(.int (p4 &&& (3 : Int32)))])) rfl (by rw [hml]; rfl) (argsL := [(.int (p4 &&& (3 : Int32)))]) (rest := []) (lenOf pdw_0 rfl) rfl (by show 2 * 0 + _ ≤ _; exact Nat.le_of_eq rfl) (hb hby at_8) (fun _ _ => ⟨rfl, e0, (by decide : 0 + 0 ≤ _), (by decide : 0 + 0 ≤ _)⟩)
  dsimp only [Pt.U, Pt.locs, Pt.cells, Pt.slots] at X5 l5 y5 z5 st5 hQ5
  subst l5 y5 z5
  obtain ⟨rfl, N5q, hh5⟩ := hQ5
  have N5 := Fr.app N0 N5q
  -- pc 159: com/example/level_ring/levelring/placement/Members.isCertainlyHigher by its contract rm2
  obtain ⟨_, _, ⟨T6, L6, k6, n6⟩, -, X6, ⟨Lc6, hQ6, l6, y6, z6⟩, st6⟩ := Jvm.LawKit.callS X5 hx (y := (⟨"com/example/level_ring/levelring/placement/Members", "isCertainlyHigher", "(DD)Z"⟩ : MethodName)) hown (mvT hZ (hw _ (List.mem_of_getElem? (i := 8) rfl))) (mvT hZ (hw _ (List.mem_of_getElem? (i := 9) rfl))) (mvT hZ (hw _ (List.mem_of_getElem? (i := 10) rfl))) (mvT hZ (hw _ (List.mem_of_getElem? (i := 11) rfl))) (by decide) (backOf (W := 0) (rm2 l Z a0 hw [] (FP.dmul (FP.l2d (own_m q2 p3)) (own_sc p4)) (FP.dmul (FP.l2d (own_H q2)) (own_sc p4))  h0 n0 Z0 (dmul_out (own_ms_fin _ (by have := own_H_rng q2; omega)) own_C_fin)) hZ (hw _ (List.mem_of_getElem? (i := 11) rfl)) (hw _ (List.mem_of_getElem? (i := 10) rfl)) (by decide) (by decide)) (g := (mkF m 159 #[.val (.int p1), .val (.long q2), .second, .val (.int p3), .val (.int p4), .val (.int (p4 &&& (3 : Int32))), .val (.double (own_sc p4)), .second, .val (.int (p1 &&& (3 : Int32))), .val (.long (own_H q2)), .second, .val (.long (own_dl p3)), .second, .val (.long (own_q q2)), .second, .val (.long (own_r q2)), .second, .val (.long (140737488355328 : Int64)), .second, .val (.long (1 : Int64)), .second, .val (.long ((own_hq1 q2) + (1 : Int64))), .second, .val (.double (FP.dmul (FP.l2d (own_H q2)) (own_sc p4))), .second, .val (.double (FP.dmul (FP.l2d (own_m q2 p3)) (own_sc p4))), .second, .val (.int (0 : Int32))] [(.double (FP.dmul (FP.l2d (own_H q2)) (own_sc p4))), (.double (FP.dmul (FP.l2d (own_m q2 p3)) (own_sc p4)))])) rfl (by rw [hml]; rfl) (argsL := [(.double (FP.dmul (FP.l2d (own_m q2 p3)) (own_sc p4))), (.double (FP.dmul (FP.l2d (own_H q2)) (own_sc p4)))]) (rest := []) (lenOf pdw_1 rfl) rfl (by show 2 * 0 + _ ≤ _; exact Nat.le_of_eq rfl) (hb hby at_159) (fun _ _ => ⟨rfl, hh5, (by decide : 0 + 0 ≤ _), (by decide : 0 + 0 ≤ _)⟩)
  dsimp only [Pt.U, Pt.locs, Pt.cells, Pt.slots] at X6 l6 y6 z6 st6 hQ6
  subst l6 y6 z6
  obtain ⟨rfl, N6q, hh6⟩ := hQ6
  have N6 := Fr.app N5 N6q
  obtain ⟨fs, hr, hrun, hended, hW, hsame⟩ := X6.leave (v := some (.int (1 : Int32))) (fun h => by rw [Bd.returns] at h; cases h)
  refine ⟨_, _, pre0 _ ?_, hrun, hended, _, _, rfl, ?_, ⟨_, rfl⟩, hW, hsame.mono (by decide) (by decide)⟩
  -- 4. STEPS
  · show Steps p.tables e below (s₁.setTop (mkF m 0 #[.val (.int p1), .val (.long q2), .second, .val (.int p3), .val (.int p4), .unset, .unset, .unset, .unset, .unset, .unset, .unset, .unset, .unset, .unset, .unset, .unset, .unset, .unset, .unset, .unset, .unset, .unset, .unset, .unset, .unset, .unset, .unset] [])) _
    refine XS.iload X0.here hx rfl (hb hby at_0) rfl ?_
    refine XS.iconst X0.here hx rfl (hb hby at_2) ?_
    show Steps p.tables e below (s₁.setTop (mkF m 3 #[.val (.int p1), .val (.long q2), .second, .val (.int p3), .val (.int p4), .unset, .unset, .unset, .unset, .unset, .unset, .unset, .unset, .unset, .unset, .unset, .unset, .unset, .unset, .unset, .unset, .unset, .unset, .unset, .unset, .unset, .unset, .unset] [(.int (3 : Int32)), (.int p4)])) _
    refine XS.iand X0.here hx rfl (hb hby at_3) rfl ?_
    refine XS.istore X0.here hx rfl (hb hby at_4) rfl (l' := #[.val (.int p1), .val (.long q2), .second, .val (.int p3), .val (.int p4), .val (.int (p4 &&& (3 : Int32))), .unset, .unset, .unset, .unset, .unset, .unset, .unset, .unset, .unset, .unset, .unset, .unset, .unset, .unset, .unset, .unset, .unset, .unset, .unset, .unset, .unset, .unset]) rfl ?_
    show Steps p.tables e below (s₁.setTop (mkF m 6 #[.val (.int p1), .val (.long q2), .second, .val (.int p3), .val (.int p4), .val (.int (p4 &&& (3 : Int32))), .unset, .unset, .unset, .unset, .unset, .unset, .unset, .unset, .unset, .unset, .unset, .unset, .unset, .unset, .unset, .unset, .unset, .unset, .unset, .unset, .unset, .unset] [])) _
    refine XS.iload X0.here hx rfl (hb hby at_6) rfl ?_
    show Steps p.tables e below (s₁.setTop (mkF m 8 #[.val (.int p1), .val (.long q2), .second, .val (.int p3), .val (.int p4), .val (.int (p4 &&& (3 : Int32))), .unset, .unset, .unset, .unset, .unset, .unset, .unset, .unset, .unset, .unset, .unset, .unset, .unset, .unset, .unset, .unset, .unset, .unset, .unset, .unset, .unset, .unset] [(.int (p4 &&& (3 : Int32)))])) _
    refine st5 _ ?_
    show Steps p.tables e below (T5.setTop (mkF m 11 #[.val (.int p1), .val (.long q2), .second, .val (.int p3), .val (.int p4), .val (.int (p4 &&& (3 : Int32))), .unset, .unset, .unset, .unset, .unset, .unset, .unset, .unset, .unset, .unset, .unset, .unset, .unset, .unset, .unset, .unset, .unset, .unset, .unset, .unset, .unset, .unset] [(.double (own_sc p4))])) _
    refine XS.dstore X5.here hx rfl (hb hby at_11) rfl (l' := #[.val (.int p1), .val (.long q2), .second, .val (.int p3), .val (.int p4), .val (.int (p4 &&& (3 : Int32))), .val (.double (own_sc p4)), .second, .unset, .unset, .unset, .unset, .unset, .unset, .unset, .unset, .unset, .unset, .unset, .unset, .unset, .unset, .unset, .unset, .unset, .unset, .unset, .unset]) rfl ?_
    refine XS.iloadN X5.here hx rfl (hb hby at_13) rfl ?_
    show Steps p.tables e below (T5.setTop (mkF m 14 #[.val (.int p1), .val (.long q2), .second, .val (.int p3), .val (.int p4), .val (.int (p4 &&& (3 : Int32))), .val (.double (own_sc p4)), .second, .unset, .unset, .unset, .unset, .unset, .unset, .unset, .unset, .unset, .unset, .unset, .unset, .unset, .unset, .unset, .unset, .unset, .unset, .unset, .unset] [(.int p1)])) _
    refine XS.iconst X5.here hx rfl (hb hby at_14) ?_
    refine XS.iand X5.here hx rfl (hb hby at_15) rfl ?_
    show Steps p.tables e below (T5.setTop (mkF m 16 #[.val (.int p1), .val (.long q2), .second, .val (.int p3), .val (.int p4), .val (.int (p4 &&& (3 : Int32))), .val (.double (own_sc p4)), .second, .unset, .unset, .unset, .unset, .unset, .unset, .unset, .unset, .unset, .unset, .unset, .unset, .unset, .unset, .unset, .unset, .unset, .unset, .unset, .unset] [(.int (p1 &&& (3 : Int32)))])) _
    refine XS.istore X5.here hx rfl (hb hby at_16) rfl (l' := #[.val (.int p1), .val (.long q2), .second, .val (.int p3), .val (.int p4), .val (.int (p4 &&& (3 : Int32))), .val (.double (own_sc p4)), .second, .val (.int (p1 &&& (3 : Int32))), .unset, .unset, .unset, .unset, .unset, .unset, .unset, .unset, .unset, .unset, .unset, .unset, .unset, .unset, .unset, .unset, .unset, .unset, .unset]) rfl ?_
    show Steps p.tables e below (T5.setTop (mkF m 18 #[.val (.int p1), .val (.long q2), .second, .val (.int p3), .val (.int p4), .val (.int (p4 &&& (3 : Int32))), .val (.double (own_sc p4)), .second, .val (.int (p1 &&& (3 : Int32))), .unset, .unset, .unset, .unset, .unset, .unset, .unset, .unset, .unset, .unset, .unset, .unset, .unset, .unset, .unset, .unset, .unset, .unset, .unset] [])) _
    refine X5.ldc2Long hx hown (mvT hZ (hw _ (List.mem_of_getElem? (i := 4) rfl))) (g := (mkF m 18 #[.val (.int p1), .val (.long q2), .second, .val (.int p3), .val (.int p4), .val (.int (p4 &&& (3 : Int32))), .val (.double (own_sc p4)), .second, .val (.int (p1 &&& (3 : Int32))), .unset, .unset, .unset, .unset, .unset, .unset, .unset, .unset, .unset, .unset, .unset, .unset, .unset, .unset, .unset, .unset, .unset, .unset, .unset] [])) rfl (hb hby at_18) _ ?_
    show Steps p.tables e below (T5.setTop (mkF m 21 #[.val (.int p1), .val (.long q2), .second, .val (.int p3), .val (.int p4), .val (.int (p4 &&& (3 : Int32))), .val (.double (own_sc p4)), .second, .val (.int (p1 &&& (3 : Int32))), .unset, .unset, .unset, .unset, .unset, .unset, .unset, .unset, .unset, .unset, .unset, .unset, .unset, .unset, .unset, .unset, .unset, .unset, .unset] [(.long (4503599627370496 : Int64))])) _
    refine XS.lloadN X5.here hx rfl (hb hby at_21) rfl ?_
    show Steps p.tables e below (T5.setTop (mkF m 22 #[.val (.int p1), .val (.long q2), .second, .val (.int p3), .val (.int p4), .val (.int (p4 &&& (3 : Int32))), .val (.double (own_sc p4)), .second, .val (.int (p1 &&& (3 : Int32))), .unset, .unset, .unset, .unset, .unset, .unset, .unset, .unset, .unset, .unset, .unset, .unset, .unset, .unset, .unset, .unset, .unset, .unset, .unset] [(.long q2), (.long (4503599627370496 : Int64))])) _
    refine X5.ldc2Long hx hown (mvT hZ (hw _ (List.mem_of_getElem? (i := 5) rfl))) (g := (mkF m 22 #[.val (.int p1), .val (.long q2), .second, .val (.int p3), .val (.int p4), .val (.int (p4 &&& (3 : Int32))), .val (.double (own_sc p4)), .second, .val (.int (p1 &&& (3 : Int32))), .unset, .unset, .unset, .unset, .unset, .unset, .unset, .unset, .unset, .unset, .unset, .unset, .unset, .unset, .unset, .unset, .unset, .unset, .unset] [(.long q2), (.long (4503599627370496 : Int64))])) rfl (hb hby at_22) _ ?_
    show Steps p.tables e below (T5.setTop (mkF m 25 #[.val (.int p1), .val (.long q2), .second, .val (.int p3), .val (.int p4), .val (.int (p4 &&& (3 : Int32))), .val (.double (own_sc p4)), .second, .val (.int (p1 &&& (3 : Int32))), .unset, .unset, .unset, .unset, .unset, .unset, .unset, .unset, .unset, .unset, .unset, .unset, .unset, .unset, .unset, .unset, .unset, .unset, .unset] [(.long (2251799813685247 : Int64)), (.long q2), (.long (4503599627370496 : Int64))])) _
    refine XS.land X5.here hx rfl (hb hby at_25) rfl ?_
    refine XS.lor X5.here hx rfl (hb hby at_26) rfl ?_
    show Steps p.tables e below (T5.setTop (mkF m 27 #[.val (.int p1), .val (.long q2), .second, .val (.int p3), .val (.int p4), .val (.int (p4 &&& (3 : Int32))), .val (.double (own_sc p4)), .second, .val (.int (p1 &&& (3 : Int32))), .unset, .unset, .unset, .unset, .unset, .unset, .unset, .unset, .unset, .unset, .unset, .unset, .unset, .unset, .unset, .unset, .unset, .unset, .unset] [(.long (own_H q2))])) _
    refine XS.lstore X5.here hx rfl (hb hby at_27) rfl (l' := #[.val (.int p1), .val (.long q2), .second, .val (.int p3), .val (.int p4), .val (.int (p4 &&& (3 : Int32))), .val (.double (own_sc p4)), .second, .val (.int (p1 &&& (3 : Int32))), .val (.long (own_H q2)), .second, .unset, .unset, .unset, .unset, .unset, .unset, .unset, .unset, .unset, .unset, .unset, .unset, .unset, .unset, .unset, .unset, .unset]) rfl ?_
    refine XS.iload X5.here hx rfl (hb hby at_29) rfl ?_
    show Steps p.tables e below (T5.setTop (mkF m 31 #[.val (.int p1), .val (.long q2), .second, .val (.int p3), .val (.int p4), .val (.int (p4 &&& (3 : Int32))), .val (.double (own_sc p4)), .second, .val (.int (p1 &&& (3 : Int32))), .val (.long (own_H q2)), .second, .unset, .unset, .unset, .unset, .unset, .unset, .unset, .unset, .unset, .unset, .unset, .unset, .unset, .unset, .unset, .unset, .unset] [(.int (p1 &&& (3 : Int32)))])) _
    refine XS.ifNo X5.here hx rfl (hb hby at_31) rfl ((if0 _ _).trans (teq hc31).2) ?_
    refine XS.iloadN X5.here hx rfl (hb hby at_34) rfl ?_
    show Steps p.tables e below (T5.setTop (mkF m 35 #[.val (.int p1), .val (.long q2), .second, .val (.int p3), .val (.int p4), .val (.int (p4 &&& (3 : Int32))), .val (.double (own_sc p4)), .second, .val (.int (p1 &&& (3 : Int32))), .val (.long (own_H q2)), .second, .unset, .unset, .unset, .unset, .unset, .unset, .unset, .unset, .unset, .unset, .unset, .unset, .unset, .unset, .unset, .unset, .unset] [(.int p3)])) _
    refine XS.bipush X5.here hx rfl (hb hby at_35) ?_
    show Steps p.tables e below (T5.setTop (mkF m 37 #[.val (.int p1), .val (.long q2), .second, .val (.int p3), .val (.int p4), .val (.int (p4 &&& (3 : Int32))), .val (.double (own_sc p4)), .second, .val (.int (p1 &&& (3 : Int32))), .val (.long (own_H q2)), .second, .unset, .unset, .unset, .unset, .unset, .unset, .unset, .unset, .unset, .unset, .unset, .unset, .unset, .unset, .unset, .unset, .unset] [(.int (64 : Int32)), (.int p3)])) _
    refine own_irem X5.here hx rfl (hb hby at_37) rfl hnz37 ?_
    show Steps p.tables e below (T5.setTop (mkF m 38 #[.val (.int p1), .val (.long q2), .second, .val (.int p3), .val (.int p4), .val (.int (p4 &&& (3 : Int32))), .val (.double (own_sc p4)), .second, .val (.int (p1 &&& (3 : Int32))), .val (.long (own_H q2)), .second, .unset, .unset, .unset, .unset, .unset, .unset, .unset, .unset, .unset, .unset, .unset, .unset, .unset, .unset, .unset, .unset, .unset] [(.int (p3 % (64 : Int32)))])) _
    refine XS.i2l X5.here hx rfl (hb hby at_38) rfl ?_
    refine XS.lstore X5.here hx rfl (hb hby at_39) rfl (l' := #[.val (.int p1), .val (.long q2), .second, .val (.int p3), .val (.int p4), .val (.int (p4 &&& (3 : Int32))), .val (.double (own_sc p4)), .second, .val (.int (p1 &&& (3 : Int32))), .val (.long (own_H q2)), .second, .val (.long (own_dl p3)), .second, .unset, .unset, .unset, .unset, .unset, .unset, .unset, .unset, .unset, .unset, .unset, .unset, .unset, .unset, .unset]) rfl ?_
    show Steps p.tables e below (T5.setTop (mkF m 41 #[.val (.int p1), .val (.long q2), .second, .val (.int p3), .val (.int p4), .val (.int (p4 &&& (3 : Int32))), .val (.double (own_sc p4)), .second, .val (.int (p1 &&& (3 : Int32))), .val (.long (own_H q2)), .second, .val (.long (own_dl p3)), .second, .unset, .unset, .unset, .unset, .unset, .unset, .unset, .unset, .unset, .unset, .unset, .unset, .unset, .unset, .unset] [])) _
    refine XS.lload X5.here hx rfl (hb hby at_41) rfl ?_
    refine XS.bipush X5.here hx rfl (hb hby at_43) ?_
    show Steps p.tables e below (T5.setTop (mkF m 45 #[.val (.int p1), .val (.long q2), .second, .val (.int p3), .val (.int p4), .val (.int (p4 &&& (3 : Int32))), .val (.double (own_sc p4)), .second, .val (.int (p1 &&& (3 : Int32))), .val (.long (own_H q2)), .second, .val (.long (own_dl p3)), .second, .unset, .unset, .unset, .unset, .unset, .unset, .unset, .unset, .unset, .unset, .unset, .unset, .unset, .unset, .unset] [(.int (48 : Int32)), (.long (own_H q2))])) _
    refine XS.lushr X5.here hx rfl (hb hby at_45) rfl ?_
    refine XS.lstore X5.here hx rfl (hb hby at_46) rfl (l' := #[.val (.int p1), .val (.long q2), .second, .val (.int p3), .val (.int p4), .val (.int (p4 &&& (3 : Int32))), .val (.double (own_sc p4)), .second, .val (.int (p1 &&& (3 : Int32))), .val (.long (own_H q2)), .second, .val (.long (own_dl p3)), .second, .val (.long (own_q q2)), .second, .unset, .unset, .unset, .unset, .unset, .unset, .unset, .unset, .unset, .unset, .unset, .unset, .unset]) rfl ?_
    show Steps p.tables e below (T5.setTop (mkF m 48 #[.val (.int p1), .val (.long q2), .second, .val (.int p3), .val (.int p4), .val (.int (p4 &&& (3 : Int32))), .val (.double (own_sc p4)), .second, .val (.int (p1 &&& (3 : Int32))), .val (.long (own_H q2)), .second, .val (.long (own_dl p3)), .second, .val (.long (own_q q2)), .second, .unset, .unset, .unset, .unset, .unset, .unset, .unset, .unset, .unset, .unset, .unset, .unset, .unset] [])) _
    refine XS.lload X5.here hx rfl (hb hby at_48) rfl ?_
    show Steps p.tables e below (T5.setTop (mkF m 50 #[.val (.int p1), .val (.long q2), .second, .val (.int p3), .val (.int p4), .val (.int (p4 &&& (3 : Int32))), .val (.double (own_sc p4)), .second, .val (.int (p1 &&& (3 : Int32))), .val (.long (own_H q2)), .second, .val (.long (own_dl p3)), .second, .val (.long (own_q q2)), .second, .unset, .unset, .unset, .unset, .unset, .unset, .unset, .unset, .unset, .unset, .unset, .unset, .unset] [(.long (own_H q2))])) _
    refine X5.ldc2Long hx hown (mvT hZ (hw _ (List.mem_of_getElem? (i := 6) rfl))) (g := (mkF m 50 #[.val (.int p1), .val (.long q2), .second, .val (.int p3), .val (.int p4), .val (.int (p4 &&& (3 : Int32))), .val (.double (own_sc p4)), .second, .val (.int (p1 &&& (3 : Int32))), .val (.long (own_H q2)), .second, .val (.long (own_dl p3)), .second, .val (.long (own_q q2)), .second, .unset, .unset, .unset, .unset, .unset, .unset, .unset, .unset, .unset, .unset, .unset, .unset, .unset] [(.long (own_H q2))])) rfl (hb hby at_50) _ ?_
    show Steps p.tables e below (T5.setTop (mkF m 53 #[.val (.int p1), .val (.long q2), .second, .val (.int p3), .val (.int p4), .val (.int (p4 &&& (3 : Int32))), .val (.double (own_sc p4)), .second, .val (.int (p1 &&& (3 : Int32))), .val (.long (own_H q2)), .second, .val (.long (own_dl p3)), .second, .val (.long (own_q q2)), .second, .unset, .unset, .unset, .unset, .unset, .unset, .unset, .unset, .unset, .unset, .unset, .unset, .unset] [(.long (281474976710655 : Int64)), (.long (own_H q2))])) _
    refine XS.land X5.here hx rfl (hb hby at_53) rfl ?_
    refine XS.lstore X5.here hx rfl (hb hby at_54) rfl (l' := #[.val (.int p1), .val (.long q2), .second, .val (.int p3), .val (.int p4), .val (.int (p4 &&& (3 : Int32))), .val (.double (own_sc p4)), .second, .val (.int (p1 &&& (3 : Int32))), .val (.long (own_H q2)), .second, .val (.long (own_dl p3)), .second, .val (.long (own_q q2)), .second, .val (.long (own_r q2)), .second, .unset, .unset, .unset, .unset, .unset, .unset, .unset, .unset, .unset, .unset, .unset]) rfl ?_
    show Steps p.tables e below (T5.setTop (mkF m 56 #[.val (.int p1), .val (.long q2), .second, .val (.int p3), .val (.int p4), .val (.int (p4 &&& (3 : Int32))), .val (.double (own_sc p4)), .second, .val (.int (p1 &&& (3 : Int32))), .val (.long (own_H q2)), .second, .val (.long (own_dl p3)), .second, .val (.long (own_q q2)), .second, .val (.long (own_r q2)), .second, .unset, .unset, .unset, .unset, .unset, .unset, .unset, .unset, .unset, .unset, .unset] [])) _
    refine X5.ldc2Long hx hown (mvT hZ (hw _ (List.mem_of_getElem? (i := 7) rfl))) (g := (mkF m 56 #[.val (.int p1), .val (.long q2), .second, .val (.int p3), .val (.int p4), .val (.int (p4 &&& (3 : Int32))), .val (.double (own_sc p4)), .second, .val (.int (p1 &&& (3 : Int32))), .val (.long (own_H q2)), .second, .val (.long (own_dl p3)), .second, .val (.long (own_q q2)), .second, .val (.long (own_r q2)), .second, .unset, .unset, .unset, .unset, .unset, .unset, .unset, .unset, .unset, .unset, .unset] [])) rfl (hb hby at_56) _ ?_
    show Steps p.tables e below (T5.setTop (mkF m 59 #[.val (.int p1), .val (.long q2), .second, .val (.int p3), .val (.int p4), .val (.int (p4 &&& (3 : Int32))), .val (.double (own_sc p4)), .second, .val (.int (p1 &&& (3 : Int32))), .val (.long (own_H q2)), .second, .val (.long (own_dl p3)), .second, .val (.long (own_q q2)), .second, .val (.long (own_r q2)), .second, .unset, .unset, .unset, .unset, .unset, .unset, .unset, .unset, .unset, .unset, .unset] [(.long (140737488355328 : Int64))])) _
    refine XS.lstore X5.here hx rfl (hb hby at_59) rfl (l' := #[.val (.int p1), .val (.long q2), .second, .val (.int p3), .val (.int p4), .val (.int (p4 &&& (3 : Int32))), .val (.double (own_sc p4)), .second, .val (.int (p1 &&& (3 : Int32))), .val (.long (own_H q2)), .second, .val (.long (own_dl p3)), .second, .val (.long (own_q q2)), .second, .val (.long (own_r q2)), .second, .val (.long (140737488355328 : Int64)), .second, .unset, .unset, .unset, .unset, .unset, .unset, .unset, .unset, .unset]) rfl ?_
    refine XS.lload X5.here hx rfl (hb hby at_61) rfl ?_
    show Steps p.tables e below (T5.setTop (mkF m 63 #[.val (.int p1), .val (.long q2), .second, .val (.int p3), .val (.int p4), .val (.int (p4 &&& (3 : Int32))), .val (.double (own_sc p4)), .second, .val (.int (p1 &&& (3 : Int32))), .val (.long (own_H q2)), .second, .val (.long (own_dl p3)), .second, .val (.long (own_q q2)), .second, .val (.long (own_r q2)), .second, .val (.long (140737488355328 : Int64)), .second, .unset, .unset, .unset, .unset, .unset, .unset, .unset, .unset, .unset] [(.long (own_r q2))])) _
    refine XS.lload X5.here hx rfl (hb hby at_63) rfl ?_
    refine XS.lcmp X5.here hx rfl (hb hby at_65) rfl ?_
    show Steps p.tables e below (T5.setTop (mkF m 66 #[.val (.int p1), .val (.long q2), .second, .val (.int p3), .val (.int p4), .val (.int (p4 &&& (3 : Int32))), .val (.double (own_sc p4)), .second, .val (.int (p1 &&& (3 : Int32))), .val (.long (own_H q2)), .second, .val (.long (own_dl p3)), .second, .val (.long (own_q q2)), .second, .val (.long (own_r q2)), .second, .val (.long (140737488355328 : Int64)), .second, .unset, .unset, .unset, .unset, .unset, .unset, .unset, .unset, .unset] [(.int (lcmpW (own_r q2) (140737488355328 : Int64)))])) _
    refine XS.ifYes X5.here hx rfl (pc0 := 66) (pc' := 75) rfl (hb hby at_66) rfl ((if0 _ _).trans (flt hc66).2.2.2) (by decide) (by decide) ?_
    refine XS.lload X5.here hx rfl (hb hby at_75) rfl ?_
    show Steps p.tables e below (T5.setTop (mkF m 77 #[.val (.int p1), .val (.long q2), .second, .val (.int p3), .val (.int p4), .val (.int (p4 &&& (3 : Int32))), .val (.double (own_sc p4)), .second, .val (.int (p1 &&& (3 : Int32))), .val (.long (own_H q2)), .second, .val (.long (own_dl p3)), .second, .val (.long (own_q q2)), .second, .val (.long (own_r q2)), .second, .val (.long (140737488355328 : Int64)), .second, .unset, .unset, .unset, .unset, .unset, .unset, .unset, .unset, .unset] [(.long (own_r q2))])) _
    refine XS.lload X5.here hx rfl (hb hby at_77) rfl ?_
    refine XS.lcmp X5.here hx rfl (hb hby at_79) rfl ?_
    show Steps p.tables e below (T5.setTop (mkF m 80 #[.val (.int p1), .val (.long q2), .second, .val (.int p3), .val (.int p4), .val (.int (p4 &&& (3 : Int32))), .val (.double (own_sc p4)), .second, .val (.int (p1 &&& (3 : Int32))), .val (.long (own_H q2)), .second, .val (.long (own_dl p3)), .second, .val (.long (own_q q2)), .second, .val (.long (own_r q2)), .second, .val (.long (140737488355328 : Int64)), .second, .unset, .unset, .unset, .unset, .unset, .unset, .unset, .unset, .unset] [(.int (lcmpW (own_r q2) (140737488355328 : Int64)))])) _
    refine XS.ifYes X5.here hx rfl (pc0 := 80) (pc' := 89) rfl (hb hby at_80) rfl ((if0 _ _).trans (flt hc80).2.1) (by decide) (by decide) ?_
    refine XS.lload X5.here hx rfl (hb hby at_89) rfl ?_
    show Steps p.tables e below (T5.setTop (mkF m 91 #[.val (.int p1), .val (.long q2), .second, .val (.int p3), .val (.int p4), .val (.int (p4 &&& (3 : Int32))), .val (.double (own_sc p4)), .second, .val (.int (p1 &&& (3 : Int32))), .val (.long (own_H q2)), .second, .val (.long (own_dl p3)), .second, .val (.long (own_q q2)), .second, .val (.long (own_r q2)), .second, .val (.long (140737488355328 : Int64)), .second, .unset, .unset, .unset, .unset, .unset, .unset, .unset, .unset, .unset] [(.long (own_H q2))])) _
    refine XS.lload X5.here hx rfl (hb hby at_91) rfl ?_
    refine XS.ladd X5.here hx rfl (hb hby at_93) rfl ?_
    show Steps p.tables e below (T5.setTop (mkF m 94 #[.val (.int p1), .val (.long q2), .second, .val (.int p3), .val (.int p4), .val (.int (p4 &&& (3 : Int32))), .val (.double (own_sc p4)), .second, .val (.int (p1 &&& (3 : Int32))), .val (.long (own_H q2)), .second, .val (.long (own_dl p3)), .second, .val (.long (own_q q2)), .second, .val (.long (own_r q2)), .second, .val (.long (140737488355328 : Int64)), .second, .unset, .unset, .unset, .unset, .unset, .unset, .unset, .unset, .unset] [(.long (own_hq1 q2))])) _
    refine XS.lconst X5.here hx rfl (hb hby at_94) ?_
    refine XS.land X5.here hx rfl (hb hby at_95) rfl ?_
    show Steps p.tables e below (T5.setTop (mkF m 96 #[.val (.int p1), .val (.long q2), .second, .val (.int p3), .val (.int p4), .val (.int (p4 &&& (3 : Int32))), .val (.double (own_sc p4)), .second, .val (.int (p1 &&& (3 : Int32))), .val (.long (own_H q2)), .second, .val (.long (own_dl p3)), .second, .val (.long (own_q q2)), .second, .val (.long (own_r q2)), .second, .val (.long (140737488355328 : Int64)), .second, .unset, .unset, .unset, .unset, .unset, .unset, .unset, .unset, .unset] [(.long ((own_hq1 q2) &&& (1 : Int64)))])) _
    refine XS.lconst X5.here hx rfl (hb hby at_96) ?_
    refine XS.lcmp X5.here hx rfl (hb hby at_97) rfl ?_
    show Steps p.tables e below (T5.setTop (mkF m 98 #[.val (.int p1), .val (.long q2), .second, .val (.int p3), .val (.int p4), .val (.int (p4 &&& (3 : Int32))), .val (.double (own_sc p4)), .second, .val (.int (p1 &&& (3 : Int32))), .val (.long (own_H q2)), .second, .val (.long (own_dl p3)), .second, .val (.long (own_q q2)), .second, .val (.long (own_r q2)), .second, .val (.long (140737488355328 : Int64)), .second, .unset, .unset, .unset, .unset, .unset, .unset, .unset, .unset, .unset] [(.int (lcmpW ((own_hq1 q2) &&& (1 : Int64)) (0 : Int64)))])) _
    refine XS.ifYes X5.here hx rfl (pc0 := 98) (pc' := 105) rfl (hb hby at_98) rfl ((if0 _ _).trans (feq hc98).2) (by decide) (by decide) ?_
    refine XS.lconst X5.here hx rfl (hb hby at_105) ?_
    show Steps p.tables e below (T5.setTop (mkF m 106 #[.val (.int p1), .val (.long q2), .second, .val (.int p3), .val (.int p4), .val (.int (p4 &&& (3 : Int32))), .val (.double (own_sc p4)), .second, .val (.int (p1 &&& (3 : Int32))), .val (.long (own_H q2)), .second, .val (.long (own_dl p3)), .second, .val (.long (own_q q2)), .second, .val (.long (own_r q2)), .second, .val (.long (140737488355328 : Int64)), .second, .unset, .unset, .unset, .unset, .unset, .unset, .unset, .unset, .unset] [(.long (1 : Int64))])) _
    refine XS.lstore X5.here hx rfl (hb hby at_106) rfl (l' := #[.val (.int p1), .val (.long q2), .second, .val (.int p3), .val (.int p4), .val (.int (p4 &&& (3 : Int32))), .val (.double (own_sc p4)), .second, .val (.int (p1 &&& (3 : Int32))), .val (.long (own_H q2)), .second, .val (.long (own_dl p3)), .second, .val (.long (own_q q2)), .second, .val (.long (own_r q2)), .second, .val (.long (140737488355328 : Int64)), .second, .val (.long (1 : Int64)), .second, .unset, .unset, .unset, .unset, .unset, .unset, .unset]) rfl ?_
    refine XS.lload X5.here hx rfl (hb hby at_108) rfl ?_
    show Steps p.tables e below (T5.setTop (mkF m 110 #[.val (.int p1), .val (.long q2), .second, .val (.int p3), .val (.int p4), .val (.int (p4 &&& (3 : Int32))), .val (.double (own_sc p4)), .second, .val (.int (p1 &&& (3 : Int32))), .val (.long (own_H q2)), .second, .val (.long (own_dl p3)), .second, .val (.long (own_q q2)), .second, .val (.long (own_r q2)), .second, .val (.long (140737488355328 : Int64)), .second, .val (.long (1 : Int64)), .second, .unset, .unset, .unset, .unset, .unset, .unset, .unset] [(.long (own_H q2))])) _
    refine XS.lload X5.here hx rfl (hb hby at_110) rfl ?_
    refine XS.ladd X5.here hx rfl (hb hby at_112) rfl ?_
    show Steps p.tables e below (T5.setTop (mkF m 113 #[.val (.int p1), .val (.long q2), .second, .val (.int p3), .val (.int p4), .val (.int (p4 &&& (3 : Int32))), .val (.double (own_sc p4)), .second, .val (.int (p1 &&& (3 : Int32))), .val (.long (own_H q2)), .second, .val (.long (own_dl p3)), .second, .val (.long (own_q q2)), .second, .val (.long (own_r q2)), .second, .val (.long (140737488355328 : Int64)), .second, .val (.long (1 : Int64)), .second, .unset, .unset, .unset, .unset, .unset, .unset, .unset] [(.long (own_hq1 q2))])) _
    refine XS.lload X5.here hx rfl (hb hby at_113) rfl ?_
    refine XS.ladd X5.here hx rfl (hb hby at_115) rfl ?_
    show Steps p.tables e below (T5.setTop (mkF m 116 #[.val (.int p1), .val (.long q2), .second, .val (.int p3), .val (.int p4), .val (.int (p4 &&& (3 : Int32))), .val (.double (own_sc p4)), .second, .val (.int (p1 &&& (3 : Int32))), .val (.long (own_H q2)), .second, .val (.long (own_dl p3)), .second, .val (.long (own_q q2)), .second, .val (.long (own_r q2)), .second, .val (.long (140737488355328 : Int64)), .second, .val (.long (1 : Int64)), .second, .unset, .unset, .unset, .unset, .unset, .unset, .unset] [(.long ((own_hq1 q2) + (1 : Int64)))])) _
    refine XS.lstore X5.here hx rfl (hb hby at_116) rfl (l' := #[.val (.int p1), .val (.long q2), .second, .val (.int p3), .val (.int p4), .val (.int (p4 &&& (3 : Int32))), .val (.double (own_sc p4)), .second, .val (.int (p1 &&& (3 : Int32))), .val (.long (own_H q2)), .second, .val (.long (own_dl p3)), .second, .val (.long (own_q q2)), .second, .val (.long (own_r q2)), .second, .val (.long (140737488355328 : Int64)), .second, .val (.long (1 : Int64)), .second, .val (.long ((own_hq1 q2) + (1 : Int64))), .second, .unset, .unset, .unset, .unset, .unset]) rfl ?_
    refine XS.lload X5.here hx rfl (hb hby at_118) rfl ?_
    show Steps p.tables e below (T5.setTop (mkF m 120 #[.val (.int p1), .val (.long q2), .second, .val (.int p3), .val (.int p4), .val (.int (p4 &&& (3 : Int32))), .val (.double (own_sc p4)), .second, .val (.int (p1 &&& (3 : Int32))), .val (.long (own_H q2)), .second, .val (.long (own_dl p3)), .second, .val (.long (own_q q2)), .second, .val (.long (own_r q2)), .second, .val (.long (140737488355328 : Int64)), .second, .val (.long (1 : Int64)), .second, .val (.long ((own_hq1 q2) + (1 : Int64))), .second, .unset, .unset, .unset, .unset, .unset] [(.long (own_H q2))])) _
    refine XS.l2dS X5.here hx rfl (hb hby at_120) rfl rfl ?_
    refine XS.dload X5.here hx rfl (hb hby at_121) rfl ?_
    show Steps p.tables e below (T5.setTop (mkF m 123 #[.val (.int p1), .val (.long q2), .second, .val (.int p3), .val (.int p4), .val (.int (p4 &&& (3 : Int32))), .val (.double (own_sc p4)), .second, .val (.int (p1 &&& (3 : Int32))), .val (.long (own_H q2)), .second, .val (.long (own_dl p3)), .second, .val (.long (own_q q2)), .second, .val (.long (own_r q2)), .second, .val (.long (140737488355328 : Int64)), .second, .val (.long (1 : Int64)), .second, .val (.long ((own_hq1 q2) + (1 : Int64))), .second, .unset, .unset, .unset, .unset, .unset] [(.double (own_sc p4)), (.double (FP.l2d (own_H q2)))])) _
    refine XS.dmulS X5.here hx rfl (hb hby at_123) rfl hnn123 rfl ?_
    refine XS.dstore X5.here hx rfl (hb hby at_124) rfl (l' := #[.val (.int p1), .val (.long q2), .second, .val (.int p3), .val (.int p4), .val (.int (p4 &&& (3 : Int32))), .val (.double (own_sc p4)), .second, .val (.int (p1 &&& (3 : Int32))), .val (.long (own_H q2)), .second, .val (.long (own_dl p3)), .second, .val (.long (own_q q2)), .second, .val (.long (own_r q2)), .second, .val (.long (140737488355328 : Int64)), .second, .val (.long (1 : Int64)), .second, .val (.long ((own_hq1 q2) + (1 : Int64))), .second, .val (.double (FP.dmul (FP.l2d (own_H q2)) (own_sc p4))), .second, .unset, .unset, .unset]) rfl ?_
    show Steps p.tables e below (T5.setTop (mkF m 126 #[.val (.int p1), .val (.long q2), .second, .val (.int p3), .val (.int p4), .val (.int (p4 &&& (3 : Int32))), .val (.double (own_sc p4)), .second, .val (.int (p1 &&& (3 : Int32))), .val (.long (own_H q2)), .second, .val (.long (own_dl p3)), .second, .val (.long (own_q q2)), .second, .val (.long (own_r q2)), .second, .val (.long (140737488355328 : Int64)), .second, .val (.long (1 : Int64)), .second, .val (.long ((own_hq1 q2) + (1 : Int64))), .second, .val (.double (FP.dmul (FP.l2d (own_H q2)) (own_sc p4))), .second, .unset, .unset, .unset] [])) _
    refine XS.lload X5.here hx rfl (hb hby at_126) rfl ?_
    refine XS.lload X5.here hx rfl (hb hby at_128) rfl ?_
    show Steps p.tables e below (T5.setTop (mkF m 130 #[.val (.int p1), .val (.long q2), .second, .val (.int p3), .val (.int p4), .val (.int (p4 &&& (3 : Int32))), .val (.double (own_sc p4)), .second, .val (.int (p1 &&& (3 : Int32))), .val (.long (own_H q2)), .second, .val (.long (own_dl p3)), .second, .val (.long (own_q q2)), .second, .val (.long (own_r q2)), .second, .val (.long (140737488355328 : Int64)), .second, .val (.long (1 : Int64)), .second, .val (.long ((own_hq1 q2) + (1 : Int64))), .second, .val (.double (FP.dmul (FP.l2d (own_H q2)) (own_sc p4))), .second, .unset, .unset, .unset] [(.long (own_dl p3)), (.long (own_H q2))])) _
    refine XS.ladd X5.here hx rfl (hb hby at_130) rfl ?_
    refine XS.l2dS X5.here hx rfl (hb hby at_131) rfl rfl ?_
    show Steps p.tables e below (T5.setTop (mkF m 132 #[.val (.int p1), .val (.long q2), .second, .val (.int p3), .val (.int p4), .val (.int (p4 &&& (3 : Int32))), .val (.double (own_sc p4)), .second, .val (.int (p1 &&& (3 : Int32))), .val (.long (own_H q2)), .second, .val (.long (own_dl p3)), .second, .val (.long (own_q q2)), .second, .val (.long (own_r q2)), .second, .val (.long (140737488355328 : Int64)), .second, .val (.long (1 : Int64)), .second, .val (.long ((own_hq1 q2) + (1 : Int64))), .second, .val (.double (FP.dmul (FP.l2d (own_H q2)) (own_sc p4))), .second, .unset, .unset, .unset] [(.double (FP.l2d (own_m q2 p3)))])) _
    refine XS.dload X5.here hx rfl (hb hby at_132) rfl ?_
    refine XS.dmulS X5.here hx rfl (hb hby at_134) rfl hnn134 rfl ?_
    show Steps p.tables e below (T5.setTop (mkF m 135 #[.val (.int p1), .val (.long q2), .second, .val (.int p3), .val (.int p4), .val (.int (p4 &&& (3 : Int32))), .val (.double (own_sc p4)), .second, .val (.int (p1 &&& (3 : Int32))), .val (.long (own_H q2)), .second, .val (.long (own_dl p3)), .second, .val (.long (own_q q2)), .second, .val (.long (own_r q2)), .second, .val (.long (140737488355328 : Int64)), .second, .val (.long (1 : Int64)), .second, .val (.long ((own_hq1 q2) + (1 : Int64))), .second, .val (.double (FP.dmul (FP.l2d (own_H q2)) (own_sc p4))), .second, .unset, .unset, .unset] [(.double (FP.dmul (FP.l2d (own_m q2 p3)) (own_sc p4)))])) _
    refine XS.dstore X5.here hx rfl (hb hby at_135) rfl (l' := #[.val (.int p1), .val (.long q2), .second, .val (.int p3), .val (.int p4), .val (.int (p4 &&& (3 : Int32))), .val (.double (own_sc p4)), .second, .val (.int (p1 &&& (3 : Int32))), .val (.long (own_H q2)), .second, .val (.long (own_dl p3)), .second, .val (.long (own_q q2)), .second, .val (.long (own_r q2)), .second, .val (.long (140737488355328 : Int64)), .second, .val (.long (1 : Int64)), .second, .val (.long ((own_hq1 q2) + (1 : Int64))), .second, .val (.double (FP.dmul (FP.l2d (own_H q2)) (own_sc p4))), .second, .val (.double (FP.dmul (FP.l2d (own_m q2 p3)) (own_sc p4))), .second, .unset]) rfl ?_
    refine XS.lload X5.here hx rfl (hb hby at_137) rfl ?_
    show Steps p.tables e below (T5.setTop (mkF m 139 #[.val (.int p1), .val (.long q2), .second, .val (.int p3), .val (.int p4), .val (.int (p4 &&& (3 : Int32))), .val (.double (own_sc p4)), .second, .val (.int (p1 &&& (3 : Int32))), .val (.long (own_H q2)), .second, .val (.long (own_dl p3)), .second, .val (.long (own_q q2)), .second, .val (.long (own_r q2)), .second, .val (.long (140737488355328 : Int64)), .second, .val (.long (1 : Int64)), .second, .val (.long ((own_hq1 q2) + (1 : Int64))), .second, .val (.double (FP.dmul (FP.l2d (own_H q2)) (own_sc p4))), .second, .val (.double (FP.dmul (FP.l2d (own_m q2 p3)) (own_sc p4))), .second, .unset] [(.long (own_H q2))])) _
    refine XS.lload X5.here hx rfl (hb hby at_139) rfl ?_
    refine XS.ladd X5.here hx rfl (hb hby at_141) rfl ?_
    show Steps p.tables e below (T5.setTop (mkF m 142 #[.val (.int p1), .val (.long q2), .second, .val (.int p3), .val (.int p4), .val (.int (p4 &&& (3 : Int32))), .val (.double (own_sc p4)), .second, .val (.int (p1 &&& (3 : Int32))), .val (.long (own_H q2)), .second, .val (.long (own_dl p3)), .second, .val (.long (own_q q2)), .second, .val (.long (own_r q2)), .second, .val (.long (140737488355328 : Int64)), .second, .val (.long (1 : Int64)), .second, .val (.long ((own_hq1 q2) + (1 : Int64))), .second, .val (.double (FP.dmul (FP.l2d (own_H q2)) (own_sc p4))), .second, .val (.double (FP.dmul (FP.l2d (own_m q2 p3)) (own_sc p4))), .second, .unset] [(.long (own_m q2 p3))])) _
    refine XS.lload X5.here hx rfl (hb hby at_142) rfl ?_
    refine XS.lcmp X5.here hx rfl (hb hby at_144) rfl ?_
    show Steps p.tables e below (T5.setTop (mkF m 145 #[.val (.int p1), .val (.long q2), .second, .val (.int p3), .val (.int p4), .val (.int (p4 &&& (3 : Int32))), .val (.double (own_sc p4)), .second, .val (.int (p1 &&& (3 : Int32))), .val (.long (own_H q2)), .second, .val (.long (own_dl p3)), .second, .val (.long (own_q q2)), .second, .val (.long (own_r q2)), .second, .val (.long (140737488355328 : Int64)), .second, .val (.long (1 : Int64)), .second, .val (.long ((own_hq1 q2) + (1 : Int64))), .second, .val (.double (FP.dmul (FP.l2d (own_H q2)) (own_sc p4))), .second, .val (.double (FP.dmul (FP.l2d (own_m q2 p3)) (own_sc p4))), .second, .unset] [(.int (lcmpW (own_m q2 p3) ((own_hq1 q2) + (1 : Int64))))])) _
    refine XS.ifYes X5.here hx rfl (pc0 := 145) (pc' := 152) rfl (hb hby at_145) rfl ((if0 _ _).trans (flt hc145).2.2.2) (by decide) (by decide) ?_
    refine XS.iconst X5.here hx rfl (hb hby at_152) ?_
    show Steps p.tables e below (T5.setTop (mkF m 153 #[.val (.int p1), .val (.long q2), .second, .val (.int p3), .val (.int p4), .val (.int (p4 &&& (3 : Int32))), .val (.double (own_sc p4)), .second, .val (.int (p1 &&& (3 : Int32))), .val (.long (own_H q2)), .second, .val (.long (own_dl p3)), .second, .val (.long (own_q q2)), .second, .val (.long (own_r q2)), .second, .val (.long (140737488355328 : Int64)), .second, .val (.long (1 : Int64)), .second, .val (.long ((own_hq1 q2) + (1 : Int64))), .second, .val (.double (FP.dmul (FP.l2d (own_H q2)) (own_sc p4))), .second, .val (.double (FP.dmul (FP.l2d (own_m q2 p3)) (own_sc p4))), .second, .unset] [(.int (0 : Int32))])) _
    refine XS.istore X5.here hx rfl (hb hby at_153) rfl (l' := #[.val (.int p1), .val (.long q2), .second, .val (.int p3), .val (.int p4), .val (.int (p4 &&& (3 : Int32))), .val (.double (own_sc p4)), .second, .val (.int (p1 &&& (3 : Int32))), .val (.long (own_H q2)), .second, .val (.long (own_dl p3)), .second, .val (.long (own_q q2)), .second, .val (.long (own_r q2)), .second, .val (.long (140737488355328 : Int64)), .second, .val (.long (1 : Int64)), .second, .val (.long ((own_hq1 q2) + (1 : Int64))), .second, .val (.double (FP.dmul (FP.l2d (own_H q2)) (own_sc p4))), .second, .val (.double (FP.dmul (FP.l2d (own_m q2 p3)) (own_sc p4))), .second, .val (.int (0 : Int32))]) rfl ?_
    refine XS.dload X5.here hx rfl (hb hby at_155) rfl ?_
    show Steps p.tables e below (T5.setTop (mkF m 157 #[.val (.int p1), .val (.long q2), .second, .val (.int p3), .val (.int p4), .val (.int (p4 &&& (3 : Int32))), .val (.double (own_sc p4)), .second, .val (.int (p1 &&& (3 : Int32))), .val (.long (own_H q2)), .second, .val (.long (own_dl p3)), .second, .val (.long (own_q q2)), .second, .val (.long (own_r q2)), .second, .val (.long (140737488355328 : Int64)), .second, .val (.long (1 : Int64)), .second, .val (.long ((own_hq1 q2) + (1 : Int64))), .second, .val (.double (FP.dmul (FP.l2d (own_H q2)) (own_sc p4))), .second, .val (.double (FP.dmul (FP.l2d (own_m q2 p3)) (own_sc p4))), .second, .val (.int (0 : Int32))] [(.double (FP.dmul (FP.l2d (own_m q2 p3)) (own_sc p4)))])) _
    refine XS.dload X5.here hx rfl (hb hby at_157) rfl ?_
    show Steps p.tables e below (T5.setTop (mkF m 159 #[.val (.int p1), .val (.long q2), .second, .val (.int p3), .val (.int p4), .val (.int (p4 &&& (3 : Int32))), .val (.double (own_sc p4)), .second, .val (.int (p1 &&& (3 : Int32))), .val (.long (own_H q2)), .second, .val (.long (own_dl p3)), .second, .val (.long (own_q q2)), .second, .val (.long (own_r q2)), .second, .val (.long (140737488355328 : Int64)), .second, .val (.long (1 : Int64)), .second, .val (.long ((own_hq1 q2) + (1 : Int64))), .second, .val (.double (FP.dmul (FP.l2d (own_H q2)) (own_sc p4))), .second, .val (.double (FP.dmul (FP.l2d (own_m q2 p3)) (own_sc p4))), .second, .val (.int (0 : Int32))] [(.double (FP.dmul (FP.l2d (own_H q2)) (own_sc p4))), (.double (FP.dmul (FP.l2d (own_m q2 p3)) (own_sc p4)))])) _
    refine st6 _ ?_
    show Steps p.tables e below (T6.setTop (mkF m 162 #[.val (.int p1), .val (.long q2), .second, .val (.int p3), .val (.int p4), .val (.int (p4 &&& (3 : Int32))), .val (.double (own_sc p4)), .second, .val (.int (p1 &&& (3 : Int32))), .val (.long (own_H q2)), .second, .val (.long (own_dl p3)), .second, .val (.long (own_q q2)), .second, .val (.long (own_r q2)), .second, .val (.long (140737488355328 : Int64)), .second, .val (.long (1 : Int64)), .second, .val (.long ((own_hq1 q2) + (1 : Int64))), .second, .val (.double (FP.dmul (FP.l2d (own_H q2)) (own_sc p4))), .second, .val (.double (FP.dmul (FP.l2d (own_m q2 p3)) (own_sc p4))), .second, .val (.int (0 : Int32))] [(.int (own_ich (FP.dmul (FP.l2d (own_m q2 p3)) (own_sc p4)) (FP.dmul (FP.l2d (own_H q2)) (own_sc p4))))])) _
    refine XS.iload X6.here hx rfl (hb hby at_162) rfl ?_
    refine XS.icmpNo X6.here hx rfl (hb hby at_164) rfl (teq (own_fin0 (own_u4 hc66 hc80 hc98) hc145 : (own_ich (FP.dmul (FP.l2d (own_m q2 p3)) (own_sc p4)) (FP.dmul (FP.l2d (own_H q2)) (own_sc p4))) = (0 : Int32))).2 ?_
    show Steps p.tables e below (T6.setTop (mkF m 167 #[.val (.int p1), .val (.long q2), .second, .val (.int p3), .val (.int p4), .val (.int (p4 &&& (3 : Int32))), .val (.double (own_sc p4)), .second, .val (.int (p1 &&& (3 : Int32))), .val (.long (own_H q2)), .second, .val (.long (own_dl p3)), .second, .val (.long (own_q q2)), .second, .val (.long (own_r q2)), .second, .val (.long (140737488355328 : Int64)), .second, .val (.long (1 : Int64)), .second, .val (.long ((own_hq1 q2) + (1 : Int64))), .second, .val (.double (FP.dmul (FP.l2d (own_H q2)) (own_sc p4))), .second, .val (.double (FP.dmul (FP.l2d (own_m q2 p3)) (own_sc p4))), .second, .val (.int (0 : Int32))] [])) _
    refine XS.iconst X6.here hx rfl (hb hby at_167) ?_
    refine XS.goto X6.here hx rfl (pc0 := 168) (pc' := 172) rfl (hb hby at_168) (by decide) (by decide) ?_
    show Steps p.tables e below (T6.setTop (mkF m 172 #[.val (.int p1), .val (.long q2), .second, .val (.int p3), .val (.int p4), .val (.int (p4 &&& (3 : Int32))), .val (.double (own_sc p4)), .second, .val (.int (p1 &&& (3 : Int32))), .val (.long (own_H q2)), .second, .val (.long (own_dl p3)), .second, .val (.long (own_q q2)), .second, .val (.long (own_r q2)), .second, .val (.long (140737488355328 : Int64)), .second, .val (.long (1 : Int64)), .second, .val (.long ((own_hq1 q2) + (1 : Int64))), .second, .val (.double (FP.dmul (FP.l2d (own_H q2)) (own_sc p4))), .second, .val (.double (FP.dmul (FP.l2d (own_m q2 p3)) (own_sc p4))), .second, .val (.int (0 : Int32))] [(.int (1 : Int32))])) _
    exact retN X6 hx (t := .boolean) Bd.returns (by simp) (hb hby at_172) hr
  · show Q0 Z p1 q2 p3 p4 h0 n0 _ T6.heap _
    exact ⟨rfl, N6⟩
set_option maxRecDepth 65536 in
set_option maxHeartbeats 40000000 in
theorem rm0_bpa (l : Launch) (Z : State) (a0 : Array Value) (hw : ∀ d ∈ tables_1, d.before a0 Z = true) (ws : List Jvm.Cond) (p1 : Int32) (q2 : Int64) (p3 : Int32) (p4 : Int32) (h0 : Heap) (n0 : Nat) (Z0 : n0 ≤ h0.size) (hc31 : ¬ ((p1 &&& (3 : Int32)) = (0 : Int32))) (hc176 : (p1 &&& (3 : Int32)) = (1 : Int32)) (hc182 : (p1 &&& (4 : Int32)) = (0 : Int32)) (hc212 : (p4 &&& (3 : Int32)) = (1 : Int32)) (hc221 : (lcmpW (own_k q2) (4503599627370496 : Int64)) < (0 : Int32)) :
    MetFree l x (head1 (Jvm.Cond.code x code maxLocals ret :: ws) room_1) (fun a U => a = #[(.int p1), (.long q2), (.int p3), (.int p4)] ∧ Z.Warmed39 U.vm ∧ U.heap = h0) (fun _ _ _ _ _ => True) (fun _ U o U' => ∃ v L, o = .returned v ∧ Q0 Z p1 q2 p3 p4 h0 n0 v U'.heap L ∧ FrameEnd U o U' L room_1.cells room_1.slots) := by
  have hnz198 : ¬ ((9007199254740992 : Int64) = (0 : Int64)) := by decide
  have hnn206 : Jvm.Free.Fl.NoNaN64 (FP.dmul (FP.l2d (own_k q2)) (own_sc p4)) := own_nn _ _
  refine MetFree.of_bodySF (plainFor_of_name pn_0) hisR ?_
  intro p e s m args below meth c s₁ Bd hml0 hP hK
  obtain ⟨rfl, hZ, hh⟩ := hP
  have hx := Bd.exec
  have hby := Bd.bytes
  have hml : c.maxLocals = 28 := hml0
  have hown : s.vm.findClass "com/example/level_ring/levelring/placement/MembersIsCertainlyHigherPinLaw" = some m.cls := findClass_of_methodNamed Bd.named
  have hnm := (name_of_methodNamed Bd.named Bd.method).1
  have X0 : Stand p l e room_1 s m #[(.int p1), (.long q2), (.int p3), (.int p4)] below meth c s₁ [] 0 0 := Stand.of_body Bd
  have e0 : s₁.heap = h0 := by rw [← hh, Bd.state]; rfl
  have N0 := Fr.nil n0
  have pre0 : ∀ t, Steps p.tables e below (s₁.setTop (mkF m 0 #[.val (.int p1), .val (.long q2), .second, .val (.int p3), .val (.int p4), .unset, .unset, .unset, .unset, .unset, .unset, .unset, .unset, .unset, .unset, .unset, .unset, .unset, .unset, .unset, .unset, .unset, .unset, .unset, .unset, .unset, .unset, .unset] [])) t → Steps p.tables e below (s₁.setTop (entryFrame m #[(.int p1), (.long q2), (.int p3), (.int p4)] maxLocals)) t := fun t k => castTop (ef_0 m p1 q2 p3 p4) k
  -- 3. LAWS
  -- pc 8: com/example/level_ring/levelring/placement/MembersIsCertainlyHigherPinLaw.scaleOf by its contract rm1
  obtain ⟨_, _, ⟨T5, L5, k5, n5⟩, -, X5, ⟨Lc5, hQ5, l5, y5, z5⟩, st5⟩ := Jvm.LawKit.callS X0 hx (y := (⟨"com/example/level_ring/levelring/placement/MembersIsCertainlyHigherPinLaw", "scaleOf", "(I)D"⟩ : MethodName)) hown (mvT hZ (hw _ (List.mem_of_getElem? (i := 0) rfl))) (mvT hZ (hw _ (List.mem_of_getElem? (i := 1) rfl))) (mvT hZ (hw _ (List.mem_of_getElem? (i := 2) rfl))) (mvT hZ (hw _ (List.mem_of_getElem? (i := 3) rfl))) (by decide) (backOf (W := 0) (rm1 l Z a0 hw [] (p4 &&& (3 : Int32))  h0 n0 Z0) hZ (hw _ (List.mem_of_getElem? (i := 3) rfl)) (hw _ (List.mem_of_getElem? (i := 2) rfl)) (by decide) (by decide)) (g := (mkF m 8 #[.val (.int p1), .val (.long q2), .second, .val (.int p3), .val (.int p4), .val (.int (p4 &&& (3 : Int32))), .unset, .unset, .unset, .unset, .unset, .unset, .unset, .unset, .unset, .unset, .unset, .unset, .unset, .unset, .unset, .unset, .unset, .unset, .unset, .unset, .unset, .unset] [(.int (p4 &&& (3 : Int32)))])) rfl (by rw [hml]; rfl) (argsL := [(.int (p4 &&& (3 : Int32)))]) (rest := []) (lenOf pdw_0 rfl) rfl (by show 2 * 0 + _ ≤ _; exact Nat.le_of_eq rfl) (hb hby at_8) (fun _ _ => ⟨rfl, e0, (by decide : 0 + 0 ≤ _), (by decide : 0 + 0 ≤ _)⟩)
  dsimp only [Pt.U, Pt.locs, Pt.cells, Pt.slots] at X5 l5 y5 z5 st5 hQ5
  subst l5 y5 z5
  obtain ⟨rfl, N5q, hh5⟩ := hQ5
  have N5 := Fr.app N0 N5q
  -- pc 250: com/example/level_ring/levelring/placement/Members.isCertainlyHigher by its contract rm2
  obtain ⟨_, _, ⟨T6, L6, k6, n6⟩, -, X6, ⟨Lc6, hQ6, l6, y6, z6⟩, st6⟩ := Jvm.LawKit.callS X5 hx (y := (⟨"com/example/level_ring/levelring/placement/Members", "isCertainlyHigher", "(DD)Z"⟩ : MethodName)) hown (mvT hZ (hw _ (List.mem_of_getElem? (i := 8) rfl))) (mvT hZ (hw _ (List.mem_of_getElem? (i := 9) rfl))) (mvT hZ (hw _ (List.mem_of_getElem? (i := 10) rfl))) (mvT hZ (hw _ (List.mem_of_getElem? (i := 11) rfl))) (by decide) (backOf (W := 0) (rm2 l Z a0 hw [] (FP.dmul (FP.l2d (own_k q2)) (own_sc p4)) FP.dconst0  h0 n0 Z0 (dmul_out (by unfold Fin64; decide +kernel) own_C_fin)) hZ (hw _ (List.mem_of_getElem? (i := 11) rfl)) (hw _ (List.mem_of_getElem? (i := 10) rfl)) (by decide) (by decide)) (g := (mkF m 250 #[.val (.int p1), .val (.long q2), .second, .val (.int p3), .val (.int p4), .val (.int (p4 &&& (3 : Int32))), .val (.double (own_sc p4)), .second, .val (.int (p1 &&& (3 : Int32))), .val (.long (own_H q2)), .second, .val (.double FP.dconst0), .second, .val (.long (own_k q2)), .second, .val (.double (FP.dmul (FP.l2d (own_k q2)) (own_sc p4))), .second, .val (.int (0 : Int32)), .unset, .unset, .unset, .unset, .unset, .unset, .unset, .unset, .unset, .unset] [(.double FP.dconst0), (.double (FP.dmul (FP.l2d (own_k q2)) (own_sc p4)))])) rfl (by rw [hml]; rfl) (argsL := [(.double (FP.dmul (FP.l2d (own_k q2)) (own_sc p4))), (.double FP.dconst0)]) (rest := []) (lenOf pdw_1 rfl) rfl (by show 2 * 0 + _ ≤ _; exact Nat.le_of_eq rfl) (hb hby at_250) (fun _ _ => ⟨rfl, hh5, (by decide : 0 + 0 ≤ _), (by decide : 0 + 0 ≤ _)⟩)
  dsimp only [Pt.U, Pt.locs, Pt.cells, Pt.slots] at X6 l6 y6 z6 st6 hQ6
  subst l6 y6 z6
  obtain ⟨rfl, N6q, hh6⟩ := hQ6
  have N6 := Fr.app N5 N6q
  obtain ⟨fs, hr, hrun, hended, hW, hsame⟩ := X6.leave (v := some (.int (1 : Int32))) (fun h => by rw [Bd.returns] at h; cases h)
  refine ⟨_, _, pre0 _ ?_, hrun, hended, _, _, rfl, ?_, ⟨_, rfl⟩, hW, hsame.mono (by decide) (by decide)⟩
  -- 4. STEPS
  · show Steps p.tables e below (s₁.setTop (mkF m 0 #[.val (.int p1), .val (.long q2), .second, .val (.int p3), .val (.int p4), .unset, .unset, .unset, .unset, .unset, .unset, .unset, .unset, .unset, .unset, .unset, .unset, .unset, .unset, .unset, .unset, .unset, .unset, .unset, .unset, .unset, .unset, .unset] [])) _
    refine XS.iload X0.here hx rfl (hb hby at_0) rfl ?_
    refine XS.iconst X0.here hx rfl (hb hby at_2) ?_
    show Steps p.tables e below (s₁.setTop (mkF m 3 #[.val (.int p1), .val (.long q2), .second, .val (.int p3), .val (.int p4), .unset, .unset, .unset, .unset, .unset, .unset, .unset, .unset, .unset, .unset, .unset, .unset, .unset, .unset, .unset, .unset, .unset, .unset, .unset, .unset, .unset, .unset, .unset] [(.int (3 : Int32)), (.int p4)])) _
    refine XS.iand X0.here hx rfl (hb hby at_3) rfl ?_
    refine XS.istore X0.here hx rfl (hb hby at_4) rfl (l' := #[.val (.int p1), .val (.long q2), .second, .val (.int p3), .val (.int p4), .val (.int (p4 &&& (3 : Int32))), .unset, .unset, .unset, .unset, .unset, .unset, .unset, .unset, .unset, .unset, .unset, .unset, .unset, .unset, .unset, .unset, .unset, .unset, .unset, .unset, .unset, .unset]) rfl ?_
    show Steps p.tables e below (s₁.setTop (mkF m 6 #[.val (.int p1), .val (.long q2), .second, .val (.int p3), .val (.int p4), .val (.int (p4 &&& (3 : Int32))), .unset, .unset, .unset, .unset, .unset, .unset, .unset, .unset, .unset, .unset, .unset, .unset, .unset, .unset, .unset, .unset, .unset, .unset, .unset, .unset, .unset, .unset] [])) _
    refine XS.iload X0.here hx rfl (hb hby at_6) rfl ?_
    show Steps p.tables e below (s₁.setTop (mkF m 8 #[.val (.int p1), .val (.long q2), .second, .val (.int p3), .val (.int p4), .val (.int (p4 &&& (3 : Int32))), .unset, .unset, .unset, .unset, .unset, .unset, .unset, .unset, .unset, .unset, .unset, .unset, .unset, .unset, .unset, .unset, .unset, .unset, .unset, .unset, .unset, .unset] [(.int (p4 &&& (3 : Int32)))])) _
    refine st5 _ ?_
    show Steps p.tables e below (T5.setTop (mkF m 11 #[.val (.int p1), .val (.long q2), .second, .val (.int p3), .val (.int p4), .val (.int (p4 &&& (3 : Int32))), .unset, .unset, .unset, .unset, .unset, .unset, .unset, .unset, .unset, .unset, .unset, .unset, .unset, .unset, .unset, .unset, .unset, .unset, .unset, .unset, .unset, .unset] [(.double (own_sc p4))])) _
    refine XS.dstore X5.here hx rfl (hb hby at_11) rfl (l' := #[.val (.int p1), .val (.long q2), .second, .val (.int p3), .val (.int p4), .val (.int (p4 &&& (3 : Int32))), .val (.double (own_sc p4)), .second, .unset, .unset, .unset, .unset, .unset, .unset, .unset, .unset, .unset, .unset, .unset, .unset, .unset, .unset, .unset, .unset, .unset, .unset, .unset, .unset]) rfl ?_
    refine XS.iloadN X5.here hx rfl (hb hby at_13) rfl ?_
    show Steps p.tables e below (T5.setTop (mkF m 14 #[.val (.int p1), .val (.long q2), .second, .val (.int p3), .val (.int p4), .val (.int (p4 &&& (3 : Int32))), .val (.double (own_sc p4)), .second, .unset, .unset, .unset, .unset, .unset, .unset, .unset, .unset, .unset, .unset, .unset, .unset, .unset, .unset, .unset, .unset, .unset, .unset, .unset, .unset] [(.int p1)])) _
    refine XS.iconst X5.here hx rfl (hb hby at_14) ?_
    refine XS.iand X5.here hx rfl (hb hby at_15) rfl ?_
    show Steps p.tables e below (T5.setTop (mkF m 16 #[.val (.int p1), .val (.long q2), .second, .val (.int p3), .val (.int p4), .val (.int (p4 &&& (3 : Int32))), .val (.double (own_sc p4)), .second, .unset, .unset, .unset, .unset, .unset, .unset, .unset, .unset, .unset, .unset, .unset, .unset, .unset, .unset, .unset, .unset, .unset, .unset, .unset, .unset] [(.int (p1 &&& (3 : Int32)))])) _
    refine XS.istore X5.here hx rfl (hb hby at_16) rfl (l' := #[.val (.int p1), .val (.long q2), .second, .val (.int p3), .val (.int p4), .val (.int (p4 &&& (3 : Int32))), .val (.double (own_sc p4)), .second, .val (.int (p1 &&& (3 : Int32))), .unset, .unset, .unset, .unset, .unset, .unset, .unset, .unset, .unset, .unset, .unset, .unset, .unset, .unset, .unset, .unset, .unset, .unset, .unset]) rfl ?_
    show Steps p.tables e below (T5.setTop (mkF m 18 #[.val (.int p1), .val (.long q2), .second, .val (.int p3), .val (.int p4), .val (.int (p4 &&& (3 : Int32))), .val (.double (own_sc p4)), .second, .val (.int (p1 &&& (3 : Int32))), .unset, .unset, .unset, .unset, .unset, .unset, .unset, .unset, .unset, .unset, .unset, .unset, .unset, .unset, .unset, .unset, .unset, .unset, .unset] [])) _
    refine X5.ldc2Long hx hown (mvT hZ (hw _ (List.mem_of_getElem? (i := 4) rfl))) (g := (mkF m 18 #[.val (.int p1), .val (.long q2), .second, .val (.int p3), .val (.int p4), .val (.int (p4 &&& (3 : Int32))), .val (.double (own_sc p4)), .second, .val (.int (p1 &&& (3 : Int32))), .unset, .unset, .unset, .unset, .unset, .unset, .unset, .unset, .unset, .unset, .unset, .unset, .unset, .unset, .unset, .unset, .unset, .unset, .unset] [])) rfl (hb hby at_18) _ ?_
    show Steps p.tables e below (T5.setTop (mkF m 21 #[.val (.int p1), .val (.long q2), .second, .val (.int p3), .val (.int p4), .val (.int (p4 &&& (3 : Int32))), .val (.double (own_sc p4)), .second, .val (.int (p1 &&& (3 : Int32))), .unset, .unset, .unset, .unset, .unset, .unset, .unset, .unset, .unset, .unset, .unset, .unset, .unset, .unset, .unset, .unset, .unset, .unset, .unset] [(.long (4503599627370496 : Int64))])) _
    refine XS.lloadN X5.here hx rfl (hb hby at_21) rfl ?_
    show Steps p.tables e below (T5.setTop (mkF m 22 #[.val (.int p1), .val (.long q2), .second, .val (.int p3), .val (.int p4), .val (.int (p4 &&& (3 : Int32))), .val (.double (own_sc p4)), .second, .val (.int (p1 &&& (3 : Int32))), .unset, .unset, .unset, .unset, .unset, .unset, .unset, .unset, .unset, .unset, .unset, .unset, .unset, .unset, .unset, .unset, .unset, .unset, .unset] [(.long q2), (.long (4503599627370496 : Int64))])) _
    refine X5.ldc2Long hx hown (mvT hZ (hw _ (List.mem_of_getElem? (i := 5) rfl))) (g := (mkF m 22 #[.val (.int p1), .val (.long q2), .second, .val (.int p3), .val (.int p4), .val (.int (p4 &&& (3 : Int32))), .val (.double (own_sc p4)), .second, .val (.int (p1 &&& (3 : Int32))), .unset, .unset, .unset, .unset, .unset, .unset, .unset, .unset, .unset, .unset, .unset, .unset, .unset, .unset, .unset, .unset, .unset, .unset, .unset] [(.long q2), (.long (4503599627370496 : Int64))])) rfl (hb hby at_22) _ ?_
    show Steps p.tables e below (T5.setTop (mkF m 25 #[.val (.int p1), .val (.long q2), .second, .val (.int p3), .val (.int p4), .val (.int (p4 &&& (3 : Int32))), .val (.double (own_sc p4)), .second, .val (.int (p1 &&& (3 : Int32))), .unset, .unset, .unset, .unset, .unset, .unset, .unset, .unset, .unset, .unset, .unset, .unset, .unset, .unset, .unset, .unset, .unset, .unset, .unset] [(.long (2251799813685247 : Int64)), (.long q2), (.long (4503599627370496 : Int64))])) _
    refine XS.land X5.here hx rfl (hb hby at_25) rfl ?_
    refine XS.lor X5.here hx rfl (hb hby at_26) rfl ?_
    show Steps p.tables e below (T5.setTop (mkF m 27 #[.val (.int p1), .val (.long q2), .second, .val (.int p3), .val (.int p4), .val (.int (p4 &&& (3 : Int32))), .val (.double (own_sc p4)), .second, .val (.int (p1 &&& (3 : Int32))), .unset, .unset, .unset, .unset, .unset, .unset, .unset, .unset, .unset, .unset, .unset, .unset, .unset, .unset, .unset, .unset, .unset, .unset, .unset] [(.long (own_H q2))])) _
    refine XS.lstore X5.here hx rfl (hb hby at_27) rfl (l' := #[.val (.int p1), .val (.long q2), .second, .val (.int p3), .val (.int p4), .val (.int (p4 &&& (3 : Int32))), .val (.double (own_sc p4)), .second, .val (.int (p1 &&& (3 : Int32))), .val (.long (own_H q2)), .second, .unset, .unset, .unset, .unset, .unset, .unset, .unset, .unset, .unset, .unset, .unset, .unset, .unset, .unset, .unset, .unset, .unset]) rfl ?_
    refine XS.iload X5.here hx rfl (hb hby at_29) rfl ?_
    show Steps p.tables e below (T5.setTop (mkF m 31 #[.val (.int p1), .val (.long q2), .second, .val (.int p3), .val (.int p4), .val (.int (p4 &&& (3 : Int32))), .val (.double (own_sc p4)), .second, .val (.int (p1 &&& (3 : Int32))), .val (.long (own_H q2)), .second, .unset, .unset, .unset, .unset, .unset, .unset, .unset, .unset, .unset, .unset, .unset, .unset, .unset, .unset, .unset, .unset, .unset] [(.int (p1 &&& (3 : Int32)))])) _
    refine XS.ifYes X5.here hx rfl (pc0 := 31) (pc' := 173) rfl (hb hby at_31) rfl ((if0 _ _).trans (feq hc31).2) (by decide) (by decide) ?_
    refine XS.iload X5.here hx rfl (hb hby at_173) rfl ?_
    show Steps p.tables e below (T5.setTop (mkF m 175 #[.val (.int p1), .val (.long q2), .second, .val (.int p3), .val (.int p4), .val (.int (p4 &&& (3 : Int32))), .val (.double (own_sc p4)), .second, .val (.int (p1 &&& (3 : Int32))), .val (.long (own_H q2)), .second, .unset, .unset, .unset, .unset, .unset, .unset, .unset, .unset, .unset, .unset, .unset, .unset, .unset, .unset, .unset, .unset, .unset] [(.int (p1 &&& (3 : Int32)))])) _
    refine XS.iconst X5.here hx rfl (hb hby at_175) ?_
    refine XS.icmpNo X5.here hx rfl (hb hby at_176) rfl (teq hc176).2 ?_
    show Steps p.tables e below (T5.setTop (mkF m 179 #[.val (.int p1), .val (.long q2), .second, .val (.int p3), .val (.int p4), .val (.int (p4 &&& (3 : Int32))), .val (.double (own_sc p4)), .second, .val (.int (p1 &&& (3 : Int32))), .val (.long (own_H q2)), .second, .unset, .unset, .unset, .unset, .unset, .unset, .unset, .unset, .unset, .unset, .unset, .unset, .unset, .unset, .unset, .unset, .unset] [])) _
    refine XS.iloadN X5.here hx rfl (hb hby at_179) rfl ?_
    refine XS.iconst X5.here hx rfl (hb hby at_180) ?_
    show Steps p.tables e below (T5.setTop (mkF m 181 #[.val (.int p1), .val (.long q2), .second, .val (.int p3), .val (.int p4), .val (.int (p4 &&& (3 : Int32))), .val (.double (own_sc p4)), .second, .val (.int (p1 &&& (3 : Int32))), .val (.long (own_H q2)), .second, .unset, .unset, .unset, .unset, .unset, .unset, .unset, .unset, .unset, .unset, .unset, .unset, .unset, .unset, .unset, .unset, .unset] [(.int (4 : Int32)), (.int p1)])) _
    refine XS.iand X5.here hx rfl (hb hby at_181) rfl ?_
    refine XS.ifYes X5.here hx rfl (pc0 := 182) (pc' := 191) rfl (hb hby at_182) rfl ((if0 _ _).trans (teq hc182).1) (by decide) (by decide) ?_
    show Steps p.tables e below (T5.setTop (mkF m 191 #[.val (.int p1), .val (.long q2), .second, .val (.int p3), .val (.int p4), .val (.int (p4 &&& (3 : Int32))), .val (.double (own_sc p4)), .second, .val (.int (p1 &&& (3 : Int32))), .val (.long (own_H q2)), .second, .unset, .unset, .unset, .unset, .unset, .unset, .unset, .unset, .unset, .unset, .unset, .unset, .unset, .unset, .unset, .unset, .unset] [])) _
    refine XS.dconst0 X5.here hx rfl (hb hby at_191) rfl ?_
    refine XS.dstore X5.here hx rfl (hb hby at_192) rfl (l' := #[.val (.int p1), .val (.long q2), .second, .val (.int p3), .val (.int p4), .val (.int (p4 &&& (3 : Int32))), .val (.double (own_sc p4)), .second, .val (.int (p1 &&& (3 : Int32))), .val (.long (own_H q2)), .second, .val (.double FP.dconst0), .second, .unset, .unset, .unset, .unset, .unset, .unset, .unset, .unset, .unset, .unset, .unset, .unset, .unset, .unset, .unset]) rfl ?_
    show Steps p.tables e below (T5.setTop (mkF m 194 #[.val (.int p1), .val (.long q2), .second, .val (.int p3), .val (.int p4), .val (.int (p4 &&& (3 : Int32))), .val (.double (own_sc p4)), .second, .val (.int (p1 &&& (3 : Int32))), .val (.long (own_H q2)), .second, .val (.double FP.dconst0), .second, .unset, .unset, .unset, .unset, .unset, .unset, .unset, .unset, .unset, .unset, .unset, .unset, .unset, .unset, .unset] [])) _
    refine XS.lloadN X5.here hx rfl (hb hby at_194) rfl ?_
    show Steps p.tables e below (T5.setTop (mkF m 195 #[.val (.int p1), .val (.long q2), .second, .val (.int p3), .val (.int p4), .val (.int (p4 &&& (3 : Int32))), .val (.double (own_sc p4)), .second, .val (.int (p1 &&& (3 : Int32))), .val (.long (own_H q2)), .second, .val (.double FP.dconst0), .second, .unset, .unset, .unset, .unset, .unset, .unset, .unset, .unset, .unset, .unset, .unset, .unset, .unset, .unset, .unset] [(.long q2)])) _
    refine X5.ldc2Long hx hown (mvT hZ (hw _ (List.mem_of_getElem? (i := 16) rfl))) (g := (mkF m 195 #[.val (.int p1), .val (.long q2), .second, .val (.int p3), .val (.int p4), .val (.int (p4 &&& (3 : Int32))), .val (.double (own_sc p4)), .second, .val (.int (p1 &&& (3 : Int32))), .val (.long (own_H q2)), .second, .val (.double FP.dconst0), .second, .unset, .unset, .unset, .unset, .unset, .unset, .unset, .unset, .unset, .unset, .unset, .unset, .unset, .unset, .unset] [(.long q2)])) rfl (hb hby at_195) _ ?_
    show Steps p.tables e below (T5.setTop (mkF m 198 #[.val (.int p1), .val (.long q2), .second, .val (.int p3), .val (.int p4), .val (.int (p4 &&& (3 : Int32))), .val (.double (own_sc p4)), .second, .val (.int (p1 &&& (3 : Int32))), .val (.long (own_H q2)), .second, .val (.double FP.dconst0), .second, .unset, .unset, .unset, .unset, .unset, .unset, .unset, .unset, .unset, .unset, .unset, .unset, .unset, .unset, .unset] [(.long (9007199254740992 : Int64)), (.long q2)])) _
    refine XS.lrem X5.here hx rfl (hb hby at_198) rfl hnz198 ?_
    refine XS.lstore X5.here hx rfl (hb hby at_199) rfl (l' := #[.val (.int p1), .val (.long q2), .second, .val (.int p3), .val (.int p4), .val (.int (p4 &&& (3 : Int32))), .val (.double (own_sc p4)), .second, .val (.int (p1 &&& (3 : Int32))), .val (.long (own_H q2)), .second, .val (.double FP.dconst0), .second, .val (.long (own_k q2)), .second, .unset, .unset, .unset, .unset, .unset, .unset, .unset, .unset, .unset, .unset, .unset, .unset, .unset]) rfl ?_
    show Steps p.tables e below (T5.setTop (mkF m 201 #[.val (.int p1), .val (.long q2), .second, .val (.int p3), .val (.int p4), .val (.int (p4 &&& (3 : Int32))), .val (.double (own_sc p4)), .second, .val (.int (p1 &&& (3 : Int32))), .val (.long (own_H q2)), .second, .val (.double FP.dconst0), .second, .val (.long (own_k q2)), .second, .unset, .unset, .unset, .unset, .unset, .unset, .unset, .unset, .unset, .unset, .unset, .unset, .unset] [])) _
    refine XS.lload X5.here hx rfl (hb hby at_201) rfl ?_
    refine XS.l2dS X5.here hx rfl (hb hby at_203) rfl rfl ?_
    show Steps p.tables e below (T5.setTop (mkF m 204 #[.val (.int p1), .val (.long q2), .second, .val (.int p3), .val (.int p4), .val (.int (p4 &&& (3 : Int32))), .val (.double (own_sc p4)), .second, .val (.int (p1 &&& (3 : Int32))), .val (.long (own_H q2)), .second, .val (.double FP.dconst0), .second, .val (.long (own_k q2)), .second, .unset, .unset, .unset, .unset, .unset, .unset, .unset, .unset, .unset, .unset, .unset, .unset, .unset] [(.double (FP.l2d (own_k q2)))])) _
    refine XS.dload X5.here hx rfl (hb hby at_204) rfl ?_
    refine XS.dmulS X5.here hx rfl (hb hby at_206) rfl hnn206 rfl ?_
    show Steps p.tables e below (T5.setTop (mkF m 207 #[.val (.int p1), .val (.long q2), .second, .val (.int p3), .val (.int p4), .val (.int (p4 &&& (3 : Int32))), .val (.double (own_sc p4)), .second, .val (.int (p1 &&& (3 : Int32))), .val (.long (own_H q2)), .second, .val (.double FP.dconst0), .second, .val (.long (own_k q2)), .second, .unset, .unset, .unset, .unset, .unset, .unset, .unset, .unset, .unset, .unset, .unset, .unset, .unset] [(.double (FP.dmul (FP.l2d (own_k q2)) (own_sc p4)))])) _
    refine XS.dstore X5.here hx rfl (hb hby at_207) rfl (l' := #[.val (.int p1), .val (.long q2), .second, .val (.int p3), .val (.int p4), .val (.int (p4 &&& (3 : Int32))), .val (.double (own_sc p4)), .second, .val (.int (p1 &&& (3 : Int32))), .val (.long (own_H q2)), .second, .val (.double FP.dconst0), .second, .val (.long (own_k q2)), .second, .val (.double (FP.dmul (FP.l2d (own_k q2)) (own_sc p4))), .second, .unset, .unset, .unset, .unset, .unset, .unset, .unset, .unset, .unset, .unset, .unset]) rfl ?_
    refine XS.iload X5.here hx rfl (hb hby at_209) rfl ?_
    show Steps p.tables e below (T5.setTop (mkF m 211 #[.val (.int p1), .val (.long q2), .second, .val (.int p3), .val (.int p4), .val (.int (p4 &&& (3 : Int32))), .val (.double (own_sc p4)), .second, .val (.int (p1 &&& (3 : Int32))), .val (.long (own_H q2)), .second, .val (.double FP.dconst0), .second, .val (.long (own_k q2)), .second, .val (.double (FP.dmul (FP.l2d (own_k q2)) (own_sc p4))), .second, .unset, .unset, .unset, .unset, .unset, .unset, .unset, .unset, .unset, .unset, .unset] [(.int (p4 &&& (3 : Int32)))])) _
    refine XS.iconst X5.here hx rfl (hb hby at_211) ?_
    refine XS.icmpNo X5.here hx rfl (hb hby at_212) rfl (teq hc212).2 ?_
    show Steps p.tables e below (T5.setTop (mkF m 215 #[.val (.int p1), .val (.long q2), .second, .val (.int p3), .val (.int p4), .val (.int (p4 &&& (3 : Int32))), .val (.double (own_sc p4)), .second, .val (.int (p1 &&& (3 : Int32))), .val (.long (own_H q2)), .second, .val (.double FP.dconst0), .second, .val (.long (own_k q2)), .second, .val (.double (FP.dmul (FP.l2d (own_k q2)) (own_sc p4))), .second, .unset, .unset, .unset, .unset, .unset, .unset, .unset, .unset, .unset, .unset, .unset] [])) _
    refine XS.lload X5.here hx rfl (hb hby at_215) rfl ?_
    show Steps p.tables e below (T5.setTop (mkF m 217 #[.val (.int p1), .val (.long q2), .second, .val (.int p3), .val (.int p4), .val (.int (p4 &&& (3 : Int32))), .val (.double (own_sc p4)), .second, .val (.int (p1 &&& (3 : Int32))), .val (.long (own_H q2)), .second, .val (.double FP.dconst0), .second, .val (.long (own_k q2)), .second, .val (.double (FP.dmul (FP.l2d (own_k q2)) (own_sc p4))), .second, .unset, .unset, .unset, .unset, .unset, .unset, .unset, .unset, .unset, .unset, .unset] [(.long (own_k q2))])) _
    refine X5.ldc2Long hx hown (mvT hZ (hw _ (List.mem_of_getElem? (i := 4) rfl))) (g := (mkF m 217 #[.val (.int p1), .val (.long q2), .second, .val (.int p3), .val (.int p4), .val (.int (p4 &&& (3 : Int32))), .val (.double (own_sc p4)), .second, .val (.int (p1 &&& (3 : Int32))), .val (.long (own_H q2)), .second, .val (.double FP.dconst0), .second, .val (.long (own_k q2)), .second, .val (.double (FP.dmul (FP.l2d (own_k q2)) (own_sc p4))), .second, .unset, .unset, .unset, .unset, .unset, .unset, .unset, .unset, .unset, .unset, .unset] [(.long (own_k q2))])) rfl (hb hby at_217) _ ?_
    show Steps p.tables e below (T5.setTop (mkF m 220 #[.val (.int p1), .val (.long q2), .second, .val (.int p3), .val (.int p4), .val (.int (p4 &&& (3 : Int32))), .val (.double (own_sc p4)), .second, .val (.int (p1 &&& (3 : Int32))), .val (.long (own_H q2)), .second, .val (.double FP.dconst0), .second, .val (.long (own_k q2)), .second, .val (.double (FP.dmul (FP.l2d (own_k q2)) (own_sc p4))), .second, .unset, .unset, .unset, .unset, .unset, .unset, .unset, .unset, .unset, .unset, .unset] [(.long (4503599627370496 : Int64)), (.long (own_k q2))])) _
    refine XS.lcmp X5.here hx rfl (hb hby at_220) rfl ?_
    refine XS.ifYes X5.here hx rfl (pc0 := 221) (pc' := 228) rfl (hb hby at_221) rfl ((if0 _ _).trans (tlt hc221).1) (by decide) (by decide) ?_
    show Steps p.tables e below (T5.setTop (mkF m 228 #[.val (.int p1), .val (.long q2), .second, .val (.int p3), .val (.int p4), .val (.int (p4 &&& (3 : Int32))), .val (.double (own_sc p4)), .second, .val (.int (p1 &&& (3 : Int32))), .val (.long (own_H q2)), .second, .val (.double FP.dconst0), .second, .val (.long (own_k q2)), .second, .val (.double (FP.dmul (FP.l2d (own_k q2)) (own_sc p4))), .second, .unset, .unset, .unset, .unset, .unset, .unset, .unset, .unset, .unset, .unset, .unset] [])) _
    refine XS.iconst X5.here hx rfl (hb hby at_228) ?_
    refine XS.goto X5.here hx rfl (pc0 := 229) (pc' := 244) rfl (hb hby at_229) (by decide) (by decide) ?_
    show Steps p.tables e below (T5.setTop (mkF m 244 #[.val (.int p1), .val (.long q2), .second, .val (.int p3), .val (.int p4), .val (.int (p4 &&& (3 : Int32))), .val (.double (own_sc p4)), .second, .val (.int (p1 &&& (3 : Int32))), .val (.long (own_H q2)), .second, .val (.double FP.dconst0), .second, .val (.long (own_k q2)), .second, .val (.double (FP.dmul (FP.l2d (own_k q2)) (own_sc p4))), .second, .unset, .unset, .unset, .unset, .unset, .unset, .unset, .unset, .unset, .unset, .unset] [(.int (0 : Int32))])) _
    refine XS.istore X5.here hx rfl (hb hby at_244) rfl (l' := #[.val (.int p1), .val (.long q2), .second, .val (.int p3), .val (.int p4), .val (.int (p4 &&& (3 : Int32))), .val (.double (own_sc p4)), .second, .val (.int (p1 &&& (3 : Int32))), .val (.long (own_H q2)), .second, .val (.double FP.dconst0), .second, .val (.long (own_k q2)), .second, .val (.double (FP.dmul (FP.l2d (own_k q2)) (own_sc p4))), .second, .val (.int (0 : Int32)), .unset, .unset, .unset, .unset, .unset, .unset, .unset, .unset, .unset, .unset]) rfl ?_
    refine XS.dload X5.here hx rfl (hb hby at_246) rfl ?_
    show Steps p.tables e below (T5.setTop (mkF m 248 #[.val (.int p1), .val (.long q2), .second, .val (.int p3), .val (.int p4), .val (.int (p4 &&& (3 : Int32))), .val (.double (own_sc p4)), .second, .val (.int (p1 &&& (3 : Int32))), .val (.long (own_H q2)), .second, .val (.double FP.dconst0), .second, .val (.long (own_k q2)), .second, .val (.double (FP.dmul (FP.l2d (own_k q2)) (own_sc p4))), .second, .val (.int (0 : Int32)), .unset, .unset, .unset, .unset, .unset, .unset, .unset, .unset, .unset, .unset] [(.double (FP.dmul (FP.l2d (own_k q2)) (own_sc p4)))])) _
    refine XS.dload X5.here hx rfl (hb hby at_248) rfl ?_
    show Steps p.tables e below (T5.setTop (mkF m 250 #[.val (.int p1), .val (.long q2), .second, .val (.int p3), .val (.int p4), .val (.int (p4 &&& (3 : Int32))), .val (.double (own_sc p4)), .second, .val (.int (p1 &&& (3 : Int32))), .val (.long (own_H q2)), .second, .val (.double FP.dconst0), .second, .val (.long (own_k q2)), .second, .val (.double (FP.dmul (FP.l2d (own_k q2)) (own_sc p4))), .second, .val (.int (0 : Int32)), .unset, .unset, .unset, .unset, .unset, .unset, .unset, .unset, .unset, .unset] [(.double FP.dconst0), (.double (FP.dmul (FP.l2d (own_k q2)) (own_sc p4)))])) _
    refine st6 _ ?_
    show Steps p.tables e below (T6.setTop (mkF m 253 #[.val (.int p1), .val (.long q2), .second, .val (.int p3), .val (.int p4), .val (.int (p4 &&& (3 : Int32))), .val (.double (own_sc p4)), .second, .val (.int (p1 &&& (3 : Int32))), .val (.long (own_H q2)), .second, .val (.double FP.dconst0), .second, .val (.long (own_k q2)), .second, .val (.double (FP.dmul (FP.l2d (own_k q2)) (own_sc p4))), .second, .val (.int (0 : Int32)), .unset, .unset, .unset, .unset, .unset, .unset, .unset, .unset, .unset, .unset] [(.int (own_ich (FP.dmul (FP.l2d (own_k q2)) (own_sc p4)) FP.dconst0))])) _
    refine XS.iload X6.here hx rfl (hb hby at_253) rfl ?_
    refine XS.icmpNo X6.here hx rfl (hb hby at_255) rfl (teq (own_k1a own_z_pos hc212 hc221 : (own_ich (FP.dmul (FP.l2d (own_k q2)) (own_sc p4)) FP.dconst0) = (0 : Int32))).2 ?_
    show Steps p.tables e below (T6.setTop (mkF m 258 #[.val (.int p1), .val (.long q2), .second, .val (.int p3), .val (.int p4), .val (.int (p4 &&& (3 : Int32))), .val (.double (own_sc p4)), .second, .val (.int (p1 &&& (3 : Int32))), .val (.long (own_H q2)), .second, .val (.double FP.dconst0), .second, .val (.long (own_k q2)), .second, .val (.double (FP.dmul (FP.l2d (own_k q2)) (own_sc p4))), .second, .val (.int (0 : Int32)), .unset, .unset, .unset, .unset, .unset, .unset, .unset, .unset, .unset, .unset] [])) _
    refine XS.iconst X6.here hx rfl (hb hby at_258) ?_
    refine XS.goto X6.here hx rfl (pc0 := 259) (pc' := 263) rfl (hb hby at_259) (by decide) (by decide) ?_
    show Steps p.tables e below (T6.setTop (mkF m 263 #[.val (.int p1), .val (.long q2), .second, .val (.int p3), .val (.int p4), .val (.int (p4 &&& (3 : Int32))), .val (.double (own_sc p4)), .second, .val (.int (p1 &&& (3 : Int32))), .val (.long (own_H q2)), .second, .val (.double FP.dconst0), .second, .val (.long (own_k q2)), .second, .val (.double (FP.dmul (FP.l2d (own_k q2)) (own_sc p4))), .second, .val (.int (0 : Int32)), .unset, .unset, .unset, .unset, .unset, .unset, .unset, .unset, .unset, .unset] [(.int (1 : Int32))])) _
    exact retN X6 hx (t := .boolean) Bd.returns (by simp) (hb hby at_263) hr
  · show Q0 Z p1 q2 p3 p4 h0 n0 _ T6.heap _
    exact ⟨rfl, N6⟩
set_option maxRecDepth 65536 in
set_option maxHeartbeats 40000000 in
theorem rm0_bpb (l : Launch) (Z : State) (a0 : Array Value) (hw : ∀ d ∈ tables_1, d.before a0 Z = true) (ws : List Jvm.Cond) (p1 : Int32) (q2 : Int64) (p3 : Int32) (p4 : Int32) (h0 : Heap) (n0 : Nat) (Z0 : n0 ≤ h0.size) (hc31 : ¬ ((p1 &&& (3 : Int32)) = (0 : Int32))) (hc176 : (p1 &&& (3 : Int32)) = (1 : Int32)) (hc182 : (p1 &&& (4 : Int32)) = (0 : Int32)) (hc212 : (p4 &&& (3 : Int32)) = (1 : Int32)) (hc221 : ¬ ((lcmpW (own_k q2) (4503599627370496 : Int64)) < (0 : Int32))) :
    MetFree l x (head1 (Jvm.Cond.code x code maxLocals ret :: ws) room_1) (fun a U => a = #[(.int p1), (.long q2), (.int p3), (.int p4)] ∧ Z.Warmed39 U.vm ∧ U.heap = h0) (fun _ _ _ _ _ => True) (fun _ U o U' => ∃ v L, o = .returned v ∧ Q0 Z p1 q2 p3 p4 h0 n0 v U'.heap L ∧ FrameEnd U o U' L room_1.cells room_1.slots) := by
  have hnz198 : ¬ ((9007199254740992 : Int64) = (0 : Int64)) := by decide
  have hnn206 : Jvm.Free.Fl.NoNaN64 (FP.dmul (FP.l2d (own_k q2)) (own_sc p4)) := own_nn _ _
  refine MetFree.of_bodySF (plainFor_of_name pn_0) hisR ?_
  intro p e s m args below meth c s₁ Bd hml0 hP hK
  obtain ⟨rfl, hZ, hh⟩ := hP
  have hx := Bd.exec
  have hby := Bd.bytes
  have hml : c.maxLocals = 28 := hml0
  have hown : s.vm.findClass "com/example/level_ring/levelring/placement/MembersIsCertainlyHigherPinLaw" = some m.cls := findClass_of_methodNamed Bd.named
  have hnm := (name_of_methodNamed Bd.named Bd.method).1
  have X0 : Stand p l e room_1 s m #[(.int p1), (.long q2), (.int p3), (.int p4)] below meth c s₁ [] 0 0 := Stand.of_body Bd
  have e0 : s₁.heap = h0 := by rw [← hh, Bd.state]; rfl
  have N0 := Fr.nil n0
  have pre0 : ∀ t, Steps p.tables e below (s₁.setTop (mkF m 0 #[.val (.int p1), .val (.long q2), .second, .val (.int p3), .val (.int p4), .unset, .unset, .unset, .unset, .unset, .unset, .unset, .unset, .unset, .unset, .unset, .unset, .unset, .unset, .unset, .unset, .unset, .unset, .unset, .unset, .unset, .unset, .unset] [])) t → Steps p.tables e below (s₁.setTop (entryFrame m #[(.int p1), (.long q2), (.int p3), (.int p4)] maxLocals)) t := fun t k => castTop (ef_0 m p1 q2 p3 p4) k
  -- 3. LAWS
  -- pc 8: com/example/level_ring/levelring/placement/MembersIsCertainlyHigherPinLaw.scaleOf by its contract rm1
  obtain ⟨_, _, ⟨T5, L5, k5, n5⟩, -, X5, ⟨Lc5, hQ5, l5, y5, z5⟩, st5⟩ := Jvm.LawKit.callS X0 hx (y := (⟨"com/example/level_ring/levelring/placement/MembersIsCertainlyHigherPinLaw", "scaleOf", "(I)D"⟩ : MethodName)) hown (mvT hZ (hw _ (List.mem_of_getElem? (i := 0) rfl))) (mvT hZ (hw _ (List.mem_of_getElem? (i := 1) rfl))) (mvT hZ (hw _ (List.mem_of_getElem? (i := 2) rfl))) (mvT hZ (hw _ (List.mem_of_getElem? (i := 3) rfl))) (by decide) (backOf (W := 0) (rm1 l Z a0 hw [] (p4 &&& (3 : Int32))  h0 n0 Z0) hZ (hw _ (List.mem_of_getElem? (i := 3) rfl)) (hw _ (List.mem_of_getElem? (i := 2) rfl)) (by decide) (by decide)) (g := (mkF m 8 #[.val (.int p1), .val (.long q2), .second, .val (.int p3), .val (.int p4), .val (.int (p4 &&& (3 : Int32))), .unset, .unset, .unset, .unset, .unset, .unset, .unset, .unset, .unset, .unset, .unset, .unset, .unset, .unset, .unset, .unset, .unset, .unset, .unset, .unset, .unset, .unset] [(.int (p4 &&& (3 : Int32)))])) rfl (by rw [hml]; rfl) (argsL := [(.int (p4 &&& (3 : Int32)))]) (rest := []) (lenOf pdw_0 rfl) rfl (by show 2 * 0 + _ ≤ _; exact Nat.le_of_eq rfl) (hb hby at_8) (fun _ _ => ⟨rfl, e0, (by decide : 0 + 0 ≤ _), (by decide : 0 + 0 ≤ _)⟩)
  dsimp only [Pt.U, Pt.locs, Pt.cells, Pt.slots] at X5 l5 y5 z5 st5 hQ5
  subst l5 y5 z5
  obtain ⟨rfl, N5q, hh5⟩ := hQ5
  have N5 := Fr.app N0 N5q
  -- pc 250: com/example/level_ring/levelring/placement/Members.isCertainlyHigher by its contract rm2
  obtain ⟨_, _, ⟨T6, L6, k6, n6⟩, -, X6, ⟨Lc6, hQ6, l6, y6, z6⟩, st6⟩ := Jvm.LawKit.callS X5 hx (y := (⟨"com/example/level_ring/levelring/placement/Members", "isCertainlyHigher", "(DD)Z"⟩ : MethodName)) hown (mvT hZ (hw _ (List.mem_of_getElem? (i := 8) rfl))) (mvT hZ (hw _ (List.mem_of_getElem? (i := 9) rfl))) (mvT hZ (hw _ (List.mem_of_getElem? (i := 10) rfl))) (mvT hZ (hw _ (List.mem_of_getElem? (i := 11) rfl))) (by decide) (backOf (W := 0) (rm2 l Z a0 hw [] (FP.dmul (FP.l2d (own_k q2)) (own_sc p4)) FP.dconst0  h0 n0 Z0 (dmul_out (by unfold Fin64; decide +kernel) own_C_fin)) hZ (hw _ (List.mem_of_getElem? (i := 11) rfl)) (hw _ (List.mem_of_getElem? (i := 10) rfl)) (by decide) (by decide)) (g := (mkF m 250 #[.val (.int p1), .val (.long q2), .second, .val (.int p3), .val (.int p4), .val (.int (p4 &&& (3 : Int32))), .val (.double (own_sc p4)), .second, .val (.int (p1 &&& (3 : Int32))), .val (.long (own_H q2)), .second, .val (.double FP.dconst0), .second, .val (.long (own_k q2)), .second, .val (.double (FP.dmul (FP.l2d (own_k q2)) (own_sc p4))), .second, .val (.int (1 : Int32)), .unset, .unset, .unset, .unset, .unset, .unset, .unset, .unset, .unset, .unset] [(.double FP.dconst0), (.double (FP.dmul (FP.l2d (own_k q2)) (own_sc p4)))])) rfl (by rw [hml]; rfl) (argsL := [(.double (FP.dmul (FP.l2d (own_k q2)) (own_sc p4))), (.double FP.dconst0)]) (rest := []) (lenOf pdw_1 rfl) rfl (by show 2 * 0 + _ ≤ _; exact Nat.le_of_eq rfl) (hb hby at_250) (fun _ _ => ⟨rfl, hh5, (by decide : 0 + 0 ≤ _), (by decide : 0 + 0 ≤ _)⟩)
  dsimp only [Pt.U, Pt.locs, Pt.cells, Pt.slots] at X6 l6 y6 z6 st6 hQ6
  subst l6 y6 z6
  obtain ⟨rfl, N6q, hh6⟩ := hQ6
  have N6 := Fr.app N5 N6q
  obtain ⟨fs, hr, hrun, hended, hW, hsame⟩ := X6.leave (v := some (.int (1 : Int32))) (fun h => by rw [Bd.returns] at h; cases h)
  refine ⟨_, _, pre0 _ ?_, hrun, hended, _, _, rfl, ?_, ⟨_, rfl⟩, hW, hsame.mono (by decide) (by decide)⟩
  -- 4. STEPS
  · show Steps p.tables e below (s₁.setTop (mkF m 0 #[.val (.int p1), .val (.long q2), .second, .val (.int p3), .val (.int p4), .unset, .unset, .unset, .unset, .unset, .unset, .unset, .unset, .unset, .unset, .unset, .unset, .unset, .unset, .unset, .unset, .unset, .unset, .unset, .unset, .unset, .unset, .unset] [])) _
    refine XS.iload X0.here hx rfl (hb hby at_0) rfl ?_
    refine XS.iconst X0.here hx rfl (hb hby at_2) ?_
    show Steps p.tables e below (s₁.setTop (mkF m 3 #[.val (.int p1), .val (.long q2), .second, .val (.int p3), .val (.int p4), .unset, .unset, .unset, .unset, .unset, .unset, .unset, .unset, .unset, .unset, .unset, .unset, .unset, .unset, .unset, .unset, .unset, .unset, .unset, .unset, .unset, .unset, .unset] [(.int (3 : Int32)), (.int p4)])) _
    refine XS.iand X0.here hx rfl (hb hby at_3) rfl ?_
    refine XS.istore X0.here hx rfl (hb hby at_4) rfl (l' := #[.val (.int p1), .val (.long q2), .second, .val (.int p3), .val (.int p4), .val (.int (p4 &&& (3 : Int32))), .unset, .unset, .unset, .unset, .unset, .unset, .unset, .unset, .unset, .unset, .unset, .unset, .unset, .unset, .unset, .unset, .unset, .unset, .unset, .unset, .unset, .unset]) rfl ?_
    show Steps p.tables e below (s₁.setTop (mkF m 6 #[.val (.int p1), .val (.long q2), .second, .val (.int p3), .val (.int p4), .val (.int (p4 &&& (3 : Int32))), .unset, .unset, .unset, .unset, .unset, .unset, .unset, .unset, .unset, .unset, .unset, .unset, .unset, .unset, .unset, .unset, .unset, .unset, .unset, .unset, .unset, .unset] [])) _
    refine XS.iload X0.here hx rfl (hb hby at_6) rfl ?_
    show Steps p.tables e below (s₁.setTop (mkF m 8 #[.val (.int p1), .val (.long q2), .second, .val (.int p3), .val (.int p4), .val (.int (p4 &&& (3 : Int32))), .unset, .unset, .unset, .unset, .unset, .unset, .unset, .unset, .unset, .unset, .unset, .unset, .unset, .unset, .unset, .unset, .unset, .unset, .unset, .unset, .unset, .unset] [(.int (p4 &&& (3 : Int32)))])) _
    refine st5 _ ?_
    show Steps p.tables e below (T5.setTop (mkF m 11 #[.val (.int p1), .val (.long q2), .second, .val (.int p3), .val (.int p4), .val (.int (p4 &&& (3 : Int32))), .unset, .unset, .unset, .unset, .unset, .unset, .unset, .unset, .unset, .unset, .unset, .unset, .unset, .unset, .unset, .unset, .unset, .unset, .unset, .unset, .unset, .unset] [(.double (own_sc p4))])) _
    refine XS.dstore X5.here hx rfl (hb hby at_11) rfl (l' := #[.val (.int p1), .val (.long q2), .second, .val (.int p3), .val (.int p4), .val (.int (p4 &&& (3 : Int32))), .val (.double (own_sc p4)), .second, .unset, .unset, .unset, .unset, .unset, .unset, .unset, .unset, .unset, .unset, .unset, .unset, .unset, .unset, .unset, .unset, .unset, .unset, .unset, .unset]) rfl ?_
    refine XS.iloadN X5.here hx rfl (hb hby at_13) rfl ?_
    show Steps p.tables e below (T5.setTop (mkF m 14 #[.val (.int p1), .val (.long q2), .second, .val (.int p3), .val (.int p4), .val (.int (p4 &&& (3 : Int32))), .val (.double (own_sc p4)), .second, .unset, .unset, .unset, .unset, .unset, .unset, .unset, .unset, .unset, .unset, .unset, .unset, .unset, .unset, .unset, .unset, .unset, .unset, .unset, .unset] [(.int p1)])) _
    refine XS.iconst X5.here hx rfl (hb hby at_14) ?_
    refine XS.iand X5.here hx rfl (hb hby at_15) rfl ?_
    show Steps p.tables e below (T5.setTop (mkF m 16 #[.val (.int p1), .val (.long q2), .second, .val (.int p3), .val (.int p4), .val (.int (p4 &&& (3 : Int32))), .val (.double (own_sc p4)), .second, .unset, .unset, .unset, .unset, .unset, .unset, .unset, .unset, .unset, .unset, .unset, .unset, .unset, .unset, .unset, .unset, .unset, .unset, .unset, .unset] [(.int (p1 &&& (3 : Int32)))])) _
    refine XS.istore X5.here hx rfl (hb hby at_16) rfl (l' := #[.val (.int p1), .val (.long q2), .second, .val (.int p3), .val (.int p4), .val (.int (p4 &&& (3 : Int32))), .val (.double (own_sc p4)), .second, .val (.int (p1 &&& (3 : Int32))), .unset, .unset, .unset, .unset, .unset, .unset, .unset, .unset, .unset, .unset, .unset, .unset, .unset, .unset, .unset, .unset, .unset, .unset, .unset]) rfl ?_
    show Steps p.tables e below (T5.setTop (mkF m 18 #[.val (.int p1), .val (.long q2), .second, .val (.int p3), .val (.int p4), .val (.int (p4 &&& (3 : Int32))), .val (.double (own_sc p4)), .second, .val (.int (p1 &&& (3 : Int32))), .unset, .unset, .unset, .unset, .unset, .unset, .unset, .unset, .unset, .unset, .unset, .unset, .unset, .unset, .unset, .unset, .unset, .unset, .unset] [])) _
    refine X5.ldc2Long hx hown (mvT hZ (hw _ (List.mem_of_getElem? (i := 4) rfl))) (g := (mkF m 18 #[.val (.int p1), .val (.long q2), .second, .val (.int p3), .val (.int p4), .val (.int (p4 &&& (3 : Int32))), .val (.double (own_sc p4)), .second, .val (.int (p1 &&& (3 : Int32))), .unset, .unset, .unset, .unset, .unset, .unset, .unset, .unset, .unset, .unset, .unset, .unset, .unset, .unset, .unset, .unset, .unset, .unset, .unset] [])) rfl (hb hby at_18) _ ?_
    show Steps p.tables e below (T5.setTop (mkF m 21 #[.val (.int p1), .val (.long q2), .second, .val (.int p3), .val (.int p4), .val (.int (p4 &&& (3 : Int32))), .val (.double (own_sc p4)), .second, .val (.int (p1 &&& (3 : Int32))), .unset, .unset, .unset, .unset, .unset, .unset, .unset, .unset, .unset, .unset, .unset, .unset, .unset, .unset, .unset, .unset, .unset, .unset, .unset] [(.long (4503599627370496 : Int64))])) _
    refine XS.lloadN X5.here hx rfl (hb hby at_21) rfl ?_
    show Steps p.tables e below (T5.setTop (mkF m 22 #[.val (.int p1), .val (.long q2), .second, .val (.int p3), .val (.int p4), .val (.int (p4 &&& (3 : Int32))), .val (.double (own_sc p4)), .second, .val (.int (p1 &&& (3 : Int32))), .unset, .unset, .unset, .unset, .unset, .unset, .unset, .unset, .unset, .unset, .unset, .unset, .unset, .unset, .unset, .unset, .unset, .unset, .unset] [(.long q2), (.long (4503599627370496 : Int64))])) _
    refine X5.ldc2Long hx hown (mvT hZ (hw _ (List.mem_of_getElem? (i := 5) rfl))) (g := (mkF m 22 #[.val (.int p1), .val (.long q2), .second, .val (.int p3), .val (.int p4), .val (.int (p4 &&& (3 : Int32))), .val (.double (own_sc p4)), .second, .val (.int (p1 &&& (3 : Int32))), .unset, .unset, .unset, .unset, .unset, .unset, .unset, .unset, .unset, .unset, .unset, .unset, .unset, .unset, .unset, .unset, .unset, .unset, .unset] [(.long q2), (.long (4503599627370496 : Int64))])) rfl (hb hby at_22) _ ?_
    show Steps p.tables e below (T5.setTop (mkF m 25 #[.val (.int p1), .val (.long q2), .second, .val (.int p3), .val (.int p4), .val (.int (p4 &&& (3 : Int32))), .val (.double (own_sc p4)), .second, .val (.int (p1 &&& (3 : Int32))), .unset, .unset, .unset, .unset, .unset, .unset, .unset, .unset, .unset, .unset, .unset, .unset, .unset, .unset, .unset, .unset, .unset, .unset, .unset] [(.long (2251799813685247 : Int64)), (.long q2), (.long (4503599627370496 : Int64))])) _
    refine XS.land X5.here hx rfl (hb hby at_25) rfl ?_
    refine XS.lor X5.here hx rfl (hb hby at_26) rfl ?_
    show Steps p.tables e below (T5.setTop (mkF m 27 #[.val (.int p1), .val (.long q2), .second, .val (.int p3), .val (.int p4), .val (.int (p4 &&& (3 : Int32))), .val (.double (own_sc p4)), .second, .val (.int (p1 &&& (3 : Int32))), .unset, .unset, .unset, .unset, .unset, .unset, .unset, .unset, .unset, .unset, .unset, .unset, .unset, .unset, .unset, .unset, .unset, .unset, .unset] [(.long (own_H q2))])) _
    refine XS.lstore X5.here hx rfl (hb hby at_27) rfl (l' := #[.val (.int p1), .val (.long q2), .second, .val (.int p3), .val (.int p4), .val (.int (p4 &&& (3 : Int32))), .val (.double (own_sc p4)), .second, .val (.int (p1 &&& (3 : Int32))), .val (.long (own_H q2)), .second, .unset, .unset, .unset, .unset, .unset, .unset, .unset, .unset, .unset, .unset, .unset, .unset, .unset, .unset, .unset, .unset, .unset]) rfl ?_
    refine XS.iload X5.here hx rfl (hb hby at_29) rfl ?_
    show Steps p.tables e below (T5.setTop (mkF m 31 #[.val (.int p1), .val (.long q2), .second, .val (.int p3), .val (.int p4), .val (.int (p4 &&& (3 : Int32))), .val (.double (own_sc p4)), .second, .val (.int (p1 &&& (3 : Int32))), .val (.long (own_H q2)), .second, .unset, .unset, .unset, .unset, .unset, .unset, .unset, .unset, .unset, .unset, .unset, .unset, .unset, .unset, .unset, .unset, .unset] [(.int (p1 &&& (3 : Int32)))])) _
    refine XS.ifYes X5.here hx rfl (pc0 := 31) (pc' := 173) rfl (hb hby at_31) rfl ((if0 _ _).trans (feq hc31).2) (by decide) (by decide) ?_
    refine XS.iload X5.here hx rfl (hb hby at_173) rfl ?_
    show Steps p.tables e below (T5.setTop (mkF m 175 #[.val (.int p1), .val (.long q2), .second, .val (.int p3), .val (.int p4), .val (.int (p4 &&& (3 : Int32))), .val (.double (own_sc p4)), .second, .val (.int (p1 &&& (3 : Int32))), .val (.long (own_H q2)), .second, .unset, .unset, .unset, .unset, .unset, .unset, .unset, .unset, .unset, .unset, .unset, .unset, .unset, .unset, .unset, .unset, .unset] [(.int (p1 &&& (3 : Int32)))])) _
    refine XS.iconst X5.here hx rfl (hb hby at_175) ?_
    refine XS.icmpNo X5.here hx rfl (hb hby at_176) rfl (teq hc176).2 ?_
    show Steps p.tables e below (T5.setTop (mkF m 179 #[.val (.int p1), .val (.long q2), .second, .val (.int p3), .val (.int p4), .val (.int (p4 &&& (3 : Int32))), .val (.double (own_sc p4)), .second, .val (.int (p1 &&& (3 : Int32))), .val (.long (own_H q2)), .second, .unset, .unset, .unset, .unset, .unset, .unset, .unset, .unset, .unset, .unset, .unset, .unset, .unset, .unset, .unset, .unset, .unset] [])) _
    refine XS.iloadN X5.here hx rfl (hb hby at_179) rfl ?_
    refine XS.iconst X5.here hx rfl (hb hby at_180) ?_
    show Steps p.tables e below (T5.setTop (mkF m 181 #[.val (.int p1), .val (.long q2), .second, .val (.int p3), .val (.int p4), .val (.int (p4 &&& (3 : Int32))), .val (.double (own_sc p4)), .second, .val (.int (p1 &&& (3 : Int32))), .val (.long (own_H q2)), .second, .unset, .unset, .unset, .unset, .unset, .unset, .unset, .unset, .unset, .unset, .unset, .unset, .unset, .unset, .unset, .unset, .unset] [(.int (4 : Int32)), (.int p1)])) _
    refine XS.iand X5.here hx rfl (hb hby at_181) rfl ?_
    refine XS.ifYes X5.here hx rfl (pc0 := 182) (pc' := 191) rfl (hb hby at_182) rfl ((if0 _ _).trans (teq hc182).1) (by decide) (by decide) ?_
    show Steps p.tables e below (T5.setTop (mkF m 191 #[.val (.int p1), .val (.long q2), .second, .val (.int p3), .val (.int p4), .val (.int (p4 &&& (3 : Int32))), .val (.double (own_sc p4)), .second, .val (.int (p1 &&& (3 : Int32))), .val (.long (own_H q2)), .second, .unset, .unset, .unset, .unset, .unset, .unset, .unset, .unset, .unset, .unset, .unset, .unset, .unset, .unset, .unset, .unset, .unset] [])) _
    refine XS.dconst0 X5.here hx rfl (hb hby at_191) rfl ?_
    refine XS.dstore X5.here hx rfl (hb hby at_192) rfl (l' := #[.val (.int p1), .val (.long q2), .second, .val (.int p3), .val (.int p4), .val (.int (p4 &&& (3 : Int32))), .val (.double (own_sc p4)), .second, .val (.int (p1 &&& (3 : Int32))), .val (.long (own_H q2)), .second, .val (.double FP.dconst0), .second, .unset, .unset, .unset, .unset, .unset, .unset, .unset, .unset, .unset, .unset, .unset, .unset, .unset, .unset, .unset]) rfl ?_
    show Steps p.tables e below (T5.setTop (mkF m 194 #[.val (.int p1), .val (.long q2), .second, .val (.int p3), .val (.int p4), .val (.int (p4 &&& (3 : Int32))), .val (.double (own_sc p4)), .second, .val (.int (p1 &&& (3 : Int32))), .val (.long (own_H q2)), .second, .val (.double FP.dconst0), .second, .unset, .unset, .unset, .unset, .unset, .unset, .unset, .unset, .unset, .unset, .unset, .unset, .unset, .unset, .unset] [])) _
    refine XS.lloadN X5.here hx rfl (hb hby at_194) rfl ?_
    show Steps p.tables e below (T5.setTop (mkF m 195 #[.val (.int p1), .val (.long q2), .second, .val (.int p3), .val (.int p4), .val (.int (p4 &&& (3 : Int32))), .val (.double (own_sc p4)), .second, .val (.int (p1 &&& (3 : Int32))), .val (.long (own_H q2)), .second, .val (.double FP.dconst0), .second, .unset, .unset, .unset, .unset, .unset, .unset, .unset, .unset, .unset, .unset, .unset, .unset, .unset, .unset, .unset] [(.long q2)])) _
    refine X5.ldc2Long hx hown (mvT hZ (hw _ (List.mem_of_getElem? (i := 16) rfl))) (g := (mkF m 195 #[.val (.int p1), .val (.long q2), .second, .val (.int p3), .val (.int p4), .val (.int (p4 &&& (3 : Int32))), .val (.double (own_sc p4)), .second, .val (.int (p1 &&& (3 : Int32))), .val (.long (own_H q2)), .second, .val (.double FP.dconst0), .second, .unset, .unset, .unset, .unset, .unset, .unset, .unset, .unset, .unset, .unset, .unset, .unset, .unset, .unset, .unset] [(.long q2)])) rfl (hb hby at_195) _ ?_
    show Steps p.tables e below (T5.setTop (mkF m 198 #[.val (.int p1), .val (.long q2), .second, .val (.int p3), .val (.int p4), .val (.int (p4 &&& (3 : Int32))), .val (.double (own_sc p4)), .second, .val (.int (p1 &&& (3 : Int32))), .val (.long (own_H q2)), .second, .val (.double FP.dconst0), .second, .unset, .unset, .unset, .unset, .unset, .unset, .unset, .unset, .unset, .unset, .unset, .unset, .unset, .unset, .unset] [(.long (9007199254740992 : Int64)), (.long q2)])) _
    refine XS.lrem X5.here hx rfl (hb hby at_198) rfl hnz198 ?_
    refine XS.lstore X5.here hx rfl (hb hby at_199) rfl (l' := #[.val (.int p1), .val (.long q2), .second, .val (.int p3), .val (.int p4), .val (.int (p4 &&& (3 : Int32))), .val (.double (own_sc p4)), .second, .val (.int (p1 &&& (3 : Int32))), .val (.long (own_H q2)), .second, .val (.double FP.dconst0), .second, .val (.long (own_k q2)), .second, .unset, .unset, .unset, .unset, .unset, .unset, .unset, .unset, .unset, .unset, .unset, .unset, .unset]) rfl ?_
    show Steps p.tables e below (T5.setTop (mkF m 201 #[.val (.int p1), .val (.long q2), .second, .val (.int p3), .val (.int p4), .val (.int (p4 &&& (3 : Int32))), .val (.double (own_sc p4)), .second, .val (.int (p1 &&& (3 : Int32))), .val (.long (own_H q2)), .second, .val (.double FP.dconst0), .second, .val (.long (own_k q2)), .second, .unset, .unset, .unset, .unset, .unset, .unset, .unset, .unset, .unset, .unset, .unset, .unset, .unset] [])) _
    refine XS.lload X5.here hx rfl (hb hby at_201) rfl ?_
    refine XS.l2dS X5.here hx rfl (hb hby at_203) rfl rfl ?_
    show Steps p.tables e below (T5.setTop (mkF m 204 #[.val (.int p1), .val (.long q2), .second, .val (.int p3), .val (.int p4), .val (.int (p4 &&& (3 : Int32))), .val (.double (own_sc p4)), .second, .val (.int (p1 &&& (3 : Int32))), .val (.long (own_H q2)), .second, .val (.double FP.dconst0), .second, .val (.long (own_k q2)), .second, .unset, .unset, .unset, .unset, .unset, .unset, .unset, .unset, .unset, .unset, .unset, .unset, .unset] [(.double (FP.l2d (own_k q2)))])) _
    refine XS.dload X5.here hx rfl (hb hby at_204) rfl ?_
    refine XS.dmulS X5.here hx rfl (hb hby at_206) rfl hnn206 rfl ?_
    show Steps p.tables e below (T5.setTop (mkF m 207 #[.val (.int p1), .val (.long q2), .second, .val (.int p3), .val (.int p4), .val (.int (p4 &&& (3 : Int32))), .val (.double (own_sc p4)), .second, .val (.int (p1 &&& (3 : Int32))), .val (.long (own_H q2)), .second, .val (.double FP.dconst0), .second, .val (.long (own_k q2)), .second, .unset, .unset, .unset, .unset, .unset, .unset, .unset, .unset, .unset, .unset, .unset, .unset, .unset] [(.double (FP.dmul (FP.l2d (own_k q2)) (own_sc p4)))])) _
    refine XS.dstore X5.here hx rfl (hb hby at_207) rfl (l' := #[.val (.int p1), .val (.long q2), .second, .val (.int p3), .val (.int p4), .val (.int (p4 &&& (3 : Int32))), .val (.double (own_sc p4)), .second, .val (.int (p1 &&& (3 : Int32))), .val (.long (own_H q2)), .second, .val (.double FP.dconst0), .second, .val (.long (own_k q2)), .second, .val (.double (FP.dmul (FP.l2d (own_k q2)) (own_sc p4))), .second, .unset, .unset, .unset, .unset, .unset, .unset, .unset, .unset, .unset, .unset, .unset]) rfl ?_
    refine XS.iload X5.here hx rfl (hb hby at_209) rfl ?_
    show Steps p.tables e below (T5.setTop (mkF m 211 #[.val (.int p1), .val (.long q2), .second, .val (.int p3), .val (.int p4), .val (.int (p4 &&& (3 : Int32))), .val (.double (own_sc p4)), .second, .val (.int (p1 &&& (3 : Int32))), .val (.long (own_H q2)), .second, .val (.double FP.dconst0), .second, .val (.long (own_k q2)), .second, .val (.double (FP.dmul (FP.l2d (own_k q2)) (own_sc p4))), .second, .unset, .unset, .unset, .unset, .unset, .unset, .unset, .unset, .unset, .unset, .unset] [(.int (p4 &&& (3 : Int32)))])) _
    refine XS.iconst X5.here hx rfl (hb hby at_211) ?_
    refine XS.icmpNo X5.here hx rfl (hb hby at_212) rfl (teq hc212).2 ?_
    show Steps p.tables e below (T5.setTop (mkF m 215 #[.val (.int p1), .val (.long q2), .second, .val (.int p3), .val (.int p4), .val (.int (p4 &&& (3 : Int32))), .val (.double (own_sc p4)), .second, .val (.int (p1 &&& (3 : Int32))), .val (.long (own_H q2)), .second, .val (.double FP.dconst0), .second, .val (.long (own_k q2)), .second, .val (.double (FP.dmul (FP.l2d (own_k q2)) (own_sc p4))), .second, .unset, .unset, .unset, .unset, .unset, .unset, .unset, .unset, .unset, .unset, .unset] [])) _
    refine XS.lload X5.here hx rfl (hb hby at_215) rfl ?_
    show Steps p.tables e below (T5.setTop (mkF m 217 #[.val (.int p1), .val (.long q2), .second, .val (.int p3), .val (.int p4), .val (.int (p4 &&& (3 : Int32))), .val (.double (own_sc p4)), .second, .val (.int (p1 &&& (3 : Int32))), .val (.long (own_H q2)), .second, .val (.double FP.dconst0), .second, .val (.long (own_k q2)), .second, .val (.double (FP.dmul (FP.l2d (own_k q2)) (own_sc p4))), .second, .unset, .unset, .unset, .unset, .unset, .unset, .unset, .unset, .unset, .unset, .unset] [(.long (own_k q2))])) _
    refine X5.ldc2Long hx hown (mvT hZ (hw _ (List.mem_of_getElem? (i := 4) rfl))) (g := (mkF m 217 #[.val (.int p1), .val (.long q2), .second, .val (.int p3), .val (.int p4), .val (.int (p4 &&& (3 : Int32))), .val (.double (own_sc p4)), .second, .val (.int (p1 &&& (3 : Int32))), .val (.long (own_H q2)), .second, .val (.double FP.dconst0), .second, .val (.long (own_k q2)), .second, .val (.double (FP.dmul (FP.l2d (own_k q2)) (own_sc p4))), .second, .unset, .unset, .unset, .unset, .unset, .unset, .unset, .unset, .unset, .unset, .unset] [(.long (own_k q2))])) rfl (hb hby at_217) _ ?_
    show Steps p.tables e below (T5.setTop (mkF m 220 #[.val (.int p1), .val (.long q2), .second, .val (.int p3), .val (.int p4), .val (.int (p4 &&& (3 : Int32))), .val (.double (own_sc p4)), .second, .val (.int (p1 &&& (3 : Int32))), .val (.long (own_H q2)), .second, .val (.double FP.dconst0), .second, .val (.long (own_k q2)), .second, .val (.double (FP.dmul (FP.l2d (own_k q2)) (own_sc p4))), .second, .unset, .unset, .unset, .unset, .unset, .unset, .unset, .unset, .unset, .unset, .unset] [(.long (4503599627370496 : Int64)), (.long (own_k q2))])) _
    refine XS.lcmp X5.here hx rfl (hb hby at_220) rfl ?_
    refine XS.ifNo X5.here hx rfl (hb hby at_221) rfl ((if0 _ _).trans (flt hc221).1) ?_
    show Steps p.tables e below (T5.setTop (mkF m 224 #[.val (.int p1), .val (.long q2), .second, .val (.int p3), .val (.int p4), .val (.int (p4 &&& (3 : Int32))), .val (.double (own_sc p4)), .second, .val (.int (p1 &&& (3 : Int32))), .val (.long (own_H q2)), .second, .val (.double FP.dconst0), .second, .val (.long (own_k q2)), .second, .val (.double (FP.dmul (FP.l2d (own_k q2)) (own_sc p4))), .second, .unset, .unset, .unset, .unset, .unset, .unset, .unset, .unset, .unset, .unset, .unset] [])) _
    refine XS.iconst X5.here hx rfl (hb hby at_224) ?_
    refine XS.goto X5.here hx rfl (pc0 := 225) (pc' := 244) rfl (hb hby at_225) (by decide) (by decide) ?_
    show Steps p.tables e below (T5.setTop (mkF m 244 #[.val (.int p1), .val (.long q2), .second, .val (.int p3), .val (.int p4), .val (.int (p4 &&& (3 : Int32))), .val (.double (own_sc p4)), .second, .val (.int (p1 &&& (3 : Int32))), .val (.long (own_H q2)), .second, .val (.double FP.dconst0), .second, .val (.long (own_k q2)), .second, .val (.double (FP.dmul (FP.l2d (own_k q2)) (own_sc p4))), .second, .unset, .unset, .unset, .unset, .unset, .unset, .unset, .unset, .unset, .unset, .unset] [(.int (1 : Int32))])) _
    refine XS.istore X5.here hx rfl (hb hby at_244) rfl (l' := #[.val (.int p1), .val (.long q2), .second, .val (.int p3), .val (.int p4), .val (.int (p4 &&& (3 : Int32))), .val (.double (own_sc p4)), .second, .val (.int (p1 &&& (3 : Int32))), .val (.long (own_H q2)), .second, .val (.double FP.dconst0), .second, .val (.long (own_k q2)), .second, .val (.double (FP.dmul (FP.l2d (own_k q2)) (own_sc p4))), .second, .val (.int (1 : Int32)), .unset, .unset, .unset, .unset, .unset, .unset, .unset, .unset, .unset, .unset]) rfl ?_
    refine XS.dload X5.here hx rfl (hb hby at_246) rfl ?_
    show Steps p.tables e below (T5.setTop (mkF m 248 #[.val (.int p1), .val (.long q2), .second, .val (.int p3), .val (.int p4), .val (.int (p4 &&& (3 : Int32))), .val (.double (own_sc p4)), .second, .val (.int (p1 &&& (3 : Int32))), .val (.long (own_H q2)), .second, .val (.double FP.dconst0), .second, .val (.long (own_k q2)), .second, .val (.double (FP.dmul (FP.l2d (own_k q2)) (own_sc p4))), .second, .val (.int (1 : Int32)), .unset, .unset, .unset, .unset, .unset, .unset, .unset, .unset, .unset, .unset] [(.double (FP.dmul (FP.l2d (own_k q2)) (own_sc p4)))])) _
    refine XS.dload X5.here hx rfl (hb hby at_248) rfl ?_
    show Steps p.tables e below (T5.setTop (mkF m 250 #[.val (.int p1), .val (.long q2), .second, .val (.int p3), .val (.int p4), .val (.int (p4 &&& (3 : Int32))), .val (.double (own_sc p4)), .second, .val (.int (p1 &&& (3 : Int32))), .val (.long (own_H q2)), .second, .val (.double FP.dconst0), .second, .val (.long (own_k q2)), .second, .val (.double (FP.dmul (FP.l2d (own_k q2)) (own_sc p4))), .second, .val (.int (1 : Int32)), .unset, .unset, .unset, .unset, .unset, .unset, .unset, .unset, .unset, .unset] [(.double FP.dconst0), (.double (FP.dmul (FP.l2d (own_k q2)) (own_sc p4)))])) _
    refine st6 _ ?_
    show Steps p.tables e below (T6.setTop (mkF m 253 #[.val (.int p1), .val (.long q2), .second, .val (.int p3), .val (.int p4), .val (.int (p4 &&& (3 : Int32))), .val (.double (own_sc p4)), .second, .val (.int (p1 &&& (3 : Int32))), .val (.long (own_H q2)), .second, .val (.double FP.dconst0), .second, .val (.long (own_k q2)), .second, .val (.double (FP.dmul (FP.l2d (own_k q2)) (own_sc p4))), .second, .val (.int (1 : Int32)), .unset, .unset, .unset, .unset, .unset, .unset, .unset, .unset, .unset, .unset] [(.int (own_ich (FP.dmul (FP.l2d (own_k q2)) (own_sc p4)) FP.dconst0))])) _
    refine XS.iload X6.here hx rfl (hb hby at_253) rfl ?_
    refine XS.icmpNo X6.here hx rfl (hb hby at_255) rfl (teq (own_k1b own_z_pos hc212 hc221 : (own_ich (FP.dmul (FP.l2d (own_k q2)) (own_sc p4)) FP.dconst0) = (1 : Int32))).2 ?_
    show Steps p.tables e below (T6.setTop (mkF m 258 #[.val (.int p1), .val (.long q2), .second, .val (.int p3), .val (.int p4), .val (.int (p4 &&& (3 : Int32))), .val (.double (own_sc p4)), .second, .val (.int (p1 &&& (3 : Int32))), .val (.long (own_H q2)), .second, .val (.double FP.dconst0), .second, .val (.long (own_k q2)), .second, .val (.double (FP.dmul (FP.l2d (own_k q2)) (own_sc p4))), .second, .val (.int (1 : Int32)), .unset, .unset, .unset, .unset, .unset, .unset, .unset, .unset, .unset, .unset] [])) _
    refine XS.iconst X6.here hx rfl (hb hby at_258) ?_
    refine XS.goto X6.here hx rfl (pc0 := 259) (pc' := 263) rfl (hb hby at_259) (by decide) (by decide) ?_
    show Steps p.tables e below (T6.setTop (mkF m 263 #[.val (.int p1), .val (.long q2), .second, .val (.int p3), .val (.int p4), .val (.int (p4 &&& (3 : Int32))), .val (.double (own_sc p4)), .second, .val (.int (p1 &&& (3 : Int32))), .val (.long (own_H q2)), .second, .val (.double FP.dconst0), .second, .val (.long (own_k q2)), .second, .val (.double (FP.dmul (FP.l2d (own_k q2)) (own_sc p4))), .second, .val (.int (1 : Int32)), .unset, .unset, .unset, .unset, .unset, .unset, .unset, .unset, .unset, .unset] [(.int (1 : Int32))])) _
    exact retN X6 hx (t := .boolean) Bd.returns (by simp) (hb hby at_263) hr
  · show Q0 Z p1 q2 p3 p4 h0 n0 _ T6.heap _
    exact ⟨rfl, N6⟩
set_option maxRecDepth 65536 in
set_option maxHeartbeats 40000000 in
theorem rm0_bpc (l : Launch) (Z : State) (a0 : Array Value) (hw : ∀ d ∈ tables_1, d.before a0 Z = true) (ws : List Jvm.Cond) (p1 : Int32) (q2 : Int64) (p3 : Int32) (p4 : Int32) (h0 : Heap) (n0 : Nat) (Z0 : n0 ≤ h0.size) (hc31 : ¬ ((p1 &&& (3 : Int32)) = (0 : Int32))) (hc176 : (p1 &&& (3 : Int32)) = (1 : Int32)) (hc182 : (p1 &&& (4 : Int32)) = (0 : Int32)) (hc212 : ¬ ((p4 &&& (3 : Int32)) = (1 : Int32))) (hc236 : (lcmpW (own_k q2) (1 : Int64)) < (0 : Int32)) :
    MetFree l x (head1 (Jvm.Cond.code x code maxLocals ret :: ws) room_1) (fun a U => a = #[(.int p1), (.long q2), (.int p3), (.int p4)] ∧ Z.Warmed39 U.vm ∧ U.heap = h0) (fun _ _ _ _ _ => True) (fun _ U o U' => ∃ v L, o = .returned v ∧ Q0 Z p1 q2 p3 p4 h0 n0 v U'.heap L ∧ FrameEnd U o U' L room_1.cells room_1.slots) := by
  have hnz198 : ¬ ((9007199254740992 : Int64) = (0 : Int64)) := by decide
  have hnn206 : Jvm.Free.Fl.NoNaN64 (FP.dmul (FP.l2d (own_k q2)) (own_sc p4)) := own_nn _ _
  refine MetFree.of_bodySF (plainFor_of_name pn_0) hisR ?_
  intro p e s m args below meth c s₁ Bd hml0 hP hK
  obtain ⟨rfl, hZ, hh⟩ := hP
  have hx := Bd.exec
  have hby := Bd.bytes
  have hml : c.maxLocals = 28 := hml0
  have hown : s.vm.findClass "com/example/level_ring/levelring/placement/MembersIsCertainlyHigherPinLaw" = some m.cls := findClass_of_methodNamed Bd.named
  have hnm := (name_of_methodNamed Bd.named Bd.method).1
  have X0 : Stand p l e room_1 s m #[(.int p1), (.long q2), (.int p3), (.int p4)] below meth c s₁ [] 0 0 := Stand.of_body Bd
  have e0 : s₁.heap = h0 := by rw [← hh, Bd.state]; rfl
  have N0 := Fr.nil n0
  have pre0 : ∀ t, Steps p.tables e below (s₁.setTop (mkF m 0 #[.val (.int p1), .val (.long q2), .second, .val (.int p3), .val (.int p4), .unset, .unset, .unset, .unset, .unset, .unset, .unset, .unset, .unset, .unset, .unset, .unset, .unset, .unset, .unset, .unset, .unset, .unset, .unset, .unset, .unset, .unset, .unset] [])) t → Steps p.tables e below (s₁.setTop (entryFrame m #[(.int p1), (.long q2), (.int p3), (.int p4)] maxLocals)) t := fun t k => castTop (ef_0 m p1 q2 p3 p4) k
  -- 3. LAWS
  -- pc 8: com/example/level_ring/levelring/placement/MembersIsCertainlyHigherPinLaw.scaleOf by its contract rm1
  obtain ⟨_, _, ⟨T5, L5, k5, n5⟩, -, X5, ⟨Lc5, hQ5, l5, y5, z5⟩, st5⟩ := Jvm.LawKit.callS X0 hx (y := (⟨"com/example/level_ring/levelring/placement/MembersIsCertainlyHigherPinLaw", "scaleOf", "(I)D"⟩ : MethodName)) hown (mvT hZ (hw _ (List.mem_of_getElem? (i := 0) rfl))) (mvT hZ (hw _ (List.mem_of_getElem? (i := 1) rfl))) (mvT hZ (hw _ (List.mem_of_getElem? (i := 2) rfl))) (mvT hZ (hw _ (List.mem_of_getElem? (i := 3) rfl))) (by decide) (backOf (W := 0) (rm1 l Z a0 hw [] (p4 &&& (3 : Int32))  h0 n0 Z0) hZ (hw _ (List.mem_of_getElem? (i := 3) rfl)) (hw _ (List.mem_of_getElem? (i := 2) rfl)) (by decide) (by decide)) (g := (mkF m 8 #[.val (.int p1), .val (.long q2), .second, .val (.int p3), .val (.int p4), .val (.int (p4 &&& (3 : Int32))), .unset, .unset, .unset, .unset, .unset, .unset, .unset, .unset, .unset, .unset, .unset, .unset, .unset, .unset, .unset, .unset, .unset, .unset, .unset, .unset, .unset, .unset] [(.int (p4 &&& (3 : Int32)))])) rfl (by rw [hml]; rfl) (argsL := [(.int (p4 &&& (3 : Int32)))]) (rest := []) (lenOf pdw_0 rfl) rfl (by show 2 * 0 + _ ≤ _; exact Nat.le_of_eq rfl) (hb hby at_8) (fun _ _ => ⟨rfl, e0, (by decide : 0 + 0 ≤ _), (by decide : 0 + 0 ≤ _)⟩)
  dsimp only [Pt.U, Pt.locs, Pt.cells, Pt.slots] at X5 l5 y5 z5 st5 hQ5
  subst l5 y5 z5
  obtain ⟨rfl, N5q, hh5⟩ := hQ5
  have N5 := Fr.app N0 N5q
  -- pc 250: com/example/level_ring/levelring/placement/Members.isCertainlyHigher by its contract rm2
  obtain ⟨_, _, ⟨T6, L6, k6, n6⟩, -, X6, ⟨Lc6, hQ6, l6, y6, z6⟩, st6⟩ := Jvm.LawKit.callS X5 hx (y := (⟨"com/example/level_ring/levelring/placement/Members", "isCertainlyHigher", "(DD)Z"⟩ : MethodName)) hown (mvT hZ (hw _ (List.mem_of_getElem? (i := 8) rfl))) (mvT hZ (hw _ (List.mem_of_getElem? (i := 9) rfl))) (mvT hZ (hw _ (List.mem_of_getElem? (i := 10) rfl))) (mvT hZ (hw _ (List.mem_of_getElem? (i := 11) rfl))) (by decide) (backOf (W := 0) (rm2 l Z a0 hw [] (FP.dmul (FP.l2d (own_k q2)) (own_sc p4)) FP.dconst0  h0 n0 Z0 (dmul_out (by unfold Fin64; decide +kernel) own_C_fin)) hZ (hw _ (List.mem_of_getElem? (i := 11) rfl)) (hw _ (List.mem_of_getElem? (i := 10) rfl)) (by decide) (by decide)) (g := (mkF m 250 #[.val (.int p1), .val (.long q2), .second, .val (.int p3), .val (.int p4), .val (.int (p4 &&& (3 : Int32))), .val (.double (own_sc p4)), .second, .val (.int (p1 &&& (3 : Int32))), .val (.long (own_H q2)), .second, .val (.double FP.dconst0), .second, .val (.long (own_k q2)), .second, .val (.double (FP.dmul (FP.l2d (own_k q2)) (own_sc p4))), .second, .val (.int (0 : Int32)), .unset, .unset, .unset, .unset, .unset, .unset, .unset, .unset, .unset, .unset] [(.double FP.dconst0), (.double (FP.dmul (FP.l2d (own_k q2)) (own_sc p4)))])) rfl (by rw [hml]; rfl) (argsL := [(.double (FP.dmul (FP.l2d (own_k q2)) (own_sc p4))), (.double FP.dconst0)]) (rest := []) (lenOf pdw_1 rfl) rfl (by show 2 * 0 + _ ≤ _; exact Nat.le_of_eq rfl) (hb hby at_250) (fun _ _ => ⟨rfl, hh5, (by decide : 0 + 0 ≤ _), (by decide : 0 + 0 ≤ _)⟩)
  dsimp only [Pt.U, Pt.locs, Pt.cells, Pt.slots] at X6 l6 y6 z6 st6 hQ6
  subst l6 y6 z6
  obtain ⟨rfl, N6q, hh6⟩ := hQ6
  have N6 := Fr.app N5 N6q
  obtain ⟨fs, hr, hrun, hended, hW, hsame⟩ := X6.leave (v := some (.int (1 : Int32))) (fun h => by rw [Bd.returns] at h; cases h)
  refine ⟨_, _, pre0 _ ?_, hrun, hended, _, _, rfl, ?_, ⟨_, rfl⟩, hW, hsame.mono (by decide) (by decide)⟩
  -- 4. STEPS
  · show Steps p.tables e below (s₁.setTop (mkF m 0 #[.val (.int p1), .val (.long q2), .second, .val (.int p3), .val (.int p4), .unset, .unset, .unset, .unset, .unset, .unset, .unset, .unset, .unset, .unset, .unset, .unset, .unset, .unset, .unset, .unset, .unset, .unset, .unset, .unset, .unset, .unset, .unset] [])) _
    refine XS.iload X0.here hx rfl (hb hby at_0) rfl ?_
    refine XS.iconst X0.here hx rfl (hb hby at_2) ?_
    show Steps p.tables e below (s₁.setTop (mkF m 3 #[.val (.int p1), .val (.long q2), .second, .val (.int p3), .val (.int p4), .unset, .unset, .unset, .unset, .unset, .unset, .unset, .unset, .unset, .unset, .unset, .unset, .unset, .unset, .unset, .unset, .unset, .unset, .unset, .unset, .unset, .unset, .unset] [(.int (3 : Int32)), (.int p4)])) _
    refine XS.iand X0.here hx rfl (hb hby at_3) rfl ?_
    refine XS.istore X0.here hx rfl (hb hby at_4) rfl (l' := #[.val (.int p1), .val (.long q2), .second, .val (.int p3), .val (.int p4), .val (.int (p4 &&& (3 : Int32))), .unset, .unset, .unset, .unset, .unset, .unset, .unset, .unset, .unset, .unset, .unset, .unset, .unset, .unset, .unset, .unset, .unset, .unset, .unset, .unset, .unset, .unset]) rfl ?_
    show Steps p.tables e below (s₁.setTop (mkF m 6 #[.val (.int p1), .val (.long q2), .second, .val (.int p3), .val (.int p4), .val (.int (p4 &&& (3 : Int32))), .unset, .unset, .unset, .unset, .unset, .unset, .unset, .unset, .unset, .unset, .unset, .unset, .unset, .unset, .unset, .unset, .unset, .unset, .unset, .unset, .unset, .unset] [])) _
    refine XS.iload X0.here hx rfl (hb hby at_6) rfl ?_
    show Steps p.tables e below (s₁.setTop (mkF m 8 #[.val (.int p1), .val (.long q2), .second, .val (.int p3), .val (.int p4), .val (.int (p4 &&& (3 : Int32))), .unset, .unset, .unset, .unset, .unset, .unset, .unset, .unset, .unset, .unset, .unset, .unset, .unset, .unset, .unset, .unset, .unset, .unset, .unset, .unset, .unset, .unset] [(.int (p4 &&& (3 : Int32)))])) _
    refine st5 _ ?_
    show Steps p.tables e below (T5.setTop (mkF m 11 #[.val (.int p1), .val (.long q2), .second, .val (.int p3), .val (.int p4), .val (.int (p4 &&& (3 : Int32))), .unset, .unset, .unset, .unset, .unset, .unset, .unset, .unset, .unset, .unset, .unset, .unset, .unset, .unset, .unset, .unset, .unset, .unset, .unset, .unset, .unset, .unset] [(.double (own_sc p4))])) _
    refine XS.dstore X5.here hx rfl (hb hby at_11) rfl (l' := #[.val (.int p1), .val (.long q2), .second, .val (.int p3), .val (.int p4), .val (.int (p4 &&& (3 : Int32))), .val (.double (own_sc p4)), .second, .unset, .unset, .unset, .unset, .unset, .unset, .unset, .unset, .unset, .unset, .unset, .unset, .unset, .unset, .unset, .unset, .unset, .unset, .unset, .unset]) rfl ?_
    refine XS.iloadN X5.here hx rfl (hb hby at_13) rfl ?_
    show Steps p.tables e below (T5.setTop (mkF m 14 #[.val (.int p1), .val (.long q2), .second, .val (.int p3), .val (.int p4), .val (.int (p4 &&& (3 : Int32))), .val (.double (own_sc p4)), .second, .unset, .unset, .unset, .unset, .unset, .unset, .unset, .unset, .unset, .unset, .unset, .unset, .unset, .unset, .unset, .unset, .unset, .unset, .unset, .unset] [(.int p1)])) _
    refine XS.iconst X5.here hx rfl (hb hby at_14) ?_
    refine XS.iand X5.here hx rfl (hb hby at_15) rfl ?_
    show Steps p.tables e below (T5.setTop (mkF m 16 #[.val (.int p1), .val (.long q2), .second, .val (.int p3), .val (.int p4), .val (.int (p4 &&& (3 : Int32))), .val (.double (own_sc p4)), .second, .unset, .unset, .unset, .unset, .unset, .unset, .unset, .unset, .unset, .unset, .unset, .unset, .unset, .unset, .unset, .unset, .unset, .unset, .unset, .unset] [(.int (p1 &&& (3 : Int32)))])) _
    refine XS.istore X5.here hx rfl (hb hby at_16) rfl (l' := #[.val (.int p1), .val (.long q2), .second, .val (.int p3), .val (.int p4), .val (.int (p4 &&& (3 : Int32))), .val (.double (own_sc p4)), .second, .val (.int (p1 &&& (3 : Int32))), .unset, .unset, .unset, .unset, .unset, .unset, .unset, .unset, .unset, .unset, .unset, .unset, .unset, .unset, .unset, .unset, .unset, .unset, .unset]) rfl ?_
    show Steps p.tables e below (T5.setTop (mkF m 18 #[.val (.int p1), .val (.long q2), .second, .val (.int p3), .val (.int p4), .val (.int (p4 &&& (3 : Int32))), .val (.double (own_sc p4)), .second, .val (.int (p1 &&& (3 : Int32))), .unset, .unset, .unset, .unset, .unset, .unset, .unset, .unset, .unset, .unset, .unset, .unset, .unset, .unset, .unset, .unset, .unset, .unset, .unset] [])) _
    refine X5.ldc2Long hx hown (mvT hZ (hw _ (List.mem_of_getElem? (i := 4) rfl))) (g := (mkF m 18 #[.val (.int p1), .val (.long q2), .second, .val (.int p3), .val (.int p4), .val (.int (p4 &&& (3 : Int32))), .val (.double (own_sc p4)), .second, .val (.int (p1 &&& (3 : Int32))), .unset, .unset, .unset, .unset, .unset, .unset, .unset, .unset, .unset, .unset, .unset, .unset, .unset, .unset, .unset, .unset, .unset, .unset, .unset] [])) rfl (hb hby at_18) _ ?_
    show Steps p.tables e below (T5.setTop (mkF m 21 #[.val (.int p1), .val (.long q2), .second, .val (.int p3), .val (.int p4), .val (.int (p4 &&& (3 : Int32))), .val (.double (own_sc p4)), .second, .val (.int (p1 &&& (3 : Int32))), .unset, .unset, .unset, .unset, .unset, .unset, .unset, .unset, .unset, .unset, .unset, .unset, .unset, .unset, .unset, .unset, .unset, .unset, .unset] [(.long (4503599627370496 : Int64))])) _
    refine XS.lloadN X5.here hx rfl (hb hby at_21) rfl ?_
    show Steps p.tables e below (T5.setTop (mkF m 22 #[.val (.int p1), .val (.long q2), .second, .val (.int p3), .val (.int p4), .val (.int (p4 &&& (3 : Int32))), .val (.double (own_sc p4)), .second, .val (.int (p1 &&& (3 : Int32))), .unset, .unset, .unset, .unset, .unset, .unset, .unset, .unset, .unset, .unset, .unset, .unset, .unset, .unset, .unset, .unset, .unset, .unset, .unset] [(.long q2), (.long (4503599627370496 : Int64))])) _
    refine X5.ldc2Long hx hown (mvT hZ (hw _ (List.mem_of_getElem? (i := 5) rfl))) (g := (mkF m 22 #[.val (.int p1), .val (.long q2), .second, .val (.int p3), .val (.int p4), .val (.int (p4 &&& (3 : Int32))), .val (.double (own_sc p4)), .second, .val (.int (p1 &&& (3 : Int32))), .unset, .unset, .unset, .unset, .unset, .unset, .unset, .unset, .unset, .unset, .unset, .unset, .unset, .unset, .unset, .unset, .unset, .unset, .unset] [(.long q2), (.long (4503599627370496 : Int64))])) rfl (hb hby at_22) _ ?_
    show Steps p.tables e below (T5.setTop (mkF m 25 #[.val (.int p1), .val (.long q2), .second, .val (.int p3), .val (.int p4), .val (.int (p4 &&& (3 : Int32))), .val (.double (own_sc p4)), .second, .val (.int (p1 &&& (3 : Int32))), .unset, .unset, .unset, .unset, .unset, .unset, .unset, .unset, .unset, .unset, .unset, .unset, .unset, .unset, .unset, .unset, .unset, .unset, .unset] [(.long (2251799813685247 : Int64)), (.long q2), (.long (4503599627370496 : Int64))])) _
    refine XS.land X5.here hx rfl (hb hby at_25) rfl ?_
    refine XS.lor X5.here hx rfl (hb hby at_26) rfl ?_
    show Steps p.tables e below (T5.setTop (mkF m 27 #[.val (.int p1), .val (.long q2), .second, .val (.int p3), .val (.int p4), .val (.int (p4 &&& (3 : Int32))), .val (.double (own_sc p4)), .second, .val (.int (p1 &&& (3 : Int32))), .unset, .unset, .unset, .unset, .unset, .unset, .unset, .unset, .unset, .unset, .unset, .unset, .unset, .unset, .unset, .unset, .unset, .unset, .unset] [(.long (own_H q2))])) _
    refine XS.lstore X5.here hx rfl (hb hby at_27) rfl (l' := #[.val (.int p1), .val (.long q2), .second, .val (.int p3), .val (.int p4), .val (.int (p4 &&& (3 : Int32))), .val (.double (own_sc p4)), .second, .val (.int (p1 &&& (3 : Int32))), .val (.long (own_H q2)), .second, .unset, .unset, .unset, .unset, .unset, .unset, .unset, .unset, .unset, .unset, .unset, .unset, .unset, .unset, .unset, .unset, .unset]) rfl ?_
    refine XS.iload X5.here hx rfl (hb hby at_29) rfl ?_
    show Steps p.tables e below (T5.setTop (mkF m 31 #[.val (.int p1), .val (.long q2), .second, .val (.int p3), .val (.int p4), .val (.int (p4 &&& (3 : Int32))), .val (.double (own_sc p4)), .second, .val (.int (p1 &&& (3 : Int32))), .val (.long (own_H q2)), .second, .unset, .unset, .unset, .unset, .unset, .unset, .unset, .unset, .unset, .unset, .unset, .unset, .unset, .unset, .unset, .unset, .unset] [(.int (p1 &&& (3 : Int32)))])) _
    refine XS.ifYes X5.here hx rfl (pc0 := 31) (pc' := 173) rfl (hb hby at_31) rfl ((if0 _ _).trans (feq hc31).2) (by decide) (by decide) ?_
    refine XS.iload X5.here hx rfl (hb hby at_173) rfl ?_
    show Steps p.tables e below (T5.setTop (mkF m 175 #[.val (.int p1), .val (.long q2), .second, .val (.int p3), .val (.int p4), .val (.int (p4 &&& (3 : Int32))), .val (.double (own_sc p4)), .second, .val (.int (p1 &&& (3 : Int32))), .val (.long (own_H q2)), .second, .unset, .unset, .unset, .unset, .unset, .unset, .unset, .unset, .unset, .unset, .unset, .unset, .unset, .unset, .unset, .unset, .unset] [(.int (p1 &&& (3 : Int32)))])) _
    refine XS.iconst X5.here hx rfl (hb hby at_175) ?_
    refine XS.icmpNo X5.here hx rfl (hb hby at_176) rfl (teq hc176).2 ?_
    show Steps p.tables e below (T5.setTop (mkF m 179 #[.val (.int p1), .val (.long q2), .second, .val (.int p3), .val (.int p4), .val (.int (p4 &&& (3 : Int32))), .val (.double (own_sc p4)), .second, .val (.int (p1 &&& (3 : Int32))), .val (.long (own_H q2)), .second, .unset, .unset, .unset, .unset, .unset, .unset, .unset, .unset, .unset, .unset, .unset, .unset, .unset, .unset, .unset, .unset, .unset] [])) _
    refine XS.iloadN X5.here hx rfl (hb hby at_179) rfl ?_
    refine XS.iconst X5.here hx rfl (hb hby at_180) ?_
    show Steps p.tables e below (T5.setTop (mkF m 181 #[.val (.int p1), .val (.long q2), .second, .val (.int p3), .val (.int p4), .val (.int (p4 &&& (3 : Int32))), .val (.double (own_sc p4)), .second, .val (.int (p1 &&& (3 : Int32))), .val (.long (own_H q2)), .second, .unset, .unset, .unset, .unset, .unset, .unset, .unset, .unset, .unset, .unset, .unset, .unset, .unset, .unset, .unset, .unset, .unset] [(.int (4 : Int32)), (.int p1)])) _
    refine XS.iand X5.here hx rfl (hb hby at_181) rfl ?_
    refine XS.ifYes X5.here hx rfl (pc0 := 182) (pc' := 191) rfl (hb hby at_182) rfl ((if0 _ _).trans (teq hc182).1) (by decide) (by decide) ?_
    show Steps p.tables e below (T5.setTop (mkF m 191 #[.val (.int p1), .val (.long q2), .second, .val (.int p3), .val (.int p4), .val (.int (p4 &&& (3 : Int32))), .val (.double (own_sc p4)), .second, .val (.int (p1 &&& (3 : Int32))), .val (.long (own_H q2)), .second, .unset, .unset, .unset, .unset, .unset, .unset, .unset, .unset, .unset, .unset, .unset, .unset, .unset, .unset, .unset, .unset, .unset] [])) _
    refine XS.dconst0 X5.here hx rfl (hb hby at_191) rfl ?_
    refine XS.dstore X5.here hx rfl (hb hby at_192) rfl (l' := #[.val (.int p1), .val (.long q2), .second, .val (.int p3), .val (.int p4), .val (.int (p4 &&& (3 : Int32))), .val (.double (own_sc p4)), .second, .val (.int (p1 &&& (3 : Int32))), .val (.long (own_H q2)), .second, .val (.double FP.dconst0), .second, .unset, .unset, .unset, .unset, .unset, .unset, .unset, .unset, .unset, .unset, .unset, .unset, .unset, .unset, .unset]) rfl ?_
    show Steps p.tables e below (T5.setTop (mkF m 194 #[.val (.int p1), .val (.long q2), .second, .val (.int p3), .val (.int p4), .val (.int (p4 &&& (3 : Int32))), .val (.double (own_sc p4)), .second, .val (.int (p1 &&& (3 : Int32))), .val (.long (own_H q2)), .second, .val (.double FP.dconst0), .second, .unset, .unset, .unset, .unset, .unset, .unset, .unset, .unset, .unset, .unset, .unset, .unset, .unset, .unset, .unset] [])) _
    refine XS.lloadN X5.here hx rfl (hb hby at_194) rfl ?_
    show Steps p.tables e below (T5.setTop (mkF m 195 #[.val (.int p1), .val (.long q2), .second, .val (.int p3), .val (.int p4), .val (.int (p4 &&& (3 : Int32))), .val (.double (own_sc p4)), .second, .val (.int (p1 &&& (3 : Int32))), .val (.long (own_H q2)), .second, .val (.double FP.dconst0), .second, .unset, .unset, .unset, .unset, .unset, .unset, .unset, .unset, .unset, .unset, .unset, .unset, .unset, .unset, .unset] [(.long q2)])) _
    refine X5.ldc2Long hx hown (mvT hZ (hw _ (List.mem_of_getElem? (i := 16) rfl))) (g := (mkF m 195 #[.val (.int p1), .val (.long q2), .second, .val (.int p3), .val (.int p4), .val (.int (p4 &&& (3 : Int32))), .val (.double (own_sc p4)), .second, .val (.int (p1 &&& (3 : Int32))), .val (.long (own_H q2)), .second, .val (.double FP.dconst0), .second, .unset, .unset, .unset, .unset, .unset, .unset, .unset, .unset, .unset, .unset, .unset, .unset, .unset, .unset, .unset] [(.long q2)])) rfl (hb hby at_195) _ ?_
    show Steps p.tables e below (T5.setTop (mkF m 198 #[.val (.int p1), .val (.long q2), .second, .val (.int p3), .val (.int p4), .val (.int (p4 &&& (3 : Int32))), .val (.double (own_sc p4)), .second, .val (.int (p1 &&& (3 : Int32))), .val (.long (own_H q2)), .second, .val (.double FP.dconst0), .second, .unset, .unset, .unset, .unset, .unset, .unset, .unset, .unset, .unset, .unset, .unset, .unset, .unset, .unset, .unset] [(.long (9007199254740992 : Int64)), (.long q2)])) _
    refine XS.lrem X5.here hx rfl (hb hby at_198) rfl hnz198 ?_
    refine XS.lstore X5.here hx rfl (hb hby at_199) rfl (l' := #[.val (.int p1), .val (.long q2), .second, .val (.int p3), .val (.int p4), .val (.int (p4 &&& (3 : Int32))), .val (.double (own_sc p4)), .second, .val (.int (p1 &&& (3 : Int32))), .val (.long (own_H q2)), .second, .val (.double FP.dconst0), .second, .val (.long (own_k q2)), .second, .unset, .unset, .unset, .unset, .unset, .unset, .unset, .unset, .unset, .unset, .unset, .unset, .unset]) rfl ?_
    show Steps p.tables e below (T5.setTop (mkF m 201 #[.val (.int p1), .val (.long q2), .second, .val (.int p3), .val (.int p4), .val (.int (p4 &&& (3 : Int32))), .val (.double (own_sc p4)), .second, .val (.int (p1 &&& (3 : Int32))), .val (.long (own_H q2)), .second, .val (.double FP.dconst0), .second, .val (.long (own_k q2)), .second, .unset, .unset, .unset, .unset, .unset, .unset, .unset, .unset, .unset, .unset, .unset, .unset, .unset] [])) _
    refine XS.lload X5.here hx rfl (hb hby at_201) rfl ?_
    refine XS.l2dS X5.here hx rfl (hb hby at_203) rfl rfl ?_
    show Steps p.tables e below (T5.setTop (mkF m 204 #[.val (.int p1), .val (.long q2), .second, .val (.int p3), .val (.int p4), .val (.int (p4 &&& (3 : Int32))), .val (.double (own_sc p4)), .second, .val (.int (p1 &&& (3 : Int32))), .val (.long (own_H q2)), .second, .val (.double FP.dconst0), .second, .val (.long (own_k q2)), .second, .unset, .unset, .unset, .unset, .unset, .unset, .unset, .unset, .unset, .unset, .unset, .unset, .unset] [(.double (FP.l2d (own_k q2)))])) _
    refine XS.dload X5.here hx rfl (hb hby at_204) rfl ?_
    refine XS.dmulS X5.here hx rfl (hb hby at_206) rfl hnn206 rfl ?_
    show Steps p.tables e below (T5.setTop (mkF m 207 #[.val (.int p1), .val (.long q2), .second, .val (.int p3), .val (.int p4), .val (.int (p4 &&& (3 : Int32))), .val (.double (own_sc p4)), .second, .val (.int (p1 &&& (3 : Int32))), .val (.long (own_H q2)), .second, .val (.double FP.dconst0), .second, .val (.long (own_k q2)), .second, .unset, .unset, .unset, .unset, .unset, .unset, .unset, .unset, .unset, .unset, .unset, .unset, .unset] [(.double (FP.dmul (FP.l2d (own_k q2)) (own_sc p4)))])) _
    refine XS.dstore X5.here hx rfl (hb hby at_207) rfl (l' := #[.val (.int p1), .val (.long q2), .second, .val (.int p3), .val (.int p4), .val (.int (p4 &&& (3 : Int32))), .val (.double (own_sc p4)), .second, .val (.int (p1 &&& (3 : Int32))), .val (.long (own_H q2)), .second, .val (.double FP.dconst0), .second, .val (.long (own_k q2)), .second, .val (.double (FP.dmul (FP.l2d (own_k q2)) (own_sc p4))), .second, .unset, .unset, .unset, .unset, .unset, .unset, .unset, .unset, .unset, .unset, .unset]) rfl ?_
    refine XS.iload X5.here hx rfl (hb hby at_209) rfl ?_
    show Steps p.tables e below (T5.setTop (mkF m 211 #[.val (.int p1), .val (.long q2), .second, .val (.int p3), .val (.int p4), .val (.int (p4 &&& (3 : Int32))), .val (.double (own_sc p4)), .second, .val (.int (p1 &&& (3 : Int32))), .val (.long (own_H q2)), .second, .val (.double FP.dconst0), .second, .val (.long (own_k q2)), .second, .val (.double (FP.dmul (FP.l2d (own_k q2)) (own_sc p4))), .second, .unset, .unset, .unset, .unset, .unset, .unset, .unset, .unset, .unset, .unset, .unset] [(.int (p4 &&& (3 : Int32)))])) _
    refine XS.iconst X5.here hx rfl (hb hby at_211) ?_
    refine XS.icmpYes X5.here hx rfl (pc0 := 212) (pc' := 232) rfl (hb hby at_212) rfl (feq hc212).2 (by decide) (by decide) ?_
    show Steps p.tables e below (T5.setTop (mkF m 232 #[.val (.int p1), .val (.long q2), .second, .val (.int p3), .val (.int p4), .val (.int (p4 &&& (3 : Int32))), .val (.double (own_sc p4)), .second, .val (.int (p1 &&& (3 : Int32))), .val (.long (own_H q2)), .second, .val (.double FP.dconst0), .second, .val (.long (own_k q2)), .second, .val (.double (FP.dmul (FP.l2d (own_k q2)) (own_sc p4))), .second, .unset, .unset, .unset, .unset, .unset, .unset, .unset, .unset, .unset, .unset, .unset] [])) _
    refine XS.lload X5.here hx rfl (hb hby at_232) rfl ?_
    refine XS.lconst X5.here hx rfl (hb hby at_234) ?_
    show Steps p.tables e below (T5.setTop (mkF m 235 #[.val (.int p1), .val (.long q2), .second, .val (.int p3), .val (.int p4), .val (.int (p4 &&& (3 : Int32))), .val (.double (own_sc p4)), .second, .val (.int (p1 &&& (3 : Int32))), .val (.long (own_H q2)), .second, .val (.double FP.dconst0), .second, .val (.long (own_k q2)), .second, .val (.double (FP.dmul (FP.l2d (own_k q2)) (own_sc p4))), .second, .unset, .unset, .unset, .unset, .unset, .unset, .unset, .unset, .unset, .unset, .unset] [(.long (1 : Int64)), (.long (own_k q2))])) _
    refine XS.lcmp X5.here hx rfl (hb hby at_235) rfl ?_
    refine XS.ifYes X5.here hx rfl (pc0 := 236) (pc' := 243) rfl (hb hby at_236) rfl ((if0 _ _).trans (tlt hc236).1) (by decide) (by decide) ?_
    show Steps p.tables e below (T5.setTop (mkF m 243 #[.val (.int p1), .val (.long q2), .second, .val (.int p3), .val (.int p4), .val (.int (p4 &&& (3 : Int32))), .val (.double (own_sc p4)), .second, .val (.int (p1 &&& (3 : Int32))), .val (.long (own_H q2)), .second, .val (.double FP.dconst0), .second, .val (.long (own_k q2)), .second, .val (.double (FP.dmul (FP.l2d (own_k q2)) (own_sc p4))), .second, .unset, .unset, .unset, .unset, .unset, .unset, .unset, .unset, .unset, .unset, .unset] [])) _
    refine XS.iconst X5.here hx rfl (hb hby at_243) ?_
    refine XS.istore X5.here hx rfl (hb hby at_244) rfl (l' := #[.val (.int p1), .val (.long q2), .second, .val (.int p3), .val (.int p4), .val (.int (p4 &&& (3 : Int32))), .val (.double (own_sc p4)), .second, .val (.int (p1 &&& (3 : Int32))), .val (.long (own_H q2)), .second, .val (.double FP.dconst0), .second, .val (.long (own_k q2)), .second, .val (.double (FP.dmul (FP.l2d (own_k q2)) (own_sc p4))), .second, .val (.int (0 : Int32)), .unset, .unset, .unset, .unset, .unset, .unset, .unset, .unset, .unset, .unset]) rfl ?_
    show Steps p.tables e below (T5.setTop (mkF m 246 #[.val (.int p1), .val (.long q2), .second, .val (.int p3), .val (.int p4), .val (.int (p4 &&& (3 : Int32))), .val (.double (own_sc p4)), .second, .val (.int (p1 &&& (3 : Int32))), .val (.long (own_H q2)), .second, .val (.double FP.dconst0), .second, .val (.long (own_k q2)), .second, .val (.double (FP.dmul (FP.l2d (own_k q2)) (own_sc p4))), .second, .val (.int (0 : Int32)), .unset, .unset, .unset, .unset, .unset, .unset, .unset, .unset, .unset, .unset] [])) _
    refine XS.dload X5.here hx rfl (hb hby at_246) rfl ?_
    refine XS.dload X5.here hx rfl (hb hby at_248) rfl ?_
    show Steps p.tables e below (T5.setTop (mkF m 250 #[.val (.int p1), .val (.long q2), .second, .val (.int p3), .val (.int p4), .val (.int (p4 &&& (3 : Int32))), .val (.double (own_sc p4)), .second, .val (.int (p1 &&& (3 : Int32))), .val (.long (own_H q2)), .second, .val (.double FP.dconst0), .second, .val (.long (own_k q2)), .second, .val (.double (FP.dmul (FP.l2d (own_k q2)) (own_sc p4))), .second, .val (.int (0 : Int32)), .unset, .unset, .unset, .unset, .unset, .unset, .unset, .unset, .unset, .unset] [(.double FP.dconst0), (.double (FP.dmul (FP.l2d (own_k q2)) (own_sc p4)))])) _
    refine st6 _ ?_
    show Steps p.tables e below (T6.setTop (mkF m 253 #[.val (.int p1), .val (.long q2), .second, .val (.int p3), .val (.int p4), .val (.int (p4 &&& (3 : Int32))), .val (.double (own_sc p4)), .second, .val (.int (p1 &&& (3 : Int32))), .val (.long (own_H q2)), .second, .val (.double FP.dconst0), .second, .val (.long (own_k q2)), .second, .val (.double (FP.dmul (FP.l2d (own_k q2)) (own_sc p4))), .second, .val (.int (0 : Int32)), .unset, .unset, .unset, .unset, .unset, .unset, .unset, .unset, .unset, .unset] [(.int (own_ich (FP.dmul (FP.l2d (own_k q2)) (own_sc p4)) FP.dconst0))])) _
    refine XS.iload X6.here hx rfl (hb hby at_253) rfl ?_
    refine XS.icmpNo X6.here hx rfl (hb hby at_255) rfl (teq (own_k1c own_z_pos hc212 hc236 : (own_ich (FP.dmul (FP.l2d (own_k q2)) (own_sc p4)) FP.dconst0) = (0 : Int32))).2 ?_
    show Steps p.tables e below (T6.setTop (mkF m 258 #[.val (.int p1), .val (.long q2), .second, .val (.int p3), .val (.int p4), .val (.int (p4 &&& (3 : Int32))), .val (.double (own_sc p4)), .second, .val (.int (p1 &&& (3 : Int32))), .val (.long (own_H q2)), .second, .val (.double FP.dconst0), .second, .val (.long (own_k q2)), .second, .val (.double (FP.dmul (FP.l2d (own_k q2)) (own_sc p4))), .second, .val (.int (0 : Int32)), .unset, .unset, .unset, .unset, .unset, .unset, .unset, .unset, .unset, .unset] [])) _
    refine XS.iconst X6.here hx rfl (hb hby at_258) ?_
    refine XS.goto X6.here hx rfl (pc0 := 259) (pc' := 263) rfl (hb hby at_259) (by decide) (by decide) ?_
    show Steps p.tables e below (T6.setTop (mkF m 263 #[.val (.int p1), .val (.long q2), .second, .val (.int p3), .val (.int p4), .val (.int (p4 &&& (3 : Int32))), .val (.double (own_sc p4)), .second, .val (.int (p1 &&& (3 : Int32))), .val (.long (own_H q2)), .second, .val (.double FP.dconst0), .second, .val (.long (own_k q2)), .second, .val (.double (FP.dmul (FP.l2d (own_k q2)) (own_sc p4))), .second, .val (.int (0 : Int32)), .unset, .unset, .unset, .unset, .unset, .unset, .unset, .unset, .unset, .unset] [(.int (1 : Int32))])) _
    exact retN X6 hx (t := .boolean) Bd.returns (by simp) (hb hby at_263) hr
  · show Q0 Z p1 q2 p3 p4 h0 n0 _ T6.heap _
    exact ⟨rfl, N6⟩
set_option maxRecDepth 65536 in
set_option maxHeartbeats 40000000 in
theorem rm0_bpd (l : Launch) (Z : State) (a0 : Array Value) (hw : ∀ d ∈ tables_1, d.before a0 Z = true) (ws : List Jvm.Cond) (p1 : Int32) (q2 : Int64) (p3 : Int32) (p4 : Int32) (h0 : Heap) (n0 : Nat) (Z0 : n0 ≤ h0.size) (hc31 : ¬ ((p1 &&& (3 : Int32)) = (0 : Int32))) (hc176 : (p1 &&& (3 : Int32)) = (1 : Int32)) (hc182 : (p1 &&& (4 : Int32)) = (0 : Int32)) (hc212 : ¬ ((p4 &&& (3 : Int32)) = (1 : Int32))) (hc236 : ¬ ((lcmpW (own_k q2) (1 : Int64)) < (0 : Int32))) :
    MetFree l x (head1 (Jvm.Cond.code x code maxLocals ret :: ws) room_1) (fun a U => a = #[(.int p1), (.long q2), (.int p3), (.int p4)] ∧ Z.Warmed39 U.vm ∧ U.heap = h0) (fun _ _ _ _ _ => True) (fun _ U o U' => ∃ v L, o = .returned v ∧ Q0 Z p1 q2 p3 p4 h0 n0 v U'.heap L ∧ FrameEnd U o U' L room_1.cells room_1.slots) := by
  have hnz198 : ¬ ((9007199254740992 : Int64) = (0 : Int64)) := by decide
  have hnn206 : Jvm.Free.Fl.NoNaN64 (FP.dmul (FP.l2d (own_k q2)) (own_sc p4)) := own_nn _ _
  refine MetFree.of_bodySF (plainFor_of_name pn_0) hisR ?_
  intro p e s m args below meth c s₁ Bd hml0 hP hK
  obtain ⟨rfl, hZ, hh⟩ := hP
  have hx := Bd.exec
  have hby := Bd.bytes
  have hml : c.maxLocals = 28 := hml0
  have hown : s.vm.findClass "com/example/level_ring/levelring/placement/MembersIsCertainlyHigherPinLaw" = some m.cls := findClass_of_methodNamed Bd.named
  have hnm := (name_of_methodNamed Bd.named Bd.method).1
  have X0 : Stand p l e room_1 s m #[(.int p1), (.long q2), (.int p3), (.int p4)] below meth c s₁ [] 0 0 := Stand.of_body Bd
  have e0 : s₁.heap = h0 := by rw [← hh, Bd.state]; rfl
  have N0 := Fr.nil n0
  have pre0 : ∀ t, Steps p.tables e below (s₁.setTop (mkF m 0 #[.val (.int p1), .val (.long q2), .second, .val (.int p3), .val (.int p4), .unset, .unset, .unset, .unset, .unset, .unset, .unset, .unset, .unset, .unset, .unset, .unset, .unset, .unset, .unset, .unset, .unset, .unset, .unset, .unset, .unset, .unset, .unset] [])) t → Steps p.tables e below (s₁.setTop (entryFrame m #[(.int p1), (.long q2), (.int p3), (.int p4)] maxLocals)) t := fun t k => castTop (ef_0 m p1 q2 p3 p4) k
  -- 3. LAWS
  -- pc 8: com/example/level_ring/levelring/placement/MembersIsCertainlyHigherPinLaw.scaleOf by its contract rm1
  obtain ⟨_, _, ⟨T5, L5, k5, n5⟩, -, X5, ⟨Lc5, hQ5, l5, y5, z5⟩, st5⟩ := Jvm.LawKit.callS X0 hx (y := (⟨"com/example/level_ring/levelring/placement/MembersIsCertainlyHigherPinLaw", "scaleOf", "(I)D"⟩ : MethodName)) hown (mvT hZ (hw _ (List.mem_of_getElem? (i := 0) rfl))) (mvT hZ (hw _ (List.mem_of_getElem? (i := 1) rfl))) (mvT hZ (hw _ (List.mem_of_getElem? (i := 2) rfl))) (mvT hZ (hw _ (List.mem_of_getElem? (i := 3) rfl))) (by decide) (backOf (W := 0) (rm1 l Z a0 hw [] (p4 &&& (3 : Int32))  h0 n0 Z0) hZ (hw _ (List.mem_of_getElem? (i := 3) rfl)) (hw _ (List.mem_of_getElem? (i := 2) rfl)) (by decide) (by decide)) (g := (mkF m 8 #[.val (.int p1), .val (.long q2), .second, .val (.int p3), .val (.int p4), .val (.int (p4 &&& (3 : Int32))), .unset, .unset, .unset, .unset, .unset, .unset, .unset, .unset, .unset, .unset, .unset, .unset, .unset, .unset, .unset, .unset, .unset, .unset, .unset, .unset, .unset, .unset] [(.int (p4 &&& (3 : Int32)))])) rfl (by rw [hml]; rfl) (argsL := [(.int (p4 &&& (3 : Int32)))]) (rest := []) (lenOf pdw_0 rfl) rfl (by show 2 * 0 + _ ≤ _; exact Nat.le_of_eq rfl) (hb hby at_8) (fun _ _ => ⟨rfl, e0, (by decide : 0 + 0 ≤ _), (by decide : 0 + 0 ≤ _)⟩)
  dsimp only [Pt.U, Pt.locs, Pt.cells, Pt.slots] at X5 l5 y5 z5 st5 hQ5
  subst l5 y5 z5
  obtain ⟨rfl, N5q, hh5⟩ := hQ5
  have N5 := Fr.app N0 N5q
  -- pc 250: com/example/level_ring/levelring/placement/Members.isCertainlyHigher by its contract rm2
  obtain ⟨_, _, ⟨T6, L6, k6, n6⟩, -, X6, ⟨Lc6, hQ6, l6, y6, z6⟩, st6⟩ := Jvm.LawKit.callS X5 hx (y := (⟨"com/example/level_ring/levelring/placement/Members", "isCertainlyHigher", "(DD)Z"⟩ : MethodName)) hown (mvT hZ (hw _ (List.mem_of_getElem? (i := 8) rfl))) (mvT hZ (hw _ (List.mem_of_getElem? (i := 9) rfl))) (mvT hZ (hw _ (List.mem_of_getElem? (i := 10) rfl))) (mvT hZ (hw _ (List.mem_of_getElem? (i := 11) rfl))) (by decide) (backOf (W := 0) (rm2 l Z a0 hw [] (FP.dmul (FP.l2d (own_k q2)) (own_sc p4)) FP.dconst0  h0 n0 Z0 (dmul_out (by unfold Fin64; decide +kernel) own_C_fin)) hZ (hw _ (List.mem_of_getElem? (i := 11) rfl)) (hw _ (List.mem_of_getElem? (i := 10) rfl)) (by decide) (by decide)) (g := (mkF m 250 #[.val (.int p1), .val (.long q2), .second, .val (.int p3), .val (.int p4), .val (.int (p4 &&& (3 : Int32))), .val (.double (own_sc p4)), .second, .val (.int (p1 &&& (3 : Int32))), .val (.long (own_H q2)), .second, .val (.double FP.dconst0), .second, .val (.long (own_k q2)), .second, .val (.double (FP.dmul (FP.l2d (own_k q2)) (own_sc p4))), .second, .val (.int (1 : Int32)), .unset, .unset, .unset, .unset, .unset, .unset, .unset, .unset, .unset, .unset] [(.double FP.dconst0), (.double (FP.dmul (FP.l2d (own_k q2)) (own_sc p4)))])) rfl (by rw [hml]; rfl) (argsL := [(.double (FP.dmul (FP.l2d (own_k q2)) (own_sc p4))), (.double FP.dconst0)]) (rest := []) (lenOf pdw_1 rfl) rfl (by show 2 * 0 + _ ≤ _; exact Nat.le_of_eq rfl) (hb hby at_250) (fun _ _ => ⟨rfl, hh5, (by decide : 0 + 0 ≤ _), (by decide : 0 + 0 ≤ _)⟩)
  dsimp only [Pt.U, Pt.locs, Pt.cells, Pt.slots] at X6 l6 y6 z6 st6 hQ6
  subst l6 y6 z6
  obtain ⟨rfl, N6q, hh6⟩ := hQ6
  have N6 := Fr.app N5 N6q
  obtain ⟨fs, hr, hrun, hended, hW, hsame⟩ := X6.leave (v := some (.int (1 : Int32))) (fun h => by rw [Bd.returns] at h; cases h)
  refine ⟨_, _, pre0 _ ?_, hrun, hended, _, _, rfl, ?_, ⟨_, rfl⟩, hW, hsame.mono (by decide) (by decide)⟩
  -- 4. STEPS
  · show Steps p.tables e below (s₁.setTop (mkF m 0 #[.val (.int p1), .val (.long q2), .second, .val (.int p3), .val (.int p4), .unset, .unset, .unset, .unset, .unset, .unset, .unset, .unset, .unset, .unset, .unset, .unset, .unset, .unset, .unset, .unset, .unset, .unset, .unset, .unset, .unset, .unset, .unset] [])) _
    refine XS.iload X0.here hx rfl (hb hby at_0) rfl ?_
    refine XS.iconst X0.here hx rfl (hb hby at_2) ?_
    show Steps p.tables e below (s₁.setTop (mkF m 3 #[.val (.int p1), .val (.long q2), .second, .val (.int p3), .val (.int p4), .unset, .unset, .unset, .unset, .unset, .unset, .unset, .unset, .unset, .unset, .unset, .unset, .unset, .unset, .unset, .unset, .unset, .unset, .unset, .unset, .unset, .unset, .unset] [(.int (3 : Int32)), (.int p4)])) _
    refine XS.iand X0.here hx rfl (hb hby at_3) rfl ?_
    refine XS.istore X0.here hx rfl (hb hby at_4) rfl (l' := #[.val (.int p1), .val (.long q2), .second, .val (.int p3), .val (.int p4), .val (.int (p4 &&& (3 : Int32))), .unset, .unset, .unset, .unset, .unset, .unset, .unset, .unset, .unset, .unset, .unset, .unset, .unset, .unset, .unset, .unset, .unset, .unset, .unset, .unset, .unset, .unset]) rfl ?_
    show Steps p.tables e below (s₁.setTop (mkF m 6 #[.val (.int p1), .val (.long q2), .second, .val (.int p3), .val (.int p4), .val (.int (p4 &&& (3 : Int32))), .unset, .unset, .unset, .unset, .unset, .unset, .unset, .unset, .unset, .unset, .unset, .unset, .unset, .unset, .unset, .unset, .unset, .unset, .unset, .unset, .unset, .unset] [])) _
    refine XS.iload X0.here hx rfl (hb hby at_6) rfl ?_
    show Steps p.tables e below (s₁.setTop (mkF m 8 #[.val (.int p1), .val (.long q2), .second, .val (.int p3), .val (.int p4), .val (.int (p4 &&& (3 : Int32))), .unset, .unset, .unset, .unset, .unset, .unset, .unset, .unset, .unset, .unset, .unset, .unset, .unset, .unset, .unset, .unset, .unset, .unset, .unset, .unset, .unset, .unset] [(.int (p4 &&& (3 : Int32)))])) _
    refine st5 _ ?_
    show Steps p.tables e below (T5.setTop (mkF m 11 #[.val (.int p1), .val (.long q2), .second, .val (.int p3), .val (.int p4), .val (.int (p4 &&& (3 : Int32))), .unset, .unset, .unset, .unset, .unset, .unset, .unset, .unset, .unset, .unset, .unset, .unset, .unset, .unset, .unset, .unset, .unset, .unset, .unset, .unset, .unset, .unset] [(.double (own_sc p4))])) _
    refine XS.dstore X5.here hx rfl (hb hby at_11) rfl (l' := #[.val (.int p1), .val (.long q2), .second, .val (.int p3), .val (.int p4), .val (.int (p4 &&& (3 : Int32))), .val (.double (own_sc p4)), .second, .unset, .unset, .unset, .unset, .unset, .unset, .unset, .unset, .unset, .unset, .unset, .unset, .unset, .unset, .unset, .unset, .unset, .unset, .unset, .unset]) rfl ?_
    refine XS.iloadN X5.here hx rfl (hb hby at_13) rfl ?_
    show Steps p.tables e below (T5.setTop (mkF m 14 #[.val (.int p1), .val (.long q2), .second, .val (.int p3), .val (.int p4), .val (.int (p4 &&& (3 : Int32))), .val (.double (own_sc p4)), .second, .unset, .unset, .unset, .unset, .unset, .unset, .unset, .unset, .unset, .unset, .unset, .unset, .unset, .unset, .unset, .unset, .unset, .unset, .unset, .unset] [(.int p1)])) _
    refine XS.iconst X5.here hx rfl (hb hby at_14) ?_
    refine XS.iand X5.here hx rfl (hb hby at_15) rfl ?_
    show Steps p.tables e below (T5.setTop (mkF m 16 #[.val (.int p1), .val (.long q2), .second, .val (.int p3), .val (.int p4), .val (.int (p4 &&& (3 : Int32))), .val (.double (own_sc p4)), .second, .unset, .unset, .unset, .unset, .unset, .unset, .unset, .unset, .unset, .unset, .unset, .unset, .unset, .unset, .unset, .unset, .unset, .unset, .unset, .unset] [(.int (p1 &&& (3 : Int32)))])) _
    refine XS.istore X5.here hx rfl (hb hby at_16) rfl (l' := #[.val (.int p1), .val (.long q2), .second, .val (.int p3), .val (.int p4), .val (.int (p4 &&& (3 : Int32))), .val (.double (own_sc p4)), .second, .val (.int (p1 &&& (3 : Int32))), .unset, .unset, .unset, .unset, .unset, .unset, .unset, .unset, .unset, .unset, .unset, .unset, .unset, .unset, .unset, .unset, .unset, .unset, .unset]) rfl ?_
    show Steps p.tables e below (T5.setTop (mkF m 18 #[.val (.int p1), .val (.long q2), .second, .val (.int p3), .val (.int p4), .val (.int (p4 &&& (3 : Int32))), .val (.double (own_sc p4)), .second, .val (.int (p1 &&& (3 : Int32))), .unset, .unset, .unset, .unset, .unset, .unset, .unset, .unset, .unset, .unset, .unset, .unset, .unset, .unset, .unset, .unset, .unset, .unset, .unset] [])) _
    refine X5.ldc2Long hx hown (mvT hZ (hw _ (List.mem_of_getElem? (i := 4) rfl))) (g := (mkF m 18 #[.val (.int p1), .val (.long q2), .second, .val (.int p3), .val (.int p4), .val (.int (p4 &&& (3 : Int32))), .val (.double (own_sc p4)), .second, .val (.int (p1 &&& (3 : Int32))), .unset, .unset, .unset, .unset, .unset, .unset, .unset, .unset, .unset, .unset, .unset, .unset, .unset, .unset, .unset, .unset, .unset, .unset, .unset] [])) rfl (hb hby at_18) _ ?_
    show Steps p.tables e below (T5.setTop (mkF m 21 #[.val (.int p1), .val (.long q2), .second, .val (.int p3), .val (.int p4), .val (.int (p4 &&& (3 : Int32))), .val (.double (own_sc p4)), .second, .val (.int (p1 &&& (3 : Int32))), .unset, .unset, .unset, .unset, .unset, .unset, .unset, .unset, .unset, .unset, .unset, .unset, .unset, .unset, .unset, .unset, .unset, .unset, .unset] [(.long (4503599627370496 : Int64))])) _
    refine XS.lloadN X5.here hx rfl (hb hby at_21) rfl ?_
    show Steps p.tables e below (T5.setTop (mkF m 22 #[.val (.int p1), .val (.long q2), .second, .val (.int p3), .val (.int p4), .val (.int (p4 &&& (3 : Int32))), .val (.double (own_sc p4)), .second, .val (.int (p1 &&& (3 : Int32))), .unset, .unset, .unset, .unset, .unset, .unset, .unset, .unset, .unset, .unset, .unset, .unset, .unset, .unset, .unset, .unset, .unset, .unset, .unset] [(.long q2), (.long (4503599627370496 : Int64))])) _
    refine X5.ldc2Long hx hown (mvT hZ (hw _ (List.mem_of_getElem? (i := 5) rfl))) (g := (mkF m 22 #[.val (.int p1), .val (.long q2), .second, .val (.int p3), .val (.int p4), .val (.int (p4 &&& (3 : Int32))), .val (.double (own_sc p4)), .second, .val (.int (p1 &&& (3 : Int32))), .unset, .unset, .unset, .unset, .unset, .unset, .unset, .unset, .unset, .unset, .unset, .unset, .unset, .unset, .unset, .unset, .unset, .unset, .unset] [(.long q2), (.long (4503599627370496 : Int64))])) rfl (hb hby at_22) _ ?_
    show Steps p.tables e below (T5.setTop (mkF m 25 #[.val (.int p1), .val (.long q2), .second, .val (.int p3), .val (.int p4), .val (.int (p4 &&& (3 : Int32))), .val (.double (own_sc p4)), .second, .val (.int (p1 &&& (3 : Int32))), .unset, .unset, .unset, .unset, .unset, .unset, .unset, .unset, .unset, .unset, .unset, .unset, .unset, .unset, .unset, .unset, .unset, .unset, .unset] [(.long (2251799813685247 : Int64)), (.long q2), (.long (4503599627370496 : Int64))])) _
    refine XS.land X5.here hx rfl (hb hby at_25) rfl ?_
    refine XS.lor X5.here hx rfl (hb hby at_26) rfl ?_
    show Steps p.tables e below (T5.setTop (mkF m 27 #[.val (.int p1), .val (.long q2), .second, .val (.int p3), .val (.int p4), .val (.int (p4 &&& (3 : Int32))), .val (.double (own_sc p4)), .second, .val (.int (p1 &&& (3 : Int32))), .unset, .unset, .unset, .unset, .unset, .unset, .unset, .unset, .unset, .unset, .unset, .unset, .unset, .unset, .unset, .unset, .unset, .unset, .unset] [(.long (own_H q2))])) _
    refine XS.lstore X5.here hx rfl (hb hby at_27) rfl (l' := #[.val (.int p1), .val (.long q2), .second, .val (.int p3), .val (.int p4), .val (.int (p4 &&& (3 : Int32))), .val (.double (own_sc p4)), .second, .val (.int (p1 &&& (3 : Int32))), .val (.long (own_H q2)), .second, .unset, .unset, .unset, .unset, .unset, .unset, .unset, .unset, .unset, .unset, .unset, .unset, .unset, .unset, .unset, .unset, .unset]) rfl ?_
    refine XS.iload X5.here hx rfl (hb hby at_29) rfl ?_
    show Steps p.tables e below (T5.setTop (mkF m 31 #[.val (.int p1), .val (.long q2), .second, .val (.int p3), .val (.int p4), .val (.int (p4 &&& (3 : Int32))), .val (.double (own_sc p4)), .second, .val (.int (p1 &&& (3 : Int32))), .val (.long (own_H q2)), .second, .unset, .unset, .unset, .unset, .unset, .unset, .unset, .unset, .unset, .unset, .unset, .unset, .unset, .unset, .unset, .unset, .unset] [(.int (p1 &&& (3 : Int32)))])) _
    refine XS.ifYes X5.here hx rfl (pc0 := 31) (pc' := 173) rfl (hb hby at_31) rfl ((if0 _ _).trans (feq hc31).2) (by decide) (by decide) ?_
    refine XS.iload X5.here hx rfl (hb hby at_173) rfl ?_
    show Steps p.tables e below (T5.setTop (mkF m 175 #[.val (.int p1), .val (.long q2), .second, .val (.int p3), .val (.int p4), .val (.int (p4 &&& (3 : Int32))), .val (.double (own_sc p4)), .second, .val (.int (p1 &&& (3 : Int32))), .val (.long (own_H q2)), .second, .unset, .unset, .unset, .unset, .unset, .unset, .unset, .unset, .unset, .unset, .unset, .unset, .unset, .unset, .unset, .unset, .unset] [(.int (p1 &&& (3 : Int32)))])) _
    refine XS.iconst X5.here hx rfl (hb hby at_175) ?_
    refine XS.icmpNo X5.here hx rfl (hb hby at_176) rfl (teq hc176).2 ?_
    show Steps p.tables e below (T5.setTop (mkF m 179 #[.val (.int p1), .val (.long q2), .second, .val (.int p3), .val (.int p4), .val (.int (p4 &&& (3 : Int32))), .val (.double (own_sc p4)), .second, .val (.int (p1 &&& (3 : Int32))), .val (.long (own_H q2)), .second, .unset, .unset, .unset, .unset, .unset, .unset, .unset, .unset, .unset, .unset, .unset, .unset, .unset, .unset, .unset, .unset, .unset] [])) _
    refine XS.iloadN X5.here hx rfl (hb hby at_179) rfl ?_
    refine XS.iconst X5.here hx rfl (hb hby at_180) ?_
    show Steps p.tables e below (T5.setTop (mkF m 181 #[.val (.int p1), .val (.long q2), .second, .val (.int p3), .val (.int p4), .val (.int (p4 &&& (3 : Int32))), .val (.double (own_sc p4)), .second, .val (.int (p1 &&& (3 : Int32))), .val (.long (own_H q2)), .second, .unset, .unset, .unset, .unset, .unset, .unset, .unset, .unset, .unset, .unset, .unset, .unset, .unset, .unset, .unset, .unset, .unset] [(.int (4 : Int32)), (.int p1)])) _
    refine XS.iand X5.here hx rfl (hb hby at_181) rfl ?_
    refine XS.ifYes X5.here hx rfl (pc0 := 182) (pc' := 191) rfl (hb hby at_182) rfl ((if0 _ _).trans (teq hc182).1) (by decide) (by decide) ?_
    show Steps p.tables e below (T5.setTop (mkF m 191 #[.val (.int p1), .val (.long q2), .second, .val (.int p3), .val (.int p4), .val (.int (p4 &&& (3 : Int32))), .val (.double (own_sc p4)), .second, .val (.int (p1 &&& (3 : Int32))), .val (.long (own_H q2)), .second, .unset, .unset, .unset, .unset, .unset, .unset, .unset, .unset, .unset, .unset, .unset, .unset, .unset, .unset, .unset, .unset, .unset] [])) _
    refine XS.dconst0 X5.here hx rfl (hb hby at_191) rfl ?_
    refine XS.dstore X5.here hx rfl (hb hby at_192) rfl (l' := #[.val (.int p1), .val (.long q2), .second, .val (.int p3), .val (.int p4), .val (.int (p4 &&& (3 : Int32))), .val (.double (own_sc p4)), .second, .val (.int (p1 &&& (3 : Int32))), .val (.long (own_H q2)), .second, .val (.double FP.dconst0), .second, .unset, .unset, .unset, .unset, .unset, .unset, .unset, .unset, .unset, .unset, .unset, .unset, .unset, .unset, .unset]) rfl ?_
    show Steps p.tables e below (T5.setTop (mkF m 194 #[.val (.int p1), .val (.long q2), .second, .val (.int p3), .val (.int p4), .val (.int (p4 &&& (3 : Int32))), .val (.double (own_sc p4)), .second, .val (.int (p1 &&& (3 : Int32))), .val (.long (own_H q2)), .second, .val (.double FP.dconst0), .second, .unset, .unset, .unset, .unset, .unset, .unset, .unset, .unset, .unset, .unset, .unset, .unset, .unset, .unset, .unset] [])) _
    refine XS.lloadN X5.here hx rfl (hb hby at_194) rfl ?_
    show Steps p.tables e below (T5.setTop (mkF m 195 #[.val (.int p1), .val (.long q2), .second, .val (.int p3), .val (.int p4), .val (.int (p4 &&& (3 : Int32))), .val (.double (own_sc p4)), .second, .val (.int (p1 &&& (3 : Int32))), .val (.long (own_H q2)), .second, .val (.double FP.dconst0), .second, .unset, .unset, .unset, .unset, .unset, .unset, .unset, .unset, .unset, .unset, .unset, .unset, .unset, .unset, .unset] [(.long q2)])) _
    refine X5.ldc2Long hx hown (mvT hZ (hw _ (List.mem_of_getElem? (i := 16) rfl))) (g := (mkF m 195 #[.val (.int p1), .val (.long q2), .second, .val (.int p3), .val (.int p4), .val (.int (p4 &&& (3 : Int32))), .val (.double (own_sc p4)), .second, .val (.int (p1 &&& (3 : Int32))), .val (.long (own_H q2)), .second, .val (.double FP.dconst0), .second, .unset, .unset, .unset, .unset, .unset, .unset, .unset, .unset, .unset, .unset, .unset, .unset, .unset, .unset, .unset] [(.long q2)])) rfl (hb hby at_195) _ ?_
    show Steps p.tables e below (T5.setTop (mkF m 198 #[.val (.int p1), .val (.long q2), .second, .val (.int p3), .val (.int p4), .val (.int (p4 &&& (3 : Int32))), .val (.double (own_sc p4)), .second, .val (.int (p1 &&& (3 : Int32))), .val (.long (own_H q2)), .second, .val (.double FP.dconst0), .second, .unset, .unset, .unset, .unset, .unset, .unset, .unset, .unset, .unset, .unset, .unset, .unset, .unset, .unset, .unset] [(.long (9007199254740992 : Int64)), (.long q2)])) _
    refine XS.lrem X5.here hx rfl (hb hby at_198) rfl hnz198 ?_
    refine XS.lstore X5.here hx rfl (hb hby at_199) rfl (l' := #[.val (.int p1), .val (.long q2), .second, .val (.int p3), .val (.int p4), .val (.int (p4 &&& (3 : Int32))), .val (.double (own_sc p4)), .second, .val (.int (p1 &&& (3 : Int32))), .val (.long (own_H q2)), .second, .val (.double FP.dconst0), .second, .val (.long (own_k q2)), .second, .unset, .unset, .unset, .unset, .unset, .unset, .unset, .unset, .unset, .unset, .unset, .unset, .unset]) rfl ?_
    show Steps p.tables e below (T5.setTop (mkF m 201 #[.val (.int p1), .val (.long q2), .second, .val (.int p3), .val (.int p4), .val (.int (p4 &&& (3 : Int32))), .val (.double (own_sc p4)), .second, .val (.int (p1 &&& (3 : Int32))), .val (.long (own_H q2)), .second, .val (.double FP.dconst0), .second, .val (.long (own_k q2)), .second, .unset, .unset, .unset, .unset, .unset, .unset, .unset, .unset, .unset, .unset, .unset, .unset, .unset] [])) _
    refine XS.lload X5.here hx rfl (hb hby at_201) rfl ?_
    refine XS.l2dS X5.here hx rfl (hb hby at_203) rfl rfl ?_
    show Steps p.tables e below (T5.setTop (mkF m 204 #[.val (.int p1), .val (.long q2), .second, .val (.int p3), .val (.int p4), .val (.int (p4 &&& (3 : Int32))), .val (.double (own_sc p4)), .second, .val (.int (p1 &&& (3 : Int32))), .val (.long (own_H q2)), .second, .val (.double FP.dconst0), .second, .val (.long (own_k q2)), .second, .unset, .unset, .unset, .unset, .unset, .unset, .unset, .unset, .unset, .unset, .unset, .unset, .unset] [(.double (FP.l2d (own_k q2)))])) _
    refine XS.dload X5.here hx rfl (hb hby at_204) rfl ?_
    refine XS.dmulS X5.here hx rfl (hb hby at_206) rfl hnn206 rfl ?_
    show Steps p.tables e below (T5.setTop (mkF m 207 #[.val (.int p1), .val (.long q2), .second, .val (.int p3), .val (.int p4), .val (.int (p4 &&& (3 : Int32))), .val (.double (own_sc p4)), .second, .val (.int (p1 &&& (3 : Int32))), .val (.long (own_H q2)), .second, .val (.double FP.dconst0), .second, .val (.long (own_k q2)), .second, .unset, .unset, .unset, .unset, .unset, .unset, .unset, .unset, .unset, .unset, .unset, .unset, .unset] [(.double (FP.dmul (FP.l2d (own_k q2)) (own_sc p4)))])) _
    refine XS.dstore X5.here hx rfl (hb hby at_207) rfl (l' := #[.val (.int p1), .val (.long q2), .second, .val (.int p3), .val (.int p4), .val (.int (p4 &&& (3 : Int32))), .val (.double (own_sc p4)), .second, .val (.int (p1 &&& (3 : Int32))), .val (.long (own_H q2)), .second, .val (.double FP.dconst0), .second, .val (.long (own_k q2)), .second, .val (.double (FP.dmul (FP.l2d (own_k q2)) (own_sc p4))), .second, .unset, .unset, .unset, .unset, .unset, .unset, .unset, .unset, .unset, .unset, .unset]) rfl ?_
    refine XS.iload X5.here hx rfl (hb hby at_209) rfl ?_
    show Steps p.tables e below (T5.setTop (mkF m 211 #[.val (.int p1), .val (.long q2), .second, .val (.int p3), .val (.int p4), .val (.int (p4 &&& (3 : Int32))), .val (.double (own_sc p4)), .second, .val (.int (p1 &&& (3 : Int32))), .val (.long (own_H q2)), .second, .val (.double FP.dconst0), .second, .val (.long (own_k q2)), .second, .val (.double (FP.dmul (FP.l2d (own_k q2)) (own_sc p4))), .second, .unset, .unset, .unset, .unset, .unset, .unset, .unset, .unset, .unset, .unset, .unset] [(.int (p4 &&& (3 : Int32)))])) _
    refine XS.iconst X5.here hx rfl (hb hby at_211) ?_
    refine XS.icmpYes X5.here hx rfl (pc0 := 212) (pc' := 232) rfl (hb hby at_212) rfl (feq hc212).2 (by decide) (by decide) ?_
    show Steps p.tables e below (T5.setTop (mkF m 232 #[.val (.int p1), .val (.long q2), .second, .val (.int p3), .val (.int p4), .val (.int (p4 &&& (3 : Int32))), .val (.double (own_sc p4)), .second, .val (.int (p1 &&& (3 : Int32))), .val (.long (own_H q2)), .second, .val (.double FP.dconst0), .second, .val (.long (own_k q2)), .second, .val (.double (FP.dmul (FP.l2d (own_k q2)) (own_sc p4))), .second, .unset, .unset, .unset, .unset, .unset, .unset, .unset, .unset, .unset, .unset, .unset] [])) _
    refine XS.lload X5.here hx rfl (hb hby at_232) rfl ?_
    refine XS.lconst X5.here hx rfl (hb hby at_234) ?_
    show Steps p.tables e below (T5.setTop (mkF m 235 #[.val (.int p1), .val (.long q2), .second, .val (.int p3), .val (.int p4), .val (.int (p4 &&& (3 : Int32))), .val (.double (own_sc p4)), .second, .val (.int (p1 &&& (3 : Int32))), .val (.long (own_H q2)), .second, .val (.double FP.dconst0), .second, .val (.long (own_k q2)), .second, .val (.double (FP.dmul (FP.l2d (own_k q2)) (own_sc p4))), .second, .unset, .unset, .unset, .unset, .unset, .unset, .unset, .unset, .unset, .unset, .unset] [(.long (1 : Int64)), (.long (own_k q2))])) _
    refine XS.lcmp X5.here hx rfl (hb hby at_235) rfl ?_
    refine XS.ifNo X5.here hx rfl (hb hby at_236) rfl ((if0 _ _).trans (flt hc236).1) ?_
    show Steps p.tables e below (T5.setTop (mkF m 239 #[.val (.int p1), .val (.long q2), .second, .val (.int p3), .val (.int p4), .val (.int (p4 &&& (3 : Int32))), .val (.double (own_sc p4)), .second, .val (.int (p1 &&& (3 : Int32))), .val (.long (own_H q2)), .second, .val (.double FP.dconst0), .second, .val (.long (own_k q2)), .second, .val (.double (FP.dmul (FP.l2d (own_k q2)) (own_sc p4))), .second, .unset, .unset, .unset, .unset, .unset, .unset, .unset, .unset, .unset, .unset, .unset] [])) _
    refine XS.iconst X5.here hx rfl (hb hby at_239) ?_
    refine XS.goto X5.here hx rfl (pc0 := 240) (pc' := 244) rfl (hb hby at_240) (by decide) (by decide) ?_
    show Steps p.tables e below (T5.setTop (mkF m 244 #[.val (.int p1), .val (.long q2), .second, .val (.int p3), .val (.int p4), .val (.int (p4 &&& (3 : Int32))), .val (.double (own_sc p4)), .second, .val (.int (p1 &&& (3 : Int32))), .val (.long (own_H q2)), .second, .val (.double FP.dconst0), .second, .val (.long (own_k q2)), .second, .val (.double (FP.dmul (FP.l2d (own_k q2)) (own_sc p4))), .second, .unset, .unset, .unset, .unset, .unset, .unset, .unset, .unset, .unset, .unset, .unset] [(.int (1 : Int32))])) _
    refine XS.istore X5.here hx rfl (hb hby at_244) rfl (l' := #[.val (.int p1), .val (.long q2), .second, .val (.int p3), .val (.int p4), .val (.int (p4 &&& (3 : Int32))), .val (.double (own_sc p4)), .second, .val (.int (p1 &&& (3 : Int32))), .val (.long (own_H q2)), .second, .val (.double FP.dconst0), .second, .val (.long (own_k q2)), .second, .val (.double (FP.dmul (FP.l2d (own_k q2)) (own_sc p4))), .second, .val (.int (1 : Int32)), .unset, .unset, .unset, .unset, .unset, .unset, .unset, .unset, .unset, .unset]) rfl ?_
    refine XS.dload X5.here hx rfl (hb hby at_246) rfl ?_
    show Steps p.tables e below (T5.setTop (mkF m 248 #[.val (.int p1), .val (.long q2), .second, .val (.int p3), .val (.int p4), .val (.int (p4 &&& (3 : Int32))), .val (.double (own_sc p4)), .second, .val (.int (p1 &&& (3 : Int32))), .val (.long (own_H q2)), .second, .val (.double FP.dconst0), .second, .val (.long (own_k q2)), .second, .val (.double (FP.dmul (FP.l2d (own_k q2)) (own_sc p4))), .second, .val (.int (1 : Int32)), .unset, .unset, .unset, .unset, .unset, .unset, .unset, .unset, .unset, .unset] [(.double (FP.dmul (FP.l2d (own_k q2)) (own_sc p4)))])) _
    refine XS.dload X5.here hx rfl (hb hby at_248) rfl ?_
    show Steps p.tables e below (T5.setTop (mkF m 250 #[.val (.int p1), .val (.long q2), .second, .val (.int p3), .val (.int p4), .val (.int (p4 &&& (3 : Int32))), .val (.double (own_sc p4)), .second, .val (.int (p1 &&& (3 : Int32))), .val (.long (own_H q2)), .second, .val (.double FP.dconst0), .second, .val (.long (own_k q2)), .second, .val (.double (FP.dmul (FP.l2d (own_k q2)) (own_sc p4))), .second, .val (.int (1 : Int32)), .unset, .unset, .unset, .unset, .unset, .unset, .unset, .unset, .unset, .unset] [(.double FP.dconst0), (.double (FP.dmul (FP.l2d (own_k q2)) (own_sc p4)))])) _
    refine st6 _ ?_
    show Steps p.tables e below (T6.setTop (mkF m 253 #[.val (.int p1), .val (.long q2), .second, .val (.int p3), .val (.int p4), .val (.int (p4 &&& (3 : Int32))), .val (.double (own_sc p4)), .second, .val (.int (p1 &&& (3 : Int32))), .val (.long (own_H q2)), .second, .val (.double FP.dconst0), .second, .val (.long (own_k q2)), .second, .val (.double (FP.dmul (FP.l2d (own_k q2)) (own_sc p4))), .second, .val (.int (1 : Int32)), .unset, .unset, .unset, .unset, .unset, .unset, .unset, .unset, .unset, .unset] [(.int (own_ich (FP.dmul (FP.l2d (own_k q2)) (own_sc p4)) FP.dconst0))])) _
    refine XS.iload X6.here hx rfl (hb hby at_253) rfl ?_
    refine XS.icmpNo X6.here hx rfl (hb hby at_255) rfl (teq (own_k1d own_z_pos hc212 hc236 : (own_ich (FP.dmul (FP.l2d (own_k q2)) (own_sc p4)) FP.dconst0) = (1 : Int32))).2 ?_
    show Steps p.tables e below (T6.setTop (mkF m 258 #[.val (.int p1), .val (.long q2), .second, .val (.int p3), .val (.int p4), .val (.int (p4 &&& (3 : Int32))), .val (.double (own_sc p4)), .second, .val (.int (p1 &&& (3 : Int32))), .val (.long (own_H q2)), .second, .val (.double FP.dconst0), .second, .val (.long (own_k q2)), .second, .val (.double (FP.dmul (FP.l2d (own_k q2)) (own_sc p4))), .second, .val (.int (1 : Int32)), .unset, .unset, .unset, .unset, .unset, .unset, .unset, .unset, .unset, .unset] [])) _
    refine XS.iconst X6.here hx rfl (hb hby at_258) ?_
    refine XS.goto X6.here hx rfl (pc0 := 259) (pc' := 263) rfl (hb hby at_259) (by decide) (by decide) ?_
    show Steps p.tables e below (T6.setTop (mkF m 263 #[.val (.int p1), .val (.long q2), .second, .val (.int p3), .val (.int p4), .val (.int (p4 &&& (3 : Int32))), .val (.double (own_sc p4)), .second, .val (.int (p1 &&& (3 : Int32))), .val (.long (own_H q2)), .second, .val (.double FP.dconst0), .second, .val (.long (own_k q2)), .second, .val (.double (FP.dmul (FP.l2d (own_k q2)) (own_sc p4))), .second, .val (.int (1 : Int32)), .unset, .unset, .unset, .unset, .unset, .unset, .unset, .unset, .unset, .unset] [(.int (1 : Int32))])) _
    exact retN X6 hx (t := .boolean) Bd.returns (by simp) (hb hby at_263) hr
  · show Q0 Z p1 q2 p3 p4 h0 n0 _ T6.heap _
    exact ⟨rfl, N6⟩
set_option maxRecDepth 65536 in
set_option maxHeartbeats 40000000 in
theorem rm0_bna (l : Launch) (Z : State) (a0 : Array Value) (hw : ∀ d ∈ tables_1, d.before a0 Z = true) (ws : List Jvm.Cond) (p1 : Int32) (q2 : Int64) (p3 : Int32) (p4 : Int32) (h0 : Heap) (n0 : Nat) (Z0 : n0 ≤ h0.size) (hc31 : ¬ ((p1 &&& (3 : Int32)) = (0 : Int32))) (hc176 : (p1 &&& (3 : Int32)) = (1 : Int32)) (hc182 : ¬ ((p1 &&& (4 : Int32)) = (0 : Int32))) (hc212 : (p4 &&& (3 : Int32)) = (1 : Int32)) (hc221 : (lcmpW (own_k q2) (4503599627370496 : Int64)) < (0 : Int32)) :
    MetFree l x (head1 (Jvm.Cond.code x code maxLocals ret :: ws) room_1) (fun a U => a = #[(.int p1), (.long q2), (.int p3), (.int p4)] ∧ Z.Warmed39 U.vm ∧ U.heap = h0) (fun _ _ _ _ _ => True) (fun _ U o U' => ∃ v L, o = .returned v ∧ Q0 Z p1 q2 p3 p4 h0 n0 v U'.heap L ∧ FrameEnd U o U' L room_1.cells room_1.slots) := by
  have hnz198 : ¬ ((9007199254740992 : Int64) = (0 : Int64)) := by decide
  have hnn206 : Jvm.Free.Fl.NoNaN64 (FP.dmul (FP.l2d (own_k q2)) (own_sc p4)) := own_nn _ _
  refine MetFree.of_bodySF (plainFor_of_name pn_0) hisR ?_
  intro p e s m args below meth c s₁ Bd hml0 hP hK
  obtain ⟨rfl, hZ, hh⟩ := hP
  have hx := Bd.exec
  have hby := Bd.bytes
  have hml : c.maxLocals = 28 := hml0
  have hown : s.vm.findClass "com/example/level_ring/levelring/placement/MembersIsCertainlyHigherPinLaw" = some m.cls := findClass_of_methodNamed Bd.named
  have hnm := (name_of_methodNamed Bd.named Bd.method).1
  have X0 : Stand p l e room_1 s m #[(.int p1), (.long q2), (.int p3), (.int p4)] below meth c s₁ [] 0 0 := Stand.of_body Bd
  have e0 : s₁.heap = h0 := by rw [← hh, Bd.state]; rfl
  have N0 := Fr.nil n0
  have pre0 : ∀ t, Steps p.tables e below (s₁.setTop (mkF m 0 #[.val (.int p1), .val (.long q2), .second, .val (.int p3), .val (.int p4), .unset, .unset, .unset, .unset, .unset, .unset, .unset, .unset, .unset, .unset, .unset, .unset, .unset, .unset, .unset, .unset, .unset, .unset, .unset, .unset, .unset, .unset, .unset] [])) t → Steps p.tables e below (s₁.setTop (entryFrame m #[(.int p1), (.long q2), (.int p3), (.int p4)] maxLocals)) t := fun t k => castTop (ef_0 m p1 q2 p3 p4) k
  -- 3. LAWS
  -- pc 8: com/example/level_ring/levelring/placement/MembersIsCertainlyHigherPinLaw.scaleOf by its contract rm1
  obtain ⟨_, _, ⟨T5, L5, k5, n5⟩, -, X5, ⟨Lc5, hQ5, l5, y5, z5⟩, st5⟩ := Jvm.LawKit.callS X0 hx (y := (⟨"com/example/level_ring/levelring/placement/MembersIsCertainlyHigherPinLaw", "scaleOf", "(I)D"⟩ : MethodName)) hown (mvT hZ (hw _ (List.mem_of_getElem? (i := 0) rfl))) (mvT hZ (hw _ (List.mem_of_getElem? (i := 1) rfl))) (mvT hZ (hw _ (List.mem_of_getElem? (i := 2) rfl))) (mvT hZ (hw _ (List.mem_of_getElem? (i := 3) rfl))) (by decide) (backOf (W := 0) (rm1 l Z a0 hw [] (p4 &&& (3 : Int32))  h0 n0 Z0) hZ (hw _ (List.mem_of_getElem? (i := 3) rfl)) (hw _ (List.mem_of_getElem? (i := 2) rfl)) (by decide) (by decide)) (g := (mkF m 8 #[.val (.int p1), .val (.long q2), .second, .val (.int p3), .val (.int p4), .val (.int (p4 &&& (3 : Int32))), .unset, .unset, .unset, .unset, .unset, .unset, .unset, .unset, .unset, .unset, .unset, .unset, .unset, .unset, .unset, .unset, .unset, .unset, .unset, .unset, .unset, .unset] [(.int (p4 &&& (3 : Int32)))])) rfl (by rw [hml]; rfl) (argsL := [(.int (p4 &&& (3 : Int32)))]) (rest := []) (lenOf pdw_0 rfl) rfl (by show 2 * 0 + _ ≤ _; exact Nat.le_of_eq rfl) (hb hby at_8) (fun _ _ => ⟨rfl, e0, (by decide : 0 + 0 ≤ _), (by decide : 0 + 0 ≤ _)⟩)
  dsimp only [Pt.U, Pt.locs, Pt.cells, Pt.slots] at X5 l5 y5 z5 st5 hQ5
  subst l5 y5 z5
  obtain ⟨rfl, N5q, hh5⟩ := hQ5
  have N5 := Fr.app N0 N5q
  -- pc 250: com/example/level_ring/levelring/placement/Members.isCertainlyHigher by its contract rm2
  obtain ⟨_, _, ⟨T6, L6, k6, n6⟩, -, X6, ⟨Lc6, hQ6, l6, y6, z6⟩, st6⟩ := Jvm.LawKit.callS X5 hx (y := (⟨"com/example/level_ring/levelring/placement/Members", "isCertainlyHigher", "(DD)Z"⟩ : MethodName)) hown (mvT hZ (hw _ (List.mem_of_getElem? (i := 8) rfl))) (mvT hZ (hw _ (List.mem_of_getElem? (i := 9) rfl))) (mvT hZ (hw _ (List.mem_of_getElem? (i := 10) rfl))) (mvT hZ (hw _ (List.mem_of_getElem? (i := 11) rfl))) (by decide) (backOf (W := 0) (rm2 l Z a0 hw [] (FP.dmul (FP.l2d (own_k q2)) (own_sc p4)) (9223372036854775808 : UInt64)  h0 n0 Z0 (dmul_out (by unfold Fin64; decide +kernel) own_C_fin)) hZ (hw _ (List.mem_of_getElem? (i := 11) rfl)) (hw _ (List.mem_of_getElem? (i := 10) rfl)) (by decide) (by decide)) (g := (mkF m 250 #[.val (.int p1), .val (.long q2), .second, .val (.int p3), .val (.int p4), .val (.int (p4 &&& (3 : Int32))), .val (.double (own_sc p4)), .second, .val (.int (p1 &&& (3 : Int32))), .val (.long (own_H q2)), .second, .val (.double (9223372036854775808 : UInt64)), .second, .val (.long (own_k q2)), .second, .val (.double (FP.dmul (FP.l2d (own_k q2)) (own_sc p4))), .second, .val (.int (0 : Int32)), .unset, .unset, .unset, .unset, .unset, .unset, .unset, .unset, .unset, .unset] [(.double (9223372036854775808 : UInt64)), (.double (FP.dmul (FP.l2d (own_k q2)) (own_sc p4)))])) rfl (by rw [hml]; rfl) (argsL := [(.double (FP.dmul (FP.l2d (own_k q2)) (own_sc p4))), (.double (9223372036854775808 : UInt64))]) (rest := []) (lenOf pdw_1 rfl) rfl (by show 2 * 0 + _ ≤ _; exact Nat.le_of_eq rfl) (hb hby at_250) (fun _ _ => ⟨rfl, hh5, (by decide : 0 + 0 ≤ _), (by decide : 0 + 0 ≤ _)⟩)
  dsimp only [Pt.U, Pt.locs, Pt.cells, Pt.slots] at X6 l6 y6 z6 st6 hQ6
  subst l6 y6 z6
  obtain ⟨rfl, N6q, hh6⟩ := hQ6
  have N6 := Fr.app N5 N6q
  obtain ⟨fs, hr, hrun, hended, hW, hsame⟩ := X6.leave (v := some (.int (1 : Int32))) (fun h => by rw [Bd.returns] at h; cases h)
  refine ⟨_, _, pre0 _ ?_, hrun, hended, _, _, rfl, ?_, ⟨_, rfl⟩, hW, hsame.mono (by decide) (by decide)⟩
  -- 4. STEPS
  · show Steps p.tables e below (s₁.setTop (mkF m 0 #[.val (.int p1), .val (.long q2), .second, .val (.int p3), .val (.int p4), .unset, .unset, .unset, .unset, .unset, .unset, .unset, .unset, .unset, .unset, .unset, .unset, .unset, .unset, .unset, .unset, .unset, .unset, .unset, .unset, .unset, .unset, .unset] [])) _
    refine XS.iload X0.here hx rfl (hb hby at_0) rfl ?_
    refine XS.iconst X0.here hx rfl (hb hby at_2) ?_
    show Steps p.tables e below (s₁.setTop (mkF m 3 #[.val (.int p1), .val (.long q2), .second, .val (.int p3), .val (.int p4), .unset, .unset, .unset, .unset, .unset, .unset, .unset, .unset, .unset, .unset, .unset, .unset, .unset, .unset, .unset, .unset, .unset, .unset, .unset, .unset, .unset, .unset, .unset] [(.int (3 : Int32)), (.int p4)])) _
    refine XS.iand X0.here hx rfl (hb hby at_3) rfl ?_
    refine XS.istore X0.here hx rfl (hb hby at_4) rfl (l' := #[.val (.int p1), .val (.long q2), .second, .val (.int p3), .val (.int p4), .val (.int (p4 &&& (3 : Int32))), .unset, .unset, .unset, .unset, .unset, .unset, .unset, .unset, .unset, .unset, .unset, .unset, .unset, .unset, .unset, .unset, .unset, .unset, .unset, .unset, .unset, .unset]) rfl ?_
    show Steps p.tables e below (s₁.setTop (mkF m 6 #[.val (.int p1), .val (.long q2), .second, .val (.int p3), .val (.int p4), .val (.int (p4 &&& (3 : Int32))), .unset, .unset, .unset, .unset, .unset, .unset, .unset, .unset, .unset, .unset, .unset, .unset, .unset, .unset, .unset, .unset, .unset, .unset, .unset, .unset, .unset, .unset] [])) _
    refine XS.iload X0.here hx rfl (hb hby at_6) rfl ?_
    show Steps p.tables e below (s₁.setTop (mkF m 8 #[.val (.int p1), .val (.long q2), .second, .val (.int p3), .val (.int p4), .val (.int (p4 &&& (3 : Int32))), .unset, .unset, .unset, .unset, .unset, .unset, .unset, .unset, .unset, .unset, .unset, .unset, .unset, .unset, .unset, .unset, .unset, .unset, .unset, .unset, .unset, .unset] [(.int (p4 &&& (3 : Int32)))])) _
    refine st5 _ ?_
    show Steps p.tables e below (T5.setTop (mkF m 11 #[.val (.int p1), .val (.long q2), .second, .val (.int p3), .val (.int p4), .val (.int (p4 &&& (3 : Int32))), .unset, .unset, .unset, .unset, .unset, .unset, .unset, .unset, .unset, .unset, .unset, .unset, .unset, .unset, .unset, .unset, .unset, .unset, .unset, .unset, .unset, .unset] [(.double (own_sc p4))])) _
    refine XS.dstore X5.here hx rfl (hb hby at_11) rfl (l' := #[.val (.int p1), .val (.long q2), .second, .val (.int p3), .val (.int p4), .val (.int (p4 &&& (3 : Int32))), .val (.double (own_sc p4)), .second, .unset, .unset, .unset, .unset, .unset, .unset, .unset, .unset, .unset, .unset, .unset, .unset, .unset, .unset, .unset, .unset, .unset, .unset, .unset, .unset]) rfl ?_
    refine XS.iloadN X5.here hx rfl (hb hby at_13) rfl ?_
    show Steps p.tables e below (T5.setTop (mkF m 14 #[.val (.int p1), .val (.long q2), .second, .val (.int p3), .val (.int p4), .val (.int (p4 &&& (3 : Int32))), .val (.double (own_sc p4)), .second, .unset, .unset, .unset, .unset, .unset, .unset, .unset, .unset, .unset, .unset, .unset, .unset, .unset, .unset, .unset, .unset, .unset, .unset, .unset, .unset] [(.int p1)])) _
    refine XS.iconst X5.here hx rfl (hb hby at_14) ?_
    refine XS.iand X5.here hx rfl (hb hby at_15) rfl ?_
    show Steps p.tables e below (T5.setTop (mkF m 16 #[.val (.int p1), .val (.long q2), .second, .val (.int p3), .val (.int p4), .val (.int (p4 &&& (3 : Int32))), .val (.double (own_sc p4)), .second, .unset, .unset, .unset, .unset, .unset, .unset, .unset, .unset, .unset, .unset, .unset, .unset, .unset, .unset, .unset, .unset, .unset, .unset, .unset, .unset] [(.int (p1 &&& (3 : Int32)))])) _
    refine XS.istore X5.here hx rfl (hb hby at_16) rfl (l' := #[.val (.int p1), .val (.long q2), .second, .val (.int p3), .val (.int p4), .val (.int (p4 &&& (3 : Int32))), .val (.double (own_sc p4)), .second, .val (.int (p1 &&& (3 : Int32))), .unset, .unset, .unset, .unset, .unset, .unset, .unset, .unset, .unset, .unset, .unset, .unset, .unset, .unset, .unset, .unset, .unset, .unset, .unset]) rfl ?_
    show Steps p.tables e below (T5.setTop (mkF m 18 #[.val (.int p1), .val (.long q2), .second, .val (.int p3), .val (.int p4), .val (.int (p4 &&& (3 : Int32))), .val (.double (own_sc p4)), .second, .val (.int (p1 &&& (3 : Int32))), .unset, .unset, .unset, .unset, .unset, .unset, .unset, .unset, .unset, .unset, .unset, .unset, .unset, .unset, .unset, .unset, .unset, .unset, .unset] [])) _
    refine X5.ldc2Long hx hown (mvT hZ (hw _ (List.mem_of_getElem? (i := 4) rfl))) (g := (mkF m 18 #[.val (.int p1), .val (.long q2), .second, .val (.int p3), .val (.int p4), .val (.int (p4 &&& (3 : Int32))), .val (.double (own_sc p4)), .second, .val (.int (p1 &&& (3 : Int32))), .unset, .unset, .unset, .unset, .unset, .unset, .unset, .unset, .unset, .unset, .unset, .unset, .unset, .unset, .unset, .unset, .unset, .unset, .unset] [])) rfl (hb hby at_18) _ ?_
    show Steps p.tables e below (T5.setTop (mkF m 21 #[.val (.int p1), .val (.long q2), .second, .val (.int p3), .val (.int p4), .val (.int (p4 &&& (3 : Int32))), .val (.double (own_sc p4)), .second, .val (.int (p1 &&& (3 : Int32))), .unset, .unset, .unset, .unset, .unset, .unset, .unset, .unset, .unset, .unset, .unset, .unset, .unset, .unset, .unset, .unset, .unset, .unset, .unset] [(.long (4503599627370496 : Int64))])) _
    refine XS.lloadN X5.here hx rfl (hb hby at_21) rfl ?_
    show Steps p.tables e below (T5.setTop (mkF m 22 #[.val (.int p1), .val (.long q2), .second, .val (.int p3), .val (.int p4), .val (.int (p4 &&& (3 : Int32))), .val (.double (own_sc p4)), .second, .val (.int (p1 &&& (3 : Int32))), .unset, .unset, .unset, .unset, .unset, .unset, .unset, .unset, .unset, .unset, .unset, .unset, .unset, .unset, .unset, .unset, .unset, .unset, .unset] [(.long q2), (.long (4503599627370496 : Int64))])) _
    refine X5.ldc2Long hx hown (mvT hZ (hw _ (List.mem_of_getElem? (i := 5) rfl))) (g := (mkF m 22 #[.val (.int p1), .val (.long q2), .second, .val (.int p3), .val (.int p4), .val (.int (p4 &&& (3 : Int32))), .val (.double (own_sc p4)), .second, .val (.int (p1 &&& (3 : Int32))), .unset, .unset, .unset, .unset, .unset, .unset, .unset, .unset, .unset, .unset, .unset, .unset, .unset, .unset, .unset, .unset, .unset, .unset, .unset] [(.long q2), (.long (4503599627370496 : Int64))])) rfl (hb hby at_22) _ ?_
    show Steps p.tables e below (T5.setTop (mkF m 25 #[.val (.int p1), .val (.long q2), .second, .val (.int p3), .val (.int p4), .val (.int (p4 &&& (3 : Int32))), .val (.double (own_sc p4)), .second, .val (.int (p1 &&& (3 : Int32))), .unset, .unset, .unset, .unset, .unset, .unset, .unset, .unset, .unset, .unset, .unset, .unset, .unset, .unset, .unset, .unset, .unset, .unset, .unset] [(.long (2251799813685247 : Int64)), (.long q2), (.long (4503599627370496 : Int64))])) _
    refine XS.land X5.here hx rfl (hb hby at_25) rfl ?_
    refine XS.lor X5.here hx rfl (hb hby at_26) rfl ?_
    show Steps p.tables e below (T5.setTop (mkF m 27 #[.val (.int p1), .val (.long q2), .second, .val (.int p3), .val (.int p4), .val (.int (p4 &&& (3 : Int32))), .val (.double (own_sc p4)), .second, .val (.int (p1 &&& (3 : Int32))), .unset, .unset, .unset, .unset, .unset, .unset, .unset, .unset, .unset, .unset, .unset, .unset, .unset, .unset, .unset, .unset, .unset, .unset, .unset] [(.long (own_H q2))])) _
    refine XS.lstore X5.here hx rfl (hb hby at_27) rfl (l' := #[.val (.int p1), .val (.long q2), .second, .val (.int p3), .val (.int p4), .val (.int (p4 &&& (3 : Int32))), .val (.double (own_sc p4)), .second, .val (.int (p1 &&& (3 : Int32))), .val (.long (own_H q2)), .second, .unset, .unset, .unset, .unset, .unset, .unset, .unset, .unset, .unset, .unset, .unset, .unset, .unset, .unset, .unset, .unset, .unset]) rfl ?_
    refine XS.iload X5.here hx rfl (hb hby at_29) rfl ?_
    show Steps p.tables e below (T5.setTop (mkF m 31 #[.val (.int p1), .val (.long q2), .second, .val (.int p3), .val (.int p4), .val (.int (p4 &&& (3 : Int32))), .val (.double (own_sc p4)), .second, .val (.int (p1 &&& (3 : Int32))), .val (.long (own_H q2)), .second, .unset, .unset, .unset, .unset, .unset, .unset, .unset, .unset, .unset, .unset, .unset, .unset, .unset, .unset, .unset, .unset, .unset] [(.int (p1 &&& (3 : Int32)))])) _
    refine XS.ifYes X5.here hx rfl (pc0 := 31) (pc' := 173) rfl (hb hby at_31) rfl ((if0 _ _).trans (feq hc31).2) (by decide) (by decide) ?_
    refine XS.iload X5.here hx rfl (hb hby at_173) rfl ?_
    show Steps p.tables e below (T5.setTop (mkF m 175 #[.val (.int p1), .val (.long q2), .second, .val (.int p3), .val (.int p4), .val (.int (p4 &&& (3 : Int32))), .val (.double (own_sc p4)), .second, .val (.int (p1 &&& (3 : Int32))), .val (.long (own_H q2)), .second, .unset, .unset, .unset, .unset, .unset, .unset, .unset, .unset, .unset, .unset, .unset, .unset, .unset, .unset, .unset, .unset, .unset] [(.int (p1 &&& (3 : Int32)))])) _
    refine XS.iconst X5.here hx rfl (hb hby at_175) ?_
    refine XS.icmpNo X5.here hx rfl (hb hby at_176) rfl (teq hc176).2 ?_
    show Steps p.tables e below (T5.setTop (mkF m 179 #[.val (.int p1), .val (.long q2), .second, .val (.int p3), .val (.int p4), .val (.int (p4 &&& (3 : Int32))), .val (.double (own_sc p4)), .second, .val (.int (p1 &&& (3 : Int32))), .val (.long (own_H q2)), .second, .unset, .unset, .unset, .unset, .unset, .unset, .unset, .unset, .unset, .unset, .unset, .unset, .unset, .unset, .unset, .unset, .unset] [])) _
    refine XS.iloadN X5.here hx rfl (hb hby at_179) rfl ?_
    refine XS.iconst X5.here hx rfl (hb hby at_180) ?_
    show Steps p.tables e below (T5.setTop (mkF m 181 #[.val (.int p1), .val (.long q2), .second, .val (.int p3), .val (.int p4), .val (.int (p4 &&& (3 : Int32))), .val (.double (own_sc p4)), .second, .val (.int (p1 &&& (3 : Int32))), .val (.long (own_H q2)), .second, .unset, .unset, .unset, .unset, .unset, .unset, .unset, .unset, .unset, .unset, .unset, .unset, .unset, .unset, .unset, .unset, .unset] [(.int (4 : Int32)), (.int p1)])) _
    refine XS.iand X5.here hx rfl (hb hby at_181) rfl ?_
    refine XS.ifNo X5.here hx rfl (hb hby at_182) rfl ((if0 _ _).trans (feq hc182).1) ?_
    show Steps p.tables e below (T5.setTop (mkF m 185 #[.val (.int p1), .val (.long q2), .second, .val (.int p3), .val (.int p4), .val (.int (p4 &&& (3 : Int32))), .val (.double (own_sc p4)), .second, .val (.int (p1 &&& (3 : Int32))), .val (.long (own_H q2)), .second, .unset, .unset, .unset, .unset, .unset, .unset, .unset, .unset, .unset, .unset, .unset, .unset, .unset, .unset, .unset, .unset, .unset] [])) _
    refine X5.ldc2DoubleC hx hown (mvT hZ (hw _ (List.mem_of_getElem? (i := 18) rfl))) (g := (mkF m 185 #[.val (.int p1), .val (.long q2), .second, .val (.int p3), .val (.int p4), .val (.int (p4 &&& (3 : Int32))), .val (.double (own_sc p4)), .second, .val (.int (p1 &&& (3 : Int32))), .val (.long (own_H q2)), .second, .unset, .unset, .unset, .unset, .unset, .unset, .unset, .unset, .unset, .unset, .unset, .unset, .unset, .unset, .unset, .unset, .unset] [])) rfl (hb hby at_185) _ ?_
    show Steps p.tables e below (T5.setTop (mkF m 188 #[.val (.int p1), .val (.long q2), .second, .val (.int p3), .val (.int p4), .val (.int (p4 &&& (3 : Int32))), .val (.double (own_sc p4)), .second, .val (.int (p1 &&& (3 : Int32))), .val (.long (own_H q2)), .second, .unset, .unset, .unset, .unset, .unset, .unset, .unset, .unset, .unset, .unset, .unset, .unset, .unset, .unset, .unset, .unset, .unset] [(.double (9223372036854775808 : UInt64))])) _
    refine XS.goto X5.here hx rfl (pc0 := 188) (pc' := 192) rfl (hb hby at_188) (by decide) (by decide) ?_
    refine XS.dstore X5.here hx rfl (hb hby at_192) rfl (l' := #[.val (.int p1), .val (.long q2), .second, .val (.int p3), .val (.int p4), .val (.int (p4 &&& (3 : Int32))), .val (.double (own_sc p4)), .second, .val (.int (p1 &&& (3 : Int32))), .val (.long (own_H q2)), .second, .val (.double (9223372036854775808 : UInt64)), .second, .unset, .unset, .unset, .unset, .unset, .unset, .unset, .unset, .unset, .unset, .unset, .unset, .unset, .unset, .unset]) rfl ?_
    show Steps p.tables e below (T5.setTop (mkF m 194 #[.val (.int p1), .val (.long q2), .second, .val (.int p3), .val (.int p4), .val (.int (p4 &&& (3 : Int32))), .val (.double (own_sc p4)), .second, .val (.int (p1 &&& (3 : Int32))), .val (.long (own_H q2)), .second, .val (.double (9223372036854775808 : UInt64)), .second, .unset, .unset, .unset, .unset, .unset, .unset, .unset, .unset, .unset, .unset, .unset, .unset, .unset, .unset, .unset] [])) _
    refine XS.lloadN X5.here hx rfl (hb hby at_194) rfl ?_
    show Steps p.tables e below (T5.setTop (mkF m 195 #[.val (.int p1), .val (.long q2), .second, .val (.int p3), .val (.int p4), .val (.int (p4 &&& (3 : Int32))), .val (.double (own_sc p4)), .second, .val (.int (p1 &&& (3 : Int32))), .val (.long (own_H q2)), .second, .val (.double (9223372036854775808 : UInt64)), .second, .unset, .unset, .unset, .unset, .unset, .unset, .unset, .unset, .unset, .unset, .unset, .unset, .unset, .unset, .unset] [(.long q2)])) _
    refine X5.ldc2Long hx hown (mvT hZ (hw _ (List.mem_of_getElem? (i := 16) rfl))) (g := (mkF m 195 #[.val (.int p1), .val (.long q2), .second, .val (.int p3), .val (.int p4), .val (.int (p4 &&& (3 : Int32))), .val (.double (own_sc p4)), .second, .val (.int (p1 &&& (3 : Int32))), .val (.long (own_H q2)), .second, .val (.double (9223372036854775808 : UInt64)), .second, .unset, .unset, .unset, .unset, .unset, .unset, .unset, .unset, .unset, .unset, .unset, .unset, .unset, .unset, .unset] [(.long q2)])) rfl (hb hby at_195) _ ?_
    show Steps p.tables e below (T5.setTop (mkF m 198 #[.val (.int p1), .val (.long q2), .second, .val (.int p3), .val (.int p4), .val (.int (p4 &&& (3 : Int32))), .val (.double (own_sc p4)), .second, .val (.int (p1 &&& (3 : Int32))), .val (.long (own_H q2)), .second, .val (.double (9223372036854775808 : UInt64)), .second, .unset, .unset, .unset, .unset, .unset, .unset, .unset, .unset, .unset, .unset, .unset, .unset, .unset, .unset, .unset] [(.long (9007199254740992 : Int64)), (.long q2)])) _
    refine XS.lrem X5.here hx rfl (hb hby at_198) rfl hnz198 ?_
    refine XS.lstore X5.here hx rfl (hb hby at_199) rfl (l' := #[.val (.int p1), .val (.long q2), .second, .val (.int p3), .val (.int p4), .val (.int (p4 &&& (3 : Int32))), .val (.double (own_sc p4)), .second, .val (.int (p1 &&& (3 : Int32))), .val (.long (own_H q2)), .second, .val (.double (9223372036854775808 : UInt64)), .second, .val (.long (own_k q2)), .second, .unset, .unset, .unset, .unset, .unset, .unset, .unset, .unset, .unset, .unset, .unset, .unset, .unset]) rfl ?_
    show Steps p.tables e below (T5.setTop (mkF m 201 #[.val (.int p1), .val (.long q2), .second, .val (.int p3), .val (.int p4), .val (.int (p4 &&& (3 : Int32))), .val (.double (own_sc p4)), .second, .val (.int (p1 &&& (3 : Int32))), .val (.long (own_H q2)), .second, .val (.double (9223372036854775808 : UInt64)), .second, .val (.long (own_k q2)), .second, .unset, .unset, .unset, .unset, .unset, .unset, .unset, .unset, .unset, .unset, .unset, .unset, .unset] [])) _
    refine XS.lload X5.here hx rfl (hb hby at_201) rfl ?_
    refine XS.l2dS X5.here hx rfl (hb hby at_203) rfl rfl ?_
    show Steps p.tables e below (T5.setTop (mkF m 204 #[.val (.int p1), .val (.long q2), .second, .val (.int p3), .val (.int p4), .val (.int (p4 &&& (3 : Int32))), .val (.double (own_sc p4)), .second, .val (.int (p1 &&& (3 : Int32))), .val (.long (own_H q2)), .second, .val (.double (9223372036854775808 : UInt64)), .second, .val (.long (own_k q2)), .second, .unset, .unset, .unset, .unset, .unset, .unset, .unset, .unset, .unset, .unset, .unset, .unset, .unset] [(.double (FP.l2d (own_k q2)))])) _
    refine XS.dload X5.here hx rfl (hb hby at_204) rfl ?_
    refine XS.dmulS X5.here hx rfl (hb hby at_206) rfl hnn206 rfl ?_
    show Steps p.tables e below (T5.setTop (mkF m 207 #[.val (.int p1), .val (.long q2), .second, .val (.int p3), .val (.int p4), .val (.int (p4 &&& (3 : Int32))), .val (.double (own_sc p4)), .second, .val (.int (p1 &&& (3 : Int32))), .val (.long (own_H q2)), .second, .val (.double (9223372036854775808 : UInt64)), .second, .val (.long (own_k q2)), .second, .unset, .unset, .unset, .unset, .unset, .unset, .unset, .unset, .unset, .unset, .unset, .unset, .unset] [(.double (FP.dmul (FP.l2d (own_k q2)) (own_sc p4)))])) _
    refine XS.dstore X5.here hx rfl (hb hby at_207) rfl (l' := #[.val (.int p1), .val (.long q2), .second, .val (.int p3), .val (.int p4), .val (.int (p4 &&& (3 : Int32))), .val (.double (own_sc p4)), .second, .val (.int (p1 &&& (3 : Int32))), .val (.long (own_H q2)), .second, .val (.double (9223372036854775808 : UInt64)), .second, .val (.long (own_k q2)), .second, .val (.double (FP.dmul (FP.l2d (own_k q2)) (own_sc p4))), .second, .unset, .unset, .unset, .unset, .unset, .unset, .unset, .unset, .unset, .unset, .unset]) rfl ?_
    refine XS.iload X5.here hx rfl (hb hby at_209) rfl ?_
    show Steps p.tables e below (T5.setTop (mkF m 211 #[.val (.int p1), .val (.long q2), .second, .val (.int p3), .val (.int p4), .val (.int (p4 &&& (3 : Int32))), .val (.double (own_sc p4)), .second, .val (.int (p1 &&& (3 : Int32))), .val (.long (own_H q2)), .second, .val (.double (9223372036854775808 : UInt64)), .second, .val (.long (own_k q2)), .second, .val (.double (FP.dmul (FP.l2d (own_k q2)) (own_sc p4))), .second, .unset, .unset, .unset, .unset, .unset, .unset, .unset, .unset, .unset, .unset, .unset] [(.int (p4 &&& (3 : Int32)))])) _
    refine XS.iconst X5.here hx rfl (hb hby at_211) ?_
    refine XS.icmpNo X5.here hx rfl (hb hby at_212) rfl (teq hc212).2 ?_
    show Steps p.tables e below (T5.setTop (mkF m 215 #[.val (.int p1), .val (.long q2), .second, .val (.int p3), .val (.int p4), .val (.int (p4 &&& (3 : Int32))), .val (.double (own_sc p4)), .second, .val (.int (p1 &&& (3 : Int32))), .val (.long (own_H q2)), .second, .val (.double (9223372036854775808 : UInt64)), .second, .val (.long (own_k q2)), .second, .val (.double (FP.dmul (FP.l2d (own_k q2)) (own_sc p4))), .second, .unset, .unset, .unset, .unset, .unset, .unset, .unset, .unset, .unset, .unset, .unset] [])) _
    refine XS.lload X5.here hx rfl (hb hby at_215) rfl ?_
    show Steps p.tables e below (T5.setTop (mkF m 217 #[.val (.int p1), .val (.long q2), .second, .val (.int p3), .val (.int p4), .val (.int (p4 &&& (3 : Int32))), .val (.double (own_sc p4)), .second, .val (.int (p1 &&& (3 : Int32))), .val (.long (own_H q2)), .second, .val (.double (9223372036854775808 : UInt64)), .second, .val (.long (own_k q2)), .second, .val (.double (FP.dmul (FP.l2d (own_k q2)) (own_sc p4))), .second, .unset, .unset, .unset, .unset, .unset, .unset, .unset, .unset, .unset, .unset, .unset] [(.long (own_k q2))])) _
    refine X5.ldc2Long hx hown (mvT hZ (hw _ (List.mem_of_getElem? (i := 4) rfl))) (g := (mkF m 217 #[.val (.int p1), .val (.long q2), .second, .val (.int p3), .val (.int p4), .val (.int (p4 &&& (3 : Int32))), .val (.double (own_sc p4)), .second, .val (.int (p1 &&& (3 : Int32))), .val (.long (own_H q2)), .second, .val (.double (9223372036854775808 : UInt64)), .second, .val (.long (own_k q2)), .second, .val (.double (FP.dmul (FP.l2d (own_k q2)) (own_sc p4))), .second, .unset, .unset, .unset, .unset, .unset, .unset, .unset, .unset, .unset, .unset, .unset] [(.long (own_k q2))])) rfl (hb hby at_217) _ ?_
    show Steps p.tables e below (T5.setTop (mkF m 220 #[.val (.int p1), .val (.long q2), .second, .val (.int p3), .val (.int p4), .val (.int (p4 &&& (3 : Int32))), .val (.double (own_sc p4)), .second, .val (.int (p1 &&& (3 : Int32))), .val (.long (own_H q2)), .second, .val (.double (9223372036854775808 : UInt64)), .second, .val (.long (own_k q2)), .second, .val (.double (FP.dmul (FP.l2d (own_k q2)) (own_sc p4))), .second, .unset, .unset, .unset, .unset, .unset, .unset, .unset, .unset, .unset, .unset, .unset] [(.long (4503599627370496 : Int64)), (.long (own_k q2))])) _
    refine XS.lcmp X5.here hx rfl (hb hby at_220) rfl ?_
    refine XS.ifYes X5.here hx rfl (pc0 := 221) (pc' := 228) rfl (hb hby at_221) rfl ((if0 _ _).trans (tlt hc221).1) (by decide) (by decide) ?_
    show Steps p.tables e below (T5.setTop (mkF m 228 #[.val (.int p1), .val (.long q2), .second, .val (.int p3), .val (.int p4), .val (.int (p4 &&& (3 : Int32))), .val (.double (own_sc p4)), .second, .val (.int (p1 &&& (3 : Int32))), .val (.long (own_H q2)), .second, .val (.double (9223372036854775808 : UInt64)), .second, .val (.long (own_k q2)), .second, .val (.double (FP.dmul (FP.l2d (own_k q2)) (own_sc p4))), .second, .unset, .unset, .unset, .unset, .unset, .unset, .unset, .unset, .unset, .unset, .unset] [])) _
    refine XS.iconst X5.here hx rfl (hb hby at_228) ?_
    refine XS.goto X5.here hx rfl (pc0 := 229) (pc' := 244) rfl (hb hby at_229) (by decide) (by decide) ?_
    show Steps p.tables e below (T5.setTop (mkF m 244 #[.val (.int p1), .val (.long q2), .second, .val (.int p3), .val (.int p4), .val (.int (p4 &&& (3 : Int32))), .val (.double (own_sc p4)), .second, .val (.int (p1 &&& (3 : Int32))), .val (.long (own_H q2)), .second, .val (.double (9223372036854775808 : UInt64)), .second, .val (.long (own_k q2)), .second, .val (.double (FP.dmul (FP.l2d (own_k q2)) (own_sc p4))), .second, .unset, .unset, .unset, .unset, .unset, .unset, .unset, .unset, .unset, .unset, .unset] [(.int (0 : Int32))])) _
    refine XS.istore X5.here hx rfl (hb hby at_244) rfl (l' := #[.val (.int p1), .val (.long q2), .second, .val (.int p3), .val (.int p4), .val (.int (p4 &&& (3 : Int32))), .val (.double (own_sc p4)), .second, .val (.int (p1 &&& (3 : Int32))), .val (.long (own_H q2)), .second, .val (.double (9223372036854775808 : UInt64)), .second, .val (.long (own_k q2)), .second, .val (.double (FP.dmul (FP.l2d (own_k q2)) (own_sc p4))), .second, .val (.int (0 : Int32)), .unset, .unset, .unset, .unset, .unset, .unset, .unset, .unset, .unset, .unset]) rfl ?_
    refine XS.dload X5.here hx rfl (hb hby at_246) rfl ?_
    show Steps p.tables e below (T5.setTop (mkF m 248 #[.val (.int p1), .val (.long q2), .second, .val (.int p3), .val (.int p4), .val (.int (p4 &&& (3 : Int32))), .val (.double (own_sc p4)), .second, .val (.int (p1 &&& (3 : Int32))), .val (.long (own_H q2)), .second, .val (.double (9223372036854775808 : UInt64)), .second, .val (.long (own_k q2)), .second, .val (.double (FP.dmul (FP.l2d (own_k q2)) (own_sc p4))), .second, .val (.int (0 : Int32)), .unset, .unset, .unset, .unset, .unset, .unset, .unset, .unset, .unset, .unset] [(.double (FP.dmul (FP.l2d (own_k q2)) (own_sc p4)))])) _
    refine XS.dload X5.here hx rfl (hb hby at_248) rfl ?_
    show Steps p.tables e below (T5.setTop (mkF m 250 #[.val (.int p1), .val (.long q2), .second, .val (.int p3), .val (.int p4), .val (.int (p4 &&& (3 : Int32))), .val (.double (own_sc p4)), .second, .val (.int (p1 &&& (3 : Int32))), .val (.long (own_H q2)), .second, .val (.double (9223372036854775808 : UInt64)), .second, .val (.long (own_k q2)), .second, .val (.double (FP.dmul (FP.l2d (own_k q2)) (own_sc p4))), .second, .val (.int (0 : Int32)), .unset, .unset, .unset, .unset, .unset, .unset, .unset, .unset, .unset, .unset] [(.double (9223372036854775808 : UInt64)), (.double (FP.dmul (FP.l2d (own_k q2)) (own_sc p4)))])) _
    refine st6 _ ?_
    show Steps p.tables e below (T6.setTop (mkF m 253 #[.val (.int p1), .val (.long q2), .second, .val (.int p3), .val (.int p4), .val (.int (p4 &&& (3 : Int32))), .val (.double (own_sc p4)), .second, .val (.int (p1 &&& (3 : Int32))), .val (.long (own_H q2)), .second, .val (.double (9223372036854775808 : UInt64)), .second, .val (.long (own_k q2)), .second, .val (.double (FP.dmul (FP.l2d (own_k q2)) (own_sc p4))), .second, .val (.int (0 : Int32)), .unset, .unset, .unset, .unset, .unset, .unset, .unset, .unset, .unset, .unset] [(.int (own_ich (FP.dmul (FP.l2d (own_k q2)) (own_sc p4)) (9223372036854775808 : UInt64)))])) _
    refine XS.iload X6.here hx rfl (hb hby at_253) rfl ?_
    refine XS.icmpNo X6.here hx rfl (hb hby at_255) rfl (teq (own_k1a own_z_neg hc212 hc221 : (own_ich (FP.dmul (FP.l2d (own_k q2)) (own_sc p4)) (9223372036854775808 : UInt64)) = (0 : Int32))).2 ?_
    show Steps p.tables e below (T6.setTop (mkF m 258 #[.val (.int p1), .val (.long q2), .second, .val (.int p3), .val (.int p4), .val (.int (p4 &&& (3 : Int32))), .val (.double (own_sc p4)), .second, .val (.int (p1 &&& (3 : Int32))), .val (.long (own_H q2)), .second, .val (.double (9223372036854775808 : UInt64)), .second, .val (.long (own_k q2)), .second, .val (.double (FP.dmul (FP.l2d (own_k q2)) (own_sc p4))), .second, .val (.int (0 : Int32)), .unset, .unset, .unset, .unset, .unset, .unset, .unset, .unset, .unset, .unset] [])) _
    refine XS.iconst X6.here hx rfl (hb hby at_258) ?_
    refine XS.goto X6.here hx rfl (pc0 := 259) (pc' := 263) rfl (hb hby at_259) (by decide) (by decide) ?_
    show Steps p.tables e below (T6.setTop (mkF m 263 #[.val (.int p1), .val (.long q2), .second, .val (.int p3), .val (.int p4), .val (.int (p4 &&& (3 : Int32))), .val (.double (own_sc p4)), .second, .val (.int (p1 &&& (3 : Int32))), .val (.long (own_H q2)), .second, .val (.double (9223372036854775808 : UInt64)), .second, .val (.long (own_k q2)), .second, .val (.double (FP.dmul (FP.l2d (own_k q2)) (own_sc p4))), .second, .val (.int (0 : Int32)), .unset, .unset, .unset, .unset, .unset, .unset, .unset, .unset, .unset, .unset] [(.int (1 : Int32))])) _
    exact retN X6 hx (t := .boolean) Bd.returns (by simp) (hb hby at_263) hr
  · show Q0 Z p1 q2 p3 p4 h0 n0 _ T6.heap _
    exact ⟨rfl, N6⟩
set_option maxRecDepth 65536 in
set_option maxHeartbeats 40000000 in
theorem rm0_bnb (l : Launch) (Z : State) (a0 : Array Value) (hw : ∀ d ∈ tables_1, d.before a0 Z = true) (ws : List Jvm.Cond) (p1 : Int32) (q2 : Int64) (p3 : Int32) (p4 : Int32) (h0 : Heap) (n0 : Nat) (Z0 : n0 ≤ h0.size) (hc31 : ¬ ((p1 &&& (3 : Int32)) = (0 : Int32))) (hc176 : (p1 &&& (3 : Int32)) = (1 : Int32)) (hc182 : ¬ ((p1 &&& (4 : Int32)) = (0 : Int32))) (hc212 : (p4 &&& (3 : Int32)) = (1 : Int32)) (hc221 : ¬ ((lcmpW (own_k q2) (4503599627370496 : Int64)) < (0 : Int32))) :
    MetFree l x (head1 (Jvm.Cond.code x code maxLocals ret :: ws) room_1) (fun a U => a = #[(.int p1), (.long q2), (.int p3), (.int p4)] ∧ Z.Warmed39 U.vm ∧ U.heap = h0) (fun _ _ _ _ _ => True) (fun _ U o U' => ∃ v L, o = .returned v ∧ Q0 Z p1 q2 p3 p4 h0 n0 v U'.heap L ∧ FrameEnd U o U' L room_1.cells room_1.slots) := by
  have hnz198 : ¬ ((9007199254740992 : Int64) = (0 : Int64)) := by decide
  have hnn206 : Jvm.Free.Fl.NoNaN64 (FP.dmul (FP.l2d (own_k q2)) (own_sc p4)) := own_nn _ _
  refine MetFree.of_bodySF (plainFor_of_name pn_0) hisR ?_
  intro p e s m args below meth c s₁ Bd hml0 hP hK
  obtain ⟨rfl, hZ, hh⟩ := hP
  have hx := Bd.exec
  have hby := Bd.bytes
  have hml : c.maxLocals = 28 := hml0
  have hown : s.vm.findClass "com/example/level_ring/levelring/placement/MembersIsCertainlyHigherPinLaw" = some m.cls := findClass_of_methodNamed Bd.named
  have hnm := (name_of_methodNamed Bd.named Bd.method).1
  have X0 : Stand p l e room_1 s m #[(.int p1), (.long q2), (.int p3), (.int p4)] below meth c s₁ [] 0 0 := Stand.of_body Bd
  have e0 : s₁.heap = h0 := by rw [← hh, Bd.state]; rfl
  have N0 := Fr.nil n0
  have pre0 : ∀ t, Steps p.tables e below (s₁.setTop (mkF m 0 #[.val (.int p1), .val (.long q2), .second, .val (.int p3), .val (.int p4), .unset, .unset, .unset, .unset, .unset, .unset, .unset, .unset, .unset, .unset, .unset, .unset, .unset, .unset, .unset, .unset, .unset, .unset, .unset, .unset, .unset, .unset, .unset] [])) t → Steps p.tables e below (s₁.setTop (entryFrame m #[(.int p1), (.long q2), (.int p3), (.int p4)] maxLocals)) t := fun t k => castTop (ef_0 m p1 q2 p3 p4) k
  -- 3. LAWS
  -- pc 8: com/example/level_ring/levelring/placement/MembersIsCertainlyHigherPinLaw.scaleOf by its contract rm1
  obtain ⟨_, _, ⟨T5, L5, k5, n5⟩, -, X5, ⟨Lc5, hQ5, l5, y5, z5⟩, st5⟩ := Jvm.LawKit.callS X0 hx (y := (⟨"com/example/level_ring/levelring/placement/MembersIsCertainlyHigherPinLaw", "scaleOf", "(I)D"⟩ : MethodName)) hown (mvT hZ (hw _ (List.mem_of_getElem? (i := 0) rfl))) (mvT hZ (hw _ (List.mem_of_getElem? (i := 1) rfl))) (mvT hZ (hw _ (List.mem_of_getElem? (i := 2) rfl))) (mvT hZ (hw _ (List.mem_of_getElem? (i := 3) rfl))) (by decide) (backOf (W := 0) (rm1 l Z a0 hw [] (p4 &&& (3 : Int32))  h0 n0 Z0) hZ (hw _ (List.mem_of_getElem? (i := 3) rfl)) (hw _ (List.mem_of_getElem? (i := 2) rfl)) (by decide) (by decide)) (g := (mkF m 8 #[.val (.int p1), .val (.long q2), .second, .val (.int p3), .val (.int p4), .val (.int (p4 &&& (3 : Int32))), .unset, .unset, .unset, .unset, .unset, .unset, .unset, .unset, .unset, .unset, .unset, .unset, .unset, .unset, .unset, .unset, .unset, .unset, .unset, .unset, .unset, .unset] [(.int (p4 &&& (3 : Int32)))])) rfl (by rw [hml]; rfl) (argsL := [(.int (p4 &&& (3 : Int32)))]) (rest := []) (lenOf pdw_0 rfl) rfl (by show 2 * 0 + _ ≤ _; exact Nat.le_of_eq rfl) (hb hby at_8) (fun _ _ => ⟨rfl, e0, (by decide : 0 + 0 ≤ _), (by decide : 0 + 0 ≤ _)⟩)
  dsimp only [Pt.U, Pt.locs, Pt.cells, Pt.slots] at X5 l5 y5 z5 st5 hQ5
  subst l5 y5 z5
  obtain ⟨rfl, N5q, hh5⟩ := hQ5
  have N5 := Fr.app N0 N5q
  -- pc 250: com/example/level_ring/levelring/placement/Members.isCertainlyHigher by its contract rm2
  obtain ⟨_, _, ⟨T6, L6, k6, n6⟩, -, X6, ⟨Lc6, hQ6, l6, y6, z6⟩, st6⟩ := Jvm.LawKit.callS X5 hx (y := (⟨"com/example/level_ring/levelring/placement/Members", "isCertainlyHigher", "(DD)Z"⟩ : MethodName)) hown (mvT hZ (hw _ (List.mem_of_getElem? (i := 8) rfl))) (mvT hZ (hw _ (List.mem_of_getElem? (i := 9) rfl))) (mvT hZ (hw _ (List.mem_of_getElem? (i := 10) rfl))) (mvT hZ (hw _ (List.mem_of_getElem? (i := 11) rfl))) (by decide) (backOf (W := 0) (rm2 l Z a0 hw [] (FP.dmul (FP.l2d (own_k q2)) (own_sc p4)) (9223372036854775808 : UInt64)  h0 n0 Z0 (dmul_out (by unfold Fin64; decide +kernel) own_C_fin)) hZ (hw _ (List.mem_of_getElem? (i := 11) rfl)) (hw _ (List.mem_of_getElem? (i := 10) rfl)) (by decide) (by decide)) (g := (mkF m 250 #[.val (.int p1), .val (.long q2), .second, .val (.int p3), .val (.int p4), .val (.int (p4 &&& (3 : Int32))), .val (.double (own_sc p4)), .second, .val (.int (p1 &&& (3 : Int32))), .val (.long (own_H q2)), .second, .val (.double (9223372036854775808 : UInt64)), .second, .val (.long (own_k q2)), .second, .val (.double (FP.dmul (FP.l2d (own_k q2)) (own_sc p4))), .second, .val (.int (1 : Int32)), .unset, .unset, .unset, .unset, .unset, .unset, .unset, .unset, .unset, .unset] [(.double (9223372036854775808 : UInt64)), (.double (FP.dmul (FP.l2d (own_k q2)) (own_sc p4)))])) rfl (by rw [hml]; rfl) (argsL := [(.double (FP.dmul (FP.l2d (own_k q2)) (own_sc p4))), (.double (9223372036854775808 : UInt64))]) (rest := []) (lenOf pdw_1 rfl) rfl (by show 2 * 0 + _ ≤ _; exact Nat.le_of_eq rfl) (hb hby at_250) (fun _ _ => ⟨rfl, hh5, (by decide : 0 + 0 ≤ _), (by decide : 0 + 0 ≤ _)⟩)
  dsimp only [Pt.U, Pt.locs, Pt.cells, Pt.slots] at X6 l6 y6 z6 st6 hQ6
  subst l6 y6 z6
  obtain ⟨rfl, N6q, hh6⟩ := hQ6
  have N6 := Fr.app N5 N6q
  obtain ⟨fs, hr, hrun, hended, hW, hsame⟩ := X6.leave (v := some (.int (1 : Int32))) (fun h => by rw [Bd.returns] at h; cases h)
  refine ⟨_, _, pre0 _ ?_, hrun, hended, _, _, rfl, ?_, ⟨_, rfl⟩, hW, hsame.mono (by decide) (by decide)⟩
  -- 4. STEPS
  · show Steps p.tables e below (s₁.setTop (mkF m 0 #[.val (.int p1), .val (.long q2), .second, .val (.int p3), .val (.int p4), .unset, .unset, .unset, .unset, .unset, .unset, .unset, .unset, .unset, .unset, .unset, .unset, .unset, .unset, .unset, .unset, .unset, .unset, .unset, .unset, .unset, .unset, .unset] [])) _
    refine XS.iload X0.here hx rfl (hb hby at_0) rfl ?_
    refine XS.iconst X0.here hx rfl (hb hby at_2) ?_
    show Steps p.tables e below (s₁.setTop (mkF m 3 #[.val (.int p1), .val (.long q2), .second, .val (.int p3), .val (.int p4), .unset, .unset, .unset, .unset, .unset, .unset, .unset, .unset, .unset, .unset, .unset, .unset, .unset, .unset, .unset, .unset, .unset, .unset, .unset, .unset, .unset, .unset, .unset] [(.int (3 : Int32)), (.int p4)])) _
    refine XS.iand X0.here hx rfl (hb hby at_3) rfl ?_
    refine XS.istore X0.here hx rfl (hb hby at_4) rfl (l' := #[.val (.int p1), .val (.long q2), .second, .val (.int p3), .val (.int p4), .val (.int (p4 &&& (3 : Int32))), .unset, .unset, .unset, .unset, .unset, .unset, .unset, .unset, .unset, .unset, .unset, .unset, .unset, .unset, .unset, .unset, .unset, .unset, .unset, .unset, .unset, .unset]) rfl ?_
    show Steps p.tables e below (s₁.setTop (mkF m 6 #[.val (.int p1), .val (.long q2), .second, .val (.int p3), .val (.int p4), .val (.int (p4 &&& (3 : Int32))), .unset, .unset, .unset, .unset, .unset, .unset, .unset, .unset, .unset, .unset, .unset, .unset, .unset, .unset, .unset, .unset, .unset, .unset, .unset, .unset, .unset, .unset] [])) _
    refine XS.iload X0.here hx rfl (hb hby at_6) rfl ?_
    show Steps p.tables e below (s₁.setTop (mkF m 8 #[.val (.int p1), .val (.long q2), .second, .val (.int p3), .val (.int p4), .val (.int (p4 &&& (3 : Int32))), .unset, .unset, .unset, .unset, .unset, .unset, .unset, .unset, .unset, .unset, .unset, .unset, .unset, .unset, .unset, .unset, .unset, .unset, .unset, .unset, .unset, .unset] [(.int (p4 &&& (3 : Int32)))])) _
    refine st5 _ ?_
    show Steps p.tables e below (T5.setTop (mkF m 11 #[.val (.int p1), .val (.long q2), .second, .val (.int p3), .val (.int p4), .val (.int (p4 &&& (3 : Int32))), .unset, .unset, .unset, .unset, .unset, .unset, .unset, .unset, .unset, .unset, .unset, .unset, .unset, .unset, .unset, .unset, .unset, .unset, .unset, .unset, .unset, .unset] [(.double (own_sc p4))])) _
    refine XS.dstore X5.here hx rfl (hb hby at_11) rfl (l' := #[.val (.int p1), .val (.long q2), .second, .val (.int p3), .val (.int p4), .val (.int (p4 &&& (3 : Int32))), .val (.double (own_sc p4)), .second, .unset, .unset, .unset, .unset, .unset, .unset, .unset, .unset, .unset, .unset, .unset, .unset, .unset, .unset, .unset, .unset, .unset, .unset, .unset, .unset]) rfl ?_
    refine XS.iloadN X5.here hx rfl (hb hby at_13) rfl ?_
    show Steps p.tables e below (T5.setTop (mkF m 14 #[.val (.int p1), .val (.long q2), .second, .val (.int p3), .val (.int p4), .val (.int (p4 &&& (3 : Int32))), .val (.double (own_sc p4)), .second, .unset, .unset, .unset, .unset, .unset, .unset, .unset, .unset, .unset, .unset, .unset, .unset, .unset, .unset, .unset, .unset, .unset, .unset, .unset, .unset] [(.int p1)])) _
    refine XS.iconst X5.here hx rfl (hb hby at_14) ?_
    refine XS.iand X5.here hx rfl (hb hby at_15) rfl ?_
    show Steps p.tables e below (T5.setTop (mkF m 16 #[.val (.int p1), .val (.long q2), .second, .val (.int p3), .val (.int p4), .val (.int (p4 &&& (3 : Int32))), .val (.double (own_sc p4)), .second, .unset, .unset, .unset, .unset, .unset, .unset, .unset, .unset, .unset, .unset, .unset, .unset, .unset, .unset, .unset, .unset, .unset, .unset, .unset, .unset] [(.int (p1 &&& (3 : Int32)))])) _
    refine XS.istore X5.here hx rfl (hb hby at_16) rfl (l' := #[.val (.int p1), .val (.long q2), .second, .val (.int p3), .val (.int p4), .val (.int (p4 &&& (3 : Int32))), .val (.double (own_sc p4)), .second, .val (.int (p1 &&& (3 : Int32))), .unset, .unset, .unset, .unset, .unset, .unset, .unset, .unset, .unset, .unset, .unset, .unset, .unset, .unset, .unset, .unset, .unset, .unset, .unset]) rfl ?_
    show Steps p.tables e below (T5.setTop (mkF m 18 #[.val (.int p1), .val (.long q2), .second, .val (.int p3), .val (.int p4), .val (.int (p4 &&& (3 : Int32))), .val (.double (own_sc p4)), .second, .val (.int (p1 &&& (3 : Int32))), .unset, .unset, .unset, .unset, .unset, .unset, .unset, .unset, .unset, .unset, .unset, .unset, .unset, .unset, .unset, .unset, .unset, .unset, .unset] [])) _
    refine X5.ldc2Long hx hown (mvT hZ (hw _ (List.mem_of_getElem? (i := 4) rfl))) (g := (mkF m 18 #[.val (.int p1), .val (.long q2), .second, .val (.int p3), .val (.int p4), .val (.int (p4 &&& (3 : Int32))), .val (.double (own_sc p4)), .second, .val (.int (p1 &&& (3 : Int32))), .unset, .unset, .unset, .unset, .unset, .unset, .unset, .unset, .unset, .unset, .unset, .unset, .unset, .unset, .unset, .unset, .unset, .unset, .unset] [])) rfl (hb hby at_18) _ ?_
    show Steps p.tables e below (T5.setTop (mkF m 21 #[.val (.int p1), .val (.long q2), .second, .val (.int p3), .val (.int p4), .val (.int (p4 &&& (3 : Int32))), .val (.double (own_sc p4)), .second, .val (.int (p1 &&& (3 : Int32))), .unset, .unset, .unset, .unset, .unset, .unset, .unset, .unset, .unset, .unset, .unset, .unset, .unset, .unset, .unset, .unset, .unset, .unset, .unset] [(.long (4503599627370496 : Int64))])) _
    refine XS.lloadN X5.here hx rfl (hb hby at_21) rfl ?_
    show Steps p.tables e below (T5.setTop (mkF m 22 #[.val (.int p1), .val (.long q2), .second, .val (.int p3), .val (.int p4), .val (.int (p4 &&& (3 : Int32))), .val (.double (own_sc p4)), .second, .val (.int (p1 &&& (3 : Int32))), .unset, .unset, .unset, .unset, .unset, .unset, .unset, .unset, .unset, .unset, .unset, .unset, .unset, .unset, .unset, .unset, .unset, .unset, .unset] [(.long q2), (.long (4503599627370496 : Int64))])) _
    refine X5.ldc2Long hx hown (mvT hZ (hw _ (List.mem_of_getElem? (i := 5) rfl))) (g := (mkF m 22 #[.val (.int p1), .val (.long q2), .second, .val (.int p3), .val (.int p4), .val (.int (p4 &&& (3 : Int32))), .val (.double (own_sc p4)), .second, .val (.int (p1 &&& (3 : Int32))), .unset, .unset, .unset, .unset, .unset, .unset, .unset, .unset, .unset, .unset, .unset, .unset, .unset, .unset, .unset, .unset, .unset, .unset, .unset] [(.long q2), (.long (4503599627370496 : Int64))])) rfl (hb hby at_22) _ ?_
    show Steps p.tables e below (T5.setTop (mkF m 25 #[.val (.int p1), .val (.long q2), .second, .val (.int p3), .val (.int p4), .val (.int (p4 &&& (3 : Int32))), .val (.double (own_sc p4)), .second, .val (.int (p1 &&& (3 : Int32))), .unset, .unset, .unset, .unset, .unset, .unset, .unset, .unset, .unset, .unset, .unset, .unset, .unset, .unset, .unset, .unset, .unset, .unset, .unset] [(.long (2251799813685247 : Int64)), (.long q2), (.long (4503599627370496 : Int64))])) _
    refine XS.land X5.here hx rfl (hb hby at_25) rfl ?_
    refine XS.lor X5.here hx rfl (hb hby at_26) rfl ?_
    show Steps p.tables e below (T5.setTop (mkF m 27 #[.val (.int p1), .val (.long q2), .second, .val (.int p3), .val (.int p4), .val (.int (p4 &&& (3 : Int32))), .val (.double (own_sc p4)), .second, .val (.int (p1 &&& (3 : Int32))), .unset, .unset, .unset, .unset, .unset, .unset, .unset, .unset, .unset, .unset, .unset, .unset, .unset, .unset, .unset, .unset, .unset, .unset, .unset] [(.long (own_H q2))])) _
    refine XS.lstore X5.here hx rfl (hb hby at_27) rfl (l' := #[.val (.int p1), .val (.long q2), .second, .val (.int p3), .val (.int p4), .val (.int (p4 &&& (3 : Int32))), .val (.double (own_sc p4)), .second, .val (.int (p1 &&& (3 : Int32))), .val (.long (own_H q2)), .second, .unset, .unset, .unset, .unset, .unset, .unset, .unset, .unset, .unset, .unset, .unset, .unset, .unset, .unset, .unset, .unset, .unset]) rfl ?_
    refine XS.iload X5.here hx rfl (hb hby at_29) rfl ?_
    show Steps p.tables e below (T5.setTop (mkF m 31 #[.val (.int p1), .val (.long q2), .second, .val (.int p3), .val (.int p4), .val (.int (p4 &&& (3 : Int32))), .val (.double (own_sc p4)), .second, .val (.int (p1 &&& (3 : Int32))), .val (.long (own_H q2)), .second, .unset, .unset, .unset, .unset, .unset, .unset, .unset, .unset, .unset, .unset, .unset, .unset, .unset, .unset, .unset, .unset, .unset] [(.int (p1 &&& (3 : Int32)))])) _
    refine XS.ifYes X5.here hx rfl (pc0 := 31) (pc' := 173) rfl (hb hby at_31) rfl ((if0 _ _).trans (feq hc31).2) (by decide) (by decide) ?_
    refine XS.iload X5.here hx rfl (hb hby at_173) rfl ?_
    show Steps p.tables e below (T5.setTop (mkF m 175 #[.val (.int p1), .val (.long q2), .second, .val (.int p3), .val (.int p4), .val (.int (p4 &&& (3 : Int32))), .val (.double (own_sc p4)), .second, .val (.int (p1 &&& (3 : Int32))), .val (.long (own_H q2)), .second, .unset, .unset, .unset, .unset, .unset, .unset, .unset, .unset, .unset, .unset, .unset, .unset, .unset, .unset, .unset, .unset, .unset] [(.int (p1 &&& (3 : Int32)))])) _
    refine XS.iconst X5.here hx rfl (hb hby at_175) ?_
    refine XS.icmpNo X5.here hx rfl (hb hby at_176) rfl (teq hc176).2 ?_
    show Steps p.tables e below (T5.setTop (mkF m 179 #[.val (.int p1), .val (.long q2), .second, .val (.int p3), .val (.int p4), .val (.int (p4 &&& (3 : Int32))), .val (.double (own_sc p4)), .second, .val (.int (p1 &&& (3 : Int32))), .val (.long (own_H q2)), .second, .unset, .unset, .unset, .unset, .unset, .unset, .unset, .unset, .unset, .unset, .unset, .unset, .unset, .unset, .unset, .unset, .unset] [])) _
    refine XS.iloadN X5.here hx rfl (hb hby at_179) rfl ?_
    refine XS.iconst X5.here hx rfl (hb hby at_180) ?_
    show Steps p.tables e below (T5.setTop (mkF m 181 #[.val (.int p1), .val (.long q2), .second, .val (.int p3), .val (.int p4), .val (.int (p4 &&& (3 : Int32))), .val (.double (own_sc p4)), .second, .val (.int (p1 &&& (3 : Int32))), .val (.long (own_H q2)), .second, .unset, .unset, .unset, .unset, .unset, .unset, .unset, .unset, .unset, .unset, .unset, .unset, .unset, .unset, .unset, .unset, .unset] [(.int (4 : Int32)), (.int p1)])) _
    refine XS.iand X5.here hx rfl (hb hby at_181) rfl ?_
    refine XS.ifNo X5.here hx rfl (hb hby at_182) rfl ((if0 _ _).trans (feq hc182).1) ?_
    show Steps p.tables e below (T5.setTop (mkF m 185 #[.val (.int p1), .val (.long q2), .second, .val (.int p3), .val (.int p4), .val (.int (p4 &&& (3 : Int32))), .val (.double (own_sc p4)), .second, .val (.int (p1 &&& (3 : Int32))), .val (.long (own_H q2)), .second, .unset, .unset, .unset, .unset, .unset, .unset, .unset, .unset, .unset, .unset, .unset, .unset, .unset, .unset, .unset, .unset, .unset] [])) _
    refine X5.ldc2DoubleC hx hown (mvT hZ (hw _ (List.mem_of_getElem? (i := 18) rfl))) (g := (mkF m 185 #[.val (.int p1), .val (.long q2), .second, .val (.int p3), .val (.int p4), .val (.int (p4 &&& (3 : Int32))), .val (.double (own_sc p4)), .second, .val (.int (p1 &&& (3 : Int32))), .val (.long (own_H q2)), .second, .unset, .unset, .unset, .unset, .unset, .unset, .unset, .unset, .unset, .unset, .unset, .unset, .unset, .unset, .unset, .unset, .unset] [])) rfl (hb hby at_185) _ ?_
    show Steps p.tables e below (T5.setTop (mkF m 188 #[.val (.int p1), .val (.long q2), .second, .val (.int p3), .val (.int p4), .val (.int (p4 &&& (3 : Int32))), .val (.double (own_sc p4)), .second, .val (.int (p1 &&& (3 : Int32))), .val (.long (own_H q2)), .second, .unset, .unset, .unset, .unset, .unset, .unset, .unset, .unset, .unset, .unset, .unset, .unset, .unset, .unset, .unset, .unset, .unset] [(.double (9223372036854775808 : UInt64))])) _
    refine XS.goto X5.here hx rfl (pc0 := 188) (pc' := 192) rfl (hb hby at_188) (by decide) (by decide) ?_
    refine XS.dstore X5.here hx rfl (hb hby at_192) rfl (l' := #[.val (.int p1), .val (.long q2), .second, .val (.int p3), .val (.int p4), .val (.int (p4 &&& (3 : Int32))), .val (.double (own_sc p4)), .second, .val (.int (p1 &&& (3 : Int32))), .val (.long (own_H q2)), .second, .val (.double (9223372036854775808 : UInt64)), .second, .unset, .unset, .unset, .unset, .unset, .unset, .unset, .unset, .unset, .unset, .unset, .unset, .unset, .unset, .unset]) rfl ?_
    show Steps p.tables e below (T5.setTop (mkF m 194 #[.val (.int p1), .val (.long q2), .second, .val (.int p3), .val (.int p4), .val (.int (p4 &&& (3 : Int32))), .val (.double (own_sc p4)), .second, .val (.int (p1 &&& (3 : Int32))), .val (.long (own_H q2)), .second, .val (.double (9223372036854775808 : UInt64)), .second, .unset, .unset, .unset, .unset, .unset, .unset, .unset, .unset, .unset, .unset, .unset, .unset, .unset, .unset, .unset] [])) _
    refine XS.lloadN X5.here hx rfl (hb hby at_194) rfl ?_
    show Steps p.tables e below (T5.setTop (mkF m 195 #[.val (.int p1), .val (.long q2), .second, .val (.int p3), .val (.int p4), .val (.int (p4 &&& (3 : Int32))), .val (.double (own_sc p4)), .second, .val (.int (p1 &&& (3 : Int32))), .val (.long (own_H q2)), .second, .val (.double (9223372036854775808 : UInt64)), .second, .unset, .unset, .unset, .unset, .unset, .unset, .unset, .unset, .unset, .unset, .unset, .unset, .unset, .unset, .unset] [(.long q2)])) _
    refine X5.ldc2Long hx hown (mvT hZ (hw _ (List.mem_of_getElem? (i := 16) rfl))) (g := (mkF m 195 #[.val (.int p1), .val (.long q2), .second, .val (.int p3), .val (.int p4), .val (.int (p4 &&& (3 : Int32))), .val (.double (own_sc p4)), .second, .val (.int (p1 &&& (3 : Int32))), .val (.long (own_H q2)), .second, .val (.double (9223372036854775808 : UInt64)), .second, .unset, .unset, .unset, .unset, .unset, .unset, .unset, .unset, .unset, .unset, .unset, .unset, .unset, .unset, .unset] [(.long q2)])) rfl (hb hby at_195) _ ?_
    show Steps p.tables e below (T5.setTop (mkF m 198 #[.val (.int p1), .val (.long q2), .second, .val (.int p3), .val (.int p4), .val (.int (p4 &&& (3 : Int32))), .val (.double (own_sc p4)), .second, .val (.int (p1 &&& (3 : Int32))), .val (.long (own_H q2)), .second, .val (.double (9223372036854775808 : UInt64)), .second, .unset, .unset, .unset, .unset, .unset, .unset, .unset, .unset, .unset, .unset, .unset, .unset, .unset, .unset, .unset] [(.long (9007199254740992 : Int64)), (.long q2)])) _
    refine XS.lrem X5.here hx rfl (hb hby at_198) rfl hnz198 ?_
    refine XS.lstore X5.here hx rfl (hb hby at_199) rfl (l' := #[.val (.int p1), .val (.long q2), .second, .val (.int p3), .val (.int p4), .val (.int (p4 &&& (3 : Int32))), .val (.double (own_sc p4)), .second, .val (.int (p1 &&& (3 : Int32))), .val (.long (own_H q2)), .second, .val (.double (9223372036854775808 : UInt64)), .second, .val (.long (own_k q2)), .second, .unset, .unset, .unset, .unset, .unset, .unset, .unset, .unset, .unset, .unset, .unset, .unset, .unset]) rfl ?_
    show Steps p.tables e below (T5.setTop (mkF m 201 #[.val (.int p1), .val (.long q2), .second, .val (.int p3), .val (.int p4), .val (.int (p4 &&& (3 : Int32))), .val (.double (own_sc p4)), .second, .val (.int (p1 &&& (3 : Int32))), .val (.long (own_H q2)), .second, .val (.double (9223372036854775808 : UInt64)), .second, .val (.long (own_k q2)), .second, .unset, .unset, .unset, .unset, .unset, .unset, .unset, .unset, .unset, .unset, .unset, .unset, .unset] [])) _
    refine XS.lload X5.here hx rfl (hb hby at_201) rfl ?_
    refine XS.l2dS X5.here hx rfl (hb hby at_203) rfl rfl ?_
    show Steps p.tables e below (T5.setTop (mkF m 204 #[.val (.int p1), .val (.long q2), .second, .val (.int p3), .val (.int p4), .val (.int (p4 &&& (3 : Int32))), .val (.double (own_sc p4)), .second, .val (.int (p1 &&& (3 : Int32))), .val (.long (own_H q2)), .second, .val (.double (9223372036854775808 : UInt64)), .second, .val (.long (own_k q2)), .second, .unset, .unset, .unset, .unset, .unset, .unset, .unset, .unset, .unset, .unset, .unset, .unset, .unset] [(.double (FP.l2d (own_k q2)))])) _
    refine XS.dload X5.here hx rfl (hb hby at_204) rfl ?_
    refine XS.dmulS X5.here hx rfl (hb hby at_206) rfl hnn206 rfl ?_
    show Steps p.tables e below (T5.setTop (mkF m 207 #[.val (.int p1), .val (.long q2), .second, .val (.int p3), .val (.int p4), .val (.int (p4 &&& (3 : Int32))), .val (.double (own_sc p4)), .second, .val (.int (p1 &&& (3 : Int32))), .val (.long (own_H q2)), .second, .val (.double (9223372036854775808 : UInt64)), .second, .val (.long (own_k q2)), .second, .unset, .unset, .unset, .unset, .unset, .unset, .unset, .unset, .unset, .unset, .unset, .unset, .unset] [(.double (FP.dmul (FP.l2d (own_k q2)) (own_sc p4)))])) _
    refine XS.dstore X5.here hx rfl (hb hby at_207) rfl (l' := #[.val (.int p1), .val (.long q2), .second, .val (.int p3), .val (.int p4), .val (.int (p4 &&& (3 : Int32))), .val (.double (own_sc p4)), .second, .val (.int (p1 &&& (3 : Int32))), .val (.long (own_H q2)), .second, .val (.double (9223372036854775808 : UInt64)), .second, .val (.long (own_k q2)), .second, .val (.double (FP.dmul (FP.l2d (own_k q2)) (own_sc p4))), .second, .unset, .unset, .unset, .unset, .unset, .unset, .unset, .unset, .unset, .unset, .unset]) rfl ?_
    refine XS.iload X5.here hx rfl (hb hby at_209) rfl ?_
    show Steps p.tables e below (T5.setTop (mkF m 211 #[.val (.int p1), .val (.long q2), .second, .val (.int p3), .val (.int p4), .val (.int (p4 &&& (3 : Int32))), .val (.double (own_sc p4)), .second, .val (.int (p1 &&& (3 : Int32))), .val (.long (own_H q2)), .second, .val (.double (9223372036854775808 : UInt64)), .second, .val (.long (own_k q2)), .second, .val (.double (FP.dmul (FP.l2d (own_k q2)) (own_sc p4))), .second, .unset, .unset, .unset, .unset, .unset, .unset, .unset, .unset, .unset, .unset, .unset] [(.int (p4 &&& (3 : Int32)))])) _
    refine XS.iconst X5.here hx rfl (hb hby at_211) ?_
    refine XS.icmpNo X5.here hx rfl (hb hby at_212) rfl (teq hc212).2 ?_
    show Steps p.tables e below (T5.setTop (mkF m 215 #[.val (.int p1), .val (.long q2), .second, .val (.int p3), .val (.int p4), .val (.int (p4 &&& (3 : Int32))), .val (.double (own_sc p4)), .second, .val (.int (p1 &&& (3 : Int32))), .val (.long (own_H q2)), .second, .val (.double (9223372036854775808 : UInt64)), .second, .val (.long (own_k q2)), .second, .val (.double (FP.dmul (FP.l2d (own_k q2)) (own_sc p4))), .second, .unset, .unset, .unset, .unset, .unset, .unset, .unset, .unset, .unset, .unset, .unset] [])) _
    refine XS.lload X5.here hx rfl (hb hby at_215) rfl ?_
    show Steps p.tables e below (T5.setTop (mkF m 217 #[.val (.int p1), .val (.long q2), .second, .val (.int p3), .val (.int p4), .val (.int (p4 &&& (3 : Int32))), .val (.double (own_sc p4)), .second, .val (.int (p1 &&& (3 : Int32))), .val (.long (own_H q2)), .second, .val (.double (9223372036854775808 : UInt64)), .second, .val (.long (own_k q2)), .second, .val (.double (FP.dmul (FP.l2d (own_k q2)) (own_sc p4))), .second, .unset, .unset, .unset, .unset, .unset, .unset, .unset, .unset, .unset, .unset, .unset] [(.long (own_k q2))])) _
    refine X5.ldc2Long hx hown (mvT hZ (hw _ (List.mem_of_getElem? (i := 4) rfl))) (g := (mkF m 217 #[.val (.int p1), .val (.long q2), .second, .val (.int p3), .val (.int p4), .val (.int (p4 &&& (3 : Int32))), .val (.double (own_sc p4)), .second, .val (.int (p1 &&& (3 : Int32))), .val (.long (own_H q2)), .second, .val (.double (9223372036854775808 : UInt64)), .second, .val (.long (own_k q2)), .second, .val (.double (FP.dmul (FP.l2d (own_k q2)) (own_sc p4))), .second, .unset, .unset, .unset, .unset, .unset, .unset, .unset, .unset, .unset, .unset, .unset] [(.long (own_k q2))])) rfl (hb hby at_217) _ ?_
    show Steps p.tables e below (T5.setTop (mkF m 220 #[.val (.int p1), .val (.long q2), .second, .val (.int p3), .val (.int p4), .val (.int (p4 &&& (3 : Int32))), .val (.double (own_sc p4)), .second, .val (.int (p1 &&& (3 : Int32))), .val (.long (own_H q2)), .second, .val (.double (9223372036854775808 : UInt64)), .second, .val (.long (own_k q2)), .second, .val (.double (FP.dmul (FP.l2d (own_k q2)) (own_sc p4))), .second, .unset, .unset, .unset, .unset, .unset, .unset, .unset, .unset, .unset, .unset, .unset] [(.long (4503599627370496 : Int64)), (.long (own_k q2))])) _
    refine XS.lcmp X5.here hx rfl (hb hby at_220) rfl ?_
    refine XS.ifNo X5.here hx rfl (hb hby at_221) rfl ((if0 _ _).trans (flt hc221).1) ?_
    show Steps p.tables e below (T5.setTop (mkF m 224 #[.val (.int p1), .val (.long q2), .second, .val (.int p3), .val (.int p4), .val (.int (p4 &&& (3 : Int32))), .val (.double (own_sc p4)), .second, .val (.int (p1 &&& (3 : Int32))), .val (.long (own_H q2)), .second, .val (.double (9223372036854775808 : UInt64)), .second, .val (.long (own_k q2)), .second, .val (.double (FP.dmul (FP.l2d (own_k q2)) (own_sc p4))), .second, .unset, .unset, .unset, .unset, .unset, .unset, .unset, .unset, .unset, .unset, .unset] [])) _
    refine XS.iconst X5.here hx rfl (hb hby at_224) ?_
    refine XS.goto X5.here hx rfl (pc0 := 225) (pc' := 244) rfl (hb hby at_225) (by decide) (by decide) ?_
    show Steps p.tables e below (T5.setTop (mkF m 244 #[.val (.int p1), .val (.long q2), .second, .val (.int p3), .val (.int p4), .val (.int (p4 &&& (3 : Int32))), .val (.double (own_sc p4)), .second, .val (.int (p1 &&& (3 : Int32))), .val (.long (own_H q2)), .second, .val (.double (9223372036854775808 : UInt64)), .second, .val (.long (own_k q2)), .second, .val (.double (FP.dmul (FP.l2d (own_k q2)) (own_sc p4))), .second, .unset, .unset, .unset, .unset, .unset, .unset, .unset, .unset, .unset, .unset, .unset] [(.int (1 : Int32))])) _
    refine XS.istore X5.here hx rfl (hb hby at_244) rfl (l' := #[.val (.int p1), .val (.long q2), .second, .val (.int p3), .val (.int p4), .val (.int (p4 &&& (3 : Int32))), .val (.double (own_sc p4)), .second, .val (.int (p1 &&& (3 : Int32))), .val (.long (own_H q2)), .second, .val (.double (9223372036854775808 : UInt64)), .second, .val (.long (own_k q2)), .second, .val (.double (FP.dmul (FP.l2d (own_k q2)) (own_sc p4))), .second, .val (.int (1 : Int32)), .unset, .unset, .unset, .unset, .unset, .unset, .unset, .unset, .unset, .unset]) rfl ?_
    refine XS.dload X5.here hx rfl (hb hby at_246) rfl ?_
    show Steps p.tables e below (T5.setTop (mkF m 248 #[.val (.int p1), .val (.long q2), .second, .val (.int p3), .val (.int p4), .val (.int (p4 &&& (3 : Int32))), .val (.double (own_sc p4)), .second, .val (.int (p1 &&& (3 : Int32))), .val (.long (own_H q2)), .second, .val (.double (9223372036854775808 : UInt64)), .second, .val (.long (own_k q2)), .second, .val (.double (FP.dmul (FP.l2d (own_k q2)) (own_sc p4))), .second, .val (.int (1 : Int32)), .unset, .unset, .unset, .unset, .unset, .unset, .unset, .unset, .unset, .unset] [(.double (FP.dmul (FP.l2d (own_k q2)) (own_sc p4)))])) _
    refine XS.dload X5.here hx rfl (hb hby at_248) rfl ?_
    show Steps p.tables e below (T5.setTop (mkF m 250 #[.val (.int p1), .val (.long q2), .second, .val (.int p3), .val (.int p4), .val (.int (p4 &&& (3 : Int32))), .val (.double (own_sc p4)), .second, .val (.int (p1 &&& (3 : Int32))), .val (.long (own_H q2)), .second, .val (.double (9223372036854775808 : UInt64)), .second, .val (.long (own_k q2)), .second, .val (.double (FP.dmul (FP.l2d (own_k q2)) (own_sc p4))), .second, .val (.int (1 : Int32)), .unset, .unset, .unset, .unset, .unset, .unset, .unset, .unset, .unset, .unset] [(.double (9223372036854775808 : UInt64)), (.double (FP.dmul (FP.l2d (own_k q2)) (own_sc p4)))])) _
    refine st6 _ ?_
    show Steps p.tables e below (T6.setTop (mkF m 253 #[.val (.int p1), .val (.long q2), .second, .val (.int p3), .val (.int p4), .val (.int (p4 &&& (3 : Int32))), .val (.double (own_sc p4)), .second, .val (.int (p1 &&& (3 : Int32))), .val (.long (own_H q2)), .second, .val (.double (9223372036854775808 : UInt64)), .second, .val (.long (own_k q2)), .second, .val (.double (FP.dmul (FP.l2d (own_k q2)) (own_sc p4))), .second, .val (.int (1 : Int32)), .unset, .unset, .unset, .unset, .unset, .unset, .unset, .unset, .unset, .unset] [(.int (own_ich (FP.dmul (FP.l2d (own_k q2)) (own_sc p4)) (9223372036854775808 : UInt64)))])) _
    refine XS.iload X6.here hx rfl (hb hby at_253) rfl ?_
    refine XS.icmpNo X6.here hx rfl (hb hby at_255) rfl (teq (own_k1b own_z_neg hc212 hc221 : (own_ich (FP.dmul (FP.l2d (own_k q2)) (own_sc p4)) (9223372036854775808 : UInt64)) = (1 : Int32))).2 ?_
    show Steps p.tables e below (T6.setTop (mkF m 258 #[.val (.int p1), .val (.long q2), .second, .val (.int p3), .val (.int p4), .val (.int (p4 &&& (3 : Int32))), .val (.double (own_sc p4)), .second, .val (.int (p1 &&& (3 : Int32))), .val (.long (own_H q2)), .second, .val (.double (9223372036854775808 : UInt64)), .second, .val (.long (own_k q2)), .second, .val (.double (FP.dmul (FP.l2d (own_k q2)) (own_sc p4))), .second, .val (.int (1 : Int32)), .unset, .unset, .unset, .unset, .unset, .unset, .unset, .unset, .unset, .unset] [])) _
    refine XS.iconst X6.here hx rfl (hb hby at_258) ?_
    refine XS.goto X6.here hx rfl (pc0 := 259) (pc' := 263) rfl (hb hby at_259) (by decide) (by decide) ?_
    show Steps p.tables e below (T6.setTop (mkF m 263 #[.val (.int p1), .val (.long q2), .second, .val (.int p3), .val (.int p4), .val (.int (p4 &&& (3 : Int32))), .val (.double (own_sc p4)), .second, .val (.int (p1 &&& (3 : Int32))), .val (.long (own_H q2)), .second, .val (.double (9223372036854775808 : UInt64)), .second, .val (.long (own_k q2)), .second, .val (.double (FP.dmul (FP.l2d (own_k q2)) (own_sc p4))), .second, .val (.int (1 : Int32)), .unset, .unset, .unset, .unset, .unset, .unset, .unset, .unset, .unset, .unset] [(.int (1 : Int32))])) _
    exact retN X6 hx (t := .boolean) Bd.returns (by simp) (hb hby at_263) hr
  · show Q0 Z p1 q2 p3 p4 h0 n0 _ T6.heap _
    exact ⟨rfl, N6⟩
set_option maxRecDepth 65536 in
set_option maxHeartbeats 40000000 in
theorem rm0_bnc (l : Launch) (Z : State) (a0 : Array Value) (hw : ∀ d ∈ tables_1, d.before a0 Z = true) (ws : List Jvm.Cond) (p1 : Int32) (q2 : Int64) (p3 : Int32) (p4 : Int32) (h0 : Heap) (n0 : Nat) (Z0 : n0 ≤ h0.size) (hc31 : ¬ ((p1 &&& (3 : Int32)) = (0 : Int32))) (hc176 : (p1 &&& (3 : Int32)) = (1 : Int32)) (hc182 : ¬ ((p1 &&& (4 : Int32)) = (0 : Int32))) (hc212 : ¬ ((p4 &&& (3 : Int32)) = (1 : Int32))) (hc236 : (lcmpW (own_k q2) (1 : Int64)) < (0 : Int32)) :
    MetFree l x (head1 (Jvm.Cond.code x code maxLocals ret :: ws) room_1) (fun a U => a = #[(.int p1), (.long q2), (.int p3), (.int p4)] ∧ Z.Warmed39 U.vm ∧ U.heap = h0) (fun _ _ _ _ _ => True) (fun _ U o U' => ∃ v L, o = .returned v ∧ Q0 Z p1 q2 p3 p4 h0 n0 v U'.heap L ∧ FrameEnd U o U' L room_1.cells room_1.slots) := by
  have hnz198 : ¬ ((9007199254740992 : Int64) = (0 : Int64)) := by decide
  have hnn206 : Jvm.Free.Fl.NoNaN64 (FP.dmul (FP.l2d (own_k q2)) (own_sc p4)) := own_nn _ _
  refine MetFree.of_bodySF (plainFor_of_name pn_0) hisR ?_
  intro p e s m args below meth c s₁ Bd hml0 hP hK
  obtain ⟨rfl, hZ, hh⟩ := hP
  have hx := Bd.exec
  have hby := Bd.bytes
  have hml : c.maxLocals = 28 := hml0
  have hown : s.vm.findClass "com/example/level_ring/levelring/placement/MembersIsCertainlyHigherPinLaw" = some m.cls := findClass_of_methodNamed Bd.named
  have hnm := (name_of_methodNamed Bd.named Bd.method).1
  have X0 : Stand p l e room_1 s m #[(.int p1), (.long q2), (.int p3), (.int p4)] below meth c s₁ [] 0 0 := Stand.of_body Bd
  have e0 : s₁.heap = h0 := by rw [← hh, Bd.state]; rfl
  have N0 := Fr.nil n0
  have pre0 : ∀ t, Steps p.tables e below (s₁.setTop (mkF m 0 #[.val (.int p1), .val (.long q2), .second, .val (.int p3), .val (.int p4), .unset, .unset, .unset, .unset, .unset, .unset, .unset, .unset, .unset, .unset, .unset, .unset, .unset, .unset, .unset, .unset, .unset, .unset, .unset, .unset, .unset, .unset, .unset] [])) t → Steps p.tables e below (s₁.setTop (entryFrame m #[(.int p1), (.long q2), (.int p3), (.int p4)] maxLocals)) t := fun t k => castTop (ef_0 m p1 q2 p3 p4) k
  -- 3. LAWS
  -- pc 8: com/example/level_ring/levelring/placement/MembersIsCertainlyHigherPinLaw.scaleOf by its contract rm1
  obtain ⟨_, _, ⟨T5, L5, k5, n5⟩, -, X5, ⟨Lc5, hQ5, l5, y5, z5⟩, st5⟩ := Jvm.LawKit.callS X0 hx (y := (⟨"com/example/level_ring/levelring/placement/MembersIsCertainlyHigherPinLaw", "scaleOf", "(I)D"⟩ : MethodName)) hown (mvT hZ (hw _ (List.mem_of_getElem? (i := 0) rfl))) (mvT hZ (hw _ (List.mem_of_getElem? (i := 1) rfl))) (mvT hZ (hw _ (List.mem_of_getElem? (i := 2) rfl))) (mvT hZ (hw _ (List.mem_of_getElem? (i := 3) rfl))) (by decide) (backOf (W := 0) (rm1 l Z a0 hw [] (p4 &&& (3 : Int32))  h0 n0 Z0) hZ (hw _ (List.mem_of_getElem? (i := 3) rfl)) (hw _ (List.mem_of_getElem? (i := 2) rfl)) (by decide) (by decide)) (g := (mkF m 8 #[.val (.int p1), .val (.long q2), .second, .val (.int p3), .val (.int p4), .val (.int (p4 &&& (3 : Int32))), .unset, .unset, .unset, .unset, .unset, .unset, .unset, .unset, .unset, .unset, .unset, .unset, .unset, .unset, .unset, .unset, .unset, .unset, .unset, .unset, .unset, .unset] [(.int (p4 &&& (3 : Int32)))])) rfl (by rw [hml]; rfl) (argsL := [(.int (p4 &&& (3 : Int32)))]) (rest := []) (lenOf pdw_0 rfl) rfl (by show 2 * 0 + _ ≤ _; exact Nat.le_of_eq rfl) (hb hby at_8) (fun _ _ => ⟨rfl, e0, (by decide : 0 + 0 ≤ _), (by decide : 0 + 0 ≤ _)⟩)
  dsimp only [Pt.U, Pt.locs, Pt.cells, Pt.slots] at X5 l5 y5 z5 st5 hQ5
  subst l5 y5 z5
  obtain ⟨rfl, N5q, hh5⟩ := hQ5
  have N5 := Fr.app N0 N5q
  -- pc 250: com/example/level_ring/levelring/placement/Members.isCertainlyHigher by its contract rm2
  obtain ⟨_, _, ⟨T6, L6, k6, n6⟩, -, X6, ⟨Lc6, hQ6, l6, y6, z6⟩, st6⟩ := Jvm.LawKit.callS X5 hx (y := (⟨"com/example/level_ring/levelring/placement/Members", "isCertainlyHigher", "(DD)Z"⟩ : MethodName)) hown (mvT hZ (hw _ (List.mem_of_getElem? (i := 8) rfl))) (mvT hZ (hw _ (List.mem_of_getElem? (i := 9) rfl))) (mvT hZ (hw _ (List.mem_of_getElem? (i := 10) rfl))) (mvT hZ (hw _ (List.mem_of_getElem? (i := 11) rfl))) (by decide) (backOf (W := 0) (rm2 l Z a0 hw [] (FP.dmul (FP.l2d (own_k q2)) (own_sc p4)) (9223372036854775808 : UInt64)  h0 n0 Z0 (dmul_out (by unfold Fin64; decide +kernel) own_C_fin)) hZ (hw _ (List.mem_of_getElem? (i := 11) rfl)) (hw _ (List.mem_of_getElem? (i := 10) rfl)) (by decide) (by decide)) (g := (mkF m 250 #[.val (.int p1), .val (.long q2), .second, .val (.int p3), .val (.int p4), .val (.int (p4 &&& (3 : Int32))), .val (.double (own_sc p4)), .second, .val (.int (p1 &&& (3 : Int32))), .val (.long (own_H q2)), .second, .val (.double (9223372036854775808 : UInt64)), .second, .val (.long (own_k q2)), .second, .val (.double (FP.dmul (FP.l2d (own_k q2)) (own_sc p4))), .second, .val (.int (0 : Int32)), .unset, .unset, .unset, .unset, .unset, .unset, .unset, .unset, .unset, .unset] [(.double (9223372036854775808 : UInt64)), (.double (FP.dmul (FP.l2d (own_k q2)) (own_sc p4)))])) rfl (by rw [hml]; rfl) (argsL := [(.double (FP.dmul (FP.l2d (own_k q2)) (own_sc p4))), (.double (9223372036854775808 : UInt64))]) (rest := []) (lenOf pdw_1 rfl) rfl (by show 2 * 0 + _ ≤ _; exact Nat.le_of_eq rfl) (hb hby at_250) (fun _ _ => ⟨rfl, hh5, (by decide : 0 + 0 ≤ _), (by decide : 0 + 0 ≤ _)⟩)
  dsimp only [Pt.U, Pt.locs, Pt.cells, Pt.slots] at X6 l6 y6 z6 st6 hQ6
  subst l6 y6 z6
  obtain ⟨rfl, N6q, hh6⟩ := hQ6
  have N6 := Fr.app N5 N6q
  obtain ⟨fs, hr, hrun, hended, hW, hsame⟩ := X6.leave (v := some (.int (1 : Int32))) (fun h => by rw [Bd.returns] at h; cases h)
  refine ⟨_, _, pre0 _ ?_, hrun, hended, _, _, rfl, ?_, ⟨_, rfl⟩, hW, hsame.mono (by decide) (by decide)⟩
  -- 4. STEPS
  · show Steps p.tables e below (s₁.setTop (mkF m 0 #[.val (.int p1), .val (.long q2), .second, .val (.int p3), .val (.int p4), .unset, .unset, .unset, .unset, .unset, .unset, .unset, .unset, .unset, .unset, .unset, .unset, .unset, .unset, .unset, .unset, .unset, .unset, .unset, .unset, .unset, .unset, .unset] [])) _
    refine XS.iload X0.here hx rfl (hb hby at_0) rfl ?_
    refine XS.iconst X0.here hx rfl (hb hby at_2) ?_
    show Steps p.tables e below (s₁.setTop (mkF m 3 #[.val (.int p1), .val (.long q2), .second, .val (.int p3), .val (.int p4), .unset, .unset, .unset, .unset, .unset, .unset, .unset, .unset, .unset, .unset, .unset, .unset, .unset, .unset, .unset, .unset, .unset, .unset, .unset, .unset, .unset, .unset, .unset] [(.int (3 : Int32)), (.int p4)])) _
    refine XS.iand X0.here hx rfl (hb hby at_3) rfl ?_
    refine XS.istore X0.here hx rfl (hb hby at_4) rfl (l' := #[.val (.int p1), .val (.long q2), .second, .val (.int p3), .val (.int p4), .val (.int (p4 &&& (3 : Int32))), .unset, .unset, .unset, .unset, .unset, .unset, .unset, .unset, .unset, .unset, .unset, .unset, .unset, .unset, .unset, .unset, .unset, .unset, .unset, .unset, .unset, .unset]) rfl ?_
    show Steps p.tables e below (s₁.setTop (mkF m 6 #[.val (.int p1), .val (.long q2), .second, .val (.int p3), .val (.int p4), .val (.int (p4 &&& (3 : Int32))), .unset, .unset, .unset, .unset, .unset, .unset, .unset, .unset, .unset, .unset, .unset, .unset, .unset, .unset, .unset, .unset, .unset, .unset, .unset, .unset, .unset, .unset] [])) _
    refine XS.iload X0.here hx rfl (hb hby at_6) rfl ?_
    show Steps p.tables e below (s₁.setTop (mkF m 8 #[.val (.int p1), .val (.long q2), .second, .val (.int p3), .val (.int p4), .val (.int (p4 &&& (3 : Int32))), .unset, .unset, .unset, .unset, .unset, .unset, .unset, .unset, .unset, .unset, .unset, .unset, .unset, .unset, .unset, .unset, .unset, .unset, .unset, .unset, .unset, .unset] [(.int (p4 &&& (3 : Int32)))])) _
    refine st5 _ ?_
    show Steps p.tables e below (T5.setTop (mkF m 11 #[.val (.int p1), .val (.long q2), .second, .val (.int p3), .val (.int p4), .val (.int (p4 &&& (3 : Int32))), .unset, .unset, .unset, .unset, .unset, .unset, .unset, .unset, .unset, .unset, .unset, .unset, .unset, .unset, .unset, .unset, .unset, .unset, .unset, .unset, .unset, .unset] [(.double (own_sc p4))])) _
    refine XS.dstore X5.here hx rfl (hb hby at_11) rfl (l' := #[.val (.int p1), .val (.long q2), .second, .val (.int p3), .val (.int p4), .val (.int (p4 &&& (3 : Int32))), .val (.double (own_sc p4)), .second, .unset, .unset, .unset, .unset, .unset, .unset, .unset, .unset, .unset, .unset, .unset, .unset, .unset, .unset, .unset, .unset, .unset, .unset, .unset, .unset]) rfl ?_
    refine XS.iloadN X5.here hx rfl (hb hby at_13) rfl ?_
    show Steps p.tables e below (T5.setTop (mkF m 14 #[.val (.int p1), .val (.long q2), .second, .val (.int p3), .val (.int p4), .val (.int (p4 &&& (3 : Int32))), .val (.double (own_sc p4)), .second, .unset, .unset, .unset, .unset, .unset, .unset, .unset, .unset, .unset, .unset, .unset, .unset, .unset, .unset, .unset, .unset, .unset, .unset, .unset, .unset] [(.int p1)])) _
    refine XS.iconst X5.here hx rfl (hb hby at_14) ?_
    refine XS.iand X5.here hx rfl (hb hby at_15) rfl ?_
    show Steps p.tables e below (T5.setTop (mkF m 16 #[.val (.int p1), .val (.long q2), .second, .val (.int p3), .val (.int p4), .val (.int (p4 &&& (3 : Int32))), .val (.double (own_sc p4)), .second, .unset, .unset, .unset, .unset, .unset, .unset, .unset, .unset, .unset, .unset, .unset, .unset, .unset, .unset, .unset, .unset, .unset, .unset, .unset, .unset] [(.int (p1 &&& (3 : Int32)))])) _
    refine XS.istore X5.here hx rfl (hb hby at_16) rfl (l' := #[.val (.int p1), .val (.long q2), .second, .val (.int p3), .val (.int p4), .val (.int (p4 &&& (3 : Int32))), .val (.double (own_sc p4)), .second, .val (.int (p1 &&& (3 : Int32))), .unset, .unset, .unset, .unset, .unset, .unset, .unset, .unset, .unset, .unset, .unset, .unset, .unset, .unset, .unset, .unset, .unset, .unset, .unset]) rfl ?_
    show Steps p.tables e below (T5.setTop (mkF m 18 #[.val (.int p1), .val (.long q2), .second, .val (.int p3), .val (.int p4), .val (.int (p4 &&& (3 : Int32))), .val (.double (own_sc p4)), .second, .val (.int (p1 &&& (3 : Int32))), .unset, .unset, .unset, .unset, .unset, .unset, .unset, .unset, .unset, .unset, .unset, .unset, .unset, .unset, .unset, .unset, .unset, .unset, .unset] [])) _
    refine X5.ldc2Long hx hown (mvT hZ (hw _ (List.mem_of_getElem? (i := 4) rfl))) (g := (mkF m 18 #[.val (.int p1), .val (.long q2), .second, .val (.int p3), .val (.int p4), .val (.int (p4 &&& (3 : Int32))), .val (.double (own_sc p4)), .second, .val (.int (p1 &&& (3 : Int32))), .unset, .unset, .unset, .unset, .unset, .unset, .unset, .unset, .unset, .unset, .unset, .unset, .unset, .unset, .unset, .unset, .unset, .unset, .unset] [])) rfl (hb hby at_18) _ ?_
    show Steps p.tables e below (T5.setTop (mkF m 21 #[.val (.int p1), .val (.long q2), .second, .val (.int p3), .val (.int p4), .val (.int (p4 &&& (3 : Int32))), .val (.double (own_sc p4)), .second, .val (.int (p1 &&& (3 : Int32))), .unset, .unset, .unset, .unset, .unset, .unset, .unset, .unset, .unset, .unset, .unset, .unset, .unset, .unset, .unset, .unset, .unset, .unset, .unset] [(.long (4503599627370496 : Int64))])) _
    refine XS.lloadN X5.here hx rfl (hb hby at_21) rfl ?_
    show Steps p.tables e below (T5.setTop (mkF m 22 #[.val (.int p1), .val (.long q2), .second, .val (.int p3), .val (.int p4), .val (.int (p4 &&& (3 : Int32))), .val (.double (own_sc p4)), .second, .val (.int (p1 &&& (3 : Int32))), .unset, .unset, .unset, .unset, .unset, .unset, .unset, .unset, .unset, .unset, .unset, .unset, .unset, .unset, .unset, .unset, .unset, .unset, .unset] [(.long q2), (.long (4503599627370496 : Int64))])) _
    refine X5.ldc2Long hx hown (mvT hZ (hw _ (List.mem_of_getElem? (i := 5) rfl))) (g := (mkF m 22 #[.val (.int p1), .val (.long q2), .second, .val (.int p3), .val (.int p4), .val (.int (p4 &&& (3 : Int32))), .val (.double (own_sc p4)), .second, .val (.int (p1 &&& (3 : Int32))), .unset, .unset, .unset, .unset, .unset, .unset, .unset, .unset, .unset, .unset, .unset, .unset, .unset, .unset, .unset, .unset, .unset, .unset, .unset] [(.long q2), (.long (4503599627370496 : Int64))])) rfl (hb hby at_22) _ ?_
    show Steps p.tables e below (T5.setTop (mkF m 25 #[.val (.int p1), .val (.long q2), .second, .val (.int p3), .val (.int p4), .val (.int (p4 &&& (3 : Int32))), .val (.double (own_sc p4)), .second, .val (.int (p1 &&& (3 : Int32))), .unset, .unset, .unset, .unset, .unset, .unset, .unset, .unset, .unset, .unset, .unset, .unset, .unset, .unset, .unset, .unset, .unset, .unset, .unset] [(.long (2251799813685247 : Int64)), (.long q2), (.long (4503599627370496 : Int64))])) _
    refine XS.land X5.here hx rfl (hb hby at_25) rfl ?_
    refine XS.lor X5.here hx rfl (hb hby at_26) rfl ?_
    show Steps p.tables e below (T5.setTop (mkF m 27 #[.val (.int p1), .val (.long q2), .second, .val (.int p3), .val (.int p4), .val (.int (p4 &&& (3 : Int32))), .val (.double (own_sc p4)), .second, .val (.int (p1 &&& (3 : Int32))), .unset, .unset, .unset, .unset, .unset, .unset, .unset, .unset, .unset, .unset, .unset, .unset, .unset, .unset, .unset, .unset, .unset, .unset, .unset] [(.long (own_H q2))])) _
    refine XS.lstore X5.here hx rfl (hb hby at_27) rfl (l' := #[.val (.int p1), .val (.long q2), .second, .val (.int p3), .val (.int p4), .val (.int (p4 &&& (3 : Int32))), .val (.double (own_sc p4)), .second, .val (.int (p1 &&& (3 : Int32))), .val (.long (own_H q2)), .second, .unset, .unset, .unset, .unset, .unset, .unset, .unset, .unset, .unset, .unset, .unset, .unset, .unset, .unset, .unset, .unset, .unset]) rfl ?_
    refine XS.iload X5.here hx rfl (hb hby at_29) rfl ?_
    show Steps p.tables e below (T5.setTop (mkF m 31 #[.val (.int p1), .val (.long q2), .second, .val (.int p3), .val (.int p4), .val (.int (p4 &&& (3 : Int32))), .val (.double (own_sc p4)), .second, .val (.int (p1 &&& (3 : Int32))), .val (.long (own_H q2)), .second, .unset, .unset, .unset, .unset, .unset, .unset, .unset, .unset, .unset, .unset, .unset, .unset, .unset, .unset, .unset, .unset, .unset] [(.int (p1 &&& (3 : Int32)))])) _
    refine XS.ifYes X5.here hx rfl (pc0 := 31) (pc' := 173) rfl (hb hby at_31) rfl ((if0 _ _).trans (feq hc31).2) (by decide) (by decide) ?_
    refine XS.iload X5.here hx rfl (hb hby at_173) rfl ?_
    show Steps p.tables e below (T5.setTop (mkF m 175 #[.val (.int p1), .val (.long q2), .second, .val (.int p3), .val (.int p4), .val (.int (p4 &&& (3 : Int32))), .val (.double (own_sc p4)), .second, .val (.int (p1 &&& (3 : Int32))), .val (.long (own_H q2)), .second, .unset, .unset, .unset, .unset, .unset, .unset, .unset, .unset, .unset, .unset, .unset, .unset, .unset, .unset, .unset, .unset, .unset] [(.int (p1 &&& (3 : Int32)))])) _
    refine XS.iconst X5.here hx rfl (hb hby at_175) ?_
    refine XS.icmpNo X5.here hx rfl (hb hby at_176) rfl (teq hc176).2 ?_
    show Steps p.tables e below (T5.setTop (mkF m 179 #[.val (.int p1), .val (.long q2), .second, .val (.int p3), .val (.int p4), .val (.int (p4 &&& (3 : Int32))), .val (.double (own_sc p4)), .second, .val (.int (p1 &&& (3 : Int32))), .val (.long (own_H q2)), .second, .unset, .unset, .unset, .unset, .unset, .unset, .unset, .unset, .unset, .unset, .unset, .unset, .unset, .unset, .unset, .unset, .unset] [])) _
    refine XS.iloadN X5.here hx rfl (hb hby at_179) rfl ?_
    refine XS.iconst X5.here hx rfl (hb hby at_180) ?_
    show Steps p.tables e below (T5.setTop (mkF m 181 #[.val (.int p1), .val (.long q2), .second, .val (.int p3), .val (.int p4), .val (.int (p4 &&& (3 : Int32))), .val (.double (own_sc p4)), .second, .val (.int (p1 &&& (3 : Int32))), .val (.long (own_H q2)), .second, .unset, .unset, .unset, .unset, .unset, .unset, .unset, .unset, .unset, .unset, .unset, .unset, .unset, .unset, .unset, .unset, .unset] [(.int (4 : Int32)), (.int p1)])) _
    refine XS.iand X5.here hx rfl (hb hby at_181) rfl ?_
    refine XS.ifNo X5.here hx rfl (hb hby at_182) rfl ((if0 _ _).trans (feq hc182).1) ?_
    show Steps p.tables e below (T5.setTop (mkF m 185 #[.val (.int p1), .val (.long q2), .second, .val (.int p3), .val (.int p4), .val (.int (p4 &&& (3 : Int32))), .val (.double (own_sc p4)), .second, .val (.int (p1 &&& (3 : Int32))), .val (.long (own_H q2)), .second, .unset, .unset, .unset, .unset, .unset, .unset, .unset, .unset, .unset, .unset, .unset, .unset, .unset, .unset, .unset, .unset, .unset] [])) _
    refine X5.ldc2DoubleC hx hown (mvT hZ (hw _ (List.mem_of_getElem? (i := 18) rfl))) (g := (mkF m 185 #[.val (.int p1), .val (.long q2), .second, .val (.int p3), .val (.int p4), .val (.int (p4 &&& (3 : Int32))), .val (.double (own_sc p4)), .second, .val (.int (p1 &&& (3 : Int32))), .val (.long (own_H q2)), .second, .unset, .unset, .unset, .unset, .unset, .unset, .unset, .unset, .unset, .unset, .unset, .unset, .unset, .unset, .unset, .unset, .unset] [])) rfl (hb hby at_185) _ ?_
    show Steps p.tables e below (T5.setTop (mkF m 188 #[.val (.int p1), .val (.long q2), .second, .val (.int p3), .val (.int p4), .val (.int (p4 &&& (3 : Int32))), .val (.double (own_sc p4)), .second, .val (.int (p1 &&& (3 : Int32))), .val (.long (own_H q2)), .second, .unset, .unset, .unset, .unset, .unset, .unset, .unset, .unset, .unset, .unset, .unset, .unset, .unset, .unset, .unset, .unset, .unset] [(.double (9223372036854775808 : UInt64))])) _
    refine XS.goto X5.here hx rfl (pc0 := 188) (pc' := 192) rfl (hb hby at_188) (by decide) (by decide) ?_
    refine XS.dstore X5.here hx rfl (hb hby at_192) rfl (l' := #[.val (.int p1), .val (.long q2), .second, .val (.int p3), .val (.int p4), .val (.int (p4 &&& (3 : Int32))), .val (.double (own_sc p4)), .second, .val (.int (p1 &&& (3 : Int32))), .val (.long (own_H q2)), .second, .val (.double (9223372036854775808 : UInt64)), .second, .unset, .unset, .unset, .unset, .unset, .unset, .unset, .unset, .unset, .unset, .unset, .unset, .unset, .unset, .unset]) rfl ?_
    show Steps p.tables e below (T5.setTop (mkF m 194 #[.val (.int p1), .val (.long q2), .second, .val (.int p3), .val (.int p4), .val (.int (p4 &&& (3 : Int32))), .val (.double (own_sc p4)), .second, .val (.int (p1 &&& (3 : Int32))), .val (.long (own_H q2)), .second, .val (.double (9223372036854775808 : UInt64)), .second, .unset, .unset, .unset, .unset, .unset, .unset, .unset, .unset, .unset, .unset, .unset, .unset, .unset, .unset, .unset] [])) _
    refine XS.lloadN X5.here hx rfl (hb hby at_194) rfl ?_
    show Steps p.tables e below (T5.setTop (mkF m 195 #[.val (.int p1), .val (.long q2), .second, .val (.int p3), .val (.int p4), .val (.int (p4 &&& (3 : Int32))), .val (.double (own_sc p4)), .second, .val (.int (p1 &&& (3 : Int32))), .val (.long (own_H q2)), .second, .val (.double (9223372036854775808 : UInt64)), .second, .unset, .unset, .unset, .unset, .unset, .unset, .unset, .unset, .unset, .unset, .unset, .unset, .unset, .unset, .unset] [(.long q2)])) _
    refine X5.ldc2Long hx hown (mvT hZ (hw _ (List.mem_of_getElem? (i := 16) rfl))) (g := (mkF m 195 #[.val (.int p1), .val (.long q2), .second, .val (.int p3), .val (.int p4), .val (.int (p4 &&& (3 : Int32))), .val (.double (own_sc p4)), .second, .val (.int (p1 &&& (3 : Int32))), .val (.long (own_H q2)), .second, .val (.double (9223372036854775808 : UInt64)), .second, .unset, .unset, .unset, .unset, .unset, .unset, .unset, .unset, .unset, .unset, .unset, .unset, .unset, .unset, .unset] [(.long q2)])) rfl (hb hby at_195) _ ?_
    show Steps p.tables e below (T5.setTop (mkF m 198 #[.val (.int p1), .val (.long q2), .second, .val (.int p3), .val (.int p4), .val (.int (p4 &&& (3 : Int32))), .val (.double (own_sc p4)), .second, .val (.int (p1 &&& (3 : Int32))), .val (.long (own_H q2)), .second, .val (.double (9223372036854775808 : UInt64)), .second, .unset, .unset, .unset, .unset, .unset, .unset, .unset, .unset, .unset, .unset, .unset, .unset, .unset, .unset, .unset] [(.long (9007199254740992 : Int64)), (.long q2)])) _
    refine XS.lrem X5.here hx rfl (hb hby at_198) rfl hnz198 ?_
    refine XS.lstore X5.here hx rfl (hb hby at_199) rfl (l' := #[.val (.int p1), .val (.long q2), .second, .val (.int p3), .val (.int p4), .val (.int (p4 &&& (3 : Int32))), .val (.double (own_sc p4)), .second, .val (.int (p1 &&& (3 : Int32))), .val (.long (own_H q2)), .second, .val (.double (9223372036854775808 : UInt64)), .second, .val (.long (own_k q2)), .second, .unset, .unset, .unset, .unset, .unset, .unset, .unset, .unset, .unset, .unset, .unset, .unset, .unset]) rfl ?_
    show Steps p.tables e below (T5.setTop (mkF m 201 #[.val (.int p1), .val (.long q2), .second, .val (.int p3), .val (.int p4), .val (.int (p4 &&& (3 : Int32))), .val (.double (own_sc p4)), .second, .val (.int (p1 &&& (3 : Int32))), .val (.long (own_H q2)), .second, .val (.double (9223372036854775808 : UInt64)), .second, .val (.long (own_k q2)), .second, .unset, .unset, .unset, .unset, .unset, .unset, .unset, .unset, .unset, .unset, .unset, .unset, .unset] [])) _
    refine XS.lload X5.here hx rfl (hb hby at_201) rfl ?_
    refine XS.l2dS X5.here hx rfl (hb hby at_203) rfl rfl ?_
    show Steps p.tables e below (T5.setTop (mkF m 204 #[.val (.int p1), .val (.long q2), .second, .val (.int p3), .val (.int p4), .val (.int (p4 &&& (3 : Int32))), .val (.double (own_sc p4)), .second, .val (.int (p1 &&& (3 : Int32))), .val (.long (own_H q2)), .second, .val (.double (9223372036854775808 : UInt64)), .second, .val (.long (own_k q2)), .second, .unset, .unset, .unset, .unset, .unset, .unset, .unset, .unset, .unset, .unset, .unset, .unset, .unset] [(.double (FP.l2d (own_k q2)))])) _
    refine XS.dload X5.here hx rfl (hb hby at_204) rfl ?_
    refine XS.dmulS X5.here hx rfl (hb hby at_206) rfl hnn206 rfl ?_
    show Steps p.tables e below (T5.setTop (mkF m 207 #[.val (.int p1), .val (.long q2), .second, .val (.int p3), .val (.int p4), .val (.int (p4 &&& (3 : Int32))), .val (.double (own_sc p4)), .second, .val (.int (p1 &&& (3 : Int32))), .val (.long (own_H q2)), .second, .val (.double (9223372036854775808 : UInt64)), .second, .val (.long (own_k q2)), .second, .unset, .unset, .unset, .unset, .unset, .unset, .unset, .unset, .unset, .unset, .unset, .unset, .unset] [(.double (FP.dmul (FP.l2d (own_k q2)) (own_sc p4)))])) _
    refine XS.dstore X5.here hx rfl (hb hby at_207) rfl (l' := #[.val (.int p1), .val (.long q2), .second, .val (.int p3), .val (.int p4), .val (.int (p4 &&& (3 : Int32))), .val (.double (own_sc p4)), .second, .val (.int (p1 &&& (3 : Int32))), .val (.long (own_H q2)), .second, .val (.double (9223372036854775808 : UInt64)), .second, .val (.long (own_k q2)), .second, .val (.double (FP.dmul (FP.l2d (own_k q2)) (own_sc p4))), .second, .unset, .unset, .unset, .unset, .unset, .unset, .unset, .unset, .unset, .unset, .unset]) rfl ?_
    refine XS.iload X5.here hx rfl (hb hby at_209) rfl ?_
    show Steps p.tables e below (T5.setTop (mkF m 211 #[.val (.int p1), .val (.long q2), .second, .val (.int p3), .val (.int p4), .val (.int (p4 &&& (3 : Int32))), .val (.double (own_sc p4)), .second, .val (.int (p1 &&& (3 : Int32))), .val (.long (own_H q2)), .second, .val (.double (9223372036854775808 : UInt64)), .second, .val (.long (own_k q2)), .second, .val (.double (FP.dmul (FP.l2d (own_k q2)) (own_sc p4))), .second, .unset, .unset, .unset, .unset, .unset, .unset, .unset, .unset, .unset, .unset, .unset] [(.int (p4 &&& (3 : Int32)))])) _
    refine XS.iconst X5.here hx rfl (hb hby at_211) ?_
    refine XS.icmpYes X5.here hx rfl (pc0 := 212) (pc' := 232) rfl (hb hby at_212) rfl (feq hc212).2 (by decide) (by decide) ?_
    show Steps p.tables e below (T5.setTop (mkF m 232 #[.val (.int p1), .val (.long q2), .second, .val (.int p3), .val (.int p4), .val (.int (p4 &&& (3 : Int32))), .val (.double (own_sc p4)), .second, .val (.int (p1 &&& (3 : Int32))), .val (.long (own_H q2)), .second, .val (.double (9223372036854775808 : UInt64)), .second, .val (.long (own_k q2)), .second, .val (.double (FP.dmul (FP.l2d (own_k q2)) (own_sc p4))), .second, .unset, .unset, .unset, .unset, .unset, .unset, .unset, .unset, .unset, .unset, .unset] [])) _
    refine XS.lload X5.here hx rfl (hb hby at_232) rfl ?_
    refine XS.lconst X5.here hx rfl (hb hby at_234) ?_
    show Steps p.tables e below (T5.setTop (mkF m 235 #[.val (.int p1), .val (.long q2), .second, .val (.int p3), .val (.int p4), .val (.int (p4 &&& (3 : Int32))), .val (.double (own_sc p4)), .second, .val (.int (p1 &&& (3 : Int32))), .val (.long (own_H q2)), .second, .val (.double (9223372036854775808 : UInt64)), .second, .val (.long (own_k q2)), .second, .val (.double (FP.dmul (FP.l2d (own_k q2)) (own_sc p4))), .second, .unset, .unset, .unset, .unset, .unset, .unset, .unset, .unset, .unset, .unset, .unset] [(.long (1 : Int64)), (.long (own_k q2))])) _
    refine XS.lcmp X5.here hx rfl (hb hby at_235) rfl ?_
    refine XS.ifYes X5.here hx rfl (pc0 := 236) (pc' := 243) rfl (hb hby at_236) rfl ((if0 _ _).trans (tlt hc236).1) (by decide) (by decide) ?_
    show Steps p.tables e below (T5.setTop (mkF m 243 #[.val (.int p1), .val (.long q2), .second, .val (.int p3), .val (.int p4), .val (.int (p4 &&& (3 : Int32))), .val (.double (own_sc p4)), .second, .val (.int (p1 &&& (3 : Int32))), .val (.long (own_H q2)), .second, .val (.double (9223372036854775808 : UInt64)), .second, .val (.long (own_k q2)), .second, .val (.double (FP.dmul (FP.l2d (own_k q2)) (own_sc p4))), .second, .unset, .unset, .unset, .unset, .unset, .unset, .unset, .unset, .unset, .unset, .unset] [])) _
    refine XS.iconst X5.here hx rfl (hb hby at_243) ?_
    refine XS.istore X5.here hx rfl (hb hby at_244) rfl (l' := #[.val (.int p1), .val (.long q2), .second, .val (.int p3), .val (.int p4), .val (.int (p4 &&& (3 : Int32))), .val (.double (own_sc p4)), .second, .val (.int (p1 &&& (3 : Int32))), .val (.long (own_H q2)), .second, .val (.double (9223372036854775808 : UInt64)), .second, .val (.long (own_k q2)), .second, .val (.double (FP.dmul (FP.l2d (own_k q2)) (own_sc p4))), .second, .val (.int (0 : Int32)), .unset, .unset, .unset, .unset, .unset, .unset, .unset, .unset, .unset, .unset]) rfl ?_
    show Steps p.tables e below (T5.setTop (mkF m 246 #[.val (.int p1), .val (.long q2), .second, .val (.int p3), .val (.int p4), .val (.int (p4 &&& (3 : Int32))), .val (.double (own_sc p4)), .second, .val (.int (p1 &&& (3 : Int32))), .val (.long (own_H q2)), .second, .val (.double (9223372036854775808 : UInt64)), .second, .val (.long (own_k q2)), .second, .val (.double (FP.dmul (FP.l2d (own_k q2)) (own_sc p4))), .second, .val (.int (0 : Int32)), .unset, .unset, .unset, .unset, .unset, .unset, .unset, .unset, .unset, .unset] [])) _
    refine XS.dload X5.here hx rfl (hb hby at_246) rfl ?_
    refine XS.dload X5.here hx rfl (hb hby at_248) rfl ?_
    show Steps p.tables e below (T5.setTop (mkF m 250 #[.val (.int p1), .val (.long q2), .second, .val (.int p3), .val (.int p4), .val (.int (p4 &&& (3 : Int32))), .val (.double (own_sc p4)), .second, .val (.int (p1 &&& (3 : Int32))), .val (.long (own_H q2)), .second, .val (.double (9223372036854775808 : UInt64)), .second, .val (.long (own_k q2)), .second, .val (.double (FP.dmul (FP.l2d (own_k q2)) (own_sc p4))), .second, .val (.int (0 : Int32)), .unset, .unset, .unset, .unset, .unset, .unset, .unset, .unset, .unset, .unset] [(.double (9223372036854775808 : UInt64)), (.double (FP.dmul (FP.l2d (own_k q2)) (own_sc p4)))])) _
    refine st6 _ ?_
    show Steps p.tables e below (T6.setTop (mkF m 253 #[.val (.int p1), .val (.long q2), .second, .val (.int p3), .val (.int p4), .val (.int (p4 &&& (3 : Int32))), .val (.double (own_sc p4)), .second, .val (.int (p1 &&& (3 : Int32))), .val (.long (own_H q2)), .second, .val (.double (9223372036854775808 : UInt64)), .second, .val (.long (own_k q2)), .second, .val (.double (FP.dmul (FP.l2d (own_k q2)) (own_sc p4))), .second, .val (.int (0 : Int32)), .unset, .unset, .unset, .unset, .unset, .unset, .unset, .unset, .unset, .unset] [(.int (own_ich (FP.dmul (FP.l2d (own_k q2)) (own_sc p4)) (9223372036854775808 : UInt64)))])) _
    refine XS.iload X6.here hx rfl (hb hby at_253) rfl ?_
    refine XS.icmpNo X6.here hx rfl (hb hby at_255) rfl (teq (own_k1c own_z_neg hc212 hc236 : (own_ich (FP.dmul (FP.l2d (own_k q2)) (own_sc p4)) (9223372036854775808 : UInt64)) = (0 : Int32))).2 ?_
    show Steps p.tables e below (T6.setTop (mkF m 258 #[.val (.int p1), .val (.long q2), .second, .val (.int p3), .val (.int p4), .val (.int (p4 &&& (3 : Int32))), .val (.double (own_sc p4)), .second, .val (.int (p1 &&& (3 : Int32))), .val (.long (own_H q2)), .second, .val (.double (9223372036854775808 : UInt64)), .second, .val (.long (own_k q2)), .second, .val (.double (FP.dmul (FP.l2d (own_k q2)) (own_sc p4))), .second, .val (.int (0 : Int32)), .unset, .unset, .unset, .unset, .unset, .unset, .unset, .unset, .unset, .unset] [])) _
    refine XS.iconst X6.here hx rfl (hb hby at_258) ?_
    refine XS.goto X6.here hx rfl (pc0 := 259) (pc' := 263) rfl (hb hby at_259) (by decide) (by decide) ?_
    show Steps p.tables e below (T6.setTop (mkF m 263 #[.val (.int p1), .val (.long q2), .second, .val (.int p3), .val (.int p4), .val (.int (p4 &&& (3 : Int32))), .val (.double (own_sc p4)), .second, .val (.int (p1 &&& (3 : Int32))), .val (.long (own_H q2)), .second, .val (.double (9223372036854775808 : UInt64)), .second, .val (.long (own_k q2)), .second, .val (.double (FP.dmul (FP.l2d (own_k q2)) (own_sc p4))), .second, .val (.int (0 : Int32)), .unset, .unset, .unset, .unset, .unset, .unset, .unset, .unset, .unset, .unset] [(.int (1 : Int32))])) _
    exact retN X6 hx (t := .boolean) Bd.returns (by simp) (hb hby at_263) hr
  · show Q0 Z p1 q2 p3 p4 h0 n0 _ T6.heap _
    exact ⟨rfl, N6⟩
set_option maxRecDepth 65536 in
set_option maxHeartbeats 40000000 in
theorem rm0_bnd (l : Launch) (Z : State) (a0 : Array Value) (hw : ∀ d ∈ tables_1, d.before a0 Z = true) (ws : List Jvm.Cond) (p1 : Int32) (q2 : Int64) (p3 : Int32) (p4 : Int32) (h0 : Heap) (n0 : Nat) (Z0 : n0 ≤ h0.size) (hc31 : ¬ ((p1 &&& (3 : Int32)) = (0 : Int32))) (hc176 : (p1 &&& (3 : Int32)) = (1 : Int32)) (hc182 : ¬ ((p1 &&& (4 : Int32)) = (0 : Int32))) (hc212 : ¬ ((p4 &&& (3 : Int32)) = (1 : Int32))) (hc236 : ¬ ((lcmpW (own_k q2) (1 : Int64)) < (0 : Int32))) :
    MetFree l x (head1 (Jvm.Cond.code x code maxLocals ret :: ws) room_1) (fun a U => a = #[(.int p1), (.long q2), (.int p3), (.int p4)] ∧ Z.Warmed39 U.vm ∧ U.heap = h0) (fun _ _ _ _ _ => True) (fun _ U o U' => ∃ v L, o = .returned v ∧ Q0 Z p1 q2 p3 p4 h0 n0 v U'.heap L ∧ FrameEnd U o U' L room_1.cells room_1.slots) := by
  have hnz198 : ¬ ((9007199254740992 : Int64) = (0 : Int64)) := by decide
  have hnn206 : Jvm.Free.Fl.NoNaN64 (FP.dmul (FP.l2d (own_k q2)) (own_sc p4)) := own_nn _ _
  refine MetFree.of_bodySF (plainFor_of_name pn_0) hisR ?_
  intro p e s m args below meth c s₁ Bd hml0 hP hK
  obtain ⟨rfl, hZ, hh⟩ := hP
  have hx := Bd.exec
  have hby := Bd.bytes
  have hml : c.maxLocals = 28 := hml0
  have hown : s.vm.findClass "com/example/level_ring/levelring/placement/MembersIsCertainlyHigherPinLaw" = some m.cls := findClass_of_methodNamed Bd.named
  have hnm := (name_of_methodNamed Bd.named Bd.method).1
  have X0 : Stand p l e room_1 s m #[(.int p1), (.long q2), (.int p3), (.int p4)] below meth c s₁ [] 0 0 := Stand.of_body Bd
  have e0 : s₁.heap = h0 := by rw [← hh, Bd.state]; rfl
  have N0 := Fr.nil n0
  have pre0 : ∀ t, Steps p.tables e below (s₁.setTop (mkF m 0 #[.val (.int p1), .val (.long q2), .second, .val (.int p3), .val (.int p4), .unset, .unset, .unset, .unset, .unset, .unset, .unset, .unset, .unset, .unset, .unset, .unset, .unset, .unset, .unset, .unset, .unset, .unset, .unset, .unset, .unset, .unset, .unset] [])) t → Steps p.tables e below (s₁.setTop (entryFrame m #[(.int p1), (.long q2), (.int p3), (.int p4)] maxLocals)) t := fun t k => castTop (ef_0 m p1 q2 p3 p4) k
  -- 3. LAWS
  -- pc 8: com/example/level_ring/levelring/placement/MembersIsCertainlyHigherPinLaw.scaleOf by its contract rm1
  obtain ⟨_, _, ⟨T5, L5, k5, n5⟩, -, X5, ⟨Lc5, hQ5, l5, y5, z5⟩, st5⟩ := Jvm.LawKit.callS X0 hx (y := (⟨"com/example/level_ring/levelring/placement/MembersIsCertainlyHigherPinLaw", "scaleOf", "(I)D"⟩ : MethodName)) hown (mvT hZ (hw _ (List.mem_of_getElem? (i := 0) rfl))) (mvT hZ (hw _ (List.mem_of_getElem? (i := 1) rfl))) (mvT hZ (hw _ (List.mem_of_getElem? (i := 2) rfl))) (mvT hZ (hw _ (List.mem_of_getElem? (i := 3) rfl))) (by decide) (backOf (W := 0) (rm1 l Z a0 hw [] (p4 &&& (3 : Int32))  h0 n0 Z0) hZ (hw _ (List.mem_of_getElem? (i := 3) rfl)) (hw _ (List.mem_of_getElem? (i := 2) rfl)) (by decide) (by decide)) (g := (mkF m 8 #[.val (.int p1), .val (.long q2), .second, .val (.int p3), .val (.int p4), .val (.int (p4 &&& (3 : Int32))), .unset, .unset, .unset, .unset, .unset, .unset, .unset, .unset, .unset, .unset, .unset, .unset, .unset, .unset, .unset, .unset, .unset, .unset, .unset, .unset, .unset, .unset] [(.int (p4 &&& (3 : Int32)))])) rfl (by rw [hml]; rfl) (argsL := [(.int (p4 &&& (3 : Int32)))]) (rest := []) (lenOf pdw_0 rfl) rfl (by show 2 * 0 + _ ≤ _; exact Nat.le_of_eq rfl) (hb hby at_8) (fun _ _ => ⟨rfl, e0, (by decide : 0 + 0 ≤ _), (by decide : 0 + 0 ≤ _)⟩)
  dsimp only [Pt.U, Pt.locs, Pt.cells, Pt.slots] at X5 l5 y5 z5 st5 hQ5
  subst l5 y5 z5
  obtain ⟨rfl, N5q, hh5⟩ := hQ5
  have N5 := Fr.app N0 N5q
  -- pc 250: com/example/level_ring/levelring/placement/Members.isCertainlyHigher by its contract rm2
  obtain ⟨_, _, ⟨T6, L6, k6, n6⟩, -, X6, ⟨Lc6, hQ6, l6, y6, z6⟩, st6⟩ := Jvm.LawKit.callS X5 hx (y := (⟨"com/example/level_ring/levelring/placement/Members", "isCertainlyHigher", "(DD)Z"⟩ : MethodName)) hown (mvT hZ (hw _ (List.mem_of_getElem? (i := 8) rfl))) (mvT hZ (hw _ (List.mem_of_getElem? (i := 9) rfl))) (mvT hZ (hw _ (List.mem_of_getElem? (i := 10) rfl))) (mvT hZ (hw _ (List.mem_of_getElem? (i := 11) rfl))) (by decide) (backOf (W := 0) (rm2 l Z a0 hw [] (FP.dmul (FP.l2d (own_k q2)) (own_sc p4)) (9223372036854775808 : UInt64)  h0 n0 Z0 (dmul_out (by unfold Fin64; decide +kernel) own_C_fin)) hZ (hw _ (List.mem_of_getElem? (i := 11) rfl)) (hw _ (List.mem_of_getElem? (i := 10) rfl)) (by decide) (by decide)) (g := (mkF m 250 #[.val (.int p1), .val (.long q2), .second, .val (.int p3), .val (.int p4), .val (.int (p4 &&& (3 : Int32))), .val (.double (own_sc p4)), .second, .val (.int (p1 &&& (3 : Int32))), .val (.long (own_H q2)), .second, .val (.double (9223372036854775808 : UInt64)), .second, .val (.long (own_k q2)), .second, .val (.double (FP.dmul (FP.l2d (own_k q2)) (own_sc p4))), .second, .val (.int (1 : Int32)), .unset, .unset, .unset, .unset, .unset, .unset, .unset, .unset, .unset, .unset] [(.double (9223372036854775808 : UInt64)), (.double (FP.dmul (FP.l2d (own_k q2)) (own_sc p4)))])) rfl (by rw [hml]; rfl) (argsL := [(.double (FP.dmul (FP.l2d (own_k q2)) (own_sc p4))), (.double (9223372036854775808 : UInt64))]) (rest := []) (lenOf pdw_1 rfl) rfl (by show 2 * 0 + _ ≤ _; exact Nat.le_of_eq rfl) (hb hby at_250) (fun _ _ => ⟨rfl, hh5, (by decide : 0 + 0 ≤ _), (by decide : 0 + 0 ≤ _)⟩)
  dsimp only [Pt.U, Pt.locs, Pt.cells, Pt.slots] at X6 l6 y6 z6 st6 hQ6
  subst l6 y6 z6
  obtain ⟨rfl, N6q, hh6⟩ := hQ6
  have N6 := Fr.app N5 N6q
  obtain ⟨fs, hr, hrun, hended, hW, hsame⟩ := X6.leave (v := some (.int (1 : Int32))) (fun h => by rw [Bd.returns] at h; cases h)
  refine ⟨_, _, pre0 _ ?_, hrun, hended, _, _, rfl, ?_, ⟨_, rfl⟩, hW, hsame.mono (by decide) (by decide)⟩
  -- 4. STEPS
  · show Steps p.tables e below (s₁.setTop (mkF m 0 #[.val (.int p1), .val (.long q2), .second, .val (.int p3), .val (.int p4), .unset, .unset, .unset, .unset, .unset, .unset, .unset, .unset, .unset, .unset, .unset, .unset, .unset, .unset, .unset, .unset, .unset, .unset, .unset, .unset, .unset, .unset, .unset] [])) _
    refine XS.iload X0.here hx rfl (hb hby at_0) rfl ?_
    refine XS.iconst X0.here hx rfl (hb hby at_2) ?_
    show Steps p.tables e below (s₁.setTop (mkF m 3 #[.val (.int p1), .val (.long q2), .second, .val (.int p3), .val (.int p4), .unset, .unset, .unset, .unset, .unset, .unset, .unset, .unset, .unset, .unset, .unset, .unset, .unset, .unset, .unset, .unset, .unset, .unset, .unset, .unset, .unset, .unset, .unset] [(.int (3 : Int32)), (.int p4)])) _
    refine XS.iand X0.here hx rfl (hb hby at_3) rfl ?_
    refine XS.istore X0.here hx rfl (hb hby at_4) rfl (l' := #[.val (.int p1), .val (.long q2), .second, .val (.int p3), .val (.int p4), .val (.int (p4 &&& (3 : Int32))), .unset, .unset, .unset, .unset, .unset, .unset, .unset, .unset, .unset, .unset, .unset, .unset, .unset, .unset, .unset, .unset, .unset, .unset, .unset, .unset, .unset, .unset]) rfl ?_
    show Steps p.tables e below (s₁.setTop (mkF m 6 #[.val (.int p1), .val (.long q2), .second, .val (.int p3), .val (.int p4), .val (.int (p4 &&& (3 : Int32))), .unset, .unset, .unset, .unset, .unset, .unset, .unset, .unset, .unset, .unset, .unset, .unset, .unset, .unset, .unset, .unset, .unset, .unset, .unset, .unset, .unset, .unset] [])) _
    refine XS.iload X0.here hx rfl (hb hby at_6) rfl ?_
    show Steps p.tables e below (s₁.setTop (mkF m 8 #[.val (.int p1), .val (.long q2), .second, .val (.int p3), .val (.int p4), .val (.int (p4 &&& (3 : Int32))), .unset, .unset, .unset, .unset, .unset, .unset, .unset, .unset, .unset, .unset, .unset, .unset, .unset, .unset, .unset, .unset, .unset, .unset, .unset, .unset, .unset, .unset] [(.int (p4 &&& (3 : Int32)))])) _
    refine st5 _ ?_
    show Steps p.tables e below (T5.setTop (mkF m 11 #[.val (.int p1), .val (.long q2), .second, .val (.int p3), .val (.int p4), .val (.int (p4 &&& (3 : Int32))), .unset, .unset, .unset, .unset, .unset, .unset, .unset, .unset, .unset, .unset, .unset, .unset, .unset, .unset, .unset, .unset, .unset, .unset, .unset, .unset, .unset, .unset] [(.double (own_sc p4))])) _
    refine XS.dstore X5.here hx rfl (hb hby at_11) rfl (l' := #[.val (.int p1), .val (.long q2), .second, .val (.int p3), .val (.int p4), .val (.int (p4 &&& (3 : Int32))), .val (.double (own_sc p4)), .second, .unset, .unset, .unset, .unset, .unset, .unset, .unset, .unset, .unset, .unset, .unset, .unset, .unset, .unset, .unset, .unset, .unset, .unset, .unset, .unset]) rfl ?_
    refine XS.iloadN X5.here hx rfl (hb hby at_13) rfl ?_
    show Steps p.tables e below (T5.setTop (mkF m 14 #[.val (.int p1), .val (.long q2), .second, .val (.int p3), .val (.int p4), .val (.int (p4 &&& (3 : Int32))), .val (.double (own_sc p4)), .second, .unset, .unset, .unset, .unset, .unset, .unset, .unset, .unset, .unset, .unset, .unset, .unset, .unset, .unset, .unset, .unset, .unset, .unset, .unset, .unset] [(.int p1)])) _
    refine XS.iconst X5.here hx rfl (hb hby at_14) ?_
    refine XS.iand X5.here hx rfl (hb hby at_15) rfl ?_
    show Steps p.tables e below (T5.setTop (mkF m 16 #[.val (.int p1), .val (.long q2), .second, .val (.int p3), .val (.int p4), .val (.int (p4 &&& (3 : Int32))), .val (.double (own_sc p4)), .second, .unset, .unset, .unset, .unset, .unset, .unset, .unset, .unset, .unset, .unset, .unset, .unset, .unset, .unset, .unset, .unset, .unset, .unset, .unset, .unset] [(.int (p1 &&& (3 : Int32)))])) _
    refine XS.istore X5.here hx rfl (hb hby at_16) rfl (l' := #[.val (.int p1), .val (.long q2), .second, .val (.int p3), .val (.int p4), .val (.int (p4 &&& (3 : Int32))), .val (.double (own_sc p4)), .second, .val (.int (p1 &&& (3 : Int32))), .unset, .unset, .unset, .unset, .unset, .unset, .unset, .unset, .unset, .unset, .unset, .unset, .unset, .unset, .unset, .unset, .unset, .unset, .unset]) rfl ?_
    show Steps p.tables e below (T5.setTop (mkF m 18 #[.val (.int p1), .val (.long q2), .second, .val (.int p3), .val (.int p4), .val (.int (p4 &&& (3 : Int32))), .val (.double (own_sc p4)), .second, .val (.int (p1 &&& (3 : Int32))), .unset, .unset, .unset, .unset, .unset, .unset, .unset, .unset, .unset, .unset, .unset, .unset, .unset, .unset, .unset, .unset, .unset, .unset, .unset] [])) _
    refine X5.ldc2Long hx hown (mvT hZ (hw _ (List.mem_of_getElem? (i := 4) rfl))) (g := (mkF m 18 #[.val (.int p1), .val (.long q2), .second, .val (.int p3), .val (.int p4), .val (.int (p4 &&& (3 : Int32))), .val (.double (own_sc p4)), .second, .val (.int (p1 &&& (3 : Int32))), .unset, .unset, .unset, .unset, .unset, .unset, .unset, .unset, .unset, .unset, .unset, .unset, .unset, .unset, .unset, .unset, .unset, .unset, .unset] [])) rfl (hb hby at_18) _ ?_
    show Steps p.tables e below (T5.setTop (mkF m 21 #[.val (.int p1), .val (.long q2), .second, .val (.int p3), .val (.int p4), .val (.int (p4 &&& (3 : Int32))), .val (.double (own_sc p4)), .second, .val (.int (p1 &&& (3 : Int32))), .unset, .unset, .unset, .unset, .unset, .unset, .unset, .unset, .unset, .unset, .unset, .unset, .unset, .unset, .unset, .unset, .unset, .unset, .unset] [(.long (4503599627370496 : Int64))])) _
    refine XS.lloadN X5.here hx rfl (hb hby at_21) rfl ?_
    show Steps p.tables e below (T5.setTop (mkF m 22 #[.val (.int p1), .val (.long q2), .second, .val (.int p3), .val (.int p4), .val (.int (p4 &&& (3 : Int32))), .val (.double (own_sc p4)), .second, .val (.int (p1 &&& (3 : Int32))), .unset, .unset, .unset, .unset, .unset, .unset, .unset, .unset, .unset, .unset, .unset, .unset, .unset, .unset, .unset, .unset, .unset, .unset, .unset] [(.long q2), (.long (4503599627370496 : Int64))])) _
    refine X5.ldc2Long hx hown (mvT hZ (hw _ (List.mem_of_getElem? (i := 5) rfl))) (g := (mkF m 22 #[.val (.int p1), .val (.long q2), .second, .val (.int p3), .val (.int p4), .val (.int (p4 &&& (3 : Int32))), .val (.double (own_sc p4)), .second, .val (.int (p1 &&& (3 : Int32))), .unset, .unset, .unset, .unset, .unset, .unset, .unset, .unset, .unset, .unset, .unset, .unset, .unset, .unset, .unset, .unset, .unset, .unset, .unset] [(.long q2), (.long (4503599627370496 : Int64))])) rfl (hb hby at_22) _ ?_
    show Steps p.tables e below (T5.setTop (mkF m 25 #[.val (.int p1), .val (.long q2), .second, .val (.int p3), .val (.int p4), .val (.int (p4 &&& (3 : Int32))), .val (.double (own_sc p4)), .second, .val (.int (p1 &&& (3 : Int32))), .unset, .unset, .unset, .unset, .unset, .unset, .unset, .unset, .unset, .unset, .unset, .unset, .unset, .unset, .unset, .unset, .unset, .unset, .unset] [(.long (2251799813685247 : Int64)), (.long q2), (.long (4503599627370496 : Int64))])) _
    refine XS.land X5.here hx rfl (hb hby at_25) rfl ?_
    refine XS.lor X5.here hx rfl (hb hby at_26) rfl ?_
    show Steps p.tables e below (T5.setTop (mkF m 27 #[.val (.int p1), .val (.long q2), .second, .val (.int p3), .val (.int p4), .val (.int (p4 &&& (3 : Int32))), .val (.double (own_sc p4)), .second, .val (.int (p1 &&& (3 : Int32))), .unset, .unset, .unset, .unset, .unset, .unset, .unset, .unset, .unset, .unset, .unset, .unset, .unset, .unset, .unset, .unset, .unset, .unset, .unset] [(.long (own_H q2))])) _
    refine XS.lstore X5.here hx rfl (hb hby at_27) rfl (l' := #[.val (.int p1), .val (.long q2), .second, .val (.int p3), .val (.int p4), .val (.int (p4 &&& (3 : Int32))), .val (.double (own_sc p4)), .second, .val (.int (p1 &&& (3 : Int32))), .val (.long (own_H q2)), .second, .unset, .unset, .unset, .unset, .unset, .unset, .unset, .unset, .unset, .unset, .unset, .unset, .unset, .unset, .unset, .unset, .unset]) rfl ?_
    refine XS.iload X5.here hx rfl (hb hby at_29) rfl ?_
    show Steps p.tables e below (T5.setTop (mkF m 31 #[.val (.int p1), .val (.long q2), .second, .val (.int p3), .val (.int p4), .val (.int (p4 &&& (3 : Int32))), .val (.double (own_sc p4)), .second, .val (.int (p1 &&& (3 : Int32))), .val (.long (own_H q2)), .second, .unset, .unset, .unset, .unset, .unset, .unset, .unset, .unset, .unset, .unset, .unset, .unset, .unset, .unset, .unset, .unset, .unset] [(.int (p1 &&& (3 : Int32)))])) _
    refine XS.ifYes X5.here hx rfl (pc0 := 31) (pc' := 173) rfl (hb hby at_31) rfl ((if0 _ _).trans (feq hc31).2) (by decide) (by decide) ?_
    refine XS.iload X5.here hx rfl (hb hby at_173) rfl ?_
    show Steps p.tables e below (T5.setTop (mkF m 175 #[.val (.int p1), .val (.long q2), .second, .val (.int p3), .val (.int p4), .val (.int (p4 &&& (3 : Int32))), .val (.double (own_sc p4)), .second, .val (.int (p1 &&& (3 : Int32))), .val (.long (own_H q2)), .second, .unset, .unset, .unset, .unset, .unset, .unset, .unset, .unset, .unset, .unset, .unset, .unset, .unset, .unset, .unset, .unset, .unset] [(.int (p1 &&& (3 : Int32)))])) _
    refine XS.iconst X5.here hx rfl (hb hby at_175) ?_
    refine XS.icmpNo X5.here hx rfl (hb hby at_176) rfl (teq hc176).2 ?_
    show Steps p.tables e below (T5.setTop (mkF m 179 #[.val (.int p1), .val (.long q2), .second, .val (.int p3), .val (.int p4), .val (.int (p4 &&& (3 : Int32))), .val (.double (own_sc p4)), .second, .val (.int (p1 &&& (3 : Int32))), .val (.long (own_H q2)), .second, .unset, .unset, .unset, .unset, .unset, .unset, .unset, .unset, .unset, .unset, .unset, .unset, .unset, .unset, .unset, .unset, .unset] [])) _
    refine XS.iloadN X5.here hx rfl (hb hby at_179) rfl ?_
    refine XS.iconst X5.here hx rfl (hb hby at_180) ?_
    show Steps p.tables e below (T5.setTop (mkF m 181 #[.val (.int p1), .val (.long q2), .second, .val (.int p3), .val (.int p4), .val (.int (p4 &&& (3 : Int32))), .val (.double (own_sc p4)), .second, .val (.int (p1 &&& (3 : Int32))), .val (.long (own_H q2)), .second, .unset, .unset, .unset, .unset, .unset, .unset, .unset, .unset, .unset, .unset, .unset, .unset, .unset, .unset, .unset, .unset, .unset] [(.int (4 : Int32)), (.int p1)])) _
    refine XS.iand X5.here hx rfl (hb hby at_181) rfl ?_
    refine XS.ifNo X5.here hx rfl (hb hby at_182) rfl ((if0 _ _).trans (feq hc182).1) ?_
    show Steps p.tables e below (T5.setTop (mkF m 185 #[.val (.int p1), .val (.long q2), .second, .val (.int p3), .val (.int p4), .val (.int (p4 &&& (3 : Int32))), .val (.double (own_sc p4)), .second, .val (.int (p1 &&& (3 : Int32))), .val (.long (own_H q2)), .second, .unset, .unset, .unset, .unset, .unset, .unset, .unset, .unset, .unset, .unset, .unset, .unset, .unset, .unset, .unset, .unset, .unset] [])) _
    refine X5.ldc2DoubleC hx hown (mvT hZ (hw _ (List.mem_of_getElem? (i := 18) rfl))) (g := (mkF m 185 #[.val (.int p1), .val (.long q2), .second, .val (.int p3), .val (.int p4), .val (.int (p4 &&& (3 : Int32))), .val (.double (own_sc p4)), .second, .val (.int (p1 &&& (3 : Int32))), .val (.long (own_H q2)), .second, .unset, .unset, .unset, .unset, .unset, .unset, .unset, .unset, .unset, .unset, .unset, .unset, .unset, .unset, .unset, .unset, .unset] [])) rfl (hb hby at_185) _ ?_
    show Steps p.tables e below (T5.setTop (mkF m 188 #[.val (.int p1), .val (.long q2), .second, .val (.int p3), .val (.int p4), .val (.int (p4 &&& (3 : Int32))), .val (.double (own_sc p4)), .second, .val (.int (p1 &&& (3 : Int32))), .val (.long (own_H q2)), .second, .unset, .unset, .unset, .unset, .unset, .unset, .unset, .unset, .unset, .unset, .unset, .unset, .unset, .unset, .unset, .unset, .unset] [(.double (9223372036854775808 : UInt64))])) _
    refine XS.goto X5.here hx rfl (pc0 := 188) (pc' := 192) rfl (hb hby at_188) (by decide) (by decide) ?_
    refine XS.dstore X5.here hx rfl (hb hby at_192) rfl (l' := #[.val (.int p1), .val (.long q2), .second, .val (.int p3), .val (.int p4), .val (.int (p4 &&& (3 : Int32))), .val (.double (own_sc p4)), .second, .val (.int (p1 &&& (3 : Int32))), .val (.long (own_H q2)), .second, .val (.double (9223372036854775808 : UInt64)), .second, .unset, .unset, .unset, .unset, .unset, .unset, .unset, .unset, .unset, .unset, .unset, .unset, .unset, .unset, .unset]) rfl ?_
    show Steps p.tables e below (T5.setTop (mkF m 194 #[.val (.int p1), .val (.long q2), .second, .val (.int p3), .val (.int p4), .val (.int (p4 &&& (3 : Int32))), .val (.double (own_sc p4)), .second, .val (.int (p1 &&& (3 : Int32))), .val (.long (own_H q2)), .second, .val (.double (9223372036854775808 : UInt64)), .second, .unset, .unset, .unset, .unset, .unset, .unset, .unset, .unset, .unset, .unset, .unset, .unset, .unset, .unset, .unset] [])) _
    refine XS.lloadN X5.here hx rfl (hb hby at_194) rfl ?_
    show Steps p.tables e below (T5.setTop (mkF m 195 #[.val (.int p1), .val (.long q2), .second, .val (.int p3), .val (.int p4), .val (.int (p4 &&& (3 : Int32))), .val (.double (own_sc p4)), .second, .val (.int (p1 &&& (3 : Int32))), .val (.long (own_H q2)), .second, .val (.double (9223372036854775808 : UInt64)), .second, .unset, .unset, .unset, .unset, .unset, .unset, .unset, .unset, .unset, .unset, .unset, .unset, .unset, .unset, .unset] [(.long q2)])) _
    refine X5.ldc2Long hx hown (mvT hZ (hw _ (List.mem_of_getElem? (i := 16) rfl))) (g := (mkF m 195 #[.val (.int p1), .val (.long q2), .second, .val (.int p3), .val (.int p4), .val (.int (p4 &&& (3 : Int32))), .val (.double (own_sc p4)), .second, .val (.int (p1 &&& (3 : Int32))), .val (.long (own_H q2)), .second, .val (.double (9223372036854775808 : UInt64)), .second, .unset, .unset, .unset, .unset, .unset, .unset, .unset, .unset, .unset, .unset, .unset, .unset, .unset, .unset, .unset] [(.long q2)])) rfl (hb hby at_195) _ ?_
    show Steps p.tables e below (T5.setTop (mkF m 198 #[.val (.int p1), .val (.long q2), .second, .val (.int p3), .val (.int p4), .val (.int (p4 &&& (3 : Int32))), .val (.double (own_sc p4)), .second, .val (.int (p1 &&& (3 : Int32))), .val (.long (own_H q2)), .second, .val (.double (9223372036854775808 : UInt64)), .second, .unset, .unset, .unset, .unset, .unset, .unset, .unset, .unset, .unset, .unset, .unset, .unset, .unset, .unset, .unset] [(.long (9007199254740992 : Int64)), (.long q2)])) _
    refine XS.lrem X5.here hx rfl (hb hby at_198) rfl hnz198 ?_
    refine XS.lstore X5.here hx rfl (hb hby at_199) rfl (l' := #[.val (.int p1), .val (.long q2), .second, .val (.int p3), .val (.int p4), .val (.int (p4 &&& (3 : Int32))), .val (.double (own_sc p4)), .second, .val (.int (p1 &&& (3 : Int32))), .val (.long (own_H q2)), .second, .val (.double (9223372036854775808 : UInt64)), .second, .val (.long (own_k q2)), .second, .unset, .unset, .unset, .unset, .unset, .unset, .unset, .unset, .unset, .unset, .unset, .unset, .unset]) rfl ?_
    show Steps p.tables e below (T5.setTop (mkF m 201 #[.val (.int p1), .val (.long q2), .second, .val (.int p3), .val (.int p4), .val (.int (p4 &&& (3 : Int32))), .val (.double (own_sc p4)), .second, .val (.int (p1 &&& (3 : Int32))), .val (.long (own_H q2)), .second, .val (.double (9223372036854775808 : UInt64)), .second, .val (.long (own_k q2)), .second, .unset, .unset, .unset, .unset, .unset, .unset, .unset, .unset, .unset, .unset, .unset, .unset, .unset] [])) _
    refine XS.lload X5.here hx rfl (hb hby at_201) rfl ?_
    refine XS.l2dS X5.here hx rfl (hb hby at_203) rfl rfl ?_
    show Steps p.tables e below (T5.setTop (mkF m 204 #[.val (.int p1), .val (.long q2), .second, .val (.int p3), .val (.int p4), .val (.int (p4 &&& (3 : Int32))), .val (.double (own_sc p4)), .second, .val (.int (p1 &&& (3 : Int32))), .val (.long (own_H q2)), .second, .val (.double (9223372036854775808 : UInt64)), .second, .val (.long (own_k q2)), .second, .unset, .unset, .unset, .unset, .unset, .unset, .unset, .unset, .unset, .unset, .unset, .unset, .unset] [(.double (FP.l2d (own_k q2)))])) _
    refine XS.dload X5.here hx rfl (hb hby at_204) rfl ?_
    refine XS.dmulS X5.here hx rfl (hb hby at_206) rfl hnn206 rfl ?_
    show Steps p.tables e below (T5.setTop (mkF m 207 #[.val (.int p1), .val (.long q2), .second, .val (.int p3), .val (.int p4), .val (.int (p4 &&& (3 : Int32))), .val (.double (own_sc p4)), .second, .val (.int (p1 &&& (3 : Int32))), .val (.long (own_H q2)), .second, .val (.double (9223372036854775808 : UInt64)), .second, .val (.long (own_k q2)), .second, .unset, .unset, .unset, .unset, .unset, .unset, .unset, .unset, .unset, .unset, .unset, .unset, .unset] [(.double (FP.dmul (FP.l2d (own_k q2)) (own_sc p4)))])) _
    refine XS.dstore X5.here hx rfl (hb hby at_207) rfl (l' := #[.val (.int p1), .val (.long q2), .second, .val (.int p3), .val (.int p4), .val (.int (p4 &&& (3 : Int32))), .val (.double (own_sc p4)), .second, .val (.int (p1 &&& (3 : Int32))), .val (.long (own_H q2)), .second, .val (.double (9223372036854775808 : UInt64)), .second, .val (.long (own_k q2)), .second, .val (.double (FP.dmul (FP.l2d (own_k q2)) (own_sc p4))), .second, .unset, .unset, .unset, .unset, .unset, .unset, .unset, .unset, .unset, .unset, .unset]) rfl ?_
    refine XS.iload X5.here hx rfl (hb hby at_209) rfl ?_
    show Steps p.tables e below (T5.setTop (mkF m 211 #[.val (.int p1), .val (.long q2), .second, .val (.int p3), .val (.int p4), .val (.int (p4 &&& (3 : Int32))), .val (.double (own_sc p4)), .second, .val (.int (p1 &&& (3 : Int32))), .val (.long (own_H q2)), .second, .val (.double (9223372036854775808 : UInt64)), .second, .val (.long (own_k q2)), .second, .val (.double (FP.dmul (FP.l2d (own_k q2)) (own_sc p4))), .second, .unset, .unset, .unset, .unset, .unset, .unset, .unset, .unset, .unset, .unset, .unset] [(.int (p4 &&& (3 : Int32)))])) _
    refine XS.iconst X5.here hx rfl (hb hby at_211) ?_
    refine XS.icmpYes X5.here hx rfl (pc0 := 212) (pc' := 232) rfl (hb hby at_212) rfl (feq hc212).2 (by decide) (by decide) ?_
    show Steps p.tables e below (T5.setTop (mkF m 232 #[.val (.int p1), .val (.long q2), .second, .val (.int p3), .val (.int p4), .val (.int (p4 &&& (3 : Int32))), .val (.double (own_sc p4)), .second, .val (.int (p1 &&& (3 : Int32))), .val (.long (own_H q2)), .second, .val (.double (9223372036854775808 : UInt64)), .second, .val (.long (own_k q2)), .second, .val (.double (FP.dmul (FP.l2d (own_k q2)) (own_sc p4))), .second, .unset, .unset, .unset, .unset, .unset, .unset, .unset, .unset, .unset, .unset, .unset] [])) _
    refine XS.lload X5.here hx rfl (hb hby at_232) rfl ?_
    refine XS.lconst X5.here hx rfl (hb hby at_234) ?_
    show Steps p.tables e below (T5.setTop (mkF m 235 #[.val (.int p1), .val (.long q2), .second, .val (.int p3), .val (.int p4), .val (.int (p4 &&& (3 : Int32))), .val (.double (own_sc p4)), .second, .val (.int (p1 &&& (3 : Int32))), .val (.long (own_H q2)), .second, .val (.double (9223372036854775808 : UInt64)), .second, .val (.long (own_k q2)), .second, .val (.double (FP.dmul (FP.l2d (own_k q2)) (own_sc p4))), .second, .unset, .unset, .unset, .unset, .unset, .unset, .unset, .unset, .unset, .unset, .unset] [(.long (1 : Int64)), (.long (own_k q2))])) _
    refine XS.lcmp X5.here hx rfl (hb hby at_235) rfl ?_
    refine XS.ifNo X5.here hx rfl (hb hby at_236) rfl ((if0 _ _).trans (flt hc236).1) ?_
    show Steps p.tables e below (T5.setTop (mkF m 239 #[.val (.int p1), .val (.long q2), .second, .val (.int p3), .val (.int p4), .val (.int (p4 &&& (3 : Int32))), .val (.double (own_sc p4)), .second, .val (.int (p1 &&& (3 : Int32))), .val (.long (own_H q2)), .second, .val (.double (9223372036854775808 : UInt64)), .second, .val (.long (own_k q2)), .second, .val (.double (FP.dmul (FP.l2d (own_k q2)) (own_sc p4))), .second, .unset, .unset, .unset, .unset, .unset, .unset, .unset, .unset, .unset, .unset, .unset] [])) _
    refine XS.iconst X5.here hx rfl (hb hby at_239) ?_
    refine XS.goto X5.here hx rfl (pc0 := 240) (pc' := 244) rfl (hb hby at_240) (by decide) (by decide) ?_
    show Steps p.tables e below (T5.setTop (mkF m 244 #[.val (.int p1), .val (.long q2), .second, .val (.int p3), .val (.int p4), .val (.int (p4 &&& (3 : Int32))), .val (.double (own_sc p4)), .second, .val (.int (p1 &&& (3 : Int32))), .val (.long (own_H q2)), .second, .val (.double (9223372036854775808 : UInt64)), .second, .val (.long (own_k q2)), .second, .val (.double (FP.dmul (FP.l2d (own_k q2)) (own_sc p4))), .second, .unset, .unset, .unset, .unset, .unset, .unset, .unset, .unset, .unset, .unset, .unset] [(.int (1 : Int32))])) _
    refine XS.istore X5.here hx rfl (hb hby at_244) rfl (l' := #[.val (.int p1), .val (.long q2), .second, .val (.int p3), .val (.int p4), .val (.int (p4 &&& (3 : Int32))), .val (.double (own_sc p4)), .second, .val (.int (p1 &&& (3 : Int32))), .val (.long (own_H q2)), .second, .val (.double (9223372036854775808 : UInt64)), .second, .val (.long (own_k q2)), .second, .val (.double (FP.dmul (FP.l2d (own_k q2)) (own_sc p4))), .second, .val (.int (1 : Int32)), .unset, .unset, .unset, .unset, .unset, .unset, .unset, .unset, .unset, .unset]) rfl ?_
    refine XS.dload X5.here hx rfl (hb hby at_246) rfl ?_
    show Steps p.tables e below (T5.setTop (mkF m 248 #[.val (.int p1), .val (.long q2), .second, .val (.int p3), .val (.int p4), .val (.int (p4 &&& (3 : Int32))), .val (.double (own_sc p4)), .second, .val (.int (p1 &&& (3 : Int32))), .val (.long (own_H q2)), .second, .val (.double (9223372036854775808 : UInt64)), .second, .val (.long (own_k q2)), .second, .val (.double (FP.dmul (FP.l2d (own_k q2)) (own_sc p4))), .second, .val (.int (1 : Int32)), .unset, .unset, .unset, .unset, .unset, .unset, .unset, .unset, .unset, .unset] [(.double (FP.dmul (FP.l2d (own_k q2)) (own_sc p4)))])) _
    refine XS.dload X5.here hx rfl (hb hby at_248) rfl ?_
    show Steps p.tables e below (T5.setTop (mkF m 250 #[.val (.int p1), .val (.long q2), .second, .val (.int p3), .val (.int p4), .val (.int (p4 &&& (3 : Int32))), .val (.double (own_sc p4)), .second, .val (.int (p1 &&& (3 : Int32))), .val (.long (own_H q2)), .second, .val (.double (9223372036854775808 : UInt64)), .second, .val (.long (own_k q2)), .second, .val (.double (FP.dmul (FP.l2d (own_k q2)) (own_sc p4))), .second, .val (.int (1 : Int32)), .unset, .unset, .unset, .unset, .unset, .unset, .unset, .unset, .unset, .unset] [(.double (9223372036854775808 : UInt64)), (.double (FP.dmul (FP.l2d (own_k q2)) (own_sc p4)))])) _
    refine st6 _ ?_
    show Steps p.tables e below (T6.setTop (mkF m 253 #[.val (.int p1), .val (.long q2), .second, .val (.int p3), .val (.int p4), .val (.int (p4 &&& (3 : Int32))), .val (.double (own_sc p4)), .second, .val (.int (p1 &&& (3 : Int32))), .val (.long (own_H q2)), .second, .val (.double (9223372036854775808 : UInt64)), .second, .val (.long (own_k q2)), .second, .val (.double (FP.dmul (FP.l2d (own_k q2)) (own_sc p4))), .second, .val (.int (1 : Int32)), .unset, .unset, .unset, .unset, .unset, .unset, .unset, .unset, .unset, .unset] [(.int (own_ich (FP.dmul (FP.l2d (own_k q2)) (own_sc p4)) (9223372036854775808 : UInt64)))])) _
    refine XS.iload X6.here hx rfl (hb hby at_253) rfl ?_
    refine XS.icmpNo X6.here hx rfl (hb hby at_255) rfl (teq (own_k1d own_z_neg hc212 hc236 : (own_ich (FP.dmul (FP.l2d (own_k q2)) (own_sc p4)) (9223372036854775808 : UInt64)) = (1 : Int32))).2 ?_
    show Steps p.tables e below (T6.setTop (mkF m 258 #[.val (.int p1), .val (.long q2), .second, .val (.int p3), .val (.int p4), .val (.int (p4 &&& (3 : Int32))), .val (.double (own_sc p4)), .second, .val (.int (p1 &&& (3 : Int32))), .val (.long (own_H q2)), .second, .val (.double (9223372036854775808 : UInt64)), .second, .val (.long (own_k q2)), .second, .val (.double (FP.dmul (FP.l2d (own_k q2)) (own_sc p4))), .second, .val (.int (1 : Int32)), .unset, .unset, .unset, .unset, .unset, .unset, .unset, .unset, .unset, .unset] [])) _
    refine XS.iconst X6.here hx rfl (hb hby at_258) ?_
    refine XS.goto X6.here hx rfl (pc0 := 259) (pc' := 263) rfl (hb hby at_259) (by decide) (by decide) ?_
    show Steps p.tables e below (T6.setTop (mkF m 263 #[.val (.int p1), .val (.long q2), .second, .val (.int p3), .val (.int p4), .val (.int (p4 &&& (3 : Int32))), .val (.double (own_sc p4)), .second, .val (.int (p1 &&& (3 : Int32))), .val (.long (own_H q2)), .second, .val (.double (9223372036854775808 : UInt64)), .second, .val (.long (own_k q2)), .second, .val (.double (FP.dmul (FP.l2d (own_k q2)) (own_sc p4))), .second, .val (.int (1 : Int32)), .unset, .unset, .unset, .unset, .unset, .unset, .unset, .unset, .unset, .unset] [(.int (1 : Int32))])) _
    exact retN X6 hx (t := .boolean) Bd.returns (by simp) (hb hby at_263) hr
  · show Q0 Z p1 q2 p3 p4 h0 n0 _ T6.heap _
    exact ⟨rfl, N6⟩
set_option maxRecDepth 65536 in
set_option maxHeartbeats 40000000 in
theorem rm0_c0 (l : Launch) (Z : State) (a0 : Array Value) (hw : ∀ d ∈ tables_1, d.before a0 Z = true) (ws : List Jvm.Cond) (p1 : Int32) (q2 : Int64) (p3 : Int32) (p4 : Int32) (h0 : Heap) (n0 : Nat) (Z0 : n0 ≤ h0.size) (hc31 : ¬ ((p1 &&& (3 : Int32)) = (0 : Int32))) (hc176 : ¬ ((p1 &&& (3 : Int32)) = (1 : Int32))) (hc275 : (p1 &&& (3 : Int32)) = (2 : Int32)) (hc289 : (lcmpW (own_m2 q2) (0 : Int64)) = (0 : Int32)) :
    MetFree l x (head1 (Jvm.Cond.code x code maxLocals ret :: ws) room_1) (fun a U => a = #[(.int p1), (.long q2), (.int p3), (.int p4)] ∧ Z.Warmed39 U.vm ∧ U.heap = h0) (fun _ _ _ _ _ => True) (fun _ U o U' => ∃ v L, o = .returned v ∧ Q0 Z p1 q2 p3 p4 h0 n0 v U'.heap L ∧ FrameEnd U o U' L room_1.cells room_1.slots) := by
  have hnz282 : ¬ ((4503599627370496 : Int64) = (0 : Int64)) := by decide
  have hnn269 : Jvm.Free.Fl.NoNaN64 (FP.dmul (FP.i2d p3) (8975674057349398528 : UInt64)) := own_nni _
  have hnn301 : Jvm.Free.Fl.NoNaN64 (FP.dmul (FP.l2d (1 : Int64)) (1 : UInt64)) := own_nn1 _
  refine MetFree.of_bodySF (plainFor_of_name pn_0) hisR ?_
  intro p e s m args below meth c s₁ Bd hml0 hP hK
  obtain ⟨rfl, hZ, hh⟩ := hP
  have hx := Bd.exec
  have hby := Bd.bytes
  have hml : c.maxLocals = 28 := hml0
  have hown : s.vm.findClass "com/example/level_ring/levelring/placement/MembersIsCertainlyHigherPinLaw" = some m.cls := findClass_of_methodNamed Bd.named
  have hnm := (name_of_methodNamed Bd.named Bd.method).1
  have X0 : Stand p l e room_1 s m #[(.int p1), (.long q2), (.int p3), (.int p4)] below meth c s₁ [] 0 0 := Stand.of_body Bd
  have e0 : s₁.heap = h0 := by rw [← hh, Bd.state]; rfl
  have N0 := Fr.nil n0
  have pre0 : ∀ t, Steps p.tables e below (s₁.setTop (mkF m 0 #[.val (.int p1), .val (.long q2), .second, .val (.int p3), .val (.int p4), .unset, .unset, .unset, .unset, .unset, .unset, .unset, .unset, .unset, .unset, .unset, .unset, .unset, .unset, .unset, .unset, .unset, .unset, .unset, .unset, .unset, .unset, .unset] [])) t → Steps p.tables e below (s₁.setTop (entryFrame m #[(.int p1), (.long q2), (.int p3), (.int p4)] maxLocals)) t := fun t k => castTop (ef_0 m p1 q2 p3 p4) k
  -- 3. LAWS
  -- pc 8: com/example/level_ring/levelring/placement/MembersIsCertainlyHigherPinLaw.scaleOf by its contract rm1
  obtain ⟨_, _, ⟨T5, L5, k5, n5⟩, -, X5, ⟨Lc5, hQ5, l5, y5, z5⟩, st5⟩ := Jvm.LawKit.callS X0 hx (y := (⟨"com/example/level_ring/levelring/placement/MembersIsCertainlyHigherPinLaw", "scaleOf", "(I)D"⟩ : MethodName)) hown (mvT hZ (hw _ (List.mem_of_getElem? (i := 0) rfl))) (mvT hZ (hw _ (List.mem_of_getElem? (i := 1) rfl))) (mvT hZ (hw _ (List.mem_of_getElem? (i := 2) rfl))) (mvT hZ (hw _ (List.mem_of_getElem? (i := 3) rfl))) (by decide) (backOf (W := 0) (rm1 l Z a0 hw [] (p4 &&& (3 : Int32))  h0 n0 Z0) hZ (hw _ (List.mem_of_getElem? (i := 3) rfl)) (hw _ (List.mem_of_getElem? (i := 2) rfl)) (by decide) (by decide)) (g := (mkF m 8 #[.val (.int p1), .val (.long q2), .second, .val (.int p3), .val (.int p4), .val (.int (p4 &&& (3 : Int32))), .unset, .unset, .unset, .unset, .unset, .unset, .unset, .unset, .unset, .unset, .unset, .unset, .unset, .unset, .unset, .unset, .unset, .unset, .unset, .unset, .unset, .unset] [(.int (p4 &&& (3 : Int32)))])) rfl (by rw [hml]; rfl) (argsL := [(.int (p4 &&& (3 : Int32)))]) (rest := []) (lenOf pdw_0 rfl) rfl (by show 2 * 0 + _ ≤ _; exact Nat.le_of_eq rfl) (hb hby at_8) (fun _ _ => ⟨rfl, e0, (by decide : 0 + 0 ≤ _), (by decide : 0 + 0 ≤ _)⟩)
  dsimp only [Pt.U, Pt.locs, Pt.cells, Pt.slots] at X5 l5 y5 z5 st5 hQ5
  subst l5 y5 z5
  obtain ⟨rfl, N5q, hh5⟩ := hQ5
  have N5 := Fr.app N0 N5q
  -- pc 320: com/example/level_ring/levelring/placement/Members.isCertainlyHigher by its contract rm2
  obtain ⟨_, _, ⟨T6, L6, k6, n6⟩, -, X6, ⟨Lc6, hQ6, l6, y6, z6⟩, st6⟩ := Jvm.LawKit.callS X5 hx (y := (⟨"com/example/level_ring/levelring/placement/Members", "isCertainlyHigher", "(DD)Z"⟩ : MethodName)) hown (mvT hZ (hw _ (List.mem_of_getElem? (i := 8) rfl))) (mvT hZ (hw _ (List.mem_of_getElem? (i := 9) rfl))) (mvT hZ (hw _ (List.mem_of_getElem? (i := 10) rfl))) (mvT hZ (hw _ (List.mem_of_getElem? (i := 11) rfl))) (by decide) (backOf (W := 0) (rm2 l Z a0 hw [] (FP.dmul (FP.i2d p3) (8975674057349398528 : UInt64)) (FP.dmul (FP.l2d (1 : Int64)) (1 : UInt64))  h0 n0 Z0 (dmul_out (own_k2_fin (by decide +kernel)) own_C_fin)) hZ (hw _ (List.mem_of_getElem? (i := 11) rfl)) (hw _ (List.mem_of_getElem? (i := 10) rfl)) (by decide) (by decide)) (g := (mkF m 320 #[.val (.int p1), .val (.long q2), .second, .val (.int p3), .val (.int p4), .val (.int (p4 &&& (3 : Int32))), .val (.double (own_sc p4)), .second, .val (.int (p1 &&& (3 : Int32))), .val (.long (own_H q2)), .second, .val (.double (FP.dmul (FP.i2d p3) (8975674057349398528 : UInt64))), .second, .val (.double (FP.dmul (FP.l2d (1 : Int64)) (1 : UInt64))), .second, .val (.long (1 : Int64)), .second, .unset, .unset, .unset, .unset, .unset, .unset, .unset, .unset, .unset, .unset, .unset] [(.double (FP.dmul (FP.l2d (1 : Int64)) (1 : UInt64))), (.double (FP.dmul (FP.i2d p3) (8975674057349398528 : UInt64)))])) rfl (by rw [hml]; rfl) (argsL := [(.double (FP.dmul (FP.i2d p3) (8975674057349398528 : UInt64))), (.double (FP.dmul (FP.l2d (1 : Int64)) (1 : UInt64)))]) (rest := []) (lenOf pdw_1 rfl) rfl (by show 2 * 0 + _ ≤ _; exact Nat.le_of_eq rfl) (hb hby at_320) (fun _ _ => ⟨rfl, hh5, (by decide : 0 + 0 ≤ _), (by decide : 0 + 0 ≤ _)⟩)
  dsimp only [Pt.U, Pt.locs, Pt.cells, Pt.slots] at X6 l6 y6 z6 st6 hQ6
  subst l6 y6 z6
  obtain ⟨rfl, N6q, hh6⟩ := hQ6
  have N6 := Fr.app N5 N6q
  obtain ⟨fs, hr, hrun, hended, hW, hsame⟩ := X6.leave (v := some (.int (1 : Int32))) (fun h => by rw [Bd.returns] at h; cases h)
  refine ⟨_, _, pre0 _ ?_, hrun, hended, _, _, rfl, ?_, ⟨_, rfl⟩, hW, hsame.mono (by decide) (by decide)⟩
  -- 4. STEPS
  · show Steps p.tables e below (s₁.setTop (mkF m 0 #[.val (.int p1), .val (.long q2), .second, .val (.int p3), .val (.int p4), .unset, .unset, .unset, .unset, .unset, .unset, .unset, .unset, .unset, .unset, .unset, .unset, .unset, .unset, .unset, .unset, .unset, .unset, .unset, .unset, .unset, .unset, .unset] [])) _
    refine XS.iload X0.here hx rfl (hb hby at_0) rfl ?_
    refine XS.iconst X0.here hx rfl (hb hby at_2) ?_
    show Steps p.tables e below (s₁.setTop (mkF m 3 #[.val (.int p1), .val (.long q2), .second, .val (.int p3), .val (.int p4), .unset, .unset, .unset, .unset, .unset, .unset, .unset, .unset, .unset, .unset, .unset, .unset, .unset, .unset, .unset, .unset, .unset, .unset, .unset, .unset, .unset, .unset, .unset] [(.int (3 : Int32)), (.int p4)])) _
    refine XS.iand X0.here hx rfl (hb hby at_3) rfl ?_
    refine XS.istore X0.here hx rfl (hb hby at_4) rfl (l' := #[.val (.int p1), .val (.long q2), .second, .val (.int p3), .val (.int p4), .val (.int (p4 &&& (3 : Int32))), .unset, .unset, .unset, .unset, .unset, .unset, .unset, .unset, .unset, .unset, .unset, .unset, .unset, .unset, .unset, .unset, .unset, .unset, .unset, .unset, .unset, .unset]) rfl ?_
    show Steps p.tables e below (s₁.setTop (mkF m 6 #[.val (.int p1), .val (.long q2), .second, .val (.int p3), .val (.int p4), .val (.int (p4 &&& (3 : Int32))), .unset, .unset, .unset, .unset, .unset, .unset, .unset, .unset, .unset, .unset, .unset, .unset, .unset, .unset, .unset, .unset, .unset, .unset, .unset, .unset, .unset, .unset] [])) _
    refine XS.iload X0.here hx rfl (hb hby at_6) rfl ?_
    show Steps p.tables e below (s₁.setTop (mkF m 8 #[.val (.int p1), .val (.long q2), .second, .val (.int p3), .val (.int p4), .val (.int (p4 &&& (3 : Int32))), .unset, .unset, .unset, .unset, .unset, .unset, .unset, .unset, .unset, .unset, .unset, .unset, .unset, .unset, .unset, .unset, .unset, .unset, .unset, .unset, .unset, .unset] [(.int (p4 &&& (3 : Int32)))])) _
    refine st5 _ ?_
    show Steps p.tables e below (T5.setTop (mkF m 11 #[.val (.int p1), .val (.long q2), .second, .val (.int p3), .val (.int p4), .val (.int (p4 &&& (3 : Int32))), .unset, .unset, .unset, .unset, .unset, .unset, .unset, .unset, .unset, .unset, .unset, .unset, .unset, .unset, .unset, .unset, .unset, .unset, .unset, .unset, .unset, .unset] [(.double (own_sc p4))])) _
    refine XS.dstore X5.here hx rfl (hb hby at_11) rfl (l' := #[.val (.int p1), .val (.long q2), .second, .val (.int p3), .val (.int p4), .val (.int (p4 &&& (3 : Int32))), .val (.double (own_sc p4)), .second, .unset, .unset, .unset, .unset, .unset, .unset, .unset, .unset, .unset, .unset, .unset, .unset, .unset, .unset, .unset, .unset, .unset, .unset, .unset, .unset]) rfl ?_
    refine XS.iloadN X5.here hx rfl (hb hby at_13) rfl ?_
    show Steps p.tables e below (T5.setTop (mkF m 14 #[.val (.int p1), .val (.long q2), .second, .val (.int p3), .val (.int p4), .val (.int (p4 &&& (3 : Int32))), .val (.double (own_sc p4)), .second, .unset, .unset, .unset, .unset, .unset, .unset, .unset, .unset, .unset, .unset, .unset, .unset, .unset, .unset, .unset, .unset, .unset, .unset, .unset, .unset] [(.int p1)])) _
    refine XS.iconst X5.here hx rfl (hb hby at_14) ?_
    refine XS.iand X5.here hx rfl (hb hby at_15) rfl ?_
    show Steps p.tables e below (T5.setTop (mkF m 16 #[.val (.int p1), .val (.long q2), .second, .val (.int p3), .val (.int p4), .val (.int (p4 &&& (3 : Int32))), .val (.double (own_sc p4)), .second, .unset, .unset, .unset, .unset, .unset, .unset, .unset, .unset, .unset, .unset, .unset, .unset, .unset, .unset, .unset, .unset, .unset, .unset, .unset, .unset] [(.int (p1 &&& (3 : Int32)))])) _
    refine XS.istore X5.here hx rfl (hb hby at_16) rfl (l' := #[.val (.int p1), .val (.long q2), .second, .val (.int p3), .val (.int p4), .val (.int (p4 &&& (3 : Int32))), .val (.double (own_sc p4)), .second, .val (.int (p1 &&& (3 : Int32))), .unset, .unset, .unset, .unset, .unset, .unset, .unset, .unset, .unset, .unset, .unset, .unset, .unset, .unset, .unset, .unset, .unset, .unset, .unset]) rfl ?_
    show Steps p.tables e below (T5.setTop (mkF m 18 #[.val (.int p1), .val (.long q2), .second, .val (.int p3), .val (.int p4), .val (.int (p4 &&& (3 : Int32))), .val (.double (own_sc p4)), .second, .val (.int (p1 &&& (3 : Int32))), .unset, .unset, .unset, .unset, .unset, .unset, .unset, .unset, .unset, .unset, .unset, .unset, .unset, .unset, .unset, .unset, .unset, .unset, .unset] [])) _
    refine X5.ldc2Long hx hown (mvT hZ (hw _ (List.mem_of_getElem? (i := 4) rfl))) (g := (mkF m 18 #[.val (.int p1), .val (.long q2), .second, .val (.int p3), .val (.int p4), .val (.int (p4 &&& (3 : Int32))), .val (.double (own_sc p4)), .second, .val (.int (p1 &&& (3 : Int32))), .unset, .unset, .unset, .unset, .unset, .unset, .unset, .unset, .unset, .unset, .unset, .unset, .unset, .unset, .unset, .unset, .unset, .unset, .unset] [])) rfl (hb hby at_18) _ ?_
    show Steps p.tables e below (T5.setTop (mkF m 21 #[.val (.int p1), .val (.long q2), .second, .val (.int p3), .val (.int p4), .val (.int (p4 &&& (3 : Int32))), .val (.double (own_sc p4)), .second, .val (.int (p1 &&& (3 : Int32))), .unset, .unset, .unset, .unset, .unset, .unset, .unset, .unset, .unset, .unset, .unset, .unset, .unset, .unset, .unset, .unset, .unset, .unset, .unset] [(.long (4503599627370496 : Int64))])) _
    refine XS.lloadN X5.here hx rfl (hb hby at_21) rfl ?_
    show Steps p.tables e below (T5.setTop (mkF m 22 #[.val (.int p1), .val (.long q2), .second, .val (.int p3), .val (.int p4), .val (.int (p4 &&& (3 : Int32))), .val (.double (own_sc p4)), .second, .val (.int (p1 &&& (3 : Int32))), .unset, .unset, .unset, .unset, .unset, .unset, .unset, .unset, .unset, .unset, .unset, .unset, .unset, .unset, .unset, .unset, .unset, .unset, .unset] [(.long q2), (.long (4503599627370496 : Int64))])) _
    refine X5.ldc2Long hx hown (mvT hZ (hw _ (List.mem_of_getElem? (i := 5) rfl))) (g := (mkF m 22 #[.val (.int p1), .val (.long q2), .second, .val (.int p3), .val (.int p4), .val (.int (p4 &&& (3 : Int32))), .val (.double (own_sc p4)), .second, .val (.int (p1 &&& (3 : Int32))), .unset, .unset, .unset, .unset, .unset, .unset, .unset, .unset, .unset, .unset, .unset, .unset, .unset, .unset, .unset, .unset, .unset, .unset, .unset] [(.long q2), (.long (4503599627370496 : Int64))])) rfl (hb hby at_22) _ ?_
    show Steps p.tables e below (T5.setTop (mkF m 25 #[.val (.int p1), .val (.long q2), .second, .val (.int p3), .val (.int p4), .val (.int (p4 &&& (3 : Int32))), .val (.double (own_sc p4)), .second, .val (.int (p1 &&& (3 : Int32))), .unset, .unset, .unset, .unset, .unset, .unset, .unset, .unset, .unset, .unset, .unset, .unset, .unset, .unset, .unset, .unset, .unset, .unset, .unset] [(.long (2251799813685247 : Int64)), (.long q2), (.long (4503599627370496 : Int64))])) _
    refine XS.land X5.here hx rfl (hb hby at_25) rfl ?_
    refine XS.lor X5.here hx rfl (hb hby at_26) rfl ?_
    show Steps p.tables e below (T5.setTop (mkF m 27 #[.val (.int p1), .val (.long q2), .second, .val (.int p3), .val (.int p4), .val (.int (p4 &&& (3 : Int32))), .val (.double (own_sc p4)), .second, .val (.int (p1 &&& (3 : Int32))), .unset, .unset, .unset, .unset, .unset, .unset, .unset, .unset, .unset, .unset, .unset, .unset, .unset, .unset, .unset, .unset, .unset, .unset, .unset] [(.long (own_H q2))])) _
    refine XS.lstore X5.here hx rfl (hb hby at_27) rfl (l' := #[.val (.int p1), .val (.long q2), .second, .val (.int p3), .val (.int p4), .val (.int (p4 &&& (3 : Int32))), .val (.double (own_sc p4)), .second, .val (.int (p1 &&& (3 : Int32))), .val (.long (own_H q2)), .second, .unset, .unset, .unset, .unset, .unset, .unset, .unset, .unset, .unset, .unset, .unset, .unset, .unset, .unset, .unset, .unset, .unset]) rfl ?_
    refine XS.iload X5.here hx rfl (hb hby at_29) rfl ?_
    show Steps p.tables e below (T5.setTop (mkF m 31 #[.val (.int p1), .val (.long q2), .second, .val (.int p3), .val (.int p4), .val (.int (p4 &&& (3 : Int32))), .val (.double (own_sc p4)), .second, .val (.int (p1 &&& (3 : Int32))), .val (.long (own_H q2)), .second, .unset, .unset, .unset, .unset, .unset, .unset, .unset, .unset, .unset, .unset, .unset, .unset, .unset, .unset, .unset, .unset, .unset] [(.int (p1 &&& (3 : Int32)))])) _
    refine XS.ifYes X5.here hx rfl (pc0 := 31) (pc' := 173) rfl (hb hby at_31) rfl ((if0 _ _).trans (feq hc31).2) (by decide) (by decide) ?_
    refine XS.iload X5.here hx rfl (hb hby at_173) rfl ?_
    show Steps p.tables e below (T5.setTop (mkF m 175 #[.val (.int p1), .val (.long q2), .second, .val (.int p3), .val (.int p4), .val (.int (p4 &&& (3 : Int32))), .val (.double (own_sc p4)), .second, .val (.int (p1 &&& (3 : Int32))), .val (.long (own_H q2)), .second, .unset, .unset, .unset, .unset, .unset, .unset, .unset, .unset, .unset, .unset, .unset, .unset, .unset, .unset, .unset, .unset, .unset] [(.int (p1 &&& (3 : Int32)))])) _
    refine XS.iconst X5.here hx rfl (hb hby at_175) ?_
    refine XS.icmpYes X5.here hx rfl (pc0 := 176) (pc' := 264) rfl (hb hby at_176) rfl (feq hc176).2 (by decide) (by decide) ?_
    show Steps p.tables e below (T5.setTop (mkF m 264 #[.val (.int p1), .val (.long q2), .second, .val (.int p3), .val (.int p4), .val (.int (p4 &&& (3 : Int32))), .val (.double (own_sc p4)), .second, .val (.int (p1 &&& (3 : Int32))), .val (.long (own_H q2)), .second, .unset, .unset, .unset, .unset, .unset, .unset, .unset, .unset, .unset, .unset, .unset, .unset, .unset, .unset, .unset, .unset, .unset] [])) _
    refine XS.iloadN X5.here hx rfl (hb hby at_264) rfl ?_
    refine XS.i2dS X5.here hx rfl (hb hby at_265) rfl rfl ?_
    show Steps p.tables e below (T5.setTop (mkF m 266 #[.val (.int p1), .val (.long q2), .second, .val (.int p3), .val (.int p4), .val (.int (p4 &&& (3 : Int32))), .val (.double (own_sc p4)), .second, .val (.int (p1 &&& (3 : Int32))), .val (.long (own_H q2)), .second, .unset, .unset, .unset, .unset, .unset, .unset, .unset, .unset, .unset, .unset, .unset, .unset, .unset, .unset, .unset, .unset, .unset] [(.double (FP.i2d p3))])) _
    refine X5.ldc2DoubleC hx hown (mvT hZ (hw _ (List.mem_of_getElem? (i := 15) rfl))) (g := (mkF m 266 #[.val (.int p1), .val (.long q2), .second, .val (.int p3), .val (.int p4), .val (.int (p4 &&& (3 : Int32))), .val (.double (own_sc p4)), .second, .val (.int (p1 &&& (3 : Int32))), .val (.long (own_H q2)), .second, .unset, .unset, .unset, .unset, .unset, .unset, .unset, .unset, .unset, .unset, .unset, .unset, .unset, .unset, .unset, .unset, .unset] [(.double (FP.i2d p3))])) rfl (hb hby at_266) _ ?_
    show Steps p.tables e below (T5.setTop (mkF m 269 #[.val (.int p1), .val (.long q2), .second, .val (.int p3), .val (.int p4), .val (.int (p4 &&& (3 : Int32))), .val (.double (own_sc p4)), .second, .val (.int (p1 &&& (3 : Int32))), .val (.long (own_H q2)), .second, .unset, .unset, .unset, .unset, .unset, .unset, .unset, .unset, .unset, .unset, .unset, .unset, .unset, .unset, .unset, .unset, .unset] [(.double (8975674057349398528 : UInt64)), (.double (FP.i2d p3))])) _
    refine XS.dmulS X5.here hx rfl (hb hby at_269) rfl hnn269 rfl ?_
    refine XS.dstore X5.here hx rfl (hb hby at_270) rfl (l' := #[.val (.int p1), .val (.long q2), .second, .val (.int p3), .val (.int p4), .val (.int (p4 &&& (3 : Int32))), .val (.double (own_sc p4)), .second, .val (.int (p1 &&& (3 : Int32))), .val (.long (own_H q2)), .second, .val (.double (FP.dmul (FP.i2d p3) (8975674057349398528 : UInt64))), .second, .unset, .unset, .unset, .unset, .unset, .unset, .unset, .unset, .unset, .unset, .unset, .unset, .unset, .unset, .unset]) rfl ?_
    show Steps p.tables e below (T5.setTop (mkF m 272 #[.val (.int p1), .val (.long q2), .second, .val (.int p3), .val (.int p4), .val (.int (p4 &&& (3 : Int32))), .val (.double (own_sc p4)), .second, .val (.int (p1 &&& (3 : Int32))), .val (.long (own_H q2)), .second, .val (.double (FP.dmul (FP.i2d p3) (8975674057349398528 : UInt64))), .second, .unset, .unset, .unset, .unset, .unset, .unset, .unset, .unset, .unset, .unset, .unset, .unset, .unset, .unset, .unset] [])) _
    refine XS.iload X5.here hx rfl (hb hby at_272) rfl ?_
    refine XS.iconst X5.here hx rfl (hb hby at_274) ?_
    show Steps p.tables e below (T5.setTop (mkF m 275 #[.val (.int p1), .val (.long q2), .second, .val (.int p3), .val (.int p4), .val (.int (p4 &&& (3 : Int32))), .val (.double (own_sc p4)), .second, .val (.int (p1 &&& (3 : Int32))), .val (.long (own_H q2)), .second, .val (.double (FP.dmul (FP.i2d p3) (8975674057349398528 : UInt64))), .second, .unset, .unset, .unset, .unset, .unset, .unset, .unset, .unset, .unset, .unset, .unset, .unset, .unset, .unset, .unset] [(.int (2 : Int32)), (.int (p1 &&& (3 : Int32)))])) _
    refine XS.icmpNo X5.here hx rfl (hb hby at_275) rfl (teq hc275).2 ?_
    refine XS.lloadN X5.here hx rfl (hb hby at_278) rfl ?_
    show Steps p.tables e below (T5.setTop (mkF m 279 #[.val (.int p1), .val (.long q2), .second, .val (.int p3), .val (.int p4), .val (.int (p4 &&& (3 : Int32))), .val (.double (own_sc p4)), .second, .val (.int (p1 &&& (3 : Int32))), .val (.long (own_H q2)), .second, .val (.double (FP.dmul (FP.i2d p3) (8975674057349398528 : UInt64))), .second, .unset, .unset, .unset, .unset, .unset, .unset, .unset, .unset, .unset, .unset, .unset, .unset, .unset, .unset, .unset] [(.long q2)])) _
    refine X5.ldc2Long hx hown (mvT hZ (hw _ (List.mem_of_getElem? (i := 4) rfl))) (g := (mkF m 279 #[.val (.int p1), .val (.long q2), .second, .val (.int p3), .val (.int p4), .val (.int (p4 &&& (3 : Int32))), .val (.double (own_sc p4)), .second, .val (.int (p1 &&& (3 : Int32))), .val (.long (own_H q2)), .second, .val (.double (FP.dmul (FP.i2d p3) (8975674057349398528 : UInt64))), .second, .unset, .unset, .unset, .unset, .unset, .unset, .unset, .unset, .unset, .unset, .unset, .unset, .unset, .unset, .unset] [(.long q2)])) rfl (hb hby at_279) _ ?_
    show Steps p.tables e below (T5.setTop (mkF m 282 #[.val (.int p1), .val (.long q2), .second, .val (.int p3), .val (.int p4), .val (.int (p4 &&& (3 : Int32))), .val (.double (own_sc p4)), .second, .val (.int (p1 &&& (3 : Int32))), .val (.long (own_H q2)), .second, .val (.double (FP.dmul (FP.i2d p3) (8975674057349398528 : UInt64))), .second, .unset, .unset, .unset, .unset, .unset, .unset, .unset, .unset, .unset, .unset, .unset, .unset, .unset, .unset, .unset] [(.long (4503599627370496 : Int64)), (.long q2)])) _
    refine XS.lrem X5.here hx rfl (hb hby at_282) rfl hnz282 ?_
    refine XS.lstore X5.here hx rfl (hb hby at_283) rfl (l' := #[.val (.int p1), .val (.long q2), .second, .val (.int p3), .val (.int p4), .val (.int (p4 &&& (3 : Int32))), .val (.double (own_sc p4)), .second, .val (.int (p1 &&& (3 : Int32))), .val (.long (own_H q2)), .second, .val (.double (FP.dmul (FP.i2d p3) (8975674057349398528 : UInt64))), .second, .unset, .unset, .val (.long (own_m2 q2)), .second, .unset, .unset, .unset, .unset, .unset, .unset, .unset, .unset, .unset, .unset, .unset]) rfl ?_
    show Steps p.tables e below (T5.setTop (mkF m 285 #[.val (.int p1), .val (.long q2), .second, .val (.int p3), .val (.int p4), .val (.int (p4 &&& (3 : Int32))), .val (.double (own_sc p4)), .second, .val (.int (p1 &&& (3 : Int32))), .val (.long (own_H q2)), .second, .val (.double (FP.dmul (FP.i2d p3) (8975674057349398528 : UInt64))), .second, .unset, .unset, .val (.long (own_m2 q2)), .second, .unset, .unset, .unset, .unset, .unset, .unset, .unset, .unset, .unset, .unset, .unset] [])) _
    refine XS.lload X5.here hx rfl (hb hby at_285) rfl ?_
    refine XS.lconst X5.here hx rfl (hb hby at_287) ?_
    show Steps p.tables e below (T5.setTop (mkF m 288 #[.val (.int p1), .val (.long q2), .second, .val (.int p3), .val (.int p4), .val (.int (p4 &&& (3 : Int32))), .val (.double (own_sc p4)), .second, .val (.int (p1 &&& (3 : Int32))), .val (.long (own_H q2)), .second, .val (.double (FP.dmul (FP.i2d p3) (8975674057349398528 : UInt64))), .second, .unset, .unset, .val (.long (own_m2 q2)), .second, .unset, .unset, .unset, .unset, .unset, .unset, .unset, .unset, .unset, .unset, .unset] [(.long (0 : Int64)), (.long (own_m2 q2))])) _
    refine XS.lcmp X5.here hx rfl (hb hby at_288) rfl ?_
    refine XS.ifNo X5.here hx rfl (hb hby at_289) rfl ((if0 _ _).trans (teq hc289).2) ?_
    show Steps p.tables e below (T5.setTop (mkF m 292 #[.val (.int p1), .val (.long q2), .second, .val (.int p3), .val (.int p4), .val (.int (p4 &&& (3 : Int32))), .val (.double (own_sc p4)), .second, .val (.int (p1 &&& (3 : Int32))), .val (.long (own_H q2)), .second, .val (.double (FP.dmul (FP.i2d p3) (8975674057349398528 : UInt64))), .second, .unset, .unset, .val (.long (own_m2 q2)), .second, .unset, .unset, .unset, .unset, .unset, .unset, .unset, .unset, .unset, .unset, .unset] [])) _
    refine XS.lconst X5.here hx rfl (hb hby at_292) ?_
    refine XS.lstore X5.here hx rfl (hb hby at_293) rfl (l' := #[.val (.int p1), .val (.long q2), .second, .val (.int p3), .val (.int p4), .val (.int (p4 &&& (3 : Int32))), .val (.double (own_sc p4)), .second, .val (.int (p1 &&& (3 : Int32))), .val (.long (own_H q2)), .second, .val (.double (FP.dmul (FP.i2d p3) (8975674057349398528 : UInt64))), .second, .unset, .unset, .val (.long (1 : Int64)), .second, .unset, .unset, .unset, .unset, .unset, .unset, .unset, .unset, .unset, .unset, .unset]) rfl ?_
    show Steps p.tables e below (T5.setTop (mkF m 295 #[.val (.int p1), .val (.long q2), .second, .val (.int p3), .val (.int p4), .val (.int (p4 &&& (3 : Int32))), .val (.double (own_sc p4)), .second, .val (.int (p1 &&& (3 : Int32))), .val (.long (own_H q2)), .second, .val (.double (FP.dmul (FP.i2d p3) (8975674057349398528 : UInt64))), .second, .unset, .unset, .val (.long (1 : Int64)), .second, .unset, .unset, .unset, .unset, .unset, .unset, .unset, .unset, .unset, .unset, .unset] [])) _
    refine XS.lload X5.here hx rfl (hb hby at_295) rfl ?_
    refine XS.l2dS X5.here hx rfl (hb hby at_297) rfl rfl ?_
    show Steps p.tables e below (T5.setTop (mkF m 298 #[.val (.int p1), .val (.long q2), .second, .val (.int p3), .val (.int p4), .val (.int (p4 &&& (3 : Int32))), .val (.double (own_sc p4)), .second, .val (.int (p1 &&& (3 : Int32))), .val (.long (own_H q2)), .second, .val (.double (FP.dmul (FP.i2d p3) (8975674057349398528 : UInt64))), .second, .unset, .unset, .val (.long (1 : Int64)), .second, .unset, .unset, .unset, .unset, .unset, .unset, .unset, .unset, .unset, .unset, .unset] [(.double (FP.l2d (1 : Int64)))])) _
    refine X5.ldc2DoubleC hx hown (mvT hZ (hw _ (List.mem_of_getElem? (i := 17) rfl))) (g := (mkF m 298 #[.val (.int p1), .val (.long q2), .second, .val (.int p3), .val (.int p4), .val (.int (p4 &&& (3 : Int32))), .val (.double (own_sc p4)), .second, .val (.int (p1 &&& (3 : Int32))), .val (.long (own_H q2)), .second, .val (.double (FP.dmul (FP.i2d p3) (8975674057349398528 : UInt64))), .second, .unset, .unset, .val (.long (1 : Int64)), .second, .unset, .unset, .unset, .unset, .unset, .unset, .unset, .unset, .unset, .unset, .unset] [(.double (FP.l2d (1 : Int64)))])) rfl (hb hby at_298) _ ?_
    show Steps p.tables e below (T5.setTop (mkF m 301 #[.val (.int p1), .val (.long q2), .second, .val (.int p3), .val (.int p4), .val (.int (p4 &&& (3 : Int32))), .val (.double (own_sc p4)), .second, .val (.int (p1 &&& (3 : Int32))), .val (.long (own_H q2)), .second, .val (.double (FP.dmul (FP.i2d p3) (8975674057349398528 : UInt64))), .second, .unset, .unset, .val (.long (1 : Int64)), .second, .unset, .unset, .unset, .unset, .unset, .unset, .unset, .unset, .unset, .unset, .unset] [(.double (1 : UInt64)), (.double (FP.l2d (1 : Int64)))])) _
    refine XS.dmulS X5.here hx rfl (hb hby at_301) rfl hnn301 rfl ?_
    refine XS.dstore X5.here hx rfl (hb hby at_302) rfl (l' := #[.val (.int p1), .val (.long q2), .second, .val (.int p3), .val (.int p4), .val (.int (p4 &&& (3 : Int32))), .val (.double (own_sc p4)), .second, .val (.int (p1 &&& (3 : Int32))), .val (.long (own_H q2)), .second, .val (.double (FP.dmul (FP.i2d p3) (8975674057349398528 : UInt64))), .second, .val (.double (FP.dmul (FP.l2d (1 : Int64)) (1 : UInt64))), .second, .val (.long (1 : Int64)), .second, .unset, .unset, .unset, .unset, .unset, .unset, .unset, .unset, .unset, .unset, .unset]) rfl ?_
    show Steps p.tables e below (T5.setTop (mkF m 304 #[.val (.int p1), .val (.long q2), .second, .val (.int p3), .val (.int p4), .val (.int (p4 &&& (3 : Int32))), .val (.double (own_sc p4)), .second, .val (.int (p1 &&& (3 : Int32))), .val (.long (own_H q2)), .second, .val (.double (FP.dmul (FP.i2d p3) (8975674057349398528 : UInt64))), .second, .val (.double (FP.dmul (FP.l2d (1 : Int64)) (1 : UInt64))), .second, .val (.long (1 : Int64)), .second, .unset, .unset, .unset, .unset, .unset, .unset, .unset, .unset, .unset, .unset, .unset] [])) _
    refine XS.goto X5.here hx rfl (pc0 := 304) (pc' := 316) rfl (hb hby at_304) (by decide) (by decide) ?_
    refine XS.dload X5.here hx rfl (hb hby at_316) rfl ?_
    show Steps p.tables e below (T5.setTop (mkF m 318 #[.val (.int p1), .val (.long q2), .second, .val (.int p3), .val (.int p4), .val (.int (p4 &&& (3 : Int32))), .val (.double (own_sc p4)), .second, .val (.int (p1 &&& (3 : Int32))), .val (.long (own_H q2)), .second, .val (.double (FP.dmul (FP.i2d p3) (8975674057349398528 : UInt64))), .second, .val (.double (FP.dmul (FP.l2d (1 : Int64)) (1 : UInt64))), .second, .val (.long (1 : Int64)), .second, .unset, .unset, .unset, .unset, .unset, .unset, .unset, .unset, .unset, .unset, .unset] [(.double (FP.dmul (FP.i2d p3) (8975674057349398528 : UInt64)))])) _
    refine XS.dload X5.here hx rfl (hb hby at_318) rfl ?_
    show Steps p.tables e below (T5.setTop (mkF m 320 #[.val (.int p1), .val (.long q2), .second, .val (.int p3), .val (.int p4), .val (.int (p4 &&& (3 : Int32))), .val (.double (own_sc p4)), .second, .val (.int (p1 &&& (3 : Int32))), .val (.long (own_H q2)), .second, .val (.double (FP.dmul (FP.i2d p3) (8975674057349398528 : UInt64))), .second, .val (.double (FP.dmul (FP.l2d (1 : Int64)) (1 : UInt64))), .second, .val (.long (1 : Int64)), .second, .unset, .unset, .unset, .unset, .unset, .unset, .unset, .unset, .unset, .unset, .unset] [(.double (FP.dmul (FP.l2d (1 : Int64)) (1 : UInt64))), (.double (FP.dmul (FP.i2d p3) (8975674057349398528 : UInt64)))])) _
    refine st6 _ ?_
    show Steps p.tables e below (T6.setTop (mkF m 323 #[.val (.int p1), .val (.long q2), .second, .val (.int p3), .val (.int p4), .val (.int (p4 &&& (3 : Int32))), .val (.double (own_sc p4)), .second, .val (.int (p1 &&& (3 : Int32))), .val (.long (own_H q2)), .second, .val (.double (FP.dmul (FP.i2d p3) (8975674057349398528 : UInt64))), .second, .val (.double (FP.dmul (FP.l2d (1 : Int64)) (1 : UInt64))), .second, .val (.long (1 : Int64)), .second, .unset, .unset, .unset, .unset, .unset, .unset, .unset, .unset, .unset, .unset, .unset] [(.int (own_ich (FP.dmul (FP.i2d p3) (8975674057349398528 : UInt64)) (FP.dmul (FP.l2d (1 : Int64)) (1 : UInt64))))])) _
    refine XS.ifNo X6.here hx rfl (hb hby at_323) rfl ((if0 _ _).trans (teq (own_k2 (by decide +kernel) (by decide) : (own_ich (FP.dmul (FP.i2d p3) (8975674057349398528 : UInt64)) (FP.dmul (FP.l2d (1 : Int64)) (1 : UInt64))) = (0 : Int32))).2) ?_
    refine XS.iconst X6.here hx rfl (hb hby at_326) ?_
    show Steps p.tables e below (T6.setTop (mkF m 327 #[.val (.int p1), .val (.long q2), .second, .val (.int p3), .val (.int p4), .val (.int (p4 &&& (3 : Int32))), .val (.double (own_sc p4)), .second, .val (.int (p1 &&& (3 : Int32))), .val (.long (own_H q2)), .second, .val (.double (FP.dmul (FP.i2d p3) (8975674057349398528 : UInt64))), .second, .val (.double (FP.dmul (FP.l2d (1 : Int64)) (1 : UInt64))), .second, .val (.long (1 : Int64)), .second, .unset, .unset, .unset, .unset, .unset, .unset, .unset, .unset, .unset, .unset, .unset] [(.int (1 : Int32))])) _
    refine XS.goto X6.here hx rfl (pc0 := 327) (pc' := 331) rfl (hb hby at_327) (by decide) (by decide) ?_
    show Steps p.tables e below (T6.setTop (mkF m 331 #[.val (.int p1), .val (.long q2), .second, .val (.int p3), .val (.int p4), .val (.int (p4 &&& (3 : Int32))), .val (.double (own_sc p4)), .second, .val (.int (p1 &&& (3 : Int32))), .val (.long (own_H q2)), .second, .val (.double (FP.dmul (FP.i2d p3) (8975674057349398528 : UInt64))), .second, .val (.double (FP.dmul (FP.l2d (1 : Int64)) (1 : UInt64))), .second, .val (.long (1 : Int64)), .second, .unset, .unset, .unset, .unset, .unset, .unset, .unset, .unset, .unset, .unset, .unset] [(.int (1 : Int32))])) _
    exact retN X6 hx (t := .boolean) Bd.returns (by simp) (hb hby at_331) hr
  · show Q0 Z p1 q2 p3 p4 h0 n0 _ T6.heap _
    exact ⟨rfl, N6⟩
set_option maxRecDepth 65536 in
set_option maxHeartbeats 40000000 in
theorem rm0_c1 (l : Launch) (Z : State) (a0 : Array Value) (hw : ∀ d ∈ tables_1, d.before a0 Z = true) (ws : List Jvm.Cond) (p1 : Int32) (q2 : Int64) (p3 : Int32) (p4 : Int32) (h0 : Heap) (n0 : Nat) (Z0 : n0 ≤ h0.size) (hc31 : ¬ ((p1 &&& (3 : Int32)) = (0 : Int32))) (hc176 : ¬ ((p1 &&& (3 : Int32)) = (1 : Int32))) (hc275 : (p1 &&& (3 : Int32)) = (2 : Int32)) (hc289 : ¬ ((lcmpW (own_m2 q2) (0 : Int64)) = (0 : Int32))) :
    MetFree l x (head1 (Jvm.Cond.code x code maxLocals ret :: ws) room_1) (fun a U => a = #[(.int p1), (.long q2), (.int p3), (.int p4)] ∧ Z.Warmed39 U.vm ∧ U.heap = h0) (fun _ _ _ _ _ => True) (fun _ U o U' => ∃ v L, o = .returned v ∧ Q0 Z p1 q2 p3 p4 h0 n0 v U'.heap L ∧ FrameEnd U o U' L room_1.cells room_1.slots) := by
  have hnz282 : ¬ ((4503599627370496 : Int64) = (0 : Int64)) := by decide
  have hnn269 : Jvm.Free.Fl.NoNaN64 (FP.dmul (FP.i2d p3) (8975674057349398528 : UInt64)) := own_nni _
  have hnn301 : Jvm.Free.Fl.NoNaN64 (FP.dmul (FP.l2d (own_m2 q2)) (1 : UInt64)) := own_nn1 _
  refine MetFree.of_bodySF (plainFor_of_name pn_0) hisR ?_
  intro p e s m args below meth c s₁ Bd hml0 hP hK
  obtain ⟨rfl, hZ, hh⟩ := hP
  have hx := Bd.exec
  have hby := Bd.bytes
  have hml : c.maxLocals = 28 := hml0
  have hown : s.vm.findClass "com/example/level_ring/levelring/placement/MembersIsCertainlyHigherPinLaw" = some m.cls := findClass_of_methodNamed Bd.named
  have hnm := (name_of_methodNamed Bd.named Bd.method).1
  have X0 : Stand p l e room_1 s m #[(.int p1), (.long q2), (.int p3), (.int p4)] below meth c s₁ [] 0 0 := Stand.of_body Bd
  have e0 : s₁.heap = h0 := by rw [← hh, Bd.state]; rfl
  have N0 := Fr.nil n0
  have pre0 : ∀ t, Steps p.tables e below (s₁.setTop (mkF m 0 #[.val (.int p1), .val (.long q2), .second, .val (.int p3), .val (.int p4), .unset, .unset, .unset, .unset, .unset, .unset, .unset, .unset, .unset, .unset, .unset, .unset, .unset, .unset, .unset, .unset, .unset, .unset, .unset, .unset, .unset, .unset, .unset] [])) t → Steps p.tables e below (s₁.setTop (entryFrame m #[(.int p1), (.long q2), (.int p3), (.int p4)] maxLocals)) t := fun t k => castTop (ef_0 m p1 q2 p3 p4) k
  -- 3. LAWS
  -- pc 8: com/example/level_ring/levelring/placement/MembersIsCertainlyHigherPinLaw.scaleOf by its contract rm1
  obtain ⟨_, _, ⟨T5, L5, k5, n5⟩, -, X5, ⟨Lc5, hQ5, l5, y5, z5⟩, st5⟩ := Jvm.LawKit.callS X0 hx (y := (⟨"com/example/level_ring/levelring/placement/MembersIsCertainlyHigherPinLaw", "scaleOf", "(I)D"⟩ : MethodName)) hown (mvT hZ (hw _ (List.mem_of_getElem? (i := 0) rfl))) (mvT hZ (hw _ (List.mem_of_getElem? (i := 1) rfl))) (mvT hZ (hw _ (List.mem_of_getElem? (i := 2) rfl))) (mvT hZ (hw _ (List.mem_of_getElem? (i := 3) rfl))) (by decide) (backOf (W := 0) (rm1 l Z a0 hw [] (p4 &&& (3 : Int32))  h0 n0 Z0) hZ (hw _ (List.mem_of_getElem? (i := 3) rfl)) (hw _ (List.mem_of_getElem? (i := 2) rfl)) (by decide) (by decide)) (g := (mkF m 8 #[.val (.int p1), .val (.long q2), .second, .val (.int p3), .val (.int p4), .val (.int (p4 &&& (3 : Int32))), .unset, .unset, .unset, .unset, .unset, .unset, .unset, .unset, .unset, .unset, .unset, .unset, .unset, .unset, .unset, .unset, .unset, .unset, .unset, .unset, .unset, .unset] [(.int (p4 &&& (3 : Int32)))])) rfl (by rw [hml]; rfl) (argsL := [(.int (p4 &&& (3 : Int32)))]) (rest := []) (lenOf pdw_0 rfl) rfl (by show 2 * 0 + _ ≤ _; exact Nat.le_of_eq rfl) (hb hby at_8) (fun _ _ => ⟨rfl, e0, (by decide : 0 + 0 ≤ _), (by decide : 0 + 0 ≤ _)⟩)
  dsimp only [Pt.U, Pt.locs, Pt.cells, Pt.slots] at X5 l5 y5 z5 st5 hQ5
  subst l5 y5 z5
  obtain ⟨rfl, N5q, hh5⟩ := hQ5
  have N5 := Fr.app N0 N5q
  -- pc 320: com/example/level_ring/levelring/placement/Members.isCertainlyHigher by its contract rm2
  obtain ⟨_, _, ⟨T6, L6, k6, n6⟩, -, X6, ⟨Lc6, hQ6, l6, y6, z6⟩, st6⟩ := Jvm.LawKit.callS X5 hx (y := (⟨"com/example/level_ring/levelring/placement/Members", "isCertainlyHigher", "(DD)Z"⟩ : MethodName)) hown (mvT hZ (hw _ (List.mem_of_getElem? (i := 8) rfl))) (mvT hZ (hw _ (List.mem_of_getElem? (i := 9) rfl))) (mvT hZ (hw _ (List.mem_of_getElem? (i := 10) rfl))) (mvT hZ (hw _ (List.mem_of_getElem? (i := 11) rfl))) (by decide) (backOf (W := 0) (rm2 l Z a0 hw [] (FP.dmul (FP.i2d p3) (8975674057349398528 : UInt64)) (FP.dmul (FP.l2d (own_m2 q2)) (1 : UInt64))  h0 n0 Z0 (dmul_out (own_k2_fin (own_m2_rng q2)) own_C_fin)) hZ (hw _ (List.mem_of_getElem? (i := 11) rfl)) (hw _ (List.mem_of_getElem? (i := 10) rfl)) (by decide) (by decide)) (g := (mkF m 320 #[.val (.int p1), .val (.long q2), .second, .val (.int p3), .val (.int p4), .val (.int (p4 &&& (3 : Int32))), .val (.double (own_sc p4)), .second, .val (.int (p1 &&& (3 : Int32))), .val (.long (own_H q2)), .second, .val (.double (FP.dmul (FP.i2d p3) (8975674057349398528 : UInt64))), .second, .val (.double (FP.dmul (FP.l2d (own_m2 q2)) (1 : UInt64))), .second, .val (.long (own_m2 q2)), .second, .unset, .unset, .unset, .unset, .unset, .unset, .unset, .unset, .unset, .unset, .unset] [(.double (FP.dmul (FP.l2d (own_m2 q2)) (1 : UInt64))), (.double (FP.dmul (FP.i2d p3) (8975674057349398528 : UInt64)))])) rfl (by rw [hml]; rfl) (argsL := [(.double (FP.dmul (FP.i2d p3) (8975674057349398528 : UInt64))), (.double (FP.dmul (FP.l2d (own_m2 q2)) (1 : UInt64)))]) (rest := []) (lenOf pdw_1 rfl) rfl (by show 2 * 0 + _ ≤ _; exact Nat.le_of_eq rfl) (hb hby at_320) (fun _ _ => ⟨rfl, hh5, (by decide : 0 + 0 ≤ _), (by decide : 0 + 0 ≤ _)⟩)
  dsimp only [Pt.U, Pt.locs, Pt.cells, Pt.slots] at X6 l6 y6 z6 st6 hQ6
  subst l6 y6 z6
  obtain ⟨rfl, N6q, hh6⟩ := hQ6
  have N6 := Fr.app N5 N6q
  obtain ⟨fs, hr, hrun, hended, hW, hsame⟩ := X6.leave (v := some (.int (1 : Int32))) (fun h => by rw [Bd.returns] at h; cases h)
  refine ⟨_, _, pre0 _ ?_, hrun, hended, _, _, rfl, ?_, ⟨_, rfl⟩, hW, hsame.mono (by decide) (by decide)⟩
  -- 4. STEPS
  · show Steps p.tables e below (s₁.setTop (mkF m 0 #[.val (.int p1), .val (.long q2), .second, .val (.int p3), .val (.int p4), .unset, .unset, .unset, .unset, .unset, .unset, .unset, .unset, .unset, .unset, .unset, .unset, .unset, .unset, .unset, .unset, .unset, .unset, .unset, .unset, .unset, .unset, .unset] [])) _
    refine XS.iload X0.here hx rfl (hb hby at_0) rfl ?_
    refine XS.iconst X0.here hx rfl (hb hby at_2) ?_
    show Steps p.tables e below (s₁.setTop (mkF m 3 #[.val (.int p1), .val (.long q2), .second, .val (.int p3), .val (.int p4), .unset, .unset, .unset, .unset, .unset, .unset, .unset, .unset, .unset, .unset, .unset, .unset, .unset, .unset, .unset, .unset, .unset, .unset, .unset, .unset, .unset, .unset, .unset] [(.int (3 : Int32)), (.int p4)])) _
    refine XS.iand X0.here hx rfl (hb hby at_3) rfl ?_
    refine XS.istore X0.here hx rfl (hb hby at_4) rfl (l' := #[.val (.int p1), .val (.long q2), .second, .val (.int p3), .val (.int p4), .val (.int (p4 &&& (3 : Int32))), .unset, .unset, .unset, .unset, .unset, .unset, .unset, .unset, .unset, .unset, .unset, .unset, .unset, .unset, .unset, .unset, .unset, .unset, .unset, .unset, .unset, .unset]) rfl ?_
    show Steps p.tables e below (s₁.setTop (mkF m 6 #[.val (.int p1), .val (.long q2), .second, .val (.int p3), .val (.int p4), .val (.int (p4 &&& (3 : Int32))), .unset, .unset, .unset, .unset, .unset, .unset, .unset, .unset, .unset, .unset, .unset, .unset, .unset, .unset, .unset, .unset, .unset, .unset, .unset, .unset, .unset, .unset] [])) _
    refine XS.iload X0.here hx rfl (hb hby at_6) rfl ?_
    show Steps p.tables e below (s₁.setTop (mkF m 8 #[.val (.int p1), .val (.long q2), .second, .val (.int p3), .val (.int p4), .val (.int (p4 &&& (3 : Int32))), .unset, .unset, .unset, .unset, .unset, .unset, .unset, .unset, .unset, .unset, .unset, .unset, .unset, .unset, .unset, .unset, .unset, .unset, .unset, .unset, .unset, .unset] [(.int (p4 &&& (3 : Int32)))])) _
    refine st5 _ ?_
    show Steps p.tables e below (T5.setTop (mkF m 11 #[.val (.int p1), .val (.long q2), .second, .val (.int p3), .val (.int p4), .val (.int (p4 &&& (3 : Int32))), .unset, .unset, .unset, .unset, .unset, .unset, .unset, .unset, .unset, .unset, .unset, .unset, .unset, .unset, .unset, .unset, .unset, .unset, .unset, .unset, .unset, .unset] [(.double (own_sc p4))])) _
    refine XS.dstore X5.here hx rfl (hb hby at_11) rfl (l' := #[.val (.int p1), .val (.long q2), .second, .val (.int p3), .val (.int p4), .val (.int (p4 &&& (3 : Int32))), .val (.double (own_sc p4)), .second, .unset, .unset, .unset, .unset, .unset, .unset, .unset, .unset, .unset, .unset, .unset, .unset, .unset, .unset, .unset, .unset, .unset, .unset, .unset, .unset]) rfl ?_
    refine XS.iloadN X5.here hx rfl (hb hby at_13) rfl ?_
    show Steps p.tables e below (T5.setTop (mkF m 14 #[.val (.int p1), .val (.long q2), .second, .val (.int p3), .val (.int p4), .val (.int (p4 &&& (3 : Int32))), .val (.double (own_sc p4)), .second, .unset, .unset, .unset, .unset, .unset, .unset, .unset, .unset, .unset, .unset, .unset, .unset, .unset, .unset, .unset, .unset, .unset, .unset, .unset, .unset] [(.int p1)])) _
    refine XS.iconst X5.here hx rfl (hb hby at_14) ?_
    refine XS.iand X5.here hx rfl (hb hby at_15) rfl ?_
    show Steps p.tables e below (T5.setTop (mkF m 16 #[.val (.int p1), .val (.long q2), .second, .val (.int p3), .val (.int p4), .val (.int (p4 &&& (3 : Int32))), .val (.double (own_sc p4)), .second, .unset, .unset, .unset, .unset, .unset, .unset, .unset, .unset, .unset, .unset, .unset, .unset, .unset, .unset, .unset, .unset, .unset, .unset, .unset, .unset] [(.int (p1 &&& (3 : Int32)))])) _
    refine XS.istore X5.here hx rfl (hb hby at_16) rfl (l' := #[.val (.int p1), .val (.long q2), .second, .val (.int p3), .val (.int p4), .val (.int (p4 &&& (3 : Int32))), .val (.double (own_sc p4)), .second, .val (.int (p1 &&& (3 : Int32))), .unset, .unset, .unset, .unset, .unset, .unset, .unset, .unset, .unset, .unset, .unset, .unset, .unset, .unset, .unset, .unset, .unset, .unset, .unset]) rfl ?_
    show Steps p.tables e below (T5.setTop (mkF m 18 #[.val (.int p1), .val (.long q2), .second, .val (.int p3), .val (.int p4), .val (.int (p4 &&& (3 : Int32))), .val (.double (own_sc p4)), .second, .val (.int (p1 &&& (3 : Int32))), .unset, .unset, .unset, .unset, .unset, .unset, .unset, .unset, .unset, .unset, .unset, .unset, .unset, .unset, .unset, .unset, .unset, .unset, .unset] [])) _
    refine X5.ldc2Long hx hown (mvT hZ (hw _ (List.mem_of_getElem? (i := 4) rfl))) (g := (mkF m 18 #[.val (.int p1), .val (.long q2), .second, .val (.int p3), .val (.int p4), .val (.int (p4 &&& (3 : Int32))), .val (.double (own_sc p4)), .second, .val (.int (p1 &&& (3 : Int32))), .unset, .unset, .unset, .unset, .unset, .unset, .unset, .unset, .unset, .unset, .unset, .unset, .unset, .unset, .unset, .unset, .unset, .unset, .unset] [])) rfl (hb hby at_18) _ ?_
    show Steps p.tables e below (T5.setTop (mkF m 21 #[.val (.int p1), .val (.long q2), .second, .val (.int p3), .val (.int p4), .val (.int (p4 &&& (3 : Int32))), .val (.double (own_sc p4)), .second, .val (.int (p1 &&& (3 : Int32))), .unset, .unset, .unset, .unset, .unset, .unset, .unset, .unset, .unset, .unset, .unset, .unset, .unset, .unset, .unset, .unset, .unset, .unset, .unset] [(.long (4503599627370496 : Int64))])) _
    refine XS.lloadN X5.here hx rfl (hb hby at_21) rfl ?_
    show Steps p.tables e below (T5.setTop (mkF m 22 #[.val (.int p1), .val (.long q2), .second, .val (.int p3), .val (.int p4), .val (.int (p4 &&& (3 : Int32))), .val (.double (own_sc p4)), .second, .val (.int (p1 &&& (3 : Int32))), .unset, .unset, .unset, .unset, .unset, .unset, .unset, .unset, .unset, .unset, .unset, .unset, .unset, .unset, .unset, .unset, .unset, .unset, .unset] [(.long q2), (.long (4503599627370496 : Int64))])) _
    refine X5.ldc2Long hx hown (mvT hZ (hw _ (List.mem_of_getElem? (i := 5) rfl))) (g := (mkF m 22 #[.val (.int p1), .val (.long q2), .second, .val (.int p3), .val (.int p4), .val (.int (p4 &&& (3 : Int32))), .val (.double (own_sc p4)), .second, .val (.int (p1 &&& (3 : Int32))), .unset, .unset, .unset, .unset, .unset, .unset, .unset, .unset, .unset, .unset, .unset, .unset, .unset, .unset, .unset, .unset, .unset, .unset, .unset] [(.long q2), (.long (4503599627370496 : Int64))])) rfl (hb hby at_22) _ ?_
    show Steps p.tables e below (T5.setTop (mkF m 25 #[.val (.int p1), .val (.long q2), .second, .val (.int p3), .val (.int p4), .val (.int (p4 &&& (3 : Int32))), .val (.double (own_sc p4)), .second, .val (.int (p1 &&& (3 : Int32))), .unset, .unset, .unset, .unset, .unset, .unset, .unset, .unset, .unset, .unset, .unset, .unset, .unset, .unset, .unset, .unset, .unset, .unset, .unset] [(.long (2251799813685247 : Int64)), (.long q2), (.long (4503599627370496 : Int64))])) _
    refine XS.land X5.here hx rfl (hb hby at_25) rfl ?_
    refine XS.lor X5.here hx rfl (hb hby at_26) rfl ?_
    show Steps p.tables e below (T5.setTop (mkF m 27 #[.val (.int p1), .val (.long q2), .second, .val (.int p3), .val (.int p4), .val (.int (p4 &&& (3 : Int32))), .val (.double (own_sc p4)), .second, .val (.int (p1 &&& (3 : Int32))), .unset, .unset, .unset, .unset, .unset, .unset, .unset, .unset, .unset, .unset, .unset, .unset, .unset, .unset, .unset, .unset, .unset, .unset, .unset] [(.long (own_H q2))])) _
    refine XS.lstore X5.here hx rfl (hb hby at_27) rfl (l' := #[.val (.int p1), .val (.long q2), .second, .val (.int p3), .val (.int p4), .val (.int (p4 &&& (3 : Int32))), .val (.double (own_sc p4)), .second, .val (.int (p1 &&& (3 : Int32))), .val (.long (own_H q2)), .second, .unset, .unset, .unset, .unset, .unset, .unset, .unset, .unset, .unset, .unset, .unset, .unset, .unset, .unset, .unset, .unset, .unset]) rfl ?_
    refine XS.iload X5.here hx rfl (hb hby at_29) rfl ?_
    show Steps p.tables e below (T5.setTop (mkF m 31 #[.val (.int p1), .val (.long q2), .second, .val (.int p3), .val (.int p4), .val (.int (p4 &&& (3 : Int32))), .val (.double (own_sc p4)), .second, .val (.int (p1 &&& (3 : Int32))), .val (.long (own_H q2)), .second, .unset, .unset, .unset, .unset, .unset, .unset, .unset, .unset, .unset, .unset, .unset, .unset, .unset, .unset, .unset, .unset, .unset] [(.int (p1 &&& (3 : Int32)))])) _
    refine XS.ifYes X5.here hx rfl (pc0 := 31) (pc' := 173) rfl (hb hby at_31) rfl ((if0 _ _).trans (feq hc31).2) (by decide) (by decide) ?_
    refine XS.iload X5.here hx rfl (hb hby at_173) rfl ?_
    show Steps p.tables e below (T5.setTop (mkF m 175 #[.val (.int p1), .val (.long q2), .second, .val (.int p3), .val (.int p4), .val (.int (p4 &&& (3 : Int32))), .val (.double (own_sc p4)), .second, .val (.int (p1 &&& (3 : Int32))), .val (.long (own_H q2)), .second, .unset, .unset, .unset, .unset, .unset, .unset, .unset, .unset, .unset, .unset, .unset, .unset, .unset, .unset, .unset, .unset, .unset] [(.int (p1 &&& (3 : Int32)))])) _
    refine XS.iconst X5.here hx rfl (hb hby at_175) ?_
    refine XS.icmpYes X5.here hx rfl (pc0 := 176) (pc' := 264) rfl (hb hby at_176) rfl (feq hc176).2 (by decide) (by decide) ?_
    show Steps p.tables e below (T5.setTop (mkF m 264 #[.val (.int p1), .val (.long q2), .second, .val (.int p3), .val (.int p4), .val (.int (p4 &&& (3 : Int32))), .val (.double (own_sc p4)), .second, .val (.int (p1 &&& (3 : Int32))), .val (.long (own_H q2)), .second, .unset, .unset, .unset, .unset, .unset, .unset, .unset, .unset, .unset, .unset, .unset, .unset, .unset, .unset, .unset, .unset, .unset] [])) _
    refine XS.iloadN X5.here hx rfl (hb hby at_264) rfl ?_
    refine XS.i2dS X5.here hx rfl (hb hby at_265) rfl rfl ?_
    show Steps p.tables e below (T5.setTop (mkF m 266 #[.val (.int p1), .val (.long q2), .second, .val (.int p3), .val (.int p4), .val (.int (p4 &&& (3 : Int32))), .val (.double (own_sc p4)), .second, .val (.int (p1 &&& (3 : Int32))), .val (.long (own_H q2)), .second, .unset, .unset, .unset, .unset, .unset, .unset, .unset, .unset, .unset, .unset, .unset, .unset, .unset, .unset, .unset, .unset, .unset] [(.double (FP.i2d p3))])) _
    refine X5.ldc2DoubleC hx hown (mvT hZ (hw _ (List.mem_of_getElem? (i := 15) rfl))) (g := (mkF m 266 #[.val (.int p1), .val (.long q2), .second, .val (.int p3), .val (.int p4), .val (.int (p4 &&& (3 : Int32))), .val (.double (own_sc p4)), .second, .val (.int (p1 &&& (3 : Int32))), .val (.long (own_H q2)), .second, .unset, .unset, .unset, .unset, .unset, .unset, .unset, .unset, .unset, .unset, .unset, .unset, .unset, .unset, .unset, .unset, .unset] [(.double (FP.i2d p3))])) rfl (hb hby at_266) _ ?_
    show Steps p.tables e below (T5.setTop (mkF m 269 #[.val (.int p1), .val (.long q2), .second, .val (.int p3), .val (.int p4), .val (.int (p4 &&& (3 : Int32))), .val (.double (own_sc p4)), .second, .val (.int (p1 &&& (3 : Int32))), .val (.long (own_H q2)), .second, .unset, .unset, .unset, .unset, .unset, .unset, .unset, .unset, .unset, .unset, .unset, .unset, .unset, .unset, .unset, .unset, .unset] [(.double (8975674057349398528 : UInt64)), (.double (FP.i2d p3))])) _
    refine XS.dmulS X5.here hx rfl (hb hby at_269) rfl hnn269 rfl ?_
    refine XS.dstore X5.here hx rfl (hb hby at_270) rfl (l' := #[.val (.int p1), .val (.long q2), .second, .val (.int p3), .val (.int p4), .val (.int (p4 &&& (3 : Int32))), .val (.double (own_sc p4)), .second, .val (.int (p1 &&& (3 : Int32))), .val (.long (own_H q2)), .second, .val (.double (FP.dmul (FP.i2d p3) (8975674057349398528 : UInt64))), .second, .unset, .unset, .unset, .unset, .unset, .unset, .unset, .unset, .unset, .unset, .unset, .unset, .unset, .unset, .unset]) rfl ?_
    show Steps p.tables e below (T5.setTop (mkF m 272 #[.val (.int p1), .val (.long q2), .second, .val (.int p3), .val (.int p4), .val (.int (p4 &&& (3 : Int32))), .val (.double (own_sc p4)), .second, .val (.int (p1 &&& (3 : Int32))), .val (.long (own_H q2)), .second, .val (.double (FP.dmul (FP.i2d p3) (8975674057349398528 : UInt64))), .second, .unset, .unset, .unset, .unset, .unset, .unset, .unset, .unset, .unset, .unset, .unset, .unset, .unset, .unset, .unset] [])) _
    refine XS.iload X5.here hx rfl (hb hby at_272) rfl ?_
    refine XS.iconst X5.here hx rfl (hb hby at_274) ?_
    show Steps p.tables e below (T5.setTop (mkF m 275 #[.val (.int p1), .val (.long q2), .second, .val (.int p3), .val (.int p4), .val (.int (p4 &&& (3 : Int32))), .val (.double (own_sc p4)), .second, .val (.int (p1 &&& (3 : Int32))), .val (.long (own_H q2)), .second, .val (.double (FP.dmul (FP.i2d p3) (8975674057349398528 : UInt64))), .second, .unset, .unset, .unset, .unset, .unset, .unset, .unset, .unset, .unset, .unset, .unset, .unset, .unset, .unset, .unset] [(.int (2 : Int32)), (.int (p1 &&& (3 : Int32)))])) _
    refine XS.icmpNo X5.here hx rfl (hb hby at_275) rfl (teq hc275).2 ?_
    refine XS.lloadN X5.here hx rfl (hb hby at_278) rfl ?_
    show Steps p.tables e below (T5.setTop (mkF m 279 #[.val (.int p1), .val (.long q2), .second, .val (.int p3), .val (.int p4), .val (.int (p4 &&& (3 : Int32))), .val (.double (own_sc p4)), .second, .val (.int (p1 &&& (3 : Int32))), .val (.long (own_H q2)), .second, .val (.double (FP.dmul (FP.i2d p3) (8975674057349398528 : UInt64))), .second, .unset, .unset, .unset, .unset, .unset, .unset, .unset, .unset, .unset, .unset, .unset, .unset, .unset, .unset, .unset] [(.long q2)])) _
    refine X5.ldc2Long hx hown (mvT hZ (hw _ (List.mem_of_getElem? (i := 4) rfl))) (g := (mkF m 279 #[.val (.int p1), .val (.long q2), .second, .val (.int p3), .val (.int p4), .val (.int (p4 &&& (3 : Int32))), .val (.double (own_sc p4)), .second, .val (.int (p1 &&& (3 : Int32))), .val (.long (own_H q2)), .second, .val (.double (FP.dmul (FP.i2d p3) (8975674057349398528 : UInt64))), .second, .unset, .unset, .unset, .unset, .unset, .unset, .unset, .unset, .unset, .unset, .unset, .unset, .unset, .unset, .unset] [(.long q2)])) rfl (hb hby at_279) _ ?_
    show Steps p.tables e below (T5.setTop (mkF m 282 #[.val (.int p1), .val (.long q2), .second, .val (.int p3), .val (.int p4), .val (.int (p4 &&& (3 : Int32))), .val (.double (own_sc p4)), .second, .val (.int (p1 &&& (3 : Int32))), .val (.long (own_H q2)), .second, .val (.double (FP.dmul (FP.i2d p3) (8975674057349398528 : UInt64))), .second, .unset, .unset, .unset, .unset, .unset, .unset, .unset, .unset, .unset, .unset, .unset, .unset, .unset, .unset, .unset] [(.long (4503599627370496 : Int64)), (.long q2)])) _
    refine XS.lrem X5.here hx rfl (hb hby at_282) rfl hnz282 ?_
    refine XS.lstore X5.here hx rfl (hb hby at_283) rfl (l' := #[.val (.int p1), .val (.long q2), .second, .val (.int p3), .val (.int p4), .val (.int (p4 &&& (3 : Int32))), .val (.double (own_sc p4)), .second, .val (.int (p1 &&& (3 : Int32))), .val (.long (own_H q2)), .second, .val (.double (FP.dmul (FP.i2d p3) (8975674057349398528 : UInt64))), .second, .unset, .unset, .val (.long (own_m2 q2)), .second, .unset, .unset, .unset, .unset, .unset, .unset, .unset, .unset, .unset, .unset, .unset]) rfl ?_
    show Steps p.tables e below (T5.setTop (mkF m 285 #[.val (.int p1), .val (.long q2), .second, .val (.int p3), .val (.int p4), .val (.int (p4 &&& (3 : Int32))), .val (.double (own_sc p4)), .second, .val (.int (p1 &&& (3 : Int32))), .val (.long (own_H q2)), .second, .val (.double (FP.dmul (FP.i2d p3) (8975674057349398528 : UInt64))), .second, .unset, .unset, .val (.long (own_m2 q2)), .second, .unset, .unset, .unset, .unset, .unset, .unset, .unset, .unset, .unset, .unset, .unset] [])) _
    refine XS.lload X5.here hx rfl (hb hby at_285) rfl ?_
    refine XS.lconst X5.here hx rfl (hb hby at_287) ?_
    show Steps p.tables e below (T5.setTop (mkF m 288 #[.val (.int p1), .val (.long q2), .second, .val (.int p3), .val (.int p4), .val (.int (p4 &&& (3 : Int32))), .val (.double (own_sc p4)), .second, .val (.int (p1 &&& (3 : Int32))), .val (.long (own_H q2)), .second, .val (.double (FP.dmul (FP.i2d p3) (8975674057349398528 : UInt64))), .second, .unset, .unset, .val (.long (own_m2 q2)), .second, .unset, .unset, .unset, .unset, .unset, .unset, .unset, .unset, .unset, .unset, .unset] [(.long (0 : Int64)), (.long (own_m2 q2))])) _
    refine XS.lcmp X5.here hx rfl (hb hby at_288) rfl ?_
    refine XS.ifYes X5.here hx rfl (pc0 := 289) (pc' := 295) rfl (hb hby at_289) rfl ((if0 _ _).trans (feq hc289).2) (by decide) (by decide) ?_
    show Steps p.tables e below (T5.setTop (mkF m 295 #[.val (.int p1), .val (.long q2), .second, .val (.int p3), .val (.int p4), .val (.int (p4 &&& (3 : Int32))), .val (.double (own_sc p4)), .second, .val (.int (p1 &&& (3 : Int32))), .val (.long (own_H q2)), .second, .val (.double (FP.dmul (FP.i2d p3) (8975674057349398528 : UInt64))), .second, .unset, .unset, .val (.long (own_m2 q2)), .second, .unset, .unset, .unset, .unset, .unset, .unset, .unset, .unset, .unset, .unset, .unset] [])) _
    refine XS.lload X5.here hx rfl (hb hby at_295) rfl ?_
    refine XS.l2dS X5.here hx rfl (hb hby at_297) rfl rfl ?_
    show Steps p.tables e below (T5.setTop (mkF m 298 #[.val (.int p1), .val (.long q2), .second, .val (.int p3), .val (.int p4), .val (.int (p4 &&& (3 : Int32))), .val (.double (own_sc p4)), .second, .val (.int (p1 &&& (3 : Int32))), .val (.long (own_H q2)), .second, .val (.double (FP.dmul (FP.i2d p3) (8975674057349398528 : UInt64))), .second, .unset, .unset, .val (.long (own_m2 q2)), .second, .unset, .unset, .unset, .unset, .unset, .unset, .unset, .unset, .unset, .unset, .unset] [(.double (FP.l2d (own_m2 q2)))])) _
    refine X5.ldc2DoubleC hx hown (mvT hZ (hw _ (List.mem_of_getElem? (i := 17) rfl))) (g := (mkF m 298 #[.val (.int p1), .val (.long q2), .second, .val (.int p3), .val (.int p4), .val (.int (p4 &&& (3 : Int32))), .val (.double (own_sc p4)), .second, .val (.int (p1 &&& (3 : Int32))), .val (.long (own_H q2)), .second, .val (.double (FP.dmul (FP.i2d p3) (8975674057349398528 : UInt64))), .second, .unset, .unset, .val (.long (own_m2 q2)), .second, .unset, .unset, .unset, .unset, .unset, .unset, .unset, .unset, .unset, .unset, .unset] [(.double (FP.l2d (own_m2 q2)))])) rfl (hb hby at_298) _ ?_
    show Steps p.tables e below (T5.setTop (mkF m 301 #[.val (.int p1), .val (.long q2), .second, .val (.int p3), .val (.int p4), .val (.int (p4 &&& (3 : Int32))), .val (.double (own_sc p4)), .second, .val (.int (p1 &&& (3 : Int32))), .val (.long (own_H q2)), .second, .val (.double (FP.dmul (FP.i2d p3) (8975674057349398528 : UInt64))), .second, .unset, .unset, .val (.long (own_m2 q2)), .second, .unset, .unset, .unset, .unset, .unset, .unset, .unset, .unset, .unset, .unset, .unset] [(.double (1 : UInt64)), (.double (FP.l2d (own_m2 q2)))])) _
    refine XS.dmulS X5.here hx rfl (hb hby at_301) rfl hnn301 rfl ?_
    refine XS.dstore X5.here hx rfl (hb hby at_302) rfl (l' := #[.val (.int p1), .val (.long q2), .second, .val (.int p3), .val (.int p4), .val (.int (p4 &&& (3 : Int32))), .val (.double (own_sc p4)), .second, .val (.int (p1 &&& (3 : Int32))), .val (.long (own_H q2)), .second, .val (.double (FP.dmul (FP.i2d p3) (8975674057349398528 : UInt64))), .second, .val (.double (FP.dmul (FP.l2d (own_m2 q2)) (1 : UInt64))), .second, .val (.long (own_m2 q2)), .second, .unset, .unset, .unset, .unset, .unset, .unset, .unset, .unset, .unset, .unset, .unset]) rfl ?_
    show Steps p.tables e below (T5.setTop (mkF m 304 #[.val (.int p1), .val (.long q2), .second, .val (.int p3), .val (.int p4), .val (.int (p4 &&& (3 : Int32))), .val (.double (own_sc p4)), .second, .val (.int (p1 &&& (3 : Int32))), .val (.long (own_H q2)), .second, .val (.double (FP.dmul (FP.i2d p3) (8975674057349398528 : UInt64))), .second, .val (.double (FP.dmul (FP.l2d (own_m2 q2)) (1 : UInt64))), .second, .val (.long (own_m2 q2)), .second, .unset, .unset, .unset, .unset, .unset, .unset, .unset, .unset, .unset, .unset, .unset] [])) _
    refine XS.goto X5.here hx rfl (pc0 := 304) (pc' := 316) rfl (hb hby at_304) (by decide) (by decide) ?_
    refine XS.dload X5.here hx rfl (hb hby at_316) rfl ?_
    show Steps p.tables e below (T5.setTop (mkF m 318 #[.val (.int p1), .val (.long q2), .second, .val (.int p3), .val (.int p4), .val (.int (p4 &&& (3 : Int32))), .val (.double (own_sc p4)), .second, .val (.int (p1 &&& (3 : Int32))), .val (.long (own_H q2)), .second, .val (.double (FP.dmul (FP.i2d p3) (8975674057349398528 : UInt64))), .second, .val (.double (FP.dmul (FP.l2d (own_m2 q2)) (1 : UInt64))), .second, .val (.long (own_m2 q2)), .second, .unset, .unset, .unset, .unset, .unset, .unset, .unset, .unset, .unset, .unset, .unset] [(.double (FP.dmul (FP.i2d p3) (8975674057349398528 : UInt64)))])) _
    refine XS.dload X5.here hx rfl (hb hby at_318) rfl ?_
    show Steps p.tables e below (T5.setTop (mkF m 320 #[.val (.int p1), .val (.long q2), .second, .val (.int p3), .val (.int p4), .val (.int (p4 &&& (3 : Int32))), .val (.double (own_sc p4)), .second, .val (.int (p1 &&& (3 : Int32))), .val (.long (own_H q2)), .second, .val (.double (FP.dmul (FP.i2d p3) (8975674057349398528 : UInt64))), .second, .val (.double (FP.dmul (FP.l2d (own_m2 q2)) (1 : UInt64))), .second, .val (.long (own_m2 q2)), .second, .unset, .unset, .unset, .unset, .unset, .unset, .unset, .unset, .unset, .unset, .unset] [(.double (FP.dmul (FP.l2d (own_m2 q2)) (1 : UInt64))), (.double (FP.dmul (FP.i2d p3) (8975674057349398528 : UInt64)))])) _
    refine st6 _ ?_
    show Steps p.tables e below (T6.setTop (mkF m 323 #[.val (.int p1), .val (.long q2), .second, .val (.int p3), .val (.int p4), .val (.int (p4 &&& (3 : Int32))), .val (.double (own_sc p4)), .second, .val (.int (p1 &&& (3 : Int32))), .val (.long (own_H q2)), .second, .val (.double (FP.dmul (FP.i2d p3) (8975674057349398528 : UInt64))), .second, .val (.double (FP.dmul (FP.l2d (own_m2 q2)) (1 : UInt64))), .second, .val (.long (own_m2 q2)), .second, .unset, .unset, .unset, .unset, .unset, .unset, .unset, .unset, .unset, .unset, .unset] [(.int (own_ich (FP.dmul (FP.i2d p3) (8975674057349398528 : UInt64)) (FP.dmul (FP.l2d (own_m2 q2)) (1 : UInt64))))])) _
    refine XS.ifNo X6.here hx rfl (hb hby at_323) rfl ((if0 _ _).trans (teq (own_k2 (own_m2_rng q2) hc289 : (own_ich (FP.dmul (FP.i2d p3) (8975674057349398528 : UInt64)) (FP.dmul (FP.l2d (own_m2 q2)) (1 : UInt64))) = (0 : Int32))).2) ?_
    refine XS.iconst X6.here hx rfl (hb hby at_326) ?_
    show Steps p.tables e below (T6.setTop (mkF m 327 #[.val (.int p1), .val (.long q2), .second, .val (.int p3), .val (.int p4), .val (.int (p4 &&& (3 : Int32))), .val (.double (own_sc p4)), .second, .val (.int (p1 &&& (3 : Int32))), .val (.long (own_H q2)), .second, .val (.double (FP.dmul (FP.i2d p3) (8975674057349398528 : UInt64))), .second, .val (.double (FP.dmul (FP.l2d (own_m2 q2)) (1 : UInt64))), .second, .val (.long (own_m2 q2)), .second, .unset, .unset, .unset, .unset, .unset, .unset, .unset, .unset, .unset, .unset, .unset] [(.int (1 : Int32))])) _
    refine XS.goto X6.here hx rfl (pc0 := 327) (pc' := 331) rfl (hb hby at_327) (by decide) (by decide) ?_
    show Steps p.tables e below (T6.setTop (mkF m 331 #[.val (.int p1), .val (.long q2), .second, .val (.int p3), .val (.int p4), .val (.int (p4 &&& (3 : Int32))), .val (.double (own_sc p4)), .second, .val (.int (p1 &&& (3 : Int32))), .val (.long (own_H q2)), .second, .val (.double (FP.dmul (FP.i2d p3) (8975674057349398528 : UInt64))), .second, .val (.double (FP.dmul (FP.l2d (own_m2 q2)) (1 : UInt64))), .second, .val (.long (own_m2 q2)), .second, .unset, .unset, .unset, .unset, .unset, .unset, .unset, .unset, .unset, .unset, .unset] [(.int (1 : Int32))])) _
    exact retN X6 hx (t := .boolean) Bd.returns (by simp) (hb hby at_331) hr
  · show Q0 Z p1 q2 p3 p4 h0 n0 _ T6.heap _
    exact ⟨rfl, N6⟩
set_option maxRecDepth 65536 in
set_option maxHeartbeats 40000000 in
theorem rm0_d (l : Launch) (Z : State) (a0 : Array Value) (hw : ∀ d ∈ tables_1, d.before a0 Z = true) (ws : List Jvm.Cond) (p1 : Int32) (q2 : Int64) (p3 : Int32) (p4 : Int32) (h0 : Heap) (n0 : Nat) (Z0 : n0 ≤ h0.size) (hc31 : ¬ ((p1 &&& (3 : Int32)) = (0 : Int32))) (hc176 : ¬ ((p1 &&& (3 : Int32)) = (1 : Int32))) (hc275 : ¬ ((p1 &&& (3 : Int32)) = (2 : Int32))) :
    MetFree l x (head1 (Jvm.Cond.code x code maxLocals ret :: ws) room_1) (fun a U => a = #[(.int p1), (.long q2), (.int p3), (.int p4)] ∧ Z.Warmed39 U.vm ∧ U.heap = h0) (fun _ _ _ _ _ => True) (fun _ U o U' => ∃ v L, o = .returned v ∧ Q0 Z p1 q2 p3 p4 h0 n0 v U'.heap L ∧ FrameEnd U o U' L room_1.cells room_1.slots) := by
  have hnn269 : Jvm.Free.Fl.NoNaN64 (FP.dmul (FP.i2d p3) (8975674057349398528 : UInt64)) := own_nni _
  have hnn312 : Jvm.Free.Fl.NoNaN64 (FP.dmul (FP.l2d (own_H q2)) (own_sc p4)) := own_nn _ _
  refine MetFree.of_bodySF (plainFor_of_name pn_0) hisR ?_
  intro p e s m args below meth c s₁ Bd hml0 hP hK
  obtain ⟨rfl, hZ, hh⟩ := hP
  have hx := Bd.exec
  have hby := Bd.bytes
  have hml : c.maxLocals = 28 := hml0
  have hown : s.vm.findClass "com/example/level_ring/levelring/placement/MembersIsCertainlyHigherPinLaw" = some m.cls := findClass_of_methodNamed Bd.named
  have hnm := (name_of_methodNamed Bd.named Bd.method).1
  have X0 : Stand p l e room_1 s m #[(.int p1), (.long q2), (.int p3), (.int p4)] below meth c s₁ [] 0 0 := Stand.of_body Bd
  have e0 : s₁.heap = h0 := by rw [← hh, Bd.state]; rfl
  have N0 := Fr.nil n0
  have pre0 : ∀ t, Steps p.tables e below (s₁.setTop (mkF m 0 #[.val (.int p1), .val (.long q2), .second, .val (.int p3), .val (.int p4), .unset, .unset, .unset, .unset, .unset, .unset, .unset, .unset, .unset, .unset, .unset, .unset, .unset, .unset, .unset, .unset, .unset, .unset, .unset, .unset, .unset, .unset, .unset] [])) t → Steps p.tables e below (s₁.setTop (entryFrame m #[(.int p1), (.long q2), (.int p3), (.int p4)] maxLocals)) t := fun t k => castTop (ef_0 m p1 q2 p3 p4) k
  -- 3. LAWS
  -- pc 8: com/example/level_ring/levelring/placement/MembersIsCertainlyHigherPinLaw.scaleOf by its contract rm1
  obtain ⟨_, _, ⟨T5, L5, k5, n5⟩, -, X5, ⟨Lc5, hQ5, l5, y5, z5⟩, st5⟩ := Jvm.LawKit.callS X0 hx (y := (⟨"com/example/level_ring/levelring/placement/MembersIsCertainlyHigherPinLaw", "scaleOf", "(I)D"⟩ : MethodName)) hown (mvT hZ (hw _ (List.mem_of_getElem? (i := 0) rfl))) (mvT hZ (hw _ (List.mem_of_getElem? (i := 1) rfl))) (mvT hZ (hw _ (List.mem_of_getElem? (i := 2) rfl))) (mvT hZ (hw _ (List.mem_of_getElem? (i := 3) rfl))) (by decide) (backOf (W := 0) (rm1 l Z a0 hw [] (p4 &&& (3 : Int32))  h0 n0 Z0) hZ (hw _ (List.mem_of_getElem? (i := 3) rfl)) (hw _ (List.mem_of_getElem? (i := 2) rfl)) (by decide) (by decide)) (g := (mkF m 8 #[.val (.int p1), .val (.long q2), .second, .val (.int p3), .val (.int p4), .val (.int (p4 &&& (3 : Int32))), .unset, .unset, .unset, .unset, .unset, .unset, .unset, .unset, .unset, .unset, .unset, .unset, .unset, .unset, .unset, .unset, .unset, .unset, .unset, .unset, .unset, .unset] [(.int (p4 &&& (3 : Int32)))])) rfl (by rw [hml]; rfl) (argsL := [(.int (p4 &&& (3 : Int32)))]) (rest := []) (lenOf pdw_0 rfl) rfl (by show 2 * 0 + _ ≤ _; exact Nat.le_of_eq rfl) (hb hby at_8) (fun _ _ => ⟨rfl, e0, (by decide : 0 + 0 ≤ _), (by decide : 0 + 0 ≤ _)⟩)
  dsimp only [Pt.U, Pt.locs, Pt.cells, Pt.slots] at X5 l5 y5 z5 st5 hQ5
  subst l5 y5 z5
  obtain ⟨rfl, N5q, hh5⟩ := hQ5
  have N5 := Fr.app N0 N5q
  -- pc 320: com/example/level_ring/levelring/placement/Members.isCertainlyHigher by its contract rm2
  obtain ⟨_, _, ⟨T6, L6, k6, n6⟩, -, X6, ⟨Lc6, hQ6, l6, y6, z6⟩, st6⟩ := Jvm.LawKit.callS X5 hx (y := (⟨"com/example/level_ring/levelring/placement/Members", "isCertainlyHigher", "(DD)Z"⟩ : MethodName)) hown (mvT hZ (hw _ (List.mem_of_getElem? (i := 8) rfl))) (mvT hZ (hw _ (List.mem_of_getElem? (i := 9) rfl))) (mvT hZ (hw _ (List.mem_of_getElem? (i := 10) rfl))) (mvT hZ (hw _ (List.mem_of_getElem? (i := 11) rfl))) (by decide) (backOf (W := 0) (rm2 l Z a0 hw [] (FP.dmul (FP.i2d p3) (8975674057349398528 : UInt64)) (FP.dneg (FP.dmul (FP.l2d (own_H q2)) (own_sc p4)))  h0 n0 Z0 (dmul_out (own_k3_fin q2 (p4 &&& (3 : Int32))) own_C_fin)) hZ (hw _ (List.mem_of_getElem? (i := 11) rfl)) (hw _ (List.mem_of_getElem? (i := 10) rfl)) (by decide) (by decide)) (g := (mkF m 320 #[.val (.int p1), .val (.long q2), .second, .val (.int p3), .val (.int p4), .val (.int (p4 &&& (3 : Int32))), .val (.double (own_sc p4)), .second, .val (.int (p1 &&& (3 : Int32))), .val (.long (own_H q2)), .second, .val (.double (FP.dmul (FP.i2d p3) (8975674057349398528 : UInt64))), .second, .val (.double (FP.dneg (FP.dmul (FP.l2d (own_H q2)) (own_sc p4)))), .second, .unset, .unset, .unset, .unset, .unset, .unset, .unset, .unset, .unset, .unset, .unset, .unset, .unset] [(.double (FP.dneg (FP.dmul (FP.l2d (own_H q2)) (own_sc p4)))), (.double (FP.dmul (FP.i2d p3) (8975674057349398528 : UInt64)))])) rfl (by rw [hml]; rfl) (argsL := [(.double (FP.dmul (FP.i2d p3) (8975674057349398528 : UInt64))), (.double (FP.dneg (FP.dmul (FP.l2d (own_H q2)) (own_sc p4))))]) (rest := []) (lenOf pdw_1 rfl) rfl (by show 2 * 0 + _ ≤ _; exact Nat.le_of_eq rfl) (hb hby at_320) (fun _ _ => ⟨rfl, hh5, (by decide : 0 + 0 ≤ _), (by decide : 0 + 0 ≤ _)⟩)
  dsimp only [Pt.U, Pt.locs, Pt.cells, Pt.slots] at X6 l6 y6 z6 st6 hQ6
  subst l6 y6 z6
  obtain ⟨rfl, N6q, hh6⟩ := hQ6
  have N6 := Fr.app N5 N6q
  obtain ⟨fs, hr, hrun, hended, hW, hsame⟩ := X6.leave (v := some (.int (1 : Int32))) (fun h => by rw [Bd.returns] at h; cases h)
  refine ⟨_, _, pre0 _ ?_, hrun, hended, _, _, rfl, ?_, ⟨_, rfl⟩, hW, hsame.mono (by decide) (by decide)⟩
  -- 4. STEPS
  · show Steps p.tables e below (s₁.setTop (mkF m 0 #[.val (.int p1), .val (.long q2), .second, .val (.int p3), .val (.int p4), .unset, .unset, .unset, .unset, .unset, .unset, .unset, .unset, .unset, .unset, .unset, .unset, .unset, .unset, .unset, .unset, .unset, .unset, .unset, .unset, .unset, .unset, .unset] [])) _
    refine XS.iload X0.here hx rfl (hb hby at_0) rfl ?_
    refine XS.iconst X0.here hx rfl (hb hby at_2) ?_
    show Steps p.tables e below (s₁.setTop (mkF m 3 #[.val (.int p1), .val (.long q2), .second, .val (.int p3), .val (.int p4), .unset, .unset, .unset, .unset, .unset, .unset, .unset, .unset, .unset, .unset, .unset, .unset, .unset, .unset, .unset, .unset, .unset, .unset, .unset, .unset, .unset, .unset, .unset] [(.int (3 : Int32)), (.int p4)])) _
    refine XS.iand X0.here hx rfl (hb hby at_3) rfl ?_
    refine XS.istore X0.here hx rfl (hb hby at_4) rfl (l' := #[.val (.int p1), .val (.long q2), .second, .val (.int p3), .val (.int p4), .val (.int (p4 &&& (3 : Int32))), .unset, .unset, .unset, .unset, .unset, .unset, .unset, .unset, .unset, .unset, .unset, .unset, .unset, .unset, .unset, .unset, .unset, .unset, .unset, .unset, .unset, .unset]) rfl ?_
    show Steps p.tables e below (s₁.setTop (mkF m 6 #[.val (.int p1), .val (.long q2), .second, .val (.int p3), .val (.int p4), .val (.int (p4 &&& (3 : Int32))), .unset, .unset, .unset, .unset, .unset, .unset, .unset, .unset, .unset, .unset, .unset, .unset, .unset, .unset, .unset, .unset, .unset, .unset, .unset, .unset, .unset, .unset] [])) _
    refine XS.iload X0.here hx rfl (hb hby at_6) rfl ?_
    show Steps p.tables e below (s₁.setTop (mkF m 8 #[.val (.int p1), .val (.long q2), .second, .val (.int p3), .val (.int p4), .val (.int (p4 &&& (3 : Int32))), .unset, .unset, .unset, .unset, .unset, .unset, .unset, .unset, .unset, .unset, .unset, .unset, .unset, .unset, .unset, .unset, .unset, .unset, .unset, .unset, .unset, .unset] [(.int (p4 &&& (3 : Int32)))])) _
    refine st5 _ ?_
    show Steps p.tables e below (T5.setTop (mkF m 11 #[.val (.int p1), .val (.long q2), .second, .val (.int p3), .val (.int p4), .val (.int (p4 &&& (3 : Int32))), .unset, .unset, .unset, .unset, .unset, .unset, .unset, .unset, .unset, .unset, .unset, .unset, .unset, .unset, .unset, .unset, .unset, .unset, .unset, .unset, .unset, .unset] [(.double (own_sc p4))])) _
    refine XS.dstore X5.here hx rfl (hb hby at_11) rfl (l' := #[.val (.int p1), .val (.long q2), .second, .val (.int p3), .val (.int p4), .val (.int (p4 &&& (3 : Int32))), .val (.double (own_sc p4)), .second, .unset, .unset, .unset, .unset, .unset, .unset, .unset, .unset, .unset, .unset, .unset, .unset, .unset, .unset, .unset, .unset, .unset, .unset, .unset, .unset]) rfl ?_
    refine XS.iloadN X5.here hx rfl (hb hby at_13) rfl ?_
    show Steps p.tables e below (T5.setTop (mkF m 14 #[.val (.int p1), .val (.long q2), .second, .val (.int p3), .val (.int p4), .val (.int (p4 &&& (3 : Int32))), .val (.double (own_sc p4)), .second, .unset, .unset, .unset, .unset, .unset, .unset, .unset, .unset, .unset, .unset, .unset, .unset, .unset, .unset, .unset, .unset, .unset, .unset, .unset, .unset] [(.int p1)])) _
    refine XS.iconst X5.here hx rfl (hb hby at_14) ?_
    refine XS.iand X5.here hx rfl (hb hby at_15) rfl ?_
    show Steps p.tables e below (T5.setTop (mkF m 16 #[.val (.int p1), .val (.long q2), .second, .val (.int p3), .val (.int p4), .val (.int (p4 &&& (3 : Int32))), .val (.double (own_sc p4)), .second, .unset, .unset, .unset, .unset, .unset, .unset, .unset, .unset, .unset, .unset, .unset, .unset, .unset, .unset, .unset, .unset, .unset, .unset, .unset, .unset] [(.int (p1 &&& (3 : Int32)))])) _
    refine XS.istore X5.here hx rfl (hb hby at_16) rfl (l' := #[.val (.int p1), .val (.long q2), .second, .val (.int p3), .val (.int p4), .val (.int (p4 &&& (3 : Int32))), .val (.double (own_sc p4)), .second, .val (.int (p1 &&& (3 : Int32))), .unset, .unset, .unset, .unset, .unset, .unset, .unset, .unset, .unset, .unset, .unset, .unset, .unset, .unset, .unset, .unset, .unset, .unset, .unset]) rfl ?_
    show Steps p.tables e below (T5.setTop (mkF m 18 #[.val (.int p1), .val (.long q2), .second, .val (.int p3), .val (.int p4), .val (.int (p4 &&& (3 : Int32))), .val (.double (own_sc p4)), .second, .val (.int (p1 &&& (3 : Int32))), .unset, .unset, .unset, .unset, .unset, .unset, .unset, .unset, .unset, .unset, .unset, .unset, .unset, .unset, .unset, .unset, .unset, .unset, .unset] [])) _
    refine X5.ldc2Long hx hown (mvT hZ (hw _ (List.mem_of_getElem? (i := 4) rfl))) (g := (mkF m 18 #[.val (.int p1), .val (.long q2), .second, .val (.int p3), .val (.int p4), .val (.int (p4 &&& (3 : Int32))), .val (.double (own_sc p4)), .second, .val (.int (p1 &&& (3 : Int32))), .unset, .unset, .unset, .unset, .unset, .unset, .unset, .unset, .unset, .unset, .unset, .unset, .unset, .unset, .unset, .unset, .unset, .unset, .unset] [])) rfl (hb hby at_18) _ ?_
    show Steps p.tables e below (T5.setTop (mkF m 21 #[.val (.int p1), .val (.long q2), .second, .val (.int p3), .val (.int p4), .val (.int (p4 &&& (3 : Int32))), .val (.double (own_sc p4)), .second, .val (.int (p1 &&& (3 : Int32))), .unset, .unset, .unset, .unset, .unset, .unset, .unset, .unset, .unset, .unset, .unset, .unset, .unset, .unset, .unset, .unset, .unset, .unset, .unset] [(.long (4503599627370496 : Int64))])) _
    refine XS.lloadN X5.here hx rfl (hb hby at_21) rfl ?_
    show Steps p.tables e below (T5.setTop (mkF m 22 #[.val (.int p1), .val (.long q2), .second, .val (.int p3), .val (.int p4), .val (.int (p4 &&& (3 : Int32))), .val (.double (own_sc p4)), .second, .val (.int (p1 &&& (3 : Int32))), .unset, .unset, .unset, .unset, .unset, .unset, .unset, .unset, .unset, .unset, .unset, .unset, .unset, .unset, .unset, .unset, .unset, .unset, .unset] [(.long q2), (.long (4503599627370496 : Int64))])) _
    refine X5.ldc2Long hx hown (mvT hZ (hw _ (List.mem_of_getElem? (i := 5) rfl))) (g := (mkF m 22 #[.val (.int p1), .val (.long q2), .second, .val (.int p3), .val (.int p4), .val (.int (p4 &&& (3 : Int32))), .val (.double (own_sc p4)), .second, .val (.int (p1 &&& (3 : Int32))), .unset, .unset, .unset, .unset, .unset, .unset, .unset, .unset, .unset, .unset, .unset, .unset, .unset, .unset, .unset, .unset, .unset, .unset, .unset] [(.long q2), (.long (4503599627370496 : Int64))])) rfl (hb hby at_22) _ ?_
    show Steps p.tables e below (T5.setTop (mkF m 25 #[.val (.int p1), .val (.long q2), .second, .val (.int p3), .val (.int p4), .val (.int (p4 &&& (3 : Int32))), .val (.double (own_sc p4)), .second, .val (.int (p1 &&& (3 : Int32))), .unset, .unset, .unset, .unset, .unset, .unset, .unset, .unset, .unset, .unset, .unset, .unset, .unset, .unset, .unset, .unset, .unset, .unset, .unset] [(.long (2251799813685247 : Int64)), (.long q2), (.long (4503599627370496 : Int64))])) _
    refine XS.land X5.here hx rfl (hb hby at_25) rfl ?_
    refine XS.lor X5.here hx rfl (hb hby at_26) rfl ?_
    show Steps p.tables e below (T5.setTop (mkF m 27 #[.val (.int p1), .val (.long q2), .second, .val (.int p3), .val (.int p4), .val (.int (p4 &&& (3 : Int32))), .val (.double (own_sc p4)), .second, .val (.int (p1 &&& (3 : Int32))), .unset, .unset, .unset, .unset, .unset, .unset, .unset, .unset, .unset, .unset, .unset, .unset, .unset, .unset, .unset, .unset, .unset, .unset, .unset] [(.long (own_H q2))])) _
    refine XS.lstore X5.here hx rfl (hb hby at_27) rfl (l' := #[.val (.int p1), .val (.long q2), .second, .val (.int p3), .val (.int p4), .val (.int (p4 &&& (3 : Int32))), .val (.double (own_sc p4)), .second, .val (.int (p1 &&& (3 : Int32))), .val (.long (own_H q2)), .second, .unset, .unset, .unset, .unset, .unset, .unset, .unset, .unset, .unset, .unset, .unset, .unset, .unset, .unset, .unset, .unset, .unset]) rfl ?_
    refine XS.iload X5.here hx rfl (hb hby at_29) rfl ?_
    show Steps p.tables e below (T5.setTop (mkF m 31 #[.val (.int p1), .val (.long q2), .second, .val (.int p3), .val (.int p4), .val (.int (p4 &&& (3 : Int32))), .val (.double (own_sc p4)), .second, .val (.int (p1 &&& (3 : Int32))), .val (.long (own_H q2)), .second, .unset, .unset, .unset, .unset, .unset, .unset, .unset, .unset, .unset, .unset, .unset, .unset, .unset, .unset, .unset, .unset, .unset] [(.int (p1 &&& (3 : Int32)))])) _
    refine XS.ifYes X5.here hx rfl (pc0 := 31) (pc' := 173) rfl (hb hby at_31) rfl ((if0 _ _).trans (feq hc31).2) (by decide) (by decide) ?_
    refine XS.iload X5.here hx rfl (hb hby at_173) rfl ?_
    show Steps p.tables e below (T5.setTop (mkF m 175 #[.val (.int p1), .val (.long q2), .second, .val (.int p3), .val (.int p4), .val (.int (p4 &&& (3 : Int32))), .val (.double (own_sc p4)), .second, .val (.int (p1 &&& (3 : Int32))), .val (.long (own_H q2)), .second, .unset, .unset, .unset, .unset, .unset, .unset, .unset, .unset, .unset, .unset, .unset, .unset, .unset, .unset, .unset, .unset, .unset] [(.int (p1 &&& (3 : Int32)))])) _
    refine XS.iconst X5.here hx rfl (hb hby at_175) ?_
    refine XS.icmpYes X5.here hx rfl (pc0 := 176) (pc' := 264) rfl (hb hby at_176) rfl (feq hc176).2 (by decide) (by decide) ?_
    show Steps p.tables e below (T5.setTop (mkF m 264 #[.val (.int p1), .val (.long q2), .second, .val (.int p3), .val (.int p4), .val (.int (p4 &&& (3 : Int32))), .val (.double (own_sc p4)), .second, .val (.int (p1 &&& (3 : Int32))), .val (.long (own_H q2)), .second, .unset, .unset, .unset, .unset, .unset, .unset, .unset, .unset, .unset, .unset, .unset, .unset, .unset, .unset, .unset, .unset, .unset] [])) _
    refine XS.iloadN X5.here hx rfl (hb hby at_264) rfl ?_
    refine XS.i2dS X5.here hx rfl (hb hby at_265) rfl rfl ?_
    show Steps p.tables e below (T5.setTop (mkF m 266 #[.val (.int p1), .val (.long q2), .second, .val (.int p3), .val (.int p4), .val (.int (p4 &&& (3 : Int32))), .val (.double (own_sc p4)), .second, .val (.int (p1 &&& (3 : Int32))), .val (.long (own_H q2)), .second, .unset, .unset, .unset, .unset, .unset, .unset, .unset, .unset, .unset, .unset, .unset, .unset, .unset, .unset, .unset, .unset, .unset] [(.double (FP.i2d p3))])) _
    refine X5.ldc2DoubleC hx hown (mvT hZ (hw _ (List.mem_of_getElem? (i := 15) rfl))) (g := (mkF m 266 #[.val (.int p1), .val (.long q2), .second, .val (.int p3), .val (.int p4), .val (.int (p4 &&& (3 : Int32))), .val (.double (own_sc p4)), .second, .val (.int (p1 &&& (3 : Int32))), .val (.long (own_H q2)), .second, .unset, .unset, .unset, .unset, .unset, .unset, .unset, .unset, .unset, .unset, .unset, .unset, .unset, .unset, .unset, .unset, .unset] [(.double (FP.i2d p3))])) rfl (hb hby at_266) _ ?_
    show Steps p.tables e below (T5.setTop (mkF m 269 #[.val (.int p1), .val (.long q2), .second, .val (.int p3), .val (.int p4), .val (.int (p4 &&& (3 : Int32))), .val (.double (own_sc p4)), .second, .val (.int (p1 &&& (3 : Int32))), .val (.long (own_H q2)), .second, .unset, .unset, .unset, .unset, .unset, .unset, .unset, .unset, .unset, .unset, .unset, .unset, .unset, .unset, .unset, .unset, .unset] [(.double (8975674057349398528 : UInt64)), (.double (FP.i2d p3))])) _
    refine XS.dmulS X5.here hx rfl (hb hby at_269) rfl hnn269 rfl ?_
    refine XS.dstore X5.here hx rfl (hb hby at_270) rfl (l' := #[.val (.int p1), .val (.long q2), .second, .val (.int p3), .val (.int p4), .val (.int (p4 &&& (3 : Int32))), .val (.double (own_sc p4)), .second, .val (.int (p1 &&& (3 : Int32))), .val (.long (own_H q2)), .second, .val (.double (FP.dmul (FP.i2d p3) (8975674057349398528 : UInt64))), .second, .unset, .unset, .unset, .unset, .unset, .unset, .unset, .unset, .unset, .unset, .unset, .unset, .unset, .unset, .unset]) rfl ?_
    show Steps p.tables e below (T5.setTop (mkF m 272 #[.val (.int p1), .val (.long q2), .second, .val (.int p3), .val (.int p4), .val (.int (p4 &&& (3 : Int32))), .val (.double (own_sc p4)), .second, .val (.int (p1 &&& (3 : Int32))), .val (.long (own_H q2)), .second, .val (.double (FP.dmul (FP.i2d p3) (8975674057349398528 : UInt64))), .second, .unset, .unset, .unset, .unset, .unset, .unset, .unset, .unset, .unset, .unset, .unset, .unset, .unset, .unset, .unset] [])) _
    refine XS.iload X5.here hx rfl (hb hby at_272) rfl ?_
    refine XS.iconst X5.here hx rfl (hb hby at_274) ?_
    show Steps p.tables e below (T5.setTop (mkF m 275 #[.val (.int p1), .val (.long q2), .second, .val (.int p3), .val (.int p4), .val (.int (p4 &&& (3 : Int32))), .val (.double (own_sc p4)), .second, .val (.int (p1 &&& (3 : Int32))), .val (.long (own_H q2)), .second, .val (.double (FP.dmul (FP.i2d p3) (8975674057349398528 : UInt64))), .second, .unset, .unset, .unset, .unset, .unset, .unset, .unset, .unset, .unset, .unset, .unset, .unset, .unset, .unset, .unset] [(.int (2 : Int32)), (.int (p1 &&& (3 : Int32)))])) _
    refine XS.icmpYes X5.here hx rfl (pc0 := 275) (pc' := 307) rfl (hb hby at_275) rfl (feq hc275).2 (by decide) (by decide) ?_
    refine XS.lload X5.here hx rfl (hb hby at_307) rfl ?_
    show Steps p.tables e below (T5.setTop (mkF m 309 #[.val (.int p1), .val (.long q2), .second, .val (.int p3), .val (.int p4), .val (.int (p4 &&& (3 : Int32))), .val (.double (own_sc p4)), .second, .val (.int (p1 &&& (3 : Int32))), .val (.long (own_H q2)), .second, .val (.double (FP.dmul (FP.i2d p3) (8975674057349398528 : UInt64))), .second, .unset, .unset, .unset, .unset, .unset, .unset, .unset, .unset, .unset, .unset, .unset, .unset, .unset, .unset, .unset] [(.long (own_H q2))])) _
    refine XS.l2dS X5.here hx rfl (hb hby at_309) rfl rfl ?_
    refine XS.dload X5.here hx rfl (hb hby at_310) rfl ?_
    show Steps p.tables e below (T5.setTop (mkF m 312 #[.val (.int p1), .val (.long q2), .second, .val (.int p3), .val (.int p4), .val (.int (p4 &&& (3 : Int32))), .val (.double (own_sc p4)), .second, .val (.int (p1 &&& (3 : Int32))), .val (.long (own_H q2)), .second, .val (.double (FP.dmul (FP.i2d p3) (8975674057349398528 : UInt64))), .second, .unset, .unset, .unset, .unset, .unset, .unset, .unset, .unset, .unset, .unset, .unset, .unset, .unset, .unset, .unset] [(.double (own_sc p4)), (.double (FP.l2d (own_H q2)))])) _
    refine XS.dmulS X5.here hx rfl (hb hby at_312) rfl hnn312 rfl ?_
    refine XS.dnegS X5.here hx rfl (hb hby at_313) rfl rfl ?_
    show Steps p.tables e below (T5.setTop (mkF m 314 #[.val (.int p1), .val (.long q2), .second, .val (.int p3), .val (.int p4), .val (.int (p4 &&& (3 : Int32))), .val (.double (own_sc p4)), .second, .val (.int (p1 &&& (3 : Int32))), .val (.long (own_H q2)), .second, .val (.double (FP.dmul (FP.i2d p3) (8975674057349398528 : UInt64))), .second, .unset, .unset, .unset, .unset, .unset, .unset, .unset, .unset, .unset, .unset, .unset, .unset, .unset, .unset, .unset] [(.double (FP.dneg (FP.dmul (FP.l2d (own_H q2)) (own_sc p4))))])) _
    refine XS.dstore X5.here hx rfl (hb hby at_314) rfl (l' := #[.val (.int p1), .val (.long q2), .second, .val (.int p3), .val (.int p4), .val (.int (p4 &&& (3 : Int32))), .val (.double (own_sc p4)), .second, .val (.int (p1 &&& (3 : Int32))), .val (.long (own_H q2)), .second, .val (.double (FP.dmul (FP.i2d p3) (8975674057349398528 : UInt64))), .second, .val (.double (FP.dneg (FP.dmul (FP.l2d (own_H q2)) (own_sc p4)))), .second, .unset, .unset, .unset, .unset, .unset, .unset, .unset, .unset, .unset, .unset, .unset, .unset, .unset]) rfl ?_
    refine XS.dload X5.here hx rfl (hb hby at_316) rfl ?_
    show Steps p.tables e below (T5.setTop (mkF m 318 #[.val (.int p1), .val (.long q2), .second, .val (.int p3), .val (.int p4), .val (.int (p4 &&& (3 : Int32))), .val (.double (own_sc p4)), .second, .val (.int (p1 &&& (3 : Int32))), .val (.long (own_H q2)), .second, .val (.double (FP.dmul (FP.i2d p3) (8975674057349398528 : UInt64))), .second, .val (.double (FP.dneg (FP.dmul (FP.l2d (own_H q2)) (own_sc p4)))), .second, .unset, .unset, .unset, .unset, .unset, .unset, .unset, .unset, .unset, .unset, .unset, .unset, .unset] [(.double (FP.dmul (FP.i2d p3) (8975674057349398528 : UInt64)))])) _
    refine XS.dload X5.here hx rfl (hb hby at_318) rfl ?_
    show Steps p.tables e below (T5.setTop (mkF m 320 #[.val (.int p1), .val (.long q2), .second, .val (.int p3), .val (.int p4), .val (.int (p4 &&& (3 : Int32))), .val (.double (own_sc p4)), .second, .val (.int (p1 &&& (3 : Int32))), .val (.long (own_H q2)), .second, .val (.double (FP.dmul (FP.i2d p3) (8975674057349398528 : UInt64))), .second, .val (.double (FP.dneg (FP.dmul (FP.l2d (own_H q2)) (own_sc p4)))), .second, .unset, .unset, .unset, .unset, .unset, .unset, .unset, .unset, .unset, .unset, .unset, .unset, .unset] [(.double (FP.dneg (FP.dmul (FP.l2d (own_H q2)) (own_sc p4)))), (.double (FP.dmul (FP.i2d p3) (8975674057349398528 : UInt64)))])) _
    refine st6 _ ?_
    show Steps p.tables e below (T6.setTop (mkF m 323 #[.val (.int p1), .val (.long q2), .second, .val (.int p3), .val (.int p4), .val (.int (p4 &&& (3 : Int32))), .val (.double (own_sc p4)), .second, .val (.int (p1 &&& (3 : Int32))), .val (.long (own_H q2)), .second, .val (.double (FP.dmul (FP.i2d p3) (8975674057349398528 : UInt64))), .second, .val (.double (FP.dneg (FP.dmul (FP.l2d (own_H q2)) (own_sc p4)))), .second, .unset, .unset, .unset, .unset, .unset, .unset, .unset, .unset, .unset, .unset, .unset, .unset, .unset] [(.int (own_ich (FP.dmul (FP.i2d p3) (8975674057349398528 : UInt64)) (FP.dneg (FP.dmul (FP.l2d (own_H q2)) (own_sc p4)))))])) _
    refine XS.ifNo X6.here hx rfl (hb hby at_323) rfl ((if0 _ _).trans (teq (own_k3 q2 (p4 &&& (3 : Int32)) : (own_ich (FP.dmul (FP.i2d p3) (8975674057349398528 : UInt64)) (FP.dneg (FP.dmul (FP.l2d (own_H q2)) (own_sc p4)))) = (0 : Int32))).2) ?_
    refine XS.iconst X6.here hx rfl (hb hby at_326) ?_
    show Steps p.tables e below (T6.setTop (mkF m 327 #[.val (.int p1), .val (.long q2), .second, .val (.int p3), .val (.int p4), .val (.int (p4 &&& (3 : Int32))), .val (.double (own_sc p4)), .second, .val (.int (p1 &&& (3 : Int32))), .val (.long (own_H q2)), .second, .val (.double (FP.dmul (FP.i2d p3) (8975674057349398528 : UInt64))), .second, .val (.double (FP.dneg (FP.dmul (FP.l2d (own_H q2)) (own_sc p4)))), .second, .unset, .unset, .unset, .unset, .unset, .unset, .unset, .unset, .unset, .unset, .unset, .unset, .unset] [(.int (1 : Int32))])) _
    refine XS.goto X6.here hx rfl (pc0 := 327) (pc' := 331) rfl (hb hby at_327) (by decide) (by decide) ?_
    show Steps p.tables e below (T6.setTop (mkF m 331 #[.val (.int p1), .val (.long q2), .second, .val (.int p3), .val (.int p4), .val (.int (p4 &&& (3 : Int32))), .val (.double (own_sc p4)), .second, .val (.int (p1 &&& (3 : Int32))), .val (.long (own_H q2)), .second, .val (.double (FP.dmul (FP.i2d p3) (8975674057349398528 : UInt64))), .second, .val (.double (FP.dneg (FP.dmul (FP.l2d (own_H q2)) (own_sc p4)))), .second, .unset, .unset, .unset, .unset, .unset, .unset, .unset, .unset, .unset, .unset, .unset, .unset, .unset] [(.int (1 : Int32))])) _
    exact retN X6 hx (t := .boolean) Bd.returns (by simp) (hb hby at_331) hr
  · show Q0 Z p1 q2 p3 p4 h0 n0 _ T6.heap _
    exact ⟨rfl, N6⟩
theorem rm0 (l : Launch) (Z : State) (a0 : Array Value) (hw : ∀ d ∈ tables_1, d.before a0 Z = true) (ws : List Jvm.Cond) (p1 : Int32) (q2 : Int64) (p3 : Int32) (p4 : Int32) (h0 : Heap) (n0 : Nat) (Z0 : n0 ≤ h0.size) :
    MetFree l x (head1 (Jvm.Cond.code x code maxLocals ret :: ws) room_1) (fun a U => a = #[(.int p1), (.long q2), (.int p3), (.int p4)] ∧ Z.Warmed39 U.vm ∧ U.heap = h0) (fun _ _ _ _ _ => True) (fun _ U o U' => ∃ v L, o = .returned v ∧ Q0 Z p1 q2 p3 p4 h0 n0 v U'.heap L ∧ FrameEnd U o U' L room_1.cells room_1.slots) := by
  by_cases hc31 : (p1 &&& (3 : Int32)) = (0 : Int32)
  · by_cases hc66 : (0 : Int32) < (lcmpW (own_r q2) (140737488355328 : Int64))
    · by_cases hc145 : (0 : Int32) < (lcmpW (own_m q2 p3) ((own_hq1 q2) + (1 : Int64)))
      · exact rm0_a1t l Z a0 hw ws p1 q2 p3 p4 h0 n0 Z0 hc31 hc66 hc145
      · exact rm0_a1f l Z a0 hw ws p1 q2 p3 p4 h0 n0 Z0 hc31 hc66 hc145
    · by_cases hc80 : (lcmpW (own_r q2) (140737488355328 : Int64)) < (0 : Int32)
      · by_cases hc145 : (0 : Int32) < (lcmpW (own_m q2 p3) ((own_hq1 q2) + (0 : Int64)))
        · exact rm0_a2t l Z a0 hw ws p1 q2 p3 p4 h0 n0 Z0 hc31 hc66 hc80 hc145
        · exact rm0_a2f l Z a0 hw ws p1 q2 p3 p4 h0 n0 Z0 hc31 hc66 hc80 hc145
      · by_cases hc98 : (lcmpW ((own_hq1 q2) &&& (1 : Int64)) (0 : Int64)) = (0 : Int32)
        · by_cases hc145 : (0 : Int32) < (lcmpW (own_m q2 p3) ((own_hq1 q2) + (0 : Int64)))
          · exact rm0_a3t l Z a0 hw ws p1 q2 p3 p4 h0 n0 Z0 hc31 hc66 hc80 hc98 hc145
          · exact rm0_a3f l Z a0 hw ws p1 q2 p3 p4 h0 n0 Z0 hc31 hc66 hc80 hc98 hc145
        · by_cases hc145 : (0 : Int32) < (lcmpW (own_m q2 p3) ((own_hq1 q2) + (1 : Int64)))
          · exact rm0_a4t l Z a0 hw ws p1 q2 p3 p4 h0 n0 Z0 hc31 hc66 hc80 hc98 hc145
          · exact rm0_a4f l Z a0 hw ws p1 q2 p3 p4 h0 n0 Z0 hc31 hc66 hc80 hc98 hc145
  · by_cases hc176 : (p1 &&& (3 : Int32)) = (1 : Int32)
    · by_cases hc182 : (p1 &&& (4 : Int32)) = (0 : Int32)
      · by_cases hc212 : (p4 &&& (3 : Int32)) = (1 : Int32)
        · by_cases hc221 : (lcmpW (own_k q2) (4503599627370496 : Int64)) < (0 : Int32)
          · exact rm0_bpa l Z a0 hw ws p1 q2 p3 p4 h0 n0 Z0 hc31 hc176 hc182 hc212 hc221
          · exact rm0_bpb l Z a0 hw ws p1 q2 p3 p4 h0 n0 Z0 hc31 hc176 hc182 hc212 hc221
        · by_cases hc236 : (lcmpW (own_k q2) (1 : Int64)) < (0 : Int32)
          · exact rm0_bpc l Z a0 hw ws p1 q2 p3 p4 h0 n0 Z0 hc31 hc176 hc182 hc212 hc236
          · exact rm0_bpd l Z a0 hw ws p1 q2 p3 p4 h0 n0 Z0 hc31 hc176 hc182 hc212 hc236
      · by_cases hc212 : (p4 &&& (3 : Int32)) = (1 : Int32)
        · by_cases hc221 : (lcmpW (own_k q2) (4503599627370496 : Int64)) < (0 : Int32)
          · exact rm0_bna l Z a0 hw ws p1 q2 p3 p4 h0 n0 Z0 hc31 hc176 hc182 hc212 hc221
          · exact rm0_bnb l Z a0 hw ws p1 q2 p3 p4 h0 n0 Z0 hc31 hc176 hc182 hc212 hc221
        · by_cases hc236 : (lcmpW (own_k q2) (1 : Int64)) < (0 : Int32)
          · exact rm0_bnc l Z a0 hw ws p1 q2 p3 p4 h0 n0 Z0 hc31 hc176 hc182 hc212 hc236
          · exact rm0_bnd l Z a0 hw ws p1 q2 p3 p4 h0 n0 Z0 hc31 hc176 hc182 hc212 hc236
    · by_cases hc275 : (p1 &&& (3 : Int32)) = (2 : Int32)
      · by_cases hc289 : (lcmpW (own_m2 q2) (0 : Int64)) = (0 : Int32)
        · exact rm0_c0 l Z a0 hw ws p1 q2 p3 p4 h0 n0 Z0 hc31 hc176 hc275 hc289
        · exact rm0_c1 l Z a0 hw ws p1 q2 p3 p4 h0 n0 Z0 hc31 hc176 hc275 hc289
      · exact rm0_d l Z a0 hw ws p1 q2 p3 p4 h0 n0 Z0 hc31 hc176 hc275
-- 5. FROM THE CASE'S WORDS TO rm0, AND THE OWED THEOREMS
set_option maxRecDepth 65536 in
set_option maxHeartbeats 40000000 in
theorem comes_1 {Post : Tables → Env → Array Value → State → Outcome → State → Prop} (hpost : ∀ tb e args s v u, (limb_1_1.after args s (.returned v) u = true ∧ limb_1_2.after args s (.returned v) u = true ∧ True) → FrameEnd s (.returned v) u (Jvm.fieldLocs frame_1_writes args s ++ Jvm.arrayLocs frame_1_arrays args s ++ Jvm.staticLocs frame_1_statics s) 0 0 → Post tb e args s (.returned v) u) :
    ArmFor flags0 classFile x code maxLocals ret World_1 tables_1 room_1 Calls_1 rest_1 Pre_1 Post := by
  intro l hfl _ _ p e ha hc hk s m args below hf hA hF happ hP
  obtain ⟨hcalls, hrest, hpre⟩ := hP
  obtain ⟨-, -, -, hnamed, -, -, -, hat⟩ := (Spec.applies_iff hf).mp happ
  obtain ⟨hg, hn⟩ := and_e (Cond.before_iff.mp (show (Jvm.Cond.and given_1 narrow_1).before args s = true from hpre))
  obtain ⟨g7, g8⟩ := and_e hg
  obtain ⟨g9, g10⟩ := and_e g8
  obtain ⟨g11, g12⟩ := and_e g10
  obtain ⟨g13, g14⟩ := and_e g12
  obtain ⟨w0, w1, w2, w3, rfl⟩ : ∃ w0 w1 w2 w3 : Value, args = #[w0, w1, w2, w3] := by
    have hs : args.size = 4 := by simpa [Cond.value, given_1] using g7
    obtain ⟨L⟩ := args
    match L, hs with
    | [w0, w1, w2, w3], _ => exact ⟨w0, w1, w2, w3, rfl⟩
  have hw := fun d (hd : d ∈ tables_1) => atoms_spec (ws := Jvm.Cond.code x code maxLocals ret :: tables_1) hat d (List.mem_cons_of_mem _ hd)
  have hfit : Fit s := fun {y c} hc i hi => by
    obtain ⟨ha, rfl⟩ := Array.getElem?_eq_some_iff.mp hc
    have q := List.all_eq_true.mp ((Array.all_eq_true_iff_forall_mem.mp hF) _ (Array.getElem_mem ha)) i (List.mem_range.mpr hi)
    simpa [Array.getElem?_eq_getElem hi] using q
  obtain ⟨i0, ei0⟩ := is_v g9
  obtain rfl : w0 = (.int i0) := Option.some.inj ei0
  obtain ⟨i1, ei1⟩ := isL_v g11
  obtain rfl : w1 = (.long i1) := Option.some.inj ei1
  obtain ⟨i2, ei2⟩ := is_v g13
  obtain rfl : w2 = (.int i2) := Option.some.inj ei2
  obtain ⟨i3, ei3⟩ := is_v g14
  obtain rfl : w3 = (.int i3) := Option.some.inj ei3
  obtain ⟨n, o, h1, h2, h3, _, L, rfl, ⟨rfl, N⟩, hq⟩ := rm0 l s _ hw tables_1 i0 i1 i2 i3 s.heap s.heap.size (Nat.le_refl _)  p e ha hc hk s m _ below hf ((Spec.applies_iff_loose hf).mp happ).1 ⟨rfl, State.Warmed39.refl s, rfl⟩ trivial
  refine ⟨n, _, h1, h2, h3, hpost _ _ _ _ _ _ ⟨Cond.after_iff.mpr rfl, Cond.after_iff.mpr (eq_i res_at (Term.int_eval (1)) rfl), trivial⟩ ⟨hq.1, hq.2.1, (hq.2.2.sift fun y hy => Or.inr (N y hy)).mono (by decide) (by decide)⟩⟩
theorem main_1_1 : Claimed_1_1 := comes_1 fun _ _ _ _ _ _ h hF => ⟨h.1, hF⟩
theorem main_1_2 : Claimed_1_2 := comes_1 fun _ _ _ _ _ _ h hF => ⟨h.2.1, hF⟩
-- 6. THE WITNESS: 'witness <made dir> --arg ..' lays it behind; then: end Jvm.Pilot.@@N@@
end Jvm.Pilot.@@N@@
namespace Jvm.Pilot.@@N@@
open Jvm Jvm.ClassFile Sem Op Lib Jvm.Free Jvm.Stand Jvm.Pilot.@@N@@.Jvm.D
/-! MADE BY PROGRAM (witnessworld.py) out of the Statement's table words and the real class files: 9 classes; the members and pool entries that the words name. The judged class is class 1, her method 1. -/
namespace start1
open Jvm.ClassFile
def u (s : String) : CpInfo := .utf8 (stringToUtf16 s)
/-- a pool by its gaps: so many unusable entries, then the entry; so many at the end -/
def gap : Nat → List CpInfo → List CpInfo
  | 0, r => r
  | n + 1, r => .unusable :: gap n r
def poolList (es : List (Nat × CpInfo)) (last : Nat) : List CpInfo := es.foldr (fun e r => gap e.1 (e.2 :: r)) (gap last [])
def pool (es : List (Nat × CpInfo)) (last : Nat) : Array CpInfo := ⟨poolList es last⟩
def fileOf (pool : Array CpInfo) (this : Nat) (attrs : Array Attribute := #[]) (ms : Array MethodInfo := #[]) (fl : Nat := 33) (sup : Nat := 0) (ifs : Array Nat := #[]) (fds : Array FieldInfo := #[]) : ClassFile where
  minorVersion := 0
  majorVersion := 65
  constantPool := pool
  accessFlags := fl
  thisClass := this
  superClass := sup
  interfaces := ifs
  fields := fds
  methods := ms
  attributes := attrs
def plain (name : String) (sup : Option ClassId) : Class where
  name := name
  kind := .ordinary
  loader := none
  accessFlags := 33
  super := sup
  interfaces := #[]
  cf := none
  fields := #[]
  methods := #[]
  instanceTypes := #[]
  staticTypes := #[]
  resolved := #[]
  callSites := []
  init := .initialized
  statics := none
  mirror := none

def pool0 : Array CpInfo := pool [(5, u "<init>"), (0, u "()V"), (1, .class_ 10), (1, u "java/lang/Object")] 113

def k0m0 : Method := { name := "<init>", desc := "()V", sig := { parameters := [], returnType := none }, accessFlags := 1, code := none }
/-- java/lang/Object -/
def k0 : Class := { plain "java/lang/Object" none with
  accessFlags := 33
  interfaces := #[]
  cf := some (fileOf pool0 8 #[] #[{ accessFlags := 1, nameIndex := 5, descriptorIndex := 6, attributes := #[] }] 33 0 #[] #[])
  fields := #[]
  methods := #[k0m0]
  instanceTypes := #[]
  staticTypes := #[]
  resolved := Array.replicate 124 none
  statics := none }

def pool1 : Array CpInfo := pool [(2, .class_ 4), (1, u "java/lang/Object"), (0, u "<init>"), (0, u "()V"), (0, .methodref 8 9), (0, .class_ 10), (0, .nameAndType 11 12), (0, u "com/example/level_ring/levelring/placement/MembersIsCertainlyHigherPinLaw"), (0, u "scaleOf"), (0, u "(I)D"), (0, .long 4503599627370496), (1, .long 2251799813685247), (1, .long 281474976710655), (1, .long 140737488355328), (1, .methodref 22 23), (0, .class_ 24), (0, .nameAndType 25 26), (0, u "com/example/level_ring/levelring/placement/Members"), (0, u "isCertainlyHigher"), (0, u "(DD)Z"), (0, .double 9223372036854775808), (1, .long 9007199254740992), (1, .double 8975674057349398528), (1, .double 1), (1, .double 2188749418902061056), (3, u "law"), (0, u "(IJII)Z")] 3

def k1m0 : Method := { name := "<init>", desc := "()V", sig := { parameters := [], returnType := none }, accessFlags := 1, code := none }
def k1c1 : Code := { maxStack := 6, maxLocals := 28, code := code, exceptionTable := #[], attributes := #[] }
def k1m1 : Method := { name := "law", desc := "(IJII)Z", sig := { parameters := [.int, .long, .int, .int], returnType := some .boolean }, accessFlags := 9, code := some k1c1 }
def k1c2 : Code := { maxStack := 2, maxLocals := 1, code := method_3_code, exceptionTable := #[], attributes := #[] }
def k1m2 : Method := { name := "scaleOf", desc := "(I)D", sig := { parameters := [.int], returnType := some .double }, accessFlags := 10, code := some k1c2 }
/-- com/example/level_ring/levelring/placement/MembersIsCertainlyHigherPinLaw -/
def k1 : Class := { plain "com/example/level_ring/levelring/placement/MembersIsCertainlyHigherPinLaw" (some 0) with
  accessFlags := 49
  interfaces := #[]
  cf := some (fileOf pool1 8 #[] #[{ accessFlags := 1, nameIndex := 5, descriptorIndex := 6, attributes := #[] }, { accessFlags := 9, nameIndex := 39, descriptorIndex := 40, attributes := #[] }, { accessFlags := 10, nameIndex := 11, descriptorIndex := 12, attributes := #[] }] 49 2 #[] #[])
  fields := #[]
  methods := #[k1m0, k1m1, k1m2]
  instanceTypes := #[]
  staticTypes := #[]
  resolved := Array.replicate 44 none
  statics := none }

def pool2 : Array CpInfo := pool [(2, .class_ 4), (1, u "java/lang/Object"), (3, .class_ 10), (1, u "com/example/level_ring/levelring/placement/Members"), (8, .class_ 20), (0, u "com/example/level_ring/levelring/placement/Members$Named"), (64, u "nodes"), (0, u "[Lcom/example/level_ring/levelring/placement/Node;"), (3, u "names"), (0, u "[[B"), (2, u "namePositions"), (0, u "[J"), (2, u "weightValues"), (0, u "[D"), (2, u "inverseWeights"), (2, u "everyMember"), (0, u "[I"), (2, u "byName"), (22, u "largestWeightValue"), (0, u "D"), (139, u "isCertainlyHigher"), (0, u "(DD)Z"), (14, .double 4503599627370496), (1, .double 4607182418800017424), (47, u "CERTAIN_RELATIVE_GAP"), (1, u "CUBIC_BOUND_REACH"), (0, u "TOO_CLOSE_BITS"), (0, u "I"), (1, u "LOGARITHM_ROUNDING")] 73

def k2c0 : Code := { maxStack := 6, maxLocals := 4, code := prog_36_method_28_code, exceptionTable := #[], attributes := #[] }
def k2m0 : Method := { name := "isCertainlyHigher", desc := "(DD)Z", sig := { parameters := [.double, .double], returnType := some .boolean }, accessFlags := 8, code := some k2c0 }
/-- com/example/level_ring/levelring/placement/Members -/
def k2 : Class := { plain "com/example/level_ring/levelring/placement/Members" (some 0) with
  accessFlags := 48
  interfaces := #[]
  cf := some (fileOf pool2 8 #[.nestMembers #[19]] #[{ accessFlags := 8, nameIndex := 273, descriptorIndex := 274, attributes := #[] }] 48 2 #[] #[{ accessFlags := 24, nameIndex := 339, descriptorIndex := 133, attributes := #[] }, { accessFlags := 24, nameIndex := 341, descriptorIndex := 133, attributes := #[] }, { accessFlags := 24, nameIndex := 342, descriptorIndex := 343, attributes := #[] }, { accessFlags := 26, nameIndex := 345, descriptorIndex := 133, attributes := #[] }, { accessFlags := 18, nameIndex := 85, descriptorIndex := 86, attributes := #[] }, { accessFlags := 18, nameIndex := 90, descriptorIndex := 91, attributes := #[] }, { accessFlags := 18, nameIndex := 109, descriptorIndex := 106, attributes := #[] }, { accessFlags := 18, nameIndex := 94, descriptorIndex := 95, attributes := #[] }, { accessFlags := 18, nameIndex := 98, descriptorIndex := 99, attributes := #[] }, { accessFlags := 18, nameIndex := 132, descriptorIndex := 133, attributes := #[] }, { accessFlags := 18, nameIndex := 102, descriptorIndex := 99, attributes := #[] }, { accessFlags := 18, nameIndex := 105, descriptorIndex := 106, attributes := #[] }])
  fields := #[{ name := "CERTAIN_RELATIVE_GAP", type := .double, accessFlags := 24, slot := 0, constantValue := 0 }, { name := "CUBIC_BOUND_REACH", type := .double, accessFlags := 24, slot := 1, constantValue := 0 }, { name := "TOO_CLOSE_BITS", type := .int, accessFlags := 24, slot := 2, constantValue := 0 }, { name := "LOGARITHM_ROUNDING", type := .double, accessFlags := 26, slot := 3, constantValue := 0 }, { name := "nodes", type := (.array (.object "com/example/level_ring/levelring/placement/Node")), accessFlags := 18, slot := 0, constantValue := 0 }, { name := "names", type := (.array (.array .byte)), accessFlags := 18, slot := 1, constantValue := 0 }, { name := "byName", type := (.array .int), accessFlags := 18, slot := 2, constantValue := 0 }, { name := "namePositions", type := (.array .long), accessFlags := 18, slot := 3, constantValue := 0 }, { name := "weightValues", type := (.array .double), accessFlags := 18, slot := 4, constantValue := 0 }, { name := "largestWeightValue", type := .double, accessFlags := 18, slot := 5, constantValue := 0 }, { name := "inverseWeights", type := (.array .double), accessFlags := 18, slot := 6, constantValue := 0 }, { name := "everyMember", type := (.array .int), accessFlags := 18, slot := 7, constantValue := 0 }]
  methods := #[k2m0]
  instanceTypes := #[(.array (.object "com/example/level_ring/levelring/placement/Node")), (.array (.array .byte)), (.array .int), (.array .long), (.array .double), .double, (.array .double), (.array .int)]
  staticTypes := #[.double, .double, .int, .double]
  resolved := Array.replicate 419 none
  statics := none }

def pool3 : Array CpInfo := pool [(1, u "java/lang/Cloneable"), (0, .class_ 1), (0, u "java/lang/Object"), (0, .class_ 3)] 3

/-- java/lang/Cloneable -/
def k3 : Class := { plain "java/lang/Cloneable" (some 0) with
  accessFlags := 1537
  interfaces := #[]
  cf := some (fileOf pool3 2 #[] #[] 1537 4 #[] #[])
  fields := #[]
  methods := #[]
  instanceTypes := #[]
  staticTypes := #[]
  resolved := Array.replicate 8 none
  statics := none }

def pool4 : Array CpInfo := pool [(1, u "java/io/Serializable"), (0, .class_ 1), (0, u "java/lang/Object"), (0, .class_ 3)] 3

/-- java/io/Serializable -/
def k4 : Class := { plain "java/io/Serializable" (some 0) with
  accessFlags := 1537
  interfaces := #[]
  cf := some (fileOf pool4 2 #[] #[] 1537 4 #[] #[])
  fields := #[]
  methods := #[]
  instanceTypes := #[]
  staticTypes := #[]
  resolved := Array.replicate 8 none
  statics := none }

/-- the primitive byte -/
def k5 : Class := { plain "byte" none with kind := .primitive 'B', accessFlags := 0x411 }
/-- [B -/
def k6 : Class := { plain "[B" (some 0) with kind := .array 5 .byte, interfaces := #[3, 4], accessFlags := 1041 }

/-- the primitive int -/
def k7 : Class := { plain "int" none with kind := .primitive 'I', accessFlags := 0x411 }
/-- [I -/
def k8 : Class := { plain "[I" (some 0) with kind := .array 7 .int, interfaces := #[3, 4], accessFlags := 1041 }

def heap : Heap := #[]
def classes : Array Class := #[k0, k1, k2, k3, k4, k5, k6, k7, k8]
def interned : List (Array UInt16 × Addr) := []
def slotsUsed : Nat := 0
def theMethod : MethodId := ⟨1, 1⟩
def args0 : Array Value := #[.int 5, .long 7, .int 3, .int 2]
def aboutOver (below : List Frame) : State where
  vm := { classes := classes, interned := interned.toArray }
  heap := heap
  slotsUsed := slotsUsed
  threads := #[{ frames := .invoking theMethod args0 :: below }]
def below0 : List Frame := [.native { method := ⟨0, 0⟩, args := #[] }]
def about1 : State := aboutOver below0
def p0 : Program := .bare "" "" ""
def e0 : Env := launch0.env 0 0 0
theorem w_frames : about1.frames = Frame.invoking theMethod args0 :: below0 := rfl
set_option maxRecDepth 65536 in
theorem w_args : argsFit about1.vm theMethod args0 = true := by decide +kernel
set_option maxRecDepth 65536 in
theorem w_heap : heapFits about1 = true := by decide +kernel
set_option maxRecDepth 65536 in
theorem w_runnable : about1.curStatus? = some .runnable := by decide +kernel
set_option maxRecDepth 65536 in
theorem w_alone : about1.alone = true := by decide +kernel
set_option maxRecDepth 65536 in
theorem w_named : about1.methodNamed? x = some theMethod := by decide +kernel
set_option maxRecDepth 65536 in
theorem w_hears : about1.hears theMethod below0 = true := by decide +kernel
set_option maxRecDepth 65536 in
theorem w_ripe : about1.ripe theMethod args0 below0 = true := by decide +kernel
theorem w_running : about1.status = .running := rfl
set_option maxRecDepth 65536 in
theorem w_room : about1.hasRoom e0.platform room_1 = true :=
  launch0.hasRoom_least _ room_1 (by decide +kernel) (by decide +kernel) (by decide +kernel) (by decide +kernel) (by decide +kernel) (by decide +kernel)
theorem allAtoms_all (ts : List Jvm.Cond) (a : Array Jvm.Value) (st : Jvm.State) : (allAtoms ts).before a st = ts.all (fun c => c.before a st) := by
  induction ts with
  | nil => rfl
  | cons c t ih =>
    show (Jvm.Cond.and c (allAtoms t)).before a st = _
    rw [Jvm.Cond.before_and, ih, List.all_cons]
def words1 : List Jvm.Cond := Jvm.Cond.code x code maxLocals ret :: tables_1
/-- a 'code' word, met by the world's own term for the bytes: nothing is compared byte by byte -/
theorem code_word {y : MethodName} {bytes : ByteArray} {mx : Nat} {rt : Option FieldType} {a : Array Value} {s : State} {m : MethodId} {meth : Method} {c : Code} (h1 : s.methodNamed? y = some m) (h2 : s.vm.method? m = some meth) (h3 : meth.code = some c) (h4 : c.code = bytes)
    (h5 : (c.maxLocals == mx && c.exceptionTable.isEmpty && decide (c.maxStack ≤ mostOperands) && decide (meth.sig.returnType = rt) && !meth.locks && decide (parseMethodDescriptor y.desc = some meth.sig)) = true) : (Jvm.Cond.code y bytes mx rt).before a s = true := by
  simp only [Bool.and_eq_true, beq_iff_eq, Bool.not_eq_true', decide_eq_true_eq] at h5
  obtain ⟨⟨⟨⟨⟨g1, g2⟩, g3⟩, g4⟩, g5⟩, g6⟩ := h5
  simp [Cond.before, Cond.holds, Cond.value, h1, h2, h3, h4, g1, g2, g3, g4, g5, g6]
def isCode : Jvm.Cond → Bool
  | .code _ _ _ _ => true
  | _ => false
theorem all_split {L : List Jvm.Cond} {P : Jvm.Cond → Bool} (h1 : L.all (fun c => isCode c || P c) = true) (h2 : ∀ c ∈ L.filter isCode, P c = true) : L.all P = true := by
  refine List.all_eq_true.mpr fun c hc => ?_
  have h := List.all_eq_true.mp h1 c hc
  rcases Bool.eq_false_or_eq_true (isCode c) with hi | hi
  · exact h2 c (List.mem_filter.mpr ⟨hc, hi⟩)
  · simpa [hi] using h
set_option maxRecDepth 65536 in
theorem w_c0 : (Jvm.Cond.code x code maxLocals ret).before args0 about1 = true := code_word (m := ⟨1, 1⟩) (meth := k1m1) (c := k1c1) (by decide +kernel) rfl rfl rfl (by decide +kernel)
set_option maxRecDepth 65536 in
theorem w_c1 : (Jvm.Cond.code ({ cls := "com/example/level_ring/levelring/placement/MembersIsCertainlyHigherPinLaw", name := "scaleOf", desc := "(I)D" } : Jvm.MethodName) method_3_code (1 : Nat) (Option.some Jvm.ClassFile.FieldType.double)).before args0 about1 = true := code_word (m := ⟨1, 2⟩) (meth := k1m2) (c := k1c2) (by decide +kernel) rfl rfl rfl (by decide +kernel)
set_option maxRecDepth 65536 in
theorem w_c2 : (Jvm.Cond.code ({ cls := "com/example/level_ring/levelring/placement/Members", name := "isCertainlyHigher", desc := "(DD)Z" } : Jvm.MethodName) prog_36_method_28_code (4 : Nat) (Option.some Jvm.ClassFile.FieldType.boolean)).before args0 about1 = true := code_word (m := ⟨2, 0⟩) (meth := k2m0) (c := k2c0) (by decide +kernel) rfl rfl rfl (by decide +kernel)
def codes1 : List Jvm.Cond := [Jvm.Cond.code x code maxLocals ret, Jvm.Cond.code ({ cls := "com/example/level_ring/levelring/placement/MembersIsCertainlyHigherPinLaw", name := "scaleOf", desc := "(I)D" } : Jvm.MethodName) method_3_code (1 : Nat) (Option.some Jvm.ClassFile.FieldType.double), Jvm.Cond.code ({ cls := "com/example/level_ring/levelring/placement/Members", name := "isCertainlyHigher", desc := "(DD)Z" } : Jvm.MethodName) prog_36_method_28_code (4 : Nat) (Option.some Jvm.ClassFile.FieldType.boolean)]
set_option maxRecDepth 65536 in
theorem codes_eq : words1.filter isCode = codes1 := rfl
theorem w_codes : ∀ c ∈ words1.filter isCode, c.before args0 about1 = true := by
  rw [codes_eq]
  intro c hc
  simp only [codes1, List.mem_cons, List.not_mem_nil, or_false] at hc
  rcases hc with rfl | rfl | rfl
  · exact w_c0
  · exact w_c1
  · exact w_c2
set_option maxRecDepth 65536 in
theorem w_t1 : words1.all (fun c => isCode c || c.before args0 about1) = true := by decide +kernel
theorem w_tables : (allAtoms (Jvm.Cond.code x code maxLocals ret :: tables_1)).before args0 about1 = true := by
  rw [allAtoms_all]
  show words1.all (fun c => c.before args0 about1) = true
  refine all_split ?_ w_codes
  rw [w_t1]
set_option maxRecDepth 65536 in
theorem w_case : (Jvm.Cond.and given_1 narrow_1).before args0 about1 = true := by decide +kernel
theorem w_applies : (headSpec (Jvm.Cond.code x code maxLocals ret :: tables_1) room_1).applies x e0.platform about1 = true :=
  (Spec.applies_iff w_frames).mpr ⟨w_running, w_runnable, w_alone, w_named, w_hears, w_ripe, w_room, w_tables⟩
theorem atStart : AtStart classFile x code maxLocals ret World_1 tables_1 room_1 Calls_1 rest_1 Pre_1 launch0 p0 e0 about1 theMethod args0 below0 :=
  ⟨lists_1, trivial, launch0.admits_env _ _ _, launch0.least_env, fairChoices_fair.cas, fairChoices_fair.clock, w_frames, w_args, w_heap, w_applies, trivial, trivial, w_case⟩
end start1
theorem witness_1 : WitnessClaimed_1 := ⟨start1.p0, start1.e0, start1.about1, start1.theMethod, start1.args0, start1.below0, start1.atStart⟩
end Jvm.Pilot.@@N@@
