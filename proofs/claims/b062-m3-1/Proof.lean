import JvmDerived
import JvmDerived.Pilot.@@N@@Statement
import JvmDerived.Pilot.@@N@@Code
set_option linter.unusedVariables false
set_option linter.unusedSimpArgs false
@@BLOCK:NumsL.lean.txt@@
namespace Jvm.RoadKit
open Sem ClassFile Op Lib Jvm.Stand Jvm.Free Jvm.LawKit
section New
variable {p : Program} {l : Launch} {e : Env} {R : Room} {s : State} {m : MethodId} {args : Array Value} {below : List Frame} {meth : Method} {c : Code} {T : State} {locs : List Loc} {cells slots : Nat}
theorem retI (X : Stand p l e R s m args below meth c T locs cells slots) (hx : p.tables.exec = Jvm.exec) {pc : Nat} {Ls : Array Slot} {z : Int32} {rest : List Value} (hret : meth.sig.returnType = some .int) (hd : decode c.code pc = .ok (.ireturn, 1)) {fs : List Frame}
    (hl : ∀ (f : JFrame) (acts : List Action), f.method = m → f.locked = none → f.entered = [] → (doReturn e (T.setTop f) acts (some (.int z))).1 = T.setFrames fs) : Steps p.tables e below (T.setTop (mkF m pc Ls (.int z :: rest))) (T.setFrames fs) := by
  have hm' : T.vm.method? m = some meth := X.method'
  have hn : narrow .int (.int z) = .int z := rfl
  show Steps p.tables e below (T.setTop { method := m, pc := pc, locals := Ls, stack := _ :: rest, locked := none }) _
  jvm_step X.here [X.here.top, hx, hd, hm', hret, hn]
  first | (intro acts; rw [hl _ acts rfl rfl rfl]) | rw [hl _ _ rfl rfl rfl]
  exact Steps.refl _
theorem own_retL (X : Stand p l e R s m args below meth c T locs cells slots) (hx : p.tables.exec = Jvm.exec) {pc : Nat} {Ls : Array Slot} {z : Int64} {rest : List Value} (hret : meth.sig.returnType = some .long) (hd : decode c.code pc = .ok (.lreturn, 1)) {fs : List Frame}
    (hl : ∀ (f : JFrame) (acts : List Action), f.method = m → f.locked = none → f.entered = [] → (doReturn e (T.setTop f) acts (some (.long z))).1 = T.setFrames fs) : Steps p.tables e below (T.setTop (mkF m pc Ls (.long z :: rest))) (T.setFrames fs) := by
  have hm' : T.vm.method? m = some meth := X.method'
  have hn : narrow .long (.long z) = .long z := rfl
  show Steps p.tables e below (T.setTop { method := m, pc := pc, locals := Ls, stack := _ :: rest, locked := none }) _
  jvm_step X.here [X.here.top, hx, hd, hm', hret, hn]
  first | (intro acts; rw [hl _ acts rfl rfl rfl]) | rw [hl _ _ rfl rfl rfl]
  exact Steps.refl _
theorem own_retD (X : Stand p l e R s m args below meth c T locs cells slots) (hx : p.tables.exec = Jvm.exec) {pc : Nat} {Ls : Array Slot} {z : UInt64} {rest : List Value} (hret : meth.sig.returnType = some .double) (hd : decode c.code pc = .ok (.dreturn, 1)) {fs : List Frame}
    (hl : ∀ (f : JFrame) (acts : List Action), f.method = m → f.locked = none → f.entered = [] → (doReturn e (T.setTop f) acts (some (.double z))).1 = T.setFrames fs) : Steps p.tables e below (T.setTop (mkF m pc Ls (.double z :: rest))) (T.setFrames fs) := by
  have hm' : T.vm.method? m = some meth := X.method'
  have hn : narrow .double (.double z) = .double z := rfl
  show Steps p.tables e below (T.setTop { method := m, pc := pc, locals := Ls, stack := _ :: rest, locked := none }) _
  jvm_step X.here [X.here.top, hx, hd, hm', hret, hn]
  first | (intro acts; rw [hl _ acts rfl rfl rfl]) | rw [hl _ _ rfl rfl rfl]
  exact Steps.refl _
end New
end Jvm.RoadKit
namespace Jvm.Pilot.@@N@@
open Jvm Jvm.ClassFile Sem Op Lib Jvm.Free Jvm.Stand Jvm.LawKit Jvm.RoadKit Bundle Jvm.Pilot.@@N@@.Jvm.D
theorem own_shl1 (x : Int64) : x <<< ((1 : Int32) &&& 0x3f).toInt64 = x * 2 := by
  have e : ((1 : Int32) &&& 0x3f).toInt64 = 1 := by decide +kernel
  rw [e]
  apply Int64.toBitVec_inj.mp
  rw [Int64.toBitVec_mul, Int64.toBitVec_shiftLeft]
  have : (1 : Int64).toBitVec.smod 64 = 1#64 := by decide +kernel
  rw [this]
  apply BitVec.eq_of_toNat_eq
  rw [BitVec.shiftLeft_eq', BitVec.toNat_shiftLeft, BitVec.toNat_mul, Nat.shiftLeft_eq, show (2 : Nat) ^ (1#64).toNat = 2 from by decide +kernel, show (2 : Int64).toBitVec.toNat = 2 from by decide +kernel]
theorem own_shl32 (x : Int64) : x <<< ((32 : Int32) &&& 0x3f).toInt64 = x * 4294967296 := by
  have e : ((32 : Int32) &&& 0x3f).toInt64 = 32 := by decide +kernel
  rw [e]
  apply Int64.toBitVec_inj.mp
  rw [Int64.toBitVec_mul, Int64.toBitVec_shiftLeft]
  have : (32 : Int64).toBitVec.smod 64 = 32#64 := by decide +kernel
  rw [this]
  apply BitVec.eq_of_toNat_eq
  rw [BitVec.shiftLeft_eq', BitVec.toNat_shiftLeft, BitVec.toNat_mul, Nat.shiftLeft_eq, show (2 : Nat) ^ (32#64).toNat = 4294967296 from by decide +kernel, show (4294967296 : Int64).toBitVec.toNat = 4294967296 from by decide +kernel]
theorem own_ushr1m : (((-1 : Int64).toUInt64 >>> ((1 : Int32) &&& 0x3f).toInt64.toUInt64).toInt64) = 9223372036854775807 := by decide +kernel
theorem own_top (r x : Int64) (hr : 0 ≤ r.toInt) : ((r ||| (x ^^^ (-1 : Int64))).toUInt64 >>> ((63 : Int32) &&& 0x3f).toInt64.toUInt64).toInt64 = if 0 ≤ x.toInt then 1 else 0 := by
  have e : ((63 : Int32) &&& 0x3f).toInt64.toUInt64 = 63 := by decide +kernel
  rw [e]
  have h1 : (r ||| (x ^^^ (-1 : Int64))).toBitVec.msb = decide (0 ≤ x.toInt) := by
    rw [Int64.toBitVec_or, Int64.toBitVec_xor, BitVec.msb_or, BitVec.msb_xor]
    have hm : r.toBitVec.msb = false := by
      rw [BitVec.msb_eq_toInt]
      simpa using hr
    have hx : x.toBitVec.msb = decide (x.toInt < 0) := by rw [BitVec.msb_eq_toInt]; rfl
    have h3 : (-1 : Int64).toBitVec.msb = true := by decide +kernel
    rw [hm, hx, h3]
    by_cases h : 0 ≤ x.toInt
    · have : ¬ x.toInt < 0 := by omega
      simp [h, this]
    · have : x.toInt < 0 := by omega
      simp [h, this]
  have h2 : ((r ||| (x ^^^ (-1 : Int64))).toUInt64 >>> 63).toInt64.toBitVec.toNat = if 0 ≤ x.toInt then 1 else 0 := by
    show ((r ||| (x ^^^ (-1 : Int64))).toUInt64 >>> 63).toNat = _
    rw [UInt64.toNat_shiftRight]
    show (r ||| (x ^^^ (-1 : Int64))).toBitVec.toNat >>> 63 = _
    rw [Nat.shiftRight_eq_div_pow]
    have hl := (r ||| (x ^^^ (-1 : Int64))).toBitVec.isLt
    rw [BitVec.msb_eq_decide] at h1
    by_cases h : 0 ≤ x.toInt
    · simp only [h, if_true, decide_true, decide_eq_true_eq] at h1 ⊢
      omega
    · simp only [h, if_false, decide_false, decide_eq_false_iff_not] at h1 ⊢
      omega
  apply Int64.toBitVec_inj.mp
  apply BitVec.eq_of_toNat_eq
  rw [h2]
  split <;> rfl
theorem own_sar (x p : Int64) : ((x ^^^ (-1 : Int64)) >>> ((63 : Int32) &&& 0x3f).toInt64) &&& p = if 0 ≤ x.toInt then p else 0 := by
  have e : ((63 : Int32) &&& 0x3f).toInt64 = 63 := by decide +kernel
  rw [e]
  have hb := x.toInt_lt
  have hb' := x.le_toInt
  have h1 : (x ^^^ (-1 : Int64)).toInt = -x.toInt - 1 := by
    rw [Int64.xor_neg_one, Int64.toInt_not, Jvm.Kit.bmod64 (by omega) (by omega)]
  have h2 : ((x ^^^ (-1 : Int64)) >>> 63).toInt = (x ^^^ (-1 : Int64)).toInt / 2 ^ 63 := Jvm.Kit.i64_shr _ _ (by decide +kernel)
  by_cases h : 0 ≤ x.toInt
  · have : ((x ^^^ (-1 : Int64)) >>> 63) = -1 := by
      apply Int64.toInt_inj.mp
      rw [h2, h1]
      show _ = (-1 : Int)
      omega
    rw [this, if_pos h]
    apply Int64.toBitVec_inj.mp
    rw [Int64.toBitVec_and]
    have : (-1 : Int64).toBitVec = BitVec.allOnes 64 := by decide +kernel
    rw [this, BitVec.allOnes_and]
  · have : ((x ^^^ (-1 : Int64)) >>> 63) = 0 := by
      apply Int64.toInt_inj.mp
      rw [h2, h1]
      show _ = (0 : Int)
      omega
    rw [this, if_neg h]
    exact Int64.zero_and
def own_divU (q1 q2 : Int64) : Int64 := (((((q1.toUInt64 >>> ((1 : Int32) &&& 0x3f).toInt64.toUInt64).toInt64) / q2) <<< ((1 : Int32) &&& 0x3f).toInt64) + ((((q1 - (((((q1.toUInt64 >>> ((1 : Int32) &&& 0x3f).toInt64.toUInt64).toInt64) / q2) <<< ((1 : Int32) &&& 0x3f).toInt64) * q2)) ||| (((q1 - (((((q1.toUInt64 >>> ((1 : Int32) &&& 0x3f).toInt64.toUInt64).toInt64) / q2) <<< ((1 : Int32) &&& 0x3f).toInt64) * q2)) - q2) ^^^ (-1 : Int64))).toUInt64 >>> ((63 : Int32) &&& 0x3f).toInt64.toUInt64).toInt64))
def own_remU (q1 q2 : Int64) : Int64 := ((q1 - (((((q1.toUInt64 >>> ((1 : Int32) &&& 0x3f).toInt64.toUInt64).toInt64) / q2) <<< ((1 : Int32) &&& 0x3f).toInt64) * q2)) - (((((q1 - (((((q1.toUInt64 >>> ((1 : Int32) &&& 0x3f).toInt64.toUInt64).toInt64) / q2) <<< ((1 : Int32) &&& 0x3f).toInt64) * q2)) - q2) ^^^ (-1 : Int64)) >>> ((63 : Int32) &&& 0x3f).toInt64) &&& q2))
/-- 2^63 - 1 = P m + s -/
theorem own_du (P : Int64) (h1 : 1 ≤ P.toInt) (h2 : P.toInt ≤ 2147483648) : ∃ m s : Int, 9223372036854775807 = P.toInt * m + s ∧ 0 ≤ s ∧ s < P.toInt ∧
    own_divU (-1) P = Int64.ofInt (2 * m + if P.toInt ≤ 2 * s + 1 then 1 else 0) ∧ (own_remU (-1) P).toInt = 2 * s + 1 - (if P.toInt ≤ 2 * s + 1 then P.toInt else 0) := by
  have hM : (9223372036854775807 : Int64).toInt = 9223372036854775807 := by decide +kernel
  refine ⟨9223372036854775807 / P.toInt, 9223372036854775807 % P.toInt, (Int.mul_ediv_add_emod _ _).symm, Int.emod_nonneg _ (by omega), Int.emod_lt_of_pos _ (by omega), ?_⟩
  have hms := Int.mul_ediv_add_emod 9223372036854775807 P.toInt
  have hs0 := Int.emod_nonneg 9223372036854775807 (b := P.toInt) (by omega)
  have hs1 := Int.emod_lt_of_pos 9223372036854775807 (b := P.toInt) (by omega)
  have hd : (9223372036854775807 : Int64) / P = Int64.ofInt (9223372036854775807 / P.toInt) := by
    rw [← Int64.ofInt_toInt (x := (9223372036854775807 : Int64) / P), Jvm.Kit.i64_div (by omega), hM, Int.tdiv_eq_ediv_of_nonneg (by omega)]
  generalize 9223372036854775807 / P.toInt = m at *
  generalize 9223372036854775807 % P.toInt = s at *
  have hr : (-1 : Int64) - (Int64.ofInt m * 2) * P = Int64.ofInt (2 * s + 1) := by
    have e1 : (-1 : Int64) = Int64.ofInt 18446744073709551615 := by decide +kernel
    have e2 : (2 : Int64) = Int64.ofInt 2 := by decide +kernel
    rw [e1, e2]
    conv => lhs; rw [← Int64.ofInt_toInt (x := P)]
    rw [← Int64.ofInt_mul, ← Int64.ofInt_mul, ← Int64.ofInt_sub]
    congr 1
    have : m * 2 * P.toInt = 2 * (P.toInt * m) := by rw [Int.mul_comm m 2, Int.mul_assoc, Int.mul_comm m]
    omega
  have hrt : (Int64.ofInt (2 * s + 1)).toInt = 2 * s + 1 := by rw [Int64.toInt_ofInt]; exact Jvm.Kit.bmod64 (by omega) (by omega)
  have hrp : (Int64.ofInt (2 * s + 1) - P).toInt = 2 * s + 1 - P.toInt := by rw [Jvm.Kit.i64_sub (by omega) (by omega), hrt]
  constructor
  · unfold own_divU
    rw [own_ushr1m, hd, own_shl1, hr, own_top _ _ (by omega), hrp]
    have e2 : (2 : Int64) = Int64.ofInt 2 := by decide +kernel
    by_cases h : P.toInt ≤ 2 * s + 1
    · rw [if_pos (by omega), if_pos h, e2, ← Int64.ofInt_mul, show (1 : Int64) = Int64.ofInt 1 from by decide +kernel, ← Int64.ofInt_add, Int.mul_comm m 2]
    · rw [if_neg (by omega), if_neg h, e2, ← Int64.ofInt_mul, show (0 : Int64) = Int64.ofInt 0 from by decide +kernel, ← Int64.ofInt_add, Int.mul_comm m 2]
  · unfold own_remU
    rw [own_ushr1m, hd, own_shl1, hr, own_sar, hrp]
    by_cases h : P.toInt ≤ 2 * s + 1
    · rw [if_pos (by omega), if_pos h, hrp]
    · rw [if_neg (by omega), if_neg h, Int64.sub_zero, hrt]; omega
def own_unit (P : Int64) : Int64 := if own_remU (-1) P + 1 = P then own_divU (-1) P + 1 else own_divU (-1) P
def own_rest (P : Int64) : Int64 := if own_remU (-1) P + 1 = P then 0 else own_remU (-1) P + 1
theorem own_ur (P : Int64) (h1 : 1 ≤ P.toInt) (h2 : P.toInt ≤ 2147483648) : ∃ u : Int, 18446744073709551616 = P.toInt * u + (own_rest P).toInt ∧ 0 ≤ (own_rest P).toInt ∧ (own_rest P).toInt < P.toInt ∧ own_unit P = Int64.ofInt u := by
  obtain ⟨m, s, e1, e2, e3, e4, e5⟩ := own_du P h1 h2
  have one : (1 : Int64).toInt = 1 := by decide +kernel
  have e6 : (own_remU (-1) P + 1).toInt = (own_remU (-1) P).toInt + 1 := by
    rw [Jvm.Kit.i64_add, one] <;> (rw [one, e5]; split <;> omega)
  have e7 : own_remU (-1) P + 1 = P ↔ (own_remU (-1) P).toInt + 1 = P.toInt := by rw [← e6]; exact Int64.toInt_inj.symm
  have em : P.toInt * (2 * m) = 2 * (P.toInt * m) := by rw [Int.mul_left_comm]
  unfold own_unit own_rest
  rw [e4]
  by_cases h : P.toInt ≤ 2 * s + 1
  · rw [if_pos h] at e5 ⊢
    by_cases g : own_remU (-1) P + 1 = P
    · have g' := e7.mp g
      refine ⟨2 * m + 2, ?_, ?_, ?_, ?_⟩
      · rw [if_pos g, Int64.toInt_zero, Int.mul_add, em]; omega
      · rw [if_pos g, Int64.toInt_zero]; omega
      · rw [if_pos g, Int64.toInt_zero]; omega
      · rw [if_pos g, show (1 : Int64) = Int64.ofInt 1 from by decide +kernel, ← Int64.ofInt_add]; refine congrArg Int64.ofInt ?_; omega
    · have g' : ¬ ((own_remU (-1) P).toInt + 1 = P.toInt) := fun z => g (e7.mpr z)
      refine ⟨2 * m + 1, ?_, ?_, ?_, ?_⟩
      · rw [if_neg g, e6, Int.mul_add, em]; omega
      · rw [if_neg g, e6]; omega
      · rw [if_neg g, e6]; omega
      · rw [if_neg g]
  · rw [if_neg h] at e5 ⊢
    by_cases g : own_remU (-1) P + 1 = P
    · have g' := e7.mp g
      refine ⟨2 * m + 1, ?_, ?_, ?_, ?_⟩
      · rw [if_pos g, Int64.toInt_zero, Int.mul_add, em]; omega
      · rw [if_pos g, Int64.toInt_zero]; omega
      · rw [if_pos g, Int64.toInt_zero]; omega
      · rw [if_pos g, show (1 : Int64) = Int64.ofInt 1 from by decide +kernel, ← Int64.ofInt_add]; refine congrArg Int64.ofInt ?_; omega
    · have g' : ¬ ((own_remU (-1) P).toInt + 1 = P.toInt) := fun z => g (e7.mpr z)
      refine ⟨2 * m + 0, ?_, ?_, ?_, ?_⟩
      · rw [if_neg g, e6, Int.mul_add, em]; omega
      · rw [if_neg g, e6]; omega
      · rw [if_neg g, e6]; omega
      · rw [if_neg g]
def own_first (P t : Int64) : Int64 := (t * own_unit P) + ((((t * own_rest P) + P) - (1 : Int64)) / P)
theorem own_first_eq (P t : Int64) (h1 : 1 ≤ P.toInt) (h2 : P.toInt ≤ 2147483648) (h3 : 0 ≤ t.toInt) (h4 : t.toInt ≤ P.toInt) :
    ∃ X : Int, own_first P t = Int64.ofInt X ∧ t.toInt * 18446744073709551616 ≤ X * P.toInt ∧ X * P.toInt < t.toInt * 18446744073709551616 + P.toInt := by
  obtain ⟨u, e1, e2, e3, e4⟩ := own_ur P h1 h2
  have one : (1 : Int64).toInt = 1 := by decide +kernel
  have b1 : 0 ≤ t.toInt * (own_rest P).toInt := Int.mul_nonneg h3 e2
  have b2 : t.toInt * (own_rest P).toInt ≤ 2147483648 * 2147483648 := Int.mul_le_mul (by omega) (by omega) e2 (by omega)
  have a1 : (t * own_rest P).toInt = t.toInt * (own_rest P).toInt := Jvm.Kit.i64_mul (by omega) (by omega)
  have a2 : (t * own_rest P + P).toInt = t.toInt * (own_rest P).toInt + P.toInt := by rw [Jvm.Kit.i64_add (by omega) (by omega), a1]
  have a3 : (t * own_rest P + P - 1).toInt = t.toInt * (own_rest P).toInt + P.toInt - 1 := by rw [Jvm.Kit.i64_sub (by omega) (by omega), a2, one]
  have a4 : (((t * own_rest P) + P) - (1 : Int64)) / P = Int64.ofInt ((t.toInt * (own_rest P).toInt + P.toInt - 1) / P.toInt) := by
    rw [← Int64.ofInt_toInt (x := (((t * own_rest P) + P) - (1 : Int64)) / P), Jvm.Kit.i64_div (by omega), a3, Int.tdiv_eq_ediv_of_nonneg (by omega)]
  refine ⟨t.toInt * u + (t.toInt * (own_rest P).toInt + P.toInt - 1) / P.toInt, ?_, ?_⟩
  · unfold own_first
    rw [a4, e4]
    conv => lhs; lhs; lhs; rw [← Int64.ofInt_toInt (x := t)]
    rw [← Int64.ofInt_mul, ← Int64.ofInt_add]
  · have hq := Int.mul_ediv_add_emod (t.toInt * (own_rest P).toInt + P.toInt - 1) P.toInt
    have hq0 := Int.emod_nonneg (t.toInt * (own_rest P).toInt + P.toInt - 1) (b := P.toInt) (by omega)
    have hq1 := Int.emod_lt_of_pos (t.toInt * (own_rest P).toInt + P.toInt - 1) (b := P.toInt) (by omega)
    have e5 : t.toInt * 18446744073709551616 = t.toInt * u * P.toInt + t.toInt * (own_rest P).toInt := by
      rw [e1, Int.mul_add, Int.mul_comm P.toInt u, Int.mul_assoc]
    rw [e5, Int.add_mul, Int.mul_comm ((t.toInt * (own_rest P).toInt + P.toInt - 1) / P.toInt)]
    omega
def own_lo (t P : Int64) : Int64 := (((t <<< ((32 : Int32) &&& 0x3f).toInt64) - ((t <<< ((32 : Int32) &&& 0x3f).toInt64) / P) * P) <<< ((32 : Int32) &&& 0x3f).toInt64)
def own_share (t P : Int64) : Int64 := if own_lo t P - (own_lo t P / P) * P = 0 then ((((t <<< ((32 : Int32) &&& 0x3f).toInt64) / P) <<< ((32 : Int32) &&& 0x3f).toInt64) + own_lo t P / P) else ((((t <<< ((32 : Int32) &&& 0x3f).toInt64) / P) <<< ((32 : Int32) &&& 0x3f).toInt64) + own_lo t P / P) + 1
theorem own_share_eq (P t : Int64) (h1 : 1 ≤ P.toInt) (h2 : P.toInt ≤ 2147483648) (h3 : 0 ≤ t.toInt) (h4 : t.toInt < P.toInt) :
    ∃ X : Int, own_share t P = Int64.ofInt X ∧ t.toInt * 18446744073709551616 ≤ X * P.toInt ∧ X * P.toInt < t.toInt * 18446744073709551616 + P.toInt := by
  have k : (4294967296 : Int64).toInt = 4294967296 := by decide +kernel
  have a1 : (t * 4294967296).toInt = t.toInt * 4294967296 := by rw [Jvm.Kit.i64_mul, k] <;> (rw [k]; omega)
  have a2 : (t * 4294967296) / P = Int64.ofInt (t.toInt * 4294967296 / P.toInt) := by
    rw [← Int64.ofInt_toInt (x := (t * 4294967296) / P), Jvm.Kit.i64_div (by omega), a1, Int.tdiv_eq_ediv_of_nonneg (by omega)]
  have a3 : (t * 4294967296 - ((t * 4294967296) / P) * P).toInt = t.toInt * 4294967296 % P.toInt := by rw [Jvm.Kit.i64_rem_nonneg (by omega), a1]
  have c1 := Int.mul_ediv_add_emod (t.toInt * 4294967296) P.toInt
  have c2 := Int.emod_nonneg (t.toInt * 4294967296) (b := P.toInt) (by omega)
  have c3 := Int.emod_lt_of_pos (t.toInt * 4294967296) (b := P.toInt) (by omega)
  have lo : (own_lo t P).toInt = t.toInt * 4294967296 % P.toInt * 4294967296 := by
    unfold own_lo
    rw [own_shl32, own_shl32]
    rw [Jvm.Kit.i64_mul, k, a3] <;> (rw [k, a3]; omega)
  generalize t.toInt * 4294967296 / P.toInt = a at *
  generalize t.toInt * 4294967296 % P.toInt = r at *
  have a4 : own_lo t P / P = Int64.ofInt (r * 4294967296 / P.toInt) := by
    rw [← Int64.ofInt_toInt (x := own_lo t P / P), Jvm.Kit.i64_div (by omega), lo, Int.tdiv_eq_ediv_of_nonneg (by omega)]
  have a5 : (own_lo t P - (own_lo t P / P) * P).toInt = r * 4294967296 % P.toInt := by rw [Jvm.Kit.i64_rem_nonneg (by omega), lo]
  have d1 := Int.mul_ediv_add_emod (r * 4294967296) P.toInt
  have d2 := Int.emod_nonneg (r * 4294967296) (b := P.toInt) (by omega)
  have d3 := Int.emod_lt_of_pos (r * 4294967296) (b := P.toInt) (by omega)
  have z : own_lo t P - (own_lo t P / P) * P = 0 ↔ r * 4294967296 % P.toInt = 0 := by rw [← a5, ← Int64.toInt_inj, Int64.toInt_zero]
  generalize r * 4294967296 / P.toInt = b at *
  generalize r * 4294967296 % P.toInt = r2 at *
  have q : (((t <<< ((32 : Int32) &&& 0x3f).toInt64) / P) <<< ((32 : Int32) &&& 0x3f).toInt64) + own_lo t P / P = Int64.ofInt (a * 4294967296 + b) := by
    rw [own_shl32, own_shl32, a2, a4, show (4294967296 : Int64) = Int64.ofInt 4294967296 from by decide +kernel, ← Int64.ofInt_mul, ← Int64.ofInt_add]
  have key : t.toInt * 18446744073709551616 = (a * 4294967296 + b) * P.toInt + r2 := by
    have w : (a * 4294967296 + b) * P.toInt = 4294967296 * (P.toInt * a) + P.toInt * b := by
      rw [Int.add_mul, Int.mul_comm b, Int.mul_comm (a * 4294967296), ← Int.mul_assoc, Int.mul_comm (P.toInt * a)]
    omega
  unfold own_share
  by_cases g : own_lo t P - (own_lo t P / P) * P = 0
  · have g' := z.mp g
    rw [if_pos g, q]
    exact ⟨_, rfl, by omega, by omega⟩
  · have g' : ¬ (r2 = 0) := fun w => g (z.mpr w)
    rw [if_neg g, q, show (1 : Int64) = Int64.ofInt 1 from by decide +kernel, ← Int64.ofInt_add]
    refine ⟨_, rfl, ?_, ?_⟩
    · rw [Int.add_mul (a * 4294967296 + b) 1]; omega
    · rw [Int.add_mul (a * 4294967296 + b) 1]; omega
theorem own_uniq {P T X Y : Int} (hP : 0 < P) (h1 : T ≤ X * P) (h2 : X * P < T + P) (h3 : T ≤ Y * P) (h4 : Y * P < T + P) : X = Y := by
  have l : ∀ {X Y : Int}, T ≤ X * P → X * P < T + P → T ≤ Y * P → Y * P < T + P → X ≤ Y := by
    intro X Y h1 h2 h3 h4
    apply Int.not_lt.mp
    intro h
    have : (Y + 1) * P ≤ X * P := Int.mul_le_mul_of_nonneg_right (by omega) (by omega)
    rw [Int.add_mul] at this
    omega
  exact Int.le_antisymm (l h1 h2 h3 h4) (l h3 h4 h1 h2)
theorem own_main (P t : Int64) (h1 : 1 ≤ P.toInt) (h2 : P.toInt ≤ 2147483648) (h3 : 0 ≤ t.toInt) (h4 : t.toInt < P.toInt) : own_first P t = own_share t P := by
  obtain ⟨X, x1, x2, x3⟩ := own_first_eq P t h1 h2 h3 (by omega)
  obtain ⟨Y, y1, y2, y3⟩ := own_share_eq P t h1 h2 h3 h4
  rw [x1, y1, own_uniq (by omega) x2 x3 y2 y3]
theorem own_all (P : Int64) (h1 : 1 ≤ P.toInt) (h2 : P.toInt ≤ 2147483648) : own_first P P = 0 := by
  obtain ⟨X, x1, x2, x3⟩ := own_first_eq P P h1 h2 (by omega) (by omega)
  have : X = 18446744073709551616 := own_uniq (by omega) x2 x3 (by omega) (by omega)
  rw [x1, this]
  decide +kernel
def own_parts (p : Int32) : Int64 := (p.toInt64 &&& (2147483647 : Int64)) + (1 : Int64)
theorem own_parts_rng (p : Int32) : 1 ≤ (own_parts p).toInt ∧ (own_parts p).toInt ≤ 2147483648 := by
  have e : (p.toInt64 &&& (2147483647 : Int64)).toInt = p.toInt64.toInt % 2 ^ 31 := Jvm.Kit.i64_mask _ _ (by decide) (by decide +kernel)
  have one : (1 : Int64).toInt = 1 := by decide +kernel
  have : (own_parts p).toInt = p.toInt64.toInt % 2 ^ 31 + 1 := by
    unfold own_parts
    rw [Jvm.Kit.i64_add, e, one] <;> (rw [e, one]; omega)
  omega
theorem own_t3 (q P : Int64) (h1 : 1 ≤ P.toInt) : 0 ≤ ((q &&& (9223372036854775807 : Int64)) - ((q &&& (9223372036854775807 : Int64)) / P) * P).toInt ∧ ((q &&& (9223372036854775807 : Int64)) - ((q &&& (9223372036854775807 : Int64)) / P) * P).toInt < P.toInt := by
  have e : (q &&& (9223372036854775807 : Int64)).toInt = q.toInt % 2 ^ 63 := Jvm.Kit.i64_mask _ _ (by decide) (by decide +kernel)
  rw [Jvm.Kit.i64_rem_nonneg (by omega)]
  exact ⟨Int.emod_nonneg _ (by omega), Int.emod_lt_of_pos _ (by omega)⟩
theorem d3_0 : decode jdk_35_method_44_code 0 = .ok (.lload_n 2, 1) := by decide +kernel
theorem d3_1 : decode jdk_35_method_44_code 1 = .ok (.lconst 0, 1) := by decide +kernel
theorem d3_2 : decode jdk_35_method_44_code 2 = .ok (.lcmp, 1) := by decide +kernel
theorem d3_3 : decode jdk_35_method_44_code 3 = .ok (.ifCond .lt 38, 3) := by decide +kernel
theorem d3_6 : decode jdk_35_method_44_code 6 = .ok (.lload_n 0, 1) := by decide +kernel
theorem d3_7 : decode jdk_35_method_44_code 7 = .ok (.iconst 1, 1) := by decide +kernel
theorem d3_8 : decode jdk_35_method_44_code 8 = .ok (.lushr, 1) := by decide +kernel
theorem d3_9 : decode jdk_35_method_44_code 9 = .ok (.lload_n 2, 1) := by decide +kernel
theorem d3_10 : decode jdk_35_method_44_code 10 = .ok (.ldiv, 1) := by decide +kernel
theorem d3_11 : decode jdk_35_method_44_code 11 = .ok (.iconst 1, 1) := by decide +kernel
theorem d3_12 : decode jdk_35_method_44_code 12 = .ok (.lshl, 1) := by decide +kernel
theorem d3_13 : decode jdk_35_method_44_code 13 = .ok (.lstore 4, 2) := by decide +kernel
theorem d3_15 : decode jdk_35_method_44_code 15 = .ok (.lload_n 0, 1) := by decide +kernel
theorem d3_16 : decode jdk_35_method_44_code 16 = .ok (.lload 4, 2) := by decide +kernel
theorem d3_18 : decode jdk_35_method_44_code 18 = .ok (.lload_n 2, 1) := by decide +kernel
theorem d3_19 : decode jdk_35_method_44_code 19 = .ok (.lmul, 1) := by decide +kernel
theorem d3_20 : decode jdk_35_method_44_code 20 = .ok (.lsub, 1) := by decide +kernel
theorem d3_21 : decode jdk_35_method_44_code 21 = .ok (.lstore 6, 2) := by decide +kernel
theorem d3_23 : decode jdk_35_method_44_code 23 = .ok (.lload 4, 2) := by decide +kernel
theorem d3_25 : decode jdk_35_method_44_code 25 = .ok (.lload 6, 2) := by decide +kernel
theorem d3_27 : decode jdk_35_method_44_code 27 = .ok (.lload 6, 2) := by decide +kernel
theorem d3_29 : decode jdk_35_method_44_code 29 = .ok (.lload_n 2, 1) := by decide +kernel
theorem d3_30 : decode jdk_35_method_44_code 30 = .ok (.lsub, 1) := by decide +kernel
theorem d3_31 : decode jdk_35_method_44_code 31 = .ok (.ldc2_w 306, 3) := by decide +kernel
theorem d3_34 : decode jdk_35_method_44_code 34 = .ok (.lxor, 1) := by decide +kernel
theorem d3_35 : decode jdk_35_method_44_code 35 = .ok (.lor, 1) := by decide +kernel
theorem d3_36 : decode jdk_35_method_44_code 36 = .ok (.bipush 63, 2) := by decide +kernel
theorem d3_38 : decode jdk_35_method_44_code 38 = .ok (.lushr, 1) := by decide +kernel
theorem d3_39 : decode jdk_35_method_44_code 39 = .ok (.ladd, 1) := by decide +kernel
theorem d3_40 : decode jdk_35_method_44_code 40 = .ok (.lreturn, 1) := by decide +kernel
theorem pn_3 : plainName "java/lang/Long" = true := by first | (simp [plainName, overriddenIn]; done) | decide +kernel
theorem ef_3 (m : MethodId) (x0 : Int64) (x1 : Int64) : entryFrame m #[(.long x0), (.long x1)] 8 = mkF m 0 #[.val (.long x0), .second, .val (.long x1), .second, .unset, .unset, .unset, .unset] [] := by first | (simp [entryFrame, mkF, argsToLocals, Value.category]; done) | rfl
def Q3 (Z : State) (q1 : Int64) (q2 : Int64) (h0 : Heap) (n0 : Nat) (v : Option Value) (h : Heap) (L : List Loc) : Prop := v = some (.long (own_divU q1 q2)) ∧ Fr n0 L ∧ h = h0
set_option maxRecDepth 65536 in
set_option maxHeartbeats 40000000 in
theorem rm3 (l : Launch) (Z : State) (a0 : Array Value) (hw : ∀ d ∈ tables_1, d.before a0 Z = true) (ws : List Jvm.Cond) (q1 : Int64) (q2 : Int64) (h0 : Heap) (n0 : Nat) (Z0 : n0 ≤ h0.size) (hc3 : ¬ ((lcmpW q2 (0 : Int64)) < (0 : Int32))) (hnz10 : ¬ (q2 = (0 : Int64))) :
    MetFree l (⟨"java/lang/Long", "divideUnsigned", "(JJ)J"⟩ : MethodName) (head1 (Jvm.Cond.code (⟨"java/lang/Long", "divideUnsigned", "(JJ)J"⟩ : MethodName) jdk_35_method_44_code 8 (some .long) :: ws) ({ frames := 0, cells := 0, slots := 0, locals := 0 } : Room)) (fun a U => a = #[(.long q1), (.long q2)] ∧ Z.Warmed39 U.vm ∧ U.heap = h0) (fun _ _ _ _ _ => True) (fun _ U o U' => ∃ v L, o = .returned v ∧ Q3 Z q1 q2 h0 n0 v U'.heap L ∧ FrameEnd U o U' L ({ frames := 0, cells := 0, slots := 0, locals := 0 } : Room).cells ({ frames := 0, cells := 0, slots := 0, locals := 0 } : Room).slots) := by
  refine MetFree.of_bodySF (plainFor_of_name pn_3) hisR ?_
  intro p e s m args below meth c s₁ Bd hml0 hP hK
  obtain ⟨rfl, hZ, hh⟩ := hP
  have hx := Bd.exec
  have hby := Bd.bytes
  have hml : c.maxLocals = 8 := hml0
  have hown : s.vm.findClass "java/lang/Long" = some m.cls := findClass_of_methodNamed Bd.named
  have hnm := (name_of_methodNamed Bd.named Bd.method).1
  have X0 : Stand p l e ({ frames := 0, cells := 0, slots := 0, locals := 0 } : Room) s m #[(.long q1), (.long q2)] below meth c s₁ [] 0 0 := Stand.of_body Bd
  have e0 : s₁.heap = h0 := by rw [← hh, Bd.state]; rfl
  have N0 := Fr.nil n0
  have pre0 : ∀ t, Steps p.tables e below (s₁.setTop (mkF m 0 #[.val (.long q1), .second, .val (.long q2), .second, .unset, .unset, .unset, .unset] [])) t → Steps p.tables e below (s₁.setTop (entryFrame m #[(.long q1), (.long q2)] 8)) t := fun t k => castTop (ef_3 m q1 q2) k
  -- 3. LAWS

  obtain ⟨fs, hr, hrun, hended, hW, hsame⟩ := X0.leave (v := some (.long (((((q1.toUInt64 >>> ((1 : Int32) &&& 0x3f).toInt64.toUInt64).toInt64) / q2) <<< ((1 : Int32) &&& 0x3f).toInt64) + ((((q1 - (((((q1.toUInt64 >>> ((1 : Int32) &&& 0x3f).toInt64.toUInt64).toInt64) / q2) <<< ((1 : Int32) &&& 0x3f).toInt64) * q2)) ||| (((q1 - (((((q1.toUInt64 >>> ((1 : Int32) &&& 0x3f).toInt64.toUInt64).toInt64) / q2) <<< ((1 : Int32) &&& 0x3f).toInt64) * q2)) - q2) ^^^ (-1 : Int64))).toUInt64 >>> ((63 : Int32) &&& 0x3f).toInt64.toUInt64).toInt64)))) (fun h => by rw [Bd.returns] at h; cases h)
  refine ⟨_, _, pre0 _ ?_, hrun, hended, _, _, rfl, ?_, ⟨_, rfl⟩, hW, hsame.mono (by decide) (by decide)⟩
  -- 4. STEPS
  · show Steps p.tables e below (s₁.setTop (mkF m 0 #[.val (.long q1), .second, .val (.long q2), .second, .unset, .unset, .unset, .unset] [])) _
    refine XS.lloadN X0.here hx rfl (hb hby d3_0) rfl ?_
    show Steps p.tables e below (s₁.setTop (mkF m 1 #[.val (.long q1), .second, .val (.long q2), .second, .unset, .unset, .unset, .unset] [(.long q2)])) _
    refine XS.lconst X0.here hx rfl (hb hby d3_1) ?_
    show Steps p.tables e below (s₁.setTop (mkF m 2 #[.val (.long q1), .second, .val (.long q2), .second, .unset, .unset, .unset, .unset] [(.long (0 : Int64)), (.long q2)])) _
    refine XS.lcmp X0.here hx rfl (hb hby d3_2) rfl ?_
    show Steps p.tables e below (s₁.setTop (mkF m 3 #[.val (.long q1), .second, .val (.long q2), .second, .unset, .unset, .unset, .unset] [(.int (lcmpW q2 (0 : Int64)))])) _
    refine XS.ifNo X0.here hx rfl (hb hby d3_3) rfl ((if0 _ _).trans (flt hc3).1) ?_
    show Steps p.tables e below (s₁.setTop (mkF m 6 #[.val (.long q1), .second, .val (.long q2), .second, .unset, .unset, .unset, .unset] [])) _
    refine XS.lloadN X0.here hx rfl (hb hby d3_6) rfl ?_
    show Steps p.tables e below (s₁.setTop (mkF m 7 #[.val (.long q1), .second, .val (.long q2), .second, .unset, .unset, .unset, .unset] [(.long q1)])) _
    refine XS.iconst X0.here hx rfl (hb hby d3_7) ?_
    show Steps p.tables e below (s₁.setTop (mkF m 8 #[.val (.long q1), .second, .val (.long q2), .second, .unset, .unset, .unset, .unset] [(.int (1 : Int32)), (.long q1)])) _
    refine XS.lushr X0.here hx rfl (hb hby d3_8) rfl ?_
    show Steps p.tables e below (s₁.setTop (mkF m 9 #[.val (.long q1), .second, .val (.long q2), .second, .unset, .unset, .unset, .unset] [(.long ((q1.toUInt64 >>> ((1 : Int32) &&& 0x3f).toInt64.toUInt64).toInt64))])) _
    refine XS.lloadN X0.here hx rfl (hb hby d3_9) rfl ?_
    show Steps p.tables e below (s₁.setTop (mkF m 10 #[.val (.long q1), .second, .val (.long q2), .second, .unset, .unset, .unset, .unset] [(.long q2), (.long ((q1.toUInt64 >>> ((1 : Int32) &&& 0x3f).toInt64.toUInt64).toInt64))])) _
    refine XS.ldiv X0.here hx rfl (hb hby d3_10) rfl hnz10 ?_
    show Steps p.tables e below (s₁.setTop (mkF m 11 #[.val (.long q1), .second, .val (.long q2), .second, .unset, .unset, .unset, .unset] [(.long (((q1.toUInt64 >>> ((1 : Int32) &&& 0x3f).toInt64.toUInt64).toInt64) / q2))])) _
    refine XS.iconst X0.here hx rfl (hb hby d3_11) ?_
    show Steps p.tables e below (s₁.setTop (mkF m 12 #[.val (.long q1), .second, .val (.long q2), .second, .unset, .unset, .unset, .unset] [(.int (1 : Int32)), (.long (((q1.toUInt64 >>> ((1 : Int32) &&& 0x3f).toInt64.toUInt64).toInt64) / q2))])) _
    refine XS.lshl X0.here hx rfl (hb hby d3_12) rfl ?_
    show Steps p.tables e below (s₁.setTop (mkF m 13 #[.val (.long q1), .second, .val (.long q2), .second, .unset, .unset, .unset, .unset] [(.long ((((q1.toUInt64 >>> ((1 : Int32) &&& 0x3f).toInt64.toUInt64).toInt64) / q2) <<< ((1 : Int32) &&& 0x3f).toInt64))])) _
    refine XS.lstore X0.here hx rfl (hb hby d3_13) rfl (l' := #[.val (.long q1), .second, .val (.long q2), .second, .val (.long ((((q1.toUInt64 >>> ((1 : Int32) &&& 0x3f).toInt64.toUInt64).toInt64) / q2) <<< ((1 : Int32) &&& 0x3f).toInt64)), .second, .unset, .unset]) rfl ?_
    show Steps p.tables e below (s₁.setTop (mkF m 15 #[.val (.long q1), .second, .val (.long q2), .second, .val (.long ((((q1.toUInt64 >>> ((1 : Int32) &&& 0x3f).toInt64.toUInt64).toInt64) / q2) <<< ((1 : Int32) &&& 0x3f).toInt64)), .second, .unset, .unset] [])) _
    refine XS.lloadN X0.here hx rfl (hb hby d3_15) rfl ?_
    show Steps p.tables e below (s₁.setTop (mkF m 16 #[.val (.long q1), .second, .val (.long q2), .second, .val (.long ((((q1.toUInt64 >>> ((1 : Int32) &&& 0x3f).toInt64.toUInt64).toInt64) / q2) <<< ((1 : Int32) &&& 0x3f).toInt64)), .second, .unset, .unset] [(.long q1)])) _
    refine XS.lload X0.here hx rfl (hb hby d3_16) rfl ?_
    show Steps p.tables e below (s₁.setTop (mkF m 18 #[.val (.long q1), .second, .val (.long q2), .second, .val (.long ((((q1.toUInt64 >>> ((1 : Int32) &&& 0x3f).toInt64.toUInt64).toInt64) / q2) <<< ((1 : Int32) &&& 0x3f).toInt64)), .second, .unset, .unset] [(.long ((((q1.toUInt64 >>> ((1 : Int32) &&& 0x3f).toInt64.toUInt64).toInt64) / q2) <<< ((1 : Int32) &&& 0x3f).toInt64)), (.long q1)])) _
    refine XS.lloadN X0.here hx rfl (hb hby d3_18) rfl ?_
    show Steps p.tables e below (s₁.setTop (mkF m 19 #[.val (.long q1), .second, .val (.long q2), .second, .val (.long ((((q1.toUInt64 >>> ((1 : Int32) &&& 0x3f).toInt64.toUInt64).toInt64) / q2) <<< ((1 : Int32) &&& 0x3f).toInt64)), .second, .unset, .unset] [(.long q2), (.long ((((q1.toUInt64 >>> ((1 : Int32) &&& 0x3f).toInt64.toUInt64).toInt64) / q2) <<< ((1 : Int32) &&& 0x3f).toInt64)), (.long q1)])) _
    refine XS.lmul X0.here hx rfl (hb hby d3_19) rfl ?_
    show Steps p.tables e below (s₁.setTop (mkF m 20 #[.val (.long q1), .second, .val (.long q2), .second, .val (.long ((((q1.toUInt64 >>> ((1 : Int32) &&& 0x3f).toInt64.toUInt64).toInt64) / q2) <<< ((1 : Int32) &&& 0x3f).toInt64)), .second, .unset, .unset] [(.long (((((q1.toUInt64 >>> ((1 : Int32) &&& 0x3f).toInt64.toUInt64).toInt64) / q2) <<< ((1 : Int32) &&& 0x3f).toInt64) * q2)), (.long q1)])) _
    refine XS.lsub X0.here hx rfl (hb hby d3_20) rfl ?_
    show Steps p.tables e below (s₁.setTop (mkF m 21 #[.val (.long q1), .second, .val (.long q2), .second, .val (.long ((((q1.toUInt64 >>> ((1 : Int32) &&& 0x3f).toInt64.toUInt64).toInt64) / q2) <<< ((1 : Int32) &&& 0x3f).toInt64)), .second, .unset, .unset] [(.long (q1 - (((((q1.toUInt64 >>> ((1 : Int32) &&& 0x3f).toInt64.toUInt64).toInt64) / q2) <<< ((1 : Int32) &&& 0x3f).toInt64) * q2)))])) _
    refine XS.lstore X0.here hx rfl (hb hby d3_21) rfl (l' := #[.val (.long q1), .second, .val (.long q2), .second, .val (.long ((((q1.toUInt64 >>> ((1 : Int32) &&& 0x3f).toInt64.toUInt64).toInt64) / q2) <<< ((1 : Int32) &&& 0x3f).toInt64)), .second, .val (.long (q1 - (((((q1.toUInt64 >>> ((1 : Int32) &&& 0x3f).toInt64.toUInt64).toInt64) / q2) <<< ((1 : Int32) &&& 0x3f).toInt64) * q2))), .second]) rfl ?_
    show Steps p.tables e below (s₁.setTop (mkF m 23 #[.val (.long q1), .second, .val (.long q2), .second, .val (.long ((((q1.toUInt64 >>> ((1 : Int32) &&& 0x3f).toInt64.toUInt64).toInt64) / q2) <<< ((1 : Int32) &&& 0x3f).toInt64)), .second, .val (.long (q1 - (((((q1.toUInt64 >>> ((1 : Int32) &&& 0x3f).toInt64.toUInt64).toInt64) / q2) <<< ((1 : Int32) &&& 0x3f).toInt64) * q2))), .second] [])) _
    refine XS.lload X0.here hx rfl (hb hby d3_23) rfl ?_
    show Steps p.tables e below (s₁.setTop (mkF m 25 #[.val (.long q1), .second, .val (.long q2), .second, .val (.long ((((q1.toUInt64 >>> ((1 : Int32) &&& 0x3f).toInt64.toUInt64).toInt64) / q2) <<< ((1 : Int32) &&& 0x3f).toInt64)), .second, .val (.long (q1 - (((((q1.toUInt64 >>> ((1 : Int32) &&& 0x3f).toInt64.toUInt64).toInt64) / q2) <<< ((1 : Int32) &&& 0x3f).toInt64) * q2))), .second] [(.long ((((q1.toUInt64 >>> ((1 : Int32) &&& 0x3f).toInt64.toUInt64).toInt64) / q2) <<< ((1 : Int32) &&& 0x3f).toInt64))])) _
    refine XS.lload X0.here hx rfl (hb hby d3_25) rfl ?_
    show Steps p.tables e below (s₁.setTop (mkF m 27 #[.val (.long q1), .second, .val (.long q2), .second, .val (.long ((((q1.toUInt64 >>> ((1 : Int32) &&& 0x3f).toInt64.toUInt64).toInt64) / q2) <<< ((1 : Int32) &&& 0x3f).toInt64)), .second, .val (.long (q1 - (((((q1.toUInt64 >>> ((1 : Int32) &&& 0x3f).toInt64.toUInt64).toInt64) / q2) <<< ((1 : Int32) &&& 0x3f).toInt64) * q2))), .second] [(.long (q1 - (((((q1.toUInt64 >>> ((1 : Int32) &&& 0x3f).toInt64.toUInt64).toInt64) / q2) <<< ((1 : Int32) &&& 0x3f).toInt64) * q2))), (.long ((((q1.toUInt64 >>> ((1 : Int32) &&& 0x3f).toInt64.toUInt64).toInt64) / q2) <<< ((1 : Int32) &&& 0x3f).toInt64))])) _
    refine XS.lload X0.here hx rfl (hb hby d3_27) rfl ?_
    show Steps p.tables e below (s₁.setTop (mkF m 29 #[.val (.long q1), .second, .val (.long q2), .second, .val (.long ((((q1.toUInt64 >>> ((1 : Int32) &&& 0x3f).toInt64.toUInt64).toInt64) / q2) <<< ((1 : Int32) &&& 0x3f).toInt64)), .second, .val (.long (q1 - (((((q1.toUInt64 >>> ((1 : Int32) &&& 0x3f).toInt64.toUInt64).toInt64) / q2) <<< ((1 : Int32) &&& 0x3f).toInt64) * q2))), .second] [(.long (q1 - (((((q1.toUInt64 >>> ((1 : Int32) &&& 0x3f).toInt64.toUInt64).toInt64) / q2) <<< ((1 : Int32) &&& 0x3f).toInt64) * q2))), (.long (q1 - (((((q1.toUInt64 >>> ((1 : Int32) &&& 0x3f).toInt64.toUInt64).toInt64) / q2) <<< ((1 : Int32) &&& 0x3f).toInt64) * q2))), (.long ((((q1.toUInt64 >>> ((1 : Int32) &&& 0x3f).toInt64.toUInt64).toInt64) / q2) <<< ((1 : Int32) &&& 0x3f).toInt64))])) _
    refine XS.lloadN X0.here hx rfl (hb hby d3_29) rfl ?_
    show Steps p.tables e below (s₁.setTop (mkF m 30 #[.val (.long q1), .second, .val (.long q2), .second, .val (.long ((((q1.toUInt64 >>> ((1 : Int32) &&& 0x3f).toInt64.toUInt64).toInt64) / q2) <<< ((1 : Int32) &&& 0x3f).toInt64)), .second, .val (.long (q1 - (((((q1.toUInt64 >>> ((1 : Int32) &&& 0x3f).toInt64.toUInt64).toInt64) / q2) <<< ((1 : Int32) &&& 0x3f).toInt64) * q2))), .second] [(.long q2), (.long (q1 - (((((q1.toUInt64 >>> ((1 : Int32) &&& 0x3f).toInt64.toUInt64).toInt64) / q2) <<< ((1 : Int32) &&& 0x3f).toInt64) * q2))), (.long (q1 - (((((q1.toUInt64 >>> ((1 : Int32) &&& 0x3f).toInt64.toUInt64).toInt64) / q2) <<< ((1 : Int32) &&& 0x3f).toInt64) * q2))), (.long ((((q1.toUInt64 >>> ((1 : Int32) &&& 0x3f).toInt64.toUInt64).toInt64) / q2) <<< ((1 : Int32) &&& 0x3f).toInt64))])) _
    refine XS.lsub X0.here hx rfl (hb hby d3_30) rfl ?_
    show Steps p.tables e below (s₁.setTop (mkF m 31 #[.val (.long q1), .second, .val (.long q2), .second, .val (.long ((((q1.toUInt64 >>> ((1 : Int32) &&& 0x3f).toInt64.toUInt64).toInt64) / q2) <<< ((1 : Int32) &&& 0x3f).toInt64)), .second, .val (.long (q1 - (((((q1.toUInt64 >>> ((1 : Int32) &&& 0x3f).toInt64.toUInt64).toInt64) / q2) <<< ((1 : Int32) &&& 0x3f).toInt64) * q2))), .second] [(.long ((q1 - (((((q1.toUInt64 >>> ((1 : Int32) &&& 0x3f).toInt64.toUInt64).toInt64) / q2) <<< ((1 : Int32) &&& 0x3f).toInt64) * q2)) - q2)), (.long (q1 - (((((q1.toUInt64 >>> ((1 : Int32) &&& 0x3f).toInt64.toUInt64).toInt64) / q2) <<< ((1 : Int32) &&& 0x3f).toInt64) * q2))), (.long ((((q1.toUInt64 >>> ((1 : Int32) &&& 0x3f).toInt64.toUInt64).toInt64) / q2) <<< ((1 : Int32) &&& 0x3f).toInt64))])) _
    refine X0.ldc2Long hx hown (mvT hZ (hw _ (List.mem_of_getElem? (i := 17) rfl))) (g := (mkF m 31 #[.val (.long q1), .second, .val (.long q2), .second, .val (.long ((((q1.toUInt64 >>> ((1 : Int32) &&& 0x3f).toInt64.toUInt64).toInt64) / q2) <<< ((1 : Int32) &&& 0x3f).toInt64)), .second, .val (.long (q1 - (((((q1.toUInt64 >>> ((1 : Int32) &&& 0x3f).toInt64.toUInt64).toInt64) / q2) <<< ((1 : Int32) &&& 0x3f).toInt64) * q2))), .second] [(.long ((q1 - (((((q1.toUInt64 >>> ((1 : Int32) &&& 0x3f).toInt64.toUInt64).toInt64) / q2) <<< ((1 : Int32) &&& 0x3f).toInt64) * q2)) - q2)), (.long (q1 - (((((q1.toUInt64 >>> ((1 : Int32) &&& 0x3f).toInt64.toUInt64).toInt64) / q2) <<< ((1 : Int32) &&& 0x3f).toInt64) * q2))), (.long ((((q1.toUInt64 >>> ((1 : Int32) &&& 0x3f).toInt64.toUInt64).toInt64) / q2) <<< ((1 : Int32) &&& 0x3f).toInt64))])) rfl (hb hby d3_31) _ ?_
    show Steps p.tables e below (s₁.setTop (mkF m 34 #[.val (.long q1), .second, .val (.long q2), .second, .val (.long ((((q1.toUInt64 >>> ((1 : Int32) &&& 0x3f).toInt64.toUInt64).toInt64) / q2) <<< ((1 : Int32) &&& 0x3f).toInt64)), .second, .val (.long (q1 - (((((q1.toUInt64 >>> ((1 : Int32) &&& 0x3f).toInt64.toUInt64).toInt64) / q2) <<< ((1 : Int32) &&& 0x3f).toInt64) * q2))), .second] [(.long (-1 : Int64)), (.long ((q1 - (((((q1.toUInt64 >>> ((1 : Int32) &&& 0x3f).toInt64.toUInt64).toInt64) / q2) <<< ((1 : Int32) &&& 0x3f).toInt64) * q2)) - q2)), (.long (q1 - (((((q1.toUInt64 >>> ((1 : Int32) &&& 0x3f).toInt64.toUInt64).toInt64) / q2) <<< ((1 : Int32) &&& 0x3f).toInt64) * q2))), (.long ((((q1.toUInt64 >>> ((1 : Int32) &&& 0x3f).toInt64.toUInt64).toInt64) / q2) <<< ((1 : Int32) &&& 0x3f).toInt64))])) _
    refine XS.lxor X0.here hx rfl (hb hby d3_34) rfl ?_
    show Steps p.tables e below (s₁.setTop (mkF m 35 #[.val (.long q1), .second, .val (.long q2), .second, .val (.long ((((q1.toUInt64 >>> ((1 : Int32) &&& 0x3f).toInt64.toUInt64).toInt64) / q2) <<< ((1 : Int32) &&& 0x3f).toInt64)), .second, .val (.long (q1 - (((((q1.toUInt64 >>> ((1 : Int32) &&& 0x3f).toInt64.toUInt64).toInt64) / q2) <<< ((1 : Int32) &&& 0x3f).toInt64) * q2))), .second] [(.long (((q1 - (((((q1.toUInt64 >>> ((1 : Int32) &&& 0x3f).toInt64.toUInt64).toInt64) / q2) <<< ((1 : Int32) &&& 0x3f).toInt64) * q2)) - q2) ^^^ (-1 : Int64))), (.long (q1 - (((((q1.toUInt64 >>> ((1 : Int32) &&& 0x3f).toInt64.toUInt64).toInt64) / q2) <<< ((1 : Int32) &&& 0x3f).toInt64) * q2))), (.long ((((q1.toUInt64 >>> ((1 : Int32) &&& 0x3f).toInt64.toUInt64).toInt64) / q2) <<< ((1 : Int32) &&& 0x3f).toInt64))])) _
    refine XS.lor X0.here hx rfl (hb hby d3_35) rfl ?_
    show Steps p.tables e below (s₁.setTop (mkF m 36 #[.val (.long q1), .second, .val (.long q2), .second, .val (.long ((((q1.toUInt64 >>> ((1 : Int32) &&& 0x3f).toInt64.toUInt64).toInt64) / q2) <<< ((1 : Int32) &&& 0x3f).toInt64)), .second, .val (.long (q1 - (((((q1.toUInt64 >>> ((1 : Int32) &&& 0x3f).toInt64.toUInt64).toInt64) / q2) <<< ((1 : Int32) &&& 0x3f).toInt64) * q2))), .second] [(.long ((q1 - (((((q1.toUInt64 >>> ((1 : Int32) &&& 0x3f).toInt64.toUInt64).toInt64) / q2) <<< ((1 : Int32) &&& 0x3f).toInt64) * q2)) ||| (((q1 - (((((q1.toUInt64 >>> ((1 : Int32) &&& 0x3f).toInt64.toUInt64).toInt64) / q2) <<< ((1 : Int32) &&& 0x3f).toInt64) * q2)) - q2) ^^^ (-1 : Int64)))), (.long ((((q1.toUInt64 >>> ((1 : Int32) &&& 0x3f).toInt64.toUInt64).toInt64) / q2) <<< ((1 : Int32) &&& 0x3f).toInt64))])) _
    refine XS.bipush X0.here hx rfl (hb hby d3_36) ?_
    show Steps p.tables e below (s₁.setTop (mkF m 38 #[.val (.long q1), .second, .val (.long q2), .second, .val (.long ((((q1.toUInt64 >>> ((1 : Int32) &&& 0x3f).toInt64.toUInt64).toInt64) / q2) <<< ((1 : Int32) &&& 0x3f).toInt64)), .second, .val (.long (q1 - (((((q1.toUInt64 >>> ((1 : Int32) &&& 0x3f).toInt64.toUInt64).toInt64) / q2) <<< ((1 : Int32) &&& 0x3f).toInt64) * q2))), .second] [(.int (63 : Int32)), (.long ((q1 - (((((q1.toUInt64 >>> ((1 : Int32) &&& 0x3f).toInt64.toUInt64).toInt64) / q2) <<< ((1 : Int32) &&& 0x3f).toInt64) * q2)) ||| (((q1 - (((((q1.toUInt64 >>> ((1 : Int32) &&& 0x3f).toInt64.toUInt64).toInt64) / q2) <<< ((1 : Int32) &&& 0x3f).toInt64) * q2)) - q2) ^^^ (-1 : Int64)))), (.long ((((q1.toUInt64 >>> ((1 : Int32) &&& 0x3f).toInt64.toUInt64).toInt64) / q2) <<< ((1 : Int32) &&& 0x3f).toInt64))])) _
    refine XS.lushr X0.here hx rfl (hb hby d3_38) rfl ?_
    show Steps p.tables e below (s₁.setTop (mkF m 39 #[.val (.long q1), .second, .val (.long q2), .second, .val (.long ((((q1.toUInt64 >>> ((1 : Int32) &&& 0x3f).toInt64.toUInt64).toInt64) / q2) <<< ((1 : Int32) &&& 0x3f).toInt64)), .second, .val (.long (q1 - (((((q1.toUInt64 >>> ((1 : Int32) &&& 0x3f).toInt64.toUInt64).toInt64) / q2) <<< ((1 : Int32) &&& 0x3f).toInt64) * q2))), .second] [(.long ((((q1 - (((((q1.toUInt64 >>> ((1 : Int32) &&& 0x3f).toInt64.toUInt64).toInt64) / q2) <<< ((1 : Int32) &&& 0x3f).toInt64) * q2)) ||| (((q1 - (((((q1.toUInt64 >>> ((1 : Int32) &&& 0x3f).toInt64.toUInt64).toInt64) / q2) <<< ((1 : Int32) &&& 0x3f).toInt64) * q2)) - q2) ^^^ (-1 : Int64))).toUInt64 >>> ((63 : Int32) &&& 0x3f).toInt64.toUInt64).toInt64)), (.long ((((q1.toUInt64 >>> ((1 : Int32) &&& 0x3f).toInt64.toUInt64).toInt64) / q2) <<< ((1 : Int32) &&& 0x3f).toInt64))])) _
    refine XS.ladd X0.here hx rfl (hb hby d3_39) rfl ?_
    show Steps p.tables e below (s₁.setTop (mkF m 40 #[.val (.long q1), .second, .val (.long q2), .second, .val (.long ((((q1.toUInt64 >>> ((1 : Int32) &&& 0x3f).toInt64.toUInt64).toInt64) / q2) <<< ((1 : Int32) &&& 0x3f).toInt64)), .second, .val (.long (q1 - (((((q1.toUInt64 >>> ((1 : Int32) &&& 0x3f).toInt64.toUInt64).toInt64) / q2) <<< ((1 : Int32) &&& 0x3f).toInt64) * q2))), .second] [(.long (((((q1.toUInt64 >>> ((1 : Int32) &&& 0x3f).toInt64.toUInt64).toInt64) / q2) <<< ((1 : Int32) &&& 0x3f).toInt64) + ((((q1 - (((((q1.toUInt64 >>> ((1 : Int32) &&& 0x3f).toInt64.toUInt64).toInt64) / q2) <<< ((1 : Int32) &&& 0x3f).toInt64) * q2)) ||| (((q1 - (((((q1.toUInt64 >>> ((1 : Int32) &&& 0x3f).toInt64.toUInt64).toInt64) / q2) <<< ((1 : Int32) &&& 0x3f).toInt64) * q2)) - q2) ^^^ (-1 : Int64))).toUInt64 >>> ((63 : Int32) &&& 0x3f).toInt64.toUInt64).toInt64)))])) _
    exact own_retL X0 hx Bd.returns (hb hby d3_40) hr
  · show Q3 Z q1 q2 h0 n0 _ s₁.heap _
    rw [e0]
    exact ⟨rfl, N0, rfl⟩
theorem d4_0 : decode jdk_35_method_45_code 0 = .ok (.lload_n 2, 1) := by decide +kernel
theorem d4_1 : decode jdk_35_method_45_code 1 = .ok (.lconst 0, 1) := by decide +kernel
theorem d4_2 : decode jdk_35_method_45_code 2 = .ok (.lcmp, 1) := by decide +kernel
theorem d4_3 : decode jdk_35_method_45_code 3 = .ok (.ifCond .lt 37, 3) := by decide +kernel
theorem d4_6 : decode jdk_35_method_45_code 6 = .ok (.lload_n 0, 1) := by decide +kernel
theorem d4_7 : decode jdk_35_method_45_code 7 = .ok (.iconst 1, 1) := by decide +kernel
theorem d4_8 : decode jdk_35_method_45_code 8 = .ok (.lushr, 1) := by decide +kernel
theorem d4_9 : decode jdk_35_method_45_code 9 = .ok (.lload_n 2, 1) := by decide +kernel
theorem d4_10 : decode jdk_35_method_45_code 10 = .ok (.ldiv, 1) := by decide +kernel
theorem d4_11 : decode jdk_35_method_45_code 11 = .ok (.iconst 1, 1) := by decide +kernel
theorem d4_12 : decode jdk_35_method_45_code 12 = .ok (.lshl, 1) := by decide +kernel
theorem d4_13 : decode jdk_35_method_45_code 13 = .ok (.lstore 4, 2) := by decide +kernel
theorem d4_15 : decode jdk_35_method_45_code 15 = .ok (.lload_n 0, 1) := by decide +kernel
theorem d4_16 : decode jdk_35_method_45_code 16 = .ok (.lload 4, 2) := by decide +kernel
theorem d4_18 : decode jdk_35_method_45_code 18 = .ok (.lload_n 2, 1) := by decide +kernel
theorem d4_19 : decode jdk_35_method_45_code 19 = .ok (.lmul, 1) := by decide +kernel
theorem d4_20 : decode jdk_35_method_45_code 20 = .ok (.lsub, 1) := by decide +kernel
theorem d4_21 : decode jdk_35_method_45_code 21 = .ok (.lstore 6, 2) := by decide +kernel
theorem d4_23 : decode jdk_35_method_45_code 23 = .ok (.lload 6, 2) := by decide +kernel
theorem d4_25 : decode jdk_35_method_45_code 25 = .ok (.lload 6, 2) := by decide +kernel
theorem d4_27 : decode jdk_35_method_45_code 27 = .ok (.lload_n 2, 1) := by decide +kernel
theorem d4_28 : decode jdk_35_method_45_code 28 = .ok (.lsub, 1) := by decide +kernel
theorem d4_29 : decode jdk_35_method_45_code 29 = .ok (.ldc2_w 306, 3) := by decide +kernel
theorem d4_32 : decode jdk_35_method_45_code 32 = .ok (.lxor, 1) := by decide +kernel
theorem d4_33 : decode jdk_35_method_45_code 33 = .ok (.bipush 63, 2) := by decide +kernel
theorem d4_35 : decode jdk_35_method_45_code 35 = .ok (.lshr, 1) := by decide +kernel
theorem d4_36 : decode jdk_35_method_45_code 36 = .ok (.lload_n 2, 1) := by decide +kernel
theorem d4_37 : decode jdk_35_method_45_code 37 = .ok (.land, 1) := by decide +kernel
theorem d4_38 : decode jdk_35_method_45_code 38 = .ok (.lsub, 1) := by decide +kernel
theorem d4_39 : decode jdk_35_method_45_code 39 = .ok (.lreturn, 1) := by decide +kernel
theorem pn_4 : plainName "java/lang/Long" = true := by first | (simp [plainName, overriddenIn]; done) | decide +kernel
theorem ef_4 (m : MethodId) (x0 : Int64) (x1 : Int64) : entryFrame m #[(.long x0), (.long x1)] 8 = mkF m 0 #[.val (.long x0), .second, .val (.long x1), .second, .unset, .unset, .unset, .unset] [] := by first | (simp [entryFrame, mkF, argsToLocals, Value.category]; done) | rfl
def Q4 (Z : State) (q1 : Int64) (q2 : Int64) (h0 : Heap) (n0 : Nat) (v : Option Value) (h : Heap) (L : List Loc) : Prop := v = some (.long (own_remU q1 q2)) ∧ Fr n0 L ∧ h = h0
set_option maxRecDepth 65536 in
set_option maxHeartbeats 40000000 in
theorem rm4 (l : Launch) (Z : State) (a0 : Array Value) (hw : ∀ d ∈ tables_1, d.before a0 Z = true) (ws : List Jvm.Cond) (q1 : Int64) (q2 : Int64) (h0 : Heap) (n0 : Nat) (Z0 : n0 ≤ h0.size) (hc3 : ¬ ((lcmpW q2 (0 : Int64)) < (0 : Int32))) (hnz10 : ¬ (q2 = (0 : Int64))) :
    MetFree l (⟨"java/lang/Long", "remainderUnsigned", "(JJ)J"⟩ : MethodName) (head1 (Jvm.Cond.code (⟨"java/lang/Long", "remainderUnsigned", "(JJ)J"⟩ : MethodName) jdk_35_method_45_code 8 (some .long) :: ws) ({ frames := 0, cells := 0, slots := 0, locals := 0 } : Room)) (fun a U => a = #[(.long q1), (.long q2)] ∧ Z.Warmed39 U.vm ∧ U.heap = h0) (fun _ _ _ _ _ => True) (fun _ U o U' => ∃ v L, o = .returned v ∧ Q4 Z q1 q2 h0 n0 v U'.heap L ∧ FrameEnd U o U' L ({ frames := 0, cells := 0, slots := 0, locals := 0 } : Room).cells ({ frames := 0, cells := 0, slots := 0, locals := 0 } : Room).slots) := by
  refine MetFree.of_bodySF (plainFor_of_name pn_4) hisR ?_
  intro p e s m args below meth c s₁ Bd hml0 hP hK
  obtain ⟨rfl, hZ, hh⟩ := hP
  have hx := Bd.exec
  have hby := Bd.bytes
  have hml : c.maxLocals = 8 := hml0
  have hown : s.vm.findClass "java/lang/Long" = some m.cls := findClass_of_methodNamed Bd.named
  have hnm := (name_of_methodNamed Bd.named Bd.method).1
  have X0 : Stand p l e ({ frames := 0, cells := 0, slots := 0, locals := 0 } : Room) s m #[(.long q1), (.long q2)] below meth c s₁ [] 0 0 := Stand.of_body Bd
  have e0 : s₁.heap = h0 := by rw [← hh, Bd.state]; rfl
  have N0 := Fr.nil n0
  have pre0 : ∀ t, Steps p.tables e below (s₁.setTop (mkF m 0 #[.val (.long q1), .second, .val (.long q2), .second, .unset, .unset, .unset, .unset] [])) t → Steps p.tables e below (s₁.setTop (entryFrame m #[(.long q1), (.long q2)] 8)) t := fun t k => castTop (ef_4 m q1 q2) k
  -- 3. LAWS

  obtain ⟨fs, hr, hrun, hended, hW, hsame⟩ := X0.leave (v := some (.long ((q1 - (((((q1.toUInt64 >>> ((1 : Int32) &&& 0x3f).toInt64.toUInt64).toInt64) / q2) <<< ((1 : Int32) &&& 0x3f).toInt64) * q2)) - (((((q1 - (((((q1.toUInt64 >>> ((1 : Int32) &&& 0x3f).toInt64.toUInt64).toInt64) / q2) <<< ((1 : Int32) &&& 0x3f).toInt64) * q2)) - q2) ^^^ (-1 : Int64)) >>> ((63 : Int32) &&& 0x3f).toInt64) &&& q2)))) (fun h => by rw [Bd.returns] at h; cases h)
  refine ⟨_, _, pre0 _ ?_, hrun, hended, _, _, rfl, ?_, ⟨_, rfl⟩, hW, hsame.mono (by decide) (by decide)⟩
  -- 4. STEPS
  · show Steps p.tables e below (s₁.setTop (mkF m 0 #[.val (.long q1), .second, .val (.long q2), .second, .unset, .unset, .unset, .unset] [])) _
    refine XS.lloadN X0.here hx rfl (hb hby d4_0) rfl ?_
    show Steps p.tables e below (s₁.setTop (mkF m 1 #[.val (.long q1), .second, .val (.long q2), .second, .unset, .unset, .unset, .unset] [(.long q2)])) _
    refine XS.lconst X0.here hx rfl (hb hby d4_1) ?_
    show Steps p.tables e below (s₁.setTop (mkF m 2 #[.val (.long q1), .second, .val (.long q2), .second, .unset, .unset, .unset, .unset] [(.long (0 : Int64)), (.long q2)])) _
    refine XS.lcmp X0.here hx rfl (hb hby d4_2) rfl ?_
    show Steps p.tables e below (s₁.setTop (mkF m 3 #[.val (.long q1), .second, .val (.long q2), .second, .unset, .unset, .unset, .unset] [(.int (lcmpW q2 (0 : Int64)))])) _
    refine XS.ifNo X0.here hx rfl (hb hby d4_3) rfl ((if0 _ _).trans (flt hc3).1) ?_
    show Steps p.tables e below (s₁.setTop (mkF m 6 #[.val (.long q1), .second, .val (.long q2), .second, .unset, .unset, .unset, .unset] [])) _
    refine XS.lloadN X0.here hx rfl (hb hby d4_6) rfl ?_
    show Steps p.tables e below (s₁.setTop (mkF m 7 #[.val (.long q1), .second, .val (.long q2), .second, .unset, .unset, .unset, .unset] [(.long q1)])) _
    refine XS.iconst X0.here hx rfl (hb hby d4_7) ?_
    show Steps p.tables e below (s₁.setTop (mkF m 8 #[.val (.long q1), .second, .val (.long q2), .second, .unset, .unset, .unset, .unset] [(.int (1 : Int32)), (.long q1)])) _
    refine XS.lushr X0.here hx rfl (hb hby d4_8) rfl ?_
    show Steps p.tables e below (s₁.setTop (mkF m 9 #[.val (.long q1), .second, .val (.long q2), .second, .unset, .unset, .unset, .unset] [(.long ((q1.toUInt64 >>> ((1 : Int32) &&& 0x3f).toInt64.toUInt64).toInt64))])) _
    refine XS.lloadN X0.here hx rfl (hb hby d4_9) rfl ?_
    show Steps p.tables e below (s₁.setTop (mkF m 10 #[.val (.long q1), .second, .val (.long q2), .second, .unset, .unset, .unset, .unset] [(.long q2), (.long ((q1.toUInt64 >>> ((1 : Int32) &&& 0x3f).toInt64.toUInt64).toInt64))])) _
    refine XS.ldiv X0.here hx rfl (hb hby d4_10) rfl hnz10 ?_
    show Steps p.tables e below (s₁.setTop (mkF m 11 #[.val (.long q1), .second, .val (.long q2), .second, .unset, .unset, .unset, .unset] [(.long (((q1.toUInt64 >>> ((1 : Int32) &&& 0x3f).toInt64.toUInt64).toInt64) / q2))])) _
    refine XS.iconst X0.here hx rfl (hb hby d4_11) ?_
    show Steps p.tables e below (s₁.setTop (mkF m 12 #[.val (.long q1), .second, .val (.long q2), .second, .unset, .unset, .unset, .unset] [(.int (1 : Int32)), (.long (((q1.toUInt64 >>> ((1 : Int32) &&& 0x3f).toInt64.toUInt64).toInt64) / q2))])) _
    refine XS.lshl X0.here hx rfl (hb hby d4_12) rfl ?_
    show Steps p.tables e below (s₁.setTop (mkF m 13 #[.val (.long q1), .second, .val (.long q2), .second, .unset, .unset, .unset, .unset] [(.long ((((q1.toUInt64 >>> ((1 : Int32) &&& 0x3f).toInt64.toUInt64).toInt64) / q2) <<< ((1 : Int32) &&& 0x3f).toInt64))])) _
    refine XS.lstore X0.here hx rfl (hb hby d4_13) rfl (l' := #[.val (.long q1), .second, .val (.long q2), .second, .val (.long ((((q1.toUInt64 >>> ((1 : Int32) &&& 0x3f).toInt64.toUInt64).toInt64) / q2) <<< ((1 : Int32) &&& 0x3f).toInt64)), .second, .unset, .unset]) rfl ?_
    show Steps p.tables e below (s₁.setTop (mkF m 15 #[.val (.long q1), .second, .val (.long q2), .second, .val (.long ((((q1.toUInt64 >>> ((1 : Int32) &&& 0x3f).toInt64.toUInt64).toInt64) / q2) <<< ((1 : Int32) &&& 0x3f).toInt64)), .second, .unset, .unset] [])) _
    refine XS.lloadN X0.here hx rfl (hb hby d4_15) rfl ?_
    show Steps p.tables e below (s₁.setTop (mkF m 16 #[.val (.long q1), .second, .val (.long q2), .second, .val (.long ((((q1.toUInt64 >>> ((1 : Int32) &&& 0x3f).toInt64.toUInt64).toInt64) / q2) <<< ((1 : Int32) &&& 0x3f).toInt64)), .second, .unset, .unset] [(.long q1)])) _
    refine XS.lload X0.here hx rfl (hb hby d4_16) rfl ?_
    show Steps p.tables e below (s₁.setTop (mkF m 18 #[.val (.long q1), .second, .val (.long q2), .second, .val (.long ((((q1.toUInt64 >>> ((1 : Int32) &&& 0x3f).toInt64.toUInt64).toInt64) / q2) <<< ((1 : Int32) &&& 0x3f).toInt64)), .second, .unset, .unset] [(.long ((((q1.toUInt64 >>> ((1 : Int32) &&& 0x3f).toInt64.toUInt64).toInt64) / q2) <<< ((1 : Int32) &&& 0x3f).toInt64)), (.long q1)])) _
    refine XS.lloadN X0.here hx rfl (hb hby d4_18) rfl ?_
    show Steps p.tables e below (s₁.setTop (mkF m 19 #[.val (.long q1), .second, .val (.long q2), .second, .val (.long ((((q1.toUInt64 >>> ((1 : Int32) &&& 0x3f).toInt64.toUInt64).toInt64) / q2) <<< ((1 : Int32) &&& 0x3f).toInt64)), .second, .unset, .unset] [(.long q2), (.long ((((q1.toUInt64 >>> ((1 : Int32) &&& 0x3f).toInt64.toUInt64).toInt64) / q2) <<< ((1 : Int32) &&& 0x3f).toInt64)), (.long q1)])) _
    refine XS.lmul X0.here hx rfl (hb hby d4_19) rfl ?_
    show Steps p.tables e below (s₁.setTop (mkF m 20 #[.val (.long q1), .second, .val (.long q2), .second, .val (.long ((((q1.toUInt64 >>> ((1 : Int32) &&& 0x3f).toInt64.toUInt64).toInt64) / q2) <<< ((1 : Int32) &&& 0x3f).toInt64)), .second, .unset, .unset] [(.long (((((q1.toUInt64 >>> ((1 : Int32) &&& 0x3f).toInt64.toUInt64).toInt64) / q2) <<< ((1 : Int32) &&& 0x3f).toInt64) * q2)), (.long q1)])) _
    refine XS.lsub X0.here hx rfl (hb hby d4_20) rfl ?_
    show Steps p.tables e below (s₁.setTop (mkF m 21 #[.val (.long q1), .second, .val (.long q2), .second, .val (.long ((((q1.toUInt64 >>> ((1 : Int32) &&& 0x3f).toInt64.toUInt64).toInt64) / q2) <<< ((1 : Int32) &&& 0x3f).toInt64)), .second, .unset, .unset] [(.long (q1 - (((((q1.toUInt64 >>> ((1 : Int32) &&& 0x3f).toInt64.toUInt64).toInt64) / q2) <<< ((1 : Int32) &&& 0x3f).toInt64) * q2)))])) _
    refine XS.lstore X0.here hx rfl (hb hby d4_21) rfl (l' := #[.val (.long q1), .second, .val (.long q2), .second, .val (.long ((((q1.toUInt64 >>> ((1 : Int32) &&& 0x3f).toInt64.toUInt64).toInt64) / q2) <<< ((1 : Int32) &&& 0x3f).toInt64)), .second, .val (.long (q1 - (((((q1.toUInt64 >>> ((1 : Int32) &&& 0x3f).toInt64.toUInt64).toInt64) / q2) <<< ((1 : Int32) &&& 0x3f).toInt64) * q2))), .second]) rfl ?_
    show Steps p.tables e below (s₁.setTop (mkF m 23 #[.val (.long q1), .second, .val (.long q2), .second, .val (.long ((((q1.toUInt64 >>> ((1 : Int32) &&& 0x3f).toInt64.toUInt64).toInt64) / q2) <<< ((1 : Int32) &&& 0x3f).toInt64)), .second, .val (.long (q1 - (((((q1.toUInt64 >>> ((1 : Int32) &&& 0x3f).toInt64.toUInt64).toInt64) / q2) <<< ((1 : Int32) &&& 0x3f).toInt64) * q2))), .second] [])) _
    refine XS.lload X0.here hx rfl (hb hby d4_23) rfl ?_
    show Steps p.tables e below (s₁.setTop (mkF m 25 #[.val (.long q1), .second, .val (.long q2), .second, .val (.long ((((q1.toUInt64 >>> ((1 : Int32) &&& 0x3f).toInt64.toUInt64).toInt64) / q2) <<< ((1 : Int32) &&& 0x3f).toInt64)), .second, .val (.long (q1 - (((((q1.toUInt64 >>> ((1 : Int32) &&& 0x3f).toInt64.toUInt64).toInt64) / q2) <<< ((1 : Int32) &&& 0x3f).toInt64) * q2))), .second] [(.long (q1 - (((((q1.toUInt64 >>> ((1 : Int32) &&& 0x3f).toInt64.toUInt64).toInt64) / q2) <<< ((1 : Int32) &&& 0x3f).toInt64) * q2)))])) _
    refine XS.lload X0.here hx rfl (hb hby d4_25) rfl ?_
    show Steps p.tables e below (s₁.setTop (mkF m 27 #[.val (.long q1), .second, .val (.long q2), .second, .val (.long ((((q1.toUInt64 >>> ((1 : Int32) &&& 0x3f).toInt64.toUInt64).toInt64) / q2) <<< ((1 : Int32) &&& 0x3f).toInt64)), .second, .val (.long (q1 - (((((q1.toUInt64 >>> ((1 : Int32) &&& 0x3f).toInt64.toUInt64).toInt64) / q2) <<< ((1 : Int32) &&& 0x3f).toInt64) * q2))), .second] [(.long (q1 - (((((q1.toUInt64 >>> ((1 : Int32) &&& 0x3f).toInt64.toUInt64).toInt64) / q2) <<< ((1 : Int32) &&& 0x3f).toInt64) * q2))), (.long (q1 - (((((q1.toUInt64 >>> ((1 : Int32) &&& 0x3f).toInt64.toUInt64).toInt64) / q2) <<< ((1 : Int32) &&& 0x3f).toInt64) * q2)))])) _
    refine XS.lloadN X0.here hx rfl (hb hby d4_27) rfl ?_
    show Steps p.tables e below (s₁.setTop (mkF m 28 #[.val (.long q1), .second, .val (.long q2), .second, .val (.long ((((q1.toUInt64 >>> ((1 : Int32) &&& 0x3f).toInt64.toUInt64).toInt64) / q2) <<< ((1 : Int32) &&& 0x3f).toInt64)), .second, .val (.long (q1 - (((((q1.toUInt64 >>> ((1 : Int32) &&& 0x3f).toInt64.toUInt64).toInt64) / q2) <<< ((1 : Int32) &&& 0x3f).toInt64) * q2))), .second] [(.long q2), (.long (q1 - (((((q1.toUInt64 >>> ((1 : Int32) &&& 0x3f).toInt64.toUInt64).toInt64) / q2) <<< ((1 : Int32) &&& 0x3f).toInt64) * q2))), (.long (q1 - (((((q1.toUInt64 >>> ((1 : Int32) &&& 0x3f).toInt64.toUInt64).toInt64) / q2) <<< ((1 : Int32) &&& 0x3f).toInt64) * q2)))])) _
    refine XS.lsub X0.here hx rfl (hb hby d4_28) rfl ?_
    show Steps p.tables e below (s₁.setTop (mkF m 29 #[.val (.long q1), .second, .val (.long q2), .second, .val (.long ((((q1.toUInt64 >>> ((1 : Int32) &&& 0x3f).toInt64.toUInt64).toInt64) / q2) <<< ((1 : Int32) &&& 0x3f).toInt64)), .second, .val (.long (q1 - (((((q1.toUInt64 >>> ((1 : Int32) &&& 0x3f).toInt64.toUInt64).toInt64) / q2) <<< ((1 : Int32) &&& 0x3f).toInt64) * q2))), .second] [(.long ((q1 - (((((q1.toUInt64 >>> ((1 : Int32) &&& 0x3f).toInt64.toUInt64).toInt64) / q2) <<< ((1 : Int32) &&& 0x3f).toInt64) * q2)) - q2)), (.long (q1 - (((((q1.toUInt64 >>> ((1 : Int32) &&& 0x3f).toInt64.toUInt64).toInt64) / q2) <<< ((1 : Int32) &&& 0x3f).toInt64) * q2)))])) _
    refine X0.ldc2Long hx hown (mvT hZ (hw _ (List.mem_of_getElem? (i := 17) rfl))) (g := (mkF m 29 #[.val (.long q1), .second, .val (.long q2), .second, .val (.long ((((q1.toUInt64 >>> ((1 : Int32) &&& 0x3f).toInt64.toUInt64).toInt64) / q2) <<< ((1 : Int32) &&& 0x3f).toInt64)), .second, .val (.long (q1 - (((((q1.toUInt64 >>> ((1 : Int32) &&& 0x3f).toInt64.toUInt64).toInt64) / q2) <<< ((1 : Int32) &&& 0x3f).toInt64) * q2))), .second] [(.long ((q1 - (((((q1.toUInt64 >>> ((1 : Int32) &&& 0x3f).toInt64.toUInt64).toInt64) / q2) <<< ((1 : Int32) &&& 0x3f).toInt64) * q2)) - q2)), (.long (q1 - (((((q1.toUInt64 >>> ((1 : Int32) &&& 0x3f).toInt64.toUInt64).toInt64) / q2) <<< ((1 : Int32) &&& 0x3f).toInt64) * q2)))])) rfl (hb hby d4_29) _ ?_
    show Steps p.tables e below (s₁.setTop (mkF m 32 #[.val (.long q1), .second, .val (.long q2), .second, .val (.long ((((q1.toUInt64 >>> ((1 : Int32) &&& 0x3f).toInt64.toUInt64).toInt64) / q2) <<< ((1 : Int32) &&& 0x3f).toInt64)), .second, .val (.long (q1 - (((((q1.toUInt64 >>> ((1 : Int32) &&& 0x3f).toInt64.toUInt64).toInt64) / q2) <<< ((1 : Int32) &&& 0x3f).toInt64) * q2))), .second] [(.long (-1 : Int64)), (.long ((q1 - (((((q1.toUInt64 >>> ((1 : Int32) &&& 0x3f).toInt64.toUInt64).toInt64) / q2) <<< ((1 : Int32) &&& 0x3f).toInt64) * q2)) - q2)), (.long (q1 - (((((q1.toUInt64 >>> ((1 : Int32) &&& 0x3f).toInt64.toUInt64).toInt64) / q2) <<< ((1 : Int32) &&& 0x3f).toInt64) * q2)))])) _
    refine XS.lxor X0.here hx rfl (hb hby d4_32) rfl ?_
    show Steps p.tables e below (s₁.setTop (mkF m 33 #[.val (.long q1), .second, .val (.long q2), .second, .val (.long ((((q1.toUInt64 >>> ((1 : Int32) &&& 0x3f).toInt64.toUInt64).toInt64) / q2) <<< ((1 : Int32) &&& 0x3f).toInt64)), .second, .val (.long (q1 - (((((q1.toUInt64 >>> ((1 : Int32) &&& 0x3f).toInt64.toUInt64).toInt64) / q2) <<< ((1 : Int32) &&& 0x3f).toInt64) * q2))), .second] [(.long (((q1 - (((((q1.toUInt64 >>> ((1 : Int32) &&& 0x3f).toInt64.toUInt64).toInt64) / q2) <<< ((1 : Int32) &&& 0x3f).toInt64) * q2)) - q2) ^^^ (-1 : Int64))), (.long (q1 - (((((q1.toUInt64 >>> ((1 : Int32) &&& 0x3f).toInt64.toUInt64).toInt64) / q2) <<< ((1 : Int32) &&& 0x3f).toInt64) * q2)))])) _
    refine XS.bipush X0.here hx rfl (hb hby d4_33) ?_
    show Steps p.tables e below (s₁.setTop (mkF m 35 #[.val (.long q1), .second, .val (.long q2), .second, .val (.long ((((q1.toUInt64 >>> ((1 : Int32) &&& 0x3f).toInt64.toUInt64).toInt64) / q2) <<< ((1 : Int32) &&& 0x3f).toInt64)), .second, .val (.long (q1 - (((((q1.toUInt64 >>> ((1 : Int32) &&& 0x3f).toInt64.toUInt64).toInt64) / q2) <<< ((1 : Int32) &&& 0x3f).toInt64) * q2))), .second] [(.int (63 : Int32)), (.long (((q1 - (((((q1.toUInt64 >>> ((1 : Int32) &&& 0x3f).toInt64.toUInt64).toInt64) / q2) <<< ((1 : Int32) &&& 0x3f).toInt64) * q2)) - q2) ^^^ (-1 : Int64))), (.long (q1 - (((((q1.toUInt64 >>> ((1 : Int32) &&& 0x3f).toInt64.toUInt64).toInt64) / q2) <<< ((1 : Int32) &&& 0x3f).toInt64) * q2)))])) _
    refine XS.lshr X0.here hx rfl (hb hby d4_35) rfl ?_
    show Steps p.tables e below (s₁.setTop (mkF m 36 #[.val (.long q1), .second, .val (.long q2), .second, .val (.long ((((q1.toUInt64 >>> ((1 : Int32) &&& 0x3f).toInt64.toUInt64).toInt64) / q2) <<< ((1 : Int32) &&& 0x3f).toInt64)), .second, .val (.long (q1 - (((((q1.toUInt64 >>> ((1 : Int32) &&& 0x3f).toInt64.toUInt64).toInt64) / q2) <<< ((1 : Int32) &&& 0x3f).toInt64) * q2))), .second] [(.long ((((q1 - (((((q1.toUInt64 >>> ((1 : Int32) &&& 0x3f).toInt64.toUInt64).toInt64) / q2) <<< ((1 : Int32) &&& 0x3f).toInt64) * q2)) - q2) ^^^ (-1 : Int64)) >>> ((63 : Int32) &&& 0x3f).toInt64)), (.long (q1 - (((((q1.toUInt64 >>> ((1 : Int32) &&& 0x3f).toInt64.toUInt64).toInt64) / q2) <<< ((1 : Int32) &&& 0x3f).toInt64) * q2)))])) _
    refine XS.lloadN X0.here hx rfl (hb hby d4_36) rfl ?_
    show Steps p.tables e below (s₁.setTop (mkF m 37 #[.val (.long q1), .second, .val (.long q2), .second, .val (.long ((((q1.toUInt64 >>> ((1 : Int32) &&& 0x3f).toInt64.toUInt64).toInt64) / q2) <<< ((1 : Int32) &&& 0x3f).toInt64)), .second, .val (.long (q1 - (((((q1.toUInt64 >>> ((1 : Int32) &&& 0x3f).toInt64.toUInt64).toInt64) / q2) <<< ((1 : Int32) &&& 0x3f).toInt64) * q2))), .second] [(.long q2), (.long ((((q1 - (((((q1.toUInt64 >>> ((1 : Int32) &&& 0x3f).toInt64.toUInt64).toInt64) / q2) <<< ((1 : Int32) &&& 0x3f).toInt64) * q2)) - q2) ^^^ (-1 : Int64)) >>> ((63 : Int32) &&& 0x3f).toInt64)), (.long (q1 - (((((q1.toUInt64 >>> ((1 : Int32) &&& 0x3f).toInt64.toUInt64).toInt64) / q2) <<< ((1 : Int32) &&& 0x3f).toInt64) * q2)))])) _
    refine XS.land X0.here hx rfl (hb hby d4_37) rfl ?_
    show Steps p.tables e below (s₁.setTop (mkF m 38 #[.val (.long q1), .second, .val (.long q2), .second, .val (.long ((((q1.toUInt64 >>> ((1 : Int32) &&& 0x3f).toInt64.toUInt64).toInt64) / q2) <<< ((1 : Int32) &&& 0x3f).toInt64)), .second, .val (.long (q1 - (((((q1.toUInt64 >>> ((1 : Int32) &&& 0x3f).toInt64.toUInt64).toInt64) / q2) <<< ((1 : Int32) &&& 0x3f).toInt64) * q2))), .second] [(.long (((((q1 - (((((q1.toUInt64 >>> ((1 : Int32) &&& 0x3f).toInt64.toUInt64).toInt64) / q2) <<< ((1 : Int32) &&& 0x3f).toInt64) * q2)) - q2) ^^^ (-1 : Int64)) >>> ((63 : Int32) &&& 0x3f).toInt64) &&& q2)), (.long (q1 - (((((q1.toUInt64 >>> ((1 : Int32) &&& 0x3f).toInt64.toUInt64).toInt64) / q2) <<< ((1 : Int32) &&& 0x3f).toInt64) * q2)))])) _
    refine XS.lsub X0.here hx rfl (hb hby d4_38) rfl ?_
    show Steps p.tables e below (s₁.setTop (mkF m 39 #[.val (.long q1), .second, .val (.long q2), .second, .val (.long ((((q1.toUInt64 >>> ((1 : Int32) &&& 0x3f).toInt64.toUInt64).toInt64) / q2) <<< ((1 : Int32) &&& 0x3f).toInt64)), .second, .val (.long (q1 - (((((q1.toUInt64 >>> ((1 : Int32) &&& 0x3f).toInt64.toUInt64).toInt64) / q2) <<< ((1 : Int32) &&& 0x3f).toInt64) * q2))), .second] [(.long ((q1 - (((((q1.toUInt64 >>> ((1 : Int32) &&& 0x3f).toInt64.toUInt64).toInt64) / q2) <<< ((1 : Int32) &&& 0x3f).toInt64) * q2)) - (((((q1 - (((((q1.toUInt64 >>> ((1 : Int32) &&& 0x3f).toInt64.toUInt64).toInt64) / q2) <<< ((1 : Int32) &&& 0x3f).toInt64) * q2)) - q2) ^^^ (-1 : Int64)) >>> ((63 : Int32) &&& 0x3f).toInt64) &&& q2)))])) _
    exact own_retL X0 hx Bd.returns (hb hby d4_39) hr
  · show Q4 Z q1 q2 h0 n0 _ s₁.heap _
    rw [e0]
    exact ⟨rfl, N0, rfl⟩
theorem d5_0 : decode prog_55_method_3_code 0 = .ok (.lload_n 1, 1) := by decide +kernel
theorem d5_1 : decode prog_55_method_3_code 1 = .ok (.aload_n 0, 1) := by decide +kernel
theorem d5_2 : decode prog_55_method_3_code 2 = .ok (.getfield 24, 3) := by decide +kernel
theorem d5_5 : decode prog_55_method_3_code 5 = .ok (.lmul, 1) := by decide +kernel
theorem d5_6 : decode prog_55_method_3_code 6 = .ok (.lload_n 1, 1) := by decide +kernel
theorem d5_7 : decode prog_55_method_3_code 7 = .ok (.aload_n 0, 1) := by decide +kernel
theorem d5_8 : decode prog_55_method_3_code 8 = .ok (.getfield 27, 3) := by decide +kernel
theorem d5_11 : decode prog_55_method_3_code 11 = .ok (.lmul, 1) := by decide +kernel
theorem d5_12 : decode prog_55_method_3_code 12 = .ok (.aload_n 0, 1) := by decide +kernel
theorem d5_13 : decode prog_55_method_3_code 13 = .ok (.getfield 7, 3) := by decide +kernel
theorem d5_16 : decode prog_55_method_3_code 16 = .ok (.ladd, 1) := by decide +kernel
theorem d5_17 : decode prog_55_method_3_code 17 = .ok (.lconst 1, 1) := by decide +kernel
theorem d5_18 : decode prog_55_method_3_code 18 = .ok (.lsub, 1) := by decide +kernel
theorem d5_19 : decode prog_55_method_3_code 19 = .ok (.aload_n 0, 1) := by decide +kernel
theorem d5_20 : decode prog_55_method_3_code 20 = .ok (.getfield 7, 3) := by decide +kernel
theorem d5_23 : decode prog_55_method_3_code 23 = .ok (.ldiv, 1) := by decide +kernel
theorem d5_24 : decode prog_55_method_3_code 24 = .ok (.ladd, 1) := by decide +kernel
theorem d5_25 : decode prog_55_method_3_code 25 = .ok (.lreturn, 1) := by decide +kernel
theorem pn_5 : plainName "com/example/level_ring/levelring/placement/PartitionSlots$Cut" = true := by first | (simp [plainName, overriddenIn]; done) | decide +kernel
theorem ef_5 (m : MethodId) (x0 : Addr) (x1 : Int64) : entryFrame m #[(.ref x0), (.long x1)] 3 = mkF m 0 #[.val (.ref x0), .val (.long x1), .second] [] := by first | (simp [entryFrame, mkF, argsToLocals, Value.category]; done) | rfl
def Q5 (Z : State) (a1 : Addr) (q2 : Int64) (w3 : Int64) (w5 : Int64) (w7 : Int64) (h0 : Heap) (n0 : Nat) (v : Option Value) (h : Heap) (L : List Loc) : Prop := v = some (.long ((q2 * w3) + ((((q2 * w5) + w7) - (1 : Int64)) / w7))) ∧ Fr n0 L ∧ h = h0
set_option maxRecDepth 65536 in
set_option maxHeartbeats 40000000 in
theorem rm5 (l : Launch) (Z : State) (a0 : Array Value) (hw : ∀ d ∈ tables_1, d.before a0 Z = true) (ws : List Jvm.Cond) (a1 : Addr) (q2 : Int64) (w3 : Int64) (w5 : Int64) (w7 : Int64) (h0 : Heap) (n0 : Nat) (Z0 : n0 ≤ h0.size) (F_unit_a1 : Fld Z h0 a1 "com/example/level_ring/levelring/placement/PartitionSlots$Cut" "unit" "J" (.long w3)) (F_rest_a1 : Fld Z h0 a1 "com/example/level_ring/levelring/placement/PartitionSlots$Cut" "rest" "J" (.long w5)) (F_parts_a1 : Fld Z h0 a1 "com/example/level_ring/levelring/placement/PartitionSlots$Cut" "parts" "J" (.long w7)) (hnz23 : ¬ (w7 = (0 : Int64))) :
    MetFree l (⟨"com/example/level_ring/levelring/placement/PartitionSlots$Cut", "firstOffsetOf", "(J)J"⟩ : MethodName) (head1 (Jvm.Cond.code (⟨"com/example/level_ring/levelring/placement/PartitionSlots$Cut", "firstOffsetOf", "(J)J"⟩ : MethodName) prog_55_method_3_code 3 (some .long) :: ws) ({ frames := 0, cells := 0, slots := 0, locals := 0 } : Room)) (fun a U => a = #[(.ref a1), (.long q2)] ∧ Z.Warmed39 U.vm ∧ U.heap = h0) (fun _ _ _ _ _ => True) (fun _ U o U' => ∃ v L, o = .returned v ∧ Q5 Z a1 q2 w3 w5 w7 h0 n0 v U'.heap L ∧ FrameEnd U o U' L ({ frames := 0, cells := 0, slots := 0, locals := 0 } : Room).cells ({ frames := 0, cells := 0, slots := 0, locals := 0 } : Room).slots) := by
  refine MetFree.of_bodySF (plainFor_of_name pn_5) hisR ?_
  intro p e s m args below meth c s₁ Bd hml0 hP hK
  obtain ⟨rfl, hZ, hh⟩ := hP
  have hx := Bd.exec
  have hby := Bd.bytes
  have hml : c.maxLocals = 3 := hml0
  have hown : s.vm.findClass "com/example/level_ring/levelring/placement/PartitionSlots$Cut" = some m.cls := findClass_of_methodNamed Bd.named
  have hnm := (name_of_methodNamed Bd.named Bd.method).1
  have X0 : Stand p l e ({ frames := 0, cells := 0, slots := 0, locals := 0 } : Room) s m #[(.ref a1), (.long q2)] below meth c s₁ [] 0 0 := Stand.of_body Bd
  have e0 : s₁.heap = h0 := by rw [← hh, Bd.state]; rfl
  have N0 := Fr.nil n0
  have pre0 : ∀ t, Steps p.tables e below (s₁.setTop (mkF m 0 #[.val (.ref a1), .val (.long q2), .second] [])) t → Steps p.tables e below (s₁.setTop (entryFrame m #[(.ref a1), (.long q2)] 3)) t := fun t k => castTop (ef_5 m a1 q2) k
  -- 3. LAWS
  obtain ⟨T4, X4, e4, st4⟩ := getF X0 hx hZ hown (host := "") (Or.inl (hw _ (List.mem_of_getElem? (i := 21) rfl))) Via.refl e0 F_unit_a1 (g := (mkF m 2 #[.val (.ref a1), .val (.long q2), .second] [(.ref a1), (.long q2)])) rfl rfl (hb hby d5_2)
  obtain ⟨T6, X6, e6, st6⟩ := getF X4 hx hZ hown (host := "") (Or.inl (hw _ (List.mem_of_getElem? (i := 23) rfl))) Via.refl e4 F_rest_a1 (g := (mkF m 8 #[.val (.ref a1), .val (.long q2), .second] [(.ref a1), (.long q2), (.long (q2 * w3))])) rfl rfl (hb hby d5_8)
  obtain ⟨T8, X8, e8, st8⟩ := getF X6 hx hZ hown (host := "") (Or.inl (hw _ (List.mem_of_getElem? (i := 10) rfl))) Via.refl e6 F_parts_a1 (g := (mkF m 13 #[.val (.ref a1), .val (.long q2), .second] [(.ref a1), (.long (q2 * w5)), (.long (q2 * w3))])) rfl rfl (hb hby d5_13)
  obtain ⟨T9, X9, e9, st9⟩ := getF X8 hx hZ hown (host := "") (Or.inl (hw _ (List.mem_of_getElem? (i := 10) rfl))) Via.refl e8 F_parts_a1 (g := (mkF m 20 #[.val (.ref a1), .val (.long q2), .second] [(.ref a1), (.long (((q2 * w5) + w7) - (1 : Int64))), (.long (q2 * w3))])) rfl rfl (hb hby d5_20)
  obtain ⟨fs, hr, hrun, hended, hW, hsame⟩ := X9.leave (v := some (.long ((q2 * w3) + ((((q2 * w5) + w7) - (1 : Int64)) / w7)))) (fun h => by rw [Bd.returns] at h; cases h)
  refine ⟨_, _, pre0 _ ?_, hrun, hended, _, _, rfl, ?_, ⟨_, rfl⟩, hW, hsame.mono (by decide) (by decide)⟩
  -- 4. STEPS
  · show Steps p.tables e below (s₁.setTop (mkF m 0 #[.val (.ref a1), .val (.long q2), .second] [])) _
    refine XS.lloadN X0.here hx rfl (hb hby d5_0) rfl ?_
    show Steps p.tables e below (s₁.setTop (mkF m 1 #[.val (.ref a1), .val (.long q2), .second] [(.long q2)])) _
    refine XS.aloadN X0.here hx rfl (hb hby d5_1) rfl rfl ?_
    show Steps p.tables e below (s₁.setTop (mkF m 2 #[.val (.ref a1), .val (.long q2), .second] [(.ref a1), (.long q2)])) _
    refine st4 _ ?_
    show Steps p.tables e below (T4.setTop (mkF m 5 #[.val (.ref a1), .val (.long q2), .second] [(.long w3), (.long q2)])) _
    refine XS.lmul X4.here hx rfl (hb hby d5_5) rfl ?_
    show Steps p.tables e below (T4.setTop (mkF m 6 #[.val (.ref a1), .val (.long q2), .second] [(.long (q2 * w3))])) _
    refine XS.lloadN X4.here hx rfl (hb hby d5_6) rfl ?_
    show Steps p.tables e below (T4.setTop (mkF m 7 #[.val (.ref a1), .val (.long q2), .second] [(.long q2), (.long (q2 * w3))])) _
    refine XS.aloadN X4.here hx rfl (hb hby d5_7) rfl rfl ?_
    show Steps p.tables e below (T4.setTop (mkF m 8 #[.val (.ref a1), .val (.long q2), .second] [(.ref a1), (.long q2), (.long (q2 * w3))])) _
    refine st6 _ ?_
    show Steps p.tables e below (T6.setTop (mkF m 11 #[.val (.ref a1), .val (.long q2), .second] [(.long w5), (.long q2), (.long (q2 * w3))])) _
    refine XS.lmul X6.here hx rfl (hb hby d5_11) rfl ?_
    show Steps p.tables e below (T6.setTop (mkF m 12 #[.val (.ref a1), .val (.long q2), .second] [(.long (q2 * w5)), (.long (q2 * w3))])) _
    refine XS.aloadN X6.here hx rfl (hb hby d5_12) rfl rfl ?_
    show Steps p.tables e below (T6.setTop (mkF m 13 #[.val (.ref a1), .val (.long q2), .second] [(.ref a1), (.long (q2 * w5)), (.long (q2 * w3))])) _
    refine st8 _ ?_
    show Steps p.tables e below (T8.setTop (mkF m 16 #[.val (.ref a1), .val (.long q2), .second] [(.long w7), (.long (q2 * w5)), (.long (q2 * w3))])) _
    refine XS.ladd X8.here hx rfl (hb hby d5_16) rfl ?_
    show Steps p.tables e below (T8.setTop (mkF m 17 #[.val (.ref a1), .val (.long q2), .second] [(.long ((q2 * w5) + w7)), (.long (q2 * w3))])) _
    refine XS.lconst X8.here hx rfl (hb hby d5_17) ?_
    show Steps p.tables e below (T8.setTop (mkF m 18 #[.val (.ref a1), .val (.long q2), .second] [(.long (1 : Int64)), (.long ((q2 * w5) + w7)), (.long (q2 * w3))])) _
    refine XS.lsub X8.here hx rfl (hb hby d5_18) rfl ?_
    show Steps p.tables e below (T8.setTop (mkF m 19 #[.val (.ref a1), .val (.long q2), .second] [(.long (((q2 * w5) + w7) - (1 : Int64))), (.long (q2 * w3))])) _
    refine XS.aloadN X8.here hx rfl (hb hby d5_19) rfl rfl ?_
    show Steps p.tables e below (T8.setTop (mkF m 20 #[.val (.ref a1), .val (.long q2), .second] [(.ref a1), (.long (((q2 * w5) + w7) - (1 : Int64))), (.long (q2 * w3))])) _
    refine st9 _ ?_
    show Steps p.tables e below (T9.setTop (mkF m 23 #[.val (.ref a1), .val (.long q2), .second] [(.long w7), (.long (((q2 * w5) + w7) - (1 : Int64))), (.long (q2 * w3))])) _
    refine XS.ldiv X9.here hx rfl (hb hby d5_23) rfl hnz23 ?_
    show Steps p.tables e below (T9.setTop (mkF m 24 #[.val (.ref a1), .val (.long q2), .second] [(.long ((((q2 * w5) + w7) - (1 : Int64)) / w7)), (.long (q2 * w3))])) _
    refine XS.ladd X9.here hx rfl (hb hby d5_24) rfl ?_
    show Steps p.tables e below (T9.setTop (mkF m 25 #[.val (.ref a1), .val (.long q2), .second] [(.long ((q2 * w3) + ((((q2 * w5) + w7) - (1 : Int64)) / w7)))])) _
    exact own_retL X9 hx Bd.returns (hb hby d5_25) hr
  · show Q5 Z a1 q2 w3 w5 w7 h0 n0 _ T9.heap _
    rw [e9]
    exact ⟨rfl, N0, rfl⟩
def own_v1 (q1 q2 : Int64) : Int64 := (q1 <<< ((32 : Int32) &&& 0x3f).toInt64)
def own_v2 (q1 q2 : Int64) : Int64 := ((own_v1 q1 q2) / q2)
def own_v3 (q1 q2 : Int64) : Int64 := ((own_v1 q1 q2) - (own_v2 q1 q2) * q2)
def own_v4 (q1 q2 : Int64) : Int64 := ((own_v3 q1 q2) <<< ((32 : Int32) &&& 0x3f).toInt64)
def own_v5 (q1 q2 : Int64) : Int64 := ((own_v4 q1 q2) / q2)
def own_v6 (q1 q2 : Int64) : Int64 := ((own_v4 q1 q2) - (own_v5 q1 q2) * q2)
def own_v7 (q1 q2 : Int64) : Int64 := ((own_v2 q1 q2) <<< ((32 : Int32) &&& 0x3f).toInt64)
def own_v8 (q1 q2 : Int64) : Int64 := ((own_v7 q1 q2) + (own_v5 q1 q2))
def own_v9 (q1 q2 : Int64) : Int64 := ((own_v8 q1 q2) + (1 : Int64))
theorem own_v6_eq (q1 q2 : Int64) : own_v6 q1 q2 = own_lo q1 q2 - (own_lo q1 q2 / q2) * q2 := by
  unfold own_v6 own_v5 own_v4 own_v3 own_v2 own_v1 own_lo; rfl
theorem own_v8_eq (q1 q2 : Int64) : own_v8 q1 q2 = (((q1 <<< ((32 : Int32) &&& 0x3f).toInt64) / q2) <<< ((32 : Int32) &&& 0x3f).toInt64) + own_lo q1 q2 / q2 := by
  unfold own_v8 own_v7 own_v5 own_v4 own_v3 own_v2 own_v1 own_lo; rfl
theorem own_share_1 {q1 q2 : Int64} (h : (lcmpW (own_v6 q1 q2) (0 : Int64)) = (0 : Int32)) : own_v8 q1 q2 = own_share q1 q2 := by
  have h := (lw_eq _ _).mp h
  rw [own_v6_eq] at h
  unfold own_share
  rw [if_pos h, own_v8_eq]
theorem own_share_2 {q1 q2 : Int64} (h : ¬ ((lcmpW (own_v6 q1 q2) (0 : Int64)) = (0 : Int32))) : own_v9 q1 q2 = own_share q1 q2 := by
  have h : ¬ (own_v6 q1 q2 = 0) := fun e => h ((lw_eq _ _).mpr e)
  rw [own_v6_eq] at h
  unfold own_share
  rw [if_neg h, ← own_v8_eq]; rfl
theorem d6_0 : decode method_2_code 0 = .ok (.lload_n 0, 1) := by decide +kernel
theorem d6_1 : decode method_2_code 1 = .ok (.bipush 32, 2) := by decide +kernel
theorem d6_3 : decode method_2_code 3 = .ok (.lshl, 1) := by decide +kernel
theorem d6_4 : decode method_2_code 4 = .ok (.lstore 4, 2) := by decide +kernel
theorem d6_6 : decode method_2_code 6 = .ok (.lload 4, 2) := by decide +kernel
theorem d6_8 : decode method_2_code 8 = .ok (.lload_n 2, 1) := by decide +kernel
theorem d6_9 : decode method_2_code 9 = .ok (.ldiv, 1) := by decide +kernel
theorem d6_10 : decode method_2_code 10 = .ok (.lstore 6, 2) := by decide +kernel
theorem d6_12 : decode method_2_code 12 = .ok (.lload 4, 2) := by decide +kernel
theorem d6_14 : decode method_2_code 14 = .ok (.lload_n 2, 1) := by decide +kernel
theorem d6_15 : decode method_2_code 15 = .ok (.lrem, 1) := by decide +kernel
theorem d6_16 : decode method_2_code 16 = .ok (.lstore 8, 2) := by decide +kernel
theorem d6_18 : decode method_2_code 18 = .ok (.lload 8, 2) := by decide +kernel
theorem d6_20 : decode method_2_code 20 = .ok (.bipush 32, 2) := by decide +kernel
theorem d6_22 : decode method_2_code 22 = .ok (.lshl, 1) := by decide +kernel
theorem d6_23 : decode method_2_code 23 = .ok (.lstore 10, 2) := by decide +kernel
theorem d6_25 : decode method_2_code 25 = .ok (.lload 10, 2) := by decide +kernel
theorem d6_27 : decode method_2_code 27 = .ok (.lload_n 2, 1) := by decide +kernel
theorem d6_28 : decode method_2_code 28 = .ok (.ldiv, 1) := by decide +kernel
theorem d6_29 : decode method_2_code 29 = .ok (.lstore 12, 2) := by decide +kernel
theorem d6_31 : decode method_2_code 31 = .ok (.lload 10, 2) := by decide +kernel
theorem d6_33 : decode method_2_code 33 = .ok (.lload_n 2, 1) := by decide +kernel
theorem d6_34 : decode method_2_code 34 = .ok (.lrem, 1) := by decide +kernel
theorem d6_35 : decode method_2_code 35 = .ok (.lstore 14, 2) := by decide +kernel
theorem d6_37 : decode method_2_code 37 = .ok (.lload 6, 2) := by decide +kernel
theorem d6_39 : decode method_2_code 39 = .ok (.bipush 32, 2) := by decide +kernel
theorem d6_41 : decode method_2_code 41 = .ok (.lshl, 1) := by decide +kernel
theorem d6_42 : decode method_2_code 42 = .ok (.lload 12, 2) := by decide +kernel
theorem d6_44 : decode method_2_code 44 = .ok (.ladd, 1) := by decide +kernel
theorem d6_45 : decode method_2_code 45 = .ok (.lstore 16, 2) := by decide +kernel
theorem d6_47 : decode method_2_code 47 = .ok (.lload 14, 2) := by decide +kernel
theorem d6_49 : decode method_2_code 49 = .ok (.lconst 0, 1) := by decide +kernel
theorem d6_50 : decode method_2_code 50 = .ok (.lcmp, 1) := by decide +kernel
theorem d6_51 : decode method_2_code 51 = .ok (.ifCond .eq 9, 3) := by decide +kernel
theorem d6_60 : decode method_2_code 60 = .ok (.lload 16, 2) := by decide +kernel
theorem d6_62 : decode method_2_code 62 = .ok (.lreturn, 1) := by decide +kernel
theorem pn_6 : plainName "com/example/level_ring/levelring/placement/CutFirstOffsetOfPinLaw" = true := by first | (simp [plainName, overriddenIn]; done) | decide +kernel
theorem ef_6 (m : MethodId) (x0 : Int64) (x1 : Int64) : entryFrame m #[(.long x0), (.long x1)] 18 = mkF m 0 #[.val (.long x0), .second, .val (.long x1), .second, .unset, .unset, .unset, .unset, .unset, .unset, .unset, .unset, .unset, .unset, .unset, .unset, .unset, .unset] [] := by first | (simp [entryFrame, mkF, argsToLocals, Value.category]; done) | rfl
def Q6 (Z : State) (q1 : Int64) (q2 : Int64) (h0 : Heap) (n0 : Nat) (v : Option Value) (h : Heap) (L : List Loc) : Prop := v = some (.long (own_share q1 q2)) ∧ Fr n0 L ∧ h = h0
set_option maxRecDepth 65536 in
set_option maxHeartbeats 40000000 in
theorem rm6_t (l : Launch) (Z : State) (a0 : Array Value) (hw : ∀ d ∈ tables_1, d.before a0 Z = true) (ws : List Jvm.Cond) (q1 : Int64) (q2 : Int64) (h0 : Heap) (n0 : Nat) (Z0 : n0 ≤ h0.size) (hnz9 : ¬ (q2 = (0 : Int64))) (hnz15 : ¬ (q2 = (0 : Int64))) (hnz28 : ¬ (q2 = (0 : Int64))) (hnz34 : ¬ (q2 = (0 : Int64))) (hc51 : True → (lcmpW (own_v6 q1 q2) (0 : Int64)) = (0 : Int32)) :
    MetFree l (⟨"com/example/level_ring/levelring/placement/CutFirstOffsetOfPinLaw", "ceilShare", "(JJ)J"⟩ : MethodName) (head1 (Jvm.Cond.code (⟨"com/example/level_ring/levelring/placement/CutFirstOffsetOfPinLaw", "ceilShare", "(JJ)J"⟩ : MethodName) method_2_code 18 (some .long) :: ws) ({ frames := 0, cells := 0, slots := 0, locals := 0 } : Room)) (fun a U => a = #[(.long q1), (.long q2)] ∧ Z.Warmed39 U.vm ∧ U.heap = h0) (fun _ _ _ _ _ => True) (fun _ U o U' => ∃ v L, o = .returned v ∧ Q6 Z q1 q2 h0 n0 v U'.heap L ∧ FrameEnd U o U' L ({ frames := 0, cells := 0, slots := 0, locals := 0 } : Room).cells ({ frames := 0, cells := 0, slots := 0, locals := 0 } : Room).slots) := by
  refine MetFree.of_bodySF (plainFor_of_name pn_6) hisR ?_
  intro p e s m args below meth c s₁ Bd hml0 hP hK
  obtain ⟨rfl, hZ, hh⟩ := hP
  have hx := Bd.exec
  have hby := Bd.bytes
  have hml : c.maxLocals = 18 := hml0
  have hown : s.vm.findClass "com/example/level_ring/levelring/placement/CutFirstOffsetOfPinLaw" = some m.cls := findClass_of_methodNamed Bd.named
  have hnm := (name_of_methodNamed Bd.named Bd.method).1
  have X0 : Stand p l e ({ frames := 0, cells := 0, slots := 0, locals := 0 } : Room) s m #[(.long q1), (.long q2)] below meth c s₁ [] 0 0 := Stand.of_body Bd
  have e0 : s₁.heap = h0 := by rw [← hh, Bd.state]; rfl
  have N0 := Fr.nil n0
  have pre0 : ∀ t, Steps p.tables e below (s₁.setTop (mkF m 0 #[.val (.long q1), .second, .val (.long q2), .second, .unset, .unset, .unset, .unset, .unset, .unset, .unset, .unset, .unset, .unset, .unset, .unset, .unset, .unset] [])) t → Steps p.tables e below (s₁.setTop (entryFrame m #[(.long q1), (.long q2)] 18)) t := fun t k => castTop (ef_6 m q1 q2) k
  -- 3. LAWS

  obtain ⟨fs, hr, hrun, hended, hW, hsame⟩ := X0.leave (v := some (.long (own_v8 q1 q2))) (fun h => by rw [Bd.returns] at h; cases h)
  refine ⟨_, _, pre0 _ ?_, hrun, hended, _, _, rfl, ?_, ⟨_, rfl⟩, hW, hsame.mono (by decide) (by decide)⟩
  -- 4. STEPS
  · show Steps p.tables e below (s₁.setTop (mkF m 0 #[.val (.long q1), .second, .val (.long q2), .second, .unset, .unset, .unset, .unset, .unset, .unset, .unset, .unset, .unset, .unset, .unset, .unset, .unset, .unset] [])) _
    refine XS.lloadN X0.here hx rfl (hb hby d6_0) rfl ?_
    show Steps p.tables e below (s₁.setTop (mkF m 1 #[.val (.long q1), .second, .val (.long q2), .second, .unset, .unset, .unset, .unset, .unset, .unset, .unset, .unset, .unset, .unset, .unset, .unset, .unset, .unset] [(.long q1)])) _
    refine XS.bipush X0.here hx rfl (hb hby d6_1) ?_
    show Steps p.tables e below (s₁.setTop (mkF m 3 #[.val (.long q1), .second, .val (.long q2), .second, .unset, .unset, .unset, .unset, .unset, .unset, .unset, .unset, .unset, .unset, .unset, .unset, .unset, .unset] [(.int (32 : Int32)), (.long q1)])) _
    refine XS.lshl X0.here hx rfl (hb hby d6_3) rfl ?_
    show Steps p.tables e below (s₁.setTop (mkF m 4 #[.val (.long q1), .second, .val (.long q2), .second, .unset, .unset, .unset, .unset, .unset, .unset, .unset, .unset, .unset, .unset, .unset, .unset, .unset, .unset] [(.long (own_v1 q1 q2))])) _
    refine XS.lstore X0.here hx rfl (hb hby d6_4) rfl (l' := #[.val (.long q1), .second, .val (.long q2), .second, .val (.long (own_v1 q1 q2)), .second, .unset, .unset, .unset, .unset, .unset, .unset, .unset, .unset, .unset, .unset, .unset, .unset]) rfl ?_
    show Steps p.tables e below (s₁.setTop (mkF m 6 #[.val (.long q1), .second, .val (.long q2), .second, .val (.long (own_v1 q1 q2)), .second, .unset, .unset, .unset, .unset, .unset, .unset, .unset, .unset, .unset, .unset, .unset, .unset] [])) _
    refine XS.lload X0.here hx rfl (hb hby d6_6) rfl ?_
    show Steps p.tables e below (s₁.setTop (mkF m 8 #[.val (.long q1), .second, .val (.long q2), .second, .val (.long (own_v1 q1 q2)), .second, .unset, .unset, .unset, .unset, .unset, .unset, .unset, .unset, .unset, .unset, .unset, .unset] [(.long (own_v1 q1 q2))])) _
    refine XS.lloadN X0.here hx rfl (hb hby d6_8) rfl ?_
    show Steps p.tables e below (s₁.setTop (mkF m 9 #[.val (.long q1), .second, .val (.long q2), .second, .val (.long (own_v1 q1 q2)), .second, .unset, .unset, .unset, .unset, .unset, .unset, .unset, .unset, .unset, .unset, .unset, .unset] [(.long q2), (.long (own_v1 q1 q2))])) _
    refine XS.ldiv X0.here hx rfl (hb hby d6_9) rfl hnz9 ?_
    show Steps p.tables e below (s₁.setTop (mkF m 10 #[.val (.long q1), .second, .val (.long q2), .second, .val (.long (own_v1 q1 q2)), .second, .unset, .unset, .unset, .unset, .unset, .unset, .unset, .unset, .unset, .unset, .unset, .unset] [(.long (own_v2 q1 q2))])) _
    refine XS.lstore X0.here hx rfl (hb hby d6_10) rfl (l' := #[.val (.long q1), .second, .val (.long q2), .second, .val (.long (own_v1 q1 q2)), .second, .val (.long (own_v2 q1 q2)), .second, .unset, .unset, .unset, .unset, .unset, .unset, .unset, .unset, .unset, .unset]) rfl ?_
    show Steps p.tables e below (s₁.setTop (mkF m 12 #[.val (.long q1), .second, .val (.long q2), .second, .val (.long (own_v1 q1 q2)), .second, .val (.long (own_v2 q1 q2)), .second, .unset, .unset, .unset, .unset, .unset, .unset, .unset, .unset, .unset, .unset] [])) _
    refine XS.lload X0.here hx rfl (hb hby d6_12) rfl ?_
    show Steps p.tables e below (s₁.setTop (mkF m 14 #[.val (.long q1), .second, .val (.long q2), .second, .val (.long (own_v1 q1 q2)), .second, .val (.long (own_v2 q1 q2)), .second, .unset, .unset, .unset, .unset, .unset, .unset, .unset, .unset, .unset, .unset] [(.long (own_v1 q1 q2))])) _
    refine XS.lloadN X0.here hx rfl (hb hby d6_14) rfl ?_
    show Steps p.tables e below (s₁.setTop (mkF m 15 #[.val (.long q1), .second, .val (.long q2), .second, .val (.long (own_v1 q1 q2)), .second, .val (.long (own_v2 q1 q2)), .second, .unset, .unset, .unset, .unset, .unset, .unset, .unset, .unset, .unset, .unset] [(.long q2), (.long (own_v1 q1 q2))])) _
    refine XS.lrem X0.here hx rfl (hb hby d6_15) rfl hnz15 ?_
    show Steps p.tables e below (s₁.setTop (mkF m 16 #[.val (.long q1), .second, .val (.long q2), .second, .val (.long (own_v1 q1 q2)), .second, .val (.long (own_v2 q1 q2)), .second, .unset, .unset, .unset, .unset, .unset, .unset, .unset, .unset, .unset, .unset] [(.long (own_v3 q1 q2))])) _
    refine XS.lstore X0.here hx rfl (hb hby d6_16) rfl (l' := #[.val (.long q1), .second, .val (.long q2), .second, .val (.long (own_v1 q1 q2)), .second, .val (.long (own_v2 q1 q2)), .second, .val (.long (own_v3 q1 q2)), .second, .unset, .unset, .unset, .unset, .unset, .unset, .unset, .unset]) rfl ?_
    show Steps p.tables e below (s₁.setTop (mkF m 18 #[.val (.long q1), .second, .val (.long q2), .second, .val (.long (own_v1 q1 q2)), .second, .val (.long (own_v2 q1 q2)), .second, .val (.long (own_v3 q1 q2)), .second, .unset, .unset, .unset, .unset, .unset, .unset, .unset, .unset] [])) _
    refine XS.lload X0.here hx rfl (hb hby d6_18) rfl ?_
    show Steps p.tables e below (s₁.setTop (mkF m 20 #[.val (.long q1), .second, .val (.long q2), .second, .val (.long (own_v1 q1 q2)), .second, .val (.long (own_v2 q1 q2)), .second, .val (.long (own_v3 q1 q2)), .second, .unset, .unset, .unset, .unset, .unset, .unset, .unset, .unset] [(.long (own_v3 q1 q2))])) _
    refine XS.bipush X0.here hx rfl (hb hby d6_20) ?_
    show Steps p.tables e below (s₁.setTop (mkF m 22 #[.val (.long q1), .second, .val (.long q2), .second, .val (.long (own_v1 q1 q2)), .second, .val (.long (own_v2 q1 q2)), .second, .val (.long (own_v3 q1 q2)), .second, .unset, .unset, .unset, .unset, .unset, .unset, .unset, .unset] [(.int (32 : Int32)), (.long (own_v3 q1 q2))])) _
    refine XS.lshl X0.here hx rfl (hb hby d6_22) rfl ?_
    show Steps p.tables e below (s₁.setTop (mkF m 23 #[.val (.long q1), .second, .val (.long q2), .second, .val (.long (own_v1 q1 q2)), .second, .val (.long (own_v2 q1 q2)), .second, .val (.long (own_v3 q1 q2)), .second, .unset, .unset, .unset, .unset, .unset, .unset, .unset, .unset] [(.long (own_v4 q1 q2))])) _
    refine XS.lstore X0.here hx rfl (hb hby d6_23) rfl (l' := #[.val (.long q1), .second, .val (.long q2), .second, .val (.long (own_v1 q1 q2)), .second, .val (.long (own_v2 q1 q2)), .second, .val (.long (own_v3 q1 q2)), .second, .val (.long (own_v4 q1 q2)), .second, .unset, .unset, .unset, .unset, .unset, .unset]) rfl ?_
    show Steps p.tables e below (s₁.setTop (mkF m 25 #[.val (.long q1), .second, .val (.long q2), .second, .val (.long (own_v1 q1 q2)), .second, .val (.long (own_v2 q1 q2)), .second, .val (.long (own_v3 q1 q2)), .second, .val (.long (own_v4 q1 q2)), .second, .unset, .unset, .unset, .unset, .unset, .unset] [])) _
    refine XS.lload X0.here hx rfl (hb hby d6_25) rfl ?_
    show Steps p.tables e below (s₁.setTop (mkF m 27 #[.val (.long q1), .second, .val (.long q2), .second, .val (.long (own_v1 q1 q2)), .second, .val (.long (own_v2 q1 q2)), .second, .val (.long (own_v3 q1 q2)), .second, .val (.long (own_v4 q1 q2)), .second, .unset, .unset, .unset, .unset, .unset, .unset] [(.long (own_v4 q1 q2))])) _
    refine XS.lloadN X0.here hx rfl (hb hby d6_27) rfl ?_
    show Steps p.tables e below (s₁.setTop (mkF m 28 #[.val (.long q1), .second, .val (.long q2), .second, .val (.long (own_v1 q1 q2)), .second, .val (.long (own_v2 q1 q2)), .second, .val (.long (own_v3 q1 q2)), .second, .val (.long (own_v4 q1 q2)), .second, .unset, .unset, .unset, .unset, .unset, .unset] [(.long q2), (.long (own_v4 q1 q2))])) _
    refine XS.ldiv X0.here hx rfl (hb hby d6_28) rfl hnz28 ?_
    show Steps p.tables e below (s₁.setTop (mkF m 29 #[.val (.long q1), .second, .val (.long q2), .second, .val (.long (own_v1 q1 q2)), .second, .val (.long (own_v2 q1 q2)), .second, .val (.long (own_v3 q1 q2)), .second, .val (.long (own_v4 q1 q2)), .second, .unset, .unset, .unset, .unset, .unset, .unset] [(.long (own_v5 q1 q2))])) _
    refine XS.lstore X0.here hx rfl (hb hby d6_29) rfl (l' := #[.val (.long q1), .second, .val (.long q2), .second, .val (.long (own_v1 q1 q2)), .second, .val (.long (own_v2 q1 q2)), .second, .val (.long (own_v3 q1 q2)), .second, .val (.long (own_v4 q1 q2)), .second, .val (.long (own_v5 q1 q2)), .second, .unset, .unset, .unset, .unset]) rfl ?_
    show Steps p.tables e below (s₁.setTop (mkF m 31 #[.val (.long q1), .second, .val (.long q2), .second, .val (.long (own_v1 q1 q2)), .second, .val (.long (own_v2 q1 q2)), .second, .val (.long (own_v3 q1 q2)), .second, .val (.long (own_v4 q1 q2)), .second, .val (.long (own_v5 q1 q2)), .second, .unset, .unset, .unset, .unset] [])) _
    refine XS.lload X0.here hx rfl (hb hby d6_31) rfl ?_
    show Steps p.tables e below (s₁.setTop (mkF m 33 #[.val (.long q1), .second, .val (.long q2), .second, .val (.long (own_v1 q1 q2)), .second, .val (.long (own_v2 q1 q2)), .second, .val (.long (own_v3 q1 q2)), .second, .val (.long (own_v4 q1 q2)), .second, .val (.long (own_v5 q1 q2)), .second, .unset, .unset, .unset, .unset] [(.long (own_v4 q1 q2))])) _
    refine XS.lloadN X0.here hx rfl (hb hby d6_33) rfl ?_
    show Steps p.tables e below (s₁.setTop (mkF m 34 #[.val (.long q1), .second, .val (.long q2), .second, .val (.long (own_v1 q1 q2)), .second, .val (.long (own_v2 q1 q2)), .second, .val (.long (own_v3 q1 q2)), .second, .val (.long (own_v4 q1 q2)), .second, .val (.long (own_v5 q1 q2)), .second, .unset, .unset, .unset, .unset] [(.long q2), (.long (own_v4 q1 q2))])) _
    refine XS.lrem X0.here hx rfl (hb hby d6_34) rfl hnz34 ?_
    show Steps p.tables e below (s₁.setTop (mkF m 35 #[.val (.long q1), .second, .val (.long q2), .second, .val (.long (own_v1 q1 q2)), .second, .val (.long (own_v2 q1 q2)), .second, .val (.long (own_v3 q1 q2)), .second, .val (.long (own_v4 q1 q2)), .second, .val (.long (own_v5 q1 q2)), .second, .unset, .unset, .unset, .unset] [(.long (own_v6 q1 q2))])) _
    refine XS.lstore X0.here hx rfl (hb hby d6_35) rfl (l' := #[.val (.long q1), .second, .val (.long q2), .second, .val (.long (own_v1 q1 q2)), .second, .val (.long (own_v2 q1 q2)), .second, .val (.long (own_v3 q1 q2)), .second, .val (.long (own_v4 q1 q2)), .second, .val (.long (own_v5 q1 q2)), .second, .val (.long (own_v6 q1 q2)), .second, .unset, .unset]) rfl ?_
    show Steps p.tables e below (s₁.setTop (mkF m 37 #[.val (.long q1), .second, .val (.long q2), .second, .val (.long (own_v1 q1 q2)), .second, .val (.long (own_v2 q1 q2)), .second, .val (.long (own_v3 q1 q2)), .second, .val (.long (own_v4 q1 q2)), .second, .val (.long (own_v5 q1 q2)), .second, .val (.long (own_v6 q1 q2)), .second, .unset, .unset] [])) _
    refine XS.lload X0.here hx rfl (hb hby d6_37) rfl ?_
    show Steps p.tables e below (s₁.setTop (mkF m 39 #[.val (.long q1), .second, .val (.long q2), .second, .val (.long (own_v1 q1 q2)), .second, .val (.long (own_v2 q1 q2)), .second, .val (.long (own_v3 q1 q2)), .second, .val (.long (own_v4 q1 q2)), .second, .val (.long (own_v5 q1 q2)), .second, .val (.long (own_v6 q1 q2)), .second, .unset, .unset] [(.long (own_v2 q1 q2))])) _
    refine XS.bipush X0.here hx rfl (hb hby d6_39) ?_
    show Steps p.tables e below (s₁.setTop (mkF m 41 #[.val (.long q1), .second, .val (.long q2), .second, .val (.long (own_v1 q1 q2)), .second, .val (.long (own_v2 q1 q2)), .second, .val (.long (own_v3 q1 q2)), .second, .val (.long (own_v4 q1 q2)), .second, .val (.long (own_v5 q1 q2)), .second, .val (.long (own_v6 q1 q2)), .second, .unset, .unset] [(.int (32 : Int32)), (.long (own_v2 q1 q2))])) _
    refine XS.lshl X0.here hx rfl (hb hby d6_41) rfl ?_
    show Steps p.tables e below (s₁.setTop (mkF m 42 #[.val (.long q1), .second, .val (.long q2), .second, .val (.long (own_v1 q1 q2)), .second, .val (.long (own_v2 q1 q2)), .second, .val (.long (own_v3 q1 q2)), .second, .val (.long (own_v4 q1 q2)), .second, .val (.long (own_v5 q1 q2)), .second, .val (.long (own_v6 q1 q2)), .second, .unset, .unset] [(.long (own_v7 q1 q2))])) _
    refine XS.lload X0.here hx rfl (hb hby d6_42) rfl ?_
    show Steps p.tables e below (s₁.setTop (mkF m 44 #[.val (.long q1), .second, .val (.long q2), .second, .val (.long (own_v1 q1 q2)), .second, .val (.long (own_v2 q1 q2)), .second, .val (.long (own_v3 q1 q2)), .second, .val (.long (own_v4 q1 q2)), .second, .val (.long (own_v5 q1 q2)), .second, .val (.long (own_v6 q1 q2)), .second, .unset, .unset] [(.long (own_v5 q1 q2)), (.long (own_v7 q1 q2))])) _
    refine XS.ladd X0.here hx rfl (hb hby d6_44) rfl ?_
    show Steps p.tables e below (s₁.setTop (mkF m 45 #[.val (.long q1), .second, .val (.long q2), .second, .val (.long (own_v1 q1 q2)), .second, .val (.long (own_v2 q1 q2)), .second, .val (.long (own_v3 q1 q2)), .second, .val (.long (own_v4 q1 q2)), .second, .val (.long (own_v5 q1 q2)), .second, .val (.long (own_v6 q1 q2)), .second, .unset, .unset] [(.long (own_v8 q1 q2))])) _
    refine XS.lstore X0.here hx rfl (hb hby d6_45) rfl (l' := #[.val (.long q1), .second, .val (.long q2), .second, .val (.long (own_v1 q1 q2)), .second, .val (.long (own_v2 q1 q2)), .second, .val (.long (own_v3 q1 q2)), .second, .val (.long (own_v4 q1 q2)), .second, .val (.long (own_v5 q1 q2)), .second, .val (.long (own_v6 q1 q2)), .second, .val (.long (own_v8 q1 q2)), .second]) rfl ?_
    show Steps p.tables e below (s₁.setTop (mkF m 47 #[.val (.long q1), .second, .val (.long q2), .second, .val (.long (own_v1 q1 q2)), .second, .val (.long (own_v2 q1 q2)), .second, .val (.long (own_v3 q1 q2)), .second, .val (.long (own_v4 q1 q2)), .second, .val (.long (own_v5 q1 q2)), .second, .val (.long (own_v6 q1 q2)), .second, .val (.long (own_v8 q1 q2)), .second] [])) _
    refine XS.lload X0.here hx rfl (hb hby d6_47) rfl ?_
    show Steps p.tables e below (s₁.setTop (mkF m 49 #[.val (.long q1), .second, .val (.long q2), .second, .val (.long (own_v1 q1 q2)), .second, .val (.long (own_v2 q1 q2)), .second, .val (.long (own_v3 q1 q2)), .second, .val (.long (own_v4 q1 q2)), .second, .val (.long (own_v5 q1 q2)), .second, .val (.long (own_v6 q1 q2)), .second, .val (.long (own_v8 q1 q2)), .second] [(.long (own_v6 q1 q2))])) _
    refine XS.lconst X0.here hx rfl (hb hby d6_49) ?_
    show Steps p.tables e below (s₁.setTop (mkF m 50 #[.val (.long q1), .second, .val (.long q2), .second, .val (.long (own_v1 q1 q2)), .second, .val (.long (own_v2 q1 q2)), .second, .val (.long (own_v3 q1 q2)), .second, .val (.long (own_v4 q1 q2)), .second, .val (.long (own_v5 q1 q2)), .second, .val (.long (own_v6 q1 q2)), .second, .val (.long (own_v8 q1 q2)), .second] [(.long (0 : Int64)), (.long (own_v6 q1 q2))])) _
    refine XS.lcmp X0.here hx rfl (hb hby d6_50) rfl ?_
    show Steps p.tables e below (s₁.setTop (mkF m 51 #[.val (.long q1), .second, .val (.long q2), .second, .val (.long (own_v1 q1 q2)), .second, .val (.long (own_v2 q1 q2)), .second, .val (.long (own_v3 q1 q2)), .second, .val (.long (own_v4 q1 q2)), .second, .val (.long (own_v5 q1 q2)), .second, .val (.long (own_v6 q1 q2)), .second, .val (.long (own_v8 q1 q2)), .second] [(.int (lcmpW (own_v6 q1 q2) (0 : Int64)))])) _
    refine XS.ifYes X0.here hx rfl (pc0 := 51) (pc' := 60) rfl (hb hby d6_51) rfl ((if0 _ _).trans (teq (hc51 ⟨⟩)).1) (by decide) (by decide) ?_
    show Steps p.tables e below (s₁.setTop (mkF m 60 #[.val (.long q1), .second, .val (.long q2), .second, .val (.long (own_v1 q1 q2)), .second, .val (.long (own_v2 q1 q2)), .second, .val (.long (own_v3 q1 q2)), .second, .val (.long (own_v4 q1 q2)), .second, .val (.long (own_v5 q1 q2)), .second, .val (.long (own_v6 q1 q2)), .second, .val (.long (own_v8 q1 q2)), .second] [])) _
    refine XS.lload X0.here hx rfl (hb hby d6_60) rfl ?_
    show Steps p.tables e below (s₁.setTop (mkF m 62 #[.val (.long q1), .second, .val (.long q2), .second, .val (.long (own_v1 q1 q2)), .second, .val (.long (own_v2 q1 q2)), .second, .val (.long (own_v3 q1 q2)), .second, .val (.long (own_v4 q1 q2)), .second, .val (.long (own_v5 q1 q2)), .second, .val (.long (own_v6 q1 q2)), .second, .val (.long (own_v8 q1 q2)), .second] [(.long (own_v8 q1 q2))])) _
    exact own_retL X0 hx Bd.returns (hb hby d6_62) hr
  · show Q6 Z q1 q2 h0 n0 _ s₁.heap _
    rw [e0]
    exact ⟨congrArg (fun z => some (Value.long z)) (own_share_1 (hc51 ⟨⟩)), N0, rfl⟩
theorem d6_54 : decode method_2_code 54 = .ok (.lload 16, 2) := by decide +kernel
theorem d6_56 : decode method_2_code 56 = .ok (.lconst 1, 1) := by decide +kernel
theorem d6_57 : decode method_2_code 57 = .ok (.ladd, 1) := by decide +kernel
theorem d6_58 : decode method_2_code 58 = .ok (.lstore 16, 2) := by decide +kernel
set_option maxRecDepth 65536 in
set_option maxHeartbeats 40000000 in
theorem rm6_f (l : Launch) (Z : State) (a0 : Array Value) (hw : ∀ d ∈ tables_1, d.before a0 Z = true) (ws : List Jvm.Cond) (q1 : Int64) (q2 : Int64) (h0 : Heap) (n0 : Nat) (Z0 : n0 ≤ h0.size) (hnz9 : ¬ (q2 = (0 : Int64))) (hnz15 : ¬ (q2 = (0 : Int64))) (hnz28 : ¬ (q2 = (0 : Int64))) (hnz34 : ¬ (q2 = (0 : Int64))) (hc51 : ¬ ((lcmpW (own_v6 q1 q2) (0 : Int64)) = (0 : Int32))) :
    MetFree l (⟨"com/example/level_ring/levelring/placement/CutFirstOffsetOfPinLaw", "ceilShare", "(JJ)J"⟩ : MethodName) (head1 (Jvm.Cond.code (⟨"com/example/level_ring/levelring/placement/CutFirstOffsetOfPinLaw", "ceilShare", "(JJ)J"⟩ : MethodName) method_2_code 18 (some .long) :: ws) ({ frames := 0, cells := 0, slots := 0, locals := 0 } : Room)) (fun a U => a = #[(.long q1), (.long q2)] ∧ Z.Warmed39 U.vm ∧ U.heap = h0) (fun _ _ _ _ _ => True) (fun _ U o U' => ∃ v L, o = .returned v ∧ Q6 Z q1 q2 h0 n0 v U'.heap L ∧ FrameEnd U o U' L ({ frames := 0, cells := 0, slots := 0, locals := 0 } : Room).cells ({ frames := 0, cells := 0, slots := 0, locals := 0 } : Room).slots) := by
  refine MetFree.of_bodySF (plainFor_of_name pn_6) hisR ?_
  intro p e s m args below meth c s₁ Bd hml0 hP hK
  obtain ⟨rfl, hZ, hh⟩ := hP
  have hx := Bd.exec
  have hby := Bd.bytes
  have hml : c.maxLocals = 18 := hml0
  have hown : s.vm.findClass "com/example/level_ring/levelring/placement/CutFirstOffsetOfPinLaw" = some m.cls := findClass_of_methodNamed Bd.named
  have hnm := (name_of_methodNamed Bd.named Bd.method).1
  have X0 : Stand p l e ({ frames := 0, cells := 0, slots := 0, locals := 0 } : Room) s m #[(.long q1), (.long q2)] below meth c s₁ [] 0 0 := Stand.of_body Bd
  have e0 : s₁.heap = h0 := by rw [← hh, Bd.state]; rfl
  have N0 := Fr.nil n0
  have pre0 : ∀ t, Steps p.tables e below (s₁.setTop (mkF m 0 #[.val (.long q1), .second, .val (.long q2), .second, .unset, .unset, .unset, .unset, .unset, .unset, .unset, .unset, .unset, .unset, .unset, .unset, .unset, .unset] [])) t → Steps p.tables e below (s₁.setTop (entryFrame m #[(.long q1), (.long q2)] 18)) t := fun t k => castTop (ef_6 m q1 q2) k
  -- 3. LAWS

  obtain ⟨fs, hr, hrun, hended, hW, hsame⟩ := X0.leave (v := some (.long (own_v9 q1 q2))) (fun h => by rw [Bd.returns] at h; cases h)
  refine ⟨_, _, pre0 _ ?_, hrun, hended, _, _, rfl, ?_, ⟨_, rfl⟩, hW, hsame.mono (by decide) (by decide)⟩
  -- 4. STEPS
  · show Steps p.tables e below (s₁.setTop (mkF m 0 #[.val (.long q1), .second, .val (.long q2), .second, .unset, .unset, .unset, .unset, .unset, .unset, .unset, .unset, .unset, .unset, .unset, .unset, .unset, .unset] [])) _
    refine XS.lloadN X0.here hx rfl (hb hby d6_0) rfl ?_
    show Steps p.tables e below (s₁.setTop (mkF m 1 #[.val (.long q1), .second, .val (.long q2), .second, .unset, .unset, .unset, .unset, .unset, .unset, .unset, .unset, .unset, .unset, .unset, .unset, .unset, .unset] [(.long q1)])) _
    refine XS.bipush X0.here hx rfl (hb hby d6_1) ?_
    show Steps p.tables e below (s₁.setTop (mkF m 3 #[.val (.long q1), .second, .val (.long q2), .second, .unset, .unset, .unset, .unset, .unset, .unset, .unset, .unset, .unset, .unset, .unset, .unset, .unset, .unset] [(.int (32 : Int32)), (.long q1)])) _
    refine XS.lshl X0.here hx rfl (hb hby d6_3) rfl ?_
    show Steps p.tables e below (s₁.setTop (mkF m 4 #[.val (.long q1), .second, .val (.long q2), .second, .unset, .unset, .unset, .unset, .unset, .unset, .unset, .unset, .unset, .unset, .unset, .unset, .unset, .unset] [(.long (own_v1 q1 q2))])) _
    refine XS.lstore X0.here hx rfl (hb hby d6_4) rfl (l' := #[.val (.long q1), .second, .val (.long q2), .second, .val (.long (own_v1 q1 q2)), .second, .unset, .unset, .unset, .unset, .unset, .unset, .unset, .unset, .unset, .unset, .unset, .unset]) rfl ?_
    show Steps p.tables e below (s₁.setTop (mkF m 6 #[.val (.long q1), .second, .val (.long q2), .second, .val (.long (own_v1 q1 q2)), .second, .unset, .unset, .unset, .unset, .unset, .unset, .unset, .unset, .unset, .unset, .unset, .unset] [])) _
    refine XS.lload X0.here hx rfl (hb hby d6_6) rfl ?_
    show Steps p.tables e below (s₁.setTop (mkF m 8 #[.val (.long q1), .second, .val (.long q2), .second, .val (.long (own_v1 q1 q2)), .second, .unset, .unset, .unset, .unset, .unset, .unset, .unset, .unset, .unset, .unset, .unset, .unset] [(.long (own_v1 q1 q2))])) _
    refine XS.lloadN X0.here hx rfl (hb hby d6_8) rfl ?_
    show Steps p.tables e below (s₁.setTop (mkF m 9 #[.val (.long q1), .second, .val (.long q2), .second, .val (.long (own_v1 q1 q2)), .second, .unset, .unset, .unset, .unset, .unset, .unset, .unset, .unset, .unset, .unset, .unset, .unset] [(.long q2), (.long (own_v1 q1 q2))])) _
    refine XS.ldiv X0.here hx rfl (hb hby d6_9) rfl hnz9 ?_
    show Steps p.tables e below (s₁.setTop (mkF m 10 #[.val (.long q1), .second, .val (.long q2), .second, .val (.long (own_v1 q1 q2)), .second, .unset, .unset, .unset, .unset, .unset, .unset, .unset, .unset, .unset, .unset, .unset, .unset] [(.long (own_v2 q1 q2))])) _
    refine XS.lstore X0.here hx rfl (hb hby d6_10) rfl (l' := #[.val (.long q1), .second, .val (.long q2), .second, .val (.long (own_v1 q1 q2)), .second, .val (.long (own_v2 q1 q2)), .second, .unset, .unset, .unset, .unset, .unset, .unset, .unset, .unset, .unset, .unset]) rfl ?_
    show Steps p.tables e below (s₁.setTop (mkF m 12 #[.val (.long q1), .second, .val (.long q2), .second, .val (.long (own_v1 q1 q2)), .second, .val (.long (own_v2 q1 q2)), .second, .unset, .unset, .unset, .unset, .unset, .unset, .unset, .unset, .unset, .unset] [])) _
    refine XS.lload X0.here hx rfl (hb hby d6_12) rfl ?_
    show Steps p.tables e below (s₁.setTop (mkF m 14 #[.val (.long q1), .second, .val (.long q2), .second, .val (.long (own_v1 q1 q2)), .second, .val (.long (own_v2 q1 q2)), .second, .unset, .unset, .unset, .unset, .unset, .unset, .unset, .unset, .unset, .unset] [(.long (own_v1 q1 q2))])) _
    refine XS.lloadN X0.here hx rfl (hb hby d6_14) rfl ?_
    show Steps p.tables e below (s₁.setTop (mkF m 15 #[.val (.long q1), .second, .val (.long q2), .second, .val (.long (own_v1 q1 q2)), .second, .val (.long (own_v2 q1 q2)), .second, .unset, .unset, .unset, .unset, .unset, .unset, .unset, .unset, .unset, .unset] [(.long q2), (.long (own_v1 q1 q2))])) _
    refine XS.lrem X0.here hx rfl (hb hby d6_15) rfl hnz15 ?_
    show Steps p.tables e below (s₁.setTop (mkF m 16 #[.val (.long q1), .second, .val (.long q2), .second, .val (.long (own_v1 q1 q2)), .second, .val (.long (own_v2 q1 q2)), .second, .unset, .unset, .unset, .unset, .unset, .unset, .unset, .unset, .unset, .unset] [(.long (own_v3 q1 q2))])) _
    refine XS.lstore X0.here hx rfl (hb hby d6_16) rfl (l' := #[.val (.long q1), .second, .val (.long q2), .second, .val (.long (own_v1 q1 q2)), .second, .val (.long (own_v2 q1 q2)), .second, .val (.long (own_v3 q1 q2)), .second, .unset, .unset, .unset, .unset, .unset, .unset, .unset, .unset]) rfl ?_
    show Steps p.tables e below (s₁.setTop (mkF m 18 #[.val (.long q1), .second, .val (.long q2), .second, .val (.long (own_v1 q1 q2)), .second, .val (.long (own_v2 q1 q2)), .second, .val (.long (own_v3 q1 q2)), .second, .unset, .unset, .unset, .unset, .unset, .unset, .unset, .unset] [])) _
    refine XS.lload X0.here hx rfl (hb hby d6_18) rfl ?_
    show Steps p.tables e below (s₁.setTop (mkF m 20 #[.val (.long q1), .second, .val (.long q2), .second, .val (.long (own_v1 q1 q2)), .second, .val (.long (own_v2 q1 q2)), .second, .val (.long (own_v3 q1 q2)), .second, .unset, .unset, .unset, .unset, .unset, .unset, .unset, .unset] [(.long (own_v3 q1 q2))])) _
    refine XS.bipush X0.here hx rfl (hb hby d6_20) ?_
    show Steps p.tables e below (s₁.setTop (mkF m 22 #[.val (.long q1), .second, .val (.long q2), .second, .val (.long (own_v1 q1 q2)), .second, .val (.long (own_v2 q1 q2)), .second, .val (.long (own_v3 q1 q2)), .second, .unset, .unset, .unset, .unset, .unset, .unset, .unset, .unset] [(.int (32 : Int32)), (.long (own_v3 q1 q2))])) _
    refine XS.lshl X0.here hx rfl (hb hby d6_22) rfl ?_
    show Steps p.tables e below (s₁.setTop (mkF m 23 #[.val (.long q1), .second, .val (.long q2), .second, .val (.long (own_v1 q1 q2)), .second, .val (.long (own_v2 q1 q2)), .second, .val (.long (own_v3 q1 q2)), .second, .unset, .unset, .unset, .unset, .unset, .unset, .unset, .unset] [(.long (own_v4 q1 q2))])) _
    refine XS.lstore X0.here hx rfl (hb hby d6_23) rfl (l' := #[.val (.long q1), .second, .val (.long q2), .second, .val (.long (own_v1 q1 q2)), .second, .val (.long (own_v2 q1 q2)), .second, .val (.long (own_v3 q1 q2)), .second, .val (.long (own_v4 q1 q2)), .second, .unset, .unset, .unset, .unset, .unset, .unset]) rfl ?_
    show Steps p.tables e below (s₁.setTop (mkF m 25 #[.val (.long q1), .second, .val (.long q2), .second, .val (.long (own_v1 q1 q2)), .second, .val (.long (own_v2 q1 q2)), .second, .val (.long (own_v3 q1 q2)), .second, .val (.long (own_v4 q1 q2)), .second, .unset, .unset, .unset, .unset, .unset, .unset] [])) _
    refine XS.lload X0.here hx rfl (hb hby d6_25) rfl ?_
    show Steps p.tables e below (s₁.setTop (mkF m 27 #[.val (.long q1), .second, .val (.long q2), .second, .val (.long (own_v1 q1 q2)), .second, .val (.long (own_v2 q1 q2)), .second, .val (.long (own_v3 q1 q2)), .second, .val (.long (own_v4 q1 q2)), .second, .unset, .unset, .unset, .unset, .unset, .unset] [(.long (own_v4 q1 q2))])) _
    refine XS.lloadN X0.here hx rfl (hb hby d6_27) rfl ?_
    show Steps p.tables e below (s₁.setTop (mkF m 28 #[.val (.long q1), .second, .val (.long q2), .second, .val (.long (own_v1 q1 q2)), .second, .val (.long (own_v2 q1 q2)), .second, .val (.long (own_v3 q1 q2)), .second, .val (.long (own_v4 q1 q2)), .second, .unset, .unset, .unset, .unset, .unset, .unset] [(.long q2), (.long (own_v4 q1 q2))])) _
    refine XS.ldiv X0.here hx rfl (hb hby d6_28) rfl hnz28 ?_
    show Steps p.tables e below (s₁.setTop (mkF m 29 #[.val (.long q1), .second, .val (.long q2), .second, .val (.long (own_v1 q1 q2)), .second, .val (.long (own_v2 q1 q2)), .second, .val (.long (own_v3 q1 q2)), .second, .val (.long (own_v4 q1 q2)), .second, .unset, .unset, .unset, .unset, .unset, .unset] [(.long (own_v5 q1 q2))])) _
    refine XS.lstore X0.here hx rfl (hb hby d6_29) rfl (l' := #[.val (.long q1), .second, .val (.long q2), .second, .val (.long (own_v1 q1 q2)), .second, .val (.long (own_v2 q1 q2)), .second, .val (.long (own_v3 q1 q2)), .second, .val (.long (own_v4 q1 q2)), .second, .val (.long (own_v5 q1 q2)), .second, .unset, .unset, .unset, .unset]) rfl ?_
    show Steps p.tables e below (s₁.setTop (mkF m 31 #[.val (.long q1), .second, .val (.long q2), .second, .val (.long (own_v1 q1 q2)), .second, .val (.long (own_v2 q1 q2)), .second, .val (.long (own_v3 q1 q2)), .second, .val (.long (own_v4 q1 q2)), .second, .val (.long (own_v5 q1 q2)), .second, .unset, .unset, .unset, .unset] [])) _
    refine XS.lload X0.here hx rfl (hb hby d6_31) rfl ?_
    show Steps p.tables e below (s₁.setTop (mkF m 33 #[.val (.long q1), .second, .val (.long q2), .second, .val (.long (own_v1 q1 q2)), .second, .val (.long (own_v2 q1 q2)), .second, .val (.long (own_v3 q1 q2)), .second, .val (.long (own_v4 q1 q2)), .second, .val (.long (own_v5 q1 q2)), .second, .unset, .unset, .unset, .unset] [(.long (own_v4 q1 q2))])) _
    refine XS.lloadN X0.here hx rfl (hb hby d6_33) rfl ?_
    show Steps p.tables e below (s₁.setTop (mkF m 34 #[.val (.long q1), .second, .val (.long q2), .second, .val (.long (own_v1 q1 q2)), .second, .val (.long (own_v2 q1 q2)), .second, .val (.long (own_v3 q1 q2)), .second, .val (.long (own_v4 q1 q2)), .second, .val (.long (own_v5 q1 q2)), .second, .unset, .unset, .unset, .unset] [(.long q2), (.long (own_v4 q1 q2))])) _
    refine XS.lrem X0.here hx rfl (hb hby d6_34) rfl hnz34 ?_
    show Steps p.tables e below (s₁.setTop (mkF m 35 #[.val (.long q1), .second, .val (.long q2), .second, .val (.long (own_v1 q1 q2)), .second, .val (.long (own_v2 q1 q2)), .second, .val (.long (own_v3 q1 q2)), .second, .val (.long (own_v4 q1 q2)), .second, .val (.long (own_v5 q1 q2)), .second, .unset, .unset, .unset, .unset] [(.long (own_v6 q1 q2))])) _
    refine XS.lstore X0.here hx rfl (hb hby d6_35) rfl (l' := #[.val (.long q1), .second, .val (.long q2), .second, .val (.long (own_v1 q1 q2)), .second, .val (.long (own_v2 q1 q2)), .second, .val (.long (own_v3 q1 q2)), .second, .val (.long (own_v4 q1 q2)), .second, .val (.long (own_v5 q1 q2)), .second, .val (.long (own_v6 q1 q2)), .second, .unset, .unset]) rfl ?_
    show Steps p.tables e below (s₁.setTop (mkF m 37 #[.val (.long q1), .second, .val (.long q2), .second, .val (.long (own_v1 q1 q2)), .second, .val (.long (own_v2 q1 q2)), .second, .val (.long (own_v3 q1 q2)), .second, .val (.long (own_v4 q1 q2)), .second, .val (.long (own_v5 q1 q2)), .second, .val (.long (own_v6 q1 q2)), .second, .unset, .unset] [])) _
    refine XS.lload X0.here hx rfl (hb hby d6_37) rfl ?_
    show Steps p.tables e below (s₁.setTop (mkF m 39 #[.val (.long q1), .second, .val (.long q2), .second, .val (.long (own_v1 q1 q2)), .second, .val (.long (own_v2 q1 q2)), .second, .val (.long (own_v3 q1 q2)), .second, .val (.long (own_v4 q1 q2)), .second, .val (.long (own_v5 q1 q2)), .second, .val (.long (own_v6 q1 q2)), .second, .unset, .unset] [(.long (own_v2 q1 q2))])) _
    refine XS.bipush X0.here hx rfl (hb hby d6_39) ?_
    show Steps p.tables e below (s₁.setTop (mkF m 41 #[.val (.long q1), .second, .val (.long q2), .second, .val (.long (own_v1 q1 q2)), .second, .val (.long (own_v2 q1 q2)), .second, .val (.long (own_v3 q1 q2)), .second, .val (.long (own_v4 q1 q2)), .second, .val (.long (own_v5 q1 q2)), .second, .val (.long (own_v6 q1 q2)), .second, .unset, .unset] [(.int (32 : Int32)), (.long (own_v2 q1 q2))])) _
    refine XS.lshl X0.here hx rfl (hb hby d6_41) rfl ?_
    show Steps p.tables e below (s₁.setTop (mkF m 42 #[.val (.long q1), .second, .val (.long q2), .second, .val (.long (own_v1 q1 q2)), .second, .val (.long (own_v2 q1 q2)), .second, .val (.long (own_v3 q1 q2)), .second, .val (.long (own_v4 q1 q2)), .second, .val (.long (own_v5 q1 q2)), .second, .val (.long (own_v6 q1 q2)), .second, .unset, .unset] [(.long (own_v7 q1 q2))])) _
    refine XS.lload X0.here hx rfl (hb hby d6_42) rfl ?_
    show Steps p.tables e below (s₁.setTop (mkF m 44 #[.val (.long q1), .second, .val (.long q2), .second, .val (.long (own_v1 q1 q2)), .second, .val (.long (own_v2 q1 q2)), .second, .val (.long (own_v3 q1 q2)), .second, .val (.long (own_v4 q1 q2)), .second, .val (.long (own_v5 q1 q2)), .second, .val (.long (own_v6 q1 q2)), .second, .unset, .unset] [(.long (own_v5 q1 q2)), (.long (own_v7 q1 q2))])) _
    refine XS.ladd X0.here hx rfl (hb hby d6_44) rfl ?_
    show Steps p.tables e below (s₁.setTop (mkF m 45 #[.val (.long q1), .second, .val (.long q2), .second, .val (.long (own_v1 q1 q2)), .second, .val (.long (own_v2 q1 q2)), .second, .val (.long (own_v3 q1 q2)), .second, .val (.long (own_v4 q1 q2)), .second, .val (.long (own_v5 q1 q2)), .second, .val (.long (own_v6 q1 q2)), .second, .unset, .unset] [(.long (own_v8 q1 q2))])) _
    refine XS.lstore X0.here hx rfl (hb hby d6_45) rfl (l' := #[.val (.long q1), .second, .val (.long q2), .second, .val (.long (own_v1 q1 q2)), .second, .val (.long (own_v2 q1 q2)), .second, .val (.long (own_v3 q1 q2)), .second, .val (.long (own_v4 q1 q2)), .second, .val (.long (own_v5 q1 q2)), .second, .val (.long (own_v6 q1 q2)), .second, .val (.long (own_v8 q1 q2)), .second]) rfl ?_
    show Steps p.tables e below (s₁.setTop (mkF m 47 #[.val (.long q1), .second, .val (.long q2), .second, .val (.long (own_v1 q1 q2)), .second, .val (.long (own_v2 q1 q2)), .second, .val (.long (own_v3 q1 q2)), .second, .val (.long (own_v4 q1 q2)), .second, .val (.long (own_v5 q1 q2)), .second, .val (.long (own_v6 q1 q2)), .second, .val (.long (own_v8 q1 q2)), .second] [])) _
    refine XS.lload X0.here hx rfl (hb hby d6_47) rfl ?_
    show Steps p.tables e below (s₁.setTop (mkF m 49 #[.val (.long q1), .second, .val (.long q2), .second, .val (.long (own_v1 q1 q2)), .second, .val (.long (own_v2 q1 q2)), .second, .val (.long (own_v3 q1 q2)), .second, .val (.long (own_v4 q1 q2)), .second, .val (.long (own_v5 q1 q2)), .second, .val (.long (own_v6 q1 q2)), .second, .val (.long (own_v8 q1 q2)), .second] [(.long (own_v6 q1 q2))])) _
    refine XS.lconst X0.here hx rfl (hb hby d6_49) ?_
    show Steps p.tables e below (s₁.setTop (mkF m 50 #[.val (.long q1), .second, .val (.long q2), .second, .val (.long (own_v1 q1 q2)), .second, .val (.long (own_v2 q1 q2)), .second, .val (.long (own_v3 q1 q2)), .second, .val (.long (own_v4 q1 q2)), .second, .val (.long (own_v5 q1 q2)), .second, .val (.long (own_v6 q1 q2)), .second, .val (.long (own_v8 q1 q2)), .second] [(.long (0 : Int64)), (.long (own_v6 q1 q2))])) _
    refine XS.lcmp X0.here hx rfl (hb hby d6_50) rfl ?_
    show Steps p.tables e below (s₁.setTop (mkF m 51 #[.val (.long q1), .second, .val (.long q2), .second, .val (.long (own_v1 q1 q2)), .second, .val (.long (own_v2 q1 q2)), .second, .val (.long (own_v3 q1 q2)), .second, .val (.long (own_v4 q1 q2)), .second, .val (.long (own_v5 q1 q2)), .second, .val (.long (own_v6 q1 q2)), .second, .val (.long (own_v8 q1 q2)), .second] [(.int (lcmpW (own_v6 q1 q2) (0 : Int64)))])) _
    refine XS.ifNo X0.here hx rfl (hb hby d6_51) rfl ((if0 _ _).trans (feq hc51).1) ?_
    show Steps p.tables e below (s₁.setTop (mkF m 54 #[.val (.long q1), .second, .val (.long q2), .second, .val (.long (own_v1 q1 q2)), .second, .val (.long (own_v2 q1 q2)), .second, .val (.long (own_v3 q1 q2)), .second, .val (.long (own_v4 q1 q2)), .second, .val (.long (own_v5 q1 q2)), .second, .val (.long (own_v6 q1 q2)), .second, .val (.long (own_v8 q1 q2)), .second] [])) _
    refine XS.lload X0.here hx rfl (hb hby d6_54) rfl ?_
    show Steps p.tables e below (s₁.setTop (mkF m 56 #[.val (.long q1), .second, .val (.long q2), .second, .val (.long (own_v1 q1 q2)), .second, .val (.long (own_v2 q1 q2)), .second, .val (.long (own_v3 q1 q2)), .second, .val (.long (own_v4 q1 q2)), .second, .val (.long (own_v5 q1 q2)), .second, .val (.long (own_v6 q1 q2)), .second, .val (.long (own_v8 q1 q2)), .second] [(.long (own_v8 q1 q2))])) _
    refine XS.lconst X0.here hx rfl (hb hby d6_56) ?_
    show Steps p.tables e below (s₁.setTop (mkF m 57 #[.val (.long q1), .second, .val (.long q2), .second, .val (.long (own_v1 q1 q2)), .second, .val (.long (own_v2 q1 q2)), .second, .val (.long (own_v3 q1 q2)), .second, .val (.long (own_v4 q1 q2)), .second, .val (.long (own_v5 q1 q2)), .second, .val (.long (own_v6 q1 q2)), .second, .val (.long (own_v8 q1 q2)), .second] [(.long (1 : Int64)), (.long (own_v8 q1 q2))])) _
    refine XS.ladd X0.here hx rfl (hb hby d6_57) rfl ?_
    show Steps p.tables e below (s₁.setTop (mkF m 58 #[.val (.long q1), .second, .val (.long q2), .second, .val (.long (own_v1 q1 q2)), .second, .val (.long (own_v2 q1 q2)), .second, .val (.long (own_v3 q1 q2)), .second, .val (.long (own_v4 q1 q2)), .second, .val (.long (own_v5 q1 q2)), .second, .val (.long (own_v6 q1 q2)), .second, .val (.long (own_v8 q1 q2)), .second] [(.long (own_v9 q1 q2))])) _
    refine XS.lstore X0.here hx rfl (hb hby d6_58) rfl (l' := #[.val (.long q1), .second, .val (.long q2), .second, .val (.long (own_v1 q1 q2)), .second, .val (.long (own_v2 q1 q2)), .second, .val (.long (own_v3 q1 q2)), .second, .val (.long (own_v4 q1 q2)), .second, .val (.long (own_v5 q1 q2)), .second, .val (.long (own_v6 q1 q2)), .second, .val (.long (own_v9 q1 q2)), .second]) rfl ?_
    show Steps p.tables e below (s₁.setTop (mkF m 60 #[.val (.long q1), .second, .val (.long q2), .second, .val (.long (own_v1 q1 q2)), .second, .val (.long (own_v2 q1 q2)), .second, .val (.long (own_v3 q1 q2)), .second, .val (.long (own_v4 q1 q2)), .second, .val (.long (own_v5 q1 q2)), .second, .val (.long (own_v6 q1 q2)), .second, .val (.long (own_v9 q1 q2)), .second] [])) _
    refine XS.lload X0.here hx rfl (hb hby d6_60) rfl ?_
    show Steps p.tables e below (s₁.setTop (mkF m 62 #[.val (.long q1), .second, .val (.long q2), .second, .val (.long (own_v1 q1 q2)), .second, .val (.long (own_v2 q1 q2)), .second, .val (.long (own_v3 q1 q2)), .second, .val (.long (own_v4 q1 q2)), .second, .val (.long (own_v5 q1 q2)), .second, .val (.long (own_v6 q1 q2)), .second, .val (.long (own_v9 q1 q2)), .second] [(.long (own_v9 q1 q2))])) _
    exact own_retL X0 hx Bd.returns (hb hby d6_62) hr
  · show Q6 Z q1 q2 h0 n0 _ s₁.heap _
    rw [e0]
    exact ⟨congrArg (fun z => some (Value.long z)) (own_share_2 hc51), N0, rfl⟩
theorem rm6 (l : Launch) (Z : State) (a0 : Array Value) (hw : ∀ d ∈ tables_1, d.before a0 Z = true) (ws : List Jvm.Cond) (q1 : Int64) (q2 : Int64) (h0 : Heap) (n0 : Nat) (Z0 : n0 ≤ h0.size) (hnz : ¬ (q2 = (0 : Int64))) :
    MetFree l (⟨"com/example/level_ring/levelring/placement/CutFirstOffsetOfPinLaw", "ceilShare", "(JJ)J"⟩ : MethodName) (head1 (Jvm.Cond.code (⟨"com/example/level_ring/levelring/placement/CutFirstOffsetOfPinLaw", "ceilShare", "(JJ)J"⟩ : MethodName) method_2_code 18 (some .long) :: ws) ({ frames := 0, cells := 0, slots := 0, locals := 0 } : Room)) (fun a U => a = #[(.long q1), (.long q2)] ∧ Z.Warmed39 U.vm ∧ U.heap = h0) (fun _ _ _ _ _ => True) (fun _ U o U' => ∃ v L, o = .returned v ∧ Q6 Z q1 q2 h0 n0 v U'.heap L ∧ FrameEnd U o U' L ({ frames := 0, cells := 0, slots := 0, locals := 0 } : Room).cells ({ frames := 0, cells := 0, slots := 0, locals := 0 } : Room).slots) := by
  by_cases hc51 : (lcmpW (own_v6 q1 q2) (0 : Int64)) = (0 : Int32)
  · exact rm6_t l Z a0 hw ws q1 q2 h0 n0 Z0 hnz hnz hnz hnz (fun _ => hc51)
  · exact rm6_f l Z a0 hw ws q1 q2 h0 n0 Z0 hnz hnz hnz hnz hc51
theorem d1_0 : decode prog_55_method_1_code 0 = .ok (.aload_n 0, 1) := by decide +kernel
theorem d1_1 : decode prog_55_method_1_code 1 = .ok (.invokespecial 1, 3) := by decide +kernel
theorem d1_4 : decode prog_55_method_1_code 4 = .ok (.aload_n 0, 1) := by decide +kernel
theorem d1_5 : decode prog_55_method_1_code 5 = .ok (.lload_n 1, 1) := by decide +kernel
theorem d1_6 : decode prog_55_method_1_code 6 = .ok (.putfield 7, 3) := by decide +kernel
theorem d1_9 : decode prog_55_method_1_code 9 = .ok (.ldc2_w 13, 3) := by decide +kernel
theorem d1_12 : decode prog_55_method_1_code 12 = .ok (.lload_n 1, 1) := by decide +kernel
theorem d1_13 : decode prog_55_method_1_code 13 = .ok (.invokestatic 15, 3) := by decide +kernel
theorem d1_16 : decode prog_55_method_1_code 16 = .ok (.lstore_n 3, 1) := by decide +kernel
theorem d1_17 : decode prog_55_method_1_code 17 = .ok (.ldc2_w 13, 3) := by decide +kernel
theorem d1_20 : decode prog_55_method_1_code 20 = .ok (.lload_n 1, 1) := by decide +kernel
theorem d1_21 : decode prog_55_method_1_code 21 = .ok (.invokestatic 21, 3) := by decide +kernel
theorem d1_24 : decode prog_55_method_1_code 24 = .ok (.lconst 1, 1) := by decide +kernel
theorem d1_25 : decode prog_55_method_1_code 25 = .ok (.ladd, 1) := by decide +kernel
theorem d1_26 : decode prog_55_method_1_code 26 = .ok (.lstore 5, 2) := by decide +kernel
theorem d1_28 : decode prog_55_method_1_code 28 = .ok (.lload 5, 2) := by decide +kernel
theorem d1_30 : decode prog_55_method_1_code 30 = .ok (.lload_n 1, 1) := by decide +kernel
theorem d1_31 : decode prog_55_method_1_code 31 = .ok (.lcmp, 1) := by decide +kernel
theorem d1_32 : decode prog_55_method_1_code 32 = .ok (.ifCond .ne 10, 3) := by decide +kernel
theorem d1_35 : decode prog_55_method_1_code 35 = .ok (.lload_n 3, 1) := by decide +kernel
theorem d1_36 : decode prog_55_method_1_code 36 = .ok (.lconst 1, 1) := by decide +kernel
theorem d1_37 : decode prog_55_method_1_code 37 = .ok (.ladd, 1) := by decide +kernel
theorem d1_38 : decode prog_55_method_1_code 38 = .ok (.lstore_n 3, 1) := by decide +kernel
theorem d1_39 : decode prog_55_method_1_code 39 = .ok (.lconst 0, 1) := by decide +kernel
theorem d1_40 : decode prog_55_method_1_code 40 = .ok (.lstore 5, 2) := by decide +kernel
theorem d1_42 : decode prog_55_method_1_code 42 = .ok (.aload_n 0, 1) := by decide +kernel
theorem d1_43 : decode prog_55_method_1_code 43 = .ok (.lload_n 3, 1) := by decide +kernel
theorem d1_44 : decode prog_55_method_1_code 44 = .ok (.putfield 24, 3) := by decide +kernel
theorem d1_47 : decode prog_55_method_1_code 47 = .ok (.aload_n 0, 1) := by decide +kernel
theorem d1_48 : decode prog_55_method_1_code 48 = .ok (.lload 5, 2) := by decide +kernel
theorem d1_50 : decode prog_55_method_1_code 50 = .ok (.putfield 27, 3) := by decide +kernel
theorem d1_53 : decode prog_55_method_1_code 53 = .ok (.return_, 1) := by decide +kernel
theorem pn_1 : plainName "com/example/level_ring/levelring/placement/PartitionSlots$Cut" = true := by first | (simp [plainName, overriddenIn]; done) | decide +kernel
theorem pdw_0 : parseMethodDescriptor "(JJ)J" = some ⟨[.long, .long], some .long⟩ := by decide +kernel
theorem ef_1 (m : MethodId) (x0 : Addr) (x1 : Int64) : entryFrame m #[(.ref x0), (.long x1)] 7 = mkF m 0 #[.val (.ref x0), .val (.long x1), .second, .unset, .unset, .unset, .unset] [] := by first | (simp [entryFrame, mkF, argsToLocals, Value.category]; done) | rfl
def Q1 (Z : State) (a1 : Addr) (q2 : Int64) (u_parts_a1 : Value) (u_unit_a1 : Value) (u_rest_a1 : Value) (h0 : Heap) (n0 : Nat) (v : Option Value) (h : Heap) (L : List Loc) : Prop := v = none ∧ Fr n0 L ∧ Keep h0 h [a1] ∧ Exa Z h a1 "com/example/level_ring/levelring/placement/PartitionSlots$Cut" ∧ Fld Z h a1 "com/example/level_ring/levelring/placement/PartitionSlots$Cut" "parts" "J" (.long q2) ∧ Fld Z h a1 "com/example/level_ring/levelring/placement/PartitionSlots$Cut" "unit" "J" (.long (own_unit q2)) ∧ Fld Z h a1 "com/example/level_ring/levelring/placement/PartitionSlots$Cut" "rest" "J" (.long (own_rest q2))
set_option maxRecDepth 65536 in
set_option maxHeartbeats 40000000 in
theorem rm1_f (l : Launch) (Z : State) (a0 : Array Value) (hw : ∀ d ∈ tables_1, d.before a0 Z = true) (ws : List Jvm.Cond) (a1 : Addr) (q2 : Int64) (u_parts_a1 : Value) (u_unit_a1 : Value) (u_rest_a1 : Value) (h0 : Heap) (n0 : Nat) (Z0 : n0 ≤ h0.size) (E_a1 : Exa Z h0 a1 "com/example/level_ring/levelring/placement/PartitionSlots$Cut") (F_parts_a1 : Fld Z h0 a1 "com/example/level_ring/levelring/placement/PartitionSlots$Cut" "parts" "J" u_parts_a1) (g_a1 : n0 ≤ a1) (F_unit_a1 : Fld Z h0 a1 "com/example/level_ring/levelring/placement/PartitionSlots$Cut" "unit" "J" u_unit_a1) (F_rest_a1 : Fld Z h0 a1 "com/example/level_ring/levelring/placement/PartitionSlots$Cut" "rest" "J" u_rest_a1) (hc : ¬ ((lcmpW q2 (0 : Int64)) < (0 : Int32))) (hnz : ¬ (q2 = (0 : Int64))) (hb32 : True → lcmpW (own_remU (-1) q2 + (1 : Int64)) q2 = (0 : Int32)) :
    MetFree l (⟨"com/example/level_ring/levelring/placement/PartitionSlots$Cut", "<init>", "(J)V"⟩ : MethodName) (head1 (Jvm.Cond.code (⟨"com/example/level_ring/levelring/placement/PartitionSlots$Cut", "<init>", "(J)V"⟩ : MethodName) prog_55_method_1_code 7 none :: ws) ({ frames := 1, cells := 0, slots := 0, locals := 19 } : Room)) (fun a U => a = #[(.ref a1), (.long q2)] ∧ Z.Warmed39 U.vm ∧ U.heap = h0) (fun _ _ _ _ _ => True) (fun _ U o U' => ∃ v L, o = .returned v ∧ Q1 Z a1 q2 u_parts_a1 u_unit_a1 u_rest_a1 h0 n0 v U'.heap L ∧ FrameEnd U o U' L ({ frames := 1, cells := 0, slots := 0, locals := 19 } : Room).cells ({ frames := 1, cells := 0, slots := 0, locals := 19 } : Room).slots) := by
  refine MetFree.of_bodySF (plainFor_of_name pn_1) hisR ?_
  intro p e s m args below meth c s₁ Bd hml0 hP hK
  obtain ⟨rfl, hZ, hh⟩ := hP
  have hx := Bd.exec
  have hby := Bd.bytes
  have hml : c.maxLocals = 7 := hml0
  have hown : s.vm.findClass "com/example/level_ring/levelring/placement/PartitionSlots$Cut" = some m.cls := findClass_of_methodNamed Bd.named
  have hnm := (name_of_methodNamed Bd.named Bd.method).1
  have X0 : Stand p l e ({ frames := 1, cells := 0, slots := 0, locals := 19 } : Room) s m #[(.ref a1), (.long q2)] below meth c s₁ [] 0 0 := Stand.of_body Bd
  have e0 : s₁.heap = h0 := by rw [← hh, Bd.state]; rfl
  have N0 := Fr.nil n0
  have pre0 : ∀ t, Steps p.tables e below (s₁.setTop (mkF m 0 #[.val (.ref a1), .val (.long q2), .second, .unset, .unset, .unset, .unset] [])) t → Steps p.tables e below (s₁.setTop (entryFrame m #[(.ref a1), (.long q2)] 7)) t := fun t k => castTop (ef_1 m a1 q2) k
  -- 3. LAWS
  obtain ⟨T3, X3, e3, st3⟩ := initO X0 hx hZ hown (hw _ (List.mem_of_getElem? (i := 7) rfl)) (hw _ (List.mem_of_getElem? (i := 8) rfl)) (hw _ (List.mem_of_getElem? (i := 9) rfl)) e0 (g := (mkF m 1 #[.val (.ref a1), .val (.long q2), .second, .unset, .unset, .unset, .unset] [(.ref a1)])) rfl (by rw [hml]; rfl) rfl (hb hby d1_1) (by decide) (W := 0) (by show 2 * 0 + _ ≤ _; exact Nat.le_of_eq rfl) (by decide)
  obtain ⟨T4, h4, X4, e4, W4, st4⟩ := putF X3 hx hZ hown (host := "") (Or.inl (hw _ (List.mem_of_getElem? (i := 10) rfl))) Via.refl e3 F_parts_a1 E_a1 (Or.inr ⟨(hw _ (List.mem_of_getElem? (i := 11) rfl)), rfl, hnm⟩) (hw _ (List.mem_of_getElem? (i := 2) rfl)) (ty := .long) (by decide) rfl rfl (g := (mkF m 6 #[.val (.ref a1), .val (.long q2), .second, .unset, .unset, .unset, .unset] [(.long q2), (.ref a1)])) rfl rfl (hb hby d1_6)
  have Fw4 := F_parts_a1.same W4      -- the field now holds (.long q2)
  have K4 : Keep h0 h4 [a1] := (Keep.refl h0 [a1]).wr W4 (Or.inl (List.mem_of_getElem? (i := 0) rfl))
  have N4 := Fr.snoc X4 N0 g_a1
  -- pc 13: java/lang/Long.divideUnsigned by its contract rm3
  obtain ⟨_, _, ⟨T5, L5, k5, n5⟩, -, X5, ⟨Lc5, hQ5, l5, y5, z5⟩, st5⟩ := Jvm.LawKit.callS X4 hx (y := (⟨"java/lang/Long", "divideUnsigned", "(JJ)J"⟩ : MethodName)) hown (mvT hZ (hw _ (List.mem_of_getElem? (i := 13) rfl))) (mvT hZ (hw _ (List.mem_of_getElem? (i := 14) rfl))) (mvT hZ (hw _ (List.mem_of_getElem? (i := 15) rfl))) (mvT hZ (hw _ (List.mem_of_getElem? (i := 16) rfl))) (by decide) (backOf (W := 0) (rm3 l Z a0 hw [] (-1 : Int64) q2  h4 n0 (Nat.le_trans Z0 K4.1) hc hnz) hZ (hw _ (List.mem_of_getElem? (i := 16) rfl)) (hw _ (List.mem_of_getElem? (i := 15) rfl)) (by decide) (by decide)) (g := (mkF m 13 #[.val (.ref a1), .val (.long q2), .second, .unset, .unset, .unset, .unset] [(.long q2), (.long (-1 : Int64))])) rfl (by rw [hml]; rfl) (argsL := [(.long (-1 : Int64)), (.long q2)]) (rest := []) (lenOf pdw_0 rfl) rfl (by show 2 * 0 + _ ≤ _; exact Nat.le_of_eq rfl) (hb hby d1_13) (fun _ _ => ⟨rfl, e4, (by decide : 0 + 0 ≤ _), (by decide : 0 + 0 ≤ _)⟩)
  dsimp only [Pt.U, Pt.locs, Pt.cells, Pt.slots] at X5 l5 y5 z5 st5 hQ5
  subst l5 y5 z5
  obtain ⟨rfl, N5q, hh5⟩ := hQ5
  have N5 := Fr.app N4 N5q
  -- pc 21: java/lang/Long.remainderUnsigned by its contract rm4
  obtain ⟨_, _, ⟨T6, L6, k6, n6⟩, -, X6, ⟨Lc6, hQ6, l6, y6, z6⟩, st6⟩ := Jvm.LawKit.callS X5 hx (y := (⟨"java/lang/Long", "remainderUnsigned", "(JJ)J"⟩ : MethodName)) hown (mvT hZ (hw _ (List.mem_of_getElem? (i := 18) rfl))) (mvT hZ (hw _ (List.mem_of_getElem? (i := 19) rfl))) (mvT hZ (hw _ (List.mem_of_getElem? (i := 15) rfl))) (mvT hZ (hw _ (List.mem_of_getElem? (i := 20) rfl))) (by decide) (backOf (W := 0) (rm4 l Z a0 hw [] (-1 : Int64) q2  h4 n0 (Nat.le_trans Z0 K4.1) hc hnz) hZ (hw _ (List.mem_of_getElem? (i := 20) rfl)) (hw _ (List.mem_of_getElem? (i := 15) rfl)) (by decide) (by decide)) (g := (mkF m 21 #[.val (.ref a1), .val (.long q2), .second, .val (.long (own_divU (-1) q2)), .second, .unset, .unset] [(.long q2), (.long (-1 : Int64))])) rfl (by rw [hml]; rfl) (argsL := [(.long (-1 : Int64)), (.long q2)]) (rest := []) (lenOf pdw_0 rfl) rfl (by show 2 * 0 + _ ≤ _; exact Nat.le_of_eq rfl) (hb hby d1_21) (fun _ _ => ⟨rfl, hh5, (by decide : 0 + 0 ≤ _), (by decide : 0 + 0 ≤ _)⟩)
  dsimp only [Pt.U, Pt.locs, Pt.cells, Pt.slots] at X6 l6 y6 z6 st6 hQ6
  subst l6 y6 z6
  obtain ⟨rfl, N6q, hh6⟩ := hQ6
  have N6 := Fr.app N5 N6q
  obtain ⟨T7, h7, X7, e7, W7, st7⟩ := putF X6 hx hZ hown (host := "") (Or.inl (hw _ (List.mem_of_getElem? (i := 21) rfl))) Via.refl hh6 (((F_unit_a1.other W4 (Or.inr (slot_ne (Or.inr (hw _ (List.mem_of_getElem? (i := 22) rfl))) (Or.inr (hw _ (List.mem_of_getElem? (i := 11) rfl))) (by decide) (t := .long) (t' := .long) (by decide) (by decide)))))) (((E_a1.wr W4))) (Or.inr ⟨(hw _ (List.mem_of_getElem? (i := 22) rfl)), rfl, hnm⟩) (hw _ (List.mem_of_getElem? (i := 2) rfl)) (ty := .long) (by decide) rfl rfl (g := (mkF m 44 #[.val (.ref a1), .val (.long q2), .second, .val (.long ((own_divU (-1) q2) + (1 : Int64))), .second, .val (.long (0 : Int64)), .second] [(.long ((own_divU (-1) q2) + (1 : Int64))), (.ref a1)])) rfl rfl (hb hby d1_44)
  have Fw7 := (((F_unit_a1.other W4 (Or.inr (slot_ne (Or.inr (hw _ (List.mem_of_getElem? (i := 22) rfl))) (Or.inr (hw _ (List.mem_of_getElem? (i := 11) rfl))) (by decide) (t := .long) (t' := .long) (by decide) (by decide)))))).same W7      -- the field now holds (.long ((own_divU (-1) q2) + (1 : Int64)))
  have K7 : Keep h0 h7 [a1] := K4.wr W7 (Or.inl (List.mem_of_getElem? (i := 0) rfl))
  have N7 := Fr.snoc X7 N6 g_a1
  obtain ⟨T8, h8, X8, e8, W8, st8⟩ := putF X7 hx hZ hown (host := "") (Or.inl (hw _ (List.mem_of_getElem? (i := 23) rfl))) Via.refl e7 ((((F_rest_a1.other W4 (Or.inr (slot_ne (Or.inr (hw _ (List.mem_of_getElem? (i := 24) rfl))) (Or.inr (hw _ (List.mem_of_getElem? (i := 11) rfl))) (by decide) (t := .long) (t' := .long) (by decide) (by decide)))))).other W7 (Or.inr (slot_ne (Or.inr (hw _ (List.mem_of_getElem? (i := 24) rfl))) (Or.inr (hw _ (List.mem_of_getElem? (i := 22) rfl))) (by decide) (t := .long) (t' := .long) (by decide) (by decide)))) ((((E_a1.wr W4))).wr W7) (Or.inr ⟨(hw _ (List.mem_of_getElem? (i := 24) rfl)), rfl, hnm⟩) (hw _ (List.mem_of_getElem? (i := 2) rfl)) (ty := .long) (by decide) rfl rfl (g := (mkF m 50 #[.val (.ref a1), .val (.long q2), .second, .val (.long ((own_divU (-1) q2) + (1 : Int64))), .second, .val (.long (0 : Int64)), .second] [(.long (0 : Int64)), (.ref a1)])) rfl rfl (hb hby d1_50)
  have Fw8 := ((((F_rest_a1.other W4 (Or.inr (slot_ne (Or.inr (hw _ (List.mem_of_getElem? (i := 24) rfl))) (Or.inr (hw _ (List.mem_of_getElem? (i := 11) rfl))) (by decide) (t := .long) (t' := .long) (by decide) (by decide)))))).other W7 (Or.inr (slot_ne (Or.inr (hw _ (List.mem_of_getElem? (i := 24) rfl))) (Or.inr (hw _ (List.mem_of_getElem? (i := 22) rfl))) (by decide) (t := .long) (t' := .long) (by decide) (by decide)))).same W8      -- the field now holds (.long (0 : Int64))
  have K8 : Keep h0 h8 [a1] := K7.wr W8 (Or.inl (List.mem_of_getElem? (i := 0) rfl))
  have N8 := Fr.snoc X8 N7 g_a1
  obtain ⟨fs, hr, hrun, hended, hW, hsame⟩ := X8.leave (v := none) (fun _ => rfl)
  refine ⟨_, _, pre0 _ ?_, hrun, hended, _, _, rfl, ?_, ⟨_, rfl⟩, hW, hsame.mono (by decide) (by decide)⟩
  -- 4. STEPS
  · show Steps p.tables e below (s₁.setTop (mkF m 0 #[.val (.ref a1), .val (.long q2), .second, .unset, .unset, .unset, .unset] [])) _
    refine XS.aloadN X0.here hx rfl (hb hby d1_0) rfl rfl ?_
    show Steps p.tables e below (s₁.setTop (mkF m 1 #[.val (.ref a1), .val (.long q2), .second, .unset, .unset, .unset, .unset] [(.ref a1)])) _
    refine st3 _ ?_
    show Steps p.tables e below (T3.setTop (mkF m 4 #[.val (.ref a1), .val (.long q2), .second, .unset, .unset, .unset, .unset] [])) _
    refine XS.aloadN X3.here hx rfl (hb hby d1_4) rfl rfl ?_
    show Steps p.tables e below (T3.setTop (mkF m 5 #[.val (.ref a1), .val (.long q2), .second, .unset, .unset, .unset, .unset] [(.ref a1)])) _
    refine XS.lloadN X3.here hx rfl (hb hby d1_5) rfl ?_
    show Steps p.tables e below (T3.setTop (mkF m 6 #[.val (.ref a1), .val (.long q2), .second, .unset, .unset, .unset, .unset] [(.long q2), (.ref a1)])) _
    refine st4 _ ?_
    show Steps p.tables e below (T4.setTop (mkF m 9 #[.val (.ref a1), .val (.long q2), .second, .unset, .unset, .unset, .unset] [])) _
    refine X4.ldc2Long hx hown (mvT hZ (hw _ (List.mem_of_getElem? (i := 12) rfl))) (g := (mkF m 9 #[.val (.ref a1), .val (.long q2), .second, .unset, .unset, .unset, .unset] [])) rfl (hb hby d1_9) _ ?_
    show Steps p.tables e below (T4.setTop (mkF m 12 #[.val (.ref a1), .val (.long q2), .second, .unset, .unset, .unset, .unset] [(.long (-1 : Int64))])) _
    refine XS.lloadN X4.here hx rfl (hb hby d1_12) rfl ?_
    show Steps p.tables e below (T4.setTop (mkF m 13 #[.val (.ref a1), .val (.long q2), .second, .unset, .unset, .unset, .unset] [(.long q2), (.long (-1 : Int64))])) _
    refine st5 _ ?_
    show Steps p.tables e below (T5.setTop (mkF m 16 #[.val (.ref a1), .val (.long q2), .second, .unset, .unset, .unset, .unset] [(.long (own_divU (-1) q2))])) _
    refine XS.lstoreN X5.here hx rfl (hb hby d1_16) rfl (l' := #[.val (.ref a1), .val (.long q2), .second, .val (.long (own_divU (-1) q2)), .second, .unset, .unset]) rfl ?_
    show Steps p.tables e below (T5.setTop (mkF m 17 #[.val (.ref a1), .val (.long q2), .second, .val (.long (own_divU (-1) q2)), .second, .unset, .unset] [])) _
    refine X5.ldc2Long hx hown (mvT hZ (hw _ (List.mem_of_getElem? (i := 12) rfl))) (g := (mkF m 17 #[.val (.ref a1), .val (.long q2), .second, .val (.long (own_divU (-1) q2)), .second, .unset, .unset] [])) rfl (hb hby d1_17) _ ?_
    show Steps p.tables e below (T5.setTop (mkF m 20 #[.val (.ref a1), .val (.long q2), .second, .val (.long (own_divU (-1) q2)), .second, .unset, .unset] [(.long (-1 : Int64))])) _
    refine XS.lloadN X5.here hx rfl (hb hby d1_20) rfl ?_
    show Steps p.tables e below (T5.setTop (mkF m 21 #[.val (.ref a1), .val (.long q2), .second, .val (.long (own_divU (-1) q2)), .second, .unset, .unset] [(.long q2), (.long (-1 : Int64))])) _
    refine st6 _ ?_
    show Steps p.tables e below (T6.setTop (mkF m 24 #[.val (.ref a1), .val (.long q2), .second, .val (.long (own_divU (-1) q2)), .second, .unset, .unset] [(.long (own_remU (-1) q2))])) _
    refine XS.lconst X6.here hx rfl (hb hby d1_24) ?_
    show Steps p.tables e below (T6.setTop (mkF m 25 #[.val (.ref a1), .val (.long q2), .second, .val (.long (own_divU (-1) q2)), .second, .unset, .unset] [(.long (1 : Int64)), (.long (own_remU (-1) q2))])) _
    refine XS.ladd X6.here hx rfl (hb hby d1_25) rfl ?_
    show Steps p.tables e below (T6.setTop (mkF m 26 #[.val (.ref a1), .val (.long q2), .second, .val (.long (own_divU (-1) q2)), .second, .unset, .unset] [(.long ((own_remU (-1) q2) + (1 : Int64)))])) _
    refine XS.lstore X6.here hx rfl (hb hby d1_26) rfl (l' := #[.val (.ref a1), .val (.long q2), .second, .val (.long (own_divU (-1) q2)), .second, .val (.long ((own_remU (-1) q2) + (1 : Int64))), .second]) rfl ?_
    show Steps p.tables e below (T6.setTop (mkF m 28 #[.val (.ref a1), .val (.long q2), .second, .val (.long (own_divU (-1) q2)), .second, .val (.long ((own_remU (-1) q2) + (1 : Int64))), .second] [])) _
    refine XS.lload X6.here hx rfl (hb hby d1_28) rfl ?_
    show Steps p.tables e below (T6.setTop (mkF m 30 #[.val (.ref a1), .val (.long q2), .second, .val (.long (own_divU (-1) q2)), .second, .val (.long ((own_remU (-1) q2) + (1 : Int64))), .second] [(.long ((own_remU (-1) q2) + (1 : Int64)))])) _
    refine XS.lloadN X6.here hx rfl (hb hby d1_30) rfl ?_
    show Steps p.tables e below (T6.setTop (mkF m 31 #[.val (.ref a1), .val (.long q2), .second, .val (.long (own_divU (-1) q2)), .second, .val (.long ((own_remU (-1) q2) + (1 : Int64))), .second] [(.long q2), (.long ((own_remU (-1) q2) + (1 : Int64)))])) _
    refine XS.lcmp X6.here hx rfl (hb hby d1_31) rfl ?_
    show Steps p.tables e below (T6.setTop (mkF m 32 #[.val (.ref a1), .val (.long q2), .second, .val (.long (own_divU (-1) q2)), .second, .val (.long ((own_remU (-1) q2) + (1 : Int64))), .second] [(.int (lcmpW ((own_remU (-1) q2) + (1 : Int64)) q2))])) _
    refine XS.ifNo X6.here hx rfl (hb hby d1_32) rfl ((if0 _ _).trans (teq ((hb32 ⟨⟩) : (lcmpW ((own_remU (-1) q2) + (1 : Int64)) q2) = (0 : Int32))).2) ?_
    show Steps p.tables e below (T6.setTop (mkF m 35 #[.val (.ref a1), .val (.long q2), .second, .val (.long (own_divU (-1) q2)), .second, .val (.long ((own_remU (-1) q2) + (1 : Int64))), .second] [])) _
    refine XS.lloadN X6.here hx rfl (hb hby d1_35) rfl ?_
    show Steps p.tables e below (T6.setTop (mkF m 36 #[.val (.ref a1), .val (.long q2), .second, .val (.long (own_divU (-1) q2)), .second, .val (.long ((own_remU (-1) q2) + (1 : Int64))), .second] [(.long (own_divU (-1) q2))])) _
    refine XS.lconst X6.here hx rfl (hb hby d1_36) ?_
    show Steps p.tables e below (T6.setTop (mkF m 37 #[.val (.ref a1), .val (.long q2), .second, .val (.long (own_divU (-1) q2)), .second, .val (.long ((own_remU (-1) q2) + (1 : Int64))), .second] [(.long (1 : Int64)), (.long (own_divU (-1) q2))])) _
    refine XS.ladd X6.here hx rfl (hb hby d1_37) rfl ?_
    show Steps p.tables e below (T6.setTop (mkF m 38 #[.val (.ref a1), .val (.long q2), .second, .val (.long (own_divU (-1) q2)), .second, .val (.long ((own_remU (-1) q2) + (1 : Int64))), .second] [(.long ((own_divU (-1) q2) + (1 : Int64)))])) _
    refine XS.lstoreN X6.here hx rfl (hb hby d1_38) rfl (l' := #[.val (.ref a1), .val (.long q2), .second, .val (.long ((own_divU (-1) q2) + (1 : Int64))), .second, .val (.long ((own_remU (-1) q2) + (1 : Int64))), .second]) rfl ?_
    show Steps p.tables e below (T6.setTop (mkF m 39 #[.val (.ref a1), .val (.long q2), .second, .val (.long ((own_divU (-1) q2) + (1 : Int64))), .second, .val (.long ((own_remU (-1) q2) + (1 : Int64))), .second] [])) _
    refine XS.lconst X6.here hx rfl (hb hby d1_39) ?_
    show Steps p.tables e below (T6.setTop (mkF m 40 #[.val (.ref a1), .val (.long q2), .second, .val (.long ((own_divU (-1) q2) + (1 : Int64))), .second, .val (.long ((own_remU (-1) q2) + (1 : Int64))), .second] [(.long (0 : Int64))])) _
    refine XS.lstore X6.here hx rfl (hb hby d1_40) rfl (l' := #[.val (.ref a1), .val (.long q2), .second, .val (.long ((own_divU (-1) q2) + (1 : Int64))), .second, .val (.long (0 : Int64)), .second]) rfl ?_
    show Steps p.tables e below (T6.setTop (mkF m 42 #[.val (.ref a1), .val (.long q2), .second, .val (.long ((own_divU (-1) q2) + (1 : Int64))), .second, .val (.long (0 : Int64)), .second] [])) _
    refine XS.aloadN X6.here hx rfl (hb hby d1_42) rfl rfl ?_
    show Steps p.tables e below (T6.setTop (mkF m 43 #[.val (.ref a1), .val (.long q2), .second, .val (.long ((own_divU (-1) q2) + (1 : Int64))), .second, .val (.long (0 : Int64)), .second] [(.ref a1)])) _
    refine XS.lloadN X6.here hx rfl (hb hby d1_43) rfl ?_
    show Steps p.tables e below (T6.setTop (mkF m 44 #[.val (.ref a1), .val (.long q2), .second, .val (.long ((own_divU (-1) q2) + (1 : Int64))), .second, .val (.long (0 : Int64)), .second] [(.long ((own_divU (-1) q2) + (1 : Int64))), (.ref a1)])) _
    refine st7 _ ?_
    show Steps p.tables e below (T7.setTop (mkF m 47 #[.val (.ref a1), .val (.long q2), .second, .val (.long ((own_divU (-1) q2) + (1 : Int64))), .second, .val (.long (0 : Int64)), .second] [])) _
    refine XS.aloadN X7.here hx rfl (hb hby d1_47) rfl rfl ?_
    show Steps p.tables e below (T7.setTop (mkF m 48 #[.val (.ref a1), .val (.long q2), .second, .val (.long ((own_divU (-1) q2) + (1 : Int64))), .second, .val (.long (0 : Int64)), .second] [(.ref a1)])) _
    refine XS.lload X7.here hx rfl (hb hby d1_48) rfl ?_
    show Steps p.tables e below (T7.setTop (mkF m 50 #[.val (.ref a1), .val (.long q2), .second, .val (.long ((own_divU (-1) q2) + (1 : Int64))), .second, .val (.long (0 : Int64)), .second] [(.long (0 : Int64)), (.ref a1)])) _
    refine st8 _ ?_
    show Steps p.tables e below (T8.setTop (mkF m 53 #[.val (.ref a1), .val (.long q2), .second, .val (.long ((own_divU (-1) q2) + (1 : Int64))), .second, .val (.long (0 : Int64)), .second] [])) _
    exact X8.returnOut hx Bd.returns (hb hby d1_53) hr
  · show Q1 Z a1 q2 u_parts_a1 u_unit_a1 u_rest_a1 h0 n0 _ T8.heap _
    rw [e8]
    have E8 : Exa Z h8 a1 "com/example/level_ring/levelring/placement/PartitionSlots$Cut" := (((E_a1.wr W4)).wr W7).wr W8
    have P8 : Fld Z h8 a1 "com/example/level_ring/levelring/placement/PartitionSlots$Cut" "parts" "J" (.long q2) := (Fw4.other W7 (Or.inr (slot_ne (Or.inr (hw _ (List.mem_of_getElem? (i := 11) rfl))) (Or.inr (hw _ (List.mem_of_getElem? (i := 22) rfl))) (by decide) (t := .long) (t' := .long) (by decide) (by decide)))).other W8 (Or.inr (slot_ne (Or.inr (hw _ (List.mem_of_getElem? (i := 11) rfl))) (Or.inr (hw _ (List.mem_of_getElem? (i := 24) rfl))) (by decide) (t := .long) (t' := .long) (by decide) (by decide)))
    have U8 : Fld Z h8 a1 "com/example/level_ring/levelring/placement/PartitionSlots$Cut" "unit" "J" (.long (own_divU (-1) q2 + 1)) := Fw7.other W8 (Or.inr (slot_ne (Or.inr (hw _ (List.mem_of_getElem? (i := 22) rfl))) (Or.inr (hw _ (List.mem_of_getElem? (i := 24) rfl))) (by decide) (t := .long) (t' := .long) (by decide) (by decide)))
    have hu : own_unit q2 = own_divU (-1) q2 + 1 := by unfold own_unit; rw [if_pos ((lw_eq _ _).mp (hb32 ⟨⟩))]
    have hv : own_rest q2 = 0 := by unfold own_rest; rw [if_pos ((lw_eq _ _).mp (hb32 ⟨⟩))]
    rw [← hu] at U8
    have R8 : Fld Z h8 a1 "com/example/level_ring/levelring/placement/PartitionSlots$Cut" "rest" "J" (.long (0)) := Fw8
    rw [← hv] at R8
    exact ⟨rfl, N8, K8, E8, P8, U8, R8⟩
set_option maxRecDepth 65536 in
set_option maxHeartbeats 40000000 in
theorem rm1_t (l : Launch) (Z : State) (a0 : Array Value) (hw : ∀ d ∈ tables_1, d.before a0 Z = true) (ws : List Jvm.Cond) (a1 : Addr) (q2 : Int64) (u_parts_a1 : Value) (u_unit_a1 : Value) (u_rest_a1 : Value) (h0 : Heap) (n0 : Nat) (Z0 : n0 ≤ h0.size) (E_a1 : Exa Z h0 a1 "com/example/level_ring/levelring/placement/PartitionSlots$Cut") (F_parts_a1 : Fld Z h0 a1 "com/example/level_ring/levelring/placement/PartitionSlots$Cut" "parts" "J" u_parts_a1) (g_a1 : n0 ≤ a1) (F_unit_a1 : Fld Z h0 a1 "com/example/level_ring/levelring/placement/PartitionSlots$Cut" "unit" "J" u_unit_a1) (F_rest_a1 : Fld Z h0 a1 "com/example/level_ring/levelring/placement/PartitionSlots$Cut" "rest" "J" u_rest_a1) (hc : ¬ ((lcmpW q2 (0 : Int64)) < (0 : Int32))) (hnz : ¬ (q2 = (0 : Int64))) (hb32 : ¬ (lcmpW (own_remU (-1) q2 + (1 : Int64)) q2 = (0 : Int32))) :
    MetFree l (⟨"com/example/level_ring/levelring/placement/PartitionSlots$Cut", "<init>", "(J)V"⟩ : MethodName) (head1 (Jvm.Cond.code (⟨"com/example/level_ring/levelring/placement/PartitionSlots$Cut", "<init>", "(J)V"⟩ : MethodName) prog_55_method_1_code 7 none :: ws) ({ frames := 1, cells := 0, slots := 0, locals := 19 } : Room)) (fun a U => a = #[(.ref a1), (.long q2)] ∧ Z.Warmed39 U.vm ∧ U.heap = h0) (fun _ _ _ _ _ => True) (fun _ U o U' => ∃ v L, o = .returned v ∧ Q1 Z a1 q2 u_parts_a1 u_unit_a1 u_rest_a1 h0 n0 v U'.heap L ∧ FrameEnd U o U' L ({ frames := 1, cells := 0, slots := 0, locals := 19 } : Room).cells ({ frames := 1, cells := 0, slots := 0, locals := 19 } : Room).slots) := by
  refine MetFree.of_bodySF (plainFor_of_name pn_1) hisR ?_
  intro p e s m args below meth c s₁ Bd hml0 hP hK
  obtain ⟨rfl, hZ, hh⟩ := hP
  have hx := Bd.exec
  have hby := Bd.bytes
  have hml : c.maxLocals = 7 := hml0
  have hown : s.vm.findClass "com/example/level_ring/levelring/placement/PartitionSlots$Cut" = some m.cls := findClass_of_methodNamed Bd.named
  have hnm := (name_of_methodNamed Bd.named Bd.method).1
  have X0 : Stand p l e ({ frames := 1, cells := 0, slots := 0, locals := 19 } : Room) s m #[(.ref a1), (.long q2)] below meth c s₁ [] 0 0 := Stand.of_body Bd
  have e0 : s₁.heap = h0 := by rw [← hh, Bd.state]; rfl
  have N0 := Fr.nil n0
  have pre0 : ∀ t, Steps p.tables e below (s₁.setTop (mkF m 0 #[.val (.ref a1), .val (.long q2), .second, .unset, .unset, .unset, .unset] [])) t → Steps p.tables e below (s₁.setTop (entryFrame m #[(.ref a1), (.long q2)] 7)) t := fun t k => castTop (ef_1 m a1 q2) k
  -- 3. LAWS
  obtain ⟨T3, X3, e3, st3⟩ := initO X0 hx hZ hown (hw _ (List.mem_of_getElem? (i := 7) rfl)) (hw _ (List.mem_of_getElem? (i := 8) rfl)) (hw _ (List.mem_of_getElem? (i := 9) rfl)) e0 (g := (mkF m 1 #[.val (.ref a1), .val (.long q2), .second, .unset, .unset, .unset, .unset] [(.ref a1)])) rfl (by rw [hml]; rfl) rfl (hb hby d1_1) (by decide) (W := 0) (by show 2 * 0 + _ ≤ _; exact Nat.le_of_eq rfl) (by decide)
  obtain ⟨T4, h4, X4, e4, W4, st4⟩ := putF X3 hx hZ hown (host := "") (Or.inl (hw _ (List.mem_of_getElem? (i := 10) rfl))) Via.refl e3 F_parts_a1 E_a1 (Or.inr ⟨(hw _ (List.mem_of_getElem? (i := 11) rfl)), rfl, hnm⟩) (hw _ (List.mem_of_getElem? (i := 2) rfl)) (ty := .long) (by decide) rfl rfl (g := (mkF m 6 #[.val (.ref a1), .val (.long q2), .second, .unset, .unset, .unset, .unset] [(.long q2), (.ref a1)])) rfl rfl (hb hby d1_6)
  have Fw4 := F_parts_a1.same W4      -- the field now holds (.long q2)
  have K4 : Keep h0 h4 [a1] := (Keep.refl h0 [a1]).wr W4 (Or.inl (List.mem_of_getElem? (i := 0) rfl))
  have N4 := Fr.snoc X4 N0 g_a1
  -- pc 13: java/lang/Long.divideUnsigned by its contract rm3
  obtain ⟨_, _, ⟨T5, L5, k5, n5⟩, -, X5, ⟨Lc5, hQ5, l5, y5, z5⟩, st5⟩ := Jvm.LawKit.callS X4 hx (y := (⟨"java/lang/Long", "divideUnsigned", "(JJ)J"⟩ : MethodName)) hown (mvT hZ (hw _ (List.mem_of_getElem? (i := 13) rfl))) (mvT hZ (hw _ (List.mem_of_getElem? (i := 14) rfl))) (mvT hZ (hw _ (List.mem_of_getElem? (i := 15) rfl))) (mvT hZ (hw _ (List.mem_of_getElem? (i := 16) rfl))) (by decide) (backOf (W := 0) (rm3 l Z a0 hw [] (-1 : Int64) q2  h4 n0 (Nat.le_trans Z0 K4.1) hc hnz) hZ (hw _ (List.mem_of_getElem? (i := 16) rfl)) (hw _ (List.mem_of_getElem? (i := 15) rfl)) (by decide) (by decide)) (g := (mkF m 13 #[.val (.ref a1), .val (.long q2), .second, .unset, .unset, .unset, .unset] [(.long q2), (.long (-1 : Int64))])) rfl (by rw [hml]; rfl) (argsL := [(.long (-1 : Int64)), (.long q2)]) (rest := []) (lenOf pdw_0 rfl) rfl (by show 2 * 0 + _ ≤ _; exact Nat.le_of_eq rfl) (hb hby d1_13) (fun _ _ => ⟨rfl, e4, (by decide : 0 + 0 ≤ _), (by decide : 0 + 0 ≤ _)⟩)
  dsimp only [Pt.U, Pt.locs, Pt.cells, Pt.slots] at X5 l5 y5 z5 st5 hQ5
  subst l5 y5 z5
  obtain ⟨rfl, N5q, hh5⟩ := hQ5
  have N5 := Fr.app N4 N5q
  -- pc 21: java/lang/Long.remainderUnsigned by its contract rm4
  obtain ⟨_, _, ⟨T6, L6, k6, n6⟩, -, X6, ⟨Lc6, hQ6, l6, y6, z6⟩, st6⟩ := Jvm.LawKit.callS X5 hx (y := (⟨"java/lang/Long", "remainderUnsigned", "(JJ)J"⟩ : MethodName)) hown (mvT hZ (hw _ (List.mem_of_getElem? (i := 18) rfl))) (mvT hZ (hw _ (List.mem_of_getElem? (i := 19) rfl))) (mvT hZ (hw _ (List.mem_of_getElem? (i := 15) rfl))) (mvT hZ (hw _ (List.mem_of_getElem? (i := 20) rfl))) (by decide) (backOf (W := 0) (rm4 l Z a0 hw [] (-1 : Int64) q2  h4 n0 (Nat.le_trans Z0 K4.1) hc hnz) hZ (hw _ (List.mem_of_getElem? (i := 20) rfl)) (hw _ (List.mem_of_getElem? (i := 15) rfl)) (by decide) (by decide)) (g := (mkF m 21 #[.val (.ref a1), .val (.long q2), .second, .val (.long (own_divU (-1) q2)), .second, .unset, .unset] [(.long q2), (.long (-1 : Int64))])) rfl (by rw [hml]; rfl) (argsL := [(.long (-1 : Int64)), (.long q2)]) (rest := []) (lenOf pdw_0 rfl) rfl (by show 2 * 0 + _ ≤ _; exact Nat.le_of_eq rfl) (hb hby d1_21) (fun _ _ => ⟨rfl, hh5, (by decide : 0 + 0 ≤ _), (by decide : 0 + 0 ≤ _)⟩)
  dsimp only [Pt.U, Pt.locs, Pt.cells, Pt.slots] at X6 l6 y6 z6 st6 hQ6
  subst l6 y6 z6
  obtain ⟨rfl, N6q, hh6⟩ := hQ6
  have N6 := Fr.app N5 N6q
  obtain ⟨T7, h7, X7, e7, W7, st7⟩ := putF X6 hx hZ hown (host := "") (Or.inl (hw _ (List.mem_of_getElem? (i := 21) rfl))) Via.refl hh6 (((F_unit_a1.other W4 (Or.inr (slot_ne (Or.inr (hw _ (List.mem_of_getElem? (i := 22) rfl))) (Or.inr (hw _ (List.mem_of_getElem? (i := 11) rfl))) (by decide) (t := .long) (t' := .long) (by decide) (by decide)))))) (((E_a1.wr W4))) (Or.inr ⟨(hw _ (List.mem_of_getElem? (i := 22) rfl)), rfl, hnm⟩) (hw _ (List.mem_of_getElem? (i := 2) rfl)) (ty := .long) (by decide) rfl rfl (g := (mkF m 44 #[.val (.ref a1), .val (.long q2), .second, .val (.long (own_divU (-1) q2)), .second, .val (.long ((own_remU (-1) q2) + (1 : Int64))), .second] [(.long (own_divU (-1) q2)), (.ref a1)])) rfl rfl (hb hby d1_44)
  have Fw7 := (((F_unit_a1.other W4 (Or.inr (slot_ne (Or.inr (hw _ (List.mem_of_getElem? (i := 22) rfl))) (Or.inr (hw _ (List.mem_of_getElem? (i := 11) rfl))) (by decide) (t := .long) (t' := .long) (by decide) (by decide)))))).same W7      -- the field now holds (.long (own_divU (-1) q2))
  have K7 : Keep h0 h7 [a1] := K4.wr W7 (Or.inl (List.mem_of_getElem? (i := 0) rfl))
  have N7 := Fr.snoc X7 N6 g_a1
  obtain ⟨T8, h8, X8, e8, W8, st8⟩ := putF X7 hx hZ hown (host := "") (Or.inl (hw _ (List.mem_of_getElem? (i := 23) rfl))) Via.refl e7 ((((F_rest_a1.other W4 (Or.inr (slot_ne (Or.inr (hw _ (List.mem_of_getElem? (i := 24) rfl))) (Or.inr (hw _ (List.mem_of_getElem? (i := 11) rfl))) (by decide) (t := .long) (t' := .long) (by decide) (by decide)))))).other W7 (Or.inr (slot_ne (Or.inr (hw _ (List.mem_of_getElem? (i := 24) rfl))) (Or.inr (hw _ (List.mem_of_getElem? (i := 22) rfl))) (by decide) (t := .long) (t' := .long) (by decide) (by decide)))) ((((E_a1.wr W4))).wr W7) (Or.inr ⟨(hw _ (List.mem_of_getElem? (i := 24) rfl)), rfl, hnm⟩) (hw _ (List.mem_of_getElem? (i := 2) rfl)) (ty := .long) (by decide) rfl rfl (g := (mkF m 50 #[.val (.ref a1), .val (.long q2), .second, .val (.long (own_divU (-1) q2)), .second, .val (.long ((own_remU (-1) q2) + (1 : Int64))), .second] [(.long ((own_remU (-1) q2) + (1 : Int64))), (.ref a1)])) rfl rfl (hb hby d1_50)
  have Fw8 := ((((F_rest_a1.other W4 (Or.inr (slot_ne (Or.inr (hw _ (List.mem_of_getElem? (i := 24) rfl))) (Or.inr (hw _ (List.mem_of_getElem? (i := 11) rfl))) (by decide) (t := .long) (t' := .long) (by decide) (by decide)))))).other W7 (Or.inr (slot_ne (Or.inr (hw _ (List.mem_of_getElem? (i := 24) rfl))) (Or.inr (hw _ (List.mem_of_getElem? (i := 22) rfl))) (by decide) (t := .long) (t' := .long) (by decide) (by decide)))).same W8      -- the field now holds (.long ((own_remU (-1) q2) + (1 : Int64)))
  have K8 : Keep h0 h8 [a1] := K7.wr W8 (Or.inl (List.mem_of_getElem? (i := 0) rfl))
  have N8 := Fr.snoc X8 N7 g_a1
  obtain ⟨fs, hr, hrun, hended, hW, hsame⟩ := X8.leave (v := none) (fun _ => rfl)
  refine ⟨_, _, pre0 _ ?_, hrun, hended, _, _, rfl, ?_, ⟨_, rfl⟩, hW, hsame.mono (by decide) (by decide)⟩
  -- 4. STEPS
  · show Steps p.tables e below (s₁.setTop (mkF m 0 #[.val (.ref a1), .val (.long q2), .second, .unset, .unset, .unset, .unset] [])) _
    refine XS.aloadN X0.here hx rfl (hb hby d1_0) rfl rfl ?_
    show Steps p.tables e below (s₁.setTop (mkF m 1 #[.val (.ref a1), .val (.long q2), .second, .unset, .unset, .unset, .unset] [(.ref a1)])) _
    refine st3 _ ?_
    show Steps p.tables e below (T3.setTop (mkF m 4 #[.val (.ref a1), .val (.long q2), .second, .unset, .unset, .unset, .unset] [])) _
    refine XS.aloadN X3.here hx rfl (hb hby d1_4) rfl rfl ?_
    show Steps p.tables e below (T3.setTop (mkF m 5 #[.val (.ref a1), .val (.long q2), .second, .unset, .unset, .unset, .unset] [(.ref a1)])) _
    refine XS.lloadN X3.here hx rfl (hb hby d1_5) rfl ?_
    show Steps p.tables e below (T3.setTop (mkF m 6 #[.val (.ref a1), .val (.long q2), .second, .unset, .unset, .unset, .unset] [(.long q2), (.ref a1)])) _
    refine st4 _ ?_
    show Steps p.tables e below (T4.setTop (mkF m 9 #[.val (.ref a1), .val (.long q2), .second, .unset, .unset, .unset, .unset] [])) _
    refine X4.ldc2Long hx hown (mvT hZ (hw _ (List.mem_of_getElem? (i := 12) rfl))) (g := (mkF m 9 #[.val (.ref a1), .val (.long q2), .second, .unset, .unset, .unset, .unset] [])) rfl (hb hby d1_9) _ ?_
    show Steps p.tables e below (T4.setTop (mkF m 12 #[.val (.ref a1), .val (.long q2), .second, .unset, .unset, .unset, .unset] [(.long (-1 : Int64))])) _
    refine XS.lloadN X4.here hx rfl (hb hby d1_12) rfl ?_
    show Steps p.tables e below (T4.setTop (mkF m 13 #[.val (.ref a1), .val (.long q2), .second, .unset, .unset, .unset, .unset] [(.long q2), (.long (-1 : Int64))])) _
    refine st5 _ ?_
    show Steps p.tables e below (T5.setTop (mkF m 16 #[.val (.ref a1), .val (.long q2), .second, .unset, .unset, .unset, .unset] [(.long (own_divU (-1) q2))])) _
    refine XS.lstoreN X5.here hx rfl (hb hby d1_16) rfl (l' := #[.val (.ref a1), .val (.long q2), .second, .val (.long (own_divU (-1) q2)), .second, .unset, .unset]) rfl ?_
    show Steps p.tables e below (T5.setTop (mkF m 17 #[.val (.ref a1), .val (.long q2), .second, .val (.long (own_divU (-1) q2)), .second, .unset, .unset] [])) _
    refine X5.ldc2Long hx hown (mvT hZ (hw _ (List.mem_of_getElem? (i := 12) rfl))) (g := (mkF m 17 #[.val (.ref a1), .val (.long q2), .second, .val (.long (own_divU (-1) q2)), .second, .unset, .unset] [])) rfl (hb hby d1_17) _ ?_
    show Steps p.tables e below (T5.setTop (mkF m 20 #[.val (.ref a1), .val (.long q2), .second, .val (.long (own_divU (-1) q2)), .second, .unset, .unset] [(.long (-1 : Int64))])) _
    refine XS.lloadN X5.here hx rfl (hb hby d1_20) rfl ?_
    show Steps p.tables e below (T5.setTop (mkF m 21 #[.val (.ref a1), .val (.long q2), .second, .val (.long (own_divU (-1) q2)), .second, .unset, .unset] [(.long q2), (.long (-1 : Int64))])) _
    refine st6 _ ?_
    show Steps p.tables e below (T6.setTop (mkF m 24 #[.val (.ref a1), .val (.long q2), .second, .val (.long (own_divU (-1) q2)), .second, .unset, .unset] [(.long (own_remU (-1) q2))])) _
    refine XS.lconst X6.here hx rfl (hb hby d1_24) ?_
    show Steps p.tables e below (T6.setTop (mkF m 25 #[.val (.ref a1), .val (.long q2), .second, .val (.long (own_divU (-1) q2)), .second, .unset, .unset] [(.long (1 : Int64)), (.long (own_remU (-1) q2))])) _
    refine XS.ladd X6.here hx rfl (hb hby d1_25) rfl ?_
    show Steps p.tables e below (T6.setTop (mkF m 26 #[.val (.ref a1), .val (.long q2), .second, .val (.long (own_divU (-1) q2)), .second, .unset, .unset] [(.long ((own_remU (-1) q2) + (1 : Int64)))])) _
    refine XS.lstore X6.here hx rfl (hb hby d1_26) rfl (l' := #[.val (.ref a1), .val (.long q2), .second, .val (.long (own_divU (-1) q2)), .second, .val (.long ((own_remU (-1) q2) + (1 : Int64))), .second]) rfl ?_
    show Steps p.tables e below (T6.setTop (mkF m 28 #[.val (.ref a1), .val (.long q2), .second, .val (.long (own_divU (-1) q2)), .second, .val (.long ((own_remU (-1) q2) + (1 : Int64))), .second] [])) _
    refine XS.lload X6.here hx rfl (hb hby d1_28) rfl ?_
    show Steps p.tables e below (T6.setTop (mkF m 30 #[.val (.ref a1), .val (.long q2), .second, .val (.long (own_divU (-1) q2)), .second, .val (.long ((own_remU (-1) q2) + (1 : Int64))), .second] [(.long ((own_remU (-1) q2) + (1 : Int64)))])) _
    refine XS.lloadN X6.here hx rfl (hb hby d1_30) rfl ?_
    show Steps p.tables e below (T6.setTop (mkF m 31 #[.val (.ref a1), .val (.long q2), .second, .val (.long (own_divU (-1) q2)), .second, .val (.long ((own_remU (-1) q2) + (1 : Int64))), .second] [(.long q2), (.long ((own_remU (-1) q2) + (1 : Int64)))])) _
    refine XS.lcmp X6.here hx rfl (hb hby d1_31) rfl ?_
    show Steps p.tables e below (T6.setTop (mkF m 32 #[.val (.ref a1), .val (.long q2), .second, .val (.long (own_divU (-1) q2)), .second, .val (.long ((own_remU (-1) q2) + (1 : Int64))), .second] [(.int (lcmpW ((own_remU (-1) q2) + (1 : Int64)) q2))])) _
    refine XS.ifYes X6.here hx rfl (pc0 := 32) (pc' := 42) rfl (hb hby d1_32) rfl ((if0 _ _).trans (feq (hb32 : ¬ ((lcmpW ((own_remU (-1) q2) + (1 : Int64)) q2) = (0 : Int32)))).2) (by decide) (by decide) ?_
    show Steps p.tables e below (T6.setTop (mkF m 42 #[.val (.ref a1), .val (.long q2), .second, .val (.long (own_divU (-1) q2)), .second, .val (.long ((own_remU (-1) q2) + (1 : Int64))), .second] [])) _
    refine XS.aloadN X6.here hx rfl (hb hby d1_42) rfl rfl ?_
    show Steps p.tables e below (T6.setTop (mkF m 43 #[.val (.ref a1), .val (.long q2), .second, .val (.long (own_divU (-1) q2)), .second, .val (.long ((own_remU (-1) q2) + (1 : Int64))), .second] [(.ref a1)])) _
    refine XS.lloadN X6.here hx rfl (hb hby d1_43) rfl ?_
    show Steps p.tables e below (T6.setTop (mkF m 44 #[.val (.ref a1), .val (.long q2), .second, .val (.long (own_divU (-1) q2)), .second, .val (.long ((own_remU (-1) q2) + (1 : Int64))), .second] [(.long (own_divU (-1) q2)), (.ref a1)])) _
    refine st7 _ ?_
    show Steps p.tables e below (T7.setTop (mkF m 47 #[.val (.ref a1), .val (.long q2), .second, .val (.long (own_divU (-1) q2)), .second, .val (.long ((own_remU (-1) q2) + (1 : Int64))), .second] [])) _
    refine XS.aloadN X7.here hx rfl (hb hby d1_47) rfl rfl ?_
    show Steps p.tables e below (T7.setTop (mkF m 48 #[.val (.ref a1), .val (.long q2), .second, .val (.long (own_divU (-1) q2)), .second, .val (.long ((own_remU (-1) q2) + (1 : Int64))), .second] [(.ref a1)])) _
    refine XS.lload X7.here hx rfl (hb hby d1_48) rfl ?_
    show Steps p.tables e below (T7.setTop (mkF m 50 #[.val (.ref a1), .val (.long q2), .second, .val (.long (own_divU (-1) q2)), .second, .val (.long ((own_remU (-1) q2) + (1 : Int64))), .second] [(.long ((own_remU (-1) q2) + (1 : Int64))), (.ref a1)])) _
    refine st8 _ ?_
    show Steps p.tables e below (T8.setTop (mkF m 53 #[.val (.ref a1), .val (.long q2), .second, .val (.long (own_divU (-1) q2)), .second, .val (.long ((own_remU (-1) q2) + (1 : Int64))), .second] [])) _
    exact X8.returnOut hx Bd.returns (hb hby d1_53) hr
  · show Q1 Z a1 q2 u_parts_a1 u_unit_a1 u_rest_a1 h0 n0 _ T8.heap _
    rw [e8]
    have E8 : Exa Z h8 a1 "com/example/level_ring/levelring/placement/PartitionSlots$Cut" := (((E_a1.wr W4)).wr W7).wr W8
    have P8 : Fld Z h8 a1 "com/example/level_ring/levelring/placement/PartitionSlots$Cut" "parts" "J" (.long q2) := (Fw4.other W7 (Or.inr (slot_ne (Or.inr (hw _ (List.mem_of_getElem? (i := 11) rfl))) (Or.inr (hw _ (List.mem_of_getElem? (i := 22) rfl))) (by decide) (t := .long) (t' := .long) (by decide) (by decide)))).other W8 (Or.inr (slot_ne (Or.inr (hw _ (List.mem_of_getElem? (i := 11) rfl))) (Or.inr (hw _ (List.mem_of_getElem? (i := 24) rfl))) (by decide) (t := .long) (t' := .long) (by decide) (by decide)))
    have U8 : Fld Z h8 a1 "com/example/level_ring/levelring/placement/PartitionSlots$Cut" "unit" "J" (.long (own_divU (-1) q2)) := Fw7.other W8 (Or.inr (slot_ne (Or.inr (hw _ (List.mem_of_getElem? (i := 22) rfl))) (Or.inr (hw _ (List.mem_of_getElem? (i := 24) rfl))) (by decide) (t := .long) (t' := .long) (by decide) (by decide)))
    have hu : own_unit q2 = own_divU (-1) q2 := by unfold own_unit; rw [if_neg (fun e => hb32 ((lw_eq _ _).mpr e))]
    have hv : own_rest q2 = own_remU (-1) q2 + 1 := by unfold own_rest; rw [if_neg (fun e => hb32 ((lw_eq _ _).mpr e))]
    rw [← hu] at U8
    have R8 : Fld Z h8 a1 "com/example/level_ring/levelring/placement/PartitionSlots$Cut" "rest" "J" (.long (own_remU (-1) q2 + 1)) := Fw8
    rw [← hv] at R8
    exact ⟨rfl, N8, K8, E8, P8, U8, R8⟩
theorem rm1 (l : Launch) (Z : State) (a0 : Array Value) (hw : ∀ d ∈ tables_1, d.before a0 Z = true) (ws : List Jvm.Cond) (a1 : Addr) (q2 : Int64) (u_parts_a1 : Value) (u_unit_a1 : Value) (u_rest_a1 : Value) (h0 : Heap) (n0 : Nat) (Z0 : n0 ≤ h0.size) (E_a1 : Exa Z h0 a1 "com/example/level_ring/levelring/placement/PartitionSlots$Cut") (F_parts_a1 : Fld Z h0 a1 "com/example/level_ring/levelring/placement/PartitionSlots$Cut" "parts" "J" u_parts_a1) (g_a1 : n0 ≤ a1) (F_unit_a1 : Fld Z h0 a1 "com/example/level_ring/levelring/placement/PartitionSlots$Cut" "unit" "J" u_unit_a1) (F_rest_a1 : Fld Z h0 a1 "com/example/level_ring/levelring/placement/PartitionSlots$Cut" "rest" "J" u_rest_a1) (hc : ¬ ((lcmpW q2 (0 : Int64)) < (0 : Int32))) (hnz : ¬ (q2 = (0 : Int64)))  :
    MetFree l (⟨"com/example/level_ring/levelring/placement/PartitionSlots$Cut", "<init>", "(J)V"⟩ : MethodName) (head1 (Jvm.Cond.code (⟨"com/example/level_ring/levelring/placement/PartitionSlots$Cut", "<init>", "(J)V"⟩ : MethodName) prog_55_method_1_code 7 none :: ws) ({ frames := 1, cells := 0, slots := 0, locals := 19 } : Room)) (fun a U => a = #[(.ref a1), (.long q2)] ∧ Z.Warmed39 U.vm ∧ U.heap = h0) (fun _ _ _ _ _ => True) (fun _ U o U' => ∃ v L, o = .returned v ∧ Q1 Z a1 q2 u_parts_a1 u_unit_a1 u_rest_a1 h0 n0 v U'.heap L ∧ FrameEnd U o U' L ({ frames := 1, cells := 0, slots := 0, locals := 19 } : Room).cells ({ frames := 1, cells := 0, slots := 0, locals := 19 } : Room).slots) := by
  by_cases hb32 : lcmpW (own_remU (-1) q2 + (1 : Int64)) q2 = (0 : Int32)
  · exact rm1_f l Z a0 hw ws a1 q2 u_parts_a1 u_unit_a1 u_rest_a1 h0 n0 Z0 E_a1 F_parts_a1 g_a1 F_unit_a1 F_rest_a1 hc hnz (fun _ => hb32)
  · exact rm1_t l Z a0 hw ws a1 q2 u_parts_a1 u_unit_a1 u_rest_a1 h0 n0 Z0 E_a1 F_parts_a1 g_a1 F_unit_a1 F_rest_a1 hc hnz hb32
theorem pn_0 : plainName "com/example/level_ring/levelring/placement/CutFirstOffsetOfPinLaw" = true := by first | (simp [plainName, overriddenIn]; done) | decide +kernel
theorem pdw_1 : parseMethodDescriptor "(J)V" = some ⟨[.long], none⟩ := by decide +kernel
theorem pdw_2 : parseMethodDescriptor "(J)J" = some ⟨[.long], some .long⟩ := by decide +kernel
theorem ef_0 (m : MethodId) (x0 : Int32) (x1 : Int64) (x2 : Int32) : entryFrame m #[(.int x0), (.long x1), (.int x2)] maxLocals = mkF m 0 #[.val (.int x0), .val (.long x1), .second, .val (.int x2), .unset, .unset, .unset, .unset, .unset, .unset, .unset, .unset, .unset, .unset] [] := by first | (simp [entryFrame, mkF, argsToLocals, Value.category, maxLocals]; done) | rfl
def Q0 (Z : State) (p1 : Int32) (q2 : Int64) (p3 : Int32) (h0 : Heap) (n0 : Nat) (v : Option Value) (h : Heap) (L : List Loc) : Prop := v = some (.int (1 : Int32)) ∧ Fr n0 L
theorem own_pos (p : Int32) : ¬ ((lcmpW (own_parts p) (0 : Int64)) < (0 : Int32)) ∧ ¬ ((own_parts p) = (0 : Int64)) := by
  have h := own_parts_rng p
  constructor
  · rw [lw_lt, Int64.lt_iff_toInt_lt, Int64.toInt_zero]; omega
  · intro e; rw [e, Int64.toInt_zero] at h; omega
theorem own_t2 (p : Int32) : 0 ≤ ((own_parts p) - (1 : Int64)).toInt ∧ ((own_parts p) - (1 : Int64)).toInt < (own_parts p).toInt := by
  have h := own_parts_rng p
  have one : (1 : Int64).toInt = 1 := by decide +kernel
  have e : ((own_parts p) - (1 : Int64)).toInt = (own_parts p).toInt - 1 := by rw [Jvm.Kit.i64_sub, one] <;> (rw [one]; omega)
  omega
theorem own_neP {t : Int64} {p : Int32} (h : t.toInt < (own_parts p).toInt) : ¬ ((lcmpW t (own_parts p)) = (0 : Int32)) := by
  rw [lw_eq]; rintro rfl; omega
set_option maxRecDepth 65536 in
set_option maxHeartbeats 40000000 in
theorem rm0_s0 (l : Launch) (Z : State) (a0 : Array Value) (hw : ∀ d ∈ tables_1, d.before a0 Z = true) (ws : List Jvm.Cond) (p1 : Int32) (q2 : Int64) (p3 : Int32) (h0 : Heap) (n0 : Nat) (Z0 : n0 ≤ h0.size) (hc17 : (p3 &&& (3 : Int32)) = (0 : Int32)) (hc89 : ¬ ((lcmpW (0 : Int64) (own_parts p1)) = (0 : Int32))) :
    MetFree l x (head1 (Jvm.Cond.code x code maxLocals ret :: ws) room_1) (fun a U => a = #[(.int p1), (.long q2), (.int p3)] ∧ Z.Warmed39 U.vm ∧ U.heap = h0) (fun _ _ _ _ _ => True) (fun _ U o U' => ∃ v L, o = .returned v ∧ Q0 Z p1 q2 p3 h0 n0 v U'.heap L ∧ FrameEnd U o U' L room_1.cells room_1.slots) := by
  refine MetFree.of_bodySF (plainFor_of_name pn_0) hisR ?_
  intro p e s m args below meth c s₁ Bd hml0 hP hK
  obtain ⟨rfl, hZ, hh⟩ := hP
  have hx := Bd.exec
  have hby := Bd.bytes
  have hml : c.maxLocals = 14 := hml0
  have hown : s.vm.findClass "com/example/level_ring/levelring/placement/CutFirstOffsetOfPinLaw" = some m.cls := findClass_of_methodNamed Bd.named
  have hnm := (name_of_methodNamed Bd.named Bd.method).1
  have X0 : Stand p l e room_1 s m #[(.int p1), (.long q2), (.int p3)] below meth c s₁ [] 0 0 := Stand.of_body Bd
  have e0 : s₁.heap = h0 := by rw [← hh, Bd.state]; rfl
  have N0 := Fr.nil n0
  have pre0 : ∀ t, Steps p.tables e below (s₁.setTop (mkF m 0 #[.val (.int p1), .val (.long q2), .second, .val (.int p3), .unset, .unset, .unset, .unset, .unset, .unset, .unset, .unset, .unset, .unset] [])) t → Steps p.tables e below (s₁.setTop (entryFrame m #[(.int p1), (.long q2), (.int p3)] maxLocals)) t := fun t k => castTop (ef_0 m p1 q2 p3) k
  -- 3. LAWS
  obtain ⟨T4, h4, X4, e4, E4, A4, D4, -, st4⟩ := newO X0 hx hZ hown (hw _ (List.mem_of_getElem? (i := 1) rfl)) (hw _ (List.mem_of_getElem? (i := 2) rfl)) (hw _ (List.mem_of_getElem? (i := 3) rfl)) e0 (g := (mkF m 64 #[.val (.int p1), .val (.long q2), .second, .val (.int p3), .val (.long (own_parts p1)), .second, .val (.int (p3 &&& (3 : Int32))), .val (.long (0 : Int64)), .second, .unset, .unset, .unset, .unset, .unset] [])) rfl (hb hby at_64) (by decide) (by decide)
  obtain ⟨b4, g4⟩ : ∃ z, z = h0.size := ⟨_, rfl⟩      -- the fresh object's address
  rw [← g4] at A4 D4 st4      -- A4 : Exa Z h4 b4 "com/example/level_ring/levelring/placement/PartitionSlots$Cut"; E4 : Ext h0 h4 (carries every older fact: .ext E4)
  have F_parts_b4 : Fld Z h4 b4 "com/example/level_ring/levelring/placement/PartitionSlots$Cut" "parts" "J" (.long (0 : Int64)) := D4 (Or.inr (hw _ (List.mem_of_getElem? (i := 11) rfl))) (ty := .long) (by decide)
  have F_unit_b4 : Fld Z h4 b4 "com/example/level_ring/levelring/placement/PartitionSlots$Cut" "unit" "J" (.long (0 : Int64)) := D4 (Or.inr (hw _ (List.mem_of_getElem? (i := 22) rfl))) (ty := .long) (by decide)
  have F_rest_b4 : Fld Z h4 b4 "com/example/level_ring/levelring/placement/PartitionSlots$Cut" "rest" "J" (.long (0 : Int64)) := D4 (Or.inr (hw _ (List.mem_of_getElem? (i := 24) rfl))) (ty := .long) (by decide)
  have E_b4 := A4
  have g_b4 : n0 ≤ b4 := Nat.le_trans Z0 (Nat.le_of_eq g4.symm)
  have sz_b4 : h0.size ≤ b4 := (Nat.le_trans (Keep.refl h0 []).1 (Nat.le_of_eq g4.symm))
  have K4 : Keep h0 h4 [] := (Keep.refl h0 []).ext E4
  -- pc 70: the constructor of com/example/level_ring/levelring/placement/PartitionSlots$Cut by its contract rm1
  obtain ⟨_, _, ⟨T5, L5, k5, n5⟩, -, X5, ⟨Lc5, hQ5, l5, y5, z5⟩, st5⟩ := X4.specialBack hx (y := (⟨"com/example/level_ring/levelring/placement/PartitionSlots$Cut", "<init>", "(J)V"⟩ : MethodName)) rfl hown (mvT hZ (hw _ (List.mem_of_getElem? (i := 4) rfl))) (mvT hZ (hw _ (List.mem_of_getElem? (i := 5) rfl))) (mvT hZ (hw _ (List.mem_of_getElem? (i := 6) rfl))) (by decide) (backOf (W := 1) (rm1 l Z a0 hw [] b4 (own_parts p1) (.long (0 : Int64)) (.long (0 : Int64)) (.long (0 : Int64)) h4 n0 (Nat.le_trans Z0 E4.1) E_b4 F_parts_b4 g_b4 F_unit_b4 F_rest_b4 (own_pos p1).1 (own_pos p1).2) hZ (hw _ (List.mem_of_getElem? (i := 6) rfl)) (hw _ (List.mem_of_getElem? (i := 3) rfl)) (by decide) (by decide)) (g := (mkF m 70 #[.val (.int p1), .val (.long q2), .second, .val (.int p3), .val (.long (own_parts p1)), .second, .val (.int (p3 &&& (3 : Int32))), .val (.long (0 : Int64)), .second, .unset, .unset, .unset, .unset, .unset] [(.long (own_parts p1)), (.ref b4), (.ref b4)])) rfl (by rw [hml]; rfl) (Steps.refl _) (a := b4) (argsL := [(.long (own_parts p1))]) (rest := [(.ref b4)]) (lenOf pdw_1 rfl) rfl (by show 2 * 0 + _ ≤ _; exact Nat.le_of_eq rfl) (hb hby at_70) (fun _ _ => ⟨rfl, e4, (by decide : 1 + 0 ≤ _), (by decide : 3 + 0 ≤ _)⟩)
  dsimp only [Pt.U, Pt.locs, Pt.cells, Pt.slots] at X5 l5 y5 z5 st5 hQ5
  subst l5 y5 z5
  obtain ⟨rfl, N5q, K5, E5, F5p, F5u, F5r⟩ := hQ5
  have Zh5 : n0 ≤ T5.heap.size := Nat.le_trans (Nat.le_trans Z0 E4.1) K5.1
  have N5 := Fr.app N0 N5q
  -- pc 79: com/example/level_ring/levelring/placement/PartitionSlots$Cut.firstOffsetOf by the contract of the body that the receiver's class selects, rm5
  obtain ⟨cq6, kq6, q6a, q6b, q6c⟩ := isOf hZ rfl (E_b4.keep K5)
  obtain ⟨_, _, ⟨T6, L6, k6, n6⟩, -, X6, ⟨Lc6, hQ6, l6, y6, z6⟩, st6⟩ := X5.virtualBack hx (y := (⟨"com/example/level_ring/levelring/placement/PartitionSlots$Cut", "firstOffsetOf", "(J)J"⟩ : MethodName)) (z := (⟨"com/example/level_ring/levelring/placement/PartitionSlots$Cut", "firstOffsetOf", "(J)J"⟩ : MethodName)) hown (mvT hZ (hw _ (List.mem_of_getElem? (i := 25) rfl))) (mvT hZ (hw _ (List.mem_of_getElem? (i := 26) rfl))) (notFace_of_selects (args := #[]) (mvT hZ (hw _ (List.mem_of_getElem? (i := 28) rfl)))) (mvT hZ (hw _ (List.mem_of_getElem? (i := 28) rfl))) (mvT hZ (hw _ (List.mem_of_getElem? (i := 27) rfl))) (by decide) (backOf (W := 0) (rm5 l Z a0 hw [] b4 (0 : Int64) (own_unit (own_parts p1)) (own_rest (own_parts p1)) (own_parts p1) T5.heap n0 Zh5 F5u F5r F5p (own_pos p1).2) hZ (hw _ (List.mem_of_getElem? (i := 29) rfl)) (hw _ (List.mem_of_getElem? (i := 3) rfl)) (by decide) (by decide)) q6a q6c (g := (mkF m 79 #[.val (.int p1), .val (.long q2), .second, .val (.int p3), .val (.long (own_parts p1)), .second, .val (.int (p3 &&& (3 : Int32))), .val (.long (0 : Int64)), .second, .val (.ref b4), .unset, .unset, .unset, .unset] [(.long (0 : Int64)), (.ref b4)])) rfl (by rw [hml]; rfl) (Steps.refl _) (argsL := [(.long (0 : Int64))]) (rest := []) (lenOf pdw_2 rfl) rfl (by show 2 * 0 + _ ≤ _; exact Nat.le_of_eq rfl) (hb hby at_79) (fun _ _ => ⟨rfl, rfl, (by decide : 1 + 0 ≤ _), (by decide : 3 + 0 ≤ _)⟩)
  dsimp only [Pt.U, Pt.locs, Pt.cells, Pt.slots] at X6 l6 y6 z6 st6 hQ6
  subst l6 y6 z6
  obtain ⟨rfl, N6q, hh6⟩ := hQ6
  have Zh6 : n0 ≤ T6.heap.size := by rw [hh6]; exact Zh5
  have N6 := Fr.app N5 N6q
  -- pc 102: com/example/level_ring/levelring/placement/CutFirstOffsetOfPinLaw.ceilShare by its contract rm6
  obtain ⟨_, _, ⟨T7, L7, k7, n7⟩, -, X7, ⟨Lc7, hQ7, l7, y7, z7⟩, st7⟩ := Jvm.LawKit.callS X6 hx (y := (⟨"com/example/level_ring/levelring/placement/CutFirstOffsetOfPinLaw", "ceilShare", "(JJ)J"⟩ : MethodName)) hown (mvT hZ (hw _ (List.mem_of_getElem? (i := 30) rfl))) (mvT hZ (hw _ (List.mem_of_getElem? (i := 31) rfl))) (mvT hZ (hw _ (List.mem_of_getElem? (i := 32) rfl))) (mvT hZ (hw _ (List.mem_of_getElem? (i := 33) rfl))) (by decide) (backOf (W := 0) (rm6 l Z a0 hw [] (0 : Int64) (own_parts p1)  T6.heap n0 Zh6 (own_pos p1).2) hZ (hw _ (List.mem_of_getElem? (i := 33) rfl)) (hw _ (List.mem_of_getElem? (i := 32) rfl)) (by decide) (by decide)) (g := (mkF m 102 #[.val (.int p1), .val (.long q2), .second, .val (.int p3), .val (.long (own_parts p1)), .second, .val (.int (p3 &&& (3 : Int32))), .val (.long (0 : Int64)), .second, .val (.ref b4), .val (.long (own_first (own_parts p1) (0 : Int64))), .second, .unset, .unset] [(.long (own_parts p1)), (.long (0 : Int64))])) rfl (by rw [hml]; rfl) (argsL := [(.long (0 : Int64)), (.long (own_parts p1))]) (rest := []) (lenOf pdw_0 rfl) rfl (by show 2 * 0 + _ ≤ _; exact Nat.le_of_eq rfl) (hb hby at_102) (fun _ _ => ⟨rfl, rfl, (by decide : 1 + 0 ≤ _), (by decide : 3 + 0 ≤ _)⟩)
  dsimp only [Pt.U, Pt.locs, Pt.cells, Pt.slots] at X7 l7 y7 z7 st7 hQ7
  subst l7 y7 z7
  obtain ⟨rfl, N7q, hh7⟩ := hQ7
  have N7 := Fr.app N6 N7q
  obtain ⟨fs, hr, hrun, hended, hW, hsame⟩ := X7.leave (v := some (.int (1 : Int32))) (fun h => by rw [Bd.returns] at h; cases h)
  refine ⟨_, _, pre0 _ ?_, hrun, hended, _, _, rfl, ?_, ⟨_, rfl⟩, hW, hsame.mono (by decide) (by decide)⟩
  -- 4. STEPS
  · show Steps p.tables e below (s₁.setTop (mkF m 0 #[.val (.int p1), .val (.long q2), .second, .val (.int p3), .unset, .unset, .unset, .unset, .unset, .unset, .unset, .unset, .unset, .unset] [])) _
    refine XS.iloadN X0.here hx rfl (hb hby at_0) rfl ?_
    show Steps p.tables e below (s₁.setTop (mkF m 1 #[.val (.int p1), .val (.long q2), .second, .val (.int p3), .unset, .unset, .unset, .unset, .unset, .unset, .unset, .unset, .unset, .unset] [(.int p1)])) _
    refine XS.i2l X0.here hx rfl (hb hby at_1) rfl ?_
    show Steps p.tables e below (s₁.setTop (mkF m 2 #[.val (.int p1), .val (.long q2), .second, .val (.int p3), .unset, .unset, .unset, .unset, .unset, .unset, .unset, .unset, .unset, .unset] [(.long (p1.toInt64))])) _
    refine X0.ldc2Long hx hown (mvT hZ (hw _ (List.mem_of_getElem? (i := 0) rfl))) (g := (mkF m 2 #[.val (.int p1), .val (.long q2), .second, .val (.int p3), .unset, .unset, .unset, .unset, .unset, .unset, .unset, .unset, .unset, .unset] [(.long (p1.toInt64))])) rfl (hb hby at_2) _ ?_
    show Steps p.tables e below (s₁.setTop (mkF m 5 #[.val (.int p1), .val (.long q2), .second, .val (.int p3), .unset, .unset, .unset, .unset, .unset, .unset, .unset, .unset, .unset, .unset] [(.long (2147483647 : Int64)), (.long (p1.toInt64))])) _
    refine XS.land X0.here hx rfl (hb hby at_5) rfl ?_
    show Steps p.tables e below (s₁.setTop (mkF m 6 #[.val (.int p1), .val (.long q2), .second, .val (.int p3), .unset, .unset, .unset, .unset, .unset, .unset, .unset, .unset, .unset, .unset] [(.long ((p1.toInt64) &&& (2147483647 : Int64)))])) _
    refine XS.lconst X0.here hx rfl (hb hby at_6) ?_
    show Steps p.tables e below (s₁.setTop (mkF m 7 #[.val (.int p1), .val (.long q2), .second, .val (.int p3), .unset, .unset, .unset, .unset, .unset, .unset, .unset, .unset, .unset, .unset] [(.long (1 : Int64)), (.long ((p1.toInt64) &&& (2147483647 : Int64)))])) _
    refine XS.ladd X0.here hx rfl (hb hby at_7) rfl ?_
    show Steps p.tables e below (s₁.setTop (mkF m 8 #[.val (.int p1), .val (.long q2), .second, .val (.int p3), .unset, .unset, .unset, .unset, .unset, .unset, .unset, .unset, .unset, .unset] [(.long (own_parts p1))])) _
    refine XS.lstore X0.here hx rfl (hb hby at_8) rfl (l' := #[.val (.int p1), .val (.long q2), .second, .val (.int p3), .val (.long (own_parts p1)), .second, .unset, .unset, .unset, .unset, .unset, .unset, .unset, .unset]) rfl ?_
    show Steps p.tables e below (s₁.setTop (mkF m 10 #[.val (.int p1), .val (.long q2), .second, .val (.int p3), .val (.long (own_parts p1)), .second, .unset, .unset, .unset, .unset, .unset, .unset, .unset, .unset] [])) _
    refine XS.iloadN X0.here hx rfl (hb hby at_10) rfl ?_
    show Steps p.tables e below (s₁.setTop (mkF m 11 #[.val (.int p1), .val (.long q2), .second, .val (.int p3), .val (.long (own_parts p1)), .second, .unset, .unset, .unset, .unset, .unset, .unset, .unset, .unset] [(.int p3)])) _
    refine XS.iconst X0.here hx rfl (hb hby at_11) ?_
    show Steps p.tables e below (s₁.setTop (mkF m 12 #[.val (.int p1), .val (.long q2), .second, .val (.int p3), .val (.long (own_parts p1)), .second, .unset, .unset, .unset, .unset, .unset, .unset, .unset, .unset] [(.int (3 : Int32)), (.int p3)])) _
    refine XS.iand X0.here hx rfl (hb hby at_12) rfl ?_
    show Steps p.tables e below (s₁.setTop (mkF m 13 #[.val (.int p1), .val (.long q2), .second, .val (.int p3), .val (.long (own_parts p1)), .second, .unset, .unset, .unset, .unset, .unset, .unset, .unset, .unset] [(.int (p3 &&& (3 : Int32)))])) _
    refine XS.istore X0.here hx rfl (hb hby at_13) rfl (l' := #[.val (.int p1), .val (.long q2), .second, .val (.int p3), .val (.long (own_parts p1)), .second, .val (.int (p3 &&& (3 : Int32))), .unset, .unset, .unset, .unset, .unset, .unset, .unset]) rfl ?_
    show Steps p.tables e below (s₁.setTop (mkF m 15 #[.val (.int p1), .val (.long q2), .second, .val (.int p3), .val (.long (own_parts p1)), .second, .val (.int (p3 &&& (3 : Int32))), .unset, .unset, .unset, .unset, .unset, .unset, .unset] [])) _
    refine XS.iload X0.here hx rfl (hb hby at_15) rfl ?_
    show Steps p.tables e below (s₁.setTop (mkF m 17 #[.val (.int p1), .val (.long q2), .second, .val (.int p3), .val (.long (own_parts p1)), .second, .val (.int (p3 &&& (3 : Int32))), .unset, .unset, .unset, .unset, .unset, .unset, .unset] [(.int (p3 &&& (3 : Int32)))])) _
    refine XS.ifNo X0.here hx rfl (hb hby at_17) rfl ((if0 _ _).trans (teq hc17).2) ?_
    show Steps p.tables e below (s₁.setTop (mkF m 20 #[.val (.int p1), .val (.long q2), .second, .val (.int p3), .val (.long (own_parts p1)), .second, .val (.int (p3 &&& (3 : Int32))), .unset, .unset, .unset, .unset, .unset, .unset, .unset] [])) _
    refine XS.lconst X0.here hx rfl (hb hby at_20) ?_
    show Steps p.tables e below (s₁.setTop (mkF m 21 #[.val (.int p1), .val (.long q2), .second, .val (.int p3), .val (.long (own_parts p1)), .second, .val (.int (p3 &&& (3 : Int32))), .unset, .unset, .unset, .unset, .unset, .unset, .unset] [(.long (0 : Int64))])) _
    refine XS.lstore X0.here hx rfl (hb hby at_21) rfl (l' := #[.val (.int p1), .val (.long q2), .second, .val (.int p3), .val (.long (own_parts p1)), .second, .val (.int (p3 &&& (3 : Int32))), .val (.long (0 : Int64)), .second, .unset, .unset, .unset, .unset, .unset]) rfl ?_
    show Steps p.tables e below (s₁.setTop (mkF m 23 #[.val (.int p1), .val (.long q2), .second, .val (.int p3), .val (.long (own_parts p1)), .second, .val (.int (p3 &&& (3 : Int32))), .val (.long (0 : Int64)), .second, .unset, .unset, .unset, .unset, .unset] [])) _
    refine XS.goto X0.here hx rfl (pc0 := 23) (pc' := 64) rfl (hb hby at_23) (by decide) (by decide) ?_
    show Steps p.tables e below (s₁.setTop (mkF m 64 #[.val (.int p1), .val (.long q2), .second, .val (.int p3), .val (.long (own_parts p1)), .second, .val (.int (p3 &&& (3 : Int32))), .val (.long (0 : Int64)), .second, .unset, .unset, .unset, .unset, .unset] [])) _
    refine st4 _ ?_
    show Steps p.tables e below (T4.setTop (mkF m 67 #[.val (.int p1), .val (.long q2), .second, .val (.int p3), .val (.long (own_parts p1)), .second, .val (.int (p3 &&& (3 : Int32))), .val (.long (0 : Int64)), .second, .unset, .unset, .unset, .unset, .unset] [(.ref b4)])) _
    refine XS.dup X4.here hx rfl (hb hby at_67) rfl rfl ?_
    show Steps p.tables e below (T4.setTop (mkF m 68 #[.val (.int p1), .val (.long q2), .second, .val (.int p3), .val (.long (own_parts p1)), .second, .val (.int (p3 &&& (3 : Int32))), .val (.long (0 : Int64)), .second, .unset, .unset, .unset, .unset, .unset] [(.ref b4), (.ref b4)])) _
    refine XS.lload X4.here hx rfl (hb hby at_68) rfl ?_
    show Steps p.tables e below (T4.setTop (mkF m 70 #[.val (.int p1), .val (.long q2), .second, .val (.int p3), .val (.long (own_parts p1)), .second, .val (.int (p3 &&& (3 : Int32))), .val (.long (0 : Int64)), .second, .unset, .unset, .unset, .unset, .unset] [(.long (own_parts p1)), (.ref b4), (.ref b4)])) _
    refine st5.trans ?_
    show Steps p.tables e below (T5.setTop (mkF m 73 #[.val (.int p1), .val (.long q2), .second, .val (.int p3), .val (.long (own_parts p1)), .second, .val (.int (p3 &&& (3 : Int32))), .val (.long (0 : Int64)), .second, .unset, .unset, .unset, .unset, .unset] [(.ref b4)])) _
    refine XS.astore X5.here hx rfl (hb hby at_73) rfl rfl (l' := #[.val (.int p1), .val (.long q2), .second, .val (.int p3), .val (.long (own_parts p1)), .second, .val (.int (p3 &&& (3 : Int32))), .val (.long (0 : Int64)), .second, .val (.ref b4), .unset, .unset, .unset, .unset]) rfl ?_
    show Steps p.tables e below (T5.setTop (mkF m 75 #[.val (.int p1), .val (.long q2), .second, .val (.int p3), .val (.long (own_parts p1)), .second, .val (.int (p3 &&& (3 : Int32))), .val (.long (0 : Int64)), .second, .val (.ref b4), .unset, .unset, .unset, .unset] [])) _
    refine XS.aload X5.here hx rfl (hb hby at_75) rfl rfl ?_
    show Steps p.tables e below (T5.setTop (mkF m 77 #[.val (.int p1), .val (.long q2), .second, .val (.int p3), .val (.long (own_parts p1)), .second, .val (.int (p3 &&& (3 : Int32))), .val (.long (0 : Int64)), .second, .val (.ref b4), .unset, .unset, .unset, .unset] [(.ref b4)])) _
    refine XS.lload X5.here hx rfl (hb hby at_77) rfl ?_
    show Steps p.tables e below (T5.setTop (mkF m 79 #[.val (.int p1), .val (.long q2), .second, .val (.int p3), .val (.long (own_parts p1)), .second, .val (.int (p3 &&& (3 : Int32))), .val (.long (0 : Int64)), .second, .val (.ref b4), .unset, .unset, .unset, .unset] [(.long (0 : Int64)), (.ref b4)])) _
    refine st6.trans ?_
    show Steps p.tables e below (T6.setTop (mkF m 82 #[.val (.int p1), .val (.long q2), .second, .val (.int p3), .val (.long (own_parts p1)), .second, .val (.int (p3 &&& (3 : Int32))), .val (.long (0 : Int64)), .second, .val (.ref b4), .unset, .unset, .unset, .unset] [(.long (own_first (own_parts p1) (0 : Int64)))])) _
    refine XS.lstore X6.here hx rfl (hb hby at_82) rfl (l' := #[.val (.int p1), .val (.long q2), .second, .val (.int p3), .val (.long (own_parts p1)), .second, .val (.int (p3 &&& (3 : Int32))), .val (.long (0 : Int64)), .second, .val (.ref b4), .val (.long (own_first (own_parts p1) (0 : Int64))), .second, .unset, .unset]) rfl ?_
    show Steps p.tables e below (T6.setTop (mkF m 84 #[.val (.int p1), .val (.long q2), .second, .val (.int p3), .val (.long (own_parts p1)), .second, .val (.int (p3 &&& (3 : Int32))), .val (.long (0 : Int64)), .second, .val (.ref b4), .val (.long (own_first (own_parts p1) (0 : Int64))), .second, .unset, .unset] [])) _
    refine XS.lload X6.here hx rfl (hb hby at_84) rfl ?_
    show Steps p.tables e below (T6.setTop (mkF m 86 #[.val (.int p1), .val (.long q2), .second, .val (.int p3), .val (.long (own_parts p1)), .second, .val (.int (p3 &&& (3 : Int32))), .val (.long (0 : Int64)), .second, .val (.ref b4), .val (.long (own_first (own_parts p1) (0 : Int64))), .second, .unset, .unset] [(.long (0 : Int64))])) _
    refine XS.lload X6.here hx rfl (hb hby at_86) rfl ?_
    show Steps p.tables e below (T6.setTop (mkF m 88 #[.val (.int p1), .val (.long q2), .second, .val (.int p3), .val (.long (own_parts p1)), .second, .val (.int (p3 &&& (3 : Int32))), .val (.long (0 : Int64)), .second, .val (.ref b4), .val (.long (own_first (own_parts p1) (0 : Int64))), .second, .unset, .unset] [(.long (own_parts p1)), (.long (0 : Int64))])) _
    refine XS.lcmp X6.here hx rfl (hb hby at_88) rfl ?_
    show Steps p.tables e below (T6.setTop (mkF m 89 #[.val (.int p1), .val (.long q2), .second, .val (.int p3), .val (.long (own_parts p1)), .second, .val (.int (p3 &&& (3 : Int32))), .val (.long (0 : Int64)), .second, .val (.ref b4), .val (.long (own_first (own_parts p1) (0 : Int64))), .second, .unset, .unset] [(.int (lcmpW (0 : Int64) (own_parts p1)))])) _
    refine XS.ifYes X6.here hx rfl (pc0 := 89) (pc' := 98) rfl (hb hby at_89) rfl ((if0 _ _).trans (feq hc89).2) (by decide) (by decide) ?_
    show Steps p.tables e below (T6.setTop (mkF m 98 #[.val (.int p1), .val (.long q2), .second, .val (.int p3), .val (.long (own_parts p1)), .second, .val (.int (p3 &&& (3 : Int32))), .val (.long (0 : Int64)), .second, .val (.ref b4), .val (.long (own_first (own_parts p1) (0 : Int64))), .second, .unset, .unset] [])) _
    refine XS.lload X6.here hx rfl (hb hby at_98) rfl ?_
    show Steps p.tables e below (T6.setTop (mkF m 100 #[.val (.int p1), .val (.long q2), .second, .val (.int p3), .val (.long (own_parts p1)), .second, .val (.int (p3 &&& (3 : Int32))), .val (.long (0 : Int64)), .second, .val (.ref b4), .val (.long (own_first (own_parts p1) (0 : Int64))), .second, .unset, .unset] [(.long (0 : Int64))])) _
    refine XS.lload X6.here hx rfl (hb hby at_100) rfl ?_
    show Steps p.tables e below (T6.setTop (mkF m 102 #[.val (.int p1), .val (.long q2), .second, .val (.int p3), .val (.long (own_parts p1)), .second, .val (.int (p3 &&& (3 : Int32))), .val (.long (0 : Int64)), .second, .val (.ref b4), .val (.long (own_first (own_parts p1) (0 : Int64))), .second, .unset, .unset] [(.long (own_parts p1)), (.long (0 : Int64))])) _
    refine st7 _ ?_
    show Steps p.tables e below (T7.setTop (mkF m 105 #[.val (.int p1), .val (.long q2), .second, .val (.int p3), .val (.long (own_parts p1)), .second, .val (.int (p3 &&& (3 : Int32))), .val (.long (0 : Int64)), .second, .val (.ref b4), .val (.long (own_first (own_parts p1) (0 : Int64))), .second, .unset, .unset] [(.long (own_share (0 : Int64) (own_parts p1)))])) _
    refine XS.lstore X7.here hx rfl (hb hby at_105) rfl (l' := #[.val (.int p1), .val (.long q2), .second, .val (.int p3), .val (.long (own_parts p1)), .second, .val (.int (p3 &&& (3 : Int32))), .val (.long (0 : Int64)), .second, .val (.ref b4), .val (.long (own_first (own_parts p1) (0 : Int64))), .second, .val (.long (own_share (0 : Int64) (own_parts p1))), .second]) rfl ?_
    show Steps p.tables e below (T7.setTop (mkF m 107 #[.val (.int p1), .val (.long q2), .second, .val (.int p3), .val (.long (own_parts p1)), .second, .val (.int (p3 &&& (3 : Int32))), .val (.long (0 : Int64)), .second, .val (.ref b4), .val (.long (own_first (own_parts p1) (0 : Int64))), .second, .val (.long (own_share (0 : Int64) (own_parts p1))), .second] [])) _
    refine XS.lload X7.here hx rfl (hb hby at_107) rfl ?_
    show Steps p.tables e below (T7.setTop (mkF m 109 #[.val (.int p1), .val (.long q2), .second, .val (.int p3), .val (.long (own_parts p1)), .second, .val (.int (p3 &&& (3 : Int32))), .val (.long (0 : Int64)), .second, .val (.ref b4), .val (.long (own_first (own_parts p1) (0 : Int64))), .second, .val (.long (own_share (0 : Int64) (own_parts p1))), .second] [(.long (own_first (own_parts p1) (0 : Int64)))])) _
    refine XS.lload X7.here hx rfl (hb hby at_109) rfl ?_
    show Steps p.tables e below (T7.setTop (mkF m 111 #[.val (.int p1), .val (.long q2), .second, .val (.int p3), .val (.long (own_parts p1)), .second, .val (.int (p3 &&& (3 : Int32))), .val (.long (0 : Int64)), .second, .val (.ref b4), .val (.long (own_first (own_parts p1) (0 : Int64))), .second, .val (.long (own_share (0 : Int64) (own_parts p1))), .second] [(.long (own_share (0 : Int64) (own_parts p1))), (.long (own_first (own_parts p1) (0 : Int64)))])) _
    refine XS.lcmp X7.here hx rfl (hb hby at_111) rfl ?_
    show Steps p.tables e below (T7.setTop (mkF m 112 #[.val (.int p1), .val (.long q2), .second, .val (.int p3), .val (.long (own_parts p1)), .second, .val (.int (p3 &&& (3 : Int32))), .val (.long (0 : Int64)), .second, .val (.ref b4), .val (.long (own_first (own_parts p1) (0 : Int64))), .second, .val (.long (own_share (0 : Int64) (own_parts p1))), .second] [(.int (lcmpW (own_first (own_parts p1) (0 : Int64)) (own_share (0 : Int64) (own_parts p1))))])) _
    refine XS.ifNo X7.here hx rfl (hb hby at_112) rfl ((if0 _ _).trans (teq ((lw_eq _ _).mpr (own_main _ _ (own_parts_rng p1).1 (own_parts_rng p1).2 (by decide) (by have := (own_parts_rng p1).1; show (0 : Int) < _; omega)) : (lcmpW (own_first (own_parts p1) (0 : Int64)) (own_share (0 : Int64) (own_parts p1))) = (0 : Int32))).2) ?_
    show Steps p.tables e below (T7.setTop (mkF m 115 #[.val (.int p1), .val (.long q2), .second, .val (.int p3), .val (.long (own_parts p1)), .second, .val (.int (p3 &&& (3 : Int32))), .val (.long (0 : Int64)), .second, .val (.ref b4), .val (.long (own_first (own_parts p1) (0 : Int64))), .second, .val (.long (own_share (0 : Int64) (own_parts p1))), .second] [])) _
    refine XS.iconst X7.here hx rfl (hb hby at_115) ?_
    show Steps p.tables e below (T7.setTop (mkF m 116 #[.val (.int p1), .val (.long q2), .second, .val (.int p3), .val (.long (own_parts p1)), .second, .val (.int (p3 &&& (3 : Int32))), .val (.long (0 : Int64)), .second, .val (.ref b4), .val (.long (own_first (own_parts p1) (0 : Int64))), .second, .val (.long (own_share (0 : Int64) (own_parts p1))), .second] [(.int (1 : Int32))])) _
    refine XS.goto X7.here hx rfl (pc0 := 116) (pc' := 120) rfl (hb hby at_116) (by decide) (by decide) ?_
    show Steps p.tables e below (T7.setTop (mkF m 120 #[.val (.int p1), .val (.long q2), .second, .val (.int p3), .val (.long (own_parts p1)), .second, .val (.int (p3 &&& (3 : Int32))), .val (.long (0 : Int64)), .second, .val (.ref b4), .val (.long (own_first (own_parts p1) (0 : Int64))), .second, .val (.long (own_share (0 : Int64) (own_parts p1))), .second] [(.int (1 : Int32))])) _
    exact retN X7 hx (t := .boolean) Bd.returns (by simp) (hb hby at_120) hr
  · show Q0 Z p1 q2 p3 h0 n0 _ T7.heap _
    exact ⟨rfl, N7⟩
set_option maxRecDepth 65536 in
set_option maxHeartbeats 40000000 in
theorem rm0_s1 (l : Launch) (Z : State) (a0 : Array Value) (hw : ∀ d ∈ tables_1, d.before a0 Z = true) (ws : List Jvm.Cond) (p1 : Int32) (q2 : Int64) (p3 : Int32) (h0 : Heap) (n0 : Nat) (Z0 : n0 ≤ h0.size) (hc17 : ¬ ((p3 &&& (3 : Int32)) = (0 : Int32))) (hc29 : (p3 &&& (3 : Int32)) = (1 : Int32)) (hc89 : True → (lcmpW (own_parts p1) (own_parts p1)) = (0 : Int32)) :
    MetFree l x (head1 (Jvm.Cond.code x code maxLocals ret :: ws) room_1) (fun a U => a = #[(.int p1), (.long q2), (.int p3)] ∧ Z.Warmed39 U.vm ∧ U.heap = h0) (fun _ _ _ _ _ => True) (fun _ U o U' => ∃ v L, o = .returned v ∧ Q0 Z p1 q2 p3 h0 n0 v U'.heap L ∧ FrameEnd U o U' L room_1.cells room_1.slots) := by
  refine MetFree.of_bodySF (plainFor_of_name pn_0) hisR ?_
  intro p e s m args below meth c s₁ Bd hml0 hP hK
  obtain ⟨rfl, hZ, hh⟩ := hP
  have hx := Bd.exec
  have hby := Bd.bytes
  have hml : c.maxLocals = 14 := hml0
  have hown : s.vm.findClass "com/example/level_ring/levelring/placement/CutFirstOffsetOfPinLaw" = some m.cls := findClass_of_methodNamed Bd.named
  have hnm := (name_of_methodNamed Bd.named Bd.method).1
  have X0 : Stand p l e room_1 s m #[(.int p1), (.long q2), (.int p3)] below meth c s₁ [] 0 0 := Stand.of_body Bd
  have e0 : s₁.heap = h0 := by rw [← hh, Bd.state]; rfl
  have N0 := Fr.nil n0
  have pre0 : ∀ t, Steps p.tables e below (s₁.setTop (mkF m 0 #[.val (.int p1), .val (.long q2), .second, .val (.int p3), .unset, .unset, .unset, .unset, .unset, .unset, .unset, .unset, .unset, .unset] [])) t → Steps p.tables e below (s₁.setTop (entryFrame m #[(.int p1), (.long q2), (.int p3)] maxLocals)) t := fun t k => castTop (ef_0 m p1 q2 p3) k
  -- 3. LAWS
  obtain ⟨T4, h4, X4, e4, E4, A4, D4, -, st4⟩ := newO X0 hx hZ hown (hw _ (List.mem_of_getElem? (i := 1) rfl)) (hw _ (List.mem_of_getElem? (i := 2) rfl)) (hw _ (List.mem_of_getElem? (i := 3) rfl)) e0 (g := (mkF m 64 #[.val (.int p1), .val (.long q2), .second, .val (.int p3), .val (.long (own_parts p1)), .second, .val (.int (p3 &&& (3 : Int32))), .val (.long (own_parts p1)), .second, .unset, .unset, .unset, .unset, .unset] [])) rfl (hb hby at_64) (by decide) (by decide)
  obtain ⟨b4, g4⟩ : ∃ z, z = h0.size := ⟨_, rfl⟩      -- the fresh object's address
  rw [← g4] at A4 D4 st4      -- A4 : Exa Z h4 b4 "com/example/level_ring/levelring/placement/PartitionSlots$Cut"; E4 : Ext h0 h4 (carries every older fact: .ext E4)
  have F_parts_b4 : Fld Z h4 b4 "com/example/level_ring/levelring/placement/PartitionSlots$Cut" "parts" "J" (.long (0 : Int64)) := D4 (Or.inr (hw _ (List.mem_of_getElem? (i := 11) rfl))) (ty := .long) (by decide)
  have F_unit_b4 : Fld Z h4 b4 "com/example/level_ring/levelring/placement/PartitionSlots$Cut" "unit" "J" (.long (0 : Int64)) := D4 (Or.inr (hw _ (List.mem_of_getElem? (i := 22) rfl))) (ty := .long) (by decide)
  have F_rest_b4 : Fld Z h4 b4 "com/example/level_ring/levelring/placement/PartitionSlots$Cut" "rest" "J" (.long (0 : Int64)) := D4 (Or.inr (hw _ (List.mem_of_getElem? (i := 24) rfl))) (ty := .long) (by decide)
  have E_b4 := A4
  have g_b4 : n0 ≤ b4 := Nat.le_trans Z0 (Nat.le_of_eq g4.symm)
  have sz_b4 : h0.size ≤ b4 := (Nat.le_trans (Keep.refl h0 []).1 (Nat.le_of_eq g4.symm))
  have K4 : Keep h0 h4 [] := (Keep.refl h0 []).ext E4
  -- pc 70: the constructor of com/example/level_ring/levelring/placement/PartitionSlots$Cut by its contract rm1
  obtain ⟨_, _, ⟨T5, L5, k5, n5⟩, -, X5, ⟨Lc5, hQ5, l5, y5, z5⟩, st5⟩ := X4.specialBack hx (y := (⟨"com/example/level_ring/levelring/placement/PartitionSlots$Cut", "<init>", "(J)V"⟩ : MethodName)) rfl hown (mvT hZ (hw _ (List.mem_of_getElem? (i := 4) rfl))) (mvT hZ (hw _ (List.mem_of_getElem? (i := 5) rfl))) (mvT hZ (hw _ (List.mem_of_getElem? (i := 6) rfl))) (by decide) (backOf (W := 1) (rm1 l Z a0 hw [] b4 (own_parts p1) (.long (0 : Int64)) (.long (0 : Int64)) (.long (0 : Int64)) h4 n0 (Nat.le_trans Z0 E4.1) E_b4 F_parts_b4 g_b4 F_unit_b4 F_rest_b4 (own_pos p1).1 (own_pos p1).2) hZ (hw _ (List.mem_of_getElem? (i := 6) rfl)) (hw _ (List.mem_of_getElem? (i := 3) rfl)) (by decide) (by decide)) (g := (mkF m 70 #[.val (.int p1), .val (.long q2), .second, .val (.int p3), .val (.long (own_parts p1)), .second, .val (.int (p3 &&& (3 : Int32))), .val (.long (own_parts p1)), .second, .unset, .unset, .unset, .unset, .unset] [(.long (own_parts p1)), (.ref b4), (.ref b4)])) rfl (by rw [hml]; rfl) (Steps.refl _) (a := b4) (argsL := [(.long (own_parts p1))]) (rest := [(.ref b4)]) (lenOf pdw_1 rfl) rfl (by show 2 * 0 + _ ≤ _; exact Nat.le_of_eq rfl) (hb hby at_70) (fun _ _ => ⟨rfl, e4, (by decide : 1 + 0 ≤ _), (by decide : 3 + 0 ≤ _)⟩)
  dsimp only [Pt.U, Pt.locs, Pt.cells, Pt.slots] at X5 l5 y5 z5 st5 hQ5
  subst l5 y5 z5
  obtain ⟨rfl, N5q, K5, E5, F5p, F5u, F5r⟩ := hQ5
  have Zh5 : n0 ≤ T5.heap.size := Nat.le_trans (Nat.le_trans Z0 E4.1) K5.1
  have N5 := Fr.app N0 N5q
  -- pc 79: com/example/level_ring/levelring/placement/PartitionSlots$Cut.firstOffsetOf by the contract of the body that the receiver's class selects, rm5
  obtain ⟨cq6, kq6, q6a, q6b, q6c⟩ := isOf hZ rfl (E_b4.keep K5)
  obtain ⟨_, _, ⟨T6, L6, k6, n6⟩, -, X6, ⟨Lc6, hQ6, l6, y6, z6⟩, st6⟩ := X5.virtualBack hx (y := (⟨"com/example/level_ring/levelring/placement/PartitionSlots$Cut", "firstOffsetOf", "(J)J"⟩ : MethodName)) (z := (⟨"com/example/level_ring/levelring/placement/PartitionSlots$Cut", "firstOffsetOf", "(J)J"⟩ : MethodName)) hown (mvT hZ (hw _ (List.mem_of_getElem? (i := 25) rfl))) (mvT hZ (hw _ (List.mem_of_getElem? (i := 26) rfl))) (notFace_of_selects (args := #[]) (mvT hZ (hw _ (List.mem_of_getElem? (i := 28) rfl)))) (mvT hZ (hw _ (List.mem_of_getElem? (i := 28) rfl))) (mvT hZ (hw _ (List.mem_of_getElem? (i := 27) rfl))) (by decide) (backOf (W := 0) (rm5 l Z a0 hw [] b4 (own_parts p1) (own_unit (own_parts p1)) (own_rest (own_parts p1)) (own_parts p1) T5.heap n0 Zh5 F5u F5r F5p (own_pos p1).2) hZ (hw _ (List.mem_of_getElem? (i := 29) rfl)) (hw _ (List.mem_of_getElem? (i := 3) rfl)) (by decide) (by decide)) q6a q6c (g := (mkF m 79 #[.val (.int p1), .val (.long q2), .second, .val (.int p3), .val (.long (own_parts p1)), .second, .val (.int (p3 &&& (3 : Int32))), .val (.long (own_parts p1)), .second, .val (.ref b4), .unset, .unset, .unset, .unset] [(.long (own_parts p1)), (.ref b4)])) rfl (by rw [hml]; rfl) (Steps.refl _) (argsL := [(.long (own_parts p1))]) (rest := []) (lenOf pdw_2 rfl) rfl (by show 2 * 0 + _ ≤ _; exact Nat.le_of_eq rfl) (hb hby at_79) (fun _ _ => ⟨rfl, rfl, (by decide : 1 + 0 ≤ _), (by decide : 3 + 0 ≤ _)⟩)
  dsimp only [Pt.U, Pt.locs, Pt.cells, Pt.slots] at X6 l6 y6 z6 st6 hQ6
  subst l6 y6 z6
  obtain ⟨rfl, N6q, hh6⟩ := hQ6
  have Zh6 : n0 ≤ T6.heap.size := by rw [hh6]; exact Zh5
  have N6 := Fr.app N5 N6q
  obtain ⟨fs, hr, hrun, hended, hW, hsame⟩ := X6.leave (v := some (.int (1 : Int32))) (fun h => by rw [Bd.returns] at h; cases h)
  refine ⟨_, _, pre0 _ ?_, hrun, hended, _, _, rfl, ?_, ⟨_, rfl⟩, hW, hsame.mono (by decide) (by decide)⟩
  -- 4. STEPS
  · show Steps p.tables e below (s₁.setTop (mkF m 0 #[.val (.int p1), .val (.long q2), .second, .val (.int p3), .unset, .unset, .unset, .unset, .unset, .unset, .unset, .unset, .unset, .unset] [])) _
    refine XS.iloadN X0.here hx rfl (hb hby at_0) rfl ?_
    show Steps p.tables e below (s₁.setTop (mkF m 1 #[.val (.int p1), .val (.long q2), .second, .val (.int p3), .unset, .unset, .unset, .unset, .unset, .unset, .unset, .unset, .unset, .unset] [(.int p1)])) _
    refine XS.i2l X0.here hx rfl (hb hby at_1) rfl ?_
    show Steps p.tables e below (s₁.setTop (mkF m 2 #[.val (.int p1), .val (.long q2), .second, .val (.int p3), .unset, .unset, .unset, .unset, .unset, .unset, .unset, .unset, .unset, .unset] [(.long (p1.toInt64))])) _
    refine X0.ldc2Long hx hown (mvT hZ (hw _ (List.mem_of_getElem? (i := 0) rfl))) (g := (mkF m 2 #[.val (.int p1), .val (.long q2), .second, .val (.int p3), .unset, .unset, .unset, .unset, .unset, .unset, .unset, .unset, .unset, .unset] [(.long (p1.toInt64))])) rfl (hb hby at_2) _ ?_
    show Steps p.tables e below (s₁.setTop (mkF m 5 #[.val (.int p1), .val (.long q2), .second, .val (.int p3), .unset, .unset, .unset, .unset, .unset, .unset, .unset, .unset, .unset, .unset] [(.long (2147483647 : Int64)), (.long (p1.toInt64))])) _
    refine XS.land X0.here hx rfl (hb hby at_5) rfl ?_
    show Steps p.tables e below (s₁.setTop (mkF m 6 #[.val (.int p1), .val (.long q2), .second, .val (.int p3), .unset, .unset, .unset, .unset, .unset, .unset, .unset, .unset, .unset, .unset] [(.long ((p1.toInt64) &&& (2147483647 : Int64)))])) _
    refine XS.lconst X0.here hx rfl (hb hby at_6) ?_
    show Steps p.tables e below (s₁.setTop (mkF m 7 #[.val (.int p1), .val (.long q2), .second, .val (.int p3), .unset, .unset, .unset, .unset, .unset, .unset, .unset, .unset, .unset, .unset] [(.long (1 : Int64)), (.long ((p1.toInt64) &&& (2147483647 : Int64)))])) _
    refine XS.ladd X0.here hx rfl (hb hby at_7) rfl ?_
    show Steps p.tables e below (s₁.setTop (mkF m 8 #[.val (.int p1), .val (.long q2), .second, .val (.int p3), .unset, .unset, .unset, .unset, .unset, .unset, .unset, .unset, .unset, .unset] [(.long (own_parts p1))])) _
    refine XS.lstore X0.here hx rfl (hb hby at_8) rfl (l' := #[.val (.int p1), .val (.long q2), .second, .val (.int p3), .val (.long (own_parts p1)), .second, .unset, .unset, .unset, .unset, .unset, .unset, .unset, .unset]) rfl ?_
    show Steps p.tables e below (s₁.setTop (mkF m 10 #[.val (.int p1), .val (.long q2), .second, .val (.int p3), .val (.long (own_parts p1)), .second, .unset, .unset, .unset, .unset, .unset, .unset, .unset, .unset] [])) _
    refine XS.iloadN X0.here hx rfl (hb hby at_10) rfl ?_
    show Steps p.tables e below (s₁.setTop (mkF m 11 #[.val (.int p1), .val (.long q2), .second, .val (.int p3), .val (.long (own_parts p1)), .second, .unset, .unset, .unset, .unset, .unset, .unset, .unset, .unset] [(.int p3)])) _
    refine XS.iconst X0.here hx rfl (hb hby at_11) ?_
    show Steps p.tables e below (s₁.setTop (mkF m 12 #[.val (.int p1), .val (.long q2), .second, .val (.int p3), .val (.long (own_parts p1)), .second, .unset, .unset, .unset, .unset, .unset, .unset, .unset, .unset] [(.int (3 : Int32)), (.int p3)])) _
    refine XS.iand X0.here hx rfl (hb hby at_12) rfl ?_
    show Steps p.tables e below (s₁.setTop (mkF m 13 #[.val (.int p1), .val (.long q2), .second, .val (.int p3), .val (.long (own_parts p1)), .second, .unset, .unset, .unset, .unset, .unset, .unset, .unset, .unset] [(.int (p3 &&& (3 : Int32)))])) _
    refine XS.istore X0.here hx rfl (hb hby at_13) rfl (l' := #[.val (.int p1), .val (.long q2), .second, .val (.int p3), .val (.long (own_parts p1)), .second, .val (.int (p3 &&& (3 : Int32))), .unset, .unset, .unset, .unset, .unset, .unset, .unset]) rfl ?_
    show Steps p.tables e below (s₁.setTop (mkF m 15 #[.val (.int p1), .val (.long q2), .second, .val (.int p3), .val (.long (own_parts p1)), .second, .val (.int (p3 &&& (3 : Int32))), .unset, .unset, .unset, .unset, .unset, .unset, .unset] [])) _
    refine XS.iload X0.here hx rfl (hb hby at_15) rfl ?_
    show Steps p.tables e below (s₁.setTop (mkF m 17 #[.val (.int p1), .val (.long q2), .second, .val (.int p3), .val (.long (own_parts p1)), .second, .val (.int (p3 &&& (3 : Int32))), .unset, .unset, .unset, .unset, .unset, .unset, .unset] [(.int (p3 &&& (3 : Int32)))])) _
    refine XS.ifYes X0.here hx rfl (pc0 := 17) (pc' := 26) rfl (hb hby at_17) rfl ((if0 _ _).trans (feq hc17).2) (by decide) (by decide) ?_
    show Steps p.tables e below (s₁.setTop (mkF m 26 #[.val (.int p1), .val (.long q2), .second, .val (.int p3), .val (.long (own_parts p1)), .second, .val (.int (p3 &&& (3 : Int32))), .unset, .unset, .unset, .unset, .unset, .unset, .unset] [])) _
    refine XS.iload X0.here hx rfl (hb hby at_26) rfl ?_
    show Steps p.tables e below (s₁.setTop (mkF m 28 #[.val (.int p1), .val (.long q2), .second, .val (.int p3), .val (.long (own_parts p1)), .second, .val (.int (p3 &&& (3 : Int32))), .unset, .unset, .unset, .unset, .unset, .unset, .unset] [(.int (p3 &&& (3 : Int32)))])) _
    refine XS.iconst X0.here hx rfl (hb hby at_28) ?_
    show Steps p.tables e below (s₁.setTop (mkF m 29 #[.val (.int p1), .val (.long q2), .second, .val (.int p3), .val (.long (own_parts p1)), .second, .val (.int (p3 &&& (3 : Int32))), .unset, .unset, .unset, .unset, .unset, .unset, .unset] [(.int (1 : Int32)), (.int (p3 &&& (3 : Int32)))])) _
    refine XS.icmpNo X0.here hx rfl (hb hby at_29) rfl (teq hc29).2 ?_
    show Steps p.tables e below (s₁.setTop (mkF m 32 #[.val (.int p1), .val (.long q2), .second, .val (.int p3), .val (.long (own_parts p1)), .second, .val (.int (p3 &&& (3 : Int32))), .unset, .unset, .unset, .unset, .unset, .unset, .unset] [])) _
    refine XS.lload X0.here hx rfl (hb hby at_32) rfl ?_
    show Steps p.tables e below (s₁.setTop (mkF m 34 #[.val (.int p1), .val (.long q2), .second, .val (.int p3), .val (.long (own_parts p1)), .second, .val (.int (p3 &&& (3 : Int32))), .unset, .unset, .unset, .unset, .unset, .unset, .unset] [(.long (own_parts p1))])) _
    refine XS.lstore X0.here hx rfl (hb hby at_34) rfl (l' := #[.val (.int p1), .val (.long q2), .second, .val (.int p3), .val (.long (own_parts p1)), .second, .val (.int (p3 &&& (3 : Int32))), .val (.long (own_parts p1)), .second, .unset, .unset, .unset, .unset, .unset]) rfl ?_
    show Steps p.tables e below (s₁.setTop (mkF m 36 #[.val (.int p1), .val (.long q2), .second, .val (.int p3), .val (.long (own_parts p1)), .second, .val (.int (p3 &&& (3 : Int32))), .val (.long (own_parts p1)), .second, .unset, .unset, .unset, .unset, .unset] [])) _
    refine XS.goto X0.here hx rfl (pc0 := 36) (pc' := 64) rfl (hb hby at_36) (by decide) (by decide) ?_
    show Steps p.tables e below (s₁.setTop (mkF m 64 #[.val (.int p1), .val (.long q2), .second, .val (.int p3), .val (.long (own_parts p1)), .second, .val (.int (p3 &&& (3 : Int32))), .val (.long (own_parts p1)), .second, .unset, .unset, .unset, .unset, .unset] [])) _
    refine st4 _ ?_
    show Steps p.tables e below (T4.setTop (mkF m 67 #[.val (.int p1), .val (.long q2), .second, .val (.int p3), .val (.long (own_parts p1)), .second, .val (.int (p3 &&& (3 : Int32))), .val (.long (own_parts p1)), .second, .unset, .unset, .unset, .unset, .unset] [(.ref b4)])) _
    refine XS.dup X4.here hx rfl (hb hby at_67) rfl rfl ?_
    show Steps p.tables e below (T4.setTop (mkF m 68 #[.val (.int p1), .val (.long q2), .second, .val (.int p3), .val (.long (own_parts p1)), .second, .val (.int (p3 &&& (3 : Int32))), .val (.long (own_parts p1)), .second, .unset, .unset, .unset, .unset, .unset] [(.ref b4), (.ref b4)])) _
    refine XS.lload X4.here hx rfl (hb hby at_68) rfl ?_
    show Steps p.tables e below (T4.setTop (mkF m 70 #[.val (.int p1), .val (.long q2), .second, .val (.int p3), .val (.long (own_parts p1)), .second, .val (.int (p3 &&& (3 : Int32))), .val (.long (own_parts p1)), .second, .unset, .unset, .unset, .unset, .unset] [(.long (own_parts p1)), (.ref b4), (.ref b4)])) _
    refine st5.trans ?_
    show Steps p.tables e below (T5.setTop (mkF m 73 #[.val (.int p1), .val (.long q2), .second, .val (.int p3), .val (.long (own_parts p1)), .second, .val (.int (p3 &&& (3 : Int32))), .val (.long (own_parts p1)), .second, .unset, .unset, .unset, .unset, .unset] [(.ref b4)])) _
    refine XS.astore X5.here hx rfl (hb hby at_73) rfl rfl (l' := #[.val (.int p1), .val (.long q2), .second, .val (.int p3), .val (.long (own_parts p1)), .second, .val (.int (p3 &&& (3 : Int32))), .val (.long (own_parts p1)), .second, .val (.ref b4), .unset, .unset, .unset, .unset]) rfl ?_
    show Steps p.tables e below (T5.setTop (mkF m 75 #[.val (.int p1), .val (.long q2), .second, .val (.int p3), .val (.long (own_parts p1)), .second, .val (.int (p3 &&& (3 : Int32))), .val (.long (own_parts p1)), .second, .val (.ref b4), .unset, .unset, .unset, .unset] [])) _
    refine XS.aload X5.here hx rfl (hb hby at_75) rfl rfl ?_
    show Steps p.tables e below (T5.setTop (mkF m 77 #[.val (.int p1), .val (.long q2), .second, .val (.int p3), .val (.long (own_parts p1)), .second, .val (.int (p3 &&& (3 : Int32))), .val (.long (own_parts p1)), .second, .val (.ref b4), .unset, .unset, .unset, .unset] [(.ref b4)])) _
    refine XS.lload X5.here hx rfl (hb hby at_77) rfl ?_
    show Steps p.tables e below (T5.setTop (mkF m 79 #[.val (.int p1), .val (.long q2), .second, .val (.int p3), .val (.long (own_parts p1)), .second, .val (.int (p3 &&& (3 : Int32))), .val (.long (own_parts p1)), .second, .val (.ref b4), .unset, .unset, .unset, .unset] [(.long (own_parts p1)), (.ref b4)])) _
    refine st6.trans ?_
    show Steps p.tables e below (T6.setTop (mkF m 82 #[.val (.int p1), .val (.long q2), .second, .val (.int p3), .val (.long (own_parts p1)), .second, .val (.int (p3 &&& (3 : Int32))), .val (.long (own_parts p1)), .second, .val (.ref b4), .unset, .unset, .unset, .unset] [(.long (own_first (own_parts p1) (own_parts p1)))])) _
    refine XS.lstore X6.here hx rfl (hb hby at_82) rfl (l' := #[.val (.int p1), .val (.long q2), .second, .val (.int p3), .val (.long (own_parts p1)), .second, .val (.int (p3 &&& (3 : Int32))), .val (.long (own_parts p1)), .second, .val (.ref b4), .val (.long (own_first (own_parts p1) (own_parts p1))), .second, .unset, .unset]) rfl ?_
    show Steps p.tables e below (T6.setTop (mkF m 84 #[.val (.int p1), .val (.long q2), .second, .val (.int p3), .val (.long (own_parts p1)), .second, .val (.int (p3 &&& (3 : Int32))), .val (.long (own_parts p1)), .second, .val (.ref b4), .val (.long (own_first (own_parts p1) (own_parts p1))), .second, .unset, .unset] [])) _
    refine XS.lload X6.here hx rfl (hb hby at_84) rfl ?_
    show Steps p.tables e below (T6.setTop (mkF m 86 #[.val (.int p1), .val (.long q2), .second, .val (.int p3), .val (.long (own_parts p1)), .second, .val (.int (p3 &&& (3 : Int32))), .val (.long (own_parts p1)), .second, .val (.ref b4), .val (.long (own_first (own_parts p1) (own_parts p1))), .second, .unset, .unset] [(.long (own_parts p1))])) _
    refine XS.lload X6.here hx rfl (hb hby at_86) rfl ?_
    show Steps p.tables e below (T6.setTop (mkF m 88 #[.val (.int p1), .val (.long q2), .second, .val (.int p3), .val (.long (own_parts p1)), .second, .val (.int (p3 &&& (3 : Int32))), .val (.long (own_parts p1)), .second, .val (.ref b4), .val (.long (own_first (own_parts p1) (own_parts p1))), .second, .unset, .unset] [(.long (own_parts p1)), (.long (own_parts p1))])) _
    refine XS.lcmp X6.here hx rfl (hb hby at_88) rfl ?_
    show Steps p.tables e below (T6.setTop (mkF m 89 #[.val (.int p1), .val (.long q2), .second, .val (.int p3), .val (.long (own_parts p1)), .second, .val (.int (p3 &&& (3 : Int32))), .val (.long (own_parts p1)), .second, .val (.ref b4), .val (.long (own_first (own_parts p1) (own_parts p1))), .second, .unset, .unset] [(.int (lcmpW (own_parts p1) (own_parts p1)))])) _
    refine XS.ifNo X6.here hx rfl (hb hby at_89) rfl ((if0 _ _).trans (teq (hc89 ⟨⟩)).2) ?_
    show Steps p.tables e below (T6.setTop (mkF m 92 #[.val (.int p1), .val (.long q2), .second, .val (.int p3), .val (.long (own_parts p1)), .second, .val (.int (p3 &&& (3 : Int32))), .val (.long (own_parts p1)), .second, .val (.ref b4), .val (.long (own_first (own_parts p1) (own_parts p1))), .second, .unset, .unset] [])) _
    refine XS.lconst X6.here hx rfl (hb hby at_92) ?_
    show Steps p.tables e below (T6.setTop (mkF m 93 #[.val (.int p1), .val (.long q2), .second, .val (.int p3), .val (.long (own_parts p1)), .second, .val (.int (p3 &&& (3 : Int32))), .val (.long (own_parts p1)), .second, .val (.ref b4), .val (.long (own_first (own_parts p1) (own_parts p1))), .second, .unset, .unset] [(.long (0 : Int64))])) _
    refine XS.lstore X6.here hx rfl (hb hby at_93) rfl (l' := #[.val (.int p1), .val (.long q2), .second, .val (.int p3), .val (.long (own_parts p1)), .second, .val (.int (p3 &&& (3 : Int32))), .val (.long (own_parts p1)), .second, .val (.ref b4), .val (.long (own_first (own_parts p1) (own_parts p1))), .second, .val (.long (0 : Int64)), .second]) rfl ?_
    show Steps p.tables e below (T6.setTop (mkF m 95 #[.val (.int p1), .val (.long q2), .second, .val (.int p3), .val (.long (own_parts p1)), .second, .val (.int (p3 &&& (3 : Int32))), .val (.long (own_parts p1)), .second, .val (.ref b4), .val (.long (own_first (own_parts p1) (own_parts p1))), .second, .val (.long (0 : Int64)), .second] [])) _
    refine XS.goto X6.here hx rfl (pc0 := 95) (pc' := 107) rfl (hb hby at_95) (by decide) (by decide) ?_
    show Steps p.tables e below (T6.setTop (mkF m 107 #[.val (.int p1), .val (.long q2), .second, .val (.int p3), .val (.long (own_parts p1)), .second, .val (.int (p3 &&& (3 : Int32))), .val (.long (own_parts p1)), .second, .val (.ref b4), .val (.long (own_first (own_parts p1) (own_parts p1))), .second, .val (.long (0 : Int64)), .second] [])) _
    refine XS.lload X6.here hx rfl (hb hby at_107) rfl ?_
    show Steps p.tables e below (T6.setTop (mkF m 109 #[.val (.int p1), .val (.long q2), .second, .val (.int p3), .val (.long (own_parts p1)), .second, .val (.int (p3 &&& (3 : Int32))), .val (.long (own_parts p1)), .second, .val (.ref b4), .val (.long (own_first (own_parts p1) (own_parts p1))), .second, .val (.long (0 : Int64)), .second] [(.long (own_first (own_parts p1) (own_parts p1)))])) _
    refine XS.lload X6.here hx rfl (hb hby at_109) rfl ?_
    show Steps p.tables e below (T6.setTop (mkF m 111 #[.val (.int p1), .val (.long q2), .second, .val (.int p3), .val (.long (own_parts p1)), .second, .val (.int (p3 &&& (3 : Int32))), .val (.long (own_parts p1)), .second, .val (.ref b4), .val (.long (own_first (own_parts p1) (own_parts p1))), .second, .val (.long (0 : Int64)), .second] [(.long (0 : Int64)), (.long (own_first (own_parts p1) (own_parts p1)))])) _
    refine XS.lcmp X6.here hx rfl (hb hby at_111) rfl ?_
    show Steps p.tables e below (T6.setTop (mkF m 112 #[.val (.int p1), .val (.long q2), .second, .val (.int p3), .val (.long (own_parts p1)), .second, .val (.int (p3 &&& (3 : Int32))), .val (.long (own_parts p1)), .second, .val (.ref b4), .val (.long (own_first (own_parts p1) (own_parts p1))), .second, .val (.long (0 : Int64)), .second] [(.int (lcmpW (own_first (own_parts p1) (own_parts p1)) (0 : Int64)))])) _
    refine XS.ifNo X6.here hx rfl (hb hby at_112) rfl ((if0 _ _).trans (teq ((lw_eq _ _).mpr (own_all _ (own_parts_rng p1).1 (own_parts_rng p1).2) : (lcmpW (own_first (own_parts p1) (own_parts p1)) (0 : Int64)) = (0 : Int32))).2) ?_
    show Steps p.tables e below (T6.setTop (mkF m 115 #[.val (.int p1), .val (.long q2), .second, .val (.int p3), .val (.long (own_parts p1)), .second, .val (.int (p3 &&& (3 : Int32))), .val (.long (own_parts p1)), .second, .val (.ref b4), .val (.long (own_first (own_parts p1) (own_parts p1))), .second, .val (.long (0 : Int64)), .second] [])) _
    refine XS.iconst X6.here hx rfl (hb hby at_115) ?_
    show Steps p.tables e below (T6.setTop (mkF m 116 #[.val (.int p1), .val (.long q2), .second, .val (.int p3), .val (.long (own_parts p1)), .second, .val (.int (p3 &&& (3 : Int32))), .val (.long (own_parts p1)), .second, .val (.ref b4), .val (.long (own_first (own_parts p1) (own_parts p1))), .second, .val (.long (0 : Int64)), .second] [(.int (1 : Int32))])) _
    refine XS.goto X6.here hx rfl (pc0 := 116) (pc' := 120) rfl (hb hby at_116) (by decide) (by decide) ?_
    show Steps p.tables e below (T6.setTop (mkF m 120 #[.val (.int p1), .val (.long q2), .second, .val (.int p3), .val (.long (own_parts p1)), .second, .val (.int (p3 &&& (3 : Int32))), .val (.long (own_parts p1)), .second, .val (.ref b4), .val (.long (own_first (own_parts p1) (own_parts p1))), .second, .val (.long (0 : Int64)), .second] [(.int (1 : Int32))])) _
    exact retN X6 hx (t := .boolean) Bd.returns (by simp) (hb hby at_120) hr
  · show Q0 Z p1 q2 p3 h0 n0 _ T6.heap _
    exact ⟨rfl, N6⟩
set_option maxRecDepth 65536 in
set_option maxHeartbeats 40000000 in
theorem rm0_s2 (l : Launch) (Z : State) (a0 : Array Value) (hw : ∀ d ∈ tables_1, d.before a0 Z = true) (ws : List Jvm.Cond) (p1 : Int32) (q2 : Int64) (p3 : Int32) (h0 : Heap) (n0 : Nat) (Z0 : n0 ≤ h0.size) (hc17 : ¬ ((p3 &&& (3 : Int32)) = (0 : Int32))) (hc29 : ¬ ((p3 &&& (3 : Int32)) = (1 : Int32))) (hc42 : (p3 &&& (3 : Int32)) = (2 : Int32)) (hc89 : ¬ ((lcmpW ((own_parts p1) - (1 : Int64)) (own_parts p1)) = (0 : Int32))) :
    MetFree l x (head1 (Jvm.Cond.code x code maxLocals ret :: ws) room_1) (fun a U => a = #[(.int p1), (.long q2), (.int p3)] ∧ Z.Warmed39 U.vm ∧ U.heap = h0) (fun _ _ _ _ _ => True) (fun _ U o U' => ∃ v L, o = .returned v ∧ Q0 Z p1 q2 p3 h0 n0 v U'.heap L ∧ FrameEnd U o U' L room_1.cells room_1.slots) := by
  refine MetFree.of_bodySF (plainFor_of_name pn_0) hisR ?_
  intro p e s m args below meth c s₁ Bd hml0 hP hK
  obtain ⟨rfl, hZ, hh⟩ := hP
  have hx := Bd.exec
  have hby := Bd.bytes
  have hml : c.maxLocals = 14 := hml0
  have hown : s.vm.findClass "com/example/level_ring/levelring/placement/CutFirstOffsetOfPinLaw" = some m.cls := findClass_of_methodNamed Bd.named
  have hnm := (name_of_methodNamed Bd.named Bd.method).1
  have X0 : Stand p l e room_1 s m #[(.int p1), (.long q2), (.int p3)] below meth c s₁ [] 0 0 := Stand.of_body Bd
  have e0 : s₁.heap = h0 := by rw [← hh, Bd.state]; rfl
  have N0 := Fr.nil n0
  have pre0 : ∀ t, Steps p.tables e below (s₁.setTop (mkF m 0 #[.val (.int p1), .val (.long q2), .second, .val (.int p3), .unset, .unset, .unset, .unset, .unset, .unset, .unset, .unset, .unset, .unset] [])) t → Steps p.tables e below (s₁.setTop (entryFrame m #[(.int p1), (.long q2), (.int p3)] maxLocals)) t := fun t k => castTop (ef_0 m p1 q2 p3) k
  -- 3. LAWS
  obtain ⟨T4, h4, X4, e4, E4, A4, D4, -, st4⟩ := newO X0 hx hZ hown (hw _ (List.mem_of_getElem? (i := 1) rfl)) (hw _ (List.mem_of_getElem? (i := 2) rfl)) (hw _ (List.mem_of_getElem? (i := 3) rfl)) e0 (g := (mkF m 64 #[.val (.int p1), .val (.long q2), .second, .val (.int p3), .val (.long (own_parts p1)), .second, .val (.int (p3 &&& (3 : Int32))), .val (.long ((own_parts p1) - (1 : Int64))), .second, .unset, .unset, .unset, .unset, .unset] [])) rfl (hb hby at_64) (by decide) (by decide)
  obtain ⟨b4, g4⟩ : ∃ z, z = h0.size := ⟨_, rfl⟩      -- the fresh object's address
  rw [← g4] at A4 D4 st4      -- A4 : Exa Z h4 b4 "com/example/level_ring/levelring/placement/PartitionSlots$Cut"; E4 : Ext h0 h4 (carries every older fact: .ext E4)
  have F_parts_b4 : Fld Z h4 b4 "com/example/level_ring/levelring/placement/PartitionSlots$Cut" "parts" "J" (.long (0 : Int64)) := D4 (Or.inr (hw _ (List.mem_of_getElem? (i := 11) rfl))) (ty := .long) (by decide)
  have F_unit_b4 : Fld Z h4 b4 "com/example/level_ring/levelring/placement/PartitionSlots$Cut" "unit" "J" (.long (0 : Int64)) := D4 (Or.inr (hw _ (List.mem_of_getElem? (i := 22) rfl))) (ty := .long) (by decide)
  have F_rest_b4 : Fld Z h4 b4 "com/example/level_ring/levelring/placement/PartitionSlots$Cut" "rest" "J" (.long (0 : Int64)) := D4 (Or.inr (hw _ (List.mem_of_getElem? (i := 24) rfl))) (ty := .long) (by decide)
  have E_b4 := A4
  have g_b4 : n0 ≤ b4 := Nat.le_trans Z0 (Nat.le_of_eq g4.symm)
  have sz_b4 : h0.size ≤ b4 := (Nat.le_trans (Keep.refl h0 []).1 (Nat.le_of_eq g4.symm))
  have K4 : Keep h0 h4 [] := (Keep.refl h0 []).ext E4
  -- pc 70: the constructor of com/example/level_ring/levelring/placement/PartitionSlots$Cut by its contract rm1
  obtain ⟨_, _, ⟨T5, L5, k5, n5⟩, -, X5, ⟨Lc5, hQ5, l5, y5, z5⟩, st5⟩ := X4.specialBack hx (y := (⟨"com/example/level_ring/levelring/placement/PartitionSlots$Cut", "<init>", "(J)V"⟩ : MethodName)) rfl hown (mvT hZ (hw _ (List.mem_of_getElem? (i := 4) rfl))) (mvT hZ (hw _ (List.mem_of_getElem? (i := 5) rfl))) (mvT hZ (hw _ (List.mem_of_getElem? (i := 6) rfl))) (by decide) (backOf (W := 1) (rm1 l Z a0 hw [] b4 (own_parts p1) (.long (0 : Int64)) (.long (0 : Int64)) (.long (0 : Int64)) h4 n0 (Nat.le_trans Z0 E4.1) E_b4 F_parts_b4 g_b4 F_unit_b4 F_rest_b4 (own_pos p1).1 (own_pos p1).2) hZ (hw _ (List.mem_of_getElem? (i := 6) rfl)) (hw _ (List.mem_of_getElem? (i := 3) rfl)) (by decide) (by decide)) (g := (mkF m 70 #[.val (.int p1), .val (.long q2), .second, .val (.int p3), .val (.long (own_parts p1)), .second, .val (.int (p3 &&& (3 : Int32))), .val (.long ((own_parts p1) - (1 : Int64))), .second, .unset, .unset, .unset, .unset, .unset] [(.long (own_parts p1)), (.ref b4), (.ref b4)])) rfl (by rw [hml]; rfl) (Steps.refl _) (a := b4) (argsL := [(.long (own_parts p1))]) (rest := [(.ref b4)]) (lenOf pdw_1 rfl) rfl (by show 2 * 0 + _ ≤ _; exact Nat.le_of_eq rfl) (hb hby at_70) (fun _ _ => ⟨rfl, e4, (by decide : 1 + 0 ≤ _), (by decide : 3 + 0 ≤ _)⟩)
  dsimp only [Pt.U, Pt.locs, Pt.cells, Pt.slots] at X5 l5 y5 z5 st5 hQ5
  subst l5 y5 z5
  obtain ⟨rfl, N5q, K5, E5, F5p, F5u, F5r⟩ := hQ5
  have Zh5 : n0 ≤ T5.heap.size := Nat.le_trans (Nat.le_trans Z0 E4.1) K5.1
  have N5 := Fr.app N0 N5q
  -- pc 79: com/example/level_ring/levelring/placement/PartitionSlots$Cut.firstOffsetOf by the contract of the body that the receiver's class selects, rm5
  obtain ⟨cq6, kq6, q6a, q6b, q6c⟩ := isOf hZ rfl (E_b4.keep K5)
  obtain ⟨_, _, ⟨T6, L6, k6, n6⟩, -, X6, ⟨Lc6, hQ6, l6, y6, z6⟩, st6⟩ := X5.virtualBack hx (y := (⟨"com/example/level_ring/levelring/placement/PartitionSlots$Cut", "firstOffsetOf", "(J)J"⟩ : MethodName)) (z := (⟨"com/example/level_ring/levelring/placement/PartitionSlots$Cut", "firstOffsetOf", "(J)J"⟩ : MethodName)) hown (mvT hZ (hw _ (List.mem_of_getElem? (i := 25) rfl))) (mvT hZ (hw _ (List.mem_of_getElem? (i := 26) rfl))) (notFace_of_selects (args := #[]) (mvT hZ (hw _ (List.mem_of_getElem? (i := 28) rfl)))) (mvT hZ (hw _ (List.mem_of_getElem? (i := 28) rfl))) (mvT hZ (hw _ (List.mem_of_getElem? (i := 27) rfl))) (by decide) (backOf (W := 0) (rm5 l Z a0 hw [] b4 ((own_parts p1) - (1 : Int64)) (own_unit (own_parts p1)) (own_rest (own_parts p1)) (own_parts p1) T5.heap n0 Zh5 F5u F5r F5p (own_pos p1).2) hZ (hw _ (List.mem_of_getElem? (i := 29) rfl)) (hw _ (List.mem_of_getElem? (i := 3) rfl)) (by decide) (by decide)) q6a q6c (g := (mkF m 79 #[.val (.int p1), .val (.long q2), .second, .val (.int p3), .val (.long (own_parts p1)), .second, .val (.int (p3 &&& (3 : Int32))), .val (.long ((own_parts p1) - (1 : Int64))), .second, .val (.ref b4), .unset, .unset, .unset, .unset] [(.long ((own_parts p1) - (1 : Int64))), (.ref b4)])) rfl (by rw [hml]; rfl) (Steps.refl _) (argsL := [(.long ((own_parts p1) - (1 : Int64)))]) (rest := []) (lenOf pdw_2 rfl) rfl (by show 2 * 0 + _ ≤ _; exact Nat.le_of_eq rfl) (hb hby at_79) (fun _ _ => ⟨rfl, rfl, (by decide : 1 + 0 ≤ _), (by decide : 3 + 0 ≤ _)⟩)
  dsimp only [Pt.U, Pt.locs, Pt.cells, Pt.slots] at X6 l6 y6 z6 st6 hQ6
  subst l6 y6 z6
  obtain ⟨rfl, N6q, hh6⟩ := hQ6
  have Zh6 : n0 ≤ T6.heap.size := by rw [hh6]; exact Zh5
  have N6 := Fr.app N5 N6q
  -- pc 102: com/example/level_ring/levelring/placement/CutFirstOffsetOfPinLaw.ceilShare by its contract rm6
  obtain ⟨_, _, ⟨T7, L7, k7, n7⟩, -, X7, ⟨Lc7, hQ7, l7, y7, z7⟩, st7⟩ := Jvm.LawKit.callS X6 hx (y := (⟨"com/example/level_ring/levelring/placement/CutFirstOffsetOfPinLaw", "ceilShare", "(JJ)J"⟩ : MethodName)) hown (mvT hZ (hw _ (List.mem_of_getElem? (i := 30) rfl))) (mvT hZ (hw _ (List.mem_of_getElem? (i := 31) rfl))) (mvT hZ (hw _ (List.mem_of_getElem? (i := 32) rfl))) (mvT hZ (hw _ (List.mem_of_getElem? (i := 33) rfl))) (by decide) (backOf (W := 0) (rm6 l Z a0 hw [] ((own_parts p1) - (1 : Int64)) (own_parts p1)  T6.heap n0 Zh6 (own_pos p1).2) hZ (hw _ (List.mem_of_getElem? (i := 33) rfl)) (hw _ (List.mem_of_getElem? (i := 32) rfl)) (by decide) (by decide)) (g := (mkF m 102 #[.val (.int p1), .val (.long q2), .second, .val (.int p3), .val (.long (own_parts p1)), .second, .val (.int (p3 &&& (3 : Int32))), .val (.long ((own_parts p1) - (1 : Int64))), .second, .val (.ref b4), .val (.long (own_first (own_parts p1) ((own_parts p1) - (1 : Int64)))), .second, .unset, .unset] [(.long (own_parts p1)), (.long ((own_parts p1) - (1 : Int64)))])) rfl (by rw [hml]; rfl) (argsL := [(.long ((own_parts p1) - (1 : Int64))), (.long (own_parts p1))]) (rest := []) (lenOf pdw_0 rfl) rfl (by show 2 * 0 + _ ≤ _; exact Nat.le_of_eq rfl) (hb hby at_102) (fun _ _ => ⟨rfl, rfl, (by decide : 1 + 0 ≤ _), (by decide : 3 + 0 ≤ _)⟩)
  dsimp only [Pt.U, Pt.locs, Pt.cells, Pt.slots] at X7 l7 y7 z7 st7 hQ7
  subst l7 y7 z7
  obtain ⟨rfl, N7q, hh7⟩ := hQ7
  have N7 := Fr.app N6 N7q
  obtain ⟨fs, hr, hrun, hended, hW, hsame⟩ := X7.leave (v := some (.int (1 : Int32))) (fun h => by rw [Bd.returns] at h; cases h)
  refine ⟨_, _, pre0 _ ?_, hrun, hended, _, _, rfl, ?_, ⟨_, rfl⟩, hW, hsame.mono (by decide) (by decide)⟩
  -- 4. STEPS
  · show Steps p.tables e below (s₁.setTop (mkF m 0 #[.val (.int p1), .val (.long q2), .second, .val (.int p3), .unset, .unset, .unset, .unset, .unset, .unset, .unset, .unset, .unset, .unset] [])) _
    refine XS.iloadN X0.here hx rfl (hb hby at_0) rfl ?_
    show Steps p.tables e below (s₁.setTop (mkF m 1 #[.val (.int p1), .val (.long q2), .second, .val (.int p3), .unset, .unset, .unset, .unset, .unset, .unset, .unset, .unset, .unset, .unset] [(.int p1)])) _
    refine XS.i2l X0.here hx rfl (hb hby at_1) rfl ?_
    show Steps p.tables e below (s₁.setTop (mkF m 2 #[.val (.int p1), .val (.long q2), .second, .val (.int p3), .unset, .unset, .unset, .unset, .unset, .unset, .unset, .unset, .unset, .unset] [(.long (p1.toInt64))])) _
    refine X0.ldc2Long hx hown (mvT hZ (hw _ (List.mem_of_getElem? (i := 0) rfl))) (g := (mkF m 2 #[.val (.int p1), .val (.long q2), .second, .val (.int p3), .unset, .unset, .unset, .unset, .unset, .unset, .unset, .unset, .unset, .unset] [(.long (p1.toInt64))])) rfl (hb hby at_2) _ ?_
    show Steps p.tables e below (s₁.setTop (mkF m 5 #[.val (.int p1), .val (.long q2), .second, .val (.int p3), .unset, .unset, .unset, .unset, .unset, .unset, .unset, .unset, .unset, .unset] [(.long (2147483647 : Int64)), (.long (p1.toInt64))])) _
    refine XS.land X0.here hx rfl (hb hby at_5) rfl ?_
    show Steps p.tables e below (s₁.setTop (mkF m 6 #[.val (.int p1), .val (.long q2), .second, .val (.int p3), .unset, .unset, .unset, .unset, .unset, .unset, .unset, .unset, .unset, .unset] [(.long ((p1.toInt64) &&& (2147483647 : Int64)))])) _
    refine XS.lconst X0.here hx rfl (hb hby at_6) ?_
    show Steps p.tables e below (s₁.setTop (mkF m 7 #[.val (.int p1), .val (.long q2), .second, .val (.int p3), .unset, .unset, .unset, .unset, .unset, .unset, .unset, .unset, .unset, .unset] [(.long (1 : Int64)), (.long ((p1.toInt64) &&& (2147483647 : Int64)))])) _
    refine XS.ladd X0.here hx rfl (hb hby at_7) rfl ?_
    show Steps p.tables e below (s₁.setTop (mkF m 8 #[.val (.int p1), .val (.long q2), .second, .val (.int p3), .unset, .unset, .unset, .unset, .unset, .unset, .unset, .unset, .unset, .unset] [(.long (own_parts p1))])) _
    refine XS.lstore X0.here hx rfl (hb hby at_8) rfl (l' := #[.val (.int p1), .val (.long q2), .second, .val (.int p3), .val (.long (own_parts p1)), .second, .unset, .unset, .unset, .unset, .unset, .unset, .unset, .unset]) rfl ?_
    show Steps p.tables e below (s₁.setTop (mkF m 10 #[.val (.int p1), .val (.long q2), .second, .val (.int p3), .val (.long (own_parts p1)), .second, .unset, .unset, .unset, .unset, .unset, .unset, .unset, .unset] [])) _
    refine XS.iloadN X0.here hx rfl (hb hby at_10) rfl ?_
    show Steps p.tables e below (s₁.setTop (mkF m 11 #[.val (.int p1), .val (.long q2), .second, .val (.int p3), .val (.long (own_parts p1)), .second, .unset, .unset, .unset, .unset, .unset, .unset, .unset, .unset] [(.int p3)])) _
    refine XS.iconst X0.here hx rfl (hb hby at_11) ?_
    show Steps p.tables e below (s₁.setTop (mkF m 12 #[.val (.int p1), .val (.long q2), .second, .val (.int p3), .val (.long (own_parts p1)), .second, .unset, .unset, .unset, .unset, .unset, .unset, .unset, .unset] [(.int (3 : Int32)), (.int p3)])) _
    refine XS.iand X0.here hx rfl (hb hby at_12) rfl ?_
    show Steps p.tables e below (s₁.setTop (mkF m 13 #[.val (.int p1), .val (.long q2), .second, .val (.int p3), .val (.long (own_parts p1)), .second, .unset, .unset, .unset, .unset, .unset, .unset, .unset, .unset] [(.int (p3 &&& (3 : Int32)))])) _
    refine XS.istore X0.here hx rfl (hb hby at_13) rfl (l' := #[.val (.int p1), .val (.long q2), .second, .val (.int p3), .val (.long (own_parts p1)), .second, .val (.int (p3 &&& (3 : Int32))), .unset, .unset, .unset, .unset, .unset, .unset, .unset]) rfl ?_
    show Steps p.tables e below (s₁.setTop (mkF m 15 #[.val (.int p1), .val (.long q2), .second, .val (.int p3), .val (.long (own_parts p1)), .second, .val (.int (p3 &&& (3 : Int32))), .unset, .unset, .unset, .unset, .unset, .unset, .unset] [])) _
    refine XS.iload X0.here hx rfl (hb hby at_15) rfl ?_
    show Steps p.tables e below (s₁.setTop (mkF m 17 #[.val (.int p1), .val (.long q2), .second, .val (.int p3), .val (.long (own_parts p1)), .second, .val (.int (p3 &&& (3 : Int32))), .unset, .unset, .unset, .unset, .unset, .unset, .unset] [(.int (p3 &&& (3 : Int32)))])) _
    refine XS.ifYes X0.here hx rfl (pc0 := 17) (pc' := 26) rfl (hb hby at_17) rfl ((if0 _ _).trans (feq hc17).2) (by decide) (by decide) ?_
    show Steps p.tables e below (s₁.setTop (mkF m 26 #[.val (.int p1), .val (.long q2), .second, .val (.int p3), .val (.long (own_parts p1)), .second, .val (.int (p3 &&& (3 : Int32))), .unset, .unset, .unset, .unset, .unset, .unset, .unset] [])) _
    refine XS.iload X0.here hx rfl (hb hby at_26) rfl ?_
    show Steps p.tables e below (s₁.setTop (mkF m 28 #[.val (.int p1), .val (.long q2), .second, .val (.int p3), .val (.long (own_parts p1)), .second, .val (.int (p3 &&& (3 : Int32))), .unset, .unset, .unset, .unset, .unset, .unset, .unset] [(.int (p3 &&& (3 : Int32)))])) _
    refine XS.iconst X0.here hx rfl (hb hby at_28) ?_
    show Steps p.tables e below (s₁.setTop (mkF m 29 #[.val (.int p1), .val (.long q2), .second, .val (.int p3), .val (.long (own_parts p1)), .second, .val (.int (p3 &&& (3 : Int32))), .unset, .unset, .unset, .unset, .unset, .unset, .unset] [(.int (1 : Int32)), (.int (p3 &&& (3 : Int32)))])) _
    refine XS.icmpYes X0.here hx rfl (pc0 := 29) (pc' := 39) rfl (hb hby at_29) rfl (feq hc29).2 (by decide) (by decide) ?_
    show Steps p.tables e below (s₁.setTop (mkF m 39 #[.val (.int p1), .val (.long q2), .second, .val (.int p3), .val (.long (own_parts p1)), .second, .val (.int (p3 &&& (3 : Int32))), .unset, .unset, .unset, .unset, .unset, .unset, .unset] [])) _
    refine XS.iload X0.here hx rfl (hb hby at_39) rfl ?_
    show Steps p.tables e below (s₁.setTop (mkF m 41 #[.val (.int p1), .val (.long q2), .second, .val (.int p3), .val (.long (own_parts p1)), .second, .val (.int (p3 &&& (3 : Int32))), .unset, .unset, .unset, .unset, .unset, .unset, .unset] [(.int (p3 &&& (3 : Int32)))])) _
    refine XS.iconst X0.here hx rfl (hb hby at_41) ?_
    show Steps p.tables e below (s₁.setTop (mkF m 42 #[.val (.int p1), .val (.long q2), .second, .val (.int p3), .val (.long (own_parts p1)), .second, .val (.int (p3 &&& (3 : Int32))), .unset, .unset, .unset, .unset, .unset, .unset, .unset] [(.int (2 : Int32)), (.int (p3 &&& (3 : Int32)))])) _
    refine XS.icmpNo X0.here hx rfl (hb hby at_42) rfl (teq hc42).2 ?_
    show Steps p.tables e below (s₁.setTop (mkF m 45 #[.val (.int p1), .val (.long q2), .second, .val (.int p3), .val (.long (own_parts p1)), .second, .val (.int (p3 &&& (3 : Int32))), .unset, .unset, .unset, .unset, .unset, .unset, .unset] [])) _
    refine XS.lload X0.here hx rfl (hb hby at_45) rfl ?_
    show Steps p.tables e below (s₁.setTop (mkF m 47 #[.val (.int p1), .val (.long q2), .second, .val (.int p3), .val (.long (own_parts p1)), .second, .val (.int (p3 &&& (3 : Int32))), .unset, .unset, .unset, .unset, .unset, .unset, .unset] [(.long (own_parts p1))])) _
    refine XS.lconst X0.here hx rfl (hb hby at_47) ?_
    show Steps p.tables e below (s₁.setTop (mkF m 48 #[.val (.int p1), .val (.long q2), .second, .val (.int p3), .val (.long (own_parts p1)), .second, .val (.int (p3 &&& (3 : Int32))), .unset, .unset, .unset, .unset, .unset, .unset, .unset] [(.long (1 : Int64)), (.long (own_parts p1))])) _
    refine XS.lsub X0.here hx rfl (hb hby at_48) rfl ?_
    show Steps p.tables e below (s₁.setTop (mkF m 49 #[.val (.int p1), .val (.long q2), .second, .val (.int p3), .val (.long (own_parts p1)), .second, .val (.int (p3 &&& (3 : Int32))), .unset, .unset, .unset, .unset, .unset, .unset, .unset] [(.long ((own_parts p1) - (1 : Int64)))])) _
    refine XS.lstore X0.here hx rfl (hb hby at_49) rfl (l' := #[.val (.int p1), .val (.long q2), .second, .val (.int p3), .val (.long (own_parts p1)), .second, .val (.int (p3 &&& (3 : Int32))), .val (.long ((own_parts p1) - (1 : Int64))), .second, .unset, .unset, .unset, .unset, .unset]) rfl ?_
    show Steps p.tables e below (s₁.setTop (mkF m 51 #[.val (.int p1), .val (.long q2), .second, .val (.int p3), .val (.long (own_parts p1)), .second, .val (.int (p3 &&& (3 : Int32))), .val (.long ((own_parts p1) - (1 : Int64))), .second, .unset, .unset, .unset, .unset, .unset] [])) _
    refine XS.goto X0.here hx rfl (pc0 := 51) (pc' := 64) rfl (hb hby at_51) (by decide) (by decide) ?_
    show Steps p.tables e below (s₁.setTop (mkF m 64 #[.val (.int p1), .val (.long q2), .second, .val (.int p3), .val (.long (own_parts p1)), .second, .val (.int (p3 &&& (3 : Int32))), .val (.long ((own_parts p1) - (1 : Int64))), .second, .unset, .unset, .unset, .unset, .unset] [])) _
    refine st4 _ ?_
    show Steps p.tables e below (T4.setTop (mkF m 67 #[.val (.int p1), .val (.long q2), .second, .val (.int p3), .val (.long (own_parts p1)), .second, .val (.int (p3 &&& (3 : Int32))), .val (.long ((own_parts p1) - (1 : Int64))), .second, .unset, .unset, .unset, .unset, .unset] [(.ref b4)])) _
    refine XS.dup X4.here hx rfl (hb hby at_67) rfl rfl ?_
    show Steps p.tables e below (T4.setTop (mkF m 68 #[.val (.int p1), .val (.long q2), .second, .val (.int p3), .val (.long (own_parts p1)), .second, .val (.int (p3 &&& (3 : Int32))), .val (.long ((own_parts p1) - (1 : Int64))), .second, .unset, .unset, .unset, .unset, .unset] [(.ref b4), (.ref b4)])) _
    refine XS.lload X4.here hx rfl (hb hby at_68) rfl ?_
    show Steps p.tables e below (T4.setTop (mkF m 70 #[.val (.int p1), .val (.long q2), .second, .val (.int p3), .val (.long (own_parts p1)), .second, .val (.int (p3 &&& (3 : Int32))), .val (.long ((own_parts p1) - (1 : Int64))), .second, .unset, .unset, .unset, .unset, .unset] [(.long (own_parts p1)), (.ref b4), (.ref b4)])) _
    refine st5.trans ?_
    show Steps p.tables e below (T5.setTop (mkF m 73 #[.val (.int p1), .val (.long q2), .second, .val (.int p3), .val (.long (own_parts p1)), .second, .val (.int (p3 &&& (3 : Int32))), .val (.long ((own_parts p1) - (1 : Int64))), .second, .unset, .unset, .unset, .unset, .unset] [(.ref b4)])) _
    refine XS.astore X5.here hx rfl (hb hby at_73) rfl rfl (l' := #[.val (.int p1), .val (.long q2), .second, .val (.int p3), .val (.long (own_parts p1)), .second, .val (.int (p3 &&& (3 : Int32))), .val (.long ((own_parts p1) - (1 : Int64))), .second, .val (.ref b4), .unset, .unset, .unset, .unset]) rfl ?_
    show Steps p.tables e below (T5.setTop (mkF m 75 #[.val (.int p1), .val (.long q2), .second, .val (.int p3), .val (.long (own_parts p1)), .second, .val (.int (p3 &&& (3 : Int32))), .val (.long ((own_parts p1) - (1 : Int64))), .second, .val (.ref b4), .unset, .unset, .unset, .unset] [])) _
    refine XS.aload X5.here hx rfl (hb hby at_75) rfl rfl ?_
    show Steps p.tables e below (T5.setTop (mkF m 77 #[.val (.int p1), .val (.long q2), .second, .val (.int p3), .val (.long (own_parts p1)), .second, .val (.int (p3 &&& (3 : Int32))), .val (.long ((own_parts p1) - (1 : Int64))), .second, .val (.ref b4), .unset, .unset, .unset, .unset] [(.ref b4)])) _
    refine XS.lload X5.here hx rfl (hb hby at_77) rfl ?_
    show Steps p.tables e below (T5.setTop (mkF m 79 #[.val (.int p1), .val (.long q2), .second, .val (.int p3), .val (.long (own_parts p1)), .second, .val (.int (p3 &&& (3 : Int32))), .val (.long ((own_parts p1) - (1 : Int64))), .second, .val (.ref b4), .unset, .unset, .unset, .unset] [(.long ((own_parts p1) - (1 : Int64))), (.ref b4)])) _
    refine st6.trans ?_
    show Steps p.tables e below (T6.setTop (mkF m 82 #[.val (.int p1), .val (.long q2), .second, .val (.int p3), .val (.long (own_parts p1)), .second, .val (.int (p3 &&& (3 : Int32))), .val (.long ((own_parts p1) - (1 : Int64))), .second, .val (.ref b4), .unset, .unset, .unset, .unset] [(.long (own_first (own_parts p1) ((own_parts p1) - (1 : Int64))))])) _
    refine XS.lstore X6.here hx rfl (hb hby at_82) rfl (l' := #[.val (.int p1), .val (.long q2), .second, .val (.int p3), .val (.long (own_parts p1)), .second, .val (.int (p3 &&& (3 : Int32))), .val (.long ((own_parts p1) - (1 : Int64))), .second, .val (.ref b4), .val (.long (own_first (own_parts p1) ((own_parts p1) - (1 : Int64)))), .second, .unset, .unset]) rfl ?_
    show Steps p.tables e below (T6.setTop (mkF m 84 #[.val (.int p1), .val (.long q2), .second, .val (.int p3), .val (.long (own_parts p1)), .second, .val (.int (p3 &&& (3 : Int32))), .val (.long ((own_parts p1) - (1 : Int64))), .second, .val (.ref b4), .val (.long (own_first (own_parts p1) ((own_parts p1) - (1 : Int64)))), .second, .unset, .unset] [])) _
    refine XS.lload X6.here hx rfl (hb hby at_84) rfl ?_
    show Steps p.tables e below (T6.setTop (mkF m 86 #[.val (.int p1), .val (.long q2), .second, .val (.int p3), .val (.long (own_parts p1)), .second, .val (.int (p3 &&& (3 : Int32))), .val (.long ((own_parts p1) - (1 : Int64))), .second, .val (.ref b4), .val (.long (own_first (own_parts p1) ((own_parts p1) - (1 : Int64)))), .second, .unset, .unset] [(.long ((own_parts p1) - (1 : Int64)))])) _
    refine XS.lload X6.here hx rfl (hb hby at_86) rfl ?_
    show Steps p.tables e below (T6.setTop (mkF m 88 #[.val (.int p1), .val (.long q2), .second, .val (.int p3), .val (.long (own_parts p1)), .second, .val (.int (p3 &&& (3 : Int32))), .val (.long ((own_parts p1) - (1 : Int64))), .second, .val (.ref b4), .val (.long (own_first (own_parts p1) ((own_parts p1) - (1 : Int64)))), .second, .unset, .unset] [(.long (own_parts p1)), (.long ((own_parts p1) - (1 : Int64)))])) _
    refine XS.lcmp X6.here hx rfl (hb hby at_88) rfl ?_
    show Steps p.tables e below (T6.setTop (mkF m 89 #[.val (.int p1), .val (.long q2), .second, .val (.int p3), .val (.long (own_parts p1)), .second, .val (.int (p3 &&& (3 : Int32))), .val (.long ((own_parts p1) - (1 : Int64))), .second, .val (.ref b4), .val (.long (own_first (own_parts p1) ((own_parts p1) - (1 : Int64)))), .second, .unset, .unset] [(.int (lcmpW ((own_parts p1) - (1 : Int64)) (own_parts p1)))])) _
    refine XS.ifYes X6.here hx rfl (pc0 := 89) (pc' := 98) rfl (hb hby at_89) rfl ((if0 _ _).trans (feq hc89).2) (by decide) (by decide) ?_
    show Steps p.tables e below (T6.setTop (mkF m 98 #[.val (.int p1), .val (.long q2), .second, .val (.int p3), .val (.long (own_parts p1)), .second, .val (.int (p3 &&& (3 : Int32))), .val (.long ((own_parts p1) - (1 : Int64))), .second, .val (.ref b4), .val (.long (own_first (own_parts p1) ((own_parts p1) - (1 : Int64)))), .second, .unset, .unset] [])) _
    refine XS.lload X6.here hx rfl (hb hby at_98) rfl ?_
    show Steps p.tables e below (T6.setTop (mkF m 100 #[.val (.int p1), .val (.long q2), .second, .val (.int p3), .val (.long (own_parts p1)), .second, .val (.int (p3 &&& (3 : Int32))), .val (.long ((own_parts p1) - (1 : Int64))), .second, .val (.ref b4), .val (.long (own_first (own_parts p1) ((own_parts p1) - (1 : Int64)))), .second, .unset, .unset] [(.long ((own_parts p1) - (1 : Int64)))])) _
    refine XS.lload X6.here hx rfl (hb hby at_100) rfl ?_
    show Steps p.tables e below (T6.setTop (mkF m 102 #[.val (.int p1), .val (.long q2), .second, .val (.int p3), .val (.long (own_parts p1)), .second, .val (.int (p3 &&& (3 : Int32))), .val (.long ((own_parts p1) - (1 : Int64))), .second, .val (.ref b4), .val (.long (own_first (own_parts p1) ((own_parts p1) - (1 : Int64)))), .second, .unset, .unset] [(.long (own_parts p1)), (.long ((own_parts p1) - (1 : Int64)))])) _
    refine st7 _ ?_
    show Steps p.tables e below (T7.setTop (mkF m 105 #[.val (.int p1), .val (.long q2), .second, .val (.int p3), .val (.long (own_parts p1)), .second, .val (.int (p3 &&& (3 : Int32))), .val (.long ((own_parts p1) - (1 : Int64))), .second, .val (.ref b4), .val (.long (own_first (own_parts p1) ((own_parts p1) - (1 : Int64)))), .second, .unset, .unset] [(.long (own_share ((own_parts p1) - (1 : Int64)) (own_parts p1)))])) _
    refine XS.lstore X7.here hx rfl (hb hby at_105) rfl (l' := #[.val (.int p1), .val (.long q2), .second, .val (.int p3), .val (.long (own_parts p1)), .second, .val (.int (p3 &&& (3 : Int32))), .val (.long ((own_parts p1) - (1 : Int64))), .second, .val (.ref b4), .val (.long (own_first (own_parts p1) ((own_parts p1) - (1 : Int64)))), .second, .val (.long (own_share ((own_parts p1) - (1 : Int64)) (own_parts p1))), .second]) rfl ?_
    show Steps p.tables e below (T7.setTop (mkF m 107 #[.val (.int p1), .val (.long q2), .second, .val (.int p3), .val (.long (own_parts p1)), .second, .val (.int (p3 &&& (3 : Int32))), .val (.long ((own_parts p1) - (1 : Int64))), .second, .val (.ref b4), .val (.long (own_first (own_parts p1) ((own_parts p1) - (1 : Int64)))), .second, .val (.long (own_share ((own_parts p1) - (1 : Int64)) (own_parts p1))), .second] [])) _
    refine XS.lload X7.here hx rfl (hb hby at_107) rfl ?_
    show Steps p.tables e below (T7.setTop (mkF m 109 #[.val (.int p1), .val (.long q2), .second, .val (.int p3), .val (.long (own_parts p1)), .second, .val (.int (p3 &&& (3 : Int32))), .val (.long ((own_parts p1) - (1 : Int64))), .second, .val (.ref b4), .val (.long (own_first (own_parts p1) ((own_parts p1) - (1 : Int64)))), .second, .val (.long (own_share ((own_parts p1) - (1 : Int64)) (own_parts p1))), .second] [(.long (own_first (own_parts p1) ((own_parts p1) - (1 : Int64))))])) _
    refine XS.lload X7.here hx rfl (hb hby at_109) rfl ?_
    show Steps p.tables e below (T7.setTop (mkF m 111 #[.val (.int p1), .val (.long q2), .second, .val (.int p3), .val (.long (own_parts p1)), .second, .val (.int (p3 &&& (3 : Int32))), .val (.long ((own_parts p1) - (1 : Int64))), .second, .val (.ref b4), .val (.long (own_first (own_parts p1) ((own_parts p1) - (1 : Int64)))), .second, .val (.long (own_share ((own_parts p1) - (1 : Int64)) (own_parts p1))), .second] [(.long (own_share ((own_parts p1) - (1 : Int64)) (own_parts p1))), (.long (own_first (own_parts p1) ((own_parts p1) - (1 : Int64))))])) _
    refine XS.lcmp X7.here hx rfl (hb hby at_111) rfl ?_
    show Steps p.tables e below (T7.setTop (mkF m 112 #[.val (.int p1), .val (.long q2), .second, .val (.int p3), .val (.long (own_parts p1)), .second, .val (.int (p3 &&& (3 : Int32))), .val (.long ((own_parts p1) - (1 : Int64))), .second, .val (.ref b4), .val (.long (own_first (own_parts p1) ((own_parts p1) - (1 : Int64)))), .second, .val (.long (own_share ((own_parts p1) - (1 : Int64)) (own_parts p1))), .second] [(.int (lcmpW (own_first (own_parts p1) ((own_parts p1) - (1 : Int64))) (own_share ((own_parts p1) - (1 : Int64)) (own_parts p1))))])) _
    refine XS.ifNo X7.here hx rfl (hb hby at_112) rfl ((if0 _ _).trans (teq ((lw_eq _ _).mpr (own_main _ _ (own_parts_rng p1).1 (own_parts_rng p1).2 (own_t2 p1).1 (own_t2 p1).2) : (lcmpW (own_first (own_parts p1) ((own_parts p1) - (1 : Int64))) (own_share ((own_parts p1) - (1 : Int64)) (own_parts p1))) = (0 : Int32))).2) ?_
    show Steps p.tables e below (T7.setTop (mkF m 115 #[.val (.int p1), .val (.long q2), .second, .val (.int p3), .val (.long (own_parts p1)), .second, .val (.int (p3 &&& (3 : Int32))), .val (.long ((own_parts p1) - (1 : Int64))), .second, .val (.ref b4), .val (.long (own_first (own_parts p1) ((own_parts p1) - (1 : Int64)))), .second, .val (.long (own_share ((own_parts p1) - (1 : Int64)) (own_parts p1))), .second] [])) _
    refine XS.iconst X7.here hx rfl (hb hby at_115) ?_
    show Steps p.tables e below (T7.setTop (mkF m 116 #[.val (.int p1), .val (.long q2), .second, .val (.int p3), .val (.long (own_parts p1)), .second, .val (.int (p3 &&& (3 : Int32))), .val (.long ((own_parts p1) - (1 : Int64))), .second, .val (.ref b4), .val (.long (own_first (own_parts p1) ((own_parts p1) - (1 : Int64)))), .second, .val (.long (own_share ((own_parts p1) - (1 : Int64)) (own_parts p1))), .second] [(.int (1 : Int32))])) _
    refine XS.goto X7.here hx rfl (pc0 := 116) (pc' := 120) rfl (hb hby at_116) (by decide) (by decide) ?_
    show Steps p.tables e below (T7.setTop (mkF m 120 #[.val (.int p1), .val (.long q2), .second, .val (.int p3), .val (.long (own_parts p1)), .second, .val (.int (p3 &&& (3 : Int32))), .val (.long ((own_parts p1) - (1 : Int64))), .second, .val (.ref b4), .val (.long (own_first (own_parts p1) ((own_parts p1) - (1 : Int64)))), .second, .val (.long (own_share ((own_parts p1) - (1 : Int64)) (own_parts p1))), .second] [(.int (1 : Int32))])) _
    exact retN X7 hx (t := .boolean) Bd.returns (by simp) (hb hby at_120) hr
  · show Q0 Z p1 q2 p3 h0 n0 _ T7.heap _
    exact ⟨rfl, N7⟩
set_option maxRecDepth 65536 in
set_option maxHeartbeats 40000000 in
theorem rm0_s3 (l : Launch) (Z : State) (a0 : Array Value) (hw : ∀ d ∈ tables_1, d.before a0 Z = true) (ws : List Jvm.Cond) (p1 : Int32) (q2 : Int64) (p3 : Int32) (h0 : Heap) (n0 : Nat) (Z0 : n0 ≤ h0.size) (hc17 : ¬ ((p3 &&& (3 : Int32)) = (0 : Int32))) (hc29 : ¬ ((p3 &&& (3 : Int32)) = (1 : Int32))) (hc42 : ¬ ((p3 &&& (3 : Int32)) = (2 : Int32))) (hnz61 : ¬ ((own_parts p1) = (0 : Int64))) (hc89 : ¬ ((lcmpW ((q2 &&& (9223372036854775807 : Int64)) - ((q2 &&& (9223372036854775807 : Int64)) / (own_parts p1)) * (own_parts p1)) (own_parts p1)) = (0 : Int32))) :
    MetFree l x (head1 (Jvm.Cond.code x code maxLocals ret :: ws) room_1) (fun a U => a = #[(.int p1), (.long q2), (.int p3)] ∧ Z.Warmed39 U.vm ∧ U.heap = h0) (fun _ _ _ _ _ => True) (fun _ U o U' => ∃ v L, o = .returned v ∧ Q0 Z p1 q2 p3 h0 n0 v U'.heap L ∧ FrameEnd U o U' L room_1.cells room_1.slots) := by
  refine MetFree.of_bodySF (plainFor_of_name pn_0) hisR ?_
  intro p e s m args below meth c s₁ Bd hml0 hP hK
  obtain ⟨rfl, hZ, hh⟩ := hP
  have hx := Bd.exec
  have hby := Bd.bytes
  have hml : c.maxLocals = 14 := hml0
  have hown : s.vm.findClass "com/example/level_ring/levelring/placement/CutFirstOffsetOfPinLaw" = some m.cls := findClass_of_methodNamed Bd.named
  have hnm := (name_of_methodNamed Bd.named Bd.method).1
  have X0 : Stand p l e room_1 s m #[(.int p1), (.long q2), (.int p3)] below meth c s₁ [] 0 0 := Stand.of_body Bd
  have e0 : s₁.heap = h0 := by rw [← hh, Bd.state]; rfl
  have N0 := Fr.nil n0
  have pre0 : ∀ t, Steps p.tables e below (s₁.setTop (mkF m 0 #[.val (.int p1), .val (.long q2), .second, .val (.int p3), .unset, .unset, .unset, .unset, .unset, .unset, .unset, .unset, .unset, .unset] [])) t → Steps p.tables e below (s₁.setTop (entryFrame m #[(.int p1), (.long q2), (.int p3)] maxLocals)) t := fun t k => castTop (ef_0 m p1 q2 p3) k
  -- 3. LAWS
  obtain ⟨T4, h4, X4, e4, E4, A4, D4, -, st4⟩ := newO X0 hx hZ hown (hw _ (List.mem_of_getElem? (i := 1) rfl)) (hw _ (List.mem_of_getElem? (i := 2) rfl)) (hw _ (List.mem_of_getElem? (i := 3) rfl)) e0 (g := (mkF m 64 #[.val (.int p1), .val (.long q2), .second, .val (.int p3), .val (.long (own_parts p1)), .second, .val (.int (p3 &&& (3 : Int32))), .val (.long ((q2 &&& (9223372036854775807 : Int64)) - ((q2 &&& (9223372036854775807 : Int64)) / (own_parts p1)) * (own_parts p1))), .second, .unset, .unset, .unset, .unset, .unset] [])) rfl (hb hby at_64) (by decide) (by decide)
  obtain ⟨b4, g4⟩ : ∃ z, z = h0.size := ⟨_, rfl⟩      -- the fresh object's address
  rw [← g4] at A4 D4 st4      -- A4 : Exa Z h4 b4 "com/example/level_ring/levelring/placement/PartitionSlots$Cut"; E4 : Ext h0 h4 (carries every older fact: .ext E4)
  have F_parts_b4 : Fld Z h4 b4 "com/example/level_ring/levelring/placement/PartitionSlots$Cut" "parts" "J" (.long (0 : Int64)) := D4 (Or.inr (hw _ (List.mem_of_getElem? (i := 11) rfl))) (ty := .long) (by decide)
  have F_unit_b4 : Fld Z h4 b4 "com/example/level_ring/levelring/placement/PartitionSlots$Cut" "unit" "J" (.long (0 : Int64)) := D4 (Or.inr (hw _ (List.mem_of_getElem? (i := 22) rfl))) (ty := .long) (by decide)
  have F_rest_b4 : Fld Z h4 b4 "com/example/level_ring/levelring/placement/PartitionSlots$Cut" "rest" "J" (.long (0 : Int64)) := D4 (Or.inr (hw _ (List.mem_of_getElem? (i := 24) rfl))) (ty := .long) (by decide)
  have E_b4 := A4
  have g_b4 : n0 ≤ b4 := Nat.le_trans Z0 (Nat.le_of_eq g4.symm)
  have sz_b4 : h0.size ≤ b4 := (Nat.le_trans (Keep.refl h0 []).1 (Nat.le_of_eq g4.symm))
  have K4 : Keep h0 h4 [] := (Keep.refl h0 []).ext E4
  -- pc 70: the constructor of com/example/level_ring/levelring/placement/PartitionSlots$Cut by its contract rm1
  obtain ⟨_, _, ⟨T5, L5, k5, n5⟩, -, X5, ⟨Lc5, hQ5, l5, y5, z5⟩, st5⟩ := X4.specialBack hx (y := (⟨"com/example/level_ring/levelring/placement/PartitionSlots$Cut", "<init>", "(J)V"⟩ : MethodName)) rfl hown (mvT hZ (hw _ (List.mem_of_getElem? (i := 4) rfl))) (mvT hZ (hw _ (List.mem_of_getElem? (i := 5) rfl))) (mvT hZ (hw _ (List.mem_of_getElem? (i := 6) rfl))) (by decide) (backOf (W := 1) (rm1 l Z a0 hw [] b4 (own_parts p1) (.long (0 : Int64)) (.long (0 : Int64)) (.long (0 : Int64)) h4 n0 (Nat.le_trans Z0 E4.1) E_b4 F_parts_b4 g_b4 F_unit_b4 F_rest_b4 (own_pos p1).1 (own_pos p1).2) hZ (hw _ (List.mem_of_getElem? (i := 6) rfl)) (hw _ (List.mem_of_getElem? (i := 3) rfl)) (by decide) (by decide)) (g := (mkF m 70 #[.val (.int p1), .val (.long q2), .second, .val (.int p3), .val (.long (own_parts p1)), .second, .val (.int (p3 &&& (3 : Int32))), .val (.long ((q2 &&& (9223372036854775807 : Int64)) - ((q2 &&& (9223372036854775807 : Int64)) / (own_parts p1)) * (own_parts p1))), .second, .unset, .unset, .unset, .unset, .unset] [(.long (own_parts p1)), (.ref b4), (.ref b4)])) rfl (by rw [hml]; rfl) (Steps.refl _) (a := b4) (argsL := [(.long (own_parts p1))]) (rest := [(.ref b4)]) (lenOf pdw_1 rfl) rfl (by show 2 * 0 + _ ≤ _; exact Nat.le_of_eq rfl) (hb hby at_70) (fun _ _ => ⟨rfl, e4, (by decide : 1 + 0 ≤ _), (by decide : 3 + 0 ≤ _)⟩)
  dsimp only [Pt.U, Pt.locs, Pt.cells, Pt.slots] at X5 l5 y5 z5 st5 hQ5
  subst l5 y5 z5
  obtain ⟨rfl, N5q, K5, E5, F5p, F5u, F5r⟩ := hQ5
  have Zh5 : n0 ≤ T5.heap.size := Nat.le_trans (Nat.le_trans Z0 E4.1) K5.1
  have N5 := Fr.app N0 N5q
  -- pc 79: com/example/level_ring/levelring/placement/PartitionSlots$Cut.firstOffsetOf by the contract of the body that the receiver's class selects, rm5
  obtain ⟨cq6, kq6, q6a, q6b, q6c⟩ := isOf hZ rfl (E_b4.keep K5)
  obtain ⟨_, _, ⟨T6, L6, k6, n6⟩, -, X6, ⟨Lc6, hQ6, l6, y6, z6⟩, st6⟩ := X5.virtualBack hx (y := (⟨"com/example/level_ring/levelring/placement/PartitionSlots$Cut", "firstOffsetOf", "(J)J"⟩ : MethodName)) (z := (⟨"com/example/level_ring/levelring/placement/PartitionSlots$Cut", "firstOffsetOf", "(J)J"⟩ : MethodName)) hown (mvT hZ (hw _ (List.mem_of_getElem? (i := 25) rfl))) (mvT hZ (hw _ (List.mem_of_getElem? (i := 26) rfl))) (notFace_of_selects (args := #[]) (mvT hZ (hw _ (List.mem_of_getElem? (i := 28) rfl)))) (mvT hZ (hw _ (List.mem_of_getElem? (i := 28) rfl))) (mvT hZ (hw _ (List.mem_of_getElem? (i := 27) rfl))) (by decide) (backOf (W := 0) (rm5 l Z a0 hw [] b4 ((q2 &&& (9223372036854775807 : Int64)) - ((q2 &&& (9223372036854775807 : Int64)) / (own_parts p1)) * (own_parts p1)) (own_unit (own_parts p1)) (own_rest (own_parts p1)) (own_parts p1) T5.heap n0 Zh5 F5u F5r F5p (own_pos p1).2) hZ (hw _ (List.mem_of_getElem? (i := 29) rfl)) (hw _ (List.mem_of_getElem? (i := 3) rfl)) (by decide) (by decide)) q6a q6c (g := (mkF m 79 #[.val (.int p1), .val (.long q2), .second, .val (.int p3), .val (.long (own_parts p1)), .second, .val (.int (p3 &&& (3 : Int32))), .val (.long ((q2 &&& (9223372036854775807 : Int64)) - ((q2 &&& (9223372036854775807 : Int64)) / (own_parts p1)) * (own_parts p1))), .second, .val (.ref b4), .unset, .unset, .unset, .unset] [(.long ((q2 &&& (9223372036854775807 : Int64)) - ((q2 &&& (9223372036854775807 : Int64)) / (own_parts p1)) * (own_parts p1))), (.ref b4)])) rfl (by rw [hml]; rfl) (Steps.refl _) (argsL := [(.long ((q2 &&& (9223372036854775807 : Int64)) - ((q2 &&& (9223372036854775807 : Int64)) / (own_parts p1)) * (own_parts p1)))]) (rest := []) (lenOf pdw_2 rfl) rfl (by show 2 * 0 + _ ≤ _; exact Nat.le_of_eq rfl) (hb hby at_79) (fun _ _ => ⟨rfl, rfl, (by decide : 1 + 0 ≤ _), (by decide : 3 + 0 ≤ _)⟩)
  dsimp only [Pt.U, Pt.locs, Pt.cells, Pt.slots] at X6 l6 y6 z6 st6 hQ6
  subst l6 y6 z6
  obtain ⟨rfl, N6q, hh6⟩ := hQ6
  have Zh6 : n0 ≤ T6.heap.size := by rw [hh6]; exact Zh5
  have N6 := Fr.app N5 N6q
  -- pc 102: com/example/level_ring/levelring/placement/CutFirstOffsetOfPinLaw.ceilShare by its contract rm6
  obtain ⟨_, _, ⟨T7, L7, k7, n7⟩, -, X7, ⟨Lc7, hQ7, l7, y7, z7⟩, st7⟩ := Jvm.LawKit.callS X6 hx (y := (⟨"com/example/level_ring/levelring/placement/CutFirstOffsetOfPinLaw", "ceilShare", "(JJ)J"⟩ : MethodName)) hown (mvT hZ (hw _ (List.mem_of_getElem? (i := 30) rfl))) (mvT hZ (hw _ (List.mem_of_getElem? (i := 31) rfl))) (mvT hZ (hw _ (List.mem_of_getElem? (i := 32) rfl))) (mvT hZ (hw _ (List.mem_of_getElem? (i := 33) rfl))) (by decide) (backOf (W := 0) (rm6 l Z a0 hw [] ((q2 &&& (9223372036854775807 : Int64)) - ((q2 &&& (9223372036854775807 : Int64)) / (own_parts p1)) * (own_parts p1)) (own_parts p1)  T6.heap n0 Zh6 (own_pos p1).2) hZ (hw _ (List.mem_of_getElem? (i := 33) rfl)) (hw _ (List.mem_of_getElem? (i := 32) rfl)) (by decide) (by decide)) (g := (mkF m 102 #[.val (.int p1), .val (.long q2), .second, .val (.int p3), .val (.long (own_parts p1)), .second, .val (.int (p3 &&& (3 : Int32))), .val (.long ((q2 &&& (9223372036854775807 : Int64)) - ((q2 &&& (9223372036854775807 : Int64)) / (own_parts p1)) * (own_parts p1))), .second, .val (.ref b4), .val (.long (own_first (own_parts p1) ((q2 &&& (9223372036854775807 : Int64)) - ((q2 &&& (9223372036854775807 : Int64)) / (own_parts p1)) * (own_parts p1)))), .second, .unset, .unset] [(.long (own_parts p1)), (.long ((q2 &&& (9223372036854775807 : Int64)) - ((q2 &&& (9223372036854775807 : Int64)) / (own_parts p1)) * (own_parts p1)))])) rfl (by rw [hml]; rfl) (argsL := [(.long ((q2 &&& (9223372036854775807 : Int64)) - ((q2 &&& (9223372036854775807 : Int64)) / (own_parts p1)) * (own_parts p1))), (.long (own_parts p1))]) (rest := []) (lenOf pdw_0 rfl) rfl (by show 2 * 0 + _ ≤ _; exact Nat.le_of_eq rfl) (hb hby at_102) (fun _ _ => ⟨rfl, rfl, (by decide : 1 + 0 ≤ _), (by decide : 3 + 0 ≤ _)⟩)
  dsimp only [Pt.U, Pt.locs, Pt.cells, Pt.slots] at X7 l7 y7 z7 st7 hQ7
  subst l7 y7 z7
  obtain ⟨rfl, N7q, hh7⟩ := hQ7
  have N7 := Fr.app N6 N7q
  obtain ⟨fs, hr, hrun, hended, hW, hsame⟩ := X7.leave (v := some (.int (1 : Int32))) (fun h => by rw [Bd.returns] at h; cases h)
  refine ⟨_, _, pre0 _ ?_, hrun, hended, _, _, rfl, ?_, ⟨_, rfl⟩, hW, hsame.mono (by decide) (by decide)⟩
  -- 4. STEPS
  · show Steps p.tables e below (s₁.setTop (mkF m 0 #[.val (.int p1), .val (.long q2), .second, .val (.int p3), .unset, .unset, .unset, .unset, .unset, .unset, .unset, .unset, .unset, .unset] [])) _
    refine XS.iloadN X0.here hx rfl (hb hby at_0) rfl ?_
    show Steps p.tables e below (s₁.setTop (mkF m 1 #[.val (.int p1), .val (.long q2), .second, .val (.int p3), .unset, .unset, .unset, .unset, .unset, .unset, .unset, .unset, .unset, .unset] [(.int p1)])) _
    refine XS.i2l X0.here hx rfl (hb hby at_1) rfl ?_
    show Steps p.tables e below (s₁.setTop (mkF m 2 #[.val (.int p1), .val (.long q2), .second, .val (.int p3), .unset, .unset, .unset, .unset, .unset, .unset, .unset, .unset, .unset, .unset] [(.long (p1.toInt64))])) _
    refine X0.ldc2Long hx hown (mvT hZ (hw _ (List.mem_of_getElem? (i := 0) rfl))) (g := (mkF m 2 #[.val (.int p1), .val (.long q2), .second, .val (.int p3), .unset, .unset, .unset, .unset, .unset, .unset, .unset, .unset, .unset, .unset] [(.long (p1.toInt64))])) rfl (hb hby at_2) _ ?_
    show Steps p.tables e below (s₁.setTop (mkF m 5 #[.val (.int p1), .val (.long q2), .second, .val (.int p3), .unset, .unset, .unset, .unset, .unset, .unset, .unset, .unset, .unset, .unset] [(.long (2147483647 : Int64)), (.long (p1.toInt64))])) _
    refine XS.land X0.here hx rfl (hb hby at_5) rfl ?_
    show Steps p.tables e below (s₁.setTop (mkF m 6 #[.val (.int p1), .val (.long q2), .second, .val (.int p3), .unset, .unset, .unset, .unset, .unset, .unset, .unset, .unset, .unset, .unset] [(.long ((p1.toInt64) &&& (2147483647 : Int64)))])) _
    refine XS.lconst X0.here hx rfl (hb hby at_6) ?_
    show Steps p.tables e below (s₁.setTop (mkF m 7 #[.val (.int p1), .val (.long q2), .second, .val (.int p3), .unset, .unset, .unset, .unset, .unset, .unset, .unset, .unset, .unset, .unset] [(.long (1 : Int64)), (.long ((p1.toInt64) &&& (2147483647 : Int64)))])) _
    refine XS.ladd X0.here hx rfl (hb hby at_7) rfl ?_
    show Steps p.tables e below (s₁.setTop (mkF m 8 #[.val (.int p1), .val (.long q2), .second, .val (.int p3), .unset, .unset, .unset, .unset, .unset, .unset, .unset, .unset, .unset, .unset] [(.long (own_parts p1))])) _
    refine XS.lstore X0.here hx rfl (hb hby at_8) rfl (l' := #[.val (.int p1), .val (.long q2), .second, .val (.int p3), .val (.long (own_parts p1)), .second, .unset, .unset, .unset, .unset, .unset, .unset, .unset, .unset]) rfl ?_
    show Steps p.tables e below (s₁.setTop (mkF m 10 #[.val (.int p1), .val (.long q2), .second, .val (.int p3), .val (.long (own_parts p1)), .second, .unset, .unset, .unset, .unset, .unset, .unset, .unset, .unset] [])) _
    refine XS.iloadN X0.here hx rfl (hb hby at_10) rfl ?_
    show Steps p.tables e below (s₁.setTop (mkF m 11 #[.val (.int p1), .val (.long q2), .second, .val (.int p3), .val (.long (own_parts p1)), .second, .unset, .unset, .unset, .unset, .unset, .unset, .unset, .unset] [(.int p3)])) _
    refine XS.iconst X0.here hx rfl (hb hby at_11) ?_
    show Steps p.tables e below (s₁.setTop (mkF m 12 #[.val (.int p1), .val (.long q2), .second, .val (.int p3), .val (.long (own_parts p1)), .second, .unset, .unset, .unset, .unset, .unset, .unset, .unset, .unset] [(.int (3 : Int32)), (.int p3)])) _
    refine XS.iand X0.here hx rfl (hb hby at_12) rfl ?_
    show Steps p.tables e below (s₁.setTop (mkF m 13 #[.val (.int p1), .val (.long q2), .second, .val (.int p3), .val (.long (own_parts p1)), .second, .unset, .unset, .unset, .unset, .unset, .unset, .unset, .unset] [(.int (p3 &&& (3 : Int32)))])) _
    refine XS.istore X0.here hx rfl (hb hby at_13) rfl (l' := #[.val (.int p1), .val (.long q2), .second, .val (.int p3), .val (.long (own_parts p1)), .second, .val (.int (p3 &&& (3 : Int32))), .unset, .unset, .unset, .unset, .unset, .unset, .unset]) rfl ?_
    show Steps p.tables e below (s₁.setTop (mkF m 15 #[.val (.int p1), .val (.long q2), .second, .val (.int p3), .val (.long (own_parts p1)), .second, .val (.int (p3 &&& (3 : Int32))), .unset, .unset, .unset, .unset, .unset, .unset, .unset] [])) _
    refine XS.iload X0.here hx rfl (hb hby at_15) rfl ?_
    show Steps p.tables e below (s₁.setTop (mkF m 17 #[.val (.int p1), .val (.long q2), .second, .val (.int p3), .val (.long (own_parts p1)), .second, .val (.int (p3 &&& (3 : Int32))), .unset, .unset, .unset, .unset, .unset, .unset, .unset] [(.int (p3 &&& (3 : Int32)))])) _
    refine XS.ifYes X0.here hx rfl (pc0 := 17) (pc' := 26) rfl (hb hby at_17) rfl ((if0 _ _).trans (feq hc17).2) (by decide) (by decide) ?_
    show Steps p.tables e below (s₁.setTop (mkF m 26 #[.val (.int p1), .val (.long q2), .second, .val (.int p3), .val (.long (own_parts p1)), .second, .val (.int (p3 &&& (3 : Int32))), .unset, .unset, .unset, .unset, .unset, .unset, .unset] [])) _
    refine XS.iload X0.here hx rfl (hb hby at_26) rfl ?_
    show Steps p.tables e below (s₁.setTop (mkF m 28 #[.val (.int p1), .val (.long q2), .second, .val (.int p3), .val (.long (own_parts p1)), .second, .val (.int (p3 &&& (3 : Int32))), .unset, .unset, .unset, .unset, .unset, .unset, .unset] [(.int (p3 &&& (3 : Int32)))])) _
    refine XS.iconst X0.here hx rfl (hb hby at_28) ?_
    show Steps p.tables e below (s₁.setTop (mkF m 29 #[.val (.int p1), .val (.long q2), .second, .val (.int p3), .val (.long (own_parts p1)), .second, .val (.int (p3 &&& (3 : Int32))), .unset, .unset, .unset, .unset, .unset, .unset, .unset] [(.int (1 : Int32)), (.int (p3 &&& (3 : Int32)))])) _
    refine XS.icmpYes X0.here hx rfl (pc0 := 29) (pc' := 39) rfl (hb hby at_29) rfl (feq hc29).2 (by decide) (by decide) ?_
    show Steps p.tables e below (s₁.setTop (mkF m 39 #[.val (.int p1), .val (.long q2), .second, .val (.int p3), .val (.long (own_parts p1)), .second, .val (.int (p3 &&& (3 : Int32))), .unset, .unset, .unset, .unset, .unset, .unset, .unset] [])) _
    refine XS.iload X0.here hx rfl (hb hby at_39) rfl ?_
    show Steps p.tables e below (s₁.setTop (mkF m 41 #[.val (.int p1), .val (.long q2), .second, .val (.int p3), .val (.long (own_parts p1)), .second, .val (.int (p3 &&& (3 : Int32))), .unset, .unset, .unset, .unset, .unset, .unset, .unset] [(.int (p3 &&& (3 : Int32)))])) _
    refine XS.iconst X0.here hx rfl (hb hby at_41) ?_
    show Steps p.tables e below (s₁.setTop (mkF m 42 #[.val (.int p1), .val (.long q2), .second, .val (.int p3), .val (.long (own_parts p1)), .second, .val (.int (p3 &&& (3 : Int32))), .unset, .unset, .unset, .unset, .unset, .unset, .unset] [(.int (2 : Int32)), (.int (p3 &&& (3 : Int32)))])) _
    refine XS.icmpYes X0.here hx rfl (pc0 := 42) (pc' := 54) rfl (hb hby at_42) rfl (feq hc42).2 (by decide) (by decide) ?_
    show Steps p.tables e below (s₁.setTop (mkF m 54 #[.val (.int p1), .val (.long q2), .second, .val (.int p3), .val (.long (own_parts p1)), .second, .val (.int (p3 &&& (3 : Int32))), .unset, .unset, .unset, .unset, .unset, .unset, .unset] [])) _
    refine XS.lloadN X0.here hx rfl (hb hby at_54) rfl ?_
    show Steps p.tables e below (s₁.setTop (mkF m 55 #[.val (.int p1), .val (.long q2), .second, .val (.int p3), .val (.long (own_parts p1)), .second, .val (.int (p3 &&& (3 : Int32))), .unset, .unset, .unset, .unset, .unset, .unset, .unset] [(.long q2)])) _
    refine X0.ldc2Long hx hown (mvT hZ (hw _ (List.mem_of_getElem? (i := 34) rfl))) (g := (mkF m 55 #[.val (.int p1), .val (.long q2), .second, .val (.int p3), .val (.long (own_parts p1)), .second, .val (.int (p3 &&& (3 : Int32))), .unset, .unset, .unset, .unset, .unset, .unset, .unset] [(.long q2)])) rfl (hb hby at_55) _ ?_
    show Steps p.tables e below (s₁.setTop (mkF m 58 #[.val (.int p1), .val (.long q2), .second, .val (.int p3), .val (.long (own_parts p1)), .second, .val (.int (p3 &&& (3 : Int32))), .unset, .unset, .unset, .unset, .unset, .unset, .unset] [(.long (9223372036854775807 : Int64)), (.long q2)])) _
    refine XS.land X0.here hx rfl (hb hby at_58) rfl ?_
    show Steps p.tables e below (s₁.setTop (mkF m 59 #[.val (.int p1), .val (.long q2), .second, .val (.int p3), .val (.long (own_parts p1)), .second, .val (.int (p3 &&& (3 : Int32))), .unset, .unset, .unset, .unset, .unset, .unset, .unset] [(.long (q2 &&& (9223372036854775807 : Int64)))])) _
    refine XS.lload X0.here hx rfl (hb hby at_59) rfl ?_
    show Steps p.tables e below (s₁.setTop (mkF m 61 #[.val (.int p1), .val (.long q2), .second, .val (.int p3), .val (.long (own_parts p1)), .second, .val (.int (p3 &&& (3 : Int32))), .unset, .unset, .unset, .unset, .unset, .unset, .unset] [(.long (own_parts p1)), (.long (q2 &&& (9223372036854775807 : Int64)))])) _
    refine XS.lrem X0.here hx rfl (hb hby at_61) rfl hnz61 ?_
    show Steps p.tables e below (s₁.setTop (mkF m 62 #[.val (.int p1), .val (.long q2), .second, .val (.int p3), .val (.long (own_parts p1)), .second, .val (.int (p3 &&& (3 : Int32))), .unset, .unset, .unset, .unset, .unset, .unset, .unset] [(.long ((q2 &&& (9223372036854775807 : Int64)) - ((q2 &&& (9223372036854775807 : Int64)) / (own_parts p1)) * (own_parts p1)))])) _
    refine XS.lstore X0.here hx rfl (hb hby at_62) rfl (l' := #[.val (.int p1), .val (.long q2), .second, .val (.int p3), .val (.long (own_parts p1)), .second, .val (.int (p3 &&& (3 : Int32))), .val (.long ((q2 &&& (9223372036854775807 : Int64)) - ((q2 &&& (9223372036854775807 : Int64)) / (own_parts p1)) * (own_parts p1))), .second, .unset, .unset, .unset, .unset, .unset]) rfl ?_
    show Steps p.tables e below (s₁.setTop (mkF m 64 #[.val (.int p1), .val (.long q2), .second, .val (.int p3), .val (.long (own_parts p1)), .second, .val (.int (p3 &&& (3 : Int32))), .val (.long ((q2 &&& (9223372036854775807 : Int64)) - ((q2 &&& (9223372036854775807 : Int64)) / (own_parts p1)) * (own_parts p1))), .second, .unset, .unset, .unset, .unset, .unset] [])) _
    refine st4 _ ?_
    show Steps p.tables e below (T4.setTop (mkF m 67 #[.val (.int p1), .val (.long q2), .second, .val (.int p3), .val (.long (own_parts p1)), .second, .val (.int (p3 &&& (3 : Int32))), .val (.long ((q2 &&& (9223372036854775807 : Int64)) - ((q2 &&& (9223372036854775807 : Int64)) / (own_parts p1)) * (own_parts p1))), .second, .unset, .unset, .unset, .unset, .unset] [(.ref b4)])) _
    refine XS.dup X4.here hx rfl (hb hby at_67) rfl rfl ?_
    show Steps p.tables e below (T4.setTop (mkF m 68 #[.val (.int p1), .val (.long q2), .second, .val (.int p3), .val (.long (own_parts p1)), .second, .val (.int (p3 &&& (3 : Int32))), .val (.long ((q2 &&& (9223372036854775807 : Int64)) - ((q2 &&& (9223372036854775807 : Int64)) / (own_parts p1)) * (own_parts p1))), .second, .unset, .unset, .unset, .unset, .unset] [(.ref b4), (.ref b4)])) _
    refine XS.lload X4.here hx rfl (hb hby at_68) rfl ?_
    show Steps p.tables e below (T4.setTop (mkF m 70 #[.val (.int p1), .val (.long q2), .second, .val (.int p3), .val (.long (own_parts p1)), .second, .val (.int (p3 &&& (3 : Int32))), .val (.long ((q2 &&& (9223372036854775807 : Int64)) - ((q2 &&& (9223372036854775807 : Int64)) / (own_parts p1)) * (own_parts p1))), .second, .unset, .unset, .unset, .unset, .unset] [(.long (own_parts p1)), (.ref b4), (.ref b4)])) _
    refine st5.trans ?_
    show Steps p.tables e below (T5.setTop (mkF m 73 #[.val (.int p1), .val (.long q2), .second, .val (.int p3), .val (.long (own_parts p1)), .second, .val (.int (p3 &&& (3 : Int32))), .val (.long ((q2 &&& (9223372036854775807 : Int64)) - ((q2 &&& (9223372036854775807 : Int64)) / (own_parts p1)) * (own_parts p1))), .second, .unset, .unset, .unset, .unset, .unset] [(.ref b4)])) _
    refine XS.astore X5.here hx rfl (hb hby at_73) rfl rfl (l' := #[.val (.int p1), .val (.long q2), .second, .val (.int p3), .val (.long (own_parts p1)), .second, .val (.int (p3 &&& (3 : Int32))), .val (.long ((q2 &&& (9223372036854775807 : Int64)) - ((q2 &&& (9223372036854775807 : Int64)) / (own_parts p1)) * (own_parts p1))), .second, .val (.ref b4), .unset, .unset, .unset, .unset]) rfl ?_
    show Steps p.tables e below (T5.setTop (mkF m 75 #[.val (.int p1), .val (.long q2), .second, .val (.int p3), .val (.long (own_parts p1)), .second, .val (.int (p3 &&& (3 : Int32))), .val (.long ((q2 &&& (9223372036854775807 : Int64)) - ((q2 &&& (9223372036854775807 : Int64)) / (own_parts p1)) * (own_parts p1))), .second, .val (.ref b4), .unset, .unset, .unset, .unset] [])) _
    refine XS.aload X5.here hx rfl (hb hby at_75) rfl rfl ?_
    show Steps p.tables e below (T5.setTop (mkF m 77 #[.val (.int p1), .val (.long q2), .second, .val (.int p3), .val (.long (own_parts p1)), .second, .val (.int (p3 &&& (3 : Int32))), .val (.long ((q2 &&& (9223372036854775807 : Int64)) - ((q2 &&& (9223372036854775807 : Int64)) / (own_parts p1)) * (own_parts p1))), .second, .val (.ref b4), .unset, .unset, .unset, .unset] [(.ref b4)])) _
    refine XS.lload X5.here hx rfl (hb hby at_77) rfl ?_
    show Steps p.tables e below (T5.setTop (mkF m 79 #[.val (.int p1), .val (.long q2), .second, .val (.int p3), .val (.long (own_parts p1)), .second, .val (.int (p3 &&& (3 : Int32))), .val (.long ((q2 &&& (9223372036854775807 : Int64)) - ((q2 &&& (9223372036854775807 : Int64)) / (own_parts p1)) * (own_parts p1))), .second, .val (.ref b4), .unset, .unset, .unset, .unset] [(.long ((q2 &&& (9223372036854775807 : Int64)) - ((q2 &&& (9223372036854775807 : Int64)) / (own_parts p1)) * (own_parts p1))), (.ref b4)])) _
    refine st6.trans ?_
    show Steps p.tables e below (T6.setTop (mkF m 82 #[.val (.int p1), .val (.long q2), .second, .val (.int p3), .val (.long (own_parts p1)), .second, .val (.int (p3 &&& (3 : Int32))), .val (.long ((q2 &&& (9223372036854775807 : Int64)) - ((q2 &&& (9223372036854775807 : Int64)) / (own_parts p1)) * (own_parts p1))), .second, .val (.ref b4), .unset, .unset, .unset, .unset] [(.long (own_first (own_parts p1) ((q2 &&& (9223372036854775807 : Int64)) - ((q2 &&& (9223372036854775807 : Int64)) / (own_parts p1)) * (own_parts p1))))])) _
    refine XS.lstore X6.here hx rfl (hb hby at_82) rfl (l' := #[.val (.int p1), .val (.long q2), .second, .val (.int p3), .val (.long (own_parts p1)), .second, .val (.int (p3 &&& (3 : Int32))), .val (.long ((q2 &&& (9223372036854775807 : Int64)) - ((q2 &&& (9223372036854775807 : Int64)) / (own_parts p1)) * (own_parts p1))), .second, .val (.ref b4), .val (.long (own_first (own_parts p1) ((q2 &&& (9223372036854775807 : Int64)) - ((q2 &&& (9223372036854775807 : Int64)) / (own_parts p1)) * (own_parts p1)))), .second, .unset, .unset]) rfl ?_
    show Steps p.tables e below (T6.setTop (mkF m 84 #[.val (.int p1), .val (.long q2), .second, .val (.int p3), .val (.long (own_parts p1)), .second, .val (.int (p3 &&& (3 : Int32))), .val (.long ((q2 &&& (9223372036854775807 : Int64)) - ((q2 &&& (9223372036854775807 : Int64)) / (own_parts p1)) * (own_parts p1))), .second, .val (.ref b4), .val (.long (own_first (own_parts p1) ((q2 &&& (9223372036854775807 : Int64)) - ((q2 &&& (9223372036854775807 : Int64)) / (own_parts p1)) * (own_parts p1)))), .second, .unset, .unset] [])) _
    refine XS.lload X6.here hx rfl (hb hby at_84) rfl ?_
    show Steps p.tables e below (T6.setTop (mkF m 86 #[.val (.int p1), .val (.long q2), .second, .val (.int p3), .val (.long (own_parts p1)), .second, .val (.int (p3 &&& (3 : Int32))), .val (.long ((q2 &&& (9223372036854775807 : Int64)) - ((q2 &&& (9223372036854775807 : Int64)) / (own_parts p1)) * (own_parts p1))), .second, .val (.ref b4), .val (.long (own_first (own_parts p1) ((q2 &&& (9223372036854775807 : Int64)) - ((q2 &&& (9223372036854775807 : Int64)) / (own_parts p1)) * (own_parts p1)))), .second, .unset, .unset] [(.long ((q2 &&& (9223372036854775807 : Int64)) - ((q2 &&& (9223372036854775807 : Int64)) / (own_parts p1)) * (own_parts p1)))])) _
    refine XS.lload X6.here hx rfl (hb hby at_86) rfl ?_
    show Steps p.tables e below (T6.setTop (mkF m 88 #[.val (.int p1), .val (.long q2), .second, .val (.int p3), .val (.long (own_parts p1)), .second, .val (.int (p3 &&& (3 : Int32))), .val (.long ((q2 &&& (9223372036854775807 : Int64)) - ((q2 &&& (9223372036854775807 : Int64)) / (own_parts p1)) * (own_parts p1))), .second, .val (.ref b4), .val (.long (own_first (own_parts p1) ((q2 &&& (9223372036854775807 : Int64)) - ((q2 &&& (9223372036854775807 : Int64)) / (own_parts p1)) * (own_parts p1)))), .second, .unset, .unset] [(.long (own_parts p1)), (.long ((q2 &&& (9223372036854775807 : Int64)) - ((q2 &&& (9223372036854775807 : Int64)) / (own_parts p1)) * (own_parts p1)))])) _
    refine XS.lcmp X6.here hx rfl (hb hby at_88) rfl ?_
    show Steps p.tables e below (T6.setTop (mkF m 89 #[.val (.int p1), .val (.long q2), .second, .val (.int p3), .val (.long (own_parts p1)), .second, .val (.int (p3 &&& (3 : Int32))), .val (.long ((q2 &&& (9223372036854775807 : Int64)) - ((q2 &&& (9223372036854775807 : Int64)) / (own_parts p1)) * (own_parts p1))), .second, .val (.ref b4), .val (.long (own_first (own_parts p1) ((q2 &&& (9223372036854775807 : Int64)) - ((q2 &&& (9223372036854775807 : Int64)) / (own_parts p1)) * (own_parts p1)))), .second, .unset, .unset] [(.int (lcmpW ((q2 &&& (9223372036854775807 : Int64)) - ((q2 &&& (9223372036854775807 : Int64)) / (own_parts p1)) * (own_parts p1)) (own_parts p1)))])) _
    refine XS.ifYes X6.here hx rfl (pc0 := 89) (pc' := 98) rfl (hb hby at_89) rfl ((if0 _ _).trans (feq hc89).2) (by decide) (by decide) ?_
    show Steps p.tables e below (T6.setTop (mkF m 98 #[.val (.int p1), .val (.long q2), .second, .val (.int p3), .val (.long (own_parts p1)), .second, .val (.int (p3 &&& (3 : Int32))), .val (.long ((q2 &&& (9223372036854775807 : Int64)) - ((q2 &&& (9223372036854775807 : Int64)) / (own_parts p1)) * (own_parts p1))), .second, .val (.ref b4), .val (.long (own_first (own_parts p1) ((q2 &&& (9223372036854775807 : Int64)) - ((q2 &&& (9223372036854775807 : Int64)) / (own_parts p1)) * (own_parts p1)))), .second, .unset, .unset] [])) _
    refine XS.lload X6.here hx rfl (hb hby at_98) rfl ?_
    show Steps p.tables e below (T6.setTop (mkF m 100 #[.val (.int p1), .val (.long q2), .second, .val (.int p3), .val (.long (own_parts p1)), .second, .val (.int (p3 &&& (3 : Int32))), .val (.long ((q2 &&& (9223372036854775807 : Int64)) - ((q2 &&& (9223372036854775807 : Int64)) / (own_parts p1)) * (own_parts p1))), .second, .val (.ref b4), .val (.long (own_first (own_parts p1) ((q2 &&& (9223372036854775807 : Int64)) - ((q2 &&& (9223372036854775807 : Int64)) / (own_parts p1)) * (own_parts p1)))), .second, .unset, .unset] [(.long ((q2 &&& (9223372036854775807 : Int64)) - ((q2 &&& (9223372036854775807 : Int64)) / (own_parts p1)) * (own_parts p1)))])) _
    refine XS.lload X6.here hx rfl (hb hby at_100) rfl ?_
    show Steps p.tables e below (T6.setTop (mkF m 102 #[.val (.int p1), .val (.long q2), .second, .val (.int p3), .val (.long (own_parts p1)), .second, .val (.int (p3 &&& (3 : Int32))), .val (.long ((q2 &&& (9223372036854775807 : Int64)) - ((q2 &&& (9223372036854775807 : Int64)) / (own_parts p1)) * (own_parts p1))), .second, .val (.ref b4), .val (.long (own_first (own_parts p1) ((q2 &&& (9223372036854775807 : Int64)) - ((q2 &&& (9223372036854775807 : Int64)) / (own_parts p1)) * (own_parts p1)))), .second, .unset, .unset] [(.long (own_parts p1)), (.long ((q2 &&& (9223372036854775807 : Int64)) - ((q2 &&& (9223372036854775807 : Int64)) / (own_parts p1)) * (own_parts p1)))])) _
    refine st7 _ ?_
    show Steps p.tables e below (T7.setTop (mkF m 105 #[.val (.int p1), .val (.long q2), .second, .val (.int p3), .val (.long (own_parts p1)), .second, .val (.int (p3 &&& (3 : Int32))), .val (.long ((q2 &&& (9223372036854775807 : Int64)) - ((q2 &&& (9223372036854775807 : Int64)) / (own_parts p1)) * (own_parts p1))), .second, .val (.ref b4), .val (.long (own_first (own_parts p1) ((q2 &&& (9223372036854775807 : Int64)) - ((q2 &&& (9223372036854775807 : Int64)) / (own_parts p1)) * (own_parts p1)))), .second, .unset, .unset] [(.long (own_share ((q2 &&& (9223372036854775807 : Int64)) - ((q2 &&& (9223372036854775807 : Int64)) / (own_parts p1)) * (own_parts p1)) (own_parts p1)))])) _
    refine XS.lstore X7.here hx rfl (hb hby at_105) rfl (l' := #[.val (.int p1), .val (.long q2), .second, .val (.int p3), .val (.long (own_parts p1)), .second, .val (.int (p3 &&& (3 : Int32))), .val (.long ((q2 &&& (9223372036854775807 : Int64)) - ((q2 &&& (9223372036854775807 : Int64)) / (own_parts p1)) * (own_parts p1))), .second, .val (.ref b4), .val (.long (own_first (own_parts p1) ((q2 &&& (9223372036854775807 : Int64)) - ((q2 &&& (9223372036854775807 : Int64)) / (own_parts p1)) * (own_parts p1)))), .second, .val (.long (own_share ((q2 &&& (9223372036854775807 : Int64)) - ((q2 &&& (9223372036854775807 : Int64)) / (own_parts p1)) * (own_parts p1)) (own_parts p1))), .second]) rfl ?_
    show Steps p.tables e below (T7.setTop (mkF m 107 #[.val (.int p1), .val (.long q2), .second, .val (.int p3), .val (.long (own_parts p1)), .second, .val (.int (p3 &&& (3 : Int32))), .val (.long ((q2 &&& (9223372036854775807 : Int64)) - ((q2 &&& (9223372036854775807 : Int64)) / (own_parts p1)) * (own_parts p1))), .second, .val (.ref b4), .val (.long (own_first (own_parts p1) ((q2 &&& (9223372036854775807 : Int64)) - ((q2 &&& (9223372036854775807 : Int64)) / (own_parts p1)) * (own_parts p1)))), .second, .val (.long (own_share ((q2 &&& (9223372036854775807 : Int64)) - ((q2 &&& (9223372036854775807 : Int64)) / (own_parts p1)) * (own_parts p1)) (own_parts p1))), .second] [])) _
    refine XS.lload X7.here hx rfl (hb hby at_107) rfl ?_
    show Steps p.tables e below (T7.setTop (mkF m 109 #[.val (.int p1), .val (.long q2), .second, .val (.int p3), .val (.long (own_parts p1)), .second, .val (.int (p3 &&& (3 : Int32))), .val (.long ((q2 &&& (9223372036854775807 : Int64)) - ((q2 &&& (9223372036854775807 : Int64)) / (own_parts p1)) * (own_parts p1))), .second, .val (.ref b4), .val (.long (own_first (own_parts p1) ((q2 &&& (9223372036854775807 : Int64)) - ((q2 &&& (9223372036854775807 : Int64)) / (own_parts p1)) * (own_parts p1)))), .second, .val (.long (own_share ((q2 &&& (9223372036854775807 : Int64)) - ((q2 &&& (9223372036854775807 : Int64)) / (own_parts p1)) * (own_parts p1)) (own_parts p1))), .second] [(.long (own_first (own_parts p1) ((q2 &&& (9223372036854775807 : Int64)) - ((q2 &&& (9223372036854775807 : Int64)) / (own_parts p1)) * (own_parts p1))))])) _
    refine XS.lload X7.here hx rfl (hb hby at_109) rfl ?_
    show Steps p.tables e below (T7.setTop (mkF m 111 #[.val (.int p1), .val (.long q2), .second, .val (.int p3), .val (.long (own_parts p1)), .second, .val (.int (p3 &&& (3 : Int32))), .val (.long ((q2 &&& (9223372036854775807 : Int64)) - ((q2 &&& (9223372036854775807 : Int64)) / (own_parts p1)) * (own_parts p1))), .second, .val (.ref b4), .val (.long (own_first (own_parts p1) ((q2 &&& (9223372036854775807 : Int64)) - ((q2 &&& (9223372036854775807 : Int64)) / (own_parts p1)) * (own_parts p1)))), .second, .val (.long (own_share ((q2 &&& (9223372036854775807 : Int64)) - ((q2 &&& (9223372036854775807 : Int64)) / (own_parts p1)) * (own_parts p1)) (own_parts p1))), .second] [(.long (own_share ((q2 &&& (9223372036854775807 : Int64)) - ((q2 &&& (9223372036854775807 : Int64)) / (own_parts p1)) * (own_parts p1)) (own_parts p1))), (.long (own_first (own_parts p1) ((q2 &&& (9223372036854775807 : Int64)) - ((q2 &&& (9223372036854775807 : Int64)) / (own_parts p1)) * (own_parts p1))))])) _
    refine XS.lcmp X7.here hx rfl (hb hby at_111) rfl ?_
    show Steps p.tables e below (T7.setTop (mkF m 112 #[.val (.int p1), .val (.long q2), .second, .val (.int p3), .val (.long (own_parts p1)), .second, .val (.int (p3 &&& (3 : Int32))), .val (.long ((q2 &&& (9223372036854775807 : Int64)) - ((q2 &&& (9223372036854775807 : Int64)) / (own_parts p1)) * (own_parts p1))), .second, .val (.ref b4), .val (.long (own_first (own_parts p1) ((q2 &&& (9223372036854775807 : Int64)) - ((q2 &&& (9223372036854775807 : Int64)) / (own_parts p1)) * (own_parts p1)))), .second, .val (.long (own_share ((q2 &&& (9223372036854775807 : Int64)) - ((q2 &&& (9223372036854775807 : Int64)) / (own_parts p1)) * (own_parts p1)) (own_parts p1))), .second] [(.int (lcmpW (own_first (own_parts p1) ((q2 &&& (9223372036854775807 : Int64)) - ((q2 &&& (9223372036854775807 : Int64)) / (own_parts p1)) * (own_parts p1))) (own_share ((q2 &&& (9223372036854775807 : Int64)) - ((q2 &&& (9223372036854775807 : Int64)) / (own_parts p1)) * (own_parts p1)) (own_parts p1))))])) _
    refine XS.ifNo X7.here hx rfl (hb hby at_112) rfl ((if0 _ _).trans (teq ((lw_eq _ _).mpr (own_main _ _ (own_parts_rng p1).1 (own_parts_rng p1).2 (own_t3 q2 _ (own_parts_rng p1).1).1 (own_t3 q2 _ (own_parts_rng p1).1).2) : (lcmpW (own_first (own_parts p1) ((q2 &&& (9223372036854775807 : Int64)) - ((q2 &&& (9223372036854775807 : Int64)) / (own_parts p1)) * (own_parts p1))) (own_share ((q2 &&& (9223372036854775807 : Int64)) - ((q2 &&& (9223372036854775807 : Int64)) / (own_parts p1)) * (own_parts p1)) (own_parts p1))) = (0 : Int32))).2) ?_
    show Steps p.tables e below (T7.setTop (mkF m 115 #[.val (.int p1), .val (.long q2), .second, .val (.int p3), .val (.long (own_parts p1)), .second, .val (.int (p3 &&& (3 : Int32))), .val (.long ((q2 &&& (9223372036854775807 : Int64)) - ((q2 &&& (9223372036854775807 : Int64)) / (own_parts p1)) * (own_parts p1))), .second, .val (.ref b4), .val (.long (own_first (own_parts p1) ((q2 &&& (9223372036854775807 : Int64)) - ((q2 &&& (9223372036854775807 : Int64)) / (own_parts p1)) * (own_parts p1)))), .second, .val (.long (own_share ((q2 &&& (9223372036854775807 : Int64)) - ((q2 &&& (9223372036854775807 : Int64)) / (own_parts p1)) * (own_parts p1)) (own_parts p1))), .second] [])) _
    refine XS.iconst X7.here hx rfl (hb hby at_115) ?_
    show Steps p.tables e below (T7.setTop (mkF m 116 #[.val (.int p1), .val (.long q2), .second, .val (.int p3), .val (.long (own_parts p1)), .second, .val (.int (p3 &&& (3 : Int32))), .val (.long ((q2 &&& (9223372036854775807 : Int64)) - ((q2 &&& (9223372036854775807 : Int64)) / (own_parts p1)) * (own_parts p1))), .second, .val (.ref b4), .val (.long (own_first (own_parts p1) ((q2 &&& (9223372036854775807 : Int64)) - ((q2 &&& (9223372036854775807 : Int64)) / (own_parts p1)) * (own_parts p1)))), .second, .val (.long (own_share ((q2 &&& (9223372036854775807 : Int64)) - ((q2 &&& (9223372036854775807 : Int64)) / (own_parts p1)) * (own_parts p1)) (own_parts p1))), .second] [(.int (1 : Int32))])) _
    refine XS.goto X7.here hx rfl (pc0 := 116) (pc' := 120) rfl (hb hby at_116) (by decide) (by decide) ?_
    show Steps p.tables e below (T7.setTop (mkF m 120 #[.val (.int p1), .val (.long q2), .second, .val (.int p3), .val (.long (own_parts p1)), .second, .val (.int (p3 &&& (3 : Int32))), .val (.long ((q2 &&& (9223372036854775807 : Int64)) - ((q2 &&& (9223372036854775807 : Int64)) / (own_parts p1)) * (own_parts p1))), .second, .val (.ref b4), .val (.long (own_first (own_parts p1) ((q2 &&& (9223372036854775807 : Int64)) - ((q2 &&& (9223372036854775807 : Int64)) / (own_parts p1)) * (own_parts p1)))), .second, .val (.long (own_share ((q2 &&& (9223372036854775807 : Int64)) - ((q2 &&& (9223372036854775807 : Int64)) / (own_parts p1)) * (own_parts p1)) (own_parts p1))), .second] [(.int (1 : Int32))])) _
    exact retN X7 hx (t := .boolean) Bd.returns (by simp) (hb hby at_120) hr
  · show Q0 Z p1 q2 p3 h0 n0 _ T7.heap _
    exact ⟨rfl, N7⟩
theorem rm0 (l : Launch) (Z : State) (a0 : Array Value) (hw : ∀ d ∈ tables_1, d.before a0 Z = true) (ws : List Jvm.Cond) (p1 : Int32) (q2 : Int64) (p3 : Int32) (h0 : Heap) (n0 : Nat) (Z0 : n0 ≤ h0.size)  :
    MetFree l x (head1 (Jvm.Cond.code x code maxLocals ret :: ws) room_1) (fun a U => a = #[(.int p1), (.long q2), (.int p3)] ∧ Z.Warmed39 U.vm ∧ U.heap = h0) (fun _ _ _ _ _ => True) (fun _ U o U' => ∃ v L, o = .returned v ∧ Q0 Z p1 q2 p3 h0 n0 v U'.heap L ∧ FrameEnd U o U' L room_1.cells room_1.slots) := by
  by_cases hc17 : (p3 &&& (3 : Int32)) = (0 : Int32)
  · exact rm0_s0 l Z a0 hw ws p1 q2 p3 h0 n0 Z0 hc17 (own_neP (by have := (own_parts_rng p1).1; show (0 : Int) < _; omega))
  · by_cases hc29 : (p3 &&& (3 : Int32)) = (1 : Int32)
    · exact rm0_s1 l Z a0 hw ws p1 q2 p3 h0 n0 Z0 hc17 hc29 (fun _ => (lw_eq _ _).mpr rfl)
    · by_cases hc42 : (p3 &&& (3 : Int32)) = (2 : Int32)
      · exact rm0_s2 l Z a0 hw ws p1 q2 p3 h0 n0 Z0 hc17 hc29 hc42 (own_neP (own_t2 p1).2)
      · exact rm0_s3 l Z a0 hw ws p1 q2 p3 h0 n0 Z0 hc17 hc29 hc42 (own_pos p1).2 (own_neP (own_t3 q2 _ (own_parts_rng p1).1).2)
-- 5. FROM THE CASE'S WORDS TO rm0, AND THE OWED THEOREMS
set_option maxRecDepth 65536 in
set_option maxHeartbeats 40000000 in
theorem comes_1 {Post : Tables → Env → Array Value → State → Outcome → State → Prop} (hpost : ∀ tb e args s v u, (limb_1_1.after args s (.returned v) u = true ∧ limb_1_2.after args s (.returned v) u = true ∧ True) → FrameEnd s (.returned v) u (Jvm.fieldLocs frame_1_writes args s ++ Jvm.arrayLocs frame_1_arrays args s ++ Jvm.staticLocs frame_1_statics s) 16 128 → Post tb e args s (.returned v) u) :
    ArmFor flags0 classFile x code maxLocals ret World_1 tables_1 room_1 Calls_1 rest_1 Pre_1 Post := by
  intro l hfl _ _ p e ha hc hk s m args below hf hA hF happ hP
  obtain ⟨hcalls, hrest, hpre⟩ := hP
  obtain ⟨-, -, -, hnamed, -, -, -, hat⟩ := (Spec.applies_iff hf).mp happ
  obtain ⟨hg, hn⟩ := and_e (Cond.before_iff.mp (show (Jvm.Cond.and given_1 narrow_1).before args s = true from hpre))
  obtain ⟨g8, g9⟩ := and_e hg
  obtain ⟨g10, g11⟩ := and_e g9
  obtain ⟨g12, g13⟩ := and_e g11
  obtain ⟨w0, w1, w2, rfl⟩ : ∃ w0 w1 w2 : Value, args = #[w0, w1, w2] := by
    have hs : args.size = 3 := by simpa [Cond.value, given_1] using g8
    obtain ⟨L⟩ := args
    match L, hs with
    | [w0, w1, w2], _ => exact ⟨w0, w1, w2, rfl⟩
  have hw := fun d (hd : d ∈ tables_1) => atoms_spec (ws := Jvm.Cond.code x code maxLocals ret :: tables_1) hat d (List.mem_cons_of_mem _ hd)
  have hfit : Fit s := fun {y c} hc i hi => by
    obtain ⟨ha, rfl⟩ := Array.getElem?_eq_some_iff.mp hc
    have q := List.all_eq_true.mp ((Array.all_eq_true_iff_forall_mem.mp hF) _ (Array.getElem_mem ha)) i (List.mem_range.mpr hi)
    simpa [Array.getElem?_eq_getElem hi] using q
  obtain ⟨i0, ei0⟩ := is_v g10
  obtain rfl : w0 = (.int i0) := Option.some.inj ei0
  obtain ⟨i1, ei1⟩ := isL_v g12
  obtain rfl : w1 = (.long i1) := Option.some.inj ei1
  obtain ⟨i2, ei2⟩ := is_v g13
  obtain rfl : w2 = (.int i2) := Option.some.inj ei2
  obtain ⟨n, o, h1, h2, h3, _, L, rfl, ⟨rfl, N⟩, hq⟩ := rm0 l s _ hw tables_1 i0 i1 i2 s.heap s.heap.size (Nat.le_refl _)  p e ha hc hk s m _ below hf ((Spec.applies_iff_loose hf).mp happ).1 ⟨rfl, State.Warmed39.refl s, rfl⟩ trivial
  refine ⟨n, _, h1, h2, h3, hpost _ _ _ _ _ _ ⟨Cond.after_iff.mpr rfl, Cond.after_iff.mpr (eq_i res_at (Term.int_eval (1)) rfl), trivial⟩ ⟨hq.1, hq.2.1, (hq.2.2.sift fun y hy => Or.inr (N y hy)).mono (by decide) (by decide)⟩⟩
theorem main_1_1 : Claimed_1_1 := comes_1 fun _ _ _ _ _ _ h hF => ⟨h.1, hF⟩
theorem main_1_2 : Claimed_1_2 := comes_1 fun _ _ _ _ _ _ h hF => ⟨h.2.1, hF⟩
-- 6. THE WITNESS: 'witness <made dir> --arg ..' lays it behind; then: end Jvm.Pilot.@@N@@
end Jvm.Pilot.@@N@@
namespace Jvm.Pilot.@@N@@
open Jvm Jvm.ClassFile Sem Op Lib Jvm.Free Jvm.Stand Jvm.Pilot.@@N@@.Jvm.D
/-! MADE BY PROGRAM (witnessworld.py) out of the Statement's table words and the real class files: 14 classes; the members and pool entries that the words name. The judged class is class 1, her method 2. -/
namespace start1
open Jvm.ClassFile
def u (s : String) : CpInfo := .utf8 (stringToUtf16 s)
/-- a pool by its gaps: so many unusable entries, then the entry; so many at the end -/
def gap : Nat → List CpInfo → List CpInfo
  | 0, r => r
  | n + 1, r => .unusable :: gap n r
def poolList (es : List (Nat × CpInfo)) (last : Nat) : List CpInfo := es.foldr (fun e r => gap e.1 (e.2 :: r)) (gap last [])
def pool (es : List (Nat × CpInfo)) (last : Nat) : Array CpInfo := ⟨poolList es last⟩
def fileOf (pool : Array CpInfo) (this : Nat) (attrs : Array Attribute := #[]) (ms : Array MethodInfo := #[]) (fl : Nat := 33) (sup : Nat := 0) (ifs : Array Nat := #[]) (fds : Array FieldInfo := #[]) : ClassFile where
  minorVersion := 0
  majorVersion := 65
  constantPool := pool
  accessFlags := fl
  thisClass := this
  superClass := sup
  interfaces := ifs
  fields := fds
  methods := ms
  attributes := attrs
def plain (name : String) (sup : Option ClassId) : Class where
  name := name
  kind := .ordinary
  loader := none
  accessFlags := 33
  super := sup
  interfaces := #[]
  cf := none
  fields := #[]
  methods := #[]
  instanceTypes := #[]
  staticTypes := #[]
  resolved := #[]
  callSites := []
  init := .initialized
  statics := none
  mirror := none

def pool0 : Array CpInfo := pool [(5, u "<init>"), (0, u "()V"), (1, .class_ 10), (1, u "java/lang/Object")] 113

def k0c0 : Code := { maxStack := 0, maxLocals := 1, code := object_method_1_code, exceptionTable := #[], attributes := #[] }
def k0m0 : Method := { name := "<init>", desc := "()V", sig := { parameters := [], returnType := none }, accessFlags := 1, code := some k0c0 }
/-- java/lang/Object -/
def k0 : Class := { plain "java/lang/Object" none with
  accessFlags := 33
  interfaces := #[]
  cf := some (fileOf pool0 8 #[] #[{ accessFlags := 1, nameIndex := 5, descriptorIndex := 6, attributes := #[] }] 33 0 #[] #[])
  fields := #[]
  methods := #[k0m0]
  instanceTypes := #[]
  staticTypes := #[]
  resolved := Array.replicate 124 none
  statics := none }

def pool1 : Array CpInfo := pool [(2, .class_ 4), (1, u "java/lang/Object"), (0, u "<init>"), (0, u "()V"), (0, .long 2147483647), (3, .long 9223372036854775807), (1, .class_ 14), (0, u "com/example/level_ring/levelring/placement/PartitionSlots$Cut"), (0, .methodref 13 16), (0, .nameAndType 5 17), (0, u "(J)V"), (0, .methodref 13 19), (0, .nameAndType 20 21), (0, u "firstOffsetOf"), (0, u "(J)J"), (0, .methodref 23 24), (0, .class_ 25), (0, .nameAndType 26 27), (0, u "com/example/level_ring/levelring/placement/CutFirstOffsetOfPinLaw"), (0, u "ceilShare"), (0, u "(JJ)J"), (3, u "law"), (0, u "(IJI)Z")] 6

def k1m0 : Method := { name := "<init>", desc := "()V", sig := { parameters := [], returnType := none }, accessFlags := 2, code := none }
def k1c1 : Code := { maxStack := 4, maxLocals := 18, code := method_2_code, exceptionTable := #[], attributes := #[] }
def k1m1 : Method := { name := "ceilShare", desc := "(JJ)J", sig := { parameters := [.long, .long], returnType := some .long }, accessFlags := 10, code := some k1c1 }
def k1c2 : Code := { maxStack := 4, maxLocals := 14, code := code, exceptionTable := #[], attributes := #[] }
def k1m2 : Method := { name := "law", desc := "(IJI)Z", sig := { parameters := [.int, .long, .int], returnType := some .boolean }, accessFlags := 9, code := some k1c2 }
/-- com/example/level_ring/levelring/placement/CutFirstOffsetOfPinLaw -/
def k1 : Class := { plain "com/example/level_ring/levelring/placement/CutFirstOffsetOfPinLaw" (some 0) with
  accessFlags := 49
  interfaces := #[]
  cf := some (fileOf pool1 23 #[] #[{ accessFlags := 2, nameIndex := 5, descriptorIndex := 6, attributes := #[] }, { accessFlags := 10, nameIndex := 26, descriptorIndex := 27, attributes := #[] }, { accessFlags := 9, nameIndex := 31, descriptorIndex := 32, attributes := #[] }] 49 2 #[] #[])
  fields := #[]
  methods := #[k1m0, k1m1, k1m2]
  instanceTypes := #[]
  staticTypes := #[]
  resolved := Array.replicate 39 none
  statics := none }

def pool2 : Array CpInfo := pool [(1, .methodref 2 3), (0, .class_ 4), (0, .nameAndType 5 6), (0, u "java/lang/Object"), (0, u "<init>"), (0, u "()V"), (0, .fieldref 8 9), (0, .class_ 10), (0, .nameAndType 11 12), (0, u "com/example/level_ring/levelring/placement/PartitionSlots$Cut"), (0, u "parts"), (0, u "J"), (0, .long 18446744073709551615), (1, .methodref 16 17), (0, .class_ 18), (0, .nameAndType 19 20), (0, u "java/lang/Long"), (0, u "divideUnsigned"), (0, u "(JJ)J"), (0, .methodref 16 22), (0, .nameAndType 23 20), (0, u "remainderUnsigned"), (0, .fieldref 8 25), (0, .nameAndType 26 12), (0, u "unit"), (0, .fieldref 8 28), (0, .nameAndType 29 12), (0, u "rest"), (0, u "(J)V"), (4, u "firstOffsetOf"), (0, u "(J)J"), (3, .class_ 41), (0, u "com/example/level_ring/levelring/placement/PartitionSlots")] 2

def k2c0 : Code := { maxStack := 4, maxLocals := 7, code := prog_55_method_1_code, exceptionTable := #[], attributes := #[] }
def k2m0 : Method := { name := "<init>", desc := "(J)V", sig := { parameters := [.long], returnType := none }, accessFlags := 0, code := some k2c0 }
def k2c1 : Code := { maxStack := 6, maxLocals := 3, code := prog_55_method_3_code, exceptionTable := #[], attributes := #[] }
def k2m1 : Method := { name := "firstOffsetOf", desc := "(J)J", sig := { parameters := [.long], returnType := some .long }, accessFlags := 0, code := some k2c1 }
/-- com/example/level_ring/levelring/placement/PartitionSlots$Cut -/
def k2 : Class := { plain "com/example/level_ring/levelring/placement/PartitionSlots$Cut" (some 0) with
  accessFlags := 49
  interfaces := #[]
  cf := some (fileOf pool2 8 #[.nestHost 40] #[{ accessFlags := 0, nameIndex := 5, descriptorIndex := 30, attributes := #[] }, { accessFlags := 0, nameIndex := 35, descriptorIndex := 36, attributes := #[] }] 49 2 #[] #[{ accessFlags := 18, nameIndex := 11, descriptorIndex := 12, attributes := #[] }, { accessFlags := 18, nameIndex := 26, descriptorIndex := 12, attributes := #[] }, { accessFlags := 18, nameIndex := 29, descriptorIndex := 12, attributes := #[] }])
  fields := #[{ name := "parts", type := .long, accessFlags := 18, slot := 0, constantValue := 0 }, { name := "unit", type := .long, accessFlags := 18, slot := 1, constantValue := 0 }, { name := "rest", type := .long, accessFlags := 18, slot := 2, constantValue := 0 }]
  methods := #[k2m0, k2m1]
  instanceTypes := #[.long, .long, .long]
  staticTypes := #[]
  resolved := Array.replicate 44 none
  statics := none }

def pool3 : Array CpInfo := pool [(1, .class_ 2), (0, u "java/io/Serializable"), (0, .class_ 4), (0, u "java/lang/Object")] 2

/-- java/io/Serializable -/
def k3 : Class := { plain "java/io/Serializable" (some 0) with
  accessFlags := 1537
  interfaces := #[]
  cf := some (fileOf pool3 1 #[] #[] 1537 3 #[] #[])
  fields := #[]
  methods := #[]
  instanceTypes := #[]
  staticTypes := #[]
  resolved := Array.replicate 7 none
  statics := none }

def pool4 : Array CpInfo := pool [(2, .class_ 4), (1, u "java/lang/Object"), (0, u "<init>"), (0, u "()V"), (1, .class_ 10), (1, u "java/lang/Number"), (2, .class_ 14), (0, u "java/io/Serializable"), (0, u "serialVersionUID"), (0, u "J")] 20

def k4m0 : Method := { name := "<init>", desc := "()V", sig := { parameters := [], returnType := none }, accessFlags := 1, code := none }
/-- java/lang/Number -/
def k4 : Class := { plain "java/lang/Number" (some 0) with
  accessFlags := 1057
  interfaces := #[3]
  cf := some (fileOf pool4 8 #[] #[{ accessFlags := 1, nameIndex := 5, descriptorIndex := 6, attributes := #[] }] 1057 2 #[13] #[{ accessFlags := 26, nameIndex := 15, descriptorIndex := 16, attributes := #[] }])
  fields := #[{ name := "serialVersionUID", type := .long, accessFlags := 26, slot := 0, constantValue := 0 }]
  methods := #[k4m0]
  instanceTypes := #[]
  staticTypes := #[.long]
  resolved := Array.replicate 37 none
  statics := none }

def pool5 : Array CpInfo := pool [(1, .class_ 2), (0, u "java/lang/Comparable"), (0, .class_ 4), (0, u "java/lang/Object")] 7

/-- java/lang/Comparable -/
def k5 : Class := { plain "java/lang/Comparable" (some 0) with
  accessFlags := 1537
  interfaces := #[]
  cf := some (fileOf pool5 1 #[] #[] 1537 3 #[] #[])
  fields := #[]
  methods := #[]
  instanceTypes := #[]
  staticTypes := #[]
  resolved := Array.replicate 12 none
  statics := none }

def pool6 : Array CpInfo := pool [(1, .class_ 2), (0, u "java/lang/constant/Constable"), (0, .class_ 4), (0, u "java/lang/Object")] 6

/-- java/lang/constant/Constable -/
def k6 : Class := { plain "java/lang/constant/Constable" (some 0) with
  accessFlags := 1537
  interfaces := #[]
  cf := some (fileOf pool6 1 #[] #[] 1537 3 #[] #[])
  fields := #[]
  methods := #[]
  instanceTypes := #[]
  staticTypes := #[]
  resolved := Array.replicate 11 none
  statics := none }

def pool7 : Array CpInfo := pool [(1, .class_ 2), (0, u "java/lang/constant/ConstantDesc"), (0, .class_ 4), (0, u "java/lang/Object")] 32

/-- java/lang/constant/ConstantDesc -/
def k7 : Class := { plain "java/lang/constant/ConstantDesc" (some 0) with
  accessFlags := 1537
  interfaces := #[]
  cf := some (fileOf pool7 1 #[] #[] 1537 3 #[] #[])
  fields := #[]
  methods := #[]
  instanceTypes := #[]
  staticTypes := #[]
  resolved := Array.replicate 37 none
  statics := none }

def pool8 : Array CpInfo := pool [(1, .class_ 2), (0, u "java/lang/Long"), (232, .class_ 237), (1, u "java/lang/Long$LongCache"), (33, .class_ 272), (0, u "java/lang/Number"), (2, u "value"), (0, u "J"), (29, .long 18446744073709551615), (26, u "(JJ)J"), (27, u "TYPE"), (0, u "Ljava/lang/Class;"), (0, .class_ 364), (0, u "java/lang/Comparable"), (0, .class_ 366), (0, u "java/lang/constant/Constable"), (0, .class_ 368), (0, u "java/lang/constant/ConstantDesc"), (0, u "MIN_VALUE"), (1, u "MAX_VALUE"), (4, u "SIZE"), (0, u "I"), (1, u "BYTES"), (1, u "serialVersionUID"), (88, u "divideUnsigned"), (2, u "remainderUnsigned")] 50

def k8c0 : Code := { maxStack := 8, maxLocals := 8, code := jdk_35_method_44_code, exceptionTable := #[], attributes := #[] }
def k8m0 : Method := { name := "divideUnsigned", desc := "(JJ)J", sig := { parameters := [.long, .long], returnType := some .long }, accessFlags := 9, code := some k8c0 }
def k8c1 : Code := { maxStack := 8, maxLocals := 8, code := jdk_35_method_45_code, exceptionTable := #[], attributes := #[] }
def k8m1 : Method := { name := "remainderUnsigned", desc := "(JJ)J", sig := { parameters := [.long, .long], returnType := some .long }, accessFlags := 9, code := some k8c1 }
/-- java/lang/Long -/
def k8 : Class := { plain "java/lang/Long" (some 4) with
  accessFlags := 49
  interfaces := #[5, 6, 7]
  cf := some (fileOf pool8 1 #[.nestMembers #[235]] #[{ accessFlags := 9, nameIndex := 470, descriptorIndex := 333, attributes := #[] }, { accessFlags := 9, nameIndex := 473, descriptorIndex := 333, attributes := #[] }] 49 271 #[363, 365, 367] #[{ accessFlags := 25, nameIndex := 369, descriptorIndex := 276, attributes := #[] }, { accessFlags := 25, nameIndex := 371, descriptorIndex := 276, attributes := #[] }, { accessFlags := 25, nameIndex := 361, descriptorIndex := 362, attributes := #[] }, { accessFlags := 18, nameIndex := 275, descriptorIndex := 276, attributes := #[] }, { accessFlags := 25, nameIndex := 376, descriptorIndex := 377, attributes := #[] }, { accessFlags := 25, nameIndex := 379, descriptorIndex := 377, attributes := #[] }, { accessFlags := 26, nameIndex := 381, descriptorIndex := 276, attributes := #[] }])
  fields := #[{ name := "MIN_VALUE", type := .long, accessFlags := 25, slot := 0, constantValue := 0 }, { name := "MAX_VALUE", type := .long, accessFlags := 25, slot := 1, constantValue := 0 }, { name := "TYPE", type := (.object "java/lang/Class"), accessFlags := 25, slot := 2, constantValue := 0 }, { name := "value", type := .long, accessFlags := 18, slot := 0, constantValue := 0 }, { name := "SIZE", type := .int, accessFlags := 25, slot := 3, constantValue := 0 }, { name := "BYTES", type := .int, accessFlags := 25, slot := 4, constantValue := 0 }, { name := "serialVersionUID", type := .long, accessFlags := 26, slot := 5, constantValue := 0 }]
  methods := #[k8m0, k8m1]
  instanceTypes := #[.long]
  staticTypes := #[.long, .long, (.object "java/lang/Class"), .int, .int, .long]
  resolved := Array.replicate 524 none
  statics := none }

def pool9 : Array CpInfo := pool [(1, u "java/lang/Cloneable"), (0, .class_ 1), (0, u "java/lang/Object"), (0, .class_ 3)] 3

/-- java/lang/Cloneable -/
def k9 : Class := { plain "java/lang/Cloneable" (some 0) with
  accessFlags := 1537
  interfaces := #[]
  cf := some (fileOf pool9 2 #[] #[] 1537 4 #[] #[])
  fields := #[]
  methods := #[]
  instanceTypes := #[]
  staticTypes := #[]
  resolved := Array.replicate 8 none
  statics := none }

/-- the primitive byte -/
def k10 : Class := { plain "byte" none with kind := .primitive 'B', accessFlags := 0x411 }
/-- [B -/
def k11 : Class := { plain "[B" (some 0) with kind := .array 10 .byte, interfaces := #[9, 3], accessFlags := 1041 }

/-- the primitive int -/
def k12 : Class := { plain "int" none with kind := .primitive 'I', accessFlags := 0x411 }
/-- [I -/
def k13 : Class := { plain "[I" (some 0) with kind := .array 12 .int, interfaces := #[9, 3], accessFlags := 1041 }

def heap : Heap := #[]
def classes : Array Class := #[k0, k1, k2, k3, k4, k5, k6, k7, k8, k9, k10, k11, k12, k13]
def interned : List (Array UInt16 × Addr) := []
def slotsUsed : Nat := 0
def theMethod : MethodId := ⟨1, 2⟩
def args0 : Array Value := #[.int 5, .long 7, .int 3]
def aboutOver (below : List Frame) : State where
  vm := { classes := classes, interned := interned.toArray }
  heap := heap
  slotsUsed := slotsUsed
  threads := #[{ frames := .invoking theMethod args0 :: below }]
def below0 : List Frame := [.native { method := ⟨0, 0⟩, args := #[] }]
def about1 : State := aboutOver below0
def p0 : Program := .bare "" "" ""
def e0 : Env := launch0.env 0 0 0
theorem w_frames : about1.frames = Frame.invoking theMethod args0 :: below0 := rfl
set_option maxRecDepth 65536 in
theorem w_args : argsFit about1.vm theMethod args0 = true := by decide +kernel
set_option maxRecDepth 65536 in
theorem w_heap : heapFits about1 = true := by decide +kernel
set_option maxRecDepth 65536 in
theorem w_runnable : about1.curStatus? = some .runnable := by decide +kernel
set_option maxRecDepth 65536 in
theorem w_alone : about1.alone = true := by decide +kernel
set_option maxRecDepth 65536 in
theorem w_named : about1.methodNamed? x = some theMethod := by decide +kernel
set_option maxRecDepth 65536 in
theorem w_hears : about1.hears theMethod below0 = true := by decide +kernel
set_option maxRecDepth 65536 in
theorem w_ripe : about1.ripe theMethod args0 below0 = true := by decide +kernel
theorem w_running : about1.status = .running := rfl
set_option maxRecDepth 65536 in
theorem w_room : about1.hasRoom e0.platform room_1 = true :=
  launch0.hasRoom_least _ room_1 (by decide +kernel) (by decide +kernel) (by decide +kernel) (by decide +kernel) (by decide +kernel) (by decide +kernel)
theorem allAtoms_all (ts : List Jvm.Cond) (a : Array Jvm.Value) (st : Jvm.State) : (allAtoms ts).before a st = ts.all (fun c => c.before a st) := by
  induction ts with
  | nil => rfl
  | cons c t ih =>
    show (Jvm.Cond.and c (allAtoms t)).before a st = _
    rw [Jvm.Cond.before_and, ih, List.all_cons]
def words1 : List Jvm.Cond := Jvm.Cond.code x code maxLocals ret :: tables_1
/-- a 'code' word, met by the world's own term for the bytes: nothing is compared byte by byte -/
theorem code_word {y : MethodName} {bytes : ByteArray} {mx : Nat} {rt : Option FieldType} {a : Array Value} {s : State} {m : MethodId} {meth : Method} {c : Code} (h1 : s.methodNamed? y = some m) (h2 : s.vm.method? m = some meth) (h3 : meth.code = some c) (h4 : c.code = bytes)
    (h5 : (c.maxLocals == mx && c.exceptionTable.isEmpty && decide (c.maxStack ≤ mostOperands) && decide (meth.sig.returnType = rt) && !meth.locks && decide (parseMethodDescriptor y.desc = some meth.sig)) = true) : (Jvm.Cond.code y bytes mx rt).before a s = true := by
  simp only [Bool.and_eq_true, beq_iff_eq, Bool.not_eq_true', decide_eq_true_eq] at h5
  obtain ⟨⟨⟨⟨⟨g1, g2⟩, g3⟩, g4⟩, g5⟩, g6⟩ := h5
  simp [Cond.before, Cond.holds, Cond.value, h1, h2, h3, h4, g1, g2, g3, g4, g5, g6]
def isCode : Jvm.Cond → Bool
  | .code _ _ _ _ => true
  | _ => false
theorem all_split {L : List Jvm.Cond} {P : Jvm.Cond → Bool} (h1 : L.all (fun c => isCode c || P c) = true) (h2 : ∀ c ∈ L.filter isCode, P c = true) : L.all P = true := by
  refine List.all_eq_true.mpr fun c hc => ?_
  have h := List.all_eq_true.mp h1 c hc
  rcases Bool.eq_false_or_eq_true (isCode c) with hi | hi
  · exact h2 c (List.mem_filter.mpr ⟨hc, hi⟩)
  · simpa [hi] using h
set_option maxRecDepth 65536 in
theorem w_c0 : (Jvm.Cond.code x code maxLocals ret).before args0 about1 = true := code_word (m := ⟨1, 2⟩) (meth := k1m2) (c := k1c2) (by decide +kernel) rfl rfl rfl (by decide +kernel)
set_option maxRecDepth 65536 in
theorem w_c1 : (Jvm.Cond.code ({ cls := "com/example/level_ring/levelring/placement/PartitionSlots$Cut", name := "<init>", desc := "(J)V" } : Jvm.MethodName) prog_55_method_1_code (7 : Nat) (Option.none : Option Jvm.ClassFile.FieldType)).before args0 about1 = true := code_word (m := ⟨2, 0⟩) (meth := k2m0) (c := k2c0) (by decide +kernel) rfl rfl rfl (by decide +kernel)
set_option maxRecDepth 65536 in
theorem w_c2 : (Jvm.Cond.code ({ cls := "java/lang/Object", name := "<init>", desc := "()V" } : Jvm.MethodName) object_method_1_code (1 : Nat) (Option.none : Option Jvm.ClassFile.FieldType)).before args0 about1 = true := code_word (m := ⟨0, 0⟩) (meth := k0m0) (c := k0c0) (by decide +kernel) rfl rfl rfl (by decide +kernel)
set_option maxRecDepth 65536 in
theorem w_c3 : (Jvm.Cond.code ({ cls := "java/lang/Long", name := "divideUnsigned", desc := "(JJ)J" } : Jvm.MethodName) jdk_35_method_44_code (8 : Nat) (Option.some Jvm.ClassFile.FieldType.long)).before args0 about1 = true := code_word (m := ⟨8, 0⟩) (meth := k8m0) (c := k8c0) (by decide +kernel) rfl rfl rfl (by decide +kernel)
set_option maxRecDepth 65536 in
theorem w_c4 : (Jvm.Cond.code ({ cls := "java/lang/Long", name := "remainderUnsigned", desc := "(JJ)J" } : Jvm.MethodName) jdk_35_method_45_code (8 : Nat) (Option.some Jvm.ClassFile.FieldType.long)).before args0 about1 = true := code_word (m := ⟨8, 1⟩) (meth := k8m1) (c := k8c1) (by decide +kernel) rfl rfl rfl (by decide +kernel)
set_option maxRecDepth 65536 in
theorem w_c5 : (Jvm.Cond.code ({ cls := "com/example/level_ring/levelring/placement/PartitionSlots$Cut", name := "firstOffsetOf", desc := "(J)J" } : Jvm.MethodName) prog_55_method_3_code (3 : Nat) (Option.some Jvm.ClassFile.FieldType.long)).before args0 about1 = true := code_word (m := ⟨2, 1⟩) (meth := k2m1) (c := k2c1) (by decide +kernel) rfl rfl rfl (by decide +kernel)
set_option maxRecDepth 65536 in
theorem w_c6 : (Jvm.Cond.code ({ cls := "com/example/level_ring/levelring/placement/CutFirstOffsetOfPinLaw", name := "ceilShare", desc := "(JJ)J" } : Jvm.MethodName) method_2_code (18 : Nat) (Option.some Jvm.ClassFile.FieldType.long)).before args0 about1 = true := code_word (m := ⟨1, 1⟩) (meth := k1m1) (c := k1c1) (by decide +kernel) rfl rfl rfl (by decide +kernel)
def codes1 : List Jvm.Cond := [Jvm.Cond.code x code maxLocals ret, Jvm.Cond.code ({ cls := "com/example/level_ring/levelring/placement/PartitionSlots$Cut", name := "<init>", desc := "(J)V" } : Jvm.MethodName) prog_55_method_1_code (7 : Nat) (Option.none : Option Jvm.ClassFile.FieldType), Jvm.Cond.code ({ cls := "java/lang/Object", name := "<init>", desc := "()V" } : Jvm.MethodName) object_method_1_code (1 : Nat) (Option.none : Option Jvm.ClassFile.FieldType), Jvm.Cond.code ({ cls := "java/lang/Long", name := "divideUnsigned", desc := "(JJ)J" } : Jvm.MethodName) jdk_35_method_44_code (8 : Nat) (Option.some Jvm.ClassFile.FieldType.long), Jvm.Cond.code ({ cls := "java/lang/Long", name := "remainderUnsigned", desc := "(JJ)J" } : Jvm.MethodName) jdk_35_method_45_code (8 : Nat) (Option.some Jvm.ClassFile.FieldType.long), Jvm.Cond.code ({ cls := "com/example/level_ring/levelring/placement/PartitionSlots$Cut", name := "firstOffsetOf", desc := "(J)J" } : Jvm.MethodName) prog_55_method_3_code (3 : Nat) (Option.some Jvm.ClassFile.FieldType.long), Jvm.Cond.code ({ cls := "com/example/level_ring/levelring/placement/CutFirstOffsetOfPinLaw", name := "ceilShare", desc := "(JJ)J" } : Jvm.MethodName) method_2_code (18 : Nat) (Option.some Jvm.ClassFile.FieldType.long)]
set_option maxRecDepth 65536 in
theorem codes_eq : words1.filter isCode = codes1 := rfl
theorem w_codes : ∀ c ∈ words1.filter isCode, c.before args0 about1 = true := by
  rw [codes_eq]
  intro c hc
  simp only [codes1, List.mem_cons, List.not_mem_nil, or_false] at hc
  rcases hc with rfl | rfl | rfl | rfl | rfl | rfl | rfl
  · exact w_c0
  · exact w_c1
  · exact w_c2
  · exact w_c3
  · exact w_c4
  · exact w_c5
  · exact w_c6
set_option maxRecDepth 65536 in
theorem w_t1 : (words1.take 24).all (fun c => isCode c || c.before args0 about1) = true := by decide +kernel
set_option maxRecDepth 65536 in
theorem w_t2 : (words1.drop 24).all (fun c => isCode c || c.before args0 about1) = true := by decide +kernel
theorem w_tables : (allAtoms (Jvm.Cond.code x code maxLocals ret :: tables_1)).before args0 about1 = true := by
  rw [allAtoms_all]
  show words1.all (fun c => c.before args0 about1) = true
  refine all_split ?_ w_codes
  rw [← List.take_append_drop 24 words1, List.all_append, w_t1, w_t2]
  rfl
set_option maxRecDepth 65536 in
theorem w_case : (Jvm.Cond.and given_1 narrow_1).before args0 about1 = true := by decide +kernel
theorem w_applies : (headSpec (Jvm.Cond.code x code maxLocals ret :: tables_1) room_1).applies x e0.platform about1 = true :=
  (Spec.applies_iff w_frames).mpr ⟨w_running, w_runnable, w_alone, w_named, w_hears, w_ripe, w_room, w_tables⟩
theorem atStart : AtStart classFile x code maxLocals ret World_1 tables_1 room_1 Calls_1 rest_1 Pre_1 launch0 p0 e0 about1 theMethod args0 below0 :=
  ⟨lists_1, trivial, launch0.admits_env _ _ _, launch0.least_env, fairChoices_fair.cas, fairChoices_fair.clock, w_frames, w_args, w_heap, w_applies, trivial, trivial, w_case⟩
end start1
theorem witness_1 : WitnessClaimed_1 := ⟨start1.p0, start1.e0, start1.about1, start1.theMethod, start1.args0, start1.below0, start1.atStart⟩
end Jvm.Pilot.@@N@@
