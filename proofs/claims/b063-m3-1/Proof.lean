import JvmDerived
import JvmDerived.Pilot.@@N@@Statement
import JvmDerived.Pilot.@@N@@Code
set_option linter.unusedVariables false
set_option linter.unusedSimpArgs false
@@BLOCK:NumsL.lean.txt@@
@@BLOCK:Masks.lean.txt@@
namespace Jvm.RoadKit
open Sem ClassFile Op Lib Jvm.Stand Jvm.Free Jvm.LawKit
section New
variable {p : Program} {l : Launch} {e : Env} {R : Room} {s : State} {m : MethodId} {args : Array Value} {below : List Frame} {meth : Method} {c : Code} {T : State} {locs : List Loc} {cells slots : Nat}
theorem retI (X : Stand p l e R s m args below meth c T locs cells slots) (hx : p.tables.exec = Jvm.exec) {pc : Nat} {Ls : Array Slot} {z : Int32} {rest : List Value} (hret : meth.sig.returnType = some .int) (hd : decode c.code pc = .ok (.ireturn, 1)) {fs : List Frame}
    (hl : ∀ (f : JFrame) (acts : List Action), f.method = m → f.locked = none → f.entered = [] → (doReturn e (T.setTop f) acts (some (.int z))).1 = T.setFrames fs) : Steps p.tables e below (T.setTop (mkF m pc Ls (.int z :: rest))) (T.setFrames fs) := by
  have hm' : T.vm.method? m = some meth := X.method'
  have hn : narrow .int (.int z) = .int z := rfl
  show Steps p.tables e below (T.setTop { method := m, pc := pc, locals := Ls, stack := _ :: rest, locked := none }) _
  jvm_step X.here [X.here.top, hx, hd, hm', hret, hn]
  first | (intro acts; rw [hl _ acts rfl rfl rfl]) | rw [hl _ _ rfl rfl rfl]
  exact Steps.refl _
end New
end Jvm.RoadKit
namespace Jvm.Pilot.@@N@@
open Jvm Jvm.ClassFile Sem Op Lib Jvm.Free Jvm.Stand Jvm.LawKit Jvm.RoadKit Bundle Jvm.Pilot.@@N@@.Jvm.D
theorem own_nat0 (A B D E : Nat) : (A + 4294967296 * (B + D) + 4294967296 * 4294967296 * E) % 18446744073709551616 / 4294967296 = ((A % 18446744073709551616) / 4294967296 + B % 4294967296 + D % 4294967296) % 4294967296 := by
  have h1 : (18446744073709551616 : Nat) = 4294967296 * 4294967296 := by decide
  rw [h1, Nat.mod_mul_right_div_self, Nat.mod_mul_right_div_self]
  have : (A + 4294967296 * (B + D) + 4294967296 * 4294967296 * E) / 4294967296 = A / 4294967296 + B + D + 4294967296 * E := by
    rw [Nat.mul_assoc, Nat.add_mul_div_left _ _ (by decide), Nat.add_mul_div_left _ _ (by decide)]
    omega
  rw [this, Nat.add_mul_mod_self_left]
  simp [Nat.add_mod]
def own_f (q1 : Int64) : Int32 := (((((((q1 &&& (4294967295 : Int64)) * (2135587861 : Int64)).toUInt64 >>> ((32 : Int32) &&& 0x3f).toInt64.toUInt64).toInt64).toInt32) + ((((q1.toUInt64 >>> ((32 : Int32) &&& 0x3f).toInt64.toUInt64).toInt64) * (2135587861 : Int64)).toInt32)) + (((q1 &&& (4294967295 : Int64)) * (2654435769 : Int64)).toInt32))
def own_g (q1 : Int64) : Int32 := ((((q1 * (-7046029254386353131 : Int64)).toUInt64 >>> ((32 : Int32) &&& 0x3f).toInt64.toUInt64).toInt64).toInt32)
theorem own_shr32 (x : Int64) : ((x.toUInt64 >>> ((32 : Int32) &&& 0x3f).toInt64.toUInt64).toInt64).toBitVec.toNat = x.toBitVec.toNat / 4294967296 := by
  have e32 : ((32 : Int32) &&& 0x3f).toInt64.toUInt64 = 32 := by decide +kernel
  rw [e32]
  show (x.toUInt64 >>> 32).toNat = _
  rw [UInt64.toNat_shiftRight]
  show x.toUInt64.toNat >>> 32 = _
  rw [Nat.shiftRight_eq_div_pow]; rfl
theorem own_l2i_nat (x : Int64) : x.toInt32.toBitVec.toNat = x.toBitVec.toNat % 4294967296 := by
  rw [Int64.toBitVec_toInt32, BitVec.signExtend_eq_setWidth_of_le _ (by decide), BitVec.toNat_setWidth]
theorem own_lmul_nat (x y : Int64) : (x * y).toBitVec.toNat = (x.toBitVec.toNat * y.toBitVec.toNat) % 18446744073709551616 := by
  rw [Int64.toBitVec_mul, BitVec.toNat_mul]
theorem own_land_nat (x : Int64) : (x &&& 4294967295).toBitVec.toNat = x.toBitVec.toNat % 4294967296 := by
  rw [Int64.toBitVec_and, BitVec.toNat_and]
  exact Nat.and_two_pow_sub_one_eq_mod _ 32
theorem own_iadd_nat (x y : Int32) : (x + y).toBitVec.toNat = (x.toBitVec.toNat + y.toBitVec.toNat) % 4294967296 := by
  rw [Int32.toBitVec_add, BitVec.toNat_add]
theorem own_nat1 (x cl ch : Nat) : x * (cl + 4294967296 * ch) % 18446744073709551616 / 4294967296 % 4294967296 = (((x % 4294967296 * cl) % 18446744073709551616 / 4294967296 % 4294967296 + x / 4294967296 * cl % 18446744073709551616 % 4294967296) % 4294967296 + x % 4294967296 * ch % 18446744073709551616 % 4294967296) % 4294967296 := by
  have hx : x = x % 4294967296 + 4294967296 * (x / 4294967296) := (Nat.mod_add_div x 4294967296).symm
  have key : x * (cl + 4294967296 * ch) = (x % 4294967296) * cl + 4294967296 * ((x / 4294967296) * cl + (x % 4294967296) * ch) + 4294967296 * 4294967296 * ((x / 4294967296) * ch) := by
    conv => lhs; rw [hx]
    generalize x % 4294967296 = l
    generalize x / 4294967296 = h
    generalize (4294967296 : Nat) = P
    simp only [Nat.mul_add, Nat.mul_left_comm, Nat.mul_comm, Nat.add_assoc, Nat.add_comm, Nat.add_mul, Nat.mul_assoc, Nat.add_left_comm]
  rw [key, own_nat0]
  generalize x % 4294967296 * cl = A
  generalize x / 4294967296 * cl = B
  generalize x % 4294967296 * ch = D
  have m : ∀ n : Nat, n % 18446744073709551616 % 4294967296 = n % 4294967296 := fun n => Nat.mod_mod_of_dvd n (by decide)
  rw [m, m]
  simp [Nat.add_mod]
theorem own_fg (q : Int64) : own_g q = own_f q := by
  apply Int32.toBitVec_inj.mp
  apply BitVec.eq_of_toNat_eq
  unfold own_g own_f
  rw [own_iadd_nat, own_iadd_nat, own_l2i_nat, own_l2i_nat, own_l2i_nat, own_l2i_nat, own_shr32, own_shr32, own_lmul_nat, own_lmul_nat, own_lmul_nat, own_lmul_nat, own_shr32, own_land_nat]
  have c1 : (-7046029254386353131 : Int64).toBitVec.toNat = (2135587861 : Int64).toBitVec.toNat + 4294967296 * (2654435769 : Int64).toBitVec.toNat := by decide +kernel
  rw [c1]
  exact own_nat1 _ _ _
theorem own_pmask_nn (s : Int32) : 0 ≤ ((1 : Int32) <<< ((s &&& (31 : Int32)) &&& 31)) - (1 : Int32) := by
  have h : ∀ k : Fin 32, 0 ≤ ((1 : Int32) <<< ((Int32.ofNat k &&& (31 : Int32)) &&& 31)) - (1 : Int32) := by decide +kernel
  have hk : (s &&& 31).toBitVec.toNat < 32 := by
    rw [Int32.toBitVec_and, BitVec.toNat_and]
    exact Nat.lt_of_le_of_lt Nat.and_le_right (by decide)
  have := h ⟨(s &&& 31).toBitVec.toNat, hk⟩
  have e : Int32.ofNat (s &&& 31).toBitVec.toNat = s &&& 31 := by
    apply Int32.toBitVec_inj.mp
    show BitVec.ofNat 32 _ = _
    exact (BitVec.ofNat_toNat _ _).trans (BitVec.setWidth_eq _)
  rw [show Int32.ofNat ((⟨(s &&& 31).toBitVec.toNat, hk⟩ : Fin 32) : Nat) = s &&& 31 from e] at this
  rw [Int32.and_assoc] at this
  exact this
theorem own_slot (q : Int64) (m : Int32) : own_g q &&& m = own_f q &&& m := by rw [own_fg]
theorem own_notneg (a s : Int32) : ¬ ((a &&& (((1 : Int32) <<< ((s &&& (31 : Int32)) &&& 31)) - (1 : Int32))) < (0 : Int32)) := by
  have h := (Jvm.Kit.i32_and_bounds a (own_pmask_nn s)).1
  rw [Int32.le_iff_toInt_le] at h
  rw [Int32.lt_iff_toInt_lt]
  omega
theorem own_notabove (a s : Int32) : ¬ ((((1 : Int32) <<< ((s &&& (31 : Int32)) &&& 31)) - (1 : Int32)) < (a &&& (((1 : Int32) <<< ((s &&& (31 : Int32)) &&& 31)) - (1 : Int32)))) := by
  have h := (Jvm.Kit.i32_and_bounds a (own_pmask_nn s)).2
  rw [Int32.le_iff_toInt_le] at h
  rw [Int32.lt_iff_toInt_lt]
  omega
theorem d1_0 : decode method_2_code 0 = .ok (.lload_n 0, 1) := by decide +kernel
theorem d1_1 : decode method_2_code 1 = .ok (.ldc2_w 7, 3) := by decide +kernel
theorem d1_4 : decode method_2_code 4 = .ok (.land, 1) := by decide +kernel
theorem d1_5 : decode method_2_code 5 = .ok (.lstore_n 2, 1) := by decide +kernel
theorem d1_6 : decode method_2_code 6 = .ok (.lload_n 0, 1) := by decide +kernel
theorem d1_7 : decode method_2_code 7 = .ok (.bipush 32, 2) := by decide +kernel
theorem d1_9 : decode method_2_code 9 = .ok (.lushr, 1) := by decide +kernel
theorem d1_10 : decode method_2_code 10 = .ok (.lstore 4, 2) := by decide +kernel
theorem d1_12 : decode method_2_code 12 = .ok (.ldc2_w 9, 3) := by decide +kernel
theorem d1_15 : decode method_2_code 15 = .ok (.lstore 6, 2) := by decide +kernel
theorem d1_17 : decode method_2_code 17 = .ok (.ldc2_w 11, 3) := by decide +kernel
theorem d1_20 : decode method_2_code 20 = .ok (.lstore 8, 2) := by decide +kernel
theorem d1_22 : decode method_2_code 22 = .ok (.lload_n 2, 1) := by decide +kernel
theorem d1_23 : decode method_2_code 23 = .ok (.lload 6, 2) := by decide +kernel
theorem d1_25 : decode method_2_code 25 = .ok (.lmul, 1) := by decide +kernel
theorem d1_26 : decode method_2_code 26 = .ok (.bipush 32, 2) := by decide +kernel
theorem d1_28 : decode method_2_code 28 = .ok (.lushr, 1) := by decide +kernel
theorem d1_29 : decode method_2_code 29 = .ok (.l2i, 1) := by decide +kernel
theorem d1_30 : decode method_2_code 30 = .ok (.istore 10, 2) := by decide +kernel
theorem d1_32 : decode method_2_code 32 = .ok (.lload 4, 2) := by decide +kernel
theorem d1_34 : decode method_2_code 34 = .ok (.lload 6, 2) := by decide +kernel
theorem d1_36 : decode method_2_code 36 = .ok (.lmul, 1) := by decide +kernel
theorem d1_37 : decode method_2_code 37 = .ok (.l2i, 1) := by decide +kernel
theorem d1_38 : decode method_2_code 38 = .ok (.istore 11, 2) := by decide +kernel
theorem d1_40 : decode method_2_code 40 = .ok (.lload_n 2, 1) := by decide +kernel
theorem d1_41 : decode method_2_code 41 = .ok (.lload 8, 2) := by decide +kernel
theorem d1_43 : decode method_2_code 43 = .ok (.lmul, 1) := by decide +kernel
theorem d1_44 : decode method_2_code 44 = .ok (.l2i, 1) := by decide +kernel
theorem d1_45 : decode method_2_code 45 = .ok (.istore 12, 2) := by decide +kernel
theorem d1_47 : decode method_2_code 47 = .ok (.iload 10, 2) := by decide +kernel
theorem d1_49 : decode method_2_code 49 = .ok (.iload 11, 2) := by decide +kernel
theorem d1_51 : decode method_2_code 51 = .ok (.iadd, 1) := by decide +kernel
theorem d1_52 : decode method_2_code 52 = .ok (.iload 12, 2) := by decide +kernel
theorem d1_54 : decode method_2_code 54 = .ok (.iadd, 1) := by decide +kernel
theorem d1_55 : decode method_2_code 55 = .ok (.ireturn, 1) := by decide +kernel
theorem pn_1 : plainName "com/example/nested_path/nestedpath/pattern/OpenAddressingSlotPinLaw" = true := by first | (simp [plainName, overriddenIn]; done) | decide +kernel
theorem ef_1 (m : MethodId) (x0 : Int64) : entryFrame m #[(.long x0)] 13 = mkF m 0 #[.val (.long x0), .second, .unset, .unset, .unset, .unset, .unset, .unset, .unset, .unset, .unset, .unset, .unset] [] := by first | (simp [entryFrame, mkF, argsToLocals, Value.category]; done) | rfl
def Q1 (Z : State) (q1 : Int64) (h0 : Heap) (n0 : Nat) (v : Option Value) (h : Heap) (L : List Loc) : Prop := v = some (.int (own_f q1)) ∧ Fr n0 L ∧ h = h0
set_option maxRecDepth 65536 in
set_option maxHeartbeats 40000000 in
theorem rm1 (l : Launch) (Z : State) (a0 : Array Value) (hw : ∀ d ∈ tables_1, d.before a0 Z = true) (ws : List Jvm.Cond) (q1 : Int64) (h0 : Heap) (n0 : Nat) (Z0 : n0 ≤ h0.size) :
    MetFree l (⟨"com/example/nested_path/nestedpath/pattern/OpenAddressingSlotPinLaw", "highHalfOfProduct", "(J)I"⟩ : MethodName) (head1 (Jvm.Cond.code (⟨"com/example/nested_path/nestedpath/pattern/OpenAddressingSlotPinLaw", "highHalfOfProduct", "(J)I"⟩ : MethodName) method_2_code 13 (some .int) :: ws) ({ frames := 0, cells := 0, slots := 0, locals := 0 } : Room)) (fun a U => a = #[(.long q1)] ∧ Z.Warmed39 U.vm ∧ U.heap = h0) (fun _ _ _ _ _ => True) (fun _ U o U' => ∃ v L, o = .returned v ∧ Q1 Z q1 h0 n0 v U'.heap L ∧ FrameEnd U o U' L ({ frames := 0, cells := 0, slots := 0, locals := 0 } : Room).cells ({ frames := 0, cells := 0, slots := 0, locals := 0 } : Room).slots) := by
  refine MetFree.of_bodySF (plainFor_of_name pn_1) hisR ?_
  intro p e s m args below meth c s₁ Bd hml0 hP hK
  obtain ⟨rfl, hZ, hh⟩ := hP
  have hx := Bd.exec
  have hby := Bd.bytes
  have hml : c.maxLocals = 13 := hml0
  have hown : s.vm.findClass "com/example/nested_path/nestedpath/pattern/OpenAddressingSlotPinLaw" = some m.cls := findClass_of_methodNamed Bd.named
  have hnm := (name_of_methodNamed Bd.named Bd.method).1
  have X0 : Stand p l e ({ frames := 0, cells := 0, slots := 0, locals := 0 } : Room) s m #[(.long q1)] below meth c s₁ [] 0 0 := Stand.of_body Bd
  have e0 : s₁.heap = h0 := by rw [← hh, Bd.state]; rfl
  have N0 := Fr.nil n0
  have pre0 : ∀ t, Steps p.tables e below (s₁.setTop (mkF m 0 #[.val (.long q1), .second, .unset, .unset, .unset, .unset, .unset, .unset, .unset, .unset, .unset, .unset, .unset] [])) t → Steps p.tables e below (s₁.setTop (entryFrame m #[(.long q1)] 13)) t := fun t k => castTop (ef_1 m q1) k
  -- 3. LAWS

  obtain ⟨fs, hr, hrun, hended, hW, hsame⟩ := X0.leave (v := some (.int (((((((q1 &&& (4294967295 : Int64)) * (2135587861 : Int64)).toUInt64 >>> ((32 : Int32) &&& 0x3f).toInt64.toUInt64).toInt64).toInt32) + ((((q1.toUInt64 >>> ((32 : Int32) &&& 0x3f).toInt64.toUInt64).toInt64) * (2135587861 : Int64)).toInt32)) + (((q1 &&& (4294967295 : Int64)) * (2654435769 : Int64)).toInt32)))) (fun h => by rw [Bd.returns] at h; cases h)
  refine ⟨_, _, pre0 _ ?_, hrun, hended, _, _, rfl, ?_, ⟨_, rfl⟩, hW, hsame.mono (by decide) (by decide)⟩
  -- 4. STEPS
  · show Steps p.tables e below (s₁.setTop (mkF m 0 #[.val (.long q1), .second, .unset, .unset, .unset, .unset, .unset, .unset, .unset, .unset, .unset, .unset, .unset] [])) _
    refine XS.lloadN X0.here hx rfl (hb hby d1_0) rfl ?_
    show Steps p.tables e below (s₁.setTop (mkF m 1 #[.val (.long q1), .second, .unset, .unset, .unset, .unset, .unset, .unset, .unset, .unset, .unset, .unset, .unset] [(.long q1)])) _
    refine X0.ldc2Long hx hown (mvT hZ (hw _ (List.mem_of_getElem? (i := 4) rfl))) (g := (mkF m 1 #[.val (.long q1), .second, .unset, .unset, .unset, .unset, .unset, .unset, .unset, .unset, .unset, .unset, .unset] [(.long q1)])) rfl (hb hby d1_1) _ ?_
    show Steps p.tables e below (s₁.setTop (mkF m 4 #[.val (.long q1), .second, .unset, .unset, .unset, .unset, .unset, .unset, .unset, .unset, .unset, .unset, .unset] [(.long (4294967295 : Int64)), (.long q1)])) _
    refine XS.land X0.here hx rfl (hb hby d1_4) rfl ?_
    show Steps p.tables e below (s₁.setTop (mkF m 5 #[.val (.long q1), .second, .unset, .unset, .unset, .unset, .unset, .unset, .unset, .unset, .unset, .unset, .unset] [(.long (q1 &&& (4294967295 : Int64)))])) _
    refine XS.lstoreN X0.here hx rfl (hb hby d1_5) rfl (l' := #[.val (.long q1), .second, .val (.long (q1 &&& (4294967295 : Int64))), .second, .unset, .unset, .unset, .unset, .unset, .unset, .unset, .unset, .unset]) rfl ?_
    show Steps p.tables e below (s₁.setTop (mkF m 6 #[.val (.long q1), .second, .val (.long (q1 &&& (4294967295 : Int64))), .second, .unset, .unset, .unset, .unset, .unset, .unset, .unset, .unset, .unset] [])) _
    refine XS.lloadN X0.here hx rfl (hb hby d1_6) rfl ?_
    show Steps p.tables e below (s₁.setTop (mkF m 7 #[.val (.long q1), .second, .val (.long (q1 &&& (4294967295 : Int64))), .second, .unset, .unset, .unset, .unset, .unset, .unset, .unset, .unset, .unset] [(.long q1)])) _
    refine XS.bipush X0.here hx rfl (hb hby d1_7) ?_
    show Steps p.tables e below (s₁.setTop (mkF m 9 #[.val (.long q1), .second, .val (.long (q1 &&& (4294967295 : Int64))), .second, .unset, .unset, .unset, .unset, .unset, .unset, .unset, .unset, .unset] [(.int (32 : Int32)), (.long q1)])) _
    refine XS.lushr X0.here hx rfl (hb hby d1_9) rfl ?_
    show Steps p.tables e below (s₁.setTop (mkF m 10 #[.val (.long q1), .second, .val (.long (q1 &&& (4294967295 : Int64))), .second, .unset, .unset, .unset, .unset, .unset, .unset, .unset, .unset, .unset] [(.long ((q1.toUInt64 >>> ((32 : Int32) &&& 0x3f).toInt64.toUInt64).toInt64))])) _
    refine XS.lstore X0.here hx rfl (hb hby d1_10) rfl (l' := #[.val (.long q1), .second, .val (.long (q1 &&& (4294967295 : Int64))), .second, .val (.long ((q1.toUInt64 >>> ((32 : Int32) &&& 0x3f).toInt64.toUInt64).toInt64)), .second, .unset, .unset, .unset, .unset, .unset, .unset, .unset]) rfl ?_
    show Steps p.tables e below (s₁.setTop (mkF m 12 #[.val (.long q1), .second, .val (.long (q1 &&& (4294967295 : Int64))), .second, .val (.long ((q1.toUInt64 >>> ((32 : Int32) &&& 0x3f).toInt64.toUInt64).toInt64)), .second, .unset, .unset, .unset, .unset, .unset, .unset, .unset] [])) _
    refine X0.ldc2Long hx hown (mvT hZ (hw _ (List.mem_of_getElem? (i := 5) rfl))) (g := (mkF m 12 #[.val (.long q1), .second, .val (.long (q1 &&& (4294967295 : Int64))), .second, .val (.long ((q1.toUInt64 >>> ((32 : Int32) &&& 0x3f).toInt64.toUInt64).toInt64)), .second, .unset, .unset, .unset, .unset, .unset, .unset, .unset] [])) rfl (hb hby d1_12) _ ?_
    show Steps p.tables e below (s₁.setTop (mkF m 15 #[.val (.long q1), .second, .val (.long (q1 &&& (4294967295 : Int64))), .second, .val (.long ((q1.toUInt64 >>> ((32 : Int32) &&& 0x3f).toInt64.toUInt64).toInt64)), .second, .unset, .unset, .unset, .unset, .unset, .unset, .unset] [(.long (2135587861 : Int64))])) _
    refine XS.lstore X0.here hx rfl (hb hby d1_15) rfl (l' := #[.val (.long q1), .second, .val (.long (q1 &&& (4294967295 : Int64))), .second, .val (.long ((q1.toUInt64 >>> ((32 : Int32) &&& 0x3f).toInt64.toUInt64).toInt64)), .second, .val (.long (2135587861 : Int64)), .second, .unset, .unset, .unset, .unset, .unset]) rfl ?_
    show Steps p.tables e below (s₁.setTop (mkF m 17 #[.val (.long q1), .second, .val (.long (q1 &&& (4294967295 : Int64))), .second, .val (.long ((q1.toUInt64 >>> ((32 : Int32) &&& 0x3f).toInt64.toUInt64).toInt64)), .second, .val (.long (2135587861 : Int64)), .second, .unset, .unset, .unset, .unset, .unset] [])) _
    refine X0.ldc2Long hx hown (mvT hZ (hw _ (List.mem_of_getElem? (i := 6) rfl))) (g := (mkF m 17 #[.val (.long q1), .second, .val (.long (q1 &&& (4294967295 : Int64))), .second, .val (.long ((q1.toUInt64 >>> ((32 : Int32) &&& 0x3f).toInt64.toUInt64).toInt64)), .second, .val (.long (2135587861 : Int64)), .second, .unset, .unset, .unset, .unset, .unset] [])) rfl (hb hby d1_17) _ ?_
    show Steps p.tables e below (s₁.setTop (mkF m 20 #[.val (.long q1), .second, .val (.long (q1 &&& (4294967295 : Int64))), .second, .val (.long ((q1.toUInt64 >>> ((32 : Int32) &&& 0x3f).toInt64.toUInt64).toInt64)), .second, .val (.long (2135587861 : Int64)), .second, .unset, .unset, .unset, .unset, .unset] [(.long (2654435769 : Int64))])) _
    refine XS.lstore X0.here hx rfl (hb hby d1_20) rfl (l' := #[.val (.long q1), .second, .val (.long (q1 &&& (4294967295 : Int64))), .second, .val (.long ((q1.toUInt64 >>> ((32 : Int32) &&& 0x3f).toInt64.toUInt64).toInt64)), .second, .val (.long (2135587861 : Int64)), .second, .val (.long (2654435769 : Int64)), .second, .unset, .unset, .unset]) rfl ?_
    show Steps p.tables e below (s₁.setTop (mkF m 22 #[.val (.long q1), .second, .val (.long (q1 &&& (4294967295 : Int64))), .second, .val (.long ((q1.toUInt64 >>> ((32 : Int32) &&& 0x3f).toInt64.toUInt64).toInt64)), .second, .val (.long (2135587861 : Int64)), .second, .val (.long (2654435769 : Int64)), .second, .unset, .unset, .unset] [])) _
    refine XS.lloadN X0.here hx rfl (hb hby d1_22) rfl ?_
    show Steps p.tables e below (s₁.setTop (mkF m 23 #[.val (.long q1), .second, .val (.long (q1 &&& (4294967295 : Int64))), .second, .val (.long ((q1.toUInt64 >>> ((32 : Int32) &&& 0x3f).toInt64.toUInt64).toInt64)), .second, .val (.long (2135587861 : Int64)), .second, .val (.long (2654435769 : Int64)), .second, .unset, .unset, .unset] [(.long (q1 &&& (4294967295 : Int64)))])) _
    refine XS.lload X0.here hx rfl (hb hby d1_23) rfl ?_
    show Steps p.tables e below (s₁.setTop (mkF m 25 #[.val (.long q1), .second, .val (.long (q1 &&& (4294967295 : Int64))), .second, .val (.long ((q1.toUInt64 >>> ((32 : Int32) &&& 0x3f).toInt64.toUInt64).toInt64)), .second, .val (.long (2135587861 : Int64)), .second, .val (.long (2654435769 : Int64)), .second, .unset, .unset, .unset] [(.long (2135587861 : Int64)), (.long (q1 &&& (4294967295 : Int64)))])) _
    refine XS.lmul X0.here hx rfl (hb hby d1_25) rfl ?_
    show Steps p.tables e below (s₁.setTop (mkF m 26 #[.val (.long q1), .second, .val (.long (q1 &&& (4294967295 : Int64))), .second, .val (.long ((q1.toUInt64 >>> ((32 : Int32) &&& 0x3f).toInt64.toUInt64).toInt64)), .second, .val (.long (2135587861 : Int64)), .second, .val (.long (2654435769 : Int64)), .second, .unset, .unset, .unset] [(.long ((q1 &&& (4294967295 : Int64)) * (2135587861 : Int64)))])) _
    refine XS.bipush X0.here hx rfl (hb hby d1_26) ?_
    show Steps p.tables e below (s₁.setTop (mkF m 28 #[.val (.long q1), .second, .val (.long (q1 &&& (4294967295 : Int64))), .second, .val (.long ((q1.toUInt64 >>> ((32 : Int32) &&& 0x3f).toInt64.toUInt64).toInt64)), .second, .val (.long (2135587861 : Int64)), .second, .val (.long (2654435769 : Int64)), .second, .unset, .unset, .unset] [(.int (32 : Int32)), (.long ((q1 &&& (4294967295 : Int64)) * (2135587861 : Int64)))])) _
    refine XS.lushr X0.here hx rfl (hb hby d1_28) rfl ?_
    show Steps p.tables e below (s₁.setTop (mkF m 29 #[.val (.long q1), .second, .val (.long (q1 &&& (4294967295 : Int64))), .second, .val (.long ((q1.toUInt64 >>> ((32 : Int32) &&& 0x3f).toInt64.toUInt64).toInt64)), .second, .val (.long (2135587861 : Int64)), .second, .val (.long (2654435769 : Int64)), .second, .unset, .unset, .unset] [(.long ((((q1 &&& (4294967295 : Int64)) * (2135587861 : Int64)).toUInt64 >>> ((32 : Int32) &&& 0x3f).toInt64.toUInt64).toInt64))])) _
    refine XS.l2i X0.here hx rfl (hb hby d1_29) rfl ?_
    show Steps p.tables e below (s₁.setTop (mkF m 30 #[.val (.long q1), .second, .val (.long (q1 &&& (4294967295 : Int64))), .second, .val (.long ((q1.toUInt64 >>> ((32 : Int32) &&& 0x3f).toInt64.toUInt64).toInt64)), .second, .val (.long (2135587861 : Int64)), .second, .val (.long (2654435769 : Int64)), .second, .unset, .unset, .unset] [(.int (((((q1 &&& (4294967295 : Int64)) * (2135587861 : Int64)).toUInt64 >>> ((32 : Int32) &&& 0x3f).toInt64.toUInt64).toInt64).toInt32))])) _
    refine XS.istore X0.here hx rfl (hb hby d1_30) rfl (l' := #[.val (.long q1), .second, .val (.long (q1 &&& (4294967295 : Int64))), .second, .val (.long ((q1.toUInt64 >>> ((32 : Int32) &&& 0x3f).toInt64.toUInt64).toInt64)), .second, .val (.long (2135587861 : Int64)), .second, .val (.long (2654435769 : Int64)), .second, .val (.int (((((q1 &&& (4294967295 : Int64)) * (2135587861 : Int64)).toUInt64 >>> ((32 : Int32) &&& 0x3f).toInt64.toUInt64).toInt64).toInt32)), .unset, .unset]) rfl ?_
    show Steps p.tables e below (s₁.setTop (mkF m 32 #[.val (.long q1), .second, .val (.long (q1 &&& (4294967295 : Int64))), .second, .val (.long ((q1.toUInt64 >>> ((32 : Int32) &&& 0x3f).toInt64.toUInt64).toInt64)), .second, .val (.long (2135587861 : Int64)), .second, .val (.long (2654435769 : Int64)), .second, .val (.int (((((q1 &&& (4294967295 : Int64)) * (2135587861 : Int64)).toUInt64 >>> ((32 : Int32) &&& 0x3f).toInt64.toUInt64).toInt64).toInt32)), .unset, .unset] [])) _
    refine XS.lload X0.here hx rfl (hb hby d1_32) rfl ?_
    show Steps p.tables e below (s₁.setTop (mkF m 34 #[.val (.long q1), .second, .val (.long (q1 &&& (4294967295 : Int64))), .second, .val (.long ((q1.toUInt64 >>> ((32 : Int32) &&& 0x3f).toInt64.toUInt64).toInt64)), .second, .val (.long (2135587861 : Int64)), .second, .val (.long (2654435769 : Int64)), .second, .val (.int (((((q1 &&& (4294967295 : Int64)) * (2135587861 : Int64)).toUInt64 >>> ((32 : Int32) &&& 0x3f).toInt64.toUInt64).toInt64).toInt32)), .unset, .unset] [(.long ((q1.toUInt64 >>> ((32 : Int32) &&& 0x3f).toInt64.toUInt64).toInt64))])) _
    refine XS.lload X0.here hx rfl (hb hby d1_34) rfl ?_
    show Steps p.tables e below (s₁.setTop (mkF m 36 #[.val (.long q1), .second, .val (.long (q1 &&& (4294967295 : Int64))), .second, .val (.long ((q1.toUInt64 >>> ((32 : Int32) &&& 0x3f).toInt64.toUInt64).toInt64)), .second, .val (.long (2135587861 : Int64)), .second, .val (.long (2654435769 : Int64)), .second, .val (.int (((((q1 &&& (4294967295 : Int64)) * (2135587861 : Int64)).toUInt64 >>> ((32 : Int32) &&& 0x3f).toInt64.toUInt64).toInt64).toInt32)), .unset, .unset] [(.long (2135587861 : Int64)), (.long ((q1.toUInt64 >>> ((32 : Int32) &&& 0x3f).toInt64.toUInt64).toInt64))])) _
    refine XS.lmul X0.here hx rfl (hb hby d1_36) rfl ?_
    show Steps p.tables e below (s₁.setTop (mkF m 37 #[.val (.long q1), .second, .val (.long (q1 &&& (4294967295 : Int64))), .second, .val (.long ((q1.toUInt64 >>> ((32 : Int32) &&& 0x3f).toInt64.toUInt64).toInt64)), .second, .val (.long (2135587861 : Int64)), .second, .val (.long (2654435769 : Int64)), .second, .val (.int (((((q1 &&& (4294967295 : Int64)) * (2135587861 : Int64)).toUInt64 >>> ((32 : Int32) &&& 0x3f).toInt64.toUInt64).toInt64).toInt32)), .unset, .unset] [(.long (((q1.toUInt64 >>> ((32 : Int32) &&& 0x3f).toInt64.toUInt64).toInt64) * (2135587861 : Int64)))])) _
    refine XS.l2i X0.here hx rfl (hb hby d1_37) rfl ?_
    show Steps p.tables e below (s₁.setTop (mkF m 38 #[.val (.long q1), .second, .val (.long (q1 &&& (4294967295 : Int64))), .second, .val (.long ((q1.toUInt64 >>> ((32 : Int32) &&& 0x3f).toInt64.toUInt64).toInt64)), .second, .val (.long (2135587861 : Int64)), .second, .val (.long (2654435769 : Int64)), .second, .val (.int (((((q1 &&& (4294967295 : Int64)) * (2135587861 : Int64)).toUInt64 >>> ((32 : Int32) &&& 0x3f).toInt64.toUInt64).toInt64).toInt32)), .unset, .unset] [(.int ((((q1.toUInt64 >>> ((32 : Int32) &&& 0x3f).toInt64.toUInt64).toInt64) * (2135587861 : Int64)).toInt32))])) _
    refine XS.istore X0.here hx rfl (hb hby d1_38) rfl (l' := #[.val (.long q1), .second, .val (.long (q1 &&& (4294967295 : Int64))), .second, .val (.long ((q1.toUInt64 >>> ((32 : Int32) &&& 0x3f).toInt64.toUInt64).toInt64)), .second, .val (.long (2135587861 : Int64)), .second, .val (.long (2654435769 : Int64)), .second, .val (.int (((((q1 &&& (4294967295 : Int64)) * (2135587861 : Int64)).toUInt64 >>> ((32 : Int32) &&& 0x3f).toInt64.toUInt64).toInt64).toInt32)), .val (.int ((((q1.toUInt64 >>> ((32 : Int32) &&& 0x3f).toInt64.toUInt64).toInt64) * (2135587861 : Int64)).toInt32)), .unset]) rfl ?_
    show Steps p.tables e below (s₁.setTop (mkF m 40 #[.val (.long q1), .second, .val (.long (q1 &&& (4294967295 : Int64))), .second, .val (.long ((q1.toUInt64 >>> ((32 : Int32) &&& 0x3f).toInt64.toUInt64).toInt64)), .second, .val (.long (2135587861 : Int64)), .second, .val (.long (2654435769 : Int64)), .second, .val (.int (((((q1 &&& (4294967295 : Int64)) * (2135587861 : Int64)).toUInt64 >>> ((32 : Int32) &&& 0x3f).toInt64.toUInt64).toInt64).toInt32)), .val (.int ((((q1.toUInt64 >>> ((32 : Int32) &&& 0x3f).toInt64.toUInt64).toInt64) * (2135587861 : Int64)).toInt32)), .unset] [])) _
    refine XS.lloadN X0.here hx rfl (hb hby d1_40) rfl ?_
    show Steps p.tables e below (s₁.setTop (mkF m 41 #[.val (.long q1), .second, .val (.long (q1 &&& (4294967295 : Int64))), .second, .val (.long ((q1.toUInt64 >>> ((32 : Int32) &&& 0x3f).toInt64.toUInt64).toInt64)), .second, .val (.long (2135587861 : Int64)), .second, .val (.long (2654435769 : Int64)), .second, .val (.int (((((q1 &&& (4294967295 : Int64)) * (2135587861 : Int64)).toUInt64 >>> ((32 : Int32) &&& 0x3f).toInt64.toUInt64).toInt64).toInt32)), .val (.int ((((q1.toUInt64 >>> ((32 : Int32) &&& 0x3f).toInt64.toUInt64).toInt64) * (2135587861 : Int64)).toInt32)), .unset] [(.long (q1 &&& (4294967295 : Int64)))])) _
    refine XS.lload X0.here hx rfl (hb hby d1_41) rfl ?_
    show Steps p.tables e below (s₁.setTop (mkF m 43 #[.val (.long q1), .second, .val (.long (q1 &&& (4294967295 : Int64))), .second, .val (.long ((q1.toUInt64 >>> ((32 : Int32) &&& 0x3f).toInt64.toUInt64).toInt64)), .second, .val (.long (2135587861 : Int64)), .second, .val (.long (2654435769 : Int64)), .second, .val (.int (((((q1 &&& (4294967295 : Int64)) * (2135587861 : Int64)).toUInt64 >>> ((32 : Int32) &&& 0x3f).toInt64.toUInt64).toInt64).toInt32)), .val (.int ((((q1.toUInt64 >>> ((32 : Int32) &&& 0x3f).toInt64.toUInt64).toInt64) * (2135587861 : Int64)).toInt32)), .unset] [(.long (2654435769 : Int64)), (.long (q1 &&& (4294967295 : Int64)))])) _
    refine XS.lmul X0.here hx rfl (hb hby d1_43) rfl ?_
    show Steps p.tables e below (s₁.setTop (mkF m 44 #[.val (.long q1), .second, .val (.long (q1 &&& (4294967295 : Int64))), .second, .val (.long ((q1.toUInt64 >>> ((32 : Int32) &&& 0x3f).toInt64.toUInt64).toInt64)), .second, .val (.long (2135587861 : Int64)), .second, .val (.long (2654435769 : Int64)), .second, .val (.int (((((q1 &&& (4294967295 : Int64)) * (2135587861 : Int64)).toUInt64 >>> ((32 : Int32) &&& 0x3f).toInt64.toUInt64).toInt64).toInt32)), .val (.int ((((q1.toUInt64 >>> ((32 : Int32) &&& 0x3f).toInt64.toUInt64).toInt64) * (2135587861 : Int64)).toInt32)), .unset] [(.long ((q1 &&& (4294967295 : Int64)) * (2654435769 : Int64)))])) _
    refine XS.l2i X0.here hx rfl (hb hby d1_44) rfl ?_
    show Steps p.tables e below (s₁.setTop (mkF m 45 #[.val (.long q1), .second, .val (.long (q1 &&& (4294967295 : Int64))), .second, .val (.long ((q1.toUInt64 >>> ((32 : Int32) &&& 0x3f).toInt64.toUInt64).toInt64)), .second, .val (.long (2135587861 : Int64)), .second, .val (.long (2654435769 : Int64)), .second, .val (.int (((((q1 &&& (4294967295 : Int64)) * (2135587861 : Int64)).toUInt64 >>> ((32 : Int32) &&& 0x3f).toInt64.toUInt64).toInt64).toInt32)), .val (.int ((((q1.toUInt64 >>> ((32 : Int32) &&& 0x3f).toInt64.toUInt64).toInt64) * (2135587861 : Int64)).toInt32)), .unset] [(.int (((q1 &&& (4294967295 : Int64)) * (2654435769 : Int64)).toInt32))])) _
    refine XS.istore X0.here hx rfl (hb hby d1_45) rfl (l' := #[.val (.long q1), .second, .val (.long (q1 &&& (4294967295 : Int64))), .second, .val (.long ((q1.toUInt64 >>> ((32 : Int32) &&& 0x3f).toInt64.toUInt64).toInt64)), .second, .val (.long (2135587861 : Int64)), .second, .val (.long (2654435769 : Int64)), .second, .val (.int (((((q1 &&& (4294967295 : Int64)) * (2135587861 : Int64)).toUInt64 >>> ((32 : Int32) &&& 0x3f).toInt64.toUInt64).toInt64).toInt32)), .val (.int ((((q1.toUInt64 >>> ((32 : Int32) &&& 0x3f).toInt64.toUInt64).toInt64) * (2135587861 : Int64)).toInt32)), .val (.int (((q1 &&& (4294967295 : Int64)) * (2654435769 : Int64)).toInt32))]) rfl ?_
    show Steps p.tables e below (s₁.setTop (mkF m 47 #[.val (.long q1), .second, .val (.long (q1 &&& (4294967295 : Int64))), .second, .val (.long ((q1.toUInt64 >>> ((32 : Int32) &&& 0x3f).toInt64.toUInt64).toInt64)), .second, .val (.long (2135587861 : Int64)), .second, .val (.long (2654435769 : Int64)), .second, .val (.int (((((q1 &&& (4294967295 : Int64)) * (2135587861 : Int64)).toUInt64 >>> ((32 : Int32) &&& 0x3f).toInt64.toUInt64).toInt64).toInt32)), .val (.int ((((q1.toUInt64 >>> ((32 : Int32) &&& 0x3f).toInt64.toUInt64).toInt64) * (2135587861 : Int64)).toInt32)), .val (.int (((q1 &&& (4294967295 : Int64)) * (2654435769 : Int64)).toInt32))] [])) _
    refine XS.iload X0.here hx rfl (hb hby d1_47) rfl ?_
    show Steps p.tables e below (s₁.setTop (mkF m 49 #[.val (.long q1), .second, .val (.long (q1 &&& (4294967295 : Int64))), .second, .val (.long ((q1.toUInt64 >>> ((32 : Int32) &&& 0x3f).toInt64.toUInt64).toInt64)), .second, .val (.long (2135587861 : Int64)), .second, .val (.long (2654435769 : Int64)), .second, .val (.int (((((q1 &&& (4294967295 : Int64)) * (2135587861 : Int64)).toUInt64 >>> ((32 : Int32) &&& 0x3f).toInt64.toUInt64).toInt64).toInt32)), .val (.int ((((q1.toUInt64 >>> ((32 : Int32) &&& 0x3f).toInt64.toUInt64).toInt64) * (2135587861 : Int64)).toInt32)), .val (.int (((q1 &&& (4294967295 : Int64)) * (2654435769 : Int64)).toInt32))] [(.int (((((q1 &&& (4294967295 : Int64)) * (2135587861 : Int64)).toUInt64 >>> ((32 : Int32) &&& 0x3f).toInt64.toUInt64).toInt64).toInt32))])) _
    refine XS.iload X0.here hx rfl (hb hby d1_49) rfl ?_
    show Steps p.tables e below (s₁.setTop (mkF m 51 #[.val (.long q1), .second, .val (.long (q1 &&& (4294967295 : Int64))), .second, .val (.long ((q1.toUInt64 >>> ((32 : Int32) &&& 0x3f).toInt64.toUInt64).toInt64)), .second, .val (.long (2135587861 : Int64)), .second, .val (.long (2654435769 : Int64)), .second, .val (.int (((((q1 &&& (4294967295 : Int64)) * (2135587861 : Int64)).toUInt64 >>> ((32 : Int32) &&& 0x3f).toInt64.toUInt64).toInt64).toInt32)), .val (.int ((((q1.toUInt64 >>> ((32 : Int32) &&& 0x3f).toInt64.toUInt64).toInt64) * (2135587861 : Int64)).toInt32)), .val (.int (((q1 &&& (4294967295 : Int64)) * (2654435769 : Int64)).toInt32))] [(.int ((((q1.toUInt64 >>> ((32 : Int32) &&& 0x3f).toInt64.toUInt64).toInt64) * (2135587861 : Int64)).toInt32)), (.int (((((q1 &&& (4294967295 : Int64)) * (2135587861 : Int64)).toUInt64 >>> ((32 : Int32) &&& 0x3f).toInt64.toUInt64).toInt64).toInt32))])) _
    refine XS.iadd X0.here hx rfl (hb hby d1_51) rfl ?_
    show Steps p.tables e below (s₁.setTop (mkF m 52 #[.val (.long q1), .second, .val (.long (q1 &&& (4294967295 : Int64))), .second, .val (.long ((q1.toUInt64 >>> ((32 : Int32) &&& 0x3f).toInt64.toUInt64).toInt64)), .second, .val (.long (2135587861 : Int64)), .second, .val (.long (2654435769 : Int64)), .second, .val (.int (((((q1 &&& (4294967295 : Int64)) * (2135587861 : Int64)).toUInt64 >>> ((32 : Int32) &&& 0x3f).toInt64.toUInt64).toInt64).toInt32)), .val (.int ((((q1.toUInt64 >>> ((32 : Int32) &&& 0x3f).toInt64.toUInt64).toInt64) * (2135587861 : Int64)).toInt32)), .val (.int (((q1 &&& (4294967295 : Int64)) * (2654435769 : Int64)).toInt32))] [(.int ((((((q1 &&& (4294967295 : Int64)) * (2135587861 : Int64)).toUInt64 >>> ((32 : Int32) &&& 0x3f).toInt64.toUInt64).toInt64).toInt32) + ((((q1.toUInt64 >>> ((32 : Int32) &&& 0x3f).toInt64.toUInt64).toInt64) * (2135587861 : Int64)).toInt32)))])) _
    refine XS.iload X0.here hx rfl (hb hby d1_52) rfl ?_
    show Steps p.tables e below (s₁.setTop (mkF m 54 #[.val (.long q1), .second, .val (.long (q1 &&& (4294967295 : Int64))), .second, .val (.long ((q1.toUInt64 >>> ((32 : Int32) &&& 0x3f).toInt64.toUInt64).toInt64)), .second, .val (.long (2135587861 : Int64)), .second, .val (.long (2654435769 : Int64)), .second, .val (.int (((((q1 &&& (4294967295 : Int64)) * (2135587861 : Int64)).toUInt64 >>> ((32 : Int32) &&& 0x3f).toInt64.toUInt64).toInt64).toInt32)), .val (.int ((((q1.toUInt64 >>> ((32 : Int32) &&& 0x3f).toInt64.toUInt64).toInt64) * (2135587861 : Int64)).toInt32)), .val (.int (((q1 &&& (4294967295 : Int64)) * (2654435769 : Int64)).toInt32))] [(.int (((q1 &&& (4294967295 : Int64)) * (2654435769 : Int64)).toInt32)), (.int ((((((q1 &&& (4294967295 : Int64)) * (2135587861 : Int64)).toUInt64 >>> ((32 : Int32) &&& 0x3f).toInt64.toUInt64).toInt64).toInt32) + ((((q1.toUInt64 >>> ((32 : Int32) &&& 0x3f).toInt64.toUInt64).toInt64) * (2135587861 : Int64)).toInt32)))])) _
    refine XS.iadd X0.here hx rfl (hb hby d1_54) rfl ?_
    show Steps p.tables e below (s₁.setTop (mkF m 55 #[.val (.long q1), .second, .val (.long (q1 &&& (4294967295 : Int64))), .second, .val (.long ((q1.toUInt64 >>> ((32 : Int32) &&& 0x3f).toInt64.toUInt64).toInt64)), .second, .val (.long (2135587861 : Int64)), .second, .val (.long (2654435769 : Int64)), .second, .val (.int (((((q1 &&& (4294967295 : Int64)) * (2135587861 : Int64)).toUInt64 >>> ((32 : Int32) &&& 0x3f).toInt64.toUInt64).toInt64).toInt32)), .val (.int ((((q1.toUInt64 >>> ((32 : Int32) &&& 0x3f).toInt64.toUInt64).toInt64) * (2135587861 : Int64)).toInt32)), .val (.int (((q1 &&& (4294967295 : Int64)) * (2654435769 : Int64)).toInt32))] [(.int (((((((q1 &&& (4294967295 : Int64)) * (2135587861 : Int64)).toUInt64 >>> ((32 : Int32) &&& 0x3f).toInt64.toUInt64).toInt64).toInt32) + ((((q1.toUInt64 >>> ((32 : Int32) &&& 0x3f).toInt64.toUInt64).toInt64) * (2135587861 : Int64)).toInt32)) + (((q1 &&& (4294967295 : Int64)) * (2654435769 : Int64)).toInt32)))])) _
    exact retI X0 hx Bd.returns (hb hby d1_55) hr      -- retI stands in the head ('lawwalk <made dir>' prints it)
  · show Q1 Z q1 h0 n0 _ s₁.heap _
    rw [e0]
    exact ⟨rfl, N0, rfl⟩
theorem d2_0 : decode prog_51_method_2_code 0 = .ok (.lload_n 0, 1) := by decide +kernel
theorem d2_1 : decode prog_51_method_2_code 1 = .ok (.ldc2_w 7, 3) := by decide +kernel
theorem d2_4 : decode prog_51_method_2_code 4 = .ok (.lmul, 1) := by decide +kernel
theorem d2_5 : decode prog_51_method_2_code 5 = .ok (.bipush 32, 2) := by decide +kernel
theorem d2_7 : decode prog_51_method_2_code 7 = .ok (.lushr, 1) := by decide +kernel
theorem d2_8 : decode prog_51_method_2_code 8 = .ok (.l2i, 1) := by decide +kernel
theorem d2_9 : decode prog_51_method_2_code 9 = .ok (.iload_n 2, 1) := by decide +kernel
theorem d2_10 : decode prog_51_method_2_code 10 = .ok (.iand, 1) := by decide +kernel
theorem d2_11 : decode prog_51_method_2_code 11 = .ok (.ireturn, 1) := by decide +kernel
theorem pn_2 : plainName "com/example/nested_path/nestedpath/pattern/OpenAddressing" = true := by first | (simp [plainName, overriddenIn]; done) | decide +kernel
theorem ef_2 (m : MethodId) (x0 : Int64) (x1 : Int32) : entryFrame m #[(.long x0), (.int x1)] 3 = mkF m 0 #[.val (.long x0), .second, .val (.int x1)] [] := by first | (simp [entryFrame, mkF, argsToLocals, Value.category]; done) | rfl
def Q2 (Z : State) (q1 : Int64) (p2 : Int32) (h0 : Heap) (n0 : Nat) (v : Option Value) (h : Heap) (L : List Loc) : Prop := v = some (.int (own_g q1 &&& p2)) ∧ Fr n0 L ∧ h = h0
set_option maxRecDepth 65536 in
set_option maxHeartbeats 40000000 in
theorem rm2 (l : Launch) (Z : State) (a0 : Array Value) (hw : ∀ d ∈ tables_1, d.before a0 Z = true) (ws : List Jvm.Cond) (q1 : Int64) (p2 : Int32) (h0 : Heap) (n0 : Nat) (Z0 : n0 ≤ h0.size) :
    MetFree l (⟨"com/example/nested_path/nestedpath/pattern/OpenAddressing", "slot", "(JI)I"⟩ : MethodName) (head1 (Jvm.Cond.code (⟨"com/example/nested_path/nestedpath/pattern/OpenAddressing", "slot", "(JI)I"⟩ : MethodName) prog_51_method_2_code 3 (some .int) :: ws) ({ frames := 0, cells := 0, slots := 0, locals := 0 } : Room)) (fun a U => a = #[(.long q1), (.int p2)] ∧ Z.Warmed39 U.vm ∧ U.heap = h0) (fun _ _ _ _ _ => True) (fun _ U o U' => ∃ v L, o = .returned v ∧ Q2 Z q1 p2 h0 n0 v U'.heap L ∧ FrameEnd U o U' L ({ frames := 0, cells := 0, slots := 0, locals := 0 } : Room).cells ({ frames := 0, cells := 0, slots := 0, locals := 0 } : Room).slots) := by
  refine MetFree.of_bodySF (plainFor_of_name pn_2) hisR ?_
  intro p e s m args below meth c s₁ Bd hml0 hP hK
  obtain ⟨rfl, hZ, hh⟩ := hP
  have hx := Bd.exec
  have hby := Bd.bytes
  have hml : c.maxLocals = 3 := hml0
  have hown : s.vm.findClass "com/example/nested_path/nestedpath/pattern/OpenAddressing" = some m.cls := findClass_of_methodNamed Bd.named
  have hnm := (name_of_methodNamed Bd.named Bd.method).1
  have X0 : Stand p l e ({ frames := 0, cells := 0, slots := 0, locals := 0 } : Room) s m #[(.long q1), (.int p2)] below meth c s₁ [] 0 0 := Stand.of_body Bd
  have e0 : s₁.heap = h0 := by rw [← hh, Bd.state]; rfl
  have N0 := Fr.nil n0
  have pre0 : ∀ t, Steps p.tables e below (s₁.setTop (mkF m 0 #[.val (.long q1), .second, .val (.int p2)] [])) t → Steps p.tables e below (s₁.setTop (entryFrame m #[(.long q1), (.int p2)] 3)) t := fun t k => castTop (ef_2 m q1 p2) k
  -- 3. LAWS

  obtain ⟨fs, hr, hrun, hended, hW, hsame⟩ := X0.leave (v := some (.int (((((q1 * (-7046029254386353131 : Int64)).toUInt64 >>> ((32 : Int32) &&& 0x3f).toInt64.toUInt64).toInt64).toInt32) &&& p2))) (fun h => by rw [Bd.returns] at h; cases h)
  refine ⟨_, _, pre0 _ ?_, hrun, hended, _, _, rfl, ?_, ⟨_, rfl⟩, hW, hsame.mono (by decide) (by decide)⟩
  -- 4. STEPS
  · show Steps p.tables e below (s₁.setTop (mkF m 0 #[.val (.long q1), .second, .val (.int p2)] [])) _
    refine XS.lloadN X0.here hx rfl (hb hby d2_0) rfl ?_
    show Steps p.tables e below (s₁.setTop (mkF m 1 #[.val (.long q1), .second, .val (.int p2)] [(.long q1)])) _
    refine X0.ldc2Long hx hown (mvT hZ (hw _ (List.mem_of_getElem? (i := 11) rfl))) (g := (mkF m 1 #[.val (.long q1), .second, .val (.int p2)] [(.long q1)])) rfl (hb hby d2_1) _ ?_
    show Steps p.tables e below (s₁.setTop (mkF m 4 #[.val (.long q1), .second, .val (.int p2)] [(.long (-7046029254386353131 : Int64)), (.long q1)])) _
    refine XS.lmul X0.here hx rfl (hb hby d2_4) rfl ?_
    show Steps p.tables e below (s₁.setTop (mkF m 5 #[.val (.long q1), .second, .val (.int p2)] [(.long (q1 * (-7046029254386353131 : Int64)))])) _
    refine XS.bipush X0.here hx rfl (hb hby d2_5) ?_
    show Steps p.tables e below (s₁.setTop (mkF m 7 #[.val (.long q1), .second, .val (.int p2)] [(.int (32 : Int32)), (.long (q1 * (-7046029254386353131 : Int64)))])) _
    refine XS.lushr X0.here hx rfl (hb hby d2_7) rfl ?_
    show Steps p.tables e below (s₁.setTop (mkF m 8 #[.val (.long q1), .second, .val (.int p2)] [(.long (((q1 * (-7046029254386353131 : Int64)).toUInt64 >>> ((32 : Int32) &&& 0x3f).toInt64.toUInt64).toInt64))])) _
    refine XS.l2i X0.here hx rfl (hb hby d2_8) rfl ?_
    show Steps p.tables e below (s₁.setTop (mkF m 9 #[.val (.long q1), .second, .val (.int p2)] [(.int ((((q1 * (-7046029254386353131 : Int64)).toUInt64 >>> ((32 : Int32) &&& 0x3f).toInt64.toUInt64).toInt64).toInt32))])) _
    refine XS.iloadN X0.here hx rfl (hb hby d2_9) rfl ?_
    show Steps p.tables e below (s₁.setTop (mkF m 10 #[.val (.long q1), .second, .val (.int p2)] [(.int p2), (.int ((((q1 * (-7046029254386353131 : Int64)).toUInt64 >>> ((32 : Int32) &&& 0x3f).toInt64.toUInt64).toInt64).toInt32))])) _
    refine XS.iand X0.here hx rfl (hb hby d2_10) rfl ?_
    show Steps p.tables e below (s₁.setTop (mkF m 11 #[.val (.long q1), .second, .val (.int p2)] [(.int (((((q1 * (-7046029254386353131 : Int64)).toUInt64 >>> ((32 : Int32) &&& 0x3f).toInt64.toUInt64).toInt64).toInt32) &&& p2))])) _
    exact retI X0 hx Bd.returns (hb hby d2_11) hr      -- retI stands in the head ('lawwalk <made dir>' prints it)
  · show Q2 Z q1 p2 h0 n0 _ s₁.heap _
    rw [e0]
    exact ⟨rfl, N0, rfl⟩
theorem pn_0 : plainName "com/example/nested_path/nestedpath/pattern/OpenAddressingSlotPinLaw" = true := by first | (simp [plainName, overriddenIn]; done) | decide +kernel
theorem pdw_0 : parseMethodDescriptor "(J)I" = some ⟨[.long], some .int⟩ := by decide +kernel
theorem pdw_1 : parseMethodDescriptor "(JI)I" = some ⟨[.long, .int], some .int⟩ := by decide +kernel
theorem ef_0 (m : MethodId) (x0 : Int64) (x1 : Int32) (x2 : Int32) : entryFrame m #[(.long x0), (.int x1), (.int x2)] maxLocals = mkF m 0 #[.val (.long x0), .second, .val (.int x1), .val (.int x2), .unset, .unset, .unset, .unset] [] := by first | (simp [entryFrame, mkF, argsToLocals, Value.category, maxLocals]; done) | rfl
def Q0 (Z : State) (q1 : Int64) (p2 : Int32) (p3 : Int32) (h0 : Heap) (n0 : Nat) (v : Option Value) (h : Heap) (L : List Loc) : Prop := v = some (.int (1 : Int32)) ∧ Fr n0 L
set_option maxRecDepth 65536 in
set_option maxHeartbeats 40000000 in
theorem rm0 (l : Launch) (Z : State) (a0 : Array Value) (hw : ∀ d ∈ tables_1, d.before a0 Z = true) (ws : List Jvm.Cond) (q1 : Int64) (p2 : Int32) (p3 : Int32) (h0 : Heap) (n0 : Nat) (Z0 : n0 ≤ h0.size) :
    MetFree l x (head1 (Jvm.Cond.code x code maxLocals ret :: ws) room_1) (fun a U => a = #[(.long q1), (.int p2), (.int p3)] ∧ Z.Warmed39 U.vm ∧ U.heap = h0) (fun _ _ _ _ _ => True) (fun _ U o U' => ∃ v L, o = .returned v ∧ Q0 Z q1 p2 p3 h0 n0 v U'.heap L ∧ FrameEnd U o U' L room_1.cells room_1.slots) := by
  refine MetFree.of_bodySF (plainFor_of_name pn_0) hisR ?_
  intro p e s m args below meth c s₁ Bd hml0 hP hK
  obtain ⟨rfl, hZ, hh⟩ := hP
  have hx := Bd.exec
  have hby := Bd.bytes
  have hml : c.maxLocals = 8 := hml0
  have hown : s.vm.findClass "com/example/nested_path/nestedpath/pattern/OpenAddressingSlotPinLaw" = some m.cls := findClass_of_methodNamed Bd.named
  have hnm := (name_of_methodNamed Bd.named Bd.method).1
  have X0 : Stand p l e room_1 s m #[(.long q1), (.int p2), (.int p3)] below meth c s₁ [] 0 0 := Stand.of_body Bd
  have e0 : s₁.heap = h0 := by rw [← hh, Bd.state]; rfl
  have N0 := Fr.nil n0
  have pre0 : ∀ t, Steps p.tables e below (s₁.setTop (mkF m 0 #[.val (.long q1), .second, .val (.int p2), .val (.int p3), .unset, .unset, .unset, .unset] [])) t → Steps p.tables e below (s₁.setTop (entryFrame m #[(.long q1), (.int p2), (.int p3)] maxLocals)) t := fun t k => castTop (ef_0 m q1 p2 p3) k
  -- 3. LAWS
  -- pc 1: com/example/nested_path/nestedpath/pattern/OpenAddressingSlotPinLaw.highHalfOfProduct by its contract rm1
  obtain ⟨_, _, ⟨T4, L4, k4, n4⟩, -, X4, ⟨Lc4, hQ4, l4, y4, z4⟩, st4⟩ := Jvm.LawKit.callS X0 hx (y := (⟨"com/example/nested_path/nestedpath/pattern/OpenAddressingSlotPinLaw", "highHalfOfProduct", "(J)I"⟩ : MethodName)) hown (mvT hZ (hw _ (List.mem_of_getElem? (i := 0) rfl))) (mvT hZ (hw _ (List.mem_of_getElem? (i := 1) rfl))) (mvT hZ (hw _ (List.mem_of_getElem? (i := 2) rfl))) (mvT hZ (hw _ (List.mem_of_getElem? (i := 3) rfl))) (by decide) (backOf (W := 0) (rm1 l Z a0 hw [] q1  h0 n0 Z0 ) hZ (hw _ (List.mem_of_getElem? (i := 3) rfl)) (hw _ (List.mem_of_getElem? (i := 2) rfl)) (by decide) (by decide)) (g := (mkF m 1 #[.val (.long q1), .second, .val (.int p2), .val (.int p3), .unset, .unset, .unset, .unset] [(.long q1)])) rfl (by rw [hml]; rfl) (argsL := [(.long q1)]) (rest := []) (lenOf pdw_0 rfl) rfl (by show 2 * 0 + _ ≤ _; exact Nat.le_of_eq rfl) (hb hby at_1) (fun _ _ => ⟨rfl, e0, (by decide : 0 + 0 ≤ _), (by decide : 0 + 0 ≤ _)⟩)
  dsimp only [Pt.U, Pt.locs, Pt.cells, Pt.slots] at X4 l4 y4 z4 st4 hQ4
  subst l4 y4 z4
  obtain ⟨rfl, N4q, hh4⟩ := hQ4
  have Zh4 : n0 ≤ T4.heap.size := by rw [hh4]; assumption
  have N4 := Fr.app N0 N4q
  -- pc 8: com/example/nested_path/nestedpath/pattern/OpenAddressing.slot by its contract rm2
  obtain ⟨_, _, ⟨T5, L5, k5, n5⟩, -, X5, ⟨Lc5, hQ5, l5, y5, z5⟩, st5⟩ := Jvm.LawKit.callS X4 hx (y := (⟨"com/example/nested_path/nestedpath/pattern/OpenAddressing", "slot", "(JI)I"⟩ : MethodName)) hown (mvT hZ (hw _ (List.mem_of_getElem? (i := 7) rfl))) (mvT hZ (hw _ (List.mem_of_getElem? (i := 8) rfl))) (mvT hZ (hw _ (List.mem_of_getElem? (i := 9) rfl))) (mvT hZ (hw _ (List.mem_of_getElem? (i := 10) rfl))) (by decide) (backOf (W := 0) (rm2 l Z a0 hw [] q1 p2  T4.heap n0 Zh4 ) hZ (hw _ (List.mem_of_getElem? (i := 10) rfl)) (hw _ (List.mem_of_getElem? (i := 9) rfl)) (by decide) (by decide)) (g := (mkF m 8 #[.val (.long q1), .second, .val (.int p2), .val (.int p3), .val (.int (own_f q1)), .unset, .unset, .unset] [(.int p2), (.long q1)])) rfl (by rw [hml]; rfl) (argsL := [(.long q1), (.int p2)]) (rest := []) (lenOf pdw_1 rfl) rfl (by show 2 * 0 + _ ≤ _; exact Nat.le_of_eq rfl) (hb hby at_8) (fun _ _ => ⟨rfl, rfl, (by decide : 0 + 0 ≤ _), (by decide : 0 + 0 ≤ _)⟩)
  dsimp only [Pt.U, Pt.locs, Pt.cells, Pt.slots] at X5 l5 y5 z5 st5 hQ5
  subst l5 y5 z5
  obtain ⟨rfl, N5q, hh5⟩ := hQ5
  have Zh5 : n0 ≤ T5.heap.size := by rw [hh5]; assumption
  have N5 := Fr.app N4 N5q
  -- pc 37: com/example/nested_path/nestedpath/pattern/OpenAddressing.slot by its contract rm2
  obtain ⟨_, _, ⟨T6, L6, k6, n6⟩, -, X6, ⟨Lc6, hQ6, l6, y6, z6⟩, st6⟩ := Jvm.LawKit.callS X5 hx (y := (⟨"com/example/nested_path/nestedpath/pattern/OpenAddressing", "slot", "(JI)I"⟩ : MethodName)) hown (mvT hZ (hw _ (List.mem_of_getElem? (i := 7) rfl))) (mvT hZ (hw _ (List.mem_of_getElem? (i := 8) rfl))) (mvT hZ (hw _ (List.mem_of_getElem? (i := 9) rfl))) (mvT hZ (hw _ (List.mem_of_getElem? (i := 10) rfl))) (by decide) (backOf (W := 0) (rm2 l Z a0 hw [] q1 (((1 : Int32) <<< ((p3 &&& (31 : Int32)) &&& 31)) - (1 : Int32))  T5.heap n0 Zh5 ) hZ (hw _ (List.mem_of_getElem? (i := 10) rfl)) (hw _ (List.mem_of_getElem? (i := 9) rfl)) (by decide) (by decide)) (g := (mkF m 37 #[.val (.long q1), .second, .val (.int p2), .val (.int p3), .val (.int (own_f q1)), .val (.int (own_g q1 &&& p2)), .val (.int (((1 : Int32) <<< ((p3 &&& (31 : Int32)) &&& 31)) - (1 : Int32))), .unset] [(.int (((1 : Int32) <<< ((p3 &&& (31 : Int32)) &&& 31)) - (1 : Int32))), (.long q1)])) rfl (by rw [hml]; rfl) (argsL := [(.long q1), (.int (((1 : Int32) <<< ((p3 &&& (31 : Int32)) &&& 31)) - (1 : Int32)))]) (rest := []) (lenOf pdw_1 rfl) rfl (by show 2 * 0 + _ ≤ _; exact Nat.le_of_eq rfl) (hb hby at_37) (fun _ _ => ⟨rfl, rfl, (by decide : 0 + 0 ≤ _), (by decide : 0 + 0 ≤ _)⟩)
  dsimp only [Pt.U, Pt.locs, Pt.cells, Pt.slots] at X6 l6 y6 z6 st6 hQ6
  subst l6 y6 z6
  obtain ⟨rfl, N6q, hh6⟩ := hQ6
  have Zh6 : n0 ≤ T6.heap.size := by rw [hh6]; assumption
  have N6 := Fr.app N5 N6q
  obtain ⟨fs, hr, hrun, hended, hW, hsame⟩ := X6.leave (v := some (.int (1 : Int32))) (fun h => by rw [Bd.returns] at h; cases h)
  refine ⟨_, _, pre0 _ ?_, hrun, hended, _, _, rfl, ?_, ⟨_, rfl⟩, hW, hsame.mono (by decide) (by decide)⟩
  -- 4. STEPS
  · show Steps p.tables e below (s₁.setTop (mkF m 0 #[.val (.long q1), .second, .val (.int p2), .val (.int p3), .unset, .unset, .unset, .unset] [])) _
    refine XS.lloadN X0.here hx rfl (hb hby at_0) rfl ?_
    show Steps p.tables e below (s₁.setTop (mkF m 1 #[.val (.long q1), .second, .val (.int p2), .val (.int p3), .unset, .unset, .unset, .unset] [(.long q1)])) _
    refine st4 _ ?_
    show Steps p.tables e below (T4.setTop (mkF m 4 #[.val (.long q1), .second, .val (.int p2), .val (.int p3), .unset, .unset, .unset, .unset] [(.int (own_f q1))])) _
    refine XS.istore X4.here hx rfl (hb hby at_4) rfl (l' := #[.val (.long q1), .second, .val (.int p2), .val (.int p3), .val (.int (own_f q1)), .unset, .unset, .unset]) rfl ?_
    show Steps p.tables e below (T4.setTop (mkF m 6 #[.val (.long q1), .second, .val (.int p2), .val (.int p3), .val (.int (own_f q1)), .unset, .unset, .unset] [])) _
    refine XS.lloadN X4.here hx rfl (hb hby at_6) rfl ?_
    show Steps p.tables e below (T4.setTop (mkF m 7 #[.val (.long q1), .second, .val (.int p2), .val (.int p3), .val (.int (own_f q1)), .unset, .unset, .unset] [(.long q1)])) _
    refine XS.iloadN X4.here hx rfl (hb hby at_7) rfl ?_
    show Steps p.tables e below (T4.setTop (mkF m 8 #[.val (.long q1), .second, .val (.int p2), .val (.int p3), .val (.int (own_f q1)), .unset, .unset, .unset] [(.int p2), (.long q1)])) _
    refine st5 _ ?_
    show Steps p.tables e below (T5.setTop (mkF m 11 #[.val (.long q1), .second, .val (.int p2), .val (.int p3), .val (.int (own_f q1)), .unset, .unset, .unset] [(.int (own_g q1 &&& p2))])) _
    refine XS.istore X5.here hx rfl (hb hby at_11) rfl (l' := #[.val (.long q1), .second, .val (.int p2), .val (.int p3), .val (.int (own_f q1)), .val (.int (own_g q1 &&& p2)), .unset, .unset]) rfl ?_
    show Steps p.tables e below (T5.setTop (mkF m 13 #[.val (.long q1), .second, .val (.int p2), .val (.int p3), .val (.int (own_f q1)), .val (.int (own_g q1 &&& p2)), .unset, .unset] [])) _
    refine XS.iload X5.here hx rfl (hb hby at_13) rfl ?_
    show Steps p.tables e below (T5.setTop (mkF m 15 #[.val (.long q1), .second, .val (.int p2), .val (.int p3), .val (.int (own_f q1)), .val (.int (own_g q1 &&& p2)), .unset, .unset] [(.int (own_g q1 &&& p2))])) _
    refine XS.iload X5.here hx rfl (hb hby at_15) rfl ?_
    show Steps p.tables e below (T5.setTop (mkF m 17 #[.val (.long q1), .second, .val (.int p2), .val (.int p3), .val (.int (own_f q1)), .val (.int (own_g q1 &&& p2)), .unset, .unset] [(.int (own_f q1)), (.int (own_g q1 &&& p2))])) _
    refine XS.iloadN X5.here hx rfl (hb hby at_17) rfl ?_
    show Steps p.tables e below (T5.setTop (mkF m 18 #[.val (.long q1), .second, .val (.int p2), .val (.int p3), .val (.int (own_f q1)), .val (.int (own_g q1 &&& p2)), .unset, .unset] [(.int p2), (.int (own_f q1)), (.int (own_g q1 &&& p2))])) _
    refine XS.iand X5.here hx rfl (hb hby at_18) rfl ?_
    show Steps p.tables e below (T5.setTop (mkF m 19 #[.val (.long q1), .second, .val (.int p2), .val (.int p3), .val (.int (own_f q1)), .val (.int (own_g q1 &&& p2)), .unset, .unset] [(.int ((own_f q1) &&& p2)), (.int (own_g q1 &&& p2))])) _
    refine XS.icmpYes X5.here hx rfl (pc0 := 19) (pc' := 24) rfl (hb hby at_19) rfl (teq (own_slot q1 p2 : (own_g q1 &&& p2) = ((own_f q1) &&& p2))).1 (by decide) (by decide) ?_
    show Steps p.tables e below (T5.setTop (mkF m 24 #[.val (.long q1), .second, .val (.int p2), .val (.int p3), .val (.int (own_f q1)), .val (.int (own_g q1 &&& p2)), .unset, .unset] [])) _
    refine XS.iconst X5.here hx rfl (hb hby at_24) ?_
    show Steps p.tables e below (T5.setTop (mkF m 25 #[.val (.long q1), .second, .val (.int p2), .val (.int p3), .val (.int (own_f q1)), .val (.int (own_g q1 &&& p2)), .unset, .unset] [(.int (1 : Int32))])) _
    refine XS.iloadN X5.here hx rfl (hb hby at_25) rfl ?_
    show Steps p.tables e below (T5.setTop (mkF m 26 #[.val (.long q1), .second, .val (.int p2), .val (.int p3), .val (.int (own_f q1)), .val (.int (own_g q1 &&& p2)), .unset, .unset] [(.int p3), (.int (1 : Int32))])) _
    refine XS.bipush X5.here hx rfl (hb hby at_26) ?_
    show Steps p.tables e below (T5.setTop (mkF m 28 #[.val (.long q1), .second, .val (.int p2), .val (.int p3), .val (.int (own_f q1)), .val (.int (own_g q1 &&& p2)), .unset, .unset] [(.int (31 : Int32)), (.int p3), (.int (1 : Int32))])) _
    refine XS.iand X5.here hx rfl (hb hby at_28) rfl ?_
    show Steps p.tables e below (T5.setTop (mkF m 29 #[.val (.long q1), .second, .val (.int p2), .val (.int p3), .val (.int (own_f q1)), .val (.int (own_g q1 &&& p2)), .unset, .unset] [(.int (p3 &&& (31 : Int32))), (.int (1 : Int32))])) _
    refine XS.ishl X5.here hx rfl (hb hby at_29) rfl ?_
    show Steps p.tables e below (T5.setTop (mkF m 30 #[.val (.long q1), .second, .val (.int p2), .val (.int p3), .val (.int (own_f q1)), .val (.int (own_g q1 &&& p2)), .unset, .unset] [(.int ((1 : Int32) <<< ((p3 &&& (31 : Int32)) &&& 31)))])) _
    refine XS.iconst X5.here hx rfl (hb hby at_30) ?_
    show Steps p.tables e below (T5.setTop (mkF m 31 #[.val (.long q1), .second, .val (.int p2), .val (.int p3), .val (.int (own_f q1)), .val (.int (own_g q1 &&& p2)), .unset, .unset] [(.int (1 : Int32)), (.int ((1 : Int32) <<< ((p3 &&& (31 : Int32)) &&& 31)))])) _
    refine XS.isub X5.here hx rfl (hb hby at_31) rfl ?_
    show Steps p.tables e below (T5.setTop (mkF m 32 #[.val (.long q1), .second, .val (.int p2), .val (.int p3), .val (.int (own_f q1)), .val (.int (own_g q1 &&& p2)), .unset, .unset] [(.int (((1 : Int32) <<< ((p3 &&& (31 : Int32)) &&& 31)) - (1 : Int32)))])) _
    refine XS.istore X5.here hx rfl (hb hby at_32) rfl (l' := #[.val (.long q1), .second, .val (.int p2), .val (.int p3), .val (.int (own_f q1)), .val (.int (own_g q1 &&& p2)), .val (.int (((1 : Int32) <<< ((p3 &&& (31 : Int32)) &&& 31)) - (1 : Int32))), .unset]) rfl ?_
    show Steps p.tables e below (T5.setTop (mkF m 34 #[.val (.long q1), .second, .val (.int p2), .val (.int p3), .val (.int (own_f q1)), .val (.int (own_g q1 &&& p2)), .val (.int (((1 : Int32) <<< ((p3 &&& (31 : Int32)) &&& 31)) - (1 : Int32))), .unset] [])) _
    refine XS.lloadN X5.here hx rfl (hb hby at_34) rfl ?_
    show Steps p.tables e below (T5.setTop (mkF m 35 #[.val (.long q1), .second, .val (.int p2), .val (.int p3), .val (.int (own_f q1)), .val (.int (own_g q1 &&& p2)), .val (.int (((1 : Int32) <<< ((p3 &&& (31 : Int32)) &&& 31)) - (1 : Int32))), .unset] [(.long q1)])) _
    refine XS.iload X5.here hx rfl (hb hby at_35) rfl ?_
    show Steps p.tables e below (T5.setTop (mkF m 37 #[.val (.long q1), .second, .val (.int p2), .val (.int p3), .val (.int (own_f q1)), .val (.int (own_g q1 &&& p2)), .val (.int (((1 : Int32) <<< ((p3 &&& (31 : Int32)) &&& 31)) - (1 : Int32))), .unset] [(.int (((1 : Int32) <<< ((p3 &&& (31 : Int32)) &&& 31)) - (1 : Int32))), (.long q1)])) _
    refine st6 _ ?_
    show Steps p.tables e below (T6.setTop (mkF m 40 #[.val (.long q1), .second, .val (.int p2), .val (.int p3), .val (.int (own_f q1)), .val (.int (own_g q1 &&& p2)), .val (.int (((1 : Int32) <<< ((p3 &&& (31 : Int32)) &&& 31)) - (1 : Int32))), .unset] [(.int (own_g q1 &&& (((1 : Int32) <<< ((p3 &&& (31 : Int32)) &&& 31)) - (1 : Int32))))])) _
    refine XS.istore X6.here hx rfl (hb hby at_40) rfl (l' := #[.val (.long q1), .second, .val (.int p2), .val (.int p3), .val (.int (own_f q1)), .val (.int (own_g q1 &&& p2)), .val (.int (((1 : Int32) <<< ((p3 &&& (31 : Int32)) &&& 31)) - (1 : Int32))), .val (.int (own_g q1 &&& (((1 : Int32) <<< ((p3 &&& (31 : Int32)) &&& 31)) - (1 : Int32))))]) rfl ?_
    show Steps p.tables e below (T6.setTop (mkF m 42 #[.val (.long q1), .second, .val (.int p2), .val (.int p3), .val (.int (own_f q1)), .val (.int (own_g q1 &&& p2)), .val (.int (((1 : Int32) <<< ((p3 &&& (31 : Int32)) &&& 31)) - (1 : Int32))), .val (.int (own_g q1 &&& (((1 : Int32) <<< ((p3 &&& (31 : Int32)) &&& 31)) - (1 : Int32))))] [])) _
    refine XS.iload X6.here hx rfl (hb hby at_42) rfl ?_
    show Steps p.tables e below (T6.setTop (mkF m 44 #[.val (.long q1), .second, .val (.int p2), .val (.int p3), .val (.int (own_f q1)), .val (.int (own_g q1 &&& p2)), .val (.int (((1 : Int32) <<< ((p3 &&& (31 : Int32)) &&& 31)) - (1 : Int32))), .val (.int (own_g q1 &&& (((1 : Int32) <<< ((p3 &&& (31 : Int32)) &&& 31)) - (1 : Int32))))] [(.int (own_g q1 &&& (((1 : Int32) <<< ((p3 &&& (31 : Int32)) &&& 31)) - (1 : Int32))))])) _
    refine XS.ifNo X6.here hx rfl (hb hby at_44) rfl ((if0 _ _).trans (flt (own_notneg (own_g q1) p3 : ¬ ((own_g q1 &&& (((1 : Int32) <<< ((p3 &&& (31 : Int32)) &&& 31)) - (1 : Int32))) < (0 : Int32)))).1) ?_
    show Steps p.tables e below (T6.setTop (mkF m 47 #[.val (.long q1), .second, .val (.int p2), .val (.int p3), .val (.int (own_f q1)), .val (.int (own_g q1 &&& p2)), .val (.int (((1 : Int32) <<< ((p3 &&& (31 : Int32)) &&& 31)) - (1 : Int32))), .val (.int (own_g q1 &&& (((1 : Int32) <<< ((p3 &&& (31 : Int32)) &&& 31)) - (1 : Int32))))] [])) _
    refine XS.iload X6.here hx rfl (hb hby at_47) rfl ?_
    show Steps p.tables e below (T6.setTop (mkF m 49 #[.val (.long q1), .second, .val (.int p2), .val (.int p3), .val (.int (own_f q1)), .val (.int (own_g q1 &&& p2)), .val (.int (((1 : Int32) <<< ((p3 &&& (31 : Int32)) &&& 31)) - (1 : Int32))), .val (.int (own_g q1 &&& (((1 : Int32) <<< ((p3 &&& (31 : Int32)) &&& 31)) - (1 : Int32))))] [(.int (own_g q1 &&& (((1 : Int32) <<< ((p3 &&& (31 : Int32)) &&& 31)) - (1 : Int32))))])) _
    refine XS.iload X6.here hx rfl (hb hby at_49) rfl ?_
    show Steps p.tables e below (T6.setTop (mkF m 51 #[.val (.long q1), .second, .val (.int p2), .val (.int p3), .val (.int (own_f q1)), .val (.int (own_g q1 &&& p2)), .val (.int (((1 : Int32) <<< ((p3 &&& (31 : Int32)) &&& 31)) - (1 : Int32))), .val (.int (own_g q1 &&& (((1 : Int32) <<< ((p3 &&& (31 : Int32)) &&& 31)) - (1 : Int32))))] [(.int (((1 : Int32) <<< ((p3 &&& (31 : Int32)) &&& 31)) - (1 : Int32))), (.int (own_g q1 &&& (((1 : Int32) <<< ((p3 &&& (31 : Int32)) &&& 31)) - (1 : Int32))))])) _
    refine XS.icmpYes X6.here hx rfl (pc0 := 51) (pc' := 56) rfl (hb hby at_51) rfl (flt (own_notabove (own_g q1) p3 : ¬ ((((1 : Int32) <<< ((p3 &&& (31 : Int32)) &&& 31)) - (1 : Int32)) < (own_g q1 &&& (((1 : Int32) <<< ((p3 &&& (31 : Int32)) &&& 31)) - (1 : Int32)))))).2.2.2 (by decide) (by decide) ?_
    show Steps p.tables e below (T6.setTop (mkF m 56 #[.val (.long q1), .second, .val (.int p2), .val (.int p3), .val (.int (own_f q1)), .val (.int (own_g q1 &&& p2)), .val (.int (((1 : Int32) <<< ((p3 &&& (31 : Int32)) &&& 31)) - (1 : Int32))), .val (.int (own_g q1 &&& (((1 : Int32) <<< ((p3 &&& (31 : Int32)) &&& 31)) - (1 : Int32))))] [])) _
    refine XS.iload X6.here hx rfl (hb hby at_56) rfl ?_
    show Steps p.tables e below (T6.setTop (mkF m 58 #[.val (.long q1), .second, .val (.int p2), .val (.int p3), .val (.int (own_f q1)), .val (.int (own_g q1 &&& p2)), .val (.int (((1 : Int32) <<< ((p3 &&& (31 : Int32)) &&& 31)) - (1 : Int32))), .val (.int (own_g q1 &&& (((1 : Int32) <<< ((p3 &&& (31 : Int32)) &&& 31)) - (1 : Int32))))] [(.int (own_g q1 &&& (((1 : Int32) <<< ((p3 &&& (31 : Int32)) &&& 31)) - (1 : Int32))))])) _
    refine XS.iload X6.here hx rfl (hb hby at_58) rfl ?_
    show Steps p.tables e below (T6.setTop (mkF m 60 #[.val (.long q1), .second, .val (.int p2), .val (.int p3), .val (.int (own_f q1)), .val (.int (own_g q1 &&& p2)), .val (.int (((1 : Int32) <<< ((p3 &&& (31 : Int32)) &&& 31)) - (1 : Int32))), .val (.int (own_g q1 &&& (((1 : Int32) <<< ((p3 &&& (31 : Int32)) &&& 31)) - (1 : Int32))))] [(.int (own_f q1)), (.int (own_g q1 &&& (((1 : Int32) <<< ((p3 &&& (31 : Int32)) &&& 31)) - (1 : Int32))))])) _
    refine XS.iload X6.here hx rfl (hb hby at_60) rfl ?_
    show Steps p.tables e below (T6.setTop (mkF m 62 #[.val (.long q1), .second, .val (.int p2), .val (.int p3), .val (.int (own_f q1)), .val (.int (own_g q1 &&& p2)), .val (.int (((1 : Int32) <<< ((p3 &&& (31 : Int32)) &&& 31)) - (1 : Int32))), .val (.int (own_g q1 &&& (((1 : Int32) <<< ((p3 &&& (31 : Int32)) &&& 31)) - (1 : Int32))))] [(.int (((1 : Int32) <<< ((p3 &&& (31 : Int32)) &&& 31)) - (1 : Int32))), (.int (own_f q1)), (.int (own_g q1 &&& (((1 : Int32) <<< ((p3 &&& (31 : Int32)) &&& 31)) - (1 : Int32))))])) _
    refine XS.iand X6.here hx rfl (hb hby at_62) rfl ?_
    show Steps p.tables e below (T6.setTop (mkF m 63 #[.val (.long q1), .second, .val (.int p2), .val (.int p3), .val (.int (own_f q1)), .val (.int (own_g q1 &&& p2)), .val (.int (((1 : Int32) <<< ((p3 &&& (31 : Int32)) &&& 31)) - (1 : Int32))), .val (.int (own_g q1 &&& (((1 : Int32) <<< ((p3 &&& (31 : Int32)) &&& 31)) - (1 : Int32))))] [(.int ((own_f q1) &&& (((1 : Int32) <<< ((p3 &&& (31 : Int32)) &&& 31)) - (1 : Int32)))), (.int (own_g q1 &&& (((1 : Int32) <<< ((p3 &&& (31 : Int32)) &&& 31)) - (1 : Int32))))])) _
    refine XS.icmpNo X6.here hx rfl (hb hby at_63) rfl (teq (own_slot q1 _ : (own_g q1 &&& (((1 : Int32) <<< ((p3 &&& (31 : Int32)) &&& 31)) - (1 : Int32))) = ((own_f q1) &&& (((1 : Int32) <<< ((p3 &&& (31 : Int32)) &&& 31)) - (1 : Int32))))).2 ?_
    show Steps p.tables e below (T6.setTop (mkF m 66 #[.val (.long q1), .second, .val (.int p2), .val (.int p3), .val (.int (own_f q1)), .val (.int (own_g q1 &&& p2)), .val (.int (((1 : Int32) <<< ((p3 &&& (31 : Int32)) &&& 31)) - (1 : Int32))), .val (.int (own_g q1 &&& (((1 : Int32) <<< ((p3 &&& (31 : Int32)) &&& 31)) - (1 : Int32))))] [])) _
    refine XS.iconst X6.here hx rfl (hb hby at_66) ?_
    show Steps p.tables e below (T6.setTop (mkF m 67 #[.val (.long q1), .second, .val (.int p2), .val (.int p3), .val (.int (own_f q1)), .val (.int (own_g q1 &&& p2)), .val (.int (((1 : Int32) <<< ((p3 &&& (31 : Int32)) &&& 31)) - (1 : Int32))), .val (.int (own_g q1 &&& (((1 : Int32) <<< ((p3 &&& (31 : Int32)) &&& 31)) - (1 : Int32))))] [(.int (1 : Int32))])) _
    refine XS.goto X6.here hx rfl (pc0 := 67) (pc' := 71) rfl (hb hby at_67) (by decide) (by decide) ?_
    show Steps p.tables e below (T6.setTop (mkF m 71 #[.val (.long q1), .second, .val (.int p2), .val (.int p3), .val (.int (own_f q1)), .val (.int (own_g q1 &&& p2)), .val (.int (((1 : Int32) <<< ((p3 &&& (31 : Int32)) &&& 31)) - (1 : Int32))), .val (.int (own_g q1 &&& (((1 : Int32) <<< ((p3 &&& (31 : Int32)) &&& 31)) - (1 : Int32))))] [(.int (1 : Int32))])) _
    exact retN X6 hx (t := .boolean) Bd.returns (by simp) (hb hby at_71) hr
  · show Q0 Z q1 p2 p3 h0 n0 _ T6.heap _
    exact ⟨rfl, N6⟩
-- 5. FROM THE CASE'S WORDS TO rm0, AND THE OWED THEOREMS
set_option maxRecDepth 65536 in
set_option maxHeartbeats 40000000 in
theorem comes_1 {Post : Tables → Env → Array Value → State → Outcome → State → Prop} (hpost : ∀ tb e args s v u, (limb_1_1.after args s (.returned v) u = true ∧ limb_1_2.after args s (.returned v) u = true ∧ True) → FrameEnd s (.returned v) u (Jvm.fieldLocs frame_1_writes args s ++ Jvm.arrayLocs frame_1_arrays args s ++ Jvm.staticLocs frame_1_statics s) 0 0 → Post tb e args s (.returned v) u) :
    ArmFor flags0 classFile x code maxLocals ret World_1 tables_1 room_1 Calls_1 rest_1 Pre_1 Post := by
  intro l hfl _ _ p e ha hc hk s m args below hf hA hF happ hP
  obtain ⟨hcalls, hrest, hpre⟩ := hP
  obtain ⟨-, -, -, hnamed, -, -, -, hat⟩ := (Spec.applies_iff hf).mp happ
  obtain ⟨hg, hn⟩ := and_e (Cond.before_iff.mp (show (Jvm.Cond.and given_1 narrow_1).before args s = true from hpre))
  obtain ⟨g7, g8⟩ := and_e hg
  obtain ⟨g9, g10⟩ := and_e g8
  obtain ⟨g11, g12⟩ := and_e g10
  obtain ⟨w0, w1, w2, rfl⟩ : ∃ w0 w1 w2 : Value, args = #[w0, w1, w2] := by
    have hs : args.size = 3 := by simpa [Cond.value, given_1] using g7
    obtain ⟨L⟩ := args
    match L, hs with
    | [w0, w1, w2], _ => exact ⟨w0, w1, w2, rfl⟩
  have hw := fun d (hd : d ∈ tables_1) => atoms_spec (ws := Jvm.Cond.code x code maxLocals ret :: tables_1) hat d (List.mem_cons_of_mem _ hd)
  have hfit : Fit s := fun {y c} hc i hi => by
    obtain ⟨ha, rfl⟩ := Array.getElem?_eq_some_iff.mp hc
    have q := List.all_eq_true.mp ((Array.all_eq_true_iff_forall_mem.mp hF) _ (Array.getElem_mem ha)) i (List.mem_range.mpr hi)
    simpa [Array.getElem?_eq_getElem hi] using q
  obtain ⟨i0, ei0⟩ := isL_v g9
  obtain rfl : w0 = (.long i0) := Option.some.inj ei0
  obtain ⟨i1, ei1⟩ := is_v g11
  obtain rfl : w1 = (.int i1) := Option.some.inj ei1
  obtain ⟨i2, ei2⟩ := is_v g12
  obtain rfl : w2 = (.int i2) := Option.some.inj ei2
  obtain ⟨n, o, h1, h2, h3, _, L, rfl, ⟨rfl, N⟩, hq⟩ := rm0 l s _ hw tables_1 i0 i1 i2 s.heap s.heap.size (Nat.le_refl _) p e ha hc hk s m _ below hf ((Spec.applies_iff_loose hf).mp happ).1 ⟨rfl, State.Warmed39.refl s, rfl⟩ trivial
  refine ⟨n, _, h1, h2, h3, hpost _ _ _ _ _ _ ⟨Cond.after_iff.mpr rfl, Cond.after_iff.mpr (eq_i res_at (Term.int_eval (1)) rfl), trivial⟩ ⟨hq.1, hq.2.1, (hq.2.2.sift fun y hy => Or.inr (N y hy)).mono (by decide) (by decide)⟩⟩
theorem main_1_1 : Claimed_1_1 := comes_1 fun _ _ _ _ _ _ h hF => ⟨h.1, hF⟩
theorem main_1_2 : Claimed_1_2 := comes_1 fun _ _ _ _ _ _ h hF => ⟨h.2.1, hF⟩
-- 6. THE WITNESS: 'witness <made dir> --arg ..' lays it behind; then: end Jvm.Pilot.@@N@@
end Jvm.Pilot.@@N@@
namespace Jvm.Pilot.@@N@@
open Jvm Jvm.ClassFile Sem Op Lib Jvm.Free Jvm.Stand Jvm.Pilot.@@N@@.Jvm.D
/-! MADE BY PROGRAM (witnessworld.py) out of the Statement's table words and the real class files: 7 classes; the members and pool entries that the words name. The judged class is class 1, her method 2. -/
namespace start1
open Jvm.ClassFile
def u (s : String) : CpInfo := .utf8 (stringToUtf16 s)
/-- a pool by its gaps: so many unusable entries, then the entry; so many at the end -/
def gap : Nat → List CpInfo → List CpInfo
  | 0, r => r
  | n + 1, r => .unusable :: gap n r
def poolList (es : List (Nat × CpInfo)) (last : Nat) : List CpInfo := es.foldr (fun e r => gap e.1 (e.2 :: r)) (gap last [])
def pool (es : List (Nat × CpInfo)) (last : Nat) : Array CpInfo := ⟨poolList es last⟩
def fileOf (pool : Array CpInfo) (this : Nat) (attrs : Array Attribute := #[]) (ms : Array MethodInfo := #[]) (fl : Nat := 33) (sup : Nat := 0) (ifs : Array Nat := #[]) (fds : Array FieldInfo := #[]) : ClassFile where
  minorVersion := 0
  majorVersion := 65
  constantPool := pool
  accessFlags := fl
  thisClass := this
  superClass := sup
  interfaces := ifs
  fields := fds
  methods := ms
  attributes := attrs
def plain (name : String) (sup : Option ClassId) : Class where
  name := name
  kind := .ordinary
  loader := none
  accessFlags := 33
  super := sup
  interfaces := #[]
  cf := none
  fields := #[]
  methods := #[]
  instanceTypes := #[]
  staticTypes := #[]
  resolved := #[]
  callSites := []
  init := .initialized
  statics := none
  mirror := none

def pool0 : Array CpInfo := pool [(5, u "<init>"), (0, u "()V"), (1, .class_ 10), (1, u "java/lang/Object")] 113

def k0m0 : Method := { name := "<init>", desc := "()V", sig := { parameters := [], returnType := none }, accessFlags := 1, code := none }
/-- java/lang/Object -/
def k0 : Class := { plain "java/lang/Object" none with
  accessFlags := 33
  interfaces := #[]
  cf := some (fileOf pool0 8 #[] #[{ accessFlags := 1, nameIndex := 5, descriptorIndex := 6, attributes := #[] }] 33 0 #[] #[])
  fields := #[]
  methods := #[k0m0]
  instanceTypes := #[]
  staticTypes := #[]
  resolved := Array.replicate 124 none
  statics := none }

def pool1 : Array CpInfo := pool [(2, .class_ 4), (1, u "java/lang/Object"), (0, u "<init>"), (0, u "()V"), (0, .long 4294967295), (1, .long 2135587861), (1, .long 2654435769), (1, .methodref 14 15), (0, .class_ 16), (0, .nameAndType 17 18), (0, u "com/example/nested_path/nestedpath/pattern/OpenAddressingSlotPinLaw"), (0, u "highHalfOfProduct"), (0, u "(J)I"), (0, .methodref 20 21), (0, .class_ 22), (0, .nameAndType 23 24), (0, u "com/example/nested_path/nestedpath/pattern/OpenAddressing"), (0, u "slot"), (0, u "(JI)I"), (2, u "law"), (0, u "(JII)Z")] 3

def k1m0 : Method := { name := "<init>", desc := "()V", sig := { parameters := [], returnType := none }, accessFlags := 1, code := none }
def k1c1 : Code := { maxStack := 4, maxLocals := 13, code := method_2_code, exceptionTable := #[], attributes := #[] }
def k1m1 : Method := { name := "highHalfOfProduct", desc := "(J)I", sig := { parameters := [.long], returnType := some .int }, accessFlags := 10, code := some k1c1 }
def k1c2 : Code := { maxStack := 3, maxLocals := 8, code := code, exceptionTable := #[], attributes := #[] }
def k1m2 : Method := { name := "law", desc := "(JII)Z", sig := { parameters := [.long, .int, .int], returnType := some .boolean }, accessFlags := 9, code := some k1c2 }
/-- com/example/nested_path/nestedpath/pattern/OpenAddressingSlotPinLaw -/
def k1 : Class := { plain "com/example/nested_path/nestedpath/pattern/OpenAddressingSlotPinLaw" (some 0) with
  accessFlags := 49
  interfaces := #[]
  cf := some (fileOf pool1 14 #[] #[{ accessFlags := 1, nameIndex := 5, descriptorIndex := 6, attributes := #[] }, { accessFlags := 10, nameIndex := 17, descriptorIndex := 18, attributes := #[] }, { accessFlags := 9, nameIndex := 27, descriptorIndex := 28, attributes := #[] }] 49 2 #[] #[])
  fields := #[]
  methods := #[k1m0, k1m1, k1m2]
  instanceTypes := #[]
  staticTypes := #[]
  resolved := Array.replicate 32 none
  statics := none }

def pool2 : Array CpInfo := pool [(2, .class_ 4), (1, u "java/lang/Object"), (0, u "<init>"), (0, u "()V"), (0, .long 11400714819323198485), (1, .class_ 10), (0, u "com/example/nested_path/nestedpath/pattern/OpenAddressing"), (2, u "slot"), (0, u "(JI)I")] 2

def k2m0 : Method := { name := "<init>", desc := "()V", sig := { parameters := [], returnType := none }, accessFlags := 2, code := none }
def k2c1 : Code := { maxStack := 4, maxLocals := 3, code := prog_51_method_2_code, exceptionTable := #[], attributes := #[] }
def k2m1 : Method := { name := "slot", desc := "(JI)I", sig := { parameters := [.long, .int], returnType := some .int }, accessFlags := 8, code := some k2c1 }
/-- com/example/nested_path/nestedpath/pattern/OpenAddressing -/
def k2 : Class := { plain "com/example/nested_path/nestedpath/pattern/OpenAddressing" (some 0) with
  accessFlags := 48
  interfaces := #[]
  cf := some (fileOf pool2 9 #[] #[{ accessFlags := 2, nameIndex := 5, descriptorIndex := 6, attributes := #[] }, { accessFlags := 8, nameIndex := 13, descriptorIndex := 14, attributes := #[] }] 48 2 #[] #[])
  fields := #[]
  methods := #[k2m0, k2m1]
  instanceTypes := #[]
  staticTypes := #[]
  resolved := Array.replicate 17 none
  statics := none }

def pool3 : Array CpInfo := pool [(1, u "java/lang/Cloneable"), (0, .class_ 1), (0, u "java/lang/Object"), (0, .class_ 3)] 3

/-- java/lang/Cloneable -/
def k3 : Class := { plain "java/lang/Cloneable" (some 0) with
  accessFlags := 1537
  interfaces := #[]
  cf := some (fileOf pool3 2 #[] #[] 1537 4 #[] #[])
  fields := #[]
  methods := #[]
  instanceTypes := #[]
  staticTypes := #[]
  resolved := Array.replicate 8 none
  statics := none }

def pool4 : Array CpInfo := pool [(1, u "java/io/Serializable"), (0, .class_ 1), (0, u "java/lang/Object"), (0, .class_ 3)] 3

/-- java/io/Serializable -/
def k4 : Class := { plain "java/io/Serializable" (some 0) with
  accessFlags := 1537
  interfaces := #[]
  cf := some (fileOf pool4 2 #[] #[] 1537 4 #[] #[])
  fields := #[]
  methods := #[]
  instanceTypes := #[]
  staticTypes := #[]
  resolved := Array.replicate 8 none
  statics := none }

/-- the primitive byte -/
def k5 : Class := { plain "byte" none with kind := .primitive 'B', accessFlags := 0x411 }
/-- [B -/
def k6 : Class := { plain "[B" (some 0) with kind := .array 5 .byte, interfaces := #[3, 4], accessFlags := 1041 }

def heap : Heap := #[]
def classes : Array Class := #[k0, k1, k2, k3, k4, k5, k6]
def interned : List (Array UInt16 × Addr) := []
def slotsUsed : Nat := 0
def theMethod : MethodId := ⟨1, 2⟩
def args0 : Array Value := #[.long 5, .int 6, .int 7]
def aboutOver (below : List Frame) : State where
  vm := { classes := classes, interned := interned.toArray }
  heap := heap
  slotsUsed := slotsUsed
  threads := #[{ frames := .invoking theMethod args0 :: below }]
def below0 : List Frame := [.native { method := ⟨0, 0⟩, args := #[] }]
def about1 : State := aboutOver below0
def p0 : Program := .bare "" "" ""
def e0 : Env := launch0.env 0 0 0
theorem w_frames : about1.frames = Frame.invoking theMethod args0 :: below0 := rfl
set_option maxRecDepth 65536 in
theorem w_args : argsFit about1.vm theMethod args0 = true := by decide +kernel
set_option maxRecDepth 65536 in
theorem w_heap : heapFits about1 = true := by decide +kernel
set_option maxRecDepth 65536 in
theorem w_runnable : about1.curStatus? = some .runnable := by decide +kernel
set_option maxRecDepth 65536 in
theorem w_alone : about1.alone = true := by decide +kernel
set_option maxRecDepth 65536 in
theorem w_named : about1.methodNamed? x = some theMethod := by decide +kernel
set_option maxRecDepth 65536 in
theorem w_hears : about1.hears theMethod below0 = true := by decide +kernel
set_option maxRecDepth 65536 in
theorem w_ripe : about1.ripe theMethod args0 below0 = true := by decide +kernel
theorem w_running : about1.status = .running := rfl
set_option maxRecDepth 65536 in
theorem w_room : about1.hasRoom e0.platform room_1 = true :=
  launch0.hasRoom_least _ room_1 (by decide +kernel) (by decide +kernel) (by decide +kernel) (by decide +kernel) (by decide +kernel) (by decide +kernel)
theorem allAtoms_all (ts : List Jvm.Cond) (a : Array Jvm.Value) (st : Jvm.State) : (allAtoms ts).before a st = ts.all (fun c => c.before a st) := by
  induction ts with
  | nil => rfl
  | cons c t ih =>
    show (Jvm.Cond.and c (allAtoms t)).before a st = _
    rw [Jvm.Cond.before_and, ih, List.all_cons]
def words1 : List Jvm.Cond := Jvm.Cond.code x code maxLocals ret :: tables_1
/-- a 'code' word, met by the world's own term for the bytes: nothing is compared byte by byte -/
theorem code_word {y : MethodName} {bytes : ByteArray} {mx : Nat} {rt : Option FieldType} {a : Array Value} {s : State} {m : MethodId} {meth : Method} {c : Code} (h1 : s.methodNamed? y = some m) (h2 : s.vm.method? m = some meth) (h3 : meth.code = some c) (h4 : c.code = bytes)
    (h5 : (c.maxLocals == mx && c.exceptionTable.isEmpty && decide (c.maxStack ≤ mostOperands) && decide (meth.sig.returnType = rt) && !meth.locks && decide (parseMethodDescriptor y.desc = some meth.sig)) = true) : (Jvm.Cond.code y bytes mx rt).before a s = true := by
  simp only [Bool.and_eq_true, beq_iff_eq, Bool.not_eq_true', decide_eq_true_eq] at h5
  obtain ⟨⟨⟨⟨⟨g1, g2⟩, g3⟩, g4⟩, g5⟩, g6⟩ := h5
  simp [Cond.before, Cond.holds, Cond.value, h1, h2, h3, h4, g1, g2, g3, g4, g5, g6]
def isCode : Jvm.Cond → Bool
  | .code _ _ _ _ => true
  | _ => false
theorem all_split {L : List Jvm.Cond} {P : Jvm.Cond → Bool} (h1 : L.all (fun c => isCode c || P c) = true) (h2 : ∀ c ∈ L.filter isCode, P c = true) : L.all P = true := by
  refine List.all_eq_true.mpr fun c hc => ?_
  have h := List.all_eq_true.mp h1 c hc
  rcases Bool.eq_false_or_eq_true (isCode c) with hi | hi
  · exact h2 c (List.mem_filter.mpr ⟨hc, hi⟩)
  · simpa [hi] using h
set_option maxRecDepth 65536 in
theorem w_c0 : (Jvm.Cond.code x code maxLocals ret).before args0 about1 = true := code_word (m := ⟨1, 2⟩) (meth := k1m2) (c := k1c2) (by decide +kernel) rfl rfl rfl (by decide +kernel)
set_option maxRecDepth 65536 in
theorem w_c1 : (Jvm.Cond.code ({ cls := "com/example/nested_path/nestedpath/pattern/OpenAddressingSlotPinLaw", name := "highHalfOfProduct", desc := "(J)I" } : Jvm.MethodName) method_2_code (13 : Nat) (Option.some Jvm.ClassFile.FieldType.int)).before args0 about1 = true := code_word (m := ⟨1, 1⟩) (meth := k1m1) (c := k1c1) (by decide +kernel) rfl rfl rfl (by decide +kernel)
set_option maxRecDepth 65536 in
theorem w_c2 : (Jvm.Cond.code ({ cls := "com/example/nested_path/nestedpath/pattern/OpenAddressing", name := "slot", desc := "(JI)I" } : Jvm.MethodName) prog_51_method_2_code (3 : Nat) (Option.some Jvm.ClassFile.FieldType.int)).before args0 about1 = true := code_word (m := ⟨2, 1⟩) (meth := k2m1) (c := k2c1) (by decide +kernel) rfl rfl rfl (by decide +kernel)
def codes1 : List Jvm.Cond := [Jvm.Cond.code x code maxLocals ret, Jvm.Cond.code ({ cls := "com/example/nested_path/nestedpath/pattern/OpenAddressingSlotPinLaw", name := "highHalfOfProduct", desc := "(J)I" } : Jvm.MethodName) method_2_code (13 : Nat) (Option.some Jvm.ClassFile.FieldType.int), Jvm.Cond.code ({ cls := "com/example/nested_path/nestedpath/pattern/OpenAddressing", name := "slot", desc := "(JI)I" } : Jvm.MethodName) prog_51_method_2_code (3 : Nat) (Option.some Jvm.ClassFile.FieldType.int)]
set_option maxRecDepth 65536 in
theorem codes_eq : words1.filter isCode = codes1 := rfl
theorem w_codes : ∀ c ∈ words1.filter isCode, c.before args0 about1 = true := by
  rw [codes_eq]
  intro c hc
  simp only [codes1, List.mem_cons, List.not_mem_nil, or_false] at hc
  rcases hc with rfl | rfl | rfl
  · exact w_c0
  · exact w_c1
  · exact w_c2
set_option maxRecDepth 65536 in
theorem w_t1 : words1.all (fun c => isCode c || c.before args0 about1) = true := by decide +kernel
theorem w_tables : (allAtoms (Jvm.Cond.code x code maxLocals ret :: tables_1)).before args0 about1 = true := by
  rw [allAtoms_all]
  show words1.all (fun c => c.before args0 about1) = true
  refine all_split ?_ w_codes
  rw [w_t1]
set_option maxRecDepth 65536 in
theorem w_case : (Jvm.Cond.and given_1 narrow_1).before args0 about1 = true := by decide +kernel
theorem w_applies : (headSpec (Jvm.Cond.code x code maxLocals ret :: tables_1) room_1).applies x e0.platform about1 = true :=
  (Spec.applies_iff w_frames).mpr ⟨w_running, w_runnable, w_alone, w_named, w_hears, w_ripe, w_room, w_tables⟩
theorem atStart : AtStart classFile x code maxLocals ret World_1 tables_1 room_1 Calls_1 rest_1 Pre_1 launch0 p0 e0 about1 theMethod args0 below0 :=
  ⟨lists_1, trivial, launch0.admits_env _ _ _, launch0.least_env, fairChoices_fair.cas, fairChoices_fair.clock, w_frames, w_args, w_heap, w_applies, trivial, trivial, w_case⟩
end start1
theorem witness_1 : WitnessClaimed_1 := ⟨start1.p0, start1.e0, start1.about1, start1.theMethod, start1.args0, start1.below0, start1.atStart⟩
end Jvm.Pilot.@@N@@
