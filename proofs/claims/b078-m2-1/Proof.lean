import JvmDerived
import JvmDerived.Pilot.@@N@@Statement
import JvmDerived.Pilot.@@N@@Code
set_option linter.unusedVariables false
set_option linter.unusedSimpArgs false
@@BLOCK:NumsL.lean.txt@@
namespace Jvm.RoadKit
open Sem ClassFile Op Lib Jvm.Stand Jvm.Free Jvm.LawKit
section New
variable {p : Program} {l : Launch} {e : Env} {R : Room} {s : State} {m : MethodId} {args : Array Value} {below : List Frame} {meth : Method} {c : Code} {T : State} {locs : List Loc} {cells slots : Nat}
theorem retI (X : Stand p l e R s m args below meth c T locs cells slots) (hx : p.tables.exec = Jvm.exec) {pc : Nat} {Ls : Array Slot} {z : Int32} {rest : List Value} (hret : meth.sig.returnType = some .int) (hd : decode c.code pc = .ok (.ireturn, 1)) {fs : List Frame}
    (hl : ∀ (f : JFrame) (acts : List Action), f.method = m → f.locked = none → f.entered = [] → (doReturn e (T.setTop f) acts (some (.int z))).1 = T.setFrames fs) : Steps p.tables e below (T.setTop (mkF m pc Ls (.int z :: rest))) (T.setFrames fs) := by
  have hm' : T.vm.method? m = some meth := X.method'
  have hn : narrow .int (.int z) = .int z := rfl
  show Steps p.tables e below (T.setTop { method := m, pc := pc, locals := Ls, stack := _ :: rest, locked := none }) _
  jvm_step X.here [X.here.top, hx, hd, hm', hret, hn]
  first | (intro acts; rw [hl _ acts rfl rfl rfl]) | rw [hl _ _ rfl rfl rfl]
  exact Steps.refl _
theorem own_retL (X : Stand p l e R s m args below meth c T locs cells slots) (hx : p.tables.exec = Jvm.exec) {pc : Nat} {Ls : Array Slot} {z : Int64} {rest : List Value} (hret : meth.sig.returnType = some .long) (hd : decode c.code pc = .ok (.lreturn, 1)) {fs : List Frame}
    (hl : ∀ (f : JFrame) (acts : List Action), f.method = m → f.locked = none → f.entered = [] → (doReturn e (T.setTop f) acts (some (.long z))).1 = T.setFrames fs) : Steps p.tables e below (T.setTop (mkF m pc Ls (.long z :: rest))) (T.setFrames fs) := by
  have hm' : T.vm.method? m = some meth := X.method'
  have hn : narrow .long (.long z) = .long z := rfl
  show Steps p.tables e below (T.setTop { method := m, pc := pc, locals := Ls, stack := _ :: rest, locked := none }) _
  jvm_step X.here [X.here.top, hx, hd, hm', hret, hn]
  first | (intro acts; rw [hl _ acts rfl rfl rfl]) | rw [hl _ _ rfl rfl rfl]
  exact Steps.refl _
theorem own_retD (X : Stand p l e R s m args below meth c T locs cells slots) (hx : p.tables.exec = Jvm.exec) {pc : Nat} {Ls : Array Slot} {z : UInt64} {rest : List Value} (hret : meth.sig.returnType = some .double) (hd : decode c.code pc = .ok (.dreturn, 1)) {fs : List Frame}
    (hl : ∀ (f : JFrame) (acts : List Action), f.method = m → f.locked = none → f.entered = [] → (doReturn e (T.setTop f) acts (some (.double z))).1 = T.setFrames fs) : Steps p.tables e below (T.setTop (mkF m pc Ls (.double z :: rest))) (T.setFrames fs) := by
  have hm' : T.vm.method? m = some meth := X.method'
  have hn : narrow .double (.double z) = .double z := rfl
  show Steps p.tables e below (T.setTop { method := m, pc := pc, locals := Ls, stack := _ :: rest, locked := none }) _
  jvm_step X.here [X.here.top, hx, hd, hm', hret, hn]
  first | (intro acts; rw [hl _ acts rfl rfl rfl]) | rw [hl _ _ rfl rfl rfl]
  exact Steps.refl _
end New
end Jvm.RoadKit
namespace Jvm.Pilot.@@N@@
open Jvm Jvm.ClassFile Sem Op Lib Jvm.Free Jvm.Stand Jvm.LawKit Jvm.RoadKit Bundle Jvm.Pilot.@@N@@.Jvm.D
def own_ch (p : Int32) : Int32 := ((p &&& (127 : Int32)).toUInt32.toUInt16.toUInt32.toInt32)
def own_jk (p : Int32) : Int32 := ((((p.toUInt32 >>> ((1 : Int32) &&& 31).toUInt32).toInt32) &&& (127 : Int32)).toUInt32.toUInt16.toUInt32.toInt32)
def own_by (x : Int32) : Int32 := nar .byte (x.toInt8.toInt32)
def Bld (Z : State) (h : Heap) (n0 : Nat) (b : Addr) (c : Nat) (cs : List Int32) : Prop :=
  ∃ (d : Addr) (k : ClassId) (vs : List Value), Exa Z h b "com/example/acompte/acompte/Utf8Builder" ∧ Fld Z h b "com/example/acompte/acompte/Utf8Builder" "bytes" "[B" (.ref d) ∧ Fld Z h b "com/example/acompte/acompte/Utf8Builder" "length" "I" (.int (Int32.ofNat cs.length)) ∧ Arv Z h d k .byte (Int32.ofNat c) vs (.int 0) ∧ Exa Z h d "[B" ∧ n0 ≤ b ∧ n0 ≤ d ∧ b ≠ d ∧ cs.length ≤ c ∧ c ≤ 4 ∧ ∀ i, i < cs.length → vs.getD i (.int 0) = .int (cs.getD i 0)
theorem Bld.keep {Z : State} {h h' : Heap} {n0 : Nat} {b : Addr} {c : Nat} {cs : List Int32} (B : Bld Z h n0 b c cs) (K : Keep h h' []) : Bld Z h' n0 b c cs := by
  obtain ⟨d, k, vs, b1, b2, b3, b4, b5, r⟩ := B
  exact ⟨d, k, vs, b1.keep K, b2.keep K nin0, b3.keep K nin0, b4.keep K nin0, b5.keep K, r⟩
theorem Bld.keepwr {Z : State} {h h1 h2 : Heap} {n0 : Nat} {a b : Addr} {c sl : Nat} {v : Value} {cs : List Int32} (B : Bld Z h n0 b c cs) (K : Keep h h1 []) (W : Wr h1 h2 a sl v) (q : h.size ≤ a) : Bld Z h2 n0 b c cs := by
  obtain ⟨d, k, vs, b1, b2, b3, b4, b5, r⟩ := B
  have n1 : b ≠ a := Nat.ne_of_lt (Nat.lt_of_lt_of_le b1.lt q)
  have n2 : d ≠ a := Nat.ne_of_lt (Nat.lt_of_lt_of_le b4.lt q)
  exact ⟨d, k, vs, (b1.keep K).wr W, (b2.keep K nin0).other W (Or.inl n1), (b3.keep K nin0).other W (Or.inl n1), (b4.keep K nin0).other W n2, (b5.keep K).wr W, r⟩
theorem Bld.exa {Z : State} {h : Heap} {n0 : Nat} {b : Addr} {c : Nat} {cs : List Int32} (B : Bld Z h n0 b c cs) : Exa Z h b "com/example/acompte/acompte/Utf8Builder" := by
  obtain ⟨d, k, vs, b1, -⟩ := B; exact b1
theorem Bld.len {Z : State} {h : Heap} {n0 : Nat} {b : Addr} {c : Nat} {cs : List Int32} (B : Bld Z h n0 b c cs) : Fld Z h b "com/example/acompte/acompte/Utf8Builder" "length" "I" (.int (Int32.ofNat cs.length)) := by
  obtain ⟨d, k, vs, b1, b2, b3, -⟩ := B; exact b3
def own_max (a b : Int32) : Int32 := if a < b then b else a
def own_min (a b : Int32) : Int32 := if b < a then b else a
theorem own_toInt {c : Nat} (h : c < 100) : (Int32.ofNat c).toInt = (c : Int) := toInt_of rfl (by omega)
theorem own_clamp {c : Nat} (h : c < 100) : (Int32.ofNat c).toNatClampNeg = c := clamp_of rfl (by omega)
theorem own_nn {c : Nat} (h : c < 100) : ¬ (Int32.ofNat c < 0) := by
  rw [Int32.lt_iff_toInt_lt, own_toInt h, Int32.toInt_zero]; omega
theorem own_inj {a b : Int32} (h : a.toInt = b.toInt) : a = b := Int32.toInt_inj.mp h
theorem own_ofNat_add {a b : Nat} (h : a + b < 100) : Int32.ofNat a + Int32.ofNat b = Int32.ofNat (a + b) := by
  apply own_inj
  rw [Jvm.Kit.i32_add, own_toInt (by omega), own_toInt (by omega), own_toInt (by omega)]
  · omega
  · rw [own_toInt (by omega), own_toInt (by omega)]; omega
  · rw [own_toInt (by omega), own_toInt (by omega)]; omega
theorem own_ofNat_mul2 {a : Nat} (h : a < 40) : (2 : Int32) * Int32.ofNat a = Int32.ofNat (2 * a) := by
  have t : (2 : Int32).toInt = 2 := by decide
  apply own_inj
  rw [Jvm.Kit.i32_mul, t, own_toInt (by omega), own_toInt (by omega)]
  · omega
  · rw [t, own_toInt (by omega)]; omega
  · rw [t, own_toInt (by omega)]; omega
theorem own_lt {a b : Nat} (ha : a < 100) (hb : b < 100) : Int32.ofNat a < Int32.ofNat b ↔ a < b := by
  rw [Int32.lt_iff_toInt_lt, own_toInt ha, own_toInt hb]; omega
theorem own_max_eq {a b : Nat} (ha : a < 100) (hb : b < 100) : own_max (Int32.ofNat a) (Int32.ofNat b) = Int32.ofNat (max a b) := by
  unfold own_max
  by_cases h : a < b
  · rw [if_pos ((own_lt ha hb).mpr h), Nat.max_eq_right (by omega)]
  · rw [if_neg (fun g => h ((own_lt ha hb).mp g)), Nat.max_eq_left (by omega)]
theorem own_min_eq {a b : Nat} (ha : a < 100) (hb : b < 100) : own_min (Int32.ofNat a) (Int32.ofNat b) = Int32.ofNat (min a b) := by
  unfold own_min
  by_cases h : b < a
  · rw [if_pos ((own_lt hb ha).mpr h), Nat.min_eq_right (by omega)]
  · rw [if_neg (fun g => h ((own_lt hb ha).mp g)), Nat.min_eq_left (by omega)]
theorem own_copied {vs : List Value} {n m i : Nat} (hi : i < n) : (List.take 0 (([] : List Value) ++ List.replicate m (.int 0 : Value)) ++ (List.range n).map (fun j => vs.getD (0 + j) (.int 0)) ++ List.drop (0 + n) (([] : List Value) ++ List.replicate m (.int 0 : Value))).getD i (.int 0) = vs.getD i (.int 0) := by
  rw [List.take_zero, List.nil_append, List.getD_eq_getElem?_getD, List.getElem?_append_left (by simpa using hi)]
  simp [hi]
theorem own_set_get {vs : List Value} {cs : List Int32} {x : Int32} (hget : ∀ i, i < cs.length → vs.getD i (.int 0) = .int (cs.getD i 0)) (hlen : cs.length < 4) (i : Nat) (hi : i < cs.length + 1) : ((vs ++ List.replicate 4 (.int 0 : Value)).set cs.length (.int x)).getD i (.int 0) = .int ((cs ++ [x]).getD i 0) := by
  by_cases h : i = cs.length
  · subst h
    have hl : cs.length < (vs ++ List.replicate 4 (.int 0 : Value)).length := by simp; omega
    rw [List.getD_eq_getElem?_getD, List.getElem?_set_self hl, List.getD_eq_getElem?_getD]
    simp
  · have hi' : i < cs.length := by omega
    rw [List.getD_eq_getElem?_getD, List.getElem?_set_ne (Ne.symm h), ← List.getD_eq_getElem?_getD, pad_rep, hget i hi', List.getD_eq_getElem?_getD, List.getD_eq_getElem?_getD, List.getElem?_append_left hi']
theorem own_sel {a0 : Array Value} {Z : State} {C n d n' d' : String} (hs : (Jvm.Cond.selects C ⟨C, n, d⟩ ⟨C, n, d⟩).before a0 Z = true) (hp : (Jvm.Cond.privateMethod ⟨C, n', d'⟩).before a0 Z = true) (hi : (Jvm.Cond.instanceMethod ⟨C, n', d'⟩).before a0 Z = true) (hy : C ≠ "java/lang/invoke/MethodHandle" ∧ C ≠ "java/lang/invoke/VarHandle" := by decide) : (Jvm.Cond.selects C ⟨C, n', d'⟩ ⟨C, n', d'⟩).before a0 Z = true := by
  obtain ⟨c2, r2, m2, q1, q2, q3, q4, kP, hkP, hkPi⟩ := Cond.selects_spec hs
  have hc : Z.vm.findClass C = some m2.cls := findClass_of_methodNamed q3
  exact selects_self_of_private (y := ⟨C, n', d'⟩) hc hkP hkPi (Cond.privateMethod_at hp) hi hy
theorem own_small {x : Int32} {k : Nat} (h0 : 0 ≤ x.toInt) (hk : x.toInt < k) : ∃ j : Fin k, x = Int32.ofNat j := by
  refine ⟨⟨x.toInt.toNat, by omega⟩, ?_⟩
  apply Int32.toInt_inj.mp
  have h := x.toInt_lt
  rw [Int32.toInt_ofNat_of_lt (by show x.toInt.toNat < _; omega)]
  show x.toInt = (x.toInt.toNat : Int)
  omega
theorem own_e (p : Int32) : (p &&& (3 : Int32)) = (0 : Int32) ∨ (p &&& (3 : Int32)) = (1 : Int32) ∨ (p &&& (3 : Int32)) = (2 : Int32) ∨ (p &&& (3 : Int32)) = (3 : Int32) := by
  have e := Jvm.Kit.i32_mask p 3 (k := 2) (by decide) (by decide)
  obtain ⟨j, hj⟩ := own_small (x := p &&& 3) (k := 4) (by omega) (by omega)
  rw [hj]
  clear hj e
  revert j
  decide
theorem own_cap (p : Int32) : ∃ cap : Nat, (p &&& (3 : Int32)) = Int32.ofNat cap ∧ cap ≤ 3 := by
  rcases own_e p with h | h | h | h
  · exact ⟨0, h, by decide⟩
  · exact ⟨1, h, by decide⟩
  · exact ⟨2, h, by decide⟩
  · exact ⟨3, h, by decide⟩
theorem own_idem (x : Int32) : own_by x = x.toInt8.toInt32 := by
  unfold own_by; simp [nar]
theorem d5_0 : decode jdk_29_method_65_code 0 = .ok (.iload_n 0, 1) := by decide +kernel
theorem d5_1 : decode jdk_29_method_65_code 1 = .ok (.iload_n 1, 1) := by decide +kernel
theorem d5_2 : decode jdk_29_method_65_code 2 = .ok (.if_icmp .lt 7, 3) := by decide +kernel
theorem d5_9 : decode jdk_29_method_65_code 9 = .ok (.iload_n 1, 1) := by decide +kernel
theorem d5_10 : decode jdk_29_method_65_code 10 = .ok (.ireturn, 1) := by decide +kernel
theorem ef_5 (m : MethodId) (x0 : Int32) (x1 : Int32) : entryFrame m #[(.int x0), (.int x1)] 2 = mkF m 0 #[.val (.int x0), .val (.int x1)] [] := by first | (simp [entryFrame, mkF, argsToLocals, Value.category]; done) | rfl
def Q5 (Z : State) (p1 : Int32) (p2 : Int32) (h0 : Heap) (n0 : Nat) (v : Option Value) (h : Heap) (L : List Loc) : Prop := v = some (.int (own_max p1 p2)) ∧ Fr n0 L ∧ h = h0
set_option maxRecDepth 65536 in
set_option maxHeartbeats 40000000 in
theorem rm5_t (l : Launch) (Z : State) (a0 : Array Value) (hw : ∀ d ∈ tables_1, d.before a0 Z = true) (ws : List Jvm.Cond) (p1 : Int32) (p2 : Int32) (h0 : Heap) (n0 : Nat) (Z0 : n0 ≤ h0.size) (hc2 : p1 < p2) :
    MetFree l (⟨"java/lang/Math", "max", "(II)I"⟩ : MethodName) (head1 (Jvm.Cond.code (⟨"java/lang/Math", "max", "(II)I"⟩ : MethodName) jdk_29_method_65_code 2 (some .int) :: ws) ({ frames := 0, cells := 0, slots := 0, locals := 0 } : Room)) (fun a U => a = #[(.int p1), (.int p2)] ∧ Z.Warmed39 U.vm ∧ U.heap = h0) (fun _ _ _ _ _ => True) (fun _ U o U' => ∃ v L, o = .returned v ∧ Q5 Z p1 p2 h0 n0 v U'.heap L ∧ FrameEnd U o U' L ({ frames := 0, cells := 0, slots := 0, locals := 0 } : Room).cells ({ frames := 0, cells := 0, slots := 0, locals := 0 } : Room).slots) := by
  refine MetFree.of_bodySF (Jvm.Free.JP.mathPlain rfl (by decide +kernel)) hisR ?_
  intro p e s m args below meth c s₁ Bd hml0 hP hK
  obtain ⟨rfl, hZ, hh⟩ := hP
  have hx := Bd.exec
  have hby := Bd.bytes
  have hml : c.maxLocals = 2 := hml0
  have hown : s.vm.findClass "java/lang/Math" = some m.cls := findClass_of_methodNamed Bd.named
  have hnm := (name_of_methodNamed Bd.named Bd.method).1
  have X0 : Stand p l e ({ frames := 0, cells := 0, slots := 0, locals := 0 } : Room) s m #[(.int p1), (.int p2)] below meth c s₁ [] 0 0 := Stand.of_body Bd
  have e0 : s₁.heap = h0 := by rw [← hh, Bd.state]; rfl
  have N0 := Fr.nil n0
  have pre0 : ∀ t, Steps p.tables e below (s₁.setTop (mkF m 0 #[.val (.int p1), .val (.int p2)] [])) t → Steps p.tables e below (s₁.setTop (entryFrame m #[(.int p1), (.int p2)] 2)) t := fun t k => castTop (ef_5 m p1 p2) k
  -- 3. LAWS

  obtain ⟨fs, hr, hrun, hended, hW, hsame⟩ := X0.leave (v := some (.int p2)) (fun h => by rw [Bd.returns] at h; cases h)
  refine ⟨_, _, pre0 _ ?_, hrun, hended, _, _, rfl, ?_, ⟨_, rfl⟩, hW, hsame.mono (by decide) (by decide)⟩
  -- 4. STEPS
  · show Steps p.tables e below (s₁.setTop (mkF m 0 #[.val (.int p1), .val (.int p2)] [])) _
    refine XS.iloadN X0.here hx rfl (hb hby d5_0) rfl ?_
    show Steps p.tables e below (s₁.setTop (mkF m 1 #[.val (.int p1), .val (.int p2)] [(.int p1)])) _
    refine XS.iloadN X0.here hx rfl (hb hby d5_1) rfl ?_
    show Steps p.tables e below (s₁.setTop (mkF m 2 #[.val (.int p1), .val (.int p2)] [(.int p2), (.int p1)])) _
    refine XS.icmpYes X0.here hx rfl (pc0 := 2) (pc' := 9) rfl (hb hby d5_2) rfl (tlt hc2).1 (by decide) (by decide) ?_
    show Steps p.tables e below (s₁.setTop (mkF m 9 #[.val (.int p1), .val (.int p2)] [])) _
    refine XS.iloadN X0.here hx rfl (hb hby d5_9) rfl ?_
    show Steps p.tables e below (s₁.setTop (mkF m 10 #[.val (.int p1), .val (.int p2)] [(.int p2)])) _
    exact retI X0 hx Bd.returns (hb hby d5_10) hr      -- retI stands in the head ('lawwalk <made dir>' prints it)
  · show Q5 Z p1 p2 h0 n0 _ s₁.heap _
    rw [e0]
    exact ⟨(by unfold own_max; rw [if_pos hc2]), N0, rfl⟩
theorem d5_5 : decode jdk_29_method_65_code 5 = .ok (.iload_n 0, 1) := by decide +kernel
theorem d5_6 : decode jdk_29_method_65_code 6 = .ok (.goto 4, 3) := by decide +kernel
set_option maxRecDepth 65536 in
set_option maxHeartbeats 40000000 in
theorem rm5_f (l : Launch) (Z : State) (a0 : Array Value) (hw : ∀ d ∈ tables_1, d.before a0 Z = true) (ws : List Jvm.Cond) (p1 : Int32) (p2 : Int32) (h0 : Heap) (n0 : Nat) (Z0 : n0 ≤ h0.size) (hc2 : ¬ (p1 < p2)) :
    MetFree l (⟨"java/lang/Math", "max", "(II)I"⟩ : MethodName) (head1 (Jvm.Cond.code (⟨"java/lang/Math", "max", "(II)I"⟩ : MethodName) jdk_29_method_65_code 2 (some .int) :: ws) ({ frames := 0, cells := 0, slots := 0, locals := 0 } : Room)) (fun a U => a = #[(.int p1), (.int p2)] ∧ Z.Warmed39 U.vm ∧ U.heap = h0) (fun _ _ _ _ _ => True) (fun _ U o U' => ∃ v L, o = .returned v ∧ Q5 Z p1 p2 h0 n0 v U'.heap L ∧ FrameEnd U o U' L ({ frames := 0, cells := 0, slots := 0, locals := 0 } : Room).cells ({ frames := 0, cells := 0, slots := 0, locals := 0 } : Room).slots) := by
  refine MetFree.of_bodySF (Jvm.Free.JP.mathPlain rfl (by decide +kernel)) hisR ?_
  intro p e s m args below meth c s₁ Bd hml0 hP hK
  obtain ⟨rfl, hZ, hh⟩ := hP
  have hx := Bd.exec
  have hby := Bd.bytes
  have hml : c.maxLocals = 2 := hml0
  have hown : s.vm.findClass "java/lang/Math" = some m.cls := findClass_of_methodNamed Bd.named
  have hnm := (name_of_methodNamed Bd.named Bd.method).1
  have X0 : Stand p l e ({ frames := 0, cells := 0, slots := 0, locals := 0 } : Room) s m #[(.int p1), (.int p2)] below meth c s₁ [] 0 0 := Stand.of_body Bd
  have e0 : s₁.heap = h0 := by rw [← hh, Bd.state]; rfl
  have N0 := Fr.nil n0
  have pre0 : ∀ t, Steps p.tables e below (s₁.setTop (mkF m 0 #[.val (.int p1), .val (.int p2)] [])) t → Steps p.tables e below (s₁.setTop (entryFrame m #[(.int p1), (.int p2)] 2)) t := fun t k => castTop (ef_5 m p1 p2) k
  -- 3. LAWS

  obtain ⟨fs, hr, hrun, hended, hW, hsame⟩ := X0.leave (v := some (.int p1)) (fun h => by rw [Bd.returns] at h; cases h)
  refine ⟨_, _, pre0 _ ?_, hrun, hended, _, _, rfl, ?_, ⟨_, rfl⟩, hW, hsame.mono (by decide) (by decide)⟩
  -- 4. STEPS
  · show Steps p.tables e below (s₁.setTop (mkF m 0 #[.val (.int p1), .val (.int p2)] [])) _
    refine XS.iloadN X0.here hx rfl (hb hby d5_0) rfl ?_
    show Steps p.tables e below (s₁.setTop (mkF m 1 #[.val (.int p1), .val (.int p2)] [(.int p1)])) _
    refine XS.iloadN X0.here hx rfl (hb hby d5_1) rfl ?_
    show Steps p.tables e below (s₁.setTop (mkF m 2 #[.val (.int p1), .val (.int p2)] [(.int p2), (.int p1)])) _
    refine XS.icmpNo X0.here hx rfl (hb hby d5_2) rfl (flt hc2).1 ?_
    show Steps p.tables e below (s₁.setTop (mkF m 5 #[.val (.int p1), .val (.int p2)] [])) _
    refine XS.iloadN X0.here hx rfl (hb hby d5_5) rfl ?_
    show Steps p.tables e below (s₁.setTop (mkF m 6 #[.val (.int p1), .val (.int p2)] [(.int p1)])) _
    refine XS.goto X0.here hx rfl (pc0 := 6) (pc' := 10) rfl (hb hby d5_6) (by decide) (by decide) ?_
    show Steps p.tables e below (s₁.setTop (mkF m 10 #[.val (.int p1), .val (.int p2)] [(.int p1)])) _
    exact retI X0 hx Bd.returns (hb hby d5_10) hr      -- retI stands in the head ('lawwalk <made dir>' prints it)
  · show Q5 Z p1 p2 h0 n0 _ s₁.heap _
    rw [e0]
    exact ⟨(by unfold own_max; rw [if_neg hc2]), N0, rfl⟩
theorem rm5 (l : Launch) (Z : State) (a0 : Array Value) (hw : ∀ d ∈ tables_1, d.before a0 Z = true) (ws : List Jvm.Cond) (p1 : Int32) (p2 : Int32) (h0 : Heap) (n0 : Nat) (Z0 : n0 ≤ h0.size) :
    MetFree l (⟨"java/lang/Math", "max", "(II)I"⟩ : MethodName) (head1 (Jvm.Cond.code (⟨"java/lang/Math", "max", "(II)I"⟩ : MethodName) jdk_29_method_65_code 2 (some .int) :: ws) ({ frames := 0, cells := 0, slots := 0, locals := 0 } : Room)) (fun a U => a = #[(.int p1), (.int p2)] ∧ Z.Warmed39 U.vm ∧ U.heap = h0) (fun _ _ _ _ _ => True) (fun _ U o U' => ∃ v L, o = .returned v ∧ Q5 Z p1 p2 h0 n0 v U'.heap L ∧ FrameEnd U o U' L ({ frames := 0, cells := 0, slots := 0, locals := 0 } : Room).cells ({ frames := 0, cells := 0, slots := 0, locals := 0 } : Room).slots) := by
  by_cases hc2 : p1 < p2
  · exact rm5_t l Z a0 hw ws p1 p2 h0 n0 Z0 hc2
  · exact rm5_f l Z a0 hw ws p1 p2 h0 n0 Z0 hc2
theorem d7_0 : decode jdk_29_method_69_code 0 = .ok (.iload_n 0, 1) := by decide +kernel
theorem d7_1 : decode jdk_29_method_69_code 1 = .ok (.iload_n 1, 1) := by decide +kernel
theorem d7_2 : decode jdk_29_method_69_code 2 = .ok (.if_icmp .gt 7, 3) := by decide +kernel
theorem d7_9 : decode jdk_29_method_69_code 9 = .ok (.iload_n 1, 1) := by decide +kernel
theorem d7_10 : decode jdk_29_method_69_code 10 = .ok (.ireturn, 1) := by decide +kernel
theorem ef_7 (m : MethodId) (x0 : Int32) (x1 : Int32) : entryFrame m #[(.int x0), (.int x1)] 2 = mkF m 0 #[.val (.int x0), .val (.int x1)] [] := by first | (simp [entryFrame, mkF, argsToLocals, Value.category]; done) | rfl
def Q7 (Z : State) (p1 : Int32) (p2 : Int32) (h0 : Heap) (n0 : Nat) (v : Option Value) (h : Heap) (L : List Loc) : Prop := v = some (.int (own_min p1 p2)) ∧ Fr n0 L ∧ h = h0
set_option maxRecDepth 65536 in
set_option maxHeartbeats 40000000 in
theorem rm7_t (l : Launch) (Z : State) (a0 : Array Value) (hw : ∀ d ∈ tables_1, d.before a0 Z = true) (ws : List Jvm.Cond) (p1 : Int32) (p2 : Int32) (h0 : Heap) (n0 : Nat) (Z0 : n0 ≤ h0.size) (hc2 : p2 < p1) :
    MetFree l (⟨"java/lang/Math", "min", "(II)I"⟩ : MethodName) (head1 (Jvm.Cond.code (⟨"java/lang/Math", "min", "(II)I"⟩ : MethodName) jdk_29_method_69_code 2 (some .int) :: ws) ({ frames := 0, cells := 0, slots := 0, locals := 0 } : Room)) (fun a U => a = #[(.int p1), (.int p2)] ∧ Z.Warmed39 U.vm ∧ U.heap = h0) (fun _ _ _ _ _ => True) (fun _ U o U' => ∃ v L, o = .returned v ∧ Q7 Z p1 p2 h0 n0 v U'.heap L ∧ FrameEnd U o U' L ({ frames := 0, cells := 0, slots := 0, locals := 0 } : Room).cells ({ frames := 0, cells := 0, slots := 0, locals := 0 } : Room).slots) := by
  refine MetFree.of_bodySF (Jvm.Free.JP.mathPlain rfl (by decide +kernel)) hisR ?_
  intro p e s m args below meth c s₁ Bd hml0 hP hK
  obtain ⟨rfl, hZ, hh⟩ := hP
  have hx := Bd.exec
  have hby := Bd.bytes
  have hml : c.maxLocals = 2 := hml0
  have hown : s.vm.findClass "java/lang/Math" = some m.cls := findClass_of_methodNamed Bd.named
  have hnm := (name_of_methodNamed Bd.named Bd.method).1
  have X0 : Stand p l e ({ frames := 0, cells := 0, slots := 0, locals := 0 } : Room) s m #[(.int p1), (.int p2)] below meth c s₁ [] 0 0 := Stand.of_body Bd
  have e0 : s₁.heap = h0 := by rw [← hh, Bd.state]; rfl
  have N0 := Fr.nil n0
  have pre0 : ∀ t, Steps p.tables e below (s₁.setTop (mkF m 0 #[.val (.int p1), .val (.int p2)] [])) t → Steps p.tables e below (s₁.setTop (entryFrame m #[(.int p1), (.int p2)] 2)) t := fun t k => castTop (ef_7 m p1 p2) k
  -- 3. LAWS

  obtain ⟨fs, hr, hrun, hended, hW, hsame⟩ := X0.leave (v := some (.int p2)) (fun h => by rw [Bd.returns] at h; cases h)
  refine ⟨_, _, pre0 _ ?_, hrun, hended, _, _, rfl, ?_, ⟨_, rfl⟩, hW, hsame.mono (by decide) (by decide)⟩
  -- 4. STEPS
  · show Steps p.tables e below (s₁.setTop (mkF m 0 #[.val (.int p1), .val (.int p2)] [])) _
    refine XS.iloadN X0.here hx rfl (hb hby d7_0) rfl ?_
    show Steps p.tables e below (s₁.setTop (mkF m 1 #[.val (.int p1), .val (.int p2)] [(.int p1)])) _
    refine XS.iloadN X0.here hx rfl (hb hby d7_1) rfl ?_
    show Steps p.tables e below (s₁.setTop (mkF m 2 #[.val (.int p1), .val (.int p2)] [(.int p2), (.int p1)])) _
    refine XS.icmpYes X0.here hx rfl (pc0 := 2) (pc' := 9) rfl (hb hby d7_2) rfl (tlt hc2).2.2.1 (by decide) (by decide) ?_
    show Steps p.tables e below (s₁.setTop (mkF m 9 #[.val (.int p1), .val (.int p2)] [])) _
    refine XS.iloadN X0.here hx rfl (hb hby d7_9) rfl ?_
    show Steps p.tables e below (s₁.setTop (mkF m 10 #[.val (.int p1), .val (.int p2)] [(.int p2)])) _
    exact retI X0 hx Bd.returns (hb hby d7_10) hr      -- retI stands in the head ('lawwalk <made dir>' prints it)
  · show Q7 Z p1 p2 h0 n0 _ s₁.heap _
    rw [e0]
    exact ⟨(by unfold own_min; rw [if_pos hc2]), N0, rfl⟩
theorem d7_5 : decode jdk_29_method_69_code 5 = .ok (.iload_n 0, 1) := by decide +kernel
theorem d7_6 : decode jdk_29_method_69_code 6 = .ok (.goto 4, 3) := by decide +kernel
set_option maxRecDepth 65536 in
set_option maxHeartbeats 40000000 in
theorem rm7_f (l : Launch) (Z : State) (a0 : Array Value) (hw : ∀ d ∈ tables_1, d.before a0 Z = true) (ws : List Jvm.Cond) (p1 : Int32) (p2 : Int32) (h0 : Heap) (n0 : Nat) (Z0 : n0 ≤ h0.size) (hc2 : ¬ (p2 < p1)) :
    MetFree l (⟨"java/lang/Math", "min", "(II)I"⟩ : MethodName) (head1 (Jvm.Cond.code (⟨"java/lang/Math", "min", "(II)I"⟩ : MethodName) jdk_29_method_69_code 2 (some .int) :: ws) ({ frames := 0, cells := 0, slots := 0, locals := 0 } : Room)) (fun a U => a = #[(.int p1), (.int p2)] ∧ Z.Warmed39 U.vm ∧ U.heap = h0) (fun _ _ _ _ _ => True) (fun _ U o U' => ∃ v L, o = .returned v ∧ Q7 Z p1 p2 h0 n0 v U'.heap L ∧ FrameEnd U o U' L ({ frames := 0, cells := 0, slots := 0, locals := 0 } : Room).cells ({ frames := 0, cells := 0, slots := 0, locals := 0 } : Room).slots) := by
  refine MetFree.of_bodySF (Jvm.Free.JP.mathPlain rfl (by decide +kernel)) hisR ?_
  intro p e s m args below meth c s₁ Bd hml0 hP hK
  obtain ⟨rfl, hZ, hh⟩ := hP
  have hx := Bd.exec
  have hby := Bd.bytes
  have hml : c.maxLocals = 2 := hml0
  have hown : s.vm.findClass "java/lang/Math" = some m.cls := findClass_of_methodNamed Bd.named
  have hnm := (name_of_methodNamed Bd.named Bd.method).1
  have X0 : Stand p l e ({ frames := 0, cells := 0, slots := 0, locals := 0 } : Room) s m #[(.int p1), (.int p2)] below meth c s₁ [] 0 0 := Stand.of_body Bd
  have e0 : s₁.heap = h0 := by rw [← hh, Bd.state]; rfl
  have N0 := Fr.nil n0
  have pre0 : ∀ t, Steps p.tables e below (s₁.setTop (mkF m 0 #[.val (.int p1), .val (.int p2)] [])) t → Steps p.tables e below (s₁.setTop (entryFrame m #[(.int p1), (.int p2)] 2)) t := fun t k => castTop (ef_7 m p1 p2) k
  -- 3. LAWS

  obtain ⟨fs, hr, hrun, hended, hW, hsame⟩ := X0.leave (v := some (.int p1)) (fun h => by rw [Bd.returns] at h; cases h)
  refine ⟨_, _, pre0 _ ?_, hrun, hended, _, _, rfl, ?_, ⟨_, rfl⟩, hW, hsame.mono (by decide) (by decide)⟩
  -- 4. STEPS
  · show Steps p.tables e below (s₁.setTop (mkF m 0 #[.val (.int p1), .val (.int p2)] [])) _
    refine XS.iloadN X0.here hx rfl (hb hby d7_0) rfl ?_
    show Steps p.tables e below (s₁.setTop (mkF m 1 #[.val (.int p1), .val (.int p2)] [(.int p1)])) _
    refine XS.iloadN X0.here hx rfl (hb hby d7_1) rfl ?_
    show Steps p.tables e below (s₁.setTop (mkF m 2 #[.val (.int p1), .val (.int p2)] [(.int p2), (.int p1)])) _
    refine XS.icmpNo X0.here hx rfl (hb hby d7_2) rfl (flt hc2).2.2.1 ?_
    show Steps p.tables e below (s₁.setTop (mkF m 5 #[.val (.int p1), .val (.int p2)] [])) _
    refine XS.iloadN X0.here hx rfl (hb hby d7_5) rfl ?_
    show Steps p.tables e below (s₁.setTop (mkF m 6 #[.val (.int p1), .val (.int p2)] [(.int p1)])) _
    refine XS.goto X0.here hx rfl (pc0 := 6) (pc' := 10) rfl (hb hby d7_6) (by decide) (by decide) ?_
    show Steps p.tables e below (s₁.setTop (mkF m 10 #[.val (.int p1), .val (.int p2)] [(.int p1)])) _
    exact retI X0 hx Bd.returns (hb hby d7_10) hr      -- retI stands in the head ('lawwalk <made dir>' prints it)
  · show Q7 Z p1 p2 h0 n0 _ s₁.heap _
    rw [e0]
    exact ⟨(by unfold own_min; rw [if_neg hc2]), N0, rfl⟩
theorem rm7 (l : Launch) (Z : State) (a0 : Array Value) (hw : ∀ d ∈ tables_1, d.before a0 Z = true) (ws : List Jvm.Cond) (p1 : Int32) (p2 : Int32) (h0 : Heap) (n0 : Nat) (Z0 : n0 ≤ h0.size) :
    MetFree l (⟨"java/lang/Math", "min", "(II)I"⟩ : MethodName) (head1 (Jvm.Cond.code (⟨"java/lang/Math", "min", "(II)I"⟩ : MethodName) jdk_29_method_69_code 2 (some .int) :: ws) ({ frames := 0, cells := 0, slots := 0, locals := 0 } : Room)) (fun a U => a = #[(.int p1), (.int p2)] ∧ Z.Warmed39 U.vm ∧ U.heap = h0) (fun _ _ _ _ _ => True) (fun _ U o U' => ∃ v L, o = .returned v ∧ Q7 Z p1 p2 h0 n0 v U'.heap L ∧ FrameEnd U o U' L ({ frames := 0, cells := 0, slots := 0, locals := 0 } : Room).cells ({ frames := 0, cells := 0, slots := 0, locals := 0 } : Room).slots) := by
  by_cases hc2 : p2 < p1
  · exact rm7_t l Z a0 hw ws p1 p2 h0 n0 Z0 hc2
  · exact rm7_f l Z a0 hw ws p1 p2 h0 n0 Z0 hc2
def Q6 (Z : State) (vs : List Value) (p2 : Int32) (cN pn : Nat) (h0 : Heap) (n0 : Nat) (v : Option Value) (h : Heap) (L : List Loc) : Prop := v = some (.ref h0.size) ∧ Fr n0 L ∧ Keep h0 h [] ∧ ∃ (k' : ClassId) (us : List Value), Arv Z h h0.size k' .byte p2 us (.int 0) ∧ Exa Z h h0.size "[B" ∧ ∀ i, i < pn → i < cN → us.getD i (.int 0) = vs.getD i (.int 0)
theorem d6_0 : decode jdk_65_method_121_code 0 = .ok (.iload_n 1, 1) := by decide +kernel
theorem d6_1 : decode jdk_65_method_121_code 1 = .ok (.aload_n 0, 1) := by decide +kernel
theorem d6_2 : decode jdk_65_method_121_code 2 = .ok (.arraylength, 1) := by decide +kernel
theorem d6_3 : decode jdk_65_method_121_code 3 = .ok (.if_icmp .ne 11, 3) := by decide +kernel
theorem d6_6 : decode jdk_65_method_121_code 6 = .ok (.aload_n 0, 1) := by decide +kernel
theorem d6_7 : decode jdk_65_method_121_code 7 = .ok (.invokevirtual 310, 3) := by decide +kernel
theorem d6_10 : decode jdk_65_method_121_code 10 = .ok (.checkcast 311, 3) := by decide +kernel
theorem d6_13 : decode jdk_65_method_121_code 13 = .ok (.areturn, 1) := by decide +kernel
theorem pn_6 : plainName "java/util/Arrays" = true := by first | (simp [plainName, overriddenIn]; done) | decide +kernel
theorem pdw_0 : parseMethodDescriptor "()Ljava/lang/Object;" = some ⟨[], some (.object "java/lang/Object")⟩ := by decide +kernel
theorem ef_6 (m : MethodId) (x0 : Addr) (x1 : Int32) : entryFrame m #[(.ref x0), (.int x1)] 3 = mkF m 0 #[.val (.ref x0), .val (.int x1), .unset] [] := by first | (simp [entryFrame, mkF, argsToLocals, Value.category]; done) | rfl
set_option maxRecDepth 65536 in
set_option maxHeartbeats 40000000 in
theorem rm6_f (l : Launch) (Z : State) (a0 : Array Value) (hw : ∀ d ∈ tables_1, d.before a0 Z = true) (ws : List Jvm.Cond) (a1 : Addr) (p2 : Int32) (k : ClassId) (z : Int32) (vs : List Value) (h0 : Heap) (n0 : Nat) (Z0 : n0 ≤ h0.size) (V_a1 : Arv Z h0 a1 k .byte z vs (.int 0)) (E_a1 : Exa Z h0 a1 "[B") (cN pn : Nat) (hzc : z = Int32.ofNat cN) (hpn : p2 = Int32.ofNat pn) (hc8 : cN ≤ 8) (hp8 : pn ≤ 8) (hc3 : p2 = z) :
    MetFree l (⟨"java/util/Arrays", "copyOf", "([BI)[B"⟩ : MethodName) (head1 (Jvm.Cond.code (⟨"java/util/Arrays", "copyOf", "([BI)[B"⟩ : MethodName) jdk_65_method_121_code 3 (some (.array .byte)) :: ws) ({ frames := 1, cells := 1, slots := 8, locals := 40 } : Room)) (fun a U => a = #[(.ref a1), (.int p2)] ∧ Z.Warmed39 U.vm ∧ U.heap = h0) (fun _ _ _ _ _ => True) (fun _ U o U' => ∃ v L, o = .returned v ∧ Q6 Z vs p2 cN pn h0 n0 v U'.heap L ∧ FrameEnd U o U' L ({ frames := 1, cells := 1, slots := 8, locals := 40 } : Room).cells ({ frames := 1, cells := 1, slots := 8, locals := 40 } : Room).slots) := by
  refine MetFree.of_bodySF (plainFor_of_name pn_6) hisR ?_
  intro p e s m args below meth c s₁ Bd hml0 hP hK
  obtain ⟨rfl, hZ, hh⟩ := hP
  have V0 := V_a1
  obtain ⟨cl_a1, Ar_a1, q_a1, S_a1, N_a1, H_a1, G_a1⟩ := V0
  have hx := Bd.exec
  have hby := Bd.bytes
  have hml : c.maxLocals = 3 := hml0
  have hown : s.vm.findClass "java/util/Arrays" = some m.cls := findClass_of_methodNamed Bd.named
  have hnm := (name_of_methodNamed Bd.named Bd.method).1
  have X0 : Stand p l e ({ frames := 1, cells := 1, slots := 8, locals := 40 } : Room) s m #[(.ref a1), (.int p2)] below meth c s₁ [] 0 0 := Stand.of_body Bd
  have e0 : s₁.heap = h0 := by rw [← hh, Bd.state]; rfl
  have N0 := Fr.nil n0
  have pre0 : ∀ t, Steps p.tables e below (s₁.setTop (mkF m 0 #[.val (.ref a1), .val (.int p2), .unset] [])) t → Steps p.tables e below (s₁.setTop (entryFrame m #[(.ref a1), (.int p2)] 3)) t := fun t k => castTop (ef_6 m a1 p2) k
  -- 3. LAWS
  obtain ⟨T3, h3, X3, e3, Ex3, V3, Ec3, st3⟩ := cloneH X0 hx hZ hown (hw _ (List.mem_of_getElem? (i := 57) rfl)) (hw _ (List.mem_of_getElem? (i := 58) rfl)) (hw _ (List.mem_of_getElem? (i := 62) rfl)) (hw _ (List.mem_of_getElem? (i := 60) rfl)) (hw _ (List.mem_of_getElem? (i := 61) rfl)) (hw _ (List.mem_of_getElem? (i := 63) rfl)) e0 V_a1.arh E_a1 (g := (mkF m 7 #[.val (.ref a1), .val (.int p2), .unset] [(.ref a1)])) rfl (by rw [hml]; rfl) (rest := []) rfl (hb hby d6_7) (by decide) (W := 0) (cap := 8) (by show 2 * 0 + _ ≤ _; exact Nat.le_of_eq rfl) (by decide) (by rw [hzc, own_clamp (by omega)]; exact hc8) (by decide) (by decide)
  obtain ⟨T4, X4, e4, st4⟩ := castY X3 hx hZ hown (hw _ (List.mem_of_getElem? (i := 64) rfl)) e3 (Ins.self Ec3) (g := (mkF m 10 #[.val (.ref a1), .val (.int p2), .unset] [(.ref h0.size)])) rfl rfl (hb hby d6_10)
  obtain ⟨fs, hr, hrun, hended, hW, hsame⟩ := X4.leave (v := some (.ref h0.size)) (fun h => by rw [Bd.returns] at h; cases h)
  refine ⟨_, _, pre0 _ ?_, hrun, hended, _, _, rfl, ?_, ⟨_, rfl⟩, hW, hsame.mono (by decide) (by decide)⟩
  -- 4. STEPS
  · show Steps p.tables e below (s₁.setTop (mkF m 0 #[.val (.ref a1), .val (.int p2), .unset] [])) _
    refine XS.iloadN X0.here hx rfl (hb hby d6_0) rfl ?_
    show Steps p.tables e below (s₁.setTop (mkF m 1 #[.val (.ref a1), .val (.int p2), .unset] [(.int p2)])) _
    refine XS.aloadN X0.here hx rfl (hb hby d6_1) rfl rfl ?_
    show Steps p.tables e below (s₁.setTop (mkF m 2 #[.val (.ref a1), .val (.int p2), .unset] [(.ref a1), (.int p2)])) _
    refine X0.arraylength hx (by rw [e0]; exact Ar_a1.1) (State.isArrayOf_alike hZ.alike Ar_a1.2.1) (g := (mkF m 2 #[.val (.ref a1), .val (.int p2), .unset] [(.ref a1), (.int p2)])) rfl rfl (hb hby d6_2) _ ?_
    rw [len_of S_a1 N_a1]
    show Steps p.tables e below (s₁.setTop (mkF m 3 #[.val (.ref a1), .val (.int p2), .unset] [(.int z), (.int p2)])) _
    refine XS.icmpNo X0.here hx rfl (hb hby d6_3) rfl (teq hc3).2 ?_
    show Steps p.tables e below (s₁.setTop (mkF m 6 #[.val (.ref a1), .val (.int p2), .unset] [])) _
    refine XS.aloadN X0.here hx rfl (hb hby d6_6) rfl rfl ?_
    show Steps p.tables e below (s₁.setTop (mkF m 7 #[.val (.ref a1), .val (.int p2), .unset] [(.ref a1)])) _
    refine st3 _ ?_
    show Steps p.tables e below (T3.setTop (mkF m 10 #[.val (.ref a1), .val (.int p2), .unset] [(.ref h0.size)])) _
    refine st4 _ ?_
    show Steps p.tables e below (T4.setTop (mkF m 13 #[.val (.ref a1), .val (.int p2), .unset] [(.ref h0.size)])) _
    jvm_step X4.here [X4.here.top, hx, (hb hby d6_13), X4.method', Bd.returns, Value.isRef, FieldType.isReference]
    first | (intro acts; rw [hr _ acts rfl rfl rfl]) | rw [hr _ _ rfl rfl rfl]
    exact Steps.refl _
  · show Q6 Z vs p2 cN pn h0 n0 _ T4.heap _
    rw [e4]
    exact ⟨rfl, N0, (Keep.refl h0 []).ext Ex3, k, vs, hc3 ▸ V3, Ec3, fun _ _ _ => rfl⟩
theorem d6_14 : decode jdk_65_method_121_code 14 = .ok (.iload_n 1, 1) := by decide +kernel
theorem d6_15 : decode jdk_65_method_121_code 15 = .ok (.newarray .byte, 2) := by decide +kernel
theorem d6_17 : decode jdk_65_method_121_code 17 = .ok (.astore_n 2, 1) := by decide +kernel
theorem d6_18 : decode jdk_65_method_121_code 18 = .ok (.aload_n 0, 1) := by decide +kernel
theorem d6_19 : decode jdk_65_method_121_code 19 = .ok (.iconst 0, 1) := by decide +kernel
theorem d6_20 : decode jdk_65_method_121_code 20 = .ok (.aload_n 2, 1) := by decide +kernel
theorem d6_21 : decode jdk_65_method_121_code 21 = .ok (.iconst 0, 1) := by decide +kernel
theorem d6_22 : decode jdk_65_method_121_code 22 = .ok (.aload_n 0, 1) := by decide +kernel
theorem d6_23 : decode jdk_65_method_121_code 23 = .ok (.arraylength, 1) := by decide +kernel
theorem d6_24 : decode jdk_65_method_121_code 24 = .ok (.iload_n 1, 1) := by decide +kernel
theorem d6_25 : decode jdk_65_method_121_code 25 = .ok (.invokestatic 304, 3) := by decide +kernel
theorem d6_28 : decode jdk_65_method_121_code 28 = .ok (.invokestatic 150, 3) := by decide +kernel
theorem d6_31 : decode jdk_65_method_121_code 31 = .ok (.aload_n 2, 1) := by decide +kernel
theorem d6_32 : decode jdk_65_method_121_code 32 = .ok (.areturn, 1) := by decide +kernel
theorem pdw_1 : parseMethodDescriptor "(II)I" = some ⟨[.int, .int], some .int⟩ := by decide +kernel
theorem pdw_2 : parseMethodDescriptor "(Ljava/lang/Object;ILjava/lang/Object;II)V" = some ⟨[(.object "java/lang/Object"), .int, (.object "java/lang/Object"), .int, .int], none⟩ := by decide +kernel
set_option maxRecDepth 65536 in
set_option maxHeartbeats 40000000 in
theorem rm6_t (l : Launch) (Z : State) (a0 : Array Value) (hw : ∀ d ∈ tables_1, d.before a0 Z = true) (ws : List Jvm.Cond) (a1 : Addr) (p2 : Int32) (k : ClassId) (z : Int32) (vs : List Value) (h0 : Heap) (n0 : Nat) (Z0 : n0 ≤ h0.size) (V_a1 : Arv Z h0 a1 k .byte z vs (.int 0)) (E_a1 : Exa Z h0 a1 "[B") (cN pn : Nat) (hzc : z = Int32.ofNat cN) (hpn : p2 = Int32.ofNat pn) (hc8 : cN ≤ 8) (hp8 : pn ≤ 8) (hc3 : ¬ (p2 = z)) :
    MetFree l (⟨"java/util/Arrays", "copyOf", "([BI)[B"⟩ : MethodName) (head1 (Jvm.Cond.code (⟨"java/util/Arrays", "copyOf", "([BI)[B"⟩ : MethodName) jdk_65_method_121_code 3 (some (.array .byte)) :: ws) ({ frames := 1, cells := 1, slots := 8, locals := 40 } : Room)) (fun a U => a = #[(.ref a1), (.int p2)] ∧ Z.Warmed39 U.vm ∧ U.heap = h0) (fun _ _ _ _ _ => True) (fun _ U o U' => ∃ v L, o = .returned v ∧ Q6 Z vs p2 cN pn h0 n0 v U'.heap L ∧ FrameEnd U o U' L ({ frames := 1, cells := 1, slots := 8, locals := 40 } : Room).cells ({ frames := 1, cells := 1, slots := 8, locals := 40 } : Room).slots) := by
  refine MetFree.of_bodySF (plainFor_of_name pn_6) hisR ?_
  intro p e s m args below meth c s₁ Bd hml0 hP hK
  obtain ⟨rfl, hZ, hh⟩ := hP
  have V0 := V_a1
  obtain ⟨cl_a1, Ar_a1, q_a1, S_a1, N_a1, H_a1, G_a1⟩ := V0
  have hx := Bd.exec
  have hby := Bd.bytes
  have hml : c.maxLocals = 3 := hml0
  have hown : s.vm.findClass "java/util/Arrays" = some m.cls := findClass_of_methodNamed Bd.named
  have hnm := (name_of_methodNamed Bd.named Bd.method).1
  have X0 : Stand p l e ({ frames := 1, cells := 1, slots := 8, locals := 40 } : Room) s m #[(.ref a1), (.int p2)] below meth c s₁ [] 0 0 := Stand.of_body Bd
  have e0 : s₁.heap = h0 := by rw [← hh, Bd.state]; rfl
  have N0 := Fr.nil n0
  have pre0 : ∀ t, Steps p.tables e below (s₁.setTop (mkF m 0 #[.val (.ref a1), .val (.int p2), .unset] [])) t → Steps p.tables e below (s₁.setTop (entryFrame m #[(.ref a1), (.int p2)] 3)) t := fun t k => castTop (ef_6 m a1 p2) k
  -- 3. LAWS
  obtain ⟨T3, h3, k3, X3, e3, E3, A3, Eb3, st3⟩ := newPE X0 hx hZ (hw _ (List.mem_of_getElem? (i := 9) rfl)) e0 (g := (mkF m 15 #[.val (.ref a1), .val (.int p2), .unset] [(.int p2)])) rfl (hb hby d6_15) rfl (by rw [hpn]; exact own_nn (by omega)) (cap := 8) (by rw [hpn, own_clamp (by omega)]; exact hp8) (by decide) (by decide) (by decide) (ad := "[B") rfl
  obtain ⟨b3, g3⟩ : ∃ z, z = h0.size := ⟨_, rfl⟩      -- the fresh array's address
  rw [← g3] at A3 Eb3 st3
  have V_b3 := (Arv.new A3 (by rw [hpn]; exact own_nn (by omega))).pad (pad_rep [] (.int 0) 8)      -- Arv Z h3 b3 k3 .byte p2 [] (its first value); a place must be in the list before it's written: Arv.pad with pad_rep
  have g_b3 : n0 ≤ b3 := Nat.le_trans Z0 (Nat.le_of_eq g3.symm)
  have sz_b3 : h0.size ≤ b3 := (Nat.le_trans (Keep.refl h0 []).1 (Nat.le_of_eq g3.symm))
  have K3 : Keep h0 h3 [] := (Keep.refl h0 []).ext E3
  -- newarray of at most cap (TODO_cap: the greatest length): this body's room: slots + cap; its caller's figures: cells + 1, slots + cap
  -- ✋ yours: Ar_a1 must speak of h3 here (Ar.other W.. | .ext E..)
  -- pc 25: java/lang/Math.min by its contract rm7
  obtain ⟨_, _, ⟨T4, L4, k4, n4⟩, -, X4, ⟨Lc4, hQ4, l4, y4, z4⟩, st4⟩ := Jvm.LawKit.callS X3 hx (y := (⟨"java/lang/Math", "min", "(II)I"⟩ : MethodName)) hown (mvT hZ (hw _ (List.mem_of_getElem? (i := 31) rfl))) (mvT hZ (hw _ (List.mem_of_getElem? (i := 32) rfl))) (mvT hZ (hw _ (List.mem_of_getElem? (i := 25) rfl))) (mvT hZ (hw _ (List.mem_of_getElem? (i := 33) rfl))) (by decide) (backOf (W := 4) (rm7 l Z a0 hw [] z p2  h3 n0 (Nat.le_trans Z0 E3.1)) hZ (hw _ (List.mem_of_getElem? (i := 33) rfl)) (hw _ (List.mem_of_getElem? (i := 25) rfl)) (by decide) (by decide)) (g := (mkF m 25 #[.val (.ref a1), .val (.int p2), .val (.ref b3)] [(.int p2), (.int z), (.int (0 : Int32)), (.ref b3), (.int (0 : Int32)), (.ref a1)])) rfl (by rw [hml]; rfl) (argsL := [(.int z), (.int p2)]) (rest := [(.int (0 : Int32)), (.ref b3), (.int (0 : Int32)), (.ref a1)]) (lenOf pdw_1 rfl) rfl (by show 2 * 0 + _ ≤ _; exact Nat.le_of_eq rfl) (hb hby d6_25) (fun _ _ => ⟨rfl, e3, (by decide : 1 + 0 ≤ _), (by decide : 8 + 0 ≤ _)⟩)
  dsimp only [Pt.U, Pt.locs, Pt.cells, Pt.slots] at X4 l4 y4 z4 st4 hQ4
  subst l4 y4 z4
  obtain ⟨rfl, N4q, hh4⟩ := hQ4
  have N4 := Fr.app N0 N4q
  have hmn : own_min z p2 = Int32.ofNat (min cN pn) := by rw [hzc, hpn]; exact own_min_eq (by omega) (by omega)
  have hmc : (own_min z p2).toNatClampNeg = min cN pn := by rw [hmn]; exact own_clamp (by omega)
  have hz0 : (0 : Int32).toNatClampNeg = 0 := by decide
  obtain ⟨T5, h5, L5, X5, e5, N5, K5, V5, st5⟩ := cpA X4 hx hZ hown (hw _ (List.mem_of_getElem? (i := 34) rfl)) (hw _ (List.mem_of_getElem? (i := 37) rfl)) (hw _ (List.mem_of_getElem? (i := 35) rfl)) (hw _ (List.mem_of_getElem? (i := 36) rfl)) hh4 (V_a1.ext E3) V_b3 (Or.inl ⟨rfl, rfl⟩) (by decide) (by decide) (by rw [hmn]; exact own_nn (by omega)) (by rw [hz0, hmc, hzc, own_clamp (by omega)]; omega) (by rw [hz0, hmc, hpn, own_clamp (by omega)]; omega) rfl (by rw [hz0, hmc]; simp; omega) N4 g_b3 (g := (mkF m 28 #[.val (.ref a1), .val (.int p2), .val (.ref b3)] [(.int (own_min z p2)), (.int (0 : Int32)), (.ref b3), (.int (0 : Int32)), (.ref a1)])) rfl (by rw [hml]; rfl) (rest := []) rfl (hb hby d6_28) (by decide) (W := 0) (by show 2 * 0 + _ ≤ _; exact Nat.le_of_eq rfl) (by decide)
  obtain ⟨fs, hr, hrun, hended, hW, hsame⟩ := X5.leave (v := some (.ref b3)) (fun h => by rw [Bd.returns] at h; cases h)
  refine ⟨_, _, pre0 _ ?_, hrun, hended, _, _, rfl, ?_, ⟨_, rfl⟩, hW, hsame.mono (by decide) (by decide)⟩
  -- 4. STEPS
  · show Steps p.tables e below (s₁.setTop (mkF m 0 #[.val (.ref a1), .val (.int p2), .unset] [])) _
    refine XS.iloadN X0.here hx rfl (hb hby d6_0) rfl ?_
    show Steps p.tables e below (s₁.setTop (mkF m 1 #[.val (.ref a1), .val (.int p2), .unset] [(.int p2)])) _
    refine XS.aloadN X0.here hx rfl (hb hby d6_1) rfl rfl ?_
    show Steps p.tables e below (s₁.setTop (mkF m 2 #[.val (.ref a1), .val (.int p2), .unset] [(.ref a1), (.int p2)])) _
    refine X0.arraylength hx (by rw [e0]; exact Ar_a1.1) (State.isArrayOf_alike hZ.alike Ar_a1.2.1) (g := (mkF m 2 #[.val (.ref a1), .val (.int p2), .unset] [(.ref a1), (.int p2)])) rfl rfl (hb hby d6_2) _ ?_
    rw [len_of S_a1 N_a1]
    show Steps p.tables e below (s₁.setTop (mkF m 3 #[.val (.ref a1), .val (.int p2), .unset] [(.int z), (.int p2)])) _
    refine XS.icmpYes X0.here hx rfl (pc0 := 3) (pc' := 14) rfl (hb hby d6_3) rfl (feq hc3).2 (by decide) (by decide) ?_
    show Steps p.tables e below (s₁.setTop (mkF m 14 #[.val (.ref a1), .val (.int p2), .unset] [])) _
    refine XS.iloadN X0.here hx rfl (hb hby d6_14) rfl ?_
    show Steps p.tables e below (s₁.setTop (mkF m 15 #[.val (.ref a1), .val (.int p2), .unset] [(.int p2)])) _
    refine st3 _ ?_
    show Steps p.tables e below (T3.setTop (mkF m 17 #[.val (.ref a1), .val (.int p2), .unset] [(.ref b3)])) _
    refine XS.astoreN X3.here hx rfl (hb hby d6_17) rfl rfl (l' := #[.val (.ref a1), .val (.int p2), .val (.ref b3)]) rfl ?_
    show Steps p.tables e below (T3.setTop (mkF m 18 #[.val (.ref a1), .val (.int p2), .val (.ref b3)] [])) _
    refine XS.aloadN X3.here hx rfl (hb hby d6_18) rfl rfl ?_
    show Steps p.tables e below (T3.setTop (mkF m 19 #[.val (.ref a1), .val (.int p2), .val (.ref b3)] [(.ref a1)])) _
    refine XS.iconst X3.here hx rfl (hb hby d6_19) ?_
    show Steps p.tables e below (T3.setTop (mkF m 20 #[.val (.ref a1), .val (.int p2), .val (.ref b3)] [(.int (0 : Int32)), (.ref a1)])) _
    refine XS.aloadN X3.here hx rfl (hb hby d6_20) rfl rfl ?_
    show Steps p.tables e below (T3.setTop (mkF m 21 #[.val (.ref a1), .val (.int p2), .val (.ref b3)] [(.ref b3), (.int (0 : Int32)), (.ref a1)])) _
    refine XS.iconst X3.here hx rfl (hb hby d6_21) ?_
    show Steps p.tables e below (T3.setTop (mkF m 22 #[.val (.ref a1), .val (.int p2), .val (.ref b3)] [(.int (0 : Int32)), (.ref b3), (.int (0 : Int32)), (.ref a1)])) _
    refine XS.aloadN X3.here hx rfl (hb hby d6_22) rfl rfl ?_
    show Steps p.tables e below (T3.setTop (mkF m 23 #[.val (.ref a1), .val (.int p2), .val (.ref b3)] [(.ref a1), (.int (0 : Int32)), (.ref b3), (.int (0 : Int32)), (.ref a1)])) _
    refine X3.arraylength hx (by rw [e3]; exact (Ar_a1.ext E3).1) (State.isArrayOf_alike hZ.alike (Ar_a1.ext E3).2.1) (g := (mkF m 23 #[.val (.ref a1), .val (.int p2), .val (.ref b3)] [(.ref a1), (.int (0 : Int32)), (.ref b3), (.int (0 : Int32)), (.ref a1)])) rfl rfl (hb hby d6_23) _ ?_
    rw [len_of S_a1 N_a1]
    show Steps p.tables e below (T3.setTop (mkF m 24 #[.val (.ref a1), .val (.int p2), .val (.ref b3)] [(.int z), (.int (0 : Int32)), (.ref b3), (.int (0 : Int32)), (.ref a1)])) _
    refine XS.iloadN X3.here hx rfl (hb hby d6_24) rfl ?_
    show Steps p.tables e below (T3.setTop (mkF m 25 #[.val (.ref a1), .val (.int p2), .val (.ref b3)] [(.int p2), (.int z), (.int (0 : Int32)), (.ref b3), (.int (0 : Int32)), (.ref a1)])) _
    refine st4 _ ?_
    show Steps p.tables e below (T4.setTop (mkF m 28 #[.val (.ref a1), .val (.int p2), .val (.ref b3)] [(.int (own_min z p2)), (.int (0 : Int32)), (.ref b3), (.int (0 : Int32)), (.ref a1)])) _
    refine st5 _ ?_
    show Steps p.tables e below (T5.setTop (mkF m 31 #[.val (.ref a1), .val (.int p2), .val (.ref b3)] [])) _
    refine XS.aloadN X5.here hx rfl (hb hby d6_31) rfl rfl ?_
    show Steps p.tables e below (T5.setTop (mkF m 32 #[.val (.ref a1), .val (.int p2), .val (.ref b3)] [(.ref b3)])) _
    jvm_step X5.here [X5.here.top, hx, (hb hby d6_32), X5.method', Bd.returns, Value.isRef, FieldType.isReference]
    first | (intro acts; rw [hr _ acts rfl rfl rfl]) | rw [hr _ _ rfl rfl rfl]
    exact Steps.refl _
  · show Q6 Z vs p2 cN pn h0 n0 _ T5.heap _
    rw [e5]
    refine ⟨by rw [g3], N5, K3.trans K5 (allS (Or.inr sz_b3) all0), k3, _, g3 ▸ V5, (g3 ▸ Eb3).keep K5, ?_⟩
    intro i hi hi'
    rw [hz0, hmc]
    exact own_copied (m := 8) (by omega)
theorem rm6 (l : Launch) (Z : State) (a0 : Array Value) (hw : ∀ d ∈ tables_1, d.before a0 Z = true) (ws : List Jvm.Cond) (a1 : Addr) (p2 : Int32) (k : ClassId) (z : Int32) (vs : List Value) (h0 : Heap) (n0 : Nat) (Z0 : n0 ≤ h0.size) (V_a1 : Arv Z h0 a1 k .byte z vs (.int 0)) (E_a1 : Exa Z h0 a1 "[B") (cN pn : Nat) (hzc : z = Int32.ofNat cN) (hpn : p2 = Int32.ofNat pn) (hc8 : cN ≤ 8) (hp8 : pn ≤ 8) :
    MetFree l (⟨"java/util/Arrays", "copyOf", "([BI)[B"⟩ : MethodName) (head1 (Jvm.Cond.code (⟨"java/util/Arrays", "copyOf", "([BI)[B"⟩ : MethodName) jdk_65_method_121_code 3 (some (.array .byte)) :: ws) ({ frames := 1, cells := 1, slots := 8, locals := 40 } : Room)) (fun a U => a = #[(.ref a1), (.int p2)] ∧ Z.Warmed39 U.vm ∧ U.heap = h0) (fun _ _ _ _ _ => True) (fun _ U o U' => ∃ v L, o = .returned v ∧ Q6 Z vs p2 cN pn h0 n0 v U'.heap L ∧ FrameEnd U o U' L ({ frames := 1, cells := 1, slots := 8, locals := 40 } : Room).cells ({ frames := 1, cells := 1, slots := 8, locals := 40 } : Room).slots) := by
  by_cases hc3 : p2 = z
  · exact rm6_f l Z a0 hw ws a1 p2 k z vs h0 n0 Z0 V_a1 E_a1 cN pn hzc hpn hc8 hp8 hc3
  · exact rm6_t l Z a0 hw ws a1 p2 k z vs h0 n0 Z0 V_a1 E_a1 cN pn hzc hpn hc8 hp8 hc3
def Q4 (Z : State) (a1 : Addr) (cs : List Int32) (h0 : Heap) (n0 : Nat) (v : Option Value) (h : Heap) (L : List Loc) : Prop := v = none ∧ Fr n0 L ∧ h0.size ≤ h.size ∧ ∃ c', cs.length + 1 ≤ c' ∧ Bld Z h n0 a1 c' cs
theorem d4_0 : decode prog_64_method_12_code 0 = .ok (.aload_n 0, 1) := by decide +kernel
theorem d4_1 : decode prog_64_method_12_code 1 = .ok (.getfield 13, 3) := by decide +kernel
theorem d4_4 : decode prog_64_method_12_code 4 = .ok (.iload_n 1, 1) := by decide +kernel
theorem d4_5 : decode prog_64_method_12_code 5 = .ok (.iadd, 1) := by decide +kernel
theorem d4_6 : decode prog_64_method_12_code 6 = .ok (.aload_n 0, 1) := by decide +kernel
theorem d4_7 : decode prog_64_method_12_code 7 = .ok (.getfield 7, 3) := by decide +kernel
theorem d4_10 : decode prog_64_method_12_code 10 = .ok (.arraylength, 1) := by decide +kernel
theorem d4_11 : decode prog_64_method_12_code 11 = .ok (.if_icmp .le 30, 3) := by decide +kernel
theorem d4_41 : decode prog_64_method_12_code 41 = .ok (.return_, 1) := by decide +kernel
theorem pn_4 : plainName "com/example/acompte/acompte/Utf8Builder" = true := by first | (simp [plainName, overriddenIn]; done) | decide +kernel
theorem ef_4 (m : MethodId) (x0 : Addr) (x1 : Int32) : entryFrame m #[(.ref x0), (.int x1)] 2 = mkF m 0 #[.val (.ref x0), .val (.int x1)] [] := by first | (simp [entryFrame, mkF, argsToLocals, Value.category]; done) | rfl
set_option maxRecDepth 65536 in
set_option maxHeartbeats 40000000 in
theorem rm4_t (l : Launch) (Z : State) (a0 : Array Value) (hw : ∀ d ∈ tables_1, d.before a0 Z = true) (ws : List Jvm.Cond) (a1 : Addr) (p2 : Int32) (cN : Nat) (cs : List Int32) (h0 : Heap) (n0 : Nat) (Z0 : n0 ≤ h0.size) (B : Bld Z h0 n0 a1 cN cs) (hl : cs.length ≤ 2) (hp : p2 = (1 : Int32)) (hcap : cs.length + 1 ≤ cN) :
    MetFree l (⟨"com/example/acompte/acompte/Utf8Builder", "room", "(I)V"⟩ : MethodName) (head1 (Jvm.Cond.code (⟨"com/example/acompte/acompte/Utf8Builder", "room", "(I)V"⟩ : MethodName) prog_64_method_12_code 2 none :: ws) ({ frames := 2, cells := 1, slots := 8, locals := 60 } : Room)) (fun a U => a = #[(.ref a1), (.int p2)] ∧ Z.Warmed39 U.vm ∧ U.heap = h0) (fun _ _ _ _ _ => True) (fun _ U o U' => ∃ v L, o = .returned v ∧ Q4 Z a1 cs h0 n0 v U'.heap L ∧ FrameEnd U o U' L ({ frames := 2, cells := 1, slots := 8, locals := 60 } : Room).cells ({ frames := 2, cells := 1, slots := 8, locals := 60 } : Room).slots) := by
  refine MetFree.of_bodySF (plainFor_of_name pn_4) hisR ?_
  intro p e s m args below meth c s₁ Bd hml0 hP hK
  obtain ⟨rfl, hZ, hh⟩ := hP
  have B0 := B
  obtain ⟨w5, kk, vs, E_a1, F_bytes_a1, F_length_a1, V, Ed, g_a1, g_w5, nbd, hlc, hc4, hget⟩ := B0
  have V0 := V
  obtain ⟨cl_w5, Ar_w5, q_w5, S_w5, N_w5, H_w5, G_w5⟩ := V0
  have w31 : Int32.ofNat cs.length + p2 = Int32.ofNat (cs.length + 1) := by rw [hp]; exact own_ofNat_add (b := 1) (by omega)
  have hc11 : ¬ (Int32.ofNat cN < Int32.ofNat cs.length + p2) := by rw [w31, own_lt (by omega) (by omega)]; omega
  have hx := Bd.exec
  have hby := Bd.bytes
  have hml : c.maxLocals = 2 := hml0
  have hown : s.vm.findClass "com/example/acompte/acompte/Utf8Builder" = some m.cls := findClass_of_methodNamed Bd.named
  have hnm := (name_of_methodNamed Bd.named Bd.method).1
  have X0 : Stand p l e ({ frames := 2, cells := 1, slots := 8, locals := 60 } : Room) s m #[(.ref a1), (.int p2)] below meth c s₁ [] 0 0 := Stand.of_body Bd
  have e0 : s₁.heap = h0 := by rw [← hh, Bd.state]; rfl
  have N0 := Fr.nil n0
  have pre0 : ∀ t, Steps p.tables e below (s₁.setTop (mkF m 0 #[.val (.ref a1), .val (.int p2)] [])) t → Steps p.tables e below (s₁.setTop (entryFrame m #[(.ref a1), (.int p2)] 2)) t := fun t k => castTop (ef_4 m a1 p2) k
  -- 3. LAWS
  obtain ⟨T4, X4, e4, st4⟩ := getF X0 hx hZ hown (host := "") (Or.inl (hw _ (List.mem_of_getElem? (i := 21) rfl))) Via.refl e0 F_length_a1 (g := (mkF m 1 #[.val (.ref a1), .val (.int p2)] [(.ref a1)])) rfl rfl (hb hby d4_1)
  obtain ⟨T6, X6, e6, st6⟩ := getF X4 hx hZ hown (host := "") (Or.inl (hw _ (List.mem_of_getElem? (i := 10) rfl))) Via.refl e4 F_bytes_a1 (g := (mkF m 7 #[.val (.ref a1), .val (.int p2)] [(.ref a1), (.int ((Int32.ofNat cs.length) + p2))])) rfl rfl (hb hby d4_7)
  obtain ⟨fs, hr, hrun, hended, hW, hsame⟩ := X6.leave (v := none) (fun _ => rfl)
  refine ⟨_, _, pre0 _ ?_, hrun, hended, _, _, rfl, ?_, ⟨_, rfl⟩, hW, hsame.mono (by decide) (by decide)⟩
  -- 4. STEPS
  · show Steps p.tables e below (s₁.setTop (mkF m 0 #[.val (.ref a1), .val (.int p2)] [])) _
    refine XS.aloadN X0.here hx rfl (hb hby d4_0) rfl rfl ?_
    show Steps p.tables e below (s₁.setTop (mkF m 1 #[.val (.ref a1), .val (.int p2)] [(.ref a1)])) _
    refine st4 _ ?_
    show Steps p.tables e below (T4.setTop (mkF m 4 #[.val (.ref a1), .val (.int p2)] [(.int (Int32.ofNat cs.length))])) _
    refine XS.iloadN X4.here hx rfl (hb hby d4_4) rfl ?_
    show Steps p.tables e below (T4.setTop (mkF m 5 #[.val (.ref a1), .val (.int p2)] [(.int p2), (.int (Int32.ofNat cs.length))])) _
    refine XS.iadd X4.here hx rfl (hb hby d4_5) rfl ?_
    show Steps p.tables e below (T4.setTop (mkF m 6 #[.val (.ref a1), .val (.int p2)] [(.int ((Int32.ofNat cs.length) + p2))])) _
    refine XS.aloadN X4.here hx rfl (hb hby d4_6) rfl rfl ?_
    show Steps p.tables e below (T4.setTop (mkF m 7 #[.val (.ref a1), .val (.int p2)] [(.ref a1), (.int ((Int32.ofNat cs.length) + p2))])) _
    refine st6 _ ?_
    show Steps p.tables e below (T6.setTop (mkF m 10 #[.val (.ref a1), .val (.int p2)] [(.ref w5), (.int ((Int32.ofNat cs.length) + p2))])) _
    refine X6.arraylength hx (by rw [e6]; exact Ar_w5.1) (State.isArrayOf_alike hZ.alike Ar_w5.2.1) (g := (mkF m 10 #[.val (.ref a1), .val (.int p2)] [(.ref w5), (.int ((Int32.ofNat cs.length) + p2))])) rfl rfl (hb hby d4_10) _ ?_
    rw [len_of S_w5 N_w5]
    show Steps p.tables e below (T6.setTop (mkF m 11 #[.val (.ref a1), .val (.int p2)] [(.int (Int32.ofNat cN)), (.int ((Int32.ofNat cs.length) + p2))])) _
    refine XS.icmpYes X6.here hx rfl (pc0 := 11) (pc' := 41) rfl (hb hby d4_11) rfl (flt hc11).2.2.2 (by decide) (by decide) ?_
    show Steps p.tables e below (T6.setTop (mkF m 41 #[.val (.ref a1), .val (.int p2)] [])) _
    exact X6.returnOut hx Bd.returns (hb hby d4_41) hr
  · show Q4 Z a1 cs h0 n0 _ T6.heap _
    rw [e6]
    exact ⟨rfl, N0, Nat.le_refl _, cN, hcap, B⟩
theorem d4_14 : decode prog_64_method_12_code 14 = .ok (.aload_n 0, 1) := by decide +kernel
theorem d4_15 : decode prog_64_method_12_code 15 = .ok (.aload_n 0, 1) := by decide +kernel
theorem d4_16 : decode prog_64_method_12_code 16 = .ok (.getfield 7, 3) := by decide +kernel
theorem d4_19 : decode prog_64_method_12_code 19 = .ok (.aload_n 0, 1) := by decide +kernel
theorem d4_20 : decode prog_64_method_12_code 20 = .ok (.getfield 13, 3) := by decide +kernel
theorem d4_23 : decode prog_64_method_12_code 23 = .ok (.iload_n 1, 1) := by decide +kernel
theorem d4_24 : decode prog_64_method_12_code 24 = .ok (.iadd, 1) := by decide +kernel
theorem d4_25 : decode prog_64_method_12_code 25 = .ok (.iconst 2, 1) := by decide +kernel
theorem d4_26 : decode prog_64_method_12_code 26 = .ok (.aload_n 0, 1) := by decide +kernel
theorem d4_27 : decode prog_64_method_12_code 27 = .ok (.getfield 7, 3) := by decide +kernel
theorem d4_30 : decode prog_64_method_12_code 30 = .ok (.arraylength, 1) := by decide +kernel
theorem d4_31 : decode prog_64_method_12_code 31 = .ok (.imul, 1) := by decide +kernel
theorem d4_32 : decode prog_64_method_12_code 32 = .ok (.invokestatic 58, 3) := by decide +kernel
theorem d4_35 : decode prog_64_method_12_code 35 = .ok (.invokestatic 74, 3) := by decide +kernel
theorem d4_38 : decode prog_64_method_12_code 38 = .ok (.putfield 7, 3) := by decide +kernel
theorem pdw_3 : parseMethodDescriptor "([BI)[B" = some ⟨[(.array .byte), .int], some (.array .byte)⟩ := by decide +kernel
set_option maxRecDepth 65536 in
set_option maxHeartbeats 40000000 in
theorem rm4_f (l : Launch) (Z : State) (a0 : Array Value) (hw : ∀ d ∈ tables_1, d.before a0 Z = true) (ws : List Jvm.Cond) (a1 : Addr) (p2 : Int32) (cN : Nat) (cs : List Int32) (h0 : Heap) (n0 : Nat) (Z0 : n0 ≤ h0.size) (B : Bld Z h0 n0 a1 cN cs) (hl : cs.length ≤ 2) (hp : p2 = (1 : Int32)) (hcap : ¬ (cs.length + 1 ≤ cN)) :
    MetFree l (⟨"com/example/acompte/acompte/Utf8Builder", "room", "(I)V"⟩ : MethodName) (head1 (Jvm.Cond.code (⟨"com/example/acompte/acompte/Utf8Builder", "room", "(I)V"⟩ : MethodName) prog_64_method_12_code 2 none :: ws) ({ frames := 2, cells := 1, slots := 8, locals := 60 } : Room)) (fun a U => a = #[(.ref a1), (.int p2)] ∧ Z.Warmed39 U.vm ∧ U.heap = h0) (fun _ _ _ _ _ => True) (fun _ U o U' => ∃ v L, o = .returned v ∧ Q4 Z a1 cs h0 n0 v U'.heap L ∧ FrameEnd U o U' L ({ frames := 2, cells := 1, slots := 8, locals := 60 } : Room).cells ({ frames := 2, cells := 1, slots := 8, locals := 60 } : Room).slots) := by
  refine MetFree.of_bodySF (plainFor_of_name pn_4) hisR ?_
  intro p e s m args below meth c s₁ Bd hml0 hP hK
  obtain ⟨rfl, hZ, hh⟩ := hP
  have B0 := B
  obtain ⟨w5, kk, vs, E_a1, F_bytes_a1, F_length_a1, V, Ed, g_a1, g_w5, nbd, hlc, hc4, hget⟩ := B0
  have V0 := V
  obtain ⟨cl_w5, Ar_w5, q_w5, S_w5, N_w5, H_w5, G_w5⟩ := V0
  have w31 : Int32.ofNat cs.length + p2 = Int32.ofNat (cs.length + 1) := by rw [hp]; exact own_ofNat_add (b := 1) (by omega)
  have hc11 : Int32.ofNat cN < Int32.ofNat cs.length + p2 := by rw [w31, own_lt (by omega) (by omega)]; omega
  have hmx : (own_max ((Int32.ofNat cs.length) + p2) ((2 : Int32) * (Int32.ofNat cN))) = Int32.ofNat (max (cs.length + 1) (2 * cN)) := by rw [w31, own_ofNat_mul2 (by omega)]; exact own_max_eq (by omega) (by omega)
  have hx := Bd.exec
  have hby := Bd.bytes
  have hml : c.maxLocals = 2 := hml0
  have hown : s.vm.findClass "com/example/acompte/acompte/Utf8Builder" = some m.cls := findClass_of_methodNamed Bd.named
  have hnm := (name_of_methodNamed Bd.named Bd.method).1
  have X0 : Stand p l e ({ frames := 2, cells := 1, slots := 8, locals := 60 } : Room) s m #[(.ref a1), (.int p2)] below meth c s₁ [] 0 0 := Stand.of_body Bd
  have e0 : s₁.heap = h0 := by rw [← hh, Bd.state]; rfl
  have N0 := Fr.nil n0
  have pre0 : ∀ t, Steps p.tables e below (s₁.setTop (mkF m 0 #[.val (.ref a1), .val (.int p2)] [])) t → Steps p.tables e below (s₁.setTop (entryFrame m #[(.ref a1), (.int p2)] 2)) t := fun t k => castTop (ef_4 m a1 p2) k
  -- 3. LAWS
  obtain ⟨T4, X4, e4, st4⟩ := getF X0 hx hZ hown (host := "") (Or.inl (hw _ (List.mem_of_getElem? (i := 21) rfl))) Via.refl e0 F_length_a1 (g := (mkF m 1 #[.val (.ref a1), .val (.int p2)] [(.ref a1)])) rfl rfl (hb hby d4_1)
  obtain ⟨T6, X6, e6, st6⟩ := getF X4 hx hZ hown (host := "") (Or.inl (hw _ (List.mem_of_getElem? (i := 10) rfl))) Via.refl e4 F_bytes_a1 (g := (mkF m 7 #[.val (.ref a1), .val (.int p2)] [(.ref a1), (.int ((Int32.ofNat cs.length) + p2))])) rfl rfl (hb hby d4_7)
  obtain ⟨T7, X7, e7, st7⟩ := getF X6 hx hZ hown (host := "") (Or.inl (hw _ (List.mem_of_getElem? (i := 10) rfl))) Via.refl e6 F_bytes_a1 (g := (mkF m 16 #[.val (.ref a1), .val (.int p2)] [(.ref a1), (.ref a1)])) rfl rfl (hb hby d4_16)
  obtain ⟨T8, X8, e8, st8⟩ := getF X7 hx hZ hown (host := "") (Or.inl (hw _ (List.mem_of_getElem? (i := 21) rfl))) Via.refl e7 F_length_a1 (g := (mkF m 20 #[.val (.ref a1), .val (.int p2)] [(.ref a1), (.ref w5), (.ref a1)])) rfl rfl (hb hby d4_20)
  obtain ⟨T9, X9, e9, st9⟩ := getF X8 hx hZ hown (host := "") (Or.inl (hw _ (List.mem_of_getElem? (i := 10) rfl))) Via.refl e8 F_bytes_a1 (g := (mkF m 27 #[.val (.ref a1), .val (.int p2)] [(.ref a1), (.int (2 : Int32)), (.int ((Int32.ofNat cs.length) + p2)), (.ref w5), (.ref a1)])) rfl rfl (hb hby d4_27)
  -- pc 32: java/lang/Math.max by its contract rm5
  obtain ⟨_, _, ⟨T10, L10, k10, n10⟩, -, X10, ⟨Lc10, hQ10, l10, y10, z10⟩, st10⟩ := Jvm.LawKit.callS X9 hx (y := (⟨"java/lang/Math", "max", "(II)I"⟩ : MethodName)) hown (mvT hZ (hw _ (List.mem_of_getElem? (i := 23) rfl))) (mvT hZ (hw _ (List.mem_of_getElem? (i := 24) rfl))) (mvT hZ (hw _ (List.mem_of_getElem? (i := 25) rfl))) (mvT hZ (hw _ (List.mem_of_getElem? (i := 26) rfl))) (by decide) (backOf (W := 2) (rm5 l Z a0 hw [] ((Int32.ofNat cs.length) + p2) ((2 : Int32) * (Int32.ofNat cN))  h0 n0 Z0) hZ (hw _ (List.mem_of_getElem? (i := 26) rfl)) (hw _ (List.mem_of_getElem? (i := 25) rfl)) (by decide) (by decide)) (g := (mkF m 32 #[.val (.ref a1), .val (.int p2)] [(.int ((2 : Int32) * (Int32.ofNat cN))), (.int ((Int32.ofNat cs.length) + p2)), (.ref w5), (.ref a1)])) rfl (by rw [hml]; rfl) (argsL := [(.int ((Int32.ofNat cs.length) + p2)), (.int ((2 : Int32) * (Int32.ofNat cN)))]) (rest := [(.ref w5), (.ref a1)]) (lenOf pdw_1 rfl) rfl (by show 2 * 0 + _ ≤ _; exact Nat.le_of_eq rfl) (hb hby d4_32) (fun _ _ => ⟨rfl, e9, (by decide : 0 + 0 ≤ _), (by decide : 0 + 0 ≤ _)⟩)
  dsimp only [Pt.U, Pt.locs, Pt.cells, Pt.slots] at X10 l10 y10 z10 st10 hQ10
  subst l10 y10 z10
  obtain ⟨rfl, N10q, hh10⟩ := hQ10
  have N10 := Fr.app N0 N10q
  -- pc 35: java/util/Arrays.copyOf by its contract rm6
  obtain ⟨_, _, ⟨T11, L11, k11, n11⟩, -, X11, ⟨Lc11, hQ11, l11, y11, z11⟩, st11⟩ := Jvm.LawKit.callS X10 hx (y := (⟨"java/util/Arrays", "copyOf", "([BI)[B"⟩ : MethodName)) hown (mvT hZ (hw _ (List.mem_of_getElem? (i := 27) rfl))) (mvT hZ (hw _ (List.mem_of_getElem? (i := 28) rfl))) (mvT hZ (hw _ (List.mem_of_getElem? (i := 29) rfl))) (mvT hZ (hw _ (List.mem_of_getElem? (i := 30) rfl))) (by decide) (backOf (W := 1) (rm6 l Z a0 hw [] w5 (own_max ((Int32.ofNat cs.length) + p2) ((2 : Int32) * (Int32.ofNat cN))) kk (Int32.ofNat cN) vs h0 n0 Z0 V Ed cN (max (cs.length + 1) (2 * cN)) rfl hmx (by omega) (by omega)) hZ (hw _ (List.mem_of_getElem? (i := 30) rfl)) (hw _ (List.mem_of_getElem? (i := 29) rfl)) (by decide) (by decide)) (g := (mkF m 35 #[.val (.ref a1), .val (.int p2)] [(.int (own_max ((Int32.ofNat cs.length) + p2) ((2 : Int32) * (Int32.ofNat cN)))), (.ref w5), (.ref a1)])) rfl (by rw [hml]; rfl) (argsL := [(.ref w5), (.int (own_max ((Int32.ofNat cs.length) + p2) ((2 : Int32) * (Int32.ofNat cN))))]) (rest := [(.ref a1)]) (lenOf pdw_3 rfl) rfl (by show 2 * 0 + _ ≤ _; exact Nat.le_of_eq rfl) (hb hby d4_35) (fun _ _ => ⟨rfl, hh10, (by decide : 0 + 1 ≤ _), (by decide : 0 + 8 ≤ _)⟩)
  dsimp only [Pt.U, Pt.locs, Pt.cells, Pt.slots] at X11 l11 y11 z11 st11 hQ11
  subst l11 y11 z11
  obtain ⟨rfl, N11q, K11, k', us, V11, E11, hus⟩ := hQ11
  have N11 := Fr.app N10 N11q
  obtain ⟨T12, h12, X12, e12, W12, st12⟩ := putF X11 hx hZ hown (host := "") (Or.inl (hw _ (List.mem_of_getElem? (i := 10) rfl))) Via.refl rfl (F_bytes_a1.keep K11 nin0) ((E_a1).keep K11) (Or.inl (hw _ (List.mem_of_getElem? (i := 11) rfl))) (hw _ (List.mem_of_getElem? (i := 1) rfl)) (ty := (.array .byte)) (by decide) rfl rfl (g := (mkF m 38 #[.val (.ref a1), .val (.int p2)] [(.ref h0.size), (.ref a1)])) rfl rfl (hb hby d4_38)
  have Fw12 := (F_bytes_a1.keep K11 nin0).same W12      -- the field now holds (.ref h0.size)
  have K12 : Keep h0 h12 [a1] := ((Keep.refl h0 [a1]).trans K11 all0).wr W12 (Or.inl (List.mem_of_getElem? (i := 0) rfl))
  have N12 := Fr.snoc X12 N11 g_a1
  obtain ⟨fs, hr, hrun, hended, hW, hsame⟩ := X12.leave (v := none) (fun _ => rfl)
  refine ⟨_, _, pre0 _ ?_, hrun, hended, _, _, rfl, ?_, ⟨_, rfl⟩, hW, hsame.mono (by decide) (by decide)⟩
  -- 4. STEPS
  · show Steps p.tables e below (s₁.setTop (mkF m 0 #[.val (.ref a1), .val (.int p2)] [])) _
    refine XS.aloadN X0.here hx rfl (hb hby d4_0) rfl rfl ?_
    show Steps p.tables e below (s₁.setTop (mkF m 1 #[.val (.ref a1), .val (.int p2)] [(.ref a1)])) _
    refine st4 _ ?_
    show Steps p.tables e below (T4.setTop (mkF m 4 #[.val (.ref a1), .val (.int p2)] [(.int (Int32.ofNat cs.length))])) _
    refine XS.iloadN X4.here hx rfl (hb hby d4_4) rfl ?_
    show Steps p.tables e below (T4.setTop (mkF m 5 #[.val (.ref a1), .val (.int p2)] [(.int p2), (.int (Int32.ofNat cs.length))])) _
    refine XS.iadd X4.here hx rfl (hb hby d4_5) rfl ?_
    show Steps p.tables e below (T4.setTop (mkF m 6 #[.val (.ref a1), .val (.int p2)] [(.int ((Int32.ofNat cs.length) + p2))])) _
    refine XS.aloadN X4.here hx rfl (hb hby d4_6) rfl rfl ?_
    show Steps p.tables e below (T4.setTop (mkF m 7 #[.val (.ref a1), .val (.int p2)] [(.ref a1), (.int ((Int32.ofNat cs.length) + p2))])) _
    refine st6 _ ?_
    show Steps p.tables e below (T6.setTop (mkF m 10 #[.val (.ref a1), .val (.int p2)] [(.ref w5), (.int ((Int32.ofNat cs.length) + p2))])) _
    refine X6.arraylength hx (by rw [e6]; exact Ar_w5.1) (State.isArrayOf_alike hZ.alike Ar_w5.2.1) (g := (mkF m 10 #[.val (.ref a1), .val (.int p2)] [(.ref w5), (.int ((Int32.ofNat cs.length) + p2))])) rfl rfl (hb hby d4_10) _ ?_
    rw [len_of S_w5 N_w5]
    show Steps p.tables e below (T6.setTop (mkF m 11 #[.val (.ref a1), .val (.int p2)] [(.int (Int32.ofNat cN)), (.int ((Int32.ofNat cs.length) + p2))])) _
    refine XS.icmpNo X6.here hx rfl (hb hby d4_11) rfl (tlt hc11).2.2.2 ?_
    show Steps p.tables e below (T6.setTop (mkF m 14 #[.val (.ref a1), .val (.int p2)] [])) _
    refine XS.aloadN X6.here hx rfl (hb hby d4_14) rfl rfl ?_
    show Steps p.tables e below (T6.setTop (mkF m 15 #[.val (.ref a1), .val (.int p2)] [(.ref a1)])) _
    refine XS.aloadN X6.here hx rfl (hb hby d4_15) rfl rfl ?_
    show Steps p.tables e below (T6.setTop (mkF m 16 #[.val (.ref a1), .val (.int p2)] [(.ref a1), (.ref a1)])) _
    refine st7 _ ?_
    show Steps p.tables e below (T7.setTop (mkF m 19 #[.val (.ref a1), .val (.int p2)] [(.ref w5), (.ref a1)])) _
    refine XS.aloadN X7.here hx rfl (hb hby d4_19) rfl rfl ?_
    show Steps p.tables e below (T7.setTop (mkF m 20 #[.val (.ref a1), .val (.int p2)] [(.ref a1), (.ref w5), (.ref a1)])) _
    refine st8 _ ?_
    show Steps p.tables e below (T8.setTop (mkF m 23 #[.val (.ref a1), .val (.int p2)] [(.int (Int32.ofNat cs.length)), (.ref w5), (.ref a1)])) _
    refine XS.iloadN X8.here hx rfl (hb hby d4_23) rfl ?_
    show Steps p.tables e below (T8.setTop (mkF m 24 #[.val (.ref a1), .val (.int p2)] [(.int p2), (.int (Int32.ofNat cs.length)), (.ref w5), (.ref a1)])) _
    refine XS.iadd X8.here hx rfl (hb hby d4_24) rfl ?_
    show Steps p.tables e below (T8.setTop (mkF m 25 #[.val (.ref a1), .val (.int p2)] [(.int ((Int32.ofNat cs.length) + p2)), (.ref w5), (.ref a1)])) _
    refine XS.iconst X8.here hx rfl (hb hby d4_25) ?_
    show Steps p.tables e below (T8.setTop (mkF m 26 #[.val (.ref a1), .val (.int p2)] [(.int (2 : Int32)), (.int ((Int32.ofNat cs.length) + p2)), (.ref w5), (.ref a1)])) _
    refine XS.aloadN X8.here hx rfl (hb hby d4_26) rfl rfl ?_
    show Steps p.tables e below (T8.setTop (mkF m 27 #[.val (.ref a1), .val (.int p2)] [(.ref a1), (.int (2 : Int32)), (.int ((Int32.ofNat cs.length) + p2)), (.ref w5), (.ref a1)])) _
    refine st9 _ ?_
    show Steps p.tables e below (T9.setTop (mkF m 30 #[.val (.ref a1), .val (.int p2)] [(.ref w5), (.int (2 : Int32)), (.int ((Int32.ofNat cs.length) + p2)), (.ref w5), (.ref a1)])) _
    refine X9.arraylength hx (by rw [e9]; exact Ar_w5.1) (State.isArrayOf_alike hZ.alike Ar_w5.2.1) (g := (mkF m 30 #[.val (.ref a1), .val (.int p2)] [(.ref w5), (.int (2 : Int32)), (.int ((Int32.ofNat cs.length) + p2)), (.ref w5), (.ref a1)])) rfl rfl (hb hby d4_30) _ ?_
    rw [len_of S_w5 N_w5]
    show Steps p.tables e below (T9.setTop (mkF m 31 #[.val (.ref a1), .val (.int p2)] [(.int (Int32.ofNat cN)), (.int (2 : Int32)), (.int ((Int32.ofNat cs.length) + p2)), (.ref w5), (.ref a1)])) _
    refine XS.imul X9.here hx rfl (hb hby d4_31) rfl ?_
    show Steps p.tables e below (T9.setTop (mkF m 32 #[.val (.ref a1), .val (.int p2)] [(.int ((2 : Int32) * (Int32.ofNat cN))), (.int ((Int32.ofNat cs.length) + p2)), (.ref w5), (.ref a1)])) _
    refine st10 _ ?_
    show Steps p.tables e below (T10.setTop (mkF m 35 #[.val (.ref a1), .val (.int p2)] [(.int (own_max ((Int32.ofNat cs.length) + p2) ((2 : Int32) * (Int32.ofNat cN)))), (.ref w5), (.ref a1)])) _
    refine st11 _ ?_
    show Steps p.tables e below (T11.setTop (mkF m 38 #[.val (.ref a1), .val (.int p2)] [(.ref h0.size), (.ref a1)])) _
    refine st12 _ ?_
    show Steps p.tables e below (T12.setTop (mkF m 41 #[.val (.ref a1), .val (.int p2)] [])) _
    exact X12.returnOut hx Bd.returns (hb hby d4_41) hr
  · show Q4 Z a1 cs h0 n0 _ T12.heap _
    rw [e12]
    have na : h0.size ≠ a1 := Ne.symm (Nat.ne_of_lt E_a1.lt)
    have FL := (F_length_a1.keep K11 nin0).other W12 (Or.inr (slot_ne (Or.inl (hw _ (List.mem_of_getElem? (i := 22) rfl))) (Or.inl (hw _ (List.mem_of_getElem? (i := 11) rfl))) (by decide) (t := .int) (t' := (.array .byte)) (by decide) (by decide)))
    refine ⟨rfl, N12, K12.1, max (cs.length + 1) (2 * cN), by omega, h0.size, k', us, (E_a1.keep K11).wr W12, Fw12, FL, hmx ▸ V11.other W12 na, E11.wr W12, g_a1, Z0, Ne.symm na, by omega, by omega, ?_⟩
    intro i hi
    rw [hus i (by omega) (by omega)]
    exact hget i hi
theorem rm4 (l : Launch) (Z : State) (a0 : Array Value) (hw : ∀ d ∈ tables_1, d.before a0 Z = true) (ws : List Jvm.Cond) (a1 : Addr) (p2 : Int32) (cN : Nat) (cs : List Int32) (h0 : Heap) (n0 : Nat) (Z0 : n0 ≤ h0.size) (B : Bld Z h0 n0 a1 cN cs) (hl : cs.length ≤ 2) (hp : p2 = (1 : Int32)) :
    MetFree l (⟨"com/example/acompte/acompte/Utf8Builder", "room", "(I)V"⟩ : MethodName) (head1 (Jvm.Cond.code (⟨"com/example/acompte/acompte/Utf8Builder", "room", "(I)V"⟩ : MethodName) prog_64_method_12_code 2 none :: ws) ({ frames := 2, cells := 1, slots := 8, locals := 60 } : Room)) (fun a U => a = #[(.ref a1), (.int p2)] ∧ Z.Warmed39 U.vm ∧ U.heap = h0) (fun _ _ _ _ _ => True) (fun _ U o U' => ∃ v L, o = .returned v ∧ Q4 Z a1 cs h0 n0 v U'.heap L ∧ FrameEnd U o U' L ({ frames := 2, cells := 1, slots := 8, locals := 60 } : Room).cells ({ frames := 2, cells := 1, slots := 8, locals := 60 } : Room).slots) := by
  by_cases hcap : cs.length + 1 ≤ cN
  · exact rm4_t l Z a0 hw ws a1 p2 cN cs h0 n0 Z0 B hl hp hcap
  · exact rm4_f l Z a0 hw ws a1 p2 cN cs h0 n0 Z0 B hl hp hcap
def Q3 (Z : State) (a1 : Addr) (p2 : Int32) (cs : List Int32) (h0 : Heap) (n0 : Nat) (v : Option Value) (h : Heap) (L : List Loc) : Prop := v = some (.ref a1) ∧ Fr n0 L ∧ h0.size ≤ h.size ∧ ∃ c', Bld Z h n0 a1 c' (cs ++ [(own_by p2)])
theorem d3_0 : decode prog_64_method_4_code 0 = .ok (.aload_n 0, 1) := by decide +kernel
theorem d3_1 : decode prog_64_method_4_code 1 = .ok (.iconst 1, 1) := by decide +kernel
theorem d3_2 : decode prog_64_method_4_code 2 = .ok (.invokevirtual 17, 3) := by decide +kernel
theorem d3_5 : decode prog_64_method_4_code 5 = .ok (.aload_n 0, 1) := by decide +kernel
theorem d3_6 : decode prog_64_method_4_code 6 = .ok (.getfield 7, 3) := by decide +kernel
theorem d3_9 : decode prog_64_method_4_code 9 = .ok (.aload_n 0, 1) := by decide +kernel
theorem d3_10 : decode prog_64_method_4_code 10 = .ok (.dup, 1) := by decide +kernel
theorem d3_11 : decode prog_64_method_4_code 11 = .ok (.getfield 13, 3) := by decide +kernel
theorem d3_14 : decode prog_64_method_4_code 14 = .ok (.dup_x1, 1) := by decide +kernel
theorem d3_15 : decode prog_64_method_4_code 15 = .ok (.iconst 1, 1) := by decide +kernel
theorem d3_16 : decode prog_64_method_4_code 16 = .ok (.iadd, 1) := by decide +kernel
theorem d3_17 : decode prog_64_method_4_code 17 = .ok (.putfield 13, 3) := by decide +kernel
theorem d3_20 : decode prog_64_method_4_code 20 = .ok (.iload_n 1, 1) := by decide +kernel
theorem d3_21 : decode prog_64_method_4_code 21 = .ok (.i2b, 1) := by decide +kernel
theorem d3_22 : decode prog_64_method_4_code 22 = .ok (.bastore, 1) := by decide +kernel
theorem d3_23 : decode prog_64_method_4_code 23 = .ok (.aload_n 0, 1) := by decide +kernel
theorem d3_24 : decode prog_64_method_4_code 24 = .ok (.areturn, 1) := by decide +kernel
theorem pn_3 : plainName "com/example/acompte/acompte/Utf8Builder" = true := by first | (simp [plainName, overriddenIn]; done) | decide +kernel
theorem pdw_4 : parseMethodDescriptor "(I)V" = some ⟨[.int], none⟩ := by decide +kernel
theorem ef_3 (m : MethodId) (x0 : Addr) (x1 : Int32) : entryFrame m #[(.ref x0), (.int x1)] 2 = mkF m 0 #[.val (.ref x0), .val (.int x1)] [] := by first | (simp [entryFrame, mkF, argsToLocals, Value.category]; done) | rfl
set_option maxRecDepth 65536 in
set_option maxHeartbeats 40000000 in
theorem rm3_a (l : Launch) (Z : State) (a0 : Array Value) (hw : ∀ d ∈ tables_1, d.before a0 Z = true) (ws : List Jvm.Cond) (a1 : Addr) (p2 : Int32) (cN : Nat) (cs : List Int32) (h0 : Heap) (n0 : Nat) (Z0 : n0 ≤ h0.size) (B : Bld Z h0 n0 a1 cN cs) (hl : cs.length ≤ 2) :
    MetFree l (⟨"com/example/acompte/acompte/Utf8Builder", "append", "(C)Lcom/example/acompte/acompte/Utf8Builder;"⟩ : MethodName) (head1 (Jvm.Cond.code (⟨"com/example/acompte/acompte/Utf8Builder", "append", "(C)Lcom/example/acompte/acompte/Utf8Builder;"⟩ : MethodName) prog_64_method_4_code 2 (some (.object "com/example/acompte/acompte/Utf8Builder")) :: ws) ({ frames := 3, cells := 1, slots := 8, locals := 80 } : Room)) (fun a U => a = #[(.ref a1), (.int p2)] ∧ Z.Warmed39 U.vm ∧ U.heap = h0) (fun _ _ _ _ _ => True) (fun _ U o U' => ∃ v L, o = .returned v ∧ Q3 Z a1 p2 cs h0 n0 v U'.heap L ∧ FrameEnd U o U' L ({ frames := 3, cells := 1, slots := 8, locals := 80 } : Room).cells ({ frames := 3, cells := 1, slots := 8, locals := 80 } : Room).slots) := by
  refine MetFree.of_bodySF (plainFor_of_name pn_3) hisR ?_
  intro p e s m args below meth c s₁ Bd hml0 hP hK
  obtain ⟨rfl, hZ, hh⟩ := hP
  have B0 := B
  obtain ⟨-, -, -, E_a1, -⟩ := B0
  have hx := Bd.exec
  have hby := Bd.bytes
  have hml : c.maxLocals = 2 := hml0
  have hown : s.vm.findClass "com/example/acompte/acompte/Utf8Builder" = some m.cls := findClass_of_methodNamed Bd.named
  have hnm := (name_of_methodNamed Bd.named Bd.method).1
  have X0 : Stand p l e ({ frames := 3, cells := 1, slots := 8, locals := 80 } : Room) s m #[(.ref a1), (.int p2)] below meth c s₁ [] 0 0 := Stand.of_body Bd
  have e0 : s₁.heap = h0 := by rw [← hh, Bd.state]; rfl
  have N0 := Fr.nil n0
  have pre0 : ∀ t, Steps p.tables e below (s₁.setTop (mkF m 0 #[.val (.ref a1), .val (.int p2)] [])) t → Steps p.tables e below (s₁.setTop (entryFrame m #[(.ref a1), (.int p2)] 2)) t := fun t k => castTop (ef_3 m a1 p2) k
  -- 3. LAWS
  -- pc 2: a private method: rm4
  obtain ⟨cq3, q3, q3'⟩ := E_a1.cell
  obtain ⟨_, _, ⟨T3, L3, k3, n3⟩, -, X3, ⟨Lc3, hQ3, l3, y3, z3⟩, st3⟩ := X0.privateBack hx (y := (⟨"com/example/acompte/acompte/Utf8Builder", "room", "(I)V"⟩ : MethodName)) hown (mvT hZ (hw _ (List.mem_of_getElem? (i := 17) rfl))) (mvT hZ (hw _ (List.mem_of_getElem? (i := 18) rfl))) (mvT hZ (own_sel (hw _ (List.mem_of_getElem? (i := 15) rfl)) (hw _ (List.mem_of_getElem? (i := 19) rfl)) (hw _ (List.mem_of_getElem? (i := 18) rfl)))) (Cond.privateMethod_at (mvP hZ (hw _ (List.mem_of_getElem? (i := 19) rfl)) (args := #[]))) (mvT hZ (hw _ (List.mem_of_getElem? (i := 20) rfl))) (by decide) (backOf (W := 0) (rm4 l Z a0 hw [] a1 (1 : Int32) cN cs h0 n0 Z0 B hl rfl) hZ (hw _ (List.mem_of_getElem? (i := 20) rfl)) (hw _ (List.mem_of_getElem? (i := 2) rfl)) (by decide) (by decide)) (g := (mkF m 2 #[.val (.ref a1), .val (.int p2)] [(.int (1 : Int32)), (.ref a1)])) rfl (by rw [hml]; rfl) (Steps.refl _) (a := a1) (by rw [e0]; exact q3) q3' (argsL := [(.int (1 : Int32))]) (rest := []) (lenOf pdw_4 rfl) rfl (by show 2 * 0 + _ ≤ _; exact Nat.le_of_eq rfl) (hb hby d3_2) (fun _ _ => ⟨rfl, e0, (by decide : 0 + 1 ≤ _), (by decide : 0 + 8 ≤ _)⟩)
  dsimp only [Pt.U, Pt.locs, Pt.cells, Pt.slots] at X3 l3 y3 z3 st3 hQ3
  subst l3 y3 z3
  obtain ⟨rfl, N3q, hz3, c', hc', B3⟩ := hQ3
  obtain ⟨d3, k3', vs3, E_a1, F_bytes_a1, F_length_a1, V3, Ed3, g_a1, g_d3, nbd3, hlc3, hc43, hget3⟩ := B3
  have N3 := Fr.app N0 N3q
  obtain ⟨T5, X5, e5, st5⟩ := getF X3 hx hZ hown (host := "") (Or.inl (hw _ (List.mem_of_getElem? (i := 10) rfl))) Via.refl rfl (F_bytes_a1) (g := (mkF m 6 #[.val (.ref a1), .val (.int p2)] [(.ref a1)])) rfl rfl (hb hby d3_6)
  obtain ⟨T7, X7, e7, st7⟩ := getF X5 hx hZ hown (host := "") (Or.inl (hw _ (List.mem_of_getElem? (i := 21) rfl))) Via.refl e5 (F_length_a1) (g := (mkF m 11 #[.val (.ref a1), .val (.int p2)] [(.ref a1), (.ref a1), (.ref d3)])) rfl rfl (hb hby d3_11)
  obtain ⟨T8, h8, X8, e8, W8, st8⟩ := putF X7 hx hZ hown (host := "") (Or.inl (hw _ (List.mem_of_getElem? (i := 21) rfl))) Via.refl e7 (F_length_a1) (E_a1) (Or.inl (hw _ (List.mem_of_getElem? (i := 22) rfl))) (hw _ (List.mem_of_getElem? (i := 1) rfl)) (ty := .int) (by decide) rfl rfl (g := (mkF m 17 #[.val (.ref a1), .val (.int p2)] [(.int ((Int32.ofNat cs.length) + (1 : Int32))), (.ref a1), (.int (Int32.ofNat cs.length)), (.ref d3)])) rfl rfl (hb hby d3_17)
  have Fw8 := (F_length_a1).same W8      -- the field now holds (.int ((Int32.ofNat cs.length) + (1 : Int32)))
  have V8 := (V3.other W8 (Ne.symm nbd3)).pad (pad_rep vs3 (.int 0) 4)
  have V8c := V8
  obtain ⟨cl_d3, Ar_d3, q_d3, S_d3, N_d3, H_d3, G_d3⟩ := V8c
  have hin22 : ¬ ((Int32.ofNat cs.length) < 0 ∨ cl_d3.slots.size ≤ (Int32.ofNat cs.length).toNatClampNeg) := inb_of S_d3 ⟨own_nn (by omega), (own_lt (by omega) (by omega)).mpr (by omega)⟩
  have N8 := Fr.snoc X8 N3 g_a1
  obtain ⟨T9, h9, X9, e9, W9, st9⟩ := stB X8 hx hZ e8 Ar_d3 (j := (Int32.ofNat cs.length)) hin22 (g := (mkF m 22 #[.val (.ref a1), .val (.int p2)] [(.int (p2.toInt8.toInt32)), (.int (Int32.ofNat cs.length)), (.ref d3)])) rfl rfl (hb hby d3_22)
  have N9 := Fr.snoc X9 N8 g_d3
  -- Ar_d3.same W9 : the array with (.int (p2.toInt8.toInt32)) at the place (Int32.ofNat cs.length)
  have V9 := Arv.set Ar_d3 q_d3 S_d3 N_d3 H_d3 G_d3 (fits_nar_byte _) W9 cs.length (own_clamp (by omega)) (by simp; omega)
  obtain ⟨fs, hr, hrun, hended, hW, hsame⟩ := X9.leave (v := some (.ref a1)) (fun h => by rw [Bd.returns] at h; cases h)
  refine ⟨_, _, pre0 _ ?_, hrun, hended, _, _, rfl, ?_, ⟨_, rfl⟩, hW, hsame.mono (by decide) (by decide)⟩
  -- 4. STEPS
  · show Steps p.tables e below (s₁.setTop (mkF m 0 #[.val (.ref a1), .val (.int p2)] [])) _
    refine XS.aloadN X0.here hx rfl (hb hby d3_0) rfl rfl ?_
    show Steps p.tables e below (s₁.setTop (mkF m 1 #[.val (.ref a1), .val (.int p2)] [(.ref a1)])) _
    refine XS.iconst X0.here hx rfl (hb hby d3_1) ?_
    show Steps p.tables e below (s₁.setTop (mkF m 2 #[.val (.ref a1), .val (.int p2)] [(.int (1 : Int32)), (.ref a1)])) _
    refine st3.trans ?_
    show Steps p.tables e below (T3.setTop (mkF m 5 #[.val (.ref a1), .val (.int p2)] [])) _
    refine XS.aloadN X3.here hx rfl (hb hby d3_5) rfl rfl ?_
    show Steps p.tables e below (T3.setTop (mkF m 6 #[.val (.ref a1), .val (.int p2)] [(.ref a1)])) _
    refine st5 _ ?_
    show Steps p.tables e below (T5.setTop (mkF m 9 #[.val (.ref a1), .val (.int p2)] [(.ref d3)])) _
    refine XS.aloadN X5.here hx rfl (hb hby d3_9) rfl rfl ?_
    show Steps p.tables e below (T5.setTop (mkF m 10 #[.val (.ref a1), .val (.int p2)] [(.ref a1), (.ref d3)])) _
    refine XS.dup X5.here hx rfl (hb hby d3_10) rfl rfl ?_
    show Steps p.tables e below (T5.setTop (mkF m 11 #[.val (.ref a1), .val (.int p2)] [(.ref a1), (.ref a1), (.ref d3)])) _
    refine st7 _ ?_
    show Steps p.tables e below (T7.setTop (mkF m 14 #[.val (.ref a1), .val (.int p2)] [(.int (Int32.ofNat cs.length)), (.ref a1), (.ref d3)])) _
    refine XS.dupX1 X7.here hx rfl (hb hby d3_14) rfl rfl rfl ?_
    show Steps p.tables e below (T7.setTop (mkF m 15 #[.val (.ref a1), .val (.int p2)] [(.int (Int32.ofNat cs.length)), (.ref a1), (.int (Int32.ofNat cs.length)), (.ref d3)])) _
    refine XS.iconst X7.here hx rfl (hb hby d3_15) ?_
    show Steps p.tables e below (T7.setTop (mkF m 16 #[.val (.ref a1), .val (.int p2)] [(.int (1 : Int32)), (.int (Int32.ofNat cs.length)), (.ref a1), (.int (Int32.ofNat cs.length)), (.ref d3)])) _
    refine XS.iadd X7.here hx rfl (hb hby d3_16) rfl ?_
    show Steps p.tables e below (T7.setTop (mkF m 17 #[.val (.ref a1), .val (.int p2)] [(.int ((Int32.ofNat cs.length) + (1 : Int32))), (.ref a1), (.int (Int32.ofNat cs.length)), (.ref d3)])) _
    refine st8 _ ?_
    show Steps p.tables e below (T8.setTop (mkF m 20 #[.val (.ref a1), .val (.int p2)] [(.int (Int32.ofNat cs.length)), (.ref d3)])) _
    refine XS.iloadN X8.here hx rfl (hb hby d3_20) rfl ?_
    show Steps p.tables e below (T8.setTop (mkF m 21 #[.val (.ref a1), .val (.int p2)] [(.int p2), (.int (Int32.ofNat cs.length)), (.ref d3)])) _
    refine XS.i2b X8.here hx rfl (hb hby d3_21) rfl ?_
    show Steps p.tables e below (T8.setTop (mkF m 22 #[.val (.ref a1), .val (.int p2)] [(.int (p2.toInt8.toInt32)), (.int (Int32.ofNat cs.length)), (.ref d3)])) _
    refine st9 _ ?_
    show Steps p.tables e below (T9.setTop (mkF m 23 #[.val (.ref a1), .val (.int p2)] [])) _
    refine XS.aloadN X9.here hx rfl (hb hby d3_23) rfl rfl ?_
    show Steps p.tables e below (T9.setTop (mkF m 24 #[.val (.ref a1), .val (.int p2)] [(.ref a1)])) _
    jvm_step X9.here [X9.here.top, hx, (hb hby d3_24), X9.method', Bd.returns, Value.isRef, FieldType.isReference]
    first | (intro acts; rw [hr _ acts rfl rfl rfl]) | rw [hr _ _ rfl rfl rfl]
    exact Steps.refl _
  · show Q3 Z a1 p2 cs h0 n0 _ T9.heap _
    rw [e9]
    refine ⟨rfl, N9, by rw [W9.size, W8.size]; exact hz3, c', d3, k3', _, (E_a1.wr W8).wr W9, (F_bytes_a1.other W8 (Or.inr (slot_ne (Or.inl (hw _ (List.mem_of_getElem? (i := 11) rfl))) (Or.inl (hw _ (List.mem_of_getElem? (i := 22) rfl))) (by decide) (t := (.array .byte)) (t' := .int) (by decide) (by decide)))).other W9 (Or.inl nbd3), ?_, V9, (Ed3.wr W8).wr W9, g_a1, g_d3, nbd3, by simp; omega, hc43, ?_⟩
    · have FL := Fw8.other W9 (Or.inl nbd3)
      have e : Int32.ofNat (cs ++ [(own_by p2)]).length = Int32.ofNat cs.length + (1 : Int32) := by rw [List.length_append, List.length_singleton]; exact inc_ofNat _
      rw [e]; exact FL
    · intro i hi
      exact own_set_get hget3 (by omega) i (by simpa using hi)
theorem d8_0 : decode prog_64_method_3_code 0 = .ok (.aload_n 0, 1) := by decide +kernel
theorem d8_1 : decode prog_64_method_3_code 1 = .ok (.iconst 0, 1) := by decide +kernel
theorem d8_2 : decode prog_64_method_3_code 2 = .ok (.putfield 13, 3) := by decide +kernel
theorem d8_5 : decode prog_64_method_3_code 5 = .ok (.return_, 1) := by decide +kernel
theorem pn_8 : plainName "com/example/acompte/acompte/Utf8Builder" = true := by first | (simp [plainName, overriddenIn]; done) | decide +kernel
theorem ef_8 (m : MethodId) (x0 : Addr) : entryFrame m #[(.ref x0)] 1 = mkF m 0 #[.val (.ref x0)] [] := by first | (simp [entryFrame, mkF, argsToLocals, Value.category]; done) | rfl
def Q8 (Z : State) (a1 : Addr) (cN : Nat) (h0 : Heap) (n0 : Nat) (v : Option Value) (h : Heap) (L : List Loc) : Prop := v = none ∧ Fr n0 L ∧ h0.size ≤ h.size ∧ Bld Z h n0 a1 cN []
set_option maxRecDepth 65536 in
set_option maxHeartbeats 40000000 in
theorem rm8_c (l : Launch) (Z : State) (a0 : Array Value) (hw : ∀ d ∈ tables_1, d.before a0 Z = true) (ws : List Jvm.Cond) (a1 : Addr) (cN : Nat) (cs : List Int32) (h0 : Heap) (n0 : Nat) (Z0 : n0 ≤ h0.size) (B : Bld Z h0 n0 a1 cN cs) :
    MetFree l (⟨"com/example/acompte/acompte/Utf8Builder", "clear", "()V"⟩ : MethodName) (head1 (Jvm.Cond.code (⟨"com/example/acompte/acompte/Utf8Builder", "clear", "()V"⟩ : MethodName) prog_64_method_3_code 1 none :: ws) ({ frames := 0, cells := 0, slots := 0, locals := 0 } : Room)) (fun a U => a = #[(.ref a1)] ∧ Z.Warmed39 U.vm ∧ U.heap = h0) (fun _ _ _ _ _ => True) (fun _ U o U' => ∃ v L, o = .returned v ∧ Q8 Z a1 cN h0 n0 v U'.heap L ∧ FrameEnd U o U' L ({ frames := 0, cells := 0, slots := 0, locals := 0 } : Room).cells ({ frames := 0, cells := 0, slots := 0, locals := 0 } : Room).slots) := by
  refine MetFree.of_bodySF (plainFor_of_name pn_8) hisR ?_
  intro p e s m args below meth c s₁ Bd hml0 hP hK
  obtain ⟨rfl, hZ, hh⟩ := hP
  obtain ⟨w5, kk, vs, E_a1, F_bytes_a1, F_length_a1, V, Ed, g_a1, g_w5, nbd, hlc, hc4, hget⟩ := B
  have hx := Bd.exec
  have hby := Bd.bytes
  have hml : c.maxLocals = 1 := hml0
  have hown : s.vm.findClass "com/example/acompte/acompte/Utf8Builder" = some m.cls := findClass_of_methodNamed Bd.named
  have hnm := (name_of_methodNamed Bd.named Bd.method).1
  have X0 : Stand p l e ({ frames := 0, cells := 0, slots := 0, locals := 0 } : Room) s m #[(.ref a1)] below meth c s₁ [] 0 0 := Stand.of_body Bd
  have e0 : s₁.heap = h0 := by rw [← hh, Bd.state]; rfl
  have N0 := Fr.nil n0
  have pre0 : ∀ t, Steps p.tables e below (s₁.setTop (mkF m 0 #[.val (.ref a1)] [])) t → Steps p.tables e below (s₁.setTop (entryFrame m #[(.ref a1)] 1)) t := fun t k => castTop (ef_8 m a1) k
  -- 3. LAWS
  obtain ⟨T2, h2, X2, e2, W2, st2⟩ := putF X0 hx hZ hown (host := "") (Or.inl (hw _ (List.mem_of_getElem? (i := 21) rfl))) Via.refl e0 F_length_a1 E_a1 (Or.inl (hw _ (List.mem_of_getElem? (i := 22) rfl))) (hw _ (List.mem_of_getElem? (i := 1) rfl)) (ty := .int) (by decide) rfl rfl (g := (mkF m 2 #[.val (.ref a1)] [(.int (0 : Int32)), (.ref a1)])) rfl rfl (hb hby d8_2)
  have Fw2 := F_length_a1.same W2      -- the field now holds (.int (0 : Int32))
  have K2 : Keep h0 h2 [a1] := (Keep.refl h0 [a1]).wr W2 (Or.inl (List.mem_of_getElem? (i := 0) rfl))
  have N2 := Fr.snoc X2 N0 g_a1
  obtain ⟨fs, hr, hrun, hended, hW, hsame⟩ := X2.leave (v := none) (fun _ => rfl)
  refine ⟨_, _, pre0 _ ?_, hrun, hended, _, _, rfl, ?_, ⟨_, rfl⟩, hW, hsame.mono (by decide) (by decide)⟩
  -- 4. STEPS
  · show Steps p.tables e below (s₁.setTop (mkF m 0 #[.val (.ref a1)] [])) _
    refine XS.aloadN X0.here hx rfl (hb hby d8_0) rfl rfl ?_
    show Steps p.tables e below (s₁.setTop (mkF m 1 #[.val (.ref a1)] [(.ref a1)])) _
    refine XS.iconst X0.here hx rfl (hb hby d8_1) ?_
    show Steps p.tables e below (s₁.setTop (mkF m 2 #[.val (.ref a1)] [(.int (0 : Int32)), (.ref a1)])) _
    refine st2 _ ?_
    show Steps p.tables e below (T2.setTop (mkF m 5 #[.val (.ref a1)] [])) _
    exact X2.returnOut hx Bd.returns (hb hby d8_5) hr
  · show Q8 Z a1 cN h0 n0 _ T2.heap _
    rw [e2]
    exact ⟨rfl, N2, K2.1, w5, kk, vs, E_a1.wr W2, F_bytes_a1.other W2 (Or.inr (slot_ne (Or.inl (hw _ (List.mem_of_getElem? (i := 11) rfl))) (Or.inl (hw _ (List.mem_of_getElem? (i := 22) rfl))) (by decide) (t := (.array .byte)) (t' := .int) (by decide) (by decide))), Fw2, V.other W2 (Ne.symm nbd), Ed.wr W2, g_a1, g_w5, nbd, Nat.zero_le _, hc4, fun i hi => absurd hi (Nat.not_lt_zero i)⟩
theorem d9_0 : decode prog_64_method_9_code 0 = .ok (.aload_n 0, 1) := by decide +kernel
theorem d9_1 : decode prog_64_method_9_code 1 = .ok (.getfield 7, 3) := by decide +kernel
theorem d9_4 : decode prog_64_method_9_code 4 = .ok (.aload_n 0, 1) := by decide +kernel
theorem d9_5 : decode prog_64_method_9_code 5 = .ok (.getfield 13, 3) := by decide +kernel
theorem d9_8 : decode prog_64_method_9_code 8 = .ok (.invokestatic 74, 3) := by decide +kernel
theorem d9_11 : decode prog_64_method_9_code 11 = .ok (.areturn, 1) := by decide +kernel
theorem pn_9 : plainName "com/example/acompte/acompte/Utf8Builder" = true := by first | (simp [plainName, overriddenIn]; done) | decide +kernel
theorem ef_9 (m : MethodId) (x0 : Addr) : entryFrame m #[(.ref x0)] 1 = mkF m 0 #[.val (.ref x0)] [] := by first | (simp [entryFrame, mkF, argsToLocals, Value.category]; done) | rfl
def Q9 (Z : State) (cs : List Int32) (h0 : Heap) (n0 : Nat) (v : Option Value) (h : Heap) (L : List Loc) : Prop := v = some (.ref h0.size) ∧ Fr n0 L ∧ Keep h0 h [] ∧ ∃ (k' : ClassId) (us : List Value), Arv Z h h0.size k' .byte (Int32.ofNat cs.length) us (.int 0) ∧ ∀ i, i < cs.length → us.getD i (.int 0) = .int (cs.getD i 0)
set_option maxRecDepth 65536 in
set_option maxHeartbeats 40000000 in
theorem rm9_t (l : Launch) (Z : State) (a0 : Array Value) (hw : ∀ d ∈ tables_1, d.before a0 Z = true) (ws : List Jvm.Cond) (a1 : Addr) (cN : Nat) (cs : List Int32) (h0 : Heap) (n0 : Nat) (Z0 : n0 ≤ h0.size) (B : Bld Z h0 n0 a1 cN cs) :
    MetFree l (⟨"com/example/acompte/acompte/Utf8Builder", "toByteArray", "()[B"⟩ : MethodName) (head1 (Jvm.Cond.code (⟨"com/example/acompte/acompte/Utf8Builder", "toByteArray", "()[B"⟩ : MethodName) prog_64_method_9_code 1 (some (.array .byte)) :: ws) ({ frames := 2, cells := 1, slots := 8, locals := 60 } : Room)) (fun a U => a = #[(.ref a1)] ∧ Z.Warmed39 U.vm ∧ U.heap = h0) (fun _ _ _ _ _ => True) (fun _ U o U' => ∃ v L, o = .returned v ∧ Q9 Z cs h0 n0 v U'.heap L ∧ FrameEnd U o U' L ({ frames := 2, cells := 1, slots := 8, locals := 60 } : Room).cells ({ frames := 2, cells := 1, slots := 8, locals := 60 } : Room).slots) := by
  refine MetFree.of_bodySF (plainFor_of_name pn_9) hisR ?_
  intro p e s m args below meth c s₁ Bd hml0 hP hK
  obtain ⟨rfl, hZ, hh⟩ := hP
  obtain ⟨w5, kk, vs, E_a1, F_bytes_a1, F_length_a1, V, Ed, g_a1, g_w5, nbd, hlc, hc4, hget⟩ := B
  have hx := Bd.exec
  have hby := Bd.bytes
  have hml : c.maxLocals = 1 := hml0
  have hown : s.vm.findClass "com/example/acompte/acompte/Utf8Builder" = some m.cls := findClass_of_methodNamed Bd.named
  have hnm := (name_of_methodNamed Bd.named Bd.method).1
  have X0 : Stand p l e ({ frames := 2, cells := 1, slots := 8, locals := 60 } : Room) s m #[(.ref a1)] below meth c s₁ [] 0 0 := Stand.of_body Bd
  have e0 : s₁.heap = h0 := by rw [← hh, Bd.state]; rfl
  have N0 := Fr.nil n0
  have pre0 : ∀ t, Steps p.tables e below (s₁.setTop (mkF m 0 #[.val (.ref a1)] [])) t → Steps p.tables e below (s₁.setTop (entryFrame m #[(.ref a1)] 1)) t := fun t k => castTop (ef_9 m a1) k
  -- 3. LAWS
  obtain ⟨T3, X3, e3, st3⟩ := getF X0 hx hZ hown (host := "") (Or.inl (hw _ (List.mem_of_getElem? (i := 10) rfl))) Via.refl e0 F_bytes_a1 (g := (mkF m 1 #[.val (.ref a1)] [(.ref a1)])) rfl rfl (hb hby d9_1)
  obtain ⟨T5, X5, e5, st5⟩ := getF X3 hx hZ hown (host := "") (Or.inl (hw _ (List.mem_of_getElem? (i := 21) rfl))) Via.refl e3 F_length_a1 (g := (mkF m 5 #[.val (.ref a1)] [(.ref a1), (.ref w5)])) rfl rfl (hb hby d9_5)
  -- pc 8: java/util/Arrays.copyOf by its contract rm6
  obtain ⟨_, _, ⟨T6, L6, k6, n6⟩, -, X6, ⟨Lc6, hQ6, l6, y6, z6⟩, st6⟩ := Jvm.LawKit.callS X5 hx (y := (⟨"java/util/Arrays", "copyOf", "([BI)[B"⟩ : MethodName)) hown (mvT hZ (hw _ (List.mem_of_getElem? (i := 27) rfl))) (mvT hZ (hw _ (List.mem_of_getElem? (i := 28) rfl))) (mvT hZ (hw _ (List.mem_of_getElem? (i := 29) rfl))) (mvT hZ (hw _ (List.mem_of_getElem? (i := 30) rfl))) (by decide) (backOf (W := 0) (rm6 l Z a0 hw [] w5 (Int32.ofNat cs.length) kk (Int32.ofNat cN) vs h0 n0 Z0 V Ed cN cs.length rfl rfl (by omega) (by omega)) hZ (hw _ (List.mem_of_getElem? (i := 30) rfl)) (hw _ (List.mem_of_getElem? (i := 29) rfl)) (by decide) (by decide)) (g := (mkF m 8 #[.val (.ref a1)] [(.int (Int32.ofNat cs.length)), (.ref w5)])) rfl (by rw [hml]; rfl) (argsL := [(.ref w5), (.int (Int32.ofNat cs.length))]) (rest := []) (lenOf pdw_3 rfl) rfl (by show 2 * 0 + _ ≤ _; exact Nat.le_of_eq rfl) (hb hby d9_8) (fun _ _ => ⟨rfl, e5, (by decide : 0 + 1 ≤ _), (by decide : 0 + 8 ≤ _)⟩)
  dsimp only [Pt.U, Pt.locs, Pt.cells, Pt.slots] at X6 l6 y6 z6 st6 hQ6
  subst l6 y6 z6
  obtain ⟨rfl, N6q, K6, k', us, V6, E6, hus⟩ := hQ6
  have N6 := Fr.app N0 N6q
  obtain ⟨fs, hr, hrun, hended, hW, hsame⟩ := X6.leave (v := some (.ref h0.size)) (fun h => by rw [Bd.returns] at h; cases h)
  refine ⟨_, _, pre0 _ ?_, hrun, hended, _, _, rfl, ?_, ⟨_, rfl⟩, hW, hsame.mono (by decide) (by decide)⟩
  -- 4. STEPS
  · show Steps p.tables e below (s₁.setTop (mkF m 0 #[.val (.ref a1)] [])) _
    refine XS.aloadN X0.here hx rfl (hb hby d9_0) rfl rfl ?_
    show Steps p.tables e below (s₁.setTop (mkF m 1 #[.val (.ref a1)] [(.ref a1)])) _
    refine st3 _ ?_
    show Steps p.tables e below (T3.setTop (mkF m 4 #[.val (.ref a1)] [(.ref w5)])) _
    refine XS.aloadN X3.here hx rfl (hb hby d9_4) rfl rfl ?_
    show Steps p.tables e below (T3.setTop (mkF m 5 #[.val (.ref a1)] [(.ref a1), (.ref w5)])) _
    refine st5 _ ?_
    show Steps p.tables e below (T5.setTop (mkF m 8 #[.val (.ref a1)] [(.int (Int32.ofNat cs.length)), (.ref w5)])) _
    refine st6 _ ?_
    show Steps p.tables e below (T6.setTop (mkF m 11 #[.val (.ref a1)] [(.ref h0.size)])) _
    jvm_step X6.here [X6.here.top, hx, (hb hby d9_11), X6.method', Bd.returns, Value.isRef, FieldType.isReference]
    first | (intro acts; rw [hr _ acts rfl rfl rfl]) | rw [hr _ _ rfl rfl rfl]
    exact Steps.refl _
  · show Q9 Z cs h0 n0 _ T6.heap _
    exact ⟨rfl, N6, K6, k', us, V6, fun i hi => (hus i hi (by omega)).trans (hget i hi)⟩
theorem d10_0 : decode prog_64_method_2_code 0 = .ok (.aload_n 0, 1) := by decide +kernel
theorem d10_1 : decode prog_64_method_2_code 1 = .ok (.getfield 13, 3) := by decide +kernel
theorem d10_4 : decode prog_64_method_2_code 4 = .ok (.ireturn, 1) := by decide +kernel
theorem pn_10 : plainName "com/example/acompte/acompte/Utf8Builder" = true := by first | (simp [plainName, overriddenIn]; done) | decide +kernel
theorem ef_10 (m : MethodId) (x0 : Addr) : entryFrame m #[(.ref x0)] 1 = mkF m 0 #[.val (.ref x0)] [] := by first | (simp [entryFrame, mkF, argsToLocals, Value.category]; done) | rfl
def Q10 (Z : State) (a1 : Addr) (w2 : Int32) (h0 : Heap) (n0 : Nat) (v : Option Value) (h : Heap) (L : List Loc) : Prop := v = some (.int w2) ∧ Fr n0 L ∧ h = h0
set_option maxRecDepth 65536 in
set_option maxHeartbeats 40000000 in
theorem rm10 (l : Launch) (Z : State) (a0 : Array Value) (hw : ∀ d ∈ tables_1, d.before a0 Z = true) (ws : List Jvm.Cond) (a1 : Addr) (w2 : Int32) (h0 : Heap) (n0 : Nat) (Z0 : n0 ≤ h0.size) (F_length_a1 : Fld Z h0 a1 "com/example/acompte/acompte/Utf8Builder" "length" "I" (.int w2)) :
    MetFree l (⟨"com/example/acompte/acompte/Utf8Builder", "length", "()I"⟩ : MethodName) (head1 (Jvm.Cond.code (⟨"com/example/acompte/acompte/Utf8Builder", "length", "()I"⟩ : MethodName) prog_64_method_2_code 1 (some .int) :: ws) ({ frames := 0, cells := 0, slots := 0, locals := 0 } : Room)) (fun a U => a = #[(.ref a1)] ∧ Z.Warmed39 U.vm ∧ U.heap = h0) (fun _ _ _ _ _ => True) (fun _ U o U' => ∃ v L, o = .returned v ∧ Q10 Z a1 w2 h0 n0 v U'.heap L ∧ FrameEnd U o U' L ({ frames := 0, cells := 0, slots := 0, locals := 0 } : Room).cells ({ frames := 0, cells := 0, slots := 0, locals := 0 } : Room).slots) := by
  refine MetFree.of_bodySF (plainFor_of_name pn_10) hisR ?_
  intro p e s m args below meth c s₁ Bd hml0 hP hK
  obtain ⟨rfl, hZ, hh⟩ := hP
  have hx := Bd.exec
  have hby := Bd.bytes
  have hml : c.maxLocals = 1 := hml0
  have hown : s.vm.findClass "com/example/acompte/acompte/Utf8Builder" = some m.cls := findClass_of_methodNamed Bd.named
  have hnm := (name_of_methodNamed Bd.named Bd.method).1
  have X0 : Stand p l e ({ frames := 0, cells := 0, slots := 0, locals := 0 } : Room) s m #[(.ref a1)] below meth c s₁ [] 0 0 := Stand.of_body Bd
  have e0 : s₁.heap = h0 := by rw [← hh, Bd.state]; rfl
  have N0 := Fr.nil n0
  have pre0 : ∀ t, Steps p.tables e below (s₁.setTop (mkF m 0 #[.val (.ref a1)] [])) t → Steps p.tables e below (s₁.setTop (entryFrame m #[(.ref a1)] 1)) t := fun t k => castTop (ef_10 m a1) k
  -- 3. LAWS
  obtain ⟨T3, X3, e3, st3⟩ := getF X0 hx hZ hown (host := "") (Or.inl (hw _ (List.mem_of_getElem? (i := 21) rfl))) Via.refl e0 F_length_a1 (g := (mkF m 1 #[.val (.ref a1)] [(.ref a1)])) rfl rfl (hb hby d10_1)
  obtain ⟨fs, hr, hrun, hended, hW, hsame⟩ := X3.leave (v := some (.int w2)) (fun h => by rw [Bd.returns] at h; cases h)
  refine ⟨_, _, pre0 _ ?_, hrun, hended, _, _, rfl, ?_, ⟨_, rfl⟩, hW, hsame.mono (by decide) (by decide)⟩
  -- 4. STEPS
  · show Steps p.tables e below (s₁.setTop (mkF m 0 #[.val (.ref a1)] [])) _
    refine XS.aloadN X0.here hx rfl (hb hby d10_0) rfl rfl ?_
    show Steps p.tables e below (s₁.setTop (mkF m 1 #[.val (.ref a1)] [(.ref a1)])) _
    refine st3 _ ?_
    show Steps p.tables e below (T3.setTop (mkF m 4 #[.val (.ref a1)] [(.int w2)])) _
    exact retI X3 hx Bd.returns (hb hby d10_4) hr      -- retI stands in the head ('lawwalk <made dir>' prints it)
  · show Q10 Z a1 w2 h0 n0 _ T3.heap _
    rw [e3]
    exact ⟨rfl, N0, rfl⟩
theorem d11_0 : decode method_3_code 0 = .ok (.iload_n 1, 1) := by decide +kernel
theorem d11_1 : decode method_3_code 1 = .ok (.ifCond .le 13, 3) := by decide +kernel
theorem d11_14 : decode method_3_code 14 = .ok (.iload_n 1, 1) := by decide +kernel
theorem d11_15 : decode method_3_code 15 = .ok (.iconst 1, 1) := by decide +kernel
theorem d11_16 : decode method_3_code 16 = .ok (.if_icmp .le 13, 3) := by decide +kernel
theorem d11_29 : decode method_3_code 29 = .ok (.iload_n 1, 1) := by decide +kernel
theorem d11_30 : decode method_3_code 30 = .ok (.iconst 2, 1) := by decide +kernel
theorem d11_31 : decode method_3_code 31 = .ok (.if_icmp .le 14, 3) := by decide +kernel
theorem d11_45 : decode method_3_code 45 = .ok (.iconst 1, 1) := by decide +kernel
theorem d11_46 : decode method_3_code 46 = .ok (.ireturn, 1) := by decide +kernel
theorem pn_11 : plainName "com/example/acompte/acompte/Utf8BuilderToByteArrayPinLaw" = true := by first | (simp [plainName, overriddenIn]; done) | decide +kernel
theorem ef_11 (m : MethodId) (x0 : Addr) (x1 : Int32) (x2 : Int32) (x3 : Int32) (x4 : Int32) : entryFrame m #[(.ref x0), (.int x1), (.int x2), (.int x3), (.int x4)] 5 = mkF m 0 #[.val (.ref x0), .val (.int x1), .val (.int x2), .val (.int x3), .val (.int x4)] [] := by first | (simp [entryFrame, mkF, argsToLocals, Value.category]; done) | rfl
def Q11_n0 (Z : State) (a1 : Addr) (p2 : Int32) (p3 : Int32) (p4 : Int32) (p5 : Int32) (h0 : Heap) (n0 : Nat) (v : Option Value) (h : Heap) (L : List Loc) : Prop := v = some (.int (1 : Int32)) ∧ Fr n0 L ∧ h = h0
set_option maxRecDepth 65536 in
set_option maxHeartbeats 40000000 in
theorem rm11_n0 (l : Launch) (Z : State) (a0 : Array Value) (hw : ∀ d ∈ tables_1, d.before a0 Z = true) (ws : List Jvm.Cond) (a1 : Addr) (p2 : Int32) (p3 : Int32) (p4 : Int32) (p5 : Int32) (h0 : Heap) (n0 : Nat) (Z0 : n0 ≤ h0.size) (hc1 : ¬ ((0 : Int32) < p2)) (hc16 : ¬ ((1 : Int32) < p2)) (hc31 : ¬ ((2 : Int32) < p2)) :
    MetFree l (⟨"com/example/acompte/acompte/Utf8BuilderToByteArrayPinLaw", "matches", "([BICCC)Z"⟩ : MethodName) (head1 (Jvm.Cond.code (⟨"com/example/acompte/acompte/Utf8BuilderToByteArrayPinLaw", "matches", "([BICCC)Z"⟩ : MethodName) method_3_code 5 (some .boolean) :: ws) ({ frames := 0, cells := 0, slots := 0, locals := 0 } : Room)) (fun a U => a = #[(.ref a1), (.int p2), (.int p3), (.int p4), (.int p5)] ∧ Z.Warmed39 U.vm ∧ U.heap = h0) (fun _ _ _ _ _ => True) (fun _ U o U' => ∃ v L, o = .returned v ∧ Q11_n0 Z a1 p2 p3 p4 p5 h0 n0 v U'.heap L ∧ FrameEnd U o U' L ({ frames := 0, cells := 0, slots := 0, locals := 0 } : Room).cells ({ frames := 0, cells := 0, slots := 0, locals := 0 } : Room).slots) := by
  refine MetFree.of_bodySF (plainFor_of_name pn_11) hisR ?_
  intro p e s m args below meth c s₁ Bd hml0 hP hK
  obtain ⟨rfl, hZ, hh⟩ := hP
  have hx := Bd.exec
  have hby := Bd.bytes
  have hml : c.maxLocals = 5 := hml0
  have hown : s.vm.findClass "com/example/acompte/acompte/Utf8BuilderToByteArrayPinLaw" = some m.cls := findClass_of_methodNamed Bd.named
  have hnm := (name_of_methodNamed Bd.named Bd.method).1
  have X0 : Stand p l e ({ frames := 0, cells := 0, slots := 0, locals := 0 } : Room) s m #[(.ref a1), (.int p2), (.int p3), (.int p4), (.int p5)] below meth c s₁ [] 0 0 := Stand.of_body Bd
  have e0 : s₁.heap = h0 := by rw [← hh, Bd.state]; rfl
  have N0 := Fr.nil n0
  have pre0 : ∀ t, Steps p.tables e below (s₁.setTop (mkF m 0 #[.val (.ref a1), .val (.int p2), .val (.int p3), .val (.int p4), .val (.int p5)] [])) t → Steps p.tables e below (s₁.setTop (entryFrame m #[(.ref a1), (.int p2), (.int p3), (.int p4), (.int p5)] 5)) t := fun t k => castTop (ef_11 m a1 p2 p3 p4 p5) k
  -- 3. LAWS

  obtain ⟨fs, hr, hrun, hended, hW, hsame⟩ := X0.leave (v := some (.int (1 : Int32))) (fun h => by rw [Bd.returns] at h; cases h)
  refine ⟨_, _, pre0 _ ?_, hrun, hended, _, _, rfl, ?_, ⟨_, rfl⟩, hW, hsame.mono (by decide) (by decide)⟩
  -- 4. STEPS
  · show Steps p.tables e below (s₁.setTop (mkF m 0 #[.val (.ref a1), .val (.int p2), .val (.int p3), .val (.int p4), .val (.int p5)] [])) _
    refine XS.iloadN X0.here hx rfl (hb hby d11_0) rfl ?_
    show Steps p.tables e below (s₁.setTop (mkF m 1 #[.val (.ref a1), .val (.int p2), .val (.int p3), .val (.int p4), .val (.int p5)] [(.int p2)])) _
    refine XS.ifYes X0.here hx rfl (pc0 := 1) (pc' := 14) rfl (hb hby d11_1) rfl ((if0 _ _).trans (flt hc1).2.2.2) (by decide) (by decide) ?_
    show Steps p.tables e below (s₁.setTop (mkF m 14 #[.val (.ref a1), .val (.int p2), .val (.int p3), .val (.int p4), .val (.int p5)] [])) _
    refine XS.iloadN X0.here hx rfl (hb hby d11_14) rfl ?_
    show Steps p.tables e below (s₁.setTop (mkF m 15 #[.val (.ref a1), .val (.int p2), .val (.int p3), .val (.int p4), .val (.int p5)] [(.int p2)])) _
    refine XS.iconst X0.here hx rfl (hb hby d11_15) ?_
    show Steps p.tables e below (s₁.setTop (mkF m 16 #[.val (.ref a1), .val (.int p2), .val (.int p3), .val (.int p4), .val (.int p5)] [(.int (1 : Int32)), (.int p2)])) _
    refine XS.icmpYes X0.here hx rfl (pc0 := 16) (pc' := 29) rfl (hb hby d11_16) rfl (flt hc16).2.2.2 (by decide) (by decide) ?_
    show Steps p.tables e below (s₁.setTop (mkF m 29 #[.val (.ref a1), .val (.int p2), .val (.int p3), .val (.int p4), .val (.int p5)] [])) _
    refine XS.iloadN X0.here hx rfl (hb hby d11_29) rfl ?_
    show Steps p.tables e below (s₁.setTop (mkF m 30 #[.val (.ref a1), .val (.int p2), .val (.int p3), .val (.int p4), .val (.int p5)] [(.int p2)])) _
    refine XS.iconst X0.here hx rfl (hb hby d11_30) ?_
    show Steps p.tables e below (s₁.setTop (mkF m 31 #[.val (.ref a1), .val (.int p2), .val (.int p3), .val (.int p4), .val (.int p5)] [(.int (2 : Int32)), (.int p2)])) _
    refine XS.icmpYes X0.here hx rfl (pc0 := 31) (pc' := 45) rfl (hb hby d11_31) rfl (flt hc31).2.2.2 (by decide) (by decide) ?_
    show Steps p.tables e below (s₁.setTop (mkF m 45 #[.val (.ref a1), .val (.int p2), .val (.int p3), .val (.int p4), .val (.int p5)] [])) _
    refine XS.iconst X0.here hx rfl (hb hby d11_45) ?_
    show Steps p.tables e below (s₁.setTop (mkF m 46 #[.val (.ref a1), .val (.int p2), .val (.int p3), .val (.int p4), .val (.int p5)] [(.int (1 : Int32))])) _
    exact retN X0 hx (t := .boolean) Bd.returns (by simp) (hb hby d11_46) hr
  · show Q11_n0 Z a1 p2 p3 p4 p5 h0 n0 _ s₁.heap _
    rw [e0]
    exact ⟨rfl, N0, rfl⟩
theorem d11_4 : decode method_3_code 4 = .ok (.aload_n 0, 1) := by decide +kernel
theorem d11_5 : decode method_3_code 5 = .ok (.iconst 0, 1) := by decide +kernel
theorem d11_6 : decode method_3_code 6 = .ok (.baload, 1) := by decide +kernel
theorem d11_7 : decode method_3_code 7 = .ok (.iload_n 2, 1) := by decide +kernel
theorem d11_8 : decode method_3_code 8 = .ok (.i2b, 1) := by decide +kernel
theorem d11_9 : decode method_3_code 9 = .ok (.if_icmp .eq 5, 3) := by decide +kernel
def Q11_n1 (Z : State) (a1 : Addr) (p2 : Int32) (p3 : Int32) (p4 : Int32) (p5 : Int32) (w6 : Int32) (cl_a1 : Cell) (h0 : Heap) (n0 : Nat) (v : Option Value) (h : Heap) (L : List Loc) : Prop := v = some (.int (1 : Int32)) ∧ Fr n0 L ∧ h = h0
set_option maxRecDepth 65536 in
set_option maxHeartbeats 40000000 in
theorem rm11_n1 (l : Launch) (Z : State) (a0 : Array Value) (hw : ∀ d ∈ tables_1, d.before a0 Z = true) (ws : List Jvm.Cond) (a1 : Addr) (p2 : Int32) (p3 : Int32) (p4 : Int32) (p5 : Int32) (w6 : Int32) (cl_a1 : Cell) (h0 : Heap) (n0 : Nat) (Z0 : n0 ≤ h0.size) (Ar_a1 : Arr Z h0 a1 cl_a1 .byte) (hin6 : ¬ ((0 : Int32) < 0 ∨ cl_a1.slots.size ≤ ((0 : Int32)).toNatClampNeg)) (hat6 : cl_a1.slots[((0 : Int32)).toNatClampNeg]? = some (.int w6)) (hc1 : (0 : Int32) < p2) (hc9 : w6 = (p3.toInt8.toInt32)) (hc16 : ¬ ((1 : Int32) < p2)) (hc31 : ¬ ((2 : Int32) < p2)) :
    MetFree l (⟨"com/example/acompte/acompte/Utf8BuilderToByteArrayPinLaw", "matches", "([BICCC)Z"⟩ : MethodName) (head1 (Jvm.Cond.code (⟨"com/example/acompte/acompte/Utf8BuilderToByteArrayPinLaw", "matches", "([BICCC)Z"⟩ : MethodName) method_3_code 5 (some .boolean) :: ws) ({ frames := 0, cells := 0, slots := 0, locals := 0 } : Room)) (fun a U => a = #[(.ref a1), (.int p2), (.int p3), (.int p4), (.int p5)] ∧ Z.Warmed39 U.vm ∧ U.heap = h0) (fun _ _ _ _ _ => True) (fun _ U o U' => ∃ v L, o = .returned v ∧ Q11_n1 Z a1 p2 p3 p4 p5 w6 cl_a1 h0 n0 v U'.heap L ∧ FrameEnd U o U' L ({ frames := 0, cells := 0, slots := 0, locals := 0 } : Room).cells ({ frames := 0, cells := 0, slots := 0, locals := 0 } : Room).slots) := by
  refine MetFree.of_bodySF (plainFor_of_name pn_11) hisR ?_
  intro p e s m args below meth c s₁ Bd hml0 hP hK
  obtain ⟨rfl, hZ, hh⟩ := hP
  have hx := Bd.exec
  have hby := Bd.bytes
  have hml : c.maxLocals = 5 := hml0
  have hown : s.vm.findClass "com/example/acompte/acompte/Utf8BuilderToByteArrayPinLaw" = some m.cls := findClass_of_methodNamed Bd.named
  have hnm := (name_of_methodNamed Bd.named Bd.method).1
  have X0 : Stand p l e ({ frames := 0, cells := 0, slots := 0, locals := 0 } : Room) s m #[(.ref a1), (.int p2), (.int p3), (.int p4), (.int p5)] below meth c s₁ [] 0 0 := Stand.of_body Bd
  have e0 : s₁.heap = h0 := by rw [← hh, Bd.state]; rfl
  have N0 := Fr.nil n0
  have pre0 : ∀ t, Steps p.tables e below (s₁.setTop (mkF m 0 #[.val (.ref a1), .val (.int p2), .val (.int p3), .val (.int p4), .val (.int p5)] [])) t → Steps p.tables e below (s₁.setTop (entryFrame m #[(.ref a1), (.int p2), (.int p3), (.int p4), (.int p5)] 5)) t := fun t k => castTop (ef_11 m a1 p2 p3 p4 p5) k
  -- 3. LAWS

  obtain ⟨fs, hr, hrun, hended, hW, hsame⟩ := X0.leave (v := some (.int (1 : Int32))) (fun h => by rw [Bd.returns] at h; cases h)
  refine ⟨_, _, pre0 _ ?_, hrun, hended, _, _, rfl, ?_, ⟨_, rfl⟩, hW, hsame.mono (by decide) (by decide)⟩
  -- 4. STEPS
  · show Steps p.tables e below (s₁.setTop (mkF m 0 #[.val (.ref a1), .val (.int p2), .val (.int p3), .val (.int p4), .val (.int p5)] [])) _
    refine XS.iloadN X0.here hx rfl (hb hby d11_0) rfl ?_
    show Steps p.tables e below (s₁.setTop (mkF m 1 #[.val (.ref a1), .val (.int p2), .val (.int p3), .val (.int p4), .val (.int p5)] [(.int p2)])) _
    refine XS.ifNo X0.here hx rfl (hb hby d11_1) rfl ((if0 _ _).trans (tlt hc1).2.2.2) ?_
    show Steps p.tables e below (s₁.setTop (mkF m 4 #[.val (.ref a1), .val (.int p2), .val (.int p3), .val (.int p4), .val (.int p5)] [])) _
    refine XS.aloadN X0.here hx rfl (hb hby d11_4) rfl rfl ?_
    show Steps p.tables e below (s₁.setTop (mkF m 5 #[.val (.ref a1), .val (.int p2), .val (.int p3), .val (.int p4), .val (.int p5)] [(.ref a1)])) _
    refine XS.iconst X0.here hx rfl (hb hby d11_5) ?_
    show Steps p.tables e below (s₁.setTop (mkF m 6 #[.val (.ref a1), .val (.int p2), .val (.int p3), .val (.int p4), .val (.int p5)] [(.int (0 : Int32)), (.ref a1)])) _
    refine X0.baloadBytes hx (j := (0 : Int32)) (v := (.int w6)) (by rw [e0]; exact Ar_a1.1) (State.isArrayOf_alike hZ.alike Ar_a1.2.1) Ar_a1.2.2 hin6 hat6 (g := (mkF m 6 #[.val (.ref a1), .val (.int p2), .val (.int p3), .val (.int p4), .val (.int p5)] [(.int (0 : Int32)), (.ref a1)])) rfl rfl (hb hby d11_6) _ ?_
    show Steps p.tables e below (s₁.setTop (mkF m 7 #[.val (.ref a1), .val (.int p2), .val (.int p3), .val (.int p4), .val (.int p5)] [(.int w6)])) _
    refine XS.iloadN X0.here hx rfl (hb hby d11_7) rfl ?_
    show Steps p.tables e below (s₁.setTop (mkF m 8 #[.val (.ref a1), .val (.int p2), .val (.int p3), .val (.int p4), .val (.int p5)] [(.int p3), (.int w6)])) _
    refine XS.i2b X0.here hx rfl (hb hby d11_8) rfl ?_
    show Steps p.tables e below (s₁.setTop (mkF m 9 #[.val (.ref a1), .val (.int p2), .val (.int p3), .val (.int p4), .val (.int p5)] [(.int (p3.toInt8.toInt32)), (.int w6)])) _
    refine XS.icmpYes X0.here hx rfl (pc0 := 9) (pc' := 14) rfl (hb hby d11_9) rfl (teq hc9).1 (by decide) (by decide) ?_
    show Steps p.tables e below (s₁.setTop (mkF m 14 #[.val (.ref a1), .val (.int p2), .val (.int p3), .val (.int p4), .val (.int p5)] [])) _
    refine XS.iloadN X0.here hx rfl (hb hby d11_14) rfl ?_
    show Steps p.tables e below (s₁.setTop (mkF m 15 #[.val (.ref a1), .val (.int p2), .val (.int p3), .val (.int p4), .val (.int p5)] [(.int p2)])) _
    refine XS.iconst X0.here hx rfl (hb hby d11_15) ?_
    show Steps p.tables e below (s₁.setTop (mkF m 16 #[.val (.ref a1), .val (.int p2), .val (.int p3), .val (.int p4), .val (.int p5)] [(.int (1 : Int32)), (.int p2)])) _
    refine XS.icmpYes X0.here hx rfl (pc0 := 16) (pc' := 29) rfl (hb hby d11_16) rfl (flt hc16).2.2.2 (by decide) (by decide) ?_
    show Steps p.tables e below (s₁.setTop (mkF m 29 #[.val (.ref a1), .val (.int p2), .val (.int p3), .val (.int p4), .val (.int p5)] [])) _
    refine XS.iloadN X0.here hx rfl (hb hby d11_29) rfl ?_
    show Steps p.tables e below (s₁.setTop (mkF m 30 #[.val (.ref a1), .val (.int p2), .val (.int p3), .val (.int p4), .val (.int p5)] [(.int p2)])) _
    refine XS.iconst X0.here hx rfl (hb hby d11_30) ?_
    show Steps p.tables e below (s₁.setTop (mkF m 31 #[.val (.ref a1), .val (.int p2), .val (.int p3), .val (.int p4), .val (.int p5)] [(.int (2 : Int32)), (.int p2)])) _
    refine XS.icmpYes X0.here hx rfl (pc0 := 31) (pc' := 45) rfl (hb hby d11_31) rfl (flt hc31).2.2.2 (by decide) (by decide) ?_
    show Steps p.tables e below (s₁.setTop (mkF m 45 #[.val (.ref a1), .val (.int p2), .val (.int p3), .val (.int p4), .val (.int p5)] [])) _
    refine XS.iconst X0.here hx rfl (hb hby d11_45) ?_
    show Steps p.tables e below (s₁.setTop (mkF m 46 #[.val (.ref a1), .val (.int p2), .val (.int p3), .val (.int p4), .val (.int p5)] [(.int (1 : Int32))])) _
    exact retN X0 hx (t := .boolean) Bd.returns (by simp) (hb hby d11_46) hr
  · show Q11_n1 Z a1 p2 p3 p4 p5 w6 cl_a1 h0 n0 _ s₁.heap _
    rw [e0]
    exact ⟨rfl, N0, rfl⟩
theorem d11_19 : decode method_3_code 19 = .ok (.aload_n 0, 1) := by decide +kernel
theorem d11_20 : decode method_3_code 20 = .ok (.iconst 1, 1) := by decide +kernel
theorem d11_21 : decode method_3_code 21 = .ok (.baload, 1) := by decide +kernel
theorem d11_22 : decode method_3_code 22 = .ok (.iload_n 3, 1) := by decide +kernel
theorem d11_23 : decode method_3_code 23 = .ok (.i2b, 1) := by decide +kernel
theorem d11_24 : decode method_3_code 24 = .ok (.if_icmp .eq 5, 3) := by decide +kernel
def Q11_n2 (Z : State) (a1 : Addr) (p2 : Int32) (p3 : Int32) (p4 : Int32) (p5 : Int32) (w6 : Int32) (cl_a1 : Cell) (w7 : Int32) (h0 : Heap) (n0 : Nat) (v : Option Value) (h : Heap) (L : List Loc) : Prop := v = some (.int (1 : Int32)) ∧ Fr n0 L ∧ h = h0
set_option maxRecDepth 65536 in
set_option maxHeartbeats 40000000 in
theorem rm11_n2 (l : Launch) (Z : State) (a0 : Array Value) (hw : ∀ d ∈ tables_1, d.before a0 Z = true) (ws : List Jvm.Cond) (a1 : Addr) (p2 : Int32) (p3 : Int32) (p4 : Int32) (p5 : Int32) (w6 : Int32) (cl_a1 : Cell) (w7 : Int32) (h0 : Heap) (n0 : Nat) (Z0 : n0 ≤ h0.size) (Ar_a1 : Arr Z h0 a1 cl_a1 .byte) (hin6 : ¬ ((0 : Int32) < 0 ∨ cl_a1.slots.size ≤ ((0 : Int32)).toNatClampNeg)) (hat6 : cl_a1.slots[((0 : Int32)).toNatClampNeg]? = some (.int w6)) (hin21 : ¬ ((1 : Int32) < 0 ∨ cl_a1.slots.size ≤ ((1 : Int32)).toNatClampNeg)) (hat21 : cl_a1.slots[((1 : Int32)).toNatClampNeg]? = some (.int w7)) (hc1 : (0 : Int32) < p2) (hc9 : w6 = (p3.toInt8.toInt32)) (hc16 : (1 : Int32) < p2) (hc24 : w7 = (p4.toInt8.toInt32)) (hc31 : ¬ ((2 : Int32) < p2)) :
    MetFree l (⟨"com/example/acompte/acompte/Utf8BuilderToByteArrayPinLaw", "matches", "([BICCC)Z"⟩ : MethodName) (head1 (Jvm.Cond.code (⟨"com/example/acompte/acompte/Utf8BuilderToByteArrayPinLaw", "matches", "([BICCC)Z"⟩ : MethodName) method_3_code 5 (some .boolean) :: ws) ({ frames := 0, cells := 0, slots := 0, locals := 0 } : Room)) (fun a U => a = #[(.ref a1), (.int p2), (.int p3), (.int p4), (.int p5)] ∧ Z.Warmed39 U.vm ∧ U.heap = h0) (fun _ _ _ _ _ => True) (fun _ U o U' => ∃ v L, o = .returned v ∧ Q11_n2 Z a1 p2 p3 p4 p5 w6 cl_a1 w7 h0 n0 v U'.heap L ∧ FrameEnd U o U' L ({ frames := 0, cells := 0, slots := 0, locals := 0 } : Room).cells ({ frames := 0, cells := 0, slots := 0, locals := 0 } : Room).slots) := by
  refine MetFree.of_bodySF (plainFor_of_name pn_11) hisR ?_
  intro p e s m args below meth c s₁ Bd hml0 hP hK
  obtain ⟨rfl, hZ, hh⟩ := hP
  have hx := Bd.exec
  have hby := Bd.bytes
  have hml : c.maxLocals = 5 := hml0
  have hown : s.vm.findClass "com/example/acompte/acompte/Utf8BuilderToByteArrayPinLaw" = some m.cls := findClass_of_methodNamed Bd.named
  have hnm := (name_of_methodNamed Bd.named Bd.method).1
  have X0 : Stand p l e ({ frames := 0, cells := 0, slots := 0, locals := 0 } : Room) s m #[(.ref a1), (.int p2), (.int p3), (.int p4), (.int p5)] below meth c s₁ [] 0 0 := Stand.of_body Bd
  have e0 : s₁.heap = h0 := by rw [← hh, Bd.state]; rfl
  have N0 := Fr.nil n0
  have pre0 : ∀ t, Steps p.tables e below (s₁.setTop (mkF m 0 #[.val (.ref a1), .val (.int p2), .val (.int p3), .val (.int p4), .val (.int p5)] [])) t → Steps p.tables e below (s₁.setTop (entryFrame m #[(.ref a1), (.int p2), (.int p3), (.int p4), (.int p5)] 5)) t := fun t k => castTop (ef_11 m a1 p2 p3 p4 p5) k
  -- 3. LAWS

  obtain ⟨fs, hr, hrun, hended, hW, hsame⟩ := X0.leave (v := some (.int (1 : Int32))) (fun h => by rw [Bd.returns] at h; cases h)
  refine ⟨_, _, pre0 _ ?_, hrun, hended, _, _, rfl, ?_, ⟨_, rfl⟩, hW, hsame.mono (by decide) (by decide)⟩
  -- 4. STEPS
  · show Steps p.tables e below (s₁.setTop (mkF m 0 #[.val (.ref a1), .val (.int p2), .val (.int p3), .val (.int p4), .val (.int p5)] [])) _
    refine XS.iloadN X0.here hx rfl (hb hby d11_0) rfl ?_
    show Steps p.tables e below (s₁.setTop (mkF m 1 #[.val (.ref a1), .val (.int p2), .val (.int p3), .val (.int p4), .val (.int p5)] [(.int p2)])) _
    refine XS.ifNo X0.here hx rfl (hb hby d11_1) rfl ((if0 _ _).trans (tlt hc1).2.2.2) ?_
    show Steps p.tables e below (s₁.setTop (mkF m 4 #[.val (.ref a1), .val (.int p2), .val (.int p3), .val (.int p4), .val (.int p5)] [])) _
    refine XS.aloadN X0.here hx rfl (hb hby d11_4) rfl rfl ?_
    show Steps p.tables e below (s₁.setTop (mkF m 5 #[.val (.ref a1), .val (.int p2), .val (.int p3), .val (.int p4), .val (.int p5)] [(.ref a1)])) _
    refine XS.iconst X0.here hx rfl (hb hby d11_5) ?_
    show Steps p.tables e below (s₁.setTop (mkF m 6 #[.val (.ref a1), .val (.int p2), .val (.int p3), .val (.int p4), .val (.int p5)] [(.int (0 : Int32)), (.ref a1)])) _
    refine X0.baloadBytes hx (j := (0 : Int32)) (v := (.int w6)) (by rw [e0]; exact Ar_a1.1) (State.isArrayOf_alike hZ.alike Ar_a1.2.1) Ar_a1.2.2 hin6 hat6 (g := (mkF m 6 #[.val (.ref a1), .val (.int p2), .val (.int p3), .val (.int p4), .val (.int p5)] [(.int (0 : Int32)), (.ref a1)])) rfl rfl (hb hby d11_6) _ ?_
    show Steps p.tables e below (s₁.setTop (mkF m 7 #[.val (.ref a1), .val (.int p2), .val (.int p3), .val (.int p4), .val (.int p5)] [(.int w6)])) _
    refine XS.iloadN X0.here hx rfl (hb hby d11_7) rfl ?_
    show Steps p.tables e below (s₁.setTop (mkF m 8 #[.val (.ref a1), .val (.int p2), .val (.int p3), .val (.int p4), .val (.int p5)] [(.int p3), (.int w6)])) _
    refine XS.i2b X0.here hx rfl (hb hby d11_8) rfl ?_
    show Steps p.tables e below (s₁.setTop (mkF m 9 #[.val (.ref a1), .val (.int p2), .val (.int p3), .val (.int p4), .val (.int p5)] [(.int (p3.toInt8.toInt32)), (.int w6)])) _
    refine XS.icmpYes X0.here hx rfl (pc0 := 9) (pc' := 14) rfl (hb hby d11_9) rfl (teq hc9).1 (by decide) (by decide) ?_
    show Steps p.tables e below (s₁.setTop (mkF m 14 #[.val (.ref a1), .val (.int p2), .val (.int p3), .val (.int p4), .val (.int p5)] [])) _
    refine XS.iloadN X0.here hx rfl (hb hby d11_14) rfl ?_
    show Steps p.tables e below (s₁.setTop (mkF m 15 #[.val (.ref a1), .val (.int p2), .val (.int p3), .val (.int p4), .val (.int p5)] [(.int p2)])) _
    refine XS.iconst X0.here hx rfl (hb hby d11_15) ?_
    show Steps p.tables e below (s₁.setTop (mkF m 16 #[.val (.ref a1), .val (.int p2), .val (.int p3), .val (.int p4), .val (.int p5)] [(.int (1 : Int32)), (.int p2)])) _
    refine XS.icmpNo X0.here hx rfl (hb hby d11_16) rfl (tlt hc16).2.2.2 ?_
    show Steps p.tables e below (s₁.setTop (mkF m 19 #[.val (.ref a1), .val (.int p2), .val (.int p3), .val (.int p4), .val (.int p5)] [])) _
    refine XS.aloadN X0.here hx rfl (hb hby d11_19) rfl rfl ?_
    show Steps p.tables e below (s₁.setTop (mkF m 20 #[.val (.ref a1), .val (.int p2), .val (.int p3), .val (.int p4), .val (.int p5)] [(.ref a1)])) _
    refine XS.iconst X0.here hx rfl (hb hby d11_20) ?_
    show Steps p.tables e below (s₁.setTop (mkF m 21 #[.val (.ref a1), .val (.int p2), .val (.int p3), .val (.int p4), .val (.int p5)] [(.int (1 : Int32)), (.ref a1)])) _
    refine X0.baloadBytes hx (j := (1 : Int32)) (v := (.int w7)) (by rw [e0]; exact Ar_a1.1) (State.isArrayOf_alike hZ.alike Ar_a1.2.1) Ar_a1.2.2 hin21 hat21 (g := (mkF m 21 #[.val (.ref a1), .val (.int p2), .val (.int p3), .val (.int p4), .val (.int p5)] [(.int (1 : Int32)), (.ref a1)])) rfl rfl (hb hby d11_21) _ ?_
    show Steps p.tables e below (s₁.setTop (mkF m 22 #[.val (.ref a1), .val (.int p2), .val (.int p3), .val (.int p4), .val (.int p5)] [(.int w7)])) _
    refine XS.iloadN X0.here hx rfl (hb hby d11_22) rfl ?_
    show Steps p.tables e below (s₁.setTop (mkF m 23 #[.val (.ref a1), .val (.int p2), .val (.int p3), .val (.int p4), .val (.int p5)] [(.int p4), (.int w7)])) _
    refine XS.i2b X0.here hx rfl (hb hby d11_23) rfl ?_
    show Steps p.tables e below (s₁.setTop (mkF m 24 #[.val (.ref a1), .val (.int p2), .val (.int p3), .val (.int p4), .val (.int p5)] [(.int (p4.toInt8.toInt32)), (.int w7)])) _
    refine XS.icmpYes X0.here hx rfl (pc0 := 24) (pc' := 29) rfl (hb hby d11_24) rfl (teq hc24).1 (by decide) (by decide) ?_
    show Steps p.tables e below (s₁.setTop (mkF m 29 #[.val (.ref a1), .val (.int p2), .val (.int p3), .val (.int p4), .val (.int p5)] [])) _
    refine XS.iloadN X0.here hx rfl (hb hby d11_29) rfl ?_
    show Steps p.tables e below (s₁.setTop (mkF m 30 #[.val (.ref a1), .val (.int p2), .val (.int p3), .val (.int p4), .val (.int p5)] [(.int p2)])) _
    refine XS.iconst X0.here hx rfl (hb hby d11_30) ?_
    show Steps p.tables e below (s₁.setTop (mkF m 31 #[.val (.ref a1), .val (.int p2), .val (.int p3), .val (.int p4), .val (.int p5)] [(.int (2 : Int32)), (.int p2)])) _
    refine XS.icmpYes X0.here hx rfl (pc0 := 31) (pc' := 45) rfl (hb hby d11_31) rfl (flt hc31).2.2.2 (by decide) (by decide) ?_
    show Steps p.tables e below (s₁.setTop (mkF m 45 #[.val (.ref a1), .val (.int p2), .val (.int p3), .val (.int p4), .val (.int p5)] [])) _
    refine XS.iconst X0.here hx rfl (hb hby d11_45) ?_
    show Steps p.tables e below (s₁.setTop (mkF m 46 #[.val (.ref a1), .val (.int p2), .val (.int p3), .val (.int p4), .val (.int p5)] [(.int (1 : Int32))])) _
    exact retN X0 hx (t := .boolean) Bd.returns (by simp) (hb hby d11_46) hr
  · show Q11_n2 Z a1 p2 p3 p4 p5 w6 cl_a1 w7 h0 n0 _ s₁.heap _
    rw [e0]
    exact ⟨rfl, N0, rfl⟩
theorem d11_34 : decode method_3_code 34 = .ok (.aload_n 0, 1) := by decide +kernel
theorem d11_35 : decode method_3_code 35 = .ok (.iconst 2, 1) := by decide +kernel
theorem d11_36 : decode method_3_code 36 = .ok (.baload, 1) := by decide +kernel
theorem d11_37 : decode method_3_code 37 = .ok (.iload 4, 2) := by decide +kernel
theorem d11_39 : decode method_3_code 39 = .ok (.i2b, 1) := by decide +kernel
theorem d11_40 : decode method_3_code 40 = .ok (.if_icmp .eq 5, 3) := by decide +kernel
def Q11_n3 (Z : State) (a1 : Addr) (p2 : Int32) (p3 : Int32) (p4 : Int32) (p5 : Int32) (w6 : Int32) (cl_a1 : Cell) (w7 : Int32) (w8 : Int32) (h0 : Heap) (n0 : Nat) (v : Option Value) (h : Heap) (L : List Loc) : Prop := v = some (.int (1 : Int32)) ∧ Fr n0 L ∧ h = h0
set_option maxRecDepth 65536 in
set_option maxHeartbeats 40000000 in
theorem rm11_n3 (l : Launch) (Z : State) (a0 : Array Value) (hw : ∀ d ∈ tables_1, d.before a0 Z = true) (ws : List Jvm.Cond) (a1 : Addr) (p2 : Int32) (p3 : Int32) (p4 : Int32) (p5 : Int32) (w6 : Int32) (cl_a1 : Cell) (w7 : Int32) (w8 : Int32) (h0 : Heap) (n0 : Nat) (Z0 : n0 ≤ h0.size) (Ar_a1 : Arr Z h0 a1 cl_a1 .byte) (hin6 : ¬ ((0 : Int32) < 0 ∨ cl_a1.slots.size ≤ ((0 : Int32)).toNatClampNeg)) (hat6 : cl_a1.slots[((0 : Int32)).toNatClampNeg]? = some (.int w6)) (hin21 : ¬ ((1 : Int32) < 0 ∨ cl_a1.slots.size ≤ ((1 : Int32)).toNatClampNeg)) (hat21 : cl_a1.slots[((1 : Int32)).toNatClampNeg]? = some (.int w7)) (hin36 : ¬ ((2 : Int32) < 0 ∨ cl_a1.slots.size ≤ ((2 : Int32)).toNatClampNeg)) (hat36 : cl_a1.slots[((2 : Int32)).toNatClampNeg]? = some (.int w8)) (hc1 : (0 : Int32) < p2) (hc9 : w6 = (p3.toInt8.toInt32)) (hc16 : (1 : Int32) < p2) (hc24 : w7 = (p4.toInt8.toInt32)) (hc31 : (2 : Int32) < p2) (hc40 : w8 = (p5.toInt8.toInt32)) :
    MetFree l (⟨"com/example/acompte/acompte/Utf8BuilderToByteArrayPinLaw", "matches", "([BICCC)Z"⟩ : MethodName) (head1 (Jvm.Cond.code (⟨"com/example/acompte/acompte/Utf8BuilderToByteArrayPinLaw", "matches", "([BICCC)Z"⟩ : MethodName) method_3_code 5 (some .boolean) :: ws) ({ frames := 0, cells := 0, slots := 0, locals := 0 } : Room)) (fun a U => a = #[(.ref a1), (.int p2), (.int p3), (.int p4), (.int p5)] ∧ Z.Warmed39 U.vm ∧ U.heap = h0) (fun _ _ _ _ _ => True) (fun _ U o U' => ∃ v L, o = .returned v ∧ Q11_n3 Z a1 p2 p3 p4 p5 w6 cl_a1 w7 w8 h0 n0 v U'.heap L ∧ FrameEnd U o U' L ({ frames := 0, cells := 0, slots := 0, locals := 0 } : Room).cells ({ frames := 0, cells := 0, slots := 0, locals := 0 } : Room).slots) := by
  refine MetFree.of_bodySF (plainFor_of_name pn_11) hisR ?_
  intro p e s m args below meth c s₁ Bd hml0 hP hK
  obtain ⟨rfl, hZ, hh⟩ := hP
  have hx := Bd.exec
  have hby := Bd.bytes
  have hml : c.maxLocals = 5 := hml0
  have hown : s.vm.findClass "com/example/acompte/acompte/Utf8BuilderToByteArrayPinLaw" = some m.cls := findClass_of_methodNamed Bd.named
  have hnm := (name_of_methodNamed Bd.named Bd.method).1
  have X0 : Stand p l e ({ frames := 0, cells := 0, slots := 0, locals := 0 } : Room) s m #[(.ref a1), (.int p2), (.int p3), (.int p4), (.int p5)] below meth c s₁ [] 0 0 := Stand.of_body Bd
  have e0 : s₁.heap = h0 := by rw [← hh, Bd.state]; rfl
  have N0 := Fr.nil n0
  have pre0 : ∀ t, Steps p.tables e below (s₁.setTop (mkF m 0 #[.val (.ref a1), .val (.int p2), .val (.int p3), .val (.int p4), .val (.int p5)] [])) t → Steps p.tables e below (s₁.setTop (entryFrame m #[(.ref a1), (.int p2), (.int p3), (.int p4), (.int p5)] 5)) t := fun t k => castTop (ef_11 m a1 p2 p3 p4 p5) k
  -- 3. LAWS

  obtain ⟨fs, hr, hrun, hended, hW, hsame⟩ := X0.leave (v := some (.int (1 : Int32))) (fun h => by rw [Bd.returns] at h; cases h)
  refine ⟨_, _, pre0 _ ?_, hrun, hended, _, _, rfl, ?_, ⟨_, rfl⟩, hW, hsame.mono (by decide) (by decide)⟩
  -- 4. STEPS
  · show Steps p.tables e below (s₁.setTop (mkF m 0 #[.val (.ref a1), .val (.int p2), .val (.int p3), .val (.int p4), .val (.int p5)] [])) _
    refine XS.iloadN X0.here hx rfl (hb hby d11_0) rfl ?_
    show Steps p.tables e below (s₁.setTop (mkF m 1 #[.val (.ref a1), .val (.int p2), .val (.int p3), .val (.int p4), .val (.int p5)] [(.int p2)])) _
    refine XS.ifNo X0.here hx rfl (hb hby d11_1) rfl ((if0 _ _).trans (tlt hc1).2.2.2) ?_
    show Steps p.tables e below (s₁.setTop (mkF m 4 #[.val (.ref a1), .val (.int p2), .val (.int p3), .val (.int p4), .val (.int p5)] [])) _
    refine XS.aloadN X0.here hx rfl (hb hby d11_4) rfl rfl ?_
    show Steps p.tables e below (s₁.setTop (mkF m 5 #[.val (.ref a1), .val (.int p2), .val (.int p3), .val (.int p4), .val (.int p5)] [(.ref a1)])) _
    refine XS.iconst X0.here hx rfl (hb hby d11_5) ?_
    show Steps p.tables e below (s₁.setTop (mkF m 6 #[.val (.ref a1), .val (.int p2), .val (.int p3), .val (.int p4), .val (.int p5)] [(.int (0 : Int32)), (.ref a1)])) _
    refine X0.baloadBytes hx (j := (0 : Int32)) (v := (.int w6)) (by rw [e0]; exact Ar_a1.1) (State.isArrayOf_alike hZ.alike Ar_a1.2.1) Ar_a1.2.2 hin6 hat6 (g := (mkF m 6 #[.val (.ref a1), .val (.int p2), .val (.int p3), .val (.int p4), .val (.int p5)] [(.int (0 : Int32)), (.ref a1)])) rfl rfl (hb hby d11_6) _ ?_
    show Steps p.tables e below (s₁.setTop (mkF m 7 #[.val (.ref a1), .val (.int p2), .val (.int p3), .val (.int p4), .val (.int p5)] [(.int w6)])) _
    refine XS.iloadN X0.here hx rfl (hb hby d11_7) rfl ?_
    show Steps p.tables e below (s₁.setTop (mkF m 8 #[.val (.ref a1), .val (.int p2), .val (.int p3), .val (.int p4), .val (.int p5)] [(.int p3), (.int w6)])) _
    refine XS.i2b X0.here hx rfl (hb hby d11_8) rfl ?_
    show Steps p.tables e below (s₁.setTop (mkF m 9 #[.val (.ref a1), .val (.int p2), .val (.int p3), .val (.int p4), .val (.int p5)] [(.int (p3.toInt8.toInt32)), (.int w6)])) _
    refine XS.icmpYes X0.here hx rfl (pc0 := 9) (pc' := 14) rfl (hb hby d11_9) rfl (teq hc9).1 (by decide) (by decide) ?_
    show Steps p.tables e below (s₁.setTop (mkF m 14 #[.val (.ref a1), .val (.int p2), .val (.int p3), .val (.int p4), .val (.int p5)] [])) _
    refine XS.iloadN X0.here hx rfl (hb hby d11_14) rfl ?_
    show Steps p.tables e below (s₁.setTop (mkF m 15 #[.val (.ref a1), .val (.int p2), .val (.int p3), .val (.int p4), .val (.int p5)] [(.int p2)])) _
    refine XS.iconst X0.here hx rfl (hb hby d11_15) ?_
    show Steps p.tables e below (s₁.setTop (mkF m 16 #[.val (.ref a1), .val (.int p2), .val (.int p3), .val (.int p4), .val (.int p5)] [(.int (1 : Int32)), (.int p2)])) _
    refine XS.icmpNo X0.here hx rfl (hb hby d11_16) rfl (tlt hc16).2.2.2 ?_
    show Steps p.tables e below (s₁.setTop (mkF m 19 #[.val (.ref a1), .val (.int p2), .val (.int p3), .val (.int p4), .val (.int p5)] [])) _
    refine XS.aloadN X0.here hx rfl (hb hby d11_19) rfl rfl ?_
    show Steps p.tables e below (s₁.setTop (mkF m 20 #[.val (.ref a1), .val (.int p2), .val (.int p3), .val (.int p4), .val (.int p5)] [(.ref a1)])) _
    refine XS.iconst X0.here hx rfl (hb hby d11_20) ?_
    show Steps p.tables e below (s₁.setTop (mkF m 21 #[.val (.ref a1), .val (.int p2), .val (.int p3), .val (.int p4), .val (.int p5)] [(.int (1 : Int32)), (.ref a1)])) _
    refine X0.baloadBytes hx (j := (1 : Int32)) (v := (.int w7)) (by rw [e0]; exact Ar_a1.1) (State.isArrayOf_alike hZ.alike Ar_a1.2.1) Ar_a1.2.2 hin21 hat21 (g := (mkF m 21 #[.val (.ref a1), .val (.int p2), .val (.int p3), .val (.int p4), .val (.int p5)] [(.int (1 : Int32)), (.ref a1)])) rfl rfl (hb hby d11_21) _ ?_
    show Steps p.tables e below (s₁.setTop (mkF m 22 #[.val (.ref a1), .val (.int p2), .val (.int p3), .val (.int p4), .val (.int p5)] [(.int w7)])) _
    refine XS.iloadN X0.here hx rfl (hb hby d11_22) rfl ?_
    show Steps p.tables e below (s₁.setTop (mkF m 23 #[.val (.ref a1), .val (.int p2), .val (.int p3), .val (.int p4), .val (.int p5)] [(.int p4), (.int w7)])) _
    refine XS.i2b X0.here hx rfl (hb hby d11_23) rfl ?_
    show Steps p.tables e below (s₁.setTop (mkF m 24 #[.val (.ref a1), .val (.int p2), .val (.int p3), .val (.int p4), .val (.int p5)] [(.int (p4.toInt8.toInt32)), (.int w7)])) _
    refine XS.icmpYes X0.here hx rfl (pc0 := 24) (pc' := 29) rfl (hb hby d11_24) rfl (teq hc24).1 (by decide) (by decide) ?_
    show Steps p.tables e below (s₁.setTop (mkF m 29 #[.val (.ref a1), .val (.int p2), .val (.int p3), .val (.int p4), .val (.int p5)] [])) _
    refine XS.iloadN X0.here hx rfl (hb hby d11_29) rfl ?_
    show Steps p.tables e below (s₁.setTop (mkF m 30 #[.val (.ref a1), .val (.int p2), .val (.int p3), .val (.int p4), .val (.int p5)] [(.int p2)])) _
    refine XS.iconst X0.here hx rfl (hb hby d11_30) ?_
    show Steps p.tables e below (s₁.setTop (mkF m 31 #[.val (.ref a1), .val (.int p2), .val (.int p3), .val (.int p4), .val (.int p5)] [(.int (2 : Int32)), (.int p2)])) _
    refine XS.icmpNo X0.here hx rfl (hb hby d11_31) rfl (tlt hc31).2.2.2 ?_
    show Steps p.tables e below (s₁.setTop (mkF m 34 #[.val (.ref a1), .val (.int p2), .val (.int p3), .val (.int p4), .val (.int p5)] [])) _
    refine XS.aloadN X0.here hx rfl (hb hby d11_34) rfl rfl ?_
    show Steps p.tables e below (s₁.setTop (mkF m 35 #[.val (.ref a1), .val (.int p2), .val (.int p3), .val (.int p4), .val (.int p5)] [(.ref a1)])) _
    refine XS.iconst X0.here hx rfl (hb hby d11_35) ?_
    show Steps p.tables e below (s₁.setTop (mkF m 36 #[.val (.ref a1), .val (.int p2), .val (.int p3), .val (.int p4), .val (.int p5)] [(.int (2 : Int32)), (.ref a1)])) _
    refine X0.baloadBytes hx (j := (2 : Int32)) (v := (.int w8)) (by rw [e0]; exact Ar_a1.1) (State.isArrayOf_alike hZ.alike Ar_a1.2.1) Ar_a1.2.2 hin36 hat36 (g := (mkF m 36 #[.val (.ref a1), .val (.int p2), .val (.int p3), .val (.int p4), .val (.int p5)] [(.int (2 : Int32)), (.ref a1)])) rfl rfl (hb hby d11_36) _ ?_
    show Steps p.tables e below (s₁.setTop (mkF m 37 #[.val (.ref a1), .val (.int p2), .val (.int p3), .val (.int p4), .val (.int p5)] [(.int w8)])) _
    refine XS.iload X0.here hx rfl (hb hby d11_37) rfl ?_
    show Steps p.tables e below (s₁.setTop (mkF m 39 #[.val (.ref a1), .val (.int p2), .val (.int p3), .val (.int p4), .val (.int p5)] [(.int p5), (.int w8)])) _
    refine XS.i2b X0.here hx rfl (hb hby d11_39) rfl ?_
    show Steps p.tables e below (s₁.setTop (mkF m 40 #[.val (.ref a1), .val (.int p2), .val (.int p3), .val (.int p4), .val (.int p5)] [(.int (p5.toInt8.toInt32)), (.int w8)])) _
    refine XS.icmpYes X0.here hx rfl (pc0 := 40) (pc' := 45) rfl (hb hby d11_40) rfl (teq hc40).1 (by decide) (by decide) ?_
    show Steps p.tables e below (s₁.setTop (mkF m 45 #[.val (.ref a1), .val (.int p2), .val (.int p3), .val (.int p4), .val (.int p5)] [])) _
    refine XS.iconst X0.here hx rfl (hb hby d11_45) ?_
    show Steps p.tables e below (s₁.setTop (mkF m 46 #[.val (.ref a1), .val (.int p2), .val (.int p3), .val (.int p4), .val (.int p5)] [(.int (1 : Int32))])) _
    exact retN X0 hx (t := .boolean) Bd.returns (by simp) (hb hby d11_46) hr
  · show Q11_n3 Z a1 p2 p3 p4 p5 w6 cl_a1 w7 w8 h0 n0 _ s₁.heap _
    rw [e0]
    exact ⟨rfl, N0, rfl⟩
theorem d1_0 : decode prog_64_method_1_code 0 = .ok (.aload_n 0, 1) := by decide +kernel
theorem d1_1 : decode prog_64_method_1_code 1 = .ok (.invokespecial 1, 3) := by decide +kernel
theorem d1_4 : decode prog_64_method_1_code 4 = .ok (.aload_n 0, 1) := by decide +kernel
theorem d1_5 : decode prog_64_method_1_code 5 = .ok (.iload_n 1, 1) := by decide +kernel
theorem d1_6 : decode prog_64_method_1_code 6 = .ok (.newarray .byte, 2) := by decide +kernel
theorem d1_8 : decode prog_64_method_1_code 8 = .ok (.putfield 7, 3) := by decide +kernel
theorem d1_11 : decode prog_64_method_1_code 11 = .ok (.return_, 1) := by decide +kernel
theorem pn_1 : plainName "com/example/acompte/acompte/Utf8Builder" = true := by first | (simp [plainName, overriddenIn]; done) | decide +kernel
theorem ef_1 (m : MethodId) (x0 : Addr) (x1 : Int32) : entryFrame m #[(.ref x0), (.int x1)] 2 = mkF m 0 #[.val (.ref x0), .val (.int x1)] [] := by first | (simp [entryFrame, mkF, argsToLocals, Value.category]; done) | rfl
def Q1 (Z : State) (a1 : Addr) (cN : Nat) (h0 : Heap) (n0 : Nat) (v : Option Value) (h : Heap) (L : List Loc) : Prop := v = none ∧ Fr n0 L ∧ h0.size ≤ h.size ∧ Bld Z h n0 a1 cN []
set_option maxRecDepth 65536 in
set_option maxHeartbeats 40000000 in
theorem rm1_i (l : Launch) (Z : State) (a0 : Array Value) (hw : ∀ d ∈ tables_1, d.before a0 Z = true) (ws : List Jvm.Cond) (a1 : Addr) (p2 : Int32) (u_bytes_a1 : Value) (cN : Nat) (h0 : Heap) (n0 : Nat) (Z0 : n0 ≤ h0.size) (E_a1 : Exa Z h0 a1 "com/example/acompte/acompte/Utf8Builder") (F_bytes_a1 : Fld Z h0 a1 "com/example/acompte/acompte/Utf8Builder" "bytes" "[B" u_bytes_a1) (F_length_a1 : Fld Z h0 a1 "com/example/acompte/acompte/Utf8Builder" "length" "I" (.int (0 : Int32))) (g_a1 : n0 ≤ a1) (hp : p2 = Int32.ofNat cN) (hc : cN ≤ 3) :
    MetFree l (⟨"com/example/acompte/acompte/Utf8Builder", "<init>", "(I)V"⟩ : MethodName) (head1 (Jvm.Cond.code (⟨"com/example/acompte/acompte/Utf8Builder", "<init>", "(I)V"⟩ : MethodName) prog_64_method_1_code 2 none :: ws) ({ frames := 1, cells := 1, slots := 8, locals := 12 } : Room)) (fun a U => a = #[(.ref a1), (.int p2)] ∧ Z.Warmed39 U.vm ∧ U.heap = h0) (fun _ _ _ _ _ => True) (fun _ U o U' => ∃ v L, o = .returned v ∧ Q1 Z a1 cN h0 n0 v U'.heap L ∧ FrameEnd U o U' L ({ frames := 1, cells := 1, slots := 8, locals := 12 } : Room).cells ({ frames := 1, cells := 1, slots := 8, locals := 12 } : Room).slots) := by
  refine MetFree.of_bodySF (plainFor_of_name pn_1) hisR ?_
  intro p e s m args below meth c s₁ Bd hml0 hP hK
  obtain ⟨rfl, hZ, hh⟩ := hP
  have hx := Bd.exec
  have hby := Bd.bytes
  have hml : c.maxLocals = 2 := hml0
  have hown : s.vm.findClass "com/example/acompte/acompte/Utf8Builder" = some m.cls := findClass_of_methodNamed Bd.named
  have hnm := (name_of_methodNamed Bd.named Bd.method).1
  have X0 : Stand p l e ({ frames := 1, cells := 1, slots := 8, locals := 12 } : Room) s m #[(.ref a1), (.int p2)] below meth c s₁ [] 0 0 := Stand.of_body Bd
  have e0 : s₁.heap = h0 := by rw [← hh, Bd.state]; rfl
  have N0 := Fr.nil n0
  have pre0 : ∀ t, Steps p.tables e below (s₁.setTop (mkF m 0 #[.val (.ref a1), .val (.int p2)] [])) t → Steps p.tables e below (s₁.setTop (entryFrame m #[(.ref a1), (.int p2)] 2)) t := fun t k => castTop (ef_1 m a1 p2) k
  -- 3. LAWS
  obtain ⟨T3, X3, e3, st3⟩ := initO X0 hx hZ hown (hw _ (List.mem_of_getElem? (i := 6) rfl)) (hw _ (List.mem_of_getElem? (i := 7) rfl)) (hw _ (List.mem_of_getElem? (i := 8) rfl)) e0 (g := (mkF m 1 #[.val (.ref a1), .val (.int p2)] [(.ref a1)])) rfl (by rw [hml]; rfl) rfl (hb hby d1_1) (by decide) (W := 0) (by show 2 * 0 + _ ≤ _; exact Nat.le_of_eq rfl) (by decide)
  obtain ⟨T4, h4, k4, X4, e4, E4, A4, Eb4, st4⟩ := newPE X3 hx hZ (hw _ (List.mem_of_getElem? (i := 9) rfl)) e3 (g := (mkF m 6 #[.val (.ref a1), .val (.int p2)] [(.int p2), (.ref a1)])) rfl (hb hby d1_6) rfl (by rw [hp]; exact own_nn (by omega)) (cap := 8) (by rw [hp, own_clamp (by omega)]; omega) (by decide) (by decide) (by decide) (ad := "[B") rfl
  obtain ⟨b4, g4⟩ : ∃ z, z = h0.size := ⟨_, rfl⟩      -- the fresh array's address
  rw [← g4] at A4 Eb4 st4
  have V_b4 := Arv.new A4 (by rw [hp]; exact own_nn (by omega))      -- Arv Z h4 b4 k4 .byte p2 [] (its first value); a place must be in the list before it's written: Arv.pad with pad_rep
  have g_b4 : n0 ≤ b4 := Nat.le_trans Z0 (Nat.le_of_eq g4.symm)
  have sz_b4 : h0.size ≤ b4 := (Nat.le_trans (Keep.refl h0 [a1]).1 (Nat.le_of_eq g4.symm))
  have K4 : Keep h0 h4 [a1] := (Keep.refl h0 [a1]).ext E4
  -- newarray of at most cap (8: the greatest length): this body's room: slots + cap; its caller's figures: cells + 1, slots + cap
  obtain ⟨T5, h5, X5, e5, W5, st5⟩ := putF X4 hx hZ hown (host := "") (Or.inl (hw _ (List.mem_of_getElem? (i := 10) rfl))) Via.refl e4 (F_bytes_a1.ext E4) (E_a1.ext E4) (Or.inl (hw _ (List.mem_of_getElem? (i := 11) rfl))) (hw _ (List.mem_of_getElem? (i := 1) rfl)) (ty := (.array .byte)) (by decide) rfl rfl (g := (mkF m 8 #[.val (.ref a1), .val (.int p2)] [(.ref b4), (.ref a1)])) rfl rfl (hb hby d1_8)
  have Fw5 := (F_bytes_a1.ext E4).same W5      -- the field now holds (.ref b4)
  have K5 : Keep h0 h5 [a1] := K4.wr W5 (Or.inl (List.mem_of_getElem? (i := 0) rfl))
  have N5 := Fr.snoc X5 N0 g_a1
  obtain ⟨fs, hr, hrun, hended, hW, hsame⟩ := X5.leave (v := none) (fun _ => rfl)
  refine ⟨_, _, pre0 _ ?_, hrun, hended, _, _, rfl, ?_, ⟨_, rfl⟩, hW, hsame.mono (by decide) (by decide)⟩
  -- 4. STEPS
  · show Steps p.tables e below (s₁.setTop (mkF m 0 #[.val (.ref a1), .val (.int p2)] [])) _
    refine XS.aloadN X0.here hx rfl (hb hby d1_0) rfl rfl ?_
    show Steps p.tables e below (s₁.setTop (mkF m 1 #[.val (.ref a1), .val (.int p2)] [(.ref a1)])) _
    refine st3 _ ?_
    show Steps p.tables e below (T3.setTop (mkF m 4 #[.val (.ref a1), .val (.int p2)] [])) _
    refine XS.aloadN X3.here hx rfl (hb hby d1_4) rfl rfl ?_
    show Steps p.tables e below (T3.setTop (mkF m 5 #[.val (.ref a1), .val (.int p2)] [(.ref a1)])) _
    refine XS.iloadN X3.here hx rfl (hb hby d1_5) rfl ?_
    show Steps p.tables e below (T3.setTop (mkF m 6 #[.val (.ref a1), .val (.int p2)] [(.int p2), (.ref a1)])) _
    refine st4 _ ?_
    show Steps p.tables e below (T4.setTop (mkF m 8 #[.val (.ref a1), .val (.int p2)] [(.ref b4), (.ref a1)])) _
    refine st5 _ ?_
    show Steps p.tables e below (T5.setTop (mkF m 11 #[.val (.ref a1), .val (.int p2)] [])) _
    exact X5.returnOut hx Bd.returns (hb hby d1_11) hr
  · show Q1 Z a1 cN h0 n0 _ T5.heap _
    rw [e5]
    have na : b4 ≠ a1 := Ne.symm (Nat.ne_of_lt (by rw [g4]; exact E_a1.lt))
    exact ⟨rfl, N5, K5.1, b4, k4, [], (E_a1.ext E4).wr W5, Fw5, (F_length_a1.ext E4).other W5 (Or.inr (slot_ne (Or.inl (hw _ (List.mem_of_getElem? (i := 22) rfl))) (Or.inl (hw _ (List.mem_of_getElem? (i := 11) rfl))) (by decide) (t := .int) (t' := (.array .byte)) (by decide) (by decide))), hp ▸ V_b4.other W5 na, Eb4.wr W5, g_a1, g_b4, Ne.symm na, Nat.zero_le _, by omega, fun i hi => absurd hi (Nat.not_lt_zero i)⟩
theorem pn_0 : plainName "com/example/acompte/acompte/Utf8BuilderToByteArrayPinLaw" = true := by first | (simp [plainName, overriddenIn]; done) | decide +kernel
theorem pdw_5 : parseMethodDescriptor "()[B" = some ⟨[], some (.array .byte)⟩ := by decide +kernel
theorem pdw_6 : parseMethodDescriptor "()I" = some ⟨[], some .int⟩ := by decide +kernel
theorem pdw_7 : parseMethodDescriptor "([BICCC)Z" = some ⟨[(.array .byte), .int, .char, .char, .char], some .boolean⟩ := by decide +kernel
theorem ef_0 (m : MethodId) (x0 : Int32) (x1 : Int32) (x2 : Int32) (x3 : Int32) (x4 : Int32) (x5 : Int32) : entryFrame m #[(.int x0), (.int x1), (.int x2), (.int x3), (.int x4), (.int x5)] maxLocals = mkF m 0 #[.val (.int x0), .val (.int x1), .val (.int x2), .val (.int x3), .val (.int x4), .val (.int x5), .unset, .unset, .unset, .unset, .unset, .unset, .unset, .unset, .unset, .unset, .unset] [] := by first | (simp [entryFrame, mkF, argsToLocals, Value.category, maxLocals]; done) | rfl
def Q0 (h0 : Heap) (n0 : Nat) (v : Option Value) (h : Heap) (L : List Loc) : Prop := v = some (.int (1 : Int32)) ∧ Fr n0 L
set_option maxRecDepth 65536 in
set_option maxHeartbeats 40000000 in
theorem rm0_c0n0 (l : Launch) (Z : State) (a0 : Array Value) (hw : ∀ d ∈ tables_1, d.before a0 Z = true) (ws : List Jvm.Cond) (p1 : Int32) (p2 : Int32) (p3 : Int32) (p4 : Int32) (p5 : Int32) (p6 : Int32) (h0 : Heap) (n0 : Nat) (Z0 : n0 ≤ h0.size) (cap : Nat) (hcap : (p1 &&& (3 : Int32)) = Int32.ofNat cap) (hcap3 : cap ≤ 3) (hn : (p2 &&& (3 : Int32)) = (0 : Int32)) (hc36 : (p6 &&& (1 : Int32)) = (0 : Int32)) :
    MetFree l x (head1 (Jvm.Cond.code x code maxLocals ret :: ws) room_1) (fun a U => a = #[(.int p1), (.int p2), (.int p3), (.int p4), (.int p5), (.int p6)] ∧ Z.Warmed39 U.vm ∧ U.heap = h0) (fun _ _ _ _ _ => True) (fun _ U o U' => ∃ v L, o = .returned v ∧ Q0 h0 n0 v U'.heap L ∧ FrameEnd U o U' L room_1.cells room_1.slots) := by
  have hc87 : ¬ ((0 : Int32) < (p2 &&& (3 : Int32))) := by rw [hn]; decide
  have hc101 : ¬ ((1 : Int32) < (p2 &&& (3 : Int32))) := by rw [hn]; decide
  have hc115 : ¬ ((2 : Int32) < (p2 &&& (3 : Int32))) := by rw [hn]; decide
  have hc183 : ¬ ((0 : Int32) < (p2 &&& (3 : Int32))) := by rw [hn]; decide
  have hc176 : ¬ ((1 : Int32) = (0 : Int32)) := by decide
  refine MetFree.of_bodySF (plainFor_of_name pn_0) hisR ?_
  intro p e s m args below meth c s₁ Bd hml0 hP hK
  obtain ⟨rfl, hZ, hh⟩ := hP
  have hx := Bd.exec
  have hby := Bd.bytes
  have hml : c.maxLocals = 17 := hml0
  have hown : s.vm.findClass "com/example/acompte/acompte/Utf8BuilderToByteArrayPinLaw" = some m.cls := findClass_of_methodNamed Bd.named
  have hnm := (name_of_methodNamed Bd.named Bd.method).1
  have X0 : Stand p l e room_1 s m #[(.int p1), (.int p2), (.int p3), (.int p4), (.int p5), (.int p6)] below meth c s₁ [] 0 0 := Stand.of_body Bd
  have e0 : s₁.heap = h0 := by rw [← hh, Bd.state]; rfl
  have N0 := Fr.nil n0
  have pre0 : ∀ t, Steps p.tables e below (s₁.setTop (mkF m 0 #[.val (.int p1), .val (.int p2), .val (.int p3), .val (.int p4), .val (.int p5), .val (.int p6), .unset, .unset, .unset, .unset, .unset, .unset, .unset, .unset, .unset, .unset, .unset] [])) t → Steps p.tables e below (s₁.setTop (entryFrame m #[(.int p1), (.int p2), (.int p3), (.int p4), (.int p5), (.int p6)] maxLocals)) t := fun t k => castTop (ef_0 m p1 p2 p3 p4 p5 p6) k
  -- 3. LAWS
  obtain ⟨T7, h7, X7, e7, E7, A7, D7, -, st7⟩ := newO X0 hx hZ hown (hw _ (List.mem_of_getElem? (i := 0) rfl)) (hw _ (List.mem_of_getElem? (i := 1) rfl)) (hw _ (List.mem_of_getElem? (i := 2) rfl)) e0 (g := (mkF m 56 #[.val (.int p1), .val (.int p2), .val (.int p3), .val (.int p4), .val (.int p5), .val (.int p6), .val (.int (p1 &&& (3 : Int32))), .val (.int (p2 &&& (3 : Int32))), .val (.int (own_ch p3)), .val (.int (own_ch p4)), .val (.int (own_ch p5)), .val (.int (0 : Int32)), .val (.int (own_jk p6)), .unset, .unset, .unset, .unset] [])) rfl (hb hby at_56) (by decide) (by decide)
  obtain ⟨b7, g7⟩ : ∃ z, z = h0.size := ⟨_, rfl⟩      -- the fresh object's address
  rw [← g7] at A7 D7 st7      -- A7 : Exa Z h7 b7 "com/example/acompte/acompte/Utf8Builder"; E7 : Ext h0 h7 (carries every older fact: .ext E7)
  have F_bytes_b7 : Fld Z h7 b7 "com/example/acompte/acompte/Utf8Builder" "bytes" "[B" .null := D7 (Or.inl (hw _ (List.mem_of_getElem? (i := 11) rfl))) (ty := (.array .byte)) (by decide)
  have F_length_b7 : Fld Z h7 b7 "com/example/acompte/acompte/Utf8Builder" "length" "I" (.int (0 : Int32)) := D7 (Or.inl (hw _ (List.mem_of_getElem? (i := 22) rfl))) (ty := .int) (by decide)
  have E_b7 := A7
  have g_b7 : n0 ≤ b7 := Nat.le_trans Z0 (Nat.le_of_eq g7.symm)
  obtain ⟨_, _, ⟨T8, L8, k8, n8⟩, -, X8, ⟨Lc8, hQ8, l8, y8, z8⟩, st8⟩ := X7.specialBack hx (y := (⟨"com/example/acompte/acompte/Utf8Builder", "<init>", "(I)V"⟩ : MethodName)) rfl hown (mvT hZ (hw _ (List.mem_of_getElem? (i := 3) rfl))) (mvT hZ (hw _ (List.mem_of_getElem? (i := 4) rfl))) (mvT hZ (hw _ (List.mem_of_getElem? (i := 5) rfl))) (by decide) (backOf (W := 1) (rm1_i l Z a0 hw [] b7 (p1 &&& (3 : Int32)) .null cap h7 n0 (Nat.le_trans Z0 E7.1) E_b7 F_bytes_b7 F_length_b7 g_b7 hcap hcap3) hZ (hw _ (List.mem_of_getElem? (i := 5) rfl)) (hw _ (List.mem_of_getElem? (i := 2) rfl)) (by decide) (by decide)) (g := (mkF m 62 #[.val (.int p1), .val (.int p2), .val (.int p3), .val (.int p4), .val (.int p5), .val (.int p6), .val (.int (p1 &&& (3 : Int32))), .val (.int (p2 &&& (3 : Int32))), .val (.int (own_ch p3)), .val (.int (own_ch p4)), .val (.int (own_ch p5)), .val (.int (0 : Int32)), .val (.int (own_jk p6)), .unset, .unset, .unset, .unset] [(.int (p1 &&& (3 : Int32))), (.ref b7), (.ref b7)])) rfl (by rw [hml]; rfl) (Steps.refl _) (a := b7) (argsL := [(.int (p1 &&& (3 : Int32)))]) (rest := [(.ref b7)]) (lenOf pdw_4 rfl) rfl (by show 2 * 0 + _ ≤ _; exact Nat.le_of_eq rfl) (hb hby at_62) (fun _ _ => ⟨rfl, e7, (by decide : 1 + 1 ≤ _), (by decide : 2 + 8 ≤ _)⟩)
  dsimp only [Pt.U, Pt.locs, Pt.cells, Pt.slots] at X8 l8 y8 z8 st8 hQ8
  subst l8 y8 z8
  obtain ⟨rfl, N8q, zh, BB⟩ := hQ8
  have ZB : n0 ≤ T8.heap.size := Nat.le_trans (Nat.le_trans Z0 E7.1) zh
  have EB := BB.exa
  have N8 := Fr.app N0 N8q
  obtain ⟨cq9, kq9, q9a, q9b, q9c⟩ := isOf hZ rfl EB
  obtain ⟨_, _, ⟨T9, L9, k9, n9⟩, -, X9, ⟨Lc9, hQ9, l9, y9, z9⟩, st9⟩ := X8.virtualBack hx (y := (⟨"com/example/acompte/acompte/Utf8Builder", "toByteArray", "()[B"⟩ : MethodName)) (z := (⟨"com/example/acompte/acompte/Utf8Builder", "toByteArray", "()[B"⟩ : MethodName)) hown (mvT hZ (hw _ (List.mem_of_getElem? (i := 43) rfl))) (mvT hZ (hw _ (List.mem_of_getElem? (i := 44) rfl))) (notFace_of_selects (args := #[]) (mvT hZ (hw _ (List.mem_of_getElem? (i := 46) rfl)))) (mvT hZ (hw _ (List.mem_of_getElem? (i := 46) rfl))) (mvT hZ (hw _ (List.mem_of_getElem? (i := 45) rfl))) (by decide) (backOf (W := 0) (rm9_t l Z a0 hw [] b7 cap [] T8.heap n0 ZB BB) hZ (hw _ (List.mem_of_getElem? (i := 47) rfl)) (hw _ (List.mem_of_getElem? (i := 2) rfl)) (by decide) (by decide)) q9a q9c (g := (mkF m 128 #[.val (.int p1), .val (.int p2), .val (.int p3), .val (.int p4), .val (.int p5), .val (.int p6), .val (.int (p1 &&& (3 : Int32))), .val (.int (p2 &&& (3 : Int32))), .val (.int (own_ch p3)), .val (.int (own_ch p4)), .val (.int (own_ch p5)), .val (.int (0 : Int32)), .val (.int (own_jk p6)), .val (.ref b7), .unset, .unset, .unset] [(.ref b7)])) rfl (by rw [hml]; rfl) (Steps.refl _) (argsL := []) (rest := []) (lenOf pdw_5 rfl) rfl (by show 2 * 0 + _ ≤ _; exact Nat.le_of_eq rfl) (hb hby at_128) (fun _ _ => ⟨rfl, rfl, (by decide : 2 + 1 ≤ _), (by decide : 10 + 8 ≤ _)⟩)
  dsimp only [Pt.U, Pt.locs, Pt.cells, Pt.slots] at X9 l9 y9 z9 st9 hQ9
  subst l9 y9 z9
  obtain ⟨rfl, N9q, K9, k9', us9, V9, hus9⟩ := hQ9
  have BB1 := BB
  have g_r1 := ZB
  have BB := BB.keep K9
  have ZB : n0 ≤ T9.heap.size := Nat.le_trans ZB K9.1
  have EB := BB.exa
  have FL := BB.len
  have V9' := V9
  obtain ⟨clr1, Arr1, qr1, Sr1, Nr1, Hr1, Gr1⟩ := V9'
  have N9 := Fr.app N8 N9q
  obtain ⟨cq10, kq10, q10a, q10b, q10c⟩ := isOf hZ rfl EB
  obtain ⟨_, _, ⟨T10, L10, k10, n10⟩, -, X10, ⟨Lc10, hQ10, l10, y10, z10⟩, st10⟩ := X9.virtualBack hx (y := (⟨"com/example/acompte/acompte/Utf8Builder", "length", "()I"⟩ : MethodName)) (z := (⟨"com/example/acompte/acompte/Utf8Builder", "length", "()I"⟩ : MethodName)) hown (mvT hZ (hw _ (List.mem_of_getElem? (i := 48) rfl))) (mvT hZ (hw _ (List.mem_of_getElem? (i := 49) rfl))) (notFace_of_selects (args := #[]) (mvT hZ (hw _ (List.mem_of_getElem? (i := 51) rfl)))) (mvT hZ (hw _ (List.mem_of_getElem? (i := 51) rfl))) (mvT hZ (hw _ (List.mem_of_getElem? (i := 50) rfl))) (by decide) (backOf (W := 0) (rm10 l Z a0 hw [] b7 (Int32.ofNat [].length) T9.heap n0 ZB FL) hZ (hw _ (List.mem_of_getElem? (i := 52) rfl)) (hw _ (List.mem_of_getElem? (i := 2) rfl)) (by decide) (by decide)) q10a q10c (g := (mkF m 143 #[.val (.int p1), .val (.int p2), .val (.int p3), .val (.int p4), .val (.int p5), .val (.int p6), .val (.int (p1 &&& (3 : Int32))), .val (.int (p2 &&& (3 : Int32))), .val (.int (own_ch p3)), .val (.int (own_ch p4)), .val (.int (own_ch p5)), .val (.int (0 : Int32)), .val (.int (own_jk p6)), .val (.ref b7), .val (.ref (T8.heap.size)), .unset, .unset] [(.ref b7)])) rfl (by rw [hml]; rfl) (Steps.refl _) (argsL := []) (rest := []) (lenOf pdw_6 rfl) rfl (by show 2 * 0 + _ ≤ _; exact Nat.le_of_eq rfl) (hb hby at_143) (fun _ _ => ⟨rfl, rfl, (by decide : 3 + 0 ≤ _), (by decide : 18 + 0 ≤ _)⟩)
  dsimp only [Pt.U, Pt.locs, Pt.cells, Pt.slots] at X10 l10 y10 z10 st10 hQ10
  subst l10 y10 z10
  obtain ⟨rfl, N10q, hh10⟩ := hQ10
  have N10 := Fr.app N9 N10q
  obtain ⟨_, _, ⟨T11, L11, k11, n11⟩, -, X11, ⟨Lc11, hQ11, l11, y11, z11⟩, st11⟩ := Jvm.LawKit.callS X10 hx (y := (⟨"com/example/acompte/acompte/Utf8BuilderToByteArrayPinLaw", "matches", "([BICCC)Z"⟩ : MethodName)) hown (mvT hZ (hw _ (List.mem_of_getElem? (i := 53) rfl))) (mvT hZ (hw _ (List.mem_of_getElem? (i := 54) rfl))) (mvT hZ (hw _ (List.mem_of_getElem? (i := 55) rfl))) (mvT hZ (hw _ (List.mem_of_getElem? (i := 56) rfl))) (by decide) (backOf (W := 0) (rm11_n0 l Z a0 hw [] (T8.heap.size) (p2 &&& (3 : Int32)) (own_ch p3) (own_ch p4) (own_ch p5)  T9.heap n0 ZB (by rw [hn]; decide) (by rw [hn]; decide) (by rw [hn]; decide)) hZ (hw _ (List.mem_of_getElem? (i := 56) rfl)) (hw _ (List.mem_of_getElem? (i := 55) rfl)) (by decide) (by decide)) (g := (mkF m 161 #[.val (.int p1), .val (.int p2), .val (.int p3), .val (.int p4), .val (.int p5), .val (.int p6), .val (.int (p1 &&& (3 : Int32))), .val (.int (p2 &&& (3 : Int32))), .val (.int (own_ch p3)), .val (.int (own_ch p4)), .val (.int (own_ch p5)), .val (.int (0 : Int32)), .val (.int (own_jk p6)), .val (.ref b7), .val (.ref (T8.heap.size)), .unset, .unset] [(.int (own_ch p5)), (.int (own_ch p4)), (.int (own_ch p3)), (.int (p2 &&& (3 : Int32))), (.ref (T8.heap.size))])) rfl (by rw [hml]; rfl) (argsL := [(.ref (T8.heap.size)), (.int (p2 &&& (3 : Int32))), (.int (own_ch p3)), (.int (own_ch p4)), (.int (own_ch p5))]) (rest := []) (lenOf pdw_7 rfl) rfl (by show 2 * 0 + _ ≤ _; exact Nat.le_of_eq rfl) (hb hby at_161) (fun _ _ => ⟨rfl, hh10, (by decide : 3 + 0 ≤ _), (by decide : 18 + 0 ≤ _)⟩)
  dsimp only [Pt.U, Pt.locs, Pt.cells, Pt.slots] at X11 l11 y11 z11 st11 hQ11
  subst l11 y11 z11
  obtain ⟨rfl, N11q, hh11⟩ := hQ11
  have N11 := Fr.app N10 N11q
  obtain ⟨cq12, kq12, q12a, q12b, q12c⟩ := isOf hZ hh11 EB
  obtain ⟨_, _, ⟨T12, L12, k12, n12⟩, -, X12, ⟨Lc12, hQ12, l12, y12, z12⟩, st12⟩ := X11.virtualBack hx (y := (⟨"com/example/acompte/acompte/Utf8Builder", "toByteArray", "()[B"⟩ : MethodName)) (z := (⟨"com/example/acompte/acompte/Utf8Builder", "toByteArray", "()[B"⟩ : MethodName)) hown (mvT hZ (hw _ (List.mem_of_getElem? (i := 43) rfl))) (mvT hZ (hw _ (List.mem_of_getElem? (i := 44) rfl))) (notFace_of_selects (args := #[]) (mvT hZ (hw _ (List.mem_of_getElem? (i := 46) rfl)))) (mvT hZ (hw _ (List.mem_of_getElem? (i := 46) rfl))) (mvT hZ (hw _ (List.mem_of_getElem? (i := 45) rfl))) (by decide) (backOf (W := 0) (rm9_t l Z a0 hw [] b7 cap [] T9.heap n0 ZB BB) hZ (hw _ (List.mem_of_getElem? (i := 47) rfl)) (hw _ (List.mem_of_getElem? (i := 2) rfl)) (by decide) (by decide)) q12a q12c (g := (mkF m 200 #[.val (.int p1), .val (.int p2), .val (.int p3), .val (.int p4), .val (.int p5), .val (.int p6), .val (.int (p1 &&& (3 : Int32))), .val (.int (p2 &&& (3 : Int32))), .val (.int (own_ch p3)), .val (.int (own_ch p4)), .val (.int (own_ch p5)), .val (.int (0 : Int32)), .val (.int (own_jk p6)), .val (.ref b7), .val (.ref (T8.heap.size)), .val (.int (1 : Int32)), .unset] [(.ref b7)])) rfl (by rw [hml]; rfl) (Steps.refl _) (argsL := []) (rest := []) (lenOf pdw_5 rfl) rfl (by show 2 * 0 + _ ≤ _; exact Nat.le_of_eq rfl) (hb hby at_200) (fun _ _ => ⟨rfl, hh11, (by decide : 3 + 1 ≤ _), (by decide : 18 + 8 ≤ _)⟩)
  dsimp only [Pt.U, Pt.locs, Pt.cells, Pt.slots] at X12 l12 y12 z12 st12 hQ12
  subst l12 y12 z12
  obtain ⟨rfl, N12q, K12, k12', us12, V12, hus12⟩ := hQ12
  have ZB : n0 ≤ T12.heap.size := Nat.le_trans ZB K12.1
  have V12' := V12
  obtain ⟨clr2, Arr2, qr2, Sr2, Nr2, Hr2, Gr2⟩ := V12'
  have N12 := Fr.app N11 N12q
  obtain ⟨_, _, ⟨T13, L13, k13, n13⟩, -, X13, ⟨Lc13, hQ13, l13, y13, z13⟩, st13⟩ := Jvm.LawKit.callS X12 hx (y := (⟨"com/example/acompte/acompte/Utf8BuilderToByteArrayPinLaw", "matches", "([BICCC)Z"⟩ : MethodName)) hown (mvT hZ (hw _ (List.mem_of_getElem? (i := 53) rfl))) (mvT hZ (hw _ (List.mem_of_getElem? (i := 54) rfl))) (mvT hZ (hw _ (List.mem_of_getElem? (i := 55) rfl))) (mvT hZ (hw _ (List.mem_of_getElem? (i := 56) rfl))) (by decide) (backOf (W := 0) (rm11_n0 l Z a0 hw [] (T9.heap.size) (p2 &&& (3 : Int32)) (own_ch p3) (own_ch p4) (own_ch p5)  T12.heap n0 ZB (by rw [hn]; decide) (by rw [hn]; decide) (by rw [hn]; decide)) hZ (hw _ (List.mem_of_getElem? (i := 56) rfl)) (hw _ (List.mem_of_getElem? (i := 55) rfl)) (by decide) (by decide)) (g := (mkF m 223 #[.val (.int p1), .val (.int p2), .val (.int p3), .val (.int p4), .val (.int p5), .val (.int p6), .val (.int (p1 &&& (3 : Int32))), .val (.int (p2 &&& (3 : Int32))), .val (.int (own_ch p3)), .val (.int (own_ch p4)), .val (.int (own_ch p5)), .val (.int (0 : Int32)), .val (.int (own_jk p6)), .val (.ref b7), .val (.ref (T8.heap.size)), .val (.int (1 : Int32)), .val (.ref (T9.heap.size))] [(.int (own_ch p5)), (.int (own_ch p4)), (.int (own_ch p3)), (.int (p2 &&& (3 : Int32))), (.ref (T9.heap.size))])) rfl (by rw [hml]; rfl) (argsL := [(.ref (T9.heap.size)), (.int (p2 &&& (3 : Int32))), (.int (own_ch p3)), (.int (own_ch p4)), (.int (own_ch p5))]) (rest := []) (lenOf pdw_7 rfl) rfl (by show 2 * 0 + _ ≤ _; exact Nat.le_of_eq rfl) (hb hby at_223) (fun _ _ => ⟨rfl, rfl, (by decide : 4 + 0 ≤ _), (by decide : 26 + 0 ≤ _)⟩)
  dsimp only [Pt.U, Pt.locs, Pt.cells, Pt.slots] at X13 l13 y13 z13 st13 hQ13
  subst l13 y13 z13
  obtain ⟨rfl, N13q, hh13⟩ := hQ13
  have N13 := Fr.app N12 N13q
  obtain ⟨fs, hr, hrun, hended, hW, hsame⟩ := X13.leave (v := some (.int (1 : Int32))) (fun h => by rw [Bd.returns] at h; cases h)
  refine ⟨_, _, pre0 _ ?_, hrun, hended, _, _, rfl, ?_, ⟨_, rfl⟩, hW, hsame.mono (by decide) (by decide)⟩
  -- 4. STEPS
  · show Steps p.tables e below (s₁.setTop (mkF m 0 #[.val (.int p1), .val (.int p2), .val (.int p3), .val (.int p4), .val (.int p5), .val (.int p6), .unset, .unset, .unset, .unset, .unset, .unset, .unset, .unset, .unset, .unset, .unset] [])) _
    refine XS.iloadN X0.here hx rfl (hb hby at_0) rfl ?_
    show Steps p.tables e below (s₁.setTop (mkF m 1 #[.val (.int p1), .val (.int p2), .val (.int p3), .val (.int p4), .val (.int p5), .val (.int p6), .unset, .unset, .unset, .unset, .unset, .unset, .unset, .unset, .unset, .unset, .unset] [(.int p1)])) _
    refine XS.iconst X0.here hx rfl (hb hby at_1) ?_
    show Steps p.tables e below (s₁.setTop (mkF m 2 #[.val (.int p1), .val (.int p2), .val (.int p3), .val (.int p4), .val (.int p5), .val (.int p6), .unset, .unset, .unset, .unset, .unset, .unset, .unset, .unset, .unset, .unset, .unset] [(.int (3 : Int32)), (.int p1)])) _
    refine XS.iand X0.here hx rfl (hb hby at_2) rfl ?_
    show Steps p.tables e below (s₁.setTop (mkF m 3 #[.val (.int p1), .val (.int p2), .val (.int p3), .val (.int p4), .val (.int p5), .val (.int p6), .unset, .unset, .unset, .unset, .unset, .unset, .unset, .unset, .unset, .unset, .unset] [(.int (p1 &&& (3 : Int32)))])) _
    refine XS.istore X0.here hx rfl (hb hby at_3) rfl (l' := #[.val (.int p1), .val (.int p2), .val (.int p3), .val (.int p4), .val (.int p5), .val (.int p6), .val (.int (p1 &&& (3 : Int32))), .unset, .unset, .unset, .unset, .unset, .unset, .unset, .unset, .unset, .unset]) rfl ?_
    show Steps p.tables e below (s₁.setTop (mkF m 5 #[.val (.int p1), .val (.int p2), .val (.int p3), .val (.int p4), .val (.int p5), .val (.int p6), .val (.int (p1 &&& (3 : Int32))), .unset, .unset, .unset, .unset, .unset, .unset, .unset, .unset, .unset, .unset] [])) _
    refine XS.iloadN X0.here hx rfl (hb hby at_5) rfl ?_
    show Steps p.tables e below (s₁.setTop (mkF m 6 #[.val (.int p1), .val (.int p2), .val (.int p3), .val (.int p4), .val (.int p5), .val (.int p6), .val (.int (p1 &&& (3 : Int32))), .unset, .unset, .unset, .unset, .unset, .unset, .unset, .unset, .unset, .unset] [(.int p2)])) _
    refine XS.iconst X0.here hx rfl (hb hby at_6) ?_
    show Steps p.tables e below (s₁.setTop (mkF m 7 #[.val (.int p1), .val (.int p2), .val (.int p3), .val (.int p4), .val (.int p5), .val (.int p6), .val (.int (p1 &&& (3 : Int32))), .unset, .unset, .unset, .unset, .unset, .unset, .unset, .unset, .unset, .unset] [(.int (3 : Int32)), (.int p2)])) _
    refine XS.iand X0.here hx rfl (hb hby at_7) rfl ?_
    show Steps p.tables e below (s₁.setTop (mkF m 8 #[.val (.int p1), .val (.int p2), .val (.int p3), .val (.int p4), .val (.int p5), .val (.int p6), .val (.int (p1 &&& (3 : Int32))), .unset, .unset, .unset, .unset, .unset, .unset, .unset, .unset, .unset, .unset] [(.int (p2 &&& (3 : Int32)))])) _
    refine XS.istore X0.here hx rfl (hb hby at_8) rfl (l' := #[.val (.int p1), .val (.int p2), .val (.int p3), .val (.int p4), .val (.int p5), .val (.int p6), .val (.int (p1 &&& (3 : Int32))), .val (.int (p2 &&& (3 : Int32))), .unset, .unset, .unset, .unset, .unset, .unset, .unset, .unset, .unset]) rfl ?_
    show Steps p.tables e below (s₁.setTop (mkF m 10 #[.val (.int p1), .val (.int p2), .val (.int p3), .val (.int p4), .val (.int p5), .val (.int p6), .val (.int (p1 &&& (3 : Int32))), .val (.int (p2 &&& (3 : Int32))), .unset, .unset, .unset, .unset, .unset, .unset, .unset, .unset, .unset] [])) _
    refine XS.iloadN X0.here hx rfl (hb hby at_10) rfl ?_
    show Steps p.tables e below (s₁.setTop (mkF m 11 #[.val (.int p1), .val (.int p2), .val (.int p3), .val (.int p4), .val (.int p5), .val (.int p6), .val (.int (p1 &&& (3 : Int32))), .val (.int (p2 &&& (3 : Int32))), .unset, .unset, .unset, .unset, .unset, .unset, .unset, .unset, .unset] [(.int p3)])) _
    refine XS.bipush X0.here hx rfl (hb hby at_11) ?_
    show Steps p.tables e below (s₁.setTop (mkF m 13 #[.val (.int p1), .val (.int p2), .val (.int p3), .val (.int p4), .val (.int p5), .val (.int p6), .val (.int (p1 &&& (3 : Int32))), .val (.int (p2 &&& (3 : Int32))), .unset, .unset, .unset, .unset, .unset, .unset, .unset, .unset, .unset] [(.int (127 : Int32)), (.int p3)])) _
    refine XS.iand X0.here hx rfl (hb hby at_13) rfl ?_
    show Steps p.tables e below (s₁.setTop (mkF m 14 #[.val (.int p1), .val (.int p2), .val (.int p3), .val (.int p4), .val (.int p5), .val (.int p6), .val (.int (p1 &&& (3 : Int32))), .val (.int (p2 &&& (3 : Int32))), .unset, .unset, .unset, .unset, .unset, .unset, .unset, .unset, .unset] [(.int (p3 &&& (127 : Int32)))])) _
    refine XS.i2c X0.here hx rfl (hb hby at_14) rfl ?_
    show Steps p.tables e below (s₁.setTop (mkF m 15 #[.val (.int p1), .val (.int p2), .val (.int p3), .val (.int p4), .val (.int p5), .val (.int p6), .val (.int (p1 &&& (3 : Int32))), .val (.int (p2 &&& (3 : Int32))), .unset, .unset, .unset, .unset, .unset, .unset, .unset, .unset, .unset] [(.int (own_ch p3))])) _
    refine XS.istore X0.here hx rfl (hb hby at_15) rfl (l' := #[.val (.int p1), .val (.int p2), .val (.int p3), .val (.int p4), .val (.int p5), .val (.int p6), .val (.int (p1 &&& (3 : Int32))), .val (.int (p2 &&& (3 : Int32))), .val (.int (own_ch p3)), .unset, .unset, .unset, .unset, .unset, .unset, .unset, .unset]) rfl ?_
    show Steps p.tables e below (s₁.setTop (mkF m 17 #[.val (.int p1), .val (.int p2), .val (.int p3), .val (.int p4), .val (.int p5), .val (.int p6), .val (.int (p1 &&& (3 : Int32))), .val (.int (p2 &&& (3 : Int32))), .val (.int (own_ch p3)), .unset, .unset, .unset, .unset, .unset, .unset, .unset, .unset] [])) _
    refine XS.iloadN X0.here hx rfl (hb hby at_17) rfl ?_
    show Steps p.tables e below (s₁.setTop (mkF m 18 #[.val (.int p1), .val (.int p2), .val (.int p3), .val (.int p4), .val (.int p5), .val (.int p6), .val (.int (p1 &&& (3 : Int32))), .val (.int (p2 &&& (3 : Int32))), .val (.int (own_ch p3)), .unset, .unset, .unset, .unset, .unset, .unset, .unset, .unset] [(.int p4)])) _
    refine XS.bipush X0.here hx rfl (hb hby at_18) ?_
    show Steps p.tables e below (s₁.setTop (mkF m 20 #[.val (.int p1), .val (.int p2), .val (.int p3), .val (.int p4), .val (.int p5), .val (.int p6), .val (.int (p1 &&& (3 : Int32))), .val (.int (p2 &&& (3 : Int32))), .val (.int (own_ch p3)), .unset, .unset, .unset, .unset, .unset, .unset, .unset, .unset] [(.int (127 : Int32)), (.int p4)])) _
    refine XS.iand X0.here hx rfl (hb hby at_20) rfl ?_
    show Steps p.tables e below (s₁.setTop (mkF m 21 #[.val (.int p1), .val (.int p2), .val (.int p3), .val (.int p4), .val (.int p5), .val (.int p6), .val (.int (p1 &&& (3 : Int32))), .val (.int (p2 &&& (3 : Int32))), .val (.int (own_ch p3)), .unset, .unset, .unset, .unset, .unset, .unset, .unset, .unset] [(.int (p4 &&& (127 : Int32)))])) _
    refine XS.i2c X0.here hx rfl (hb hby at_21) rfl ?_
    show Steps p.tables e below (s₁.setTop (mkF m 22 #[.val (.int p1), .val (.int p2), .val (.int p3), .val (.int p4), .val (.int p5), .val (.int p6), .val (.int (p1 &&& (3 : Int32))), .val (.int (p2 &&& (3 : Int32))), .val (.int (own_ch p3)), .unset, .unset, .unset, .unset, .unset, .unset, .unset, .unset] [(.int (own_ch p4))])) _
    refine XS.istore X0.here hx rfl (hb hby at_22) rfl (l' := #[.val (.int p1), .val (.int p2), .val (.int p3), .val (.int p4), .val (.int p5), .val (.int p6), .val (.int (p1 &&& (3 : Int32))), .val (.int (p2 &&& (3 : Int32))), .val (.int (own_ch p3)), .val (.int (own_ch p4)), .unset, .unset, .unset, .unset, .unset, .unset, .unset]) rfl ?_
    show Steps p.tables e below (s₁.setTop (mkF m 24 #[.val (.int p1), .val (.int p2), .val (.int p3), .val (.int p4), .val (.int p5), .val (.int p6), .val (.int (p1 &&& (3 : Int32))), .val (.int (p2 &&& (3 : Int32))), .val (.int (own_ch p3)), .val (.int (own_ch p4)), .unset, .unset, .unset, .unset, .unset, .unset, .unset] [])) _
    refine XS.iload X0.here hx rfl (hb hby at_24) rfl ?_
    show Steps p.tables e below (s₁.setTop (mkF m 26 #[.val (.int p1), .val (.int p2), .val (.int p3), .val (.int p4), .val (.int p5), .val (.int p6), .val (.int (p1 &&& (3 : Int32))), .val (.int (p2 &&& (3 : Int32))), .val (.int (own_ch p3)), .val (.int (own_ch p4)), .unset, .unset, .unset, .unset, .unset, .unset, .unset] [(.int p5)])) _
    refine XS.bipush X0.here hx rfl (hb hby at_26) ?_
    show Steps p.tables e below (s₁.setTop (mkF m 28 #[.val (.int p1), .val (.int p2), .val (.int p3), .val (.int p4), .val (.int p5), .val (.int p6), .val (.int (p1 &&& (3 : Int32))), .val (.int (p2 &&& (3 : Int32))), .val (.int (own_ch p3)), .val (.int (own_ch p4)), .unset, .unset, .unset, .unset, .unset, .unset, .unset] [(.int (127 : Int32)), (.int p5)])) _
    refine XS.iand X0.here hx rfl (hb hby at_28) rfl ?_
    show Steps p.tables e below (s₁.setTop (mkF m 29 #[.val (.int p1), .val (.int p2), .val (.int p3), .val (.int p4), .val (.int p5), .val (.int p6), .val (.int (p1 &&& (3 : Int32))), .val (.int (p2 &&& (3 : Int32))), .val (.int (own_ch p3)), .val (.int (own_ch p4)), .unset, .unset, .unset, .unset, .unset, .unset, .unset] [(.int (p5 &&& (127 : Int32)))])) _
    refine XS.i2c X0.here hx rfl (hb hby at_29) rfl ?_
    show Steps p.tables e below (s₁.setTop (mkF m 30 #[.val (.int p1), .val (.int p2), .val (.int p3), .val (.int p4), .val (.int p5), .val (.int p6), .val (.int (p1 &&& (3 : Int32))), .val (.int (p2 &&& (3 : Int32))), .val (.int (own_ch p3)), .val (.int (own_ch p4)), .unset, .unset, .unset, .unset, .unset, .unset, .unset] [(.int (own_ch p5))])) _
    refine XS.istore X0.here hx rfl (hb hby at_30) rfl (l' := #[.val (.int p1), .val (.int p2), .val (.int p3), .val (.int p4), .val (.int p5), .val (.int p6), .val (.int (p1 &&& (3 : Int32))), .val (.int (p2 &&& (3 : Int32))), .val (.int (own_ch p3)), .val (.int (own_ch p4)), .val (.int (own_ch p5)), .unset, .unset, .unset, .unset, .unset, .unset]) rfl ?_
    show Steps p.tables e below (s₁.setTop (mkF m 32 #[.val (.int p1), .val (.int p2), .val (.int p3), .val (.int p4), .val (.int p5), .val (.int p6), .val (.int (p1 &&& (3 : Int32))), .val (.int (p2 &&& (3 : Int32))), .val (.int (own_ch p3)), .val (.int (own_ch p4)), .val (.int (own_ch p5)), .unset, .unset, .unset, .unset, .unset, .unset] [])) _
    refine XS.iload X0.here hx rfl (hb hby at_32) rfl ?_
    show Steps p.tables e below (s₁.setTop (mkF m 34 #[.val (.int p1), .val (.int p2), .val (.int p3), .val (.int p4), .val (.int p5), .val (.int p6), .val (.int (p1 &&& (3 : Int32))), .val (.int (p2 &&& (3 : Int32))), .val (.int (own_ch p3)), .val (.int (own_ch p4)), .val (.int (own_ch p5)), .unset, .unset, .unset, .unset, .unset, .unset] [(.int p6)])) _
    refine XS.iconst X0.here hx rfl (hb hby at_34) ?_
    show Steps p.tables e below (s₁.setTop (mkF m 35 #[.val (.int p1), .val (.int p2), .val (.int p3), .val (.int p4), .val (.int p5), .val (.int p6), .val (.int (p1 &&& (3 : Int32))), .val (.int (p2 &&& (3 : Int32))), .val (.int (own_ch p3)), .val (.int (own_ch p4)), .val (.int (own_ch p5)), .unset, .unset, .unset, .unset, .unset, .unset] [(.int (1 : Int32)), (.int p6)])) _
    refine XS.iand X0.here hx rfl (hb hby at_35) rfl ?_
    show Steps p.tables e below (s₁.setTop (mkF m 36 #[.val (.int p1), .val (.int p2), .val (.int p3), .val (.int p4), .val (.int p5), .val (.int p6), .val (.int (p1 &&& (3 : Int32))), .val (.int (p2 &&& (3 : Int32))), .val (.int (own_ch p3)), .val (.int (own_ch p4)), .val (.int (own_ch p5)), .unset, .unset, .unset, .unset, .unset, .unset] [(.int (p6 &&& (1 : Int32)))])) _
    refine XS.ifYes X0.here hx rfl (pc0 := 36) (pc' := 43) rfl (hb hby at_36) rfl ((if0 _ _).trans (teq hc36).1) (by decide) (by decide) ?_
    show Steps p.tables e below (s₁.setTop (mkF m 43 #[.val (.int p1), .val (.int p2), .val (.int p3), .val (.int p4), .val (.int p5), .val (.int p6), .val (.int (p1 &&& (3 : Int32))), .val (.int (p2 &&& (3 : Int32))), .val (.int (own_ch p3)), .val (.int (own_ch p4)), .val (.int (own_ch p5)), .unset, .unset, .unset, .unset, .unset, .unset] [])) _
    refine XS.iconst X0.here hx rfl (hb hby at_43) ?_
    show Steps p.tables e below (s₁.setTop (mkF m 44 #[.val (.int p1), .val (.int p2), .val (.int p3), .val (.int p4), .val (.int p5), .val (.int p6), .val (.int (p1 &&& (3 : Int32))), .val (.int (p2 &&& (3 : Int32))), .val (.int (own_ch p3)), .val (.int (own_ch p4)), .val (.int (own_ch p5)), .unset, .unset, .unset, .unset, .unset, .unset] [(.int (0 : Int32))])) _
    refine XS.istore X0.here hx rfl (hb hby at_44) rfl (l' := #[.val (.int p1), .val (.int p2), .val (.int p3), .val (.int p4), .val (.int p5), .val (.int p6), .val (.int (p1 &&& (3 : Int32))), .val (.int (p2 &&& (3 : Int32))), .val (.int (own_ch p3)), .val (.int (own_ch p4)), .val (.int (own_ch p5)), .val (.int (0 : Int32)), .unset, .unset, .unset, .unset, .unset]) rfl ?_
    show Steps p.tables e below (s₁.setTop (mkF m 46 #[.val (.int p1), .val (.int p2), .val (.int p3), .val (.int p4), .val (.int p5), .val (.int p6), .val (.int (p1 &&& (3 : Int32))), .val (.int (p2 &&& (3 : Int32))), .val (.int (own_ch p3)), .val (.int (own_ch p4)), .val (.int (own_ch p5)), .val (.int (0 : Int32)), .unset, .unset, .unset, .unset, .unset] [])) _
    refine XS.iload X0.here hx rfl (hb hby at_46) rfl ?_
    show Steps p.tables e below (s₁.setTop (mkF m 48 #[.val (.int p1), .val (.int p2), .val (.int p3), .val (.int p4), .val (.int p5), .val (.int p6), .val (.int (p1 &&& (3 : Int32))), .val (.int (p2 &&& (3 : Int32))), .val (.int (own_ch p3)), .val (.int (own_ch p4)), .val (.int (own_ch p5)), .val (.int (0 : Int32)), .unset, .unset, .unset, .unset, .unset] [(.int p6)])) _
    refine XS.iconst X0.here hx rfl (hb hby at_48) ?_
    show Steps p.tables e below (s₁.setTop (mkF m 49 #[.val (.int p1), .val (.int p2), .val (.int p3), .val (.int p4), .val (.int p5), .val (.int p6), .val (.int (p1 &&& (3 : Int32))), .val (.int (p2 &&& (3 : Int32))), .val (.int (own_ch p3)), .val (.int (own_ch p4)), .val (.int (own_ch p5)), .val (.int (0 : Int32)), .unset, .unset, .unset, .unset, .unset] [(.int (1 : Int32)), (.int p6)])) _
    refine XS.iushr X0.here hx rfl (hb hby at_49) rfl ?_
    show Steps p.tables e below (s₁.setTop (mkF m 50 #[.val (.int p1), .val (.int p2), .val (.int p3), .val (.int p4), .val (.int p5), .val (.int p6), .val (.int (p1 &&& (3 : Int32))), .val (.int (p2 &&& (3 : Int32))), .val (.int (own_ch p3)), .val (.int (own_ch p4)), .val (.int (own_ch p5)), .val (.int (0 : Int32)), .unset, .unset, .unset, .unset, .unset] [(.int ((p6.toUInt32 >>> ((1 : Int32) &&& 31).toUInt32).toInt32))])) _
    refine XS.bipush X0.here hx rfl (hb hby at_50) ?_
    show Steps p.tables e below (s₁.setTop (mkF m 52 #[.val (.int p1), .val (.int p2), .val (.int p3), .val (.int p4), .val (.int p5), .val (.int p6), .val (.int (p1 &&& (3 : Int32))), .val (.int (p2 &&& (3 : Int32))), .val (.int (own_ch p3)), .val (.int (own_ch p4)), .val (.int (own_ch p5)), .val (.int (0 : Int32)), .unset, .unset, .unset, .unset, .unset] [(.int (127 : Int32)), (.int ((p6.toUInt32 >>> ((1 : Int32) &&& 31).toUInt32).toInt32))])) _
    refine XS.iand X0.here hx rfl (hb hby at_52) rfl ?_
    show Steps p.tables e below (s₁.setTop (mkF m 53 #[.val (.int p1), .val (.int p2), .val (.int p3), .val (.int p4), .val (.int p5), .val (.int p6), .val (.int (p1 &&& (3 : Int32))), .val (.int (p2 &&& (3 : Int32))), .val (.int (own_ch p3)), .val (.int (own_ch p4)), .val (.int (own_ch p5)), .val (.int (0 : Int32)), .unset, .unset, .unset, .unset, .unset] [(.int (((p6.toUInt32 >>> ((1 : Int32) &&& 31).toUInt32).toInt32) &&& (127 : Int32)))])) _
    refine XS.i2c X0.here hx rfl (hb hby at_53) rfl ?_
    show Steps p.tables e below (s₁.setTop (mkF m 54 #[.val (.int p1), .val (.int p2), .val (.int p3), .val (.int p4), .val (.int p5), .val (.int p6), .val (.int (p1 &&& (3 : Int32))), .val (.int (p2 &&& (3 : Int32))), .val (.int (own_ch p3)), .val (.int (own_ch p4)), .val (.int (own_ch p5)), .val (.int (0 : Int32)), .unset, .unset, .unset, .unset, .unset] [(.int (own_jk p6))])) _
    refine XS.istore X0.here hx rfl (hb hby at_54) rfl (l' := #[.val (.int p1), .val (.int p2), .val (.int p3), .val (.int p4), .val (.int p5), .val (.int p6), .val (.int (p1 &&& (3 : Int32))), .val (.int (p2 &&& (3 : Int32))), .val (.int (own_ch p3)), .val (.int (own_ch p4)), .val (.int (own_ch p5)), .val (.int (0 : Int32)), .val (.int (own_jk p6)), .unset, .unset, .unset, .unset]) rfl ?_
    show Steps p.tables e below (s₁.setTop (mkF m 56 #[.val (.int p1), .val (.int p2), .val (.int p3), .val (.int p4), .val (.int p5), .val (.int p6), .val (.int (p1 &&& (3 : Int32))), .val (.int (p2 &&& (3 : Int32))), .val (.int (own_ch p3)), .val (.int (own_ch p4)), .val (.int (own_ch p5)), .val (.int (0 : Int32)), .val (.int (own_jk p6)), .unset, .unset, .unset, .unset] [])) _
    refine st7 _ ?_
    show Steps p.tables e below (T7.setTop (mkF m 59 #[.val (.int p1), .val (.int p2), .val (.int p3), .val (.int p4), .val (.int p5), .val (.int p6), .val (.int (p1 &&& (3 : Int32))), .val (.int (p2 &&& (3 : Int32))), .val (.int (own_ch p3)), .val (.int (own_ch p4)), .val (.int (own_ch p5)), .val (.int (0 : Int32)), .val (.int (own_jk p6)), .unset, .unset, .unset, .unset] [(.ref b7)])) _
    refine XS.dup X7.here hx rfl (hb hby at_59) rfl rfl ?_
    show Steps p.tables e below (T7.setTop (mkF m 60 #[.val (.int p1), .val (.int p2), .val (.int p3), .val (.int p4), .val (.int p5), .val (.int p6), .val (.int (p1 &&& (3 : Int32))), .val (.int (p2 &&& (3 : Int32))), .val (.int (own_ch p3)), .val (.int (own_ch p4)), .val (.int (own_ch p5)), .val (.int (0 : Int32)), .val (.int (own_jk p6)), .unset, .unset, .unset, .unset] [(.ref b7), (.ref b7)])) _
    refine XS.iload X7.here hx rfl (hb hby at_60) rfl ?_
    show Steps p.tables e below (T7.setTop (mkF m 62 #[.val (.int p1), .val (.int p2), .val (.int p3), .val (.int p4), .val (.int p5), .val (.int p6), .val (.int (p1 &&& (3 : Int32))), .val (.int (p2 &&& (3 : Int32))), .val (.int (own_ch p3)), .val (.int (own_ch p4)), .val (.int (own_ch p5)), .val (.int (0 : Int32)), .val (.int (own_jk p6)), .unset, .unset, .unset, .unset] [(.int (p1 &&& (3 : Int32))), (.ref b7), (.ref b7)])) _
    refine st8.trans ?_
    show Steps p.tables e below (T8.setTop (mkF m 65 #[.val (.int p1), .val (.int p2), .val (.int p3), .val (.int p4), .val (.int p5), .val (.int p6), .val (.int (p1 &&& (3 : Int32))), .val (.int (p2 &&& (3 : Int32))), .val (.int (own_ch p3)), .val (.int (own_ch p4)), .val (.int (own_ch p5)), .val (.int (0 : Int32)), .val (.int (own_jk p6)), .unset, .unset, .unset, .unset] [(.ref b7)])) _
    refine XS.astore X8.here hx rfl (hb hby at_65) rfl rfl (l' := #[.val (.int p1), .val (.int p2), .val (.int p3), .val (.int p4), .val (.int p5), .val (.int p6), .val (.int (p1 &&& (3 : Int32))), .val (.int (p2 &&& (3 : Int32))), .val (.int (own_ch p3)), .val (.int (own_ch p4)), .val (.int (own_ch p5)), .val (.int (0 : Int32)), .val (.int (own_jk p6)), .val (.ref b7), .unset, .unset, .unset]) rfl ?_
    show Steps p.tables e below (T8.setTop (mkF m 67 #[.val (.int p1), .val (.int p2), .val (.int p3), .val (.int p4), .val (.int p5), .val (.int p6), .val (.int (p1 &&& (3 : Int32))), .val (.int (p2 &&& (3 : Int32))), .val (.int (own_ch p3)), .val (.int (own_ch p4)), .val (.int (own_ch p5)), .val (.int (0 : Int32)), .val (.int (own_jk p6)), .val (.ref b7), .unset, .unset, .unset] [])) _
    refine XS.iload X8.here hx rfl (hb hby at_67) rfl ?_
    show Steps p.tables e below (T8.setTop (mkF m 69 #[.val (.int p1), .val (.int p2), .val (.int p3), .val (.int p4), .val (.int p5), .val (.int p6), .val (.int (p1 &&& (3 : Int32))), .val (.int (p2 &&& (3 : Int32))), .val (.int (own_ch p3)), .val (.int (own_ch p4)), .val (.int (own_ch p5)), .val (.int (0 : Int32)), .val (.int (own_jk p6)), .val (.ref b7), .unset, .unset, .unset] [(.int (0 : Int32))])) _
    refine XS.ifYes X8.here hx rfl (pc0 := 69) (pc' := 85) rfl (hb hby at_69) rfl ((if0 _ _).trans (teq (rfl : (0 : Int32) = (0 : Int32))).1) (by decide) (by decide) ?_
    show Steps p.tables e below (T8.setTop (mkF m 85 #[.val (.int p1), .val (.int p2), .val (.int p3), .val (.int p4), .val (.int p5), .val (.int p6), .val (.int (p1 &&& (3 : Int32))), .val (.int (p2 &&& (3 : Int32))), .val (.int (own_ch p3)), .val (.int (own_ch p4)), .val (.int (own_ch p5)), .val (.int (0 : Int32)), .val (.int (own_jk p6)), .val (.ref b7), .unset, .unset, .unset] [])) _
    refine XS.iload X8.here hx rfl (hb hby at_85) rfl ?_
    show Steps p.tables e below (T8.setTop (mkF m 87 #[.val (.int p1), .val (.int p2), .val (.int p3), .val (.int p4), .val (.int p5), .val (.int p6), .val (.int (p1 &&& (3 : Int32))), .val (.int (p2 &&& (3 : Int32))), .val (.int (own_ch p3)), .val (.int (own_ch p4)), .val (.int (own_ch p5)), .val (.int (0 : Int32)), .val (.int (own_jk p6)), .val (.ref b7), .unset, .unset, .unset] [(.int (p2 &&& (3 : Int32)))])) _
    refine XS.ifYes X8.here hx rfl (pc0 := 87) (pc' := 98) rfl (hb hby at_87) rfl ((if0 _ _).trans (flt hc87).2.2.2) (by decide) (by decide) ?_
    show Steps p.tables e below (T8.setTop (mkF m 98 #[.val (.int p1), .val (.int p2), .val (.int p3), .val (.int p4), .val (.int p5), .val (.int p6), .val (.int (p1 &&& (3 : Int32))), .val (.int (p2 &&& (3 : Int32))), .val (.int (own_ch p3)), .val (.int (own_ch p4)), .val (.int (own_ch p5)), .val (.int (0 : Int32)), .val (.int (own_jk p6)), .val (.ref b7), .unset, .unset, .unset] [])) _
    refine XS.iload X8.here hx rfl (hb hby at_98) rfl ?_
    show Steps p.tables e below (T8.setTop (mkF m 100 #[.val (.int p1), .val (.int p2), .val (.int p3), .val (.int p4), .val (.int p5), .val (.int p6), .val (.int (p1 &&& (3 : Int32))), .val (.int (p2 &&& (3 : Int32))), .val (.int (own_ch p3)), .val (.int (own_ch p4)), .val (.int (own_ch p5)), .val (.int (0 : Int32)), .val (.int (own_jk p6)), .val (.ref b7), .unset, .unset, .unset] [(.int (p2 &&& (3 : Int32)))])) _
    refine XS.iconst X8.here hx rfl (hb hby at_100) ?_
    show Steps p.tables e below (T8.setTop (mkF m 101 #[.val (.int p1), .val (.int p2), .val (.int p3), .val (.int p4), .val (.int p5), .val (.int p6), .val (.int (p1 &&& (3 : Int32))), .val (.int (p2 &&& (3 : Int32))), .val (.int (own_ch p3)), .val (.int (own_ch p4)), .val (.int (own_ch p5)), .val (.int (0 : Int32)), .val (.int (own_jk p6)), .val (.ref b7), .unset, .unset, .unset] [(.int (1 : Int32)), (.int (p2 &&& (3 : Int32)))])) _
    refine XS.icmpYes X8.here hx rfl (pc0 := 101) (pc' := 112) rfl (hb hby at_101) rfl (flt hc101).2.2.2 (by decide) (by decide) ?_
    show Steps p.tables e below (T8.setTop (mkF m 112 #[.val (.int p1), .val (.int p2), .val (.int p3), .val (.int p4), .val (.int p5), .val (.int p6), .val (.int (p1 &&& (3 : Int32))), .val (.int (p2 &&& (3 : Int32))), .val (.int (own_ch p3)), .val (.int (own_ch p4)), .val (.int (own_ch p5)), .val (.int (0 : Int32)), .val (.int (own_jk p6)), .val (.ref b7), .unset, .unset, .unset] [])) _
    refine XS.iload X8.here hx rfl (hb hby at_112) rfl ?_
    show Steps p.tables e below (T8.setTop (mkF m 114 #[.val (.int p1), .val (.int p2), .val (.int p3), .val (.int p4), .val (.int p5), .val (.int p6), .val (.int (p1 &&& (3 : Int32))), .val (.int (p2 &&& (3 : Int32))), .val (.int (own_ch p3)), .val (.int (own_ch p4)), .val (.int (own_ch p5)), .val (.int (0 : Int32)), .val (.int (own_jk p6)), .val (.ref b7), .unset, .unset, .unset] [(.int (p2 &&& (3 : Int32)))])) _
    refine XS.iconst X8.here hx rfl (hb hby at_114) ?_
    show Steps p.tables e below (T8.setTop (mkF m 115 #[.val (.int p1), .val (.int p2), .val (.int p3), .val (.int p4), .val (.int p5), .val (.int p6), .val (.int (p1 &&& (3 : Int32))), .val (.int (p2 &&& (3 : Int32))), .val (.int (own_ch p3)), .val (.int (own_ch p4)), .val (.int (own_ch p5)), .val (.int (0 : Int32)), .val (.int (own_jk p6)), .val (.ref b7), .unset, .unset, .unset] [(.int (2 : Int32)), (.int (p2 &&& (3 : Int32)))])) _
    refine XS.icmpYes X8.here hx rfl (pc0 := 115) (pc' := 126) rfl (hb hby at_115) rfl (flt hc115).2.2.2 (by decide) (by decide) ?_
    show Steps p.tables e below (T8.setTop (mkF m 126 #[.val (.int p1), .val (.int p2), .val (.int p3), .val (.int p4), .val (.int p5), .val (.int p6), .val (.int (p1 &&& (3 : Int32))), .val (.int (p2 &&& (3 : Int32))), .val (.int (own_ch p3)), .val (.int (own_ch p4)), .val (.int (own_ch p5)), .val (.int (0 : Int32)), .val (.int (own_jk p6)), .val (.ref b7), .unset, .unset, .unset] [])) _
    refine XS.aload X8.here hx rfl (hb hby at_126) rfl rfl ?_
    show Steps p.tables e below (T8.setTop (mkF m 128 #[.val (.int p1), .val (.int p2), .val (.int p3), .val (.int p4), .val (.int p5), .val (.int p6), .val (.int (p1 &&& (3 : Int32))), .val (.int (p2 &&& (3 : Int32))), .val (.int (own_ch p3)), .val (.int (own_ch p4)), .val (.int (own_ch p5)), .val (.int (0 : Int32)), .val (.int (own_jk p6)), .val (.ref b7), .unset, .unset, .unset] [(.ref b7)])) _
    refine st9.trans ?_
    show Steps p.tables e below (T9.setTop (mkF m 131 #[.val (.int p1), .val (.int p2), .val (.int p3), .val (.int p4), .val (.int p5), .val (.int p6), .val (.int (p1 &&& (3 : Int32))), .val (.int (p2 &&& (3 : Int32))), .val (.int (own_ch p3)), .val (.int (own_ch p4)), .val (.int (own_ch p5)), .val (.int (0 : Int32)), .val (.int (own_jk p6)), .val (.ref b7), .unset, .unset, .unset] [(.ref (T8.heap.size))])) _
    refine XS.astore X9.here hx rfl (hb hby at_131) rfl rfl (l' := #[.val (.int p1), .val (.int p2), .val (.int p3), .val (.int p4), .val (.int p5), .val (.int p6), .val (.int (p1 &&& (3 : Int32))), .val (.int (p2 &&& (3 : Int32))), .val (.int (own_ch p3)), .val (.int (own_ch p4)), .val (.int (own_ch p5)), .val (.int (0 : Int32)), .val (.int (own_jk p6)), .val (.ref b7), .val (.ref (T8.heap.size)), .unset, .unset]) rfl ?_
    show Steps p.tables e below (T9.setTop (mkF m 133 #[.val (.int p1), .val (.int p2), .val (.int p3), .val (.int p4), .val (.int p5), .val (.int p6), .val (.int (p1 &&& (3 : Int32))), .val (.int (p2 &&& (3 : Int32))), .val (.int (own_ch p3)), .val (.int (own_ch p4)), .val (.int (own_ch p5)), .val (.int (0 : Int32)), .val (.int (own_jk p6)), .val (.ref b7), .val (.ref (T8.heap.size)), .unset, .unset] [])) _
    refine XS.aload X9.here hx rfl (hb hby at_133) rfl rfl ?_
    show Steps p.tables e below (T9.setTop (mkF m 135 #[.val (.int p1), .val (.int p2), .val (.int p3), .val (.int p4), .val (.int p5), .val (.int p6), .val (.int (p1 &&& (3 : Int32))), .val (.int (p2 &&& (3 : Int32))), .val (.int (own_ch p3)), .val (.int (own_ch p4)), .val (.int (own_ch p5)), .val (.int (0 : Int32)), .val (.int (own_jk p6)), .val (.ref b7), .val (.ref (T8.heap.size)), .unset, .unset] [(.ref (T8.heap.size))])) _
    refine X9.arraylength hx (by exact Arr1.1) (State.isArrayOf_alike hZ.alike Arr1.2.1) (g := (mkF m 135 #[.val (.int p1), .val (.int p2), .val (.int p3), .val (.int p4), .val (.int p5), .val (.int p6), .val (.int (p1 &&& (3 : Int32))), .val (.int (p2 &&& (3 : Int32))), .val (.int (own_ch p3)), .val (.int (own_ch p4)), .val (.int (own_ch p5)), .val (.int (0 : Int32)), .val (.int (own_jk p6)), .val (.ref b7), .val (.ref (T8.heap.size)), .unset, .unset] [(.ref (T8.heap.size))])) rfl rfl (hb hby at_135) _ ?_
    rw [len_of Sr1 Nr1]
    show Steps p.tables e below (T9.setTop (mkF m 136 #[.val (.int p1), .val (.int p2), .val (.int p3), .val (.int p4), .val (.int p5), .val (.int p6), .val (.int (p1 &&& (3 : Int32))), .val (.int (p2 &&& (3 : Int32))), .val (.int (own_ch p3)), .val (.int (own_ch p4)), .val (.int (own_ch p5)), .val (.int (0 : Int32)), .val (.int (own_jk p6)), .val (.ref b7), .val (.ref (T8.heap.size)), .unset, .unset] [(.int (Int32.ofNat [].length))])) _
    refine XS.iload X9.here hx rfl (hb hby at_136) rfl ?_
    show Steps p.tables e below (T9.setTop (mkF m 138 #[.val (.int p1), .val (.int p2), .val (.int p3), .val (.int p4), .val (.int p5), .val (.int p6), .val (.int (p1 &&& (3 : Int32))), .val (.int (p2 &&& (3 : Int32))), .val (.int (own_ch p3)), .val (.int (own_ch p4)), .val (.int (own_ch p5)), .val (.int (0 : Int32)), .val (.int (own_jk p6)), .val (.ref b7), .val (.ref (T8.heap.size)), .unset, .unset] [(.int (p2 &&& (3 : Int32))), (.int (Int32.ofNat [].length))])) _
    refine XS.icmpNo X9.here hx rfl (hb hby at_138) rfl (teq (by rw [hn]; first | rfl | decide : (Int32.ofNat [].length) = (p2 &&& (3 : Int32)))).2 ?_
    show Steps p.tables e below (T9.setTop (mkF m 141 #[.val (.int p1), .val (.int p2), .val (.int p3), .val (.int p4), .val (.int p5), .val (.int p6), .val (.int (p1 &&& (3 : Int32))), .val (.int (p2 &&& (3 : Int32))), .val (.int (own_ch p3)), .val (.int (own_ch p4)), .val (.int (own_ch p5)), .val (.int (0 : Int32)), .val (.int (own_jk p6)), .val (.ref b7), .val (.ref (T8.heap.size)), .unset, .unset] [])) _
    refine XS.aload X9.here hx rfl (hb hby at_141) rfl rfl ?_
    show Steps p.tables e below (T9.setTop (mkF m 143 #[.val (.int p1), .val (.int p2), .val (.int p3), .val (.int p4), .val (.int p5), .val (.int p6), .val (.int (p1 &&& (3 : Int32))), .val (.int (p2 &&& (3 : Int32))), .val (.int (own_ch p3)), .val (.int (own_ch p4)), .val (.int (own_ch p5)), .val (.int (0 : Int32)), .val (.int (own_jk p6)), .val (.ref b7), .val (.ref (T8.heap.size)), .unset, .unset] [(.ref b7)])) _
    refine st10.trans ?_
    show Steps p.tables e below (T10.setTop (mkF m 146 #[.val (.int p1), .val (.int p2), .val (.int p3), .val (.int p4), .val (.int p5), .val (.int p6), .val (.int (p1 &&& (3 : Int32))), .val (.int (p2 &&& (3 : Int32))), .val (.int (own_ch p3)), .val (.int (own_ch p4)), .val (.int (own_ch p5)), .val (.int (0 : Int32)), .val (.int (own_jk p6)), .val (.ref b7), .val (.ref (T8.heap.size)), .unset, .unset] [(.int (Int32.ofNat [].length))])) _
    refine XS.iload X10.here hx rfl (hb hby at_146) rfl ?_
    show Steps p.tables e below (T10.setTop (mkF m 148 #[.val (.int p1), .val (.int p2), .val (.int p3), .val (.int p4), .val (.int p5), .val (.int p6), .val (.int (p1 &&& (3 : Int32))), .val (.int (p2 &&& (3 : Int32))), .val (.int (own_ch p3)), .val (.int (own_ch p4)), .val (.int (own_ch p5)), .val (.int (0 : Int32)), .val (.int (own_jk p6)), .val (.ref b7), .val (.ref (T8.heap.size)), .unset, .unset] [(.int (p2 &&& (3 : Int32))), (.int (Int32.ofNat [].length))])) _
    refine XS.icmpNo X10.here hx rfl (hb hby at_148) rfl (teq (by rw [hn]; first | rfl | decide : (Int32.ofNat [].length) = (p2 &&& (3 : Int32)))).2 ?_
    show Steps p.tables e below (T10.setTop (mkF m 151 #[.val (.int p1), .val (.int p2), .val (.int p3), .val (.int p4), .val (.int p5), .val (.int p6), .val (.int (p1 &&& (3 : Int32))), .val (.int (p2 &&& (3 : Int32))), .val (.int (own_ch p3)), .val (.int (own_ch p4)), .val (.int (own_ch p5)), .val (.int (0 : Int32)), .val (.int (own_jk p6)), .val (.ref b7), .val (.ref (T8.heap.size)), .unset, .unset] [])) _
    refine XS.aload X10.here hx rfl (hb hby at_151) rfl rfl ?_
    show Steps p.tables e below (T10.setTop (mkF m 153 #[.val (.int p1), .val (.int p2), .val (.int p3), .val (.int p4), .val (.int p5), .val (.int p6), .val (.int (p1 &&& (3 : Int32))), .val (.int (p2 &&& (3 : Int32))), .val (.int (own_ch p3)), .val (.int (own_ch p4)), .val (.int (own_ch p5)), .val (.int (0 : Int32)), .val (.int (own_jk p6)), .val (.ref b7), .val (.ref (T8.heap.size)), .unset, .unset] [(.ref (T8.heap.size))])) _
    refine XS.iload X10.here hx rfl (hb hby at_153) rfl ?_
    show Steps p.tables e below (T10.setTop (mkF m 155 #[.val (.int p1), .val (.int p2), .val (.int p3), .val (.int p4), .val (.int p5), .val (.int p6), .val (.int (p1 &&& (3 : Int32))), .val (.int (p2 &&& (3 : Int32))), .val (.int (own_ch p3)), .val (.int (own_ch p4)), .val (.int (own_ch p5)), .val (.int (0 : Int32)), .val (.int (own_jk p6)), .val (.ref b7), .val (.ref (T8.heap.size)), .unset, .unset] [(.int (p2 &&& (3 : Int32))), (.ref (T8.heap.size))])) _
    refine XS.iload X10.here hx rfl (hb hby at_155) rfl ?_
    show Steps p.tables e below (T10.setTop (mkF m 157 #[.val (.int p1), .val (.int p2), .val (.int p3), .val (.int p4), .val (.int p5), .val (.int p6), .val (.int (p1 &&& (3 : Int32))), .val (.int (p2 &&& (3 : Int32))), .val (.int (own_ch p3)), .val (.int (own_ch p4)), .val (.int (own_ch p5)), .val (.int (0 : Int32)), .val (.int (own_jk p6)), .val (.ref b7), .val (.ref (T8.heap.size)), .unset, .unset] [(.int (own_ch p3)), (.int (p2 &&& (3 : Int32))), (.ref (T8.heap.size))])) _
    refine XS.iload X10.here hx rfl (hb hby at_157) rfl ?_
    show Steps p.tables e below (T10.setTop (mkF m 159 #[.val (.int p1), .val (.int p2), .val (.int p3), .val (.int p4), .val (.int p5), .val (.int p6), .val (.int (p1 &&& (3 : Int32))), .val (.int (p2 &&& (3 : Int32))), .val (.int (own_ch p3)), .val (.int (own_ch p4)), .val (.int (own_ch p5)), .val (.int (0 : Int32)), .val (.int (own_jk p6)), .val (.ref b7), .val (.ref (T8.heap.size)), .unset, .unset] [(.int (own_ch p4)), (.int (own_ch p3)), (.int (p2 &&& (3 : Int32))), (.ref (T8.heap.size))])) _
    refine XS.iload X10.here hx rfl (hb hby at_159) rfl ?_
    show Steps p.tables e below (T10.setTop (mkF m 161 #[.val (.int p1), .val (.int p2), .val (.int p3), .val (.int p4), .val (.int p5), .val (.int p6), .val (.int (p1 &&& (3 : Int32))), .val (.int (p2 &&& (3 : Int32))), .val (.int (own_ch p3)), .val (.int (own_ch p4)), .val (.int (own_ch p5)), .val (.int (0 : Int32)), .val (.int (own_jk p6)), .val (.ref b7), .val (.ref (T8.heap.size)), .unset, .unset] [(.int (own_ch p5)), (.int (own_ch p4)), (.int (own_ch p3)), (.int (p2 &&& (3 : Int32))), (.ref (T8.heap.size))])) _
    refine st11 _ ?_
    show Steps p.tables e below (T11.setTop (mkF m 164 #[.val (.int p1), .val (.int p2), .val (.int p3), .val (.int p4), .val (.int p5), .val (.int p6), .val (.int (p1 &&& (3 : Int32))), .val (.int (p2 &&& (3 : Int32))), .val (.int (own_ch p3)), .val (.int (own_ch p4)), .val (.int (own_ch p5)), .val (.int (0 : Int32)), .val (.int (own_jk p6)), .val (.ref b7), .val (.ref (T8.heap.size)), .unset, .unset] [(.int (1 : Int32))])) _
    refine XS.ifNo X11.here hx rfl (hb hby at_164) rfl ((if0 _ _).trans (feq (by decide : ¬ ((1 : Int32) = (0 : Int32)))).1) ?_
    show Steps p.tables e below (T11.setTop (mkF m 167 #[.val (.int p1), .val (.int p2), .val (.int p3), .val (.int p4), .val (.int p5), .val (.int p6), .val (.int (p1 &&& (3 : Int32))), .val (.int (p2 &&& (3 : Int32))), .val (.int (own_ch p3)), .val (.int (own_ch p4)), .val (.int (own_ch p5)), .val (.int (0 : Int32)), .val (.int (own_jk p6)), .val (.ref b7), .val (.ref (T8.heap.size)), .unset, .unset] [])) _
    refine XS.iconst X11.here hx rfl (hb hby at_167) ?_
    show Steps p.tables e below (T11.setTop (mkF m 168 #[.val (.int p1), .val (.int p2), .val (.int p3), .val (.int p4), .val (.int p5), .val (.int p6), .val (.int (p1 &&& (3 : Int32))), .val (.int (p2 &&& (3 : Int32))), .val (.int (own_ch p3)), .val (.int (own_ch p4)), .val (.int (own_ch p5)), .val (.int (0 : Int32)), .val (.int (own_jk p6)), .val (.ref b7), .val (.ref (T8.heap.size)), .unset, .unset] [(.int (1 : Int32))])) _
    refine XS.goto X11.here hx rfl (pc0 := 168) (pc' := 172) rfl (hb hby at_168) (by decide) (by decide) ?_
    show Steps p.tables e below (T11.setTop (mkF m 172 #[.val (.int p1), .val (.int p2), .val (.int p3), .val (.int p4), .val (.int p5), .val (.int p6), .val (.int (p1 &&& (3 : Int32))), .val (.int (p2 &&& (3 : Int32))), .val (.int (own_ch p3)), .val (.int (own_ch p4)), .val (.int (own_ch p5)), .val (.int (0 : Int32)), .val (.int (own_jk p6)), .val (.ref b7), .val (.ref (T8.heap.size)), .unset, .unset] [(.int (1 : Int32))])) _
    refine XS.istore X11.here hx rfl (hb hby at_172) rfl (l' := #[.val (.int p1), .val (.int p2), .val (.int p3), .val (.int p4), .val (.int p5), .val (.int p6), .val (.int (p1 &&& (3 : Int32))), .val (.int (p2 &&& (3 : Int32))), .val (.int (own_ch p3)), .val (.int (own_ch p4)), .val (.int (own_ch p5)), .val (.int (0 : Int32)), .val (.int (own_jk p6)), .val (.ref b7), .val (.ref (T8.heap.size)), .val (.int (1 : Int32)), .unset]) rfl ?_
    show Steps p.tables e below (T11.setTop (mkF m 174 #[.val (.int p1), .val (.int p2), .val (.int p3), .val (.int p4), .val (.int p5), .val (.int p6), .val (.int (p1 &&& (3 : Int32))), .val (.int (p2 &&& (3 : Int32))), .val (.int (own_ch p3)), .val (.int (own_ch p4)), .val (.int (own_ch p5)), .val (.int (0 : Int32)), .val (.int (own_jk p6)), .val (.ref b7), .val (.ref (T8.heap.size)), .val (.int (1 : Int32)), .unset] [])) _
    refine XS.iload X11.here hx rfl (hb hby at_174) rfl ?_
    show Steps p.tables e below (T11.setTop (mkF m 176 #[.val (.int p1), .val (.int p2), .val (.int p3), .val (.int p4), .val (.int p5), .val (.int p6), .val (.int (p1 &&& (3 : Int32))), .val (.int (p2 &&& (3 : Int32))), .val (.int (own_ch p3)), .val (.int (own_ch p4)), .val (.int (own_ch p5)), .val (.int (0 : Int32)), .val (.int (own_jk p6)), .val (.ref b7), .val (.ref (T8.heap.size)), .val (.int (1 : Int32)), .unset] [(.int (1 : Int32))])) _
    refine XS.ifYes X11.here hx rfl (pc0 := 176) (pc' := 181) rfl (hb hby at_176) rfl ((if0 _ _).trans (feq hc176).2) (by decide) (by decide) ?_
    show Steps p.tables e below (T11.setTop (mkF m 181 #[.val (.int p1), .val (.int p2), .val (.int p3), .val (.int p4), .val (.int p5), .val (.int p6), .val (.int (p1 &&& (3 : Int32))), .val (.int (p2 &&& (3 : Int32))), .val (.int (own_ch p3)), .val (.int (own_ch p4)), .val (.int (own_ch p5)), .val (.int (0 : Int32)), .val (.int (own_jk p6)), .val (.ref b7), .val (.ref (T8.heap.size)), .val (.int (1 : Int32)), .unset] [])) _
    refine XS.iload X11.here hx rfl (hb hby at_181) rfl ?_
    show Steps p.tables e below (T11.setTop (mkF m 183 #[.val (.int p1), .val (.int p2), .val (.int p3), .val (.int p4), .val (.int p5), .val (.int p6), .val (.int (p1 &&& (3 : Int32))), .val (.int (p2 &&& (3 : Int32))), .val (.int (own_ch p3)), .val (.int (own_ch p4)), .val (.int (own_ch p5)), .val (.int (0 : Int32)), .val (.int (own_jk p6)), .val (.ref b7), .val (.ref (T8.heap.size)), .val (.int (1 : Int32)), .unset] [(.int (p2 &&& (3 : Int32)))])) _
    refine XS.ifYes X11.here hx rfl (pc0 := 183) (pc' := 198) rfl (hb hby at_183) rfl ((if0 _ _).trans (flt hc183).2.2.2) (by decide) (by decide) ?_
    show Steps p.tables e below (T11.setTop (mkF m 198 #[.val (.int p1), .val (.int p2), .val (.int p3), .val (.int p4), .val (.int p5), .val (.int p6), .val (.int (p1 &&& (3 : Int32))), .val (.int (p2 &&& (3 : Int32))), .val (.int (own_ch p3)), .val (.int (own_ch p4)), .val (.int (own_ch p5)), .val (.int (0 : Int32)), .val (.int (own_jk p6)), .val (.ref b7), .val (.ref (T8.heap.size)), .val (.int (1 : Int32)), .unset] [])) _
    refine XS.aload X11.here hx rfl (hb hby at_198) rfl rfl ?_
    show Steps p.tables e below (T11.setTop (mkF m 200 #[.val (.int p1), .val (.int p2), .val (.int p3), .val (.int p4), .val (.int p5), .val (.int p6), .val (.int (p1 &&& (3 : Int32))), .val (.int (p2 &&& (3 : Int32))), .val (.int (own_ch p3)), .val (.int (own_ch p4)), .val (.int (own_ch p5)), .val (.int (0 : Int32)), .val (.int (own_jk p6)), .val (.ref b7), .val (.ref (T8.heap.size)), .val (.int (1 : Int32)), .unset] [(.ref b7)])) _
    refine st12.trans ?_
    show Steps p.tables e below (T12.setTop (mkF m 203 #[.val (.int p1), .val (.int p2), .val (.int p3), .val (.int p4), .val (.int p5), .val (.int p6), .val (.int (p1 &&& (3 : Int32))), .val (.int (p2 &&& (3 : Int32))), .val (.int (own_ch p3)), .val (.int (own_ch p4)), .val (.int (own_ch p5)), .val (.int (0 : Int32)), .val (.int (own_jk p6)), .val (.ref b7), .val (.ref (T8.heap.size)), .val (.int (1 : Int32)), .unset] [(.ref (T9.heap.size))])) _
    refine XS.astore X12.here hx rfl (hb hby at_203) rfl rfl (l' := #[.val (.int p1), .val (.int p2), .val (.int p3), .val (.int p4), .val (.int p5), .val (.int p6), .val (.int (p1 &&& (3 : Int32))), .val (.int (p2 &&& (3 : Int32))), .val (.int (own_ch p3)), .val (.int (own_ch p4)), .val (.int (own_ch p5)), .val (.int (0 : Int32)), .val (.int (own_jk p6)), .val (.ref b7), .val (.ref (T8.heap.size)), .val (.int (1 : Int32)), .val (.ref (T9.heap.size))]) rfl ?_
    show Steps p.tables e below (T12.setTop (mkF m 205 #[.val (.int p1), .val (.int p2), .val (.int p3), .val (.int p4), .val (.int p5), .val (.int p6), .val (.int (p1 &&& (3 : Int32))), .val (.int (p2 &&& (3 : Int32))), .val (.int (own_ch p3)), .val (.int (own_ch p4)), .val (.int (own_ch p5)), .val (.int (0 : Int32)), .val (.int (own_jk p6)), .val (.ref b7), .val (.ref (T8.heap.size)), .val (.int (1 : Int32)), .val (.ref (T9.heap.size))] [])) _
    refine XS.aload X12.here hx rfl (hb hby at_205) rfl rfl ?_
    show Steps p.tables e below (T12.setTop (mkF m 207 #[.val (.int p1), .val (.int p2), .val (.int p3), .val (.int p4), .val (.int p5), .val (.int p6), .val (.int (p1 &&& (3 : Int32))), .val (.int (p2 &&& (3 : Int32))), .val (.int (own_ch p3)), .val (.int (own_ch p4)), .val (.int (own_ch p5)), .val (.int (0 : Int32)), .val (.int (own_jk p6)), .val (.ref b7), .val (.ref (T8.heap.size)), .val (.int (1 : Int32)), .val (.ref (T9.heap.size))] [(.ref (T9.heap.size))])) _
    refine X12.arraylength hx (by exact Arr2.1) (State.isArrayOf_alike hZ.alike Arr2.2.1) (g := (mkF m 207 #[.val (.int p1), .val (.int p2), .val (.int p3), .val (.int p4), .val (.int p5), .val (.int p6), .val (.int (p1 &&& (3 : Int32))), .val (.int (p2 &&& (3 : Int32))), .val (.int (own_ch p3)), .val (.int (own_ch p4)), .val (.int (own_ch p5)), .val (.int (0 : Int32)), .val (.int (own_jk p6)), .val (.ref b7), .val (.ref (T8.heap.size)), .val (.int (1 : Int32)), .val (.ref (T9.heap.size))] [(.ref (T9.heap.size))])) rfl rfl (hb hby at_207) _ ?_
    rw [len_of Sr2 Nr2]
    show Steps p.tables e below (T12.setTop (mkF m 208 #[.val (.int p1), .val (.int p2), .val (.int p3), .val (.int p4), .val (.int p5), .val (.int p6), .val (.int (p1 &&& (3 : Int32))), .val (.int (p2 &&& (3 : Int32))), .val (.int (own_ch p3)), .val (.int (own_ch p4)), .val (.int (own_ch p5)), .val (.int (0 : Int32)), .val (.int (own_jk p6)), .val (.ref b7), .val (.ref (T8.heap.size)), .val (.int (1 : Int32)), .val (.ref (T9.heap.size))] [(.int (Int32.ofNat [].length))])) _
    refine XS.iload X12.here hx rfl (hb hby at_208) rfl ?_
    show Steps p.tables e below (T12.setTop (mkF m 210 #[.val (.int p1), .val (.int p2), .val (.int p3), .val (.int p4), .val (.int p5), .val (.int p6), .val (.int (p1 &&& (3 : Int32))), .val (.int (p2 &&& (3 : Int32))), .val (.int (own_ch p3)), .val (.int (own_ch p4)), .val (.int (own_ch p5)), .val (.int (0 : Int32)), .val (.int (own_jk p6)), .val (.ref b7), .val (.ref (T8.heap.size)), .val (.int (1 : Int32)), .val (.ref (T9.heap.size))] [(.int (p2 &&& (3 : Int32))), (.int (Int32.ofNat [].length))])) _
    refine XS.icmpNo X12.here hx rfl (hb hby at_210) rfl (teq (by rw [hn]; first | rfl | decide : (Int32.ofNat [].length) = (p2 &&& (3 : Int32)))).2 ?_
    show Steps p.tables e below (T12.setTop (mkF m 213 #[.val (.int p1), .val (.int p2), .val (.int p3), .val (.int p4), .val (.int p5), .val (.int p6), .val (.int (p1 &&& (3 : Int32))), .val (.int (p2 &&& (3 : Int32))), .val (.int (own_ch p3)), .val (.int (own_ch p4)), .val (.int (own_ch p5)), .val (.int (0 : Int32)), .val (.int (own_jk p6)), .val (.ref b7), .val (.ref (T8.heap.size)), .val (.int (1 : Int32)), .val (.ref (T9.heap.size))] [])) _
    refine XS.aload X12.here hx rfl (hb hby at_213) rfl rfl ?_
    show Steps p.tables e below (T12.setTop (mkF m 215 #[.val (.int p1), .val (.int p2), .val (.int p3), .val (.int p4), .val (.int p5), .val (.int p6), .val (.int (p1 &&& (3 : Int32))), .val (.int (p2 &&& (3 : Int32))), .val (.int (own_ch p3)), .val (.int (own_ch p4)), .val (.int (own_ch p5)), .val (.int (0 : Int32)), .val (.int (own_jk p6)), .val (.ref b7), .val (.ref (T8.heap.size)), .val (.int (1 : Int32)), .val (.ref (T9.heap.size))] [(.ref (T9.heap.size))])) _
    refine XS.iload X12.here hx rfl (hb hby at_215) rfl ?_
    show Steps p.tables e below (T12.setTop (mkF m 217 #[.val (.int p1), .val (.int p2), .val (.int p3), .val (.int p4), .val (.int p5), .val (.int p6), .val (.int (p1 &&& (3 : Int32))), .val (.int (p2 &&& (3 : Int32))), .val (.int (own_ch p3)), .val (.int (own_ch p4)), .val (.int (own_ch p5)), .val (.int (0 : Int32)), .val (.int (own_jk p6)), .val (.ref b7), .val (.ref (T8.heap.size)), .val (.int (1 : Int32)), .val (.ref (T9.heap.size))] [(.int (p2 &&& (3 : Int32))), (.ref (T9.heap.size))])) _
    refine XS.iload X12.here hx rfl (hb hby at_217) rfl ?_
    show Steps p.tables e below (T12.setTop (mkF m 219 #[.val (.int p1), .val (.int p2), .val (.int p3), .val (.int p4), .val (.int p5), .val (.int p6), .val (.int (p1 &&& (3 : Int32))), .val (.int (p2 &&& (3 : Int32))), .val (.int (own_ch p3)), .val (.int (own_ch p4)), .val (.int (own_ch p5)), .val (.int (0 : Int32)), .val (.int (own_jk p6)), .val (.ref b7), .val (.ref (T8.heap.size)), .val (.int (1 : Int32)), .val (.ref (T9.heap.size))] [(.int (own_ch p3)), (.int (p2 &&& (3 : Int32))), (.ref (T9.heap.size))])) _
    refine XS.iload X12.here hx rfl (hb hby at_219) rfl ?_
    show Steps p.tables e below (T12.setTop (mkF m 221 #[.val (.int p1), .val (.int p2), .val (.int p3), .val (.int p4), .val (.int p5), .val (.int p6), .val (.int (p1 &&& (3 : Int32))), .val (.int (p2 &&& (3 : Int32))), .val (.int (own_ch p3)), .val (.int (own_ch p4)), .val (.int (own_ch p5)), .val (.int (0 : Int32)), .val (.int (own_jk p6)), .val (.ref b7), .val (.ref (T8.heap.size)), .val (.int (1 : Int32)), .val (.ref (T9.heap.size))] [(.int (own_ch p4)), (.int (own_ch p3)), (.int (p2 &&& (3 : Int32))), (.ref (T9.heap.size))])) _
    refine XS.iload X12.here hx rfl (hb hby at_221) rfl ?_
    show Steps p.tables e below (T12.setTop (mkF m 223 #[.val (.int p1), .val (.int p2), .val (.int p3), .val (.int p4), .val (.int p5), .val (.int p6), .val (.int (p1 &&& (3 : Int32))), .val (.int (p2 &&& (3 : Int32))), .val (.int (own_ch p3)), .val (.int (own_ch p4)), .val (.int (own_ch p5)), .val (.int (0 : Int32)), .val (.int (own_jk p6)), .val (.ref b7), .val (.ref (T8.heap.size)), .val (.int (1 : Int32)), .val (.ref (T9.heap.size))] [(.int (own_ch p5)), (.int (own_ch p4)), (.int (own_ch p3)), (.int (p2 &&& (3 : Int32))), (.ref (T9.heap.size))])) _
    refine st13 _ ?_
    show Steps p.tables e below (T13.setTop (mkF m 226 #[.val (.int p1), .val (.int p2), .val (.int p3), .val (.int p4), .val (.int p5), .val (.int p6), .val (.int (p1 &&& (3 : Int32))), .val (.int (p2 &&& (3 : Int32))), .val (.int (own_ch p3)), .val (.int (own_ch p4)), .val (.int (own_ch p5)), .val (.int (0 : Int32)), .val (.int (own_jk p6)), .val (.ref b7), .val (.ref (T8.heap.size)), .val (.int (1 : Int32)), .val (.ref (T9.heap.size))] [(.int (1 : Int32))])) _
    refine XS.ifNo X13.here hx rfl (hb hby at_226) rfl ((if0 _ _).trans (feq (by decide : ¬ ((1 : Int32) = (0 : Int32)))).1) ?_
    show Steps p.tables e below (T13.setTop (mkF m 229 #[.val (.int p1), .val (.int p2), .val (.int p3), .val (.int p4), .val (.int p5), .val (.int p6), .val (.int (p1 &&& (3 : Int32))), .val (.int (p2 &&& (3 : Int32))), .val (.int (own_ch p3)), .val (.int (own_ch p4)), .val (.int (own_ch p5)), .val (.int (0 : Int32)), .val (.int (own_jk p6)), .val (.ref b7), .val (.ref (T8.heap.size)), .val (.int (1 : Int32)), .val (.ref (T9.heap.size))] [])) _
    refine XS.iconst X13.here hx rfl (hb hby at_229) ?_
    show Steps p.tables e below (T13.setTop (mkF m 230 #[.val (.int p1), .val (.int p2), .val (.int p3), .val (.int p4), .val (.int p5), .val (.int p6), .val (.int (p1 &&& (3 : Int32))), .val (.int (p2 &&& (3 : Int32))), .val (.int (own_ch p3)), .val (.int (own_ch p4)), .val (.int (own_ch p5)), .val (.int (0 : Int32)), .val (.int (own_jk p6)), .val (.ref b7), .val (.ref (T8.heap.size)), .val (.int (1 : Int32)), .val (.ref (T9.heap.size))] [(.int (1 : Int32))])) _
    refine XS.goto X13.here hx rfl (pc0 := 230) (pc' := 234) rfl (hb hby at_230) (by decide) (by decide) ?_
    show Steps p.tables e below (T13.setTop (mkF m 234 #[.val (.int p1), .val (.int p2), .val (.int p3), .val (.int p4), .val (.int p5), .val (.int p6), .val (.int (p1 &&& (3 : Int32))), .val (.int (p2 &&& (3 : Int32))), .val (.int (own_ch p3)), .val (.int (own_ch p4)), .val (.int (own_ch p5)), .val (.int (0 : Int32)), .val (.int (own_jk p6)), .val (.ref b7), .val (.ref (T8.heap.size)), .val (.int (1 : Int32)), .val (.ref (T9.heap.size))] [(.int (1 : Int32))])) _
    exact retN X13 hx (t := .boolean) Bd.returns (by simp) (hb hby at_234) hr
  · show Q0 h0 n0 _ T13.heap _
    exact ⟨rfl, N13⟩
theorem pdw_8 : parseMethodDescriptor "(C)Lcom/example/acompte/acompte/Utf8Builder;" = some ⟨[.char], some (.object "com/example/acompte/acompte/Utf8Builder")⟩ := by decide +kernel
set_option maxRecDepth 65536 in
set_option maxHeartbeats 40000000 in
theorem rm0_c0n1 (l : Launch) (Z : State) (a0 : Array Value) (hw : ∀ d ∈ tables_1, d.before a0 Z = true) (ws : List Jvm.Cond) (p1 : Int32) (p2 : Int32) (p3 : Int32) (p4 : Int32) (p5 : Int32) (p6 : Int32) (h0 : Heap) (n0 : Nat) (Z0 : n0 ≤ h0.size) (cap : Nat) (hcap : (p1 &&& (3 : Int32)) = Int32.ofNat cap) (hcap3 : cap ≤ 3) (hn : (p2 &&& (3 : Int32)) = (1 : Int32)) (hc36 : (p6 &&& (1 : Int32)) = (0 : Int32)) :
    MetFree l x (head1 (Jvm.Cond.code x code maxLocals ret :: ws) room_1) (fun a U => a = #[(.int p1), (.int p2), (.int p3), (.int p4), (.int p5), (.int p6)] ∧ Z.Warmed39 U.vm ∧ U.heap = h0) (fun _ _ _ _ _ => True) (fun _ U o U' => ∃ v L, o = .returned v ∧ Q0 h0 n0 v U'.heap L ∧ FrameEnd U o U' L room_1.cells room_1.slots) := by
  have hc87 : (0 : Int32) < (p2 &&& (3 : Int32)) := by rw [hn]; decide
  have hc101 : ¬ ((1 : Int32) < (p2 &&& (3 : Int32))) := by rw [hn]; decide
  have hc115 : ¬ ((2 : Int32) < (p2 &&& (3 : Int32))) := by rw [hn]; decide
  have hc183 : (0 : Int32) < (p2 &&& (3 : Int32)) := by rw [hn]; decide
  have hc176 : ¬ ((1 : Int32) = (0 : Int32)) := by decide
  refine MetFree.of_bodySF (plainFor_of_name pn_0) hisR ?_
  intro p e s m args below meth c s₁ Bd hml0 hP hK
  obtain ⟨rfl, hZ, hh⟩ := hP
  have hx := Bd.exec
  have hby := Bd.bytes
  have hml : c.maxLocals = 17 := hml0
  have hown : s.vm.findClass "com/example/acompte/acompte/Utf8BuilderToByteArrayPinLaw" = some m.cls := findClass_of_methodNamed Bd.named
  have hnm := (name_of_methodNamed Bd.named Bd.method).1
  have X0 : Stand p l e room_1 s m #[(.int p1), (.int p2), (.int p3), (.int p4), (.int p5), (.int p6)] below meth c s₁ [] 0 0 := Stand.of_body Bd
  have e0 : s₁.heap = h0 := by rw [← hh, Bd.state]; rfl
  have N0 := Fr.nil n0
  have pre0 : ∀ t, Steps p.tables e below (s₁.setTop (mkF m 0 #[.val (.int p1), .val (.int p2), .val (.int p3), .val (.int p4), .val (.int p5), .val (.int p6), .unset, .unset, .unset, .unset, .unset, .unset, .unset, .unset, .unset, .unset, .unset] [])) t → Steps p.tables e below (s₁.setTop (entryFrame m #[(.int p1), (.int p2), (.int p3), (.int p4), (.int p5), (.int p6)] maxLocals)) t := fun t k => castTop (ef_0 m p1 p2 p3 p4 p5 p6) k
  -- 3. LAWS
  obtain ⟨T7, h7, X7, e7, E7, A7, D7, -, st7⟩ := newO X0 hx hZ hown (hw _ (List.mem_of_getElem? (i := 0) rfl)) (hw _ (List.mem_of_getElem? (i := 1) rfl)) (hw _ (List.mem_of_getElem? (i := 2) rfl)) e0 (g := (mkF m 56 #[.val (.int p1), .val (.int p2), .val (.int p3), .val (.int p4), .val (.int p5), .val (.int p6), .val (.int (p1 &&& (3 : Int32))), .val (.int (p2 &&& (3 : Int32))), .val (.int (own_ch p3)), .val (.int (own_ch p4)), .val (.int (own_ch p5)), .val (.int (0 : Int32)), .val (.int (own_jk p6)), .unset, .unset, .unset, .unset] [])) rfl (hb hby at_56) (by decide) (by decide)
  obtain ⟨b7, g7⟩ : ∃ z, z = h0.size := ⟨_, rfl⟩      -- the fresh object's address
  rw [← g7] at A7 D7 st7      -- A7 : Exa Z h7 b7 "com/example/acompte/acompte/Utf8Builder"; E7 : Ext h0 h7 (carries every older fact: .ext E7)
  have F_bytes_b7 : Fld Z h7 b7 "com/example/acompte/acompte/Utf8Builder" "bytes" "[B" .null := D7 (Or.inl (hw _ (List.mem_of_getElem? (i := 11) rfl))) (ty := (.array .byte)) (by decide)
  have F_length_b7 : Fld Z h7 b7 "com/example/acompte/acompte/Utf8Builder" "length" "I" (.int (0 : Int32)) := D7 (Or.inl (hw _ (List.mem_of_getElem? (i := 22) rfl))) (ty := .int) (by decide)
  have E_b7 := A7
  have g_b7 : n0 ≤ b7 := Nat.le_trans Z0 (Nat.le_of_eq g7.symm)
  obtain ⟨_, _, ⟨T8, L8, k8, n8⟩, -, X8, ⟨Lc8, hQ8, l8, y8, z8⟩, st8⟩ := X7.specialBack hx (y := (⟨"com/example/acompte/acompte/Utf8Builder", "<init>", "(I)V"⟩ : MethodName)) rfl hown (mvT hZ (hw _ (List.mem_of_getElem? (i := 3) rfl))) (mvT hZ (hw _ (List.mem_of_getElem? (i := 4) rfl))) (mvT hZ (hw _ (List.mem_of_getElem? (i := 5) rfl))) (by decide) (backOf (W := 1) (rm1_i l Z a0 hw [] b7 (p1 &&& (3 : Int32)) .null cap h7 n0 (Nat.le_trans Z0 E7.1) E_b7 F_bytes_b7 F_length_b7 g_b7 hcap hcap3) hZ (hw _ (List.mem_of_getElem? (i := 5) rfl)) (hw _ (List.mem_of_getElem? (i := 2) rfl)) (by decide) (by decide)) (g := (mkF m 62 #[.val (.int p1), .val (.int p2), .val (.int p3), .val (.int p4), .val (.int p5), .val (.int p6), .val (.int (p1 &&& (3 : Int32))), .val (.int (p2 &&& (3 : Int32))), .val (.int (own_ch p3)), .val (.int (own_ch p4)), .val (.int (own_ch p5)), .val (.int (0 : Int32)), .val (.int (own_jk p6)), .unset, .unset, .unset, .unset] [(.int (p1 &&& (3 : Int32))), (.ref b7), (.ref b7)])) rfl (by rw [hml]; rfl) (Steps.refl _) (a := b7) (argsL := [(.int (p1 &&& (3 : Int32)))]) (rest := [(.ref b7)]) (lenOf pdw_4 rfl) rfl (by show 2 * 0 + _ ≤ _; exact Nat.le_of_eq rfl) (hb hby at_62) (fun _ _ => ⟨rfl, e7, (by decide : 1 + 1 ≤ _), (by decide : 2 + 8 ≤ _)⟩)
  dsimp only [Pt.U, Pt.locs, Pt.cells, Pt.slots] at X8 l8 y8 z8 st8 hQ8
  subst l8 y8 z8
  obtain ⟨rfl, N8q, zh, BB⟩ := hQ8
  have ZB : n0 ≤ T8.heap.size := Nat.le_trans (Nat.le_trans Z0 E7.1) zh
  have EB := BB.exa
  have N8 := Fr.app N0 N8q
  obtain ⟨cq9, kq9, q9a, q9b, q9c⟩ := isOf hZ rfl EB
  obtain ⟨_, _, ⟨T9, L9, k9, n9⟩, -, X9, ⟨Lc9, hQ9, l9, y9, z9⟩, st9⟩ := X8.virtualBack hx (y := (⟨"com/example/acompte/acompte/Utf8Builder", "append", "(C)Lcom/example/acompte/acompte/Utf8Builder;"⟩ : MethodName)) (z := (⟨"com/example/acompte/acompte/Utf8Builder", "append", "(C)Lcom/example/acompte/acompte/Utf8Builder;"⟩ : MethodName)) hown (mvT hZ (hw _ (List.mem_of_getElem? (i := 12) rfl))) (mvT hZ (hw _ (List.mem_of_getElem? (i := 13) rfl))) (notFace_of_selects (args := #[]) (mvT hZ (hw _ (List.mem_of_getElem? (i := 15) rfl)))) (mvT hZ (hw _ (List.mem_of_getElem? (i := 15) rfl))) (mvT hZ (hw _ (List.mem_of_getElem? (i := 14) rfl))) (by decide) (backOf (W := 0) (rm3_a l Z a0 hw [] b7 (own_ch p3) cap [] T8.heap n0 ZB BB (by first | decide | simp)) hZ (hw _ (List.mem_of_getElem? (i := 16) rfl)) (hw _ (List.mem_of_getElem? (i := 2) rfl)) (by decide) (by decide)) q9a q9c (g := (mkF m 94 #[.val (.int p1), .val (.int p2), .val (.int p3), .val (.int p4), .val (.int p5), .val (.int p6), .val (.int (p1 &&& (3 : Int32))), .val (.int (p2 &&& (3 : Int32))), .val (.int (own_ch p3)), .val (.int (own_ch p4)), .val (.int (own_ch p5)), .val (.int (0 : Int32)), .val (.int (own_jk p6)), .val (.ref b7), .unset, .unset, .unset] [(.int (own_ch p3)), (.ref b7)])) rfl (by rw [hml]; rfl) (Steps.refl _) (argsL := [(.int (own_ch p3))]) (rest := []) (lenOf pdw_8 rfl) rfl (by show 2 * 0 + _ ≤ _; exact Nat.le_of_eq rfl) (hb hby at_94) (fun _ _ => ⟨rfl, rfl, (by decide : 2 + 1 ≤ _), (by decide : 10 + 8 ≤ _)⟩)
  dsimp only [Pt.U, Pt.locs, Pt.cells, Pt.slots] at X9 l9 y9 z9 st9 hQ9
  subst l9 y9 z9
  obtain ⟨rfl, N9q, zh, c9, BB⟩ := hQ9
  have ZB : n0 ≤ T9.heap.size := Nat.le_trans ZB zh
  have EB := BB.exa
  have N9 := Fr.app N8 N9q
  obtain ⟨cq10, kq10, q10a, q10b, q10c⟩ := isOf hZ rfl EB
  obtain ⟨_, _, ⟨T10, L10, k10, n10⟩, -, X10, ⟨Lc10, hQ10, l10, y10, z10⟩, st10⟩ := X9.virtualBack hx (y := (⟨"com/example/acompte/acompte/Utf8Builder", "toByteArray", "()[B"⟩ : MethodName)) (z := (⟨"com/example/acompte/acompte/Utf8Builder", "toByteArray", "()[B"⟩ : MethodName)) hown (mvT hZ (hw _ (List.mem_of_getElem? (i := 43) rfl))) (mvT hZ (hw _ (List.mem_of_getElem? (i := 44) rfl))) (notFace_of_selects (args := #[]) (mvT hZ (hw _ (List.mem_of_getElem? (i := 46) rfl)))) (mvT hZ (hw _ (List.mem_of_getElem? (i := 46) rfl))) (mvT hZ (hw _ (List.mem_of_getElem? (i := 45) rfl))) (by decide) (backOf (W := 0) (rm9_t l Z a0 hw [] b7 c9 ([] ++ [(own_by (own_ch p3))]) T9.heap n0 ZB BB) hZ (hw _ (List.mem_of_getElem? (i := 47) rfl)) (hw _ (List.mem_of_getElem? (i := 2) rfl)) (by decide) (by decide)) q10a q10c (g := (mkF m 128 #[.val (.int p1), .val (.int p2), .val (.int p3), .val (.int p4), .val (.int p5), .val (.int p6), .val (.int (p1 &&& (3 : Int32))), .val (.int (p2 &&& (3 : Int32))), .val (.int (own_ch p3)), .val (.int (own_ch p4)), .val (.int (own_ch p5)), .val (.int (0 : Int32)), .val (.int (own_jk p6)), .val (.ref b7), .unset, .unset, .unset] [(.ref b7)])) rfl (by rw [hml]; rfl) (Steps.refl _) (argsL := []) (rest := []) (lenOf pdw_5 rfl) rfl (by show 2 * 0 + _ ≤ _; exact Nat.le_of_eq rfl) (hb hby at_128) (fun _ _ => ⟨rfl, rfl, (by decide : 3 + 1 ≤ _), (by decide : 18 + 8 ≤ _)⟩)
  dsimp only [Pt.U, Pt.locs, Pt.cells, Pt.slots] at X10 l10 y10 z10 st10 hQ10
  subst l10 y10 z10
  obtain ⟨rfl, N10q, K10, k10', us10, V10, hus10⟩ := hQ10
  have BB1 := BB
  have g_r1 := ZB
  have BB := BB.keep K10
  have ZB : n0 ≤ T10.heap.size := Nat.le_trans ZB K10.1
  have EB := BB.exa
  have FL := BB.len
  have V10' := V10
  obtain ⟨clr1, Arr1, qr1, Sr1, Nr1, Hr1, Gr1⟩ := V10'
  have N10 := Fr.app N9 N10q
  obtain ⟨cq11, kq11, q11a, q11b, q11c⟩ := isOf hZ rfl EB
  obtain ⟨_, _, ⟨T11, L11, k11, n11⟩, -, X11, ⟨Lc11, hQ11, l11, y11, z11⟩, st11⟩ := X10.virtualBack hx (y := (⟨"com/example/acompte/acompte/Utf8Builder", "length", "()I"⟩ : MethodName)) (z := (⟨"com/example/acompte/acompte/Utf8Builder", "length", "()I"⟩ : MethodName)) hown (mvT hZ (hw _ (List.mem_of_getElem? (i := 48) rfl))) (mvT hZ (hw _ (List.mem_of_getElem? (i := 49) rfl))) (notFace_of_selects (args := #[]) (mvT hZ (hw _ (List.mem_of_getElem? (i := 51) rfl)))) (mvT hZ (hw _ (List.mem_of_getElem? (i := 51) rfl))) (mvT hZ (hw _ (List.mem_of_getElem? (i := 50) rfl))) (by decide) (backOf (W := 0) (rm10 l Z a0 hw [] b7 (Int32.ofNat ([] ++ [(own_by (own_ch p3))]).length) T10.heap n0 ZB FL) hZ (hw _ (List.mem_of_getElem? (i := 52) rfl)) (hw _ (List.mem_of_getElem? (i := 2) rfl)) (by decide) (by decide)) q11a q11c (g := (mkF m 143 #[.val (.int p1), .val (.int p2), .val (.int p3), .val (.int p4), .val (.int p5), .val (.int p6), .val (.int (p1 &&& (3 : Int32))), .val (.int (p2 &&& (3 : Int32))), .val (.int (own_ch p3)), .val (.int (own_ch p4)), .val (.int (own_ch p5)), .val (.int (0 : Int32)), .val (.int (own_jk p6)), .val (.ref b7), .val (.ref (T9.heap.size)), .unset, .unset] [(.ref b7)])) rfl (by rw [hml]; rfl) (Steps.refl _) (argsL := []) (rest := []) (lenOf pdw_6 rfl) rfl (by show 2 * 0 + _ ≤ _; exact Nat.le_of_eq rfl) (hb hby at_143) (fun _ _ => ⟨rfl, rfl, (by decide : 4 + 0 ≤ _), (by decide : 26 + 0 ≤ _)⟩)
  dsimp only [Pt.U, Pt.locs, Pt.cells, Pt.slots] at X11 l11 y11 z11 st11 hQ11
  subst l11 y11 z11
  obtain ⟨rfl, N11q, hh11⟩ := hQ11
  have N11 := Fr.app N10 N11q
  obtain ⟨_, _, ⟨T12, L12, k12, n12⟩, -, X12, ⟨Lc12, hQ12, l12, y12, z12⟩, st12⟩ := Jvm.LawKit.callS X11 hx (y := (⟨"com/example/acompte/acompte/Utf8BuilderToByteArrayPinLaw", "matches", "([BICCC)Z"⟩ : MethodName)) hown (mvT hZ (hw _ (List.mem_of_getElem? (i := 53) rfl))) (mvT hZ (hw _ (List.mem_of_getElem? (i := 54) rfl))) (mvT hZ (hw _ (List.mem_of_getElem? (i := 55) rfl))) (mvT hZ (hw _ (List.mem_of_getElem? (i := 56) rfl))) (by decide) (backOf (W := 0) (rm11_n1 l Z a0 hw [] (T9.heap.size) (p2 &&& (3 : Int32)) (own_ch p3) (own_ch p4) (own_ch p5) (own_by (own_ch p3)) clr1 T10.heap n0 ZB Arr1 (inb_of Sr1 ⟨by decide, (show (0 : Int32) < Int32.ofNat 1 from by decide)⟩) (Has.at Hr1 (inb_of Sr1 ⟨by decide, (show (0 : Int32) < Int32.ofNat 1 from by decide)⟩) (hus10 0 (by first | decide | simp))) (by rw [hn]; decide) (own_idem _) (by rw [hn]; decide) (by rw [hn]; decide)) hZ (hw _ (List.mem_of_getElem? (i := 56) rfl)) (hw _ (List.mem_of_getElem? (i := 55) rfl)) (by decide) (by decide)) (g := (mkF m 161 #[.val (.int p1), .val (.int p2), .val (.int p3), .val (.int p4), .val (.int p5), .val (.int p6), .val (.int (p1 &&& (3 : Int32))), .val (.int (p2 &&& (3 : Int32))), .val (.int (own_ch p3)), .val (.int (own_ch p4)), .val (.int (own_ch p5)), .val (.int (0 : Int32)), .val (.int (own_jk p6)), .val (.ref b7), .val (.ref (T9.heap.size)), .unset, .unset] [(.int (own_ch p5)), (.int (own_ch p4)), (.int (own_ch p3)), (.int (p2 &&& (3 : Int32))), (.ref (T9.heap.size))])) rfl (by rw [hml]; rfl) (argsL := [(.ref (T9.heap.size)), (.int (p2 &&& (3 : Int32))), (.int (own_ch p3)), (.int (own_ch p4)), (.int (own_ch p5))]) (rest := []) (lenOf pdw_7 rfl) rfl (by show 2 * 0 + _ ≤ _; exact Nat.le_of_eq rfl) (hb hby at_161) (fun _ _ => ⟨rfl, hh11, (by decide : 4 + 0 ≤ _), (by decide : 26 + 0 ≤ _)⟩)
  dsimp only [Pt.U, Pt.locs, Pt.cells, Pt.slots] at X12 l12 y12 z12 st12 hQ12
  subst l12 y12 z12
  obtain ⟨rfl, N12q, hh12⟩ := hQ12
  have N12 := Fr.app N11 N12q
  have hin197 : ¬ ((0 : Int32) < 0 ∨ clr1.slots.size ≤ ((0 : Int32)).toNatClampNeg) := inb_of Sr1 ⟨by decide, (show (0 : Int32) < Int32.ofNat 1 from by decide)⟩
  have hin192 := hin197
  have hat192 : clr1.slots[((0 : Int32)).toNatClampNeg]? = some (.int (own_by (own_ch p3))) := Has.at Hr1 hin197 (hus10 0 (by first | decide | simp))
  obtain ⟨T14, h14, X14, e14, W14, st14⟩ := stB X12 hx hZ hh12 Arr1 (j := (0 : Int32)) hin197 (g := (mkF m 197 #[.val (.int p1), .val (.int p2), .val (.int p3), .val (.int p4), .val (.int p5), .val (.int p6), .val (.int (p1 &&& (3 : Int32))), .val (.int (p2 &&& (3 : Int32))), .val (.int (own_ch p3)), .val (.int (own_ch p4)), .val (.int (own_ch p5)), .val (.int (0 : Int32)), .val (.int (own_jk p6)), .val (.ref b7), .val (.ref (T9.heap.size)), .val (.int (1 : Int32)), .unset] [(.int (((own_by (own_ch p3)) ^^^ (64 : Int32)).toInt8.toInt32)), (.int (0 : Int32)), (.ref (T9.heap.size))])) rfl rfl (hb hby at_197)
  have BB := BB1.keepwr K10 W14 (Nat.le_refl _)
  have EB := BB.exa
  have ZB : n0 ≤ h14.size := by rw [W14.size]; exact ZB
  have N14 := Fr.snoc X14 N12 g_r1
  obtain ⟨cq15, kq15, q15a, q15b, q15c⟩ := isOf hZ e14 EB
  obtain ⟨_, _, ⟨T15, L15, k15, n15⟩, -, X15, ⟨Lc15, hQ15, l15, y15, z15⟩, st15⟩ := X14.virtualBack hx (y := (⟨"com/example/acompte/acompte/Utf8Builder", "toByteArray", "()[B"⟩ : MethodName)) (z := (⟨"com/example/acompte/acompte/Utf8Builder", "toByteArray", "()[B"⟩ : MethodName)) hown (mvT hZ (hw _ (List.mem_of_getElem? (i := 43) rfl))) (mvT hZ (hw _ (List.mem_of_getElem? (i := 44) rfl))) (notFace_of_selects (args := #[]) (mvT hZ (hw _ (List.mem_of_getElem? (i := 46) rfl)))) (mvT hZ (hw _ (List.mem_of_getElem? (i := 46) rfl))) (mvT hZ (hw _ (List.mem_of_getElem? (i := 45) rfl))) (by decide) (backOf (W := 0) (rm9_t l Z a0 hw [] b7 c9 ([] ++ [(own_by (own_ch p3))]) h14 n0 ZB BB) hZ (hw _ (List.mem_of_getElem? (i := 47) rfl)) (hw _ (List.mem_of_getElem? (i := 2) rfl)) (by decide) (by decide)) q15a q15c (g := (mkF m 200 #[.val (.int p1), .val (.int p2), .val (.int p3), .val (.int p4), .val (.int p5), .val (.int p6), .val (.int (p1 &&& (3 : Int32))), .val (.int (p2 &&& (3 : Int32))), .val (.int (own_ch p3)), .val (.int (own_ch p4)), .val (.int (own_ch p5)), .val (.int (0 : Int32)), .val (.int (own_jk p6)), .val (.ref b7), .val (.ref (T9.heap.size)), .val (.int (1 : Int32)), .unset] [(.ref b7)])) rfl (by rw [hml]; rfl) (Steps.refl _) (argsL := []) (rest := []) (lenOf pdw_5 rfl) rfl (by show 2 * 0 + _ ≤ _; exact Nat.le_of_eq rfl) (hb hby at_200) (fun _ _ => ⟨rfl, e14, (by decide : 4 + 1 ≤ _), (by decide : 26 + 8 ≤ _)⟩)
  dsimp only [Pt.U, Pt.locs, Pt.cells, Pt.slots] at X15 l15 y15 z15 st15 hQ15
  subst l15 y15 z15
  obtain ⟨rfl, N15q, K15, k15', us15, V15, hus15⟩ := hQ15
  have ZB : n0 ≤ T15.heap.size := Nat.le_trans ZB K15.1
  have V15' := V15
  obtain ⟨clr2, Arr2, qr2, Sr2, Nr2, Hr2, Gr2⟩ := V15'
  have N15 := Fr.app N14 N15q
  obtain ⟨_, _, ⟨T16, L16, k16, n16⟩, -, X16, ⟨Lc16, hQ16, l16, y16, z16⟩, st16⟩ := Jvm.LawKit.callS X15 hx (y := (⟨"com/example/acompte/acompte/Utf8BuilderToByteArrayPinLaw", "matches", "([BICCC)Z"⟩ : MethodName)) hown (mvT hZ (hw _ (List.mem_of_getElem? (i := 53) rfl))) (mvT hZ (hw _ (List.mem_of_getElem? (i := 54) rfl))) (mvT hZ (hw _ (List.mem_of_getElem? (i := 55) rfl))) (mvT hZ (hw _ (List.mem_of_getElem? (i := 56) rfl))) (by decide) (backOf (W := 0) (rm11_n1 l Z a0 hw [] (h14.size) (p2 &&& (3 : Int32)) (own_ch p3) (own_ch p4) (own_ch p5) (own_by (own_ch p3)) clr2 T15.heap n0 ZB Arr2 (inb_of Sr2 ⟨by decide, (show (0 : Int32) < Int32.ofNat 1 from by decide)⟩) (Has.at Hr2 (inb_of Sr2 ⟨by decide, (show (0 : Int32) < Int32.ofNat 1 from by decide)⟩) (hus15 0 (by first | decide | simp))) (by rw [hn]; decide) (own_idem _) (by rw [hn]; decide) (by rw [hn]; decide)) hZ (hw _ (List.mem_of_getElem? (i := 56) rfl)) (hw _ (List.mem_of_getElem? (i := 55) rfl)) (by decide) (by decide)) (g := (mkF m 223 #[.val (.int p1), .val (.int p2), .val (.int p3), .val (.int p4), .val (.int p5), .val (.int p6), .val (.int (p1 &&& (3 : Int32))), .val (.int (p2 &&& (3 : Int32))), .val (.int (own_ch p3)), .val (.int (own_ch p4)), .val (.int (own_ch p5)), .val (.int (0 : Int32)), .val (.int (own_jk p6)), .val (.ref b7), .val (.ref (T9.heap.size)), .val (.int (1 : Int32)), .val (.ref (h14.size))] [(.int (own_ch p5)), (.int (own_ch p4)), (.int (own_ch p3)), (.int (p2 &&& (3 : Int32))), (.ref (h14.size))])) rfl (by rw [hml]; rfl) (argsL := [(.ref (h14.size)), (.int (p2 &&& (3 : Int32))), (.int (own_ch p3)), (.int (own_ch p4)), (.int (own_ch p5))]) (rest := []) (lenOf pdw_7 rfl) rfl (by show 2 * 0 + _ ≤ _; exact Nat.le_of_eq rfl) (hb hby at_223) (fun _ _ => ⟨rfl, rfl, (by decide : 5 + 0 ≤ _), (by decide : 34 + 0 ≤ _)⟩)
  dsimp only [Pt.U, Pt.locs, Pt.cells, Pt.slots] at X16 l16 y16 z16 st16 hQ16
  subst l16 y16 z16
  obtain ⟨rfl, N16q, hh16⟩ := hQ16
  have N16 := Fr.app N15 N16q
  obtain ⟨fs, hr, hrun, hended, hW, hsame⟩ := X16.leave (v := some (.int (1 : Int32))) (fun h => by rw [Bd.returns] at h; cases h)
  refine ⟨_, _, pre0 _ ?_, hrun, hended, _, _, rfl, ?_, ⟨_, rfl⟩, hW, hsame.mono (by decide) (by decide)⟩
  -- 4. STEPS
  · show Steps p.tables e below (s₁.setTop (mkF m 0 #[.val (.int p1), .val (.int p2), .val (.int p3), .val (.int p4), .val (.int p5), .val (.int p6), .unset, .unset, .unset, .unset, .unset, .unset, .unset, .unset, .unset, .unset, .unset] [])) _
    refine XS.iloadN X0.here hx rfl (hb hby at_0) rfl ?_
    show Steps p.tables e below (s₁.setTop (mkF m 1 #[.val (.int p1), .val (.int p2), .val (.int p3), .val (.int p4), .val (.int p5), .val (.int p6), .unset, .unset, .unset, .unset, .unset, .unset, .unset, .unset, .unset, .unset, .unset] [(.int p1)])) _
    refine XS.iconst X0.here hx rfl (hb hby at_1) ?_
    show Steps p.tables e below (s₁.setTop (mkF m 2 #[.val (.int p1), .val (.int p2), .val (.int p3), .val (.int p4), .val (.int p5), .val (.int p6), .unset, .unset, .unset, .unset, .unset, .unset, .unset, .unset, .unset, .unset, .unset] [(.int (3 : Int32)), (.int p1)])) _
    refine XS.iand X0.here hx rfl (hb hby at_2) rfl ?_
    show Steps p.tables e below (s₁.setTop (mkF m 3 #[.val (.int p1), .val (.int p2), .val (.int p3), .val (.int p4), .val (.int p5), .val (.int p6), .unset, .unset, .unset, .unset, .unset, .unset, .unset, .unset, .unset, .unset, .unset] [(.int (p1 &&& (3 : Int32)))])) _
    refine XS.istore X0.here hx rfl (hb hby at_3) rfl (l' := #[.val (.int p1), .val (.int p2), .val (.int p3), .val (.int p4), .val (.int p5), .val (.int p6), .val (.int (p1 &&& (3 : Int32))), .unset, .unset, .unset, .unset, .unset, .unset, .unset, .unset, .unset, .unset]) rfl ?_
    show Steps p.tables e below (s₁.setTop (mkF m 5 #[.val (.int p1), .val (.int p2), .val (.int p3), .val (.int p4), .val (.int p5), .val (.int p6), .val (.int (p1 &&& (3 : Int32))), .unset, .unset, .unset, .unset, .unset, .unset, .unset, .unset, .unset, .unset] [])) _
    refine XS.iloadN X0.here hx rfl (hb hby at_5) rfl ?_
    show Steps p.tables e below (s₁.setTop (mkF m 6 #[.val (.int p1), .val (.int p2), .val (.int p3), .val (.int p4), .val (.int p5), .val (.int p6), .val (.int (p1 &&& (3 : Int32))), .unset, .unset, .unset, .unset, .unset, .unset, .unset, .unset, .unset, .unset] [(.int p2)])) _
    refine XS.iconst X0.here hx rfl (hb hby at_6) ?_
    show Steps p.tables e below (s₁.setTop (mkF m 7 #[.val (.int p1), .val (.int p2), .val (.int p3), .val (.int p4), .val (.int p5), .val (.int p6), .val (.int (p1 &&& (3 : Int32))), .unset, .unset, .unset, .unset, .unset, .unset, .unset, .unset, .unset, .unset] [(.int (3 : Int32)), (.int p2)])) _
    refine XS.iand X0.here hx rfl (hb hby at_7) rfl ?_
    show Steps p.tables e below (s₁.setTop (mkF m 8 #[.val (.int p1), .val (.int p2), .val (.int p3), .val (.int p4), .val (.int p5), .val (.int p6), .val (.int (p1 &&& (3 : Int32))), .unset, .unset, .unset, .unset, .unset, .unset, .unset, .unset, .unset, .unset] [(.int (p2 &&& (3 : Int32)))])) _
    refine XS.istore X0.here hx rfl (hb hby at_8) rfl (l' := #[.val (.int p1), .val (.int p2), .val (.int p3), .val (.int p4), .val (.int p5), .val (.int p6), .val (.int (p1 &&& (3 : Int32))), .val (.int (p2 &&& (3 : Int32))), .unset, .unset, .unset, .unset, .unset, .unset, .unset, .unset, .unset]) rfl ?_
    show Steps p.tables e below (s₁.setTop (mkF m 10 #[.val (.int p1), .val (.int p2), .val (.int p3), .val (.int p4), .val (.int p5), .val (.int p6), .val (.int (p1 &&& (3 : Int32))), .val (.int (p2 &&& (3 : Int32))), .unset, .unset, .unset, .unset, .unset, .unset, .unset, .unset, .unset] [])) _
    refine XS.iloadN X0.here hx rfl (hb hby at_10) rfl ?_
    show Steps p.tables e below (s₁.setTop (mkF m 11 #[.val (.int p1), .val (.int p2), .val (.int p3), .val (.int p4), .val (.int p5), .val (.int p6), .val (.int (p1 &&& (3 : Int32))), .val (.int (p2 &&& (3 : Int32))), .unset, .unset, .unset, .unset, .unset, .unset, .unset, .unset, .unset] [(.int p3)])) _
    refine XS.bipush X0.here hx rfl (hb hby at_11) ?_
    show Steps p.tables e below (s₁.setTop (mkF m 13 #[.val (.int p1), .val (.int p2), .val (.int p3), .val (.int p4), .val (.int p5), .val (.int p6), .val (.int (p1 &&& (3 : Int32))), .val (.int (p2 &&& (3 : Int32))), .unset, .unset, .unset, .unset, .unset, .unset, .unset, .unset, .unset] [(.int (127 : Int32)), (.int p3)])) _
    refine XS.iand X0.here hx rfl (hb hby at_13) rfl ?_
    show Steps p.tables e below (s₁.setTop (mkF m 14 #[.val (.int p1), .val (.int p2), .val (.int p3), .val (.int p4), .val (.int p5), .val (.int p6), .val (.int (p1 &&& (3 : Int32))), .val (.int (p2 &&& (3 : Int32))), .unset, .unset, .unset, .unset, .unset, .unset, .unset, .unset, .unset] [(.int (p3 &&& (127 : Int32)))])) _
    refine XS.i2c X0.here hx rfl (hb hby at_14) rfl ?_
    show Steps p.tables e below (s₁.setTop (mkF m 15 #[.val (.int p1), .val (.int p2), .val (.int p3), .val (.int p4), .val (.int p5), .val (.int p6), .val (.int (p1 &&& (3 : Int32))), .val (.int (p2 &&& (3 : Int32))), .unset, .unset, .unset, .unset, .unset, .unset, .unset, .unset, .unset] [(.int (own_ch p3))])) _
    refine XS.istore X0.here hx rfl (hb hby at_15) rfl (l' := #[.val (.int p1), .val (.int p2), .val (.int p3), .val (.int p4), .val (.int p5), .val (.int p6), .val (.int (p1 &&& (3 : Int32))), .val (.int (p2 &&& (3 : Int32))), .val (.int (own_ch p3)), .unset, .unset, .unset, .unset, .unset, .unset, .unset, .unset]) rfl ?_
    show Steps p.tables e below (s₁.setTop (mkF m 17 #[.val (.int p1), .val (.int p2), .val (.int p3), .val (.int p4), .val (.int p5), .val (.int p6), .val (.int (p1 &&& (3 : Int32))), .val (.int (p2 &&& (3 : Int32))), .val (.int (own_ch p3)), .unset, .unset, .unset, .unset, .unset, .unset, .unset, .unset] [])) _
    refine XS.iloadN X0.here hx rfl (hb hby at_17) rfl ?_
    show Steps p.tables e below (s₁.setTop (mkF m 18 #[.val (.int p1), .val (.int p2), .val (.int p3), .val (.int p4), .val (.int p5), .val (.int p6), .val (.int (p1 &&& (3 : Int32))), .val (.int (p2 &&& (3 : Int32))), .val (.int (own_ch p3)), .unset, .unset, .unset, .unset, .unset, .unset, .unset, .unset] [(.int p4)])) _
    refine XS.bipush X0.here hx rfl (hb hby at_18) ?_
    show Steps p.tables e below (s₁.setTop (mkF m 20 #[.val (.int p1), .val (.int p2), .val (.int p3), .val (.int p4), .val (.int p5), .val (.int p6), .val (.int (p1 &&& (3 : Int32))), .val (.int (p2 &&& (3 : Int32))), .val (.int (own_ch p3)), .unset, .unset, .unset, .unset, .unset, .unset, .unset, .unset] [(.int (127 : Int32)), (.int p4)])) _
    refine XS.iand X0.here hx rfl (hb hby at_20) rfl ?_
    show Steps p.tables e below (s₁.setTop (mkF m 21 #[.val (.int p1), .val (.int p2), .val (.int p3), .val (.int p4), .val (.int p5), .val (.int p6), .val (.int (p1 &&& (3 : Int32))), .val (.int (p2 &&& (3 : Int32))), .val (.int (own_ch p3)), .unset, .unset, .unset, .unset, .unset, .unset, .unset, .unset] [(.int (p4 &&& (127 : Int32)))])) _
    refine XS.i2c X0.here hx rfl (hb hby at_21) rfl ?_
    show Steps p.tables e below (s₁.setTop (mkF m 22 #[.val (.int p1), .val (.int p2), .val (.int p3), .val (.int p4), .val (.int p5), .val (.int p6), .val (.int (p1 &&& (3 : Int32))), .val (.int (p2 &&& (3 : Int32))), .val (.int (own_ch p3)), .unset, .unset, .unset, .unset, .unset, .unset, .unset, .unset] [(.int (own_ch p4))])) _
    refine XS.istore X0.here hx rfl (hb hby at_22) rfl (l' := #[.val (.int p1), .val (.int p2), .val (.int p3), .val (.int p4), .val (.int p5), .val (.int p6), .val (.int (p1 &&& (3 : Int32))), .val (.int (p2 &&& (3 : Int32))), .val (.int (own_ch p3)), .val (.int (own_ch p4)), .unset, .unset, .unset, .unset, .unset, .unset, .unset]) rfl ?_
    show Steps p.tables e below (s₁.setTop (mkF m 24 #[.val (.int p1), .val (.int p2), .val (.int p3), .val (.int p4), .val (.int p5), .val (.int p6), .val (.int (p1 &&& (3 : Int32))), .val (.int (p2 &&& (3 : Int32))), .val (.int (own_ch p3)), .val (.int (own_ch p4)), .unset, .unset, .unset, .unset, .unset, .unset, .unset] [])) _
    refine XS.iload X0.here hx rfl (hb hby at_24) rfl ?_
    show Steps p.tables e below (s₁.setTop (mkF m 26 #[.val (.int p1), .val (.int p2), .val (.int p3), .val (.int p4), .val (.int p5), .val (.int p6), .val (.int (p1 &&& (3 : Int32))), .val (.int (p2 &&& (3 : Int32))), .val (.int (own_ch p3)), .val (.int (own_ch p4)), .unset, .unset, .unset, .unset, .unset, .unset, .unset] [(.int p5)])) _
    refine XS.bipush X0.here hx rfl (hb hby at_26) ?_
    show Steps p.tables e below (s₁.setTop (mkF m 28 #[.val (.int p1), .val (.int p2), .val (.int p3), .val (.int p4), .val (.int p5), .val (.int p6), .val (.int (p1 &&& (3 : Int32))), .val (.int (p2 &&& (3 : Int32))), .val (.int (own_ch p3)), .val (.int (own_ch p4)), .unset, .unset, .unset, .unset, .unset, .unset, .unset] [(.int (127 : Int32)), (.int p5)])) _
    refine XS.iand X0.here hx rfl (hb hby at_28) rfl ?_
    show Steps p.tables e below (s₁.setTop (mkF m 29 #[.val (.int p1), .val (.int p2), .val (.int p3), .val (.int p4), .val (.int p5), .val (.int p6), .val (.int (p1 &&& (3 : Int32))), .val (.int (p2 &&& (3 : Int32))), .val (.int (own_ch p3)), .val (.int (own_ch p4)), .unset, .unset, .unset, .unset, .unset, .unset, .unset] [(.int (p5 &&& (127 : Int32)))])) _
    refine XS.i2c X0.here hx rfl (hb hby at_29) rfl ?_
    show Steps p.tables e below (s₁.setTop (mkF m 30 #[.val (.int p1), .val (.int p2), .val (.int p3), .val (.int p4), .val (.int p5), .val (.int p6), .val (.int (p1 &&& (3 : Int32))), .val (.int (p2 &&& (3 : Int32))), .val (.int (own_ch p3)), .val (.int (own_ch p4)), .unset, .unset, .unset, .unset, .unset, .unset, .unset] [(.int (own_ch p5))])) _
    refine XS.istore X0.here hx rfl (hb hby at_30) rfl (l' := #[.val (.int p1), .val (.int p2), .val (.int p3), .val (.int p4), .val (.int p5), .val (.int p6), .val (.int (p1 &&& (3 : Int32))), .val (.int (p2 &&& (3 : Int32))), .val (.int (own_ch p3)), .val (.int (own_ch p4)), .val (.int (own_ch p5)), .unset, .unset, .unset, .unset, .unset, .unset]) rfl ?_
    show Steps p.tables e below (s₁.setTop (mkF m 32 #[.val (.int p1), .val (.int p2), .val (.int p3), .val (.int p4), .val (.int p5), .val (.int p6), .val (.int (p1 &&& (3 : Int32))), .val (.int (p2 &&& (3 : Int32))), .val (.int (own_ch p3)), .val (.int (own_ch p4)), .val (.int (own_ch p5)), .unset, .unset, .unset, .unset, .unset, .unset] [])) _
    refine XS.iload X0.here hx rfl (hb hby at_32) rfl ?_
    show Steps p.tables e below (s₁.setTop (mkF m 34 #[.val (.int p1), .val (.int p2), .val (.int p3), .val (.int p4), .val (.int p5), .val (.int p6), .val (.int (p1 &&& (3 : Int32))), .val (.int (p2 &&& (3 : Int32))), .val (.int (own_ch p3)), .val (.int (own_ch p4)), .val (.int (own_ch p5)), .unset, .unset, .unset, .unset, .unset, .unset] [(.int p6)])) _
    refine XS.iconst X0.here hx rfl (hb hby at_34) ?_
    show Steps p.tables e below (s₁.setTop (mkF m 35 #[.val (.int p1), .val (.int p2), .val (.int p3), .val (.int p4), .val (.int p5), .val (.int p6), .val (.int (p1 &&& (3 : Int32))), .val (.int (p2 &&& (3 : Int32))), .val (.int (own_ch p3)), .val (.int (own_ch p4)), .val (.int (own_ch p5)), .unset, .unset, .unset, .unset, .unset, .unset] [(.int (1 : Int32)), (.int p6)])) _
    refine XS.iand X0.here hx rfl (hb hby at_35) rfl ?_
    show Steps p.tables e below (s₁.setTop (mkF m 36 #[.val (.int p1), .val (.int p2), .val (.int p3), .val (.int p4), .val (.int p5), .val (.int p6), .val (.int (p1 &&& (3 : Int32))), .val (.int (p2 &&& (3 : Int32))), .val (.int (own_ch p3)), .val (.int (own_ch p4)), .val (.int (own_ch p5)), .unset, .unset, .unset, .unset, .unset, .unset] [(.int (p6 &&& (1 : Int32)))])) _
    refine XS.ifYes X0.here hx rfl (pc0 := 36) (pc' := 43) rfl (hb hby at_36) rfl ((if0 _ _).trans (teq hc36).1) (by decide) (by decide) ?_
    show Steps p.tables e below (s₁.setTop (mkF m 43 #[.val (.int p1), .val (.int p2), .val (.int p3), .val (.int p4), .val (.int p5), .val (.int p6), .val (.int (p1 &&& (3 : Int32))), .val (.int (p2 &&& (3 : Int32))), .val (.int (own_ch p3)), .val (.int (own_ch p4)), .val (.int (own_ch p5)), .unset, .unset, .unset, .unset, .unset, .unset] [])) _
    refine XS.iconst X0.here hx rfl (hb hby at_43) ?_
    show Steps p.tables e below (s₁.setTop (mkF m 44 #[.val (.int p1), .val (.int p2), .val (.int p3), .val (.int p4), .val (.int p5), .val (.int p6), .val (.int (p1 &&& (3 : Int32))), .val (.int (p2 &&& (3 : Int32))), .val (.int (own_ch p3)), .val (.int (own_ch p4)), .val (.int (own_ch p5)), .unset, .unset, .unset, .unset, .unset, .unset] [(.int (0 : Int32))])) _
    refine XS.istore X0.here hx rfl (hb hby at_44) rfl (l' := #[.val (.int p1), .val (.int p2), .val (.int p3), .val (.int p4), .val (.int p5), .val (.int p6), .val (.int (p1 &&& (3 : Int32))), .val (.int (p2 &&& (3 : Int32))), .val (.int (own_ch p3)), .val (.int (own_ch p4)), .val (.int (own_ch p5)), .val (.int (0 : Int32)), .unset, .unset, .unset, .unset, .unset]) rfl ?_
    show Steps p.tables e below (s₁.setTop (mkF m 46 #[.val (.int p1), .val (.int p2), .val (.int p3), .val (.int p4), .val (.int p5), .val (.int p6), .val (.int (p1 &&& (3 : Int32))), .val (.int (p2 &&& (3 : Int32))), .val (.int (own_ch p3)), .val (.int (own_ch p4)), .val (.int (own_ch p5)), .val (.int (0 : Int32)), .unset, .unset, .unset, .unset, .unset] [])) _
    refine XS.iload X0.here hx rfl (hb hby at_46) rfl ?_
    show Steps p.tables e below (s₁.setTop (mkF m 48 #[.val (.int p1), .val (.int p2), .val (.int p3), .val (.int p4), .val (.int p5), .val (.int p6), .val (.int (p1 &&& (3 : Int32))), .val (.int (p2 &&& (3 : Int32))), .val (.int (own_ch p3)), .val (.int (own_ch p4)), .val (.int (own_ch p5)), .val (.int (0 : Int32)), .unset, .unset, .unset, .unset, .unset] [(.int p6)])) _
    refine XS.iconst X0.here hx rfl (hb hby at_48) ?_
    show Steps p.tables e below (s₁.setTop (mkF m 49 #[.val (.int p1), .val (.int p2), .val (.int p3), .val (.int p4), .val (.int p5), .val (.int p6), .val (.int (p1 &&& (3 : Int32))), .val (.int (p2 &&& (3 : Int32))), .val (.int (own_ch p3)), .val (.int (own_ch p4)), .val (.int (own_ch p5)), .val (.int (0 : Int32)), .unset, .unset, .unset, .unset, .unset] [(.int (1 : Int32)), (.int p6)])) _
    refine XS.iushr X0.here hx rfl (hb hby at_49) rfl ?_
    show Steps p.tables e below (s₁.setTop (mkF m 50 #[.val (.int p1), .val (.int p2), .val (.int p3), .val (.int p4), .val (.int p5), .val (.int p6), .val (.int (p1 &&& (3 : Int32))), .val (.int (p2 &&& (3 : Int32))), .val (.int (own_ch p3)), .val (.int (own_ch p4)), .val (.int (own_ch p5)), .val (.int (0 : Int32)), .unset, .unset, .unset, .unset, .unset] [(.int ((p6.toUInt32 >>> ((1 : Int32) &&& 31).toUInt32).toInt32))])) _
    refine XS.bipush X0.here hx rfl (hb hby at_50) ?_
    show Steps p.tables e below (s₁.setTop (mkF m 52 #[.val (.int p1), .val (.int p2), .val (.int p3), .val (.int p4), .val (.int p5), .val (.int p6), .val (.int (p1 &&& (3 : Int32))), .val (.int (p2 &&& (3 : Int32))), .val (.int (own_ch p3)), .val (.int (own_ch p4)), .val (.int (own_ch p5)), .val (.int (0 : Int32)), .unset, .unset, .unset, .unset, .unset] [(.int (127 : Int32)), (.int ((p6.toUInt32 >>> ((1 : Int32) &&& 31).toUInt32).toInt32))])) _
    refine XS.iand X0.here hx rfl (hb hby at_52) rfl ?_
    show Steps p.tables e below (s₁.setTop (mkF m 53 #[.val (.int p1), .val (.int p2), .val (.int p3), .val (.int p4), .val (.int p5), .val (.int p6), .val (.int (p1 &&& (3 : Int32))), .val (.int (p2 &&& (3 : Int32))), .val (.int (own_ch p3)), .val (.int (own_ch p4)), .val (.int (own_ch p5)), .val (.int (0 : Int32)), .unset, .unset, .unset, .unset, .unset] [(.int (((p6.toUInt32 >>> ((1 : Int32) &&& 31).toUInt32).toInt32) &&& (127 : Int32)))])) _
    refine XS.i2c X0.here hx rfl (hb hby at_53) rfl ?_
    show Steps p.tables e below (s₁.setTop (mkF m 54 #[.val (.int p1), .val (.int p2), .val (.int p3), .val (.int p4), .val (.int p5), .val (.int p6), .val (.int (p1 &&& (3 : Int32))), .val (.int (p2 &&& (3 : Int32))), .val (.int (own_ch p3)), .val (.int (own_ch p4)), .val (.int (own_ch p5)), .val (.int (0 : Int32)), .unset, .unset, .unset, .unset, .unset] [(.int (own_jk p6))])) _
    refine XS.istore X0.here hx rfl (hb hby at_54) rfl (l' := #[.val (.int p1), .val (.int p2), .val (.int p3), .val (.int p4), .val (.int p5), .val (.int p6), .val (.int (p1 &&& (3 : Int32))), .val (.int (p2 &&& (3 : Int32))), .val (.int (own_ch p3)), .val (.int (own_ch p4)), .val (.int (own_ch p5)), .val (.int (0 : Int32)), .val (.int (own_jk p6)), .unset, .unset, .unset, .unset]) rfl ?_
    show Steps p.tables e below (s₁.setTop (mkF m 56 #[.val (.int p1), .val (.int p2), .val (.int p3), .val (.int p4), .val (.int p5), .val (.int p6), .val (.int (p1 &&& (3 : Int32))), .val (.int (p2 &&& (3 : Int32))), .val (.int (own_ch p3)), .val (.int (own_ch p4)), .val (.int (own_ch p5)), .val (.int (0 : Int32)), .val (.int (own_jk p6)), .unset, .unset, .unset, .unset] [])) _
    refine st7 _ ?_
    show Steps p.tables e below (T7.setTop (mkF m 59 #[.val (.int p1), .val (.int p2), .val (.int p3), .val (.int p4), .val (.int p5), .val (.int p6), .val (.int (p1 &&& (3 : Int32))), .val (.int (p2 &&& (3 : Int32))), .val (.int (own_ch p3)), .val (.int (own_ch p4)), .val (.int (own_ch p5)), .val (.int (0 : Int32)), .val (.int (own_jk p6)), .unset, .unset, .unset, .unset] [(.ref b7)])) _
    refine XS.dup X7.here hx rfl (hb hby at_59) rfl rfl ?_
    show Steps p.tables e below (T7.setTop (mkF m 60 #[.val (.int p1), .val (.int p2), .val (.int p3), .val (.int p4), .val (.int p5), .val (.int p6), .val (.int (p1 &&& (3 : Int32))), .val (.int (p2 &&& (3 : Int32))), .val (.int (own_ch p3)), .val (.int (own_ch p4)), .val (.int (own_ch p5)), .val (.int (0 : Int32)), .val (.int (own_jk p6)), .unset, .unset, .unset, .unset] [(.ref b7), (.ref b7)])) _
    refine XS.iload X7.here hx rfl (hb hby at_60) rfl ?_
    show Steps p.tables e below (T7.setTop (mkF m 62 #[.val (.int p1), .val (.int p2), .val (.int p3), .val (.int p4), .val (.int p5), .val (.int p6), .val (.int (p1 &&& (3 : Int32))), .val (.int (p2 &&& (3 : Int32))), .val (.int (own_ch p3)), .val (.int (own_ch p4)), .val (.int (own_ch p5)), .val (.int (0 : Int32)), .val (.int (own_jk p6)), .unset, .unset, .unset, .unset] [(.int (p1 &&& (3 : Int32))), (.ref b7), (.ref b7)])) _
    refine st8.trans ?_
    show Steps p.tables e below (T8.setTop (mkF m 65 #[.val (.int p1), .val (.int p2), .val (.int p3), .val (.int p4), .val (.int p5), .val (.int p6), .val (.int (p1 &&& (3 : Int32))), .val (.int (p2 &&& (3 : Int32))), .val (.int (own_ch p3)), .val (.int (own_ch p4)), .val (.int (own_ch p5)), .val (.int (0 : Int32)), .val (.int (own_jk p6)), .unset, .unset, .unset, .unset] [(.ref b7)])) _
    refine XS.astore X8.here hx rfl (hb hby at_65) rfl rfl (l' := #[.val (.int p1), .val (.int p2), .val (.int p3), .val (.int p4), .val (.int p5), .val (.int p6), .val (.int (p1 &&& (3 : Int32))), .val (.int (p2 &&& (3 : Int32))), .val (.int (own_ch p3)), .val (.int (own_ch p4)), .val (.int (own_ch p5)), .val (.int (0 : Int32)), .val (.int (own_jk p6)), .val (.ref b7), .unset, .unset, .unset]) rfl ?_
    show Steps p.tables e below (T8.setTop (mkF m 67 #[.val (.int p1), .val (.int p2), .val (.int p3), .val (.int p4), .val (.int p5), .val (.int p6), .val (.int (p1 &&& (3 : Int32))), .val (.int (p2 &&& (3 : Int32))), .val (.int (own_ch p3)), .val (.int (own_ch p4)), .val (.int (own_ch p5)), .val (.int (0 : Int32)), .val (.int (own_jk p6)), .val (.ref b7), .unset, .unset, .unset] [])) _
    refine XS.iload X8.here hx rfl (hb hby at_67) rfl ?_
    show Steps p.tables e below (T8.setTop (mkF m 69 #[.val (.int p1), .val (.int p2), .val (.int p3), .val (.int p4), .val (.int p5), .val (.int p6), .val (.int (p1 &&& (3 : Int32))), .val (.int (p2 &&& (3 : Int32))), .val (.int (own_ch p3)), .val (.int (own_ch p4)), .val (.int (own_ch p5)), .val (.int (0 : Int32)), .val (.int (own_jk p6)), .val (.ref b7), .unset, .unset, .unset] [(.int (0 : Int32))])) _
    refine XS.ifYes X8.here hx rfl (pc0 := 69) (pc' := 85) rfl (hb hby at_69) rfl ((if0 _ _).trans (teq (rfl : (0 : Int32) = (0 : Int32))).1) (by decide) (by decide) ?_
    show Steps p.tables e below (T8.setTop (mkF m 85 #[.val (.int p1), .val (.int p2), .val (.int p3), .val (.int p4), .val (.int p5), .val (.int p6), .val (.int (p1 &&& (3 : Int32))), .val (.int (p2 &&& (3 : Int32))), .val (.int (own_ch p3)), .val (.int (own_ch p4)), .val (.int (own_ch p5)), .val (.int (0 : Int32)), .val (.int (own_jk p6)), .val (.ref b7), .unset, .unset, .unset] [])) _
    refine XS.iload X8.here hx rfl (hb hby at_85) rfl ?_
    show Steps p.tables e below (T8.setTop (mkF m 87 #[.val (.int p1), .val (.int p2), .val (.int p3), .val (.int p4), .val (.int p5), .val (.int p6), .val (.int (p1 &&& (3 : Int32))), .val (.int (p2 &&& (3 : Int32))), .val (.int (own_ch p3)), .val (.int (own_ch p4)), .val (.int (own_ch p5)), .val (.int (0 : Int32)), .val (.int (own_jk p6)), .val (.ref b7), .unset, .unset, .unset] [(.int (p2 &&& (3 : Int32)))])) _
    refine XS.ifNo X8.here hx rfl (hb hby at_87) rfl ((if0 _ _).trans (tlt hc87).2.2.2) ?_
    show Steps p.tables e below (T8.setTop (mkF m 90 #[.val (.int p1), .val (.int p2), .val (.int p3), .val (.int p4), .val (.int p5), .val (.int p6), .val (.int (p1 &&& (3 : Int32))), .val (.int (p2 &&& (3 : Int32))), .val (.int (own_ch p3)), .val (.int (own_ch p4)), .val (.int (own_ch p5)), .val (.int (0 : Int32)), .val (.int (own_jk p6)), .val (.ref b7), .unset, .unset, .unset] [])) _
    refine XS.aload X8.here hx rfl (hb hby at_90) rfl rfl ?_
    show Steps p.tables e below (T8.setTop (mkF m 92 #[.val (.int p1), .val (.int p2), .val (.int p3), .val (.int p4), .val (.int p5), .val (.int p6), .val (.int (p1 &&& (3 : Int32))), .val (.int (p2 &&& (3 : Int32))), .val (.int (own_ch p3)), .val (.int (own_ch p4)), .val (.int (own_ch p5)), .val (.int (0 : Int32)), .val (.int (own_jk p6)), .val (.ref b7), .unset, .unset, .unset] [(.ref b7)])) _
    refine XS.iload X8.here hx rfl (hb hby at_92) rfl ?_
    show Steps p.tables e below (T8.setTop (mkF m 94 #[.val (.int p1), .val (.int p2), .val (.int p3), .val (.int p4), .val (.int p5), .val (.int p6), .val (.int (p1 &&& (3 : Int32))), .val (.int (p2 &&& (3 : Int32))), .val (.int (own_ch p3)), .val (.int (own_ch p4)), .val (.int (own_ch p5)), .val (.int (0 : Int32)), .val (.int (own_jk p6)), .val (.ref b7), .unset, .unset, .unset] [(.int (own_ch p3)), (.ref b7)])) _
    refine st9.trans ?_
    show Steps p.tables e below (T9.setTop (mkF m 97 #[.val (.int p1), .val (.int p2), .val (.int p3), .val (.int p4), .val (.int p5), .val (.int p6), .val (.int (p1 &&& (3 : Int32))), .val (.int (p2 &&& (3 : Int32))), .val (.int (own_ch p3)), .val (.int (own_ch p4)), .val (.int (own_ch p5)), .val (.int (0 : Int32)), .val (.int (own_jk p6)), .val (.ref b7), .unset, .unset, .unset] [(.ref b7)])) _
    refine XS.pop X9.here hx rfl (hb hby at_97) rfl rfl ?_
    show Steps p.tables e below (T9.setTop (mkF m 98 #[.val (.int p1), .val (.int p2), .val (.int p3), .val (.int p4), .val (.int p5), .val (.int p6), .val (.int (p1 &&& (3 : Int32))), .val (.int (p2 &&& (3 : Int32))), .val (.int (own_ch p3)), .val (.int (own_ch p4)), .val (.int (own_ch p5)), .val (.int (0 : Int32)), .val (.int (own_jk p6)), .val (.ref b7), .unset, .unset, .unset] [])) _
    refine XS.iload X9.here hx rfl (hb hby at_98) rfl ?_
    show Steps p.tables e below (T9.setTop (mkF m 100 #[.val (.int p1), .val (.int p2), .val (.int p3), .val (.int p4), .val (.int p5), .val (.int p6), .val (.int (p1 &&& (3 : Int32))), .val (.int (p2 &&& (3 : Int32))), .val (.int (own_ch p3)), .val (.int (own_ch p4)), .val (.int (own_ch p5)), .val (.int (0 : Int32)), .val (.int (own_jk p6)), .val (.ref b7), .unset, .unset, .unset] [(.int (p2 &&& (3 : Int32)))])) _
    refine XS.iconst X9.here hx rfl (hb hby at_100) ?_
    show Steps p.tables e below (T9.setTop (mkF m 101 #[.val (.int p1), .val (.int p2), .val (.int p3), .val (.int p4), .val (.int p5), .val (.int p6), .val (.int (p1 &&& (3 : Int32))), .val (.int (p2 &&& (3 : Int32))), .val (.int (own_ch p3)), .val (.int (own_ch p4)), .val (.int (own_ch p5)), .val (.int (0 : Int32)), .val (.int (own_jk p6)), .val (.ref b7), .unset, .unset, .unset] [(.int (1 : Int32)), (.int (p2 &&& (3 : Int32)))])) _
    refine XS.icmpYes X9.here hx rfl (pc0 := 101) (pc' := 112) rfl (hb hby at_101) rfl (flt hc101).2.2.2 (by decide) (by decide) ?_
    show Steps p.tables e below (T9.setTop (mkF m 112 #[.val (.int p1), .val (.int p2), .val (.int p3), .val (.int p4), .val (.int p5), .val (.int p6), .val (.int (p1 &&& (3 : Int32))), .val (.int (p2 &&& (3 : Int32))), .val (.int (own_ch p3)), .val (.int (own_ch p4)), .val (.int (own_ch p5)), .val (.int (0 : Int32)), .val (.int (own_jk p6)), .val (.ref b7), .unset, .unset, .unset] [])) _
    refine XS.iload X9.here hx rfl (hb hby at_112) rfl ?_
    show Steps p.tables e below (T9.setTop (mkF m 114 #[.val (.int p1), .val (.int p2), .val (.int p3), .val (.int p4), .val (.int p5), .val (.int p6), .val (.int (p1 &&& (3 : Int32))), .val (.int (p2 &&& (3 : Int32))), .val (.int (own_ch p3)), .val (.int (own_ch p4)), .val (.int (own_ch p5)), .val (.int (0 : Int32)), .val (.int (own_jk p6)), .val (.ref b7), .unset, .unset, .unset] [(.int (p2 &&& (3 : Int32)))])) _
    refine XS.iconst X9.here hx rfl (hb hby at_114) ?_
    show Steps p.tables e below (T9.setTop (mkF m 115 #[.val (.int p1), .val (.int p2), .val (.int p3), .val (.int p4), .val (.int p5), .val (.int p6), .val (.int (p1 &&& (3 : Int32))), .val (.int (p2 &&& (3 : Int32))), .val (.int (own_ch p3)), .val (.int (own_ch p4)), .val (.int (own_ch p5)), .val (.int (0 : Int32)), .val (.int (own_jk p6)), .val (.ref b7), .unset, .unset, .unset] [(.int (2 : Int32)), (.int (p2 &&& (3 : Int32)))])) _
    refine XS.icmpYes X9.here hx rfl (pc0 := 115) (pc' := 126) rfl (hb hby at_115) rfl (flt hc115).2.2.2 (by decide) (by decide) ?_
    show Steps p.tables e below (T9.setTop (mkF m 126 #[.val (.int p1), .val (.int p2), .val (.int p3), .val (.int p4), .val (.int p5), .val (.int p6), .val (.int (p1 &&& (3 : Int32))), .val (.int (p2 &&& (3 : Int32))), .val (.int (own_ch p3)), .val (.int (own_ch p4)), .val (.int (own_ch p5)), .val (.int (0 : Int32)), .val (.int (own_jk p6)), .val (.ref b7), .unset, .unset, .unset] [])) _
    refine XS.aload X9.here hx rfl (hb hby at_126) rfl rfl ?_
    show Steps p.tables e below (T9.setTop (mkF m 128 #[.val (.int p1), .val (.int p2), .val (.int p3), .val (.int p4), .val (.int p5), .val (.int p6), .val (.int (p1 &&& (3 : Int32))), .val (.int (p2 &&& (3 : Int32))), .val (.int (own_ch p3)), .val (.int (own_ch p4)), .val (.int (own_ch p5)), .val (.int (0 : Int32)), .val (.int (own_jk p6)), .val (.ref b7), .unset, .unset, .unset] [(.ref b7)])) _
    refine st10.trans ?_
    show Steps p.tables e below (T10.setTop (mkF m 131 #[.val (.int p1), .val (.int p2), .val (.int p3), .val (.int p4), .val (.int p5), .val (.int p6), .val (.int (p1 &&& (3 : Int32))), .val (.int (p2 &&& (3 : Int32))), .val (.int (own_ch p3)), .val (.int (own_ch p4)), .val (.int (own_ch p5)), .val (.int (0 : Int32)), .val (.int (own_jk p6)), .val (.ref b7), .unset, .unset, .unset] [(.ref (T9.heap.size))])) _
    refine XS.astore X10.here hx rfl (hb hby at_131) rfl rfl (l' := #[.val (.int p1), .val (.int p2), .val (.int p3), .val (.int p4), .val (.int p5), .val (.int p6), .val (.int (p1 &&& (3 : Int32))), .val (.int (p2 &&& (3 : Int32))), .val (.int (own_ch p3)), .val (.int (own_ch p4)), .val (.int (own_ch p5)), .val (.int (0 : Int32)), .val (.int (own_jk p6)), .val (.ref b7), .val (.ref (T9.heap.size)), .unset, .unset]) rfl ?_
    show Steps p.tables e below (T10.setTop (mkF m 133 #[.val (.int p1), .val (.int p2), .val (.int p3), .val (.int p4), .val (.int p5), .val (.int p6), .val (.int (p1 &&& (3 : Int32))), .val (.int (p2 &&& (3 : Int32))), .val (.int (own_ch p3)), .val (.int (own_ch p4)), .val (.int (own_ch p5)), .val (.int (0 : Int32)), .val (.int (own_jk p6)), .val (.ref b7), .val (.ref (T9.heap.size)), .unset, .unset] [])) _
    refine XS.aload X10.here hx rfl (hb hby at_133) rfl rfl ?_
    show Steps p.tables e below (T10.setTop (mkF m 135 #[.val (.int p1), .val (.int p2), .val (.int p3), .val (.int p4), .val (.int p5), .val (.int p6), .val (.int (p1 &&& (3 : Int32))), .val (.int (p2 &&& (3 : Int32))), .val (.int (own_ch p3)), .val (.int (own_ch p4)), .val (.int (own_ch p5)), .val (.int (0 : Int32)), .val (.int (own_jk p6)), .val (.ref b7), .val (.ref (T9.heap.size)), .unset, .unset] [(.ref (T9.heap.size))])) _
    refine X10.arraylength hx (by exact Arr1.1) (State.isArrayOf_alike hZ.alike Arr1.2.1) (g := (mkF m 135 #[.val (.int p1), .val (.int p2), .val (.int p3), .val (.int p4), .val (.int p5), .val (.int p6), .val (.int (p1 &&& (3 : Int32))), .val (.int (p2 &&& (3 : Int32))), .val (.int (own_ch p3)), .val (.int (own_ch p4)), .val (.int (own_ch p5)), .val (.int (0 : Int32)), .val (.int (own_jk p6)), .val (.ref b7), .val (.ref (T9.heap.size)), .unset, .unset] [(.ref (T9.heap.size))])) rfl rfl (hb hby at_135) _ ?_
    rw [len_of Sr1 Nr1]
    show Steps p.tables e below (T10.setTop (mkF m 136 #[.val (.int p1), .val (.int p2), .val (.int p3), .val (.int p4), .val (.int p5), .val (.int p6), .val (.int (p1 &&& (3 : Int32))), .val (.int (p2 &&& (3 : Int32))), .val (.int (own_ch p3)), .val (.int (own_ch p4)), .val (.int (own_ch p5)), .val (.int (0 : Int32)), .val (.int (own_jk p6)), .val (.ref b7), .val (.ref (T9.heap.size)), .unset, .unset] [(.int (Int32.ofNat ([] ++ [(own_by (own_ch p3))]).length))])) _
    refine XS.iload X10.here hx rfl (hb hby at_136) rfl ?_
    show Steps p.tables e below (T10.setTop (mkF m 138 #[.val (.int p1), .val (.int p2), .val (.int p3), .val (.int p4), .val (.int p5), .val (.int p6), .val (.int (p1 &&& (3 : Int32))), .val (.int (p2 &&& (3 : Int32))), .val (.int (own_ch p3)), .val (.int (own_ch p4)), .val (.int (own_ch p5)), .val (.int (0 : Int32)), .val (.int (own_jk p6)), .val (.ref b7), .val (.ref (T9.heap.size)), .unset, .unset] [(.int (p2 &&& (3 : Int32))), (.int (Int32.ofNat ([] ++ [(own_by (own_ch p3))]).length))])) _
    refine XS.icmpNo X10.here hx rfl (hb hby at_138) rfl (teq (by rw [hn]; first | rfl | decide : (Int32.ofNat ([] ++ [(own_by (own_ch p3))]).length) = (p2 &&& (3 : Int32)))).2 ?_
    show Steps p.tables e below (T10.setTop (mkF m 141 #[.val (.int p1), .val (.int p2), .val (.int p3), .val (.int p4), .val (.int p5), .val (.int p6), .val (.int (p1 &&& (3 : Int32))), .val (.int (p2 &&& (3 : Int32))), .val (.int (own_ch p3)), .val (.int (own_ch p4)), .val (.int (own_ch p5)), .val (.int (0 : Int32)), .val (.int (own_jk p6)), .val (.ref b7), .val (.ref (T9.heap.size)), .unset, .unset] [])) _
    refine XS.aload X10.here hx rfl (hb hby at_141) rfl rfl ?_
    show Steps p.tables e below (T10.setTop (mkF m 143 #[.val (.int p1), .val (.int p2), .val (.int p3), .val (.int p4), .val (.int p5), .val (.int p6), .val (.int (p1 &&& (3 : Int32))), .val (.int (p2 &&& (3 : Int32))), .val (.int (own_ch p3)), .val (.int (own_ch p4)), .val (.int (own_ch p5)), .val (.int (0 : Int32)), .val (.int (own_jk p6)), .val (.ref b7), .val (.ref (T9.heap.size)), .unset, .unset] [(.ref b7)])) _
    refine st11.trans ?_
    show Steps p.tables e below (T11.setTop (mkF m 146 #[.val (.int p1), .val (.int p2), .val (.int p3), .val (.int p4), .val (.int p5), .val (.int p6), .val (.int (p1 &&& (3 : Int32))), .val (.int (p2 &&& (3 : Int32))), .val (.int (own_ch p3)), .val (.int (own_ch p4)), .val (.int (own_ch p5)), .val (.int (0 : Int32)), .val (.int (own_jk p6)), .val (.ref b7), .val (.ref (T9.heap.size)), .unset, .unset] [(.int (Int32.ofNat ([] ++ [(own_by (own_ch p3))]).length))])) _
    refine XS.iload X11.here hx rfl (hb hby at_146) rfl ?_
    show Steps p.tables e below (T11.setTop (mkF m 148 #[.val (.int p1), .val (.int p2), .val (.int p3), .val (.int p4), .val (.int p5), .val (.int p6), .val (.int (p1 &&& (3 : Int32))), .val (.int (p2 &&& (3 : Int32))), .val (.int (own_ch p3)), .val (.int (own_ch p4)), .val (.int (own_ch p5)), .val (.int (0 : Int32)), .val (.int (own_jk p6)), .val (.ref b7), .val (.ref (T9.heap.size)), .unset, .unset] [(.int (p2 &&& (3 : Int32))), (.int (Int32.ofNat ([] ++ [(own_by (own_ch p3))]).length))])) _
    refine XS.icmpNo X11.here hx rfl (hb hby at_148) rfl (teq (by rw [hn]; first | rfl | decide : (Int32.ofNat ([] ++ [(own_by (own_ch p3))]).length) = (p2 &&& (3 : Int32)))).2 ?_
    show Steps p.tables e below (T11.setTop (mkF m 151 #[.val (.int p1), .val (.int p2), .val (.int p3), .val (.int p4), .val (.int p5), .val (.int p6), .val (.int (p1 &&& (3 : Int32))), .val (.int (p2 &&& (3 : Int32))), .val (.int (own_ch p3)), .val (.int (own_ch p4)), .val (.int (own_ch p5)), .val (.int (0 : Int32)), .val (.int (own_jk p6)), .val (.ref b7), .val (.ref (T9.heap.size)), .unset, .unset] [])) _
    refine XS.aload X11.here hx rfl (hb hby at_151) rfl rfl ?_
    show Steps p.tables e below (T11.setTop (mkF m 153 #[.val (.int p1), .val (.int p2), .val (.int p3), .val (.int p4), .val (.int p5), .val (.int p6), .val (.int (p1 &&& (3 : Int32))), .val (.int (p2 &&& (3 : Int32))), .val (.int (own_ch p3)), .val (.int (own_ch p4)), .val (.int (own_ch p5)), .val (.int (0 : Int32)), .val (.int (own_jk p6)), .val (.ref b7), .val (.ref (T9.heap.size)), .unset, .unset] [(.ref (T9.heap.size))])) _
    refine XS.iload X11.here hx rfl (hb hby at_153) rfl ?_
    show Steps p.tables e below (T11.setTop (mkF m 155 #[.val (.int p1), .val (.int p2), .val (.int p3), .val (.int p4), .val (.int p5), .val (.int p6), .val (.int (p1 &&& (3 : Int32))), .val (.int (p2 &&& (3 : Int32))), .val (.int (own_ch p3)), .val (.int (own_ch p4)), .val (.int (own_ch p5)), .val (.int (0 : Int32)), .val (.int (own_jk p6)), .val (.ref b7), .val (.ref (T9.heap.size)), .unset, .unset] [(.int (p2 &&& (3 : Int32))), (.ref (T9.heap.size))])) _
    refine XS.iload X11.here hx rfl (hb hby at_155) rfl ?_
    show Steps p.tables e below (T11.setTop (mkF m 157 #[.val (.int p1), .val (.int p2), .val (.int p3), .val (.int p4), .val (.int p5), .val (.int p6), .val (.int (p1 &&& (3 : Int32))), .val (.int (p2 &&& (3 : Int32))), .val (.int (own_ch p3)), .val (.int (own_ch p4)), .val (.int (own_ch p5)), .val (.int (0 : Int32)), .val (.int (own_jk p6)), .val (.ref b7), .val (.ref (T9.heap.size)), .unset, .unset] [(.int (own_ch p3)), (.int (p2 &&& (3 : Int32))), (.ref (T9.heap.size))])) _
    refine XS.iload X11.here hx rfl (hb hby at_157) rfl ?_
    show Steps p.tables e below (T11.setTop (mkF m 159 #[.val (.int p1), .val (.int p2), .val (.int p3), .val (.int p4), .val (.int p5), .val (.int p6), .val (.int (p1 &&& (3 : Int32))), .val (.int (p2 &&& (3 : Int32))), .val (.int (own_ch p3)), .val (.int (own_ch p4)), .val (.int (own_ch p5)), .val (.int (0 : Int32)), .val (.int (own_jk p6)), .val (.ref b7), .val (.ref (T9.heap.size)), .unset, .unset] [(.int (own_ch p4)), (.int (own_ch p3)), (.int (p2 &&& (3 : Int32))), (.ref (T9.heap.size))])) _
    refine XS.iload X11.here hx rfl (hb hby at_159) rfl ?_
    show Steps p.tables e below (T11.setTop (mkF m 161 #[.val (.int p1), .val (.int p2), .val (.int p3), .val (.int p4), .val (.int p5), .val (.int p6), .val (.int (p1 &&& (3 : Int32))), .val (.int (p2 &&& (3 : Int32))), .val (.int (own_ch p3)), .val (.int (own_ch p4)), .val (.int (own_ch p5)), .val (.int (0 : Int32)), .val (.int (own_jk p6)), .val (.ref b7), .val (.ref (T9.heap.size)), .unset, .unset] [(.int (own_ch p5)), (.int (own_ch p4)), (.int (own_ch p3)), (.int (p2 &&& (3 : Int32))), (.ref (T9.heap.size))])) _
    refine st12 _ ?_
    show Steps p.tables e below (T12.setTop (mkF m 164 #[.val (.int p1), .val (.int p2), .val (.int p3), .val (.int p4), .val (.int p5), .val (.int p6), .val (.int (p1 &&& (3 : Int32))), .val (.int (p2 &&& (3 : Int32))), .val (.int (own_ch p3)), .val (.int (own_ch p4)), .val (.int (own_ch p5)), .val (.int (0 : Int32)), .val (.int (own_jk p6)), .val (.ref b7), .val (.ref (T9.heap.size)), .unset, .unset] [(.int (1 : Int32))])) _
    refine XS.ifNo X12.here hx rfl (hb hby at_164) rfl ((if0 _ _).trans (feq (by decide : ¬ ((1 : Int32) = (0 : Int32)))).1) ?_
    show Steps p.tables e below (T12.setTop (mkF m 167 #[.val (.int p1), .val (.int p2), .val (.int p3), .val (.int p4), .val (.int p5), .val (.int p6), .val (.int (p1 &&& (3 : Int32))), .val (.int (p2 &&& (3 : Int32))), .val (.int (own_ch p3)), .val (.int (own_ch p4)), .val (.int (own_ch p5)), .val (.int (0 : Int32)), .val (.int (own_jk p6)), .val (.ref b7), .val (.ref (T9.heap.size)), .unset, .unset] [])) _
    refine XS.iconst X12.here hx rfl (hb hby at_167) ?_
    show Steps p.tables e below (T12.setTop (mkF m 168 #[.val (.int p1), .val (.int p2), .val (.int p3), .val (.int p4), .val (.int p5), .val (.int p6), .val (.int (p1 &&& (3 : Int32))), .val (.int (p2 &&& (3 : Int32))), .val (.int (own_ch p3)), .val (.int (own_ch p4)), .val (.int (own_ch p5)), .val (.int (0 : Int32)), .val (.int (own_jk p6)), .val (.ref b7), .val (.ref (T9.heap.size)), .unset, .unset] [(.int (1 : Int32))])) _
    refine XS.goto X12.here hx rfl (pc0 := 168) (pc' := 172) rfl (hb hby at_168) (by decide) (by decide) ?_
    show Steps p.tables e below (T12.setTop (mkF m 172 #[.val (.int p1), .val (.int p2), .val (.int p3), .val (.int p4), .val (.int p5), .val (.int p6), .val (.int (p1 &&& (3 : Int32))), .val (.int (p2 &&& (3 : Int32))), .val (.int (own_ch p3)), .val (.int (own_ch p4)), .val (.int (own_ch p5)), .val (.int (0 : Int32)), .val (.int (own_jk p6)), .val (.ref b7), .val (.ref (T9.heap.size)), .unset, .unset] [(.int (1 : Int32))])) _
    refine XS.istore X12.here hx rfl (hb hby at_172) rfl (l' := #[.val (.int p1), .val (.int p2), .val (.int p3), .val (.int p4), .val (.int p5), .val (.int p6), .val (.int (p1 &&& (3 : Int32))), .val (.int (p2 &&& (3 : Int32))), .val (.int (own_ch p3)), .val (.int (own_ch p4)), .val (.int (own_ch p5)), .val (.int (0 : Int32)), .val (.int (own_jk p6)), .val (.ref b7), .val (.ref (T9.heap.size)), .val (.int (1 : Int32)), .unset]) rfl ?_
    show Steps p.tables e below (T12.setTop (mkF m 174 #[.val (.int p1), .val (.int p2), .val (.int p3), .val (.int p4), .val (.int p5), .val (.int p6), .val (.int (p1 &&& (3 : Int32))), .val (.int (p2 &&& (3 : Int32))), .val (.int (own_ch p3)), .val (.int (own_ch p4)), .val (.int (own_ch p5)), .val (.int (0 : Int32)), .val (.int (own_jk p6)), .val (.ref b7), .val (.ref (T9.heap.size)), .val (.int (1 : Int32)), .unset] [])) _
    refine XS.iload X12.here hx rfl (hb hby at_174) rfl ?_
    show Steps p.tables e below (T12.setTop (mkF m 176 #[.val (.int p1), .val (.int p2), .val (.int p3), .val (.int p4), .val (.int p5), .val (.int p6), .val (.int (p1 &&& (3 : Int32))), .val (.int (p2 &&& (3 : Int32))), .val (.int (own_ch p3)), .val (.int (own_ch p4)), .val (.int (own_ch p5)), .val (.int (0 : Int32)), .val (.int (own_jk p6)), .val (.ref b7), .val (.ref (T9.heap.size)), .val (.int (1 : Int32)), .unset] [(.int (1 : Int32))])) _
    refine XS.ifYes X12.here hx rfl (pc0 := 176) (pc' := 181) rfl (hb hby at_176) rfl ((if0 _ _).trans (feq hc176).2) (by decide) (by decide) ?_
    show Steps p.tables e below (T12.setTop (mkF m 181 #[.val (.int p1), .val (.int p2), .val (.int p3), .val (.int p4), .val (.int p5), .val (.int p6), .val (.int (p1 &&& (3 : Int32))), .val (.int (p2 &&& (3 : Int32))), .val (.int (own_ch p3)), .val (.int (own_ch p4)), .val (.int (own_ch p5)), .val (.int (0 : Int32)), .val (.int (own_jk p6)), .val (.ref b7), .val (.ref (T9.heap.size)), .val (.int (1 : Int32)), .unset] [])) _
    refine XS.iload X12.here hx rfl (hb hby at_181) rfl ?_
    show Steps p.tables e below (T12.setTop (mkF m 183 #[.val (.int p1), .val (.int p2), .val (.int p3), .val (.int p4), .val (.int p5), .val (.int p6), .val (.int (p1 &&& (3 : Int32))), .val (.int (p2 &&& (3 : Int32))), .val (.int (own_ch p3)), .val (.int (own_ch p4)), .val (.int (own_ch p5)), .val (.int (0 : Int32)), .val (.int (own_jk p6)), .val (.ref b7), .val (.ref (T9.heap.size)), .val (.int (1 : Int32)), .unset] [(.int (p2 &&& (3 : Int32)))])) _
    refine XS.ifNo X12.here hx rfl (hb hby at_183) rfl ((if0 _ _).trans (tlt hc183).2.2.2) ?_
    show Steps p.tables e below (T12.setTop (mkF m 186 #[.val (.int p1), .val (.int p2), .val (.int p3), .val (.int p4), .val (.int p5), .val (.int p6), .val (.int (p1 &&& (3 : Int32))), .val (.int (p2 &&& (3 : Int32))), .val (.int (own_ch p3)), .val (.int (own_ch p4)), .val (.int (own_ch p5)), .val (.int (0 : Int32)), .val (.int (own_jk p6)), .val (.ref b7), .val (.ref (T9.heap.size)), .val (.int (1 : Int32)), .unset] [])) _
    refine XS.aload X12.here hx rfl (hb hby at_186) rfl rfl ?_
    show Steps p.tables e below (T12.setTop (mkF m 188 #[.val (.int p1), .val (.int p2), .val (.int p3), .val (.int p4), .val (.int p5), .val (.int p6), .val (.int (p1 &&& (3 : Int32))), .val (.int (p2 &&& (3 : Int32))), .val (.int (own_ch p3)), .val (.int (own_ch p4)), .val (.int (own_ch p5)), .val (.int (0 : Int32)), .val (.int (own_jk p6)), .val (.ref b7), .val (.ref (T9.heap.size)), .val (.int (1 : Int32)), .unset] [(.ref (T9.heap.size))])) _
    refine XS.iconst X12.here hx rfl (hb hby at_188) ?_
    show Steps p.tables e below (T12.setTop (mkF m 189 #[.val (.int p1), .val (.int p2), .val (.int p3), .val (.int p4), .val (.int p5), .val (.int p6), .val (.int (p1 &&& (3 : Int32))), .val (.int (p2 &&& (3 : Int32))), .val (.int (own_ch p3)), .val (.int (own_ch p4)), .val (.int (own_ch p5)), .val (.int (0 : Int32)), .val (.int (own_jk p6)), .val (.ref b7), .val (.ref (T9.heap.size)), .val (.int (1 : Int32)), .unset] [(.int (0 : Int32)), (.ref (T9.heap.size))])) _
    refine XS.aload X12.here hx rfl (hb hby at_189) rfl rfl ?_
    show Steps p.tables e below (T12.setTop (mkF m 191 #[.val (.int p1), .val (.int p2), .val (.int p3), .val (.int p4), .val (.int p5), .val (.int p6), .val (.int (p1 &&& (3 : Int32))), .val (.int (p2 &&& (3 : Int32))), .val (.int (own_ch p3)), .val (.int (own_ch p4)), .val (.int (own_ch p5)), .val (.int (0 : Int32)), .val (.int (own_jk p6)), .val (.ref b7), .val (.ref (T9.heap.size)), .val (.int (1 : Int32)), .unset] [(.ref (T9.heap.size)), (.int (0 : Int32)), (.ref (T9.heap.size))])) _
    refine XS.iconst X12.here hx rfl (hb hby at_191) ?_
    show Steps p.tables e below (T12.setTop (mkF m 192 #[.val (.int p1), .val (.int p2), .val (.int p3), .val (.int p4), .val (.int p5), .val (.int p6), .val (.int (p1 &&& (3 : Int32))), .val (.int (p2 &&& (3 : Int32))), .val (.int (own_ch p3)), .val (.int (own_ch p4)), .val (.int (own_ch p5)), .val (.int (0 : Int32)), .val (.int (own_jk p6)), .val (.ref b7), .val (.ref (T9.heap.size)), .val (.int (1 : Int32)), .unset] [(.int (0 : Int32)), (.ref (T9.heap.size)), (.int (0 : Int32)), (.ref (T9.heap.size))])) _
    refine X12.baloadBytes hx (j := (0 : Int32)) (v := (.int (own_by (own_ch p3)))) (by rw [hh12]; exact Arr1.1) (State.isArrayOf_alike hZ.alike Arr1.2.1) Arr1.2.2 hin192 hat192 (g := (mkF m 192 #[.val (.int p1), .val (.int p2), .val (.int p3), .val (.int p4), .val (.int p5), .val (.int p6), .val (.int (p1 &&& (3 : Int32))), .val (.int (p2 &&& (3 : Int32))), .val (.int (own_ch p3)), .val (.int (own_ch p4)), .val (.int (own_ch p5)), .val (.int (0 : Int32)), .val (.int (own_jk p6)), .val (.ref b7), .val (.ref (T9.heap.size)), .val (.int (1 : Int32)), .unset] [(.int (0 : Int32)), (.ref (T9.heap.size)), (.int (0 : Int32)), (.ref (T9.heap.size))])) rfl rfl (hb hby at_192) _ ?_
    show Steps p.tables e below (T12.setTop (mkF m 193 #[.val (.int p1), .val (.int p2), .val (.int p3), .val (.int p4), .val (.int p5), .val (.int p6), .val (.int (p1 &&& (3 : Int32))), .val (.int (p2 &&& (3 : Int32))), .val (.int (own_ch p3)), .val (.int (own_ch p4)), .val (.int (own_ch p5)), .val (.int (0 : Int32)), .val (.int (own_jk p6)), .val (.ref b7), .val (.ref (T9.heap.size)), .val (.int (1 : Int32)), .unset] [(.int (own_by (own_ch p3))), (.int (0 : Int32)), (.ref (T9.heap.size))])) _
    refine XS.bipush X12.here hx rfl (hb hby at_193) ?_
    show Steps p.tables e below (T12.setTop (mkF m 195 #[.val (.int p1), .val (.int p2), .val (.int p3), .val (.int p4), .val (.int p5), .val (.int p6), .val (.int (p1 &&& (3 : Int32))), .val (.int (p2 &&& (3 : Int32))), .val (.int (own_ch p3)), .val (.int (own_ch p4)), .val (.int (own_ch p5)), .val (.int (0 : Int32)), .val (.int (own_jk p6)), .val (.ref b7), .val (.ref (T9.heap.size)), .val (.int (1 : Int32)), .unset] [(.int (64 : Int32)), (.int (own_by (own_ch p3))), (.int (0 : Int32)), (.ref (T9.heap.size))])) _
    refine XS.ixor X12.here hx rfl (hb hby at_195) rfl ?_
    show Steps p.tables e below (T12.setTop (mkF m 196 #[.val (.int p1), .val (.int p2), .val (.int p3), .val (.int p4), .val (.int p5), .val (.int p6), .val (.int (p1 &&& (3 : Int32))), .val (.int (p2 &&& (3 : Int32))), .val (.int (own_ch p3)), .val (.int (own_ch p4)), .val (.int (own_ch p5)), .val (.int (0 : Int32)), .val (.int (own_jk p6)), .val (.ref b7), .val (.ref (T9.heap.size)), .val (.int (1 : Int32)), .unset] [(.int ((own_by (own_ch p3)) ^^^ (64 : Int32))), (.int (0 : Int32)), (.ref (T9.heap.size))])) _
    refine XS.i2b X12.here hx rfl (hb hby at_196) rfl ?_
    show Steps p.tables e below (T12.setTop (mkF m 197 #[.val (.int p1), .val (.int p2), .val (.int p3), .val (.int p4), .val (.int p5), .val (.int p6), .val (.int (p1 &&& (3 : Int32))), .val (.int (p2 &&& (3 : Int32))), .val (.int (own_ch p3)), .val (.int (own_ch p4)), .val (.int (own_ch p5)), .val (.int (0 : Int32)), .val (.int (own_jk p6)), .val (.ref b7), .val (.ref (T9.heap.size)), .val (.int (1 : Int32)), .unset] [(.int (((own_by (own_ch p3)) ^^^ (64 : Int32)).toInt8.toInt32)), (.int (0 : Int32)), (.ref (T9.heap.size))])) _
    refine st14 _ ?_
    show Steps p.tables e below (T14.setTop (mkF m 198 #[.val (.int p1), .val (.int p2), .val (.int p3), .val (.int p4), .val (.int p5), .val (.int p6), .val (.int (p1 &&& (3 : Int32))), .val (.int (p2 &&& (3 : Int32))), .val (.int (own_ch p3)), .val (.int (own_ch p4)), .val (.int (own_ch p5)), .val (.int (0 : Int32)), .val (.int (own_jk p6)), .val (.ref b7), .val (.ref (T9.heap.size)), .val (.int (1 : Int32)), .unset] [])) _
    refine XS.aload X14.here hx rfl (hb hby at_198) rfl rfl ?_
    show Steps p.tables e below (T14.setTop (mkF m 200 #[.val (.int p1), .val (.int p2), .val (.int p3), .val (.int p4), .val (.int p5), .val (.int p6), .val (.int (p1 &&& (3 : Int32))), .val (.int (p2 &&& (3 : Int32))), .val (.int (own_ch p3)), .val (.int (own_ch p4)), .val (.int (own_ch p5)), .val (.int (0 : Int32)), .val (.int (own_jk p6)), .val (.ref b7), .val (.ref (T9.heap.size)), .val (.int (1 : Int32)), .unset] [(.ref b7)])) _
    refine st15.trans ?_
    show Steps p.tables e below (T15.setTop (mkF m 203 #[.val (.int p1), .val (.int p2), .val (.int p3), .val (.int p4), .val (.int p5), .val (.int p6), .val (.int (p1 &&& (3 : Int32))), .val (.int (p2 &&& (3 : Int32))), .val (.int (own_ch p3)), .val (.int (own_ch p4)), .val (.int (own_ch p5)), .val (.int (0 : Int32)), .val (.int (own_jk p6)), .val (.ref b7), .val (.ref (T9.heap.size)), .val (.int (1 : Int32)), .unset] [(.ref (h14.size))])) _
    refine XS.astore X15.here hx rfl (hb hby at_203) rfl rfl (l' := #[.val (.int p1), .val (.int p2), .val (.int p3), .val (.int p4), .val (.int p5), .val (.int p6), .val (.int (p1 &&& (3 : Int32))), .val (.int (p2 &&& (3 : Int32))), .val (.int (own_ch p3)), .val (.int (own_ch p4)), .val (.int (own_ch p5)), .val (.int (0 : Int32)), .val (.int (own_jk p6)), .val (.ref b7), .val (.ref (T9.heap.size)), .val (.int (1 : Int32)), .val (.ref (h14.size))]) rfl ?_
    show Steps p.tables e below (T15.setTop (mkF m 205 #[.val (.int p1), .val (.int p2), .val (.int p3), .val (.int p4), .val (.int p5), .val (.int p6), .val (.int (p1 &&& (3 : Int32))), .val (.int (p2 &&& (3 : Int32))), .val (.int (own_ch p3)), .val (.int (own_ch p4)), .val (.int (own_ch p5)), .val (.int (0 : Int32)), .val (.int (own_jk p6)), .val (.ref b7), .val (.ref (T9.heap.size)), .val (.int (1 : Int32)), .val (.ref (h14.size))] [])) _
    refine XS.aload X15.here hx rfl (hb hby at_205) rfl rfl ?_
    show Steps p.tables e below (T15.setTop (mkF m 207 #[.val (.int p1), .val (.int p2), .val (.int p3), .val (.int p4), .val (.int p5), .val (.int p6), .val (.int (p1 &&& (3 : Int32))), .val (.int (p2 &&& (3 : Int32))), .val (.int (own_ch p3)), .val (.int (own_ch p4)), .val (.int (own_ch p5)), .val (.int (0 : Int32)), .val (.int (own_jk p6)), .val (.ref b7), .val (.ref (T9.heap.size)), .val (.int (1 : Int32)), .val (.ref (h14.size))] [(.ref (h14.size))])) _
    refine X15.arraylength hx (by exact Arr2.1) (State.isArrayOf_alike hZ.alike Arr2.2.1) (g := (mkF m 207 #[.val (.int p1), .val (.int p2), .val (.int p3), .val (.int p4), .val (.int p5), .val (.int p6), .val (.int (p1 &&& (3 : Int32))), .val (.int (p2 &&& (3 : Int32))), .val (.int (own_ch p3)), .val (.int (own_ch p4)), .val (.int (own_ch p5)), .val (.int (0 : Int32)), .val (.int (own_jk p6)), .val (.ref b7), .val (.ref (T9.heap.size)), .val (.int (1 : Int32)), .val (.ref (h14.size))] [(.ref (h14.size))])) rfl rfl (hb hby at_207) _ ?_
    rw [len_of Sr2 Nr2]
    show Steps p.tables e below (T15.setTop (mkF m 208 #[.val (.int p1), .val (.int p2), .val (.int p3), .val (.int p4), .val (.int p5), .val (.int p6), .val (.int (p1 &&& (3 : Int32))), .val (.int (p2 &&& (3 : Int32))), .val (.int (own_ch p3)), .val (.int (own_ch p4)), .val (.int (own_ch p5)), .val (.int (0 : Int32)), .val (.int (own_jk p6)), .val (.ref b7), .val (.ref (T9.heap.size)), .val (.int (1 : Int32)), .val (.ref (h14.size))] [(.int (Int32.ofNat ([] ++ [(own_by (own_ch p3))]).length))])) _
    refine XS.iload X15.here hx rfl (hb hby at_208) rfl ?_
    show Steps p.tables e below (T15.setTop (mkF m 210 #[.val (.int p1), .val (.int p2), .val (.int p3), .val (.int p4), .val (.int p5), .val (.int p6), .val (.int (p1 &&& (3 : Int32))), .val (.int (p2 &&& (3 : Int32))), .val (.int (own_ch p3)), .val (.int (own_ch p4)), .val (.int (own_ch p5)), .val (.int (0 : Int32)), .val (.int (own_jk p6)), .val (.ref b7), .val (.ref (T9.heap.size)), .val (.int (1 : Int32)), .val (.ref (h14.size))] [(.int (p2 &&& (3 : Int32))), (.int (Int32.ofNat ([] ++ [(own_by (own_ch p3))]).length))])) _
    refine XS.icmpNo X15.here hx rfl (hb hby at_210) rfl (teq (by rw [hn]; first | rfl | decide : (Int32.ofNat ([] ++ [(own_by (own_ch p3))]).length) = (p2 &&& (3 : Int32)))).2 ?_
    show Steps p.tables e below (T15.setTop (mkF m 213 #[.val (.int p1), .val (.int p2), .val (.int p3), .val (.int p4), .val (.int p5), .val (.int p6), .val (.int (p1 &&& (3 : Int32))), .val (.int (p2 &&& (3 : Int32))), .val (.int (own_ch p3)), .val (.int (own_ch p4)), .val (.int (own_ch p5)), .val (.int (0 : Int32)), .val (.int (own_jk p6)), .val (.ref b7), .val (.ref (T9.heap.size)), .val (.int (1 : Int32)), .val (.ref (h14.size))] [])) _
    refine XS.aload X15.here hx rfl (hb hby at_213) rfl rfl ?_
    show Steps p.tables e below (T15.setTop (mkF m 215 #[.val (.int p1), .val (.int p2), .val (.int p3), .val (.int p4), .val (.int p5), .val (.int p6), .val (.int (p1 &&& (3 : Int32))), .val (.int (p2 &&& (3 : Int32))), .val (.int (own_ch p3)), .val (.int (own_ch p4)), .val (.int (own_ch p5)), .val (.int (0 : Int32)), .val (.int (own_jk p6)), .val (.ref b7), .val (.ref (T9.heap.size)), .val (.int (1 : Int32)), .val (.ref (h14.size))] [(.ref (h14.size))])) _
    refine XS.iload X15.here hx rfl (hb hby at_215) rfl ?_
    show Steps p.tables e below (T15.setTop (mkF m 217 #[.val (.int p1), .val (.int p2), .val (.int p3), .val (.int p4), .val (.int p5), .val (.int p6), .val (.int (p1 &&& (3 : Int32))), .val (.int (p2 &&& (3 : Int32))), .val (.int (own_ch p3)), .val (.int (own_ch p4)), .val (.int (own_ch p5)), .val (.int (0 : Int32)), .val (.int (own_jk p6)), .val (.ref b7), .val (.ref (T9.heap.size)), .val (.int (1 : Int32)), .val (.ref (h14.size))] [(.int (p2 &&& (3 : Int32))), (.ref (h14.size))])) _
    refine XS.iload X15.here hx rfl (hb hby at_217) rfl ?_
    show Steps p.tables e below (T15.setTop (mkF m 219 #[.val (.int p1), .val (.int p2), .val (.int p3), .val (.int p4), .val (.int p5), .val (.int p6), .val (.int (p1 &&& (3 : Int32))), .val (.int (p2 &&& (3 : Int32))), .val (.int (own_ch p3)), .val (.int (own_ch p4)), .val (.int (own_ch p5)), .val (.int (0 : Int32)), .val (.int (own_jk p6)), .val (.ref b7), .val (.ref (T9.heap.size)), .val (.int (1 : Int32)), .val (.ref (h14.size))] [(.int (own_ch p3)), (.int (p2 &&& (3 : Int32))), (.ref (h14.size))])) _
    refine XS.iload X15.here hx rfl (hb hby at_219) rfl ?_
    show Steps p.tables e below (T15.setTop (mkF m 221 #[.val (.int p1), .val (.int p2), .val (.int p3), .val (.int p4), .val (.int p5), .val (.int p6), .val (.int (p1 &&& (3 : Int32))), .val (.int (p2 &&& (3 : Int32))), .val (.int (own_ch p3)), .val (.int (own_ch p4)), .val (.int (own_ch p5)), .val (.int (0 : Int32)), .val (.int (own_jk p6)), .val (.ref b7), .val (.ref (T9.heap.size)), .val (.int (1 : Int32)), .val (.ref (h14.size))] [(.int (own_ch p4)), (.int (own_ch p3)), (.int (p2 &&& (3 : Int32))), (.ref (h14.size))])) _
    refine XS.iload X15.here hx rfl (hb hby at_221) rfl ?_
    show Steps p.tables e below (T15.setTop (mkF m 223 #[.val (.int p1), .val (.int p2), .val (.int p3), .val (.int p4), .val (.int p5), .val (.int p6), .val (.int (p1 &&& (3 : Int32))), .val (.int (p2 &&& (3 : Int32))), .val (.int (own_ch p3)), .val (.int (own_ch p4)), .val (.int (own_ch p5)), .val (.int (0 : Int32)), .val (.int (own_jk p6)), .val (.ref b7), .val (.ref (T9.heap.size)), .val (.int (1 : Int32)), .val (.ref (h14.size))] [(.int (own_ch p5)), (.int (own_ch p4)), (.int (own_ch p3)), (.int (p2 &&& (3 : Int32))), (.ref (h14.size))])) _
    refine st16 _ ?_
    show Steps p.tables e below (T16.setTop (mkF m 226 #[.val (.int p1), .val (.int p2), .val (.int p3), .val (.int p4), .val (.int p5), .val (.int p6), .val (.int (p1 &&& (3 : Int32))), .val (.int (p2 &&& (3 : Int32))), .val (.int (own_ch p3)), .val (.int (own_ch p4)), .val (.int (own_ch p5)), .val (.int (0 : Int32)), .val (.int (own_jk p6)), .val (.ref b7), .val (.ref (T9.heap.size)), .val (.int (1 : Int32)), .val (.ref (h14.size))] [(.int (1 : Int32))])) _
    refine XS.ifNo X16.here hx rfl (hb hby at_226) rfl ((if0 _ _).trans (feq (by decide : ¬ ((1 : Int32) = (0 : Int32)))).1) ?_
    show Steps p.tables e below (T16.setTop (mkF m 229 #[.val (.int p1), .val (.int p2), .val (.int p3), .val (.int p4), .val (.int p5), .val (.int p6), .val (.int (p1 &&& (3 : Int32))), .val (.int (p2 &&& (3 : Int32))), .val (.int (own_ch p3)), .val (.int (own_ch p4)), .val (.int (own_ch p5)), .val (.int (0 : Int32)), .val (.int (own_jk p6)), .val (.ref b7), .val (.ref (T9.heap.size)), .val (.int (1 : Int32)), .val (.ref (h14.size))] [])) _
    refine XS.iconst X16.here hx rfl (hb hby at_229) ?_
    show Steps p.tables e below (T16.setTop (mkF m 230 #[.val (.int p1), .val (.int p2), .val (.int p3), .val (.int p4), .val (.int p5), .val (.int p6), .val (.int (p1 &&& (3 : Int32))), .val (.int (p2 &&& (3 : Int32))), .val (.int (own_ch p3)), .val (.int (own_ch p4)), .val (.int (own_ch p5)), .val (.int (0 : Int32)), .val (.int (own_jk p6)), .val (.ref b7), .val (.ref (T9.heap.size)), .val (.int (1 : Int32)), .val (.ref (h14.size))] [(.int (1 : Int32))])) _
    refine XS.goto X16.here hx rfl (pc0 := 230) (pc' := 234) rfl (hb hby at_230) (by decide) (by decide) ?_
    show Steps p.tables e below (T16.setTop (mkF m 234 #[.val (.int p1), .val (.int p2), .val (.int p3), .val (.int p4), .val (.int p5), .val (.int p6), .val (.int (p1 &&& (3 : Int32))), .val (.int (p2 &&& (3 : Int32))), .val (.int (own_ch p3)), .val (.int (own_ch p4)), .val (.int (own_ch p5)), .val (.int (0 : Int32)), .val (.int (own_jk p6)), .val (.ref b7), .val (.ref (T9.heap.size)), .val (.int (1 : Int32)), .val (.ref (h14.size))] [(.int (1 : Int32))])) _
    exact retN X16 hx (t := .boolean) Bd.returns (by simp) (hb hby at_234) hr
  · show Q0 h0 n0 _ T16.heap _
    exact ⟨rfl, N16⟩
set_option maxRecDepth 65536 in
set_option maxHeartbeats 40000000 in
theorem rm0_c0n2 (l : Launch) (Z : State) (a0 : Array Value) (hw : ∀ d ∈ tables_1, d.before a0 Z = true) (ws : List Jvm.Cond) (p1 : Int32) (p2 : Int32) (p3 : Int32) (p4 : Int32) (p5 : Int32) (p6 : Int32) (h0 : Heap) (n0 : Nat) (Z0 : n0 ≤ h0.size) (cap : Nat) (hcap : (p1 &&& (3 : Int32)) = Int32.ofNat cap) (hcap3 : cap ≤ 3) (hn : (p2 &&& (3 : Int32)) = (2 : Int32)) (hc36 : (p6 &&& (1 : Int32)) = (0 : Int32)) :
    MetFree l x (head1 (Jvm.Cond.code x code maxLocals ret :: ws) room_1) (fun a U => a = #[(.int p1), (.int p2), (.int p3), (.int p4), (.int p5), (.int p6)] ∧ Z.Warmed39 U.vm ∧ U.heap = h0) (fun _ _ _ _ _ => True) (fun _ U o U' => ∃ v L, o = .returned v ∧ Q0 h0 n0 v U'.heap L ∧ FrameEnd U o U' L room_1.cells room_1.slots) := by
  have hc87 : (0 : Int32) < (p2 &&& (3 : Int32)) := by rw [hn]; decide
  have hc101 : (1 : Int32) < (p2 &&& (3 : Int32)) := by rw [hn]; decide
  have hc115 : ¬ ((2 : Int32) < (p2 &&& (3 : Int32))) := by rw [hn]; decide
  have hc183 : (0 : Int32) < (p2 &&& (3 : Int32)) := by rw [hn]; decide
  have hc176 : ¬ ((1 : Int32) = (0 : Int32)) := by decide
  refine MetFree.of_bodySF (plainFor_of_name pn_0) hisR ?_
  intro p e s m args below meth c s₁ Bd hml0 hP hK
  obtain ⟨rfl, hZ, hh⟩ := hP
  have hx := Bd.exec
  have hby := Bd.bytes
  have hml : c.maxLocals = 17 := hml0
  have hown : s.vm.findClass "com/example/acompte/acompte/Utf8BuilderToByteArrayPinLaw" = some m.cls := findClass_of_methodNamed Bd.named
  have hnm := (name_of_methodNamed Bd.named Bd.method).1
  have X0 : Stand p l e room_1 s m #[(.int p1), (.int p2), (.int p3), (.int p4), (.int p5), (.int p6)] below meth c s₁ [] 0 0 := Stand.of_body Bd
  have e0 : s₁.heap = h0 := by rw [← hh, Bd.state]; rfl
  have N0 := Fr.nil n0
  have pre0 : ∀ t, Steps p.tables e below (s₁.setTop (mkF m 0 #[.val (.int p1), .val (.int p2), .val (.int p3), .val (.int p4), .val (.int p5), .val (.int p6), .unset, .unset, .unset, .unset, .unset, .unset, .unset, .unset, .unset, .unset, .unset] [])) t → Steps p.tables e below (s₁.setTop (entryFrame m #[(.int p1), (.int p2), (.int p3), (.int p4), (.int p5), (.int p6)] maxLocals)) t := fun t k => castTop (ef_0 m p1 p2 p3 p4 p5 p6) k
  -- 3. LAWS
  obtain ⟨T7, h7, X7, e7, E7, A7, D7, -, st7⟩ := newO X0 hx hZ hown (hw _ (List.mem_of_getElem? (i := 0) rfl)) (hw _ (List.mem_of_getElem? (i := 1) rfl)) (hw _ (List.mem_of_getElem? (i := 2) rfl)) e0 (g := (mkF m 56 #[.val (.int p1), .val (.int p2), .val (.int p3), .val (.int p4), .val (.int p5), .val (.int p6), .val (.int (p1 &&& (3 : Int32))), .val (.int (p2 &&& (3 : Int32))), .val (.int (own_ch p3)), .val (.int (own_ch p4)), .val (.int (own_ch p5)), .val (.int (0 : Int32)), .val (.int (own_jk p6)), .unset, .unset, .unset, .unset] [])) rfl (hb hby at_56) (by decide) (by decide)
  obtain ⟨b7, g7⟩ : ∃ z, z = h0.size := ⟨_, rfl⟩      -- the fresh object's address
  rw [← g7] at A7 D7 st7      -- A7 : Exa Z h7 b7 "com/example/acompte/acompte/Utf8Builder"; E7 : Ext h0 h7 (carries every older fact: .ext E7)
  have F_bytes_b7 : Fld Z h7 b7 "com/example/acompte/acompte/Utf8Builder" "bytes" "[B" .null := D7 (Or.inl (hw _ (List.mem_of_getElem? (i := 11) rfl))) (ty := (.array .byte)) (by decide)
  have F_length_b7 : Fld Z h7 b7 "com/example/acompte/acompte/Utf8Builder" "length" "I" (.int (0 : Int32)) := D7 (Or.inl (hw _ (List.mem_of_getElem? (i := 22) rfl))) (ty := .int) (by decide)
  have E_b7 := A7
  have g_b7 : n0 ≤ b7 := Nat.le_trans Z0 (Nat.le_of_eq g7.symm)
  obtain ⟨_, _, ⟨T8, L8, k8, n8⟩, -, X8, ⟨Lc8, hQ8, l8, y8, z8⟩, st8⟩ := X7.specialBack hx (y := (⟨"com/example/acompte/acompte/Utf8Builder", "<init>", "(I)V"⟩ : MethodName)) rfl hown (mvT hZ (hw _ (List.mem_of_getElem? (i := 3) rfl))) (mvT hZ (hw _ (List.mem_of_getElem? (i := 4) rfl))) (mvT hZ (hw _ (List.mem_of_getElem? (i := 5) rfl))) (by decide) (backOf (W := 1) (rm1_i l Z a0 hw [] b7 (p1 &&& (3 : Int32)) .null cap h7 n0 (Nat.le_trans Z0 E7.1) E_b7 F_bytes_b7 F_length_b7 g_b7 hcap hcap3) hZ (hw _ (List.mem_of_getElem? (i := 5) rfl)) (hw _ (List.mem_of_getElem? (i := 2) rfl)) (by decide) (by decide)) (g := (mkF m 62 #[.val (.int p1), .val (.int p2), .val (.int p3), .val (.int p4), .val (.int p5), .val (.int p6), .val (.int (p1 &&& (3 : Int32))), .val (.int (p2 &&& (3 : Int32))), .val (.int (own_ch p3)), .val (.int (own_ch p4)), .val (.int (own_ch p5)), .val (.int (0 : Int32)), .val (.int (own_jk p6)), .unset, .unset, .unset, .unset] [(.int (p1 &&& (3 : Int32))), (.ref b7), (.ref b7)])) rfl (by rw [hml]; rfl) (Steps.refl _) (a := b7) (argsL := [(.int (p1 &&& (3 : Int32)))]) (rest := [(.ref b7)]) (lenOf pdw_4 rfl) rfl (by show 2 * 0 + _ ≤ _; exact Nat.le_of_eq rfl) (hb hby at_62) (fun _ _ => ⟨rfl, e7, (by decide : 1 + 1 ≤ _), (by decide : 2 + 8 ≤ _)⟩)
  dsimp only [Pt.U, Pt.locs, Pt.cells, Pt.slots] at X8 l8 y8 z8 st8 hQ8
  subst l8 y8 z8
  obtain ⟨rfl, N8q, zh, BB⟩ := hQ8
  have ZB : n0 ≤ T8.heap.size := Nat.le_trans (Nat.le_trans Z0 E7.1) zh
  have EB := BB.exa
  have N8 := Fr.app N0 N8q
  obtain ⟨cq9, kq9, q9a, q9b, q9c⟩ := isOf hZ rfl EB
  obtain ⟨_, _, ⟨T9, L9, k9, n9⟩, -, X9, ⟨Lc9, hQ9, l9, y9, z9⟩, st9⟩ := X8.virtualBack hx (y := (⟨"com/example/acompte/acompte/Utf8Builder", "append", "(C)Lcom/example/acompte/acompte/Utf8Builder;"⟩ : MethodName)) (z := (⟨"com/example/acompte/acompte/Utf8Builder", "append", "(C)Lcom/example/acompte/acompte/Utf8Builder;"⟩ : MethodName)) hown (mvT hZ (hw _ (List.mem_of_getElem? (i := 12) rfl))) (mvT hZ (hw _ (List.mem_of_getElem? (i := 13) rfl))) (notFace_of_selects (args := #[]) (mvT hZ (hw _ (List.mem_of_getElem? (i := 15) rfl)))) (mvT hZ (hw _ (List.mem_of_getElem? (i := 15) rfl))) (mvT hZ (hw _ (List.mem_of_getElem? (i := 14) rfl))) (by decide) (backOf (W := 0) (rm3_a l Z a0 hw [] b7 (own_ch p3) cap [] T8.heap n0 ZB BB (by first | decide | simp)) hZ (hw _ (List.mem_of_getElem? (i := 16) rfl)) (hw _ (List.mem_of_getElem? (i := 2) rfl)) (by decide) (by decide)) q9a q9c (g := (mkF m 94 #[.val (.int p1), .val (.int p2), .val (.int p3), .val (.int p4), .val (.int p5), .val (.int p6), .val (.int (p1 &&& (3 : Int32))), .val (.int (p2 &&& (3 : Int32))), .val (.int (own_ch p3)), .val (.int (own_ch p4)), .val (.int (own_ch p5)), .val (.int (0 : Int32)), .val (.int (own_jk p6)), .val (.ref b7), .unset, .unset, .unset] [(.int (own_ch p3)), (.ref b7)])) rfl (by rw [hml]; rfl) (Steps.refl _) (argsL := [(.int (own_ch p3))]) (rest := []) (lenOf pdw_8 rfl) rfl (by show 2 * 0 + _ ≤ _; exact Nat.le_of_eq rfl) (hb hby at_94) (fun _ _ => ⟨rfl, rfl, (by decide : 2 + 1 ≤ _), (by decide : 10 + 8 ≤ _)⟩)
  dsimp only [Pt.U, Pt.locs, Pt.cells, Pt.slots] at X9 l9 y9 z9 st9 hQ9
  subst l9 y9 z9
  obtain ⟨rfl, N9q, zh, c9, BB⟩ := hQ9
  have ZB : n0 ≤ T9.heap.size := Nat.le_trans ZB zh
  have EB := BB.exa
  have N9 := Fr.app N8 N9q
  obtain ⟨cq10, kq10, q10a, q10b, q10c⟩ := isOf hZ rfl EB
  obtain ⟨_, _, ⟨T10, L10, k10, n10⟩, -, X10, ⟨Lc10, hQ10, l10, y10, z10⟩, st10⟩ := X9.virtualBack hx (y := (⟨"com/example/acompte/acompte/Utf8Builder", "append", "(C)Lcom/example/acompte/acompte/Utf8Builder;"⟩ : MethodName)) (z := (⟨"com/example/acompte/acompte/Utf8Builder", "append", "(C)Lcom/example/acompte/acompte/Utf8Builder;"⟩ : MethodName)) hown (mvT hZ (hw _ (List.mem_of_getElem? (i := 12) rfl))) (mvT hZ (hw _ (List.mem_of_getElem? (i := 13) rfl))) (notFace_of_selects (args := #[]) (mvT hZ (hw _ (List.mem_of_getElem? (i := 15) rfl)))) (mvT hZ (hw _ (List.mem_of_getElem? (i := 15) rfl))) (mvT hZ (hw _ (List.mem_of_getElem? (i := 14) rfl))) (by decide) (backOf (W := 0) (rm3_a l Z a0 hw [] b7 (own_ch p4) c9 ([] ++ [(own_by (own_ch p3))]) T9.heap n0 ZB BB (by first | decide | simp)) hZ (hw _ (List.mem_of_getElem? (i := 16) rfl)) (hw _ (List.mem_of_getElem? (i := 2) rfl)) (by decide) (by decide)) q10a q10c (g := (mkF m 108 #[.val (.int p1), .val (.int p2), .val (.int p3), .val (.int p4), .val (.int p5), .val (.int p6), .val (.int (p1 &&& (3 : Int32))), .val (.int (p2 &&& (3 : Int32))), .val (.int (own_ch p3)), .val (.int (own_ch p4)), .val (.int (own_ch p5)), .val (.int (0 : Int32)), .val (.int (own_jk p6)), .val (.ref b7), .unset, .unset, .unset] [(.int (own_ch p4)), (.ref b7)])) rfl (by rw [hml]; rfl) (Steps.refl _) (argsL := [(.int (own_ch p4))]) (rest := []) (lenOf pdw_8 rfl) rfl (by show 2 * 0 + _ ≤ _; exact Nat.le_of_eq rfl) (hb hby at_108) (fun _ _ => ⟨rfl, rfl, (by decide : 3 + 1 ≤ _), (by decide : 18 + 8 ≤ _)⟩)
  dsimp only [Pt.U, Pt.locs, Pt.cells, Pt.slots] at X10 l10 y10 z10 st10 hQ10
  subst l10 y10 z10
  obtain ⟨rfl, N10q, zh, c10, BB⟩ := hQ10
  have ZB : n0 ≤ T10.heap.size := Nat.le_trans ZB zh
  have EB := BB.exa
  have N10 := Fr.app N9 N10q
  obtain ⟨cq11, kq11, q11a, q11b, q11c⟩ := isOf hZ rfl EB
  obtain ⟨_, _, ⟨T11, L11, k11, n11⟩, -, X11, ⟨Lc11, hQ11, l11, y11, z11⟩, st11⟩ := X10.virtualBack hx (y := (⟨"com/example/acompte/acompte/Utf8Builder", "toByteArray", "()[B"⟩ : MethodName)) (z := (⟨"com/example/acompte/acompte/Utf8Builder", "toByteArray", "()[B"⟩ : MethodName)) hown (mvT hZ (hw _ (List.mem_of_getElem? (i := 43) rfl))) (mvT hZ (hw _ (List.mem_of_getElem? (i := 44) rfl))) (notFace_of_selects (args := #[]) (mvT hZ (hw _ (List.mem_of_getElem? (i := 46) rfl)))) (mvT hZ (hw _ (List.mem_of_getElem? (i := 46) rfl))) (mvT hZ (hw _ (List.mem_of_getElem? (i := 45) rfl))) (by decide) (backOf (W := 0) (rm9_t l Z a0 hw [] b7 c10 (([] ++ [(own_by (own_ch p3))]) ++ [(own_by (own_ch p4))]) T10.heap n0 ZB BB) hZ (hw _ (List.mem_of_getElem? (i := 47) rfl)) (hw _ (List.mem_of_getElem? (i := 2) rfl)) (by decide) (by decide)) q11a q11c (g := (mkF m 128 #[.val (.int p1), .val (.int p2), .val (.int p3), .val (.int p4), .val (.int p5), .val (.int p6), .val (.int (p1 &&& (3 : Int32))), .val (.int (p2 &&& (3 : Int32))), .val (.int (own_ch p3)), .val (.int (own_ch p4)), .val (.int (own_ch p5)), .val (.int (0 : Int32)), .val (.int (own_jk p6)), .val (.ref b7), .unset, .unset, .unset] [(.ref b7)])) rfl (by rw [hml]; rfl) (Steps.refl _) (argsL := []) (rest := []) (lenOf pdw_5 rfl) rfl (by show 2 * 0 + _ ≤ _; exact Nat.le_of_eq rfl) (hb hby at_128) (fun _ _ => ⟨rfl, rfl, (by decide : 4 + 1 ≤ _), (by decide : 26 + 8 ≤ _)⟩)
  dsimp only [Pt.U, Pt.locs, Pt.cells, Pt.slots] at X11 l11 y11 z11 st11 hQ11
  subst l11 y11 z11
  obtain ⟨rfl, N11q, K11, k11', us11, V11, hus11⟩ := hQ11
  have BB1 := BB
  have g_r1 := ZB
  have BB := BB.keep K11
  have ZB : n0 ≤ T11.heap.size := Nat.le_trans ZB K11.1
  have EB := BB.exa
  have FL := BB.len
  have V11' := V11
  obtain ⟨clr1, Arr1, qr1, Sr1, Nr1, Hr1, Gr1⟩ := V11'
  have N11 := Fr.app N10 N11q
  obtain ⟨cq12, kq12, q12a, q12b, q12c⟩ := isOf hZ rfl EB
  obtain ⟨_, _, ⟨T12, L12, k12, n12⟩, -, X12, ⟨Lc12, hQ12, l12, y12, z12⟩, st12⟩ := X11.virtualBack hx (y := (⟨"com/example/acompte/acompte/Utf8Builder", "length", "()I"⟩ : MethodName)) (z := (⟨"com/example/acompte/acompte/Utf8Builder", "length", "()I"⟩ : MethodName)) hown (mvT hZ (hw _ (List.mem_of_getElem? (i := 48) rfl))) (mvT hZ (hw _ (List.mem_of_getElem? (i := 49) rfl))) (notFace_of_selects (args := #[]) (mvT hZ (hw _ (List.mem_of_getElem? (i := 51) rfl)))) (mvT hZ (hw _ (List.mem_of_getElem? (i := 51) rfl))) (mvT hZ (hw _ (List.mem_of_getElem? (i := 50) rfl))) (by decide) (backOf (W := 0) (rm10 l Z a0 hw [] b7 (Int32.ofNat (([] ++ [(own_by (own_ch p3))]) ++ [(own_by (own_ch p4))]).length) T11.heap n0 ZB FL) hZ (hw _ (List.mem_of_getElem? (i := 52) rfl)) (hw _ (List.mem_of_getElem? (i := 2) rfl)) (by decide) (by decide)) q12a q12c (g := (mkF m 143 #[.val (.int p1), .val (.int p2), .val (.int p3), .val (.int p4), .val (.int p5), .val (.int p6), .val (.int (p1 &&& (3 : Int32))), .val (.int (p2 &&& (3 : Int32))), .val (.int (own_ch p3)), .val (.int (own_ch p4)), .val (.int (own_ch p5)), .val (.int (0 : Int32)), .val (.int (own_jk p6)), .val (.ref b7), .val (.ref (T10.heap.size)), .unset, .unset] [(.ref b7)])) rfl (by rw [hml]; rfl) (Steps.refl _) (argsL := []) (rest := []) (lenOf pdw_6 rfl) rfl (by show 2 * 0 + _ ≤ _; exact Nat.le_of_eq rfl) (hb hby at_143) (fun _ _ => ⟨rfl, rfl, (by decide : 5 + 0 ≤ _), (by decide : 34 + 0 ≤ _)⟩)
  dsimp only [Pt.U, Pt.locs, Pt.cells, Pt.slots] at X12 l12 y12 z12 st12 hQ12
  subst l12 y12 z12
  obtain ⟨rfl, N12q, hh12⟩ := hQ12
  have N12 := Fr.app N11 N12q
  obtain ⟨_, _, ⟨T13, L13, k13, n13⟩, -, X13, ⟨Lc13, hQ13, l13, y13, z13⟩, st13⟩ := Jvm.LawKit.callS X12 hx (y := (⟨"com/example/acompte/acompte/Utf8BuilderToByteArrayPinLaw", "matches", "([BICCC)Z"⟩ : MethodName)) hown (mvT hZ (hw _ (List.mem_of_getElem? (i := 53) rfl))) (mvT hZ (hw _ (List.mem_of_getElem? (i := 54) rfl))) (mvT hZ (hw _ (List.mem_of_getElem? (i := 55) rfl))) (mvT hZ (hw _ (List.mem_of_getElem? (i := 56) rfl))) (by decide) (backOf (W := 0) (rm11_n2 l Z a0 hw [] (T10.heap.size) (p2 &&& (3 : Int32)) (own_ch p3) (own_ch p4) (own_ch p5) (own_by (own_ch p3)) clr1 (own_by (own_ch p4)) T11.heap n0 ZB Arr1 (inb_of Sr1 ⟨by decide, (show (0 : Int32) < Int32.ofNat 2 from by decide)⟩) (Has.at Hr1 (inb_of Sr1 ⟨by decide, (show (0 : Int32) < Int32.ofNat 2 from by decide)⟩) (hus11 0 (by first | decide | simp))) (inb_of Sr1 ⟨by decide, (show (1 : Int32) < Int32.ofNat 2 from by decide)⟩) (Has.at Hr1 (inb_of Sr1 ⟨by decide, (show (1 : Int32) < Int32.ofNat 2 from by decide)⟩) (hus11 1 (by first | decide | simp))) (by rw [hn]; decide) (own_idem _) (by rw [hn]; decide) (own_idem _) (by rw [hn]; decide)) hZ (hw _ (List.mem_of_getElem? (i := 56) rfl)) (hw _ (List.mem_of_getElem? (i := 55) rfl)) (by decide) (by decide)) (g := (mkF m 161 #[.val (.int p1), .val (.int p2), .val (.int p3), .val (.int p4), .val (.int p5), .val (.int p6), .val (.int (p1 &&& (3 : Int32))), .val (.int (p2 &&& (3 : Int32))), .val (.int (own_ch p3)), .val (.int (own_ch p4)), .val (.int (own_ch p5)), .val (.int (0 : Int32)), .val (.int (own_jk p6)), .val (.ref b7), .val (.ref (T10.heap.size)), .unset, .unset] [(.int (own_ch p5)), (.int (own_ch p4)), (.int (own_ch p3)), (.int (p2 &&& (3 : Int32))), (.ref (T10.heap.size))])) rfl (by rw [hml]; rfl) (argsL := [(.ref (T10.heap.size)), (.int (p2 &&& (3 : Int32))), (.int (own_ch p3)), (.int (own_ch p4)), (.int (own_ch p5))]) (rest := []) (lenOf pdw_7 rfl) rfl (by show 2 * 0 + _ ≤ _; exact Nat.le_of_eq rfl) (hb hby at_161) (fun _ _ => ⟨rfl, hh12, (by decide : 5 + 0 ≤ _), (by decide : 34 + 0 ≤ _)⟩)
  dsimp only [Pt.U, Pt.locs, Pt.cells, Pt.slots] at X13 l13 y13 z13 st13 hQ13
  subst l13 y13 z13
  obtain ⟨rfl, N13q, hh13⟩ := hQ13
  have N13 := Fr.app N12 N13q
  have hin197 : ¬ ((0 : Int32) < 0 ∨ clr1.slots.size ≤ ((0 : Int32)).toNatClampNeg) := inb_of Sr1 ⟨by decide, (show (0 : Int32) < Int32.ofNat 2 from by decide)⟩
  have hin192 := hin197
  have hat192 : clr1.slots[((0 : Int32)).toNatClampNeg]? = some (.int (own_by (own_ch p3))) := Has.at Hr1 hin197 (hus11 0 (by first | decide | simp))
  obtain ⟨T15, h15, X15, e15, W15, st15⟩ := stB X13 hx hZ hh13 Arr1 (j := (0 : Int32)) hin197 (g := (mkF m 197 #[.val (.int p1), .val (.int p2), .val (.int p3), .val (.int p4), .val (.int p5), .val (.int p6), .val (.int (p1 &&& (3 : Int32))), .val (.int (p2 &&& (3 : Int32))), .val (.int (own_ch p3)), .val (.int (own_ch p4)), .val (.int (own_ch p5)), .val (.int (0 : Int32)), .val (.int (own_jk p6)), .val (.ref b7), .val (.ref (T10.heap.size)), .val (.int (1 : Int32)), .unset] [(.int (((own_by (own_ch p3)) ^^^ (64 : Int32)).toInt8.toInt32)), (.int (0 : Int32)), (.ref (T10.heap.size))])) rfl rfl (hb hby at_197)
  have BB := BB1.keepwr K11 W15 (Nat.le_refl _)
  have EB := BB.exa
  have ZB : n0 ≤ h15.size := by rw [W15.size]; exact ZB
  have N15 := Fr.snoc X15 N13 g_r1
  obtain ⟨cq16, kq16, q16a, q16b, q16c⟩ := isOf hZ e15 EB
  obtain ⟨_, _, ⟨T16, L16, k16, n16⟩, -, X16, ⟨Lc16, hQ16, l16, y16, z16⟩, st16⟩ := X15.virtualBack hx (y := (⟨"com/example/acompte/acompte/Utf8Builder", "toByteArray", "()[B"⟩ : MethodName)) (z := (⟨"com/example/acompte/acompte/Utf8Builder", "toByteArray", "()[B"⟩ : MethodName)) hown (mvT hZ (hw _ (List.mem_of_getElem? (i := 43) rfl))) (mvT hZ (hw _ (List.mem_of_getElem? (i := 44) rfl))) (notFace_of_selects (args := #[]) (mvT hZ (hw _ (List.mem_of_getElem? (i := 46) rfl)))) (mvT hZ (hw _ (List.mem_of_getElem? (i := 46) rfl))) (mvT hZ (hw _ (List.mem_of_getElem? (i := 45) rfl))) (by decide) (backOf (W := 0) (rm9_t l Z a0 hw [] b7 c10 (([] ++ [(own_by (own_ch p3))]) ++ [(own_by (own_ch p4))]) h15 n0 ZB BB) hZ (hw _ (List.mem_of_getElem? (i := 47) rfl)) (hw _ (List.mem_of_getElem? (i := 2) rfl)) (by decide) (by decide)) q16a q16c (g := (mkF m 200 #[.val (.int p1), .val (.int p2), .val (.int p3), .val (.int p4), .val (.int p5), .val (.int p6), .val (.int (p1 &&& (3 : Int32))), .val (.int (p2 &&& (3 : Int32))), .val (.int (own_ch p3)), .val (.int (own_ch p4)), .val (.int (own_ch p5)), .val (.int (0 : Int32)), .val (.int (own_jk p6)), .val (.ref b7), .val (.ref (T10.heap.size)), .val (.int (1 : Int32)), .unset] [(.ref b7)])) rfl (by rw [hml]; rfl) (Steps.refl _) (argsL := []) (rest := []) (lenOf pdw_5 rfl) rfl (by show 2 * 0 + _ ≤ _; exact Nat.le_of_eq rfl) (hb hby at_200) (fun _ _ => ⟨rfl, e15, (by decide : 5 + 1 ≤ _), (by decide : 34 + 8 ≤ _)⟩)
  dsimp only [Pt.U, Pt.locs, Pt.cells, Pt.slots] at X16 l16 y16 z16 st16 hQ16
  subst l16 y16 z16
  obtain ⟨rfl, N16q, K16, k16', us16, V16, hus16⟩ := hQ16
  have ZB : n0 ≤ T16.heap.size := Nat.le_trans ZB K16.1
  have V16' := V16
  obtain ⟨clr2, Arr2, qr2, Sr2, Nr2, Hr2, Gr2⟩ := V16'
  have N16 := Fr.app N15 N16q
  obtain ⟨_, _, ⟨T17, L17, k17, n17⟩, -, X17, ⟨Lc17, hQ17, l17, y17, z17⟩, st17⟩ := Jvm.LawKit.callS X16 hx (y := (⟨"com/example/acompte/acompte/Utf8BuilderToByteArrayPinLaw", "matches", "([BICCC)Z"⟩ : MethodName)) hown (mvT hZ (hw _ (List.mem_of_getElem? (i := 53) rfl))) (mvT hZ (hw _ (List.mem_of_getElem? (i := 54) rfl))) (mvT hZ (hw _ (List.mem_of_getElem? (i := 55) rfl))) (mvT hZ (hw _ (List.mem_of_getElem? (i := 56) rfl))) (by decide) (backOf (W := 0) (rm11_n2 l Z a0 hw [] (h15.size) (p2 &&& (3 : Int32)) (own_ch p3) (own_ch p4) (own_ch p5) (own_by (own_ch p3)) clr2 (own_by (own_ch p4)) T16.heap n0 ZB Arr2 (inb_of Sr2 ⟨by decide, (show (0 : Int32) < Int32.ofNat 2 from by decide)⟩) (Has.at Hr2 (inb_of Sr2 ⟨by decide, (show (0 : Int32) < Int32.ofNat 2 from by decide)⟩) (hus16 0 (by first | decide | simp))) (inb_of Sr2 ⟨by decide, (show (1 : Int32) < Int32.ofNat 2 from by decide)⟩) (Has.at Hr2 (inb_of Sr2 ⟨by decide, (show (1 : Int32) < Int32.ofNat 2 from by decide)⟩) (hus16 1 (by first | decide | simp))) (by rw [hn]; decide) (own_idem _) (by rw [hn]; decide) (own_idem _) (by rw [hn]; decide)) hZ (hw _ (List.mem_of_getElem? (i := 56) rfl)) (hw _ (List.mem_of_getElem? (i := 55) rfl)) (by decide) (by decide)) (g := (mkF m 223 #[.val (.int p1), .val (.int p2), .val (.int p3), .val (.int p4), .val (.int p5), .val (.int p6), .val (.int (p1 &&& (3 : Int32))), .val (.int (p2 &&& (3 : Int32))), .val (.int (own_ch p3)), .val (.int (own_ch p4)), .val (.int (own_ch p5)), .val (.int (0 : Int32)), .val (.int (own_jk p6)), .val (.ref b7), .val (.ref (T10.heap.size)), .val (.int (1 : Int32)), .val (.ref (h15.size))] [(.int (own_ch p5)), (.int (own_ch p4)), (.int (own_ch p3)), (.int (p2 &&& (3 : Int32))), (.ref (h15.size))])) rfl (by rw [hml]; rfl) (argsL := [(.ref (h15.size)), (.int (p2 &&& (3 : Int32))), (.int (own_ch p3)), (.int (own_ch p4)), (.int (own_ch p5))]) (rest := []) (lenOf pdw_7 rfl) rfl (by show 2 * 0 + _ ≤ _; exact Nat.le_of_eq rfl) (hb hby at_223) (fun _ _ => ⟨rfl, rfl, (by decide : 6 + 0 ≤ _), (by decide : 42 + 0 ≤ _)⟩)
  dsimp only [Pt.U, Pt.locs, Pt.cells, Pt.slots] at X17 l17 y17 z17 st17 hQ17
  subst l17 y17 z17
  obtain ⟨rfl, N17q, hh17⟩ := hQ17
  have N17 := Fr.app N16 N17q
  obtain ⟨fs, hr, hrun, hended, hW, hsame⟩ := X17.leave (v := some (.int (1 : Int32))) (fun h => by rw [Bd.returns] at h; cases h)
  refine ⟨_, _, pre0 _ ?_, hrun, hended, _, _, rfl, ?_, ⟨_, rfl⟩, hW, hsame.mono (by decide) (by decide)⟩
  -- 4. STEPS
  · show Steps p.tables e below (s₁.setTop (mkF m 0 #[.val (.int p1), .val (.int p2), .val (.int p3), .val (.int p4), .val (.int p5), .val (.int p6), .unset, .unset, .unset, .unset, .unset, .unset, .unset, .unset, .unset, .unset, .unset] [])) _
    refine XS.iloadN X0.here hx rfl (hb hby at_0) rfl ?_
    show Steps p.tables e below (s₁.setTop (mkF m 1 #[.val (.int p1), .val (.int p2), .val (.int p3), .val (.int p4), .val (.int p5), .val (.int p6), .unset, .unset, .unset, .unset, .unset, .unset, .unset, .unset, .unset, .unset, .unset] [(.int p1)])) _
    refine XS.iconst X0.here hx rfl (hb hby at_1) ?_
    show Steps p.tables e below (s₁.setTop (mkF m 2 #[.val (.int p1), .val (.int p2), .val (.int p3), .val (.int p4), .val (.int p5), .val (.int p6), .unset, .unset, .unset, .unset, .unset, .unset, .unset, .unset, .unset, .unset, .unset] [(.int (3 : Int32)), (.int p1)])) _
    refine XS.iand X0.here hx rfl (hb hby at_2) rfl ?_
    show Steps p.tables e below (s₁.setTop (mkF m 3 #[.val (.int p1), .val (.int p2), .val (.int p3), .val (.int p4), .val (.int p5), .val (.int p6), .unset, .unset, .unset, .unset, .unset, .unset, .unset, .unset, .unset, .unset, .unset] [(.int (p1 &&& (3 : Int32)))])) _
    refine XS.istore X0.here hx rfl (hb hby at_3) rfl (l' := #[.val (.int p1), .val (.int p2), .val (.int p3), .val (.int p4), .val (.int p5), .val (.int p6), .val (.int (p1 &&& (3 : Int32))), .unset, .unset, .unset, .unset, .unset, .unset, .unset, .unset, .unset, .unset]) rfl ?_
    show Steps p.tables e below (s₁.setTop (mkF m 5 #[.val (.int p1), .val (.int p2), .val (.int p3), .val (.int p4), .val (.int p5), .val (.int p6), .val (.int (p1 &&& (3 : Int32))), .unset, .unset, .unset, .unset, .unset, .unset, .unset, .unset, .unset, .unset] [])) _
    refine XS.iloadN X0.here hx rfl (hb hby at_5) rfl ?_
    show Steps p.tables e below (s₁.setTop (mkF m 6 #[.val (.int p1), .val (.int p2), .val (.int p3), .val (.int p4), .val (.int p5), .val (.int p6), .val (.int (p1 &&& (3 : Int32))), .unset, .unset, .unset, .unset, .unset, .unset, .unset, .unset, .unset, .unset] [(.int p2)])) _
    refine XS.iconst X0.here hx rfl (hb hby at_6) ?_
    show Steps p.tables e below (s₁.setTop (mkF m 7 #[.val (.int p1), .val (.int p2), .val (.int p3), .val (.int p4), .val (.int p5), .val (.int p6), .val (.int (p1 &&& (3 : Int32))), .unset, .unset, .unset, .unset, .unset, .unset, .unset, .unset, .unset, .unset] [(.int (3 : Int32)), (.int p2)])) _
    refine XS.iand X0.here hx rfl (hb hby at_7) rfl ?_
    show Steps p.tables e below (s₁.setTop (mkF m 8 #[.val (.int p1), .val (.int p2), .val (.int p3), .val (.int p4), .val (.int p5), .val (.int p6), .val (.int (p1 &&& (3 : Int32))), .unset, .unset, .unset, .unset, .unset, .unset, .unset, .unset, .unset, .unset] [(.int (p2 &&& (3 : Int32)))])) _
    refine XS.istore X0.here hx rfl (hb hby at_8) rfl (l' := #[.val (.int p1), .val (.int p2), .val (.int p3), .val (.int p4), .val (.int p5), .val (.int p6), .val (.int (p1 &&& (3 : Int32))), .val (.int (p2 &&& (3 : Int32))), .unset, .unset, .unset, .unset, .unset, .unset, .unset, .unset, .unset]) rfl ?_
    show Steps p.tables e below (s₁.setTop (mkF m 10 #[.val (.int p1), .val (.int p2), .val (.int p3), .val (.int p4), .val (.int p5), .val (.int p6), .val (.int (p1 &&& (3 : Int32))), .val (.int (p2 &&& (3 : Int32))), .unset, .unset, .unset, .unset, .unset, .unset, .unset, .unset, .unset] [])) _
    refine XS.iloadN X0.here hx rfl (hb hby at_10) rfl ?_
    show Steps p.tables e below (s₁.setTop (mkF m 11 #[.val (.int p1), .val (.int p2), .val (.int p3), .val (.int p4), .val (.int p5), .val (.int p6), .val (.int (p1 &&& (3 : Int32))), .val (.int (p2 &&& (3 : Int32))), .unset, .unset, .unset, .unset, .unset, .unset, .unset, .unset, .unset] [(.int p3)])) _
    refine XS.bipush X0.here hx rfl (hb hby at_11) ?_
    show Steps p.tables e below (s₁.setTop (mkF m 13 #[.val (.int p1), .val (.int p2), .val (.int p3), .val (.int p4), .val (.int p5), .val (.int p6), .val (.int (p1 &&& (3 : Int32))), .val (.int (p2 &&& (3 : Int32))), .unset, .unset, .unset, .unset, .unset, .unset, .unset, .unset, .unset] [(.int (127 : Int32)), (.int p3)])) _
    refine XS.iand X0.here hx rfl (hb hby at_13) rfl ?_
    show Steps p.tables e below (s₁.setTop (mkF m 14 #[.val (.int p1), .val (.int p2), .val (.int p3), .val (.int p4), .val (.int p5), .val (.int p6), .val (.int (p1 &&& (3 : Int32))), .val (.int (p2 &&& (3 : Int32))), .unset, .unset, .unset, .unset, .unset, .unset, .unset, .unset, .unset] [(.int (p3 &&& (127 : Int32)))])) _
    refine XS.i2c X0.here hx rfl (hb hby at_14) rfl ?_
    show Steps p.tables e below (s₁.setTop (mkF m 15 #[.val (.int p1), .val (.int p2), .val (.int p3), .val (.int p4), .val (.int p5), .val (.int p6), .val (.int (p1 &&& (3 : Int32))), .val (.int (p2 &&& (3 : Int32))), .unset, .unset, .unset, .unset, .unset, .unset, .unset, .unset, .unset] [(.int (own_ch p3))])) _
    refine XS.istore X0.here hx rfl (hb hby at_15) rfl (l' := #[.val (.int p1), .val (.int p2), .val (.int p3), .val (.int p4), .val (.int p5), .val (.int p6), .val (.int (p1 &&& (3 : Int32))), .val (.int (p2 &&& (3 : Int32))), .val (.int (own_ch p3)), .unset, .unset, .unset, .unset, .unset, .unset, .unset, .unset]) rfl ?_
    show Steps p.tables e below (s₁.setTop (mkF m 17 #[.val (.int p1), .val (.int p2), .val (.int p3), .val (.int p4), .val (.int p5), .val (.int p6), .val (.int (p1 &&& (3 : Int32))), .val (.int (p2 &&& (3 : Int32))), .val (.int (own_ch p3)), .unset, .unset, .unset, .unset, .unset, .unset, .unset, .unset] [])) _
    refine XS.iloadN X0.here hx rfl (hb hby at_17) rfl ?_
    show Steps p.tables e below (s₁.setTop (mkF m 18 #[.val (.int p1), .val (.int p2), .val (.int p3), .val (.int p4), .val (.int p5), .val (.int p6), .val (.int (p1 &&& (3 : Int32))), .val (.int (p2 &&& (3 : Int32))), .val (.int (own_ch p3)), .unset, .unset, .unset, .unset, .unset, .unset, .unset, .unset] [(.int p4)])) _
    refine XS.bipush X0.here hx rfl (hb hby at_18) ?_
    show Steps p.tables e below (s₁.setTop (mkF m 20 #[.val (.int p1), .val (.int p2), .val (.int p3), .val (.int p4), .val (.int p5), .val (.int p6), .val (.int (p1 &&& (3 : Int32))), .val (.int (p2 &&& (3 : Int32))), .val (.int (own_ch p3)), .unset, .unset, .unset, .unset, .unset, .unset, .unset, .unset] [(.int (127 : Int32)), (.int p4)])) _
    refine XS.iand X0.here hx rfl (hb hby at_20) rfl ?_
    show Steps p.tables e below (s₁.setTop (mkF m 21 #[.val (.int p1), .val (.int p2), .val (.int p3), .val (.int p4), .val (.int p5), .val (.int p6), .val (.int (p1 &&& (3 : Int32))), .val (.int (p2 &&& (3 : Int32))), .val (.int (own_ch p3)), .unset, .unset, .unset, .unset, .unset, .unset, .unset, .unset] [(.int (p4 &&& (127 : Int32)))])) _
    refine XS.i2c X0.here hx rfl (hb hby at_21) rfl ?_
    show Steps p.tables e below (s₁.setTop (mkF m 22 #[.val (.int p1), .val (.int p2), .val (.int p3), .val (.int p4), .val (.int p5), .val (.int p6), .val (.int (p1 &&& (3 : Int32))), .val (.int (p2 &&& (3 : Int32))), .val (.int (own_ch p3)), .unset, .unset, .unset, .unset, .unset, .unset, .unset, .unset] [(.int (own_ch p4))])) _
    refine XS.istore X0.here hx rfl (hb hby at_22) rfl (l' := #[.val (.int p1), .val (.int p2), .val (.int p3), .val (.int p4), .val (.int p5), .val (.int p6), .val (.int (p1 &&& (3 : Int32))), .val (.int (p2 &&& (3 : Int32))), .val (.int (own_ch p3)), .val (.int (own_ch p4)), .unset, .unset, .unset, .unset, .unset, .unset, .unset]) rfl ?_
    show Steps p.tables e below (s₁.setTop (mkF m 24 #[.val (.int p1), .val (.int p2), .val (.int p3), .val (.int p4), .val (.int p5), .val (.int p6), .val (.int (p1 &&& (3 : Int32))), .val (.int (p2 &&& (3 : Int32))), .val (.int (own_ch p3)), .val (.int (own_ch p4)), .unset, .unset, .unset, .unset, .unset, .unset, .unset] [])) _
    refine XS.iload X0.here hx rfl (hb hby at_24) rfl ?_
    show Steps p.tables e below (s₁.setTop (mkF m 26 #[.val (.int p1), .val (.int p2), .val (.int p3), .val (.int p4), .val (.int p5), .val (.int p6), .val (.int (p1 &&& (3 : Int32))), .val (.int (p2 &&& (3 : Int32))), .val (.int (own_ch p3)), .val (.int (own_ch p4)), .unset, .unset, .unset, .unset, .unset, .unset, .unset] [(.int p5)])) _
    refine XS.bipush X0.here hx rfl (hb hby at_26) ?_
    show Steps p.tables e below (s₁.setTop (mkF m 28 #[.val (.int p1), .val (.int p2), .val (.int p3), .val (.int p4), .val (.int p5), .val (.int p6), .val (.int (p1 &&& (3 : Int32))), .val (.int (p2 &&& (3 : Int32))), .val (.int (own_ch p3)), .val (.int (own_ch p4)), .unset, .unset, .unset, .unset, .unset, .unset, .unset] [(.int (127 : Int32)), (.int p5)])) _
    refine XS.iand X0.here hx rfl (hb hby at_28) rfl ?_
    show Steps p.tables e below (s₁.setTop (mkF m 29 #[.val (.int p1), .val (.int p2), .val (.int p3), .val (.int p4), .val (.int p5), .val (.int p6), .val (.int (p1 &&& (3 : Int32))), .val (.int (p2 &&& (3 : Int32))), .val (.int (own_ch p3)), .val (.int (own_ch p4)), .unset, .unset, .unset, .unset, .unset, .unset, .unset] [(.int (p5 &&& (127 : Int32)))])) _
    refine XS.i2c X0.here hx rfl (hb hby at_29) rfl ?_
    show Steps p.tables e below (s₁.setTop (mkF m 30 #[.val (.int p1), .val (.int p2), .val (.int p3), .val (.int p4), .val (.int p5), .val (.int p6), .val (.int (p1 &&& (3 : Int32))), .val (.int (p2 &&& (3 : Int32))), .val (.int (own_ch p3)), .val (.int (own_ch p4)), .unset, .unset, .unset, .unset, .unset, .unset, .unset] [(.int (own_ch p5))])) _
    refine XS.istore X0.here hx rfl (hb hby at_30) rfl (l' := #[.val (.int p1), .val (.int p2), .val (.int p3), .val (.int p4), .val (.int p5), .val (.int p6), .val (.int (p1 &&& (3 : Int32))), .val (.int (p2 &&& (3 : Int32))), .val (.int (own_ch p3)), .val (.int (own_ch p4)), .val (.int (own_ch p5)), .unset, .unset, .unset, .unset, .unset, .unset]) rfl ?_
    show Steps p.tables e below (s₁.setTop (mkF m 32 #[.val (.int p1), .val (.int p2), .val (.int p3), .val (.int p4), .val (.int p5), .val (.int p6), .val (.int (p1 &&& (3 : Int32))), .val (.int (p2 &&& (3 : Int32))), .val (.int (own_ch p3)), .val (.int (own_ch p4)), .val (.int (own_ch p5)), .unset, .unset, .unset, .unset, .unset, .unset] [])) _
    refine XS.iload X0.here hx rfl (hb hby at_32) rfl ?_
    show Steps p.tables e below (s₁.setTop (mkF m 34 #[.val (.int p1), .val (.int p2), .val (.int p3), .val (.int p4), .val (.int p5), .val (.int p6), .val (.int (p1 &&& (3 : Int32))), .val (.int (p2 &&& (3 : Int32))), .val (.int (own_ch p3)), .val (.int (own_ch p4)), .val (.int (own_ch p5)), .unset, .unset, .unset, .unset, .unset, .unset] [(.int p6)])) _
    refine XS.iconst X0.here hx rfl (hb hby at_34) ?_
    show Steps p.tables e below (s₁.setTop (mkF m 35 #[.val (.int p1), .val (.int p2), .val (.int p3), .val (.int p4), .val (.int p5), .val (.int p6), .val (.int (p1 &&& (3 : Int32))), .val (.int (p2 &&& (3 : Int32))), .val (.int (own_ch p3)), .val (.int (own_ch p4)), .val (.int (own_ch p5)), .unset, .unset, .unset, .unset, .unset, .unset] [(.int (1 : Int32)), (.int p6)])) _
    refine XS.iand X0.here hx rfl (hb hby at_35) rfl ?_
    show Steps p.tables e below (s₁.setTop (mkF m 36 #[.val (.int p1), .val (.int p2), .val (.int p3), .val (.int p4), .val (.int p5), .val (.int p6), .val (.int (p1 &&& (3 : Int32))), .val (.int (p2 &&& (3 : Int32))), .val (.int (own_ch p3)), .val (.int (own_ch p4)), .val (.int (own_ch p5)), .unset, .unset, .unset, .unset, .unset, .unset] [(.int (p6 &&& (1 : Int32)))])) _
    refine XS.ifYes X0.here hx rfl (pc0 := 36) (pc' := 43) rfl (hb hby at_36) rfl ((if0 _ _).trans (teq hc36).1) (by decide) (by decide) ?_
    show Steps p.tables e below (s₁.setTop (mkF m 43 #[.val (.int p1), .val (.int p2), .val (.int p3), .val (.int p4), .val (.int p5), .val (.int p6), .val (.int (p1 &&& (3 : Int32))), .val (.int (p2 &&& (3 : Int32))), .val (.int (own_ch p3)), .val (.int (own_ch p4)), .val (.int (own_ch p5)), .unset, .unset, .unset, .unset, .unset, .unset] [])) _
    refine XS.iconst X0.here hx rfl (hb hby at_43) ?_
    show Steps p.tables e below (s₁.setTop (mkF m 44 #[.val (.int p1), .val (.int p2), .val (.int p3), .val (.int p4), .val (.int p5), .val (.int p6), .val (.int (p1 &&& (3 : Int32))), .val (.int (p2 &&& (3 : Int32))), .val (.int (own_ch p3)), .val (.int (own_ch p4)), .val (.int (own_ch p5)), .unset, .unset, .unset, .unset, .unset, .unset] [(.int (0 : Int32))])) _
    refine XS.istore X0.here hx rfl (hb hby at_44) rfl (l' := #[.val (.int p1), .val (.int p2), .val (.int p3), .val (.int p4), .val (.int p5), .val (.int p6), .val (.int (p1 &&& (3 : Int32))), .val (.int (p2 &&& (3 : Int32))), .val (.int (own_ch p3)), .val (.int (own_ch p4)), .val (.int (own_ch p5)), .val (.int (0 : Int32)), .unset, .unset, .unset, .unset, .unset]) rfl ?_
    show Steps p.tables e below (s₁.setTop (mkF m 46 #[.val (.int p1), .val (.int p2), .val (.int p3), .val (.int p4), .val (.int p5), .val (.int p6), .val (.int (p1 &&& (3 : Int32))), .val (.int (p2 &&& (3 : Int32))), .val (.int (own_ch p3)), .val (.int (own_ch p4)), .val (.int (own_ch p5)), .val (.int (0 : Int32)), .unset, .unset, .unset, .unset, .unset] [])) _
    refine XS.iload X0.here hx rfl (hb hby at_46) rfl ?_
    show Steps p.tables e below (s₁.setTop (mkF m 48 #[.val (.int p1), .val (.int p2), .val (.int p3), .val (.int p4), .val (.int p5), .val (.int p6), .val (.int (p1 &&& (3 : Int32))), .val (.int (p2 &&& (3 : Int32))), .val (.int (own_ch p3)), .val (.int (own_ch p4)), .val (.int (own_ch p5)), .val (.int (0 : Int32)), .unset, .unset, .unset, .unset, .unset] [(.int p6)])) _
    refine XS.iconst X0.here hx rfl (hb hby at_48) ?_
    show Steps p.tables e below (s₁.setTop (mkF m 49 #[.val (.int p1), .val (.int p2), .val (.int p3), .val (.int p4), .val (.int p5), .val (.int p6), .val (.int (p1 &&& (3 : Int32))), .val (.int (p2 &&& (3 : Int32))), .val (.int (own_ch p3)), .val (.int (own_ch p4)), .val (.int (own_ch p5)), .val (.int (0 : Int32)), .unset, .unset, .unset, .unset, .unset] [(.int (1 : Int32)), (.int p6)])) _
    refine XS.iushr X0.here hx rfl (hb hby at_49) rfl ?_
    show Steps p.tables e below (s₁.setTop (mkF m 50 #[.val (.int p1), .val (.int p2), .val (.int p3), .val (.int p4), .val (.int p5), .val (.int p6), .val (.int (p1 &&& (3 : Int32))), .val (.int (p2 &&& (3 : Int32))), .val (.int (own_ch p3)), .val (.int (own_ch p4)), .val (.int (own_ch p5)), .val (.int (0 : Int32)), .unset, .unset, .unset, .unset, .unset] [(.int ((p6.toUInt32 >>> ((1 : Int32) &&& 31).toUInt32).toInt32))])) _
    refine XS.bipush X0.here hx rfl (hb hby at_50) ?_
    show Steps p.tables e below (s₁.setTop (mkF m 52 #[.val (.int p1), .val (.int p2), .val (.int p3), .val (.int p4), .val (.int p5), .val (.int p6), .val (.int (p1 &&& (3 : Int32))), .val (.int (p2 &&& (3 : Int32))), .val (.int (own_ch p3)), .val (.int (own_ch p4)), .val (.int (own_ch p5)), .val (.int (0 : Int32)), .unset, .unset, .unset, .unset, .unset] [(.int (127 : Int32)), (.int ((p6.toUInt32 >>> ((1 : Int32) &&& 31).toUInt32).toInt32))])) _
    refine XS.iand X0.here hx rfl (hb hby at_52) rfl ?_
    show Steps p.tables e below (s₁.setTop (mkF m 53 #[.val (.int p1), .val (.int p2), .val (.int p3), .val (.int p4), .val (.int p5), .val (.int p6), .val (.int (p1 &&& (3 : Int32))), .val (.int (p2 &&& (3 : Int32))), .val (.int (own_ch p3)), .val (.int (own_ch p4)), .val (.int (own_ch p5)), .val (.int (0 : Int32)), .unset, .unset, .unset, .unset, .unset] [(.int (((p6.toUInt32 >>> ((1 : Int32) &&& 31).toUInt32).toInt32) &&& (127 : Int32)))])) _
    refine XS.i2c X0.here hx rfl (hb hby at_53) rfl ?_
    show Steps p.tables e below (s₁.setTop (mkF m 54 #[.val (.int p1), .val (.int p2), .val (.int p3), .val (.int p4), .val (.int p5), .val (.int p6), .val (.int (p1 &&& (3 : Int32))), .val (.int (p2 &&& (3 : Int32))), .val (.int (own_ch p3)), .val (.int (own_ch p4)), .val (.int (own_ch p5)), .val (.int (0 : Int32)), .unset, .unset, .unset, .unset, .unset] [(.int (own_jk p6))])) _
    refine XS.istore X0.here hx rfl (hb hby at_54) rfl (l' := #[.val (.int p1), .val (.int p2), .val (.int p3), .val (.int p4), .val (.int p5), .val (.int p6), .val (.int (p1 &&& (3 : Int32))), .val (.int (p2 &&& (3 : Int32))), .val (.int (own_ch p3)), .val (.int (own_ch p4)), .val (.int (own_ch p5)), .val (.int (0 : Int32)), .val (.int (own_jk p6)), .unset, .unset, .unset, .unset]) rfl ?_
    show Steps p.tables e below (s₁.setTop (mkF m 56 #[.val (.int p1), .val (.int p2), .val (.int p3), .val (.int p4), .val (.int p5), .val (.int p6), .val (.int (p1 &&& (3 : Int32))), .val (.int (p2 &&& (3 : Int32))), .val (.int (own_ch p3)), .val (.int (own_ch p4)), .val (.int (own_ch p5)), .val (.int (0 : Int32)), .val (.int (own_jk p6)), .unset, .unset, .unset, .unset] [])) _
    refine st7 _ ?_
    show Steps p.tables e below (T7.setTop (mkF m 59 #[.val (.int p1), .val (.int p2), .val (.int p3), .val (.int p4), .val (.int p5), .val (.int p6), .val (.int (p1 &&& (3 : Int32))), .val (.int (p2 &&& (3 : Int32))), .val (.int (own_ch p3)), .val (.int (own_ch p4)), .val (.int (own_ch p5)), .val (.int (0 : Int32)), .val (.int (own_jk p6)), .unset, .unset, .unset, .unset] [(.ref b7)])) _
    refine XS.dup X7.here hx rfl (hb hby at_59) rfl rfl ?_
    show Steps p.tables e below (T7.setTop (mkF m 60 #[.val (.int p1), .val (.int p2), .val (.int p3), .val (.int p4), .val (.int p5), .val (.int p6), .val (.int (p1 &&& (3 : Int32))), .val (.int (p2 &&& (3 : Int32))), .val (.int (own_ch p3)), .val (.int (own_ch p4)), .val (.int (own_ch p5)), .val (.int (0 : Int32)), .val (.int (own_jk p6)), .unset, .unset, .unset, .unset] [(.ref b7), (.ref b7)])) _
    refine XS.iload X7.here hx rfl (hb hby at_60) rfl ?_
    show Steps p.tables e below (T7.setTop (mkF m 62 #[.val (.int p1), .val (.int p2), .val (.int p3), .val (.int p4), .val (.int p5), .val (.int p6), .val (.int (p1 &&& (3 : Int32))), .val (.int (p2 &&& (3 : Int32))), .val (.int (own_ch p3)), .val (.int (own_ch p4)), .val (.int (own_ch p5)), .val (.int (0 : Int32)), .val (.int (own_jk p6)), .unset, .unset, .unset, .unset] [(.int (p1 &&& (3 : Int32))), (.ref b7), (.ref b7)])) _
    refine st8.trans ?_
    show Steps p.tables e below (T8.setTop (mkF m 65 #[.val (.int p1), .val (.int p2), .val (.int p3), .val (.int p4), .val (.int p5), .val (.int p6), .val (.int (p1 &&& (3 : Int32))), .val (.int (p2 &&& (3 : Int32))), .val (.int (own_ch p3)), .val (.int (own_ch p4)), .val (.int (own_ch p5)), .val (.int (0 : Int32)), .val (.int (own_jk p6)), .unset, .unset, .unset, .unset] [(.ref b7)])) _
    refine XS.astore X8.here hx rfl (hb hby at_65) rfl rfl (l' := #[.val (.int p1), .val (.int p2), .val (.int p3), .val (.int p4), .val (.int p5), .val (.int p6), .val (.int (p1 &&& (3 : Int32))), .val (.int (p2 &&& (3 : Int32))), .val (.int (own_ch p3)), .val (.int (own_ch p4)), .val (.int (own_ch p5)), .val (.int (0 : Int32)), .val (.int (own_jk p6)), .val (.ref b7), .unset, .unset, .unset]) rfl ?_
    show Steps p.tables e below (T8.setTop (mkF m 67 #[.val (.int p1), .val (.int p2), .val (.int p3), .val (.int p4), .val (.int p5), .val (.int p6), .val (.int (p1 &&& (3 : Int32))), .val (.int (p2 &&& (3 : Int32))), .val (.int (own_ch p3)), .val (.int (own_ch p4)), .val (.int (own_ch p5)), .val (.int (0 : Int32)), .val (.int (own_jk p6)), .val (.ref b7), .unset, .unset, .unset] [])) _
    refine XS.iload X8.here hx rfl (hb hby at_67) rfl ?_
    show Steps p.tables e below (T8.setTop (mkF m 69 #[.val (.int p1), .val (.int p2), .val (.int p3), .val (.int p4), .val (.int p5), .val (.int p6), .val (.int (p1 &&& (3 : Int32))), .val (.int (p2 &&& (3 : Int32))), .val (.int (own_ch p3)), .val (.int (own_ch p4)), .val (.int (own_ch p5)), .val (.int (0 : Int32)), .val (.int (own_jk p6)), .val (.ref b7), .unset, .unset, .unset] [(.int (0 : Int32))])) _
    refine XS.ifYes X8.here hx rfl (pc0 := 69) (pc' := 85) rfl (hb hby at_69) rfl ((if0 _ _).trans (teq (rfl : (0 : Int32) = (0 : Int32))).1) (by decide) (by decide) ?_
    show Steps p.tables e below (T8.setTop (mkF m 85 #[.val (.int p1), .val (.int p2), .val (.int p3), .val (.int p4), .val (.int p5), .val (.int p6), .val (.int (p1 &&& (3 : Int32))), .val (.int (p2 &&& (3 : Int32))), .val (.int (own_ch p3)), .val (.int (own_ch p4)), .val (.int (own_ch p5)), .val (.int (0 : Int32)), .val (.int (own_jk p6)), .val (.ref b7), .unset, .unset, .unset] [])) _
    refine XS.iload X8.here hx rfl (hb hby at_85) rfl ?_
    show Steps p.tables e below (T8.setTop (mkF m 87 #[.val (.int p1), .val (.int p2), .val (.int p3), .val (.int p4), .val (.int p5), .val (.int p6), .val (.int (p1 &&& (3 : Int32))), .val (.int (p2 &&& (3 : Int32))), .val (.int (own_ch p3)), .val (.int (own_ch p4)), .val (.int (own_ch p5)), .val (.int (0 : Int32)), .val (.int (own_jk p6)), .val (.ref b7), .unset, .unset, .unset] [(.int (p2 &&& (3 : Int32)))])) _
    refine XS.ifNo X8.here hx rfl (hb hby at_87) rfl ((if0 _ _).trans (tlt hc87).2.2.2) ?_
    show Steps p.tables e below (T8.setTop (mkF m 90 #[.val (.int p1), .val (.int p2), .val (.int p3), .val (.int p4), .val (.int p5), .val (.int p6), .val (.int (p1 &&& (3 : Int32))), .val (.int (p2 &&& (3 : Int32))), .val (.int (own_ch p3)), .val (.int (own_ch p4)), .val (.int (own_ch p5)), .val (.int (0 : Int32)), .val (.int (own_jk p6)), .val (.ref b7), .unset, .unset, .unset] [])) _
    refine XS.aload X8.here hx rfl (hb hby at_90) rfl rfl ?_
    show Steps p.tables e below (T8.setTop (mkF m 92 #[.val (.int p1), .val (.int p2), .val (.int p3), .val (.int p4), .val (.int p5), .val (.int p6), .val (.int (p1 &&& (3 : Int32))), .val (.int (p2 &&& (3 : Int32))), .val (.int (own_ch p3)), .val (.int (own_ch p4)), .val (.int (own_ch p5)), .val (.int (0 : Int32)), .val (.int (own_jk p6)), .val (.ref b7), .unset, .unset, .unset] [(.ref b7)])) _
    refine XS.iload X8.here hx rfl (hb hby at_92) rfl ?_
    show Steps p.tables e below (T8.setTop (mkF m 94 #[.val (.int p1), .val (.int p2), .val (.int p3), .val (.int p4), .val (.int p5), .val (.int p6), .val (.int (p1 &&& (3 : Int32))), .val (.int (p2 &&& (3 : Int32))), .val (.int (own_ch p3)), .val (.int (own_ch p4)), .val (.int (own_ch p5)), .val (.int (0 : Int32)), .val (.int (own_jk p6)), .val (.ref b7), .unset, .unset, .unset] [(.int (own_ch p3)), (.ref b7)])) _
    refine st9.trans ?_
    show Steps p.tables e below (T9.setTop (mkF m 97 #[.val (.int p1), .val (.int p2), .val (.int p3), .val (.int p4), .val (.int p5), .val (.int p6), .val (.int (p1 &&& (3 : Int32))), .val (.int (p2 &&& (3 : Int32))), .val (.int (own_ch p3)), .val (.int (own_ch p4)), .val (.int (own_ch p5)), .val (.int (0 : Int32)), .val (.int (own_jk p6)), .val (.ref b7), .unset, .unset, .unset] [(.ref b7)])) _
    refine XS.pop X9.here hx rfl (hb hby at_97) rfl rfl ?_
    show Steps p.tables e below (T9.setTop (mkF m 98 #[.val (.int p1), .val (.int p2), .val (.int p3), .val (.int p4), .val (.int p5), .val (.int p6), .val (.int (p1 &&& (3 : Int32))), .val (.int (p2 &&& (3 : Int32))), .val (.int (own_ch p3)), .val (.int (own_ch p4)), .val (.int (own_ch p5)), .val (.int (0 : Int32)), .val (.int (own_jk p6)), .val (.ref b7), .unset, .unset, .unset] [])) _
    refine XS.iload X9.here hx rfl (hb hby at_98) rfl ?_
    show Steps p.tables e below (T9.setTop (mkF m 100 #[.val (.int p1), .val (.int p2), .val (.int p3), .val (.int p4), .val (.int p5), .val (.int p6), .val (.int (p1 &&& (3 : Int32))), .val (.int (p2 &&& (3 : Int32))), .val (.int (own_ch p3)), .val (.int (own_ch p4)), .val (.int (own_ch p5)), .val (.int (0 : Int32)), .val (.int (own_jk p6)), .val (.ref b7), .unset, .unset, .unset] [(.int (p2 &&& (3 : Int32)))])) _
    refine XS.iconst X9.here hx rfl (hb hby at_100) ?_
    show Steps p.tables e below (T9.setTop (mkF m 101 #[.val (.int p1), .val (.int p2), .val (.int p3), .val (.int p4), .val (.int p5), .val (.int p6), .val (.int (p1 &&& (3 : Int32))), .val (.int (p2 &&& (3 : Int32))), .val (.int (own_ch p3)), .val (.int (own_ch p4)), .val (.int (own_ch p5)), .val (.int (0 : Int32)), .val (.int (own_jk p6)), .val (.ref b7), .unset, .unset, .unset] [(.int (1 : Int32)), (.int (p2 &&& (3 : Int32)))])) _
    refine XS.icmpNo X9.here hx rfl (hb hby at_101) rfl (tlt hc101).2.2.2 ?_
    show Steps p.tables e below (T9.setTop (mkF m 104 #[.val (.int p1), .val (.int p2), .val (.int p3), .val (.int p4), .val (.int p5), .val (.int p6), .val (.int (p1 &&& (3 : Int32))), .val (.int (p2 &&& (3 : Int32))), .val (.int (own_ch p3)), .val (.int (own_ch p4)), .val (.int (own_ch p5)), .val (.int (0 : Int32)), .val (.int (own_jk p6)), .val (.ref b7), .unset, .unset, .unset] [])) _
    refine XS.aload X9.here hx rfl (hb hby at_104) rfl rfl ?_
    show Steps p.tables e below (T9.setTop (mkF m 106 #[.val (.int p1), .val (.int p2), .val (.int p3), .val (.int p4), .val (.int p5), .val (.int p6), .val (.int (p1 &&& (3 : Int32))), .val (.int (p2 &&& (3 : Int32))), .val (.int (own_ch p3)), .val (.int (own_ch p4)), .val (.int (own_ch p5)), .val (.int (0 : Int32)), .val (.int (own_jk p6)), .val (.ref b7), .unset, .unset, .unset] [(.ref b7)])) _
    refine XS.iload X9.here hx rfl (hb hby at_106) rfl ?_
    show Steps p.tables e below (T9.setTop (mkF m 108 #[.val (.int p1), .val (.int p2), .val (.int p3), .val (.int p4), .val (.int p5), .val (.int p6), .val (.int (p1 &&& (3 : Int32))), .val (.int (p2 &&& (3 : Int32))), .val (.int (own_ch p3)), .val (.int (own_ch p4)), .val (.int (own_ch p5)), .val (.int (0 : Int32)), .val (.int (own_jk p6)), .val (.ref b7), .unset, .unset, .unset] [(.int (own_ch p4)), (.ref b7)])) _
    refine st10.trans ?_
    show Steps p.tables e below (T10.setTop (mkF m 111 #[.val (.int p1), .val (.int p2), .val (.int p3), .val (.int p4), .val (.int p5), .val (.int p6), .val (.int (p1 &&& (3 : Int32))), .val (.int (p2 &&& (3 : Int32))), .val (.int (own_ch p3)), .val (.int (own_ch p4)), .val (.int (own_ch p5)), .val (.int (0 : Int32)), .val (.int (own_jk p6)), .val (.ref b7), .unset, .unset, .unset] [(.ref b7)])) _
    refine XS.pop X10.here hx rfl (hb hby at_111) rfl rfl ?_
    show Steps p.tables e below (T10.setTop (mkF m 112 #[.val (.int p1), .val (.int p2), .val (.int p3), .val (.int p4), .val (.int p5), .val (.int p6), .val (.int (p1 &&& (3 : Int32))), .val (.int (p2 &&& (3 : Int32))), .val (.int (own_ch p3)), .val (.int (own_ch p4)), .val (.int (own_ch p5)), .val (.int (0 : Int32)), .val (.int (own_jk p6)), .val (.ref b7), .unset, .unset, .unset] [])) _
    refine XS.iload X10.here hx rfl (hb hby at_112) rfl ?_
    show Steps p.tables e below (T10.setTop (mkF m 114 #[.val (.int p1), .val (.int p2), .val (.int p3), .val (.int p4), .val (.int p5), .val (.int p6), .val (.int (p1 &&& (3 : Int32))), .val (.int (p2 &&& (3 : Int32))), .val (.int (own_ch p3)), .val (.int (own_ch p4)), .val (.int (own_ch p5)), .val (.int (0 : Int32)), .val (.int (own_jk p6)), .val (.ref b7), .unset, .unset, .unset] [(.int (p2 &&& (3 : Int32)))])) _
    refine XS.iconst X10.here hx rfl (hb hby at_114) ?_
    show Steps p.tables e below (T10.setTop (mkF m 115 #[.val (.int p1), .val (.int p2), .val (.int p3), .val (.int p4), .val (.int p5), .val (.int p6), .val (.int (p1 &&& (3 : Int32))), .val (.int (p2 &&& (3 : Int32))), .val (.int (own_ch p3)), .val (.int (own_ch p4)), .val (.int (own_ch p5)), .val (.int (0 : Int32)), .val (.int (own_jk p6)), .val (.ref b7), .unset, .unset, .unset] [(.int (2 : Int32)), (.int (p2 &&& (3 : Int32)))])) _
    refine XS.icmpYes X10.here hx rfl (pc0 := 115) (pc' := 126) rfl (hb hby at_115) rfl (flt hc115).2.2.2 (by decide) (by decide) ?_
    show Steps p.tables e below (T10.setTop (mkF m 126 #[.val (.int p1), .val (.int p2), .val (.int p3), .val (.int p4), .val (.int p5), .val (.int p6), .val (.int (p1 &&& (3 : Int32))), .val (.int (p2 &&& (3 : Int32))), .val (.int (own_ch p3)), .val (.int (own_ch p4)), .val (.int (own_ch p5)), .val (.int (0 : Int32)), .val (.int (own_jk p6)), .val (.ref b7), .unset, .unset, .unset] [])) _
    refine XS.aload X10.here hx rfl (hb hby at_126) rfl rfl ?_
    show Steps p.tables e below (T10.setTop (mkF m 128 #[.val (.int p1), .val (.int p2), .val (.int p3), .val (.int p4), .val (.int p5), .val (.int p6), .val (.int (p1 &&& (3 : Int32))), .val (.int (p2 &&& (3 : Int32))), .val (.int (own_ch p3)), .val (.int (own_ch p4)), .val (.int (own_ch p5)), .val (.int (0 : Int32)), .val (.int (own_jk p6)), .val (.ref b7), .unset, .unset, .unset] [(.ref b7)])) _
    refine st11.trans ?_
    show Steps p.tables e below (T11.setTop (mkF m 131 #[.val (.int p1), .val (.int p2), .val (.int p3), .val (.int p4), .val (.int p5), .val (.int p6), .val (.int (p1 &&& (3 : Int32))), .val (.int (p2 &&& (3 : Int32))), .val (.int (own_ch p3)), .val (.int (own_ch p4)), .val (.int (own_ch p5)), .val (.int (0 : Int32)), .val (.int (own_jk p6)), .val (.ref b7), .unset, .unset, .unset] [(.ref (T10.heap.size))])) _
    refine XS.astore X11.here hx rfl (hb hby at_131) rfl rfl (l' := #[.val (.int p1), .val (.int p2), .val (.int p3), .val (.int p4), .val (.int p5), .val (.int p6), .val (.int (p1 &&& (3 : Int32))), .val (.int (p2 &&& (3 : Int32))), .val (.int (own_ch p3)), .val (.int (own_ch p4)), .val (.int (own_ch p5)), .val (.int (0 : Int32)), .val (.int (own_jk p6)), .val (.ref b7), .val (.ref (T10.heap.size)), .unset, .unset]) rfl ?_
    show Steps p.tables e below (T11.setTop (mkF m 133 #[.val (.int p1), .val (.int p2), .val (.int p3), .val (.int p4), .val (.int p5), .val (.int p6), .val (.int (p1 &&& (3 : Int32))), .val (.int (p2 &&& (3 : Int32))), .val (.int (own_ch p3)), .val (.int (own_ch p4)), .val (.int (own_ch p5)), .val (.int (0 : Int32)), .val (.int (own_jk p6)), .val (.ref b7), .val (.ref (T10.heap.size)), .unset, .unset] [])) _
    refine XS.aload X11.here hx rfl (hb hby at_133) rfl rfl ?_
    show Steps p.tables e below (T11.setTop (mkF m 135 #[.val (.int p1), .val (.int p2), .val (.int p3), .val (.int p4), .val (.int p5), .val (.int p6), .val (.int (p1 &&& (3 : Int32))), .val (.int (p2 &&& (3 : Int32))), .val (.int (own_ch p3)), .val (.int (own_ch p4)), .val (.int (own_ch p5)), .val (.int (0 : Int32)), .val (.int (own_jk p6)), .val (.ref b7), .val (.ref (T10.heap.size)), .unset, .unset] [(.ref (T10.heap.size))])) _
    refine X11.arraylength hx (by exact Arr1.1) (State.isArrayOf_alike hZ.alike Arr1.2.1) (g := (mkF m 135 #[.val (.int p1), .val (.int p2), .val (.int p3), .val (.int p4), .val (.int p5), .val (.int p6), .val (.int (p1 &&& (3 : Int32))), .val (.int (p2 &&& (3 : Int32))), .val (.int (own_ch p3)), .val (.int (own_ch p4)), .val (.int (own_ch p5)), .val (.int (0 : Int32)), .val (.int (own_jk p6)), .val (.ref b7), .val (.ref (T10.heap.size)), .unset, .unset] [(.ref (T10.heap.size))])) rfl rfl (hb hby at_135) _ ?_
    rw [len_of Sr1 Nr1]
    show Steps p.tables e below (T11.setTop (mkF m 136 #[.val (.int p1), .val (.int p2), .val (.int p3), .val (.int p4), .val (.int p5), .val (.int p6), .val (.int (p1 &&& (3 : Int32))), .val (.int (p2 &&& (3 : Int32))), .val (.int (own_ch p3)), .val (.int (own_ch p4)), .val (.int (own_ch p5)), .val (.int (0 : Int32)), .val (.int (own_jk p6)), .val (.ref b7), .val (.ref (T10.heap.size)), .unset, .unset] [(.int (Int32.ofNat (([] ++ [(own_by (own_ch p3))]) ++ [(own_by (own_ch p4))]).length))])) _
    refine XS.iload X11.here hx rfl (hb hby at_136) rfl ?_
    show Steps p.tables e below (T11.setTop (mkF m 138 #[.val (.int p1), .val (.int p2), .val (.int p3), .val (.int p4), .val (.int p5), .val (.int p6), .val (.int (p1 &&& (3 : Int32))), .val (.int (p2 &&& (3 : Int32))), .val (.int (own_ch p3)), .val (.int (own_ch p4)), .val (.int (own_ch p5)), .val (.int (0 : Int32)), .val (.int (own_jk p6)), .val (.ref b7), .val (.ref (T10.heap.size)), .unset, .unset] [(.int (p2 &&& (3 : Int32))), (.int (Int32.ofNat (([] ++ [(own_by (own_ch p3))]) ++ [(own_by (own_ch p4))]).length))])) _
    refine XS.icmpNo X11.here hx rfl (hb hby at_138) rfl (teq (by rw [hn]; first | rfl | decide : (Int32.ofNat (([] ++ [(own_by (own_ch p3))]) ++ [(own_by (own_ch p4))]).length) = (p2 &&& (3 : Int32)))).2 ?_
    show Steps p.tables e below (T11.setTop (mkF m 141 #[.val (.int p1), .val (.int p2), .val (.int p3), .val (.int p4), .val (.int p5), .val (.int p6), .val (.int (p1 &&& (3 : Int32))), .val (.int (p2 &&& (3 : Int32))), .val (.int (own_ch p3)), .val (.int (own_ch p4)), .val (.int (own_ch p5)), .val (.int (0 : Int32)), .val (.int (own_jk p6)), .val (.ref b7), .val (.ref (T10.heap.size)), .unset, .unset] [])) _
    refine XS.aload X11.here hx rfl (hb hby at_141) rfl rfl ?_
    show Steps p.tables e below (T11.setTop (mkF m 143 #[.val (.int p1), .val (.int p2), .val (.int p3), .val (.int p4), .val (.int p5), .val (.int p6), .val (.int (p1 &&& (3 : Int32))), .val (.int (p2 &&& (3 : Int32))), .val (.int (own_ch p3)), .val (.int (own_ch p4)), .val (.int (own_ch p5)), .val (.int (0 : Int32)), .val (.int (own_jk p6)), .val (.ref b7), .val (.ref (T10.heap.size)), .unset, .unset] [(.ref b7)])) _
    refine st12.trans ?_
    show Steps p.tables e below (T12.setTop (mkF m 146 #[.val (.int p1), .val (.int p2), .val (.int p3), .val (.int p4), .val (.int p5), .val (.int p6), .val (.int (p1 &&& (3 : Int32))), .val (.int (p2 &&& (3 : Int32))), .val (.int (own_ch p3)), .val (.int (own_ch p4)), .val (.int (own_ch p5)), .val (.int (0 : Int32)), .val (.int (own_jk p6)), .val (.ref b7), .val (.ref (T10.heap.size)), .unset, .unset] [(.int (Int32.ofNat (([] ++ [(own_by (own_ch p3))]) ++ [(own_by (own_ch p4))]).length))])) _
    refine XS.iload X12.here hx rfl (hb hby at_146) rfl ?_
    show Steps p.tables e below (T12.setTop (mkF m 148 #[.val (.int p1), .val (.int p2), .val (.int p3), .val (.int p4), .val (.int p5), .val (.int p6), .val (.int (p1 &&& (3 : Int32))), .val (.int (p2 &&& (3 : Int32))), .val (.int (own_ch p3)), .val (.int (own_ch p4)), .val (.int (own_ch p5)), .val (.int (0 : Int32)), .val (.int (own_jk p6)), .val (.ref b7), .val (.ref (T10.heap.size)), .unset, .unset] [(.int (p2 &&& (3 : Int32))), (.int (Int32.ofNat (([] ++ [(own_by (own_ch p3))]) ++ [(own_by (own_ch p4))]).length))])) _
    refine XS.icmpNo X12.here hx rfl (hb hby at_148) rfl (teq (by rw [hn]; first | rfl | decide : (Int32.ofNat (([] ++ [(own_by (own_ch p3))]) ++ [(own_by (own_ch p4))]).length) = (p2 &&& (3 : Int32)))).2 ?_
    show Steps p.tables e below (T12.setTop (mkF m 151 #[.val (.int p1), .val (.int p2), .val (.int p3), .val (.int p4), .val (.int p5), .val (.int p6), .val (.int (p1 &&& (3 : Int32))), .val (.int (p2 &&& (3 : Int32))), .val (.int (own_ch p3)), .val (.int (own_ch p4)), .val (.int (own_ch p5)), .val (.int (0 : Int32)), .val (.int (own_jk p6)), .val (.ref b7), .val (.ref (T10.heap.size)), .unset, .unset] [])) _
    refine XS.aload X12.here hx rfl (hb hby at_151) rfl rfl ?_
    show Steps p.tables e below (T12.setTop (mkF m 153 #[.val (.int p1), .val (.int p2), .val (.int p3), .val (.int p4), .val (.int p5), .val (.int p6), .val (.int (p1 &&& (3 : Int32))), .val (.int (p2 &&& (3 : Int32))), .val (.int (own_ch p3)), .val (.int (own_ch p4)), .val (.int (own_ch p5)), .val (.int (0 : Int32)), .val (.int (own_jk p6)), .val (.ref b7), .val (.ref (T10.heap.size)), .unset, .unset] [(.ref (T10.heap.size))])) _
    refine XS.iload X12.here hx rfl (hb hby at_153) rfl ?_
    show Steps p.tables e below (T12.setTop (mkF m 155 #[.val (.int p1), .val (.int p2), .val (.int p3), .val (.int p4), .val (.int p5), .val (.int p6), .val (.int (p1 &&& (3 : Int32))), .val (.int (p2 &&& (3 : Int32))), .val (.int (own_ch p3)), .val (.int (own_ch p4)), .val (.int (own_ch p5)), .val (.int (0 : Int32)), .val (.int (own_jk p6)), .val (.ref b7), .val (.ref (T10.heap.size)), .unset, .unset] [(.int (p2 &&& (3 : Int32))), (.ref (T10.heap.size))])) _
    refine XS.iload X12.here hx rfl (hb hby at_155) rfl ?_
    show Steps p.tables e below (T12.setTop (mkF m 157 #[.val (.int p1), .val (.int p2), .val (.int p3), .val (.int p4), .val (.int p5), .val (.int p6), .val (.int (p1 &&& (3 : Int32))), .val (.int (p2 &&& (3 : Int32))), .val (.int (own_ch p3)), .val (.int (own_ch p4)), .val (.int (own_ch p5)), .val (.int (0 : Int32)), .val (.int (own_jk p6)), .val (.ref b7), .val (.ref (T10.heap.size)), .unset, .unset] [(.int (own_ch p3)), (.int (p2 &&& (3 : Int32))), (.ref (T10.heap.size))])) _
    refine XS.iload X12.here hx rfl (hb hby at_157) rfl ?_
    show Steps p.tables e below (T12.setTop (mkF m 159 #[.val (.int p1), .val (.int p2), .val (.int p3), .val (.int p4), .val (.int p5), .val (.int p6), .val (.int (p1 &&& (3 : Int32))), .val (.int (p2 &&& (3 : Int32))), .val (.int (own_ch p3)), .val (.int (own_ch p4)), .val (.int (own_ch p5)), .val (.int (0 : Int32)), .val (.int (own_jk p6)), .val (.ref b7), .val (.ref (T10.heap.size)), .unset, .unset] [(.int (own_ch p4)), (.int (own_ch p3)), (.int (p2 &&& (3 : Int32))), (.ref (T10.heap.size))])) _
    refine XS.iload X12.here hx rfl (hb hby at_159) rfl ?_
    show Steps p.tables e below (T12.setTop (mkF m 161 #[.val (.int p1), .val (.int p2), .val (.int p3), .val (.int p4), .val (.int p5), .val (.int p6), .val (.int (p1 &&& (3 : Int32))), .val (.int (p2 &&& (3 : Int32))), .val (.int (own_ch p3)), .val (.int (own_ch p4)), .val (.int (own_ch p5)), .val (.int (0 : Int32)), .val (.int (own_jk p6)), .val (.ref b7), .val (.ref (T10.heap.size)), .unset, .unset] [(.int (own_ch p5)), (.int (own_ch p4)), (.int (own_ch p3)), (.int (p2 &&& (3 : Int32))), (.ref (T10.heap.size))])) _
    refine st13 _ ?_
    show Steps p.tables e below (T13.setTop (mkF m 164 #[.val (.int p1), .val (.int p2), .val (.int p3), .val (.int p4), .val (.int p5), .val (.int p6), .val (.int (p1 &&& (3 : Int32))), .val (.int (p2 &&& (3 : Int32))), .val (.int (own_ch p3)), .val (.int (own_ch p4)), .val (.int (own_ch p5)), .val (.int (0 : Int32)), .val (.int (own_jk p6)), .val (.ref b7), .val (.ref (T10.heap.size)), .unset, .unset] [(.int (1 : Int32))])) _
    refine XS.ifNo X13.here hx rfl (hb hby at_164) rfl ((if0 _ _).trans (feq (by decide : ¬ ((1 : Int32) = (0 : Int32)))).1) ?_
    show Steps p.tables e below (T13.setTop (mkF m 167 #[.val (.int p1), .val (.int p2), .val (.int p3), .val (.int p4), .val (.int p5), .val (.int p6), .val (.int (p1 &&& (3 : Int32))), .val (.int (p2 &&& (3 : Int32))), .val (.int (own_ch p3)), .val (.int (own_ch p4)), .val (.int (own_ch p5)), .val (.int (0 : Int32)), .val (.int (own_jk p6)), .val (.ref b7), .val (.ref (T10.heap.size)), .unset, .unset] [])) _
    refine XS.iconst X13.here hx rfl (hb hby at_167) ?_
    show Steps p.tables e below (T13.setTop (mkF m 168 #[.val (.int p1), .val (.int p2), .val (.int p3), .val (.int p4), .val (.int p5), .val (.int p6), .val (.int (p1 &&& (3 : Int32))), .val (.int (p2 &&& (3 : Int32))), .val (.int (own_ch p3)), .val (.int (own_ch p4)), .val (.int (own_ch p5)), .val (.int (0 : Int32)), .val (.int (own_jk p6)), .val (.ref b7), .val (.ref (T10.heap.size)), .unset, .unset] [(.int (1 : Int32))])) _
    refine XS.goto X13.here hx rfl (pc0 := 168) (pc' := 172) rfl (hb hby at_168) (by decide) (by decide) ?_
    show Steps p.tables e below (T13.setTop (mkF m 172 #[.val (.int p1), .val (.int p2), .val (.int p3), .val (.int p4), .val (.int p5), .val (.int p6), .val (.int (p1 &&& (3 : Int32))), .val (.int (p2 &&& (3 : Int32))), .val (.int (own_ch p3)), .val (.int (own_ch p4)), .val (.int (own_ch p5)), .val (.int (0 : Int32)), .val (.int (own_jk p6)), .val (.ref b7), .val (.ref (T10.heap.size)), .unset, .unset] [(.int (1 : Int32))])) _
    refine XS.istore X13.here hx rfl (hb hby at_172) rfl (l' := #[.val (.int p1), .val (.int p2), .val (.int p3), .val (.int p4), .val (.int p5), .val (.int p6), .val (.int (p1 &&& (3 : Int32))), .val (.int (p2 &&& (3 : Int32))), .val (.int (own_ch p3)), .val (.int (own_ch p4)), .val (.int (own_ch p5)), .val (.int (0 : Int32)), .val (.int (own_jk p6)), .val (.ref b7), .val (.ref (T10.heap.size)), .val (.int (1 : Int32)), .unset]) rfl ?_
    show Steps p.tables e below (T13.setTop (mkF m 174 #[.val (.int p1), .val (.int p2), .val (.int p3), .val (.int p4), .val (.int p5), .val (.int p6), .val (.int (p1 &&& (3 : Int32))), .val (.int (p2 &&& (3 : Int32))), .val (.int (own_ch p3)), .val (.int (own_ch p4)), .val (.int (own_ch p5)), .val (.int (0 : Int32)), .val (.int (own_jk p6)), .val (.ref b7), .val (.ref (T10.heap.size)), .val (.int (1 : Int32)), .unset] [])) _
    refine XS.iload X13.here hx rfl (hb hby at_174) rfl ?_
    show Steps p.tables e below (T13.setTop (mkF m 176 #[.val (.int p1), .val (.int p2), .val (.int p3), .val (.int p4), .val (.int p5), .val (.int p6), .val (.int (p1 &&& (3 : Int32))), .val (.int (p2 &&& (3 : Int32))), .val (.int (own_ch p3)), .val (.int (own_ch p4)), .val (.int (own_ch p5)), .val (.int (0 : Int32)), .val (.int (own_jk p6)), .val (.ref b7), .val (.ref (T10.heap.size)), .val (.int (1 : Int32)), .unset] [(.int (1 : Int32))])) _
    refine XS.ifYes X13.here hx rfl (pc0 := 176) (pc' := 181) rfl (hb hby at_176) rfl ((if0 _ _).trans (feq hc176).2) (by decide) (by decide) ?_
    show Steps p.tables e below (T13.setTop (mkF m 181 #[.val (.int p1), .val (.int p2), .val (.int p3), .val (.int p4), .val (.int p5), .val (.int p6), .val (.int (p1 &&& (3 : Int32))), .val (.int (p2 &&& (3 : Int32))), .val (.int (own_ch p3)), .val (.int (own_ch p4)), .val (.int (own_ch p5)), .val (.int (0 : Int32)), .val (.int (own_jk p6)), .val (.ref b7), .val (.ref (T10.heap.size)), .val (.int (1 : Int32)), .unset] [])) _
    refine XS.iload X13.here hx rfl (hb hby at_181) rfl ?_
    show Steps p.tables e below (T13.setTop (mkF m 183 #[.val (.int p1), .val (.int p2), .val (.int p3), .val (.int p4), .val (.int p5), .val (.int p6), .val (.int (p1 &&& (3 : Int32))), .val (.int (p2 &&& (3 : Int32))), .val (.int (own_ch p3)), .val (.int (own_ch p4)), .val (.int (own_ch p5)), .val (.int (0 : Int32)), .val (.int (own_jk p6)), .val (.ref b7), .val (.ref (T10.heap.size)), .val (.int (1 : Int32)), .unset] [(.int (p2 &&& (3 : Int32)))])) _
    refine XS.ifNo X13.here hx rfl (hb hby at_183) rfl ((if0 _ _).trans (tlt hc183).2.2.2) ?_
    show Steps p.tables e below (T13.setTop (mkF m 186 #[.val (.int p1), .val (.int p2), .val (.int p3), .val (.int p4), .val (.int p5), .val (.int p6), .val (.int (p1 &&& (3 : Int32))), .val (.int (p2 &&& (3 : Int32))), .val (.int (own_ch p3)), .val (.int (own_ch p4)), .val (.int (own_ch p5)), .val (.int (0 : Int32)), .val (.int (own_jk p6)), .val (.ref b7), .val (.ref (T10.heap.size)), .val (.int (1 : Int32)), .unset] [])) _
    refine XS.aload X13.here hx rfl (hb hby at_186) rfl rfl ?_
    show Steps p.tables e below (T13.setTop (mkF m 188 #[.val (.int p1), .val (.int p2), .val (.int p3), .val (.int p4), .val (.int p5), .val (.int p6), .val (.int (p1 &&& (3 : Int32))), .val (.int (p2 &&& (3 : Int32))), .val (.int (own_ch p3)), .val (.int (own_ch p4)), .val (.int (own_ch p5)), .val (.int (0 : Int32)), .val (.int (own_jk p6)), .val (.ref b7), .val (.ref (T10.heap.size)), .val (.int (1 : Int32)), .unset] [(.ref (T10.heap.size))])) _
    refine XS.iconst X13.here hx rfl (hb hby at_188) ?_
    show Steps p.tables e below (T13.setTop (mkF m 189 #[.val (.int p1), .val (.int p2), .val (.int p3), .val (.int p4), .val (.int p5), .val (.int p6), .val (.int (p1 &&& (3 : Int32))), .val (.int (p2 &&& (3 : Int32))), .val (.int (own_ch p3)), .val (.int (own_ch p4)), .val (.int (own_ch p5)), .val (.int (0 : Int32)), .val (.int (own_jk p6)), .val (.ref b7), .val (.ref (T10.heap.size)), .val (.int (1 : Int32)), .unset] [(.int (0 : Int32)), (.ref (T10.heap.size))])) _
    refine XS.aload X13.here hx rfl (hb hby at_189) rfl rfl ?_
    show Steps p.tables e below (T13.setTop (mkF m 191 #[.val (.int p1), .val (.int p2), .val (.int p3), .val (.int p4), .val (.int p5), .val (.int p6), .val (.int (p1 &&& (3 : Int32))), .val (.int (p2 &&& (3 : Int32))), .val (.int (own_ch p3)), .val (.int (own_ch p4)), .val (.int (own_ch p5)), .val (.int (0 : Int32)), .val (.int (own_jk p6)), .val (.ref b7), .val (.ref (T10.heap.size)), .val (.int (1 : Int32)), .unset] [(.ref (T10.heap.size)), (.int (0 : Int32)), (.ref (T10.heap.size))])) _
    refine XS.iconst X13.here hx rfl (hb hby at_191) ?_
    show Steps p.tables e below (T13.setTop (mkF m 192 #[.val (.int p1), .val (.int p2), .val (.int p3), .val (.int p4), .val (.int p5), .val (.int p6), .val (.int (p1 &&& (3 : Int32))), .val (.int (p2 &&& (3 : Int32))), .val (.int (own_ch p3)), .val (.int (own_ch p4)), .val (.int (own_ch p5)), .val (.int (0 : Int32)), .val (.int (own_jk p6)), .val (.ref b7), .val (.ref (T10.heap.size)), .val (.int (1 : Int32)), .unset] [(.int (0 : Int32)), (.ref (T10.heap.size)), (.int (0 : Int32)), (.ref (T10.heap.size))])) _
    refine X13.baloadBytes hx (j := (0 : Int32)) (v := (.int (own_by (own_ch p3)))) (by rw [hh13]; exact Arr1.1) (State.isArrayOf_alike hZ.alike Arr1.2.1) Arr1.2.2 hin192 hat192 (g := (mkF m 192 #[.val (.int p1), .val (.int p2), .val (.int p3), .val (.int p4), .val (.int p5), .val (.int p6), .val (.int (p1 &&& (3 : Int32))), .val (.int (p2 &&& (3 : Int32))), .val (.int (own_ch p3)), .val (.int (own_ch p4)), .val (.int (own_ch p5)), .val (.int (0 : Int32)), .val (.int (own_jk p6)), .val (.ref b7), .val (.ref (T10.heap.size)), .val (.int (1 : Int32)), .unset] [(.int (0 : Int32)), (.ref (T10.heap.size)), (.int (0 : Int32)), (.ref (T10.heap.size))])) rfl rfl (hb hby at_192) _ ?_
    show Steps p.tables e below (T13.setTop (mkF m 193 #[.val (.int p1), .val (.int p2), .val (.int p3), .val (.int p4), .val (.int p5), .val (.int p6), .val (.int (p1 &&& (3 : Int32))), .val (.int (p2 &&& (3 : Int32))), .val (.int (own_ch p3)), .val (.int (own_ch p4)), .val (.int (own_ch p5)), .val (.int (0 : Int32)), .val (.int (own_jk p6)), .val (.ref b7), .val (.ref (T10.heap.size)), .val (.int (1 : Int32)), .unset] [(.int (own_by (own_ch p3))), (.int (0 : Int32)), (.ref (T10.heap.size))])) _
    refine XS.bipush X13.here hx rfl (hb hby at_193) ?_
    show Steps p.tables e below (T13.setTop (mkF m 195 #[.val (.int p1), .val (.int p2), .val (.int p3), .val (.int p4), .val (.int p5), .val (.int p6), .val (.int (p1 &&& (3 : Int32))), .val (.int (p2 &&& (3 : Int32))), .val (.int (own_ch p3)), .val (.int (own_ch p4)), .val (.int (own_ch p5)), .val (.int (0 : Int32)), .val (.int (own_jk p6)), .val (.ref b7), .val (.ref (T10.heap.size)), .val (.int (1 : Int32)), .unset] [(.int (64 : Int32)), (.int (own_by (own_ch p3))), (.int (0 : Int32)), (.ref (T10.heap.size))])) _
    refine XS.ixor X13.here hx rfl (hb hby at_195) rfl ?_
    show Steps p.tables e below (T13.setTop (mkF m 196 #[.val (.int p1), .val (.int p2), .val (.int p3), .val (.int p4), .val (.int p5), .val (.int p6), .val (.int (p1 &&& (3 : Int32))), .val (.int (p2 &&& (3 : Int32))), .val (.int (own_ch p3)), .val (.int (own_ch p4)), .val (.int (own_ch p5)), .val (.int (0 : Int32)), .val (.int (own_jk p6)), .val (.ref b7), .val (.ref (T10.heap.size)), .val (.int (1 : Int32)), .unset] [(.int ((own_by (own_ch p3)) ^^^ (64 : Int32))), (.int (0 : Int32)), (.ref (T10.heap.size))])) _
    refine XS.i2b X13.here hx rfl (hb hby at_196) rfl ?_
    show Steps p.tables e below (T13.setTop (mkF m 197 #[.val (.int p1), .val (.int p2), .val (.int p3), .val (.int p4), .val (.int p5), .val (.int p6), .val (.int (p1 &&& (3 : Int32))), .val (.int (p2 &&& (3 : Int32))), .val (.int (own_ch p3)), .val (.int (own_ch p4)), .val (.int (own_ch p5)), .val (.int (0 : Int32)), .val (.int (own_jk p6)), .val (.ref b7), .val (.ref (T10.heap.size)), .val (.int (1 : Int32)), .unset] [(.int (((own_by (own_ch p3)) ^^^ (64 : Int32)).toInt8.toInt32)), (.int (0 : Int32)), (.ref (T10.heap.size))])) _
    refine st15 _ ?_
    show Steps p.tables e below (T15.setTop (mkF m 198 #[.val (.int p1), .val (.int p2), .val (.int p3), .val (.int p4), .val (.int p5), .val (.int p6), .val (.int (p1 &&& (3 : Int32))), .val (.int (p2 &&& (3 : Int32))), .val (.int (own_ch p3)), .val (.int (own_ch p4)), .val (.int (own_ch p5)), .val (.int (0 : Int32)), .val (.int (own_jk p6)), .val (.ref b7), .val (.ref (T10.heap.size)), .val (.int (1 : Int32)), .unset] [])) _
    refine XS.aload X15.here hx rfl (hb hby at_198) rfl rfl ?_
    show Steps p.tables e below (T15.setTop (mkF m 200 #[.val (.int p1), .val (.int p2), .val (.int p3), .val (.int p4), .val (.int p5), .val (.int p6), .val (.int (p1 &&& (3 : Int32))), .val (.int (p2 &&& (3 : Int32))), .val (.int (own_ch p3)), .val (.int (own_ch p4)), .val (.int (own_ch p5)), .val (.int (0 : Int32)), .val (.int (own_jk p6)), .val (.ref b7), .val (.ref (T10.heap.size)), .val (.int (1 : Int32)), .unset] [(.ref b7)])) _
    refine st16.trans ?_
    show Steps p.tables e below (T16.setTop (mkF m 203 #[.val (.int p1), .val (.int p2), .val (.int p3), .val (.int p4), .val (.int p5), .val (.int p6), .val (.int (p1 &&& (3 : Int32))), .val (.int (p2 &&& (3 : Int32))), .val (.int (own_ch p3)), .val (.int (own_ch p4)), .val (.int (own_ch p5)), .val (.int (0 : Int32)), .val (.int (own_jk p6)), .val (.ref b7), .val (.ref (T10.heap.size)), .val (.int (1 : Int32)), .unset] [(.ref (h15.size))])) _
    refine XS.astore X16.here hx rfl (hb hby at_203) rfl rfl (l' := #[.val (.int p1), .val (.int p2), .val (.int p3), .val (.int p4), .val (.int p5), .val (.int p6), .val (.int (p1 &&& (3 : Int32))), .val (.int (p2 &&& (3 : Int32))), .val (.int (own_ch p3)), .val (.int (own_ch p4)), .val (.int (own_ch p5)), .val (.int (0 : Int32)), .val (.int (own_jk p6)), .val (.ref b7), .val (.ref (T10.heap.size)), .val (.int (1 : Int32)), .val (.ref (h15.size))]) rfl ?_
    show Steps p.tables e below (T16.setTop (mkF m 205 #[.val (.int p1), .val (.int p2), .val (.int p3), .val (.int p4), .val (.int p5), .val (.int p6), .val (.int (p1 &&& (3 : Int32))), .val (.int (p2 &&& (3 : Int32))), .val (.int (own_ch p3)), .val (.int (own_ch p4)), .val (.int (own_ch p5)), .val (.int (0 : Int32)), .val (.int (own_jk p6)), .val (.ref b7), .val (.ref (T10.heap.size)), .val (.int (1 : Int32)), .val (.ref (h15.size))] [])) _
    refine XS.aload X16.here hx rfl (hb hby at_205) rfl rfl ?_
    show Steps p.tables e below (T16.setTop (mkF m 207 #[.val (.int p1), .val (.int p2), .val (.int p3), .val (.int p4), .val (.int p5), .val (.int p6), .val (.int (p1 &&& (3 : Int32))), .val (.int (p2 &&& (3 : Int32))), .val (.int (own_ch p3)), .val (.int (own_ch p4)), .val (.int (own_ch p5)), .val (.int (0 : Int32)), .val (.int (own_jk p6)), .val (.ref b7), .val (.ref (T10.heap.size)), .val (.int (1 : Int32)), .val (.ref (h15.size))] [(.ref (h15.size))])) _
    refine X16.arraylength hx (by exact Arr2.1) (State.isArrayOf_alike hZ.alike Arr2.2.1) (g := (mkF m 207 #[.val (.int p1), .val (.int p2), .val (.int p3), .val (.int p4), .val (.int p5), .val (.int p6), .val (.int (p1 &&& (3 : Int32))), .val (.int (p2 &&& (3 : Int32))), .val (.int (own_ch p3)), .val (.int (own_ch p4)), .val (.int (own_ch p5)), .val (.int (0 : Int32)), .val (.int (own_jk p6)), .val (.ref b7), .val (.ref (T10.heap.size)), .val (.int (1 : Int32)), .val (.ref (h15.size))] [(.ref (h15.size))])) rfl rfl (hb hby at_207) _ ?_
    rw [len_of Sr2 Nr2]
    show Steps p.tables e below (T16.setTop (mkF m 208 #[.val (.int p1), .val (.int p2), .val (.int p3), .val (.int p4), .val (.int p5), .val (.int p6), .val (.int (p1 &&& (3 : Int32))), .val (.int (p2 &&& (3 : Int32))), .val (.int (own_ch p3)), .val (.int (own_ch p4)), .val (.int (own_ch p5)), .val (.int (0 : Int32)), .val (.int (own_jk p6)), .val (.ref b7), .val (.ref (T10.heap.size)), .val (.int (1 : Int32)), .val (.ref (h15.size))] [(.int (Int32.ofNat (([] ++ [(own_by (own_ch p3))]) ++ [(own_by (own_ch p4))]).length))])) _
    refine XS.iload X16.here hx rfl (hb hby at_208) rfl ?_
    show Steps p.tables e below (T16.setTop (mkF m 210 #[.val (.int p1), .val (.int p2), .val (.int p3), .val (.int p4), .val (.int p5), .val (.int p6), .val (.int (p1 &&& (3 : Int32))), .val (.int (p2 &&& (3 : Int32))), .val (.int (own_ch p3)), .val (.int (own_ch p4)), .val (.int (own_ch p5)), .val (.int (0 : Int32)), .val (.int (own_jk p6)), .val (.ref b7), .val (.ref (T10.heap.size)), .val (.int (1 : Int32)), .val (.ref (h15.size))] [(.int (p2 &&& (3 : Int32))), (.int (Int32.ofNat (([] ++ [(own_by (own_ch p3))]) ++ [(own_by (own_ch p4))]).length))])) _
    refine XS.icmpNo X16.here hx rfl (hb hby at_210) rfl (teq (by rw [hn]; first | rfl | decide : (Int32.ofNat (([] ++ [(own_by (own_ch p3))]) ++ [(own_by (own_ch p4))]).length) = (p2 &&& (3 : Int32)))).2 ?_
    show Steps p.tables e below (T16.setTop (mkF m 213 #[.val (.int p1), .val (.int p2), .val (.int p3), .val (.int p4), .val (.int p5), .val (.int p6), .val (.int (p1 &&& (3 : Int32))), .val (.int (p2 &&& (3 : Int32))), .val (.int (own_ch p3)), .val (.int (own_ch p4)), .val (.int (own_ch p5)), .val (.int (0 : Int32)), .val (.int (own_jk p6)), .val (.ref b7), .val (.ref (T10.heap.size)), .val (.int (1 : Int32)), .val (.ref (h15.size))] [])) _
    refine XS.aload X16.here hx rfl (hb hby at_213) rfl rfl ?_
    show Steps p.tables e below (T16.setTop (mkF m 215 #[.val (.int p1), .val (.int p2), .val (.int p3), .val (.int p4), .val (.int p5), .val (.int p6), .val (.int (p1 &&& (3 : Int32))), .val (.int (p2 &&& (3 : Int32))), .val (.int (own_ch p3)), .val (.int (own_ch p4)), .val (.int (own_ch p5)), .val (.int (0 : Int32)), .val (.int (own_jk p6)), .val (.ref b7), .val (.ref (T10.heap.size)), .val (.int (1 : Int32)), .val (.ref (h15.size))] [(.ref (h15.size))])) _
    refine XS.iload X16.here hx rfl (hb hby at_215) rfl ?_
    show Steps p.tables e below (T16.setTop (mkF m 217 #[.val (.int p1), .val (.int p2), .val (.int p3), .val (.int p4), .val (.int p5), .val (.int p6), .val (.int (p1 &&& (3 : Int32))), .val (.int (p2 &&& (3 : Int32))), .val (.int (own_ch p3)), .val (.int (own_ch p4)), .val (.int (own_ch p5)), .val (.int (0 : Int32)), .val (.int (own_jk p6)), .val (.ref b7), .val (.ref (T10.heap.size)), .val (.int (1 : Int32)), .val (.ref (h15.size))] [(.int (p2 &&& (3 : Int32))), (.ref (h15.size))])) _
    refine XS.iload X16.here hx rfl (hb hby at_217) rfl ?_
    show Steps p.tables e below (T16.setTop (mkF m 219 #[.val (.int p1), .val (.int p2), .val (.int p3), .val (.int p4), .val (.int p5), .val (.int p6), .val (.int (p1 &&& (3 : Int32))), .val (.int (p2 &&& (3 : Int32))), .val (.int (own_ch p3)), .val (.int (own_ch p4)), .val (.int (own_ch p5)), .val (.int (0 : Int32)), .val (.int (own_jk p6)), .val (.ref b7), .val (.ref (T10.heap.size)), .val (.int (1 : Int32)), .val (.ref (h15.size))] [(.int (own_ch p3)), (.int (p2 &&& (3 : Int32))), (.ref (h15.size))])) _
    refine XS.iload X16.here hx rfl (hb hby at_219) rfl ?_
    show Steps p.tables e below (T16.setTop (mkF m 221 #[.val (.int p1), .val (.int p2), .val (.int p3), .val (.int p4), .val (.int p5), .val (.int p6), .val (.int (p1 &&& (3 : Int32))), .val (.int (p2 &&& (3 : Int32))), .val (.int (own_ch p3)), .val (.int (own_ch p4)), .val (.int (own_ch p5)), .val (.int (0 : Int32)), .val (.int (own_jk p6)), .val (.ref b7), .val (.ref (T10.heap.size)), .val (.int (1 : Int32)), .val (.ref (h15.size))] [(.int (own_ch p4)), (.int (own_ch p3)), (.int (p2 &&& (3 : Int32))), (.ref (h15.size))])) _
    refine XS.iload X16.here hx rfl (hb hby at_221) rfl ?_
    show Steps p.tables e below (T16.setTop (mkF m 223 #[.val (.int p1), .val (.int p2), .val (.int p3), .val (.int p4), .val (.int p5), .val (.int p6), .val (.int (p1 &&& (3 : Int32))), .val (.int (p2 &&& (3 : Int32))), .val (.int (own_ch p3)), .val (.int (own_ch p4)), .val (.int (own_ch p5)), .val (.int (0 : Int32)), .val (.int (own_jk p6)), .val (.ref b7), .val (.ref (T10.heap.size)), .val (.int (1 : Int32)), .val (.ref (h15.size))] [(.int (own_ch p5)), (.int (own_ch p4)), (.int (own_ch p3)), (.int (p2 &&& (3 : Int32))), (.ref (h15.size))])) _
    refine st17 _ ?_
    show Steps p.tables e below (T17.setTop (mkF m 226 #[.val (.int p1), .val (.int p2), .val (.int p3), .val (.int p4), .val (.int p5), .val (.int p6), .val (.int (p1 &&& (3 : Int32))), .val (.int (p2 &&& (3 : Int32))), .val (.int (own_ch p3)), .val (.int (own_ch p4)), .val (.int (own_ch p5)), .val (.int (0 : Int32)), .val (.int (own_jk p6)), .val (.ref b7), .val (.ref (T10.heap.size)), .val (.int (1 : Int32)), .val (.ref (h15.size))] [(.int (1 : Int32))])) _
    refine XS.ifNo X17.here hx rfl (hb hby at_226) rfl ((if0 _ _).trans (feq (by decide : ¬ ((1 : Int32) = (0 : Int32)))).1) ?_
    show Steps p.tables e below (T17.setTop (mkF m 229 #[.val (.int p1), .val (.int p2), .val (.int p3), .val (.int p4), .val (.int p5), .val (.int p6), .val (.int (p1 &&& (3 : Int32))), .val (.int (p2 &&& (3 : Int32))), .val (.int (own_ch p3)), .val (.int (own_ch p4)), .val (.int (own_ch p5)), .val (.int (0 : Int32)), .val (.int (own_jk p6)), .val (.ref b7), .val (.ref (T10.heap.size)), .val (.int (1 : Int32)), .val (.ref (h15.size))] [])) _
    refine XS.iconst X17.here hx rfl (hb hby at_229) ?_
    show Steps p.tables e below (T17.setTop (mkF m 230 #[.val (.int p1), .val (.int p2), .val (.int p3), .val (.int p4), .val (.int p5), .val (.int p6), .val (.int (p1 &&& (3 : Int32))), .val (.int (p2 &&& (3 : Int32))), .val (.int (own_ch p3)), .val (.int (own_ch p4)), .val (.int (own_ch p5)), .val (.int (0 : Int32)), .val (.int (own_jk p6)), .val (.ref b7), .val (.ref (T10.heap.size)), .val (.int (1 : Int32)), .val (.ref (h15.size))] [(.int (1 : Int32))])) _
    refine XS.goto X17.here hx rfl (pc0 := 230) (pc' := 234) rfl (hb hby at_230) (by decide) (by decide) ?_
    show Steps p.tables e below (T17.setTop (mkF m 234 #[.val (.int p1), .val (.int p2), .val (.int p3), .val (.int p4), .val (.int p5), .val (.int p6), .val (.int (p1 &&& (3 : Int32))), .val (.int (p2 &&& (3 : Int32))), .val (.int (own_ch p3)), .val (.int (own_ch p4)), .val (.int (own_ch p5)), .val (.int (0 : Int32)), .val (.int (own_jk p6)), .val (.ref b7), .val (.ref (T10.heap.size)), .val (.int (1 : Int32)), .val (.ref (h15.size))] [(.int (1 : Int32))])) _
    exact retN X17 hx (t := .boolean) Bd.returns (by simp) (hb hby at_234) hr
  · show Q0 h0 n0 _ T17.heap _
    exact ⟨rfl, N17⟩
set_option maxRecDepth 65536 in
set_option maxHeartbeats 40000000 in
theorem rm0_c0n3 (l : Launch) (Z : State) (a0 : Array Value) (hw : ∀ d ∈ tables_1, d.before a0 Z = true) (ws : List Jvm.Cond) (p1 : Int32) (p2 : Int32) (p3 : Int32) (p4 : Int32) (p5 : Int32) (p6 : Int32) (h0 : Heap) (n0 : Nat) (Z0 : n0 ≤ h0.size) (cap : Nat) (hcap : (p1 &&& (3 : Int32)) = Int32.ofNat cap) (hcap3 : cap ≤ 3) (hn : (p2 &&& (3 : Int32)) = (3 : Int32)) (hc36 : (p6 &&& (1 : Int32)) = (0 : Int32)) :
    MetFree l x (head1 (Jvm.Cond.code x code maxLocals ret :: ws) room_1) (fun a U => a = #[(.int p1), (.int p2), (.int p3), (.int p4), (.int p5), (.int p6)] ∧ Z.Warmed39 U.vm ∧ U.heap = h0) (fun _ _ _ _ _ => True) (fun _ U o U' => ∃ v L, o = .returned v ∧ Q0 h0 n0 v U'.heap L ∧ FrameEnd U o U' L room_1.cells room_1.slots) := by
  have hc87 : (0 : Int32) < (p2 &&& (3 : Int32)) := by rw [hn]; decide
  have hc101 : (1 : Int32) < (p2 &&& (3 : Int32)) := by rw [hn]; decide
  have hc115 : (2 : Int32) < (p2 &&& (3 : Int32)) := by rw [hn]; decide
  have hc183 : (0 : Int32) < (p2 &&& (3 : Int32)) := by rw [hn]; decide
  have hc176 : ¬ ((1 : Int32) = (0 : Int32)) := by decide
  refine MetFree.of_bodySF (plainFor_of_name pn_0) hisR ?_
  intro p e s m args below meth c s₁ Bd hml0 hP hK
  obtain ⟨rfl, hZ, hh⟩ := hP
  have hx := Bd.exec
  have hby := Bd.bytes
  have hml : c.maxLocals = 17 := hml0
  have hown : s.vm.findClass "com/example/acompte/acompte/Utf8BuilderToByteArrayPinLaw" = some m.cls := findClass_of_methodNamed Bd.named
  have hnm := (name_of_methodNamed Bd.named Bd.method).1
  have X0 : Stand p l e room_1 s m #[(.int p1), (.int p2), (.int p3), (.int p4), (.int p5), (.int p6)] below meth c s₁ [] 0 0 := Stand.of_body Bd
  have e0 : s₁.heap = h0 := by rw [← hh, Bd.state]; rfl
  have N0 := Fr.nil n0
  have pre0 : ∀ t, Steps p.tables e below (s₁.setTop (mkF m 0 #[.val (.int p1), .val (.int p2), .val (.int p3), .val (.int p4), .val (.int p5), .val (.int p6), .unset, .unset, .unset, .unset, .unset, .unset, .unset, .unset, .unset, .unset, .unset] [])) t → Steps p.tables e below (s₁.setTop (entryFrame m #[(.int p1), (.int p2), (.int p3), (.int p4), (.int p5), (.int p6)] maxLocals)) t := fun t k => castTop (ef_0 m p1 p2 p3 p4 p5 p6) k
  -- 3. LAWS
  obtain ⟨T7, h7, X7, e7, E7, A7, D7, -, st7⟩ := newO X0 hx hZ hown (hw _ (List.mem_of_getElem? (i := 0) rfl)) (hw _ (List.mem_of_getElem? (i := 1) rfl)) (hw _ (List.mem_of_getElem? (i := 2) rfl)) e0 (g := (mkF m 56 #[.val (.int p1), .val (.int p2), .val (.int p3), .val (.int p4), .val (.int p5), .val (.int p6), .val (.int (p1 &&& (3 : Int32))), .val (.int (p2 &&& (3 : Int32))), .val (.int (own_ch p3)), .val (.int (own_ch p4)), .val (.int (own_ch p5)), .val (.int (0 : Int32)), .val (.int (own_jk p6)), .unset, .unset, .unset, .unset] [])) rfl (hb hby at_56) (by decide) (by decide)
  obtain ⟨b7, g7⟩ : ∃ z, z = h0.size := ⟨_, rfl⟩      -- the fresh object's address
  rw [← g7] at A7 D7 st7      -- A7 : Exa Z h7 b7 "com/example/acompte/acompte/Utf8Builder"; E7 : Ext h0 h7 (carries every older fact: .ext E7)
  have F_bytes_b7 : Fld Z h7 b7 "com/example/acompte/acompte/Utf8Builder" "bytes" "[B" .null := D7 (Or.inl (hw _ (List.mem_of_getElem? (i := 11) rfl))) (ty := (.array .byte)) (by decide)
  have F_length_b7 : Fld Z h7 b7 "com/example/acompte/acompte/Utf8Builder" "length" "I" (.int (0 : Int32)) := D7 (Or.inl (hw _ (List.mem_of_getElem? (i := 22) rfl))) (ty := .int) (by decide)
  have E_b7 := A7
  have g_b7 : n0 ≤ b7 := Nat.le_trans Z0 (Nat.le_of_eq g7.symm)
  obtain ⟨_, _, ⟨T8, L8, k8, n8⟩, -, X8, ⟨Lc8, hQ8, l8, y8, z8⟩, st8⟩ := X7.specialBack hx (y := (⟨"com/example/acompte/acompte/Utf8Builder", "<init>", "(I)V"⟩ : MethodName)) rfl hown (mvT hZ (hw _ (List.mem_of_getElem? (i := 3) rfl))) (mvT hZ (hw _ (List.mem_of_getElem? (i := 4) rfl))) (mvT hZ (hw _ (List.mem_of_getElem? (i := 5) rfl))) (by decide) (backOf (W := 1) (rm1_i l Z a0 hw [] b7 (p1 &&& (3 : Int32)) .null cap h7 n0 (Nat.le_trans Z0 E7.1) E_b7 F_bytes_b7 F_length_b7 g_b7 hcap hcap3) hZ (hw _ (List.mem_of_getElem? (i := 5) rfl)) (hw _ (List.mem_of_getElem? (i := 2) rfl)) (by decide) (by decide)) (g := (mkF m 62 #[.val (.int p1), .val (.int p2), .val (.int p3), .val (.int p4), .val (.int p5), .val (.int p6), .val (.int (p1 &&& (3 : Int32))), .val (.int (p2 &&& (3 : Int32))), .val (.int (own_ch p3)), .val (.int (own_ch p4)), .val (.int (own_ch p5)), .val (.int (0 : Int32)), .val (.int (own_jk p6)), .unset, .unset, .unset, .unset] [(.int (p1 &&& (3 : Int32))), (.ref b7), (.ref b7)])) rfl (by rw [hml]; rfl) (Steps.refl _) (a := b7) (argsL := [(.int (p1 &&& (3 : Int32)))]) (rest := [(.ref b7)]) (lenOf pdw_4 rfl) rfl (by show 2 * 0 + _ ≤ _; exact Nat.le_of_eq rfl) (hb hby at_62) (fun _ _ => ⟨rfl, e7, (by decide : 1 + 1 ≤ _), (by decide : 2 + 8 ≤ _)⟩)
  dsimp only [Pt.U, Pt.locs, Pt.cells, Pt.slots] at X8 l8 y8 z8 st8 hQ8
  subst l8 y8 z8
  obtain ⟨rfl, N8q, zh, BB⟩ := hQ8
  have ZB : n0 ≤ T8.heap.size := Nat.le_trans (Nat.le_trans Z0 E7.1) zh
  have EB := BB.exa
  have N8 := Fr.app N0 N8q
  obtain ⟨cq9, kq9, q9a, q9b, q9c⟩ := isOf hZ rfl EB
  obtain ⟨_, _, ⟨T9, L9, k9, n9⟩, -, X9, ⟨Lc9, hQ9, l9, y9, z9⟩, st9⟩ := X8.virtualBack hx (y := (⟨"com/example/acompte/acompte/Utf8Builder", "append", "(C)Lcom/example/acompte/acompte/Utf8Builder;"⟩ : MethodName)) (z := (⟨"com/example/acompte/acompte/Utf8Builder", "append", "(C)Lcom/example/acompte/acompte/Utf8Builder;"⟩ : MethodName)) hown (mvT hZ (hw _ (List.mem_of_getElem? (i := 12) rfl))) (mvT hZ (hw _ (List.mem_of_getElem? (i := 13) rfl))) (notFace_of_selects (args := #[]) (mvT hZ (hw _ (List.mem_of_getElem? (i := 15) rfl)))) (mvT hZ (hw _ (List.mem_of_getElem? (i := 15) rfl))) (mvT hZ (hw _ (List.mem_of_getElem? (i := 14) rfl))) (by decide) (backOf (W := 0) (rm3_a l Z a0 hw [] b7 (own_ch p3) cap [] T8.heap n0 ZB BB (by first | decide | simp)) hZ (hw _ (List.mem_of_getElem? (i := 16) rfl)) (hw _ (List.mem_of_getElem? (i := 2) rfl)) (by decide) (by decide)) q9a q9c (g := (mkF m 94 #[.val (.int p1), .val (.int p2), .val (.int p3), .val (.int p4), .val (.int p5), .val (.int p6), .val (.int (p1 &&& (3 : Int32))), .val (.int (p2 &&& (3 : Int32))), .val (.int (own_ch p3)), .val (.int (own_ch p4)), .val (.int (own_ch p5)), .val (.int (0 : Int32)), .val (.int (own_jk p6)), .val (.ref b7), .unset, .unset, .unset] [(.int (own_ch p3)), (.ref b7)])) rfl (by rw [hml]; rfl) (Steps.refl _) (argsL := [(.int (own_ch p3))]) (rest := []) (lenOf pdw_8 rfl) rfl (by show 2 * 0 + _ ≤ _; exact Nat.le_of_eq rfl) (hb hby at_94) (fun _ _ => ⟨rfl, rfl, (by decide : 2 + 1 ≤ _), (by decide : 10 + 8 ≤ _)⟩)
  dsimp only [Pt.U, Pt.locs, Pt.cells, Pt.slots] at X9 l9 y9 z9 st9 hQ9
  subst l9 y9 z9
  obtain ⟨rfl, N9q, zh, c9, BB⟩ := hQ9
  have ZB : n0 ≤ T9.heap.size := Nat.le_trans ZB zh
  have EB := BB.exa
  have N9 := Fr.app N8 N9q
  obtain ⟨cq10, kq10, q10a, q10b, q10c⟩ := isOf hZ rfl EB
  obtain ⟨_, _, ⟨T10, L10, k10, n10⟩, -, X10, ⟨Lc10, hQ10, l10, y10, z10⟩, st10⟩ := X9.virtualBack hx (y := (⟨"com/example/acompte/acompte/Utf8Builder", "append", "(C)Lcom/example/acompte/acompte/Utf8Builder;"⟩ : MethodName)) (z := (⟨"com/example/acompte/acompte/Utf8Builder", "append", "(C)Lcom/example/acompte/acompte/Utf8Builder;"⟩ : MethodName)) hown (mvT hZ (hw _ (List.mem_of_getElem? (i := 12) rfl))) (mvT hZ (hw _ (List.mem_of_getElem? (i := 13) rfl))) (notFace_of_selects (args := #[]) (mvT hZ (hw _ (List.mem_of_getElem? (i := 15) rfl)))) (mvT hZ (hw _ (List.mem_of_getElem? (i := 15) rfl))) (mvT hZ (hw _ (List.mem_of_getElem? (i := 14) rfl))) (by decide) (backOf (W := 0) (rm3_a l Z a0 hw [] b7 (own_ch p4) c9 ([] ++ [(own_by (own_ch p3))]) T9.heap n0 ZB BB (by first | decide | simp)) hZ (hw _ (List.mem_of_getElem? (i := 16) rfl)) (hw _ (List.mem_of_getElem? (i := 2) rfl)) (by decide) (by decide)) q10a q10c (g := (mkF m 108 #[.val (.int p1), .val (.int p2), .val (.int p3), .val (.int p4), .val (.int p5), .val (.int p6), .val (.int (p1 &&& (3 : Int32))), .val (.int (p2 &&& (3 : Int32))), .val (.int (own_ch p3)), .val (.int (own_ch p4)), .val (.int (own_ch p5)), .val (.int (0 : Int32)), .val (.int (own_jk p6)), .val (.ref b7), .unset, .unset, .unset] [(.int (own_ch p4)), (.ref b7)])) rfl (by rw [hml]; rfl) (Steps.refl _) (argsL := [(.int (own_ch p4))]) (rest := []) (lenOf pdw_8 rfl) rfl (by show 2 * 0 + _ ≤ _; exact Nat.le_of_eq rfl) (hb hby at_108) (fun _ _ => ⟨rfl, rfl, (by decide : 3 + 1 ≤ _), (by decide : 18 + 8 ≤ _)⟩)
  dsimp only [Pt.U, Pt.locs, Pt.cells, Pt.slots] at X10 l10 y10 z10 st10 hQ10
  subst l10 y10 z10
  obtain ⟨rfl, N10q, zh, c10, BB⟩ := hQ10
  have ZB : n0 ≤ T10.heap.size := Nat.le_trans ZB zh
  have EB := BB.exa
  have N10 := Fr.app N9 N10q
  obtain ⟨cq11, kq11, q11a, q11b, q11c⟩ := isOf hZ rfl EB
  obtain ⟨_, _, ⟨T11, L11, k11, n11⟩, -, X11, ⟨Lc11, hQ11, l11, y11, z11⟩, st11⟩ := X10.virtualBack hx (y := (⟨"com/example/acompte/acompte/Utf8Builder", "append", "(C)Lcom/example/acompte/acompte/Utf8Builder;"⟩ : MethodName)) (z := (⟨"com/example/acompte/acompte/Utf8Builder", "append", "(C)Lcom/example/acompte/acompte/Utf8Builder;"⟩ : MethodName)) hown (mvT hZ (hw _ (List.mem_of_getElem? (i := 12) rfl))) (mvT hZ (hw _ (List.mem_of_getElem? (i := 13) rfl))) (notFace_of_selects (args := #[]) (mvT hZ (hw _ (List.mem_of_getElem? (i := 15) rfl)))) (mvT hZ (hw _ (List.mem_of_getElem? (i := 15) rfl))) (mvT hZ (hw _ (List.mem_of_getElem? (i := 14) rfl))) (by decide) (backOf (W := 0) (rm3_a l Z a0 hw [] b7 (own_ch p5) c10 (([] ++ [(own_by (own_ch p3))]) ++ [(own_by (own_ch p4))]) T10.heap n0 ZB BB (by first | decide | simp)) hZ (hw _ (List.mem_of_getElem? (i := 16) rfl)) (hw _ (List.mem_of_getElem? (i := 2) rfl)) (by decide) (by decide)) q11a q11c (g := (mkF m 122 #[.val (.int p1), .val (.int p2), .val (.int p3), .val (.int p4), .val (.int p5), .val (.int p6), .val (.int (p1 &&& (3 : Int32))), .val (.int (p2 &&& (3 : Int32))), .val (.int (own_ch p3)), .val (.int (own_ch p4)), .val (.int (own_ch p5)), .val (.int (0 : Int32)), .val (.int (own_jk p6)), .val (.ref b7), .unset, .unset, .unset] [(.int (own_ch p5)), (.ref b7)])) rfl (by rw [hml]; rfl) (Steps.refl _) (argsL := [(.int (own_ch p5))]) (rest := []) (lenOf pdw_8 rfl) rfl (by show 2 * 0 + _ ≤ _; exact Nat.le_of_eq rfl) (hb hby at_122) (fun _ _ => ⟨rfl, rfl, (by decide : 4 + 1 ≤ _), (by decide : 26 + 8 ≤ _)⟩)
  dsimp only [Pt.U, Pt.locs, Pt.cells, Pt.slots] at X11 l11 y11 z11 st11 hQ11
  subst l11 y11 z11
  obtain ⟨rfl, N11q, zh, c11, BB⟩ := hQ11
  have ZB : n0 ≤ T11.heap.size := Nat.le_trans ZB zh
  have EB := BB.exa
  have N11 := Fr.app N10 N11q
  obtain ⟨cq12, kq12, q12a, q12b, q12c⟩ := isOf hZ rfl EB
  obtain ⟨_, _, ⟨T12, L12, k12, n12⟩, -, X12, ⟨Lc12, hQ12, l12, y12, z12⟩, st12⟩ := X11.virtualBack hx (y := (⟨"com/example/acompte/acompte/Utf8Builder", "toByteArray", "()[B"⟩ : MethodName)) (z := (⟨"com/example/acompte/acompte/Utf8Builder", "toByteArray", "()[B"⟩ : MethodName)) hown (mvT hZ (hw _ (List.mem_of_getElem? (i := 43) rfl))) (mvT hZ (hw _ (List.mem_of_getElem? (i := 44) rfl))) (notFace_of_selects (args := #[]) (mvT hZ (hw _ (List.mem_of_getElem? (i := 46) rfl)))) (mvT hZ (hw _ (List.mem_of_getElem? (i := 46) rfl))) (mvT hZ (hw _ (List.mem_of_getElem? (i := 45) rfl))) (by decide) (backOf (W := 0) (rm9_t l Z a0 hw [] b7 c11 ((([] ++ [(own_by (own_ch p3))]) ++ [(own_by (own_ch p4))]) ++ [(own_by (own_ch p5))]) T11.heap n0 ZB BB) hZ (hw _ (List.mem_of_getElem? (i := 47) rfl)) (hw _ (List.mem_of_getElem? (i := 2) rfl)) (by decide) (by decide)) q12a q12c (g := (mkF m 128 #[.val (.int p1), .val (.int p2), .val (.int p3), .val (.int p4), .val (.int p5), .val (.int p6), .val (.int (p1 &&& (3 : Int32))), .val (.int (p2 &&& (3 : Int32))), .val (.int (own_ch p3)), .val (.int (own_ch p4)), .val (.int (own_ch p5)), .val (.int (0 : Int32)), .val (.int (own_jk p6)), .val (.ref b7), .unset, .unset, .unset] [(.ref b7)])) rfl (by rw [hml]; rfl) (Steps.refl _) (argsL := []) (rest := []) (lenOf pdw_5 rfl) rfl (by show 2 * 0 + _ ≤ _; exact Nat.le_of_eq rfl) (hb hby at_128) (fun _ _ => ⟨rfl, rfl, (by decide : 5 + 1 ≤ _), (by decide : 34 + 8 ≤ _)⟩)
  dsimp only [Pt.U, Pt.locs, Pt.cells, Pt.slots] at X12 l12 y12 z12 st12 hQ12
  subst l12 y12 z12
  obtain ⟨rfl, N12q, K12, k12', us12, V12, hus12⟩ := hQ12
  have BB1 := BB
  have g_r1 := ZB
  have BB := BB.keep K12
  have ZB : n0 ≤ T12.heap.size := Nat.le_trans ZB K12.1
  have EB := BB.exa
  have FL := BB.len
  have V12' := V12
  obtain ⟨clr1, Arr1, qr1, Sr1, Nr1, Hr1, Gr1⟩ := V12'
  have N12 := Fr.app N11 N12q
  obtain ⟨cq13, kq13, q13a, q13b, q13c⟩ := isOf hZ rfl EB
  obtain ⟨_, _, ⟨T13, L13, k13, n13⟩, -, X13, ⟨Lc13, hQ13, l13, y13, z13⟩, st13⟩ := X12.virtualBack hx (y := (⟨"com/example/acompte/acompte/Utf8Builder", "length", "()I"⟩ : MethodName)) (z := (⟨"com/example/acompte/acompte/Utf8Builder", "length", "()I"⟩ : MethodName)) hown (mvT hZ (hw _ (List.mem_of_getElem? (i := 48) rfl))) (mvT hZ (hw _ (List.mem_of_getElem? (i := 49) rfl))) (notFace_of_selects (args := #[]) (mvT hZ (hw _ (List.mem_of_getElem? (i := 51) rfl)))) (mvT hZ (hw _ (List.mem_of_getElem? (i := 51) rfl))) (mvT hZ (hw _ (List.mem_of_getElem? (i := 50) rfl))) (by decide) (backOf (W := 0) (rm10 l Z a0 hw [] b7 (Int32.ofNat ((([] ++ [(own_by (own_ch p3))]) ++ [(own_by (own_ch p4))]) ++ [(own_by (own_ch p5))]).length) T12.heap n0 ZB FL) hZ (hw _ (List.mem_of_getElem? (i := 52) rfl)) (hw _ (List.mem_of_getElem? (i := 2) rfl)) (by decide) (by decide)) q13a q13c (g := (mkF m 143 #[.val (.int p1), .val (.int p2), .val (.int p3), .val (.int p4), .val (.int p5), .val (.int p6), .val (.int (p1 &&& (3 : Int32))), .val (.int (p2 &&& (3 : Int32))), .val (.int (own_ch p3)), .val (.int (own_ch p4)), .val (.int (own_ch p5)), .val (.int (0 : Int32)), .val (.int (own_jk p6)), .val (.ref b7), .val (.ref (T11.heap.size)), .unset, .unset] [(.ref b7)])) rfl (by rw [hml]; rfl) (Steps.refl _) (argsL := []) (rest := []) (lenOf pdw_6 rfl) rfl (by show 2 * 0 + _ ≤ _; exact Nat.le_of_eq rfl) (hb hby at_143) (fun _ _ => ⟨rfl, rfl, (by decide : 6 + 0 ≤ _), (by decide : 42 + 0 ≤ _)⟩)
  dsimp only [Pt.U, Pt.locs, Pt.cells, Pt.slots] at X13 l13 y13 z13 st13 hQ13
  subst l13 y13 z13
  obtain ⟨rfl, N13q, hh13⟩ := hQ13
  have N13 := Fr.app N12 N13q
  obtain ⟨_, _, ⟨T14, L14, k14, n14⟩, -, X14, ⟨Lc14, hQ14, l14, y14, z14⟩, st14⟩ := Jvm.LawKit.callS X13 hx (y := (⟨"com/example/acompte/acompte/Utf8BuilderToByteArrayPinLaw", "matches", "([BICCC)Z"⟩ : MethodName)) hown (mvT hZ (hw _ (List.mem_of_getElem? (i := 53) rfl))) (mvT hZ (hw _ (List.mem_of_getElem? (i := 54) rfl))) (mvT hZ (hw _ (List.mem_of_getElem? (i := 55) rfl))) (mvT hZ (hw _ (List.mem_of_getElem? (i := 56) rfl))) (by decide) (backOf (W := 0) (rm11_n3 l Z a0 hw [] (T11.heap.size) (p2 &&& (3 : Int32)) (own_ch p3) (own_ch p4) (own_ch p5) (own_by (own_ch p3)) clr1 (own_by (own_ch p4)) (own_by (own_ch p5)) T12.heap n0 ZB Arr1 (inb_of Sr1 ⟨by decide, (show (0 : Int32) < Int32.ofNat 3 from by decide)⟩) (Has.at Hr1 (inb_of Sr1 ⟨by decide, (show (0 : Int32) < Int32.ofNat 3 from by decide)⟩) (hus12 0 (by first | decide | simp))) (inb_of Sr1 ⟨by decide, (show (1 : Int32) < Int32.ofNat 3 from by decide)⟩) (Has.at Hr1 (inb_of Sr1 ⟨by decide, (show (1 : Int32) < Int32.ofNat 3 from by decide)⟩) (hus12 1 (by first | decide | simp))) (inb_of Sr1 ⟨by decide, (show (2 : Int32) < Int32.ofNat 3 from by decide)⟩) (Has.at Hr1 (inb_of Sr1 ⟨by decide, (show (2 : Int32) < Int32.ofNat 3 from by decide)⟩) (hus12 2 (by first | decide | simp))) (by rw [hn]; decide) (own_idem _) (by rw [hn]; decide) (own_idem _) (by rw [hn]; decide) (own_idem _)) hZ (hw _ (List.mem_of_getElem? (i := 56) rfl)) (hw _ (List.mem_of_getElem? (i := 55) rfl)) (by decide) (by decide)) (g := (mkF m 161 #[.val (.int p1), .val (.int p2), .val (.int p3), .val (.int p4), .val (.int p5), .val (.int p6), .val (.int (p1 &&& (3 : Int32))), .val (.int (p2 &&& (3 : Int32))), .val (.int (own_ch p3)), .val (.int (own_ch p4)), .val (.int (own_ch p5)), .val (.int (0 : Int32)), .val (.int (own_jk p6)), .val (.ref b7), .val (.ref (T11.heap.size)), .unset, .unset] [(.int (own_ch p5)), (.int (own_ch p4)), (.int (own_ch p3)), (.int (p2 &&& (3 : Int32))), (.ref (T11.heap.size))])) rfl (by rw [hml]; rfl) (argsL := [(.ref (T11.heap.size)), (.int (p2 &&& (3 : Int32))), (.int (own_ch p3)), (.int (own_ch p4)), (.int (own_ch p5))]) (rest := []) (lenOf pdw_7 rfl) rfl (by show 2 * 0 + _ ≤ _; exact Nat.le_of_eq rfl) (hb hby at_161) (fun _ _ => ⟨rfl, hh13, (by decide : 6 + 0 ≤ _), (by decide : 42 + 0 ≤ _)⟩)
  dsimp only [Pt.U, Pt.locs, Pt.cells, Pt.slots] at X14 l14 y14 z14 st14 hQ14
  subst l14 y14 z14
  obtain ⟨rfl, N14q, hh14⟩ := hQ14
  have N14 := Fr.app N13 N14q
  have hin197 : ¬ ((0 : Int32) < 0 ∨ clr1.slots.size ≤ ((0 : Int32)).toNatClampNeg) := inb_of Sr1 ⟨by decide, (show (0 : Int32) < Int32.ofNat 3 from by decide)⟩
  have hin192 := hin197
  have hat192 : clr1.slots[((0 : Int32)).toNatClampNeg]? = some (.int (own_by (own_ch p3))) := Has.at Hr1 hin197 (hus12 0 (by first | decide | simp))
  obtain ⟨T16, h16, X16, e16, W16, st16⟩ := stB X14 hx hZ hh14 Arr1 (j := (0 : Int32)) hin197 (g := (mkF m 197 #[.val (.int p1), .val (.int p2), .val (.int p3), .val (.int p4), .val (.int p5), .val (.int p6), .val (.int (p1 &&& (3 : Int32))), .val (.int (p2 &&& (3 : Int32))), .val (.int (own_ch p3)), .val (.int (own_ch p4)), .val (.int (own_ch p5)), .val (.int (0 : Int32)), .val (.int (own_jk p6)), .val (.ref b7), .val (.ref (T11.heap.size)), .val (.int (1 : Int32)), .unset] [(.int (((own_by (own_ch p3)) ^^^ (64 : Int32)).toInt8.toInt32)), (.int (0 : Int32)), (.ref (T11.heap.size))])) rfl rfl (hb hby at_197)
  have BB := BB1.keepwr K12 W16 (Nat.le_refl _)
  have EB := BB.exa
  have ZB : n0 ≤ h16.size := by rw [W16.size]; exact ZB
  have N16 := Fr.snoc X16 N14 g_r1
  obtain ⟨cq17, kq17, q17a, q17b, q17c⟩ := isOf hZ e16 EB
  obtain ⟨_, _, ⟨T17, L17, k17, n17⟩, -, X17, ⟨Lc17, hQ17, l17, y17, z17⟩, st17⟩ := X16.virtualBack hx (y := (⟨"com/example/acompte/acompte/Utf8Builder", "toByteArray", "()[B"⟩ : MethodName)) (z := (⟨"com/example/acompte/acompte/Utf8Builder", "toByteArray", "()[B"⟩ : MethodName)) hown (mvT hZ (hw _ (List.mem_of_getElem? (i := 43) rfl))) (mvT hZ (hw _ (List.mem_of_getElem? (i := 44) rfl))) (notFace_of_selects (args := #[]) (mvT hZ (hw _ (List.mem_of_getElem? (i := 46) rfl)))) (mvT hZ (hw _ (List.mem_of_getElem? (i := 46) rfl))) (mvT hZ (hw _ (List.mem_of_getElem? (i := 45) rfl))) (by decide) (backOf (W := 0) (rm9_t l Z a0 hw [] b7 c11 ((([] ++ [(own_by (own_ch p3))]) ++ [(own_by (own_ch p4))]) ++ [(own_by (own_ch p5))]) h16 n0 ZB BB) hZ (hw _ (List.mem_of_getElem? (i := 47) rfl)) (hw _ (List.mem_of_getElem? (i := 2) rfl)) (by decide) (by decide)) q17a q17c (g := (mkF m 200 #[.val (.int p1), .val (.int p2), .val (.int p3), .val (.int p4), .val (.int p5), .val (.int p6), .val (.int (p1 &&& (3 : Int32))), .val (.int (p2 &&& (3 : Int32))), .val (.int (own_ch p3)), .val (.int (own_ch p4)), .val (.int (own_ch p5)), .val (.int (0 : Int32)), .val (.int (own_jk p6)), .val (.ref b7), .val (.ref (T11.heap.size)), .val (.int (1 : Int32)), .unset] [(.ref b7)])) rfl (by rw [hml]; rfl) (Steps.refl _) (argsL := []) (rest := []) (lenOf pdw_5 rfl) rfl (by show 2 * 0 + _ ≤ _; exact Nat.le_of_eq rfl) (hb hby at_200) (fun _ _ => ⟨rfl, e16, (by decide : 6 + 1 ≤ _), (by decide : 42 + 8 ≤ _)⟩)
  dsimp only [Pt.U, Pt.locs, Pt.cells, Pt.slots] at X17 l17 y17 z17 st17 hQ17
  subst l17 y17 z17
  obtain ⟨rfl, N17q, K17, k17', us17, V17, hus17⟩ := hQ17
  have ZB : n0 ≤ T17.heap.size := Nat.le_trans ZB K17.1
  have V17' := V17
  obtain ⟨clr2, Arr2, qr2, Sr2, Nr2, Hr2, Gr2⟩ := V17'
  have N17 := Fr.app N16 N17q
  obtain ⟨_, _, ⟨T18, L18, k18, n18⟩, -, X18, ⟨Lc18, hQ18, l18, y18, z18⟩, st18⟩ := Jvm.LawKit.callS X17 hx (y := (⟨"com/example/acompte/acompte/Utf8BuilderToByteArrayPinLaw", "matches", "([BICCC)Z"⟩ : MethodName)) hown (mvT hZ (hw _ (List.mem_of_getElem? (i := 53) rfl))) (mvT hZ (hw _ (List.mem_of_getElem? (i := 54) rfl))) (mvT hZ (hw _ (List.mem_of_getElem? (i := 55) rfl))) (mvT hZ (hw _ (List.mem_of_getElem? (i := 56) rfl))) (by decide) (backOf (W := 0) (rm11_n3 l Z a0 hw [] (h16.size) (p2 &&& (3 : Int32)) (own_ch p3) (own_ch p4) (own_ch p5) (own_by (own_ch p3)) clr2 (own_by (own_ch p4)) (own_by (own_ch p5)) T17.heap n0 ZB Arr2 (inb_of Sr2 ⟨by decide, (show (0 : Int32) < Int32.ofNat 3 from by decide)⟩) (Has.at Hr2 (inb_of Sr2 ⟨by decide, (show (0 : Int32) < Int32.ofNat 3 from by decide)⟩) (hus17 0 (by first | decide | simp))) (inb_of Sr2 ⟨by decide, (show (1 : Int32) < Int32.ofNat 3 from by decide)⟩) (Has.at Hr2 (inb_of Sr2 ⟨by decide, (show (1 : Int32) < Int32.ofNat 3 from by decide)⟩) (hus17 1 (by first | decide | simp))) (inb_of Sr2 ⟨by decide, (show (2 : Int32) < Int32.ofNat 3 from by decide)⟩) (Has.at Hr2 (inb_of Sr2 ⟨by decide, (show (2 : Int32) < Int32.ofNat 3 from by decide)⟩) (hus17 2 (by first | decide | simp))) (by rw [hn]; decide) (own_idem _) (by rw [hn]; decide) (own_idem _) (by rw [hn]; decide) (own_idem _)) hZ (hw _ (List.mem_of_getElem? (i := 56) rfl)) (hw _ (List.mem_of_getElem? (i := 55) rfl)) (by decide) (by decide)) (g := (mkF m 223 #[.val (.int p1), .val (.int p2), .val (.int p3), .val (.int p4), .val (.int p5), .val (.int p6), .val (.int (p1 &&& (3 : Int32))), .val (.int (p2 &&& (3 : Int32))), .val (.int (own_ch p3)), .val (.int (own_ch p4)), .val (.int (own_ch p5)), .val (.int (0 : Int32)), .val (.int (own_jk p6)), .val (.ref b7), .val (.ref (T11.heap.size)), .val (.int (1 : Int32)), .val (.ref (h16.size))] [(.int (own_ch p5)), (.int (own_ch p4)), (.int (own_ch p3)), (.int (p2 &&& (3 : Int32))), (.ref (h16.size))])) rfl (by rw [hml]; rfl) (argsL := [(.ref (h16.size)), (.int (p2 &&& (3 : Int32))), (.int (own_ch p3)), (.int (own_ch p4)), (.int (own_ch p5))]) (rest := []) (lenOf pdw_7 rfl) rfl (by show 2 * 0 + _ ≤ _; exact Nat.le_of_eq rfl) (hb hby at_223) (fun _ _ => ⟨rfl, rfl, (by decide : 7 + 0 ≤ _), (by decide : 50 + 0 ≤ _)⟩)
  dsimp only [Pt.U, Pt.locs, Pt.cells, Pt.slots] at X18 l18 y18 z18 st18 hQ18
  subst l18 y18 z18
  obtain ⟨rfl, N18q, hh18⟩ := hQ18
  have N18 := Fr.app N17 N18q
  obtain ⟨fs, hr, hrun, hended, hW, hsame⟩ := X18.leave (v := some (.int (1 : Int32))) (fun h => by rw [Bd.returns] at h; cases h)
  refine ⟨_, _, pre0 _ ?_, hrun, hended, _, _, rfl, ?_, ⟨_, rfl⟩, hW, hsame.mono (by decide) (by decide)⟩
  -- 4. STEPS
  · show Steps p.tables e below (s₁.setTop (mkF m 0 #[.val (.int p1), .val (.int p2), .val (.int p3), .val (.int p4), .val (.int p5), .val (.int p6), .unset, .unset, .unset, .unset, .unset, .unset, .unset, .unset, .unset, .unset, .unset] [])) _
    refine XS.iloadN X0.here hx rfl (hb hby at_0) rfl ?_
    show Steps p.tables e below (s₁.setTop (mkF m 1 #[.val (.int p1), .val (.int p2), .val (.int p3), .val (.int p4), .val (.int p5), .val (.int p6), .unset, .unset, .unset, .unset, .unset, .unset, .unset, .unset, .unset, .unset, .unset] [(.int p1)])) _
    refine XS.iconst X0.here hx rfl (hb hby at_1) ?_
    show Steps p.tables e below (s₁.setTop (mkF m 2 #[.val (.int p1), .val (.int p2), .val (.int p3), .val (.int p4), .val (.int p5), .val (.int p6), .unset, .unset, .unset, .unset, .unset, .unset, .unset, .unset, .unset, .unset, .unset] [(.int (3 : Int32)), (.int p1)])) _
    refine XS.iand X0.here hx rfl (hb hby at_2) rfl ?_
    show Steps p.tables e below (s₁.setTop (mkF m 3 #[.val (.int p1), .val (.int p2), .val (.int p3), .val (.int p4), .val (.int p5), .val (.int p6), .unset, .unset, .unset, .unset, .unset, .unset, .unset, .unset, .unset, .unset, .unset] [(.int (p1 &&& (3 : Int32)))])) _
    refine XS.istore X0.here hx rfl (hb hby at_3) rfl (l' := #[.val (.int p1), .val (.int p2), .val (.int p3), .val (.int p4), .val (.int p5), .val (.int p6), .val (.int (p1 &&& (3 : Int32))), .unset, .unset, .unset, .unset, .unset, .unset, .unset, .unset, .unset, .unset]) rfl ?_
    show Steps p.tables e below (s₁.setTop (mkF m 5 #[.val (.int p1), .val (.int p2), .val (.int p3), .val (.int p4), .val (.int p5), .val (.int p6), .val (.int (p1 &&& (3 : Int32))), .unset, .unset, .unset, .unset, .unset, .unset, .unset, .unset, .unset, .unset] [])) _
    refine XS.iloadN X0.here hx rfl (hb hby at_5) rfl ?_
    show Steps p.tables e below (s₁.setTop (mkF m 6 #[.val (.int p1), .val (.int p2), .val (.int p3), .val (.int p4), .val (.int p5), .val (.int p6), .val (.int (p1 &&& (3 : Int32))), .unset, .unset, .unset, .unset, .unset, .unset, .unset, .unset, .unset, .unset] [(.int p2)])) _
    refine XS.iconst X0.here hx rfl (hb hby at_6) ?_
    show Steps p.tables e below (s₁.setTop (mkF m 7 #[.val (.int p1), .val (.int p2), .val (.int p3), .val (.int p4), .val (.int p5), .val (.int p6), .val (.int (p1 &&& (3 : Int32))), .unset, .unset, .unset, .unset, .unset, .unset, .unset, .unset, .unset, .unset] [(.int (3 : Int32)), (.int p2)])) _
    refine XS.iand X0.here hx rfl (hb hby at_7) rfl ?_
    show Steps p.tables e below (s₁.setTop (mkF m 8 #[.val (.int p1), .val (.int p2), .val (.int p3), .val (.int p4), .val (.int p5), .val (.int p6), .val (.int (p1 &&& (3 : Int32))), .unset, .unset, .unset, .unset, .unset, .unset, .unset, .unset, .unset, .unset] [(.int (p2 &&& (3 : Int32)))])) _
    refine XS.istore X0.here hx rfl (hb hby at_8) rfl (l' := #[.val (.int p1), .val (.int p2), .val (.int p3), .val (.int p4), .val (.int p5), .val (.int p6), .val (.int (p1 &&& (3 : Int32))), .val (.int (p2 &&& (3 : Int32))), .unset, .unset, .unset, .unset, .unset, .unset, .unset, .unset, .unset]) rfl ?_
    show Steps p.tables e below (s₁.setTop (mkF m 10 #[.val (.int p1), .val (.int p2), .val (.int p3), .val (.int p4), .val (.int p5), .val (.int p6), .val (.int (p1 &&& (3 : Int32))), .val (.int (p2 &&& (3 : Int32))), .unset, .unset, .unset, .unset, .unset, .unset, .unset, .unset, .unset] [])) _
    refine XS.iloadN X0.here hx rfl (hb hby at_10) rfl ?_
    show Steps p.tables e below (s₁.setTop (mkF m 11 #[.val (.int p1), .val (.int p2), .val (.int p3), .val (.int p4), .val (.int p5), .val (.int p6), .val (.int (p1 &&& (3 : Int32))), .val (.int (p2 &&& (3 : Int32))), .unset, .unset, .unset, .unset, .unset, .unset, .unset, .unset, .unset] [(.int p3)])) _
    refine XS.bipush X0.here hx rfl (hb hby at_11) ?_
    show Steps p.tables e below (s₁.setTop (mkF m 13 #[.val (.int p1), .val (.int p2), .val (.int p3), .val (.int p4), .val (.int p5), .val (.int p6), .val (.int (p1 &&& (3 : Int32))), .val (.int (p2 &&& (3 : Int32))), .unset, .unset, .unset, .unset, .unset, .unset, .unset, .unset, .unset] [(.int (127 : Int32)), (.int p3)])) _
    refine XS.iand X0.here hx rfl (hb hby at_13) rfl ?_
    show Steps p.tables e below (s₁.setTop (mkF m 14 #[.val (.int p1), .val (.int p2), .val (.int p3), .val (.int p4), .val (.int p5), .val (.int p6), .val (.int (p1 &&& (3 : Int32))), .val (.int (p2 &&& (3 : Int32))), .unset, .unset, .unset, .unset, .unset, .unset, .unset, .unset, .unset] [(.int (p3 &&& (127 : Int32)))])) _
    refine XS.i2c X0.here hx rfl (hb hby at_14) rfl ?_
    show Steps p.tables e below (s₁.setTop (mkF m 15 #[.val (.int p1), .val (.int p2), .val (.int p3), .val (.int p4), .val (.int p5), .val (.int p6), .val (.int (p1 &&& (3 : Int32))), .val (.int (p2 &&& (3 : Int32))), .unset, .unset, .unset, .unset, .unset, .unset, .unset, .unset, .unset] [(.int (own_ch p3))])) _
    refine XS.istore X0.here hx rfl (hb hby at_15) rfl (l' := #[.val (.int p1), .val (.int p2), .val (.int p3), .val (.int p4), .val (.int p5), .val (.int p6), .val (.int (p1 &&& (3 : Int32))), .val (.int (p2 &&& (3 : Int32))), .val (.int (own_ch p3)), .unset, .unset, .unset, .unset, .unset, .unset, .unset, .unset]) rfl ?_
    show Steps p.tables e below (s₁.setTop (mkF m 17 #[.val (.int p1), .val (.int p2), .val (.int p3), .val (.int p4), .val (.int p5), .val (.int p6), .val (.int (p1 &&& (3 : Int32))), .val (.int (p2 &&& (3 : Int32))), .val (.int (own_ch p3)), .unset, .unset, .unset, .unset, .unset, .unset, .unset, .unset] [])) _
    refine XS.iloadN X0.here hx rfl (hb hby at_17) rfl ?_
    show Steps p.tables e below (s₁.setTop (mkF m 18 #[.val (.int p1), .val (.int p2), .val (.int p3), .val (.int p4), .val (.int p5), .val (.int p6), .val (.int (p1 &&& (3 : Int32))), .val (.int (p2 &&& (3 : Int32))), .val (.int (own_ch p3)), .unset, .unset, .unset, .unset, .unset, .unset, .unset, .unset] [(.int p4)])) _
    refine XS.bipush X0.here hx rfl (hb hby at_18) ?_
    show Steps p.tables e below (s₁.setTop (mkF m 20 #[.val (.int p1), .val (.int p2), .val (.int p3), .val (.int p4), .val (.int p5), .val (.int p6), .val (.int (p1 &&& (3 : Int32))), .val (.int (p2 &&& (3 : Int32))), .val (.int (own_ch p3)), .unset, .unset, .unset, .unset, .unset, .unset, .unset, .unset] [(.int (127 : Int32)), (.int p4)])) _
    refine XS.iand X0.here hx rfl (hb hby at_20) rfl ?_
    show Steps p.tables e below (s₁.setTop (mkF m 21 #[.val (.int p1), .val (.int p2), .val (.int p3), .val (.int p4), .val (.int p5), .val (.int p6), .val (.int (p1 &&& (3 : Int32))), .val (.int (p2 &&& (3 : Int32))), .val (.int (own_ch p3)), .unset, .unset, .unset, .unset, .unset, .unset, .unset, .unset] [(.int (p4 &&& (127 : Int32)))])) _
    refine XS.i2c X0.here hx rfl (hb hby at_21) rfl ?_
    show Steps p.tables e below (s₁.setTop (mkF m 22 #[.val (.int p1), .val (.int p2), .val (.int p3), .val (.int p4), .val (.int p5), .val (.int p6), .val (.int (p1 &&& (3 : Int32))), .val (.int (p2 &&& (3 : Int32))), .val (.int (own_ch p3)), .unset, .unset, .unset, .unset, .unset, .unset, .unset, .unset] [(.int (own_ch p4))])) _
    refine XS.istore X0.here hx rfl (hb hby at_22) rfl (l' := #[.val (.int p1), .val (.int p2), .val (.int p3), .val (.int p4), .val (.int p5), .val (.int p6), .val (.int (p1 &&& (3 : Int32))), .val (.int (p2 &&& (3 : Int32))), .val (.int (own_ch p3)), .val (.int (own_ch p4)), .unset, .unset, .unset, .unset, .unset, .unset, .unset]) rfl ?_
    show Steps p.tables e below (s₁.setTop (mkF m 24 #[.val (.int p1), .val (.int p2), .val (.int p3), .val (.int p4), .val (.int p5), .val (.int p6), .val (.int (p1 &&& (3 : Int32))), .val (.int (p2 &&& (3 : Int32))), .val (.int (own_ch p3)), .val (.int (own_ch p4)), .unset, .unset, .unset, .unset, .unset, .unset, .unset] [])) _
    refine XS.iload X0.here hx rfl (hb hby at_24) rfl ?_
    show Steps p.tables e below (s₁.setTop (mkF m 26 #[.val (.int p1), .val (.int p2), .val (.int p3), .val (.int p4), .val (.int p5), .val (.int p6), .val (.int (p1 &&& (3 : Int32))), .val (.int (p2 &&& (3 : Int32))), .val (.int (own_ch p3)), .val (.int (own_ch p4)), .unset, .unset, .unset, .unset, .unset, .unset, .unset] [(.int p5)])) _
    refine XS.bipush X0.here hx rfl (hb hby at_26) ?_
    show Steps p.tables e below (s₁.setTop (mkF m 28 #[.val (.int p1), .val (.int p2), .val (.int p3), .val (.int p4), .val (.int p5), .val (.int p6), .val (.int (p1 &&& (3 : Int32))), .val (.int (p2 &&& (3 : Int32))), .val (.int (own_ch p3)), .val (.int (own_ch p4)), .unset, .unset, .unset, .unset, .unset, .unset, .unset] [(.int (127 : Int32)), (.int p5)])) _
    refine XS.iand X0.here hx rfl (hb hby at_28) rfl ?_
    show Steps p.tables e below (s₁.setTop (mkF m 29 #[.val (.int p1), .val (.int p2), .val (.int p3), .val (.int p4), .val (.int p5), .val (.int p6), .val (.int (p1 &&& (3 : Int32))), .val (.int (p2 &&& (3 : Int32))), .val (.int (own_ch p3)), .val (.int (own_ch p4)), .unset, .unset, .unset, .unset, .unset, .unset, .unset] [(.int (p5 &&& (127 : Int32)))])) _
    refine XS.i2c X0.here hx rfl (hb hby at_29) rfl ?_
    show Steps p.tables e below (s₁.setTop (mkF m 30 #[.val (.int p1), .val (.int p2), .val (.int p3), .val (.int p4), .val (.int p5), .val (.int p6), .val (.int (p1 &&& (3 : Int32))), .val (.int (p2 &&& (3 : Int32))), .val (.int (own_ch p3)), .val (.int (own_ch p4)), .unset, .unset, .unset, .unset, .unset, .unset, .unset] [(.int (own_ch p5))])) _
    refine XS.istore X0.here hx rfl (hb hby at_30) rfl (l' := #[.val (.int p1), .val (.int p2), .val (.int p3), .val (.int p4), .val (.int p5), .val (.int p6), .val (.int (p1 &&& (3 : Int32))), .val (.int (p2 &&& (3 : Int32))), .val (.int (own_ch p3)), .val (.int (own_ch p4)), .val (.int (own_ch p5)), .unset, .unset, .unset, .unset, .unset, .unset]) rfl ?_
    show Steps p.tables e below (s₁.setTop (mkF m 32 #[.val (.int p1), .val (.int p2), .val (.int p3), .val (.int p4), .val (.int p5), .val (.int p6), .val (.int (p1 &&& (3 : Int32))), .val (.int (p2 &&& (3 : Int32))), .val (.int (own_ch p3)), .val (.int (own_ch p4)), .val (.int (own_ch p5)), .unset, .unset, .unset, .unset, .unset, .unset] [])) _
    refine XS.iload X0.here hx rfl (hb hby at_32) rfl ?_
    show Steps p.tables e below (s₁.setTop (mkF m 34 #[.val (.int p1), .val (.int p2), .val (.int p3), .val (.int p4), .val (.int p5), .val (.int p6), .val (.int (p1 &&& (3 : Int32))), .val (.int (p2 &&& (3 : Int32))), .val (.int (own_ch p3)), .val (.int (own_ch p4)), .val (.int (own_ch p5)), .unset, .unset, .unset, .unset, .unset, .unset] [(.int p6)])) _
    refine XS.iconst X0.here hx rfl (hb hby at_34) ?_
    show Steps p.tables e below (s₁.setTop (mkF m 35 #[.val (.int p1), .val (.int p2), .val (.int p3), .val (.int p4), .val (.int p5), .val (.int p6), .val (.int (p1 &&& (3 : Int32))), .val (.int (p2 &&& (3 : Int32))), .val (.int (own_ch p3)), .val (.int (own_ch p4)), .val (.int (own_ch p5)), .unset, .unset, .unset, .unset, .unset, .unset] [(.int (1 : Int32)), (.int p6)])) _
    refine XS.iand X0.here hx rfl (hb hby at_35) rfl ?_
    show Steps p.tables e below (s₁.setTop (mkF m 36 #[.val (.int p1), .val (.int p2), .val (.int p3), .val (.int p4), .val (.int p5), .val (.int p6), .val (.int (p1 &&& (3 : Int32))), .val (.int (p2 &&& (3 : Int32))), .val (.int (own_ch p3)), .val (.int (own_ch p4)), .val (.int (own_ch p5)), .unset, .unset, .unset, .unset, .unset, .unset] [(.int (p6 &&& (1 : Int32)))])) _
    refine XS.ifYes X0.here hx rfl (pc0 := 36) (pc' := 43) rfl (hb hby at_36) rfl ((if0 _ _).trans (teq hc36).1) (by decide) (by decide) ?_
    show Steps p.tables e below (s₁.setTop (mkF m 43 #[.val (.int p1), .val (.int p2), .val (.int p3), .val (.int p4), .val (.int p5), .val (.int p6), .val (.int (p1 &&& (3 : Int32))), .val (.int (p2 &&& (3 : Int32))), .val (.int (own_ch p3)), .val (.int (own_ch p4)), .val (.int (own_ch p5)), .unset, .unset, .unset, .unset, .unset, .unset] [])) _
    refine XS.iconst X0.here hx rfl (hb hby at_43) ?_
    show Steps p.tables e below (s₁.setTop (mkF m 44 #[.val (.int p1), .val (.int p2), .val (.int p3), .val (.int p4), .val (.int p5), .val (.int p6), .val (.int (p1 &&& (3 : Int32))), .val (.int (p2 &&& (3 : Int32))), .val (.int (own_ch p3)), .val (.int (own_ch p4)), .val (.int (own_ch p5)), .unset, .unset, .unset, .unset, .unset, .unset] [(.int (0 : Int32))])) _
    refine XS.istore X0.here hx rfl (hb hby at_44) rfl (l' := #[.val (.int p1), .val (.int p2), .val (.int p3), .val (.int p4), .val (.int p5), .val (.int p6), .val (.int (p1 &&& (3 : Int32))), .val (.int (p2 &&& (3 : Int32))), .val (.int (own_ch p3)), .val (.int (own_ch p4)), .val (.int (own_ch p5)), .val (.int (0 : Int32)), .unset, .unset, .unset, .unset, .unset]) rfl ?_
    show Steps p.tables e below (s₁.setTop (mkF m 46 #[.val (.int p1), .val (.int p2), .val (.int p3), .val (.int p4), .val (.int p5), .val (.int p6), .val (.int (p1 &&& (3 : Int32))), .val (.int (p2 &&& (3 : Int32))), .val (.int (own_ch p3)), .val (.int (own_ch p4)), .val (.int (own_ch p5)), .val (.int (0 : Int32)), .unset, .unset, .unset, .unset, .unset] [])) _
    refine XS.iload X0.here hx rfl (hb hby at_46) rfl ?_
    show Steps p.tables e below (s₁.setTop (mkF m 48 #[.val (.int p1), .val (.int p2), .val (.int p3), .val (.int p4), .val (.int p5), .val (.int p6), .val (.int (p1 &&& (3 : Int32))), .val (.int (p2 &&& (3 : Int32))), .val (.int (own_ch p3)), .val (.int (own_ch p4)), .val (.int (own_ch p5)), .val (.int (0 : Int32)), .unset, .unset, .unset, .unset, .unset] [(.int p6)])) _
    refine XS.iconst X0.here hx rfl (hb hby at_48) ?_
    show Steps p.tables e below (s₁.setTop (mkF m 49 #[.val (.int p1), .val (.int p2), .val (.int p3), .val (.int p4), .val (.int p5), .val (.int p6), .val (.int (p1 &&& (3 : Int32))), .val (.int (p2 &&& (3 : Int32))), .val (.int (own_ch p3)), .val (.int (own_ch p4)), .val (.int (own_ch p5)), .val (.int (0 : Int32)), .unset, .unset, .unset, .unset, .unset] [(.int (1 : Int32)), (.int p6)])) _
    refine XS.iushr X0.here hx rfl (hb hby at_49) rfl ?_
    show Steps p.tables e below (s₁.setTop (mkF m 50 #[.val (.int p1), .val (.int p2), .val (.int p3), .val (.int p4), .val (.int p5), .val (.int p6), .val (.int (p1 &&& (3 : Int32))), .val (.int (p2 &&& (3 : Int32))), .val (.int (own_ch p3)), .val (.int (own_ch p4)), .val (.int (own_ch p5)), .val (.int (0 : Int32)), .unset, .unset, .unset, .unset, .unset] [(.int ((p6.toUInt32 >>> ((1 : Int32) &&& 31).toUInt32).toInt32))])) _
    refine XS.bipush X0.here hx rfl (hb hby at_50) ?_
    show Steps p.tables e below (s₁.setTop (mkF m 52 #[.val (.int p1), .val (.int p2), .val (.int p3), .val (.int p4), .val (.int p5), .val (.int p6), .val (.int (p1 &&& (3 : Int32))), .val (.int (p2 &&& (3 : Int32))), .val (.int (own_ch p3)), .val (.int (own_ch p4)), .val (.int (own_ch p5)), .val (.int (0 : Int32)), .unset, .unset, .unset, .unset, .unset] [(.int (127 : Int32)), (.int ((p6.toUInt32 >>> ((1 : Int32) &&& 31).toUInt32).toInt32))])) _
    refine XS.iand X0.here hx rfl (hb hby at_52) rfl ?_
    show Steps p.tables e below (s₁.setTop (mkF m 53 #[.val (.int p1), .val (.int p2), .val (.int p3), .val (.int p4), .val (.int p5), .val (.int p6), .val (.int (p1 &&& (3 : Int32))), .val (.int (p2 &&& (3 : Int32))), .val (.int (own_ch p3)), .val (.int (own_ch p4)), .val (.int (own_ch p5)), .val (.int (0 : Int32)), .unset, .unset, .unset, .unset, .unset] [(.int (((p6.toUInt32 >>> ((1 : Int32) &&& 31).toUInt32).toInt32) &&& (127 : Int32)))])) _
    refine XS.i2c X0.here hx rfl (hb hby at_53) rfl ?_
    show Steps p.tables e below (s₁.setTop (mkF m 54 #[.val (.int p1), .val (.int p2), .val (.int p3), .val (.int p4), .val (.int p5), .val (.int p6), .val (.int (p1 &&& (3 : Int32))), .val (.int (p2 &&& (3 : Int32))), .val (.int (own_ch p3)), .val (.int (own_ch p4)), .val (.int (own_ch p5)), .val (.int (0 : Int32)), .unset, .unset, .unset, .unset, .unset] [(.int (own_jk p6))])) _
    refine XS.istore X0.here hx rfl (hb hby at_54) rfl (l' := #[.val (.int p1), .val (.int p2), .val (.int p3), .val (.int p4), .val (.int p5), .val (.int p6), .val (.int (p1 &&& (3 : Int32))), .val (.int (p2 &&& (3 : Int32))), .val (.int (own_ch p3)), .val (.int (own_ch p4)), .val (.int (own_ch p5)), .val (.int (0 : Int32)), .val (.int (own_jk p6)), .unset, .unset, .unset, .unset]) rfl ?_
    show Steps p.tables e below (s₁.setTop (mkF m 56 #[.val (.int p1), .val (.int p2), .val (.int p3), .val (.int p4), .val (.int p5), .val (.int p6), .val (.int (p1 &&& (3 : Int32))), .val (.int (p2 &&& (3 : Int32))), .val (.int (own_ch p3)), .val (.int (own_ch p4)), .val (.int (own_ch p5)), .val (.int (0 : Int32)), .val (.int (own_jk p6)), .unset, .unset, .unset, .unset] [])) _
    refine st7 _ ?_
    show Steps p.tables e below (T7.setTop (mkF m 59 #[.val (.int p1), .val (.int p2), .val (.int p3), .val (.int p4), .val (.int p5), .val (.int p6), .val (.int (p1 &&& (3 : Int32))), .val (.int (p2 &&& (3 : Int32))), .val (.int (own_ch p3)), .val (.int (own_ch p4)), .val (.int (own_ch p5)), .val (.int (0 : Int32)), .val (.int (own_jk p6)), .unset, .unset, .unset, .unset] [(.ref b7)])) _
    refine XS.dup X7.here hx rfl (hb hby at_59) rfl rfl ?_
    show Steps p.tables e below (T7.setTop (mkF m 60 #[.val (.int p1), .val (.int p2), .val (.int p3), .val (.int p4), .val (.int p5), .val (.int p6), .val (.int (p1 &&& (3 : Int32))), .val (.int (p2 &&& (3 : Int32))), .val (.int (own_ch p3)), .val (.int (own_ch p4)), .val (.int (own_ch p5)), .val (.int (0 : Int32)), .val (.int (own_jk p6)), .unset, .unset, .unset, .unset] [(.ref b7), (.ref b7)])) _
    refine XS.iload X7.here hx rfl (hb hby at_60) rfl ?_
    show Steps p.tables e below (T7.setTop (mkF m 62 #[.val (.int p1), .val (.int p2), .val (.int p3), .val (.int p4), .val (.int p5), .val (.int p6), .val (.int (p1 &&& (3 : Int32))), .val (.int (p2 &&& (3 : Int32))), .val (.int (own_ch p3)), .val (.int (own_ch p4)), .val (.int (own_ch p5)), .val (.int (0 : Int32)), .val (.int (own_jk p6)), .unset, .unset, .unset, .unset] [(.int (p1 &&& (3 : Int32))), (.ref b7), (.ref b7)])) _
    refine st8.trans ?_
    show Steps p.tables e below (T8.setTop (mkF m 65 #[.val (.int p1), .val (.int p2), .val (.int p3), .val (.int p4), .val (.int p5), .val (.int p6), .val (.int (p1 &&& (3 : Int32))), .val (.int (p2 &&& (3 : Int32))), .val (.int (own_ch p3)), .val (.int (own_ch p4)), .val (.int (own_ch p5)), .val (.int (0 : Int32)), .val (.int (own_jk p6)), .unset, .unset, .unset, .unset] [(.ref b7)])) _
    refine XS.astore X8.here hx rfl (hb hby at_65) rfl rfl (l' := #[.val (.int p1), .val (.int p2), .val (.int p3), .val (.int p4), .val (.int p5), .val (.int p6), .val (.int (p1 &&& (3 : Int32))), .val (.int (p2 &&& (3 : Int32))), .val (.int (own_ch p3)), .val (.int (own_ch p4)), .val (.int (own_ch p5)), .val (.int (0 : Int32)), .val (.int (own_jk p6)), .val (.ref b7), .unset, .unset, .unset]) rfl ?_
    show Steps p.tables e below (T8.setTop (mkF m 67 #[.val (.int p1), .val (.int p2), .val (.int p3), .val (.int p4), .val (.int p5), .val (.int p6), .val (.int (p1 &&& (3 : Int32))), .val (.int (p2 &&& (3 : Int32))), .val (.int (own_ch p3)), .val (.int (own_ch p4)), .val (.int (own_ch p5)), .val (.int (0 : Int32)), .val (.int (own_jk p6)), .val (.ref b7), .unset, .unset, .unset] [])) _
    refine XS.iload X8.here hx rfl (hb hby at_67) rfl ?_
    show Steps p.tables e below (T8.setTop (mkF m 69 #[.val (.int p1), .val (.int p2), .val (.int p3), .val (.int p4), .val (.int p5), .val (.int p6), .val (.int (p1 &&& (3 : Int32))), .val (.int (p2 &&& (3 : Int32))), .val (.int (own_ch p3)), .val (.int (own_ch p4)), .val (.int (own_ch p5)), .val (.int (0 : Int32)), .val (.int (own_jk p6)), .val (.ref b7), .unset, .unset, .unset] [(.int (0 : Int32))])) _
    refine XS.ifYes X8.here hx rfl (pc0 := 69) (pc' := 85) rfl (hb hby at_69) rfl ((if0 _ _).trans (teq (rfl : (0 : Int32) = (0 : Int32))).1) (by decide) (by decide) ?_
    show Steps p.tables e below (T8.setTop (mkF m 85 #[.val (.int p1), .val (.int p2), .val (.int p3), .val (.int p4), .val (.int p5), .val (.int p6), .val (.int (p1 &&& (3 : Int32))), .val (.int (p2 &&& (3 : Int32))), .val (.int (own_ch p3)), .val (.int (own_ch p4)), .val (.int (own_ch p5)), .val (.int (0 : Int32)), .val (.int (own_jk p6)), .val (.ref b7), .unset, .unset, .unset] [])) _
    refine XS.iload X8.here hx rfl (hb hby at_85) rfl ?_
    show Steps p.tables e below (T8.setTop (mkF m 87 #[.val (.int p1), .val (.int p2), .val (.int p3), .val (.int p4), .val (.int p5), .val (.int p6), .val (.int (p1 &&& (3 : Int32))), .val (.int (p2 &&& (3 : Int32))), .val (.int (own_ch p3)), .val (.int (own_ch p4)), .val (.int (own_ch p5)), .val (.int (0 : Int32)), .val (.int (own_jk p6)), .val (.ref b7), .unset, .unset, .unset] [(.int (p2 &&& (3 : Int32)))])) _
    refine XS.ifNo X8.here hx rfl (hb hby at_87) rfl ((if0 _ _).trans (tlt hc87).2.2.2) ?_
    show Steps p.tables e below (T8.setTop (mkF m 90 #[.val (.int p1), .val (.int p2), .val (.int p3), .val (.int p4), .val (.int p5), .val (.int p6), .val (.int (p1 &&& (3 : Int32))), .val (.int (p2 &&& (3 : Int32))), .val (.int (own_ch p3)), .val (.int (own_ch p4)), .val (.int (own_ch p5)), .val (.int (0 : Int32)), .val (.int (own_jk p6)), .val (.ref b7), .unset, .unset, .unset] [])) _
    refine XS.aload X8.here hx rfl (hb hby at_90) rfl rfl ?_
    show Steps p.tables e below (T8.setTop (mkF m 92 #[.val (.int p1), .val (.int p2), .val (.int p3), .val (.int p4), .val (.int p5), .val (.int p6), .val (.int (p1 &&& (3 : Int32))), .val (.int (p2 &&& (3 : Int32))), .val (.int (own_ch p3)), .val (.int (own_ch p4)), .val (.int (own_ch p5)), .val (.int (0 : Int32)), .val (.int (own_jk p6)), .val (.ref b7), .unset, .unset, .unset] [(.ref b7)])) _
    refine XS.iload X8.here hx rfl (hb hby at_92) rfl ?_
    show Steps p.tables e below (T8.setTop (mkF m 94 #[.val (.int p1), .val (.int p2), .val (.int p3), .val (.int p4), .val (.int p5), .val (.int p6), .val (.int (p1 &&& (3 : Int32))), .val (.int (p2 &&& (3 : Int32))), .val (.int (own_ch p3)), .val (.int (own_ch p4)), .val (.int (own_ch p5)), .val (.int (0 : Int32)), .val (.int (own_jk p6)), .val (.ref b7), .unset, .unset, .unset] [(.int (own_ch p3)), (.ref b7)])) _
    refine st9.trans ?_
    show Steps p.tables e below (T9.setTop (mkF m 97 #[.val (.int p1), .val (.int p2), .val (.int p3), .val (.int p4), .val (.int p5), .val (.int p6), .val (.int (p1 &&& (3 : Int32))), .val (.int (p2 &&& (3 : Int32))), .val (.int (own_ch p3)), .val (.int (own_ch p4)), .val (.int (own_ch p5)), .val (.int (0 : Int32)), .val (.int (own_jk p6)), .val (.ref b7), .unset, .unset, .unset] [(.ref b7)])) _
    refine XS.pop X9.here hx rfl (hb hby at_97) rfl rfl ?_
    show Steps p.tables e below (T9.setTop (mkF m 98 #[.val (.int p1), .val (.int p2), .val (.int p3), .val (.int p4), .val (.int p5), .val (.int p6), .val (.int (p1 &&& (3 : Int32))), .val (.int (p2 &&& (3 : Int32))), .val (.int (own_ch p3)), .val (.int (own_ch p4)), .val (.int (own_ch p5)), .val (.int (0 : Int32)), .val (.int (own_jk p6)), .val (.ref b7), .unset, .unset, .unset] [])) _
    refine XS.iload X9.here hx rfl (hb hby at_98) rfl ?_
    show Steps p.tables e below (T9.setTop (mkF m 100 #[.val (.int p1), .val (.int p2), .val (.int p3), .val (.int p4), .val (.int p5), .val (.int p6), .val (.int (p1 &&& (3 : Int32))), .val (.int (p2 &&& (3 : Int32))), .val (.int (own_ch p3)), .val (.int (own_ch p4)), .val (.int (own_ch p5)), .val (.int (0 : Int32)), .val (.int (own_jk p6)), .val (.ref b7), .unset, .unset, .unset] [(.int (p2 &&& (3 : Int32)))])) _
    refine XS.iconst X9.here hx rfl (hb hby at_100) ?_
    show Steps p.tables e below (T9.setTop (mkF m 101 #[.val (.int p1), .val (.int p2), .val (.int p3), .val (.int p4), .val (.int p5), .val (.int p6), .val (.int (p1 &&& (3 : Int32))), .val (.int (p2 &&& (3 : Int32))), .val (.int (own_ch p3)), .val (.int (own_ch p4)), .val (.int (own_ch p5)), .val (.int (0 : Int32)), .val (.int (own_jk p6)), .val (.ref b7), .unset, .unset, .unset] [(.int (1 : Int32)), (.int (p2 &&& (3 : Int32)))])) _
    refine XS.icmpNo X9.here hx rfl (hb hby at_101) rfl (tlt hc101).2.2.2 ?_
    show Steps p.tables e below (T9.setTop (mkF m 104 #[.val (.int p1), .val (.int p2), .val (.int p3), .val (.int p4), .val (.int p5), .val (.int p6), .val (.int (p1 &&& (3 : Int32))), .val (.int (p2 &&& (3 : Int32))), .val (.int (own_ch p3)), .val (.int (own_ch p4)), .val (.int (own_ch p5)), .val (.int (0 : Int32)), .val (.int (own_jk p6)), .val (.ref b7), .unset, .unset, .unset] [])) _
    refine XS.aload X9.here hx rfl (hb hby at_104) rfl rfl ?_
    show Steps p.tables e below (T9.setTop (mkF m 106 #[.val (.int p1), .val (.int p2), .val (.int p3), .val (.int p4), .val (.int p5), .val (.int p6), .val (.int (p1 &&& (3 : Int32))), .val (.int (p2 &&& (3 : Int32))), .val (.int (own_ch p3)), .val (.int (own_ch p4)), .val (.int (own_ch p5)), .val (.int (0 : Int32)), .val (.int (own_jk p6)), .val (.ref b7), .unset, .unset, .unset] [(.ref b7)])) _
    refine XS.iload X9.here hx rfl (hb hby at_106) rfl ?_
    show Steps p.tables e below (T9.setTop (mkF m 108 #[.val (.int p1), .val (.int p2), .val (.int p3), .val (.int p4), .val (.int p5), .val (.int p6), .val (.int (p1 &&& (3 : Int32))), .val (.int (p2 &&& (3 : Int32))), .val (.int (own_ch p3)), .val (.int (own_ch p4)), .val (.int (own_ch p5)), .val (.int (0 : Int32)), .val (.int (own_jk p6)), .val (.ref b7), .unset, .unset, .unset] [(.int (own_ch p4)), (.ref b7)])) _
    refine st10.trans ?_
    show Steps p.tables e below (T10.setTop (mkF m 111 #[.val (.int p1), .val (.int p2), .val (.int p3), .val (.int p4), .val (.int p5), .val (.int p6), .val (.int (p1 &&& (3 : Int32))), .val (.int (p2 &&& (3 : Int32))), .val (.int (own_ch p3)), .val (.int (own_ch p4)), .val (.int (own_ch p5)), .val (.int (0 : Int32)), .val (.int (own_jk p6)), .val (.ref b7), .unset, .unset, .unset] [(.ref b7)])) _
    refine XS.pop X10.here hx rfl (hb hby at_111) rfl rfl ?_
    show Steps p.tables e below (T10.setTop (mkF m 112 #[.val (.int p1), .val (.int p2), .val (.int p3), .val (.int p4), .val (.int p5), .val (.int p6), .val (.int (p1 &&& (3 : Int32))), .val (.int (p2 &&& (3 : Int32))), .val (.int (own_ch p3)), .val (.int (own_ch p4)), .val (.int (own_ch p5)), .val (.int (0 : Int32)), .val (.int (own_jk p6)), .val (.ref b7), .unset, .unset, .unset] [])) _
    refine XS.iload X10.here hx rfl (hb hby at_112) rfl ?_
    show Steps p.tables e below (T10.setTop (mkF m 114 #[.val (.int p1), .val (.int p2), .val (.int p3), .val (.int p4), .val (.int p5), .val (.int p6), .val (.int (p1 &&& (3 : Int32))), .val (.int (p2 &&& (3 : Int32))), .val (.int (own_ch p3)), .val (.int (own_ch p4)), .val (.int (own_ch p5)), .val (.int (0 : Int32)), .val (.int (own_jk p6)), .val (.ref b7), .unset, .unset, .unset] [(.int (p2 &&& (3 : Int32)))])) _
    refine XS.iconst X10.here hx rfl (hb hby at_114) ?_
    show Steps p.tables e below (T10.setTop (mkF m 115 #[.val (.int p1), .val (.int p2), .val (.int p3), .val (.int p4), .val (.int p5), .val (.int p6), .val (.int (p1 &&& (3 : Int32))), .val (.int (p2 &&& (3 : Int32))), .val (.int (own_ch p3)), .val (.int (own_ch p4)), .val (.int (own_ch p5)), .val (.int (0 : Int32)), .val (.int (own_jk p6)), .val (.ref b7), .unset, .unset, .unset] [(.int (2 : Int32)), (.int (p2 &&& (3 : Int32)))])) _
    refine XS.icmpNo X10.here hx rfl (hb hby at_115) rfl (tlt hc115).2.2.2 ?_
    show Steps p.tables e below (T10.setTop (mkF m 118 #[.val (.int p1), .val (.int p2), .val (.int p3), .val (.int p4), .val (.int p5), .val (.int p6), .val (.int (p1 &&& (3 : Int32))), .val (.int (p2 &&& (3 : Int32))), .val (.int (own_ch p3)), .val (.int (own_ch p4)), .val (.int (own_ch p5)), .val (.int (0 : Int32)), .val (.int (own_jk p6)), .val (.ref b7), .unset, .unset, .unset] [])) _
    refine XS.aload X10.here hx rfl (hb hby at_118) rfl rfl ?_
    show Steps p.tables e below (T10.setTop (mkF m 120 #[.val (.int p1), .val (.int p2), .val (.int p3), .val (.int p4), .val (.int p5), .val (.int p6), .val (.int (p1 &&& (3 : Int32))), .val (.int (p2 &&& (3 : Int32))), .val (.int (own_ch p3)), .val (.int (own_ch p4)), .val (.int (own_ch p5)), .val (.int (0 : Int32)), .val (.int (own_jk p6)), .val (.ref b7), .unset, .unset, .unset] [(.ref b7)])) _
    refine XS.iload X10.here hx rfl (hb hby at_120) rfl ?_
    show Steps p.tables e below (T10.setTop (mkF m 122 #[.val (.int p1), .val (.int p2), .val (.int p3), .val (.int p4), .val (.int p5), .val (.int p6), .val (.int (p1 &&& (3 : Int32))), .val (.int (p2 &&& (3 : Int32))), .val (.int (own_ch p3)), .val (.int (own_ch p4)), .val (.int (own_ch p5)), .val (.int (0 : Int32)), .val (.int (own_jk p6)), .val (.ref b7), .unset, .unset, .unset] [(.int (own_ch p5)), (.ref b7)])) _
    refine st11.trans ?_
    show Steps p.tables e below (T11.setTop (mkF m 125 #[.val (.int p1), .val (.int p2), .val (.int p3), .val (.int p4), .val (.int p5), .val (.int p6), .val (.int (p1 &&& (3 : Int32))), .val (.int (p2 &&& (3 : Int32))), .val (.int (own_ch p3)), .val (.int (own_ch p4)), .val (.int (own_ch p5)), .val (.int (0 : Int32)), .val (.int (own_jk p6)), .val (.ref b7), .unset, .unset, .unset] [(.ref b7)])) _
    refine XS.pop X11.here hx rfl (hb hby at_125) rfl rfl ?_
    show Steps p.tables e below (T11.setTop (mkF m 126 #[.val (.int p1), .val (.int p2), .val (.int p3), .val (.int p4), .val (.int p5), .val (.int p6), .val (.int (p1 &&& (3 : Int32))), .val (.int (p2 &&& (3 : Int32))), .val (.int (own_ch p3)), .val (.int (own_ch p4)), .val (.int (own_ch p5)), .val (.int (0 : Int32)), .val (.int (own_jk p6)), .val (.ref b7), .unset, .unset, .unset] [])) _
    refine XS.aload X11.here hx rfl (hb hby at_126) rfl rfl ?_
    show Steps p.tables e below (T11.setTop (mkF m 128 #[.val (.int p1), .val (.int p2), .val (.int p3), .val (.int p4), .val (.int p5), .val (.int p6), .val (.int (p1 &&& (3 : Int32))), .val (.int (p2 &&& (3 : Int32))), .val (.int (own_ch p3)), .val (.int (own_ch p4)), .val (.int (own_ch p5)), .val (.int (0 : Int32)), .val (.int (own_jk p6)), .val (.ref b7), .unset, .unset, .unset] [(.ref b7)])) _
    refine st12.trans ?_
    show Steps p.tables e below (T12.setTop (mkF m 131 #[.val (.int p1), .val (.int p2), .val (.int p3), .val (.int p4), .val (.int p5), .val (.int p6), .val (.int (p1 &&& (3 : Int32))), .val (.int (p2 &&& (3 : Int32))), .val (.int (own_ch p3)), .val (.int (own_ch p4)), .val (.int (own_ch p5)), .val (.int (0 : Int32)), .val (.int (own_jk p6)), .val (.ref b7), .unset, .unset, .unset] [(.ref (T11.heap.size))])) _
    refine XS.astore X12.here hx rfl (hb hby at_131) rfl rfl (l' := #[.val (.int p1), .val (.int p2), .val (.int p3), .val (.int p4), .val (.int p5), .val (.int p6), .val (.int (p1 &&& (3 : Int32))), .val (.int (p2 &&& (3 : Int32))), .val (.int (own_ch p3)), .val (.int (own_ch p4)), .val (.int (own_ch p5)), .val (.int (0 : Int32)), .val (.int (own_jk p6)), .val (.ref b7), .val (.ref (T11.heap.size)), .unset, .unset]) rfl ?_
    show Steps p.tables e below (T12.setTop (mkF m 133 #[.val (.int p1), .val (.int p2), .val (.int p3), .val (.int p4), .val (.int p5), .val (.int p6), .val (.int (p1 &&& (3 : Int32))), .val (.int (p2 &&& (3 : Int32))), .val (.int (own_ch p3)), .val (.int (own_ch p4)), .val (.int (own_ch p5)), .val (.int (0 : Int32)), .val (.int (own_jk p6)), .val (.ref b7), .val (.ref (T11.heap.size)), .unset, .unset] [])) _
    refine XS.aload X12.here hx rfl (hb hby at_133) rfl rfl ?_
    show Steps p.tables e below (T12.setTop (mkF m 135 #[.val (.int p1), .val (.int p2), .val (.int p3), .val (.int p4), .val (.int p5), .val (.int p6), .val (.int (p1 &&& (3 : Int32))), .val (.int (p2 &&& (3 : Int32))), .val (.int (own_ch p3)), .val (.int (own_ch p4)), .val (.int (own_ch p5)), .val (.int (0 : Int32)), .val (.int (own_jk p6)), .val (.ref b7), .val (.ref (T11.heap.size)), .unset, .unset] [(.ref (T11.heap.size))])) _
    refine X12.arraylength hx (by exact Arr1.1) (State.isArrayOf_alike hZ.alike Arr1.2.1) (g := (mkF m 135 #[.val (.int p1), .val (.int p2), .val (.int p3), .val (.int p4), .val (.int p5), .val (.int p6), .val (.int (p1 &&& (3 : Int32))), .val (.int (p2 &&& (3 : Int32))), .val (.int (own_ch p3)), .val (.int (own_ch p4)), .val (.int (own_ch p5)), .val (.int (0 : Int32)), .val (.int (own_jk p6)), .val (.ref b7), .val (.ref (T11.heap.size)), .unset, .unset] [(.ref (T11.heap.size))])) rfl rfl (hb hby at_135) _ ?_
    rw [len_of Sr1 Nr1]
    show Steps p.tables e below (T12.setTop (mkF m 136 #[.val (.int p1), .val (.int p2), .val (.int p3), .val (.int p4), .val (.int p5), .val (.int p6), .val (.int (p1 &&& (3 : Int32))), .val (.int (p2 &&& (3 : Int32))), .val (.int (own_ch p3)), .val (.int (own_ch p4)), .val (.int (own_ch p5)), .val (.int (0 : Int32)), .val (.int (own_jk p6)), .val (.ref b7), .val (.ref (T11.heap.size)), .unset, .unset] [(.int (Int32.ofNat ((([] ++ [(own_by (own_ch p3))]) ++ [(own_by (own_ch p4))]) ++ [(own_by (own_ch p5))]).length))])) _
    refine XS.iload X12.here hx rfl (hb hby at_136) rfl ?_
    show Steps p.tables e below (T12.setTop (mkF m 138 #[.val (.int p1), .val (.int p2), .val (.int p3), .val (.int p4), .val (.int p5), .val (.int p6), .val (.int (p1 &&& (3 : Int32))), .val (.int (p2 &&& (3 : Int32))), .val (.int (own_ch p3)), .val (.int (own_ch p4)), .val (.int (own_ch p5)), .val (.int (0 : Int32)), .val (.int (own_jk p6)), .val (.ref b7), .val (.ref (T11.heap.size)), .unset, .unset] [(.int (p2 &&& (3 : Int32))), (.int (Int32.ofNat ((([] ++ [(own_by (own_ch p3))]) ++ [(own_by (own_ch p4))]) ++ [(own_by (own_ch p5))]).length))])) _
    refine XS.icmpNo X12.here hx rfl (hb hby at_138) rfl (teq (by rw [hn]; first | rfl | decide : (Int32.ofNat ((([] ++ [(own_by (own_ch p3))]) ++ [(own_by (own_ch p4))]) ++ [(own_by (own_ch p5))]).length) = (p2 &&& (3 : Int32)))).2 ?_
    show Steps p.tables e below (T12.setTop (mkF m 141 #[.val (.int p1), .val (.int p2), .val (.int p3), .val (.int p4), .val (.int p5), .val (.int p6), .val (.int (p1 &&& (3 : Int32))), .val (.int (p2 &&& (3 : Int32))), .val (.int (own_ch p3)), .val (.int (own_ch p4)), .val (.int (own_ch p5)), .val (.int (0 : Int32)), .val (.int (own_jk p6)), .val (.ref b7), .val (.ref (T11.heap.size)), .unset, .unset] [])) _
    refine XS.aload X12.here hx rfl (hb hby at_141) rfl rfl ?_
    show Steps p.tables e below (T12.setTop (mkF m 143 #[.val (.int p1), .val (.int p2), .val (.int p3), .val (.int p4), .val (.int p5), .val (.int p6), .val (.int (p1 &&& (3 : Int32))), .val (.int (p2 &&& (3 : Int32))), .val (.int (own_ch p3)), .val (.int (own_ch p4)), .val (.int (own_ch p5)), .val (.int (0 : Int32)), .val (.int (own_jk p6)), .val (.ref b7), .val (.ref (T11.heap.size)), .unset, .unset] [(.ref b7)])) _
    refine st13.trans ?_
    show Steps p.tables e below (T13.setTop (mkF m 146 #[.val (.int p1), .val (.int p2), .val (.int p3), .val (.int p4), .val (.int p5), .val (.int p6), .val (.int (p1 &&& (3 : Int32))), .val (.int (p2 &&& (3 : Int32))), .val (.int (own_ch p3)), .val (.int (own_ch p4)), .val (.int (own_ch p5)), .val (.int (0 : Int32)), .val (.int (own_jk p6)), .val (.ref b7), .val (.ref (T11.heap.size)), .unset, .unset] [(.int (Int32.ofNat ((([] ++ [(own_by (own_ch p3))]) ++ [(own_by (own_ch p4))]) ++ [(own_by (own_ch p5))]).length))])) _
    refine XS.iload X13.here hx rfl (hb hby at_146) rfl ?_
    show Steps p.tables e below (T13.setTop (mkF m 148 #[.val (.int p1), .val (.int p2), .val (.int p3), .val (.int p4), .val (.int p5), .val (.int p6), .val (.int (p1 &&& (3 : Int32))), .val (.int (p2 &&& (3 : Int32))), .val (.int (own_ch p3)), .val (.int (own_ch p4)), .val (.int (own_ch p5)), .val (.int (0 : Int32)), .val (.int (own_jk p6)), .val (.ref b7), .val (.ref (T11.heap.size)), .unset, .unset] [(.int (p2 &&& (3 : Int32))), (.int (Int32.ofNat ((([] ++ [(own_by (own_ch p3))]) ++ [(own_by (own_ch p4))]) ++ [(own_by (own_ch p5))]).length))])) _
    refine XS.icmpNo X13.here hx rfl (hb hby at_148) rfl (teq (by rw [hn]; first | rfl | decide : (Int32.ofNat ((([] ++ [(own_by (own_ch p3))]) ++ [(own_by (own_ch p4))]) ++ [(own_by (own_ch p5))]).length) = (p2 &&& (3 : Int32)))).2 ?_
    show Steps p.tables e below (T13.setTop (mkF m 151 #[.val (.int p1), .val (.int p2), .val (.int p3), .val (.int p4), .val (.int p5), .val (.int p6), .val (.int (p1 &&& (3 : Int32))), .val (.int (p2 &&& (3 : Int32))), .val (.int (own_ch p3)), .val (.int (own_ch p4)), .val (.int (own_ch p5)), .val (.int (0 : Int32)), .val (.int (own_jk p6)), .val (.ref b7), .val (.ref (T11.heap.size)), .unset, .unset] [])) _
    refine XS.aload X13.here hx rfl (hb hby at_151) rfl rfl ?_
    show Steps p.tables e below (T13.setTop (mkF m 153 #[.val (.int p1), .val (.int p2), .val (.int p3), .val (.int p4), .val (.int p5), .val (.int p6), .val (.int (p1 &&& (3 : Int32))), .val (.int (p2 &&& (3 : Int32))), .val (.int (own_ch p3)), .val (.int (own_ch p4)), .val (.int (own_ch p5)), .val (.int (0 : Int32)), .val (.int (own_jk p6)), .val (.ref b7), .val (.ref (T11.heap.size)), .unset, .unset] [(.ref (T11.heap.size))])) _
    refine XS.iload X13.here hx rfl (hb hby at_153) rfl ?_
    show Steps p.tables e below (T13.setTop (mkF m 155 #[.val (.int p1), .val (.int p2), .val (.int p3), .val (.int p4), .val (.int p5), .val (.int p6), .val (.int (p1 &&& (3 : Int32))), .val (.int (p2 &&& (3 : Int32))), .val (.int (own_ch p3)), .val (.int (own_ch p4)), .val (.int (own_ch p5)), .val (.int (0 : Int32)), .val (.int (own_jk p6)), .val (.ref b7), .val (.ref (T11.heap.size)), .unset, .unset] [(.int (p2 &&& (3 : Int32))), (.ref (T11.heap.size))])) _
    refine XS.iload X13.here hx rfl (hb hby at_155) rfl ?_
    show Steps p.tables e below (T13.setTop (mkF m 157 #[.val (.int p1), .val (.int p2), .val (.int p3), .val (.int p4), .val (.int p5), .val (.int p6), .val (.int (p1 &&& (3 : Int32))), .val (.int (p2 &&& (3 : Int32))), .val (.int (own_ch p3)), .val (.int (own_ch p4)), .val (.int (own_ch p5)), .val (.int (0 : Int32)), .val (.int (own_jk p6)), .val (.ref b7), .val (.ref (T11.heap.size)), .unset, .unset] [(.int (own_ch p3)), (.int (p2 &&& (3 : Int32))), (.ref (T11.heap.size))])) _
    refine XS.iload X13.here hx rfl (hb hby at_157) rfl ?_
    show Steps p.tables e below (T13.setTop (mkF m 159 #[.val (.int p1), .val (.int p2), .val (.int p3), .val (.int p4), .val (.int p5), .val (.int p6), .val (.int (p1 &&& (3 : Int32))), .val (.int (p2 &&& (3 : Int32))), .val (.int (own_ch p3)), .val (.int (own_ch p4)), .val (.int (own_ch p5)), .val (.int (0 : Int32)), .val (.int (own_jk p6)), .val (.ref b7), .val (.ref (T11.heap.size)), .unset, .unset] [(.int (own_ch p4)), (.int (own_ch p3)), (.int (p2 &&& (3 : Int32))), (.ref (T11.heap.size))])) _
    refine XS.iload X13.here hx rfl (hb hby at_159) rfl ?_
    show Steps p.tables e below (T13.setTop (mkF m 161 #[.val (.int p1), .val (.int p2), .val (.int p3), .val (.int p4), .val (.int p5), .val (.int p6), .val (.int (p1 &&& (3 : Int32))), .val (.int (p2 &&& (3 : Int32))), .val (.int (own_ch p3)), .val (.int (own_ch p4)), .val (.int (own_ch p5)), .val (.int (0 : Int32)), .val (.int (own_jk p6)), .val (.ref b7), .val (.ref (T11.heap.size)), .unset, .unset] [(.int (own_ch p5)), (.int (own_ch p4)), (.int (own_ch p3)), (.int (p2 &&& (3 : Int32))), (.ref (T11.heap.size))])) _
    refine st14 _ ?_
    show Steps p.tables e below (T14.setTop (mkF m 164 #[.val (.int p1), .val (.int p2), .val (.int p3), .val (.int p4), .val (.int p5), .val (.int p6), .val (.int (p1 &&& (3 : Int32))), .val (.int (p2 &&& (3 : Int32))), .val (.int (own_ch p3)), .val (.int (own_ch p4)), .val (.int (own_ch p5)), .val (.int (0 : Int32)), .val (.int (own_jk p6)), .val (.ref b7), .val (.ref (T11.heap.size)), .unset, .unset] [(.int (1 : Int32))])) _
    refine XS.ifNo X14.here hx rfl (hb hby at_164) rfl ((if0 _ _).trans (feq (by decide : ¬ ((1 : Int32) = (0 : Int32)))).1) ?_
    show Steps p.tables e below (T14.setTop (mkF m 167 #[.val (.int p1), .val (.int p2), .val (.int p3), .val (.int p4), .val (.int p5), .val (.int p6), .val (.int (p1 &&& (3 : Int32))), .val (.int (p2 &&& (3 : Int32))), .val (.int (own_ch p3)), .val (.int (own_ch p4)), .val (.int (own_ch p5)), .val (.int (0 : Int32)), .val (.int (own_jk p6)), .val (.ref b7), .val (.ref (T11.heap.size)), .unset, .unset] [])) _
    refine XS.iconst X14.here hx rfl (hb hby at_167) ?_
    show Steps p.tables e below (T14.setTop (mkF m 168 #[.val (.int p1), .val (.int p2), .val (.int p3), .val (.int p4), .val (.int p5), .val (.int p6), .val (.int (p1 &&& (3 : Int32))), .val (.int (p2 &&& (3 : Int32))), .val (.int (own_ch p3)), .val (.int (own_ch p4)), .val (.int (own_ch p5)), .val (.int (0 : Int32)), .val (.int (own_jk p6)), .val (.ref b7), .val (.ref (T11.heap.size)), .unset, .unset] [(.int (1 : Int32))])) _
    refine XS.goto X14.here hx rfl (pc0 := 168) (pc' := 172) rfl (hb hby at_168) (by decide) (by decide) ?_
    show Steps p.tables e below (T14.setTop (mkF m 172 #[.val (.int p1), .val (.int p2), .val (.int p3), .val (.int p4), .val (.int p5), .val (.int p6), .val (.int (p1 &&& (3 : Int32))), .val (.int (p2 &&& (3 : Int32))), .val (.int (own_ch p3)), .val (.int (own_ch p4)), .val (.int (own_ch p5)), .val (.int (0 : Int32)), .val (.int (own_jk p6)), .val (.ref b7), .val (.ref (T11.heap.size)), .unset, .unset] [(.int (1 : Int32))])) _
    refine XS.istore X14.here hx rfl (hb hby at_172) rfl (l' := #[.val (.int p1), .val (.int p2), .val (.int p3), .val (.int p4), .val (.int p5), .val (.int p6), .val (.int (p1 &&& (3 : Int32))), .val (.int (p2 &&& (3 : Int32))), .val (.int (own_ch p3)), .val (.int (own_ch p4)), .val (.int (own_ch p5)), .val (.int (0 : Int32)), .val (.int (own_jk p6)), .val (.ref b7), .val (.ref (T11.heap.size)), .val (.int (1 : Int32)), .unset]) rfl ?_
    show Steps p.tables e below (T14.setTop (mkF m 174 #[.val (.int p1), .val (.int p2), .val (.int p3), .val (.int p4), .val (.int p5), .val (.int p6), .val (.int (p1 &&& (3 : Int32))), .val (.int (p2 &&& (3 : Int32))), .val (.int (own_ch p3)), .val (.int (own_ch p4)), .val (.int (own_ch p5)), .val (.int (0 : Int32)), .val (.int (own_jk p6)), .val (.ref b7), .val (.ref (T11.heap.size)), .val (.int (1 : Int32)), .unset] [])) _
    refine XS.iload X14.here hx rfl (hb hby at_174) rfl ?_
    show Steps p.tables e below (T14.setTop (mkF m 176 #[.val (.int p1), .val (.int p2), .val (.int p3), .val (.int p4), .val (.int p5), .val (.int p6), .val (.int (p1 &&& (3 : Int32))), .val (.int (p2 &&& (3 : Int32))), .val (.int (own_ch p3)), .val (.int (own_ch p4)), .val (.int (own_ch p5)), .val (.int (0 : Int32)), .val (.int (own_jk p6)), .val (.ref b7), .val (.ref (T11.heap.size)), .val (.int (1 : Int32)), .unset] [(.int (1 : Int32))])) _
    refine XS.ifYes X14.here hx rfl (pc0 := 176) (pc' := 181) rfl (hb hby at_176) rfl ((if0 _ _).trans (feq hc176).2) (by decide) (by decide) ?_
    show Steps p.tables e below (T14.setTop (mkF m 181 #[.val (.int p1), .val (.int p2), .val (.int p3), .val (.int p4), .val (.int p5), .val (.int p6), .val (.int (p1 &&& (3 : Int32))), .val (.int (p2 &&& (3 : Int32))), .val (.int (own_ch p3)), .val (.int (own_ch p4)), .val (.int (own_ch p5)), .val (.int (0 : Int32)), .val (.int (own_jk p6)), .val (.ref b7), .val (.ref (T11.heap.size)), .val (.int (1 : Int32)), .unset] [])) _
    refine XS.iload X14.here hx rfl (hb hby at_181) rfl ?_
    show Steps p.tables e below (T14.setTop (mkF m 183 #[.val (.int p1), .val (.int p2), .val (.int p3), .val (.int p4), .val (.int p5), .val (.int p6), .val (.int (p1 &&& (3 : Int32))), .val (.int (p2 &&& (3 : Int32))), .val (.int (own_ch p3)), .val (.int (own_ch p4)), .val (.int (own_ch p5)), .val (.int (0 : Int32)), .val (.int (own_jk p6)), .val (.ref b7), .val (.ref (T11.heap.size)), .val (.int (1 : Int32)), .unset] [(.int (p2 &&& (3 : Int32)))])) _
    refine XS.ifNo X14.here hx rfl (hb hby at_183) rfl ((if0 _ _).trans (tlt hc183).2.2.2) ?_
    show Steps p.tables e below (T14.setTop (mkF m 186 #[.val (.int p1), .val (.int p2), .val (.int p3), .val (.int p4), .val (.int p5), .val (.int p6), .val (.int (p1 &&& (3 : Int32))), .val (.int (p2 &&& (3 : Int32))), .val (.int (own_ch p3)), .val (.int (own_ch p4)), .val (.int (own_ch p5)), .val (.int (0 : Int32)), .val (.int (own_jk p6)), .val (.ref b7), .val (.ref (T11.heap.size)), .val (.int (1 : Int32)), .unset] [])) _
    refine XS.aload X14.here hx rfl (hb hby at_186) rfl rfl ?_
    show Steps p.tables e below (T14.setTop (mkF m 188 #[.val (.int p1), .val (.int p2), .val (.int p3), .val (.int p4), .val (.int p5), .val (.int p6), .val (.int (p1 &&& (3 : Int32))), .val (.int (p2 &&& (3 : Int32))), .val (.int (own_ch p3)), .val (.int (own_ch p4)), .val (.int (own_ch p5)), .val (.int (0 : Int32)), .val (.int (own_jk p6)), .val (.ref b7), .val (.ref (T11.heap.size)), .val (.int (1 : Int32)), .unset] [(.ref (T11.heap.size))])) _
    refine XS.iconst X14.here hx rfl (hb hby at_188) ?_
    show Steps p.tables e below (T14.setTop (mkF m 189 #[.val (.int p1), .val (.int p2), .val (.int p3), .val (.int p4), .val (.int p5), .val (.int p6), .val (.int (p1 &&& (3 : Int32))), .val (.int (p2 &&& (3 : Int32))), .val (.int (own_ch p3)), .val (.int (own_ch p4)), .val (.int (own_ch p5)), .val (.int (0 : Int32)), .val (.int (own_jk p6)), .val (.ref b7), .val (.ref (T11.heap.size)), .val (.int (1 : Int32)), .unset] [(.int (0 : Int32)), (.ref (T11.heap.size))])) _
    refine XS.aload X14.here hx rfl (hb hby at_189) rfl rfl ?_
    show Steps p.tables e below (T14.setTop (mkF m 191 #[.val (.int p1), .val (.int p2), .val (.int p3), .val (.int p4), .val (.int p5), .val (.int p6), .val (.int (p1 &&& (3 : Int32))), .val (.int (p2 &&& (3 : Int32))), .val (.int (own_ch p3)), .val (.int (own_ch p4)), .val (.int (own_ch p5)), .val (.int (0 : Int32)), .val (.int (own_jk p6)), .val (.ref b7), .val (.ref (T11.heap.size)), .val (.int (1 : Int32)), .unset] [(.ref (T11.heap.size)), (.int (0 : Int32)), (.ref (T11.heap.size))])) _
    refine XS.iconst X14.here hx rfl (hb hby at_191) ?_
    show Steps p.tables e below (T14.setTop (mkF m 192 #[.val (.int p1), .val (.int p2), .val (.int p3), .val (.int p4), .val (.int p5), .val (.int p6), .val (.int (p1 &&& (3 : Int32))), .val (.int (p2 &&& (3 : Int32))), .val (.int (own_ch p3)), .val (.int (own_ch p4)), .val (.int (own_ch p5)), .val (.int (0 : Int32)), .val (.int (own_jk p6)), .val (.ref b7), .val (.ref (T11.heap.size)), .val (.int (1 : Int32)), .unset] [(.int (0 : Int32)), (.ref (T11.heap.size)), (.int (0 : Int32)), (.ref (T11.heap.size))])) _
    refine X14.baloadBytes hx (j := (0 : Int32)) (v := (.int (own_by (own_ch p3)))) (by rw [hh14]; exact Arr1.1) (State.isArrayOf_alike hZ.alike Arr1.2.1) Arr1.2.2 hin192 hat192 (g := (mkF m 192 #[.val (.int p1), .val (.int p2), .val (.int p3), .val (.int p4), .val (.int p5), .val (.int p6), .val (.int (p1 &&& (3 : Int32))), .val (.int (p2 &&& (3 : Int32))), .val (.int (own_ch p3)), .val (.int (own_ch p4)), .val (.int (own_ch p5)), .val (.int (0 : Int32)), .val (.int (own_jk p6)), .val (.ref b7), .val (.ref (T11.heap.size)), .val (.int (1 : Int32)), .unset] [(.int (0 : Int32)), (.ref (T11.heap.size)), (.int (0 : Int32)), (.ref (T11.heap.size))])) rfl rfl (hb hby at_192) _ ?_
    show Steps p.tables e below (T14.setTop (mkF m 193 #[.val (.int p1), .val (.int p2), .val (.int p3), .val (.int p4), .val (.int p5), .val (.int p6), .val (.int (p1 &&& (3 : Int32))), .val (.int (p2 &&& (3 : Int32))), .val (.int (own_ch p3)), .val (.int (own_ch p4)), .val (.int (own_ch p5)), .val (.int (0 : Int32)), .val (.int (own_jk p6)), .val (.ref b7), .val (.ref (T11.heap.size)), .val (.int (1 : Int32)), .unset] [(.int (own_by (own_ch p3))), (.int (0 : Int32)), (.ref (T11.heap.size))])) _
    refine XS.bipush X14.here hx rfl (hb hby at_193) ?_
    show Steps p.tables e below (T14.setTop (mkF m 195 #[.val (.int p1), .val (.int p2), .val (.int p3), .val (.int p4), .val (.int p5), .val (.int p6), .val (.int (p1 &&& (3 : Int32))), .val (.int (p2 &&& (3 : Int32))), .val (.int (own_ch p3)), .val (.int (own_ch p4)), .val (.int (own_ch p5)), .val (.int (0 : Int32)), .val (.int (own_jk p6)), .val (.ref b7), .val (.ref (T11.heap.size)), .val (.int (1 : Int32)), .unset] [(.int (64 : Int32)), (.int (own_by (own_ch p3))), (.int (0 : Int32)), (.ref (T11.heap.size))])) _
    refine XS.ixor X14.here hx rfl (hb hby at_195) rfl ?_
    show Steps p.tables e below (T14.setTop (mkF m 196 #[.val (.int p1), .val (.int p2), .val (.int p3), .val (.int p4), .val (.int p5), .val (.int p6), .val (.int (p1 &&& (3 : Int32))), .val (.int (p2 &&& (3 : Int32))), .val (.int (own_ch p3)), .val (.int (own_ch p4)), .val (.int (own_ch p5)), .val (.int (0 : Int32)), .val (.int (own_jk p6)), .val (.ref b7), .val (.ref (T11.heap.size)), .val (.int (1 : Int32)), .unset] [(.int ((own_by (own_ch p3)) ^^^ (64 : Int32))), (.int (0 : Int32)), (.ref (T11.heap.size))])) _
    refine XS.i2b X14.here hx rfl (hb hby at_196) rfl ?_
    show Steps p.tables e below (T14.setTop (mkF m 197 #[.val (.int p1), .val (.int p2), .val (.int p3), .val (.int p4), .val (.int p5), .val (.int p6), .val (.int (p1 &&& (3 : Int32))), .val (.int (p2 &&& (3 : Int32))), .val (.int (own_ch p3)), .val (.int (own_ch p4)), .val (.int (own_ch p5)), .val (.int (0 : Int32)), .val (.int (own_jk p6)), .val (.ref b7), .val (.ref (T11.heap.size)), .val (.int (1 : Int32)), .unset] [(.int (((own_by (own_ch p3)) ^^^ (64 : Int32)).toInt8.toInt32)), (.int (0 : Int32)), (.ref (T11.heap.size))])) _
    refine st16 _ ?_
    show Steps p.tables e below (T16.setTop (mkF m 198 #[.val (.int p1), .val (.int p2), .val (.int p3), .val (.int p4), .val (.int p5), .val (.int p6), .val (.int (p1 &&& (3 : Int32))), .val (.int (p2 &&& (3 : Int32))), .val (.int (own_ch p3)), .val (.int (own_ch p4)), .val (.int (own_ch p5)), .val (.int (0 : Int32)), .val (.int (own_jk p6)), .val (.ref b7), .val (.ref (T11.heap.size)), .val (.int (1 : Int32)), .unset] [])) _
    refine XS.aload X16.here hx rfl (hb hby at_198) rfl rfl ?_
    show Steps p.tables e below (T16.setTop (mkF m 200 #[.val (.int p1), .val (.int p2), .val (.int p3), .val (.int p4), .val (.int p5), .val (.int p6), .val (.int (p1 &&& (3 : Int32))), .val (.int (p2 &&& (3 : Int32))), .val (.int (own_ch p3)), .val (.int (own_ch p4)), .val (.int (own_ch p5)), .val (.int (0 : Int32)), .val (.int (own_jk p6)), .val (.ref b7), .val (.ref (T11.heap.size)), .val (.int (1 : Int32)), .unset] [(.ref b7)])) _
    refine st17.trans ?_
    show Steps p.tables e below (T17.setTop (mkF m 203 #[.val (.int p1), .val (.int p2), .val (.int p3), .val (.int p4), .val (.int p5), .val (.int p6), .val (.int (p1 &&& (3 : Int32))), .val (.int (p2 &&& (3 : Int32))), .val (.int (own_ch p3)), .val (.int (own_ch p4)), .val (.int (own_ch p5)), .val (.int (0 : Int32)), .val (.int (own_jk p6)), .val (.ref b7), .val (.ref (T11.heap.size)), .val (.int (1 : Int32)), .unset] [(.ref (h16.size))])) _
    refine XS.astore X17.here hx rfl (hb hby at_203) rfl rfl (l' := #[.val (.int p1), .val (.int p2), .val (.int p3), .val (.int p4), .val (.int p5), .val (.int p6), .val (.int (p1 &&& (3 : Int32))), .val (.int (p2 &&& (3 : Int32))), .val (.int (own_ch p3)), .val (.int (own_ch p4)), .val (.int (own_ch p5)), .val (.int (0 : Int32)), .val (.int (own_jk p6)), .val (.ref b7), .val (.ref (T11.heap.size)), .val (.int (1 : Int32)), .val (.ref (h16.size))]) rfl ?_
    show Steps p.tables e below (T17.setTop (mkF m 205 #[.val (.int p1), .val (.int p2), .val (.int p3), .val (.int p4), .val (.int p5), .val (.int p6), .val (.int (p1 &&& (3 : Int32))), .val (.int (p2 &&& (3 : Int32))), .val (.int (own_ch p3)), .val (.int (own_ch p4)), .val (.int (own_ch p5)), .val (.int (0 : Int32)), .val (.int (own_jk p6)), .val (.ref b7), .val (.ref (T11.heap.size)), .val (.int (1 : Int32)), .val (.ref (h16.size))] [])) _
    refine XS.aload X17.here hx rfl (hb hby at_205) rfl rfl ?_
    show Steps p.tables e below (T17.setTop (mkF m 207 #[.val (.int p1), .val (.int p2), .val (.int p3), .val (.int p4), .val (.int p5), .val (.int p6), .val (.int (p1 &&& (3 : Int32))), .val (.int (p2 &&& (3 : Int32))), .val (.int (own_ch p3)), .val (.int (own_ch p4)), .val (.int (own_ch p5)), .val (.int (0 : Int32)), .val (.int (own_jk p6)), .val (.ref b7), .val (.ref (T11.heap.size)), .val (.int (1 : Int32)), .val (.ref (h16.size))] [(.ref (h16.size))])) _
    refine X17.arraylength hx (by exact Arr2.1) (State.isArrayOf_alike hZ.alike Arr2.2.1) (g := (mkF m 207 #[.val (.int p1), .val (.int p2), .val (.int p3), .val (.int p4), .val (.int p5), .val (.int p6), .val (.int (p1 &&& (3 : Int32))), .val (.int (p2 &&& (3 : Int32))), .val (.int (own_ch p3)), .val (.int (own_ch p4)), .val (.int (own_ch p5)), .val (.int (0 : Int32)), .val (.int (own_jk p6)), .val (.ref b7), .val (.ref (T11.heap.size)), .val (.int (1 : Int32)), .val (.ref (h16.size))] [(.ref (h16.size))])) rfl rfl (hb hby at_207) _ ?_
    rw [len_of Sr2 Nr2]
    show Steps p.tables e below (T17.setTop (mkF m 208 #[.val (.int p1), .val (.int p2), .val (.int p3), .val (.int p4), .val (.int p5), .val (.int p6), .val (.int (p1 &&& (3 : Int32))), .val (.int (p2 &&& (3 : Int32))), .val (.int (own_ch p3)), .val (.int (own_ch p4)), .val (.int (own_ch p5)), .val (.int (0 : Int32)), .val (.int (own_jk p6)), .val (.ref b7), .val (.ref (T11.heap.size)), .val (.int (1 : Int32)), .val (.ref (h16.size))] [(.int (Int32.ofNat ((([] ++ [(own_by (own_ch p3))]) ++ [(own_by (own_ch p4))]) ++ [(own_by (own_ch p5))]).length))])) _
    refine XS.iload X17.here hx rfl (hb hby at_208) rfl ?_
    show Steps p.tables e below (T17.setTop (mkF m 210 #[.val (.int p1), .val (.int p2), .val (.int p3), .val (.int p4), .val (.int p5), .val (.int p6), .val (.int (p1 &&& (3 : Int32))), .val (.int (p2 &&& (3 : Int32))), .val (.int (own_ch p3)), .val (.int (own_ch p4)), .val (.int (own_ch p5)), .val (.int (0 : Int32)), .val (.int (own_jk p6)), .val (.ref b7), .val (.ref (T11.heap.size)), .val (.int (1 : Int32)), .val (.ref (h16.size))] [(.int (p2 &&& (3 : Int32))), (.int (Int32.ofNat ((([] ++ [(own_by (own_ch p3))]) ++ [(own_by (own_ch p4))]) ++ [(own_by (own_ch p5))]).length))])) _
    refine XS.icmpNo X17.here hx rfl (hb hby at_210) rfl (teq (by rw [hn]; first | rfl | decide : (Int32.ofNat ((([] ++ [(own_by (own_ch p3))]) ++ [(own_by (own_ch p4))]) ++ [(own_by (own_ch p5))]).length) = (p2 &&& (3 : Int32)))).2 ?_
    show Steps p.tables e below (T17.setTop (mkF m 213 #[.val (.int p1), .val (.int p2), .val (.int p3), .val (.int p4), .val (.int p5), .val (.int p6), .val (.int (p1 &&& (3 : Int32))), .val (.int (p2 &&& (3 : Int32))), .val (.int (own_ch p3)), .val (.int (own_ch p4)), .val (.int (own_ch p5)), .val (.int (0 : Int32)), .val (.int (own_jk p6)), .val (.ref b7), .val (.ref (T11.heap.size)), .val (.int (1 : Int32)), .val (.ref (h16.size))] [])) _
    refine XS.aload X17.here hx rfl (hb hby at_213) rfl rfl ?_
    show Steps p.tables e below (T17.setTop (mkF m 215 #[.val (.int p1), .val (.int p2), .val (.int p3), .val (.int p4), .val (.int p5), .val (.int p6), .val (.int (p1 &&& (3 : Int32))), .val (.int (p2 &&& (3 : Int32))), .val (.int (own_ch p3)), .val (.int (own_ch p4)), .val (.int (own_ch p5)), .val (.int (0 : Int32)), .val (.int (own_jk p6)), .val (.ref b7), .val (.ref (T11.heap.size)), .val (.int (1 : Int32)), .val (.ref (h16.size))] [(.ref (h16.size))])) _
    refine XS.iload X17.here hx rfl (hb hby at_215) rfl ?_
    show Steps p.tables e below (T17.setTop (mkF m 217 #[.val (.int p1), .val (.int p2), .val (.int p3), .val (.int p4), .val (.int p5), .val (.int p6), .val (.int (p1 &&& (3 : Int32))), .val (.int (p2 &&& (3 : Int32))), .val (.int (own_ch p3)), .val (.int (own_ch p4)), .val (.int (own_ch p5)), .val (.int (0 : Int32)), .val (.int (own_jk p6)), .val (.ref b7), .val (.ref (T11.heap.size)), .val (.int (1 : Int32)), .val (.ref (h16.size))] [(.int (p2 &&& (3 : Int32))), (.ref (h16.size))])) _
    refine XS.iload X17.here hx rfl (hb hby at_217) rfl ?_
    show Steps p.tables e below (T17.setTop (mkF m 219 #[.val (.int p1), .val (.int p2), .val (.int p3), .val (.int p4), .val (.int p5), .val (.int p6), .val (.int (p1 &&& (3 : Int32))), .val (.int (p2 &&& (3 : Int32))), .val (.int (own_ch p3)), .val (.int (own_ch p4)), .val (.int (own_ch p5)), .val (.int (0 : Int32)), .val (.int (own_jk p6)), .val (.ref b7), .val (.ref (T11.heap.size)), .val (.int (1 : Int32)), .val (.ref (h16.size))] [(.int (own_ch p3)), (.int (p2 &&& (3 : Int32))), (.ref (h16.size))])) _
    refine XS.iload X17.here hx rfl (hb hby at_219) rfl ?_
    show Steps p.tables e below (T17.setTop (mkF m 221 #[.val (.int p1), .val (.int p2), .val (.int p3), .val (.int p4), .val (.int p5), .val (.int p6), .val (.int (p1 &&& (3 : Int32))), .val (.int (p2 &&& (3 : Int32))), .val (.int (own_ch p3)), .val (.int (own_ch p4)), .val (.int (own_ch p5)), .val (.int (0 : Int32)), .val (.int (own_jk p6)), .val (.ref b7), .val (.ref (T11.heap.size)), .val (.int (1 : Int32)), .val (.ref (h16.size))] [(.int (own_ch p4)), (.int (own_ch p3)), (.int (p2 &&& (3 : Int32))), (.ref (h16.size))])) _
    refine XS.iload X17.here hx rfl (hb hby at_221) rfl ?_
    show Steps p.tables e below (T17.setTop (mkF m 223 #[.val (.int p1), .val (.int p2), .val (.int p3), .val (.int p4), .val (.int p5), .val (.int p6), .val (.int (p1 &&& (3 : Int32))), .val (.int (p2 &&& (3 : Int32))), .val (.int (own_ch p3)), .val (.int (own_ch p4)), .val (.int (own_ch p5)), .val (.int (0 : Int32)), .val (.int (own_jk p6)), .val (.ref b7), .val (.ref (T11.heap.size)), .val (.int (1 : Int32)), .val (.ref (h16.size))] [(.int (own_ch p5)), (.int (own_ch p4)), (.int (own_ch p3)), (.int (p2 &&& (3 : Int32))), (.ref (h16.size))])) _
    refine st18 _ ?_
    show Steps p.tables e below (T18.setTop (mkF m 226 #[.val (.int p1), .val (.int p2), .val (.int p3), .val (.int p4), .val (.int p5), .val (.int p6), .val (.int (p1 &&& (3 : Int32))), .val (.int (p2 &&& (3 : Int32))), .val (.int (own_ch p3)), .val (.int (own_ch p4)), .val (.int (own_ch p5)), .val (.int (0 : Int32)), .val (.int (own_jk p6)), .val (.ref b7), .val (.ref (T11.heap.size)), .val (.int (1 : Int32)), .val (.ref (h16.size))] [(.int (1 : Int32))])) _
    refine XS.ifNo X18.here hx rfl (hb hby at_226) rfl ((if0 _ _).trans (feq (by decide : ¬ ((1 : Int32) = (0 : Int32)))).1) ?_
    show Steps p.tables e below (T18.setTop (mkF m 229 #[.val (.int p1), .val (.int p2), .val (.int p3), .val (.int p4), .val (.int p5), .val (.int p6), .val (.int (p1 &&& (3 : Int32))), .val (.int (p2 &&& (3 : Int32))), .val (.int (own_ch p3)), .val (.int (own_ch p4)), .val (.int (own_ch p5)), .val (.int (0 : Int32)), .val (.int (own_jk p6)), .val (.ref b7), .val (.ref (T11.heap.size)), .val (.int (1 : Int32)), .val (.ref (h16.size))] [])) _
    refine XS.iconst X18.here hx rfl (hb hby at_229) ?_
    show Steps p.tables e below (T18.setTop (mkF m 230 #[.val (.int p1), .val (.int p2), .val (.int p3), .val (.int p4), .val (.int p5), .val (.int p6), .val (.int (p1 &&& (3 : Int32))), .val (.int (p2 &&& (3 : Int32))), .val (.int (own_ch p3)), .val (.int (own_ch p4)), .val (.int (own_ch p5)), .val (.int (0 : Int32)), .val (.int (own_jk p6)), .val (.ref b7), .val (.ref (T11.heap.size)), .val (.int (1 : Int32)), .val (.ref (h16.size))] [(.int (1 : Int32))])) _
    refine XS.goto X18.here hx rfl (pc0 := 230) (pc' := 234) rfl (hb hby at_230) (by decide) (by decide) ?_
    show Steps p.tables e below (T18.setTop (mkF m 234 #[.val (.int p1), .val (.int p2), .val (.int p3), .val (.int p4), .val (.int p5), .val (.int p6), .val (.int (p1 &&& (3 : Int32))), .val (.int (p2 &&& (3 : Int32))), .val (.int (own_ch p3)), .val (.int (own_ch p4)), .val (.int (own_ch p5)), .val (.int (0 : Int32)), .val (.int (own_jk p6)), .val (.ref b7), .val (.ref (T11.heap.size)), .val (.int (1 : Int32)), .val (.ref (h16.size))] [(.int (1 : Int32))])) _
    exact retN X18 hx (t := .boolean) Bd.returns (by simp) (hb hby at_234) hr
  · show Q0 h0 n0 _ T18.heap _
    exact ⟨rfl, N18⟩
theorem pdw_9 : parseMethodDescriptor "()V" = some ⟨[], none⟩ := by decide +kernel
set_option maxRecDepth 65536 in
set_option maxHeartbeats 40000000 in
theorem rm0_c1n0 (l : Launch) (Z : State) (a0 : Array Value) (hw : ∀ d ∈ tables_1, d.before a0 Z = true) (ws : List Jvm.Cond) (p1 : Int32) (p2 : Int32) (p3 : Int32) (p4 : Int32) (p5 : Int32) (p6 : Int32) (h0 : Heap) (n0 : Nat) (Z0 : n0 ≤ h0.size) (cap : Nat) (hcap : (p1 &&& (3 : Int32)) = Int32.ofNat cap) (hcap3 : cap ≤ 3) (hn : (p2 &&& (3 : Int32)) = (0 : Int32)) (hc36 : ¬ ((p6 &&& (1 : Int32)) = (0 : Int32))) :
    MetFree l x (head1 (Jvm.Cond.code x code maxLocals ret :: ws) room_1) (fun a U => a = #[(.int p1), (.int p2), (.int p3), (.int p4), (.int p5), (.int p6)] ∧ Z.Warmed39 U.vm ∧ U.heap = h0) (fun _ _ _ _ _ => True) (fun _ U o U' => ∃ v L, o = .returned v ∧ Q0 h0 n0 v U'.heap L ∧ FrameEnd U o U' L room_1.cells room_1.slots) := by
  have hc87 : ¬ ((0 : Int32) < (p2 &&& (3 : Int32))) := by rw [hn]; decide
  have hc101 : ¬ ((1 : Int32) < (p2 &&& (3 : Int32))) := by rw [hn]; decide
  have hc115 : ¬ ((2 : Int32) < (p2 &&& (3 : Int32))) := by rw [hn]; decide
  have hc183 : ¬ ((0 : Int32) < (p2 &&& (3 : Int32))) := by rw [hn]; decide
  have hc69 : ¬ ((1 : Int32) = (0 : Int32)) := by decide
  have hc176 : ¬ ((1 : Int32) = (0 : Int32)) := by decide
  refine MetFree.of_bodySF (plainFor_of_name pn_0) hisR ?_
  intro p e s m args below meth c s₁ Bd hml0 hP hK
  obtain ⟨rfl, hZ, hh⟩ := hP
  have hx := Bd.exec
  have hby := Bd.bytes
  have hml : c.maxLocals = 17 := hml0
  have hown : s.vm.findClass "com/example/acompte/acompte/Utf8BuilderToByteArrayPinLaw" = some m.cls := findClass_of_methodNamed Bd.named
  have hnm := (name_of_methodNamed Bd.named Bd.method).1
  have X0 : Stand p l e room_1 s m #[(.int p1), (.int p2), (.int p3), (.int p4), (.int p5), (.int p6)] below meth c s₁ [] 0 0 := Stand.of_body Bd
  have e0 : s₁.heap = h0 := by rw [← hh, Bd.state]; rfl
  have N0 := Fr.nil n0
  have pre0 : ∀ t, Steps p.tables e below (s₁.setTop (mkF m 0 #[.val (.int p1), .val (.int p2), .val (.int p3), .val (.int p4), .val (.int p5), .val (.int p6), .unset, .unset, .unset, .unset, .unset, .unset, .unset, .unset, .unset, .unset, .unset] [])) t → Steps p.tables e below (s₁.setTop (entryFrame m #[(.int p1), (.int p2), (.int p3), (.int p4), (.int p5), (.int p6)] maxLocals)) t := fun t k => castTop (ef_0 m p1 p2 p3 p4 p5 p6) k
  -- 3. LAWS
  obtain ⟨T7, h7, X7, e7, E7, A7, D7, -, st7⟩ := newO X0 hx hZ hown (hw _ (List.mem_of_getElem? (i := 0) rfl)) (hw _ (List.mem_of_getElem? (i := 1) rfl)) (hw _ (List.mem_of_getElem? (i := 2) rfl)) e0 (g := (mkF m 56 #[.val (.int p1), .val (.int p2), .val (.int p3), .val (.int p4), .val (.int p5), .val (.int p6), .val (.int (p1 &&& (3 : Int32))), .val (.int (p2 &&& (3 : Int32))), .val (.int (own_ch p3)), .val (.int (own_ch p4)), .val (.int (own_ch p5)), .val (.int (1 : Int32)), .val (.int (own_jk p6)), .unset, .unset, .unset, .unset] [])) rfl (hb hby at_56) (by decide) (by decide)
  obtain ⟨b7, g7⟩ : ∃ z, z = h0.size := ⟨_, rfl⟩      -- the fresh object's address
  rw [← g7] at A7 D7 st7      -- A7 : Exa Z h7 b7 "com/example/acompte/acompte/Utf8Builder"; E7 : Ext h0 h7 (carries every older fact: .ext E7)
  have F_bytes_b7 : Fld Z h7 b7 "com/example/acompte/acompte/Utf8Builder" "bytes" "[B" .null := D7 (Or.inl (hw _ (List.mem_of_getElem? (i := 11) rfl))) (ty := (.array .byte)) (by decide)
  have F_length_b7 : Fld Z h7 b7 "com/example/acompte/acompte/Utf8Builder" "length" "I" (.int (0 : Int32)) := D7 (Or.inl (hw _ (List.mem_of_getElem? (i := 22) rfl))) (ty := .int) (by decide)
  have E_b7 := A7
  have g_b7 : n0 ≤ b7 := Nat.le_trans Z0 (Nat.le_of_eq g7.symm)
  obtain ⟨_, _, ⟨T8, L8, k8, n8⟩, -, X8, ⟨Lc8, hQ8, l8, y8, z8⟩, st8⟩ := X7.specialBack hx (y := (⟨"com/example/acompte/acompte/Utf8Builder", "<init>", "(I)V"⟩ : MethodName)) rfl hown (mvT hZ (hw _ (List.mem_of_getElem? (i := 3) rfl))) (mvT hZ (hw _ (List.mem_of_getElem? (i := 4) rfl))) (mvT hZ (hw _ (List.mem_of_getElem? (i := 5) rfl))) (by decide) (backOf (W := 1) (rm1_i l Z a0 hw [] b7 (p1 &&& (3 : Int32)) .null cap h7 n0 (Nat.le_trans Z0 E7.1) E_b7 F_bytes_b7 F_length_b7 g_b7 hcap hcap3) hZ (hw _ (List.mem_of_getElem? (i := 5) rfl)) (hw _ (List.mem_of_getElem? (i := 2) rfl)) (by decide) (by decide)) (g := (mkF m 62 #[.val (.int p1), .val (.int p2), .val (.int p3), .val (.int p4), .val (.int p5), .val (.int p6), .val (.int (p1 &&& (3 : Int32))), .val (.int (p2 &&& (3 : Int32))), .val (.int (own_ch p3)), .val (.int (own_ch p4)), .val (.int (own_ch p5)), .val (.int (1 : Int32)), .val (.int (own_jk p6)), .unset, .unset, .unset, .unset] [(.int (p1 &&& (3 : Int32))), (.ref b7), (.ref b7)])) rfl (by rw [hml]; rfl) (Steps.refl _) (a := b7) (argsL := [(.int (p1 &&& (3 : Int32)))]) (rest := [(.ref b7)]) (lenOf pdw_4 rfl) rfl (by show 2 * 0 + _ ≤ _; exact Nat.le_of_eq rfl) (hb hby at_62) (fun _ _ => ⟨rfl, e7, (by decide : 1 + 1 ≤ _), (by decide : 2 + 8 ≤ _)⟩)
  dsimp only [Pt.U, Pt.locs, Pt.cells, Pt.slots] at X8 l8 y8 z8 st8 hQ8
  subst l8 y8 z8
  obtain ⟨rfl, N8q, zh, BB⟩ := hQ8
  have ZB : n0 ≤ T8.heap.size := Nat.le_trans (Nat.le_trans Z0 E7.1) zh
  have EB := BB.exa
  have N8 := Fr.app N0 N8q
  obtain ⟨cq9, kq9, q9a, q9b, q9c⟩ := isOf hZ rfl EB
  obtain ⟨_, _, ⟨T9, L9, k9, n9⟩, -, X9, ⟨Lc9, hQ9, l9, y9, z9⟩, st9⟩ := X8.virtualBack hx (y := (⟨"com/example/acompte/acompte/Utf8Builder", "append", "(C)Lcom/example/acompte/acompte/Utf8Builder;"⟩ : MethodName)) (z := (⟨"com/example/acompte/acompte/Utf8Builder", "append", "(C)Lcom/example/acompte/acompte/Utf8Builder;"⟩ : MethodName)) hown (mvT hZ (hw _ (List.mem_of_getElem? (i := 12) rfl))) (mvT hZ (hw _ (List.mem_of_getElem? (i := 13) rfl))) (notFace_of_selects (args := #[]) (mvT hZ (hw _ (List.mem_of_getElem? (i := 15) rfl)))) (mvT hZ (hw _ (List.mem_of_getElem? (i := 15) rfl))) (mvT hZ (hw _ (List.mem_of_getElem? (i := 14) rfl))) (by decide) (backOf (W := 0) (rm3_a l Z a0 hw [] b7 (own_jk p6) cap [] T8.heap n0 ZB BB (by first | decide | simp)) hZ (hw _ (List.mem_of_getElem? (i := 16) rfl)) (hw _ (List.mem_of_getElem? (i := 2) rfl)) (by decide) (by decide)) q9a q9c (g := (mkF m 76 #[.val (.int p1), .val (.int p2), .val (.int p3), .val (.int p4), .val (.int p5), .val (.int p6), .val (.int (p1 &&& (3 : Int32))), .val (.int (p2 &&& (3 : Int32))), .val (.int (own_ch p3)), .val (.int (own_ch p4)), .val (.int (own_ch p5)), .val (.int (1 : Int32)), .val (.int (own_jk p6)), .val (.ref b7), .unset, .unset, .unset] [(.int (own_jk p6)), (.ref b7)])) rfl (by rw [hml]; rfl) (Steps.refl _) (argsL := [(.int (own_jk p6))]) (rest := []) (lenOf pdw_8 rfl) rfl (by show 2 * 0 + _ ≤ _; exact Nat.le_of_eq rfl) (hb hby at_76) (fun _ _ => ⟨rfl, rfl, (by decide : 2 + 1 ≤ _), (by decide : 10 + 8 ≤ _)⟩)
  dsimp only [Pt.U, Pt.locs, Pt.cells, Pt.slots] at X9 l9 y9 z9 st9 hQ9
  subst l9 y9 z9
  obtain ⟨rfl, N9q, zh, c9, BB⟩ := hQ9
  have ZB : n0 ≤ T9.heap.size := Nat.le_trans ZB zh
  have EB := BB.exa
  have N9 := Fr.app N8 N9q
  obtain ⟨cq10, kq10, q10a, q10b, q10c⟩ := isOf hZ rfl EB
  obtain ⟨_, _, ⟨T10, L10, k10, n10⟩, -, X10, ⟨Lc10, hQ10, l10, y10, z10⟩, st10⟩ := X9.virtualBack hx (y := (⟨"com/example/acompte/acompte/Utf8Builder", "clear", "()V"⟩ : MethodName)) (z := (⟨"com/example/acompte/acompte/Utf8Builder", "clear", "()V"⟩ : MethodName)) hown (mvT hZ (hw _ (List.mem_of_getElem? (i := 38) rfl))) (mvT hZ (hw _ (List.mem_of_getElem? (i := 39) rfl))) (notFace_of_selects (args := #[]) (mvT hZ (hw _ (List.mem_of_getElem? (i := 41) rfl)))) (mvT hZ (hw _ (List.mem_of_getElem? (i := 41) rfl))) (mvT hZ (hw _ (List.mem_of_getElem? (i := 40) rfl))) (by decide) (backOf (W := 0) (rm8_c l Z a0 hw [] b7 c9 ([] ++ [(own_by (own_jk p6))]) T9.heap n0 ZB BB) hZ (hw _ (List.mem_of_getElem? (i := 42) rfl)) (hw _ (List.mem_of_getElem? (i := 2) rfl)) (by decide) (by decide)) q10a q10c (g := (mkF m 82 #[.val (.int p1), .val (.int p2), .val (.int p3), .val (.int p4), .val (.int p5), .val (.int p6), .val (.int (p1 &&& (3 : Int32))), .val (.int (p2 &&& (3 : Int32))), .val (.int (own_ch p3)), .val (.int (own_ch p4)), .val (.int (own_ch p5)), .val (.int (1 : Int32)), .val (.int (own_jk p6)), .val (.ref b7), .unset, .unset, .unset] [(.ref b7)])) rfl (by rw [hml]; rfl) (Steps.refl _) (argsL := []) (rest := []) (lenOf pdw_9 rfl) rfl (by show 2 * 0 + _ ≤ _; exact Nat.le_of_eq rfl) (hb hby at_82) (fun _ _ => ⟨rfl, rfl, (by decide : 3 + 0 ≤ _), (by decide : 18 + 0 ≤ _)⟩)
  dsimp only [Pt.U, Pt.locs, Pt.cells, Pt.slots] at X10 l10 y10 z10 st10 hQ10
  subst l10 y10 z10
  obtain ⟨rfl, N10q, zh, BB⟩ := hQ10
  have ZB : n0 ≤ T10.heap.size := Nat.le_trans ZB zh
  have EB := BB.exa
  have N10 := Fr.app N9 N10q
  obtain ⟨cq11, kq11, q11a, q11b, q11c⟩ := isOf hZ rfl EB
  obtain ⟨_, _, ⟨T11, L11, k11, n11⟩, -, X11, ⟨Lc11, hQ11, l11, y11, z11⟩, st11⟩ := X10.virtualBack hx (y := (⟨"com/example/acompte/acompte/Utf8Builder", "toByteArray", "()[B"⟩ : MethodName)) (z := (⟨"com/example/acompte/acompte/Utf8Builder", "toByteArray", "()[B"⟩ : MethodName)) hown (mvT hZ (hw _ (List.mem_of_getElem? (i := 43) rfl))) (mvT hZ (hw _ (List.mem_of_getElem? (i := 44) rfl))) (notFace_of_selects (args := #[]) (mvT hZ (hw _ (List.mem_of_getElem? (i := 46) rfl)))) (mvT hZ (hw _ (List.mem_of_getElem? (i := 46) rfl))) (mvT hZ (hw _ (List.mem_of_getElem? (i := 45) rfl))) (by decide) (backOf (W := 0) (rm9_t l Z a0 hw [] b7 c9 [] T10.heap n0 ZB BB) hZ (hw _ (List.mem_of_getElem? (i := 47) rfl)) (hw _ (List.mem_of_getElem? (i := 2) rfl)) (by decide) (by decide)) q11a q11c (g := (mkF m 128 #[.val (.int p1), .val (.int p2), .val (.int p3), .val (.int p4), .val (.int p5), .val (.int p6), .val (.int (p1 &&& (3 : Int32))), .val (.int (p2 &&& (3 : Int32))), .val (.int (own_ch p3)), .val (.int (own_ch p4)), .val (.int (own_ch p5)), .val (.int (1 : Int32)), .val (.int (own_jk p6)), .val (.ref b7), .unset, .unset, .unset] [(.ref b7)])) rfl (by rw [hml]; rfl) (Steps.refl _) (argsL := []) (rest := []) (lenOf pdw_5 rfl) rfl (by show 2 * 0 + _ ≤ _; exact Nat.le_of_eq rfl) (hb hby at_128) (fun _ _ => ⟨rfl, rfl, (by decide : 3 + 1 ≤ _), (by decide : 18 + 8 ≤ _)⟩)
  dsimp only [Pt.U, Pt.locs, Pt.cells, Pt.slots] at X11 l11 y11 z11 st11 hQ11
  subst l11 y11 z11
  obtain ⟨rfl, N11q, K11, k11', us11, V11, hus11⟩ := hQ11
  have BB1 := BB
  have g_r1 := ZB
  have BB := BB.keep K11
  have ZB : n0 ≤ T11.heap.size := Nat.le_trans ZB K11.1
  have EB := BB.exa
  have FL := BB.len
  have V11' := V11
  obtain ⟨clr1, Arr1, qr1, Sr1, Nr1, Hr1, Gr1⟩ := V11'
  have N11 := Fr.app N10 N11q
  obtain ⟨cq12, kq12, q12a, q12b, q12c⟩ := isOf hZ rfl EB
  obtain ⟨_, _, ⟨T12, L12, k12, n12⟩, -, X12, ⟨Lc12, hQ12, l12, y12, z12⟩, st12⟩ := X11.virtualBack hx (y := (⟨"com/example/acompte/acompte/Utf8Builder", "length", "()I"⟩ : MethodName)) (z := (⟨"com/example/acompte/acompte/Utf8Builder", "length", "()I"⟩ : MethodName)) hown (mvT hZ (hw _ (List.mem_of_getElem? (i := 48) rfl))) (mvT hZ (hw _ (List.mem_of_getElem? (i := 49) rfl))) (notFace_of_selects (args := #[]) (mvT hZ (hw _ (List.mem_of_getElem? (i := 51) rfl)))) (mvT hZ (hw _ (List.mem_of_getElem? (i := 51) rfl))) (mvT hZ (hw _ (List.mem_of_getElem? (i := 50) rfl))) (by decide) (backOf (W := 0) (rm10 l Z a0 hw [] b7 (Int32.ofNat [].length) T11.heap n0 ZB FL) hZ (hw _ (List.mem_of_getElem? (i := 52) rfl)) (hw _ (List.mem_of_getElem? (i := 2) rfl)) (by decide) (by decide)) q12a q12c (g := (mkF m 143 #[.val (.int p1), .val (.int p2), .val (.int p3), .val (.int p4), .val (.int p5), .val (.int p6), .val (.int (p1 &&& (3 : Int32))), .val (.int (p2 &&& (3 : Int32))), .val (.int (own_ch p3)), .val (.int (own_ch p4)), .val (.int (own_ch p5)), .val (.int (1 : Int32)), .val (.int (own_jk p6)), .val (.ref b7), .val (.ref (T10.heap.size)), .unset, .unset] [(.ref b7)])) rfl (by rw [hml]; rfl) (Steps.refl _) (argsL := []) (rest := []) (lenOf pdw_6 rfl) rfl (by show 2 * 0 + _ ≤ _; exact Nat.le_of_eq rfl) (hb hby at_143) (fun _ _ => ⟨rfl, rfl, (by decide : 4 + 0 ≤ _), (by decide : 26 + 0 ≤ _)⟩)
  dsimp only [Pt.U, Pt.locs, Pt.cells, Pt.slots] at X12 l12 y12 z12 st12 hQ12
  subst l12 y12 z12
  obtain ⟨rfl, N12q, hh12⟩ := hQ12
  have N12 := Fr.app N11 N12q
  obtain ⟨_, _, ⟨T13, L13, k13, n13⟩, -, X13, ⟨Lc13, hQ13, l13, y13, z13⟩, st13⟩ := Jvm.LawKit.callS X12 hx (y := (⟨"com/example/acompte/acompte/Utf8BuilderToByteArrayPinLaw", "matches", "([BICCC)Z"⟩ : MethodName)) hown (mvT hZ (hw _ (List.mem_of_getElem? (i := 53) rfl))) (mvT hZ (hw _ (List.mem_of_getElem? (i := 54) rfl))) (mvT hZ (hw _ (List.mem_of_getElem? (i := 55) rfl))) (mvT hZ (hw _ (List.mem_of_getElem? (i := 56) rfl))) (by decide) (backOf (W := 0) (rm11_n0 l Z a0 hw [] (T10.heap.size) (p2 &&& (3 : Int32)) (own_ch p3) (own_ch p4) (own_ch p5)  T11.heap n0 ZB (by rw [hn]; decide) (by rw [hn]; decide) (by rw [hn]; decide)) hZ (hw _ (List.mem_of_getElem? (i := 56) rfl)) (hw _ (List.mem_of_getElem? (i := 55) rfl)) (by decide) (by decide)) (g := (mkF m 161 #[.val (.int p1), .val (.int p2), .val (.int p3), .val (.int p4), .val (.int p5), .val (.int p6), .val (.int (p1 &&& (3 : Int32))), .val (.int (p2 &&& (3 : Int32))), .val (.int (own_ch p3)), .val (.int (own_ch p4)), .val (.int (own_ch p5)), .val (.int (1 : Int32)), .val (.int (own_jk p6)), .val (.ref b7), .val (.ref (T10.heap.size)), .unset, .unset] [(.int (own_ch p5)), (.int (own_ch p4)), (.int (own_ch p3)), (.int (p2 &&& (3 : Int32))), (.ref (T10.heap.size))])) rfl (by rw [hml]; rfl) (argsL := [(.ref (T10.heap.size)), (.int (p2 &&& (3 : Int32))), (.int (own_ch p3)), (.int (own_ch p4)), (.int (own_ch p5))]) (rest := []) (lenOf pdw_7 rfl) rfl (by show 2 * 0 + _ ≤ _; exact Nat.le_of_eq rfl) (hb hby at_161) (fun _ _ => ⟨rfl, hh12, (by decide : 4 + 0 ≤ _), (by decide : 26 + 0 ≤ _)⟩)
  dsimp only [Pt.U, Pt.locs, Pt.cells, Pt.slots] at X13 l13 y13 z13 st13 hQ13
  subst l13 y13 z13
  obtain ⟨rfl, N13q, hh13⟩ := hQ13
  have N13 := Fr.app N12 N13q
  obtain ⟨cq14, kq14, q14a, q14b, q14c⟩ := isOf hZ hh13 EB
  obtain ⟨_, _, ⟨T14, L14, k14, n14⟩, -, X14, ⟨Lc14, hQ14, l14, y14, z14⟩, st14⟩ := X13.virtualBack hx (y := (⟨"com/example/acompte/acompte/Utf8Builder", "toByteArray", "()[B"⟩ : MethodName)) (z := (⟨"com/example/acompte/acompte/Utf8Builder", "toByteArray", "()[B"⟩ : MethodName)) hown (mvT hZ (hw _ (List.mem_of_getElem? (i := 43) rfl))) (mvT hZ (hw _ (List.mem_of_getElem? (i := 44) rfl))) (notFace_of_selects (args := #[]) (mvT hZ (hw _ (List.mem_of_getElem? (i := 46) rfl)))) (mvT hZ (hw _ (List.mem_of_getElem? (i := 46) rfl))) (mvT hZ (hw _ (List.mem_of_getElem? (i := 45) rfl))) (by decide) (backOf (W := 0) (rm9_t l Z a0 hw [] b7 c9 [] T11.heap n0 ZB BB) hZ (hw _ (List.mem_of_getElem? (i := 47) rfl)) (hw _ (List.mem_of_getElem? (i := 2) rfl)) (by decide) (by decide)) q14a q14c (g := (mkF m 200 #[.val (.int p1), .val (.int p2), .val (.int p3), .val (.int p4), .val (.int p5), .val (.int p6), .val (.int (p1 &&& (3 : Int32))), .val (.int (p2 &&& (3 : Int32))), .val (.int (own_ch p3)), .val (.int (own_ch p4)), .val (.int (own_ch p5)), .val (.int (1 : Int32)), .val (.int (own_jk p6)), .val (.ref b7), .val (.ref (T10.heap.size)), .val (.int (1 : Int32)), .unset] [(.ref b7)])) rfl (by rw [hml]; rfl) (Steps.refl _) (argsL := []) (rest := []) (lenOf pdw_5 rfl) rfl (by show 2 * 0 + _ ≤ _; exact Nat.le_of_eq rfl) (hb hby at_200) (fun _ _ => ⟨rfl, hh13, (by decide : 4 + 1 ≤ _), (by decide : 26 + 8 ≤ _)⟩)
  dsimp only [Pt.U, Pt.locs, Pt.cells, Pt.slots] at X14 l14 y14 z14 st14 hQ14
  subst l14 y14 z14
  obtain ⟨rfl, N14q, K14, k14', us14, V14, hus14⟩ := hQ14
  have ZB : n0 ≤ T14.heap.size := Nat.le_trans ZB K14.1
  have V14' := V14
  obtain ⟨clr2, Arr2, qr2, Sr2, Nr2, Hr2, Gr2⟩ := V14'
  have N14 := Fr.app N13 N14q
  obtain ⟨_, _, ⟨T15, L15, k15, n15⟩, -, X15, ⟨Lc15, hQ15, l15, y15, z15⟩, st15⟩ := Jvm.LawKit.callS X14 hx (y := (⟨"com/example/acompte/acompte/Utf8BuilderToByteArrayPinLaw", "matches", "([BICCC)Z"⟩ : MethodName)) hown (mvT hZ (hw _ (List.mem_of_getElem? (i := 53) rfl))) (mvT hZ (hw _ (List.mem_of_getElem? (i := 54) rfl))) (mvT hZ (hw _ (List.mem_of_getElem? (i := 55) rfl))) (mvT hZ (hw _ (List.mem_of_getElem? (i := 56) rfl))) (by decide) (backOf (W := 0) (rm11_n0 l Z a0 hw [] (T11.heap.size) (p2 &&& (3 : Int32)) (own_ch p3) (own_ch p4) (own_ch p5)  T14.heap n0 ZB (by rw [hn]; decide) (by rw [hn]; decide) (by rw [hn]; decide)) hZ (hw _ (List.mem_of_getElem? (i := 56) rfl)) (hw _ (List.mem_of_getElem? (i := 55) rfl)) (by decide) (by decide)) (g := (mkF m 223 #[.val (.int p1), .val (.int p2), .val (.int p3), .val (.int p4), .val (.int p5), .val (.int p6), .val (.int (p1 &&& (3 : Int32))), .val (.int (p2 &&& (3 : Int32))), .val (.int (own_ch p3)), .val (.int (own_ch p4)), .val (.int (own_ch p5)), .val (.int (1 : Int32)), .val (.int (own_jk p6)), .val (.ref b7), .val (.ref (T10.heap.size)), .val (.int (1 : Int32)), .val (.ref (T11.heap.size))] [(.int (own_ch p5)), (.int (own_ch p4)), (.int (own_ch p3)), (.int (p2 &&& (3 : Int32))), (.ref (T11.heap.size))])) rfl (by rw [hml]; rfl) (argsL := [(.ref (T11.heap.size)), (.int (p2 &&& (3 : Int32))), (.int (own_ch p3)), (.int (own_ch p4)), (.int (own_ch p5))]) (rest := []) (lenOf pdw_7 rfl) rfl (by show 2 * 0 + _ ≤ _; exact Nat.le_of_eq rfl) (hb hby at_223) (fun _ _ => ⟨rfl, rfl, (by decide : 5 + 0 ≤ _), (by decide : 34 + 0 ≤ _)⟩)
  dsimp only [Pt.U, Pt.locs, Pt.cells, Pt.slots] at X15 l15 y15 z15 st15 hQ15
  subst l15 y15 z15
  obtain ⟨rfl, N15q, hh15⟩ := hQ15
  have N15 := Fr.app N14 N15q
  obtain ⟨fs, hr, hrun, hended, hW, hsame⟩ := X15.leave (v := some (.int (1 : Int32))) (fun h => by rw [Bd.returns] at h; cases h)
  refine ⟨_, _, pre0 _ ?_, hrun, hended, _, _, rfl, ?_, ⟨_, rfl⟩, hW, hsame.mono (by decide) (by decide)⟩
  -- 4. STEPS
  · show Steps p.tables e below (s₁.setTop (mkF m 0 #[.val (.int p1), .val (.int p2), .val (.int p3), .val (.int p4), .val (.int p5), .val (.int p6), .unset, .unset, .unset, .unset, .unset, .unset, .unset, .unset, .unset, .unset, .unset] [])) _
    refine XS.iloadN X0.here hx rfl (hb hby at_0) rfl ?_
    show Steps p.tables e below (s₁.setTop (mkF m 1 #[.val (.int p1), .val (.int p2), .val (.int p3), .val (.int p4), .val (.int p5), .val (.int p6), .unset, .unset, .unset, .unset, .unset, .unset, .unset, .unset, .unset, .unset, .unset] [(.int p1)])) _
    refine XS.iconst X0.here hx rfl (hb hby at_1) ?_
    show Steps p.tables e below (s₁.setTop (mkF m 2 #[.val (.int p1), .val (.int p2), .val (.int p3), .val (.int p4), .val (.int p5), .val (.int p6), .unset, .unset, .unset, .unset, .unset, .unset, .unset, .unset, .unset, .unset, .unset] [(.int (3 : Int32)), (.int p1)])) _
    refine XS.iand X0.here hx rfl (hb hby at_2) rfl ?_
    show Steps p.tables e below (s₁.setTop (mkF m 3 #[.val (.int p1), .val (.int p2), .val (.int p3), .val (.int p4), .val (.int p5), .val (.int p6), .unset, .unset, .unset, .unset, .unset, .unset, .unset, .unset, .unset, .unset, .unset] [(.int (p1 &&& (3 : Int32)))])) _
    refine XS.istore X0.here hx rfl (hb hby at_3) rfl (l' := #[.val (.int p1), .val (.int p2), .val (.int p3), .val (.int p4), .val (.int p5), .val (.int p6), .val (.int (p1 &&& (3 : Int32))), .unset, .unset, .unset, .unset, .unset, .unset, .unset, .unset, .unset, .unset]) rfl ?_
    show Steps p.tables e below (s₁.setTop (mkF m 5 #[.val (.int p1), .val (.int p2), .val (.int p3), .val (.int p4), .val (.int p5), .val (.int p6), .val (.int (p1 &&& (3 : Int32))), .unset, .unset, .unset, .unset, .unset, .unset, .unset, .unset, .unset, .unset] [])) _
    refine XS.iloadN X0.here hx rfl (hb hby at_5) rfl ?_
    show Steps p.tables e below (s₁.setTop (mkF m 6 #[.val (.int p1), .val (.int p2), .val (.int p3), .val (.int p4), .val (.int p5), .val (.int p6), .val (.int (p1 &&& (3 : Int32))), .unset, .unset, .unset, .unset, .unset, .unset, .unset, .unset, .unset, .unset] [(.int p2)])) _
    refine XS.iconst X0.here hx rfl (hb hby at_6) ?_
    show Steps p.tables e below (s₁.setTop (mkF m 7 #[.val (.int p1), .val (.int p2), .val (.int p3), .val (.int p4), .val (.int p5), .val (.int p6), .val (.int (p1 &&& (3 : Int32))), .unset, .unset, .unset, .unset, .unset, .unset, .unset, .unset, .unset, .unset] [(.int (3 : Int32)), (.int p2)])) _
    refine XS.iand X0.here hx rfl (hb hby at_7) rfl ?_
    show Steps p.tables e below (s₁.setTop (mkF m 8 #[.val (.int p1), .val (.int p2), .val (.int p3), .val (.int p4), .val (.int p5), .val (.int p6), .val (.int (p1 &&& (3 : Int32))), .unset, .unset, .unset, .unset, .unset, .unset, .unset, .unset, .unset, .unset] [(.int (p2 &&& (3 : Int32)))])) _
    refine XS.istore X0.here hx rfl (hb hby at_8) rfl (l' := #[.val (.int p1), .val (.int p2), .val (.int p3), .val (.int p4), .val (.int p5), .val (.int p6), .val (.int (p1 &&& (3 : Int32))), .val (.int (p2 &&& (3 : Int32))), .unset, .unset, .unset, .unset, .unset, .unset, .unset, .unset, .unset]) rfl ?_
    show Steps p.tables e below (s₁.setTop (mkF m 10 #[.val (.int p1), .val (.int p2), .val (.int p3), .val (.int p4), .val (.int p5), .val (.int p6), .val (.int (p1 &&& (3 : Int32))), .val (.int (p2 &&& (3 : Int32))), .unset, .unset, .unset, .unset, .unset, .unset, .unset, .unset, .unset] [])) _
    refine XS.iloadN X0.here hx rfl (hb hby at_10) rfl ?_
    show Steps p.tables e below (s₁.setTop (mkF m 11 #[.val (.int p1), .val (.int p2), .val (.int p3), .val (.int p4), .val (.int p5), .val (.int p6), .val (.int (p1 &&& (3 : Int32))), .val (.int (p2 &&& (3 : Int32))), .unset, .unset, .unset, .unset, .unset, .unset, .unset, .unset, .unset] [(.int p3)])) _
    refine XS.bipush X0.here hx rfl (hb hby at_11) ?_
    show Steps p.tables e below (s₁.setTop (mkF m 13 #[.val (.int p1), .val (.int p2), .val (.int p3), .val (.int p4), .val (.int p5), .val (.int p6), .val (.int (p1 &&& (3 : Int32))), .val (.int (p2 &&& (3 : Int32))), .unset, .unset, .unset, .unset, .unset, .unset, .unset, .unset, .unset] [(.int (127 : Int32)), (.int p3)])) _
    refine XS.iand X0.here hx rfl (hb hby at_13) rfl ?_
    show Steps p.tables e below (s₁.setTop (mkF m 14 #[.val (.int p1), .val (.int p2), .val (.int p3), .val (.int p4), .val (.int p5), .val (.int p6), .val (.int (p1 &&& (3 : Int32))), .val (.int (p2 &&& (3 : Int32))), .unset, .unset, .unset, .unset, .unset, .unset, .unset, .unset, .unset] [(.int (p3 &&& (127 : Int32)))])) _
    refine XS.i2c X0.here hx rfl (hb hby at_14) rfl ?_
    show Steps p.tables e below (s₁.setTop (mkF m 15 #[.val (.int p1), .val (.int p2), .val (.int p3), .val (.int p4), .val (.int p5), .val (.int p6), .val (.int (p1 &&& (3 : Int32))), .val (.int (p2 &&& (3 : Int32))), .unset, .unset, .unset, .unset, .unset, .unset, .unset, .unset, .unset] [(.int (own_ch p3))])) _
    refine XS.istore X0.here hx rfl (hb hby at_15) rfl (l' := #[.val (.int p1), .val (.int p2), .val (.int p3), .val (.int p4), .val (.int p5), .val (.int p6), .val (.int (p1 &&& (3 : Int32))), .val (.int (p2 &&& (3 : Int32))), .val (.int (own_ch p3)), .unset, .unset, .unset, .unset, .unset, .unset, .unset, .unset]) rfl ?_
    show Steps p.tables e below (s₁.setTop (mkF m 17 #[.val (.int p1), .val (.int p2), .val (.int p3), .val (.int p4), .val (.int p5), .val (.int p6), .val (.int (p1 &&& (3 : Int32))), .val (.int (p2 &&& (3 : Int32))), .val (.int (own_ch p3)), .unset, .unset, .unset, .unset, .unset, .unset, .unset, .unset] [])) _
    refine XS.iloadN X0.here hx rfl (hb hby at_17) rfl ?_
    show Steps p.tables e below (s₁.setTop (mkF m 18 #[.val (.int p1), .val (.int p2), .val (.int p3), .val (.int p4), .val (.int p5), .val (.int p6), .val (.int (p1 &&& (3 : Int32))), .val (.int (p2 &&& (3 : Int32))), .val (.int (own_ch p3)), .unset, .unset, .unset, .unset, .unset, .unset, .unset, .unset] [(.int p4)])) _
    refine XS.bipush X0.here hx rfl (hb hby at_18) ?_
    show Steps p.tables e below (s₁.setTop (mkF m 20 #[.val (.int p1), .val (.int p2), .val (.int p3), .val (.int p4), .val (.int p5), .val (.int p6), .val (.int (p1 &&& (3 : Int32))), .val (.int (p2 &&& (3 : Int32))), .val (.int (own_ch p3)), .unset, .unset, .unset, .unset, .unset, .unset, .unset, .unset] [(.int (127 : Int32)), (.int p4)])) _
    refine XS.iand X0.here hx rfl (hb hby at_20) rfl ?_
    show Steps p.tables e below (s₁.setTop (mkF m 21 #[.val (.int p1), .val (.int p2), .val (.int p3), .val (.int p4), .val (.int p5), .val (.int p6), .val (.int (p1 &&& (3 : Int32))), .val (.int (p2 &&& (3 : Int32))), .val (.int (own_ch p3)), .unset, .unset, .unset, .unset, .unset, .unset, .unset, .unset] [(.int (p4 &&& (127 : Int32)))])) _
    refine XS.i2c X0.here hx rfl (hb hby at_21) rfl ?_
    show Steps p.tables e below (s₁.setTop (mkF m 22 #[.val (.int p1), .val (.int p2), .val (.int p3), .val (.int p4), .val (.int p5), .val (.int p6), .val (.int (p1 &&& (3 : Int32))), .val (.int (p2 &&& (3 : Int32))), .val (.int (own_ch p3)), .unset, .unset, .unset, .unset, .unset, .unset, .unset, .unset] [(.int (own_ch p4))])) _
    refine XS.istore X0.here hx rfl (hb hby at_22) rfl (l' := #[.val (.int p1), .val (.int p2), .val (.int p3), .val (.int p4), .val (.int p5), .val (.int p6), .val (.int (p1 &&& (3 : Int32))), .val (.int (p2 &&& (3 : Int32))), .val (.int (own_ch p3)), .val (.int (own_ch p4)), .unset, .unset, .unset, .unset, .unset, .unset, .unset]) rfl ?_
    show Steps p.tables e below (s₁.setTop (mkF m 24 #[.val (.int p1), .val (.int p2), .val (.int p3), .val (.int p4), .val (.int p5), .val (.int p6), .val (.int (p1 &&& (3 : Int32))), .val (.int (p2 &&& (3 : Int32))), .val (.int (own_ch p3)), .val (.int (own_ch p4)), .unset, .unset, .unset, .unset, .unset, .unset, .unset] [])) _
    refine XS.iload X0.here hx rfl (hb hby at_24) rfl ?_
    show Steps p.tables e below (s₁.setTop (mkF m 26 #[.val (.int p1), .val (.int p2), .val (.int p3), .val (.int p4), .val (.int p5), .val (.int p6), .val (.int (p1 &&& (3 : Int32))), .val (.int (p2 &&& (3 : Int32))), .val (.int (own_ch p3)), .val (.int (own_ch p4)), .unset, .unset, .unset, .unset, .unset, .unset, .unset] [(.int p5)])) _
    refine XS.bipush X0.here hx rfl (hb hby at_26) ?_
    show Steps p.tables e below (s₁.setTop (mkF m 28 #[.val (.int p1), .val (.int p2), .val (.int p3), .val (.int p4), .val (.int p5), .val (.int p6), .val (.int (p1 &&& (3 : Int32))), .val (.int (p2 &&& (3 : Int32))), .val (.int (own_ch p3)), .val (.int (own_ch p4)), .unset, .unset, .unset, .unset, .unset, .unset, .unset] [(.int (127 : Int32)), (.int p5)])) _
    refine XS.iand X0.here hx rfl (hb hby at_28) rfl ?_
    show Steps p.tables e below (s₁.setTop (mkF m 29 #[.val (.int p1), .val (.int p2), .val (.int p3), .val (.int p4), .val (.int p5), .val (.int p6), .val (.int (p1 &&& (3 : Int32))), .val (.int (p2 &&& (3 : Int32))), .val (.int (own_ch p3)), .val (.int (own_ch p4)), .unset, .unset, .unset, .unset, .unset, .unset, .unset] [(.int (p5 &&& (127 : Int32)))])) _
    refine XS.i2c X0.here hx rfl (hb hby at_29) rfl ?_
    show Steps p.tables e below (s₁.setTop (mkF m 30 #[.val (.int p1), .val (.int p2), .val (.int p3), .val (.int p4), .val (.int p5), .val (.int p6), .val (.int (p1 &&& (3 : Int32))), .val (.int (p2 &&& (3 : Int32))), .val (.int (own_ch p3)), .val (.int (own_ch p4)), .unset, .unset, .unset, .unset, .unset, .unset, .unset] [(.int (own_ch p5))])) _
    refine XS.istore X0.here hx rfl (hb hby at_30) rfl (l' := #[.val (.int p1), .val (.int p2), .val (.int p3), .val (.int p4), .val (.int p5), .val (.int p6), .val (.int (p1 &&& (3 : Int32))), .val (.int (p2 &&& (3 : Int32))), .val (.int (own_ch p3)), .val (.int (own_ch p4)), .val (.int (own_ch p5)), .unset, .unset, .unset, .unset, .unset, .unset]) rfl ?_
    show Steps p.tables e below (s₁.setTop (mkF m 32 #[.val (.int p1), .val (.int p2), .val (.int p3), .val (.int p4), .val (.int p5), .val (.int p6), .val (.int (p1 &&& (3 : Int32))), .val (.int (p2 &&& (3 : Int32))), .val (.int (own_ch p3)), .val (.int (own_ch p4)), .val (.int (own_ch p5)), .unset, .unset, .unset, .unset, .unset, .unset] [])) _
    refine XS.iload X0.here hx rfl (hb hby at_32) rfl ?_
    show Steps p.tables e below (s₁.setTop (mkF m 34 #[.val (.int p1), .val (.int p2), .val (.int p3), .val (.int p4), .val (.int p5), .val (.int p6), .val (.int (p1 &&& (3 : Int32))), .val (.int (p2 &&& (3 : Int32))), .val (.int (own_ch p3)), .val (.int (own_ch p4)), .val (.int (own_ch p5)), .unset, .unset, .unset, .unset, .unset, .unset] [(.int p6)])) _
    refine XS.iconst X0.here hx rfl (hb hby at_34) ?_
    show Steps p.tables e below (s₁.setTop (mkF m 35 #[.val (.int p1), .val (.int p2), .val (.int p3), .val (.int p4), .val (.int p5), .val (.int p6), .val (.int (p1 &&& (3 : Int32))), .val (.int (p2 &&& (3 : Int32))), .val (.int (own_ch p3)), .val (.int (own_ch p4)), .val (.int (own_ch p5)), .unset, .unset, .unset, .unset, .unset, .unset] [(.int (1 : Int32)), (.int p6)])) _
    refine XS.iand X0.here hx rfl (hb hby at_35) rfl ?_
    show Steps p.tables e below (s₁.setTop (mkF m 36 #[.val (.int p1), .val (.int p2), .val (.int p3), .val (.int p4), .val (.int p5), .val (.int p6), .val (.int (p1 &&& (3 : Int32))), .val (.int (p2 &&& (3 : Int32))), .val (.int (own_ch p3)), .val (.int (own_ch p4)), .val (.int (own_ch p5)), .unset, .unset, .unset, .unset, .unset, .unset] [(.int (p6 &&& (1 : Int32)))])) _
    refine XS.ifNo X0.here hx rfl (hb hby at_36) rfl ((if0 _ _).trans (feq hc36).1) ?_
    show Steps p.tables e below (s₁.setTop (mkF m 39 #[.val (.int p1), .val (.int p2), .val (.int p3), .val (.int p4), .val (.int p5), .val (.int p6), .val (.int (p1 &&& (3 : Int32))), .val (.int (p2 &&& (3 : Int32))), .val (.int (own_ch p3)), .val (.int (own_ch p4)), .val (.int (own_ch p5)), .unset, .unset, .unset, .unset, .unset, .unset] [])) _
    refine XS.iconst X0.here hx rfl (hb hby at_39) ?_
    show Steps p.tables e below (s₁.setTop (mkF m 40 #[.val (.int p1), .val (.int p2), .val (.int p3), .val (.int p4), .val (.int p5), .val (.int p6), .val (.int (p1 &&& (3 : Int32))), .val (.int (p2 &&& (3 : Int32))), .val (.int (own_ch p3)), .val (.int (own_ch p4)), .val (.int (own_ch p5)), .unset, .unset, .unset, .unset, .unset, .unset] [(.int (1 : Int32))])) _
    refine XS.goto X0.here hx rfl (pc0 := 40) (pc' := 44) rfl (hb hby at_40) (by decide) (by decide) ?_
    show Steps p.tables e below (s₁.setTop (mkF m 44 #[.val (.int p1), .val (.int p2), .val (.int p3), .val (.int p4), .val (.int p5), .val (.int p6), .val (.int (p1 &&& (3 : Int32))), .val (.int (p2 &&& (3 : Int32))), .val (.int (own_ch p3)), .val (.int (own_ch p4)), .val (.int (own_ch p5)), .unset, .unset, .unset, .unset, .unset, .unset] [(.int (1 : Int32))])) _
    refine XS.istore X0.here hx rfl (hb hby at_44) rfl (l' := #[.val (.int p1), .val (.int p2), .val (.int p3), .val (.int p4), .val (.int p5), .val (.int p6), .val (.int (p1 &&& (3 : Int32))), .val (.int (p2 &&& (3 : Int32))), .val (.int (own_ch p3)), .val (.int (own_ch p4)), .val (.int (own_ch p5)), .val (.int (1 : Int32)), .unset, .unset, .unset, .unset, .unset]) rfl ?_
    show Steps p.tables e below (s₁.setTop (mkF m 46 #[.val (.int p1), .val (.int p2), .val (.int p3), .val (.int p4), .val (.int p5), .val (.int p6), .val (.int (p1 &&& (3 : Int32))), .val (.int (p2 &&& (3 : Int32))), .val (.int (own_ch p3)), .val (.int (own_ch p4)), .val (.int (own_ch p5)), .val (.int (1 : Int32)), .unset, .unset, .unset, .unset, .unset] [])) _
    refine XS.iload X0.here hx rfl (hb hby at_46) rfl ?_
    show Steps p.tables e below (s₁.setTop (mkF m 48 #[.val (.int p1), .val (.int p2), .val (.int p3), .val (.int p4), .val (.int p5), .val (.int p6), .val (.int (p1 &&& (3 : Int32))), .val (.int (p2 &&& (3 : Int32))), .val (.int (own_ch p3)), .val (.int (own_ch p4)), .val (.int (own_ch p5)), .val (.int (1 : Int32)), .unset, .unset, .unset, .unset, .unset] [(.int p6)])) _
    refine XS.iconst X0.here hx rfl (hb hby at_48) ?_
    show Steps p.tables e below (s₁.setTop (mkF m 49 #[.val (.int p1), .val (.int p2), .val (.int p3), .val (.int p4), .val (.int p5), .val (.int p6), .val (.int (p1 &&& (3 : Int32))), .val (.int (p2 &&& (3 : Int32))), .val (.int (own_ch p3)), .val (.int (own_ch p4)), .val (.int (own_ch p5)), .val (.int (1 : Int32)), .unset, .unset, .unset, .unset, .unset] [(.int (1 : Int32)), (.int p6)])) _
    refine XS.iushr X0.here hx rfl (hb hby at_49) rfl ?_
    show Steps p.tables e below (s₁.setTop (mkF m 50 #[.val (.int p1), .val (.int p2), .val (.int p3), .val (.int p4), .val (.int p5), .val (.int p6), .val (.int (p1 &&& (3 : Int32))), .val (.int (p2 &&& (3 : Int32))), .val (.int (own_ch p3)), .val (.int (own_ch p4)), .val (.int (own_ch p5)), .val (.int (1 : Int32)), .unset, .unset, .unset, .unset, .unset] [(.int ((p6.toUInt32 >>> ((1 : Int32) &&& 31).toUInt32).toInt32))])) _
    refine XS.bipush X0.here hx rfl (hb hby at_50) ?_
    show Steps p.tables e below (s₁.setTop (mkF m 52 #[.val (.int p1), .val (.int p2), .val (.int p3), .val (.int p4), .val (.int p5), .val (.int p6), .val (.int (p1 &&& (3 : Int32))), .val (.int (p2 &&& (3 : Int32))), .val (.int (own_ch p3)), .val (.int (own_ch p4)), .val (.int (own_ch p5)), .val (.int (1 : Int32)), .unset, .unset, .unset, .unset, .unset] [(.int (127 : Int32)), (.int ((p6.toUInt32 >>> ((1 : Int32) &&& 31).toUInt32).toInt32))])) _
    refine XS.iand X0.here hx rfl (hb hby at_52) rfl ?_
    show Steps p.tables e below (s₁.setTop (mkF m 53 #[.val (.int p1), .val (.int p2), .val (.int p3), .val (.int p4), .val (.int p5), .val (.int p6), .val (.int (p1 &&& (3 : Int32))), .val (.int (p2 &&& (3 : Int32))), .val (.int (own_ch p3)), .val (.int (own_ch p4)), .val (.int (own_ch p5)), .val (.int (1 : Int32)), .unset, .unset, .unset, .unset, .unset] [(.int (((p6.toUInt32 >>> ((1 : Int32) &&& 31).toUInt32).toInt32) &&& (127 : Int32)))])) _
    refine XS.i2c X0.here hx rfl (hb hby at_53) rfl ?_
    show Steps p.tables e below (s₁.setTop (mkF m 54 #[.val (.int p1), .val (.int p2), .val (.int p3), .val (.int p4), .val (.int p5), .val (.int p6), .val (.int (p1 &&& (3 : Int32))), .val (.int (p2 &&& (3 : Int32))), .val (.int (own_ch p3)), .val (.int (own_ch p4)), .val (.int (own_ch p5)), .val (.int (1 : Int32)), .unset, .unset, .unset, .unset, .unset] [(.int (own_jk p6))])) _
    refine XS.istore X0.here hx rfl (hb hby at_54) rfl (l' := #[.val (.int p1), .val (.int p2), .val (.int p3), .val (.int p4), .val (.int p5), .val (.int p6), .val (.int (p1 &&& (3 : Int32))), .val (.int (p2 &&& (3 : Int32))), .val (.int (own_ch p3)), .val (.int (own_ch p4)), .val (.int (own_ch p5)), .val (.int (1 : Int32)), .val (.int (own_jk p6)), .unset, .unset, .unset, .unset]) rfl ?_
    show Steps p.tables e below (s₁.setTop (mkF m 56 #[.val (.int p1), .val (.int p2), .val (.int p3), .val (.int p4), .val (.int p5), .val (.int p6), .val (.int (p1 &&& (3 : Int32))), .val (.int (p2 &&& (3 : Int32))), .val (.int (own_ch p3)), .val (.int (own_ch p4)), .val (.int (own_ch p5)), .val (.int (1 : Int32)), .val (.int (own_jk p6)), .unset, .unset, .unset, .unset] [])) _
    refine st7 _ ?_
    show Steps p.tables e below (T7.setTop (mkF m 59 #[.val (.int p1), .val (.int p2), .val (.int p3), .val (.int p4), .val (.int p5), .val (.int p6), .val (.int (p1 &&& (3 : Int32))), .val (.int (p2 &&& (3 : Int32))), .val (.int (own_ch p3)), .val (.int (own_ch p4)), .val (.int (own_ch p5)), .val (.int (1 : Int32)), .val (.int (own_jk p6)), .unset, .unset, .unset, .unset] [(.ref b7)])) _
    refine XS.dup X7.here hx rfl (hb hby at_59) rfl rfl ?_
    show Steps p.tables e below (T7.setTop (mkF m 60 #[.val (.int p1), .val (.int p2), .val (.int p3), .val (.int p4), .val (.int p5), .val (.int p6), .val (.int (p1 &&& (3 : Int32))), .val (.int (p2 &&& (3 : Int32))), .val (.int (own_ch p3)), .val (.int (own_ch p4)), .val (.int (own_ch p5)), .val (.int (1 : Int32)), .val (.int (own_jk p6)), .unset, .unset, .unset, .unset] [(.ref b7), (.ref b7)])) _
    refine XS.iload X7.here hx rfl (hb hby at_60) rfl ?_
    show Steps p.tables e below (T7.setTop (mkF m 62 #[.val (.int p1), .val (.int p2), .val (.int p3), .val (.int p4), .val (.int p5), .val (.int p6), .val (.int (p1 &&& (3 : Int32))), .val (.int (p2 &&& (3 : Int32))), .val (.int (own_ch p3)), .val (.int (own_ch p4)), .val (.int (own_ch p5)), .val (.int (1 : Int32)), .val (.int (own_jk p6)), .unset, .unset, .unset, .unset] [(.int (p1 &&& (3 : Int32))), (.ref b7), (.ref b7)])) _
    refine st8.trans ?_
    show Steps p.tables e below (T8.setTop (mkF m 65 #[.val (.int p1), .val (.int p2), .val (.int p3), .val (.int p4), .val (.int p5), .val (.int p6), .val (.int (p1 &&& (3 : Int32))), .val (.int (p2 &&& (3 : Int32))), .val (.int (own_ch p3)), .val (.int (own_ch p4)), .val (.int (own_ch p5)), .val (.int (1 : Int32)), .val (.int (own_jk p6)), .unset, .unset, .unset, .unset] [(.ref b7)])) _
    refine XS.astore X8.here hx rfl (hb hby at_65) rfl rfl (l' := #[.val (.int p1), .val (.int p2), .val (.int p3), .val (.int p4), .val (.int p5), .val (.int p6), .val (.int (p1 &&& (3 : Int32))), .val (.int (p2 &&& (3 : Int32))), .val (.int (own_ch p3)), .val (.int (own_ch p4)), .val (.int (own_ch p5)), .val (.int (1 : Int32)), .val (.int (own_jk p6)), .val (.ref b7), .unset, .unset, .unset]) rfl ?_
    show Steps p.tables e below (T8.setTop (mkF m 67 #[.val (.int p1), .val (.int p2), .val (.int p3), .val (.int p4), .val (.int p5), .val (.int p6), .val (.int (p1 &&& (3 : Int32))), .val (.int (p2 &&& (3 : Int32))), .val (.int (own_ch p3)), .val (.int (own_ch p4)), .val (.int (own_ch p5)), .val (.int (1 : Int32)), .val (.int (own_jk p6)), .val (.ref b7), .unset, .unset, .unset] [])) _
    refine XS.iload X8.here hx rfl (hb hby at_67) rfl ?_
    show Steps p.tables e below (T8.setTop (mkF m 69 #[.val (.int p1), .val (.int p2), .val (.int p3), .val (.int p4), .val (.int p5), .val (.int p6), .val (.int (p1 &&& (3 : Int32))), .val (.int (p2 &&& (3 : Int32))), .val (.int (own_ch p3)), .val (.int (own_ch p4)), .val (.int (own_ch p5)), .val (.int (1 : Int32)), .val (.int (own_jk p6)), .val (.ref b7), .unset, .unset, .unset] [(.int (1 : Int32))])) _
    refine XS.ifNo X8.here hx rfl (hb hby at_69) rfl ((if0 _ _).trans (feq hc69).1) ?_
    show Steps p.tables e below (T8.setTop (mkF m 72 #[.val (.int p1), .val (.int p2), .val (.int p3), .val (.int p4), .val (.int p5), .val (.int p6), .val (.int (p1 &&& (3 : Int32))), .val (.int (p2 &&& (3 : Int32))), .val (.int (own_ch p3)), .val (.int (own_ch p4)), .val (.int (own_ch p5)), .val (.int (1 : Int32)), .val (.int (own_jk p6)), .val (.ref b7), .unset, .unset, .unset] [])) _
    refine XS.aload X8.here hx rfl (hb hby at_72) rfl rfl ?_
    show Steps p.tables e below (T8.setTop (mkF m 74 #[.val (.int p1), .val (.int p2), .val (.int p3), .val (.int p4), .val (.int p5), .val (.int p6), .val (.int (p1 &&& (3 : Int32))), .val (.int (p2 &&& (3 : Int32))), .val (.int (own_ch p3)), .val (.int (own_ch p4)), .val (.int (own_ch p5)), .val (.int (1 : Int32)), .val (.int (own_jk p6)), .val (.ref b7), .unset, .unset, .unset] [(.ref b7)])) _
    refine XS.iload X8.here hx rfl (hb hby at_74) rfl ?_
    show Steps p.tables e below (T8.setTop (mkF m 76 #[.val (.int p1), .val (.int p2), .val (.int p3), .val (.int p4), .val (.int p5), .val (.int p6), .val (.int (p1 &&& (3 : Int32))), .val (.int (p2 &&& (3 : Int32))), .val (.int (own_ch p3)), .val (.int (own_ch p4)), .val (.int (own_ch p5)), .val (.int (1 : Int32)), .val (.int (own_jk p6)), .val (.ref b7), .unset, .unset, .unset] [(.int (own_jk p6)), (.ref b7)])) _
    refine st9.trans ?_
    show Steps p.tables e below (T9.setTop (mkF m 79 #[.val (.int p1), .val (.int p2), .val (.int p3), .val (.int p4), .val (.int p5), .val (.int p6), .val (.int (p1 &&& (3 : Int32))), .val (.int (p2 &&& (3 : Int32))), .val (.int (own_ch p3)), .val (.int (own_ch p4)), .val (.int (own_ch p5)), .val (.int (1 : Int32)), .val (.int (own_jk p6)), .val (.ref b7), .unset, .unset, .unset] [(.ref b7)])) _
    refine XS.pop X9.here hx rfl (hb hby at_79) rfl rfl ?_
    show Steps p.tables e below (T9.setTop (mkF m 80 #[.val (.int p1), .val (.int p2), .val (.int p3), .val (.int p4), .val (.int p5), .val (.int p6), .val (.int (p1 &&& (3 : Int32))), .val (.int (p2 &&& (3 : Int32))), .val (.int (own_ch p3)), .val (.int (own_ch p4)), .val (.int (own_ch p5)), .val (.int (1 : Int32)), .val (.int (own_jk p6)), .val (.ref b7), .unset, .unset, .unset] [])) _
    refine XS.aload X9.here hx rfl (hb hby at_80) rfl rfl ?_
    show Steps p.tables e below (T9.setTop (mkF m 82 #[.val (.int p1), .val (.int p2), .val (.int p3), .val (.int p4), .val (.int p5), .val (.int p6), .val (.int (p1 &&& (3 : Int32))), .val (.int (p2 &&& (3 : Int32))), .val (.int (own_ch p3)), .val (.int (own_ch p4)), .val (.int (own_ch p5)), .val (.int (1 : Int32)), .val (.int (own_jk p6)), .val (.ref b7), .unset, .unset, .unset] [(.ref b7)])) _
    refine st10.trans ?_
    show Steps p.tables e below (T10.setTop (mkF m 85 #[.val (.int p1), .val (.int p2), .val (.int p3), .val (.int p4), .val (.int p5), .val (.int p6), .val (.int (p1 &&& (3 : Int32))), .val (.int (p2 &&& (3 : Int32))), .val (.int (own_ch p3)), .val (.int (own_ch p4)), .val (.int (own_ch p5)), .val (.int (1 : Int32)), .val (.int (own_jk p6)), .val (.ref b7), .unset, .unset, .unset] [])) _
    refine XS.iload X10.here hx rfl (hb hby at_85) rfl ?_
    show Steps p.tables e below (T10.setTop (mkF m 87 #[.val (.int p1), .val (.int p2), .val (.int p3), .val (.int p4), .val (.int p5), .val (.int p6), .val (.int (p1 &&& (3 : Int32))), .val (.int (p2 &&& (3 : Int32))), .val (.int (own_ch p3)), .val (.int (own_ch p4)), .val (.int (own_ch p5)), .val (.int (1 : Int32)), .val (.int (own_jk p6)), .val (.ref b7), .unset, .unset, .unset] [(.int (p2 &&& (3 : Int32)))])) _
    refine XS.ifYes X10.here hx rfl (pc0 := 87) (pc' := 98) rfl (hb hby at_87) rfl ((if0 _ _).trans (flt hc87).2.2.2) (by decide) (by decide) ?_
    show Steps p.tables e below (T10.setTop (mkF m 98 #[.val (.int p1), .val (.int p2), .val (.int p3), .val (.int p4), .val (.int p5), .val (.int p6), .val (.int (p1 &&& (3 : Int32))), .val (.int (p2 &&& (3 : Int32))), .val (.int (own_ch p3)), .val (.int (own_ch p4)), .val (.int (own_ch p5)), .val (.int (1 : Int32)), .val (.int (own_jk p6)), .val (.ref b7), .unset, .unset, .unset] [])) _
    refine XS.iload X10.here hx rfl (hb hby at_98) rfl ?_
    show Steps p.tables e below (T10.setTop (mkF m 100 #[.val (.int p1), .val (.int p2), .val (.int p3), .val (.int p4), .val (.int p5), .val (.int p6), .val (.int (p1 &&& (3 : Int32))), .val (.int (p2 &&& (3 : Int32))), .val (.int (own_ch p3)), .val (.int (own_ch p4)), .val (.int (own_ch p5)), .val (.int (1 : Int32)), .val (.int (own_jk p6)), .val (.ref b7), .unset, .unset, .unset] [(.int (p2 &&& (3 : Int32)))])) _
    refine XS.iconst X10.here hx rfl (hb hby at_100) ?_
    show Steps p.tables e below (T10.setTop (mkF m 101 #[.val (.int p1), .val (.int p2), .val (.int p3), .val (.int p4), .val (.int p5), .val (.int p6), .val (.int (p1 &&& (3 : Int32))), .val (.int (p2 &&& (3 : Int32))), .val (.int (own_ch p3)), .val (.int (own_ch p4)), .val (.int (own_ch p5)), .val (.int (1 : Int32)), .val (.int (own_jk p6)), .val (.ref b7), .unset, .unset, .unset] [(.int (1 : Int32)), (.int (p2 &&& (3 : Int32)))])) _
    refine XS.icmpYes X10.here hx rfl (pc0 := 101) (pc' := 112) rfl (hb hby at_101) rfl (flt hc101).2.2.2 (by decide) (by decide) ?_
    show Steps p.tables e below (T10.setTop (mkF m 112 #[.val (.int p1), .val (.int p2), .val (.int p3), .val (.int p4), .val (.int p5), .val (.int p6), .val (.int (p1 &&& (3 : Int32))), .val (.int (p2 &&& (3 : Int32))), .val (.int (own_ch p3)), .val (.int (own_ch p4)), .val (.int (own_ch p5)), .val (.int (1 : Int32)), .val (.int (own_jk p6)), .val (.ref b7), .unset, .unset, .unset] [])) _
    refine XS.iload X10.here hx rfl (hb hby at_112) rfl ?_
    show Steps p.tables e below (T10.setTop (mkF m 114 #[.val (.int p1), .val (.int p2), .val (.int p3), .val (.int p4), .val (.int p5), .val (.int p6), .val (.int (p1 &&& (3 : Int32))), .val (.int (p2 &&& (3 : Int32))), .val (.int (own_ch p3)), .val (.int (own_ch p4)), .val (.int (own_ch p5)), .val (.int (1 : Int32)), .val (.int (own_jk p6)), .val (.ref b7), .unset, .unset, .unset] [(.int (p2 &&& (3 : Int32)))])) _
    refine XS.iconst X10.here hx rfl (hb hby at_114) ?_
    show Steps p.tables e below (T10.setTop (mkF m 115 #[.val (.int p1), .val (.int p2), .val (.int p3), .val (.int p4), .val (.int p5), .val (.int p6), .val (.int (p1 &&& (3 : Int32))), .val (.int (p2 &&& (3 : Int32))), .val (.int (own_ch p3)), .val (.int (own_ch p4)), .val (.int (own_ch p5)), .val (.int (1 : Int32)), .val (.int (own_jk p6)), .val (.ref b7), .unset, .unset, .unset] [(.int (2 : Int32)), (.int (p2 &&& (3 : Int32)))])) _
    refine XS.icmpYes X10.here hx rfl (pc0 := 115) (pc' := 126) rfl (hb hby at_115) rfl (flt hc115).2.2.2 (by decide) (by decide) ?_
    show Steps p.tables e below (T10.setTop (mkF m 126 #[.val (.int p1), .val (.int p2), .val (.int p3), .val (.int p4), .val (.int p5), .val (.int p6), .val (.int (p1 &&& (3 : Int32))), .val (.int (p2 &&& (3 : Int32))), .val (.int (own_ch p3)), .val (.int (own_ch p4)), .val (.int (own_ch p5)), .val (.int (1 : Int32)), .val (.int (own_jk p6)), .val (.ref b7), .unset, .unset, .unset] [])) _
    refine XS.aload X10.here hx rfl (hb hby at_126) rfl rfl ?_
    show Steps p.tables e below (T10.setTop (mkF m 128 #[.val (.int p1), .val (.int p2), .val (.int p3), .val (.int p4), .val (.int p5), .val (.int p6), .val (.int (p1 &&& (3 : Int32))), .val (.int (p2 &&& (3 : Int32))), .val (.int (own_ch p3)), .val (.int (own_ch p4)), .val (.int (own_ch p5)), .val (.int (1 : Int32)), .val (.int (own_jk p6)), .val (.ref b7), .unset, .unset, .unset] [(.ref b7)])) _
    refine st11.trans ?_
    show Steps p.tables e below (T11.setTop (mkF m 131 #[.val (.int p1), .val (.int p2), .val (.int p3), .val (.int p4), .val (.int p5), .val (.int p6), .val (.int (p1 &&& (3 : Int32))), .val (.int (p2 &&& (3 : Int32))), .val (.int (own_ch p3)), .val (.int (own_ch p4)), .val (.int (own_ch p5)), .val (.int (1 : Int32)), .val (.int (own_jk p6)), .val (.ref b7), .unset, .unset, .unset] [(.ref (T10.heap.size))])) _
    refine XS.astore X11.here hx rfl (hb hby at_131) rfl rfl (l' := #[.val (.int p1), .val (.int p2), .val (.int p3), .val (.int p4), .val (.int p5), .val (.int p6), .val (.int (p1 &&& (3 : Int32))), .val (.int (p2 &&& (3 : Int32))), .val (.int (own_ch p3)), .val (.int (own_ch p4)), .val (.int (own_ch p5)), .val (.int (1 : Int32)), .val (.int (own_jk p6)), .val (.ref b7), .val (.ref (T10.heap.size)), .unset, .unset]) rfl ?_
    show Steps p.tables e below (T11.setTop (mkF m 133 #[.val (.int p1), .val (.int p2), .val (.int p3), .val (.int p4), .val (.int p5), .val (.int p6), .val (.int (p1 &&& (3 : Int32))), .val (.int (p2 &&& (3 : Int32))), .val (.int (own_ch p3)), .val (.int (own_ch p4)), .val (.int (own_ch p5)), .val (.int (1 : Int32)), .val (.int (own_jk p6)), .val (.ref b7), .val (.ref (T10.heap.size)), .unset, .unset] [])) _
    refine XS.aload X11.here hx rfl (hb hby at_133) rfl rfl ?_
    show Steps p.tables e below (T11.setTop (mkF m 135 #[.val (.int p1), .val (.int p2), .val (.int p3), .val (.int p4), .val (.int p5), .val (.int p6), .val (.int (p1 &&& (3 : Int32))), .val (.int (p2 &&& (3 : Int32))), .val (.int (own_ch p3)), .val (.int (own_ch p4)), .val (.int (own_ch p5)), .val (.int (1 : Int32)), .val (.int (own_jk p6)), .val (.ref b7), .val (.ref (T10.heap.size)), .unset, .unset] [(.ref (T10.heap.size))])) _
    refine X11.arraylength hx (by exact Arr1.1) (State.isArrayOf_alike hZ.alike Arr1.2.1) (g := (mkF m 135 #[.val (.int p1), .val (.int p2), .val (.int p3), .val (.int p4), .val (.int p5), .val (.int p6), .val (.int (p1 &&& (3 : Int32))), .val (.int (p2 &&& (3 : Int32))), .val (.int (own_ch p3)), .val (.int (own_ch p4)), .val (.int (own_ch p5)), .val (.int (1 : Int32)), .val (.int (own_jk p6)), .val (.ref b7), .val (.ref (T10.heap.size)), .unset, .unset] [(.ref (T10.heap.size))])) rfl rfl (hb hby at_135) _ ?_
    rw [len_of Sr1 Nr1]
    show Steps p.tables e below (T11.setTop (mkF m 136 #[.val (.int p1), .val (.int p2), .val (.int p3), .val (.int p4), .val (.int p5), .val (.int p6), .val (.int (p1 &&& (3 : Int32))), .val (.int (p2 &&& (3 : Int32))), .val (.int (own_ch p3)), .val (.int (own_ch p4)), .val (.int (own_ch p5)), .val (.int (1 : Int32)), .val (.int (own_jk p6)), .val (.ref b7), .val (.ref (T10.heap.size)), .unset, .unset] [(.int (Int32.ofNat [].length))])) _
    refine XS.iload X11.here hx rfl (hb hby at_136) rfl ?_
    show Steps p.tables e below (T11.setTop (mkF m 138 #[.val (.int p1), .val (.int p2), .val (.int p3), .val (.int p4), .val (.int p5), .val (.int p6), .val (.int (p1 &&& (3 : Int32))), .val (.int (p2 &&& (3 : Int32))), .val (.int (own_ch p3)), .val (.int (own_ch p4)), .val (.int (own_ch p5)), .val (.int (1 : Int32)), .val (.int (own_jk p6)), .val (.ref b7), .val (.ref (T10.heap.size)), .unset, .unset] [(.int (p2 &&& (3 : Int32))), (.int (Int32.ofNat [].length))])) _
    refine XS.icmpNo X11.here hx rfl (hb hby at_138) rfl (teq (by rw [hn]; first | rfl | decide : (Int32.ofNat [].length) = (p2 &&& (3 : Int32)))).2 ?_
    show Steps p.tables e below (T11.setTop (mkF m 141 #[.val (.int p1), .val (.int p2), .val (.int p3), .val (.int p4), .val (.int p5), .val (.int p6), .val (.int (p1 &&& (3 : Int32))), .val (.int (p2 &&& (3 : Int32))), .val (.int (own_ch p3)), .val (.int (own_ch p4)), .val (.int (own_ch p5)), .val (.int (1 : Int32)), .val (.int (own_jk p6)), .val (.ref b7), .val (.ref (T10.heap.size)), .unset, .unset] [])) _
    refine XS.aload X11.here hx rfl (hb hby at_141) rfl rfl ?_
    show Steps p.tables e below (T11.setTop (mkF m 143 #[.val (.int p1), .val (.int p2), .val (.int p3), .val (.int p4), .val (.int p5), .val (.int p6), .val (.int (p1 &&& (3 : Int32))), .val (.int (p2 &&& (3 : Int32))), .val (.int (own_ch p3)), .val (.int (own_ch p4)), .val (.int (own_ch p5)), .val (.int (1 : Int32)), .val (.int (own_jk p6)), .val (.ref b7), .val (.ref (T10.heap.size)), .unset, .unset] [(.ref b7)])) _
    refine st12.trans ?_
    show Steps p.tables e below (T12.setTop (mkF m 146 #[.val (.int p1), .val (.int p2), .val (.int p3), .val (.int p4), .val (.int p5), .val (.int p6), .val (.int (p1 &&& (3 : Int32))), .val (.int (p2 &&& (3 : Int32))), .val (.int (own_ch p3)), .val (.int (own_ch p4)), .val (.int (own_ch p5)), .val (.int (1 : Int32)), .val (.int (own_jk p6)), .val (.ref b7), .val (.ref (T10.heap.size)), .unset, .unset] [(.int (Int32.ofNat [].length))])) _
    refine XS.iload X12.here hx rfl (hb hby at_146) rfl ?_
    show Steps p.tables e below (T12.setTop (mkF m 148 #[.val (.int p1), .val (.int p2), .val (.int p3), .val (.int p4), .val (.int p5), .val (.int p6), .val (.int (p1 &&& (3 : Int32))), .val (.int (p2 &&& (3 : Int32))), .val (.int (own_ch p3)), .val (.int (own_ch p4)), .val (.int (own_ch p5)), .val (.int (1 : Int32)), .val (.int (own_jk p6)), .val (.ref b7), .val (.ref (T10.heap.size)), .unset, .unset] [(.int (p2 &&& (3 : Int32))), (.int (Int32.ofNat [].length))])) _
    refine XS.icmpNo X12.here hx rfl (hb hby at_148) rfl (teq (by rw [hn]; first | rfl | decide : (Int32.ofNat [].length) = (p2 &&& (3 : Int32)))).2 ?_
    show Steps p.tables e below (T12.setTop (mkF m 151 #[.val (.int p1), .val (.int p2), .val (.int p3), .val (.int p4), .val (.int p5), .val (.int p6), .val (.int (p1 &&& (3 : Int32))), .val (.int (p2 &&& (3 : Int32))), .val (.int (own_ch p3)), .val (.int (own_ch p4)), .val (.int (own_ch p5)), .val (.int (1 : Int32)), .val (.int (own_jk p6)), .val (.ref b7), .val (.ref (T10.heap.size)), .unset, .unset] [])) _
    refine XS.aload X12.here hx rfl (hb hby at_151) rfl rfl ?_
    show Steps p.tables e below (T12.setTop (mkF m 153 #[.val (.int p1), .val (.int p2), .val (.int p3), .val (.int p4), .val (.int p5), .val (.int p6), .val (.int (p1 &&& (3 : Int32))), .val (.int (p2 &&& (3 : Int32))), .val (.int (own_ch p3)), .val (.int (own_ch p4)), .val (.int (own_ch p5)), .val (.int (1 : Int32)), .val (.int (own_jk p6)), .val (.ref b7), .val (.ref (T10.heap.size)), .unset, .unset] [(.ref (T10.heap.size))])) _
    refine XS.iload X12.here hx rfl (hb hby at_153) rfl ?_
    show Steps p.tables e below (T12.setTop (mkF m 155 #[.val (.int p1), .val (.int p2), .val (.int p3), .val (.int p4), .val (.int p5), .val (.int p6), .val (.int (p1 &&& (3 : Int32))), .val (.int (p2 &&& (3 : Int32))), .val (.int (own_ch p3)), .val (.int (own_ch p4)), .val (.int (own_ch p5)), .val (.int (1 : Int32)), .val (.int (own_jk p6)), .val (.ref b7), .val (.ref (T10.heap.size)), .unset, .unset] [(.int (p2 &&& (3 : Int32))), (.ref (T10.heap.size))])) _
    refine XS.iload X12.here hx rfl (hb hby at_155) rfl ?_
    show Steps p.tables e below (T12.setTop (mkF m 157 #[.val (.int p1), .val (.int p2), .val (.int p3), .val (.int p4), .val (.int p5), .val (.int p6), .val (.int (p1 &&& (3 : Int32))), .val (.int (p2 &&& (3 : Int32))), .val (.int (own_ch p3)), .val (.int (own_ch p4)), .val (.int (own_ch p5)), .val (.int (1 : Int32)), .val (.int (own_jk p6)), .val (.ref b7), .val (.ref (T10.heap.size)), .unset, .unset] [(.int (own_ch p3)), (.int (p2 &&& (3 : Int32))), (.ref (T10.heap.size))])) _
    refine XS.iload X12.here hx rfl (hb hby at_157) rfl ?_
    show Steps p.tables e below (T12.setTop (mkF m 159 #[.val (.int p1), .val (.int p2), .val (.int p3), .val (.int p4), .val (.int p5), .val (.int p6), .val (.int (p1 &&& (3 : Int32))), .val (.int (p2 &&& (3 : Int32))), .val (.int (own_ch p3)), .val (.int (own_ch p4)), .val (.int (own_ch p5)), .val (.int (1 : Int32)), .val (.int (own_jk p6)), .val (.ref b7), .val (.ref (T10.heap.size)), .unset, .unset] [(.int (own_ch p4)), (.int (own_ch p3)), (.int (p2 &&& (3 : Int32))), (.ref (T10.heap.size))])) _
    refine XS.iload X12.here hx rfl (hb hby at_159) rfl ?_
    show Steps p.tables e below (T12.setTop (mkF m 161 #[.val (.int p1), .val (.int p2), .val (.int p3), .val (.int p4), .val (.int p5), .val (.int p6), .val (.int (p1 &&& (3 : Int32))), .val (.int (p2 &&& (3 : Int32))), .val (.int (own_ch p3)), .val (.int (own_ch p4)), .val (.int (own_ch p5)), .val (.int (1 : Int32)), .val (.int (own_jk p6)), .val (.ref b7), .val (.ref (T10.heap.size)), .unset, .unset] [(.int (own_ch p5)), (.int (own_ch p4)), (.int (own_ch p3)), (.int (p2 &&& (3 : Int32))), (.ref (T10.heap.size))])) _
    refine st13 _ ?_
    show Steps p.tables e below (T13.setTop (mkF m 164 #[.val (.int p1), .val (.int p2), .val (.int p3), .val (.int p4), .val (.int p5), .val (.int p6), .val (.int (p1 &&& (3 : Int32))), .val (.int (p2 &&& (3 : Int32))), .val (.int (own_ch p3)), .val (.int (own_ch p4)), .val (.int (own_ch p5)), .val (.int (1 : Int32)), .val (.int (own_jk p6)), .val (.ref b7), .val (.ref (T10.heap.size)), .unset, .unset] [(.int (1 : Int32))])) _
    refine XS.ifNo X13.here hx rfl (hb hby at_164) rfl ((if0 _ _).trans (feq (by decide : ¬ ((1 : Int32) = (0 : Int32)))).1) ?_
    show Steps p.tables e below (T13.setTop (mkF m 167 #[.val (.int p1), .val (.int p2), .val (.int p3), .val (.int p4), .val (.int p5), .val (.int p6), .val (.int (p1 &&& (3 : Int32))), .val (.int (p2 &&& (3 : Int32))), .val (.int (own_ch p3)), .val (.int (own_ch p4)), .val (.int (own_ch p5)), .val (.int (1 : Int32)), .val (.int (own_jk p6)), .val (.ref b7), .val (.ref (T10.heap.size)), .unset, .unset] [])) _
    refine XS.iconst X13.here hx rfl (hb hby at_167) ?_
    show Steps p.tables e below (T13.setTop (mkF m 168 #[.val (.int p1), .val (.int p2), .val (.int p3), .val (.int p4), .val (.int p5), .val (.int p6), .val (.int (p1 &&& (3 : Int32))), .val (.int (p2 &&& (3 : Int32))), .val (.int (own_ch p3)), .val (.int (own_ch p4)), .val (.int (own_ch p5)), .val (.int (1 : Int32)), .val (.int (own_jk p6)), .val (.ref b7), .val (.ref (T10.heap.size)), .unset, .unset] [(.int (1 : Int32))])) _
    refine XS.goto X13.here hx rfl (pc0 := 168) (pc' := 172) rfl (hb hby at_168) (by decide) (by decide) ?_
    show Steps p.tables e below (T13.setTop (mkF m 172 #[.val (.int p1), .val (.int p2), .val (.int p3), .val (.int p4), .val (.int p5), .val (.int p6), .val (.int (p1 &&& (3 : Int32))), .val (.int (p2 &&& (3 : Int32))), .val (.int (own_ch p3)), .val (.int (own_ch p4)), .val (.int (own_ch p5)), .val (.int (1 : Int32)), .val (.int (own_jk p6)), .val (.ref b7), .val (.ref (T10.heap.size)), .unset, .unset] [(.int (1 : Int32))])) _
    refine XS.istore X13.here hx rfl (hb hby at_172) rfl (l' := #[.val (.int p1), .val (.int p2), .val (.int p3), .val (.int p4), .val (.int p5), .val (.int p6), .val (.int (p1 &&& (3 : Int32))), .val (.int (p2 &&& (3 : Int32))), .val (.int (own_ch p3)), .val (.int (own_ch p4)), .val (.int (own_ch p5)), .val (.int (1 : Int32)), .val (.int (own_jk p6)), .val (.ref b7), .val (.ref (T10.heap.size)), .val (.int (1 : Int32)), .unset]) rfl ?_
    show Steps p.tables e below (T13.setTop (mkF m 174 #[.val (.int p1), .val (.int p2), .val (.int p3), .val (.int p4), .val (.int p5), .val (.int p6), .val (.int (p1 &&& (3 : Int32))), .val (.int (p2 &&& (3 : Int32))), .val (.int (own_ch p3)), .val (.int (own_ch p4)), .val (.int (own_ch p5)), .val (.int (1 : Int32)), .val (.int (own_jk p6)), .val (.ref b7), .val (.ref (T10.heap.size)), .val (.int (1 : Int32)), .unset] [])) _
    refine XS.iload X13.here hx rfl (hb hby at_174) rfl ?_
    show Steps p.tables e below (T13.setTop (mkF m 176 #[.val (.int p1), .val (.int p2), .val (.int p3), .val (.int p4), .val (.int p5), .val (.int p6), .val (.int (p1 &&& (3 : Int32))), .val (.int (p2 &&& (3 : Int32))), .val (.int (own_ch p3)), .val (.int (own_ch p4)), .val (.int (own_ch p5)), .val (.int (1 : Int32)), .val (.int (own_jk p6)), .val (.ref b7), .val (.ref (T10.heap.size)), .val (.int (1 : Int32)), .unset] [(.int (1 : Int32))])) _
    refine XS.ifYes X13.here hx rfl (pc0 := 176) (pc' := 181) rfl (hb hby at_176) rfl ((if0 _ _).trans (feq hc176).2) (by decide) (by decide) ?_
    show Steps p.tables e below (T13.setTop (mkF m 181 #[.val (.int p1), .val (.int p2), .val (.int p3), .val (.int p4), .val (.int p5), .val (.int p6), .val (.int (p1 &&& (3 : Int32))), .val (.int (p2 &&& (3 : Int32))), .val (.int (own_ch p3)), .val (.int (own_ch p4)), .val (.int (own_ch p5)), .val (.int (1 : Int32)), .val (.int (own_jk p6)), .val (.ref b7), .val (.ref (T10.heap.size)), .val (.int (1 : Int32)), .unset] [])) _
    refine XS.iload X13.here hx rfl (hb hby at_181) rfl ?_
    show Steps p.tables e below (T13.setTop (mkF m 183 #[.val (.int p1), .val (.int p2), .val (.int p3), .val (.int p4), .val (.int p5), .val (.int p6), .val (.int (p1 &&& (3 : Int32))), .val (.int (p2 &&& (3 : Int32))), .val (.int (own_ch p3)), .val (.int (own_ch p4)), .val (.int (own_ch p5)), .val (.int (1 : Int32)), .val (.int (own_jk p6)), .val (.ref b7), .val (.ref (T10.heap.size)), .val (.int (1 : Int32)), .unset] [(.int (p2 &&& (3 : Int32)))])) _
    refine XS.ifYes X13.here hx rfl (pc0 := 183) (pc' := 198) rfl (hb hby at_183) rfl ((if0 _ _).trans (flt hc183).2.2.2) (by decide) (by decide) ?_
    show Steps p.tables e below (T13.setTop (mkF m 198 #[.val (.int p1), .val (.int p2), .val (.int p3), .val (.int p4), .val (.int p5), .val (.int p6), .val (.int (p1 &&& (3 : Int32))), .val (.int (p2 &&& (3 : Int32))), .val (.int (own_ch p3)), .val (.int (own_ch p4)), .val (.int (own_ch p5)), .val (.int (1 : Int32)), .val (.int (own_jk p6)), .val (.ref b7), .val (.ref (T10.heap.size)), .val (.int (1 : Int32)), .unset] [])) _
    refine XS.aload X13.here hx rfl (hb hby at_198) rfl rfl ?_
    show Steps p.tables e below (T13.setTop (mkF m 200 #[.val (.int p1), .val (.int p2), .val (.int p3), .val (.int p4), .val (.int p5), .val (.int p6), .val (.int (p1 &&& (3 : Int32))), .val (.int (p2 &&& (3 : Int32))), .val (.int (own_ch p3)), .val (.int (own_ch p4)), .val (.int (own_ch p5)), .val (.int (1 : Int32)), .val (.int (own_jk p6)), .val (.ref b7), .val (.ref (T10.heap.size)), .val (.int (1 : Int32)), .unset] [(.ref b7)])) _
    refine st14.trans ?_
    show Steps p.tables e below (T14.setTop (mkF m 203 #[.val (.int p1), .val (.int p2), .val (.int p3), .val (.int p4), .val (.int p5), .val (.int p6), .val (.int (p1 &&& (3 : Int32))), .val (.int (p2 &&& (3 : Int32))), .val (.int (own_ch p3)), .val (.int (own_ch p4)), .val (.int (own_ch p5)), .val (.int (1 : Int32)), .val (.int (own_jk p6)), .val (.ref b7), .val (.ref (T10.heap.size)), .val (.int (1 : Int32)), .unset] [(.ref (T11.heap.size))])) _
    refine XS.astore X14.here hx rfl (hb hby at_203) rfl rfl (l' := #[.val (.int p1), .val (.int p2), .val (.int p3), .val (.int p4), .val (.int p5), .val (.int p6), .val (.int (p1 &&& (3 : Int32))), .val (.int (p2 &&& (3 : Int32))), .val (.int (own_ch p3)), .val (.int (own_ch p4)), .val (.int (own_ch p5)), .val (.int (1 : Int32)), .val (.int (own_jk p6)), .val (.ref b7), .val (.ref (T10.heap.size)), .val (.int (1 : Int32)), .val (.ref (T11.heap.size))]) rfl ?_
    show Steps p.tables e below (T14.setTop (mkF m 205 #[.val (.int p1), .val (.int p2), .val (.int p3), .val (.int p4), .val (.int p5), .val (.int p6), .val (.int (p1 &&& (3 : Int32))), .val (.int (p2 &&& (3 : Int32))), .val (.int (own_ch p3)), .val (.int (own_ch p4)), .val (.int (own_ch p5)), .val (.int (1 : Int32)), .val (.int (own_jk p6)), .val (.ref b7), .val (.ref (T10.heap.size)), .val (.int (1 : Int32)), .val (.ref (T11.heap.size))] [])) _
    refine XS.aload X14.here hx rfl (hb hby at_205) rfl rfl ?_
    show Steps p.tables e below (T14.setTop (mkF m 207 #[.val (.int p1), .val (.int p2), .val (.int p3), .val (.int p4), .val (.int p5), .val (.int p6), .val (.int (p1 &&& (3 : Int32))), .val (.int (p2 &&& (3 : Int32))), .val (.int (own_ch p3)), .val (.int (own_ch p4)), .val (.int (own_ch p5)), .val (.int (1 : Int32)), .val (.int (own_jk p6)), .val (.ref b7), .val (.ref (T10.heap.size)), .val (.int (1 : Int32)), .val (.ref (T11.heap.size))] [(.ref (T11.heap.size))])) _
    refine X14.arraylength hx (by exact Arr2.1) (State.isArrayOf_alike hZ.alike Arr2.2.1) (g := (mkF m 207 #[.val (.int p1), .val (.int p2), .val (.int p3), .val (.int p4), .val (.int p5), .val (.int p6), .val (.int (p1 &&& (3 : Int32))), .val (.int (p2 &&& (3 : Int32))), .val (.int (own_ch p3)), .val (.int (own_ch p4)), .val (.int (own_ch p5)), .val (.int (1 : Int32)), .val (.int (own_jk p6)), .val (.ref b7), .val (.ref (T10.heap.size)), .val (.int (1 : Int32)), .val (.ref (T11.heap.size))] [(.ref (T11.heap.size))])) rfl rfl (hb hby at_207) _ ?_
    rw [len_of Sr2 Nr2]
    show Steps p.tables e below (T14.setTop (mkF m 208 #[.val (.int p1), .val (.int p2), .val (.int p3), .val (.int p4), .val (.int p5), .val (.int p6), .val (.int (p1 &&& (3 : Int32))), .val (.int (p2 &&& (3 : Int32))), .val (.int (own_ch p3)), .val (.int (own_ch p4)), .val (.int (own_ch p5)), .val (.int (1 : Int32)), .val (.int (own_jk p6)), .val (.ref b7), .val (.ref (T10.heap.size)), .val (.int (1 : Int32)), .val (.ref (T11.heap.size))] [(.int (Int32.ofNat [].length))])) _
    refine XS.iload X14.here hx rfl (hb hby at_208) rfl ?_
    show Steps p.tables e below (T14.setTop (mkF m 210 #[.val (.int p1), .val (.int p2), .val (.int p3), .val (.int p4), .val (.int p5), .val (.int p6), .val (.int (p1 &&& (3 : Int32))), .val (.int (p2 &&& (3 : Int32))), .val (.int (own_ch p3)), .val (.int (own_ch p4)), .val (.int (own_ch p5)), .val (.int (1 : Int32)), .val (.int (own_jk p6)), .val (.ref b7), .val (.ref (T10.heap.size)), .val (.int (1 : Int32)), .val (.ref (T11.heap.size))] [(.int (p2 &&& (3 : Int32))), (.int (Int32.ofNat [].length))])) _
    refine XS.icmpNo X14.here hx rfl (hb hby at_210) rfl (teq (by rw [hn]; first | rfl | decide : (Int32.ofNat [].length) = (p2 &&& (3 : Int32)))).2 ?_
    show Steps p.tables e below (T14.setTop (mkF m 213 #[.val (.int p1), .val (.int p2), .val (.int p3), .val (.int p4), .val (.int p5), .val (.int p6), .val (.int (p1 &&& (3 : Int32))), .val (.int (p2 &&& (3 : Int32))), .val (.int (own_ch p3)), .val (.int (own_ch p4)), .val (.int (own_ch p5)), .val (.int (1 : Int32)), .val (.int (own_jk p6)), .val (.ref b7), .val (.ref (T10.heap.size)), .val (.int (1 : Int32)), .val (.ref (T11.heap.size))] [])) _
    refine XS.aload X14.here hx rfl (hb hby at_213) rfl rfl ?_
    show Steps p.tables e below (T14.setTop (mkF m 215 #[.val (.int p1), .val (.int p2), .val (.int p3), .val (.int p4), .val (.int p5), .val (.int p6), .val (.int (p1 &&& (3 : Int32))), .val (.int (p2 &&& (3 : Int32))), .val (.int (own_ch p3)), .val (.int (own_ch p4)), .val (.int (own_ch p5)), .val (.int (1 : Int32)), .val (.int (own_jk p6)), .val (.ref b7), .val (.ref (T10.heap.size)), .val (.int (1 : Int32)), .val (.ref (T11.heap.size))] [(.ref (T11.heap.size))])) _
    refine XS.iload X14.here hx rfl (hb hby at_215) rfl ?_
    show Steps p.tables e below (T14.setTop (mkF m 217 #[.val (.int p1), .val (.int p2), .val (.int p3), .val (.int p4), .val (.int p5), .val (.int p6), .val (.int (p1 &&& (3 : Int32))), .val (.int (p2 &&& (3 : Int32))), .val (.int (own_ch p3)), .val (.int (own_ch p4)), .val (.int (own_ch p5)), .val (.int (1 : Int32)), .val (.int (own_jk p6)), .val (.ref b7), .val (.ref (T10.heap.size)), .val (.int (1 : Int32)), .val (.ref (T11.heap.size))] [(.int (p2 &&& (3 : Int32))), (.ref (T11.heap.size))])) _
    refine XS.iload X14.here hx rfl (hb hby at_217) rfl ?_
    show Steps p.tables e below (T14.setTop (mkF m 219 #[.val (.int p1), .val (.int p2), .val (.int p3), .val (.int p4), .val (.int p5), .val (.int p6), .val (.int (p1 &&& (3 : Int32))), .val (.int (p2 &&& (3 : Int32))), .val (.int (own_ch p3)), .val (.int (own_ch p4)), .val (.int (own_ch p5)), .val (.int (1 : Int32)), .val (.int (own_jk p6)), .val (.ref b7), .val (.ref (T10.heap.size)), .val (.int (1 : Int32)), .val (.ref (T11.heap.size))] [(.int (own_ch p3)), (.int (p2 &&& (3 : Int32))), (.ref (T11.heap.size))])) _
    refine XS.iload X14.here hx rfl (hb hby at_219) rfl ?_
    show Steps p.tables e below (T14.setTop (mkF m 221 #[.val (.int p1), .val (.int p2), .val (.int p3), .val (.int p4), .val (.int p5), .val (.int p6), .val (.int (p1 &&& (3 : Int32))), .val (.int (p2 &&& (3 : Int32))), .val (.int (own_ch p3)), .val (.int (own_ch p4)), .val (.int (own_ch p5)), .val (.int (1 : Int32)), .val (.int (own_jk p6)), .val (.ref b7), .val (.ref (T10.heap.size)), .val (.int (1 : Int32)), .val (.ref (T11.heap.size))] [(.int (own_ch p4)), (.int (own_ch p3)), (.int (p2 &&& (3 : Int32))), (.ref (T11.heap.size))])) _
    refine XS.iload X14.here hx rfl (hb hby at_221) rfl ?_
    show Steps p.tables e below (T14.setTop (mkF m 223 #[.val (.int p1), .val (.int p2), .val (.int p3), .val (.int p4), .val (.int p5), .val (.int p6), .val (.int (p1 &&& (3 : Int32))), .val (.int (p2 &&& (3 : Int32))), .val (.int (own_ch p3)), .val (.int (own_ch p4)), .val (.int (own_ch p5)), .val (.int (1 : Int32)), .val (.int (own_jk p6)), .val (.ref b7), .val (.ref (T10.heap.size)), .val (.int (1 : Int32)), .val (.ref (T11.heap.size))] [(.int (own_ch p5)), (.int (own_ch p4)), (.int (own_ch p3)), (.int (p2 &&& (3 : Int32))), (.ref (T11.heap.size))])) _
    refine st15 _ ?_
    show Steps p.tables e below (T15.setTop (mkF m 226 #[.val (.int p1), .val (.int p2), .val (.int p3), .val (.int p4), .val (.int p5), .val (.int p6), .val (.int (p1 &&& (3 : Int32))), .val (.int (p2 &&& (3 : Int32))), .val (.int (own_ch p3)), .val (.int (own_ch p4)), .val (.int (own_ch p5)), .val (.int (1 : Int32)), .val (.int (own_jk p6)), .val (.ref b7), .val (.ref (T10.heap.size)), .val (.int (1 : Int32)), .val (.ref (T11.heap.size))] [(.int (1 : Int32))])) _
    refine XS.ifNo X15.here hx rfl (hb hby at_226) rfl ((if0 _ _).trans (feq (by decide : ¬ ((1 : Int32) = (0 : Int32)))).1) ?_
    show Steps p.tables e below (T15.setTop (mkF m 229 #[.val (.int p1), .val (.int p2), .val (.int p3), .val (.int p4), .val (.int p5), .val (.int p6), .val (.int (p1 &&& (3 : Int32))), .val (.int (p2 &&& (3 : Int32))), .val (.int (own_ch p3)), .val (.int (own_ch p4)), .val (.int (own_ch p5)), .val (.int (1 : Int32)), .val (.int (own_jk p6)), .val (.ref b7), .val (.ref (T10.heap.size)), .val (.int (1 : Int32)), .val (.ref (T11.heap.size))] [])) _
    refine XS.iconst X15.here hx rfl (hb hby at_229) ?_
    show Steps p.tables e below (T15.setTop (mkF m 230 #[.val (.int p1), .val (.int p2), .val (.int p3), .val (.int p4), .val (.int p5), .val (.int p6), .val (.int (p1 &&& (3 : Int32))), .val (.int (p2 &&& (3 : Int32))), .val (.int (own_ch p3)), .val (.int (own_ch p4)), .val (.int (own_ch p5)), .val (.int (1 : Int32)), .val (.int (own_jk p6)), .val (.ref b7), .val (.ref (T10.heap.size)), .val (.int (1 : Int32)), .val (.ref (T11.heap.size))] [(.int (1 : Int32))])) _
    refine XS.goto X15.here hx rfl (pc0 := 230) (pc' := 234) rfl (hb hby at_230) (by decide) (by decide) ?_
    show Steps p.tables e below (T15.setTop (mkF m 234 #[.val (.int p1), .val (.int p2), .val (.int p3), .val (.int p4), .val (.int p5), .val (.int p6), .val (.int (p1 &&& (3 : Int32))), .val (.int (p2 &&& (3 : Int32))), .val (.int (own_ch p3)), .val (.int (own_ch p4)), .val (.int (own_ch p5)), .val (.int (1 : Int32)), .val (.int (own_jk p6)), .val (.ref b7), .val (.ref (T10.heap.size)), .val (.int (1 : Int32)), .val (.ref (T11.heap.size))] [(.int (1 : Int32))])) _
    exact retN X15 hx (t := .boolean) Bd.returns (by simp) (hb hby at_234) hr
  · show Q0 h0 n0 _ T15.heap _
    exact ⟨rfl, N15⟩
set_option maxRecDepth 65536 in
set_option maxHeartbeats 40000000 in
theorem rm0_c1n1 (l : Launch) (Z : State) (a0 : Array Value) (hw : ∀ d ∈ tables_1, d.before a0 Z = true) (ws : List Jvm.Cond) (p1 : Int32) (p2 : Int32) (p3 : Int32) (p4 : Int32) (p5 : Int32) (p6 : Int32) (h0 : Heap) (n0 : Nat) (Z0 : n0 ≤ h0.size) (cap : Nat) (hcap : (p1 &&& (3 : Int32)) = Int32.ofNat cap) (hcap3 : cap ≤ 3) (hn : (p2 &&& (3 : Int32)) = (1 : Int32)) (hc36 : ¬ ((p6 &&& (1 : Int32)) = (0 : Int32))) :
    MetFree l x (head1 (Jvm.Cond.code x code maxLocals ret :: ws) room_1) (fun a U => a = #[(.int p1), (.int p2), (.int p3), (.int p4), (.int p5), (.int p6)] ∧ Z.Warmed39 U.vm ∧ U.heap = h0) (fun _ _ _ _ _ => True) (fun _ U o U' => ∃ v L, o = .returned v ∧ Q0 h0 n0 v U'.heap L ∧ FrameEnd U o U' L room_1.cells room_1.slots) := by
  have hc87 : (0 : Int32) < (p2 &&& (3 : Int32)) := by rw [hn]; decide
  have hc101 : ¬ ((1 : Int32) < (p2 &&& (3 : Int32))) := by rw [hn]; decide
  have hc115 : ¬ ((2 : Int32) < (p2 &&& (3 : Int32))) := by rw [hn]; decide
  have hc183 : (0 : Int32) < (p2 &&& (3 : Int32)) := by rw [hn]; decide
  have hc69 : ¬ ((1 : Int32) = (0 : Int32)) := by decide
  have hc176 : ¬ ((1 : Int32) = (0 : Int32)) := by decide
  refine MetFree.of_bodySF (plainFor_of_name pn_0) hisR ?_
  intro p e s m args below meth c s₁ Bd hml0 hP hK
  obtain ⟨rfl, hZ, hh⟩ := hP
  have hx := Bd.exec
  have hby := Bd.bytes
  have hml : c.maxLocals = 17 := hml0
  have hown : s.vm.findClass "com/example/acompte/acompte/Utf8BuilderToByteArrayPinLaw" = some m.cls := findClass_of_methodNamed Bd.named
  have hnm := (name_of_methodNamed Bd.named Bd.method).1
  have X0 : Stand p l e room_1 s m #[(.int p1), (.int p2), (.int p3), (.int p4), (.int p5), (.int p6)] below meth c s₁ [] 0 0 := Stand.of_body Bd
  have e0 : s₁.heap = h0 := by rw [← hh, Bd.state]; rfl
  have N0 := Fr.nil n0
  have pre0 : ∀ t, Steps p.tables e below (s₁.setTop (mkF m 0 #[.val (.int p1), .val (.int p2), .val (.int p3), .val (.int p4), .val (.int p5), .val (.int p6), .unset, .unset, .unset, .unset, .unset, .unset, .unset, .unset, .unset, .unset, .unset] [])) t → Steps p.tables e below (s₁.setTop (entryFrame m #[(.int p1), (.int p2), (.int p3), (.int p4), (.int p5), (.int p6)] maxLocals)) t := fun t k => castTop (ef_0 m p1 p2 p3 p4 p5 p6) k
  -- 3. LAWS
  obtain ⟨T7, h7, X7, e7, E7, A7, D7, -, st7⟩ := newO X0 hx hZ hown (hw _ (List.mem_of_getElem? (i := 0) rfl)) (hw _ (List.mem_of_getElem? (i := 1) rfl)) (hw _ (List.mem_of_getElem? (i := 2) rfl)) e0 (g := (mkF m 56 #[.val (.int p1), .val (.int p2), .val (.int p3), .val (.int p4), .val (.int p5), .val (.int p6), .val (.int (p1 &&& (3 : Int32))), .val (.int (p2 &&& (3 : Int32))), .val (.int (own_ch p3)), .val (.int (own_ch p4)), .val (.int (own_ch p5)), .val (.int (1 : Int32)), .val (.int (own_jk p6)), .unset, .unset, .unset, .unset] [])) rfl (hb hby at_56) (by decide) (by decide)
  obtain ⟨b7, g7⟩ : ∃ z, z = h0.size := ⟨_, rfl⟩      -- the fresh object's address
  rw [← g7] at A7 D7 st7      -- A7 : Exa Z h7 b7 "com/example/acompte/acompte/Utf8Builder"; E7 : Ext h0 h7 (carries every older fact: .ext E7)
  have F_bytes_b7 : Fld Z h7 b7 "com/example/acompte/acompte/Utf8Builder" "bytes" "[B" .null := D7 (Or.inl (hw _ (List.mem_of_getElem? (i := 11) rfl))) (ty := (.array .byte)) (by decide)
  have F_length_b7 : Fld Z h7 b7 "com/example/acompte/acompte/Utf8Builder" "length" "I" (.int (0 : Int32)) := D7 (Or.inl (hw _ (List.mem_of_getElem? (i := 22) rfl))) (ty := .int) (by decide)
  have E_b7 := A7
  have g_b7 : n0 ≤ b7 := Nat.le_trans Z0 (Nat.le_of_eq g7.symm)
  obtain ⟨_, _, ⟨T8, L8, k8, n8⟩, -, X8, ⟨Lc8, hQ8, l8, y8, z8⟩, st8⟩ := X7.specialBack hx (y := (⟨"com/example/acompte/acompte/Utf8Builder", "<init>", "(I)V"⟩ : MethodName)) rfl hown (mvT hZ (hw _ (List.mem_of_getElem? (i := 3) rfl))) (mvT hZ (hw _ (List.mem_of_getElem? (i := 4) rfl))) (mvT hZ (hw _ (List.mem_of_getElem? (i := 5) rfl))) (by decide) (backOf (W := 1) (rm1_i l Z a0 hw [] b7 (p1 &&& (3 : Int32)) .null cap h7 n0 (Nat.le_trans Z0 E7.1) E_b7 F_bytes_b7 F_length_b7 g_b7 hcap hcap3) hZ (hw _ (List.mem_of_getElem? (i := 5) rfl)) (hw _ (List.mem_of_getElem? (i := 2) rfl)) (by decide) (by decide)) (g := (mkF m 62 #[.val (.int p1), .val (.int p2), .val (.int p3), .val (.int p4), .val (.int p5), .val (.int p6), .val (.int (p1 &&& (3 : Int32))), .val (.int (p2 &&& (3 : Int32))), .val (.int (own_ch p3)), .val (.int (own_ch p4)), .val (.int (own_ch p5)), .val (.int (1 : Int32)), .val (.int (own_jk p6)), .unset, .unset, .unset, .unset] [(.int (p1 &&& (3 : Int32))), (.ref b7), (.ref b7)])) rfl (by rw [hml]; rfl) (Steps.refl _) (a := b7) (argsL := [(.int (p1 &&& (3 : Int32)))]) (rest := [(.ref b7)]) (lenOf pdw_4 rfl) rfl (by show 2 * 0 + _ ≤ _; exact Nat.le_of_eq rfl) (hb hby at_62) (fun _ _ => ⟨rfl, e7, (by decide : 1 + 1 ≤ _), (by decide : 2 + 8 ≤ _)⟩)
  dsimp only [Pt.U, Pt.locs, Pt.cells, Pt.slots] at X8 l8 y8 z8 st8 hQ8
  subst l8 y8 z8
  obtain ⟨rfl, N8q, zh, BB⟩ := hQ8
  have ZB : n0 ≤ T8.heap.size := Nat.le_trans (Nat.le_trans Z0 E7.1) zh
  have EB := BB.exa
  have N8 := Fr.app N0 N8q
  obtain ⟨cq9, kq9, q9a, q9b, q9c⟩ := isOf hZ rfl EB
  obtain ⟨_, _, ⟨T9, L9, k9, n9⟩, -, X9, ⟨Lc9, hQ9, l9, y9, z9⟩, st9⟩ := X8.virtualBack hx (y := (⟨"com/example/acompte/acompte/Utf8Builder", "append", "(C)Lcom/example/acompte/acompte/Utf8Builder;"⟩ : MethodName)) (z := (⟨"com/example/acompte/acompte/Utf8Builder", "append", "(C)Lcom/example/acompte/acompte/Utf8Builder;"⟩ : MethodName)) hown (mvT hZ (hw _ (List.mem_of_getElem? (i := 12) rfl))) (mvT hZ (hw _ (List.mem_of_getElem? (i := 13) rfl))) (notFace_of_selects (args := #[]) (mvT hZ (hw _ (List.mem_of_getElem? (i := 15) rfl)))) (mvT hZ (hw _ (List.mem_of_getElem? (i := 15) rfl))) (mvT hZ (hw _ (List.mem_of_getElem? (i := 14) rfl))) (by decide) (backOf (W := 0) (rm3_a l Z a0 hw [] b7 (own_jk p6) cap [] T8.heap n0 ZB BB (by first | decide | simp)) hZ (hw _ (List.mem_of_getElem? (i := 16) rfl)) (hw _ (List.mem_of_getElem? (i := 2) rfl)) (by decide) (by decide)) q9a q9c (g := (mkF m 76 #[.val (.int p1), .val (.int p2), .val (.int p3), .val (.int p4), .val (.int p5), .val (.int p6), .val (.int (p1 &&& (3 : Int32))), .val (.int (p2 &&& (3 : Int32))), .val (.int (own_ch p3)), .val (.int (own_ch p4)), .val (.int (own_ch p5)), .val (.int (1 : Int32)), .val (.int (own_jk p6)), .val (.ref b7), .unset, .unset, .unset] [(.int (own_jk p6)), (.ref b7)])) rfl (by rw [hml]; rfl) (Steps.refl _) (argsL := [(.int (own_jk p6))]) (rest := []) (lenOf pdw_8 rfl) rfl (by show 2 * 0 + _ ≤ _; exact Nat.le_of_eq rfl) (hb hby at_76) (fun _ _ => ⟨rfl, rfl, (by decide : 2 + 1 ≤ _), (by decide : 10 + 8 ≤ _)⟩)
  dsimp only [Pt.U, Pt.locs, Pt.cells, Pt.slots] at X9 l9 y9 z9 st9 hQ9
  subst l9 y9 z9
  obtain ⟨rfl, N9q, zh, c9, BB⟩ := hQ9
  have ZB : n0 ≤ T9.heap.size := Nat.le_trans ZB zh
  have EB := BB.exa
  have N9 := Fr.app N8 N9q
  obtain ⟨cq10, kq10, q10a, q10b, q10c⟩ := isOf hZ rfl EB
  obtain ⟨_, _, ⟨T10, L10, k10, n10⟩, -, X10, ⟨Lc10, hQ10, l10, y10, z10⟩, st10⟩ := X9.virtualBack hx (y := (⟨"com/example/acompte/acompte/Utf8Builder", "clear", "()V"⟩ : MethodName)) (z := (⟨"com/example/acompte/acompte/Utf8Builder", "clear", "()V"⟩ : MethodName)) hown (mvT hZ (hw _ (List.mem_of_getElem? (i := 38) rfl))) (mvT hZ (hw _ (List.mem_of_getElem? (i := 39) rfl))) (notFace_of_selects (args := #[]) (mvT hZ (hw _ (List.mem_of_getElem? (i := 41) rfl)))) (mvT hZ (hw _ (List.mem_of_getElem? (i := 41) rfl))) (mvT hZ (hw _ (List.mem_of_getElem? (i := 40) rfl))) (by decide) (backOf (W := 0) (rm8_c l Z a0 hw [] b7 c9 ([] ++ [(own_by (own_jk p6))]) T9.heap n0 ZB BB) hZ (hw _ (List.mem_of_getElem? (i := 42) rfl)) (hw _ (List.mem_of_getElem? (i := 2) rfl)) (by decide) (by decide)) q10a q10c (g := (mkF m 82 #[.val (.int p1), .val (.int p2), .val (.int p3), .val (.int p4), .val (.int p5), .val (.int p6), .val (.int (p1 &&& (3 : Int32))), .val (.int (p2 &&& (3 : Int32))), .val (.int (own_ch p3)), .val (.int (own_ch p4)), .val (.int (own_ch p5)), .val (.int (1 : Int32)), .val (.int (own_jk p6)), .val (.ref b7), .unset, .unset, .unset] [(.ref b7)])) rfl (by rw [hml]; rfl) (Steps.refl _) (argsL := []) (rest := []) (lenOf pdw_9 rfl) rfl (by show 2 * 0 + _ ≤ _; exact Nat.le_of_eq rfl) (hb hby at_82) (fun _ _ => ⟨rfl, rfl, (by decide : 3 + 0 ≤ _), (by decide : 18 + 0 ≤ _)⟩)
  dsimp only [Pt.U, Pt.locs, Pt.cells, Pt.slots] at X10 l10 y10 z10 st10 hQ10
  subst l10 y10 z10
  obtain ⟨rfl, N10q, zh, BB⟩ := hQ10
  have ZB : n0 ≤ T10.heap.size := Nat.le_trans ZB zh
  have EB := BB.exa
  have N10 := Fr.app N9 N10q
  obtain ⟨cq11, kq11, q11a, q11b, q11c⟩ := isOf hZ rfl EB
  obtain ⟨_, _, ⟨T11, L11, k11, n11⟩, -, X11, ⟨Lc11, hQ11, l11, y11, z11⟩, st11⟩ := X10.virtualBack hx (y := (⟨"com/example/acompte/acompte/Utf8Builder", "append", "(C)Lcom/example/acompte/acompte/Utf8Builder;"⟩ : MethodName)) (z := (⟨"com/example/acompte/acompte/Utf8Builder", "append", "(C)Lcom/example/acompte/acompte/Utf8Builder;"⟩ : MethodName)) hown (mvT hZ (hw _ (List.mem_of_getElem? (i := 12) rfl))) (mvT hZ (hw _ (List.mem_of_getElem? (i := 13) rfl))) (notFace_of_selects (args := #[]) (mvT hZ (hw _ (List.mem_of_getElem? (i := 15) rfl)))) (mvT hZ (hw _ (List.mem_of_getElem? (i := 15) rfl))) (mvT hZ (hw _ (List.mem_of_getElem? (i := 14) rfl))) (by decide) (backOf (W := 0) (rm3_a l Z a0 hw [] b7 (own_ch p3) c9 [] T10.heap n0 ZB BB (by first | decide | simp)) hZ (hw _ (List.mem_of_getElem? (i := 16) rfl)) (hw _ (List.mem_of_getElem? (i := 2) rfl)) (by decide) (by decide)) q11a q11c (g := (mkF m 94 #[.val (.int p1), .val (.int p2), .val (.int p3), .val (.int p4), .val (.int p5), .val (.int p6), .val (.int (p1 &&& (3 : Int32))), .val (.int (p2 &&& (3 : Int32))), .val (.int (own_ch p3)), .val (.int (own_ch p4)), .val (.int (own_ch p5)), .val (.int (1 : Int32)), .val (.int (own_jk p6)), .val (.ref b7), .unset, .unset, .unset] [(.int (own_ch p3)), (.ref b7)])) rfl (by rw [hml]; rfl) (Steps.refl _) (argsL := [(.int (own_ch p3))]) (rest := []) (lenOf pdw_8 rfl) rfl (by show 2 * 0 + _ ≤ _; exact Nat.le_of_eq rfl) (hb hby at_94) (fun _ _ => ⟨rfl, rfl, (by decide : 3 + 1 ≤ _), (by decide : 18 + 8 ≤ _)⟩)
  dsimp only [Pt.U, Pt.locs, Pt.cells, Pt.slots] at X11 l11 y11 z11 st11 hQ11
  subst l11 y11 z11
  obtain ⟨rfl, N11q, zh, c11, BB⟩ := hQ11
  have ZB : n0 ≤ T11.heap.size := Nat.le_trans ZB zh
  have EB := BB.exa
  have N11 := Fr.app N10 N11q
  obtain ⟨cq12, kq12, q12a, q12b, q12c⟩ := isOf hZ rfl EB
  obtain ⟨_, _, ⟨T12, L12, k12, n12⟩, -, X12, ⟨Lc12, hQ12, l12, y12, z12⟩, st12⟩ := X11.virtualBack hx (y := (⟨"com/example/acompte/acompte/Utf8Builder", "toByteArray", "()[B"⟩ : MethodName)) (z := (⟨"com/example/acompte/acompte/Utf8Builder", "toByteArray", "()[B"⟩ : MethodName)) hown (mvT hZ (hw _ (List.mem_of_getElem? (i := 43) rfl))) (mvT hZ (hw _ (List.mem_of_getElem? (i := 44) rfl))) (notFace_of_selects (args := #[]) (mvT hZ (hw _ (List.mem_of_getElem? (i := 46) rfl)))) (mvT hZ (hw _ (List.mem_of_getElem? (i := 46) rfl))) (mvT hZ (hw _ (List.mem_of_getElem? (i := 45) rfl))) (by decide) (backOf (W := 0) (rm9_t l Z a0 hw [] b7 c11 ([] ++ [(own_by (own_ch p3))]) T11.heap n0 ZB BB) hZ (hw _ (List.mem_of_getElem? (i := 47) rfl)) (hw _ (List.mem_of_getElem? (i := 2) rfl)) (by decide) (by decide)) q12a q12c (g := (mkF m 128 #[.val (.int p1), .val (.int p2), .val (.int p3), .val (.int p4), .val (.int p5), .val (.int p6), .val (.int (p1 &&& (3 : Int32))), .val (.int (p2 &&& (3 : Int32))), .val (.int (own_ch p3)), .val (.int (own_ch p4)), .val (.int (own_ch p5)), .val (.int (1 : Int32)), .val (.int (own_jk p6)), .val (.ref b7), .unset, .unset, .unset] [(.ref b7)])) rfl (by rw [hml]; rfl) (Steps.refl _) (argsL := []) (rest := []) (lenOf pdw_5 rfl) rfl (by show 2 * 0 + _ ≤ _; exact Nat.le_of_eq rfl) (hb hby at_128) (fun _ _ => ⟨rfl, rfl, (by decide : 4 + 1 ≤ _), (by decide : 26 + 8 ≤ _)⟩)
  dsimp only [Pt.U, Pt.locs, Pt.cells, Pt.slots] at X12 l12 y12 z12 st12 hQ12
  subst l12 y12 z12
  obtain ⟨rfl, N12q, K12, k12', us12, V12, hus12⟩ := hQ12
  have BB1 := BB
  have g_r1 := ZB
  have BB := BB.keep K12
  have ZB : n0 ≤ T12.heap.size := Nat.le_trans ZB K12.1
  have EB := BB.exa
  have FL := BB.len
  have V12' := V12
  obtain ⟨clr1, Arr1, qr1, Sr1, Nr1, Hr1, Gr1⟩ := V12'
  have N12 := Fr.app N11 N12q
  obtain ⟨cq13, kq13, q13a, q13b, q13c⟩ := isOf hZ rfl EB
  obtain ⟨_, _, ⟨T13, L13, k13, n13⟩, -, X13, ⟨Lc13, hQ13, l13, y13, z13⟩, st13⟩ := X12.virtualBack hx (y := (⟨"com/example/acompte/acompte/Utf8Builder", "length", "()I"⟩ : MethodName)) (z := (⟨"com/example/acompte/acompte/Utf8Builder", "length", "()I"⟩ : MethodName)) hown (mvT hZ (hw _ (List.mem_of_getElem? (i := 48) rfl))) (mvT hZ (hw _ (List.mem_of_getElem? (i := 49) rfl))) (notFace_of_selects (args := #[]) (mvT hZ (hw _ (List.mem_of_getElem? (i := 51) rfl)))) (mvT hZ (hw _ (List.mem_of_getElem? (i := 51) rfl))) (mvT hZ (hw _ (List.mem_of_getElem? (i := 50) rfl))) (by decide) (backOf (W := 0) (rm10 l Z a0 hw [] b7 (Int32.ofNat ([] ++ [(own_by (own_ch p3))]).length) T12.heap n0 ZB FL) hZ (hw _ (List.mem_of_getElem? (i := 52) rfl)) (hw _ (List.mem_of_getElem? (i := 2) rfl)) (by decide) (by decide)) q13a q13c (g := (mkF m 143 #[.val (.int p1), .val (.int p2), .val (.int p3), .val (.int p4), .val (.int p5), .val (.int p6), .val (.int (p1 &&& (3 : Int32))), .val (.int (p2 &&& (3 : Int32))), .val (.int (own_ch p3)), .val (.int (own_ch p4)), .val (.int (own_ch p5)), .val (.int (1 : Int32)), .val (.int (own_jk p6)), .val (.ref b7), .val (.ref (T11.heap.size)), .unset, .unset] [(.ref b7)])) rfl (by rw [hml]; rfl) (Steps.refl _) (argsL := []) (rest := []) (lenOf pdw_6 rfl) rfl (by show 2 * 0 + _ ≤ _; exact Nat.le_of_eq rfl) (hb hby at_143) (fun _ _ => ⟨rfl, rfl, (by decide : 5 + 0 ≤ _), (by decide : 34 + 0 ≤ _)⟩)
  dsimp only [Pt.U, Pt.locs, Pt.cells, Pt.slots] at X13 l13 y13 z13 st13 hQ13
  subst l13 y13 z13
  obtain ⟨rfl, N13q, hh13⟩ := hQ13
  have N13 := Fr.app N12 N13q
  obtain ⟨_, _, ⟨T14, L14, k14, n14⟩, -, X14, ⟨Lc14, hQ14, l14, y14, z14⟩, st14⟩ := Jvm.LawKit.callS X13 hx (y := (⟨"com/example/acompte/acompte/Utf8BuilderToByteArrayPinLaw", "matches", "([BICCC)Z"⟩ : MethodName)) hown (mvT hZ (hw _ (List.mem_of_getElem? (i := 53) rfl))) (mvT hZ (hw _ (List.mem_of_getElem? (i := 54) rfl))) (mvT hZ (hw _ (List.mem_of_getElem? (i := 55) rfl))) (mvT hZ (hw _ (List.mem_of_getElem? (i := 56) rfl))) (by decide) (backOf (W := 0) (rm11_n1 l Z a0 hw [] (T11.heap.size) (p2 &&& (3 : Int32)) (own_ch p3) (own_ch p4) (own_ch p5) (own_by (own_ch p3)) clr1 T12.heap n0 ZB Arr1 (inb_of Sr1 ⟨by decide, (show (0 : Int32) < Int32.ofNat 1 from by decide)⟩) (Has.at Hr1 (inb_of Sr1 ⟨by decide, (show (0 : Int32) < Int32.ofNat 1 from by decide)⟩) (hus12 0 (by first | decide | simp))) (by rw [hn]; decide) (own_idem _) (by rw [hn]; decide) (by rw [hn]; decide)) hZ (hw _ (List.mem_of_getElem? (i := 56) rfl)) (hw _ (List.mem_of_getElem? (i := 55) rfl)) (by decide) (by decide)) (g := (mkF m 161 #[.val (.int p1), .val (.int p2), .val (.int p3), .val (.int p4), .val (.int p5), .val (.int p6), .val (.int (p1 &&& (3 : Int32))), .val (.int (p2 &&& (3 : Int32))), .val (.int (own_ch p3)), .val (.int (own_ch p4)), .val (.int (own_ch p5)), .val (.int (1 : Int32)), .val (.int (own_jk p6)), .val (.ref b7), .val (.ref (T11.heap.size)), .unset, .unset] [(.int (own_ch p5)), (.int (own_ch p4)), (.int (own_ch p3)), (.int (p2 &&& (3 : Int32))), (.ref (T11.heap.size))])) rfl (by rw [hml]; rfl) (argsL := [(.ref (T11.heap.size)), (.int (p2 &&& (3 : Int32))), (.int (own_ch p3)), (.int (own_ch p4)), (.int (own_ch p5))]) (rest := []) (lenOf pdw_7 rfl) rfl (by show 2 * 0 + _ ≤ _; exact Nat.le_of_eq rfl) (hb hby at_161) (fun _ _ => ⟨rfl, hh13, (by decide : 5 + 0 ≤ _), (by decide : 34 + 0 ≤ _)⟩)
  dsimp only [Pt.U, Pt.locs, Pt.cells, Pt.slots] at X14 l14 y14 z14 st14 hQ14
  subst l14 y14 z14
  obtain ⟨rfl, N14q, hh14⟩ := hQ14
  have N14 := Fr.app N13 N14q
  have hin197 : ¬ ((0 : Int32) < 0 ∨ clr1.slots.size ≤ ((0 : Int32)).toNatClampNeg) := inb_of Sr1 ⟨by decide, (show (0 : Int32) < Int32.ofNat 1 from by decide)⟩
  have hin192 := hin197
  have hat192 : clr1.slots[((0 : Int32)).toNatClampNeg]? = some (.int (own_by (own_ch p3))) := Has.at Hr1 hin197 (hus12 0 (by first | decide | simp))
  obtain ⟨T16, h16, X16, e16, W16, st16⟩ := stB X14 hx hZ hh14 Arr1 (j := (0 : Int32)) hin197 (g := (mkF m 197 #[.val (.int p1), .val (.int p2), .val (.int p3), .val (.int p4), .val (.int p5), .val (.int p6), .val (.int (p1 &&& (3 : Int32))), .val (.int (p2 &&& (3 : Int32))), .val (.int (own_ch p3)), .val (.int (own_ch p4)), .val (.int (own_ch p5)), .val (.int (1 : Int32)), .val (.int (own_jk p6)), .val (.ref b7), .val (.ref (T11.heap.size)), .val (.int (1 : Int32)), .unset] [(.int (((own_by (own_ch p3)) ^^^ (64 : Int32)).toInt8.toInt32)), (.int (0 : Int32)), (.ref (T11.heap.size))])) rfl rfl (hb hby at_197)
  have BB := BB1.keepwr K12 W16 (Nat.le_refl _)
  have EB := BB.exa
  have ZB : n0 ≤ h16.size := by rw [W16.size]; exact ZB
  have N16 := Fr.snoc X16 N14 g_r1
  obtain ⟨cq17, kq17, q17a, q17b, q17c⟩ := isOf hZ e16 EB
  obtain ⟨_, _, ⟨T17, L17, k17, n17⟩, -, X17, ⟨Lc17, hQ17, l17, y17, z17⟩, st17⟩ := X16.virtualBack hx (y := (⟨"com/example/acompte/acompte/Utf8Builder", "toByteArray", "()[B"⟩ : MethodName)) (z := (⟨"com/example/acompte/acompte/Utf8Builder", "toByteArray", "()[B"⟩ : MethodName)) hown (mvT hZ (hw _ (List.mem_of_getElem? (i := 43) rfl))) (mvT hZ (hw _ (List.mem_of_getElem? (i := 44) rfl))) (notFace_of_selects (args := #[]) (mvT hZ (hw _ (List.mem_of_getElem? (i := 46) rfl)))) (mvT hZ (hw _ (List.mem_of_getElem? (i := 46) rfl))) (mvT hZ (hw _ (List.mem_of_getElem? (i := 45) rfl))) (by decide) (backOf (W := 0) (rm9_t l Z a0 hw [] b7 c11 ([] ++ [(own_by (own_ch p3))]) h16 n0 ZB BB) hZ (hw _ (List.mem_of_getElem? (i := 47) rfl)) (hw _ (List.mem_of_getElem? (i := 2) rfl)) (by decide) (by decide)) q17a q17c (g := (mkF m 200 #[.val (.int p1), .val (.int p2), .val (.int p3), .val (.int p4), .val (.int p5), .val (.int p6), .val (.int (p1 &&& (3 : Int32))), .val (.int (p2 &&& (3 : Int32))), .val (.int (own_ch p3)), .val (.int (own_ch p4)), .val (.int (own_ch p5)), .val (.int (1 : Int32)), .val (.int (own_jk p6)), .val (.ref b7), .val (.ref (T11.heap.size)), .val (.int (1 : Int32)), .unset] [(.ref b7)])) rfl (by rw [hml]; rfl) (Steps.refl _) (argsL := []) (rest := []) (lenOf pdw_5 rfl) rfl (by show 2 * 0 + _ ≤ _; exact Nat.le_of_eq rfl) (hb hby at_200) (fun _ _ => ⟨rfl, e16, (by decide : 5 + 1 ≤ _), (by decide : 34 + 8 ≤ _)⟩)
  dsimp only [Pt.U, Pt.locs, Pt.cells, Pt.slots] at X17 l17 y17 z17 st17 hQ17
  subst l17 y17 z17
  obtain ⟨rfl, N17q, K17, k17', us17, V17, hus17⟩ := hQ17
  have ZB : n0 ≤ T17.heap.size := Nat.le_trans ZB K17.1
  have V17' := V17
  obtain ⟨clr2, Arr2, qr2, Sr2, Nr2, Hr2, Gr2⟩ := V17'
  have N17 := Fr.app N16 N17q
  obtain ⟨_, _, ⟨T18, L18, k18, n18⟩, -, X18, ⟨Lc18, hQ18, l18, y18, z18⟩, st18⟩ := Jvm.LawKit.callS X17 hx (y := (⟨"com/example/acompte/acompte/Utf8BuilderToByteArrayPinLaw", "matches", "([BICCC)Z"⟩ : MethodName)) hown (mvT hZ (hw _ (List.mem_of_getElem? (i := 53) rfl))) (mvT hZ (hw _ (List.mem_of_getElem? (i := 54) rfl))) (mvT hZ (hw _ (List.mem_of_getElem? (i := 55) rfl))) (mvT hZ (hw _ (List.mem_of_getElem? (i := 56) rfl))) (by decide) (backOf (W := 0) (rm11_n1 l Z a0 hw [] (h16.size) (p2 &&& (3 : Int32)) (own_ch p3) (own_ch p4) (own_ch p5) (own_by (own_ch p3)) clr2 T17.heap n0 ZB Arr2 (inb_of Sr2 ⟨by decide, (show (0 : Int32) < Int32.ofNat 1 from by decide)⟩) (Has.at Hr2 (inb_of Sr2 ⟨by decide, (show (0 : Int32) < Int32.ofNat 1 from by decide)⟩) (hus17 0 (by first | decide | simp))) (by rw [hn]; decide) (own_idem _) (by rw [hn]; decide) (by rw [hn]; decide)) hZ (hw _ (List.mem_of_getElem? (i := 56) rfl)) (hw _ (List.mem_of_getElem? (i := 55) rfl)) (by decide) (by decide)) (g := (mkF m 223 #[.val (.int p1), .val (.int p2), .val (.int p3), .val (.int p4), .val (.int p5), .val (.int p6), .val (.int (p1 &&& (3 : Int32))), .val (.int (p2 &&& (3 : Int32))), .val (.int (own_ch p3)), .val (.int (own_ch p4)), .val (.int (own_ch p5)), .val (.int (1 : Int32)), .val (.int (own_jk p6)), .val (.ref b7), .val (.ref (T11.heap.size)), .val (.int (1 : Int32)), .val (.ref (h16.size))] [(.int (own_ch p5)), (.int (own_ch p4)), (.int (own_ch p3)), (.int (p2 &&& (3 : Int32))), (.ref (h16.size))])) rfl (by rw [hml]; rfl) (argsL := [(.ref (h16.size)), (.int (p2 &&& (3 : Int32))), (.int (own_ch p3)), (.int (own_ch p4)), (.int (own_ch p5))]) (rest := []) (lenOf pdw_7 rfl) rfl (by show 2 * 0 + _ ≤ _; exact Nat.le_of_eq rfl) (hb hby at_223) (fun _ _ => ⟨rfl, rfl, (by decide : 6 + 0 ≤ _), (by decide : 42 + 0 ≤ _)⟩)
  dsimp only [Pt.U, Pt.locs, Pt.cells, Pt.slots] at X18 l18 y18 z18 st18 hQ18
  subst l18 y18 z18
  obtain ⟨rfl, N18q, hh18⟩ := hQ18
  have N18 := Fr.app N17 N18q
  obtain ⟨fs, hr, hrun, hended, hW, hsame⟩ := X18.leave (v := some (.int (1 : Int32))) (fun h => by rw [Bd.returns] at h; cases h)
  refine ⟨_, _, pre0 _ ?_, hrun, hended, _, _, rfl, ?_, ⟨_, rfl⟩, hW, hsame.mono (by decide) (by decide)⟩
  -- 4. STEPS
  · show Steps p.tables e below (s₁.setTop (mkF m 0 #[.val (.int p1), .val (.int p2), .val (.int p3), .val (.int p4), .val (.int p5), .val (.int p6), .unset, .unset, .unset, .unset, .unset, .unset, .unset, .unset, .unset, .unset, .unset] [])) _
    refine XS.iloadN X0.here hx rfl (hb hby at_0) rfl ?_
    show Steps p.tables e below (s₁.setTop (mkF m 1 #[.val (.int p1), .val (.int p2), .val (.int p3), .val (.int p4), .val (.int p5), .val (.int p6), .unset, .unset, .unset, .unset, .unset, .unset, .unset, .unset, .unset, .unset, .unset] [(.int p1)])) _
    refine XS.iconst X0.here hx rfl (hb hby at_1) ?_
    show Steps p.tables e below (s₁.setTop (mkF m 2 #[.val (.int p1), .val (.int p2), .val (.int p3), .val (.int p4), .val (.int p5), .val (.int p6), .unset, .unset, .unset, .unset, .unset, .unset, .unset, .unset, .unset, .unset, .unset] [(.int (3 : Int32)), (.int p1)])) _
    refine XS.iand X0.here hx rfl (hb hby at_2) rfl ?_
    show Steps p.tables e below (s₁.setTop (mkF m 3 #[.val (.int p1), .val (.int p2), .val (.int p3), .val (.int p4), .val (.int p5), .val (.int p6), .unset, .unset, .unset, .unset, .unset, .unset, .unset, .unset, .unset, .unset, .unset] [(.int (p1 &&& (3 : Int32)))])) _
    refine XS.istore X0.here hx rfl (hb hby at_3) rfl (l' := #[.val (.int p1), .val (.int p2), .val (.int p3), .val (.int p4), .val (.int p5), .val (.int p6), .val (.int (p1 &&& (3 : Int32))), .unset, .unset, .unset, .unset, .unset, .unset, .unset, .unset, .unset, .unset]) rfl ?_
    show Steps p.tables e below (s₁.setTop (mkF m 5 #[.val (.int p1), .val (.int p2), .val (.int p3), .val (.int p4), .val (.int p5), .val (.int p6), .val (.int (p1 &&& (3 : Int32))), .unset, .unset, .unset, .unset, .unset, .unset, .unset, .unset, .unset, .unset] [])) _
    refine XS.iloadN X0.here hx rfl (hb hby at_5) rfl ?_
    show Steps p.tables e below (s₁.setTop (mkF m 6 #[.val (.int p1), .val (.int p2), .val (.int p3), .val (.int p4), .val (.int p5), .val (.int p6), .val (.int (p1 &&& (3 : Int32))), .unset, .unset, .unset, .unset, .unset, .unset, .unset, .unset, .unset, .unset] [(.int p2)])) _
    refine XS.iconst X0.here hx rfl (hb hby at_6) ?_
    show Steps p.tables e below (s₁.setTop (mkF m 7 #[.val (.int p1), .val (.int p2), .val (.int p3), .val (.int p4), .val (.int p5), .val (.int p6), .val (.int (p1 &&& (3 : Int32))), .unset, .unset, .unset, .unset, .unset, .unset, .unset, .unset, .unset, .unset] [(.int (3 : Int32)), (.int p2)])) _
    refine XS.iand X0.here hx rfl (hb hby at_7) rfl ?_
    show Steps p.tables e below (s₁.setTop (mkF m 8 #[.val (.int p1), .val (.int p2), .val (.int p3), .val (.int p4), .val (.int p5), .val (.int p6), .val (.int (p1 &&& (3 : Int32))), .unset, .unset, .unset, .unset, .unset, .unset, .unset, .unset, .unset, .unset] [(.int (p2 &&& (3 : Int32)))])) _
    refine XS.istore X0.here hx rfl (hb hby at_8) rfl (l' := #[.val (.int p1), .val (.int p2), .val (.int p3), .val (.int p4), .val (.int p5), .val (.int p6), .val (.int (p1 &&& (3 : Int32))), .val (.int (p2 &&& (3 : Int32))), .unset, .unset, .unset, .unset, .unset, .unset, .unset, .unset, .unset]) rfl ?_
    show Steps p.tables e below (s₁.setTop (mkF m 10 #[.val (.int p1), .val (.int p2), .val (.int p3), .val (.int p4), .val (.int p5), .val (.int p6), .val (.int (p1 &&& (3 : Int32))), .val (.int (p2 &&& (3 : Int32))), .unset, .unset, .unset, .unset, .unset, .unset, .unset, .unset, .unset] [])) _
    refine XS.iloadN X0.here hx rfl (hb hby at_10) rfl ?_
    show Steps p.tables e below (s₁.setTop (mkF m 11 #[.val (.int p1), .val (.int p2), .val (.int p3), .val (.int p4), .val (.int p5), .val (.int p6), .val (.int (p1 &&& (3 : Int32))), .val (.int (p2 &&& (3 : Int32))), .unset, .unset, .unset, .unset, .unset, .unset, .unset, .unset, .unset] [(.int p3)])) _
    refine XS.bipush X0.here hx rfl (hb hby at_11) ?_
    show Steps p.tables e below (s₁.setTop (mkF m 13 #[.val (.int p1), .val (.int p2), .val (.int p3), .val (.int p4), .val (.int p5), .val (.int p6), .val (.int (p1 &&& (3 : Int32))), .val (.int (p2 &&& (3 : Int32))), .unset, .unset, .unset, .unset, .unset, .unset, .unset, .unset, .unset] [(.int (127 : Int32)), (.int p3)])) _
    refine XS.iand X0.here hx rfl (hb hby at_13) rfl ?_
    show Steps p.tables e below (s₁.setTop (mkF m 14 #[.val (.int p1), .val (.int p2), .val (.int p3), .val (.int p4), .val (.int p5), .val (.int p6), .val (.int (p1 &&& (3 : Int32))), .val (.int (p2 &&& (3 : Int32))), .unset, .unset, .unset, .unset, .unset, .unset, .unset, .unset, .unset] [(.int (p3 &&& (127 : Int32)))])) _
    refine XS.i2c X0.here hx rfl (hb hby at_14) rfl ?_
    show Steps p.tables e below (s₁.setTop (mkF m 15 #[.val (.int p1), .val (.int p2), .val (.int p3), .val (.int p4), .val (.int p5), .val (.int p6), .val (.int (p1 &&& (3 : Int32))), .val (.int (p2 &&& (3 : Int32))), .unset, .unset, .unset, .unset, .unset, .unset, .unset, .unset, .unset] [(.int (own_ch p3))])) _
    refine XS.istore X0.here hx rfl (hb hby at_15) rfl (l' := #[.val (.int p1), .val (.int p2), .val (.int p3), .val (.int p4), .val (.int p5), .val (.int p6), .val (.int (p1 &&& (3 : Int32))), .val (.int (p2 &&& (3 : Int32))), .val (.int (own_ch p3)), .unset, .unset, .unset, .unset, .unset, .unset, .unset, .unset]) rfl ?_
    show Steps p.tables e below (s₁.setTop (mkF m 17 #[.val (.int p1), .val (.int p2), .val (.int p3), .val (.int p4), .val (.int p5), .val (.int p6), .val (.int (p1 &&& (3 : Int32))), .val (.int (p2 &&& (3 : Int32))), .val (.int (own_ch p3)), .unset, .unset, .unset, .unset, .unset, .unset, .unset, .unset] [])) _
    refine XS.iloadN X0.here hx rfl (hb hby at_17) rfl ?_
    show Steps p.tables e below (s₁.setTop (mkF m 18 #[.val (.int p1), .val (.int p2), .val (.int p3), .val (.int p4), .val (.int p5), .val (.int p6), .val (.int (p1 &&& (3 : Int32))), .val (.int (p2 &&& (3 : Int32))), .val (.int (own_ch p3)), .unset, .unset, .unset, .unset, .unset, .unset, .unset, .unset] [(.int p4)])) _
    refine XS.bipush X0.here hx rfl (hb hby at_18) ?_
    show Steps p.tables e below (s₁.setTop (mkF m 20 #[.val (.int p1), .val (.int p2), .val (.int p3), .val (.int p4), .val (.int p5), .val (.int p6), .val (.int (p1 &&& (3 : Int32))), .val (.int (p2 &&& (3 : Int32))), .val (.int (own_ch p3)), .unset, .unset, .unset, .unset, .unset, .unset, .unset, .unset] [(.int (127 : Int32)), (.int p4)])) _
    refine XS.iand X0.here hx rfl (hb hby at_20) rfl ?_
    show Steps p.tables e below (s₁.setTop (mkF m 21 #[.val (.int p1), .val (.int p2), .val (.int p3), .val (.int p4), .val (.int p5), .val (.int p6), .val (.int (p1 &&& (3 : Int32))), .val (.int (p2 &&& (3 : Int32))), .val (.int (own_ch p3)), .unset, .unset, .unset, .unset, .unset, .unset, .unset, .unset] [(.int (p4 &&& (127 : Int32)))])) _
    refine XS.i2c X0.here hx rfl (hb hby at_21) rfl ?_
    show Steps p.tables e below (s₁.setTop (mkF m 22 #[.val (.int p1), .val (.int p2), .val (.int p3), .val (.int p4), .val (.int p5), .val (.int p6), .val (.int (p1 &&& (3 : Int32))), .val (.int (p2 &&& (3 : Int32))), .val (.int (own_ch p3)), .unset, .unset, .unset, .unset, .unset, .unset, .unset, .unset] [(.int (own_ch p4))])) _
    refine XS.istore X0.here hx rfl (hb hby at_22) rfl (l' := #[.val (.int p1), .val (.int p2), .val (.int p3), .val (.int p4), .val (.int p5), .val (.int p6), .val (.int (p1 &&& (3 : Int32))), .val (.int (p2 &&& (3 : Int32))), .val (.int (own_ch p3)), .val (.int (own_ch p4)), .unset, .unset, .unset, .unset, .unset, .unset, .unset]) rfl ?_
    show Steps p.tables e below (s₁.setTop (mkF m 24 #[.val (.int p1), .val (.int p2), .val (.int p3), .val (.int p4), .val (.int p5), .val (.int p6), .val (.int (p1 &&& (3 : Int32))), .val (.int (p2 &&& (3 : Int32))), .val (.int (own_ch p3)), .val (.int (own_ch p4)), .unset, .unset, .unset, .unset, .unset, .unset, .unset] [])) _
    refine XS.iload X0.here hx rfl (hb hby at_24) rfl ?_
    show Steps p.tables e below (s₁.setTop (mkF m 26 #[.val (.int p1), .val (.int p2), .val (.int p3), .val (.int p4), .val (.int p5), .val (.int p6), .val (.int (p1 &&& (3 : Int32))), .val (.int (p2 &&& (3 : Int32))), .val (.int (own_ch p3)), .val (.int (own_ch p4)), .unset, .unset, .unset, .unset, .unset, .unset, .unset] [(.int p5)])) _
    refine XS.bipush X0.here hx rfl (hb hby at_26) ?_
    show Steps p.tables e below (s₁.setTop (mkF m 28 #[.val (.int p1), .val (.int p2), .val (.int p3), .val (.int p4), .val (.int p5), .val (.int p6), .val (.int (p1 &&& (3 : Int32))), .val (.int (p2 &&& (3 : Int32))), .val (.int (own_ch p3)), .val (.int (own_ch p4)), .unset, .unset, .unset, .unset, .unset, .unset, .unset] [(.int (127 : Int32)), (.int p5)])) _
    refine XS.iand X0.here hx rfl (hb hby at_28) rfl ?_
    show Steps p.tables e below (s₁.setTop (mkF m 29 #[.val (.int p1), .val (.int p2), .val (.int p3), .val (.int p4), .val (.int p5), .val (.int p6), .val (.int (p1 &&& (3 : Int32))), .val (.int (p2 &&& (3 : Int32))), .val (.int (own_ch p3)), .val (.int (own_ch p4)), .unset, .unset, .unset, .unset, .unset, .unset, .unset] [(.int (p5 &&& (127 : Int32)))])) _
    refine XS.i2c X0.here hx rfl (hb hby at_29) rfl ?_
    show Steps p.tables e below (s₁.setTop (mkF m 30 #[.val (.int p1), .val (.int p2), .val (.int p3), .val (.int p4), .val (.int p5), .val (.int p6), .val (.int (p1 &&& (3 : Int32))), .val (.int (p2 &&& (3 : Int32))), .val (.int (own_ch p3)), .val (.int (own_ch p4)), .unset, .unset, .unset, .unset, .unset, .unset, .unset] [(.int (own_ch p5))])) _
    refine XS.istore X0.here hx rfl (hb hby at_30) rfl (l' := #[.val (.int p1), .val (.int p2), .val (.int p3), .val (.int p4), .val (.int p5), .val (.int p6), .val (.int (p1 &&& (3 : Int32))), .val (.int (p2 &&& (3 : Int32))), .val (.int (own_ch p3)), .val (.int (own_ch p4)), .val (.int (own_ch p5)), .unset, .unset, .unset, .unset, .unset, .unset]) rfl ?_
    show Steps p.tables e below (s₁.setTop (mkF m 32 #[.val (.int p1), .val (.int p2), .val (.int p3), .val (.int p4), .val (.int p5), .val (.int p6), .val (.int (p1 &&& (3 : Int32))), .val (.int (p2 &&& (3 : Int32))), .val (.int (own_ch p3)), .val (.int (own_ch p4)), .val (.int (own_ch p5)), .unset, .unset, .unset, .unset, .unset, .unset] [])) _
    refine XS.iload X0.here hx rfl (hb hby at_32) rfl ?_
    show Steps p.tables e below (s₁.setTop (mkF m 34 #[.val (.int p1), .val (.int p2), .val (.int p3), .val (.int p4), .val (.int p5), .val (.int p6), .val (.int (p1 &&& (3 : Int32))), .val (.int (p2 &&& (3 : Int32))), .val (.int (own_ch p3)), .val (.int (own_ch p4)), .val (.int (own_ch p5)), .unset, .unset, .unset, .unset, .unset, .unset] [(.int p6)])) _
    refine XS.iconst X0.here hx rfl (hb hby at_34) ?_
    show Steps p.tables e below (s₁.setTop (mkF m 35 #[.val (.int p1), .val (.int p2), .val (.int p3), .val (.int p4), .val (.int p5), .val (.int p6), .val (.int (p1 &&& (3 : Int32))), .val (.int (p2 &&& (3 : Int32))), .val (.int (own_ch p3)), .val (.int (own_ch p4)), .val (.int (own_ch p5)), .unset, .unset, .unset, .unset, .unset, .unset] [(.int (1 : Int32)), (.int p6)])) _
    refine XS.iand X0.here hx rfl (hb hby at_35) rfl ?_
    show Steps p.tables e below (s₁.setTop (mkF m 36 #[.val (.int p1), .val (.int p2), .val (.int p3), .val (.int p4), .val (.int p5), .val (.int p6), .val (.int (p1 &&& (3 : Int32))), .val (.int (p2 &&& (3 : Int32))), .val (.int (own_ch p3)), .val (.int (own_ch p4)), .val (.int (own_ch p5)), .unset, .unset, .unset, .unset, .unset, .unset] [(.int (p6 &&& (1 : Int32)))])) _
    refine XS.ifNo X0.here hx rfl (hb hby at_36) rfl ((if0 _ _).trans (feq hc36).1) ?_
    show Steps p.tables e below (s₁.setTop (mkF m 39 #[.val (.int p1), .val (.int p2), .val (.int p3), .val (.int p4), .val (.int p5), .val (.int p6), .val (.int (p1 &&& (3 : Int32))), .val (.int (p2 &&& (3 : Int32))), .val (.int (own_ch p3)), .val (.int (own_ch p4)), .val (.int (own_ch p5)), .unset, .unset, .unset, .unset, .unset, .unset] [])) _
    refine XS.iconst X0.here hx rfl (hb hby at_39) ?_
    show Steps p.tables e below (s₁.setTop (mkF m 40 #[.val (.int p1), .val (.int p2), .val (.int p3), .val (.int p4), .val (.int p5), .val (.int p6), .val (.int (p1 &&& (3 : Int32))), .val (.int (p2 &&& (3 : Int32))), .val (.int (own_ch p3)), .val (.int (own_ch p4)), .val (.int (own_ch p5)), .unset, .unset, .unset, .unset, .unset, .unset] [(.int (1 : Int32))])) _
    refine XS.goto X0.here hx rfl (pc0 := 40) (pc' := 44) rfl (hb hby at_40) (by decide) (by decide) ?_
    show Steps p.tables e below (s₁.setTop (mkF m 44 #[.val (.int p1), .val (.int p2), .val (.int p3), .val (.int p4), .val (.int p5), .val (.int p6), .val (.int (p1 &&& (3 : Int32))), .val (.int (p2 &&& (3 : Int32))), .val (.int (own_ch p3)), .val (.int (own_ch p4)), .val (.int (own_ch p5)), .unset, .unset, .unset, .unset, .unset, .unset] [(.int (1 : Int32))])) _
    refine XS.istore X0.here hx rfl (hb hby at_44) rfl (l' := #[.val (.int p1), .val (.int p2), .val (.int p3), .val (.int p4), .val (.int p5), .val (.int p6), .val (.int (p1 &&& (3 : Int32))), .val (.int (p2 &&& (3 : Int32))), .val (.int (own_ch p3)), .val (.int (own_ch p4)), .val (.int (own_ch p5)), .val (.int (1 : Int32)), .unset, .unset, .unset, .unset, .unset]) rfl ?_
    show Steps p.tables e below (s₁.setTop (mkF m 46 #[.val (.int p1), .val (.int p2), .val (.int p3), .val (.int p4), .val (.int p5), .val (.int p6), .val (.int (p1 &&& (3 : Int32))), .val (.int (p2 &&& (3 : Int32))), .val (.int (own_ch p3)), .val (.int (own_ch p4)), .val (.int (own_ch p5)), .val (.int (1 : Int32)), .unset, .unset, .unset, .unset, .unset] [])) _
    refine XS.iload X0.here hx rfl (hb hby at_46) rfl ?_
    show Steps p.tables e below (s₁.setTop (mkF m 48 #[.val (.int p1), .val (.int p2), .val (.int p3), .val (.int p4), .val (.int p5), .val (.int p6), .val (.int (p1 &&& (3 : Int32))), .val (.int (p2 &&& (3 : Int32))), .val (.int (own_ch p3)), .val (.int (own_ch p4)), .val (.int (own_ch p5)), .val (.int (1 : Int32)), .unset, .unset, .unset, .unset, .unset] [(.int p6)])) _
    refine XS.iconst X0.here hx rfl (hb hby at_48) ?_
    show Steps p.tables e below (s₁.setTop (mkF m 49 #[.val (.int p1), .val (.int p2), .val (.int p3), .val (.int p4), .val (.int p5), .val (.int p6), .val (.int (p1 &&& (3 : Int32))), .val (.int (p2 &&& (3 : Int32))), .val (.int (own_ch p3)), .val (.int (own_ch p4)), .val (.int (own_ch p5)), .val (.int (1 : Int32)), .unset, .unset, .unset, .unset, .unset] [(.int (1 : Int32)), (.int p6)])) _
    refine XS.iushr X0.here hx rfl (hb hby at_49) rfl ?_
    show Steps p.tables e below (s₁.setTop (mkF m 50 #[.val (.int p1), .val (.int p2), .val (.int p3), .val (.int p4), .val (.int p5), .val (.int p6), .val (.int (p1 &&& (3 : Int32))), .val (.int (p2 &&& (3 : Int32))), .val (.int (own_ch p3)), .val (.int (own_ch p4)), .val (.int (own_ch p5)), .val (.int (1 : Int32)), .unset, .unset, .unset, .unset, .unset] [(.int ((p6.toUInt32 >>> ((1 : Int32) &&& 31).toUInt32).toInt32))])) _
    refine XS.bipush X0.here hx rfl (hb hby at_50) ?_
    show Steps p.tables e below (s₁.setTop (mkF m 52 #[.val (.int p1), .val (.int p2), .val (.int p3), .val (.int p4), .val (.int p5), .val (.int p6), .val (.int (p1 &&& (3 : Int32))), .val (.int (p2 &&& (3 : Int32))), .val (.int (own_ch p3)), .val (.int (own_ch p4)), .val (.int (own_ch p5)), .val (.int (1 : Int32)), .unset, .unset, .unset, .unset, .unset] [(.int (127 : Int32)), (.int ((p6.toUInt32 >>> ((1 : Int32) &&& 31).toUInt32).toInt32))])) _
    refine XS.iand X0.here hx rfl (hb hby at_52) rfl ?_
    show Steps p.tables e below (s₁.setTop (mkF m 53 #[.val (.int p1), .val (.int p2), .val (.int p3), .val (.int p4), .val (.int p5), .val (.int p6), .val (.int (p1 &&& (3 : Int32))), .val (.int (p2 &&& (3 : Int32))), .val (.int (own_ch p3)), .val (.int (own_ch p4)), .val (.int (own_ch p5)), .val (.int (1 : Int32)), .unset, .unset, .unset, .unset, .unset] [(.int (((p6.toUInt32 >>> ((1 : Int32) &&& 31).toUInt32).toInt32) &&& (127 : Int32)))])) _
    refine XS.i2c X0.here hx rfl (hb hby at_53) rfl ?_
    show Steps p.tables e below (s₁.setTop (mkF m 54 #[.val (.int p1), .val (.int p2), .val (.int p3), .val (.int p4), .val (.int p5), .val (.int p6), .val (.int (p1 &&& (3 : Int32))), .val (.int (p2 &&& (3 : Int32))), .val (.int (own_ch p3)), .val (.int (own_ch p4)), .val (.int (own_ch p5)), .val (.int (1 : Int32)), .unset, .unset, .unset, .unset, .unset] [(.int (own_jk p6))])) _
    refine XS.istore X0.here hx rfl (hb hby at_54) rfl (l' := #[.val (.int p1), .val (.int p2), .val (.int p3), .val (.int p4), .val (.int p5), .val (.int p6), .val (.int (p1 &&& (3 : Int32))), .val (.int (p2 &&& (3 : Int32))), .val (.int (own_ch p3)), .val (.int (own_ch p4)), .val (.int (own_ch p5)), .val (.int (1 : Int32)), .val (.int (own_jk p6)), .unset, .unset, .unset, .unset]) rfl ?_
    show Steps p.tables e below (s₁.setTop (mkF m 56 #[.val (.int p1), .val (.int p2), .val (.int p3), .val (.int p4), .val (.int p5), .val (.int p6), .val (.int (p1 &&& (3 : Int32))), .val (.int (p2 &&& (3 : Int32))), .val (.int (own_ch p3)), .val (.int (own_ch p4)), .val (.int (own_ch p5)), .val (.int (1 : Int32)), .val (.int (own_jk p6)), .unset, .unset, .unset, .unset] [])) _
    refine st7 _ ?_
    show Steps p.tables e below (T7.setTop (mkF m 59 #[.val (.int p1), .val (.int p2), .val (.int p3), .val (.int p4), .val (.int p5), .val (.int p6), .val (.int (p1 &&& (3 : Int32))), .val (.int (p2 &&& (3 : Int32))), .val (.int (own_ch p3)), .val (.int (own_ch p4)), .val (.int (own_ch p5)), .val (.int (1 : Int32)), .val (.int (own_jk p6)), .unset, .unset, .unset, .unset] [(.ref b7)])) _
    refine XS.dup X7.here hx rfl (hb hby at_59) rfl rfl ?_
    show Steps p.tables e below (T7.setTop (mkF m 60 #[.val (.int p1), .val (.int p2), .val (.int p3), .val (.int p4), .val (.int p5), .val (.int p6), .val (.int (p1 &&& (3 : Int32))), .val (.int (p2 &&& (3 : Int32))), .val (.int (own_ch p3)), .val (.int (own_ch p4)), .val (.int (own_ch p5)), .val (.int (1 : Int32)), .val (.int (own_jk p6)), .unset, .unset, .unset, .unset] [(.ref b7), (.ref b7)])) _
    refine XS.iload X7.here hx rfl (hb hby at_60) rfl ?_
    show Steps p.tables e below (T7.setTop (mkF m 62 #[.val (.int p1), .val (.int p2), .val (.int p3), .val (.int p4), .val (.int p5), .val (.int p6), .val (.int (p1 &&& (3 : Int32))), .val (.int (p2 &&& (3 : Int32))), .val (.int (own_ch p3)), .val (.int (own_ch p4)), .val (.int (own_ch p5)), .val (.int (1 : Int32)), .val (.int (own_jk p6)), .unset, .unset, .unset, .unset] [(.int (p1 &&& (3 : Int32))), (.ref b7), (.ref b7)])) _
    refine st8.trans ?_
    show Steps p.tables e below (T8.setTop (mkF m 65 #[.val (.int p1), .val (.int p2), .val (.int p3), .val (.int p4), .val (.int p5), .val (.int p6), .val (.int (p1 &&& (3 : Int32))), .val (.int (p2 &&& (3 : Int32))), .val (.int (own_ch p3)), .val (.int (own_ch p4)), .val (.int (own_ch p5)), .val (.int (1 : Int32)), .val (.int (own_jk p6)), .unset, .unset, .unset, .unset] [(.ref b7)])) _
    refine XS.astore X8.here hx rfl (hb hby at_65) rfl rfl (l' := #[.val (.int p1), .val (.int p2), .val (.int p3), .val (.int p4), .val (.int p5), .val (.int p6), .val (.int (p1 &&& (3 : Int32))), .val (.int (p2 &&& (3 : Int32))), .val (.int (own_ch p3)), .val (.int (own_ch p4)), .val (.int (own_ch p5)), .val (.int (1 : Int32)), .val (.int (own_jk p6)), .val (.ref b7), .unset, .unset, .unset]) rfl ?_
    show Steps p.tables e below (T8.setTop (mkF m 67 #[.val (.int p1), .val (.int p2), .val (.int p3), .val (.int p4), .val (.int p5), .val (.int p6), .val (.int (p1 &&& (3 : Int32))), .val (.int (p2 &&& (3 : Int32))), .val (.int (own_ch p3)), .val (.int (own_ch p4)), .val (.int (own_ch p5)), .val (.int (1 : Int32)), .val (.int (own_jk p6)), .val (.ref b7), .unset, .unset, .unset] [])) _
    refine XS.iload X8.here hx rfl (hb hby at_67) rfl ?_
    show Steps p.tables e below (T8.setTop (mkF m 69 #[.val (.int p1), .val (.int p2), .val (.int p3), .val (.int p4), .val (.int p5), .val (.int p6), .val (.int (p1 &&& (3 : Int32))), .val (.int (p2 &&& (3 : Int32))), .val (.int (own_ch p3)), .val (.int (own_ch p4)), .val (.int (own_ch p5)), .val (.int (1 : Int32)), .val (.int (own_jk p6)), .val (.ref b7), .unset, .unset, .unset] [(.int (1 : Int32))])) _
    refine XS.ifNo X8.here hx rfl (hb hby at_69) rfl ((if0 _ _).trans (feq hc69).1) ?_
    show Steps p.tables e below (T8.setTop (mkF m 72 #[.val (.int p1), .val (.int p2), .val (.int p3), .val (.int p4), .val (.int p5), .val (.int p6), .val (.int (p1 &&& (3 : Int32))), .val (.int (p2 &&& (3 : Int32))), .val (.int (own_ch p3)), .val (.int (own_ch p4)), .val (.int (own_ch p5)), .val (.int (1 : Int32)), .val (.int (own_jk p6)), .val (.ref b7), .unset, .unset, .unset] [])) _
    refine XS.aload X8.here hx rfl (hb hby at_72) rfl rfl ?_
    show Steps p.tables e below (T8.setTop (mkF m 74 #[.val (.int p1), .val (.int p2), .val (.int p3), .val (.int p4), .val (.int p5), .val (.int p6), .val (.int (p1 &&& (3 : Int32))), .val (.int (p2 &&& (3 : Int32))), .val (.int (own_ch p3)), .val (.int (own_ch p4)), .val (.int (own_ch p5)), .val (.int (1 : Int32)), .val (.int (own_jk p6)), .val (.ref b7), .unset, .unset, .unset] [(.ref b7)])) _
    refine XS.iload X8.here hx rfl (hb hby at_74) rfl ?_
    show Steps p.tables e below (T8.setTop (mkF m 76 #[.val (.int p1), .val (.int p2), .val (.int p3), .val (.int p4), .val (.int p5), .val (.int p6), .val (.int (p1 &&& (3 : Int32))), .val (.int (p2 &&& (3 : Int32))), .val (.int (own_ch p3)), .val (.int (own_ch p4)), .val (.int (own_ch p5)), .val (.int (1 : Int32)), .val (.int (own_jk p6)), .val (.ref b7), .unset, .unset, .unset] [(.int (own_jk p6)), (.ref b7)])) _
    refine st9.trans ?_
    show Steps p.tables e below (T9.setTop (mkF m 79 #[.val (.int p1), .val (.int p2), .val (.int p3), .val (.int p4), .val (.int p5), .val (.int p6), .val (.int (p1 &&& (3 : Int32))), .val (.int (p2 &&& (3 : Int32))), .val (.int (own_ch p3)), .val (.int (own_ch p4)), .val (.int (own_ch p5)), .val (.int (1 : Int32)), .val (.int (own_jk p6)), .val (.ref b7), .unset, .unset, .unset] [(.ref b7)])) _
    refine XS.pop X9.here hx rfl (hb hby at_79) rfl rfl ?_
    show Steps p.tables e below (T9.setTop (mkF m 80 #[.val (.int p1), .val (.int p2), .val (.int p3), .val (.int p4), .val (.int p5), .val (.int p6), .val (.int (p1 &&& (3 : Int32))), .val (.int (p2 &&& (3 : Int32))), .val (.int (own_ch p3)), .val (.int (own_ch p4)), .val (.int (own_ch p5)), .val (.int (1 : Int32)), .val (.int (own_jk p6)), .val (.ref b7), .unset, .unset, .unset] [])) _
    refine XS.aload X9.here hx rfl (hb hby at_80) rfl rfl ?_
    show Steps p.tables e below (T9.setTop (mkF m 82 #[.val (.int p1), .val (.int p2), .val (.int p3), .val (.int p4), .val (.int p5), .val (.int p6), .val (.int (p1 &&& (3 : Int32))), .val (.int (p2 &&& (3 : Int32))), .val (.int (own_ch p3)), .val (.int (own_ch p4)), .val (.int (own_ch p5)), .val (.int (1 : Int32)), .val (.int (own_jk p6)), .val (.ref b7), .unset, .unset, .unset] [(.ref b7)])) _
    refine st10.trans ?_
    show Steps p.tables e below (T10.setTop (mkF m 85 #[.val (.int p1), .val (.int p2), .val (.int p3), .val (.int p4), .val (.int p5), .val (.int p6), .val (.int (p1 &&& (3 : Int32))), .val (.int (p2 &&& (3 : Int32))), .val (.int (own_ch p3)), .val (.int (own_ch p4)), .val (.int (own_ch p5)), .val (.int (1 : Int32)), .val (.int (own_jk p6)), .val (.ref b7), .unset, .unset, .unset] [])) _
    refine XS.iload X10.here hx rfl (hb hby at_85) rfl ?_
    show Steps p.tables e below (T10.setTop (mkF m 87 #[.val (.int p1), .val (.int p2), .val (.int p3), .val (.int p4), .val (.int p5), .val (.int p6), .val (.int (p1 &&& (3 : Int32))), .val (.int (p2 &&& (3 : Int32))), .val (.int (own_ch p3)), .val (.int (own_ch p4)), .val (.int (own_ch p5)), .val (.int (1 : Int32)), .val (.int (own_jk p6)), .val (.ref b7), .unset, .unset, .unset] [(.int (p2 &&& (3 : Int32)))])) _
    refine XS.ifNo X10.here hx rfl (hb hby at_87) rfl ((if0 _ _).trans (tlt hc87).2.2.2) ?_
    show Steps p.tables e below (T10.setTop (mkF m 90 #[.val (.int p1), .val (.int p2), .val (.int p3), .val (.int p4), .val (.int p5), .val (.int p6), .val (.int (p1 &&& (3 : Int32))), .val (.int (p2 &&& (3 : Int32))), .val (.int (own_ch p3)), .val (.int (own_ch p4)), .val (.int (own_ch p5)), .val (.int (1 : Int32)), .val (.int (own_jk p6)), .val (.ref b7), .unset, .unset, .unset] [])) _
    refine XS.aload X10.here hx rfl (hb hby at_90) rfl rfl ?_
    show Steps p.tables e below (T10.setTop (mkF m 92 #[.val (.int p1), .val (.int p2), .val (.int p3), .val (.int p4), .val (.int p5), .val (.int p6), .val (.int (p1 &&& (3 : Int32))), .val (.int (p2 &&& (3 : Int32))), .val (.int (own_ch p3)), .val (.int (own_ch p4)), .val (.int (own_ch p5)), .val (.int (1 : Int32)), .val (.int (own_jk p6)), .val (.ref b7), .unset, .unset, .unset] [(.ref b7)])) _
    refine XS.iload X10.here hx rfl (hb hby at_92) rfl ?_
    show Steps p.tables e below (T10.setTop (mkF m 94 #[.val (.int p1), .val (.int p2), .val (.int p3), .val (.int p4), .val (.int p5), .val (.int p6), .val (.int (p1 &&& (3 : Int32))), .val (.int (p2 &&& (3 : Int32))), .val (.int (own_ch p3)), .val (.int (own_ch p4)), .val (.int (own_ch p5)), .val (.int (1 : Int32)), .val (.int (own_jk p6)), .val (.ref b7), .unset, .unset, .unset] [(.int (own_ch p3)), (.ref b7)])) _
    refine st11.trans ?_
    show Steps p.tables e below (T11.setTop (mkF m 97 #[.val (.int p1), .val (.int p2), .val (.int p3), .val (.int p4), .val (.int p5), .val (.int p6), .val (.int (p1 &&& (3 : Int32))), .val (.int (p2 &&& (3 : Int32))), .val (.int (own_ch p3)), .val (.int (own_ch p4)), .val (.int (own_ch p5)), .val (.int (1 : Int32)), .val (.int (own_jk p6)), .val (.ref b7), .unset, .unset, .unset] [(.ref b7)])) _
    refine XS.pop X11.here hx rfl (hb hby at_97) rfl rfl ?_
    show Steps p.tables e below (T11.setTop (mkF m 98 #[.val (.int p1), .val (.int p2), .val (.int p3), .val (.int p4), .val (.int p5), .val (.int p6), .val (.int (p1 &&& (3 : Int32))), .val (.int (p2 &&& (3 : Int32))), .val (.int (own_ch p3)), .val (.int (own_ch p4)), .val (.int (own_ch p5)), .val (.int (1 : Int32)), .val (.int (own_jk p6)), .val (.ref b7), .unset, .unset, .unset] [])) _
    refine XS.iload X11.here hx rfl (hb hby at_98) rfl ?_
    show Steps p.tables e below (T11.setTop (mkF m 100 #[.val (.int p1), .val (.int p2), .val (.int p3), .val (.int p4), .val (.int p5), .val (.int p6), .val (.int (p1 &&& (3 : Int32))), .val (.int (p2 &&& (3 : Int32))), .val (.int (own_ch p3)), .val (.int (own_ch p4)), .val (.int (own_ch p5)), .val (.int (1 : Int32)), .val (.int (own_jk p6)), .val (.ref b7), .unset, .unset, .unset] [(.int (p2 &&& (3 : Int32)))])) _
    refine XS.iconst X11.here hx rfl (hb hby at_100) ?_
    show Steps p.tables e below (T11.setTop (mkF m 101 #[.val (.int p1), .val (.int p2), .val (.int p3), .val (.int p4), .val (.int p5), .val (.int p6), .val (.int (p1 &&& (3 : Int32))), .val (.int (p2 &&& (3 : Int32))), .val (.int (own_ch p3)), .val (.int (own_ch p4)), .val (.int (own_ch p5)), .val (.int (1 : Int32)), .val (.int (own_jk p6)), .val (.ref b7), .unset, .unset, .unset] [(.int (1 : Int32)), (.int (p2 &&& (3 : Int32)))])) _
    refine XS.icmpYes X11.here hx rfl (pc0 := 101) (pc' := 112) rfl (hb hby at_101) rfl (flt hc101).2.2.2 (by decide) (by decide) ?_
    show Steps p.tables e below (T11.setTop (mkF m 112 #[.val (.int p1), .val (.int p2), .val (.int p3), .val (.int p4), .val (.int p5), .val (.int p6), .val (.int (p1 &&& (3 : Int32))), .val (.int (p2 &&& (3 : Int32))), .val (.int (own_ch p3)), .val (.int (own_ch p4)), .val (.int (own_ch p5)), .val (.int (1 : Int32)), .val (.int (own_jk p6)), .val (.ref b7), .unset, .unset, .unset] [])) _
    refine XS.iload X11.here hx rfl (hb hby at_112) rfl ?_
    show Steps p.tables e below (T11.setTop (mkF m 114 #[.val (.int p1), .val (.int p2), .val (.int p3), .val (.int p4), .val (.int p5), .val (.int p6), .val (.int (p1 &&& (3 : Int32))), .val (.int (p2 &&& (3 : Int32))), .val (.int (own_ch p3)), .val (.int (own_ch p4)), .val (.int (own_ch p5)), .val (.int (1 : Int32)), .val (.int (own_jk p6)), .val (.ref b7), .unset, .unset, .unset] [(.int (p2 &&& (3 : Int32)))])) _
    refine XS.iconst X11.here hx rfl (hb hby at_114) ?_
    show Steps p.tables e below (T11.setTop (mkF m 115 #[.val (.int p1), .val (.int p2), .val (.int p3), .val (.int p4), .val (.int p5), .val (.int p6), .val (.int (p1 &&& (3 : Int32))), .val (.int (p2 &&& (3 : Int32))), .val (.int (own_ch p3)), .val (.int (own_ch p4)), .val (.int (own_ch p5)), .val (.int (1 : Int32)), .val (.int (own_jk p6)), .val (.ref b7), .unset, .unset, .unset] [(.int (2 : Int32)), (.int (p2 &&& (3 : Int32)))])) _
    refine XS.icmpYes X11.here hx rfl (pc0 := 115) (pc' := 126) rfl (hb hby at_115) rfl (flt hc115).2.2.2 (by decide) (by decide) ?_
    show Steps p.tables e below (T11.setTop (mkF m 126 #[.val (.int p1), .val (.int p2), .val (.int p3), .val (.int p4), .val (.int p5), .val (.int p6), .val (.int (p1 &&& (3 : Int32))), .val (.int (p2 &&& (3 : Int32))), .val (.int (own_ch p3)), .val (.int (own_ch p4)), .val (.int (own_ch p5)), .val (.int (1 : Int32)), .val (.int (own_jk p6)), .val (.ref b7), .unset, .unset, .unset] [])) _
    refine XS.aload X11.here hx rfl (hb hby at_126) rfl rfl ?_
    show Steps p.tables e below (T11.setTop (mkF m 128 #[.val (.int p1), .val (.int p2), .val (.int p3), .val (.int p4), .val (.int p5), .val (.int p6), .val (.int (p1 &&& (3 : Int32))), .val (.int (p2 &&& (3 : Int32))), .val (.int (own_ch p3)), .val (.int (own_ch p4)), .val (.int (own_ch p5)), .val (.int (1 : Int32)), .val (.int (own_jk p6)), .val (.ref b7), .unset, .unset, .unset] [(.ref b7)])) _
    refine st12.trans ?_
    show Steps p.tables e below (T12.setTop (mkF m 131 #[.val (.int p1), .val (.int p2), .val (.int p3), .val (.int p4), .val (.int p5), .val (.int p6), .val (.int (p1 &&& (3 : Int32))), .val (.int (p2 &&& (3 : Int32))), .val (.int (own_ch p3)), .val (.int (own_ch p4)), .val (.int (own_ch p5)), .val (.int (1 : Int32)), .val (.int (own_jk p6)), .val (.ref b7), .unset, .unset, .unset] [(.ref (T11.heap.size))])) _
    refine XS.astore X12.here hx rfl (hb hby at_131) rfl rfl (l' := #[.val (.int p1), .val (.int p2), .val (.int p3), .val (.int p4), .val (.int p5), .val (.int p6), .val (.int (p1 &&& (3 : Int32))), .val (.int (p2 &&& (3 : Int32))), .val (.int (own_ch p3)), .val (.int (own_ch p4)), .val (.int (own_ch p5)), .val (.int (1 : Int32)), .val (.int (own_jk p6)), .val (.ref b7), .val (.ref (T11.heap.size)), .unset, .unset]) rfl ?_
    show Steps p.tables e below (T12.setTop (mkF m 133 #[.val (.int p1), .val (.int p2), .val (.int p3), .val (.int p4), .val (.int p5), .val (.int p6), .val (.int (p1 &&& (3 : Int32))), .val (.int (p2 &&& (3 : Int32))), .val (.int (own_ch p3)), .val (.int (own_ch p4)), .val (.int (own_ch p5)), .val (.int (1 : Int32)), .val (.int (own_jk p6)), .val (.ref b7), .val (.ref (T11.heap.size)), .unset, .unset] [])) _
    refine XS.aload X12.here hx rfl (hb hby at_133) rfl rfl ?_
    show Steps p.tables e below (T12.setTop (mkF m 135 #[.val (.int p1), .val (.int p2), .val (.int p3), .val (.int p4), .val (.int p5), .val (.int p6), .val (.int (p1 &&& (3 : Int32))), .val (.int (p2 &&& (3 : Int32))), .val (.int (own_ch p3)), .val (.int (own_ch p4)), .val (.int (own_ch p5)), .val (.int (1 : Int32)), .val (.int (own_jk p6)), .val (.ref b7), .val (.ref (T11.heap.size)), .unset, .unset] [(.ref (T11.heap.size))])) _
    refine X12.arraylength hx (by exact Arr1.1) (State.isArrayOf_alike hZ.alike Arr1.2.1) (g := (mkF m 135 #[.val (.int p1), .val (.int p2), .val (.int p3), .val (.int p4), .val (.int p5), .val (.int p6), .val (.int (p1 &&& (3 : Int32))), .val (.int (p2 &&& (3 : Int32))), .val (.int (own_ch p3)), .val (.int (own_ch p4)), .val (.int (own_ch p5)), .val (.int (1 : Int32)), .val (.int (own_jk p6)), .val (.ref b7), .val (.ref (T11.heap.size)), .unset, .unset] [(.ref (T11.heap.size))])) rfl rfl (hb hby at_135) _ ?_
    rw [len_of Sr1 Nr1]
    show Steps p.tables e below (T12.setTop (mkF m 136 #[.val (.int p1), .val (.int p2), .val (.int p3), .val (.int p4), .val (.int p5), .val (.int p6), .val (.int (p1 &&& (3 : Int32))), .val (.int (p2 &&& (3 : Int32))), .val (.int (own_ch p3)), .val (.int (own_ch p4)), .val (.int (own_ch p5)), .val (.int (1 : Int32)), .val (.int (own_jk p6)), .val (.ref b7), .val (.ref (T11.heap.size)), .unset, .unset] [(.int (Int32.ofNat ([] ++ [(own_by (own_ch p3))]).length))])) _
    refine XS.iload X12.here hx rfl (hb hby at_136) rfl ?_
    show Steps p.tables e below (T12.setTop (mkF m 138 #[.val (.int p1), .val (.int p2), .val (.int p3), .val (.int p4), .val (.int p5), .val (.int p6), .val (.int (p1 &&& (3 : Int32))), .val (.int (p2 &&& (3 : Int32))), .val (.int (own_ch p3)), .val (.int (own_ch p4)), .val (.int (own_ch p5)), .val (.int (1 : Int32)), .val (.int (own_jk p6)), .val (.ref b7), .val (.ref (T11.heap.size)), .unset, .unset] [(.int (p2 &&& (3 : Int32))), (.int (Int32.ofNat ([] ++ [(own_by (own_ch p3))]).length))])) _
    refine XS.icmpNo X12.here hx rfl (hb hby at_138) rfl (teq (by rw [hn]; first | rfl | decide : (Int32.ofNat ([] ++ [(own_by (own_ch p3))]).length) = (p2 &&& (3 : Int32)))).2 ?_
    show Steps p.tables e below (T12.setTop (mkF m 141 #[.val (.int p1), .val (.int p2), .val (.int p3), .val (.int p4), .val (.int p5), .val (.int p6), .val (.int (p1 &&& (3 : Int32))), .val (.int (p2 &&& (3 : Int32))), .val (.int (own_ch p3)), .val (.int (own_ch p4)), .val (.int (own_ch p5)), .val (.int (1 : Int32)), .val (.int (own_jk p6)), .val (.ref b7), .val (.ref (T11.heap.size)), .unset, .unset] [])) _
    refine XS.aload X12.here hx rfl (hb hby at_141) rfl rfl ?_
    show Steps p.tables e below (T12.setTop (mkF m 143 #[.val (.int p1), .val (.int p2), .val (.int p3), .val (.int p4), .val (.int p5), .val (.int p6), .val (.int (p1 &&& (3 : Int32))), .val (.int (p2 &&& (3 : Int32))), .val (.int (own_ch p3)), .val (.int (own_ch p4)), .val (.int (own_ch p5)), .val (.int (1 : Int32)), .val (.int (own_jk p6)), .val (.ref b7), .val (.ref (T11.heap.size)), .unset, .unset] [(.ref b7)])) _
    refine st13.trans ?_
    show Steps p.tables e below (T13.setTop (mkF m 146 #[.val (.int p1), .val (.int p2), .val (.int p3), .val (.int p4), .val (.int p5), .val (.int p6), .val (.int (p1 &&& (3 : Int32))), .val (.int (p2 &&& (3 : Int32))), .val (.int (own_ch p3)), .val (.int (own_ch p4)), .val (.int (own_ch p5)), .val (.int (1 : Int32)), .val (.int (own_jk p6)), .val (.ref b7), .val (.ref (T11.heap.size)), .unset, .unset] [(.int (Int32.ofNat ([] ++ [(own_by (own_ch p3))]).length))])) _
    refine XS.iload X13.here hx rfl (hb hby at_146) rfl ?_
    show Steps p.tables e below (T13.setTop (mkF m 148 #[.val (.int p1), .val (.int p2), .val (.int p3), .val (.int p4), .val (.int p5), .val (.int p6), .val (.int (p1 &&& (3 : Int32))), .val (.int (p2 &&& (3 : Int32))), .val (.int (own_ch p3)), .val (.int (own_ch p4)), .val (.int (own_ch p5)), .val (.int (1 : Int32)), .val (.int (own_jk p6)), .val (.ref b7), .val (.ref (T11.heap.size)), .unset, .unset] [(.int (p2 &&& (3 : Int32))), (.int (Int32.ofNat ([] ++ [(own_by (own_ch p3))]).length))])) _
    refine XS.icmpNo X13.here hx rfl (hb hby at_148) rfl (teq (by rw [hn]; first | rfl | decide : (Int32.ofNat ([] ++ [(own_by (own_ch p3))]).length) = (p2 &&& (3 : Int32)))).2 ?_
    show Steps p.tables e below (T13.setTop (mkF m 151 #[.val (.int p1), .val (.int p2), .val (.int p3), .val (.int p4), .val (.int p5), .val (.int p6), .val (.int (p1 &&& (3 : Int32))), .val (.int (p2 &&& (3 : Int32))), .val (.int (own_ch p3)), .val (.int (own_ch p4)), .val (.int (own_ch p5)), .val (.int (1 : Int32)), .val (.int (own_jk p6)), .val (.ref b7), .val (.ref (T11.heap.size)), .unset, .unset] [])) _
    refine XS.aload X13.here hx rfl (hb hby at_151) rfl rfl ?_
    show Steps p.tables e below (T13.setTop (mkF m 153 #[.val (.int p1), .val (.int p2), .val (.int p3), .val (.int p4), .val (.int p5), .val (.int p6), .val (.int (p1 &&& (3 : Int32))), .val (.int (p2 &&& (3 : Int32))), .val (.int (own_ch p3)), .val (.int (own_ch p4)), .val (.int (own_ch p5)), .val (.int (1 : Int32)), .val (.int (own_jk p6)), .val (.ref b7), .val (.ref (T11.heap.size)), .unset, .unset] [(.ref (T11.heap.size))])) _
    refine XS.iload X13.here hx rfl (hb hby at_153) rfl ?_
    show Steps p.tables e below (T13.setTop (mkF m 155 #[.val (.int p1), .val (.int p2), .val (.int p3), .val (.int p4), .val (.int p5), .val (.int p6), .val (.int (p1 &&& (3 : Int32))), .val (.int (p2 &&& (3 : Int32))), .val (.int (own_ch p3)), .val (.int (own_ch p4)), .val (.int (own_ch p5)), .val (.int (1 : Int32)), .val (.int (own_jk p6)), .val (.ref b7), .val (.ref (T11.heap.size)), .unset, .unset] [(.int (p2 &&& (3 : Int32))), (.ref (T11.heap.size))])) _
    refine XS.iload X13.here hx rfl (hb hby at_155) rfl ?_
    show Steps p.tables e below (T13.setTop (mkF m 157 #[.val (.int p1), .val (.int p2), .val (.int p3), .val (.int p4), .val (.int p5), .val (.int p6), .val (.int (p1 &&& (3 : Int32))), .val (.int (p2 &&& (3 : Int32))), .val (.int (own_ch p3)), .val (.int (own_ch p4)), .val (.int (own_ch p5)), .val (.int (1 : Int32)), .val (.int (own_jk p6)), .val (.ref b7), .val (.ref (T11.heap.size)), .unset, .unset] [(.int (own_ch p3)), (.int (p2 &&& (3 : Int32))), (.ref (T11.heap.size))])) _
    refine XS.iload X13.here hx rfl (hb hby at_157) rfl ?_
    show Steps p.tables e below (T13.setTop (mkF m 159 #[.val (.int p1), .val (.int p2), .val (.int p3), .val (.int p4), .val (.int p5), .val (.int p6), .val (.int (p1 &&& (3 : Int32))), .val (.int (p2 &&& (3 : Int32))), .val (.int (own_ch p3)), .val (.int (own_ch p4)), .val (.int (own_ch p5)), .val (.int (1 : Int32)), .val (.int (own_jk p6)), .val (.ref b7), .val (.ref (T11.heap.size)), .unset, .unset] [(.int (own_ch p4)), (.int (own_ch p3)), (.int (p2 &&& (3 : Int32))), (.ref (T11.heap.size))])) _
    refine XS.iload X13.here hx rfl (hb hby at_159) rfl ?_
    show Steps p.tables e below (T13.setTop (mkF m 161 #[.val (.int p1), .val (.int p2), .val (.int p3), .val (.int p4), .val (.int p5), .val (.int p6), .val (.int (p1 &&& (3 : Int32))), .val (.int (p2 &&& (3 : Int32))), .val (.int (own_ch p3)), .val (.int (own_ch p4)), .val (.int (own_ch p5)), .val (.int (1 : Int32)), .val (.int (own_jk p6)), .val (.ref b7), .val (.ref (T11.heap.size)), .unset, .unset] [(.int (own_ch p5)), (.int (own_ch p4)), (.int (own_ch p3)), (.int (p2 &&& (3 : Int32))), (.ref (T11.heap.size))])) _
    refine st14 _ ?_
    show Steps p.tables e below (T14.setTop (mkF m 164 #[.val (.int p1), .val (.int p2), .val (.int p3), .val (.int p4), .val (.int p5), .val (.int p6), .val (.int (p1 &&& (3 : Int32))), .val (.int (p2 &&& (3 : Int32))), .val (.int (own_ch p3)), .val (.int (own_ch p4)), .val (.int (own_ch p5)), .val (.int (1 : Int32)), .val (.int (own_jk p6)), .val (.ref b7), .val (.ref (T11.heap.size)), .unset, .unset] [(.int (1 : Int32))])) _
    refine XS.ifNo X14.here hx rfl (hb hby at_164) rfl ((if0 _ _).trans (feq (by decide : ¬ ((1 : Int32) = (0 : Int32)))).1) ?_
    show Steps p.tables e below (T14.setTop (mkF m 167 #[.val (.int p1), .val (.int p2), .val (.int p3), .val (.int p4), .val (.int p5), .val (.int p6), .val (.int (p1 &&& (3 : Int32))), .val (.int (p2 &&& (3 : Int32))), .val (.int (own_ch p3)), .val (.int (own_ch p4)), .val (.int (own_ch p5)), .val (.int (1 : Int32)), .val (.int (own_jk p6)), .val (.ref b7), .val (.ref (T11.heap.size)), .unset, .unset] [])) _
    refine XS.iconst X14.here hx rfl (hb hby at_167) ?_
    show Steps p.tables e below (T14.setTop (mkF m 168 #[.val (.int p1), .val (.int p2), .val (.int p3), .val (.int p4), .val (.int p5), .val (.int p6), .val (.int (p1 &&& (3 : Int32))), .val (.int (p2 &&& (3 : Int32))), .val (.int (own_ch p3)), .val (.int (own_ch p4)), .val (.int (own_ch p5)), .val (.int (1 : Int32)), .val (.int (own_jk p6)), .val (.ref b7), .val (.ref (T11.heap.size)), .unset, .unset] [(.int (1 : Int32))])) _
    refine XS.goto X14.here hx rfl (pc0 := 168) (pc' := 172) rfl (hb hby at_168) (by decide) (by decide) ?_
    show Steps p.tables e below (T14.setTop (mkF m 172 #[.val (.int p1), .val (.int p2), .val (.int p3), .val (.int p4), .val (.int p5), .val (.int p6), .val (.int (p1 &&& (3 : Int32))), .val (.int (p2 &&& (3 : Int32))), .val (.int (own_ch p3)), .val (.int (own_ch p4)), .val (.int (own_ch p5)), .val (.int (1 : Int32)), .val (.int (own_jk p6)), .val (.ref b7), .val (.ref (T11.heap.size)), .unset, .unset] [(.int (1 : Int32))])) _
    refine XS.istore X14.here hx rfl (hb hby at_172) rfl (l' := #[.val (.int p1), .val (.int p2), .val (.int p3), .val (.int p4), .val (.int p5), .val (.int p6), .val (.int (p1 &&& (3 : Int32))), .val (.int (p2 &&& (3 : Int32))), .val (.int (own_ch p3)), .val (.int (own_ch p4)), .val (.int (own_ch p5)), .val (.int (1 : Int32)), .val (.int (own_jk p6)), .val (.ref b7), .val (.ref (T11.heap.size)), .val (.int (1 : Int32)), .unset]) rfl ?_
    show Steps p.tables e below (T14.setTop (mkF m 174 #[.val (.int p1), .val (.int p2), .val (.int p3), .val (.int p4), .val (.int p5), .val (.int p6), .val (.int (p1 &&& (3 : Int32))), .val (.int (p2 &&& (3 : Int32))), .val (.int (own_ch p3)), .val (.int (own_ch p4)), .val (.int (own_ch p5)), .val (.int (1 : Int32)), .val (.int (own_jk p6)), .val (.ref b7), .val (.ref (T11.heap.size)), .val (.int (1 : Int32)), .unset] [])) _
    refine XS.iload X14.here hx rfl (hb hby at_174) rfl ?_
    show Steps p.tables e below (T14.setTop (mkF m 176 #[.val (.int p1), .val (.int p2), .val (.int p3), .val (.int p4), .val (.int p5), .val (.int p6), .val (.int (p1 &&& (3 : Int32))), .val (.int (p2 &&& (3 : Int32))), .val (.int (own_ch p3)), .val (.int (own_ch p4)), .val (.int (own_ch p5)), .val (.int (1 : Int32)), .val (.int (own_jk p6)), .val (.ref b7), .val (.ref (T11.heap.size)), .val (.int (1 : Int32)), .unset] [(.int (1 : Int32))])) _
    refine XS.ifYes X14.here hx rfl (pc0 := 176) (pc' := 181) rfl (hb hby at_176) rfl ((if0 _ _).trans (feq hc176).2) (by decide) (by decide) ?_
    show Steps p.tables e below (T14.setTop (mkF m 181 #[.val (.int p1), .val (.int p2), .val (.int p3), .val (.int p4), .val (.int p5), .val (.int p6), .val (.int (p1 &&& (3 : Int32))), .val (.int (p2 &&& (3 : Int32))), .val (.int (own_ch p3)), .val (.int (own_ch p4)), .val (.int (own_ch p5)), .val (.int (1 : Int32)), .val (.int (own_jk p6)), .val (.ref b7), .val (.ref (T11.heap.size)), .val (.int (1 : Int32)), .unset] [])) _
    refine XS.iload X14.here hx rfl (hb hby at_181) rfl ?_
    show Steps p.tables e below (T14.setTop (mkF m 183 #[.val (.int p1), .val (.int p2), .val (.int p3), .val (.int p4), .val (.int p5), .val (.int p6), .val (.int (p1 &&& (3 : Int32))), .val (.int (p2 &&& (3 : Int32))), .val (.int (own_ch p3)), .val (.int (own_ch p4)), .val (.int (own_ch p5)), .val (.int (1 : Int32)), .val (.int (own_jk p6)), .val (.ref b7), .val (.ref (T11.heap.size)), .val (.int (1 : Int32)), .unset] [(.int (p2 &&& (3 : Int32)))])) _
    refine XS.ifNo X14.here hx rfl (hb hby at_183) rfl ((if0 _ _).trans (tlt hc183).2.2.2) ?_
    show Steps p.tables e below (T14.setTop (mkF m 186 #[.val (.int p1), .val (.int p2), .val (.int p3), .val (.int p4), .val (.int p5), .val (.int p6), .val (.int (p1 &&& (3 : Int32))), .val (.int (p2 &&& (3 : Int32))), .val (.int (own_ch p3)), .val (.int (own_ch p4)), .val (.int (own_ch p5)), .val (.int (1 : Int32)), .val (.int (own_jk p6)), .val (.ref b7), .val (.ref (T11.heap.size)), .val (.int (1 : Int32)), .unset] [])) _
    refine XS.aload X14.here hx rfl (hb hby at_186) rfl rfl ?_
    show Steps p.tables e below (T14.setTop (mkF m 188 #[.val (.int p1), .val (.int p2), .val (.int p3), .val (.int p4), .val (.int p5), .val (.int p6), .val (.int (p1 &&& (3 : Int32))), .val (.int (p2 &&& (3 : Int32))), .val (.int (own_ch p3)), .val (.int (own_ch p4)), .val (.int (own_ch p5)), .val (.int (1 : Int32)), .val (.int (own_jk p6)), .val (.ref b7), .val (.ref (T11.heap.size)), .val (.int (1 : Int32)), .unset] [(.ref (T11.heap.size))])) _
    refine XS.iconst X14.here hx rfl (hb hby at_188) ?_
    show Steps p.tables e below (T14.setTop (mkF m 189 #[.val (.int p1), .val (.int p2), .val (.int p3), .val (.int p4), .val (.int p5), .val (.int p6), .val (.int (p1 &&& (3 : Int32))), .val (.int (p2 &&& (3 : Int32))), .val (.int (own_ch p3)), .val (.int (own_ch p4)), .val (.int (own_ch p5)), .val (.int (1 : Int32)), .val (.int (own_jk p6)), .val (.ref b7), .val (.ref (T11.heap.size)), .val (.int (1 : Int32)), .unset] [(.int (0 : Int32)), (.ref (T11.heap.size))])) _
    refine XS.aload X14.here hx rfl (hb hby at_189) rfl rfl ?_
    show Steps p.tables e below (T14.setTop (mkF m 191 #[.val (.int p1), .val (.int p2), .val (.int p3), .val (.int p4), .val (.int p5), .val (.int p6), .val (.int (p1 &&& (3 : Int32))), .val (.int (p2 &&& (3 : Int32))), .val (.int (own_ch p3)), .val (.int (own_ch p4)), .val (.int (own_ch p5)), .val (.int (1 : Int32)), .val (.int (own_jk p6)), .val (.ref b7), .val (.ref (T11.heap.size)), .val (.int (1 : Int32)), .unset] [(.ref (T11.heap.size)), (.int (0 : Int32)), (.ref (T11.heap.size))])) _
    refine XS.iconst X14.here hx rfl (hb hby at_191) ?_
    show Steps p.tables e below (T14.setTop (mkF m 192 #[.val (.int p1), .val (.int p2), .val (.int p3), .val (.int p4), .val (.int p5), .val (.int p6), .val (.int (p1 &&& (3 : Int32))), .val (.int (p2 &&& (3 : Int32))), .val (.int (own_ch p3)), .val (.int (own_ch p4)), .val (.int (own_ch p5)), .val (.int (1 : Int32)), .val (.int (own_jk p6)), .val (.ref b7), .val (.ref (T11.heap.size)), .val (.int (1 : Int32)), .unset] [(.int (0 : Int32)), (.ref (T11.heap.size)), (.int (0 : Int32)), (.ref (T11.heap.size))])) _
    refine X14.baloadBytes hx (j := (0 : Int32)) (v := (.int (own_by (own_ch p3)))) (by rw [hh14]; exact Arr1.1) (State.isArrayOf_alike hZ.alike Arr1.2.1) Arr1.2.2 hin192 hat192 (g := (mkF m 192 #[.val (.int p1), .val (.int p2), .val (.int p3), .val (.int p4), .val (.int p5), .val (.int p6), .val (.int (p1 &&& (3 : Int32))), .val (.int (p2 &&& (3 : Int32))), .val (.int (own_ch p3)), .val (.int (own_ch p4)), .val (.int (own_ch p5)), .val (.int (1 : Int32)), .val (.int (own_jk p6)), .val (.ref b7), .val (.ref (T11.heap.size)), .val (.int (1 : Int32)), .unset] [(.int (0 : Int32)), (.ref (T11.heap.size)), (.int (0 : Int32)), (.ref (T11.heap.size))])) rfl rfl (hb hby at_192) _ ?_
    show Steps p.tables e below (T14.setTop (mkF m 193 #[.val (.int p1), .val (.int p2), .val (.int p3), .val (.int p4), .val (.int p5), .val (.int p6), .val (.int (p1 &&& (3 : Int32))), .val (.int (p2 &&& (3 : Int32))), .val (.int (own_ch p3)), .val (.int (own_ch p4)), .val (.int (own_ch p5)), .val (.int (1 : Int32)), .val (.int (own_jk p6)), .val (.ref b7), .val (.ref (T11.heap.size)), .val (.int (1 : Int32)), .unset] [(.int (own_by (own_ch p3))), (.int (0 : Int32)), (.ref (T11.heap.size))])) _
    refine XS.bipush X14.here hx rfl (hb hby at_193) ?_
    show Steps p.tables e below (T14.setTop (mkF m 195 #[.val (.int p1), .val (.int p2), .val (.int p3), .val (.int p4), .val (.int p5), .val (.int p6), .val (.int (p1 &&& (3 : Int32))), .val (.int (p2 &&& (3 : Int32))), .val (.int (own_ch p3)), .val (.int (own_ch p4)), .val (.int (own_ch p5)), .val (.int (1 : Int32)), .val (.int (own_jk p6)), .val (.ref b7), .val (.ref (T11.heap.size)), .val (.int (1 : Int32)), .unset] [(.int (64 : Int32)), (.int (own_by (own_ch p3))), (.int (0 : Int32)), (.ref (T11.heap.size))])) _
    refine XS.ixor X14.here hx rfl (hb hby at_195) rfl ?_
    show Steps p.tables e below (T14.setTop (mkF m 196 #[.val (.int p1), .val (.int p2), .val (.int p3), .val (.int p4), .val (.int p5), .val (.int p6), .val (.int (p1 &&& (3 : Int32))), .val (.int (p2 &&& (3 : Int32))), .val (.int (own_ch p3)), .val (.int (own_ch p4)), .val (.int (own_ch p5)), .val (.int (1 : Int32)), .val (.int (own_jk p6)), .val (.ref b7), .val (.ref (T11.heap.size)), .val (.int (1 : Int32)), .unset] [(.int ((own_by (own_ch p3)) ^^^ (64 : Int32))), (.int (0 : Int32)), (.ref (T11.heap.size))])) _
    refine XS.i2b X14.here hx rfl (hb hby at_196) rfl ?_
    show Steps p.tables e below (T14.setTop (mkF m 197 #[.val (.int p1), .val (.int p2), .val (.int p3), .val (.int p4), .val (.int p5), .val (.int p6), .val (.int (p1 &&& (3 : Int32))), .val (.int (p2 &&& (3 : Int32))), .val (.int (own_ch p3)), .val (.int (own_ch p4)), .val (.int (own_ch p5)), .val (.int (1 : Int32)), .val (.int (own_jk p6)), .val (.ref b7), .val (.ref (T11.heap.size)), .val (.int (1 : Int32)), .unset] [(.int (((own_by (own_ch p3)) ^^^ (64 : Int32)).toInt8.toInt32)), (.int (0 : Int32)), (.ref (T11.heap.size))])) _
    refine st16 _ ?_
    show Steps p.tables e below (T16.setTop (mkF m 198 #[.val (.int p1), .val (.int p2), .val (.int p3), .val (.int p4), .val (.int p5), .val (.int p6), .val (.int (p1 &&& (3 : Int32))), .val (.int (p2 &&& (3 : Int32))), .val (.int (own_ch p3)), .val (.int (own_ch p4)), .val (.int (own_ch p5)), .val (.int (1 : Int32)), .val (.int (own_jk p6)), .val (.ref b7), .val (.ref (T11.heap.size)), .val (.int (1 : Int32)), .unset] [])) _
    refine XS.aload X16.here hx rfl (hb hby at_198) rfl rfl ?_
    show Steps p.tables e below (T16.setTop (mkF m 200 #[.val (.int p1), .val (.int p2), .val (.int p3), .val (.int p4), .val (.int p5), .val (.int p6), .val (.int (p1 &&& (3 : Int32))), .val (.int (p2 &&& (3 : Int32))), .val (.int (own_ch p3)), .val (.int (own_ch p4)), .val (.int (own_ch p5)), .val (.int (1 : Int32)), .val (.int (own_jk p6)), .val (.ref b7), .val (.ref (T11.heap.size)), .val (.int (1 : Int32)), .unset] [(.ref b7)])) _
    refine st17.trans ?_
    show Steps p.tables e below (T17.setTop (mkF m 203 #[.val (.int p1), .val (.int p2), .val (.int p3), .val (.int p4), .val (.int p5), .val (.int p6), .val (.int (p1 &&& (3 : Int32))), .val (.int (p2 &&& (3 : Int32))), .val (.int (own_ch p3)), .val (.int (own_ch p4)), .val (.int (own_ch p5)), .val (.int (1 : Int32)), .val (.int (own_jk p6)), .val (.ref b7), .val (.ref (T11.heap.size)), .val (.int (1 : Int32)), .unset] [(.ref (h16.size))])) _
    refine XS.astore X17.here hx rfl (hb hby at_203) rfl rfl (l' := #[.val (.int p1), .val (.int p2), .val (.int p3), .val (.int p4), .val (.int p5), .val (.int p6), .val (.int (p1 &&& (3 : Int32))), .val (.int (p2 &&& (3 : Int32))), .val (.int (own_ch p3)), .val (.int (own_ch p4)), .val (.int (own_ch p5)), .val (.int (1 : Int32)), .val (.int (own_jk p6)), .val (.ref b7), .val (.ref (T11.heap.size)), .val (.int (1 : Int32)), .val (.ref (h16.size))]) rfl ?_
    show Steps p.tables e below (T17.setTop (mkF m 205 #[.val (.int p1), .val (.int p2), .val (.int p3), .val (.int p4), .val (.int p5), .val (.int p6), .val (.int (p1 &&& (3 : Int32))), .val (.int (p2 &&& (3 : Int32))), .val (.int (own_ch p3)), .val (.int (own_ch p4)), .val (.int (own_ch p5)), .val (.int (1 : Int32)), .val (.int (own_jk p6)), .val (.ref b7), .val (.ref (T11.heap.size)), .val (.int (1 : Int32)), .val (.ref (h16.size))] [])) _
    refine XS.aload X17.here hx rfl (hb hby at_205) rfl rfl ?_
    show Steps p.tables e below (T17.setTop (mkF m 207 #[.val (.int p1), .val (.int p2), .val (.int p3), .val (.int p4), .val (.int p5), .val (.int p6), .val (.int (p1 &&& (3 : Int32))), .val (.int (p2 &&& (3 : Int32))), .val (.int (own_ch p3)), .val (.int (own_ch p4)), .val (.int (own_ch p5)), .val (.int (1 : Int32)), .val (.int (own_jk p6)), .val (.ref b7), .val (.ref (T11.heap.size)), .val (.int (1 : Int32)), .val (.ref (h16.size))] [(.ref (h16.size))])) _
    refine X17.arraylength hx (by exact Arr2.1) (State.isArrayOf_alike hZ.alike Arr2.2.1) (g := (mkF m 207 #[.val (.int p1), .val (.int p2), .val (.int p3), .val (.int p4), .val (.int p5), .val (.int p6), .val (.int (p1 &&& (3 : Int32))), .val (.int (p2 &&& (3 : Int32))), .val (.int (own_ch p3)), .val (.int (own_ch p4)), .val (.int (own_ch p5)), .val (.int (1 : Int32)), .val (.int (own_jk p6)), .val (.ref b7), .val (.ref (T11.heap.size)), .val (.int (1 : Int32)), .val (.ref (h16.size))] [(.ref (h16.size))])) rfl rfl (hb hby at_207) _ ?_
    rw [len_of Sr2 Nr2]
    show Steps p.tables e below (T17.setTop (mkF m 208 #[.val (.int p1), .val (.int p2), .val (.int p3), .val (.int p4), .val (.int p5), .val (.int p6), .val (.int (p1 &&& (3 : Int32))), .val (.int (p2 &&& (3 : Int32))), .val (.int (own_ch p3)), .val (.int (own_ch p4)), .val (.int (own_ch p5)), .val (.int (1 : Int32)), .val (.int (own_jk p6)), .val (.ref b7), .val (.ref (T11.heap.size)), .val (.int (1 : Int32)), .val (.ref (h16.size))] [(.int (Int32.ofNat ([] ++ [(own_by (own_ch p3))]).length))])) _
    refine XS.iload X17.here hx rfl (hb hby at_208) rfl ?_
    show Steps p.tables e below (T17.setTop (mkF m 210 #[.val (.int p1), .val (.int p2), .val (.int p3), .val (.int p4), .val (.int p5), .val (.int p6), .val (.int (p1 &&& (3 : Int32))), .val (.int (p2 &&& (3 : Int32))), .val (.int (own_ch p3)), .val (.int (own_ch p4)), .val (.int (own_ch p5)), .val (.int (1 : Int32)), .val (.int (own_jk p6)), .val (.ref b7), .val (.ref (T11.heap.size)), .val (.int (1 : Int32)), .val (.ref (h16.size))] [(.int (p2 &&& (3 : Int32))), (.int (Int32.ofNat ([] ++ [(own_by (own_ch p3))]).length))])) _
    refine XS.icmpNo X17.here hx rfl (hb hby at_210) rfl (teq (by rw [hn]; first | rfl | decide : (Int32.ofNat ([] ++ [(own_by (own_ch p3))]).length) = (p2 &&& (3 : Int32)))).2 ?_
    show Steps p.tables e below (T17.setTop (mkF m 213 #[.val (.int p1), .val (.int p2), .val (.int p3), .val (.int p4), .val (.int p5), .val (.int p6), .val (.int (p1 &&& (3 : Int32))), .val (.int (p2 &&& (3 : Int32))), .val (.int (own_ch p3)), .val (.int (own_ch p4)), .val (.int (own_ch p5)), .val (.int (1 : Int32)), .val (.int (own_jk p6)), .val (.ref b7), .val (.ref (T11.heap.size)), .val (.int (1 : Int32)), .val (.ref (h16.size))] [])) _
    refine XS.aload X17.here hx rfl (hb hby at_213) rfl rfl ?_
    show Steps p.tables e below (T17.setTop (mkF m 215 #[.val (.int p1), .val (.int p2), .val (.int p3), .val (.int p4), .val (.int p5), .val (.int p6), .val (.int (p1 &&& (3 : Int32))), .val (.int (p2 &&& (3 : Int32))), .val (.int (own_ch p3)), .val (.int (own_ch p4)), .val (.int (own_ch p5)), .val (.int (1 : Int32)), .val (.int (own_jk p6)), .val (.ref b7), .val (.ref (T11.heap.size)), .val (.int (1 : Int32)), .val (.ref (h16.size))] [(.ref (h16.size))])) _
    refine XS.iload X17.here hx rfl (hb hby at_215) rfl ?_
    show Steps p.tables e below (T17.setTop (mkF m 217 #[.val (.int p1), .val (.int p2), .val (.int p3), .val (.int p4), .val (.int p5), .val (.int p6), .val (.int (p1 &&& (3 : Int32))), .val (.int (p2 &&& (3 : Int32))), .val (.int (own_ch p3)), .val (.int (own_ch p4)), .val (.int (own_ch p5)), .val (.int (1 : Int32)), .val (.int (own_jk p6)), .val (.ref b7), .val (.ref (T11.heap.size)), .val (.int (1 : Int32)), .val (.ref (h16.size))] [(.int (p2 &&& (3 : Int32))), (.ref (h16.size))])) _
    refine XS.iload X17.here hx rfl (hb hby at_217) rfl ?_
    show Steps p.tables e below (T17.setTop (mkF m 219 #[.val (.int p1), .val (.int p2), .val (.int p3), .val (.int p4), .val (.int p5), .val (.int p6), .val (.int (p1 &&& (3 : Int32))), .val (.int (p2 &&& (3 : Int32))), .val (.int (own_ch p3)), .val (.int (own_ch p4)), .val (.int (own_ch p5)), .val (.int (1 : Int32)), .val (.int (own_jk p6)), .val (.ref b7), .val (.ref (T11.heap.size)), .val (.int (1 : Int32)), .val (.ref (h16.size))] [(.int (own_ch p3)), (.int (p2 &&& (3 : Int32))), (.ref (h16.size))])) _
    refine XS.iload X17.here hx rfl (hb hby at_219) rfl ?_
    show Steps p.tables e below (T17.setTop (mkF m 221 #[.val (.int p1), .val (.int p2), .val (.int p3), .val (.int p4), .val (.int p5), .val (.int p6), .val (.int (p1 &&& (3 : Int32))), .val (.int (p2 &&& (3 : Int32))), .val (.int (own_ch p3)), .val (.int (own_ch p4)), .val (.int (own_ch p5)), .val (.int (1 : Int32)), .val (.int (own_jk p6)), .val (.ref b7), .val (.ref (T11.heap.size)), .val (.int (1 : Int32)), .val (.ref (h16.size))] [(.int (own_ch p4)), (.int (own_ch p3)), (.int (p2 &&& (3 : Int32))), (.ref (h16.size))])) _
    refine XS.iload X17.here hx rfl (hb hby at_221) rfl ?_
    show Steps p.tables e below (T17.setTop (mkF m 223 #[.val (.int p1), .val (.int p2), .val (.int p3), .val (.int p4), .val (.int p5), .val (.int p6), .val (.int (p1 &&& (3 : Int32))), .val (.int (p2 &&& (3 : Int32))), .val (.int (own_ch p3)), .val (.int (own_ch p4)), .val (.int (own_ch p5)), .val (.int (1 : Int32)), .val (.int (own_jk p6)), .val (.ref b7), .val (.ref (T11.heap.size)), .val (.int (1 : Int32)), .val (.ref (h16.size))] [(.int (own_ch p5)), (.int (own_ch p4)), (.int (own_ch p3)), (.int (p2 &&& (3 : Int32))), (.ref (h16.size))])) _
    refine st18 _ ?_
    show Steps p.tables e below (T18.setTop (mkF m 226 #[.val (.int p1), .val (.int p2), .val (.int p3), .val (.int p4), .val (.int p5), .val (.int p6), .val (.int (p1 &&& (3 : Int32))), .val (.int (p2 &&& (3 : Int32))), .val (.int (own_ch p3)), .val (.int (own_ch p4)), .val (.int (own_ch p5)), .val (.int (1 : Int32)), .val (.int (own_jk p6)), .val (.ref b7), .val (.ref (T11.heap.size)), .val (.int (1 : Int32)), .val (.ref (h16.size))] [(.int (1 : Int32))])) _
    refine XS.ifNo X18.here hx rfl (hb hby at_226) rfl ((if0 _ _).trans (feq (by decide : ¬ ((1 : Int32) = (0 : Int32)))).1) ?_
    show Steps p.tables e below (T18.setTop (mkF m 229 #[.val (.int p1), .val (.int p2), .val (.int p3), .val (.int p4), .val (.int p5), .val (.int p6), .val (.int (p1 &&& (3 : Int32))), .val (.int (p2 &&& (3 : Int32))), .val (.int (own_ch p3)), .val (.int (own_ch p4)), .val (.int (own_ch p5)), .val (.int (1 : Int32)), .val (.int (own_jk p6)), .val (.ref b7), .val (.ref (T11.heap.size)), .val (.int (1 : Int32)), .val (.ref (h16.size))] [])) _
    refine XS.iconst X18.here hx rfl (hb hby at_229) ?_
    show Steps p.tables e below (T18.setTop (mkF m 230 #[.val (.int p1), .val (.int p2), .val (.int p3), .val (.int p4), .val (.int p5), .val (.int p6), .val (.int (p1 &&& (3 : Int32))), .val (.int (p2 &&& (3 : Int32))), .val (.int (own_ch p3)), .val (.int (own_ch p4)), .val (.int (own_ch p5)), .val (.int (1 : Int32)), .val (.int (own_jk p6)), .val (.ref b7), .val (.ref (T11.heap.size)), .val (.int (1 : Int32)), .val (.ref (h16.size))] [(.int (1 : Int32))])) _
    refine XS.goto X18.here hx rfl (pc0 := 230) (pc' := 234) rfl (hb hby at_230) (by decide) (by decide) ?_
    show Steps p.tables e below (T18.setTop (mkF m 234 #[.val (.int p1), .val (.int p2), .val (.int p3), .val (.int p4), .val (.int p5), .val (.int p6), .val (.int (p1 &&& (3 : Int32))), .val (.int (p2 &&& (3 : Int32))), .val (.int (own_ch p3)), .val (.int (own_ch p4)), .val (.int (own_ch p5)), .val (.int (1 : Int32)), .val (.int (own_jk p6)), .val (.ref b7), .val (.ref (T11.heap.size)), .val (.int (1 : Int32)), .val (.ref (h16.size))] [(.int (1 : Int32))])) _
    exact retN X18 hx (t := .boolean) Bd.returns (by simp) (hb hby at_234) hr
  · show Q0 h0 n0 _ T18.heap _
    exact ⟨rfl, N18⟩
set_option maxRecDepth 65536 in
set_option maxHeartbeats 40000000 in
theorem rm0_c1n2 (l : Launch) (Z : State) (a0 : Array Value) (hw : ∀ d ∈ tables_1, d.before a0 Z = true) (ws : List Jvm.Cond) (p1 : Int32) (p2 : Int32) (p3 : Int32) (p4 : Int32) (p5 : Int32) (p6 : Int32) (h0 : Heap) (n0 : Nat) (Z0 : n0 ≤ h0.size) (cap : Nat) (hcap : (p1 &&& (3 : Int32)) = Int32.ofNat cap) (hcap3 : cap ≤ 3) (hn : (p2 &&& (3 : Int32)) = (2 : Int32)) (hc36 : ¬ ((p6 &&& (1 : Int32)) = (0 : Int32))) :
    MetFree l x (head1 (Jvm.Cond.code x code maxLocals ret :: ws) room_1) (fun a U => a = #[(.int p1), (.int p2), (.int p3), (.int p4), (.int p5), (.int p6)] ∧ Z.Warmed39 U.vm ∧ U.heap = h0) (fun _ _ _ _ _ => True) (fun _ U o U' => ∃ v L, o = .returned v ∧ Q0 h0 n0 v U'.heap L ∧ FrameEnd U o U' L room_1.cells room_1.slots) := by
  have hc87 : (0 : Int32) < (p2 &&& (3 : Int32)) := by rw [hn]; decide
  have hc101 : (1 : Int32) < (p2 &&& (3 : Int32)) := by rw [hn]; decide
  have hc115 : ¬ ((2 : Int32) < (p2 &&& (3 : Int32))) := by rw [hn]; decide
  have hc183 : (0 : Int32) < (p2 &&& (3 : Int32)) := by rw [hn]; decide
  have hc69 : ¬ ((1 : Int32) = (0 : Int32)) := by decide
  have hc176 : ¬ ((1 : Int32) = (0 : Int32)) := by decide
  refine MetFree.of_bodySF (plainFor_of_name pn_0) hisR ?_
  intro p e s m args below meth c s₁ Bd hml0 hP hK
  obtain ⟨rfl, hZ, hh⟩ := hP
  have hx := Bd.exec
  have hby := Bd.bytes
  have hml : c.maxLocals = 17 := hml0
  have hown : s.vm.findClass "com/example/acompte/acompte/Utf8BuilderToByteArrayPinLaw" = some m.cls := findClass_of_methodNamed Bd.named
  have hnm := (name_of_methodNamed Bd.named Bd.method).1
  have X0 : Stand p l e room_1 s m #[(.int p1), (.int p2), (.int p3), (.int p4), (.int p5), (.int p6)] below meth c s₁ [] 0 0 := Stand.of_body Bd
  have e0 : s₁.heap = h0 := by rw [← hh, Bd.state]; rfl
  have N0 := Fr.nil n0
  have pre0 : ∀ t, Steps p.tables e below (s₁.setTop (mkF m 0 #[.val (.int p1), .val (.int p2), .val (.int p3), .val (.int p4), .val (.int p5), .val (.int p6), .unset, .unset, .unset, .unset, .unset, .unset, .unset, .unset, .unset, .unset, .unset] [])) t → Steps p.tables e below (s₁.setTop (entryFrame m #[(.int p1), (.int p2), (.int p3), (.int p4), (.int p5), (.int p6)] maxLocals)) t := fun t k => castTop (ef_0 m p1 p2 p3 p4 p5 p6) k
  -- 3. LAWS
  obtain ⟨T7, h7, X7, e7, E7, A7, D7, -, st7⟩ := newO X0 hx hZ hown (hw _ (List.mem_of_getElem? (i := 0) rfl)) (hw _ (List.mem_of_getElem? (i := 1) rfl)) (hw _ (List.mem_of_getElem? (i := 2) rfl)) e0 (g := (mkF m 56 #[.val (.int p1), .val (.int p2), .val (.int p3), .val (.int p4), .val (.int p5), .val (.int p6), .val (.int (p1 &&& (3 : Int32))), .val (.int (p2 &&& (3 : Int32))), .val (.int (own_ch p3)), .val (.int (own_ch p4)), .val (.int (own_ch p5)), .val (.int (1 : Int32)), .val (.int (own_jk p6)), .unset, .unset, .unset, .unset] [])) rfl (hb hby at_56) (by decide) (by decide)
  obtain ⟨b7, g7⟩ : ∃ z, z = h0.size := ⟨_, rfl⟩      -- the fresh object's address
  rw [← g7] at A7 D7 st7      -- A7 : Exa Z h7 b7 "com/example/acompte/acompte/Utf8Builder"; E7 : Ext h0 h7 (carries every older fact: .ext E7)
  have F_bytes_b7 : Fld Z h7 b7 "com/example/acompte/acompte/Utf8Builder" "bytes" "[B" .null := D7 (Or.inl (hw _ (List.mem_of_getElem? (i := 11) rfl))) (ty := (.array .byte)) (by decide)
  have F_length_b7 : Fld Z h7 b7 "com/example/acompte/acompte/Utf8Builder" "length" "I" (.int (0 : Int32)) := D7 (Or.inl (hw _ (List.mem_of_getElem? (i := 22) rfl))) (ty := .int) (by decide)
  have E_b7 := A7
  have g_b7 : n0 ≤ b7 := Nat.le_trans Z0 (Nat.le_of_eq g7.symm)
  obtain ⟨_, _, ⟨T8, L8, k8, n8⟩, -, X8, ⟨Lc8, hQ8, l8, y8, z8⟩, st8⟩ := X7.specialBack hx (y := (⟨"com/example/acompte/acompte/Utf8Builder", "<init>", "(I)V"⟩ : MethodName)) rfl hown (mvT hZ (hw _ (List.mem_of_getElem? (i := 3) rfl))) (mvT hZ (hw _ (List.mem_of_getElem? (i := 4) rfl))) (mvT hZ (hw _ (List.mem_of_getElem? (i := 5) rfl))) (by decide) (backOf (W := 1) (rm1_i l Z a0 hw [] b7 (p1 &&& (3 : Int32)) .null cap h7 n0 (Nat.le_trans Z0 E7.1) E_b7 F_bytes_b7 F_length_b7 g_b7 hcap hcap3) hZ (hw _ (List.mem_of_getElem? (i := 5) rfl)) (hw _ (List.mem_of_getElem? (i := 2) rfl)) (by decide) (by decide)) (g := (mkF m 62 #[.val (.int p1), .val (.int p2), .val (.int p3), .val (.int p4), .val (.int p5), .val (.int p6), .val (.int (p1 &&& (3 : Int32))), .val (.int (p2 &&& (3 : Int32))), .val (.int (own_ch p3)), .val (.int (own_ch p4)), .val (.int (own_ch p5)), .val (.int (1 : Int32)), .val (.int (own_jk p6)), .unset, .unset, .unset, .unset] [(.int (p1 &&& (3 : Int32))), (.ref b7), (.ref b7)])) rfl (by rw [hml]; rfl) (Steps.refl _) (a := b7) (argsL := [(.int (p1 &&& (3 : Int32)))]) (rest := [(.ref b7)]) (lenOf pdw_4 rfl) rfl (by show 2 * 0 + _ ≤ _; exact Nat.le_of_eq rfl) (hb hby at_62) (fun _ _ => ⟨rfl, e7, (by decide : 1 + 1 ≤ _), (by decide : 2 + 8 ≤ _)⟩)
  dsimp only [Pt.U, Pt.locs, Pt.cells, Pt.slots] at X8 l8 y8 z8 st8 hQ8
  subst l8 y8 z8
  obtain ⟨rfl, N8q, zh, BB⟩ := hQ8
  have ZB : n0 ≤ T8.heap.size := Nat.le_trans (Nat.le_trans Z0 E7.1) zh
  have EB := BB.exa
  have N8 := Fr.app N0 N8q
  obtain ⟨cq9, kq9, q9a, q9b, q9c⟩ := isOf hZ rfl EB
  obtain ⟨_, _, ⟨T9, L9, k9, n9⟩, -, X9, ⟨Lc9, hQ9, l9, y9, z9⟩, st9⟩ := X8.virtualBack hx (y := (⟨"com/example/acompte/acompte/Utf8Builder", "append", "(C)Lcom/example/acompte/acompte/Utf8Builder;"⟩ : MethodName)) (z := (⟨"com/example/acompte/acompte/Utf8Builder", "append", "(C)Lcom/example/acompte/acompte/Utf8Builder;"⟩ : MethodName)) hown (mvT hZ (hw _ (List.mem_of_getElem? (i := 12) rfl))) (mvT hZ (hw _ (List.mem_of_getElem? (i := 13) rfl))) (notFace_of_selects (args := #[]) (mvT hZ (hw _ (List.mem_of_getElem? (i := 15) rfl)))) (mvT hZ (hw _ (List.mem_of_getElem? (i := 15) rfl))) (mvT hZ (hw _ (List.mem_of_getElem? (i := 14) rfl))) (by decide) (backOf (W := 0) (rm3_a l Z a0 hw [] b7 (own_jk p6) cap [] T8.heap n0 ZB BB (by first | decide | simp)) hZ (hw _ (List.mem_of_getElem? (i := 16) rfl)) (hw _ (List.mem_of_getElem? (i := 2) rfl)) (by decide) (by decide)) q9a q9c (g := (mkF m 76 #[.val (.int p1), .val (.int p2), .val (.int p3), .val (.int p4), .val (.int p5), .val (.int p6), .val (.int (p1 &&& (3 : Int32))), .val (.int (p2 &&& (3 : Int32))), .val (.int (own_ch p3)), .val (.int (own_ch p4)), .val (.int (own_ch p5)), .val (.int (1 : Int32)), .val (.int (own_jk p6)), .val (.ref b7), .unset, .unset, .unset] [(.int (own_jk p6)), (.ref b7)])) rfl (by rw [hml]; rfl) (Steps.refl _) (argsL := [(.int (own_jk p6))]) (rest := []) (lenOf pdw_8 rfl) rfl (by show 2 * 0 + _ ≤ _; exact Nat.le_of_eq rfl) (hb hby at_76) (fun _ _ => ⟨rfl, rfl, (by decide : 2 + 1 ≤ _), (by decide : 10 + 8 ≤ _)⟩)
  dsimp only [Pt.U, Pt.locs, Pt.cells, Pt.slots] at X9 l9 y9 z9 st9 hQ9
  subst l9 y9 z9
  obtain ⟨rfl, N9q, zh, c9, BB⟩ := hQ9
  have ZB : n0 ≤ T9.heap.size := Nat.le_trans ZB zh
  have EB := BB.exa
  have N9 := Fr.app N8 N9q
  obtain ⟨cq10, kq10, q10a, q10b, q10c⟩ := isOf hZ rfl EB
  obtain ⟨_, _, ⟨T10, L10, k10, n10⟩, -, X10, ⟨Lc10, hQ10, l10, y10, z10⟩, st10⟩ := X9.virtualBack hx (y := (⟨"com/example/acompte/acompte/Utf8Builder", "clear", "()V"⟩ : MethodName)) (z := (⟨"com/example/acompte/acompte/Utf8Builder", "clear", "()V"⟩ : MethodName)) hown (mvT hZ (hw _ (List.mem_of_getElem? (i := 38) rfl))) (mvT hZ (hw _ (List.mem_of_getElem? (i := 39) rfl))) (notFace_of_selects (args := #[]) (mvT hZ (hw _ (List.mem_of_getElem? (i := 41) rfl)))) (mvT hZ (hw _ (List.mem_of_getElem? (i := 41) rfl))) (mvT hZ (hw _ (List.mem_of_getElem? (i := 40) rfl))) (by decide) (backOf (W := 0) (rm8_c l Z a0 hw [] b7 c9 ([] ++ [(own_by (own_jk p6))]) T9.heap n0 ZB BB) hZ (hw _ (List.mem_of_getElem? (i := 42) rfl)) (hw _ (List.mem_of_getElem? (i := 2) rfl)) (by decide) (by decide)) q10a q10c (g := (mkF m 82 #[.val (.int p1), .val (.int p2), .val (.int p3), .val (.int p4), .val (.int p5), .val (.int p6), .val (.int (p1 &&& (3 : Int32))), .val (.int (p2 &&& (3 : Int32))), .val (.int (own_ch p3)), .val (.int (own_ch p4)), .val (.int (own_ch p5)), .val (.int (1 : Int32)), .val (.int (own_jk p6)), .val (.ref b7), .unset, .unset, .unset] [(.ref b7)])) rfl (by rw [hml]; rfl) (Steps.refl _) (argsL := []) (rest := []) (lenOf pdw_9 rfl) rfl (by show 2 * 0 + _ ≤ _; exact Nat.le_of_eq rfl) (hb hby at_82) (fun _ _ => ⟨rfl, rfl, (by decide : 3 + 0 ≤ _), (by decide : 18 + 0 ≤ _)⟩)
  dsimp only [Pt.U, Pt.locs, Pt.cells, Pt.slots] at X10 l10 y10 z10 st10 hQ10
  subst l10 y10 z10
  obtain ⟨rfl, N10q, zh, BB⟩ := hQ10
  have ZB : n0 ≤ T10.heap.size := Nat.le_trans ZB zh
  have EB := BB.exa
  have N10 := Fr.app N9 N10q
  obtain ⟨cq11, kq11, q11a, q11b, q11c⟩ := isOf hZ rfl EB
  obtain ⟨_, _, ⟨T11, L11, k11, n11⟩, -, X11, ⟨Lc11, hQ11, l11, y11, z11⟩, st11⟩ := X10.virtualBack hx (y := (⟨"com/example/acompte/acompte/Utf8Builder", "append", "(C)Lcom/example/acompte/acompte/Utf8Builder;"⟩ : MethodName)) (z := (⟨"com/example/acompte/acompte/Utf8Builder", "append", "(C)Lcom/example/acompte/acompte/Utf8Builder;"⟩ : MethodName)) hown (mvT hZ (hw _ (List.mem_of_getElem? (i := 12) rfl))) (mvT hZ (hw _ (List.mem_of_getElem? (i := 13) rfl))) (notFace_of_selects (args := #[]) (mvT hZ (hw _ (List.mem_of_getElem? (i := 15) rfl)))) (mvT hZ (hw _ (List.mem_of_getElem? (i := 15) rfl))) (mvT hZ (hw _ (List.mem_of_getElem? (i := 14) rfl))) (by decide) (backOf (W := 0) (rm3_a l Z a0 hw [] b7 (own_ch p3) c9 [] T10.heap n0 ZB BB (by first | decide | simp)) hZ (hw _ (List.mem_of_getElem? (i := 16) rfl)) (hw _ (List.mem_of_getElem? (i := 2) rfl)) (by decide) (by decide)) q11a q11c (g := (mkF m 94 #[.val (.int p1), .val (.int p2), .val (.int p3), .val (.int p4), .val (.int p5), .val (.int p6), .val (.int (p1 &&& (3 : Int32))), .val (.int (p2 &&& (3 : Int32))), .val (.int (own_ch p3)), .val (.int (own_ch p4)), .val (.int (own_ch p5)), .val (.int (1 : Int32)), .val (.int (own_jk p6)), .val (.ref b7), .unset, .unset, .unset] [(.int (own_ch p3)), (.ref b7)])) rfl (by rw [hml]; rfl) (Steps.refl _) (argsL := [(.int (own_ch p3))]) (rest := []) (lenOf pdw_8 rfl) rfl (by show 2 * 0 + _ ≤ _; exact Nat.le_of_eq rfl) (hb hby at_94) (fun _ _ => ⟨rfl, rfl, (by decide : 3 + 1 ≤ _), (by decide : 18 + 8 ≤ _)⟩)
  dsimp only [Pt.U, Pt.locs, Pt.cells, Pt.slots] at X11 l11 y11 z11 st11 hQ11
  subst l11 y11 z11
  obtain ⟨rfl, N11q, zh, c11, BB⟩ := hQ11
  have ZB : n0 ≤ T11.heap.size := Nat.le_trans ZB zh
  have EB := BB.exa
  have N11 := Fr.app N10 N11q
  obtain ⟨cq12, kq12, q12a, q12b, q12c⟩ := isOf hZ rfl EB
  obtain ⟨_, _, ⟨T12, L12, k12, n12⟩, -, X12, ⟨Lc12, hQ12, l12, y12, z12⟩, st12⟩ := X11.virtualBack hx (y := (⟨"com/example/acompte/acompte/Utf8Builder", "append", "(C)Lcom/example/acompte/acompte/Utf8Builder;"⟩ : MethodName)) (z := (⟨"com/example/acompte/acompte/Utf8Builder", "append", "(C)Lcom/example/acompte/acompte/Utf8Builder;"⟩ : MethodName)) hown (mvT hZ (hw _ (List.mem_of_getElem? (i := 12) rfl))) (mvT hZ (hw _ (List.mem_of_getElem? (i := 13) rfl))) (notFace_of_selects (args := #[]) (mvT hZ (hw _ (List.mem_of_getElem? (i := 15) rfl)))) (mvT hZ (hw _ (List.mem_of_getElem? (i := 15) rfl))) (mvT hZ (hw _ (List.mem_of_getElem? (i := 14) rfl))) (by decide) (backOf (W := 0) (rm3_a l Z a0 hw [] b7 (own_ch p4) c11 ([] ++ [(own_by (own_ch p3))]) T11.heap n0 ZB BB (by first | decide | simp)) hZ (hw _ (List.mem_of_getElem? (i := 16) rfl)) (hw _ (List.mem_of_getElem? (i := 2) rfl)) (by decide) (by decide)) q12a q12c (g := (mkF m 108 #[.val (.int p1), .val (.int p2), .val (.int p3), .val (.int p4), .val (.int p5), .val (.int p6), .val (.int (p1 &&& (3 : Int32))), .val (.int (p2 &&& (3 : Int32))), .val (.int (own_ch p3)), .val (.int (own_ch p4)), .val (.int (own_ch p5)), .val (.int (1 : Int32)), .val (.int (own_jk p6)), .val (.ref b7), .unset, .unset, .unset] [(.int (own_ch p4)), (.ref b7)])) rfl (by rw [hml]; rfl) (Steps.refl _) (argsL := [(.int (own_ch p4))]) (rest := []) (lenOf pdw_8 rfl) rfl (by show 2 * 0 + _ ≤ _; exact Nat.le_of_eq rfl) (hb hby at_108) (fun _ _ => ⟨rfl, rfl, (by decide : 4 + 1 ≤ _), (by decide : 26 + 8 ≤ _)⟩)
  dsimp only [Pt.U, Pt.locs, Pt.cells, Pt.slots] at X12 l12 y12 z12 st12 hQ12
  subst l12 y12 z12
  obtain ⟨rfl, N12q, zh, c12, BB⟩ := hQ12
  have ZB : n0 ≤ T12.heap.size := Nat.le_trans ZB zh
  have EB := BB.exa
  have N12 := Fr.app N11 N12q
  obtain ⟨cq13, kq13, q13a, q13b, q13c⟩ := isOf hZ rfl EB
  obtain ⟨_, _, ⟨T13, L13, k13, n13⟩, -, X13, ⟨Lc13, hQ13, l13, y13, z13⟩, st13⟩ := X12.virtualBack hx (y := (⟨"com/example/acompte/acompte/Utf8Builder", "toByteArray", "()[B"⟩ : MethodName)) (z := (⟨"com/example/acompte/acompte/Utf8Builder", "toByteArray", "()[B"⟩ : MethodName)) hown (mvT hZ (hw _ (List.mem_of_getElem? (i := 43) rfl))) (mvT hZ (hw _ (List.mem_of_getElem? (i := 44) rfl))) (notFace_of_selects (args := #[]) (mvT hZ (hw _ (List.mem_of_getElem? (i := 46) rfl)))) (mvT hZ (hw _ (List.mem_of_getElem? (i := 46) rfl))) (mvT hZ (hw _ (List.mem_of_getElem? (i := 45) rfl))) (by decide) (backOf (W := 0) (rm9_t l Z a0 hw [] b7 c12 (([] ++ [(own_by (own_ch p3))]) ++ [(own_by (own_ch p4))]) T12.heap n0 ZB BB) hZ (hw _ (List.mem_of_getElem? (i := 47) rfl)) (hw _ (List.mem_of_getElem? (i := 2) rfl)) (by decide) (by decide)) q13a q13c (g := (mkF m 128 #[.val (.int p1), .val (.int p2), .val (.int p3), .val (.int p4), .val (.int p5), .val (.int p6), .val (.int (p1 &&& (3 : Int32))), .val (.int (p2 &&& (3 : Int32))), .val (.int (own_ch p3)), .val (.int (own_ch p4)), .val (.int (own_ch p5)), .val (.int (1 : Int32)), .val (.int (own_jk p6)), .val (.ref b7), .unset, .unset, .unset] [(.ref b7)])) rfl (by rw [hml]; rfl) (Steps.refl _) (argsL := []) (rest := []) (lenOf pdw_5 rfl) rfl (by show 2 * 0 + _ ≤ _; exact Nat.le_of_eq rfl) (hb hby at_128) (fun _ _ => ⟨rfl, rfl, (by decide : 5 + 1 ≤ _), (by decide : 34 + 8 ≤ _)⟩)
  dsimp only [Pt.U, Pt.locs, Pt.cells, Pt.slots] at X13 l13 y13 z13 st13 hQ13
  subst l13 y13 z13
  obtain ⟨rfl, N13q, K13, k13', us13, V13, hus13⟩ := hQ13
  have BB1 := BB
  have g_r1 := ZB
  have BB := BB.keep K13
  have ZB : n0 ≤ T13.heap.size := Nat.le_trans ZB K13.1
  have EB := BB.exa
  have FL := BB.len
  have V13' := V13
  obtain ⟨clr1, Arr1, qr1, Sr1, Nr1, Hr1, Gr1⟩ := V13'
  have N13 := Fr.app N12 N13q
  obtain ⟨cq14, kq14, q14a, q14b, q14c⟩ := isOf hZ rfl EB
  obtain ⟨_, _, ⟨T14, L14, k14, n14⟩, -, X14, ⟨Lc14, hQ14, l14, y14, z14⟩, st14⟩ := X13.virtualBack hx (y := (⟨"com/example/acompte/acompte/Utf8Builder", "length", "()I"⟩ : MethodName)) (z := (⟨"com/example/acompte/acompte/Utf8Builder", "length", "()I"⟩ : MethodName)) hown (mvT hZ (hw _ (List.mem_of_getElem? (i := 48) rfl))) (mvT hZ (hw _ (List.mem_of_getElem? (i := 49) rfl))) (notFace_of_selects (args := #[]) (mvT hZ (hw _ (List.mem_of_getElem? (i := 51) rfl)))) (mvT hZ (hw _ (List.mem_of_getElem? (i := 51) rfl))) (mvT hZ (hw _ (List.mem_of_getElem? (i := 50) rfl))) (by decide) (backOf (W := 0) (rm10 l Z a0 hw [] b7 (Int32.ofNat (([] ++ [(own_by (own_ch p3))]) ++ [(own_by (own_ch p4))]).length) T13.heap n0 ZB FL) hZ (hw _ (List.mem_of_getElem? (i := 52) rfl)) (hw _ (List.mem_of_getElem? (i := 2) rfl)) (by decide) (by decide)) q14a q14c (g := (mkF m 143 #[.val (.int p1), .val (.int p2), .val (.int p3), .val (.int p4), .val (.int p5), .val (.int p6), .val (.int (p1 &&& (3 : Int32))), .val (.int (p2 &&& (3 : Int32))), .val (.int (own_ch p3)), .val (.int (own_ch p4)), .val (.int (own_ch p5)), .val (.int (1 : Int32)), .val (.int (own_jk p6)), .val (.ref b7), .val (.ref (T12.heap.size)), .unset, .unset] [(.ref b7)])) rfl (by rw [hml]; rfl) (Steps.refl _) (argsL := []) (rest := []) (lenOf pdw_6 rfl) rfl (by show 2 * 0 + _ ≤ _; exact Nat.le_of_eq rfl) (hb hby at_143) (fun _ _ => ⟨rfl, rfl, (by decide : 6 + 0 ≤ _), (by decide : 42 + 0 ≤ _)⟩)
  dsimp only [Pt.U, Pt.locs, Pt.cells, Pt.slots] at X14 l14 y14 z14 st14 hQ14
  subst l14 y14 z14
  obtain ⟨rfl, N14q, hh14⟩ := hQ14
  have N14 := Fr.app N13 N14q
  obtain ⟨_, _, ⟨T15, L15, k15, n15⟩, -, X15, ⟨Lc15, hQ15, l15, y15, z15⟩, st15⟩ := Jvm.LawKit.callS X14 hx (y := (⟨"com/example/acompte/acompte/Utf8BuilderToByteArrayPinLaw", "matches", "([BICCC)Z"⟩ : MethodName)) hown (mvT hZ (hw _ (List.mem_of_getElem? (i := 53) rfl))) (mvT hZ (hw _ (List.mem_of_getElem? (i := 54) rfl))) (mvT hZ (hw _ (List.mem_of_getElem? (i := 55) rfl))) (mvT hZ (hw _ (List.mem_of_getElem? (i := 56) rfl))) (by decide) (backOf (W := 0) (rm11_n2 l Z a0 hw [] (T12.heap.size) (p2 &&& (3 : Int32)) (own_ch p3) (own_ch p4) (own_ch p5) (own_by (own_ch p3)) clr1 (own_by (own_ch p4)) T13.heap n0 ZB Arr1 (inb_of Sr1 ⟨by decide, (show (0 : Int32) < Int32.ofNat 2 from by decide)⟩) (Has.at Hr1 (inb_of Sr1 ⟨by decide, (show (0 : Int32) < Int32.ofNat 2 from by decide)⟩) (hus13 0 (by first | decide | simp))) (inb_of Sr1 ⟨by decide, (show (1 : Int32) < Int32.ofNat 2 from by decide)⟩) (Has.at Hr1 (inb_of Sr1 ⟨by decide, (show (1 : Int32) < Int32.ofNat 2 from by decide)⟩) (hus13 1 (by first | decide | simp))) (by rw [hn]; decide) (own_idem _) (by rw [hn]; decide) (own_idem _) (by rw [hn]; decide)) hZ (hw _ (List.mem_of_getElem? (i := 56) rfl)) (hw _ (List.mem_of_getElem? (i := 55) rfl)) (by decide) (by decide)) (g := (mkF m 161 #[.val (.int p1), .val (.int p2), .val (.int p3), .val (.int p4), .val (.int p5), .val (.int p6), .val (.int (p1 &&& (3 : Int32))), .val (.int (p2 &&& (3 : Int32))), .val (.int (own_ch p3)), .val (.int (own_ch p4)), .val (.int (own_ch p5)), .val (.int (1 : Int32)), .val (.int (own_jk p6)), .val (.ref b7), .val (.ref (T12.heap.size)), .unset, .unset] [(.int (own_ch p5)), (.int (own_ch p4)), (.int (own_ch p3)), (.int (p2 &&& (3 : Int32))), (.ref (T12.heap.size))])) rfl (by rw [hml]; rfl) (argsL := [(.ref (T12.heap.size)), (.int (p2 &&& (3 : Int32))), (.int (own_ch p3)), (.int (own_ch p4)), (.int (own_ch p5))]) (rest := []) (lenOf pdw_7 rfl) rfl (by show 2 * 0 + _ ≤ _; exact Nat.le_of_eq rfl) (hb hby at_161) (fun _ _ => ⟨rfl, hh14, (by decide : 6 + 0 ≤ _), (by decide : 42 + 0 ≤ _)⟩)
  dsimp only [Pt.U, Pt.locs, Pt.cells, Pt.slots] at X15 l15 y15 z15 st15 hQ15
  subst l15 y15 z15
  obtain ⟨rfl, N15q, hh15⟩ := hQ15
  have N15 := Fr.app N14 N15q
  have hin197 : ¬ ((0 : Int32) < 0 ∨ clr1.slots.size ≤ ((0 : Int32)).toNatClampNeg) := inb_of Sr1 ⟨by decide, (show (0 : Int32) < Int32.ofNat 2 from by decide)⟩
  have hin192 := hin197
  have hat192 : clr1.slots[((0 : Int32)).toNatClampNeg]? = some (.int (own_by (own_ch p3))) := Has.at Hr1 hin197 (hus13 0 (by first | decide | simp))
  obtain ⟨T17, h17, X17, e17, W17, st17⟩ := stB X15 hx hZ hh15 Arr1 (j := (0 : Int32)) hin197 (g := (mkF m 197 #[.val (.int p1), .val (.int p2), .val (.int p3), .val (.int p4), .val (.int p5), .val (.int p6), .val (.int (p1 &&& (3 : Int32))), .val (.int (p2 &&& (3 : Int32))), .val (.int (own_ch p3)), .val (.int (own_ch p4)), .val (.int (own_ch p5)), .val (.int (1 : Int32)), .val (.int (own_jk p6)), .val (.ref b7), .val (.ref (T12.heap.size)), .val (.int (1 : Int32)), .unset] [(.int (((own_by (own_ch p3)) ^^^ (64 : Int32)).toInt8.toInt32)), (.int (0 : Int32)), (.ref (T12.heap.size))])) rfl rfl (hb hby at_197)
  have BB := BB1.keepwr K13 W17 (Nat.le_refl _)
  have EB := BB.exa
  have ZB : n0 ≤ h17.size := by rw [W17.size]; exact ZB
  have N17 := Fr.snoc X17 N15 g_r1
  obtain ⟨cq18, kq18, q18a, q18b, q18c⟩ := isOf hZ e17 EB
  obtain ⟨_, _, ⟨T18, L18, k18, n18⟩, -, X18, ⟨Lc18, hQ18, l18, y18, z18⟩, st18⟩ := X17.virtualBack hx (y := (⟨"com/example/acompte/acompte/Utf8Builder", "toByteArray", "()[B"⟩ : MethodName)) (z := (⟨"com/example/acompte/acompte/Utf8Builder", "toByteArray", "()[B"⟩ : MethodName)) hown (mvT hZ (hw _ (List.mem_of_getElem? (i := 43) rfl))) (mvT hZ (hw _ (List.mem_of_getElem? (i := 44) rfl))) (notFace_of_selects (args := #[]) (mvT hZ (hw _ (List.mem_of_getElem? (i := 46) rfl)))) (mvT hZ (hw _ (List.mem_of_getElem? (i := 46) rfl))) (mvT hZ (hw _ (List.mem_of_getElem? (i := 45) rfl))) (by decide) (backOf (W := 0) (rm9_t l Z a0 hw [] b7 c12 (([] ++ [(own_by (own_ch p3))]) ++ [(own_by (own_ch p4))]) h17 n0 ZB BB) hZ (hw _ (List.mem_of_getElem? (i := 47) rfl)) (hw _ (List.mem_of_getElem? (i := 2) rfl)) (by decide) (by decide)) q18a q18c (g := (mkF m 200 #[.val (.int p1), .val (.int p2), .val (.int p3), .val (.int p4), .val (.int p5), .val (.int p6), .val (.int (p1 &&& (3 : Int32))), .val (.int (p2 &&& (3 : Int32))), .val (.int (own_ch p3)), .val (.int (own_ch p4)), .val (.int (own_ch p5)), .val (.int (1 : Int32)), .val (.int (own_jk p6)), .val (.ref b7), .val (.ref (T12.heap.size)), .val (.int (1 : Int32)), .unset] [(.ref b7)])) rfl (by rw [hml]; rfl) (Steps.refl _) (argsL := []) (rest := []) (lenOf pdw_5 rfl) rfl (by show 2 * 0 + _ ≤ _; exact Nat.le_of_eq rfl) (hb hby at_200) (fun _ _ => ⟨rfl, e17, (by decide : 6 + 1 ≤ _), (by decide : 42 + 8 ≤ _)⟩)
  dsimp only [Pt.U, Pt.locs, Pt.cells, Pt.slots] at X18 l18 y18 z18 st18 hQ18
  subst l18 y18 z18
  obtain ⟨rfl, N18q, K18, k18', us18, V18, hus18⟩ := hQ18
  have ZB : n0 ≤ T18.heap.size := Nat.le_trans ZB K18.1
  have V18' := V18
  obtain ⟨clr2, Arr2, qr2, Sr2, Nr2, Hr2, Gr2⟩ := V18'
  have N18 := Fr.app N17 N18q
  obtain ⟨_, _, ⟨T19, L19, k19, n19⟩, -, X19, ⟨Lc19, hQ19, l19, y19, z19⟩, st19⟩ := Jvm.LawKit.callS X18 hx (y := (⟨"com/example/acompte/acompte/Utf8BuilderToByteArrayPinLaw", "matches", "([BICCC)Z"⟩ : MethodName)) hown (mvT hZ (hw _ (List.mem_of_getElem? (i := 53) rfl))) (mvT hZ (hw _ (List.mem_of_getElem? (i := 54) rfl))) (mvT hZ (hw _ (List.mem_of_getElem? (i := 55) rfl))) (mvT hZ (hw _ (List.mem_of_getElem? (i := 56) rfl))) (by decide) (backOf (W := 0) (rm11_n2 l Z a0 hw [] (h17.size) (p2 &&& (3 : Int32)) (own_ch p3) (own_ch p4) (own_ch p5) (own_by (own_ch p3)) clr2 (own_by (own_ch p4)) T18.heap n0 ZB Arr2 (inb_of Sr2 ⟨by decide, (show (0 : Int32) < Int32.ofNat 2 from by decide)⟩) (Has.at Hr2 (inb_of Sr2 ⟨by decide, (show (0 : Int32) < Int32.ofNat 2 from by decide)⟩) (hus18 0 (by first | decide | simp))) (inb_of Sr2 ⟨by decide, (show (1 : Int32) < Int32.ofNat 2 from by decide)⟩) (Has.at Hr2 (inb_of Sr2 ⟨by decide, (show (1 : Int32) < Int32.ofNat 2 from by decide)⟩) (hus18 1 (by first | decide | simp))) (by rw [hn]; decide) (own_idem _) (by rw [hn]; decide) (own_idem _) (by rw [hn]; decide)) hZ (hw _ (List.mem_of_getElem? (i := 56) rfl)) (hw _ (List.mem_of_getElem? (i := 55) rfl)) (by decide) (by decide)) (g := (mkF m 223 #[.val (.int p1), .val (.int p2), .val (.int p3), .val (.int p4), .val (.int p5), .val (.int p6), .val (.int (p1 &&& (3 : Int32))), .val (.int (p2 &&& (3 : Int32))), .val (.int (own_ch p3)), .val (.int (own_ch p4)), .val (.int (own_ch p5)), .val (.int (1 : Int32)), .val (.int (own_jk p6)), .val (.ref b7), .val (.ref (T12.heap.size)), .val (.int (1 : Int32)), .val (.ref (h17.size))] [(.int (own_ch p5)), (.int (own_ch p4)), (.int (own_ch p3)), (.int (p2 &&& (3 : Int32))), (.ref (h17.size))])) rfl (by rw [hml]; rfl) (argsL := [(.ref (h17.size)), (.int (p2 &&& (3 : Int32))), (.int (own_ch p3)), (.int (own_ch p4)), (.int (own_ch p5))]) (rest := []) (lenOf pdw_7 rfl) rfl (by show 2 * 0 + _ ≤ _; exact Nat.le_of_eq rfl) (hb hby at_223) (fun _ _ => ⟨rfl, rfl, (by decide : 7 + 0 ≤ _), (by decide : 50 + 0 ≤ _)⟩)
  dsimp only [Pt.U, Pt.locs, Pt.cells, Pt.slots] at X19 l19 y19 z19 st19 hQ19
  subst l19 y19 z19
  obtain ⟨rfl, N19q, hh19⟩ := hQ19
  have N19 := Fr.app N18 N19q
  obtain ⟨fs, hr, hrun, hended, hW, hsame⟩ := X19.leave (v := some (.int (1 : Int32))) (fun h => by rw [Bd.returns] at h; cases h)
  refine ⟨_, _, pre0 _ ?_, hrun, hended, _, _, rfl, ?_, ⟨_, rfl⟩, hW, hsame.mono (by decide) (by decide)⟩
  -- 4. STEPS
  · show Steps p.tables e below (s₁.setTop (mkF m 0 #[.val (.int p1), .val (.int p2), .val (.int p3), .val (.int p4), .val (.int p5), .val (.int p6), .unset, .unset, .unset, .unset, .unset, .unset, .unset, .unset, .unset, .unset, .unset] [])) _
    refine XS.iloadN X0.here hx rfl (hb hby at_0) rfl ?_
    show Steps p.tables e below (s₁.setTop (mkF m 1 #[.val (.int p1), .val (.int p2), .val (.int p3), .val (.int p4), .val (.int p5), .val (.int p6), .unset, .unset, .unset, .unset, .unset, .unset, .unset, .unset, .unset, .unset, .unset] [(.int p1)])) _
    refine XS.iconst X0.here hx rfl (hb hby at_1) ?_
    show Steps p.tables e below (s₁.setTop (mkF m 2 #[.val (.int p1), .val (.int p2), .val (.int p3), .val (.int p4), .val (.int p5), .val (.int p6), .unset, .unset, .unset, .unset, .unset, .unset, .unset, .unset, .unset, .unset, .unset] [(.int (3 : Int32)), (.int p1)])) _
    refine XS.iand X0.here hx rfl (hb hby at_2) rfl ?_
    show Steps p.tables e below (s₁.setTop (mkF m 3 #[.val (.int p1), .val (.int p2), .val (.int p3), .val (.int p4), .val (.int p5), .val (.int p6), .unset, .unset, .unset, .unset, .unset, .unset, .unset, .unset, .unset, .unset, .unset] [(.int (p1 &&& (3 : Int32)))])) _
    refine XS.istore X0.here hx rfl (hb hby at_3) rfl (l' := #[.val (.int p1), .val (.int p2), .val (.int p3), .val (.int p4), .val (.int p5), .val (.int p6), .val (.int (p1 &&& (3 : Int32))), .unset, .unset, .unset, .unset, .unset, .unset, .unset, .unset, .unset, .unset]) rfl ?_
    show Steps p.tables e below (s₁.setTop (mkF m 5 #[.val (.int p1), .val (.int p2), .val (.int p3), .val (.int p4), .val (.int p5), .val (.int p6), .val (.int (p1 &&& (3 : Int32))), .unset, .unset, .unset, .unset, .unset, .unset, .unset, .unset, .unset, .unset] [])) _
    refine XS.iloadN X0.here hx rfl (hb hby at_5) rfl ?_
    show Steps p.tables e below (s₁.setTop (mkF m 6 #[.val (.int p1), .val (.int p2), .val (.int p3), .val (.int p4), .val (.int p5), .val (.int p6), .val (.int (p1 &&& (3 : Int32))), .unset, .unset, .unset, .unset, .unset, .unset, .unset, .unset, .unset, .unset] [(.int p2)])) _
    refine XS.iconst X0.here hx rfl (hb hby at_6) ?_
    show Steps p.tables e below (s₁.setTop (mkF m 7 #[.val (.int p1), .val (.int p2), .val (.int p3), .val (.int p4), .val (.int p5), .val (.int p6), .val (.int (p1 &&& (3 : Int32))), .unset, .unset, .unset, .unset, .unset, .unset, .unset, .unset, .unset, .unset] [(.int (3 : Int32)), (.int p2)])) _
    refine XS.iand X0.here hx rfl (hb hby at_7) rfl ?_
    show Steps p.tables e below (s₁.setTop (mkF m 8 #[.val (.int p1), .val (.int p2), .val (.int p3), .val (.int p4), .val (.int p5), .val (.int p6), .val (.int (p1 &&& (3 : Int32))), .unset, .unset, .unset, .unset, .unset, .unset, .unset, .unset, .unset, .unset] [(.int (p2 &&& (3 : Int32)))])) _
    refine XS.istore X0.here hx rfl (hb hby at_8) rfl (l' := #[.val (.int p1), .val (.int p2), .val (.int p3), .val (.int p4), .val (.int p5), .val (.int p6), .val (.int (p1 &&& (3 : Int32))), .val (.int (p2 &&& (3 : Int32))), .unset, .unset, .unset, .unset, .unset, .unset, .unset, .unset, .unset]) rfl ?_
    show Steps p.tables e below (s₁.setTop (mkF m 10 #[.val (.int p1), .val (.int p2), .val (.int p3), .val (.int p4), .val (.int p5), .val (.int p6), .val (.int (p1 &&& (3 : Int32))), .val (.int (p2 &&& (3 : Int32))), .unset, .unset, .unset, .unset, .unset, .unset, .unset, .unset, .unset] [])) _
    refine XS.iloadN X0.here hx rfl (hb hby at_10) rfl ?_
    show Steps p.tables e below (s₁.setTop (mkF m 11 #[.val (.int p1), .val (.int p2), .val (.int p3), .val (.int p4), .val (.int p5), .val (.int p6), .val (.int (p1 &&& (3 : Int32))), .val (.int (p2 &&& (3 : Int32))), .unset, .unset, .unset, .unset, .unset, .unset, .unset, .unset, .unset] [(.int p3)])) _
    refine XS.bipush X0.here hx rfl (hb hby at_11) ?_
    show Steps p.tables e below (s₁.setTop (mkF m 13 #[.val (.int p1), .val (.int p2), .val (.int p3), .val (.int p4), .val (.int p5), .val (.int p6), .val (.int (p1 &&& (3 : Int32))), .val (.int (p2 &&& (3 : Int32))), .unset, .unset, .unset, .unset, .unset, .unset, .unset, .unset, .unset] [(.int (127 : Int32)), (.int p3)])) _
    refine XS.iand X0.here hx rfl (hb hby at_13) rfl ?_
    show Steps p.tables e below (s₁.setTop (mkF m 14 #[.val (.int p1), .val (.int p2), .val (.int p3), .val (.int p4), .val (.int p5), .val (.int p6), .val (.int (p1 &&& (3 : Int32))), .val (.int (p2 &&& (3 : Int32))), .unset, .unset, .unset, .unset, .unset, .unset, .unset, .unset, .unset] [(.int (p3 &&& (127 : Int32)))])) _
    refine XS.i2c X0.here hx rfl (hb hby at_14) rfl ?_
    show Steps p.tables e below (s₁.setTop (mkF m 15 #[.val (.int p1), .val (.int p2), .val (.int p3), .val (.int p4), .val (.int p5), .val (.int p6), .val (.int (p1 &&& (3 : Int32))), .val (.int (p2 &&& (3 : Int32))), .unset, .unset, .unset, .unset, .unset, .unset, .unset, .unset, .unset] [(.int (own_ch p3))])) _
    refine XS.istore X0.here hx rfl (hb hby at_15) rfl (l' := #[.val (.int p1), .val (.int p2), .val (.int p3), .val (.int p4), .val (.int p5), .val (.int p6), .val (.int (p1 &&& (3 : Int32))), .val (.int (p2 &&& (3 : Int32))), .val (.int (own_ch p3)), .unset, .unset, .unset, .unset, .unset, .unset, .unset, .unset]) rfl ?_
    show Steps p.tables e below (s₁.setTop (mkF m 17 #[.val (.int p1), .val (.int p2), .val (.int p3), .val (.int p4), .val (.int p5), .val (.int p6), .val (.int (p1 &&& (3 : Int32))), .val (.int (p2 &&& (3 : Int32))), .val (.int (own_ch p3)), .unset, .unset, .unset, .unset, .unset, .unset, .unset, .unset] [])) _
    refine XS.iloadN X0.here hx rfl (hb hby at_17) rfl ?_
    show Steps p.tables e below (s₁.setTop (mkF m 18 #[.val (.int p1), .val (.int p2), .val (.int p3), .val (.int p4), .val (.int p5), .val (.int p6), .val (.int (p1 &&& (3 : Int32))), .val (.int (p2 &&& (3 : Int32))), .val (.int (own_ch p3)), .unset, .unset, .unset, .unset, .unset, .unset, .unset, .unset] [(.int p4)])) _
    refine XS.bipush X0.here hx rfl (hb hby at_18) ?_
    show Steps p.tables e below (s₁.setTop (mkF m 20 #[.val (.int p1), .val (.int p2), .val (.int p3), .val (.int p4), .val (.int p5), .val (.int p6), .val (.int (p1 &&& (3 : Int32))), .val (.int (p2 &&& (3 : Int32))), .val (.int (own_ch p3)), .unset, .unset, .unset, .unset, .unset, .unset, .unset, .unset] [(.int (127 : Int32)), (.int p4)])) _
    refine XS.iand X0.here hx rfl (hb hby at_20) rfl ?_
    show Steps p.tables e below (s₁.setTop (mkF m 21 #[.val (.int p1), .val (.int p2), .val (.int p3), .val (.int p4), .val (.int p5), .val (.int p6), .val (.int (p1 &&& (3 : Int32))), .val (.int (p2 &&& (3 : Int32))), .val (.int (own_ch p3)), .unset, .unset, .unset, .unset, .unset, .unset, .unset, .unset] [(.int (p4 &&& (127 : Int32)))])) _
    refine XS.i2c X0.here hx rfl (hb hby at_21) rfl ?_
    show Steps p.tables e below (s₁.setTop (mkF m 22 #[.val (.int p1), .val (.int p2), .val (.int p3), .val (.int p4), .val (.int p5), .val (.int p6), .val (.int (p1 &&& (3 : Int32))), .val (.int (p2 &&& (3 : Int32))), .val (.int (own_ch p3)), .unset, .unset, .unset, .unset, .unset, .unset, .unset, .unset] [(.int (own_ch p4))])) _
    refine XS.istore X0.here hx rfl (hb hby at_22) rfl (l' := #[.val (.int p1), .val (.int p2), .val (.int p3), .val (.int p4), .val (.int p5), .val (.int p6), .val (.int (p1 &&& (3 : Int32))), .val (.int (p2 &&& (3 : Int32))), .val (.int (own_ch p3)), .val (.int (own_ch p4)), .unset, .unset, .unset, .unset, .unset, .unset, .unset]) rfl ?_
    show Steps p.tables e below (s₁.setTop (mkF m 24 #[.val (.int p1), .val (.int p2), .val (.int p3), .val (.int p4), .val (.int p5), .val (.int p6), .val (.int (p1 &&& (3 : Int32))), .val (.int (p2 &&& (3 : Int32))), .val (.int (own_ch p3)), .val (.int (own_ch p4)), .unset, .unset, .unset, .unset, .unset, .unset, .unset] [])) _
    refine XS.iload X0.here hx rfl (hb hby at_24) rfl ?_
    show Steps p.tables e below (s₁.setTop (mkF m 26 #[.val (.int p1), .val (.int p2), .val (.int p3), .val (.int p4), .val (.int p5), .val (.int p6), .val (.int (p1 &&& (3 : Int32))), .val (.int (p2 &&& (3 : Int32))), .val (.int (own_ch p3)), .val (.int (own_ch p4)), .unset, .unset, .unset, .unset, .unset, .unset, .unset] [(.int p5)])) _
    refine XS.bipush X0.here hx rfl (hb hby at_26) ?_
    show Steps p.tables e below (s₁.setTop (mkF m 28 #[.val (.int p1), .val (.int p2), .val (.int p3), .val (.int p4), .val (.int p5), .val (.int p6), .val (.int (p1 &&& (3 : Int32))), .val (.int (p2 &&& (3 : Int32))), .val (.int (own_ch p3)), .val (.int (own_ch p4)), .unset, .unset, .unset, .unset, .unset, .unset, .unset] [(.int (127 : Int32)), (.int p5)])) _
    refine XS.iand X0.here hx rfl (hb hby at_28) rfl ?_
    show Steps p.tables e below (s₁.setTop (mkF m 29 #[.val (.int p1), .val (.int p2), .val (.int p3), .val (.int p4), .val (.int p5), .val (.int p6), .val (.int (p1 &&& (3 : Int32))), .val (.int (p2 &&& (3 : Int32))), .val (.int (own_ch p3)), .val (.int (own_ch p4)), .unset, .unset, .unset, .unset, .unset, .unset, .unset] [(.int (p5 &&& (127 : Int32)))])) _
    refine XS.i2c X0.here hx rfl (hb hby at_29) rfl ?_
    show Steps p.tables e below (s₁.setTop (mkF m 30 #[.val (.int p1), .val (.int p2), .val (.int p3), .val (.int p4), .val (.int p5), .val (.int p6), .val (.int (p1 &&& (3 : Int32))), .val (.int (p2 &&& (3 : Int32))), .val (.int (own_ch p3)), .val (.int (own_ch p4)), .unset, .unset, .unset, .unset, .unset, .unset, .unset] [(.int (own_ch p5))])) _
    refine XS.istore X0.here hx rfl (hb hby at_30) rfl (l' := #[.val (.int p1), .val (.int p2), .val (.int p3), .val (.int p4), .val (.int p5), .val (.int p6), .val (.int (p1 &&& (3 : Int32))), .val (.int (p2 &&& (3 : Int32))), .val (.int (own_ch p3)), .val (.int (own_ch p4)), .val (.int (own_ch p5)), .unset, .unset, .unset, .unset, .unset, .unset]) rfl ?_
    show Steps p.tables e below (s₁.setTop (mkF m 32 #[.val (.int p1), .val (.int p2), .val (.int p3), .val (.int p4), .val (.int p5), .val (.int p6), .val (.int (p1 &&& (3 : Int32))), .val (.int (p2 &&& (3 : Int32))), .val (.int (own_ch p3)), .val (.int (own_ch p4)), .val (.int (own_ch p5)), .unset, .unset, .unset, .unset, .unset, .unset] [])) _
    refine XS.iload X0.here hx rfl (hb hby at_32) rfl ?_
    show Steps p.tables e below (s₁.setTop (mkF m 34 #[.val (.int p1), .val (.int p2), .val (.int p3), .val (.int p4), .val (.int p5), .val (.int p6), .val (.int (p1 &&& (3 : Int32))), .val (.int (p2 &&& (3 : Int32))), .val (.int (own_ch p3)), .val (.int (own_ch p4)), .val (.int (own_ch p5)), .unset, .unset, .unset, .unset, .unset, .unset] [(.int p6)])) _
    refine XS.iconst X0.here hx rfl (hb hby at_34) ?_
    show Steps p.tables e below (s₁.setTop (mkF m 35 #[.val (.int p1), .val (.int p2), .val (.int p3), .val (.int p4), .val (.int p5), .val (.int p6), .val (.int (p1 &&& (3 : Int32))), .val (.int (p2 &&& (3 : Int32))), .val (.int (own_ch p3)), .val (.int (own_ch p4)), .val (.int (own_ch p5)), .unset, .unset, .unset, .unset, .unset, .unset] [(.int (1 : Int32)), (.int p6)])) _
    refine XS.iand X0.here hx rfl (hb hby at_35) rfl ?_
    show Steps p.tables e below (s₁.setTop (mkF m 36 #[.val (.int p1), .val (.int p2), .val (.int p3), .val (.int p4), .val (.int p5), .val (.int p6), .val (.int (p1 &&& (3 : Int32))), .val (.int (p2 &&& (3 : Int32))), .val (.int (own_ch p3)), .val (.int (own_ch p4)), .val (.int (own_ch p5)), .unset, .unset, .unset, .unset, .unset, .unset] [(.int (p6 &&& (1 : Int32)))])) _
    refine XS.ifNo X0.here hx rfl (hb hby at_36) rfl ((if0 _ _).trans (feq hc36).1) ?_
    show Steps p.tables e below (s₁.setTop (mkF m 39 #[.val (.int p1), .val (.int p2), .val (.int p3), .val (.int p4), .val (.int p5), .val (.int p6), .val (.int (p1 &&& (3 : Int32))), .val (.int (p2 &&& (3 : Int32))), .val (.int (own_ch p3)), .val (.int (own_ch p4)), .val (.int (own_ch p5)), .unset, .unset, .unset, .unset, .unset, .unset] [])) _
    refine XS.iconst X0.here hx rfl (hb hby at_39) ?_
    show Steps p.tables e below (s₁.setTop (mkF m 40 #[.val (.int p1), .val (.int p2), .val (.int p3), .val (.int p4), .val (.int p5), .val (.int p6), .val (.int (p1 &&& (3 : Int32))), .val (.int (p2 &&& (3 : Int32))), .val (.int (own_ch p3)), .val (.int (own_ch p4)), .val (.int (own_ch p5)), .unset, .unset, .unset, .unset, .unset, .unset] [(.int (1 : Int32))])) _
    refine XS.goto X0.here hx rfl (pc0 := 40) (pc' := 44) rfl (hb hby at_40) (by decide) (by decide) ?_
    show Steps p.tables e below (s₁.setTop (mkF m 44 #[.val (.int p1), .val (.int p2), .val (.int p3), .val (.int p4), .val (.int p5), .val (.int p6), .val (.int (p1 &&& (3 : Int32))), .val (.int (p2 &&& (3 : Int32))), .val (.int (own_ch p3)), .val (.int (own_ch p4)), .val (.int (own_ch p5)), .unset, .unset, .unset, .unset, .unset, .unset] [(.int (1 : Int32))])) _
    refine XS.istore X0.here hx rfl (hb hby at_44) rfl (l' := #[.val (.int p1), .val (.int p2), .val (.int p3), .val (.int p4), .val (.int p5), .val (.int p6), .val (.int (p1 &&& (3 : Int32))), .val (.int (p2 &&& (3 : Int32))), .val (.int (own_ch p3)), .val (.int (own_ch p4)), .val (.int (own_ch p5)), .val (.int (1 : Int32)), .unset, .unset, .unset, .unset, .unset]) rfl ?_
    show Steps p.tables e below (s₁.setTop (mkF m 46 #[.val (.int p1), .val (.int p2), .val (.int p3), .val (.int p4), .val (.int p5), .val (.int p6), .val (.int (p1 &&& (3 : Int32))), .val (.int (p2 &&& (3 : Int32))), .val (.int (own_ch p3)), .val (.int (own_ch p4)), .val (.int (own_ch p5)), .val (.int (1 : Int32)), .unset, .unset, .unset, .unset, .unset] [])) _
    refine XS.iload X0.here hx rfl (hb hby at_46) rfl ?_
    show Steps p.tables e below (s₁.setTop (mkF m 48 #[.val (.int p1), .val (.int p2), .val (.int p3), .val (.int p4), .val (.int p5), .val (.int p6), .val (.int (p1 &&& (3 : Int32))), .val (.int (p2 &&& (3 : Int32))), .val (.int (own_ch p3)), .val (.int (own_ch p4)), .val (.int (own_ch p5)), .val (.int (1 : Int32)), .unset, .unset, .unset, .unset, .unset] [(.int p6)])) _
    refine XS.iconst X0.here hx rfl (hb hby at_48) ?_
    show Steps p.tables e below (s₁.setTop (mkF m 49 #[.val (.int p1), .val (.int p2), .val (.int p3), .val (.int p4), .val (.int p5), .val (.int p6), .val (.int (p1 &&& (3 : Int32))), .val (.int (p2 &&& (3 : Int32))), .val (.int (own_ch p3)), .val (.int (own_ch p4)), .val (.int (own_ch p5)), .val (.int (1 : Int32)), .unset, .unset, .unset, .unset, .unset] [(.int (1 : Int32)), (.int p6)])) _
    refine XS.iushr X0.here hx rfl (hb hby at_49) rfl ?_
    show Steps p.tables e below (s₁.setTop (mkF m 50 #[.val (.int p1), .val (.int p2), .val (.int p3), .val (.int p4), .val (.int p5), .val (.int p6), .val (.int (p1 &&& (3 : Int32))), .val (.int (p2 &&& (3 : Int32))), .val (.int (own_ch p3)), .val (.int (own_ch p4)), .val (.int (own_ch p5)), .val (.int (1 : Int32)), .unset, .unset, .unset, .unset, .unset] [(.int ((p6.toUInt32 >>> ((1 : Int32) &&& 31).toUInt32).toInt32))])) _
    refine XS.bipush X0.here hx rfl (hb hby at_50) ?_
    show Steps p.tables e below (s₁.setTop (mkF m 52 #[.val (.int p1), .val (.int p2), .val (.int p3), .val (.int p4), .val (.int p5), .val (.int p6), .val (.int (p1 &&& (3 : Int32))), .val (.int (p2 &&& (3 : Int32))), .val (.int (own_ch p3)), .val (.int (own_ch p4)), .val (.int (own_ch p5)), .val (.int (1 : Int32)), .unset, .unset, .unset, .unset, .unset] [(.int (127 : Int32)), (.int ((p6.toUInt32 >>> ((1 : Int32) &&& 31).toUInt32).toInt32))])) _
    refine XS.iand X0.here hx rfl (hb hby at_52) rfl ?_
    show Steps p.tables e below (s₁.setTop (mkF m 53 #[.val (.int p1), .val (.int p2), .val (.int p3), .val (.int p4), .val (.int p5), .val (.int p6), .val (.int (p1 &&& (3 : Int32))), .val (.int (p2 &&& (3 : Int32))), .val (.int (own_ch p3)), .val (.int (own_ch p4)), .val (.int (own_ch p5)), .val (.int (1 : Int32)), .unset, .unset, .unset, .unset, .unset] [(.int (((p6.toUInt32 >>> ((1 : Int32) &&& 31).toUInt32).toInt32) &&& (127 : Int32)))])) _
    refine XS.i2c X0.here hx rfl (hb hby at_53) rfl ?_
    show Steps p.tables e below (s₁.setTop (mkF m 54 #[.val (.int p1), .val (.int p2), .val (.int p3), .val (.int p4), .val (.int p5), .val (.int p6), .val (.int (p1 &&& (3 : Int32))), .val (.int (p2 &&& (3 : Int32))), .val (.int (own_ch p3)), .val (.int (own_ch p4)), .val (.int (own_ch p5)), .val (.int (1 : Int32)), .unset, .unset, .unset, .unset, .unset] [(.int (own_jk p6))])) _
    refine XS.istore X0.here hx rfl (hb hby at_54) rfl (l' := #[.val (.int p1), .val (.int p2), .val (.int p3), .val (.int p4), .val (.int p5), .val (.int p6), .val (.int (p1 &&& (3 : Int32))), .val (.int (p2 &&& (3 : Int32))), .val (.int (own_ch p3)), .val (.int (own_ch p4)), .val (.int (own_ch p5)), .val (.int (1 : Int32)), .val (.int (own_jk p6)), .unset, .unset, .unset, .unset]) rfl ?_
    show Steps p.tables e below (s₁.setTop (mkF m 56 #[.val (.int p1), .val (.int p2), .val (.int p3), .val (.int p4), .val (.int p5), .val (.int p6), .val (.int (p1 &&& (3 : Int32))), .val (.int (p2 &&& (3 : Int32))), .val (.int (own_ch p3)), .val (.int (own_ch p4)), .val (.int (own_ch p5)), .val (.int (1 : Int32)), .val (.int (own_jk p6)), .unset, .unset, .unset, .unset] [])) _
    refine st7 _ ?_
    show Steps p.tables e below (T7.setTop (mkF m 59 #[.val (.int p1), .val (.int p2), .val (.int p3), .val (.int p4), .val (.int p5), .val (.int p6), .val (.int (p1 &&& (3 : Int32))), .val (.int (p2 &&& (3 : Int32))), .val (.int (own_ch p3)), .val (.int (own_ch p4)), .val (.int (own_ch p5)), .val (.int (1 : Int32)), .val (.int (own_jk p6)), .unset, .unset, .unset, .unset] [(.ref b7)])) _
    refine XS.dup X7.here hx rfl (hb hby at_59) rfl rfl ?_
    show Steps p.tables e below (T7.setTop (mkF m 60 #[.val (.int p1), .val (.int p2), .val (.int p3), .val (.int p4), .val (.int p5), .val (.int p6), .val (.int (p1 &&& (3 : Int32))), .val (.int (p2 &&& (3 : Int32))), .val (.int (own_ch p3)), .val (.int (own_ch p4)), .val (.int (own_ch p5)), .val (.int (1 : Int32)), .val (.int (own_jk p6)), .unset, .unset, .unset, .unset] [(.ref b7), (.ref b7)])) _
    refine XS.iload X7.here hx rfl (hb hby at_60) rfl ?_
    show Steps p.tables e below (T7.setTop (mkF m 62 #[.val (.int p1), .val (.int p2), .val (.int p3), .val (.int p4), .val (.int p5), .val (.int p6), .val (.int (p1 &&& (3 : Int32))), .val (.int (p2 &&& (3 : Int32))), .val (.int (own_ch p3)), .val (.int (own_ch p4)), .val (.int (own_ch p5)), .val (.int (1 : Int32)), .val (.int (own_jk p6)), .unset, .unset, .unset, .unset] [(.int (p1 &&& (3 : Int32))), (.ref b7), (.ref b7)])) _
    refine st8.trans ?_
    show Steps p.tables e below (T8.setTop (mkF m 65 #[.val (.int p1), .val (.int p2), .val (.int p3), .val (.int p4), .val (.int p5), .val (.int p6), .val (.int (p1 &&& (3 : Int32))), .val (.int (p2 &&& (3 : Int32))), .val (.int (own_ch p3)), .val (.int (own_ch p4)), .val (.int (own_ch p5)), .val (.int (1 : Int32)), .val (.int (own_jk p6)), .unset, .unset, .unset, .unset] [(.ref b7)])) _
    refine XS.astore X8.here hx rfl (hb hby at_65) rfl rfl (l' := #[.val (.int p1), .val (.int p2), .val (.int p3), .val (.int p4), .val (.int p5), .val (.int p6), .val (.int (p1 &&& (3 : Int32))), .val (.int (p2 &&& (3 : Int32))), .val (.int (own_ch p3)), .val (.int (own_ch p4)), .val (.int (own_ch p5)), .val (.int (1 : Int32)), .val (.int (own_jk p6)), .val (.ref b7), .unset, .unset, .unset]) rfl ?_
    show Steps p.tables e below (T8.setTop (mkF m 67 #[.val (.int p1), .val (.int p2), .val (.int p3), .val (.int p4), .val (.int p5), .val (.int p6), .val (.int (p1 &&& (3 : Int32))), .val (.int (p2 &&& (3 : Int32))), .val (.int (own_ch p3)), .val (.int (own_ch p4)), .val (.int (own_ch p5)), .val (.int (1 : Int32)), .val (.int (own_jk p6)), .val (.ref b7), .unset, .unset, .unset] [])) _
    refine XS.iload X8.here hx rfl (hb hby at_67) rfl ?_
    show Steps p.tables e below (T8.setTop (mkF m 69 #[.val (.int p1), .val (.int p2), .val (.int p3), .val (.int p4), .val (.int p5), .val (.int p6), .val (.int (p1 &&& (3 : Int32))), .val (.int (p2 &&& (3 : Int32))), .val (.int (own_ch p3)), .val (.int (own_ch p4)), .val (.int (own_ch p5)), .val (.int (1 : Int32)), .val (.int (own_jk p6)), .val (.ref b7), .unset, .unset, .unset] [(.int (1 : Int32))])) _
    refine XS.ifNo X8.here hx rfl (hb hby at_69) rfl ((if0 _ _).trans (feq hc69).1) ?_
    show Steps p.tables e below (T8.setTop (mkF m 72 #[.val (.int p1), .val (.int p2), .val (.int p3), .val (.int p4), .val (.int p5), .val (.int p6), .val (.int (p1 &&& (3 : Int32))), .val (.int (p2 &&& (3 : Int32))), .val (.int (own_ch p3)), .val (.int (own_ch p4)), .val (.int (own_ch p5)), .val (.int (1 : Int32)), .val (.int (own_jk p6)), .val (.ref b7), .unset, .unset, .unset] [])) _
    refine XS.aload X8.here hx rfl (hb hby at_72) rfl rfl ?_
    show Steps p.tables e below (T8.setTop (mkF m 74 #[.val (.int p1), .val (.int p2), .val (.int p3), .val (.int p4), .val (.int p5), .val (.int p6), .val (.int (p1 &&& (3 : Int32))), .val (.int (p2 &&& (3 : Int32))), .val (.int (own_ch p3)), .val (.int (own_ch p4)), .val (.int (own_ch p5)), .val (.int (1 : Int32)), .val (.int (own_jk p6)), .val (.ref b7), .unset, .unset, .unset] [(.ref b7)])) _
    refine XS.iload X8.here hx rfl (hb hby at_74) rfl ?_
    show Steps p.tables e below (T8.setTop (mkF m 76 #[.val (.int p1), .val (.int p2), .val (.int p3), .val (.int p4), .val (.int p5), .val (.int p6), .val (.int (p1 &&& (3 : Int32))), .val (.int (p2 &&& (3 : Int32))), .val (.int (own_ch p3)), .val (.int (own_ch p4)), .val (.int (own_ch p5)), .val (.int (1 : Int32)), .val (.int (own_jk p6)), .val (.ref b7), .unset, .unset, .unset] [(.int (own_jk p6)), (.ref b7)])) _
    refine st9.trans ?_
    show Steps p.tables e below (T9.setTop (mkF m 79 #[.val (.int p1), .val (.int p2), .val (.int p3), .val (.int p4), .val (.int p5), .val (.int p6), .val (.int (p1 &&& (3 : Int32))), .val (.int (p2 &&& (3 : Int32))), .val (.int (own_ch p3)), .val (.int (own_ch p4)), .val (.int (own_ch p5)), .val (.int (1 : Int32)), .val (.int (own_jk p6)), .val (.ref b7), .unset, .unset, .unset] [(.ref b7)])) _
    refine XS.pop X9.here hx rfl (hb hby at_79) rfl rfl ?_
    show Steps p.tables e below (T9.setTop (mkF m 80 #[.val (.int p1), .val (.int p2), .val (.int p3), .val (.int p4), .val (.int p5), .val (.int p6), .val (.int (p1 &&& (3 : Int32))), .val (.int (p2 &&& (3 : Int32))), .val (.int (own_ch p3)), .val (.int (own_ch p4)), .val (.int (own_ch p5)), .val (.int (1 : Int32)), .val (.int (own_jk p6)), .val (.ref b7), .unset, .unset, .unset] [])) _
    refine XS.aload X9.here hx rfl (hb hby at_80) rfl rfl ?_
    show Steps p.tables e below (T9.setTop (mkF m 82 #[.val (.int p1), .val (.int p2), .val (.int p3), .val (.int p4), .val (.int p5), .val (.int p6), .val (.int (p1 &&& (3 : Int32))), .val (.int (p2 &&& (3 : Int32))), .val (.int (own_ch p3)), .val (.int (own_ch p4)), .val (.int (own_ch p5)), .val (.int (1 : Int32)), .val (.int (own_jk p6)), .val (.ref b7), .unset, .unset, .unset] [(.ref b7)])) _
    refine st10.trans ?_
    show Steps p.tables e below (T10.setTop (mkF m 85 #[.val (.int p1), .val (.int p2), .val (.int p3), .val (.int p4), .val (.int p5), .val (.int p6), .val (.int (p1 &&& (3 : Int32))), .val (.int (p2 &&& (3 : Int32))), .val (.int (own_ch p3)), .val (.int (own_ch p4)), .val (.int (own_ch p5)), .val (.int (1 : Int32)), .val (.int (own_jk p6)), .val (.ref b7), .unset, .unset, .unset] [])) _
    refine XS.iload X10.here hx rfl (hb hby at_85) rfl ?_
    show Steps p.tables e below (T10.setTop (mkF m 87 #[.val (.int p1), .val (.int p2), .val (.int p3), .val (.int p4), .val (.int p5), .val (.int p6), .val (.int (p1 &&& (3 : Int32))), .val (.int (p2 &&& (3 : Int32))), .val (.int (own_ch p3)), .val (.int (own_ch p4)), .val (.int (own_ch p5)), .val (.int (1 : Int32)), .val (.int (own_jk p6)), .val (.ref b7), .unset, .unset, .unset] [(.int (p2 &&& (3 : Int32)))])) _
    refine XS.ifNo X10.here hx rfl (hb hby at_87) rfl ((if0 _ _).trans (tlt hc87).2.2.2) ?_
    show Steps p.tables e below (T10.setTop (mkF m 90 #[.val (.int p1), .val (.int p2), .val (.int p3), .val (.int p4), .val (.int p5), .val (.int p6), .val (.int (p1 &&& (3 : Int32))), .val (.int (p2 &&& (3 : Int32))), .val (.int (own_ch p3)), .val (.int (own_ch p4)), .val (.int (own_ch p5)), .val (.int (1 : Int32)), .val (.int (own_jk p6)), .val (.ref b7), .unset, .unset, .unset] [])) _
    refine XS.aload X10.here hx rfl (hb hby at_90) rfl rfl ?_
    show Steps p.tables e below (T10.setTop (mkF m 92 #[.val (.int p1), .val (.int p2), .val (.int p3), .val (.int p4), .val (.int p5), .val (.int p6), .val (.int (p1 &&& (3 : Int32))), .val (.int (p2 &&& (3 : Int32))), .val (.int (own_ch p3)), .val (.int (own_ch p4)), .val (.int (own_ch p5)), .val (.int (1 : Int32)), .val (.int (own_jk p6)), .val (.ref b7), .unset, .unset, .unset] [(.ref b7)])) _
    refine XS.iload X10.here hx rfl (hb hby at_92) rfl ?_
    show Steps p.tables e below (T10.setTop (mkF m 94 #[.val (.int p1), .val (.int p2), .val (.int p3), .val (.int p4), .val (.int p5), .val (.int p6), .val (.int (p1 &&& (3 : Int32))), .val (.int (p2 &&& (3 : Int32))), .val (.int (own_ch p3)), .val (.int (own_ch p4)), .val (.int (own_ch p5)), .val (.int (1 : Int32)), .val (.int (own_jk p6)), .val (.ref b7), .unset, .unset, .unset] [(.int (own_ch p3)), (.ref b7)])) _
    refine st11.trans ?_
    show Steps p.tables e below (T11.setTop (mkF m 97 #[.val (.int p1), .val (.int p2), .val (.int p3), .val (.int p4), .val (.int p5), .val (.int p6), .val (.int (p1 &&& (3 : Int32))), .val (.int (p2 &&& (3 : Int32))), .val (.int (own_ch p3)), .val (.int (own_ch p4)), .val (.int (own_ch p5)), .val (.int (1 : Int32)), .val (.int (own_jk p6)), .val (.ref b7), .unset, .unset, .unset] [(.ref b7)])) _
    refine XS.pop X11.here hx rfl (hb hby at_97) rfl rfl ?_
    show Steps p.tables e below (T11.setTop (mkF m 98 #[.val (.int p1), .val (.int p2), .val (.int p3), .val (.int p4), .val (.int p5), .val (.int p6), .val (.int (p1 &&& (3 : Int32))), .val (.int (p2 &&& (3 : Int32))), .val (.int (own_ch p3)), .val (.int (own_ch p4)), .val (.int (own_ch p5)), .val (.int (1 : Int32)), .val (.int (own_jk p6)), .val (.ref b7), .unset, .unset, .unset] [])) _
    refine XS.iload X11.here hx rfl (hb hby at_98) rfl ?_
    show Steps p.tables e below (T11.setTop (mkF m 100 #[.val (.int p1), .val (.int p2), .val (.int p3), .val (.int p4), .val (.int p5), .val (.int p6), .val (.int (p1 &&& (3 : Int32))), .val (.int (p2 &&& (3 : Int32))), .val (.int (own_ch p3)), .val (.int (own_ch p4)), .val (.int (own_ch p5)), .val (.int (1 : Int32)), .val (.int (own_jk p6)), .val (.ref b7), .unset, .unset, .unset] [(.int (p2 &&& (3 : Int32)))])) _
    refine XS.iconst X11.here hx rfl (hb hby at_100) ?_
    show Steps p.tables e below (T11.setTop (mkF m 101 #[.val (.int p1), .val (.int p2), .val (.int p3), .val (.int p4), .val (.int p5), .val (.int p6), .val (.int (p1 &&& (3 : Int32))), .val (.int (p2 &&& (3 : Int32))), .val (.int (own_ch p3)), .val (.int (own_ch p4)), .val (.int (own_ch p5)), .val (.int (1 : Int32)), .val (.int (own_jk p6)), .val (.ref b7), .unset, .unset, .unset] [(.int (1 : Int32)), (.int (p2 &&& (3 : Int32)))])) _
    refine XS.icmpNo X11.here hx rfl (hb hby at_101) rfl (tlt hc101).2.2.2 ?_
    show Steps p.tables e below (T11.setTop (mkF m 104 #[.val (.int p1), .val (.int p2), .val (.int p3), .val (.int p4), .val (.int p5), .val (.int p6), .val (.int (p1 &&& (3 : Int32))), .val (.int (p2 &&& (3 : Int32))), .val (.int (own_ch p3)), .val (.int (own_ch p4)), .val (.int (own_ch p5)), .val (.int (1 : Int32)), .val (.int (own_jk p6)), .val (.ref b7), .unset, .unset, .unset] [])) _
    refine XS.aload X11.here hx rfl (hb hby at_104) rfl rfl ?_
    show Steps p.tables e below (T11.setTop (mkF m 106 #[.val (.int p1), .val (.int p2), .val (.int p3), .val (.int p4), .val (.int p5), .val (.int p6), .val (.int (p1 &&& (3 : Int32))), .val (.int (p2 &&& (3 : Int32))), .val (.int (own_ch p3)), .val (.int (own_ch p4)), .val (.int (own_ch p5)), .val (.int (1 : Int32)), .val (.int (own_jk p6)), .val (.ref b7), .unset, .unset, .unset] [(.ref b7)])) _
    refine XS.iload X11.here hx rfl (hb hby at_106) rfl ?_
    show Steps p.tables e below (T11.setTop (mkF m 108 #[.val (.int p1), .val (.int p2), .val (.int p3), .val (.int p4), .val (.int p5), .val (.int p6), .val (.int (p1 &&& (3 : Int32))), .val (.int (p2 &&& (3 : Int32))), .val (.int (own_ch p3)), .val (.int (own_ch p4)), .val (.int (own_ch p5)), .val (.int (1 : Int32)), .val (.int (own_jk p6)), .val (.ref b7), .unset, .unset, .unset] [(.int (own_ch p4)), (.ref b7)])) _
    refine st12.trans ?_
    show Steps p.tables e below (T12.setTop (mkF m 111 #[.val (.int p1), .val (.int p2), .val (.int p3), .val (.int p4), .val (.int p5), .val (.int p6), .val (.int (p1 &&& (3 : Int32))), .val (.int (p2 &&& (3 : Int32))), .val (.int (own_ch p3)), .val (.int (own_ch p4)), .val (.int (own_ch p5)), .val (.int (1 : Int32)), .val (.int (own_jk p6)), .val (.ref b7), .unset, .unset, .unset] [(.ref b7)])) _
    refine XS.pop X12.here hx rfl (hb hby at_111) rfl rfl ?_
    show Steps p.tables e below (T12.setTop (mkF m 112 #[.val (.int p1), .val (.int p2), .val (.int p3), .val (.int p4), .val (.int p5), .val (.int p6), .val (.int (p1 &&& (3 : Int32))), .val (.int (p2 &&& (3 : Int32))), .val (.int (own_ch p3)), .val (.int (own_ch p4)), .val (.int (own_ch p5)), .val (.int (1 : Int32)), .val (.int (own_jk p6)), .val (.ref b7), .unset, .unset, .unset] [])) _
    refine XS.iload X12.here hx rfl (hb hby at_112) rfl ?_
    show Steps p.tables e below (T12.setTop (mkF m 114 #[.val (.int p1), .val (.int p2), .val (.int p3), .val (.int p4), .val (.int p5), .val (.int p6), .val (.int (p1 &&& (3 : Int32))), .val (.int (p2 &&& (3 : Int32))), .val (.int (own_ch p3)), .val (.int (own_ch p4)), .val (.int (own_ch p5)), .val (.int (1 : Int32)), .val (.int (own_jk p6)), .val (.ref b7), .unset, .unset, .unset] [(.int (p2 &&& (3 : Int32)))])) _
    refine XS.iconst X12.here hx rfl (hb hby at_114) ?_
    show Steps p.tables e below (T12.setTop (mkF m 115 #[.val (.int p1), .val (.int p2), .val (.int p3), .val (.int p4), .val (.int p5), .val (.int p6), .val (.int (p1 &&& (3 : Int32))), .val (.int (p2 &&& (3 : Int32))), .val (.int (own_ch p3)), .val (.int (own_ch p4)), .val (.int (own_ch p5)), .val (.int (1 : Int32)), .val (.int (own_jk p6)), .val (.ref b7), .unset, .unset, .unset] [(.int (2 : Int32)), (.int (p2 &&& (3 : Int32)))])) _
    refine XS.icmpYes X12.here hx rfl (pc0 := 115) (pc' := 126) rfl (hb hby at_115) rfl (flt hc115).2.2.2 (by decide) (by decide) ?_
    show Steps p.tables e below (T12.setTop (mkF m 126 #[.val (.int p1), .val (.int p2), .val (.int p3), .val (.int p4), .val (.int p5), .val (.int p6), .val (.int (p1 &&& (3 : Int32))), .val (.int (p2 &&& (3 : Int32))), .val (.int (own_ch p3)), .val (.int (own_ch p4)), .val (.int (own_ch p5)), .val (.int (1 : Int32)), .val (.int (own_jk p6)), .val (.ref b7), .unset, .unset, .unset] [])) _
    refine XS.aload X12.here hx rfl (hb hby at_126) rfl rfl ?_
    show Steps p.tables e below (T12.setTop (mkF m 128 #[.val (.int p1), .val (.int p2), .val (.int p3), .val (.int p4), .val (.int p5), .val (.int p6), .val (.int (p1 &&& (3 : Int32))), .val (.int (p2 &&& (3 : Int32))), .val (.int (own_ch p3)), .val (.int (own_ch p4)), .val (.int (own_ch p5)), .val (.int (1 : Int32)), .val (.int (own_jk p6)), .val (.ref b7), .unset, .unset, .unset] [(.ref b7)])) _
    refine st13.trans ?_
    show Steps p.tables e below (T13.setTop (mkF m 131 #[.val (.int p1), .val (.int p2), .val (.int p3), .val (.int p4), .val (.int p5), .val (.int p6), .val (.int (p1 &&& (3 : Int32))), .val (.int (p2 &&& (3 : Int32))), .val (.int (own_ch p3)), .val (.int (own_ch p4)), .val (.int (own_ch p5)), .val (.int (1 : Int32)), .val (.int (own_jk p6)), .val (.ref b7), .unset, .unset, .unset] [(.ref (T12.heap.size))])) _
    refine XS.astore X13.here hx rfl (hb hby at_131) rfl rfl (l' := #[.val (.int p1), .val (.int p2), .val (.int p3), .val (.int p4), .val (.int p5), .val (.int p6), .val (.int (p1 &&& (3 : Int32))), .val (.int (p2 &&& (3 : Int32))), .val (.int (own_ch p3)), .val (.int (own_ch p4)), .val (.int (own_ch p5)), .val (.int (1 : Int32)), .val (.int (own_jk p6)), .val (.ref b7), .val (.ref (T12.heap.size)), .unset, .unset]) rfl ?_
    show Steps p.tables e below (T13.setTop (mkF m 133 #[.val (.int p1), .val (.int p2), .val (.int p3), .val (.int p4), .val (.int p5), .val (.int p6), .val (.int (p1 &&& (3 : Int32))), .val (.int (p2 &&& (3 : Int32))), .val (.int (own_ch p3)), .val (.int (own_ch p4)), .val (.int (own_ch p5)), .val (.int (1 : Int32)), .val (.int (own_jk p6)), .val (.ref b7), .val (.ref (T12.heap.size)), .unset, .unset] [])) _
    refine XS.aload X13.here hx rfl (hb hby at_133) rfl rfl ?_
    show Steps p.tables e below (T13.setTop (mkF m 135 #[.val (.int p1), .val (.int p2), .val (.int p3), .val (.int p4), .val (.int p5), .val (.int p6), .val (.int (p1 &&& (3 : Int32))), .val (.int (p2 &&& (3 : Int32))), .val (.int (own_ch p3)), .val (.int (own_ch p4)), .val (.int (own_ch p5)), .val (.int (1 : Int32)), .val (.int (own_jk p6)), .val (.ref b7), .val (.ref (T12.heap.size)), .unset, .unset] [(.ref (T12.heap.size))])) _
    refine X13.arraylength hx (by exact Arr1.1) (State.isArrayOf_alike hZ.alike Arr1.2.1) (g := (mkF m 135 #[.val (.int p1), .val (.int p2), .val (.int p3), .val (.int p4), .val (.int p5), .val (.int p6), .val (.int (p1 &&& (3 : Int32))), .val (.int (p2 &&& (3 : Int32))), .val (.int (own_ch p3)), .val (.int (own_ch p4)), .val (.int (own_ch p5)), .val (.int (1 : Int32)), .val (.int (own_jk p6)), .val (.ref b7), .val (.ref (T12.heap.size)), .unset, .unset] [(.ref (T12.heap.size))])) rfl rfl (hb hby at_135) _ ?_
    rw [len_of Sr1 Nr1]
    show Steps p.tables e below (T13.setTop (mkF m 136 #[.val (.int p1), .val (.int p2), .val (.int p3), .val (.int p4), .val (.int p5), .val (.int p6), .val (.int (p1 &&& (3 : Int32))), .val (.int (p2 &&& (3 : Int32))), .val (.int (own_ch p3)), .val (.int (own_ch p4)), .val (.int (own_ch p5)), .val (.int (1 : Int32)), .val (.int (own_jk p6)), .val (.ref b7), .val (.ref (T12.heap.size)), .unset, .unset] [(.int (Int32.ofNat (([] ++ [(own_by (own_ch p3))]) ++ [(own_by (own_ch p4))]).length))])) _
    refine XS.iload X13.here hx rfl (hb hby at_136) rfl ?_
    show Steps p.tables e below (T13.setTop (mkF m 138 #[.val (.int p1), .val (.int p2), .val (.int p3), .val (.int p4), .val (.int p5), .val (.int p6), .val (.int (p1 &&& (3 : Int32))), .val (.int (p2 &&& (3 : Int32))), .val (.int (own_ch p3)), .val (.int (own_ch p4)), .val (.int (own_ch p5)), .val (.int (1 : Int32)), .val (.int (own_jk p6)), .val (.ref b7), .val (.ref (T12.heap.size)), .unset, .unset] [(.int (p2 &&& (3 : Int32))), (.int (Int32.ofNat (([] ++ [(own_by (own_ch p3))]) ++ [(own_by (own_ch p4))]).length))])) _
    refine XS.icmpNo X13.here hx rfl (hb hby at_138) rfl (teq (by rw [hn]; first | rfl | decide : (Int32.ofNat (([] ++ [(own_by (own_ch p3))]) ++ [(own_by (own_ch p4))]).length) = (p2 &&& (3 : Int32)))).2 ?_
    show Steps p.tables e below (T13.setTop (mkF m 141 #[.val (.int p1), .val (.int p2), .val (.int p3), .val (.int p4), .val (.int p5), .val (.int p6), .val (.int (p1 &&& (3 : Int32))), .val (.int (p2 &&& (3 : Int32))), .val (.int (own_ch p3)), .val (.int (own_ch p4)), .val (.int (own_ch p5)), .val (.int (1 : Int32)), .val (.int (own_jk p6)), .val (.ref b7), .val (.ref (T12.heap.size)), .unset, .unset] [])) _
    refine XS.aload X13.here hx rfl (hb hby at_141) rfl rfl ?_
    show Steps p.tables e below (T13.setTop (mkF m 143 #[.val (.int p1), .val (.int p2), .val (.int p3), .val (.int p4), .val (.int p5), .val (.int p6), .val (.int (p1 &&& (3 : Int32))), .val (.int (p2 &&& (3 : Int32))), .val (.int (own_ch p3)), .val (.int (own_ch p4)), .val (.int (own_ch p5)), .val (.int (1 : Int32)), .val (.int (own_jk p6)), .val (.ref b7), .val (.ref (T12.heap.size)), .unset, .unset] [(.ref b7)])) _
    refine st14.trans ?_
    show Steps p.tables e below (T14.setTop (mkF m 146 #[.val (.int p1), .val (.int p2), .val (.int p3), .val (.int p4), .val (.int p5), .val (.int p6), .val (.int (p1 &&& (3 : Int32))), .val (.int (p2 &&& (3 : Int32))), .val (.int (own_ch p3)), .val (.int (own_ch p4)), .val (.int (own_ch p5)), .val (.int (1 : Int32)), .val (.int (own_jk p6)), .val (.ref b7), .val (.ref (T12.heap.size)), .unset, .unset] [(.int (Int32.ofNat (([] ++ [(own_by (own_ch p3))]) ++ [(own_by (own_ch p4))]).length))])) _
    refine XS.iload X14.here hx rfl (hb hby at_146) rfl ?_
    show Steps p.tables e below (T14.setTop (mkF m 148 #[.val (.int p1), .val (.int p2), .val (.int p3), .val (.int p4), .val (.int p5), .val (.int p6), .val (.int (p1 &&& (3 : Int32))), .val (.int (p2 &&& (3 : Int32))), .val (.int (own_ch p3)), .val (.int (own_ch p4)), .val (.int (own_ch p5)), .val (.int (1 : Int32)), .val (.int (own_jk p6)), .val (.ref b7), .val (.ref (T12.heap.size)), .unset, .unset] [(.int (p2 &&& (3 : Int32))), (.int (Int32.ofNat (([] ++ [(own_by (own_ch p3))]) ++ [(own_by (own_ch p4))]).length))])) _
    refine XS.icmpNo X14.here hx rfl (hb hby at_148) rfl (teq (by rw [hn]; first | rfl | decide : (Int32.ofNat (([] ++ [(own_by (own_ch p3))]) ++ [(own_by (own_ch p4))]).length) = (p2 &&& (3 : Int32)))).2 ?_
    show Steps p.tables e below (T14.setTop (mkF m 151 #[.val (.int p1), .val (.int p2), .val (.int p3), .val (.int p4), .val (.int p5), .val (.int p6), .val (.int (p1 &&& (3 : Int32))), .val (.int (p2 &&& (3 : Int32))), .val (.int (own_ch p3)), .val (.int (own_ch p4)), .val (.int (own_ch p5)), .val (.int (1 : Int32)), .val (.int (own_jk p6)), .val (.ref b7), .val (.ref (T12.heap.size)), .unset, .unset] [])) _
    refine XS.aload X14.here hx rfl (hb hby at_151) rfl rfl ?_
    show Steps p.tables e below (T14.setTop (mkF m 153 #[.val (.int p1), .val (.int p2), .val (.int p3), .val (.int p4), .val (.int p5), .val (.int p6), .val (.int (p1 &&& (3 : Int32))), .val (.int (p2 &&& (3 : Int32))), .val (.int (own_ch p3)), .val (.int (own_ch p4)), .val (.int (own_ch p5)), .val (.int (1 : Int32)), .val (.int (own_jk p6)), .val (.ref b7), .val (.ref (T12.heap.size)), .unset, .unset] [(.ref (T12.heap.size))])) _
    refine XS.iload X14.here hx rfl (hb hby at_153) rfl ?_
    show Steps p.tables e below (T14.setTop (mkF m 155 #[.val (.int p1), .val (.int p2), .val (.int p3), .val (.int p4), .val (.int p5), .val (.int p6), .val (.int (p1 &&& (3 : Int32))), .val (.int (p2 &&& (3 : Int32))), .val (.int (own_ch p3)), .val (.int (own_ch p4)), .val (.int (own_ch p5)), .val (.int (1 : Int32)), .val (.int (own_jk p6)), .val (.ref b7), .val (.ref (T12.heap.size)), .unset, .unset] [(.int (p2 &&& (3 : Int32))), (.ref (T12.heap.size))])) _
    refine XS.iload X14.here hx rfl (hb hby at_155) rfl ?_
    show Steps p.tables e below (T14.setTop (mkF m 157 #[.val (.int p1), .val (.int p2), .val (.int p3), .val (.int p4), .val (.int p5), .val (.int p6), .val (.int (p1 &&& (3 : Int32))), .val (.int (p2 &&& (3 : Int32))), .val (.int (own_ch p3)), .val (.int (own_ch p4)), .val (.int (own_ch p5)), .val (.int (1 : Int32)), .val (.int (own_jk p6)), .val (.ref b7), .val (.ref (T12.heap.size)), .unset, .unset] [(.int (own_ch p3)), (.int (p2 &&& (3 : Int32))), (.ref (T12.heap.size))])) _
    refine XS.iload X14.here hx rfl (hb hby at_157) rfl ?_
    show Steps p.tables e below (T14.setTop (mkF m 159 #[.val (.int p1), .val (.int p2), .val (.int p3), .val (.int p4), .val (.int p5), .val (.int p6), .val (.int (p1 &&& (3 : Int32))), .val (.int (p2 &&& (3 : Int32))), .val (.int (own_ch p3)), .val (.int (own_ch p4)), .val (.int (own_ch p5)), .val (.int (1 : Int32)), .val (.int (own_jk p6)), .val (.ref b7), .val (.ref (T12.heap.size)), .unset, .unset] [(.int (own_ch p4)), (.int (own_ch p3)), (.int (p2 &&& (3 : Int32))), (.ref (T12.heap.size))])) _
    refine XS.iload X14.here hx rfl (hb hby at_159) rfl ?_
    show Steps p.tables e below (T14.setTop (mkF m 161 #[.val (.int p1), .val (.int p2), .val (.int p3), .val (.int p4), .val (.int p5), .val (.int p6), .val (.int (p1 &&& (3 : Int32))), .val (.int (p2 &&& (3 : Int32))), .val (.int (own_ch p3)), .val (.int (own_ch p4)), .val (.int (own_ch p5)), .val (.int (1 : Int32)), .val (.int (own_jk p6)), .val (.ref b7), .val (.ref (T12.heap.size)), .unset, .unset] [(.int (own_ch p5)), (.int (own_ch p4)), (.int (own_ch p3)), (.int (p2 &&& (3 : Int32))), (.ref (T12.heap.size))])) _
    refine st15 _ ?_
    show Steps p.tables e below (T15.setTop (mkF m 164 #[.val (.int p1), .val (.int p2), .val (.int p3), .val (.int p4), .val (.int p5), .val (.int p6), .val (.int (p1 &&& (3 : Int32))), .val (.int (p2 &&& (3 : Int32))), .val (.int (own_ch p3)), .val (.int (own_ch p4)), .val (.int (own_ch p5)), .val (.int (1 : Int32)), .val (.int (own_jk p6)), .val (.ref b7), .val (.ref (T12.heap.size)), .unset, .unset] [(.int (1 : Int32))])) _
    refine XS.ifNo X15.here hx rfl (hb hby at_164) rfl ((if0 _ _).trans (feq (by decide : ¬ ((1 : Int32) = (0 : Int32)))).1) ?_
    show Steps p.tables e below (T15.setTop (mkF m 167 #[.val (.int p1), .val (.int p2), .val (.int p3), .val (.int p4), .val (.int p5), .val (.int p6), .val (.int (p1 &&& (3 : Int32))), .val (.int (p2 &&& (3 : Int32))), .val (.int (own_ch p3)), .val (.int (own_ch p4)), .val (.int (own_ch p5)), .val (.int (1 : Int32)), .val (.int (own_jk p6)), .val (.ref b7), .val (.ref (T12.heap.size)), .unset, .unset] [])) _
    refine XS.iconst X15.here hx rfl (hb hby at_167) ?_
    show Steps p.tables e below (T15.setTop (mkF m 168 #[.val (.int p1), .val (.int p2), .val (.int p3), .val (.int p4), .val (.int p5), .val (.int p6), .val (.int (p1 &&& (3 : Int32))), .val (.int (p2 &&& (3 : Int32))), .val (.int (own_ch p3)), .val (.int (own_ch p4)), .val (.int (own_ch p5)), .val (.int (1 : Int32)), .val (.int (own_jk p6)), .val (.ref b7), .val (.ref (T12.heap.size)), .unset, .unset] [(.int (1 : Int32))])) _
    refine XS.goto X15.here hx rfl (pc0 := 168) (pc' := 172) rfl (hb hby at_168) (by decide) (by decide) ?_
    show Steps p.tables e below (T15.setTop (mkF m 172 #[.val (.int p1), .val (.int p2), .val (.int p3), .val (.int p4), .val (.int p5), .val (.int p6), .val (.int (p1 &&& (3 : Int32))), .val (.int (p2 &&& (3 : Int32))), .val (.int (own_ch p3)), .val (.int (own_ch p4)), .val (.int (own_ch p5)), .val (.int (1 : Int32)), .val (.int (own_jk p6)), .val (.ref b7), .val (.ref (T12.heap.size)), .unset, .unset] [(.int (1 : Int32))])) _
    refine XS.istore X15.here hx rfl (hb hby at_172) rfl (l' := #[.val (.int p1), .val (.int p2), .val (.int p3), .val (.int p4), .val (.int p5), .val (.int p6), .val (.int (p1 &&& (3 : Int32))), .val (.int (p2 &&& (3 : Int32))), .val (.int (own_ch p3)), .val (.int (own_ch p4)), .val (.int (own_ch p5)), .val (.int (1 : Int32)), .val (.int (own_jk p6)), .val (.ref b7), .val (.ref (T12.heap.size)), .val (.int (1 : Int32)), .unset]) rfl ?_
    show Steps p.tables e below (T15.setTop (mkF m 174 #[.val (.int p1), .val (.int p2), .val (.int p3), .val (.int p4), .val (.int p5), .val (.int p6), .val (.int (p1 &&& (3 : Int32))), .val (.int (p2 &&& (3 : Int32))), .val (.int (own_ch p3)), .val (.int (own_ch p4)), .val (.int (own_ch p5)), .val (.int (1 : Int32)), .val (.int (own_jk p6)), .val (.ref b7), .val (.ref (T12.heap.size)), .val (.int (1 : Int32)), .unset] [])) _
    refine XS.iload X15.here hx rfl (hb hby at_174) rfl ?_
    show Steps p.tables e below (T15.setTop (mkF m 176 #[.val (.int p1), .val (.int p2), .val (.int p3), .val (.int p4), .val (.int p5), .val (.int p6), .val (.int (p1 &&& (3 : Int32))), .val (.int (p2 &&& (3 : Int32))), .val (.int (own_ch p3)), .val (.int (own_ch p4)), .val (.int (own_ch p5)), .val (.int (1 : Int32)), .val (.int (own_jk p6)), .val (.ref b7), .val (.ref (T12.heap.size)), .val (.int (1 : Int32)), .unset] [(.int (1 : Int32))])) _
    refine XS.ifYes X15.here hx rfl (pc0 := 176) (pc' := 181) rfl (hb hby at_176) rfl ((if0 _ _).trans (feq hc176).2) (by decide) (by decide) ?_
    show Steps p.tables e below (T15.setTop (mkF m 181 #[.val (.int p1), .val (.int p2), .val (.int p3), .val (.int p4), .val (.int p5), .val (.int p6), .val (.int (p1 &&& (3 : Int32))), .val (.int (p2 &&& (3 : Int32))), .val (.int (own_ch p3)), .val (.int (own_ch p4)), .val (.int (own_ch p5)), .val (.int (1 : Int32)), .val (.int (own_jk p6)), .val (.ref b7), .val (.ref (T12.heap.size)), .val (.int (1 : Int32)), .unset] [])) _
    refine XS.iload X15.here hx rfl (hb hby at_181) rfl ?_
    show Steps p.tables e below (T15.setTop (mkF m 183 #[.val (.int p1), .val (.int p2), .val (.int p3), .val (.int p4), .val (.int p5), .val (.int p6), .val (.int (p1 &&& (3 : Int32))), .val (.int (p2 &&& (3 : Int32))), .val (.int (own_ch p3)), .val (.int (own_ch p4)), .val (.int (own_ch p5)), .val (.int (1 : Int32)), .val (.int (own_jk p6)), .val (.ref b7), .val (.ref (T12.heap.size)), .val (.int (1 : Int32)), .unset] [(.int (p2 &&& (3 : Int32)))])) _
    refine XS.ifNo X15.here hx rfl (hb hby at_183) rfl ((if0 _ _).trans (tlt hc183).2.2.2) ?_
    show Steps p.tables e below (T15.setTop (mkF m 186 #[.val (.int p1), .val (.int p2), .val (.int p3), .val (.int p4), .val (.int p5), .val (.int p6), .val (.int (p1 &&& (3 : Int32))), .val (.int (p2 &&& (3 : Int32))), .val (.int (own_ch p3)), .val (.int (own_ch p4)), .val (.int (own_ch p5)), .val (.int (1 : Int32)), .val (.int (own_jk p6)), .val (.ref b7), .val (.ref (T12.heap.size)), .val (.int (1 : Int32)), .unset] [])) _
    refine XS.aload X15.here hx rfl (hb hby at_186) rfl rfl ?_
    show Steps p.tables e below (T15.setTop (mkF m 188 #[.val (.int p1), .val (.int p2), .val (.int p3), .val (.int p4), .val (.int p5), .val (.int p6), .val (.int (p1 &&& (3 : Int32))), .val (.int (p2 &&& (3 : Int32))), .val (.int (own_ch p3)), .val (.int (own_ch p4)), .val (.int (own_ch p5)), .val (.int (1 : Int32)), .val (.int (own_jk p6)), .val (.ref b7), .val (.ref (T12.heap.size)), .val (.int (1 : Int32)), .unset] [(.ref (T12.heap.size))])) _
    refine XS.iconst X15.here hx rfl (hb hby at_188) ?_
    show Steps p.tables e below (T15.setTop (mkF m 189 #[.val (.int p1), .val (.int p2), .val (.int p3), .val (.int p4), .val (.int p5), .val (.int p6), .val (.int (p1 &&& (3 : Int32))), .val (.int (p2 &&& (3 : Int32))), .val (.int (own_ch p3)), .val (.int (own_ch p4)), .val (.int (own_ch p5)), .val (.int (1 : Int32)), .val (.int (own_jk p6)), .val (.ref b7), .val (.ref (T12.heap.size)), .val (.int (1 : Int32)), .unset] [(.int (0 : Int32)), (.ref (T12.heap.size))])) _
    refine XS.aload X15.here hx rfl (hb hby at_189) rfl rfl ?_
    show Steps p.tables e below (T15.setTop (mkF m 191 #[.val (.int p1), .val (.int p2), .val (.int p3), .val (.int p4), .val (.int p5), .val (.int p6), .val (.int (p1 &&& (3 : Int32))), .val (.int (p2 &&& (3 : Int32))), .val (.int (own_ch p3)), .val (.int (own_ch p4)), .val (.int (own_ch p5)), .val (.int (1 : Int32)), .val (.int (own_jk p6)), .val (.ref b7), .val (.ref (T12.heap.size)), .val (.int (1 : Int32)), .unset] [(.ref (T12.heap.size)), (.int (0 : Int32)), (.ref (T12.heap.size))])) _
    refine XS.iconst X15.here hx rfl (hb hby at_191) ?_
    show Steps p.tables e below (T15.setTop (mkF m 192 #[.val (.int p1), .val (.int p2), .val (.int p3), .val (.int p4), .val (.int p5), .val (.int p6), .val (.int (p1 &&& (3 : Int32))), .val (.int (p2 &&& (3 : Int32))), .val (.int (own_ch p3)), .val (.int (own_ch p4)), .val (.int (own_ch p5)), .val (.int (1 : Int32)), .val (.int (own_jk p6)), .val (.ref b7), .val (.ref (T12.heap.size)), .val (.int (1 : Int32)), .unset] [(.int (0 : Int32)), (.ref (T12.heap.size)), (.int (0 : Int32)), (.ref (T12.heap.size))])) _
    refine X15.baloadBytes hx (j := (0 : Int32)) (v := (.int (own_by (own_ch p3)))) (by rw [hh15]; exact Arr1.1) (State.isArrayOf_alike hZ.alike Arr1.2.1) Arr1.2.2 hin192 hat192 (g := (mkF m 192 #[.val (.int p1), .val (.int p2), .val (.int p3), .val (.int p4), .val (.int p5), .val (.int p6), .val (.int (p1 &&& (3 : Int32))), .val (.int (p2 &&& (3 : Int32))), .val (.int (own_ch p3)), .val (.int (own_ch p4)), .val (.int (own_ch p5)), .val (.int (1 : Int32)), .val (.int (own_jk p6)), .val (.ref b7), .val (.ref (T12.heap.size)), .val (.int (1 : Int32)), .unset] [(.int (0 : Int32)), (.ref (T12.heap.size)), (.int (0 : Int32)), (.ref (T12.heap.size))])) rfl rfl (hb hby at_192) _ ?_
    show Steps p.tables e below (T15.setTop (mkF m 193 #[.val (.int p1), .val (.int p2), .val (.int p3), .val (.int p4), .val (.int p5), .val (.int p6), .val (.int (p1 &&& (3 : Int32))), .val (.int (p2 &&& (3 : Int32))), .val (.int (own_ch p3)), .val (.int (own_ch p4)), .val (.int (own_ch p5)), .val (.int (1 : Int32)), .val (.int (own_jk p6)), .val (.ref b7), .val (.ref (T12.heap.size)), .val (.int (1 : Int32)), .unset] [(.int (own_by (own_ch p3))), (.int (0 : Int32)), (.ref (T12.heap.size))])) _
    refine XS.bipush X15.here hx rfl (hb hby at_193) ?_
    show Steps p.tables e below (T15.setTop (mkF m 195 #[.val (.int p1), .val (.int p2), .val (.int p3), .val (.int p4), .val (.int p5), .val (.int p6), .val (.int (p1 &&& (3 : Int32))), .val (.int (p2 &&& (3 : Int32))), .val (.int (own_ch p3)), .val (.int (own_ch p4)), .val (.int (own_ch p5)), .val (.int (1 : Int32)), .val (.int (own_jk p6)), .val (.ref b7), .val (.ref (T12.heap.size)), .val (.int (1 : Int32)), .unset] [(.int (64 : Int32)), (.int (own_by (own_ch p3))), (.int (0 : Int32)), (.ref (T12.heap.size))])) _
    refine XS.ixor X15.here hx rfl (hb hby at_195) rfl ?_
    show Steps p.tables e below (T15.setTop (mkF m 196 #[.val (.int p1), .val (.int p2), .val (.int p3), .val (.int p4), .val (.int p5), .val (.int p6), .val (.int (p1 &&& (3 : Int32))), .val (.int (p2 &&& (3 : Int32))), .val (.int (own_ch p3)), .val (.int (own_ch p4)), .val (.int (own_ch p5)), .val (.int (1 : Int32)), .val (.int (own_jk p6)), .val (.ref b7), .val (.ref (T12.heap.size)), .val (.int (1 : Int32)), .unset] [(.int ((own_by (own_ch p3)) ^^^ (64 : Int32))), (.int (0 : Int32)), (.ref (T12.heap.size))])) _
    refine XS.i2b X15.here hx rfl (hb hby at_196) rfl ?_
    show Steps p.tables e below (T15.setTop (mkF m 197 #[.val (.int p1), .val (.int p2), .val (.int p3), .val (.int p4), .val (.int p5), .val (.int p6), .val (.int (p1 &&& (3 : Int32))), .val (.int (p2 &&& (3 : Int32))), .val (.int (own_ch p3)), .val (.int (own_ch p4)), .val (.int (own_ch p5)), .val (.int (1 : Int32)), .val (.int (own_jk p6)), .val (.ref b7), .val (.ref (T12.heap.size)), .val (.int (1 : Int32)), .unset] [(.int (((own_by (own_ch p3)) ^^^ (64 : Int32)).toInt8.toInt32)), (.int (0 : Int32)), (.ref (T12.heap.size))])) _
    refine st17 _ ?_
    show Steps p.tables e below (T17.setTop (mkF m 198 #[.val (.int p1), .val (.int p2), .val (.int p3), .val (.int p4), .val (.int p5), .val (.int p6), .val (.int (p1 &&& (3 : Int32))), .val (.int (p2 &&& (3 : Int32))), .val (.int (own_ch p3)), .val (.int (own_ch p4)), .val (.int (own_ch p5)), .val (.int (1 : Int32)), .val (.int (own_jk p6)), .val (.ref b7), .val (.ref (T12.heap.size)), .val (.int (1 : Int32)), .unset] [])) _
    refine XS.aload X17.here hx rfl (hb hby at_198) rfl rfl ?_
    show Steps p.tables e below (T17.setTop (mkF m 200 #[.val (.int p1), .val (.int p2), .val (.int p3), .val (.int p4), .val (.int p5), .val (.int p6), .val (.int (p1 &&& (3 : Int32))), .val (.int (p2 &&& (3 : Int32))), .val (.int (own_ch p3)), .val (.int (own_ch p4)), .val (.int (own_ch p5)), .val (.int (1 : Int32)), .val (.int (own_jk p6)), .val (.ref b7), .val (.ref (T12.heap.size)), .val (.int (1 : Int32)), .unset] [(.ref b7)])) _
    refine st18.trans ?_
    show Steps p.tables e below (T18.setTop (mkF m 203 #[.val (.int p1), .val (.int p2), .val (.int p3), .val (.int p4), .val (.int p5), .val (.int p6), .val (.int (p1 &&& (3 : Int32))), .val (.int (p2 &&& (3 : Int32))), .val (.int (own_ch p3)), .val (.int (own_ch p4)), .val (.int (own_ch p5)), .val (.int (1 : Int32)), .val (.int (own_jk p6)), .val (.ref b7), .val (.ref (T12.heap.size)), .val (.int (1 : Int32)), .unset] [(.ref (h17.size))])) _
    refine XS.astore X18.here hx rfl (hb hby at_203) rfl rfl (l' := #[.val (.int p1), .val (.int p2), .val (.int p3), .val (.int p4), .val (.int p5), .val (.int p6), .val (.int (p1 &&& (3 : Int32))), .val (.int (p2 &&& (3 : Int32))), .val (.int (own_ch p3)), .val (.int (own_ch p4)), .val (.int (own_ch p5)), .val (.int (1 : Int32)), .val (.int (own_jk p6)), .val (.ref b7), .val (.ref (T12.heap.size)), .val (.int (1 : Int32)), .val (.ref (h17.size))]) rfl ?_
    show Steps p.tables e below (T18.setTop (mkF m 205 #[.val (.int p1), .val (.int p2), .val (.int p3), .val (.int p4), .val (.int p5), .val (.int p6), .val (.int (p1 &&& (3 : Int32))), .val (.int (p2 &&& (3 : Int32))), .val (.int (own_ch p3)), .val (.int (own_ch p4)), .val (.int (own_ch p5)), .val (.int (1 : Int32)), .val (.int (own_jk p6)), .val (.ref b7), .val (.ref (T12.heap.size)), .val (.int (1 : Int32)), .val (.ref (h17.size))] [])) _
    refine XS.aload X18.here hx rfl (hb hby at_205) rfl rfl ?_
    show Steps p.tables e below (T18.setTop (mkF m 207 #[.val (.int p1), .val (.int p2), .val (.int p3), .val (.int p4), .val (.int p5), .val (.int p6), .val (.int (p1 &&& (3 : Int32))), .val (.int (p2 &&& (3 : Int32))), .val (.int (own_ch p3)), .val (.int (own_ch p4)), .val (.int (own_ch p5)), .val (.int (1 : Int32)), .val (.int (own_jk p6)), .val (.ref b7), .val (.ref (T12.heap.size)), .val (.int (1 : Int32)), .val (.ref (h17.size))] [(.ref (h17.size))])) _
    refine X18.arraylength hx (by exact Arr2.1) (State.isArrayOf_alike hZ.alike Arr2.2.1) (g := (mkF m 207 #[.val (.int p1), .val (.int p2), .val (.int p3), .val (.int p4), .val (.int p5), .val (.int p6), .val (.int (p1 &&& (3 : Int32))), .val (.int (p2 &&& (3 : Int32))), .val (.int (own_ch p3)), .val (.int (own_ch p4)), .val (.int (own_ch p5)), .val (.int (1 : Int32)), .val (.int (own_jk p6)), .val (.ref b7), .val (.ref (T12.heap.size)), .val (.int (1 : Int32)), .val (.ref (h17.size))] [(.ref (h17.size))])) rfl rfl (hb hby at_207) _ ?_
    rw [len_of Sr2 Nr2]
    show Steps p.tables e below (T18.setTop (mkF m 208 #[.val (.int p1), .val (.int p2), .val (.int p3), .val (.int p4), .val (.int p5), .val (.int p6), .val (.int (p1 &&& (3 : Int32))), .val (.int (p2 &&& (3 : Int32))), .val (.int (own_ch p3)), .val (.int (own_ch p4)), .val (.int (own_ch p5)), .val (.int (1 : Int32)), .val (.int (own_jk p6)), .val (.ref b7), .val (.ref (T12.heap.size)), .val (.int (1 : Int32)), .val (.ref (h17.size))] [(.int (Int32.ofNat (([] ++ [(own_by (own_ch p3))]) ++ [(own_by (own_ch p4))]).length))])) _
    refine XS.iload X18.here hx rfl (hb hby at_208) rfl ?_
    show Steps p.tables e below (T18.setTop (mkF m 210 #[.val (.int p1), .val (.int p2), .val (.int p3), .val (.int p4), .val (.int p5), .val (.int p6), .val (.int (p1 &&& (3 : Int32))), .val (.int (p2 &&& (3 : Int32))), .val (.int (own_ch p3)), .val (.int (own_ch p4)), .val (.int (own_ch p5)), .val (.int (1 : Int32)), .val (.int (own_jk p6)), .val (.ref b7), .val (.ref (T12.heap.size)), .val (.int (1 : Int32)), .val (.ref (h17.size))] [(.int (p2 &&& (3 : Int32))), (.int (Int32.ofNat (([] ++ [(own_by (own_ch p3))]) ++ [(own_by (own_ch p4))]).length))])) _
    refine XS.icmpNo X18.here hx rfl (hb hby at_210) rfl (teq (by rw [hn]; first | rfl | decide : (Int32.ofNat (([] ++ [(own_by (own_ch p3))]) ++ [(own_by (own_ch p4))]).length) = (p2 &&& (3 : Int32)))).2 ?_
    show Steps p.tables e below (T18.setTop (mkF m 213 #[.val (.int p1), .val (.int p2), .val (.int p3), .val (.int p4), .val (.int p5), .val (.int p6), .val (.int (p1 &&& (3 : Int32))), .val (.int (p2 &&& (3 : Int32))), .val (.int (own_ch p3)), .val (.int (own_ch p4)), .val (.int (own_ch p5)), .val (.int (1 : Int32)), .val (.int (own_jk p6)), .val (.ref b7), .val (.ref (T12.heap.size)), .val (.int (1 : Int32)), .val (.ref (h17.size))] [])) _
    refine XS.aload X18.here hx rfl (hb hby at_213) rfl rfl ?_
    show Steps p.tables e below (T18.setTop (mkF m 215 #[.val (.int p1), .val (.int p2), .val (.int p3), .val (.int p4), .val (.int p5), .val (.int p6), .val (.int (p1 &&& (3 : Int32))), .val (.int (p2 &&& (3 : Int32))), .val (.int (own_ch p3)), .val (.int (own_ch p4)), .val (.int (own_ch p5)), .val (.int (1 : Int32)), .val (.int (own_jk p6)), .val (.ref b7), .val (.ref (T12.heap.size)), .val (.int (1 : Int32)), .val (.ref (h17.size))] [(.ref (h17.size))])) _
    refine XS.iload X18.here hx rfl (hb hby at_215) rfl ?_
    show Steps p.tables e below (T18.setTop (mkF m 217 #[.val (.int p1), .val (.int p2), .val (.int p3), .val (.int p4), .val (.int p5), .val (.int p6), .val (.int (p1 &&& (3 : Int32))), .val (.int (p2 &&& (3 : Int32))), .val (.int (own_ch p3)), .val (.int (own_ch p4)), .val (.int (own_ch p5)), .val (.int (1 : Int32)), .val (.int (own_jk p6)), .val (.ref b7), .val (.ref (T12.heap.size)), .val (.int (1 : Int32)), .val (.ref (h17.size))] [(.int (p2 &&& (3 : Int32))), (.ref (h17.size))])) _
    refine XS.iload X18.here hx rfl (hb hby at_217) rfl ?_
    show Steps p.tables e below (T18.setTop (mkF m 219 #[.val (.int p1), .val (.int p2), .val (.int p3), .val (.int p4), .val (.int p5), .val (.int p6), .val (.int (p1 &&& (3 : Int32))), .val (.int (p2 &&& (3 : Int32))), .val (.int (own_ch p3)), .val (.int (own_ch p4)), .val (.int (own_ch p5)), .val (.int (1 : Int32)), .val (.int (own_jk p6)), .val (.ref b7), .val (.ref (T12.heap.size)), .val (.int (1 : Int32)), .val (.ref (h17.size))] [(.int (own_ch p3)), (.int (p2 &&& (3 : Int32))), (.ref (h17.size))])) _
    refine XS.iload X18.here hx rfl (hb hby at_219) rfl ?_
    show Steps p.tables e below (T18.setTop (mkF m 221 #[.val (.int p1), .val (.int p2), .val (.int p3), .val (.int p4), .val (.int p5), .val (.int p6), .val (.int (p1 &&& (3 : Int32))), .val (.int (p2 &&& (3 : Int32))), .val (.int (own_ch p3)), .val (.int (own_ch p4)), .val (.int (own_ch p5)), .val (.int (1 : Int32)), .val (.int (own_jk p6)), .val (.ref b7), .val (.ref (T12.heap.size)), .val (.int (1 : Int32)), .val (.ref (h17.size))] [(.int (own_ch p4)), (.int (own_ch p3)), (.int (p2 &&& (3 : Int32))), (.ref (h17.size))])) _
    refine XS.iload X18.here hx rfl (hb hby at_221) rfl ?_
    show Steps p.tables e below (T18.setTop (mkF m 223 #[.val (.int p1), .val (.int p2), .val (.int p3), .val (.int p4), .val (.int p5), .val (.int p6), .val (.int (p1 &&& (3 : Int32))), .val (.int (p2 &&& (3 : Int32))), .val (.int (own_ch p3)), .val (.int (own_ch p4)), .val (.int (own_ch p5)), .val (.int (1 : Int32)), .val (.int (own_jk p6)), .val (.ref b7), .val (.ref (T12.heap.size)), .val (.int (1 : Int32)), .val (.ref (h17.size))] [(.int (own_ch p5)), (.int (own_ch p4)), (.int (own_ch p3)), (.int (p2 &&& (3 : Int32))), (.ref (h17.size))])) _
    refine st19 _ ?_
    show Steps p.tables e below (T19.setTop (mkF m 226 #[.val (.int p1), .val (.int p2), .val (.int p3), .val (.int p4), .val (.int p5), .val (.int p6), .val (.int (p1 &&& (3 : Int32))), .val (.int (p2 &&& (3 : Int32))), .val (.int (own_ch p3)), .val (.int (own_ch p4)), .val (.int (own_ch p5)), .val (.int (1 : Int32)), .val (.int (own_jk p6)), .val (.ref b7), .val (.ref (T12.heap.size)), .val (.int (1 : Int32)), .val (.ref (h17.size))] [(.int (1 : Int32))])) _
    refine XS.ifNo X19.here hx rfl (hb hby at_226) rfl ((if0 _ _).trans (feq (by decide : ¬ ((1 : Int32) = (0 : Int32)))).1) ?_
    show Steps p.tables e below (T19.setTop (mkF m 229 #[.val (.int p1), .val (.int p2), .val (.int p3), .val (.int p4), .val (.int p5), .val (.int p6), .val (.int (p1 &&& (3 : Int32))), .val (.int (p2 &&& (3 : Int32))), .val (.int (own_ch p3)), .val (.int (own_ch p4)), .val (.int (own_ch p5)), .val (.int (1 : Int32)), .val (.int (own_jk p6)), .val (.ref b7), .val (.ref (T12.heap.size)), .val (.int (1 : Int32)), .val (.ref (h17.size))] [])) _
    refine XS.iconst X19.here hx rfl (hb hby at_229) ?_
    show Steps p.tables e below (T19.setTop (mkF m 230 #[.val (.int p1), .val (.int p2), .val (.int p3), .val (.int p4), .val (.int p5), .val (.int p6), .val (.int (p1 &&& (3 : Int32))), .val (.int (p2 &&& (3 : Int32))), .val (.int (own_ch p3)), .val (.int (own_ch p4)), .val (.int (own_ch p5)), .val (.int (1 : Int32)), .val (.int (own_jk p6)), .val (.ref b7), .val (.ref (T12.heap.size)), .val (.int (1 : Int32)), .val (.ref (h17.size))] [(.int (1 : Int32))])) _
    refine XS.goto X19.here hx rfl (pc0 := 230) (pc' := 234) rfl (hb hby at_230) (by decide) (by decide) ?_
    show Steps p.tables e below (T19.setTop (mkF m 234 #[.val (.int p1), .val (.int p2), .val (.int p3), .val (.int p4), .val (.int p5), .val (.int p6), .val (.int (p1 &&& (3 : Int32))), .val (.int (p2 &&& (3 : Int32))), .val (.int (own_ch p3)), .val (.int (own_ch p4)), .val (.int (own_ch p5)), .val (.int (1 : Int32)), .val (.int (own_jk p6)), .val (.ref b7), .val (.ref (T12.heap.size)), .val (.int (1 : Int32)), .val (.ref (h17.size))] [(.int (1 : Int32))])) _
    exact retN X19 hx (t := .boolean) Bd.returns (by simp) (hb hby at_234) hr
  · show Q0 h0 n0 _ T19.heap _
    exact ⟨rfl, N19⟩
set_option maxRecDepth 65536 in
set_option maxHeartbeats 40000000 in
theorem rm0_c1n3 (l : Launch) (Z : State) (a0 : Array Value) (hw : ∀ d ∈ tables_1, d.before a0 Z = true) (ws : List Jvm.Cond) (p1 : Int32) (p2 : Int32) (p3 : Int32) (p4 : Int32) (p5 : Int32) (p6 : Int32) (h0 : Heap) (n0 : Nat) (Z0 : n0 ≤ h0.size) (cap : Nat) (hcap : (p1 &&& (3 : Int32)) = Int32.ofNat cap) (hcap3 : cap ≤ 3) (hn : (p2 &&& (3 : Int32)) = (3 : Int32)) (hc36 : ¬ ((p6 &&& (1 : Int32)) = (0 : Int32))) :
    MetFree l x (head1 (Jvm.Cond.code x code maxLocals ret :: ws) room_1) (fun a U => a = #[(.int p1), (.int p2), (.int p3), (.int p4), (.int p5), (.int p6)] ∧ Z.Warmed39 U.vm ∧ U.heap = h0) (fun _ _ _ _ _ => True) (fun _ U o U' => ∃ v L, o = .returned v ∧ Q0 h0 n0 v U'.heap L ∧ FrameEnd U o U' L room_1.cells room_1.slots) := by
  have hc87 : (0 : Int32) < (p2 &&& (3 : Int32)) := by rw [hn]; decide
  have hc101 : (1 : Int32) < (p2 &&& (3 : Int32)) := by rw [hn]; decide
  have hc115 : (2 : Int32) < (p2 &&& (3 : Int32)) := by rw [hn]; decide
  have hc183 : (0 : Int32) < (p2 &&& (3 : Int32)) := by rw [hn]; decide
  have hc69 : ¬ ((1 : Int32) = (0 : Int32)) := by decide
  have hc176 : ¬ ((1 : Int32) = (0 : Int32)) := by decide
  refine MetFree.of_bodySF (plainFor_of_name pn_0) hisR ?_
  intro p e s m args below meth c s₁ Bd hml0 hP hK
  obtain ⟨rfl, hZ, hh⟩ := hP
  have hx := Bd.exec
  have hby := Bd.bytes
  have hml : c.maxLocals = 17 := hml0
  have hown : s.vm.findClass "com/example/acompte/acompte/Utf8BuilderToByteArrayPinLaw" = some m.cls := findClass_of_methodNamed Bd.named
  have hnm := (name_of_methodNamed Bd.named Bd.method).1
  have X0 : Stand p l e room_1 s m #[(.int p1), (.int p2), (.int p3), (.int p4), (.int p5), (.int p6)] below meth c s₁ [] 0 0 := Stand.of_body Bd
  have e0 : s₁.heap = h0 := by rw [← hh, Bd.state]; rfl
  have N0 := Fr.nil n0
  have pre0 : ∀ t, Steps p.tables e below (s₁.setTop (mkF m 0 #[.val (.int p1), .val (.int p2), .val (.int p3), .val (.int p4), .val (.int p5), .val (.int p6), .unset, .unset, .unset, .unset, .unset, .unset, .unset, .unset, .unset, .unset, .unset] [])) t → Steps p.tables e below (s₁.setTop (entryFrame m #[(.int p1), (.int p2), (.int p3), (.int p4), (.int p5), (.int p6)] maxLocals)) t := fun t k => castTop (ef_0 m p1 p2 p3 p4 p5 p6) k
  -- 3. LAWS
  obtain ⟨T7, h7, X7, e7, E7, A7, D7, -, st7⟩ := newO X0 hx hZ hown (hw _ (List.mem_of_getElem? (i := 0) rfl)) (hw _ (List.mem_of_getElem? (i := 1) rfl)) (hw _ (List.mem_of_getElem? (i := 2) rfl)) e0 (g := (mkF m 56 #[.val (.int p1), .val (.int p2), .val (.int p3), .val (.int p4), .val (.int p5), .val (.int p6), .val (.int (p1 &&& (3 : Int32))), .val (.int (p2 &&& (3 : Int32))), .val (.int (own_ch p3)), .val (.int (own_ch p4)), .val (.int (own_ch p5)), .val (.int (1 : Int32)), .val (.int (own_jk p6)), .unset, .unset, .unset, .unset] [])) rfl (hb hby at_56) (by decide) (by decide)
  obtain ⟨b7, g7⟩ : ∃ z, z = h0.size := ⟨_, rfl⟩      -- the fresh object's address
  rw [← g7] at A7 D7 st7      -- A7 : Exa Z h7 b7 "com/example/acompte/acompte/Utf8Builder"; E7 : Ext h0 h7 (carries every older fact: .ext E7)
  have F_bytes_b7 : Fld Z h7 b7 "com/example/acompte/acompte/Utf8Builder" "bytes" "[B" .null := D7 (Or.inl (hw _ (List.mem_of_getElem? (i := 11) rfl))) (ty := (.array .byte)) (by decide)
  have F_length_b7 : Fld Z h7 b7 "com/example/acompte/acompte/Utf8Builder" "length" "I" (.int (0 : Int32)) := D7 (Or.inl (hw _ (List.mem_of_getElem? (i := 22) rfl))) (ty := .int) (by decide)
  have E_b7 := A7
  have g_b7 : n0 ≤ b7 := Nat.le_trans Z0 (Nat.le_of_eq g7.symm)
  obtain ⟨_, _, ⟨T8, L8, k8, n8⟩, -, X8, ⟨Lc8, hQ8, l8, y8, z8⟩, st8⟩ := X7.specialBack hx (y := (⟨"com/example/acompte/acompte/Utf8Builder", "<init>", "(I)V"⟩ : MethodName)) rfl hown (mvT hZ (hw _ (List.mem_of_getElem? (i := 3) rfl))) (mvT hZ (hw _ (List.mem_of_getElem? (i := 4) rfl))) (mvT hZ (hw _ (List.mem_of_getElem? (i := 5) rfl))) (by decide) (backOf (W := 1) (rm1_i l Z a0 hw [] b7 (p1 &&& (3 : Int32)) .null cap h7 n0 (Nat.le_trans Z0 E7.1) E_b7 F_bytes_b7 F_length_b7 g_b7 hcap hcap3) hZ (hw _ (List.mem_of_getElem? (i := 5) rfl)) (hw _ (List.mem_of_getElem? (i := 2) rfl)) (by decide) (by decide)) (g := (mkF m 62 #[.val (.int p1), .val (.int p2), .val (.int p3), .val (.int p4), .val (.int p5), .val (.int p6), .val (.int (p1 &&& (3 : Int32))), .val (.int (p2 &&& (3 : Int32))), .val (.int (own_ch p3)), .val (.int (own_ch p4)), .val (.int (own_ch p5)), .val (.int (1 : Int32)), .val (.int (own_jk p6)), .unset, .unset, .unset, .unset] [(.int (p1 &&& (3 : Int32))), (.ref b7), (.ref b7)])) rfl (by rw [hml]; rfl) (Steps.refl _) (a := b7) (argsL := [(.int (p1 &&& (3 : Int32)))]) (rest := [(.ref b7)]) (lenOf pdw_4 rfl) rfl (by show 2 * 0 + _ ≤ _; exact Nat.le_of_eq rfl) (hb hby at_62) (fun _ _ => ⟨rfl, e7, (by decide : 1 + 1 ≤ _), (by decide : 2 + 8 ≤ _)⟩)
  dsimp only [Pt.U, Pt.locs, Pt.cells, Pt.slots] at X8 l8 y8 z8 st8 hQ8
  subst l8 y8 z8
  obtain ⟨rfl, N8q, zh, BB⟩ := hQ8
  have ZB : n0 ≤ T8.heap.size := Nat.le_trans (Nat.le_trans Z0 E7.1) zh
  have EB := BB.exa
  have N8 := Fr.app N0 N8q
  obtain ⟨cq9, kq9, q9a, q9b, q9c⟩ := isOf hZ rfl EB
  obtain ⟨_, _, ⟨T9, L9, k9, n9⟩, -, X9, ⟨Lc9, hQ9, l9, y9, z9⟩, st9⟩ := X8.virtualBack hx (y := (⟨"com/example/acompte/acompte/Utf8Builder", "append", "(C)Lcom/example/acompte/acompte/Utf8Builder;"⟩ : MethodName)) (z := (⟨"com/example/acompte/acompte/Utf8Builder", "append", "(C)Lcom/example/acompte/acompte/Utf8Builder;"⟩ : MethodName)) hown (mvT hZ (hw _ (List.mem_of_getElem? (i := 12) rfl))) (mvT hZ (hw _ (List.mem_of_getElem? (i := 13) rfl))) (notFace_of_selects (args := #[]) (mvT hZ (hw _ (List.mem_of_getElem? (i := 15) rfl)))) (mvT hZ (hw _ (List.mem_of_getElem? (i := 15) rfl))) (mvT hZ (hw _ (List.mem_of_getElem? (i := 14) rfl))) (by decide) (backOf (W := 0) (rm3_a l Z a0 hw [] b7 (own_jk p6) cap [] T8.heap n0 ZB BB (by first | decide | simp)) hZ (hw _ (List.mem_of_getElem? (i := 16) rfl)) (hw _ (List.mem_of_getElem? (i := 2) rfl)) (by decide) (by decide)) q9a q9c (g := (mkF m 76 #[.val (.int p1), .val (.int p2), .val (.int p3), .val (.int p4), .val (.int p5), .val (.int p6), .val (.int (p1 &&& (3 : Int32))), .val (.int (p2 &&& (3 : Int32))), .val (.int (own_ch p3)), .val (.int (own_ch p4)), .val (.int (own_ch p5)), .val (.int (1 : Int32)), .val (.int (own_jk p6)), .val (.ref b7), .unset, .unset, .unset] [(.int (own_jk p6)), (.ref b7)])) rfl (by rw [hml]; rfl) (Steps.refl _) (argsL := [(.int (own_jk p6))]) (rest := []) (lenOf pdw_8 rfl) rfl (by show 2 * 0 + _ ≤ _; exact Nat.le_of_eq rfl) (hb hby at_76) (fun _ _ => ⟨rfl, rfl, (by decide : 2 + 1 ≤ _), (by decide : 10 + 8 ≤ _)⟩)
  dsimp only [Pt.U, Pt.locs, Pt.cells, Pt.slots] at X9 l9 y9 z9 st9 hQ9
  subst l9 y9 z9
  obtain ⟨rfl, N9q, zh, c9, BB⟩ := hQ9
  have ZB : n0 ≤ T9.heap.size := Nat.le_trans ZB zh
  have EB := BB.exa
  have N9 := Fr.app N8 N9q
  obtain ⟨cq10, kq10, q10a, q10b, q10c⟩ := isOf hZ rfl EB
  obtain ⟨_, _, ⟨T10, L10, k10, n10⟩, -, X10, ⟨Lc10, hQ10, l10, y10, z10⟩, st10⟩ := X9.virtualBack hx (y := (⟨"com/example/acompte/acompte/Utf8Builder", "clear", "()V"⟩ : MethodName)) (z := (⟨"com/example/acompte/acompte/Utf8Builder", "clear", "()V"⟩ : MethodName)) hown (mvT hZ (hw _ (List.mem_of_getElem? (i := 38) rfl))) (mvT hZ (hw _ (List.mem_of_getElem? (i := 39) rfl))) (notFace_of_selects (args := #[]) (mvT hZ (hw _ (List.mem_of_getElem? (i := 41) rfl)))) (mvT hZ (hw _ (List.mem_of_getElem? (i := 41) rfl))) (mvT hZ (hw _ (List.mem_of_getElem? (i := 40) rfl))) (by decide) (backOf (W := 0) (rm8_c l Z a0 hw [] b7 c9 ([] ++ [(own_by (own_jk p6))]) T9.heap n0 ZB BB) hZ (hw _ (List.mem_of_getElem? (i := 42) rfl)) (hw _ (List.mem_of_getElem? (i := 2) rfl)) (by decide) (by decide)) q10a q10c (g := (mkF m 82 #[.val (.int p1), .val (.int p2), .val (.int p3), .val (.int p4), .val (.int p5), .val (.int p6), .val (.int (p1 &&& (3 : Int32))), .val (.int (p2 &&& (3 : Int32))), .val (.int (own_ch p3)), .val (.int (own_ch p4)), .val (.int (own_ch p5)), .val (.int (1 : Int32)), .val (.int (own_jk p6)), .val (.ref b7), .unset, .unset, .unset] [(.ref b7)])) rfl (by rw [hml]; rfl) (Steps.refl _) (argsL := []) (rest := []) (lenOf pdw_9 rfl) rfl (by show 2 * 0 + _ ≤ _; exact Nat.le_of_eq rfl) (hb hby at_82) (fun _ _ => ⟨rfl, rfl, (by decide : 3 + 0 ≤ _), (by decide : 18 + 0 ≤ _)⟩)
  dsimp only [Pt.U, Pt.locs, Pt.cells, Pt.slots] at X10 l10 y10 z10 st10 hQ10
  subst l10 y10 z10
  obtain ⟨rfl, N10q, zh, BB⟩ := hQ10
  have ZB : n0 ≤ T10.heap.size := Nat.le_trans ZB zh
  have EB := BB.exa
  have N10 := Fr.app N9 N10q
  obtain ⟨cq11, kq11, q11a, q11b, q11c⟩ := isOf hZ rfl EB
  obtain ⟨_, _, ⟨T11, L11, k11, n11⟩, -, X11, ⟨Lc11, hQ11, l11, y11, z11⟩, st11⟩ := X10.virtualBack hx (y := (⟨"com/example/acompte/acompte/Utf8Builder", "append", "(C)Lcom/example/acompte/acompte/Utf8Builder;"⟩ : MethodName)) (z := (⟨"com/example/acompte/acompte/Utf8Builder", "append", "(C)Lcom/example/acompte/acompte/Utf8Builder;"⟩ : MethodName)) hown (mvT hZ (hw _ (List.mem_of_getElem? (i := 12) rfl))) (mvT hZ (hw _ (List.mem_of_getElem? (i := 13) rfl))) (notFace_of_selects (args := #[]) (mvT hZ (hw _ (List.mem_of_getElem? (i := 15) rfl)))) (mvT hZ (hw _ (List.mem_of_getElem? (i := 15) rfl))) (mvT hZ (hw _ (List.mem_of_getElem? (i := 14) rfl))) (by decide) (backOf (W := 0) (rm3_a l Z a0 hw [] b7 (own_ch p3) c9 [] T10.heap n0 ZB BB (by first | decide | simp)) hZ (hw _ (List.mem_of_getElem? (i := 16) rfl)) (hw _ (List.mem_of_getElem? (i := 2) rfl)) (by decide) (by decide)) q11a q11c (g := (mkF m 94 #[.val (.int p1), .val (.int p2), .val (.int p3), .val (.int p4), .val (.int p5), .val (.int p6), .val (.int (p1 &&& (3 : Int32))), .val (.int (p2 &&& (3 : Int32))), .val (.int (own_ch p3)), .val (.int (own_ch p4)), .val (.int (own_ch p5)), .val (.int (1 : Int32)), .val (.int (own_jk p6)), .val (.ref b7), .unset, .unset, .unset] [(.int (own_ch p3)), (.ref b7)])) rfl (by rw [hml]; rfl) (Steps.refl _) (argsL := [(.int (own_ch p3))]) (rest := []) (lenOf pdw_8 rfl) rfl (by show 2 * 0 + _ ≤ _; exact Nat.le_of_eq rfl) (hb hby at_94) (fun _ _ => ⟨rfl, rfl, (by decide : 3 + 1 ≤ _), (by decide : 18 + 8 ≤ _)⟩)
  dsimp only [Pt.U, Pt.locs, Pt.cells, Pt.slots] at X11 l11 y11 z11 st11 hQ11
  subst l11 y11 z11
  obtain ⟨rfl, N11q, zh, c11, BB⟩ := hQ11
  have ZB : n0 ≤ T11.heap.size := Nat.le_trans ZB zh
  have EB := BB.exa
  have N11 := Fr.app N10 N11q
  obtain ⟨cq12, kq12, q12a, q12b, q12c⟩ := isOf hZ rfl EB
  obtain ⟨_, _, ⟨T12, L12, k12, n12⟩, -, X12, ⟨Lc12, hQ12, l12, y12, z12⟩, st12⟩ := X11.virtualBack hx (y := (⟨"com/example/acompte/acompte/Utf8Builder", "append", "(C)Lcom/example/acompte/acompte/Utf8Builder;"⟩ : MethodName)) (z := (⟨"com/example/acompte/acompte/Utf8Builder", "append", "(C)Lcom/example/acompte/acompte/Utf8Builder;"⟩ : MethodName)) hown (mvT hZ (hw _ (List.mem_of_getElem? (i := 12) rfl))) (mvT hZ (hw _ (List.mem_of_getElem? (i := 13) rfl))) (notFace_of_selects (args := #[]) (mvT hZ (hw _ (List.mem_of_getElem? (i := 15) rfl)))) (mvT hZ (hw _ (List.mem_of_getElem? (i := 15) rfl))) (mvT hZ (hw _ (List.mem_of_getElem? (i := 14) rfl))) (by decide) (backOf (W := 0) (rm3_a l Z a0 hw [] b7 (own_ch p4) c11 ([] ++ [(own_by (own_ch p3))]) T11.heap n0 ZB BB (by first | decide | simp)) hZ (hw _ (List.mem_of_getElem? (i := 16) rfl)) (hw _ (List.mem_of_getElem? (i := 2) rfl)) (by decide) (by decide)) q12a q12c (g := (mkF m 108 #[.val (.int p1), .val (.int p2), .val (.int p3), .val (.int p4), .val (.int p5), .val (.int p6), .val (.int (p1 &&& (3 : Int32))), .val (.int (p2 &&& (3 : Int32))), .val (.int (own_ch p3)), .val (.int (own_ch p4)), .val (.int (own_ch p5)), .val (.int (1 : Int32)), .val (.int (own_jk p6)), .val (.ref b7), .unset, .unset, .unset] [(.int (own_ch p4)), (.ref b7)])) rfl (by rw [hml]; rfl) (Steps.refl _) (argsL := [(.int (own_ch p4))]) (rest := []) (lenOf pdw_8 rfl) rfl (by show 2 * 0 + _ ≤ _; exact Nat.le_of_eq rfl) (hb hby at_108) (fun _ _ => ⟨rfl, rfl, (by decide : 4 + 1 ≤ _), (by decide : 26 + 8 ≤ _)⟩)
  dsimp only [Pt.U, Pt.locs, Pt.cells, Pt.slots] at X12 l12 y12 z12 st12 hQ12
  subst l12 y12 z12
  obtain ⟨rfl, N12q, zh, c12, BB⟩ := hQ12
  have ZB : n0 ≤ T12.heap.size := Nat.le_trans ZB zh
  have EB := BB.exa
  have N12 := Fr.app N11 N12q
  obtain ⟨cq13, kq13, q13a, q13b, q13c⟩ := isOf hZ rfl EB
  obtain ⟨_, _, ⟨T13, L13, k13, n13⟩, -, X13, ⟨Lc13, hQ13, l13, y13, z13⟩, st13⟩ := X12.virtualBack hx (y := (⟨"com/example/acompte/acompte/Utf8Builder", "append", "(C)Lcom/example/acompte/acompte/Utf8Builder;"⟩ : MethodName)) (z := (⟨"com/example/acompte/acompte/Utf8Builder", "append", "(C)Lcom/example/acompte/acompte/Utf8Builder;"⟩ : MethodName)) hown (mvT hZ (hw _ (List.mem_of_getElem? (i := 12) rfl))) (mvT hZ (hw _ (List.mem_of_getElem? (i := 13) rfl))) (notFace_of_selects (args := #[]) (mvT hZ (hw _ (List.mem_of_getElem? (i := 15) rfl)))) (mvT hZ (hw _ (List.mem_of_getElem? (i := 15) rfl))) (mvT hZ (hw _ (List.mem_of_getElem? (i := 14) rfl))) (by decide) (backOf (W := 0) (rm3_a l Z a0 hw [] b7 (own_ch p5) c12 (([] ++ [(own_by (own_ch p3))]) ++ [(own_by (own_ch p4))]) T12.heap n0 ZB BB (by first | decide | simp)) hZ (hw _ (List.mem_of_getElem? (i := 16) rfl)) (hw _ (List.mem_of_getElem? (i := 2) rfl)) (by decide) (by decide)) q13a q13c (g := (mkF m 122 #[.val (.int p1), .val (.int p2), .val (.int p3), .val (.int p4), .val (.int p5), .val (.int p6), .val (.int (p1 &&& (3 : Int32))), .val (.int (p2 &&& (3 : Int32))), .val (.int (own_ch p3)), .val (.int (own_ch p4)), .val (.int (own_ch p5)), .val (.int (1 : Int32)), .val (.int (own_jk p6)), .val (.ref b7), .unset, .unset, .unset] [(.int (own_ch p5)), (.ref b7)])) rfl (by rw [hml]; rfl) (Steps.refl _) (argsL := [(.int (own_ch p5))]) (rest := []) (lenOf pdw_8 rfl) rfl (by show 2 * 0 + _ ≤ _; exact Nat.le_of_eq rfl) (hb hby at_122) (fun _ _ => ⟨rfl, rfl, (by decide : 5 + 1 ≤ _), (by decide : 34 + 8 ≤ _)⟩)
  dsimp only [Pt.U, Pt.locs, Pt.cells, Pt.slots] at X13 l13 y13 z13 st13 hQ13
  subst l13 y13 z13
  obtain ⟨rfl, N13q, zh, c13, BB⟩ := hQ13
  have ZB : n0 ≤ T13.heap.size := Nat.le_trans ZB zh
  have EB := BB.exa
  have N13 := Fr.app N12 N13q
  obtain ⟨cq14, kq14, q14a, q14b, q14c⟩ := isOf hZ rfl EB
  obtain ⟨_, _, ⟨T14, L14, k14, n14⟩, -, X14, ⟨Lc14, hQ14, l14, y14, z14⟩, st14⟩ := X13.virtualBack hx (y := (⟨"com/example/acompte/acompte/Utf8Builder", "toByteArray", "()[B"⟩ : MethodName)) (z := (⟨"com/example/acompte/acompte/Utf8Builder", "toByteArray", "()[B"⟩ : MethodName)) hown (mvT hZ (hw _ (List.mem_of_getElem? (i := 43) rfl))) (mvT hZ (hw _ (List.mem_of_getElem? (i := 44) rfl))) (notFace_of_selects (args := #[]) (mvT hZ (hw _ (List.mem_of_getElem? (i := 46) rfl)))) (mvT hZ (hw _ (List.mem_of_getElem? (i := 46) rfl))) (mvT hZ (hw _ (List.mem_of_getElem? (i := 45) rfl))) (by decide) (backOf (W := 0) (rm9_t l Z a0 hw [] b7 c13 ((([] ++ [(own_by (own_ch p3))]) ++ [(own_by (own_ch p4))]) ++ [(own_by (own_ch p5))]) T13.heap n0 ZB BB) hZ (hw _ (List.mem_of_getElem? (i := 47) rfl)) (hw _ (List.mem_of_getElem? (i := 2) rfl)) (by decide) (by decide)) q14a q14c (g := (mkF m 128 #[.val (.int p1), .val (.int p2), .val (.int p3), .val (.int p4), .val (.int p5), .val (.int p6), .val (.int (p1 &&& (3 : Int32))), .val (.int (p2 &&& (3 : Int32))), .val (.int (own_ch p3)), .val (.int (own_ch p4)), .val (.int (own_ch p5)), .val (.int (1 : Int32)), .val (.int (own_jk p6)), .val (.ref b7), .unset, .unset, .unset] [(.ref b7)])) rfl (by rw [hml]; rfl) (Steps.refl _) (argsL := []) (rest := []) (lenOf pdw_5 rfl) rfl (by show 2 * 0 + _ ≤ _; exact Nat.le_of_eq rfl) (hb hby at_128) (fun _ _ => ⟨rfl, rfl, (by decide : 6 + 1 ≤ _), (by decide : 42 + 8 ≤ _)⟩)
  dsimp only [Pt.U, Pt.locs, Pt.cells, Pt.slots] at X14 l14 y14 z14 st14 hQ14
  subst l14 y14 z14
  obtain ⟨rfl, N14q, K14, k14', us14, V14, hus14⟩ := hQ14
  have BB1 := BB
  have g_r1 := ZB
  have BB := BB.keep K14
  have ZB : n0 ≤ T14.heap.size := Nat.le_trans ZB K14.1
  have EB := BB.exa
  have FL := BB.len
  have V14' := V14
  obtain ⟨clr1, Arr1, qr1, Sr1, Nr1, Hr1, Gr1⟩ := V14'
  have N14 := Fr.app N13 N14q
  obtain ⟨cq15, kq15, q15a, q15b, q15c⟩ := isOf hZ rfl EB
  obtain ⟨_, _, ⟨T15, L15, k15, n15⟩, -, X15, ⟨Lc15, hQ15, l15, y15, z15⟩, st15⟩ := X14.virtualBack hx (y := (⟨"com/example/acompte/acompte/Utf8Builder", "length", "()I"⟩ : MethodName)) (z := (⟨"com/example/acompte/acompte/Utf8Builder", "length", "()I"⟩ : MethodName)) hown (mvT hZ (hw _ (List.mem_of_getElem? (i := 48) rfl))) (mvT hZ (hw _ (List.mem_of_getElem? (i := 49) rfl))) (notFace_of_selects (args := #[]) (mvT hZ (hw _ (List.mem_of_getElem? (i := 51) rfl)))) (mvT hZ (hw _ (List.mem_of_getElem? (i := 51) rfl))) (mvT hZ (hw _ (List.mem_of_getElem? (i := 50) rfl))) (by decide) (backOf (W := 0) (rm10 l Z a0 hw [] b7 (Int32.ofNat ((([] ++ [(own_by (own_ch p3))]) ++ [(own_by (own_ch p4))]) ++ [(own_by (own_ch p5))]).length) T14.heap n0 ZB FL) hZ (hw _ (List.mem_of_getElem? (i := 52) rfl)) (hw _ (List.mem_of_getElem? (i := 2) rfl)) (by decide) (by decide)) q15a q15c (g := (mkF m 143 #[.val (.int p1), .val (.int p2), .val (.int p3), .val (.int p4), .val (.int p5), .val (.int p6), .val (.int (p1 &&& (3 : Int32))), .val (.int (p2 &&& (3 : Int32))), .val (.int (own_ch p3)), .val (.int (own_ch p4)), .val (.int (own_ch p5)), .val (.int (1 : Int32)), .val (.int (own_jk p6)), .val (.ref b7), .val (.ref (T13.heap.size)), .unset, .unset] [(.ref b7)])) rfl (by rw [hml]; rfl) (Steps.refl _) (argsL := []) (rest := []) (lenOf pdw_6 rfl) rfl (by show 2 * 0 + _ ≤ _; exact Nat.le_of_eq rfl) (hb hby at_143) (fun _ _ => ⟨rfl, rfl, (by decide : 7 + 0 ≤ _), (by decide : 50 + 0 ≤ _)⟩)
  dsimp only [Pt.U, Pt.locs, Pt.cells, Pt.slots] at X15 l15 y15 z15 st15 hQ15
  subst l15 y15 z15
  obtain ⟨rfl, N15q, hh15⟩ := hQ15
  have N15 := Fr.app N14 N15q
  obtain ⟨_, _, ⟨T16, L16, k16, n16⟩, -, X16, ⟨Lc16, hQ16, l16, y16, z16⟩, st16⟩ := Jvm.LawKit.callS X15 hx (y := (⟨"com/example/acompte/acompte/Utf8BuilderToByteArrayPinLaw", "matches", "([BICCC)Z"⟩ : MethodName)) hown (mvT hZ (hw _ (List.mem_of_getElem? (i := 53) rfl))) (mvT hZ (hw _ (List.mem_of_getElem? (i := 54) rfl))) (mvT hZ (hw _ (List.mem_of_getElem? (i := 55) rfl))) (mvT hZ (hw _ (List.mem_of_getElem? (i := 56) rfl))) (by decide) (backOf (W := 0) (rm11_n3 l Z a0 hw [] (T13.heap.size) (p2 &&& (3 : Int32)) (own_ch p3) (own_ch p4) (own_ch p5) (own_by (own_ch p3)) clr1 (own_by (own_ch p4)) (own_by (own_ch p5)) T14.heap n0 ZB Arr1 (inb_of Sr1 ⟨by decide, (show (0 : Int32) < Int32.ofNat 3 from by decide)⟩) (Has.at Hr1 (inb_of Sr1 ⟨by decide, (show (0 : Int32) < Int32.ofNat 3 from by decide)⟩) (hus14 0 (by first | decide | simp))) (inb_of Sr1 ⟨by decide, (show (1 : Int32) < Int32.ofNat 3 from by decide)⟩) (Has.at Hr1 (inb_of Sr1 ⟨by decide, (show (1 : Int32) < Int32.ofNat 3 from by decide)⟩) (hus14 1 (by first | decide | simp))) (inb_of Sr1 ⟨by decide, (show (2 : Int32) < Int32.ofNat 3 from by decide)⟩) (Has.at Hr1 (inb_of Sr1 ⟨by decide, (show (2 : Int32) < Int32.ofNat 3 from by decide)⟩) (hus14 2 (by first | decide | simp))) (by rw [hn]; decide) (own_idem _) (by rw [hn]; decide) (own_idem _) (by rw [hn]; decide) (own_idem _)) hZ (hw _ (List.mem_of_getElem? (i := 56) rfl)) (hw _ (List.mem_of_getElem? (i := 55) rfl)) (by decide) (by decide)) (g := (mkF m 161 #[.val (.int p1), .val (.int p2), .val (.int p3), .val (.int p4), .val (.int p5), .val (.int p6), .val (.int (p1 &&& (3 : Int32))), .val (.int (p2 &&& (3 : Int32))), .val (.int (own_ch p3)), .val (.int (own_ch p4)), .val (.int (own_ch p5)), .val (.int (1 : Int32)), .val (.int (own_jk p6)), .val (.ref b7), .val (.ref (T13.heap.size)), .unset, .unset] [(.int (own_ch p5)), (.int (own_ch p4)), (.int (own_ch p3)), (.int (p2 &&& (3 : Int32))), (.ref (T13.heap.size))])) rfl (by rw [hml]; rfl) (argsL := [(.ref (T13.heap.size)), (.int (p2 &&& (3 : Int32))), (.int (own_ch p3)), (.int (own_ch p4)), (.int (own_ch p5))]) (rest := []) (lenOf pdw_7 rfl) rfl (by show 2 * 0 + _ ≤ _; exact Nat.le_of_eq rfl) (hb hby at_161) (fun _ _ => ⟨rfl, hh15, (by decide : 7 + 0 ≤ _), (by decide : 50 + 0 ≤ _)⟩)
  dsimp only [Pt.U, Pt.locs, Pt.cells, Pt.slots] at X16 l16 y16 z16 st16 hQ16
  subst l16 y16 z16
  obtain ⟨rfl, N16q, hh16⟩ := hQ16
  have N16 := Fr.app N15 N16q
  have hin197 : ¬ ((0 : Int32) < 0 ∨ clr1.slots.size ≤ ((0 : Int32)).toNatClampNeg) := inb_of Sr1 ⟨by decide, (show (0 : Int32) < Int32.ofNat 3 from by decide)⟩
  have hin192 := hin197
  have hat192 : clr1.slots[((0 : Int32)).toNatClampNeg]? = some (.int (own_by (own_ch p3))) := Has.at Hr1 hin197 (hus14 0 (by first | decide | simp))
  obtain ⟨T18, h18, X18, e18, W18, st18⟩ := stB X16 hx hZ hh16 Arr1 (j := (0 : Int32)) hin197 (g := (mkF m 197 #[.val (.int p1), .val (.int p2), .val (.int p3), .val (.int p4), .val (.int p5), .val (.int p6), .val (.int (p1 &&& (3 : Int32))), .val (.int (p2 &&& (3 : Int32))), .val (.int (own_ch p3)), .val (.int (own_ch p4)), .val (.int (own_ch p5)), .val (.int (1 : Int32)), .val (.int (own_jk p6)), .val (.ref b7), .val (.ref (T13.heap.size)), .val (.int (1 : Int32)), .unset] [(.int (((own_by (own_ch p3)) ^^^ (64 : Int32)).toInt8.toInt32)), (.int (0 : Int32)), (.ref (T13.heap.size))])) rfl rfl (hb hby at_197)
  have BB := BB1.keepwr K14 W18 (Nat.le_refl _)
  have EB := BB.exa
  have ZB : n0 ≤ h18.size := by rw [W18.size]; exact ZB
  have N18 := Fr.snoc X18 N16 g_r1
  obtain ⟨cq19, kq19, q19a, q19b, q19c⟩ := isOf hZ e18 EB
  obtain ⟨_, _, ⟨T19, L19, k19, n19⟩, -, X19, ⟨Lc19, hQ19, l19, y19, z19⟩, st19⟩ := X18.virtualBack hx (y := (⟨"com/example/acompte/acompte/Utf8Builder", "toByteArray", "()[B"⟩ : MethodName)) (z := (⟨"com/example/acompte/acompte/Utf8Builder", "toByteArray", "()[B"⟩ : MethodName)) hown (mvT hZ (hw _ (List.mem_of_getElem? (i := 43) rfl))) (mvT hZ (hw _ (List.mem_of_getElem? (i := 44) rfl))) (notFace_of_selects (args := #[]) (mvT hZ (hw _ (List.mem_of_getElem? (i := 46) rfl)))) (mvT hZ (hw _ (List.mem_of_getElem? (i := 46) rfl))) (mvT hZ (hw _ (List.mem_of_getElem? (i := 45) rfl))) (by decide) (backOf (W := 0) (rm9_t l Z a0 hw [] b7 c13 ((([] ++ [(own_by (own_ch p3))]) ++ [(own_by (own_ch p4))]) ++ [(own_by (own_ch p5))]) h18 n0 ZB BB) hZ (hw _ (List.mem_of_getElem? (i := 47) rfl)) (hw _ (List.mem_of_getElem? (i := 2) rfl)) (by decide) (by decide)) q19a q19c (g := (mkF m 200 #[.val (.int p1), .val (.int p2), .val (.int p3), .val (.int p4), .val (.int p5), .val (.int p6), .val (.int (p1 &&& (3 : Int32))), .val (.int (p2 &&& (3 : Int32))), .val (.int (own_ch p3)), .val (.int (own_ch p4)), .val (.int (own_ch p5)), .val (.int (1 : Int32)), .val (.int (own_jk p6)), .val (.ref b7), .val (.ref (T13.heap.size)), .val (.int (1 : Int32)), .unset] [(.ref b7)])) rfl (by rw [hml]; rfl) (Steps.refl _) (argsL := []) (rest := []) (lenOf pdw_5 rfl) rfl (by show 2 * 0 + _ ≤ _; exact Nat.le_of_eq rfl) (hb hby at_200) (fun _ _ => ⟨rfl, e18, (by decide : 7 + 1 ≤ _), (by decide : 50 + 8 ≤ _)⟩)
  dsimp only [Pt.U, Pt.locs, Pt.cells, Pt.slots] at X19 l19 y19 z19 st19 hQ19
  subst l19 y19 z19
  obtain ⟨rfl, N19q, K19, k19', us19, V19, hus19⟩ := hQ19
  have ZB : n0 ≤ T19.heap.size := Nat.le_trans ZB K19.1
  have V19' := V19
  obtain ⟨clr2, Arr2, qr2, Sr2, Nr2, Hr2, Gr2⟩ := V19'
  have N19 := Fr.app N18 N19q
  obtain ⟨_, _, ⟨T20, L20, k20, n20⟩, -, X20, ⟨Lc20, hQ20, l20, y20, z20⟩, st20⟩ := Jvm.LawKit.callS X19 hx (y := (⟨"com/example/acompte/acompte/Utf8BuilderToByteArrayPinLaw", "matches", "([BICCC)Z"⟩ : MethodName)) hown (mvT hZ (hw _ (List.mem_of_getElem? (i := 53) rfl))) (mvT hZ (hw _ (List.mem_of_getElem? (i := 54) rfl))) (mvT hZ (hw _ (List.mem_of_getElem? (i := 55) rfl))) (mvT hZ (hw _ (List.mem_of_getElem? (i := 56) rfl))) (by decide) (backOf (W := 0) (rm11_n3 l Z a0 hw [] (h18.size) (p2 &&& (3 : Int32)) (own_ch p3) (own_ch p4) (own_ch p5) (own_by (own_ch p3)) clr2 (own_by (own_ch p4)) (own_by (own_ch p5)) T19.heap n0 ZB Arr2 (inb_of Sr2 ⟨by decide, (show (0 : Int32) < Int32.ofNat 3 from by decide)⟩) (Has.at Hr2 (inb_of Sr2 ⟨by decide, (show (0 : Int32) < Int32.ofNat 3 from by decide)⟩) (hus19 0 (by first | decide | simp))) (inb_of Sr2 ⟨by decide, (show (1 : Int32) < Int32.ofNat 3 from by decide)⟩) (Has.at Hr2 (inb_of Sr2 ⟨by decide, (show (1 : Int32) < Int32.ofNat 3 from by decide)⟩) (hus19 1 (by first | decide | simp))) (inb_of Sr2 ⟨by decide, (show (2 : Int32) < Int32.ofNat 3 from by decide)⟩) (Has.at Hr2 (inb_of Sr2 ⟨by decide, (show (2 : Int32) < Int32.ofNat 3 from by decide)⟩) (hus19 2 (by first | decide | simp))) (by rw [hn]; decide) (own_idem _) (by rw [hn]; decide) (own_idem _) (by rw [hn]; decide) (own_idem _)) hZ (hw _ (List.mem_of_getElem? (i := 56) rfl)) (hw _ (List.mem_of_getElem? (i := 55) rfl)) (by decide) (by decide)) (g := (mkF m 223 #[.val (.int p1), .val (.int p2), .val (.int p3), .val (.int p4), .val (.int p5), .val (.int p6), .val (.int (p1 &&& (3 : Int32))), .val (.int (p2 &&& (3 : Int32))), .val (.int (own_ch p3)), .val (.int (own_ch p4)), .val (.int (own_ch p5)), .val (.int (1 : Int32)), .val (.int (own_jk p6)), .val (.ref b7), .val (.ref (T13.heap.size)), .val (.int (1 : Int32)), .val (.ref (h18.size))] [(.int (own_ch p5)), (.int (own_ch p4)), (.int (own_ch p3)), (.int (p2 &&& (3 : Int32))), (.ref (h18.size))])) rfl (by rw [hml]; rfl) (argsL := [(.ref (h18.size)), (.int (p2 &&& (3 : Int32))), (.int (own_ch p3)), (.int (own_ch p4)), (.int (own_ch p5))]) (rest := []) (lenOf pdw_7 rfl) rfl (by show 2 * 0 + _ ≤ _; exact Nat.le_of_eq rfl) (hb hby at_223) (fun _ _ => ⟨rfl, rfl, (by decide : 8 + 0 ≤ _), (by decide : 58 + 0 ≤ _)⟩)
  dsimp only [Pt.U, Pt.locs, Pt.cells, Pt.slots] at X20 l20 y20 z20 st20 hQ20
  subst l20 y20 z20
  obtain ⟨rfl, N20q, hh20⟩ := hQ20
  have N20 := Fr.app N19 N20q
  obtain ⟨fs, hr, hrun, hended, hW, hsame⟩ := X20.leave (v := some (.int (1 : Int32))) (fun h => by rw [Bd.returns] at h; cases h)
  refine ⟨_, _, pre0 _ ?_, hrun, hended, _, _, rfl, ?_, ⟨_, rfl⟩, hW, hsame.mono (by decide) (by decide)⟩
  -- 4. STEPS
  · show Steps p.tables e below (s₁.setTop (mkF m 0 #[.val (.int p1), .val (.int p2), .val (.int p3), .val (.int p4), .val (.int p5), .val (.int p6), .unset, .unset, .unset, .unset, .unset, .unset, .unset, .unset, .unset, .unset, .unset] [])) _
    refine XS.iloadN X0.here hx rfl (hb hby at_0) rfl ?_
    show Steps p.tables e below (s₁.setTop (mkF m 1 #[.val (.int p1), .val (.int p2), .val (.int p3), .val (.int p4), .val (.int p5), .val (.int p6), .unset, .unset, .unset, .unset, .unset, .unset, .unset, .unset, .unset, .unset, .unset] [(.int p1)])) _
    refine XS.iconst X0.here hx rfl (hb hby at_1) ?_
    show Steps p.tables e below (s₁.setTop (mkF m 2 #[.val (.int p1), .val (.int p2), .val (.int p3), .val (.int p4), .val (.int p5), .val (.int p6), .unset, .unset, .unset, .unset, .unset, .unset, .unset, .unset, .unset, .unset, .unset] [(.int (3 : Int32)), (.int p1)])) _
    refine XS.iand X0.here hx rfl (hb hby at_2) rfl ?_
    show Steps p.tables e below (s₁.setTop (mkF m 3 #[.val (.int p1), .val (.int p2), .val (.int p3), .val (.int p4), .val (.int p5), .val (.int p6), .unset, .unset, .unset, .unset, .unset, .unset, .unset, .unset, .unset, .unset, .unset] [(.int (p1 &&& (3 : Int32)))])) _
    refine XS.istore X0.here hx rfl (hb hby at_3) rfl (l' := #[.val (.int p1), .val (.int p2), .val (.int p3), .val (.int p4), .val (.int p5), .val (.int p6), .val (.int (p1 &&& (3 : Int32))), .unset, .unset, .unset, .unset, .unset, .unset, .unset, .unset, .unset, .unset]) rfl ?_
    show Steps p.tables e below (s₁.setTop (mkF m 5 #[.val (.int p1), .val (.int p2), .val (.int p3), .val (.int p4), .val (.int p5), .val (.int p6), .val (.int (p1 &&& (3 : Int32))), .unset, .unset, .unset, .unset, .unset, .unset, .unset, .unset, .unset, .unset] [])) _
    refine XS.iloadN X0.here hx rfl (hb hby at_5) rfl ?_
    show Steps p.tables e below (s₁.setTop (mkF m 6 #[.val (.int p1), .val (.int p2), .val (.int p3), .val (.int p4), .val (.int p5), .val (.int p6), .val (.int (p1 &&& (3 : Int32))), .unset, .unset, .unset, .unset, .unset, .unset, .unset, .unset, .unset, .unset] [(.int p2)])) _
    refine XS.iconst X0.here hx rfl (hb hby at_6) ?_
    show Steps p.tables e below (s₁.setTop (mkF m 7 #[.val (.int p1), .val (.int p2), .val (.int p3), .val (.int p4), .val (.int p5), .val (.int p6), .val (.int (p1 &&& (3 : Int32))), .unset, .unset, .unset, .unset, .unset, .unset, .unset, .unset, .unset, .unset] [(.int (3 : Int32)), (.int p2)])) _
    refine XS.iand X0.here hx rfl (hb hby at_7) rfl ?_
    show Steps p.tables e below (s₁.setTop (mkF m 8 #[.val (.int p1), .val (.int p2), .val (.int p3), .val (.int p4), .val (.int p5), .val (.int p6), .val (.int (p1 &&& (3 : Int32))), .unset, .unset, .unset, .unset, .unset, .unset, .unset, .unset, .unset, .unset] [(.int (p2 &&& (3 : Int32)))])) _
    refine XS.istore X0.here hx rfl (hb hby at_8) rfl (l' := #[.val (.int p1), .val (.int p2), .val (.int p3), .val (.int p4), .val (.int p5), .val (.int p6), .val (.int (p1 &&& (3 : Int32))), .val (.int (p2 &&& (3 : Int32))), .unset, .unset, .unset, .unset, .unset, .unset, .unset, .unset, .unset]) rfl ?_
    show Steps p.tables e below (s₁.setTop (mkF m 10 #[.val (.int p1), .val (.int p2), .val (.int p3), .val (.int p4), .val (.int p5), .val (.int p6), .val (.int (p1 &&& (3 : Int32))), .val (.int (p2 &&& (3 : Int32))), .unset, .unset, .unset, .unset, .unset, .unset, .unset, .unset, .unset] [])) _
    refine XS.iloadN X0.here hx rfl (hb hby at_10) rfl ?_
    show Steps p.tables e below (s₁.setTop (mkF m 11 #[.val (.int p1), .val (.int p2), .val (.int p3), .val (.int p4), .val (.int p5), .val (.int p6), .val (.int (p1 &&& (3 : Int32))), .val (.int (p2 &&& (3 : Int32))), .unset, .unset, .unset, .unset, .unset, .unset, .unset, .unset, .unset] [(.int p3)])) _
    refine XS.bipush X0.here hx rfl (hb hby at_11) ?_
    show Steps p.tables e below (s₁.setTop (mkF m 13 #[.val (.int p1), .val (.int p2), .val (.int p3), .val (.int p4), .val (.int p5), .val (.int p6), .val (.int (p1 &&& (3 : Int32))), .val (.int (p2 &&& (3 : Int32))), .unset, .unset, .unset, .unset, .unset, .unset, .unset, .unset, .unset] [(.int (127 : Int32)), (.int p3)])) _
    refine XS.iand X0.here hx rfl (hb hby at_13) rfl ?_
    show Steps p.tables e below (s₁.setTop (mkF m 14 #[.val (.int p1), .val (.int p2), .val (.int p3), .val (.int p4), .val (.int p5), .val (.int p6), .val (.int (p1 &&& (3 : Int32))), .val (.int (p2 &&& (3 : Int32))), .unset, .unset, .unset, .unset, .unset, .unset, .unset, .unset, .unset] [(.int (p3 &&& (127 : Int32)))])) _
    refine XS.i2c X0.here hx rfl (hb hby at_14) rfl ?_
    show Steps p.tables e below (s₁.setTop (mkF m 15 #[.val (.int p1), .val (.int p2), .val (.int p3), .val (.int p4), .val (.int p5), .val (.int p6), .val (.int (p1 &&& (3 : Int32))), .val (.int (p2 &&& (3 : Int32))), .unset, .unset, .unset, .unset, .unset, .unset, .unset, .unset, .unset] [(.int (own_ch p3))])) _
    refine XS.istore X0.here hx rfl (hb hby at_15) rfl (l' := #[.val (.int p1), .val (.int p2), .val (.int p3), .val (.int p4), .val (.int p5), .val (.int p6), .val (.int (p1 &&& (3 : Int32))), .val (.int (p2 &&& (3 : Int32))), .val (.int (own_ch p3)), .unset, .unset, .unset, .unset, .unset, .unset, .unset, .unset]) rfl ?_
    show Steps p.tables e below (s₁.setTop (mkF m 17 #[.val (.int p1), .val (.int p2), .val (.int p3), .val (.int p4), .val (.int p5), .val (.int p6), .val (.int (p1 &&& (3 : Int32))), .val (.int (p2 &&& (3 : Int32))), .val (.int (own_ch p3)), .unset, .unset, .unset, .unset, .unset, .unset, .unset, .unset] [])) _
    refine XS.iloadN X0.here hx rfl (hb hby at_17) rfl ?_
    show Steps p.tables e below (s₁.setTop (mkF m 18 #[.val (.int p1), .val (.int p2), .val (.int p3), .val (.int p4), .val (.int p5), .val (.int p6), .val (.int (p1 &&& (3 : Int32))), .val (.int (p2 &&& (3 : Int32))), .val (.int (own_ch p3)), .unset, .unset, .unset, .unset, .unset, .unset, .unset, .unset] [(.int p4)])) _
    refine XS.bipush X0.here hx rfl (hb hby at_18) ?_
    show Steps p.tables e below (s₁.setTop (mkF m 20 #[.val (.int p1), .val (.int p2), .val (.int p3), .val (.int p4), .val (.int p5), .val (.int p6), .val (.int (p1 &&& (3 : Int32))), .val (.int (p2 &&& (3 : Int32))), .val (.int (own_ch p3)), .unset, .unset, .unset, .unset, .unset, .unset, .unset, .unset] [(.int (127 : Int32)), (.int p4)])) _
    refine XS.iand X0.here hx rfl (hb hby at_20) rfl ?_
    show Steps p.tables e below (s₁.setTop (mkF m 21 #[.val (.int p1), .val (.int p2), .val (.int p3), .val (.int p4), .val (.int p5), .val (.int p6), .val (.int (p1 &&& (3 : Int32))), .val (.int (p2 &&& (3 : Int32))), .val (.int (own_ch p3)), .unset, .unset, .unset, .unset, .unset, .unset, .unset, .unset] [(.int (p4 &&& (127 : Int32)))])) _
    refine XS.i2c X0.here hx rfl (hb hby at_21) rfl ?_
    show Steps p.tables e below (s₁.setTop (mkF m 22 #[.val (.int p1), .val (.int p2), .val (.int p3), .val (.int p4), .val (.int p5), .val (.int p6), .val (.int (p1 &&& (3 : Int32))), .val (.int (p2 &&& (3 : Int32))), .val (.int (own_ch p3)), .unset, .unset, .unset, .unset, .unset, .unset, .unset, .unset] [(.int (own_ch p4))])) _
    refine XS.istore X0.here hx rfl (hb hby at_22) rfl (l' := #[.val (.int p1), .val (.int p2), .val (.int p3), .val (.int p4), .val (.int p5), .val (.int p6), .val (.int (p1 &&& (3 : Int32))), .val (.int (p2 &&& (3 : Int32))), .val (.int (own_ch p3)), .val (.int (own_ch p4)), .unset, .unset, .unset, .unset, .unset, .unset, .unset]) rfl ?_
    show Steps p.tables e below (s₁.setTop (mkF m 24 #[.val (.int p1), .val (.int p2), .val (.int p3), .val (.int p4), .val (.int p5), .val (.int p6), .val (.int (p1 &&& (3 : Int32))), .val (.int (p2 &&& (3 : Int32))), .val (.int (own_ch p3)), .val (.int (own_ch p4)), .unset, .unset, .unset, .unset, .unset, .unset, .unset] [])) _
    refine XS.iload X0.here hx rfl (hb hby at_24) rfl ?_
    show Steps p.tables e below (s₁.setTop (mkF m 26 #[.val (.int p1), .val (.int p2), .val (.int p3), .val (.int p4), .val (.int p5), .val (.int p6), .val (.int (p1 &&& (3 : Int32))), .val (.int (p2 &&& (3 : Int32))), .val (.int (own_ch p3)), .val (.int (own_ch p4)), .unset, .unset, .unset, .unset, .unset, .unset, .unset] [(.int p5)])) _
    refine XS.bipush X0.here hx rfl (hb hby at_26) ?_
    show Steps p.tables e below (s₁.setTop (mkF m 28 #[.val (.int p1), .val (.int p2), .val (.int p3), .val (.int p4), .val (.int p5), .val (.int p6), .val (.int (p1 &&& (3 : Int32))), .val (.int (p2 &&& (3 : Int32))), .val (.int (own_ch p3)), .val (.int (own_ch p4)), .unset, .unset, .unset, .unset, .unset, .unset, .unset] [(.int (127 : Int32)), (.int p5)])) _
    refine XS.iand X0.here hx rfl (hb hby at_28) rfl ?_
    show Steps p.tables e below (s₁.setTop (mkF m 29 #[.val (.int p1), .val (.int p2), .val (.int p3), .val (.int p4), .val (.int p5), .val (.int p6), .val (.int (p1 &&& (3 : Int32))), .val (.int (p2 &&& (3 : Int32))), .val (.int (own_ch p3)), .val (.int (own_ch p4)), .unset, .unset, .unset, .unset, .unset, .unset, .unset] [(.int (p5 &&& (127 : Int32)))])) _
    refine XS.i2c X0.here hx rfl (hb hby at_29) rfl ?_
    show Steps p.tables e below (s₁.setTop (mkF m 30 #[.val (.int p1), .val (.int p2), .val (.int p3), .val (.int p4), .val (.int p5), .val (.int p6), .val (.int (p1 &&& (3 : Int32))), .val (.int (p2 &&& (3 : Int32))), .val (.int (own_ch p3)), .val (.int (own_ch p4)), .unset, .unset, .unset, .unset, .unset, .unset, .unset] [(.int (own_ch p5))])) _
    refine XS.istore X0.here hx rfl (hb hby at_30) rfl (l' := #[.val (.int p1), .val (.int p2), .val (.int p3), .val (.int p4), .val (.int p5), .val (.int p6), .val (.int (p1 &&& (3 : Int32))), .val (.int (p2 &&& (3 : Int32))), .val (.int (own_ch p3)), .val (.int (own_ch p4)), .val (.int (own_ch p5)), .unset, .unset, .unset, .unset, .unset, .unset]) rfl ?_
    show Steps p.tables e below (s₁.setTop (mkF m 32 #[.val (.int p1), .val (.int p2), .val (.int p3), .val (.int p4), .val (.int p5), .val (.int p6), .val (.int (p1 &&& (3 : Int32))), .val (.int (p2 &&& (3 : Int32))), .val (.int (own_ch p3)), .val (.int (own_ch p4)), .val (.int (own_ch p5)), .unset, .unset, .unset, .unset, .unset, .unset] [])) _
    refine XS.iload X0.here hx rfl (hb hby at_32) rfl ?_
    show Steps p.tables e below (s₁.setTop (mkF m 34 #[.val (.int p1), .val (.int p2), .val (.int p3), .val (.int p4), .val (.int p5), .val (.int p6), .val (.int (p1 &&& (3 : Int32))), .val (.int (p2 &&& (3 : Int32))), .val (.int (own_ch p3)), .val (.int (own_ch p4)), .val (.int (own_ch p5)), .unset, .unset, .unset, .unset, .unset, .unset] [(.int p6)])) _
    refine XS.iconst X0.here hx rfl (hb hby at_34) ?_
    show Steps p.tables e below (s₁.setTop (mkF m 35 #[.val (.int p1), .val (.int p2), .val (.int p3), .val (.int p4), .val (.int p5), .val (.int p6), .val (.int (p1 &&& (3 : Int32))), .val (.int (p2 &&& (3 : Int32))), .val (.int (own_ch p3)), .val (.int (own_ch p4)), .val (.int (own_ch p5)), .unset, .unset, .unset, .unset, .unset, .unset] [(.int (1 : Int32)), (.int p6)])) _
    refine XS.iand X0.here hx rfl (hb hby at_35) rfl ?_
    show Steps p.tables e below (s₁.setTop (mkF m 36 #[.val (.int p1), .val (.int p2), .val (.int p3), .val (.int p4), .val (.int p5), .val (.int p6), .val (.int (p1 &&& (3 : Int32))), .val (.int (p2 &&& (3 : Int32))), .val (.int (own_ch p3)), .val (.int (own_ch p4)), .val (.int (own_ch p5)), .unset, .unset, .unset, .unset, .unset, .unset] [(.int (p6 &&& (1 : Int32)))])) _
    refine XS.ifNo X0.here hx rfl (hb hby at_36) rfl ((if0 _ _).trans (feq hc36).1) ?_
    show Steps p.tables e below (s₁.setTop (mkF m 39 #[.val (.int p1), .val (.int p2), .val (.int p3), .val (.int p4), .val (.int p5), .val (.int p6), .val (.int (p1 &&& (3 : Int32))), .val (.int (p2 &&& (3 : Int32))), .val (.int (own_ch p3)), .val (.int (own_ch p4)), .val (.int (own_ch p5)), .unset, .unset, .unset, .unset, .unset, .unset] [])) _
    refine XS.iconst X0.here hx rfl (hb hby at_39) ?_
    show Steps p.tables e below (s₁.setTop (mkF m 40 #[.val (.int p1), .val (.int p2), .val (.int p3), .val (.int p4), .val (.int p5), .val (.int p6), .val (.int (p1 &&& (3 : Int32))), .val (.int (p2 &&& (3 : Int32))), .val (.int (own_ch p3)), .val (.int (own_ch p4)), .val (.int (own_ch p5)), .unset, .unset, .unset, .unset, .unset, .unset] [(.int (1 : Int32))])) _
    refine XS.goto X0.here hx rfl (pc0 := 40) (pc' := 44) rfl (hb hby at_40) (by decide) (by decide) ?_
    show Steps p.tables e below (s₁.setTop (mkF m 44 #[.val (.int p1), .val (.int p2), .val (.int p3), .val (.int p4), .val (.int p5), .val (.int p6), .val (.int (p1 &&& (3 : Int32))), .val (.int (p2 &&& (3 : Int32))), .val (.int (own_ch p3)), .val (.int (own_ch p4)), .val (.int (own_ch p5)), .unset, .unset, .unset, .unset, .unset, .unset] [(.int (1 : Int32))])) _
    refine XS.istore X0.here hx rfl (hb hby at_44) rfl (l' := #[.val (.int p1), .val (.int p2), .val (.int p3), .val (.int p4), .val (.int p5), .val (.int p6), .val (.int (p1 &&& (3 : Int32))), .val (.int (p2 &&& (3 : Int32))), .val (.int (own_ch p3)), .val (.int (own_ch p4)), .val (.int (own_ch p5)), .val (.int (1 : Int32)), .unset, .unset, .unset, .unset, .unset]) rfl ?_
    show Steps p.tables e below (s₁.setTop (mkF m 46 #[.val (.int p1), .val (.int p2), .val (.int p3), .val (.int p4), .val (.int p5), .val (.int p6), .val (.int (p1 &&& (3 : Int32))), .val (.int (p2 &&& (3 : Int32))), .val (.int (own_ch p3)), .val (.int (own_ch p4)), .val (.int (own_ch p5)), .val (.int (1 : Int32)), .unset, .unset, .unset, .unset, .unset] [])) _
    refine XS.iload X0.here hx rfl (hb hby at_46) rfl ?_
    show Steps p.tables e below (s₁.setTop (mkF m 48 #[.val (.int p1), .val (.int p2), .val (.int p3), .val (.int p4), .val (.int p5), .val (.int p6), .val (.int (p1 &&& (3 : Int32))), .val (.int (p2 &&& (3 : Int32))), .val (.int (own_ch p3)), .val (.int (own_ch p4)), .val (.int (own_ch p5)), .val (.int (1 : Int32)), .unset, .unset, .unset, .unset, .unset] [(.int p6)])) _
    refine XS.iconst X0.here hx rfl (hb hby at_48) ?_
    show Steps p.tables e below (s₁.setTop (mkF m 49 #[.val (.int p1), .val (.int p2), .val (.int p3), .val (.int p4), .val (.int p5), .val (.int p6), .val (.int (p1 &&& (3 : Int32))), .val (.int (p2 &&& (3 : Int32))), .val (.int (own_ch p3)), .val (.int (own_ch p4)), .val (.int (own_ch p5)), .val (.int (1 : Int32)), .unset, .unset, .unset, .unset, .unset] [(.int (1 : Int32)), (.int p6)])) _
    refine XS.iushr X0.here hx rfl (hb hby at_49) rfl ?_
    show Steps p.tables e below (s₁.setTop (mkF m 50 #[.val (.int p1), .val (.int p2), .val (.int p3), .val (.int p4), .val (.int p5), .val (.int p6), .val (.int (p1 &&& (3 : Int32))), .val (.int (p2 &&& (3 : Int32))), .val (.int (own_ch p3)), .val (.int (own_ch p4)), .val (.int (own_ch p5)), .val (.int (1 : Int32)), .unset, .unset, .unset, .unset, .unset] [(.int ((p6.toUInt32 >>> ((1 : Int32) &&& 31).toUInt32).toInt32))])) _
    refine XS.bipush X0.here hx rfl (hb hby at_50) ?_
    show Steps p.tables e below (s₁.setTop (mkF m 52 #[.val (.int p1), .val (.int p2), .val (.int p3), .val (.int p4), .val (.int p5), .val (.int p6), .val (.int (p1 &&& (3 : Int32))), .val (.int (p2 &&& (3 : Int32))), .val (.int (own_ch p3)), .val (.int (own_ch p4)), .val (.int (own_ch p5)), .val (.int (1 : Int32)), .unset, .unset, .unset, .unset, .unset] [(.int (127 : Int32)), (.int ((p6.toUInt32 >>> ((1 : Int32) &&& 31).toUInt32).toInt32))])) _
    refine XS.iand X0.here hx rfl (hb hby at_52) rfl ?_
    show Steps p.tables e below (s₁.setTop (mkF m 53 #[.val (.int p1), .val (.int p2), .val (.int p3), .val (.int p4), .val (.int p5), .val (.int p6), .val (.int (p1 &&& (3 : Int32))), .val (.int (p2 &&& (3 : Int32))), .val (.int (own_ch p3)), .val (.int (own_ch p4)), .val (.int (own_ch p5)), .val (.int (1 : Int32)), .unset, .unset, .unset, .unset, .unset] [(.int (((p6.toUInt32 >>> ((1 : Int32) &&& 31).toUInt32).toInt32) &&& (127 : Int32)))])) _
    refine XS.i2c X0.here hx rfl (hb hby at_53) rfl ?_
    show Steps p.tables e below (s₁.setTop (mkF m 54 #[.val (.int p1), .val (.int p2), .val (.int p3), .val (.int p4), .val (.int p5), .val (.int p6), .val (.int (p1 &&& (3 : Int32))), .val (.int (p2 &&& (3 : Int32))), .val (.int (own_ch p3)), .val (.int (own_ch p4)), .val (.int (own_ch p5)), .val (.int (1 : Int32)), .unset, .unset, .unset, .unset, .unset] [(.int (own_jk p6))])) _
    refine XS.istore X0.here hx rfl (hb hby at_54) rfl (l' := #[.val (.int p1), .val (.int p2), .val (.int p3), .val (.int p4), .val (.int p5), .val (.int p6), .val (.int (p1 &&& (3 : Int32))), .val (.int (p2 &&& (3 : Int32))), .val (.int (own_ch p3)), .val (.int (own_ch p4)), .val (.int (own_ch p5)), .val (.int (1 : Int32)), .val (.int (own_jk p6)), .unset, .unset, .unset, .unset]) rfl ?_
    show Steps p.tables e below (s₁.setTop (mkF m 56 #[.val (.int p1), .val (.int p2), .val (.int p3), .val (.int p4), .val (.int p5), .val (.int p6), .val (.int (p1 &&& (3 : Int32))), .val (.int (p2 &&& (3 : Int32))), .val (.int (own_ch p3)), .val (.int (own_ch p4)), .val (.int (own_ch p5)), .val (.int (1 : Int32)), .val (.int (own_jk p6)), .unset, .unset, .unset, .unset] [])) _
    refine st7 _ ?_
    show Steps p.tables e below (T7.setTop (mkF m 59 #[.val (.int p1), .val (.int p2), .val (.int p3), .val (.int p4), .val (.int p5), .val (.int p6), .val (.int (p1 &&& (3 : Int32))), .val (.int (p2 &&& (3 : Int32))), .val (.int (own_ch p3)), .val (.int (own_ch p4)), .val (.int (own_ch p5)), .val (.int (1 : Int32)), .val (.int (own_jk p6)), .unset, .unset, .unset, .unset] [(.ref b7)])) _
    refine XS.dup X7.here hx rfl (hb hby at_59) rfl rfl ?_
    show Steps p.tables e below (T7.setTop (mkF m 60 #[.val (.int p1), .val (.int p2), .val (.int p3), .val (.int p4), .val (.int p5), .val (.int p6), .val (.int (p1 &&& (3 : Int32))), .val (.int (p2 &&& (3 : Int32))), .val (.int (own_ch p3)), .val (.int (own_ch p4)), .val (.int (own_ch p5)), .val (.int (1 : Int32)), .val (.int (own_jk p6)), .unset, .unset, .unset, .unset] [(.ref b7), (.ref b7)])) _
    refine XS.iload X7.here hx rfl (hb hby at_60) rfl ?_
    show Steps p.tables e below (T7.setTop (mkF m 62 #[.val (.int p1), .val (.int p2), .val (.int p3), .val (.int p4), .val (.int p5), .val (.int p6), .val (.int (p1 &&& (3 : Int32))), .val (.int (p2 &&& (3 : Int32))), .val (.int (own_ch p3)), .val (.int (own_ch p4)), .val (.int (own_ch p5)), .val (.int (1 : Int32)), .val (.int (own_jk p6)), .unset, .unset, .unset, .unset] [(.int (p1 &&& (3 : Int32))), (.ref b7), (.ref b7)])) _
    refine st8.trans ?_
    show Steps p.tables e below (T8.setTop (mkF m 65 #[.val (.int p1), .val (.int p2), .val (.int p3), .val (.int p4), .val (.int p5), .val (.int p6), .val (.int (p1 &&& (3 : Int32))), .val (.int (p2 &&& (3 : Int32))), .val (.int (own_ch p3)), .val (.int (own_ch p4)), .val (.int (own_ch p5)), .val (.int (1 : Int32)), .val (.int (own_jk p6)), .unset, .unset, .unset, .unset] [(.ref b7)])) _
    refine XS.astore X8.here hx rfl (hb hby at_65) rfl rfl (l' := #[.val (.int p1), .val (.int p2), .val (.int p3), .val (.int p4), .val (.int p5), .val (.int p6), .val (.int (p1 &&& (3 : Int32))), .val (.int (p2 &&& (3 : Int32))), .val (.int (own_ch p3)), .val (.int (own_ch p4)), .val (.int (own_ch p5)), .val (.int (1 : Int32)), .val (.int (own_jk p6)), .val (.ref b7), .unset, .unset, .unset]) rfl ?_
    show Steps p.tables e below (T8.setTop (mkF m 67 #[.val (.int p1), .val (.int p2), .val (.int p3), .val (.int p4), .val (.int p5), .val (.int p6), .val (.int (p1 &&& (3 : Int32))), .val (.int (p2 &&& (3 : Int32))), .val (.int (own_ch p3)), .val (.int (own_ch p4)), .val (.int (own_ch p5)), .val (.int (1 : Int32)), .val (.int (own_jk p6)), .val (.ref b7), .unset, .unset, .unset] [])) _
    refine XS.iload X8.here hx rfl (hb hby at_67) rfl ?_
    show Steps p.tables e below (T8.setTop (mkF m 69 #[.val (.int p1), .val (.int p2), .val (.int p3), .val (.int p4), .val (.int p5), .val (.int p6), .val (.int (p1 &&& (3 : Int32))), .val (.int (p2 &&& (3 : Int32))), .val (.int (own_ch p3)), .val (.int (own_ch p4)), .val (.int (own_ch p5)), .val (.int (1 : Int32)), .val (.int (own_jk p6)), .val (.ref b7), .unset, .unset, .unset] [(.int (1 : Int32))])) _
    refine XS.ifNo X8.here hx rfl (hb hby at_69) rfl ((if0 _ _).trans (feq hc69).1) ?_
    show Steps p.tables e below (T8.setTop (mkF m 72 #[.val (.int p1), .val (.int p2), .val (.int p3), .val (.int p4), .val (.int p5), .val (.int p6), .val (.int (p1 &&& (3 : Int32))), .val (.int (p2 &&& (3 : Int32))), .val (.int (own_ch p3)), .val (.int (own_ch p4)), .val (.int (own_ch p5)), .val (.int (1 : Int32)), .val (.int (own_jk p6)), .val (.ref b7), .unset, .unset, .unset] [])) _
    refine XS.aload X8.here hx rfl (hb hby at_72) rfl rfl ?_
    show Steps p.tables e below (T8.setTop (mkF m 74 #[.val (.int p1), .val (.int p2), .val (.int p3), .val (.int p4), .val (.int p5), .val (.int p6), .val (.int (p1 &&& (3 : Int32))), .val (.int (p2 &&& (3 : Int32))), .val (.int (own_ch p3)), .val (.int (own_ch p4)), .val (.int (own_ch p5)), .val (.int (1 : Int32)), .val (.int (own_jk p6)), .val (.ref b7), .unset, .unset, .unset] [(.ref b7)])) _
    refine XS.iload X8.here hx rfl (hb hby at_74) rfl ?_
    show Steps p.tables e below (T8.setTop (mkF m 76 #[.val (.int p1), .val (.int p2), .val (.int p3), .val (.int p4), .val (.int p5), .val (.int p6), .val (.int (p1 &&& (3 : Int32))), .val (.int (p2 &&& (3 : Int32))), .val (.int (own_ch p3)), .val (.int (own_ch p4)), .val (.int (own_ch p5)), .val (.int (1 : Int32)), .val (.int (own_jk p6)), .val (.ref b7), .unset, .unset, .unset] [(.int (own_jk p6)), (.ref b7)])) _
    refine st9.trans ?_
    show Steps p.tables e below (T9.setTop (mkF m 79 #[.val (.int p1), .val (.int p2), .val (.int p3), .val (.int p4), .val (.int p5), .val (.int p6), .val (.int (p1 &&& (3 : Int32))), .val (.int (p2 &&& (3 : Int32))), .val (.int (own_ch p3)), .val (.int (own_ch p4)), .val (.int (own_ch p5)), .val (.int (1 : Int32)), .val (.int (own_jk p6)), .val (.ref b7), .unset, .unset, .unset] [(.ref b7)])) _
    refine XS.pop X9.here hx rfl (hb hby at_79) rfl rfl ?_
    show Steps p.tables e below (T9.setTop (mkF m 80 #[.val (.int p1), .val (.int p2), .val (.int p3), .val (.int p4), .val (.int p5), .val (.int p6), .val (.int (p1 &&& (3 : Int32))), .val (.int (p2 &&& (3 : Int32))), .val (.int (own_ch p3)), .val (.int (own_ch p4)), .val (.int (own_ch p5)), .val (.int (1 : Int32)), .val (.int (own_jk p6)), .val (.ref b7), .unset, .unset, .unset] [])) _
    refine XS.aload X9.here hx rfl (hb hby at_80) rfl rfl ?_
    show Steps p.tables e below (T9.setTop (mkF m 82 #[.val (.int p1), .val (.int p2), .val (.int p3), .val (.int p4), .val (.int p5), .val (.int p6), .val (.int (p1 &&& (3 : Int32))), .val (.int (p2 &&& (3 : Int32))), .val (.int (own_ch p3)), .val (.int (own_ch p4)), .val (.int (own_ch p5)), .val (.int (1 : Int32)), .val (.int (own_jk p6)), .val (.ref b7), .unset, .unset, .unset] [(.ref b7)])) _
    refine st10.trans ?_
    show Steps p.tables e below (T10.setTop (mkF m 85 #[.val (.int p1), .val (.int p2), .val (.int p3), .val (.int p4), .val (.int p5), .val (.int p6), .val (.int (p1 &&& (3 : Int32))), .val (.int (p2 &&& (3 : Int32))), .val (.int (own_ch p3)), .val (.int (own_ch p4)), .val (.int (own_ch p5)), .val (.int (1 : Int32)), .val (.int (own_jk p6)), .val (.ref b7), .unset, .unset, .unset] [])) _
    refine XS.iload X10.here hx rfl (hb hby at_85) rfl ?_
    show Steps p.tables e below (T10.setTop (mkF m 87 #[.val (.int p1), .val (.int p2), .val (.int p3), .val (.int p4), .val (.int p5), .val (.int p6), .val (.int (p1 &&& (3 : Int32))), .val (.int (p2 &&& (3 : Int32))), .val (.int (own_ch p3)), .val (.int (own_ch p4)), .val (.int (own_ch p5)), .val (.int (1 : Int32)), .val (.int (own_jk p6)), .val (.ref b7), .unset, .unset, .unset] [(.int (p2 &&& (3 : Int32)))])) _
    refine XS.ifNo X10.here hx rfl (hb hby at_87) rfl ((if0 _ _).trans (tlt hc87).2.2.2) ?_
    show Steps p.tables e below (T10.setTop (mkF m 90 #[.val (.int p1), .val (.int p2), .val (.int p3), .val (.int p4), .val (.int p5), .val (.int p6), .val (.int (p1 &&& (3 : Int32))), .val (.int (p2 &&& (3 : Int32))), .val (.int (own_ch p3)), .val (.int (own_ch p4)), .val (.int (own_ch p5)), .val (.int (1 : Int32)), .val (.int (own_jk p6)), .val (.ref b7), .unset, .unset, .unset] [])) _
    refine XS.aload X10.here hx rfl (hb hby at_90) rfl rfl ?_
    show Steps p.tables e below (T10.setTop (mkF m 92 #[.val (.int p1), .val (.int p2), .val (.int p3), .val (.int p4), .val (.int p5), .val (.int p6), .val (.int (p1 &&& (3 : Int32))), .val (.int (p2 &&& (3 : Int32))), .val (.int (own_ch p3)), .val (.int (own_ch p4)), .val (.int (own_ch p5)), .val (.int (1 : Int32)), .val (.int (own_jk p6)), .val (.ref b7), .unset, .unset, .unset] [(.ref b7)])) _
    refine XS.iload X10.here hx rfl (hb hby at_92) rfl ?_
    show Steps p.tables e below (T10.setTop (mkF m 94 #[.val (.int p1), .val (.int p2), .val (.int p3), .val (.int p4), .val (.int p5), .val (.int p6), .val (.int (p1 &&& (3 : Int32))), .val (.int (p2 &&& (3 : Int32))), .val (.int (own_ch p3)), .val (.int (own_ch p4)), .val (.int (own_ch p5)), .val (.int (1 : Int32)), .val (.int (own_jk p6)), .val (.ref b7), .unset, .unset, .unset] [(.int (own_ch p3)), (.ref b7)])) _
    refine st11.trans ?_
    show Steps p.tables e below (T11.setTop (mkF m 97 #[.val (.int p1), .val (.int p2), .val (.int p3), .val (.int p4), .val (.int p5), .val (.int p6), .val (.int (p1 &&& (3 : Int32))), .val (.int (p2 &&& (3 : Int32))), .val (.int (own_ch p3)), .val (.int (own_ch p4)), .val (.int (own_ch p5)), .val (.int (1 : Int32)), .val (.int (own_jk p6)), .val (.ref b7), .unset, .unset, .unset] [(.ref b7)])) _
    refine XS.pop X11.here hx rfl (hb hby at_97) rfl rfl ?_
    show Steps p.tables e below (T11.setTop (mkF m 98 #[.val (.int p1), .val (.int p2), .val (.int p3), .val (.int p4), .val (.int p5), .val (.int p6), .val (.int (p1 &&& (3 : Int32))), .val (.int (p2 &&& (3 : Int32))), .val (.int (own_ch p3)), .val (.int (own_ch p4)), .val (.int (own_ch p5)), .val (.int (1 : Int32)), .val (.int (own_jk p6)), .val (.ref b7), .unset, .unset, .unset] [])) _
    refine XS.iload X11.here hx rfl (hb hby at_98) rfl ?_
    show Steps p.tables e below (T11.setTop (mkF m 100 #[.val (.int p1), .val (.int p2), .val (.int p3), .val (.int p4), .val (.int p5), .val (.int p6), .val (.int (p1 &&& (3 : Int32))), .val (.int (p2 &&& (3 : Int32))), .val (.int (own_ch p3)), .val (.int (own_ch p4)), .val (.int (own_ch p5)), .val (.int (1 : Int32)), .val (.int (own_jk p6)), .val (.ref b7), .unset, .unset, .unset] [(.int (p2 &&& (3 : Int32)))])) _
    refine XS.iconst X11.here hx rfl (hb hby at_100) ?_
    show Steps p.tables e below (T11.setTop (mkF m 101 #[.val (.int p1), .val (.int p2), .val (.int p3), .val (.int p4), .val (.int p5), .val (.int p6), .val (.int (p1 &&& (3 : Int32))), .val (.int (p2 &&& (3 : Int32))), .val (.int (own_ch p3)), .val (.int (own_ch p4)), .val (.int (own_ch p5)), .val (.int (1 : Int32)), .val (.int (own_jk p6)), .val (.ref b7), .unset, .unset, .unset] [(.int (1 : Int32)), (.int (p2 &&& (3 : Int32)))])) _
    refine XS.icmpNo X11.here hx rfl (hb hby at_101) rfl (tlt hc101).2.2.2 ?_
    show Steps p.tables e below (T11.setTop (mkF m 104 #[.val (.int p1), .val (.int p2), .val (.int p3), .val (.int p4), .val (.int p5), .val (.int p6), .val (.int (p1 &&& (3 : Int32))), .val (.int (p2 &&& (3 : Int32))), .val (.int (own_ch p3)), .val (.int (own_ch p4)), .val (.int (own_ch p5)), .val (.int (1 : Int32)), .val (.int (own_jk p6)), .val (.ref b7), .unset, .unset, .unset] [])) _
    refine XS.aload X11.here hx rfl (hb hby at_104) rfl rfl ?_
    show Steps p.tables e below (T11.setTop (mkF m 106 #[.val (.int p1), .val (.int p2), .val (.int p3), .val (.int p4), .val (.int p5), .val (.int p6), .val (.int (p1 &&& (3 : Int32))), .val (.int (p2 &&& (3 : Int32))), .val (.int (own_ch p3)), .val (.int (own_ch p4)), .val (.int (own_ch p5)), .val (.int (1 : Int32)), .val (.int (own_jk p6)), .val (.ref b7), .unset, .unset, .unset] [(.ref b7)])) _
    refine XS.iload X11.here hx rfl (hb hby at_106) rfl ?_
    show Steps p.tables e below (T11.setTop (mkF m 108 #[.val (.int p1), .val (.int p2), .val (.int p3), .val (.int p4), .val (.int p5), .val (.int p6), .val (.int (p1 &&& (3 : Int32))), .val (.int (p2 &&& (3 : Int32))), .val (.int (own_ch p3)), .val (.int (own_ch p4)), .val (.int (own_ch p5)), .val (.int (1 : Int32)), .val (.int (own_jk p6)), .val (.ref b7), .unset, .unset, .unset] [(.int (own_ch p4)), (.ref b7)])) _
    refine st12.trans ?_
    show Steps p.tables e below (T12.setTop (mkF m 111 #[.val (.int p1), .val (.int p2), .val (.int p3), .val (.int p4), .val (.int p5), .val (.int p6), .val (.int (p1 &&& (3 : Int32))), .val (.int (p2 &&& (3 : Int32))), .val (.int (own_ch p3)), .val (.int (own_ch p4)), .val (.int (own_ch p5)), .val (.int (1 : Int32)), .val (.int (own_jk p6)), .val (.ref b7), .unset, .unset, .unset] [(.ref b7)])) _
    refine XS.pop X12.here hx rfl (hb hby at_111) rfl rfl ?_
    show Steps p.tables e below (T12.setTop (mkF m 112 #[.val (.int p1), .val (.int p2), .val (.int p3), .val (.int p4), .val (.int p5), .val (.int p6), .val (.int (p1 &&& (3 : Int32))), .val (.int (p2 &&& (3 : Int32))), .val (.int (own_ch p3)), .val (.int (own_ch p4)), .val (.int (own_ch p5)), .val (.int (1 : Int32)), .val (.int (own_jk p6)), .val (.ref b7), .unset, .unset, .unset] [])) _
    refine XS.iload X12.here hx rfl (hb hby at_112) rfl ?_
    show Steps p.tables e below (T12.setTop (mkF m 114 #[.val (.int p1), .val (.int p2), .val (.int p3), .val (.int p4), .val (.int p5), .val (.int p6), .val (.int (p1 &&& (3 : Int32))), .val (.int (p2 &&& (3 : Int32))), .val (.int (own_ch p3)), .val (.int (own_ch p4)), .val (.int (own_ch p5)), .val (.int (1 : Int32)), .val (.int (own_jk p6)), .val (.ref b7), .unset, .unset, .unset] [(.int (p2 &&& (3 : Int32)))])) _
    refine XS.iconst X12.here hx rfl (hb hby at_114) ?_
    show Steps p.tables e below (T12.setTop (mkF m 115 #[.val (.int p1), .val (.int p2), .val (.int p3), .val (.int p4), .val (.int p5), .val (.int p6), .val (.int (p1 &&& (3 : Int32))), .val (.int (p2 &&& (3 : Int32))), .val (.int (own_ch p3)), .val (.int (own_ch p4)), .val (.int (own_ch p5)), .val (.int (1 : Int32)), .val (.int (own_jk p6)), .val (.ref b7), .unset, .unset, .unset] [(.int (2 : Int32)), (.int (p2 &&& (3 : Int32)))])) _
    refine XS.icmpNo X12.here hx rfl (hb hby at_115) rfl (tlt hc115).2.2.2 ?_
    show Steps p.tables e below (T12.setTop (mkF m 118 #[.val (.int p1), .val (.int p2), .val (.int p3), .val (.int p4), .val (.int p5), .val (.int p6), .val (.int (p1 &&& (3 : Int32))), .val (.int (p2 &&& (3 : Int32))), .val (.int (own_ch p3)), .val (.int (own_ch p4)), .val (.int (own_ch p5)), .val (.int (1 : Int32)), .val (.int (own_jk p6)), .val (.ref b7), .unset, .unset, .unset] [])) _
    refine XS.aload X12.here hx rfl (hb hby at_118) rfl rfl ?_
    show Steps p.tables e below (T12.setTop (mkF m 120 #[.val (.int p1), .val (.int p2), .val (.int p3), .val (.int p4), .val (.int p5), .val (.int p6), .val (.int (p1 &&& (3 : Int32))), .val (.int (p2 &&& (3 : Int32))), .val (.int (own_ch p3)), .val (.int (own_ch p4)), .val (.int (own_ch p5)), .val (.int (1 : Int32)), .val (.int (own_jk p6)), .val (.ref b7), .unset, .unset, .unset] [(.ref b7)])) _
    refine XS.iload X12.here hx rfl (hb hby at_120) rfl ?_
    show Steps p.tables e below (T12.setTop (mkF m 122 #[.val (.int p1), .val (.int p2), .val (.int p3), .val (.int p4), .val (.int p5), .val (.int p6), .val (.int (p1 &&& (3 : Int32))), .val (.int (p2 &&& (3 : Int32))), .val (.int (own_ch p3)), .val (.int (own_ch p4)), .val (.int (own_ch p5)), .val (.int (1 : Int32)), .val (.int (own_jk p6)), .val (.ref b7), .unset, .unset, .unset] [(.int (own_ch p5)), (.ref b7)])) _
    refine st13.trans ?_
    show Steps p.tables e below (T13.setTop (mkF m 125 #[.val (.int p1), .val (.int p2), .val (.int p3), .val (.int p4), .val (.int p5), .val (.int p6), .val (.int (p1 &&& (3 : Int32))), .val (.int (p2 &&& (3 : Int32))), .val (.int (own_ch p3)), .val (.int (own_ch p4)), .val (.int (own_ch p5)), .val (.int (1 : Int32)), .val (.int (own_jk p6)), .val (.ref b7), .unset, .unset, .unset] [(.ref b7)])) _
    refine XS.pop X13.here hx rfl (hb hby at_125) rfl rfl ?_
    show Steps p.tables e below (T13.setTop (mkF m 126 #[.val (.int p1), .val (.int p2), .val (.int p3), .val (.int p4), .val (.int p5), .val (.int p6), .val (.int (p1 &&& (3 : Int32))), .val (.int (p2 &&& (3 : Int32))), .val (.int (own_ch p3)), .val (.int (own_ch p4)), .val (.int (own_ch p5)), .val (.int (1 : Int32)), .val (.int (own_jk p6)), .val (.ref b7), .unset, .unset, .unset] [])) _
    refine XS.aload X13.here hx rfl (hb hby at_126) rfl rfl ?_
    show Steps p.tables e below (T13.setTop (mkF m 128 #[.val (.int p1), .val (.int p2), .val (.int p3), .val (.int p4), .val (.int p5), .val (.int p6), .val (.int (p1 &&& (3 : Int32))), .val (.int (p2 &&& (3 : Int32))), .val (.int (own_ch p3)), .val (.int (own_ch p4)), .val (.int (own_ch p5)), .val (.int (1 : Int32)), .val (.int (own_jk p6)), .val (.ref b7), .unset, .unset, .unset] [(.ref b7)])) _
    refine st14.trans ?_
    show Steps p.tables e below (T14.setTop (mkF m 131 #[.val (.int p1), .val (.int p2), .val (.int p3), .val (.int p4), .val (.int p5), .val (.int p6), .val (.int (p1 &&& (3 : Int32))), .val (.int (p2 &&& (3 : Int32))), .val (.int (own_ch p3)), .val (.int (own_ch p4)), .val (.int (own_ch p5)), .val (.int (1 : Int32)), .val (.int (own_jk p6)), .val (.ref b7), .unset, .unset, .unset] [(.ref (T13.heap.size))])) _
    refine XS.astore X14.here hx rfl (hb hby at_131) rfl rfl (l' := #[.val (.int p1), .val (.int p2), .val (.int p3), .val (.int p4), .val (.int p5), .val (.int p6), .val (.int (p1 &&& (3 : Int32))), .val (.int (p2 &&& (3 : Int32))), .val (.int (own_ch p3)), .val (.int (own_ch p4)), .val (.int (own_ch p5)), .val (.int (1 : Int32)), .val (.int (own_jk p6)), .val (.ref b7), .val (.ref (T13.heap.size)), .unset, .unset]) rfl ?_
    show Steps p.tables e below (T14.setTop (mkF m 133 #[.val (.int p1), .val (.int p2), .val (.int p3), .val (.int p4), .val (.int p5), .val (.int p6), .val (.int (p1 &&& (3 : Int32))), .val (.int (p2 &&& (3 : Int32))), .val (.int (own_ch p3)), .val (.int (own_ch p4)), .val (.int (own_ch p5)), .val (.int (1 : Int32)), .val (.int (own_jk p6)), .val (.ref b7), .val (.ref (T13.heap.size)), .unset, .unset] [])) _
    refine XS.aload X14.here hx rfl (hb hby at_133) rfl rfl ?_
    show Steps p.tables e below (T14.setTop (mkF m 135 #[.val (.int p1), .val (.int p2), .val (.int p3), .val (.int p4), .val (.int p5), .val (.int p6), .val (.int (p1 &&& (3 : Int32))), .val (.int (p2 &&& (3 : Int32))), .val (.int (own_ch p3)), .val (.int (own_ch p4)), .val (.int (own_ch p5)), .val (.int (1 : Int32)), .val (.int (own_jk p6)), .val (.ref b7), .val (.ref (T13.heap.size)), .unset, .unset] [(.ref (T13.heap.size))])) _
    refine X14.arraylength hx (by exact Arr1.1) (State.isArrayOf_alike hZ.alike Arr1.2.1) (g := (mkF m 135 #[.val (.int p1), .val (.int p2), .val (.int p3), .val (.int p4), .val (.int p5), .val (.int p6), .val (.int (p1 &&& (3 : Int32))), .val (.int (p2 &&& (3 : Int32))), .val (.int (own_ch p3)), .val (.int (own_ch p4)), .val (.int (own_ch p5)), .val (.int (1 : Int32)), .val (.int (own_jk p6)), .val (.ref b7), .val (.ref (T13.heap.size)), .unset, .unset] [(.ref (T13.heap.size))])) rfl rfl (hb hby at_135) _ ?_
    rw [len_of Sr1 Nr1]
    show Steps p.tables e below (T14.setTop (mkF m 136 #[.val (.int p1), .val (.int p2), .val (.int p3), .val (.int p4), .val (.int p5), .val (.int p6), .val (.int (p1 &&& (3 : Int32))), .val (.int (p2 &&& (3 : Int32))), .val (.int (own_ch p3)), .val (.int (own_ch p4)), .val (.int (own_ch p5)), .val (.int (1 : Int32)), .val (.int (own_jk p6)), .val (.ref b7), .val (.ref (T13.heap.size)), .unset, .unset] [(.int (Int32.ofNat ((([] ++ [(own_by (own_ch p3))]) ++ [(own_by (own_ch p4))]) ++ [(own_by (own_ch p5))]).length))])) _
    refine XS.iload X14.here hx rfl (hb hby at_136) rfl ?_
    show Steps p.tables e below (T14.setTop (mkF m 138 #[.val (.int p1), .val (.int p2), .val (.int p3), .val (.int p4), .val (.int p5), .val (.int p6), .val (.int (p1 &&& (3 : Int32))), .val (.int (p2 &&& (3 : Int32))), .val (.int (own_ch p3)), .val (.int (own_ch p4)), .val (.int (own_ch p5)), .val (.int (1 : Int32)), .val (.int (own_jk p6)), .val (.ref b7), .val (.ref (T13.heap.size)), .unset, .unset] [(.int (p2 &&& (3 : Int32))), (.int (Int32.ofNat ((([] ++ [(own_by (own_ch p3))]) ++ [(own_by (own_ch p4))]) ++ [(own_by (own_ch p5))]).length))])) _
    refine XS.icmpNo X14.here hx rfl (hb hby at_138) rfl (teq (by rw [hn]; first | rfl | decide : (Int32.ofNat ((([] ++ [(own_by (own_ch p3))]) ++ [(own_by (own_ch p4))]) ++ [(own_by (own_ch p5))]).length) = (p2 &&& (3 : Int32)))).2 ?_
    show Steps p.tables e below (T14.setTop (mkF m 141 #[.val (.int p1), .val (.int p2), .val (.int p3), .val (.int p4), .val (.int p5), .val (.int p6), .val (.int (p1 &&& (3 : Int32))), .val (.int (p2 &&& (3 : Int32))), .val (.int (own_ch p3)), .val (.int (own_ch p4)), .val (.int (own_ch p5)), .val (.int (1 : Int32)), .val (.int (own_jk p6)), .val (.ref b7), .val (.ref (T13.heap.size)), .unset, .unset] [])) _
    refine XS.aload X14.here hx rfl (hb hby at_141) rfl rfl ?_
    show Steps p.tables e below (T14.setTop (mkF m 143 #[.val (.int p1), .val (.int p2), .val (.int p3), .val (.int p4), .val (.int p5), .val (.int p6), .val (.int (p1 &&& (3 : Int32))), .val (.int (p2 &&& (3 : Int32))), .val (.int (own_ch p3)), .val (.int (own_ch p4)), .val (.int (own_ch p5)), .val (.int (1 : Int32)), .val (.int (own_jk p6)), .val (.ref b7), .val (.ref (T13.heap.size)), .unset, .unset] [(.ref b7)])) _
    refine st15.trans ?_
    show Steps p.tables e below (T15.setTop (mkF m 146 #[.val (.int p1), .val (.int p2), .val (.int p3), .val (.int p4), .val (.int p5), .val (.int p6), .val (.int (p1 &&& (3 : Int32))), .val (.int (p2 &&& (3 : Int32))), .val (.int (own_ch p3)), .val (.int (own_ch p4)), .val (.int (own_ch p5)), .val (.int (1 : Int32)), .val (.int (own_jk p6)), .val (.ref b7), .val (.ref (T13.heap.size)), .unset, .unset] [(.int (Int32.ofNat ((([] ++ [(own_by (own_ch p3))]) ++ [(own_by (own_ch p4))]) ++ [(own_by (own_ch p5))]).length))])) _
    refine XS.iload X15.here hx rfl (hb hby at_146) rfl ?_
    show Steps p.tables e below (T15.setTop (mkF m 148 #[.val (.int p1), .val (.int p2), .val (.int p3), .val (.int p4), .val (.int p5), .val (.int p6), .val (.int (p1 &&& (3 : Int32))), .val (.int (p2 &&& (3 : Int32))), .val (.int (own_ch p3)), .val (.int (own_ch p4)), .val (.int (own_ch p5)), .val (.int (1 : Int32)), .val (.int (own_jk p6)), .val (.ref b7), .val (.ref (T13.heap.size)), .unset, .unset] [(.int (p2 &&& (3 : Int32))), (.int (Int32.ofNat ((([] ++ [(own_by (own_ch p3))]) ++ [(own_by (own_ch p4))]) ++ [(own_by (own_ch p5))]).length))])) _
    refine XS.icmpNo X15.here hx rfl (hb hby at_148) rfl (teq (by rw [hn]; first | rfl | decide : (Int32.ofNat ((([] ++ [(own_by (own_ch p3))]) ++ [(own_by (own_ch p4))]) ++ [(own_by (own_ch p5))]).length) = (p2 &&& (3 : Int32)))).2 ?_
    show Steps p.tables e below (T15.setTop (mkF m 151 #[.val (.int p1), .val (.int p2), .val (.int p3), .val (.int p4), .val (.int p5), .val (.int p6), .val (.int (p1 &&& (3 : Int32))), .val (.int (p2 &&& (3 : Int32))), .val (.int (own_ch p3)), .val (.int (own_ch p4)), .val (.int (own_ch p5)), .val (.int (1 : Int32)), .val (.int (own_jk p6)), .val (.ref b7), .val (.ref (T13.heap.size)), .unset, .unset] [])) _
    refine XS.aload X15.here hx rfl (hb hby at_151) rfl rfl ?_
    show Steps p.tables e below (T15.setTop (mkF m 153 #[.val (.int p1), .val (.int p2), .val (.int p3), .val (.int p4), .val (.int p5), .val (.int p6), .val (.int (p1 &&& (3 : Int32))), .val (.int (p2 &&& (3 : Int32))), .val (.int (own_ch p3)), .val (.int (own_ch p4)), .val (.int (own_ch p5)), .val (.int (1 : Int32)), .val (.int (own_jk p6)), .val (.ref b7), .val (.ref (T13.heap.size)), .unset, .unset] [(.ref (T13.heap.size))])) _
    refine XS.iload X15.here hx rfl (hb hby at_153) rfl ?_
    show Steps p.tables e below (T15.setTop (mkF m 155 #[.val (.int p1), .val (.int p2), .val (.int p3), .val (.int p4), .val (.int p5), .val (.int p6), .val (.int (p1 &&& (3 : Int32))), .val (.int (p2 &&& (3 : Int32))), .val (.int (own_ch p3)), .val (.int (own_ch p4)), .val (.int (own_ch p5)), .val (.int (1 : Int32)), .val (.int (own_jk p6)), .val (.ref b7), .val (.ref (T13.heap.size)), .unset, .unset] [(.int (p2 &&& (3 : Int32))), (.ref (T13.heap.size))])) _
    refine XS.iload X15.here hx rfl (hb hby at_155) rfl ?_
    show Steps p.tables e below (T15.setTop (mkF m 157 #[.val (.int p1), .val (.int p2), .val (.int p3), .val (.int p4), .val (.int p5), .val (.int p6), .val (.int (p1 &&& (3 : Int32))), .val (.int (p2 &&& (3 : Int32))), .val (.int (own_ch p3)), .val (.int (own_ch p4)), .val (.int (own_ch p5)), .val (.int (1 : Int32)), .val (.int (own_jk p6)), .val (.ref b7), .val (.ref (T13.heap.size)), .unset, .unset] [(.int (own_ch p3)), (.int (p2 &&& (3 : Int32))), (.ref (T13.heap.size))])) _
    refine XS.iload X15.here hx rfl (hb hby at_157) rfl ?_
    show Steps p.tables e below (T15.setTop (mkF m 159 #[.val (.int p1), .val (.int p2), .val (.int p3), .val (.int p4), .val (.int p5), .val (.int p6), .val (.int (p1 &&& (3 : Int32))), .val (.int (p2 &&& (3 : Int32))), .val (.int (own_ch p3)), .val (.int (own_ch p4)), .val (.int (own_ch p5)), .val (.int (1 : Int32)), .val (.int (own_jk p6)), .val (.ref b7), .val (.ref (T13.heap.size)), .unset, .unset] [(.int (own_ch p4)), (.int (own_ch p3)), (.int (p2 &&& (3 : Int32))), (.ref (T13.heap.size))])) _
    refine XS.iload X15.here hx rfl (hb hby at_159) rfl ?_
    show Steps p.tables e below (T15.setTop (mkF m 161 #[.val (.int p1), .val (.int p2), .val (.int p3), .val (.int p4), .val (.int p5), .val (.int p6), .val (.int (p1 &&& (3 : Int32))), .val (.int (p2 &&& (3 : Int32))), .val (.int (own_ch p3)), .val (.int (own_ch p4)), .val (.int (own_ch p5)), .val (.int (1 : Int32)), .val (.int (own_jk p6)), .val (.ref b7), .val (.ref (T13.heap.size)), .unset, .unset] [(.int (own_ch p5)), (.int (own_ch p4)), (.int (own_ch p3)), (.int (p2 &&& (3 : Int32))), (.ref (T13.heap.size))])) _
    refine st16 _ ?_
    show Steps p.tables e below (T16.setTop (mkF m 164 #[.val (.int p1), .val (.int p2), .val (.int p3), .val (.int p4), .val (.int p5), .val (.int p6), .val (.int (p1 &&& (3 : Int32))), .val (.int (p2 &&& (3 : Int32))), .val (.int (own_ch p3)), .val (.int (own_ch p4)), .val (.int (own_ch p5)), .val (.int (1 : Int32)), .val (.int (own_jk p6)), .val (.ref b7), .val (.ref (T13.heap.size)), .unset, .unset] [(.int (1 : Int32))])) _
    refine XS.ifNo X16.here hx rfl (hb hby at_164) rfl ((if0 _ _).trans (feq (by decide : ¬ ((1 : Int32) = (0 : Int32)))).1) ?_
    show Steps p.tables e below (T16.setTop (mkF m 167 #[.val (.int p1), .val (.int p2), .val (.int p3), .val (.int p4), .val (.int p5), .val (.int p6), .val (.int (p1 &&& (3 : Int32))), .val (.int (p2 &&& (3 : Int32))), .val (.int (own_ch p3)), .val (.int (own_ch p4)), .val (.int (own_ch p5)), .val (.int (1 : Int32)), .val (.int (own_jk p6)), .val (.ref b7), .val (.ref (T13.heap.size)), .unset, .unset] [])) _
    refine XS.iconst X16.here hx rfl (hb hby at_167) ?_
    show Steps p.tables e below (T16.setTop (mkF m 168 #[.val (.int p1), .val (.int p2), .val (.int p3), .val (.int p4), .val (.int p5), .val (.int p6), .val (.int (p1 &&& (3 : Int32))), .val (.int (p2 &&& (3 : Int32))), .val (.int (own_ch p3)), .val (.int (own_ch p4)), .val (.int (own_ch p5)), .val (.int (1 : Int32)), .val (.int (own_jk p6)), .val (.ref b7), .val (.ref (T13.heap.size)), .unset, .unset] [(.int (1 : Int32))])) _
    refine XS.goto X16.here hx rfl (pc0 := 168) (pc' := 172) rfl (hb hby at_168) (by decide) (by decide) ?_
    show Steps p.tables e below (T16.setTop (mkF m 172 #[.val (.int p1), .val (.int p2), .val (.int p3), .val (.int p4), .val (.int p5), .val (.int p6), .val (.int (p1 &&& (3 : Int32))), .val (.int (p2 &&& (3 : Int32))), .val (.int (own_ch p3)), .val (.int (own_ch p4)), .val (.int (own_ch p5)), .val (.int (1 : Int32)), .val (.int (own_jk p6)), .val (.ref b7), .val (.ref (T13.heap.size)), .unset, .unset] [(.int (1 : Int32))])) _
    refine XS.istore X16.here hx rfl (hb hby at_172) rfl (l' := #[.val (.int p1), .val (.int p2), .val (.int p3), .val (.int p4), .val (.int p5), .val (.int p6), .val (.int (p1 &&& (3 : Int32))), .val (.int (p2 &&& (3 : Int32))), .val (.int (own_ch p3)), .val (.int (own_ch p4)), .val (.int (own_ch p5)), .val (.int (1 : Int32)), .val (.int (own_jk p6)), .val (.ref b7), .val (.ref (T13.heap.size)), .val (.int (1 : Int32)), .unset]) rfl ?_
    show Steps p.tables e below (T16.setTop (mkF m 174 #[.val (.int p1), .val (.int p2), .val (.int p3), .val (.int p4), .val (.int p5), .val (.int p6), .val (.int (p1 &&& (3 : Int32))), .val (.int (p2 &&& (3 : Int32))), .val (.int (own_ch p3)), .val (.int (own_ch p4)), .val (.int (own_ch p5)), .val (.int (1 : Int32)), .val (.int (own_jk p6)), .val (.ref b7), .val (.ref (T13.heap.size)), .val (.int (1 : Int32)), .unset] [])) _
    refine XS.iload X16.here hx rfl (hb hby at_174) rfl ?_
    show Steps p.tables e below (T16.setTop (mkF m 176 #[.val (.int p1), .val (.int p2), .val (.int p3), .val (.int p4), .val (.int p5), .val (.int p6), .val (.int (p1 &&& (3 : Int32))), .val (.int (p2 &&& (3 : Int32))), .val (.int (own_ch p3)), .val (.int (own_ch p4)), .val (.int (own_ch p5)), .val (.int (1 : Int32)), .val (.int (own_jk p6)), .val (.ref b7), .val (.ref (T13.heap.size)), .val (.int (1 : Int32)), .unset] [(.int (1 : Int32))])) _
    refine XS.ifYes X16.here hx rfl (pc0 := 176) (pc' := 181) rfl (hb hby at_176) rfl ((if0 _ _).trans (feq hc176).2) (by decide) (by decide) ?_
    show Steps p.tables e below (T16.setTop (mkF m 181 #[.val (.int p1), .val (.int p2), .val (.int p3), .val (.int p4), .val (.int p5), .val (.int p6), .val (.int (p1 &&& (3 : Int32))), .val (.int (p2 &&& (3 : Int32))), .val (.int (own_ch p3)), .val (.int (own_ch p4)), .val (.int (own_ch p5)), .val (.int (1 : Int32)), .val (.int (own_jk p6)), .val (.ref b7), .val (.ref (T13.heap.size)), .val (.int (1 : Int32)), .unset] [])) _
    refine XS.iload X16.here hx rfl (hb hby at_181) rfl ?_
    show Steps p.tables e below (T16.setTop (mkF m 183 #[.val (.int p1), .val (.int p2), .val (.int p3), .val (.int p4), .val (.int p5), .val (.int p6), .val (.int (p1 &&& (3 : Int32))), .val (.int (p2 &&& (3 : Int32))), .val (.int (own_ch p3)), .val (.int (own_ch p4)), .val (.int (own_ch p5)), .val (.int (1 : Int32)), .val (.int (own_jk p6)), .val (.ref b7), .val (.ref (T13.heap.size)), .val (.int (1 : Int32)), .unset] [(.int (p2 &&& (3 : Int32)))])) _
    refine XS.ifNo X16.here hx rfl (hb hby at_183) rfl ((if0 _ _).trans (tlt hc183).2.2.2) ?_
    show Steps p.tables e below (T16.setTop (mkF m 186 #[.val (.int p1), .val (.int p2), .val (.int p3), .val (.int p4), .val (.int p5), .val (.int p6), .val (.int (p1 &&& (3 : Int32))), .val (.int (p2 &&& (3 : Int32))), .val (.int (own_ch p3)), .val (.int (own_ch p4)), .val (.int (own_ch p5)), .val (.int (1 : Int32)), .val (.int (own_jk p6)), .val (.ref b7), .val (.ref (T13.heap.size)), .val (.int (1 : Int32)), .unset] [])) _
    refine XS.aload X16.here hx rfl (hb hby at_186) rfl rfl ?_
    show Steps p.tables e below (T16.setTop (mkF m 188 #[.val (.int p1), .val (.int p2), .val (.int p3), .val (.int p4), .val (.int p5), .val (.int p6), .val (.int (p1 &&& (3 : Int32))), .val (.int (p2 &&& (3 : Int32))), .val (.int (own_ch p3)), .val (.int (own_ch p4)), .val (.int (own_ch p5)), .val (.int (1 : Int32)), .val (.int (own_jk p6)), .val (.ref b7), .val (.ref (T13.heap.size)), .val (.int (1 : Int32)), .unset] [(.ref (T13.heap.size))])) _
    refine XS.iconst X16.here hx rfl (hb hby at_188) ?_
    show Steps p.tables e below (T16.setTop (mkF m 189 #[.val (.int p1), .val (.int p2), .val (.int p3), .val (.int p4), .val (.int p5), .val (.int p6), .val (.int (p1 &&& (3 : Int32))), .val (.int (p2 &&& (3 : Int32))), .val (.int (own_ch p3)), .val (.int (own_ch p4)), .val (.int (own_ch p5)), .val (.int (1 : Int32)), .val (.int (own_jk p6)), .val (.ref b7), .val (.ref (T13.heap.size)), .val (.int (1 : Int32)), .unset] [(.int (0 : Int32)), (.ref (T13.heap.size))])) _
    refine XS.aload X16.here hx rfl (hb hby at_189) rfl rfl ?_
    show Steps p.tables e below (T16.setTop (mkF m 191 #[.val (.int p1), .val (.int p2), .val (.int p3), .val (.int p4), .val (.int p5), .val (.int p6), .val (.int (p1 &&& (3 : Int32))), .val (.int (p2 &&& (3 : Int32))), .val (.int (own_ch p3)), .val (.int (own_ch p4)), .val (.int (own_ch p5)), .val (.int (1 : Int32)), .val (.int (own_jk p6)), .val (.ref b7), .val (.ref (T13.heap.size)), .val (.int (1 : Int32)), .unset] [(.ref (T13.heap.size)), (.int (0 : Int32)), (.ref (T13.heap.size))])) _
    refine XS.iconst X16.here hx rfl (hb hby at_191) ?_
    show Steps p.tables e below (T16.setTop (mkF m 192 #[.val (.int p1), .val (.int p2), .val (.int p3), .val (.int p4), .val (.int p5), .val (.int p6), .val (.int (p1 &&& (3 : Int32))), .val (.int (p2 &&& (3 : Int32))), .val (.int (own_ch p3)), .val (.int (own_ch p4)), .val (.int (own_ch p5)), .val (.int (1 : Int32)), .val (.int (own_jk p6)), .val (.ref b7), .val (.ref (T13.heap.size)), .val (.int (1 : Int32)), .unset] [(.int (0 : Int32)), (.ref (T13.heap.size)), (.int (0 : Int32)), (.ref (T13.heap.size))])) _
    refine X16.baloadBytes hx (j := (0 : Int32)) (v := (.int (own_by (own_ch p3)))) (by rw [hh16]; exact Arr1.1) (State.isArrayOf_alike hZ.alike Arr1.2.1) Arr1.2.2 hin192 hat192 (g := (mkF m 192 #[.val (.int p1), .val (.int p2), .val (.int p3), .val (.int p4), .val (.int p5), .val (.int p6), .val (.int (p1 &&& (3 : Int32))), .val (.int (p2 &&& (3 : Int32))), .val (.int (own_ch p3)), .val (.int (own_ch p4)), .val (.int (own_ch p5)), .val (.int (1 : Int32)), .val (.int (own_jk p6)), .val (.ref b7), .val (.ref (T13.heap.size)), .val (.int (1 : Int32)), .unset] [(.int (0 : Int32)), (.ref (T13.heap.size)), (.int (0 : Int32)), (.ref (T13.heap.size))])) rfl rfl (hb hby at_192) _ ?_
    show Steps p.tables e below (T16.setTop (mkF m 193 #[.val (.int p1), .val (.int p2), .val (.int p3), .val (.int p4), .val (.int p5), .val (.int p6), .val (.int (p1 &&& (3 : Int32))), .val (.int (p2 &&& (3 : Int32))), .val (.int (own_ch p3)), .val (.int (own_ch p4)), .val (.int (own_ch p5)), .val (.int (1 : Int32)), .val (.int (own_jk p6)), .val (.ref b7), .val (.ref (T13.heap.size)), .val (.int (1 : Int32)), .unset] [(.int (own_by (own_ch p3))), (.int (0 : Int32)), (.ref (T13.heap.size))])) _
    refine XS.bipush X16.here hx rfl (hb hby at_193) ?_
    show Steps p.tables e below (T16.setTop (mkF m 195 #[.val (.int p1), .val (.int p2), .val (.int p3), .val (.int p4), .val (.int p5), .val (.int p6), .val (.int (p1 &&& (3 : Int32))), .val (.int (p2 &&& (3 : Int32))), .val (.int (own_ch p3)), .val (.int (own_ch p4)), .val (.int (own_ch p5)), .val (.int (1 : Int32)), .val (.int (own_jk p6)), .val (.ref b7), .val (.ref (T13.heap.size)), .val (.int (1 : Int32)), .unset] [(.int (64 : Int32)), (.int (own_by (own_ch p3))), (.int (0 : Int32)), (.ref (T13.heap.size))])) _
    refine XS.ixor X16.here hx rfl (hb hby at_195) rfl ?_
    show Steps p.tables e below (T16.setTop (mkF m 196 #[.val (.int p1), .val (.int p2), .val (.int p3), .val (.int p4), .val (.int p5), .val (.int p6), .val (.int (p1 &&& (3 : Int32))), .val (.int (p2 &&& (3 : Int32))), .val (.int (own_ch p3)), .val (.int (own_ch p4)), .val (.int (own_ch p5)), .val (.int (1 : Int32)), .val (.int (own_jk p6)), .val (.ref b7), .val (.ref (T13.heap.size)), .val (.int (1 : Int32)), .unset] [(.int ((own_by (own_ch p3)) ^^^ (64 : Int32))), (.int (0 : Int32)), (.ref (T13.heap.size))])) _
    refine XS.i2b X16.here hx rfl (hb hby at_196) rfl ?_
    show Steps p.tables e below (T16.setTop (mkF m 197 #[.val (.int p1), .val (.int p2), .val (.int p3), .val (.int p4), .val (.int p5), .val (.int p6), .val (.int (p1 &&& (3 : Int32))), .val (.int (p2 &&& (3 : Int32))), .val (.int (own_ch p3)), .val (.int (own_ch p4)), .val (.int (own_ch p5)), .val (.int (1 : Int32)), .val (.int (own_jk p6)), .val (.ref b7), .val (.ref (T13.heap.size)), .val (.int (1 : Int32)), .unset] [(.int (((own_by (own_ch p3)) ^^^ (64 : Int32)).toInt8.toInt32)), (.int (0 : Int32)), (.ref (T13.heap.size))])) _
    refine st18 _ ?_
    show Steps p.tables e below (T18.setTop (mkF m 198 #[.val (.int p1), .val (.int p2), .val (.int p3), .val (.int p4), .val (.int p5), .val (.int p6), .val (.int (p1 &&& (3 : Int32))), .val (.int (p2 &&& (3 : Int32))), .val (.int (own_ch p3)), .val (.int (own_ch p4)), .val (.int (own_ch p5)), .val (.int (1 : Int32)), .val (.int (own_jk p6)), .val (.ref b7), .val (.ref (T13.heap.size)), .val (.int (1 : Int32)), .unset] [])) _
    refine XS.aload X18.here hx rfl (hb hby at_198) rfl rfl ?_
    show Steps p.tables e below (T18.setTop (mkF m 200 #[.val (.int p1), .val (.int p2), .val (.int p3), .val (.int p4), .val (.int p5), .val (.int p6), .val (.int (p1 &&& (3 : Int32))), .val (.int (p2 &&& (3 : Int32))), .val (.int (own_ch p3)), .val (.int (own_ch p4)), .val (.int (own_ch p5)), .val (.int (1 : Int32)), .val (.int (own_jk p6)), .val (.ref b7), .val (.ref (T13.heap.size)), .val (.int (1 : Int32)), .unset] [(.ref b7)])) _
    refine st19.trans ?_
    show Steps p.tables e below (T19.setTop (mkF m 203 #[.val (.int p1), .val (.int p2), .val (.int p3), .val (.int p4), .val (.int p5), .val (.int p6), .val (.int (p1 &&& (3 : Int32))), .val (.int (p2 &&& (3 : Int32))), .val (.int (own_ch p3)), .val (.int (own_ch p4)), .val (.int (own_ch p5)), .val (.int (1 : Int32)), .val (.int (own_jk p6)), .val (.ref b7), .val (.ref (T13.heap.size)), .val (.int (1 : Int32)), .unset] [(.ref (h18.size))])) _
    refine XS.astore X19.here hx rfl (hb hby at_203) rfl rfl (l' := #[.val (.int p1), .val (.int p2), .val (.int p3), .val (.int p4), .val (.int p5), .val (.int p6), .val (.int (p1 &&& (3 : Int32))), .val (.int (p2 &&& (3 : Int32))), .val (.int (own_ch p3)), .val (.int (own_ch p4)), .val (.int (own_ch p5)), .val (.int (1 : Int32)), .val (.int (own_jk p6)), .val (.ref b7), .val (.ref (T13.heap.size)), .val (.int (1 : Int32)), .val (.ref (h18.size))]) rfl ?_
    show Steps p.tables e below (T19.setTop (mkF m 205 #[.val (.int p1), .val (.int p2), .val (.int p3), .val (.int p4), .val (.int p5), .val (.int p6), .val (.int (p1 &&& (3 : Int32))), .val (.int (p2 &&& (3 : Int32))), .val (.int (own_ch p3)), .val (.int (own_ch p4)), .val (.int (own_ch p5)), .val (.int (1 : Int32)), .val (.int (own_jk p6)), .val (.ref b7), .val (.ref (T13.heap.size)), .val (.int (1 : Int32)), .val (.ref (h18.size))] [])) _
    refine XS.aload X19.here hx rfl (hb hby at_205) rfl rfl ?_
    show Steps p.tables e below (T19.setTop (mkF m 207 #[.val (.int p1), .val (.int p2), .val (.int p3), .val (.int p4), .val (.int p5), .val (.int p6), .val (.int (p1 &&& (3 : Int32))), .val (.int (p2 &&& (3 : Int32))), .val (.int (own_ch p3)), .val (.int (own_ch p4)), .val (.int (own_ch p5)), .val (.int (1 : Int32)), .val (.int (own_jk p6)), .val (.ref b7), .val (.ref (T13.heap.size)), .val (.int (1 : Int32)), .val (.ref (h18.size))] [(.ref (h18.size))])) _
    refine X19.arraylength hx (by exact Arr2.1) (State.isArrayOf_alike hZ.alike Arr2.2.1) (g := (mkF m 207 #[.val (.int p1), .val (.int p2), .val (.int p3), .val (.int p4), .val (.int p5), .val (.int p6), .val (.int (p1 &&& (3 : Int32))), .val (.int (p2 &&& (3 : Int32))), .val (.int (own_ch p3)), .val (.int (own_ch p4)), .val (.int (own_ch p5)), .val (.int (1 : Int32)), .val (.int (own_jk p6)), .val (.ref b7), .val (.ref (T13.heap.size)), .val (.int (1 : Int32)), .val (.ref (h18.size))] [(.ref (h18.size))])) rfl rfl (hb hby at_207) _ ?_
    rw [len_of Sr2 Nr2]
    show Steps p.tables e below (T19.setTop (mkF m 208 #[.val (.int p1), .val (.int p2), .val (.int p3), .val (.int p4), .val (.int p5), .val (.int p6), .val (.int (p1 &&& (3 : Int32))), .val (.int (p2 &&& (3 : Int32))), .val (.int (own_ch p3)), .val (.int (own_ch p4)), .val (.int (own_ch p5)), .val (.int (1 : Int32)), .val (.int (own_jk p6)), .val (.ref b7), .val (.ref (T13.heap.size)), .val (.int (1 : Int32)), .val (.ref (h18.size))] [(.int (Int32.ofNat ((([] ++ [(own_by (own_ch p3))]) ++ [(own_by (own_ch p4))]) ++ [(own_by (own_ch p5))]).length))])) _
    refine XS.iload X19.here hx rfl (hb hby at_208) rfl ?_
    show Steps p.tables e below (T19.setTop (mkF m 210 #[.val (.int p1), .val (.int p2), .val (.int p3), .val (.int p4), .val (.int p5), .val (.int p6), .val (.int (p1 &&& (3 : Int32))), .val (.int (p2 &&& (3 : Int32))), .val (.int (own_ch p3)), .val (.int (own_ch p4)), .val (.int (own_ch p5)), .val (.int (1 : Int32)), .val (.int (own_jk p6)), .val (.ref b7), .val (.ref (T13.heap.size)), .val (.int (1 : Int32)), .val (.ref (h18.size))] [(.int (p2 &&& (3 : Int32))), (.int (Int32.ofNat ((([] ++ [(own_by (own_ch p3))]) ++ [(own_by (own_ch p4))]) ++ [(own_by (own_ch p5))]).length))])) _
    refine XS.icmpNo X19.here hx rfl (hb hby at_210) rfl (teq (by rw [hn]; first | rfl | decide : (Int32.ofNat ((([] ++ [(own_by (own_ch p3))]) ++ [(own_by (own_ch p4))]) ++ [(own_by (own_ch p5))]).length) = (p2 &&& (3 : Int32)))).2 ?_
    show Steps p.tables e below (T19.setTop (mkF m 213 #[.val (.int p1), .val (.int p2), .val (.int p3), .val (.int p4), .val (.int p5), .val (.int p6), .val (.int (p1 &&& (3 : Int32))), .val (.int (p2 &&& (3 : Int32))), .val (.int (own_ch p3)), .val (.int (own_ch p4)), .val (.int (own_ch p5)), .val (.int (1 : Int32)), .val (.int (own_jk p6)), .val (.ref b7), .val (.ref (T13.heap.size)), .val (.int (1 : Int32)), .val (.ref (h18.size))] [])) _
    refine XS.aload X19.here hx rfl (hb hby at_213) rfl rfl ?_
    show Steps p.tables e below (T19.setTop (mkF m 215 #[.val (.int p1), .val (.int p2), .val (.int p3), .val (.int p4), .val (.int p5), .val (.int p6), .val (.int (p1 &&& (3 : Int32))), .val (.int (p2 &&& (3 : Int32))), .val (.int (own_ch p3)), .val (.int (own_ch p4)), .val (.int (own_ch p5)), .val (.int (1 : Int32)), .val (.int (own_jk p6)), .val (.ref b7), .val (.ref (T13.heap.size)), .val (.int (1 : Int32)), .val (.ref (h18.size))] [(.ref (h18.size))])) _
    refine XS.iload X19.here hx rfl (hb hby at_215) rfl ?_
    show Steps p.tables e below (T19.setTop (mkF m 217 #[.val (.int p1), .val (.int p2), .val (.int p3), .val (.int p4), .val (.int p5), .val (.int p6), .val (.int (p1 &&& (3 : Int32))), .val (.int (p2 &&& (3 : Int32))), .val (.int (own_ch p3)), .val (.int (own_ch p4)), .val (.int (own_ch p5)), .val (.int (1 : Int32)), .val (.int (own_jk p6)), .val (.ref b7), .val (.ref (T13.heap.size)), .val (.int (1 : Int32)), .val (.ref (h18.size))] [(.int (p2 &&& (3 : Int32))), (.ref (h18.size))])) _
    refine XS.iload X19.here hx rfl (hb hby at_217) rfl ?_
    show Steps p.tables e below (T19.setTop (mkF m 219 #[.val (.int p1), .val (.int p2), .val (.int p3), .val (.int p4), .val (.int p5), .val (.int p6), .val (.int (p1 &&& (3 : Int32))), .val (.int (p2 &&& (3 : Int32))), .val (.int (own_ch p3)), .val (.int (own_ch p4)), .val (.int (own_ch p5)), .val (.int (1 : Int32)), .val (.int (own_jk p6)), .val (.ref b7), .val (.ref (T13.heap.size)), .val (.int (1 : Int32)), .val (.ref (h18.size))] [(.int (own_ch p3)), (.int (p2 &&& (3 : Int32))), (.ref (h18.size))])) _
    refine XS.iload X19.here hx rfl (hb hby at_219) rfl ?_
    show Steps p.tables e below (T19.setTop (mkF m 221 #[.val (.int p1), .val (.int p2), .val (.int p3), .val (.int p4), .val (.int p5), .val (.int p6), .val (.int (p1 &&& (3 : Int32))), .val (.int (p2 &&& (3 : Int32))), .val (.int (own_ch p3)), .val (.int (own_ch p4)), .val (.int (own_ch p5)), .val (.int (1 : Int32)), .val (.int (own_jk p6)), .val (.ref b7), .val (.ref (T13.heap.size)), .val (.int (1 : Int32)), .val (.ref (h18.size))] [(.int (own_ch p4)), (.int (own_ch p3)), (.int (p2 &&& (3 : Int32))), (.ref (h18.size))])) _
    refine XS.iload X19.here hx rfl (hb hby at_221) rfl ?_
    show Steps p.tables e below (T19.setTop (mkF m 223 #[.val (.int p1), .val (.int p2), .val (.int p3), .val (.int p4), .val (.int p5), .val (.int p6), .val (.int (p1 &&& (3 : Int32))), .val (.int (p2 &&& (3 : Int32))), .val (.int (own_ch p3)), .val (.int (own_ch p4)), .val (.int (own_ch p5)), .val (.int (1 : Int32)), .val (.int (own_jk p6)), .val (.ref b7), .val (.ref (T13.heap.size)), .val (.int (1 : Int32)), .val (.ref (h18.size))] [(.int (own_ch p5)), (.int (own_ch p4)), (.int (own_ch p3)), (.int (p2 &&& (3 : Int32))), (.ref (h18.size))])) _
    refine st20 _ ?_
    show Steps p.tables e below (T20.setTop (mkF m 226 #[.val (.int p1), .val (.int p2), .val (.int p3), .val (.int p4), .val (.int p5), .val (.int p6), .val (.int (p1 &&& (3 : Int32))), .val (.int (p2 &&& (3 : Int32))), .val (.int (own_ch p3)), .val (.int (own_ch p4)), .val (.int (own_ch p5)), .val (.int (1 : Int32)), .val (.int (own_jk p6)), .val (.ref b7), .val (.ref (T13.heap.size)), .val (.int (1 : Int32)), .val (.ref (h18.size))] [(.int (1 : Int32))])) _
    refine XS.ifNo X20.here hx rfl (hb hby at_226) rfl ((if0 _ _).trans (feq (by decide : ¬ ((1 : Int32) = (0 : Int32)))).1) ?_
    show Steps p.tables e below (T20.setTop (mkF m 229 #[.val (.int p1), .val (.int p2), .val (.int p3), .val (.int p4), .val (.int p5), .val (.int p6), .val (.int (p1 &&& (3 : Int32))), .val (.int (p2 &&& (3 : Int32))), .val (.int (own_ch p3)), .val (.int (own_ch p4)), .val (.int (own_ch p5)), .val (.int (1 : Int32)), .val (.int (own_jk p6)), .val (.ref b7), .val (.ref (T13.heap.size)), .val (.int (1 : Int32)), .val (.ref (h18.size))] [])) _
    refine XS.iconst X20.here hx rfl (hb hby at_229) ?_
    show Steps p.tables e below (T20.setTop (mkF m 230 #[.val (.int p1), .val (.int p2), .val (.int p3), .val (.int p4), .val (.int p5), .val (.int p6), .val (.int (p1 &&& (3 : Int32))), .val (.int (p2 &&& (3 : Int32))), .val (.int (own_ch p3)), .val (.int (own_ch p4)), .val (.int (own_ch p5)), .val (.int (1 : Int32)), .val (.int (own_jk p6)), .val (.ref b7), .val (.ref (T13.heap.size)), .val (.int (1 : Int32)), .val (.ref (h18.size))] [(.int (1 : Int32))])) _
    refine XS.goto X20.here hx rfl (pc0 := 230) (pc' := 234) rfl (hb hby at_230) (by decide) (by decide) ?_
    show Steps p.tables e below (T20.setTop (mkF m 234 #[.val (.int p1), .val (.int p2), .val (.int p3), .val (.int p4), .val (.int p5), .val (.int p6), .val (.int (p1 &&& (3 : Int32))), .val (.int (p2 &&& (3 : Int32))), .val (.int (own_ch p3)), .val (.int (own_ch p4)), .val (.int (own_ch p5)), .val (.int (1 : Int32)), .val (.int (own_jk p6)), .val (.ref b7), .val (.ref (T13.heap.size)), .val (.int (1 : Int32)), .val (.ref (h18.size))] [(.int (1 : Int32))])) _
    exact retN X20 hx (t := .boolean) Bd.returns (by simp) (hb hby at_234) hr
  · show Q0 h0 n0 _ T20.heap _
    exact ⟨rfl, N20⟩
theorem rm0 (l : Launch) (Z : State) (a0 : Array Value) (hw : ∀ d ∈ tables_1, d.before a0 Z = true) (ws : List Jvm.Cond) (p1 : Int32) (p2 : Int32) (p3 : Int32) (p4 : Int32) (p5 : Int32) (p6 : Int32) (h0 : Heap) (n0 : Nat) (Z0 : n0 ≤ h0.size) :
    MetFree l x (head1 (Jvm.Cond.code x code maxLocals ret :: ws) room_1) (fun a U => a = #[(.int p1), (.int p2), (.int p3), (.int p4), (.int p5), (.int p6)] ∧ Z.Warmed39 U.vm ∧ U.heap = h0) (fun _ _ _ _ _ => True) (fun _ U o U' => ∃ v L, o = .returned v ∧ Q0 h0 n0 v U'.heap L ∧ FrameEnd U o U' L room_1.cells room_1.slots) := by
  obtain ⟨cap, hcap, hcap3⟩ := own_cap p1
  by_cases hc36 : (p6 &&& (1 : Int32)) = (0 : Int32)
  · rcases own_e p2 with hn | hn | hn | hn
    · exact rm0_c0n0 l Z a0 hw ws p1 p2 p3 p4 p5 p6 h0 n0 Z0 cap hcap hcap3 hn hc36
    · exact rm0_c0n1 l Z a0 hw ws p1 p2 p3 p4 p5 p6 h0 n0 Z0 cap hcap hcap3 hn hc36
    · exact rm0_c0n2 l Z a0 hw ws p1 p2 p3 p4 p5 p6 h0 n0 Z0 cap hcap hcap3 hn hc36
    · exact rm0_c0n3 l Z a0 hw ws p1 p2 p3 p4 p5 p6 h0 n0 Z0 cap hcap hcap3 hn hc36
  · rcases own_e p2 with hn | hn | hn | hn
    · exact rm0_c1n0 l Z a0 hw ws p1 p2 p3 p4 p5 p6 h0 n0 Z0 cap hcap hcap3 hn hc36
    · exact rm0_c1n1 l Z a0 hw ws p1 p2 p3 p4 p5 p6 h0 n0 Z0 cap hcap hcap3 hn hc36
    · exact rm0_c1n2 l Z a0 hw ws p1 p2 p3 p4 p5 p6 h0 n0 Z0 cap hcap hcap3 hn hc36
    · exact rm0_c1n3 l Z a0 hw ws p1 p2 p3 p4 p5 p6 h0 n0 Z0 cap hcap hcap3 hn hc36
-- 5. FROM THE CASE'S WORDS TO rm0, AND THE OWED THEOREMS
set_option maxRecDepth 65536 in
set_option maxHeartbeats 40000000 in
theorem comes_1 {Post : Tables → Env → Array Value → State → Outcome → State → Prop} (hpost : ∀ tb e args s v u, (limb_1_1.after args s (.returned v) u = true ∧ limb_1_2.after args s (.returned v) u = true ∧ True) → FrameEnd s (.returned v) u (Jvm.fieldLocs frame_1_writes args s ++ Jvm.arrayLocs frame_1_arrays args s ++ Jvm.staticLocs frame_1_statics s) 24 128 → Post tb e args s (.returned v) u) :
    ArmFor flags0 classFile x code maxLocals ret World_1 tables_1 room_1 Calls_1 rest_1 Pre_1 Post := by
  intro l hfl _ _ p e ha hc hk s m args below hf hA hF happ hP
  obtain ⟨hcalls, hrest, hpre⟩ := hP
  obtain ⟨-, -, -, hnamed, -, -, -, hat⟩ := (Spec.applies_iff hf).mp happ
  obtain ⟨hg, hn⟩ := and_e (Cond.before_iff.mp (show (Jvm.Cond.and given_1 narrow_1).before args s = true from hpre))
  obtain ⟨g21, g22⟩ := and_e hg
  obtain ⟨g23, g24⟩ := and_e g22
  obtain ⟨g25, g26⟩ := and_e g24
  obtain ⟨g27, g28⟩ := and_e g26
  obtain ⟨g29, g30⟩ := and_e g28
  obtain ⟨g31, g32⟩ := and_e g30
  obtain ⟨w0, w1, w2, w3, w4, w5, rfl⟩ : ∃ w0 w1 w2 w3 w4 w5 : Value, args = #[w0, w1, w2, w3, w4, w5] := by
    have hs : args.size = 6 := by simpa [Cond.value, given_1] using g21
    obtain ⟨L⟩ := args
    match L, hs with
    | [w0, w1, w2, w3, w4, w5], _ => exact ⟨w0, w1, w2, w3, w4, w5, rfl⟩
  have hw := fun d (hd : d ∈ tables_1) => atoms_spec (ws := Jvm.Cond.code x code maxLocals ret :: tables_1) hat d (List.mem_cons_of_mem _ hd)
  have hfit : Fit s := fun {y c} hc i hi => by
    obtain ⟨ha, rfl⟩ := Array.getElem?_eq_some_iff.mp hc
    have q := List.all_eq_true.mp ((Array.all_eq_true_iff_forall_mem.mp hF) _ (Array.getElem_mem ha)) i (List.mem_range.mpr hi)
    simpa [Array.getElem?_eq_getElem hi] using q
  obtain ⟨i0, ei0⟩ := is_v g23
  obtain rfl : w0 = (.int i0) := Option.some.inj ei0
  obtain ⟨i1, ei1⟩ := is_v g25
  obtain rfl : w1 = (.int i1) := Option.some.inj ei1
  obtain ⟨i2, ei2⟩ := is_v g27
  obtain rfl : w2 = (.int i2) := Option.some.inj ei2
  obtain ⟨i3, ei3⟩ := is_v g29
  obtain rfl : w3 = (.int i3) := Option.some.inj ei3
  obtain ⟨i4, ei4⟩ := is_v g31
  obtain rfl : w4 = (.int i4) := Option.some.inj ei4
  obtain ⟨i5, ei5⟩ := is_v g32
  obtain rfl : w5 = (.int i5) := Option.some.inj ei5
  obtain ⟨n, o, h1, h2, h3, _, L, rfl, ⟨rfl, N⟩, hq⟩ := rm0 l s _ hw tables_1 i0 i1 i2 i3 i4 i5 s.heap s.heap.size (Nat.le_refl _)  p e ha hc hk s m _ below hf ((Spec.applies_iff_loose hf).mp happ).1 ⟨rfl, State.Warmed39.refl s, rfl⟩ trivial
  refine ⟨n, _, h1, h2, h3, hpost _ _ _ _ _ _ ⟨Cond.after_iff.mpr rfl, Cond.after_iff.mpr (eq_i res_at (Term.int_eval (1)) rfl), trivial⟩ ⟨hq.1, hq.2.1, (hq.2.2.sift fun y hy => Or.inr (N y hy)).mono (by decide) (by decide)⟩⟩
theorem main_1_1 : Claimed_1_1 := comes_1 fun _ _ _ _ _ _ h hF => ⟨h.1, hF⟩
theorem main_1_2 : Claimed_1_2 := comes_1 fun _ _ _ _ _ _ h hF => ⟨h.2.1, hF⟩
-- 6. THE WITNESS: 'witness <made dir> --arg ..' lays it behind; then: end Jvm.Pilot.@@N@@
end Jvm.Pilot.@@N@@
namespace Jvm.Pilot.@@N@@
open Jvm Jvm.ClassFile Sem Op Lib Jvm.Free Jvm.Stand Jvm.Pilot.@@N@@.Jvm.D
/-! MADE BY PROGRAM (witnessworld.py) out of the Statement's table words and the real class files: 12 classes; the members and pool entries that the words name. The judged class is class 1, her method 1. -/
namespace start1
open Jvm.ClassFile
def u (s : String) : CpInfo := .utf8 (stringToUtf16 s)
/-- a pool by its gaps: so many unusable entries, then the entry; so many at the end -/
def gap : Nat → List CpInfo → List CpInfo
  | 0, r => r
  | n + 1, r => .unusable :: gap n r
def poolList (es : List (Nat × CpInfo)) (last : Nat) : List CpInfo := es.foldr (fun e r => gap e.1 (e.2 :: r)) (gap last [])
def pool (es : List (Nat × CpInfo)) (last : Nat) : Array CpInfo := ⟨poolList es last⟩
def fileOf (pool : Array CpInfo) (this : Nat) (attrs : Array Attribute := #[]) (ms : Array MethodInfo := #[]) (fl : Nat := 33) (sup : Nat := 0) (ifs : Array Nat := #[]) (fds : Array FieldInfo := #[]) : ClassFile where
  minorVersion := 0
  majorVersion := 65
  constantPool := pool
  accessFlags := fl
  thisClass := this
  superClass := sup
  interfaces := ifs
  fields := fds
  methods := ms
  attributes := attrs
def plain (name : String) (sup : Option ClassId) : Class where
  name := name
  kind := .ordinary
  loader := none
  accessFlags := 33
  super := sup
  interfaces := #[]
  cf := none
  fields := #[]
  methods := #[]
  instanceTypes := #[]
  staticTypes := #[]
  resolved := #[]
  callSites := []
  init := .initialized
  statics := none
  mirror := none

def pool0 : Array CpInfo := pool [(5, u "<init>"), (0, u "()V"), (1, .class_ 10), (1, u "java/lang/Object"), (85, u "clone"), (0, u "()Ljava/lang/Object;")] 26

def k0c0 : Code := { maxStack := 0, maxLocals := 1, code := object_method_1_code, exceptionTable := #[], attributes := #[] }
def k0m0 : Method := { name := "<init>", desc := "()V", sig := { parameters := [], returnType := none }, accessFlags := 1, code := some k0c0 }
def k0m1 : Method := { name := "clone", desc := "()Ljava/lang/Object;", sig := { parameters := [], returnType := some (.object "java/lang/Object") }, accessFlags := 260, code := none }
/-- java/lang/Object -/
def k0 : Class := { plain "java/lang/Object" none with
  accessFlags := 33
  interfaces := #[]
  cf := some (fileOf pool0 8 #[] #[{ accessFlags := 1, nameIndex := 5, descriptorIndex := 6, attributes := #[] }, { accessFlags := 260, nameIndex := 96, descriptorIndex := 97, attributes := #[] }] 33 0 #[] #[])
  fields := #[]
  methods := #[k0m0, k0m1]
  instanceTypes := #[]
  staticTypes := #[]
  resolved := Array.replicate 124 none
  statics := none }

def pool1 : Array CpInfo := pool [(2, .class_ 4), (1, u "java/lang/Object"), (0, u "<init>"), (0, u "()V"), (0, .class_ 8), (0, u "com/example/acompte/acompte/Utf8Builder"), (0, .methodref 7 10), (0, .nameAndType 5 11), (0, u "(I)V"), (0, .methodref 7 13), (0, .nameAndType 14 15), (0, u "append"), (0, u "(C)Lcom/example/acompte/acompte/Utf8Builder;"), (0, .methodref 7 17), (0, .nameAndType 18 6), (0, u "clear"), (0, .methodref 7 20), (0, .nameAndType 21 22), (0, u "toByteArray"), (0, u "()[B"), (0, .methodref 7 24), (0, .nameAndType 25 26), (0, u "length"), (0, u "()I"), (0, .methodref 28 29), (0, .class_ 30), (0, .nameAndType 31 32), (0, u "com/example/acompte/acompte/Utf8BuilderToByteArrayPinLaw"), (0, u "matches"), (0, u "([BICCC)Z"), (2, u "law"), (0, u "(IIIIII)Z")] 5

def k1m0 : Method := { name := "<init>", desc := "()V", sig := { parameters := [], returnType := none }, accessFlags := 1, code := none }
def k1c1 : Code := { maxStack := 5, maxLocals := 17, code := code, exceptionTable := #[], attributes := #[] }
def k1m1 : Method := { name := "law", desc := "(IIIIII)Z", sig := { parameters := [.int, .int, .int, .int, .int, .int], returnType := some .boolean }, accessFlags := 9, code := some k1c1 }
def k1c2 : Code := { maxStack := 2, maxLocals := 5, code := method_3_code, exceptionTable := #[], attributes := #[] }
def k1m2 : Method := { name := "matches", desc := "([BICCC)Z", sig := { parameters := [(.array .byte), .int, .char, .char, .char], returnType := some .boolean }, accessFlags := 10, code := some k1c2 }
/-- com/example/acompte/acompte/Utf8BuilderToByteArrayPinLaw -/
def k1 : Class := { plain "com/example/acompte/acompte/Utf8BuilderToByteArrayPinLaw" (some 0) with
  accessFlags := 49
  interfaces := #[]
  cf := some (fileOf pool1 28 #[] #[{ accessFlags := 1, nameIndex := 5, descriptorIndex := 6, attributes := #[] }, { accessFlags := 9, nameIndex := 35, descriptorIndex := 36, attributes := #[] }, { accessFlags := 10, nameIndex := 31, descriptorIndex := 32, attributes := #[] }] 49 2 #[] #[])
  fields := #[]
  methods := #[k1m0, k1m1, k1m2]
  instanceTypes := #[]
  staticTypes := #[]
  resolved := Array.replicate 42 none
  statics := none }

def pool2 : Array CpInfo := pool [(1, .methodref 2 3), (0, .class_ 4), (0, .nameAndType 5 6), (0, u "java/lang/Object"), (0, u "<init>"), (0, u "()V"), (0, .fieldref 8 9), (0, .class_ 10), (0, .nameAndType 11 12), (0, u "com/example/acompte/acompte/Utf8Builder"), (0, u "bytes"), (0, u "[B"), (0, .fieldref 8 14), (0, .nameAndType 15 16), (0, u "length"), (0, u "I"), (0, .methodref 8 18), (0, .nameAndType 19 20), (0, u "room"), (0, u "(I)V"), (10, u "()I"), (20, u "append"), (3, u "POWERS_OF_TEN"), (0, u "[J"), (0, .methodref 59 60), (0, .class_ 61), (0, .nameAndType 62 63), (0, u "java/lang/Math"), (0, u "max"), (0, u "(II)I"), (10, .methodref 75 76), (0, .class_ 77), (0, .nameAndType 78 79), (0, u "java/util/Arrays"), (0, u "copyOf"), (0, u "([BI)[B"), (9, u "clear"), (0, u "(C)Lcom/example/acompte/acompte/Utf8Builder;"), (9, u "toByteArray"), (0, u "()[B")] 6

def k2c0 : Code := { maxStack := 2, maxLocals := 2, code := prog_64_method_1_code, exceptionTable := #[], attributes := #[] }
def k2m0 : Method := { name := "<init>", desc := "(I)V", sig := { parameters := [.int], returnType := none }, accessFlags := 0, code := some k2c0 }
def k2c1 : Code := { maxStack := 1, maxLocals := 1, code := prog_64_method_2_code, exceptionTable := #[], attributes := #[] }
def k2m1 : Method := { name := "length", desc := "()I", sig := { parameters := [], returnType := some .int }, accessFlags := 0, code := some k2c1 }
def k2c2 : Code := { maxStack := 2, maxLocals := 1, code := prog_64_method_3_code, exceptionTable := #[], attributes := #[] }
def k2m2 : Method := { name := "clear", desc := "()V", sig := { parameters := [], returnType := none }, accessFlags := 0, code := some k2c2 }
def k2c3 : Code := { maxStack := 5, maxLocals := 2, code := prog_64_method_4_code, exceptionTable := #[], attributes := #[] }
def k2m3 : Method := { name := "append", desc := "(C)Lcom/example/acompte/acompte/Utf8Builder;", sig := { parameters := [.char], returnType := some (.object "com/example/acompte/acompte/Utf8Builder") }, accessFlags := 0, code := some k2c3 }
def k2c4 : Code := { maxStack := 2, maxLocals := 1, code := prog_64_method_9_code, exceptionTable := #[], attributes := #[] }
def k2m4 : Method := { name := "toByteArray", desc := "()[B", sig := { parameters := [], returnType := some (.array .byte) }, accessFlags := 0, code := some k2c4 }
def k2c5 : Code := { maxStack := 5, maxLocals := 2, code := prog_64_method_12_code, exceptionTable := #[], attributes := #[] }
def k2m5 : Method := { name := "room", desc := "(I)V", sig := { parameters := [.int], returnType := none }, accessFlags := 2, code := some k2c5 }
/-- com/example/acompte/acompte/Utf8Builder -/
def k2 : Class := { plain "com/example/acompte/acompte/Utf8Builder" (some 0) with
  accessFlags := 32
  interfaces := #[]
  cf := some (fileOf pool2 8 #[] #[{ accessFlags := 0, nameIndex := 5, descriptorIndex := 20, attributes := #[] }, { accessFlags := 0, nameIndex := 15, descriptorIndex := 31, attributes := #[] }, { accessFlags := 0, nameIndex := 89, descriptorIndex := 6, attributes := #[] }, { accessFlags := 0, nameIndex := 52, descriptorIndex := 90, attributes := #[] }, { accessFlags := 0, nameIndex := 100, descriptorIndex := 101, attributes := #[] }, { accessFlags := 2, nameIndex := 19, descriptorIndex := 20, attributes := #[] }] 32 2 #[] #[{ accessFlags := 26, nameIndex := 56, descriptorIndex := 57, attributes := #[] }, { accessFlags := 2, nameIndex := 11, descriptorIndex := 12, attributes := #[] }, { accessFlags := 2, nameIndex := 15, descriptorIndex := 16, attributes := #[] }])
  fields := #[{ name := "POWERS_OF_TEN", type := (.array .long), accessFlags := 26, slot := 0, constantValue := 0 }, { name := "bytes", type := (.array .byte), accessFlags := 2, slot := 0, constantValue := 0 }, { name := "length", type := .int, accessFlags := 2, slot := 1, constantValue := 0 }]
  methods := #[k2m0, k2m1, k2m2, k2m3, k2m4, k2m5]
  instanceTypes := #[(.array .byte), .int]
  staticTypes := #[(.array .long)]
  resolved := Array.replicate 108 none
  statics := none }

def pool3 : Array CpInfo := pool [(1, .class_ 2), (0, u "java/lang/Math"), (1, .class_ 6), (1, u "java/lang/Object"), (0, u "<init>"), (0, u "()V"), (89, .class_ 100), (1, u "java/lang/Math$RandomNumberGeneratorHolder"), (71, u "negativeZeroFloatBits"), (0, u "J"), (2, u "negativeZeroDoubleBits"), (21, u "max"), (2, u "min"), (43, u "$assertionsDisabled"), (0, u "Z"), (88, u "(II)I"), (2, u "twoToTheDoubleScaleDown"), (0, u "D"), (4, u "twoToTheDoubleScaleUp"), (9, u "E"), (3, u "PI"), (2, u "TAU"), (2, u "DEGREES_TO_RADIANS"), (0, u "RADIANS_TO_DEGREES")] 94

def k3m0 : Method := { name := "<init>", desc := "()V", sig := { parameters := [], returnType := none }, accessFlags := 2, code := none }
def k3c1 : Code := { maxStack := 2, maxLocals := 2, code := jdk_29_method_65_code, exceptionTable := #[], attributes := #[] }
def k3m1 : Method := { name := "max", desc := "(II)I", sig := { parameters := [.int, .int], returnType := some .int }, accessFlags := 9, code := some k3c1 }
def k3c2 : Code := { maxStack := 2, maxLocals := 2, code := jdk_29_method_69_code, exceptionTable := #[], attributes := #[] }
def k3m2 : Method := { name := "min", desc := "(II)I", sig := { parameters := [.int, .int], returnType := some .int }, accessFlags := 9, code := some k3c2 }
/-- java/lang/Math -/
def k3 : Class := { plain "java/lang/Math" (some 0) with
  accessFlags := 49
  interfaces := #[]
  cf := some (fileOf pool3 1 #[.nestMembers #[98]] #[{ accessFlags := 2, nameIndex := 7, descriptorIndex := 8, attributes := #[] }, { accessFlags := 9, nameIndex := 198, descriptorIndex := 335, attributes := #[] }, { accessFlags := 9, nameIndex := 201, descriptorIndex := 335, attributes := #[] }] 49 4 #[] #[{ accessFlags := 25, nameIndex := 354, descriptorIndex := 339, attributes := #[] }, { accessFlags := 25, nameIndex := 358, descriptorIndex := 339, attributes := #[] }, { accessFlags := 25, nameIndex := 361, descriptorIndex := 339, attributes := #[] }, { accessFlags := 26, nameIndex := 364, descriptorIndex := 339, attributes := #[] }, { accessFlags := 26, nameIndex := 365, descriptorIndex := 339, attributes := #[] }, { accessFlags := 26, nameIndex := 172, descriptorIndex := 173, attributes := #[] }, { accessFlags := 26, nameIndex := 176, descriptorIndex := 173, attributes := #[] }, { accessFlags := 8, nameIndex := 344, descriptorIndex := 339, attributes := #[] }, { accessFlags := 8, nameIndex := 338, descriptorIndex := 339, attributes := #[] }, { accessFlags := 4120, nameIndex := 245, descriptorIndex := 246, attributes := #[] }])
  fields := #[{ name := "E", type := .double, accessFlags := 25, slot := 0, constantValue := 0 }, { name := "PI", type := .double, accessFlags := 25, slot := 1, constantValue := 0 }, { name := "TAU", type := .double, accessFlags := 25, slot := 2, constantValue := 0 }, { name := "DEGREES_TO_RADIANS", type := .double, accessFlags := 26, slot := 3, constantValue := 0 }, { name := "RADIANS_TO_DEGREES", type := .double, accessFlags := 26, slot := 4, constantValue := 0 }, { name := "negativeZeroFloatBits", type := .long, accessFlags := 26, slot := 5, constantValue := 0 }, { name := "negativeZeroDoubleBits", type := .long, accessFlags := 26, slot := 6, constantValue := 0 }, { name := "twoToTheDoubleScaleUp", type := .double, accessFlags := 8, slot := 7, constantValue := 0 }, { name := "twoToTheDoubleScaleDown", type := .double, accessFlags := 8, slot := 8, constantValue := 0 }, { name := "$assertionsDisabled", type := .boolean, accessFlags := 4120, slot := 9, constantValue := 0 }]
  methods := #[k3m0, k3m1, k3m2]
  instanceTypes := #[]
  staticTypes := #[.double, .double, .double, .double, .double, .long, .long, .double, .double, .boolean]
  resolved := Array.replicate 460 none
  statics := none }

def pool4 : Array CpInfo := pool [(2, .class_ 4), (1, u "java/lang/Object"), (0, u "<init>"), (0, u "()V"), (7, .class_ 16), (1, u "java/util/Arrays"), (57, .class_ 76), (1, u "java/util/Arrays$NaturalOrder"), (32, u "()Ljava/lang/Object;"), (3, .class_ 115), (1, u "java/util/Arrays$LegacyMergeSort"), (1, u "Z"), (10, .nameAndType 129 109), (0, u "clone"), (20, .methodref 151 152), (0, .class_ 153), (0, .nameAndType 154 155), (0, u "java/lang/System"), (0, u "arraycopy"), (0, u "(Ljava/lang/Object;ILjava/lang/Object;II)V"), (146, u "copyOf"), (1, .methodref 305 306), (0, .class_ 307), (0, .nameAndType 308 309), (0, u "java/lang/Math"), (0, u "min"), (0, u "(II)I"), (0, .methodref 311 128), (0, .class_ 312), (0, u "[B"), (62, .class_ 376), (0, u "java/util/Arrays$ArrayList"), (68, u "$assertionsDisabled"), (269, u "MIN_ARRAY_SORT_GRAN"), (0, u "I"), (2, u "INSERTIONSORT_THRESHOLD"), (149, u "([BI)[B"), (105, .class_ 976), (0, u "java/util/Arrays$ArrayItr")] 52

def k4m0 : Method := { name := "<init>", desc := "()V", sig := { parameters := [], returnType := none }, accessFlags := 2, code := none }
def k4c1 : Code := { maxStack := 6, maxLocals := 3, code := jdk_65_method_121_code, exceptionTable := #[], attributes := #[] }
def k4m1 : Method := { name := "copyOf", desc := "([BI)[B", sig := { parameters := [(.array .byte), .int], returnType := some (.array .byte) }, accessFlags := 9, code := some k4c1 }
/-- java/util/Arrays -/
def k4 : Class := { plain "java/util/Arrays" (some 0) with
  accessFlags := 49
  interfaces := #[]
  cf := some (fileOf pool4 14 #[.nestMembers #[975, 375, 113, 74]] #[{ accessFlags := 2, nameIndex := 5, descriptorIndex := 6, attributes := #[] }, { accessFlags := 9, nameIndex := 302, descriptorIndex := 869, attributes := #[] }] 49 2 #[] #[{ accessFlags := 26, nameIndex := 715, descriptorIndex := 716, attributes := #[] }, { accessFlags := 26, nameIndex := 719, descriptorIndex := 716, attributes := #[] }, { accessFlags := 4120, nameIndex := 445, descriptorIndex := 117, attributes := #[] }])
  fields := #[{ name := "MIN_ARRAY_SORT_GRAN", type := .int, accessFlags := 26, slot := 0, constantValue := 0 }, { name := "INSERTIONSORT_THRESHOLD", type := .int, accessFlags := 26, slot := 1, constantValue := 0 }, { name := "$assertionsDisabled", type := .boolean, accessFlags := 4120, slot := 2, constantValue := 0 }]
  methods := #[k4m0, k4m1]
  instanceTypes := #[]
  staticTypes := #[.int, .int, .boolean]
  resolved := Array.replicate 1029 none
  statics := none }

def pool5 : Array CpInfo := pool [(2, .class_ 4), (1, u "java/lang/Object"), (0, u "<init>"), (0, u "()V"), (1, .class_ 10), (1, u "java/lang/System"), (0, u "allowSecurityManager"), (0, u "I"), (16, u "cons"), (0, u "Ljava/io/Console;"), (77, .class_ 110), (1, u "java/lang/System$CallersHolder"), (43, u "initialErrStream"), (0, u "Ljava/io/PrintStream;"), (19, u "security"), (0, u "Ljava/lang/SecurityManager;"), (31, .class_ 209), (0, u "java/lang/System$1"), (7, u "props"), (0, u "Ljava/util/Properties;"), (2, u "lineSeparator"), (0, u "Ljava/lang/String;"), (96, .class_ 321), (1, u "java/lang/System$LoggerFinder"), (5, .class_ 328), (0, u "java/lang/System$Logger"), (67, u "err"), (2, u "out"), (91, u "notSupportedJnuEncoding"), (15, u "in"), (17, u "initialIn"), (0, u "Ljava/io/InputStream;"), (35, u "bootLayer"), (0, u "Ljava/lang/ModuleLayer;"), (99, .class_ 664), (0, u "java/lang/System$2"), (9, u "NEVER"), (2, u "MAYBE"), (49, u "arraycopy"), (0, u "(Ljava/lang/Object;ILjava/lang/Object;II)V"), (72, .class_ 802), (0, u "java/lang/System$Logger$Level")] 31

def k5m0 : Method := { name := "<init>", desc := "()V", sig := { parameters := [], returnType := none }, accessFlags := 2, code := none }
def k5m1 : Method := { name := "arraycopy", desc := "(Ljava/lang/Object;ILjava/lang/Object;II)V", sig := { parameters := [(.object "java/lang/Object"), .int, (.object "java/lang/Object"), .int, .int], returnType := none }, accessFlags := 265, code := none }
/-- java/lang/System -/
def k5 : Class := { plain "java/lang/System" (some 0) with
  accessFlags := 49
  interfaces := #[]
  cf := some (fileOf pool5 8 #[.nestMembers #[319, 327, 801, 108, 663, 208]] #[{ accessFlags := 2, nameIndex := 5, descriptorIndex := 6, attributes := #[] }, { accessFlags := 265, nameIndex := 727, descriptorIndex := 728, attributes := #[] }] 49 2 #[] #[{ accessFlags := 25, nameIndex := 507, descriptorIndex := 526, attributes := #[] }, { accessFlags := 25, nameIndex := 399, descriptorIndex := 155, attributes := #[] }, { accessFlags := 25, nameIndex := 396, descriptorIndex := 155, attributes := #[] }, { accessFlags := 10, nameIndex := 525, descriptorIndex := 526, attributes := #[] }, { accessFlags := 26, nameIndex := 674, descriptorIndex := 12, attributes := #[] }, { accessFlags := 26, nameIndex := 677, descriptorIndex := 12, attributes := #[] }, { accessFlags := 10, nameIndex := 11, descriptorIndex := 12, attributes := #[] }, { accessFlags := 74, nameIndex := 175, descriptorIndex := 176, attributes := #[] }, { accessFlags := 10, nameIndex := 491, descriptorIndex := 222, attributes := #[] }, { accessFlags := 74, nameIndex := 29, descriptorIndex := 30, attributes := #[] }, { accessFlags := 74, nameIndex := 154, descriptorIndex := 155, attributes := #[] }, { accessFlags := 10, nameIndex := 217, descriptorIndex := 218, attributes := #[] }, { accessFlags := 10, nameIndex := 221, descriptorIndex := 222, attributes := #[] }, { accessFlags := 8, nameIndex := 562, descriptorIndex := 563, attributes := #[] }])
  fields := #[{ name := "in", type := (.object "java/io/InputStream"), accessFlags := 25, slot := 0, constantValue := 0 }, { name := "out", type := (.object "java/io/PrintStream"), accessFlags := 25, slot := 1, constantValue := 0 }, { name := "err", type := (.object "java/io/PrintStream"), accessFlags := 25, slot := 2, constantValue := 0 }, { name := "initialIn", type := (.object "java/io/InputStream"), accessFlags := 10, slot := 3, constantValue := 0 }, { name := "NEVER", type := .int, accessFlags := 26, slot := 4, constantValue := 0 }, { name := "MAYBE", type := .int, accessFlags := 26, slot := 5, constantValue := 0 }, { name := "allowSecurityManager", type := .int, accessFlags := 10, slot := 6, constantValue := 0 }, { name := "security", type := (.object "java/lang/SecurityManager"), accessFlags := 74, slot := 7, constantValue := 0 }, { name := "notSupportedJnuEncoding", type := (.object "java/lang/String"), accessFlags := 10, slot := 8, constantValue := 0 }, { name := "cons", type := (.object "java/io/Console"), accessFlags := 74, slot := 9, constantValue := 0 }, { name := "initialErrStream", type := (.object "java/io/PrintStream"), accessFlags := 74, slot := 10, constantValue := 0 }, { name := "props", type := (.object "java/util/Properties"), accessFlags := 10, slot := 11, constantValue := 0 }, { name := "lineSeparator", type := (.object "java/lang/String"), accessFlags := 10, slot := 12, constantValue := 0 }, { name := "bootLayer", type := (.object "java/lang/ModuleLayer"), accessFlags := 8, slot := 13, constantValue := 0 }]
  methods := #[k5m0, k5m1]
  instanceTypes := #[]
  staticTypes := #[(.object "java/io/InputStream"), (.object "java/io/PrintStream"), (.object "java/io/PrintStream"), (.object "java/io/InputStream"), .int, .int, .int, (.object "java/lang/SecurityManager"), (.object "java/lang/String"), (.object "java/io/Console"), (.object "java/io/PrintStream"), (.object "java/util/Properties"), (.object "java/lang/String"), (.object "java/lang/ModuleLayer")]
  resolved := Array.replicate 834 none
  statics := none }

def pool6 : Array CpInfo := pool [(1, .class_ 2), (0, u "java/lang/Cloneable"), (0, .class_ 4), (0, u "java/lang/Object")] 2

/-- java/lang/Cloneable -/
def k6 : Class := { plain "java/lang/Cloneable" (some 0) with
  accessFlags := 1537
  interfaces := #[]
  cf := some (fileOf pool6 1 #[] #[] 1537 3 #[] #[])
  fields := #[]
  methods := #[]
  instanceTypes := #[]
  staticTypes := #[]
  resolved := Array.replicate 7 none
  statics := none }

def pool7 : Array CpInfo := pool [(1, u "java/io/Serializable"), (0, .class_ 1), (0, u "java/lang/Object"), (0, .class_ 3)] 3

/-- java/io/Serializable -/
def k7 : Class := { plain "java/io/Serializable" (some 0) with
  accessFlags := 1537
  interfaces := #[]
  cf := some (fileOf pool7 2 #[] #[] 1537 4 #[] #[])
  fields := #[]
  methods := #[]
  instanceTypes := #[]
  staticTypes := #[]
  resolved := Array.replicate 8 none
  statics := none }

/-- the primitive byte -/
def k8 : Class := { plain "byte" none with kind := .primitive 'B', accessFlags := 0x411 }
/-- [B -/
def k9 : Class := { plain "[B" (some 0) with kind := .array 8 .byte, interfaces := #[6, 7], accessFlags := 1041 }

/-- the primitive int -/
def k10 : Class := { plain "int" none with kind := .primitive 'I', accessFlags := 0x411 }
/-- [I -/
def k11 : Class := { plain "[I" (some 0) with kind := .array 10 .int, interfaces := #[6, 7], accessFlags := 1041 }

def heap : Heap := #[]
def classes : Array Class := #[k0, k1, k2, k3, k4, k5, k6, k7, k8, k9, k10, k11]
def interned : List (Array UInt16 × Addr) := []
def slotsUsed : Nat := 0
def theMethod : MethodId := ⟨1, 1⟩
def args0 : Array Value := #[.int 5, .int 6, .int 65, .int 66, .int 67, .int 1]
def aboutOver (below : List Frame) : State where
  vm := { classes := classes, interned := interned.toArray }
  heap := heap
  slotsUsed := slotsUsed
  threads := #[{ frames := .invoking theMethod args0 :: below }]
def below0 : List Frame := [.native { method := ⟨0, 0⟩, args := #[] }]
def about1 : State := aboutOver below0
def p0 : Program := .bare "" "" ""
def e0 : Env := launch0.env 0 0 0
theorem w_frames : about1.frames = Frame.invoking theMethod args0 :: below0 := rfl
set_option maxRecDepth 65536 in
theorem w_args : argsFit about1.vm theMethod args0 = true := by decide +kernel
set_option maxRecDepth 65536 in
theorem w_heap : heapFits about1 = true := by decide +kernel
set_option maxRecDepth 65536 in
theorem w_runnable : about1.curStatus? = some .runnable := by decide +kernel
set_option maxRecDepth 65536 in
theorem w_alone : about1.alone = true := by decide +kernel
set_option maxRecDepth 65536 in
theorem w_named : about1.methodNamed? x = some theMethod := by decide +kernel
set_option maxRecDepth 65536 in
theorem w_hears : about1.hears theMethod below0 = true := by decide +kernel
set_option maxRecDepth 65536 in
theorem w_ripe : about1.ripe theMethod args0 below0 = true := by decide +kernel
theorem w_running : about1.status = .running := rfl
set_option maxRecDepth 65536 in
theorem w_room : about1.hasRoom e0.platform room_1 = true :=
  launch0.hasRoom_least _ room_1 (by decide +kernel) (by decide +kernel) (by decide +kernel) (by decide +kernel) (by decide +kernel) (by decide +kernel)
theorem allAtoms_all (ts : List Jvm.Cond) (a : Array Jvm.Value) (st : Jvm.State) : (allAtoms ts).before a st = ts.all (fun c => c.before a st) := by
  induction ts with
  | nil => rfl
  | cons c t ih =>
    show (Jvm.Cond.and c (allAtoms t)).before a st = _
    rw [Jvm.Cond.before_and, ih, List.all_cons]
def words1 : List Jvm.Cond := Jvm.Cond.code x code maxLocals ret :: tables_1
/-- a 'code' word, met by the world's own term for the bytes: nothing is compared byte by byte -/
theorem code_word {y : MethodName} {bytes : ByteArray} {mx : Nat} {rt : Option FieldType} {a : Array Value} {s : State} {m : MethodId} {meth : Method} {c : Code} (h1 : s.methodNamed? y = some m) (h2 : s.vm.method? m = some meth) (h3 : meth.code = some c) (h4 : c.code = bytes)
    (h5 : (c.maxLocals == mx && c.exceptionTable.isEmpty && decide (c.maxStack ≤ mostOperands) && decide (meth.sig.returnType = rt) && !meth.locks && decide (parseMethodDescriptor y.desc = some meth.sig)) = true) : (Jvm.Cond.code y bytes mx rt).before a s = true := by
  simp only [Bool.and_eq_true, beq_iff_eq, Bool.not_eq_true', decide_eq_true_eq] at h5
  obtain ⟨⟨⟨⟨⟨g1, g2⟩, g3⟩, g4⟩, g5⟩, g6⟩ := h5
  simp [Cond.before, Cond.holds, Cond.value, h1, h2, h3, h4, g1, g2, g3, g4, g5, g6]
def isCode : Jvm.Cond → Bool
  | .code _ _ _ _ => true
  | _ => false
theorem all_split {L : List Jvm.Cond} {P : Jvm.Cond → Bool} (h1 : L.all (fun c => isCode c || P c) = true) (h2 : ∀ c ∈ L.filter isCode, P c = true) : L.all P = true := by
  refine List.all_eq_true.mpr fun c hc => ?_
  have h := List.all_eq_true.mp h1 c hc
  rcases Bool.eq_false_or_eq_true (isCode c) with hi | hi
  · exact h2 c (List.mem_filter.mpr ⟨hc, hi⟩)
  · simpa [hi] using h
set_option maxRecDepth 65536 in
theorem w_c0 : (Jvm.Cond.code x code maxLocals ret).before args0 about1 = true := code_word (m := ⟨1, 1⟩) (meth := k1m1) (c := k1c1) (by decide +kernel) rfl rfl rfl (by decide +kernel)
set_option maxRecDepth 65536 in
theorem w_c1 : (Jvm.Cond.code ({ cls := "com/example/acompte/acompte/Utf8Builder", name := "<init>", desc := "(I)V" } : Jvm.MethodName) prog_64_method_1_code (2 : Nat) (Option.none : Option Jvm.ClassFile.FieldType)).before args0 about1 = true := code_word (m := ⟨2, 0⟩) (meth := k2m0) (c := k2c0) (by decide +kernel) rfl rfl rfl (by decide +kernel)
set_option maxRecDepth 65536 in
theorem w_c2 : (Jvm.Cond.code ({ cls := "java/lang/Object", name := "<init>", desc := "()V" } : Jvm.MethodName) object_method_1_code (1 : Nat) (Option.none : Option Jvm.ClassFile.FieldType)).before args0 about1 = true := code_word (m := ⟨0, 0⟩) (meth := k0m0) (c := k0c0) (by decide +kernel) rfl rfl rfl (by decide +kernel)
set_option maxRecDepth 65536 in
theorem w_c3 : (Jvm.Cond.code ({ cls := "com/example/acompte/acompte/Utf8Builder", name := "append", desc := "(C)Lcom/example/acompte/acompte/Utf8Builder;" } : Jvm.MethodName) prog_64_method_4_code (2 : Nat) (Option.some (Jvm.ClassFile.FieldType.object "com/example/acompte/acompte/Utf8Builder"))).before args0 about1 = true := code_word (m := ⟨2, 3⟩) (meth := k2m3) (c := k2c3) (by decide +kernel) rfl rfl rfl (by decide +kernel)
set_option maxRecDepth 65536 in
theorem w_c4 : (Jvm.Cond.code ({ cls := "com/example/acompte/acompte/Utf8Builder", name := "room", desc := "(I)V" } : Jvm.MethodName) prog_64_method_12_code (2 : Nat) (Option.none : Option Jvm.ClassFile.FieldType)).before args0 about1 = true := code_word (m := ⟨2, 5⟩) (meth := k2m5) (c := k2c5) (by decide +kernel) rfl rfl rfl (by decide +kernel)
set_option maxRecDepth 65536 in
theorem w_c5 : (Jvm.Cond.code ({ cls := "java/lang/Math", name := "max", desc := "(II)I" } : Jvm.MethodName) jdk_29_method_65_code (2 : Nat) (Option.some Jvm.ClassFile.FieldType.int)).before args0 about1 = true := code_word (m := ⟨3, 1⟩) (meth := k3m1) (c := k3c1) (by decide +kernel) rfl rfl rfl (by decide +kernel)
set_option maxRecDepth 65536 in
theorem w_c6 : (Jvm.Cond.code ({ cls := "java/util/Arrays", name := "copyOf", desc := "([BI)[B" } : Jvm.MethodName) jdk_65_method_121_code (3 : Nat) (Option.some (Jvm.ClassFile.FieldType.array Jvm.ClassFile.FieldType.byte))).before args0 about1 = true := code_word (m := ⟨4, 1⟩) (meth := k4m1) (c := k4c1) (by decide +kernel) rfl rfl rfl (by decide +kernel)
set_option maxRecDepth 65536 in
theorem w_c7 : (Jvm.Cond.code ({ cls := "java/lang/Math", name := "min", desc := "(II)I" } : Jvm.MethodName) jdk_29_method_69_code (2 : Nat) (Option.some Jvm.ClassFile.FieldType.int)).before args0 about1 = true := code_word (m := ⟨3, 2⟩) (meth := k3m2) (c := k3c2) (by decide +kernel) rfl rfl rfl (by decide +kernel)
set_option maxRecDepth 65536 in
theorem w_c8 : (Jvm.Cond.code ({ cls := "com/example/acompte/acompte/Utf8Builder", name := "clear", desc := "()V" } : Jvm.MethodName) prog_64_method_3_code (1 : Nat) (Option.none : Option Jvm.ClassFile.FieldType)).before args0 about1 = true := code_word (m := ⟨2, 2⟩) (meth := k2m2) (c := k2c2) (by decide +kernel) rfl rfl rfl (by decide +kernel)
set_option maxRecDepth 65536 in
theorem w_c9 : (Jvm.Cond.code ({ cls := "com/example/acompte/acompte/Utf8Builder", name := "toByteArray", desc := "()[B" } : Jvm.MethodName) prog_64_method_9_code (1 : Nat) (Option.some (Jvm.ClassFile.FieldType.array Jvm.ClassFile.FieldType.byte))).before args0 about1 = true := code_word (m := ⟨2, 4⟩) (meth := k2m4) (c := k2c4) (by decide +kernel) rfl rfl rfl (by decide +kernel)
set_option maxRecDepth 65536 in
theorem w_c10 : (Jvm.Cond.code ({ cls := "com/example/acompte/acompte/Utf8Builder", name := "length", desc := "()I" } : Jvm.MethodName) prog_64_method_2_code (1 : Nat) (Option.some Jvm.ClassFile.FieldType.int)).before args0 about1 = true := code_word (m := ⟨2, 1⟩) (meth := k2m1) (c := k2c1) (by decide +kernel) rfl rfl rfl (by decide +kernel)
set_option maxRecDepth 65536 in
theorem w_c11 : (Jvm.Cond.code ({ cls := "com/example/acompte/acompte/Utf8BuilderToByteArrayPinLaw", name := "matches", desc := "([BICCC)Z" } : Jvm.MethodName) method_3_code (5 : Nat) (Option.some Jvm.ClassFile.FieldType.boolean)).before args0 about1 = true := code_word (m := ⟨1, 2⟩) (meth := k1m2) (c := k1c2) (by decide +kernel) rfl rfl rfl (by decide +kernel)
def codes1 : List Jvm.Cond := [Jvm.Cond.code x code maxLocals ret, Jvm.Cond.code ({ cls := "com/example/acompte/acompte/Utf8Builder", name := "<init>", desc := "(I)V" } : Jvm.MethodName) prog_64_method_1_code (2 : Nat) (Option.none : Option Jvm.ClassFile.FieldType), Jvm.Cond.code ({ cls := "java/lang/Object", name := "<init>", desc := "()V" } : Jvm.MethodName) object_method_1_code (1 : Nat) (Option.none : Option Jvm.ClassFile.FieldType), Jvm.Cond.code ({ cls := "com/example/acompte/acompte/Utf8Builder", name := "append", desc := "(C)Lcom/example/acompte/acompte/Utf8Builder;" } : Jvm.MethodName) prog_64_method_4_code (2 : Nat) (Option.some (Jvm.ClassFile.FieldType.object "com/example/acompte/acompte/Utf8Builder")), Jvm.Cond.code ({ cls := "com/example/acompte/acompte/Utf8Builder", name := "room", desc := "(I)V" } : Jvm.MethodName) prog_64_method_12_code (2 : Nat) (Option.none : Option Jvm.ClassFile.FieldType), Jvm.Cond.code ({ cls := "java/lang/Math", name := "max", desc := "(II)I" } : Jvm.MethodName) jdk_29_method_65_code (2 : Nat) (Option.some Jvm.ClassFile.FieldType.int), Jvm.Cond.code ({ cls := "java/util/Arrays", name := "copyOf", desc := "([BI)[B" } : Jvm.MethodName) jdk_65_method_121_code (3 : Nat) (Option.some (Jvm.ClassFile.FieldType.array Jvm.ClassFile.FieldType.byte)), Jvm.Cond.code ({ cls := "java/lang/Math", name := "min", desc := "(II)I" } : Jvm.MethodName) jdk_29_method_69_code (2 : Nat) (Option.some Jvm.ClassFile.FieldType.int), Jvm.Cond.code ({ cls := "com/example/acompte/acompte/Utf8Builder", name := "clear", desc := "()V" } : Jvm.MethodName) prog_64_method_3_code (1 : Nat) (Option.none : Option Jvm.ClassFile.FieldType), Jvm.Cond.code ({ cls := "com/example/acompte/acompte/Utf8Builder", name := "toByteArray", desc := "()[B" } : Jvm.MethodName) prog_64_method_9_code (1 : Nat) (Option.some (Jvm.ClassFile.FieldType.array Jvm.ClassFile.FieldType.byte)), Jvm.Cond.code ({ cls := "com/example/acompte/acompte/Utf8Builder", name := "length", desc := "()I" } : Jvm.MethodName) prog_64_method_2_code (1 : Nat) (Option.some Jvm.ClassFile.FieldType.int), Jvm.Cond.code ({ cls := "com/example/acompte/acompte/Utf8BuilderToByteArrayPinLaw", name := "matches", desc := "([BICCC)Z" } : Jvm.MethodName) method_3_code (5 : Nat) (Option.some Jvm.ClassFile.FieldType.boolean)]
set_option maxRecDepth 65536 in
theorem codes_eq : words1.filter isCode = codes1 := rfl
theorem w_codes : ∀ c ∈ words1.filter isCode, c.before args0 about1 = true := by
  rw [codes_eq]
  intro c hc
  simp only [codes1, List.mem_cons, List.not_mem_nil, or_false] at hc
  rcases hc with rfl | rfl | rfl | rfl | rfl | rfl | rfl | rfl | rfl | rfl | rfl | rfl
  · exact w_c0
  · exact w_c1
  · exact w_c2
  · exact w_c3
  · exact w_c4
  · exact w_c5
  · exact w_c6
  · exact w_c7
  · exact w_c8
  · exact w_c9
  · exact w_c10
  · exact w_c11
set_option maxRecDepth 65536 in
theorem w_t1 : (words1.take 24).all (fun c => isCode c || c.before args0 about1) = true := by decide +kernel
set_option maxRecDepth 65536 in
theorem w_t2 : ((words1.drop 24).take 24).all (fun c => isCode c || c.before args0 about1) = true := by decide +kernel
set_option maxRecDepth 65536 in
theorem w_t3 : ((words1.drop 24).drop 24).all (fun c => isCode c || c.before args0 about1) = true := by decide +kernel
theorem w_tables : (allAtoms (Jvm.Cond.code x code maxLocals ret :: tables_1)).before args0 about1 = true := by
  rw [allAtoms_all]
  show words1.all (fun c => c.before args0 about1) = true
  refine all_split ?_ w_codes
  rw [← List.take_append_drop 24 words1, List.all_append, w_t1, ← List.take_append_drop 24 (words1.drop 24), List.all_append, w_t2, w_t3]
  rfl
set_option maxRecDepth 65536 in
theorem w_case : (Jvm.Cond.and given_1 narrow_1).before args0 about1 = true := by decide +kernel
theorem w_applies : (headSpec (Jvm.Cond.code x code maxLocals ret :: tables_1) room_1).applies x e0.platform about1 = true :=
  (Spec.applies_iff w_frames).mpr ⟨w_running, w_runnable, w_alone, w_named, w_hears, w_ripe, w_room, w_tables⟩
theorem atStart : AtStart classFile x code maxLocals ret World_1 tables_1 room_1 Calls_1 rest_1 Pre_1 launch0 p0 e0 about1 theMethod args0 below0 :=
  ⟨lists_1, trivial, launch0.admits_env _ _ _, launch0.least_env, fairChoices_fair.cas, fairChoices_fair.clock, w_frames, w_args, w_heap, w_applies, trivial, trivial, w_case⟩
end start1
theorem witness_1 : WitnessClaimed_1 := ⟨start1.p0, start1.e0, start1.about1, start1.theMethod, start1.args0, start1.below0, start1.atStart⟩
end Jvm.Pilot.@@N@@
