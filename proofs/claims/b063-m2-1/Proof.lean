import JvmDerived
import JvmDerived.Pilot.@@N@@Statement
import JvmDerived.Pilot.@@N@@Code
set_option linter.unusedVariables false
set_option linter.unusedSimpArgs false
namespace Jvm.RoadKit
open Sem ClassFile Op Lib Jvm.Stand Jvm.Free Jvm.LawKit
section New
variable {p : Program} {l : Launch} {e : Env} {R : Room} {s : State} {m : MethodId} {args : Array Value} {below : List Frame} {meth : Method} {c : Code} {T : State} {locs : List Loc} {cells slots : Nat}
theorem retI (X : Stand p l e R s m args below meth c T locs cells slots) (hx : p.tables.exec = Jvm.exec) {pc : Nat} {Ls : Array Slot} {z : Int32} {rest : List Value} (hret : meth.sig.returnType = some .int) (hd : decode c.code pc = .ok (.ireturn, 1)) {fs : List Frame}
    (hl : ∀ (f : JFrame) (acts : List Action), f.method = m → f.locked = none → f.entered = [] → (doReturn e (T.setTop f) acts (some (.int z))).1 = T.setFrames fs) : Steps p.tables e below (T.setTop (mkF m pc Ls (.int z :: rest))) (T.setFrames fs) := by
  have hm' : T.vm.method? m = some meth := X.method'
  have hn : narrow .int (.int z) = .int z := rfl
  show Steps p.tables e below (T.setTop { method := m, pc := pc, locals := Ls, stack := _ :: rest, locked := none }) _
  jvm_step X.here [X.here.top, hx, hd, hm', hret, hn]
  first | (intro acts; rw [hl _ acts rfl rfl rfl]) | rw [hl _ _ rfl rfl rfl]
  exact Steps.refl _
theorem own_retL (X : Stand p l e R s m args below meth c T locs cells slots) (hx : p.tables.exec = Jvm.exec) {pc : Nat} {Ls : Array Slot} {z : Int64} {rest : List Value} (hret : meth.sig.returnType = some .long) (hd : decode c.code pc = .ok (.lreturn, 1)) {fs : List Frame}
    (hl : ∀ (f : JFrame) (acts : List Action), f.method = m → f.locked = none → f.entered = [] → (doReturn e (T.setTop f) acts (some (.long z))).1 = T.setFrames fs) : Steps p.tables e below (T.setTop (mkF m pc Ls (.long z :: rest))) (T.setFrames fs) := by
  have hm' : T.vm.method? m = some meth := X.method'
  have hn : narrow .long (.long z) = .long z := rfl
  show Steps p.tables e below (T.setTop { method := m, pc := pc, locals := Ls, stack := _ :: rest, locked := none }) _
  jvm_step X.here [X.here.top, hx, hd, hm', hret, hn]
  first | (intro acts; rw [hl _ acts rfl rfl rfl]) | rw [hl _ _ rfl rfl rfl]
  exact Steps.refl _
theorem own_retD (X : Stand p l e R s m args below meth c T locs cells slots) (hx : p.tables.exec = Jvm.exec) {pc : Nat} {Ls : Array Slot} {z : UInt64} {rest : List Value} (hret : meth.sig.returnType = some .double) (hd : decode c.code pc = .ok (.dreturn, 1)) {fs : List Frame}
    (hl : ∀ (f : JFrame) (acts : List Action), f.method = m → f.locked = none → f.entered = [] → (doReturn e (T.setTop f) acts (some (.double z))).1 = T.setFrames fs) : Steps p.tables e below (T.setTop (mkF m pc Ls (.double z :: rest))) (T.setFrames fs) := by
  have hm' : T.vm.method? m = some meth := X.method'
  have hn : narrow .double (.double z) = .double z := rfl
  show Steps p.tables e below (T.setTop { method := m, pc := pc, locals := Ls, stack := _ :: rest, locked := none }) _
  jvm_step X.here [X.here.top, hx, hd, hm', hret, hn]
  first | (intro acts; rw [hl _ acts rfl rfl rfl]) | rw [hl _ _ rfl rfl rfl]
  exact Steps.refl _
end New
end Jvm.RoadKit
namespace Jvm.Pilot.@@N@@
open Jvm Jvm.ClassFile Sem Op Lib Jvm.Free Jvm.Stand Jvm.LawKit Jvm.RoadKit Bundle Jvm.Pilot.@@N@@.Jvm.D
theorem own_fldv {args : Array Value} {s : State} {t : Term} {C n d : String} {a : Addr} {i : Int32} (ev : t.eval args s none [] s = some (.ref a)) (e : (Jvm.Cond.eq (.field t C n d) (.int i)).value args s none s [] = some true) : s.fieldOf? a C n d = some (.int i) := by
  have hb : (Term.int i).eval args s none [] s = some (.int i) := Term.int_eval i
  cases hv : s.fieldOf? a C n d with
  | none => simp [Jvm.Cond.value, fld_at ev, hv] at e
  | some v =>
    cases v <;> simp [Jvm.Cond.value, fld_at ev, hv, hb] at e
    rw [e]
theorem own_ne {s : State} {C n d : String} {a b : Addr} {i j : Int32} (h1 : s.fieldOf? a C n d = some (.int i)) (h2 : s.fieldOf? b C n d = some (.int j)) (hij : i ≠ j) : a ≠ b := by
  rintro rfl
  rw [h1] at h2
  exact hij (Value.int.inj (Option.some.inj h2))
def Own (Z : State) (h : Heap) (a_TRUE a_FALSE : Addr) : Prop := Sta Z h "com/example/nested_path/nestedpath/json/JsonBoolean" "TRUE" "Lcom/example/nested_path/nestedpath/json/JsonBoolean;" (.ref a_TRUE) ∧ Sta Z h "com/example/nested_path/nestedpath/json/JsonBoolean" "FALSE" "Lcom/example/nested_path/nestedpath/json/JsonBoolean;" (.ref a_FALSE) ∧ Exa Z h a_TRUE "com/example/nested_path/nestedpath/json/JsonBoolean" ∧ Exa Z h a_FALSE "com/example/nested_path/nestedpath/json/JsonBoolean" ∧ a_TRUE ≠ a_FALSE
theorem d1_0 : decode prog_19_method_4_code 0 = .ok (.aload_n 0, 1) := by decide +kernel
theorem d1_1 : decode prog_19_method_4_code 1 = .ok (.getstatic 3, 3) := by decide +kernel
theorem d1_4 : decode prog_19_method_4_code 4 = .ok (.if_acmp .ne 7, 3) := by decide +kernel
theorem d1_7 : decode prog_19_method_4_code 7 = .ok (.iconst 1, 1) := by decide +kernel
theorem d1_8 : decode prog_19_method_4_code 8 = .ok (.goto 4, 3) := by decide +kernel
theorem d1_12 : decode prog_19_method_4_code 12 = .ok (.ireturn, 1) := by decide +kernel
theorem pn_1 : plainName "com/example/nested_path/nestedpath/json/JsonBoolean" = true := by first | (simp [plainName, overriddenIn]; done) | decide +kernel
theorem ef_1 (m : MethodId) (x0 : Addr) : entryFrame m #[(.ref x0)] 1 = mkF m 0 #[.val (.ref x0)] [] := by first | (simp [entryFrame, mkF, argsToLocals, Value.category]; done) | rfl
def Q1_f (h0 : Heap) (n0 : Nat) (v : Option Value) (h : Heap) (L : List Loc) : Prop := v = some (.int (1 : Int32)) ∧ Fr n0 L ∧ h = h0
set_option maxRecDepth 65536 in
set_option maxHeartbeats 40000000 in
theorem rm1_f (l : Launch) (Z : State) (a0 : Array Value) (hw : ∀ d ∈ tables_1, d.before a0 Z = true) (ws : List Jvm.Cond) (a1 : Addr) (a_TRUE a_FALSE : Addr) (h0 : Heap) (n0 : Nat) (Z0 : n0 ≤ h0.size) (WW : Own Z h0 a_TRUE a_FALSE) (ha4 : a1 = a_TRUE) :
    MetFree l (⟨"com/example/nested_path/nestedpath/json/JsonBoolean", "value", "()Z"⟩ : MethodName) (head1 (Jvm.Cond.code (⟨"com/example/nested_path/nestedpath/json/JsonBoolean", "value", "()Z"⟩ : MethodName) prog_19_method_4_code 1 (some .boolean) :: ws) ({ frames := 0, cells := 0, slots := 0, locals := 0 } : Room)) (fun a U => a = #[(.ref a1)] ∧ Z.Warmed39 U.vm ∧ U.heap = h0) (fun _ _ _ _ _ => True) (fun _ U o U' => ∃ v L, o = .returned v ∧ Q1_f h0 n0 v U'.heap L ∧ FrameEnd U o U' L ({ frames := 0, cells := 0, slots := 0, locals := 0 } : Room).cells ({ frames := 0, cells := 0, slots := 0, locals := 0 } : Room).slots) := by
  refine MetFree.of_bodySF (plainFor_of_name pn_1) hisR ?_
  intro p e s m args below meth c s₁ Bd hml0 hP hK
  have WW0 := WW
  obtain ⟨S_TRUE, S_FALSE, E_TRUE, E_FALSE, ne_TRUE_FALSE⟩ := WW0
  obtain ⟨rfl, hZ, hh⟩ := hP
  have hx := Bd.exec
  have hby := Bd.bytes
  have hml : c.maxLocals = 1 := hml0
  have hown : s.vm.findClass "com/example/nested_path/nestedpath/json/JsonBoolean" = some m.cls := findClass_of_methodNamed Bd.named
  have hnm := (name_of_methodNamed Bd.named Bd.method).1
  have X0 : Stand p l e ({ frames := 0, cells := 0, slots := 0, locals := 0 } : Room) s m #[(.ref a1)] below meth c s₁ [] 0 0 := Stand.of_body Bd
  have e0 : s₁.heap = h0 := by rw [← hh, Bd.state]; rfl
  have N0 := Fr.nil n0
  have pre0 : ∀ t, Steps p.tables e below (s₁.setTop (mkF m 0 #[.val (.ref a1)] [])) t → Steps p.tables e below (s₁.setTop (entryFrame m #[(.ref a1)] 1)) t := fun t k => castTop (ef_1 m a1) k
  -- 3. LAWS
  obtain ⟨T3, X3, e3, st3⟩ := getS2 X0 hx hZ hown (host := "") (Or.inl (hw _ (List.mem_of_getElem? (i := 8) rfl))) Via.refl e0 S_TRUE (g := (mkF m 1 #[.val (.ref a1)] [(.ref a1)])) rfl (hb hby d1_1)
  obtain ⟨fs, hr, hrun, hended, hW, hsame⟩ := X3.leave (v := some (.int (1 : Int32))) (fun h => by rw [Bd.returns] at h; cases h)
  refine ⟨_, _, pre0 _ ?_, hrun, hended, _, _, rfl, ?_, ⟨_, rfl⟩, hW, hsame.mono (by decide) (by decide)⟩
  -- 4. STEPS
  · show Steps p.tables e below (s₁.setTop (mkF m 0 #[.val (.ref a1)] [])) _
    refine XS.aloadN X0.here hx rfl (hb hby d1_0) rfl rfl ?_
    show Steps p.tables e below (s₁.setTop (mkF m 1 #[.val (.ref a1)] [(.ref a1)])) _
    refine st3 _ ?_
    show Steps p.tables e below (T3.setTop (mkF m 4 #[.val (.ref a1)] [(.ref a_TRUE), (.ref a1)])) _
    refine Jvm.RoadKit.acmp (g := (mkF m 4 #[.val (.ref a1)] [(.ref a_TRUE), (.ref a1)])) X3 hx rfl rfl rfl (pc0 := 4) (pc' := 7) (same := true) rfl (hb hby d1_4) rfl (decide_eq_true (congrArg Value.ref ha4)) (by decide) (by decide) ?_
    show Steps p.tables e below (T3.setTop (mkF m 7 #[.val (.ref a1)] [])) _
    refine XS.iconst X3.here hx rfl (hb hby d1_7) ?_
    show Steps p.tables e below (T3.setTop (mkF m 8 #[.val (.ref a1)] [(.int (1 : Int32))])) _
    refine XS.goto X3.here hx rfl (pc0 := 8) (pc' := 12) rfl (hb hby d1_8) (by decide) (by decide) ?_
    show Steps p.tables e below (T3.setTop (mkF m 12 #[.val (.ref a1)] [(.int (1 : Int32))])) _
    exact retN X3 hx (t := .boolean) Bd.returns (by simp) (hb hby d1_12) hr
  · show Q1_f h0 n0 _ T3.heap _
    rw [e3]
    exact ⟨rfl, N0, rfl⟩
theorem d1_11 : decode prog_19_method_4_code 11 = .ok (.iconst 0, 1) := by decide +kernel
def Q1_t (h0 : Heap) (n0 : Nat) (v : Option Value) (h : Heap) (L : List Loc) : Prop := v = some (.int (0 : Int32)) ∧ Fr n0 L ∧ h = h0
set_option maxRecDepth 65536 in
set_option maxHeartbeats 40000000 in
theorem rm1_t (l : Launch) (Z : State) (a0 : Array Value) (hw : ∀ d ∈ tables_1, d.before a0 Z = true) (ws : List Jvm.Cond) (a1 : Addr) (a_TRUE a_FALSE : Addr) (h0 : Heap) (n0 : Nat) (Z0 : n0 ≤ h0.size) (WW : Own Z h0 a_TRUE a_FALSE) (ha4 : ¬ (a1 = a_TRUE)) :
    MetFree l (⟨"com/example/nested_path/nestedpath/json/JsonBoolean", "value", "()Z"⟩ : MethodName) (head1 (Jvm.Cond.code (⟨"com/example/nested_path/nestedpath/json/JsonBoolean", "value", "()Z"⟩ : MethodName) prog_19_method_4_code 1 (some .boolean) :: ws) ({ frames := 0, cells := 0, slots := 0, locals := 0 } : Room)) (fun a U => a = #[(.ref a1)] ∧ Z.Warmed39 U.vm ∧ U.heap = h0) (fun _ _ _ _ _ => True) (fun _ U o U' => ∃ v L, o = .returned v ∧ Q1_t h0 n0 v U'.heap L ∧ FrameEnd U o U' L ({ frames := 0, cells := 0, slots := 0, locals := 0 } : Room).cells ({ frames := 0, cells := 0, slots := 0, locals := 0 } : Room).slots) := by
  refine MetFree.of_bodySF (plainFor_of_name pn_1) hisR ?_
  intro p e s m args below meth c s₁ Bd hml0 hP hK
  have WW0 := WW
  obtain ⟨S_TRUE, S_FALSE, E_TRUE, E_FALSE, ne_TRUE_FALSE⟩ := WW0
  obtain ⟨rfl, hZ, hh⟩ := hP
  have hx := Bd.exec
  have hby := Bd.bytes
  have hml : c.maxLocals = 1 := hml0
  have hown : s.vm.findClass "com/example/nested_path/nestedpath/json/JsonBoolean" = some m.cls := findClass_of_methodNamed Bd.named
  have hnm := (name_of_methodNamed Bd.named Bd.method).1
  have X0 : Stand p l e ({ frames := 0, cells := 0, slots := 0, locals := 0 } : Room) s m #[(.ref a1)] below meth c s₁ [] 0 0 := Stand.of_body Bd
  have e0 : s₁.heap = h0 := by rw [← hh, Bd.state]; rfl
  have N0 := Fr.nil n0
  have pre0 : ∀ t, Steps p.tables e below (s₁.setTop (mkF m 0 #[.val (.ref a1)] [])) t → Steps p.tables e below (s₁.setTop (entryFrame m #[(.ref a1)] 1)) t := fun t k => castTop (ef_1 m a1) k
  -- 3. LAWS
  obtain ⟨T3, X3, e3, st3⟩ := getS2 X0 hx hZ hown (host := "") (Or.inl (hw _ (List.mem_of_getElem? (i := 8) rfl))) Via.refl e0 S_TRUE (g := (mkF m 1 #[.val (.ref a1)] [(.ref a1)])) rfl (hb hby d1_1)
  obtain ⟨fs, hr, hrun, hended, hW, hsame⟩ := X3.leave (v := some (.int (0 : Int32))) (fun h => by rw [Bd.returns] at h; cases h)
  refine ⟨_, _, pre0 _ ?_, hrun, hended, _, _, rfl, ?_, ⟨_, rfl⟩, hW, hsame.mono (by decide) (by decide)⟩
  -- 4. STEPS
  · show Steps p.tables e below (s₁.setTop (mkF m 0 #[.val (.ref a1)] [])) _
    refine XS.aloadN X0.here hx rfl (hb hby d1_0) rfl rfl ?_
    show Steps p.tables e below (s₁.setTop (mkF m 1 #[.val (.ref a1)] [(.ref a1)])) _
    refine st3 _ ?_
    show Steps p.tables e below (T3.setTop (mkF m 4 #[.val (.ref a1)] [(.ref a_TRUE), (.ref a1)])) _
    refine Jvm.RoadKit.acmp (g := (mkF m 4 #[.val (.ref a1)] [(.ref a_TRUE), (.ref a1)])) X3 hx rfl rfl rfl (pc0 := 4) (pc' := 11) (same := false) rfl (hb hby d1_4) rfl (decide_eq_false fun q => ha4 (Value.ref.inj q)) (by decide) (by decide) ?_
    show Steps p.tables e below (T3.setTop (mkF m 11 #[.val (.ref a1)] [])) _
    refine XS.iconst X3.here hx rfl (hb hby d1_11) ?_
    show Steps p.tables e below (T3.setTop (mkF m 12 #[.val (.ref a1)] [(.int (0 : Int32))])) _
    exact retN X3 hx (t := .boolean) Bd.returns (by simp) (hb hby d1_12) hr
  · show Q1_t h0 n0 _ T3.heap _
    rw [e3]
    exact ⟨rfl, N0, rfl⟩
theorem pn_0 : plainName "com/example/nested_path/nestedpath/json/JsonBooleanValuePinLaw" = true := by first | (simp [plainName, overriddenIn]; done) | decide +kernel
theorem pdw_0 : parseMethodDescriptor "()Z" = some ⟨[], some .boolean⟩ := by decide +kernel
theorem ef_0 (m : MethodId) (x0 : Int32) : entryFrame m #[(.int x0)] maxLocals = mkF m 0 #[.val (.int x0), .unset, .unset, .unset] [] := by first | (simp [entryFrame, mkF, argsToLocals, Value.category, maxLocals]; done) | rfl
def Q0_one (h0 : Heap) (n0 : Nat) (v : Option Value) (h : Heap) (L : List Loc) : Prop := v = some (.int (1 : Int32)) ∧ Fr n0 L
set_option maxRecDepth 65536 in
set_option maxHeartbeats 40000000 in
theorem rm0_one (l : Launch) (Z : State) (a0 : Array Value) (hw : ∀ d ∈ tables_1, d.before a0 Z = true) (ws : List Jvm.Cond) (p1 : Int32) (a_TRUE a_FALSE : Addr) (h0 : Heap) (n0 : Nat) (Z0 : n0 ≤ h0.size) (WW : Own Z h0 a_TRUE a_FALSE) (hc3 : ¬ ((p1 &&& (1 : Int32)) = (0 : Int32))) (hc13 : ¬ ((1 : Int32) = (0 : Int32))) :
    MetFree l x (head1 (Jvm.Cond.code x code maxLocals ret :: ws) room_1) (fun a U => a = #[(.int p1)] ∧ Z.Warmed39 U.vm ∧ U.heap = h0) (fun _ _ _ _ _ => True) (fun _ U o U' => ∃ v L, o = .returned v ∧ Q0_one h0 n0 v U'.heap L ∧ FrameEnd U o U' L room_1.cells room_1.slots) := by
  refine MetFree.of_bodySF (plainFor_of_name pn_0) hisR ?_
  intro p e s m args below meth c s₁ Bd hml0 hP hK
  have WW0 := WW
  obtain ⟨S_TRUE, S_FALSE, E_TRUE, E_FALSE, ne_TRUE_FALSE⟩ := WW0
  obtain ⟨rfl, hZ, hh⟩ := hP
  have hx := Bd.exec
  have hby := Bd.bytes
  have hml : c.maxLocals = 4 := hml0
  have hown : s.vm.findClass "com/example/nested_path/nestedpath/json/JsonBooleanValuePinLaw" = some m.cls := findClass_of_methodNamed Bd.named
  have hnm := (name_of_methodNamed Bd.named Bd.method).1
  have X0 : Stand p l e room_1 s m #[(.int p1)] below meth c s₁ [] 0 0 := Stand.of_body Bd
  have e0 : s₁.heap = h0 := by rw [← hh, Bd.state]; rfl
  have N0 := Fr.nil n0
  have pre0 : ∀ t, Steps p.tables e below (s₁.setTop (mkF m 0 #[.val (.int p1), .unset, .unset, .unset] [])) t → Steps p.tables e below (s₁.setTop (entryFrame m #[(.int p1)] maxLocals)) t := fun t k => castTop (ef_0 m p1) k
  -- 3. LAWS
  obtain ⟨T3, X3, e3, st3⟩ := getS2 X0 hx hZ hown (host := "") (Or.inl (hw _ (List.mem_of_getElem? (i := 10) rfl))) Via.refl e0 S_TRUE (g := (mkF m 16 #[.val (.int p1), .val (.int (1 : Int32)), .unset, .unset] [])) rfl (hb hby at_16)
  -- pc 27: com/example/nested_path/nestedpath/json/JsonBoolean.value by the contract of the body that the receiver's class selects, rm1
  obtain ⟨cq4, kq4, q4a, q4b, q4c⟩ := isOf hZ e3 E_TRUE
  obtain ⟨_, _, ⟨T4, L4, k4, n4⟩, -, X4, ⟨Lc4, hQ4, l4, y4, z4⟩, st4⟩ := X3.virtualBack hx (y := (⟨"com/example/nested_path/nestedpath/json/JsonBoolean", "value", "()Z"⟩ : MethodName)) (z := (⟨"com/example/nested_path/nestedpath/json/JsonBoolean", "value", "()Z"⟩ : MethodName)) hown (mvT hZ (hw _ (List.mem_of_getElem? (i := 3) rfl))) (mvT hZ (hw _ (List.mem_of_getElem? (i := 4) rfl))) (notFace_of_selects (args := #[]) (mvT hZ (hw _ (List.mem_of_getElem? (i := 6) rfl)))) (mvT hZ (hw _ (List.mem_of_getElem? (i := 6) rfl))) (mvT hZ (hw _ (List.mem_of_getElem? (i := 5) rfl))) (by decide) (backOf (W := 0) (rm1_f l Z a0 hw [] a_TRUE a_TRUE a_FALSE h0 n0 Z0 WW rfl) hZ (hw _ (List.mem_of_getElem? (i := 7) rfl)) (hw _ (List.mem_of_getElem? (i := 1) rfl)) (by decide) (by decide)) q4a q4c (g := (mkF m 27 #[.val (.int p1), .val (.int (1 : Int32)), .val (.ref a_TRUE), .unset] [(.ref a_TRUE)])) rfl (by rw [hml]; rfl) (Steps.refl _) (argsL := []) (rest := []) (lenOf pdw_0 rfl) rfl (by show 2 * 0 + _ ≤ _; exact Nat.le_of_eq rfl) (hb hby at_27) (fun _ _ => ⟨rfl, e3, (by decide : 0 + 0 ≤ _), (by decide : 0 + 0 ≤ _)⟩)
  dsimp only [Pt.U, Pt.locs, Pt.cells, Pt.slots] at X4 l4 y4 z4 st4 hQ4
  subst l4 y4 z4
  obtain ⟨rfl, N4q, hh4⟩ := hQ4
  have N4 := Fr.app N0 N4q
  -- ✋ yours: S_TRUE must speak of T4.heap here (carried as the other facts are)
  obtain ⟨T5, X5, e5, st5⟩ := getS2 X4 hx hZ hown (host := "") (Or.inl (hw _ (List.mem_of_getElem? (i := 10) rfl))) Via.refl hh4 S_TRUE (g := (mkF m 36 #[.val (.int p1), .val (.int (1 : Int32)), .val (.ref a_TRUE), .val (.int (1 : Int32))] [])) rfl (hb hby at_36)
  -- pc 39: com/example/nested_path/nestedpath/json/JsonBoolean.value by the contract of the body that the receiver's class selects, rm1
  obtain ⟨cq6, kq6, q6a, q6b, q6c⟩ := isOf hZ e5 E_TRUE
  obtain ⟨_, _, ⟨T6, L6, k6, n6⟩, -, X6, ⟨Lc6, hQ6, l6, y6, z6⟩, st6⟩ := X5.virtualBack hx (y := (⟨"com/example/nested_path/nestedpath/json/JsonBoolean", "value", "()Z"⟩ : MethodName)) (z := (⟨"com/example/nested_path/nestedpath/json/JsonBoolean", "value", "()Z"⟩ : MethodName)) hown (mvT hZ (hw _ (List.mem_of_getElem? (i := 3) rfl))) (mvT hZ (hw _ (List.mem_of_getElem? (i := 4) rfl))) (notFace_of_selects (args := #[]) (mvT hZ (hw _ (List.mem_of_getElem? (i := 6) rfl)))) (mvT hZ (hw _ (List.mem_of_getElem? (i := 6) rfl))) (mvT hZ (hw _ (List.mem_of_getElem? (i := 5) rfl))) (by decide) (backOf (W := 0) (rm1_f l Z a0 hw [] a_TRUE a_TRUE a_FALSE h0 n0 Z0 WW rfl) hZ (hw _ (List.mem_of_getElem? (i := 7) rfl)) (hw _ (List.mem_of_getElem? (i := 1) rfl)) (by decide) (by decide)) q6a q6c (g := (mkF m 39 #[.val (.int p1), .val (.int (1 : Int32)), .val (.ref a_TRUE), .val (.int (1 : Int32))] [(.ref a_TRUE)])) rfl (by rw [hml]; rfl) (Steps.refl _) (argsL := []) (rest := []) (lenOf pdw_0 rfl) rfl (by show 2 * 0 + _ ≤ _; exact Nat.le_of_eq rfl) (hb hby at_39) (fun _ _ => ⟨rfl, e5, (by decide : 0 + 0 ≤ _), (by decide : 0 + 0 ≤ _)⟩)
  dsimp only [Pt.U, Pt.locs, Pt.cells, Pt.slots] at X6 l6 y6 z6 st6 hQ6
  subst l6 y6 z6
  obtain ⟨rfl, N6q, hh6⟩ := hQ6
  have N6 := Fr.app N4 N6q
  -- ✋ yours: S_FALSE must speak of T6.heap here (carried as the other facts are)
  obtain ⟨T8, X8, e8, st8⟩ := getS2 X6 hx hZ hown (host := "") (Or.inl (hw _ (List.mem_of_getElem? (i := 0) rfl))) Via.refl hh6 S_FALSE (g := (mkF m 45 #[.val (.int p1), .val (.int (1 : Int32)), .val (.ref a_TRUE), .val (.int (1 : Int32))] [])) rfl (hb hby at_45)
  -- pc 48: com/example/nested_path/nestedpath/json/JsonBoolean.value by the contract of the body that the receiver's class selects, rm1
  obtain ⟨cq9, kq9, q9a, q9b, q9c⟩ := isOf hZ e8 E_FALSE
  obtain ⟨_, _, ⟨T9, L9, k9, n9⟩, -, X9, ⟨Lc9, hQ9, l9, y9, z9⟩, st9⟩ := X8.virtualBack hx (y := (⟨"com/example/nested_path/nestedpath/json/JsonBoolean", "value", "()Z"⟩ : MethodName)) (z := (⟨"com/example/nested_path/nestedpath/json/JsonBoolean", "value", "()Z"⟩ : MethodName)) hown (mvT hZ (hw _ (List.mem_of_getElem? (i := 3) rfl))) (mvT hZ (hw _ (List.mem_of_getElem? (i := 4) rfl))) (notFace_of_selects (args := #[]) (mvT hZ (hw _ (List.mem_of_getElem? (i := 6) rfl)))) (mvT hZ (hw _ (List.mem_of_getElem? (i := 6) rfl))) (mvT hZ (hw _ (List.mem_of_getElem? (i := 5) rfl))) (by decide) (backOf (W := 0) (rm1_t l Z a0 hw [] a_FALSE a_TRUE a_FALSE h0 n0 Z0 WW (Ne.symm ne_TRUE_FALSE)) hZ (hw _ (List.mem_of_getElem? (i := 7) rfl)) (hw _ (List.mem_of_getElem? (i := 1) rfl)) (by decide) (by decide)) q9a q9c (g := (mkF m 48 #[.val (.int p1), .val (.int (1 : Int32)), .val (.ref a_TRUE), .val (.int (1 : Int32))] [(.ref a_FALSE)])) rfl (by rw [hml]; rfl) (Steps.refl _) (argsL := []) (rest := []) (lenOf pdw_0 rfl) rfl (by show 2 * 0 + _ ≤ _; exact Nat.le_of_eq rfl) (hb hby at_48) (fun _ _ => ⟨rfl, e8, (by decide : 0 + 0 ≤ _), (by decide : 0 + 0 ≤ _)⟩)
  dsimp only [Pt.U, Pt.locs, Pt.cells, Pt.slots] at X9 l9 y9 z9 st9 hQ9
  subst l9 y9 z9
  obtain ⟨rfl, N9q, hh9⟩ := hQ9
  have N9 := Fr.app N6 N9q
  obtain ⟨fs, hr, hrun, hended, hW, hsame⟩ := X9.leave (v := some (.int (1 : Int32))) (fun h => by rw [Bd.returns] at h; cases h)
  refine ⟨_, _, pre0 _ ?_, hrun, hended, _, _, rfl, ?_, ⟨_, rfl⟩, hW, hsame.mono (by decide) (by decide)⟩
  -- 4. STEPS
  · show Steps p.tables e below (s₁.setTop (mkF m 0 #[.val (.int p1), .unset, .unset, .unset] [])) _
    refine XS.iloadN X0.here hx rfl (hb hby at_0) rfl ?_
    show Steps p.tables e below (s₁.setTop (mkF m 1 #[.val (.int p1), .unset, .unset, .unset] [(.int p1)])) _
    refine XS.iconst X0.here hx rfl (hb hby at_1) ?_
    show Steps p.tables e below (s₁.setTop (mkF m 2 #[.val (.int p1), .unset, .unset, .unset] [(.int (1 : Int32)), (.int p1)])) _
    refine XS.iand X0.here hx rfl (hb hby at_2) rfl ?_
    show Steps p.tables e below (s₁.setTop (mkF m 3 #[.val (.int p1), .unset, .unset, .unset] [(.int (p1 &&& (1 : Int32)))])) _
    refine XS.ifNo X0.here hx rfl (hb hby at_3) rfl ((if0 _ _).trans (feq hc3).1) ?_
    show Steps p.tables e below (s₁.setTop (mkF m 6 #[.val (.int p1), .unset, .unset, .unset] [])) _
    refine XS.iconst X0.here hx rfl (hb hby at_6) ?_
    show Steps p.tables e below (s₁.setTop (mkF m 7 #[.val (.int p1), .unset, .unset, .unset] [(.int (1 : Int32))])) _
    refine XS.goto X0.here hx rfl (pc0 := 7) (pc' := 11) rfl (hb hby at_7) (by decide) (by decide) ?_
    show Steps p.tables e below (s₁.setTop (mkF m 11 #[.val (.int p1), .unset, .unset, .unset] [(.int (1 : Int32))])) _
    refine XS.istoreN X0.here hx rfl (hb hby at_11) rfl (l' := #[.val (.int p1), .val (.int (1 : Int32)), .unset, .unset]) rfl ?_
    show Steps p.tables e below (s₁.setTop (mkF m 12 #[.val (.int p1), .val (.int (1 : Int32)), .unset, .unset] [])) _
    refine XS.iloadN X0.here hx rfl (hb hby at_12) rfl ?_
    show Steps p.tables e below (s₁.setTop (mkF m 13 #[.val (.int p1), .val (.int (1 : Int32)), .unset, .unset] [(.int (1 : Int32))])) _
    refine XS.ifNo X0.here hx rfl (hb hby at_13) rfl ((if0 _ _).trans (feq hc13).1) ?_
    show Steps p.tables e below (s₁.setTop (mkF m 16 #[.val (.int p1), .val (.int (1 : Int32)), .unset, .unset] [])) _
    refine st3 _ ?_
    show Steps p.tables e below (T3.setTop (mkF m 19 #[.val (.int p1), .val (.int (1 : Int32)), .unset, .unset] [(.ref a_TRUE)])) _
    refine XS.goto X3.here hx rfl (pc0 := 19) (pc' := 25) rfl (hb hby at_19) (by decide) (by decide) ?_
    show Steps p.tables e below (T3.setTop (mkF m 25 #[.val (.int p1), .val (.int (1 : Int32)), .unset, .unset] [(.ref a_TRUE)])) _
    refine XS.astoreN X3.here hx rfl (hb hby at_25) rfl rfl (l' := #[.val (.int p1), .val (.int (1 : Int32)), .val (.ref a_TRUE), .unset]) rfl ?_
    show Steps p.tables e below (T3.setTop (mkF m 26 #[.val (.int p1), .val (.int (1 : Int32)), .val (.ref a_TRUE), .unset] [])) _
    refine XS.aloadN X3.here hx rfl (hb hby at_26) rfl rfl ?_
    show Steps p.tables e below (T3.setTop (mkF m 27 #[.val (.int p1), .val (.int (1 : Int32)), .val (.ref a_TRUE), .unset] [(.ref a_TRUE)])) _
    refine st4.trans ?_
    show Steps p.tables e below (T4.setTop (mkF m 30 #[.val (.int p1), .val (.int (1 : Int32)), .val (.ref a_TRUE), .unset] [(.int (1 : Int32))])) _
    refine XS.istoreN X4.here hx rfl (hb hby at_30) rfl (l' := #[.val (.int p1), .val (.int (1 : Int32)), .val (.ref a_TRUE), .val (.int (1 : Int32))]) rfl ?_
    show Steps p.tables e below (T4.setTop (mkF m 31 #[.val (.int p1), .val (.int (1 : Int32)), .val (.ref a_TRUE), .val (.int (1 : Int32))] [])) _
    refine XS.iloadN X4.here hx rfl (hb hby at_31) rfl ?_
    show Steps p.tables e below (T4.setTop (mkF m 32 #[.val (.int p1), .val (.int (1 : Int32)), .val (.ref a_TRUE), .val (.int (1 : Int32))] [(.int (1 : Int32))])) _
    refine XS.iloadN X4.here hx rfl (hb hby at_32) rfl ?_
    show Steps p.tables e below (T4.setTop (mkF m 33 #[.val (.int p1), .val (.int (1 : Int32)), .val (.ref a_TRUE), .val (.int (1 : Int32))] [(.int (1 : Int32)), (.int (1 : Int32))])) _
    refine XS.icmpNo X4.here hx rfl (hb hby at_33) rfl (teq (by decide : (1 : Int32) = (1 : Int32))).2 ?_
    show Steps p.tables e below (T4.setTop (mkF m 36 #[.val (.int p1), .val (.int (1 : Int32)), .val (.ref a_TRUE), .val (.int (1 : Int32))] [])) _
    refine st5 _ ?_
    show Steps p.tables e below (T5.setTop (mkF m 39 #[.val (.int p1), .val (.int (1 : Int32)), .val (.ref a_TRUE), .val (.int (1 : Int32))] [(.ref a_TRUE)])) _
    refine st6.trans ?_
    show Steps p.tables e below (T6.setTop (mkF m 42 #[.val (.int p1), .val (.int (1 : Int32)), .val (.ref a_TRUE), .val (.int (1 : Int32))] [(.int (1 : Int32))])) _
    refine XS.ifNo X6.here hx rfl (hb hby at_42) rfl ((if0 _ _).trans (feq (by decide : ¬ ((1 : Int32) = (0 : Int32)))).1) ?_
    show Steps p.tables e below (T6.setTop (mkF m 45 #[.val (.int p1), .val (.int (1 : Int32)), .val (.ref a_TRUE), .val (.int (1 : Int32))] [])) _
    refine st8 _ ?_
    show Steps p.tables e below (T8.setTop (mkF m 48 #[.val (.int p1), .val (.int (1 : Int32)), .val (.ref a_TRUE), .val (.int (1 : Int32))] [(.ref a_FALSE)])) _
    refine st9.trans ?_
    show Steps p.tables e below (T9.setTop (mkF m 51 #[.val (.int p1), .val (.int (1 : Int32)), .val (.ref a_TRUE), .val (.int (1 : Int32))] [(.int (0 : Int32))])) _
    refine XS.ifNo X9.here hx rfl (hb hby at_51) rfl ((if0 _ _).trans (teq (by decide : (0 : Int32) = (0 : Int32))).2) ?_
    show Steps p.tables e below (T9.setTop (mkF m 54 #[.val (.int p1), .val (.int (1 : Int32)), .val (.ref a_TRUE), .val (.int (1 : Int32))] [])) _
    refine XS.iconst X9.here hx rfl (hb hby at_54) ?_
    show Steps p.tables e below (T9.setTop (mkF m 55 #[.val (.int p1), .val (.int (1 : Int32)), .val (.ref a_TRUE), .val (.int (1 : Int32))] [(.int (1 : Int32))])) _
    refine XS.goto X9.here hx rfl (pc0 := 55) (pc' := 59) rfl (hb hby at_55) (by decide) (by decide) ?_
    show Steps p.tables e below (T9.setTop (mkF m 59 #[.val (.int p1), .val (.int (1 : Int32)), .val (.ref a_TRUE), .val (.int (1 : Int32))] [(.int (1 : Int32))])) _
    exact retN X9 hx (t := .boolean) Bd.returns (by simp) (hb hby at_59) hr
  · show Q0_one h0 n0 _ T9.heap _
    exact ⟨rfl, N9⟩
def Q0_nil (h0 : Heap) (n0 : Nat) (v : Option Value) (h : Heap) (L : List Loc) : Prop := v = some (.int (1 : Int32)) ∧ Fr n0 L
set_option maxRecDepth 65536 in
set_option maxHeartbeats 40000000 in
theorem rm0_nil (l : Launch) (Z : State) (a0 : Array Value) (hw : ∀ d ∈ tables_1, d.before a0 Z = true) (ws : List Jvm.Cond) (p1 : Int32) (a_TRUE a_FALSE : Addr) (h0 : Heap) (n0 : Nat) (Z0 : n0 ≤ h0.size) (WW : Own Z h0 a_TRUE a_FALSE) (hc3 : (p1 &&& (1 : Int32)) = (0 : Int32)) :
    MetFree l x (head1 (Jvm.Cond.code x code maxLocals ret :: ws) room_1) (fun a U => a = #[(.int p1)] ∧ Z.Warmed39 U.vm ∧ U.heap = h0) (fun _ _ _ _ _ => True) (fun _ U o U' => ∃ v L, o = .returned v ∧ Q0_nil h0 n0 v U'.heap L ∧ FrameEnd U o U' L room_1.cells room_1.slots) := by
  refine MetFree.of_bodySF (plainFor_of_name pn_0) hisR ?_
  intro p e s m args below meth c s₁ Bd hml0 hP hK
  have WW0 := WW
  obtain ⟨S_TRUE, S_FALSE, E_TRUE, E_FALSE, ne_TRUE_FALSE⟩ := WW0
  obtain ⟨rfl, hZ, hh⟩ := hP
  have hx := Bd.exec
  have hby := Bd.bytes
  have hml : c.maxLocals = 4 := hml0
  have hown : s.vm.findClass "com/example/nested_path/nestedpath/json/JsonBooleanValuePinLaw" = some m.cls := findClass_of_methodNamed Bd.named
  have hnm := (name_of_methodNamed Bd.named Bd.method).1
  have X0 : Stand p l e room_1 s m #[(.int p1)] below meth c s₁ [] 0 0 := Stand.of_body Bd
  have e0 : s₁.heap = h0 := by rw [← hh, Bd.state]; rfl
  have N0 := Fr.nil n0
  have pre0 : ∀ t, Steps p.tables e below (s₁.setTop (mkF m 0 #[.val (.int p1), .unset, .unset, .unset] [])) t → Steps p.tables e below (s₁.setTop (entryFrame m #[(.int p1)] maxLocals)) t := fun t k => castTop (ef_0 m p1) k
  -- 3. LAWS
  obtain ⟨T3, X3, e3, st3⟩ := getS2 X0 hx hZ hown (host := "") (Or.inl (hw _ (List.mem_of_getElem? (i := 0) rfl))) Via.refl e0 S_FALSE (g := (mkF m 22 #[.val (.int p1), .val (.int (0 : Int32)), .unset, .unset] [])) rfl (hb hby at_22)
  -- pc 27: com/example/nested_path/nestedpath/json/JsonBoolean.value by the contract of the body that the receiver's class selects, rm1
  obtain ⟨cq4, kq4, q4a, q4b, q4c⟩ := isOf hZ e3 E_FALSE
  obtain ⟨_, _, ⟨T4, L4, k4, n4⟩, -, X4, ⟨Lc4, hQ4, l4, y4, z4⟩, st4⟩ := X3.virtualBack hx (y := (⟨"com/example/nested_path/nestedpath/json/JsonBoolean", "value", "()Z"⟩ : MethodName)) (z := (⟨"com/example/nested_path/nestedpath/json/JsonBoolean", "value", "()Z"⟩ : MethodName)) hown (mvT hZ (hw _ (List.mem_of_getElem? (i := 3) rfl))) (mvT hZ (hw _ (List.mem_of_getElem? (i := 4) rfl))) (notFace_of_selects (args := #[]) (mvT hZ (hw _ (List.mem_of_getElem? (i := 6) rfl)))) (mvT hZ (hw _ (List.mem_of_getElem? (i := 6) rfl))) (mvT hZ (hw _ (List.mem_of_getElem? (i := 5) rfl))) (by decide) (backOf (W := 0) (rm1_t l Z a0 hw [] a_FALSE a_TRUE a_FALSE h0 n0 Z0 WW (Ne.symm ne_TRUE_FALSE)) hZ (hw _ (List.mem_of_getElem? (i := 7) rfl)) (hw _ (List.mem_of_getElem? (i := 1) rfl)) (by decide) (by decide)) q4a q4c (g := (mkF m 27 #[.val (.int p1), .val (.int (0 : Int32)), .val (.ref a_FALSE), .unset] [(.ref a_FALSE)])) rfl (by rw [hml]; rfl) (Steps.refl _) (argsL := []) (rest := []) (lenOf pdw_0 rfl) rfl (by show 2 * 0 + _ ≤ _; exact Nat.le_of_eq rfl) (hb hby at_27) (fun _ _ => ⟨rfl, e3, (by decide : 0 + 0 ≤ _), (by decide : 0 + 0 ≤ _)⟩)
  dsimp only [Pt.U, Pt.locs, Pt.cells, Pt.slots] at X4 l4 y4 z4 st4 hQ4
  subst l4 y4 z4
  obtain ⟨rfl, N4q, hh4⟩ := hQ4
  have N4 := Fr.app N0 N4q
  -- ✋ yours: S_TRUE must speak of T4.heap here (carried as the other facts are)
  obtain ⟨T6, X6, e6, st6⟩ := getS2 X4 hx hZ hown (host := "") (Or.inl (hw _ (List.mem_of_getElem? (i := 10) rfl))) Via.refl hh4 S_TRUE (g := (mkF m 36 #[.val (.int p1), .val (.int (0 : Int32)), .val (.ref a_FALSE), .val (.int (0 : Int32))] [])) rfl (hb hby at_36)
  -- pc 39: com/example/nested_path/nestedpath/json/JsonBoolean.value by the contract of the body that the receiver's class selects, rm1
  obtain ⟨cq7, kq7, q7a, q7b, q7c⟩ := isOf hZ e6 E_TRUE
  obtain ⟨_, _, ⟨T7, L7, k7, n7⟩, -, X7, ⟨Lc7, hQ7, l7, y7, z7⟩, st7⟩ := X6.virtualBack hx (y := (⟨"com/example/nested_path/nestedpath/json/JsonBoolean", "value", "()Z"⟩ : MethodName)) (z := (⟨"com/example/nested_path/nestedpath/json/JsonBoolean", "value", "()Z"⟩ : MethodName)) hown (mvT hZ (hw _ (List.mem_of_getElem? (i := 3) rfl))) (mvT hZ (hw _ (List.mem_of_getElem? (i := 4) rfl))) (notFace_of_selects (args := #[]) (mvT hZ (hw _ (List.mem_of_getElem? (i := 6) rfl)))) (mvT hZ (hw _ (List.mem_of_getElem? (i := 6) rfl))) (mvT hZ (hw _ (List.mem_of_getElem? (i := 5) rfl))) (by decide) (backOf (W := 0) (rm1_f l Z a0 hw [] a_TRUE a_TRUE a_FALSE h0 n0 Z0 WW rfl) hZ (hw _ (List.mem_of_getElem? (i := 7) rfl)) (hw _ (List.mem_of_getElem? (i := 1) rfl)) (by decide) (by decide)) q7a q7c (g := (mkF m 39 #[.val (.int p1), .val (.int (0 : Int32)), .val (.ref a_FALSE), .val (.int (0 : Int32))] [(.ref a_TRUE)])) rfl (by rw [hml]; rfl) (Steps.refl _) (argsL := []) (rest := []) (lenOf pdw_0 rfl) rfl (by show 2 * 0 + _ ≤ _; exact Nat.le_of_eq rfl) (hb hby at_39) (fun _ _ => ⟨rfl, e6, (by decide : 0 + 0 ≤ _), (by decide : 0 + 0 ≤ _)⟩)
  dsimp only [Pt.U, Pt.locs, Pt.cells, Pt.slots] at X7 l7 y7 z7 st7 hQ7
  subst l7 y7 z7
  obtain ⟨rfl, N7q, hh7⟩ := hQ7
  have N7 := Fr.app N4 N7q
  -- ✋ yours: S_FALSE must speak of T7.heap here (carried as the other facts are)
  obtain ⟨T8, X8, e8, st8⟩ := getS2 X7 hx hZ hown (host := "") (Or.inl (hw _ (List.mem_of_getElem? (i := 0) rfl))) Via.refl hh7 S_FALSE (g := (mkF m 45 #[.val (.int p1), .val (.int (0 : Int32)), .val (.ref a_FALSE), .val (.int (0 : Int32))] [])) rfl (hb hby at_45)
  -- pc 48: com/example/nested_path/nestedpath/json/JsonBoolean.value by the contract of the body that the receiver's class selects, rm1
  obtain ⟨cq9, kq9, q9a, q9b, q9c⟩ := isOf hZ e8 E_FALSE
  obtain ⟨_, _, ⟨T9, L9, k9, n9⟩, -, X9, ⟨Lc9, hQ9, l9, y9, z9⟩, st9⟩ := X8.virtualBack hx (y := (⟨"com/example/nested_path/nestedpath/json/JsonBoolean", "value", "()Z"⟩ : MethodName)) (z := (⟨"com/example/nested_path/nestedpath/json/JsonBoolean", "value", "()Z"⟩ : MethodName)) hown (mvT hZ (hw _ (List.mem_of_getElem? (i := 3) rfl))) (mvT hZ (hw _ (List.mem_of_getElem? (i := 4) rfl))) (notFace_of_selects (args := #[]) (mvT hZ (hw _ (List.mem_of_getElem? (i := 6) rfl)))) (mvT hZ (hw _ (List.mem_of_getElem? (i := 6) rfl))) (mvT hZ (hw _ (List.mem_of_getElem? (i := 5) rfl))) (by decide) (backOf (W := 0) (rm1_t l Z a0 hw [] a_FALSE a_TRUE a_FALSE h0 n0 Z0 WW (Ne.symm ne_TRUE_FALSE)) hZ (hw _ (List.mem_of_getElem? (i := 7) rfl)) (hw _ (List.mem_of_getElem? (i := 1) rfl)) (by decide) (by decide)) q9a q9c (g := (mkF m 48 #[.val (.int p1), .val (.int (0 : Int32)), .val (.ref a_FALSE), .val (.int (0 : Int32))] [(.ref a_FALSE)])) rfl (by rw [hml]; rfl) (Steps.refl _) (argsL := []) (rest := []) (lenOf pdw_0 rfl) rfl (by show 2 * 0 + _ ≤ _; exact Nat.le_of_eq rfl) (hb hby at_48) (fun _ _ => ⟨rfl, e8, (by decide : 0 + 0 ≤ _), (by decide : 0 + 0 ≤ _)⟩)
  dsimp only [Pt.U, Pt.locs, Pt.cells, Pt.slots] at X9 l9 y9 z9 st9 hQ9
  subst l9 y9 z9
  obtain ⟨rfl, N9q, hh9⟩ := hQ9
  have N9 := Fr.app N7 N9q
  obtain ⟨fs, hr, hrun, hended, hW, hsame⟩ := X9.leave (v := some (.int (1 : Int32))) (fun h => by rw [Bd.returns] at h; cases h)
  refine ⟨_, _, pre0 _ ?_, hrun, hended, _, _, rfl, ?_, ⟨_, rfl⟩, hW, hsame.mono (by decide) (by decide)⟩
  -- 4. STEPS
  · show Steps p.tables e below (s₁.setTop (mkF m 0 #[.val (.int p1), .unset, .unset, .unset] [])) _
    refine XS.iloadN X0.here hx rfl (hb hby at_0) rfl ?_
    show Steps p.tables e below (s₁.setTop (mkF m 1 #[.val (.int p1), .unset, .unset, .unset] [(.int p1)])) _
    refine XS.iconst X0.here hx rfl (hb hby at_1) ?_
    show Steps p.tables e below (s₁.setTop (mkF m 2 #[.val (.int p1), .unset, .unset, .unset] [(.int (1 : Int32)), (.int p1)])) _
    refine XS.iand X0.here hx rfl (hb hby at_2) rfl ?_
    show Steps p.tables e below (s₁.setTop (mkF m 3 #[.val (.int p1), .unset, .unset, .unset] [(.int (p1 &&& (1 : Int32)))])) _
    refine XS.ifYes X0.here hx rfl (pc0 := 3) (pc' := 10) rfl (hb hby at_3) rfl ((if0 _ _).trans (teq hc3).1) (by decide) (by decide) ?_
    show Steps p.tables e below (s₁.setTop (mkF m 10 #[.val (.int p1), .unset, .unset, .unset] [])) _
    refine XS.iconst X0.here hx rfl (hb hby at_10) ?_
    show Steps p.tables e below (s₁.setTop (mkF m 11 #[.val (.int p1), .unset, .unset, .unset] [(.int (0 : Int32))])) _
    refine XS.istoreN X0.here hx rfl (hb hby at_11) rfl (l' := #[.val (.int p1), .val (.int (0 : Int32)), .unset, .unset]) rfl ?_
    show Steps p.tables e below (s₁.setTop (mkF m 12 #[.val (.int p1), .val (.int (0 : Int32)), .unset, .unset] [])) _
    refine XS.iloadN X0.here hx rfl (hb hby at_12) rfl ?_
    show Steps p.tables e below (s₁.setTop (mkF m 13 #[.val (.int p1), .val (.int (0 : Int32)), .unset, .unset] [(.int (0 : Int32))])) _
    refine XS.ifYes X0.here hx rfl (pc0 := 13) (pc' := 22) rfl (hb hby at_13) rfl ((if0 _ _).trans (teq (rfl : (0 : Int32) = (0 : Int32))).1) (by decide) (by decide) ?_
    show Steps p.tables e below (s₁.setTop (mkF m 22 #[.val (.int p1), .val (.int (0 : Int32)), .unset, .unset] [])) _
    refine st3 _ ?_
    show Steps p.tables e below (T3.setTop (mkF m 25 #[.val (.int p1), .val (.int (0 : Int32)), .unset, .unset] [(.ref a_FALSE)])) _
    refine XS.astoreN X3.here hx rfl (hb hby at_25) rfl rfl (l' := #[.val (.int p1), .val (.int (0 : Int32)), .val (.ref a_FALSE), .unset]) rfl ?_
    show Steps p.tables e below (T3.setTop (mkF m 26 #[.val (.int p1), .val (.int (0 : Int32)), .val (.ref a_FALSE), .unset] [])) _
    refine XS.aloadN X3.here hx rfl (hb hby at_26) rfl rfl ?_
    show Steps p.tables e below (T3.setTop (mkF m 27 #[.val (.int p1), .val (.int (0 : Int32)), .val (.ref a_FALSE), .unset] [(.ref a_FALSE)])) _
    refine st4.trans ?_
    show Steps p.tables e below (T4.setTop (mkF m 30 #[.val (.int p1), .val (.int (0 : Int32)), .val (.ref a_FALSE), .unset] [(.int (0 : Int32))])) _
    refine XS.istoreN X4.here hx rfl (hb hby at_30) rfl (l' := #[.val (.int p1), .val (.int (0 : Int32)), .val (.ref a_FALSE), .val (.int (0 : Int32))]) rfl ?_
    show Steps p.tables e below (T4.setTop (mkF m 31 #[.val (.int p1), .val (.int (0 : Int32)), .val (.ref a_FALSE), .val (.int (0 : Int32))] [])) _
    refine XS.iloadN X4.here hx rfl (hb hby at_31) rfl ?_
    show Steps p.tables e below (T4.setTop (mkF m 32 #[.val (.int p1), .val (.int (0 : Int32)), .val (.ref a_FALSE), .val (.int (0 : Int32))] [(.int (0 : Int32))])) _
    refine XS.iloadN X4.here hx rfl (hb hby at_32) rfl ?_
    show Steps p.tables e below (T4.setTop (mkF m 33 #[.val (.int p1), .val (.int (0 : Int32)), .val (.ref a_FALSE), .val (.int (0 : Int32))] [(.int (0 : Int32)), (.int (0 : Int32))])) _
    refine XS.icmpNo X4.here hx rfl (hb hby at_33) rfl (teq (by decide : (0 : Int32) = (0 : Int32))).2 ?_
    show Steps p.tables e below (T4.setTop (mkF m 36 #[.val (.int p1), .val (.int (0 : Int32)), .val (.ref a_FALSE), .val (.int (0 : Int32))] [])) _
    refine st6 _ ?_
    show Steps p.tables e below (T6.setTop (mkF m 39 #[.val (.int p1), .val (.int (0 : Int32)), .val (.ref a_FALSE), .val (.int (0 : Int32))] [(.ref a_TRUE)])) _
    refine st7.trans ?_
    show Steps p.tables e below (T7.setTop (mkF m 42 #[.val (.int p1), .val (.int (0 : Int32)), .val (.ref a_FALSE), .val (.int (0 : Int32))] [(.int (1 : Int32))])) _
    refine XS.ifNo X7.here hx rfl (hb hby at_42) rfl ((if0 _ _).trans (feq (by decide : ¬ ((1 : Int32) = (0 : Int32)))).1) ?_
    show Steps p.tables e below (T7.setTop (mkF m 45 #[.val (.int p1), .val (.int (0 : Int32)), .val (.ref a_FALSE), .val (.int (0 : Int32))] [])) _
    refine st8 _ ?_
    show Steps p.tables e below (T8.setTop (mkF m 48 #[.val (.int p1), .val (.int (0 : Int32)), .val (.ref a_FALSE), .val (.int (0 : Int32))] [(.ref a_FALSE)])) _
    refine st9.trans ?_
    show Steps p.tables e below (T9.setTop (mkF m 51 #[.val (.int p1), .val (.int (0 : Int32)), .val (.ref a_FALSE), .val (.int (0 : Int32))] [(.int (0 : Int32))])) _
    refine XS.ifNo X9.here hx rfl (hb hby at_51) rfl ((if0 _ _).trans (teq (by decide : (0 : Int32) = (0 : Int32))).2) ?_
    show Steps p.tables e below (T9.setTop (mkF m 54 #[.val (.int p1), .val (.int (0 : Int32)), .val (.ref a_FALSE), .val (.int (0 : Int32))] [])) _
    refine XS.iconst X9.here hx rfl (hb hby at_54) ?_
    show Steps p.tables e below (T9.setTop (mkF m 55 #[.val (.int p1), .val (.int (0 : Int32)), .val (.ref a_FALSE), .val (.int (0 : Int32))] [(.int (1 : Int32))])) _
    refine XS.goto X9.here hx rfl (pc0 := 55) (pc' := 59) rfl (hb hby at_55) (by decide) (by decide) ?_
    show Steps p.tables e below (T9.setTop (mkF m 59 #[.val (.int p1), .val (.int (0 : Int32)), .val (.ref a_FALSE), .val (.int (0 : Int32))] [(.int (1 : Int32))])) _
    exact retN X9 hx (t := .boolean) Bd.returns (by simp) (hb hby at_59) hr
  · show Q0_nil h0 n0 _ T9.heap _
    exact ⟨rfl, N9⟩
def Q0 := Q0_one
theorem rm0 (l : Launch) (Z : State) (a0 : Array Value) (hw : ∀ d ∈ tables_1, d.before a0 Z = true) (ws : List Jvm.Cond) (p1 : Int32) (a_TRUE a_FALSE : Addr) (h0 : Heap) (n0 : Nat) (Z0 : n0 ≤ h0.size) (WW : Own Z h0 a_TRUE a_FALSE)  :
    MetFree l x (head1 (Jvm.Cond.code x code maxLocals ret :: ws) room_1) (fun a U => a = #[(.int p1)] ∧ Z.Warmed39 U.vm ∧ U.heap = h0) (fun _ _ _ _ _ => True) (fun _ U o U' => ∃ v L, o = .returned v ∧ Q0 h0 n0 v U'.heap L ∧ FrameEnd U o U' L room_1.cells room_1.slots) := by
  by_cases hc3 : (p1 &&& (1 : Int32)) = (0 : Int32)
  · exact rm0_nil l Z a0 hw ws p1 a_TRUE a_FALSE h0 n0 Z0 WW hc3
  · exact rm0_one l Z a0 hw ws p1 a_TRUE a_FALSE h0 n0 Z0 WW hc3 (by decide)
-- 5. FROM THE CASE'S WORDS TO rm0, AND THE OWED THEOREMS
set_option maxRecDepth 65536 in
set_option maxHeartbeats 40000000 in
theorem comes_1 {Post : Tables → Env → Array Value → State → Outcome → State → Prop} (hpost : ∀ tb e args s v u, (limb_1_1.after args s (.returned v) u = true ∧ limb_1_2.after args s (.returned v) u = true ∧ True) → FrameEnd s (.returned v) u (Jvm.fieldLocs frame_1_writes args s ++ Jvm.arrayLocs frame_1_arrays args s ++ Jvm.staticLocs frame_1_statics s) 0 0 → Post tb e args s (.returned v) u) :
    ArmFor flags0 classFile x code maxLocals ret World_1 tables_1 room_1 Calls_1 rest_1 Pre_1 Post := by
  intro l hfl _ _ p e ha hc hk s m args below hf hA hF happ hP
  obtain ⟨hcalls, hrest, hpre⟩ := hP
  obtain ⟨-, -, -, hnamed, -, -, -, hat⟩ := (Spec.applies_iff hf).mp happ
  obtain ⟨hg, hn⟩ := and_e (Cond.before_iff.mp (show (Jvm.Cond.and given_1 narrow_1).before args s = true from hpre))
  obtain ⟨g10, g11⟩ := and_e hg
  obtain ⟨w0, rfl⟩ : ∃ w0 : Value, args = #[w0] := by
    have hs : args.size = 1 := by simpa [Cond.value, given_1] using g10
    obtain ⟨L⟩ := args
    match L, hs with
    | [w0], _ => exact ⟨w0, rfl⟩
  have hw := fun d (hd : d ∈ tables_1) => atoms_spec (ws := Jvm.Cond.code x code maxLocals ret :: tables_1) hat d (List.mem_cons_of_mem _ hd)
  have hfit : Fit s := fun {y c} hc i hi => by
    obtain ⟨ha, rfl⟩ := Array.getElem?_eq_some_iff.mp hc
    have q := List.all_eq_true.mp ((Array.all_eq_true_iff_forall_mem.mp hF) _ (Array.getElem_mem ha)) i (List.mem_range.mpr hi)
    simpa [Array.getElem?_eq_getElem hi] using q
  obtain ⟨i0, ei0⟩ := is_v g11
  obtain rfl : w0 = (.int i0) := Option.some.inj ei0
  have hn0 := hn
  obtain ⟨c0, hn1⟩ := and_e hn0
  obtain ⟨c1, hn2⟩ := and_e hn1
  obtain ⟨c2, hn3⟩ := and_e hn2
  have c3 := hn3
  obtain ⟨a_FALSE, ev_FALSE⟩ := exa_v c0
  have E_FALSE := Exa.start ev_FALSE c0
  have S_FALSE := Sta.start ev_FALSE (Or.inr ⟨hw _ (List.mem_of_getElem? (i := 1) rfl), hw _ (List.mem_of_getElem? (i := 2) rfl)⟩)
  obtain ⟨a_TRUE, ev_TRUE⟩ := exa_v c1
  have E_TRUE := Exa.start ev_TRUE c1
  have S_TRUE := Sta.start ev_TRUE (Or.inr ⟨hw _ (List.mem_of_getElem? (i := 1) rfl), hw _ (List.mem_of_getElem? (i := 9) rfl)⟩)
  have o_FALSE := own_fldv ev_FALSE c2
  have o_TRUE := own_fldv ev_TRUE c3
  have ne_TRUE_FALSE : a_TRUE ≠ a_FALSE := own_ne o_TRUE o_FALSE (by decide)
  have WW : Own s s.heap a_TRUE a_FALSE := ⟨S_TRUE, S_FALSE, E_TRUE, E_FALSE, ne_TRUE_FALSE⟩
  obtain ⟨n, o, h1, h2, h3, _, L, rfl, ⟨rfl, N⟩, hq⟩ := rm0 l s _ hw tables_1 i0 a_TRUE a_FALSE s.heap s.heap.size (Nat.le_refl _) WW  p e ha hc hk s m _ below hf ((Spec.applies_iff_loose hf).mp happ).1 ⟨rfl, State.Warmed39.refl s, rfl⟩ trivial
  refine ⟨n, _, h1, h2, h3, hpost _ _ _ _ _ _ ⟨Cond.after_iff.mpr rfl, Cond.after_iff.mpr (eq_i res_at (Term.int_eval (1)) rfl), trivial⟩ ⟨hq.1, hq.2.1, (hq.2.2.sift fun y hy => Or.inr (N y hy)).mono (by decide) (by decide)⟩⟩
theorem main_1_1 : Claimed_1_1 := comes_1 fun _ _ _ _ _ _ h hF => ⟨h.1, hF⟩
theorem main_1_2 : Claimed_1_2 := comes_1 fun _ _ _ _ _ _ h hF => ⟨h.2.1, hF⟩
-- 6. THE WITNESS: 'witness <made dir> --arg ..' lays it behind; then: end Jvm.Pilot.@@N@@
end Jvm.Pilot.@@N@@
namespace Jvm.Pilot.@@N@@
open Jvm Jvm.ClassFile Sem Op Lib Jvm.Free Jvm.Stand Jvm.Pilot.@@N@@.Jvm.D
/-! MADE BY PROGRAM (witnessworld.py) out of the Statement's table words and the real class files: 13 classes; the members and pool entries that the words name. The judged class is class 1, her method 1. -/
namespace start1
open Jvm.ClassFile
def u (s : String) : CpInfo := .utf8 (stringToUtf16 s)
/-- a pool by its gaps: so many unusable entries, then the entry; so many at the end -/
def gap : Nat → List CpInfo → List CpInfo
  | 0, r => r
  | n + 1, r => .unusable :: gap n r
def poolList (es : List (Nat × CpInfo)) (last : Nat) : List CpInfo := es.foldr (fun e r => gap e.1 (e.2 :: r)) (gap last [])
def pool (es : List (Nat × CpInfo)) (last : Nat) : Array CpInfo := ⟨poolList es last⟩
def fileOf (pool : Array CpInfo) (this : Nat) (attrs : Array Attribute := #[]) (ms : Array MethodInfo := #[]) (fl : Nat := 33) (sup : Nat := 0) (ifs : Array Nat := #[]) (fds : Array FieldInfo := #[]) : ClassFile where
  minorVersion := 0
  majorVersion := 65
  constantPool := pool
  accessFlags := fl
  thisClass := this
  superClass := sup
  interfaces := ifs
  fields := fds
  methods := ms
  attributes := attrs
def plain (name : String) (sup : Option ClassId) : Class where
  name := name
  kind := .ordinary
  loader := none
  accessFlags := 33
  super := sup
  interfaces := #[]
  cf := none
  fields := #[]
  methods := #[]
  instanceTypes := #[]
  staticTypes := #[]
  resolved := #[]
  callSites := []
  init := .initialized
  statics := none
  mirror := none

def pool0 : Array CpInfo := pool [(5, u "<init>"), (0, u "()V"), (1, .class_ 10), (1, u "java/lang/Object")] 113

def k0m0 : Method := { name := "<init>", desc := "()V", sig := { parameters := [], returnType := none }, accessFlags := 1, code := none }
/-- java/lang/Object -/
def k0 : Class := { plain "java/lang/Object" none with
  accessFlags := 33
  interfaces := #[]
  cf := some (fileOf pool0 8 #[] #[{ accessFlags := 1, nameIndex := 5, descriptorIndex := 6, attributes := #[] }] 33 0 #[] #[])
  fields := #[]
  methods := #[k0m0]
  instanceTypes := #[]
  staticTypes := #[]
  resolved := Array.replicate 124 none
  statics := none }

def pool1 : Array CpInfo := pool [(2, .class_ 4), (1, u "java/lang/Object"), (0, u "<init>"), (0, u "()V"), (0, .fieldref 8 9), (0, .class_ 10), (0, .nameAndType 11 12), (0, u "com/example/nested_path/nestedpath/json/JsonBoolean"), (0, u "TRUE"), (0, u "Lcom/example/nested_path/nestedpath/json/JsonBoolean;"), (0, .fieldref 8 14), (0, .nameAndType 15 12), (0, u "FALSE"), (0, .methodref 8 17), (0, .nameAndType 18 19), (0, u "value"), (0, u "()Z"), (0, .class_ 21), (0, u "com/example/nested_path/nestedpath/json/JsonBooleanValuePinLaw"), (2, u "law"), (0, u "(I)Z")] 3

def k1m0 : Method := { name := "<init>", desc := "()V", sig := { parameters := [], returnType := none }, accessFlags := 2, code := none }
def k1c1 : Code := { maxStack := 2, maxLocals := 4, code := code, exceptionTable := #[], attributes := #[] }
def k1m1 : Method := { name := "law", desc := "(I)Z", sig := { parameters := [.int], returnType := some .boolean }, accessFlags := 9, code := some k1c1 }
/-- com/example/nested_path/nestedpath/json/JsonBooleanValuePinLaw -/
def k1 : Class := { plain "com/example/nested_path/nestedpath/json/JsonBooleanValuePinLaw" (some 0) with
  accessFlags := 49
  interfaces := #[]
  cf := some (fileOf pool1 20 #[] #[{ accessFlags := 2, nameIndex := 5, descriptorIndex := 6, attributes := #[] }, { accessFlags := 9, nameIndex := 24, descriptorIndex := 25, attributes := #[] }] 49 2 #[] #[])
  fields := #[]
  methods := #[k1m0, k1m1]
  instanceTypes := #[]
  staticTypes := #[]
  resolved := Array.replicate 29 none
  statics := none }

def pool2 : Array CpInfo := pool [(1, .class_ 2), (0, u "java/lang/constant/Constable"), (0, .class_ 4), (0, u "java/lang/Object")] 6

/-- java/lang/constant/Constable -/
def k2 : Class := { plain "java/lang/constant/Constable" (some 0) with
  accessFlags := 1537
  interfaces := #[]
  cf := some (fileOf pool2 1 #[] #[] 1537 3 #[] #[])
  fields := #[]
  methods := #[]
  instanceTypes := #[]
  staticTypes := #[]
  resolved := Array.replicate 11 none
  statics := none }

def pool3 : Array CpInfo := pool [(1, .class_ 2), (0, u "java/lang/Comparable"), (0, .class_ 4), (0, u "java/lang/Object")] 7

/-- java/lang/Comparable -/
def k3 : Class := { plain "java/lang/Comparable" (some 0) with
  accessFlags := 1537
  interfaces := #[]
  cf := some (fileOf pool3 1 #[] #[] 1537 3 #[] #[])
  fields := #[]
  methods := #[]
  instanceTypes := #[]
  staticTypes := #[]
  resolved := Array.replicate 12 none
  statics := none }

def pool4 : Array CpInfo := pool [(1, .class_ 2), (0, u "java/io/Serializable"), (0, .class_ 4), (0, u "java/lang/Object")] 2

/-- java/io/Serializable -/
def k4 : Class := { plain "java/io/Serializable" (some 0) with
  accessFlags := 1537
  interfaces := #[]
  cf := some (fileOf pool4 1 #[] #[] 1537 3 #[] #[])
  fields := #[]
  methods := #[]
  instanceTypes := #[]
  staticTypes := #[]
  resolved := Array.replicate 7 none
  statics := none }

def pool5 : Array CpInfo := pool [(2, .class_ 4), (1, u "java/lang/Enum"), (0, u "name"), (0, u "Ljava/lang/String;"), (2, u "ordinal"), (0, u "I"), (1, .class_ 14), (1, u "java/lang/Object"), (4, u "hash"), (86, .class_ 108), (1, u "java/lang/Enum$EnumDesc"), (2, .class_ 112), (0, u "java/lang/constant/Constable"), (0, .class_ 114), (0, u "java/lang/Comparable"), (0, .class_ 116), (0, u "java/io/Serializable")] 87

/-- java/lang/Enum -/
def k5 : Class := { plain "java/lang/Enum" (some 0) with
  accessFlags := 1057
  interfaces := #[2, 3, 4]
  cf := some (fileOf pool5 2 #[.nestMembers #[106]] #[] 1057 12 #[111, 113, 115] #[{ accessFlags := 18, nameIndex := 5, descriptorIndex := 6, attributes := #[] }, { accessFlags := 18, nameIndex := 9, descriptorIndex := 10, attributes := #[] }, { accessFlags := 2, nameIndex := 19, descriptorIndex := 10, attributes := #[] }])
  fields := #[{ name := "name", type := (.object "java/lang/String"), accessFlags := 18, slot := 0, constantValue := 0 }, { name := "ordinal", type := .int, accessFlags := 18, slot := 1, constantValue := 0 }, { name := "hash", type := .int, accessFlags := 2, slot := 2, constantValue := 0 }]
  methods := #[]
  instanceTypes := #[(.object "java/lang/String"), .int, .int]
  staticTypes := #[]
  resolved := Array.replicate 204 none
  statics := none }

def pool6 : Array CpInfo := pool [(1, .class_ 2), (0, u "com/example/nested_path/nestedpath/json/JsonValue"), (0, .class_ 4), (0, u "java/lang/Object")] 15

/-- com/example/nested_path/nestedpath/json/JsonValue -/
def k6 : Class := { plain "com/example/nested_path/nestedpath/json/JsonValue" (some 0) with
  accessFlags := 1537
  interfaces := #[]
  cf := some (fileOf pool6 1 #[] #[] 1537 3 #[] #[])
  fields := #[]
  methods := #[]
  instanceTypes := #[]
  staticTypes := #[]
  resolved := Array.replicate 20 none
  statics := none }

def pool7 : Array CpInfo := pool [(1, .class_ 2), (0, u "com/example/nested_path/nestedpath/json/JsonBoolean"), (0, .fieldref 1 4), (0, .nameAndType 5 6), (0, u "TRUE"), (0, u "Lcom/example/nested_path/nestedpath/json/JsonBoolean;"), (2, u "FALSE"), (2, u "$VALUES"), (0, u "[Lcom/example/nested_path/nestedpath/json/JsonBoolean;"), (6, .class_ 22), (1, u "java/lang/Enum"), (13, .class_ 37), (0, u "com/example/nested_path/nestedpath/json/JsonValue"), (7, u "value"), (0, u "()Z")] 5

def k7c0 : Code := { maxStack := 2, maxLocals := 1, code := prog_19_method_4_code, exceptionTable := #[], attributes := #[] }
def k7m0 : Method := { name := "value", desc := "()Z", sig := { parameters := [], returnType := some .boolean }, accessFlags := 1, code := some k7c0 }
/-- com/example/nested_path/nestedpath/json/JsonBoolean -/
def k7 : Class := { plain "com/example/nested_path/nestedpath/json/JsonBoolean" (some 5) with
  accessFlags := 16433
  interfaces := #[6]
  cf := some (fileOf pool7 1 #[] #[{ accessFlags := 1, nameIndex := 45, descriptorIndex := 46, attributes := #[] }] 16433 20 #[36] #[{ accessFlags := 16409, nameIndex := 5, descriptorIndex := 6, attributes := #[] }, { accessFlags := 16409, nameIndex := 9, descriptorIndex := 6, attributes := #[] }, { accessFlags := 4122, nameIndex := 12, descriptorIndex := 13, attributes := #[] }])
  fields := #[{ name := "TRUE", type := (.object "com/example/nested_path/nestedpath/json/JsonBoolean"), accessFlags := 16409, slot := 0, constantValue := 0 }, { name := "FALSE", type := (.object "com/example/nested_path/nestedpath/json/JsonBoolean"), accessFlags := 16409, slot := 1, constantValue := 0 }, { name := "$VALUES", type := (.array (.object "com/example/nested_path/nestedpath/json/JsonBoolean")), accessFlags := 4122, slot := 2, constantValue := 0 }]
  methods := #[k7m0]
  instanceTypes := #[(.object "java/lang/String"), .int, .int]
  staticTypes := #[(.object "com/example/nested_path/nestedpath/json/JsonBoolean"), (.object "com/example/nested_path/nestedpath/json/JsonBoolean"), (.array (.object "com/example/nested_path/nestedpath/json/JsonBoolean"))]
  resolved := Array.replicate 52 none
  statics := some 0 }

def pool8 : Array CpInfo := pool [(1, u "java/lang/Cloneable"), (0, .class_ 1), (0, u "java/lang/Object"), (0, .class_ 3)] 3

/-- java/lang/Cloneable -/
def k8 : Class := { plain "java/lang/Cloneable" (some 0) with
  accessFlags := 1537
  interfaces := #[]
  cf := some (fileOf pool8 2 #[] #[] 1537 4 #[] #[])
  fields := #[]
  methods := #[]
  instanceTypes := #[]
  staticTypes := #[]
  resolved := Array.replicate 8 none
  statics := none }

/-- the primitive byte -/
def k9 : Class := { plain "byte" none with kind := .primitive 'B', accessFlags := 0x411 }
/-- [B -/
def k10 : Class := { plain "[B" (some 0) with kind := .array 9 .byte, interfaces := #[8, 4], accessFlags := 1041 }

/-- the primitive int -/
def k11 : Class := { plain "int" none with kind := .primitive 'I', accessFlags := 0x411 }
/-- [I -/
def k12 : Class := { plain "[I" (some 0) with kind := .array 11 .int, interfaces := #[8, 4], accessFlags := 1041 }

def heap : Heap := #[{ cls := 7, slots := #[.ref 1, .ref 2, .null], vm := .statics 7 },
  { cls := 7, slots := #[.null, .int 0, .int 0], vm := .none },
  { cls := 7, slots := #[.null, .int 1, .int 0], vm := .none }]
def classes : Array Class := #[k0, k1, k2, k3, k4, k5, k6, k7, k8, k9, k10, k11, k12]
def interned : List (Array UInt16 × Addr) := []
def slotsUsed : Nat := 9
def theMethod : MethodId := ⟨1, 1⟩
def args0 : Array Value := #[.int 5]
def aboutOver (below : List Frame) : State where
  vm := { classes := classes, interned := interned.toArray }
  heap := heap
  slotsUsed := slotsUsed
  threads := #[{ frames := .invoking theMethod args0 :: below }]
def below0 : List Frame := [.native { method := ⟨0, 0⟩, args := #[] }]
def about1 : State := aboutOver below0
def p0 : Program := .bare "" "" ""
def e0 : Env := launch0.env 0 0 0
theorem w_frames : about1.frames = Frame.invoking theMethod args0 :: below0 := rfl
set_option maxRecDepth 65536 in
theorem w_args : argsFit about1.vm theMethod args0 = true := by decide +kernel
set_option maxRecDepth 65536 in
theorem w_heap : heapFits about1 = true := by decide +kernel
set_option maxRecDepth 65536 in
theorem w_runnable : about1.curStatus? = some .runnable := by decide +kernel
set_option maxRecDepth 65536 in
theorem w_alone : about1.alone = true := by decide +kernel
set_option maxRecDepth 65536 in
theorem w_named : about1.methodNamed? x = some theMethod := by decide +kernel
set_option maxRecDepth 65536 in
theorem w_hears : about1.hears theMethod below0 = true := by decide +kernel
set_option maxRecDepth 65536 in
theorem w_ripe : about1.ripe theMethod args0 below0 = true := by decide +kernel
theorem w_running : about1.status = .running := rfl
set_option maxRecDepth 65536 in
theorem w_room : about1.hasRoom e0.platform room_1 = true :=
  launch0.hasRoom_least _ room_1 (by decide +kernel) (by decide +kernel) (by decide +kernel) (by decide +kernel) (by decide +kernel) (by decide +kernel)
theorem allAtoms_all (ts : List Jvm.Cond) (a : Array Jvm.Value) (st : Jvm.State) : (allAtoms ts).before a st = ts.all (fun c => c.before a st) := by
  induction ts with
  | nil => rfl
  | cons c t ih =>
    show (Jvm.Cond.and c (allAtoms t)).before a st = _
    rw [Jvm.Cond.before_and, ih, List.all_cons]
def words1 : List Jvm.Cond := Jvm.Cond.code x code maxLocals ret :: tables_1
/-- a 'code' word, met by the world's own term for the bytes: nothing is compared byte by byte -/
theorem code_word {y : MethodName} {bytes : ByteArray} {mx : Nat} {rt : Option FieldType} {a : Array Value} {s : State} {m : MethodId} {meth : Method} {c : Code} (h1 : s.methodNamed? y = some m) (h2 : s.vm.method? m = some meth) (h3 : meth.code = some c) (h4 : c.code = bytes)
    (h5 : (c.maxLocals == mx && c.exceptionTable.isEmpty && decide (c.maxStack ≤ mostOperands) && decide (meth.sig.returnType = rt) && !meth.locks && decide (parseMethodDescriptor y.desc = some meth.sig)) = true) : (Jvm.Cond.code y bytes mx rt).before a s = true := by
  simp only [Bool.and_eq_true, beq_iff_eq, Bool.not_eq_true', decide_eq_true_eq] at h5
  obtain ⟨⟨⟨⟨⟨g1, g2⟩, g3⟩, g4⟩, g5⟩, g6⟩ := h5
  simp [Cond.before, Cond.holds, Cond.value, h1, h2, h3, h4, g1, g2, g3, g4, g5, g6]
def isCode : Jvm.Cond → Bool
  | .code _ _ _ _ => true
  | _ => false
theorem all_split {L : List Jvm.Cond} {P : Jvm.Cond → Bool} (h1 : L.all (fun c => isCode c || P c) = true) (h2 : ∀ c ∈ L.filter isCode, P c = true) : L.all P = true := by
  refine List.all_eq_true.mpr fun c hc => ?_
  have h := List.all_eq_true.mp h1 c hc
  rcases Bool.eq_false_or_eq_true (isCode c) with hi | hi
  · exact h2 c (List.mem_filter.mpr ⟨hc, hi⟩)
  · simpa [hi] using h
set_option maxRecDepth 65536 in
theorem w_c0 : (Jvm.Cond.code x code maxLocals ret).before args0 about1 = true := code_word (m := ⟨1, 1⟩) (meth := k1m1) (c := k1c1) (by decide +kernel) rfl rfl rfl (by decide +kernel)
set_option maxRecDepth 65536 in
theorem w_c1 : (Jvm.Cond.code ({ cls := "com/example/nested_path/nestedpath/json/JsonBoolean", name := "value", desc := "()Z" } : Jvm.MethodName) prog_19_method_4_code (1 : Nat) (Option.some Jvm.ClassFile.FieldType.boolean)).before args0 about1 = true := code_word (m := ⟨7, 0⟩) (meth := k7m0) (c := k7c0) (by decide +kernel) rfl rfl rfl (by decide +kernel)
def codes1 : List Jvm.Cond := [Jvm.Cond.code x code maxLocals ret, Jvm.Cond.code ({ cls := "com/example/nested_path/nestedpath/json/JsonBoolean", name := "value", desc := "()Z" } : Jvm.MethodName) prog_19_method_4_code (1 : Nat) (Option.some Jvm.ClassFile.FieldType.boolean)]
set_option maxRecDepth 65536 in
theorem codes_eq : words1.filter isCode = codes1 := rfl
theorem w_codes : ∀ c ∈ words1.filter isCode, c.before args0 about1 = true := by
  rw [codes_eq]
  intro c hc
  simp only [codes1, List.mem_cons, List.not_mem_nil, or_false] at hc
  rcases hc with rfl | rfl
  · exact w_c0
  · exact w_c1
set_option maxRecDepth 65536 in
theorem w_t1 : words1.all (fun c => isCode c || c.before args0 about1) = true := by decide +kernel
theorem w_tables : (allAtoms (Jvm.Cond.code x code maxLocals ret :: tables_1)).before args0 about1 = true := by
  rw [allAtoms_all]
  show words1.all (fun c => c.before args0 about1) = true
  refine all_split ?_ w_codes
  rw [w_t1]
set_option maxRecDepth 65536 in
theorem w_case : (Jvm.Cond.and given_1 narrow_1).before args0 about1 = true := by decide +kernel
theorem w_applies : (headSpec (Jvm.Cond.code x code maxLocals ret :: tables_1) room_1).applies x e0.platform about1 = true :=
  (Spec.applies_iff w_frames).mpr ⟨w_running, w_runnable, w_alone, w_named, w_hears, w_ripe, w_room, w_tables⟩
theorem atStart : AtStart classFile x code maxLocals ret World_1 tables_1 room_1 Calls_1 rest_1 Pre_1 launch0 p0 e0 about1 theMethod args0 below0 :=
  ⟨lists_1, trivial, launch0.admits_env _ _ _, launch0.least_env, fairChoices_fair.cas, fairChoices_fair.clock, w_frames, w_args, w_heap, w_applies, trivial, trivial, w_case⟩
end start1
theorem witness_1 : WitnessClaimed_1 := ⟨start1.p0, start1.e0, start1.about1, start1.theMethod, start1.args0, start1.below0, start1.atStart⟩
end Jvm.Pilot.@@N@@
