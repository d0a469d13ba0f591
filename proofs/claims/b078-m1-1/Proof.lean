import JvmDerived
import JvmDerived.Pilot.@@N@@Statement
import JvmDerived.Pilot.@@N@@Code
set_option linter.unusedVariables false
set_option linter.unusedSimpArgs false
@@BLOCK:NumsL.lean.txt@@
namespace Jvm.RoadKit
open Sem ClassFile Op Lib Jvm.Stand Jvm.Free Jvm.LawKit
section New
variable {p : Program} {l : Launch} {e : Env} {R : Room} {s : State} {m : MethodId} {args : Array Value} {below : List Frame} {meth : Method} {c : Code} {T : State} {locs : List Loc} {cells slots : Nat}
theorem retI (X : Stand p l e R s m args below meth c T locs cells slots) (hx : p.tables.exec = Jvm.exec) {pc : Nat} {Ls : Array Slot} {z : Int32} {rest : List Value} (hret : meth.sig.returnType = some .int) (hd : decode c.code pc = .ok (.ireturn, 1)) {fs : List Frame}
    (hl : ∀ (f : JFrame) (acts : List Action), f.method = m → f.locked = none → f.entered = [] → (doReturn e (T.setTop f) acts (some (.int z))).1 = T.setFrames fs) : Steps p.tables e below (T.setTop (mkF m pc Ls (.int z :: rest))) (T.setFrames fs) := by
  have hm' : T.vm.method? m = some meth := X.method'
  have hn : narrow .int (.int z) = .int z := rfl
  show Steps p.tables e below (T.setTop { method := m, pc := pc, locals := Ls, stack := _ :: rest, locked := none }) _
  jvm_step X.here [X.here.top, hx, hd, hm', hret, hn]
  first | (intro acts; rw [hl _ acts rfl rfl rfl]) | rw [hl _ _ rfl rfl rfl]
  exact Steps.refl _
theorem own_retL (X : Stand p l e R s m args below meth c T locs cells slots) (hx : p.tables.exec = Jvm.exec) {pc : Nat} {Ls : Array Slot} {z : Int64} {rest : List Value} (hret : meth.sig.returnType = some .long) (hd : decode c.code pc = .ok (.lreturn, 1)) {fs : List Frame}
    (hl : ∀ (f : JFrame) (acts : List Action), f.method = m → f.locked = none → f.entered = [] → (doReturn e (T.setTop f) acts (some (.long z))).1 = T.setFrames fs) : Steps p.tables e below (T.setTop (mkF m pc Ls (.long z :: rest))) (T.setFrames fs) := by
  have hm' : T.vm.method? m = some meth := X.method'
  have hn : narrow .long (.long z) = .long z := rfl
  show Steps p.tables e below (T.setTop { method := m, pc := pc, locals := Ls, stack := _ :: rest, locked := none }) _
  jvm_step X.here [X.here.top, hx, hd, hm', hret, hn]
  first | (intro acts; rw [hl _ acts rfl rfl rfl]) | rw [hl _ _ rfl rfl rfl]
  exact Steps.refl _
theorem own_retD (X : Stand p l e R s m args below meth c T locs cells slots) (hx : p.tables.exec = Jvm.exec) {pc : Nat} {Ls : Array Slot} {z : UInt64} {rest : List Value} (hret : meth.sig.returnType = some .double) (hd : decode c.code pc = .ok (.dreturn, 1)) {fs : List Frame}
    (hl : ∀ (f : JFrame) (acts : List Action), f.method = m → f.locked = none → f.entered = [] → (doReturn e (T.setTop f) acts (some (.double z))).1 = T.setFrames fs) : Steps p.tables e below (T.setTop (mkF m pc Ls (.double z :: rest))) (T.setFrames fs) := by
  have hm' : T.vm.method? m = some meth := X.method'
  have hn : narrow .double (.double z) = .double z := rfl
  show Steps p.tables e below (T.setTop { method := m, pc := pc, locals := Ls, stack := _ :: rest, locked := none }) _
  jvm_step X.here [X.here.top, hx, hd, hm', hret, hn]
  first | (intro acts; rw [hl _ acts rfl rfl rfl]) | rw [hl _ _ rfl rfl rfl]
  exact Steps.refl _
end New
end Jvm.RoadKit
namespace Jvm.Pilot.@@N@@
open Jvm Jvm.ClassFile Sem Op Lib Jvm.Free Jvm.Stand Jvm.LawKit Jvm.RoadKit Bundle Jvm.Pilot.@@N@@.Jvm.D
theorem own_irem {tb : Tables} [Ours tb] {e : Env} {below : List Frame} {T target : State} {m : MethodId} {c : Code} {g : JFrame} (h : At T m c below) (hx : tb.exec = Jvm.exec) (hg : g.method = m) {x y : Int32} {rest : List Value} (hd : decode c.code g.pc = .ok (.irem, 1)) (hs : g.stack = .int y :: .int x :: rest) (hy : y ≠ 0)
    (hr : Steps tb e below (T.setTop { g with pc := g.pc + 1, stack := .int (x % y) :: rest }) target) : Steps tb e below (T.setTop g) target := XS.irem h hx hg hd hs hy (by rw [irem_eq_mod]; exact hr)
theorem own_fldv {args : Array Value} {s : State} {t : Term} {C n d : String} {a : Addr} {i : Int32} (ev : t.eval args s none [] s = some (.ref a)) (e : (Jvm.Cond.eq (.field t C n d) (.int i)).value args s none s [] = some true) : s.fieldOf? a C n d = some (.int i) := by
  have hb : (Term.int i).eval args s none [] s = some (.int i) := Term.int_eval i
  cases hv : s.fieldOf? a C n d with
  | none => simp [Jvm.Cond.value, fld_at ev, hv] at e
  | some v =>
    cases v <;> simp [Jvm.Cond.value, fld_at ev, hv, hb] at e
    rw [e]
theorem own_len {args : Array Value} {s : State} {t : Term} {a : Addr} {i : Int32} {cl : Cell} {ty : FieldType} (ev : t.eval args s none [] s = some (.ref a)) (A : Arr s s.heap a cl ty) (e : (Jvm.Cond.eq (.length t) (.int i)).value args s none s [] = some true) : cl.slots.size < 2 ^ 31 ∧ cl.slots.size.toInt32 = i := by
  have hb : (Term.int i).eval args s none [] s = some (.int i) := Term.int_eval i
  have ha : s.arrayAt? a = some cl := A.fin (Vm.Alike.refl _)
  by_cases hl : cl.slots.size < 2 ^ 31
  · refine ⟨hl, ?_⟩
    have := len_f ev ha hl
    simpa [Jvm.Cond.value, this, hb] using e
  · exfalso
    simp [Jvm.Cond.value, Term.eval, ev, ha, hl] at e
theorem own_elem {args : Array Value} {s : State} {t u : Term} {a b : Addr} {i : Int32} {cl : Cell} (ev : t.eval args s none [] s = some (.ref a)) (eu : u.eval args s none [] s = some (.ref b)) (hc : s.heap[a]? = some cl) (e : (Jvm.Cond.eq (.elem t (.int i)) u).value args s none s [] = some true) : cl.slots[i.toNatClampNeg]? = some (.ref b) := by
  have hj : (Term.int i).eval args s none [] s = some (.int i) := Term.int_eval i
  cases hv : (Term.elem t (.int i)).eval args s none [] s with
  | none => simp [Jvm.Cond.value, hv] at e
  | some v =>
    have q := (elem_in hv ev hj hc).2
    cases v <;> simp [Jvm.Cond.value, hv, eu] at e
    rw [q, e]
theorem own_small {x : Int32} {k : Nat} (h0 : 0 ≤ x.toInt) (hk : x.toInt < k) : ∃ j : Fin k, x = Int32.ofNat j := by
  refine ⟨⟨x.toInt.toNat, by omega⟩, ?_⟩
  apply Int32.toInt_inj.mp
  have h := x.toInt_lt
  rw [Int32.toInt_ofNat_of_lt (by show x.toInt.toNat < _; omega)]
  show x.toInt = (x.toInt.toNat : Int)
  omega
theorem own_i (p : Int32) : ((p &&& (2147483647 : Int32)) % (7 : Int32)) = (0 : Int32) ∨ ((p &&& (2147483647 : Int32)) % (7 : Int32)) = (1 : Int32) ∨ ((p &&& (2147483647 : Int32)) % (7 : Int32)) = (2 : Int32) ∨ ((p &&& (2147483647 : Int32)) % (7 : Int32)) = (3 : Int32) ∨ ((p &&& (2147483647 : Int32)) % (7 : Int32)) = (4 : Int32) ∨ ((p &&& (2147483647 : Int32)) % (7 : Int32)) = (5 : Int32) ∨ ((p &&& (2147483647 : Int32)) % (7 : Int32)) = (6 : Int32) := by
  have e := Jvm.Kit.i32_mask p 2147483647 (k := 31) (by decide) (by decide)
  have r : ((p &&& (2147483647 : Int32)) % (7 : Int32)).toInt = (p &&& (2147483647 : Int32)).toInt % 7 := Jvm.Kit.i32_rem_nonneg (by omega)
  obtain ⟨j, hj⟩ := own_small (x := (p &&& (2147483647 : Int32)) % (7 : Int32)) (k := 7) (by omega) (by omega)
  rw [hj]
  clear hj r e
  revert j
  decide
def Own (Z : State) (h : Heap) (a_NONE a_WAITS a_WAITS_NO_MORE a_FALLS_DUE_AFTER_WAITING a_WAITS_AGAIN a_FALLS_DUE a_TAKEN_BACK a_VALUES : Addr) (kV : ClassId) : Prop := Sta Z h "com/example/acompte/acompte/DocumentKind$Vat" "NONE" "Lcom/example/acompte/acompte/DocumentKind$Vat;" (.ref a_NONE) ∧ Sta Z h "com/example/acompte/acompte/DocumentKind$Vat" "WAITS" "Lcom/example/acompte/acompte/DocumentKind$Vat;" (.ref a_WAITS) ∧ Sta Z h "com/example/acompte/acompte/DocumentKind$Vat" "WAITS_NO_MORE" "Lcom/example/acompte/acompte/DocumentKind$Vat;" (.ref a_WAITS_NO_MORE) ∧ Sta Z h "com/example/acompte/acompte/DocumentKind$Vat" "FALLS_DUE_AFTER_WAITING" "Lcom/example/acompte/acompte/DocumentKind$Vat;" (.ref a_FALLS_DUE_AFTER_WAITING) ∧ Sta Z h "com/example/acompte/acompte/DocumentKind$Vat" "WAITS_AGAIN" "Lcom/example/acompte/acompte/DocumentKind$Vat;" (.ref a_WAITS_AGAIN) ∧ Sta Z h "com/example/acompte/acompte/DocumentKind$Vat" "FALLS_DUE" "Lcom/example/acompte/acompte/DocumentKind$Vat;" (.ref a_FALLS_DUE) ∧ Sta Z h "com/example/acompte/acompte/DocumentKind$Vat" "TAKEN_BACK" "Lcom/example/acompte/acompte/DocumentKind$Vat;" (.ref a_TAKEN_BACK) ∧ Sta Z h "com/example/acompte/acompte/DocumentKind$Vat" "$VALUES" "[Lcom/example/acompte/acompte/DocumentKind$Vat;" (.ref a_VALUES) ∧ Exa Z h a_NONE "com/example/acompte/acompte/DocumentKind$Vat" ∧ Exa Z h a_WAITS "com/example/acompte/acompte/DocumentKind$Vat" ∧ Exa Z h a_WAITS_NO_MORE "com/example/acompte/acompte/DocumentKind$Vat" ∧ Exa Z h a_FALLS_DUE_AFTER_WAITING "com/example/acompte/acompte/DocumentKind$Vat" ∧ Exa Z h a_WAITS_AGAIN "com/example/acompte/acompte/DocumentKind$Vat" ∧ Exa Z h a_FALLS_DUE "com/example/acompte/acompte/DocumentKind$Vat" ∧ Exa Z h a_TAKEN_BACK "com/example/acompte/acompte/DocumentKind$Vat" ∧ Exa Z h a_VALUES "[Lcom/example/acompte/acompte/DocumentKind$Vat;" ∧ Fld Z h a_NONE "com/example/acompte/acompte/DocumentKind$Vat" "waiting" "I" (.int (0 : Int32)) ∧ Fld Z h a_WAITS "com/example/acompte/acompte/DocumentKind$Vat" "waiting" "I" (.int (1 : Int32)) ∧ Fld Z h a_WAITS_NO_MORE "com/example/acompte/acompte/DocumentKind$Vat" "waiting" "I" (.int (-1 : Int32)) ∧ Fld Z h a_FALLS_DUE_AFTER_WAITING "com/example/acompte/acompte/DocumentKind$Vat" "waiting" "I" (.int (-1 : Int32)) ∧ Fld Z h a_WAITS_AGAIN "com/example/acompte/acompte/DocumentKind$Vat" "waiting" "I" (.int (1 : Int32)) ∧ Fld Z h a_FALLS_DUE "com/example/acompte/acompte/DocumentKind$Vat" "waiting" "I" (.int (0 : Int32)) ∧ Fld Z h a_TAKEN_BACK "com/example/acompte/acompte/DocumentKind$Vat" "waiting" "I" (.int (0 : Int32)) ∧ Fld Z h a_NONE "com/example/acompte/acompte/DocumentKind$Vat" "due" "I" (.int (0 : Int32)) ∧ Fld Z h a_WAITS "com/example/acompte/acompte/DocumentKind$Vat" "due" "I" (.int (0 : Int32)) ∧ Fld Z h a_WAITS_NO_MORE "com/example/acompte/acompte/DocumentKind$Vat" "due" "I" (.int (0 : Int32)) ∧ Fld Z h a_FALLS_DUE_AFTER_WAITING "com/example/acompte/acompte/DocumentKind$Vat" "due" "I" (.int (1 : Int32)) ∧ Fld Z h a_WAITS_AGAIN "com/example/acompte/acompte/DocumentKind$Vat" "due" "I" (.int (-1 : Int32)) ∧ Fld Z h a_FALLS_DUE "com/example/acompte/acompte/DocumentKind$Vat" "due" "I" (.int (1 : Int32)) ∧ Fld Z h a_TAKEN_BACK "com/example/acompte/acompte/DocumentKind$Vat" "due" "I" (.int (-1 : Int32)) ∧ Arv Z h a_VALUES kV (.object "com/example/acompte/acompte/DocumentKind$Vat") (7 : Int32) [.ref a_NONE, .ref a_WAITS, .ref a_WAITS_NO_MORE, .ref a_FALLS_DUE_AFTER_WAITING, .ref a_WAITS_AGAIN, .ref a_FALLS_DUE, .ref a_TAKEN_BACK] .null
theorem Own.ext {Z : State} {h h' : Heap} {a_NONE a_WAITS a_WAITS_NO_MORE a_FALLS_DUE_AFTER_WAITING a_WAITS_AGAIN a_FALLS_DUE a_TAKEN_BACK a_VALUES : Addr} {kV : ClassId} (F : Own Z h a_NONE a_WAITS a_WAITS_NO_MORE a_FALLS_DUE_AFTER_WAITING a_WAITS_AGAIN a_FALLS_DUE a_TAKEN_BACK a_VALUES kV) (E : Ext h h') : Own Z h' a_NONE a_WAITS a_WAITS_NO_MORE a_FALLS_DUE_AFTER_WAITING a_WAITS_AGAIN a_FALLS_DUE a_TAKEN_BACK a_VALUES kV := by
  obtain ⟨S_NONE, S_WAITS, S_WAITS_NO_MORE, S_FALLS_DUE_AFTER_WAITING, S_WAITS_AGAIN, S_FALLS_DUE, S_TAKEN_BACK, S_VALUES, E_NONE, E_WAITS, E_WAITS_NO_MORE, E_FALLS_DUE_AFTER_WAITING, E_WAITS_AGAIN, E_FALLS_DUE, E_TAKEN_BACK, E_VALUES, Fw_NONE, Fw_WAITS, Fw_WAITS_NO_MORE, Fw_FALLS_DUE_AFTER_WAITING, Fw_WAITS_AGAIN, Fw_FALLS_DUE, Fw_TAKEN_BACK, Fd_NONE, Fd_WAITS, Fd_WAITS_NO_MORE, Fd_FALLS_DUE_AFTER_WAITING, Fd_WAITS_AGAIN, Fd_FALLS_DUE, Fd_TAKEN_BACK, V_VALUES⟩ := F
  exact ⟨S_NONE.ext E, S_WAITS.ext E, S_WAITS_NO_MORE.ext E, S_FALLS_DUE_AFTER_WAITING.ext E, S_WAITS_AGAIN.ext E, S_FALLS_DUE.ext E, S_TAKEN_BACK.ext E, S_VALUES.ext E, E_NONE.ext E, E_WAITS.ext E, E_WAITS_NO_MORE.ext E, E_FALLS_DUE_AFTER_WAITING.ext E, E_WAITS_AGAIN.ext E, E_FALLS_DUE.ext E, E_TAKEN_BACK.ext E, E_VALUES.ext E, Fw_NONE.ext E, Fw_WAITS.ext E, Fw_WAITS_NO_MORE.ext E, Fw_FALLS_DUE_AFTER_WAITING.ext E, Fw_WAITS_AGAIN.ext E, Fw_FALLS_DUE.ext E, Fw_TAKEN_BACK.ext E, Fd_NONE.ext E, Fd_WAITS.ext E, Fd_WAITS_NO_MORE.ext E, Fd_FALLS_DUE_AFTER_WAITING.ext E, Fd_WAITS_AGAIN.ext E, Fd_FALLS_DUE.ext E, Fd_TAKEN_BACK.ext E, V_VALUES.ext E⟩
theorem d3_0 : decode prog_12_method_1_code 0 = .ok (.getstatic 25, 3) := by decide +kernel
theorem d3_3 : decode prog_12_method_1_code 3 = .ok (.invokevirtual 29, 3) := by decide +kernel
theorem d3_6 : decode prog_12_method_1_code 6 = .ok (.checkcast 30, 3) := by decide +kernel
theorem d3_9 : decode prog_12_method_1_code 9 = .ok (.areturn, 1) := by decide +kernel
theorem pn_3 : plainName "com/example/acompte/acompte/DocumentKind$Vat" = true := by first | (simp [plainName, overriddenIn]; done) | decide +kernel
theorem pdw_0 : parseMethodDescriptor "()Ljava/lang/Object;" = some ⟨[], some (.object "java/lang/Object")⟩ := by decide +kernel
theorem ef_3 (m : MethodId)  : entryFrame m #[] 0 = mkF m 0 #[] [] := by first | (simp [entryFrame, mkF, argsToLocals, Value.category]; done) | rfl
def Q3_v (Z : State) (a_NONE a_WAITS a_WAITS_NO_MORE a_FALLS_DUE_AFTER_WAITING a_WAITS_AGAIN a_FALLS_DUE a_TAKEN_BACK a_VALUES : Addr) (kV : ClassId) (h0 : Heap) (n0 : Nat) (v : Option Value) (h : Heap) (L : List Loc) : Prop := v = some (.ref h0.size) ∧ Fr n0 L ∧ Ext h0 h ∧ Arv Z h h0.size kV (.object "com/example/acompte/acompte/DocumentKind$Vat") (7 : Int32) [.ref a_NONE, .ref a_WAITS, .ref a_WAITS_NO_MORE, .ref a_FALLS_DUE_AFTER_WAITING, .ref a_WAITS_AGAIN, .ref a_FALLS_DUE, .ref a_TAKEN_BACK] .null
set_option maxRecDepth 65536 in
set_option maxHeartbeats 40000000 in
theorem rm3_v (l : Launch) (Z : State) (a0 : Array Value) (hw : ∀ d ∈ tables_1, d.before a0 Z = true) (ws : List Jvm.Cond)  (a_NONE a_WAITS a_WAITS_NO_MORE a_FALLS_DUE_AFTER_WAITING a_WAITS_AGAIN a_FALLS_DUE a_TAKEN_BACK a_VALUES : Addr) (kV : ClassId) (h0 : Heap) (n0 : Nat) (Z0 : n0 ≤ h0.size) (WW : Own Z h0 a_NONE a_WAITS a_WAITS_NO_MORE a_FALLS_DUE_AFTER_WAITING a_WAITS_AGAIN a_FALLS_DUE a_TAKEN_BACK a_VALUES kV)  :
    MetFree l (⟨"com/example/acompte/acompte/DocumentKind$Vat", "values", "()[Lcom/example/acompte/acompte/DocumentKind$Vat;"⟩ : MethodName) (head1 (Jvm.Cond.code (⟨"com/example/acompte/acompte/DocumentKind$Vat", "values", "()[Lcom/example/acompte/acompte/DocumentKind$Vat;"⟩ : MethodName) prog_12_method_1_code 0 (some (.array (.object "com/example/acompte/acompte/DocumentKind$Vat"))) :: ws) ({ frames := 1, cells := 1, slots := 7, locals := 14 } : Room)) (fun a U => a = #[] ∧ Z.Warmed39 U.vm ∧ U.heap = h0) (fun _ _ _ _ _ => True) (fun _ U o U' => ∃ v L, o = .returned v ∧ Q3_v Z a_NONE a_WAITS a_WAITS_NO_MORE a_FALLS_DUE_AFTER_WAITING a_WAITS_AGAIN a_FALLS_DUE a_TAKEN_BACK a_VALUES kV h0 n0 v U'.heap L ∧ FrameEnd U o U' L ({ frames := 1, cells := 1, slots := 7, locals := 14 } : Room).cells ({ frames := 1, cells := 1, slots := 7, locals := 14 } : Room).slots) := by
  refine MetFree.of_bodySF (plainFor_of_name pn_3) hisR ?_
  intro p e s m args below meth c s₁ Bd hml0 hP hK
  have WW0 := WW
  obtain ⟨S_NONE, S_WAITS, S_WAITS_NO_MORE, S_FALLS_DUE_AFTER_WAITING, S_WAITS_AGAIN, S_FALLS_DUE, S_TAKEN_BACK, S_VALUES, E_NONE, E_WAITS, E_WAITS_NO_MORE, E_FALLS_DUE_AFTER_WAITING, E_WAITS_AGAIN, E_FALLS_DUE, E_TAKEN_BACK, E_VALUES, Fw_NONE, Fw_WAITS, Fw_WAITS_NO_MORE, Fw_FALLS_DUE_AFTER_WAITING, Fw_WAITS_AGAIN, Fw_FALLS_DUE, Fw_TAKEN_BACK, Fd_NONE, Fd_WAITS, Fd_WAITS_NO_MORE, Fd_FALLS_DUE_AFTER_WAITING, Fd_WAITS_AGAIN, Fd_FALLS_DUE, Fd_TAKEN_BACK, V_VALUES⟩ := WW0
  obtain ⟨rfl, hZ, hh⟩ := hP
  have hx := Bd.exec
  have hby := Bd.bytes
  have hml : c.maxLocals = 0 := hml0
  have hown : s.vm.findClass "com/example/acompte/acompte/DocumentKind$Vat" = some m.cls := findClass_of_methodNamed Bd.named
  have hnm := (name_of_methodNamed Bd.named Bd.method).1
  have X0 : Stand p l e ({ frames := 1, cells := 1, slots := 7, locals := 14 } : Room) s m #[] below meth c s₁ [] 0 0 := Stand.of_body Bd
  have e0 : s₁.heap = h0 := by rw [← hh, Bd.state]; rfl
  have N0 := Fr.nil n0
  have pre0 : ∀ t, Steps p.tables e below (s₁.setTop (mkF m 0 #[] [])) t → Steps p.tables e below (s₁.setTop (entryFrame m #[] 0)) t := fun t k => castTop (ef_3 m ) k
  -- 3. LAWS
  obtain ⟨T2, X2, e2, st2⟩ := getS2 X0 hx hZ hown (host := "") (Or.inl (hw _ (List.mem_of_getElem? (i := 16) rfl))) Via.refl e0 S_VALUES (g := (mkF m 0 #[] [])) rfl (hb hby d3_0)
  obtain ⟨T3, h3, X3, e3, Ex3, V3, Ec3, st3⟩ := cloneH X2 hx hZ hown (hw _ (List.mem_of_getElem? (i := 18) rfl)) (hw _ (List.mem_of_getElem? (i := 19) rfl)) (hw _ (List.mem_of_getElem? (i := 23) rfl)) (hw _ (List.mem_of_getElem? (i := 21) rfl)) (hw _ (List.mem_of_getElem? (i := 22) rfl)) (hw _ (List.mem_of_getElem? (i := 24) rfl)) e2 V_VALUES.arh E_VALUES (g := (mkF m 3 #[] [(.ref a_VALUES)])) rfl (by rw [hml]; rfl) (rest := []) rfl (hb hby d3_3) (by decide) (W := 0) (cap := 7) (by show 2 * 0 + _ ≤ _; exact Nat.le_of_eq rfl) (by decide) (by decide) (by decide) (by decide)
  obtain ⟨T4, X4, e4, st4⟩ := castY X3 hx hZ hown (hw _ (List.mem_of_getElem? (i := 32) rfl)) e3 (Ins.self Ec3) (g := (mkF m 6 #[] [(.ref h0.size)])) rfl rfl (hb hby d3_6)
  obtain ⟨fs, hr, hrun, hended, hW, hsame⟩ := X4.leave (v := some (.ref h0.size)) (fun h => by rw [Bd.returns] at h; cases h)
  refine ⟨_, _, pre0 _ ?_, hrun, hended, _, _, rfl, ?_, ⟨_, rfl⟩, hW, hsame.mono (by decide) (by decide)⟩
  -- 4. STEPS
  · show Steps p.tables e below (s₁.setTop (mkF m 0 #[] [])) _
    refine st2 _ ?_
    show Steps p.tables e below (T2.setTop (mkF m 3 #[] [(.ref a_VALUES)])) _
    refine st3 _ ?_
    show Steps p.tables e below (T3.setTop (mkF m 6 #[] [(.ref h0.size)])) _
    refine st4 _ ?_
    show Steps p.tables e below (T4.setTop (mkF m 9 #[] [(.ref h0.size)])) _
    jvm_step X4.here [X4.here.top, hx, (hb hby d3_9), X4.method', Bd.returns, Value.isRef, FieldType.isReference]
    first | (intro acts; rw [hr _ acts rfl rfl rfl]) | rw [hr _ _ rfl rfl rfl]
    exact Steps.refl _
  · show Q3_v Z a_NONE a_WAITS a_WAITS_NO_MORE a_FALLS_DUE_AFTER_WAITING a_WAITS_AGAIN a_FALLS_DUE a_TAKEN_BACK a_VALUES kV h0 n0 _ T4.heap _
    rw [e4]
    exact ⟨rfl, N0, Ex3, V3⟩
theorem d1_0 : decode method_2_code 0 = .ok (.iload_n 0, 1) := by decide +kernel
theorem d1_1 : decode method_2_code 1 = .ok (.ifCond .ne 7, 3) := by decide +kernel
theorem d1_4 : decode method_2_code 4 = .ok (.getstatic 7, 3) := by decide +kernel
theorem d1_7 : decode method_2_code 7 = .ok (.areturn, 1) := by decide +kernel
theorem pn_1 : plainName "com/example/acompte/acompte/VatOppositePinLaw" = true := by first | (simp [plainName, overriddenIn]; done) | decide +kernel
theorem ef_1 (m : MethodId) (x0 : Int32) : entryFrame m #[(.int x0)] 1 = mkF m 0 #[.val (.int x0)] [] := by first | (simp [entryFrame, mkF, argsToLocals, Value.category]; done) | rfl
def Q1_k0 (Z : State) (a_NONE a_WAITS a_WAITS_NO_MORE a_FALLS_DUE_AFTER_WAITING a_WAITS_AGAIN a_FALLS_DUE a_TAKEN_BACK a_VALUES : Addr) (kV : ClassId) (h0 : Heap) (n0 : Nat) (v : Option Value) (h : Heap) (L : List Loc) : Prop := v = some (.ref a_NONE) ∧ Fr n0 L ∧ h = h0
set_option maxRecDepth 65536 in
set_option maxHeartbeats 40000000 in
theorem rm1_k0 (l : Launch) (Z : State) (a0 : Array Value) (hw : ∀ d ∈ tables_1, d.before a0 Z = true) (ws : List Jvm.Cond) (p1 : Int32) (a_NONE a_WAITS a_WAITS_NO_MORE a_FALLS_DUE_AFTER_WAITING a_WAITS_AGAIN a_FALLS_DUE a_TAKEN_BACK a_VALUES : Addr) (kV : ClassId) (h0 : Heap) (n0 : Nat) (Z0 : n0 ≤ h0.size) (WW : Own Z h0 a_NONE a_WAITS a_WAITS_NO_MORE a_FALLS_DUE_AFTER_WAITING a_WAITS_AGAIN a_FALLS_DUE a_TAKEN_BACK a_VALUES kV) (hc1 : p1 = (0 : Int32)) :
    MetFree l (⟨"com/example/acompte/acompte/VatOppositePinLaw", "pick", "(I)Lcom/example/acompte/acompte/DocumentKind$Vat;"⟩ : MethodName) (head1 (Jvm.Cond.code (⟨"com/example/acompte/acompte/VatOppositePinLaw", "pick", "(I)Lcom/example/acompte/acompte/DocumentKind$Vat;"⟩ : MethodName) method_2_code 1 (some (.object "com/example/acompte/acompte/DocumentKind$Vat")) :: ws) ({ frames := 0, cells := 0, slots := 0, locals := 0 } : Room)) (fun a U => a = #[(.int p1)] ∧ Z.Warmed39 U.vm ∧ U.heap = h0) (fun _ _ _ _ _ => True) (fun _ U o U' => ∃ v L, o = .returned v ∧ Q1_k0 Z a_NONE a_WAITS a_WAITS_NO_MORE a_FALLS_DUE_AFTER_WAITING a_WAITS_AGAIN a_FALLS_DUE a_TAKEN_BACK a_VALUES kV h0 n0 v U'.heap L ∧ FrameEnd U o U' L ({ frames := 0, cells := 0, slots := 0, locals := 0 } : Room).cells ({ frames := 0, cells := 0, slots := 0, locals := 0 } : Room).slots) := by
  refine MetFree.of_bodySF (plainFor_of_name pn_1) hisR ?_
  intro p e s m args below meth c s₁ Bd hml0 hP hK
  have WW0 := WW
  obtain ⟨S_NONE, S_WAITS, S_WAITS_NO_MORE, S_FALLS_DUE_AFTER_WAITING, S_WAITS_AGAIN, S_FALLS_DUE, S_TAKEN_BACK, S_VALUES, E_NONE, E_WAITS, E_WAITS_NO_MORE, E_FALLS_DUE_AFTER_WAITING, E_WAITS_AGAIN, E_FALLS_DUE, E_TAKEN_BACK, E_VALUES, Fw_NONE, Fw_WAITS, Fw_WAITS_NO_MORE, Fw_FALLS_DUE_AFTER_WAITING, Fw_WAITS_AGAIN, Fw_FALLS_DUE, Fw_TAKEN_BACK, Fd_NONE, Fd_WAITS, Fd_WAITS_NO_MORE, Fd_FALLS_DUE_AFTER_WAITING, Fd_WAITS_AGAIN, Fd_FALLS_DUE, Fd_TAKEN_BACK, V_VALUES⟩ := WW0
  obtain ⟨rfl, hZ, hh⟩ := hP
  have hx := Bd.exec
  have hby := Bd.bytes
  have hml : c.maxLocals = 1 := hml0
  have hown : s.vm.findClass "com/example/acompte/acompte/VatOppositePinLaw" = some m.cls := findClass_of_methodNamed Bd.named
  have hnm := (name_of_methodNamed Bd.named Bd.method).1
  have X0 : Stand p l e ({ frames := 0, cells := 0, slots := 0, locals := 0 } : Room) s m #[(.int p1)] below meth c s₁ [] 0 0 := Stand.of_body Bd
  have e0 : s₁.heap = h0 := by rw [← hh, Bd.state]; rfl
  have N0 := Fr.nil n0
  have pre0 : ∀ t, Steps p.tables e below (s₁.setTop (mkF m 0 #[.val (.int p1)] [])) t → Steps p.tables e below (s₁.setTop (entryFrame m #[(.int p1)] 1)) t := fun t k => castTop (ef_1 m p1) k
  -- 3. LAWS
  obtain ⟨T3, X3, e3, st3⟩ := getS2 X0 hx hZ hown (host := "") (Or.inl (hw _ (List.mem_of_getElem? (i := 5) rfl))) Via.refl e0 S_NONE (g := (mkF m 4 #[.val (.int p1)] [])) rfl (hb hby d1_4)
  obtain ⟨fs, hr, hrun, hended, hW, hsame⟩ := X3.leave (v := some (.ref a_NONE)) (fun h => by rw [Bd.returns] at h; cases h)
  refine ⟨_, _, pre0 _ ?_, hrun, hended, _, _, rfl, ?_, ⟨_, rfl⟩, hW, hsame.mono (by decide) (by decide)⟩
  -- 4. STEPS
  · show Steps p.tables e below (s₁.setTop (mkF m 0 #[.val (.int p1)] [])) _
    refine XS.iloadN X0.here hx rfl (hb hby d1_0) rfl ?_
    show Steps p.tables e below (s₁.setTop (mkF m 1 #[.val (.int p1)] [(.int p1)])) _
    refine XS.ifNo X0.here hx rfl (hb hby d1_1) rfl ((if0 _ _).trans (teq hc1).2) ?_
    show Steps p.tables e below (s₁.setTop (mkF m 4 #[.val (.int p1)] [])) _
    refine st3 _ ?_
    show Steps p.tables e below (T3.setTop (mkF m 7 #[.val (.int p1)] [(.ref a_NONE)])) _
    jvm_step X3.here [X3.here.top, hx, (hb hby d1_7), X3.method', Bd.returns, Value.isRef, FieldType.isReference]
    first | (intro acts; rw [hr _ acts rfl rfl rfl]) | rw [hr _ _ rfl rfl rfl]
    exact Steps.refl _
  · show Q1_k0 Z a_NONE a_WAITS a_WAITS_NO_MORE a_FALLS_DUE_AFTER_WAITING a_WAITS_AGAIN a_FALLS_DUE a_TAKEN_BACK a_VALUES kV h0 n0 _ T3.heap _
    rw [e3]
    exact ⟨rfl, N0, rfl⟩
theorem d1_8 : decode method_2_code 8 = .ok (.iload_n 0, 1) := by decide +kernel
theorem d1_9 : decode method_2_code 9 = .ok (.iconst 1, 1) := by decide +kernel
theorem d1_10 : decode method_2_code 10 = .ok (.if_icmp .ne 7, 3) := by decide +kernel
theorem d1_13 : decode method_2_code 13 = .ok (.getstatic 13, 3) := by decide +kernel
theorem d1_16 : decode method_2_code 16 = .ok (.areturn, 1) := by decide +kernel
def Q1_k1 (Z : State) (a_NONE a_WAITS a_WAITS_NO_MORE a_FALLS_DUE_AFTER_WAITING a_WAITS_AGAIN a_FALLS_DUE a_TAKEN_BACK a_VALUES : Addr) (kV : ClassId) (h0 : Heap) (n0 : Nat) (v : Option Value) (h : Heap) (L : List Loc) : Prop := v = some (.ref a_WAITS) ∧ Fr n0 L ∧ h = h0
set_option maxRecDepth 65536 in
set_option maxHeartbeats 40000000 in
theorem rm1_k1 (l : Launch) (Z : State) (a0 : Array Value) (hw : ∀ d ∈ tables_1, d.before a0 Z = true) (ws : List Jvm.Cond) (p1 : Int32) (a_NONE a_WAITS a_WAITS_NO_MORE a_FALLS_DUE_AFTER_WAITING a_WAITS_AGAIN a_FALLS_DUE a_TAKEN_BACK a_VALUES : Addr) (kV : ClassId) (h0 : Heap) (n0 : Nat) (Z0 : n0 ≤ h0.size) (WW : Own Z h0 a_NONE a_WAITS a_WAITS_NO_MORE a_FALLS_DUE_AFTER_WAITING a_WAITS_AGAIN a_FALLS_DUE a_TAKEN_BACK a_VALUES kV) (hc1 : ¬ (p1 = (0 : Int32))) (hc10 : p1 = (1 : Int32)) :
    MetFree l (⟨"com/example/acompte/acompte/VatOppositePinLaw", "pick", "(I)Lcom/example/acompte/acompte/DocumentKind$Vat;"⟩ : MethodName) (head1 (Jvm.Cond.code (⟨"com/example/acompte/acompte/VatOppositePinLaw", "pick", "(I)Lcom/example/acompte/acompte/DocumentKind$Vat;"⟩ : MethodName) method_2_code 1 (some (.object "com/example/acompte/acompte/DocumentKind$Vat")) :: ws) ({ frames := 0, cells := 0, slots := 0, locals := 0 } : Room)) (fun a U => a = #[(.int p1)] ∧ Z.Warmed39 U.vm ∧ U.heap = h0) (fun _ _ _ _ _ => True) (fun _ U o U' => ∃ v L, o = .returned v ∧ Q1_k1 Z a_NONE a_WAITS a_WAITS_NO_MORE a_FALLS_DUE_AFTER_WAITING a_WAITS_AGAIN a_FALLS_DUE a_TAKEN_BACK a_VALUES kV h0 n0 v U'.heap L ∧ FrameEnd U o U' L ({ frames := 0, cells := 0, slots := 0, locals := 0 } : Room).cells ({ frames := 0, cells := 0, slots := 0, locals := 0 } : Room).slots) := by
  refine MetFree.of_bodySF (plainFor_of_name pn_1) hisR ?_
  intro p e s m args below meth c s₁ Bd hml0 hP hK
  have WW0 := WW
  obtain ⟨S_NONE, S_WAITS, S_WAITS_NO_MORE, S_FALLS_DUE_AFTER_WAITING, S_WAITS_AGAIN, S_FALLS_DUE, S_TAKEN_BACK, S_VALUES, E_NONE, E_WAITS, E_WAITS_NO_MORE, E_FALLS_DUE_AFTER_WAITING, E_WAITS_AGAIN, E_FALLS_DUE, E_TAKEN_BACK, E_VALUES, Fw_NONE, Fw_WAITS, Fw_WAITS_NO_MORE, Fw_FALLS_DUE_AFTER_WAITING, Fw_WAITS_AGAIN, Fw_FALLS_DUE, Fw_TAKEN_BACK, Fd_NONE, Fd_WAITS, Fd_WAITS_NO_MORE, Fd_FALLS_DUE_AFTER_WAITING, Fd_WAITS_AGAIN, Fd_FALLS_DUE, Fd_TAKEN_BACK, V_VALUES⟩ := WW0
  obtain ⟨rfl, hZ, hh⟩ := hP
  have hx := Bd.exec
  have hby := Bd.bytes
  have hml : c.maxLocals = 1 := hml0
  have hown : s.vm.findClass "com/example/acompte/acompte/VatOppositePinLaw" = some m.cls := findClass_of_methodNamed Bd.named
  have hnm := (name_of_methodNamed Bd.named Bd.method).1
  have X0 : Stand p l e ({ frames := 0, cells := 0, slots := 0, locals := 0 } : Room) s m #[(.int p1)] below meth c s₁ [] 0 0 := Stand.of_body Bd
  have e0 : s₁.heap = h0 := by rw [← hh, Bd.state]; rfl
  have N0 := Fr.nil n0
  have pre0 : ∀ t, Steps p.tables e below (s₁.setTop (mkF m 0 #[.val (.int p1)] [])) t → Steps p.tables e below (s₁.setTop (entryFrame m #[(.int p1)] 1)) t := fun t k => castTop (ef_1 m p1) k
  -- 3. LAWS
  obtain ⟨T3, X3, e3, st3⟩ := getS2 X0 hx hZ hown (host := "") (Or.inl (hw _ (List.mem_of_getElem? (i := 56) rfl))) Via.refl e0 S_WAITS (g := (mkF m 13 #[.val (.int p1)] [])) rfl (hb hby d1_13)
  obtain ⟨fs, hr, hrun, hended, hW, hsame⟩ := X3.leave (v := some (.ref a_WAITS)) (fun h => by rw [Bd.returns] at h; cases h)
  refine ⟨_, _, pre0 _ ?_, hrun, hended, _, _, rfl, ?_, ⟨_, rfl⟩, hW, hsame.mono (by decide) (by decide)⟩
  -- 4. STEPS
  · show Steps p.tables e below (s₁.setTop (mkF m 0 #[.val (.int p1)] [])) _
    refine XS.iloadN X0.here hx rfl (hb hby d1_0) rfl ?_
    show Steps p.tables e below (s₁.setTop (mkF m 1 #[.val (.int p1)] [(.int p1)])) _
    refine XS.ifYes X0.here hx rfl (pc0 := 1) (pc' := 8) rfl (hb hby d1_1) rfl ((if0 _ _).trans (feq hc1).2) (by decide) (by decide) ?_
    show Steps p.tables e below (s₁.setTop (mkF m 8 #[.val (.int p1)] [])) _
    refine XS.iloadN X0.here hx rfl (hb hby d1_8) rfl ?_
    show Steps p.tables e below (s₁.setTop (mkF m 9 #[.val (.int p1)] [(.int p1)])) _
    refine XS.iconst X0.here hx rfl (hb hby d1_9) ?_
    show Steps p.tables e below (s₁.setTop (mkF m 10 #[.val (.int p1)] [(.int (1 : Int32)), (.int p1)])) _
    refine XS.icmpNo X0.here hx rfl (hb hby d1_10) rfl (teq hc10).2 ?_
    show Steps p.tables e below (s₁.setTop (mkF m 13 #[.val (.int p1)] [])) _
    refine st3 _ ?_
    show Steps p.tables e below (T3.setTop (mkF m 16 #[.val (.int p1)] [(.ref a_WAITS)])) _
    jvm_step X3.here [X3.here.top, hx, (hb hby d1_16), X3.method', Bd.returns, Value.isRef, FieldType.isReference]
    first | (intro acts; rw [hr _ acts rfl rfl rfl]) | rw [hr _ _ rfl rfl rfl]
    exact Steps.refl _
  · show Q1_k1 Z a_NONE a_WAITS a_WAITS_NO_MORE a_FALLS_DUE_AFTER_WAITING a_WAITS_AGAIN a_FALLS_DUE a_TAKEN_BACK a_VALUES kV h0 n0 _ T3.heap _
    rw [e3]
    exact ⟨rfl, N0, rfl⟩
theorem d1_17 : decode method_2_code 17 = .ok (.iload_n 0, 1) := by decide +kernel
theorem d1_18 : decode method_2_code 18 = .ok (.iconst 2, 1) := by decide +kernel
theorem d1_19 : decode method_2_code 19 = .ok (.if_icmp .ne 7, 3) := by decide +kernel
theorem d1_22 : decode method_2_code 22 = .ok (.getstatic 16, 3) := by decide +kernel
theorem d1_25 : decode method_2_code 25 = .ok (.areturn, 1) := by decide +kernel
def Q1_k2 (Z : State) (a_NONE a_WAITS a_WAITS_NO_MORE a_FALLS_DUE_AFTER_WAITING a_WAITS_AGAIN a_FALLS_DUE a_TAKEN_BACK a_VALUES : Addr) (kV : ClassId) (h0 : Heap) (n0 : Nat) (v : Option Value) (h : Heap) (L : List Loc) : Prop := v = some (.ref a_WAITS_NO_MORE) ∧ Fr n0 L ∧ h = h0
set_option maxRecDepth 65536 in
set_option maxHeartbeats 40000000 in
theorem rm1_k2 (l : Launch) (Z : State) (a0 : Array Value) (hw : ∀ d ∈ tables_1, d.before a0 Z = true) (ws : List Jvm.Cond) (p1 : Int32) (a_NONE a_WAITS a_WAITS_NO_MORE a_FALLS_DUE_AFTER_WAITING a_WAITS_AGAIN a_FALLS_DUE a_TAKEN_BACK a_VALUES : Addr) (kV : ClassId) (h0 : Heap) (n0 : Nat) (Z0 : n0 ≤ h0.size) (WW : Own Z h0 a_NONE a_WAITS a_WAITS_NO_MORE a_FALLS_DUE_AFTER_WAITING a_WAITS_AGAIN a_FALLS_DUE a_TAKEN_BACK a_VALUES kV) (hc1 : ¬ (p1 = (0 : Int32))) (hc10 : ¬ (p1 = (1 : Int32))) (hc19 : p1 = (2 : Int32)) :
    MetFree l (⟨"com/example/acompte/acompte/VatOppositePinLaw", "pick", "(I)Lcom/example/acompte/acompte/DocumentKind$Vat;"⟩ : MethodName) (head1 (Jvm.Cond.code (⟨"com/example/acompte/acompte/VatOppositePinLaw", "pick", "(I)Lcom/example/acompte/acompte/DocumentKind$Vat;"⟩ : MethodName) method_2_code 1 (some (.object "com/example/acompte/acompte/DocumentKind$Vat")) :: ws) ({ frames := 0, cells := 0, slots := 0, locals := 0 } : Room)) (fun a U => a = #[(.int p1)] ∧ Z.Warmed39 U.vm ∧ U.heap = h0) (fun _ _ _ _ _ => True) (fun _ U o U' => ∃ v L, o = .returned v ∧ Q1_k2 Z a_NONE a_WAITS a_WAITS_NO_MORE a_FALLS_DUE_AFTER_WAITING a_WAITS_AGAIN a_FALLS_DUE a_TAKEN_BACK a_VALUES kV h0 n0 v U'.heap L ∧ FrameEnd U o U' L ({ frames := 0, cells := 0, slots := 0, locals := 0 } : Room).cells ({ frames := 0, cells := 0, slots := 0, locals := 0 } : Room).slots) := by
  refine MetFree.of_bodySF (plainFor_of_name pn_1) hisR ?_
  intro p e s m args below meth c s₁ Bd hml0 hP hK
  have WW0 := WW
  obtain ⟨S_NONE, S_WAITS, S_WAITS_NO_MORE, S_FALLS_DUE_AFTER_WAITING, S_WAITS_AGAIN, S_FALLS_DUE, S_TAKEN_BACK, S_VALUES, E_NONE, E_WAITS, E_WAITS_NO_MORE, E_FALLS_DUE_AFTER_WAITING, E_WAITS_AGAIN, E_FALLS_DUE, E_TAKEN_BACK, E_VALUES, Fw_NONE, Fw_WAITS, Fw_WAITS_NO_MORE, Fw_FALLS_DUE_AFTER_WAITING, Fw_WAITS_AGAIN, Fw_FALLS_DUE, Fw_TAKEN_BACK, Fd_NONE, Fd_WAITS, Fd_WAITS_NO_MORE, Fd_FALLS_DUE_AFTER_WAITING, Fd_WAITS_AGAIN, Fd_FALLS_DUE, Fd_TAKEN_BACK, V_VALUES⟩ := WW0
  obtain ⟨rfl, hZ, hh⟩ := hP
  have hx := Bd.exec
  have hby := Bd.bytes
  have hml : c.maxLocals = 1 := hml0
  have hown : s.vm.findClass "com/example/acompte/acompte/VatOppositePinLaw" = some m.cls := findClass_of_methodNamed Bd.named
  have hnm := (name_of_methodNamed Bd.named Bd.method).1
  have X0 : Stand p l e ({ frames := 0, cells := 0, slots := 0, locals := 0 } : Room) s m #[(.int p1)] below meth c s₁ [] 0 0 := Stand.of_body Bd
  have e0 : s₁.heap = h0 := by rw [← hh, Bd.state]; rfl
  have N0 := Fr.nil n0
  have pre0 : ∀ t, Steps p.tables e below (s₁.setTop (mkF m 0 #[.val (.int p1)] [])) t → Steps p.tables e below (s₁.setTop (entryFrame m #[(.int p1)] 1)) t := fun t k => castTop (ef_1 m p1) k
  -- 3. LAWS
  obtain ⟨T3, X3, e3, st3⟩ := getS2 X0 hx hZ hown (host := "") (Or.inl (hw _ (List.mem_of_getElem? (i := 55) rfl))) Via.refl e0 S_WAITS_NO_MORE (g := (mkF m 22 #[.val (.int p1)] [])) rfl (hb hby d1_22)
  obtain ⟨fs, hr, hrun, hended, hW, hsame⟩ := X3.leave (v := some (.ref a_WAITS_NO_MORE)) (fun h => by rw [Bd.returns] at h; cases h)
  refine ⟨_, _, pre0 _ ?_, hrun, hended, _, _, rfl, ?_, ⟨_, rfl⟩, hW, hsame.mono (by decide) (by decide)⟩
  -- 4. STEPS
  · show Steps p.tables e below (s₁.setTop (mkF m 0 #[.val (.int p1)] [])) _
    refine XS.iloadN X0.here hx rfl (hb hby d1_0) rfl ?_
    show Steps p.tables e below (s₁.setTop (mkF m 1 #[.val (.int p1)] [(.int p1)])) _
    refine XS.ifYes X0.here hx rfl (pc0 := 1) (pc' := 8) rfl (hb hby d1_1) rfl ((if0 _ _).trans (feq hc1).2) (by decide) (by decide) ?_
    show Steps p.tables e below (s₁.setTop (mkF m 8 #[.val (.int p1)] [])) _
    refine XS.iloadN X0.here hx rfl (hb hby d1_8) rfl ?_
    show Steps p.tables e below (s₁.setTop (mkF m 9 #[.val (.int p1)] [(.int p1)])) _
    refine XS.iconst X0.here hx rfl (hb hby d1_9) ?_
    show Steps p.tables e below (s₁.setTop (mkF m 10 #[.val (.int p1)] [(.int (1 : Int32)), (.int p1)])) _
    refine XS.icmpYes X0.here hx rfl (pc0 := 10) (pc' := 17) rfl (hb hby d1_10) rfl (feq hc10).2 (by decide) (by decide) ?_
    show Steps p.tables e below (s₁.setTop (mkF m 17 #[.val (.int p1)] [])) _
    refine XS.iloadN X0.here hx rfl (hb hby d1_17) rfl ?_
    show Steps p.tables e below (s₁.setTop (mkF m 18 #[.val (.int p1)] [(.int p1)])) _
    refine XS.iconst X0.here hx rfl (hb hby d1_18) ?_
    show Steps p.tables e below (s₁.setTop (mkF m 19 #[.val (.int p1)] [(.int (2 : Int32)), (.int p1)])) _
    refine XS.icmpNo X0.here hx rfl (hb hby d1_19) rfl (teq hc19).2 ?_
    show Steps p.tables e below (s₁.setTop (mkF m 22 #[.val (.int p1)] [])) _
    refine st3 _ ?_
    show Steps p.tables e below (T3.setTop (mkF m 25 #[.val (.int p1)] [(.ref a_WAITS_NO_MORE)])) _
    jvm_step X3.here [X3.here.top, hx, (hb hby d1_25), X3.method', Bd.returns, Value.isRef, FieldType.isReference]
    first | (intro acts; rw [hr _ acts rfl rfl rfl]) | rw [hr _ _ rfl rfl rfl]
    exact Steps.refl _
  · show Q1_k2 Z a_NONE a_WAITS a_WAITS_NO_MORE a_FALLS_DUE_AFTER_WAITING a_WAITS_AGAIN a_FALLS_DUE a_TAKEN_BACK a_VALUES kV h0 n0 _ T3.heap _
    rw [e3]
    exact ⟨rfl, N0, rfl⟩
theorem d1_26 : decode method_2_code 26 = .ok (.iload_n 0, 1) := by decide +kernel
theorem d1_27 : decode method_2_code 27 = .ok (.iconst 3, 1) := by decide +kernel
theorem d1_28 : decode method_2_code 28 = .ok (.if_icmp .ne 7, 3) := by decide +kernel
theorem d1_31 : decode method_2_code 31 = .ok (.getstatic 19, 3) := by decide +kernel
theorem d1_34 : decode method_2_code 34 = .ok (.areturn, 1) := by decide +kernel
def Q1_k3 (Z : State) (a_NONE a_WAITS a_WAITS_NO_MORE a_FALLS_DUE_AFTER_WAITING a_WAITS_AGAIN a_FALLS_DUE a_TAKEN_BACK a_VALUES : Addr) (kV : ClassId) (h0 : Heap) (n0 : Nat) (v : Option Value) (h : Heap) (L : List Loc) : Prop := v = some (.ref a_FALLS_DUE_AFTER_WAITING) ∧ Fr n0 L ∧ h = h0
set_option maxRecDepth 65536 in
set_option maxHeartbeats 40000000 in
theorem rm1_k3 (l : Launch) (Z : State) (a0 : Array Value) (hw : ∀ d ∈ tables_1, d.before a0 Z = true) (ws : List Jvm.Cond) (p1 : Int32) (a_NONE a_WAITS a_WAITS_NO_MORE a_FALLS_DUE_AFTER_WAITING a_WAITS_AGAIN a_FALLS_DUE a_TAKEN_BACK a_VALUES : Addr) (kV : ClassId) (h0 : Heap) (n0 : Nat) (Z0 : n0 ≤ h0.size) (WW : Own Z h0 a_NONE a_WAITS a_WAITS_NO_MORE a_FALLS_DUE_AFTER_WAITING a_WAITS_AGAIN a_FALLS_DUE a_TAKEN_BACK a_VALUES kV) (hc1 : ¬ (p1 = (0 : Int32))) (hc10 : ¬ (p1 = (1 : Int32))) (hc19 : ¬ (p1 = (2 : Int32))) (hc28 : p1 = (3 : Int32)) :
    MetFree l (⟨"com/example/acompte/acompte/VatOppositePinLaw", "pick", "(I)Lcom/example/acompte/acompte/DocumentKind$Vat;"⟩ : MethodName) (head1 (Jvm.Cond.code (⟨"com/example/acompte/acompte/VatOppositePinLaw", "pick", "(I)Lcom/example/acompte/acompte/DocumentKind$Vat;"⟩ : MethodName) method_2_code 1 (some (.object "com/example/acompte/acompte/DocumentKind$Vat")) :: ws) ({ frames := 0, cells := 0, slots := 0, locals := 0 } : Room)) (fun a U => a = #[(.int p1)] ∧ Z.Warmed39 U.vm ∧ U.heap = h0) (fun _ _ _ _ _ => True) (fun _ U o U' => ∃ v L, o = .returned v ∧ Q1_k3 Z a_NONE a_WAITS a_WAITS_NO_MORE a_FALLS_DUE_AFTER_WAITING a_WAITS_AGAIN a_FALLS_DUE a_TAKEN_BACK a_VALUES kV h0 n0 v U'.heap L ∧ FrameEnd U o U' L ({ frames := 0, cells := 0, slots := 0, locals := 0 } : Room).cells ({ frames := 0, cells := 0, slots := 0, locals := 0 } : Room).slots) := by
  refine MetFree.of_bodySF (plainFor_of_name pn_1) hisR ?_
  intro p e s m args below meth c s₁ Bd hml0 hP hK
  have WW0 := WW
  obtain ⟨S_NONE, S_WAITS, S_WAITS_NO_MORE, S_FALLS_DUE_AFTER_WAITING, S_WAITS_AGAIN, S_FALLS_DUE, S_TAKEN_BACK, S_VALUES, E_NONE, E_WAITS, E_WAITS_NO_MORE, E_FALLS_DUE_AFTER_WAITING, E_WAITS_AGAIN, E_FALLS_DUE, E_TAKEN_BACK, E_VALUES, Fw_NONE, Fw_WAITS, Fw_WAITS_NO_MORE, Fw_FALLS_DUE_AFTER_WAITING, Fw_WAITS_AGAIN, Fw_FALLS_DUE, Fw_TAKEN_BACK, Fd_NONE, Fd_WAITS, Fd_WAITS_NO_MORE, Fd_FALLS_DUE_AFTER_WAITING, Fd_WAITS_AGAIN, Fd_FALLS_DUE, Fd_TAKEN_BACK, V_VALUES⟩ := WW0
  obtain ⟨rfl, hZ, hh⟩ := hP
  have hx := Bd.exec
  have hby := Bd.bytes
  have hml : c.maxLocals = 1 := hml0
  have hown : s.vm.findClass "com/example/acompte/acompte/VatOppositePinLaw" = some m.cls := findClass_of_methodNamed Bd.named
  have hnm := (name_of_methodNamed Bd.named Bd.method).1
  have X0 : Stand p l e ({ frames := 0, cells := 0, slots := 0, locals := 0 } : Room) s m #[(.int p1)] below meth c s₁ [] 0 0 := Stand.of_body Bd
  have e0 : s₁.heap = h0 := by rw [← hh, Bd.state]; rfl
  have N0 := Fr.nil n0
  have pre0 : ∀ t, Steps p.tables e below (s₁.setTop (mkF m 0 #[.val (.int p1)] [])) t → Steps p.tables e below (s₁.setTop (entryFrame m #[(.int p1)] 1)) t := fun t k => castTop (ef_1 m p1) k
  -- 3. LAWS
  obtain ⟨T3, X3, e3, st3⟩ := getS2 X0 hx hZ hown (host := "") (Or.inl (hw _ (List.mem_of_getElem? (i := 51) rfl))) Via.refl e0 S_FALLS_DUE_AFTER_WAITING (g := (mkF m 31 #[.val (.int p1)] [])) rfl (hb hby d1_31)
  obtain ⟨fs, hr, hrun, hended, hW, hsame⟩ := X3.leave (v := some (.ref a_FALLS_DUE_AFTER_WAITING)) (fun h => by rw [Bd.returns] at h; cases h)
  refine ⟨_, _, pre0 _ ?_, hrun, hended, _, _, rfl, ?_, ⟨_, rfl⟩, hW, hsame.mono (by decide) (by decide)⟩
  -- 4. STEPS
  · show Steps p.tables e below (s₁.setTop (mkF m 0 #[.val (.int p1)] [])) _
    refine XS.iloadN X0.here hx rfl (hb hby d1_0) rfl ?_
    show Steps p.tables e below (s₁.setTop (mkF m 1 #[.val (.int p1)] [(.int p1)])) _
    refine XS.ifYes X0.here hx rfl (pc0 := 1) (pc' := 8) rfl (hb hby d1_1) rfl ((if0 _ _).trans (feq hc1).2) (by decide) (by decide) ?_
    show Steps p.tables e below (s₁.setTop (mkF m 8 #[.val (.int p1)] [])) _
    refine XS.iloadN X0.here hx rfl (hb hby d1_8) rfl ?_
    show Steps p.tables e below (s₁.setTop (mkF m 9 #[.val (.int p1)] [(.int p1)])) _
    refine XS.iconst X0.here hx rfl (hb hby d1_9) ?_
    show Steps p.tables e below (s₁.setTop (mkF m 10 #[.val (.int p1)] [(.int (1 : Int32)), (.int p1)])) _
    refine XS.icmpYes X0.here hx rfl (pc0 := 10) (pc' := 17) rfl (hb hby d1_10) rfl (feq hc10).2 (by decide) (by decide) ?_
    show Steps p.tables e below (s₁.setTop (mkF m 17 #[.val (.int p1)] [])) _
    refine XS.iloadN X0.here hx rfl (hb hby d1_17) rfl ?_
    show Steps p.tables e below (s₁.setTop (mkF m 18 #[.val (.int p1)] [(.int p1)])) _
    refine XS.iconst X0.here hx rfl (hb hby d1_18) ?_
    show Steps p.tables e below (s₁.setTop (mkF m 19 #[.val (.int p1)] [(.int (2 : Int32)), (.int p1)])) _
    refine XS.icmpYes X0.here hx rfl (pc0 := 19) (pc' := 26) rfl (hb hby d1_19) rfl (feq hc19).2 (by decide) (by decide) ?_
    show Steps p.tables e below (s₁.setTop (mkF m 26 #[.val (.int p1)] [])) _
    refine XS.iloadN X0.here hx rfl (hb hby d1_26) rfl ?_
    show Steps p.tables e below (s₁.setTop (mkF m 27 #[.val (.int p1)] [(.int p1)])) _
    refine XS.iconst X0.here hx rfl (hb hby d1_27) ?_
    show Steps p.tables e below (s₁.setTop (mkF m 28 #[.val (.int p1)] [(.int (3 : Int32)), (.int p1)])) _
    refine XS.icmpNo X0.here hx rfl (hb hby d1_28) rfl (teq hc28).2 ?_
    show Steps p.tables e below (s₁.setTop (mkF m 31 #[.val (.int p1)] [])) _
    refine st3 _ ?_
    show Steps p.tables e below (T3.setTop (mkF m 34 #[.val (.int p1)] [(.ref a_FALLS_DUE_AFTER_WAITING)])) _
    jvm_step X3.here [X3.here.top, hx, (hb hby d1_34), X3.method', Bd.returns, Value.isRef, FieldType.isReference]
    first | (intro acts; rw [hr _ acts rfl rfl rfl]) | rw [hr _ _ rfl rfl rfl]
    exact Steps.refl _
  · show Q1_k3 Z a_NONE a_WAITS a_WAITS_NO_MORE a_FALLS_DUE_AFTER_WAITING a_WAITS_AGAIN a_FALLS_DUE a_TAKEN_BACK a_VALUES kV h0 n0 _ T3.heap _
    rw [e3]
    exact ⟨rfl, N0, rfl⟩
theorem d1_35 : decode method_2_code 35 = .ok (.iload_n 0, 1) := by decide +kernel
theorem d1_36 : decode method_2_code 36 = .ok (.iconst 4, 1) := by decide +kernel
theorem d1_37 : decode method_2_code 37 = .ok (.if_icmp .ne 7, 3) := by decide +kernel
theorem d1_40 : decode method_2_code 40 = .ok (.getstatic 22, 3) := by decide +kernel
theorem d1_43 : decode method_2_code 43 = .ok (.areturn, 1) := by decide +kernel
def Q1_k4 (Z : State) (a_NONE a_WAITS a_WAITS_NO_MORE a_FALLS_DUE_AFTER_WAITING a_WAITS_AGAIN a_FALLS_DUE a_TAKEN_BACK a_VALUES : Addr) (kV : ClassId) (h0 : Heap) (n0 : Nat) (v : Option Value) (h : Heap) (L : List Loc) : Prop := v = some (.ref a_WAITS_AGAIN) ∧ Fr n0 L ∧ h = h0
set_option maxRecDepth 65536 in
set_option maxHeartbeats 40000000 in
theorem rm1_k4 (l : Launch) (Z : State) (a0 : Array Value) (hw : ∀ d ∈ tables_1, d.before a0 Z = true) (ws : List Jvm.Cond) (p1 : Int32) (a_NONE a_WAITS a_WAITS_NO_MORE a_FALLS_DUE_AFTER_WAITING a_WAITS_AGAIN a_FALLS_DUE a_TAKEN_BACK a_VALUES : Addr) (kV : ClassId) (h0 : Heap) (n0 : Nat) (Z0 : n0 ≤ h0.size) (WW : Own Z h0 a_NONE a_WAITS a_WAITS_NO_MORE a_FALLS_DUE_AFTER_WAITING a_WAITS_AGAIN a_FALLS_DUE a_TAKEN_BACK a_VALUES kV) (hc1 : ¬ (p1 = (0 : Int32))) (hc10 : ¬ (p1 = (1 : Int32))) (hc19 : ¬ (p1 = (2 : Int32))) (hc28 : ¬ (p1 = (3 : Int32))) (hc37 : p1 = (4 : Int32)) :
    MetFree l (⟨"com/example/acompte/acompte/VatOppositePinLaw", "pick", "(I)Lcom/example/acompte/acompte/DocumentKind$Vat;"⟩ : MethodName) (head1 (Jvm.Cond.code (⟨"com/example/acompte/acompte/VatOppositePinLaw", "pick", "(I)Lcom/example/acompte/acompte/DocumentKind$Vat;"⟩ : MethodName) method_2_code 1 (some (.object "com/example/acompte/acompte/DocumentKind$Vat")) :: ws) ({ frames := 0, cells := 0, slots := 0, locals := 0 } : Room)) (fun a U => a = #[(.int p1)] ∧ Z.Warmed39 U.vm ∧ U.heap = h0) (fun _ _ _ _ _ => True) (fun _ U o U' => ∃ v L, o = .returned v ∧ Q1_k4 Z a_NONE a_WAITS a_WAITS_NO_MORE a_FALLS_DUE_AFTER_WAITING a_WAITS_AGAIN a_FALLS_DUE a_TAKEN_BACK a_VALUES kV h0 n0 v U'.heap L ∧ FrameEnd U o U' L ({ frames := 0, cells := 0, slots := 0, locals := 0 } : Room).cells ({ frames := 0, cells := 0, slots := 0, locals := 0 } : Room).slots) := by
  refine MetFree.of_bodySF (plainFor_of_name pn_1) hisR ?_
  intro p e s m args below meth c s₁ Bd hml0 hP hK
  have WW0 := WW
  obtain ⟨S_NONE, S_WAITS, S_WAITS_NO_MORE, S_FALLS_DUE_AFTER_WAITING, S_WAITS_AGAIN, S_FALLS_DUE, S_TAKEN_BACK, S_VALUES, E_NONE, E_WAITS, E_WAITS_NO_MORE, E_FALLS_DUE_AFTER_WAITING, E_WAITS_AGAIN, E_FALLS_DUE, E_TAKEN_BACK, E_VALUES, Fw_NONE, Fw_WAITS, Fw_WAITS_NO_MORE, Fw_FALLS_DUE_AFTER_WAITING, Fw_WAITS_AGAIN, Fw_FALLS_DUE, Fw_TAKEN_BACK, Fd_NONE, Fd_WAITS, Fd_WAITS_NO_MORE, Fd_FALLS_DUE_AFTER_WAITING, Fd_WAITS_AGAIN, Fd_FALLS_DUE, Fd_TAKEN_BACK, V_VALUES⟩ := WW0
  obtain ⟨rfl, hZ, hh⟩ := hP
  have hx := Bd.exec
  have hby := Bd.bytes
  have hml : c.maxLocals = 1 := hml0
  have hown : s.vm.findClass "com/example/acompte/acompte/VatOppositePinLaw" = some m.cls := findClass_of_methodNamed Bd.named
  have hnm := (name_of_methodNamed Bd.named Bd.method).1
  have X0 : Stand p l e ({ frames := 0, cells := 0, slots := 0, locals := 0 } : Room) s m #[(.int p1)] below meth c s₁ [] 0 0 := Stand.of_body Bd
  have e0 : s₁.heap = h0 := by rw [← hh, Bd.state]; rfl
  have N0 := Fr.nil n0
  have pre0 : ∀ t, Steps p.tables e below (s₁.setTop (mkF m 0 #[.val (.int p1)] [])) t → Steps p.tables e below (s₁.setTop (entryFrame m #[(.int p1)] 1)) t := fun t k => castTop (ef_1 m p1) k
  -- 3. LAWS
  obtain ⟨T3, X3, e3, st3⟩ := getS2 X0 hx hZ hown (host := "") (Or.inl (hw _ (List.mem_of_getElem? (i := 52) rfl))) Via.refl e0 S_WAITS_AGAIN (g := (mkF m 40 #[.val (.int p1)] [])) rfl (hb hby d1_40)
  obtain ⟨fs, hr, hrun, hended, hW, hsame⟩ := X3.leave (v := some (.ref a_WAITS_AGAIN)) (fun h => by rw [Bd.returns] at h; cases h)
  refine ⟨_, _, pre0 _ ?_, hrun, hended, _, _, rfl, ?_, ⟨_, rfl⟩, hW, hsame.mono (by decide) (by decide)⟩
  -- 4. STEPS
  · show Steps p.tables e below (s₁.setTop (mkF m 0 #[.val (.int p1)] [])) _
    refine XS.iloadN X0.here hx rfl (hb hby d1_0) rfl ?_
    show Steps p.tables e below (s₁.setTop (mkF m 1 #[.val (.int p1)] [(.int p1)])) _
    refine XS.ifYes X0.here hx rfl (pc0 := 1) (pc' := 8) rfl (hb hby d1_1) rfl ((if0 _ _).trans (feq hc1).2) (by decide) (by decide) ?_
    show Steps p.tables e below (s₁.setTop (mkF m 8 #[.val (.int p1)] [])) _
    refine XS.iloadN X0.here hx rfl (hb hby d1_8) rfl ?_
    show Steps p.tables e below (s₁.setTop (mkF m 9 #[.val (.int p1)] [(.int p1)])) _
    refine XS.iconst X0.here hx rfl (hb hby d1_9) ?_
    show Steps p.tables e below (s₁.setTop (mkF m 10 #[.val (.int p1)] [(.int (1 : Int32)), (.int p1)])) _
    refine XS.icmpYes X0.here hx rfl (pc0 := 10) (pc' := 17) rfl (hb hby d1_10) rfl (feq hc10).2 (by decide) (by decide) ?_
    show Steps p.tables e below (s₁.setTop (mkF m 17 #[.val (.int p1)] [])) _
    refine XS.iloadN X0.here hx rfl (hb hby d1_17) rfl ?_
    show Steps p.tables e below (s₁.setTop (mkF m 18 #[.val (.int p1)] [(.int p1)])) _
    refine XS.iconst X0.here hx rfl (hb hby d1_18) ?_
    show Steps p.tables e below (s₁.setTop (mkF m 19 #[.val (.int p1)] [(.int (2 : Int32)), (.int p1)])) _
    refine XS.icmpYes X0.here hx rfl (pc0 := 19) (pc' := 26) rfl (hb hby d1_19) rfl (feq hc19).2 (by decide) (by decide) ?_
    show Steps p.tables e below (s₁.setTop (mkF m 26 #[.val (.int p1)] [])) _
    refine XS.iloadN X0.here hx rfl (hb hby d1_26) rfl ?_
    show Steps p.tables e below (s₁.setTop (mkF m 27 #[.val (.int p1)] [(.int p1)])) _
    refine XS.iconst X0.here hx rfl (hb hby d1_27) ?_
    show Steps p.tables e below (s₁.setTop (mkF m 28 #[.val (.int p1)] [(.int (3 : Int32)), (.int p1)])) _
    refine XS.icmpYes X0.here hx rfl (pc0 := 28) (pc' := 35) rfl (hb hby d1_28) rfl (feq hc28).2 (by decide) (by decide) ?_
    show Steps p.tables e below (s₁.setTop (mkF m 35 #[.val (.int p1)] [])) _
    refine XS.iloadN X0.here hx rfl (hb hby d1_35) rfl ?_
    show Steps p.tables e below (s₁.setTop (mkF m 36 #[.val (.int p1)] [(.int p1)])) _
    refine XS.iconst X0.here hx rfl (hb hby d1_36) ?_
    show Steps p.tables e below (s₁.setTop (mkF m 37 #[.val (.int p1)] [(.int (4 : Int32)), (.int p1)])) _
    refine XS.icmpNo X0.here hx rfl (hb hby d1_37) rfl (teq hc37).2 ?_
    show Steps p.tables e below (s₁.setTop (mkF m 40 #[.val (.int p1)] [])) _
    refine st3 _ ?_
    show Steps p.tables e below (T3.setTop (mkF m 43 #[.val (.int p1)] [(.ref a_WAITS_AGAIN)])) _
    jvm_step X3.here [X3.here.top, hx, (hb hby d1_43), X3.method', Bd.returns, Value.isRef, FieldType.isReference]
    first | (intro acts; rw [hr _ acts rfl rfl rfl]) | rw [hr _ _ rfl rfl rfl]
    exact Steps.refl _
  · show Q1_k4 Z a_NONE a_WAITS a_WAITS_NO_MORE a_FALLS_DUE_AFTER_WAITING a_WAITS_AGAIN a_FALLS_DUE a_TAKEN_BACK a_VALUES kV h0 n0 _ T3.heap _
    rw [e3]
    exact ⟨rfl, N0, rfl⟩
theorem d1_44 : decode method_2_code 44 = .ok (.iload_n 0, 1) := by decide +kernel
theorem d1_45 : decode method_2_code 45 = .ok (.iconst 5, 1) := by decide +kernel
theorem d1_46 : decode method_2_code 46 = .ok (.if_icmp .ne 7, 3) := by decide +kernel
theorem d1_49 : decode method_2_code 49 = .ok (.getstatic 25, 3) := by decide +kernel
theorem d1_52 : decode method_2_code 52 = .ok (.areturn, 1) := by decide +kernel
def Q1_k5 (Z : State) (a_NONE a_WAITS a_WAITS_NO_MORE a_FALLS_DUE_AFTER_WAITING a_WAITS_AGAIN a_FALLS_DUE a_TAKEN_BACK a_VALUES : Addr) (kV : ClassId) (h0 : Heap) (n0 : Nat) (v : Option Value) (h : Heap) (L : List Loc) : Prop := v = some (.ref a_FALLS_DUE) ∧ Fr n0 L ∧ h = h0
set_option maxRecDepth 65536 in
set_option maxHeartbeats 40000000 in
theorem rm1_k5 (l : Launch) (Z : State) (a0 : Array Value) (hw : ∀ d ∈ tables_1, d.before a0 Z = true) (ws : List Jvm.Cond) (p1 : Int32) (a_NONE a_WAITS a_WAITS_NO_MORE a_FALLS_DUE_AFTER_WAITING a_WAITS_AGAIN a_FALLS_DUE a_TAKEN_BACK a_VALUES : Addr) (kV : ClassId) (h0 : Heap) (n0 : Nat) (Z0 : n0 ≤ h0.size) (WW : Own Z h0 a_NONE a_WAITS a_WAITS_NO_MORE a_FALLS_DUE_AFTER_WAITING a_WAITS_AGAIN a_FALLS_DUE a_TAKEN_BACK a_VALUES kV) (hc1 : ¬ (p1 = (0 : Int32))) (hc10 : ¬ (p1 = (1 : Int32))) (hc19 : ¬ (p1 = (2 : Int32))) (hc28 : ¬ (p1 = (3 : Int32))) (hc37 : ¬ (p1 = (4 : Int32))) (hc46 : p1 = (5 : Int32)) :
    MetFree l (⟨"com/example/acompte/acompte/VatOppositePinLaw", "pick", "(I)Lcom/example/acompte/acompte/DocumentKind$Vat;"⟩ : MethodName) (head1 (Jvm.Cond.code (⟨"com/example/acompte/acompte/VatOppositePinLaw", "pick", "(I)Lcom/example/acompte/acompte/DocumentKind$Vat;"⟩ : MethodName) method_2_code 1 (some (.object "com/example/acompte/acompte/DocumentKind$Vat")) :: ws) ({ frames := 0, cells := 0, slots := 0, locals := 0 } : Room)) (fun a U => a = #[(.int p1)] ∧ Z.Warmed39 U.vm ∧ U.heap = h0) (fun _ _ _ _ _ => True) (fun _ U o U' => ∃ v L, o = .returned v ∧ Q1_k5 Z a_NONE a_WAITS a_WAITS_NO_MORE a_FALLS_DUE_AFTER_WAITING a_WAITS_AGAIN a_FALLS_DUE a_TAKEN_BACK a_VALUES kV h0 n0 v U'.heap L ∧ FrameEnd U o U' L ({ frames := 0, cells := 0, slots := 0, locals := 0 } : Room).cells ({ frames := 0, cells := 0, slots := 0, locals := 0 } : Room).slots) := by
  refine MetFree.of_bodySF (plainFor_of_name pn_1) hisR ?_
  intro p e s m args below meth c s₁ Bd hml0 hP hK
  have WW0 := WW
  obtain ⟨S_NONE, S_WAITS, S_WAITS_NO_MORE, S_FALLS_DUE_AFTER_WAITING, S_WAITS_AGAIN, S_FALLS_DUE, S_TAKEN_BACK, S_VALUES, E_NONE, E_WAITS, E_WAITS_NO_MORE, E_FALLS_DUE_AFTER_WAITING, E_WAITS_AGAIN, E_FALLS_DUE, E_TAKEN_BACK, E_VALUES, Fw_NONE, Fw_WAITS, Fw_WAITS_NO_MORE, Fw_FALLS_DUE_AFTER_WAITING, Fw_WAITS_AGAIN, Fw_FALLS_DUE, Fw_TAKEN_BACK, Fd_NONE, Fd_WAITS, Fd_WAITS_NO_MORE, Fd_FALLS_DUE_AFTER_WAITING, Fd_WAITS_AGAIN, Fd_FALLS_DUE, Fd_TAKEN_BACK, V_VALUES⟩ := WW0
  obtain ⟨rfl, hZ, hh⟩ := hP
  have hx := Bd.exec
  have hby := Bd.bytes
  have hml : c.maxLocals = 1 := hml0
  have hown : s.vm.findClass "com/example/acompte/acompte/VatOppositePinLaw" = some m.cls := findClass_of_methodNamed Bd.named
  have hnm := (name_of_methodNamed Bd.named Bd.method).1
  have X0 : Stand p l e ({ frames := 0, cells := 0, slots := 0, locals := 0 } : Room) s m #[(.int p1)] below meth c s₁ [] 0 0 := Stand.of_body Bd
  have e0 : s₁.heap = h0 := by rw [← hh, Bd.state]; rfl
  have N0 := Fr.nil n0
  have pre0 : ∀ t, Steps p.tables e below (s₁.setTop (mkF m 0 #[.val (.int p1)] [])) t → Steps p.tables e below (s₁.setTop (entryFrame m #[(.int p1)] 1)) t := fun t k => castTop (ef_1 m p1) k
  -- 3. LAWS
  obtain ⟨T3, X3, e3, st3⟩ := getS2 X0 hx hZ hown (host := "") (Or.inl (hw _ (List.mem_of_getElem? (i := 53) rfl))) Via.refl e0 S_FALLS_DUE (g := (mkF m 49 #[.val (.int p1)] [])) rfl (hb hby d1_49)
  obtain ⟨fs, hr, hrun, hended, hW, hsame⟩ := X3.leave (v := some (.ref a_FALLS_DUE)) (fun h => by rw [Bd.returns] at h; cases h)
  refine ⟨_, _, pre0 _ ?_, hrun, hended, _, _, rfl, ?_, ⟨_, rfl⟩, hW, hsame.mono (by decide) (by decide)⟩
  -- 4. STEPS
  · show Steps p.tables e below (s₁.setTop (mkF m 0 #[.val (.int p1)] [])) _
    refine XS.iloadN X0.here hx rfl (hb hby d1_0) rfl ?_
    show Steps p.tables e below (s₁.setTop (mkF m 1 #[.val (.int p1)] [(.int p1)])) _
    refine XS.ifYes X0.here hx rfl (pc0 := 1) (pc' := 8) rfl (hb hby d1_1) rfl ((if0 _ _).trans (feq hc1).2) (by decide) (by decide) ?_
    show Steps p.tables e below (s₁.setTop (mkF m 8 #[.val (.int p1)] [])) _
    refine XS.iloadN X0.here hx rfl (hb hby d1_8) rfl ?_
    show Steps p.tables e below (s₁.setTop (mkF m 9 #[.val (.int p1)] [(.int p1)])) _
    refine XS.iconst X0.here hx rfl (hb hby d1_9) ?_
    show Steps p.tables e below (s₁.setTop (mkF m 10 #[.val (.int p1)] [(.int (1 : Int32)), (.int p1)])) _
    refine XS.icmpYes X0.here hx rfl (pc0 := 10) (pc' := 17) rfl (hb hby d1_10) rfl (feq hc10).2 (by decide) (by decide) ?_
    show Steps p.tables e below (s₁.setTop (mkF m 17 #[.val (.int p1)] [])) _
    refine XS.iloadN X0.here hx rfl (hb hby d1_17) rfl ?_
    show Steps p.tables e below (s₁.setTop (mkF m 18 #[.val (.int p1)] [(.int p1)])) _
    refine XS.iconst X0.here hx rfl (hb hby d1_18) ?_
    show Steps p.tables e below (s₁.setTop (mkF m 19 #[.val (.int p1)] [(.int (2 : Int32)), (.int p1)])) _
    refine XS.icmpYes X0.here hx rfl (pc0 := 19) (pc' := 26) rfl (hb hby d1_19) rfl (feq hc19).2 (by decide) (by decide) ?_
    show Steps p.tables e below (s₁.setTop (mkF m 26 #[.val (.int p1)] [])) _
    refine XS.iloadN X0.here hx rfl (hb hby d1_26) rfl ?_
    show Steps p.tables e below (s₁.setTop (mkF m 27 #[.val (.int p1)] [(.int p1)])) _
    refine XS.iconst X0.here hx rfl (hb hby d1_27) ?_
    show Steps p.tables e below (s₁.setTop (mkF m 28 #[.val (.int p1)] [(.int (3 : Int32)), (.int p1)])) _
    refine XS.icmpYes X0.here hx rfl (pc0 := 28) (pc' := 35) rfl (hb hby d1_28) rfl (feq hc28).2 (by decide) (by decide) ?_
    show Steps p.tables e below (s₁.setTop (mkF m 35 #[.val (.int p1)] [])) _
    refine XS.iloadN X0.here hx rfl (hb hby d1_35) rfl ?_
    show Steps p.tables e below (s₁.setTop (mkF m 36 #[.val (.int p1)] [(.int p1)])) _
    refine XS.iconst X0.here hx rfl (hb hby d1_36) ?_
    show Steps p.tables e below (s₁.setTop (mkF m 37 #[.val (.int p1)] [(.int (4 : Int32)), (.int p1)])) _
    refine XS.icmpYes X0.here hx rfl (pc0 := 37) (pc' := 44) rfl (hb hby d1_37) rfl (feq hc37).2 (by decide) (by decide) ?_
    show Steps p.tables e below (s₁.setTop (mkF m 44 #[.val (.int p1)] [])) _
    refine XS.iloadN X0.here hx rfl (hb hby d1_44) rfl ?_
    show Steps p.tables e below (s₁.setTop (mkF m 45 #[.val (.int p1)] [(.int p1)])) _
    refine XS.iconst X0.here hx rfl (hb hby d1_45) ?_
    show Steps p.tables e below (s₁.setTop (mkF m 46 #[.val (.int p1)] [(.int (5 : Int32)), (.int p1)])) _
    refine XS.icmpNo X0.here hx rfl (hb hby d1_46) rfl (teq hc46).2 ?_
    show Steps p.tables e below (s₁.setTop (mkF m 49 #[.val (.int p1)] [])) _
    refine st3 _ ?_
    show Steps p.tables e below (T3.setTop (mkF m 52 #[.val (.int p1)] [(.ref a_FALLS_DUE)])) _
    jvm_step X3.here [X3.here.top, hx, (hb hby d1_52), X3.method', Bd.returns, Value.isRef, FieldType.isReference]
    first | (intro acts; rw [hr _ acts rfl rfl rfl]) | rw [hr _ _ rfl rfl rfl]
    exact Steps.refl _
  · show Q1_k5 Z a_NONE a_WAITS a_WAITS_NO_MORE a_FALLS_DUE_AFTER_WAITING a_WAITS_AGAIN a_FALLS_DUE a_TAKEN_BACK a_VALUES kV h0 n0 _ T3.heap _
    rw [e3]
    exact ⟨rfl, N0, rfl⟩
theorem d1_53 : decode method_2_code 53 = .ok (.getstatic 28, 3) := by decide +kernel
theorem d1_56 : decode method_2_code 56 = .ok (.areturn, 1) := by decide +kernel
def Q1_k6 (Z : State) (a_NONE a_WAITS a_WAITS_NO_MORE a_FALLS_DUE_AFTER_WAITING a_WAITS_AGAIN a_FALLS_DUE a_TAKEN_BACK a_VALUES : Addr) (kV : ClassId) (h0 : Heap) (n0 : Nat) (v : Option Value) (h : Heap) (L : List Loc) : Prop := v = some (.ref a_TAKEN_BACK) ∧ Fr n0 L ∧ h = h0
set_option maxRecDepth 65536 in
set_option maxHeartbeats 40000000 in
theorem rm1_k6 (l : Launch) (Z : State) (a0 : Array Value) (hw : ∀ d ∈ tables_1, d.before a0 Z = true) (ws : List Jvm.Cond) (p1 : Int32) (a_NONE a_WAITS a_WAITS_NO_MORE a_FALLS_DUE_AFTER_WAITING a_WAITS_AGAIN a_FALLS_DUE a_TAKEN_BACK a_VALUES : Addr) (kV : ClassId) (h0 : Heap) (n0 : Nat) (Z0 : n0 ≤ h0.size) (WW : Own Z h0 a_NONE a_WAITS a_WAITS_NO_MORE a_FALLS_DUE_AFTER_WAITING a_WAITS_AGAIN a_FALLS_DUE a_TAKEN_BACK a_VALUES kV) (hc1 : ¬ (p1 = (0 : Int32))) (hc10 : ¬ (p1 = (1 : Int32))) (hc19 : ¬ (p1 = (2 : Int32))) (hc28 : ¬ (p1 = (3 : Int32))) (hc37 : ¬ (p1 = (4 : Int32))) (hc46 : ¬ (p1 = (5 : Int32))) :
    MetFree l (⟨"com/example/acompte/acompte/VatOppositePinLaw", "pick", "(I)Lcom/example/acompte/acompte/DocumentKind$Vat;"⟩ : MethodName) (head1 (Jvm.Cond.code (⟨"com/example/acompte/acompte/VatOppositePinLaw", "pick", "(I)Lcom/example/acompte/acompte/DocumentKind$Vat;"⟩ : MethodName) method_2_code 1 (some (.object "com/example/acompte/acompte/DocumentKind$Vat")) :: ws) ({ frames := 0, cells := 0, slots := 0, locals := 0 } : Room)) (fun a U => a = #[(.int p1)] ∧ Z.Warmed39 U.vm ∧ U.heap = h0) (fun _ _ _ _ _ => True) (fun _ U o U' => ∃ v L, o = .returned v ∧ Q1_k6 Z a_NONE a_WAITS a_WAITS_NO_MORE a_FALLS_DUE_AFTER_WAITING a_WAITS_AGAIN a_FALLS_DUE a_TAKEN_BACK a_VALUES kV h0 n0 v U'.heap L ∧ FrameEnd U o U' L ({ frames := 0, cells := 0, slots := 0, locals := 0 } : Room).cells ({ frames := 0, cells := 0, slots := 0, locals := 0 } : Room).slots) := by
  refine MetFree.of_bodySF (plainFor_of_name pn_1) hisR ?_
  intro p e s m args below meth c s₁ Bd hml0 hP hK
  have WW0 := WW
  obtain ⟨S_NONE, S_WAITS, S_WAITS_NO_MORE, S_FALLS_DUE_AFTER_WAITING, S_WAITS_AGAIN, S_FALLS_DUE, S_TAKEN_BACK, S_VALUES, E_NONE, E_WAITS, E_WAITS_NO_MORE, E_FALLS_DUE_AFTER_WAITING, E_WAITS_AGAIN, E_FALLS_DUE, E_TAKEN_BACK, E_VALUES, Fw_NONE, Fw_WAITS, Fw_WAITS_NO_MORE, Fw_FALLS_DUE_AFTER_WAITING, Fw_WAITS_AGAIN, Fw_FALLS_DUE, Fw_TAKEN_BACK, Fd_NONE, Fd_WAITS, Fd_WAITS_NO_MORE, Fd_FALLS_DUE_AFTER_WAITING, Fd_WAITS_AGAIN, Fd_FALLS_DUE, Fd_TAKEN_BACK, V_VALUES⟩ := WW0
  obtain ⟨rfl, hZ, hh⟩ := hP
  have hx := Bd.exec
  have hby := Bd.bytes
  have hml : c.maxLocals = 1 := hml0
  have hown : s.vm.findClass "com/example/acompte/acompte/VatOppositePinLaw" = some m.cls := findClass_of_methodNamed Bd.named
  have hnm := (name_of_methodNamed Bd.named Bd.method).1
  have X0 : Stand p l e ({ frames := 0, cells := 0, slots := 0, locals := 0 } : Room) s m #[(.int p1)] below meth c s₁ [] 0 0 := Stand.of_body Bd
  have e0 : s₁.heap = h0 := by rw [← hh, Bd.state]; rfl
  have N0 := Fr.nil n0
  have pre0 : ∀ t, Steps p.tables e below (s₁.setTop (mkF m 0 #[.val (.int p1)] [])) t → Steps p.tables e below (s₁.setTop (entryFrame m #[(.int p1)] 1)) t := fun t k => castTop (ef_1 m p1) k
  -- 3. LAWS
  obtain ⟨T3, X3, e3, st3⟩ := getS2 X0 hx hZ hown (host := "") (Or.inl (hw _ (List.mem_of_getElem? (i := 54) rfl))) Via.refl e0 S_TAKEN_BACK (g := (mkF m 53 #[.val (.int p1)] [])) rfl (hb hby d1_53)
  obtain ⟨fs, hr, hrun, hended, hW, hsame⟩ := X3.leave (v := some (.ref a_TAKEN_BACK)) (fun h => by rw [Bd.returns] at h; cases h)
  refine ⟨_, _, pre0 _ ?_, hrun, hended, _, _, rfl, ?_, ⟨_, rfl⟩, hW, hsame.mono (by decide) (by decide)⟩
  -- 4. STEPS
  · show Steps p.tables e below (s₁.setTop (mkF m 0 #[.val (.int p1)] [])) _
    refine XS.iloadN X0.here hx rfl (hb hby d1_0) rfl ?_
    show Steps p.tables e below (s₁.setTop (mkF m 1 #[.val (.int p1)] [(.int p1)])) _
    refine XS.ifYes X0.here hx rfl (pc0 := 1) (pc' := 8) rfl (hb hby d1_1) rfl ((if0 _ _).trans (feq hc1).2) (by decide) (by decide) ?_
    show Steps p.tables e below (s₁.setTop (mkF m 8 #[.val (.int p1)] [])) _
    refine XS.iloadN X0.here hx rfl (hb hby d1_8) rfl ?_
    show Steps p.tables e below (s₁.setTop (mkF m 9 #[.val (.int p1)] [(.int p1)])) _
    refine XS.iconst X0.here hx rfl (hb hby d1_9) ?_
    show Steps p.tables e below (s₁.setTop (mkF m 10 #[.val (.int p1)] [(.int (1 : Int32)), (.int p1)])) _
    refine XS.icmpYes X0.here hx rfl (pc0 := 10) (pc' := 17) rfl (hb hby d1_10) rfl (feq hc10).2 (by decide) (by decide) ?_
    show Steps p.tables e below (s₁.setTop (mkF m 17 #[.val (.int p1)] [])) _
    refine XS.iloadN X0.here hx rfl (hb hby d1_17) rfl ?_
    show Steps p.tables e below (s₁.setTop (mkF m 18 #[.val (.int p1)] [(.int p1)])) _
    refine XS.iconst X0.here hx rfl (hb hby d1_18) ?_
    show Steps p.tables e below (s₁.setTop (mkF m 19 #[.val (.int p1)] [(.int (2 : Int32)), (.int p1)])) _
    refine XS.icmpYes X0.here hx rfl (pc0 := 19) (pc' := 26) rfl (hb hby d1_19) rfl (feq hc19).2 (by decide) (by decide) ?_
    show Steps p.tables e below (s₁.setTop (mkF m 26 #[.val (.int p1)] [])) _
    refine XS.iloadN X0.here hx rfl (hb hby d1_26) rfl ?_
    show Steps p.tables e below (s₁.setTop (mkF m 27 #[.val (.int p1)] [(.int p1)])) _
    refine XS.iconst X0.here hx rfl (hb hby d1_27) ?_
    show Steps p.tables e below (s₁.setTop (mkF m 28 #[.val (.int p1)] [(.int (3 : Int32)), (.int p1)])) _
    refine XS.icmpYes X0.here hx rfl (pc0 := 28) (pc' := 35) rfl (hb hby d1_28) rfl (feq hc28).2 (by decide) (by decide) ?_
    show Steps p.tables e below (s₁.setTop (mkF m 35 #[.val (.int p1)] [])) _
    refine XS.iloadN X0.here hx rfl (hb hby d1_35) rfl ?_
    show Steps p.tables e below (s₁.setTop (mkF m 36 #[.val (.int p1)] [(.int p1)])) _
    refine XS.iconst X0.here hx rfl (hb hby d1_36) ?_
    show Steps p.tables e below (s₁.setTop (mkF m 37 #[.val (.int p1)] [(.int (4 : Int32)), (.int p1)])) _
    refine XS.icmpYes X0.here hx rfl (pc0 := 37) (pc' := 44) rfl (hb hby d1_37) rfl (feq hc37).2 (by decide) (by decide) ?_
    show Steps p.tables e below (s₁.setTop (mkF m 44 #[.val (.int p1)] [])) _
    refine XS.iloadN X0.here hx rfl (hb hby d1_44) rfl ?_
    show Steps p.tables e below (s₁.setTop (mkF m 45 #[.val (.int p1)] [(.int p1)])) _
    refine XS.iconst X0.here hx rfl (hb hby d1_45) ?_
    show Steps p.tables e below (s₁.setTop (mkF m 46 #[.val (.int p1)] [(.int (5 : Int32)), (.int p1)])) _
    refine XS.icmpYes X0.here hx rfl (pc0 := 46) (pc' := 53) rfl (hb hby d1_46) rfl (feq hc46).2 (by decide) (by decide) ?_
    show Steps p.tables e below (s₁.setTop (mkF m 53 #[.val (.int p1)] [])) _
    refine st3 _ ?_
    show Steps p.tables e below (T3.setTop (mkF m 56 #[.val (.int p1)] [(.ref a_TAKEN_BACK)])) _
    jvm_step X3.here [X3.here.top, hx, (hb hby d1_56), X3.method', Bd.returns, Value.isRef, FieldType.isReference]
    first | (intro acts; rw [hr _ acts rfl rfl rfl]) | rw [hr _ _ rfl rfl rfl]
    exact Steps.refl _
  · show Q1_k6 Z a_NONE a_WAITS a_WAITS_NO_MORE a_FALLS_DUE_AFTER_WAITING a_WAITS_AGAIN a_FALLS_DUE a_TAKEN_BACK a_VALUES kV h0 n0 _ T3.heap _
    rw [e3]
    exact ⟨rfl, N0, rfl⟩
theorem d4_0 : decode method_3_code 0 = .ok (.iload_n 0, 1) := by decide +kernel
theorem d4_1 : decode method_3_code 1 = .ok (.ifCond .ne 7, 3) := by decide +kernel
theorem d4_4 : decode method_3_code 4 = .ok (.getstatic 7, 3) := by decide +kernel
theorem d4_7 : decode method_3_code 7 = .ok (.areturn, 1) := by decide +kernel
theorem pn_4 : plainName "com/example/acompte/acompte/VatOppositePinLaw" = true := by first | (simp [plainName, overriddenIn]; done) | decide +kernel
theorem ef_4 (m : MethodId) (x0 : Int32) : entryFrame m #[(.int x0)] 1 = mkF m 0 #[.val (.int x0)] [] := by first | (simp [entryFrame, mkF, argsToLocals, Value.category]; done) | rfl
def Q4_k0 (Z : State) (a_NONE a_WAITS a_WAITS_NO_MORE a_FALLS_DUE_AFTER_WAITING a_WAITS_AGAIN a_FALLS_DUE a_TAKEN_BACK a_VALUES : Addr) (kV : ClassId) (h0 : Heap) (n0 : Nat) (v : Option Value) (h : Heap) (L : List Loc) : Prop := v = some (.ref a_NONE) ∧ Fr n0 L ∧ h = h0
set_option maxRecDepth 65536 in
set_option maxHeartbeats 40000000 in
theorem rm4_k0 (l : Launch) (Z : State) (a0 : Array Value) (hw : ∀ d ∈ tables_1, d.before a0 Z = true) (ws : List Jvm.Cond) (p1 : Int32) (a_NONE a_WAITS a_WAITS_NO_MORE a_FALLS_DUE_AFTER_WAITING a_WAITS_AGAIN a_FALLS_DUE a_TAKEN_BACK a_VALUES : Addr) (kV : ClassId) (h0 : Heap) (n0 : Nat) (Z0 : n0 ≤ h0.size) (WW : Own Z h0 a_NONE a_WAITS a_WAITS_NO_MORE a_FALLS_DUE_AFTER_WAITING a_WAITS_AGAIN a_FALLS_DUE a_TAKEN_BACK a_VALUES kV) (hc1 : p1 = (0 : Int32)) :
    MetFree l (⟨"com/example/acompte/acompte/VatOppositePinLaw", "expected", "(I)Lcom/example/acompte/acompte/DocumentKind$Vat;"⟩ : MethodName) (head1 (Jvm.Cond.code (⟨"com/example/acompte/acompte/VatOppositePinLaw", "expected", "(I)Lcom/example/acompte/acompte/DocumentKind$Vat;"⟩ : MethodName) method_3_code 1 (some (.object "com/example/acompte/acompte/DocumentKind$Vat")) :: ws) ({ frames := 0, cells := 0, slots := 0, locals := 0 } : Room)) (fun a U => a = #[(.int p1)] ∧ Z.Warmed39 U.vm ∧ U.heap = h0) (fun _ _ _ _ _ => True) (fun _ U o U' => ∃ v L, o = .returned v ∧ Q4_k0 Z a_NONE a_WAITS a_WAITS_NO_MORE a_FALLS_DUE_AFTER_WAITING a_WAITS_AGAIN a_FALLS_DUE a_TAKEN_BACK a_VALUES kV h0 n0 v U'.heap L ∧ FrameEnd U o U' L ({ frames := 0, cells := 0, slots := 0, locals := 0 } : Room).cells ({ frames := 0, cells := 0, slots := 0, locals := 0 } : Room).slots) := by
  refine MetFree.of_bodySF (plainFor_of_name pn_4) hisR ?_
  intro p e s m args below meth c s₁ Bd hml0 hP hK
  have WW0 := WW
  obtain ⟨S_NONE, S_WAITS, S_WAITS_NO_MORE, S_FALLS_DUE_AFTER_WAITING, S_WAITS_AGAIN, S_FALLS_DUE, S_TAKEN_BACK, S_VALUES, E_NONE, E_WAITS, E_WAITS_NO_MORE, E_FALLS_DUE_AFTER_WAITING, E_WAITS_AGAIN, E_FALLS_DUE, E_TAKEN_BACK, E_VALUES, Fw_NONE, Fw_WAITS, Fw_WAITS_NO_MORE, Fw_FALLS_DUE_AFTER_WAITING, Fw_WAITS_AGAIN, Fw_FALLS_DUE, Fw_TAKEN_BACK, Fd_NONE, Fd_WAITS, Fd_WAITS_NO_MORE, Fd_FALLS_DUE_AFTER_WAITING, Fd_WAITS_AGAIN, Fd_FALLS_DUE, Fd_TAKEN_BACK, V_VALUES⟩ := WW0
  obtain ⟨rfl, hZ, hh⟩ := hP
  have hx := Bd.exec
  have hby := Bd.bytes
  have hml : c.maxLocals = 1 := hml0
  have hown : s.vm.findClass "com/example/acompte/acompte/VatOppositePinLaw" = some m.cls := findClass_of_methodNamed Bd.named
  have hnm := (name_of_methodNamed Bd.named Bd.method).1
  have X0 : Stand p l e ({ frames := 0, cells := 0, slots := 0, locals := 0 } : Room) s m #[(.int p1)] below meth c s₁ [] 0 0 := Stand.of_body Bd
  have e0 : s₁.heap = h0 := by rw [← hh, Bd.state]; rfl
  have N0 := Fr.nil n0
  have pre0 : ∀ t, Steps p.tables e below (s₁.setTop (mkF m 0 #[.val (.int p1)] [])) t → Steps p.tables e below (s₁.setTop (entryFrame m #[(.int p1)] 1)) t := fun t k => castTop (ef_4 m p1) k
  -- 3. LAWS
  obtain ⟨T3, X3, e3, st3⟩ := getS2 X0 hx hZ hown (host := "") (Or.inl (hw _ (List.mem_of_getElem? (i := 5) rfl))) Via.refl e0 S_NONE (g := (mkF m 4 #[.val (.int p1)] [])) rfl (hb hby d4_4)
  obtain ⟨fs, hr, hrun, hended, hW, hsame⟩ := X3.leave (v := some (.ref a_NONE)) (fun h => by rw [Bd.returns] at h; cases h)
  refine ⟨_, _, pre0 _ ?_, hrun, hended, _, _, rfl, ?_, ⟨_, rfl⟩, hW, hsame.mono (by decide) (by decide)⟩
  -- 4. STEPS
  · show Steps p.tables e below (s₁.setTop (mkF m 0 #[.val (.int p1)] [])) _
    refine XS.iloadN X0.here hx rfl (hb hby d4_0) rfl ?_
    show Steps p.tables e below (s₁.setTop (mkF m 1 #[.val (.int p1)] [(.int p1)])) _
    refine XS.ifNo X0.here hx rfl (hb hby d4_1) rfl ((if0 _ _).trans (teq hc1).2) ?_
    show Steps p.tables e below (s₁.setTop (mkF m 4 #[.val (.int p1)] [])) _
    refine st3 _ ?_
    show Steps p.tables e below (T3.setTop (mkF m 7 #[.val (.int p1)] [(.ref a_NONE)])) _
    jvm_step X3.here [X3.here.top, hx, (hb hby d4_7), X3.method', Bd.returns, Value.isRef, FieldType.isReference]
    first | (intro acts; rw [hr _ acts rfl rfl rfl]) | rw [hr _ _ rfl rfl rfl]
    exact Steps.refl _
  · show Q4_k0 Z a_NONE a_WAITS a_WAITS_NO_MORE a_FALLS_DUE_AFTER_WAITING a_WAITS_AGAIN a_FALLS_DUE a_TAKEN_BACK a_VALUES kV h0 n0 _ T3.heap _
    rw [e3]
    exact ⟨rfl, N0, rfl⟩
theorem d4_8 : decode method_3_code 8 = .ok (.iload_n 0, 1) := by decide +kernel
theorem d4_9 : decode method_3_code 9 = .ok (.iconst 1, 1) := by decide +kernel
theorem d4_10 : decode method_3_code 10 = .ok (.if_icmp .ne 7, 3) := by decide +kernel
theorem d4_13 : decode method_3_code 13 = .ok (.getstatic 16, 3) := by decide +kernel
theorem d4_16 : decode method_3_code 16 = .ok (.areturn, 1) := by decide +kernel
def Q4_k1 (Z : State) (a_NONE a_WAITS a_WAITS_NO_MORE a_FALLS_DUE_AFTER_WAITING a_WAITS_AGAIN a_FALLS_DUE a_TAKEN_BACK a_VALUES : Addr) (kV : ClassId) (h0 : Heap) (n0 : Nat) (v : Option Value) (h : Heap) (L : List Loc) : Prop := v = some (.ref a_WAITS_NO_MORE) ∧ Fr n0 L ∧ h = h0
set_option maxRecDepth 65536 in
set_option maxHeartbeats 40000000 in
theorem rm4_k1 (l : Launch) (Z : State) (a0 : Array Value) (hw : ∀ d ∈ tables_1, d.before a0 Z = true) (ws : List Jvm.Cond) (p1 : Int32) (a_NONE a_WAITS a_WAITS_NO_MORE a_FALLS_DUE_AFTER_WAITING a_WAITS_AGAIN a_FALLS_DUE a_TAKEN_BACK a_VALUES : Addr) (kV : ClassId) (h0 : Heap) (n0 : Nat) (Z0 : n0 ≤ h0.size) (WW : Own Z h0 a_NONE a_WAITS a_WAITS_NO_MORE a_FALLS_DUE_AFTER_WAITING a_WAITS_AGAIN a_FALLS_DUE a_TAKEN_BACK a_VALUES kV) (hc1 : ¬ (p1 = (0 : Int32))) (hc10 : p1 = (1 : Int32)) :
    MetFree l (⟨"com/example/acompte/acompte/VatOppositePinLaw", "expected", "(I)Lcom/example/acompte/acompte/DocumentKind$Vat;"⟩ : MethodName) (head1 (Jvm.Cond.code (⟨"com/example/acompte/acompte/VatOppositePinLaw", "expected", "(I)Lcom/example/acompte/acompte/DocumentKind$Vat;"⟩ : MethodName) method_3_code 1 (some (.object "com/example/acompte/acompte/DocumentKind$Vat")) :: ws) ({ frames := 0, cells := 0, slots := 0, locals := 0 } : Room)) (fun a U => a = #[(.int p1)] ∧ Z.Warmed39 U.vm ∧ U.heap = h0) (fun _ _ _ _ _ => True) (fun _ U o U' => ∃ v L, o = .returned v ∧ Q4_k1 Z a_NONE a_WAITS a_WAITS_NO_MORE a_FALLS_DUE_AFTER_WAITING a_WAITS_AGAIN a_FALLS_DUE a_TAKEN_BACK a_VALUES kV h0 n0 v U'.heap L ∧ FrameEnd U o U' L ({ frames := 0, cells := 0, slots := 0, locals := 0 } : Room).cells ({ frames := 0, cells := 0, slots := 0, locals := 0 } : Room).slots) := by
  refine MetFree.of_bodySF (plainFor_of_name pn_4) hisR ?_
  intro p e s m args below meth c s₁ Bd hml0 hP hK
  have WW0 := WW
  obtain ⟨S_NONE, S_WAITS, S_WAITS_NO_MORE, S_FALLS_DUE_AFTER_WAITING, S_WAITS_AGAIN, S_FALLS_DUE, S_TAKEN_BACK, S_VALUES, E_NONE, E_WAITS, E_WAITS_NO_MORE, E_FALLS_DUE_AFTER_WAITING, E_WAITS_AGAIN, E_FALLS_DUE, E_TAKEN_BACK, E_VALUES, Fw_NONE, Fw_WAITS, Fw_WAITS_NO_MORE, Fw_FALLS_DUE_AFTER_WAITING, Fw_WAITS_AGAIN, Fw_FALLS_DUE, Fw_TAKEN_BACK, Fd_NONE, Fd_WAITS, Fd_WAITS_NO_MORE, Fd_FALLS_DUE_AFTER_WAITING, Fd_WAITS_AGAIN, Fd_FALLS_DUE, Fd_TAKEN_BACK, V_VALUES⟩ := WW0
  obtain ⟨rfl, hZ, hh⟩ := hP
  have hx := Bd.exec
  have hby := Bd.bytes
  have hml : c.maxLocals = 1 := hml0
  have hown : s.vm.findClass "com/example/acompte/acompte/VatOppositePinLaw" = some m.cls := findClass_of_methodNamed Bd.named
  have hnm := (name_of_methodNamed Bd.named Bd.method).1
  have X0 : Stand p l e ({ frames := 0, cells := 0, slots := 0, locals := 0 } : Room) s m #[(.int p1)] below meth c s₁ [] 0 0 := Stand.of_body Bd
  have e0 : s₁.heap = h0 := by rw [← hh, Bd.state]; rfl
  have N0 := Fr.nil n0
  have pre0 : ∀ t, Steps p.tables e below (s₁.setTop (mkF m 0 #[.val (.int p1)] [])) t → Steps p.tables e below (s₁.setTop (entryFrame m #[(.int p1)] 1)) t := fun t k => castTop (ef_4 m p1) k
  -- 3. LAWS
  obtain ⟨T3, X3, e3, st3⟩ := getS2 X0 hx hZ hown (host := "") (Or.inl (hw _ (List.mem_of_getElem? (i := 55) rfl))) Via.refl e0 S_WAITS_NO_MORE (g := (mkF m 13 #[.val (.int p1)] [])) rfl (hb hby d4_13)
  obtain ⟨fs, hr, hrun, hended, hW, hsame⟩ := X3.leave (v := some (.ref a_WAITS_NO_MORE)) (fun h => by rw [Bd.returns] at h; cases h)
  refine ⟨_, _, pre0 _ ?_, hrun, hended, _, _, rfl, ?_, ⟨_, rfl⟩, hW, hsame.mono (by decide) (by decide)⟩
  -- 4. STEPS
  · show Steps p.tables e below (s₁.setTop (mkF m 0 #[.val (.int p1)] [])) _
    refine XS.iloadN X0.here hx rfl (hb hby d4_0) rfl ?_
    show Steps p.tables e below (s₁.setTop (mkF m 1 #[.val (.int p1)] [(.int p1)])) _
    refine XS.ifYes X0.here hx rfl (pc0 := 1) (pc' := 8) rfl (hb hby d4_1) rfl ((if0 _ _).trans (feq hc1).2) (by decide) (by decide) ?_
    show Steps p.tables e below (s₁.setTop (mkF m 8 #[.val (.int p1)] [])) _
    refine XS.iloadN X0.here hx rfl (hb hby d4_8) rfl ?_
    show Steps p.tables e below (s₁.setTop (mkF m 9 #[.val (.int p1)] [(.int p1)])) _
    refine XS.iconst X0.here hx rfl (hb hby d4_9) ?_
    show Steps p.tables e below (s₁.setTop (mkF m 10 #[.val (.int p1)] [(.int (1 : Int32)), (.int p1)])) _
    refine XS.icmpNo X0.here hx rfl (hb hby d4_10) rfl (teq hc10).2 ?_
    show Steps p.tables e below (s₁.setTop (mkF m 13 #[.val (.int p1)] [])) _
    refine st3 _ ?_
    show Steps p.tables e below (T3.setTop (mkF m 16 #[.val (.int p1)] [(.ref a_WAITS_NO_MORE)])) _
    jvm_step X3.here [X3.here.top, hx, (hb hby d4_16), X3.method', Bd.returns, Value.isRef, FieldType.isReference]
    first | (intro acts; rw [hr _ acts rfl rfl rfl]) | rw [hr _ _ rfl rfl rfl]
    exact Steps.refl _
  · show Q4_k1 Z a_NONE a_WAITS a_WAITS_NO_MORE a_FALLS_DUE_AFTER_WAITING a_WAITS_AGAIN a_FALLS_DUE a_TAKEN_BACK a_VALUES kV h0 n0 _ T3.heap _
    rw [e3]
    exact ⟨rfl, N0, rfl⟩
theorem d4_17 : decode method_3_code 17 = .ok (.iload_n 0, 1) := by decide +kernel
theorem d4_18 : decode method_3_code 18 = .ok (.iconst 2, 1) := by decide +kernel
theorem d4_19 : decode method_3_code 19 = .ok (.if_icmp .ne 7, 3) := by decide +kernel
theorem d4_22 : decode method_3_code 22 = .ok (.getstatic 13, 3) := by decide +kernel
theorem d4_25 : decode method_3_code 25 = .ok (.areturn, 1) := by decide +kernel
def Q4_k2 (Z : State) (a_NONE a_WAITS a_WAITS_NO_MORE a_FALLS_DUE_AFTER_WAITING a_WAITS_AGAIN a_FALLS_DUE a_TAKEN_BACK a_VALUES : Addr) (kV : ClassId) (h0 : Heap) (n0 : Nat) (v : Option Value) (h : Heap) (L : List Loc) : Prop := v = some (.ref a_WAITS) ∧ Fr n0 L ∧ h = h0
set_option maxRecDepth 65536 in
set_option maxHeartbeats 40000000 in
theorem rm4_k2 (l : Launch) (Z : State) (a0 : Array Value) (hw : ∀ d ∈ tables_1, d.before a0 Z = true) (ws : List Jvm.Cond) (p1 : Int32) (a_NONE a_WAITS a_WAITS_NO_MORE a_FALLS_DUE_AFTER_WAITING a_WAITS_AGAIN a_FALLS_DUE a_TAKEN_BACK a_VALUES : Addr) (kV : ClassId) (h0 : Heap) (n0 : Nat) (Z0 : n0 ≤ h0.size) (WW : Own Z h0 a_NONE a_WAITS a_WAITS_NO_MORE a_FALLS_DUE_AFTER_WAITING a_WAITS_AGAIN a_FALLS_DUE a_TAKEN_BACK a_VALUES kV) (hc1 : ¬ (p1 = (0 : Int32))) (hc10 : ¬ (p1 = (1 : Int32))) (hc19 : p1 = (2 : Int32)) :
    MetFree l (⟨"com/example/acompte/acompte/VatOppositePinLaw", "expected", "(I)Lcom/example/acompte/acompte/DocumentKind$Vat;"⟩ : MethodName) (head1 (Jvm.Cond.code (⟨"com/example/acompte/acompte/VatOppositePinLaw", "expected", "(I)Lcom/example/acompte/acompte/DocumentKind$Vat;"⟩ : MethodName) method_3_code 1 (some (.object "com/example/acompte/acompte/DocumentKind$Vat")) :: ws) ({ frames := 0, cells := 0, slots := 0, locals := 0 } : Room)) (fun a U => a = #[(.int p1)] ∧ Z.Warmed39 U.vm ∧ U.heap = h0) (fun _ _ _ _ _ => True) (fun _ U o U' => ∃ v L, o = .returned v ∧ Q4_k2 Z a_NONE a_WAITS a_WAITS_NO_MORE a_FALLS_DUE_AFTER_WAITING a_WAITS_AGAIN a_FALLS_DUE a_TAKEN_BACK a_VALUES kV h0 n0 v U'.heap L ∧ FrameEnd U o U' L ({ frames := 0, cells := 0, slots := 0, locals := 0 } : Room).cells ({ frames := 0, cells := 0, slots := 0, locals := 0 } : Room).slots) := by
  refine MetFree.of_bodySF (plainFor_of_name pn_4) hisR ?_
  intro p e s m args below meth c s₁ Bd hml0 hP hK
  have WW0 := WW
  obtain ⟨S_NONE, S_WAITS, S_WAITS_NO_MORE, S_FALLS_DUE_AFTER_WAITING, S_WAITS_AGAIN, S_FALLS_DUE, S_TAKEN_BACK, S_VALUES, E_NONE, E_WAITS, E_WAITS_NO_MORE, E_FALLS_DUE_AFTER_WAITING, E_WAITS_AGAIN, E_FALLS_DUE, E_TAKEN_BACK, E_VALUES, Fw_NONE, Fw_WAITS, Fw_WAITS_NO_MORE, Fw_FALLS_DUE_AFTER_WAITING, Fw_WAITS_AGAIN, Fw_FALLS_DUE, Fw_TAKEN_BACK, Fd_NONE, Fd_WAITS, Fd_WAITS_NO_MORE, Fd_FALLS_DUE_AFTER_WAITING, Fd_WAITS_AGAIN, Fd_FALLS_DUE, Fd_TAKEN_BACK, V_VALUES⟩ := WW0
  obtain ⟨rfl, hZ, hh⟩ := hP
  have hx := Bd.exec
  have hby := Bd.bytes
  have hml : c.maxLocals = 1 := hml0
  have hown : s.vm.findClass "com/example/acompte/acompte/VatOppositePinLaw" = some m.cls := findClass_of_methodNamed Bd.named
  have hnm := (name_of_methodNamed Bd.named Bd.method).1
  have X0 : Stand p l e ({ frames := 0, cells := 0, slots := 0, locals := 0 } : Room) s m #[(.int p1)] below meth c s₁ [] 0 0 := Stand.of_body Bd
  have e0 : s₁.heap = h0 := by rw [← hh, Bd.state]; rfl
  have N0 := Fr.nil n0
  have pre0 : ∀ t, Steps p.tables e below (s₁.setTop (mkF m 0 #[.val (.int p1)] [])) t → Steps p.tables e below (s₁.setTop (entryFrame m #[(.int p1)] 1)) t := fun t k => castTop (ef_4 m p1) k
  -- 3. LAWS
  obtain ⟨T3, X3, e3, st3⟩ := getS2 X0 hx hZ hown (host := "") (Or.inl (hw _ (List.mem_of_getElem? (i := 56) rfl))) Via.refl e0 S_WAITS (g := (mkF m 22 #[.val (.int p1)] [])) rfl (hb hby d4_22)
  obtain ⟨fs, hr, hrun, hended, hW, hsame⟩ := X3.leave (v := some (.ref a_WAITS)) (fun h => by rw [Bd.returns] at h; cases h)
  refine ⟨_, _, pre0 _ ?_, hrun, hended, _, _, rfl, ?_, ⟨_, rfl⟩, hW, hsame.mono (by decide) (by decide)⟩
  -- 4. STEPS
  · show Steps p.tables e below (s₁.setTop (mkF m 0 #[.val (.int p1)] [])) _
    refine XS.iloadN X0.here hx rfl (hb hby d4_0) rfl ?_
    show Steps p.tables e below (s₁.setTop (mkF m 1 #[.val (.int p1)] [(.int p1)])) _
    refine XS.ifYes X0.here hx rfl (pc0 := 1) (pc' := 8) rfl (hb hby d4_1) rfl ((if0 _ _).trans (feq hc1).2) (by decide) (by decide) ?_
    show Steps p.tables e below (s₁.setTop (mkF m 8 #[.val (.int p1)] [])) _
    refine XS.iloadN X0.here hx rfl (hb hby d4_8) rfl ?_
    show Steps p.tables e below (s₁.setTop (mkF m 9 #[.val (.int p1)] [(.int p1)])) _
    refine XS.iconst X0.here hx rfl (hb hby d4_9) ?_
    show Steps p.tables e below (s₁.setTop (mkF m 10 #[.val (.int p1)] [(.int (1 : Int32)), (.int p1)])) _
    refine XS.icmpYes X0.here hx rfl (pc0 := 10) (pc' := 17) rfl (hb hby d4_10) rfl (feq hc10).2 (by decide) (by decide) ?_
    show Steps p.tables e below (s₁.setTop (mkF m 17 #[.val (.int p1)] [])) _
    refine XS.iloadN X0.here hx rfl (hb hby d4_17) rfl ?_
    show Steps p.tables e below (s₁.setTop (mkF m 18 #[.val (.int p1)] [(.int p1)])) _
    refine XS.iconst X0.here hx rfl (hb hby d4_18) ?_
    show Steps p.tables e below (s₁.setTop (mkF m 19 #[.val (.int p1)] [(.int (2 : Int32)), (.int p1)])) _
    refine XS.icmpNo X0.here hx rfl (hb hby d4_19) rfl (teq hc19).2 ?_
    show Steps p.tables e below (s₁.setTop (mkF m 22 #[.val (.int p1)] [])) _
    refine st3 _ ?_
    show Steps p.tables e below (T3.setTop (mkF m 25 #[.val (.int p1)] [(.ref a_WAITS)])) _
    jvm_step X3.here [X3.here.top, hx, (hb hby d4_25), X3.method', Bd.returns, Value.isRef, FieldType.isReference]
    first | (intro acts; rw [hr _ acts rfl rfl rfl]) | rw [hr _ _ rfl rfl rfl]
    exact Steps.refl _
  · show Q4_k2 Z a_NONE a_WAITS a_WAITS_NO_MORE a_FALLS_DUE_AFTER_WAITING a_WAITS_AGAIN a_FALLS_DUE a_TAKEN_BACK a_VALUES kV h0 n0 _ T3.heap _
    rw [e3]
    exact ⟨rfl, N0, rfl⟩
theorem d4_26 : decode method_3_code 26 = .ok (.iload_n 0, 1) := by decide +kernel
theorem d4_27 : decode method_3_code 27 = .ok (.iconst 3, 1) := by decide +kernel
theorem d4_28 : decode method_3_code 28 = .ok (.if_icmp .ne 7, 3) := by decide +kernel
theorem d4_31 : decode method_3_code 31 = .ok (.getstatic 22, 3) := by decide +kernel
theorem d4_34 : decode method_3_code 34 = .ok (.areturn, 1) := by decide +kernel
def Q4_k3 (Z : State) (a_NONE a_WAITS a_WAITS_NO_MORE a_FALLS_DUE_AFTER_WAITING a_WAITS_AGAIN a_FALLS_DUE a_TAKEN_BACK a_VALUES : Addr) (kV : ClassId) (h0 : Heap) (n0 : Nat) (v : Option Value) (h : Heap) (L : List Loc) : Prop := v = some (.ref a_WAITS_AGAIN) ∧ Fr n0 L ∧ h = h0
set_option maxRecDepth 65536 in
set_option maxHeartbeats 40000000 in
theorem rm4_k3 (l : Launch) (Z : State) (a0 : Array Value) (hw : ∀ d ∈ tables_1, d.before a0 Z = true) (ws : List Jvm.Cond) (p1 : Int32) (a_NONE a_WAITS a_WAITS_NO_MORE a_FALLS_DUE_AFTER_WAITING a_WAITS_AGAIN a_FALLS_DUE a_TAKEN_BACK a_VALUES : Addr) (kV : ClassId) (h0 : Heap) (n0 : Nat) (Z0 : n0 ≤ h0.size) (WW : Own Z h0 a_NONE a_WAITS a_WAITS_NO_MORE a_FALLS_DUE_AFTER_WAITING a_WAITS_AGAIN a_FALLS_DUE a_TAKEN_BACK a_VALUES kV) (hc1 : ¬ (p1 = (0 : Int32))) (hc10 : ¬ (p1 = (1 : Int32))) (hc19 : ¬ (p1 = (2 : Int32))) (hc28 : p1 = (3 : Int32)) :
    MetFree l (⟨"com/example/acompte/acompte/VatOppositePinLaw", "expected", "(I)Lcom/example/acompte/acompte/DocumentKind$Vat;"⟩ : MethodName) (head1 (Jvm.Cond.code (⟨"com/example/acompte/acompte/VatOppositePinLaw", "expected", "(I)Lcom/example/acompte/acompte/DocumentKind$Vat;"⟩ : MethodName) method_3_code 1 (some (.object "com/example/acompte/acompte/DocumentKind$Vat")) :: ws) ({ frames := 0, cells := 0, slots := 0, locals := 0 } : Room)) (fun a U => a = #[(.int p1)] ∧ Z.Warmed39 U.vm ∧ U.heap = h0) (fun _ _ _ _ _ => True) (fun _ U o U' => ∃ v L, o = .returned v ∧ Q4_k3 Z a_NONE a_WAITS a_WAITS_NO_MORE a_FALLS_DUE_AFTER_WAITING a_WAITS_AGAIN a_FALLS_DUE a_TAKEN_BACK a_VALUES kV h0 n0 v U'.heap L ∧ FrameEnd U o U' L ({ frames := 0, cells := 0, slots := 0, locals := 0 } : Room).cells ({ frames := 0, cells := 0, slots := 0, locals := 0 } : Room).slots) := by
  refine MetFree.of_bodySF (plainFor_of_name pn_4) hisR ?_
  intro p e s m args below meth c s₁ Bd hml0 hP hK
  have WW0 := WW
  obtain ⟨S_NONE, S_WAITS, S_WAITS_NO_MORE, S_FALLS_DUE_AFTER_WAITING, S_WAITS_AGAIN, S_FALLS_DUE, S_TAKEN_BACK, S_VALUES, E_NONE, E_WAITS, E_WAITS_NO_MORE, E_FALLS_DUE_AFTER_WAITING, E_WAITS_AGAIN, E_FALLS_DUE, E_TAKEN_BACK, E_VALUES, Fw_NONE, Fw_WAITS, Fw_WAITS_NO_MORE, Fw_FALLS_DUE_AFTER_WAITING, Fw_WAITS_AGAIN, Fw_FALLS_DUE, Fw_TAKEN_BACK, Fd_NONE, Fd_WAITS, Fd_WAITS_NO_MORE, Fd_FALLS_DUE_AFTER_WAITING, Fd_WAITS_AGAIN, Fd_FALLS_DUE, Fd_TAKEN_BACK, V_VALUES⟩ := WW0
  obtain ⟨rfl, hZ, hh⟩ := hP
  have hx := Bd.exec
  have hby := Bd.bytes
  have hml : c.maxLocals = 1 := hml0
  have hown : s.vm.findClass "com/example/acompte/acompte/VatOppositePinLaw" = some m.cls := findClass_of_methodNamed Bd.named
  have hnm := (name_of_methodNamed Bd.named Bd.method).1
  have X0 : Stand p l e ({ frames := 0, cells := 0, slots := 0, locals := 0 } : Room) s m #[(.int p1)] below meth c s₁ [] 0 0 := Stand.of_body Bd
  have e0 : s₁.heap = h0 := by rw [← hh, Bd.state]; rfl
  have N0 := Fr.nil n0
  have pre0 : ∀ t, Steps p.tables e below (s₁.setTop (mkF m 0 #[.val (.int p1)] [])) t → Steps p.tables e below (s₁.setTop (entryFrame m #[(.int p1)] 1)) t := fun t k => castTop (ef_4 m p1) k
  -- 3. LAWS
  obtain ⟨T3, X3, e3, st3⟩ := getS2 X0 hx hZ hown (host := "") (Or.inl (hw _ (List.mem_of_getElem? (i := 52) rfl))) Via.refl e0 S_WAITS_AGAIN (g := (mkF m 31 #[.val (.int p1)] [])) rfl (hb hby d4_31)
  obtain ⟨fs, hr, hrun, hended, hW, hsame⟩ := X3.leave (v := some (.ref a_WAITS_AGAIN)) (fun h => by rw [Bd.returns] at h; cases h)
  refine ⟨_, _, pre0 _ ?_, hrun, hended, _, _, rfl, ?_, ⟨_, rfl⟩, hW, hsame.mono (by decide) (by decide)⟩
  -- 4. STEPS
  · show Steps p.tables e below (s₁.setTop (mkF m 0 #[.val (.int p1)] [])) _
    refine XS.iloadN X0.here hx rfl (hb hby d4_0) rfl ?_
    show Steps p.tables e below (s₁.setTop (mkF m 1 #[.val (.int p1)] [(.int p1)])) _
    refine XS.ifYes X0.here hx rfl (pc0 := 1) (pc' := 8) rfl (hb hby d4_1) rfl ((if0 _ _).trans (feq hc1).2) (by decide) (by decide) ?_
    show Steps p.tables e below (s₁.setTop (mkF m 8 #[.val (.int p1)] [])) _
    refine XS.iloadN X0.here hx rfl (hb hby d4_8) rfl ?_
    show Steps p.tables e below (s₁.setTop (mkF m 9 #[.val (.int p1)] [(.int p1)])) _
    refine XS.iconst X0.here hx rfl (hb hby d4_9) ?_
    show Steps p.tables e below (s₁.setTop (mkF m 10 #[.val (.int p1)] [(.int (1 : Int32)), (.int p1)])) _
    refine XS.icmpYes X0.here hx rfl (pc0 := 10) (pc' := 17) rfl (hb hby d4_10) rfl (feq hc10).2 (by decide) (by decide) ?_
    show Steps p.tables e below (s₁.setTop (mkF m 17 #[.val (.int p1)] [])) _
    refine XS.iloadN X0.here hx rfl (hb hby d4_17) rfl ?_
    show Steps p.tables e below (s₁.setTop (mkF m 18 #[.val (.int p1)] [(.int p1)])) _
    refine XS.iconst X0.here hx rfl (hb hby d4_18) ?_
    show Steps p.tables e below (s₁.setTop (mkF m 19 #[.val (.int p1)] [(.int (2 : Int32)), (.int p1)])) _
    refine XS.icmpYes X0.here hx rfl (pc0 := 19) (pc' := 26) rfl (hb hby d4_19) rfl (feq hc19).2 (by decide) (by decide) ?_
    show Steps p.tables e below (s₁.setTop (mkF m 26 #[.val (.int p1)] [])) _
    refine XS.iloadN X0.here hx rfl (hb hby d4_26) rfl ?_
    show Steps p.tables e below (s₁.setTop (mkF m 27 #[.val (.int p1)] [(.int p1)])) _
    refine XS.iconst X0.here hx rfl (hb hby d4_27) ?_
    show Steps p.tables e below (s₁.setTop (mkF m 28 #[.val (.int p1)] [(.int (3 : Int32)), (.int p1)])) _
    refine XS.icmpNo X0.here hx rfl (hb hby d4_28) rfl (teq hc28).2 ?_
    show Steps p.tables e below (s₁.setTop (mkF m 31 #[.val (.int p1)] [])) _
    refine st3 _ ?_
    show Steps p.tables e below (T3.setTop (mkF m 34 #[.val (.int p1)] [(.ref a_WAITS_AGAIN)])) _
    jvm_step X3.here [X3.here.top, hx, (hb hby d4_34), X3.method', Bd.returns, Value.isRef, FieldType.isReference]
    first | (intro acts; rw [hr _ acts rfl rfl rfl]) | rw [hr _ _ rfl rfl rfl]
    exact Steps.refl _
  · show Q4_k3 Z a_NONE a_WAITS a_WAITS_NO_MORE a_FALLS_DUE_AFTER_WAITING a_WAITS_AGAIN a_FALLS_DUE a_TAKEN_BACK a_VALUES kV h0 n0 _ T3.heap _
    rw [e3]
    exact ⟨rfl, N0, rfl⟩
theorem d4_35 : decode method_3_code 35 = .ok (.iload_n 0, 1) := by decide +kernel
theorem d4_36 : decode method_3_code 36 = .ok (.iconst 4, 1) := by decide +kernel
theorem d4_37 : decode method_3_code 37 = .ok (.if_icmp .ne 7, 3) := by decide +kernel
theorem d4_40 : decode method_3_code 40 = .ok (.getstatic 19, 3) := by decide +kernel
theorem d4_43 : decode method_3_code 43 = .ok (.areturn, 1) := by decide +kernel
def Q4_k4 (Z : State) (a_NONE a_WAITS a_WAITS_NO_MORE a_FALLS_DUE_AFTER_WAITING a_WAITS_AGAIN a_FALLS_DUE a_TAKEN_BACK a_VALUES : Addr) (kV : ClassId) (h0 : Heap) (n0 : Nat) (v : Option Value) (h : Heap) (L : List Loc) : Prop := v = some (.ref a_FALLS_DUE_AFTER_WAITING) ∧ Fr n0 L ∧ h = h0
set_option maxRecDepth 65536 in
set_option maxHeartbeats 40000000 in
theorem rm4_k4 (l : Launch) (Z : State) (a0 : Array Value) (hw : ∀ d ∈ tables_1, d.before a0 Z = true) (ws : List Jvm.Cond) (p1 : Int32) (a_NONE a_WAITS a_WAITS_NO_MORE a_FALLS_DUE_AFTER_WAITING a_WAITS_AGAIN a_FALLS_DUE a_TAKEN_BACK a_VALUES : Addr) (kV : ClassId) (h0 : Heap) (n0 : Nat) (Z0 : n0 ≤ h0.size) (WW : Own Z h0 a_NONE a_WAITS a_WAITS_NO_MORE a_FALLS_DUE_AFTER_WAITING a_WAITS_AGAIN a_FALLS_DUE a_TAKEN_BACK a_VALUES kV) (hc1 : ¬ (p1 = (0 : Int32))) (hc10 : ¬ (p1 = (1 : Int32))) (hc19 : ¬ (p1 = (2 : Int32))) (hc28 : ¬ (p1 = (3 : Int32))) (hc37 : p1 = (4 : Int32)) :
    MetFree l (⟨"com/example/acompte/acompte/VatOppositePinLaw", "expected", "(I)Lcom/example/acompte/acompte/DocumentKind$Vat;"⟩ : MethodName) (head1 (Jvm.Cond.code (⟨"com/example/acompte/acompte/VatOppositePinLaw", "expected", "(I)Lcom/example/acompte/acompte/DocumentKind$Vat;"⟩ : MethodName) method_3_code 1 (some (.object "com/example/acompte/acompte/DocumentKind$Vat")) :: ws) ({ frames := 0, cells := 0, slots := 0, locals := 0 } : Room)) (fun a U => a = #[(.int p1)] ∧ Z.Warmed39 U.vm ∧ U.heap = h0) (fun _ _ _ _ _ => True) (fun _ U o U' => ∃ v L, o = .returned v ∧ Q4_k4 Z a_NONE a_WAITS a_WAITS_NO_MORE a_FALLS_DUE_AFTER_WAITING a_WAITS_AGAIN a_FALLS_DUE a_TAKEN_BACK a_VALUES kV h0 n0 v U'.heap L ∧ FrameEnd U o U' L ({ frames := 0, cells := 0, slots := 0, locals := 0 } : Room).cells ({ frames := 0, cells := 0, slots := 0, locals := 0 } : Room).slots) := by
  refine MetFree.of_bodySF (plainFor_of_name pn_4) hisR ?_
  intro p e s m args below meth c s₁ Bd hml0 hP hK
  have WW0 := WW
  obtain ⟨S_NONE, S_WAITS, S_WAITS_NO_MORE, S_FALLS_DUE_AFTER_WAITING, S_WAITS_AGAIN, S_FALLS_DUE, S_TAKEN_BACK, S_VALUES, E_NONE, E_WAITS, E_WAITS_NO_MORE, E_FALLS_DUE_AFTER_WAITING, E_WAITS_AGAIN, E_FALLS_DUE, E_TAKEN_BACK, E_VALUES, Fw_NONE, Fw_WAITS, Fw_WAITS_NO_MORE, Fw_FALLS_DUE_AFTER_WAITING, Fw_WAITS_AGAIN, Fw_FALLS_DUE, Fw_TAKEN_BACK, Fd_NONE, Fd_WAITS, Fd_WAITS_NO_MORE, Fd_FALLS_DUE_AFTER_WAITING, Fd_WAITS_AGAIN, Fd_FALLS_DUE, Fd_TAKEN_BACK, V_VALUES⟩ := WW0
  obtain ⟨rfl, hZ, hh⟩ := hP
  have hx := Bd.exec
  have hby := Bd.bytes
  have hml : c.maxLocals = 1 := hml0
  have hown : s.vm.findClass "com/example/acompte/acompte/VatOppositePinLaw" = some m.cls := findClass_of_methodNamed Bd.named
  have hnm := (name_of_methodNamed Bd.named Bd.method).1
  have X0 : Stand p l e ({ frames := 0, cells := 0, slots := 0, locals := 0 } : Room) s m #[(.int p1)] below meth c s₁ [] 0 0 := Stand.of_body Bd
  have e0 : s₁.heap = h0 := by rw [← hh, Bd.state]; rfl
  have N0 := Fr.nil n0
  have pre0 : ∀ t, Steps p.tables e below (s₁.setTop (mkF m 0 #[.val (.int p1)] [])) t → Steps p.tables e below (s₁.setTop (entryFrame m #[(.int p1)] 1)) t := fun t k => castTop (ef_4 m p1) k
  -- 3. LAWS
  obtain ⟨T3, X3, e3, st3⟩ := getS2 X0 hx hZ hown (host := "") (Or.inl (hw _ (List.mem_of_getElem? (i := 51) rfl))) Via.refl e0 S_FALLS_DUE_AFTER_WAITING (g := (mkF m 40 #[.val (.int p1)] [])) rfl (hb hby d4_40)
  obtain ⟨fs, hr, hrun, hended, hW, hsame⟩ := X3.leave (v := some (.ref a_FALLS_DUE_AFTER_WAITING)) (fun h => by rw [Bd.returns] at h; cases h)
  refine ⟨_, _, pre0 _ ?_, hrun, hended, _, _, rfl, ?_, ⟨_, rfl⟩, hW, hsame.mono (by decide) (by decide)⟩
  -- 4. STEPS
  · show Steps p.tables e below (s₁.setTop (mkF m 0 #[.val (.int p1)] [])) _
    refine XS.iloadN X0.here hx rfl (hb hby d4_0) rfl ?_
    show Steps p.tables e below (s₁.setTop (mkF m 1 #[.val (.int p1)] [(.int p1)])) _
    refine XS.ifYes X0.here hx rfl (pc0 := 1) (pc' := 8) rfl (hb hby d4_1) rfl ((if0 _ _).trans (feq hc1).2) (by decide) (by decide) ?_
    show Steps p.tables e below (s₁.setTop (mkF m 8 #[.val (.int p1)] [])) _
    refine XS.iloadN X0.here hx rfl (hb hby d4_8) rfl ?_
    show Steps p.tables e below (s₁.setTop (mkF m 9 #[.val (.int p1)] [(.int p1)])) _
    refine XS.iconst X0.here hx rfl (hb hby d4_9) ?_
    show Steps p.tables e below (s₁.setTop (mkF m 10 #[.val (.int p1)] [(.int (1 : Int32)), (.int p1)])) _
    refine XS.icmpYes X0.here hx rfl (pc0 := 10) (pc' := 17) rfl (hb hby d4_10) rfl (feq hc10).2 (by decide) (by decide) ?_
    show Steps p.tables e below (s₁.setTop (mkF m 17 #[.val (.int p1)] [])) _
    refine XS.iloadN X0.here hx rfl (hb hby d4_17) rfl ?_
    show Steps p.tables e below (s₁.setTop (mkF m 18 #[.val (.int p1)] [(.int p1)])) _
    refine XS.iconst X0.here hx rfl (hb hby d4_18) ?_
    show Steps p.tables e below (s₁.setTop (mkF m 19 #[.val (.int p1)] [(.int (2 : Int32)), (.int p1)])) _
    refine XS.icmpYes X0.here hx rfl (pc0 := 19) (pc' := 26) rfl (hb hby d4_19) rfl (feq hc19).2 (by decide) (by decide) ?_
    show Steps p.tables e below (s₁.setTop (mkF m 26 #[.val (.int p1)] [])) _
    refine XS.iloadN X0.here hx rfl (hb hby d4_26) rfl ?_
    show Steps p.tables e below (s₁.setTop (mkF m 27 #[.val (.int p1)] [(.int p1)])) _
    refine XS.iconst X0.here hx rfl (hb hby d4_27) ?_
    show Steps p.tables e below (s₁.setTop (mkF m 28 #[.val (.int p1)] [(.int (3 : Int32)), (.int p1)])) _
    refine XS.icmpYes X0.here hx rfl (pc0 := 28) (pc' := 35) rfl (hb hby d4_28) rfl (feq hc28).2 (by decide) (by decide) ?_
    show Steps p.tables e below (s₁.setTop (mkF m 35 #[.val (.int p1)] [])) _
    refine XS.iloadN X0.here hx rfl (hb hby d4_35) rfl ?_
    show Steps p.tables e below (s₁.setTop (mkF m 36 #[.val (.int p1)] [(.int p1)])) _
    refine XS.iconst X0.here hx rfl (hb hby d4_36) ?_
    show Steps p.tables e below (s₁.setTop (mkF m 37 #[.val (.int p1)] [(.int (4 : Int32)), (.int p1)])) _
    refine XS.icmpNo X0.here hx rfl (hb hby d4_37) rfl (teq hc37).2 ?_
    show Steps p.tables e below (s₁.setTop (mkF m 40 #[.val (.int p1)] [])) _
    refine st3 _ ?_
    show Steps p.tables e below (T3.setTop (mkF m 43 #[.val (.int p1)] [(.ref a_FALLS_DUE_AFTER_WAITING)])) _
    jvm_step X3.here [X3.here.top, hx, (hb hby d4_43), X3.method', Bd.returns, Value.isRef, FieldType.isReference]
    first | (intro acts; rw [hr _ acts rfl rfl rfl]) | rw [hr _ _ rfl rfl rfl]
    exact Steps.refl _
  · show Q4_k4 Z a_NONE a_WAITS a_WAITS_NO_MORE a_FALLS_DUE_AFTER_WAITING a_WAITS_AGAIN a_FALLS_DUE a_TAKEN_BACK a_VALUES kV h0 n0 _ T3.heap _
    rw [e3]
    exact ⟨rfl, N0, rfl⟩
theorem d4_44 : decode method_3_code 44 = .ok (.iload_n 0, 1) := by decide +kernel
theorem d4_45 : decode method_3_code 45 = .ok (.iconst 5, 1) := by decide +kernel
theorem d4_46 : decode method_3_code 46 = .ok (.if_icmp .ne 7, 3) := by decide +kernel
theorem d4_49 : decode method_3_code 49 = .ok (.getstatic 28, 3) := by decide +kernel
theorem d4_52 : decode method_3_code 52 = .ok (.areturn, 1) := by decide +kernel
def Q4_k5 (Z : State) (a_NONE a_WAITS a_WAITS_NO_MORE a_FALLS_DUE_AFTER_WAITING a_WAITS_AGAIN a_FALLS_DUE a_TAKEN_BACK a_VALUES : Addr) (kV : ClassId) (h0 : Heap) (n0 : Nat) (v : Option Value) (h : Heap) (L : List Loc) : Prop := v = some (.ref a_TAKEN_BACK) ∧ Fr n0 L ∧ h = h0
set_option maxRecDepth 65536 in
set_option maxHeartbeats 40000000 in
theorem rm4_k5 (l : Launch) (Z : State) (a0 : Array Value) (hw : ∀ d ∈ tables_1, d.before a0 Z = true) (ws : List Jvm.Cond) (p1 : Int32) (a_NONE a_WAITS a_WAITS_NO_MORE a_FALLS_DUE_AFTER_WAITING a_WAITS_AGAIN a_FALLS_DUE a_TAKEN_BACK a_VALUES : Addr) (kV : ClassId) (h0 : Heap) (n0 : Nat) (Z0 : n0 ≤ h0.size) (WW : Own Z h0 a_NONE a_WAITS a_WAITS_NO_MORE a_FALLS_DUE_AFTER_WAITING a_WAITS_AGAIN a_FALLS_DUE a_TAKEN_BACK a_VALUES kV) (hc1 : ¬ (p1 = (0 : Int32))) (hc10 : ¬ (p1 = (1 : Int32))) (hc19 : ¬ (p1 = (2 : Int32))) (hc28 : ¬ (p1 = (3 : Int32))) (hc37 : ¬ (p1 = (4 : Int32))) (hc46 : p1 = (5 : Int32)) :
    MetFree l (⟨"com/example/acompte/acompte/VatOppositePinLaw", "expected", "(I)Lcom/example/acompte/acompte/DocumentKind$Vat;"⟩ : MethodName) (head1 (Jvm.Cond.code (⟨"com/example/acompte/acompte/VatOppositePinLaw", "expected", "(I)Lcom/example/acompte/acompte/DocumentKind$Vat;"⟩ : MethodName) method_3_code 1 (some (.object "com/example/acompte/acompte/DocumentKind$Vat")) :: ws) ({ frames := 0, cells := 0, slots := 0, locals := 0 } : Room)) (fun a U => a = #[(.int p1)] ∧ Z.Warmed39 U.vm ∧ U.heap = h0) (fun _ _ _ _ _ => True) (fun _ U o U' => ∃ v L, o = .returned v ∧ Q4_k5 Z a_NONE a_WAITS a_WAITS_NO_MORE a_FALLS_DUE_AFTER_WAITING a_WAITS_AGAIN a_FALLS_DUE a_TAKEN_BACK a_VALUES kV h0 n0 v U'.heap L ∧ FrameEnd U o U' L ({ frames := 0, cells := 0, slots := 0, locals := 0 } : Room).cells ({ frames := 0, cells := 0, slots := 0, locals := 0 } : Room).slots) := by
  refine MetFree.of_bodySF (plainFor_of_name pn_4) hisR ?_
  intro p e s m args below meth c s₁ Bd hml0 hP hK
  have WW0 := WW
  obtain ⟨S_NONE, S_WAITS, S_WAITS_NO_MORE, S_FALLS_DUE_AFTER_WAITING, S_WAITS_AGAIN, S_FALLS_DUE, S_TAKEN_BACK, S_VALUES, E_NONE, E_WAITS, E_WAITS_NO_MORE, E_FALLS_DUE_AFTER_WAITING, E_WAITS_AGAIN, E_FALLS_DUE, E_TAKEN_BACK, E_VALUES, Fw_NONE, Fw_WAITS, Fw_WAITS_NO_MORE, Fw_FALLS_DUE_AFTER_WAITING, Fw_WAITS_AGAIN, Fw_FALLS_DUE, Fw_TAKEN_BACK, Fd_NONE, Fd_WAITS, Fd_WAITS_NO_MORE, Fd_FALLS_DUE_AFTER_WAITING, Fd_WAITS_AGAIN, Fd_FALLS_DUE, Fd_TAKEN_BACK, V_VALUES⟩ := WW0
  obtain ⟨rfl, hZ, hh⟩ := hP
  have hx := Bd.exec
  have hby := Bd.bytes
  have hml : c.maxLocals = 1 := hml0
  have hown : s.vm.findClass "com/example/acompte/acompte/VatOppositePinLaw" = some m.cls := findClass_of_methodNamed Bd.named
  have hnm := (name_of_methodNamed Bd.named Bd.method).1
  have X0 : Stand p l e ({ frames := 0, cells := 0, slots := 0, locals := 0 } : Room) s m #[(.int p1)] below meth c s₁ [] 0 0 := Stand.of_body Bd
  have e0 : s₁.heap = h0 := by rw [← hh, Bd.state]; rfl
  have N0 := Fr.nil n0
  have pre0 : ∀ t, Steps p.tables e below (s₁.setTop (mkF m 0 #[.val (.int p1)] [])) t → Steps p.tables e below (s₁.setTop (entryFrame m #[(.int p1)] 1)) t := fun t k => castTop (ef_4 m p1) k
  -- 3. LAWS
  obtain ⟨T3, X3, e3, st3⟩ := getS2 X0 hx hZ hown (host := "") (Or.inl (hw _ (List.mem_of_getElem? (i := 54) rfl))) Via.refl e0 S_TAKEN_BACK (g := (mkF m 49 #[.val (.int p1)] [])) rfl (hb hby d4_49)
  obtain ⟨fs, hr, hrun, hended, hW, hsame⟩ := X3.leave (v := some (.ref a_TAKEN_BACK)) (fun h => by rw [Bd.returns] at h; cases h)
  refine ⟨_, _, pre0 _ ?_, hrun, hended, _, _, rfl, ?_, ⟨_, rfl⟩, hW, hsame.mono (by decide) (by decide)⟩
  -- 4. STEPS
  · show Steps p.tables e below (s₁.setTop (mkF m 0 #[.val (.int p1)] [])) _
    refine XS.iloadN X0.here hx rfl (hb hby d4_0) rfl ?_
    show Steps p.tables e below (s₁.setTop (mkF m 1 #[.val (.int p1)] [(.int p1)])) _
    refine XS.ifYes X0.here hx rfl (pc0 := 1) (pc' := 8) rfl (hb hby d4_1) rfl ((if0 _ _).trans (feq hc1).2) (by decide) (by decide) ?_
    show Steps p.tables e below (s₁.setTop (mkF m 8 #[.val (.int p1)] [])) _
    refine XS.iloadN X0.here hx rfl (hb hby d4_8) rfl ?_
    show Steps p.tables e below (s₁.setTop (mkF m 9 #[.val (.int p1)] [(.int p1)])) _
    refine XS.iconst X0.here hx rfl (hb hby d4_9) ?_
    show Steps p.tables e below (s₁.setTop (mkF m 10 #[.val (.int p1)] [(.int (1 : Int32)), (.int p1)])) _
    refine XS.icmpYes X0.here hx rfl (pc0 := 10) (pc' := 17) rfl (hb hby d4_10) rfl (feq hc10).2 (by decide) (by decide) ?_
    show Steps p.tables e below (s₁.setTop (mkF m 17 #[.val (.int p1)] [])) _
    refine XS.iloadN X0.here hx rfl (hb hby d4_17) rfl ?_
    show Steps p.tables e below (s₁.setTop (mkF m 18 #[.val (.int p1)] [(.int p1)])) _
    refine XS.iconst X0.here hx rfl (hb hby d4_18) ?_
    show Steps p.tables e below (s₁.setTop (mkF m 19 #[.val (.int p1)] [(.int (2 : Int32)), (.int p1)])) _
    refine XS.icmpYes X0.here hx rfl (pc0 := 19) (pc' := 26) rfl (hb hby d4_19) rfl (feq hc19).2 (by decide) (by decide) ?_
    show Steps p.tables e below (s₁.setTop (mkF m 26 #[.val (.int p1)] [])) _
    refine XS.iloadN X0.here hx rfl (hb hby d4_26) rfl ?_
    show Steps p.tables e below (s₁.setTop (mkF m 27 #[.val (.int p1)] [(.int p1)])) _
    refine XS.iconst X0.here hx rfl (hb hby d4_27) ?_
    show Steps p.tables e below (s₁.setTop (mkF m 28 #[.val (.int p1)] [(.int (3 : Int32)), (.int p1)])) _
    refine XS.icmpYes X0.here hx rfl (pc0 := 28) (pc' := 35) rfl (hb hby d4_28) rfl (feq hc28).2 (by decide) (by decide) ?_
    show Steps p.tables e below (s₁.setTop (mkF m 35 #[.val (.int p1)] [])) _
    refine XS.iloadN X0.here hx rfl (hb hby d4_35) rfl ?_
    show Steps p.tables e below (s₁.setTop (mkF m 36 #[.val (.int p1)] [(.int p1)])) _
    refine XS.iconst X0.here hx rfl (hb hby d4_36) ?_
    show Steps p.tables e below (s₁.setTop (mkF m 37 #[.val (.int p1)] [(.int (4 : Int32)), (.int p1)])) _
    refine XS.icmpYes X0.here hx rfl (pc0 := 37) (pc' := 44) rfl (hb hby d4_37) rfl (feq hc37).2 (by decide) (by decide) ?_
    show Steps p.tables e below (s₁.setTop (mkF m 44 #[.val (.int p1)] [])) _
    refine XS.iloadN X0.here hx rfl (hb hby d4_44) rfl ?_
    show Steps p.tables e below (s₁.setTop (mkF m 45 #[.val (.int p1)] [(.int p1)])) _
    refine XS.iconst X0.here hx rfl (hb hby d4_45) ?_
    show Steps p.tables e below (s₁.setTop (mkF m 46 #[.val (.int p1)] [(.int (5 : Int32)), (.int p1)])) _
    refine XS.icmpNo X0.here hx rfl (hb hby d4_46) rfl (teq hc46).2 ?_
    show Steps p.tables e below (s₁.setTop (mkF m 49 #[.val (.int p1)] [])) _
    refine st3 _ ?_
    show Steps p.tables e below (T3.setTop (mkF m 52 #[.val (.int p1)] [(.ref a_TAKEN_BACK)])) _
    jvm_step X3.here [X3.here.top, hx, (hb hby d4_52), X3.method', Bd.returns, Value.isRef, FieldType.isReference]
    first | (intro acts; rw [hr _ acts rfl rfl rfl]) | rw [hr _ _ rfl rfl rfl]
    exact Steps.refl _
  · show Q4_k5 Z a_NONE a_WAITS a_WAITS_NO_MORE a_FALLS_DUE_AFTER_WAITING a_WAITS_AGAIN a_FALLS_DUE a_TAKEN_BACK a_VALUES kV h0 n0 _ T3.heap _
    rw [e3]
    exact ⟨rfl, N0, rfl⟩
theorem d4_53 : decode method_3_code 53 = .ok (.getstatic 25, 3) := by decide +kernel
theorem d4_56 : decode method_3_code 56 = .ok (.areturn, 1) := by decide +kernel
def Q4_k6 (Z : State) (a_NONE a_WAITS a_WAITS_NO_MORE a_FALLS_DUE_AFTER_WAITING a_WAITS_AGAIN a_FALLS_DUE a_TAKEN_BACK a_VALUES : Addr) (kV : ClassId) (h0 : Heap) (n0 : Nat) (v : Option Value) (h : Heap) (L : List Loc) : Prop := v = some (.ref a_FALLS_DUE) ∧ Fr n0 L ∧ h = h0
set_option maxRecDepth 65536 in
set_option maxHeartbeats 40000000 in
theorem rm4_k6 (l : Launch) (Z : State) (a0 : Array Value) (hw : ∀ d ∈ tables_1, d.before a0 Z = true) (ws : List Jvm.Cond) (p1 : Int32) (a_NONE a_WAITS a_WAITS_NO_MORE a_FALLS_DUE_AFTER_WAITING a_WAITS_AGAIN a_FALLS_DUE a_TAKEN_BACK a_VALUES : Addr) (kV : ClassId) (h0 : Heap) (n0 : Nat) (Z0 : n0 ≤ h0.size) (WW : Own Z h0 a_NONE a_WAITS a_WAITS_NO_MORE a_FALLS_DUE_AFTER_WAITING a_WAITS_AGAIN a_FALLS_DUE a_TAKEN_BACK a_VALUES kV) (hc1 : ¬ (p1 = (0 : Int32))) (hc10 : ¬ (p1 = (1 : Int32))) (hc19 : ¬ (p1 = (2 : Int32))) (hc28 : ¬ (p1 = (3 : Int32))) (hc37 : ¬ (p1 = (4 : Int32))) (hc46 : ¬ (p1 = (5 : Int32))) :
    MetFree l (⟨"com/example/acompte/acompte/VatOppositePinLaw", "expected", "(I)Lcom/example/acompte/acompte/DocumentKind$Vat;"⟩ : MethodName) (head1 (Jvm.Cond.code (⟨"com/example/acompte/acompte/VatOppositePinLaw", "expected", "(I)Lcom/example/acompte/acompte/DocumentKind$Vat;"⟩ : MethodName) method_3_code 1 (some (.object "com/example/acompte/acompte/DocumentKind$Vat")) :: ws) ({ frames := 0, cells := 0, slots := 0, locals := 0 } : Room)) (fun a U => a = #[(.int p1)] ∧ Z.Warmed39 U.vm ∧ U.heap = h0) (fun _ _ _ _ _ => True) (fun _ U o U' => ∃ v L, o = .returned v ∧ Q4_k6 Z a_NONE a_WAITS a_WAITS_NO_MORE a_FALLS_DUE_AFTER_WAITING a_WAITS_AGAIN a_FALLS_DUE a_TAKEN_BACK a_VALUES kV h0 n0 v U'.heap L ∧ FrameEnd U o U' L ({ frames := 0, cells := 0, slots := 0, locals := 0 } : Room).cells ({ frames := 0, cells := 0, slots := 0, locals := 0 } : Room).slots) := by
  refine MetFree.of_bodySF (plainFor_of_name pn_4) hisR ?_
  intro p e s m args below meth c s₁ Bd hml0 hP hK
  have WW0 := WW
  obtain ⟨S_NONE, S_WAITS, S_WAITS_NO_MORE, S_FALLS_DUE_AFTER_WAITING, S_WAITS_AGAIN, S_FALLS_DUE, S_TAKEN_BACK, S_VALUES, E_NONE, E_WAITS, E_WAITS_NO_MORE, E_FALLS_DUE_AFTER_WAITING, E_WAITS_AGAIN, E_FALLS_DUE, E_TAKEN_BACK, E_VALUES, Fw_NONE, Fw_WAITS, Fw_WAITS_NO_MORE, Fw_FALLS_DUE_AFTER_WAITING, Fw_WAITS_AGAIN, Fw_FALLS_DUE, Fw_TAKEN_BACK, Fd_NONE, Fd_WAITS, Fd_WAITS_NO_MORE, Fd_FALLS_DUE_AFTER_WAITING, Fd_WAITS_AGAIN, Fd_FALLS_DUE, Fd_TAKEN_BACK, V_VALUES⟩ := WW0
  obtain ⟨rfl, hZ, hh⟩ := hP
  have hx := Bd.exec
  have hby := Bd.bytes
  have hml : c.maxLocals = 1 := hml0
  have hown : s.vm.findClass "com/example/acompte/acompte/VatOppositePinLaw" = some m.cls := findClass_of_methodNamed Bd.named
  have hnm := (name_of_methodNamed Bd.named Bd.method).1
  have X0 : Stand p l e ({ frames := 0, cells := 0, slots := 0, locals := 0 } : Room) s m #[(.int p1)] below meth c s₁ [] 0 0 := Stand.of_body Bd
  have e0 : s₁.heap = h0 := by rw [← hh, Bd.state]; rfl
  have N0 := Fr.nil n0
  have pre0 : ∀ t, Steps p.tables e below (s₁.setTop (mkF m 0 #[.val (.int p1)] [])) t → Steps p.tables e below (s₁.setTop (entryFrame m #[(.int p1)] 1)) t := fun t k => castTop (ef_4 m p1) k
  -- 3. LAWS
  obtain ⟨T3, X3, e3, st3⟩ := getS2 X0 hx hZ hown (host := "") (Or.inl (hw _ (List.mem_of_getElem? (i := 53) rfl))) Via.refl e0 S_FALLS_DUE (g := (mkF m 53 #[.val (.int p1)] [])) rfl (hb hby d4_53)
  obtain ⟨fs, hr, hrun, hended, hW, hsame⟩ := X3.leave (v := some (.ref a_FALLS_DUE)) (fun h => by rw [Bd.returns] at h; cases h)
  refine ⟨_, _, pre0 _ ?_, hrun, hended, _, _, rfl, ?_, ⟨_, rfl⟩, hW, hsame.mono (by decide) (by decide)⟩
  -- 4. STEPS
  · show Steps p.tables e below (s₁.setTop (mkF m 0 #[.val (.int p1)] [])) _
    refine XS.iloadN X0.here hx rfl (hb hby d4_0) rfl ?_
    show Steps p.tables e below (s₁.setTop (mkF m 1 #[.val (.int p1)] [(.int p1)])) _
    refine XS.ifYes X0.here hx rfl (pc0 := 1) (pc' := 8) rfl (hb hby d4_1) rfl ((if0 _ _).trans (feq hc1).2) (by decide) (by decide) ?_
    show Steps p.tables e below (s₁.setTop (mkF m 8 #[.val (.int p1)] [])) _
    refine XS.iloadN X0.here hx rfl (hb hby d4_8) rfl ?_
    show Steps p.tables e below (s₁.setTop (mkF m 9 #[.val (.int p1)] [(.int p1)])) _
    refine XS.iconst X0.here hx rfl (hb hby d4_9) ?_
    show Steps p.tables e below (s₁.setTop (mkF m 10 #[.val (.int p1)] [(.int (1 : Int32)), (.int p1)])) _
    refine XS.icmpYes X0.here hx rfl (pc0 := 10) (pc' := 17) rfl (hb hby d4_10) rfl (feq hc10).2 (by decide) (by decide) ?_
    show Steps p.tables e below (s₁.setTop (mkF m 17 #[.val (.int p1)] [])) _
    refine XS.iloadN X0.here hx rfl (hb hby d4_17) rfl ?_
    show Steps p.tables e below (s₁.setTop (mkF m 18 #[.val (.int p1)] [(.int p1)])) _
    refine XS.iconst X0.here hx rfl (hb hby d4_18) ?_
    show Steps p.tables e below (s₁.setTop (mkF m 19 #[.val (.int p1)] [(.int (2 : Int32)), (.int p1)])) _
    refine XS.icmpYes X0.here hx rfl (pc0 := 19) (pc' := 26) rfl (hb hby d4_19) rfl (feq hc19).2 (by decide) (by decide) ?_
    show Steps p.tables e below (s₁.setTop (mkF m 26 #[.val (.int p1)] [])) _
    refine XS.iloadN X0.here hx rfl (hb hby d4_26) rfl ?_
    show Steps p.tables e below (s₁.setTop (mkF m 27 #[.val (.int p1)] [(.int p1)])) _
    refine XS.iconst X0.here hx rfl (hb hby d4_27) ?_
    show Steps p.tables e below (s₁.setTop (mkF m 28 #[.val (.int p1)] [(.int (3 : Int32)), (.int p1)])) _
    refine XS.icmpYes X0.here hx rfl (pc0 := 28) (pc' := 35) rfl (hb hby d4_28) rfl (feq hc28).2 (by decide) (by decide) ?_
    show Steps p.tables e below (s₁.setTop (mkF m 35 #[.val (.int p1)] [])) _
    refine XS.iloadN X0.here hx rfl (hb hby d4_35) rfl ?_
    show Steps p.tables e below (s₁.setTop (mkF m 36 #[.val (.int p1)] [(.int p1)])) _
    refine XS.iconst X0.here hx rfl (hb hby d4_36) ?_
    show Steps p.tables e below (s₁.setTop (mkF m 37 #[.val (.int p1)] [(.int (4 : Int32)), (.int p1)])) _
    refine XS.icmpYes X0.here hx rfl (pc0 := 37) (pc' := 44) rfl (hb hby d4_37) rfl (feq hc37).2 (by decide) (by decide) ?_
    show Steps p.tables e below (s₁.setTop (mkF m 44 #[.val (.int p1)] [])) _
    refine XS.iloadN X0.here hx rfl (hb hby d4_44) rfl ?_
    show Steps p.tables e below (s₁.setTop (mkF m 45 #[.val (.int p1)] [(.int p1)])) _
    refine XS.iconst X0.here hx rfl (hb hby d4_45) ?_
    show Steps p.tables e below (s₁.setTop (mkF m 46 #[.val (.int p1)] [(.int (5 : Int32)), (.int p1)])) _
    refine XS.icmpYes X0.here hx rfl (pc0 := 46) (pc' := 53) rfl (hb hby d4_46) rfl (feq hc46).2 (by decide) (by decide) ?_
    show Steps p.tables e below (s₁.setTop (mkF m 53 #[.val (.int p1)] [])) _
    refine st3 _ ?_
    show Steps p.tables e below (T3.setTop (mkF m 56 #[.val (.int p1)] [(.ref a_FALLS_DUE)])) _
    jvm_step X3.here [X3.here.top, hx, (hb hby d4_56), X3.method', Bd.returns, Value.isRef, FieldType.isReference]
    first | (intro acts; rw [hr _ acts rfl rfl rfl]) | rw [hr _ _ rfl rfl rfl]
    exact Steps.refl _
  · show Q4_k6 Z a_NONE a_WAITS a_WAITS_NO_MORE a_FALLS_DUE_AFTER_WAITING a_WAITS_AGAIN a_FALLS_DUE a_TAKEN_BACK a_VALUES kV h0 n0 _ T3.heap _
    rw [e3]
    exact ⟨rfl, N0, rfl⟩
theorem d5_0 : decode prog_12_method_4_code 0 = .ok (.aload_n 0, 1) := by decide +kernel
theorem d5_1 : decode prog_12_method_4_code 1 = .ok (.getfield 44, 3) := by decide +kernel
theorem d5_4 : decode prog_12_method_4_code 4 = .ok (.ireturn, 1) := by decide +kernel
theorem pn_5 : plainName "com/example/acompte/acompte/DocumentKind$Vat" = true := by first | (simp [plainName, overriddenIn]; done) | decide +kernel
theorem ef_5 (m : MethodId) (x0 : Addr) : entryFrame m #[(.ref x0)] 1 = mkF m 0 #[.val (.ref x0)] [] := by first | (simp [entryFrame, mkF, argsToLocals, Value.category]; done) | rfl
def Q5 (Z : State) (a1 : Addr) (w2 : Int32) (h0 : Heap) (n0 : Nat) (v : Option Value) (h : Heap) (L : List Loc) : Prop := v = some (.int w2) ∧ Fr n0 L ∧ h = h0
set_option maxRecDepth 65536 in
set_option maxHeartbeats 40000000 in
theorem rm5 (l : Launch) (Z : State) (a0 : Array Value) (hw : ∀ d ∈ tables_1, d.before a0 Z = true) (ws : List Jvm.Cond) (a1 : Addr) (w2 : Int32) (h0 : Heap) (n0 : Nat) (Z0 : n0 ≤ h0.size) (F_waiting_a1 : Fld Z h0 a1 "com/example/acompte/acompte/DocumentKind$Vat" "waiting" "I" (.int w2)) :
    MetFree l (⟨"com/example/acompte/acompte/DocumentKind$Vat", "waiting", "()I"⟩ : MethodName) (head1 (Jvm.Cond.code (⟨"com/example/acompte/acompte/DocumentKind$Vat", "waiting", "()I"⟩ : MethodName) prog_12_method_4_code 1 (some .int) :: ws) ({ frames := 0, cells := 0, slots := 0, locals := 0 } : Room)) (fun a U => a = #[(.ref a1)] ∧ Z.Warmed39 U.vm ∧ U.heap = h0) (fun _ _ _ _ _ => True) (fun _ U o U' => ∃ v L, o = .returned v ∧ Q5 Z a1 w2 h0 n0 v U'.heap L ∧ FrameEnd U o U' L ({ frames := 0, cells := 0, slots := 0, locals := 0 } : Room).cells ({ frames := 0, cells := 0, slots := 0, locals := 0 } : Room).slots) := by
  refine MetFree.of_bodySF (plainFor_of_name pn_5) hisR ?_
  intro p e s m args below meth c s₁ Bd hml0 hP hK
  obtain ⟨rfl, hZ, hh⟩ := hP
  have hx := Bd.exec
  have hby := Bd.bytes
  have hml : c.maxLocals = 1 := hml0
  have hown : s.vm.findClass "com/example/acompte/acompte/DocumentKind$Vat" = some m.cls := findClass_of_methodNamed Bd.named
  have hnm := (name_of_methodNamed Bd.named Bd.method).1
  have X0 : Stand p l e ({ frames := 0, cells := 0, slots := 0, locals := 0 } : Room) s m #[(.ref a1)] below meth c s₁ [] 0 0 := Stand.of_body Bd
  have e0 : s₁.heap = h0 := by rw [← hh, Bd.state]; rfl
  have N0 := Fr.nil n0
  have pre0 : ∀ t, Steps p.tables e below (s₁.setTop (mkF m 0 #[.val (.ref a1)] [])) t → Steps p.tables e below (s₁.setTop (entryFrame m #[(.ref a1)] 1)) t := fun t k => castTop (ef_5 m a1) k
  -- 3. LAWS
  obtain ⟨T3, X3, e3, st3⟩ := getF X0 hx hZ hown (host := "") (Or.inl (hw _ (List.mem_of_getElem? (i := 34) rfl))) Via.refl e0 F_waiting_a1 (g := (mkF m 1 #[.val (.ref a1)] [(.ref a1)])) rfl rfl (hb hby d5_1)
  obtain ⟨fs, hr, hrun, hended, hW, hsame⟩ := X3.leave (v := some (.int w2)) (fun h => by rw [Bd.returns] at h; cases h)
  refine ⟨_, _, pre0 _ ?_, hrun, hended, _, _, rfl, ?_, ⟨_, rfl⟩, hW, hsame.mono (by decide) (by decide)⟩
  -- 4. STEPS
  · show Steps p.tables e below (s₁.setTop (mkF m 0 #[.val (.ref a1)] [])) _
    refine XS.aloadN X0.here hx rfl (hb hby d5_0) rfl rfl ?_
    show Steps p.tables e below (s₁.setTop (mkF m 1 #[.val (.ref a1)] [(.ref a1)])) _
    refine st3 _ ?_
    show Steps p.tables e below (T3.setTop (mkF m 4 #[.val (.ref a1)] [(.int w2)])) _
    exact retI X3 hx Bd.returns (hb hby d5_4) hr      -- retI stands in the head ('lawwalk <made dir>' prints it)
  · show Q5 Z a1 w2 h0 n0 _ T3.heap _
    rw [e3]
    exact ⟨rfl, N0, rfl⟩
theorem d6_0 : decode prog_12_method_5_code 0 = .ok (.aload_n 0, 1) := by decide +kernel
theorem d6_1 : decode prog_12_method_5_code 1 = .ok (.getfield 48, 3) := by decide +kernel
theorem d6_4 : decode prog_12_method_5_code 4 = .ok (.ireturn, 1) := by decide +kernel
theorem pn_6 : plainName "com/example/acompte/acompte/DocumentKind$Vat" = true := by first | (simp [plainName, overriddenIn]; done) | decide +kernel
theorem ef_6 (m : MethodId) (x0 : Addr) : entryFrame m #[(.ref x0)] 1 = mkF m 0 #[.val (.ref x0)] [] := by first | (simp [entryFrame, mkF, argsToLocals, Value.category]; done) | rfl
def Q6 (Z : State) (a1 : Addr) (w2 : Int32) (h0 : Heap) (n0 : Nat) (v : Option Value) (h : Heap) (L : List Loc) : Prop := v = some (.int w2) ∧ Fr n0 L ∧ h = h0
set_option maxRecDepth 65536 in
set_option maxHeartbeats 40000000 in
theorem rm6 (l : Launch) (Z : State) (a0 : Array Value) (hw : ∀ d ∈ tables_1, d.before a0 Z = true) (ws : List Jvm.Cond) (a1 : Addr) (w2 : Int32) (h0 : Heap) (n0 : Nat) (Z0 : n0 ≤ h0.size) (F_due_a1 : Fld Z h0 a1 "com/example/acompte/acompte/DocumentKind$Vat" "due" "I" (.int w2)) :
    MetFree l (⟨"com/example/acompte/acompte/DocumentKind$Vat", "due", "()I"⟩ : MethodName) (head1 (Jvm.Cond.code (⟨"com/example/acompte/acompte/DocumentKind$Vat", "due", "()I"⟩ : MethodName) prog_12_method_5_code 1 (some .int) :: ws) ({ frames := 0, cells := 0, slots := 0, locals := 0 } : Room)) (fun a U => a = #[(.ref a1)] ∧ Z.Warmed39 U.vm ∧ U.heap = h0) (fun _ _ _ _ _ => True) (fun _ U o U' => ∃ v L, o = .returned v ∧ Q6 Z a1 w2 h0 n0 v U'.heap L ∧ FrameEnd U o U' L ({ frames := 0, cells := 0, slots := 0, locals := 0 } : Room).cells ({ frames := 0, cells := 0, slots := 0, locals := 0 } : Room).slots) := by
  refine MetFree.of_bodySF (plainFor_of_name pn_6) hisR ?_
  intro p e s m args below meth c s₁ Bd hml0 hP hK
  obtain ⟨rfl, hZ, hh⟩ := hP
  have hx := Bd.exec
  have hby := Bd.bytes
  have hml : c.maxLocals = 1 := hml0
  have hown : s.vm.findClass "com/example/acompte/acompte/DocumentKind$Vat" = some m.cls := findClass_of_methodNamed Bd.named
  have hnm := (name_of_methodNamed Bd.named Bd.method).1
  have X0 : Stand p l e ({ frames := 0, cells := 0, slots := 0, locals := 0 } : Room) s m #[(.ref a1)] below meth c s₁ [] 0 0 := Stand.of_body Bd
  have e0 : s₁.heap = h0 := by rw [← hh, Bd.state]; rfl
  have N0 := Fr.nil n0
  have pre0 : ∀ t, Steps p.tables e below (s₁.setTop (mkF m 0 #[.val (.ref a1)] [])) t → Steps p.tables e below (s₁.setTop (entryFrame m #[(.ref a1)] 1)) t := fun t k => castTop (ef_6 m a1) k
  -- 3. LAWS
  obtain ⟨T3, X3, e3, st3⟩ := getF X0 hx hZ hown (host := "") (Or.inl (hw _ (List.mem_of_getElem? (i := 36) rfl))) Via.refl e0 F_due_a1 (g := (mkF m 1 #[.val (.ref a1)] [(.ref a1)])) rfl rfl (hb hby d6_1)
  obtain ⟨fs, hr, hrun, hended, hW, hsame⟩ := X3.leave (v := some (.int w2)) (fun h => by rw [Bd.returns] at h; cases h)
  refine ⟨_, _, pre0 _ ?_, hrun, hended, _, _, rfl, ?_, ⟨_, rfl⟩, hW, hsame.mono (by decide) (by decide)⟩
  -- 4. STEPS
  · show Steps p.tables e below (s₁.setTop (mkF m 0 #[.val (.ref a1)] [])) _
    refine XS.aloadN X0.here hx rfl (hb hby d6_0) rfl rfl ?_
    show Steps p.tables e below (s₁.setTop (mkF m 1 #[.val (.ref a1)] [(.ref a1)])) _
    refine st3 _ ?_
    show Steps p.tables e below (T3.setTop (mkF m 4 #[.val (.ref a1)] [(.int w2)])) _
    exact retI X3 hx Bd.returns (hb hby d6_4) hr      -- retI stands in the head ('lawwalk <made dir>' prints it)
  · show Q6 Z a1 w2 h0 n0 _ T3.heap _
    rw [e3]
    exact ⟨rfl, N0, rfl⟩
theorem d2_0 : decode prog_12_method_6_code 0 = .ok (.aconst_null, 1) := by decide +kernel
theorem d2_1 : decode prog_12_method_6_code 1 = .ok (.astore_n 1, 1) := by decide +kernel
theorem d2_2 : decode prog_12_method_6_code 2 = .ok (.invokestatic 51, 3) := by decide +kernel
theorem d2_5 : decode prog_12_method_6_code 5 = .ok (.astore_n 2, 1) := by decide +kernel
theorem d2_6 : decode prog_12_method_6_code 6 = .ok (.aload_n 2, 1) := by decide +kernel
theorem d2_7 : decode prog_12_method_6_code 7 = .ok (.arraylength, 1) := by decide +kernel
theorem d2_8 : decode prog_12_method_6_code 8 = .ok (.istore_n 3, 1) := by decide +kernel
theorem d2_9 : decode prog_12_method_6_code 9 = .ok (.iconst 0, 1) := by decide +kernel
theorem d2_10 : decode prog_12_method_6_code 10 = .ok (.istore 4, 2) := by decide +kernel
theorem d2_12 : decode prog_12_method_6_code 12 = .ok (.iload 4, 2) := by decide +kernel
theorem d2_14 : decode prog_12_method_6_code 14 = .ok (.iload_n 3, 1) := by decide +kernel
theorem d2_15 : decode prog_12_method_6_code 15 = .ok (.if_icmp .ge 44, 3) := by decide +kernel
theorem d2_18 : decode prog_12_method_6_code 18 = .ok (.aload_n 2, 1) := by decide +kernel
theorem d2_19 : decode prog_12_method_6_code 19 = .ok (.iload 4, 2) := by decide +kernel
theorem d2_21 : decode prog_12_method_6_code 21 = .ok (.aaload, 1) := by decide +kernel
theorem d2_22 : decode prog_12_method_6_code 22 = .ok (.astore 5, 2) := by decide +kernel
theorem d2_24 : decode prog_12_method_6_code 24 = .ok (.aload 5, 2) := by decide +kernel
theorem d2_26 : decode prog_12_method_6_code 26 = .ok (.getfield 44, 3) := by decide +kernel
theorem d2_29 : decode prog_12_method_6_code 29 = .ok (.aload_n 0, 1) := by decide +kernel
theorem d2_30 : decode prog_12_method_6_code 30 = .ok (.getfield 44, 3) := by decide +kernel
theorem d2_33 : decode prog_12_method_6_code 33 = .ok (.ineg, 1) := by decide +kernel
theorem d2_34 : decode prog_12_method_6_code 34 = .ok (.if_icmp .ne 19, 3) := by decide +kernel
theorem d2_37 : decode prog_12_method_6_code 37 = .ok (.aload 5, 2) := by decide +kernel
theorem d2_39 : decode prog_12_method_6_code 39 = .ok (.getfield 48, 3) := by decide +kernel
theorem d2_42 : decode prog_12_method_6_code 42 = .ok (.aload_n 0, 1) := by decide +kernel
theorem d2_43 : decode prog_12_method_6_code 43 = .ok (.getfield 48, 3) := by decide +kernel
theorem d2_46 : decode prog_12_method_6_code 46 = .ok (.ineg, 1) := by decide +kernel
theorem d2_47 : decode prog_12_method_6_code 47 = .ok (.if_icmp .ne 6, 3) := by decide +kernel
theorem d2_50 : decode prog_12_method_6_code 50 = .ok (.aload 5, 2) := by decide +kernel
theorem d2_52 : decode prog_12_method_6_code 52 = .ok (.astore_n 1, 1) := by decide +kernel
theorem d2_53 : decode prog_12_method_6_code 53 = .ok (.iinc 4 1, 3) := by decide +kernel
theorem d2_56 : decode prog_12_method_6_code 56 = .ok (.goto (-44), 3) := by decide +kernel
theorem d2_59 : decode prog_12_method_6_code 59 = .ok (.aload_n 1, 1) := by decide +kernel
theorem d2_60 : decode prog_12_method_6_code 60 = .ok (.areturn, 1) := by decide +kernel
theorem pn_2 : plainName "com/example/acompte/acompte/DocumentKind$Vat" = true := by first | (simp [plainName, overriddenIn]; done) | decide +kernel
theorem pdw_1 : parseMethodDescriptor "()[Lcom/example/acompte/acompte/DocumentKind$Vat;" = some ⟨[], some (.array (.object "com/example/acompte/acompte/DocumentKind$Vat"))⟩ := by decide +kernel
theorem ef_2 (m : MethodId) (x0 : Addr) : entryFrame m #[(.ref x0)] 6 = mkF m 0 #[.val (.ref x0), .unset, .unset, .unset, .unset, .unset] [] := by first | (simp [entryFrame, mkF, argsToLocals, Value.category]; done) | rfl
def Q2_r0 (Z : State) (a_NONE a_WAITS a_WAITS_NO_MORE a_FALLS_DUE_AFTER_WAITING a_WAITS_AGAIN a_FALLS_DUE a_TAKEN_BACK a_VALUES : Addr) (kV : ClassId) (h0 : Heap) (n0 : Nat) (v : Option Value) (h : Heap) (L : List Loc) : Prop := v = some (.ref a_NONE) ∧ Fr n0 L ∧ Ext h0 h
set_option maxRecDepth 65536 in
set_option maxHeartbeats 40000000 in
theorem rm2_r0 (l : Launch) (Z : State) (a0 : Array Value) (hw : ∀ d ∈ tables_1, d.before a0 Z = true) (ws : List Jvm.Cond)  (a_NONE a_WAITS a_WAITS_NO_MORE a_FALLS_DUE_AFTER_WAITING a_WAITS_AGAIN a_FALLS_DUE a_TAKEN_BACK a_VALUES : Addr) (kV : ClassId) (h0 : Heap) (n0 : Nat) (Z0 : n0 ≤ h0.size) (WW : Own Z h0 a_NONE a_WAITS a_WAITS_NO_MORE a_FALLS_DUE_AFTER_WAITING a_WAITS_AGAIN a_FALLS_DUE a_TAKEN_BACK a_VALUES kV)  :
    MetFree l (⟨"com/example/acompte/acompte/DocumentKind$Vat", "opposite", "()Lcom/example/acompte/acompte/DocumentKind$Vat;"⟩ : MethodName) (head1 (Jvm.Cond.code (⟨"com/example/acompte/acompte/DocumentKind$Vat", "opposite", "()Lcom/example/acompte/acompte/DocumentKind$Vat;"⟩ : MethodName) prog_12_method_6_code 6 (some (.object "com/example/acompte/acompte/DocumentKind$Vat")) :: ws) ({ frames := 2, cells := 1, slots := 7, locals := 25 } : Room)) (fun a U => a = #[(.ref a_NONE)] ∧ Z.Warmed39 U.vm ∧ U.heap = h0) (fun _ _ _ _ _ => True) (fun _ U o U' => ∃ v L, o = .returned v ∧ Q2_r0 Z a_NONE a_WAITS a_WAITS_NO_MORE a_FALLS_DUE_AFTER_WAITING a_WAITS_AGAIN a_FALLS_DUE a_TAKEN_BACK a_VALUES kV h0 n0 v U'.heap L ∧ FrameEnd U o U' L ({ frames := 2, cells := 1, slots := 7, locals := 25 } : Room).cells ({ frames := 2, cells := 1, slots := 7, locals := 25 } : Room).slots) := by
  refine MetFree.of_bodySF (plainFor_of_name pn_2) hisR ?_
  intro p e s m args below meth c s₁ Bd hml0 hP hK
  have WW0 := WW
  obtain ⟨S_NONE, S_WAITS, S_WAITS_NO_MORE, S_FALLS_DUE_AFTER_WAITING, S_WAITS_AGAIN, S_FALLS_DUE, S_TAKEN_BACK, S_VALUES, E_NONE, E_WAITS, E_WAITS_NO_MORE, E_FALLS_DUE_AFTER_WAITING, E_WAITS_AGAIN, E_FALLS_DUE, E_TAKEN_BACK, E_VALUES, Fw_NONE, Fw_WAITS, Fw_WAITS_NO_MORE, Fw_FALLS_DUE_AFTER_WAITING, Fw_WAITS_AGAIN, Fw_FALLS_DUE, Fw_TAKEN_BACK, Fd_NONE, Fd_WAITS, Fd_WAITS_NO_MORE, Fd_FALLS_DUE_AFTER_WAITING, Fd_WAITS_AGAIN, Fd_FALLS_DUE, Fd_TAKEN_BACK, V_VALUES⟩ := WW0
  obtain ⟨rfl, hZ, hh⟩ := hP
  have hx := Bd.exec
  have hby := Bd.bytes
  have hml : c.maxLocals = 6 := hml0
  have hown : s.vm.findClass "com/example/acompte/acompte/DocumentKind$Vat" = some m.cls := findClass_of_methodNamed Bd.named
  have hnm := (name_of_methodNamed Bd.named Bd.method).1
  have X0 : Stand p l e ({ frames := 2, cells := 1, slots := 7, locals := 25 } : Room) s m #[(.ref a_NONE)] below meth c s₁ [] 0 0 := Stand.of_body Bd
  have e0 : s₁.heap = h0 := by rw [← hh, Bd.state]; rfl
  have N0 := Fr.nil n0
  have pre0 : ∀ t, Steps p.tables e below (s₁.setTop (mkF m 0 #[.val (.ref a_NONE), .unset, .unset, .unset, .unset, .unset] [])) t → Steps p.tables e below (s₁.setTop (entryFrame m #[(.ref a_NONE)] 6)) t := fun t k => castTop (ef_2 m a_NONE) k
  -- 3. LAWS
  -- pc 2: com/example/acompte/acompte/DocumentKind$Vat.values by its contract rm3
  obtain ⟨_, _, ⟨T2, L2, k2, n2⟩, -, X2, ⟨Lc2, hQ2, l2, y2, z2⟩, st2⟩ := Jvm.LawKit.callS X0 hx (y := (⟨"com/example/acompte/acompte/DocumentKind$Vat", "values", "()[Lcom/example/acompte/acompte/DocumentKind$Vat;"⟩ : MethodName)) hown (mvT hZ (hw _ (List.mem_of_getElem? (i := 13) rfl))) (mvT hZ (hw _ (List.mem_of_getElem? (i := 14) rfl))) (mvT hZ (hw _ (List.mem_of_getElem? (i := 6) rfl))) (mvT hZ (hw _ (List.mem_of_getElem? (i := 15) rfl))) (by decide) (backOf (W := 0) (rm3_v l Z a0 hw []  a_NONE a_WAITS a_WAITS_NO_MORE a_FALLS_DUE_AFTER_WAITING a_WAITS_AGAIN a_FALLS_DUE a_TAKEN_BACK a_VALUES kV h0 n0 Z0 WW) hZ (hw _ (List.mem_of_getElem? (i := 15) rfl)) (hw _ (List.mem_of_getElem? (i := 6) rfl)) (by decide) (by decide)) (g := (mkF m 2 #[.val (.ref a_NONE), .val .null, .unset, .unset, .unset, .unset] [])) rfl (by rw [hml]; rfl) (argsL := []) (rest := []) (lenOf pdw_1 rfl) rfl (by show 2 * 0 + _ ≤ _; exact Nat.le_of_eq rfl) (hb hby d2_2) (fun _ _ => ⟨rfl, e0, (by decide : 0 + 1 ≤ _), (by decide : 0 + 7 ≤ _)⟩)
  dsimp only [Pt.U, Pt.locs, Pt.cells, Pt.slots] at X2 l2 y2 z2 st2 hQ2
  subst l2 y2 z2
  obtain ⟨rfl, N2q, Ex2, V2⟩ := hQ2
  have WW2 := WW.ext Ex2
  obtain ⟨S_NONE, S_WAITS, S_WAITS_NO_MORE, S_FALLS_DUE_AFTER_WAITING, S_WAITS_AGAIN, S_FALLS_DUE, S_TAKEN_BACK, S_VALUES, E_NONE, E_WAITS, E_WAITS_NO_MORE, E_FALLS_DUE_AFTER_WAITING, E_WAITS_AGAIN, E_FALLS_DUE, E_TAKEN_BACK, E_VALUES, Fw_NONE, Fw_WAITS, Fw_WAITS_NO_MORE, Fw_FALLS_DUE_AFTER_WAITING, Fw_WAITS_AGAIN, Fw_FALLS_DUE, Fw_TAKEN_BACK, Fd_NONE, Fd_WAITS, Fd_WAITS_NO_MORE, Fd_FALLS_DUE_AFTER_WAITING, Fd_WAITS_AGAIN, Fd_FALLS_DUE, Fd_TAKEN_BACK, V_VALUES⟩ := WW2
  obtain ⟨clv, Arv_, qv, Sv, Nv, Hv, Gv⟩ := V2
  have N2 := Fr.app N0 N2q
  obtain ⟨T5, X5, e5, st5⟩ := getF X2 hx hZ hown (host := "") (Or.inl (hw _ (List.mem_of_getElem? (i := 34) rfl))) Via.refl rfl (Fw_NONE) (g := (mkF m 26 #[.val (.ref a_NONE), .val .null, .val (.ref h0.size), .val (.int (7 : Int32)), .val (.int (0 : Int32)), .val (.ref a_NONE)] [(.ref a_NONE)])) rfl rfl (hb hby d2_26)
  obtain ⟨T7, X7, e7, st7⟩ := getF X5 hx hZ hown (host := "") (Or.inl (hw _ (List.mem_of_getElem? (i := 34) rfl))) Via.refl e5 (Fw_NONE) (g := (mkF m 30 #[.val (.ref a_NONE), .val .null, .val (.ref h0.size), .val (.int (7 : Int32)), .val (.int (0 : Int32)), .val (.ref a_NONE)] [(.ref a_NONE), (.int (0 : Int32))])) rfl rfl (hb hby d2_30)
  obtain ⟨T9, X9, e9, st9⟩ := getF X7 hx hZ hown (host := "") (Or.inl (hw _ (List.mem_of_getElem? (i := 36) rfl))) Via.refl e7 (Fd_NONE) (g := (mkF m 39 #[.val (.ref a_NONE), .val .null, .val (.ref h0.size), .val (.int (7 : Int32)), .val (.int (0 : Int32)), .val (.ref a_NONE)] [(.ref a_NONE)])) rfl rfl (hb hby d2_39)
  obtain ⟨T11, X11, e11, st11⟩ := getF X9 hx hZ hown (host := "") (Or.inl (hw _ (List.mem_of_getElem? (i := 36) rfl))) Via.refl e9 (Fd_NONE) (g := (mkF m 43 #[.val (.ref a_NONE), .val .null, .val (.ref h0.size), .val (.int (7 : Int32)), .val (.int (0 : Int32)), .val (.ref a_NONE)] [(.ref a_NONE), (.int (0 : Int32))])) rfl rfl (hb hby d2_43)
  obtain ⟨T14, X14, e14, st14⟩ := getF X11 hx hZ hown (host := "") (Or.inl (hw _ (List.mem_of_getElem? (i := 34) rfl))) Via.refl e11 (Fw_WAITS) (g := (mkF m 26 #[.val (.ref a_NONE), .val (.ref a_NONE), .val (.ref h0.size), .val (.int (7 : Int32)), .val (.int (1 : Int32)), .val (.ref a_WAITS)] [(.ref a_WAITS)])) rfl rfl (hb hby d2_26)
  obtain ⟨T15, X15, e15, st15⟩ := getF X14 hx hZ hown (host := "") (Or.inl (hw _ (List.mem_of_getElem? (i := 34) rfl))) Via.refl e14 (Fw_NONE) (g := (mkF m 30 #[.val (.ref a_NONE), .val (.ref a_NONE), .val (.ref h0.size), .val (.int (7 : Int32)), .val (.int (1 : Int32)), .val (.ref a_WAITS)] [(.ref a_NONE), (.int (1 : Int32))])) rfl rfl (hb hby d2_30)
  obtain ⟨T18, X18, e18, st18⟩ := getF X15 hx hZ hown (host := "") (Or.inl (hw _ (List.mem_of_getElem? (i := 34) rfl))) Via.refl e15 (Fw_WAITS_NO_MORE) (g := (mkF m 26 #[.val (.ref a_NONE), .val (.ref a_NONE), .val (.ref h0.size), .val (.int (7 : Int32)), .val (.int (2 : Int32)), .val (.ref a_WAITS_NO_MORE)] [(.ref a_WAITS_NO_MORE)])) rfl rfl (hb hby d2_26)
  obtain ⟨T19, X19, e19, st19⟩ := getF X18 hx hZ hown (host := "") (Or.inl (hw _ (List.mem_of_getElem? (i := 34) rfl))) Via.refl e18 (Fw_NONE) (g := (mkF m 30 #[.val (.ref a_NONE), .val (.ref a_NONE), .val (.ref h0.size), .val (.int (7 : Int32)), .val (.int (2 : Int32)), .val (.ref a_WAITS_NO_MORE)] [(.ref a_NONE), (.int (-1 : Int32))])) rfl rfl (hb hby d2_30)
  obtain ⟨T22, X22, e22, st22⟩ := getF X19 hx hZ hown (host := "") (Or.inl (hw _ (List.mem_of_getElem? (i := 34) rfl))) Via.refl e19 (Fw_FALLS_DUE_AFTER_WAITING) (g := (mkF m 26 #[.val (.ref a_NONE), .val (.ref a_NONE), .val (.ref h0.size), .val (.int (7 : Int32)), .val (.int (3 : Int32)), .val (.ref a_FALLS_DUE_AFTER_WAITING)] [(.ref a_FALLS_DUE_AFTER_WAITING)])) rfl rfl (hb hby d2_26)
  obtain ⟨T23, X23, e23, st23⟩ := getF X22 hx hZ hown (host := "") (Or.inl (hw _ (List.mem_of_getElem? (i := 34) rfl))) Via.refl e22 (Fw_NONE) (g := (mkF m 30 #[.val (.ref a_NONE), .val (.ref a_NONE), .val (.ref h0.size), .val (.int (7 : Int32)), .val (.int (3 : Int32)), .val (.ref a_FALLS_DUE_AFTER_WAITING)] [(.ref a_NONE), (.int (-1 : Int32))])) rfl rfl (hb hby d2_30)
  obtain ⟨T26, X26, e26, st26⟩ := getF X23 hx hZ hown (host := "") (Or.inl (hw _ (List.mem_of_getElem? (i := 34) rfl))) Via.refl e23 (Fw_WAITS_AGAIN) (g := (mkF m 26 #[.val (.ref a_NONE), .val (.ref a_NONE), .val (.ref h0.size), .val (.int (7 : Int32)), .val (.int (4 : Int32)), .val (.ref a_WAITS_AGAIN)] [(.ref a_WAITS_AGAIN)])) rfl rfl (hb hby d2_26)
  obtain ⟨T27, X27, e27, st27⟩ := getF X26 hx hZ hown (host := "") (Or.inl (hw _ (List.mem_of_getElem? (i := 34) rfl))) Via.refl e26 (Fw_NONE) (g := (mkF m 30 #[.val (.ref a_NONE), .val (.ref a_NONE), .val (.ref h0.size), .val (.int (7 : Int32)), .val (.int (4 : Int32)), .val (.ref a_WAITS_AGAIN)] [(.ref a_NONE), (.int (1 : Int32))])) rfl rfl (hb hby d2_30)
  obtain ⟨T30, X30, e30, st30⟩ := getF X27 hx hZ hown (host := "") (Or.inl (hw _ (List.mem_of_getElem? (i := 34) rfl))) Via.refl e27 (Fw_FALLS_DUE) (g := (mkF m 26 #[.val (.ref a_NONE), .val (.ref a_NONE), .val (.ref h0.size), .val (.int (7 : Int32)), .val (.int (5 : Int32)), .val (.ref a_FALLS_DUE)] [(.ref a_FALLS_DUE)])) rfl rfl (hb hby d2_26)
  obtain ⟨T31, X31, e31, st31⟩ := getF X30 hx hZ hown (host := "") (Or.inl (hw _ (List.mem_of_getElem? (i := 34) rfl))) Via.refl e30 (Fw_NONE) (g := (mkF m 30 #[.val (.ref a_NONE), .val (.ref a_NONE), .val (.ref h0.size), .val (.int (7 : Int32)), .val (.int (5 : Int32)), .val (.ref a_FALLS_DUE)] [(.ref a_NONE), (.int (0 : Int32))])) rfl rfl (hb hby d2_30)
  obtain ⟨T33, X33, e33, st33⟩ := getF X31 hx hZ hown (host := "") (Or.inl (hw _ (List.mem_of_getElem? (i := 36) rfl))) Via.refl e31 (Fd_FALLS_DUE) (g := (mkF m 39 #[.val (.ref a_NONE), .val (.ref a_NONE), .val (.ref h0.size), .val (.int (7 : Int32)), .val (.int (5 : Int32)), .val (.ref a_FALLS_DUE)] [(.ref a_FALLS_DUE)])) rfl rfl (hb hby d2_39)
  obtain ⟨T34, X34, e34, st34⟩ := getF X33 hx hZ hown (host := "") (Or.inl (hw _ (List.mem_of_getElem? (i := 36) rfl))) Via.refl e33 (Fd_NONE) (g := (mkF m 43 #[.val (.ref a_NONE), .val (.ref a_NONE), .val (.ref h0.size), .val (.int (7 : Int32)), .val (.int (5 : Int32)), .val (.ref a_FALLS_DUE)] [(.ref a_NONE), (.int (1 : Int32))])) rfl rfl (hb hby d2_43)
  obtain ⟨T37, X37, e37, st37⟩ := getF X34 hx hZ hown (host := "") (Or.inl (hw _ (List.mem_of_getElem? (i := 34) rfl))) Via.refl e34 (Fw_TAKEN_BACK) (g := (mkF m 26 #[.val (.ref a_NONE), .val (.ref a_NONE), .val (.ref h0.size), .val (.int (7 : Int32)), .val (.int (6 : Int32)), .val (.ref a_TAKEN_BACK)] [(.ref a_TAKEN_BACK)])) rfl rfl (hb hby d2_26)
  obtain ⟨T38, X38, e38, st38⟩ := getF X37 hx hZ hown (host := "") (Or.inl (hw _ (List.mem_of_getElem? (i := 34) rfl))) Via.refl e37 (Fw_NONE) (g := (mkF m 30 #[.val (.ref a_NONE), .val (.ref a_NONE), .val (.ref h0.size), .val (.int (7 : Int32)), .val (.int (6 : Int32)), .val (.ref a_TAKEN_BACK)] [(.ref a_NONE), (.int (0 : Int32))])) rfl rfl (hb hby d2_30)
  obtain ⟨T40, X40, e40, st40⟩ := getF X38 hx hZ hown (host := "") (Or.inl (hw _ (List.mem_of_getElem? (i := 36) rfl))) Via.refl e38 (Fd_TAKEN_BACK) (g := (mkF m 39 #[.val (.ref a_NONE), .val (.ref a_NONE), .val (.ref h0.size), .val (.int (7 : Int32)), .val (.int (6 : Int32)), .val (.ref a_TAKEN_BACK)] [(.ref a_TAKEN_BACK)])) rfl rfl (hb hby d2_39)
  obtain ⟨T41, X41, e41, st41⟩ := getF X40 hx hZ hown (host := "") (Or.inl (hw _ (List.mem_of_getElem? (i := 36) rfl))) Via.refl e40 (Fd_NONE) (g := (mkF m 43 #[.val (.ref a_NONE), .val (.ref a_NONE), .val (.ref h0.size), .val (.int (7 : Int32)), .val (.int (6 : Int32)), .val (.ref a_TAKEN_BACK)] [(.ref a_NONE), (.int (-1 : Int32))])) rfl rfl (hb hby d2_43)
  obtain ⟨fs, hr, hrun, hended, hW, hsame⟩ := X41.leave (v := some (.ref a_NONE)) (fun h => by rw [Bd.returns] at h; cases h)
  refine ⟨_, _, pre0 _ ?_, hrun, hended, _, _, rfl, ?_, ⟨_, rfl⟩, hW, hsame.mono (by decide) (by decide)⟩
  -- 4. STEPS
  · show Steps p.tables e below (s₁.setTop (mkF m 0 #[.val (.ref a_NONE), .unset, .unset, .unset, .unset, .unset] [])) _
    refine XS.aconstNull X0.here hx rfl (hb hby d2_0) ?_
    show Steps p.tables e below (s₁.setTop (mkF m 1 #[.val (.ref a_NONE), .unset, .unset, .unset, .unset, .unset] [.null])) _
    refine XS.astoreN X0.here hx rfl (hb hby d2_1) rfl rfl (l' := #[.val (.ref a_NONE), .val .null, .unset, .unset, .unset, .unset]) rfl ?_
    show Steps p.tables e below (s₁.setTop (mkF m 2 #[.val (.ref a_NONE), .val .null, .unset, .unset, .unset, .unset] [])) _
    refine st2 _ ?_
    show Steps p.tables e below (T2.setTop (mkF m 5 #[.val (.ref a_NONE), .val .null, .unset, .unset, .unset, .unset] [(.ref h0.size)])) _
    refine XS.astoreN X2.here hx rfl (hb hby d2_5) rfl rfl (l' := #[.val (.ref a_NONE), .val .null, .val (.ref h0.size), .unset, .unset, .unset]) rfl ?_
    show Steps p.tables e below (T2.setTop (mkF m 6 #[.val (.ref a_NONE), .val .null, .val (.ref h0.size), .unset, .unset, .unset] [])) _
    refine XS.aloadN X2.here hx rfl (hb hby d2_6) rfl rfl ?_
    show Steps p.tables e below (T2.setTop (mkF m 7 #[.val (.ref a_NONE), .val .null, .val (.ref h0.size), .unset, .unset, .unset] [(.ref h0.size)])) _
    refine X2.arraylength hx (by exact Arv_.1) (State.isArrayOf_alike hZ.alike Arv_.2.1) (g := (mkF m 7 #[.val (.ref a_NONE), .val .null, .val (.ref h0.size), .unset, .unset, .unset] [(.ref h0.size)])) rfl rfl (hb hby d2_7) _ ?_
    rw [len_of Sv Nv]
    show Steps p.tables e below (T2.setTop (mkF m 8 #[.val (.ref a_NONE), .val .null, .val (.ref h0.size), .unset, .unset, .unset] [(.int (7 : Int32))])) _
    refine XS.istoreN X2.here hx rfl (hb hby d2_8) rfl (l' := #[.val (.ref a_NONE), .val .null, .val (.ref h0.size), .val (.int (7 : Int32)), .unset, .unset]) rfl ?_
    show Steps p.tables e below (T2.setTop (mkF m 9 #[.val (.ref a_NONE), .val .null, .val (.ref h0.size), .val (.int (7 : Int32)), .unset, .unset] [])) _
    refine XS.iconst X2.here hx rfl (hb hby d2_9) ?_
    show Steps p.tables e below (T2.setTop (mkF m 10 #[.val (.ref a_NONE), .val .null, .val (.ref h0.size), .val (.int (7 : Int32)), .unset, .unset] [(.int (0 : Int32))])) _
    refine XS.istore X2.here hx rfl (hb hby d2_10) rfl (l' := #[.val (.ref a_NONE), .val .null, .val (.ref h0.size), .val (.int (7 : Int32)), .val (.int (0 : Int32)), .unset]) rfl ?_
    show Steps p.tables e below (T2.setTop (mkF m 12 #[.val (.ref a_NONE), .val .null, .val (.ref h0.size), .val (.int (7 : Int32)), .val (.int (0 : Int32)), .unset] [])) _
    refine XS.iload X2.here hx rfl (hb hby d2_12) rfl ?_
    show Steps p.tables e below (T2.setTop (mkF m 14 #[.val (.ref a_NONE), .val .null, .val (.ref h0.size), .val (.int (7 : Int32)), .val (.int (0 : Int32)), .unset] [(.int (0 : Int32))])) _
    refine XS.iloadN X2.here hx rfl (hb hby d2_14) rfl ?_
    show Steps p.tables e below (T2.setTop (mkF m 15 #[.val (.ref a_NONE), .val .null, .val (.ref h0.size), .val (.int (7 : Int32)), .val (.int (0 : Int32)), .unset] [(.int (7 : Int32)), (.int (0 : Int32))])) _
    refine XS.icmpNo X2.here hx rfl (hb hby d2_15) rfl (tlt (by decide : (0 : Int32) < (7 : Int32))).2.1 ?_
    show Steps p.tables e below (T2.setTop (mkF m 18 #[.val (.ref a_NONE), .val .null, .val (.ref h0.size), .val (.int (7 : Int32)), .val (.int (0 : Int32)), .unset] [])) _
    refine XS.aloadN X2.here hx rfl (hb hby d2_18) rfl rfl ?_
    show Steps p.tables e below (T2.setTop (mkF m 19 #[.val (.ref a_NONE), .val .null, .val (.ref h0.size), .val (.int (7 : Int32)), .val (.int (0 : Int32)), .unset] [(.ref h0.size)])) _
    refine XS.iload X2.here hx rfl (hb hby d2_19) rfl ?_
    show Steps p.tables e below (T2.setTop (mkF m 21 #[.val (.ref a_NONE), .val .null, .val (.ref h0.size), .val (.int (7 : Int32)), .val (.int (0 : Int32)), .unset] [(.int (0 : Int32)), (.ref h0.size)])) _
    refine X2.aaload hx (j := (0 : Int32)) (v := (.ref a_NONE)) (by exact Arv_.1) (State.isArrayOf_alike hZ.alike Arv_.2.1) rfl Arv_.2.2 (inb_of Sv ⟨by decide, by decide⟩) (Has.at Hv (inb_of Sv ⟨by decide, by decide⟩) rfl) (g := (mkF m 21 #[.val (.ref a_NONE), .val .null, .val (.ref h0.size), .val (.int (7 : Int32)), .val (.int (0 : Int32)), .unset] [(.int (0 : Int32)), (.ref h0.size)])) rfl rfl (hb hby d2_21) _ ?_
    show Steps p.tables e below (T2.setTop (mkF m 22 #[.val (.ref a_NONE), .val .null, .val (.ref h0.size), .val (.int (7 : Int32)), .val (.int (0 : Int32)), .unset] [(.ref a_NONE)])) _
    refine XS.astore X2.here hx rfl (hb hby d2_22) rfl rfl (l' := #[.val (.ref a_NONE), .val .null, .val (.ref h0.size), .val (.int (7 : Int32)), .val (.int (0 : Int32)), .val (.ref a_NONE)]) rfl ?_
    show Steps p.tables e below (T2.setTop (mkF m 24 #[.val (.ref a_NONE), .val .null, .val (.ref h0.size), .val (.int (7 : Int32)), .val (.int (0 : Int32)), .val (.ref a_NONE)] [])) _
    refine XS.aload X2.here hx rfl (hb hby d2_24) rfl rfl ?_
    show Steps p.tables e below (T2.setTop (mkF m 26 #[.val (.ref a_NONE), .val .null, .val (.ref h0.size), .val (.int (7 : Int32)), .val (.int (0 : Int32)), .val (.ref a_NONE)] [(.ref a_NONE)])) _
    refine st5 _ ?_
    show Steps p.tables e below (T5.setTop (mkF m 29 #[.val (.ref a_NONE), .val .null, .val (.ref h0.size), .val (.int (7 : Int32)), .val (.int (0 : Int32)), .val (.ref a_NONE)] [(.int (0 : Int32))])) _
    refine XS.aloadN X5.here hx rfl (hb hby d2_29) rfl rfl ?_
    show Steps p.tables e below (T5.setTop (mkF m 30 #[.val (.ref a_NONE), .val .null, .val (.ref h0.size), .val (.int (7 : Int32)), .val (.int (0 : Int32)), .val (.ref a_NONE)] [(.ref a_NONE), (.int (0 : Int32))])) _
    refine st7 _ ?_
    show Steps p.tables e below (T7.setTop (mkF m 33 #[.val (.ref a_NONE), .val .null, .val (.ref h0.size), .val (.int (7 : Int32)), .val (.int (0 : Int32)), .val (.ref a_NONE)] [(.int (0 : Int32)), (.int (0 : Int32))])) _
    refine XS.ineg X7.here hx rfl (hb hby d2_33) rfl ?_
    show Steps p.tables e below (T7.setTop (mkF m 34 #[.val (.ref a_NONE), .val .null, .val (.ref h0.size), .val (.int (7 : Int32)), .val (.int (0 : Int32)), .val (.ref a_NONE)] [(.int (-(0 : Int32))), (.int (0 : Int32))])) _
    refine XS.icmpNo X7.here hx rfl (hb hby d2_34) rfl (teq (by decide)).2 ?_
    show Steps p.tables e below (T7.setTop (mkF m 37 #[.val (.ref a_NONE), .val .null, .val (.ref h0.size), .val (.int (7 : Int32)), .val (.int (0 : Int32)), .val (.ref a_NONE)] [])) _
    refine XS.aload X7.here hx rfl (hb hby d2_37) rfl rfl ?_
    show Steps p.tables e below (T7.setTop (mkF m 39 #[.val (.ref a_NONE), .val .null, .val (.ref h0.size), .val (.int (7 : Int32)), .val (.int (0 : Int32)), .val (.ref a_NONE)] [(.ref a_NONE)])) _
    refine st9 _ ?_
    show Steps p.tables e below (T9.setTop (mkF m 42 #[.val (.ref a_NONE), .val .null, .val (.ref h0.size), .val (.int (7 : Int32)), .val (.int (0 : Int32)), .val (.ref a_NONE)] [(.int (0 : Int32))])) _
    refine XS.aloadN X9.here hx rfl (hb hby d2_42) rfl rfl ?_
    show Steps p.tables e below (T9.setTop (mkF m 43 #[.val (.ref a_NONE), .val .null, .val (.ref h0.size), .val (.int (7 : Int32)), .val (.int (0 : Int32)), .val (.ref a_NONE)] [(.ref a_NONE), (.int (0 : Int32))])) _
    refine st11 _ ?_
    show Steps p.tables e below (T11.setTop (mkF m 46 #[.val (.ref a_NONE), .val .null, .val (.ref h0.size), .val (.int (7 : Int32)), .val (.int (0 : Int32)), .val (.ref a_NONE)] [(.int (0 : Int32)), (.int (0 : Int32))])) _
    refine XS.ineg X11.here hx rfl (hb hby d2_46) rfl ?_
    show Steps p.tables e below (T11.setTop (mkF m 47 #[.val (.ref a_NONE), .val .null, .val (.ref h0.size), .val (.int (7 : Int32)), .val (.int (0 : Int32)), .val (.ref a_NONE)] [(.int (-(0 : Int32))), (.int (0 : Int32))])) _
    refine XS.icmpNo X11.here hx rfl (hb hby d2_47) rfl (teq (by decide)).2 ?_
    show Steps p.tables e below (T11.setTop (mkF m 50 #[.val (.ref a_NONE), .val .null, .val (.ref h0.size), .val (.int (7 : Int32)), .val (.int (0 : Int32)), .val (.ref a_NONE)] [])) _
    refine XS.aload X11.here hx rfl (hb hby d2_50) rfl rfl ?_
    show Steps p.tables e below (T11.setTop (mkF m 52 #[.val (.ref a_NONE), .val .null, .val (.ref h0.size), .val (.int (7 : Int32)), .val (.int (0 : Int32)), .val (.ref a_NONE)] [(.ref a_NONE)])) _
    refine XS.astoreN X11.here hx rfl (hb hby d2_52) rfl rfl (l' := #[.val (.ref a_NONE), .val (.ref a_NONE), .val (.ref h0.size), .val (.int (7 : Int32)), .val (.int (0 : Int32)), .val (.ref a_NONE)]) rfl ?_
    show Steps p.tables e below (T11.setTop (mkF m 53 #[.val (.ref a_NONE), .val (.ref a_NONE), .val (.ref h0.size), .val (.int (7 : Int32)), .val (.int (0 : Int32)), .val (.ref a_NONE)] [])) _
    refine XS.iinc X11.here hx rfl (hb hby d2_53) rfl (l' := #[.val (.ref a_NONE), .val (.ref a_NONE), .val (.ref h0.size), .val (.int (7 : Int32)), .val (.int (1 : Int32)), .val (.ref a_NONE)]) rfl ?_
    show Steps p.tables e below (T11.setTop (mkF m 56 #[.val (.ref a_NONE), .val (.ref a_NONE), .val (.ref h0.size), .val (.int (7 : Int32)), .val (.int (1 : Int32)), .val (.ref a_NONE)] [])) _
    refine XS.goto X11.here hx rfl (pc0 := 56) (pc' := 12) rfl (hb hby d2_56) (by decide) (by decide) ?_
    show Steps p.tables e below (T11.setTop (mkF m 12 #[.val (.ref a_NONE), .val (.ref a_NONE), .val (.ref h0.size), .val (.int (7 : Int32)), .val (.int (1 : Int32)), .val (.ref a_NONE)] [])) _
    refine XS.iload X11.here hx rfl (hb hby d2_12) rfl ?_
    show Steps p.tables e below (T11.setTop (mkF m 14 #[.val (.ref a_NONE), .val (.ref a_NONE), .val (.ref h0.size), .val (.int (7 : Int32)), .val (.int (1 : Int32)), .val (.ref a_NONE)] [(.int (1 : Int32))])) _
    refine XS.iloadN X11.here hx rfl (hb hby d2_14) rfl ?_
    show Steps p.tables e below (T11.setTop (mkF m 15 #[.val (.ref a_NONE), .val (.ref a_NONE), .val (.ref h0.size), .val (.int (7 : Int32)), .val (.int (1 : Int32)), .val (.ref a_NONE)] [(.int (7 : Int32)), (.int (1 : Int32))])) _
    refine XS.icmpNo X11.here hx rfl (hb hby d2_15) rfl (tlt (by decide : (1 : Int32) < (7 : Int32))).2.1 ?_
    show Steps p.tables e below (T11.setTop (mkF m 18 #[.val (.ref a_NONE), .val (.ref a_NONE), .val (.ref h0.size), .val (.int (7 : Int32)), .val (.int (1 : Int32)), .val (.ref a_NONE)] [])) _
    refine XS.aloadN X11.here hx rfl (hb hby d2_18) rfl rfl ?_
    show Steps p.tables e below (T11.setTop (mkF m 19 #[.val (.ref a_NONE), .val (.ref a_NONE), .val (.ref h0.size), .val (.int (7 : Int32)), .val (.int (1 : Int32)), .val (.ref a_NONE)] [(.ref h0.size)])) _
    refine XS.iload X11.here hx rfl (hb hby d2_19) rfl ?_
    show Steps p.tables e below (T11.setTop (mkF m 21 #[.val (.ref a_NONE), .val (.ref a_NONE), .val (.ref h0.size), .val (.int (7 : Int32)), .val (.int (1 : Int32)), .val (.ref a_NONE)] [(.int (1 : Int32)), (.ref h0.size)])) _
    refine X11.aaload hx (j := (1 : Int32)) (v := (.ref a_WAITS)) (by rw [e11]; exact Arv_.1) (State.isArrayOf_alike hZ.alike Arv_.2.1) rfl Arv_.2.2 (inb_of Sv ⟨by decide, by decide⟩) (Has.at Hv (inb_of Sv ⟨by decide, by decide⟩) rfl) (g := (mkF m 21 #[.val (.ref a_NONE), .val (.ref a_NONE), .val (.ref h0.size), .val (.int (7 : Int32)), .val (.int (1 : Int32)), .val (.ref a_NONE)] [(.int (1 : Int32)), (.ref h0.size)])) rfl rfl (hb hby d2_21) _ ?_
    show Steps p.tables e below (T11.setTop (mkF m 22 #[.val (.ref a_NONE), .val (.ref a_NONE), .val (.ref h0.size), .val (.int (7 : Int32)), .val (.int (1 : Int32)), .val (.ref a_NONE)] [(.ref a_WAITS)])) _
    refine XS.astore X11.here hx rfl (hb hby d2_22) rfl rfl (l' := #[.val (.ref a_NONE), .val (.ref a_NONE), .val (.ref h0.size), .val (.int (7 : Int32)), .val (.int (1 : Int32)), .val (.ref a_WAITS)]) rfl ?_
    show Steps p.tables e below (T11.setTop (mkF m 24 #[.val (.ref a_NONE), .val (.ref a_NONE), .val (.ref h0.size), .val (.int (7 : Int32)), .val (.int (1 : Int32)), .val (.ref a_WAITS)] [])) _
    refine XS.aload X11.here hx rfl (hb hby d2_24) rfl rfl ?_
    show Steps p.tables e below (T11.setTop (mkF m 26 #[.val (.ref a_NONE), .val (.ref a_NONE), .val (.ref h0.size), .val (.int (7 : Int32)), .val (.int (1 : Int32)), .val (.ref a_WAITS)] [(.ref a_WAITS)])) _
    refine st14 _ ?_
    show Steps p.tables e below (T14.setTop (mkF m 29 #[.val (.ref a_NONE), .val (.ref a_NONE), .val (.ref h0.size), .val (.int (7 : Int32)), .val (.int (1 : Int32)), .val (.ref a_WAITS)] [(.int (1 : Int32))])) _
    refine XS.aloadN X14.here hx rfl (hb hby d2_29) rfl rfl ?_
    show Steps p.tables e below (T14.setTop (mkF m 30 #[.val (.ref a_NONE), .val (.ref a_NONE), .val (.ref h0.size), .val (.int (7 : Int32)), .val (.int (1 : Int32)), .val (.ref a_WAITS)] [(.ref a_NONE), (.int (1 : Int32))])) _
    refine st15 _ ?_
    show Steps p.tables e below (T15.setTop (mkF m 33 #[.val (.ref a_NONE), .val (.ref a_NONE), .val (.ref h0.size), .val (.int (7 : Int32)), .val (.int (1 : Int32)), .val (.ref a_WAITS)] [(.int (0 : Int32)), (.int (1 : Int32))])) _
    refine XS.ineg X15.here hx rfl (hb hby d2_33) rfl ?_
    show Steps p.tables e below (T15.setTop (mkF m 34 #[.val (.ref a_NONE), .val (.ref a_NONE), .val (.ref h0.size), .val (.int (7 : Int32)), .val (.int (1 : Int32)), .val (.ref a_WAITS)] [(.int (-(0 : Int32))), (.int (1 : Int32))])) _
    refine XS.icmpYes X15.here hx rfl (pc0 := 34) (pc' := 53) rfl (hb hby d2_34) rfl (feq (by decide)).2 (by decide) (by decide) ?_
    show Steps p.tables e below (T15.setTop (mkF m 53 #[.val (.ref a_NONE), .val (.ref a_NONE), .val (.ref h0.size), .val (.int (7 : Int32)), .val (.int (1 : Int32)), .val (.ref a_WAITS)] [])) _
    refine XS.iinc X15.here hx rfl (hb hby d2_53) rfl (l' := #[.val (.ref a_NONE), .val (.ref a_NONE), .val (.ref h0.size), .val (.int (7 : Int32)), .val (.int (2 : Int32)), .val (.ref a_WAITS)]) rfl ?_
    show Steps p.tables e below (T15.setTop (mkF m 56 #[.val (.ref a_NONE), .val (.ref a_NONE), .val (.ref h0.size), .val (.int (7 : Int32)), .val (.int (2 : Int32)), .val (.ref a_WAITS)] [])) _
    refine XS.goto X15.here hx rfl (pc0 := 56) (pc' := 12) rfl (hb hby d2_56) (by decide) (by decide) ?_
    show Steps p.tables e below (T15.setTop (mkF m 12 #[.val (.ref a_NONE), .val (.ref a_NONE), .val (.ref h0.size), .val (.int (7 : Int32)), .val (.int (2 : Int32)), .val (.ref a_WAITS)] [])) _
    refine XS.iload X15.here hx rfl (hb hby d2_12) rfl ?_
    show Steps p.tables e below (T15.setTop (mkF m 14 #[.val (.ref a_NONE), .val (.ref a_NONE), .val (.ref h0.size), .val (.int (7 : Int32)), .val (.int (2 : Int32)), .val (.ref a_WAITS)] [(.int (2 : Int32))])) _
    refine XS.iloadN X15.here hx rfl (hb hby d2_14) rfl ?_
    show Steps p.tables e below (T15.setTop (mkF m 15 #[.val (.ref a_NONE), .val (.ref a_NONE), .val (.ref h0.size), .val (.int (7 : Int32)), .val (.int (2 : Int32)), .val (.ref a_WAITS)] [(.int (7 : Int32)), (.int (2 : Int32))])) _
    refine XS.icmpNo X15.here hx rfl (hb hby d2_15) rfl (tlt (by decide : (2 : Int32) < (7 : Int32))).2.1 ?_
    show Steps p.tables e below (T15.setTop (mkF m 18 #[.val (.ref a_NONE), .val (.ref a_NONE), .val (.ref h0.size), .val (.int (7 : Int32)), .val (.int (2 : Int32)), .val (.ref a_WAITS)] [])) _
    refine XS.aloadN X15.here hx rfl (hb hby d2_18) rfl rfl ?_
    show Steps p.tables e below (T15.setTop (mkF m 19 #[.val (.ref a_NONE), .val (.ref a_NONE), .val (.ref h0.size), .val (.int (7 : Int32)), .val (.int (2 : Int32)), .val (.ref a_WAITS)] [(.ref h0.size)])) _
    refine XS.iload X15.here hx rfl (hb hby d2_19) rfl ?_
    show Steps p.tables e below (T15.setTop (mkF m 21 #[.val (.ref a_NONE), .val (.ref a_NONE), .val (.ref h0.size), .val (.int (7 : Int32)), .val (.int (2 : Int32)), .val (.ref a_WAITS)] [(.int (2 : Int32)), (.ref h0.size)])) _
    refine X15.aaload hx (j := (2 : Int32)) (v := (.ref a_WAITS_NO_MORE)) (by rw [e15]; exact Arv_.1) (State.isArrayOf_alike hZ.alike Arv_.2.1) rfl Arv_.2.2 (inb_of Sv ⟨by decide, by decide⟩) (Has.at Hv (inb_of Sv ⟨by decide, by decide⟩) rfl) (g := (mkF m 21 #[.val (.ref a_NONE), .val (.ref a_NONE), .val (.ref h0.size), .val (.int (7 : Int32)), .val (.int (2 : Int32)), .val (.ref a_WAITS)] [(.int (2 : Int32)), (.ref h0.size)])) rfl rfl (hb hby d2_21) _ ?_
    show Steps p.tables e below (T15.setTop (mkF m 22 #[.val (.ref a_NONE), .val (.ref a_NONE), .val (.ref h0.size), .val (.int (7 : Int32)), .val (.int (2 : Int32)), .val (.ref a_WAITS)] [(.ref a_WAITS_NO_MORE)])) _
    refine XS.astore X15.here hx rfl (hb hby d2_22) rfl rfl (l' := #[.val (.ref a_NONE), .val (.ref a_NONE), .val (.ref h0.size), .val (.int (7 : Int32)), .val (.int (2 : Int32)), .val (.ref a_WAITS_NO_MORE)]) rfl ?_
    show Steps p.tables e below (T15.setTop (mkF m 24 #[.val (.ref a_NONE), .val (.ref a_NONE), .val (.ref h0.size), .val (.int (7 : Int32)), .val (.int (2 : Int32)), .val (.ref a_WAITS_NO_MORE)] [])) _
    refine XS.aload X15.here hx rfl (hb hby d2_24) rfl rfl ?_
    show Steps p.tables e below (T15.setTop (mkF m 26 #[.val (.ref a_NONE), .val (.ref a_NONE), .val (.ref h0.size), .val (.int (7 : Int32)), .val (.int (2 : Int32)), .val (.ref a_WAITS_NO_MORE)] [(.ref a_WAITS_NO_MORE)])) _
    refine st18 _ ?_
    show Steps p.tables e below (T18.setTop (mkF m 29 #[.val (.ref a_NONE), .val (.ref a_NONE), .val (.ref h0.size), .val (.int (7 : Int32)), .val (.int (2 : Int32)), .val (.ref a_WAITS_NO_MORE)] [(.int (-1 : Int32))])) _
    refine XS.aloadN X18.here hx rfl (hb hby d2_29) rfl rfl ?_
    show Steps p.tables e below (T18.setTop (mkF m 30 #[.val (.ref a_NONE), .val (.ref a_NONE), .val (.ref h0.size), .val (.int (7 : Int32)), .val (.int (2 : Int32)), .val (.ref a_WAITS_NO_MORE)] [(.ref a_NONE), (.int (-1 : Int32))])) _
    refine st19 _ ?_
    show Steps p.tables e below (T19.setTop (mkF m 33 #[.val (.ref a_NONE), .val (.ref a_NONE), .val (.ref h0.size), .val (.int (7 : Int32)), .val (.int (2 : Int32)), .val (.ref a_WAITS_NO_MORE)] [(.int (0 : Int32)), (.int (-1 : Int32))])) _
    refine XS.ineg X19.here hx rfl (hb hby d2_33) rfl ?_
    show Steps p.tables e below (T19.setTop (mkF m 34 #[.val (.ref a_NONE), .val (.ref a_NONE), .val (.ref h0.size), .val (.int (7 : Int32)), .val (.int (2 : Int32)), .val (.ref a_WAITS_NO_MORE)] [(.int (-(0 : Int32))), (.int (-1 : Int32))])) _
    refine XS.icmpYes X19.here hx rfl (pc0 := 34) (pc' := 53) rfl (hb hby d2_34) rfl (feq (by decide)).2 (by decide) (by decide) ?_
    show Steps p.tables e below (T19.setTop (mkF m 53 #[.val (.ref a_NONE), .val (.ref a_NONE), .val (.ref h0.size), .val (.int (7 : Int32)), .val (.int (2 : Int32)), .val (.ref a_WAITS_NO_MORE)] [])) _
    refine XS.iinc X19.here hx rfl (hb hby d2_53) rfl (l' := #[.val (.ref a_NONE), .val (.ref a_NONE), .val (.ref h0.size), .val (.int (7 : Int32)), .val (.int (3 : Int32)), .val (.ref a_WAITS_NO_MORE)]) rfl ?_
    show Steps p.tables e below (T19.setTop (mkF m 56 #[.val (.ref a_NONE), .val (.ref a_NONE), .val (.ref h0.size), .val (.int (7 : Int32)), .val (.int (3 : Int32)), .val (.ref a_WAITS_NO_MORE)] [])) _
    refine XS.goto X19.here hx rfl (pc0 := 56) (pc' := 12) rfl (hb hby d2_56) (by decide) (by decide) ?_
    show Steps p.tables e below (T19.setTop (mkF m 12 #[.val (.ref a_NONE), .val (.ref a_NONE), .val (.ref h0.size), .val (.int (7 : Int32)), .val (.int (3 : Int32)), .val (.ref a_WAITS_NO_MORE)] [])) _
    refine XS.iload X19.here hx rfl (hb hby d2_12) rfl ?_
    show Steps p.tables e below (T19.setTop (mkF m 14 #[.val (.ref a_NONE), .val (.ref a_NONE), .val (.ref h0.size), .val (.int (7 : Int32)), .val (.int (3 : Int32)), .val (.ref a_WAITS_NO_MORE)] [(.int (3 : Int32))])) _
    refine XS.iloadN X19.here hx rfl (hb hby d2_14) rfl ?_
    show Steps p.tables e below (T19.setTop (mkF m 15 #[.val (.ref a_NONE), .val (.ref a_NONE), .val (.ref h0.size), .val (.int (7 : Int32)), .val (.int (3 : Int32)), .val (.ref a_WAITS_NO_MORE)] [(.int (7 : Int32)), (.int (3 : Int32))])) _
    refine XS.icmpNo X19.here hx rfl (hb hby d2_15) rfl (tlt (by decide : (3 : Int32) < (7 : Int32))).2.1 ?_
    show Steps p.tables e below (T19.setTop (mkF m 18 #[.val (.ref a_NONE), .val (.ref a_NONE), .val (.ref h0.size), .val (.int (7 : Int32)), .val (.int (3 : Int32)), .val (.ref a_WAITS_NO_MORE)] [])) _
    refine XS.aloadN X19.here hx rfl (hb hby d2_18) rfl rfl ?_
    show Steps p.tables e below (T19.setTop (mkF m 19 #[.val (.ref a_NONE), .val (.ref a_NONE), .val (.ref h0.size), .val (.int (7 : Int32)), .val (.int (3 : Int32)), .val (.ref a_WAITS_NO_MORE)] [(.ref h0.size)])) _
    refine XS.iload X19.here hx rfl (hb hby d2_19) rfl ?_
    show Steps p.tables e below (T19.setTop (mkF m 21 #[.val (.ref a_NONE), .val (.ref a_NONE), .val (.ref h0.size), .val (.int (7 : Int32)), .val (.int (3 : Int32)), .val (.ref a_WAITS_NO_MORE)] [(.int (3 : Int32)), (.ref h0.size)])) _
    refine X19.aaload hx (j := (3 : Int32)) (v := (.ref a_FALLS_DUE_AFTER_WAITING)) (by rw [e19]; exact Arv_.1) (State.isArrayOf_alike hZ.alike Arv_.2.1) rfl Arv_.2.2 (inb_of Sv ⟨by decide, by decide⟩) (Has.at Hv (inb_of Sv ⟨by decide, by decide⟩) rfl) (g := (mkF m 21 #[.val (.ref a_NONE), .val (.ref a_NONE), .val (.ref h0.size), .val (.int (7 : Int32)), .val (.int (3 : Int32)), .val (.ref a_WAITS_NO_MORE)] [(.int (3 : Int32)), (.ref h0.size)])) rfl rfl (hb hby d2_21) _ ?_
    show Steps p.tables e below (T19.setTop (mkF m 22 #[.val (.ref a_NONE), .val (.ref a_NONE), .val (.ref h0.size), .val (.int (7 : Int32)), .val (.int (3 : Int32)), .val (.ref a_WAITS_NO_MORE)] [(.ref a_FALLS_DUE_AFTER_WAITING)])) _
    refine XS.astore X19.here hx rfl (hb hby d2_22) rfl rfl (l' := #[.val (.ref a_NONE), .val (.ref a_NONE), .val (.ref h0.size), .val (.int (7 : Int32)), .val (.int (3 : Int32)), .val (.ref a_FALLS_DUE_AFTER_WAITING)]) rfl ?_
    show Steps p.tables e below (T19.setTop (mkF m 24 #[.val (.ref a_NONE), .val (.ref a_NONE), .val (.ref h0.size), .val (.int (7 : Int32)), .val (.int (3 : Int32)), .val (.ref a_FALLS_DUE_AFTER_WAITING)] [])) _
    refine XS.aload X19.here hx rfl (hb hby d2_24) rfl rfl ?_
    show Steps p.tables e below (T19.setTop (mkF m 26 #[.val (.ref a_NONE), .val (.ref a_NONE), .val (.ref h0.size), .val (.int (7 : Int32)), .val (.int (3 : Int32)), .val (.ref a_FALLS_DUE_AFTER_WAITING)] [(.ref a_FALLS_DUE_AFTER_WAITING)])) _
    refine st22 _ ?_
    show Steps p.tables e below (T22.setTop (mkF m 29 #[.val (.ref a_NONE), .val (.ref a_NONE), .val (.ref h0.size), .val (.int (7 : Int32)), .val (.int (3 : Int32)), .val (.ref a_FALLS_DUE_AFTER_WAITING)] [(.int (-1 : Int32))])) _
    refine XS.aloadN X22.here hx rfl (hb hby d2_29) rfl rfl ?_
    show Steps p.tables e below (T22.setTop (mkF m 30 #[.val (.ref a_NONE), .val (.ref a_NONE), .val (.ref h0.size), .val (.int (7 : Int32)), .val (.int (3 : Int32)), .val (.ref a_FALLS_DUE_AFTER_WAITING)] [(.ref a_NONE), (.int (-1 : Int32))])) _
    refine st23 _ ?_
    show Steps p.tables e below (T23.setTop (mkF m 33 #[.val (.ref a_NONE), .val (.ref a_NONE), .val (.ref h0.size), .val (.int (7 : Int32)), .val (.int (3 : Int32)), .val (.ref a_FALLS_DUE_AFTER_WAITING)] [(.int (0 : Int32)), (.int (-1 : Int32))])) _
    refine XS.ineg X23.here hx rfl (hb hby d2_33) rfl ?_
    show Steps p.tables e below (T23.setTop (mkF m 34 #[.val (.ref a_NONE), .val (.ref a_NONE), .val (.ref h0.size), .val (.int (7 : Int32)), .val (.int (3 : Int32)), .val (.ref a_FALLS_DUE_AFTER_WAITING)] [(.int (-(0 : Int32))), (.int (-1 : Int32))])) _
    refine XS.icmpYes X23.here hx rfl (pc0 := 34) (pc' := 53) rfl (hb hby d2_34) rfl (feq (by decide)).2 (by decide) (by decide) ?_
    show Steps p.tables e below (T23.setTop (mkF m 53 #[.val (.ref a_NONE), .val (.ref a_NONE), .val (.ref h0.size), .val (.int (7 : Int32)), .val (.int (3 : Int32)), .val (.ref a_FALLS_DUE_AFTER_WAITING)] [])) _
    refine XS.iinc X23.here hx rfl (hb hby d2_53) rfl (l' := #[.val (.ref a_NONE), .val (.ref a_NONE), .val (.ref h0.size), .val (.int (7 : Int32)), .val (.int (4 : Int32)), .val (.ref a_FALLS_DUE_AFTER_WAITING)]) rfl ?_
    show Steps p.tables e below (T23.setTop (mkF m 56 #[.val (.ref a_NONE), .val (.ref a_NONE), .val (.ref h0.size), .val (.int (7 : Int32)), .val (.int (4 : Int32)), .val (.ref a_FALLS_DUE_AFTER_WAITING)] [])) _
    refine XS.goto X23.here hx rfl (pc0 := 56) (pc' := 12) rfl (hb hby d2_56) (by decide) (by decide) ?_
    show Steps p.tables e below (T23.setTop (mkF m 12 #[.val (.ref a_NONE), .val (.ref a_NONE), .val (.ref h0.size), .val (.int (7 : Int32)), .val (.int (4 : Int32)), .val (.ref a_FALLS_DUE_AFTER_WAITING)] [])) _
    refine XS.iload X23.here hx rfl (hb hby d2_12) rfl ?_
    show Steps p.tables e below (T23.setTop (mkF m 14 #[.val (.ref a_NONE), .val (.ref a_NONE), .val (.ref h0.size), .val (.int (7 : Int32)), .val (.int (4 : Int32)), .val (.ref a_FALLS_DUE_AFTER_WAITING)] [(.int (4 : Int32))])) _
    refine XS.iloadN X23.here hx rfl (hb hby d2_14) rfl ?_
    show Steps p.tables e below (T23.setTop (mkF m 15 #[.val (.ref a_NONE), .val (.ref a_NONE), .val (.ref h0.size), .val (.int (7 : Int32)), .val (.int (4 : Int32)), .val (.ref a_FALLS_DUE_AFTER_WAITING)] [(.int (7 : Int32)), (.int (4 : Int32))])) _
    refine XS.icmpNo X23.here hx rfl (hb hby d2_15) rfl (tlt (by decide : (4 : Int32) < (7 : Int32))).2.1 ?_
    show Steps p.tables e below (T23.setTop (mkF m 18 #[.val (.ref a_NONE), .val (.ref a_NONE), .val (.ref h0.size), .val (.int (7 : Int32)), .val (.int (4 : Int32)), .val (.ref a_FALLS_DUE_AFTER_WAITING)] [])) _
    refine XS.aloadN X23.here hx rfl (hb hby d2_18) rfl rfl ?_
    show Steps p.tables e below (T23.setTop (mkF m 19 #[.val (.ref a_NONE), .val (.ref a_NONE), .val (.ref h0.size), .val (.int (7 : Int32)), .val (.int (4 : Int32)), .val (.ref a_FALLS_DUE_AFTER_WAITING)] [(.ref h0.size)])) _
    refine XS.iload X23.here hx rfl (hb hby d2_19) rfl ?_
    show Steps p.tables e below (T23.setTop (mkF m 21 #[.val (.ref a_NONE), .val (.ref a_NONE), .val (.ref h0.size), .val (.int (7 : Int32)), .val (.int (4 : Int32)), .val (.ref a_FALLS_DUE_AFTER_WAITING)] [(.int (4 : Int32)), (.ref h0.size)])) _
    refine X23.aaload hx (j := (4 : Int32)) (v := (.ref a_WAITS_AGAIN)) (by rw [e23]; exact Arv_.1) (State.isArrayOf_alike hZ.alike Arv_.2.1) rfl Arv_.2.2 (inb_of Sv ⟨by decide, by decide⟩) (Has.at Hv (inb_of Sv ⟨by decide, by decide⟩) rfl) (g := (mkF m 21 #[.val (.ref a_NONE), .val (.ref a_NONE), .val (.ref h0.size), .val (.int (7 : Int32)), .val (.int (4 : Int32)), .val (.ref a_FALLS_DUE_AFTER_WAITING)] [(.int (4 : Int32)), (.ref h0.size)])) rfl rfl (hb hby d2_21) _ ?_
    show Steps p.tables e below (T23.setTop (mkF m 22 #[.val (.ref a_NONE), .val (.ref a_NONE), .val (.ref h0.size), .val (.int (7 : Int32)), .val (.int (4 : Int32)), .val (.ref a_FALLS_DUE_AFTER_WAITING)] [(.ref a_WAITS_AGAIN)])) _
    refine XS.astore X23.here hx rfl (hb hby d2_22) rfl rfl (l' := #[.val (.ref a_NONE), .val (.ref a_NONE), .val (.ref h0.size), .val (.int (7 : Int32)), .val (.int (4 : Int32)), .val (.ref a_WAITS_AGAIN)]) rfl ?_
    show Steps p.tables e below (T23.setTop (mkF m 24 #[.val (.ref a_NONE), .val (.ref a_NONE), .val (.ref h0.size), .val (.int (7 : Int32)), .val (.int (4 : Int32)), .val (.ref a_WAITS_AGAIN)] [])) _
    refine XS.aload X23.here hx rfl (hb hby d2_24) rfl rfl ?_
    show Steps p.tables e below (T23.setTop (mkF m 26 #[.val (.ref a_NONE), .val (.ref a_NONE), .val (.ref h0.size), .val (.int (7 : Int32)), .val (.int (4 : Int32)), .val (.ref a_WAITS_AGAIN)] [(.ref a_WAITS_AGAIN)])) _
    refine st26 _ ?_
    show Steps p.tables e below (T26.setTop (mkF m 29 #[.val (.ref a_NONE), .val (.ref a_NONE), .val (.ref h0.size), .val (.int (7 : Int32)), .val (.int (4 : Int32)), .val (.ref a_WAITS_AGAIN)] [(.int (1 : Int32))])) _
    refine XS.aloadN X26.here hx rfl (hb hby d2_29) rfl rfl ?_
    show Steps p.tables e below (T26.setTop (mkF m 30 #[.val (.ref a_NONE), .val (.ref a_NONE), .val (.ref h0.size), .val (.int (7 : Int32)), .val (.int (4 : Int32)), .val (.ref a_WAITS_AGAIN)] [(.ref a_NONE), (.int (1 : Int32))])) _
    refine st27 _ ?_
    show Steps p.tables e below (T27.setTop (mkF m 33 #[.val (.ref a_NONE), .val (.ref a_NONE), .val (.ref h0.size), .val (.int (7 : Int32)), .val (.int (4 : Int32)), .val (.ref a_WAITS_AGAIN)] [(.int (0 : Int32)), (.int (1 : Int32))])) _
    refine XS.ineg X27.here hx rfl (hb hby d2_33) rfl ?_
    show Steps p.tables e below (T27.setTop (mkF m 34 #[.val (.ref a_NONE), .val (.ref a_NONE), .val (.ref h0.size), .val (.int (7 : Int32)), .val (.int (4 : Int32)), .val (.ref a_WAITS_AGAIN)] [(.int (-(0 : Int32))), (.int (1 : Int32))])) _
    refine XS.icmpYes X27.here hx rfl (pc0 := 34) (pc' := 53) rfl (hb hby d2_34) rfl (feq (by decide)).2 (by decide) (by decide) ?_
    show Steps p.tables e below (T27.setTop (mkF m 53 #[.val (.ref a_NONE), .val (.ref a_NONE), .val (.ref h0.size), .val (.int (7 : Int32)), .val (.int (4 : Int32)), .val (.ref a_WAITS_AGAIN)] [])) _
    refine XS.iinc X27.here hx rfl (hb hby d2_53) rfl (l' := #[.val (.ref a_NONE), .val (.ref a_NONE), .val (.ref h0.size), .val (.int (7 : Int32)), .val (.int (5 : Int32)), .val (.ref a_WAITS_AGAIN)]) rfl ?_
    show Steps p.tables e below (T27.setTop (mkF m 56 #[.val (.ref a_NONE), .val (.ref a_NONE), .val (.ref h0.size), .val (.int (7 : Int32)), .val (.int (5 : Int32)), .val (.ref a_WAITS_AGAIN)] [])) _
    refine XS.goto X27.here hx rfl (pc0 := 56) (pc' := 12) rfl (hb hby d2_56) (by decide) (by decide) ?_
    show Steps p.tables e below (T27.setTop (mkF m 12 #[.val (.ref a_NONE), .val (.ref a_NONE), .val (.ref h0.size), .val (.int (7 : Int32)), .val (.int (5 : Int32)), .val (.ref a_WAITS_AGAIN)] [])) _
    refine XS.iload X27.here hx rfl (hb hby d2_12) rfl ?_
    show Steps p.tables e below (T27.setTop (mkF m 14 #[.val (.ref a_NONE), .val (.ref a_NONE), .val (.ref h0.size), .val (.int (7 : Int32)), .val (.int (5 : Int32)), .val (.ref a_WAITS_AGAIN)] [(.int (5 : Int32))])) _
    refine XS.iloadN X27.here hx rfl (hb hby d2_14) rfl ?_
    show Steps p.tables e below (T27.setTop (mkF m 15 #[.val (.ref a_NONE), .val (.ref a_NONE), .val (.ref h0.size), .val (.int (7 : Int32)), .val (.int (5 : Int32)), .val (.ref a_WAITS_AGAIN)] [(.int (7 : Int32)), (.int (5 : Int32))])) _
    refine XS.icmpNo X27.here hx rfl (hb hby d2_15) rfl (tlt (by decide : (5 : Int32) < (7 : Int32))).2.1 ?_
    show Steps p.tables e below (T27.setTop (mkF m 18 #[.val (.ref a_NONE), .val (.ref a_NONE), .val (.ref h0.size), .val (.int (7 : Int32)), .val (.int (5 : Int32)), .val (.ref a_WAITS_AGAIN)] [])) _
    refine XS.aloadN X27.here hx rfl (hb hby d2_18) rfl rfl ?_
    show Steps p.tables e below (T27.setTop (mkF m 19 #[.val (.ref a_NONE), .val (.ref a_NONE), .val (.ref h0.size), .val (.int (7 : Int32)), .val (.int (5 : Int32)), .val (.ref a_WAITS_AGAIN)] [(.ref h0.size)])) _
    refine XS.iload X27.here hx rfl (hb hby d2_19) rfl ?_
    show Steps p.tables e below (T27.setTop (mkF m 21 #[.val (.ref a_NONE), .val (.ref a_NONE), .val (.ref h0.size), .val (.int (7 : Int32)), .val (.int (5 : Int32)), .val (.ref a_WAITS_AGAIN)] [(.int (5 : Int32)), (.ref h0.size)])) _
    refine X27.aaload hx (j := (5 : Int32)) (v := (.ref a_FALLS_DUE)) (by rw [e27]; exact Arv_.1) (State.isArrayOf_alike hZ.alike Arv_.2.1) rfl Arv_.2.2 (inb_of Sv ⟨by decide, by decide⟩) (Has.at Hv (inb_of Sv ⟨by decide, by decide⟩) rfl) (g := (mkF m 21 #[.val (.ref a_NONE), .val (.ref a_NONE), .val (.ref h0.size), .val (.int (7 : Int32)), .val (.int (5 : Int32)), .val (.ref a_WAITS_AGAIN)] [(.int (5 : Int32)), (.ref h0.size)])) rfl rfl (hb hby d2_21) _ ?_
    show Steps p.tables e below (T27.setTop (mkF m 22 #[.val (.ref a_NONE), .val (.ref a_NONE), .val (.ref h0.size), .val (.int (7 : Int32)), .val (.int (5 : Int32)), .val (.ref a_WAITS_AGAIN)] [(.ref a_FALLS_DUE)])) _
    refine XS.astore X27.here hx rfl (hb hby d2_22) rfl rfl (l' := #[.val (.ref a_NONE), .val (.ref a_NONE), .val (.ref h0.size), .val (.int (7 : Int32)), .val (.int (5 : Int32)), .val (.ref a_FALLS_DUE)]) rfl ?_
    show Steps p.tables e below (T27.setTop (mkF m 24 #[.val (.ref a_NONE), .val (.ref a_NONE), .val (.ref h0.size), .val (.int (7 : Int32)), .val (.int (5 : Int32)), .val (.ref a_FALLS_DUE)] [])) _
    refine XS.aload X27.here hx rfl (hb hby d2_24) rfl rfl ?_
    show Steps p.tables e below (T27.setTop (mkF m 26 #[.val (.ref a_NONE), .val (.ref a_NONE), .val (.ref h0.size), .val (.int (7 : Int32)), .val (.int (5 : Int32)), .val (.ref a_FALLS_DUE)] [(.ref a_FALLS_DUE)])) _
    refine st30 _ ?_
    show Steps p.tables e below (T30.setTop (mkF m 29 #[.val (.ref a_NONE), .val (.ref a_NONE), .val (.ref h0.size), .val (.int (7 : Int32)), .val (.int (5 : Int32)), .val (.ref a_FALLS_DUE)] [(.int (0 : Int32))])) _
    refine XS.aloadN X30.here hx rfl (hb hby d2_29) rfl rfl ?_
    show Steps p.tables e below (T30.setTop (mkF m 30 #[.val (.ref a_NONE), .val (.ref a_NONE), .val (.ref h0.size), .val (.int (7 : Int32)), .val (.int (5 : Int32)), .val (.ref a_FALLS_DUE)] [(.ref a_NONE), (.int (0 : Int32))])) _
    refine st31 _ ?_
    show Steps p.tables e below (T31.setTop (mkF m 33 #[.val (.ref a_NONE), .val (.ref a_NONE), .val (.ref h0.size), .val (.int (7 : Int32)), .val (.int (5 : Int32)), .val (.ref a_FALLS_DUE)] [(.int (0 : Int32)), (.int (0 : Int32))])) _
    refine XS.ineg X31.here hx rfl (hb hby d2_33) rfl ?_
    show Steps p.tables e below (T31.setTop (mkF m 34 #[.val (.ref a_NONE), .val (.ref a_NONE), .val (.ref h0.size), .val (.int (7 : Int32)), .val (.int (5 : Int32)), .val (.ref a_FALLS_DUE)] [(.int (-(0 : Int32))), (.int (0 : Int32))])) _
    refine XS.icmpNo X31.here hx rfl (hb hby d2_34) rfl (teq (by decide)).2 ?_
    show Steps p.tables e below (T31.setTop (mkF m 37 #[.val (.ref a_NONE), .val (.ref a_NONE), .val (.ref h0.size), .val (.int (7 : Int32)), .val (.int (5 : Int32)), .val (.ref a_FALLS_DUE)] [])) _
    refine XS.aload X31.here hx rfl (hb hby d2_37) rfl rfl ?_
    show Steps p.tables e below (T31.setTop (mkF m 39 #[.val (.ref a_NONE), .val (.ref a_NONE), .val (.ref h0.size), .val (.int (7 : Int32)), .val (.int (5 : Int32)), .val (.ref a_FALLS_DUE)] [(.ref a_FALLS_DUE)])) _
    refine st33 _ ?_
    show Steps p.tables e below (T33.setTop (mkF m 42 #[.val (.ref a_NONE), .val (.ref a_NONE), .val (.ref h0.size), .val (.int (7 : Int32)), .val (.int (5 : Int32)), .val (.ref a_FALLS_DUE)] [(.int (1 : Int32))])) _
    refine XS.aloadN X33.here hx rfl (hb hby d2_42) rfl rfl ?_
    show Steps p.tables e below (T33.setTop (mkF m 43 #[.val (.ref a_NONE), .val (.ref a_NONE), .val (.ref h0.size), .val (.int (7 : Int32)), .val (.int (5 : Int32)), .val (.ref a_FALLS_DUE)] [(.ref a_NONE), (.int (1 : Int32))])) _
    refine st34 _ ?_
    show Steps p.tables e below (T34.setTop (mkF m 46 #[.val (.ref a_NONE), .val (.ref a_NONE), .val (.ref h0.size), .val (.int (7 : Int32)), .val (.int (5 : Int32)), .val (.ref a_FALLS_DUE)] [(.int (0 : Int32)), (.int (1 : Int32))])) _
    refine XS.ineg X34.here hx rfl (hb hby d2_46) rfl ?_
    show Steps p.tables e below (T34.setTop (mkF m 47 #[.val (.ref a_NONE), .val (.ref a_NONE), .val (.ref h0.size), .val (.int (7 : Int32)), .val (.int (5 : Int32)), .val (.ref a_FALLS_DUE)] [(.int (-(0 : Int32))), (.int (1 : Int32))])) _
    refine XS.icmpYes X34.here hx rfl (pc0 := 47) (pc' := 53) rfl (hb hby d2_47) rfl (feq (by decide)).2 (by decide) (by decide) ?_
    show Steps p.tables e below (T34.setTop (mkF m 53 #[.val (.ref a_NONE), .val (.ref a_NONE), .val (.ref h0.size), .val (.int (7 : Int32)), .val (.int (5 : Int32)), .val (.ref a_FALLS_DUE)] [])) _
    refine XS.iinc X34.here hx rfl (hb hby d2_53) rfl (l' := #[.val (.ref a_NONE), .val (.ref a_NONE), .val (.ref h0.size), .val (.int (7 : Int32)), .val (.int (6 : Int32)), .val (.ref a_FALLS_DUE)]) rfl ?_
    show Steps p.tables e below (T34.setTop (mkF m 56 #[.val (.ref a_NONE), .val (.ref a_NONE), .val (.ref h0.size), .val (.int (7 : Int32)), .val (.int (6 : Int32)), .val (.ref a_FALLS_DUE)] [])) _
    refine XS.goto X34.here hx rfl (pc0 := 56) (pc' := 12) rfl (hb hby d2_56) (by decide) (by decide) ?_
    show Steps p.tables e below (T34.setTop (mkF m 12 #[.val (.ref a_NONE), .val (.ref a_NONE), .val (.ref h0.size), .val (.int (7 : Int32)), .val (.int (6 : Int32)), .val (.ref a_FALLS_DUE)] [])) _
    refine XS.iload X34.here hx rfl (hb hby d2_12) rfl ?_
    show Steps p.tables e below (T34.setTop (mkF m 14 #[.val (.ref a_NONE), .val (.ref a_NONE), .val (.ref h0.size), .val (.int (7 : Int32)), .val (.int (6 : Int32)), .val (.ref a_FALLS_DUE)] [(.int (6 : Int32))])) _
    refine XS.iloadN X34.here hx rfl (hb hby d2_14) rfl ?_
    show Steps p.tables e below (T34.setTop (mkF m 15 #[.val (.ref a_NONE), .val (.ref a_NONE), .val (.ref h0.size), .val (.int (7 : Int32)), .val (.int (6 : Int32)), .val (.ref a_FALLS_DUE)] [(.int (7 : Int32)), (.int (6 : Int32))])) _
    refine XS.icmpNo X34.here hx rfl (hb hby d2_15) rfl (tlt (by decide : (6 : Int32) < (7 : Int32))).2.1 ?_
    show Steps p.tables e below (T34.setTop (mkF m 18 #[.val (.ref a_NONE), .val (.ref a_NONE), .val (.ref h0.size), .val (.int (7 : Int32)), .val (.int (6 : Int32)), .val (.ref a_FALLS_DUE)] [])) _
    refine XS.aloadN X34.here hx rfl (hb hby d2_18) rfl rfl ?_
    show Steps p.tables e below (T34.setTop (mkF m 19 #[.val (.ref a_NONE), .val (.ref a_NONE), .val (.ref h0.size), .val (.int (7 : Int32)), .val (.int (6 : Int32)), .val (.ref a_FALLS_DUE)] [(.ref h0.size)])) _
    refine XS.iload X34.here hx rfl (hb hby d2_19) rfl ?_
    show Steps p.tables e below (T34.setTop (mkF m 21 #[.val (.ref a_NONE), .val (.ref a_NONE), .val (.ref h0.size), .val (.int (7 : Int32)), .val (.int (6 : Int32)), .val (.ref a_FALLS_DUE)] [(.int (6 : Int32)), (.ref h0.size)])) _
    refine X34.aaload hx (j := (6 : Int32)) (v := (.ref a_TAKEN_BACK)) (by rw [e34]; exact Arv_.1) (State.isArrayOf_alike hZ.alike Arv_.2.1) rfl Arv_.2.2 (inb_of Sv ⟨by decide, by decide⟩) (Has.at Hv (inb_of Sv ⟨by decide, by decide⟩) rfl) (g := (mkF m 21 #[.val (.ref a_NONE), .val (.ref a_NONE), .val (.ref h0.size), .val (.int (7 : Int32)), .val (.int (6 : Int32)), .val (.ref a_FALLS_DUE)] [(.int (6 : Int32)), (.ref h0.size)])) rfl rfl (hb hby d2_21) _ ?_
    show Steps p.tables e below (T34.setTop (mkF m 22 #[.val (.ref a_NONE), .val (.ref a_NONE), .val (.ref h0.size), .val (.int (7 : Int32)), .val (.int (6 : Int32)), .val (.ref a_FALLS_DUE)] [(.ref a_TAKEN_BACK)])) _
    refine XS.astore X34.here hx rfl (hb hby d2_22) rfl rfl (l' := #[.val (.ref a_NONE), .val (.ref a_NONE), .val (.ref h0.size), .val (.int (7 : Int32)), .val (.int (6 : Int32)), .val (.ref a_TAKEN_BACK)]) rfl ?_
    show Steps p.tables e below (T34.setTop (mkF m 24 #[.val (.ref a_NONE), .val (.ref a_NONE), .val (.ref h0.size), .val (.int (7 : Int32)), .val (.int (6 : Int32)), .val (.ref a_TAKEN_BACK)] [])) _
    refine XS.aload X34.here hx rfl (hb hby d2_24) rfl rfl ?_
    show Steps p.tables e below (T34.setTop (mkF m 26 #[.val (.ref a_NONE), .val (.ref a_NONE), .val (.ref h0.size), .val (.int (7 : Int32)), .val (.int (6 : Int32)), .val (.ref a_TAKEN_BACK)] [(.ref a_TAKEN_BACK)])) _
    refine st37 _ ?_
    show Steps p.tables e below (T37.setTop (mkF m 29 #[.val (.ref a_NONE), .val (.ref a_NONE), .val (.ref h0.size), .val (.int (7 : Int32)), .val (.int (6 : Int32)), .val (.ref a_TAKEN_BACK)] [(.int (0 : Int32))])) _
    refine XS.aloadN X37.here hx rfl (hb hby d2_29) rfl rfl ?_
    show Steps p.tables e below (T37.setTop (mkF m 30 #[.val (.ref a_NONE), .val (.ref a_NONE), .val (.ref h0.size), .val (.int (7 : Int32)), .val (.int (6 : Int32)), .val (.ref a_TAKEN_BACK)] [(.ref a_NONE), (.int (0 : Int32))])) _
    refine st38 _ ?_
    show Steps p.tables e below (T38.setTop (mkF m 33 #[.val (.ref a_NONE), .val (.ref a_NONE), .val (.ref h0.size), .val (.int (7 : Int32)), .val (.int (6 : Int32)), .val (.ref a_TAKEN_BACK)] [(.int (0 : Int32)), (.int (0 : Int32))])) _
    refine XS.ineg X38.here hx rfl (hb hby d2_33) rfl ?_
    show Steps p.tables e below (T38.setTop (mkF m 34 #[.val (.ref a_NONE), .val (.ref a_NONE), .val (.ref h0.size), .val (.int (7 : Int32)), .val (.int (6 : Int32)), .val (.ref a_TAKEN_BACK)] [(.int (-(0 : Int32))), (.int (0 : Int32))])) _
    refine XS.icmpNo X38.here hx rfl (hb hby d2_34) rfl (teq (by decide)).2 ?_
    show Steps p.tables e below (T38.setTop (mkF m 37 #[.val (.ref a_NONE), .val (.ref a_NONE), .val (.ref h0.size), .val (.int (7 : Int32)), .val (.int (6 : Int32)), .val (.ref a_TAKEN_BACK)] [])) _
    refine XS.aload X38.here hx rfl (hb hby d2_37) rfl rfl ?_
    show Steps p.tables e below (T38.setTop (mkF m 39 #[.val (.ref a_NONE), .val (.ref a_NONE), .val (.ref h0.size), .val (.int (7 : Int32)), .val (.int (6 : Int32)), .val (.ref a_TAKEN_BACK)] [(.ref a_TAKEN_BACK)])) _
    refine st40 _ ?_
    show Steps p.tables e below (T40.setTop (mkF m 42 #[.val (.ref a_NONE), .val (.ref a_NONE), .val (.ref h0.size), .val (.int (7 : Int32)), .val (.int (6 : Int32)), .val (.ref a_TAKEN_BACK)] [(.int (-1 : Int32))])) _
    refine XS.aloadN X40.here hx rfl (hb hby d2_42) rfl rfl ?_
    show Steps p.tables e below (T40.setTop (mkF m 43 #[.val (.ref a_NONE), .val (.ref a_NONE), .val (.ref h0.size), .val (.int (7 : Int32)), .val (.int (6 : Int32)), .val (.ref a_TAKEN_BACK)] [(.ref a_NONE), (.int (-1 : Int32))])) _
    refine st41 _ ?_
    show Steps p.tables e below (T41.setTop (mkF m 46 #[.val (.ref a_NONE), .val (.ref a_NONE), .val (.ref h0.size), .val (.int (7 : Int32)), .val (.int (6 : Int32)), .val (.ref a_TAKEN_BACK)] [(.int (0 : Int32)), (.int (-1 : Int32))])) _
    refine XS.ineg X41.here hx rfl (hb hby d2_46) rfl ?_
    show Steps p.tables e below (T41.setTop (mkF m 47 #[.val (.ref a_NONE), .val (.ref a_NONE), .val (.ref h0.size), .val (.int (7 : Int32)), .val (.int (6 : Int32)), .val (.ref a_TAKEN_BACK)] [(.int (-(0 : Int32))), (.int (-1 : Int32))])) _
    refine XS.icmpYes X41.here hx rfl (pc0 := 47) (pc' := 53) rfl (hb hby d2_47) rfl (feq (by decide)).2 (by decide) (by decide) ?_
    show Steps p.tables e below (T41.setTop (mkF m 53 #[.val (.ref a_NONE), .val (.ref a_NONE), .val (.ref h0.size), .val (.int (7 : Int32)), .val (.int (6 : Int32)), .val (.ref a_TAKEN_BACK)] [])) _
    refine XS.iinc X41.here hx rfl (hb hby d2_53) rfl (l' := #[.val (.ref a_NONE), .val (.ref a_NONE), .val (.ref h0.size), .val (.int (7 : Int32)), .val (.int (7 : Int32)), .val (.ref a_TAKEN_BACK)]) rfl ?_
    show Steps p.tables e below (T41.setTop (mkF m 56 #[.val (.ref a_NONE), .val (.ref a_NONE), .val (.ref h0.size), .val (.int (7 : Int32)), .val (.int (7 : Int32)), .val (.ref a_TAKEN_BACK)] [])) _
    refine XS.goto X41.here hx rfl (pc0 := 56) (pc' := 12) rfl (hb hby d2_56) (by decide) (by decide) ?_
    show Steps p.tables e below (T41.setTop (mkF m 12 #[.val (.ref a_NONE), .val (.ref a_NONE), .val (.ref h0.size), .val (.int (7 : Int32)), .val (.int (7 : Int32)), .val (.ref a_TAKEN_BACK)] [])) _
    refine XS.iload X41.here hx rfl (hb hby d2_12) rfl ?_
    show Steps p.tables e below (T41.setTop (mkF m 14 #[.val (.ref a_NONE), .val (.ref a_NONE), .val (.ref h0.size), .val (.int (7 : Int32)), .val (.int (7 : Int32)), .val (.ref a_TAKEN_BACK)] [(.int (7 : Int32))])) _
    refine XS.iloadN X41.here hx rfl (hb hby d2_14) rfl ?_
    show Steps p.tables e below (T41.setTop (mkF m 15 #[.val (.ref a_NONE), .val (.ref a_NONE), .val (.ref h0.size), .val (.int (7 : Int32)), .val (.int (7 : Int32)), .val (.ref a_TAKEN_BACK)] [(.int (7 : Int32)), (.int (7 : Int32))])) _
    refine XS.icmpYes X41.here hx rfl (pc0 := 15) (pc' := 59) rfl (hb hby d2_15) rfl (flt (by decide : ¬ ((7 : Int32) < (7 : Int32)))).2.1 (by decide) (by decide) ?_
    show Steps p.tables e below (T41.setTop (mkF m 59 #[.val (.ref a_NONE), .val (.ref a_NONE), .val (.ref h0.size), .val (.int (7 : Int32)), .val (.int (7 : Int32)), .val (.ref a_TAKEN_BACK)] [])) _
    refine XS.aloadN X41.here hx rfl (hb hby d2_59) rfl rfl ?_
    show Steps p.tables e below (T41.setTop (mkF m 60 #[.val (.ref a_NONE), .val (.ref a_NONE), .val (.ref h0.size), .val (.int (7 : Int32)), .val (.int (7 : Int32)), .val (.ref a_TAKEN_BACK)] [(.ref a_NONE)])) _
    jvm_step X41.here [X41.here.top, hx, (hb hby d2_60), X41.method', Bd.returns, Value.isRef, FieldType.isReference]
    first | (intro acts; rw [hr _ acts rfl rfl rfl]) | rw [hr _ _ rfl rfl rfl]
    exact Steps.refl _
  · show Q2_r0 Z a_NONE a_WAITS a_WAITS_NO_MORE a_FALLS_DUE_AFTER_WAITING a_WAITS_AGAIN a_FALLS_DUE a_TAKEN_BACK a_VALUES kV h0 n0 _ T41.heap _
    rw [e41]
    exact ⟨rfl, N2, Ex2⟩
def Q2_r1 (Z : State) (a_NONE a_WAITS a_WAITS_NO_MORE a_FALLS_DUE_AFTER_WAITING a_WAITS_AGAIN a_FALLS_DUE a_TAKEN_BACK a_VALUES : Addr) (kV : ClassId) (h0 : Heap) (n0 : Nat) (v : Option Value) (h : Heap) (L : List Loc) : Prop := v = some (.ref a_WAITS_NO_MORE) ∧ Fr n0 L ∧ Ext h0 h
set_option maxRecDepth 65536 in
set_option maxHeartbeats 40000000 in
theorem rm2_r1 (l : Launch) (Z : State) (a0 : Array Value) (hw : ∀ d ∈ tables_1, d.before a0 Z = true) (ws : List Jvm.Cond)  (a_NONE a_WAITS a_WAITS_NO_MORE a_FALLS_DUE_AFTER_WAITING a_WAITS_AGAIN a_FALLS_DUE a_TAKEN_BACK a_VALUES : Addr) (kV : ClassId) (h0 : Heap) (n0 : Nat) (Z0 : n0 ≤ h0.size) (WW : Own Z h0 a_NONE a_WAITS a_WAITS_NO_MORE a_FALLS_DUE_AFTER_WAITING a_WAITS_AGAIN a_FALLS_DUE a_TAKEN_BACK a_VALUES kV)  :
    MetFree l (⟨"com/example/acompte/acompte/DocumentKind$Vat", "opposite", "()Lcom/example/acompte/acompte/DocumentKind$Vat;"⟩ : MethodName) (head1 (Jvm.Cond.code (⟨"com/example/acompte/acompte/DocumentKind$Vat", "opposite", "()Lcom/example/acompte/acompte/DocumentKind$Vat;"⟩ : MethodName) prog_12_method_6_code 6 (some (.object "com/example/acompte/acompte/DocumentKind$Vat")) :: ws) ({ frames := 2, cells := 1, slots := 7, locals := 25 } : Room)) (fun a U => a = #[(.ref a_WAITS)] ∧ Z.Warmed39 U.vm ∧ U.heap = h0) (fun _ _ _ _ _ => True) (fun _ U o U' => ∃ v L, o = .returned v ∧ Q2_r1 Z a_NONE a_WAITS a_WAITS_NO_MORE a_FALLS_DUE_AFTER_WAITING a_WAITS_AGAIN a_FALLS_DUE a_TAKEN_BACK a_VALUES kV h0 n0 v U'.heap L ∧ FrameEnd U o U' L ({ frames := 2, cells := 1, slots := 7, locals := 25 } : Room).cells ({ frames := 2, cells := 1, slots := 7, locals := 25 } : Room).slots) := by
  refine MetFree.of_bodySF (plainFor_of_name pn_2) hisR ?_
  intro p e s m args below meth c s₁ Bd hml0 hP hK
  have WW0 := WW
  obtain ⟨S_NONE, S_WAITS, S_WAITS_NO_MORE, S_FALLS_DUE_AFTER_WAITING, S_WAITS_AGAIN, S_FALLS_DUE, S_TAKEN_BACK, S_VALUES, E_NONE, E_WAITS, E_WAITS_NO_MORE, E_FALLS_DUE_AFTER_WAITING, E_WAITS_AGAIN, E_FALLS_DUE, E_TAKEN_BACK, E_VALUES, Fw_NONE, Fw_WAITS, Fw_WAITS_NO_MORE, Fw_FALLS_DUE_AFTER_WAITING, Fw_WAITS_AGAIN, Fw_FALLS_DUE, Fw_TAKEN_BACK, Fd_NONE, Fd_WAITS, Fd_WAITS_NO_MORE, Fd_FALLS_DUE_AFTER_WAITING, Fd_WAITS_AGAIN, Fd_FALLS_DUE, Fd_TAKEN_BACK, V_VALUES⟩ := WW0
  obtain ⟨rfl, hZ, hh⟩ := hP
  have hx := Bd.exec
  have hby := Bd.bytes
  have hml : c.maxLocals = 6 := hml0
  have hown : s.vm.findClass "com/example/acompte/acompte/DocumentKind$Vat" = some m.cls := findClass_of_methodNamed Bd.named
  have hnm := (name_of_methodNamed Bd.named Bd.method).1
  have X0 : Stand p l e ({ frames := 2, cells := 1, slots := 7, locals := 25 } : Room) s m #[(.ref a_WAITS)] below meth c s₁ [] 0 0 := Stand.of_body Bd
  have e0 : s₁.heap = h0 := by rw [← hh, Bd.state]; rfl
  have N0 := Fr.nil n0
  have pre0 : ∀ t, Steps p.tables e below (s₁.setTop (mkF m 0 #[.val (.ref a_WAITS), .unset, .unset, .unset, .unset, .unset] [])) t → Steps p.tables e below (s₁.setTop (entryFrame m #[(.ref a_WAITS)] 6)) t := fun t k => castTop (ef_2 m a_WAITS) k
  -- 3. LAWS
  -- pc 2: com/example/acompte/acompte/DocumentKind$Vat.values by its contract rm3
  obtain ⟨_, _, ⟨T2, L2, k2, n2⟩, -, X2, ⟨Lc2, hQ2, l2, y2, z2⟩, st2⟩ := Jvm.LawKit.callS X0 hx (y := (⟨"com/example/acompte/acompte/DocumentKind$Vat", "values", "()[Lcom/example/acompte/acompte/DocumentKind$Vat;"⟩ : MethodName)) hown (mvT hZ (hw _ (List.mem_of_getElem? (i := 13) rfl))) (mvT hZ (hw _ (List.mem_of_getElem? (i := 14) rfl))) (mvT hZ (hw _ (List.mem_of_getElem? (i := 6) rfl))) (mvT hZ (hw _ (List.mem_of_getElem? (i := 15) rfl))) (by decide) (backOf (W := 0) (rm3_v l Z a0 hw []  a_NONE a_WAITS a_WAITS_NO_MORE a_FALLS_DUE_AFTER_WAITING a_WAITS_AGAIN a_FALLS_DUE a_TAKEN_BACK a_VALUES kV h0 n0 Z0 WW) hZ (hw _ (List.mem_of_getElem? (i := 15) rfl)) (hw _ (List.mem_of_getElem? (i := 6) rfl)) (by decide) (by decide)) (g := (mkF m 2 #[.val (.ref a_WAITS), .val .null, .unset, .unset, .unset, .unset] [])) rfl (by rw [hml]; rfl) (argsL := []) (rest := []) (lenOf pdw_1 rfl) rfl (by show 2 * 0 + _ ≤ _; exact Nat.le_of_eq rfl) (hb hby d2_2) (fun _ _ => ⟨rfl, e0, (by decide : 0 + 1 ≤ _), (by decide : 0 + 7 ≤ _)⟩)
  dsimp only [Pt.U, Pt.locs, Pt.cells, Pt.slots] at X2 l2 y2 z2 st2 hQ2
  subst l2 y2 z2
  obtain ⟨rfl, N2q, Ex2, V2⟩ := hQ2
  have WW2 := WW.ext Ex2
  obtain ⟨S_NONE, S_WAITS, S_WAITS_NO_MORE, S_FALLS_DUE_AFTER_WAITING, S_WAITS_AGAIN, S_FALLS_DUE, S_TAKEN_BACK, S_VALUES, E_NONE, E_WAITS, E_WAITS_NO_MORE, E_FALLS_DUE_AFTER_WAITING, E_WAITS_AGAIN, E_FALLS_DUE, E_TAKEN_BACK, E_VALUES, Fw_NONE, Fw_WAITS, Fw_WAITS_NO_MORE, Fw_FALLS_DUE_AFTER_WAITING, Fw_WAITS_AGAIN, Fw_FALLS_DUE, Fw_TAKEN_BACK, Fd_NONE, Fd_WAITS, Fd_WAITS_NO_MORE, Fd_FALLS_DUE_AFTER_WAITING, Fd_WAITS_AGAIN, Fd_FALLS_DUE, Fd_TAKEN_BACK, V_VALUES⟩ := WW2
  obtain ⟨clv, Arv_, qv, Sv, Nv, Hv, Gv⟩ := V2
  have N2 := Fr.app N0 N2q
  obtain ⟨T5, X5, e5, st5⟩ := getF X2 hx hZ hown (host := "") (Or.inl (hw _ (List.mem_of_getElem? (i := 34) rfl))) Via.refl rfl (Fw_NONE) (g := (mkF m 26 #[.val (.ref a_WAITS), .val .null, .val (.ref h0.size), .val (.int (7 : Int32)), .val (.int (0 : Int32)), .val (.ref a_NONE)] [(.ref a_NONE)])) rfl rfl (hb hby d2_26)
  obtain ⟨T7, X7, e7, st7⟩ := getF X5 hx hZ hown (host := "") (Or.inl (hw _ (List.mem_of_getElem? (i := 34) rfl))) Via.refl e5 (Fw_WAITS) (g := (mkF m 30 #[.val (.ref a_WAITS), .val .null, .val (.ref h0.size), .val (.int (7 : Int32)), .val (.int (0 : Int32)), .val (.ref a_NONE)] [(.ref a_WAITS), (.int (0 : Int32))])) rfl rfl (hb hby d2_30)
  obtain ⟨T10, X10, e10, st10⟩ := getF X7 hx hZ hown (host := "") (Or.inl (hw _ (List.mem_of_getElem? (i := 34) rfl))) Via.refl e7 (Fw_WAITS) (g := (mkF m 26 #[.val (.ref a_WAITS), .val .null, .val (.ref h0.size), .val (.int (7 : Int32)), .val (.int (1 : Int32)), .val (.ref a_WAITS)] [(.ref a_WAITS)])) rfl rfl (hb hby d2_26)
  obtain ⟨T11, X11, e11, st11⟩ := getF X10 hx hZ hown (host := "") (Or.inl (hw _ (List.mem_of_getElem? (i := 34) rfl))) Via.refl e10 (Fw_WAITS) (g := (mkF m 30 #[.val (.ref a_WAITS), .val .null, .val (.ref h0.size), .val (.int (7 : Int32)), .val (.int (1 : Int32)), .val (.ref a_WAITS)] [(.ref a_WAITS), (.int (1 : Int32))])) rfl rfl (hb hby d2_30)
  obtain ⟨T14, X14, e14, st14⟩ := getF X11 hx hZ hown (host := "") (Or.inl (hw _ (List.mem_of_getElem? (i := 34) rfl))) Via.refl e11 (Fw_WAITS_NO_MORE) (g := (mkF m 26 #[.val (.ref a_WAITS), .val .null, .val (.ref h0.size), .val (.int (7 : Int32)), .val (.int (2 : Int32)), .val (.ref a_WAITS_NO_MORE)] [(.ref a_WAITS_NO_MORE)])) rfl rfl (hb hby d2_26)
  obtain ⟨T15, X15, e15, st15⟩ := getF X14 hx hZ hown (host := "") (Or.inl (hw _ (List.mem_of_getElem? (i := 34) rfl))) Via.refl e14 (Fw_WAITS) (g := (mkF m 30 #[.val (.ref a_WAITS), .val .null, .val (.ref h0.size), .val (.int (7 : Int32)), .val (.int (2 : Int32)), .val (.ref a_WAITS_NO_MORE)] [(.ref a_WAITS), (.int (-1 : Int32))])) rfl rfl (hb hby d2_30)
  obtain ⟨T17, X17, e17, st17⟩ := getF X15 hx hZ hown (host := "") (Or.inl (hw _ (List.mem_of_getElem? (i := 36) rfl))) Via.refl e15 (Fd_WAITS_NO_MORE) (g := (mkF m 39 #[.val (.ref a_WAITS), .val .null, .val (.ref h0.size), .val (.int (7 : Int32)), .val (.int (2 : Int32)), .val (.ref a_WAITS_NO_MORE)] [(.ref a_WAITS_NO_MORE)])) rfl rfl (hb hby d2_39)
  obtain ⟨T19, X19, e19, st19⟩ := getF X17 hx hZ hown (host := "") (Or.inl (hw _ (List.mem_of_getElem? (i := 36) rfl))) Via.refl e17 (Fd_WAITS) (g := (mkF m 43 #[.val (.ref a_WAITS), .val .null, .val (.ref h0.size), .val (.int (7 : Int32)), .val (.int (2 : Int32)), .val (.ref a_WAITS_NO_MORE)] [(.ref a_WAITS), (.int (0 : Int32))])) rfl rfl (hb hby d2_43)
  obtain ⟨T22, X22, e22, st22⟩ := getF X19 hx hZ hown (host := "") (Or.inl (hw _ (List.mem_of_getElem? (i := 34) rfl))) Via.refl e19 (Fw_FALLS_DUE_AFTER_WAITING) (g := (mkF m 26 #[.val (.ref a_WAITS), .val (.ref a_WAITS_NO_MORE), .val (.ref h0.size), .val (.int (7 : Int32)), .val (.int (3 : Int32)), .val (.ref a_FALLS_DUE_AFTER_WAITING)] [(.ref a_FALLS_DUE_AFTER_WAITING)])) rfl rfl (hb hby d2_26)
  obtain ⟨T23, X23, e23, st23⟩ := getF X22 hx hZ hown (host := "") (Or.inl (hw _ (List.mem_of_getElem? (i := 34) rfl))) Via.refl e22 (Fw_WAITS) (g := (mkF m 30 #[.val (.ref a_WAITS), .val (.ref a_WAITS_NO_MORE), .val (.ref h0.size), .val (.int (7 : Int32)), .val (.int (3 : Int32)), .val (.ref a_FALLS_DUE_AFTER_WAITING)] [(.ref a_WAITS), (.int (-1 : Int32))])) rfl rfl (hb hby d2_30)
  obtain ⟨T25, X25, e25, st25⟩ := getF X23 hx hZ hown (host := "") (Or.inl (hw _ (List.mem_of_getElem? (i := 36) rfl))) Via.refl e23 (Fd_FALLS_DUE_AFTER_WAITING) (g := (mkF m 39 #[.val (.ref a_WAITS), .val (.ref a_WAITS_NO_MORE), .val (.ref h0.size), .val (.int (7 : Int32)), .val (.int (3 : Int32)), .val (.ref a_FALLS_DUE_AFTER_WAITING)] [(.ref a_FALLS_DUE_AFTER_WAITING)])) rfl rfl (hb hby d2_39)
  obtain ⟨T26, X26, e26, st26⟩ := getF X25 hx hZ hown (host := "") (Or.inl (hw _ (List.mem_of_getElem? (i := 36) rfl))) Via.refl e25 (Fd_WAITS) (g := (mkF m 43 #[.val (.ref a_WAITS), .val (.ref a_WAITS_NO_MORE), .val (.ref h0.size), .val (.int (7 : Int32)), .val (.int (3 : Int32)), .val (.ref a_FALLS_DUE_AFTER_WAITING)] [(.ref a_WAITS), (.int (1 : Int32))])) rfl rfl (hb hby d2_43)
  obtain ⟨T29, X29, e29, st29⟩ := getF X26 hx hZ hown (host := "") (Or.inl (hw _ (List.mem_of_getElem? (i := 34) rfl))) Via.refl e26 (Fw_WAITS_AGAIN) (g := (mkF m 26 #[.val (.ref a_WAITS), .val (.ref a_WAITS_NO_MORE), .val (.ref h0.size), .val (.int (7 : Int32)), .val (.int (4 : Int32)), .val (.ref a_WAITS_AGAIN)] [(.ref a_WAITS_AGAIN)])) rfl rfl (hb hby d2_26)
  obtain ⟨T30, X30, e30, st30⟩ := getF X29 hx hZ hown (host := "") (Or.inl (hw _ (List.mem_of_getElem? (i := 34) rfl))) Via.refl e29 (Fw_WAITS) (g := (mkF m 30 #[.val (.ref a_WAITS), .val (.ref a_WAITS_NO_MORE), .val (.ref h0.size), .val (.int (7 : Int32)), .val (.int (4 : Int32)), .val (.ref a_WAITS_AGAIN)] [(.ref a_WAITS), (.int (1 : Int32))])) rfl rfl (hb hby d2_30)
  obtain ⟨T33, X33, e33, st33⟩ := getF X30 hx hZ hown (host := "") (Or.inl (hw _ (List.mem_of_getElem? (i := 34) rfl))) Via.refl e30 (Fw_FALLS_DUE) (g := (mkF m 26 #[.val (.ref a_WAITS), .val (.ref a_WAITS_NO_MORE), .val (.ref h0.size), .val (.int (7 : Int32)), .val (.int (5 : Int32)), .val (.ref a_FALLS_DUE)] [(.ref a_FALLS_DUE)])) rfl rfl (hb hby d2_26)
  obtain ⟨T34, X34, e34, st34⟩ := getF X33 hx hZ hown (host := "") (Or.inl (hw _ (List.mem_of_getElem? (i := 34) rfl))) Via.refl e33 (Fw_WAITS) (g := (mkF m 30 #[.val (.ref a_WAITS), .val (.ref a_WAITS_NO_MORE), .val (.ref h0.size), .val (.int (7 : Int32)), .val (.int (5 : Int32)), .val (.ref a_FALLS_DUE)] [(.ref a_WAITS), (.int (0 : Int32))])) rfl rfl (hb hby d2_30)
  obtain ⟨T37, X37, e37, st37⟩ := getF X34 hx hZ hown (host := "") (Or.inl (hw _ (List.mem_of_getElem? (i := 34) rfl))) Via.refl e34 (Fw_TAKEN_BACK) (g := (mkF m 26 #[.val (.ref a_WAITS), .val (.ref a_WAITS_NO_MORE), .val (.ref h0.size), .val (.int (7 : Int32)), .val (.int (6 : Int32)), .val (.ref a_TAKEN_BACK)] [(.ref a_TAKEN_BACK)])) rfl rfl (hb hby d2_26)
  obtain ⟨T38, X38, e38, st38⟩ := getF X37 hx hZ hown (host := "") (Or.inl (hw _ (List.mem_of_getElem? (i := 34) rfl))) Via.refl e37 (Fw_WAITS) (g := (mkF m 30 #[.val (.ref a_WAITS), .val (.ref a_WAITS_NO_MORE), .val (.ref h0.size), .val (.int (7 : Int32)), .val (.int (6 : Int32)), .val (.ref a_TAKEN_BACK)] [(.ref a_WAITS), (.int (0 : Int32))])) rfl rfl (hb hby d2_30)
  obtain ⟨fs, hr, hrun, hended, hW, hsame⟩ := X38.leave (v := some (.ref a_WAITS_NO_MORE)) (fun h => by rw [Bd.returns] at h; cases h)
  refine ⟨_, _, pre0 _ ?_, hrun, hended, _, _, rfl, ?_, ⟨_, rfl⟩, hW, hsame.mono (by decide) (by decide)⟩
  -- 4. STEPS
  · show Steps p.tables e below (s₁.setTop (mkF m 0 #[.val (.ref a_WAITS), .unset, .unset, .unset, .unset, .unset] [])) _
    refine XS.aconstNull X0.here hx rfl (hb hby d2_0) ?_
    show Steps p.tables e below (s₁.setTop (mkF m 1 #[.val (.ref a_WAITS), .unset, .unset, .unset, .unset, .unset] [.null])) _
    refine XS.astoreN X0.here hx rfl (hb hby d2_1) rfl rfl (l' := #[.val (.ref a_WAITS), .val .null, .unset, .unset, .unset, .unset]) rfl ?_
    show Steps p.tables e below (s₁.setTop (mkF m 2 #[.val (.ref a_WAITS), .val .null, .unset, .unset, .unset, .unset] [])) _
    refine st2 _ ?_
    show Steps p.tables e below (T2.setTop (mkF m 5 #[.val (.ref a_WAITS), .val .null, .unset, .unset, .unset, .unset] [(.ref h0.size)])) _
    refine XS.astoreN X2.here hx rfl (hb hby d2_5) rfl rfl (l' := #[.val (.ref a_WAITS), .val .null, .val (.ref h0.size), .unset, .unset, .unset]) rfl ?_
    show Steps p.tables e below (T2.setTop (mkF m 6 #[.val (.ref a_WAITS), .val .null, .val (.ref h0.size), .unset, .unset, .unset] [])) _
    refine XS.aloadN X2.here hx rfl (hb hby d2_6) rfl rfl ?_
    show Steps p.tables e below (T2.setTop (mkF m 7 #[.val (.ref a_WAITS), .val .null, .val (.ref h0.size), .unset, .unset, .unset] [(.ref h0.size)])) _
    refine X2.arraylength hx (by exact Arv_.1) (State.isArrayOf_alike hZ.alike Arv_.2.1) (g := (mkF m 7 #[.val (.ref a_WAITS), .val .null, .val (.ref h0.size), .unset, .unset, .unset] [(.ref h0.size)])) rfl rfl (hb hby d2_7) _ ?_
    rw [len_of Sv Nv]
    show Steps p.tables e below (T2.setTop (mkF m 8 #[.val (.ref a_WAITS), .val .null, .val (.ref h0.size), .unset, .unset, .unset] [(.int (7 : Int32))])) _
    refine XS.istoreN X2.here hx rfl (hb hby d2_8) rfl (l' := #[.val (.ref a_WAITS), .val .null, .val (.ref h0.size), .val (.int (7 : Int32)), .unset, .unset]) rfl ?_
    show Steps p.tables e below (T2.setTop (mkF m 9 #[.val (.ref a_WAITS), .val .null, .val (.ref h0.size), .val (.int (7 : Int32)), .unset, .unset] [])) _
    refine XS.iconst X2.here hx rfl (hb hby d2_9) ?_
    show Steps p.tables e below (T2.setTop (mkF m 10 #[.val (.ref a_WAITS), .val .null, .val (.ref h0.size), .val (.int (7 : Int32)), .unset, .unset] [(.int (0 : Int32))])) _
    refine XS.istore X2.here hx rfl (hb hby d2_10) rfl (l' := #[.val (.ref a_WAITS), .val .null, .val (.ref h0.size), .val (.int (7 : Int32)), .val (.int (0 : Int32)), .unset]) rfl ?_
    show Steps p.tables e below (T2.setTop (mkF m 12 #[.val (.ref a_WAITS), .val .null, .val (.ref h0.size), .val (.int (7 : Int32)), .val (.int (0 : Int32)), .unset] [])) _
    refine XS.iload X2.here hx rfl (hb hby d2_12) rfl ?_
    show Steps p.tables e below (T2.setTop (mkF m 14 #[.val (.ref a_WAITS), .val .null, .val (.ref h0.size), .val (.int (7 : Int32)), .val (.int (0 : Int32)), .unset] [(.int (0 : Int32))])) _
    refine XS.iloadN X2.here hx rfl (hb hby d2_14) rfl ?_
    show Steps p.tables e below (T2.setTop (mkF m 15 #[.val (.ref a_WAITS), .val .null, .val (.ref h0.size), .val (.int (7 : Int32)), .val (.int (0 : Int32)), .unset] [(.int (7 : Int32)), (.int (0 : Int32))])) _
    refine XS.icmpNo X2.here hx rfl (hb hby d2_15) rfl (tlt (by decide : (0 : Int32) < (7 : Int32))).2.1 ?_
    show Steps p.tables e below (T2.setTop (mkF m 18 #[.val (.ref a_WAITS), .val .null, .val (.ref h0.size), .val (.int (7 : Int32)), .val (.int (0 : Int32)), .unset] [])) _
    refine XS.aloadN X2.here hx rfl (hb hby d2_18) rfl rfl ?_
    show Steps p.tables e below (T2.setTop (mkF m 19 #[.val (.ref a_WAITS), .val .null, .val (.ref h0.size), .val (.int (7 : Int32)), .val (.int (0 : Int32)), .unset] [(.ref h0.size)])) _
    refine XS.iload X2.here hx rfl (hb hby d2_19) rfl ?_
    show Steps p.tables e below (T2.setTop (mkF m 21 #[.val (.ref a_WAITS), .val .null, .val (.ref h0.size), .val (.int (7 : Int32)), .val (.int (0 : Int32)), .unset] [(.int (0 : Int32)), (.ref h0.size)])) _
    refine X2.aaload hx (j := (0 : Int32)) (v := (.ref a_NONE)) (by exact Arv_.1) (State.isArrayOf_alike hZ.alike Arv_.2.1) rfl Arv_.2.2 (inb_of Sv ⟨by decide, by decide⟩) (Has.at Hv (inb_of Sv ⟨by decide, by decide⟩) rfl) (g := (mkF m 21 #[.val (.ref a_WAITS), .val .null, .val (.ref h0.size), .val (.int (7 : Int32)), .val (.int (0 : Int32)), .unset] [(.int (0 : Int32)), (.ref h0.size)])) rfl rfl (hb hby d2_21) _ ?_
    show Steps p.tables e below (T2.setTop (mkF m 22 #[.val (.ref a_WAITS), .val .null, .val (.ref h0.size), .val (.int (7 : Int32)), .val (.int (0 : Int32)), .unset] [(.ref a_NONE)])) _
    refine XS.astore X2.here hx rfl (hb hby d2_22) rfl rfl (l' := #[.val (.ref a_WAITS), .val .null, .val (.ref h0.size), .val (.int (7 : Int32)), .val (.int (0 : Int32)), .val (.ref a_NONE)]) rfl ?_
    show Steps p.tables e below (T2.setTop (mkF m 24 #[.val (.ref a_WAITS), .val .null, .val (.ref h0.size), .val (.int (7 : Int32)), .val (.int (0 : Int32)), .val (.ref a_NONE)] [])) _
    refine XS.aload X2.here hx rfl (hb hby d2_24) rfl rfl ?_
    show Steps p.tables e below (T2.setTop (mkF m 26 #[.val (.ref a_WAITS), .val .null, .val (.ref h0.size), .val (.int (7 : Int32)), .val (.int (0 : Int32)), .val (.ref a_NONE)] [(.ref a_NONE)])) _
    refine st5 _ ?_
    show Steps p.tables e below (T5.setTop (mkF m 29 #[.val (.ref a_WAITS), .val .null, .val (.ref h0.size), .val (.int (7 : Int32)), .val (.int (0 : Int32)), .val (.ref a_NONE)] [(.int (0 : Int32))])) _
    refine XS.aloadN X5.here hx rfl (hb hby d2_29) rfl rfl ?_
    show Steps p.tables e below (T5.setTop (mkF m 30 #[.val (.ref a_WAITS), .val .null, .val (.ref h0.size), .val (.int (7 : Int32)), .val (.int (0 : Int32)), .val (.ref a_NONE)] [(.ref a_WAITS), (.int (0 : Int32))])) _
    refine st7 _ ?_
    show Steps p.tables e below (T7.setTop (mkF m 33 #[.val (.ref a_WAITS), .val .null, .val (.ref h0.size), .val (.int (7 : Int32)), .val (.int (0 : Int32)), .val (.ref a_NONE)] [(.int (1 : Int32)), (.int (0 : Int32))])) _
    refine XS.ineg X7.here hx rfl (hb hby d2_33) rfl ?_
    show Steps p.tables e below (T7.setTop (mkF m 34 #[.val (.ref a_WAITS), .val .null, .val (.ref h0.size), .val (.int (7 : Int32)), .val (.int (0 : Int32)), .val (.ref a_NONE)] [(.int (-(1 : Int32))), (.int (0 : Int32))])) _
    refine XS.icmpYes X7.here hx rfl (pc0 := 34) (pc' := 53) rfl (hb hby d2_34) rfl (feq (by decide)).2 (by decide) (by decide) ?_
    show Steps p.tables e below (T7.setTop (mkF m 53 #[.val (.ref a_WAITS), .val .null, .val (.ref h0.size), .val (.int (7 : Int32)), .val (.int (0 : Int32)), .val (.ref a_NONE)] [])) _
    refine XS.iinc X7.here hx rfl (hb hby d2_53) rfl (l' := #[.val (.ref a_WAITS), .val .null, .val (.ref h0.size), .val (.int (7 : Int32)), .val (.int (1 : Int32)), .val (.ref a_NONE)]) rfl ?_
    show Steps p.tables e below (T7.setTop (mkF m 56 #[.val (.ref a_WAITS), .val .null, .val (.ref h0.size), .val (.int (7 : Int32)), .val (.int (1 : Int32)), .val (.ref a_NONE)] [])) _
    refine XS.goto X7.here hx rfl (pc0 := 56) (pc' := 12) rfl (hb hby d2_56) (by decide) (by decide) ?_
    show Steps p.tables e below (T7.setTop (mkF m 12 #[.val (.ref a_WAITS), .val .null, .val (.ref h0.size), .val (.int (7 : Int32)), .val (.int (1 : Int32)), .val (.ref a_NONE)] [])) _
    refine XS.iload X7.here hx rfl (hb hby d2_12) rfl ?_
    show Steps p.tables e below (T7.setTop (mkF m 14 #[.val (.ref a_WAITS), .val .null, .val (.ref h0.size), .val (.int (7 : Int32)), .val (.int (1 : Int32)), .val (.ref a_NONE)] [(.int (1 : Int32))])) _
    refine XS.iloadN X7.here hx rfl (hb hby d2_14) rfl ?_
    show Steps p.tables e below (T7.setTop (mkF m 15 #[.val (.ref a_WAITS), .val .null, .val (.ref h0.size), .val (.int (7 : Int32)), .val (.int (1 : Int32)), .val (.ref a_NONE)] [(.int (7 : Int32)), (.int (1 : Int32))])) _
    refine XS.icmpNo X7.here hx rfl (hb hby d2_15) rfl (tlt (by decide : (1 : Int32) < (7 : Int32))).2.1 ?_
    show Steps p.tables e below (T7.setTop (mkF m 18 #[.val (.ref a_WAITS), .val .null, .val (.ref h0.size), .val (.int (7 : Int32)), .val (.int (1 : Int32)), .val (.ref a_NONE)] [])) _
    refine XS.aloadN X7.here hx rfl (hb hby d2_18) rfl rfl ?_
    show Steps p.tables e below (T7.setTop (mkF m 19 #[.val (.ref a_WAITS), .val .null, .val (.ref h0.size), .val (.int (7 : Int32)), .val (.int (1 : Int32)), .val (.ref a_NONE)] [(.ref h0.size)])) _
    refine XS.iload X7.here hx rfl (hb hby d2_19) rfl ?_
    show Steps p.tables e below (T7.setTop (mkF m 21 #[.val (.ref a_WAITS), .val .null, .val (.ref h0.size), .val (.int (7 : Int32)), .val (.int (1 : Int32)), .val (.ref a_NONE)] [(.int (1 : Int32)), (.ref h0.size)])) _
    refine X7.aaload hx (j := (1 : Int32)) (v := (.ref a_WAITS)) (by rw [e7]; exact Arv_.1) (State.isArrayOf_alike hZ.alike Arv_.2.1) rfl Arv_.2.2 (inb_of Sv ⟨by decide, by decide⟩) (Has.at Hv (inb_of Sv ⟨by decide, by decide⟩) rfl) (g := (mkF m 21 #[.val (.ref a_WAITS), .val .null, .val (.ref h0.size), .val (.int (7 : Int32)), .val (.int (1 : Int32)), .val (.ref a_NONE)] [(.int (1 : Int32)), (.ref h0.size)])) rfl rfl (hb hby d2_21) _ ?_
    show Steps p.tables e below (T7.setTop (mkF m 22 #[.val (.ref a_WAITS), .val .null, .val (.ref h0.size), .val (.int (7 : Int32)), .val (.int (1 : Int32)), .val (.ref a_NONE)] [(.ref a_WAITS)])) _
    refine XS.astore X7.here hx rfl (hb hby d2_22) rfl rfl (l' := #[.val (.ref a_WAITS), .val .null, .val (.ref h0.size), .val (.int (7 : Int32)), .val (.int (1 : Int32)), .val (.ref a_WAITS)]) rfl ?_
    show Steps p.tables e below (T7.setTop (mkF m 24 #[.val (.ref a_WAITS), .val .null, .val (.ref h0.size), .val (.int (7 : Int32)), .val (.int (1 : Int32)), .val (.ref a_WAITS)] [])) _
    refine XS.aload X7.here hx rfl (hb hby d2_24) rfl rfl ?_
    show Steps p.tables e below (T7.setTop (mkF m 26 #[.val (.ref a_WAITS), .val .null, .val (.ref h0.size), .val (.int (7 : Int32)), .val (.int (1 : Int32)), .val (.ref a_WAITS)] [(.ref a_WAITS)])) _
    refine st10 _ ?_
    show Steps p.tables e below (T10.setTop (mkF m 29 #[.val (.ref a_WAITS), .val .null, .val (.ref h0.size), .val (.int (7 : Int32)), .val (.int (1 : Int32)), .val (.ref a_WAITS)] [(.int (1 : Int32))])) _
    refine XS.aloadN X10.here hx rfl (hb hby d2_29) rfl rfl ?_
    show Steps p.tables e below (T10.setTop (mkF m 30 #[.val (.ref a_WAITS), .val .null, .val (.ref h0.size), .val (.int (7 : Int32)), .val (.int (1 : Int32)), .val (.ref a_WAITS)] [(.ref a_WAITS), (.int (1 : Int32))])) _
    refine st11 _ ?_
    show Steps p.tables e below (T11.setTop (mkF m 33 #[.val (.ref a_WAITS), .val .null, .val (.ref h0.size), .val (.int (7 : Int32)), .val (.int (1 : Int32)), .val (.ref a_WAITS)] [(.int (1 : Int32)), (.int (1 : Int32))])) _
    refine XS.ineg X11.here hx rfl (hb hby d2_33) rfl ?_
    show Steps p.tables e below (T11.setTop (mkF m 34 #[.val (.ref a_WAITS), .val .null, .val (.ref h0.size), .val (.int (7 : Int32)), .val (.int (1 : Int32)), .val (.ref a_WAITS)] [(.int (-(1 : Int32))), (.int (1 : Int32))])) _
    refine XS.icmpYes X11.here hx rfl (pc0 := 34) (pc' := 53) rfl (hb hby d2_34) rfl (feq (by decide)).2 (by decide) (by decide) ?_
    show Steps p.tables e below (T11.setTop (mkF m 53 #[.val (.ref a_WAITS), .val .null, .val (.ref h0.size), .val (.int (7 : Int32)), .val (.int (1 : Int32)), .val (.ref a_WAITS)] [])) _
    refine XS.iinc X11.here hx rfl (hb hby d2_53) rfl (l' := #[.val (.ref a_WAITS), .val .null, .val (.ref h0.size), .val (.int (7 : Int32)), .val (.int (2 : Int32)), .val (.ref a_WAITS)]) rfl ?_
    show Steps p.tables e below (T11.setTop (mkF m 56 #[.val (.ref a_WAITS), .val .null, .val (.ref h0.size), .val (.int (7 : Int32)), .val (.int (2 : Int32)), .val (.ref a_WAITS)] [])) _
    refine XS.goto X11.here hx rfl (pc0 := 56) (pc' := 12) rfl (hb hby d2_56) (by decide) (by decide) ?_
    show Steps p.tables e below (T11.setTop (mkF m 12 #[.val (.ref a_WAITS), .val .null, .val (.ref h0.size), .val (.int (7 : Int32)), .val (.int (2 : Int32)), .val (.ref a_WAITS)] [])) _
    refine XS.iload X11.here hx rfl (hb hby d2_12) rfl ?_
    show Steps p.tables e below (T11.setTop (mkF m 14 #[.val (.ref a_WAITS), .val .null, .val (.ref h0.size), .val (.int (7 : Int32)), .val (.int (2 : Int32)), .val (.ref a_WAITS)] [(.int (2 : Int32))])) _
    refine XS.iloadN X11.here hx rfl (hb hby d2_14) rfl ?_
    show Steps p.tables e below (T11.setTop (mkF m 15 #[.val (.ref a_WAITS), .val .null, .val (.ref h0.size), .val (.int (7 : Int32)), .val (.int (2 : Int32)), .val (.ref a_WAITS)] [(.int (7 : Int32)), (.int (2 : Int32))])) _
    refine XS.icmpNo X11.here hx rfl (hb hby d2_15) rfl (tlt (by decide : (2 : Int32) < (7 : Int32))).2.1 ?_
    show Steps p.tables e below (T11.setTop (mkF m 18 #[.val (.ref a_WAITS), .val .null, .val (.ref h0.size), .val (.int (7 : Int32)), .val (.int (2 : Int32)), .val (.ref a_WAITS)] [])) _
    refine XS.aloadN X11.here hx rfl (hb hby d2_18) rfl rfl ?_
    show Steps p.tables e below (T11.setTop (mkF m 19 #[.val (.ref a_WAITS), .val .null, .val (.ref h0.size), .val (.int (7 : Int32)), .val (.int (2 : Int32)), .val (.ref a_WAITS)] [(.ref h0.size)])) _
    refine XS.iload X11.here hx rfl (hb hby d2_19) rfl ?_
    show Steps p.tables e below (T11.setTop (mkF m 21 #[.val (.ref a_WAITS), .val .null, .val (.ref h0.size), .val (.int (7 : Int32)), .val (.int (2 : Int32)), .val (.ref a_WAITS)] [(.int (2 : Int32)), (.ref h0.size)])) _
    refine X11.aaload hx (j := (2 : Int32)) (v := (.ref a_WAITS_NO_MORE)) (by rw [e11]; exact Arv_.1) (State.isArrayOf_alike hZ.alike Arv_.2.1) rfl Arv_.2.2 (inb_of Sv ⟨by decide, by decide⟩) (Has.at Hv (inb_of Sv ⟨by decide, by decide⟩) rfl) (g := (mkF m 21 #[.val (.ref a_WAITS), .val .null, .val (.ref h0.size), .val (.int (7 : Int32)), .val (.int (2 : Int32)), .val (.ref a_WAITS)] [(.int (2 : Int32)), (.ref h0.size)])) rfl rfl (hb hby d2_21) _ ?_
    show Steps p.tables e below (T11.setTop (mkF m 22 #[.val (.ref a_WAITS), .val .null, .val (.ref h0.size), .val (.int (7 : Int32)), .val (.int (2 : Int32)), .val (.ref a_WAITS)] [(.ref a_WAITS_NO_MORE)])) _
    refine XS.astore X11.here hx rfl (hb hby d2_22) rfl rfl (l' := #[.val (.ref a_WAITS), .val .null, .val (.ref h0.size), .val (.int (7 : Int32)), .val (.int (2 : Int32)), .val (.ref a_WAITS_NO_MORE)]) rfl ?_
    show Steps p.tables e below (T11.setTop (mkF m 24 #[.val (.ref a_WAITS), .val .null, .val (.ref h0.size), .val (.int (7 : Int32)), .val (.int (2 : Int32)), .val (.ref a_WAITS_NO_MORE)] [])) _
    refine XS.aload X11.here hx rfl (hb hby d2_24) rfl rfl ?_
    show Steps p.tables e below (T11.setTop (mkF m 26 #[.val (.ref a_WAITS), .val .null, .val (.ref h0.size), .val (.int (7 : Int32)), .val (.int (2 : Int32)), .val (.ref a_WAITS_NO_MORE)] [(.ref a_WAITS_NO_MORE)])) _
    refine st14 _ ?_
    show Steps p.tables e below (T14.setTop (mkF m 29 #[.val (.ref a_WAITS), .val .null, .val (.ref h0.size), .val (.int (7 : Int32)), .val (.int (2 : Int32)), .val (.ref a_WAITS_NO_MORE)] [(.int (-1 : Int32))])) _
    refine XS.aloadN X14.here hx rfl (hb hby d2_29) rfl rfl ?_
    show Steps p.tables e below (T14.setTop (mkF m 30 #[.val (.ref a_WAITS), .val .null, .val (.ref h0.size), .val (.int (7 : Int32)), .val (.int (2 : Int32)), .val (.ref a_WAITS_NO_MORE)] [(.ref a_WAITS), (.int (-1 : Int32))])) _
    refine st15 _ ?_
    show Steps p.tables e below (T15.setTop (mkF m 33 #[.val (.ref a_WAITS), .val .null, .val (.ref h0.size), .val (.int (7 : Int32)), .val (.int (2 : Int32)), .val (.ref a_WAITS_NO_MORE)] [(.int (1 : Int32)), (.int (-1 : Int32))])) _
    refine XS.ineg X15.here hx rfl (hb hby d2_33) rfl ?_
    show Steps p.tables e below (T15.setTop (mkF m 34 #[.val (.ref a_WAITS), .val .null, .val (.ref h0.size), .val (.int (7 : Int32)), .val (.int (2 : Int32)), .val (.ref a_WAITS_NO_MORE)] [(.int (-(1 : Int32))), (.int (-1 : Int32))])) _
    refine XS.icmpNo X15.here hx rfl (hb hby d2_34) rfl (teq (by decide)).2 ?_
    show Steps p.tables e below (T15.setTop (mkF m 37 #[.val (.ref a_WAITS), .val .null, .val (.ref h0.size), .val (.int (7 : Int32)), .val (.int (2 : Int32)), .val (.ref a_WAITS_NO_MORE)] [])) _
    refine XS.aload X15.here hx rfl (hb hby d2_37) rfl rfl ?_
    show Steps p.tables e below (T15.setTop (mkF m 39 #[.val (.ref a_WAITS), .val .null, .val (.ref h0.size), .val (.int (7 : Int32)), .val (.int (2 : Int32)), .val (.ref a_WAITS_NO_MORE)] [(.ref a_WAITS_NO_MORE)])) _
    refine st17 _ ?_
    show Steps p.tables e below (T17.setTop (mkF m 42 #[.val (.ref a_WAITS), .val .null, .val (.ref h0.size), .val (.int (7 : Int32)), .val (.int (2 : Int32)), .val (.ref a_WAITS_NO_MORE)] [(.int (0 : Int32))])) _
    refine XS.aloadN X17.here hx rfl (hb hby d2_42) rfl rfl ?_
    show Steps p.tables e below (T17.setTop (mkF m 43 #[.val (.ref a_WAITS), .val .null, .val (.ref h0.size), .val (.int (7 : Int32)), .val (.int (2 : Int32)), .val (.ref a_WAITS_NO_MORE)] [(.ref a_WAITS), (.int (0 : Int32))])) _
    refine st19 _ ?_
    show Steps p.tables e below (T19.setTop (mkF m 46 #[.val (.ref a_WAITS), .val .null, .val (.ref h0.size), .val (.int (7 : Int32)), .val (.int (2 : Int32)), .val (.ref a_WAITS_NO_MORE)] [(.int (0 : Int32)), (.int (0 : Int32))])) _
    refine XS.ineg X19.here hx rfl (hb hby d2_46) rfl ?_
    show Steps p.tables e below (T19.setTop (mkF m 47 #[.val (.ref a_WAITS), .val .null, .val (.ref h0.size), .val (.int (7 : Int32)), .val (.int (2 : Int32)), .val (.ref a_WAITS_NO_MORE)] [(.int (-(0 : Int32))), (.int (0 : Int32))])) _
    refine XS.icmpNo X19.here hx rfl (hb hby d2_47) rfl (teq (by decide)).2 ?_
    show Steps p.tables e below (T19.setTop (mkF m 50 #[.val (.ref a_WAITS), .val .null, .val (.ref h0.size), .val (.int (7 : Int32)), .val (.int (2 : Int32)), .val (.ref a_WAITS_NO_MORE)] [])) _
    refine XS.aload X19.here hx rfl (hb hby d2_50) rfl rfl ?_
    show Steps p.tables e below (T19.setTop (mkF m 52 #[.val (.ref a_WAITS), .val .null, .val (.ref h0.size), .val (.int (7 : Int32)), .val (.int (2 : Int32)), .val (.ref a_WAITS_NO_MORE)] [(.ref a_WAITS_NO_MORE)])) _
    refine XS.astoreN X19.here hx rfl (hb hby d2_52) rfl rfl (l' := #[.val (.ref a_WAITS), .val (.ref a_WAITS_NO_MORE), .val (.ref h0.size), .val (.int (7 : Int32)), .val (.int (2 : Int32)), .val (.ref a_WAITS_NO_MORE)]) rfl ?_
    show Steps p.tables e below (T19.setTop (mkF m 53 #[.val (.ref a_WAITS), .val (.ref a_WAITS_NO_MORE), .val (.ref h0.size), .val (.int (7 : Int32)), .val (.int (2 : Int32)), .val (.ref a_WAITS_NO_MORE)] [])) _
    refine XS.iinc X19.here hx rfl (hb hby d2_53) rfl (l' := #[.val (.ref a_WAITS), .val (.ref a_WAITS_NO_MORE), .val (.ref h0.size), .val (.int (7 : Int32)), .val (.int (3 : Int32)), .val (.ref a_WAITS_NO_MORE)]) rfl ?_
    show Steps p.tables e below (T19.setTop (mkF m 56 #[.val (.ref a_WAITS), .val (.ref a_WAITS_NO_MORE), .val (.ref h0.size), .val (.int (7 : Int32)), .val (.int (3 : Int32)), .val (.ref a_WAITS_NO_MORE)] [])) _
    refine XS.goto X19.here hx rfl (pc0 := 56) (pc' := 12) rfl (hb hby d2_56) (by decide) (by decide) ?_
    show Steps p.tables e below (T19.setTop (mkF m 12 #[.val (.ref a_WAITS), .val (.ref a_WAITS_NO_MORE), .val (.ref h0.size), .val (.int (7 : Int32)), .val (.int (3 : Int32)), .val (.ref a_WAITS_NO_MORE)] [])) _
    refine XS.iload X19.here hx rfl (hb hby d2_12) rfl ?_
    show Steps p.tables e below (T19.setTop (mkF m 14 #[.val (.ref a_WAITS), .val (.ref a_WAITS_NO_MORE), .val (.ref h0.size), .val (.int (7 : Int32)), .val (.int (3 : Int32)), .val (.ref a_WAITS_NO_MORE)] [(.int (3 : Int32))])) _
    refine XS.iloadN X19.here hx rfl (hb hby d2_14) rfl ?_
    show Steps p.tables e below (T19.setTop (mkF m 15 #[.val (.ref a_WAITS), .val (.ref a_WAITS_NO_MORE), .val (.ref h0.size), .val (.int (7 : Int32)), .val (.int (3 : Int32)), .val (.ref a_WAITS_NO_MORE)] [(.int (7 : Int32)), (.int (3 : Int32))])) _
    refine XS.icmpNo X19.here hx rfl (hb hby d2_15) rfl (tlt (by decide : (3 : Int32) < (7 : Int32))).2.1 ?_
    show Steps p.tables e below (T19.setTop (mkF m 18 #[.val (.ref a_WAITS), .val (.ref a_WAITS_NO_MORE), .val (.ref h0.size), .val (.int (7 : Int32)), .val (.int (3 : Int32)), .val (.ref a_WAITS_NO_MORE)] [])) _
    refine XS.aloadN X19.here hx rfl (hb hby d2_18) rfl rfl ?_
    show Steps p.tables e below (T19.setTop (mkF m 19 #[.val (.ref a_WAITS), .val (.ref a_WAITS_NO_MORE), .val (.ref h0.size), .val (.int (7 : Int32)), .val (.int (3 : Int32)), .val (.ref a_WAITS_NO_MORE)] [(.ref h0.size)])) _
    refine XS.iload X19.here hx rfl (hb hby d2_19) rfl ?_
    show Steps p.tables e below (T19.setTop (mkF m 21 #[.val (.ref a_WAITS), .val (.ref a_WAITS_NO_MORE), .val (.ref h0.size), .val (.int (7 : Int32)), .val (.int (3 : Int32)), .val (.ref a_WAITS_NO_MORE)] [(.int (3 : Int32)), (.ref h0.size)])) _
    refine X19.aaload hx (j := (3 : Int32)) (v := (.ref a_FALLS_DUE_AFTER_WAITING)) (by rw [e19]; exact Arv_.1) (State.isArrayOf_alike hZ.alike Arv_.2.1) rfl Arv_.2.2 (inb_of Sv ⟨by decide, by decide⟩) (Has.at Hv (inb_of Sv ⟨by decide, by decide⟩) rfl) (g := (mkF m 21 #[.val (.ref a_WAITS), .val (.ref a_WAITS_NO_MORE), .val (.ref h0.size), .val (.int (7 : Int32)), .val (.int (3 : Int32)), .val (.ref a_WAITS_NO_MORE)] [(.int (3 : Int32)), (.ref h0.size)])) rfl rfl (hb hby d2_21) _ ?_
    show Steps p.tables e below (T19.setTop (mkF m 22 #[.val (.ref a_WAITS), .val (.ref a_WAITS_NO_MORE), .val (.ref h0.size), .val (.int (7 : Int32)), .val (.int (3 : Int32)), .val (.ref a_WAITS_NO_MORE)] [(.ref a_FALLS_DUE_AFTER_WAITING)])) _
    refine XS.astore X19.here hx rfl (hb hby d2_22) rfl rfl (l' := #[.val (.ref a_WAITS), .val (.ref a_WAITS_NO_MORE), .val (.ref h0.size), .val (.int (7 : Int32)), .val (.int (3 : Int32)), .val (.ref a_FALLS_DUE_AFTER_WAITING)]) rfl ?_
    show Steps p.tables e below (T19.setTop (mkF m 24 #[.val (.ref a_WAITS), .val (.ref a_WAITS_NO_MORE), .val (.ref h0.size), .val (.int (7 : Int32)), .val (.int (3 : Int32)), .val (.ref a_FALLS_DUE_AFTER_WAITING)] [])) _
    refine XS.aload X19.here hx rfl (hb hby d2_24) rfl rfl ?_
    show Steps p.tables e below (T19.setTop (mkF m 26 #[.val (.ref a_WAITS), .val (.ref a_WAITS_NO_MORE), .val (.ref h0.size), .val (.int (7 : Int32)), .val (.int (3 : Int32)), .val (.ref a_FALLS_DUE_AFTER_WAITING)] [(.ref a_FALLS_DUE_AFTER_WAITING)])) _
    refine st22 _ ?_
    show Steps p.tables e below (T22.setTop (mkF m 29 #[.val (.ref a_WAITS), .val (.ref a_WAITS_NO_MORE), .val (.ref h0.size), .val (.int (7 : Int32)), .val (.int (3 : Int32)), .val (.ref a_FALLS_DUE_AFTER_WAITING)] [(.int (-1 : Int32))])) _
    refine XS.aloadN X22.here hx rfl (hb hby d2_29) rfl rfl ?_
    show Steps p.tables e below (T22.setTop (mkF m 30 #[.val (.ref a_WAITS), .val (.ref a_WAITS_NO_MORE), .val (.ref h0.size), .val (.int (7 : Int32)), .val (.int (3 : Int32)), .val (.ref a_FALLS_DUE_AFTER_WAITING)] [(.ref a_WAITS), (.int (-1 : Int32))])) _
    refine st23 _ ?_
    show Steps p.tables e below (T23.setTop (mkF m 33 #[.val (.ref a_WAITS), .val (.ref a_WAITS_NO_MORE), .val (.ref h0.size), .val (.int (7 : Int32)), .val (.int (3 : Int32)), .val (.ref a_FALLS_DUE_AFTER_WAITING)] [(.int (1 : Int32)), (.int (-1 : Int32))])) _
    refine XS.ineg X23.here hx rfl (hb hby d2_33) rfl ?_
    show Steps p.tables e below (T23.setTop (mkF m 34 #[.val (.ref a_WAITS), .val (.ref a_WAITS_NO_MORE), .val (.ref h0.size), .val (.int (7 : Int32)), .val (.int (3 : Int32)), .val (.ref a_FALLS_DUE_AFTER_WAITING)] [(.int (-(1 : Int32))), (.int (-1 : Int32))])) _
    refine XS.icmpNo X23.here hx rfl (hb hby d2_34) rfl (teq (by decide)).2 ?_
    show Steps p.tables e below (T23.setTop (mkF m 37 #[.val (.ref a_WAITS), .val (.ref a_WAITS_NO_MORE), .val (.ref h0.size), .val (.int (7 : Int32)), .val (.int (3 : Int32)), .val (.ref a_FALLS_DUE_AFTER_WAITING)] [])) _
    refine XS.aload X23.here hx rfl (hb hby d2_37) rfl rfl ?_
    show Steps p.tables e below (T23.setTop (mkF m 39 #[.val (.ref a_WAITS), .val (.ref a_WAITS_NO_MORE), .val (.ref h0.size), .val (.int (7 : Int32)), .val (.int (3 : Int32)), .val (.ref a_FALLS_DUE_AFTER_WAITING)] [(.ref a_FALLS_DUE_AFTER_WAITING)])) _
    refine st25 _ ?_
    show Steps p.tables e below (T25.setTop (mkF m 42 #[.val (.ref a_WAITS), .val (.ref a_WAITS_NO_MORE), .val (.ref h0.size), .val (.int (7 : Int32)), .val (.int (3 : Int32)), .val (.ref a_FALLS_DUE_AFTER_WAITING)] [(.int (1 : Int32))])) _
    refine XS.aloadN X25.here hx rfl (hb hby d2_42) rfl rfl ?_
    show Steps p.tables e below (T25.setTop (mkF m 43 #[.val (.ref a_WAITS), .val (.ref a_WAITS_NO_MORE), .val (.ref h0.size), .val (.int (7 : Int32)), .val (.int (3 : Int32)), .val (.ref a_FALLS_DUE_AFTER_WAITING)] [(.ref a_WAITS), (.int (1 : Int32))])) _
    refine st26 _ ?_
    show Steps p.tables e below (T26.setTop (mkF m 46 #[.val (.ref a_WAITS), .val (.ref a_WAITS_NO_MORE), .val (.ref h0.size), .val (.int (7 : Int32)), .val (.int (3 : Int32)), .val (.ref a_FALLS_DUE_AFTER_WAITING)] [(.int (0 : Int32)), (.int (1 : Int32))])) _
    refine XS.ineg X26.here hx rfl (hb hby d2_46) rfl ?_
    show Steps p.tables e below (T26.setTop (mkF m 47 #[.val (.ref a_WAITS), .val (.ref a_WAITS_NO_MORE), .val (.ref h0.size), .val (.int (7 : Int32)), .val (.int (3 : Int32)), .val (.ref a_FALLS_DUE_AFTER_WAITING)] [(.int (-(0 : Int32))), (.int (1 : Int32))])) _
    refine XS.icmpYes X26.here hx rfl (pc0 := 47) (pc' := 53) rfl (hb hby d2_47) rfl (feq (by decide)).2 (by decide) (by decide) ?_
    show Steps p.tables e below (T26.setTop (mkF m 53 #[.val (.ref a_WAITS), .val (.ref a_WAITS_NO_MORE), .val (.ref h0.size), .val (.int (7 : Int32)), .val (.int (3 : Int32)), .val (.ref a_FALLS_DUE_AFTER_WAITING)] [])) _
    refine XS.iinc X26.here hx rfl (hb hby d2_53) rfl (l' := #[.val (.ref a_WAITS), .val (.ref a_WAITS_NO_MORE), .val (.ref h0.size), .val (.int (7 : Int32)), .val (.int (4 : Int32)), .val (.ref a_FALLS_DUE_AFTER_WAITING)]) rfl ?_
    show Steps p.tables e below (T26.setTop (mkF m 56 #[.val (.ref a_WAITS), .val (.ref a_WAITS_NO_MORE), .val (.ref h0.size), .val (.int (7 : Int32)), .val (.int (4 : Int32)), .val (.ref a_FALLS_DUE_AFTER_WAITING)] [])) _
    refine XS.goto X26.here hx rfl (pc0 := 56) (pc' := 12) rfl (hb hby d2_56) (by decide) (by decide) ?_
    show Steps p.tables e below (T26.setTop (mkF m 12 #[.val (.ref a_WAITS), .val (.ref a_WAITS_NO_MORE), .val (.ref h0.size), .val (.int (7 : Int32)), .val (.int (4 : Int32)), .val (.ref a_FALLS_DUE_AFTER_WAITING)] [])) _
    refine XS.iload X26.here hx rfl (hb hby d2_12) rfl ?_
    show Steps p.tables e below (T26.setTop (mkF m 14 #[.val (.ref a_WAITS), .val (.ref a_WAITS_NO_MORE), .val (.ref h0.size), .val (.int (7 : Int32)), .val (.int (4 : Int32)), .val (.ref a_FALLS_DUE_AFTER_WAITING)] [(.int (4 : Int32))])) _
    refine XS.iloadN X26.here hx rfl (hb hby d2_14) rfl ?_
    show Steps p.tables e below (T26.setTop (mkF m 15 #[.val (.ref a_WAITS), .val (.ref a_WAITS_NO_MORE), .val (.ref h0.size), .val (.int (7 : Int32)), .val (.int (4 : Int32)), .val (.ref a_FALLS_DUE_AFTER_WAITING)] [(.int (7 : Int32)), (.int (4 : Int32))])) _
    refine XS.icmpNo X26.here hx rfl (hb hby d2_15) rfl (tlt (by decide : (4 : Int32) < (7 : Int32))).2.1 ?_
    show Steps p.tables e below (T26.setTop (mkF m 18 #[.val (.ref a_WAITS), .val (.ref a_WAITS_NO_MORE), .val (.ref h0.size), .val (.int (7 : Int32)), .val (.int (4 : Int32)), .val (.ref a_FALLS_DUE_AFTER_WAITING)] [])) _
    refine XS.aloadN X26.here hx rfl (hb hby d2_18) rfl rfl ?_
    show Steps p.tables e below (T26.setTop (mkF m 19 #[.val (.ref a_WAITS), .val (.ref a_WAITS_NO_MORE), .val (.ref h0.size), .val (.int (7 : Int32)), .val (.int (4 : Int32)), .val (.ref a_FALLS_DUE_AFTER_WAITING)] [(.ref h0.size)])) _
    refine XS.iload X26.here hx rfl (hb hby d2_19) rfl ?_
    show Steps p.tables e below (T26.setTop (mkF m 21 #[.val (.ref a_WAITS), .val (.ref a_WAITS_NO_MORE), .val (.ref h0.size), .val (.int (7 : Int32)), .val (.int (4 : Int32)), .val (.ref a_FALLS_DUE_AFTER_WAITING)] [(.int (4 : Int32)), (.ref h0.size)])) _
    refine X26.aaload hx (j := (4 : Int32)) (v := (.ref a_WAITS_AGAIN)) (by rw [e26]; exact Arv_.1) (State.isArrayOf_alike hZ.alike Arv_.2.1) rfl Arv_.2.2 (inb_of Sv ⟨by decide, by decide⟩) (Has.at Hv (inb_of Sv ⟨by decide, by decide⟩) rfl) (g := (mkF m 21 #[.val (.ref a_WAITS), .val (.ref a_WAITS_NO_MORE), .val (.ref h0.size), .val (.int (7 : Int32)), .val (.int (4 : Int32)), .val (.ref a_FALLS_DUE_AFTER_WAITING)] [(.int (4 : Int32)), (.ref h0.size)])) rfl rfl (hb hby d2_21) _ ?_
    show Steps p.tables e below (T26.setTop (mkF m 22 #[.val (.ref a_WAITS), .val (.ref a_WAITS_NO_MORE), .val (.ref h0.size), .val (.int (7 : Int32)), .val (.int (4 : Int32)), .val (.ref a_FALLS_DUE_AFTER_WAITING)] [(.ref a_WAITS_AGAIN)])) _
    refine XS.astore X26.here hx rfl (hb hby d2_22) rfl rfl (l' := #[.val (.ref a_WAITS), .val (.ref a_WAITS_NO_MORE), .val (.ref h0.size), .val (.int (7 : Int32)), .val (.int (4 : Int32)), .val (.ref a_WAITS_AGAIN)]) rfl ?_
    show Steps p.tables e below (T26.setTop (mkF m 24 #[.val (.ref a_WAITS), .val (.ref a_WAITS_NO_MORE), .val (.ref h0.size), .val (.int (7 : Int32)), .val (.int (4 : Int32)), .val (.ref a_WAITS_AGAIN)] [])) _
    refine XS.aload X26.here hx rfl (hb hby d2_24) rfl rfl ?_
    show Steps p.tables e below (T26.setTop (mkF m 26 #[.val (.ref a_WAITS), .val (.ref a_WAITS_NO_MORE), .val (.ref h0.size), .val (.int (7 : Int32)), .val (.int (4 : Int32)), .val (.ref a_WAITS_AGAIN)] [(.ref a_WAITS_AGAIN)])) _
    refine st29 _ ?_
    show Steps p.tables e below (T29.setTop (mkF m 29 #[.val (.ref a_WAITS), .val (.ref a_WAITS_NO_MORE), .val (.ref h0.size), .val (.int (7 : Int32)), .val (.int (4 : Int32)), .val (.ref a_WAITS_AGAIN)] [(.int (1 : Int32))])) _
    refine XS.aloadN X29.here hx rfl (hb hby d2_29) rfl rfl ?_
    show Steps p.tables e below (T29.setTop (mkF m 30 #[.val (.ref a_WAITS), .val (.ref a_WAITS_NO_MORE), .val (.ref h0.size), .val (.int (7 : Int32)), .val (.int (4 : Int32)), .val (.ref a_WAITS_AGAIN)] [(.ref a_WAITS), (.int (1 : Int32))])) _
    refine st30 _ ?_
    show Steps p.tables e below (T30.setTop (mkF m 33 #[.val (.ref a_WAITS), .val (.ref a_WAITS_NO_MORE), .val (.ref h0.size), .val (.int (7 : Int32)), .val (.int (4 : Int32)), .val (.ref a_WAITS_AGAIN)] [(.int (1 : Int32)), (.int (1 : Int32))])) _
    refine XS.ineg X30.here hx rfl (hb hby d2_33) rfl ?_
    show Steps p.tables e below (T30.setTop (mkF m 34 #[.val (.ref a_WAITS), .val (.ref a_WAITS_NO_MORE), .val (.ref h0.size), .val (.int (7 : Int32)), .val (.int (4 : Int32)), .val (.ref a_WAITS_AGAIN)] [(.int (-(1 : Int32))), (.int (1 : Int32))])) _
    refine XS.icmpYes X30.here hx rfl (pc0 := 34) (pc' := 53) rfl (hb hby d2_34) rfl (feq (by decide)).2 (by decide) (by decide) ?_
    show Steps p.tables e below (T30.setTop (mkF m 53 #[.val (.ref a_WAITS), .val (.ref a_WAITS_NO_MORE), .val (.ref h0.size), .val (.int (7 : Int32)), .val (.int (4 : Int32)), .val (.ref a_WAITS_AGAIN)] [])) _
    refine XS.iinc X30.here hx rfl (hb hby d2_53) rfl (l' := #[.val (.ref a_WAITS), .val (.ref a_WAITS_NO_MORE), .val (.ref h0.size), .val (.int (7 : Int32)), .val (.int (5 : Int32)), .val (.ref a_WAITS_AGAIN)]) rfl ?_
    show Steps p.tables e below (T30.setTop (mkF m 56 #[.val (.ref a_WAITS), .val (.ref a_WAITS_NO_MORE), .val (.ref h0.size), .val (.int (7 : Int32)), .val (.int (5 : Int32)), .val (.ref a_WAITS_AGAIN)] [])) _
    refine XS.goto X30.here hx rfl (pc0 := 56) (pc' := 12) rfl (hb hby d2_56) (by decide) (by decide) ?_
    show Steps p.tables e below (T30.setTop (mkF m 12 #[.val (.ref a_WAITS), .val (.ref a_WAITS_NO_MORE), .val (.ref h0.size), .val (.int (7 : Int32)), .val (.int (5 : Int32)), .val (.ref a_WAITS_AGAIN)] [])) _
    refine XS.iload X30.here hx rfl (hb hby d2_12) rfl ?_
    show Steps p.tables e below (T30.setTop (mkF m 14 #[.val (.ref a_WAITS), .val (.ref a_WAITS_NO_MORE), .val (.ref h0.size), .val (.int (7 : Int32)), .val (.int (5 : Int32)), .val (.ref a_WAITS_AGAIN)] [(.int (5 : Int32))])) _
    refine XS.iloadN X30.here hx rfl (hb hby d2_14) rfl ?_
    show Steps p.tables e below (T30.setTop (mkF m 15 #[.val (.ref a_WAITS), .val (.ref a_WAITS_NO_MORE), .val (.ref h0.size), .val (.int (7 : Int32)), .val (.int (5 : Int32)), .val (.ref a_WAITS_AGAIN)] [(.int (7 : Int32)), (.int (5 : Int32))])) _
    refine XS.icmpNo X30.here hx rfl (hb hby d2_15) rfl (tlt (by decide : (5 : Int32) < (7 : Int32))).2.1 ?_
    show Steps p.tables e below (T30.setTop (mkF m 18 #[.val (.ref a_WAITS), .val (.ref a_WAITS_NO_MORE), .val (.ref h0.size), .val (.int (7 : Int32)), .val (.int (5 : Int32)), .val (.ref a_WAITS_AGAIN)] [])) _
    refine XS.aloadN X30.here hx rfl (hb hby d2_18) rfl rfl ?_
    show Steps p.tables e below (T30.setTop (mkF m 19 #[.val (.ref a_WAITS), .val (.ref a_WAITS_NO_MORE), .val (.ref h0.size), .val (.int (7 : Int32)), .val (.int (5 : Int32)), .val (.ref a_WAITS_AGAIN)] [(.ref h0.size)])) _
    refine XS.iload X30.here hx rfl (hb hby d2_19) rfl ?_
    show Steps p.tables e below (T30.setTop (mkF m 21 #[.val (.ref a_WAITS), .val (.ref a_WAITS_NO_MORE), .val (.ref h0.size), .val (.int (7 : Int32)), .val (.int (5 : Int32)), .val (.ref a_WAITS_AGAIN)] [(.int (5 : Int32)), (.ref h0.size)])) _
    refine X30.aaload hx (j := (5 : Int32)) (v := (.ref a_FALLS_DUE)) (by rw [e30]; exact Arv_.1) (State.isArrayOf_alike hZ.alike Arv_.2.1) rfl Arv_.2.2 (inb_of Sv ⟨by decide, by decide⟩) (Has.at Hv (inb_of Sv ⟨by decide, by decide⟩) rfl) (g := (mkF m 21 #[.val (.ref a_WAITS), .val (.ref a_WAITS_NO_MORE), .val (.ref h0.size), .val (.int (7 : Int32)), .val (.int (5 : Int32)), .val (.ref a_WAITS_AGAIN)] [(.int (5 : Int32)), (.ref h0.size)])) rfl rfl (hb hby d2_21) _ ?_
    show Steps p.tables e below (T30.setTop (mkF m 22 #[.val (.ref a_WAITS), .val (.ref a_WAITS_NO_MORE), .val (.ref h0.size), .val (.int (7 : Int32)), .val (.int (5 : Int32)), .val (.ref a_WAITS_AGAIN)] [(.ref a_FALLS_DUE)])) _
    refine XS.astore X30.here hx rfl (hb hby d2_22) rfl rfl (l' := #[.val (.ref a_WAITS), .val (.ref a_WAITS_NO_MORE), .val (.ref h0.size), .val (.int (7 : Int32)), .val (.int (5 : Int32)), .val (.ref a_FALLS_DUE)]) rfl ?_
    show Steps p.tables e below (T30.setTop (mkF m 24 #[.val (.ref a_WAITS), .val (.ref a_WAITS_NO_MORE), .val (.ref h0.size), .val (.int (7 : Int32)), .val (.int (5 : Int32)), .val (.ref a_FALLS_DUE)] [])) _
    refine XS.aload X30.here hx rfl (hb hby d2_24) rfl rfl ?_
    show Steps p.tables e below (T30.setTop (mkF m 26 #[.val (.ref a_WAITS), .val (.ref a_WAITS_NO_MORE), .val (.ref h0.size), .val (.int (7 : Int32)), .val (.int (5 : Int32)), .val (.ref a_FALLS_DUE)] [(.ref a_FALLS_DUE)])) _
    refine st33 _ ?_
    show Steps p.tables e below (T33.setTop (mkF m 29 #[.val (.ref a_WAITS), .val (.ref a_WAITS_NO_MORE), .val (.ref h0.size), .val (.int (7 : Int32)), .val (.int (5 : Int32)), .val (.ref a_FALLS_DUE)] [(.int (0 : Int32))])) _
    refine XS.aloadN X33.here hx rfl (hb hby d2_29) rfl rfl ?_
    show Steps p.tables e below (T33.setTop (mkF m 30 #[.val (.ref a_WAITS), .val (.ref a_WAITS_NO_MORE), .val (.ref h0.size), .val (.int (7 : Int32)), .val (.int (5 : Int32)), .val (.ref a_FALLS_DUE)] [(.ref a_WAITS), (.int (0 : Int32))])) _
    refine st34 _ ?_
    show Steps p.tables e below (T34.setTop (mkF m 33 #[.val (.ref a_WAITS), .val (.ref a_WAITS_NO_MORE), .val (.ref h0.size), .val (.int (7 : Int32)), .val (.int (5 : Int32)), .val (.ref a_FALLS_DUE)] [(.int (1 : Int32)), (.int (0 : Int32))])) _
    refine XS.ineg X34.here hx rfl (hb hby d2_33) rfl ?_
    show Steps p.tables e below (T34.setTop (mkF m 34 #[.val (.ref a_WAITS), .val (.ref a_WAITS_NO_MORE), .val (.ref h0.size), .val (.int (7 : Int32)), .val (.int (5 : Int32)), .val (.ref a_FALLS_DUE)] [(.int (-(1 : Int32))), (.int (0 : Int32))])) _
    refine XS.icmpYes X34.here hx rfl (pc0 := 34) (pc' := 53) rfl (hb hby d2_34) rfl (feq (by decide)).2 (by decide) (by decide) ?_
    show Steps p.tables e below (T34.setTop (mkF m 53 #[.val (.ref a_WAITS), .val (.ref a_WAITS_NO_MORE), .val (.ref h0.size), .val (.int (7 : Int32)), .val (.int (5 : Int32)), .val (.ref a_FALLS_DUE)] [])) _
    refine XS.iinc X34.here hx rfl (hb hby d2_53) rfl (l' := #[.val (.ref a_WAITS), .val (.ref a_WAITS_NO_MORE), .val (.ref h0.size), .val (.int (7 : Int32)), .val (.int (6 : Int32)), .val (.ref a_FALLS_DUE)]) rfl ?_
    show Steps p.tables e below (T34.setTop (mkF m 56 #[.val (.ref a_WAITS), .val (.ref a_WAITS_NO_MORE), .val (.ref h0.size), .val (.int (7 : Int32)), .val (.int (6 : Int32)), .val (.ref a_FALLS_DUE)] [])) _
    refine XS.goto X34.here hx rfl (pc0 := 56) (pc' := 12) rfl (hb hby d2_56) (by decide) (by decide) ?_
    show Steps p.tables e below (T34.setTop (mkF m 12 #[.val (.ref a_WAITS), .val (.ref a_WAITS_NO_MORE), .val (.ref h0.size), .val (.int (7 : Int32)), .val (.int (6 : Int32)), .val (.ref a_FALLS_DUE)] [])) _
    refine XS.iload X34.here hx rfl (hb hby d2_12) rfl ?_
    show Steps p.tables e below (T34.setTop (mkF m 14 #[.val (.ref a_WAITS), .val (.ref a_WAITS_NO_MORE), .val (.ref h0.size), .val (.int (7 : Int32)), .val (.int (6 : Int32)), .val (.ref a_FALLS_DUE)] [(.int (6 : Int32))])) _
    refine XS.iloadN X34.here hx rfl (hb hby d2_14) rfl ?_
    show Steps p.tables e below (T34.setTop (mkF m 15 #[.val (.ref a_WAITS), .val (.ref a_WAITS_NO_MORE), .val (.ref h0.size), .val (.int (7 : Int32)), .val (.int (6 : Int32)), .val (.ref a_FALLS_DUE)] [(.int (7 : Int32)), (.int (6 : Int32))])) _
    refine XS.icmpNo X34.here hx rfl (hb hby d2_15) rfl (tlt (by decide : (6 : Int32) < (7 : Int32))).2.1 ?_
    show Steps p.tables e below (T34.setTop (mkF m 18 #[.val (.ref a_WAITS), .val (.ref a_WAITS_NO_MORE), .val (.ref h0.size), .val (.int (7 : Int32)), .val (.int (6 : Int32)), .val (.ref a_FALLS_DUE)] [])) _
    refine XS.aloadN X34.here hx rfl (hb hby d2_18) rfl rfl ?_
    show Steps p.tables e below (T34.setTop (mkF m 19 #[.val (.ref a_WAITS), .val (.ref a_WAITS_NO_MORE), .val (.ref h0.size), .val (.int (7 : Int32)), .val (.int (6 : Int32)), .val (.ref a_FALLS_DUE)] [(.ref h0.size)])) _
    refine XS.iload X34.here hx rfl (hb hby d2_19) rfl ?_
    show Steps p.tables e below (T34.setTop (mkF m 21 #[.val (.ref a_WAITS), .val (.ref a_WAITS_NO_MORE), .val (.ref h0.size), .val (.int (7 : Int32)), .val (.int (6 : Int32)), .val (.ref a_FALLS_DUE)] [(.int (6 : Int32)), (.ref h0.size)])) _
    refine X34.aaload hx (j := (6 : Int32)) (v := (.ref a_TAKEN_BACK)) (by rw [e34]; exact Arv_.1) (State.isArrayOf_alike hZ.alike Arv_.2.1) rfl Arv_.2.2 (inb_of Sv ⟨by decide, by decide⟩) (Has.at Hv (inb_of Sv ⟨by decide, by decide⟩) rfl) (g := (mkF m 21 #[.val (.ref a_WAITS), .val (.ref a_WAITS_NO_MORE), .val (.ref h0.size), .val (.int (7 : Int32)), .val (.int (6 : Int32)), .val (.ref a_FALLS_DUE)] [(.int (6 : Int32)), (.ref h0.size)])) rfl rfl (hb hby d2_21) _ ?_
    show Steps p.tables e below (T34.setTop (mkF m 22 #[.val (.ref a_WAITS), .val (.ref a_WAITS_NO_MORE), .val (.ref h0.size), .val (.int (7 : Int32)), .val (.int (6 : Int32)), .val (.ref a_FALLS_DUE)] [(.ref a_TAKEN_BACK)])) _
    refine XS.astore X34.here hx rfl (hb hby d2_22) rfl rfl (l' := #[.val (.ref a_WAITS), .val (.ref a_WAITS_NO_MORE), .val (.ref h0.size), .val (.int (7 : Int32)), .val (.int (6 : Int32)), .val (.ref a_TAKEN_BACK)]) rfl ?_
    show Steps p.tables e below (T34.setTop (mkF m 24 #[.val (.ref a_WAITS), .val (.ref a_WAITS_NO_MORE), .val (.ref h0.size), .val (.int (7 : Int32)), .val (.int (6 : Int32)), .val (.ref a_TAKEN_BACK)] [])) _
    refine XS.aload X34.here hx rfl (hb hby d2_24) rfl rfl ?_
    show Steps p.tables e below (T34.setTop (mkF m 26 #[.val (.ref a_WAITS), .val (.ref a_WAITS_NO_MORE), .val (.ref h0.size), .val (.int (7 : Int32)), .val (.int (6 : Int32)), .val (.ref a_TAKEN_BACK)] [(.ref a_TAKEN_BACK)])) _
    refine st37 _ ?_
    show Steps p.tables e below (T37.setTop (mkF m 29 #[.val (.ref a_WAITS), .val (.ref a_WAITS_NO_MORE), .val (.ref h0.size), .val (.int (7 : Int32)), .val (.int (6 : Int32)), .val (.ref a_TAKEN_BACK)] [(.int (0 : Int32))])) _
    refine XS.aloadN X37.here hx rfl (hb hby d2_29) rfl rfl ?_
    show Steps p.tables e below (T37.setTop (mkF m 30 #[.val (.ref a_WAITS), .val (.ref a_WAITS_NO_MORE), .val (.ref h0.size), .val (.int (7 : Int32)), .val (.int (6 : Int32)), .val (.ref a_TAKEN_BACK)] [(.ref a_WAITS), (.int (0 : Int32))])) _
    refine st38 _ ?_
    show Steps p.tables e below (T38.setTop (mkF m 33 #[.val (.ref a_WAITS), .val (.ref a_WAITS_NO_MORE), .val (.ref h0.size), .val (.int (7 : Int32)), .val (.int (6 : Int32)), .val (.ref a_TAKEN_BACK)] [(.int (1 : Int32)), (.int (0 : Int32))])) _
    refine XS.ineg X38.here hx rfl (hb hby d2_33) rfl ?_
    show Steps p.tables e below (T38.setTop (mkF m 34 #[.val (.ref a_WAITS), .val (.ref a_WAITS_NO_MORE), .val (.ref h0.size), .val (.int (7 : Int32)), .val (.int (6 : Int32)), .val (.ref a_TAKEN_BACK)] [(.int (-(1 : Int32))), (.int (0 : Int32))])) _
    refine XS.icmpYes X38.here hx rfl (pc0 := 34) (pc' := 53) rfl (hb hby d2_34) rfl (feq (by decide)).2 (by decide) (by decide) ?_
    show Steps p.tables e below (T38.setTop (mkF m 53 #[.val (.ref a_WAITS), .val (.ref a_WAITS_NO_MORE), .val (.ref h0.size), .val (.int (7 : Int32)), .val (.int (6 : Int32)), .val (.ref a_TAKEN_BACK)] [])) _
    refine XS.iinc X38.here hx rfl (hb hby d2_53) rfl (l' := #[.val (.ref a_WAITS), .val (.ref a_WAITS_NO_MORE), .val (.ref h0.size), .val (.int (7 : Int32)), .val (.int (7 : Int32)), .val (.ref a_TAKEN_BACK)]) rfl ?_
    show Steps p.tables e below (T38.setTop (mkF m 56 #[.val (.ref a_WAITS), .val (.ref a_WAITS_NO_MORE), .val (.ref h0.size), .val (.int (7 : Int32)), .val (.int (7 : Int32)), .val (.ref a_TAKEN_BACK)] [])) _
    refine XS.goto X38.here hx rfl (pc0 := 56) (pc' := 12) rfl (hb hby d2_56) (by decide) (by decide) ?_
    show Steps p.tables e below (T38.setTop (mkF m 12 #[.val (.ref a_WAITS), .val (.ref a_WAITS_NO_MORE), .val (.ref h0.size), .val (.int (7 : Int32)), .val (.int (7 : Int32)), .val (.ref a_TAKEN_BACK)] [])) _
    refine XS.iload X38.here hx rfl (hb hby d2_12) rfl ?_
    show Steps p.tables e below (T38.setTop (mkF m 14 #[.val (.ref a_WAITS), .val (.ref a_WAITS_NO_MORE), .val (.ref h0.size), .val (.int (7 : Int32)), .val (.int (7 : Int32)), .val (.ref a_TAKEN_BACK)] [(.int (7 : Int32))])) _
    refine XS.iloadN X38.here hx rfl (hb hby d2_14) rfl ?_
    show Steps p.tables e below (T38.setTop (mkF m 15 #[.val (.ref a_WAITS), .val (.ref a_WAITS_NO_MORE), .val (.ref h0.size), .val (.int (7 : Int32)), .val (.int (7 : Int32)), .val (.ref a_TAKEN_BACK)] [(.int (7 : Int32)), (.int (7 : Int32))])) _
    refine XS.icmpYes X38.here hx rfl (pc0 := 15) (pc' := 59) rfl (hb hby d2_15) rfl (flt (by decide : ¬ ((7 : Int32) < (7 : Int32)))).2.1 (by decide) (by decide) ?_
    show Steps p.tables e below (T38.setTop (mkF m 59 #[.val (.ref a_WAITS), .val (.ref a_WAITS_NO_MORE), .val (.ref h0.size), .val (.int (7 : Int32)), .val (.int (7 : Int32)), .val (.ref a_TAKEN_BACK)] [])) _
    refine XS.aloadN X38.here hx rfl (hb hby d2_59) rfl rfl ?_
    show Steps p.tables e below (T38.setTop (mkF m 60 #[.val (.ref a_WAITS), .val (.ref a_WAITS_NO_MORE), .val (.ref h0.size), .val (.int (7 : Int32)), .val (.int (7 : Int32)), .val (.ref a_TAKEN_BACK)] [(.ref a_WAITS_NO_MORE)])) _
    jvm_step X38.here [X38.here.top, hx, (hb hby d2_60), X38.method', Bd.returns, Value.isRef, FieldType.isReference]
    first | (intro acts; rw [hr _ acts rfl rfl rfl]) | rw [hr _ _ rfl rfl rfl]
    exact Steps.refl _
  · show Q2_r1 Z a_NONE a_WAITS a_WAITS_NO_MORE a_FALLS_DUE_AFTER_WAITING a_WAITS_AGAIN a_FALLS_DUE a_TAKEN_BACK a_VALUES kV h0 n0 _ T38.heap _
    rw [e38]
    exact ⟨rfl, N2, Ex2⟩
def Q2_r2 (Z : State) (a_NONE a_WAITS a_WAITS_NO_MORE a_FALLS_DUE_AFTER_WAITING a_WAITS_AGAIN a_FALLS_DUE a_TAKEN_BACK a_VALUES : Addr) (kV : ClassId) (h0 : Heap) (n0 : Nat) (v : Option Value) (h : Heap) (L : List Loc) : Prop := v = some (.ref a_WAITS) ∧ Fr n0 L ∧ Ext h0 h
set_option maxRecDepth 65536 in
set_option maxHeartbeats 40000000 in
theorem rm2_r2 (l : Launch) (Z : State) (a0 : Array Value) (hw : ∀ d ∈ tables_1, d.before a0 Z = true) (ws : List Jvm.Cond)  (a_NONE a_WAITS a_WAITS_NO_MORE a_FALLS_DUE_AFTER_WAITING a_WAITS_AGAIN a_FALLS_DUE a_TAKEN_BACK a_VALUES : Addr) (kV : ClassId) (h0 : Heap) (n0 : Nat) (Z0 : n0 ≤ h0.size) (WW : Own Z h0 a_NONE a_WAITS a_WAITS_NO_MORE a_FALLS_DUE_AFTER_WAITING a_WAITS_AGAIN a_FALLS_DUE a_TAKEN_BACK a_VALUES kV)  :
    MetFree l (⟨"com/example/acompte/acompte/DocumentKind$Vat", "opposite", "()Lcom/example/acompte/acompte/DocumentKind$Vat;"⟩ : MethodName) (head1 (Jvm.Cond.code (⟨"com/example/acompte/acompte/DocumentKind$Vat", "opposite", "()Lcom/example/acompte/acompte/DocumentKind$Vat;"⟩ : MethodName) prog_12_method_6_code 6 (some (.object "com/example/acompte/acompte/DocumentKind$Vat")) :: ws) ({ frames := 2, cells := 1, slots := 7, locals := 25 } : Room)) (fun a U => a = #[(.ref a_WAITS_NO_MORE)] ∧ Z.Warmed39 U.vm ∧ U.heap = h0) (fun _ _ _ _ _ => True) (fun _ U o U' => ∃ v L, o = .returned v ∧ Q2_r2 Z a_NONE a_WAITS a_WAITS_NO_MORE a_FALLS_DUE_AFTER_WAITING a_WAITS_AGAIN a_FALLS_DUE a_TAKEN_BACK a_VALUES kV h0 n0 v U'.heap L ∧ FrameEnd U o U' L ({ frames := 2, cells := 1, slots := 7, locals := 25 } : Room).cells ({ frames := 2, cells := 1, slots := 7, locals := 25 } : Room).slots) := by
  refine MetFree.of_bodySF (plainFor_of_name pn_2) hisR ?_
  intro p e s m args below meth c s₁ Bd hml0 hP hK
  have WW0 := WW
  obtain ⟨S_NONE, S_WAITS, S_WAITS_NO_MORE, S_FALLS_DUE_AFTER_WAITING, S_WAITS_AGAIN, S_FALLS_DUE, S_TAKEN_BACK, S_VALUES, E_NONE, E_WAITS, E_WAITS_NO_MORE, E_FALLS_DUE_AFTER_WAITING, E_WAITS_AGAIN, E_FALLS_DUE, E_TAKEN_BACK, E_VALUES, Fw_NONE, Fw_WAITS, Fw_WAITS_NO_MORE, Fw_FALLS_DUE_AFTER_WAITING, Fw_WAITS_AGAIN, Fw_FALLS_DUE, Fw_TAKEN_BACK, Fd_NONE, Fd_WAITS, Fd_WAITS_NO_MORE, Fd_FALLS_DUE_AFTER_WAITING, Fd_WAITS_AGAIN, Fd_FALLS_DUE, Fd_TAKEN_BACK, V_VALUES⟩ := WW0
  obtain ⟨rfl, hZ, hh⟩ := hP
  have hx := Bd.exec
  have hby := Bd.bytes
  have hml : c.maxLocals = 6 := hml0
  have hown : s.vm.findClass "com/example/acompte/acompte/DocumentKind$Vat" = some m.cls := findClass_of_methodNamed Bd.named
  have hnm := (name_of_methodNamed Bd.named Bd.method).1
  have X0 : Stand p l e ({ frames := 2, cells := 1, slots := 7, locals := 25 } : Room) s m #[(.ref a_WAITS_NO_MORE)] below meth c s₁ [] 0 0 := Stand.of_body Bd
  have e0 : s₁.heap = h0 := by rw [← hh, Bd.state]; rfl
  have N0 := Fr.nil n0
  have pre0 : ∀ t, Steps p.tables e below (s₁.setTop (mkF m 0 #[.val (.ref a_WAITS_NO_MORE), .unset, .unset, .unset, .unset, .unset] [])) t → Steps p.tables e below (s₁.setTop (entryFrame m #[(.ref a_WAITS_NO_MORE)] 6)) t := fun t k => castTop (ef_2 m a_WAITS_NO_MORE) k
  -- 3. LAWS
  -- pc 2: com/example/acompte/acompte/DocumentKind$Vat.values by its contract rm3
  obtain ⟨_, _, ⟨T2, L2, k2, n2⟩, -, X2, ⟨Lc2, hQ2, l2, y2, z2⟩, st2⟩ := Jvm.LawKit.callS X0 hx (y := (⟨"com/example/acompte/acompte/DocumentKind$Vat", "values", "()[Lcom/example/acompte/acompte/DocumentKind$Vat;"⟩ : MethodName)) hown (mvT hZ (hw _ (List.mem_of_getElem? (i := 13) rfl))) (mvT hZ (hw _ (List.mem_of_getElem? (i := 14) rfl))) (mvT hZ (hw _ (List.mem_of_getElem? (i := 6) rfl))) (mvT hZ (hw _ (List.mem_of_getElem? (i := 15) rfl))) (by decide) (backOf (W := 0) (rm3_v l Z a0 hw []  a_NONE a_WAITS a_WAITS_NO_MORE a_FALLS_DUE_AFTER_WAITING a_WAITS_AGAIN a_FALLS_DUE a_TAKEN_BACK a_VALUES kV h0 n0 Z0 WW) hZ (hw _ (List.mem_of_getElem? (i := 15) rfl)) (hw _ (List.mem_of_getElem? (i := 6) rfl)) (by decide) (by decide)) (g := (mkF m 2 #[.val (.ref a_WAITS_NO_MORE), .val .null, .unset, .unset, .unset, .unset] [])) rfl (by rw [hml]; rfl) (argsL := []) (rest := []) (lenOf pdw_1 rfl) rfl (by show 2 * 0 + _ ≤ _; exact Nat.le_of_eq rfl) (hb hby d2_2) (fun _ _ => ⟨rfl, e0, (by decide : 0 + 1 ≤ _), (by decide : 0 + 7 ≤ _)⟩)
  dsimp only [Pt.U, Pt.locs, Pt.cells, Pt.slots] at X2 l2 y2 z2 st2 hQ2
  subst l2 y2 z2
  obtain ⟨rfl, N2q, Ex2, V2⟩ := hQ2
  have WW2 := WW.ext Ex2
  obtain ⟨S_NONE, S_WAITS, S_WAITS_NO_MORE, S_FALLS_DUE_AFTER_WAITING, S_WAITS_AGAIN, S_FALLS_DUE, S_TAKEN_BACK, S_VALUES, E_NONE, E_WAITS, E_WAITS_NO_MORE, E_FALLS_DUE_AFTER_WAITING, E_WAITS_AGAIN, E_FALLS_DUE, E_TAKEN_BACK, E_VALUES, Fw_NONE, Fw_WAITS, Fw_WAITS_NO_MORE, Fw_FALLS_DUE_AFTER_WAITING, Fw_WAITS_AGAIN, Fw_FALLS_DUE, Fw_TAKEN_BACK, Fd_NONE, Fd_WAITS, Fd_WAITS_NO_MORE, Fd_FALLS_DUE_AFTER_WAITING, Fd_WAITS_AGAIN, Fd_FALLS_DUE, Fd_TAKEN_BACK, V_VALUES⟩ := WW2
  obtain ⟨clv, Arv_, qv, Sv, Nv, Hv, Gv⟩ := V2
  have N2 := Fr.app N0 N2q
  obtain ⟨T5, X5, e5, st5⟩ := getF X2 hx hZ hown (host := "") (Or.inl (hw _ (List.mem_of_getElem? (i := 34) rfl))) Via.refl rfl (Fw_NONE) (g := (mkF m 26 #[.val (.ref a_WAITS_NO_MORE), .val .null, .val (.ref h0.size), .val (.int (7 : Int32)), .val (.int (0 : Int32)), .val (.ref a_NONE)] [(.ref a_NONE)])) rfl rfl (hb hby d2_26)
  obtain ⟨T7, X7, e7, st7⟩ := getF X5 hx hZ hown (host := "") (Or.inl (hw _ (List.mem_of_getElem? (i := 34) rfl))) Via.refl e5 (Fw_WAITS_NO_MORE) (g := (mkF m 30 #[.val (.ref a_WAITS_NO_MORE), .val .null, .val (.ref h0.size), .val (.int (7 : Int32)), .val (.int (0 : Int32)), .val (.ref a_NONE)] [(.ref a_WAITS_NO_MORE), (.int (0 : Int32))])) rfl rfl (hb hby d2_30)
  obtain ⟨T10, X10, e10, st10⟩ := getF X7 hx hZ hown (host := "") (Or.inl (hw _ (List.mem_of_getElem? (i := 34) rfl))) Via.refl e7 (Fw_WAITS) (g := (mkF m 26 #[.val (.ref a_WAITS_NO_MORE), .val .null, .val (.ref h0.size), .val (.int (7 : Int32)), .val (.int (1 : Int32)), .val (.ref a_WAITS)] [(.ref a_WAITS)])) rfl rfl (hb hby d2_26)
  obtain ⟨T11, X11, e11, st11⟩ := getF X10 hx hZ hown (host := "") (Or.inl (hw _ (List.mem_of_getElem? (i := 34) rfl))) Via.refl e10 (Fw_WAITS_NO_MORE) (g := (mkF m 30 #[.val (.ref a_WAITS_NO_MORE), .val .null, .val (.ref h0.size), .val (.int (7 : Int32)), .val (.int (1 : Int32)), .val (.ref a_WAITS)] [(.ref a_WAITS_NO_MORE), (.int (1 : Int32))])) rfl rfl (hb hby d2_30)
  obtain ⟨T13, X13, e13, st13⟩ := getF X11 hx hZ hown (host := "") (Or.inl (hw _ (List.mem_of_getElem? (i := 36) rfl))) Via.refl e11 (Fd_WAITS) (g := (mkF m 39 #[.val (.ref a_WAITS_NO_MORE), .val .null, .val (.ref h0.size), .val (.int (7 : Int32)), .val (.int (1 : Int32)), .val (.ref a_WAITS)] [(.ref a_WAITS)])) rfl rfl (hb hby d2_39)
  obtain ⟨T15, X15, e15, st15⟩ := getF X13 hx hZ hown (host := "") (Or.inl (hw _ (List.mem_of_getElem? (i := 36) rfl))) Via.refl e13 (Fd_WAITS_NO_MORE) (g := (mkF m 43 #[.val (.ref a_WAITS_NO_MORE), .val .null, .val (.ref h0.size), .val (.int (7 : Int32)), .val (.int (1 : Int32)), .val (.ref a_WAITS)] [(.ref a_WAITS_NO_MORE), (.int (0 : Int32))])) rfl rfl (hb hby d2_43)
  obtain ⟨T18, X18, e18, st18⟩ := getF X15 hx hZ hown (host := "") (Or.inl (hw _ (List.mem_of_getElem? (i := 34) rfl))) Via.refl e15 (Fw_WAITS_NO_MORE) (g := (mkF m 26 #[.val (.ref a_WAITS_NO_MORE), .val (.ref a_WAITS), .val (.ref h0.size), .val (.int (7 : Int32)), .val (.int (2 : Int32)), .val (.ref a_WAITS_NO_MORE)] [(.ref a_WAITS_NO_MORE)])) rfl rfl (hb hby d2_26)
  obtain ⟨T19, X19, e19, st19⟩ := getF X18 hx hZ hown (host := "") (Or.inl (hw _ (List.mem_of_getElem? (i := 34) rfl))) Via.refl e18 (Fw_WAITS_NO_MORE) (g := (mkF m 30 #[.val (.ref a_WAITS_NO_MORE), .val (.ref a_WAITS), .val (.ref h0.size), .val (.int (7 : Int32)), .val (.int (2 : Int32)), .val (.ref a_WAITS_NO_MORE)] [(.ref a_WAITS_NO_MORE), (.int (-1 : Int32))])) rfl rfl (hb hby d2_30)
  obtain ⟨T22, X22, e22, st22⟩ := getF X19 hx hZ hown (host := "") (Or.inl (hw _ (List.mem_of_getElem? (i := 34) rfl))) Via.refl e19 (Fw_FALLS_DUE_AFTER_WAITING) (g := (mkF m 26 #[.val (.ref a_WAITS_NO_MORE), .val (.ref a_WAITS), .val (.ref h0.size), .val (.int (7 : Int32)), .val (.int (3 : Int32)), .val (.ref a_FALLS_DUE_AFTER_WAITING)] [(.ref a_FALLS_DUE_AFTER_WAITING)])) rfl rfl (hb hby d2_26)
  obtain ⟨T23, X23, e23, st23⟩ := getF X22 hx hZ hown (host := "") (Or.inl (hw _ (List.mem_of_getElem? (i := 34) rfl))) Via.refl e22 (Fw_WAITS_NO_MORE) (g := (mkF m 30 #[.val (.ref a_WAITS_NO_MORE), .val (.ref a_WAITS), .val (.ref h0.size), .val (.int (7 : Int32)), .val (.int (3 : Int32)), .val (.ref a_FALLS_DUE_AFTER_WAITING)] [(.ref a_WAITS_NO_MORE), (.int (-1 : Int32))])) rfl rfl (hb hby d2_30)
  obtain ⟨T26, X26, e26, st26⟩ := getF X23 hx hZ hown (host := "") (Or.inl (hw _ (List.mem_of_getElem? (i := 34) rfl))) Via.refl e23 (Fw_WAITS_AGAIN) (g := (mkF m 26 #[.val (.ref a_WAITS_NO_MORE), .val (.ref a_WAITS), .val (.ref h0.size), .val (.int (7 : Int32)), .val (.int (4 : Int32)), .val (.ref a_WAITS_AGAIN)] [(.ref a_WAITS_AGAIN)])) rfl rfl (hb hby d2_26)
  obtain ⟨T27, X27, e27, st27⟩ := getF X26 hx hZ hown (host := "") (Or.inl (hw _ (List.mem_of_getElem? (i := 34) rfl))) Via.refl e26 (Fw_WAITS_NO_MORE) (g := (mkF m 30 #[.val (.ref a_WAITS_NO_MORE), .val (.ref a_WAITS), .val (.ref h0.size), .val (.int (7 : Int32)), .val (.int (4 : Int32)), .val (.ref a_WAITS_AGAIN)] [(.ref a_WAITS_NO_MORE), (.int (1 : Int32))])) rfl rfl (hb hby d2_30)
  obtain ⟨T29, X29, e29, st29⟩ := getF X27 hx hZ hown (host := "") (Or.inl (hw _ (List.mem_of_getElem? (i := 36) rfl))) Via.refl e27 (Fd_WAITS_AGAIN) (g := (mkF m 39 #[.val (.ref a_WAITS_NO_MORE), .val (.ref a_WAITS), .val (.ref h0.size), .val (.int (7 : Int32)), .val (.int (4 : Int32)), .val (.ref a_WAITS_AGAIN)] [(.ref a_WAITS_AGAIN)])) rfl rfl (hb hby d2_39)
  obtain ⟨T30, X30, e30, st30⟩ := getF X29 hx hZ hown (host := "") (Or.inl (hw _ (List.mem_of_getElem? (i := 36) rfl))) Via.refl e29 (Fd_WAITS_NO_MORE) (g := (mkF m 43 #[.val (.ref a_WAITS_NO_MORE), .val (.ref a_WAITS), .val (.ref h0.size), .val (.int (7 : Int32)), .val (.int (4 : Int32)), .val (.ref a_WAITS_AGAIN)] [(.ref a_WAITS_NO_MORE), (.int (-1 : Int32))])) rfl rfl (hb hby d2_43)
  obtain ⟨T33, X33, e33, st33⟩ := getF X30 hx hZ hown (host := "") (Or.inl (hw _ (List.mem_of_getElem? (i := 34) rfl))) Via.refl e30 (Fw_FALLS_DUE) (g := (mkF m 26 #[.val (.ref a_WAITS_NO_MORE), .val (.ref a_WAITS), .val (.ref h0.size), .val (.int (7 : Int32)), .val (.int (5 : Int32)), .val (.ref a_FALLS_DUE)] [(.ref a_FALLS_DUE)])) rfl rfl (hb hby d2_26)
  obtain ⟨T34, X34, e34, st34⟩ := getF X33 hx hZ hown (host := "") (Or.inl (hw _ (List.mem_of_getElem? (i := 34) rfl))) Via.refl e33 (Fw_WAITS_NO_MORE) (g := (mkF m 30 #[.val (.ref a_WAITS_NO_MORE), .val (.ref a_WAITS), .val (.ref h0.size), .val (.int (7 : Int32)), .val (.int (5 : Int32)), .val (.ref a_FALLS_DUE)] [(.ref a_WAITS_NO_MORE), (.int (0 : Int32))])) rfl rfl (hb hby d2_30)
  obtain ⟨T37, X37, e37, st37⟩ := getF X34 hx hZ hown (host := "") (Or.inl (hw _ (List.mem_of_getElem? (i := 34) rfl))) Via.refl e34 (Fw_TAKEN_BACK) (g := (mkF m 26 #[.val (.ref a_WAITS_NO_MORE), .val (.ref a_WAITS), .val (.ref h0.size), .val (.int (7 : Int32)), .val (.int (6 : Int32)), .val (.ref a_TAKEN_BACK)] [(.ref a_TAKEN_BACK)])) rfl rfl (hb hby d2_26)
  obtain ⟨T38, X38, e38, st38⟩ := getF X37 hx hZ hown (host := "") (Or.inl (hw _ (List.mem_of_getElem? (i := 34) rfl))) Via.refl e37 (Fw_WAITS_NO_MORE) (g := (mkF m 30 #[.val (.ref a_WAITS_NO_MORE), .val (.ref a_WAITS), .val (.ref h0.size), .val (.int (7 : Int32)), .val (.int (6 : Int32)), .val (.ref a_TAKEN_BACK)] [(.ref a_WAITS_NO_MORE), (.int (0 : Int32))])) rfl rfl (hb hby d2_30)
  obtain ⟨fs, hr, hrun, hended, hW, hsame⟩ := X38.leave (v := some (.ref a_WAITS)) (fun h => by rw [Bd.returns] at h; cases h)
  refine ⟨_, _, pre0 _ ?_, hrun, hended, _, _, rfl, ?_, ⟨_, rfl⟩, hW, hsame.mono (by decide) (by decide)⟩
  -- 4. STEPS
  · show Steps p.tables e below (s₁.setTop (mkF m 0 #[.val (.ref a_WAITS_NO_MORE), .unset, .unset, .unset, .unset, .unset] [])) _
    refine XS.aconstNull X0.here hx rfl (hb hby d2_0) ?_
    show Steps p.tables e below (s₁.setTop (mkF m 1 #[.val (.ref a_WAITS_NO_MORE), .unset, .unset, .unset, .unset, .unset] [.null])) _
    refine XS.astoreN X0.here hx rfl (hb hby d2_1) rfl rfl (l' := #[.val (.ref a_WAITS_NO_MORE), .val .null, .unset, .unset, .unset, .unset]) rfl ?_
    show Steps p.tables e below (s₁.setTop (mkF m 2 #[.val (.ref a_WAITS_NO_MORE), .val .null, .unset, .unset, .unset, .unset] [])) _
    refine st2 _ ?_
    show Steps p.tables e below (T2.setTop (mkF m 5 #[.val (.ref a_WAITS_NO_MORE), .val .null, .unset, .unset, .unset, .unset] [(.ref h0.size)])) _
    refine XS.astoreN X2.here hx rfl (hb hby d2_5) rfl rfl (l' := #[.val (.ref a_WAITS_NO_MORE), .val .null, .val (.ref h0.size), .unset, .unset, .unset]) rfl ?_
    show Steps p.tables e below (T2.setTop (mkF m 6 #[.val (.ref a_WAITS_NO_MORE), .val .null, .val (.ref h0.size), .unset, .unset, .unset] [])) _
    refine XS.aloadN X2.here hx rfl (hb hby d2_6) rfl rfl ?_
    show Steps p.tables e below (T2.setTop (mkF m 7 #[.val (.ref a_WAITS_NO_MORE), .val .null, .val (.ref h0.size), .unset, .unset, .unset] [(.ref h0.size)])) _
    refine X2.arraylength hx (by exact Arv_.1) (State.isArrayOf_alike hZ.alike Arv_.2.1) (g := (mkF m 7 #[.val (.ref a_WAITS_NO_MORE), .val .null, .val (.ref h0.size), .unset, .unset, .unset] [(.ref h0.size)])) rfl rfl (hb hby d2_7) _ ?_
    rw [len_of Sv Nv]
    show Steps p.tables e below (T2.setTop (mkF m 8 #[.val (.ref a_WAITS_NO_MORE), .val .null, .val (.ref h0.size), .unset, .unset, .unset] [(.int (7 : Int32))])) _
    refine XS.istoreN X2.here hx rfl (hb hby d2_8) rfl (l' := #[.val (.ref a_WAITS_NO_MORE), .val .null, .val (.ref h0.size), .val (.int (7 : Int32)), .unset, .unset]) rfl ?_
    show Steps p.tables e below (T2.setTop (mkF m 9 #[.val (.ref a_WAITS_NO_MORE), .val .null, .val (.ref h0.size), .val (.int (7 : Int32)), .unset, .unset] [])) _
    refine XS.iconst X2.here hx rfl (hb hby d2_9) ?_
    show Steps p.tables e below (T2.setTop (mkF m 10 #[.val (.ref a_WAITS_NO_MORE), .val .null, .val (.ref h0.size), .val (.int (7 : Int32)), .unset, .unset] [(.int (0 : Int32))])) _
    refine XS.istore X2.here hx rfl (hb hby d2_10) rfl (l' := #[.val (.ref a_WAITS_NO_MORE), .val .null, .val (.ref h0.size), .val (.int (7 : Int32)), .val (.int (0 : Int32)), .unset]) rfl ?_
    show Steps p.tables e below (T2.setTop (mkF m 12 #[.val (.ref a_WAITS_NO_MORE), .val .null, .val (.ref h0.size), .val (.int (7 : Int32)), .val (.int (0 : Int32)), .unset] [])) _
    refine XS.iload X2.here hx rfl (hb hby d2_12) rfl ?_
    show Steps p.tables e below (T2.setTop (mkF m 14 #[.val (.ref a_WAITS_NO_MORE), .val .null, .val (.ref h0.size), .val (.int (7 : Int32)), .val (.int (0 : Int32)), .unset] [(.int (0 : Int32))])) _
    refine XS.iloadN X2.here hx rfl (hb hby d2_14) rfl ?_
    show Steps p.tables e below (T2.setTop (mkF m 15 #[.val (.ref a_WAITS_NO_MORE), .val .null, .val (.ref h0.size), .val (.int (7 : Int32)), .val (.int (0 : Int32)), .unset] [(.int (7 : Int32)), (.int (0 : Int32))])) _
    refine XS.icmpNo X2.here hx rfl (hb hby d2_15) rfl (tlt (by decide : (0 : Int32) < (7 : Int32))).2.1 ?_
    show Steps p.tables e below (T2.setTop (mkF m 18 #[.val (.ref a_WAITS_NO_MORE), .val .null, .val (.ref h0.size), .val (.int (7 : Int32)), .val (.int (0 : Int32)), .unset] [])) _
    refine XS.aloadN X2.here hx rfl (hb hby d2_18) rfl rfl ?_
    show Steps p.tables e below (T2.setTop (mkF m 19 #[.val (.ref a_WAITS_NO_MORE), .val .null, .val (.ref h0.size), .val (.int (7 : Int32)), .val (.int (0 : Int32)), .unset] [(.ref h0.size)])) _
    refine XS.iload X2.here hx rfl (hb hby d2_19) rfl ?_
    show Steps p.tables e below (T2.setTop (mkF m 21 #[.val (.ref a_WAITS_NO_MORE), .val .null, .val (.ref h0.size), .val (.int (7 : Int32)), .val (.int (0 : Int32)), .unset] [(.int (0 : Int32)), (.ref h0.size)])) _
    refine X2.aaload hx (j := (0 : Int32)) (v := (.ref a_NONE)) (by exact Arv_.1) (State.isArrayOf_alike hZ.alike Arv_.2.1) rfl Arv_.2.2 (inb_of Sv ⟨by decide, by decide⟩) (Has.at Hv (inb_of Sv ⟨by decide, by decide⟩) rfl) (g := (mkF m 21 #[.val (.ref a_WAITS_NO_MORE), .val .null, .val (.ref h0.size), .val (.int (7 : Int32)), .val (.int (0 : Int32)), .unset] [(.int (0 : Int32)), (.ref h0.size)])) rfl rfl (hb hby d2_21) _ ?_
    show Steps p.tables e below (T2.setTop (mkF m 22 #[.val (.ref a_WAITS_NO_MORE), .val .null, .val (.ref h0.size), .val (.int (7 : Int32)), .val (.int (0 : Int32)), .unset] [(.ref a_NONE)])) _
    refine XS.astore X2.here hx rfl (hb hby d2_22) rfl rfl (l' := #[.val (.ref a_WAITS_NO_MORE), .val .null, .val (.ref h0.size), .val (.int (7 : Int32)), .val (.int (0 : Int32)), .val (.ref a_NONE)]) rfl ?_
    show Steps p.tables e below (T2.setTop (mkF m 24 #[.val (.ref a_WAITS_NO_MORE), .val .null, .val (.ref h0.size), .val (.int (7 : Int32)), .val (.int (0 : Int32)), .val (.ref a_NONE)] [])) _
    refine XS.aload X2.here hx rfl (hb hby d2_24) rfl rfl ?_
    show Steps p.tables e below (T2.setTop (mkF m 26 #[.val (.ref a_WAITS_NO_MORE), .val .null, .val (.ref h0.size), .val (.int (7 : Int32)), .val (.int (0 : Int32)), .val (.ref a_NONE)] [(.ref a_NONE)])) _
    refine st5 _ ?_
    show Steps p.tables e below (T5.setTop (mkF m 29 #[.val (.ref a_WAITS_NO_MORE), .val .null, .val (.ref h0.size), .val (.int (7 : Int32)), .val (.int (0 : Int32)), .val (.ref a_NONE)] [(.int (0 : Int32))])) _
    refine XS.aloadN X5.here hx rfl (hb hby d2_29) rfl rfl ?_
    show Steps p.tables e below (T5.setTop (mkF m 30 #[.val (.ref a_WAITS_NO_MORE), .val .null, .val (.ref h0.size), .val (.int (7 : Int32)), .val (.int (0 : Int32)), .val (.ref a_NONE)] [(.ref a_WAITS_NO_MORE), (.int (0 : Int32))])) _
    refine st7 _ ?_
    show Steps p.tables e below (T7.setTop (mkF m 33 #[.val (.ref a_WAITS_NO_MORE), .val .null, .val (.ref h0.size), .val (.int (7 : Int32)), .val (.int (0 : Int32)), .val (.ref a_NONE)] [(.int (-1 : Int32)), (.int (0 : Int32))])) _
    refine XS.ineg X7.here hx rfl (hb hby d2_33) rfl ?_
    show Steps p.tables e below (T7.setTop (mkF m 34 #[.val (.ref a_WAITS_NO_MORE), .val .null, .val (.ref h0.size), .val (.int (7 : Int32)), .val (.int (0 : Int32)), .val (.ref a_NONE)] [(.int (-(-1 : Int32))), (.int (0 : Int32))])) _
    refine XS.icmpYes X7.here hx rfl (pc0 := 34) (pc' := 53) rfl (hb hby d2_34) rfl (feq (by decide)).2 (by decide) (by decide) ?_
    show Steps p.tables e below (T7.setTop (mkF m 53 #[.val (.ref a_WAITS_NO_MORE), .val .null, .val (.ref h0.size), .val (.int (7 : Int32)), .val (.int (0 : Int32)), .val (.ref a_NONE)] [])) _
    refine XS.iinc X7.here hx rfl (hb hby d2_53) rfl (l' := #[.val (.ref a_WAITS_NO_MORE), .val .null, .val (.ref h0.size), .val (.int (7 : Int32)), .val (.int (1 : Int32)), .val (.ref a_NONE)]) rfl ?_
    show Steps p.tables e below (T7.setTop (mkF m 56 #[.val (.ref a_WAITS_NO_MORE), .val .null, .val (.ref h0.size), .val (.int (7 : Int32)), .val (.int (1 : Int32)), .val (.ref a_NONE)] [])) _
    refine XS.goto X7.here hx rfl (pc0 := 56) (pc' := 12) rfl (hb hby d2_56) (by decide) (by decide) ?_
    show Steps p.tables e below (T7.setTop (mkF m 12 #[.val (.ref a_WAITS_NO_MORE), .val .null, .val (.ref h0.size), .val (.int (7 : Int32)), .val (.int (1 : Int32)), .val (.ref a_NONE)] [])) _
    refine XS.iload X7.here hx rfl (hb hby d2_12) rfl ?_
    show Steps p.tables e below (T7.setTop (mkF m 14 #[.val (.ref a_WAITS_NO_MORE), .val .null, .val (.ref h0.size), .val (.int (7 : Int32)), .val (.int (1 : Int32)), .val (.ref a_NONE)] [(.int (1 : Int32))])) _
    refine XS.iloadN X7.here hx rfl (hb hby d2_14) rfl ?_
    show Steps p.tables e below (T7.setTop (mkF m 15 #[.val (.ref a_WAITS_NO_MORE), .val .null, .val (.ref h0.size), .val (.int (7 : Int32)), .val (.int (1 : Int32)), .val (.ref a_NONE)] [(.int (7 : Int32)), (.int (1 : Int32))])) _
    refine XS.icmpNo X7.here hx rfl (hb hby d2_15) rfl (tlt (by decide : (1 : Int32) < (7 : Int32))).2.1 ?_
    show Steps p.tables e below (T7.setTop (mkF m 18 #[.val (.ref a_WAITS_NO_MORE), .val .null, .val (.ref h0.size), .val (.int (7 : Int32)), .val (.int (1 : Int32)), .val (.ref a_NONE)] [])) _
    refine XS.aloadN X7.here hx rfl (hb hby d2_18) rfl rfl ?_
    show Steps p.tables e below (T7.setTop (mkF m 19 #[.val (.ref a_WAITS_NO_MORE), .val .null, .val (.ref h0.size), .val (.int (7 : Int32)), .val (.int (1 : Int32)), .val (.ref a_NONE)] [(.ref h0.size)])) _
    refine XS.iload X7.here hx rfl (hb hby d2_19) rfl ?_
    show Steps p.tables e below (T7.setTop (mkF m 21 #[.val (.ref a_WAITS_NO_MORE), .val .null, .val (.ref h0.size), .val (.int (7 : Int32)), .val (.int (1 : Int32)), .val (.ref a_NONE)] [(.int (1 : Int32)), (.ref h0.size)])) _
    refine X7.aaload hx (j := (1 : Int32)) (v := (.ref a_WAITS)) (by rw [e7]; exact Arv_.1) (State.isArrayOf_alike hZ.alike Arv_.2.1) rfl Arv_.2.2 (inb_of Sv ⟨by decide, by decide⟩) (Has.at Hv (inb_of Sv ⟨by decide, by decide⟩) rfl) (g := (mkF m 21 #[.val (.ref a_WAITS_NO_MORE), .val .null, .val (.ref h0.size), .val (.int (7 : Int32)), .val (.int (1 : Int32)), .val (.ref a_NONE)] [(.int (1 : Int32)), (.ref h0.size)])) rfl rfl (hb hby d2_21) _ ?_
    show Steps p.tables e below (T7.setTop (mkF m 22 #[.val (.ref a_WAITS_NO_MORE), .val .null, .val (.ref h0.size), .val (.int (7 : Int32)), .val (.int (1 : Int32)), .val (.ref a_NONE)] [(.ref a_WAITS)])) _
    refine XS.astore X7.here hx rfl (hb hby d2_22) rfl rfl (l' := #[.val (.ref a_WAITS_NO_MORE), .val .null, .val (.ref h0.size), .val (.int (7 : Int32)), .val (.int (1 : Int32)), .val (.ref a_WAITS)]) rfl ?_
    show Steps p.tables e below (T7.setTop (mkF m 24 #[.val (.ref a_WAITS_NO_MORE), .val .null, .val (.ref h0.size), .val (.int (7 : Int32)), .val (.int (1 : Int32)), .val (.ref a_WAITS)] [])) _
    refine XS.aload X7.here hx rfl (hb hby d2_24) rfl rfl ?_
    show Steps p.tables e below (T7.setTop (mkF m 26 #[.val (.ref a_WAITS_NO_MORE), .val .null, .val (.ref h0.size), .val (.int (7 : Int32)), .val (.int (1 : Int32)), .val (.ref a_WAITS)] [(.ref a_WAITS)])) _
    refine st10 _ ?_
    show Steps p.tables e below (T10.setTop (mkF m 29 #[.val (.ref a_WAITS_NO_MORE), .val .null, .val (.ref h0.size), .val (.int (7 : Int32)), .val (.int (1 : Int32)), .val (.ref a_WAITS)] [(.int (1 : Int32))])) _
    refine XS.aloadN X10.here hx rfl (hb hby d2_29) rfl rfl ?_
    show Steps p.tables e below (T10.setTop (mkF m 30 #[.val (.ref a_WAITS_NO_MORE), .val .null, .val (.ref h0.size), .val (.int (7 : Int32)), .val (.int (1 : Int32)), .val (.ref a_WAITS)] [(.ref a_WAITS_NO_MORE), (.int (1 : Int32))])) _
    refine st11 _ ?_
    show Steps p.tables e below (T11.setTop (mkF m 33 #[.val (.ref a_WAITS_NO_MORE), .val .null, .val (.ref h0.size), .val (.int (7 : Int32)), .val (.int (1 : Int32)), .val (.ref a_WAITS)] [(.int (-1 : Int32)), (.int (1 : Int32))])) _
    refine XS.ineg X11.here hx rfl (hb hby d2_33) rfl ?_
    show Steps p.tables e below (T11.setTop (mkF m 34 #[.val (.ref a_WAITS_NO_MORE), .val .null, .val (.ref h0.size), .val (.int (7 : Int32)), .val (.int (1 : Int32)), .val (.ref a_WAITS)] [(.int (-(-1 : Int32))), (.int (1 : Int32))])) _
    refine XS.icmpNo X11.here hx rfl (hb hby d2_34) rfl (teq (by decide)).2 ?_
    show Steps p.tables e below (T11.setTop (mkF m 37 #[.val (.ref a_WAITS_NO_MORE), .val .null, .val (.ref h0.size), .val (.int (7 : Int32)), .val (.int (1 : Int32)), .val (.ref a_WAITS)] [])) _
    refine XS.aload X11.here hx rfl (hb hby d2_37) rfl rfl ?_
    show Steps p.tables e below (T11.setTop (mkF m 39 #[.val (.ref a_WAITS_NO_MORE), .val .null, .val (.ref h0.size), .val (.int (7 : Int32)), .val (.int (1 : Int32)), .val (.ref a_WAITS)] [(.ref a_WAITS)])) _
    refine st13 _ ?_
    show Steps p.tables e below (T13.setTop (mkF m 42 #[.val (.ref a_WAITS_NO_MORE), .val .null, .val (.ref h0.size), .val (.int (7 : Int32)), .val (.int (1 : Int32)), .val (.ref a_WAITS)] [(.int (0 : Int32))])) _
    refine XS.aloadN X13.here hx rfl (hb hby d2_42) rfl rfl ?_
    show Steps p.tables e below (T13.setTop (mkF m 43 #[.val (.ref a_WAITS_NO_MORE), .val .null, .val (.ref h0.size), .val (.int (7 : Int32)), .val (.int (1 : Int32)), .val (.ref a_WAITS)] [(.ref a_WAITS_NO_MORE), (.int (0 : Int32))])) _
    refine st15 _ ?_
    show Steps p.tables e below (T15.setTop (mkF m 46 #[.val (.ref a_WAITS_NO_MORE), .val .null, .val (.ref h0.size), .val (.int (7 : Int32)), .val (.int (1 : Int32)), .val (.ref a_WAITS)] [(.int (0 : Int32)), (.int (0 : Int32))])) _
    refine XS.ineg X15.here hx rfl (hb hby d2_46) rfl ?_
    show Steps p.tables e below (T15.setTop (mkF m 47 #[.val (.ref a_WAITS_NO_MORE), .val .null, .val (.ref h0.size), .val (.int (7 : Int32)), .val (.int (1 : Int32)), .val (.ref a_WAITS)] [(.int (-(0 : Int32))), (.int (0 : Int32))])) _
    refine XS.icmpNo X15.here hx rfl (hb hby d2_47) rfl (teq (by decide)).2 ?_
    show Steps p.tables e below (T15.setTop (mkF m 50 #[.val (.ref a_WAITS_NO_MORE), .val .null, .val (.ref h0.size), .val (.int (7 : Int32)), .val (.int (1 : Int32)), .val (.ref a_WAITS)] [])) _
    refine XS.aload X15.here hx rfl (hb hby d2_50) rfl rfl ?_
    show Steps p.tables e below (T15.setTop (mkF m 52 #[.val (.ref a_WAITS_NO_MORE), .val .null, .val (.ref h0.size), .val (.int (7 : Int32)), .val (.int (1 : Int32)), .val (.ref a_WAITS)] [(.ref a_WAITS)])) _
    refine XS.astoreN X15.here hx rfl (hb hby d2_52) rfl rfl (l' := #[.val (.ref a_WAITS_NO_MORE), .val (.ref a_WAITS), .val (.ref h0.size), .val (.int (7 : Int32)), .val (.int (1 : Int32)), .val (.ref a_WAITS)]) rfl ?_
    show Steps p.tables e below (T15.setTop (mkF m 53 #[.val (.ref a_WAITS_NO_MORE), .val (.ref a_WAITS), .val (.ref h0.size), .val (.int (7 : Int32)), .val (.int (1 : Int32)), .val (.ref a_WAITS)] [])) _
    refine XS.iinc X15.here hx rfl (hb hby d2_53) rfl (l' := #[.val (.ref a_WAITS_NO_MORE), .val (.ref a_WAITS), .val (.ref h0.size), .val (.int (7 : Int32)), .val (.int (2 : Int32)), .val (.ref a_WAITS)]) rfl ?_
    show Steps p.tables e below (T15.setTop (mkF m 56 #[.val (.ref a_WAITS_NO_MORE), .val (.ref a_WAITS), .val (.ref h0.size), .val (.int (7 : Int32)), .val (.int (2 : Int32)), .val (.ref a_WAITS)] [])) _
    refine XS.goto X15.here hx rfl (pc0 := 56) (pc' := 12) rfl (hb hby d2_56) (by decide) (by decide) ?_
    show Steps p.tables e below (T15.setTop (mkF m 12 #[.val (.ref a_WAITS_NO_MORE), .val (.ref a_WAITS), .val (.ref h0.size), .val (.int (7 : Int32)), .val (.int (2 : Int32)), .val (.ref a_WAITS)] [])) _
    refine XS.iload X15.here hx rfl (hb hby d2_12) rfl ?_
    show Steps p.tables e below (T15.setTop (mkF m 14 #[.val (.ref a_WAITS_NO_MORE), .val (.ref a_WAITS), .val (.ref h0.size), .val (.int (7 : Int32)), .val (.int (2 : Int32)), .val (.ref a_WAITS)] [(.int (2 : Int32))])) _
    refine XS.iloadN X15.here hx rfl (hb hby d2_14) rfl ?_
    show Steps p.tables e below (T15.setTop (mkF m 15 #[.val (.ref a_WAITS_NO_MORE), .val (.ref a_WAITS), .val (.ref h0.size), .val (.int (7 : Int32)), .val (.int (2 : Int32)), .val (.ref a_WAITS)] [(.int (7 : Int32)), (.int (2 : Int32))])) _
    refine XS.icmpNo X15.here hx rfl (hb hby d2_15) rfl (tlt (by decide : (2 : Int32) < (7 : Int32))).2.1 ?_
    show Steps p.tables e below (T15.setTop (mkF m 18 #[.val (.ref a_WAITS_NO_MORE), .val (.ref a_WAITS), .val (.ref h0.size), .val (.int (7 : Int32)), .val (.int (2 : Int32)), .val (.ref a_WAITS)] [])) _
    refine XS.aloadN X15.here hx rfl (hb hby d2_18) rfl rfl ?_
    show Steps p.tables e below (T15.setTop (mkF m 19 #[.val (.ref a_WAITS_NO_MORE), .val (.ref a_WAITS), .val (.ref h0.size), .val (.int (7 : Int32)), .val (.int (2 : Int32)), .val (.ref a_WAITS)] [(.ref h0.size)])) _
    refine XS.iload X15.here hx rfl (hb hby d2_19) rfl ?_
    show Steps p.tables e below (T15.setTop (mkF m 21 #[.val (.ref a_WAITS_NO_MORE), .val (.ref a_WAITS), .val (.ref h0.size), .val (.int (7 : Int32)), .val (.int (2 : Int32)), .val (.ref a_WAITS)] [(.int (2 : Int32)), (.ref h0.size)])) _
    refine X15.aaload hx (j := (2 : Int32)) (v := (.ref a_WAITS_NO_MORE)) (by rw [e15]; exact Arv_.1) (State.isArrayOf_alike hZ.alike Arv_.2.1) rfl Arv_.2.2 (inb_of Sv ⟨by decide, by decide⟩) (Has.at Hv (inb_of Sv ⟨by decide, by decide⟩) rfl) (g := (mkF m 21 #[.val (.ref a_WAITS_NO_MORE), .val (.ref a_WAITS), .val (.ref h0.size), .val (.int (7 : Int32)), .val (.int (2 : Int32)), .val (.ref a_WAITS)] [(.int (2 : Int32)), (.ref h0.size)])) rfl rfl (hb hby d2_21) _ ?_
    show Steps p.tables e below (T15.setTop (mkF m 22 #[.val (.ref a_WAITS_NO_MORE), .val (.ref a_WAITS), .val (.ref h0.size), .val (.int (7 : Int32)), .val (.int (2 : Int32)), .val (.ref a_WAITS)] [(.ref a_WAITS_NO_MORE)])) _
    refine XS.astore X15.here hx rfl (hb hby d2_22) rfl rfl (l' := #[.val (.ref a_WAITS_NO_MORE), .val (.ref a_WAITS), .val (.ref h0.size), .val (.int (7 : Int32)), .val (.int (2 : Int32)), .val (.ref a_WAITS_NO_MORE)]) rfl ?_
    show Steps p.tables e below (T15.setTop (mkF m 24 #[.val (.ref a_WAITS_NO_MORE), .val (.ref a_WAITS), .val (.ref h0.size), .val (.int (7 : Int32)), .val (.int (2 : Int32)), .val (.ref a_WAITS_NO_MORE)] [])) _
    refine XS.aload X15.here hx rfl (hb hby d2_24) rfl rfl ?_
    show Steps p.tables e below (T15.setTop (mkF m 26 #[.val (.ref a_WAITS_NO_MORE), .val (.ref a_WAITS), .val (.ref h0.size), .val (.int (7 : Int32)), .val (.int (2 : Int32)), .val (.ref a_WAITS_NO_MORE)] [(.ref a_WAITS_NO_MORE)])) _
    refine st18 _ ?_
    show Steps p.tables e below (T18.setTop (mkF m 29 #[.val (.ref a_WAITS_NO_MORE), .val (.ref a_WAITS), .val (.ref h0.size), .val (.int (7 : Int32)), .val (.int (2 : Int32)), .val (.ref a_WAITS_NO_MORE)] [(.int (-1 : Int32))])) _
    refine XS.aloadN X18.here hx rfl (hb hby d2_29) rfl rfl ?_
    show Steps p.tables e below (T18.setTop (mkF m 30 #[.val (.ref a_WAITS_NO_MORE), .val (.ref a_WAITS), .val (.ref h0.size), .val (.int (7 : Int32)), .val (.int (2 : Int32)), .val (.ref a_WAITS_NO_MORE)] [(.ref a_WAITS_NO_MORE), (.int (-1 : Int32))])) _
    refine st19 _ ?_
    show Steps p.tables e below (T19.setTop (mkF m 33 #[.val (.ref a_WAITS_NO_MORE), .val (.ref a_WAITS), .val (.ref h0.size), .val (.int (7 : Int32)), .val (.int (2 : Int32)), .val (.ref a_WAITS_NO_MORE)] [(.int (-1 : Int32)), (.int (-1 : Int32))])) _
    refine XS.ineg X19.here hx rfl (hb hby d2_33) rfl ?_
    show Steps p.tables e below (T19.setTop (mkF m 34 #[.val (.ref a_WAITS_NO_MORE), .val (.ref a_WAITS), .val (.ref h0.size), .val (.int (7 : Int32)), .val (.int (2 : Int32)), .val (.ref a_WAITS_NO_MORE)] [(.int (-(-1 : Int32))), (.int (-1 : Int32))])) _
    refine XS.icmpYes X19.here hx rfl (pc0 := 34) (pc' := 53) rfl (hb hby d2_34) rfl (feq (by decide)).2 (by decide) (by decide) ?_
    show Steps p.tables e below (T19.setTop (mkF m 53 #[.val (.ref a_WAITS_NO_MORE), .val (.ref a_WAITS), .val (.ref h0.size), .val (.int (7 : Int32)), .val (.int (2 : Int32)), .val (.ref a_WAITS_NO_MORE)] [])) _
    refine XS.iinc X19.here hx rfl (hb hby d2_53) rfl (l' := #[.val (.ref a_WAITS_NO_MORE), .val (.ref a_WAITS), .val (.ref h0.size), .val (.int (7 : Int32)), .val (.int (3 : Int32)), .val (.ref a_WAITS_NO_MORE)]) rfl ?_
    show Steps p.tables e below (T19.setTop (mkF m 56 #[.val (.ref a_WAITS_NO_MORE), .val (.ref a_WAITS), .val (.ref h0.size), .val (.int (7 : Int32)), .val (.int (3 : Int32)), .val (.ref a_WAITS_NO_MORE)] [])) _
    refine XS.goto X19.here hx rfl (pc0 := 56) (pc' := 12) rfl (hb hby d2_56) (by decide) (by decide) ?_
    show Steps p.tables e below (T19.setTop (mkF m 12 #[.val (.ref a_WAITS_NO_MORE), .val (.ref a_WAITS), .val (.ref h0.size), .val (.int (7 : Int32)), .val (.int (3 : Int32)), .val (.ref a_WAITS_NO_MORE)] [])) _
    refine XS.iload X19.here hx rfl (hb hby d2_12) rfl ?_
    show Steps p.tables e below (T19.setTop (mkF m 14 #[.val (.ref a_WAITS_NO_MORE), .val (.ref a_WAITS), .val (.ref h0.size), .val (.int (7 : Int32)), .val (.int (3 : Int32)), .val (.ref a_WAITS_NO_MORE)] [(.int (3 : Int32))])) _
    refine XS.iloadN X19.here hx rfl (hb hby d2_14) rfl ?_
    show Steps p.tables e below (T19.setTop (mkF m 15 #[.val (.ref a_WAITS_NO_MORE), .val (.ref a_WAITS), .val (.ref h0.size), .val (.int (7 : Int32)), .val (.int (3 : Int32)), .val (.ref a_WAITS_NO_MORE)] [(.int (7 : Int32)), (.int (3 : Int32))])) _
    refine XS.icmpNo X19.here hx rfl (hb hby d2_15) rfl (tlt (by decide : (3 : Int32) < (7 : Int32))).2.1 ?_
    show Steps p.tables e below (T19.setTop (mkF m 18 #[.val (.ref a_WAITS_NO_MORE), .val (.ref a_WAITS), .val (.ref h0.size), .val (.int (7 : Int32)), .val (.int (3 : Int32)), .val (.ref a_WAITS_NO_MORE)] [])) _
    refine XS.aloadN X19.here hx rfl (hb hby d2_18) rfl rfl ?_
    show Steps p.tables e below (T19.setTop (mkF m 19 #[.val (.ref a_WAITS_NO_MORE), .val (.ref a_WAITS), .val (.ref h0.size), .val (.int (7 : Int32)), .val (.int (3 : Int32)), .val (.ref a_WAITS_NO_MORE)] [(.ref h0.size)])) _
    refine XS.iload X19.here hx rfl (hb hby d2_19) rfl ?_
    show Steps p.tables e below (T19.setTop (mkF m 21 #[.val (.ref a_WAITS_NO_MORE), .val (.ref a_WAITS), .val (.ref h0.size), .val (.int (7 : Int32)), .val (.int (3 : Int32)), .val (.ref a_WAITS_NO_MORE)] [(.int (3 : Int32)), (.ref h0.size)])) _
    refine X19.aaload hx (j := (3 : Int32)) (v := (.ref a_FALLS_DUE_AFTER_WAITING)) (by rw [e19]; exact Arv_.1) (State.isArrayOf_alike hZ.alike Arv_.2.1) rfl Arv_.2.2 (inb_of Sv ⟨by decide, by decide⟩) (Has.at Hv (inb_of Sv ⟨by decide, by decide⟩) rfl) (g := (mkF m 21 #[.val (.ref a_WAITS_NO_MORE), .val (.ref a_WAITS), .val (.ref h0.size), .val (.int (7 : Int32)), .val (.int (3 : Int32)), .val (.ref a_WAITS_NO_MORE)] [(.int (3 : Int32)), (.ref h0.size)])) rfl rfl (hb hby d2_21) _ ?_
    show Steps p.tables e below (T19.setTop (mkF m 22 #[.val (.ref a_WAITS_NO_MORE), .val (.ref a_WAITS), .val (.ref h0.size), .val (.int (7 : Int32)), .val (.int (3 : Int32)), .val (.ref a_WAITS_NO_MORE)] [(.ref a_FALLS_DUE_AFTER_WAITING)])) _
    refine XS.astore X19.here hx rfl (hb hby d2_22) rfl rfl (l' := #[.val (.ref a_WAITS_NO_MORE), .val (.ref a_WAITS), .val (.ref h0.size), .val (.int (7 : Int32)), .val (.int (3 : Int32)), .val (.ref a_FALLS_DUE_AFTER_WAITING)]) rfl ?_
    show Steps p.tables e below (T19.setTop (mkF m 24 #[.val (.ref a_WAITS_NO_MORE), .val (.ref a_WAITS), .val (.ref h0.size), .val (.int (7 : Int32)), .val (.int (3 : Int32)), .val (.ref a_FALLS_DUE_AFTER_WAITING)] [])) _
    refine XS.aload X19.here hx rfl (hb hby d2_24) rfl rfl ?_
    show Steps p.tables e below (T19.setTop (mkF m 26 #[.val (.ref a_WAITS_NO_MORE), .val (.ref a_WAITS), .val (.ref h0.size), .val (.int (7 : Int32)), .val (.int (3 : Int32)), .val (.ref a_FALLS_DUE_AFTER_WAITING)] [(.ref a_FALLS_DUE_AFTER_WAITING)])) _
    refine st22 _ ?_
    show Steps p.tables e below (T22.setTop (mkF m 29 #[.val (.ref a_WAITS_NO_MORE), .val (.ref a_WAITS), .val (.ref h0.size), .val (.int (7 : Int32)), .val (.int (3 : Int32)), .val (.ref a_FALLS_DUE_AFTER_WAITING)] [(.int (-1 : Int32))])) _
    refine XS.aloadN X22.here hx rfl (hb hby d2_29) rfl rfl ?_
    show Steps p.tables e below (T22.setTop (mkF m 30 #[.val (.ref a_WAITS_NO_MORE), .val (.ref a_WAITS), .val (.ref h0.size), .val (.int (7 : Int32)), .val (.int (3 : Int32)), .val (.ref a_FALLS_DUE_AFTER_WAITING)] [(.ref a_WAITS_NO_MORE), (.int (-1 : Int32))])) _
    refine st23 _ ?_
    show Steps p.tables e below (T23.setTop (mkF m 33 #[.val (.ref a_WAITS_NO_MORE), .val (.ref a_WAITS), .val (.ref h0.size), .val (.int (7 : Int32)), .val (.int (3 : Int32)), .val (.ref a_FALLS_DUE_AFTER_WAITING)] [(.int (-1 : Int32)), (.int (-1 : Int32))])) _
    refine XS.ineg X23.here hx rfl (hb hby d2_33) rfl ?_
    show Steps p.tables e below (T23.setTop (mkF m 34 #[.val (.ref a_WAITS_NO_MORE), .val (.ref a_WAITS), .val (.ref h0.size), .val (.int (7 : Int32)), .val (.int (3 : Int32)), .val (.ref a_FALLS_DUE_AFTER_WAITING)] [(.int (-(-1 : Int32))), (.int (-1 : Int32))])) _
    refine XS.icmpYes X23.here hx rfl (pc0 := 34) (pc' := 53) rfl (hb hby d2_34) rfl (feq (by decide)).2 (by decide) (by decide) ?_
    show Steps p.tables e below (T23.setTop (mkF m 53 #[.val (.ref a_WAITS_NO_MORE), .val (.ref a_WAITS), .val (.ref h0.size), .val (.int (7 : Int32)), .val (.int (3 : Int32)), .val (.ref a_FALLS_DUE_AFTER_WAITING)] [])) _
    refine XS.iinc X23.here hx rfl (hb hby d2_53) rfl (l' := #[.val (.ref a_WAITS_NO_MORE), .val (.ref a_WAITS), .val (.ref h0.size), .val (.int (7 : Int32)), .val (.int (4 : Int32)), .val (.ref a_FALLS_DUE_AFTER_WAITING)]) rfl ?_
    show Steps p.tables e below (T23.setTop (mkF m 56 #[.val (.ref a_WAITS_NO_MORE), .val (.ref a_WAITS), .val (.ref h0.size), .val (.int (7 : Int32)), .val (.int (4 : Int32)), .val (.ref a_FALLS_DUE_AFTER_WAITING)] [])) _
    refine XS.goto X23.here hx rfl (pc0 := 56) (pc' := 12) rfl (hb hby d2_56) (by decide) (by decide) ?_
    show Steps p.tables e below (T23.setTop (mkF m 12 #[.val (.ref a_WAITS_NO_MORE), .val (.ref a_WAITS), .val (.ref h0.size), .val (.int (7 : Int32)), .val (.int (4 : Int32)), .val (.ref a_FALLS_DUE_AFTER_WAITING)] [])) _
    refine XS.iload X23.here hx rfl (hb hby d2_12) rfl ?_
    show Steps p.tables e below (T23.setTop (mkF m 14 #[.val (.ref a_WAITS_NO_MORE), .val (.ref a_WAITS), .val (.ref h0.size), .val (.int (7 : Int32)), .val (.int (4 : Int32)), .val (.ref a_FALLS_DUE_AFTER_WAITING)] [(.int (4 : Int32))])) _
    refine XS.iloadN X23.here hx rfl (hb hby d2_14) rfl ?_
    show Steps p.tables e below (T23.setTop (mkF m 15 #[.val (.ref a_WAITS_NO_MORE), .val (.ref a_WAITS), .val (.ref h0.size), .val (.int (7 : Int32)), .val (.int (4 : Int32)), .val (.ref a_FALLS_DUE_AFTER_WAITING)] [(.int (7 : Int32)), (.int (4 : Int32))])) _
    refine XS.icmpNo X23.here hx rfl (hb hby d2_15) rfl (tlt (by decide : (4 : Int32) < (7 : Int32))).2.1 ?_
    show Steps p.tables e below (T23.setTop (mkF m 18 #[.val (.ref a_WAITS_NO_MORE), .val (.ref a_WAITS), .val (.ref h0.size), .val (.int (7 : Int32)), .val (.int (4 : Int32)), .val (.ref a_FALLS_DUE_AFTER_WAITING)] [])) _
    refine XS.aloadN X23.here hx rfl (hb hby d2_18) rfl rfl ?_
    show Steps p.tables e below (T23.setTop (mkF m 19 #[.val (.ref a_WAITS_NO_MORE), .val (.ref a_WAITS), .val (.ref h0.size), .val (.int (7 : Int32)), .val (.int (4 : Int32)), .val (.ref a_FALLS_DUE_AFTER_WAITING)] [(.ref h0.size)])) _
    refine XS.iload X23.here hx rfl (hb hby d2_19) rfl ?_
    show Steps p.tables e below (T23.setTop (mkF m 21 #[.val (.ref a_WAITS_NO_MORE), .val (.ref a_WAITS), .val (.ref h0.size), .val (.int (7 : Int32)), .val (.int (4 : Int32)), .val (.ref a_FALLS_DUE_AFTER_WAITING)] [(.int (4 : Int32)), (.ref h0.size)])) _
    refine X23.aaload hx (j := (4 : Int32)) (v := (.ref a_WAITS_AGAIN)) (by rw [e23]; exact Arv_.1) (State.isArrayOf_alike hZ.alike Arv_.2.1) rfl Arv_.2.2 (inb_of Sv ⟨by decide, by decide⟩) (Has.at Hv (inb_of Sv ⟨by decide, by decide⟩) rfl) (g := (mkF m 21 #[.val (.ref a_WAITS_NO_MORE), .val (.ref a_WAITS), .val (.ref h0.size), .val (.int (7 : Int32)), .val (.int (4 : Int32)), .val (.ref a_FALLS_DUE_AFTER_WAITING)] [(.int (4 : Int32)), (.ref h0.size)])) rfl rfl (hb hby d2_21) _ ?_
    show Steps p.tables e below (T23.setTop (mkF m 22 #[.val (.ref a_WAITS_NO_MORE), .val (.ref a_WAITS), .val (.ref h0.size), .val (.int (7 : Int32)), .val (.int (4 : Int32)), .val (.ref a_FALLS_DUE_AFTER_WAITING)] [(.ref a_WAITS_AGAIN)])) _
    refine XS.astore X23.here hx rfl (hb hby d2_22) rfl rfl (l' := #[.val (.ref a_WAITS_NO_MORE), .val (.ref a_WAITS), .val (.ref h0.size), .val (.int (7 : Int32)), .val (.int (4 : Int32)), .val (.ref a_WAITS_AGAIN)]) rfl ?_
    show Steps p.tables e below (T23.setTop (mkF m 24 #[.val (.ref a_WAITS_NO_MORE), .val (.ref a_WAITS), .val (.ref h0.size), .val (.int (7 : Int32)), .val (.int (4 : Int32)), .val (.ref a_WAITS_AGAIN)] [])) _
    refine XS.aload X23.here hx rfl (hb hby d2_24) rfl rfl ?_
    show Steps p.tables e below (T23.setTop (mkF m 26 #[.val (.ref a_WAITS_NO_MORE), .val (.ref a_WAITS), .val (.ref h0.size), .val (.int (7 : Int32)), .val (.int (4 : Int32)), .val (.ref a_WAITS_AGAIN)] [(.ref a_WAITS_AGAIN)])) _
    refine st26 _ ?_
    show Steps p.tables e below (T26.setTop (mkF m 29 #[.val (.ref a_WAITS_NO_MORE), .val (.ref a_WAITS), .val (.ref h0.size), .val (.int (7 : Int32)), .val (.int (4 : Int32)), .val (.ref a_WAITS_AGAIN)] [(.int (1 : Int32))])) _
    refine XS.aloadN X26.here hx rfl (hb hby d2_29) rfl rfl ?_
    show Steps p.tables e below (T26.setTop (mkF m 30 #[.val (.ref a_WAITS_NO_MORE), .val (.ref a_WAITS), .val (.ref h0.size), .val (.int (7 : Int32)), .val (.int (4 : Int32)), .val (.ref a_WAITS_AGAIN)] [(.ref a_WAITS_NO_MORE), (.int (1 : Int32))])) _
    refine st27 _ ?_
    show Steps p.tables e below (T27.setTop (mkF m 33 #[.val (.ref a_WAITS_NO_MORE), .val (.ref a_WAITS), .val (.ref h0.size), .val (.int (7 : Int32)), .val (.int (4 : Int32)), .val (.ref a_WAITS_AGAIN)] [(.int (-1 : Int32)), (.int (1 : Int32))])) _
    refine XS.ineg X27.here hx rfl (hb hby d2_33) rfl ?_
    show Steps p.tables e below (T27.setTop (mkF m 34 #[.val (.ref a_WAITS_NO_MORE), .val (.ref a_WAITS), .val (.ref h0.size), .val (.int (7 : Int32)), .val (.int (4 : Int32)), .val (.ref a_WAITS_AGAIN)] [(.int (-(-1 : Int32))), (.int (1 : Int32))])) _
    refine XS.icmpNo X27.here hx rfl (hb hby d2_34) rfl (teq (by decide)).2 ?_
    show Steps p.tables e below (T27.setTop (mkF m 37 #[.val (.ref a_WAITS_NO_MORE), .val (.ref a_WAITS), .val (.ref h0.size), .val (.int (7 : Int32)), .val (.int (4 : Int32)), .val (.ref a_WAITS_AGAIN)] [])) _
    refine XS.aload X27.here hx rfl (hb hby d2_37) rfl rfl ?_
    show Steps p.tables e below (T27.setTop (mkF m 39 #[.val (.ref a_WAITS_NO_MORE), .val (.ref a_WAITS), .val (.ref h0.size), .val (.int (7 : Int32)), .val (.int (4 : Int32)), .val (.ref a_WAITS_AGAIN)] [(.ref a_WAITS_AGAIN)])) _
    refine st29 _ ?_
    show Steps p.tables e below (T29.setTop (mkF m 42 #[.val (.ref a_WAITS_NO_MORE), .val (.ref a_WAITS), .val (.ref h0.size), .val (.int (7 : Int32)), .val (.int (4 : Int32)), .val (.ref a_WAITS_AGAIN)] [(.int (-1 : Int32))])) _
    refine XS.aloadN X29.here hx rfl (hb hby d2_42) rfl rfl ?_
    show Steps p.tables e below (T29.setTop (mkF m 43 #[.val (.ref a_WAITS_NO_MORE), .val (.ref a_WAITS), .val (.ref h0.size), .val (.int (7 : Int32)), .val (.int (4 : Int32)), .val (.ref a_WAITS_AGAIN)] [(.ref a_WAITS_NO_MORE), (.int (-1 : Int32))])) _
    refine st30 _ ?_
    show Steps p.tables e below (T30.setTop (mkF m 46 #[.val (.ref a_WAITS_NO_MORE), .val (.ref a_WAITS), .val (.ref h0.size), .val (.int (7 : Int32)), .val (.int (4 : Int32)), .val (.ref a_WAITS_AGAIN)] [(.int (0 : Int32)), (.int (-1 : Int32))])) _
    refine XS.ineg X30.here hx rfl (hb hby d2_46) rfl ?_
    show Steps p.tables e below (T30.setTop (mkF m 47 #[.val (.ref a_WAITS_NO_MORE), .val (.ref a_WAITS), .val (.ref h0.size), .val (.int (7 : Int32)), .val (.int (4 : Int32)), .val (.ref a_WAITS_AGAIN)] [(.int (-(0 : Int32))), (.int (-1 : Int32))])) _
    refine XS.icmpYes X30.here hx rfl (pc0 := 47) (pc' := 53) rfl (hb hby d2_47) rfl (feq (by decide)).2 (by decide) (by decide) ?_
    show Steps p.tables e below (T30.setTop (mkF m 53 #[.val (.ref a_WAITS_NO_MORE), .val (.ref a_WAITS), .val (.ref h0.size), .val (.int (7 : Int32)), .val (.int (4 : Int32)), .val (.ref a_WAITS_AGAIN)] [])) _
    refine XS.iinc X30.here hx rfl (hb hby d2_53) rfl (l' := #[.val (.ref a_WAITS_NO_MORE), .val (.ref a_WAITS), .val (.ref h0.size), .val (.int (7 : Int32)), .val (.int (5 : Int32)), .val (.ref a_WAITS_AGAIN)]) rfl ?_
    show Steps p.tables e below (T30.setTop (mkF m 56 #[.val (.ref a_WAITS_NO_MORE), .val (.ref a_WAITS), .val (.ref h0.size), .val (.int (7 : Int32)), .val (.int (5 : Int32)), .val (.ref a_WAITS_AGAIN)] [])) _
    refine XS.goto X30.here hx rfl (pc0 := 56) (pc' := 12) rfl (hb hby d2_56) (by decide) (by decide) ?_
    show Steps p.tables e below (T30.setTop (mkF m 12 #[.val (.ref a_WAITS_NO_MORE), .val (.ref a_WAITS), .val (.ref h0.size), .val (.int (7 : Int32)), .val (.int (5 : Int32)), .val (.ref a_WAITS_AGAIN)] [])) _
    refine XS.iload X30.here hx rfl (hb hby d2_12) rfl ?_
    show Steps p.tables e below (T30.setTop (mkF m 14 #[.val (.ref a_WAITS_NO_MORE), .val (.ref a_WAITS), .val (.ref h0.size), .val (.int (7 : Int32)), .val (.int (5 : Int32)), .val (.ref a_WAITS_AGAIN)] [(.int (5 : Int32))])) _
    refine XS.iloadN X30.here hx rfl (hb hby d2_14) rfl ?_
    show Steps p.tables e below (T30.setTop (mkF m 15 #[.val (.ref a_WAITS_NO_MORE), .val (.ref a_WAITS), .val (.ref h0.size), .val (.int (7 : Int32)), .val (.int (5 : Int32)), .val (.ref a_WAITS_AGAIN)] [(.int (7 : Int32)), (.int (5 : Int32))])) _
    refine XS.icmpNo X30.here hx rfl (hb hby d2_15) rfl (tlt (by decide : (5 : Int32) < (7 : Int32))).2.1 ?_
    show Steps p.tables e below (T30.setTop (mkF m 18 #[.val (.ref a_WAITS_NO_MORE), .val (.ref a_WAITS), .val (.ref h0.size), .val (.int (7 : Int32)), .val (.int (5 : Int32)), .val (.ref a_WAITS_AGAIN)] [])) _
    refine XS.aloadN X30.here hx rfl (hb hby d2_18) rfl rfl ?_
    show Steps p.tables e below (T30.setTop (mkF m 19 #[.val (.ref a_WAITS_NO_MORE), .val (.ref a_WAITS), .val (.ref h0.size), .val (.int (7 : Int32)), .val (.int (5 : Int32)), .val (.ref a_WAITS_AGAIN)] [(.ref h0.size)])) _
    refine XS.iload X30.here hx rfl (hb hby d2_19) rfl ?_
    show Steps p.tables e below (T30.setTop (mkF m 21 #[.val (.ref a_WAITS_NO_MORE), .val (.ref a_WAITS), .val (.ref h0.size), .val (.int (7 : Int32)), .val (.int (5 : Int32)), .val (.ref a_WAITS_AGAIN)] [(.int (5 : Int32)), (.ref h0.size)])) _
    refine X30.aaload hx (j := (5 : Int32)) (v := (.ref a_FALLS_DUE)) (by rw [e30]; exact Arv_.1) (State.isArrayOf_alike hZ.alike Arv_.2.1) rfl Arv_.2.2 (inb_of Sv ⟨by decide, by decide⟩) (Has.at Hv (inb_of Sv ⟨by decide, by decide⟩) rfl) (g := (mkF m 21 #[.val (.ref a_WAITS_NO_MORE), .val (.ref a_WAITS), .val (.ref h0.size), .val (.int (7 : Int32)), .val (.int (5 : Int32)), .val (.ref a_WAITS_AGAIN)] [(.int (5 : Int32)), (.ref h0.size)])) rfl rfl (hb hby d2_21) _ ?_
    show Steps p.tables e below (T30.setTop (mkF m 22 #[.val (.ref a_WAITS_NO_MORE), .val (.ref a_WAITS), .val (.ref h0.size), .val (.int (7 : Int32)), .val (.int (5 : Int32)), .val (.ref a_WAITS_AGAIN)] [(.ref a_FALLS_DUE)])) _
    refine XS.astore X30.here hx rfl (hb hby d2_22) rfl rfl (l' := #[.val (.ref a_WAITS_NO_MORE), .val (.ref a_WAITS), .val (.ref h0.size), .val (.int (7 : Int32)), .val (.int (5 : Int32)), .val (.ref a_FALLS_DUE)]) rfl ?_
    show Steps p.tables e below (T30.setTop (mkF m 24 #[.val (.ref a_WAITS_NO_MORE), .val (.ref a_WAITS), .val (.ref h0.size), .val (.int (7 : Int32)), .val (.int (5 : Int32)), .val (.ref a_FALLS_DUE)] [])) _
    refine XS.aload X30.here hx rfl (hb hby d2_24) rfl rfl ?_
    show Steps p.tables e below (T30.setTop (mkF m 26 #[.val (.ref a_WAITS_NO_MORE), .val (.ref a_WAITS), .val (.ref h0.size), .val (.int (7 : Int32)), .val (.int (5 : Int32)), .val (.ref a_FALLS_DUE)] [(.ref a_FALLS_DUE)])) _
    refine st33 _ ?_
    show Steps p.tables e below (T33.setTop (mkF m 29 #[.val (.ref a_WAITS_NO_MORE), .val (.ref a_WAITS), .val (.ref h0.size), .val (.int (7 : Int32)), .val (.int (5 : Int32)), .val (.ref a_FALLS_DUE)] [(.int (0 : Int32))])) _
    refine XS.aloadN X33.here hx rfl (hb hby d2_29) rfl rfl ?_
    show Steps p.tables e below (T33.setTop (mkF m 30 #[.val (.ref a_WAITS_NO_MORE), .val (.ref a_WAITS), .val (.ref h0.size), .val (.int (7 : Int32)), .val (.int (5 : Int32)), .val (.ref a_FALLS_DUE)] [(.ref a_WAITS_NO_MORE), (.int (0 : Int32))])) _
    refine st34 _ ?_
    show Steps p.tables e below (T34.setTop (mkF m 33 #[.val (.ref a_WAITS_NO_MORE), .val (.ref a_WAITS), .val (.ref h0.size), .val (.int (7 : Int32)), .val (.int (5 : Int32)), .val (.ref a_FALLS_DUE)] [(.int (-1 : Int32)), (.int (0 : Int32))])) _
    refine XS.ineg X34.here hx rfl (hb hby d2_33) rfl ?_
    show Steps p.tables e below (T34.setTop (mkF m 34 #[.val (.ref a_WAITS_NO_MORE), .val (.ref a_WAITS), .val (.ref h0.size), .val (.int (7 : Int32)), .val (.int (5 : Int32)), .val (.ref a_FALLS_DUE)] [(.int (-(-1 : Int32))), (.int (0 : Int32))])) _
    refine XS.icmpYes X34.here hx rfl (pc0 := 34) (pc' := 53) rfl (hb hby d2_34) rfl (feq (by decide)).2 (by decide) (by decide) ?_
    show Steps p.tables e below (T34.setTop (mkF m 53 #[.val (.ref a_WAITS_NO_MORE), .val (.ref a_WAITS), .val (.ref h0.size), .val (.int (7 : Int32)), .val (.int (5 : Int32)), .val (.ref a_FALLS_DUE)] [])) _
    refine XS.iinc X34.here hx rfl (hb hby d2_53) rfl (l' := #[.val (.ref a_WAITS_NO_MORE), .val (.ref a_WAITS), .val (.ref h0.size), .val (.int (7 : Int32)), .val (.int (6 : Int32)), .val (.ref a_FALLS_DUE)]) rfl ?_
    show Steps p.tables e below (T34.setTop (mkF m 56 #[.val (.ref a_WAITS_NO_MORE), .val (.ref a_WAITS), .val (.ref h0.size), .val (.int (7 : Int32)), .val (.int (6 : Int32)), .val (.ref a_FALLS_DUE)] [])) _
    refine XS.goto X34.here hx rfl (pc0 := 56) (pc' := 12) rfl (hb hby d2_56) (by decide) (by decide) ?_
    show Steps p.tables e below (T34.setTop (mkF m 12 #[.val (.ref a_WAITS_NO_MORE), .val (.ref a_WAITS), .val (.ref h0.size), .val (.int (7 : Int32)), .val (.int (6 : Int32)), .val (.ref a_FALLS_DUE)] [])) _
    refine XS.iload X34.here hx rfl (hb hby d2_12) rfl ?_
    show Steps p.tables e below (T34.setTop (mkF m 14 #[.val (.ref a_WAITS_NO_MORE), .val (.ref a_WAITS), .val (.ref h0.size), .val (.int (7 : Int32)), .val (.int (6 : Int32)), .val (.ref a_FALLS_DUE)] [(.int (6 : Int32))])) _
    refine XS.iloadN X34.here hx rfl (hb hby d2_14) rfl ?_
    show Steps p.tables e below (T34.setTop (mkF m 15 #[.val (.ref a_WAITS_NO_MORE), .val (.ref a_WAITS), .val (.ref h0.size), .val (.int (7 : Int32)), .val (.int (6 : Int32)), .val (.ref a_FALLS_DUE)] [(.int (7 : Int32)), (.int (6 : Int32))])) _
    refine XS.icmpNo X34.here hx rfl (hb hby d2_15) rfl (tlt (by decide : (6 : Int32) < (7 : Int32))).2.1 ?_
    show Steps p.tables e below (T34.setTop (mkF m 18 #[.val (.ref a_WAITS_NO_MORE), .val (.ref a_WAITS), .val (.ref h0.size), .val (.int (7 : Int32)), .val (.int (6 : Int32)), .val (.ref a_FALLS_DUE)] [])) _
    refine XS.aloadN X34.here hx rfl (hb hby d2_18) rfl rfl ?_
    show Steps p.tables e below (T34.setTop (mkF m 19 #[.val (.ref a_WAITS_NO_MORE), .val (.ref a_WAITS), .val (.ref h0.size), .val (.int (7 : Int32)), .val (.int (6 : Int32)), .val (.ref a_FALLS_DUE)] [(.ref h0.size)])) _
    refine XS.iload X34.here hx rfl (hb hby d2_19) rfl ?_
    show Steps p.tables e below (T34.setTop (mkF m 21 #[.val (.ref a_WAITS_NO_MORE), .val (.ref a_WAITS), .val (.ref h0.size), .val (.int (7 : Int32)), .val (.int (6 : Int32)), .val (.ref a_FALLS_DUE)] [(.int (6 : Int32)), (.ref h0.size)])) _
    refine X34.aaload hx (j := (6 : Int32)) (v := (.ref a_TAKEN_BACK)) (by rw [e34]; exact Arv_.1) (State.isArrayOf_alike hZ.alike Arv_.2.1) rfl Arv_.2.2 (inb_of Sv ⟨by decide, by decide⟩) (Has.at Hv (inb_of Sv ⟨by decide, by decide⟩) rfl) (g := (mkF m 21 #[.val (.ref a_WAITS_NO_MORE), .val (.ref a_WAITS), .val (.ref h0.size), .val (.int (7 : Int32)), .val (.int (6 : Int32)), .val (.ref a_FALLS_DUE)] [(.int (6 : Int32)), (.ref h0.size)])) rfl rfl (hb hby d2_21) _ ?_
    show Steps p.tables e below (T34.setTop (mkF m 22 #[.val (.ref a_WAITS_NO_MORE), .val (.ref a_WAITS), .val (.ref h0.size), .val (.int (7 : Int32)), .val (.int (6 : Int32)), .val (.ref a_FALLS_DUE)] [(.ref a_TAKEN_BACK)])) _
    refine XS.astore X34.here hx rfl (hb hby d2_22) rfl rfl (l' := #[.val (.ref a_WAITS_NO_MORE), .val (.ref a_WAITS), .val (.ref h0.size), .val (.int (7 : Int32)), .val (.int (6 : Int32)), .val (.ref a_TAKEN_BACK)]) rfl ?_
    show Steps p.tables e below (T34.setTop (mkF m 24 #[.val (.ref a_WAITS_NO_MORE), .val (.ref a_WAITS), .val (.ref h0.size), .val (.int (7 : Int32)), .val (.int (6 : Int32)), .val (.ref a_TAKEN_BACK)] [])) _
    refine XS.aload X34.here hx rfl (hb hby d2_24) rfl rfl ?_
    show Steps p.tables e below (T34.setTop (mkF m 26 #[.val (.ref a_WAITS_NO_MORE), .val (.ref a_WAITS), .val (.ref h0.size), .val (.int (7 : Int32)), .val (.int (6 : Int32)), .val (.ref a_TAKEN_BACK)] [(.ref a_TAKEN_BACK)])) _
    refine st37 _ ?_
    show Steps p.tables e below (T37.setTop (mkF m 29 #[.val (.ref a_WAITS_NO_MORE), .val (.ref a_WAITS), .val (.ref h0.size), .val (.int (7 : Int32)), .val (.int (6 : Int32)), .val (.ref a_TAKEN_BACK)] [(.int (0 : Int32))])) _
    refine XS.aloadN X37.here hx rfl (hb hby d2_29) rfl rfl ?_
    show Steps p.tables e below (T37.setTop (mkF m 30 #[.val (.ref a_WAITS_NO_MORE), .val (.ref a_WAITS), .val (.ref h0.size), .val (.int (7 : Int32)), .val (.int (6 : Int32)), .val (.ref a_TAKEN_BACK)] [(.ref a_WAITS_NO_MORE), (.int (0 : Int32))])) _
    refine st38 _ ?_
    show Steps p.tables e below (T38.setTop (mkF m 33 #[.val (.ref a_WAITS_NO_MORE), .val (.ref a_WAITS), .val (.ref h0.size), .val (.int (7 : Int32)), .val (.int (6 : Int32)), .val (.ref a_TAKEN_BACK)] [(.int (-1 : Int32)), (.int (0 : Int32))])) _
    refine XS.ineg X38.here hx rfl (hb hby d2_33) rfl ?_
    show Steps p.tables e below (T38.setTop (mkF m 34 #[.val (.ref a_WAITS_NO_MORE), .val (.ref a_WAITS), .val (.ref h0.size), .val (.int (7 : Int32)), .val (.int (6 : Int32)), .val (.ref a_TAKEN_BACK)] [(.int (-(-1 : Int32))), (.int (0 : Int32))])) _
    refine XS.icmpYes X38.here hx rfl (pc0 := 34) (pc' := 53) rfl (hb hby d2_34) rfl (feq (by decide)).2 (by decide) (by decide) ?_
    show Steps p.tables e below (T38.setTop (mkF m 53 #[.val (.ref a_WAITS_NO_MORE), .val (.ref a_WAITS), .val (.ref h0.size), .val (.int (7 : Int32)), .val (.int (6 : Int32)), .val (.ref a_TAKEN_BACK)] [])) _
    refine XS.iinc X38.here hx rfl (hb hby d2_53) rfl (l' := #[.val (.ref a_WAITS_NO_MORE), .val (.ref a_WAITS), .val (.ref h0.size), .val (.int (7 : Int32)), .val (.int (7 : Int32)), .val (.ref a_TAKEN_BACK)]) rfl ?_
    show Steps p.tables e below (T38.setTop (mkF m 56 #[.val (.ref a_WAITS_NO_MORE), .val (.ref a_WAITS), .val (.ref h0.size), .val (.int (7 : Int32)), .val (.int (7 : Int32)), .val (.ref a_TAKEN_BACK)] [])) _
    refine XS.goto X38.here hx rfl (pc0 := 56) (pc' := 12) rfl (hb hby d2_56) (by decide) (by decide) ?_
    show Steps p.tables e below (T38.setTop (mkF m 12 #[.val (.ref a_WAITS_NO_MORE), .val (.ref a_WAITS), .val (.ref h0.size), .val (.int (7 : Int32)), .val (.int (7 : Int32)), .val (.ref a_TAKEN_BACK)] [])) _
    refine XS.iload X38.here hx rfl (hb hby d2_12) rfl ?_
    show Steps p.tables e below (T38.setTop (mkF m 14 #[.val (.ref a_WAITS_NO_MORE), .val (.ref a_WAITS), .val (.ref h0.size), .val (.int (7 : Int32)), .val (.int (7 : Int32)), .val (.ref a_TAKEN_BACK)] [(.int (7 : Int32))])) _
    refine XS.iloadN X38.here hx rfl (hb hby d2_14) rfl ?_
    show Steps p.tables e below (T38.setTop (mkF m 15 #[.val (.ref a_WAITS_NO_MORE), .val (.ref a_WAITS), .val (.ref h0.size), .val (.int (7 : Int32)), .val (.int (7 : Int32)), .val (.ref a_TAKEN_BACK)] [(.int (7 : Int32)), (.int (7 : Int32))])) _
    refine XS.icmpYes X38.here hx rfl (pc0 := 15) (pc' := 59) rfl (hb hby d2_15) rfl (flt (by decide : ¬ ((7 : Int32) < (7 : Int32)))).2.1 (by decide) (by decide) ?_
    show Steps p.tables e below (T38.setTop (mkF m 59 #[.val (.ref a_WAITS_NO_MORE), .val (.ref a_WAITS), .val (.ref h0.size), .val (.int (7 : Int32)), .val (.int (7 : Int32)), .val (.ref a_TAKEN_BACK)] [])) _
    refine XS.aloadN X38.here hx rfl (hb hby d2_59) rfl rfl ?_
    show Steps p.tables e below (T38.setTop (mkF m 60 #[.val (.ref a_WAITS_NO_MORE), .val (.ref a_WAITS), .val (.ref h0.size), .val (.int (7 : Int32)), .val (.int (7 : Int32)), .val (.ref a_TAKEN_BACK)] [(.ref a_WAITS)])) _
    jvm_step X38.here [X38.here.top, hx, (hb hby d2_60), X38.method', Bd.returns, Value.isRef, FieldType.isReference]
    first | (intro acts; rw [hr _ acts rfl rfl rfl]) | rw [hr _ _ rfl rfl rfl]
    exact Steps.refl _
  · show Q2_r2 Z a_NONE a_WAITS a_WAITS_NO_MORE a_FALLS_DUE_AFTER_WAITING a_WAITS_AGAIN a_FALLS_DUE a_TAKEN_BACK a_VALUES kV h0 n0 _ T38.heap _
    rw [e38]
    exact ⟨rfl, N2, Ex2⟩
def Q2_r3 (Z : State) (a_NONE a_WAITS a_WAITS_NO_MORE a_FALLS_DUE_AFTER_WAITING a_WAITS_AGAIN a_FALLS_DUE a_TAKEN_BACK a_VALUES : Addr) (kV : ClassId) (h0 : Heap) (n0 : Nat) (v : Option Value) (h : Heap) (L : List Loc) : Prop := v = some (.ref a_WAITS_AGAIN) ∧ Fr n0 L ∧ Ext h0 h
set_option maxRecDepth 65536 in
set_option maxHeartbeats 40000000 in
theorem rm2_r3 (l : Launch) (Z : State) (a0 : Array Value) (hw : ∀ d ∈ tables_1, d.before a0 Z = true) (ws : List Jvm.Cond)  (a_NONE a_WAITS a_WAITS_NO_MORE a_FALLS_DUE_AFTER_WAITING a_WAITS_AGAIN a_FALLS_DUE a_TAKEN_BACK a_VALUES : Addr) (kV : ClassId) (h0 : Heap) (n0 : Nat) (Z0 : n0 ≤ h0.size) (WW : Own Z h0 a_NONE a_WAITS a_WAITS_NO_MORE a_FALLS_DUE_AFTER_WAITING a_WAITS_AGAIN a_FALLS_DUE a_TAKEN_BACK a_VALUES kV)  :
    MetFree l (⟨"com/example/acompte/acompte/DocumentKind$Vat", "opposite", "()Lcom/example/acompte/acompte/DocumentKind$Vat;"⟩ : MethodName) (head1 (Jvm.Cond.code (⟨"com/example/acompte/acompte/DocumentKind$Vat", "opposite", "()Lcom/example/acompte/acompte/DocumentKind$Vat;"⟩ : MethodName) prog_12_method_6_code 6 (some (.object "com/example/acompte/acompte/DocumentKind$Vat")) :: ws) ({ frames := 2, cells := 1, slots := 7, locals := 25 } : Room)) (fun a U => a = #[(.ref a_FALLS_DUE_AFTER_WAITING)] ∧ Z.Warmed39 U.vm ∧ U.heap = h0) (fun _ _ _ _ _ => True) (fun _ U o U' => ∃ v L, o = .returned v ∧ Q2_r3 Z a_NONE a_WAITS a_WAITS_NO_MORE a_FALLS_DUE_AFTER_WAITING a_WAITS_AGAIN a_FALLS_DUE a_TAKEN_BACK a_VALUES kV h0 n0 v U'.heap L ∧ FrameEnd U o U' L ({ frames := 2, cells := 1, slots := 7, locals := 25 } : Room).cells ({ frames := 2, cells := 1, slots := 7, locals := 25 } : Room).slots) := by
  refine MetFree.of_bodySF (plainFor_of_name pn_2) hisR ?_
  intro p e s m args below meth c s₁ Bd hml0 hP hK
  have WW0 := WW
  obtain ⟨S_NONE, S_WAITS, S_WAITS_NO_MORE, S_FALLS_DUE_AFTER_WAITING, S_WAITS_AGAIN, S_FALLS_DUE, S_TAKEN_BACK, S_VALUES, E_NONE, E_WAITS, E_WAITS_NO_MORE, E_FALLS_DUE_AFTER_WAITING, E_WAITS_AGAIN, E_FALLS_DUE, E_TAKEN_BACK, E_VALUES, Fw_NONE, Fw_WAITS, Fw_WAITS_NO_MORE, Fw_FALLS_DUE_AFTER_WAITING, Fw_WAITS_AGAIN, Fw_FALLS_DUE, Fw_TAKEN_BACK, Fd_NONE, Fd_WAITS, Fd_WAITS_NO_MORE, Fd_FALLS_DUE_AFTER_WAITING, Fd_WAITS_AGAIN, Fd_FALLS_DUE, Fd_TAKEN_BACK, V_VALUES⟩ := WW0
  obtain ⟨rfl, hZ, hh⟩ := hP
  have hx := Bd.exec
  have hby := Bd.bytes
  have hml : c.maxLocals = 6 := hml0
  have hown : s.vm.findClass "com/example/acompte/acompte/DocumentKind$Vat" = some m.cls := findClass_of_methodNamed Bd.named
  have hnm := (name_of_methodNamed Bd.named Bd.method).1
  have X0 : Stand p l e ({ frames := 2, cells := 1, slots := 7, locals := 25 } : Room) s m #[(.ref a_FALLS_DUE_AFTER_WAITING)] below meth c s₁ [] 0 0 := Stand.of_body Bd
  have e0 : s₁.heap = h0 := by rw [← hh, Bd.state]; rfl
  have N0 := Fr.nil n0
  have pre0 : ∀ t, Steps p.tables e below (s₁.setTop (mkF m 0 #[.val (.ref a_FALLS_DUE_AFTER_WAITING), .unset, .unset, .unset, .unset, .unset] [])) t → Steps p.tables e below (s₁.setTop (entryFrame m #[(.ref a_FALLS_DUE_AFTER_WAITING)] 6)) t := fun t k => castTop (ef_2 m a_FALLS_DUE_AFTER_WAITING) k
  -- 3. LAWS
  -- pc 2: com/example/acompte/acompte/DocumentKind$Vat.values by its contract rm3
  obtain ⟨_, _, ⟨T2, L2, k2, n2⟩, -, X2, ⟨Lc2, hQ2, l2, y2, z2⟩, st2⟩ := Jvm.LawKit.callS X0 hx (y := (⟨"com/example/acompte/acompte/DocumentKind$Vat", "values", "()[Lcom/example/acompte/acompte/DocumentKind$Vat;"⟩ : MethodName)) hown (mvT hZ (hw _ (List.mem_of_getElem? (i := 13) rfl))) (mvT hZ (hw _ (List.mem_of_getElem? (i := 14) rfl))) (mvT hZ (hw _ (List.mem_of_getElem? (i := 6) rfl))) (mvT hZ (hw _ (List.mem_of_getElem? (i := 15) rfl))) (by decide) (backOf (W := 0) (rm3_v l Z a0 hw []  a_NONE a_WAITS a_WAITS_NO_MORE a_FALLS_DUE_AFTER_WAITING a_WAITS_AGAIN a_FALLS_DUE a_TAKEN_BACK a_VALUES kV h0 n0 Z0 WW) hZ (hw _ (List.mem_of_getElem? (i := 15) rfl)) (hw _ (List.mem_of_getElem? (i := 6) rfl)) (by decide) (by decide)) (g := (mkF m 2 #[.val (.ref a_FALLS_DUE_AFTER_WAITING), .val .null, .unset, .unset, .unset, .unset] [])) rfl (by rw [hml]; rfl) (argsL := []) (rest := []) (lenOf pdw_1 rfl) rfl (by show 2 * 0 + _ ≤ _; exact Nat.le_of_eq rfl) (hb hby d2_2) (fun _ _ => ⟨rfl, e0, (by decide : 0 + 1 ≤ _), (by decide : 0 + 7 ≤ _)⟩)
  dsimp only [Pt.U, Pt.locs, Pt.cells, Pt.slots] at X2 l2 y2 z2 st2 hQ2
  subst l2 y2 z2
  obtain ⟨rfl, N2q, Ex2, V2⟩ := hQ2
  have WW2 := WW.ext Ex2
  obtain ⟨S_NONE, S_WAITS, S_WAITS_NO_MORE, S_FALLS_DUE_AFTER_WAITING, S_WAITS_AGAIN, S_FALLS_DUE, S_TAKEN_BACK, S_VALUES, E_NONE, E_WAITS, E_WAITS_NO_MORE, E_FALLS_DUE_AFTER_WAITING, E_WAITS_AGAIN, E_FALLS_DUE, E_TAKEN_BACK, E_VALUES, Fw_NONE, Fw_WAITS, Fw_WAITS_NO_MORE, Fw_FALLS_DUE_AFTER_WAITING, Fw_WAITS_AGAIN, Fw_FALLS_DUE, Fw_TAKEN_BACK, Fd_NONE, Fd_WAITS, Fd_WAITS_NO_MORE, Fd_FALLS_DUE_AFTER_WAITING, Fd_WAITS_AGAIN, Fd_FALLS_DUE, Fd_TAKEN_BACK, V_VALUES⟩ := WW2
  obtain ⟨clv, Arv_, qv, Sv, Nv, Hv, Gv⟩ := V2
  have N2 := Fr.app N0 N2q
  obtain ⟨T5, X5, e5, st5⟩ := getF X2 hx hZ hown (host := "") (Or.inl (hw _ (List.mem_of_getElem? (i := 34) rfl))) Via.refl rfl (Fw_NONE) (g := (mkF m 26 #[.val (.ref a_FALLS_DUE_AFTER_WAITING), .val .null, .val (.ref h0.size), .val (.int (7 : Int32)), .val (.int (0 : Int32)), .val (.ref a_NONE)] [(.ref a_NONE)])) rfl rfl (hb hby d2_26)
  obtain ⟨T7, X7, e7, st7⟩ := getF X5 hx hZ hown (host := "") (Or.inl (hw _ (List.mem_of_getElem? (i := 34) rfl))) Via.refl e5 (Fw_FALLS_DUE_AFTER_WAITING) (g := (mkF m 30 #[.val (.ref a_FALLS_DUE_AFTER_WAITING), .val .null, .val (.ref h0.size), .val (.int (7 : Int32)), .val (.int (0 : Int32)), .val (.ref a_NONE)] [(.ref a_FALLS_DUE_AFTER_WAITING), (.int (0 : Int32))])) rfl rfl (hb hby d2_30)
  obtain ⟨T10, X10, e10, st10⟩ := getF X7 hx hZ hown (host := "") (Or.inl (hw _ (List.mem_of_getElem? (i := 34) rfl))) Via.refl e7 (Fw_WAITS) (g := (mkF m 26 #[.val (.ref a_FALLS_DUE_AFTER_WAITING), .val .null, .val (.ref h0.size), .val (.int (7 : Int32)), .val (.int (1 : Int32)), .val (.ref a_WAITS)] [(.ref a_WAITS)])) rfl rfl (hb hby d2_26)
  obtain ⟨T11, X11, e11, st11⟩ := getF X10 hx hZ hown (host := "") (Or.inl (hw _ (List.mem_of_getElem? (i := 34) rfl))) Via.refl e10 (Fw_FALLS_DUE_AFTER_WAITING) (g := (mkF m 30 #[.val (.ref a_FALLS_DUE_AFTER_WAITING), .val .null, .val (.ref h0.size), .val (.int (7 : Int32)), .val (.int (1 : Int32)), .val (.ref a_WAITS)] [(.ref a_FALLS_DUE_AFTER_WAITING), (.int (1 : Int32))])) rfl rfl (hb hby d2_30)
  obtain ⟨T13, X13, e13, st13⟩ := getF X11 hx hZ hown (host := "") (Or.inl (hw _ (List.mem_of_getElem? (i := 36) rfl))) Via.refl e11 (Fd_WAITS) (g := (mkF m 39 #[.val (.ref a_FALLS_DUE_AFTER_WAITING), .val .null, .val (.ref h0.size), .val (.int (7 : Int32)), .val (.int (1 : Int32)), .val (.ref a_WAITS)] [(.ref a_WAITS)])) rfl rfl (hb hby d2_39)
  obtain ⟨T15, X15, e15, st15⟩ := getF X13 hx hZ hown (host := "") (Or.inl (hw _ (List.mem_of_getElem? (i := 36) rfl))) Via.refl e13 (Fd_FALLS_DUE_AFTER_WAITING) (g := (mkF m 43 #[.val (.ref a_FALLS_DUE_AFTER_WAITING), .val .null, .val (.ref h0.size), .val (.int (7 : Int32)), .val (.int (1 : Int32)), .val (.ref a_WAITS)] [(.ref a_FALLS_DUE_AFTER_WAITING), (.int (0 : Int32))])) rfl rfl (hb hby d2_43)
  obtain ⟨T18, X18, e18, st18⟩ := getF X15 hx hZ hown (host := "") (Or.inl (hw _ (List.mem_of_getElem? (i := 34) rfl))) Via.refl e15 (Fw_WAITS_NO_MORE) (g := (mkF m 26 #[.val (.ref a_FALLS_DUE_AFTER_WAITING), .val .null, .val (.ref h0.size), .val (.int (7 : Int32)), .val (.int (2 : Int32)), .val (.ref a_WAITS_NO_MORE)] [(.ref a_WAITS_NO_MORE)])) rfl rfl (hb hby d2_26)
  obtain ⟨T19, X19, e19, st19⟩ := getF X18 hx hZ hown (host := "") (Or.inl (hw _ (List.mem_of_getElem? (i := 34) rfl))) Via.refl e18 (Fw_FALLS_DUE_AFTER_WAITING) (g := (mkF m 30 #[.val (.ref a_FALLS_DUE_AFTER_WAITING), .val .null, .val (.ref h0.size), .val (.int (7 : Int32)), .val (.int (2 : Int32)), .val (.ref a_WAITS_NO_MORE)] [(.ref a_FALLS_DUE_AFTER_WAITING), (.int (-1 : Int32))])) rfl rfl (hb hby d2_30)
  obtain ⟨T22, X22, e22, st22⟩ := getF X19 hx hZ hown (host := "") (Or.inl (hw _ (List.mem_of_getElem? (i := 34) rfl))) Via.refl e19 (Fw_FALLS_DUE_AFTER_WAITING) (g := (mkF m 26 #[.val (.ref a_FALLS_DUE_AFTER_WAITING), .val .null, .val (.ref h0.size), .val (.int (7 : Int32)), .val (.int (3 : Int32)), .val (.ref a_FALLS_DUE_AFTER_WAITING)] [(.ref a_FALLS_DUE_AFTER_WAITING)])) rfl rfl (hb hby d2_26)
  obtain ⟨T23, X23, e23, st23⟩ := getF X22 hx hZ hown (host := "") (Or.inl (hw _ (List.mem_of_getElem? (i := 34) rfl))) Via.refl e22 (Fw_FALLS_DUE_AFTER_WAITING) (g := (mkF m 30 #[.val (.ref a_FALLS_DUE_AFTER_WAITING), .val .null, .val (.ref h0.size), .val (.int (7 : Int32)), .val (.int (3 : Int32)), .val (.ref a_FALLS_DUE_AFTER_WAITING)] [(.ref a_FALLS_DUE_AFTER_WAITING), (.int (-1 : Int32))])) rfl rfl (hb hby d2_30)
  obtain ⟨T26, X26, e26, st26⟩ := getF X23 hx hZ hown (host := "") (Or.inl (hw _ (List.mem_of_getElem? (i := 34) rfl))) Via.refl e23 (Fw_WAITS_AGAIN) (g := (mkF m 26 #[.val (.ref a_FALLS_DUE_AFTER_WAITING), .val .null, .val (.ref h0.size), .val (.int (7 : Int32)), .val (.int (4 : Int32)), .val (.ref a_WAITS_AGAIN)] [(.ref a_WAITS_AGAIN)])) rfl rfl (hb hby d2_26)
  obtain ⟨T27, X27, e27, st27⟩ := getF X26 hx hZ hown (host := "") (Or.inl (hw _ (List.mem_of_getElem? (i := 34) rfl))) Via.refl e26 (Fw_FALLS_DUE_AFTER_WAITING) (g := (mkF m 30 #[.val (.ref a_FALLS_DUE_AFTER_WAITING), .val .null, .val (.ref h0.size), .val (.int (7 : Int32)), .val (.int (4 : Int32)), .val (.ref a_WAITS_AGAIN)] [(.ref a_FALLS_DUE_AFTER_WAITING), (.int (1 : Int32))])) rfl rfl (hb hby d2_30)
  obtain ⟨T29, X29, e29, st29⟩ := getF X27 hx hZ hown (host := "") (Or.inl (hw _ (List.mem_of_getElem? (i := 36) rfl))) Via.refl e27 (Fd_WAITS_AGAIN) (g := (mkF m 39 #[.val (.ref a_FALLS_DUE_AFTER_WAITING), .val .null, .val (.ref h0.size), .val (.int (7 : Int32)), .val (.int (4 : Int32)), .val (.ref a_WAITS_AGAIN)] [(.ref a_WAITS_AGAIN)])) rfl rfl (hb hby d2_39)
  obtain ⟨T30, X30, e30, st30⟩ := getF X29 hx hZ hown (host := "") (Or.inl (hw _ (List.mem_of_getElem? (i := 36) rfl))) Via.refl e29 (Fd_FALLS_DUE_AFTER_WAITING) (g := (mkF m 43 #[.val (.ref a_FALLS_DUE_AFTER_WAITING), .val .null, .val (.ref h0.size), .val (.int (7 : Int32)), .val (.int (4 : Int32)), .val (.ref a_WAITS_AGAIN)] [(.ref a_FALLS_DUE_AFTER_WAITING), (.int (-1 : Int32))])) rfl rfl (hb hby d2_43)
  obtain ⟨T33, X33, e33, st33⟩ := getF X30 hx hZ hown (host := "") (Or.inl (hw _ (List.mem_of_getElem? (i := 34) rfl))) Via.refl e30 (Fw_FALLS_DUE) (g := (mkF m 26 #[.val (.ref a_FALLS_DUE_AFTER_WAITING), .val (.ref a_WAITS_AGAIN), .val (.ref h0.size), .val (.int (7 : Int32)), .val (.int (5 : Int32)), .val (.ref a_FALLS_DUE)] [(.ref a_FALLS_DUE)])) rfl rfl (hb hby d2_26)
  obtain ⟨T34, X34, e34, st34⟩ := getF X33 hx hZ hown (host := "") (Or.inl (hw _ (List.mem_of_getElem? (i := 34) rfl))) Via.refl e33 (Fw_FALLS_DUE_AFTER_WAITING) (g := (mkF m 30 #[.val (.ref a_FALLS_DUE_AFTER_WAITING), .val (.ref a_WAITS_AGAIN), .val (.ref h0.size), .val (.int (7 : Int32)), .val (.int (5 : Int32)), .val (.ref a_FALLS_DUE)] [(.ref a_FALLS_DUE_AFTER_WAITING), (.int (0 : Int32))])) rfl rfl (hb hby d2_30)
  obtain ⟨T37, X37, e37, st37⟩ := getF X34 hx hZ hown (host := "") (Or.inl (hw _ (List.mem_of_getElem? (i := 34) rfl))) Via.refl e34 (Fw_TAKEN_BACK) (g := (mkF m 26 #[.val (.ref a_FALLS_DUE_AFTER_WAITING), .val (.ref a_WAITS_AGAIN), .val (.ref h0.size), .val (.int (7 : Int32)), .val (.int (6 : Int32)), .val (.ref a_TAKEN_BACK)] [(.ref a_TAKEN_BACK)])) rfl rfl (hb hby d2_26)
  obtain ⟨T38, X38, e38, st38⟩ := getF X37 hx hZ hown (host := "") (Or.inl (hw _ (List.mem_of_getElem? (i := 34) rfl))) Via.refl e37 (Fw_FALLS_DUE_AFTER_WAITING) (g := (mkF m 30 #[.val (.ref a_FALLS_DUE_AFTER_WAITING), .val (.ref a_WAITS_AGAIN), .val (.ref h0.size), .val (.int (7 : Int32)), .val (.int (6 : Int32)), .val (.ref a_TAKEN_BACK)] [(.ref a_FALLS_DUE_AFTER_WAITING), (.int (0 : Int32))])) rfl rfl (hb hby d2_30)
  obtain ⟨fs, hr, hrun, hended, hW, hsame⟩ := X38.leave (v := some (.ref a_WAITS_AGAIN)) (fun h => by rw [Bd.returns] at h; cases h)
  refine ⟨_, _, pre0 _ ?_, hrun, hended, _, _, rfl, ?_, ⟨_, rfl⟩, hW, hsame.mono (by decide) (by decide)⟩
  -- 4. STEPS
  · show Steps p.tables e below (s₁.setTop (mkF m 0 #[.val (.ref a_FALLS_DUE_AFTER_WAITING), .unset, .unset, .unset, .unset, .unset] [])) _
    refine XS.aconstNull X0.here hx rfl (hb hby d2_0) ?_
    show Steps p.tables e below (s₁.setTop (mkF m 1 #[.val (.ref a_FALLS_DUE_AFTER_WAITING), .unset, .unset, .unset, .unset, .unset] [.null])) _
    refine XS.astoreN X0.here hx rfl (hb hby d2_1) rfl rfl (l' := #[.val (.ref a_FALLS_DUE_AFTER_WAITING), .val .null, .unset, .unset, .unset, .unset]) rfl ?_
    show Steps p.tables e below (s₁.setTop (mkF m 2 #[.val (.ref a_FALLS_DUE_AFTER_WAITING), .val .null, .unset, .unset, .unset, .unset] [])) _
    refine st2 _ ?_
    show Steps p.tables e below (T2.setTop (mkF m 5 #[.val (.ref a_FALLS_DUE_AFTER_WAITING), .val .null, .unset, .unset, .unset, .unset] [(.ref h0.size)])) _
    refine XS.astoreN X2.here hx rfl (hb hby d2_5) rfl rfl (l' := #[.val (.ref a_FALLS_DUE_AFTER_WAITING), .val .null, .val (.ref h0.size), .unset, .unset, .unset]) rfl ?_
    show Steps p.tables e below (T2.setTop (mkF m 6 #[.val (.ref a_FALLS_DUE_AFTER_WAITING), .val .null, .val (.ref h0.size), .unset, .unset, .unset] [])) _
    refine XS.aloadN X2.here hx rfl (hb hby d2_6) rfl rfl ?_
    show Steps p.tables e below (T2.setTop (mkF m 7 #[.val (.ref a_FALLS_DUE_AFTER_WAITING), .val .null, .val (.ref h0.size), .unset, .unset, .unset] [(.ref h0.size)])) _
    refine X2.arraylength hx (by exact Arv_.1) (State.isArrayOf_alike hZ.alike Arv_.2.1) (g := (mkF m 7 #[.val (.ref a_FALLS_DUE_AFTER_WAITING), .val .null, .val (.ref h0.size), .unset, .unset, .unset] [(.ref h0.size)])) rfl rfl (hb hby d2_7) _ ?_
    rw [len_of Sv Nv]
    show Steps p.tables e below (T2.setTop (mkF m 8 #[.val (.ref a_FALLS_DUE_AFTER_WAITING), .val .null, .val (.ref h0.size), .unset, .unset, .unset] [(.int (7 : Int32))])) _
    refine XS.istoreN X2.here hx rfl (hb hby d2_8) rfl (l' := #[.val (.ref a_FALLS_DUE_AFTER_WAITING), .val .null, .val (.ref h0.size), .val (.int (7 : Int32)), .unset, .unset]) rfl ?_
    show Steps p.tables e below (T2.setTop (mkF m 9 #[.val (.ref a_FALLS_DUE_AFTER_WAITING), .val .null, .val (.ref h0.size), .val (.int (7 : Int32)), .unset, .unset] [])) _
    refine XS.iconst X2.here hx rfl (hb hby d2_9) ?_
    show Steps p.tables e below (T2.setTop (mkF m 10 #[.val (.ref a_FALLS_DUE_AFTER_WAITING), .val .null, .val (.ref h0.size), .val (.int (7 : Int32)), .unset, .unset] [(.int (0 : Int32))])) _
    refine XS.istore X2.here hx rfl (hb hby d2_10) rfl (l' := #[.val (.ref a_FALLS_DUE_AFTER_WAITING), .val .null, .val (.ref h0.size), .val (.int (7 : Int32)), .val (.int (0 : Int32)), .unset]) rfl ?_
    show Steps p.tables e below (T2.setTop (mkF m 12 #[.val (.ref a_FALLS_DUE_AFTER_WAITING), .val .null, .val (.ref h0.size), .val (.int (7 : Int32)), .val (.int (0 : Int32)), .unset] [])) _
    refine XS.iload X2.here hx rfl (hb hby d2_12) rfl ?_
    show Steps p.tables e below (T2.setTop (mkF m 14 #[.val (.ref a_FALLS_DUE_AFTER_WAITING), .val .null, .val (.ref h0.size), .val (.int (7 : Int32)), .val (.int (0 : Int32)), .unset] [(.int (0 : Int32))])) _
    refine XS.iloadN X2.here hx rfl (hb hby d2_14) rfl ?_
    show Steps p.tables e below (T2.setTop (mkF m 15 #[.val (.ref a_FALLS_DUE_AFTER_WAITING), .val .null, .val (.ref h0.size), .val (.int (7 : Int32)), .val (.int (0 : Int32)), .unset] [(.int (7 : Int32)), (.int (0 : Int32))])) _
    refine XS.icmpNo X2.here hx rfl (hb hby d2_15) rfl (tlt (by decide : (0 : Int32) < (7 : Int32))).2.1 ?_
    show Steps p.tables e below (T2.setTop (mkF m 18 #[.val (.ref a_FALLS_DUE_AFTER_WAITING), .val .null, .val (.ref h0.size), .val (.int (7 : Int32)), .val (.int (0 : Int32)), .unset] [])) _
    refine XS.aloadN X2.here hx rfl (hb hby d2_18) rfl rfl ?_
    show Steps p.tables e below (T2.setTop (mkF m 19 #[.val (.ref a_FALLS_DUE_AFTER_WAITING), .val .null, .val (.ref h0.size), .val (.int (7 : Int32)), .val (.int (0 : Int32)), .unset] [(.ref h0.size)])) _
    refine XS.iload X2.here hx rfl (hb hby d2_19) rfl ?_
    show Steps p.tables e below (T2.setTop (mkF m 21 #[.val (.ref a_FALLS_DUE_AFTER_WAITING), .val .null, .val (.ref h0.size), .val (.int (7 : Int32)), .val (.int (0 : Int32)), .unset] [(.int (0 : Int32)), (.ref h0.size)])) _
    refine X2.aaload hx (j := (0 : Int32)) (v := (.ref a_NONE)) (by exact Arv_.1) (State.isArrayOf_alike hZ.alike Arv_.2.1) rfl Arv_.2.2 (inb_of Sv ⟨by decide, by decide⟩) (Has.at Hv (inb_of Sv ⟨by decide, by decide⟩) rfl) (g := (mkF m 21 #[.val (.ref a_FALLS_DUE_AFTER_WAITING), .val .null, .val (.ref h0.size), .val (.int (7 : Int32)), .val (.int (0 : Int32)), .unset] [(.int (0 : Int32)), (.ref h0.size)])) rfl rfl (hb hby d2_21) _ ?_
    show Steps p.tables e below (T2.setTop (mkF m 22 #[.val (.ref a_FALLS_DUE_AFTER_WAITING), .val .null, .val (.ref h0.size), .val (.int (7 : Int32)), .val (.int (0 : Int32)), .unset] [(.ref a_NONE)])) _
    refine XS.astore X2.here hx rfl (hb hby d2_22) rfl rfl (l' := #[.val (.ref a_FALLS_DUE_AFTER_WAITING), .val .null, .val (.ref h0.size), .val (.int (7 : Int32)), .val (.int (0 : Int32)), .val (.ref a_NONE)]) rfl ?_
    show Steps p.tables e below (T2.setTop (mkF m 24 #[.val (.ref a_FALLS_DUE_AFTER_WAITING), .val .null, .val (.ref h0.size), .val (.int (7 : Int32)), .val (.int (0 : Int32)), .val (.ref a_NONE)] [])) _
    refine XS.aload X2.here hx rfl (hb hby d2_24) rfl rfl ?_
    show Steps p.tables e below (T2.setTop (mkF m 26 #[.val (.ref a_FALLS_DUE_AFTER_WAITING), .val .null, .val (.ref h0.size), .val (.int (7 : Int32)), .val (.int (0 : Int32)), .val (.ref a_NONE)] [(.ref a_NONE)])) _
    refine st5 _ ?_
    show Steps p.tables e below (T5.setTop (mkF m 29 #[.val (.ref a_FALLS_DUE_AFTER_WAITING), .val .null, .val (.ref h0.size), .val (.int (7 : Int32)), .val (.int (0 : Int32)), .val (.ref a_NONE)] [(.int (0 : Int32))])) _
    refine XS.aloadN X5.here hx rfl (hb hby d2_29) rfl rfl ?_
    show Steps p.tables e below (T5.setTop (mkF m 30 #[.val (.ref a_FALLS_DUE_AFTER_WAITING), .val .null, .val (.ref h0.size), .val (.int (7 : Int32)), .val (.int (0 : Int32)), .val (.ref a_NONE)] [(.ref a_FALLS_DUE_AFTER_WAITING), (.int (0 : Int32))])) _
    refine st7 _ ?_
    show Steps p.tables e below (T7.setTop (mkF m 33 #[.val (.ref a_FALLS_DUE_AFTER_WAITING), .val .null, .val (.ref h0.size), .val (.int (7 : Int32)), .val (.int (0 : Int32)), .val (.ref a_NONE)] [(.int (-1 : Int32)), (.int (0 : Int32))])) _
    refine XS.ineg X7.here hx rfl (hb hby d2_33) rfl ?_
    show Steps p.tables e below (T7.setTop (mkF m 34 #[.val (.ref a_FALLS_DUE_AFTER_WAITING), .val .null, .val (.ref h0.size), .val (.int (7 : Int32)), .val (.int (0 : Int32)), .val (.ref a_NONE)] [(.int (-(-1 : Int32))), (.int (0 : Int32))])) _
    refine XS.icmpYes X7.here hx rfl (pc0 := 34) (pc' := 53) rfl (hb hby d2_34) rfl (feq (by decide)).2 (by decide) (by decide) ?_
    show Steps p.tables e below (T7.setTop (mkF m 53 #[.val (.ref a_FALLS_DUE_AFTER_WAITING), .val .null, .val (.ref h0.size), .val (.int (7 : Int32)), .val (.int (0 : Int32)), .val (.ref a_NONE)] [])) _
    refine XS.iinc X7.here hx rfl (hb hby d2_53) rfl (l' := #[.val (.ref a_FALLS_DUE_AFTER_WAITING), .val .null, .val (.ref h0.size), .val (.int (7 : Int32)), .val (.int (1 : Int32)), .val (.ref a_NONE)]) rfl ?_
    show Steps p.tables e below (T7.setTop (mkF m 56 #[.val (.ref a_FALLS_DUE_AFTER_WAITING), .val .null, .val (.ref h0.size), .val (.int (7 : Int32)), .val (.int (1 : Int32)), .val (.ref a_NONE)] [])) _
    refine XS.goto X7.here hx rfl (pc0 := 56) (pc' := 12) rfl (hb hby d2_56) (by decide) (by decide) ?_
    show Steps p.tables e below (T7.setTop (mkF m 12 #[.val (.ref a_FALLS_DUE_AFTER_WAITING), .val .null, .val (.ref h0.size), .val (.int (7 : Int32)), .val (.int (1 : Int32)), .val (.ref a_NONE)] [])) _
    refine XS.iload X7.here hx rfl (hb hby d2_12) rfl ?_
    show Steps p.tables e below (T7.setTop (mkF m 14 #[.val (.ref a_FALLS_DUE_AFTER_WAITING), .val .null, .val (.ref h0.size), .val (.int (7 : Int32)), .val (.int (1 : Int32)), .val (.ref a_NONE)] [(.int (1 : Int32))])) _
    refine XS.iloadN X7.here hx rfl (hb hby d2_14) rfl ?_
    show Steps p.tables e below (T7.setTop (mkF m 15 #[.val (.ref a_FALLS_DUE_AFTER_WAITING), .val .null, .val (.ref h0.size), .val (.int (7 : Int32)), .val (.int (1 : Int32)), .val (.ref a_NONE)] [(.int (7 : Int32)), (.int (1 : Int32))])) _
    refine XS.icmpNo X7.here hx rfl (hb hby d2_15) rfl (tlt (by decide : (1 : Int32) < (7 : Int32))).2.1 ?_
    show Steps p.tables e below (T7.setTop (mkF m 18 #[.val (.ref a_FALLS_DUE_AFTER_WAITING), .val .null, .val (.ref h0.size), .val (.int (7 : Int32)), .val (.int (1 : Int32)), .val (.ref a_NONE)] [])) _
    refine XS.aloadN X7.here hx rfl (hb hby d2_18) rfl rfl ?_
    show Steps p.tables e below (T7.setTop (mkF m 19 #[.val (.ref a_FALLS_DUE_AFTER_WAITING), .val .null, .val (.ref h0.size), .val (.int (7 : Int32)), .val (.int (1 : Int32)), .val (.ref a_NONE)] [(.ref h0.size)])) _
    refine XS.iload X7.here hx rfl (hb hby d2_19) rfl ?_
    show Steps p.tables e below (T7.setTop (mkF m 21 #[.val (.ref a_FALLS_DUE_AFTER_WAITING), .val .null, .val (.ref h0.size), .val (.int (7 : Int32)), .val (.int (1 : Int32)), .val (.ref a_NONE)] [(.int (1 : Int32)), (.ref h0.size)])) _
    refine X7.aaload hx (j := (1 : Int32)) (v := (.ref a_WAITS)) (by rw [e7]; exact Arv_.1) (State.isArrayOf_alike hZ.alike Arv_.2.1) rfl Arv_.2.2 (inb_of Sv ⟨by decide, by decide⟩) (Has.at Hv (inb_of Sv ⟨by decide, by decide⟩) rfl) (g := (mkF m 21 #[.val (.ref a_FALLS_DUE_AFTER_WAITING), .val .null, .val (.ref h0.size), .val (.int (7 : Int32)), .val (.int (1 : Int32)), .val (.ref a_NONE)] [(.int (1 : Int32)), (.ref h0.size)])) rfl rfl (hb hby d2_21) _ ?_
    show Steps p.tables e below (T7.setTop (mkF m 22 #[.val (.ref a_FALLS_DUE_AFTER_WAITING), .val .null, .val (.ref h0.size), .val (.int (7 : Int32)), .val (.int (1 : Int32)), .val (.ref a_NONE)] [(.ref a_WAITS)])) _
    refine XS.astore X7.here hx rfl (hb hby d2_22) rfl rfl (l' := #[.val (.ref a_FALLS_DUE_AFTER_WAITING), .val .null, .val (.ref h0.size), .val (.int (7 : Int32)), .val (.int (1 : Int32)), .val (.ref a_WAITS)]) rfl ?_
    show Steps p.tables e below (T7.setTop (mkF m 24 #[.val (.ref a_FALLS_DUE_AFTER_WAITING), .val .null, .val (.ref h0.size), .val (.int (7 : Int32)), .val (.int (1 : Int32)), .val (.ref a_WAITS)] [])) _
    refine XS.aload X7.here hx rfl (hb hby d2_24) rfl rfl ?_
    show Steps p.tables e below (T7.setTop (mkF m 26 #[.val (.ref a_FALLS_DUE_AFTER_WAITING), .val .null, .val (.ref h0.size), .val (.int (7 : Int32)), .val (.int (1 : Int32)), .val (.ref a_WAITS)] [(.ref a_WAITS)])) _
    refine st10 _ ?_
    show Steps p.tables e below (T10.setTop (mkF m 29 #[.val (.ref a_FALLS_DUE_AFTER_WAITING), .val .null, .val (.ref h0.size), .val (.int (7 : Int32)), .val (.int (1 : Int32)), .val (.ref a_WAITS)] [(.int (1 : Int32))])) _
    refine XS.aloadN X10.here hx rfl (hb hby d2_29) rfl rfl ?_
    show Steps p.tables e below (T10.setTop (mkF m 30 #[.val (.ref a_FALLS_DUE_AFTER_WAITING), .val .null, .val (.ref h0.size), .val (.int (7 : Int32)), .val (.int (1 : Int32)), .val (.ref a_WAITS)] [(.ref a_FALLS_DUE_AFTER_WAITING), (.int (1 : Int32))])) _
    refine st11 _ ?_
    show Steps p.tables e below (T11.setTop (mkF m 33 #[.val (.ref a_FALLS_DUE_AFTER_WAITING), .val .null, .val (.ref h0.size), .val (.int (7 : Int32)), .val (.int (1 : Int32)), .val (.ref a_WAITS)] [(.int (-1 : Int32)), (.int (1 : Int32))])) _
    refine XS.ineg X11.here hx rfl (hb hby d2_33) rfl ?_
    show Steps p.tables e below (T11.setTop (mkF m 34 #[.val (.ref a_FALLS_DUE_AFTER_WAITING), .val .null, .val (.ref h0.size), .val (.int (7 : Int32)), .val (.int (1 : Int32)), .val (.ref a_WAITS)] [(.int (-(-1 : Int32))), (.int (1 : Int32))])) _
    refine XS.icmpNo X11.here hx rfl (hb hby d2_34) rfl (teq (by decide)).2 ?_
    show Steps p.tables e below (T11.setTop (mkF m 37 #[.val (.ref a_FALLS_DUE_AFTER_WAITING), .val .null, .val (.ref h0.size), .val (.int (7 : Int32)), .val (.int (1 : Int32)), .val (.ref a_WAITS)] [])) _
    refine XS.aload X11.here hx rfl (hb hby d2_37) rfl rfl ?_
    show Steps p.tables e below (T11.setTop (mkF m 39 #[.val (.ref a_FALLS_DUE_AFTER_WAITING), .val .null, .val (.ref h0.size), .val (.int (7 : Int32)), .val (.int (1 : Int32)), .val (.ref a_WAITS)] [(.ref a_WAITS)])) _
    refine st13 _ ?_
    show Steps p.tables e below (T13.setTop (mkF m 42 #[.val (.ref a_FALLS_DUE_AFTER_WAITING), .val .null, .val (.ref h0.size), .val (.int (7 : Int32)), .val (.int (1 : Int32)), .val (.ref a_WAITS)] [(.int (0 : Int32))])) _
    refine XS.aloadN X13.here hx rfl (hb hby d2_42) rfl rfl ?_
    show Steps p.tables e below (T13.setTop (mkF m 43 #[.val (.ref a_FALLS_DUE_AFTER_WAITING), .val .null, .val (.ref h0.size), .val (.int (7 : Int32)), .val (.int (1 : Int32)), .val (.ref a_WAITS)] [(.ref a_FALLS_DUE_AFTER_WAITING), (.int (0 : Int32))])) _
    refine st15 _ ?_
    show Steps p.tables e below (T15.setTop (mkF m 46 #[.val (.ref a_FALLS_DUE_AFTER_WAITING), .val .null, .val (.ref h0.size), .val (.int (7 : Int32)), .val (.int (1 : Int32)), .val (.ref a_WAITS)] [(.int (1 : Int32)), (.int (0 : Int32))])) _
    refine XS.ineg X15.here hx rfl (hb hby d2_46) rfl ?_
    show Steps p.tables e below (T15.setTop (mkF m 47 #[.val (.ref a_FALLS_DUE_AFTER_WAITING), .val .null, .val (.ref h0.size), .val (.int (7 : Int32)), .val (.int (1 : Int32)), .val (.ref a_WAITS)] [(.int (-(1 : Int32))), (.int (0 : Int32))])) _
    refine XS.icmpYes X15.here hx rfl (pc0 := 47) (pc' := 53) rfl (hb hby d2_47) rfl (feq (by decide)).2 (by decide) (by decide) ?_
    show Steps p.tables e below (T15.setTop (mkF m 53 #[.val (.ref a_FALLS_DUE_AFTER_WAITING), .val .null, .val (.ref h0.size), .val (.int (7 : Int32)), .val (.int (1 : Int32)), .val (.ref a_WAITS)] [])) _
    refine XS.iinc X15.here hx rfl (hb hby d2_53) rfl (l' := #[.val (.ref a_FALLS_DUE_AFTER_WAITING), .val .null, .val (.ref h0.size), .val (.int (7 : Int32)), .val (.int (2 : Int32)), .val (.ref a_WAITS)]) rfl ?_
    show Steps p.tables e below (T15.setTop (mkF m 56 #[.val (.ref a_FALLS_DUE_AFTER_WAITING), .val .null, .val (.ref h0.size), .val (.int (7 : Int32)), .val (.int (2 : Int32)), .val (.ref a_WAITS)] [])) _
    refine XS.goto X15.here hx rfl (pc0 := 56) (pc' := 12) rfl (hb hby d2_56) (by decide) (by decide) ?_
    show Steps p.tables e below (T15.setTop (mkF m 12 #[.val (.ref a_FALLS_DUE_AFTER_WAITING), .val .null, .val (.ref h0.size), .val (.int (7 : Int32)), .val (.int (2 : Int32)), .val (.ref a_WAITS)] [])) _
    refine XS.iload X15.here hx rfl (hb hby d2_12) rfl ?_
    show Steps p.tables e below (T15.setTop (mkF m 14 #[.val (.ref a_FALLS_DUE_AFTER_WAITING), .val .null, .val (.ref h0.size), .val (.int (7 : Int32)), .val (.int (2 : Int32)), .val (.ref a_WAITS)] [(.int (2 : Int32))])) _
    refine XS.iloadN X15.here hx rfl (hb hby d2_14) rfl ?_
    show Steps p.tables e below (T15.setTop (mkF m 15 #[.val (.ref a_FALLS_DUE_AFTER_WAITING), .val .null, .val (.ref h0.size), .val (.int (7 : Int32)), .val (.int (2 : Int32)), .val (.ref a_WAITS)] [(.int (7 : Int32)), (.int (2 : Int32))])) _
    refine XS.icmpNo X15.here hx rfl (hb hby d2_15) rfl (tlt (by decide : (2 : Int32) < (7 : Int32))).2.1 ?_
    show Steps p.tables e below (T15.setTop (mkF m 18 #[.val (.ref a_FALLS_DUE_AFTER_WAITING), .val .null, .val (.ref h0.size), .val (.int (7 : Int32)), .val (.int (2 : Int32)), .val (.ref a_WAITS)] [])) _
    refine XS.aloadN X15.here hx rfl (hb hby d2_18) rfl rfl ?_
    show Steps p.tables e below (T15.setTop (mkF m 19 #[.val (.ref a_FALLS_DUE_AFTER_WAITING), .val .null, .val (.ref h0.size), .val (.int (7 : Int32)), .val (.int (2 : Int32)), .val (.ref a_WAITS)] [(.ref h0.size)])) _
    refine XS.iload X15.here hx rfl (hb hby d2_19) rfl ?_
    show Steps p.tables e below (T15.setTop (mkF m 21 #[.val (.ref a_FALLS_DUE_AFTER_WAITING), .val .null, .val (.ref h0.size), .val (.int (7 : Int32)), .val (.int (2 : Int32)), .val (.ref a_WAITS)] [(.int (2 : Int32)), (.ref h0.size)])) _
    refine X15.aaload hx (j := (2 : Int32)) (v := (.ref a_WAITS_NO_MORE)) (by rw [e15]; exact Arv_.1) (State.isArrayOf_alike hZ.alike Arv_.2.1) rfl Arv_.2.2 (inb_of Sv ⟨by decide, by decide⟩) (Has.at Hv (inb_of Sv ⟨by decide, by decide⟩) rfl) (g := (mkF m 21 #[.val (.ref a_FALLS_DUE_AFTER_WAITING), .val .null, .val (.ref h0.size), .val (.int (7 : Int32)), .val (.int (2 : Int32)), .val (.ref a_WAITS)] [(.int (2 : Int32)), (.ref h0.size)])) rfl rfl (hb hby d2_21) _ ?_
    show Steps p.tables e below (T15.setTop (mkF m 22 #[.val (.ref a_FALLS_DUE_AFTER_WAITING), .val .null, .val (.ref h0.size), .val (.int (7 : Int32)), .val (.int (2 : Int32)), .val (.ref a_WAITS)] [(.ref a_WAITS_NO_MORE)])) _
    refine XS.astore X15.here hx rfl (hb hby d2_22) rfl rfl (l' := #[.val (.ref a_FALLS_DUE_AFTER_WAITING), .val .null, .val (.ref h0.size), .val (.int (7 : Int32)), .val (.int (2 : Int32)), .val (.ref a_WAITS_NO_MORE)]) rfl ?_
    show Steps p.tables e below (T15.setTop (mkF m 24 #[.val (.ref a_FALLS_DUE_AFTER_WAITING), .val .null, .val (.ref h0.size), .val (.int (7 : Int32)), .val (.int (2 : Int32)), .val (.ref a_WAITS_NO_MORE)] [])) _
    refine XS.aload X15.here hx rfl (hb hby d2_24) rfl rfl ?_
    show Steps p.tables e below (T15.setTop (mkF m 26 #[.val (.ref a_FALLS_DUE_AFTER_WAITING), .val .null, .val (.ref h0.size), .val (.int (7 : Int32)), .val (.int (2 : Int32)), .val (.ref a_WAITS_NO_MORE)] [(.ref a_WAITS_NO_MORE)])) _
    refine st18 _ ?_
    show Steps p.tables e below (T18.setTop (mkF m 29 #[.val (.ref a_FALLS_DUE_AFTER_WAITING), .val .null, .val (.ref h0.size), .val (.int (7 : Int32)), .val (.int (2 : Int32)), .val (.ref a_WAITS_NO_MORE)] [(.int (-1 : Int32))])) _
    refine XS.aloadN X18.here hx rfl (hb hby d2_29) rfl rfl ?_
    show Steps p.tables e below (T18.setTop (mkF m 30 #[.val (.ref a_FALLS_DUE_AFTER_WAITING), .val .null, .val (.ref h0.size), .val (.int (7 : Int32)), .val (.int (2 : Int32)), .val (.ref a_WAITS_NO_MORE)] [(.ref a_FALLS_DUE_AFTER_WAITING), (.int (-1 : Int32))])) _
    refine st19 _ ?_
    show Steps p.tables e below (T19.setTop (mkF m 33 #[.val (.ref a_FALLS_DUE_AFTER_WAITING), .val .null, .val (.ref h0.size), .val (.int (7 : Int32)), .val (.int (2 : Int32)), .val (.ref a_WAITS_NO_MORE)] [(.int (-1 : Int32)), (.int (-1 : Int32))])) _
    refine XS.ineg X19.here hx rfl (hb hby d2_33) rfl ?_
    show Steps p.tables e below (T19.setTop (mkF m 34 #[.val (.ref a_FALLS_DUE_AFTER_WAITING), .val .null, .val (.ref h0.size), .val (.int (7 : Int32)), .val (.int (2 : Int32)), .val (.ref a_WAITS_NO_MORE)] [(.int (-(-1 : Int32))), (.int (-1 : Int32))])) _
    refine XS.icmpYes X19.here hx rfl (pc0 := 34) (pc' := 53) rfl (hb hby d2_34) rfl (feq (by decide)).2 (by decide) (by decide) ?_
    show Steps p.tables e below (T19.setTop (mkF m 53 #[.val (.ref a_FALLS_DUE_AFTER_WAITING), .val .null, .val (.ref h0.size), .val (.int (7 : Int32)), .val (.int (2 : Int32)), .val (.ref a_WAITS_NO_MORE)] [])) _
    refine XS.iinc X19.here hx rfl (hb hby d2_53) rfl (l' := #[.val (.ref a_FALLS_DUE_AFTER_WAITING), .val .null, .val (.ref h0.size), .val (.int (7 : Int32)), .val (.int (3 : Int32)), .val (.ref a_WAITS_NO_MORE)]) rfl ?_
    show Steps p.tables e below (T19.setTop (mkF m 56 #[.val (.ref a_FALLS_DUE_AFTER_WAITING), .val .null, .val (.ref h0.size), .val (.int (7 : Int32)), .val (.int (3 : Int32)), .val (.ref a_WAITS_NO_MORE)] [])) _
    refine XS.goto X19.here hx rfl (pc0 := 56) (pc' := 12) rfl (hb hby d2_56) (by decide) (by decide) ?_
    show Steps p.tables e below (T19.setTop (mkF m 12 #[.val (.ref a_FALLS_DUE_AFTER_WAITING), .val .null, .val (.ref h0.size), .val (.int (7 : Int32)), .val (.int (3 : Int32)), .val (.ref a_WAITS_NO_MORE)] [])) _
    refine XS.iload X19.here hx rfl (hb hby d2_12) rfl ?_
    show Steps p.tables e below (T19.setTop (mkF m 14 #[.val (.ref a_FALLS_DUE_AFTER_WAITING), .val .null, .val (.ref h0.size), .val (.int (7 : Int32)), .val (.int (3 : Int32)), .val (.ref a_WAITS_NO_MORE)] [(.int (3 : Int32))])) _
    refine XS.iloadN X19.here hx rfl (hb hby d2_14) rfl ?_
    show Steps p.tables e below (T19.setTop (mkF m 15 #[.val (.ref a_FALLS_DUE_AFTER_WAITING), .val .null, .val (.ref h0.size), .val (.int (7 : Int32)), .val (.int (3 : Int32)), .val (.ref a_WAITS_NO_MORE)] [(.int (7 : Int32)), (.int (3 : Int32))])) _
    refine XS.icmpNo X19.here hx rfl (hb hby d2_15) rfl (tlt (by decide : (3 : Int32) < (7 : Int32))).2.1 ?_
    show Steps p.tables e below (T19.setTop (mkF m 18 #[.val (.ref a_FALLS_DUE_AFTER_WAITING), .val .null, .val (.ref h0.size), .val (.int (7 : Int32)), .val (.int (3 : Int32)), .val (.ref a_WAITS_NO_MORE)] [])) _
    refine XS.aloadN X19.here hx rfl (hb hby d2_18) rfl rfl ?_
    show Steps p.tables e below (T19.setTop (mkF m 19 #[.val (.ref a_FALLS_DUE_AFTER_WAITING), .val .null, .val (.ref h0.size), .val (.int (7 : Int32)), .val (.int (3 : Int32)), .val (.ref a_WAITS_NO_MORE)] [(.ref h0.size)])) _
    refine XS.iload X19.here hx rfl (hb hby d2_19) rfl ?_
    show Steps p.tables e below (T19.setTop (mkF m 21 #[.val (.ref a_FALLS_DUE_AFTER_WAITING), .val .null, .val (.ref h0.size), .val (.int (7 : Int32)), .val (.int (3 : Int32)), .val (.ref a_WAITS_NO_MORE)] [(.int (3 : Int32)), (.ref h0.size)])) _
    refine X19.aaload hx (j := (3 : Int32)) (v := (.ref a_FALLS_DUE_AFTER_WAITING)) (by rw [e19]; exact Arv_.1) (State.isArrayOf_alike hZ.alike Arv_.2.1) rfl Arv_.2.2 (inb_of Sv ⟨by decide, by decide⟩) (Has.at Hv (inb_of Sv ⟨by decide, by decide⟩) rfl) (g := (mkF m 21 #[.val (.ref a_FALLS_DUE_AFTER_WAITING), .val .null, .val (.ref h0.size), .val (.int (7 : Int32)), .val (.int (3 : Int32)), .val (.ref a_WAITS_NO_MORE)] [(.int (3 : Int32)), (.ref h0.size)])) rfl rfl (hb hby d2_21) _ ?_
    show Steps p.tables e below (T19.setTop (mkF m 22 #[.val (.ref a_FALLS_DUE_AFTER_WAITING), .val .null, .val (.ref h0.size), .val (.int (7 : Int32)), .val (.int (3 : Int32)), .val (.ref a_WAITS_NO_MORE)] [(.ref a_FALLS_DUE_AFTER_WAITING)])) _
    refine XS.astore X19.here hx rfl (hb hby d2_22) rfl rfl (l' := #[.val (.ref a_FALLS_DUE_AFTER_WAITING), .val .null, .val (.ref h0.size), .val (.int (7 : Int32)), .val (.int (3 : Int32)), .val (.ref a_FALLS_DUE_AFTER_WAITING)]) rfl ?_
    show Steps p.tables e below (T19.setTop (mkF m 24 #[.val (.ref a_FALLS_DUE_AFTER_WAITING), .val .null, .val (.ref h0.size), .val (.int (7 : Int32)), .val (.int (3 : Int32)), .val (.ref a_FALLS_DUE_AFTER_WAITING)] [])) _
    refine XS.aload X19.here hx rfl (hb hby d2_24) rfl rfl ?_
    show Steps p.tables e below (T19.setTop (mkF m 26 #[.val (.ref a_FALLS_DUE_AFTER_WAITING), .val .null, .val (.ref h0.size), .val (.int (7 : Int32)), .val (.int (3 : Int32)), .val (.ref a_FALLS_DUE_AFTER_WAITING)] [(.ref a_FALLS_DUE_AFTER_WAITING)])) _
    refine st22 _ ?_
    show Steps p.tables e below (T22.setTop (mkF m 29 #[.val (.ref a_FALLS_DUE_AFTER_WAITING), .val .null, .val (.ref h0.size), .val (.int (7 : Int32)), .val (.int (3 : Int32)), .val (.ref a_FALLS_DUE_AFTER_WAITING)] [(.int (-1 : Int32))])) _
    refine XS.aloadN X22.here hx rfl (hb hby d2_29) rfl rfl ?_
    show Steps p.tables e below (T22.setTop (mkF m 30 #[.val (.ref a_FALLS_DUE_AFTER_WAITING), .val .null, .val (.ref h0.size), .val (.int (7 : Int32)), .val (.int (3 : Int32)), .val (.ref a_FALLS_DUE_AFTER_WAITING)] [(.ref a_FALLS_DUE_AFTER_WAITING), (.int (-1 : Int32))])) _
    refine st23 _ ?_
    show Steps p.tables e below (T23.setTop (mkF m 33 #[.val (.ref a_FALLS_DUE_AFTER_WAITING), .val .null, .val (.ref h0.size), .val (.int (7 : Int32)), .val (.int (3 : Int32)), .val (.ref a_FALLS_DUE_AFTER_WAITING)] [(.int (-1 : Int32)), (.int (-1 : Int32))])) _
    refine XS.ineg X23.here hx rfl (hb hby d2_33) rfl ?_
    show Steps p.tables e below (T23.setTop (mkF m 34 #[.val (.ref a_FALLS_DUE_AFTER_WAITING), .val .null, .val (.ref h0.size), .val (.int (7 : Int32)), .val (.int (3 : Int32)), .val (.ref a_FALLS_DUE_AFTER_WAITING)] [(.int (-(-1 : Int32))), (.int (-1 : Int32))])) _
    refine XS.icmpYes X23.here hx rfl (pc0 := 34) (pc' := 53) rfl (hb hby d2_34) rfl (feq (by decide)).2 (by decide) (by decide) ?_
    show Steps p.tables e below (T23.setTop (mkF m 53 #[.val (.ref a_FALLS_DUE_AFTER_WAITING), .val .null, .val (.ref h0.size), .val (.int (7 : Int32)), .val (.int (3 : Int32)), .val (.ref a_FALLS_DUE_AFTER_WAITING)] [])) _
    refine XS.iinc X23.here hx rfl (hb hby d2_53) rfl (l' := #[.val (.ref a_FALLS_DUE_AFTER_WAITING), .val .null, .val (.ref h0.size), .val (.int (7 : Int32)), .val (.int (4 : Int32)), .val (.ref a_FALLS_DUE_AFTER_WAITING)]) rfl ?_
    show Steps p.tables e below (T23.setTop (mkF m 56 #[.val (.ref a_FALLS_DUE_AFTER_WAITING), .val .null, .val (.ref h0.size), .val (.int (7 : Int32)), .val (.int (4 : Int32)), .val (.ref a_FALLS_DUE_AFTER_WAITING)] [])) _
    refine XS.goto X23.here hx rfl (pc0 := 56) (pc' := 12) rfl (hb hby d2_56) (by decide) (by decide) ?_
    show Steps p.tables e below (T23.setTop (mkF m 12 #[.val (.ref a_FALLS_DUE_AFTER_WAITING), .val .null, .val (.ref h0.size), .val (.int (7 : Int32)), .val (.int (4 : Int32)), .val (.ref a_FALLS_DUE_AFTER_WAITING)] [])) _
    refine XS.iload X23.here hx rfl (hb hby d2_12) rfl ?_
    show Steps p.tables e below (T23.setTop (mkF m 14 #[.val (.ref a_FALLS_DUE_AFTER_WAITING), .val .null, .val (.ref h0.size), .val (.int (7 : Int32)), .val (.int (4 : Int32)), .val (.ref a_FALLS_DUE_AFTER_WAITING)] [(.int (4 : Int32))])) _
    refine XS.iloadN X23.here hx rfl (hb hby d2_14) rfl ?_
    show Steps p.tables e below (T23.setTop (mkF m 15 #[.val (.ref a_FALLS_DUE_AFTER_WAITING), .val .null, .val (.ref h0.size), .val (.int (7 : Int32)), .val (.int (4 : Int32)), .val (.ref a_FALLS_DUE_AFTER_WAITING)] [(.int (7 : Int32)), (.int (4 : Int32))])) _
    refine XS.icmpNo X23.here hx rfl (hb hby d2_15) rfl (tlt (by decide : (4 : Int32) < (7 : Int32))).2.1 ?_
    show Steps p.tables e below (T23.setTop (mkF m 18 #[.val (.ref a_FALLS_DUE_AFTER_WAITING), .val .null, .val (.ref h0.size), .val (.int (7 : Int32)), .val (.int (4 : Int32)), .val (.ref a_FALLS_DUE_AFTER_WAITING)] [])) _
    refine XS.aloadN X23.here hx rfl (hb hby d2_18) rfl rfl ?_
    show Steps p.tables e below (T23.setTop (mkF m 19 #[.val (.ref a_FALLS_DUE_AFTER_WAITING), .val .null, .val (.ref h0.size), .val (.int (7 : Int32)), .val (.int (4 : Int32)), .val (.ref a_FALLS_DUE_AFTER_WAITING)] [(.ref h0.size)])) _
    refine XS.iload X23.here hx rfl (hb hby d2_19) rfl ?_
    show Steps p.tables e below (T23.setTop (mkF m 21 #[.val (.ref a_FALLS_DUE_AFTER_WAITING), .val .null, .val (.ref h0.size), .val (.int (7 : Int32)), .val (.int (4 : Int32)), .val (.ref a_FALLS_DUE_AFTER_WAITING)] [(.int (4 : Int32)), (.ref h0.size)])) _
    refine X23.aaload hx (j := (4 : Int32)) (v := (.ref a_WAITS_AGAIN)) (by rw [e23]; exact Arv_.1) (State.isArrayOf_alike hZ.alike Arv_.2.1) rfl Arv_.2.2 (inb_of Sv ⟨by decide, by decide⟩) (Has.at Hv (inb_of Sv ⟨by decide, by decide⟩) rfl) (g := (mkF m 21 #[.val (.ref a_FALLS_DUE_AFTER_WAITING), .val .null, .val (.ref h0.size), .val (.int (7 : Int32)), .val (.int (4 : Int32)), .val (.ref a_FALLS_DUE_AFTER_WAITING)] [(.int (4 : Int32)), (.ref h0.size)])) rfl rfl (hb hby d2_21) _ ?_
    show Steps p.tables e below (T23.setTop (mkF m 22 #[.val (.ref a_FALLS_DUE_AFTER_WAITING), .val .null, .val (.ref h0.size), .val (.int (7 : Int32)), .val (.int (4 : Int32)), .val (.ref a_FALLS_DUE_AFTER_WAITING)] [(.ref a_WAITS_AGAIN)])) _
    refine XS.astore X23.here hx rfl (hb hby d2_22) rfl rfl (l' := #[.val (.ref a_FALLS_DUE_AFTER_WAITING), .val .null, .val (.ref h0.size), .val (.int (7 : Int32)), .val (.int (4 : Int32)), .val (.ref a_WAITS_AGAIN)]) rfl ?_
    show Steps p.tables e below (T23.setTop (mkF m 24 #[.val (.ref a_FALLS_DUE_AFTER_WAITING), .val .null, .val (.ref h0.size), .val (.int (7 : Int32)), .val (.int (4 : Int32)), .val (.ref a_WAITS_AGAIN)] [])) _
    refine XS.aload X23.here hx rfl (hb hby d2_24) rfl rfl ?_
    show Steps p.tables e below (T23.setTop (mkF m 26 #[.val (.ref a_FALLS_DUE_AFTER_WAITING), .val .null, .val (.ref h0.size), .val (.int (7 : Int32)), .val (.int (4 : Int32)), .val (.ref a_WAITS_AGAIN)] [(.ref a_WAITS_AGAIN)])) _
    refine st26 _ ?_
    show Steps p.tables e below (T26.setTop (mkF m 29 #[.val (.ref a_FALLS_DUE_AFTER_WAITING), .val .null, .val (.ref h0.size), .val (.int (7 : Int32)), .val (.int (4 : Int32)), .val (.ref a_WAITS_AGAIN)] [(.int (1 : Int32))])) _
    refine XS.aloadN X26.here hx rfl (hb hby d2_29) rfl rfl ?_
    show Steps p.tables e below (T26.setTop (mkF m 30 #[.val (.ref a_FALLS_DUE_AFTER_WAITING), .val .null, .val (.ref h0.size), .val (.int (7 : Int32)), .val (.int (4 : Int32)), .val (.ref a_WAITS_AGAIN)] [(.ref a_FALLS_DUE_AFTER_WAITING), (.int (1 : Int32))])) _
    refine st27 _ ?_
    show Steps p.tables e below (T27.setTop (mkF m 33 #[.val (.ref a_FALLS_DUE_AFTER_WAITING), .val .null, .val (.ref h0.size), .val (.int (7 : Int32)), .val (.int (4 : Int32)), .val (.ref a_WAITS_AGAIN)] [(.int (-1 : Int32)), (.int (1 : Int32))])) _
    refine XS.ineg X27.here hx rfl (hb hby d2_33) rfl ?_
    show Steps p.tables e below (T27.setTop (mkF m 34 #[.val (.ref a_FALLS_DUE_AFTER_WAITING), .val .null, .val (.ref h0.size), .val (.int (7 : Int32)), .val (.int (4 : Int32)), .val (.ref a_WAITS_AGAIN)] [(.int (-(-1 : Int32))), (.int (1 : Int32))])) _
    refine XS.icmpNo X27.here hx rfl (hb hby d2_34) rfl (teq (by decide)).2 ?_
    show Steps p.tables e below (T27.setTop (mkF m 37 #[.val (.ref a_FALLS_DUE_AFTER_WAITING), .val .null, .val (.ref h0.size), .val (.int (7 : Int32)), .val (.int (4 : Int32)), .val (.ref a_WAITS_AGAIN)] [])) _
    refine XS.aload X27.here hx rfl (hb hby d2_37) rfl rfl ?_
    show Steps p.tables e below (T27.setTop (mkF m 39 #[.val (.ref a_FALLS_DUE_AFTER_WAITING), .val .null, .val (.ref h0.size), .val (.int (7 : Int32)), .val (.int (4 : Int32)), .val (.ref a_WAITS_AGAIN)] [(.ref a_WAITS_AGAIN)])) _
    refine st29 _ ?_
    show Steps p.tables e below (T29.setTop (mkF m 42 #[.val (.ref a_FALLS_DUE_AFTER_WAITING), .val .null, .val (.ref h0.size), .val (.int (7 : Int32)), .val (.int (4 : Int32)), .val (.ref a_WAITS_AGAIN)] [(.int (-1 : Int32))])) _
    refine XS.aloadN X29.here hx rfl (hb hby d2_42) rfl rfl ?_
    show Steps p.tables e below (T29.setTop (mkF m 43 #[.val (.ref a_FALLS_DUE_AFTER_WAITING), .val .null, .val (.ref h0.size), .val (.int (7 : Int32)), .val (.int (4 : Int32)), .val (.ref a_WAITS_AGAIN)] [(.ref a_FALLS_DUE_AFTER_WAITING), (.int (-1 : Int32))])) _
    refine st30 _ ?_
    show Steps p.tables e below (T30.setTop (mkF m 46 #[.val (.ref a_FALLS_DUE_AFTER_WAITING), .val .null, .val (.ref h0.size), .val (.int (7 : Int32)), .val (.int (4 : Int32)), .val (.ref a_WAITS_AGAIN)] [(.int (1 : Int32)), (.int (-1 : Int32))])) _
    refine XS.ineg X30.here hx rfl (hb hby d2_46) rfl ?_
    show Steps p.tables e below (T30.setTop (mkF m 47 #[.val (.ref a_FALLS_DUE_AFTER_WAITING), .val .null, .val (.ref h0.size), .val (.int (7 : Int32)), .val (.int (4 : Int32)), .val (.ref a_WAITS_AGAIN)] [(.int (-(1 : Int32))), (.int (-1 : Int32))])) _
    refine XS.icmpNo X30.here hx rfl (hb hby d2_47) rfl (teq (by decide)).2 ?_
    show Steps p.tables e below (T30.setTop (mkF m 50 #[.val (.ref a_FALLS_DUE_AFTER_WAITING), .val .null, .val (.ref h0.size), .val (.int (7 : Int32)), .val (.int (4 : Int32)), .val (.ref a_WAITS_AGAIN)] [])) _
    refine XS.aload X30.here hx rfl (hb hby d2_50) rfl rfl ?_
    show Steps p.tables e below (T30.setTop (mkF m 52 #[.val (.ref a_FALLS_DUE_AFTER_WAITING), .val .null, .val (.ref h0.size), .val (.int (7 : Int32)), .val (.int (4 : Int32)), .val (.ref a_WAITS_AGAIN)] [(.ref a_WAITS_AGAIN)])) _
    refine XS.astoreN X30.here hx rfl (hb hby d2_52) rfl rfl (l' := #[.val (.ref a_FALLS_DUE_AFTER_WAITING), .val (.ref a_WAITS_AGAIN), .val (.ref h0.size), .val (.int (7 : Int32)), .val (.int (4 : Int32)), .val (.ref a_WAITS_AGAIN)]) rfl ?_
    show Steps p.tables e below (T30.setTop (mkF m 53 #[.val (.ref a_FALLS_DUE_AFTER_WAITING), .val (.ref a_WAITS_AGAIN), .val (.ref h0.size), .val (.int (7 : Int32)), .val (.int (4 : Int32)), .val (.ref a_WAITS_AGAIN)] [])) _
    refine XS.iinc X30.here hx rfl (hb hby d2_53) rfl (l' := #[.val (.ref a_FALLS_DUE_AFTER_WAITING), .val (.ref a_WAITS_AGAIN), .val (.ref h0.size), .val (.int (7 : Int32)), .val (.int (5 : Int32)), .val (.ref a_WAITS_AGAIN)]) rfl ?_
    show Steps p.tables e below (T30.setTop (mkF m 56 #[.val (.ref a_FALLS_DUE_AFTER_WAITING), .val (.ref a_WAITS_AGAIN), .val (.ref h0.size), .val (.int (7 : Int32)), .val (.int (5 : Int32)), .val (.ref a_WAITS_AGAIN)] [])) _
    refine XS.goto X30.here hx rfl (pc0 := 56) (pc' := 12) rfl (hb hby d2_56) (by decide) (by decide) ?_
    show Steps p.tables e below (T30.setTop (mkF m 12 #[.val (.ref a_FALLS_DUE_AFTER_WAITING), .val (.ref a_WAITS_AGAIN), .val (.ref h0.size), .val (.int (7 : Int32)), .val (.int (5 : Int32)), .val (.ref a_WAITS_AGAIN)] [])) _
    refine XS.iload X30.here hx rfl (hb hby d2_12) rfl ?_
    show Steps p.tables e below (T30.setTop (mkF m 14 #[.val (.ref a_FALLS_DUE_AFTER_WAITING), .val (.ref a_WAITS_AGAIN), .val (.ref h0.size), .val (.int (7 : Int32)), .val (.int (5 : Int32)), .val (.ref a_WAITS_AGAIN)] [(.int (5 : Int32))])) _
    refine XS.iloadN X30.here hx rfl (hb hby d2_14) rfl ?_
    show Steps p.tables e below (T30.setTop (mkF m 15 #[.val (.ref a_FALLS_DUE_AFTER_WAITING), .val (.ref a_WAITS_AGAIN), .val (.ref h0.size), .val (.int (7 : Int32)), .val (.int (5 : Int32)), .val (.ref a_WAITS_AGAIN)] [(.int (7 : Int32)), (.int (5 : Int32))])) _
    refine XS.icmpNo X30.here hx rfl (hb hby d2_15) rfl (tlt (by decide : (5 : Int32) < (7 : Int32))).2.1 ?_
    show Steps p.tables e below (T30.setTop (mkF m 18 #[.val (.ref a_FALLS_DUE_AFTER_WAITING), .val (.ref a_WAITS_AGAIN), .val (.ref h0.size), .val (.int (7 : Int32)), .val (.int (5 : Int32)), .val (.ref a_WAITS_AGAIN)] [])) _
    refine XS.aloadN X30.here hx rfl (hb hby d2_18) rfl rfl ?_
    show Steps p.tables e below (T30.setTop (mkF m 19 #[.val (.ref a_FALLS_DUE_AFTER_WAITING), .val (.ref a_WAITS_AGAIN), .val (.ref h0.size), .val (.int (7 : Int32)), .val (.int (5 : Int32)), .val (.ref a_WAITS_AGAIN)] [(.ref h0.size)])) _
    refine XS.iload X30.here hx rfl (hb hby d2_19) rfl ?_
    show Steps p.tables e below (T30.setTop (mkF m 21 #[.val (.ref a_FALLS_DUE_AFTER_WAITING), .val (.ref a_WAITS_AGAIN), .val (.ref h0.size), .val (.int (7 : Int32)), .val (.int (5 : Int32)), .val (.ref a_WAITS_AGAIN)] [(.int (5 : Int32)), (.ref h0.size)])) _
    refine X30.aaload hx (j := (5 : Int32)) (v := (.ref a_FALLS_DUE)) (by rw [e30]; exact Arv_.1) (State.isArrayOf_alike hZ.alike Arv_.2.1) rfl Arv_.2.2 (inb_of Sv ⟨by decide, by decide⟩) (Has.at Hv (inb_of Sv ⟨by decide, by decide⟩) rfl) (g := (mkF m 21 #[.val (.ref a_FALLS_DUE_AFTER_WAITING), .val (.ref a_WAITS_AGAIN), .val (.ref h0.size), .val (.int (7 : Int32)), .val (.int (5 : Int32)), .val (.ref a_WAITS_AGAIN)] [(.int (5 : Int32)), (.ref h0.size)])) rfl rfl (hb hby d2_21) _ ?_
    show Steps p.tables e below (T30.setTop (mkF m 22 #[.val (.ref a_FALLS_DUE_AFTER_WAITING), .val (.ref a_WAITS_AGAIN), .val (.ref h0.size), .val (.int (7 : Int32)), .val (.int (5 : Int32)), .val (.ref a_WAITS_AGAIN)] [(.ref a_FALLS_DUE)])) _
    refine XS.astore X30.here hx rfl (hb hby d2_22) rfl rfl (l' := #[.val (.ref a_FALLS_DUE_AFTER_WAITING), .val (.ref a_WAITS_AGAIN), .val (.ref h0.size), .val (.int (7 : Int32)), .val (.int (5 : Int32)), .val (.ref a_FALLS_DUE)]) rfl ?_
    show Steps p.tables e below (T30.setTop (mkF m 24 #[.val (.ref a_FALLS_DUE_AFTER_WAITING), .val (.ref a_WAITS_AGAIN), .val (.ref h0.size), .val (.int (7 : Int32)), .val (.int (5 : Int32)), .val (.ref a_FALLS_DUE)] [])) _
    refine XS.aload X30.here hx rfl (hb hby d2_24) rfl rfl ?_
    show Steps p.tables e below (T30.setTop (mkF m 26 #[.val (.ref a_FALLS_DUE_AFTER_WAITING), .val (.ref a_WAITS_AGAIN), .val (.ref h0.size), .val (.int (7 : Int32)), .val (.int (5 : Int32)), .val (.ref a_FALLS_DUE)] [(.ref a_FALLS_DUE)])) _
    refine st33 _ ?_
    show Steps p.tables e below (T33.setTop (mkF m 29 #[.val (.ref a_FALLS_DUE_AFTER_WAITING), .val (.ref a_WAITS_AGAIN), .val (.ref h0.size), .val (.int (7 : Int32)), .val (.int (5 : Int32)), .val (.ref a_FALLS_DUE)] [(.int (0 : Int32))])) _
    refine XS.aloadN X33.here hx rfl (hb hby d2_29) rfl rfl ?_
    show Steps p.tables e below (T33.setTop (mkF m 30 #[.val (.ref a_FALLS_DUE_AFTER_WAITING), .val (.ref a_WAITS_AGAIN), .val (.ref h0.size), .val (.int (7 : Int32)), .val (.int (5 : Int32)), .val (.ref a_FALLS_DUE)] [(.ref a_FALLS_DUE_AFTER_WAITING), (.int (0 : Int32))])) _
    refine st34 _ ?_
    show Steps p.tables e below (T34.setTop (mkF m 33 #[.val (.ref a_FALLS_DUE_AFTER_WAITING), .val (.ref a_WAITS_AGAIN), .val (.ref h0.size), .val (.int (7 : Int32)), .val (.int (5 : Int32)), .val (.ref a_FALLS_DUE)] [(.int (-1 : Int32)), (.int (0 : Int32))])) _
    refine XS.ineg X34.here hx rfl (hb hby d2_33) rfl ?_
    show Steps p.tables e below (T34.setTop (mkF m 34 #[.val (.ref a_FALLS_DUE_AFTER_WAITING), .val (.ref a_WAITS_AGAIN), .val (.ref h0.size), .val (.int (7 : Int32)), .val (.int (5 : Int32)), .val (.ref a_FALLS_DUE)] [(.int (-(-1 : Int32))), (.int (0 : Int32))])) _
    refine XS.icmpYes X34.here hx rfl (pc0 := 34) (pc' := 53) rfl (hb hby d2_34) rfl (feq (by decide)).2 (by decide) (by decide) ?_
    show Steps p.tables e below (T34.setTop (mkF m 53 #[.val (.ref a_FALLS_DUE_AFTER_WAITING), .val (.ref a_WAITS_AGAIN), .val (.ref h0.size), .val (.int (7 : Int32)), .val (.int (5 : Int32)), .val (.ref a_FALLS_DUE)] [])) _
    refine XS.iinc X34.here hx rfl (hb hby d2_53) rfl (l' := #[.val (.ref a_FALLS_DUE_AFTER_WAITING), .val (.ref a_WAITS_AGAIN), .val (.ref h0.size), .val (.int (7 : Int32)), .val (.int (6 : Int32)), .val (.ref a_FALLS_DUE)]) rfl ?_
    show Steps p.tables e below (T34.setTop (mkF m 56 #[.val (.ref a_FALLS_DUE_AFTER_WAITING), .val (.ref a_WAITS_AGAIN), .val (.ref h0.size), .val (.int (7 : Int32)), .val (.int (6 : Int32)), .val (.ref a_FALLS_DUE)] [])) _
    refine XS.goto X34.here hx rfl (pc0 := 56) (pc' := 12) rfl (hb hby d2_56) (by decide) (by decide) ?_
    show Steps p.tables e below (T34.setTop (mkF m 12 #[.val (.ref a_FALLS_DUE_AFTER_WAITING), .val (.ref a_WAITS_AGAIN), .val (.ref h0.size), .val (.int (7 : Int32)), .val (.int (6 : Int32)), .val (.ref a_FALLS_DUE)] [])) _
    refine XS.iload X34.here hx rfl (hb hby d2_12) rfl ?_
    show Steps p.tables e below (T34.setTop (mkF m 14 #[.val (.ref a_FALLS_DUE_AFTER_WAITING), .val (.ref a_WAITS_AGAIN), .val (.ref h0.size), .val (.int (7 : Int32)), .val (.int (6 : Int32)), .val (.ref a_FALLS_DUE)] [(.int (6 : Int32))])) _
    refine XS.iloadN X34.here hx rfl (hb hby d2_14) rfl ?_
    show Steps p.tables e below (T34.setTop (mkF m 15 #[.val (.ref a_FALLS_DUE_AFTER_WAITING), .val (.ref a_WAITS_AGAIN), .val (.ref h0.size), .val (.int (7 : Int32)), .val (.int (6 : Int32)), .val (.ref a_FALLS_DUE)] [(.int (7 : Int32)), (.int (6 : Int32))])) _
    refine XS.icmpNo X34.here hx rfl (hb hby d2_15) rfl (tlt (by decide : (6 : Int32) < (7 : Int32))).2.1 ?_
    show Steps p.tables e below (T34.setTop (mkF m 18 #[.val (.ref a_FALLS_DUE_AFTER_WAITING), .val (.ref a_WAITS_AGAIN), .val (.ref h0.size), .val (.int (7 : Int32)), .val (.int (6 : Int32)), .val (.ref a_FALLS_DUE)] [])) _
    refine XS.aloadN X34.here hx rfl (hb hby d2_18) rfl rfl ?_
    show Steps p.tables e below (T34.setTop (mkF m 19 #[.val (.ref a_FALLS_DUE_AFTER_WAITING), .val (.ref a_WAITS_AGAIN), .val (.ref h0.size), .val (.int (7 : Int32)), .val (.int (6 : Int32)), .val (.ref a_FALLS_DUE)] [(.ref h0.size)])) _
    refine XS.iload X34.here hx rfl (hb hby d2_19) rfl ?_
    show Steps p.tables e below (T34.setTop (mkF m 21 #[.val (.ref a_FALLS_DUE_AFTER_WAITING), .val (.ref a_WAITS_AGAIN), .val (.ref h0.size), .val (.int (7 : Int32)), .val (.int (6 : Int32)), .val (.ref a_FALLS_DUE)] [(.int (6 : Int32)), (.ref h0.size)])) _
    refine X34.aaload hx (j := (6 : Int32)) (v := (.ref a_TAKEN_BACK)) (by rw [e34]; exact Arv_.1) (State.isArrayOf_alike hZ.alike Arv_.2.1) rfl Arv_.2.2 (inb_of Sv ⟨by decide, by decide⟩) (Has.at Hv (inb_of Sv ⟨by decide, by decide⟩) rfl) (g := (mkF m 21 #[.val (.ref a_FALLS_DUE_AFTER_WAITING), .val (.ref a_WAITS_AGAIN), .val (.ref h0.size), .val (.int (7 : Int32)), .val (.int (6 : Int32)), .val (.ref a_FALLS_DUE)] [(.int (6 : Int32)), (.ref h0.size)])) rfl rfl (hb hby d2_21) _ ?_
    show Steps p.tables e below (T34.setTop (mkF m 22 #[.val (.ref a_FALLS_DUE_AFTER_WAITING), .val (.ref a_WAITS_AGAIN), .val (.ref h0.size), .val (.int (7 : Int32)), .val (.int (6 : Int32)), .val (.ref a_FALLS_DUE)] [(.ref a_TAKEN_BACK)])) _
    refine XS.astore X34.here hx rfl (hb hby d2_22) rfl rfl (l' := #[.val (.ref a_FALLS_DUE_AFTER_WAITING), .val (.ref a_WAITS_AGAIN), .val (.ref h0.size), .val (.int (7 : Int32)), .val (.int (6 : Int32)), .val (.ref a_TAKEN_BACK)]) rfl ?_
    show Steps p.tables e below (T34.setTop (mkF m 24 #[.val (.ref a_FALLS_DUE_AFTER_WAITING), .val (.ref a_WAITS_AGAIN), .val (.ref h0.size), .val (.int (7 : Int32)), .val (.int (6 : Int32)), .val (.ref a_TAKEN_BACK)] [])) _
    refine XS.aload X34.here hx rfl (hb hby d2_24) rfl rfl ?_
    show Steps p.tables e below (T34.setTop (mkF m 26 #[.val (.ref a_FALLS_DUE_AFTER_WAITING), .val (.ref a_WAITS_AGAIN), .val (.ref h0.size), .val (.int (7 : Int32)), .val (.int (6 : Int32)), .val (.ref a_TAKEN_BACK)] [(.ref a_TAKEN_BACK)])) _
    refine st37 _ ?_
    show Steps p.tables e below (T37.setTop (mkF m 29 #[.val (.ref a_FALLS_DUE_AFTER_WAITING), .val (.ref a_WAITS_AGAIN), .val (.ref h0.size), .val (.int (7 : Int32)), .val (.int (6 : Int32)), .val (.ref a_TAKEN_BACK)] [(.int (0 : Int32))])) _
    refine XS.aloadN X37.here hx rfl (hb hby d2_29) rfl rfl ?_
    show Steps p.tables e below (T37.setTop (mkF m 30 #[.val (.ref a_FALLS_DUE_AFTER_WAITING), .val (.ref a_WAITS_AGAIN), .val (.ref h0.size), .val (.int (7 : Int32)), .val (.int (6 : Int32)), .val (.ref a_TAKEN_BACK)] [(.ref a_FALLS_DUE_AFTER_WAITING), (.int (0 : Int32))])) _
    refine st38 _ ?_
    show Steps p.tables e below (T38.setTop (mkF m 33 #[.val (.ref a_FALLS_DUE_AFTER_WAITING), .val (.ref a_WAITS_AGAIN), .val (.ref h0.size), .val (.int (7 : Int32)), .val (.int (6 : Int32)), .val (.ref a_TAKEN_BACK)] [(.int (-1 : Int32)), (.int (0 : Int32))])) _
    refine XS.ineg X38.here hx rfl (hb hby d2_33) rfl ?_
    show Steps p.tables e below (T38.setTop (mkF m 34 #[.val (.ref a_FALLS_DUE_AFTER_WAITING), .val (.ref a_WAITS_AGAIN), .val (.ref h0.size), .val (.int (7 : Int32)), .val (.int (6 : Int32)), .val (.ref a_TAKEN_BACK)] [(.int (-(-1 : Int32))), (.int (0 : Int32))])) _
    refine XS.icmpYes X38.here hx rfl (pc0 := 34) (pc' := 53) rfl (hb hby d2_34) rfl (feq (by decide)).2 (by decide) (by decide) ?_
    show Steps p.tables e below (T38.setTop (mkF m 53 #[.val (.ref a_FALLS_DUE_AFTER_WAITING), .val (.ref a_WAITS_AGAIN), .val (.ref h0.size), .val (.int (7 : Int32)), .val (.int (6 : Int32)), .val (.ref a_TAKEN_BACK)] [])) _
    refine XS.iinc X38.here hx rfl (hb hby d2_53) rfl (l' := #[.val (.ref a_FALLS_DUE_AFTER_WAITING), .val (.ref a_WAITS_AGAIN), .val (.ref h0.size), .val (.int (7 : Int32)), .val (.int (7 : Int32)), .val (.ref a_TAKEN_BACK)]) rfl ?_
    show Steps p.tables e below (T38.setTop (mkF m 56 #[.val (.ref a_FALLS_DUE_AFTER_WAITING), .val (.ref a_WAITS_AGAIN), .val (.ref h0.size), .val (.int (7 : Int32)), .val (.int (7 : Int32)), .val (.ref a_TAKEN_BACK)] [])) _
    refine XS.goto X38.here hx rfl (pc0 := 56) (pc' := 12) rfl (hb hby d2_56) (by decide) (by decide) ?_
    show Steps p.tables e below (T38.setTop (mkF m 12 #[.val (.ref a_FALLS_DUE_AFTER_WAITING), .val (.ref a_WAITS_AGAIN), .val (.ref h0.size), .val (.int (7 : Int32)), .val (.int (7 : Int32)), .val (.ref a_TAKEN_BACK)] [])) _
    refine XS.iload X38.here hx rfl (hb hby d2_12) rfl ?_
    show Steps p.tables e below (T38.setTop (mkF m 14 #[.val (.ref a_FALLS_DUE_AFTER_WAITING), .val (.ref a_WAITS_AGAIN), .val (.ref h0.size), .val (.int (7 : Int32)), .val (.int (7 : Int32)), .val (.ref a_TAKEN_BACK)] [(.int (7 : Int32))])) _
    refine XS.iloadN X38.here hx rfl (hb hby d2_14) rfl ?_
    show Steps p.tables e below (T38.setTop (mkF m 15 #[.val (.ref a_FALLS_DUE_AFTER_WAITING), .val (.ref a_WAITS_AGAIN), .val (.ref h0.size), .val (.int (7 : Int32)), .val (.int (7 : Int32)), .val (.ref a_TAKEN_BACK)] [(.int (7 : Int32)), (.int (7 : Int32))])) _
    refine XS.icmpYes X38.here hx rfl (pc0 := 15) (pc' := 59) rfl (hb hby d2_15) rfl (flt (by decide : ¬ ((7 : Int32) < (7 : Int32)))).2.1 (by decide) (by decide) ?_
    show Steps p.tables e below (T38.setTop (mkF m 59 #[.val (.ref a_FALLS_DUE_AFTER_WAITING), .val (.ref a_WAITS_AGAIN), .val (.ref h0.size), .val (.int (7 : Int32)), .val (.int (7 : Int32)), .val (.ref a_TAKEN_BACK)] [])) _
    refine XS.aloadN X38.here hx rfl (hb hby d2_59) rfl rfl ?_
    show Steps p.tables e below (T38.setTop (mkF m 60 #[.val (.ref a_FALLS_DUE_AFTER_WAITING), .val (.ref a_WAITS_AGAIN), .val (.ref h0.size), .val (.int (7 : Int32)), .val (.int (7 : Int32)), .val (.ref a_TAKEN_BACK)] [(.ref a_WAITS_AGAIN)])) _
    jvm_step X38.here [X38.here.top, hx, (hb hby d2_60), X38.method', Bd.returns, Value.isRef, FieldType.isReference]
    first | (intro acts; rw [hr _ acts rfl rfl rfl]) | rw [hr _ _ rfl rfl rfl]
    exact Steps.refl _
  · show Q2_r3 Z a_NONE a_WAITS a_WAITS_NO_MORE a_FALLS_DUE_AFTER_WAITING a_WAITS_AGAIN a_FALLS_DUE a_TAKEN_BACK a_VALUES kV h0 n0 _ T38.heap _
    rw [e38]
    exact ⟨rfl, N2, Ex2⟩
def Q2_r4 (Z : State) (a_NONE a_WAITS a_WAITS_NO_MORE a_FALLS_DUE_AFTER_WAITING a_WAITS_AGAIN a_FALLS_DUE a_TAKEN_BACK a_VALUES : Addr) (kV : ClassId) (h0 : Heap) (n0 : Nat) (v : Option Value) (h : Heap) (L : List Loc) : Prop := v = some (.ref a_FALLS_DUE_AFTER_WAITING) ∧ Fr n0 L ∧ Ext h0 h
set_option maxRecDepth 65536 in
set_option maxHeartbeats 40000000 in
theorem rm2_r4 (l : Launch) (Z : State) (a0 : Array Value) (hw : ∀ d ∈ tables_1, d.before a0 Z = true) (ws : List Jvm.Cond)  (a_NONE a_WAITS a_WAITS_NO_MORE a_FALLS_DUE_AFTER_WAITING a_WAITS_AGAIN a_FALLS_DUE a_TAKEN_BACK a_VALUES : Addr) (kV : ClassId) (h0 : Heap) (n0 : Nat) (Z0 : n0 ≤ h0.size) (WW : Own Z h0 a_NONE a_WAITS a_WAITS_NO_MORE a_FALLS_DUE_AFTER_WAITING a_WAITS_AGAIN a_FALLS_DUE a_TAKEN_BACK a_VALUES kV)  :
    MetFree l (⟨"com/example/acompte/acompte/DocumentKind$Vat", "opposite", "()Lcom/example/acompte/acompte/DocumentKind$Vat;"⟩ : MethodName) (head1 (Jvm.Cond.code (⟨"com/example/acompte/acompte/DocumentKind$Vat", "opposite", "()Lcom/example/acompte/acompte/DocumentKind$Vat;"⟩ : MethodName) prog_12_method_6_code 6 (some (.object "com/example/acompte/acompte/DocumentKind$Vat")) :: ws) ({ frames := 2, cells := 1, slots := 7, locals := 25 } : Room)) (fun a U => a = #[(.ref a_WAITS_AGAIN)] ∧ Z.Warmed39 U.vm ∧ U.heap = h0) (fun _ _ _ _ _ => True) (fun _ U o U' => ∃ v L, o = .returned v ∧ Q2_r4 Z a_NONE a_WAITS a_WAITS_NO_MORE a_FALLS_DUE_AFTER_WAITING a_WAITS_AGAIN a_FALLS_DUE a_TAKEN_BACK a_VALUES kV h0 n0 v U'.heap L ∧ FrameEnd U o U' L ({ frames := 2, cells := 1, slots := 7, locals := 25 } : Room).cells ({ frames := 2, cells := 1, slots := 7, locals := 25 } : Room).slots) := by
  refine MetFree.of_bodySF (plainFor_of_name pn_2) hisR ?_
  intro p e s m args below meth c s₁ Bd hml0 hP hK
  have WW0 := WW
  obtain ⟨S_NONE, S_WAITS, S_WAITS_NO_MORE, S_FALLS_DUE_AFTER_WAITING, S_WAITS_AGAIN, S_FALLS_DUE, S_TAKEN_BACK, S_VALUES, E_NONE, E_WAITS, E_WAITS_NO_MORE, E_FALLS_DUE_AFTER_WAITING, E_WAITS_AGAIN, E_FALLS_DUE, E_TAKEN_BACK, E_VALUES, Fw_NONE, Fw_WAITS, Fw_WAITS_NO_MORE, Fw_FALLS_DUE_AFTER_WAITING, Fw_WAITS_AGAIN, Fw_FALLS_DUE, Fw_TAKEN_BACK, Fd_NONE, Fd_WAITS, Fd_WAITS_NO_MORE, Fd_FALLS_DUE_AFTER_WAITING, Fd_WAITS_AGAIN, Fd_FALLS_DUE, Fd_TAKEN_BACK, V_VALUES⟩ := WW0
  obtain ⟨rfl, hZ, hh⟩ := hP
  have hx := Bd.exec
  have hby := Bd.bytes
  have hml : c.maxLocals = 6 := hml0
  have hown : s.vm.findClass "com/example/acompte/acompte/DocumentKind$Vat" = some m.cls := findClass_of_methodNamed Bd.named
  have hnm := (name_of_methodNamed Bd.named Bd.method).1
  have X0 : Stand p l e ({ frames := 2, cells := 1, slots := 7, locals := 25 } : Room) s m #[(.ref a_WAITS_AGAIN)] below meth c s₁ [] 0 0 := Stand.of_body Bd
  have e0 : s₁.heap = h0 := by rw [← hh, Bd.state]; rfl
  have N0 := Fr.nil n0
  have pre0 : ∀ t, Steps p.tables e below (s₁.setTop (mkF m 0 #[.val (.ref a_WAITS_AGAIN), .unset, .unset, .unset, .unset, .unset] [])) t → Steps p.tables e below (s₁.setTop (entryFrame m #[(.ref a_WAITS_AGAIN)] 6)) t := fun t k => castTop (ef_2 m a_WAITS_AGAIN) k
  -- 3. LAWS
  -- pc 2: com/example/acompte/acompte/DocumentKind$Vat.values by its contract rm3
  obtain ⟨_, _, ⟨T2, L2, k2, n2⟩, -, X2, ⟨Lc2, hQ2, l2, y2, z2⟩, st2⟩ := Jvm.LawKit.callS X0 hx (y := (⟨"com/example/acompte/acompte/DocumentKind$Vat", "values", "()[Lcom/example/acompte/acompte/DocumentKind$Vat;"⟩ : MethodName)) hown (mvT hZ (hw _ (List.mem_of_getElem? (i := 13) rfl))) (mvT hZ (hw _ (List.mem_of_getElem? (i := 14) rfl))) (mvT hZ (hw _ (List.mem_of_getElem? (i := 6) rfl))) (mvT hZ (hw _ (List.mem_of_getElem? (i := 15) rfl))) (by decide) (backOf (W := 0) (rm3_v l Z a0 hw []  a_NONE a_WAITS a_WAITS_NO_MORE a_FALLS_DUE_AFTER_WAITING a_WAITS_AGAIN a_FALLS_DUE a_TAKEN_BACK a_VALUES kV h0 n0 Z0 WW) hZ (hw _ (List.mem_of_getElem? (i := 15) rfl)) (hw _ (List.mem_of_getElem? (i := 6) rfl)) (by decide) (by decide)) (g := (mkF m 2 #[.val (.ref a_WAITS_AGAIN), .val .null, .unset, .unset, .unset, .unset] [])) rfl (by rw [hml]; rfl) (argsL := []) (rest := []) (lenOf pdw_1 rfl) rfl (by show 2 * 0 + _ ≤ _; exact Nat.le_of_eq rfl) (hb hby d2_2) (fun _ _ => ⟨rfl, e0, (by decide : 0 + 1 ≤ _), (by decide : 0 + 7 ≤ _)⟩)
  dsimp only [Pt.U, Pt.locs, Pt.cells, Pt.slots] at X2 l2 y2 z2 st2 hQ2
  subst l2 y2 z2
  obtain ⟨rfl, N2q, Ex2, V2⟩ := hQ2
  have WW2 := WW.ext Ex2
  obtain ⟨S_NONE, S_WAITS, S_WAITS_NO_MORE, S_FALLS_DUE_AFTER_WAITING, S_WAITS_AGAIN, S_FALLS_DUE, S_TAKEN_BACK, S_VALUES, E_NONE, E_WAITS, E_WAITS_NO_MORE, E_FALLS_DUE_AFTER_WAITING, E_WAITS_AGAIN, E_FALLS_DUE, E_TAKEN_BACK, E_VALUES, Fw_NONE, Fw_WAITS, Fw_WAITS_NO_MORE, Fw_FALLS_DUE_AFTER_WAITING, Fw_WAITS_AGAIN, Fw_FALLS_DUE, Fw_TAKEN_BACK, Fd_NONE, Fd_WAITS, Fd_WAITS_NO_MORE, Fd_FALLS_DUE_AFTER_WAITING, Fd_WAITS_AGAIN, Fd_FALLS_DUE, Fd_TAKEN_BACK, V_VALUES⟩ := WW2
  obtain ⟨clv, Arv_, qv, Sv, Nv, Hv, Gv⟩ := V2
  have N2 := Fr.app N0 N2q
  obtain ⟨T5, X5, e5, st5⟩ := getF X2 hx hZ hown (host := "") (Or.inl (hw _ (List.mem_of_getElem? (i := 34) rfl))) Via.refl rfl (Fw_NONE) (g := (mkF m 26 #[.val (.ref a_WAITS_AGAIN), .val .null, .val (.ref h0.size), .val (.int (7 : Int32)), .val (.int (0 : Int32)), .val (.ref a_NONE)] [(.ref a_NONE)])) rfl rfl (hb hby d2_26)
  obtain ⟨T7, X7, e7, st7⟩ := getF X5 hx hZ hown (host := "") (Or.inl (hw _ (List.mem_of_getElem? (i := 34) rfl))) Via.refl e5 (Fw_WAITS_AGAIN) (g := (mkF m 30 #[.val (.ref a_WAITS_AGAIN), .val .null, .val (.ref h0.size), .val (.int (7 : Int32)), .val (.int (0 : Int32)), .val (.ref a_NONE)] [(.ref a_WAITS_AGAIN), (.int (0 : Int32))])) rfl rfl (hb hby d2_30)
  obtain ⟨T10, X10, e10, st10⟩ := getF X7 hx hZ hown (host := "") (Or.inl (hw _ (List.mem_of_getElem? (i := 34) rfl))) Via.refl e7 (Fw_WAITS) (g := (mkF m 26 #[.val (.ref a_WAITS_AGAIN), .val .null, .val (.ref h0.size), .val (.int (7 : Int32)), .val (.int (1 : Int32)), .val (.ref a_WAITS)] [(.ref a_WAITS)])) rfl rfl (hb hby d2_26)
  obtain ⟨T11, X11, e11, st11⟩ := getF X10 hx hZ hown (host := "") (Or.inl (hw _ (List.mem_of_getElem? (i := 34) rfl))) Via.refl e10 (Fw_WAITS_AGAIN) (g := (mkF m 30 #[.val (.ref a_WAITS_AGAIN), .val .null, .val (.ref h0.size), .val (.int (7 : Int32)), .val (.int (1 : Int32)), .val (.ref a_WAITS)] [(.ref a_WAITS_AGAIN), (.int (1 : Int32))])) rfl rfl (hb hby d2_30)
  obtain ⟨T14, X14, e14, st14⟩ := getF X11 hx hZ hown (host := "") (Or.inl (hw _ (List.mem_of_getElem? (i := 34) rfl))) Via.refl e11 (Fw_WAITS_NO_MORE) (g := (mkF m 26 #[.val (.ref a_WAITS_AGAIN), .val .null, .val (.ref h0.size), .val (.int (7 : Int32)), .val (.int (2 : Int32)), .val (.ref a_WAITS_NO_MORE)] [(.ref a_WAITS_NO_MORE)])) rfl rfl (hb hby d2_26)
  obtain ⟨T15, X15, e15, st15⟩ := getF X14 hx hZ hown (host := "") (Or.inl (hw _ (List.mem_of_getElem? (i := 34) rfl))) Via.refl e14 (Fw_WAITS_AGAIN) (g := (mkF m 30 #[.val (.ref a_WAITS_AGAIN), .val .null, .val (.ref h0.size), .val (.int (7 : Int32)), .val (.int (2 : Int32)), .val (.ref a_WAITS_NO_MORE)] [(.ref a_WAITS_AGAIN), (.int (-1 : Int32))])) rfl rfl (hb hby d2_30)
  obtain ⟨T17, X17, e17, st17⟩ := getF X15 hx hZ hown (host := "") (Or.inl (hw _ (List.mem_of_getElem? (i := 36) rfl))) Via.refl e15 (Fd_WAITS_NO_MORE) (g := (mkF m 39 #[.val (.ref a_WAITS_AGAIN), .val .null, .val (.ref h0.size), .val (.int (7 : Int32)), .val (.int (2 : Int32)), .val (.ref a_WAITS_NO_MORE)] [(.ref a_WAITS_NO_MORE)])) rfl rfl (hb hby d2_39)
  obtain ⟨T19, X19, e19, st19⟩ := getF X17 hx hZ hown (host := "") (Or.inl (hw _ (List.mem_of_getElem? (i := 36) rfl))) Via.refl e17 (Fd_WAITS_AGAIN) (g := (mkF m 43 #[.val (.ref a_WAITS_AGAIN), .val .null, .val (.ref h0.size), .val (.int (7 : Int32)), .val (.int (2 : Int32)), .val (.ref a_WAITS_NO_MORE)] [(.ref a_WAITS_AGAIN), (.int (0 : Int32))])) rfl rfl (hb hby d2_43)
  obtain ⟨T22, X22, e22, st22⟩ := getF X19 hx hZ hown (host := "") (Or.inl (hw _ (List.mem_of_getElem? (i := 34) rfl))) Via.refl e19 (Fw_FALLS_DUE_AFTER_WAITING) (g := (mkF m 26 #[.val (.ref a_WAITS_AGAIN), .val .null, .val (.ref h0.size), .val (.int (7 : Int32)), .val (.int (3 : Int32)), .val (.ref a_FALLS_DUE_AFTER_WAITING)] [(.ref a_FALLS_DUE_AFTER_WAITING)])) rfl rfl (hb hby d2_26)
  obtain ⟨T23, X23, e23, st23⟩ := getF X22 hx hZ hown (host := "") (Or.inl (hw _ (List.mem_of_getElem? (i := 34) rfl))) Via.refl e22 (Fw_WAITS_AGAIN) (g := (mkF m 30 #[.val (.ref a_WAITS_AGAIN), .val .null, .val (.ref h0.size), .val (.int (7 : Int32)), .val (.int (3 : Int32)), .val (.ref a_FALLS_DUE_AFTER_WAITING)] [(.ref a_WAITS_AGAIN), (.int (-1 : Int32))])) rfl rfl (hb hby d2_30)
  obtain ⟨T25, X25, e25, st25⟩ := getF X23 hx hZ hown (host := "") (Or.inl (hw _ (List.mem_of_getElem? (i := 36) rfl))) Via.refl e23 (Fd_FALLS_DUE_AFTER_WAITING) (g := (mkF m 39 #[.val (.ref a_WAITS_AGAIN), .val .null, .val (.ref h0.size), .val (.int (7 : Int32)), .val (.int (3 : Int32)), .val (.ref a_FALLS_DUE_AFTER_WAITING)] [(.ref a_FALLS_DUE_AFTER_WAITING)])) rfl rfl (hb hby d2_39)
  obtain ⟨T26, X26, e26, st26⟩ := getF X25 hx hZ hown (host := "") (Or.inl (hw _ (List.mem_of_getElem? (i := 36) rfl))) Via.refl e25 (Fd_WAITS_AGAIN) (g := (mkF m 43 #[.val (.ref a_WAITS_AGAIN), .val .null, .val (.ref h0.size), .val (.int (7 : Int32)), .val (.int (3 : Int32)), .val (.ref a_FALLS_DUE_AFTER_WAITING)] [(.ref a_WAITS_AGAIN), (.int (1 : Int32))])) rfl rfl (hb hby d2_43)
  obtain ⟨T29, X29, e29, st29⟩ := getF X26 hx hZ hown (host := "") (Or.inl (hw _ (List.mem_of_getElem? (i := 34) rfl))) Via.refl e26 (Fw_WAITS_AGAIN) (g := (mkF m 26 #[.val (.ref a_WAITS_AGAIN), .val (.ref a_FALLS_DUE_AFTER_WAITING), .val (.ref h0.size), .val (.int (7 : Int32)), .val (.int (4 : Int32)), .val (.ref a_WAITS_AGAIN)] [(.ref a_WAITS_AGAIN)])) rfl rfl (hb hby d2_26)
  obtain ⟨T30, X30, e30, st30⟩ := getF X29 hx hZ hown (host := "") (Or.inl (hw _ (List.mem_of_getElem? (i := 34) rfl))) Via.refl e29 (Fw_WAITS_AGAIN) (g := (mkF m 30 #[.val (.ref a_WAITS_AGAIN), .val (.ref a_FALLS_DUE_AFTER_WAITING), .val (.ref h0.size), .val (.int (7 : Int32)), .val (.int (4 : Int32)), .val (.ref a_WAITS_AGAIN)] [(.ref a_WAITS_AGAIN), (.int (1 : Int32))])) rfl rfl (hb hby d2_30)
  obtain ⟨T33, X33, e33, st33⟩ := getF X30 hx hZ hown (host := "") (Or.inl (hw _ (List.mem_of_getElem? (i := 34) rfl))) Via.refl e30 (Fw_FALLS_DUE) (g := (mkF m 26 #[.val (.ref a_WAITS_AGAIN), .val (.ref a_FALLS_DUE_AFTER_WAITING), .val (.ref h0.size), .val (.int (7 : Int32)), .val (.int (5 : Int32)), .val (.ref a_FALLS_DUE)] [(.ref a_FALLS_DUE)])) rfl rfl (hb hby d2_26)
  obtain ⟨T34, X34, e34, st34⟩ := getF X33 hx hZ hown (host := "") (Or.inl (hw _ (List.mem_of_getElem? (i := 34) rfl))) Via.refl e33 (Fw_WAITS_AGAIN) (g := (mkF m 30 #[.val (.ref a_WAITS_AGAIN), .val (.ref a_FALLS_DUE_AFTER_WAITING), .val (.ref h0.size), .val (.int (7 : Int32)), .val (.int (5 : Int32)), .val (.ref a_FALLS_DUE)] [(.ref a_WAITS_AGAIN), (.int (0 : Int32))])) rfl rfl (hb hby d2_30)
  obtain ⟨T37, X37, e37, st37⟩ := getF X34 hx hZ hown (host := "") (Or.inl (hw _ (List.mem_of_getElem? (i := 34) rfl))) Via.refl e34 (Fw_TAKEN_BACK) (g := (mkF m 26 #[.val (.ref a_WAITS_AGAIN), .val (.ref a_FALLS_DUE_AFTER_WAITING), .val (.ref h0.size), .val (.int (7 : Int32)), .val (.int (6 : Int32)), .val (.ref a_TAKEN_BACK)] [(.ref a_TAKEN_BACK)])) rfl rfl (hb hby d2_26)
  obtain ⟨T38, X38, e38, st38⟩ := getF X37 hx hZ hown (host := "") (Or.inl (hw _ (List.mem_of_getElem? (i := 34) rfl))) Via.refl e37 (Fw_WAITS_AGAIN) (g := (mkF m 30 #[.val (.ref a_WAITS_AGAIN), .val (.ref a_FALLS_DUE_AFTER_WAITING), .val (.ref h0.size), .val (.int (7 : Int32)), .val (.int (6 : Int32)), .val (.ref a_TAKEN_BACK)] [(.ref a_WAITS_AGAIN), (.int (0 : Int32))])) rfl rfl (hb hby d2_30)
  obtain ⟨fs, hr, hrun, hended, hW, hsame⟩ := X38.leave (v := some (.ref a_FALLS_DUE_AFTER_WAITING)) (fun h => by rw [Bd.returns] at h; cases h)
  refine ⟨_, _, pre0 _ ?_, hrun, hended, _, _, rfl, ?_, ⟨_, rfl⟩, hW, hsame.mono (by decide) (by decide)⟩
  -- 4. STEPS
  · show Steps p.tables e below (s₁.setTop (mkF m 0 #[.val (.ref a_WAITS_AGAIN), .unset, .unset, .unset, .unset, .unset] [])) _
    refine XS.aconstNull X0.here hx rfl (hb hby d2_0) ?_
    show Steps p.tables e below (s₁.setTop (mkF m 1 #[.val (.ref a_WAITS_AGAIN), .unset, .unset, .unset, .unset, .unset] [.null])) _
    refine XS.astoreN X0.here hx rfl (hb hby d2_1) rfl rfl (l' := #[.val (.ref a_WAITS_AGAIN), .val .null, .unset, .unset, .unset, .unset]) rfl ?_
    show Steps p.tables e below (s₁.setTop (mkF m 2 #[.val (.ref a_WAITS_AGAIN), .val .null, .unset, .unset, .unset, .unset] [])) _
    refine st2 _ ?_
    show Steps p.tables e below (T2.setTop (mkF m 5 #[.val (.ref a_WAITS_AGAIN), .val .null, .unset, .unset, .unset, .unset] [(.ref h0.size)])) _
    refine XS.astoreN X2.here hx rfl (hb hby d2_5) rfl rfl (l' := #[.val (.ref a_WAITS_AGAIN), .val .null, .val (.ref h0.size), .unset, .unset, .unset]) rfl ?_
    show Steps p.tables e below (T2.setTop (mkF m 6 #[.val (.ref a_WAITS_AGAIN), .val .null, .val (.ref h0.size), .unset, .unset, .unset] [])) _
    refine XS.aloadN X2.here hx rfl (hb hby d2_6) rfl rfl ?_
    show Steps p.tables e below (T2.setTop (mkF m 7 #[.val (.ref a_WAITS_AGAIN), .val .null, .val (.ref h0.size), .unset, .unset, .unset] [(.ref h0.size)])) _
    refine X2.arraylength hx (by exact Arv_.1) (State.isArrayOf_alike hZ.alike Arv_.2.1) (g := (mkF m 7 #[.val (.ref a_WAITS_AGAIN), .val .null, .val (.ref h0.size), .unset, .unset, .unset] [(.ref h0.size)])) rfl rfl (hb hby d2_7) _ ?_
    rw [len_of Sv Nv]
    show Steps p.tables e below (T2.setTop (mkF m 8 #[.val (.ref a_WAITS_AGAIN), .val .null, .val (.ref h0.size), .unset, .unset, .unset] [(.int (7 : Int32))])) _
    refine XS.istoreN X2.here hx rfl (hb hby d2_8) rfl (l' := #[.val (.ref a_WAITS_AGAIN), .val .null, .val (.ref h0.size), .val (.int (7 : Int32)), .unset, .unset]) rfl ?_
    show Steps p.tables e below (T2.setTop (mkF m 9 #[.val (.ref a_WAITS_AGAIN), .val .null, .val (.ref h0.size), .val (.int (7 : Int32)), .unset, .unset] [])) _
    refine XS.iconst X2.here hx rfl (hb hby d2_9) ?_
    show Steps p.tables e below (T2.setTop (mkF m 10 #[.val (.ref a_WAITS_AGAIN), .val .null, .val (.ref h0.size), .val (.int (7 : Int32)), .unset, .unset] [(.int (0 : Int32))])) _
    refine XS.istore X2.here hx rfl (hb hby d2_10) rfl (l' := #[.val (.ref a_WAITS_AGAIN), .val .null, .val (.ref h0.size), .val (.int (7 : Int32)), .val (.int (0 : Int32)), .unset]) rfl ?_
    show Steps p.tables e below (T2.setTop (mkF m 12 #[.val (.ref a_WAITS_AGAIN), .val .null, .val (.ref h0.size), .val (.int (7 : Int32)), .val (.int (0 : Int32)), .unset] [])) _
    refine XS.iload X2.here hx rfl (hb hby d2_12) rfl ?_
    show Steps p.tables e below (T2.setTop (mkF m 14 #[.val (.ref a_WAITS_AGAIN), .val .null, .val (.ref h0.size), .val (.int (7 : Int32)), .val (.int (0 : Int32)), .unset] [(.int (0 : Int32))])) _
    refine XS.iloadN X2.here hx rfl (hb hby d2_14) rfl ?_
    show Steps p.tables e below (T2.setTop (mkF m 15 #[.val (.ref a_WAITS_AGAIN), .val .null, .val (.ref h0.size), .val (.int (7 : Int32)), .val (.int (0 : Int32)), .unset] [(.int (7 : Int32)), (.int (0 : Int32))])) _
    refine XS.icmpNo X2.here hx rfl (hb hby d2_15) rfl (tlt (by decide : (0 : Int32) < (7 : Int32))).2.1 ?_
    show Steps p.tables e below (T2.setTop (mkF m 18 #[.val (.ref a_WAITS_AGAIN), .val .null, .val (.ref h0.size), .val (.int (7 : Int32)), .val (.int (0 : Int32)), .unset] [])) _
    refine XS.aloadN X2.here hx rfl (hb hby d2_18) rfl rfl ?_
    show Steps p.tables e below (T2.setTop (mkF m 19 #[.val (.ref a_WAITS_AGAIN), .val .null, .val (.ref h0.size), .val (.int (7 : Int32)), .val (.int (0 : Int32)), .unset] [(.ref h0.size)])) _
    refine XS.iload X2.here hx rfl (hb hby d2_19) rfl ?_
    show Steps p.tables e below (T2.setTop (mkF m 21 #[.val (.ref a_WAITS_AGAIN), .val .null, .val (.ref h0.size), .val (.int (7 : Int32)), .val (.int (0 : Int32)), .unset] [(.int (0 : Int32)), (.ref h0.size)])) _
    refine X2.aaload hx (j := (0 : Int32)) (v := (.ref a_NONE)) (by exact Arv_.1) (State.isArrayOf_alike hZ.alike Arv_.2.1) rfl Arv_.2.2 (inb_of Sv ⟨by decide, by decide⟩) (Has.at Hv (inb_of Sv ⟨by decide, by decide⟩) rfl) (g := (mkF m 21 #[.val (.ref a_WAITS_AGAIN), .val .null, .val (.ref h0.size), .val (.int (7 : Int32)), .val (.int (0 : Int32)), .unset] [(.int (0 : Int32)), (.ref h0.size)])) rfl rfl (hb hby d2_21) _ ?_
    show Steps p.tables e below (T2.setTop (mkF m 22 #[.val (.ref a_WAITS_AGAIN), .val .null, .val (.ref h0.size), .val (.int (7 : Int32)), .val (.int (0 : Int32)), .unset] [(.ref a_NONE)])) _
    refine XS.astore X2.here hx rfl (hb hby d2_22) rfl rfl (l' := #[.val (.ref a_WAITS_AGAIN), .val .null, .val (.ref h0.size), .val (.int (7 : Int32)), .val (.int (0 : Int32)), .val (.ref a_NONE)]) rfl ?_
    show Steps p.tables e below (T2.setTop (mkF m 24 #[.val (.ref a_WAITS_AGAIN), .val .null, .val (.ref h0.size), .val (.int (7 : Int32)), .val (.int (0 : Int32)), .val (.ref a_NONE)] [])) _
    refine XS.aload X2.here hx rfl (hb hby d2_24) rfl rfl ?_
    show Steps p.tables e below (T2.setTop (mkF m 26 #[.val (.ref a_WAITS_AGAIN), .val .null, .val (.ref h0.size), .val (.int (7 : Int32)), .val (.int (0 : Int32)), .val (.ref a_NONE)] [(.ref a_NONE)])) _
    refine st5 _ ?_
    show Steps p.tables e below (T5.setTop (mkF m 29 #[.val (.ref a_WAITS_AGAIN), .val .null, .val (.ref h0.size), .val (.int (7 : Int32)), .val (.int (0 : Int32)), .val (.ref a_NONE)] [(.int (0 : Int32))])) _
    refine XS.aloadN X5.here hx rfl (hb hby d2_29) rfl rfl ?_
    show Steps p.tables e below (T5.setTop (mkF m 30 #[.val (.ref a_WAITS_AGAIN), .val .null, .val (.ref h0.size), .val (.int (7 : Int32)), .val (.int (0 : Int32)), .val (.ref a_NONE)] [(.ref a_WAITS_AGAIN), (.int (0 : Int32))])) _
    refine st7 _ ?_
    show Steps p.tables e below (T7.setTop (mkF m 33 #[.val (.ref a_WAITS_AGAIN), .val .null, .val (.ref h0.size), .val (.int (7 : Int32)), .val (.int (0 : Int32)), .val (.ref a_NONE)] [(.int (1 : Int32)), (.int (0 : Int32))])) _
    refine XS.ineg X7.here hx rfl (hb hby d2_33) rfl ?_
    show Steps p.tables e below (T7.setTop (mkF m 34 #[.val (.ref a_WAITS_AGAIN), .val .null, .val (.ref h0.size), .val (.int (7 : Int32)), .val (.int (0 : Int32)), .val (.ref a_NONE)] [(.int (-(1 : Int32))), (.int (0 : Int32))])) _
    refine XS.icmpYes X7.here hx rfl (pc0 := 34) (pc' := 53) rfl (hb hby d2_34) rfl (feq (by decide)).2 (by decide) (by decide) ?_
    show Steps p.tables e below (T7.setTop (mkF m 53 #[.val (.ref a_WAITS_AGAIN), .val .null, .val (.ref h0.size), .val (.int (7 : Int32)), .val (.int (0 : Int32)), .val (.ref a_NONE)] [])) _
    refine XS.iinc X7.here hx rfl (hb hby d2_53) rfl (l' := #[.val (.ref a_WAITS_AGAIN), .val .null, .val (.ref h0.size), .val (.int (7 : Int32)), .val (.int (1 : Int32)), .val (.ref a_NONE)]) rfl ?_
    show Steps p.tables e below (T7.setTop (mkF m 56 #[.val (.ref a_WAITS_AGAIN), .val .null, .val (.ref h0.size), .val (.int (7 : Int32)), .val (.int (1 : Int32)), .val (.ref a_NONE)] [])) _
    refine XS.goto X7.here hx rfl (pc0 := 56) (pc' := 12) rfl (hb hby d2_56) (by decide) (by decide) ?_
    show Steps p.tables e below (T7.setTop (mkF m 12 #[.val (.ref a_WAITS_AGAIN), .val .null, .val (.ref h0.size), .val (.int (7 : Int32)), .val (.int (1 : Int32)), .val (.ref a_NONE)] [])) _
    refine XS.iload X7.here hx rfl (hb hby d2_12) rfl ?_
    show Steps p.tables e below (T7.setTop (mkF m 14 #[.val (.ref a_WAITS_AGAIN), .val .null, .val (.ref h0.size), .val (.int (7 : Int32)), .val (.int (1 : Int32)), .val (.ref a_NONE)] [(.int (1 : Int32))])) _
    refine XS.iloadN X7.here hx rfl (hb hby d2_14) rfl ?_
    show Steps p.tables e below (T7.setTop (mkF m 15 #[.val (.ref a_WAITS_AGAIN), .val .null, .val (.ref h0.size), .val (.int (7 : Int32)), .val (.int (1 : Int32)), .val (.ref a_NONE)] [(.int (7 : Int32)), (.int (1 : Int32))])) _
    refine XS.icmpNo X7.here hx rfl (hb hby d2_15) rfl (tlt (by decide : (1 : Int32) < (7 : Int32))).2.1 ?_
    show Steps p.tables e below (T7.setTop (mkF m 18 #[.val (.ref a_WAITS_AGAIN), .val .null, .val (.ref h0.size), .val (.int (7 : Int32)), .val (.int (1 : Int32)), .val (.ref a_NONE)] [])) _
    refine XS.aloadN X7.here hx rfl (hb hby d2_18) rfl rfl ?_
    show Steps p.tables e below (T7.setTop (mkF m 19 #[.val (.ref a_WAITS_AGAIN), .val .null, .val (.ref h0.size), .val (.int (7 : Int32)), .val (.int (1 : Int32)), .val (.ref a_NONE)] [(.ref h0.size)])) _
    refine XS.iload X7.here hx rfl (hb hby d2_19) rfl ?_
    show Steps p.tables e below (T7.setTop (mkF m 21 #[.val (.ref a_WAITS_AGAIN), .val .null, .val (.ref h0.size), .val (.int (7 : Int32)), .val (.int (1 : Int32)), .val (.ref a_NONE)] [(.int (1 : Int32)), (.ref h0.size)])) _
    refine X7.aaload hx (j := (1 : Int32)) (v := (.ref a_WAITS)) (by rw [e7]; exact Arv_.1) (State.isArrayOf_alike hZ.alike Arv_.2.1) rfl Arv_.2.2 (inb_of Sv ⟨by decide, by decide⟩) (Has.at Hv (inb_of Sv ⟨by decide, by decide⟩) rfl) (g := (mkF m 21 #[.val (.ref a_WAITS_AGAIN), .val .null, .val (.ref h0.size), .val (.int (7 : Int32)), .val (.int (1 : Int32)), .val (.ref a_NONE)] [(.int (1 : Int32)), (.ref h0.size)])) rfl rfl (hb hby d2_21) _ ?_
    show Steps p.tables e below (T7.setTop (mkF m 22 #[.val (.ref a_WAITS_AGAIN), .val .null, .val (.ref h0.size), .val (.int (7 : Int32)), .val (.int (1 : Int32)), .val (.ref a_NONE)] [(.ref a_WAITS)])) _
    refine XS.astore X7.here hx rfl (hb hby d2_22) rfl rfl (l' := #[.val (.ref a_WAITS_AGAIN), .val .null, .val (.ref h0.size), .val (.int (7 : Int32)), .val (.int (1 : Int32)), .val (.ref a_WAITS)]) rfl ?_
    show Steps p.tables e below (T7.setTop (mkF m 24 #[.val (.ref a_WAITS_AGAIN), .val .null, .val (.ref h0.size), .val (.int (7 : Int32)), .val (.int (1 : Int32)), .val (.ref a_WAITS)] [])) _
    refine XS.aload X7.here hx rfl (hb hby d2_24) rfl rfl ?_
    show Steps p.tables e below (T7.setTop (mkF m 26 #[.val (.ref a_WAITS_AGAIN), .val .null, .val (.ref h0.size), .val (.int (7 : Int32)), .val (.int (1 : Int32)), .val (.ref a_WAITS)] [(.ref a_WAITS)])) _
    refine st10 _ ?_
    show Steps p.tables e below (T10.setTop (mkF m 29 #[.val (.ref a_WAITS_AGAIN), .val .null, .val (.ref h0.size), .val (.int (7 : Int32)), .val (.int (1 : Int32)), .val (.ref a_WAITS)] [(.int (1 : Int32))])) _
    refine XS.aloadN X10.here hx rfl (hb hby d2_29) rfl rfl ?_
    show Steps p.tables e below (T10.setTop (mkF m 30 #[.val (.ref a_WAITS_AGAIN), .val .null, .val (.ref h0.size), .val (.int (7 : Int32)), .val (.int (1 : Int32)), .val (.ref a_WAITS)] [(.ref a_WAITS_AGAIN), (.int (1 : Int32))])) _
    refine st11 _ ?_
    show Steps p.tables e below (T11.setTop (mkF m 33 #[.val (.ref a_WAITS_AGAIN), .val .null, .val (.ref h0.size), .val (.int (7 : Int32)), .val (.int (1 : Int32)), .val (.ref a_WAITS)] [(.int (1 : Int32)), (.int (1 : Int32))])) _
    refine XS.ineg X11.here hx rfl (hb hby d2_33) rfl ?_
    show Steps p.tables e below (T11.setTop (mkF m 34 #[.val (.ref a_WAITS_AGAIN), .val .null, .val (.ref h0.size), .val (.int (7 : Int32)), .val (.int (1 : Int32)), .val (.ref a_WAITS)] [(.int (-(1 : Int32))), (.int (1 : Int32))])) _
    refine XS.icmpYes X11.here hx rfl (pc0 := 34) (pc' := 53) rfl (hb hby d2_34) rfl (feq (by decide)).2 (by decide) (by decide) ?_
    show Steps p.tables e below (T11.setTop (mkF m 53 #[.val (.ref a_WAITS_AGAIN), .val .null, .val (.ref h0.size), .val (.int (7 : Int32)), .val (.int (1 : Int32)), .val (.ref a_WAITS)] [])) _
    refine XS.iinc X11.here hx rfl (hb hby d2_53) rfl (l' := #[.val (.ref a_WAITS_AGAIN), .val .null, .val (.ref h0.size), .val (.int (7 : Int32)), .val (.int (2 : Int32)), .val (.ref a_WAITS)]) rfl ?_
    show Steps p.tables e below (T11.setTop (mkF m 56 #[.val (.ref a_WAITS_AGAIN), .val .null, .val (.ref h0.size), .val (.int (7 : Int32)), .val (.int (2 : Int32)), .val (.ref a_WAITS)] [])) _
    refine XS.goto X11.here hx rfl (pc0 := 56) (pc' := 12) rfl (hb hby d2_56) (by decide) (by decide) ?_
    show Steps p.tables e below (T11.setTop (mkF m 12 #[.val (.ref a_WAITS_AGAIN), .val .null, .val (.ref h0.size), .val (.int (7 : Int32)), .val (.int (2 : Int32)), .val (.ref a_WAITS)] [])) _
    refine XS.iload X11.here hx rfl (hb hby d2_12) rfl ?_
    show Steps p.tables e below (T11.setTop (mkF m 14 #[.val (.ref a_WAITS_AGAIN), .val .null, .val (.ref h0.size), .val (.int (7 : Int32)), .val (.int (2 : Int32)), .val (.ref a_WAITS)] [(.int (2 : Int32))])) _
    refine XS.iloadN X11.here hx rfl (hb hby d2_14) rfl ?_
    show Steps p.tables e below (T11.setTop (mkF m 15 #[.val (.ref a_WAITS_AGAIN), .val .null, .val (.ref h0.size), .val (.int (7 : Int32)), .val (.int (2 : Int32)), .val (.ref a_WAITS)] [(.int (7 : Int32)), (.int (2 : Int32))])) _
    refine XS.icmpNo X11.here hx rfl (hb hby d2_15) rfl (tlt (by decide : (2 : Int32) < (7 : Int32))).2.1 ?_
    show Steps p.tables e below (T11.setTop (mkF m 18 #[.val (.ref a_WAITS_AGAIN), .val .null, .val (.ref h0.size), .val (.int (7 : Int32)), .val (.int (2 : Int32)), .val (.ref a_WAITS)] [])) _
    refine XS.aloadN X11.here hx rfl (hb hby d2_18) rfl rfl ?_
    show Steps p.tables e below (T11.setTop (mkF m 19 #[.val (.ref a_WAITS_AGAIN), .val .null, .val (.ref h0.size), .val (.int (7 : Int32)), .val (.int (2 : Int32)), .val (.ref a_WAITS)] [(.ref h0.size)])) _
    refine XS.iload X11.here hx rfl (hb hby d2_19) rfl ?_
    show Steps p.tables e below (T11.setTop (mkF m 21 #[.val (.ref a_WAITS_AGAIN), .val .null, .val (.ref h0.size), .val (.int (7 : Int32)), .val (.int (2 : Int32)), .val (.ref a_WAITS)] [(.int (2 : Int32)), (.ref h0.size)])) _
    refine X11.aaload hx (j := (2 : Int32)) (v := (.ref a_WAITS_NO_MORE)) (by rw [e11]; exact Arv_.1) (State.isArrayOf_alike hZ.alike Arv_.2.1) rfl Arv_.2.2 (inb_of Sv ⟨by decide, by decide⟩) (Has.at Hv (inb_of Sv ⟨by decide, by decide⟩) rfl) (g := (mkF m 21 #[.val (.ref a_WAITS_AGAIN), .val .null, .val (.ref h0.size), .val (.int (7 : Int32)), .val (.int (2 : Int32)), .val (.ref a_WAITS)] [(.int (2 : Int32)), (.ref h0.size)])) rfl rfl (hb hby d2_21) _ ?_
    show Steps p.tables e below (T11.setTop (mkF m 22 #[.val (.ref a_WAITS_AGAIN), .val .null, .val (.ref h0.size), .val (.int (7 : Int32)), .val (.int (2 : Int32)), .val (.ref a_WAITS)] [(.ref a_WAITS_NO_MORE)])) _
    refine XS.astore X11.here hx rfl (hb hby d2_22) rfl rfl (l' := #[.val (.ref a_WAITS_AGAIN), .val .null, .val (.ref h0.size), .val (.int (7 : Int32)), .val (.int (2 : Int32)), .val (.ref a_WAITS_NO_MORE)]) rfl ?_
    show Steps p.tables e below (T11.setTop (mkF m 24 #[.val (.ref a_WAITS_AGAIN), .val .null, .val (.ref h0.size), .val (.int (7 : Int32)), .val (.int (2 : Int32)), .val (.ref a_WAITS_NO_MORE)] [])) _
    refine XS.aload X11.here hx rfl (hb hby d2_24) rfl rfl ?_
    show Steps p.tables e below (T11.setTop (mkF m 26 #[.val (.ref a_WAITS_AGAIN), .val .null, .val (.ref h0.size), .val (.int (7 : Int32)), .val (.int (2 : Int32)), .val (.ref a_WAITS_NO_MORE)] [(.ref a_WAITS_NO_MORE)])) _
    refine st14 _ ?_
    show Steps p.tables e below (T14.setTop (mkF m 29 #[.val (.ref a_WAITS_AGAIN), .val .null, .val (.ref h0.size), .val (.int (7 : Int32)), .val (.int (2 : Int32)), .val (.ref a_WAITS_NO_MORE)] [(.int (-1 : Int32))])) _
    refine XS.aloadN X14.here hx rfl (hb hby d2_29) rfl rfl ?_
    show Steps p.tables e below (T14.setTop (mkF m 30 #[.val (.ref a_WAITS_AGAIN), .val .null, .val (.ref h0.size), .val (.int (7 : Int32)), .val (.int (2 : Int32)), .val (.ref a_WAITS_NO_MORE)] [(.ref a_WAITS_AGAIN), (.int (-1 : Int32))])) _
    refine st15 _ ?_
    show Steps p.tables e below (T15.setTop (mkF m 33 #[.val (.ref a_WAITS_AGAIN), .val .null, .val (.ref h0.size), .val (.int (7 : Int32)), .val (.int (2 : Int32)), .val (.ref a_WAITS_NO_MORE)] [(.int (1 : Int32)), (.int (-1 : Int32))])) _
    refine XS.ineg X15.here hx rfl (hb hby d2_33) rfl ?_
    show Steps p.tables e below (T15.setTop (mkF m 34 #[.val (.ref a_WAITS_AGAIN), .val .null, .val (.ref h0.size), .val (.int (7 : Int32)), .val (.int (2 : Int32)), .val (.ref a_WAITS_NO_MORE)] [(.int (-(1 : Int32))), (.int (-1 : Int32))])) _
    refine XS.icmpNo X15.here hx rfl (hb hby d2_34) rfl (teq (by decide)).2 ?_
    show Steps p.tables e below (T15.setTop (mkF m 37 #[.val (.ref a_WAITS_AGAIN), .val .null, .val (.ref h0.size), .val (.int (7 : Int32)), .val (.int (2 : Int32)), .val (.ref a_WAITS_NO_MORE)] [])) _
    refine XS.aload X15.here hx rfl (hb hby d2_37) rfl rfl ?_
    show Steps p.tables e below (T15.setTop (mkF m 39 #[.val (.ref a_WAITS_AGAIN), .val .null, .val (.ref h0.size), .val (.int (7 : Int32)), .val (.int (2 : Int32)), .val (.ref a_WAITS_NO_MORE)] [(.ref a_WAITS_NO_MORE)])) _
    refine st17 _ ?_
    show Steps p.tables e below (T17.setTop (mkF m 42 #[.val (.ref a_WAITS_AGAIN), .val .null, .val (.ref h0.size), .val (.int (7 : Int32)), .val (.int (2 : Int32)), .val (.ref a_WAITS_NO_MORE)] [(.int (0 : Int32))])) _
    refine XS.aloadN X17.here hx rfl (hb hby d2_42) rfl rfl ?_
    show Steps p.tables e below (T17.setTop (mkF m 43 #[.val (.ref a_WAITS_AGAIN), .val .null, .val (.ref h0.size), .val (.int (7 : Int32)), .val (.int (2 : Int32)), .val (.ref a_WAITS_NO_MORE)] [(.ref a_WAITS_AGAIN), (.int (0 : Int32))])) _
    refine st19 _ ?_
    show Steps p.tables e below (T19.setTop (mkF m 46 #[.val (.ref a_WAITS_AGAIN), .val .null, .val (.ref h0.size), .val (.int (7 : Int32)), .val (.int (2 : Int32)), .val (.ref a_WAITS_NO_MORE)] [(.int (-1 : Int32)), (.int (0 : Int32))])) _
    refine XS.ineg X19.here hx rfl (hb hby d2_46) rfl ?_
    show Steps p.tables e below (T19.setTop (mkF m 47 #[.val (.ref a_WAITS_AGAIN), .val .null, .val (.ref h0.size), .val (.int (7 : Int32)), .val (.int (2 : Int32)), .val (.ref a_WAITS_NO_MORE)] [(.int (-(-1 : Int32))), (.int (0 : Int32))])) _
    refine XS.icmpYes X19.here hx rfl (pc0 := 47) (pc' := 53) rfl (hb hby d2_47) rfl (feq (by decide)).2 (by decide) (by decide) ?_
    show Steps p.tables e below (T19.setTop (mkF m 53 #[.val (.ref a_WAITS_AGAIN), .val .null, .val (.ref h0.size), .val (.int (7 : Int32)), .val (.int (2 : Int32)), .val (.ref a_WAITS_NO_MORE)] [])) _
    refine XS.iinc X19.here hx rfl (hb hby d2_53) rfl (l' := #[.val (.ref a_WAITS_AGAIN), .val .null, .val (.ref h0.size), .val (.int (7 : Int32)), .val (.int (3 : Int32)), .val (.ref a_WAITS_NO_MORE)]) rfl ?_
    show Steps p.tables e below (T19.setTop (mkF m 56 #[.val (.ref a_WAITS_AGAIN), .val .null, .val (.ref h0.size), .val (.int (7 : Int32)), .val (.int (3 : Int32)), .val (.ref a_WAITS_NO_MORE)] [])) _
    refine XS.goto X19.here hx rfl (pc0 := 56) (pc' := 12) rfl (hb hby d2_56) (by decide) (by decide) ?_
    show Steps p.tables e below (T19.setTop (mkF m 12 #[.val (.ref a_WAITS_AGAIN), .val .null, .val (.ref h0.size), .val (.int (7 : Int32)), .val (.int (3 : Int32)), .val (.ref a_WAITS_NO_MORE)] [])) _
    refine XS.iload X19.here hx rfl (hb hby d2_12) rfl ?_
    show Steps p.tables e below (T19.setTop (mkF m 14 #[.val (.ref a_WAITS_AGAIN), .val .null, .val (.ref h0.size), .val (.int (7 : Int32)), .val (.int (3 : Int32)), .val (.ref a_WAITS_NO_MORE)] [(.int (3 : Int32))])) _
    refine XS.iloadN X19.here hx rfl (hb hby d2_14) rfl ?_
    show Steps p.tables e below (T19.setTop (mkF m 15 #[.val (.ref a_WAITS_AGAIN), .val .null, .val (.ref h0.size), .val (.int (7 : Int32)), .val (.int (3 : Int32)), .val (.ref a_WAITS_NO_MORE)] [(.int (7 : Int32)), (.int (3 : Int32))])) _
    refine XS.icmpNo X19.here hx rfl (hb hby d2_15) rfl (tlt (by decide : (3 : Int32) < (7 : Int32))).2.1 ?_
    show Steps p.tables e below (T19.setTop (mkF m 18 #[.val (.ref a_WAITS_AGAIN), .val .null, .val (.ref h0.size), .val (.int (7 : Int32)), .val (.int (3 : Int32)), .val (.ref a_WAITS_NO_MORE)] [])) _
    refine XS.aloadN X19.here hx rfl (hb hby d2_18) rfl rfl ?_
    show Steps p.tables e below (T19.setTop (mkF m 19 #[.val (.ref a_WAITS_AGAIN), .val .null, .val (.ref h0.size), .val (.int (7 : Int32)), .val (.int (3 : Int32)), .val (.ref a_WAITS_NO_MORE)] [(.ref h0.size)])) _
    refine XS.iload X19.here hx rfl (hb hby d2_19) rfl ?_
    show Steps p.tables e below (T19.setTop (mkF m 21 #[.val (.ref a_WAITS_AGAIN), .val .null, .val (.ref h0.size), .val (.int (7 : Int32)), .val (.int (3 : Int32)), .val (.ref a_WAITS_NO_MORE)] [(.int (3 : Int32)), (.ref h0.size)])) _
    refine X19.aaload hx (j := (3 : Int32)) (v := (.ref a_FALLS_DUE_AFTER_WAITING)) (by rw [e19]; exact Arv_.1) (State.isArrayOf_alike hZ.alike Arv_.2.1) rfl Arv_.2.2 (inb_of Sv ⟨by decide, by decide⟩) (Has.at Hv (inb_of Sv ⟨by decide, by decide⟩) rfl) (g := (mkF m 21 #[.val (.ref a_WAITS_AGAIN), .val .null, .val (.ref h0.size), .val (.int (7 : Int32)), .val (.int (3 : Int32)), .val (.ref a_WAITS_NO_MORE)] [(.int (3 : Int32)), (.ref h0.size)])) rfl rfl (hb hby d2_21) _ ?_
    show Steps p.tables e below (T19.setTop (mkF m 22 #[.val (.ref a_WAITS_AGAIN), .val .null, .val (.ref h0.size), .val (.int (7 : Int32)), .val (.int (3 : Int32)), .val (.ref a_WAITS_NO_MORE)] [(.ref a_FALLS_DUE_AFTER_WAITING)])) _
    refine XS.astore X19.here hx rfl (hb hby d2_22) rfl rfl (l' := #[.val (.ref a_WAITS_AGAIN), .val .null, .val (.ref h0.size), .val (.int (7 : Int32)), .val (.int (3 : Int32)), .val (.ref a_FALLS_DUE_AFTER_WAITING)]) rfl ?_
    show Steps p.tables e below (T19.setTop (mkF m 24 #[.val (.ref a_WAITS_AGAIN), .val .null, .val (.ref h0.size), .val (.int (7 : Int32)), .val (.int (3 : Int32)), .val (.ref a_FALLS_DUE_AFTER_WAITING)] [])) _
    refine XS.aload X19.here hx rfl (hb hby d2_24) rfl rfl ?_
    show Steps p.tables e below (T19.setTop (mkF m 26 #[.val (.ref a_WAITS_AGAIN), .val .null, .val (.ref h0.size), .val (.int (7 : Int32)), .val (.int (3 : Int32)), .val (.ref a_FALLS_DUE_AFTER_WAITING)] [(.ref a_FALLS_DUE_AFTER_WAITING)])) _
    refine st22 _ ?_
    show Steps p.tables e below (T22.setTop (mkF m 29 #[.val (.ref a_WAITS_AGAIN), .val .null, .val (.ref h0.size), .val (.int (7 : Int32)), .val (.int (3 : Int32)), .val (.ref a_FALLS_DUE_AFTER_WAITING)] [(.int (-1 : Int32))])) _
    refine XS.aloadN X22.here hx rfl (hb hby d2_29) rfl rfl ?_
    show Steps p.tables e below (T22.setTop (mkF m 30 #[.val (.ref a_WAITS_AGAIN), .val .null, .val (.ref h0.size), .val (.int (7 : Int32)), .val (.int (3 : Int32)), .val (.ref a_FALLS_DUE_AFTER_WAITING)] [(.ref a_WAITS_AGAIN), (.int (-1 : Int32))])) _
    refine st23 _ ?_
    show Steps p.tables e below (T23.setTop (mkF m 33 #[.val (.ref a_WAITS_AGAIN), .val .null, .val (.ref h0.size), .val (.int (7 : Int32)), .val (.int (3 : Int32)), .val (.ref a_FALLS_DUE_AFTER_WAITING)] [(.int (1 : Int32)), (.int (-1 : Int32))])) _
    refine XS.ineg X23.here hx rfl (hb hby d2_33) rfl ?_
    show Steps p.tables e below (T23.setTop (mkF m 34 #[.val (.ref a_WAITS_AGAIN), .val .null, .val (.ref h0.size), .val (.int (7 : Int32)), .val (.int (3 : Int32)), .val (.ref a_FALLS_DUE_AFTER_WAITING)] [(.int (-(1 : Int32))), (.int (-1 : Int32))])) _
    refine XS.icmpNo X23.here hx rfl (hb hby d2_34) rfl (teq (by decide)).2 ?_
    show Steps p.tables e below (T23.setTop (mkF m 37 #[.val (.ref a_WAITS_AGAIN), .val .null, .val (.ref h0.size), .val (.int (7 : Int32)), .val (.int (3 : Int32)), .val (.ref a_FALLS_DUE_AFTER_WAITING)] [])) _
    refine XS.aload X23.here hx rfl (hb hby d2_37) rfl rfl ?_
    show Steps p.tables e below (T23.setTop (mkF m 39 #[.val (.ref a_WAITS_AGAIN), .val .null, .val (.ref h0.size), .val (.int (7 : Int32)), .val (.int (3 : Int32)), .val (.ref a_FALLS_DUE_AFTER_WAITING)] [(.ref a_FALLS_DUE_AFTER_WAITING)])) _
    refine st25 _ ?_
    show Steps p.tables e below (T25.setTop (mkF m 42 #[.val (.ref a_WAITS_AGAIN), .val .null, .val (.ref h0.size), .val (.int (7 : Int32)), .val (.int (3 : Int32)), .val (.ref a_FALLS_DUE_AFTER_WAITING)] [(.int (1 : Int32))])) _
    refine XS.aloadN X25.here hx rfl (hb hby d2_42) rfl rfl ?_
    show Steps p.tables e below (T25.setTop (mkF m 43 #[.val (.ref a_WAITS_AGAIN), .val .null, .val (.ref h0.size), .val (.int (7 : Int32)), .val (.int (3 : Int32)), .val (.ref a_FALLS_DUE_AFTER_WAITING)] [(.ref a_WAITS_AGAIN), (.int (1 : Int32))])) _
    refine st26 _ ?_
    show Steps p.tables e below (T26.setTop (mkF m 46 #[.val (.ref a_WAITS_AGAIN), .val .null, .val (.ref h0.size), .val (.int (7 : Int32)), .val (.int (3 : Int32)), .val (.ref a_FALLS_DUE_AFTER_WAITING)] [(.int (-1 : Int32)), (.int (1 : Int32))])) _
    refine XS.ineg X26.here hx rfl (hb hby d2_46) rfl ?_
    show Steps p.tables e below (T26.setTop (mkF m 47 #[.val (.ref a_WAITS_AGAIN), .val .null, .val (.ref h0.size), .val (.int (7 : Int32)), .val (.int (3 : Int32)), .val (.ref a_FALLS_DUE_AFTER_WAITING)] [(.int (-(-1 : Int32))), (.int (1 : Int32))])) _
    refine XS.icmpNo X26.here hx rfl (hb hby d2_47) rfl (teq (by decide)).2 ?_
    show Steps p.tables e below (T26.setTop (mkF m 50 #[.val (.ref a_WAITS_AGAIN), .val .null, .val (.ref h0.size), .val (.int (7 : Int32)), .val (.int (3 : Int32)), .val (.ref a_FALLS_DUE_AFTER_WAITING)] [])) _
    refine XS.aload X26.here hx rfl (hb hby d2_50) rfl rfl ?_
    show Steps p.tables e below (T26.setTop (mkF m 52 #[.val (.ref a_WAITS_AGAIN), .val .null, .val (.ref h0.size), .val (.int (7 : Int32)), .val (.int (3 : Int32)), .val (.ref a_FALLS_DUE_AFTER_WAITING)] [(.ref a_FALLS_DUE_AFTER_WAITING)])) _
    refine XS.astoreN X26.here hx rfl (hb hby d2_52) rfl rfl (l' := #[.val (.ref a_WAITS_AGAIN), .val (.ref a_FALLS_DUE_AFTER_WAITING), .val (.ref h0.size), .val (.int (7 : Int32)), .val (.int (3 : Int32)), .val (.ref a_FALLS_DUE_AFTER_WAITING)]) rfl ?_
    show Steps p.tables e below (T26.setTop (mkF m 53 #[.val (.ref a_WAITS_AGAIN), .val (.ref a_FALLS_DUE_AFTER_WAITING), .val (.ref h0.size), .val (.int (7 : Int32)), .val (.int (3 : Int32)), .val (.ref a_FALLS_DUE_AFTER_WAITING)] [])) _
    refine XS.iinc X26.here hx rfl (hb hby d2_53) rfl (l' := #[.val (.ref a_WAITS_AGAIN), .val (.ref a_FALLS_DUE_AFTER_WAITING), .val (.ref h0.size), .val (.int (7 : Int32)), .val (.int (4 : Int32)), .val (.ref a_FALLS_DUE_AFTER_WAITING)]) rfl ?_
    show Steps p.tables e below (T26.setTop (mkF m 56 #[.val (.ref a_WAITS_AGAIN), .val (.ref a_FALLS_DUE_AFTER_WAITING), .val (.ref h0.size), .val (.int (7 : Int32)), .val (.int (4 : Int32)), .val (.ref a_FALLS_DUE_AFTER_WAITING)] [])) _
    refine XS.goto X26.here hx rfl (pc0 := 56) (pc' := 12) rfl (hb hby d2_56) (by decide) (by decide) ?_
    show Steps p.tables e below (T26.setTop (mkF m 12 #[.val (.ref a_WAITS_AGAIN), .val (.ref a_FALLS_DUE_AFTER_WAITING), .val (.ref h0.size), .val (.int (7 : Int32)), .val (.int (4 : Int32)), .val (.ref a_FALLS_DUE_AFTER_WAITING)] [])) _
    refine XS.iload X26.here hx rfl (hb hby d2_12) rfl ?_
    show Steps p.tables e below (T26.setTop (mkF m 14 #[.val (.ref a_WAITS_AGAIN), .val (.ref a_FALLS_DUE_AFTER_WAITING), .val (.ref h0.size), .val (.int (7 : Int32)), .val (.int (4 : Int32)), .val (.ref a_FALLS_DUE_AFTER_WAITING)] [(.int (4 : Int32))])) _
    refine XS.iloadN X26.here hx rfl (hb hby d2_14) rfl ?_
    show Steps p.tables e below (T26.setTop (mkF m 15 #[.val (.ref a_WAITS_AGAIN), .val (.ref a_FALLS_DUE_AFTER_WAITING), .val (.ref h0.size), .val (.int (7 : Int32)), .val (.int (4 : Int32)), .val (.ref a_FALLS_DUE_AFTER_WAITING)] [(.int (7 : Int32)), (.int (4 : Int32))])) _
    refine XS.icmpNo X26.here hx rfl (hb hby d2_15) rfl (tlt (by decide : (4 : Int32) < (7 : Int32))).2.1 ?_
    show Steps p.tables e below (T26.setTop (mkF m 18 #[.val (.ref a_WAITS_AGAIN), .val (.ref a_FALLS_DUE_AFTER_WAITING), .val (.ref h0.size), .val (.int (7 : Int32)), .val (.int (4 : Int32)), .val (.ref a_FALLS_DUE_AFTER_WAITING)] [])) _
    refine XS.aloadN X26.here hx rfl (hb hby d2_18) rfl rfl ?_
    show Steps p.tables e below (T26.setTop (mkF m 19 #[.val (.ref a_WAITS_AGAIN), .val (.ref a_FALLS_DUE_AFTER_WAITING), .val (.ref h0.size), .val (.int (7 : Int32)), .val (.int (4 : Int32)), .val (.ref a_FALLS_DUE_AFTER_WAITING)] [(.ref h0.size)])) _
    refine XS.iload X26.here hx rfl (hb hby d2_19) rfl ?_
    show Steps p.tables e below (T26.setTop (mkF m 21 #[.val (.ref a_WAITS_AGAIN), .val (.ref a_FALLS_DUE_AFTER_WAITING), .val (.ref h0.size), .val (.int (7 : Int32)), .val (.int (4 : Int32)), .val (.ref a_FALLS_DUE_AFTER_WAITING)] [(.int (4 : Int32)), (.ref h0.size)])) _
    refine X26.aaload hx (j := (4 : Int32)) (v := (.ref a_WAITS_AGAIN)) (by rw [e26]; exact Arv_.1) (State.isArrayOf_alike hZ.alike Arv_.2.1) rfl Arv_.2.2 (inb_of Sv ⟨by decide, by decide⟩) (Has.at Hv (inb_of Sv ⟨by decide, by decide⟩) rfl) (g := (mkF m 21 #[.val (.ref a_WAITS_AGAIN), .val (.ref a_FALLS_DUE_AFTER_WAITING), .val (.ref h0.size), .val (.int (7 : Int32)), .val (.int (4 : Int32)), .val (.ref a_FALLS_DUE_AFTER_WAITING)] [(.int (4 : Int32)), (.ref h0.size)])) rfl rfl (hb hby d2_21) _ ?_
    show Steps p.tables e below (T26.setTop (mkF m 22 #[.val (.ref a_WAITS_AGAIN), .val (.ref a_FALLS_DUE_AFTER_WAITING), .val (.ref h0.size), .val (.int (7 : Int32)), .val (.int (4 : Int32)), .val (.ref a_FALLS_DUE_AFTER_WAITING)] [(.ref a_WAITS_AGAIN)])) _
    refine XS.astore X26.here hx rfl (hb hby d2_22) rfl rfl (l' := #[.val (.ref a_WAITS_AGAIN), .val (.ref a_FALLS_DUE_AFTER_WAITING), .val (.ref h0.size), .val (.int (7 : Int32)), .val (.int (4 : Int32)), .val (.ref a_WAITS_AGAIN)]) rfl ?_
    show Steps p.tables e below (T26.setTop (mkF m 24 #[.val (.ref a_WAITS_AGAIN), .val (.ref a_FALLS_DUE_AFTER_WAITING), .val (.ref h0.size), .val (.int (7 : Int32)), .val (.int (4 : Int32)), .val (.ref a_WAITS_AGAIN)] [])) _
    refine XS.aload X26.here hx rfl (hb hby d2_24) rfl rfl ?_
    show Steps p.tables e below (T26.setTop (mkF m 26 #[.val (.ref a_WAITS_AGAIN), .val (.ref a_FALLS_DUE_AFTER_WAITING), .val (.ref h0.size), .val (.int (7 : Int32)), .val (.int (4 : Int32)), .val (.ref a_WAITS_AGAIN)] [(.ref a_WAITS_AGAIN)])) _
    refine st29 _ ?_
    show Steps p.tables e below (T29.setTop (mkF m 29 #[.val (.ref a_WAITS_AGAIN), .val (.ref a_FALLS_DUE_AFTER_WAITING), .val (.ref h0.size), .val (.int (7 : Int32)), .val (.int (4 : Int32)), .val (.ref a_WAITS_AGAIN)] [(.int (1 : Int32))])) _
    refine XS.aloadN X29.here hx rfl (hb hby d2_29) rfl rfl ?_
    show Steps p.tables e below (T29.setTop (mkF m 30 #[.val (.ref a_WAITS_AGAIN), .val (.ref a_FALLS_DUE_AFTER_WAITING), .val (.ref h0.size), .val (.int (7 : Int32)), .val (.int (4 : Int32)), .val (.ref a_WAITS_AGAIN)] [(.ref a_WAITS_AGAIN), (.int (1 : Int32))])) _
    refine st30 _ ?_
    show Steps p.tables e below (T30.setTop (mkF m 33 #[.val (.ref a_WAITS_AGAIN), .val (.ref a_FALLS_DUE_AFTER_WAITING), .val (.ref h0.size), .val (.int (7 : Int32)), .val (.int (4 : Int32)), .val (.ref a_WAITS_AGAIN)] [(.int (1 : Int32)), (.int (1 : Int32))])) _
    refine XS.ineg X30.here hx rfl (hb hby d2_33) rfl ?_
    show Steps p.tables e below (T30.setTop (mkF m 34 #[.val (.ref a_WAITS_AGAIN), .val (.ref a_FALLS_DUE_AFTER_WAITING), .val (.ref h0.size), .val (.int (7 : Int32)), .val (.int (4 : Int32)), .val (.ref a_WAITS_AGAIN)] [(.int (-(1 : Int32))), (.int (1 : Int32))])) _
    refine XS.icmpYes X30.here hx rfl (pc0 := 34) (pc' := 53) rfl (hb hby d2_34) rfl (feq (by decide)).2 (by decide) (by decide) ?_
    show Steps p.tables e below (T30.setTop (mkF m 53 #[.val (.ref a_WAITS_AGAIN), .val (.ref a_FALLS_DUE_AFTER_WAITING), .val (.ref h0.size), .val (.int (7 : Int32)), .val (.int (4 : Int32)), .val (.ref a_WAITS_AGAIN)] [])) _
    refine XS.iinc X30.here hx rfl (hb hby d2_53) rfl (l' := #[.val (.ref a_WAITS_AGAIN), .val (.ref a_FALLS_DUE_AFTER_WAITING), .val (.ref h0.size), .val (.int (7 : Int32)), .val (.int (5 : Int32)), .val (.ref a_WAITS_AGAIN)]) rfl ?_
    show Steps p.tables e below (T30.setTop (mkF m 56 #[.val (.ref a_WAITS_AGAIN), .val (.ref a_FALLS_DUE_AFTER_WAITING), .val (.ref h0.size), .val (.int (7 : Int32)), .val (.int (5 : Int32)), .val (.ref a_WAITS_AGAIN)] [])) _
    refine XS.goto X30.here hx rfl (pc0 := 56) (pc' := 12) rfl (hb hby d2_56) (by decide) (by decide) ?_
    show Steps p.tables e below (T30.setTop (mkF m 12 #[.val (.ref a_WAITS_AGAIN), .val (.ref a_FALLS_DUE_AFTER_WAITING), .val (.ref h0.size), .val (.int (7 : Int32)), .val (.int (5 : Int32)), .val (.ref a_WAITS_AGAIN)] [])) _
    refine XS.iload X30.here hx rfl (hb hby d2_12) rfl ?_
    show Steps p.tables e below (T30.setTop (mkF m 14 #[.val (.ref a_WAITS_AGAIN), .val (.ref a_FALLS_DUE_AFTER_WAITING), .val (.ref h0.size), .val (.int (7 : Int32)), .val (.int (5 : Int32)), .val (.ref a_WAITS_AGAIN)] [(.int (5 : Int32))])) _
    refine XS.iloadN X30.here hx rfl (hb hby d2_14) rfl ?_
    show Steps p.tables e below (T30.setTop (mkF m 15 #[.val (.ref a_WAITS_AGAIN), .val (.ref a_FALLS_DUE_AFTER_WAITING), .val (.ref h0.size), .val (.int (7 : Int32)), .val (.int (5 : Int32)), .val (.ref a_WAITS_AGAIN)] [(.int (7 : Int32)), (.int (5 : Int32))])) _
    refine XS.icmpNo X30.here hx rfl (hb hby d2_15) rfl (tlt (by decide : (5 : Int32) < (7 : Int32))).2.1 ?_
    show Steps p.tables e below (T30.setTop (mkF m 18 #[.val (.ref a_WAITS_AGAIN), .val (.ref a_FALLS_DUE_AFTER_WAITING), .val (.ref h0.size), .val (.int (7 : Int32)), .val (.int (5 : Int32)), .val (.ref a_WAITS_AGAIN)] [])) _
    refine XS.aloadN X30.here hx rfl (hb hby d2_18) rfl rfl ?_
    show Steps p.tables e below (T30.setTop (mkF m 19 #[.val (.ref a_WAITS_AGAIN), .val (.ref a_FALLS_DUE_AFTER_WAITING), .val (.ref h0.size), .val (.int (7 : Int32)), .val (.int (5 : Int32)), .val (.ref a_WAITS_AGAIN)] [(.ref h0.size)])) _
    refine XS.iload X30.here hx rfl (hb hby d2_19) rfl ?_
    show Steps p.tables e below (T30.setTop (mkF m 21 #[.val (.ref a_WAITS_AGAIN), .val (.ref a_FALLS_DUE_AFTER_WAITING), .val (.ref h0.size), .val (.int (7 : Int32)), .val (.int (5 : Int32)), .val (.ref a_WAITS_AGAIN)] [(.int (5 : Int32)), (.ref h0.size)])) _
    refine X30.aaload hx (j := (5 : Int32)) (v := (.ref a_FALLS_DUE)) (by rw [e30]; exact Arv_.1) (State.isArrayOf_alike hZ.alike Arv_.2.1) rfl Arv_.2.2 (inb_of Sv ⟨by decide, by decide⟩) (Has.at Hv (inb_of Sv ⟨by decide, by decide⟩) rfl) (g := (mkF m 21 #[.val (.ref a_WAITS_AGAIN), .val (.ref a_FALLS_DUE_AFTER_WAITING), .val (.ref h0.size), .val (.int (7 : Int32)), .val (.int (5 : Int32)), .val (.ref a_WAITS_AGAIN)] [(.int (5 : Int32)), (.ref h0.size)])) rfl rfl (hb hby d2_21) _ ?_
    show Steps p.tables e below (T30.setTop (mkF m 22 #[.val (.ref a_WAITS_AGAIN), .val (.ref a_FALLS_DUE_AFTER_WAITING), .val (.ref h0.size), .val (.int (7 : Int32)), .val (.int (5 : Int32)), .val (.ref a_WAITS_AGAIN)] [(.ref a_FALLS_DUE)])) _
    refine XS.astore X30.here hx rfl (hb hby d2_22) rfl rfl (l' := #[.val (.ref a_WAITS_AGAIN), .val (.ref a_FALLS_DUE_AFTER_WAITING), .val (.ref h0.size), .val (.int (7 : Int32)), .val (.int (5 : Int32)), .val (.ref a_FALLS_DUE)]) rfl ?_
    show Steps p.tables e below (T30.setTop (mkF m 24 #[.val (.ref a_WAITS_AGAIN), .val (.ref a_FALLS_DUE_AFTER_WAITING), .val (.ref h0.size), .val (.int (7 : Int32)), .val (.int (5 : Int32)), .val (.ref a_FALLS_DUE)] [])) _
    refine XS.aload X30.here hx rfl (hb hby d2_24) rfl rfl ?_
    show Steps p.tables e below (T30.setTop (mkF m 26 #[.val (.ref a_WAITS_AGAIN), .val (.ref a_FALLS_DUE_AFTER_WAITING), .val (.ref h0.size), .val (.int (7 : Int32)), .val (.int (5 : Int32)), .val (.ref a_FALLS_DUE)] [(.ref a_FALLS_DUE)])) _
    refine st33 _ ?_
    show Steps p.tables e below (T33.setTop (mkF m 29 #[.val (.ref a_WAITS_AGAIN), .val (.ref a_FALLS_DUE_AFTER_WAITING), .val (.ref h0.size), .val (.int (7 : Int32)), .val (.int (5 : Int32)), .val (.ref a_FALLS_DUE)] [(.int (0 : Int32))])) _
    refine XS.aloadN X33.here hx rfl (hb hby d2_29) rfl rfl ?_
    show Steps p.tables e below (T33.setTop (mkF m 30 #[.val (.ref a_WAITS_AGAIN), .val (.ref a_FALLS_DUE_AFTER_WAITING), .val (.ref h0.size), .val (.int (7 : Int32)), .val (.int (5 : Int32)), .val (.ref a_FALLS_DUE)] [(.ref a_WAITS_AGAIN), (.int (0 : Int32))])) _
    refine st34 _ ?_
    show Steps p.tables e below (T34.setTop (mkF m 33 #[.val (.ref a_WAITS_AGAIN), .val (.ref a_FALLS_DUE_AFTER_WAITING), .val (.ref h0.size), .val (.int (7 : Int32)), .val (.int (5 : Int32)), .val (.ref a_FALLS_DUE)] [(.int (1 : Int32)), (.int (0 : Int32))])) _
    refine XS.ineg X34.here hx rfl (hb hby d2_33) rfl ?_
    show Steps p.tables e below (T34.setTop (mkF m 34 #[.val (.ref a_WAITS_AGAIN), .val (.ref a_FALLS_DUE_AFTER_WAITING), .val (.ref h0.size), .val (.int (7 : Int32)), .val (.int (5 : Int32)), .val (.ref a_FALLS_DUE)] [(.int (-(1 : Int32))), (.int (0 : Int32))])) _
    refine XS.icmpYes X34.here hx rfl (pc0 := 34) (pc' := 53) rfl (hb hby d2_34) rfl (feq (by decide)).2 (by decide) (by decide) ?_
    show Steps p.tables e below (T34.setTop (mkF m 53 #[.val (.ref a_WAITS_AGAIN), .val (.ref a_FALLS_DUE_AFTER_WAITING), .val (.ref h0.size), .val (.int (7 : Int32)), .val (.int (5 : Int32)), .val (.ref a_FALLS_DUE)] [])) _
    refine XS.iinc X34.here hx rfl (hb hby d2_53) rfl (l' := #[.val (.ref a_WAITS_AGAIN), .val (.ref a_FALLS_DUE_AFTER_WAITING), .val (.ref h0.size), .val (.int (7 : Int32)), .val (.int (6 : Int32)), .val (.ref a_FALLS_DUE)]) rfl ?_
    show Steps p.tables e below (T34.setTop (mkF m 56 #[.val (.ref a_WAITS_AGAIN), .val (.ref a_FALLS_DUE_AFTER_WAITING), .val (.ref h0.size), .val (.int (7 : Int32)), .val (.int (6 : Int32)), .val (.ref a_FALLS_DUE)] [])) _
    refine XS.goto X34.here hx rfl (pc0 := 56) (pc' := 12) rfl (hb hby d2_56) (by decide) (by decide) ?_
    show Steps p.tables e below (T34.setTop (mkF m 12 #[.val (.ref a_WAITS_AGAIN), .val (.ref a_FALLS_DUE_AFTER_WAITING), .val (.ref h0.size), .val (.int (7 : Int32)), .val (.int (6 : Int32)), .val (.ref a_FALLS_DUE)] [])) _
    refine XS.iload X34.here hx rfl (hb hby d2_12) rfl ?_
    show Steps p.tables e below (T34.setTop (mkF m 14 #[.val (.ref a_WAITS_AGAIN), .val (.ref a_FALLS_DUE_AFTER_WAITING), .val (.ref h0.size), .val (.int (7 : Int32)), .val (.int (6 : Int32)), .val (.ref a_FALLS_DUE)] [(.int (6 : Int32))])) _
    refine XS.iloadN X34.here hx rfl (hb hby d2_14) rfl ?_
    show Steps p.tables e below (T34.setTop (mkF m 15 #[.val (.ref a_WAITS_AGAIN), .val (.ref a_FALLS_DUE_AFTER_WAITING), .val (.ref h0.size), .val (.int (7 : Int32)), .val (.int (6 : Int32)), .val (.ref a_FALLS_DUE)] [(.int (7 : Int32)), (.int (6 : Int32))])) _
    refine XS.icmpNo X34.here hx rfl (hb hby d2_15) rfl (tlt (by decide : (6 : Int32) < (7 : Int32))).2.1 ?_
    show Steps p.tables e below (T34.setTop (mkF m 18 #[.val (.ref a_WAITS_AGAIN), .val (.ref a_FALLS_DUE_AFTER_WAITING), .val (.ref h0.size), .val (.int (7 : Int32)), .val (.int (6 : Int32)), .val (.ref a_FALLS_DUE)] [])) _
    refine XS.aloadN X34.here hx rfl (hb hby d2_18) rfl rfl ?_
    show Steps p.tables e below (T34.setTop (mkF m 19 #[.val (.ref a_WAITS_AGAIN), .val (.ref a_FALLS_DUE_AFTER_WAITING), .val (.ref h0.size), .val (.int (7 : Int32)), .val (.int (6 : Int32)), .val (.ref a_FALLS_DUE)] [(.ref h0.size)])) _
    refine XS.iload X34.here hx rfl (hb hby d2_19) rfl ?_
    show Steps p.tables e below (T34.setTop (mkF m 21 #[.val (.ref a_WAITS_AGAIN), .val (.ref a_FALLS_DUE_AFTER_WAITING), .val (.ref h0.size), .val (.int (7 : Int32)), .val (.int (6 : Int32)), .val (.ref a_FALLS_DUE)] [(.int (6 : Int32)), (.ref h0.size)])) _
    refine X34.aaload hx (j := (6 : Int32)) (v := (.ref a_TAKEN_BACK)) (by rw [e34]; exact Arv_.1) (State.isArrayOf_alike hZ.alike Arv_.2.1) rfl Arv_.2.2 (inb_of Sv ⟨by decide, by decide⟩) (Has.at Hv (inb_of Sv ⟨by decide, by decide⟩) rfl) (g := (mkF m 21 #[.val (.ref a_WAITS_AGAIN), .val (.ref a_FALLS_DUE_AFTER_WAITING), .val (.ref h0.size), .val (.int (7 : Int32)), .val (.int (6 : Int32)), .val (.ref a_FALLS_DUE)] [(.int (6 : Int32)), (.ref h0.size)])) rfl rfl (hb hby d2_21) _ ?_
    show Steps p.tables e below (T34.setTop (mkF m 22 #[.val (.ref a_WAITS_AGAIN), .val (.ref a_FALLS_DUE_AFTER_WAITING), .val (.ref h0.size), .val (.int (7 : Int32)), .val (.int (6 : Int32)), .val (.ref a_FALLS_DUE)] [(.ref a_TAKEN_BACK)])) _
    refine XS.astore X34.here hx rfl (hb hby d2_22) rfl rfl (l' := #[.val (.ref a_WAITS_AGAIN), .val (.ref a_FALLS_DUE_AFTER_WAITING), .val (.ref h0.size), .val (.int (7 : Int32)), .val (.int (6 : Int32)), .val (.ref a_TAKEN_BACK)]) rfl ?_
    show Steps p.tables e below (T34.setTop (mkF m 24 #[.val (.ref a_WAITS_AGAIN), .val (.ref a_FALLS_DUE_AFTER_WAITING), .val (.ref h0.size), .val (.int (7 : Int32)), .val (.int (6 : Int32)), .val (.ref a_TAKEN_BACK)] [])) _
    refine XS.aload X34.here hx rfl (hb hby d2_24) rfl rfl ?_
    show Steps p.tables e below (T34.setTop (mkF m 26 #[.val (.ref a_WAITS_AGAIN), .val (.ref a_FALLS_DUE_AFTER_WAITING), .val (.ref h0.size), .val (.int (7 : Int32)), .val (.int (6 : Int32)), .val (.ref a_TAKEN_BACK)] [(.ref a_TAKEN_BACK)])) _
    refine st37 _ ?_
    show Steps p.tables e below (T37.setTop (mkF m 29 #[.val (.ref a_WAITS_AGAIN), .val (.ref a_FALLS_DUE_AFTER_WAITING), .val (.ref h0.size), .val (.int (7 : Int32)), .val (.int (6 : Int32)), .val (.ref a_TAKEN_BACK)] [(.int (0 : Int32))])) _
    refine XS.aloadN X37.here hx rfl (hb hby d2_29) rfl rfl ?_
    show Steps p.tables e below (T37.setTop (mkF m 30 #[.val (.ref a_WAITS_AGAIN), .val (.ref a_FALLS_DUE_AFTER_WAITING), .val (.ref h0.size), .val (.int (7 : Int32)), .val (.int (6 : Int32)), .val (.ref a_TAKEN_BACK)] [(.ref a_WAITS_AGAIN), (.int (0 : Int32))])) _
    refine st38 _ ?_
    show Steps p.tables e below (T38.setTop (mkF m 33 #[.val (.ref a_WAITS_AGAIN), .val (.ref a_FALLS_DUE_AFTER_WAITING), .val (.ref h0.size), .val (.int (7 : Int32)), .val (.int (6 : Int32)), .val (.ref a_TAKEN_BACK)] [(.int (1 : Int32)), (.int (0 : Int32))])) _
    refine XS.ineg X38.here hx rfl (hb hby d2_33) rfl ?_
    show Steps p.tables e below (T38.setTop (mkF m 34 #[.val (.ref a_WAITS_AGAIN), .val (.ref a_FALLS_DUE_AFTER_WAITING), .val (.ref h0.size), .val (.int (7 : Int32)), .val (.int (6 : Int32)), .val (.ref a_TAKEN_BACK)] [(.int (-(1 : Int32))), (.int (0 : Int32))])) _
    refine XS.icmpYes X38.here hx rfl (pc0 := 34) (pc' := 53) rfl (hb hby d2_34) rfl (feq (by decide)).2 (by decide) (by decide) ?_
    show Steps p.tables e below (T38.setTop (mkF m 53 #[.val (.ref a_WAITS_AGAIN), .val (.ref a_FALLS_DUE_AFTER_WAITING), .val (.ref h0.size), .val (.int (7 : Int32)), .val (.int (6 : Int32)), .val (.ref a_TAKEN_BACK)] [])) _
    refine XS.iinc X38.here hx rfl (hb hby d2_53) rfl (l' := #[.val (.ref a_WAITS_AGAIN), .val (.ref a_FALLS_DUE_AFTER_WAITING), .val (.ref h0.size), .val (.int (7 : Int32)), .val (.int (7 : Int32)), .val (.ref a_TAKEN_BACK)]) rfl ?_
    show Steps p.tables e below (T38.setTop (mkF m 56 #[.val (.ref a_WAITS_AGAIN), .val (.ref a_FALLS_DUE_AFTER_WAITING), .val (.ref h0.size), .val (.int (7 : Int32)), .val (.int (7 : Int32)), .val (.ref a_TAKEN_BACK)] [])) _
    refine XS.goto X38.here hx rfl (pc0 := 56) (pc' := 12) rfl (hb hby d2_56) (by decide) (by decide) ?_
    show Steps p.tables e below (T38.setTop (mkF m 12 #[.val (.ref a_WAITS_AGAIN), .val (.ref a_FALLS_DUE_AFTER_WAITING), .val (.ref h0.size), .val (.int (7 : Int32)), .val (.int (7 : Int32)), .val (.ref a_TAKEN_BACK)] [])) _
    refine XS.iload X38.here hx rfl (hb hby d2_12) rfl ?_
    show Steps p.tables e below (T38.setTop (mkF m 14 #[.val (.ref a_WAITS_AGAIN), .val (.ref a_FALLS_DUE_AFTER_WAITING), .val (.ref h0.size), .val (.int (7 : Int32)), .val (.int (7 : Int32)), .val (.ref a_TAKEN_BACK)] [(.int (7 : Int32))])) _
    refine XS.iloadN X38.here hx rfl (hb hby d2_14) rfl ?_
    show Steps p.tables e below (T38.setTop (mkF m 15 #[.val (.ref a_WAITS_AGAIN), .val (.ref a_FALLS_DUE_AFTER_WAITING), .val (.ref h0.size), .val (.int (7 : Int32)), .val (.int (7 : Int32)), .val (.ref a_TAKEN_BACK)] [(.int (7 : Int32)), (.int (7 : Int32))])) _
    refine XS.icmpYes X38.here hx rfl (pc0 := 15) (pc' := 59) rfl (hb hby d2_15) rfl (flt (by decide : ¬ ((7 : Int32) < (7 : Int32)))).2.1 (by decide) (by decide) ?_
    show Steps p.tables e below (T38.setTop (mkF m 59 #[.val (.ref a_WAITS_AGAIN), .val (.ref a_FALLS_DUE_AFTER_WAITING), .val (.ref h0.size), .val (.int (7 : Int32)), .val (.int (7 : Int32)), .val (.ref a_TAKEN_BACK)] [])) _
    refine XS.aloadN X38.here hx rfl (hb hby d2_59) rfl rfl ?_
    show Steps p.tables e below (T38.setTop (mkF m 60 #[.val (.ref a_WAITS_AGAIN), .val (.ref a_FALLS_DUE_AFTER_WAITING), .val (.ref h0.size), .val (.int (7 : Int32)), .val (.int (7 : Int32)), .val (.ref a_TAKEN_BACK)] [(.ref a_FALLS_DUE_AFTER_WAITING)])) _
    jvm_step X38.here [X38.here.top, hx, (hb hby d2_60), X38.method', Bd.returns, Value.isRef, FieldType.isReference]
    first | (intro acts; rw [hr _ acts rfl rfl rfl]) | rw [hr _ _ rfl rfl rfl]
    exact Steps.refl _
  · show Q2_r4 Z a_NONE a_WAITS a_WAITS_NO_MORE a_FALLS_DUE_AFTER_WAITING a_WAITS_AGAIN a_FALLS_DUE a_TAKEN_BACK a_VALUES kV h0 n0 _ T38.heap _
    rw [e38]
    exact ⟨rfl, N2, Ex2⟩
def Q2_r5 (Z : State) (a_NONE a_WAITS a_WAITS_NO_MORE a_FALLS_DUE_AFTER_WAITING a_WAITS_AGAIN a_FALLS_DUE a_TAKEN_BACK a_VALUES : Addr) (kV : ClassId) (h0 : Heap) (n0 : Nat) (v : Option Value) (h : Heap) (L : List Loc) : Prop := v = some (.ref a_TAKEN_BACK) ∧ Fr n0 L ∧ Ext h0 h
set_option maxRecDepth 65536 in
set_option maxHeartbeats 40000000 in
theorem rm2_r5 (l : Launch) (Z : State) (a0 : Array Value) (hw : ∀ d ∈ tables_1, d.before a0 Z = true) (ws : List Jvm.Cond)  (a_NONE a_WAITS a_WAITS_NO_MORE a_FALLS_DUE_AFTER_WAITING a_WAITS_AGAIN a_FALLS_DUE a_TAKEN_BACK a_VALUES : Addr) (kV : ClassId) (h0 : Heap) (n0 : Nat) (Z0 : n0 ≤ h0.size) (WW : Own Z h0 a_NONE a_WAITS a_WAITS_NO_MORE a_FALLS_DUE_AFTER_WAITING a_WAITS_AGAIN a_FALLS_DUE a_TAKEN_BACK a_VALUES kV)  :
    MetFree l (⟨"com/example/acompte/acompte/DocumentKind$Vat", "opposite", "()Lcom/example/acompte/acompte/DocumentKind$Vat;"⟩ : MethodName) (head1 (Jvm.Cond.code (⟨"com/example/acompte/acompte/DocumentKind$Vat", "opposite", "()Lcom/example/acompte/acompte/DocumentKind$Vat;"⟩ : MethodName) prog_12_method_6_code 6 (some (.object "com/example/acompte/acompte/DocumentKind$Vat")) :: ws) ({ frames := 2, cells := 1, slots := 7, locals := 25 } : Room)) (fun a U => a = #[(.ref a_FALLS_DUE)] ∧ Z.Warmed39 U.vm ∧ U.heap = h0) (fun _ _ _ _ _ => True) (fun _ U o U' => ∃ v L, o = .returned v ∧ Q2_r5 Z a_NONE a_WAITS a_WAITS_NO_MORE a_FALLS_DUE_AFTER_WAITING a_WAITS_AGAIN a_FALLS_DUE a_TAKEN_BACK a_VALUES kV h0 n0 v U'.heap L ∧ FrameEnd U o U' L ({ frames := 2, cells := 1, slots := 7, locals := 25 } : Room).cells ({ frames := 2, cells := 1, slots := 7, locals := 25 } : Room).slots) := by
  refine MetFree.of_bodySF (plainFor_of_name pn_2) hisR ?_
  intro p e s m args below meth c s₁ Bd hml0 hP hK
  have WW0 := WW
  obtain ⟨S_NONE, S_WAITS, S_WAITS_NO_MORE, S_FALLS_DUE_AFTER_WAITING, S_WAITS_AGAIN, S_FALLS_DUE, S_TAKEN_BACK, S_VALUES, E_NONE, E_WAITS, E_WAITS_NO_MORE, E_FALLS_DUE_AFTER_WAITING, E_WAITS_AGAIN, E_FALLS_DUE, E_TAKEN_BACK, E_VALUES, Fw_NONE, Fw_WAITS, Fw_WAITS_NO_MORE, Fw_FALLS_DUE_AFTER_WAITING, Fw_WAITS_AGAIN, Fw_FALLS_DUE, Fw_TAKEN_BACK, Fd_NONE, Fd_WAITS, Fd_WAITS_NO_MORE, Fd_FALLS_DUE_AFTER_WAITING, Fd_WAITS_AGAIN, Fd_FALLS_DUE, Fd_TAKEN_BACK, V_VALUES⟩ := WW0
  obtain ⟨rfl, hZ, hh⟩ := hP
  have hx := Bd.exec
  have hby := Bd.bytes
  have hml : c.maxLocals = 6 := hml0
  have hown : s.vm.findClass "com/example/acompte/acompte/DocumentKind$Vat" = some m.cls := findClass_of_methodNamed Bd.named
  have hnm := (name_of_methodNamed Bd.named Bd.method).1
  have X0 : Stand p l e ({ frames := 2, cells := 1, slots := 7, locals := 25 } : Room) s m #[(.ref a_FALLS_DUE)] below meth c s₁ [] 0 0 := Stand.of_body Bd
  have e0 : s₁.heap = h0 := by rw [← hh, Bd.state]; rfl
  have N0 := Fr.nil n0
  have pre0 : ∀ t, Steps p.tables e below (s₁.setTop (mkF m 0 #[.val (.ref a_FALLS_DUE), .unset, .unset, .unset, .unset, .unset] [])) t → Steps p.tables e below (s₁.setTop (entryFrame m #[(.ref a_FALLS_DUE)] 6)) t := fun t k => castTop (ef_2 m a_FALLS_DUE) k
  -- 3. LAWS
  -- pc 2: com/example/acompte/acompte/DocumentKind$Vat.values by its contract rm3
  obtain ⟨_, _, ⟨T2, L2, k2, n2⟩, -, X2, ⟨Lc2, hQ2, l2, y2, z2⟩, st2⟩ := Jvm.LawKit.callS X0 hx (y := (⟨"com/example/acompte/acompte/DocumentKind$Vat", "values", "()[Lcom/example/acompte/acompte/DocumentKind$Vat;"⟩ : MethodName)) hown (mvT hZ (hw _ (List.mem_of_getElem? (i := 13) rfl))) (mvT hZ (hw _ (List.mem_of_getElem? (i := 14) rfl))) (mvT hZ (hw _ (List.mem_of_getElem? (i := 6) rfl))) (mvT hZ (hw _ (List.mem_of_getElem? (i := 15) rfl))) (by decide) (backOf (W := 0) (rm3_v l Z a0 hw []  a_NONE a_WAITS a_WAITS_NO_MORE a_FALLS_DUE_AFTER_WAITING a_WAITS_AGAIN a_FALLS_DUE a_TAKEN_BACK a_VALUES kV h0 n0 Z0 WW) hZ (hw _ (List.mem_of_getElem? (i := 15) rfl)) (hw _ (List.mem_of_getElem? (i := 6) rfl)) (by decide) (by decide)) (g := (mkF m 2 #[.val (.ref a_FALLS_DUE), .val .null, .unset, .unset, .unset, .unset] [])) rfl (by rw [hml]; rfl) (argsL := []) (rest := []) (lenOf pdw_1 rfl) rfl (by show 2 * 0 + _ ≤ _; exact Nat.le_of_eq rfl) (hb hby d2_2) (fun _ _ => ⟨rfl, e0, (by decide : 0 + 1 ≤ _), (by decide : 0 + 7 ≤ _)⟩)
  dsimp only [Pt.U, Pt.locs, Pt.cells, Pt.slots] at X2 l2 y2 z2 st2 hQ2
  subst l2 y2 z2
  obtain ⟨rfl, N2q, Ex2, V2⟩ := hQ2
  have WW2 := WW.ext Ex2
  obtain ⟨S_NONE, S_WAITS, S_WAITS_NO_MORE, S_FALLS_DUE_AFTER_WAITING, S_WAITS_AGAIN, S_FALLS_DUE, S_TAKEN_BACK, S_VALUES, E_NONE, E_WAITS, E_WAITS_NO_MORE, E_FALLS_DUE_AFTER_WAITING, E_WAITS_AGAIN, E_FALLS_DUE, E_TAKEN_BACK, E_VALUES, Fw_NONE, Fw_WAITS, Fw_WAITS_NO_MORE, Fw_FALLS_DUE_AFTER_WAITING, Fw_WAITS_AGAIN, Fw_FALLS_DUE, Fw_TAKEN_BACK, Fd_NONE, Fd_WAITS, Fd_WAITS_NO_MORE, Fd_FALLS_DUE_AFTER_WAITING, Fd_WAITS_AGAIN, Fd_FALLS_DUE, Fd_TAKEN_BACK, V_VALUES⟩ := WW2
  obtain ⟨clv, Arv_, qv, Sv, Nv, Hv, Gv⟩ := V2
  have N2 := Fr.app N0 N2q
  obtain ⟨T5, X5, e5, st5⟩ := getF X2 hx hZ hown (host := "") (Or.inl (hw _ (List.mem_of_getElem? (i := 34) rfl))) Via.refl rfl (Fw_NONE) (g := (mkF m 26 #[.val (.ref a_FALLS_DUE), .val .null, .val (.ref h0.size), .val (.int (7 : Int32)), .val (.int (0 : Int32)), .val (.ref a_NONE)] [(.ref a_NONE)])) rfl rfl (hb hby d2_26)
  obtain ⟨T7, X7, e7, st7⟩ := getF X5 hx hZ hown (host := "") (Or.inl (hw _ (List.mem_of_getElem? (i := 34) rfl))) Via.refl e5 (Fw_FALLS_DUE) (g := (mkF m 30 #[.val (.ref a_FALLS_DUE), .val .null, .val (.ref h0.size), .val (.int (7 : Int32)), .val (.int (0 : Int32)), .val (.ref a_NONE)] [(.ref a_FALLS_DUE), (.int (0 : Int32))])) rfl rfl (hb hby d2_30)
  obtain ⟨T9, X9, e9, st9⟩ := getF X7 hx hZ hown (host := "") (Or.inl (hw _ (List.mem_of_getElem? (i := 36) rfl))) Via.refl e7 (Fd_NONE) (g := (mkF m 39 #[.val (.ref a_FALLS_DUE), .val .null, .val (.ref h0.size), .val (.int (7 : Int32)), .val (.int (0 : Int32)), .val (.ref a_NONE)] [(.ref a_NONE)])) rfl rfl (hb hby d2_39)
  obtain ⟨T11, X11, e11, st11⟩ := getF X9 hx hZ hown (host := "") (Or.inl (hw _ (List.mem_of_getElem? (i := 36) rfl))) Via.refl e9 (Fd_FALLS_DUE) (g := (mkF m 43 #[.val (.ref a_FALLS_DUE), .val .null, .val (.ref h0.size), .val (.int (7 : Int32)), .val (.int (0 : Int32)), .val (.ref a_NONE)] [(.ref a_FALLS_DUE), (.int (0 : Int32))])) rfl rfl (hb hby d2_43)
  obtain ⟨T14, X14, e14, st14⟩ := getF X11 hx hZ hown (host := "") (Or.inl (hw _ (List.mem_of_getElem? (i := 34) rfl))) Via.refl e11 (Fw_WAITS) (g := (mkF m 26 #[.val (.ref a_FALLS_DUE), .val .null, .val (.ref h0.size), .val (.int (7 : Int32)), .val (.int (1 : Int32)), .val (.ref a_WAITS)] [(.ref a_WAITS)])) rfl rfl (hb hby d2_26)
  obtain ⟨T15, X15, e15, st15⟩ := getF X14 hx hZ hown (host := "") (Or.inl (hw _ (List.mem_of_getElem? (i := 34) rfl))) Via.refl e14 (Fw_FALLS_DUE) (g := (mkF m 30 #[.val (.ref a_FALLS_DUE), .val .null, .val (.ref h0.size), .val (.int (7 : Int32)), .val (.int (1 : Int32)), .val (.ref a_WAITS)] [(.ref a_FALLS_DUE), (.int (1 : Int32))])) rfl rfl (hb hby d2_30)
  obtain ⟨T18, X18, e18, st18⟩ := getF X15 hx hZ hown (host := "") (Or.inl (hw _ (List.mem_of_getElem? (i := 34) rfl))) Via.refl e15 (Fw_WAITS_NO_MORE) (g := (mkF m 26 #[.val (.ref a_FALLS_DUE), .val .null, .val (.ref h0.size), .val (.int (7 : Int32)), .val (.int (2 : Int32)), .val (.ref a_WAITS_NO_MORE)] [(.ref a_WAITS_NO_MORE)])) rfl rfl (hb hby d2_26)
  obtain ⟨T19, X19, e19, st19⟩ := getF X18 hx hZ hown (host := "") (Or.inl (hw _ (List.mem_of_getElem? (i := 34) rfl))) Via.refl e18 (Fw_FALLS_DUE) (g := (mkF m 30 #[.val (.ref a_FALLS_DUE), .val .null, .val (.ref h0.size), .val (.int (7 : Int32)), .val (.int (2 : Int32)), .val (.ref a_WAITS_NO_MORE)] [(.ref a_FALLS_DUE), (.int (-1 : Int32))])) rfl rfl (hb hby d2_30)
  obtain ⟨T22, X22, e22, st22⟩ := getF X19 hx hZ hown (host := "") (Or.inl (hw _ (List.mem_of_getElem? (i := 34) rfl))) Via.refl e19 (Fw_FALLS_DUE_AFTER_WAITING) (g := (mkF m 26 #[.val (.ref a_FALLS_DUE), .val .null, .val (.ref h0.size), .val (.int (7 : Int32)), .val (.int (3 : Int32)), .val (.ref a_FALLS_DUE_AFTER_WAITING)] [(.ref a_FALLS_DUE_AFTER_WAITING)])) rfl rfl (hb hby d2_26)
  obtain ⟨T23, X23, e23, st23⟩ := getF X22 hx hZ hown (host := "") (Or.inl (hw _ (List.mem_of_getElem? (i := 34) rfl))) Via.refl e22 (Fw_FALLS_DUE) (g := (mkF m 30 #[.val (.ref a_FALLS_DUE), .val .null, .val (.ref h0.size), .val (.int (7 : Int32)), .val (.int (3 : Int32)), .val (.ref a_FALLS_DUE_AFTER_WAITING)] [(.ref a_FALLS_DUE), (.int (-1 : Int32))])) rfl rfl (hb hby d2_30)
  obtain ⟨T26, X26, e26, st26⟩ := getF X23 hx hZ hown (host := "") (Or.inl (hw _ (List.mem_of_getElem? (i := 34) rfl))) Via.refl e23 (Fw_WAITS_AGAIN) (g := (mkF m 26 #[.val (.ref a_FALLS_DUE), .val .null, .val (.ref h0.size), .val (.int (7 : Int32)), .val (.int (4 : Int32)), .val (.ref a_WAITS_AGAIN)] [(.ref a_WAITS_AGAIN)])) rfl rfl (hb hby d2_26)
  obtain ⟨T27, X27, e27, st27⟩ := getF X26 hx hZ hown (host := "") (Or.inl (hw _ (List.mem_of_getElem? (i := 34) rfl))) Via.refl e26 (Fw_FALLS_DUE) (g := (mkF m 30 #[.val (.ref a_FALLS_DUE), .val .null, .val (.ref h0.size), .val (.int (7 : Int32)), .val (.int (4 : Int32)), .val (.ref a_WAITS_AGAIN)] [(.ref a_FALLS_DUE), (.int (1 : Int32))])) rfl rfl (hb hby d2_30)
  obtain ⟨T30, X30, e30, st30⟩ := getF X27 hx hZ hown (host := "") (Or.inl (hw _ (List.mem_of_getElem? (i := 34) rfl))) Via.refl e27 (Fw_FALLS_DUE) (g := (mkF m 26 #[.val (.ref a_FALLS_DUE), .val .null, .val (.ref h0.size), .val (.int (7 : Int32)), .val (.int (5 : Int32)), .val (.ref a_FALLS_DUE)] [(.ref a_FALLS_DUE)])) rfl rfl (hb hby d2_26)
  obtain ⟨T31, X31, e31, st31⟩ := getF X30 hx hZ hown (host := "") (Or.inl (hw _ (List.mem_of_getElem? (i := 34) rfl))) Via.refl e30 (Fw_FALLS_DUE) (g := (mkF m 30 #[.val (.ref a_FALLS_DUE), .val .null, .val (.ref h0.size), .val (.int (7 : Int32)), .val (.int (5 : Int32)), .val (.ref a_FALLS_DUE)] [(.ref a_FALLS_DUE), (.int (0 : Int32))])) rfl rfl (hb hby d2_30)
  obtain ⟨T33, X33, e33, st33⟩ := getF X31 hx hZ hown (host := "") (Or.inl (hw _ (List.mem_of_getElem? (i := 36) rfl))) Via.refl e31 (Fd_FALLS_DUE) (g := (mkF m 39 #[.val (.ref a_FALLS_DUE), .val .null, .val (.ref h0.size), .val (.int (7 : Int32)), .val (.int (5 : Int32)), .val (.ref a_FALLS_DUE)] [(.ref a_FALLS_DUE)])) rfl rfl (hb hby d2_39)
  obtain ⟨T34, X34, e34, st34⟩ := getF X33 hx hZ hown (host := "") (Or.inl (hw _ (List.mem_of_getElem? (i := 36) rfl))) Via.refl e33 (Fd_FALLS_DUE) (g := (mkF m 43 #[.val (.ref a_FALLS_DUE), .val .null, .val (.ref h0.size), .val (.int (7 : Int32)), .val (.int (5 : Int32)), .val (.ref a_FALLS_DUE)] [(.ref a_FALLS_DUE), (.int (1 : Int32))])) rfl rfl (hb hby d2_43)
  obtain ⟨T37, X37, e37, st37⟩ := getF X34 hx hZ hown (host := "") (Or.inl (hw _ (List.mem_of_getElem? (i := 34) rfl))) Via.refl e34 (Fw_TAKEN_BACK) (g := (mkF m 26 #[.val (.ref a_FALLS_DUE), .val .null, .val (.ref h0.size), .val (.int (7 : Int32)), .val (.int (6 : Int32)), .val (.ref a_TAKEN_BACK)] [(.ref a_TAKEN_BACK)])) rfl rfl (hb hby d2_26)
  obtain ⟨T38, X38, e38, st38⟩ := getF X37 hx hZ hown (host := "") (Or.inl (hw _ (List.mem_of_getElem? (i := 34) rfl))) Via.refl e37 (Fw_FALLS_DUE) (g := (mkF m 30 #[.val (.ref a_FALLS_DUE), .val .null, .val (.ref h0.size), .val (.int (7 : Int32)), .val (.int (6 : Int32)), .val (.ref a_TAKEN_BACK)] [(.ref a_FALLS_DUE), (.int (0 : Int32))])) rfl rfl (hb hby d2_30)
  obtain ⟨T40, X40, e40, st40⟩ := getF X38 hx hZ hown (host := "") (Or.inl (hw _ (List.mem_of_getElem? (i := 36) rfl))) Via.refl e38 (Fd_TAKEN_BACK) (g := (mkF m 39 #[.val (.ref a_FALLS_DUE), .val .null, .val (.ref h0.size), .val (.int (7 : Int32)), .val (.int (6 : Int32)), .val (.ref a_TAKEN_BACK)] [(.ref a_TAKEN_BACK)])) rfl rfl (hb hby d2_39)
  obtain ⟨T41, X41, e41, st41⟩ := getF X40 hx hZ hown (host := "") (Or.inl (hw _ (List.mem_of_getElem? (i := 36) rfl))) Via.refl e40 (Fd_FALLS_DUE) (g := (mkF m 43 #[.val (.ref a_FALLS_DUE), .val .null, .val (.ref h0.size), .val (.int (7 : Int32)), .val (.int (6 : Int32)), .val (.ref a_TAKEN_BACK)] [(.ref a_FALLS_DUE), (.int (-1 : Int32))])) rfl rfl (hb hby d2_43)
  obtain ⟨fs, hr, hrun, hended, hW, hsame⟩ := X41.leave (v := some (.ref a_TAKEN_BACK)) (fun h => by rw [Bd.returns] at h; cases h)
  refine ⟨_, _, pre0 _ ?_, hrun, hended, _, _, rfl, ?_, ⟨_, rfl⟩, hW, hsame.mono (by decide) (by decide)⟩
  -- 4. STEPS
  · show Steps p.tables e below (s₁.setTop (mkF m 0 #[.val (.ref a_FALLS_DUE), .unset, .unset, .unset, .unset, .unset] [])) _
    refine XS.aconstNull X0.here hx rfl (hb hby d2_0) ?_
    show Steps p.tables e below (s₁.setTop (mkF m 1 #[.val (.ref a_FALLS_DUE), .unset, .unset, .unset, .unset, .unset] [.null])) _
    refine XS.astoreN X0.here hx rfl (hb hby d2_1) rfl rfl (l' := #[.val (.ref a_FALLS_DUE), .val .null, .unset, .unset, .unset, .unset]) rfl ?_
    show Steps p.tables e below (s₁.setTop (mkF m 2 #[.val (.ref a_FALLS_DUE), .val .null, .unset, .unset, .unset, .unset] [])) _
    refine st2 _ ?_
    show Steps p.tables e below (T2.setTop (mkF m 5 #[.val (.ref a_FALLS_DUE), .val .null, .unset, .unset, .unset, .unset] [(.ref h0.size)])) _
    refine XS.astoreN X2.here hx rfl (hb hby d2_5) rfl rfl (l' := #[.val (.ref a_FALLS_DUE), .val .null, .val (.ref h0.size), .unset, .unset, .unset]) rfl ?_
    show Steps p.tables e below (T2.setTop (mkF m 6 #[.val (.ref a_FALLS_DUE), .val .null, .val (.ref h0.size), .unset, .unset, .unset] [])) _
    refine XS.aloadN X2.here hx rfl (hb hby d2_6) rfl rfl ?_
    show Steps p.tables e below (T2.setTop (mkF m 7 #[.val (.ref a_FALLS_DUE), .val .null, .val (.ref h0.size), .unset, .unset, .unset] [(.ref h0.size)])) _
    refine X2.arraylength hx (by exact Arv_.1) (State.isArrayOf_alike hZ.alike Arv_.2.1) (g := (mkF m 7 #[.val (.ref a_FALLS_DUE), .val .null, .val (.ref h0.size), .unset, .unset, .unset] [(.ref h0.size)])) rfl rfl (hb hby d2_7) _ ?_
    rw [len_of Sv Nv]
    show Steps p.tables e below (T2.setTop (mkF m 8 #[.val (.ref a_FALLS_DUE), .val .null, .val (.ref h0.size), .unset, .unset, .unset] [(.int (7 : Int32))])) _
    refine XS.istoreN X2.here hx rfl (hb hby d2_8) rfl (l' := #[.val (.ref a_FALLS_DUE), .val .null, .val (.ref h0.size), .val (.int (7 : Int32)), .unset, .unset]) rfl ?_
    show Steps p.tables e below (T2.setTop (mkF m 9 #[.val (.ref a_FALLS_DUE), .val .null, .val (.ref h0.size), .val (.int (7 : Int32)), .unset, .unset] [])) _
    refine XS.iconst X2.here hx rfl (hb hby d2_9) ?_
    show Steps p.tables e below (T2.setTop (mkF m 10 #[.val (.ref a_FALLS_DUE), .val .null, .val (.ref h0.size), .val (.int (7 : Int32)), .unset, .unset] [(.int (0 : Int32))])) _
    refine XS.istore X2.here hx rfl (hb hby d2_10) rfl (l' := #[.val (.ref a_FALLS_DUE), .val .null, .val (.ref h0.size), .val (.int (7 : Int32)), .val (.int (0 : Int32)), .unset]) rfl ?_
    show Steps p.tables e below (T2.setTop (mkF m 12 #[.val (.ref a_FALLS_DUE), .val .null, .val (.ref h0.size), .val (.int (7 : Int32)), .val (.int (0 : Int32)), .unset] [])) _
    refine XS.iload X2.here hx rfl (hb hby d2_12) rfl ?_
    show Steps p.tables e below (T2.setTop (mkF m 14 #[.val (.ref a_FALLS_DUE), .val .null, .val (.ref h0.size), .val (.int (7 : Int32)), .val (.int (0 : Int32)), .unset] [(.int (0 : Int32))])) _
    refine XS.iloadN X2.here hx rfl (hb hby d2_14) rfl ?_
    show Steps p.tables e below (T2.setTop (mkF m 15 #[.val (.ref a_FALLS_DUE), .val .null, .val (.ref h0.size), .val (.int (7 : Int32)), .val (.int (0 : Int32)), .unset] [(.int (7 : Int32)), (.int (0 : Int32))])) _
    refine XS.icmpNo X2.here hx rfl (hb hby d2_15) rfl (tlt (by decide : (0 : Int32) < (7 : Int32))).2.1 ?_
    show Steps p.tables e below (T2.setTop (mkF m 18 #[.val (.ref a_FALLS_DUE), .val .null, .val (.ref h0.size), .val (.int (7 : Int32)), .val (.int (0 : Int32)), .unset] [])) _
    refine XS.aloadN X2.here hx rfl (hb hby d2_18) rfl rfl ?_
    show Steps p.tables e below (T2.setTop (mkF m 19 #[.val (.ref a_FALLS_DUE), .val .null, .val (.ref h0.size), .val (.int (7 : Int32)), .val (.int (0 : Int32)), .unset] [(.ref h0.size)])) _
    refine XS.iload X2.here hx rfl (hb hby d2_19) rfl ?_
    show Steps p.tables e below (T2.setTop (mkF m 21 #[.val (.ref a_FALLS_DUE), .val .null, .val (.ref h0.size), .val (.int (7 : Int32)), .val (.int (0 : Int32)), .unset] [(.int (0 : Int32)), (.ref h0.size)])) _
    refine X2.aaload hx (j := (0 : Int32)) (v := (.ref a_NONE)) (by exact Arv_.1) (State.isArrayOf_alike hZ.alike Arv_.2.1) rfl Arv_.2.2 (inb_of Sv ⟨by decide, by decide⟩) (Has.at Hv (inb_of Sv ⟨by decide, by decide⟩) rfl) (g := (mkF m 21 #[.val (.ref a_FALLS_DUE), .val .null, .val (.ref h0.size), .val (.int (7 : Int32)), .val (.int (0 : Int32)), .unset] [(.int (0 : Int32)), (.ref h0.size)])) rfl rfl (hb hby d2_21) _ ?_
    show Steps p.tables e below (T2.setTop (mkF m 22 #[.val (.ref a_FALLS_DUE), .val .null, .val (.ref h0.size), .val (.int (7 : Int32)), .val (.int (0 : Int32)), .unset] [(.ref a_NONE)])) _
    refine XS.astore X2.here hx rfl (hb hby d2_22) rfl rfl (l' := #[.val (.ref a_FALLS_DUE), .val .null, .val (.ref h0.size), .val (.int (7 : Int32)), .val (.int (0 : Int32)), .val (.ref a_NONE)]) rfl ?_
    show Steps p.tables e below (T2.setTop (mkF m 24 #[.val (.ref a_FALLS_DUE), .val .null, .val (.ref h0.size), .val (.int (7 : Int32)), .val (.int (0 : Int32)), .val (.ref a_NONE)] [])) _
    refine XS.aload X2.here hx rfl (hb hby d2_24) rfl rfl ?_
    show Steps p.tables e below (T2.setTop (mkF m 26 #[.val (.ref a_FALLS_DUE), .val .null, .val (.ref h0.size), .val (.int (7 : Int32)), .val (.int (0 : Int32)), .val (.ref a_NONE)] [(.ref a_NONE)])) _
    refine st5 _ ?_
    show Steps p.tables e below (T5.setTop (mkF m 29 #[.val (.ref a_FALLS_DUE), .val .null, .val (.ref h0.size), .val (.int (7 : Int32)), .val (.int (0 : Int32)), .val (.ref a_NONE)] [(.int (0 : Int32))])) _
    refine XS.aloadN X5.here hx rfl (hb hby d2_29) rfl rfl ?_
    show Steps p.tables e below (T5.setTop (mkF m 30 #[.val (.ref a_FALLS_DUE), .val .null, .val (.ref h0.size), .val (.int (7 : Int32)), .val (.int (0 : Int32)), .val (.ref a_NONE)] [(.ref a_FALLS_DUE), (.int (0 : Int32))])) _
    refine st7 _ ?_
    show Steps p.tables e below (T7.setTop (mkF m 33 #[.val (.ref a_FALLS_DUE), .val .null, .val (.ref h0.size), .val (.int (7 : Int32)), .val (.int (0 : Int32)), .val (.ref a_NONE)] [(.int (0 : Int32)), (.int (0 : Int32))])) _
    refine XS.ineg X7.here hx rfl (hb hby d2_33) rfl ?_
    show Steps p.tables e below (T7.setTop (mkF m 34 #[.val (.ref a_FALLS_DUE), .val .null, .val (.ref h0.size), .val (.int (7 : Int32)), .val (.int (0 : Int32)), .val (.ref a_NONE)] [(.int (-(0 : Int32))), (.int (0 : Int32))])) _
    refine XS.icmpNo X7.here hx rfl (hb hby d2_34) rfl (teq (by decide)).2 ?_
    show Steps p.tables e below (T7.setTop (mkF m 37 #[.val (.ref a_FALLS_DUE), .val .null, .val (.ref h0.size), .val (.int (7 : Int32)), .val (.int (0 : Int32)), .val (.ref a_NONE)] [])) _
    refine XS.aload X7.here hx rfl (hb hby d2_37) rfl rfl ?_
    show Steps p.tables e below (T7.setTop (mkF m 39 #[.val (.ref a_FALLS_DUE), .val .null, .val (.ref h0.size), .val (.int (7 : Int32)), .val (.int (0 : Int32)), .val (.ref a_NONE)] [(.ref a_NONE)])) _
    refine st9 _ ?_
    show Steps p.tables e below (T9.setTop (mkF m 42 #[.val (.ref a_FALLS_DUE), .val .null, .val (.ref h0.size), .val (.int (7 : Int32)), .val (.int (0 : Int32)), .val (.ref a_NONE)] [(.int (0 : Int32))])) _
    refine XS.aloadN X9.here hx rfl (hb hby d2_42) rfl rfl ?_
    show Steps p.tables e below (T9.setTop (mkF m 43 #[.val (.ref a_FALLS_DUE), .val .null, .val (.ref h0.size), .val (.int (7 : Int32)), .val (.int (0 : Int32)), .val (.ref a_NONE)] [(.ref a_FALLS_DUE), (.int (0 : Int32))])) _
    refine st11 _ ?_
    show Steps p.tables e below (T11.setTop (mkF m 46 #[.val (.ref a_FALLS_DUE), .val .null, .val (.ref h0.size), .val (.int (7 : Int32)), .val (.int (0 : Int32)), .val (.ref a_NONE)] [(.int (1 : Int32)), (.int (0 : Int32))])) _
    refine XS.ineg X11.here hx rfl (hb hby d2_46) rfl ?_
    show Steps p.tables e below (T11.setTop (mkF m 47 #[.val (.ref a_FALLS_DUE), .val .null, .val (.ref h0.size), .val (.int (7 : Int32)), .val (.int (0 : Int32)), .val (.ref a_NONE)] [(.int (-(1 : Int32))), (.int (0 : Int32))])) _
    refine XS.icmpYes X11.here hx rfl (pc0 := 47) (pc' := 53) rfl (hb hby d2_47) rfl (feq (by decide)).2 (by decide) (by decide) ?_
    show Steps p.tables e below (T11.setTop (mkF m 53 #[.val (.ref a_FALLS_DUE), .val .null, .val (.ref h0.size), .val (.int (7 : Int32)), .val (.int (0 : Int32)), .val (.ref a_NONE)] [])) _
    refine XS.iinc X11.here hx rfl (hb hby d2_53) rfl (l' := #[.val (.ref a_FALLS_DUE), .val .null, .val (.ref h0.size), .val (.int (7 : Int32)), .val (.int (1 : Int32)), .val (.ref a_NONE)]) rfl ?_
    show Steps p.tables e below (T11.setTop (mkF m 56 #[.val (.ref a_FALLS_DUE), .val .null, .val (.ref h0.size), .val (.int (7 : Int32)), .val (.int (1 : Int32)), .val (.ref a_NONE)] [])) _
    refine XS.goto X11.here hx rfl (pc0 := 56) (pc' := 12) rfl (hb hby d2_56) (by decide) (by decide) ?_
    show Steps p.tables e below (T11.setTop (mkF m 12 #[.val (.ref a_FALLS_DUE), .val .null, .val (.ref h0.size), .val (.int (7 : Int32)), .val (.int (1 : Int32)), .val (.ref a_NONE)] [])) _
    refine XS.iload X11.here hx rfl (hb hby d2_12) rfl ?_
    show Steps p.tables e below (T11.setTop (mkF m 14 #[.val (.ref a_FALLS_DUE), .val .null, .val (.ref h0.size), .val (.int (7 : Int32)), .val (.int (1 : Int32)), .val (.ref a_NONE)] [(.int (1 : Int32))])) _
    refine XS.iloadN X11.here hx rfl (hb hby d2_14) rfl ?_
    show Steps p.tables e below (T11.setTop (mkF m 15 #[.val (.ref a_FALLS_DUE), .val .null, .val (.ref h0.size), .val (.int (7 : Int32)), .val (.int (1 : Int32)), .val (.ref a_NONE)] [(.int (7 : Int32)), (.int (1 : Int32))])) _
    refine XS.icmpNo X11.here hx rfl (hb hby d2_15) rfl (tlt (by decide : (1 : Int32) < (7 : Int32))).2.1 ?_
    show Steps p.tables e below (T11.setTop (mkF m 18 #[.val (.ref a_FALLS_DUE), .val .null, .val (.ref h0.size), .val (.int (7 : Int32)), .val (.int (1 : Int32)), .val (.ref a_NONE)] [])) _
    refine XS.aloadN X11.here hx rfl (hb hby d2_18) rfl rfl ?_
    show Steps p.tables e below (T11.setTop (mkF m 19 #[.val (.ref a_FALLS_DUE), .val .null, .val (.ref h0.size), .val (.int (7 : Int32)), .val (.int (1 : Int32)), .val (.ref a_NONE)] [(.ref h0.size)])) _
    refine XS.iload X11.here hx rfl (hb hby d2_19) rfl ?_
    show Steps p.tables e below (T11.setTop (mkF m 21 #[.val (.ref a_FALLS_DUE), .val .null, .val (.ref h0.size), .val (.int (7 : Int32)), .val (.int (1 : Int32)), .val (.ref a_NONE)] [(.int (1 : Int32)), (.ref h0.size)])) _
    refine X11.aaload hx (j := (1 : Int32)) (v := (.ref a_WAITS)) (by rw [e11]; exact Arv_.1) (State.isArrayOf_alike hZ.alike Arv_.2.1) rfl Arv_.2.2 (inb_of Sv ⟨by decide, by decide⟩) (Has.at Hv (inb_of Sv ⟨by decide, by decide⟩) rfl) (g := (mkF m 21 #[.val (.ref a_FALLS_DUE), .val .null, .val (.ref h0.size), .val (.int (7 : Int32)), .val (.int (1 : Int32)), .val (.ref a_NONE)] [(.int (1 : Int32)), (.ref h0.size)])) rfl rfl (hb hby d2_21) _ ?_
    show Steps p.tables e below (T11.setTop (mkF m 22 #[.val (.ref a_FALLS_DUE), .val .null, .val (.ref h0.size), .val (.int (7 : Int32)), .val (.int (1 : Int32)), .val (.ref a_NONE)] [(.ref a_WAITS)])) _
    refine XS.astore X11.here hx rfl (hb hby d2_22) rfl rfl (l' := #[.val (.ref a_FALLS_DUE), .val .null, .val (.ref h0.size), .val (.int (7 : Int32)), .val (.int (1 : Int32)), .val (.ref a_WAITS)]) rfl ?_
    show Steps p.tables e below (T11.setTop (mkF m 24 #[.val (.ref a_FALLS_DUE), .val .null, .val (.ref h0.size), .val (.int (7 : Int32)), .val (.int (1 : Int32)), .val (.ref a_WAITS)] [])) _
    refine XS.aload X11.here hx rfl (hb hby d2_24) rfl rfl ?_
    show Steps p.tables e below (T11.setTop (mkF m 26 #[.val (.ref a_FALLS_DUE), .val .null, .val (.ref h0.size), .val (.int (7 : Int32)), .val (.int (1 : Int32)), .val (.ref a_WAITS)] [(.ref a_WAITS)])) _
    refine st14 _ ?_
    show Steps p.tables e below (T14.setTop (mkF m 29 #[.val (.ref a_FALLS_DUE), .val .null, .val (.ref h0.size), .val (.int (7 : Int32)), .val (.int (1 : Int32)), .val (.ref a_WAITS)] [(.int (1 : Int32))])) _
    refine XS.aloadN X14.here hx rfl (hb hby d2_29) rfl rfl ?_
    show Steps p.tables e below (T14.setTop (mkF m 30 #[.val (.ref a_FALLS_DUE), .val .null, .val (.ref h0.size), .val (.int (7 : Int32)), .val (.int (1 : Int32)), .val (.ref a_WAITS)] [(.ref a_FALLS_DUE), (.int (1 : Int32))])) _
    refine st15 _ ?_
    show Steps p.tables e below (T15.setTop (mkF m 33 #[.val (.ref a_FALLS_DUE), .val .null, .val (.ref h0.size), .val (.int (7 : Int32)), .val (.int (1 : Int32)), .val (.ref a_WAITS)] [(.int (0 : Int32)), (.int (1 : Int32))])) _
    refine XS.ineg X15.here hx rfl (hb hby d2_33) rfl ?_
    show Steps p.tables e below (T15.setTop (mkF m 34 #[.val (.ref a_FALLS_DUE), .val .null, .val (.ref h0.size), .val (.int (7 : Int32)), .val (.int (1 : Int32)), .val (.ref a_WAITS)] [(.int (-(0 : Int32))), (.int (1 : Int32))])) _
    refine XS.icmpYes X15.here hx rfl (pc0 := 34) (pc' := 53) rfl (hb hby d2_34) rfl (feq (by decide)).2 (by decide) (by decide) ?_
    show Steps p.tables e below (T15.setTop (mkF m 53 #[.val (.ref a_FALLS_DUE), .val .null, .val (.ref h0.size), .val (.int (7 : Int32)), .val (.int (1 : Int32)), .val (.ref a_WAITS)] [])) _
    refine XS.iinc X15.here hx rfl (hb hby d2_53) rfl (l' := #[.val (.ref a_FALLS_DUE), .val .null, .val (.ref h0.size), .val (.int (7 : Int32)), .val (.int (2 : Int32)), .val (.ref a_WAITS)]) rfl ?_
    show Steps p.tables e below (T15.setTop (mkF m 56 #[.val (.ref a_FALLS_DUE), .val .null, .val (.ref h0.size), .val (.int (7 : Int32)), .val (.int (2 : Int32)), .val (.ref a_WAITS)] [])) _
    refine XS.goto X15.here hx rfl (pc0 := 56) (pc' := 12) rfl (hb hby d2_56) (by decide) (by decide) ?_
    show Steps p.tables e below (T15.setTop (mkF m 12 #[.val (.ref a_FALLS_DUE), .val .null, .val (.ref h0.size), .val (.int (7 : Int32)), .val (.int (2 : Int32)), .val (.ref a_WAITS)] [])) _
    refine XS.iload X15.here hx rfl (hb hby d2_12) rfl ?_
    show Steps p.tables e below (T15.setTop (mkF m 14 #[.val (.ref a_FALLS_DUE), .val .null, .val (.ref h0.size), .val (.int (7 : Int32)), .val (.int (2 : Int32)), .val (.ref a_WAITS)] [(.int (2 : Int32))])) _
    refine XS.iloadN X15.here hx rfl (hb hby d2_14) rfl ?_
    show Steps p.tables e below (T15.setTop (mkF m 15 #[.val (.ref a_FALLS_DUE), .val .null, .val (.ref h0.size), .val (.int (7 : Int32)), .val (.int (2 : Int32)), .val (.ref a_WAITS)] [(.int (7 : Int32)), (.int (2 : Int32))])) _
    refine XS.icmpNo X15.here hx rfl (hb hby d2_15) rfl (tlt (by decide : (2 : Int32) < (7 : Int32))).2.1 ?_
    show Steps p.tables e below (T15.setTop (mkF m 18 #[.val (.ref a_FALLS_DUE), .val .null, .val (.ref h0.size), .val (.int (7 : Int32)), .val (.int (2 : Int32)), .val (.ref a_WAITS)] [])) _
    refine XS.aloadN X15.here hx rfl (hb hby d2_18) rfl rfl ?_
    show Steps p.tables e below (T15.setTop (mkF m 19 #[.val (.ref a_FALLS_DUE), .val .null, .val (.ref h0.size), .val (.int (7 : Int32)), .val (.int (2 : Int32)), .val (.ref a_WAITS)] [(.ref h0.size)])) _
    refine XS.iload X15.here hx rfl (hb hby d2_19) rfl ?_
    show Steps p.tables e below (T15.setTop (mkF m 21 #[.val (.ref a_FALLS_DUE), .val .null, .val (.ref h0.size), .val (.int (7 : Int32)), .val (.int (2 : Int32)), .val (.ref a_WAITS)] [(.int (2 : Int32)), (.ref h0.size)])) _
    refine X15.aaload hx (j := (2 : Int32)) (v := (.ref a_WAITS_NO_MORE)) (by rw [e15]; exact Arv_.1) (State.isArrayOf_alike hZ.alike Arv_.2.1) rfl Arv_.2.2 (inb_of Sv ⟨by decide, by decide⟩) (Has.at Hv (inb_of Sv ⟨by decide, by decide⟩) rfl) (g := (mkF m 21 #[.val (.ref a_FALLS_DUE), .val .null, .val (.ref h0.size), .val (.int (7 : Int32)), .val (.int (2 : Int32)), .val (.ref a_WAITS)] [(.int (2 : Int32)), (.ref h0.size)])) rfl rfl (hb hby d2_21) _ ?_
    show Steps p.tables e below (T15.setTop (mkF m 22 #[.val (.ref a_FALLS_DUE), .val .null, .val (.ref h0.size), .val (.int (7 : Int32)), .val (.int (2 : Int32)), .val (.ref a_WAITS)] [(.ref a_WAITS_NO_MORE)])) _
    refine XS.astore X15.here hx rfl (hb hby d2_22) rfl rfl (l' := #[.val (.ref a_FALLS_DUE), .val .null, .val (.ref h0.size), .val (.int (7 : Int32)), .val (.int (2 : Int32)), .val (.ref a_WAITS_NO_MORE)]) rfl ?_
    show Steps p.tables e below (T15.setTop (mkF m 24 #[.val (.ref a_FALLS_DUE), .val .null, .val (.ref h0.size), .val (.int (7 : Int32)), .val (.int (2 : Int32)), .val (.ref a_WAITS_NO_MORE)] [])) _
    refine XS.aload X15.here hx rfl (hb hby d2_24) rfl rfl ?_
    show Steps p.tables e below (T15.setTop (mkF m 26 #[.val (.ref a_FALLS_DUE), .val .null, .val (.ref h0.size), .val (.int (7 : Int32)), .val (.int (2 : Int32)), .val (.ref a_WAITS_NO_MORE)] [(.ref a_WAITS_NO_MORE)])) _
    refine st18 _ ?_
    show Steps p.tables e below (T18.setTop (mkF m 29 #[.val (.ref a_FALLS_DUE), .val .null, .val (.ref h0.size), .val (.int (7 : Int32)), .val (.int (2 : Int32)), .val (.ref a_WAITS_NO_MORE)] [(.int (-1 : Int32))])) _
    refine XS.aloadN X18.here hx rfl (hb hby d2_29) rfl rfl ?_
    show Steps p.tables e below (T18.setTop (mkF m 30 #[.val (.ref a_FALLS_DUE), .val .null, .val (.ref h0.size), .val (.int (7 : Int32)), .val (.int (2 : Int32)), .val (.ref a_WAITS_NO_MORE)] [(.ref a_FALLS_DUE), (.int (-1 : Int32))])) _
    refine st19 _ ?_
    show Steps p.tables e below (T19.setTop (mkF m 33 #[.val (.ref a_FALLS_DUE), .val .null, .val (.ref h0.size), .val (.int (7 : Int32)), .val (.int (2 : Int32)), .val (.ref a_WAITS_NO_MORE)] [(.int (0 : Int32)), (.int (-1 : Int32))])) _
    refine XS.ineg X19.here hx rfl (hb hby d2_33) rfl ?_
    show Steps p.tables e below (T19.setTop (mkF m 34 #[.val (.ref a_FALLS_DUE), .val .null, .val (.ref h0.size), .val (.int (7 : Int32)), .val (.int (2 : Int32)), .val (.ref a_WAITS_NO_MORE)] [(.int (-(0 : Int32))), (.int (-1 : Int32))])) _
    refine XS.icmpYes X19.here hx rfl (pc0 := 34) (pc' := 53) rfl (hb hby d2_34) rfl (feq (by decide)).2 (by decide) (by decide) ?_
    show Steps p.tables e below (T19.setTop (mkF m 53 #[.val (.ref a_FALLS_DUE), .val .null, .val (.ref h0.size), .val (.int (7 : Int32)), .val (.int (2 : Int32)), .val (.ref a_WAITS_NO_MORE)] [])) _
    refine XS.iinc X19.here hx rfl (hb hby d2_53) rfl (l' := #[.val (.ref a_FALLS_DUE), .val .null, .val (.ref h0.size), .val (.int (7 : Int32)), .val (.int (3 : Int32)), .val (.ref a_WAITS_NO_MORE)]) rfl ?_
    show Steps p.tables e below (T19.setTop (mkF m 56 #[.val (.ref a_FALLS_DUE), .val .null, .val (.ref h0.size), .val (.int (7 : Int32)), .val (.int (3 : Int32)), .val (.ref a_WAITS_NO_MORE)] [])) _
    refine XS.goto X19.here hx rfl (pc0 := 56) (pc' := 12) rfl (hb hby d2_56) (by decide) (by decide) ?_
    show Steps p.tables e below (T19.setTop (mkF m 12 #[.val (.ref a_FALLS_DUE), .val .null, .val (.ref h0.size), .val (.int (7 : Int32)), .val (.int (3 : Int32)), .val (.ref a_WAITS_NO_MORE)] [])) _
    refine XS.iload X19.here hx rfl (hb hby d2_12) rfl ?_
    show Steps p.tables e below (T19.setTop (mkF m 14 #[.val (.ref a_FALLS_DUE), .val .null, .val (.ref h0.size), .val (.int (7 : Int32)), .val (.int (3 : Int32)), .val (.ref a_WAITS_NO_MORE)] [(.int (3 : Int32))])) _
    refine XS.iloadN X19.here hx rfl (hb hby d2_14) rfl ?_
    show Steps p.tables e below (T19.setTop (mkF m 15 #[.val (.ref a_FALLS_DUE), .val .null, .val (.ref h0.size), .val (.int (7 : Int32)), .val (.int (3 : Int32)), .val (.ref a_WAITS_NO_MORE)] [(.int (7 : Int32)), (.int (3 : Int32))])) _
    refine XS.icmpNo X19.here hx rfl (hb hby d2_15) rfl (tlt (by decide : (3 : Int32) < (7 : Int32))).2.1 ?_
    show Steps p.tables e below (T19.setTop (mkF m 18 #[.val (.ref a_FALLS_DUE), .val .null, .val (.ref h0.size), .val (.int (7 : Int32)), .val (.int (3 : Int32)), .val (.ref a_WAITS_NO_MORE)] [])) _
    refine XS.aloadN X19.here hx rfl (hb hby d2_18) rfl rfl ?_
    show Steps p.tables e below (T19.setTop (mkF m 19 #[.val (.ref a_FALLS_DUE), .val .null, .val (.ref h0.size), .val (.int (7 : Int32)), .val (.int (3 : Int32)), .val (.ref a_WAITS_NO_MORE)] [(.ref h0.size)])) _
    refine XS.iload X19.here hx rfl (hb hby d2_19) rfl ?_
    show Steps p.tables e below (T19.setTop (mkF m 21 #[.val (.ref a_FALLS_DUE), .val .null, .val (.ref h0.size), .val (.int (7 : Int32)), .val (.int (3 : Int32)), .val (.ref a_WAITS_NO_MORE)] [(.int (3 : Int32)), (.ref h0.size)])) _
    refine X19.aaload hx (j := (3 : Int32)) (v := (.ref a_FALLS_DUE_AFTER_WAITING)) (by rw [e19]; exact Arv_.1) (State.isArrayOf_alike hZ.alike Arv_.2.1) rfl Arv_.2.2 (inb_of Sv ⟨by decide, by decide⟩) (Has.at Hv (inb_of Sv ⟨by decide, by decide⟩) rfl) (g := (mkF m 21 #[.val (.ref a_FALLS_DUE), .val .null, .val (.ref h0.size), .val (.int (7 : Int32)), .val (.int (3 : Int32)), .val (.ref a_WAITS_NO_MORE)] [(.int (3 : Int32)), (.ref h0.size)])) rfl rfl (hb hby d2_21) _ ?_
    show Steps p.tables e below (T19.setTop (mkF m 22 #[.val (.ref a_FALLS_DUE), .val .null, .val (.ref h0.size), .val (.int (7 : Int32)), .val (.int (3 : Int32)), .val (.ref a_WAITS_NO_MORE)] [(.ref a_FALLS_DUE_AFTER_WAITING)])) _
    refine XS.astore X19.here hx rfl (hb hby d2_22) rfl rfl (l' := #[.val (.ref a_FALLS_DUE), .val .null, .val (.ref h0.size), .val (.int (7 : Int32)), .val (.int (3 : Int32)), .val (.ref a_FALLS_DUE_AFTER_WAITING)]) rfl ?_
    show Steps p.tables e below (T19.setTop (mkF m 24 #[.val (.ref a_FALLS_DUE), .val .null, .val (.ref h0.size), .val (.int (7 : Int32)), .val (.int (3 : Int32)), .val (.ref a_FALLS_DUE_AFTER_WAITING)] [])) _
    refine XS.aload X19.here hx rfl (hb hby d2_24) rfl rfl ?_
    show Steps p.tables e below (T19.setTop (mkF m 26 #[.val (.ref a_FALLS_DUE), .val .null, .val (.ref h0.size), .val (.int (7 : Int32)), .val (.int (3 : Int32)), .val (.ref a_FALLS_DUE_AFTER_WAITING)] [(.ref a_FALLS_DUE_AFTER_WAITING)])) _
    refine st22 _ ?_
    show Steps p.tables e below (T22.setTop (mkF m 29 #[.val (.ref a_FALLS_DUE), .val .null, .val (.ref h0.size), .val (.int (7 : Int32)), .val (.int (3 : Int32)), .val (.ref a_FALLS_DUE_AFTER_WAITING)] [(.int (-1 : Int32))])) _
    refine XS.aloadN X22.here hx rfl (hb hby d2_29) rfl rfl ?_
    show Steps p.tables e below (T22.setTop (mkF m 30 #[.val (.ref a_FALLS_DUE), .val .null, .val (.ref h0.size), .val (.int (7 : Int32)), .val (.int (3 : Int32)), .val (.ref a_FALLS_DUE_AFTER_WAITING)] [(.ref a_FALLS_DUE), (.int (-1 : Int32))])) _
    refine st23 _ ?_
    show Steps p.tables e below (T23.setTop (mkF m 33 #[.val (.ref a_FALLS_DUE), .val .null, .val (.ref h0.size), .val (.int (7 : Int32)), .val (.int (3 : Int32)), .val (.ref a_FALLS_DUE_AFTER_WAITING)] [(.int (0 : Int32)), (.int (-1 : Int32))])) _
    refine XS.ineg X23.here hx rfl (hb hby d2_33) rfl ?_
    show Steps p.tables e below (T23.setTop (mkF m 34 #[.val (.ref a_FALLS_DUE), .val .null, .val (.ref h0.size), .val (.int (7 : Int32)), .val (.int (3 : Int32)), .val (.ref a_FALLS_DUE_AFTER_WAITING)] [(.int (-(0 : Int32))), (.int (-1 : Int32))])) _
    refine XS.icmpYes X23.here hx rfl (pc0 := 34) (pc' := 53) rfl (hb hby d2_34) rfl (feq (by decide)).2 (by decide) (by decide) ?_
    show Steps p.tables e below (T23.setTop (mkF m 53 #[.val (.ref a_FALLS_DUE), .val .null, .val (.ref h0.size), .val (.int (7 : Int32)), .val (.int (3 : Int32)), .val (.ref a_FALLS_DUE_AFTER_WAITING)] [])) _
    refine XS.iinc X23.here hx rfl (hb hby d2_53) rfl (l' := #[.val (.ref a_FALLS_DUE), .val .null, .val (.ref h0.size), .val (.int (7 : Int32)), .val (.int (4 : Int32)), .val (.ref a_FALLS_DUE_AFTER_WAITING)]) rfl ?_
    show Steps p.tables e below (T23.setTop (mkF m 56 #[.val (.ref a_FALLS_DUE), .val .null, .val (.ref h0.size), .val (.int (7 : Int32)), .val (.int (4 : Int32)), .val (.ref a_FALLS_DUE_AFTER_WAITING)] [])) _
    refine XS.goto X23.here hx rfl (pc0 := 56) (pc' := 12) rfl (hb hby d2_56) (by decide) (by decide) ?_
    show Steps p.tables e below (T23.setTop (mkF m 12 #[.val (.ref a_FALLS_DUE), .val .null, .val (.ref h0.size), .val (.int (7 : Int32)), .val (.int (4 : Int32)), .val (.ref a_FALLS_DUE_AFTER_WAITING)] [])) _
    refine XS.iload X23.here hx rfl (hb hby d2_12) rfl ?_
    show Steps p.tables e below (T23.setTop (mkF m 14 #[.val (.ref a_FALLS_DUE), .val .null, .val (.ref h0.size), .val (.int (7 : Int32)), .val (.int (4 : Int32)), .val (.ref a_FALLS_DUE_AFTER_WAITING)] [(.int (4 : Int32))])) _
    refine XS.iloadN X23.here hx rfl (hb hby d2_14) rfl ?_
    show Steps p.tables e below (T23.setTop (mkF m 15 #[.val (.ref a_FALLS_DUE), .val .null, .val (.ref h0.size), .val (.int (7 : Int32)), .val (.int (4 : Int32)), .val (.ref a_FALLS_DUE_AFTER_WAITING)] [(.int (7 : Int32)), (.int (4 : Int32))])) _
    refine XS.icmpNo X23.here hx rfl (hb hby d2_15) rfl (tlt (by decide : (4 : Int32) < (7 : Int32))).2.1 ?_
    show Steps p.tables e below (T23.setTop (mkF m 18 #[.val (.ref a_FALLS_DUE), .val .null, .val (.ref h0.size), .val (.int (7 : Int32)), .val (.int (4 : Int32)), .val (.ref a_FALLS_DUE_AFTER_WAITING)] [])) _
    refine XS.aloadN X23.here hx rfl (hb hby d2_18) rfl rfl ?_
    show Steps p.tables e below (T23.setTop (mkF m 19 #[.val (.ref a_FALLS_DUE), .val .null, .val (.ref h0.size), .val (.int (7 : Int32)), .val (.int (4 : Int32)), .val (.ref a_FALLS_DUE_AFTER_WAITING)] [(.ref h0.size)])) _
    refine XS.iload X23.here hx rfl (hb hby d2_19) rfl ?_
    show Steps p.tables e below (T23.setTop (mkF m 21 #[.val (.ref a_FALLS_DUE), .val .null, .val (.ref h0.size), .val (.int (7 : Int32)), .val (.int (4 : Int32)), .val (.ref a_FALLS_DUE_AFTER_WAITING)] [(.int (4 : Int32)), (.ref h0.size)])) _
    refine X23.aaload hx (j := (4 : Int32)) (v := (.ref a_WAITS_AGAIN)) (by rw [e23]; exact Arv_.1) (State.isArrayOf_alike hZ.alike Arv_.2.1) rfl Arv_.2.2 (inb_of Sv ⟨by decide, by decide⟩) (Has.at Hv (inb_of Sv ⟨by decide, by decide⟩) rfl) (g := (mkF m 21 #[.val (.ref a_FALLS_DUE), .val .null, .val (.ref h0.size), .val (.int (7 : Int32)), .val (.int (4 : Int32)), .val (.ref a_FALLS_DUE_AFTER_WAITING)] [(.int (4 : Int32)), (.ref h0.size)])) rfl rfl (hb hby d2_21) _ ?_
    show Steps p.tables e below (T23.setTop (mkF m 22 #[.val (.ref a_FALLS_DUE), .val .null, .val (.ref h0.size), .val (.int (7 : Int32)), .val (.int (4 : Int32)), .val (.ref a_FALLS_DUE_AFTER_WAITING)] [(.ref a_WAITS_AGAIN)])) _
    refine XS.astore X23.here hx rfl (hb hby d2_22) rfl rfl (l' := #[.val (.ref a_FALLS_DUE), .val .null, .val (.ref h0.size), .val (.int (7 : Int32)), .val (.int (4 : Int32)), .val (.ref a_WAITS_AGAIN)]) rfl ?_
    show Steps p.tables e below (T23.setTop (mkF m 24 #[.val (.ref a_FALLS_DUE), .val .null, .val (.ref h0.size), .val (.int (7 : Int32)), .val (.int (4 : Int32)), .val (.ref a_WAITS_AGAIN)] [])) _
    refine XS.aload X23.here hx rfl (hb hby d2_24) rfl rfl ?_
    show Steps p.tables e below (T23.setTop (mkF m 26 #[.val (.ref a_FALLS_DUE), .val .null, .val (.ref h0.size), .val (.int (7 : Int32)), .val (.int (4 : Int32)), .val (.ref a_WAITS_AGAIN)] [(.ref a_WAITS_AGAIN)])) _
    refine st26 _ ?_
    show Steps p.tables e below (T26.setTop (mkF m 29 #[.val (.ref a_FALLS_DUE), .val .null, .val (.ref h0.size), .val (.int (7 : Int32)), .val (.int (4 : Int32)), .val (.ref a_WAITS_AGAIN)] [(.int (1 : Int32))])) _
    refine XS.aloadN X26.here hx rfl (hb hby d2_29) rfl rfl ?_
    show Steps p.tables e below (T26.setTop (mkF m 30 #[.val (.ref a_FALLS_DUE), .val .null, .val (.ref h0.size), .val (.int (7 : Int32)), .val (.int (4 : Int32)), .val (.ref a_WAITS_AGAIN)] [(.ref a_FALLS_DUE), (.int (1 : Int32))])) _
    refine st27 _ ?_
    show Steps p.tables e below (T27.setTop (mkF m 33 #[.val (.ref a_FALLS_DUE), .val .null, .val (.ref h0.size), .val (.int (7 : Int32)), .val (.int (4 : Int32)), .val (.ref a_WAITS_AGAIN)] [(.int (0 : Int32)), (.int (1 : Int32))])) _
    refine XS.ineg X27.here hx rfl (hb hby d2_33) rfl ?_
    show Steps p.tables e below (T27.setTop (mkF m 34 #[.val (.ref a_FALLS_DUE), .val .null, .val (.ref h0.size), .val (.int (7 : Int32)), .val (.int (4 : Int32)), .val (.ref a_WAITS_AGAIN)] [(.int (-(0 : Int32))), (.int (1 : Int32))])) _
    refine XS.icmpYes X27.here hx rfl (pc0 := 34) (pc' := 53) rfl (hb hby d2_34) rfl (feq (by decide)).2 (by decide) (by decide) ?_
    show Steps p.tables e below (T27.setTop (mkF m 53 #[.val (.ref a_FALLS_DUE), .val .null, .val (.ref h0.size), .val (.int (7 : Int32)), .val (.int (4 : Int32)), .val (.ref a_WAITS_AGAIN)] [])) _
    refine XS.iinc X27.here hx rfl (hb hby d2_53) rfl (l' := #[.val (.ref a_FALLS_DUE), .val .null, .val (.ref h0.size), .val (.int (7 : Int32)), .val (.int (5 : Int32)), .val (.ref a_WAITS_AGAIN)]) rfl ?_
    show Steps p.tables e below (T27.setTop (mkF m 56 #[.val (.ref a_FALLS_DUE), .val .null, .val (.ref h0.size), .val (.int (7 : Int32)), .val (.int (5 : Int32)), .val (.ref a_WAITS_AGAIN)] [])) _
    refine XS.goto X27.here hx rfl (pc0 := 56) (pc' := 12) rfl (hb hby d2_56) (by decide) (by decide) ?_
    show Steps p.tables e below (T27.setTop (mkF m 12 #[.val (.ref a_FALLS_DUE), .val .null, .val (.ref h0.size), .val (.int (7 : Int32)), .val (.int (5 : Int32)), .val (.ref a_WAITS_AGAIN)] [])) _
    refine XS.iload X27.here hx rfl (hb hby d2_12) rfl ?_
    show Steps p.tables e below (T27.setTop (mkF m 14 #[.val (.ref a_FALLS_DUE), .val .null, .val (.ref h0.size), .val (.int (7 : Int32)), .val (.int (5 : Int32)), .val (.ref a_WAITS_AGAIN)] [(.int (5 : Int32))])) _
    refine XS.iloadN X27.here hx rfl (hb hby d2_14) rfl ?_
    show Steps p.tables e below (T27.setTop (mkF m 15 #[.val (.ref a_FALLS_DUE), .val .null, .val (.ref h0.size), .val (.int (7 : Int32)), .val (.int (5 : Int32)), .val (.ref a_WAITS_AGAIN)] [(.int (7 : Int32)), (.int (5 : Int32))])) _
    refine XS.icmpNo X27.here hx rfl (hb hby d2_15) rfl (tlt (by decide : (5 : Int32) < (7 : Int32))).2.1 ?_
    show Steps p.tables e below (T27.setTop (mkF m 18 #[.val (.ref a_FALLS_DUE), .val .null, .val (.ref h0.size), .val (.int (7 : Int32)), .val (.int (5 : Int32)), .val (.ref a_WAITS_AGAIN)] [])) _
    refine XS.aloadN X27.here hx rfl (hb hby d2_18) rfl rfl ?_
    show Steps p.tables e below (T27.setTop (mkF m 19 #[.val (.ref a_FALLS_DUE), .val .null, .val (.ref h0.size), .val (.int (7 : Int32)), .val (.int (5 : Int32)), .val (.ref a_WAITS_AGAIN)] [(.ref h0.size)])) _
    refine XS.iload X27.here hx rfl (hb hby d2_19) rfl ?_
    show Steps p.tables e below (T27.setTop (mkF m 21 #[.val (.ref a_FALLS_DUE), .val .null, .val (.ref h0.size), .val (.int (7 : Int32)), .val (.int (5 : Int32)), .val (.ref a_WAITS_AGAIN)] [(.int (5 : Int32)), (.ref h0.size)])) _
    refine X27.aaload hx (j := (5 : Int32)) (v := (.ref a_FALLS_DUE)) (by rw [e27]; exact Arv_.1) (State.isArrayOf_alike hZ.alike Arv_.2.1) rfl Arv_.2.2 (inb_of Sv ⟨by decide, by decide⟩) (Has.at Hv (inb_of Sv ⟨by decide, by decide⟩) rfl) (g := (mkF m 21 #[.val (.ref a_FALLS_DUE), .val .null, .val (.ref h0.size), .val (.int (7 : Int32)), .val (.int (5 : Int32)), .val (.ref a_WAITS_AGAIN)] [(.int (5 : Int32)), (.ref h0.size)])) rfl rfl (hb hby d2_21) _ ?_
    show Steps p.tables e below (T27.setTop (mkF m 22 #[.val (.ref a_FALLS_DUE), .val .null, .val (.ref h0.size), .val (.int (7 : Int32)), .val (.int (5 : Int32)), .val (.ref a_WAITS_AGAIN)] [(.ref a_FALLS_DUE)])) _
    refine XS.astore X27.here hx rfl (hb hby d2_22) rfl rfl (l' := #[.val (.ref a_FALLS_DUE), .val .null, .val (.ref h0.size), .val (.int (7 : Int32)), .val (.int (5 : Int32)), .val (.ref a_FALLS_DUE)]) rfl ?_
    show Steps p.tables e below (T27.setTop (mkF m 24 #[.val (.ref a_FALLS_DUE), .val .null, .val (.ref h0.size), .val (.int (7 : Int32)), .val (.int (5 : Int32)), .val (.ref a_FALLS_DUE)] [])) _
    refine XS.aload X27.here hx rfl (hb hby d2_24) rfl rfl ?_
    show Steps p.tables e below (T27.setTop (mkF m 26 #[.val (.ref a_FALLS_DUE), .val .null, .val (.ref h0.size), .val (.int (7 : Int32)), .val (.int (5 : Int32)), .val (.ref a_FALLS_DUE)] [(.ref a_FALLS_DUE)])) _
    refine st30 _ ?_
    show Steps p.tables e below (T30.setTop (mkF m 29 #[.val (.ref a_FALLS_DUE), .val .null, .val (.ref h0.size), .val (.int (7 : Int32)), .val (.int (5 : Int32)), .val (.ref a_FALLS_DUE)] [(.int (0 : Int32))])) _
    refine XS.aloadN X30.here hx rfl (hb hby d2_29) rfl rfl ?_
    show Steps p.tables e below (T30.setTop (mkF m 30 #[.val (.ref a_FALLS_DUE), .val .null, .val (.ref h0.size), .val (.int (7 : Int32)), .val (.int (5 : Int32)), .val (.ref a_FALLS_DUE)] [(.ref a_FALLS_DUE), (.int (0 : Int32))])) _
    refine st31 _ ?_
    show Steps p.tables e below (T31.setTop (mkF m 33 #[.val (.ref a_FALLS_DUE), .val .null, .val (.ref h0.size), .val (.int (7 : Int32)), .val (.int (5 : Int32)), .val (.ref a_FALLS_DUE)] [(.int (0 : Int32)), (.int (0 : Int32))])) _
    refine XS.ineg X31.here hx rfl (hb hby d2_33) rfl ?_
    show Steps p.tables e below (T31.setTop (mkF m 34 #[.val (.ref a_FALLS_DUE), .val .null, .val (.ref h0.size), .val (.int (7 : Int32)), .val (.int (5 : Int32)), .val (.ref a_FALLS_DUE)] [(.int (-(0 : Int32))), (.int (0 : Int32))])) _
    refine XS.icmpNo X31.here hx rfl (hb hby d2_34) rfl (teq (by decide)).2 ?_
    show Steps p.tables e below (T31.setTop (mkF m 37 #[.val (.ref a_FALLS_DUE), .val .null, .val (.ref h0.size), .val (.int (7 : Int32)), .val (.int (5 : Int32)), .val (.ref a_FALLS_DUE)] [])) _
    refine XS.aload X31.here hx rfl (hb hby d2_37) rfl rfl ?_
    show Steps p.tables e below (T31.setTop (mkF m 39 #[.val (.ref a_FALLS_DUE), .val .null, .val (.ref h0.size), .val (.int (7 : Int32)), .val (.int (5 : Int32)), .val (.ref a_FALLS_DUE)] [(.ref a_FALLS_DUE)])) _
    refine st33 _ ?_
    show Steps p.tables e below (T33.setTop (mkF m 42 #[.val (.ref a_FALLS_DUE), .val .null, .val (.ref h0.size), .val (.int (7 : Int32)), .val (.int (5 : Int32)), .val (.ref a_FALLS_DUE)] [(.int (1 : Int32))])) _
    refine XS.aloadN X33.here hx rfl (hb hby d2_42) rfl rfl ?_
    show Steps p.tables e below (T33.setTop (mkF m 43 #[.val (.ref a_FALLS_DUE), .val .null, .val (.ref h0.size), .val (.int (7 : Int32)), .val (.int (5 : Int32)), .val (.ref a_FALLS_DUE)] [(.ref a_FALLS_DUE), (.int (1 : Int32))])) _
    refine st34 _ ?_
    show Steps p.tables e below (T34.setTop (mkF m 46 #[.val (.ref a_FALLS_DUE), .val .null, .val (.ref h0.size), .val (.int (7 : Int32)), .val (.int (5 : Int32)), .val (.ref a_FALLS_DUE)] [(.int (1 : Int32)), (.int (1 : Int32))])) _
    refine XS.ineg X34.here hx rfl (hb hby d2_46) rfl ?_
    show Steps p.tables e below (T34.setTop (mkF m 47 #[.val (.ref a_FALLS_DUE), .val .null, .val (.ref h0.size), .val (.int (7 : Int32)), .val (.int (5 : Int32)), .val (.ref a_FALLS_DUE)] [(.int (-(1 : Int32))), (.int (1 : Int32))])) _
    refine XS.icmpYes X34.here hx rfl (pc0 := 47) (pc' := 53) rfl (hb hby d2_47) rfl (feq (by decide)).2 (by decide) (by decide) ?_
    show Steps p.tables e below (T34.setTop (mkF m 53 #[.val (.ref a_FALLS_DUE), .val .null, .val (.ref h0.size), .val (.int (7 : Int32)), .val (.int (5 : Int32)), .val (.ref a_FALLS_DUE)] [])) _
    refine XS.iinc X34.here hx rfl (hb hby d2_53) rfl (l' := #[.val (.ref a_FALLS_DUE), .val .null, .val (.ref h0.size), .val (.int (7 : Int32)), .val (.int (6 : Int32)), .val (.ref a_FALLS_DUE)]) rfl ?_
    show Steps p.tables e below (T34.setTop (mkF m 56 #[.val (.ref a_FALLS_DUE), .val .null, .val (.ref h0.size), .val (.int (7 : Int32)), .val (.int (6 : Int32)), .val (.ref a_FALLS_DUE)] [])) _
    refine XS.goto X34.here hx rfl (pc0 := 56) (pc' := 12) rfl (hb hby d2_56) (by decide) (by decide) ?_
    show Steps p.tables e below (T34.setTop (mkF m 12 #[.val (.ref a_FALLS_DUE), .val .null, .val (.ref h0.size), .val (.int (7 : Int32)), .val (.int (6 : Int32)), .val (.ref a_FALLS_DUE)] [])) _
    refine XS.iload X34.here hx rfl (hb hby d2_12) rfl ?_
    show Steps p.tables e below (T34.setTop (mkF m 14 #[.val (.ref a_FALLS_DUE), .val .null, .val (.ref h0.size), .val (.int (7 : Int32)), .val (.int (6 : Int32)), .val (.ref a_FALLS_DUE)] [(.int (6 : Int32))])) _
    refine XS.iloadN X34.here hx rfl (hb hby d2_14) rfl ?_
    show Steps p.tables e below (T34.setTop (mkF m 15 #[.val (.ref a_FALLS_DUE), .val .null, .val (.ref h0.size), .val (.int (7 : Int32)), .val (.int (6 : Int32)), .val (.ref a_FALLS_DUE)] [(.int (7 : Int32)), (.int (6 : Int32))])) _
    refine XS.icmpNo X34.here hx rfl (hb hby d2_15) rfl (tlt (by decide : (6 : Int32) < (7 : Int32))).2.1 ?_
    show Steps p.tables e below (T34.setTop (mkF m 18 #[.val (.ref a_FALLS_DUE), .val .null, .val (.ref h0.size), .val (.int (7 : Int32)), .val (.int (6 : Int32)), .val (.ref a_FALLS_DUE)] [])) _
    refine XS.aloadN X34.here hx rfl (hb hby d2_18) rfl rfl ?_
    show Steps p.tables e below (T34.setTop (mkF m 19 #[.val (.ref a_FALLS_DUE), .val .null, .val (.ref h0.size), .val (.int (7 : Int32)), .val (.int (6 : Int32)), .val (.ref a_FALLS_DUE)] [(.ref h0.size)])) _
    refine XS.iload X34.here hx rfl (hb hby d2_19) rfl ?_
    show Steps p.tables e below (T34.setTop (mkF m 21 #[.val (.ref a_FALLS_DUE), .val .null, .val (.ref h0.size), .val (.int (7 : Int32)), .val (.int (6 : Int32)), .val (.ref a_FALLS_DUE)] [(.int (6 : Int32)), (.ref h0.size)])) _
    refine X34.aaload hx (j := (6 : Int32)) (v := (.ref a_TAKEN_BACK)) (by rw [e34]; exact Arv_.1) (State.isArrayOf_alike hZ.alike Arv_.2.1) rfl Arv_.2.2 (inb_of Sv ⟨by decide, by decide⟩) (Has.at Hv (inb_of Sv ⟨by decide, by decide⟩) rfl) (g := (mkF m 21 #[.val (.ref a_FALLS_DUE), .val .null, .val (.ref h0.size), .val (.int (7 : Int32)), .val (.int (6 : Int32)), .val (.ref a_FALLS_DUE)] [(.int (6 : Int32)), (.ref h0.size)])) rfl rfl (hb hby d2_21) _ ?_
    show Steps p.tables e below (T34.setTop (mkF m 22 #[.val (.ref a_FALLS_DUE), .val .null, .val (.ref h0.size), .val (.int (7 : Int32)), .val (.int (6 : Int32)), .val (.ref a_FALLS_DUE)] [(.ref a_TAKEN_BACK)])) _
    refine XS.astore X34.here hx rfl (hb hby d2_22) rfl rfl (l' := #[.val (.ref a_FALLS_DUE), .val .null, .val (.ref h0.size), .val (.int (7 : Int32)), .val (.int (6 : Int32)), .val (.ref a_TAKEN_BACK)]) rfl ?_
    show Steps p.tables e below (T34.setTop (mkF m 24 #[.val (.ref a_FALLS_DUE), .val .null, .val (.ref h0.size), .val (.int (7 : Int32)), .val (.int (6 : Int32)), .val (.ref a_TAKEN_BACK)] [])) _
    refine XS.aload X34.here hx rfl (hb hby d2_24) rfl rfl ?_
    show Steps p.tables e below (T34.setTop (mkF m 26 #[.val (.ref a_FALLS_DUE), .val .null, .val (.ref h0.size), .val (.int (7 : Int32)), .val (.int (6 : Int32)), .val (.ref a_TAKEN_BACK)] [(.ref a_TAKEN_BACK)])) _
    refine st37 _ ?_
    show Steps p.tables e below (T37.setTop (mkF m 29 #[.val (.ref a_FALLS_DUE), .val .null, .val (.ref h0.size), .val (.int (7 : Int32)), .val (.int (6 : Int32)), .val (.ref a_TAKEN_BACK)] [(.int (0 : Int32))])) _
    refine XS.aloadN X37.here hx rfl (hb hby d2_29) rfl rfl ?_
    show Steps p.tables e below (T37.setTop (mkF m 30 #[.val (.ref a_FALLS_DUE), .val .null, .val (.ref h0.size), .val (.int (7 : Int32)), .val (.int (6 : Int32)), .val (.ref a_TAKEN_BACK)] [(.ref a_FALLS_DUE), (.int (0 : Int32))])) _
    refine st38 _ ?_
    show Steps p.tables e below (T38.setTop (mkF m 33 #[.val (.ref a_FALLS_DUE), .val .null, .val (.ref h0.size), .val (.int (7 : Int32)), .val (.int (6 : Int32)), .val (.ref a_TAKEN_BACK)] [(.int (0 : Int32)), (.int (0 : Int32))])) _
    refine XS.ineg X38.here hx rfl (hb hby d2_33) rfl ?_
    show Steps p.tables e below (T38.setTop (mkF m 34 #[.val (.ref a_FALLS_DUE), .val .null, .val (.ref h0.size), .val (.int (7 : Int32)), .val (.int (6 : Int32)), .val (.ref a_TAKEN_BACK)] [(.int (-(0 : Int32))), (.int (0 : Int32))])) _
    refine XS.icmpNo X38.here hx rfl (hb hby d2_34) rfl (teq (by decide)).2 ?_
    show Steps p.tables e below (T38.setTop (mkF m 37 #[.val (.ref a_FALLS_DUE), .val .null, .val (.ref h0.size), .val (.int (7 : Int32)), .val (.int (6 : Int32)), .val (.ref a_TAKEN_BACK)] [])) _
    refine XS.aload X38.here hx rfl (hb hby d2_37) rfl rfl ?_
    show Steps p.tables e below (T38.setTop (mkF m 39 #[.val (.ref a_FALLS_DUE), .val .null, .val (.ref h0.size), .val (.int (7 : Int32)), .val (.int (6 : Int32)), .val (.ref a_TAKEN_BACK)] [(.ref a_TAKEN_BACK)])) _
    refine st40 _ ?_
    show Steps p.tables e below (T40.setTop (mkF m 42 #[.val (.ref a_FALLS_DUE), .val .null, .val (.ref h0.size), .val (.int (7 : Int32)), .val (.int (6 : Int32)), .val (.ref a_TAKEN_BACK)] [(.int (-1 : Int32))])) _
    refine XS.aloadN X40.here hx rfl (hb hby d2_42) rfl rfl ?_
    show Steps p.tables e below (T40.setTop (mkF m 43 #[.val (.ref a_FALLS_DUE), .val .null, .val (.ref h0.size), .val (.int (7 : Int32)), .val (.int (6 : Int32)), .val (.ref a_TAKEN_BACK)] [(.ref a_FALLS_DUE), (.int (-1 : Int32))])) _
    refine st41 _ ?_
    show Steps p.tables e below (T41.setTop (mkF m 46 #[.val (.ref a_FALLS_DUE), .val .null, .val (.ref h0.size), .val (.int (7 : Int32)), .val (.int (6 : Int32)), .val (.ref a_TAKEN_BACK)] [(.int (1 : Int32)), (.int (-1 : Int32))])) _
    refine XS.ineg X41.here hx rfl (hb hby d2_46) rfl ?_
    show Steps p.tables e below (T41.setTop (mkF m 47 #[.val (.ref a_FALLS_DUE), .val .null, .val (.ref h0.size), .val (.int (7 : Int32)), .val (.int (6 : Int32)), .val (.ref a_TAKEN_BACK)] [(.int (-(1 : Int32))), (.int (-1 : Int32))])) _
    refine XS.icmpNo X41.here hx rfl (hb hby d2_47) rfl (teq (by decide)).2 ?_
    show Steps p.tables e below (T41.setTop (mkF m 50 #[.val (.ref a_FALLS_DUE), .val .null, .val (.ref h0.size), .val (.int (7 : Int32)), .val (.int (6 : Int32)), .val (.ref a_TAKEN_BACK)] [])) _
    refine XS.aload X41.here hx rfl (hb hby d2_50) rfl rfl ?_
    show Steps p.tables e below (T41.setTop (mkF m 52 #[.val (.ref a_FALLS_DUE), .val .null, .val (.ref h0.size), .val (.int (7 : Int32)), .val (.int (6 : Int32)), .val (.ref a_TAKEN_BACK)] [(.ref a_TAKEN_BACK)])) _
    refine XS.astoreN X41.here hx rfl (hb hby d2_52) rfl rfl (l' := #[.val (.ref a_FALLS_DUE), .val (.ref a_TAKEN_BACK), .val (.ref h0.size), .val (.int (7 : Int32)), .val (.int (6 : Int32)), .val (.ref a_TAKEN_BACK)]) rfl ?_
    show Steps p.tables e below (T41.setTop (mkF m 53 #[.val (.ref a_FALLS_DUE), .val (.ref a_TAKEN_BACK), .val (.ref h0.size), .val (.int (7 : Int32)), .val (.int (6 : Int32)), .val (.ref a_TAKEN_BACK)] [])) _
    refine XS.iinc X41.here hx rfl (hb hby d2_53) rfl (l' := #[.val (.ref a_FALLS_DUE), .val (.ref a_TAKEN_BACK), .val (.ref h0.size), .val (.int (7 : Int32)), .val (.int (7 : Int32)), .val (.ref a_TAKEN_BACK)]) rfl ?_
    show Steps p.tables e below (T41.setTop (mkF m 56 #[.val (.ref a_FALLS_DUE), .val (.ref a_TAKEN_BACK), .val (.ref h0.size), .val (.int (7 : Int32)), .val (.int (7 : Int32)), .val (.ref a_TAKEN_BACK)] [])) _
    refine XS.goto X41.here hx rfl (pc0 := 56) (pc' := 12) rfl (hb hby d2_56) (by decide) (by decide) ?_
    show Steps p.tables e below (T41.setTop (mkF m 12 #[.val (.ref a_FALLS_DUE), .val (.ref a_TAKEN_BACK), .val (.ref h0.size), .val (.int (7 : Int32)), .val (.int (7 : Int32)), .val (.ref a_TAKEN_BACK)] [])) _
    refine XS.iload X41.here hx rfl (hb hby d2_12) rfl ?_
    show Steps p.tables e below (T41.setTop (mkF m 14 #[.val (.ref a_FALLS_DUE), .val (.ref a_TAKEN_BACK), .val (.ref h0.size), .val (.int (7 : Int32)), .val (.int (7 : Int32)), .val (.ref a_TAKEN_BACK)] [(.int (7 : Int32))])) _
    refine XS.iloadN X41.here hx rfl (hb hby d2_14) rfl ?_
    show Steps p.tables e below (T41.setTop (mkF m 15 #[.val (.ref a_FALLS_DUE), .val (.ref a_TAKEN_BACK), .val (.ref h0.size), .val (.int (7 : Int32)), .val (.int (7 : Int32)), .val (.ref a_TAKEN_BACK)] [(.int (7 : Int32)), (.int (7 : Int32))])) _
    refine XS.icmpYes X41.here hx rfl (pc0 := 15) (pc' := 59) rfl (hb hby d2_15) rfl (flt (by decide : ¬ ((7 : Int32) < (7 : Int32)))).2.1 (by decide) (by decide) ?_
    show Steps p.tables e below (T41.setTop (mkF m 59 #[.val (.ref a_FALLS_DUE), .val (.ref a_TAKEN_BACK), .val (.ref h0.size), .val (.int (7 : Int32)), .val (.int (7 : Int32)), .val (.ref a_TAKEN_BACK)] [])) _
    refine XS.aloadN X41.here hx rfl (hb hby d2_59) rfl rfl ?_
    show Steps p.tables e below (T41.setTop (mkF m 60 #[.val (.ref a_FALLS_DUE), .val (.ref a_TAKEN_BACK), .val (.ref h0.size), .val (.int (7 : Int32)), .val (.int (7 : Int32)), .val (.ref a_TAKEN_BACK)] [(.ref a_TAKEN_BACK)])) _
    jvm_step X41.here [X41.here.top, hx, (hb hby d2_60), X41.method', Bd.returns, Value.isRef, FieldType.isReference]
    first | (intro acts; rw [hr _ acts rfl rfl rfl]) | rw [hr _ _ rfl rfl rfl]
    exact Steps.refl _
  · show Q2_r5 Z a_NONE a_WAITS a_WAITS_NO_MORE a_FALLS_DUE_AFTER_WAITING a_WAITS_AGAIN a_FALLS_DUE a_TAKEN_BACK a_VALUES kV h0 n0 _ T41.heap _
    rw [e41]
    exact ⟨rfl, N2, Ex2⟩
def Q2_r6 (Z : State) (a_NONE a_WAITS a_WAITS_NO_MORE a_FALLS_DUE_AFTER_WAITING a_WAITS_AGAIN a_FALLS_DUE a_TAKEN_BACK a_VALUES : Addr) (kV : ClassId) (h0 : Heap) (n0 : Nat) (v : Option Value) (h : Heap) (L : List Loc) : Prop := v = some (.ref a_FALLS_DUE) ∧ Fr n0 L ∧ Ext h0 h
set_option maxRecDepth 65536 in
set_option maxHeartbeats 40000000 in
theorem rm2_r6 (l : Launch) (Z : State) (a0 : Array Value) (hw : ∀ d ∈ tables_1, d.before a0 Z = true) (ws : List Jvm.Cond)  (a_NONE a_WAITS a_WAITS_NO_MORE a_FALLS_DUE_AFTER_WAITING a_WAITS_AGAIN a_FALLS_DUE a_TAKEN_BACK a_VALUES : Addr) (kV : ClassId) (h0 : Heap) (n0 : Nat) (Z0 : n0 ≤ h0.size) (WW : Own Z h0 a_NONE a_WAITS a_WAITS_NO_MORE a_FALLS_DUE_AFTER_WAITING a_WAITS_AGAIN a_FALLS_DUE a_TAKEN_BACK a_VALUES kV)  :
    MetFree l (⟨"com/example/acompte/acompte/DocumentKind$Vat", "opposite", "()Lcom/example/acompte/acompte/DocumentKind$Vat;"⟩ : MethodName) (head1 (Jvm.Cond.code (⟨"com/example/acompte/acompte/DocumentKind$Vat", "opposite", "()Lcom/example/acompte/acompte/DocumentKind$Vat;"⟩ : MethodName) prog_12_method_6_code 6 (some (.object "com/example/acompte/acompte/DocumentKind$Vat")) :: ws) ({ frames := 2, cells := 1, slots := 7, locals := 25 } : Room)) (fun a U => a = #[(.ref a_TAKEN_BACK)] ∧ Z.Warmed39 U.vm ∧ U.heap = h0) (fun _ _ _ _ _ => True) (fun _ U o U' => ∃ v L, o = .returned v ∧ Q2_r6 Z a_NONE a_WAITS a_WAITS_NO_MORE a_FALLS_DUE_AFTER_WAITING a_WAITS_AGAIN a_FALLS_DUE a_TAKEN_BACK a_VALUES kV h0 n0 v U'.heap L ∧ FrameEnd U o U' L ({ frames := 2, cells := 1, slots := 7, locals := 25 } : Room).cells ({ frames := 2, cells := 1, slots := 7, locals := 25 } : Room).slots) := by
  refine MetFree.of_bodySF (plainFor_of_name pn_2) hisR ?_
  intro p e s m args below meth c s₁ Bd hml0 hP hK
  have WW0 := WW
  obtain ⟨S_NONE, S_WAITS, S_WAITS_NO_MORE, S_FALLS_DUE_AFTER_WAITING, S_WAITS_AGAIN, S_FALLS_DUE, S_TAKEN_BACK, S_VALUES, E_NONE, E_WAITS, E_WAITS_NO_MORE, E_FALLS_DUE_AFTER_WAITING, E_WAITS_AGAIN, E_FALLS_DUE, E_TAKEN_BACK, E_VALUES, Fw_NONE, Fw_WAITS, Fw_WAITS_NO_MORE, Fw_FALLS_DUE_AFTER_WAITING, Fw_WAITS_AGAIN, Fw_FALLS_DUE, Fw_TAKEN_BACK, Fd_NONE, Fd_WAITS, Fd_WAITS_NO_MORE, Fd_FALLS_DUE_AFTER_WAITING, Fd_WAITS_AGAIN, Fd_FALLS_DUE, Fd_TAKEN_BACK, V_VALUES⟩ := WW0
  obtain ⟨rfl, hZ, hh⟩ := hP
  have hx := Bd.exec
  have hby := Bd.bytes
  have hml : c.maxLocals = 6 := hml0
  have hown : s.vm.findClass "com/example/acompte/acompte/DocumentKind$Vat" = some m.cls := findClass_of_methodNamed Bd.named
  have hnm := (name_of_methodNamed Bd.named Bd.method).1
  have X0 : Stand p l e ({ frames := 2, cells := 1, slots := 7, locals := 25 } : Room) s m #[(.ref a_TAKEN_BACK)] below meth c s₁ [] 0 0 := Stand.of_body Bd
  have e0 : s₁.heap = h0 := by rw [← hh, Bd.state]; rfl
  have N0 := Fr.nil n0
  have pre0 : ∀ t, Steps p.tables e below (s₁.setTop (mkF m 0 #[.val (.ref a_TAKEN_BACK), .unset, .unset, .unset, .unset, .unset] [])) t → Steps p.tables e below (s₁.setTop (entryFrame m #[(.ref a_TAKEN_BACK)] 6)) t := fun t k => castTop (ef_2 m a_TAKEN_BACK) k
  -- 3. LAWS
  -- pc 2: com/example/acompte/acompte/DocumentKind$Vat.values by its contract rm3
  obtain ⟨_, _, ⟨T2, L2, k2, n2⟩, -, X2, ⟨Lc2, hQ2, l2, y2, z2⟩, st2⟩ := Jvm.LawKit.callS X0 hx (y := (⟨"com/example/acompte/acompte/DocumentKind$Vat", "values", "()[Lcom/example/acompte/acompte/DocumentKind$Vat;"⟩ : MethodName)) hown (mvT hZ (hw _ (List.mem_of_getElem? (i := 13) rfl))) (mvT hZ (hw _ (List.mem_of_getElem? (i := 14) rfl))) (mvT hZ (hw _ (List.mem_of_getElem? (i := 6) rfl))) (mvT hZ (hw _ (List.mem_of_getElem? (i := 15) rfl))) (by decide) (backOf (W := 0) (rm3_v l Z a0 hw []  a_NONE a_WAITS a_WAITS_NO_MORE a_FALLS_DUE_AFTER_WAITING a_WAITS_AGAIN a_FALLS_DUE a_TAKEN_BACK a_VALUES kV h0 n0 Z0 WW) hZ (hw _ (List.mem_of_getElem? (i := 15) rfl)) (hw _ (List.mem_of_getElem? (i := 6) rfl)) (by decide) (by decide)) (g := (mkF m 2 #[.val (.ref a_TAKEN_BACK), .val .null, .unset, .unset, .unset, .unset] [])) rfl (by rw [hml]; rfl) (argsL := []) (rest := []) (lenOf pdw_1 rfl) rfl (by show 2 * 0 + _ ≤ _; exact Nat.le_of_eq rfl) (hb hby d2_2) (fun _ _ => ⟨rfl, e0, (by decide : 0 + 1 ≤ _), (by decide : 0 + 7 ≤ _)⟩)
  dsimp only [Pt.U, Pt.locs, Pt.cells, Pt.slots] at X2 l2 y2 z2 st2 hQ2
  subst l2 y2 z2
  obtain ⟨rfl, N2q, Ex2, V2⟩ := hQ2
  have WW2 := WW.ext Ex2
  obtain ⟨S_NONE, S_WAITS, S_WAITS_NO_MORE, S_FALLS_DUE_AFTER_WAITING, S_WAITS_AGAIN, S_FALLS_DUE, S_TAKEN_BACK, S_VALUES, E_NONE, E_WAITS, E_WAITS_NO_MORE, E_FALLS_DUE_AFTER_WAITING, E_WAITS_AGAIN, E_FALLS_DUE, E_TAKEN_BACK, E_VALUES, Fw_NONE, Fw_WAITS, Fw_WAITS_NO_MORE, Fw_FALLS_DUE_AFTER_WAITING, Fw_WAITS_AGAIN, Fw_FALLS_DUE, Fw_TAKEN_BACK, Fd_NONE, Fd_WAITS, Fd_WAITS_NO_MORE, Fd_FALLS_DUE_AFTER_WAITING, Fd_WAITS_AGAIN, Fd_FALLS_DUE, Fd_TAKEN_BACK, V_VALUES⟩ := WW2
  obtain ⟨clv, Arv_, qv, Sv, Nv, Hv, Gv⟩ := V2
  have N2 := Fr.app N0 N2q
  obtain ⟨T5, X5, e5, st5⟩ := getF X2 hx hZ hown (host := "") (Or.inl (hw _ (List.mem_of_getElem? (i := 34) rfl))) Via.refl rfl (Fw_NONE) (g := (mkF m 26 #[.val (.ref a_TAKEN_BACK), .val .null, .val (.ref h0.size), .val (.int (7 : Int32)), .val (.int (0 : Int32)), .val (.ref a_NONE)] [(.ref a_NONE)])) rfl rfl (hb hby d2_26)
  obtain ⟨T7, X7, e7, st7⟩ := getF X5 hx hZ hown (host := "") (Or.inl (hw _ (List.mem_of_getElem? (i := 34) rfl))) Via.refl e5 (Fw_TAKEN_BACK) (g := (mkF m 30 #[.val (.ref a_TAKEN_BACK), .val .null, .val (.ref h0.size), .val (.int (7 : Int32)), .val (.int (0 : Int32)), .val (.ref a_NONE)] [(.ref a_TAKEN_BACK), (.int (0 : Int32))])) rfl rfl (hb hby d2_30)
  obtain ⟨T9, X9, e9, st9⟩ := getF X7 hx hZ hown (host := "") (Or.inl (hw _ (List.mem_of_getElem? (i := 36) rfl))) Via.refl e7 (Fd_NONE) (g := (mkF m 39 #[.val (.ref a_TAKEN_BACK), .val .null, .val (.ref h0.size), .val (.int (7 : Int32)), .val (.int (0 : Int32)), .val (.ref a_NONE)] [(.ref a_NONE)])) rfl rfl (hb hby d2_39)
  obtain ⟨T11, X11, e11, st11⟩ := getF X9 hx hZ hown (host := "") (Or.inl (hw _ (List.mem_of_getElem? (i := 36) rfl))) Via.refl e9 (Fd_TAKEN_BACK) (g := (mkF m 43 #[.val (.ref a_TAKEN_BACK), .val .null, .val (.ref h0.size), .val (.int (7 : Int32)), .val (.int (0 : Int32)), .val (.ref a_NONE)] [(.ref a_TAKEN_BACK), (.int (0 : Int32))])) rfl rfl (hb hby d2_43)
  obtain ⟨T14, X14, e14, st14⟩ := getF X11 hx hZ hown (host := "") (Or.inl (hw _ (List.mem_of_getElem? (i := 34) rfl))) Via.refl e11 (Fw_WAITS) (g := (mkF m 26 #[.val (.ref a_TAKEN_BACK), .val .null, .val (.ref h0.size), .val (.int (7 : Int32)), .val (.int (1 : Int32)), .val (.ref a_WAITS)] [(.ref a_WAITS)])) rfl rfl (hb hby d2_26)
  obtain ⟨T15, X15, e15, st15⟩ := getF X14 hx hZ hown (host := "") (Or.inl (hw _ (List.mem_of_getElem? (i := 34) rfl))) Via.refl e14 (Fw_TAKEN_BACK) (g := (mkF m 30 #[.val (.ref a_TAKEN_BACK), .val .null, .val (.ref h0.size), .val (.int (7 : Int32)), .val (.int (1 : Int32)), .val (.ref a_WAITS)] [(.ref a_TAKEN_BACK), (.int (1 : Int32))])) rfl rfl (hb hby d2_30)
  obtain ⟨T18, X18, e18, st18⟩ := getF X15 hx hZ hown (host := "") (Or.inl (hw _ (List.mem_of_getElem? (i := 34) rfl))) Via.refl e15 (Fw_WAITS_NO_MORE) (g := (mkF m 26 #[.val (.ref a_TAKEN_BACK), .val .null, .val (.ref h0.size), .val (.int (7 : Int32)), .val (.int (2 : Int32)), .val (.ref a_WAITS_NO_MORE)] [(.ref a_WAITS_NO_MORE)])) rfl rfl (hb hby d2_26)
  obtain ⟨T19, X19, e19, st19⟩ := getF X18 hx hZ hown (host := "") (Or.inl (hw _ (List.mem_of_getElem? (i := 34) rfl))) Via.refl e18 (Fw_TAKEN_BACK) (g := (mkF m 30 #[.val (.ref a_TAKEN_BACK), .val .null, .val (.ref h0.size), .val (.int (7 : Int32)), .val (.int (2 : Int32)), .val (.ref a_WAITS_NO_MORE)] [(.ref a_TAKEN_BACK), (.int (-1 : Int32))])) rfl rfl (hb hby d2_30)
  obtain ⟨T22, X22, e22, st22⟩ := getF X19 hx hZ hown (host := "") (Or.inl (hw _ (List.mem_of_getElem? (i := 34) rfl))) Via.refl e19 (Fw_FALLS_DUE_AFTER_WAITING) (g := (mkF m 26 #[.val (.ref a_TAKEN_BACK), .val .null, .val (.ref h0.size), .val (.int (7 : Int32)), .val (.int (3 : Int32)), .val (.ref a_FALLS_DUE_AFTER_WAITING)] [(.ref a_FALLS_DUE_AFTER_WAITING)])) rfl rfl (hb hby d2_26)
  obtain ⟨T23, X23, e23, st23⟩ := getF X22 hx hZ hown (host := "") (Or.inl (hw _ (List.mem_of_getElem? (i := 34) rfl))) Via.refl e22 (Fw_TAKEN_BACK) (g := (mkF m 30 #[.val (.ref a_TAKEN_BACK), .val .null, .val (.ref h0.size), .val (.int (7 : Int32)), .val (.int (3 : Int32)), .val (.ref a_FALLS_DUE_AFTER_WAITING)] [(.ref a_TAKEN_BACK), (.int (-1 : Int32))])) rfl rfl (hb hby d2_30)
  obtain ⟨T26, X26, e26, st26⟩ := getF X23 hx hZ hown (host := "") (Or.inl (hw _ (List.mem_of_getElem? (i := 34) rfl))) Via.refl e23 (Fw_WAITS_AGAIN) (g := (mkF m 26 #[.val (.ref a_TAKEN_BACK), .val .null, .val (.ref h0.size), .val (.int (7 : Int32)), .val (.int (4 : Int32)), .val (.ref a_WAITS_AGAIN)] [(.ref a_WAITS_AGAIN)])) rfl rfl (hb hby d2_26)
  obtain ⟨T27, X27, e27, st27⟩ := getF X26 hx hZ hown (host := "") (Or.inl (hw _ (List.mem_of_getElem? (i := 34) rfl))) Via.refl e26 (Fw_TAKEN_BACK) (g := (mkF m 30 #[.val (.ref a_TAKEN_BACK), .val .null, .val (.ref h0.size), .val (.int (7 : Int32)), .val (.int (4 : Int32)), .val (.ref a_WAITS_AGAIN)] [(.ref a_TAKEN_BACK), (.int (1 : Int32))])) rfl rfl (hb hby d2_30)
  obtain ⟨T30, X30, e30, st30⟩ := getF X27 hx hZ hown (host := "") (Or.inl (hw _ (List.mem_of_getElem? (i := 34) rfl))) Via.refl e27 (Fw_FALLS_DUE) (g := (mkF m 26 #[.val (.ref a_TAKEN_BACK), .val .null, .val (.ref h0.size), .val (.int (7 : Int32)), .val (.int (5 : Int32)), .val (.ref a_FALLS_DUE)] [(.ref a_FALLS_DUE)])) rfl rfl (hb hby d2_26)
  obtain ⟨T31, X31, e31, st31⟩ := getF X30 hx hZ hown (host := "") (Or.inl (hw _ (List.mem_of_getElem? (i := 34) rfl))) Via.refl e30 (Fw_TAKEN_BACK) (g := (mkF m 30 #[.val (.ref a_TAKEN_BACK), .val .null, .val (.ref h0.size), .val (.int (7 : Int32)), .val (.int (5 : Int32)), .val (.ref a_FALLS_DUE)] [(.ref a_TAKEN_BACK), (.int (0 : Int32))])) rfl rfl (hb hby d2_30)
  obtain ⟨T33, X33, e33, st33⟩ := getF X31 hx hZ hown (host := "") (Or.inl (hw _ (List.mem_of_getElem? (i := 36) rfl))) Via.refl e31 (Fd_FALLS_DUE) (g := (mkF m 39 #[.val (.ref a_TAKEN_BACK), .val .null, .val (.ref h0.size), .val (.int (7 : Int32)), .val (.int (5 : Int32)), .val (.ref a_FALLS_DUE)] [(.ref a_FALLS_DUE)])) rfl rfl (hb hby d2_39)
  obtain ⟨T34, X34, e34, st34⟩ := getF X33 hx hZ hown (host := "") (Or.inl (hw _ (List.mem_of_getElem? (i := 36) rfl))) Via.refl e33 (Fd_TAKEN_BACK) (g := (mkF m 43 #[.val (.ref a_TAKEN_BACK), .val .null, .val (.ref h0.size), .val (.int (7 : Int32)), .val (.int (5 : Int32)), .val (.ref a_FALLS_DUE)] [(.ref a_TAKEN_BACK), (.int (1 : Int32))])) rfl rfl (hb hby d2_43)
  obtain ⟨T37, X37, e37, st37⟩ := getF X34 hx hZ hown (host := "") (Or.inl (hw _ (List.mem_of_getElem? (i := 34) rfl))) Via.refl e34 (Fw_TAKEN_BACK) (g := (mkF m 26 #[.val (.ref a_TAKEN_BACK), .val (.ref a_FALLS_DUE), .val (.ref h0.size), .val (.int (7 : Int32)), .val (.int (6 : Int32)), .val (.ref a_TAKEN_BACK)] [(.ref a_TAKEN_BACK)])) rfl rfl (hb hby d2_26)
  obtain ⟨T38, X38, e38, st38⟩ := getF X37 hx hZ hown (host := "") (Or.inl (hw _ (List.mem_of_getElem? (i := 34) rfl))) Via.refl e37 (Fw_TAKEN_BACK) (g := (mkF m 30 #[.val (.ref a_TAKEN_BACK), .val (.ref a_FALLS_DUE), .val (.ref h0.size), .val (.int (7 : Int32)), .val (.int (6 : Int32)), .val (.ref a_TAKEN_BACK)] [(.ref a_TAKEN_BACK), (.int (0 : Int32))])) rfl rfl (hb hby d2_30)
  obtain ⟨T40, X40, e40, st40⟩ := getF X38 hx hZ hown (host := "") (Or.inl (hw _ (List.mem_of_getElem? (i := 36) rfl))) Via.refl e38 (Fd_TAKEN_BACK) (g := (mkF m 39 #[.val (.ref a_TAKEN_BACK), .val (.ref a_FALLS_DUE), .val (.ref h0.size), .val (.int (7 : Int32)), .val (.int (6 : Int32)), .val (.ref a_TAKEN_BACK)] [(.ref a_TAKEN_BACK)])) rfl rfl (hb hby d2_39)
  obtain ⟨T41, X41, e41, st41⟩ := getF X40 hx hZ hown (host := "") (Or.inl (hw _ (List.mem_of_getElem? (i := 36) rfl))) Via.refl e40 (Fd_TAKEN_BACK) (g := (mkF m 43 #[.val (.ref a_TAKEN_BACK), .val (.ref a_FALLS_DUE), .val (.ref h0.size), .val (.int (7 : Int32)), .val (.int (6 : Int32)), .val (.ref a_TAKEN_BACK)] [(.ref a_TAKEN_BACK), (.int (-1 : Int32))])) rfl rfl (hb hby d2_43)
  obtain ⟨fs, hr, hrun, hended, hW, hsame⟩ := X41.leave (v := some (.ref a_FALLS_DUE)) (fun h => by rw [Bd.returns] at h; cases h)
  refine ⟨_, _, pre0 _ ?_, hrun, hended, _, _, rfl, ?_, ⟨_, rfl⟩, hW, hsame.mono (by decide) (by decide)⟩
  -- 4. STEPS
  · show Steps p.tables e below (s₁.setTop (mkF m 0 #[.val (.ref a_TAKEN_BACK), .unset, .unset, .unset, .unset, .unset] [])) _
    refine XS.aconstNull X0.here hx rfl (hb hby d2_0) ?_
    show Steps p.tables e below (s₁.setTop (mkF m 1 #[.val (.ref a_TAKEN_BACK), .unset, .unset, .unset, .unset, .unset] [.null])) _
    refine XS.astoreN X0.here hx rfl (hb hby d2_1) rfl rfl (l' := #[.val (.ref a_TAKEN_BACK), .val .null, .unset, .unset, .unset, .unset]) rfl ?_
    show Steps p.tables e below (s₁.setTop (mkF m 2 #[.val (.ref a_TAKEN_BACK), .val .null, .unset, .unset, .unset, .unset] [])) _
    refine st2 _ ?_
    show Steps p.tables e below (T2.setTop (mkF m 5 #[.val (.ref a_TAKEN_BACK), .val .null, .unset, .unset, .unset, .unset] [(.ref h0.size)])) _
    refine XS.astoreN X2.here hx rfl (hb hby d2_5) rfl rfl (l' := #[.val (.ref a_TAKEN_BACK), .val .null, .val (.ref h0.size), .unset, .unset, .unset]) rfl ?_
    show Steps p.tables e below (T2.setTop (mkF m 6 #[.val (.ref a_TAKEN_BACK), .val .null, .val (.ref h0.size), .unset, .unset, .unset] [])) _
    refine XS.aloadN X2.here hx rfl (hb hby d2_6) rfl rfl ?_
    show Steps p.tables e below (T2.setTop (mkF m 7 #[.val (.ref a_TAKEN_BACK), .val .null, .val (.ref h0.size), .unset, .unset, .unset] [(.ref h0.size)])) _
    refine X2.arraylength hx (by exact Arv_.1) (State.isArrayOf_alike hZ.alike Arv_.2.1) (g := (mkF m 7 #[.val (.ref a_TAKEN_BACK), .val .null, .val (.ref h0.size), .unset, .unset, .unset] [(.ref h0.size)])) rfl rfl (hb hby d2_7) _ ?_
    rw [len_of Sv Nv]
    show Steps p.tables e below (T2.setTop (mkF m 8 #[.val (.ref a_TAKEN_BACK), .val .null, .val (.ref h0.size), .unset, .unset, .unset] [(.int (7 : Int32))])) _
    refine XS.istoreN X2.here hx rfl (hb hby d2_8) rfl (l' := #[.val (.ref a_TAKEN_BACK), .val .null, .val (.ref h0.size), .val (.int (7 : Int32)), .unset, .unset]) rfl ?_
    show Steps p.tables e below (T2.setTop (mkF m 9 #[.val (.ref a_TAKEN_BACK), .val .null, .val (.ref h0.size), .val (.int (7 : Int32)), .unset, .unset] [])) _
    refine XS.iconst X2.here hx rfl (hb hby d2_9) ?_
    show Steps p.tables e below (T2.setTop (mkF m 10 #[.val (.ref a_TAKEN_BACK), .val .null, .val (.ref h0.size), .val (.int (7 : Int32)), .unset, .unset] [(.int (0 : Int32))])) _
    refine XS.istore X2.here hx rfl (hb hby d2_10) rfl (l' := #[.val (.ref a_TAKEN_BACK), .val .null, .val (.ref h0.size), .val (.int (7 : Int32)), .val (.int (0 : Int32)), .unset]) rfl ?_
    show Steps p.tables e below (T2.setTop (mkF m 12 #[.val (.ref a_TAKEN_BACK), .val .null, .val (.ref h0.size), .val (.int (7 : Int32)), .val (.int (0 : Int32)), .unset] [])) _
    refine XS.iload X2.here hx rfl (hb hby d2_12) rfl ?_
    show Steps p.tables e below (T2.setTop (mkF m 14 #[.val (.ref a_TAKEN_BACK), .val .null, .val (.ref h0.size), .val (.int (7 : Int32)), .val (.int (0 : Int32)), .unset] [(.int (0 : Int32))])) _
    refine XS.iloadN X2.here hx rfl (hb hby d2_14) rfl ?_
    show Steps p.tables e below (T2.setTop (mkF m 15 #[.val (.ref a_TAKEN_BACK), .val .null, .val (.ref h0.size), .val (.int (7 : Int32)), .val (.int (0 : Int32)), .unset] [(.int (7 : Int32)), (.int (0 : Int32))])) _
    refine XS.icmpNo X2.here hx rfl (hb hby d2_15) rfl (tlt (by decide : (0 : Int32) < (7 : Int32))).2.1 ?_
    show Steps p.tables e below (T2.setTop (mkF m 18 #[.val (.ref a_TAKEN_BACK), .val .null, .val (.ref h0.size), .val (.int (7 : Int32)), .val (.int (0 : Int32)), .unset] [])) _
    refine XS.aloadN X2.here hx rfl (hb hby d2_18) rfl rfl ?_
    show Steps p.tables e below (T2.setTop (mkF m 19 #[.val (.ref a_TAKEN_BACK), .val .null, .val (.ref h0.size), .val (.int (7 : Int32)), .val (.int (0 : Int32)), .unset] [(.ref h0.size)])) _
    refine XS.iload X2.here hx rfl (hb hby d2_19) rfl ?_
    show Steps p.tables e below (T2.setTop (mkF m 21 #[.val (.ref a_TAKEN_BACK), .val .null, .val (.ref h0.size), .val (.int (7 : Int32)), .val (.int (0 : Int32)), .unset] [(.int (0 : Int32)), (.ref h0.size)])) _
    refine X2.aaload hx (j := (0 : Int32)) (v := (.ref a_NONE)) (by exact Arv_.1) (State.isArrayOf_alike hZ.alike Arv_.2.1) rfl Arv_.2.2 (inb_of Sv ⟨by decide, by decide⟩) (Has.at Hv (inb_of Sv ⟨by decide, by decide⟩) rfl) (g := (mkF m 21 #[.val (.ref a_TAKEN_BACK), .val .null, .val (.ref h0.size), .val (.int (7 : Int32)), .val (.int (0 : Int32)), .unset] [(.int (0 : Int32)), (.ref h0.size)])) rfl rfl (hb hby d2_21) _ ?_
    show Steps p.tables e below (T2.setTop (mkF m 22 #[.val (.ref a_TAKEN_BACK), .val .null, .val (.ref h0.size), .val (.int (7 : Int32)), .val (.int (0 : Int32)), .unset] [(.ref a_NONE)])) _
    refine XS.astore X2.here hx rfl (hb hby d2_22) rfl rfl (l' := #[.val (.ref a_TAKEN_BACK), .val .null, .val (.ref h0.size), .val (.int (7 : Int32)), .val (.int (0 : Int32)), .val (.ref a_NONE)]) rfl ?_
    show Steps p.tables e below (T2.setTop (mkF m 24 #[.val (.ref a_TAKEN_BACK), .val .null, .val (.ref h0.size), .val (.int (7 : Int32)), .val (.int (0 : Int32)), .val (.ref a_NONE)] [])) _
    refine XS.aload X2.here hx rfl (hb hby d2_24) rfl rfl ?_
    show Steps p.tables e below (T2.setTop (mkF m 26 #[.val (.ref a_TAKEN_BACK), .val .null, .val (.ref h0.size), .val (.int (7 : Int32)), .val (.int (0 : Int32)), .val (.ref a_NONE)] [(.ref a_NONE)])) _
    refine st5 _ ?_
    show Steps p.tables e below (T5.setTop (mkF m 29 #[.val (.ref a_TAKEN_BACK), .val .null, .val (.ref h0.size), .val (.int (7 : Int32)), .val (.int (0 : Int32)), .val (.ref a_NONE)] [(.int (0 : Int32))])) _
    refine XS.aloadN X5.here hx rfl (hb hby d2_29) rfl rfl ?_
    show Steps p.tables e below (T5.setTop (mkF m 30 #[.val (.ref a_TAKEN_BACK), .val .null, .val (.ref h0.size), .val (.int (7 : Int32)), .val (.int (0 : Int32)), .val (.ref a_NONE)] [(.ref a_TAKEN_BACK), (.int (0 : Int32))])) _
    refine st7 _ ?_
    show Steps p.tables e below (T7.setTop (mkF m 33 #[.val (.ref a_TAKEN_BACK), .val .null, .val (.ref h0.size), .val (.int (7 : Int32)), .val (.int (0 : Int32)), .val (.ref a_NONE)] [(.int (0 : Int32)), (.int (0 : Int32))])) _
    refine XS.ineg X7.here hx rfl (hb hby d2_33) rfl ?_
    show Steps p.tables e below (T7.setTop (mkF m 34 #[.val (.ref a_TAKEN_BACK), .val .null, .val (.ref h0.size), .val (.int (7 : Int32)), .val (.int (0 : Int32)), .val (.ref a_NONE)] [(.int (-(0 : Int32))), (.int (0 : Int32))])) _
    refine XS.icmpNo X7.here hx rfl (hb hby d2_34) rfl (teq (by decide)).2 ?_
    show Steps p.tables e below (T7.setTop (mkF m 37 #[.val (.ref a_TAKEN_BACK), .val .null, .val (.ref h0.size), .val (.int (7 : Int32)), .val (.int (0 : Int32)), .val (.ref a_NONE)] [])) _
    refine XS.aload X7.here hx rfl (hb hby d2_37) rfl rfl ?_
    show Steps p.tables e below (T7.setTop (mkF m 39 #[.val (.ref a_TAKEN_BACK), .val .null, .val (.ref h0.size), .val (.int (7 : Int32)), .val (.int (0 : Int32)), .val (.ref a_NONE)] [(.ref a_NONE)])) _
    refine st9 _ ?_
    show Steps p.tables e below (T9.setTop (mkF m 42 #[.val (.ref a_TAKEN_BACK), .val .null, .val (.ref h0.size), .val (.int (7 : Int32)), .val (.int (0 : Int32)), .val (.ref a_NONE)] [(.int (0 : Int32))])) _
    refine XS.aloadN X9.here hx rfl (hb hby d2_42) rfl rfl ?_
    show Steps p.tables e below (T9.setTop (mkF m 43 #[.val (.ref a_TAKEN_BACK), .val .null, .val (.ref h0.size), .val (.int (7 : Int32)), .val (.int (0 : Int32)), .val (.ref a_NONE)] [(.ref a_TAKEN_BACK), (.int (0 : Int32))])) _
    refine st11 _ ?_
    show Steps p.tables e below (T11.setTop (mkF m 46 #[.val (.ref a_TAKEN_BACK), .val .null, .val (.ref h0.size), .val (.int (7 : Int32)), .val (.int (0 : Int32)), .val (.ref a_NONE)] [(.int (-1 : Int32)), (.int (0 : Int32))])) _
    refine XS.ineg X11.here hx rfl (hb hby d2_46) rfl ?_
    show Steps p.tables e below (T11.setTop (mkF m 47 #[.val (.ref a_TAKEN_BACK), .val .null, .val (.ref h0.size), .val (.int (7 : Int32)), .val (.int (0 : Int32)), .val (.ref a_NONE)] [(.int (-(-1 : Int32))), (.int (0 : Int32))])) _
    refine XS.icmpYes X11.here hx rfl (pc0 := 47) (pc' := 53) rfl (hb hby d2_47) rfl (feq (by decide)).2 (by decide) (by decide) ?_
    show Steps p.tables e below (T11.setTop (mkF m 53 #[.val (.ref a_TAKEN_BACK), .val .null, .val (.ref h0.size), .val (.int (7 : Int32)), .val (.int (0 : Int32)), .val (.ref a_NONE)] [])) _
    refine XS.iinc X11.here hx rfl (hb hby d2_53) rfl (l' := #[.val (.ref a_TAKEN_BACK), .val .null, .val (.ref h0.size), .val (.int (7 : Int32)), .val (.int (1 : Int32)), .val (.ref a_NONE)]) rfl ?_
    show Steps p.tables e below (T11.setTop (mkF m 56 #[.val (.ref a_TAKEN_BACK), .val .null, .val (.ref h0.size), .val (.int (7 : Int32)), .val (.int (1 : Int32)), .val (.ref a_NONE)] [])) _
    refine XS.goto X11.here hx rfl (pc0 := 56) (pc' := 12) rfl (hb hby d2_56) (by decide) (by decide) ?_
    show Steps p.tables e below (T11.setTop (mkF m 12 #[.val (.ref a_TAKEN_BACK), .val .null, .val (.ref h0.size), .val (.int (7 : Int32)), .val (.int (1 : Int32)), .val (.ref a_NONE)] [])) _
    refine XS.iload X11.here hx rfl (hb hby d2_12) rfl ?_
    show Steps p.tables e below (T11.setTop (mkF m 14 #[.val (.ref a_TAKEN_BACK), .val .null, .val (.ref h0.size), .val (.int (7 : Int32)), .val (.int (1 : Int32)), .val (.ref a_NONE)] [(.int (1 : Int32))])) _
    refine XS.iloadN X11.here hx rfl (hb hby d2_14) rfl ?_
    show Steps p.tables e below (T11.setTop (mkF m 15 #[.val (.ref a_TAKEN_BACK), .val .null, .val (.ref h0.size), .val (.int (7 : Int32)), .val (.int (1 : Int32)), .val (.ref a_NONE)] [(.int (7 : Int32)), (.int (1 : Int32))])) _
    refine XS.icmpNo X11.here hx rfl (hb hby d2_15) rfl (tlt (by decide : (1 : Int32) < (7 : Int32))).2.1 ?_
    show Steps p.tables e below (T11.setTop (mkF m 18 #[.val (.ref a_TAKEN_BACK), .val .null, .val (.ref h0.size), .val (.int (7 : Int32)), .val (.int (1 : Int32)), .val (.ref a_NONE)] [])) _
    refine XS.aloadN X11.here hx rfl (hb hby d2_18) rfl rfl ?_
    show Steps p.tables e below (T11.setTop (mkF m 19 #[.val (.ref a_TAKEN_BACK), .val .null, .val (.ref h0.size), .val (.int (7 : Int32)), .val (.int (1 : Int32)), .val (.ref a_NONE)] [(.ref h0.size)])) _
    refine XS.iload X11.here hx rfl (hb hby d2_19) rfl ?_
    show Steps p.tables e below (T11.setTop (mkF m 21 #[.val (.ref a_TAKEN_BACK), .val .null, .val (.ref h0.size), .val (.int (7 : Int32)), .val (.int (1 : Int32)), .val (.ref a_NONE)] [(.int (1 : Int32)), (.ref h0.size)])) _
    refine X11.aaload hx (j := (1 : Int32)) (v := (.ref a_WAITS)) (by rw [e11]; exact Arv_.1) (State.isArrayOf_alike hZ.alike Arv_.2.1) rfl Arv_.2.2 (inb_of Sv ⟨by decide, by decide⟩) (Has.at Hv (inb_of Sv ⟨by decide, by decide⟩) rfl) (g := (mkF m 21 #[.val (.ref a_TAKEN_BACK), .val .null, .val (.ref h0.size), .val (.int (7 : Int32)), .val (.int (1 : Int32)), .val (.ref a_NONE)] [(.int (1 : Int32)), (.ref h0.size)])) rfl rfl (hb hby d2_21) _ ?_
    show Steps p.tables e below (T11.setTop (mkF m 22 #[.val (.ref a_TAKEN_BACK), .val .null, .val (.ref h0.size), .val (.int (7 : Int32)), .val (.int (1 : Int32)), .val (.ref a_NONE)] [(.ref a_WAITS)])) _
    refine XS.astore X11.here hx rfl (hb hby d2_22) rfl rfl (l' := #[.val (.ref a_TAKEN_BACK), .val .null, .val (.ref h0.size), .val (.int (7 : Int32)), .val (.int (1 : Int32)), .val (.ref a_WAITS)]) rfl ?_
    show Steps p.tables e below (T11.setTop (mkF m 24 #[.val (.ref a_TAKEN_BACK), .val .null, .val (.ref h0.size), .val (.int (7 : Int32)), .val (.int (1 : Int32)), .val (.ref a_WAITS)] [])) _
    refine XS.aload X11.here hx rfl (hb hby d2_24) rfl rfl ?_
    show Steps p.tables e below (T11.setTop (mkF m 26 #[.val (.ref a_TAKEN_BACK), .val .null, .val (.ref h0.size), .val (.int (7 : Int32)), .val (.int (1 : Int32)), .val (.ref a_WAITS)] [(.ref a_WAITS)])) _
    refine st14 _ ?_
    show Steps p.tables e below (T14.setTop (mkF m 29 #[.val (.ref a_TAKEN_BACK), .val .null, .val (.ref h0.size), .val (.int (7 : Int32)), .val (.int (1 : Int32)), .val (.ref a_WAITS)] [(.int (1 : Int32))])) _
    refine XS.aloadN X14.here hx rfl (hb hby d2_29) rfl rfl ?_
    show Steps p.tables e below (T14.setTop (mkF m 30 #[.val (.ref a_TAKEN_BACK), .val .null, .val (.ref h0.size), .val (.int (7 : Int32)), .val (.int (1 : Int32)), .val (.ref a_WAITS)] [(.ref a_TAKEN_BACK), (.int (1 : Int32))])) _
    refine st15 _ ?_
    show Steps p.tables e below (T15.setTop (mkF m 33 #[.val (.ref a_TAKEN_BACK), .val .null, .val (.ref h0.size), .val (.int (7 : Int32)), .val (.int (1 : Int32)), .val (.ref a_WAITS)] [(.int (0 : Int32)), (.int (1 : Int32))])) _
    refine XS.ineg X15.here hx rfl (hb hby d2_33) rfl ?_
    show Steps p.tables e below (T15.setTop (mkF m 34 #[.val (.ref a_TAKEN_BACK), .val .null, .val (.ref h0.size), .val (.int (7 : Int32)), .val (.int (1 : Int32)), .val (.ref a_WAITS)] [(.int (-(0 : Int32))), (.int (1 : Int32))])) _
    refine XS.icmpYes X15.here hx rfl (pc0 := 34) (pc' := 53) rfl (hb hby d2_34) rfl (feq (by decide)).2 (by decide) (by decide) ?_
    show Steps p.tables e below (T15.setTop (mkF m 53 #[.val (.ref a_TAKEN_BACK), .val .null, .val (.ref h0.size), .val (.int (7 : Int32)), .val (.int (1 : Int32)), .val (.ref a_WAITS)] [])) _
    refine XS.iinc X15.here hx rfl (hb hby d2_53) rfl (l' := #[.val (.ref a_TAKEN_BACK), .val .null, .val (.ref h0.size), .val (.int (7 : Int32)), .val (.int (2 : Int32)), .val (.ref a_WAITS)]) rfl ?_
    show Steps p.tables e below (T15.setTop (mkF m 56 #[.val (.ref a_TAKEN_BACK), .val .null, .val (.ref h0.size), .val (.int (7 : Int32)), .val (.int (2 : Int32)), .val (.ref a_WAITS)] [])) _
    refine XS.goto X15.here hx rfl (pc0 := 56) (pc' := 12) rfl (hb hby d2_56) (by decide) (by decide) ?_
    show Steps p.tables e below (T15.setTop (mkF m 12 #[.val (.ref a_TAKEN_BACK), .val .null, .val (.ref h0.size), .val (.int (7 : Int32)), .val (.int (2 : Int32)), .val (.ref a_WAITS)] [])) _
    refine XS.iload X15.here hx rfl (hb hby d2_12) rfl ?_
    show Steps p.tables e below (T15.setTop (mkF m 14 #[.val (.ref a_TAKEN_BACK), .val .null, .val (.ref h0.size), .val (.int (7 : Int32)), .val (.int (2 : Int32)), .val (.ref a_WAITS)] [(.int (2 : Int32))])) _
    refine XS.iloadN X15.here hx rfl (hb hby d2_14) rfl ?_
    show Steps p.tables e below (T15.setTop (mkF m 15 #[.val (.ref a_TAKEN_BACK), .val .null, .val (.ref h0.size), .val (.int (7 : Int32)), .val (.int (2 : Int32)), .val (.ref a_WAITS)] [(.int (7 : Int32)), (.int (2 : Int32))])) _
    refine XS.icmpNo X15.here hx rfl (hb hby d2_15) rfl (tlt (by decide : (2 : Int32) < (7 : Int32))).2.1 ?_
    show Steps p.tables e below (T15.setTop (mkF m 18 #[.val (.ref a_TAKEN_BACK), .val .null, .val (.ref h0.size), .val (.int (7 : Int32)), .val (.int (2 : Int32)), .val (.ref a_WAITS)] [])) _
    refine XS.aloadN X15.here hx rfl (hb hby d2_18) rfl rfl ?_
    show Steps p.tables e below (T15.setTop (mkF m 19 #[.val (.ref a_TAKEN_BACK), .val .null, .val (.ref h0.size), .val (.int (7 : Int32)), .val (.int (2 : Int32)), .val (.ref a_WAITS)] [(.ref h0.size)])) _
    refine XS.iload X15.here hx rfl (hb hby d2_19) rfl ?_
    show Steps p.tables e below (T15.setTop (mkF m 21 #[.val (.ref a_TAKEN_BACK), .val .null, .val (.ref h0.size), .val (.int (7 : Int32)), .val (.int (2 : Int32)), .val (.ref a_WAITS)] [(.int (2 : Int32)), (.ref h0.size)])) _
    refine X15.aaload hx (j := (2 : Int32)) (v := (.ref a_WAITS_NO_MORE)) (by rw [e15]; exact Arv_.1) (State.isArrayOf_alike hZ.alike Arv_.2.1) rfl Arv_.2.2 (inb_of Sv ⟨by decide, by decide⟩) (Has.at Hv (inb_of Sv ⟨by decide, by decide⟩) rfl) (g := (mkF m 21 #[.val (.ref a_TAKEN_BACK), .val .null, .val (.ref h0.size), .val (.int (7 : Int32)), .val (.int (2 : Int32)), .val (.ref a_WAITS)] [(.int (2 : Int32)), (.ref h0.size)])) rfl rfl (hb hby d2_21) _ ?_
    show Steps p.tables e below (T15.setTop (mkF m 22 #[.val (.ref a_TAKEN_BACK), .val .null, .val (.ref h0.size), .val (.int (7 : Int32)), .val (.int (2 : Int32)), .val (.ref a_WAITS)] [(.ref a_WAITS_NO_MORE)])) _
    refine XS.astore X15.here hx rfl (hb hby d2_22) rfl rfl (l' := #[.val (.ref a_TAKEN_BACK), .val .null, .val (.ref h0.size), .val (.int (7 : Int32)), .val (.int (2 : Int32)), .val (.ref a_WAITS_NO_MORE)]) rfl ?_
    show Steps p.tables e below (T15.setTop (mkF m 24 #[.val (.ref a_TAKEN_BACK), .val .null, .val (.ref h0.size), .val (.int (7 : Int32)), .val (.int (2 : Int32)), .val (.ref a_WAITS_NO_MORE)] [])) _
    refine XS.aload X15.here hx rfl (hb hby d2_24) rfl rfl ?_
    show Steps p.tables e below (T15.setTop (mkF m 26 #[.val (.ref a_TAKEN_BACK), .val .null, .val (.ref h0.size), .val (.int (7 : Int32)), .val (.int (2 : Int32)), .val (.ref a_WAITS_NO_MORE)] [(.ref a_WAITS_NO_MORE)])) _
    refine st18 _ ?_
    show Steps p.tables e below (T18.setTop (mkF m 29 #[.val (.ref a_TAKEN_BACK), .val .null, .val (.ref h0.size), .val (.int (7 : Int32)), .val (.int (2 : Int32)), .val (.ref a_WAITS_NO_MORE)] [(.int (-1 : Int32))])) _
    refine XS.aloadN X18.here hx rfl (hb hby d2_29) rfl rfl ?_
    show Steps p.tables e below (T18.setTop (mkF m 30 #[.val (.ref a_TAKEN_BACK), .val .null, .val (.ref h0.size), .val (.int (7 : Int32)), .val (.int (2 : Int32)), .val (.ref a_WAITS_NO_MORE)] [(.ref a_TAKEN_BACK), (.int (-1 : Int32))])) _
    refine st19 _ ?_
    show Steps p.tables e below (T19.setTop (mkF m 33 #[.val (.ref a_TAKEN_BACK), .val .null, .val (.ref h0.size), .val (.int (7 : Int32)), .val (.int (2 : Int32)), .val (.ref a_WAITS_NO_MORE)] [(.int (0 : Int32)), (.int (-1 : Int32))])) _
    refine XS.ineg X19.here hx rfl (hb hby d2_33) rfl ?_
    show Steps p.tables e below (T19.setTop (mkF m 34 #[.val (.ref a_TAKEN_BACK), .val .null, .val (.ref h0.size), .val (.int (7 : Int32)), .val (.int (2 : Int32)), .val (.ref a_WAITS_NO_MORE)] [(.int (-(0 : Int32))), (.int (-1 : Int32))])) _
    refine XS.icmpYes X19.here hx rfl (pc0 := 34) (pc' := 53) rfl (hb hby d2_34) rfl (feq (by decide)).2 (by decide) (by decide) ?_
    show Steps p.tables e below (T19.setTop (mkF m 53 #[.val (.ref a_TAKEN_BACK), .val .null, .val (.ref h0.size), .val (.int (7 : Int32)), .val (.int (2 : Int32)), .val (.ref a_WAITS_NO_MORE)] [])) _
    refine XS.iinc X19.here hx rfl (hb hby d2_53) rfl (l' := #[.val (.ref a_TAKEN_BACK), .val .null, .val (.ref h0.size), .val (.int (7 : Int32)), .val (.int (3 : Int32)), .val (.ref a_WAITS_NO_MORE)]) rfl ?_
    show Steps p.tables e below (T19.setTop (mkF m 56 #[.val (.ref a_TAKEN_BACK), .val .null, .val (.ref h0.size), .val (.int (7 : Int32)), .val (.int (3 : Int32)), .val (.ref a_WAITS_NO_MORE)] [])) _
    refine XS.goto X19.here hx rfl (pc0 := 56) (pc' := 12) rfl (hb hby d2_56) (by decide) (by decide) ?_
    show Steps p.tables e below (T19.setTop (mkF m 12 #[.val (.ref a_TAKEN_BACK), .val .null, .val (.ref h0.size), .val (.int (7 : Int32)), .val (.int (3 : Int32)), .val (.ref a_WAITS_NO_MORE)] [])) _
    refine XS.iload X19.here hx rfl (hb hby d2_12) rfl ?_
    show Steps p.tables e below (T19.setTop (mkF m 14 #[.val (.ref a_TAKEN_BACK), .val .null, .val (.ref h0.size), .val (.int (7 : Int32)), .val (.int (3 : Int32)), .val (.ref a_WAITS_NO_MORE)] [(.int (3 : Int32))])) _
    refine XS.iloadN X19.here hx rfl (hb hby d2_14) rfl ?_
    show Steps p.tables e below (T19.setTop (mkF m 15 #[.val (.ref a_TAKEN_BACK), .val .null, .val (.ref h0.size), .val (.int (7 : Int32)), .val (.int (3 : Int32)), .val (.ref a_WAITS_NO_MORE)] [(.int (7 : Int32)), (.int (3 : Int32))])) _
    refine XS.icmpNo X19.here hx rfl (hb hby d2_15) rfl (tlt (by decide : (3 : Int32) < (7 : Int32))).2.1 ?_
    show Steps p.tables e below (T19.setTop (mkF m 18 #[.val (.ref a_TAKEN_BACK), .val .null, .val (.ref h0.size), .val (.int (7 : Int32)), .val (.int (3 : Int32)), .val (.ref a_WAITS_NO_MORE)] [])) _
    refine XS.aloadN X19.here hx rfl (hb hby d2_18) rfl rfl ?_
    show Steps p.tables e below (T19.setTop (mkF m 19 #[.val (.ref a_TAKEN_BACK), .val .null, .val (.ref h0.size), .val (.int (7 : Int32)), .val (.int (3 : Int32)), .val (.ref a_WAITS_NO_MORE)] [(.ref h0.size)])) _
    refine XS.iload X19.here hx rfl (hb hby d2_19) rfl ?_
    show Steps p.tables e below (T19.setTop (mkF m 21 #[.val (.ref a_TAKEN_BACK), .val .null, .val (.ref h0.size), .val (.int (7 : Int32)), .val (.int (3 : Int32)), .val (.ref a_WAITS_NO_MORE)] [(.int (3 : Int32)), (.ref h0.size)])) _
    refine X19.aaload hx (j := (3 : Int32)) (v := (.ref a_FALLS_DUE_AFTER_WAITING)) (by rw [e19]; exact Arv_.1) (State.isArrayOf_alike hZ.alike Arv_.2.1) rfl Arv_.2.2 (inb_of Sv ⟨by decide, by decide⟩) (Has.at Hv (inb_of Sv ⟨by decide, by decide⟩) rfl) (g := (mkF m 21 #[.val (.ref a_TAKEN_BACK), .val .null, .val (.ref h0.size), .val (.int (7 : Int32)), .val (.int (3 : Int32)), .val (.ref a_WAITS_NO_MORE)] [(.int (3 : Int32)), (.ref h0.size)])) rfl rfl (hb hby d2_21) _ ?_
    show Steps p.tables e below (T19.setTop (mkF m 22 #[.val (.ref a_TAKEN_BACK), .val .null, .val (.ref h0.size), .val (.int (7 : Int32)), .val (.int (3 : Int32)), .val (.ref a_WAITS_NO_MORE)] [(.ref a_FALLS_DUE_AFTER_WAITING)])) _
    refine XS.astore X19.here hx rfl (hb hby d2_22) rfl rfl (l' := #[.val (.ref a_TAKEN_BACK), .val .null, .val (.ref h0.size), .val (.int (7 : Int32)), .val (.int (3 : Int32)), .val (.ref a_FALLS_DUE_AFTER_WAITING)]) rfl ?_
    show Steps p.tables e below (T19.setTop (mkF m 24 #[.val (.ref a_TAKEN_BACK), .val .null, .val (.ref h0.size), .val (.int (7 : Int32)), .val (.int (3 : Int32)), .val (.ref a_FALLS_DUE_AFTER_WAITING)] [])) _
    refine XS.aload X19.here hx rfl (hb hby d2_24) rfl rfl ?_
    show Steps p.tables e below (T19.setTop (mkF m 26 #[.val (.ref a_TAKEN_BACK), .val .null, .val (.ref h0.size), .val (.int (7 : Int32)), .val (.int (3 : Int32)), .val (.ref a_FALLS_DUE_AFTER_WAITING)] [(.ref a_FALLS_DUE_AFTER_WAITING)])) _
    refine st22 _ ?_
    show Steps p.tables e below (T22.setTop (mkF m 29 #[.val (.ref a_TAKEN_BACK), .val .null, .val (.ref h0.size), .val (.int (7 : Int32)), .val (.int (3 : Int32)), .val (.ref a_FALLS_DUE_AFTER_WAITING)] [(.int (-1 : Int32))])) _
    refine XS.aloadN X22.here hx rfl (hb hby d2_29) rfl rfl ?_
    show Steps p.tables e below (T22.setTop (mkF m 30 #[.val (.ref a_TAKEN_BACK), .val .null, .val (.ref h0.size), .val (.int (7 : Int32)), .val (.int (3 : Int32)), .val (.ref a_FALLS_DUE_AFTER_WAITING)] [(.ref a_TAKEN_BACK), (.int (-1 : Int32))])) _
    refine st23 _ ?_
    show Steps p.tables e below (T23.setTop (mkF m 33 #[.val (.ref a_TAKEN_BACK), .val .null, .val (.ref h0.size), .val (.int (7 : Int32)), .val (.int (3 : Int32)), .val (.ref a_FALLS_DUE_AFTER_WAITING)] [(.int (0 : Int32)), (.int (-1 : Int32))])) _
    refine XS.ineg X23.here hx rfl (hb hby d2_33) rfl ?_
    show Steps p.tables e below (T23.setTop (mkF m 34 #[.val (.ref a_TAKEN_BACK), .val .null, .val (.ref h0.size), .val (.int (7 : Int32)), .val (.int (3 : Int32)), .val (.ref a_FALLS_DUE_AFTER_WAITING)] [(.int (-(0 : Int32))), (.int (-1 : Int32))])) _
    refine XS.icmpYes X23.here hx rfl (pc0 := 34) (pc' := 53) rfl (hb hby d2_34) rfl (feq (by decide)).2 (by decide) (by decide) ?_
    show Steps p.tables e below (T23.setTop (mkF m 53 #[.val (.ref a_TAKEN_BACK), .val .null, .val (.ref h0.size), .val (.int (7 : Int32)), .val (.int (3 : Int32)), .val (.ref a_FALLS_DUE_AFTER_WAITING)] [])) _
    refine XS.iinc X23.here hx rfl (hb hby d2_53) rfl (l' := #[.val (.ref a_TAKEN_BACK), .val .null, .val (.ref h0.size), .val (.int (7 : Int32)), .val (.int (4 : Int32)), .val (.ref a_FALLS_DUE_AFTER_WAITING)]) rfl ?_
    show Steps p.tables e below (T23.setTop (mkF m 56 #[.val (.ref a_TAKEN_BACK), .val .null, .val (.ref h0.size), .val (.int (7 : Int32)), .val (.int (4 : Int32)), .val (.ref a_FALLS_DUE_AFTER_WAITING)] [])) _
    refine XS.goto X23.here hx rfl (pc0 := 56) (pc' := 12) rfl (hb hby d2_56) (by decide) (by decide) ?_
    show Steps p.tables e below (T23.setTop (mkF m 12 #[.val (.ref a_TAKEN_BACK), .val .null, .val (.ref h0.size), .val (.int (7 : Int32)), .val (.int (4 : Int32)), .val (.ref a_FALLS_DUE_AFTER_WAITING)] [])) _
    refine XS.iload X23.here hx rfl (hb hby d2_12) rfl ?_
    show Steps p.tables e below (T23.setTop (mkF m 14 #[.val (.ref a_TAKEN_BACK), .val .null, .val (.ref h0.size), .val (.int (7 : Int32)), .val (.int (4 : Int32)), .val (.ref a_FALLS_DUE_AFTER_WAITING)] [(.int (4 : Int32))])) _
    refine XS.iloadN X23.here hx rfl (hb hby d2_14) rfl ?_
    show Steps p.tables e below (T23.setTop (mkF m 15 #[.val (.ref a_TAKEN_BACK), .val .null, .val (.ref h0.size), .val (.int (7 : Int32)), .val (.int (4 : Int32)), .val (.ref a_FALLS_DUE_AFTER_WAITING)] [(.int (7 : Int32)), (.int (4 : Int32))])) _
    refine XS.icmpNo X23.here hx rfl (hb hby d2_15) rfl (tlt (by decide : (4 : Int32) < (7 : Int32))).2.1 ?_
    show Steps p.tables e below (T23.setTop (mkF m 18 #[.val (.ref a_TAKEN_BACK), .val .null, .val (.ref h0.size), .val (.int (7 : Int32)), .val (.int (4 : Int32)), .val (.ref a_FALLS_DUE_AFTER_WAITING)] [])) _
    refine XS.aloadN X23.here hx rfl (hb hby d2_18) rfl rfl ?_
    show Steps p.tables e below (T23.setTop (mkF m 19 #[.val (.ref a_TAKEN_BACK), .val .null, .val (.ref h0.size), .val (.int (7 : Int32)), .val (.int (4 : Int32)), .val (.ref a_FALLS_DUE_AFTER_WAITING)] [(.ref h0.size)])) _
    refine XS.iload X23.here hx rfl (hb hby d2_19) rfl ?_
    show Steps p.tables e below (T23.setTop (mkF m 21 #[.val (.ref a_TAKEN_BACK), .val .null, .val (.ref h0.size), .val (.int (7 : Int32)), .val (.int (4 : Int32)), .val (.ref a_FALLS_DUE_AFTER_WAITING)] [(.int (4 : Int32)), (.ref h0.size)])) _
    refine X23.aaload hx (j := (4 : Int32)) (v := (.ref a_WAITS_AGAIN)) (by rw [e23]; exact Arv_.1) (State.isArrayOf_alike hZ.alike Arv_.2.1) rfl Arv_.2.2 (inb_of Sv ⟨by decide, by decide⟩) (Has.at Hv (inb_of Sv ⟨by decide, by decide⟩) rfl) (g := (mkF m 21 #[.val (.ref a_TAKEN_BACK), .val .null, .val (.ref h0.size), .val (.int (7 : Int32)), .val (.int (4 : Int32)), .val (.ref a_FALLS_DUE_AFTER_WAITING)] [(.int (4 : Int32)), (.ref h0.size)])) rfl rfl (hb hby d2_21) _ ?_
    show Steps p.tables e below (T23.setTop (mkF m 22 #[.val (.ref a_TAKEN_BACK), .val .null, .val (.ref h0.size), .val (.int (7 : Int32)), .val (.int (4 : Int32)), .val (.ref a_FALLS_DUE_AFTER_WAITING)] [(.ref a_WAITS_AGAIN)])) _
    refine XS.astore X23.here hx rfl (hb hby d2_22) rfl rfl (l' := #[.val (.ref a_TAKEN_BACK), .val .null, .val (.ref h0.size), .val (.int (7 : Int32)), .val (.int (4 : Int32)), .val (.ref a_WAITS_AGAIN)]) rfl ?_
    show Steps p.tables e below (T23.setTop (mkF m 24 #[.val (.ref a_TAKEN_BACK), .val .null, .val (.ref h0.size), .val (.int (7 : Int32)), .val (.int (4 : Int32)), .val (.ref a_WAITS_AGAIN)] [])) _
    refine XS.aload X23.here hx rfl (hb hby d2_24) rfl rfl ?_
    show Steps p.tables e below (T23.setTop (mkF m 26 #[.val (.ref a_TAKEN_BACK), .val .null, .val (.ref h0.size), .val (.int (7 : Int32)), .val (.int (4 : Int32)), .val (.ref a_WAITS_AGAIN)] [(.ref a_WAITS_AGAIN)])) _
    refine st26 _ ?_
    show Steps p.tables e below (T26.setTop (mkF m 29 #[.val (.ref a_TAKEN_BACK), .val .null, .val (.ref h0.size), .val (.int (7 : Int32)), .val (.int (4 : Int32)), .val (.ref a_WAITS_AGAIN)] [(.int (1 : Int32))])) _
    refine XS.aloadN X26.here hx rfl (hb hby d2_29) rfl rfl ?_
    show Steps p.tables e below (T26.setTop (mkF m 30 #[.val (.ref a_TAKEN_BACK), .val .null, .val (.ref h0.size), .val (.int (7 : Int32)), .val (.int (4 : Int32)), .val (.ref a_WAITS_AGAIN)] [(.ref a_TAKEN_BACK), (.int (1 : Int32))])) _
    refine st27 _ ?_
    show Steps p.tables e below (T27.setTop (mkF m 33 #[.val (.ref a_TAKEN_BACK), .val .null, .val (.ref h0.size), .val (.int (7 : Int32)), .val (.int (4 : Int32)), .val (.ref a_WAITS_AGAIN)] [(.int (0 : Int32)), (.int (1 : Int32))])) _
    refine XS.ineg X27.here hx rfl (hb hby d2_33) rfl ?_
    show Steps p.tables e below (T27.setTop (mkF m 34 #[.val (.ref a_TAKEN_BACK), .val .null, .val (.ref h0.size), .val (.int (7 : Int32)), .val (.int (4 : Int32)), .val (.ref a_WAITS_AGAIN)] [(.int (-(0 : Int32))), (.int (1 : Int32))])) _
    refine XS.icmpYes X27.here hx rfl (pc0 := 34) (pc' := 53) rfl (hb hby d2_34) rfl (feq (by decide)).2 (by decide) (by decide) ?_
    show Steps p.tables e below (T27.setTop (mkF m 53 #[.val (.ref a_TAKEN_BACK), .val .null, .val (.ref h0.size), .val (.int (7 : Int32)), .val (.int (4 : Int32)), .val (.ref a_WAITS_AGAIN)] [])) _
    refine XS.iinc X27.here hx rfl (hb hby d2_53) rfl (l' := #[.val (.ref a_TAKEN_BACK), .val .null, .val (.ref h0.size), .val (.int (7 : Int32)), .val (.int (5 : Int32)), .val (.ref a_WAITS_AGAIN)]) rfl ?_
    show Steps p.tables e below (T27.setTop (mkF m 56 #[.val (.ref a_TAKEN_BACK), .val .null, .val (.ref h0.size), .val (.int (7 : Int32)), .val (.int (5 : Int32)), .val (.ref a_WAITS_AGAIN)] [])) _
    refine XS.goto X27.here hx rfl (pc0 := 56) (pc' := 12) rfl (hb hby d2_56) (by decide) (by decide) ?_
    show Steps p.tables e below (T27.setTop (mkF m 12 #[.val (.ref a_TAKEN_BACK), .val .null, .val (.ref h0.size), .val (.int (7 : Int32)), .val (.int (5 : Int32)), .val (.ref a_WAITS_AGAIN)] [])) _
    refine XS.iload X27.here hx rfl (hb hby d2_12) rfl ?_
    show Steps p.tables e below (T27.setTop (mkF m 14 #[.val (.ref a_TAKEN_BACK), .val .null, .val (.ref h0.size), .val (.int (7 : Int32)), .val (.int (5 : Int32)), .val (.ref a_WAITS_AGAIN)] [(.int (5 : Int32))])) _
    refine XS.iloadN X27.here hx rfl (hb hby d2_14) rfl ?_
    show Steps p.tables e below (T27.setTop (mkF m 15 #[.val (.ref a_TAKEN_BACK), .val .null, .val (.ref h0.size), .val (.int (7 : Int32)), .val (.int (5 : Int32)), .val (.ref a_WAITS_AGAIN)] [(.int (7 : Int32)), (.int (5 : Int32))])) _
    refine XS.icmpNo X27.here hx rfl (hb hby d2_15) rfl (tlt (by decide : (5 : Int32) < (7 : Int32))).2.1 ?_
    show Steps p.tables e below (T27.setTop (mkF m 18 #[.val (.ref a_TAKEN_BACK), .val .null, .val (.ref h0.size), .val (.int (7 : Int32)), .val (.int (5 : Int32)), .val (.ref a_WAITS_AGAIN)] [])) _
    refine XS.aloadN X27.here hx rfl (hb hby d2_18) rfl rfl ?_
    show Steps p.tables e below (T27.setTop (mkF m 19 #[.val (.ref a_TAKEN_BACK), .val .null, .val (.ref h0.size), .val (.int (7 : Int32)), .val (.int (5 : Int32)), .val (.ref a_WAITS_AGAIN)] [(.ref h0.size)])) _
    refine XS.iload X27.here hx rfl (hb hby d2_19) rfl ?_
    show Steps p.tables e below (T27.setTop (mkF m 21 #[.val (.ref a_TAKEN_BACK), .val .null, .val (.ref h0.size), .val (.int (7 : Int32)), .val (.int (5 : Int32)), .val (.ref a_WAITS_AGAIN)] [(.int (5 : Int32)), (.ref h0.size)])) _
    refine X27.aaload hx (j := (5 : Int32)) (v := (.ref a_FALLS_DUE)) (by rw [e27]; exact Arv_.1) (State.isArrayOf_alike hZ.alike Arv_.2.1) rfl Arv_.2.2 (inb_of Sv ⟨by decide, by decide⟩) (Has.at Hv (inb_of Sv ⟨by decide, by decide⟩) rfl) (g := (mkF m 21 #[.val (.ref a_TAKEN_BACK), .val .null, .val (.ref h0.size), .val (.int (7 : Int32)), .val (.int (5 : Int32)), .val (.ref a_WAITS_AGAIN)] [(.int (5 : Int32)), (.ref h0.size)])) rfl rfl (hb hby d2_21) _ ?_
    show Steps p.tables e below (T27.setTop (mkF m 22 #[.val (.ref a_TAKEN_BACK), .val .null, .val (.ref h0.size), .val (.int (7 : Int32)), .val (.int (5 : Int32)), .val (.ref a_WAITS_AGAIN)] [(.ref a_FALLS_DUE)])) _
    refine XS.astore X27.here hx rfl (hb hby d2_22) rfl rfl (l' := #[.val (.ref a_TAKEN_BACK), .val .null, .val (.ref h0.size), .val (.int (7 : Int32)), .val (.int (5 : Int32)), .val (.ref a_FALLS_DUE)]) rfl ?_
    show Steps p.tables e below (T27.setTop (mkF m 24 #[.val (.ref a_TAKEN_BACK), .val .null, .val (.ref h0.size), .val (.int (7 : Int32)), .val (.int (5 : Int32)), .val (.ref a_FALLS_DUE)] [])) _
    refine XS.aload X27.here hx rfl (hb hby d2_24) rfl rfl ?_
    show Steps p.tables e below (T27.setTop (mkF m 26 #[.val (.ref a_TAKEN_BACK), .val .null, .val (.ref h0.size), .val (.int (7 : Int32)), .val (.int (5 : Int32)), .val (.ref a_FALLS_DUE)] [(.ref a_FALLS_DUE)])) _
    refine st30 _ ?_
    show Steps p.tables e below (T30.setTop (mkF m 29 #[.val (.ref a_TAKEN_BACK), .val .null, .val (.ref h0.size), .val (.int (7 : Int32)), .val (.int (5 : Int32)), .val (.ref a_FALLS_DUE)] [(.int (0 : Int32))])) _
    refine XS.aloadN X30.here hx rfl (hb hby d2_29) rfl rfl ?_
    show Steps p.tables e below (T30.setTop (mkF m 30 #[.val (.ref a_TAKEN_BACK), .val .null, .val (.ref h0.size), .val (.int (7 : Int32)), .val (.int (5 : Int32)), .val (.ref a_FALLS_DUE)] [(.ref a_TAKEN_BACK), (.int (0 : Int32))])) _
    refine st31 _ ?_
    show Steps p.tables e below (T31.setTop (mkF m 33 #[.val (.ref a_TAKEN_BACK), .val .null, .val (.ref h0.size), .val (.int (7 : Int32)), .val (.int (5 : Int32)), .val (.ref a_FALLS_DUE)] [(.int (0 : Int32)), (.int (0 : Int32))])) _
    refine XS.ineg X31.here hx rfl (hb hby d2_33) rfl ?_
    show Steps p.tables e below (T31.setTop (mkF m 34 #[.val (.ref a_TAKEN_BACK), .val .null, .val (.ref h0.size), .val (.int (7 : Int32)), .val (.int (5 : Int32)), .val (.ref a_FALLS_DUE)] [(.int (-(0 : Int32))), (.int (0 : Int32))])) _
    refine XS.icmpNo X31.here hx rfl (hb hby d2_34) rfl (teq (by decide)).2 ?_
    show Steps p.tables e below (T31.setTop (mkF m 37 #[.val (.ref a_TAKEN_BACK), .val .null, .val (.ref h0.size), .val (.int (7 : Int32)), .val (.int (5 : Int32)), .val (.ref a_FALLS_DUE)] [])) _
    refine XS.aload X31.here hx rfl (hb hby d2_37) rfl rfl ?_
    show Steps p.tables e below (T31.setTop (mkF m 39 #[.val (.ref a_TAKEN_BACK), .val .null, .val (.ref h0.size), .val (.int (7 : Int32)), .val (.int (5 : Int32)), .val (.ref a_FALLS_DUE)] [(.ref a_FALLS_DUE)])) _
    refine st33 _ ?_
    show Steps p.tables e below (T33.setTop (mkF m 42 #[.val (.ref a_TAKEN_BACK), .val .null, .val (.ref h0.size), .val (.int (7 : Int32)), .val (.int (5 : Int32)), .val (.ref a_FALLS_DUE)] [(.int (1 : Int32))])) _
    refine XS.aloadN X33.here hx rfl (hb hby d2_42) rfl rfl ?_
    show Steps p.tables e below (T33.setTop (mkF m 43 #[.val (.ref a_TAKEN_BACK), .val .null, .val (.ref h0.size), .val (.int (7 : Int32)), .val (.int (5 : Int32)), .val (.ref a_FALLS_DUE)] [(.ref a_TAKEN_BACK), (.int (1 : Int32))])) _
    refine st34 _ ?_
    show Steps p.tables e below (T34.setTop (mkF m 46 #[.val (.ref a_TAKEN_BACK), .val .null, .val (.ref h0.size), .val (.int (7 : Int32)), .val (.int (5 : Int32)), .val (.ref a_FALLS_DUE)] [(.int (-1 : Int32)), (.int (1 : Int32))])) _
    refine XS.ineg X34.here hx rfl (hb hby d2_46) rfl ?_
    show Steps p.tables e below (T34.setTop (mkF m 47 #[.val (.ref a_TAKEN_BACK), .val .null, .val (.ref h0.size), .val (.int (7 : Int32)), .val (.int (5 : Int32)), .val (.ref a_FALLS_DUE)] [(.int (-(-1 : Int32))), (.int (1 : Int32))])) _
    refine XS.icmpNo X34.here hx rfl (hb hby d2_47) rfl (teq (by decide)).2 ?_
    show Steps p.tables e below (T34.setTop (mkF m 50 #[.val (.ref a_TAKEN_BACK), .val .null, .val (.ref h0.size), .val (.int (7 : Int32)), .val (.int (5 : Int32)), .val (.ref a_FALLS_DUE)] [])) _
    refine XS.aload X34.here hx rfl (hb hby d2_50) rfl rfl ?_
    show Steps p.tables e below (T34.setTop (mkF m 52 #[.val (.ref a_TAKEN_BACK), .val .null, .val (.ref h0.size), .val (.int (7 : Int32)), .val (.int (5 : Int32)), .val (.ref a_FALLS_DUE)] [(.ref a_FALLS_DUE)])) _
    refine XS.astoreN X34.here hx rfl (hb hby d2_52) rfl rfl (l' := #[.val (.ref a_TAKEN_BACK), .val (.ref a_FALLS_DUE), .val (.ref h0.size), .val (.int (7 : Int32)), .val (.int (5 : Int32)), .val (.ref a_FALLS_DUE)]) rfl ?_
    show Steps p.tables e below (T34.setTop (mkF m 53 #[.val (.ref a_TAKEN_BACK), .val (.ref a_FALLS_DUE), .val (.ref h0.size), .val (.int (7 : Int32)), .val (.int (5 : Int32)), .val (.ref a_FALLS_DUE)] [])) _
    refine XS.iinc X34.here hx rfl (hb hby d2_53) rfl (l' := #[.val (.ref a_TAKEN_BACK), .val (.ref a_FALLS_DUE), .val (.ref h0.size), .val (.int (7 : Int32)), .val (.int (6 : Int32)), .val (.ref a_FALLS_DUE)]) rfl ?_
    show Steps p.tables e below (T34.setTop (mkF m 56 #[.val (.ref a_TAKEN_BACK), .val (.ref a_FALLS_DUE), .val (.ref h0.size), .val (.int (7 : Int32)), .val (.int (6 : Int32)), .val (.ref a_FALLS_DUE)] [])) _
    refine XS.goto X34.here hx rfl (pc0 := 56) (pc' := 12) rfl (hb hby d2_56) (by decide) (by decide) ?_
    show Steps p.tables e below (T34.setTop (mkF m 12 #[.val (.ref a_TAKEN_BACK), .val (.ref a_FALLS_DUE), .val (.ref h0.size), .val (.int (7 : Int32)), .val (.int (6 : Int32)), .val (.ref a_FALLS_DUE)] [])) _
    refine XS.iload X34.here hx rfl (hb hby d2_12) rfl ?_
    show Steps p.tables e below (T34.setTop (mkF m 14 #[.val (.ref a_TAKEN_BACK), .val (.ref a_FALLS_DUE), .val (.ref h0.size), .val (.int (7 : Int32)), .val (.int (6 : Int32)), .val (.ref a_FALLS_DUE)] [(.int (6 : Int32))])) _
    refine XS.iloadN X34.here hx rfl (hb hby d2_14) rfl ?_
    show Steps p.tables e below (T34.setTop (mkF m 15 #[.val (.ref a_TAKEN_BACK), .val (.ref a_FALLS_DUE), .val (.ref h0.size), .val (.int (7 : Int32)), .val (.int (6 : Int32)), .val (.ref a_FALLS_DUE)] [(.int (7 : Int32)), (.int (6 : Int32))])) _
    refine XS.icmpNo X34.here hx rfl (hb hby d2_15) rfl (tlt (by decide : (6 : Int32) < (7 : Int32))).2.1 ?_
    show Steps p.tables e below (T34.setTop (mkF m 18 #[.val (.ref a_TAKEN_BACK), .val (.ref a_FALLS_DUE), .val (.ref h0.size), .val (.int (7 : Int32)), .val (.int (6 : Int32)), .val (.ref a_FALLS_DUE)] [])) _
    refine XS.aloadN X34.here hx rfl (hb hby d2_18) rfl rfl ?_
    show Steps p.tables e below (T34.setTop (mkF m 19 #[.val (.ref a_TAKEN_BACK), .val (.ref a_FALLS_DUE), .val (.ref h0.size), .val (.int (7 : Int32)), .val (.int (6 : Int32)), .val (.ref a_FALLS_DUE)] [(.ref h0.size)])) _
    refine XS.iload X34.here hx rfl (hb hby d2_19) rfl ?_
    show Steps p.tables e below (T34.setTop (mkF m 21 #[.val (.ref a_TAKEN_BACK), .val (.ref a_FALLS_DUE), .val (.ref h0.size), .val (.int (7 : Int32)), .val (.int (6 : Int32)), .val (.ref a_FALLS_DUE)] [(.int (6 : Int32)), (.ref h0.size)])) _
    refine X34.aaload hx (j := (6 : Int32)) (v := (.ref a_TAKEN_BACK)) (by rw [e34]; exact Arv_.1) (State.isArrayOf_alike hZ.alike Arv_.2.1) rfl Arv_.2.2 (inb_of Sv ⟨by decide, by decide⟩) (Has.at Hv (inb_of Sv ⟨by decide, by decide⟩) rfl) (g := (mkF m 21 #[.val (.ref a_TAKEN_BACK), .val (.ref a_FALLS_DUE), .val (.ref h0.size), .val (.int (7 : Int32)), .val (.int (6 : Int32)), .val (.ref a_FALLS_DUE)] [(.int (6 : Int32)), (.ref h0.size)])) rfl rfl (hb hby d2_21) _ ?_
    show Steps p.tables e below (T34.setTop (mkF m 22 #[.val (.ref a_TAKEN_BACK), .val (.ref a_FALLS_DUE), .val (.ref h0.size), .val (.int (7 : Int32)), .val (.int (6 : Int32)), .val (.ref a_FALLS_DUE)] [(.ref a_TAKEN_BACK)])) _
    refine XS.astore X34.here hx rfl (hb hby d2_22) rfl rfl (l' := #[.val (.ref a_TAKEN_BACK), .val (.ref a_FALLS_DUE), .val (.ref h0.size), .val (.int (7 : Int32)), .val (.int (6 : Int32)), .val (.ref a_TAKEN_BACK)]) rfl ?_
    show Steps p.tables e below (T34.setTop (mkF m 24 #[.val (.ref a_TAKEN_BACK), .val (.ref a_FALLS_DUE), .val (.ref h0.size), .val (.int (7 : Int32)), .val (.int (6 : Int32)), .val (.ref a_TAKEN_BACK)] [])) _
    refine XS.aload X34.here hx rfl (hb hby d2_24) rfl rfl ?_
    show Steps p.tables e below (T34.setTop (mkF m 26 #[.val (.ref a_TAKEN_BACK), .val (.ref a_FALLS_DUE), .val (.ref h0.size), .val (.int (7 : Int32)), .val (.int (6 : Int32)), .val (.ref a_TAKEN_BACK)] [(.ref a_TAKEN_BACK)])) _
    refine st37 _ ?_
    show Steps p.tables e below (T37.setTop (mkF m 29 #[.val (.ref a_TAKEN_BACK), .val (.ref a_FALLS_DUE), .val (.ref h0.size), .val (.int (7 : Int32)), .val (.int (6 : Int32)), .val (.ref a_TAKEN_BACK)] [(.int (0 : Int32))])) _
    refine XS.aloadN X37.here hx rfl (hb hby d2_29) rfl rfl ?_
    show Steps p.tables e below (T37.setTop (mkF m 30 #[.val (.ref a_TAKEN_BACK), .val (.ref a_FALLS_DUE), .val (.ref h0.size), .val (.int (7 : Int32)), .val (.int (6 : Int32)), .val (.ref a_TAKEN_BACK)] [(.ref a_TAKEN_BACK), (.int (0 : Int32))])) _
    refine st38 _ ?_
    show Steps p.tables e below (T38.setTop (mkF m 33 #[.val (.ref a_TAKEN_BACK), .val (.ref a_FALLS_DUE), .val (.ref h0.size), .val (.int (7 : Int32)), .val (.int (6 : Int32)), .val (.ref a_TAKEN_BACK)] [(.int (0 : Int32)), (.int (0 : Int32))])) _
    refine XS.ineg X38.here hx rfl (hb hby d2_33) rfl ?_
    show Steps p.tables e below (T38.setTop (mkF m 34 #[.val (.ref a_TAKEN_BACK), .val (.ref a_FALLS_DUE), .val (.ref h0.size), .val (.int (7 : Int32)), .val (.int (6 : Int32)), .val (.ref a_TAKEN_BACK)] [(.int (-(0 : Int32))), (.int (0 : Int32))])) _
    refine XS.icmpNo X38.here hx rfl (hb hby d2_34) rfl (teq (by decide)).2 ?_
    show Steps p.tables e below (T38.setTop (mkF m 37 #[.val (.ref a_TAKEN_BACK), .val (.ref a_FALLS_DUE), .val (.ref h0.size), .val (.int (7 : Int32)), .val (.int (6 : Int32)), .val (.ref a_TAKEN_BACK)] [])) _
    refine XS.aload X38.here hx rfl (hb hby d2_37) rfl rfl ?_
    show Steps p.tables e below (T38.setTop (mkF m 39 #[.val (.ref a_TAKEN_BACK), .val (.ref a_FALLS_DUE), .val (.ref h0.size), .val (.int (7 : Int32)), .val (.int (6 : Int32)), .val (.ref a_TAKEN_BACK)] [(.ref a_TAKEN_BACK)])) _
    refine st40 _ ?_
    show Steps p.tables e below (T40.setTop (mkF m 42 #[.val (.ref a_TAKEN_BACK), .val (.ref a_FALLS_DUE), .val (.ref h0.size), .val (.int (7 : Int32)), .val (.int (6 : Int32)), .val (.ref a_TAKEN_BACK)] [(.int (-1 : Int32))])) _
    refine XS.aloadN X40.here hx rfl (hb hby d2_42) rfl rfl ?_
    show Steps p.tables e below (T40.setTop (mkF m 43 #[.val (.ref a_TAKEN_BACK), .val (.ref a_FALLS_DUE), .val (.ref h0.size), .val (.int (7 : Int32)), .val (.int (6 : Int32)), .val (.ref a_TAKEN_BACK)] [(.ref a_TAKEN_BACK), (.int (-1 : Int32))])) _
    refine st41 _ ?_
    show Steps p.tables e below (T41.setTop (mkF m 46 #[.val (.ref a_TAKEN_BACK), .val (.ref a_FALLS_DUE), .val (.ref h0.size), .val (.int (7 : Int32)), .val (.int (6 : Int32)), .val (.ref a_TAKEN_BACK)] [(.int (-1 : Int32)), (.int (-1 : Int32))])) _
    refine XS.ineg X41.here hx rfl (hb hby d2_46) rfl ?_
    show Steps p.tables e below (T41.setTop (mkF m 47 #[.val (.ref a_TAKEN_BACK), .val (.ref a_FALLS_DUE), .val (.ref h0.size), .val (.int (7 : Int32)), .val (.int (6 : Int32)), .val (.ref a_TAKEN_BACK)] [(.int (-(-1 : Int32))), (.int (-1 : Int32))])) _
    refine XS.icmpYes X41.here hx rfl (pc0 := 47) (pc' := 53) rfl (hb hby d2_47) rfl (feq (by decide)).2 (by decide) (by decide) ?_
    show Steps p.tables e below (T41.setTop (mkF m 53 #[.val (.ref a_TAKEN_BACK), .val (.ref a_FALLS_DUE), .val (.ref h0.size), .val (.int (7 : Int32)), .val (.int (6 : Int32)), .val (.ref a_TAKEN_BACK)] [])) _
    refine XS.iinc X41.here hx rfl (hb hby d2_53) rfl (l' := #[.val (.ref a_TAKEN_BACK), .val (.ref a_FALLS_DUE), .val (.ref h0.size), .val (.int (7 : Int32)), .val (.int (7 : Int32)), .val (.ref a_TAKEN_BACK)]) rfl ?_
    show Steps p.tables e below (T41.setTop (mkF m 56 #[.val (.ref a_TAKEN_BACK), .val (.ref a_FALLS_DUE), .val (.ref h0.size), .val (.int (7 : Int32)), .val (.int (7 : Int32)), .val (.ref a_TAKEN_BACK)] [])) _
    refine XS.goto X41.here hx rfl (pc0 := 56) (pc' := 12) rfl (hb hby d2_56) (by decide) (by decide) ?_
    show Steps p.tables e below (T41.setTop (mkF m 12 #[.val (.ref a_TAKEN_BACK), .val (.ref a_FALLS_DUE), .val (.ref h0.size), .val (.int (7 : Int32)), .val (.int (7 : Int32)), .val (.ref a_TAKEN_BACK)] [])) _
    refine XS.iload X41.here hx rfl (hb hby d2_12) rfl ?_
    show Steps p.tables e below (T41.setTop (mkF m 14 #[.val (.ref a_TAKEN_BACK), .val (.ref a_FALLS_DUE), .val (.ref h0.size), .val (.int (7 : Int32)), .val (.int (7 : Int32)), .val (.ref a_TAKEN_BACK)] [(.int (7 : Int32))])) _
    refine XS.iloadN X41.here hx rfl (hb hby d2_14) rfl ?_
    show Steps p.tables e below (T41.setTop (mkF m 15 #[.val (.ref a_TAKEN_BACK), .val (.ref a_FALLS_DUE), .val (.ref h0.size), .val (.int (7 : Int32)), .val (.int (7 : Int32)), .val (.ref a_TAKEN_BACK)] [(.int (7 : Int32)), (.int (7 : Int32))])) _
    refine XS.icmpYes X41.here hx rfl (pc0 := 15) (pc' := 59) rfl (hb hby d2_15) rfl (flt (by decide : ¬ ((7 : Int32) < (7 : Int32)))).2.1 (by decide) (by decide) ?_
    show Steps p.tables e below (T41.setTop (mkF m 59 #[.val (.ref a_TAKEN_BACK), .val (.ref a_FALLS_DUE), .val (.ref h0.size), .val (.int (7 : Int32)), .val (.int (7 : Int32)), .val (.ref a_TAKEN_BACK)] [])) _
    refine XS.aloadN X41.here hx rfl (hb hby d2_59) rfl rfl ?_
    show Steps p.tables e below (T41.setTop (mkF m 60 #[.val (.ref a_TAKEN_BACK), .val (.ref a_FALLS_DUE), .val (.ref h0.size), .val (.int (7 : Int32)), .val (.int (7 : Int32)), .val (.ref a_TAKEN_BACK)] [(.ref a_FALLS_DUE)])) _
    jvm_step X41.here [X41.here.top, hx, (hb hby d2_60), X41.method', Bd.returns, Value.isRef, FieldType.isReference]
    first | (intro acts; rw [hr _ acts rfl rfl rfl]) | rw [hr _ _ rfl rfl rfl]
    exact Steps.refl _
  · show Q2_r6 Z a_NONE a_WAITS a_WAITS_NO_MORE a_FALLS_DUE_AFTER_WAITING a_WAITS_AGAIN a_FALLS_DUE a_TAKEN_BACK a_VALUES kV h0 n0 _ T41.heap _
    rw [e41]
    exact ⟨rfl, N2, Ex2⟩
theorem pn_0 : plainName "com/example/acompte/acompte/VatOppositePinLaw" = true := by first | (simp [plainName, overriddenIn]; done) | decide +kernel
theorem pdw_2 : parseMethodDescriptor "(I)Lcom/example/acompte/acompte/DocumentKind$Vat;" = some ⟨[.int], some (.object "com/example/acompte/acompte/DocumentKind$Vat")⟩ := by decide +kernel
theorem pdw_3 : parseMethodDescriptor "()Lcom/example/acompte/acompte/DocumentKind$Vat;" = some ⟨[], some (.object "com/example/acompte/acompte/DocumentKind$Vat")⟩ := by decide +kernel
theorem pdw_4 : parseMethodDescriptor "()I" = some ⟨[], some .int⟩ := by decide +kernel
theorem ef_0 (m : MethodId) (x0 : Int32) : entryFrame m #[(.int x0)] maxLocals = mkF m 0 #[.val (.int x0), .unset, .unset, .unset] [] := by first | (simp [entryFrame, mkF, argsToLocals, Value.category, maxLocals]; done) | rfl
def Q0 (h0 : Heap) (n0 : Nat) (v : Option Value) (h : Heap) (L : List Loc) : Prop := v = some (.int (1 : Int32)) ∧ Fr n0 L
set_option maxRecDepth 65536 in
set_option maxHeartbeats 40000000 in
theorem rm0_i0 (l : Launch) (Z : State) (a0 : Array Value) (hw : ∀ d ∈ tables_1, d.before a0 Z = true) (ws : List Jvm.Cond) (p1 : Int32) (a_NONE a_WAITS a_WAITS_NO_MORE a_FALLS_DUE_AFTER_WAITING a_WAITS_AGAIN a_FALLS_DUE a_TAKEN_BACK a_VALUES : Addr) (kV : ClassId) (h0 : Heap) (n0 : Nat) (Z0 : n0 ≤ h0.size) (WW : Own Z h0 a_NONE a_WAITS a_WAITS_NO_MORE a_FALLS_DUE_AFTER_WAITING a_WAITS_AGAIN a_FALLS_DUE a_TAKEN_BACK a_VALUES kV) (hi : ((p1 &&& (2147483647 : Int32)) % (7 : Int32)) = (0 : Int32)) :
    MetFree l x (head1 (Jvm.Cond.code x code maxLocals ret :: ws) room_1) (fun a U => a = #[(.int p1)] ∧ Z.Warmed39 U.vm ∧ U.heap = h0) (fun _ _ _ _ _ => True) (fun _ U o U' => ∃ v L, o = .returned v ∧ Q0 h0 n0 v U'.heap L ∧ FrameEnd U o U' L room_1.cells room_1.slots) := by
  have hnz6 : ¬ ((7 : Int32) = (0 : Int32)) := by decide
  refine MetFree.of_bodySF (plainFor_of_name pn_0) hisR ?_
  intro p e s m args below meth c s₁ Bd hml0 hP hK
  have WW0 := WW
  obtain ⟨S_NONE, S_WAITS, S_WAITS_NO_MORE, S_FALLS_DUE_AFTER_WAITING, S_WAITS_AGAIN, S_FALLS_DUE, S_TAKEN_BACK, S_VALUES, E_NONE, E_WAITS, E_WAITS_NO_MORE, E_FALLS_DUE_AFTER_WAITING, E_WAITS_AGAIN, E_FALLS_DUE, E_TAKEN_BACK, E_VALUES, Fw_NONE, Fw_WAITS, Fw_WAITS_NO_MORE, Fw_FALLS_DUE_AFTER_WAITING, Fw_WAITS_AGAIN, Fw_FALLS_DUE, Fw_TAKEN_BACK, Fd_NONE, Fd_WAITS, Fd_WAITS_NO_MORE, Fd_FALLS_DUE_AFTER_WAITING, Fd_WAITS_AGAIN, Fd_FALLS_DUE, Fd_TAKEN_BACK, V_VALUES⟩ := WW0
  obtain ⟨rfl, hZ, hh⟩ := hP
  have hx := Bd.exec
  have hby := Bd.bytes
  have hml : c.maxLocals = 4 := hml0
  have hown : s.vm.findClass "com/example/acompte/acompte/VatOppositePinLaw" = some m.cls := findClass_of_methodNamed Bd.named
  have hnm := (name_of_methodNamed Bd.named Bd.method).1
  have X0 : Stand p l e room_1 s m #[(.int p1)] below meth c s₁ [] 0 0 := Stand.of_body Bd
  have e0 : s₁.heap = h0 := by rw [← hh, Bd.state]; rfl
  have N0 := Fr.nil n0
  have pre0 : ∀ t, Steps p.tables e below (s₁.setTop (mkF m 0 #[.val (.int p1), .unset, .unset, .unset] [])) t → Steps p.tables e below (s₁.setTop (entryFrame m #[(.int p1)] maxLocals)) t := fun t k => castTop (ef_0 m p1) k
  -- 3. LAWS
  -- pc 9: com/example/acompte/acompte/VatOppositePinLaw.pick by its contract rm1
  obtain ⟨_, _, ⟨T2, L2, k2, n2⟩, -, X2, ⟨Lc2, hQ2, l2, y2, z2⟩, st2⟩ := Jvm.LawKit.callS X0 hx (y := (⟨"com/example/acompte/acompte/VatOppositePinLaw", "pick", "(I)Lcom/example/acompte/acompte/DocumentKind$Vat;"⟩ : MethodName)) hown (mvT hZ (hw _ (List.mem_of_getElem? (i := 1) rfl))) (mvT hZ (hw _ (List.mem_of_getElem? (i := 2) rfl))) (mvT hZ (hw _ (List.mem_of_getElem? (i := 3) rfl))) (mvT hZ (hw _ (List.mem_of_getElem? (i := 4) rfl))) (by decide) (backOf (W := 0) (rm1_k0 l Z a0 hw [] ((p1 &&& (2147483647 : Int32)) % (7 : Int32)) a_NONE a_WAITS a_WAITS_NO_MORE a_FALLS_DUE_AFTER_WAITING a_WAITS_AGAIN a_FALLS_DUE a_TAKEN_BACK a_VALUES kV h0 n0 Z0 WW (by rw [hi] <;> decide)) hZ (hw _ (List.mem_of_getElem? (i := 4) rfl)) (hw _ (List.mem_of_getElem? (i := 3) rfl)) (by decide) (by decide)) (g := (mkF m 9 #[.val (.int p1), .val (.int ((p1 &&& (2147483647 : Int32)) % (7 : Int32))), .unset, .unset] [(.int ((p1 &&& (2147483647 : Int32)) % (7 : Int32)))])) rfl (by rw [hml]; rfl) (argsL := [(.int ((p1 &&& (2147483647 : Int32)) % (7 : Int32)))]) (rest := []) (lenOf pdw_2 rfl) rfl (by show 2 * 0 + _ ≤ _; exact Nat.le_of_eq rfl) (hb hby at_9) (fun _ _ => ⟨rfl, e0, (by decide : 0 + 0 ≤ _), (by decide : 0 + 0 ≤ _)⟩)
  dsimp only [Pt.U, Pt.locs, Pt.cells, Pt.slots] at X2 l2 y2 z2 st2 hQ2
  subst l2 y2 z2
  obtain ⟨rfl, N2q, hh2⟩ := hQ2
  have N2 := Fr.app N0 N2q
  -- pc 14: com/example/acompte/acompte/DocumentKind$Vat.opposite by the contract of the body that the receiver's class selects, rm2
  obtain ⟨cq3, kq3, q3a, q3b, q3c⟩ := isOf hZ hh2 (E_NONE)
  obtain ⟨_, _, ⟨T3, L3, k3, n3⟩, -, X3, ⟨Lc3, hQ3, l3, y3, z3⟩, st3⟩ := X2.virtualBack hx (y := (⟨"com/example/acompte/acompte/DocumentKind$Vat", "opposite", "()Lcom/example/acompte/acompte/DocumentKind$Vat;"⟩ : MethodName)) (z := (⟨"com/example/acompte/acompte/DocumentKind$Vat", "opposite", "()Lcom/example/acompte/acompte/DocumentKind$Vat;"⟩ : MethodName)) hown (mvT hZ (hw _ (List.mem_of_getElem? (i := 8) rfl))) (mvT hZ (hw _ (List.mem_of_getElem? (i := 9) rfl))) (notFace_of_selects (args := #[]) (mvT hZ (hw _ (List.mem_of_getElem? (i := 11) rfl)))) (mvT hZ (hw _ (List.mem_of_getElem? (i := 11) rfl))) (mvT hZ (hw _ (List.mem_of_getElem? (i := 10) rfl))) (by decide) (backOf (W := 0) (rm2_r0 l Z a0 hw [] a_NONE a_WAITS a_WAITS_NO_MORE a_FALLS_DUE_AFTER_WAITING a_WAITS_AGAIN a_FALLS_DUE a_TAKEN_BACK a_VALUES kV h0 n0 Z0 WW) hZ (hw _ (List.mem_of_getElem? (i := 12) rfl)) (hw _ (List.mem_of_getElem? (i := 6) rfl)) (by decide) (by decide)) q3a q3c (g := (mkF m 14 #[.val (.int p1), .val (.int ((p1 &&& (2147483647 : Int32)) % (7 : Int32))), .val (.ref a_NONE), .unset] [(.ref a_NONE)])) rfl (by rw [hml]; rfl) (Steps.refl _) (argsL := []) (rest := []) (lenOf pdw_3 rfl) rfl (by show 2 * 0 + _ ≤ _; exact Nat.le_of_eq rfl) (hb hby at_14) (fun _ _ => ⟨rfl, hh2, (by decide : 0 + 1 ≤ _), (by decide : 0 + 7 ≤ _)⟩)
  dsimp only [Pt.U, Pt.locs, Pt.cells, Pt.slots] at X3 l3 y3 z3 st3 hQ3
  subst l3 y3 z3
  obtain ⟨rfl, N3q, Ex2⟩ := hQ3
  have WW2 := WW.ext Ex2
  have Zh2 : n0 ≤ T3.heap.size := Nat.le_trans Z0 Ex2.1
  have WW3 := WW2
  obtain ⟨S_NONE, S_WAITS, S_WAITS_NO_MORE, S_FALLS_DUE_AFTER_WAITING, S_WAITS_AGAIN, S_FALLS_DUE, S_TAKEN_BACK, S_VALUES, E_NONE, E_WAITS, E_WAITS_NO_MORE, E_FALLS_DUE_AFTER_WAITING, E_WAITS_AGAIN, E_FALLS_DUE, E_TAKEN_BACK, E_VALUES, Fw_NONE, Fw_WAITS, Fw_WAITS_NO_MORE, Fw_FALLS_DUE_AFTER_WAITING, Fw_WAITS_AGAIN, Fw_FALLS_DUE, Fw_TAKEN_BACK, Fd_NONE, Fd_WAITS, Fd_WAITS_NO_MORE, Fd_FALLS_DUE_AFTER_WAITING, Fd_WAITS_AGAIN, Fd_FALLS_DUE, Fd_TAKEN_BACK, V_VALUES⟩ := WW3
  have N3 := Fr.app N2 N3q
  -- pc 26: com/example/acompte/acompte/VatOppositePinLaw.expected by its contract rm4
  obtain ⟨_, _, ⟨T4, L4, k4, n4⟩, -, X4, ⟨Lc4, hQ4, l4, y4, z4⟩, st4⟩ := Jvm.LawKit.callS X3 hx (y := (⟨"com/example/acompte/acompte/VatOppositePinLaw", "expected", "(I)Lcom/example/acompte/acompte/DocumentKind$Vat;"⟩ : MethodName)) hown (mvT hZ (hw _ (List.mem_of_getElem? (i := 38) rfl))) (mvT hZ (hw _ (List.mem_of_getElem? (i := 39) rfl))) (mvT hZ (hw _ (List.mem_of_getElem? (i := 3) rfl))) (mvT hZ (hw _ (List.mem_of_getElem? (i := 40) rfl))) (by decide) (backOf (W := 1) (rm4_k0 l Z a0 hw [] ((p1 &&& (2147483647 : Int32)) % (7 : Int32)) a_NONE a_WAITS a_WAITS_NO_MORE a_FALLS_DUE_AFTER_WAITING a_WAITS_AGAIN a_FALLS_DUE a_TAKEN_BACK a_VALUES kV T3.heap n0 Zh2 WW2 (by rw [hi] <;> decide)) hZ (hw _ (List.mem_of_getElem? (i := 40) rfl)) (hw _ (List.mem_of_getElem? (i := 3) rfl)) (by decide) (by decide)) (g := (mkF m 26 #[.val (.int p1), .val (.int ((p1 &&& (2147483647 : Int32)) % (7 : Int32))), .val (.ref a_NONE), .val (.ref a_NONE)] [(.int ((p1 &&& (2147483647 : Int32)) % (7 : Int32))), (.ref a_NONE)])) rfl (by rw [hml]; rfl) (argsL := [(.int ((p1 &&& (2147483647 : Int32)) % (7 : Int32)))]) (rest := [(.ref a_NONE)]) (lenOf pdw_2 rfl) rfl (by show 2 * 0 + _ ≤ _; exact Nat.le_of_eq rfl) (hb hby at_26) (fun _ _ => ⟨rfl, rfl, (by decide : 1 + 0 ≤ _), (by decide : 7 + 0 ≤ _)⟩)
  dsimp only [Pt.U, Pt.locs, Pt.cells, Pt.slots] at X4 l4 y4 z4 st4 hQ4
  subst l4 y4 z4
  obtain ⟨rfl, N4q, hh4⟩ := hQ4
  have N4 := Fr.app N3 N4q
  -- pc 35: com/example/acompte/acompte/DocumentKind$Vat.waiting by the contract of the body that the receiver's class selects, rm5
  obtain ⟨cq5, kq5, q5a, q5b, q5c⟩ := isOf hZ hh4 (((E_NONE)))
  obtain ⟨_, _, ⟨T5, L5, k5, n5⟩, -, X5, ⟨Lc5, hQ5, l5, y5, z5⟩, st5⟩ := X4.virtualBack hx (y := (⟨"com/example/acompte/acompte/DocumentKind$Vat", "waiting", "()I"⟩ : MethodName)) (z := (⟨"com/example/acompte/acompte/DocumentKind$Vat", "waiting", "()I"⟩ : MethodName)) hown (mvT hZ (hw _ (List.mem_of_getElem? (i := 41) rfl))) (mvT hZ (hw _ (List.mem_of_getElem? (i := 42) rfl))) (notFace_of_selects (args := #[]) (mvT hZ (hw _ (List.mem_of_getElem? (i := 44) rfl)))) (mvT hZ (hw _ (List.mem_of_getElem? (i := 44) rfl))) (mvT hZ (hw _ (List.mem_of_getElem? (i := 43) rfl))) (by decide) (backOf (W := 0) (rm5 l Z a0 hw [] a_NONE (0 : Int32) T3.heap n0 Zh2 Fw_NONE) hZ (hw _ (List.mem_of_getElem? (i := 45) rfl)) (hw _ (List.mem_of_getElem? (i := 6) rfl)) (by decide) (by decide)) q5a q5c (g := (mkF m 35 #[.val (.int p1), .val (.int ((p1 &&& (2147483647 : Int32)) % (7 : Int32))), .val (.ref a_NONE), .val (.ref a_NONE)] [(.ref a_NONE)])) rfl (by rw [hml]; rfl) (Steps.refl _) (argsL := []) (rest := []) (lenOf pdw_4 rfl) rfl (by show 2 * 0 + _ ≤ _; exact Nat.le_of_eq rfl) (hb hby at_35) (fun _ _ => ⟨rfl, hh4, (by decide : 1 + 0 ≤ _), (by decide : 7 + 0 ≤ _)⟩)
  dsimp only [Pt.U, Pt.locs, Pt.cells, Pt.slots] at X5 l5 y5 z5 st5 hQ5
  subst l5 y5 z5
  obtain ⟨rfl, N5q, hh5⟩ := hQ5
  have N5 := Fr.app N4 N5q
  -- pc 39: com/example/acompte/acompte/DocumentKind$Vat.waiting by the contract of the body that the receiver's class selects, rm5
  obtain ⟨cq6, kq6, q6a, q6b, q6c⟩ := isOf hZ hh5 ((((E_NONE))))
  obtain ⟨_, _, ⟨T6, L6, k6, n6⟩, -, X6, ⟨Lc6, hQ6, l6, y6, z6⟩, st6⟩ := X5.virtualBack hx (y := (⟨"com/example/acompte/acompte/DocumentKind$Vat", "waiting", "()I"⟩ : MethodName)) (z := (⟨"com/example/acompte/acompte/DocumentKind$Vat", "waiting", "()I"⟩ : MethodName)) hown (mvT hZ (hw _ (List.mem_of_getElem? (i := 41) rfl))) (mvT hZ (hw _ (List.mem_of_getElem? (i := 42) rfl))) (notFace_of_selects (args := #[]) (mvT hZ (hw _ (List.mem_of_getElem? (i := 44) rfl)))) (mvT hZ (hw _ (List.mem_of_getElem? (i := 44) rfl))) (mvT hZ (hw _ (List.mem_of_getElem? (i := 43) rfl))) (by decide) (backOf (W := 1) (rm5 l Z a0 hw [] a_NONE (0 : Int32) T3.heap n0 Zh2 Fw_NONE) hZ (hw _ (List.mem_of_getElem? (i := 45) rfl)) (hw _ (List.mem_of_getElem? (i := 6) rfl)) (by decide) (by decide)) q6a q6c (g := (mkF m 39 #[.val (.int p1), .val (.int ((p1 &&& (2147483647 : Int32)) % (7 : Int32))), .val (.ref a_NONE), .val (.ref a_NONE)] [(.ref a_NONE), (.int (0 : Int32))])) rfl (by rw [hml]; rfl) (Steps.refl _) (argsL := []) (rest := [(.int (0 : Int32))]) (lenOf pdw_4 rfl) rfl (by show 2 * 0 + _ ≤ _; exact Nat.le_of_eq rfl) (hb hby at_39) (fun _ _ => ⟨rfl, hh5, (by decide : 1 + 0 ≤ _), (by decide : 7 + 0 ≤ _)⟩)
  dsimp only [Pt.U, Pt.locs, Pt.cells, Pt.slots] at X6 l6 y6 z6 st6 hQ6
  subst l6 y6 z6
  obtain ⟨rfl, N6q, hh6⟩ := hQ6
  have N6 := Fr.app N5 N6q
  -- pc 47: com/example/acompte/acompte/DocumentKind$Vat.due by the contract of the body that the receiver's class selects, rm6
  obtain ⟨cq7, kq7, q7a, q7b, q7c⟩ := isOf hZ hh6 (((((E_NONE)))))
  obtain ⟨_, _, ⟨T7, L7, k7, n7⟩, -, X7, ⟨Lc7, hQ7, l7, y7, z7⟩, st7⟩ := X6.virtualBack hx (y := (⟨"com/example/acompte/acompte/DocumentKind$Vat", "due", "()I"⟩ : MethodName)) (z := (⟨"com/example/acompte/acompte/DocumentKind$Vat", "due", "()I"⟩ : MethodName)) hown (mvT hZ (hw _ (List.mem_of_getElem? (i := 46) rfl))) (mvT hZ (hw _ (List.mem_of_getElem? (i := 47) rfl))) (notFace_of_selects (args := #[]) (mvT hZ (hw _ (List.mem_of_getElem? (i := 49) rfl)))) (mvT hZ (hw _ (List.mem_of_getElem? (i := 49) rfl))) (mvT hZ (hw _ (List.mem_of_getElem? (i := 48) rfl))) (by decide) (backOf (W := 0) (rm6 l Z a0 hw [] a_NONE (0 : Int32) T3.heap n0 Zh2 Fd_NONE) hZ (hw _ (List.mem_of_getElem? (i := 50) rfl)) (hw _ (List.mem_of_getElem? (i := 6) rfl)) (by decide) (by decide)) q7a q7c (g := (mkF m 47 #[.val (.int p1), .val (.int ((p1 &&& (2147483647 : Int32)) % (7 : Int32))), .val (.ref a_NONE), .val (.ref a_NONE)] [(.ref a_NONE)])) rfl (by rw [hml]; rfl) (Steps.refl _) (argsL := []) (rest := []) (lenOf pdw_4 rfl) rfl (by show 2 * 0 + _ ≤ _; exact Nat.le_of_eq rfl) (hb hby at_47) (fun _ _ => ⟨rfl, hh6, (by decide : 1 + 0 ≤ _), (by decide : 7 + 0 ≤ _)⟩)
  dsimp only [Pt.U, Pt.locs, Pt.cells, Pt.slots] at X7 l7 y7 z7 st7 hQ7
  subst l7 y7 z7
  obtain ⟨rfl, N7q, hh7⟩ := hQ7
  have N7 := Fr.app N6 N7q
  -- pc 51: com/example/acompte/acompte/DocumentKind$Vat.due by the contract of the body that the receiver's class selects, rm6
  obtain ⟨cq8, kq8, q8a, q8b, q8c⟩ := isOf hZ hh7 ((((((E_NONE))))))
  obtain ⟨_, _, ⟨T8, L8, k8, n8⟩, -, X8, ⟨Lc8, hQ8, l8, y8, z8⟩, st8⟩ := X7.virtualBack hx (y := (⟨"com/example/acompte/acompte/DocumentKind$Vat", "due", "()I"⟩ : MethodName)) (z := (⟨"com/example/acompte/acompte/DocumentKind$Vat", "due", "()I"⟩ : MethodName)) hown (mvT hZ (hw _ (List.mem_of_getElem? (i := 46) rfl))) (mvT hZ (hw _ (List.mem_of_getElem? (i := 47) rfl))) (notFace_of_selects (args := #[]) (mvT hZ (hw _ (List.mem_of_getElem? (i := 49) rfl)))) (mvT hZ (hw _ (List.mem_of_getElem? (i := 49) rfl))) (mvT hZ (hw _ (List.mem_of_getElem? (i := 48) rfl))) (by decide) (backOf (W := 1) (rm6 l Z a0 hw [] a_NONE (0 : Int32) T3.heap n0 Zh2 Fd_NONE) hZ (hw _ (List.mem_of_getElem? (i := 50) rfl)) (hw _ (List.mem_of_getElem? (i := 6) rfl)) (by decide) (by decide)) q8a q8c (g := (mkF m 51 #[.val (.int p1), .val (.int ((p1 &&& (2147483647 : Int32)) % (7 : Int32))), .val (.ref a_NONE), .val (.ref a_NONE)] [(.ref a_NONE), (.int (0 : Int32))])) rfl (by rw [hml]; rfl) (Steps.refl _) (argsL := []) (rest := [(.int (0 : Int32))]) (lenOf pdw_4 rfl) rfl (by show 2 * 0 + _ ≤ _; exact Nat.le_of_eq rfl) (hb hby at_51) (fun _ _ => ⟨rfl, hh7, (by decide : 1 + 0 ≤ _), (by decide : 7 + 0 ≤ _)⟩)
  dsimp only [Pt.U, Pt.locs, Pt.cells, Pt.slots] at X8 l8 y8 z8 st8 hQ8
  subst l8 y8 z8
  obtain ⟨rfl, N8q, hh8⟩ := hQ8
  have N8 := Fr.app N7 N8q
  obtain ⟨fs, hr, hrun, hended, hW, hsame⟩ := X8.leave (v := some (.int (1 : Int32))) (fun h => by rw [Bd.returns] at h; cases h)
  refine ⟨_, _, pre0 _ ?_, hrun, hended, _, _, rfl, ?_, ⟨_, rfl⟩, hW, hsame.mono (by decide) (by decide)⟩
  -- 4. STEPS
  · show Steps p.tables e below (s₁.setTop (mkF m 0 #[.val (.int p1), .unset, .unset, .unset] [])) _
    refine XS.iloadN X0.here hx rfl (hb hby at_0) rfl ?_
    show Steps p.tables e below (s₁.setTop (mkF m 1 #[.val (.int p1), .unset, .unset, .unset] [(.int p1)])) _
    refine X0.ldcInt hx hown (mvT hZ (hw _ (List.mem_of_getElem? (i := 0) rfl))) (g := (mkF m 1 #[.val (.int p1), .unset, .unset, .unset] [(.int p1)])) rfl (hb hby at_1) _ ?_
    show Steps p.tables e below (s₁.setTop (mkF m 3 #[.val (.int p1), .unset, .unset, .unset] [(.int (2147483647 : Int32)), (.int p1)])) _
    refine XS.iand X0.here hx rfl (hb hby at_3) rfl ?_
    show Steps p.tables e below (s₁.setTop (mkF m 4 #[.val (.int p1), .unset, .unset, .unset] [(.int (p1 &&& (2147483647 : Int32)))])) _
    refine XS.bipush X0.here hx rfl (hb hby at_4) ?_
    show Steps p.tables e below (s₁.setTop (mkF m 6 #[.val (.int p1), .unset, .unset, .unset] [(.int (7 : Int32)), (.int (p1 &&& (2147483647 : Int32)))])) _
    refine own_irem X0.here hx rfl (hb hby at_6) rfl hnz6 ?_
    show Steps p.tables e below (s₁.setTop (mkF m 7 #[.val (.int p1), .unset, .unset, .unset] [(.int ((p1 &&& (2147483647 : Int32)) % (7 : Int32)))])) _
    refine XS.istoreN X0.here hx rfl (hb hby at_7) rfl (l' := #[.val (.int p1), .val (.int ((p1 &&& (2147483647 : Int32)) % (7 : Int32))), .unset, .unset]) rfl ?_
    show Steps p.tables e below (s₁.setTop (mkF m 8 #[.val (.int p1), .val (.int ((p1 &&& (2147483647 : Int32)) % (7 : Int32))), .unset, .unset] [])) _
    refine XS.iloadN X0.here hx rfl (hb hby at_8) rfl ?_
    show Steps p.tables e below (s₁.setTop (mkF m 9 #[.val (.int p1), .val (.int ((p1 &&& (2147483647 : Int32)) % (7 : Int32))), .unset, .unset] [(.int ((p1 &&& (2147483647 : Int32)) % (7 : Int32)))])) _
    refine st2 _ ?_
    show Steps p.tables e below (T2.setTop (mkF m 12 #[.val (.int p1), .val (.int ((p1 &&& (2147483647 : Int32)) % (7 : Int32))), .unset, .unset] [(.ref a_NONE)])) _
    refine XS.astoreN X2.here hx rfl (hb hby at_12) rfl rfl (l' := #[.val (.int p1), .val (.int ((p1 &&& (2147483647 : Int32)) % (7 : Int32))), .val (.ref a_NONE), .unset]) rfl ?_
    show Steps p.tables e below (T2.setTop (mkF m 13 #[.val (.int p1), .val (.int ((p1 &&& (2147483647 : Int32)) % (7 : Int32))), .val (.ref a_NONE), .unset] [])) _
    refine XS.aloadN X2.here hx rfl (hb hby at_13) rfl rfl ?_
    show Steps p.tables e below (T2.setTop (mkF m 14 #[.val (.int p1), .val (.int ((p1 &&& (2147483647 : Int32)) % (7 : Int32))), .val (.ref a_NONE), .unset] [(.ref a_NONE)])) _
    refine st3.trans ?_
    show Steps p.tables e below (T3.setTop (mkF m 17 #[.val (.int p1), .val (.int ((p1 &&& (2147483647 : Int32)) % (7 : Int32))), .val (.ref a_NONE), .unset] [(.ref a_NONE)])) _
    refine XS.astoreN X3.here hx rfl (hb hby at_17) rfl rfl (l' := #[.val (.int p1), .val (.int ((p1 &&& (2147483647 : Int32)) % (7 : Int32))), .val (.ref a_NONE), .val (.ref a_NONE)]) rfl ?_
    show Steps p.tables e below (T3.setTop (mkF m 18 #[.val (.int p1), .val (.int ((p1 &&& (2147483647 : Int32)) % (7 : Int32))), .val (.ref a_NONE), .val (.ref a_NONE)] [])) _
    refine XS.aloadN X3.here hx rfl (hb hby at_18) rfl rfl ?_
    show Steps p.tables e below (T3.setTop (mkF m 19 #[.val (.int p1), .val (.int ((p1 &&& (2147483647 : Int32)) % (7 : Int32))), .val (.ref a_NONE), .val (.ref a_NONE)] [(.ref a_NONE)])) _
    refine XS.ifnonnullYes X3.here hx rfl (pc0 := 19) (pc' := 24) rfl (hb hby at_19) rfl (by decide) (by decide) ?_
    show Steps p.tables e below (T3.setTop (mkF m 24 #[.val (.int p1), .val (.int ((p1 &&& (2147483647 : Int32)) % (7 : Int32))), .val (.ref a_NONE), .val (.ref a_NONE)] [])) _
    refine XS.aloadN X3.here hx rfl (hb hby at_24) rfl rfl ?_
    show Steps p.tables e below (T3.setTop (mkF m 25 #[.val (.int p1), .val (.int ((p1 &&& (2147483647 : Int32)) % (7 : Int32))), .val (.ref a_NONE), .val (.ref a_NONE)] [(.ref a_NONE)])) _
    refine XS.iloadN X3.here hx rfl (hb hby at_25) rfl ?_
    show Steps p.tables e below (T3.setTop (mkF m 26 #[.val (.int p1), .val (.int ((p1 &&& (2147483647 : Int32)) % (7 : Int32))), .val (.ref a_NONE), .val (.ref a_NONE)] [(.int ((p1 &&& (2147483647 : Int32)) % (7 : Int32))), (.ref a_NONE)])) _
    refine st4 _ ?_
    show Steps p.tables e below (T4.setTop (mkF m 29 #[.val (.int p1), .val (.int ((p1 &&& (2147483647 : Int32)) % (7 : Int32))), .val (.ref a_NONE), .val (.ref a_NONE)] [(.ref a_NONE), (.ref a_NONE)])) _
    refine Jvm.RoadKit.acmp (g := (mkF m 29 #[.val (.int p1), .val (.int ((p1 &&& (2147483647 : Int32)) % (7 : Int32))), .val (.ref a_NONE), .val (.ref a_NONE)] [(.ref a_NONE), (.ref a_NONE)])) X4 hx rfl rfl rfl (pc0 := 29) (pc' := 34) (same := true) rfl (hb hby at_29) rfl (decide_eq_true (congrArg Value.ref rfl)) (by decide) (by decide) ?_
    show Steps p.tables e below (T4.setTop (mkF m 34 #[.val (.int p1), .val (.int ((p1 &&& (2147483647 : Int32)) % (7 : Int32))), .val (.ref a_NONE), .val (.ref a_NONE)] [])) _
    refine XS.aloadN X4.here hx rfl (hb hby at_34) rfl rfl ?_
    show Steps p.tables e below (T4.setTop (mkF m 35 #[.val (.int p1), .val (.int ((p1 &&& (2147483647 : Int32)) % (7 : Int32))), .val (.ref a_NONE), .val (.ref a_NONE)] [(.ref a_NONE)])) _
    refine st5.trans ?_
    show Steps p.tables e below (T5.setTop (mkF m 38 #[.val (.int p1), .val (.int ((p1 &&& (2147483647 : Int32)) % (7 : Int32))), .val (.ref a_NONE), .val (.ref a_NONE)] [(.int (0 : Int32))])) _
    refine XS.aloadN X5.here hx rfl (hb hby at_38) rfl rfl ?_
    show Steps p.tables e below (T5.setTop (mkF m 39 #[.val (.int p1), .val (.int ((p1 &&& (2147483647 : Int32)) % (7 : Int32))), .val (.ref a_NONE), .val (.ref a_NONE)] [(.ref a_NONE), (.int (0 : Int32))])) _
    refine st6.trans ?_
    show Steps p.tables e below (T6.setTop (mkF m 42 #[.val (.int p1), .val (.int ((p1 &&& (2147483647 : Int32)) % (7 : Int32))), .val (.ref a_NONE), .val (.ref a_NONE)] [(.int (0 : Int32)), (.int (0 : Int32))])) _
    refine XS.ineg X6.here hx rfl (hb hby at_42) rfl ?_
    show Steps p.tables e below (T6.setTop (mkF m 43 #[.val (.int p1), .val (.int ((p1 &&& (2147483647 : Int32)) % (7 : Int32))), .val (.ref a_NONE), .val (.ref a_NONE)] [(.int (-(0 : Int32))), (.int (0 : Int32))])) _
    refine XS.icmpNo X6.here hx rfl (hb hby at_43) rfl (teq (by first | rfl | decide : (0 : Int32) = (-(0 : Int32)))).2 ?_
    show Steps p.tables e below (T6.setTop (mkF m 46 #[.val (.int p1), .val (.int ((p1 &&& (2147483647 : Int32)) % (7 : Int32))), .val (.ref a_NONE), .val (.ref a_NONE)] [])) _
    refine XS.aloadN X6.here hx rfl (hb hby at_46) rfl rfl ?_
    show Steps p.tables e below (T6.setTop (mkF m 47 #[.val (.int p1), .val (.int ((p1 &&& (2147483647 : Int32)) % (7 : Int32))), .val (.ref a_NONE), .val (.ref a_NONE)] [(.ref a_NONE)])) _
    refine st7.trans ?_
    show Steps p.tables e below (T7.setTop (mkF m 50 #[.val (.int p1), .val (.int ((p1 &&& (2147483647 : Int32)) % (7 : Int32))), .val (.ref a_NONE), .val (.ref a_NONE)] [(.int (0 : Int32))])) _
    refine XS.aloadN X7.here hx rfl (hb hby at_50) rfl rfl ?_
    show Steps p.tables e below (T7.setTop (mkF m 51 #[.val (.int p1), .val (.int ((p1 &&& (2147483647 : Int32)) % (7 : Int32))), .val (.ref a_NONE), .val (.ref a_NONE)] [(.ref a_NONE), (.int (0 : Int32))])) _
    refine st8.trans ?_
    show Steps p.tables e below (T8.setTop (mkF m 54 #[.val (.int p1), .val (.int ((p1 &&& (2147483647 : Int32)) % (7 : Int32))), .val (.ref a_NONE), .val (.ref a_NONE)] [(.int (0 : Int32)), (.int (0 : Int32))])) _
    refine XS.ineg X8.here hx rfl (hb hby at_54) rfl ?_
    show Steps p.tables e below (T8.setTop (mkF m 55 #[.val (.int p1), .val (.int ((p1 &&& (2147483647 : Int32)) % (7 : Int32))), .val (.ref a_NONE), .val (.ref a_NONE)] [(.int (-(0 : Int32))), (.int (0 : Int32))])) _
    refine XS.icmpNo X8.here hx rfl (hb hby at_55) rfl (teq (by first | rfl | decide : (0 : Int32) = (-(0 : Int32)))).2 ?_
    show Steps p.tables e below (T8.setTop (mkF m 58 #[.val (.int p1), .val (.int ((p1 &&& (2147483647 : Int32)) % (7 : Int32))), .val (.ref a_NONE), .val (.ref a_NONE)] [])) _
    refine XS.iconst X8.here hx rfl (hb hby at_58) ?_
    show Steps p.tables e below (T8.setTop (mkF m 59 #[.val (.int p1), .val (.int ((p1 &&& (2147483647 : Int32)) % (7 : Int32))), .val (.ref a_NONE), .val (.ref a_NONE)] [(.int (1 : Int32))])) _
    refine XS.goto X8.here hx rfl (pc0 := 59) (pc' := 63) rfl (hb hby at_59) (by decide) (by decide) ?_
    show Steps p.tables e below (T8.setTop (mkF m 63 #[.val (.int p1), .val (.int ((p1 &&& (2147483647 : Int32)) % (7 : Int32))), .val (.ref a_NONE), .val (.ref a_NONE)] [(.int (1 : Int32))])) _
    exact retN X8 hx (t := .boolean) Bd.returns (by simp) (hb hby at_63) hr
  · show Q0 h0 n0 _ T8.heap _
    exact ⟨rfl, N8⟩
set_option maxRecDepth 65536 in
set_option maxHeartbeats 40000000 in
theorem rm0_i1 (l : Launch) (Z : State) (a0 : Array Value) (hw : ∀ d ∈ tables_1, d.before a0 Z = true) (ws : List Jvm.Cond) (p1 : Int32) (a_NONE a_WAITS a_WAITS_NO_MORE a_FALLS_DUE_AFTER_WAITING a_WAITS_AGAIN a_FALLS_DUE a_TAKEN_BACK a_VALUES : Addr) (kV : ClassId) (h0 : Heap) (n0 : Nat) (Z0 : n0 ≤ h0.size) (WW : Own Z h0 a_NONE a_WAITS a_WAITS_NO_MORE a_FALLS_DUE_AFTER_WAITING a_WAITS_AGAIN a_FALLS_DUE a_TAKEN_BACK a_VALUES kV) (hi : ((p1 &&& (2147483647 : Int32)) % (7 : Int32)) = (1 : Int32)) :
    MetFree l x (head1 (Jvm.Cond.code x code maxLocals ret :: ws) room_1) (fun a U => a = #[(.int p1)] ∧ Z.Warmed39 U.vm ∧ U.heap = h0) (fun _ _ _ _ _ => True) (fun _ U o U' => ∃ v L, o = .returned v ∧ Q0 h0 n0 v U'.heap L ∧ FrameEnd U o U' L room_1.cells room_1.slots) := by
  have hnz6 : ¬ ((7 : Int32) = (0 : Int32)) := by decide
  refine MetFree.of_bodySF (plainFor_of_name pn_0) hisR ?_
  intro p e s m args below meth c s₁ Bd hml0 hP hK
  have WW0 := WW
  obtain ⟨S_NONE, S_WAITS, S_WAITS_NO_MORE, S_FALLS_DUE_AFTER_WAITING, S_WAITS_AGAIN, S_FALLS_DUE, S_TAKEN_BACK, S_VALUES, E_NONE, E_WAITS, E_WAITS_NO_MORE, E_FALLS_DUE_AFTER_WAITING, E_WAITS_AGAIN, E_FALLS_DUE, E_TAKEN_BACK, E_VALUES, Fw_NONE, Fw_WAITS, Fw_WAITS_NO_MORE, Fw_FALLS_DUE_AFTER_WAITING, Fw_WAITS_AGAIN, Fw_FALLS_DUE, Fw_TAKEN_BACK, Fd_NONE, Fd_WAITS, Fd_WAITS_NO_MORE, Fd_FALLS_DUE_AFTER_WAITING, Fd_WAITS_AGAIN, Fd_FALLS_DUE, Fd_TAKEN_BACK, V_VALUES⟩ := WW0
  obtain ⟨rfl, hZ, hh⟩ := hP
  have hx := Bd.exec
  have hby := Bd.bytes
  have hml : c.maxLocals = 4 := hml0
  have hown : s.vm.findClass "com/example/acompte/acompte/VatOppositePinLaw" = some m.cls := findClass_of_methodNamed Bd.named
  have hnm := (name_of_methodNamed Bd.named Bd.method).1
  have X0 : Stand p l e room_1 s m #[(.int p1)] below meth c s₁ [] 0 0 := Stand.of_body Bd
  have e0 : s₁.heap = h0 := by rw [← hh, Bd.state]; rfl
  have N0 := Fr.nil n0
  have pre0 : ∀ t, Steps p.tables e below (s₁.setTop (mkF m 0 #[.val (.int p1), .unset, .unset, .unset] [])) t → Steps p.tables e below (s₁.setTop (entryFrame m #[(.int p1)] maxLocals)) t := fun t k => castTop (ef_0 m p1) k
  -- 3. LAWS
  -- pc 9: com/example/acompte/acompte/VatOppositePinLaw.pick by its contract rm1
  obtain ⟨_, _, ⟨T2, L2, k2, n2⟩, -, X2, ⟨Lc2, hQ2, l2, y2, z2⟩, st2⟩ := Jvm.LawKit.callS X0 hx (y := (⟨"com/example/acompte/acompte/VatOppositePinLaw", "pick", "(I)Lcom/example/acompte/acompte/DocumentKind$Vat;"⟩ : MethodName)) hown (mvT hZ (hw _ (List.mem_of_getElem? (i := 1) rfl))) (mvT hZ (hw _ (List.mem_of_getElem? (i := 2) rfl))) (mvT hZ (hw _ (List.mem_of_getElem? (i := 3) rfl))) (mvT hZ (hw _ (List.mem_of_getElem? (i := 4) rfl))) (by decide) (backOf (W := 0) (rm1_k1 l Z a0 hw [] ((p1 &&& (2147483647 : Int32)) % (7 : Int32)) a_NONE a_WAITS a_WAITS_NO_MORE a_FALLS_DUE_AFTER_WAITING a_WAITS_AGAIN a_FALLS_DUE a_TAKEN_BACK a_VALUES kV h0 n0 Z0 WW (by rw [hi] <;> decide) (by rw [hi] <;> decide)) hZ (hw _ (List.mem_of_getElem? (i := 4) rfl)) (hw _ (List.mem_of_getElem? (i := 3) rfl)) (by decide) (by decide)) (g := (mkF m 9 #[.val (.int p1), .val (.int ((p1 &&& (2147483647 : Int32)) % (7 : Int32))), .unset, .unset] [(.int ((p1 &&& (2147483647 : Int32)) % (7 : Int32)))])) rfl (by rw [hml]; rfl) (argsL := [(.int ((p1 &&& (2147483647 : Int32)) % (7 : Int32)))]) (rest := []) (lenOf pdw_2 rfl) rfl (by show 2 * 0 + _ ≤ _; exact Nat.le_of_eq rfl) (hb hby at_9) (fun _ _ => ⟨rfl, e0, (by decide : 0 + 0 ≤ _), (by decide : 0 + 0 ≤ _)⟩)
  dsimp only [Pt.U, Pt.locs, Pt.cells, Pt.slots] at X2 l2 y2 z2 st2 hQ2
  subst l2 y2 z2
  obtain ⟨rfl, N2q, hh2⟩ := hQ2
  have N2 := Fr.app N0 N2q
  -- pc 14: com/example/acompte/acompte/DocumentKind$Vat.opposite by the contract of the body that the receiver's class selects, rm2
  obtain ⟨cq3, kq3, q3a, q3b, q3c⟩ := isOf hZ hh2 (E_WAITS)
  obtain ⟨_, _, ⟨T3, L3, k3, n3⟩, -, X3, ⟨Lc3, hQ3, l3, y3, z3⟩, st3⟩ := X2.virtualBack hx (y := (⟨"com/example/acompte/acompte/DocumentKind$Vat", "opposite", "()Lcom/example/acompte/acompte/DocumentKind$Vat;"⟩ : MethodName)) (z := (⟨"com/example/acompte/acompte/DocumentKind$Vat", "opposite", "()Lcom/example/acompte/acompte/DocumentKind$Vat;"⟩ : MethodName)) hown (mvT hZ (hw _ (List.mem_of_getElem? (i := 8) rfl))) (mvT hZ (hw _ (List.mem_of_getElem? (i := 9) rfl))) (notFace_of_selects (args := #[]) (mvT hZ (hw _ (List.mem_of_getElem? (i := 11) rfl)))) (mvT hZ (hw _ (List.mem_of_getElem? (i := 11) rfl))) (mvT hZ (hw _ (List.mem_of_getElem? (i := 10) rfl))) (by decide) (backOf (W := 0) (rm2_r1 l Z a0 hw [] a_NONE a_WAITS a_WAITS_NO_MORE a_FALLS_DUE_AFTER_WAITING a_WAITS_AGAIN a_FALLS_DUE a_TAKEN_BACK a_VALUES kV h0 n0 Z0 WW) hZ (hw _ (List.mem_of_getElem? (i := 12) rfl)) (hw _ (List.mem_of_getElem? (i := 6) rfl)) (by decide) (by decide)) q3a q3c (g := (mkF m 14 #[.val (.int p1), .val (.int ((p1 &&& (2147483647 : Int32)) % (7 : Int32))), .val (.ref a_WAITS), .unset] [(.ref a_WAITS)])) rfl (by rw [hml]; rfl) (Steps.refl _) (argsL := []) (rest := []) (lenOf pdw_3 rfl) rfl (by show 2 * 0 + _ ≤ _; exact Nat.le_of_eq rfl) (hb hby at_14) (fun _ _ => ⟨rfl, hh2, (by decide : 0 + 1 ≤ _), (by decide : 0 + 7 ≤ _)⟩)
  dsimp only [Pt.U, Pt.locs, Pt.cells, Pt.slots] at X3 l3 y3 z3 st3 hQ3
  subst l3 y3 z3
  obtain ⟨rfl, N3q, Ex2⟩ := hQ3
  have WW2 := WW.ext Ex2
  have Zh2 : n0 ≤ T3.heap.size := Nat.le_trans Z0 Ex2.1
  have WW3 := WW2
  obtain ⟨S_NONE, S_WAITS, S_WAITS_NO_MORE, S_FALLS_DUE_AFTER_WAITING, S_WAITS_AGAIN, S_FALLS_DUE, S_TAKEN_BACK, S_VALUES, E_NONE, E_WAITS, E_WAITS_NO_MORE, E_FALLS_DUE_AFTER_WAITING, E_WAITS_AGAIN, E_FALLS_DUE, E_TAKEN_BACK, E_VALUES, Fw_NONE, Fw_WAITS, Fw_WAITS_NO_MORE, Fw_FALLS_DUE_AFTER_WAITING, Fw_WAITS_AGAIN, Fw_FALLS_DUE, Fw_TAKEN_BACK, Fd_NONE, Fd_WAITS, Fd_WAITS_NO_MORE, Fd_FALLS_DUE_AFTER_WAITING, Fd_WAITS_AGAIN, Fd_FALLS_DUE, Fd_TAKEN_BACK, V_VALUES⟩ := WW3
  have N3 := Fr.app N2 N3q
  -- pc 26: com/example/acompte/acompte/VatOppositePinLaw.expected by its contract rm4
  obtain ⟨_, _, ⟨T4, L4, k4, n4⟩, -, X4, ⟨Lc4, hQ4, l4, y4, z4⟩, st4⟩ := Jvm.LawKit.callS X3 hx (y := (⟨"com/example/acompte/acompte/VatOppositePinLaw", "expected", "(I)Lcom/example/acompte/acompte/DocumentKind$Vat;"⟩ : MethodName)) hown (mvT hZ (hw _ (List.mem_of_getElem? (i := 38) rfl))) (mvT hZ (hw _ (List.mem_of_getElem? (i := 39) rfl))) (mvT hZ (hw _ (List.mem_of_getElem? (i := 3) rfl))) (mvT hZ (hw _ (List.mem_of_getElem? (i := 40) rfl))) (by decide) (backOf (W := 1) (rm4_k1 l Z a0 hw [] ((p1 &&& (2147483647 : Int32)) % (7 : Int32)) a_NONE a_WAITS a_WAITS_NO_MORE a_FALLS_DUE_AFTER_WAITING a_WAITS_AGAIN a_FALLS_DUE a_TAKEN_BACK a_VALUES kV T3.heap n0 Zh2 WW2 (by rw [hi] <;> decide) (by rw [hi] <;> decide)) hZ (hw _ (List.mem_of_getElem? (i := 40) rfl)) (hw _ (List.mem_of_getElem? (i := 3) rfl)) (by decide) (by decide)) (g := (mkF m 26 #[.val (.int p1), .val (.int ((p1 &&& (2147483647 : Int32)) % (7 : Int32))), .val (.ref a_WAITS), .val (.ref a_WAITS_NO_MORE)] [(.int ((p1 &&& (2147483647 : Int32)) % (7 : Int32))), (.ref a_WAITS_NO_MORE)])) rfl (by rw [hml]; rfl) (argsL := [(.int ((p1 &&& (2147483647 : Int32)) % (7 : Int32)))]) (rest := [(.ref a_WAITS_NO_MORE)]) (lenOf pdw_2 rfl) rfl (by show 2 * 0 + _ ≤ _; exact Nat.le_of_eq rfl) (hb hby at_26) (fun _ _ => ⟨rfl, rfl, (by decide : 1 + 0 ≤ _), (by decide : 7 + 0 ≤ _)⟩)
  dsimp only [Pt.U, Pt.locs, Pt.cells, Pt.slots] at X4 l4 y4 z4 st4 hQ4
  subst l4 y4 z4
  obtain ⟨rfl, N4q, hh4⟩ := hQ4
  have N4 := Fr.app N3 N4q
  -- pc 35: com/example/acompte/acompte/DocumentKind$Vat.waiting by the contract of the body that the receiver's class selects, rm5
  obtain ⟨cq5, kq5, q5a, q5b, q5c⟩ := isOf hZ hh4 (((E_WAITS_NO_MORE)))
  obtain ⟨_, _, ⟨T5, L5, k5, n5⟩, -, X5, ⟨Lc5, hQ5, l5, y5, z5⟩, st5⟩ := X4.virtualBack hx (y := (⟨"com/example/acompte/acompte/DocumentKind$Vat", "waiting", "()I"⟩ : MethodName)) (z := (⟨"com/example/acompte/acompte/DocumentKind$Vat", "waiting", "()I"⟩ : MethodName)) hown (mvT hZ (hw _ (List.mem_of_getElem? (i := 41) rfl))) (mvT hZ (hw _ (List.mem_of_getElem? (i := 42) rfl))) (notFace_of_selects (args := #[]) (mvT hZ (hw _ (List.mem_of_getElem? (i := 44) rfl)))) (mvT hZ (hw _ (List.mem_of_getElem? (i := 44) rfl))) (mvT hZ (hw _ (List.mem_of_getElem? (i := 43) rfl))) (by decide) (backOf (W := 0) (rm5 l Z a0 hw [] a_WAITS_NO_MORE (-1 : Int32) T3.heap n0 Zh2 Fw_WAITS_NO_MORE) hZ (hw _ (List.mem_of_getElem? (i := 45) rfl)) (hw _ (List.mem_of_getElem? (i := 6) rfl)) (by decide) (by decide)) q5a q5c (g := (mkF m 35 #[.val (.int p1), .val (.int ((p1 &&& (2147483647 : Int32)) % (7 : Int32))), .val (.ref a_WAITS), .val (.ref a_WAITS_NO_MORE)] [(.ref a_WAITS_NO_MORE)])) rfl (by rw [hml]; rfl) (Steps.refl _) (argsL := []) (rest := []) (lenOf pdw_4 rfl) rfl (by show 2 * 0 + _ ≤ _; exact Nat.le_of_eq rfl) (hb hby at_35) (fun _ _ => ⟨rfl, hh4, (by decide : 1 + 0 ≤ _), (by decide : 7 + 0 ≤ _)⟩)
  dsimp only [Pt.U, Pt.locs, Pt.cells, Pt.slots] at X5 l5 y5 z5 st5 hQ5
  subst l5 y5 z5
  obtain ⟨rfl, N5q, hh5⟩ := hQ5
  have N5 := Fr.app N4 N5q
  -- pc 39: com/example/acompte/acompte/DocumentKind$Vat.waiting by the contract of the body that the receiver's class selects, rm5
  obtain ⟨cq6, kq6, q6a, q6b, q6c⟩ := isOf hZ hh5 ((((E_WAITS))))
  obtain ⟨_, _, ⟨T6, L6, k6, n6⟩, -, X6, ⟨Lc6, hQ6, l6, y6, z6⟩, st6⟩ := X5.virtualBack hx (y := (⟨"com/example/acompte/acompte/DocumentKind$Vat", "waiting", "()I"⟩ : MethodName)) (z := (⟨"com/example/acompte/acompte/DocumentKind$Vat", "waiting", "()I"⟩ : MethodName)) hown (mvT hZ (hw _ (List.mem_of_getElem? (i := 41) rfl))) (mvT hZ (hw _ (List.mem_of_getElem? (i := 42) rfl))) (notFace_of_selects (args := #[]) (mvT hZ (hw _ (List.mem_of_getElem? (i := 44) rfl)))) (mvT hZ (hw _ (List.mem_of_getElem? (i := 44) rfl))) (mvT hZ (hw _ (List.mem_of_getElem? (i := 43) rfl))) (by decide) (backOf (W := 1) (rm5 l Z a0 hw [] a_WAITS (1 : Int32) T3.heap n0 Zh2 Fw_WAITS) hZ (hw _ (List.mem_of_getElem? (i := 45) rfl)) (hw _ (List.mem_of_getElem? (i := 6) rfl)) (by decide) (by decide)) q6a q6c (g := (mkF m 39 #[.val (.int p1), .val (.int ((p1 &&& (2147483647 : Int32)) % (7 : Int32))), .val (.ref a_WAITS), .val (.ref a_WAITS_NO_MORE)] [(.ref a_WAITS), (.int (-1 : Int32))])) rfl (by rw [hml]; rfl) (Steps.refl _) (argsL := []) (rest := [(.int (-1 : Int32))]) (lenOf pdw_4 rfl) rfl (by show 2 * 0 + _ ≤ _; exact Nat.le_of_eq rfl) (hb hby at_39) (fun _ _ => ⟨rfl, hh5, (by decide : 1 + 0 ≤ _), (by decide : 7 + 0 ≤ _)⟩)
  dsimp only [Pt.U, Pt.locs, Pt.cells, Pt.slots] at X6 l6 y6 z6 st6 hQ6
  subst l6 y6 z6
  obtain ⟨rfl, N6q, hh6⟩ := hQ6
  have N6 := Fr.app N5 N6q
  -- pc 47: com/example/acompte/acompte/DocumentKind$Vat.due by the contract of the body that the receiver's class selects, rm6
  obtain ⟨cq7, kq7, q7a, q7b, q7c⟩ := isOf hZ hh6 (((((E_WAITS_NO_MORE)))))
  obtain ⟨_, _, ⟨T7, L7, k7, n7⟩, -, X7, ⟨Lc7, hQ7, l7, y7, z7⟩, st7⟩ := X6.virtualBack hx (y := (⟨"com/example/acompte/acompte/DocumentKind$Vat", "due", "()I"⟩ : MethodName)) (z := (⟨"com/example/acompte/acompte/DocumentKind$Vat", "due", "()I"⟩ : MethodName)) hown (mvT hZ (hw _ (List.mem_of_getElem? (i := 46) rfl))) (mvT hZ (hw _ (List.mem_of_getElem? (i := 47) rfl))) (notFace_of_selects (args := #[]) (mvT hZ (hw _ (List.mem_of_getElem? (i := 49) rfl)))) (mvT hZ (hw _ (List.mem_of_getElem? (i := 49) rfl))) (mvT hZ (hw _ (List.mem_of_getElem? (i := 48) rfl))) (by decide) (backOf (W := 0) (rm6 l Z a0 hw [] a_WAITS_NO_MORE (0 : Int32) T3.heap n0 Zh2 Fd_WAITS_NO_MORE) hZ (hw _ (List.mem_of_getElem? (i := 50) rfl)) (hw _ (List.mem_of_getElem? (i := 6) rfl)) (by decide) (by decide)) q7a q7c (g := (mkF m 47 #[.val (.int p1), .val (.int ((p1 &&& (2147483647 : Int32)) % (7 : Int32))), .val (.ref a_WAITS), .val (.ref a_WAITS_NO_MORE)] [(.ref a_WAITS_NO_MORE)])) rfl (by rw [hml]; rfl) (Steps.refl _) (argsL := []) (rest := []) (lenOf pdw_4 rfl) rfl (by show 2 * 0 + _ ≤ _; exact Nat.le_of_eq rfl) (hb hby at_47) (fun _ _ => ⟨rfl, hh6, (by decide : 1 + 0 ≤ _), (by decide : 7 + 0 ≤ _)⟩)
  dsimp only [Pt.U, Pt.locs, Pt.cells, Pt.slots] at X7 l7 y7 z7 st7 hQ7
  subst l7 y7 z7
  obtain ⟨rfl, N7q, hh7⟩ := hQ7
  have N7 := Fr.app N6 N7q
  -- pc 51: com/example/acompte/acompte/DocumentKind$Vat.due by the contract of the body that the receiver's class selects, rm6
  obtain ⟨cq8, kq8, q8a, q8b, q8c⟩ := isOf hZ hh7 ((((((E_WAITS))))))
  obtain ⟨_, _, ⟨T8, L8, k8, n8⟩, -, X8, ⟨Lc8, hQ8, l8, y8, z8⟩, st8⟩ := X7.virtualBack hx (y := (⟨"com/example/acompte/acompte/DocumentKind$Vat", "due", "()I"⟩ : MethodName)) (z := (⟨"com/example/acompte/acompte/DocumentKind$Vat", "due", "()I"⟩ : MethodName)) hown (mvT hZ (hw _ (List.mem_of_getElem? (i := 46) rfl))) (mvT hZ (hw _ (List.mem_of_getElem? (i := 47) rfl))) (notFace_of_selects (args := #[]) (mvT hZ (hw _ (List.mem_of_getElem? (i := 49) rfl)))) (mvT hZ (hw _ (List.mem_of_getElem? (i := 49) rfl))) (mvT hZ (hw _ (List.mem_of_getElem? (i := 48) rfl))) (by decide) (backOf (W := 1) (rm6 l Z a0 hw [] a_WAITS (0 : Int32) T3.heap n0 Zh2 Fd_WAITS) hZ (hw _ (List.mem_of_getElem? (i := 50) rfl)) (hw _ (List.mem_of_getElem? (i := 6) rfl)) (by decide) (by decide)) q8a q8c (g := (mkF m 51 #[.val (.int p1), .val (.int ((p1 &&& (2147483647 : Int32)) % (7 : Int32))), .val (.ref a_WAITS), .val (.ref a_WAITS_NO_MORE)] [(.ref a_WAITS), (.int (0 : Int32))])) rfl (by rw [hml]; rfl) (Steps.refl _) (argsL := []) (rest := [(.int (0 : Int32))]) (lenOf pdw_4 rfl) rfl (by show 2 * 0 + _ ≤ _; exact Nat.le_of_eq rfl) (hb hby at_51) (fun _ _ => ⟨rfl, hh7, (by decide : 1 + 0 ≤ _), (by decide : 7 + 0 ≤ _)⟩)
  dsimp only [Pt.U, Pt.locs, Pt.cells, Pt.slots] at X8 l8 y8 z8 st8 hQ8
  subst l8 y8 z8
  obtain ⟨rfl, N8q, hh8⟩ := hQ8
  have N8 := Fr.app N7 N8q
  obtain ⟨fs, hr, hrun, hended, hW, hsame⟩ := X8.leave (v := some (.int (1 : Int32))) (fun h => by rw [Bd.returns] at h; cases h)
  refine ⟨_, _, pre0 _ ?_, hrun, hended, _, _, rfl, ?_, ⟨_, rfl⟩, hW, hsame.mono (by decide) (by decide)⟩
  -- 4. STEPS
  · show Steps p.tables e below (s₁.setTop (mkF m 0 #[.val (.int p1), .unset, .unset, .unset] [])) _
    refine XS.iloadN X0.here hx rfl (hb hby at_0) rfl ?_
    show Steps p.tables e below (s₁.setTop (mkF m 1 #[.val (.int p1), .unset, .unset, .unset] [(.int p1)])) _
    refine X0.ldcInt hx hown (mvT hZ (hw _ (List.mem_of_getElem? (i := 0) rfl))) (g := (mkF m 1 #[.val (.int p1), .unset, .unset, .unset] [(.int p1)])) rfl (hb hby at_1) _ ?_
    show Steps p.tables e below (s₁.setTop (mkF m 3 #[.val (.int p1), .unset, .unset, .unset] [(.int (2147483647 : Int32)), (.int p1)])) _
    refine XS.iand X0.here hx rfl (hb hby at_3) rfl ?_
    show Steps p.tables e below (s₁.setTop (mkF m 4 #[.val (.int p1), .unset, .unset, .unset] [(.int (p1 &&& (2147483647 : Int32)))])) _
    refine XS.bipush X0.here hx rfl (hb hby at_4) ?_
    show Steps p.tables e below (s₁.setTop (mkF m 6 #[.val (.int p1), .unset, .unset, .unset] [(.int (7 : Int32)), (.int (p1 &&& (2147483647 : Int32)))])) _
    refine own_irem X0.here hx rfl (hb hby at_6) rfl hnz6 ?_
    show Steps p.tables e below (s₁.setTop (mkF m 7 #[.val (.int p1), .unset, .unset, .unset] [(.int ((p1 &&& (2147483647 : Int32)) % (7 : Int32)))])) _
    refine XS.istoreN X0.here hx rfl (hb hby at_7) rfl (l' := #[.val (.int p1), .val (.int ((p1 &&& (2147483647 : Int32)) % (7 : Int32))), .unset, .unset]) rfl ?_
    show Steps p.tables e below (s₁.setTop (mkF m 8 #[.val (.int p1), .val (.int ((p1 &&& (2147483647 : Int32)) % (7 : Int32))), .unset, .unset] [])) _
    refine XS.iloadN X0.here hx rfl (hb hby at_8) rfl ?_
    show Steps p.tables e below (s₁.setTop (mkF m 9 #[.val (.int p1), .val (.int ((p1 &&& (2147483647 : Int32)) % (7 : Int32))), .unset, .unset] [(.int ((p1 &&& (2147483647 : Int32)) % (7 : Int32)))])) _
    refine st2 _ ?_
    show Steps p.tables e below (T2.setTop (mkF m 12 #[.val (.int p1), .val (.int ((p1 &&& (2147483647 : Int32)) % (7 : Int32))), .unset, .unset] [(.ref a_WAITS)])) _
    refine XS.astoreN X2.here hx rfl (hb hby at_12) rfl rfl (l' := #[.val (.int p1), .val (.int ((p1 &&& (2147483647 : Int32)) % (7 : Int32))), .val (.ref a_WAITS), .unset]) rfl ?_
    show Steps p.tables e below (T2.setTop (mkF m 13 #[.val (.int p1), .val (.int ((p1 &&& (2147483647 : Int32)) % (7 : Int32))), .val (.ref a_WAITS), .unset] [])) _
    refine XS.aloadN X2.here hx rfl (hb hby at_13) rfl rfl ?_
    show Steps p.tables e below (T2.setTop (mkF m 14 #[.val (.int p1), .val (.int ((p1 &&& (2147483647 : Int32)) % (7 : Int32))), .val (.ref a_WAITS), .unset] [(.ref a_WAITS)])) _
    refine st3.trans ?_
    show Steps p.tables e below (T3.setTop (mkF m 17 #[.val (.int p1), .val (.int ((p1 &&& (2147483647 : Int32)) % (7 : Int32))), .val (.ref a_WAITS), .unset] [(.ref a_WAITS_NO_MORE)])) _
    refine XS.astoreN X3.here hx rfl (hb hby at_17) rfl rfl (l' := #[.val (.int p1), .val (.int ((p1 &&& (2147483647 : Int32)) % (7 : Int32))), .val (.ref a_WAITS), .val (.ref a_WAITS_NO_MORE)]) rfl ?_
    show Steps p.tables e below (T3.setTop (mkF m 18 #[.val (.int p1), .val (.int ((p1 &&& (2147483647 : Int32)) % (7 : Int32))), .val (.ref a_WAITS), .val (.ref a_WAITS_NO_MORE)] [])) _
    refine XS.aloadN X3.here hx rfl (hb hby at_18) rfl rfl ?_
    show Steps p.tables e below (T3.setTop (mkF m 19 #[.val (.int p1), .val (.int ((p1 &&& (2147483647 : Int32)) % (7 : Int32))), .val (.ref a_WAITS), .val (.ref a_WAITS_NO_MORE)] [(.ref a_WAITS_NO_MORE)])) _
    refine XS.ifnonnullYes X3.here hx rfl (pc0 := 19) (pc' := 24) rfl (hb hby at_19) rfl (by decide) (by decide) ?_
    show Steps p.tables e below (T3.setTop (mkF m 24 #[.val (.int p1), .val (.int ((p1 &&& (2147483647 : Int32)) % (7 : Int32))), .val (.ref a_WAITS), .val (.ref a_WAITS_NO_MORE)] [])) _
    refine XS.aloadN X3.here hx rfl (hb hby at_24) rfl rfl ?_
    show Steps p.tables e below (T3.setTop (mkF m 25 #[.val (.int p1), .val (.int ((p1 &&& (2147483647 : Int32)) % (7 : Int32))), .val (.ref a_WAITS), .val (.ref a_WAITS_NO_MORE)] [(.ref a_WAITS_NO_MORE)])) _
    refine XS.iloadN X3.here hx rfl (hb hby at_25) rfl ?_
    show Steps p.tables e below (T3.setTop (mkF m 26 #[.val (.int p1), .val (.int ((p1 &&& (2147483647 : Int32)) % (7 : Int32))), .val (.ref a_WAITS), .val (.ref a_WAITS_NO_MORE)] [(.int ((p1 &&& (2147483647 : Int32)) % (7 : Int32))), (.ref a_WAITS_NO_MORE)])) _
    refine st4 _ ?_
    show Steps p.tables e below (T4.setTop (mkF m 29 #[.val (.int p1), .val (.int ((p1 &&& (2147483647 : Int32)) % (7 : Int32))), .val (.ref a_WAITS), .val (.ref a_WAITS_NO_MORE)] [(.ref a_WAITS_NO_MORE), (.ref a_WAITS_NO_MORE)])) _
    refine Jvm.RoadKit.acmp (g := (mkF m 29 #[.val (.int p1), .val (.int ((p1 &&& (2147483647 : Int32)) % (7 : Int32))), .val (.ref a_WAITS), .val (.ref a_WAITS_NO_MORE)] [(.ref a_WAITS_NO_MORE), (.ref a_WAITS_NO_MORE)])) X4 hx rfl rfl rfl (pc0 := 29) (pc' := 34) (same := true) rfl (hb hby at_29) rfl (decide_eq_true (congrArg Value.ref rfl)) (by decide) (by decide) ?_
    show Steps p.tables e below (T4.setTop (mkF m 34 #[.val (.int p1), .val (.int ((p1 &&& (2147483647 : Int32)) % (7 : Int32))), .val (.ref a_WAITS), .val (.ref a_WAITS_NO_MORE)] [])) _
    refine XS.aloadN X4.here hx rfl (hb hby at_34) rfl rfl ?_
    show Steps p.tables e below (T4.setTop (mkF m 35 #[.val (.int p1), .val (.int ((p1 &&& (2147483647 : Int32)) % (7 : Int32))), .val (.ref a_WAITS), .val (.ref a_WAITS_NO_MORE)] [(.ref a_WAITS_NO_MORE)])) _
    refine st5.trans ?_
    show Steps p.tables e below (T5.setTop (mkF m 38 #[.val (.int p1), .val (.int ((p1 &&& (2147483647 : Int32)) % (7 : Int32))), .val (.ref a_WAITS), .val (.ref a_WAITS_NO_MORE)] [(.int (-1 : Int32))])) _
    refine XS.aloadN X5.here hx rfl (hb hby at_38) rfl rfl ?_
    show Steps p.tables e below (T5.setTop (mkF m 39 #[.val (.int p1), .val (.int ((p1 &&& (2147483647 : Int32)) % (7 : Int32))), .val (.ref a_WAITS), .val (.ref a_WAITS_NO_MORE)] [(.ref a_WAITS), (.int (-1 : Int32))])) _
    refine st6.trans ?_
    show Steps p.tables e below (T6.setTop (mkF m 42 #[.val (.int p1), .val (.int ((p1 &&& (2147483647 : Int32)) % (7 : Int32))), .val (.ref a_WAITS), .val (.ref a_WAITS_NO_MORE)] [(.int (1 : Int32)), (.int (-1 : Int32))])) _
    refine XS.ineg X6.here hx rfl (hb hby at_42) rfl ?_
    show Steps p.tables e below (T6.setTop (mkF m 43 #[.val (.int p1), .val (.int ((p1 &&& (2147483647 : Int32)) % (7 : Int32))), .val (.ref a_WAITS), .val (.ref a_WAITS_NO_MORE)] [(.int (-(1 : Int32))), (.int (-1 : Int32))])) _
    refine XS.icmpNo X6.here hx rfl (hb hby at_43) rfl (teq (by first | rfl | decide : (-1 : Int32) = (-(1 : Int32)))).2 ?_
    show Steps p.tables e below (T6.setTop (mkF m 46 #[.val (.int p1), .val (.int ((p1 &&& (2147483647 : Int32)) % (7 : Int32))), .val (.ref a_WAITS), .val (.ref a_WAITS_NO_MORE)] [])) _
    refine XS.aloadN X6.here hx rfl (hb hby at_46) rfl rfl ?_
    show Steps p.tables e below (T6.setTop (mkF m 47 #[.val (.int p1), .val (.int ((p1 &&& (2147483647 : Int32)) % (7 : Int32))), .val (.ref a_WAITS), .val (.ref a_WAITS_NO_MORE)] [(.ref a_WAITS_NO_MORE)])) _
    refine st7.trans ?_
    show Steps p.tables e below (T7.setTop (mkF m 50 #[.val (.int p1), .val (.int ((p1 &&& (2147483647 : Int32)) % (7 : Int32))), .val (.ref a_WAITS), .val (.ref a_WAITS_NO_MORE)] [(.int (0 : Int32))])) _
    refine XS.aloadN X7.here hx rfl (hb hby at_50) rfl rfl ?_
    show Steps p.tables e below (T7.setTop (mkF m 51 #[.val (.int p1), .val (.int ((p1 &&& (2147483647 : Int32)) % (7 : Int32))), .val (.ref a_WAITS), .val (.ref a_WAITS_NO_MORE)] [(.ref a_WAITS), (.int (0 : Int32))])) _
    refine st8.trans ?_
    show Steps p.tables e below (T8.setTop (mkF m 54 #[.val (.int p1), .val (.int ((p1 &&& (2147483647 : Int32)) % (7 : Int32))), .val (.ref a_WAITS), .val (.ref a_WAITS_NO_MORE)] [(.int (0 : Int32)), (.int (0 : Int32))])) _
    refine XS.ineg X8.here hx rfl (hb hby at_54) rfl ?_
    show Steps p.tables e below (T8.setTop (mkF m 55 #[.val (.int p1), .val (.int ((p1 &&& (2147483647 : Int32)) % (7 : Int32))), .val (.ref a_WAITS), .val (.ref a_WAITS_NO_MORE)] [(.int (-(0 : Int32))), (.int (0 : Int32))])) _
    refine XS.icmpNo X8.here hx rfl (hb hby at_55) rfl (teq (by first | rfl | decide : (0 : Int32) = (-(0 : Int32)))).2 ?_
    show Steps p.tables e below (T8.setTop (mkF m 58 #[.val (.int p1), .val (.int ((p1 &&& (2147483647 : Int32)) % (7 : Int32))), .val (.ref a_WAITS), .val (.ref a_WAITS_NO_MORE)] [])) _
    refine XS.iconst X8.here hx rfl (hb hby at_58) ?_
    show Steps p.tables e below (T8.setTop (mkF m 59 #[.val (.int p1), .val (.int ((p1 &&& (2147483647 : Int32)) % (7 : Int32))), .val (.ref a_WAITS), .val (.ref a_WAITS_NO_MORE)] [(.int (1 : Int32))])) _
    refine XS.goto X8.here hx rfl (pc0 := 59) (pc' := 63) rfl (hb hby at_59) (by decide) (by decide) ?_
    show Steps p.tables e below (T8.setTop (mkF m 63 #[.val (.int p1), .val (.int ((p1 &&& (2147483647 : Int32)) % (7 : Int32))), .val (.ref a_WAITS), .val (.ref a_WAITS_NO_MORE)] [(.int (1 : Int32))])) _
    exact retN X8 hx (t := .boolean) Bd.returns (by simp) (hb hby at_63) hr
  · show Q0 h0 n0 _ T8.heap _
    exact ⟨rfl, N8⟩
set_option maxRecDepth 65536 in
set_option maxHeartbeats 40000000 in
theorem rm0_i2 (l : Launch) (Z : State) (a0 : Array Value) (hw : ∀ d ∈ tables_1, d.before a0 Z = true) (ws : List Jvm.Cond) (p1 : Int32) (a_NONE a_WAITS a_WAITS_NO_MORE a_FALLS_DUE_AFTER_WAITING a_WAITS_AGAIN a_FALLS_DUE a_TAKEN_BACK a_VALUES : Addr) (kV : ClassId) (h0 : Heap) (n0 : Nat) (Z0 : n0 ≤ h0.size) (WW : Own Z h0 a_NONE a_WAITS a_WAITS_NO_MORE a_FALLS_DUE_AFTER_WAITING a_WAITS_AGAIN a_FALLS_DUE a_TAKEN_BACK a_VALUES kV) (hi : ((p1 &&& (2147483647 : Int32)) % (7 : Int32)) = (2 : Int32)) :
    MetFree l x (head1 (Jvm.Cond.code x code maxLocals ret :: ws) room_1) (fun a U => a = #[(.int p1)] ∧ Z.Warmed39 U.vm ∧ U.heap = h0) (fun _ _ _ _ _ => True) (fun _ U o U' => ∃ v L, o = .returned v ∧ Q0 h0 n0 v U'.heap L ∧ FrameEnd U o U' L room_1.cells room_1.slots) := by
  have hnz6 : ¬ ((7 : Int32) = (0 : Int32)) := by decide
  refine MetFree.of_bodySF (plainFor_of_name pn_0) hisR ?_
  intro p e s m args below meth c s₁ Bd hml0 hP hK
  have WW0 := WW
  obtain ⟨S_NONE, S_WAITS, S_WAITS_NO_MORE, S_FALLS_DUE_AFTER_WAITING, S_WAITS_AGAIN, S_FALLS_DUE, S_TAKEN_BACK, S_VALUES, E_NONE, E_WAITS, E_WAITS_NO_MORE, E_FALLS_DUE_AFTER_WAITING, E_WAITS_AGAIN, E_FALLS_DUE, E_TAKEN_BACK, E_VALUES, Fw_NONE, Fw_WAITS, Fw_WAITS_NO_MORE, Fw_FALLS_DUE_AFTER_WAITING, Fw_WAITS_AGAIN, Fw_FALLS_DUE, Fw_TAKEN_BACK, Fd_NONE, Fd_WAITS, Fd_WAITS_NO_MORE, Fd_FALLS_DUE_AFTER_WAITING, Fd_WAITS_AGAIN, Fd_FALLS_DUE, Fd_TAKEN_BACK, V_VALUES⟩ := WW0
  obtain ⟨rfl, hZ, hh⟩ := hP
  have hx := Bd.exec
  have hby := Bd.bytes
  have hml : c.maxLocals = 4 := hml0
  have hown : s.vm.findClass "com/example/acompte/acompte/VatOppositePinLaw" = some m.cls := findClass_of_methodNamed Bd.named
  have hnm := (name_of_methodNamed Bd.named Bd.method).1
  have X0 : Stand p l e room_1 s m #[(.int p1)] below meth c s₁ [] 0 0 := Stand.of_body Bd
  have e0 : s₁.heap = h0 := by rw [← hh, Bd.state]; rfl
  have N0 := Fr.nil n0
  have pre0 : ∀ t, Steps p.tables e below (s₁.setTop (mkF m 0 #[.val (.int p1), .unset, .unset, .unset] [])) t → Steps p.tables e below (s₁.setTop (entryFrame m #[(.int p1)] maxLocals)) t := fun t k => castTop (ef_0 m p1) k
  -- 3. LAWS
  -- pc 9: com/example/acompte/acompte/VatOppositePinLaw.pick by its contract rm1
  obtain ⟨_, _, ⟨T2, L2, k2, n2⟩, -, X2, ⟨Lc2, hQ2, l2, y2, z2⟩, st2⟩ := Jvm.LawKit.callS X0 hx (y := (⟨"com/example/acompte/acompte/VatOppositePinLaw", "pick", "(I)Lcom/example/acompte/acompte/DocumentKind$Vat;"⟩ : MethodName)) hown (mvT hZ (hw _ (List.mem_of_getElem? (i := 1) rfl))) (mvT hZ (hw _ (List.mem_of_getElem? (i := 2) rfl))) (mvT hZ (hw _ (List.mem_of_getElem? (i := 3) rfl))) (mvT hZ (hw _ (List.mem_of_getElem? (i := 4) rfl))) (by decide) (backOf (W := 0) (rm1_k2 l Z a0 hw [] ((p1 &&& (2147483647 : Int32)) % (7 : Int32)) a_NONE a_WAITS a_WAITS_NO_MORE a_FALLS_DUE_AFTER_WAITING a_WAITS_AGAIN a_FALLS_DUE a_TAKEN_BACK a_VALUES kV h0 n0 Z0 WW (by rw [hi] <;> decide) (by rw [hi] <;> decide) (by rw [hi] <;> decide)) hZ (hw _ (List.mem_of_getElem? (i := 4) rfl)) (hw _ (List.mem_of_getElem? (i := 3) rfl)) (by decide) (by decide)) (g := (mkF m 9 #[.val (.int p1), .val (.int ((p1 &&& (2147483647 : Int32)) % (7 : Int32))), .unset, .unset] [(.int ((p1 &&& (2147483647 : Int32)) % (7 : Int32)))])) rfl (by rw [hml]; rfl) (argsL := [(.int ((p1 &&& (2147483647 : Int32)) % (7 : Int32)))]) (rest := []) (lenOf pdw_2 rfl) rfl (by show 2 * 0 + _ ≤ _; exact Nat.le_of_eq rfl) (hb hby at_9) (fun _ _ => ⟨rfl, e0, (by decide : 0 + 0 ≤ _), (by decide : 0 + 0 ≤ _)⟩)
  dsimp only [Pt.U, Pt.locs, Pt.cells, Pt.slots] at X2 l2 y2 z2 st2 hQ2
  subst l2 y2 z2
  obtain ⟨rfl, N2q, hh2⟩ := hQ2
  have N2 := Fr.app N0 N2q
  -- pc 14: com/example/acompte/acompte/DocumentKind$Vat.opposite by the contract of the body that the receiver's class selects, rm2
  obtain ⟨cq3, kq3, q3a, q3b, q3c⟩ := isOf hZ hh2 (E_WAITS_NO_MORE)
  obtain ⟨_, _, ⟨T3, L3, k3, n3⟩, -, X3, ⟨Lc3, hQ3, l3, y3, z3⟩, st3⟩ := X2.virtualBack hx (y := (⟨"com/example/acompte/acompte/DocumentKind$Vat", "opposite", "()Lcom/example/acompte/acompte/DocumentKind$Vat;"⟩ : MethodName)) (z := (⟨"com/example/acompte/acompte/DocumentKind$Vat", "opposite", "()Lcom/example/acompte/acompte/DocumentKind$Vat;"⟩ : MethodName)) hown (mvT hZ (hw _ (List.mem_of_getElem? (i := 8) rfl))) (mvT hZ (hw _ (List.mem_of_getElem? (i := 9) rfl))) (notFace_of_selects (args := #[]) (mvT hZ (hw _ (List.mem_of_getElem? (i := 11) rfl)))) (mvT hZ (hw _ (List.mem_of_getElem? (i := 11) rfl))) (mvT hZ (hw _ (List.mem_of_getElem? (i := 10) rfl))) (by decide) (backOf (W := 0) (rm2_r2 l Z a0 hw [] a_NONE a_WAITS a_WAITS_NO_MORE a_FALLS_DUE_AFTER_WAITING a_WAITS_AGAIN a_FALLS_DUE a_TAKEN_BACK a_VALUES kV h0 n0 Z0 WW) hZ (hw _ (List.mem_of_getElem? (i := 12) rfl)) (hw _ (List.mem_of_getElem? (i := 6) rfl)) (by decide) (by decide)) q3a q3c (g := (mkF m 14 #[.val (.int p1), .val (.int ((p1 &&& (2147483647 : Int32)) % (7 : Int32))), .val (.ref a_WAITS_NO_MORE), .unset] [(.ref a_WAITS_NO_MORE)])) rfl (by rw [hml]; rfl) (Steps.refl _) (argsL := []) (rest := []) (lenOf pdw_3 rfl) rfl (by show 2 * 0 + _ ≤ _; exact Nat.le_of_eq rfl) (hb hby at_14) (fun _ _ => ⟨rfl, hh2, (by decide : 0 + 1 ≤ _), (by decide : 0 + 7 ≤ _)⟩)
  dsimp only [Pt.U, Pt.locs, Pt.cells, Pt.slots] at X3 l3 y3 z3 st3 hQ3
  subst l3 y3 z3
  obtain ⟨rfl, N3q, Ex2⟩ := hQ3
  have WW2 := WW.ext Ex2
  have Zh2 : n0 ≤ T3.heap.size := Nat.le_trans Z0 Ex2.1
  have WW3 := WW2
  obtain ⟨S_NONE, S_WAITS, S_WAITS_NO_MORE, S_FALLS_DUE_AFTER_WAITING, S_WAITS_AGAIN, S_FALLS_DUE, S_TAKEN_BACK, S_VALUES, E_NONE, E_WAITS, E_WAITS_NO_MORE, E_FALLS_DUE_AFTER_WAITING, E_WAITS_AGAIN, E_FALLS_DUE, E_TAKEN_BACK, E_VALUES, Fw_NONE, Fw_WAITS, Fw_WAITS_NO_MORE, Fw_FALLS_DUE_AFTER_WAITING, Fw_WAITS_AGAIN, Fw_FALLS_DUE, Fw_TAKEN_BACK, Fd_NONE, Fd_WAITS, Fd_WAITS_NO_MORE, Fd_FALLS_DUE_AFTER_WAITING, Fd_WAITS_AGAIN, Fd_FALLS_DUE, Fd_TAKEN_BACK, V_VALUES⟩ := WW3
  have N3 := Fr.app N2 N3q
  -- pc 26: com/example/acompte/acompte/VatOppositePinLaw.expected by its contract rm4
  obtain ⟨_, _, ⟨T4, L4, k4, n4⟩, -, X4, ⟨Lc4, hQ4, l4, y4, z4⟩, st4⟩ := Jvm.LawKit.callS X3 hx (y := (⟨"com/example/acompte/acompte/VatOppositePinLaw", "expected", "(I)Lcom/example/acompte/acompte/DocumentKind$Vat;"⟩ : MethodName)) hown (mvT hZ (hw _ (List.mem_of_getElem? (i := 38) rfl))) (mvT hZ (hw _ (List.mem_of_getElem? (i := 39) rfl))) (mvT hZ (hw _ (List.mem_of_getElem? (i := 3) rfl))) (mvT hZ (hw _ (List.mem_of_getElem? (i := 40) rfl))) (by decide) (backOf (W := 1) (rm4_k2 l Z a0 hw [] ((p1 &&& (2147483647 : Int32)) % (7 : Int32)) a_NONE a_WAITS a_WAITS_NO_MORE a_FALLS_DUE_AFTER_WAITING a_WAITS_AGAIN a_FALLS_DUE a_TAKEN_BACK a_VALUES kV T3.heap n0 Zh2 WW2 (by rw [hi] <;> decide) (by rw [hi] <;> decide) (by rw [hi] <;> decide)) hZ (hw _ (List.mem_of_getElem? (i := 40) rfl)) (hw _ (List.mem_of_getElem? (i := 3) rfl)) (by decide) (by decide)) (g := (mkF m 26 #[.val (.int p1), .val (.int ((p1 &&& (2147483647 : Int32)) % (7 : Int32))), .val (.ref a_WAITS_NO_MORE), .val (.ref a_WAITS)] [(.int ((p1 &&& (2147483647 : Int32)) % (7 : Int32))), (.ref a_WAITS)])) rfl (by rw [hml]; rfl) (argsL := [(.int ((p1 &&& (2147483647 : Int32)) % (7 : Int32)))]) (rest := [(.ref a_WAITS)]) (lenOf pdw_2 rfl) rfl (by show 2 * 0 + _ ≤ _; exact Nat.le_of_eq rfl) (hb hby at_26) (fun _ _ => ⟨rfl, rfl, (by decide : 1 + 0 ≤ _), (by decide : 7 + 0 ≤ _)⟩)
  dsimp only [Pt.U, Pt.locs, Pt.cells, Pt.slots] at X4 l4 y4 z4 st4 hQ4
  subst l4 y4 z4
  obtain ⟨rfl, N4q, hh4⟩ := hQ4
  have N4 := Fr.app N3 N4q
  -- pc 35: com/example/acompte/acompte/DocumentKind$Vat.waiting by the contract of the body that the receiver's class selects, rm5
  obtain ⟨cq5, kq5, q5a, q5b, q5c⟩ := isOf hZ hh4 (((E_WAITS)))
  obtain ⟨_, _, ⟨T5, L5, k5, n5⟩, -, X5, ⟨Lc5, hQ5, l5, y5, z5⟩, st5⟩ := X4.virtualBack hx (y := (⟨"com/example/acompte/acompte/DocumentKind$Vat", "waiting", "()I"⟩ : MethodName)) (z := (⟨"com/example/acompte/acompte/DocumentKind$Vat", "waiting", "()I"⟩ : MethodName)) hown (mvT hZ (hw _ (List.mem_of_getElem? (i := 41) rfl))) (mvT hZ (hw _ (List.mem_of_getElem? (i := 42) rfl))) (notFace_of_selects (args := #[]) (mvT hZ (hw _ (List.mem_of_getElem? (i := 44) rfl)))) (mvT hZ (hw _ (List.mem_of_getElem? (i := 44) rfl))) (mvT hZ (hw _ (List.mem_of_getElem? (i := 43) rfl))) (by decide) (backOf (W := 0) (rm5 l Z a0 hw [] a_WAITS (1 : Int32) T3.heap n0 Zh2 Fw_WAITS) hZ (hw _ (List.mem_of_getElem? (i := 45) rfl)) (hw _ (List.mem_of_getElem? (i := 6) rfl)) (by decide) (by decide)) q5a q5c (g := (mkF m 35 #[.val (.int p1), .val (.int ((p1 &&& (2147483647 : Int32)) % (7 : Int32))), .val (.ref a_WAITS_NO_MORE), .val (.ref a_WAITS)] [(.ref a_WAITS)])) rfl (by rw [hml]; rfl) (Steps.refl _) (argsL := []) (rest := []) (lenOf pdw_4 rfl) rfl (by show 2 * 0 + _ ≤ _; exact Nat.le_of_eq rfl) (hb hby at_35) (fun _ _ => ⟨rfl, hh4, (by decide : 1 + 0 ≤ _), (by decide : 7 + 0 ≤ _)⟩)
  dsimp only [Pt.U, Pt.locs, Pt.cells, Pt.slots] at X5 l5 y5 z5 st5 hQ5
  subst l5 y5 z5
  obtain ⟨rfl, N5q, hh5⟩ := hQ5
  have N5 := Fr.app N4 N5q
  -- pc 39: com/example/acompte/acompte/DocumentKind$Vat.waiting by the contract of the body that the receiver's class selects, rm5
  obtain ⟨cq6, kq6, q6a, q6b, q6c⟩ := isOf hZ hh5 ((((E_WAITS_NO_MORE))))
  obtain ⟨_, _, ⟨T6, L6, k6, n6⟩, -, X6, ⟨Lc6, hQ6, l6, y6, z6⟩, st6⟩ := X5.virtualBack hx (y := (⟨"com/example/acompte/acompte/DocumentKind$Vat", "waiting", "()I"⟩ : MethodName)) (z := (⟨"com/example/acompte/acompte/DocumentKind$Vat", "waiting", "()I"⟩ : MethodName)) hown (mvT hZ (hw _ (List.mem_of_getElem? (i := 41) rfl))) (mvT hZ (hw _ (List.mem_of_getElem? (i := 42) rfl))) (notFace_of_selects (args := #[]) (mvT hZ (hw _ (List.mem_of_getElem? (i := 44) rfl)))) (mvT hZ (hw _ (List.mem_of_getElem? (i := 44) rfl))) (mvT hZ (hw _ (List.mem_of_getElem? (i := 43) rfl))) (by decide) (backOf (W := 1) (rm5 l Z a0 hw [] a_WAITS_NO_MORE (-1 : Int32) T3.heap n0 Zh2 Fw_WAITS_NO_MORE) hZ (hw _ (List.mem_of_getElem? (i := 45) rfl)) (hw _ (List.mem_of_getElem? (i := 6) rfl)) (by decide) (by decide)) q6a q6c (g := (mkF m 39 #[.val (.int p1), .val (.int ((p1 &&& (2147483647 : Int32)) % (7 : Int32))), .val (.ref a_WAITS_NO_MORE), .val (.ref a_WAITS)] [(.ref a_WAITS_NO_MORE), (.int (1 : Int32))])) rfl (by rw [hml]; rfl) (Steps.refl _) (argsL := []) (rest := [(.int (1 : Int32))]) (lenOf pdw_4 rfl) rfl (by show 2 * 0 + _ ≤ _; exact Nat.le_of_eq rfl) (hb hby at_39) (fun _ _ => ⟨rfl, hh5, (by decide : 1 + 0 ≤ _), (by decide : 7 + 0 ≤ _)⟩)
  dsimp only [Pt.U, Pt.locs, Pt.cells, Pt.slots] at X6 l6 y6 z6 st6 hQ6
  subst l6 y6 z6
  obtain ⟨rfl, N6q, hh6⟩ := hQ6
  have N6 := Fr.app N5 N6q
  -- pc 47: com/example/acompte/acompte/DocumentKind$Vat.due by the contract of the body that the receiver's class selects, rm6
  obtain ⟨cq7, kq7, q7a, q7b, q7c⟩ := isOf hZ hh6 (((((E_WAITS)))))
  obtain ⟨_, _, ⟨T7, L7, k7, n7⟩, -, X7, ⟨Lc7, hQ7, l7, y7, z7⟩, st7⟩ := X6.virtualBack hx (y := (⟨"com/example/acompte/acompte/DocumentKind$Vat", "due", "()I"⟩ : MethodName)) (z := (⟨"com/example/acompte/acompte/DocumentKind$Vat", "due", "()I"⟩ : MethodName)) hown (mvT hZ (hw _ (List.mem_of_getElem? (i := 46) rfl))) (mvT hZ (hw _ (List.mem_of_getElem? (i := 47) rfl))) (notFace_of_selects (args := #[]) (mvT hZ (hw _ (List.mem_of_getElem? (i := 49) rfl)))) (mvT hZ (hw _ (List.mem_of_getElem? (i := 49) rfl))) (mvT hZ (hw _ (List.mem_of_getElem? (i := 48) rfl))) (by decide) (backOf (W := 0) (rm6 l Z a0 hw [] a_WAITS (0 : Int32) T3.heap n0 Zh2 Fd_WAITS) hZ (hw _ (List.mem_of_getElem? (i := 50) rfl)) (hw _ (List.mem_of_getElem? (i := 6) rfl)) (by decide) (by decide)) q7a q7c (g := (mkF m 47 #[.val (.int p1), .val (.int ((p1 &&& (2147483647 : Int32)) % (7 : Int32))), .val (.ref a_WAITS_NO_MORE), .val (.ref a_WAITS)] [(.ref a_WAITS)])) rfl (by rw [hml]; rfl) (Steps.refl _) (argsL := []) (rest := []) (lenOf pdw_4 rfl) rfl (by show 2 * 0 + _ ≤ _; exact Nat.le_of_eq rfl) (hb hby at_47) (fun _ _ => ⟨rfl, hh6, (by decide : 1 + 0 ≤ _), (by decide : 7 + 0 ≤ _)⟩)
  dsimp only [Pt.U, Pt.locs, Pt.cells, Pt.slots] at X7 l7 y7 z7 st7 hQ7
  subst l7 y7 z7
  obtain ⟨rfl, N7q, hh7⟩ := hQ7
  have N7 := Fr.app N6 N7q
  -- pc 51: com/example/acompte/acompte/DocumentKind$Vat.due by the contract of the body that the receiver's class selects, rm6
  obtain ⟨cq8, kq8, q8a, q8b, q8c⟩ := isOf hZ hh7 ((((((E_WAITS_NO_MORE))))))
  obtain ⟨_, _, ⟨T8, L8, k8, n8⟩, -, X8, ⟨Lc8, hQ8, l8, y8, z8⟩, st8⟩ := X7.virtualBack hx (y := (⟨"com/example/acompte/acompte/DocumentKind$Vat", "due", "()I"⟩ : MethodName)) (z := (⟨"com/example/acompte/acompte/DocumentKind$Vat", "due", "()I"⟩ : MethodName)) hown (mvT hZ (hw _ (List.mem_of_getElem? (i := 46) rfl))) (mvT hZ (hw _ (List.mem_of_getElem? (i := 47) rfl))) (notFace_of_selects (args := #[]) (mvT hZ (hw _ (List.mem_of_getElem? (i := 49) rfl)))) (mvT hZ (hw _ (List.mem_of_getElem? (i := 49) rfl))) (mvT hZ (hw _ (List.mem_of_getElem? (i := 48) rfl))) (by decide) (backOf (W := 1) (rm6 l Z a0 hw [] a_WAITS_NO_MORE (0 : Int32) T3.heap n0 Zh2 Fd_WAITS_NO_MORE) hZ (hw _ (List.mem_of_getElem? (i := 50) rfl)) (hw _ (List.mem_of_getElem? (i := 6) rfl)) (by decide) (by decide)) q8a q8c (g := (mkF m 51 #[.val (.int p1), .val (.int ((p1 &&& (2147483647 : Int32)) % (7 : Int32))), .val (.ref a_WAITS_NO_MORE), .val (.ref a_WAITS)] [(.ref a_WAITS_NO_MORE), (.int (0 : Int32))])) rfl (by rw [hml]; rfl) (Steps.refl _) (argsL := []) (rest := [(.int (0 : Int32))]) (lenOf pdw_4 rfl) rfl (by show 2 * 0 + _ ≤ _; exact Nat.le_of_eq rfl) (hb hby at_51) (fun _ _ => ⟨rfl, hh7, (by decide : 1 + 0 ≤ _), (by decide : 7 + 0 ≤ _)⟩)
  dsimp only [Pt.U, Pt.locs, Pt.cells, Pt.slots] at X8 l8 y8 z8 st8 hQ8
  subst l8 y8 z8
  obtain ⟨rfl, N8q, hh8⟩ := hQ8
  have N8 := Fr.app N7 N8q
  obtain ⟨fs, hr, hrun, hended, hW, hsame⟩ := X8.leave (v := some (.int (1 : Int32))) (fun h => by rw [Bd.returns] at h; cases h)
  refine ⟨_, _, pre0 _ ?_, hrun, hended, _, _, rfl, ?_, ⟨_, rfl⟩, hW, hsame.mono (by decide) (by decide)⟩
  -- 4. STEPS
  · show Steps p.tables e below (s₁.setTop (mkF m 0 #[.val (.int p1), .unset, .unset, .unset] [])) _
    refine XS.iloadN X0.here hx rfl (hb hby at_0) rfl ?_
    show Steps p.tables e below (s₁.setTop (mkF m 1 #[.val (.int p1), .unset, .unset, .unset] [(.int p1)])) _
    refine X0.ldcInt hx hown (mvT hZ (hw _ (List.mem_of_getElem? (i := 0) rfl))) (g := (mkF m 1 #[.val (.int p1), .unset, .unset, .unset] [(.int p1)])) rfl (hb hby at_1) _ ?_
    show Steps p.tables e below (s₁.setTop (mkF m 3 #[.val (.int p1), .unset, .unset, .unset] [(.int (2147483647 : Int32)), (.int p1)])) _
    refine XS.iand X0.here hx rfl (hb hby at_3) rfl ?_
    show Steps p.tables e below (s₁.setTop (mkF m 4 #[.val (.int p1), .unset, .unset, .unset] [(.int (p1 &&& (2147483647 : Int32)))])) _
    refine XS.bipush X0.here hx rfl (hb hby at_4) ?_
    show Steps p.tables e below (s₁.setTop (mkF m 6 #[.val (.int p1), .unset, .unset, .unset] [(.int (7 : Int32)), (.int (p1 &&& (2147483647 : Int32)))])) _
    refine own_irem X0.here hx rfl (hb hby at_6) rfl hnz6 ?_
    show Steps p.tables e below (s₁.setTop (mkF m 7 #[.val (.int p1), .unset, .unset, .unset] [(.int ((p1 &&& (2147483647 : Int32)) % (7 : Int32)))])) _
    refine XS.istoreN X0.here hx rfl (hb hby at_7) rfl (l' := #[.val (.int p1), .val (.int ((p1 &&& (2147483647 : Int32)) % (7 : Int32))), .unset, .unset]) rfl ?_
    show Steps p.tables e below (s₁.setTop (mkF m 8 #[.val (.int p1), .val (.int ((p1 &&& (2147483647 : Int32)) % (7 : Int32))), .unset, .unset] [])) _
    refine XS.iloadN X0.here hx rfl (hb hby at_8) rfl ?_
    show Steps p.tables e below (s₁.setTop (mkF m 9 #[.val (.int p1), .val (.int ((p1 &&& (2147483647 : Int32)) % (7 : Int32))), .unset, .unset] [(.int ((p1 &&& (2147483647 : Int32)) % (7 : Int32)))])) _
    refine st2 _ ?_
    show Steps p.tables e below (T2.setTop (mkF m 12 #[.val (.int p1), .val (.int ((p1 &&& (2147483647 : Int32)) % (7 : Int32))), .unset, .unset] [(.ref a_WAITS_NO_MORE)])) _
    refine XS.astoreN X2.here hx rfl (hb hby at_12) rfl rfl (l' := #[.val (.int p1), .val (.int ((p1 &&& (2147483647 : Int32)) % (7 : Int32))), .val (.ref a_WAITS_NO_MORE), .unset]) rfl ?_
    show Steps p.tables e below (T2.setTop (mkF m 13 #[.val (.int p1), .val (.int ((p1 &&& (2147483647 : Int32)) % (7 : Int32))), .val (.ref a_WAITS_NO_MORE), .unset] [])) _
    refine XS.aloadN X2.here hx rfl (hb hby at_13) rfl rfl ?_
    show Steps p.tables e below (T2.setTop (mkF m 14 #[.val (.int p1), .val (.int ((p1 &&& (2147483647 : Int32)) % (7 : Int32))), .val (.ref a_WAITS_NO_MORE), .unset] [(.ref a_WAITS_NO_MORE)])) _
    refine st3.trans ?_
    show Steps p.tables e below (T3.setTop (mkF m 17 #[.val (.int p1), .val (.int ((p1 &&& (2147483647 : Int32)) % (7 : Int32))), .val (.ref a_WAITS_NO_MORE), .unset] [(.ref a_WAITS)])) _
    refine XS.astoreN X3.here hx rfl (hb hby at_17) rfl rfl (l' := #[.val (.int p1), .val (.int ((p1 &&& (2147483647 : Int32)) % (7 : Int32))), .val (.ref a_WAITS_NO_MORE), .val (.ref a_WAITS)]) rfl ?_
    show Steps p.tables e below (T3.setTop (mkF m 18 #[.val (.int p1), .val (.int ((p1 &&& (2147483647 : Int32)) % (7 : Int32))), .val (.ref a_WAITS_NO_MORE), .val (.ref a_WAITS)] [])) _
    refine XS.aloadN X3.here hx rfl (hb hby at_18) rfl rfl ?_
    show Steps p.tables e below (T3.setTop (mkF m 19 #[.val (.int p1), .val (.int ((p1 &&& (2147483647 : Int32)) % (7 : Int32))), .val (.ref a_WAITS_NO_MORE), .val (.ref a_WAITS)] [(.ref a_WAITS)])) _
    refine XS.ifnonnullYes X3.here hx rfl (pc0 := 19) (pc' := 24) rfl (hb hby at_19) rfl (by decide) (by decide) ?_
    show Steps p.tables e below (T3.setTop (mkF m 24 #[.val (.int p1), .val (.int ((p1 &&& (2147483647 : Int32)) % (7 : Int32))), .val (.ref a_WAITS_NO_MORE), .val (.ref a_WAITS)] [])) _
    refine XS.aloadN X3.here hx rfl (hb hby at_24) rfl rfl ?_
    show Steps p.tables e below (T3.setTop (mkF m 25 #[.val (.int p1), .val (.int ((p1 &&& (2147483647 : Int32)) % (7 : Int32))), .val (.ref a_WAITS_NO_MORE), .val (.ref a_WAITS)] [(.ref a_WAITS)])) _
    refine XS.iloadN X3.here hx rfl (hb hby at_25) rfl ?_
    show Steps p.tables e below (T3.setTop (mkF m 26 #[.val (.int p1), .val (.int ((p1 &&& (2147483647 : Int32)) % (7 : Int32))), .val (.ref a_WAITS_NO_MORE), .val (.ref a_WAITS)] [(.int ((p1 &&& (2147483647 : Int32)) % (7 : Int32))), (.ref a_WAITS)])) _
    refine st4 _ ?_
    show Steps p.tables e below (T4.setTop (mkF m 29 #[.val (.int p1), .val (.int ((p1 &&& (2147483647 : Int32)) % (7 : Int32))), .val (.ref a_WAITS_NO_MORE), .val (.ref a_WAITS)] [(.ref a_WAITS), (.ref a_WAITS)])) _
    refine Jvm.RoadKit.acmp (g := (mkF m 29 #[.val (.int p1), .val (.int ((p1 &&& (2147483647 : Int32)) % (7 : Int32))), .val (.ref a_WAITS_NO_MORE), .val (.ref a_WAITS)] [(.ref a_WAITS), (.ref a_WAITS)])) X4 hx rfl rfl rfl (pc0 := 29) (pc' := 34) (same := true) rfl (hb hby at_29) rfl (decide_eq_true (congrArg Value.ref rfl)) (by decide) (by decide) ?_
    show Steps p.tables e below (T4.setTop (mkF m 34 #[.val (.int p1), .val (.int ((p1 &&& (2147483647 : Int32)) % (7 : Int32))), .val (.ref a_WAITS_NO_MORE), .val (.ref a_WAITS)] [])) _
    refine XS.aloadN X4.here hx rfl (hb hby at_34) rfl rfl ?_
    show Steps p.tables e below (T4.setTop (mkF m 35 #[.val (.int p1), .val (.int ((p1 &&& (2147483647 : Int32)) % (7 : Int32))), .val (.ref a_WAITS_NO_MORE), .val (.ref a_WAITS)] [(.ref a_WAITS)])) _
    refine st5.trans ?_
    show Steps p.tables e below (T5.setTop (mkF m 38 #[.val (.int p1), .val (.int ((p1 &&& (2147483647 : Int32)) % (7 : Int32))), .val (.ref a_WAITS_NO_MORE), .val (.ref a_WAITS)] [(.int (1 : Int32))])) _
    refine XS.aloadN X5.here hx rfl (hb hby at_38) rfl rfl ?_
    show Steps p.tables e below (T5.setTop (mkF m 39 #[.val (.int p1), .val (.int ((p1 &&& (2147483647 : Int32)) % (7 : Int32))), .val (.ref a_WAITS_NO_MORE), .val (.ref a_WAITS)] [(.ref a_WAITS_NO_MORE), (.int (1 : Int32))])) _
    refine st6.trans ?_
    show Steps p.tables e below (T6.setTop (mkF m 42 #[.val (.int p1), .val (.int ((p1 &&& (2147483647 : Int32)) % (7 : Int32))), .val (.ref a_WAITS_NO_MORE), .val (.ref a_WAITS)] [(.int (-1 : Int32)), (.int (1 : Int32))])) _
    refine XS.ineg X6.here hx rfl (hb hby at_42) rfl ?_
    show Steps p.tables e below (T6.setTop (mkF m 43 #[.val (.int p1), .val (.int ((p1 &&& (2147483647 : Int32)) % (7 : Int32))), .val (.ref a_WAITS_NO_MORE), .val (.ref a_WAITS)] [(.int (-(-1 : Int32))), (.int (1 : Int32))])) _
    refine XS.icmpNo X6.here hx rfl (hb hby at_43) rfl (teq (by first | rfl | decide : (1 : Int32) = (-(-1 : Int32)))).2 ?_
    show Steps p.tables e below (T6.setTop (mkF m 46 #[.val (.int p1), .val (.int ((p1 &&& (2147483647 : Int32)) % (7 : Int32))), .val (.ref a_WAITS_NO_MORE), .val (.ref a_WAITS)] [])) _
    refine XS.aloadN X6.here hx rfl (hb hby at_46) rfl rfl ?_
    show Steps p.tables e below (T6.setTop (mkF m 47 #[.val (.int p1), .val (.int ((p1 &&& (2147483647 : Int32)) % (7 : Int32))), .val (.ref a_WAITS_NO_MORE), .val (.ref a_WAITS)] [(.ref a_WAITS)])) _
    refine st7.trans ?_
    show Steps p.tables e below (T7.setTop (mkF m 50 #[.val (.int p1), .val (.int ((p1 &&& (2147483647 : Int32)) % (7 : Int32))), .val (.ref a_WAITS_NO_MORE), .val (.ref a_WAITS)] [(.int (0 : Int32))])) _
    refine XS.aloadN X7.here hx rfl (hb hby at_50) rfl rfl ?_
    show Steps p.tables e below (T7.setTop (mkF m 51 #[.val (.int p1), .val (.int ((p1 &&& (2147483647 : Int32)) % (7 : Int32))), .val (.ref a_WAITS_NO_MORE), .val (.ref a_WAITS)] [(.ref a_WAITS_NO_MORE), (.int (0 : Int32))])) _
    refine st8.trans ?_
    show Steps p.tables e below (T8.setTop (mkF m 54 #[.val (.int p1), .val (.int ((p1 &&& (2147483647 : Int32)) % (7 : Int32))), .val (.ref a_WAITS_NO_MORE), .val (.ref a_WAITS)] [(.int (0 : Int32)), (.int (0 : Int32))])) _
    refine XS.ineg X8.here hx rfl (hb hby at_54) rfl ?_
    show Steps p.tables e below (T8.setTop (mkF m 55 #[.val (.int p1), .val (.int ((p1 &&& (2147483647 : Int32)) % (7 : Int32))), .val (.ref a_WAITS_NO_MORE), .val (.ref a_WAITS)] [(.int (-(0 : Int32))), (.int (0 : Int32))])) _
    refine XS.icmpNo X8.here hx rfl (hb hby at_55) rfl (teq (by first | rfl | decide : (0 : Int32) = (-(0 : Int32)))).2 ?_
    show Steps p.tables e below (T8.setTop (mkF m 58 #[.val (.int p1), .val (.int ((p1 &&& (2147483647 : Int32)) % (7 : Int32))), .val (.ref a_WAITS_NO_MORE), .val (.ref a_WAITS)] [])) _
    refine XS.iconst X8.here hx rfl (hb hby at_58) ?_
    show Steps p.tables e below (T8.setTop (mkF m 59 #[.val (.int p1), .val (.int ((p1 &&& (2147483647 : Int32)) % (7 : Int32))), .val (.ref a_WAITS_NO_MORE), .val (.ref a_WAITS)] [(.int (1 : Int32))])) _
    refine XS.goto X8.here hx rfl (pc0 := 59) (pc' := 63) rfl (hb hby at_59) (by decide) (by decide) ?_
    show Steps p.tables e below (T8.setTop (mkF m 63 #[.val (.int p1), .val (.int ((p1 &&& (2147483647 : Int32)) % (7 : Int32))), .val (.ref a_WAITS_NO_MORE), .val (.ref a_WAITS)] [(.int (1 : Int32))])) _
    exact retN X8 hx (t := .boolean) Bd.returns (by simp) (hb hby at_63) hr
  · show Q0 h0 n0 _ T8.heap _
    exact ⟨rfl, N8⟩
set_option maxRecDepth 65536 in
set_option maxHeartbeats 40000000 in
theorem rm0_i3 (l : Launch) (Z : State) (a0 : Array Value) (hw : ∀ d ∈ tables_1, d.before a0 Z = true) (ws : List Jvm.Cond) (p1 : Int32) (a_NONE a_WAITS a_WAITS_NO_MORE a_FALLS_DUE_AFTER_WAITING a_WAITS_AGAIN a_FALLS_DUE a_TAKEN_BACK a_VALUES : Addr) (kV : ClassId) (h0 : Heap) (n0 : Nat) (Z0 : n0 ≤ h0.size) (WW : Own Z h0 a_NONE a_WAITS a_WAITS_NO_MORE a_FALLS_DUE_AFTER_WAITING a_WAITS_AGAIN a_FALLS_DUE a_TAKEN_BACK a_VALUES kV) (hi : ((p1 &&& (2147483647 : Int32)) % (7 : Int32)) = (3 : Int32)) :
    MetFree l x (head1 (Jvm.Cond.code x code maxLocals ret :: ws) room_1) (fun a U => a = #[(.int p1)] ∧ Z.Warmed39 U.vm ∧ U.heap = h0) (fun _ _ _ _ _ => True) (fun _ U o U' => ∃ v L, o = .returned v ∧ Q0 h0 n0 v U'.heap L ∧ FrameEnd U o U' L room_1.cells room_1.slots) := by
  have hnz6 : ¬ ((7 : Int32) = (0 : Int32)) := by decide
  refine MetFree.of_bodySF (plainFor_of_name pn_0) hisR ?_
  intro p e s m args below meth c s₁ Bd hml0 hP hK
  have WW0 := WW
  obtain ⟨S_NONE, S_WAITS, S_WAITS_NO_MORE, S_FALLS_DUE_AFTER_WAITING, S_WAITS_AGAIN, S_FALLS_DUE, S_TAKEN_BACK, S_VALUES, E_NONE, E_WAITS, E_WAITS_NO_MORE, E_FALLS_DUE_AFTER_WAITING, E_WAITS_AGAIN, E_FALLS_DUE, E_TAKEN_BACK, E_VALUES, Fw_NONE, Fw_WAITS, Fw_WAITS_NO_MORE, Fw_FALLS_DUE_AFTER_WAITING, Fw_WAITS_AGAIN, Fw_FALLS_DUE, Fw_TAKEN_BACK, Fd_NONE, Fd_WAITS, Fd_WAITS_NO_MORE, Fd_FALLS_DUE_AFTER_WAITING, Fd_WAITS_AGAIN, Fd_FALLS_DUE, Fd_TAKEN_BACK, V_VALUES⟩ := WW0
  obtain ⟨rfl, hZ, hh⟩ := hP
  have hx := Bd.exec
  have hby := Bd.bytes
  have hml : c.maxLocals = 4 := hml0
  have hown : s.vm.findClass "com/example/acompte/acompte/VatOppositePinLaw" = some m.cls := findClass_of_methodNamed Bd.named
  have hnm := (name_of_methodNamed Bd.named Bd.method).1
  have X0 : Stand p l e room_1 s m #[(.int p1)] below meth c s₁ [] 0 0 := Stand.of_body Bd
  have e0 : s₁.heap = h0 := by rw [← hh, Bd.state]; rfl
  have N0 := Fr.nil n0
  have pre0 : ∀ t, Steps p.tables e below (s₁.setTop (mkF m 0 #[.val (.int p1), .unset, .unset, .unset] [])) t → Steps p.tables e below (s₁.setTop (entryFrame m #[(.int p1)] maxLocals)) t := fun t k => castTop (ef_0 m p1) k
  -- 3. LAWS
  -- pc 9: com/example/acompte/acompte/VatOppositePinLaw.pick by its contract rm1
  obtain ⟨_, _, ⟨T2, L2, k2, n2⟩, -, X2, ⟨Lc2, hQ2, l2, y2, z2⟩, st2⟩ := Jvm.LawKit.callS X0 hx (y := (⟨"com/example/acompte/acompte/VatOppositePinLaw", "pick", "(I)Lcom/example/acompte/acompte/DocumentKind$Vat;"⟩ : MethodName)) hown (mvT hZ (hw _ (List.mem_of_getElem? (i := 1) rfl))) (mvT hZ (hw _ (List.mem_of_getElem? (i := 2) rfl))) (mvT hZ (hw _ (List.mem_of_getElem? (i := 3) rfl))) (mvT hZ (hw _ (List.mem_of_getElem? (i := 4) rfl))) (by decide) (backOf (W := 0) (rm1_k3 l Z a0 hw [] ((p1 &&& (2147483647 : Int32)) % (7 : Int32)) a_NONE a_WAITS a_WAITS_NO_MORE a_FALLS_DUE_AFTER_WAITING a_WAITS_AGAIN a_FALLS_DUE a_TAKEN_BACK a_VALUES kV h0 n0 Z0 WW (by rw [hi] <;> decide) (by rw [hi] <;> decide) (by rw [hi] <;> decide) (by rw [hi] <;> decide)) hZ (hw _ (List.mem_of_getElem? (i := 4) rfl)) (hw _ (List.mem_of_getElem? (i := 3) rfl)) (by decide) (by decide)) (g := (mkF m 9 #[.val (.int p1), .val (.int ((p1 &&& (2147483647 : Int32)) % (7 : Int32))), .unset, .unset] [(.int ((p1 &&& (2147483647 : Int32)) % (7 : Int32)))])) rfl (by rw [hml]; rfl) (argsL := [(.int ((p1 &&& (2147483647 : Int32)) % (7 : Int32)))]) (rest := []) (lenOf pdw_2 rfl) rfl (by show 2 * 0 + _ ≤ _; exact Nat.le_of_eq rfl) (hb hby at_9) (fun _ _ => ⟨rfl, e0, (by decide : 0 + 0 ≤ _), (by decide : 0 + 0 ≤ _)⟩)
  dsimp only [Pt.U, Pt.locs, Pt.cells, Pt.slots] at X2 l2 y2 z2 st2 hQ2
  subst l2 y2 z2
  obtain ⟨rfl, N2q, hh2⟩ := hQ2
  have N2 := Fr.app N0 N2q
  -- pc 14: com/example/acompte/acompte/DocumentKind$Vat.opposite by the contract of the body that the receiver's class selects, rm2
  obtain ⟨cq3, kq3, q3a, q3b, q3c⟩ := isOf hZ hh2 (E_FALLS_DUE_AFTER_WAITING)
  obtain ⟨_, _, ⟨T3, L3, k3, n3⟩, -, X3, ⟨Lc3, hQ3, l3, y3, z3⟩, st3⟩ := X2.virtualBack hx (y := (⟨"com/example/acompte/acompte/DocumentKind$Vat", "opposite", "()Lcom/example/acompte/acompte/DocumentKind$Vat;"⟩ : MethodName)) (z := (⟨"com/example/acompte/acompte/DocumentKind$Vat", "opposite", "()Lcom/example/acompte/acompte/DocumentKind$Vat;"⟩ : MethodName)) hown (mvT hZ (hw _ (List.mem_of_getElem? (i := 8) rfl))) (mvT hZ (hw _ (List.mem_of_getElem? (i := 9) rfl))) (notFace_of_selects (args := #[]) (mvT hZ (hw _ (List.mem_of_getElem? (i := 11) rfl)))) (mvT hZ (hw _ (List.mem_of_getElem? (i := 11) rfl))) (mvT hZ (hw _ (List.mem_of_getElem? (i := 10) rfl))) (by decide) (backOf (W := 0) (rm2_r3 l Z a0 hw [] a_NONE a_WAITS a_WAITS_NO_MORE a_FALLS_DUE_AFTER_WAITING a_WAITS_AGAIN a_FALLS_DUE a_TAKEN_BACK a_VALUES kV h0 n0 Z0 WW) hZ (hw _ (List.mem_of_getElem? (i := 12) rfl)) (hw _ (List.mem_of_getElem? (i := 6) rfl)) (by decide) (by decide)) q3a q3c (g := (mkF m 14 #[.val (.int p1), .val (.int ((p1 &&& (2147483647 : Int32)) % (7 : Int32))), .val (.ref a_FALLS_DUE_AFTER_WAITING), .unset] [(.ref a_FALLS_DUE_AFTER_WAITING)])) rfl (by rw [hml]; rfl) (Steps.refl _) (argsL := []) (rest := []) (lenOf pdw_3 rfl) rfl (by show 2 * 0 + _ ≤ _; exact Nat.le_of_eq rfl) (hb hby at_14) (fun _ _ => ⟨rfl, hh2, (by decide : 0 + 1 ≤ _), (by decide : 0 + 7 ≤ _)⟩)
  dsimp only [Pt.U, Pt.locs, Pt.cells, Pt.slots] at X3 l3 y3 z3 st3 hQ3
  subst l3 y3 z3
  obtain ⟨rfl, N3q, Ex2⟩ := hQ3
  have WW2 := WW.ext Ex2
  have Zh2 : n0 ≤ T3.heap.size := Nat.le_trans Z0 Ex2.1
  have WW3 := WW2
  obtain ⟨S_NONE, S_WAITS, S_WAITS_NO_MORE, S_FALLS_DUE_AFTER_WAITING, S_WAITS_AGAIN, S_FALLS_DUE, S_TAKEN_BACK, S_VALUES, E_NONE, E_WAITS, E_WAITS_NO_MORE, E_FALLS_DUE_AFTER_WAITING, E_WAITS_AGAIN, E_FALLS_DUE, E_TAKEN_BACK, E_VALUES, Fw_NONE, Fw_WAITS, Fw_WAITS_NO_MORE, Fw_FALLS_DUE_AFTER_WAITING, Fw_WAITS_AGAIN, Fw_FALLS_DUE, Fw_TAKEN_BACK, Fd_NONE, Fd_WAITS, Fd_WAITS_NO_MORE, Fd_FALLS_DUE_AFTER_WAITING, Fd_WAITS_AGAIN, Fd_FALLS_DUE, Fd_TAKEN_BACK, V_VALUES⟩ := WW3
  have N3 := Fr.app N2 N3q
  -- pc 26: com/example/acompte/acompte/VatOppositePinLaw.expected by its contract rm4
  obtain ⟨_, _, ⟨T4, L4, k4, n4⟩, -, X4, ⟨Lc4, hQ4, l4, y4, z4⟩, st4⟩ := Jvm.LawKit.callS X3 hx (y := (⟨"com/example/acompte/acompte/VatOppositePinLaw", "expected", "(I)Lcom/example/acompte/acompte/DocumentKind$Vat;"⟩ : MethodName)) hown (mvT hZ (hw _ (List.mem_of_getElem? (i := 38) rfl))) (mvT hZ (hw _ (List.mem_of_getElem? (i := 39) rfl))) (mvT hZ (hw _ (List.mem_of_getElem? (i := 3) rfl))) (mvT hZ (hw _ (List.mem_of_getElem? (i := 40) rfl))) (by decide) (backOf (W := 1) (rm4_k3 l Z a0 hw [] ((p1 &&& (2147483647 : Int32)) % (7 : Int32)) a_NONE a_WAITS a_WAITS_NO_MORE a_FALLS_DUE_AFTER_WAITING a_WAITS_AGAIN a_FALLS_DUE a_TAKEN_BACK a_VALUES kV T3.heap n0 Zh2 WW2 (by rw [hi] <;> decide) (by rw [hi] <;> decide) (by rw [hi] <;> decide) (by rw [hi] <;> decide)) hZ (hw _ (List.mem_of_getElem? (i := 40) rfl)) (hw _ (List.mem_of_getElem? (i := 3) rfl)) (by decide) (by decide)) (g := (mkF m 26 #[.val (.int p1), .val (.int ((p1 &&& (2147483647 : Int32)) % (7 : Int32))), .val (.ref a_FALLS_DUE_AFTER_WAITING), .val (.ref a_WAITS_AGAIN)] [(.int ((p1 &&& (2147483647 : Int32)) % (7 : Int32))), (.ref a_WAITS_AGAIN)])) rfl (by rw [hml]; rfl) (argsL := [(.int ((p1 &&& (2147483647 : Int32)) % (7 : Int32)))]) (rest := [(.ref a_WAITS_AGAIN)]) (lenOf pdw_2 rfl) rfl (by show 2 * 0 + _ ≤ _; exact Nat.le_of_eq rfl) (hb hby at_26) (fun _ _ => ⟨rfl, rfl, (by decide : 1 + 0 ≤ _), (by decide : 7 + 0 ≤ _)⟩)
  dsimp only [Pt.U, Pt.locs, Pt.cells, Pt.slots] at X4 l4 y4 z4 st4 hQ4
  subst l4 y4 z4
  obtain ⟨rfl, N4q, hh4⟩ := hQ4
  have N4 := Fr.app N3 N4q
  -- pc 35: com/example/acompte/acompte/DocumentKind$Vat.waiting by the contract of the body that the receiver's class selects, rm5
  obtain ⟨cq5, kq5, q5a, q5b, q5c⟩ := isOf hZ hh4 (((E_WAITS_AGAIN)))
  obtain ⟨_, _, ⟨T5, L5, k5, n5⟩, -, X5, ⟨Lc5, hQ5, l5, y5, z5⟩, st5⟩ := X4.virtualBack hx (y := (⟨"com/example/acompte/acompte/DocumentKind$Vat", "waiting", "()I"⟩ : MethodName)) (z := (⟨"com/example/acompte/acompte/DocumentKind$Vat", "waiting", "()I"⟩ : MethodName)) hown (mvT hZ (hw _ (List.mem_of_getElem? (i := 41) rfl))) (mvT hZ (hw _ (List.mem_of_getElem? (i := 42) rfl))) (notFace_of_selects (args := #[]) (mvT hZ (hw _ (List.mem_of_getElem? (i := 44) rfl)))) (mvT hZ (hw _ (List.mem_of_getElem? (i := 44) rfl))) (mvT hZ (hw _ (List.mem_of_getElem? (i := 43) rfl))) (by decide) (backOf (W := 0) (rm5 l Z a0 hw [] a_WAITS_AGAIN (1 : Int32) T3.heap n0 Zh2 Fw_WAITS_AGAIN) hZ (hw _ (List.mem_of_getElem? (i := 45) rfl)) (hw _ (List.mem_of_getElem? (i := 6) rfl)) (by decide) (by decide)) q5a q5c (g := (mkF m 35 #[.val (.int p1), .val (.int ((p1 &&& (2147483647 : Int32)) % (7 : Int32))), .val (.ref a_FALLS_DUE_AFTER_WAITING), .val (.ref a_WAITS_AGAIN)] [(.ref a_WAITS_AGAIN)])) rfl (by rw [hml]; rfl) (Steps.refl _) (argsL := []) (rest := []) (lenOf pdw_4 rfl) rfl (by show 2 * 0 + _ ≤ _; exact Nat.le_of_eq rfl) (hb hby at_35) (fun _ _ => ⟨rfl, hh4, (by decide : 1 + 0 ≤ _), (by decide : 7 + 0 ≤ _)⟩)
  dsimp only [Pt.U, Pt.locs, Pt.cells, Pt.slots] at X5 l5 y5 z5 st5 hQ5
  subst l5 y5 z5
  obtain ⟨rfl, N5q, hh5⟩ := hQ5
  have N5 := Fr.app N4 N5q
  -- pc 39: com/example/acompte/acompte/DocumentKind$Vat.waiting by the contract of the body that the receiver's class selects, rm5
  obtain ⟨cq6, kq6, q6a, q6b, q6c⟩ := isOf hZ hh5 ((((E_FALLS_DUE_AFTER_WAITING))))
  obtain ⟨_, _, ⟨T6, L6, k6, n6⟩, -, X6, ⟨Lc6, hQ6, l6, y6, z6⟩, st6⟩ := X5.virtualBack hx (y := (⟨"com/example/acompte/acompte/DocumentKind$Vat", "waiting", "()I"⟩ : MethodName)) (z := (⟨"com/example/acompte/acompte/DocumentKind$Vat", "waiting", "()I"⟩ : MethodName)) hown (mvT hZ (hw _ (List.mem_of_getElem? (i := 41) rfl))) (mvT hZ (hw _ (List.mem_of_getElem? (i := 42) rfl))) (notFace_of_selects (args := #[]) (mvT hZ (hw _ (List.mem_of_getElem? (i := 44) rfl)))) (mvT hZ (hw _ (List.mem_of_getElem? (i := 44) rfl))) (mvT hZ (hw _ (List.mem_of_getElem? (i := 43) rfl))) (by decide) (backOf (W := 1) (rm5 l Z a0 hw [] a_FALLS_DUE_AFTER_WAITING (-1 : Int32) T3.heap n0 Zh2 Fw_FALLS_DUE_AFTER_WAITING) hZ (hw _ (List.mem_of_getElem? (i := 45) rfl)) (hw _ (List.mem_of_getElem? (i := 6) rfl)) (by decide) (by decide)) q6a q6c (g := (mkF m 39 #[.val (.int p1), .val (.int ((p1 &&& (2147483647 : Int32)) % (7 : Int32))), .val (.ref a_FALLS_DUE_AFTER_WAITING), .val (.ref a_WAITS_AGAIN)] [(.ref a_FALLS_DUE_AFTER_WAITING), (.int (1 : Int32))])) rfl (by rw [hml]; rfl) (Steps.refl _) (argsL := []) (rest := [(.int (1 : Int32))]) (lenOf pdw_4 rfl) rfl (by show 2 * 0 + _ ≤ _; exact Nat.le_of_eq rfl) (hb hby at_39) (fun _ _ => ⟨rfl, hh5, (by decide : 1 + 0 ≤ _), (by decide : 7 + 0 ≤ _)⟩)
  dsimp only [Pt.U, Pt.locs, Pt.cells, Pt.slots] at X6 l6 y6 z6 st6 hQ6
  subst l6 y6 z6
  obtain ⟨rfl, N6q, hh6⟩ := hQ6
  have N6 := Fr.app N5 N6q
  -- pc 47: com/example/acompte/acompte/DocumentKind$Vat.due by the contract of the body that the receiver's class selects, rm6
  obtain ⟨cq7, kq7, q7a, q7b, q7c⟩ := isOf hZ hh6 (((((E_WAITS_AGAIN)))))
  obtain ⟨_, _, ⟨T7, L7, k7, n7⟩, -, X7, ⟨Lc7, hQ7, l7, y7, z7⟩, st7⟩ := X6.virtualBack hx (y := (⟨"com/example/acompte/acompte/DocumentKind$Vat", "due", "()I"⟩ : MethodName)) (z := (⟨"com/example/acompte/acompte/DocumentKind$Vat", "due", "()I"⟩ : MethodName)) hown (mvT hZ (hw _ (List.mem_of_getElem? (i := 46) rfl))) (mvT hZ (hw _ (List.mem_of_getElem? (i := 47) rfl))) (notFace_of_selects (args := #[]) (mvT hZ (hw _ (List.mem_of_getElem? (i := 49) rfl)))) (mvT hZ (hw _ (List.mem_of_getElem? (i := 49) rfl))) (mvT hZ (hw _ (List.mem_of_getElem? (i := 48) rfl))) (by decide) (backOf (W := 0) (rm6 l Z a0 hw [] a_WAITS_AGAIN (-1 : Int32) T3.heap n0 Zh2 Fd_WAITS_AGAIN) hZ (hw _ (List.mem_of_getElem? (i := 50) rfl)) (hw _ (List.mem_of_getElem? (i := 6) rfl)) (by decide) (by decide)) q7a q7c (g := (mkF m 47 #[.val (.int p1), .val (.int ((p1 &&& (2147483647 : Int32)) % (7 : Int32))), .val (.ref a_FALLS_DUE_AFTER_WAITING), .val (.ref a_WAITS_AGAIN)] [(.ref a_WAITS_AGAIN)])) rfl (by rw [hml]; rfl) (Steps.refl _) (argsL := []) (rest := []) (lenOf pdw_4 rfl) rfl (by show 2 * 0 + _ ≤ _; exact Nat.le_of_eq rfl) (hb hby at_47) (fun _ _ => ⟨rfl, hh6, (by decide : 1 + 0 ≤ _), (by decide : 7 + 0 ≤ _)⟩)
  dsimp only [Pt.U, Pt.locs, Pt.cells, Pt.slots] at X7 l7 y7 z7 st7 hQ7
  subst l7 y7 z7
  obtain ⟨rfl, N7q, hh7⟩ := hQ7
  have N7 := Fr.app N6 N7q
  -- pc 51: com/example/acompte/acompte/DocumentKind$Vat.due by the contract of the body that the receiver's class selects, rm6
  obtain ⟨cq8, kq8, q8a, q8b, q8c⟩ := isOf hZ hh7 ((((((E_FALLS_DUE_AFTER_WAITING))))))
  obtain ⟨_, _, ⟨T8, L8, k8, n8⟩, -, X8, ⟨Lc8, hQ8, l8, y8, z8⟩, st8⟩ := X7.virtualBack hx (y := (⟨"com/example/acompte/acompte/DocumentKind$Vat", "due", "()I"⟩ : MethodName)) (z := (⟨"com/example/acompte/acompte/DocumentKind$Vat", "due", "()I"⟩ : MethodName)) hown (mvT hZ (hw _ (List.mem_of_getElem? (i := 46) rfl))) (mvT hZ (hw _ (List.mem_of_getElem? (i := 47) rfl))) (notFace_of_selects (args := #[]) (mvT hZ (hw _ (List.mem_of_getElem? (i := 49) rfl)))) (mvT hZ (hw _ (List.mem_of_getElem? (i := 49) rfl))) (mvT hZ (hw _ (List.mem_of_getElem? (i := 48) rfl))) (by decide) (backOf (W := 1) (rm6 l Z a0 hw [] a_FALLS_DUE_AFTER_WAITING (1 : Int32) T3.heap n0 Zh2 Fd_FALLS_DUE_AFTER_WAITING) hZ (hw _ (List.mem_of_getElem? (i := 50) rfl)) (hw _ (List.mem_of_getElem? (i := 6) rfl)) (by decide) (by decide)) q8a q8c (g := (mkF m 51 #[.val (.int p1), .val (.int ((p1 &&& (2147483647 : Int32)) % (7 : Int32))), .val (.ref a_FALLS_DUE_AFTER_WAITING), .val (.ref a_WAITS_AGAIN)] [(.ref a_FALLS_DUE_AFTER_WAITING), (.int (-1 : Int32))])) rfl (by rw [hml]; rfl) (Steps.refl _) (argsL := []) (rest := [(.int (-1 : Int32))]) (lenOf pdw_4 rfl) rfl (by show 2 * 0 + _ ≤ _; exact Nat.le_of_eq rfl) (hb hby at_51) (fun _ _ => ⟨rfl, hh7, (by decide : 1 + 0 ≤ _), (by decide : 7 + 0 ≤ _)⟩)
  dsimp only [Pt.U, Pt.locs, Pt.cells, Pt.slots] at X8 l8 y8 z8 st8 hQ8
  subst l8 y8 z8
  obtain ⟨rfl, N8q, hh8⟩ := hQ8
  have N8 := Fr.app N7 N8q
  obtain ⟨fs, hr, hrun, hended, hW, hsame⟩ := X8.leave (v := some (.int (1 : Int32))) (fun h => by rw [Bd.returns] at h; cases h)
  refine ⟨_, _, pre0 _ ?_, hrun, hended, _, _, rfl, ?_, ⟨_, rfl⟩, hW, hsame.mono (by decide) (by decide)⟩
  -- 4. STEPS
  · show Steps p.tables e below (s₁.setTop (mkF m 0 #[.val (.int p1), .unset, .unset, .unset] [])) _
    refine XS.iloadN X0.here hx rfl (hb hby at_0) rfl ?_
    show Steps p.tables e below (s₁.setTop (mkF m 1 #[.val (.int p1), .unset, .unset, .unset] [(.int p1)])) _
    refine X0.ldcInt hx hown (mvT hZ (hw _ (List.mem_of_getElem? (i := 0) rfl))) (g := (mkF m 1 #[.val (.int p1), .unset, .unset, .unset] [(.int p1)])) rfl (hb hby at_1) _ ?_
    show Steps p.tables e below (s₁.setTop (mkF m 3 #[.val (.int p1), .unset, .unset, .unset] [(.int (2147483647 : Int32)), (.int p1)])) _
    refine XS.iand X0.here hx rfl (hb hby at_3) rfl ?_
    show Steps p.tables e below (s₁.setTop (mkF m 4 #[.val (.int p1), .unset, .unset, .unset] [(.int (p1 &&& (2147483647 : Int32)))])) _
    refine XS.bipush X0.here hx rfl (hb hby at_4) ?_
    show Steps p.tables e below (s₁.setTop (mkF m 6 #[.val (.int p1), .unset, .unset, .unset] [(.int (7 : Int32)), (.int (p1 &&& (2147483647 : Int32)))])) _
    refine own_irem X0.here hx rfl (hb hby at_6) rfl hnz6 ?_
    show Steps p.tables e below (s₁.setTop (mkF m 7 #[.val (.int p1), .unset, .unset, .unset] [(.int ((p1 &&& (2147483647 : Int32)) % (7 : Int32)))])) _
    refine XS.istoreN X0.here hx rfl (hb hby at_7) rfl (l' := #[.val (.int p1), .val (.int ((p1 &&& (2147483647 : Int32)) % (7 : Int32))), .unset, .unset]) rfl ?_
    show Steps p.tables e below (s₁.setTop (mkF m 8 #[.val (.int p1), .val (.int ((p1 &&& (2147483647 : Int32)) % (7 : Int32))), .unset, .unset] [])) _
    refine XS.iloadN X0.here hx rfl (hb hby at_8) rfl ?_
    show Steps p.tables e below (s₁.setTop (mkF m 9 #[.val (.int p1), .val (.int ((p1 &&& (2147483647 : Int32)) % (7 : Int32))), .unset, .unset] [(.int ((p1 &&& (2147483647 : Int32)) % (7 : Int32)))])) _
    refine st2 _ ?_
    show Steps p.tables e below (T2.setTop (mkF m 12 #[.val (.int p1), .val (.int ((p1 &&& (2147483647 : Int32)) % (7 : Int32))), .unset, .unset] [(.ref a_FALLS_DUE_AFTER_WAITING)])) _
    refine XS.astoreN X2.here hx rfl (hb hby at_12) rfl rfl (l' := #[.val (.int p1), .val (.int ((p1 &&& (2147483647 : Int32)) % (7 : Int32))), .val (.ref a_FALLS_DUE_AFTER_WAITING), .unset]) rfl ?_
    show Steps p.tables e below (T2.setTop (mkF m 13 #[.val (.int p1), .val (.int ((p1 &&& (2147483647 : Int32)) % (7 : Int32))), .val (.ref a_FALLS_DUE_AFTER_WAITING), .unset] [])) _
    refine XS.aloadN X2.here hx rfl (hb hby at_13) rfl rfl ?_
    show Steps p.tables e below (T2.setTop (mkF m 14 #[.val (.int p1), .val (.int ((p1 &&& (2147483647 : Int32)) % (7 : Int32))), .val (.ref a_FALLS_DUE_AFTER_WAITING), .unset] [(.ref a_FALLS_DUE_AFTER_WAITING)])) _
    refine st3.trans ?_
    show Steps p.tables e below (T3.setTop (mkF m 17 #[.val (.int p1), .val (.int ((p1 &&& (2147483647 : Int32)) % (7 : Int32))), .val (.ref a_FALLS_DUE_AFTER_WAITING), .unset] [(.ref a_WAITS_AGAIN)])) _
    refine XS.astoreN X3.here hx rfl (hb hby at_17) rfl rfl (l' := #[.val (.int p1), .val (.int ((p1 &&& (2147483647 : Int32)) % (7 : Int32))), .val (.ref a_FALLS_DUE_AFTER_WAITING), .val (.ref a_WAITS_AGAIN)]) rfl ?_
    show Steps p.tables e below (T3.setTop (mkF m 18 #[.val (.int p1), .val (.int ((p1 &&& (2147483647 : Int32)) % (7 : Int32))), .val (.ref a_FALLS_DUE_AFTER_WAITING), .val (.ref a_WAITS_AGAIN)] [])) _
    refine XS.aloadN X3.here hx rfl (hb hby at_18) rfl rfl ?_
    show Steps p.tables e below (T3.setTop (mkF m 19 #[.val (.int p1), .val (.int ((p1 &&& (2147483647 : Int32)) % (7 : Int32))), .val (.ref a_FALLS_DUE_AFTER_WAITING), .val (.ref a_WAITS_AGAIN)] [(.ref a_WAITS_AGAIN)])) _
    refine XS.ifnonnullYes X3.here hx rfl (pc0 := 19) (pc' := 24) rfl (hb hby at_19) rfl (by decide) (by decide) ?_
    show Steps p.tables e below (T3.setTop (mkF m 24 #[.val (.int p1), .val (.int ((p1 &&& (2147483647 : Int32)) % (7 : Int32))), .val (.ref a_FALLS_DUE_AFTER_WAITING), .val (.ref a_WAITS_AGAIN)] [])) _
    refine XS.aloadN X3.here hx rfl (hb hby at_24) rfl rfl ?_
    show Steps p.tables e below (T3.setTop (mkF m 25 #[.val (.int p1), .val (.int ((p1 &&& (2147483647 : Int32)) % (7 : Int32))), .val (.ref a_FALLS_DUE_AFTER_WAITING), .val (.ref a_WAITS_AGAIN)] [(.ref a_WAITS_AGAIN)])) _
    refine XS.iloadN X3.here hx rfl (hb hby at_25) rfl ?_
    show Steps p.tables e below (T3.setTop (mkF m 26 #[.val (.int p1), .val (.int ((p1 &&& (2147483647 : Int32)) % (7 : Int32))), .val (.ref a_FALLS_DUE_AFTER_WAITING), .val (.ref a_WAITS_AGAIN)] [(.int ((p1 &&& (2147483647 : Int32)) % (7 : Int32))), (.ref a_WAITS_AGAIN)])) _
    refine st4 _ ?_
    show Steps p.tables e below (T4.setTop (mkF m 29 #[.val (.int p1), .val (.int ((p1 &&& (2147483647 : Int32)) % (7 : Int32))), .val (.ref a_FALLS_DUE_AFTER_WAITING), .val (.ref a_WAITS_AGAIN)] [(.ref a_WAITS_AGAIN), (.ref a_WAITS_AGAIN)])) _
    refine Jvm.RoadKit.acmp (g := (mkF m 29 #[.val (.int p1), .val (.int ((p1 &&& (2147483647 : Int32)) % (7 : Int32))), .val (.ref a_FALLS_DUE_AFTER_WAITING), .val (.ref a_WAITS_AGAIN)] [(.ref a_WAITS_AGAIN), (.ref a_WAITS_AGAIN)])) X4 hx rfl rfl rfl (pc0 := 29) (pc' := 34) (same := true) rfl (hb hby at_29) rfl (decide_eq_true (congrArg Value.ref rfl)) (by decide) (by decide) ?_
    show Steps p.tables e below (T4.setTop (mkF m 34 #[.val (.int p1), .val (.int ((p1 &&& (2147483647 : Int32)) % (7 : Int32))), .val (.ref a_FALLS_DUE_AFTER_WAITING), .val (.ref a_WAITS_AGAIN)] [])) _
    refine XS.aloadN X4.here hx rfl (hb hby at_34) rfl rfl ?_
    show Steps p.tables e below (T4.setTop (mkF m 35 #[.val (.int p1), .val (.int ((p1 &&& (2147483647 : Int32)) % (7 : Int32))), .val (.ref a_FALLS_DUE_AFTER_WAITING), .val (.ref a_WAITS_AGAIN)] [(.ref a_WAITS_AGAIN)])) _
    refine st5.trans ?_
    show Steps p.tables e below (T5.setTop (mkF m 38 #[.val (.int p1), .val (.int ((p1 &&& (2147483647 : Int32)) % (7 : Int32))), .val (.ref a_FALLS_DUE_AFTER_WAITING), .val (.ref a_WAITS_AGAIN)] [(.int (1 : Int32))])) _
    refine XS.aloadN X5.here hx rfl (hb hby at_38) rfl rfl ?_
    show Steps p.tables e below (T5.setTop (mkF m 39 #[.val (.int p1), .val (.int ((p1 &&& (2147483647 : Int32)) % (7 : Int32))), .val (.ref a_FALLS_DUE_AFTER_WAITING), .val (.ref a_WAITS_AGAIN)] [(.ref a_FALLS_DUE_AFTER_WAITING), (.int (1 : Int32))])) _
    refine st6.trans ?_
    show Steps p.tables e below (T6.setTop (mkF m 42 #[.val (.int p1), .val (.int ((p1 &&& (2147483647 : Int32)) % (7 : Int32))), .val (.ref a_FALLS_DUE_AFTER_WAITING), .val (.ref a_WAITS_AGAIN)] [(.int (-1 : Int32)), (.int (1 : Int32))])) _
    refine XS.ineg X6.here hx rfl (hb hby at_42) rfl ?_
    show Steps p.tables e below (T6.setTop (mkF m 43 #[.val (.int p1), .val (.int ((p1 &&& (2147483647 : Int32)) % (7 : Int32))), .val (.ref a_FALLS_DUE_AFTER_WAITING), .val (.ref a_WAITS_AGAIN)] [(.int (-(-1 : Int32))), (.int (1 : Int32))])) _
    refine XS.icmpNo X6.here hx rfl (hb hby at_43) rfl (teq (by first | rfl | decide : (1 : Int32) = (-(-1 : Int32)))).2 ?_
    show Steps p.tables e below (T6.setTop (mkF m 46 #[.val (.int p1), .val (.int ((p1 &&& (2147483647 : Int32)) % (7 : Int32))), .val (.ref a_FALLS_DUE_AFTER_WAITING), .val (.ref a_WAITS_AGAIN)] [])) _
    refine XS.aloadN X6.here hx rfl (hb hby at_46) rfl rfl ?_
    show Steps p.tables e below (T6.setTop (mkF m 47 #[.val (.int p1), .val (.int ((p1 &&& (2147483647 : Int32)) % (7 : Int32))), .val (.ref a_FALLS_DUE_AFTER_WAITING), .val (.ref a_WAITS_AGAIN)] [(.ref a_WAITS_AGAIN)])) _
    refine st7.trans ?_
    show Steps p.tables e below (T7.setTop (mkF m 50 #[.val (.int p1), .val (.int ((p1 &&& (2147483647 : Int32)) % (7 : Int32))), .val (.ref a_FALLS_DUE_AFTER_WAITING), .val (.ref a_WAITS_AGAIN)] [(.int (-1 : Int32))])) _
    refine XS.aloadN X7.here hx rfl (hb hby at_50) rfl rfl ?_
    show Steps p.tables e below (T7.setTop (mkF m 51 #[.val (.int p1), .val (.int ((p1 &&& (2147483647 : Int32)) % (7 : Int32))), .val (.ref a_FALLS_DUE_AFTER_WAITING), .val (.ref a_WAITS_AGAIN)] [(.ref a_FALLS_DUE_AFTER_WAITING), (.int (-1 : Int32))])) _
    refine st8.trans ?_
    show Steps p.tables e below (T8.setTop (mkF m 54 #[.val (.int p1), .val (.int ((p1 &&& (2147483647 : Int32)) % (7 : Int32))), .val (.ref a_FALLS_DUE_AFTER_WAITING), .val (.ref a_WAITS_AGAIN)] [(.int (1 : Int32)), (.int (-1 : Int32))])) _
    refine XS.ineg X8.here hx rfl (hb hby at_54) rfl ?_
    show Steps p.tables e below (T8.setTop (mkF m 55 #[.val (.int p1), .val (.int ((p1 &&& (2147483647 : Int32)) % (7 : Int32))), .val (.ref a_FALLS_DUE_AFTER_WAITING), .val (.ref a_WAITS_AGAIN)] [(.int (-(1 : Int32))), (.int (-1 : Int32))])) _
    refine XS.icmpNo X8.here hx rfl (hb hby at_55) rfl (teq (by first | rfl | decide : (-1 : Int32) = (-(1 : Int32)))).2 ?_
    show Steps p.tables e below (T8.setTop (mkF m 58 #[.val (.int p1), .val (.int ((p1 &&& (2147483647 : Int32)) % (7 : Int32))), .val (.ref a_FALLS_DUE_AFTER_WAITING), .val (.ref a_WAITS_AGAIN)] [])) _
    refine XS.iconst X8.here hx rfl (hb hby at_58) ?_
    show Steps p.tables e below (T8.setTop (mkF m 59 #[.val (.int p1), .val (.int ((p1 &&& (2147483647 : Int32)) % (7 : Int32))), .val (.ref a_FALLS_DUE_AFTER_WAITING), .val (.ref a_WAITS_AGAIN)] [(.int (1 : Int32))])) _
    refine XS.goto X8.here hx rfl (pc0 := 59) (pc' := 63) rfl (hb hby at_59) (by decide) (by decide) ?_
    show Steps p.tables e below (T8.setTop (mkF m 63 #[.val (.int p1), .val (.int ((p1 &&& (2147483647 : Int32)) % (7 : Int32))), .val (.ref a_FALLS_DUE_AFTER_WAITING), .val (.ref a_WAITS_AGAIN)] [(.int (1 : Int32))])) _
    exact retN X8 hx (t := .boolean) Bd.returns (by simp) (hb hby at_63) hr
  · show Q0 h0 n0 _ T8.heap _
    exact ⟨rfl, N8⟩
set_option maxRecDepth 65536 in
set_option maxHeartbeats 40000000 in
theorem rm0_i4 (l : Launch) (Z : State) (a0 : Array Value) (hw : ∀ d ∈ tables_1, d.before a0 Z = true) (ws : List Jvm.Cond) (p1 : Int32) (a_NONE a_WAITS a_WAITS_NO_MORE a_FALLS_DUE_AFTER_WAITING a_WAITS_AGAIN a_FALLS_DUE a_TAKEN_BACK a_VALUES : Addr) (kV : ClassId) (h0 : Heap) (n0 : Nat) (Z0 : n0 ≤ h0.size) (WW : Own Z h0 a_NONE a_WAITS a_WAITS_NO_MORE a_FALLS_DUE_AFTER_WAITING a_WAITS_AGAIN a_FALLS_DUE a_TAKEN_BACK a_VALUES kV) (hi : ((p1 &&& (2147483647 : Int32)) % (7 : Int32)) = (4 : Int32)) :
    MetFree l x (head1 (Jvm.Cond.code x code maxLocals ret :: ws) room_1) (fun a U => a = #[(.int p1)] ∧ Z.Warmed39 U.vm ∧ U.heap = h0) (fun _ _ _ _ _ => True) (fun _ U o U' => ∃ v L, o = .returned v ∧ Q0 h0 n0 v U'.heap L ∧ FrameEnd U o U' L room_1.cells room_1.slots) := by
  have hnz6 : ¬ ((7 : Int32) = (0 : Int32)) := by decide
  refine MetFree.of_bodySF (plainFor_of_name pn_0) hisR ?_
  intro p e s m args below meth c s₁ Bd hml0 hP hK
  have WW0 := WW
  obtain ⟨S_NONE, S_WAITS, S_WAITS_NO_MORE, S_FALLS_DUE_AFTER_WAITING, S_WAITS_AGAIN, S_FALLS_DUE, S_TAKEN_BACK, S_VALUES, E_NONE, E_WAITS, E_WAITS_NO_MORE, E_FALLS_DUE_AFTER_WAITING, E_WAITS_AGAIN, E_FALLS_DUE, E_TAKEN_BACK, E_VALUES, Fw_NONE, Fw_WAITS, Fw_WAITS_NO_MORE, Fw_FALLS_DUE_AFTER_WAITING, Fw_WAITS_AGAIN, Fw_FALLS_DUE, Fw_TAKEN_BACK, Fd_NONE, Fd_WAITS, Fd_WAITS_NO_MORE, Fd_FALLS_DUE_AFTER_WAITING, Fd_WAITS_AGAIN, Fd_FALLS_DUE, Fd_TAKEN_BACK, V_VALUES⟩ := WW0
  obtain ⟨rfl, hZ, hh⟩ := hP
  have hx := Bd.exec
  have hby := Bd.bytes
  have hml : c.maxLocals = 4 := hml0
  have hown : s.vm.findClass "com/example/acompte/acompte/VatOppositePinLaw" = some m.cls := findClass_of_methodNamed Bd.named
  have hnm := (name_of_methodNamed Bd.named Bd.method).1
  have X0 : Stand p l e room_1 s m #[(.int p1)] below meth c s₁ [] 0 0 := Stand.of_body Bd
  have e0 : s₁.heap = h0 := by rw [← hh, Bd.state]; rfl
  have N0 := Fr.nil n0
  have pre0 : ∀ t, Steps p.tables e below (s₁.setTop (mkF m 0 #[.val (.int p1), .unset, .unset, .unset] [])) t → Steps p.tables e below (s₁.setTop (entryFrame m #[(.int p1)] maxLocals)) t := fun t k => castTop (ef_0 m p1) k
  -- 3. LAWS
  -- pc 9: com/example/acompte/acompte/VatOppositePinLaw.pick by its contract rm1
  obtain ⟨_, _, ⟨T2, L2, k2, n2⟩, -, X2, ⟨Lc2, hQ2, l2, y2, z2⟩, st2⟩ := Jvm.LawKit.callS X0 hx (y := (⟨"com/example/acompte/acompte/VatOppositePinLaw", "pick", "(I)Lcom/example/acompte/acompte/DocumentKind$Vat;"⟩ : MethodName)) hown (mvT hZ (hw _ (List.mem_of_getElem? (i := 1) rfl))) (mvT hZ (hw _ (List.mem_of_getElem? (i := 2) rfl))) (mvT hZ (hw _ (List.mem_of_getElem? (i := 3) rfl))) (mvT hZ (hw _ (List.mem_of_getElem? (i := 4) rfl))) (by decide) (backOf (W := 0) (rm1_k4 l Z a0 hw [] ((p1 &&& (2147483647 : Int32)) % (7 : Int32)) a_NONE a_WAITS a_WAITS_NO_MORE a_FALLS_DUE_AFTER_WAITING a_WAITS_AGAIN a_FALLS_DUE a_TAKEN_BACK a_VALUES kV h0 n0 Z0 WW (by rw [hi] <;> decide) (by rw [hi] <;> decide) (by rw [hi] <;> decide) (by rw [hi] <;> decide) (by rw [hi] <;> decide)) hZ (hw _ (List.mem_of_getElem? (i := 4) rfl)) (hw _ (List.mem_of_getElem? (i := 3) rfl)) (by decide) (by decide)) (g := (mkF m 9 #[.val (.int p1), .val (.int ((p1 &&& (2147483647 : Int32)) % (7 : Int32))), .unset, .unset] [(.int ((p1 &&& (2147483647 : Int32)) % (7 : Int32)))])) rfl (by rw [hml]; rfl) (argsL := [(.int ((p1 &&& (2147483647 : Int32)) % (7 : Int32)))]) (rest := []) (lenOf pdw_2 rfl) rfl (by show 2 * 0 + _ ≤ _; exact Nat.le_of_eq rfl) (hb hby at_9) (fun _ _ => ⟨rfl, e0, (by decide : 0 + 0 ≤ _), (by decide : 0 + 0 ≤ _)⟩)
  dsimp only [Pt.U, Pt.locs, Pt.cells, Pt.slots] at X2 l2 y2 z2 st2 hQ2
  subst l2 y2 z2
  obtain ⟨rfl, N2q, hh2⟩ := hQ2
  have N2 := Fr.app N0 N2q
  -- pc 14: com/example/acompte/acompte/DocumentKind$Vat.opposite by the contract of the body that the receiver's class selects, rm2
  obtain ⟨cq3, kq3, q3a, q3b, q3c⟩ := isOf hZ hh2 (E_WAITS_AGAIN)
  obtain ⟨_, _, ⟨T3, L3, k3, n3⟩, -, X3, ⟨Lc3, hQ3, l3, y3, z3⟩, st3⟩ := X2.virtualBack hx (y := (⟨"com/example/acompte/acompte/DocumentKind$Vat", "opposite", "()Lcom/example/acompte/acompte/DocumentKind$Vat;"⟩ : MethodName)) (z := (⟨"com/example/acompte/acompte/DocumentKind$Vat", "opposite", "()Lcom/example/acompte/acompte/DocumentKind$Vat;"⟩ : MethodName)) hown (mvT hZ (hw _ (List.mem_of_getElem? (i := 8) rfl))) (mvT hZ (hw _ (List.mem_of_getElem? (i := 9) rfl))) (notFace_of_selects (args := #[]) (mvT hZ (hw _ (List.mem_of_getElem? (i := 11) rfl)))) (mvT hZ (hw _ (List.mem_of_getElem? (i := 11) rfl))) (mvT hZ (hw _ (List.mem_of_getElem? (i := 10) rfl))) (by decide) (backOf (W := 0) (rm2_r4 l Z a0 hw [] a_NONE a_WAITS a_WAITS_NO_MORE a_FALLS_DUE_AFTER_WAITING a_WAITS_AGAIN a_FALLS_DUE a_TAKEN_BACK a_VALUES kV h0 n0 Z0 WW) hZ (hw _ (List.mem_of_getElem? (i := 12) rfl)) (hw _ (List.mem_of_getElem? (i := 6) rfl)) (by decide) (by decide)) q3a q3c (g := (mkF m 14 #[.val (.int p1), .val (.int ((p1 &&& (2147483647 : Int32)) % (7 : Int32))), .val (.ref a_WAITS_AGAIN), .unset] [(.ref a_WAITS_AGAIN)])) rfl (by rw [hml]; rfl) (Steps.refl _) (argsL := []) (rest := []) (lenOf pdw_3 rfl) rfl (by show 2 * 0 + _ ≤ _; exact Nat.le_of_eq rfl) (hb hby at_14) (fun _ _ => ⟨rfl, hh2, (by decide : 0 + 1 ≤ _), (by decide : 0 + 7 ≤ _)⟩)
  dsimp only [Pt.U, Pt.locs, Pt.cells, Pt.slots] at X3 l3 y3 z3 st3 hQ3
  subst l3 y3 z3
  obtain ⟨rfl, N3q, Ex2⟩ := hQ3
  have WW2 := WW.ext Ex2
  have Zh2 : n0 ≤ T3.heap.size := Nat.le_trans Z0 Ex2.1
  have WW3 := WW2
  obtain ⟨S_NONE, S_WAITS, S_WAITS_NO_MORE, S_FALLS_DUE_AFTER_WAITING, S_WAITS_AGAIN, S_FALLS_DUE, S_TAKEN_BACK, S_VALUES, E_NONE, E_WAITS, E_WAITS_NO_MORE, E_FALLS_DUE_AFTER_WAITING, E_WAITS_AGAIN, E_FALLS_DUE, E_TAKEN_BACK, E_VALUES, Fw_NONE, Fw_WAITS, Fw_WAITS_NO_MORE, Fw_FALLS_DUE_AFTER_WAITING, Fw_WAITS_AGAIN, Fw_FALLS_DUE, Fw_TAKEN_BACK, Fd_NONE, Fd_WAITS, Fd_WAITS_NO_MORE, Fd_FALLS_DUE_AFTER_WAITING, Fd_WAITS_AGAIN, Fd_FALLS_DUE, Fd_TAKEN_BACK, V_VALUES⟩ := WW3
  have N3 := Fr.app N2 N3q
  -- pc 26: com/example/acompte/acompte/VatOppositePinLaw.expected by its contract rm4
  obtain ⟨_, _, ⟨T4, L4, k4, n4⟩, -, X4, ⟨Lc4, hQ4, l4, y4, z4⟩, st4⟩ := Jvm.LawKit.callS X3 hx (y := (⟨"com/example/acompte/acompte/VatOppositePinLaw", "expected", "(I)Lcom/example/acompte/acompte/DocumentKind$Vat;"⟩ : MethodName)) hown (mvT hZ (hw _ (List.mem_of_getElem? (i := 38) rfl))) (mvT hZ (hw _ (List.mem_of_getElem? (i := 39) rfl))) (mvT hZ (hw _ (List.mem_of_getElem? (i := 3) rfl))) (mvT hZ (hw _ (List.mem_of_getElem? (i := 40) rfl))) (by decide) (backOf (W := 1) (rm4_k4 l Z a0 hw [] ((p1 &&& (2147483647 : Int32)) % (7 : Int32)) a_NONE a_WAITS a_WAITS_NO_MORE a_FALLS_DUE_AFTER_WAITING a_WAITS_AGAIN a_FALLS_DUE a_TAKEN_BACK a_VALUES kV T3.heap n0 Zh2 WW2 (by rw [hi] <;> decide) (by rw [hi] <;> decide) (by rw [hi] <;> decide) (by rw [hi] <;> decide) (by rw [hi] <;> decide)) hZ (hw _ (List.mem_of_getElem? (i := 40) rfl)) (hw _ (List.mem_of_getElem? (i := 3) rfl)) (by decide) (by decide)) (g := (mkF m 26 #[.val (.int p1), .val (.int ((p1 &&& (2147483647 : Int32)) % (7 : Int32))), .val (.ref a_WAITS_AGAIN), .val (.ref a_FALLS_DUE_AFTER_WAITING)] [(.int ((p1 &&& (2147483647 : Int32)) % (7 : Int32))), (.ref a_FALLS_DUE_AFTER_WAITING)])) rfl (by rw [hml]; rfl) (argsL := [(.int ((p1 &&& (2147483647 : Int32)) % (7 : Int32)))]) (rest := [(.ref a_FALLS_DUE_AFTER_WAITING)]) (lenOf pdw_2 rfl) rfl (by show 2 * 0 + _ ≤ _; exact Nat.le_of_eq rfl) (hb hby at_26) (fun _ _ => ⟨rfl, rfl, (by decide : 1 + 0 ≤ _), (by decide : 7 + 0 ≤ _)⟩)
  dsimp only [Pt.U, Pt.locs, Pt.cells, Pt.slots] at X4 l4 y4 z4 st4 hQ4
  subst l4 y4 z4
  obtain ⟨rfl, N4q, hh4⟩ := hQ4
  have N4 := Fr.app N3 N4q
  -- pc 35: com/example/acompte/acompte/DocumentKind$Vat.waiting by the contract of the body that the receiver's class selects, rm5
  obtain ⟨cq5, kq5, q5a, q5b, q5c⟩ := isOf hZ hh4 (((E_FALLS_DUE_AFTER_WAITING)))
  obtain ⟨_, _, ⟨T5, L5, k5, n5⟩, -, X5, ⟨Lc5, hQ5, l5, y5, z5⟩, st5⟩ := X4.virtualBack hx (y := (⟨"com/example/acompte/acompte/DocumentKind$Vat", "waiting", "()I"⟩ : MethodName)) (z := (⟨"com/example/acompte/acompte/DocumentKind$Vat", "waiting", "()I"⟩ : MethodName)) hown (mvT hZ (hw _ (List.mem_of_getElem? (i := 41) rfl))) (mvT hZ (hw _ (List.mem_of_getElem? (i := 42) rfl))) (notFace_of_selects (args := #[]) (mvT hZ (hw _ (List.mem_of_getElem? (i := 44) rfl)))) (mvT hZ (hw _ (List.mem_of_getElem? (i := 44) rfl))) (mvT hZ (hw _ (List.mem_of_getElem? (i := 43) rfl))) (by decide) (backOf (W := 0) (rm5 l Z a0 hw [] a_FALLS_DUE_AFTER_WAITING (-1 : Int32) T3.heap n0 Zh2 Fw_FALLS_DUE_AFTER_WAITING) hZ (hw _ (List.mem_of_getElem? (i := 45) rfl)) (hw _ (List.mem_of_getElem? (i := 6) rfl)) (by decide) (by decide)) q5a q5c (g := (mkF m 35 #[.val (.int p1), .val (.int ((p1 &&& (2147483647 : Int32)) % (7 : Int32))), .val (.ref a_WAITS_AGAIN), .val (.ref a_FALLS_DUE_AFTER_WAITING)] [(.ref a_FALLS_DUE_AFTER_WAITING)])) rfl (by rw [hml]; rfl) (Steps.refl _) (argsL := []) (rest := []) (lenOf pdw_4 rfl) rfl (by show 2 * 0 + _ ≤ _; exact Nat.le_of_eq rfl) (hb hby at_35) (fun _ _ => ⟨rfl, hh4, (by decide : 1 + 0 ≤ _), (by decide : 7 + 0 ≤ _)⟩)
  dsimp only [Pt.U, Pt.locs, Pt.cells, Pt.slots] at X5 l5 y5 z5 st5 hQ5
  subst l5 y5 z5
  obtain ⟨rfl, N5q, hh5⟩ := hQ5
  have N5 := Fr.app N4 N5q
  -- pc 39: com/example/acompte/acompte/DocumentKind$Vat.waiting by the contract of the body that the receiver's class selects, rm5
  obtain ⟨cq6, kq6, q6a, q6b, q6c⟩ := isOf hZ hh5 ((((E_WAITS_AGAIN))))
  obtain ⟨_, _, ⟨T6, L6, k6, n6⟩, -, X6, ⟨Lc6, hQ6, l6, y6, z6⟩, st6⟩ := X5.virtualBack hx (y := (⟨"com/example/acompte/acompte/DocumentKind$Vat", "waiting", "()I"⟩ : MethodName)) (z := (⟨"com/example/acompte/acompte/DocumentKind$Vat", "waiting", "()I"⟩ : MethodName)) hown (mvT hZ (hw _ (List.mem_of_getElem? (i := 41) rfl))) (mvT hZ (hw _ (List.mem_of_getElem? (i := 42) rfl))) (notFace_of_selects (args := #[]) (mvT hZ (hw _ (List.mem_of_getElem? (i := 44) rfl)))) (mvT hZ (hw _ (List.mem_of_getElem? (i := 44) rfl))) (mvT hZ (hw _ (List.mem_of_getElem? (i := 43) rfl))) (by decide) (backOf (W := 1) (rm5 l Z a0 hw [] a_WAITS_AGAIN (1 : Int32) T3.heap n0 Zh2 Fw_WAITS_AGAIN) hZ (hw _ (List.mem_of_getElem? (i := 45) rfl)) (hw _ (List.mem_of_getElem? (i := 6) rfl)) (by decide) (by decide)) q6a q6c (g := (mkF m 39 #[.val (.int p1), .val (.int ((p1 &&& (2147483647 : Int32)) % (7 : Int32))), .val (.ref a_WAITS_AGAIN), .val (.ref a_FALLS_DUE_AFTER_WAITING)] [(.ref a_WAITS_AGAIN), (.int (-1 : Int32))])) rfl (by rw [hml]; rfl) (Steps.refl _) (argsL := []) (rest := [(.int (-1 : Int32))]) (lenOf pdw_4 rfl) rfl (by show 2 * 0 + _ ≤ _; exact Nat.le_of_eq rfl) (hb hby at_39) (fun _ _ => ⟨rfl, hh5, (by decide : 1 + 0 ≤ _), (by decide : 7 + 0 ≤ _)⟩)
  dsimp only [Pt.U, Pt.locs, Pt.cells, Pt.slots] at X6 l6 y6 z6 st6 hQ6
  subst l6 y6 z6
  obtain ⟨rfl, N6q, hh6⟩ := hQ6
  have N6 := Fr.app N5 N6q
  -- pc 47: com/example/acompte/acompte/DocumentKind$Vat.due by the contract of the body that the receiver's class selects, rm6
  obtain ⟨cq7, kq7, q7a, q7b, q7c⟩ := isOf hZ hh6 (((((E_FALLS_DUE_AFTER_WAITING)))))
  obtain ⟨_, _, ⟨T7, L7, k7, n7⟩, -, X7, ⟨Lc7, hQ7, l7, y7, z7⟩, st7⟩ := X6.virtualBack hx (y := (⟨"com/example/acompte/acompte/DocumentKind$Vat", "due", "()I"⟩ : MethodName)) (z := (⟨"com/example/acompte/acompte/DocumentKind$Vat", "due", "()I"⟩ : MethodName)) hown (mvT hZ (hw _ (List.mem_of_getElem? (i := 46) rfl))) (mvT hZ (hw _ (List.mem_of_getElem? (i := 47) rfl))) (notFace_of_selects (args := #[]) (mvT hZ (hw _ (List.mem_of_getElem? (i := 49) rfl)))) (mvT hZ (hw _ (List.mem_of_getElem? (i := 49) rfl))) (mvT hZ (hw _ (List.mem_of_getElem? (i := 48) rfl))) (by decide) (backOf (W := 0) (rm6 l Z a0 hw [] a_FALLS_DUE_AFTER_WAITING (1 : Int32) T3.heap n0 Zh2 Fd_FALLS_DUE_AFTER_WAITING) hZ (hw _ (List.mem_of_getElem? (i := 50) rfl)) (hw _ (List.mem_of_getElem? (i := 6) rfl)) (by decide) (by decide)) q7a q7c (g := (mkF m 47 #[.val (.int p1), .val (.int ((p1 &&& (2147483647 : Int32)) % (7 : Int32))), .val (.ref a_WAITS_AGAIN), .val (.ref a_FALLS_DUE_AFTER_WAITING)] [(.ref a_FALLS_DUE_AFTER_WAITING)])) rfl (by rw [hml]; rfl) (Steps.refl _) (argsL := []) (rest := []) (lenOf pdw_4 rfl) rfl (by show 2 * 0 + _ ≤ _; exact Nat.le_of_eq rfl) (hb hby at_47) (fun _ _ => ⟨rfl, hh6, (by decide : 1 + 0 ≤ _), (by decide : 7 + 0 ≤ _)⟩)
  dsimp only [Pt.U, Pt.locs, Pt.cells, Pt.slots] at X7 l7 y7 z7 st7 hQ7
  subst l7 y7 z7
  obtain ⟨rfl, N7q, hh7⟩ := hQ7
  have N7 := Fr.app N6 N7q
  -- pc 51: com/example/acompte/acompte/DocumentKind$Vat.due by the contract of the body that the receiver's class selects, rm6
  obtain ⟨cq8, kq8, q8a, q8b, q8c⟩ := isOf hZ hh7 ((((((E_WAITS_AGAIN))))))
  obtain ⟨_, _, ⟨T8, L8, k8, n8⟩, -, X8, ⟨Lc8, hQ8, l8, y8, z8⟩, st8⟩ := X7.virtualBack hx (y := (⟨"com/example/acompte/acompte/DocumentKind$Vat", "due", "()I"⟩ : MethodName)) (z := (⟨"com/example/acompte/acompte/DocumentKind$Vat", "due", "()I"⟩ : MethodName)) hown (mvT hZ (hw _ (List.mem_of_getElem? (i := 46) rfl))) (mvT hZ (hw _ (List.mem_of_getElem? (i := 47) rfl))) (notFace_of_selects (args := #[]) (mvT hZ (hw _ (List.mem_of_getElem? (i := 49) rfl)))) (mvT hZ (hw _ (List.mem_of_getElem? (i := 49) rfl))) (mvT hZ (hw _ (List.mem_of_getElem? (i := 48) rfl))) (by decide) (backOf (W := 1) (rm6 l Z a0 hw [] a_WAITS_AGAIN (-1 : Int32) T3.heap n0 Zh2 Fd_WAITS_AGAIN) hZ (hw _ (List.mem_of_getElem? (i := 50) rfl)) (hw _ (List.mem_of_getElem? (i := 6) rfl)) (by decide) (by decide)) q8a q8c (g := (mkF m 51 #[.val (.int p1), .val (.int ((p1 &&& (2147483647 : Int32)) % (7 : Int32))), .val (.ref a_WAITS_AGAIN), .val (.ref a_FALLS_DUE_AFTER_WAITING)] [(.ref a_WAITS_AGAIN), (.int (1 : Int32))])) rfl (by rw [hml]; rfl) (Steps.refl _) (argsL := []) (rest := [(.int (1 : Int32))]) (lenOf pdw_4 rfl) rfl (by show 2 * 0 + _ ≤ _; exact Nat.le_of_eq rfl) (hb hby at_51) (fun _ _ => ⟨rfl, hh7, (by decide : 1 + 0 ≤ _), (by decide : 7 + 0 ≤ _)⟩)
  dsimp only [Pt.U, Pt.locs, Pt.cells, Pt.slots] at X8 l8 y8 z8 st8 hQ8
  subst l8 y8 z8
  obtain ⟨rfl, N8q, hh8⟩ := hQ8
  have N8 := Fr.app N7 N8q
  obtain ⟨fs, hr, hrun, hended, hW, hsame⟩ := X8.leave (v := some (.int (1 : Int32))) (fun h => by rw [Bd.returns] at h; cases h)
  refine ⟨_, _, pre0 _ ?_, hrun, hended, _, _, rfl, ?_, ⟨_, rfl⟩, hW, hsame.mono (by decide) (by decide)⟩
  -- 4. STEPS
  · show Steps p.tables e below (s₁.setTop (mkF m 0 #[.val (.int p1), .unset, .unset, .unset] [])) _
    refine XS.iloadN X0.here hx rfl (hb hby at_0) rfl ?_
    show Steps p.tables e below (s₁.setTop (mkF m 1 #[.val (.int p1), .unset, .unset, .unset] [(.int p1)])) _
    refine X0.ldcInt hx hown (mvT hZ (hw _ (List.mem_of_getElem? (i := 0) rfl))) (g := (mkF m 1 #[.val (.int p1), .unset, .unset, .unset] [(.int p1)])) rfl (hb hby at_1) _ ?_
    show Steps p.tables e below (s₁.setTop (mkF m 3 #[.val (.int p1), .unset, .unset, .unset] [(.int (2147483647 : Int32)), (.int p1)])) _
    refine XS.iand X0.here hx rfl (hb hby at_3) rfl ?_
    show Steps p.tables e below (s₁.setTop (mkF m 4 #[.val (.int p1), .unset, .unset, .unset] [(.int (p1 &&& (2147483647 : Int32)))])) _
    refine XS.bipush X0.here hx rfl (hb hby at_4) ?_
    show Steps p.tables e below (s₁.setTop (mkF m 6 #[.val (.int p1), .unset, .unset, .unset] [(.int (7 : Int32)), (.int (p1 &&& (2147483647 : Int32)))])) _
    refine own_irem X0.here hx rfl (hb hby at_6) rfl hnz6 ?_
    show Steps p.tables e below (s₁.setTop (mkF m 7 #[.val (.int p1), .unset, .unset, .unset] [(.int ((p1 &&& (2147483647 : Int32)) % (7 : Int32)))])) _
    refine XS.istoreN X0.here hx rfl (hb hby at_7) rfl (l' := #[.val (.int p1), .val (.int ((p1 &&& (2147483647 : Int32)) % (7 : Int32))), .unset, .unset]) rfl ?_
    show Steps p.tables e below (s₁.setTop (mkF m 8 #[.val (.int p1), .val (.int ((p1 &&& (2147483647 : Int32)) % (7 : Int32))), .unset, .unset] [])) _
    refine XS.iloadN X0.here hx rfl (hb hby at_8) rfl ?_
    show Steps p.tables e below (s₁.setTop (mkF m 9 #[.val (.int p1), .val (.int ((p1 &&& (2147483647 : Int32)) % (7 : Int32))), .unset, .unset] [(.int ((p1 &&& (2147483647 : Int32)) % (7 : Int32)))])) _
    refine st2 _ ?_
    show Steps p.tables e below (T2.setTop (mkF m 12 #[.val (.int p1), .val (.int ((p1 &&& (2147483647 : Int32)) % (7 : Int32))), .unset, .unset] [(.ref a_WAITS_AGAIN)])) _
    refine XS.astoreN X2.here hx rfl (hb hby at_12) rfl rfl (l' := #[.val (.int p1), .val (.int ((p1 &&& (2147483647 : Int32)) % (7 : Int32))), .val (.ref a_WAITS_AGAIN), .unset]) rfl ?_
    show Steps p.tables e below (T2.setTop (mkF m 13 #[.val (.int p1), .val (.int ((p1 &&& (2147483647 : Int32)) % (7 : Int32))), .val (.ref a_WAITS_AGAIN), .unset] [])) _
    refine XS.aloadN X2.here hx rfl (hb hby at_13) rfl rfl ?_
    show Steps p.tables e below (T2.setTop (mkF m 14 #[.val (.int p1), .val (.int ((p1 &&& (2147483647 : Int32)) % (7 : Int32))), .val (.ref a_WAITS_AGAIN), .unset] [(.ref a_WAITS_AGAIN)])) _
    refine st3.trans ?_
    show Steps p.tables e below (T3.setTop (mkF m 17 #[.val (.int p1), .val (.int ((p1 &&& (2147483647 : Int32)) % (7 : Int32))), .val (.ref a_WAITS_AGAIN), .unset] [(.ref a_FALLS_DUE_AFTER_WAITING)])) _
    refine XS.astoreN X3.here hx rfl (hb hby at_17) rfl rfl (l' := #[.val (.int p1), .val (.int ((p1 &&& (2147483647 : Int32)) % (7 : Int32))), .val (.ref a_WAITS_AGAIN), .val (.ref a_FALLS_DUE_AFTER_WAITING)]) rfl ?_
    show Steps p.tables e below (T3.setTop (mkF m 18 #[.val (.int p1), .val (.int ((p1 &&& (2147483647 : Int32)) % (7 : Int32))), .val (.ref a_WAITS_AGAIN), .val (.ref a_FALLS_DUE_AFTER_WAITING)] [])) _
    refine XS.aloadN X3.here hx rfl (hb hby at_18) rfl rfl ?_
    show Steps p.tables e below (T3.setTop (mkF m 19 #[.val (.int p1), .val (.int ((p1 &&& (2147483647 : Int32)) % (7 : Int32))), .val (.ref a_WAITS_AGAIN), .val (.ref a_FALLS_DUE_AFTER_WAITING)] [(.ref a_FALLS_DUE_AFTER_WAITING)])) _
    refine XS.ifnonnullYes X3.here hx rfl (pc0 := 19) (pc' := 24) rfl (hb hby at_19) rfl (by decide) (by decide) ?_
    show Steps p.tables e below (T3.setTop (mkF m 24 #[.val (.int p1), .val (.int ((p1 &&& (2147483647 : Int32)) % (7 : Int32))), .val (.ref a_WAITS_AGAIN), .val (.ref a_FALLS_DUE_AFTER_WAITING)] [])) _
    refine XS.aloadN X3.here hx rfl (hb hby at_24) rfl rfl ?_
    show Steps p.tables e below (T3.setTop (mkF m 25 #[.val (.int p1), .val (.int ((p1 &&& (2147483647 : Int32)) % (7 : Int32))), .val (.ref a_WAITS_AGAIN), .val (.ref a_FALLS_DUE_AFTER_WAITING)] [(.ref a_FALLS_DUE_AFTER_WAITING)])) _
    refine XS.iloadN X3.here hx rfl (hb hby at_25) rfl ?_
    show Steps p.tables e below (T3.setTop (mkF m 26 #[.val (.int p1), .val (.int ((p1 &&& (2147483647 : Int32)) % (7 : Int32))), .val (.ref a_WAITS_AGAIN), .val (.ref a_FALLS_DUE_AFTER_WAITING)] [(.int ((p1 &&& (2147483647 : Int32)) % (7 : Int32))), (.ref a_FALLS_DUE_AFTER_WAITING)])) _
    refine st4 _ ?_
    show Steps p.tables e below (T4.setTop (mkF m 29 #[.val (.int p1), .val (.int ((p1 &&& (2147483647 : Int32)) % (7 : Int32))), .val (.ref a_WAITS_AGAIN), .val (.ref a_FALLS_DUE_AFTER_WAITING)] [(.ref a_FALLS_DUE_AFTER_WAITING), (.ref a_FALLS_DUE_AFTER_WAITING)])) _
    refine Jvm.RoadKit.acmp (g := (mkF m 29 #[.val (.int p1), .val (.int ((p1 &&& (2147483647 : Int32)) % (7 : Int32))), .val (.ref a_WAITS_AGAIN), .val (.ref a_FALLS_DUE_AFTER_WAITING)] [(.ref a_FALLS_DUE_AFTER_WAITING), (.ref a_FALLS_DUE_AFTER_WAITING)])) X4 hx rfl rfl rfl (pc0 := 29) (pc' := 34) (same := true) rfl (hb hby at_29) rfl (decide_eq_true (congrArg Value.ref rfl)) (by decide) (by decide) ?_
    show Steps p.tables e below (T4.setTop (mkF m 34 #[.val (.int p1), .val (.int ((p1 &&& (2147483647 : Int32)) % (7 : Int32))), .val (.ref a_WAITS_AGAIN), .val (.ref a_FALLS_DUE_AFTER_WAITING)] [])) _
    refine XS.aloadN X4.here hx rfl (hb hby at_34) rfl rfl ?_
    show Steps p.tables e below (T4.setTop (mkF m 35 #[.val (.int p1), .val (.int ((p1 &&& (2147483647 : Int32)) % (7 : Int32))), .val (.ref a_WAITS_AGAIN), .val (.ref a_FALLS_DUE_AFTER_WAITING)] [(.ref a_FALLS_DUE_AFTER_WAITING)])) _
    refine st5.trans ?_
    show Steps p.tables e below (T5.setTop (mkF m 38 #[.val (.int p1), .val (.int ((p1 &&& (2147483647 : Int32)) % (7 : Int32))), .val (.ref a_WAITS_AGAIN), .val (.ref a_FALLS_DUE_AFTER_WAITING)] [(.int (-1 : Int32))])) _
    refine XS.aloadN X5.here hx rfl (hb hby at_38) rfl rfl ?_
    show Steps p.tables e below (T5.setTop (mkF m 39 #[.val (.int p1), .val (.int ((p1 &&& (2147483647 : Int32)) % (7 : Int32))), .val (.ref a_WAITS_AGAIN), .val (.ref a_FALLS_DUE_AFTER_WAITING)] [(.ref a_WAITS_AGAIN), (.int (-1 : Int32))])) _
    refine st6.trans ?_
    show Steps p.tables e below (T6.setTop (mkF m 42 #[.val (.int p1), .val (.int ((p1 &&& (2147483647 : Int32)) % (7 : Int32))), .val (.ref a_WAITS_AGAIN), .val (.ref a_FALLS_DUE_AFTER_WAITING)] [(.int (1 : Int32)), (.int (-1 : Int32))])) _
    refine XS.ineg X6.here hx rfl (hb hby at_42) rfl ?_
    show Steps p.tables e below (T6.setTop (mkF m 43 #[.val (.int p1), .val (.int ((p1 &&& (2147483647 : Int32)) % (7 : Int32))), .val (.ref a_WAITS_AGAIN), .val (.ref a_FALLS_DUE_AFTER_WAITING)] [(.int (-(1 : Int32))), (.int (-1 : Int32))])) _
    refine XS.icmpNo X6.here hx rfl (hb hby at_43) rfl (teq (by first | rfl | decide : (-1 : Int32) = (-(1 : Int32)))).2 ?_
    show Steps p.tables e below (T6.setTop (mkF m 46 #[.val (.int p1), .val (.int ((p1 &&& (2147483647 : Int32)) % (7 : Int32))), .val (.ref a_WAITS_AGAIN), .val (.ref a_FALLS_DUE_AFTER_WAITING)] [])) _
    refine XS.aloadN X6.here hx rfl (hb hby at_46) rfl rfl ?_
    show Steps p.tables e below (T6.setTop (mkF m 47 #[.val (.int p1), .val (.int ((p1 &&& (2147483647 : Int32)) % (7 : Int32))), .val (.ref a_WAITS_AGAIN), .val (.ref a_FALLS_DUE_AFTER_WAITING)] [(.ref a_FALLS_DUE_AFTER_WAITING)])) _
    refine st7.trans ?_
    show Steps p.tables e below (T7.setTop (mkF m 50 #[.val (.int p1), .val (.int ((p1 &&& (2147483647 : Int32)) % (7 : Int32))), .val (.ref a_WAITS_AGAIN), .val (.ref a_FALLS_DUE_AFTER_WAITING)] [(.int (1 : Int32))])) _
    refine XS.aloadN X7.here hx rfl (hb hby at_50) rfl rfl ?_
    show Steps p.tables e below (T7.setTop (mkF m 51 #[.val (.int p1), .val (.int ((p1 &&& (2147483647 : Int32)) % (7 : Int32))), .val (.ref a_WAITS_AGAIN), .val (.ref a_FALLS_DUE_AFTER_WAITING)] [(.ref a_WAITS_AGAIN), (.int (1 : Int32))])) _
    refine st8.trans ?_
    show Steps p.tables e below (T8.setTop (mkF m 54 #[.val (.int p1), .val (.int ((p1 &&& (2147483647 : Int32)) % (7 : Int32))), .val (.ref a_WAITS_AGAIN), .val (.ref a_FALLS_DUE_AFTER_WAITING)] [(.int (-1 : Int32)), (.int (1 : Int32))])) _
    refine XS.ineg X8.here hx rfl (hb hby at_54) rfl ?_
    show Steps p.tables e below (T8.setTop (mkF m 55 #[.val (.int p1), .val (.int ((p1 &&& (2147483647 : Int32)) % (7 : Int32))), .val (.ref a_WAITS_AGAIN), .val (.ref a_FALLS_DUE_AFTER_WAITING)] [(.int (-(-1 : Int32))), (.int (1 : Int32))])) _
    refine XS.icmpNo X8.here hx rfl (hb hby at_55) rfl (teq (by first | rfl | decide : (1 : Int32) = (-(-1 : Int32)))).2 ?_
    show Steps p.tables e below (T8.setTop (mkF m 58 #[.val (.int p1), .val (.int ((p1 &&& (2147483647 : Int32)) % (7 : Int32))), .val (.ref a_WAITS_AGAIN), .val (.ref a_FALLS_DUE_AFTER_WAITING)] [])) _
    refine XS.iconst X8.here hx rfl (hb hby at_58) ?_
    show Steps p.tables e below (T8.setTop (mkF m 59 #[.val (.int p1), .val (.int ((p1 &&& (2147483647 : Int32)) % (7 : Int32))), .val (.ref a_WAITS_AGAIN), .val (.ref a_FALLS_DUE_AFTER_WAITING)] [(.int (1 : Int32))])) _
    refine XS.goto X8.here hx rfl (pc0 := 59) (pc' := 63) rfl (hb hby at_59) (by decide) (by decide) ?_
    show Steps p.tables e below (T8.setTop (mkF m 63 #[.val (.int p1), .val (.int ((p1 &&& (2147483647 : Int32)) % (7 : Int32))), .val (.ref a_WAITS_AGAIN), .val (.ref a_FALLS_DUE_AFTER_WAITING)] [(.int (1 : Int32))])) _
    exact retN X8 hx (t := .boolean) Bd.returns (by simp) (hb hby at_63) hr
  · show Q0 h0 n0 _ T8.heap _
    exact ⟨rfl, N8⟩
set_option maxRecDepth 65536 in
set_option maxHeartbeats 40000000 in
theorem rm0_i5 (l : Launch) (Z : State) (a0 : Array Value) (hw : ∀ d ∈ tables_1, d.before a0 Z = true) (ws : List Jvm.Cond) (p1 : Int32) (a_NONE a_WAITS a_WAITS_NO_MORE a_FALLS_DUE_AFTER_WAITING a_WAITS_AGAIN a_FALLS_DUE a_TAKEN_BACK a_VALUES : Addr) (kV : ClassId) (h0 : Heap) (n0 : Nat) (Z0 : n0 ≤ h0.size) (WW : Own Z h0 a_NONE a_WAITS a_WAITS_NO_MORE a_FALLS_DUE_AFTER_WAITING a_WAITS_AGAIN a_FALLS_DUE a_TAKEN_BACK a_VALUES kV) (hi : ((p1 &&& (2147483647 : Int32)) % (7 : Int32)) = (5 : Int32)) :
    MetFree l x (head1 (Jvm.Cond.code x code maxLocals ret :: ws) room_1) (fun a U => a = #[(.int p1)] ∧ Z.Warmed39 U.vm ∧ U.heap = h0) (fun _ _ _ _ _ => True) (fun _ U o U' => ∃ v L, o = .returned v ∧ Q0 h0 n0 v U'.heap L ∧ FrameEnd U o U' L room_1.cells room_1.slots) := by
  have hnz6 : ¬ ((7 : Int32) = (0 : Int32)) := by decide
  refine MetFree.of_bodySF (plainFor_of_name pn_0) hisR ?_
  intro p e s m args below meth c s₁ Bd hml0 hP hK
  have WW0 := WW
  obtain ⟨S_NONE, S_WAITS, S_WAITS_NO_MORE, S_FALLS_DUE_AFTER_WAITING, S_WAITS_AGAIN, S_FALLS_DUE, S_TAKEN_BACK, S_VALUES, E_NONE, E_WAITS, E_WAITS_NO_MORE, E_FALLS_DUE_AFTER_WAITING, E_WAITS_AGAIN, E_FALLS_DUE, E_TAKEN_BACK, E_VALUES, Fw_NONE, Fw_WAITS, Fw_WAITS_NO_MORE, Fw_FALLS_DUE_AFTER_WAITING, Fw_WAITS_AGAIN, Fw_FALLS_DUE, Fw_TAKEN_BACK, Fd_NONE, Fd_WAITS, Fd_WAITS_NO_MORE, Fd_FALLS_DUE_AFTER_WAITING, Fd_WAITS_AGAIN, Fd_FALLS_DUE, Fd_TAKEN_BACK, V_VALUES⟩ := WW0
  obtain ⟨rfl, hZ, hh⟩ := hP
  have hx := Bd.exec
  have hby := Bd.bytes
  have hml : c.maxLocals = 4 := hml0
  have hown : s.vm.findClass "com/example/acompte/acompte/VatOppositePinLaw" = some m.cls := findClass_of_methodNamed Bd.named
  have hnm := (name_of_methodNamed Bd.named Bd.method).1
  have X0 : Stand p l e room_1 s m #[(.int p1)] below meth c s₁ [] 0 0 := Stand.of_body Bd
  have e0 : s₁.heap = h0 := by rw [← hh, Bd.state]; rfl
  have N0 := Fr.nil n0
  have pre0 : ∀ t, Steps p.tables e below (s₁.setTop (mkF m 0 #[.val (.int p1), .unset, .unset, .unset] [])) t → Steps p.tables e below (s₁.setTop (entryFrame m #[(.int p1)] maxLocals)) t := fun t k => castTop (ef_0 m p1) k
  -- 3. LAWS
  -- pc 9: com/example/acompte/acompte/VatOppositePinLaw.pick by its contract rm1
  obtain ⟨_, _, ⟨T2, L2, k2, n2⟩, -, X2, ⟨Lc2, hQ2, l2, y2, z2⟩, st2⟩ := Jvm.LawKit.callS X0 hx (y := (⟨"com/example/acompte/acompte/VatOppositePinLaw", "pick", "(I)Lcom/example/acompte/acompte/DocumentKind$Vat;"⟩ : MethodName)) hown (mvT hZ (hw _ (List.mem_of_getElem? (i := 1) rfl))) (mvT hZ (hw _ (List.mem_of_getElem? (i := 2) rfl))) (mvT hZ (hw _ (List.mem_of_getElem? (i := 3) rfl))) (mvT hZ (hw _ (List.mem_of_getElem? (i := 4) rfl))) (by decide) (backOf (W := 0) (rm1_k5 l Z a0 hw [] ((p1 &&& (2147483647 : Int32)) % (7 : Int32)) a_NONE a_WAITS a_WAITS_NO_MORE a_FALLS_DUE_AFTER_WAITING a_WAITS_AGAIN a_FALLS_DUE a_TAKEN_BACK a_VALUES kV h0 n0 Z0 WW (by rw [hi] <;> decide) (by rw [hi] <;> decide) (by rw [hi] <;> decide) (by rw [hi] <;> decide) (by rw [hi] <;> decide) (by rw [hi] <;> decide)) hZ (hw _ (List.mem_of_getElem? (i := 4) rfl)) (hw _ (List.mem_of_getElem? (i := 3) rfl)) (by decide) (by decide)) (g := (mkF m 9 #[.val (.int p1), .val (.int ((p1 &&& (2147483647 : Int32)) % (7 : Int32))), .unset, .unset] [(.int ((p1 &&& (2147483647 : Int32)) % (7 : Int32)))])) rfl (by rw [hml]; rfl) (argsL := [(.int ((p1 &&& (2147483647 : Int32)) % (7 : Int32)))]) (rest := []) (lenOf pdw_2 rfl) rfl (by show 2 * 0 + _ ≤ _; exact Nat.le_of_eq rfl) (hb hby at_9) (fun _ _ => ⟨rfl, e0, (by decide : 0 + 0 ≤ _), (by decide : 0 + 0 ≤ _)⟩)
  dsimp only [Pt.U, Pt.locs, Pt.cells, Pt.slots] at X2 l2 y2 z2 st2 hQ2
  subst l2 y2 z2
  obtain ⟨rfl, N2q, hh2⟩ := hQ2
  have N2 := Fr.app N0 N2q
  -- pc 14: com/example/acompte/acompte/DocumentKind$Vat.opposite by the contract of the body that the receiver's class selects, rm2
  obtain ⟨cq3, kq3, q3a, q3b, q3c⟩ := isOf hZ hh2 (E_FALLS_DUE)
  obtain ⟨_, _, ⟨T3, L3, k3, n3⟩, -, X3, ⟨Lc3, hQ3, l3, y3, z3⟩, st3⟩ := X2.virtualBack hx (y := (⟨"com/example/acompte/acompte/DocumentKind$Vat", "opposite", "()Lcom/example/acompte/acompte/DocumentKind$Vat;"⟩ : MethodName)) (z := (⟨"com/example/acompte/acompte/DocumentKind$Vat", "opposite", "()Lcom/example/acompte/acompte/DocumentKind$Vat;"⟩ : MethodName)) hown (mvT hZ (hw _ (List.mem_of_getElem? (i := 8) rfl))) (mvT hZ (hw _ (List.mem_of_getElem? (i := 9) rfl))) (notFace_of_selects (args := #[]) (mvT hZ (hw _ (List.mem_of_getElem? (i := 11) rfl)))) (mvT hZ (hw _ (List.mem_of_getElem? (i := 11) rfl))) (mvT hZ (hw _ (List.mem_of_getElem? (i := 10) rfl))) (by decide) (backOf (W := 0) (rm2_r5 l Z a0 hw [] a_NONE a_WAITS a_WAITS_NO_MORE a_FALLS_DUE_AFTER_WAITING a_WAITS_AGAIN a_FALLS_DUE a_TAKEN_BACK a_VALUES kV h0 n0 Z0 WW) hZ (hw _ (List.mem_of_getElem? (i := 12) rfl)) (hw _ (List.mem_of_getElem? (i := 6) rfl)) (by decide) (by decide)) q3a q3c (g := (mkF m 14 #[.val (.int p1), .val (.int ((p1 &&& (2147483647 : Int32)) % (7 : Int32))), .val (.ref a_FALLS_DUE), .unset] [(.ref a_FALLS_DUE)])) rfl (by rw [hml]; rfl) (Steps.refl _) (argsL := []) (rest := []) (lenOf pdw_3 rfl) rfl (by show 2 * 0 + _ ≤ _; exact Nat.le_of_eq rfl) (hb hby at_14) (fun _ _ => ⟨rfl, hh2, (by decide : 0 + 1 ≤ _), (by decide : 0 + 7 ≤ _)⟩)
  dsimp only [Pt.U, Pt.locs, Pt.cells, Pt.slots] at X3 l3 y3 z3 st3 hQ3
  subst l3 y3 z3
  obtain ⟨rfl, N3q, Ex2⟩ := hQ3
  have WW2 := WW.ext Ex2
  have Zh2 : n0 ≤ T3.heap.size := Nat.le_trans Z0 Ex2.1
  have WW3 := WW2
  obtain ⟨S_NONE, S_WAITS, S_WAITS_NO_MORE, S_FALLS_DUE_AFTER_WAITING, S_WAITS_AGAIN, S_FALLS_DUE, S_TAKEN_BACK, S_VALUES, E_NONE, E_WAITS, E_WAITS_NO_MORE, E_FALLS_DUE_AFTER_WAITING, E_WAITS_AGAIN, E_FALLS_DUE, E_TAKEN_BACK, E_VALUES, Fw_NONE, Fw_WAITS, Fw_WAITS_NO_MORE, Fw_FALLS_DUE_AFTER_WAITING, Fw_WAITS_AGAIN, Fw_FALLS_DUE, Fw_TAKEN_BACK, Fd_NONE, Fd_WAITS, Fd_WAITS_NO_MORE, Fd_FALLS_DUE_AFTER_WAITING, Fd_WAITS_AGAIN, Fd_FALLS_DUE, Fd_TAKEN_BACK, V_VALUES⟩ := WW3
  have N3 := Fr.app N2 N3q
  -- pc 26: com/example/acompte/acompte/VatOppositePinLaw.expected by its contract rm4
  obtain ⟨_, _, ⟨T4, L4, k4, n4⟩, -, X4, ⟨Lc4, hQ4, l4, y4, z4⟩, st4⟩ := Jvm.LawKit.callS X3 hx (y := (⟨"com/example/acompte/acompte/VatOppositePinLaw", "expected", "(I)Lcom/example/acompte/acompte/DocumentKind$Vat;"⟩ : MethodName)) hown (mvT hZ (hw _ (List.mem_of_getElem? (i := 38) rfl))) (mvT hZ (hw _ (List.mem_of_getElem? (i := 39) rfl))) (mvT hZ (hw _ (List.mem_of_getElem? (i := 3) rfl))) (mvT hZ (hw _ (List.mem_of_getElem? (i := 40) rfl))) (by decide) (backOf (W := 1) (rm4_k5 l Z a0 hw [] ((p1 &&& (2147483647 : Int32)) % (7 : Int32)) a_NONE a_WAITS a_WAITS_NO_MORE a_FALLS_DUE_AFTER_WAITING a_WAITS_AGAIN a_FALLS_DUE a_TAKEN_BACK a_VALUES kV T3.heap n0 Zh2 WW2 (by rw [hi] <;> decide) (by rw [hi] <;> decide) (by rw [hi] <;> decide) (by rw [hi] <;> decide) (by rw [hi] <;> decide) (by rw [hi] <;> decide)) hZ (hw _ (List.mem_of_getElem? (i := 40) rfl)) (hw _ (List.mem_of_getElem? (i := 3) rfl)) (by decide) (by decide)) (g := (mkF m 26 #[.val (.int p1), .val (.int ((p1 &&& (2147483647 : Int32)) % (7 : Int32))), .val (.ref a_FALLS_DUE), .val (.ref a_TAKEN_BACK)] [(.int ((p1 &&& (2147483647 : Int32)) % (7 : Int32))), (.ref a_TAKEN_BACK)])) rfl (by rw [hml]; rfl) (argsL := [(.int ((p1 &&& (2147483647 : Int32)) % (7 : Int32)))]) (rest := [(.ref a_TAKEN_BACK)]) (lenOf pdw_2 rfl) rfl (by show 2 * 0 + _ ≤ _; exact Nat.le_of_eq rfl) (hb hby at_26) (fun _ _ => ⟨rfl, rfl, (by decide : 1 + 0 ≤ _), (by decide : 7 + 0 ≤ _)⟩)
  dsimp only [Pt.U, Pt.locs, Pt.cells, Pt.slots] at X4 l4 y4 z4 st4 hQ4
  subst l4 y4 z4
  obtain ⟨rfl, N4q, hh4⟩ := hQ4
  have N4 := Fr.app N3 N4q
  -- pc 35: com/example/acompte/acompte/DocumentKind$Vat.waiting by the contract of the body that the receiver's class selects, rm5
  obtain ⟨cq5, kq5, q5a, q5b, q5c⟩ := isOf hZ hh4 (((E_TAKEN_BACK)))
  obtain ⟨_, _, ⟨T5, L5, k5, n5⟩, -, X5, ⟨Lc5, hQ5, l5, y5, z5⟩, st5⟩ := X4.virtualBack hx (y := (⟨"com/example/acompte/acompte/DocumentKind$Vat", "waiting", "()I"⟩ : MethodName)) (z := (⟨"com/example/acompte/acompte/DocumentKind$Vat", "waiting", "()I"⟩ : MethodName)) hown (mvT hZ (hw _ (List.mem_of_getElem? (i := 41) rfl))) (mvT hZ (hw _ (List.mem_of_getElem? (i := 42) rfl))) (notFace_of_selects (args := #[]) (mvT hZ (hw _ (List.mem_of_getElem? (i := 44) rfl)))) (mvT hZ (hw _ (List.mem_of_getElem? (i := 44) rfl))) (mvT hZ (hw _ (List.mem_of_getElem? (i := 43) rfl))) (by decide) (backOf (W := 0) (rm5 l Z a0 hw [] a_TAKEN_BACK (0 : Int32) T3.heap n0 Zh2 Fw_TAKEN_BACK) hZ (hw _ (List.mem_of_getElem? (i := 45) rfl)) (hw _ (List.mem_of_getElem? (i := 6) rfl)) (by decide) (by decide)) q5a q5c (g := (mkF m 35 #[.val (.int p1), .val (.int ((p1 &&& (2147483647 : Int32)) % (7 : Int32))), .val (.ref a_FALLS_DUE), .val (.ref a_TAKEN_BACK)] [(.ref a_TAKEN_BACK)])) rfl (by rw [hml]; rfl) (Steps.refl _) (argsL := []) (rest := []) (lenOf pdw_4 rfl) rfl (by show 2 * 0 + _ ≤ _; exact Nat.le_of_eq rfl) (hb hby at_35) (fun _ _ => ⟨rfl, hh4, (by decide : 1 + 0 ≤ _), (by decide : 7 + 0 ≤ _)⟩)
  dsimp only [Pt.U, Pt.locs, Pt.cells, Pt.slots] at X5 l5 y5 z5 st5 hQ5
  subst l5 y5 z5
  obtain ⟨rfl, N5q, hh5⟩ := hQ5
  have N5 := Fr.app N4 N5q
  -- pc 39: com/example/acompte/acompte/DocumentKind$Vat.waiting by the contract of the body that the receiver's class selects, rm5
  obtain ⟨cq6, kq6, q6a, q6b, q6c⟩ := isOf hZ hh5 ((((E_FALLS_DUE))))
  obtain ⟨_, _, ⟨T6, L6, k6, n6⟩, -, X6, ⟨Lc6, hQ6, l6, y6, z6⟩, st6⟩ := X5.virtualBack hx (y := (⟨"com/example/acompte/acompte/DocumentKind$Vat", "waiting", "()I"⟩ : MethodName)) (z := (⟨"com/example/acompte/acompte/DocumentKind$Vat", "waiting", "()I"⟩ : MethodName)) hown (mvT hZ (hw _ (List.mem_of_getElem? (i := 41) rfl))) (mvT hZ (hw _ (List.mem_of_getElem? (i := 42) rfl))) (notFace_of_selects (args := #[]) (mvT hZ (hw _ (List.mem_of_getElem? (i := 44) rfl)))) (mvT hZ (hw _ (List.mem_of_getElem? (i := 44) rfl))) (mvT hZ (hw _ (List.mem_of_getElem? (i := 43) rfl))) (by decide) (backOf (W := 1) (rm5 l Z a0 hw [] a_FALLS_DUE (0 : Int32) T3.heap n0 Zh2 Fw_FALLS_DUE) hZ (hw _ (List.mem_of_getElem? (i := 45) rfl)) (hw _ (List.mem_of_getElem? (i := 6) rfl)) (by decide) (by decide)) q6a q6c (g := (mkF m 39 #[.val (.int p1), .val (.int ((p1 &&& (2147483647 : Int32)) % (7 : Int32))), .val (.ref a_FALLS_DUE), .val (.ref a_TAKEN_BACK)] [(.ref a_FALLS_DUE), (.int (0 : Int32))])) rfl (by rw [hml]; rfl) (Steps.refl _) (argsL := []) (rest := [(.int (0 : Int32))]) (lenOf pdw_4 rfl) rfl (by show 2 * 0 + _ ≤ _; exact Nat.le_of_eq rfl) (hb hby at_39) (fun _ _ => ⟨rfl, hh5, (by decide : 1 + 0 ≤ _), (by decide : 7 + 0 ≤ _)⟩)
  dsimp only [Pt.U, Pt.locs, Pt.cells, Pt.slots] at X6 l6 y6 z6 st6 hQ6
  subst l6 y6 z6
  obtain ⟨rfl, N6q, hh6⟩ := hQ6
  have N6 := Fr.app N5 N6q
  -- pc 47: com/example/acompte/acompte/DocumentKind$Vat.due by the contract of the body that the receiver's class selects, rm6
  obtain ⟨cq7, kq7, q7a, q7b, q7c⟩ := isOf hZ hh6 (((((E_TAKEN_BACK)))))
  obtain ⟨_, _, ⟨T7, L7, k7, n7⟩, -, X7, ⟨Lc7, hQ7, l7, y7, z7⟩, st7⟩ := X6.virtualBack hx (y := (⟨"com/example/acompte/acompte/DocumentKind$Vat", "due", "()I"⟩ : MethodName)) (z := (⟨"com/example/acompte/acompte/DocumentKind$Vat", "due", "()I"⟩ : MethodName)) hown (mvT hZ (hw _ (List.mem_of_getElem? (i := 46) rfl))) (mvT hZ (hw _ (List.mem_of_getElem? (i := 47) rfl))) (notFace_of_selects (args := #[]) (mvT hZ (hw _ (List.mem_of_getElem? (i := 49) rfl)))) (mvT hZ (hw _ (List.mem_of_getElem? (i := 49) rfl))) (mvT hZ (hw _ (List.mem_of_getElem? (i := 48) rfl))) (by decide) (backOf (W := 0) (rm6 l Z a0 hw [] a_TAKEN_BACK (-1 : Int32) T3.heap n0 Zh2 Fd_TAKEN_BACK) hZ (hw _ (List.mem_of_getElem? (i := 50) rfl)) (hw _ (List.mem_of_getElem? (i := 6) rfl)) (by decide) (by decide)) q7a q7c (g := (mkF m 47 #[.val (.int p1), .val (.int ((p1 &&& (2147483647 : Int32)) % (7 : Int32))), .val (.ref a_FALLS_DUE), .val (.ref a_TAKEN_BACK)] [(.ref a_TAKEN_BACK)])) rfl (by rw [hml]; rfl) (Steps.refl _) (argsL := []) (rest := []) (lenOf pdw_4 rfl) rfl (by show 2 * 0 + _ ≤ _; exact Nat.le_of_eq rfl) (hb hby at_47) (fun _ _ => ⟨rfl, hh6, (by decide : 1 + 0 ≤ _), (by decide : 7 + 0 ≤ _)⟩)
  dsimp only [Pt.U, Pt.locs, Pt.cells, Pt.slots] at X7 l7 y7 z7 st7 hQ7
  subst l7 y7 z7
  obtain ⟨rfl, N7q, hh7⟩ := hQ7
  have N7 := Fr.app N6 N7q
  -- pc 51: com/example/acompte/acompte/DocumentKind$Vat.due by the contract of the body that the receiver's class selects, rm6
  obtain ⟨cq8, kq8, q8a, q8b, q8c⟩ := isOf hZ hh7 ((((((E_FALLS_DUE))))))
  obtain ⟨_, _, ⟨T8, L8, k8, n8⟩, -, X8, ⟨Lc8, hQ8, l8, y8, z8⟩, st8⟩ := X7.virtualBack hx (y := (⟨"com/example/acompte/acompte/DocumentKind$Vat", "due", "()I"⟩ : MethodName)) (z := (⟨"com/example/acompte/acompte/DocumentKind$Vat", "due", "()I"⟩ : MethodName)) hown (mvT hZ (hw _ (List.mem_of_getElem? (i := 46) rfl))) (mvT hZ (hw _ (List.mem_of_getElem? (i := 47) rfl))) (notFace_of_selects (args := #[]) (mvT hZ (hw _ (List.mem_of_getElem? (i := 49) rfl)))) (mvT hZ (hw _ (List.mem_of_getElem? (i := 49) rfl))) (mvT hZ (hw _ (List.mem_of_getElem? (i := 48) rfl))) (by decide) (backOf (W := 1) (rm6 l Z a0 hw [] a_FALLS_DUE (1 : Int32) T3.heap n0 Zh2 Fd_FALLS_DUE) hZ (hw _ (List.mem_of_getElem? (i := 50) rfl)) (hw _ (List.mem_of_getElem? (i := 6) rfl)) (by decide) (by decide)) q8a q8c (g := (mkF m 51 #[.val (.int p1), .val (.int ((p1 &&& (2147483647 : Int32)) % (7 : Int32))), .val (.ref a_FALLS_DUE), .val (.ref a_TAKEN_BACK)] [(.ref a_FALLS_DUE), (.int (-1 : Int32))])) rfl (by rw [hml]; rfl) (Steps.refl _) (argsL := []) (rest := [(.int (-1 : Int32))]) (lenOf pdw_4 rfl) rfl (by show 2 * 0 + _ ≤ _; exact Nat.le_of_eq rfl) (hb hby at_51) (fun _ _ => ⟨rfl, hh7, (by decide : 1 + 0 ≤ _), (by decide : 7 + 0 ≤ _)⟩)
  dsimp only [Pt.U, Pt.locs, Pt.cells, Pt.slots] at X8 l8 y8 z8 st8 hQ8
  subst l8 y8 z8
  obtain ⟨rfl, N8q, hh8⟩ := hQ8
  have N8 := Fr.app N7 N8q
  obtain ⟨fs, hr, hrun, hended, hW, hsame⟩ := X8.leave (v := some (.int (1 : Int32))) (fun h => by rw [Bd.returns] at h; cases h)
  refine ⟨_, _, pre0 _ ?_, hrun, hended, _, _, rfl, ?_, ⟨_, rfl⟩, hW, hsame.mono (by decide) (by decide)⟩
  -- 4. STEPS
  · show Steps p.tables e below (s₁.setTop (mkF m 0 #[.val (.int p1), .unset, .unset, .unset] [])) _
    refine XS.iloadN X0.here hx rfl (hb hby at_0) rfl ?_
    show Steps p.tables e below (s₁.setTop (mkF m 1 #[.val (.int p1), .unset, .unset, .unset] [(.int p1)])) _
    refine X0.ldcInt hx hown (mvT hZ (hw _ (List.mem_of_getElem? (i := 0) rfl))) (g := (mkF m 1 #[.val (.int p1), .unset, .unset, .unset] [(.int p1)])) rfl (hb hby at_1) _ ?_
    show Steps p.tables e below (s₁.setTop (mkF m 3 #[.val (.int p1), .unset, .unset, .unset] [(.int (2147483647 : Int32)), (.int p1)])) _
    refine XS.iand X0.here hx rfl (hb hby at_3) rfl ?_
    show Steps p.tables e below (s₁.setTop (mkF m 4 #[.val (.int p1), .unset, .unset, .unset] [(.int (p1 &&& (2147483647 : Int32)))])) _
    refine XS.bipush X0.here hx rfl (hb hby at_4) ?_
    show Steps p.tables e below (s₁.setTop (mkF m 6 #[.val (.int p1), .unset, .unset, .unset] [(.int (7 : Int32)), (.int (p1 &&& (2147483647 : Int32)))])) _
    refine own_irem X0.here hx rfl (hb hby at_6) rfl hnz6 ?_
    show Steps p.tables e below (s₁.setTop (mkF m 7 #[.val (.int p1), .unset, .unset, .unset] [(.int ((p1 &&& (2147483647 : Int32)) % (7 : Int32)))])) _
    refine XS.istoreN X0.here hx rfl (hb hby at_7) rfl (l' := #[.val (.int p1), .val (.int ((p1 &&& (2147483647 : Int32)) % (7 : Int32))), .unset, .unset]) rfl ?_
    show Steps p.tables e below (s₁.setTop (mkF m 8 #[.val (.int p1), .val (.int ((p1 &&& (2147483647 : Int32)) % (7 : Int32))), .unset, .unset] [])) _
    refine XS.iloadN X0.here hx rfl (hb hby at_8) rfl ?_
    show Steps p.tables e below (s₁.setTop (mkF m 9 #[.val (.int p1), .val (.int ((p1 &&& (2147483647 : Int32)) % (7 : Int32))), .unset, .unset] [(.int ((p1 &&& (2147483647 : Int32)) % (7 : Int32)))])) _
    refine st2 _ ?_
    show Steps p.tables e below (T2.setTop (mkF m 12 #[.val (.int p1), .val (.int ((p1 &&& (2147483647 : Int32)) % (7 : Int32))), .unset, .unset] [(.ref a_FALLS_DUE)])) _
    refine XS.astoreN X2.here hx rfl (hb hby at_12) rfl rfl (l' := #[.val (.int p1), .val (.int ((p1 &&& (2147483647 : Int32)) % (7 : Int32))), .val (.ref a_FALLS_DUE), .unset]) rfl ?_
    show Steps p.tables e below (T2.setTop (mkF m 13 #[.val (.int p1), .val (.int ((p1 &&& (2147483647 : Int32)) % (7 : Int32))), .val (.ref a_FALLS_DUE), .unset] [])) _
    refine XS.aloadN X2.here hx rfl (hb hby at_13) rfl rfl ?_
    show Steps p.tables e below (T2.setTop (mkF m 14 #[.val (.int p1), .val (.int ((p1 &&& (2147483647 : Int32)) % (7 : Int32))), .val (.ref a_FALLS_DUE), .unset] [(.ref a_FALLS_DUE)])) _
    refine st3.trans ?_
    show Steps p.tables e below (T3.setTop (mkF m 17 #[.val (.int p1), .val (.int ((p1 &&& (2147483647 : Int32)) % (7 : Int32))), .val (.ref a_FALLS_DUE), .unset] [(.ref a_TAKEN_BACK)])) _
    refine XS.astoreN X3.here hx rfl (hb hby at_17) rfl rfl (l' := #[.val (.int p1), .val (.int ((p1 &&& (2147483647 : Int32)) % (7 : Int32))), .val (.ref a_FALLS_DUE), .val (.ref a_TAKEN_BACK)]) rfl ?_
    show Steps p.tables e below (T3.setTop (mkF m 18 #[.val (.int p1), .val (.int ((p1 &&& (2147483647 : Int32)) % (7 : Int32))), .val (.ref a_FALLS_DUE), .val (.ref a_TAKEN_BACK)] [])) _
    refine XS.aloadN X3.here hx rfl (hb hby at_18) rfl rfl ?_
    show Steps p.tables e below (T3.setTop (mkF m 19 #[.val (.int p1), .val (.int ((p1 &&& (2147483647 : Int32)) % (7 : Int32))), .val (.ref a_FALLS_DUE), .val (.ref a_TAKEN_BACK)] [(.ref a_TAKEN_BACK)])) _
    refine XS.ifnonnullYes X3.here hx rfl (pc0 := 19) (pc' := 24) rfl (hb hby at_19) rfl (by decide) (by decide) ?_
    show Steps p.tables e below (T3.setTop (mkF m 24 #[.val (.int p1), .val (.int ((p1 &&& (2147483647 : Int32)) % (7 : Int32))), .val (.ref a_FALLS_DUE), .val (.ref a_TAKEN_BACK)] [])) _
    refine XS.aloadN X3.here hx rfl (hb hby at_24) rfl rfl ?_
    show Steps p.tables e below (T3.setTop (mkF m 25 #[.val (.int p1), .val (.int ((p1 &&& (2147483647 : Int32)) % (7 : Int32))), .val (.ref a_FALLS_DUE), .val (.ref a_TAKEN_BACK)] [(.ref a_TAKEN_BACK)])) _
    refine XS.iloadN X3.here hx rfl (hb hby at_25) rfl ?_
    show Steps p.tables e below (T3.setTop (mkF m 26 #[.val (.int p1), .val (.int ((p1 &&& (2147483647 : Int32)) % (7 : Int32))), .val (.ref a_FALLS_DUE), .val (.ref a_TAKEN_BACK)] [(.int ((p1 &&& (2147483647 : Int32)) % (7 : Int32))), (.ref a_TAKEN_BACK)])) _
    refine st4 _ ?_
    show Steps p.tables e below (T4.setTop (mkF m 29 #[.val (.int p1), .val (.int ((p1 &&& (2147483647 : Int32)) % (7 : Int32))), .val (.ref a_FALLS_DUE), .val (.ref a_TAKEN_BACK)] [(.ref a_TAKEN_BACK), (.ref a_TAKEN_BACK)])) _
    refine Jvm.RoadKit.acmp (g := (mkF m 29 #[.val (.int p1), .val (.int ((p1 &&& (2147483647 : Int32)) % (7 : Int32))), .val (.ref a_FALLS_DUE), .val (.ref a_TAKEN_BACK)] [(.ref a_TAKEN_BACK), (.ref a_TAKEN_BACK)])) X4 hx rfl rfl rfl (pc0 := 29) (pc' := 34) (same := true) rfl (hb hby at_29) rfl (decide_eq_true (congrArg Value.ref rfl)) (by decide) (by decide) ?_
    show Steps p.tables e below (T4.setTop (mkF m 34 #[.val (.int p1), .val (.int ((p1 &&& (2147483647 : Int32)) % (7 : Int32))), .val (.ref a_FALLS_DUE), .val (.ref a_TAKEN_BACK)] [])) _
    refine XS.aloadN X4.here hx rfl (hb hby at_34) rfl rfl ?_
    show Steps p.tables e below (T4.setTop (mkF m 35 #[.val (.int p1), .val (.int ((p1 &&& (2147483647 : Int32)) % (7 : Int32))), .val (.ref a_FALLS_DUE), .val (.ref a_TAKEN_BACK)] [(.ref a_TAKEN_BACK)])) _
    refine st5.trans ?_
    show Steps p.tables e below (T5.setTop (mkF m 38 #[.val (.int p1), .val (.int ((p1 &&& (2147483647 : Int32)) % (7 : Int32))), .val (.ref a_FALLS_DUE), .val (.ref a_TAKEN_BACK)] [(.int (0 : Int32))])) _
    refine XS.aloadN X5.here hx rfl (hb hby at_38) rfl rfl ?_
    show Steps p.tables e below (T5.setTop (mkF m 39 #[.val (.int p1), .val (.int ((p1 &&& (2147483647 : Int32)) % (7 : Int32))), .val (.ref a_FALLS_DUE), .val (.ref a_TAKEN_BACK)] [(.ref a_FALLS_DUE), (.int (0 : Int32))])) _
    refine st6.trans ?_
    show Steps p.tables e below (T6.setTop (mkF m 42 #[.val (.int p1), .val (.int ((p1 &&& (2147483647 : Int32)) % (7 : Int32))), .val (.ref a_FALLS_DUE), .val (.ref a_TAKEN_BACK)] [(.int (0 : Int32)), (.int (0 : Int32))])) _
    refine XS.ineg X6.here hx rfl (hb hby at_42) rfl ?_
    show Steps p.tables e below (T6.setTop (mkF m 43 #[.val (.int p1), .val (.int ((p1 &&& (2147483647 : Int32)) % (7 : Int32))), .val (.ref a_FALLS_DUE), .val (.ref a_TAKEN_BACK)] [(.int (-(0 : Int32))), (.int (0 : Int32))])) _
    refine XS.icmpNo X6.here hx rfl (hb hby at_43) rfl (teq (by first | rfl | decide : (0 : Int32) = (-(0 : Int32)))).2 ?_
    show Steps p.tables e below (T6.setTop (mkF m 46 #[.val (.int p1), .val (.int ((p1 &&& (2147483647 : Int32)) % (7 : Int32))), .val (.ref a_FALLS_DUE), .val (.ref a_TAKEN_BACK)] [])) _
    refine XS.aloadN X6.here hx rfl (hb hby at_46) rfl rfl ?_
    show Steps p.tables e below (T6.setTop (mkF m 47 #[.val (.int p1), .val (.int ((p1 &&& (2147483647 : Int32)) % (7 : Int32))), .val (.ref a_FALLS_DUE), .val (.ref a_TAKEN_BACK)] [(.ref a_TAKEN_BACK)])) _
    refine st7.trans ?_
    show Steps p.tables e below (T7.setTop (mkF m 50 #[.val (.int p1), .val (.int ((p1 &&& (2147483647 : Int32)) % (7 : Int32))), .val (.ref a_FALLS_DUE), .val (.ref a_TAKEN_BACK)] [(.int (-1 : Int32))])) _
    refine XS.aloadN X7.here hx rfl (hb hby at_50) rfl rfl ?_
    show Steps p.tables e below (T7.setTop (mkF m 51 #[.val (.int p1), .val (.int ((p1 &&& (2147483647 : Int32)) % (7 : Int32))), .val (.ref a_FALLS_DUE), .val (.ref a_TAKEN_BACK)] [(.ref a_FALLS_DUE), (.int (-1 : Int32))])) _
    refine st8.trans ?_
    show Steps p.tables e below (T8.setTop (mkF m 54 #[.val (.int p1), .val (.int ((p1 &&& (2147483647 : Int32)) % (7 : Int32))), .val (.ref a_FALLS_DUE), .val (.ref a_TAKEN_BACK)] [(.int (1 : Int32)), (.int (-1 : Int32))])) _
    refine XS.ineg X8.here hx rfl (hb hby at_54) rfl ?_
    show Steps p.tables e below (T8.setTop (mkF m 55 #[.val (.int p1), .val (.int ((p1 &&& (2147483647 : Int32)) % (7 : Int32))), .val (.ref a_FALLS_DUE), .val (.ref a_TAKEN_BACK)] [(.int (-(1 : Int32))), (.int (-1 : Int32))])) _
    refine XS.icmpNo X8.here hx rfl (hb hby at_55) rfl (teq (by first | rfl | decide : (-1 : Int32) = (-(1 : Int32)))).2 ?_
    show Steps p.tables e below (T8.setTop (mkF m 58 #[.val (.int p1), .val (.int ((p1 &&& (2147483647 : Int32)) % (7 : Int32))), .val (.ref a_FALLS_DUE), .val (.ref a_TAKEN_BACK)] [])) _
    refine XS.iconst X8.here hx rfl (hb hby at_58) ?_
    show Steps p.tables e below (T8.setTop (mkF m 59 #[.val (.int p1), .val (.int ((p1 &&& (2147483647 : Int32)) % (7 : Int32))), .val (.ref a_FALLS_DUE), .val (.ref a_TAKEN_BACK)] [(.int (1 : Int32))])) _
    refine XS.goto X8.here hx rfl (pc0 := 59) (pc' := 63) rfl (hb hby at_59) (by decide) (by decide) ?_
    show Steps p.tables e below (T8.setTop (mkF m 63 #[.val (.int p1), .val (.int ((p1 &&& (2147483647 : Int32)) % (7 : Int32))), .val (.ref a_FALLS_DUE), .val (.ref a_TAKEN_BACK)] [(.int (1 : Int32))])) _
    exact retN X8 hx (t := .boolean) Bd.returns (by simp) (hb hby at_63) hr
  · show Q0 h0 n0 _ T8.heap _
    exact ⟨rfl, N8⟩
set_option maxRecDepth 65536 in
set_option maxHeartbeats 40000000 in
theorem rm0_i6 (l : Launch) (Z : State) (a0 : Array Value) (hw : ∀ d ∈ tables_1, d.before a0 Z = true) (ws : List Jvm.Cond) (p1 : Int32) (a_NONE a_WAITS a_WAITS_NO_MORE a_FALLS_DUE_AFTER_WAITING a_WAITS_AGAIN a_FALLS_DUE a_TAKEN_BACK a_VALUES : Addr) (kV : ClassId) (h0 : Heap) (n0 : Nat) (Z0 : n0 ≤ h0.size) (WW : Own Z h0 a_NONE a_WAITS a_WAITS_NO_MORE a_FALLS_DUE_AFTER_WAITING a_WAITS_AGAIN a_FALLS_DUE a_TAKEN_BACK a_VALUES kV) (hi : ((p1 &&& (2147483647 : Int32)) % (7 : Int32)) = (6 : Int32)) :
    MetFree l x (head1 (Jvm.Cond.code x code maxLocals ret :: ws) room_1) (fun a U => a = #[(.int p1)] ∧ Z.Warmed39 U.vm ∧ U.heap = h0) (fun _ _ _ _ _ => True) (fun _ U o U' => ∃ v L, o = .returned v ∧ Q0 h0 n0 v U'.heap L ∧ FrameEnd U o U' L room_1.cells room_1.slots) := by
  have hnz6 : ¬ ((7 : Int32) = (0 : Int32)) := by decide
  refine MetFree.of_bodySF (plainFor_of_name pn_0) hisR ?_
  intro p e s m args below meth c s₁ Bd hml0 hP hK
  have WW0 := WW
  obtain ⟨S_NONE, S_WAITS, S_WAITS_NO_MORE, S_FALLS_DUE_AFTER_WAITING, S_WAITS_AGAIN, S_FALLS_DUE, S_TAKEN_BACK, S_VALUES, E_NONE, E_WAITS, E_WAITS_NO_MORE, E_FALLS_DUE_AFTER_WAITING, E_WAITS_AGAIN, E_FALLS_DUE, E_TAKEN_BACK, E_VALUES, Fw_NONE, Fw_WAITS, Fw_WAITS_NO_MORE, Fw_FALLS_DUE_AFTER_WAITING, Fw_WAITS_AGAIN, Fw_FALLS_DUE, Fw_TAKEN_BACK, Fd_NONE, Fd_WAITS, Fd_WAITS_NO_MORE, Fd_FALLS_DUE_AFTER_WAITING, Fd_WAITS_AGAIN, Fd_FALLS_DUE, Fd_TAKEN_BACK, V_VALUES⟩ := WW0
  obtain ⟨rfl, hZ, hh⟩ := hP
  have hx := Bd.exec
  have hby := Bd.bytes
  have hml : c.maxLocals = 4 := hml0
  have hown : s.vm.findClass "com/example/acompte/acompte/VatOppositePinLaw" = some m.cls := findClass_of_methodNamed Bd.named
  have hnm := (name_of_methodNamed Bd.named Bd.method).1
  have X0 : Stand p l e room_1 s m #[(.int p1)] below meth c s₁ [] 0 0 := Stand.of_body Bd
  have e0 : s₁.heap = h0 := by rw [← hh, Bd.state]; rfl
  have N0 := Fr.nil n0
  have pre0 : ∀ t, Steps p.tables e below (s₁.setTop (mkF m 0 #[.val (.int p1), .unset, .unset, .unset] [])) t → Steps p.tables e below (s₁.setTop (entryFrame m #[(.int p1)] maxLocals)) t := fun t k => castTop (ef_0 m p1) k
  -- 3. LAWS
  -- pc 9: com/example/acompte/acompte/VatOppositePinLaw.pick by its contract rm1
  obtain ⟨_, _, ⟨T2, L2, k2, n2⟩, -, X2, ⟨Lc2, hQ2, l2, y2, z2⟩, st2⟩ := Jvm.LawKit.callS X0 hx (y := (⟨"com/example/acompte/acompte/VatOppositePinLaw", "pick", "(I)Lcom/example/acompte/acompte/DocumentKind$Vat;"⟩ : MethodName)) hown (mvT hZ (hw _ (List.mem_of_getElem? (i := 1) rfl))) (mvT hZ (hw _ (List.mem_of_getElem? (i := 2) rfl))) (mvT hZ (hw _ (List.mem_of_getElem? (i := 3) rfl))) (mvT hZ (hw _ (List.mem_of_getElem? (i := 4) rfl))) (by decide) (backOf (W := 0) (rm1_k6 l Z a0 hw [] ((p1 &&& (2147483647 : Int32)) % (7 : Int32)) a_NONE a_WAITS a_WAITS_NO_MORE a_FALLS_DUE_AFTER_WAITING a_WAITS_AGAIN a_FALLS_DUE a_TAKEN_BACK a_VALUES kV h0 n0 Z0 WW (by rw [hi] <;> decide) (by rw [hi] <;> decide) (by rw [hi] <;> decide) (by rw [hi] <;> decide) (by rw [hi] <;> decide) (by rw [hi] <;> decide)) hZ (hw _ (List.mem_of_getElem? (i := 4) rfl)) (hw _ (List.mem_of_getElem? (i := 3) rfl)) (by decide) (by decide)) (g := (mkF m 9 #[.val (.int p1), .val (.int ((p1 &&& (2147483647 : Int32)) % (7 : Int32))), .unset, .unset] [(.int ((p1 &&& (2147483647 : Int32)) % (7 : Int32)))])) rfl (by rw [hml]; rfl) (argsL := [(.int ((p1 &&& (2147483647 : Int32)) % (7 : Int32)))]) (rest := []) (lenOf pdw_2 rfl) rfl (by show 2 * 0 + _ ≤ _; exact Nat.le_of_eq rfl) (hb hby at_9) (fun _ _ => ⟨rfl, e0, (by decide : 0 + 0 ≤ _), (by decide : 0 + 0 ≤ _)⟩)
  dsimp only [Pt.U, Pt.locs, Pt.cells, Pt.slots] at X2 l2 y2 z2 st2 hQ2
  subst l2 y2 z2
  obtain ⟨rfl, N2q, hh2⟩ := hQ2
  have N2 := Fr.app N0 N2q
  -- pc 14: com/example/acompte/acompte/DocumentKind$Vat.opposite by the contract of the body that the receiver's class selects, rm2
  obtain ⟨cq3, kq3, q3a, q3b, q3c⟩ := isOf hZ hh2 (E_TAKEN_BACK)
  obtain ⟨_, _, ⟨T3, L3, k3, n3⟩, -, X3, ⟨Lc3, hQ3, l3, y3, z3⟩, st3⟩ := X2.virtualBack hx (y := (⟨"com/example/acompte/acompte/DocumentKind$Vat", "opposite", "()Lcom/example/acompte/acompte/DocumentKind$Vat;"⟩ : MethodName)) (z := (⟨"com/example/acompte/acompte/DocumentKind$Vat", "opposite", "()Lcom/example/acompte/acompte/DocumentKind$Vat;"⟩ : MethodName)) hown (mvT hZ (hw _ (List.mem_of_getElem? (i := 8) rfl))) (mvT hZ (hw _ (List.mem_of_getElem? (i := 9) rfl))) (notFace_of_selects (args := #[]) (mvT hZ (hw _ (List.mem_of_getElem? (i := 11) rfl)))) (mvT hZ (hw _ (List.mem_of_getElem? (i := 11) rfl))) (mvT hZ (hw _ (List.mem_of_getElem? (i := 10) rfl))) (by decide) (backOf (W := 0) (rm2_r6 l Z a0 hw [] a_NONE a_WAITS a_WAITS_NO_MORE a_FALLS_DUE_AFTER_WAITING a_WAITS_AGAIN a_FALLS_DUE a_TAKEN_BACK a_VALUES kV h0 n0 Z0 WW) hZ (hw _ (List.mem_of_getElem? (i := 12) rfl)) (hw _ (List.mem_of_getElem? (i := 6) rfl)) (by decide) (by decide)) q3a q3c (g := (mkF m 14 #[.val (.int p1), .val (.int ((p1 &&& (2147483647 : Int32)) % (7 : Int32))), .val (.ref a_TAKEN_BACK), .unset] [(.ref a_TAKEN_BACK)])) rfl (by rw [hml]; rfl) (Steps.refl _) (argsL := []) (rest := []) (lenOf pdw_3 rfl) rfl (by show 2 * 0 + _ ≤ _; exact Nat.le_of_eq rfl) (hb hby at_14) (fun _ _ => ⟨rfl, hh2, (by decide : 0 + 1 ≤ _), (by decide : 0 + 7 ≤ _)⟩)
  dsimp only [Pt.U, Pt.locs, Pt.cells, Pt.slots] at X3 l3 y3 z3 st3 hQ3
  subst l3 y3 z3
  obtain ⟨rfl, N3q, Ex2⟩ := hQ3
  have WW2 := WW.ext Ex2
  have Zh2 : n0 ≤ T3.heap.size := Nat.le_trans Z0 Ex2.1
  have WW3 := WW2
  obtain ⟨S_NONE, S_WAITS, S_WAITS_NO_MORE, S_FALLS_DUE_AFTER_WAITING, S_WAITS_AGAIN, S_FALLS_DUE, S_TAKEN_BACK, S_VALUES, E_NONE, E_WAITS, E_WAITS_NO_MORE, E_FALLS_DUE_AFTER_WAITING, E_WAITS_AGAIN, E_FALLS_DUE, E_TAKEN_BACK, E_VALUES, Fw_NONE, Fw_WAITS, Fw_WAITS_NO_MORE, Fw_FALLS_DUE_AFTER_WAITING, Fw_WAITS_AGAIN, Fw_FALLS_DUE, Fw_TAKEN_BACK, Fd_NONE, Fd_WAITS, Fd_WAITS_NO_MORE, Fd_FALLS_DUE_AFTER_WAITING, Fd_WAITS_AGAIN, Fd_FALLS_DUE, Fd_TAKEN_BACK, V_VALUES⟩ := WW3
  have N3 := Fr.app N2 N3q
  -- pc 26: com/example/acompte/acompte/VatOppositePinLaw.expected by its contract rm4
  obtain ⟨_, _, ⟨T4, L4, k4, n4⟩, -, X4, ⟨Lc4, hQ4, l4, y4, z4⟩, st4⟩ := Jvm.LawKit.callS X3 hx (y := (⟨"com/example/acompte/acompte/VatOppositePinLaw", "expected", "(I)Lcom/example/acompte/acompte/DocumentKind$Vat;"⟩ : MethodName)) hown (mvT hZ (hw _ (List.mem_of_getElem? (i := 38) rfl))) (mvT hZ (hw _ (List.mem_of_getElem? (i := 39) rfl))) (mvT hZ (hw _ (List.mem_of_getElem? (i := 3) rfl))) (mvT hZ (hw _ (List.mem_of_getElem? (i := 40) rfl))) (by decide) (backOf (W := 1) (rm4_k6 l Z a0 hw [] ((p1 &&& (2147483647 : Int32)) % (7 : Int32)) a_NONE a_WAITS a_WAITS_NO_MORE a_FALLS_DUE_AFTER_WAITING a_WAITS_AGAIN a_FALLS_DUE a_TAKEN_BACK a_VALUES kV T3.heap n0 Zh2 WW2 (by rw [hi] <;> decide) (by rw [hi] <;> decide) (by rw [hi] <;> decide) (by rw [hi] <;> decide) (by rw [hi] <;> decide) (by rw [hi] <;> decide)) hZ (hw _ (List.mem_of_getElem? (i := 40) rfl)) (hw _ (List.mem_of_getElem? (i := 3) rfl)) (by decide) (by decide)) (g := (mkF m 26 #[.val (.int p1), .val (.int ((p1 &&& (2147483647 : Int32)) % (7 : Int32))), .val (.ref a_TAKEN_BACK), .val (.ref a_FALLS_DUE)] [(.int ((p1 &&& (2147483647 : Int32)) % (7 : Int32))), (.ref a_FALLS_DUE)])) rfl (by rw [hml]; rfl) (argsL := [(.int ((p1 &&& (2147483647 : Int32)) % (7 : Int32)))]) (rest := [(.ref a_FALLS_DUE)]) (lenOf pdw_2 rfl) rfl (by show 2 * 0 + _ ≤ _; exact Nat.le_of_eq rfl) (hb hby at_26) (fun _ _ => ⟨rfl, rfl, (by decide : 1 + 0 ≤ _), (by decide : 7 + 0 ≤ _)⟩)
  dsimp only [Pt.U, Pt.locs, Pt.cells, Pt.slots] at X4 l4 y4 z4 st4 hQ4
  subst l4 y4 z4
  obtain ⟨rfl, N4q, hh4⟩ := hQ4
  have N4 := Fr.app N3 N4q
  -- pc 35: com/example/acompte/acompte/DocumentKind$Vat.waiting by the contract of the body that the receiver's class selects, rm5
  obtain ⟨cq5, kq5, q5a, q5b, q5c⟩ := isOf hZ hh4 (((E_FALLS_DUE)))
  obtain ⟨_, _, ⟨T5, L5, k5, n5⟩, -, X5, ⟨Lc5, hQ5, l5, y5, z5⟩, st5⟩ := X4.virtualBack hx (y := (⟨"com/example/acompte/acompte/DocumentKind$Vat", "waiting", "()I"⟩ : MethodName)) (z := (⟨"com/example/acompte/acompte/DocumentKind$Vat", "waiting", "()I"⟩ : MethodName)) hown (mvT hZ (hw _ (List.mem_of_getElem? (i := 41) rfl))) (mvT hZ (hw _ (List.mem_of_getElem? (i := 42) rfl))) (notFace_of_selects (args := #[]) (mvT hZ (hw _ (List.mem_of_getElem? (i := 44) rfl)))) (mvT hZ (hw _ (List.mem_of_getElem? (i := 44) rfl))) (mvT hZ (hw _ (List.mem_of_getElem? (i := 43) rfl))) (by decide) (backOf (W := 0) (rm5 l Z a0 hw [] a_FALLS_DUE (0 : Int32) T3.heap n0 Zh2 Fw_FALLS_DUE) hZ (hw _ (List.mem_of_getElem? (i := 45) rfl)) (hw _ (List.mem_of_getElem? (i := 6) rfl)) (by decide) (by decide)) q5a q5c (g := (mkF m 35 #[.val (.int p1), .val (.int ((p1 &&& (2147483647 : Int32)) % (7 : Int32))), .val (.ref a_TAKEN_BACK), .val (.ref a_FALLS_DUE)] [(.ref a_FALLS_DUE)])) rfl (by rw [hml]; rfl) (Steps.refl _) (argsL := []) (rest := []) (lenOf pdw_4 rfl) rfl (by show 2 * 0 + _ ≤ _; exact Nat.le_of_eq rfl) (hb hby at_35) (fun _ _ => ⟨rfl, hh4, (by decide : 1 + 0 ≤ _), (by decide : 7 + 0 ≤ _)⟩)
  dsimp only [Pt.U, Pt.locs, Pt.cells, Pt.slots] at X5 l5 y5 z5 st5 hQ5
  subst l5 y5 z5
  obtain ⟨rfl, N5q, hh5⟩ := hQ5
  have N5 := Fr.app N4 N5q
  -- pc 39: com/example/acompte/acompte/DocumentKind$Vat.waiting by the contract of the body that the receiver's class selects, rm5
  obtain ⟨cq6, kq6, q6a, q6b, q6c⟩ := isOf hZ hh5 ((((E_TAKEN_BACK))))
  obtain ⟨_, _, ⟨T6, L6, k6, n6⟩, -, X6, ⟨Lc6, hQ6, l6, y6, z6⟩, st6⟩ := X5.virtualBack hx (y := (⟨"com/example/acompte/acompte/DocumentKind$Vat", "waiting", "()I"⟩ : MethodName)) (z := (⟨"com/example/acompte/acompte/DocumentKind$Vat", "waiting", "()I"⟩ : MethodName)) hown (mvT hZ (hw _ (List.mem_of_getElem? (i := 41) rfl))) (mvT hZ (hw _ (List.mem_of_getElem? (i := 42) rfl))) (notFace_of_selects (args := #[]) (mvT hZ (hw _ (List.mem_of_getElem? (i := 44) rfl)))) (mvT hZ (hw _ (List.mem_of_getElem? (i := 44) rfl))) (mvT hZ (hw _ (List.mem_of_getElem? (i := 43) rfl))) (by decide) (backOf (W := 1) (rm5 l Z a0 hw [] a_TAKEN_BACK (0 : Int32) T3.heap n0 Zh2 Fw_TAKEN_BACK) hZ (hw _ (List.mem_of_getElem? (i := 45) rfl)) (hw _ (List.mem_of_getElem? (i := 6) rfl)) (by decide) (by decide)) q6a q6c (g := (mkF m 39 #[.val (.int p1), .val (.int ((p1 &&& (2147483647 : Int32)) % (7 : Int32))), .val (.ref a_TAKEN_BACK), .val (.ref a_FALLS_DUE)] [(.ref a_TAKEN_BACK), (.int (0 : Int32))])) rfl (by rw [hml]; rfl) (Steps.refl _) (argsL := []) (rest := [(.int (0 : Int32))]) (lenOf pdw_4 rfl) rfl (by show 2 * 0 + _ ≤ _; exact Nat.le_of_eq rfl) (hb hby at_39) (fun _ _ => ⟨rfl, hh5, (by decide : 1 + 0 ≤ _), (by decide : 7 + 0 ≤ _)⟩)
  dsimp only [Pt.U, Pt.locs, Pt.cells, Pt.slots] at X6 l6 y6 z6 st6 hQ6
  subst l6 y6 z6
  obtain ⟨rfl, N6q, hh6⟩ := hQ6
  have N6 := Fr.app N5 N6q
  -- pc 47: com/example/acompte/acompte/DocumentKind$Vat.due by the contract of the body that the receiver's class selects, rm6
  obtain ⟨cq7, kq7, q7a, q7b, q7c⟩ := isOf hZ hh6 (((((E_FALLS_DUE)))))
  obtain ⟨_, _, ⟨T7, L7, k7, n7⟩, -, X7, ⟨Lc7, hQ7, l7, y7, z7⟩, st7⟩ := X6.virtualBack hx (y := (⟨"com/example/acompte/acompte/DocumentKind$Vat", "due", "()I"⟩ : MethodName)) (z := (⟨"com/example/acompte/acompte/DocumentKind$Vat", "due", "()I"⟩ : MethodName)) hown (mvT hZ (hw _ (List.mem_of_getElem? (i := 46) rfl))) (mvT hZ (hw _ (List.mem_of_getElem? (i := 47) rfl))) (notFace_of_selects (args := #[]) (mvT hZ (hw _ (List.mem_of_getElem? (i := 49) rfl)))) (mvT hZ (hw _ (List.mem_of_getElem? (i := 49) rfl))) (mvT hZ (hw _ (List.mem_of_getElem? (i := 48) rfl))) (by decide) (backOf (W := 0) (rm6 l Z a0 hw [] a_FALLS_DUE (1 : Int32) T3.heap n0 Zh2 Fd_FALLS_DUE) hZ (hw _ (List.mem_of_getElem? (i := 50) rfl)) (hw _ (List.mem_of_getElem? (i := 6) rfl)) (by decide) (by decide)) q7a q7c (g := (mkF m 47 #[.val (.int p1), .val (.int ((p1 &&& (2147483647 : Int32)) % (7 : Int32))), .val (.ref a_TAKEN_BACK), .val (.ref a_FALLS_DUE)] [(.ref a_FALLS_DUE)])) rfl (by rw [hml]; rfl) (Steps.refl _) (argsL := []) (rest := []) (lenOf pdw_4 rfl) rfl (by show 2 * 0 + _ ≤ _; exact Nat.le_of_eq rfl) (hb hby at_47) (fun _ _ => ⟨rfl, hh6, (by decide : 1 + 0 ≤ _), (by decide : 7 + 0 ≤ _)⟩)
  dsimp only [Pt.U, Pt.locs, Pt.cells, Pt.slots] at X7 l7 y7 z7 st7 hQ7
  subst l7 y7 z7
  obtain ⟨rfl, N7q, hh7⟩ := hQ7
  have N7 := Fr.app N6 N7q
  -- pc 51: com/example/acompte/acompte/DocumentKind$Vat.due by the contract of the body that the receiver's class selects, rm6
  obtain ⟨cq8, kq8, q8a, q8b, q8c⟩ := isOf hZ hh7 ((((((E_TAKEN_BACK))))))
  obtain ⟨_, _, ⟨T8, L8, k8, n8⟩, -, X8, ⟨Lc8, hQ8, l8, y8, z8⟩, st8⟩ := X7.virtualBack hx (y := (⟨"com/example/acompte/acompte/DocumentKind$Vat", "due", "()I"⟩ : MethodName)) (z := (⟨"com/example/acompte/acompte/DocumentKind$Vat", "due", "()I"⟩ : MethodName)) hown (mvT hZ (hw _ (List.mem_of_getElem? (i := 46) rfl))) (mvT hZ (hw _ (List.mem_of_getElem? (i := 47) rfl))) (notFace_of_selects (args := #[]) (mvT hZ (hw _ (List.mem_of_getElem? (i := 49) rfl)))) (mvT hZ (hw _ (List.mem_of_getElem? (i := 49) rfl))) (mvT hZ (hw _ (List.mem_of_getElem? (i := 48) rfl))) (by decide) (backOf (W := 1) (rm6 l Z a0 hw [] a_TAKEN_BACK (-1 : Int32) T3.heap n0 Zh2 Fd_TAKEN_BACK) hZ (hw _ (List.mem_of_getElem? (i := 50) rfl)) (hw _ (List.mem_of_getElem? (i := 6) rfl)) (by decide) (by decide)) q8a q8c (g := (mkF m 51 #[.val (.int p1), .val (.int ((p1 &&& (2147483647 : Int32)) % (7 : Int32))), .val (.ref a_TAKEN_BACK), .val (.ref a_FALLS_DUE)] [(.ref a_TAKEN_BACK), (.int (1 : Int32))])) rfl (by rw [hml]; rfl) (Steps.refl _) (argsL := []) (rest := [(.int (1 : Int32))]) (lenOf pdw_4 rfl) rfl (by show 2 * 0 + _ ≤ _; exact Nat.le_of_eq rfl) (hb hby at_51) (fun _ _ => ⟨rfl, hh7, (by decide : 1 + 0 ≤ _), (by decide : 7 + 0 ≤ _)⟩)
  dsimp only [Pt.U, Pt.locs, Pt.cells, Pt.slots] at X8 l8 y8 z8 st8 hQ8
  subst l8 y8 z8
  obtain ⟨rfl, N8q, hh8⟩ := hQ8
  have N8 := Fr.app N7 N8q
  obtain ⟨fs, hr, hrun, hended, hW, hsame⟩ := X8.leave (v := some (.int (1 : Int32))) (fun h => by rw [Bd.returns] at h; cases h)
  refine ⟨_, _, pre0 _ ?_, hrun, hended, _, _, rfl, ?_, ⟨_, rfl⟩, hW, hsame.mono (by decide) (by decide)⟩
  -- 4. STEPS
  · show Steps p.tables e below (s₁.setTop (mkF m 0 #[.val (.int p1), .unset, .unset, .unset] [])) _
    refine XS.iloadN X0.here hx rfl (hb hby at_0) rfl ?_
    show Steps p.tables e below (s₁.setTop (mkF m 1 #[.val (.int p1), .unset, .unset, .unset] [(.int p1)])) _
    refine X0.ldcInt hx hown (mvT hZ (hw _ (List.mem_of_getElem? (i := 0) rfl))) (g := (mkF m 1 #[.val (.int p1), .unset, .unset, .unset] [(.int p1)])) rfl (hb hby at_1) _ ?_
    show Steps p.tables e below (s₁.setTop (mkF m 3 #[.val (.int p1), .unset, .unset, .unset] [(.int (2147483647 : Int32)), (.int p1)])) _
    refine XS.iand X0.here hx rfl (hb hby at_3) rfl ?_
    show Steps p.tables e below (s₁.setTop (mkF m 4 #[.val (.int p1), .unset, .unset, .unset] [(.int (p1 &&& (2147483647 : Int32)))])) _
    refine XS.bipush X0.here hx rfl (hb hby at_4) ?_
    show Steps p.tables e below (s₁.setTop (mkF m 6 #[.val (.int p1), .unset, .unset, .unset] [(.int (7 : Int32)), (.int (p1 &&& (2147483647 : Int32)))])) _
    refine own_irem X0.here hx rfl (hb hby at_6) rfl hnz6 ?_
    show Steps p.tables e below (s₁.setTop (mkF m 7 #[.val (.int p1), .unset, .unset, .unset] [(.int ((p1 &&& (2147483647 : Int32)) % (7 : Int32)))])) _
    refine XS.istoreN X0.here hx rfl (hb hby at_7) rfl (l' := #[.val (.int p1), .val (.int ((p1 &&& (2147483647 : Int32)) % (7 : Int32))), .unset, .unset]) rfl ?_
    show Steps p.tables e below (s₁.setTop (mkF m 8 #[.val (.int p1), .val (.int ((p1 &&& (2147483647 : Int32)) % (7 : Int32))), .unset, .unset] [])) _
    refine XS.iloadN X0.here hx rfl (hb hby at_8) rfl ?_
    show Steps p.tables e below (s₁.setTop (mkF m 9 #[.val (.int p1), .val (.int ((p1 &&& (2147483647 : Int32)) % (7 : Int32))), .unset, .unset] [(.int ((p1 &&& (2147483647 : Int32)) % (7 : Int32)))])) _
    refine st2 _ ?_
    show Steps p.tables e below (T2.setTop (mkF m 12 #[.val (.int p1), .val (.int ((p1 &&& (2147483647 : Int32)) % (7 : Int32))), .unset, .unset] [(.ref a_TAKEN_BACK)])) _
    refine XS.astoreN X2.here hx rfl (hb hby at_12) rfl rfl (l' := #[.val (.int p1), .val (.int ((p1 &&& (2147483647 : Int32)) % (7 : Int32))), .val (.ref a_TAKEN_BACK), .unset]) rfl ?_
    show Steps p.tables e below (T2.setTop (mkF m 13 #[.val (.int p1), .val (.int ((p1 &&& (2147483647 : Int32)) % (7 : Int32))), .val (.ref a_TAKEN_BACK), .unset] [])) _
    refine XS.aloadN X2.here hx rfl (hb hby at_13) rfl rfl ?_
    show Steps p.tables e below (T2.setTop (mkF m 14 #[.val (.int p1), .val (.int ((p1 &&& (2147483647 : Int32)) % (7 : Int32))), .val (.ref a_TAKEN_BACK), .unset] [(.ref a_TAKEN_BACK)])) _
    refine st3.trans ?_
    show Steps p.tables e below (T3.setTop (mkF m 17 #[.val (.int p1), .val (.int ((p1 &&& (2147483647 : Int32)) % (7 : Int32))), .val (.ref a_TAKEN_BACK), .unset] [(.ref a_FALLS_DUE)])) _
    refine XS.astoreN X3.here hx rfl (hb hby at_17) rfl rfl (l' := #[.val (.int p1), .val (.int ((p1 &&& (2147483647 : Int32)) % (7 : Int32))), .val (.ref a_TAKEN_BACK), .val (.ref a_FALLS_DUE)]) rfl ?_
    show Steps p.tables e below (T3.setTop (mkF m 18 #[.val (.int p1), .val (.int ((p1 &&& (2147483647 : Int32)) % (7 : Int32))), .val (.ref a_TAKEN_BACK), .val (.ref a_FALLS_DUE)] [])) _
    refine XS.aloadN X3.here hx rfl (hb hby at_18) rfl rfl ?_
    show Steps p.tables e below (T3.setTop (mkF m 19 #[.val (.int p1), .val (.int ((p1 &&& (2147483647 : Int32)) % (7 : Int32))), .val (.ref a_TAKEN_BACK), .val (.ref a_FALLS_DUE)] [(.ref a_FALLS_DUE)])) _
    refine XS.ifnonnullYes X3.here hx rfl (pc0 := 19) (pc' := 24) rfl (hb hby at_19) rfl (by decide) (by decide) ?_
    show Steps p.tables e below (T3.setTop (mkF m 24 #[.val (.int p1), .val (.int ((p1 &&& (2147483647 : Int32)) % (7 : Int32))), .val (.ref a_TAKEN_BACK), .val (.ref a_FALLS_DUE)] [])) _
    refine XS.aloadN X3.here hx rfl (hb hby at_24) rfl rfl ?_
    show Steps p.tables e below (T3.setTop (mkF m 25 #[.val (.int p1), .val (.int ((p1 &&& (2147483647 : Int32)) % (7 : Int32))), .val (.ref a_TAKEN_BACK), .val (.ref a_FALLS_DUE)] [(.ref a_FALLS_DUE)])) _
    refine XS.iloadN X3.here hx rfl (hb hby at_25) rfl ?_
    show Steps p.tables e below (T3.setTop (mkF m 26 #[.val (.int p1), .val (.int ((p1 &&& (2147483647 : Int32)) % (7 : Int32))), .val (.ref a_TAKEN_BACK), .val (.ref a_FALLS_DUE)] [(.int ((p1 &&& (2147483647 : Int32)) % (7 : Int32))), (.ref a_FALLS_DUE)])) _
    refine st4 _ ?_
    show Steps p.tables e below (T4.setTop (mkF m 29 #[.val (.int p1), .val (.int ((p1 &&& (2147483647 : Int32)) % (7 : Int32))), .val (.ref a_TAKEN_BACK), .val (.ref a_FALLS_DUE)] [(.ref a_FALLS_DUE), (.ref a_FALLS_DUE)])) _
    refine Jvm.RoadKit.acmp (g := (mkF m 29 #[.val (.int p1), .val (.int ((p1 &&& (2147483647 : Int32)) % (7 : Int32))), .val (.ref a_TAKEN_BACK), .val (.ref a_FALLS_DUE)] [(.ref a_FALLS_DUE), (.ref a_FALLS_DUE)])) X4 hx rfl rfl rfl (pc0 := 29) (pc' := 34) (same := true) rfl (hb hby at_29) rfl (decide_eq_true (congrArg Value.ref rfl)) (by decide) (by decide) ?_
    show Steps p.tables e below (T4.setTop (mkF m 34 #[.val (.int p1), .val (.int ((p1 &&& (2147483647 : Int32)) % (7 : Int32))), .val (.ref a_TAKEN_BACK), .val (.ref a_FALLS_DUE)] [])) _
    refine XS.aloadN X4.here hx rfl (hb hby at_34) rfl rfl ?_
    show Steps p.tables e below (T4.setTop (mkF m 35 #[.val (.int p1), .val (.int ((p1 &&& (2147483647 : Int32)) % (7 : Int32))), .val (.ref a_TAKEN_BACK), .val (.ref a_FALLS_DUE)] [(.ref a_FALLS_DUE)])) _
    refine st5.trans ?_
    show Steps p.tables e below (T5.setTop (mkF m 38 #[.val (.int p1), .val (.int ((p1 &&& (2147483647 : Int32)) % (7 : Int32))), .val (.ref a_TAKEN_BACK), .val (.ref a_FALLS_DUE)] [(.int (0 : Int32))])) _
    refine XS.aloadN X5.here hx rfl (hb hby at_38) rfl rfl ?_
    show Steps p.tables e below (T5.setTop (mkF m 39 #[.val (.int p1), .val (.int ((p1 &&& (2147483647 : Int32)) % (7 : Int32))), .val (.ref a_TAKEN_BACK), .val (.ref a_FALLS_DUE)] [(.ref a_TAKEN_BACK), (.int (0 : Int32))])) _
    refine st6.trans ?_
    show Steps p.tables e below (T6.setTop (mkF m 42 #[.val (.int p1), .val (.int ((p1 &&& (2147483647 : Int32)) % (7 : Int32))), .val (.ref a_TAKEN_BACK), .val (.ref a_FALLS_DUE)] [(.int (0 : Int32)), (.int (0 : Int32))])) _
    refine XS.ineg X6.here hx rfl (hb hby at_42) rfl ?_
    show Steps p.tables e below (T6.setTop (mkF m 43 #[.val (.int p1), .val (.int ((p1 &&& (2147483647 : Int32)) % (7 : Int32))), .val (.ref a_TAKEN_BACK), .val (.ref a_FALLS_DUE)] [(.int (-(0 : Int32))), (.int (0 : Int32))])) _
    refine XS.icmpNo X6.here hx rfl (hb hby at_43) rfl (teq (by first | rfl | decide : (0 : Int32) = (-(0 : Int32)))).2 ?_
    show Steps p.tables e below (T6.setTop (mkF m 46 #[.val (.int p1), .val (.int ((p1 &&& (2147483647 : Int32)) % (7 : Int32))), .val (.ref a_TAKEN_BACK), .val (.ref a_FALLS_DUE)] [])) _
    refine XS.aloadN X6.here hx rfl (hb hby at_46) rfl rfl ?_
    show Steps p.tables e below (T6.setTop (mkF m 47 #[.val (.int p1), .val (.int ((p1 &&& (2147483647 : Int32)) % (7 : Int32))), .val (.ref a_TAKEN_BACK), .val (.ref a_FALLS_DUE)] [(.ref a_FALLS_DUE)])) _
    refine st7.trans ?_
    show Steps p.tables e below (T7.setTop (mkF m 50 #[.val (.int p1), .val (.int ((p1 &&& (2147483647 : Int32)) % (7 : Int32))), .val (.ref a_TAKEN_BACK), .val (.ref a_FALLS_DUE)] [(.int (1 : Int32))])) _
    refine XS.aloadN X7.here hx rfl (hb hby at_50) rfl rfl ?_
    show Steps p.tables e below (T7.setTop (mkF m 51 #[.val (.int p1), .val (.int ((p1 &&& (2147483647 : Int32)) % (7 : Int32))), .val (.ref a_TAKEN_BACK), .val (.ref a_FALLS_DUE)] [(.ref a_TAKEN_BACK), (.int (1 : Int32))])) _
    refine st8.trans ?_
    show Steps p.tables e below (T8.setTop (mkF m 54 #[.val (.int p1), .val (.int ((p1 &&& (2147483647 : Int32)) % (7 : Int32))), .val (.ref a_TAKEN_BACK), .val (.ref a_FALLS_DUE)] [(.int (-1 : Int32)), (.int (1 : Int32))])) _
    refine XS.ineg X8.here hx rfl (hb hby at_54) rfl ?_
    show Steps p.tables e below (T8.setTop (mkF m 55 #[.val (.int p1), .val (.int ((p1 &&& (2147483647 : Int32)) % (7 : Int32))), .val (.ref a_TAKEN_BACK), .val (.ref a_FALLS_DUE)] [(.int (-(-1 : Int32))), (.int (1 : Int32))])) _
    refine XS.icmpNo X8.here hx rfl (hb hby at_55) rfl (teq (by first | rfl | decide : (1 : Int32) = (-(-1 : Int32)))).2 ?_
    show Steps p.tables e below (T8.setTop (mkF m 58 #[.val (.int p1), .val (.int ((p1 &&& (2147483647 : Int32)) % (7 : Int32))), .val (.ref a_TAKEN_BACK), .val (.ref a_FALLS_DUE)] [])) _
    refine XS.iconst X8.here hx rfl (hb hby at_58) ?_
    show Steps p.tables e below (T8.setTop (mkF m 59 #[.val (.int p1), .val (.int ((p1 &&& (2147483647 : Int32)) % (7 : Int32))), .val (.ref a_TAKEN_BACK), .val (.ref a_FALLS_DUE)] [(.int (1 : Int32))])) _
    refine XS.goto X8.here hx rfl (pc0 := 59) (pc' := 63) rfl (hb hby at_59) (by decide) (by decide) ?_
    show Steps p.tables e below (T8.setTop (mkF m 63 #[.val (.int p1), .val (.int ((p1 &&& (2147483647 : Int32)) % (7 : Int32))), .val (.ref a_TAKEN_BACK), .val (.ref a_FALLS_DUE)] [(.int (1 : Int32))])) _
    exact retN X8 hx (t := .boolean) Bd.returns (by simp) (hb hby at_63) hr
  · show Q0 h0 n0 _ T8.heap _
    exact ⟨rfl, N8⟩
theorem rm0 (l : Launch) (Z : State) (a0 : Array Value) (hw : ∀ d ∈ tables_1, d.before a0 Z = true) (ws : List Jvm.Cond) (p1 : Int32) (a_NONE a_WAITS a_WAITS_NO_MORE a_FALLS_DUE_AFTER_WAITING a_WAITS_AGAIN a_FALLS_DUE a_TAKEN_BACK a_VALUES : Addr) (kV : ClassId) (h0 : Heap) (n0 : Nat) (Z0 : n0 ≤ h0.size) (WW : Own Z h0 a_NONE a_WAITS a_WAITS_NO_MORE a_FALLS_DUE_AFTER_WAITING a_WAITS_AGAIN a_FALLS_DUE a_TAKEN_BACK a_VALUES kV)  :
    MetFree l x (head1 (Jvm.Cond.code x code maxLocals ret :: ws) room_1) (fun a U => a = #[(.int p1)] ∧ Z.Warmed39 U.vm ∧ U.heap = h0) (fun _ _ _ _ _ => True) (fun _ U o U' => ∃ v L, o = .returned v ∧ Q0 h0 n0 v U'.heap L ∧ FrameEnd U o U' L room_1.cells room_1.slots) := by
  rcases own_i p1 with hi | hi | hi | hi | hi | hi | hi
  · exact rm0_i0 l Z a0 hw ws p1 a_NONE a_WAITS a_WAITS_NO_MORE a_FALLS_DUE_AFTER_WAITING a_WAITS_AGAIN a_FALLS_DUE a_TAKEN_BACK a_VALUES kV h0 n0 Z0 WW hi
  · exact rm0_i1 l Z a0 hw ws p1 a_NONE a_WAITS a_WAITS_NO_MORE a_FALLS_DUE_AFTER_WAITING a_WAITS_AGAIN a_FALLS_DUE a_TAKEN_BACK a_VALUES kV h0 n0 Z0 WW hi
  · exact rm0_i2 l Z a0 hw ws p1 a_NONE a_WAITS a_WAITS_NO_MORE a_FALLS_DUE_AFTER_WAITING a_WAITS_AGAIN a_FALLS_DUE a_TAKEN_BACK a_VALUES kV h0 n0 Z0 WW hi
  · exact rm0_i3 l Z a0 hw ws p1 a_NONE a_WAITS a_WAITS_NO_MORE a_FALLS_DUE_AFTER_WAITING a_WAITS_AGAIN a_FALLS_DUE a_TAKEN_BACK a_VALUES kV h0 n0 Z0 WW hi
  · exact rm0_i4 l Z a0 hw ws p1 a_NONE a_WAITS a_WAITS_NO_MORE a_FALLS_DUE_AFTER_WAITING a_WAITS_AGAIN a_FALLS_DUE a_TAKEN_BACK a_VALUES kV h0 n0 Z0 WW hi
  · exact rm0_i5 l Z a0 hw ws p1 a_NONE a_WAITS a_WAITS_NO_MORE a_FALLS_DUE_AFTER_WAITING a_WAITS_AGAIN a_FALLS_DUE a_TAKEN_BACK a_VALUES kV h0 n0 Z0 WW hi
  · exact rm0_i6 l Z a0 hw ws p1 a_NONE a_WAITS a_WAITS_NO_MORE a_FALLS_DUE_AFTER_WAITING a_WAITS_AGAIN a_FALLS_DUE a_TAKEN_BACK a_VALUES kV h0 n0 Z0 WW hi
-- 5. FROM THE CASE'S WORDS TO rm0, AND THE OWED THEOREMS
set_option maxRecDepth 65536 in
set_option maxHeartbeats 40000000 in
theorem comes_1 {Post : Tables → Env → Array Value → State → Outcome → State → Prop} (hpost : ∀ tb e args s v u, (limb_1_1.after args s (.returned v) u = true ∧ limb_1_2.after args s (.returned v) u = true ∧ True) → FrameEnd s (.returned v) u (Jvm.fieldLocs frame_1_writes args s ++ Jvm.arrayLocs frame_1_arrays args s ++ Jvm.staticLocs frame_1_statics s) 16 128 → Post tb e args s (.returned v) u) :
    ArmFor flags0 classFile x code maxLocals ret World_1 tables_1 room_1 Calls_1 rest_1 Pre_1 Post := by
  intro l hfl _ _ p e ha hc hk s m args below hf hA hF happ hP
  obtain ⟨hcalls, hrest, hpre⟩ := hP
  obtain ⟨-, -, -, hnamed, -, -, -, hat⟩ := (Spec.applies_iff hf).mp happ
  obtain ⟨hg, hn⟩ := and_e (Cond.before_iff.mp (show (Jvm.Cond.and given_1 narrow_1).before args s = true from hpre))
  obtain ⟨g9, g10⟩ := and_e hg
  obtain ⟨w0, rfl⟩ : ∃ w0 : Value, args = #[w0] := by
    have hs : args.size = 1 := by simpa [Cond.value, given_1] using g9
    obtain ⟨L⟩ := args
    match L, hs with
    | [w0], _ => exact ⟨w0, rfl⟩
  have hw := fun d (hd : d ∈ tables_1) => atoms_spec (ws := Jvm.Cond.code x code maxLocals ret :: tables_1) hat d (List.mem_cons_of_mem _ hd)
  have hfit : Fit s := fun {y c} hc i hi => by
    obtain ⟨ha, rfl⟩ := Array.getElem?_eq_some_iff.mp hc
    have q := List.all_eq_true.mp ((Array.all_eq_true_iff_forall_mem.mp hF) _ (Array.getElem_mem ha)) i (List.mem_range.mpr hi)
    simpa [Array.getElem?_eq_getElem hi] using q
  obtain ⟨i0, ei0⟩ := is_v g10
  obtain rfl : w0 = (.int i0) := Option.some.inj ei0
  have hn0 := hn
  obtain ⟨c0, hn1⟩ := and_e hn0
  obtain ⟨c1, hn2⟩ := and_e hn1
  obtain ⟨c2, hn3⟩ := and_e hn2
  obtain ⟨c3, hn4⟩ := and_e hn3
  obtain ⟨c4, hn5⟩ := and_e hn4
  obtain ⟨c5, hn6⟩ := and_e hn5
  obtain ⟨c6, hn7⟩ := and_e hn6
  obtain ⟨c7, hn8⟩ := and_e hn7
  obtain ⟨c8, hn9⟩ := and_e hn8
  obtain ⟨c9, hn10⟩ := and_e hn9
  obtain ⟨c10, hn11⟩ := and_e hn10
  obtain ⟨c11, hn12⟩ := and_e hn11
  obtain ⟨c12, hn13⟩ := and_e hn12
  obtain ⟨c13, hn14⟩ := and_e hn13
  obtain ⟨c14, hn15⟩ := and_e hn14
  obtain ⟨c15, hn16⟩ := and_e hn15
  obtain ⟨c16, hn17⟩ := and_e hn16
  obtain ⟨c17, hn18⟩ := and_e hn17
  obtain ⟨c18, hn19⟩ := and_e hn18
  obtain ⟨c19, hn20⟩ := and_e hn19
  obtain ⟨c20, hn21⟩ := and_e hn20
  obtain ⟨c21, hn22⟩ := and_e hn21
  obtain ⟨c22, hn23⟩ := and_e hn22
  obtain ⟨c23, hn24⟩ := and_e hn23
  obtain ⟨c24, hn25⟩ := and_e hn24
  obtain ⟨c25, hn26⟩ := and_e hn25
  obtain ⟨c26, hn27⟩ := and_e hn26
  obtain ⟨c27, hn28⟩ := and_e hn27
  obtain ⟨c28, hn29⟩ := and_e hn28
  obtain ⟨c29, hn30⟩ := and_e hn29
  have c30 := hn30
  obtain ⟨a_NONE, ev_NONE⟩ := exa_v c0
  obtain ⟨a_VALUES, ev_VALUES⟩ := arr_v c1
  obtain ⟨a_WAITS, ev_WAITS⟩ := exa_v c5
  obtain ⟨a_WAITS_NO_MORE, ev_WAITS_NO_MORE⟩ := exa_v c7
  obtain ⟨a_FALLS_DUE_AFTER_WAITING, ev_FALLS_DUE_AFTER_WAITING⟩ := exa_v c9
  obtain ⟨a_WAITS_AGAIN, ev_WAITS_AGAIN⟩ := exa_v c11
  obtain ⟨a_FALLS_DUE, ev_FALLS_DUE⟩ := exa_v c13
  obtain ⟨a_TAKEN_BACK, ev_TAKEN_BACK⟩ := exa_v c15
  have E_NONE := Exa.start ev_NONE c0
  have S_NONE := Sta.start ev_NONE (Or.inr ⟨(hw _ (List.mem_of_getElem? (i := 6) rfl)), (hw _ (List.mem_of_getElem? (i := 7) rfl))⟩)
  obtain ⟨clV, ArV⟩ := Arr.start ev_VALUES c1
  have E_VALUES := Exa.start ev_VALUES c2
  have S_VALUES := Sta.start ev_VALUES (Or.inr ⟨(hw _ (List.mem_of_getElem? (i := 6) rfl)), (hw _ (List.mem_of_getElem? (i := 17) rfl))⟩)
  have lenV := own_len ev_VALUES ArV c3
  have E_WAITS := Exa.start ev_WAITS c5
  have S_WAITS := Sta.start ev_WAITS (Or.inr ⟨(hw _ (List.mem_of_getElem? (i := 6) rfl)), (hw _ (List.mem_of_getElem? (i := 25) rfl))⟩)
  have E_WAITS_NO_MORE := Exa.start ev_WAITS_NO_MORE c7
  have S_WAITS_NO_MORE := Sta.start ev_WAITS_NO_MORE (Or.inr ⟨(hw _ (List.mem_of_getElem? (i := 6) rfl)), (hw _ (List.mem_of_getElem? (i := 26) rfl))⟩)
  have E_FALLS_DUE_AFTER_WAITING := Exa.start ev_FALLS_DUE_AFTER_WAITING c9
  have S_FALLS_DUE_AFTER_WAITING := Sta.start ev_FALLS_DUE_AFTER_WAITING (Or.inr ⟨(hw _ (List.mem_of_getElem? (i := 6) rfl)), (hw _ (List.mem_of_getElem? (i := 27) rfl))⟩)
  have E_WAITS_AGAIN := Exa.start ev_WAITS_AGAIN c11
  have S_WAITS_AGAIN := Sta.start ev_WAITS_AGAIN (Or.inr ⟨(hw _ (List.mem_of_getElem? (i := 6) rfl)), (hw _ (List.mem_of_getElem? (i := 28) rfl))⟩)
  have E_FALLS_DUE := Exa.start ev_FALLS_DUE c13
  have S_FALLS_DUE := Sta.start ev_FALLS_DUE (Or.inr ⟨(hw _ (List.mem_of_getElem? (i := 6) rfl)), (hw _ (List.mem_of_getElem? (i := 29) rfl))⟩)
  have E_TAKEN_BACK := Exa.start ev_TAKEN_BACK c15
  have S_TAKEN_BACK := Sta.start ev_TAKEN_BACK (Or.inr ⟨(hw _ (List.mem_of_getElem? (i := 6) rfl)), (hw _ (List.mem_of_getElem? (i := 30) rfl))⟩)
  have Fw_NONE := Fld.start (own_fldv ev_NONE c17)
  have Fd_NONE := Fld.start (own_fldv ev_NONE c18)
  have Fw_WAITS := Fld.start (own_fldv ev_WAITS c19)
  have Fw_WAITS_NO_MORE := Fld.start (own_fldv ev_WAITS_NO_MORE c20)
  have Fw_FALLS_DUE_AFTER_WAITING := Fld.start (own_fldv ev_FALLS_DUE_AFTER_WAITING c21)
  have Fw_WAITS_AGAIN := Fld.start (own_fldv ev_WAITS_AGAIN c22)
  have Fw_FALLS_DUE := Fld.start (own_fldv ev_FALLS_DUE c23)
  have Fd_FALLS_DUE := Fld.start (own_fldv ev_FALLS_DUE c24)
  have Fw_TAKEN_BACK := Fld.start (own_fldv ev_TAKEN_BACK c25)
  have Fd_TAKEN_BACK := Fld.start (own_fldv ev_TAKEN_BACK c26)
  have Fd_WAITS := Fld.start (own_fldv ev_WAITS c27)
  have Fd_FALLS_DUE_AFTER_WAITING := Fld.start (own_fldv ev_FALLS_DUE_AFTER_WAITING c28)
  have Fd_WAITS_AGAIN := Fld.start (own_fldv ev_WAITS_AGAIN c29)
  have Fd_WAITS_NO_MORE := Fld.start (own_fldv ev_WAITS_NO_MORE c30)
  have el0 := own_elem ev_VALUES ev_NONE ArV.1 c4
  have el1 := own_elem ev_VALUES ev_WAITS ArV.1 c6
  have el2 := own_elem ev_VALUES ev_WAITS_NO_MORE ArV.1 c8
  have el3 := own_elem ev_VALUES ev_FALLS_DUE_AFTER_WAITING ArV.1 c10
  have el4 := own_elem ev_VALUES ev_WAITS_AGAIN ArV.1 c12
  have el5 := own_elem ev_VALUES ev_FALLS_DUE ArV.1 c14
  have el6 := own_elem ev_VALUES ev_TAKEN_BACK ArV.1 c16
  have V_VALUES : Arv s s.heap a_VALUES clV.cls (.object "com/example/acompte/acompte/DocumentKind$Vat") (7 : Int32) [.ref a_NONE, .ref a_WAITS, .ref a_WAITS_NO_MORE, .ref a_FALLS_DUE_AFTER_WAITING, .ref a_WAITS_AGAIN, .ref a_FALLS_DUE, .ref a_TAKEN_BACK] .null := Arv.start hfit ArV lenV.1 lenV.2 (by decide) rfl ⟨el0, el1, el2, el3, el4, el5, el6, trivial⟩
  have WW : Own s s.heap a_NONE a_WAITS a_WAITS_NO_MORE a_FALLS_DUE_AFTER_WAITING a_WAITS_AGAIN a_FALLS_DUE a_TAKEN_BACK a_VALUES clV.cls := ⟨S_NONE, S_WAITS, S_WAITS_NO_MORE, S_FALLS_DUE_AFTER_WAITING, S_WAITS_AGAIN, S_FALLS_DUE, S_TAKEN_BACK, S_VALUES, E_NONE, E_WAITS, E_WAITS_NO_MORE, E_FALLS_DUE_AFTER_WAITING, E_WAITS_AGAIN, E_FALLS_DUE, E_TAKEN_BACK, E_VALUES, Fw_NONE, Fw_WAITS, Fw_WAITS_NO_MORE, Fw_FALLS_DUE_AFTER_WAITING, Fw_WAITS_AGAIN, Fw_FALLS_DUE, Fw_TAKEN_BACK, Fd_NONE, Fd_WAITS, Fd_WAITS_NO_MORE, Fd_FALLS_DUE_AFTER_WAITING, Fd_WAITS_AGAIN, Fd_FALLS_DUE, Fd_TAKEN_BACK, V_VALUES⟩
  obtain ⟨n, o, h1, h2, h3, _, L, rfl, ⟨rfl, N⟩, hq⟩ := rm0 l s _ hw tables_1 i0 a_NONE a_WAITS a_WAITS_NO_MORE a_FALLS_DUE_AFTER_WAITING a_WAITS_AGAIN a_FALLS_DUE a_TAKEN_BACK a_VALUES clV.cls s.heap s.heap.size (Nat.le_refl _) WW p e ha hc hk s m _ below hf ((Spec.applies_iff_loose hf).mp happ).1 ⟨rfl, State.Warmed39.refl s, rfl⟩ trivial
  refine ⟨n, _, h1, h2, h3, hpost _ _ _ _ _ _ ⟨Cond.after_iff.mpr rfl, Cond.after_iff.mpr (eq_i res_at (Term.int_eval (1)) rfl), trivial⟩ ⟨hq.1, hq.2.1, (hq.2.2.sift fun y hy => Or.inr (N y hy)).mono (by decide) (by decide)⟩⟩
theorem main_1_1 : Claimed_1_1 := comes_1 fun _ _ _ _ _ _ h hF => ⟨h.1, hF⟩
theorem main_1_2 : Claimed_1_2 := comes_1 fun _ _ _ _ _ _ h hF => ⟨h.2.1, hF⟩
-- 6. THE WITNESS: 'witness <made dir> --arg ..' lays it behind; then: end Jvm.Pilot.@@N@@
end Jvm.Pilot.@@N@@
namespace Jvm.Pilot.@@N@@
open Jvm Jvm.ClassFile Sem Op Lib Jvm.Free Jvm.Stand Jvm.Pilot.@@N@@.Jvm.D
/-! MADE BY PROGRAM (witnessworld.py) out of the Statement's table words and the real class files: 13 classes; the members and pool entries that the words name. The judged class is class 1, her method 3. -/
namespace start1
open Jvm.ClassFile
def u (s : String) : CpInfo := .utf8 (stringToUtf16 s)
/-- a pool by its gaps: so many unusable entries, then the entry; so many at the end -/
def gap : Nat → List CpInfo → List CpInfo
  | 0, r => r
  | n + 1, r => .unusable :: gap n r
def poolList (es : List (Nat × CpInfo)) (last : Nat) : List CpInfo := es.foldr (fun e r => gap e.1 (e.2 :: r)) (gap last [])
def pool (es : List (Nat × CpInfo)) (last : Nat) : Array CpInfo := ⟨poolList es last⟩
def fileOf (pool : Array CpInfo) (this : Nat) (attrs : Array Attribute := #[]) (ms : Array MethodInfo := #[]) (fl : Nat := 33) (sup : Nat := 0) (ifs : Array Nat := #[]) (fds : Array FieldInfo := #[]) : ClassFile where
  minorVersion := 0
  majorVersion := 65
  constantPool := pool
  accessFlags := fl
  thisClass := this
  superClass := sup
  interfaces := ifs
  fields := fds
  methods := ms
  attributes := attrs
def plain (name : String) (sup : Option ClassId) : Class where
  name := name
  kind := .ordinary
  loader := none
  accessFlags := 33
  super := sup
  interfaces := #[]
  cf := none
  fields := #[]
  methods := #[]
  instanceTypes := #[]
  staticTypes := #[]
  resolved := #[]
  callSites := []
  init := .initialized
  statics := none
  mirror := none

def pool0 : Array CpInfo := pool [(5, u "<init>"), (0, u "()V"), (1, .class_ 10), (1, u "java/lang/Object"), (85, u "clone"), (0, u "()Ljava/lang/Object;")] 26

def k0m0 : Method := { name := "<init>", desc := "()V", sig := { parameters := [], returnType := none }, accessFlags := 1, code := none }
def k0m1 : Method := { name := "clone", desc := "()Ljava/lang/Object;", sig := { parameters := [], returnType := some (.object "java/lang/Object") }, accessFlags := 260, code := none }
/-- java/lang/Object -/
def k0 : Class := { plain "java/lang/Object" none with
  accessFlags := 33
  interfaces := #[]
  cf := some (fileOf pool0 8 #[] #[{ accessFlags := 1, nameIndex := 5, descriptorIndex := 6, attributes := #[] }, { accessFlags := 260, nameIndex := 96, descriptorIndex := 97, attributes := #[] }] 33 0 #[] #[])
  fields := #[]
  methods := #[k0m0, k0m1]
  instanceTypes := #[]
  staticTypes := #[]
  resolved := Array.replicate 124 none
  statics := none }

def pool1 : Array CpInfo := pool [(2, .class_ 4), (1, u "java/lang/Object"), (0, u "<init>"), (0, u "()V"), (0, .fieldref 8 9), (0, .class_ 10), (0, .nameAndType 11 12), (0, u "com/example/acompte/acompte/DocumentKind$Vat"), (0, u "NONE"), (0, u "Lcom/example/acompte/acompte/DocumentKind$Vat;"), (0, .fieldref 8 14), (0, .nameAndType 15 12), (0, u "WAITS"), (0, .fieldref 8 17), (0, .nameAndType 18 12), (0, u "WAITS_NO_MORE"), (0, .fieldref 8 20), (0, .nameAndType 21 12), (0, u "FALLS_DUE_AFTER_WAITING"), (0, .fieldref 8 23), (0, .nameAndType 24 12), (0, u "WAITS_AGAIN"), (0, .fieldref 8 26), (0, .nameAndType 27 12), (0, u "FALLS_DUE"), (0, .fieldref 8 29), (0, .nameAndType 30 12), (0, u "TAKEN_BACK"), (0, .integer 2147483647), (0, .methodref 33 34), (0, .class_ 35), (0, .nameAndType 36 37), (0, u "com/example/acompte/acompte/VatOppositePinLaw"), (0, u "pick"), (0, u "(I)Lcom/example/acompte/acompte/DocumentKind$Vat;"), (0, .methodref 8 39), (0, .nameAndType 40 41), (0, u "opposite"), (0, u "()Lcom/example/acompte/acompte/DocumentKind$Vat;"), (0, .methodref 33 43), (0, .nameAndType 44 37), (0, u "expected"), (0, .methodref 8 46), (0, .nameAndType 47 48), (0, u "waiting"), (0, u "()I"), (0, .methodref 8 50), (0, .nameAndType 51 48), (0, u "due"), (3, u "law"), (0, u "(I)Z")] 6

def k1m0 : Method := { name := "<init>", desc := "()V", sig := { parameters := [], returnType := none }, accessFlags := 1, code := none }
def k1c1 : Code := { maxStack := 2, maxLocals := 1, code := method_2_code, exceptionTable := #[], attributes := #[] }
def k1m1 : Method := { name := "pick", desc := "(I)Lcom/example/acompte/acompte/DocumentKind$Vat;", sig := { parameters := [.int], returnType := some (.object "com/example/acompte/acompte/DocumentKind$Vat") }, accessFlags := 10, code := some k1c1 }
def k1c2 : Code := { maxStack := 2, maxLocals := 1, code := method_3_code, exceptionTable := #[], attributes := #[] }
def k1m2 : Method := { name := "expected", desc := "(I)Lcom/example/acompte/acompte/DocumentKind$Vat;", sig := { parameters := [.int], returnType := some (.object "com/example/acompte/acompte/DocumentKind$Vat") }, accessFlags := 10, code := some k1c2 }
def k1c3 : Code := { maxStack := 2, maxLocals := 4, code := code, exceptionTable := #[], attributes := #[] }
def k1m3 : Method := { name := "law", desc := "(I)Z", sig := { parameters := [.int], returnType := some .boolean }, accessFlags := 9, code := some k1c3 }
/-- com/example/acompte/acompte/VatOppositePinLaw -/
def k1 : Class := { plain "com/example/acompte/acompte/VatOppositePinLaw" (some 0) with
  accessFlags := 49
  interfaces := #[]
  cf := some (fileOf pool1 33 #[] #[{ accessFlags := 1, nameIndex := 5, descriptorIndex := 6, attributes := #[] }, { accessFlags := 10, nameIndex := 36, descriptorIndex := 37, attributes := #[] }, { accessFlags := 10, nameIndex := 44, descriptorIndex := 37, attributes := #[] }, { accessFlags := 9, nameIndex := 55, descriptorIndex := 56, attributes := #[] }] 49 2 #[] #[])
  fields := #[]
  methods := #[k1m0, k1m1, k1m2, k1m3]
  instanceTypes := #[]
  staticTypes := #[]
  resolved := Array.replicate 63 none
  statics := none }

def pool2 : Array CpInfo := pool [(1, .class_ 2), (0, u "java/lang/constant/Constable"), (0, .class_ 4), (0, u "java/lang/Object")] 6

/-- java/lang/constant/Constable -/
def k2 : Class := { plain "java/lang/constant/Constable" (some 0) with
  accessFlags := 1537
  interfaces := #[]
  cf := some (fileOf pool2 1 #[] #[] 1537 3 #[] #[])
  fields := #[]
  methods := #[]
  instanceTypes := #[]
  staticTypes := #[]
  resolved := Array.replicate 11 none
  statics := none }

def pool3 : Array CpInfo := pool [(1, .class_ 2), (0, u "java/lang/Comparable"), (0, .class_ 4), (0, u "java/lang/Object")] 7

/-- java/lang/Comparable -/
def k3 : Class := { plain "java/lang/Comparable" (some 0) with
  accessFlags := 1537
  interfaces := #[]
  cf := some (fileOf pool3 1 #[] #[] 1537 3 #[] #[])
  fields := #[]
  methods := #[]
  instanceTypes := #[]
  staticTypes := #[]
  resolved := Array.replicate 12 none
  statics := none }

def pool4 : Array CpInfo := pool [(1, .class_ 2), (0, u "java/io/Serializable"), (0, .class_ 4), (0, u "java/lang/Object")] 2

/-- java/io/Serializable -/
def k4 : Class := { plain "java/io/Serializable" (some 0) with
  accessFlags := 1537
  interfaces := #[]
  cf := some (fileOf pool4 1 #[] #[] 1537 3 #[] #[])
  fields := #[]
  methods := #[]
  instanceTypes := #[]
  staticTypes := #[]
  resolved := Array.replicate 7 none
  statics := none }

def pool5 : Array CpInfo := pool [(2, .class_ 4), (1, u "java/lang/Enum"), (0, u "name"), (0, u "Ljava/lang/String;"), (2, u "ordinal"), (0, u "I"), (1, .class_ 14), (1, u "java/lang/Object"), (4, u "hash"), (86, .class_ 108), (1, u "java/lang/Enum$EnumDesc"), (2, .class_ 112), (0, u "java/lang/constant/Constable"), (0, .class_ 114), (0, u "java/lang/Comparable"), (0, .class_ 116), (0, u "java/io/Serializable")] 87

/-- java/lang/Enum -/
def k5 : Class := { plain "java/lang/Enum" (some 0) with
  accessFlags := 1057
  interfaces := #[2, 3, 4]
  cf := some (fileOf pool5 2 #[.nestMembers #[106]] #[] 1057 12 #[111, 113, 115] #[{ accessFlags := 18, nameIndex := 5, descriptorIndex := 6, attributes := #[] }, { accessFlags := 18, nameIndex := 9, descriptorIndex := 10, attributes := #[] }, { accessFlags := 2, nameIndex := 19, descriptorIndex := 10, attributes := #[] }])
  fields := #[{ name := "name", type := (.object "java/lang/String"), accessFlags := 18, slot := 0, constantValue := 0 }, { name := "ordinal", type := .int, accessFlags := 18, slot := 1, constantValue := 0 }, { name := "hash", type := .int, accessFlags := 2, slot := 2, constantValue := 0 }]
  methods := #[]
  instanceTypes := #[(.object "java/lang/String"), .int, .int]
  staticTypes := #[]
  resolved := Array.replicate 204 none
  statics := none }

def pool6 : Array CpInfo := pool [(1, .class_ 2), (0, u "com/example/acompte/acompte/DocumentKind$Vat"), (2, u "NONE"), (0, u "Lcom/example/acompte/acompte/DocumentKind$Vat;"), (2, u "WAITS"), (2, u "WAITS_NO_MORE"), (2, u "FALLS_DUE_AFTER_WAITING"), (2, u "WAITS_AGAIN"), (2, u "FALLS_DUE"), (2, u "TAKEN_BACK"), (0, .fieldref 1 26), (0, .nameAndType 27 28), (0, u "$VALUES"), (0, u "[Lcom/example/acompte/acompte/DocumentKind$Vat;"), (0, .methodref 30 31), (0, .class_ 28), (0, .nameAndType 32 33), (0, u "clone"), (0, u "()Ljava/lang/Object;"), (1, .class_ 37), (1, u "java/lang/Enum"), (6, .fieldref 1 45), (0, .nameAndType 46 47), (0, u "waiting"), (0, u "I"), (0, .fieldref 1 49), (0, .nameAndType 50 47), (0, u "due"), (0, .methodref 1 52), (0, .nameAndType 53 54), (0, u "values"), (0, u "()[Lcom/example/acompte/acompte/DocumentKind$Vat;"), (19, u "()I"), (0, u "opposite"), (0, u "()Lcom/example/acompte/acompte/DocumentKind$Vat;"), (7, .class_ 85), (0, u "com/example/acompte/acompte/DocumentKind")] 2

def k6c0 : Code := { maxStack := 1, maxLocals := 0, code := prog_12_method_1_code, exceptionTable := #[], attributes := #[] }
def k6m0 : Method := { name := "values", desc := "()[Lcom/example/acompte/acompte/DocumentKind$Vat;", sig := { parameters := [], returnType := some (.array (.object "com/example/acompte/acompte/DocumentKind$Vat")) }, accessFlags := 9, code := some k6c0 }
def k6c1 : Code := { maxStack := 1, maxLocals := 1, code := prog_12_method_4_code, exceptionTable := #[], attributes := #[] }
def k6m1 : Method := { name := "waiting", desc := "()I", sig := { parameters := [], returnType := some .int }, accessFlags := 0, code := some k6c1 }
def k6c2 : Code := { maxStack := 1, maxLocals := 1, code := prog_12_method_5_code, exceptionTable := #[], attributes := #[] }
def k6m2 : Method := { name := "due", desc := "()I", sig := { parameters := [], returnType := some .int }, accessFlags := 0, code := some k6c2 }
def k6c3 : Code := { maxStack := 2, maxLocals := 6, code := prog_12_method_6_code, exceptionTable := #[], attributes := #[] }
def k6m3 : Method := { name := "opposite", desc := "()Lcom/example/acompte/acompte/DocumentKind$Vat;", sig := { parameters := [], returnType := some (.object "com/example/acompte/acompte/DocumentKind$Vat") }, accessFlags := 0, code := some k6c3 }
/-- com/example/acompte/acompte/DocumentKind$Vat -/
def k6 : Class := { plain "com/example/acompte/acompte/DocumentKind$Vat" (some 5) with
  accessFlags := 16432
  interfaces := #[]
  cf := some (fileOf pool6 1 #[.nestHost 84] #[{ accessFlags := 9, nameIndex := 53, descriptorIndex := 54, attributes := #[] }, { accessFlags := 0, nameIndex := 46, descriptorIndex := 74, attributes := #[] }, { accessFlags := 0, nameIndex := 50, descriptorIndex := 74, attributes := #[] }, { accessFlags := 0, nameIndex := 75, descriptorIndex := 76, attributes := #[] }] 16432 35 #[] #[{ accessFlags := 16409, nameIndex := 5, descriptorIndex := 6, attributes := #[] }, { accessFlags := 16409, nameIndex := 9, descriptorIndex := 6, attributes := #[] }, { accessFlags := 16409, nameIndex := 12, descriptorIndex := 6, attributes := #[] }, { accessFlags := 16409, nameIndex := 15, descriptorIndex := 6, attributes := #[] }, { accessFlags := 16409, nameIndex := 18, descriptorIndex := 6, attributes := #[] }, { accessFlags := 16409, nameIndex := 21, descriptorIndex := 6, attributes := #[] }, { accessFlags := 16409, nameIndex := 24, descriptorIndex := 6, attributes := #[] }, { accessFlags := 18, nameIndex := 46, descriptorIndex := 47, attributes := #[] }, { accessFlags := 18, nameIndex := 50, descriptorIndex := 47, attributes := #[] }, { accessFlags := 4122, nameIndex := 27, descriptorIndex := 28, attributes := #[] }])
  fields := #[{ name := "NONE", type := (.object "com/example/acompte/acompte/DocumentKind$Vat"), accessFlags := 16409, slot := 0, constantValue := 0 }, { name := "WAITS", type := (.object "com/example/acompte/acompte/DocumentKind$Vat"), accessFlags := 16409, slot := 1, constantValue := 0 }, { name := "WAITS_NO_MORE", type := (.object "com/example/acompte/acompte/DocumentKind$Vat"), accessFlags := 16409, slot := 2, constantValue := 0 }, { name := "FALLS_DUE_AFTER_WAITING", type := (.object "com/example/acompte/acompte/DocumentKind$Vat"), accessFlags := 16409, slot := 3, constantValue := 0 }, { name := "WAITS_AGAIN", type := (.object "com/example/acompte/acompte/DocumentKind$Vat"), accessFlags := 16409, slot := 4, constantValue := 0 }, { name := "FALLS_DUE", type := (.object "com/example/acompte/acompte/DocumentKind$Vat"), accessFlags := 16409, slot := 5, constantValue := 0 }, { name := "TAKEN_BACK", type := (.object "com/example/acompte/acompte/DocumentKind$Vat"), accessFlags := 16409, slot := 6, constantValue := 0 }, { name := "waiting", type := .int, accessFlags := 18, slot := 3, constantValue := 0 }, { name := "due", type := .int, accessFlags := 18, slot := 4, constantValue := 0 }, { name := "$VALUES", type := (.array (.object "com/example/acompte/acompte/DocumentKind$Vat")), accessFlags := 4122, slot := 7, constantValue := 0 }]
  methods := #[k6m0, k6m1, k6m2, k6m3]
  instanceTypes := #[(.object "java/lang/String"), .int, .int, .int, .int]
  staticTypes := #[(.object "com/example/acompte/acompte/DocumentKind$Vat"), (.object "com/example/acompte/acompte/DocumentKind$Vat"), (.object "com/example/acompte/acompte/DocumentKind$Vat"), (.object "com/example/acompte/acompte/DocumentKind$Vat"), (.object "com/example/acompte/acompte/DocumentKind$Vat"), (.object "com/example/acompte/acompte/DocumentKind$Vat"), (.object "com/example/acompte/acompte/DocumentKind$Vat"), (.array (.object "com/example/acompte/acompte/DocumentKind$Vat"))]
  resolved := Array.replicate 88 none
  statics := some 0 }

def pool7 : Array CpInfo := pool [(1, .class_ 2), (0, u "java/lang/Cloneable"), (0, .class_ 4), (0, u "java/lang/Object")] 2

/-- java/lang/Cloneable -/
def k7 : Class := { plain "java/lang/Cloneable" (some 0) with
  accessFlags := 1537
  interfaces := #[]
  cf := some (fileOf pool7 1 #[] #[] 1537 3 #[] #[])
  fields := #[]
  methods := #[]
  instanceTypes := #[]
  staticTypes := #[]
  resolved := Array.replicate 7 none
  statics := none }

/-- the primitive byte -/
def k8 : Class := { plain "byte" none with kind := .primitive 'B', accessFlags := 0x411 }
/-- [B -/
def k9 : Class := { plain "[B" (some 0) with kind := .array 8 .byte, interfaces := #[7, 4], accessFlags := 1041 }

/-- the primitive int -/
def k10 : Class := { plain "int" none with kind := .primitive 'I', accessFlags := 0x411 }
/-- [I -/
def k11 : Class := { plain "[I" (some 0) with kind := .array 10 .int, interfaces := #[7, 4], accessFlags := 1041 }

/-- [Lcom/example/acompte/acompte/DocumentKind$Vat; -/
def k12 : Class := { plain "[Lcom/example/acompte/acompte/DocumentKind$Vat;" (some 0) with kind := .array 6 (.object "com/example/acompte/acompte/DocumentKind$Vat"), interfaces := #[7, 4], accessFlags := 1041 }

def heap : Heap := #[{ cls := 6, slots := #[.ref 2, .ref 3, .ref 4, .ref 5, .ref 6, .ref 7, .ref 8, .ref 1], vm := .statics 6 },
  { cls := 12, slots := #[.ref 2, .ref 3, .ref 4, .ref 5, .ref 6, .ref 7, .ref 8], vm := .none },
  { cls := 6, slots := #[.null, .int 0, .int 0, .int 0, .int 0], vm := .none },
  { cls := 6, slots := #[.null, .int 1, .int 0, .int 1, .int 0], vm := .none },
  { cls := 6, slots := #[.null, .int 2, .int 0, .int (-1), .int 0], vm := .none },
  { cls := 6, slots := #[.null, .int 3, .int 0, .int (-1), .int 1], vm := .none },
  { cls := 6, slots := #[.null, .int 4, .int 0, .int 1, .int (-1)], vm := .none },
  { cls := 6, slots := #[.null, .int 5, .int 0, .int 0, .int 1], vm := .none },
  { cls := 6, slots := #[.null, .int 6, .int 0, .int 0, .int (-1)], vm := .none }]
def classes : Array Class := #[k0, k1, k2, k3, k4, k5, k6, k7, k8, k9, k10, k11, k12]
def interned : List (Array UInt16 × Addr) := []
def slotsUsed : Nat := 50
def theMethod : MethodId := ⟨1, 3⟩
def args0 : Array Value := #[.int 5]
def aboutOver (below : List Frame) : State where
  vm := { classes := classes, interned := interned.toArray }
  heap := heap
  slotsUsed := slotsUsed
  threads := #[{ frames := .invoking theMethod args0 :: below }]
def below0 : List Frame := [.native { method := ⟨0, 0⟩, args := #[] }]
def about1 : State := aboutOver below0
def p0 : Program := .bare "" "" ""
def e0 : Env := launch0.env 0 0 0
theorem w_frames : about1.frames = Frame.invoking theMethod args0 :: below0 := rfl
set_option maxRecDepth 65536 in
theorem w_args : argsFit about1.vm theMethod args0 = true := by decide +kernel
set_option maxRecDepth 65536 in
theorem w_heap : heapFits about1 = true := by decide +kernel
set_option maxRecDepth 65536 in
theorem w_runnable : about1.curStatus? = some .runnable := by decide +kernel
set_option maxRecDepth 65536 in
theorem w_alone : about1.alone = true := by decide +kernel
set_option maxRecDepth 65536 in
theorem w_named : about1.methodNamed? x = some theMethod := by decide +kernel
set_option maxRecDepth 65536 in
theorem w_hears : about1.hears theMethod below0 = true := by decide +kernel
set_option maxRecDepth 65536 in
theorem w_ripe : about1.ripe theMethod args0 below0 = true := by decide +kernel
theorem w_running : about1.status = .running := rfl
set_option maxRecDepth 65536 in
theorem w_room : about1.hasRoom e0.platform room_1 = true :=
  launch0.hasRoom_least _ room_1 (by decide +kernel) (by decide +kernel) (by decide +kernel) (by decide +kernel) (by decide +kernel) (by decide +kernel)
theorem allAtoms_all (ts : List Jvm.Cond) (a : Array Jvm.Value) (st : Jvm.State) : (allAtoms ts).before a st = ts.all (fun c => c.before a st) := by
  induction ts with
  | nil => rfl
  | cons c t ih =>
    show (Jvm.Cond.and c (allAtoms t)).before a st = _
    rw [Jvm.Cond.before_and, ih, List.all_cons]
def words1 : List Jvm.Cond := Jvm.Cond.code x code maxLocals ret :: tables_1
/-- a 'code' word, met by the world's own term for the bytes: nothing is compared byte by byte -/
theorem code_word {y : MethodName} {bytes : ByteArray} {mx : Nat} {rt : Option FieldType} {a : Array Value} {s : State} {m : MethodId} {meth : Method} {c : Code} (h1 : s.methodNamed? y = some m) (h2 : s.vm.method? m = some meth) (h3 : meth.code = some c) (h4 : c.code = bytes)
    (h5 : (c.maxLocals == mx && c.exceptionTable.isEmpty && decide (c.maxStack ≤ mostOperands) && decide (meth.sig.returnType = rt) && !meth.locks && decide (parseMethodDescriptor y.desc = some meth.sig)) = true) : (Jvm.Cond.code y bytes mx rt).before a s = true := by
  simp only [Bool.and_eq_true, beq_iff_eq, Bool.not_eq_true', decide_eq_true_eq] at h5
  obtain ⟨⟨⟨⟨⟨g1, g2⟩, g3⟩, g4⟩, g5⟩, g6⟩ := h5
  simp [Cond.before, Cond.holds, Cond.value, h1, h2, h3, h4, g1, g2, g3, g4, g5, g6]
def isCode : Jvm.Cond → Bool
  | .code _ _ _ _ => true
  | _ => false
theorem all_split {L : List Jvm.Cond} {P : Jvm.Cond → Bool} (h1 : L.all (fun c => isCode c || P c) = true) (h2 : ∀ c ∈ L.filter isCode, P c = true) : L.all P = true := by
  refine List.all_eq_true.mpr fun c hc => ?_
  have h := List.all_eq_true.mp h1 c hc
  rcases Bool.eq_false_or_eq_true (isCode c) with hi | hi
  · exact h2 c (List.mem_filter.mpr ⟨hc, hi⟩)
  · simpa [hi] using h
set_option maxRecDepth 65536 in
theorem w_c0 : (Jvm.Cond.code x code maxLocals ret).before args0 about1 = true := code_word (m := ⟨1, 3⟩) (meth := k1m3) (c := k1c3) (by decide +kernel) rfl rfl rfl (by decide +kernel)
set_option maxRecDepth 65536 in
theorem w_c1 : (Jvm.Cond.code ({ cls := "com/example/acompte/acompte/VatOppositePinLaw", name := "pick", desc := "(I)Lcom/example/acompte/acompte/DocumentKind$Vat;" } : Jvm.MethodName) method_2_code (1 : Nat) (Option.some (Jvm.ClassFile.FieldType.object "com/example/acompte/acompte/DocumentKind$Vat"))).before args0 about1 = true := code_word (m := ⟨1, 1⟩) (meth := k1m1) (c := k1c1) (by decide +kernel) rfl rfl rfl (by decide +kernel)
set_option maxRecDepth 65536 in
theorem w_c2 : (Jvm.Cond.code ({ cls := "com/example/acompte/acompte/DocumentKind$Vat", name := "opposite", desc := "()Lcom/example/acompte/acompte/DocumentKind$Vat;" } : Jvm.MethodName) prog_12_method_6_code (6 : Nat) (Option.some (Jvm.ClassFile.FieldType.object "com/example/acompte/acompte/DocumentKind$Vat"))).before args0 about1 = true := code_word (m := ⟨6, 3⟩) (meth := k6m3) (c := k6c3) (by decide +kernel) rfl rfl rfl (by decide +kernel)
set_option maxRecDepth 65536 in
theorem w_c3 : (Jvm.Cond.code ({ cls := "com/example/acompte/acompte/DocumentKind$Vat", name := "values", desc := "()[Lcom/example/acompte/acompte/DocumentKind$Vat;" } : Jvm.MethodName) prog_12_method_1_code (0 : Nat) (Option.some (Jvm.ClassFile.FieldType.array (Jvm.ClassFile.FieldType.object "com/example/acompte/acompte/DocumentKind$Vat")))).before args0 about1 = true := code_word (m := ⟨6, 0⟩) (meth := k6m0) (c := k6c0) (by decide +kernel) rfl rfl rfl (by decide +kernel)
set_option maxRecDepth 65536 in
theorem w_c4 : (Jvm.Cond.code ({ cls := "com/example/acompte/acompte/VatOppositePinLaw", name := "expected", desc := "(I)Lcom/example/acompte/acompte/DocumentKind$Vat;" } : Jvm.MethodName) method_3_code (1 : Nat) (Option.some (Jvm.ClassFile.FieldType.object "com/example/acompte/acompte/DocumentKind$Vat"))).before args0 about1 = true := code_word (m := ⟨1, 2⟩) (meth := k1m2) (c := k1c2) (by decide +kernel) rfl rfl rfl (by decide +kernel)
set_option maxRecDepth 65536 in
theorem w_c5 : (Jvm.Cond.code ({ cls := "com/example/acompte/acompte/DocumentKind$Vat", name := "waiting", desc := "()I" } : Jvm.MethodName) prog_12_method_4_code (1 : Nat) (Option.some Jvm.ClassFile.FieldType.int)).before args0 about1 = true := code_word (m := ⟨6, 1⟩) (meth := k6m1) (c := k6c1) (by decide +kernel) rfl rfl rfl (by decide +kernel)
set_option maxRecDepth 65536 in
theorem w_c6 : (Jvm.Cond.code ({ cls := "com/example/acompte/acompte/DocumentKind$Vat", name := "due", desc := "()I" } : Jvm.MethodName) prog_12_method_5_code (1 : Nat) (Option.some Jvm.ClassFile.FieldType.int)).before args0 about1 = true := code_word (m := ⟨6, 2⟩) (meth := k6m2) (c := k6c2) (by decide +kernel) rfl rfl rfl (by decide +kernel)
def codes1 : List Jvm.Cond := [Jvm.Cond.code x code maxLocals ret, Jvm.Cond.code ({ cls := "com/example/acompte/acompte/VatOppositePinLaw", name := "pick", desc := "(I)Lcom/example/acompte/acompte/DocumentKind$Vat;" } : Jvm.MethodName) method_2_code (1 : Nat) (Option.some (Jvm.ClassFile.FieldType.object "com/example/acompte/acompte/DocumentKind$Vat")), Jvm.Cond.code ({ cls := "com/example/acompte/acompte/DocumentKind$Vat", name := "opposite", desc := "()Lcom/example/acompte/acompte/DocumentKind$Vat;" } : Jvm.MethodName) prog_12_method_6_code (6 : Nat) (Option.some (Jvm.ClassFile.FieldType.object "com/example/acompte/acompte/DocumentKind$Vat")), Jvm.Cond.code ({ cls := "com/example/acompte/acompte/DocumentKind$Vat", name := "values", desc := "()[Lcom/example/acompte/acompte/DocumentKind$Vat;" } : Jvm.MethodName) prog_12_method_1_code (0 : Nat) (Option.some (Jvm.ClassFile.FieldType.array (Jvm.ClassFile.FieldType.object "com/example/acompte/acompte/DocumentKind$Vat"))), Jvm.Cond.code ({ cls := "com/example/acompte/acompte/VatOppositePinLaw", name := "expected", desc := "(I)Lcom/example/acompte/acompte/DocumentKind$Vat;" } : Jvm.MethodName) method_3_code (1 : Nat) (Option.some (Jvm.ClassFile.FieldType.object "com/example/acompte/acompte/DocumentKind$Vat")), Jvm.Cond.code ({ cls := "com/example/acompte/acompte/DocumentKind$Vat", name := "waiting", desc := "()I" } : Jvm.MethodName) prog_12_method_4_code (1 : Nat) (Option.some Jvm.ClassFile.FieldType.int), Jvm.Cond.code ({ cls := "com/example/acompte/acompte/DocumentKind$Vat", name := "due", desc := "()I" } : Jvm.MethodName) prog_12_method_5_code (1 : Nat) (Option.some Jvm.ClassFile.FieldType.int)]
set_option maxRecDepth 65536 in
theorem codes_eq : words1.filter isCode = codes1 := rfl
theorem w_codes : ∀ c ∈ words1.filter isCode, c.before args0 about1 = true := by
  rw [codes_eq]
  intro c hc
  simp only [codes1, List.mem_cons, List.not_mem_nil, or_false] at hc
  rcases hc with rfl | rfl | rfl | rfl | rfl | rfl | rfl
  · exact w_c0
  · exact w_c1
  · exact w_c2
  · exact w_c3
  · exact w_c4
  · exact w_c5
  · exact w_c6
set_option maxRecDepth 65536 in
theorem w_t1 : (words1.take 24).all (fun c => isCode c || c.before args0 about1) = true := by decide +kernel
set_option maxRecDepth 65536 in
theorem w_t2 : ((words1.drop 24).take 24).all (fun c => isCode c || c.before args0 about1) = true := by decide +kernel
set_option maxRecDepth 65536 in
theorem w_t3 : ((words1.drop 24).drop 24).all (fun c => isCode c || c.before args0 about1) = true := by decide +kernel
theorem w_tables : (allAtoms (Jvm.Cond.code x code maxLocals ret :: tables_1)).before args0 about1 = true := by
  rw [allAtoms_all]
  show words1.all (fun c => c.before args0 about1) = true
  refine all_split ?_ w_codes
  rw [← List.take_append_drop 24 words1, List.all_append, w_t1, ← List.take_append_drop 24 (words1.drop 24), List.all_append, w_t2, w_t3]
  rfl
set_option maxRecDepth 65536 in
theorem w_case : (Jvm.Cond.and given_1 narrow_1).before args0 about1 = true := by decide +kernel
theorem w_applies : (headSpec (Jvm.Cond.code x code maxLocals ret :: tables_1) room_1).applies x e0.platform about1 = true :=
  (Spec.applies_iff w_frames).mpr ⟨w_running, w_runnable, w_alone, w_named, w_hears, w_ripe, w_room, w_tables⟩
theorem atStart : AtStart classFile x code maxLocals ret World_1 tables_1 room_1 Calls_1 rest_1 Pre_1 launch0 p0 e0 about1 theMethod args0 below0 :=
  ⟨lists_1, trivial, launch0.admits_env _ _ _, launch0.least_env, fairChoices_fair.cas, fairChoices_fair.clock, w_frames, w_args, w_heap, w_applies, trivial, trivial, w_case⟩
end start1
theorem witness_1 : WitnessClaimed_1 := ⟨start1.p0, start1.e0, start1.about1, start1.theMethod, start1.args0, start1.below0, start1.atStart⟩
end Jvm.Pilot.@@N@@
