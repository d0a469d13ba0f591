import JvmDerived
import JvmDerived.Pilot.@@N@@Statement
import JvmDerived.Pilot.@@N@@Code
set_option linter.unusedVariables false
set_option linter.unusedSimpArgs false
@@BLOCK:NumsL.lean.txt@@
namespace Jvm.RoadKit
open Sem ClassFile Op Lib Jvm.Stand Jvm.Free Jvm.LawKit
section New
variable {p : Program} {l : Launch} {e : Env} {R : Room} {s : State} {m : MethodId} {args : Array Value} {below : List Frame} {meth : Method} {c : Code} {T : State} {locs : List Loc} {cells slots : Nat}
theorem retI (X : Stand p l e R s m args below meth c T locs cells slots) (hx : p.tables.exec = Jvm.exec) {pc : Nat} {Ls : Array Slot} {z : Int32} {rest : List Value} (hret : meth.sig.returnType = some .int) (hd : decode c.code pc = .ok (.ireturn, 1)) {fs : List Frame}
    (hl : ∀ (f : JFrame) (acts : List Action), f.method = m → f.locked = none → f.entered = [] → (doReturn e (T.setTop f) acts (some (.int z))).1 = T.setFrames fs) : Steps p.tables e below (T.setTop (mkF m pc Ls (.int z :: rest))) (T.setFrames fs) := by
  have hm' : T.vm.method? m = some meth := X.method'
  have hn : narrow .int (.int z) = .int z := rfl
  show Steps p.tables e below (T.setTop { method := m, pc := pc, locals := Ls, stack := _ :: rest, locked := none }) _
  jvm_step X.here [X.here.top, hx, hd, hm', hret, hn]
  first | (intro acts; rw [hl _ acts rfl rfl rfl]) | rw [hl _ _ rfl rfl rfl]
  exact Steps.refl _
theorem own_retL (X : Stand p l e R s m args below meth c T locs cells slots) (hx : p.tables.exec = Jvm.exec) {pc : Nat} {Ls : Array Slot} {z : Int64} {rest : List Value} (hret : meth.sig.returnType = some .long) (hd : decode c.code pc = .ok (.lreturn, 1)) {fs : List Frame}
    (hl : ∀ (f : JFrame) (acts : List Action), f.method = m → f.locked = none → f.entered = [] → (doReturn e (T.setTop f) acts (some (.long z))).1 = T.setFrames fs) : Steps p.tables e below (T.setTop (mkF m pc Ls (.long z :: rest))) (T.setFrames fs) := by
  have hm' : T.vm.method? m = some meth := X.method'
  have hn : narrow .long (.long z) = .long z := rfl
  show Steps p.tables e below (T.setTop { method := m, pc := pc, locals := Ls, stack := _ :: rest, locked := none }) _
  jvm_step X.here [X.here.top, hx, hd, hm', hret, hn]
  first | (intro acts; rw [hl _ acts rfl rfl rfl]) | rw [hl _ _ rfl rfl rfl]
  exact Steps.refl _
theorem own_retD (X : Stand p l e R s m args below meth c T locs cells slots) (hx : p.tables.exec = Jvm.exec) {pc : Nat} {Ls : Array Slot} {z : UInt64} {rest : List Value} (hret : meth.sig.returnType = some .double) (hd : decode c.code pc = .ok (.dreturn, 1)) {fs : List Frame}
    (hl : ∀ (f : JFrame) (acts : List Action), f.method = m → f.locked = none → f.entered = [] → (doReturn e (T.setTop f) acts (some (.double z))).1 = T.setFrames fs) : Steps p.tables e below (T.setTop (mkF m pc Ls (.double z :: rest))) (T.setFrames fs) := by
  have hm' : T.vm.method? m = some meth := X.method'
  have hn : narrow .double (.double z) = .double z := rfl
  show Steps p.tables e below (T.setTop { method := m, pc := pc, locals := Ls, stack := _ :: rest, locked := none }) _
  jvm_step X.here [X.here.top, hx, hd, hm', hret, hn]
  first | (intro acts; rw [hl _ acts rfl rfl rfl]) | rw [hl _ _ rfl rfl rfl]
  exact Steps.refl _
end New
end Jvm.RoadKit
namespace Jvm.Pilot.@@N@@
open Jvm Jvm.ClassFile Sem Op Lib Jvm.Free Jvm.Stand Jvm.LawKit Jvm.RoadKit Bundle Jvm.Pilot.@@N@@.Jvm.D
/-- the loops: three arrays of four, the open one, the count -/
def LP (Z : State) (h : Heap) (n0 : Nat) (a : Addr) (fs ls os : List Value) (op cnt : Int32) : Prop :=
  ∃ (f l o : Addr) (kf kl ko : ClassId), Exa Z h a "com/example/nested_path/nestedpath/pattern/StringPattern$Loops" ∧ Fld Z h a "com/example/nested_path/nestedpath/pattern/StringPattern$Loops" "firsts" "[I" (.ref f) ∧ Fld Z h a "com/example/nested_path/nestedpath/pattern/StringPattern$Loops" "lasts" "[I" (.ref l) ∧ Fld Z h a "com/example/nested_path/nestedpath/pattern/StringPattern$Loops" "outers" "[I" (.ref o) ∧ Fld Z h a "com/example/nested_path/nestedpath/pattern/StringPattern$Loops" "open" "I" (.int op) ∧ Fld Z h a "com/example/nested_path/nestedpath/pattern/StringPattern$Loops" "count" "I" (.int cnt) ∧ Arv Z h f kf .int 4 fs (.int 0) ∧ Arv Z h l kl .int 4 ls (.int 0) ∧ Arv Z h o ko .int 4 os (.int 0) ∧ n0 ≤ a ∧ n0 ≤ f ∧ n0 ≤ l ∧ n0 ≤ o ∧ a ≠ f ∧ a ≠ l ∧ a ≠ o ∧ f ≠ l ∧ f ≠ o ∧ l ≠ o ∧ fs.length = 4 ∧ ls.length = 4 ∧ os.length = 4
theorem LP.exa {Z : State} {h : Heap} {n0 : Nat} {a : Addr} {fs ls os : List Value} {op cnt : Int32} (B : LP Z h n0 a fs ls os op cnt) : Exa Z h a "com/example/nested_path/nestedpath/pattern/StringPattern$Loops" := by
  obtain ⟨f, l, o, kf, kl, ko, b1, -⟩ := B; exact b1
theorem own_toInt {c : Nat} (h : c < 100) : (Int32.ofNat c).toInt = (c : Int) := toInt_of rfl (by omega)
theorem own_clamp {c : Nat} (h : c < 100) : (Int32.ofNat c).toNatClampNeg = c := clamp_of rfl (by omega)
theorem own_nn {c : Nat} (h : c < 100) : ¬ (Int32.ofNat c < 0) := by
  rw [Int32.lt_iff_toInt_lt, own_toInt h, Int32.toInt_zero]; omega
theorem own_lt {a b : Nat} (ha : a < 100) (hb : b < 100) : Int32.ofNat a < Int32.ofNat b ↔ a < b := by
  rw [Int32.lt_iff_toInt_lt, own_toInt ha, own_toInt hb]; omega
theorem own_inb {k : Nat} (h : k < 4) : ¬ (Int32.ofNat k < 0) ∧ Int32.ofNat k < 4 := ⟨own_nn (by omega), (own_lt (b := 4) (by omega) (by omega)).mpr h⟩
def Q3 (Z : State) (a1 : Addr) (p2 : Int32) (k : Nat) (fz lz oz : List Value) (op : Int32) (h0 : Heap) (n0 : Nat) (v : Option Value) (h : Heap) (L : List Loc) : Prop := v = some (.int (Int32.ofNat k)) ∧ Fr n0 L ∧ h0.size ≤ h.size ∧ LP Z h n0 a1 (fz.set k (.int p2)) lz (oz.set k (.int op)) (Int32.ofNat k) (Int32.ofNat k + 1)
theorem d3_0 : decode prog_62_method_2_code 0 = .ok (.aload_n 0, 1) := by decide +kernel
theorem d3_1 : decode prog_62_method_2_code 1 = .ok (.getfield 23, 3) := by decide +kernel
theorem d3_4 : decode prog_62_method_2_code 4 = .ok (.aload_n 0, 1) := by decide +kernel
theorem d3_5 : decode prog_62_method_2_code 5 = .ok (.getfield 7, 3) := by decide +kernel
theorem d3_8 : decode prog_62_method_2_code 8 = .ok (.arraylength, 1) := by decide +kernel
theorem d3_9 : decode prog_62_method_2_code 9 = .ok (.if_icmp .ne 54, 3) := by decide +kernel
theorem d3_63 : decode prog_62_method_2_code 63 = .ok (.aload_n 0, 1) := by decide +kernel
theorem d3_64 : decode prog_62_method_2_code 64 = .ok (.getfield 7, 3) := by decide +kernel
theorem d3_67 : decode prog_62_method_2_code 67 = .ok (.aload_n 0, 1) := by decide +kernel
theorem d3_68 : decode prog_62_method_2_code 68 = .ok (.getfield 23, 3) := by decide +kernel
theorem d3_71 : decode prog_62_method_2_code 71 = .ok (.iload_n 1, 1) := by decide +kernel
theorem d3_72 : decode prog_62_method_2_code 72 = .ok (.iastore, 1) := by decide +kernel
theorem d3_73 : decode prog_62_method_2_code 73 = .ok (.aload_n 0, 1) := by decide +kernel
theorem d3_74 : decode prog_62_method_2_code 74 = .ok (.getfield 16, 3) := by decide +kernel
theorem d3_77 : decode prog_62_method_2_code 77 = .ok (.aload_n 0, 1) := by decide +kernel
theorem d3_78 : decode prog_62_method_2_code 78 = .ok (.getfield 23, 3) := by decide +kernel
theorem d3_81 : decode prog_62_method_2_code 81 = .ok (.aload_n 0, 1) := by decide +kernel
theorem d3_82 : decode prog_62_method_2_code 82 = .ok (.getfield 19, 3) := by decide +kernel
theorem d3_85 : decode prog_62_method_2_code 85 = .ok (.iastore, 1) := by decide +kernel
theorem d3_86 : decode prog_62_method_2_code 86 = .ok (.aload_n 0, 1) := by decide +kernel
theorem d3_87 : decode prog_62_method_2_code 87 = .ok (.aload_n 0, 1) := by decide +kernel
theorem d3_88 : decode prog_62_method_2_code 88 = .ok (.getfield 23, 3) := by decide +kernel
theorem d3_91 : decode prog_62_method_2_code 91 = .ok (.putfield 19, 3) := by decide +kernel
theorem d3_94 : decode prog_62_method_2_code 94 = .ok (.aload_n 0, 1) := by decide +kernel
theorem d3_95 : decode prog_62_method_2_code 95 = .ok (.dup, 1) := by decide +kernel
theorem d3_96 : decode prog_62_method_2_code 96 = .ok (.getfield 23, 3) := by decide +kernel
theorem d3_99 : decode prog_62_method_2_code 99 = .ok (.dup_x1, 1) := by decide +kernel
theorem d3_100 : decode prog_62_method_2_code 100 = .ok (.iconst 1, 1) := by decide +kernel
theorem d3_101 : decode prog_62_method_2_code 101 = .ok (.iadd, 1) := by decide +kernel
theorem d3_102 : decode prog_62_method_2_code 102 = .ok (.putfield 23, 3) := by decide +kernel
theorem d3_105 : decode prog_62_method_2_code 105 = .ok (.ireturn, 1) := by decide +kernel
theorem pn_3 : plainName "com/example/nested_path/nestedpath/pattern/StringPattern$Loops" = true := by first | (simp [plainName, overriddenIn]; done) | decide +kernel
theorem ef_3 (m : MethodId) (x0 : Addr) (x1 : Int32) : entryFrame m #[(.ref x0), (.int x1)] 2 = mkF m 0 #[.val (.ref x0), .val (.int x1)] [] := by first | (simp [entryFrame, mkF, argsToLocals, Value.category]; done) | rfl
set_option maxRecDepth 65536 in
set_option maxHeartbeats 40000000 in
theorem rm3_e (l : Launch) (Z : State) (a0 : Array Value) (hw : ∀ d ∈ tables_1, d.before a0 Z = true) (ws : List Jvm.Cond) (a1 : Addr) (p2 : Int32) (k : Nat) (fz lz oz : List Value) (op : Int32) (h0 : Heap) (n0 : Nat) (Z0 : n0 ≤ h0.size) (B : LP Z h0 n0 a1 fz lz oz op (Int32.ofNat k)) (hk : k < 4) :
    MetFree l (⟨"com/example/nested_path/nestedpath/pattern/StringPattern$Loops", "enter", "(I)I"⟩ : MethodName) (head1 (Jvm.Cond.code (⟨"com/example/nested_path/nestedpath/pattern/StringPattern$Loops", "enter", "(I)I"⟩ : MethodName) prog_62_method_2_code 2 (some .int) :: ws) ({ frames := 0, cells := 0, slots := 0, locals := 0 } : Room)) (fun a U => a = #[(.ref a1), (.int p2)] ∧ Z.Warmed39 U.vm ∧ U.heap = h0) (fun _ _ _ _ _ => True) (fun _ U o U' => ∃ v L, o = .returned v ∧ Q3 Z a1 p2 k fz lz oz op h0 n0 v U'.heap L ∧ FrameEnd U o U' L ({ frames := 0, cells := 0, slots := 0, locals := 0 } : Room).cells ({ frames := 0, cells := 0, slots := 0, locals := 0 } : Room).slots) := by
  refine MetFree.of_bodySF (plainFor_of_name pn_3) hisR ?_
  intro p e s m args below meth c s₁ Bd hml0 hP hK
  obtain ⟨rfl, hZ, hh⟩ := hP
  obtain ⟨f5, l5, o5, kf, kl, ko, E_a1, F_firsts_a1, F_lasts_a1, F_outers_a1, F_open_a1, F_count_a1, Vf, Vl, Vo, g_a1, g_f5, g_l5, g_o5, naf, nal, nao, nfl, nfo, nlo, lf, ll, lo⟩ := B
  obtain ⟨cl_f5, Ar_f5, q_f5, S_f5, N_f5, H_f5, G_f5⟩ := Vf
  have hin72 := inb_of S_f5 (own_inb hk)
  have hc9 : ¬ (Int32.ofNat k = (4 : Int32)) := fun e => by have := (own_inb hk).2; rw [e] at this; exact absurd this (by decide)
  have hx := Bd.exec
  have hby := Bd.bytes
  have hml : c.maxLocals = 2 := hml0
  have hown : s.vm.findClass "com/example/nested_path/nestedpath/pattern/StringPattern$Loops" = some m.cls := findClass_of_methodNamed Bd.named
  have hnm := (name_of_methodNamed Bd.named Bd.method).1
  have X0 : Stand p l e ({ frames := 0, cells := 0, slots := 0, locals := 0 } : Room) s m #[(.ref a1), (.int p2)] below meth c s₁ [] 0 0 := Stand.of_body Bd
  have e0 : s₁.heap = h0 := by rw [← hh, Bd.state]; rfl
  have N0 := Fr.nil n0
  have pre0 : ∀ t, Steps p.tables e below (s₁.setTop (mkF m 0 #[.val (.ref a1), .val (.int p2)] [])) t → Steps p.tables e below (s₁.setTop (entryFrame m #[(.ref a1), (.int p2)] 2)) t := fun t k => castTop (ef_3 m a1 p2) k
  -- 3. LAWS
  obtain ⟨T4, X4, e4, st4⟩ := getF X0 hx hZ hown (host := "") (Or.inl (hw _ (List.mem_of_getElem? (i := 23) rfl))) Via.refl e0 F_count_a1 (g := (mkF m 1 #[.val (.ref a1), .val (.int p2)] [(.ref a1)])) rfl rfl (hb hby d3_1)
  obtain ⟨T6, X6, e6, st6⟩ := getF X4 hx hZ hown (host := "") (Or.inl (hw _ (List.mem_of_getElem? (i := 10) rfl))) Via.refl e4 F_firsts_a1 (g := (mkF m 5 #[.val (.ref a1), .val (.int p2)] [(.ref a1), (.int (Int32.ofNat k))])) rfl rfl (hb hby d3_5)
  obtain ⟨T7, X7, e7, st7⟩ := getF X6 hx hZ hown (host := "") (Or.inl (hw _ (List.mem_of_getElem? (i := 10) rfl))) Via.refl e6 F_firsts_a1 (g := (mkF m 64 #[.val (.ref a1), .val (.int p2)] [(.ref a1)])) rfl rfl (hb hby d3_64)
  obtain ⟨T8, X8, e8, st8⟩ := getF X7 hx hZ hown (host := "") (Or.inl (hw _ (List.mem_of_getElem? (i := 23) rfl))) Via.refl e7 F_count_a1 (g := (mkF m 68 #[.val (.ref a1), .val (.int p2)] [(.ref a1), (.ref f5)])) rfl rfl (hb hby d3_68)
  obtain ⟨T9, h9, X9, e9, W9, st9⟩ := stI X8 hx hZ e8 Ar_f5 (j := (Int32.ofNat k)) hin72 (g := (mkF m 72 #[.val (.ref a1), .val (.int p2)] [(.int p2), (.int (Int32.ofNat k)), (.ref f5)])) rfl rfl (hb hby d3_72)
  have N9 := Fr.snoc X9 N0 g_f5
  -- Ar_f5.same W9 : the array with (.int p2) at the place (Int32.ofNat k)
  have K9 : Keep h0 h9 [f5, o5, a1] := (Keep.refl h0 [f5, o5, a1]).wr W9 (Or.inl (List.mem_of_getElem? (i := 0) rfl))
  obtain ⟨T11, X11, e11, st11⟩ := getF X9 hx hZ hown (host := "") (Or.inl (hw _ (List.mem_of_getElem? (i := 14) rfl))) Via.refl e9 (F_outers_a1.other W9 (Or.inl naf)) (g := (mkF m 74 #[.val (.ref a1), .val (.int p2)] [(.ref a1)])) rfl rfl (hb hby d3_74)
  obtain ⟨T12, X12, e12, st12⟩ := getF X11 hx hZ hown (host := "") (Or.inl (hw _ (List.mem_of_getElem? (i := 23) rfl))) Via.refl e11 (F_count_a1.other W9 (Or.inl naf)) (g := (mkF m 78 #[.val (.ref a1), .val (.int p2)] [(.ref a1), (.ref o5)])) rfl rfl (hb hby d3_78)
  obtain ⟨T14, X14, e14, st14⟩ := getF X12 hx hZ hown (host := "") (Or.inl (hw _ (List.mem_of_getElem? (i := 16) rfl))) Via.refl e12 (F_open_a1.other W9 (Or.inl naf)) (g := (mkF m 82 #[.val (.ref a1), .val (.int p2)] [(.ref a1), (.int (Int32.ofNat k)), (.ref o5)])) rfl rfl (hb hby d3_82)
  have Vo9 := Vo.other W9 (Ne.symm nfo)
  obtain ⟨cl_o5, Ar_o5, q_o5, S_o5, N_o5, H_o5, G_o5⟩ := Vo9
  have hin85 := inb_of S_o5 (own_inb hk)
  obtain ⟨T15, h15, X15, e15, W15, st15⟩ := stI X14 hx hZ e14 Ar_o5 (j := (Int32.ofNat k)) hin85 (g := (mkF m 85 #[.val (.ref a1), .val (.int p2)] [(.int op), (.int (Int32.ofNat k)), (.ref o5)])) rfl rfl (hb hby d3_85)
  have N15 := Fr.snoc X15 N9 g_o5
  -- Ar_o5.same W15 : the array with (.int op) at the place (Int32.ofNat k)
  have K15 : Keep h0 h15 [f5, o5, a1] := K9.wr W15 (Or.inl (List.mem_of_getElem? (i := 1) rfl))
  obtain ⟨T16, X16, e16, st16⟩ := getF X15 hx hZ hown (host := "") (Or.inl (hw _ (List.mem_of_getElem? (i := 23) rfl))) Via.refl e15 ((F_count_a1.other W9 (Or.inl naf)).other W15 (Or.inl nao)) (g := (mkF m 88 #[.val (.ref a1), .val (.int p2)] [(.ref a1), (.ref a1)])) rfl rfl (hb hby d3_88)
  obtain ⟨T17, h17, X17, e17, W17, st17⟩ := putF X16 hx hZ hown (host := "") (Or.inl (hw _ (List.mem_of_getElem? (i := 16) rfl))) Via.refl e16 ((F_open_a1.other W9 (Or.inl naf)).other W15 (Or.inl nao)) ((E_a1.wr W9).wr W15) (Or.inl (hw _ (List.mem_of_getElem? (i := 17) rfl))) (hw _ (List.mem_of_getElem? (i := 1) rfl)) (ty := .int) (by decide) rfl rfl (g := (mkF m 91 #[.val (.ref a1), .val (.int p2)] [(.int (Int32.ofNat k)), (.ref a1)])) rfl rfl (hb hby d3_91)
  have Fw17 := ((F_open_a1.other W9 (Or.inl naf)).other W15 (Or.inl nao)).same W17      -- the field now holds (.int (Int32.ofNat k))
  have K17 : Keep h0 h17 [f5, o5, a1] := K15.wr W17 (Or.inl (List.mem_of_getElem? (i := 2) rfl))
  have N17 := Fr.snoc X17 N15 g_a1
  obtain ⟨T18, X18, e18, st18⟩ := getF X17 hx hZ hown (host := "") (Or.inl (hw _ (List.mem_of_getElem? (i := 23) rfl))) Via.refl e17 (((F_count_a1.other W9 (Or.inl naf)).other W15 (Or.inl nao)).other W17 (Or.inr (slot_ne (Or.inl (hw _ (List.mem_of_getElem? (i := 24) rfl))) (Or.inl (hw _ (List.mem_of_getElem? (i := 17) rfl))) (by decide) (t := .int) (t' := .int) (by decide) (by decide)))) (g := (mkF m 96 #[.val (.ref a1), .val (.int p2)] [(.ref a1), (.ref a1)])) rfl rfl (hb hby d3_96)
  obtain ⟨T19, h19, X19, e19, W19, st19⟩ := putF X18 hx hZ hown (host := "") (Or.inl (hw _ (List.mem_of_getElem? (i := 23) rfl))) Via.refl e18 (((F_count_a1.other W9 (Or.inl naf)).other W15 (Or.inl nao)).other W17 (Or.inr (slot_ne (Or.inl (hw _ (List.mem_of_getElem? (i := 24) rfl))) (Or.inl (hw _ (List.mem_of_getElem? (i := 17) rfl))) (by decide) (t := .int) (t' := .int) (by decide) (by decide)))) (((E_a1.wr W9).wr W15).wr W17) (Or.inl (hw _ (List.mem_of_getElem? (i := 24) rfl))) (hw _ (List.mem_of_getElem? (i := 1) rfl)) (ty := .int) (by decide) rfl rfl (g := (mkF m 102 #[.val (.ref a1), .val (.int p2)] [(.int ((Int32.ofNat k) + (1 : Int32))), (.ref a1), (.int (Int32.ofNat k))])) rfl rfl (hb hby d3_102)
  have Fw19 := (((F_count_a1.other W9 (Or.inl naf)).other W15 (Or.inl nao)).other W17 (Or.inr (slot_ne (Or.inl (hw _ (List.mem_of_getElem? (i := 24) rfl))) (Or.inl (hw _ (List.mem_of_getElem? (i := 17) rfl))) (by decide) (t := .int) (t' := .int) (by decide) (by decide)))).same W19      -- the field now holds (.int ((Int32.ofNat k) + (1 : Int32)))
  have K19 : Keep h0 h19 [f5, o5, a1] := K17.wr W19 (Or.inl (List.mem_of_getElem? (i := 2) rfl))
  have N19 := Fr.snoc X19 N17 g_a1
  obtain ⟨fs, hr, hrun, hended, hW, hsame⟩ := X19.leave (v := some (.int (Int32.ofNat k))) (fun h => by rw [Bd.returns] at h; cases h)
  refine ⟨_, _, pre0 _ ?_, hrun, hended, _, _, rfl, ?_, ⟨_, rfl⟩, hW, hsame.mono (by decide) (by decide)⟩
  -- 4. STEPS
  · show Steps p.tables e below (s₁.setTop (mkF m 0 #[.val (.ref a1), .val (.int p2)] [])) _
    refine XS.aloadN X0.here hx rfl (hb hby d3_0) rfl rfl ?_
    show Steps p.tables e below (s₁.setTop (mkF m 1 #[.val (.ref a1), .val (.int p2)] [(.ref a1)])) _
    refine st4 _ ?_
    show Steps p.tables e below (T4.setTop (mkF m 4 #[.val (.ref a1), .val (.int p2)] [(.int (Int32.ofNat k))])) _
    refine XS.aloadN X4.here hx rfl (hb hby d3_4) rfl rfl ?_
    show Steps p.tables e below (T4.setTop (mkF m 5 #[.val (.ref a1), .val (.int p2)] [(.ref a1), (.int (Int32.ofNat k))])) _
    refine st6 _ ?_
    show Steps p.tables e below (T6.setTop (mkF m 8 #[.val (.ref a1), .val (.int p2)] [(.ref f5), (.int (Int32.ofNat k))])) _
    refine X6.arraylength hx (by rw [e6]; exact Ar_f5.1) (State.isArrayOf_alike hZ.alike Ar_f5.2.1) (g := (mkF m 8 #[.val (.ref a1), .val (.int p2)] [(.ref f5), (.int (Int32.ofNat k))])) rfl rfl (hb hby d3_8) _ ?_
    rw [len_of S_f5 N_f5]
    show Steps p.tables e below (T6.setTop (mkF m 9 #[.val (.ref a1), .val (.int p2)] [(.int (4 : Int32)), (.int (Int32.ofNat k))])) _
    refine XS.icmpYes X6.here hx rfl (pc0 := 9) (pc' := 63) rfl (hb hby d3_9) rfl (feq hc9).2 (by decide) (by decide) ?_
    show Steps p.tables e below (T6.setTop (mkF m 63 #[.val (.ref a1), .val (.int p2)] [])) _
    refine XS.aloadN X6.here hx rfl (hb hby d3_63) rfl rfl ?_
    show Steps p.tables e below (T6.setTop (mkF m 64 #[.val (.ref a1), .val (.int p2)] [(.ref a1)])) _
    refine st7 _ ?_
    show Steps p.tables e below (T7.setTop (mkF m 67 #[.val (.ref a1), .val (.int p2)] [(.ref f5)])) _
    refine XS.aloadN X7.here hx rfl (hb hby d3_67) rfl rfl ?_
    show Steps p.tables e below (T7.setTop (mkF m 68 #[.val (.ref a1), .val (.int p2)] [(.ref a1), (.ref f5)])) _
    refine st8 _ ?_
    show Steps p.tables e below (T8.setTop (mkF m 71 #[.val (.ref a1), .val (.int p2)] [(.int (Int32.ofNat k)), (.ref f5)])) _
    refine XS.iloadN X8.here hx rfl (hb hby d3_71) rfl ?_
    show Steps p.tables e below (T8.setTop (mkF m 72 #[.val (.ref a1), .val (.int p2)] [(.int p2), (.int (Int32.ofNat k)), (.ref f5)])) _
    refine st9 _ ?_
    show Steps p.tables e below (T9.setTop (mkF m 73 #[.val (.ref a1), .val (.int p2)] [])) _
    refine XS.aloadN X9.here hx rfl (hb hby d3_73) rfl rfl ?_
    show Steps p.tables e below (T9.setTop (mkF m 74 #[.val (.ref a1), .val (.int p2)] [(.ref a1)])) _
    refine st11 _ ?_
    show Steps p.tables e below (T11.setTop (mkF m 77 #[.val (.ref a1), .val (.int p2)] [(.ref o5)])) _
    refine XS.aloadN X11.here hx rfl (hb hby d3_77) rfl rfl ?_
    show Steps p.tables e below (T11.setTop (mkF m 78 #[.val (.ref a1), .val (.int p2)] [(.ref a1), (.ref o5)])) _
    refine st12 _ ?_
    show Steps p.tables e below (T12.setTop (mkF m 81 #[.val (.ref a1), .val (.int p2)] [(.int (Int32.ofNat k)), (.ref o5)])) _
    refine XS.aloadN X12.here hx rfl (hb hby d3_81) rfl rfl ?_
    show Steps p.tables e below (T12.setTop (mkF m 82 #[.val (.ref a1), .val (.int p2)] [(.ref a1), (.int (Int32.ofNat k)), (.ref o5)])) _
    refine st14 _ ?_
    show Steps p.tables e below (T14.setTop (mkF m 85 #[.val (.ref a1), .val (.int p2)] [(.int op), (.int (Int32.ofNat k)), (.ref o5)])) _
    refine st15 _ ?_
    show Steps p.tables e below (T15.setTop (mkF m 86 #[.val (.ref a1), .val (.int p2)] [])) _
    refine XS.aloadN X15.here hx rfl (hb hby d3_86) rfl rfl ?_
    show Steps p.tables e below (T15.setTop (mkF m 87 #[.val (.ref a1), .val (.int p2)] [(.ref a1)])) _
    refine XS.aloadN X15.here hx rfl (hb hby d3_87) rfl rfl ?_
    show Steps p.tables e below (T15.setTop (mkF m 88 #[.val (.ref a1), .val (.int p2)] [(.ref a1), (.ref a1)])) _
    refine st16 _ ?_
    show Steps p.tables e below (T16.setTop (mkF m 91 #[.val (.ref a1), .val (.int p2)] [(.int (Int32.ofNat k)), (.ref a1)])) _
    refine st17 _ ?_
    show Steps p.tables e below (T17.setTop (mkF m 94 #[.val (.ref a1), .val (.int p2)] [])) _
    refine XS.aloadN X17.here hx rfl (hb hby d3_94) rfl rfl ?_
    show Steps p.tables e below (T17.setTop (mkF m 95 #[.val (.ref a1), .val (.int p2)] [(.ref a1)])) _
    refine XS.dup X17.here hx rfl (hb hby d3_95) rfl rfl ?_
    show Steps p.tables e below (T17.setTop (mkF m 96 #[.val (.ref a1), .val (.int p2)] [(.ref a1), (.ref a1)])) _
    refine st18 _ ?_
    show Steps p.tables e below (T18.setTop (mkF m 99 #[.val (.ref a1), .val (.int p2)] [(.int (Int32.ofNat k)), (.ref a1)])) _
    refine XS.dupX1 X18.here hx rfl (hb hby d3_99) rfl rfl rfl ?_
    show Steps p.tables e below (T18.setTop (mkF m 100 #[.val (.ref a1), .val (.int p2)] [(.int (Int32.ofNat k)), (.ref a1), (.int (Int32.ofNat k))])) _
    refine XS.iconst X18.here hx rfl (hb hby d3_100) ?_
    show Steps p.tables e below (T18.setTop (mkF m 101 #[.val (.ref a1), .val (.int p2)] [(.int (1 : Int32)), (.int (Int32.ofNat k)), (.ref a1), (.int (Int32.ofNat k))])) _
    refine XS.iadd X18.here hx rfl (hb hby d3_101) rfl ?_
    show Steps p.tables e below (T18.setTop (mkF m 102 #[.val (.ref a1), .val (.int p2)] [(.int ((Int32.ofNat k) + (1 : Int32))), (.ref a1), (.int (Int32.ofNat k))])) _
    refine st19 _ ?_
    show Steps p.tables e below (T19.setTop (mkF m 105 #[.val (.ref a1), .val (.int p2)] [(.int (Int32.ofNat k))])) _
    exact retI X19 hx Bd.returns (hb hby d3_105) hr      -- retI stands in the head ('lawwalk <made dir>' prints it)
  · show Q3 Z a1 p2 k fz lz oz op h0 n0 _ T19.heap _
    rw [e19]
    have Vf' := (((Arv.set Ar_f5 q_f5 S_f5 N_f5 H_f5 G_f5 (v := .int p2) rfl W9 k (own_clamp (by omega)) (by omega)).other W15 nfo).other W17 (Ne.symm naf)).other W19 (Ne.symm naf)
    have Vo' := ((Arv.set Ar_o5 q_o5 S_o5 N_o5 H_o5 G_o5 (v := .int op) rfl W15 k (own_clamp (by omega)) (by omega)).other W17 (Ne.symm nao)).other W19 (Ne.symm nao)
    have Vl' := (((Vl.other W9 (Ne.symm nfl)).other W15 nlo).other W17 (Ne.symm nal)).other W19 (Ne.symm nal)
    exact ⟨rfl, N19, K19.1, f5, l5, o5, kf, kl, ko, (((E_a1.wr W9).wr W15).wr W17).wr W19, (((F_firsts_a1.other W9 (Or.inl naf)).other W15 (Or.inl nao)).other W17 (Or.inr (slot_ne (Or.inl (hw _ (List.mem_of_getElem? (i := 11) rfl))) (Or.inl (hw _ (List.mem_of_getElem? (i := 17) rfl))) (by decide) (t := (.array .int)) (t' := .int) (by decide) (by decide)))).other W19 (Or.inr (slot_ne (Or.inl (hw _ (List.mem_of_getElem? (i := 11) rfl))) (Or.inl (hw _ (List.mem_of_getElem? (i := 24) rfl))) (by decide) (t := (.array .int)) (t' := .int) (by decide) (by decide))), (((F_lasts_a1.other W9 (Or.inl naf)).other W15 (Or.inl nao)).other W17 (Or.inr (slot_ne (Or.inl (hw _ (List.mem_of_getElem? (i := 13) rfl))) (Or.inl (hw _ (List.mem_of_getElem? (i := 17) rfl))) (by decide) (t := (.array .int)) (t' := .int) (by decide) (by decide)))).other W19 (Or.inr (slot_ne (Or.inl (hw _ (List.mem_of_getElem? (i := 13) rfl))) (Or.inl (hw _ (List.mem_of_getElem? (i := 24) rfl))) (by decide) (t := (.array .int)) (t' := .int) (by decide) (by decide))), (((F_outers_a1.other W9 (Or.inl naf)).other W15 (Or.inl nao)).other W17 (Or.inr (slot_ne (Or.inl (hw _ (List.mem_of_getElem? (i := 15) rfl))) (Or.inl (hw _ (List.mem_of_getElem? (i := 17) rfl))) (by decide) (t := (.array .int)) (t' := .int) (by decide) (by decide)))).other W19 (Or.inr (slot_ne (Or.inl (hw _ (List.mem_of_getElem? (i := 15) rfl))) (Or.inl (hw _ (List.mem_of_getElem? (i := 24) rfl))) (by decide) (t := (.array .int)) (t' := .int) (by decide) (by decide))), Fw17.other W19 (Or.inr (slot_ne (Or.inl (hw _ (List.mem_of_getElem? (i := 17) rfl))) (Or.inl (hw _ (List.mem_of_getElem? (i := 24) rfl))) (by decide) (t := .int) (t' := .int) (by decide) (by decide))), Fw19, Vf', Vl', Vo', g_a1, g_f5, g_l5, g_o5, naf, nal, nao, nfl, nfo, nlo, by simp [lf], ll, by simp [lo]⟩
def Q4 (Z : State) (a1 : Addr) (p3 : Int32) (k : Nat) (fz lz oz : List Value) (x cnt : Int32) (h0 : Heap) (n0 : Nat) (v : Option Value) (h : Heap) (L : List Loc) : Prop := v = none ∧ Fr n0 L ∧ h0.size ≤ h.size ∧ LP Z h n0 a1 fz (lz.set k (.int p3)) oz x cnt
theorem d4_0 : decode prog_62_method_3_code 0 = .ok (.aload_n 0, 1) := by decide +kernel
theorem d4_1 : decode prog_62_method_3_code 1 = .ok (.getfield 13, 3) := by decide +kernel
theorem d4_4 : decode prog_62_method_3_code 4 = .ok (.iload_n 1, 1) := by decide +kernel
theorem d4_5 : decode prog_62_method_3_code 5 = .ok (.iload_n 2, 1) := by decide +kernel
theorem d4_6 : decode prog_62_method_3_code 6 = .ok (.iastore, 1) := by decide +kernel
theorem d4_7 : decode prog_62_method_3_code 7 = .ok (.aload_n 0, 1) := by decide +kernel
theorem d4_8 : decode prog_62_method_3_code 8 = .ok (.aload_n 0, 1) := by decide +kernel
theorem d4_9 : decode prog_62_method_3_code 9 = .ok (.getfield 16, 3) := by decide +kernel
theorem d4_12 : decode prog_62_method_3_code 12 = .ok (.iload_n 1, 1) := by decide +kernel
theorem d4_13 : decode prog_62_method_3_code 13 = .ok (.iaload, 1) := by decide +kernel
theorem d4_14 : decode prog_62_method_3_code 14 = .ok (.putfield 19, 3) := by decide +kernel
theorem d4_17 : decode prog_62_method_3_code 17 = .ok (.return_, 1) := by decide +kernel
theorem pn_4 : plainName "com/example/nested_path/nestedpath/pattern/StringPattern$Loops" = true := by first | (simp [plainName, overriddenIn]; done) | decide +kernel
theorem ef_4 (m : MethodId) (x0 : Addr) (x1 : Int32) (x2 : Int32) : entryFrame m #[(.ref x0), (.int x1), (.int x2)] 3 = mkF m 0 #[.val (.ref x0), .val (.int x1), .val (.int x2)] [] := by first | (simp [entryFrame, mkF, argsToLocals, Value.category]; done) | rfl
set_option maxRecDepth 65536 in
set_option maxHeartbeats 40000000 in
theorem rm4_l (l : Launch) (Z : State) (a0 : Array Value) (hw : ∀ d ∈ tables_1, d.before a0 Z = true) (ws : List Jvm.Cond) (a1 : Addr) (p2 : Int32) (p3 : Int32) (k : Nat) (fz lz oz : List Value) (op cnt x : Int32) (h0 : Heap) (n0 : Nat) (Z0 : n0 ≤ h0.size) (B : LP Z h0 n0 a1 fz lz oz op cnt) (hk : k < 4) (hp2 : p2 = Int32.ofNat k) (hox : oz.getD k (.int 0) = .int x) :
    MetFree l (⟨"com/example/nested_path/nestedpath/pattern/StringPattern$Loops", "leave", "(II)V"⟩ : MethodName) (head1 (Jvm.Cond.code (⟨"com/example/nested_path/nestedpath/pattern/StringPattern$Loops", "leave", "(II)V"⟩ : MethodName) prog_62_method_3_code 3 none :: ws) ({ frames := 0, cells := 0, slots := 0, locals := 0 } : Room)) (fun a U => a = #[(.ref a1), (.int p2), (.int p3)] ∧ Z.Warmed39 U.vm ∧ U.heap = h0) (fun _ _ _ _ _ => True) (fun _ U o U' => ∃ v L, o = .returned v ∧ Q4 Z a1 p3 k fz lz oz x cnt h0 n0 v U'.heap L ∧ FrameEnd U o U' L ({ frames := 0, cells := 0, slots := 0, locals := 0 } : Room).cells ({ frames := 0, cells := 0, slots := 0, locals := 0 } : Room).slots) := by
  refine MetFree.of_bodySF (plainFor_of_name pn_4) hisR ?_
  intro p e s m args below meth c s₁ Bd hml0 hP hK
  obtain ⟨rfl, hZ, hh⟩ := hP
  obtain ⟨f5, l5, o5, kf, kl, ko, E_a1, F_firsts_a1, F_lasts_a1, F_outers_a1, F_open_a1, F_count_a1, Vf, Vl, Vo, g_a1, g_f5, g_l5, g_o5, naf, nal, nao, nfl, nfo, nlo, lf, ll, lo⟩ := B
  obtain ⟨cl_l5, Ar_l5, q_l5, S_l5, N_l5, H_l5, G_l5⟩ := Vl
  have hin6 := inb_of S_l5 (j := p2) (by rw [hp2]; exact own_inb hk)
  have hx := Bd.exec
  have hby := Bd.bytes
  have hml : c.maxLocals = 3 := hml0
  have hown : s.vm.findClass "com/example/nested_path/nestedpath/pattern/StringPattern$Loops" = some m.cls := findClass_of_methodNamed Bd.named
  have hnm := (name_of_methodNamed Bd.named Bd.method).1
  have X0 : Stand p l e ({ frames := 0, cells := 0, slots := 0, locals := 0 } : Room) s m #[(.ref a1), (.int p2), (.int p3)] below meth c s₁ [] 0 0 := Stand.of_body Bd
  have e0 : s₁.heap = h0 := by rw [← hh, Bd.state]; rfl
  have N0 := Fr.nil n0
  have pre0 : ∀ t, Steps p.tables e below (s₁.setTop (mkF m 0 #[.val (.ref a1), .val (.int p2), .val (.int p3)] [])) t → Steps p.tables e below (s₁.setTop (entryFrame m #[(.ref a1), (.int p2), (.int p3)] 3)) t := fun t k => castTop (ef_4 m a1 p2 p3) k
  -- 3. LAWS
  obtain ⟨T5, X5, e5, st5⟩ := getF X0 hx hZ hown (host := "") (Or.inl (hw _ (List.mem_of_getElem? (i := 12) rfl))) Via.refl e0 F_lasts_a1 (g := (mkF m 1 #[.val (.ref a1), .val (.int p2), .val (.int p3)] [(.ref a1)])) rfl rfl (hb hby d4_1)
  obtain ⟨T6, h6, X6, e6, W6, st6⟩ := stI X5 hx hZ e5 Ar_l5 (j := p2) hin6 (g := (mkF m 6 #[.val (.ref a1), .val (.int p2), .val (.int p3)] [(.int p3), (.int p2), (.ref l5)])) rfl rfl (hb hby d4_6)
  have N6 := Fr.snoc X6 N0 g_l5
  -- Ar_l5.same W6 : the array with (.int p3) at the place p2
  have K6 : Keep h0 h6 [l5, a1] := (Keep.refl h0 [l5, a1]).wr W6 (Or.inl (List.mem_of_getElem? (i := 0) rfl))
  obtain ⟨T8, X8, e8, st8⟩ := getF X6 hx hZ hown (host := "") (Or.inl (hw _ (List.mem_of_getElem? (i := 14) rfl))) Via.refl e6 (F_outers_a1.other W6 (Or.inl nal)) (g := (mkF m 9 #[.val (.ref a1), .val (.int p2), .val (.int p3)] [(.ref a1), (.ref a1)])) rfl rfl (hb hby d4_9)
  have Vo6 := Vo.other W6 (Ne.symm nlo)
  obtain ⟨cl_o5, Ar_o5, q_o5, S_o5, N_o5, H_o5, G_o5⟩ := Vo6
  have hin13 := inb_of S_o5 (j := p2) (by rw [hp2]; exact own_inb hk)
  have hat13 : cl_o5.slots[(p2).toNatClampNeg]? = some (.int x) := Has.at H_o5 hin13 (by rw [hp2, own_clamp (by omega)]; exact hox)
  obtain ⟨T10, h10, X10, e10, W10, st10⟩ := putF X8 hx hZ hown (host := "") (Or.inl (hw _ (List.mem_of_getElem? (i := 16) rfl))) Via.refl e8 (F_open_a1.other W6 (Or.inl nal)) (E_a1.wr W6) (Or.inl (hw _ (List.mem_of_getElem? (i := 17) rfl))) (hw _ (List.mem_of_getElem? (i := 1) rfl)) (ty := .int) (by decide) rfl rfl (g := (mkF m 14 #[.val (.ref a1), .val (.int p2), .val (.int p3)] [(.int x), (.ref a1)])) rfl rfl (hb hby d4_14)
  have Fw10 := (F_open_a1.other W6 (Or.inl nal)).same W10      -- the field now holds (.int x)
  have K10 : Keep h0 h10 [l5, a1] := K6.wr W10 (Or.inl (List.mem_of_getElem? (i := 1) rfl))
  have N10 := Fr.snoc X10 N6 g_a1
  obtain ⟨fs, hr, hrun, hended, hW, hsame⟩ := X10.leave (v := none) (fun _ => rfl)
  refine ⟨_, _, pre0 _ ?_, hrun, hended, _, _, rfl, ?_, ⟨_, rfl⟩, hW, hsame.mono (by decide) (by decide)⟩
  -- 4. STEPS
  · show Steps p.tables e below (s₁.setTop (mkF m 0 #[.val (.ref a1), .val (.int p2), .val (.int p3)] [])) _
    refine XS.aloadN X0.here hx rfl (hb hby d4_0) rfl rfl ?_
    show Steps p.tables e below (s₁.setTop (mkF m 1 #[.val (.ref a1), .val (.int p2), .val (.int p3)] [(.ref a1)])) _
    refine st5 _ ?_
    show Steps p.tables e below (T5.setTop (mkF m 4 #[.val (.ref a1), .val (.int p2), .val (.int p3)] [(.ref l5)])) _
    refine XS.iloadN X5.here hx rfl (hb hby d4_4) rfl ?_
    show Steps p.tables e below (T5.setTop (mkF m 5 #[.val (.ref a1), .val (.int p2), .val (.int p3)] [(.int p2), (.ref l5)])) _
    refine XS.iloadN X5.here hx rfl (hb hby d4_5) rfl ?_
    show Steps p.tables e below (T5.setTop (mkF m 6 #[.val (.ref a1), .val (.int p2), .val (.int p3)] [(.int p3), (.int p2), (.ref l5)])) _
    refine st6 _ ?_
    show Steps p.tables e below (T6.setTop (mkF m 7 #[.val (.ref a1), .val (.int p2), .val (.int p3)] [])) _
    refine XS.aloadN X6.here hx rfl (hb hby d4_7) rfl rfl ?_
    show Steps p.tables e below (T6.setTop (mkF m 8 #[.val (.ref a1), .val (.int p2), .val (.int p3)] [(.ref a1)])) _
    refine XS.aloadN X6.here hx rfl (hb hby d4_8) rfl rfl ?_
    show Steps p.tables e below (T6.setTop (mkF m 9 #[.val (.ref a1), .val (.int p2), .val (.int p3)] [(.ref a1), (.ref a1)])) _
    refine st8 _ ?_
    show Steps p.tables e below (T8.setTop (mkF m 12 #[.val (.ref a1), .val (.int p2), .val (.int p3)] [(.ref o5), (.ref a1)])) _
    refine XS.iloadN X8.here hx rfl (hb hby d4_12) rfl ?_
    show Steps p.tables e below (T8.setTop (mkF m 13 #[.val (.ref a1), .val (.int p2), .val (.int p3)] [(.int p2), (.ref o5), (.ref a1)])) _
    refine X8.iaload hx (j := p2) (v := (.int x)) (by rw [e8]; exact Ar_o5.1) (State.isArrayOf_alike hZ.alike Ar_o5.2.1) Ar_o5.2.2 hin13 hat13 (g := (mkF m 13 #[.val (.ref a1), .val (.int p2), .val (.int p3)] [(.int p2), (.ref o5), (.ref a1)])) rfl rfl (hb hby d4_13) _ ?_
    show Steps p.tables e below (T8.setTop (mkF m 14 #[.val (.ref a1), .val (.int p2), .val (.int p3)] [(.int x), (.ref a1)])) _
    refine st10 _ ?_
    show Steps p.tables e below (T10.setTop (mkF m 17 #[.val (.ref a1), .val (.int p2), .val (.int p3)] [])) _
    exact X10.returnOut hx Bd.returns (hb hby d4_17) hr
  · show Q4 Z a1 p3 k fz lz oz x cnt h0 n0 _ T10.heap _
    rw [e10]
    have Vl' := (Arv.set Ar_l5 q_l5 S_l5 N_l5 H_l5 G_l5 (v := .int p3) rfl W6 k (by rw [hp2]; exact own_clamp (by omega)) (by omega)).other W10 (Ne.symm nal)
    exact ⟨rfl, N10, K10.1, f5, l5, o5, kf, kl, ko, (E_a1.wr W6).wr W10, (F_firsts_a1.other W6 (Or.inl nal)).other W10 (Or.inr (slot_ne (Or.inl (hw _ (List.mem_of_getElem? (i := 11) rfl))) (Or.inl (hw _ (List.mem_of_getElem? (i := 17) rfl))) (by decide) (t := (.array .int)) (t' := .int) (by decide) (by decide))), (F_lasts_a1.other W6 (Or.inl nal)).other W10 (Or.inr (slot_ne (Or.inl (hw _ (List.mem_of_getElem? (i := 13) rfl))) (Or.inl (hw _ (List.mem_of_getElem? (i := 17) rfl))) (by decide) (t := (.array .int)) (t' := .int) (by decide) (by decide))), (F_outers_a1.other W6 (Or.inl nal)).other W10 (Or.inr (slot_ne (Or.inl (hw _ (List.mem_of_getElem? (i := 15) rfl))) (Or.inl (hw _ (List.mem_of_getElem? (i := 17) rfl))) (by decide) (t := (.array .int)) (t' := .int) (by decide) (by decide))), Fw10, (F_count_a1.other W6 (Or.inl nal)).other W10 (Or.inr (slot_ne (Or.inl (hw _ (List.mem_of_getElem? (i := 24) rfl))) (Or.inl (hw _ (List.mem_of_getElem? (i := 17) rfl))) (by decide) (t := .int) (t' := .int) (by decide) (by decide))), (Vf.other W6 nfl).other W10 (Ne.symm naf), Vl', (Vo.other W6 (Ne.symm nlo)).other W10 (Ne.symm nao), g_a1, g_f5, g_l5, g_o5, naf, nal, nao, nfl, nfo, nlo, lf, by simp [ll], lo⟩
def Q1 (Z : State) (a1 : Addr) (h0 : Heap) (n0 : Nat) (v : Option Value) (h : Heap) (L : List Loc) : Prop := v = none ∧ Fr n0 L ∧ h0.size ≤ h.size ∧ LP Z h n0 a1 [(.int (0 : Int32)), (.int (0 : Int32)), (.int (0 : Int32)), (.int (0 : Int32))] [(.int (0 : Int32)), (.int (0 : Int32)), (.int (0 : Int32)), (.int (0 : Int32))] [(.int (0 : Int32)), (.int (0 : Int32)), (.int (0 : Int32)), (.int (0 : Int32))] (-1) 0
theorem d1_0 : decode prog_62_method_1_code 0 = .ok (.aload_n 0, 1) := by decide +kernel
theorem d1_1 : decode prog_62_method_1_code 1 = .ok (.invokespecial 1, 3) := by decide +kernel
theorem d1_4 : decode prog_62_method_1_code 4 = .ok (.aload_n 0, 1) := by decide +kernel
theorem d1_5 : decode prog_62_method_1_code 5 = .ok (.iconst 4, 1) := by decide +kernel
theorem d1_6 : decode prog_62_method_1_code 6 = .ok (.newarray .int, 2) := by decide +kernel
theorem d1_8 : decode prog_62_method_1_code 8 = .ok (.putfield 7, 3) := by decide +kernel
theorem d1_11 : decode prog_62_method_1_code 11 = .ok (.aload_n 0, 1) := by decide +kernel
theorem d1_12 : decode prog_62_method_1_code 12 = .ok (.iconst 4, 1) := by decide +kernel
theorem d1_13 : decode prog_62_method_1_code 13 = .ok (.newarray .int, 2) := by decide +kernel
theorem d1_15 : decode prog_62_method_1_code 15 = .ok (.putfield 13, 3) := by decide +kernel
theorem d1_18 : decode prog_62_method_1_code 18 = .ok (.aload_n 0, 1) := by decide +kernel
theorem d1_19 : decode prog_62_method_1_code 19 = .ok (.iconst 4, 1) := by decide +kernel
theorem d1_20 : decode prog_62_method_1_code 20 = .ok (.newarray .int, 2) := by decide +kernel
theorem d1_22 : decode prog_62_method_1_code 22 = .ok (.putfield 16, 3) := by decide +kernel
theorem d1_25 : decode prog_62_method_1_code 25 = .ok (.aload_n 0, 1) := by decide +kernel
theorem d1_26 : decode prog_62_method_1_code 26 = .ok (.iconst (-1), 1) := by decide +kernel
theorem d1_27 : decode prog_62_method_1_code 27 = .ok (.putfield 19, 3) := by decide +kernel
theorem d1_30 : decode prog_62_method_1_code 30 = .ok (.return_, 1) := by decide +kernel
theorem pn_1 : plainName "com/example/nested_path/nestedpath/pattern/StringPattern$Loops" = true := by first | (simp [plainName, overriddenIn]; done) | decide +kernel
theorem ef_1 (m : MethodId) (x0 : Addr) : entryFrame m #[(.ref x0)] 1 = mkF m 0 #[.val (.ref x0)] [] := by first | (simp [entryFrame, mkF, argsToLocals, Value.category]; done) | rfl
set_option maxRecDepth 65536 in
set_option maxHeartbeats 40000000 in
theorem rm1_i (l : Launch) (Z : State) (a0 : Array Value) (hw : ∀ d ∈ tables_1, d.before a0 Z = true) (ws : List Jvm.Cond) (a1 : Addr) (u_firsts_a1 : Value) (u_lasts_a1 : Value) (u_outers_a1 : Value) (u_open_a1 : Value) (h0 : Heap) (n0 : Nat) (Z0 : n0 ≤ h0.size) (E_a1 : Exa Z h0 a1 "com/example/nested_path/nestedpath/pattern/StringPattern$Loops") (F_firsts_a1 : Fld Z h0 a1 "com/example/nested_path/nestedpath/pattern/StringPattern$Loops" "firsts" "[I" u_firsts_a1) (F_lasts_a1 : Fld Z h0 a1 "com/example/nested_path/nestedpath/pattern/StringPattern$Loops" "lasts" "[I" u_lasts_a1) (F_outers_a1 : Fld Z h0 a1 "com/example/nested_path/nestedpath/pattern/StringPattern$Loops" "outers" "[I" u_outers_a1) (F_open_a1 : Fld Z h0 a1 "com/example/nested_path/nestedpath/pattern/StringPattern$Loops" "open" "I" u_open_a1) (F_count_a1 : Fld Z h0 a1 "com/example/nested_path/nestedpath/pattern/StringPattern$Loops" "count" "I" (.int (0 : Int32))) (g_a1 : n0 ≤ a1) :
    MetFree l (⟨"com/example/nested_path/nestedpath/pattern/StringPattern$Loops", "<init>", "()V"⟩ : MethodName) (head1 (Jvm.Cond.code (⟨"com/example/nested_path/nestedpath/pattern/StringPattern$Loops", "<init>", "()V"⟩ : MethodName) prog_62_method_1_code 1 none :: ws) ({ frames := 1, cells := 3, slots := 12, locals := 12 } : Room)) (fun a U => a = #[(.ref a1)] ∧ Z.Warmed39 U.vm ∧ U.heap = h0) (fun _ _ _ _ _ => True) (fun _ U o U' => ∃ v L, o = .returned v ∧ Q1 Z a1 h0 n0 v U'.heap L ∧ FrameEnd U o U' L ({ frames := 1, cells := 3, slots := 12, locals := 12 } : Room).cells ({ frames := 1, cells := 3, slots := 12, locals := 12 } : Room).slots) := by
  refine MetFree.of_bodySF (plainFor_of_name pn_1) hisR ?_
  intro p e s m args below meth c s₁ Bd hml0 hP hK
  obtain ⟨rfl, hZ, hh⟩ := hP
  have hx := Bd.exec
  have hby := Bd.bytes
  have hml : c.maxLocals = 1 := hml0
  have hown : s.vm.findClass "com/example/nested_path/nestedpath/pattern/StringPattern$Loops" = some m.cls := findClass_of_methodNamed Bd.named
  have hnm := (name_of_methodNamed Bd.named Bd.method).1
  have X0 : Stand p l e ({ frames := 1, cells := 3, slots := 12, locals := 12 } : Room) s m #[(.ref a1)] below meth c s₁ [] 0 0 := Stand.of_body Bd
  have e0 : s₁.heap = h0 := by rw [← hh, Bd.state]; rfl
  have N0 := Fr.nil n0
  have pre0 : ∀ t, Steps p.tables e below (s₁.setTop (mkF m 0 #[.val (.ref a1)] [])) t → Steps p.tables e below (s₁.setTop (entryFrame m #[(.ref a1)] 1)) t := fun t k => castTop (ef_1 m a1) k
  -- 3. LAWS
  obtain ⟨T2, X2, e2, st2⟩ := initO X0 hx hZ hown (hw _ (List.mem_of_getElem? (i := 6) rfl)) (hw _ (List.mem_of_getElem? (i := 7) rfl)) (hw _ (List.mem_of_getElem? (i := 8) rfl)) e0 (g := (mkF m 1 #[.val (.ref a1)] [(.ref a1)])) rfl (by rw [hml]; rfl) rfl (hb hby d1_1) (by decide) (W := 0) (by show 2 * 0 + _ ≤ _; exact Nat.le_of_eq rfl) (by decide)
  obtain ⟨T3, h3, k3, X3, e3, E3, A3, st3⟩ := newP X2 hx hZ (hw _ (List.mem_of_getElem? (i := 9) rfl)) e2 (g := (mkF m 6 #[.val (.ref a1)] [(.int (4 : Int32)), (.ref a1)])) rfl (hb hby d1_6) rfl (by decide) (cap := 4) (by decide) (by decide) (by decide) (by decide)
  obtain ⟨b3, g3⟩ : ∃ z, z = h0.size := ⟨_, rfl⟩      -- the fresh array's address
  rw [← g3] at A3 st3
  have V_b3 : Arv Z h3 b3 k3 .int (4 : Int32) [(.int (0 : Int32)), (.int (0 : Int32)), (.int (0 : Int32)), (.int (0 : Int32))] (.int (0 : Int32)) := (Arv.new A3 (by decide)).pad (pad_rep [] (.int (0 : Int32)) 4)
  have g_b3 : n0 ≤ b3 := Nat.le_trans Z0 (Nat.le_of_eq g3.symm)
  have sz_b3 : h0.size ≤ b3 := (Nat.le_trans (Keep.refl h0 [a1]).1 (Nat.le_of_eq g3.symm))
  have K3 : Keep h0 h3 [a1] := (Keep.refl h0 [a1]).ext E3
  obtain ⟨T4, h4, X4, e4, W4, st4⟩ := putF X3 hx hZ hown (host := "") (Or.inl (hw _ (List.mem_of_getElem? (i := 10) rfl))) Via.refl e3 (F_firsts_a1.ext E3) (E_a1.ext E3) (Or.inl (hw _ (List.mem_of_getElem? (i := 11) rfl))) (hw _ (List.mem_of_getElem? (i := 1) rfl)) (ty := (.array .int)) (by decide) rfl rfl (g := (mkF m 8 #[.val (.ref a1)] [(.ref b3), (.ref a1)])) rfl rfl (hb hby d1_8)
  have Fw4 := (F_firsts_a1.ext E3).same W4      -- the field now holds (.ref b3)
  have K4 : Keep h0 h4 [a1] := K3.wr W4 (Or.inl (List.mem_of_getElem? (i := 0) rfl))
  have N4 := Fr.snoc X4 N0 g_a1
  obtain ⟨T5, h5, k5, X5, e5, E5, A5, st5⟩ := newP X4 hx hZ (hw _ (List.mem_of_getElem? (i := 9) rfl)) e4 (g := (mkF m 13 #[.val (.ref a1)] [(.int (4 : Int32)), (.ref a1)])) rfl (hb hby d1_13) rfl (by decide) (cap := 4) (by decide) (by decide) (by decide) (by decide)
  obtain ⟨b5, g5⟩ : ∃ z, z = h4.size := ⟨_, rfl⟩      -- the fresh array's address
  rw [← g5] at A5 st5
  have V_b5 : Arv Z h5 b5 k5 .int (4 : Int32) [(.int (0 : Int32)), (.int (0 : Int32)), (.int (0 : Int32)), (.int (0 : Int32))] (.int (0 : Int32)) := (Arv.new A5 (by decide)).pad (pad_rep [] (.int (0 : Int32)) 4)
  have g_b5 : n0 ≤ b5 := Nat.le_trans (Nat.le_trans (Nat.le_trans Z0 E3.1) (Keep.of_wr W4).1) (Nat.le_of_eq g5.symm)
  have sz_b5 : h0.size ≤ b5 := (Nat.le_trans K4.1 (Nat.le_of_eq g5.symm))
  have K5 : Keep h0 h5 [a1] := K4.ext E5
  obtain ⟨T6, h6, X6, e6, W6, st6⟩ := putF X5 hx hZ hown (host := "") (Or.inl (hw _ (List.mem_of_getElem? (i := 12) rfl))) Via.refl e5 (((F_lasts_a1.ext E3).other W4 (Or.inr (slot_ne (Or.inl (hw _ (List.mem_of_getElem? (i := 13) rfl))) (Or.inl (hw _ (List.mem_of_getElem? (i := 11) rfl))) (by decide) (t := (.array .int)) (t' := (.array .int)) (by decide) (by decide)))).ext E5) (((E_a1.ext E3).wr W4).ext E5) (Or.inl (hw _ (List.mem_of_getElem? (i := 13) rfl))) (hw _ (List.mem_of_getElem? (i := 1) rfl)) (ty := (.array .int)) (by decide) rfl rfl (g := (mkF m 15 #[.val (.ref a1)] [(.ref b5), (.ref a1)])) rfl rfl (hb hby d1_15)
  have Fw6 := (((F_lasts_a1.ext E3).other W4 (Or.inr (slot_ne (Or.inl (hw _ (List.mem_of_getElem? (i := 13) rfl))) (Or.inl (hw _ (List.mem_of_getElem? (i := 11) rfl))) (by decide) (t := (.array .int)) (t' := (.array .int)) (by decide) (by decide)))).ext E5).same W6      -- the field now holds (.ref b5)
  have K6 : Keep h0 h6 [a1] := K5.wr W6 (Or.inl (List.mem_of_getElem? (i := 0) rfl))
  have N6 := Fr.snoc X6 N4 g_a1
  obtain ⟨T7, h7, k7, X7, e7, E7, A7, st7⟩ := newP X6 hx hZ (hw _ (List.mem_of_getElem? (i := 9) rfl)) e6 (g := (mkF m 20 #[.val (.ref a1)] [(.int (4 : Int32)), (.ref a1)])) rfl (hb hby d1_20) rfl (by decide) (cap := 4) (by decide) (by decide) (by decide) (by decide)
  obtain ⟨b7, g7⟩ : ∃ z, z = h6.size := ⟨_, rfl⟩      -- the fresh array's address
  rw [← g7] at A7 st7
  have V_b7 : Arv Z h7 b7 k7 .int (4 : Int32) [(.int (0 : Int32)), (.int (0 : Int32)), (.int (0 : Int32)), (.int (0 : Int32))] (.int (0 : Int32)) := (Arv.new A7 (by decide)).pad (pad_rep [] (.int (0 : Int32)) 4)
  have g_b7 : n0 ≤ b7 := Nat.le_trans (Nat.le_trans (Nat.le_trans (Nat.le_trans (Nat.le_trans Z0 E3.1) (Keep.of_wr W4).1) E5.1) (Keep.of_wr W6).1) (Nat.le_of_eq g7.symm)
  have sz_b7 : h0.size ≤ b7 := (Nat.le_trans K6.1 (Nat.le_of_eq g7.symm))
  have K7 : Keep h0 h7 [a1] := K6.ext E7
  obtain ⟨T8, h8, X8, e8, W8, st8⟩ := putF X7 hx hZ hown (host := "") (Or.inl (hw _ (List.mem_of_getElem? (i := 14) rfl))) Via.refl e7 (((((F_outers_a1.ext E3).other W4 (Or.inr (slot_ne (Or.inl (hw _ (List.mem_of_getElem? (i := 15) rfl))) (Or.inl (hw _ (List.mem_of_getElem? (i := 11) rfl))) (by decide) (t := (.array .int)) (t' := (.array .int)) (by decide) (by decide)))).ext E5).other W6 (Or.inr (slot_ne (Or.inl (hw _ (List.mem_of_getElem? (i := 15) rfl))) (Or.inl (hw _ (List.mem_of_getElem? (i := 13) rfl))) (by decide) (t := (.array .int)) (t' := (.array .int)) (by decide) (by decide)))).ext E7) (((((E_a1.ext E3).wr W4).ext E5).wr W6).ext E7) (Or.inl (hw _ (List.mem_of_getElem? (i := 15) rfl))) (hw _ (List.mem_of_getElem? (i := 1) rfl)) (ty := (.array .int)) (by decide) rfl rfl (g := (mkF m 22 #[.val (.ref a1)] [(.ref b7), (.ref a1)])) rfl rfl (hb hby d1_22)
  have Fw8 := (((((F_outers_a1.ext E3).other W4 (Or.inr (slot_ne (Or.inl (hw _ (List.mem_of_getElem? (i := 15) rfl))) (Or.inl (hw _ (List.mem_of_getElem? (i := 11) rfl))) (by decide) (t := (.array .int)) (t' := (.array .int)) (by decide) (by decide)))).ext E5).other W6 (Or.inr (slot_ne (Or.inl (hw _ (List.mem_of_getElem? (i := 15) rfl))) (Or.inl (hw _ (List.mem_of_getElem? (i := 13) rfl))) (by decide) (t := (.array .int)) (t' := (.array .int)) (by decide) (by decide)))).ext E7).same W8      -- the field now holds (.ref b7)
  have K8 : Keep h0 h8 [a1] := K7.wr W8 (Or.inl (List.mem_of_getElem? (i := 0) rfl))
  have N8 := Fr.snoc X8 N6 g_a1
  obtain ⟨T9, h9, X9, e9, W9, st9⟩ := putF X8 hx hZ hown (host := "") (Or.inl (hw _ (List.mem_of_getElem? (i := 16) rfl))) Via.refl e8 ((((((F_open_a1.ext E3).other W4 (Or.inr (slot_ne (Or.inl (hw _ (List.mem_of_getElem? (i := 17) rfl))) (Or.inl (hw _ (List.mem_of_getElem? (i := 11) rfl))) (by decide) (t := .int) (t' := (.array .int)) (by decide) (by decide)))).ext E5).other W6 (Or.inr (slot_ne (Or.inl (hw _ (List.mem_of_getElem? (i := 17) rfl))) (Or.inl (hw _ (List.mem_of_getElem? (i := 13) rfl))) (by decide) (t := .int) (t' := (.array .int)) (by decide) (by decide)))).ext E7).other W8 (Or.inr (slot_ne (Or.inl (hw _ (List.mem_of_getElem? (i := 17) rfl))) (Or.inl (hw _ (List.mem_of_getElem? (i := 15) rfl))) (by decide) (t := .int) (t' := (.array .int)) (by decide) (by decide)))) ((((((E_a1.ext E3).wr W4).ext E5).wr W6).ext E7).wr W8) (Or.inl (hw _ (List.mem_of_getElem? (i := 17) rfl))) (hw _ (List.mem_of_getElem? (i := 1) rfl)) (ty := .int) (by decide) rfl rfl (g := (mkF m 27 #[.val (.ref a1)] [(.int (-1 : Int32)), (.ref a1)])) rfl rfl (hb hby d1_27)
  have Fw9 := ((((((F_open_a1.ext E3).other W4 (Or.inr (slot_ne (Or.inl (hw _ (List.mem_of_getElem? (i := 17) rfl))) (Or.inl (hw _ (List.mem_of_getElem? (i := 11) rfl))) (by decide) (t := .int) (t' := (.array .int)) (by decide) (by decide)))).ext E5).other W6 (Or.inr (slot_ne (Or.inl (hw _ (List.mem_of_getElem? (i := 17) rfl))) (Or.inl (hw _ (List.mem_of_getElem? (i := 13) rfl))) (by decide) (t := .int) (t' := (.array .int)) (by decide) (by decide)))).ext E7).other W8 (Or.inr (slot_ne (Or.inl (hw _ (List.mem_of_getElem? (i := 17) rfl))) (Or.inl (hw _ (List.mem_of_getElem? (i := 15) rfl))) (by decide) (t := .int) (t' := (.array .int)) (by decide) (by decide)))).same W9      -- the field now holds (.int (-1 : Int32))
  have K9 : Keep h0 h9 [a1] := K8.wr W9 (Or.inl (List.mem_of_getElem? (i := 0) rfl))
  have N9 := Fr.snoc X9 N8 g_a1
  obtain ⟨fs, hr, hrun, hended, hW, hsame⟩ := X9.leave (v := none) (fun _ => rfl)
  refine ⟨_, _, pre0 _ ?_, hrun, hended, _, _, rfl, ?_, ⟨_, rfl⟩, hW, hsame.mono (by decide) (by decide)⟩
  -- 4. STEPS
  · show Steps p.tables e below (s₁.setTop (mkF m 0 #[.val (.ref a1)] [])) _
    refine XS.aloadN X0.here hx rfl (hb hby d1_0) rfl rfl ?_
    show Steps p.tables e below (s₁.setTop (mkF m 1 #[.val (.ref a1)] [(.ref a1)])) _
    refine st2 _ ?_
    show Steps p.tables e below (T2.setTop (mkF m 4 #[.val (.ref a1)] [])) _
    refine XS.aloadN X2.here hx rfl (hb hby d1_4) rfl rfl ?_
    show Steps p.tables e below (T2.setTop (mkF m 5 #[.val (.ref a1)] [(.ref a1)])) _
    refine XS.iconst X2.here hx rfl (hb hby d1_5) ?_
    show Steps p.tables e below (T2.setTop (mkF m 6 #[.val (.ref a1)] [(.int (4 : Int32)), (.ref a1)])) _
    refine st3 _ ?_
    show Steps p.tables e below (T3.setTop (mkF m 8 #[.val (.ref a1)] [(.ref b3), (.ref a1)])) _
    refine st4 _ ?_
    show Steps p.tables e below (T4.setTop (mkF m 11 #[.val (.ref a1)] [])) _
    refine XS.aloadN X4.here hx rfl (hb hby d1_11) rfl rfl ?_
    show Steps p.tables e below (T4.setTop (mkF m 12 #[.val (.ref a1)] [(.ref a1)])) _
    refine XS.iconst X4.here hx rfl (hb hby d1_12) ?_
    show Steps p.tables e below (T4.setTop (mkF m 13 #[.val (.ref a1)] [(.int (4 : Int32)), (.ref a1)])) _
    refine st5 _ ?_
    show Steps p.tables e below (T5.setTop (mkF m 15 #[.val (.ref a1)] [(.ref b5), (.ref a1)])) _
    refine st6 _ ?_
    show Steps p.tables e below (T6.setTop (mkF m 18 #[.val (.ref a1)] [])) _
    refine XS.aloadN X6.here hx rfl (hb hby d1_18) rfl rfl ?_
    show Steps p.tables e below (T6.setTop (mkF m 19 #[.val (.ref a1)] [(.ref a1)])) _
    refine XS.iconst X6.here hx rfl (hb hby d1_19) ?_
    show Steps p.tables e below (T6.setTop (mkF m 20 #[.val (.ref a1)] [(.int (4 : Int32)), (.ref a1)])) _
    refine st7 _ ?_
    show Steps p.tables e below (T7.setTop (mkF m 22 #[.val (.ref a1)] [(.ref b7), (.ref a1)])) _
    refine st8 _ ?_
    show Steps p.tables e below (T8.setTop (mkF m 25 #[.val (.ref a1)] [])) _
    refine XS.aloadN X8.here hx rfl (hb hby d1_25) rfl rfl ?_
    show Steps p.tables e below (T8.setTop (mkF m 26 #[.val (.ref a1)] [(.ref a1)])) _
    refine XS.iconst X8.here hx rfl (hb hby d1_26) ?_
    show Steps p.tables e below (T8.setTop (mkF m 27 #[.val (.ref a1)] [(.int (-1 : Int32)), (.ref a1)])) _
    refine st9 _ ?_
    show Steps p.tables e below (T9.setTop (mkF m 30 #[.val (.ref a1)] [])) _
    exact X9.returnOut hx Bd.returns (hb hby d1_30) hr
  · show Q1 Z a1 h0 n0 _ T9.heap _
    rw [e9]
    have n3 : a1 ≠ b3 := Nat.ne_of_lt (by rw [g3]; exact E_a1.lt)
    have n5 : a1 ≠ b5 := Nat.ne_of_lt (by rw [g5]; exact ((E_a1.ext E3).wr W4).lt)
    have n7 : a1 ≠ b7 := Nat.ne_of_lt (by rw [g7]; exact ((((E_a1.ext E3).wr W4).ext E5).wr W6).lt)
    have V3a := V_b3.other W4 (Ne.symm n3)
    have V3b := (V3a.ext E5).other W6 (Ne.symm n3)
    have V5b := V_b5.other W6 (Ne.symm n5)
    have m35 : b3 ≠ b5 := Nat.ne_of_lt (by rw [g5]; exact V3a.lt)
    have m37 : b3 ≠ b7 := Nat.ne_of_lt (by rw [g7]; exact V3b.lt)
    have m57 : b5 ≠ b7 := Nat.ne_of_lt (by rw [g7]; exact V5b.lt)
    exact ⟨rfl, N9, K9.1, b3, b5, b7, k3, k5, k7, (((((E_a1.ext E3).wr W4).ext E5).wr W6).ext E7 |>.wr W8).wr W9, ((((Fw4.ext E5).other W6 (Or.inr (slot_ne (Or.inl (hw _ (List.mem_of_getElem? (i := 11) rfl))) (Or.inl (hw _ (List.mem_of_getElem? (i := 13) rfl))) (by decide) (t := (.array .int)) (t' := (.array .int)) (by decide) (by decide)))).ext E7).other W8 (Or.inr (slot_ne (Or.inl (hw _ (List.mem_of_getElem? (i := 11) rfl))) (Or.inl (hw _ (List.mem_of_getElem? (i := 15) rfl))) (by decide) (t := (.array .int)) (t' := (.array .int)) (by decide) (by decide)))).other W9 (Or.inr (slot_ne (Or.inl (hw _ (List.mem_of_getElem? (i := 11) rfl))) (Or.inl (hw _ (List.mem_of_getElem? (i := 17) rfl))) (by decide) (t := (.array .int)) (t' := .int) (by decide) (by decide))), ((Fw6.ext E7).other W8 (Or.inr (slot_ne (Or.inl (hw _ (List.mem_of_getElem? (i := 13) rfl))) (Or.inl (hw _ (List.mem_of_getElem? (i := 15) rfl))) (by decide) (t := (.array .int)) (t' := (.array .int)) (by decide) (by decide)))).other W9 (Or.inr (slot_ne (Or.inl (hw _ (List.mem_of_getElem? (i := 13) rfl))) (Or.inl (hw _ (List.mem_of_getElem? (i := 17) rfl))) (by decide) (t := (.array .int)) (t' := .int) (by decide) (by decide))), Fw8.other W9 (Or.inr (slot_ne (Or.inl (hw _ (List.mem_of_getElem? (i := 15) rfl))) (Or.inl (hw _ (List.mem_of_getElem? (i := 17) rfl))) (by decide) (t := (.array .int)) (t' := .int) (by decide) (by decide))), Fw9, ((((((F_count_a1.ext E3).other W4 (Or.inr (slot_ne (Or.inl (hw _ (List.mem_of_getElem? (i := 24) rfl))) (Or.inl (hw _ (List.mem_of_getElem? (i := 11) rfl))) (by decide) (t := .int) (t' := (.array .int)) (by decide) (by decide)))).ext E5).other W6 (Or.inr (slot_ne (Or.inl (hw _ (List.mem_of_getElem? (i := 24) rfl))) (Or.inl (hw _ (List.mem_of_getElem? (i := 13) rfl))) (by decide) (t := .int) (t' := (.array .int)) (by decide) (by decide)))).ext E7).other W8 (Or.inr (slot_ne (Or.inl (hw _ (List.mem_of_getElem? (i := 24) rfl))) (Or.inl (hw _ (List.mem_of_getElem? (i := 15) rfl))) (by decide) (t := .int) (t' := (.array .int)) (by decide) (by decide)))).other W9 (Or.inr (slot_ne (Or.inl (hw _ (List.mem_of_getElem? (i := 24) rfl))) (Or.inl (hw _ (List.mem_of_getElem? (i := 17) rfl))) (by decide) (t := .int) (t' := .int) (by decide) (by decide))), ((V3b.ext E7).other W8 (Ne.symm n3)).other W9 (Ne.symm n3), ((V5b.ext E7).other W8 (Ne.symm n5)).other W9 (Ne.symm n5), (V_b7.other W8 (Ne.symm n7)).other W9 (Ne.symm n7), g_a1, g_b3, g_b5, g_b7, n3, n5, n7, m35, m37, m57, rfl, rfl, rfl⟩
theorem own_nlt {a b : Int32} (h : a < b) : ¬ (b < a) := by rw [Int32.lt_iff_toInt_lt] at h ⊢; omega
def Q8 (res : Int32) (h0 : Heap) (n0 : Nat) (v : Option Value) (h : Heap) (L : List Loc) : Prop := v = some (.int res) ∧ Fr n0 L ∧ h = h0
theorem d8_0 : decode jdk_65_method_59_code 0 = .ok (.iload_n 1, 1) := by decide +kernel
theorem d8_1 : decode jdk_65_method_59_code 1 = .ok (.istore 4, 2) := by decide +kernel
theorem d8_3 : decode jdk_65_method_59_code 3 = .ok (.iload_n 2, 1) := by decide +kernel
theorem d8_4 : decode jdk_65_method_59_code 4 = .ok (.iconst 1, 1) := by decide +kernel
theorem d8_5 : decode jdk_65_method_59_code 5 = .ok (.isub, 1) := by decide +kernel
theorem d8_6 : decode jdk_65_method_59_code 6 = .ok (.istore 5, 2) := by decide +kernel
theorem d8_8 : decode jdk_65_method_59_code 8 = .ok (.iload 4, 2) := by decide +kernel
theorem d8_10 : decode jdk_65_method_59_code 10 = .ok (.iload 5, 2) := by decide +kernel
theorem d8_12 : decode jdk_65_method_59_code 12 = .ok (.if_icmp .gt 54, 3) := by decide +kernel
theorem d8_15 : decode jdk_65_method_59_code 15 = .ok (.iload 4, 2) := by decide +kernel
theorem d8_17 : decode jdk_65_method_59_code 17 = .ok (.iload 5, 2) := by decide +kernel
theorem d8_19 : decode jdk_65_method_59_code 19 = .ok (.iadd, 1) := by decide +kernel
theorem d8_20 : decode jdk_65_method_59_code 20 = .ok (.iconst 1, 1) := by decide +kernel
theorem d8_21 : decode jdk_65_method_59_code 21 = .ok (.iushr, 1) := by decide +kernel
theorem d8_22 : decode jdk_65_method_59_code 22 = .ok (.istore 6, 2) := by decide +kernel
theorem d8_24 : decode jdk_65_method_59_code 24 = .ok (.aload_n 0, 1) := by decide +kernel
theorem d8_25 : decode jdk_65_method_59_code 25 = .ok (.iload 6, 2) := by decide +kernel
theorem d8_27 : decode jdk_65_method_59_code 27 = .ok (.iaload, 1) := by decide +kernel
theorem d8_28 : decode jdk_65_method_59_code 28 = .ok (.istore 7, 2) := by decide +kernel
theorem d8_30 : decode jdk_65_method_59_code 30 = .ok (.iload 7, 2) := by decide +kernel
theorem d8_32 : decode jdk_65_method_59_code 32 = .ok (.iload_n 3, 1) := by decide +kernel
theorem d8_33 : decode jdk_65_method_59_code 33 = .ok (.if_icmp .ge 12, 3) := by decide +kernel
theorem d8_36 : decode jdk_65_method_59_code 36 = .ok (.iload 6, 2) := by decide +kernel
theorem d8_38 : decode jdk_65_method_59_code 38 = .ok (.iconst 1, 1) := by decide +kernel
theorem d8_39 : decode jdk_65_method_59_code 39 = .ok (.iadd, 1) := by decide +kernel
theorem d8_40 : decode jdk_65_method_59_code 40 = .ok (.istore 4, 2) := by decide +kernel
theorem d8_42 : decode jdk_65_method_59_code 42 = .ok (.goto 21, 3) := by decide +kernel
theorem d8_63 : decode jdk_65_method_59_code 63 = .ok (.goto (-55), 3) := by decide +kernel
theorem d8_66 : decode jdk_65_method_59_code 66 = .ok (.iload 4, 2) := by decide +kernel
theorem d8_68 : decode jdk_65_method_59_code 68 = .ok (.iconst 1, 1) := by decide +kernel
theorem d8_69 : decode jdk_65_method_59_code 69 = .ok (.iadd, 1) := by decide +kernel
theorem d8_70 : decode jdk_65_method_59_code 70 = .ok (.ineg, 1) := by decide +kernel
theorem d8_71 : decode jdk_65_method_59_code 71 = .ok (.ireturn, 1) := by decide +kernel
theorem pn_8 : plainName "java/util/Arrays" = true := by first | (simp [plainName, overriddenIn]; done) | decide +kernel
theorem ef_8 (m : MethodId) (x0 : Addr) (x1 : Int32) (x2 : Int32) (x3 : Int32) : entryFrame m #[(.ref x0), (.int x1), (.int x2), (.int x3)] 8 = mkF m 0 #[.val (.ref x0), .val (.int x1), .val (.int x2), .val (.int x3), .unset, .unset, .unset, .unset] [] := by first | (simp [entryFrame, mkF, argsToLocals, Value.category]; done) | rfl
set_option maxRecDepth 65536 in
set_option maxHeartbeats 40000000 in
theorem rm8_n5 (l : Launch) (Z : State) (a0 : Array Value) (hw : ∀ d ∈ tables_1, d.before a0 Z = true) (ws : List Jvm.Cond) (a1 : Addr) (sk : Int32) (k : ClassId) (f0 f1 f2 f3 : Int32) (h0 : Heap) (n0 : Nat) (Z0 : n0 ≤ h0.size) (V : Arv Z h0 a1 k .int 4 [.int f0, .int f1, .int f2, .int f3] (.int 0)) (hf1 : f1 < sk) (hf2 : f2 < sk) (hf3 : f3 < sk) :
    MetFree l (⟨"java/util/Arrays", "binarySearch0", "([IIII)I"⟩ : MethodName) (head1 (Jvm.Cond.code (⟨"java/util/Arrays", "binarySearch0", "([IIII)I"⟩ : MethodName) jdk_65_method_59_code 8 (some .int) :: ws) ({ frames := 0, cells := 0, slots := 0, locals := 0 } : Room)) (fun a U => a = #[(.ref a1), (.int (0 : Int32)), (.int (4 : Int32)), (.int sk)] ∧ Z.Warmed39 U.vm ∧ U.heap = h0) (fun _ _ _ _ _ => True) (fun _ U o U' => ∃ v L, o = .returned v ∧ Q8 (-(5 : Int32)) h0 n0 v U'.heap L ∧ FrameEnd U o U' L ({ frames := 0, cells := 0, slots := 0, locals := 0 } : Room).cells ({ frames := 0, cells := 0, slots := 0, locals := 0 } : Room).slots) := by
  refine MetFree.of_bodySF (plainFor_of_name pn_8) hisR ?_
  intro p e s m args below meth c s₁ Bd hml0 hP hK
  obtain ⟨rfl, hZ, hh⟩ := hP
  obtain ⟨cl_a1, Ar_a1, q_a1, S_a1, N_a1, H_a1, G_a1⟩ := V
  have hc12_1 : ¬ ((3 : Int32) < (0 : Int32)) := by decide
  have hin27_1 : ¬ ((1 : Int32) < 0 ∨ cl_a1.slots.size ≤ ((1 : Int32)).toNatClampNeg) := inb_of S_a1 ⟨by decide, by decide⟩
  have hat27_1 : cl_a1.slots[((1 : Int32)).toNatClampNeg]? = some (.int f1) := Has.at H_a1 hin27_1 rfl
  have hc33_1 : f1 < sk := hf1
  have hc12_2 : ¬ ((3 : Int32) < (2 : Int32)) := by decide
  have hin27_2 : ¬ ((2 : Int32) < 0 ∨ cl_a1.slots.size ≤ ((2 : Int32)).toNatClampNeg) := inb_of S_a1 ⟨by decide, by decide⟩
  have hat27_2 : cl_a1.slots[((2 : Int32)).toNatClampNeg]? = some (.int f2) := Has.at H_a1 hin27_2 rfl
  have hc33_2 : f2 < sk := hf2
  have hc12_3 : ¬ ((3 : Int32) < (3 : Int32)) := by decide
  have hin27_3 : ¬ ((3 : Int32) < 0 ∨ cl_a1.slots.size ≤ ((3 : Int32)).toNatClampNeg) := inb_of S_a1 ⟨by decide, by decide⟩
  have hat27_3 : cl_a1.slots[((3 : Int32)).toNatClampNeg]? = some (.int f3) := Has.at H_a1 hin27_3 rfl
  have hc33_3 : f3 < sk := hf3
  have hc12_4 : (3 : Int32) < (4 : Int32) := by decide
  have hx := Bd.exec
  have hby := Bd.bytes
  have hml : c.maxLocals = 8 := hml0
  have hown : s.vm.findClass "java/util/Arrays" = some m.cls := findClass_of_methodNamed Bd.named
  have hnm := (name_of_methodNamed Bd.named Bd.method).1
  have X0 : Stand p l e ({ frames := 0, cells := 0, slots := 0, locals := 0 } : Room) s m #[(.ref a1), (.int (0 : Int32)), (.int (4 : Int32)), (.int sk)] below meth c s₁ [] 0 0 := Stand.of_body Bd
  have e0 : s₁.heap = h0 := by rw [← hh, Bd.state]; rfl
  have N0 := Fr.nil n0
  have pre0 : ∀ t, Steps p.tables e below (s₁.setTop (mkF m 0 #[.val (.ref a1), .val (.int (0 : Int32)), .val (.int (4 : Int32)), .val (.int sk), .unset, .unset, .unset, .unset] [])) t → Steps p.tables e below (s₁.setTop (entryFrame m #[(.ref a1), (.int (0 : Int32)), (.int (4 : Int32)), (.int sk)] 8)) t := fun t k => castTop (ef_8 m a1 (0 : Int32) (4 : Int32) sk) k
  -- 3. LAWS

  obtain ⟨fs, hr, hrun, hended, hW, hsame⟩ := X0.leave (v := some (.int (-(5 : Int32)))) (fun h => by rw [Bd.returns] at h; cases h)
  refine ⟨_, _, pre0 _ ?_, hrun, hended, _, _, rfl, ?_, ⟨_, rfl⟩, hW, hsame.mono (by decide) (by decide)⟩
  -- 4. STEPS
  · show Steps p.tables e below (s₁.setTop (mkF m 0 #[.val (.ref a1), .val (.int (0 : Int32)), .val (.int (4 : Int32)), .val (.int sk), .unset, .unset, .unset, .unset] [])) _
    refine XS.iloadN X0.here hx rfl (hb hby d8_0) rfl ?_
    show Steps p.tables e below (s₁.setTop (mkF m 1 #[.val (.ref a1), .val (.int (0 : Int32)), .val (.int (4 : Int32)), .val (.int sk), .unset, .unset, .unset, .unset] [(.int (0 : Int32))])) _
    refine XS.istore X0.here hx rfl (hb hby d8_1) rfl (l' := #[.val (.ref a1), .val (.int (0 : Int32)), .val (.int (4 : Int32)), .val (.int sk), .val (.int (0 : Int32)), .unset, .unset, .unset]) rfl ?_
    show Steps p.tables e below (s₁.setTop (mkF m 3 #[.val (.ref a1), .val (.int (0 : Int32)), .val (.int (4 : Int32)), .val (.int sk), .val (.int (0 : Int32)), .unset, .unset, .unset] [])) _
    refine XS.iloadN X0.here hx rfl (hb hby d8_3) rfl ?_
    show Steps p.tables e below (s₁.setTop (mkF m 4 #[.val (.ref a1), .val (.int (0 : Int32)), .val (.int (4 : Int32)), .val (.int sk), .val (.int (0 : Int32)), .unset, .unset, .unset] [(.int (4 : Int32))])) _
    refine XS.iconst X0.here hx rfl (hb hby d8_4) ?_
    show Steps p.tables e below (s₁.setTop (mkF m 5 #[.val (.ref a1), .val (.int (0 : Int32)), .val (.int (4 : Int32)), .val (.int sk), .val (.int (0 : Int32)), .unset, .unset, .unset] [(.int (1 : Int32)), (.int (4 : Int32))])) _
    refine XS.isub X0.here hx rfl (hb hby d8_5) rfl ?_
    show Steps p.tables e below (s₁.setTop (mkF m 6 #[.val (.ref a1), .val (.int (0 : Int32)), .val (.int (4 : Int32)), .val (.int sk), .val (.int (0 : Int32)), .unset, .unset, .unset] [(.int (3 : Int32))])) _
    refine XS.istore X0.here hx rfl (hb hby d8_6) rfl (l' := #[.val (.ref a1), .val (.int (0 : Int32)), .val (.int (4 : Int32)), .val (.int sk), .val (.int (0 : Int32)), .val (.int (3 : Int32)), .unset, .unset]) rfl ?_
    show Steps p.tables e below (s₁.setTop (mkF m 8 #[.val (.ref a1), .val (.int (0 : Int32)), .val (.int (4 : Int32)), .val (.int sk), .val (.int (0 : Int32)), .val (.int (3 : Int32)), .unset, .unset] [])) _
    refine XS.iload X0.here hx rfl (hb hby d8_8) rfl ?_
    show Steps p.tables e below (s₁.setTop (mkF m 10 #[.val (.ref a1), .val (.int (0 : Int32)), .val (.int (4 : Int32)), .val (.int sk), .val (.int (0 : Int32)), .val (.int (3 : Int32)), .unset, .unset] [(.int (0 : Int32))])) _
    refine XS.iload X0.here hx rfl (hb hby d8_10) rfl ?_
    show Steps p.tables e below (s₁.setTop (mkF m 12 #[.val (.ref a1), .val (.int (0 : Int32)), .val (.int (4 : Int32)), .val (.int sk), .val (.int (0 : Int32)), .val (.int (3 : Int32)), .unset, .unset] [(.int (3 : Int32)), (.int (0 : Int32))])) _
    refine XS.icmpNo X0.here hx rfl (hb hby d8_12) rfl (flt hc12_1).2.2.1 ?_
    show Steps p.tables e below (s₁.setTop (mkF m 15 #[.val (.ref a1), .val (.int (0 : Int32)), .val (.int (4 : Int32)), .val (.int sk), .val (.int (0 : Int32)), .val (.int (3 : Int32)), .unset, .unset] [])) _
    refine XS.iload X0.here hx rfl (hb hby d8_15) rfl ?_
    show Steps p.tables e below (s₁.setTop (mkF m 17 #[.val (.ref a1), .val (.int (0 : Int32)), .val (.int (4 : Int32)), .val (.int sk), .val (.int (0 : Int32)), .val (.int (3 : Int32)), .unset, .unset] [(.int (0 : Int32))])) _
    refine XS.iload X0.here hx rfl (hb hby d8_17) rfl ?_
    show Steps p.tables e below (s₁.setTop (mkF m 19 #[.val (.ref a1), .val (.int (0 : Int32)), .val (.int (4 : Int32)), .val (.int sk), .val (.int (0 : Int32)), .val (.int (3 : Int32)), .unset, .unset] [(.int (3 : Int32)), (.int (0 : Int32))])) _
    refine XS.iadd X0.here hx rfl (hb hby d8_19) rfl ?_
    show Steps p.tables e below (s₁.setTop (mkF m 20 #[.val (.ref a1), .val (.int (0 : Int32)), .val (.int (4 : Int32)), .val (.int sk), .val (.int (0 : Int32)), .val (.int (3 : Int32)), .unset, .unset] [(.int (3 : Int32))])) _
    refine XS.iconst X0.here hx rfl (hb hby d8_20) ?_
    show Steps p.tables e below (s₁.setTop (mkF m 21 #[.val (.ref a1), .val (.int (0 : Int32)), .val (.int (4 : Int32)), .val (.int sk), .val (.int (0 : Int32)), .val (.int (3 : Int32)), .unset, .unset] [(.int (1 : Int32)), (.int (3 : Int32))])) _
    refine XS.iushr X0.here hx rfl (hb hby d8_21) rfl ?_
    show Steps p.tables e below (s₁.setTop (mkF m 22 #[.val (.ref a1), .val (.int (0 : Int32)), .val (.int (4 : Int32)), .val (.int sk), .val (.int (0 : Int32)), .val (.int (3 : Int32)), .unset, .unset] [(.int (1 : Int32))])) _
    refine XS.istore X0.here hx rfl (hb hby d8_22) rfl (l' := #[.val (.ref a1), .val (.int (0 : Int32)), .val (.int (4 : Int32)), .val (.int sk), .val (.int (0 : Int32)), .val (.int (3 : Int32)), .val (.int (1 : Int32)), .unset]) rfl ?_
    show Steps p.tables e below (s₁.setTop (mkF m 24 #[.val (.ref a1), .val (.int (0 : Int32)), .val (.int (4 : Int32)), .val (.int sk), .val (.int (0 : Int32)), .val (.int (3 : Int32)), .val (.int (1 : Int32)), .unset] [])) _
    refine XS.aloadN X0.here hx rfl (hb hby d8_24) rfl rfl ?_
    show Steps p.tables e below (s₁.setTop (mkF m 25 #[.val (.ref a1), .val (.int (0 : Int32)), .val (.int (4 : Int32)), .val (.int sk), .val (.int (0 : Int32)), .val (.int (3 : Int32)), .val (.int (1 : Int32)), .unset] [(.ref a1)])) _
    refine XS.iload X0.here hx rfl (hb hby d8_25) rfl ?_
    show Steps p.tables e below (s₁.setTop (mkF m 27 #[.val (.ref a1), .val (.int (0 : Int32)), .val (.int (4 : Int32)), .val (.int sk), .val (.int (0 : Int32)), .val (.int (3 : Int32)), .val (.int (1 : Int32)), .unset] [(.int (1 : Int32)), (.ref a1)])) _
    refine X0.iaload hx (j := (1 : Int32)) (v := (.int f1)) (by rw [e0]; exact Ar_a1.1) (State.isArrayOf_alike hZ.alike Ar_a1.2.1) Ar_a1.2.2 hin27_1 hat27_1 (g := (mkF m 27 #[.val (.ref a1), .val (.int (0 : Int32)), .val (.int (4 : Int32)), .val (.int sk), .val (.int (0 : Int32)), .val (.int (3 : Int32)), .val (.int (1 : Int32)), .unset] [(.int (1 : Int32)), (.ref a1)])) rfl rfl (hb hby d8_27) _ ?_
    show Steps p.tables e below (s₁.setTop (mkF m 28 #[.val (.ref a1), .val (.int (0 : Int32)), .val (.int (4 : Int32)), .val (.int sk), .val (.int (0 : Int32)), .val (.int (3 : Int32)), .val (.int (1 : Int32)), .unset] [(.int f1)])) _
    refine XS.istore X0.here hx rfl (hb hby d8_28) rfl (l' := #[.val (.ref a1), .val (.int (0 : Int32)), .val (.int (4 : Int32)), .val (.int sk), .val (.int (0 : Int32)), .val (.int (3 : Int32)), .val (.int (1 : Int32)), .val (.int f1)]) rfl ?_
    show Steps p.tables e below (s₁.setTop (mkF m 30 #[.val (.ref a1), .val (.int (0 : Int32)), .val (.int (4 : Int32)), .val (.int sk), .val (.int (0 : Int32)), .val (.int (3 : Int32)), .val (.int (1 : Int32)), .val (.int f1)] [])) _
    refine XS.iload X0.here hx rfl (hb hby d8_30) rfl ?_
    show Steps p.tables e below (s₁.setTop (mkF m 32 #[.val (.ref a1), .val (.int (0 : Int32)), .val (.int (4 : Int32)), .val (.int sk), .val (.int (0 : Int32)), .val (.int (3 : Int32)), .val (.int (1 : Int32)), .val (.int f1)] [(.int f1)])) _
    refine XS.iloadN X0.here hx rfl (hb hby d8_32) rfl ?_
    show Steps p.tables e below (s₁.setTop (mkF m 33 #[.val (.ref a1), .val (.int (0 : Int32)), .val (.int (4 : Int32)), .val (.int sk), .val (.int (0 : Int32)), .val (.int (3 : Int32)), .val (.int (1 : Int32)), .val (.int f1)] [(.int sk), (.int f1)])) _
    refine XS.icmpNo X0.here hx rfl (hb hby d8_33) rfl (tlt hc33_1).2.1 ?_
    show Steps p.tables e below (s₁.setTop (mkF m 36 #[.val (.ref a1), .val (.int (0 : Int32)), .val (.int (4 : Int32)), .val (.int sk), .val (.int (0 : Int32)), .val (.int (3 : Int32)), .val (.int (1 : Int32)), .val (.int f1)] [])) _
    refine XS.iload X0.here hx rfl (hb hby d8_36) rfl ?_
    show Steps p.tables e below (s₁.setTop (mkF m 38 #[.val (.ref a1), .val (.int (0 : Int32)), .val (.int (4 : Int32)), .val (.int sk), .val (.int (0 : Int32)), .val (.int (3 : Int32)), .val (.int (1 : Int32)), .val (.int f1)] [(.int (1 : Int32))])) _
    refine XS.iconst X0.here hx rfl (hb hby d8_38) ?_
    show Steps p.tables e below (s₁.setTop (mkF m 39 #[.val (.ref a1), .val (.int (0 : Int32)), .val (.int (4 : Int32)), .val (.int sk), .val (.int (0 : Int32)), .val (.int (3 : Int32)), .val (.int (1 : Int32)), .val (.int f1)] [(.int (1 : Int32)), (.int (1 : Int32))])) _
    refine XS.iadd X0.here hx rfl (hb hby d8_39) rfl ?_
    show Steps p.tables e below (s₁.setTop (mkF m 40 #[.val (.ref a1), .val (.int (0 : Int32)), .val (.int (4 : Int32)), .val (.int sk), .val (.int (0 : Int32)), .val (.int (3 : Int32)), .val (.int (1 : Int32)), .val (.int f1)] [(.int (2 : Int32))])) _
    refine XS.istore X0.here hx rfl (hb hby d8_40) rfl (l' := #[.val (.ref a1), .val (.int (0 : Int32)), .val (.int (4 : Int32)), .val (.int sk), .val (.int (2 : Int32)), .val (.int (3 : Int32)), .val (.int (1 : Int32)), .val (.int f1)]) rfl ?_
    show Steps p.tables e below (s₁.setTop (mkF m 42 #[.val (.ref a1), .val (.int (0 : Int32)), .val (.int (4 : Int32)), .val (.int sk), .val (.int (2 : Int32)), .val (.int (3 : Int32)), .val (.int (1 : Int32)), .val (.int f1)] [])) _
    refine XS.goto X0.here hx rfl (pc0 := 42) (pc' := 63) rfl (hb hby d8_42) (by decide) (by decide) ?_
    show Steps p.tables e below (s₁.setTop (mkF m 63 #[.val (.ref a1), .val (.int (0 : Int32)), .val (.int (4 : Int32)), .val (.int sk), .val (.int (2 : Int32)), .val (.int (3 : Int32)), .val (.int (1 : Int32)), .val (.int f1)] [])) _
    refine XS.goto X0.here hx rfl (pc0 := 63) (pc' := 8) rfl (hb hby d8_63) (by decide) (by decide) ?_
    show Steps p.tables e below (s₁.setTop (mkF m 8 #[.val (.ref a1), .val (.int (0 : Int32)), .val (.int (4 : Int32)), .val (.int sk), .val (.int (2 : Int32)), .val (.int (3 : Int32)), .val (.int (1 : Int32)), .val (.int f1)] [])) _
    refine XS.iload X0.here hx rfl (hb hby d8_8) rfl ?_
    show Steps p.tables e below (s₁.setTop (mkF m 10 #[.val (.ref a1), .val (.int (0 : Int32)), .val (.int (4 : Int32)), .val (.int sk), .val (.int (2 : Int32)), .val (.int (3 : Int32)), .val (.int (1 : Int32)), .val (.int f1)] [(.int (2 : Int32))])) _
    refine XS.iload X0.here hx rfl (hb hby d8_10) rfl ?_
    show Steps p.tables e below (s₁.setTop (mkF m 12 #[.val (.ref a1), .val (.int (0 : Int32)), .val (.int (4 : Int32)), .val (.int sk), .val (.int (2 : Int32)), .val (.int (3 : Int32)), .val (.int (1 : Int32)), .val (.int f1)] [(.int (3 : Int32)), (.int (2 : Int32))])) _
    refine XS.icmpNo X0.here hx rfl (hb hby d8_12) rfl (flt hc12_2).2.2.1 ?_
    show Steps p.tables e below (s₁.setTop (mkF m 15 #[.val (.ref a1), .val (.int (0 : Int32)), .val (.int (4 : Int32)), .val (.int sk), .val (.int (2 : Int32)), .val (.int (3 : Int32)), .val (.int (1 : Int32)), .val (.int f1)] [])) _
    refine XS.iload X0.here hx rfl (hb hby d8_15) rfl ?_
    show Steps p.tables e below (s₁.setTop (mkF m 17 #[.val (.ref a1), .val (.int (0 : Int32)), .val (.int (4 : Int32)), .val (.int sk), .val (.int (2 : Int32)), .val (.int (3 : Int32)), .val (.int (1 : Int32)), .val (.int f1)] [(.int (2 : Int32))])) _
    refine XS.iload X0.here hx rfl (hb hby d8_17) rfl ?_
    show Steps p.tables e below (s₁.setTop (mkF m 19 #[.val (.ref a1), .val (.int (0 : Int32)), .val (.int (4 : Int32)), .val (.int sk), .val (.int (2 : Int32)), .val (.int (3 : Int32)), .val (.int (1 : Int32)), .val (.int f1)] [(.int (3 : Int32)), (.int (2 : Int32))])) _
    refine XS.iadd X0.here hx rfl (hb hby d8_19) rfl ?_
    show Steps p.tables e below (s₁.setTop (mkF m 20 #[.val (.ref a1), .val (.int (0 : Int32)), .val (.int (4 : Int32)), .val (.int sk), .val (.int (2 : Int32)), .val (.int (3 : Int32)), .val (.int (1 : Int32)), .val (.int f1)] [(.int (5 : Int32))])) _
    refine XS.iconst X0.here hx rfl (hb hby d8_20) ?_
    show Steps p.tables e below (s₁.setTop (mkF m 21 #[.val (.ref a1), .val (.int (0 : Int32)), .val (.int (4 : Int32)), .val (.int sk), .val (.int (2 : Int32)), .val (.int (3 : Int32)), .val (.int (1 : Int32)), .val (.int f1)] [(.int (1 : Int32)), (.int (5 : Int32))])) _
    refine XS.iushr X0.here hx rfl (hb hby d8_21) rfl ?_
    show Steps p.tables e below (s₁.setTop (mkF m 22 #[.val (.ref a1), .val (.int (0 : Int32)), .val (.int (4 : Int32)), .val (.int sk), .val (.int (2 : Int32)), .val (.int (3 : Int32)), .val (.int (1 : Int32)), .val (.int f1)] [(.int (2 : Int32))])) _
    refine XS.istore X0.here hx rfl (hb hby d8_22) rfl (l' := #[.val (.ref a1), .val (.int (0 : Int32)), .val (.int (4 : Int32)), .val (.int sk), .val (.int (2 : Int32)), .val (.int (3 : Int32)), .val (.int (2 : Int32)), .val (.int f1)]) rfl ?_
    show Steps p.tables e below (s₁.setTop (mkF m 24 #[.val (.ref a1), .val (.int (0 : Int32)), .val (.int (4 : Int32)), .val (.int sk), .val (.int (2 : Int32)), .val (.int (3 : Int32)), .val (.int (2 : Int32)), .val (.int f1)] [])) _
    refine XS.aloadN X0.here hx rfl (hb hby d8_24) rfl rfl ?_
    show Steps p.tables e below (s₁.setTop (mkF m 25 #[.val (.ref a1), .val (.int (0 : Int32)), .val (.int (4 : Int32)), .val (.int sk), .val (.int (2 : Int32)), .val (.int (3 : Int32)), .val (.int (2 : Int32)), .val (.int f1)] [(.ref a1)])) _
    refine XS.iload X0.here hx rfl (hb hby d8_25) rfl ?_
    show Steps p.tables e below (s₁.setTop (mkF m 27 #[.val (.ref a1), .val (.int (0 : Int32)), .val (.int (4 : Int32)), .val (.int sk), .val (.int (2 : Int32)), .val (.int (3 : Int32)), .val (.int (2 : Int32)), .val (.int f1)] [(.int (2 : Int32)), (.ref a1)])) _
    refine X0.iaload hx (j := (2 : Int32)) (v := (.int f2)) (by rw [e0]; exact Ar_a1.1) (State.isArrayOf_alike hZ.alike Ar_a1.2.1) Ar_a1.2.2 hin27_2 hat27_2 (g := (mkF m 27 #[.val (.ref a1), .val (.int (0 : Int32)), .val (.int (4 : Int32)), .val (.int sk), .val (.int (2 : Int32)), .val (.int (3 : Int32)), .val (.int (2 : Int32)), .val (.int f1)] [(.int (2 : Int32)), (.ref a1)])) rfl rfl (hb hby d8_27) _ ?_
    show Steps p.tables e below (s₁.setTop (mkF m 28 #[.val (.ref a1), .val (.int (0 : Int32)), .val (.int (4 : Int32)), .val (.int sk), .val (.int (2 : Int32)), .val (.int (3 : Int32)), .val (.int (2 : Int32)), .val (.int f1)] [(.int f2)])) _
    refine XS.istore X0.here hx rfl (hb hby d8_28) rfl (l' := #[.val (.ref a1), .val (.int (0 : Int32)), .val (.int (4 : Int32)), .val (.int sk), .val (.int (2 : Int32)), .val (.int (3 : Int32)), .val (.int (2 : Int32)), .val (.int f2)]) rfl ?_
    show Steps p.tables e below (s₁.setTop (mkF m 30 #[.val (.ref a1), .val (.int (0 : Int32)), .val (.int (4 : Int32)), .val (.int sk), .val (.int (2 : Int32)), .val (.int (3 : Int32)), .val (.int (2 : Int32)), .val (.int f2)] [])) _
    refine XS.iload X0.here hx rfl (hb hby d8_30) rfl ?_
    show Steps p.tables e below (s₁.setTop (mkF m 32 #[.val (.ref a1), .val (.int (0 : Int32)), .val (.int (4 : Int32)), .val (.int sk), .val (.int (2 : Int32)), .val (.int (3 : Int32)), .val (.int (2 : Int32)), .val (.int f2)] [(.int f2)])) _
    refine XS.iloadN X0.here hx rfl (hb hby d8_32) rfl ?_
    show Steps p.tables e below (s₁.setTop (mkF m 33 #[.val (.ref a1), .val (.int (0 : Int32)), .val (.int (4 : Int32)), .val (.int sk), .val (.int (2 : Int32)), .val (.int (3 : Int32)), .val (.int (2 : Int32)), .val (.int f2)] [(.int sk), (.int f2)])) _
    refine XS.icmpNo X0.here hx rfl (hb hby d8_33) rfl (tlt hc33_2).2.1 ?_
    show Steps p.tables e below (s₁.setTop (mkF m 36 #[.val (.ref a1), .val (.int (0 : Int32)), .val (.int (4 : Int32)), .val (.int sk), .val (.int (2 : Int32)), .val (.int (3 : Int32)), .val (.int (2 : Int32)), .val (.int f2)] [])) _
    refine XS.iload X0.here hx rfl (hb hby d8_36) rfl ?_
    show Steps p.tables e below (s₁.setTop (mkF m 38 #[.val (.ref a1), .val (.int (0 : Int32)), .val (.int (4 : Int32)), .val (.int sk), .val (.int (2 : Int32)), .val (.int (3 : Int32)), .val (.int (2 : Int32)), .val (.int f2)] [(.int (2 : Int32))])) _
    refine XS.iconst X0.here hx rfl (hb hby d8_38) ?_
    show Steps p.tables e below (s₁.setTop (mkF m 39 #[.val (.ref a1), .val (.int (0 : Int32)), .val (.int (4 : Int32)), .val (.int sk), .val (.int (2 : Int32)), .val (.int (3 : Int32)), .val (.int (2 : Int32)), .val (.int f2)] [(.int (1 : Int32)), (.int (2 : Int32))])) _
    refine XS.iadd X0.here hx rfl (hb hby d8_39) rfl ?_
    show Steps p.tables e below (s₁.setTop (mkF m 40 #[.val (.ref a1), .val (.int (0 : Int32)), .val (.int (4 : Int32)), .val (.int sk), .val (.int (2 : Int32)), .val (.int (3 : Int32)), .val (.int (2 : Int32)), .val (.int f2)] [(.int (3 : Int32))])) _
    refine XS.istore X0.here hx rfl (hb hby d8_40) rfl (l' := #[.val (.ref a1), .val (.int (0 : Int32)), .val (.int (4 : Int32)), .val (.int sk), .val (.int (3 : Int32)), .val (.int (3 : Int32)), .val (.int (2 : Int32)), .val (.int f2)]) rfl ?_
    show Steps p.tables e below (s₁.setTop (mkF m 42 #[.val (.ref a1), .val (.int (0 : Int32)), .val (.int (4 : Int32)), .val (.int sk), .val (.int (3 : Int32)), .val (.int (3 : Int32)), .val (.int (2 : Int32)), .val (.int f2)] [])) _
    refine XS.goto X0.here hx rfl (pc0 := 42) (pc' := 63) rfl (hb hby d8_42) (by decide) (by decide) ?_
    show Steps p.tables e below (s₁.setTop (mkF m 63 #[.val (.ref a1), .val (.int (0 : Int32)), .val (.int (4 : Int32)), .val (.int sk), .val (.int (3 : Int32)), .val (.int (3 : Int32)), .val (.int (2 : Int32)), .val (.int f2)] [])) _
    refine XS.goto X0.here hx rfl (pc0 := 63) (pc' := 8) rfl (hb hby d8_63) (by decide) (by decide) ?_
    show Steps p.tables e below (s₁.setTop (mkF m 8 #[.val (.ref a1), .val (.int (0 : Int32)), .val (.int (4 : Int32)), .val (.int sk), .val (.int (3 : Int32)), .val (.int (3 : Int32)), .val (.int (2 : Int32)), .val (.int f2)] [])) _
    refine XS.iload X0.here hx rfl (hb hby d8_8) rfl ?_
    show Steps p.tables e below (s₁.setTop (mkF m 10 #[.val (.ref a1), .val (.int (0 : Int32)), .val (.int (4 : Int32)), .val (.int sk), .val (.int (3 : Int32)), .val (.int (3 : Int32)), .val (.int (2 : Int32)), .val (.int f2)] [(.int (3 : Int32))])) _
    refine XS.iload X0.here hx rfl (hb hby d8_10) rfl ?_
    show Steps p.tables e below (s₁.setTop (mkF m 12 #[.val (.ref a1), .val (.int (0 : Int32)), .val (.int (4 : Int32)), .val (.int sk), .val (.int (3 : Int32)), .val (.int (3 : Int32)), .val (.int (2 : Int32)), .val (.int f2)] [(.int (3 : Int32)), (.int (3 : Int32))])) _
    refine XS.icmpNo X0.here hx rfl (hb hby d8_12) rfl (flt hc12_3).2.2.1 ?_
    show Steps p.tables e below (s₁.setTop (mkF m 15 #[.val (.ref a1), .val (.int (0 : Int32)), .val (.int (4 : Int32)), .val (.int sk), .val (.int (3 : Int32)), .val (.int (3 : Int32)), .val (.int (2 : Int32)), .val (.int f2)] [])) _
    refine XS.iload X0.here hx rfl (hb hby d8_15) rfl ?_
    show Steps p.tables e below (s₁.setTop (mkF m 17 #[.val (.ref a1), .val (.int (0 : Int32)), .val (.int (4 : Int32)), .val (.int sk), .val (.int (3 : Int32)), .val (.int (3 : Int32)), .val (.int (2 : Int32)), .val (.int f2)] [(.int (3 : Int32))])) _
    refine XS.iload X0.here hx rfl (hb hby d8_17) rfl ?_
    show Steps p.tables e below (s₁.setTop (mkF m 19 #[.val (.ref a1), .val (.int (0 : Int32)), .val (.int (4 : Int32)), .val (.int sk), .val (.int (3 : Int32)), .val (.int (3 : Int32)), .val (.int (2 : Int32)), .val (.int f2)] [(.int (3 : Int32)), (.int (3 : Int32))])) _
    refine XS.iadd X0.here hx rfl (hb hby d8_19) rfl ?_
    show Steps p.tables e below (s₁.setTop (mkF m 20 #[.val (.ref a1), .val (.int (0 : Int32)), .val (.int (4 : Int32)), .val (.int sk), .val (.int (3 : Int32)), .val (.int (3 : Int32)), .val (.int (2 : Int32)), .val (.int f2)] [(.int (6 : Int32))])) _
    refine XS.iconst X0.here hx rfl (hb hby d8_20) ?_
    show Steps p.tables e below (s₁.setTop (mkF m 21 #[.val (.ref a1), .val (.int (0 : Int32)), .val (.int (4 : Int32)), .val (.int sk), .val (.int (3 : Int32)), .val (.int (3 : Int32)), .val (.int (2 : Int32)), .val (.int f2)] [(.int (1 : Int32)), (.int (6 : Int32))])) _
    refine XS.iushr X0.here hx rfl (hb hby d8_21) rfl ?_
    show Steps p.tables e below (s₁.setTop (mkF m 22 #[.val (.ref a1), .val (.int (0 : Int32)), .val (.int (4 : Int32)), .val (.int sk), .val (.int (3 : Int32)), .val (.int (3 : Int32)), .val (.int (2 : Int32)), .val (.int f2)] [(.int (3 : Int32))])) _
    refine XS.istore X0.here hx rfl (hb hby d8_22) rfl (l' := #[.val (.ref a1), .val (.int (0 : Int32)), .val (.int (4 : Int32)), .val (.int sk), .val (.int (3 : Int32)), .val (.int (3 : Int32)), .val (.int (3 : Int32)), .val (.int f2)]) rfl ?_
    show Steps p.tables e below (s₁.setTop (mkF m 24 #[.val (.ref a1), .val (.int (0 : Int32)), .val (.int (4 : Int32)), .val (.int sk), .val (.int (3 : Int32)), .val (.int (3 : Int32)), .val (.int (3 : Int32)), .val (.int f2)] [])) _
    refine XS.aloadN X0.here hx rfl (hb hby d8_24) rfl rfl ?_
    show Steps p.tables e below (s₁.setTop (mkF m 25 #[.val (.ref a1), .val (.int (0 : Int32)), .val (.int (4 : Int32)), .val (.int sk), .val (.int (3 : Int32)), .val (.int (3 : Int32)), .val (.int (3 : Int32)), .val (.int f2)] [(.ref a1)])) _
    refine XS.iload X0.here hx rfl (hb hby d8_25) rfl ?_
    show Steps p.tables e below (s₁.setTop (mkF m 27 #[.val (.ref a1), .val (.int (0 : Int32)), .val (.int (4 : Int32)), .val (.int sk), .val (.int (3 : Int32)), .val (.int (3 : Int32)), .val (.int (3 : Int32)), .val (.int f2)] [(.int (3 : Int32)), (.ref a1)])) _
    refine X0.iaload hx (j := (3 : Int32)) (v := (.int f3)) (by rw [e0]; exact Ar_a1.1) (State.isArrayOf_alike hZ.alike Ar_a1.2.1) Ar_a1.2.2 hin27_3 hat27_3 (g := (mkF m 27 #[.val (.ref a1), .val (.int (0 : Int32)), .val (.int (4 : Int32)), .val (.int sk), .val (.int (3 : Int32)), .val (.int (3 : Int32)), .val (.int (3 : Int32)), .val (.int f2)] [(.int (3 : Int32)), (.ref a1)])) rfl rfl (hb hby d8_27) _ ?_
    show Steps p.tables e below (s₁.setTop (mkF m 28 #[.val (.ref a1), .val (.int (0 : Int32)), .val (.int (4 : Int32)), .val (.int sk), .val (.int (3 : Int32)), .val (.int (3 : Int32)), .val (.int (3 : Int32)), .val (.int f2)] [(.int f3)])) _
    refine XS.istore X0.here hx rfl (hb hby d8_28) rfl (l' := #[.val (.ref a1), .val (.int (0 : Int32)), .val (.int (4 : Int32)), .val (.int sk), .val (.int (3 : Int32)), .val (.int (3 : Int32)), .val (.int (3 : Int32)), .val (.int f3)]) rfl ?_
    show Steps p.tables e below (s₁.setTop (mkF m 30 #[.val (.ref a1), .val (.int (0 : Int32)), .val (.int (4 : Int32)), .val (.int sk), .val (.int (3 : Int32)), .val (.int (3 : Int32)), .val (.int (3 : Int32)), .val (.int f3)] [])) _
    refine XS.iload X0.here hx rfl (hb hby d8_30) rfl ?_
    show Steps p.tables e below (s₁.setTop (mkF m 32 #[.val (.ref a1), .val (.int (0 : Int32)), .val (.int (4 : Int32)), .val (.int sk), .val (.int (3 : Int32)), .val (.int (3 : Int32)), .val (.int (3 : Int32)), .val (.int f3)] [(.int f3)])) _
    refine XS.iloadN X0.here hx rfl (hb hby d8_32) rfl ?_
    show Steps p.tables e below (s₁.setTop (mkF m 33 #[.val (.ref a1), .val (.int (0 : Int32)), .val (.int (4 : Int32)), .val (.int sk), .val (.int (3 : Int32)), .val (.int (3 : Int32)), .val (.int (3 : Int32)), .val (.int f3)] [(.int sk), (.int f3)])) _
    refine XS.icmpNo X0.here hx rfl (hb hby d8_33) rfl (tlt hc33_3).2.1 ?_
    show Steps p.tables e below (s₁.setTop (mkF m 36 #[.val (.ref a1), .val (.int (0 : Int32)), .val (.int (4 : Int32)), .val (.int sk), .val (.int (3 : Int32)), .val (.int (3 : Int32)), .val (.int (3 : Int32)), .val (.int f3)] [])) _
    refine XS.iload X0.here hx rfl (hb hby d8_36) rfl ?_
    show Steps p.tables e below (s₁.setTop (mkF m 38 #[.val (.ref a1), .val (.int (0 : Int32)), .val (.int (4 : Int32)), .val (.int sk), .val (.int (3 : Int32)), .val (.int (3 : Int32)), .val (.int (3 : Int32)), .val (.int f3)] [(.int (3 : Int32))])) _
    refine XS.iconst X0.here hx rfl (hb hby d8_38) ?_
    show Steps p.tables e below (s₁.setTop (mkF m 39 #[.val (.ref a1), .val (.int (0 : Int32)), .val (.int (4 : Int32)), .val (.int sk), .val (.int (3 : Int32)), .val (.int (3 : Int32)), .val (.int (3 : Int32)), .val (.int f3)] [(.int (1 : Int32)), (.int (3 : Int32))])) _
    refine XS.iadd X0.here hx rfl (hb hby d8_39) rfl ?_
    show Steps p.tables e below (s₁.setTop (mkF m 40 #[.val (.ref a1), .val (.int (0 : Int32)), .val (.int (4 : Int32)), .val (.int sk), .val (.int (3 : Int32)), .val (.int (3 : Int32)), .val (.int (3 : Int32)), .val (.int f3)] [(.int (4 : Int32))])) _
    refine XS.istore X0.here hx rfl (hb hby d8_40) rfl (l' := #[.val (.ref a1), .val (.int (0 : Int32)), .val (.int (4 : Int32)), .val (.int sk), .val (.int (4 : Int32)), .val (.int (3 : Int32)), .val (.int (3 : Int32)), .val (.int f3)]) rfl ?_
    show Steps p.tables e below (s₁.setTop (mkF m 42 #[.val (.ref a1), .val (.int (0 : Int32)), .val (.int (4 : Int32)), .val (.int sk), .val (.int (4 : Int32)), .val (.int (3 : Int32)), .val (.int (3 : Int32)), .val (.int f3)] [])) _
    refine XS.goto X0.here hx rfl (pc0 := 42) (pc' := 63) rfl (hb hby d8_42) (by decide) (by decide) ?_
    show Steps p.tables e below (s₁.setTop (mkF m 63 #[.val (.ref a1), .val (.int (0 : Int32)), .val (.int (4 : Int32)), .val (.int sk), .val (.int (4 : Int32)), .val (.int (3 : Int32)), .val (.int (3 : Int32)), .val (.int f3)] [])) _
    refine XS.goto X0.here hx rfl (pc0 := 63) (pc' := 8) rfl (hb hby d8_63) (by decide) (by decide) ?_
    show Steps p.tables e below (s₁.setTop (mkF m 8 #[.val (.ref a1), .val (.int (0 : Int32)), .val (.int (4 : Int32)), .val (.int sk), .val (.int (4 : Int32)), .val (.int (3 : Int32)), .val (.int (3 : Int32)), .val (.int f3)] [])) _
    refine XS.iload X0.here hx rfl (hb hby d8_8) rfl ?_
    show Steps p.tables e below (s₁.setTop (mkF m 10 #[.val (.ref a1), .val (.int (0 : Int32)), .val (.int (4 : Int32)), .val (.int sk), .val (.int (4 : Int32)), .val (.int (3 : Int32)), .val (.int (3 : Int32)), .val (.int f3)] [(.int (4 : Int32))])) _
    refine XS.iload X0.here hx rfl (hb hby d8_10) rfl ?_
    show Steps p.tables e below (s₁.setTop (mkF m 12 #[.val (.ref a1), .val (.int (0 : Int32)), .val (.int (4 : Int32)), .val (.int sk), .val (.int (4 : Int32)), .val (.int (3 : Int32)), .val (.int (3 : Int32)), .val (.int f3)] [(.int (3 : Int32)), (.int (4 : Int32))])) _
    refine XS.icmpYes X0.here hx rfl (pc0 := 12) (pc' := 66) rfl (hb hby d8_12) rfl (tlt hc12_4).2.2.1 (by decide) (by decide) ?_
    show Steps p.tables e below (s₁.setTop (mkF m 66 #[.val (.ref a1), .val (.int (0 : Int32)), .val (.int (4 : Int32)), .val (.int sk), .val (.int (4 : Int32)), .val (.int (3 : Int32)), .val (.int (3 : Int32)), .val (.int f3)] [])) _
    refine XS.iload X0.here hx rfl (hb hby d8_66) rfl ?_
    show Steps p.tables e below (s₁.setTop (mkF m 68 #[.val (.ref a1), .val (.int (0 : Int32)), .val (.int (4 : Int32)), .val (.int sk), .val (.int (4 : Int32)), .val (.int (3 : Int32)), .val (.int (3 : Int32)), .val (.int f3)] [(.int (4 : Int32))])) _
    refine XS.iconst X0.here hx rfl (hb hby d8_68) ?_
    show Steps p.tables e below (s₁.setTop (mkF m 69 #[.val (.ref a1), .val (.int (0 : Int32)), .val (.int (4 : Int32)), .val (.int sk), .val (.int (4 : Int32)), .val (.int (3 : Int32)), .val (.int (3 : Int32)), .val (.int f3)] [(.int (1 : Int32)), (.int (4 : Int32))])) _
    refine XS.iadd X0.here hx rfl (hb hby d8_69) rfl ?_
    show Steps p.tables e below (s₁.setTop (mkF m 70 #[.val (.ref a1), .val (.int (0 : Int32)), .val (.int (4 : Int32)), .val (.int sk), .val (.int (4 : Int32)), .val (.int (3 : Int32)), .val (.int (3 : Int32)), .val (.int f3)] [(.int (5 : Int32))])) _
    refine XS.ineg X0.here hx rfl (hb hby d8_70) rfl ?_
    show Steps p.tables e below (s₁.setTop (mkF m 71 #[.val (.ref a1), .val (.int (0 : Int32)), .val (.int (4 : Int32)), .val (.int sk), .val (.int (4 : Int32)), .val (.int (3 : Int32)), .val (.int (3 : Int32)), .val (.int f3)] [(.int (-(5 : Int32)))])) _
    exact retI X0 hx Bd.returns (hb hby d8_71) hr      -- retI stands in the head ('lawwalk <made dir>' prints it)
  · show Q8 (-(5 : Int32)) h0 n0 _ s₁.heap _
    rw [e0]
    exact ⟨rfl, N0, rfl⟩
theorem d8_45 : decode jdk_65_method_59_code 45 = .ok (.iload 7, 2) := by decide +kernel
theorem d8_47 : decode jdk_65_method_59_code 47 = .ok (.iload_n 3, 1) := by decide +kernel
theorem d8_48 : decode jdk_65_method_59_code 48 = .ok (.if_icmp .le 12, 3) := by decide +kernel
theorem d8_60 : decode jdk_65_method_59_code 60 = .ok (.iload 6, 2) := by decide +kernel
theorem d8_62 : decode jdk_65_method_59_code 62 = .ok (.ireturn, 1) := by decide +kernel
set_option maxRecDepth 65536 in
set_option maxHeartbeats 40000000 in
theorem rm8_e3 (l : Launch) (Z : State) (a0 : Array Value) (hw : ∀ d ∈ tables_1, d.before a0 Z = true) (ws : List Jvm.Cond) (a1 : Addr) (sk : Int32) (k : ClassId) (f0 f1 f2 f3 : Int32) (h0 : Heap) (n0 : Nat) (Z0 : n0 ≤ h0.size) (V : Arv Z h0 a1 k .int 4 [.int f0, .int f1, .int f2, .int f3] (.int 0)) (hf1 : f1 < sk) (hf2 : f2 < sk) (hf3 : f3 = sk) :
    MetFree l (⟨"java/util/Arrays", "binarySearch0", "([IIII)I"⟩ : MethodName) (head1 (Jvm.Cond.code (⟨"java/util/Arrays", "binarySearch0", "([IIII)I"⟩ : MethodName) jdk_65_method_59_code 8 (some .int) :: ws) ({ frames := 0, cells := 0, slots := 0, locals := 0 } : Room)) (fun a U => a = #[(.ref a1), (.int (0 : Int32)), (.int (4 : Int32)), (.int sk)] ∧ Z.Warmed39 U.vm ∧ U.heap = h0) (fun _ _ _ _ _ => True) (fun _ U o U' => ∃ v L, o = .returned v ∧ Q8 (3 : Int32) h0 n0 v U'.heap L ∧ FrameEnd U o U' L ({ frames := 0, cells := 0, slots := 0, locals := 0 } : Room).cells ({ frames := 0, cells := 0, slots := 0, locals := 0 } : Room).slots) := by
  refine MetFree.of_bodySF (plainFor_of_name pn_8) hisR ?_
  intro p e s m args below meth c s₁ Bd hml0 hP hK
  obtain ⟨rfl, hZ, hh⟩ := hP
  obtain ⟨cl_a1, Ar_a1, q_a1, S_a1, N_a1, H_a1, G_a1⟩ := V
  have hc12_1 : ¬ ((3 : Int32) < (0 : Int32)) := by decide
  have hin27_1 : ¬ ((1 : Int32) < 0 ∨ cl_a1.slots.size ≤ ((1 : Int32)).toNatClampNeg) := inb_of S_a1 ⟨by decide, by decide⟩
  have hat27_1 : cl_a1.slots[((1 : Int32)).toNatClampNeg]? = some (.int f1) := Has.at H_a1 hin27_1 rfl
  have hc33_1 : f1 < sk := hf1
  have hc12_2 : ¬ ((3 : Int32) < (2 : Int32)) := by decide
  have hin27_2 : ¬ ((2 : Int32) < 0 ∨ cl_a1.slots.size ≤ ((2 : Int32)).toNatClampNeg) := inb_of S_a1 ⟨by decide, by decide⟩
  have hat27_2 : cl_a1.slots[((2 : Int32)).toNatClampNeg]? = some (.int f2) := Has.at H_a1 hin27_2 rfl
  have hc33_2 : f2 < sk := hf2
  have hc12_3 : ¬ ((3 : Int32) < (3 : Int32)) := by decide
  have hin27_3 : ¬ ((3 : Int32) < 0 ∨ cl_a1.slots.size ≤ ((3 : Int32)).toNatClampNeg) := inb_of S_a1 ⟨by decide, by decide⟩
  have hat27_3 : cl_a1.slots[((3 : Int32)).toNatClampNeg]? = some (.int f3) := Has.at H_a1 hin27_3 rfl
  have hc33_3 : ¬ (f3 < sk) := fun q => Int32.lt_irrefl (hf3 ▸ q)
  have hc48_1 : ¬ (sk < f3) := fun q => Int32.lt_irrefl (hf3 ▸ q)
  have hx := Bd.exec
  have hby := Bd.bytes
  have hml : c.maxLocals = 8 := hml0
  have hown : s.vm.findClass "java/util/Arrays" = some m.cls := findClass_of_methodNamed Bd.named
  have hnm := (name_of_methodNamed Bd.named Bd.method).1
  have X0 : Stand p l e ({ frames := 0, cells := 0, slots := 0, locals := 0 } : Room) s m #[(.ref a1), (.int (0 : Int32)), (.int (4 : Int32)), (.int sk)] below meth c s₁ [] 0 0 := Stand.of_body Bd
  have e0 : s₁.heap = h0 := by rw [← hh, Bd.state]; rfl
  have N0 := Fr.nil n0
  have pre0 : ∀ t, Steps p.tables e below (s₁.setTop (mkF m 0 #[.val (.ref a1), .val (.int (0 : Int32)), .val (.int (4 : Int32)), .val (.int sk), .unset, .unset, .unset, .unset] [])) t → Steps p.tables e below (s₁.setTop (entryFrame m #[(.ref a1), (.int (0 : Int32)), (.int (4 : Int32)), (.int sk)] 8)) t := fun t k => castTop (ef_8 m a1 (0 : Int32) (4 : Int32) sk) k
  -- 3. LAWS

  obtain ⟨fs, hr, hrun, hended, hW, hsame⟩ := X0.leave (v := some (.int (3 : Int32))) (fun h => by rw [Bd.returns] at h; cases h)
  refine ⟨_, _, pre0 _ ?_, hrun, hended, _, _, rfl, ?_, ⟨_, rfl⟩, hW, hsame.mono (by decide) (by decide)⟩
  -- 4. STEPS
  · show Steps p.tables e below (s₁.setTop (mkF m 0 #[.val (.ref a1), .val (.int (0 : Int32)), .val (.int (4 : Int32)), .val (.int sk), .unset, .unset, .unset, .unset] [])) _
    refine XS.iloadN X0.here hx rfl (hb hby d8_0) rfl ?_
    show Steps p.tables e below (s₁.setTop (mkF m 1 #[.val (.ref a1), .val (.int (0 : Int32)), .val (.int (4 : Int32)), .val (.int sk), .unset, .unset, .unset, .unset] [(.int (0 : Int32))])) _
    refine XS.istore X0.here hx rfl (hb hby d8_1) rfl (l' := #[.val (.ref a1), .val (.int (0 : Int32)), .val (.int (4 : Int32)), .val (.int sk), .val (.int (0 : Int32)), .unset, .unset, .unset]) rfl ?_
    show Steps p.tables e below (s₁.setTop (mkF m 3 #[.val (.ref a1), .val (.int (0 : Int32)), .val (.int (4 : Int32)), .val (.int sk), .val (.int (0 : Int32)), .unset, .unset, .unset] [])) _
    refine XS.iloadN X0.here hx rfl (hb hby d8_3) rfl ?_
    show Steps p.tables e below (s₁.setTop (mkF m 4 #[.val (.ref a1), .val (.int (0 : Int32)), .val (.int (4 : Int32)), .val (.int sk), .val (.int (0 : Int32)), .unset, .unset, .unset] [(.int (4 : Int32))])) _
    refine XS.iconst X0.here hx rfl (hb hby d8_4) ?_
    show Steps p.tables e below (s₁.setTop (mkF m 5 #[.val (.ref a1), .val (.int (0 : Int32)), .val (.int (4 : Int32)), .val (.int sk), .val (.int (0 : Int32)), .unset, .unset, .unset] [(.int (1 : Int32)), (.int (4 : Int32))])) _
    refine XS.isub X0.here hx rfl (hb hby d8_5) rfl ?_
    show Steps p.tables e below (s₁.setTop (mkF m 6 #[.val (.ref a1), .val (.int (0 : Int32)), .val (.int (4 : Int32)), .val (.int sk), .val (.int (0 : Int32)), .unset, .unset, .unset] [(.int (3 : Int32))])) _
    refine XS.istore X0.here hx rfl (hb hby d8_6) rfl (l' := #[.val (.ref a1), .val (.int (0 : Int32)), .val (.int (4 : Int32)), .val (.int sk), .val (.int (0 : Int32)), .val (.int (3 : Int32)), .unset, .unset]) rfl ?_
    show Steps p.tables e below (s₁.setTop (mkF m 8 #[.val (.ref a1), .val (.int (0 : Int32)), .val (.int (4 : Int32)), .val (.int sk), .val (.int (0 : Int32)), .val (.int (3 : Int32)), .unset, .unset] [])) _
    refine XS.iload X0.here hx rfl (hb hby d8_8) rfl ?_
    show Steps p.tables e below (s₁.setTop (mkF m 10 #[.val (.ref a1), .val (.int (0 : Int32)), .val (.int (4 : Int32)), .val (.int sk), .val (.int (0 : Int32)), .val (.int (3 : Int32)), .unset, .unset] [(.int (0 : Int32))])) _
    refine XS.iload X0.here hx rfl (hb hby d8_10) rfl ?_
    show Steps p.tables e below (s₁.setTop (mkF m 12 #[.val (.ref a1), .val (.int (0 : Int32)), .val (.int (4 : Int32)), .val (.int sk), .val (.int (0 : Int32)), .val (.int (3 : Int32)), .unset, .unset] [(.int (3 : Int32)), (.int (0 : Int32))])) _
    refine XS.icmpNo X0.here hx rfl (hb hby d8_12) rfl (flt hc12_1).2.2.1 ?_
    show Steps p.tables e below (s₁.setTop (mkF m 15 #[.val (.ref a1), .val (.int (0 : Int32)), .val (.int (4 : Int32)), .val (.int sk), .val (.int (0 : Int32)), .val (.int (3 : Int32)), .unset, .unset] [])) _
    refine XS.iload X0.here hx rfl (hb hby d8_15) rfl ?_
    show Steps p.tables e below (s₁.setTop (mkF m 17 #[.val (.ref a1), .val (.int (0 : Int32)), .val (.int (4 : Int32)), .val (.int sk), .val (.int (0 : Int32)), .val (.int (3 : Int32)), .unset, .unset] [(.int (0 : Int32))])) _
    refine XS.iload X0.here hx rfl (hb hby d8_17) rfl ?_
    show Steps p.tables e below (s₁.setTop (mkF m 19 #[.val (.ref a1), .val (.int (0 : Int32)), .val (.int (4 : Int32)), .val (.int sk), .val (.int (0 : Int32)), .val (.int (3 : Int32)), .unset, .unset] [(.int (3 : Int32)), (.int (0 : Int32))])) _
    refine XS.iadd X0.here hx rfl (hb hby d8_19) rfl ?_
    show Steps p.tables e below (s₁.setTop (mkF m 20 #[.val (.ref a1), .val (.int (0 : Int32)), .val (.int (4 : Int32)), .val (.int sk), .val (.int (0 : Int32)), .val (.int (3 : Int32)), .unset, .unset] [(.int (3 : Int32))])) _
    refine XS.iconst X0.here hx rfl (hb hby d8_20) ?_
    show Steps p.tables e below (s₁.setTop (mkF m 21 #[.val (.ref a1), .val (.int (0 : Int32)), .val (.int (4 : Int32)), .val (.int sk), .val (.int (0 : Int32)), .val (.int (3 : Int32)), .unset, .unset] [(.int (1 : Int32)), (.int (3 : Int32))])) _
    refine XS.iushr X0.here hx rfl (hb hby d8_21) rfl ?_
    show Steps p.tables e below (s₁.setTop (mkF m 22 #[.val (.ref a1), .val (.int (0 : Int32)), .val (.int (4 : Int32)), .val (.int sk), .val (.int (0 : Int32)), .val (.int (3 : Int32)), .unset, .unset] [(.int (1 : Int32))])) _
    refine XS.istore X0.here hx rfl (hb hby d8_22) rfl (l' := #[.val (.ref a1), .val (.int (0 : Int32)), .val (.int (4 : Int32)), .val (.int sk), .val (.int (0 : Int32)), .val (.int (3 : Int32)), .val (.int (1 : Int32)), .unset]) rfl ?_
    show Steps p.tables e below (s₁.setTop (mkF m 24 #[.val (.ref a1), .val (.int (0 : Int32)), .val (.int (4 : Int32)), .val (.int sk), .val (.int (0 : Int32)), .val (.int (3 : Int32)), .val (.int (1 : Int32)), .unset] [])) _
    refine XS.aloadN X0.here hx rfl (hb hby d8_24) rfl rfl ?_
    show Steps p.tables e below (s₁.setTop (mkF m 25 #[.val (.ref a1), .val (.int (0 : Int32)), .val (.int (4 : Int32)), .val (.int sk), .val (.int (0 : Int32)), .val (.int (3 : Int32)), .val (.int (1 : Int32)), .unset] [(.ref a1)])) _
    refine XS.iload X0.here hx rfl (hb hby d8_25) rfl ?_
    show Steps p.tables e below (s₁.setTop (mkF m 27 #[.val (.ref a1), .val (.int (0 : Int32)), .val (.int (4 : Int32)), .val (.int sk), .val (.int (0 : Int32)), .val (.int (3 : Int32)), .val (.int (1 : Int32)), .unset] [(.int (1 : Int32)), (.ref a1)])) _
    refine X0.iaload hx (j := (1 : Int32)) (v := (.int f1)) (by rw [e0]; exact Ar_a1.1) (State.isArrayOf_alike hZ.alike Ar_a1.2.1) Ar_a1.2.2 hin27_1 hat27_1 (g := (mkF m 27 #[.val (.ref a1), .val (.int (0 : Int32)), .val (.int (4 : Int32)), .val (.int sk), .val (.int (0 : Int32)), .val (.int (3 : Int32)), .val (.int (1 : Int32)), .unset] [(.int (1 : Int32)), (.ref a1)])) rfl rfl (hb hby d8_27) _ ?_
    show Steps p.tables e below (s₁.setTop (mkF m 28 #[.val (.ref a1), .val (.int (0 : Int32)), .val (.int (4 : Int32)), .val (.int sk), .val (.int (0 : Int32)), .val (.int (3 : Int32)), .val (.int (1 : Int32)), .unset] [(.int f1)])) _
    refine XS.istore X0.here hx rfl (hb hby d8_28) rfl (l' := #[.val (.ref a1), .val (.int (0 : Int32)), .val (.int (4 : Int32)), .val (.int sk), .val (.int (0 : Int32)), .val (.int (3 : Int32)), .val (.int (1 : Int32)), .val (.int f1)]) rfl ?_
    show Steps p.tables e below (s₁.setTop (mkF m 30 #[.val (.ref a1), .val (.int (0 : Int32)), .val (.int (4 : Int32)), .val (.int sk), .val (.int (0 : Int32)), .val (.int (3 : Int32)), .val (.int (1 : Int32)), .val (.int f1)] [])) _
    refine XS.iload X0.here hx rfl (hb hby d8_30) rfl ?_
    show Steps p.tables e below (s₁.setTop (mkF m 32 #[.val (.ref a1), .val (.int (0 : Int32)), .val (.int (4 : Int32)), .val (.int sk), .val (.int (0 : Int32)), .val (.int (3 : Int32)), .val (.int (1 : Int32)), .val (.int f1)] [(.int f1)])) _
    refine XS.iloadN X0.here hx rfl (hb hby d8_32) rfl ?_
    show Steps p.tables e below (s₁.setTop (mkF m 33 #[.val (.ref a1), .val (.int (0 : Int32)), .val (.int (4 : Int32)), .val (.int sk), .val (.int (0 : Int32)), .val (.int (3 : Int32)), .val (.int (1 : Int32)), .val (.int f1)] [(.int sk), (.int f1)])) _
    refine XS.icmpNo X0.here hx rfl (hb hby d8_33) rfl (tlt hc33_1).2.1 ?_
    show Steps p.tables e below (s₁.setTop (mkF m 36 #[.val (.ref a1), .val (.int (0 : Int32)), .val (.int (4 : Int32)), .val (.int sk), .val (.int (0 : Int32)), .val (.int (3 : Int32)), .val (.int (1 : Int32)), .val (.int f1)] [])) _
    refine XS.iload X0.here hx rfl (hb hby d8_36) rfl ?_
    show Steps p.tables e below (s₁.setTop (mkF m 38 #[.val (.ref a1), .val (.int (0 : Int32)), .val (.int (4 : Int32)), .val (.int sk), .val (.int (0 : Int32)), .val (.int (3 : Int32)), .val (.int (1 : Int32)), .val (.int f1)] [(.int (1 : Int32))])) _
    refine XS.iconst X0.here hx rfl (hb hby d8_38) ?_
    show Steps p.tables e below (s₁.setTop (mkF m 39 #[.val (.ref a1), .val (.int (0 : Int32)), .val (.int (4 : Int32)), .val (.int sk), .val (.int (0 : Int32)), .val (.int (3 : Int32)), .val (.int (1 : Int32)), .val (.int f1)] [(.int (1 : Int32)), (.int (1 : Int32))])) _
    refine XS.iadd X0.here hx rfl (hb hby d8_39) rfl ?_
    show Steps p.tables e below (s₁.setTop (mkF m 40 #[.val (.ref a1), .val (.int (0 : Int32)), .val (.int (4 : Int32)), .val (.int sk), .val (.int (0 : Int32)), .val (.int (3 : Int32)), .val (.int (1 : Int32)), .val (.int f1)] [(.int (2 : Int32))])) _
    refine XS.istore X0.here hx rfl (hb hby d8_40) rfl (l' := #[.val (.ref a1), .val (.int (0 : Int32)), .val (.int (4 : Int32)), .val (.int sk), .val (.int (2 : Int32)), .val (.int (3 : Int32)), .val (.int (1 : Int32)), .val (.int f1)]) rfl ?_
    show Steps p.tables e below (s₁.setTop (mkF m 42 #[.val (.ref a1), .val (.int (0 : Int32)), .val (.int (4 : Int32)), .val (.int sk), .val (.int (2 : Int32)), .val (.int (3 : Int32)), .val (.int (1 : Int32)), .val (.int f1)] [])) _
    refine XS.goto X0.here hx rfl (pc0 := 42) (pc' := 63) rfl (hb hby d8_42) (by decide) (by decide) ?_
    show Steps p.tables e below (s₁.setTop (mkF m 63 #[.val (.ref a1), .val (.int (0 : Int32)), .val (.int (4 : Int32)), .val (.int sk), .val (.int (2 : Int32)), .val (.int (3 : Int32)), .val (.int (1 : Int32)), .val (.int f1)] [])) _
    refine XS.goto X0.here hx rfl (pc0 := 63) (pc' := 8) rfl (hb hby d8_63) (by decide) (by decide) ?_
    show Steps p.tables e below (s₁.setTop (mkF m 8 #[.val (.ref a1), .val (.int (0 : Int32)), .val (.int (4 : Int32)), .val (.int sk), .val (.int (2 : Int32)), .val (.int (3 : Int32)), .val (.int (1 : Int32)), .val (.int f1)] [])) _
    refine XS.iload X0.here hx rfl (hb hby d8_8) rfl ?_
    show Steps p.tables e below (s₁.setTop (mkF m 10 #[.val (.ref a1), .val (.int (0 : Int32)), .val (.int (4 : Int32)), .val (.int sk), .val (.int (2 : Int32)), .val (.int (3 : Int32)), .val (.int (1 : Int32)), .val (.int f1)] [(.int (2 : Int32))])) _
    refine XS.iload X0.here hx rfl (hb hby d8_10) rfl ?_
    show Steps p.tables e below (s₁.setTop (mkF m 12 #[.val (.ref a1), .val (.int (0 : Int32)), .val (.int (4 : Int32)), .val (.int sk), .val (.int (2 : Int32)), .val (.int (3 : Int32)), .val (.int (1 : Int32)), .val (.int f1)] [(.int (3 : Int32)), (.int (2 : Int32))])) _
    refine XS.icmpNo X0.here hx rfl (hb hby d8_12) rfl (flt hc12_2).2.2.1 ?_
    show Steps p.tables e below (s₁.setTop (mkF m 15 #[.val (.ref a1), .val (.int (0 : Int32)), .val (.int (4 : Int32)), .val (.int sk), .val (.int (2 : Int32)), .val (.int (3 : Int32)), .val (.int (1 : Int32)), .val (.int f1)] [])) _
    refine XS.iload X0.here hx rfl (hb hby d8_15) rfl ?_
    show Steps p.tables e below (s₁.setTop (mkF m 17 #[.val (.ref a1), .val (.int (0 : Int32)), .val (.int (4 : Int32)), .val (.int sk), .val (.int (2 : Int32)), .val (.int (3 : Int32)), .val (.int (1 : Int32)), .val (.int f1)] [(.int (2 : Int32))])) _
    refine XS.iload X0.here hx rfl (hb hby d8_17) rfl ?_
    show Steps p.tables e below (s₁.setTop (mkF m 19 #[.val (.ref a1), .val (.int (0 : Int32)), .val (.int (4 : Int32)), .val (.int sk), .val (.int (2 : Int32)), .val (.int (3 : Int32)), .val (.int (1 : Int32)), .val (.int f1)] [(.int (3 : Int32)), (.int (2 : Int32))])) _
    refine XS.iadd X0.here hx rfl (hb hby d8_19) rfl ?_
    show Steps p.tables e below (s₁.setTop (mkF m 20 #[.val (.ref a1), .val (.int (0 : Int32)), .val (.int (4 : Int32)), .val (.int sk), .val (.int (2 : Int32)), .val (.int (3 : Int32)), .val (.int (1 : Int32)), .val (.int f1)] [(.int (5 : Int32))])) _
    refine XS.iconst X0.here hx rfl (hb hby d8_20) ?_
    show Steps p.tables e below (s₁.setTop (mkF m 21 #[.val (.ref a1), .val (.int (0 : Int32)), .val (.int (4 : Int32)), .val (.int sk), .val (.int (2 : Int32)), .val (.int (3 : Int32)), .val (.int (1 : Int32)), .val (.int f1)] [(.int (1 : Int32)), (.int (5 : Int32))])) _
    refine XS.iushr X0.here hx rfl (hb hby d8_21) rfl ?_
    show Steps p.tables e below (s₁.setTop (mkF m 22 #[.val (.ref a1), .val (.int (0 : Int32)), .val (.int (4 : Int32)), .val (.int sk), .val (.int (2 : Int32)), .val (.int (3 : Int32)), .val (.int (1 : Int32)), .val (.int f1)] [(.int (2 : Int32))])) _
    refine XS.istore X0.here hx rfl (hb hby d8_22) rfl (l' := #[.val (.ref a1), .val (.int (0 : Int32)), .val (.int (4 : Int32)), .val (.int sk), .val (.int (2 : Int32)), .val (.int (3 : Int32)), .val (.int (2 : Int32)), .val (.int f1)]) rfl ?_
    show Steps p.tables e below (s₁.setTop (mkF m 24 #[.val (.ref a1), .val (.int (0 : Int32)), .val (.int (4 : Int32)), .val (.int sk), .val (.int (2 : Int32)), .val (.int (3 : Int32)), .val (.int (2 : Int32)), .val (.int f1)] [])) _
    refine XS.aloadN X0.here hx rfl (hb hby d8_24) rfl rfl ?_
    show Steps p.tables e below (s₁.setTop (mkF m 25 #[.val (.ref a1), .val (.int (0 : Int32)), .val (.int (4 : Int32)), .val (.int sk), .val (.int (2 : Int32)), .val (.int (3 : Int32)), .val (.int (2 : Int32)), .val (.int f1)] [(.ref a1)])) _
    refine XS.iload X0.here hx rfl (hb hby d8_25) rfl ?_
    show Steps p.tables e below (s₁.setTop (mkF m 27 #[.val (.ref a1), .val (.int (0 : Int32)), .val (.int (4 : Int32)), .val (.int sk), .val (.int (2 : Int32)), .val (.int (3 : Int32)), .val (.int (2 : Int32)), .val (.int f1)] [(.int (2 : Int32)), (.ref a1)])) _
    refine X0.iaload hx (j := (2 : Int32)) (v := (.int f2)) (by rw [e0]; exact Ar_a1.1) (State.isArrayOf_alike hZ.alike Ar_a1.2.1) Ar_a1.2.2 hin27_2 hat27_2 (g := (mkF m 27 #[.val (.ref a1), .val (.int (0 : Int32)), .val (.int (4 : Int32)), .val (.int sk), .val (.int (2 : Int32)), .val (.int (3 : Int32)), .val (.int (2 : Int32)), .val (.int f1)] [(.int (2 : Int32)), (.ref a1)])) rfl rfl (hb hby d8_27) _ ?_
    show Steps p.tables e below (s₁.setTop (mkF m 28 #[.val (.ref a1), .val (.int (0 : Int32)), .val (.int (4 : Int32)), .val (.int sk), .val (.int (2 : Int32)), .val (.int (3 : Int32)), .val (.int (2 : Int32)), .val (.int f1)] [(.int f2)])) _
    refine XS.istore X0.here hx rfl (hb hby d8_28) rfl (l' := #[.val (.ref a1), .val (.int (0 : Int32)), .val (.int (4 : Int32)), .val (.int sk), .val (.int (2 : Int32)), .val (.int (3 : Int32)), .val (.int (2 : Int32)), .val (.int f2)]) rfl ?_
    show Steps p.tables e below (s₁.setTop (mkF m 30 #[.val (.ref a1), .val (.int (0 : Int32)), .val (.int (4 : Int32)), .val (.int sk), .val (.int (2 : Int32)), .val (.int (3 : Int32)), .val (.int (2 : Int32)), .val (.int f2)] [])) _
    refine XS.iload X0.here hx rfl (hb hby d8_30) rfl ?_
    show Steps p.tables e below (s₁.setTop (mkF m 32 #[.val (.ref a1), .val (.int (0 : Int32)), .val (.int (4 : Int32)), .val (.int sk), .val (.int (2 : Int32)), .val (.int (3 : Int32)), .val (.int (2 : Int32)), .val (.int f2)] [(.int f2)])) _
    refine XS.iloadN X0.here hx rfl (hb hby d8_32) rfl ?_
    show Steps p.tables e below (s₁.setTop (mkF m 33 #[.val (.ref a1), .val (.int (0 : Int32)), .val (.int (4 : Int32)), .val (.int sk), .val (.int (2 : Int32)), .val (.int (3 : Int32)), .val (.int (2 : Int32)), .val (.int f2)] [(.int sk), (.int f2)])) _
    refine XS.icmpNo X0.here hx rfl (hb hby d8_33) rfl (tlt hc33_2).2.1 ?_
    show Steps p.tables e below (s₁.setTop (mkF m 36 #[.val (.ref a1), .val (.int (0 : Int32)), .val (.int (4 : Int32)), .val (.int sk), .val (.int (2 : Int32)), .val (.int (3 : Int32)), .val (.int (2 : Int32)), .val (.int f2)] [])) _
    refine XS.iload X0.here hx rfl (hb hby d8_36) rfl ?_
    show Steps p.tables e below (s₁.setTop (mkF m 38 #[.val (.ref a1), .val (.int (0 : Int32)), .val (.int (4 : Int32)), .val (.int sk), .val (.int (2 : Int32)), .val (.int (3 : Int32)), .val (.int (2 : Int32)), .val (.int f2)] [(.int (2 : Int32))])) _
    refine XS.iconst X0.here hx rfl (hb hby d8_38) ?_
    show Steps p.tables e below (s₁.setTop (mkF m 39 #[.val (.ref a1), .val (.int (0 : Int32)), .val (.int (4 : Int32)), .val (.int sk), .val (.int (2 : Int32)), .val (.int (3 : Int32)), .val (.int (2 : Int32)), .val (.int f2)] [(.int (1 : Int32)), (.int (2 : Int32))])) _
    refine XS.iadd X0.here hx rfl (hb hby d8_39) rfl ?_
    show Steps p.tables e below (s₁.setTop (mkF m 40 #[.val (.ref a1), .val (.int (0 : Int32)), .val (.int (4 : Int32)), .val (.int sk), .val (.int (2 : Int32)), .val (.int (3 : Int32)), .val (.int (2 : Int32)), .val (.int f2)] [(.int (3 : Int32))])) _
    refine XS.istore X0.here hx rfl (hb hby d8_40) rfl (l' := #[.val (.ref a1), .val (.int (0 : Int32)), .val (.int (4 : Int32)), .val (.int sk), .val (.int (3 : Int32)), .val (.int (3 : Int32)), .val (.int (2 : Int32)), .val (.int f2)]) rfl ?_
    show Steps p.tables e below (s₁.setTop (mkF m 42 #[.val (.ref a1), .val (.int (0 : Int32)), .val (.int (4 : Int32)), .val (.int sk), .val (.int (3 : Int32)), .val (.int (3 : Int32)), .val (.int (2 : Int32)), .val (.int f2)] [])) _
    refine XS.goto X0.here hx rfl (pc0 := 42) (pc' := 63) rfl (hb hby d8_42) (by decide) (by decide) ?_
    show Steps p.tables e below (s₁.setTop (mkF m 63 #[.val (.ref a1), .val (.int (0 : Int32)), .val (.int (4 : Int32)), .val (.int sk), .val (.int (3 : Int32)), .val (.int (3 : Int32)), .val (.int (2 : Int32)), .val (.int f2)] [])) _
    refine XS.goto X0.here hx rfl (pc0 := 63) (pc' := 8) rfl (hb hby d8_63) (by decide) (by decide) ?_
    show Steps p.tables e below (s₁.setTop (mkF m 8 #[.val (.ref a1), .val (.int (0 : Int32)), .val (.int (4 : Int32)), .val (.int sk), .val (.int (3 : Int32)), .val (.int (3 : Int32)), .val (.int (2 : Int32)), .val (.int f2)] [])) _
    refine XS.iload X0.here hx rfl (hb hby d8_8) rfl ?_
    show Steps p.tables e below (s₁.setTop (mkF m 10 #[.val (.ref a1), .val (.int (0 : Int32)), .val (.int (4 : Int32)), .val (.int sk), .val (.int (3 : Int32)), .val (.int (3 : Int32)), .val (.int (2 : Int32)), .val (.int f2)] [(.int (3 : Int32))])) _
    refine XS.iload X0.here hx rfl (hb hby d8_10) rfl ?_
    show Steps p.tables e below (s₁.setTop (mkF m 12 #[.val (.ref a1), .val (.int (0 : Int32)), .val (.int (4 : Int32)), .val (.int sk), .val (.int (3 : Int32)), .val (.int (3 : Int32)), .val (.int (2 : Int32)), .val (.int f2)] [(.int (3 : Int32)), (.int (3 : Int32))])) _
    refine XS.icmpNo X0.here hx rfl (hb hby d8_12) rfl (flt hc12_3).2.2.1 ?_
    show Steps p.tables e below (s₁.setTop (mkF m 15 #[.val (.ref a1), .val (.int (0 : Int32)), .val (.int (4 : Int32)), .val (.int sk), .val (.int (3 : Int32)), .val (.int (3 : Int32)), .val (.int (2 : Int32)), .val (.int f2)] [])) _
    refine XS.iload X0.here hx rfl (hb hby d8_15) rfl ?_
    show Steps p.tables e below (s₁.setTop (mkF m 17 #[.val (.ref a1), .val (.int (0 : Int32)), .val (.int (4 : Int32)), .val (.int sk), .val (.int (3 : Int32)), .val (.int (3 : Int32)), .val (.int (2 : Int32)), .val (.int f2)] [(.int (3 : Int32))])) _
    refine XS.iload X0.here hx rfl (hb hby d8_17) rfl ?_
    show Steps p.tables e below (s₁.setTop (mkF m 19 #[.val (.ref a1), .val (.int (0 : Int32)), .val (.int (4 : Int32)), .val (.int sk), .val (.int (3 : Int32)), .val (.int (3 : Int32)), .val (.int (2 : Int32)), .val (.int f2)] [(.int (3 : Int32)), (.int (3 : Int32))])) _
    refine XS.iadd X0.here hx rfl (hb hby d8_19) rfl ?_
    show Steps p.tables e below (s₁.setTop (mkF m 20 #[.val (.ref a1), .val (.int (0 : Int32)), .val (.int (4 : Int32)), .val (.int sk), .val (.int (3 : Int32)), .val (.int (3 : Int32)), .val (.int (2 : Int32)), .val (.int f2)] [(.int (6 : Int32))])) _
    refine XS.iconst X0.here hx rfl (hb hby d8_20) ?_
    show Steps p.tables e below (s₁.setTop (mkF m 21 #[.val (.ref a1), .val (.int (0 : Int32)), .val (.int (4 : Int32)), .val (.int sk), .val (.int (3 : Int32)), .val (.int (3 : Int32)), .val (.int (2 : Int32)), .val (.int f2)] [(.int (1 : Int32)), (.int (6 : Int32))])) _
    refine XS.iushr X0.here hx rfl (hb hby d8_21) rfl ?_
    show Steps p.tables e below (s₁.setTop (mkF m 22 #[.val (.ref a1), .val (.int (0 : Int32)), .val (.int (4 : Int32)), .val (.int sk), .val (.int (3 : Int32)), .val (.int (3 : Int32)), .val (.int (2 : Int32)), .val (.int f2)] [(.int (3 : Int32))])) _
    refine XS.istore X0.here hx rfl (hb hby d8_22) rfl (l' := #[.val (.ref a1), .val (.int (0 : Int32)), .val (.int (4 : Int32)), .val (.int sk), .val (.int (3 : Int32)), .val (.int (3 : Int32)), .val (.int (3 : Int32)), .val (.int f2)]) rfl ?_
    show Steps p.tables e below (s₁.setTop (mkF m 24 #[.val (.ref a1), .val (.int (0 : Int32)), .val (.int (4 : Int32)), .val (.int sk), .val (.int (3 : Int32)), .val (.int (3 : Int32)), .val (.int (3 : Int32)), .val (.int f2)] [])) _
    refine XS.aloadN X0.here hx rfl (hb hby d8_24) rfl rfl ?_
    show Steps p.tables e below (s₁.setTop (mkF m 25 #[.val (.ref a1), .val (.int (0 : Int32)), .val (.int (4 : Int32)), .val (.int sk), .val (.int (3 : Int32)), .val (.int (3 : Int32)), .val (.int (3 : Int32)), .val (.int f2)] [(.ref a1)])) _
    refine XS.iload X0.here hx rfl (hb hby d8_25) rfl ?_
    show Steps p.tables e below (s₁.setTop (mkF m 27 #[.val (.ref a1), .val (.int (0 : Int32)), .val (.int (4 : Int32)), .val (.int sk), .val (.int (3 : Int32)), .val (.int (3 : Int32)), .val (.int (3 : Int32)), .val (.int f2)] [(.int (3 : Int32)), (.ref a1)])) _
    refine X0.iaload hx (j := (3 : Int32)) (v := (.int f3)) (by rw [e0]; exact Ar_a1.1) (State.isArrayOf_alike hZ.alike Ar_a1.2.1) Ar_a1.2.2 hin27_3 hat27_3 (g := (mkF m 27 #[.val (.ref a1), .val (.int (0 : Int32)), .val (.int (4 : Int32)), .val (.int sk), .val (.int (3 : Int32)), .val (.int (3 : Int32)), .val (.int (3 : Int32)), .val (.int f2)] [(.int (3 : Int32)), (.ref a1)])) rfl rfl (hb hby d8_27) _ ?_
    show Steps p.tables e below (s₁.setTop (mkF m 28 #[.val (.ref a1), .val (.int (0 : Int32)), .val (.int (4 : Int32)), .val (.int sk), .val (.int (3 : Int32)), .val (.int (3 : Int32)), .val (.int (3 : Int32)), .val (.int f2)] [(.int f3)])) _
    refine XS.istore X0.here hx rfl (hb hby d8_28) rfl (l' := #[.val (.ref a1), .val (.int (0 : Int32)), .val (.int (4 : Int32)), .val (.int sk), .val (.int (3 : Int32)), .val (.int (3 : Int32)), .val (.int (3 : Int32)), .val (.int f3)]) rfl ?_
    show Steps p.tables e below (s₁.setTop (mkF m 30 #[.val (.ref a1), .val (.int (0 : Int32)), .val (.int (4 : Int32)), .val (.int sk), .val (.int (3 : Int32)), .val (.int (3 : Int32)), .val (.int (3 : Int32)), .val (.int f3)] [])) _
    refine XS.iload X0.here hx rfl (hb hby d8_30) rfl ?_
    show Steps p.tables e below (s₁.setTop (mkF m 32 #[.val (.ref a1), .val (.int (0 : Int32)), .val (.int (4 : Int32)), .val (.int sk), .val (.int (3 : Int32)), .val (.int (3 : Int32)), .val (.int (3 : Int32)), .val (.int f3)] [(.int f3)])) _
    refine XS.iloadN X0.here hx rfl (hb hby d8_32) rfl ?_
    show Steps p.tables e below (s₁.setTop (mkF m 33 #[.val (.ref a1), .val (.int (0 : Int32)), .val (.int (4 : Int32)), .val (.int sk), .val (.int (3 : Int32)), .val (.int (3 : Int32)), .val (.int (3 : Int32)), .val (.int f3)] [(.int sk), (.int f3)])) _
    refine XS.icmpYes X0.here hx rfl (pc0 := 33) (pc' := 45) rfl (hb hby d8_33) rfl (flt hc33_3).2.1 (by decide) (by decide) ?_
    show Steps p.tables e below (s₁.setTop (mkF m 45 #[.val (.ref a1), .val (.int (0 : Int32)), .val (.int (4 : Int32)), .val (.int sk), .val (.int (3 : Int32)), .val (.int (3 : Int32)), .val (.int (3 : Int32)), .val (.int f3)] [])) _
    refine XS.iload X0.here hx rfl (hb hby d8_45) rfl ?_
    show Steps p.tables e below (s₁.setTop (mkF m 47 #[.val (.ref a1), .val (.int (0 : Int32)), .val (.int (4 : Int32)), .val (.int sk), .val (.int (3 : Int32)), .val (.int (3 : Int32)), .val (.int (3 : Int32)), .val (.int f3)] [(.int f3)])) _
    refine XS.iloadN X0.here hx rfl (hb hby d8_47) rfl ?_
    show Steps p.tables e below (s₁.setTop (mkF m 48 #[.val (.ref a1), .val (.int (0 : Int32)), .val (.int (4 : Int32)), .val (.int sk), .val (.int (3 : Int32)), .val (.int (3 : Int32)), .val (.int (3 : Int32)), .val (.int f3)] [(.int sk), (.int f3)])) _
    refine XS.icmpYes X0.here hx rfl (pc0 := 48) (pc' := 60) rfl (hb hby d8_48) rfl (flt hc48_1).2.2.2 (by decide) (by decide) ?_
    show Steps p.tables e below (s₁.setTop (mkF m 60 #[.val (.ref a1), .val (.int (0 : Int32)), .val (.int (4 : Int32)), .val (.int sk), .val (.int (3 : Int32)), .val (.int (3 : Int32)), .val (.int (3 : Int32)), .val (.int f3)] [])) _
    refine XS.iload X0.here hx rfl (hb hby d8_60) rfl ?_
    show Steps p.tables e below (s₁.setTop (mkF m 62 #[.val (.ref a1), .val (.int (0 : Int32)), .val (.int (4 : Int32)), .val (.int sk), .val (.int (3 : Int32)), .val (.int (3 : Int32)), .val (.int (3 : Int32)), .val (.int f3)] [(.int (3 : Int32))])) _
    exact retI X0 hx Bd.returns (hb hby d8_62) hr      -- retI stands in the head ('lawwalk <made dir>' prints it)
  · show Q8 (3 : Int32) h0 n0 _ s₁.heap _
    rw [e0]
    exact ⟨rfl, N0, rfl⟩
theorem d8_51 : decode jdk_65_method_59_code 51 = .ok (.iload 6, 2) := by decide +kernel
theorem d8_53 : decode jdk_65_method_59_code 53 = .ok (.iconst 1, 1) := by decide +kernel
theorem d8_54 : decode jdk_65_method_59_code 54 = .ok (.isub, 1) := by decide +kernel
theorem d8_55 : decode jdk_65_method_59_code 55 = .ok (.istore 5, 2) := by decide +kernel
theorem d8_57 : decode jdk_65_method_59_code 57 = .ok (.goto 6, 3) := by decide +kernel
set_option maxRecDepth 65536 in
set_option maxHeartbeats 40000000 in
theorem rm8_n4 (l : Launch) (Z : State) (a0 : Array Value) (hw : ∀ d ∈ tables_1, d.before a0 Z = true) (ws : List Jvm.Cond) (a1 : Addr) (sk : Int32) (k : ClassId) (f0 f1 f2 f3 : Int32) (h0 : Heap) (n0 : Nat) (Z0 : n0 ≤ h0.size) (V : Arv Z h0 a1 k .int 4 [.int f0, .int f1, .int f2, .int f3] (.int 0)) (hf1 : f1 < sk) (hf2 : f2 < sk) (hf3 : sk < f3) :
    MetFree l (⟨"java/util/Arrays", "binarySearch0", "([IIII)I"⟩ : MethodName) (head1 (Jvm.Cond.code (⟨"java/util/Arrays", "binarySearch0", "([IIII)I"⟩ : MethodName) jdk_65_method_59_code 8 (some .int) :: ws) ({ frames := 0, cells := 0, slots := 0, locals := 0 } : Room)) (fun a U => a = #[(.ref a1), (.int (0 : Int32)), (.int (4 : Int32)), (.int sk)] ∧ Z.Warmed39 U.vm ∧ U.heap = h0) (fun _ _ _ _ _ => True) (fun _ U o U' => ∃ v L, o = .returned v ∧ Q8 (-(4 : Int32)) h0 n0 v U'.heap L ∧ FrameEnd U o U' L ({ frames := 0, cells := 0, slots := 0, locals := 0 } : Room).cells ({ frames := 0, cells := 0, slots := 0, locals := 0 } : Room).slots) := by
  refine MetFree.of_bodySF (plainFor_of_name pn_8) hisR ?_
  intro p e s m args below meth c s₁ Bd hml0 hP hK
  obtain ⟨rfl, hZ, hh⟩ := hP
  obtain ⟨cl_a1, Ar_a1, q_a1, S_a1, N_a1, H_a1, G_a1⟩ := V
  have hc12_1 : ¬ ((3 : Int32) < (0 : Int32)) := by decide
  have hin27_1 : ¬ ((1 : Int32) < 0 ∨ cl_a1.slots.size ≤ ((1 : Int32)).toNatClampNeg) := inb_of S_a1 ⟨by decide, by decide⟩
  have hat27_1 : cl_a1.slots[((1 : Int32)).toNatClampNeg]? = some (.int f1) := Has.at H_a1 hin27_1 rfl
  have hc33_1 : f1 < sk := hf1
  have hc12_2 : ¬ ((3 : Int32) < (2 : Int32)) := by decide
  have hin27_2 : ¬ ((2 : Int32) < 0 ∨ cl_a1.slots.size ≤ ((2 : Int32)).toNatClampNeg) := inb_of S_a1 ⟨by decide, by decide⟩
  have hat27_2 : cl_a1.slots[((2 : Int32)).toNatClampNeg]? = some (.int f2) := Has.at H_a1 hin27_2 rfl
  have hc33_2 : f2 < sk := hf2
  have hc12_3 : ¬ ((3 : Int32) < (3 : Int32)) := by decide
  have hin27_3 : ¬ ((3 : Int32) < 0 ∨ cl_a1.slots.size ≤ ((3 : Int32)).toNatClampNeg) := inb_of S_a1 ⟨by decide, by decide⟩
  have hat27_3 : cl_a1.slots[((3 : Int32)).toNatClampNeg]? = some (.int f3) := Has.at H_a1 hin27_3 rfl
  have hc33_3 : ¬ (f3 < sk) := own_nlt hf3
  have hc48_1 : sk < f3 := hf3
  have hc12_4 : (2 : Int32) < (3 : Int32) := by decide
  have hx := Bd.exec
  have hby := Bd.bytes
  have hml : c.maxLocals = 8 := hml0
  have hown : s.vm.findClass "java/util/Arrays" = some m.cls := findClass_of_methodNamed Bd.named
  have hnm := (name_of_methodNamed Bd.named Bd.method).1
  have X0 : Stand p l e ({ frames := 0, cells := 0, slots := 0, locals := 0 } : Room) s m #[(.ref a1), (.int (0 : Int32)), (.int (4 : Int32)), (.int sk)] below meth c s₁ [] 0 0 := Stand.of_body Bd
  have e0 : s₁.heap = h0 := by rw [← hh, Bd.state]; rfl
  have N0 := Fr.nil n0
  have pre0 : ∀ t, Steps p.tables e below (s₁.setTop (mkF m 0 #[.val (.ref a1), .val (.int (0 : Int32)), .val (.int (4 : Int32)), .val (.int sk), .unset, .unset, .unset, .unset] [])) t → Steps p.tables e below (s₁.setTop (entryFrame m #[(.ref a1), (.int (0 : Int32)), (.int (4 : Int32)), (.int sk)] 8)) t := fun t k => castTop (ef_8 m a1 (0 : Int32) (4 : Int32) sk) k
  -- 3. LAWS

  obtain ⟨fs, hr, hrun, hended, hW, hsame⟩ := X0.leave (v := some (.int (-(4 : Int32)))) (fun h => by rw [Bd.returns] at h; cases h)
  refine ⟨_, _, pre0 _ ?_, hrun, hended, _, _, rfl, ?_, ⟨_, rfl⟩, hW, hsame.mono (by decide) (by decide)⟩
  -- 4. STEPS
  · show Steps p.tables e below (s₁.setTop (mkF m 0 #[.val (.ref a1), .val (.int (0 : Int32)), .val (.int (4 : Int32)), .val (.int sk), .unset, .unset, .unset, .unset] [])) _
    refine XS.iloadN X0.here hx rfl (hb hby d8_0) rfl ?_
    show Steps p.tables e below (s₁.setTop (mkF m 1 #[.val (.ref a1), .val (.int (0 : Int32)), .val (.int (4 : Int32)), .val (.int sk), .unset, .unset, .unset, .unset] [(.int (0 : Int32))])) _
    refine XS.istore X0.here hx rfl (hb hby d8_1) rfl (l' := #[.val (.ref a1), .val (.int (0 : Int32)), .val (.int (4 : Int32)), .val (.int sk), .val (.int (0 : Int32)), .unset, .unset, .unset]) rfl ?_
    show Steps p.tables e below (s₁.setTop (mkF m 3 #[.val (.ref a1), .val (.int (0 : Int32)), .val (.int (4 : Int32)), .val (.int sk), .val (.int (0 : Int32)), .unset, .unset, .unset] [])) _
    refine XS.iloadN X0.here hx rfl (hb hby d8_3) rfl ?_
    show Steps p.tables e below (s₁.setTop (mkF m 4 #[.val (.ref a1), .val (.int (0 : Int32)), .val (.int (4 : Int32)), .val (.int sk), .val (.int (0 : Int32)), .unset, .unset, .unset] [(.int (4 : Int32))])) _
    refine XS.iconst X0.here hx rfl (hb hby d8_4) ?_
    show Steps p.tables e below (s₁.setTop (mkF m 5 #[.val (.ref a1), .val (.int (0 : Int32)), .val (.int (4 : Int32)), .val (.int sk), .val (.int (0 : Int32)), .unset, .unset, .unset] [(.int (1 : Int32)), (.int (4 : Int32))])) _
    refine XS.isub X0.here hx rfl (hb hby d8_5) rfl ?_
    show Steps p.tables e below (s₁.setTop (mkF m 6 #[.val (.ref a1), .val (.int (0 : Int32)), .val (.int (4 : Int32)), .val (.int sk), .val (.int (0 : Int32)), .unset, .unset, .unset] [(.int (3 : Int32))])) _
    refine XS.istore X0.here hx rfl (hb hby d8_6) rfl (l' := #[.val (.ref a1), .val (.int (0 : Int32)), .val (.int (4 : Int32)), .val (.int sk), .val (.int (0 : Int32)), .val (.int (3 : Int32)), .unset, .unset]) rfl ?_
    show Steps p.tables e below (s₁.setTop (mkF m 8 #[.val (.ref a1), .val (.int (0 : Int32)), .val (.int (4 : Int32)), .val (.int sk), .val (.int (0 : Int32)), .val (.int (3 : Int32)), .unset, .unset] [])) _
    refine XS.iload X0.here hx rfl (hb hby d8_8) rfl ?_
    show Steps p.tables e below (s₁.setTop (mkF m 10 #[.val (.ref a1), .val (.int (0 : Int32)), .val (.int (4 : Int32)), .val (.int sk), .val (.int (0 : Int32)), .val (.int (3 : Int32)), .unset, .unset] [(.int (0 : Int32))])) _
    refine XS.iload X0.here hx rfl (hb hby d8_10) rfl ?_
    show Steps p.tables e below (s₁.setTop (mkF m 12 #[.val (.ref a1), .val (.int (0 : Int32)), .val (.int (4 : Int32)), .val (.int sk), .val (.int (0 : Int32)), .val (.int (3 : Int32)), .unset, .unset] [(.int (3 : Int32)), (.int (0 : Int32))])) _
    refine XS.icmpNo X0.here hx rfl (hb hby d8_12) rfl (flt hc12_1).2.2.1 ?_
    show Steps p.tables e below (s₁.setTop (mkF m 15 #[.val (.ref a1), .val (.int (0 : Int32)), .val (.int (4 : Int32)), .val (.int sk), .val (.int (0 : Int32)), .val (.int (3 : Int32)), .unset, .unset] [])) _
    refine XS.iload X0.here hx rfl (hb hby d8_15) rfl ?_
    show Steps p.tables e below (s₁.setTop (mkF m 17 #[.val (.ref a1), .val (.int (0 : Int32)), .val (.int (4 : Int32)), .val (.int sk), .val (.int (0 : Int32)), .val (.int (3 : Int32)), .unset, .unset] [(.int (0 : Int32))])) _
    refine XS.iload X0.here hx rfl (hb hby d8_17) rfl ?_
    show Steps p.tables e below (s₁.setTop (mkF m 19 #[.val (.ref a1), .val (.int (0 : Int32)), .val (.int (4 : Int32)), .val (.int sk), .val (.int (0 : Int32)), .val (.int (3 : Int32)), .unset, .unset] [(.int (3 : Int32)), (.int (0 : Int32))])) _
    refine XS.iadd X0.here hx rfl (hb hby d8_19) rfl ?_
    show Steps p.tables e below (s₁.setTop (mkF m 20 #[.val (.ref a1), .val (.int (0 : Int32)), .val (.int (4 : Int32)), .val (.int sk), .val (.int (0 : Int32)), .val (.int (3 : Int32)), .unset, .unset] [(.int (3 : Int32))])) _
    refine XS.iconst X0.here hx rfl (hb hby d8_20) ?_
    show Steps p.tables e below (s₁.setTop (mkF m 21 #[.val (.ref a1), .val (.int (0 : Int32)), .val (.int (4 : Int32)), .val (.int sk), .val (.int (0 : Int32)), .val (.int (3 : Int32)), .unset, .unset] [(.int (1 : Int32)), (.int (3 : Int32))])) _
    refine XS.iushr X0.here hx rfl (hb hby d8_21) rfl ?_
    show Steps p.tables e below (s₁.setTop (mkF m 22 #[.val (.ref a1), .val (.int (0 : Int32)), .val (.int (4 : Int32)), .val (.int sk), .val (.int (0 : Int32)), .val (.int (3 : Int32)), .unset, .unset] [(.int (1 : Int32))])) _
    refine XS.istore X0.here hx rfl (hb hby d8_22) rfl (l' := #[.val (.ref a1), .val (.int (0 : Int32)), .val (.int (4 : Int32)), .val (.int sk), .val (.int (0 : Int32)), .val (.int (3 : Int32)), .val (.int (1 : Int32)), .unset]) rfl ?_
    show Steps p.tables e below (s₁.setTop (mkF m 24 #[.val (.ref a1), .val (.int (0 : Int32)), .val (.int (4 : Int32)), .val (.int sk), .val (.int (0 : Int32)), .val (.int (3 : Int32)), .val (.int (1 : Int32)), .unset] [])) _
    refine XS.aloadN X0.here hx rfl (hb hby d8_24) rfl rfl ?_
    show Steps p.tables e below (s₁.setTop (mkF m 25 #[.val (.ref a1), .val (.int (0 : Int32)), .val (.int (4 : Int32)), .val (.int sk), .val (.int (0 : Int32)), .val (.int (3 : Int32)), .val (.int (1 : Int32)), .unset] [(.ref a1)])) _
    refine XS.iload X0.here hx rfl (hb hby d8_25) rfl ?_
    show Steps p.tables e below (s₁.setTop (mkF m 27 #[.val (.ref a1), .val (.int (0 : Int32)), .val (.int (4 : Int32)), .val (.int sk), .val (.int (0 : Int32)), .val (.int (3 : Int32)), .val (.int (1 : Int32)), .unset] [(.int (1 : Int32)), (.ref a1)])) _
    refine X0.iaload hx (j := (1 : Int32)) (v := (.int f1)) (by rw [e0]; exact Ar_a1.1) (State.isArrayOf_alike hZ.alike Ar_a1.2.1) Ar_a1.2.2 hin27_1 hat27_1 (g := (mkF m 27 #[.val (.ref a1), .val (.int (0 : Int32)), .val (.int (4 : Int32)), .val (.int sk), .val (.int (0 : Int32)), .val (.int (3 : Int32)), .val (.int (1 : Int32)), .unset] [(.int (1 : Int32)), (.ref a1)])) rfl rfl (hb hby d8_27) _ ?_
    show Steps p.tables e below (s₁.setTop (mkF m 28 #[.val (.ref a1), .val (.int (0 : Int32)), .val (.int (4 : Int32)), .val (.int sk), .val (.int (0 : Int32)), .val (.int (3 : Int32)), .val (.int (1 : Int32)), .unset] [(.int f1)])) _
    refine XS.istore X0.here hx rfl (hb hby d8_28) rfl (l' := #[.val (.ref a1), .val (.int (0 : Int32)), .val (.int (4 : Int32)), .val (.int sk), .val (.int (0 : Int32)), .val (.int (3 : Int32)), .val (.int (1 : Int32)), .val (.int f1)]) rfl ?_
    show Steps p.tables e below (s₁.setTop (mkF m 30 #[.val (.ref a1), .val (.int (0 : Int32)), .val (.int (4 : Int32)), .val (.int sk), .val (.int (0 : Int32)), .val (.int (3 : Int32)), .val (.int (1 : Int32)), .val (.int f1)] [])) _
    refine XS.iload X0.here hx rfl (hb hby d8_30) rfl ?_
    show Steps p.tables e below (s₁.setTop (mkF m 32 #[.val (.ref a1), .val (.int (0 : Int32)), .val (.int (4 : Int32)), .val (.int sk), .val (.int (0 : Int32)), .val (.int (3 : Int32)), .val (.int (1 : Int32)), .val (.int f1)] [(.int f1)])) _
    refine XS.iloadN X0.here hx rfl (hb hby d8_32) rfl ?_
    show Steps p.tables e below (s₁.setTop (mkF m 33 #[.val (.ref a1), .val (.int (0 : Int32)), .val (.int (4 : Int32)), .val (.int sk), .val (.int (0 : Int32)), .val (.int (3 : Int32)), .val (.int (1 : Int32)), .val (.int f1)] [(.int sk), (.int f1)])) _
    refine XS.icmpNo X0.here hx rfl (hb hby d8_33) rfl (tlt hc33_1).2.1 ?_
    show Steps p.tables e below (s₁.setTop (mkF m 36 #[.val (.ref a1), .val (.int (0 : Int32)), .val (.int (4 : Int32)), .val (.int sk), .val (.int (0 : Int32)), .val (.int (3 : Int32)), .val (.int (1 : Int32)), .val (.int f1)] [])) _
    refine XS.iload X0.here hx rfl (hb hby d8_36) rfl ?_
    show Steps p.tables e below (s₁.setTop (mkF m 38 #[.val (.ref a1), .val (.int (0 : Int32)), .val (.int (4 : Int32)), .val (.int sk), .val (.int (0 : Int32)), .val (.int (3 : Int32)), .val (.int (1 : Int32)), .val (.int f1)] [(.int (1 : Int32))])) _
    refine XS.iconst X0.here hx rfl (hb hby d8_38) ?_
    show Steps p.tables e below (s₁.setTop (mkF m 39 #[.val (.ref a1), .val (.int (0 : Int32)), .val (.int (4 : Int32)), .val (.int sk), .val (.int (0 : Int32)), .val (.int (3 : Int32)), .val (.int (1 : Int32)), .val (.int f1)] [(.int (1 : Int32)), (.int (1 : Int32))])) _
    refine XS.iadd X0.here hx rfl (hb hby d8_39) rfl ?_
    show Steps p.tables e below (s₁.setTop (mkF m 40 #[.val (.ref a1), .val (.int (0 : Int32)), .val (.int (4 : Int32)), .val (.int sk), .val (.int (0 : Int32)), .val (.int (3 : Int32)), .val (.int (1 : Int32)), .val (.int f1)] [(.int (2 : Int32))])) _
    refine XS.istore X0.here hx rfl (hb hby d8_40) rfl (l' := #[.val (.ref a1), .val (.int (0 : Int32)), .val (.int (4 : Int32)), .val (.int sk), .val (.int (2 : Int32)), .val (.int (3 : Int32)), .val (.int (1 : Int32)), .val (.int f1)]) rfl ?_
    show Steps p.tables e below (s₁.setTop (mkF m 42 #[.val (.ref a1), .val (.int (0 : Int32)), .val (.int (4 : Int32)), .val (.int sk), .val (.int (2 : Int32)), .val (.int (3 : Int32)), .val (.int (1 : Int32)), .val (.int f1)] [])) _
    refine XS.goto X0.here hx rfl (pc0 := 42) (pc' := 63) rfl (hb hby d8_42) (by decide) (by decide) ?_
    show Steps p.tables e below (s₁.setTop (mkF m 63 #[.val (.ref a1), .val (.int (0 : Int32)), .val (.int (4 : Int32)), .val (.int sk), .val (.int (2 : Int32)), .val (.int (3 : Int32)), .val (.int (1 : Int32)), .val (.int f1)] [])) _
    refine XS.goto X0.here hx rfl (pc0 := 63) (pc' := 8) rfl (hb hby d8_63) (by decide) (by decide) ?_
    show Steps p.tables e below (s₁.setTop (mkF m 8 #[.val (.ref a1), .val (.int (0 : Int32)), .val (.int (4 : Int32)), .val (.int sk), .val (.int (2 : Int32)), .val (.int (3 : Int32)), .val (.int (1 : Int32)), .val (.int f1)] [])) _
    refine XS.iload X0.here hx rfl (hb hby d8_8) rfl ?_
    show Steps p.tables e below (s₁.setTop (mkF m 10 #[.val (.ref a1), .val (.int (0 : Int32)), .val (.int (4 : Int32)), .val (.int sk), .val (.int (2 : Int32)), .val (.int (3 : Int32)), .val (.int (1 : Int32)), .val (.int f1)] [(.int (2 : Int32))])) _
    refine XS.iload X0.here hx rfl (hb hby d8_10) rfl ?_
    show Steps p.tables e below (s₁.setTop (mkF m 12 #[.val (.ref a1), .val (.int (0 : Int32)), .val (.int (4 : Int32)), .val (.int sk), .val (.int (2 : Int32)), .val (.int (3 : Int32)), .val (.int (1 : Int32)), .val (.int f1)] [(.int (3 : Int32)), (.int (2 : Int32))])) _
    refine XS.icmpNo X0.here hx rfl (hb hby d8_12) rfl (flt hc12_2).2.2.1 ?_
    show Steps p.tables e below (s₁.setTop (mkF m 15 #[.val (.ref a1), .val (.int (0 : Int32)), .val (.int (4 : Int32)), .val (.int sk), .val (.int (2 : Int32)), .val (.int (3 : Int32)), .val (.int (1 : Int32)), .val (.int f1)] [])) _
    refine XS.iload X0.here hx rfl (hb hby d8_15) rfl ?_
    show Steps p.tables e below (s₁.setTop (mkF m 17 #[.val (.ref a1), .val (.int (0 : Int32)), .val (.int (4 : Int32)), .val (.int sk), .val (.int (2 : Int32)), .val (.int (3 : Int32)), .val (.int (1 : Int32)), .val (.int f1)] [(.int (2 : Int32))])) _
    refine XS.iload X0.here hx rfl (hb hby d8_17) rfl ?_
    show Steps p.tables e below (s₁.setTop (mkF m 19 #[.val (.ref a1), .val (.int (0 : Int32)), .val (.int (4 : Int32)), .val (.int sk), .val (.int (2 : Int32)), .val (.int (3 : Int32)), .val (.int (1 : Int32)), .val (.int f1)] [(.int (3 : Int32)), (.int (2 : Int32))])) _
    refine XS.iadd X0.here hx rfl (hb hby d8_19) rfl ?_
    show Steps p.tables e below (s₁.setTop (mkF m 20 #[.val (.ref a1), .val (.int (0 : Int32)), .val (.int (4 : Int32)), .val (.int sk), .val (.int (2 : Int32)), .val (.int (3 : Int32)), .val (.int (1 : Int32)), .val (.int f1)] [(.int (5 : Int32))])) _
    refine XS.iconst X0.here hx rfl (hb hby d8_20) ?_
    show Steps p.tables e below (s₁.setTop (mkF m 21 #[.val (.ref a1), .val (.int (0 : Int32)), .val (.int (4 : Int32)), .val (.int sk), .val (.int (2 : Int32)), .val (.int (3 : Int32)), .val (.int (1 : Int32)), .val (.int f1)] [(.int (1 : Int32)), (.int (5 : Int32))])) _
    refine XS.iushr X0.here hx rfl (hb hby d8_21) rfl ?_
    show Steps p.tables e below (s₁.setTop (mkF m 22 #[.val (.ref a1), .val (.int (0 : Int32)), .val (.int (4 : Int32)), .val (.int sk), .val (.int (2 : Int32)), .val (.int (3 : Int32)), .val (.int (1 : Int32)), .val (.int f1)] [(.int (2 : Int32))])) _
    refine XS.istore X0.here hx rfl (hb hby d8_22) rfl (l' := #[.val (.ref a1), .val (.int (0 : Int32)), .val (.int (4 : Int32)), .val (.int sk), .val (.int (2 : Int32)), .val (.int (3 : Int32)), .val (.int (2 : Int32)), .val (.int f1)]) rfl ?_
    show Steps p.tables e below (s₁.setTop (mkF m 24 #[.val (.ref a1), .val (.int (0 : Int32)), .val (.int (4 : Int32)), .val (.int sk), .val (.int (2 : Int32)), .val (.int (3 : Int32)), .val (.int (2 : Int32)), .val (.int f1)] [])) _
    refine XS.aloadN X0.here hx rfl (hb hby d8_24) rfl rfl ?_
    show Steps p.tables e below (s₁.setTop (mkF m 25 #[.val (.ref a1), .val (.int (0 : Int32)), .val (.int (4 : Int32)), .val (.int sk), .val (.int (2 : Int32)), .val (.int (3 : Int32)), .val (.int (2 : Int32)), .val (.int f1)] [(.ref a1)])) _
    refine XS.iload X0.here hx rfl (hb hby d8_25) rfl ?_
    show Steps p.tables e below (s₁.setTop (mkF m 27 #[.val (.ref a1), .val (.int (0 : Int32)), .val (.int (4 : Int32)), .val (.int sk), .val (.int (2 : Int32)), .val (.int (3 : Int32)), .val (.int (2 : Int32)), .val (.int f1)] [(.int (2 : Int32)), (.ref a1)])) _
    refine X0.iaload hx (j := (2 : Int32)) (v := (.int f2)) (by rw [e0]; exact Ar_a1.1) (State.isArrayOf_alike hZ.alike Ar_a1.2.1) Ar_a1.2.2 hin27_2 hat27_2 (g := (mkF m 27 #[.val (.ref a1), .val (.int (0 : Int32)), .val (.int (4 : Int32)), .val (.int sk), .val (.int (2 : Int32)), .val (.int (3 : Int32)), .val (.int (2 : Int32)), .val (.int f1)] [(.int (2 : Int32)), (.ref a1)])) rfl rfl (hb hby d8_27) _ ?_
    show Steps p.tables e below (s₁.setTop (mkF m 28 #[.val (.ref a1), .val (.int (0 : Int32)), .val (.int (4 : Int32)), .val (.int sk), .val (.int (2 : Int32)), .val (.int (3 : Int32)), .val (.int (2 : Int32)), .val (.int f1)] [(.int f2)])) _
    refine XS.istore X0.here hx rfl (hb hby d8_28) rfl (l' := #[.val (.ref a1), .val (.int (0 : Int32)), .val (.int (4 : Int32)), .val (.int sk), .val (.int (2 : Int32)), .val (.int (3 : Int32)), .val (.int (2 : Int32)), .val (.int f2)]) rfl ?_
    show Steps p.tables e below (s₁.setTop (mkF m 30 #[.val (.ref a1), .val (.int (0 : Int32)), .val (.int (4 : Int32)), .val (.int sk), .val (.int (2 : Int32)), .val (.int (3 : Int32)), .val (.int (2 : Int32)), .val (.int f2)] [])) _
    refine XS.iload X0.here hx rfl (hb hby d8_30) rfl ?_
    show Steps p.tables e below (s₁.setTop (mkF m 32 #[.val (.ref a1), .val (.int (0 : Int32)), .val (.int (4 : Int32)), .val (.int sk), .val (.int (2 : Int32)), .val (.int (3 : Int32)), .val (.int (2 : Int32)), .val (.int f2)] [(.int f2)])) _
    refine XS.iloadN X0.here hx rfl (hb hby d8_32) rfl ?_
    show Steps p.tables e below (s₁.setTop (mkF m 33 #[.val (.ref a1), .val (.int (0 : Int32)), .val (.int (4 : Int32)), .val (.int sk), .val (.int (2 : Int32)), .val (.int (3 : Int32)), .val (.int (2 : Int32)), .val (.int f2)] [(.int sk), (.int f2)])) _
    refine XS.icmpNo X0.here hx rfl (hb hby d8_33) rfl (tlt hc33_2).2.1 ?_
    show Steps p.tables e below (s₁.setTop (mkF m 36 #[.val (.ref a1), .val (.int (0 : Int32)), .val (.int (4 : Int32)), .val (.int sk), .val (.int (2 : Int32)), .val (.int (3 : Int32)), .val (.int (2 : Int32)), .val (.int f2)] [])) _
    refine XS.iload X0.here hx rfl (hb hby d8_36) rfl ?_
    show Steps p.tables e below (s₁.setTop (mkF m 38 #[.val (.ref a1), .val (.int (0 : Int32)), .val (.int (4 : Int32)), .val (.int sk), .val (.int (2 : Int32)), .val (.int (3 : Int32)), .val (.int (2 : Int32)), .val (.int f2)] [(.int (2 : Int32))])) _
    refine XS.iconst X0.here hx rfl (hb hby d8_38) ?_
    show Steps p.tables e below (s₁.setTop (mkF m 39 #[.val (.ref a1), .val (.int (0 : Int32)), .val (.int (4 : Int32)), .val (.int sk), .val (.int (2 : Int32)), .val (.int (3 : Int32)), .val (.int (2 : Int32)), .val (.int f2)] [(.int (1 : Int32)), (.int (2 : Int32))])) _
    refine XS.iadd X0.here hx rfl (hb hby d8_39) rfl ?_
    show Steps p.tables e below (s₁.setTop (mkF m 40 #[.val (.ref a1), .val (.int (0 : Int32)), .val (.int (4 : Int32)), .val (.int sk), .val (.int (2 : Int32)), .val (.int (3 : Int32)), .val (.int (2 : Int32)), .val (.int f2)] [(.int (3 : Int32))])) _
    refine XS.istore X0.here hx rfl (hb hby d8_40) rfl (l' := #[.val (.ref a1), .val (.int (0 : Int32)), .val (.int (4 : Int32)), .val (.int sk), .val (.int (3 : Int32)), .val (.int (3 : Int32)), .val (.int (2 : Int32)), .val (.int f2)]) rfl ?_
    show Steps p.tables e below (s₁.setTop (mkF m 42 #[.val (.ref a1), .val (.int (0 : Int32)), .val (.int (4 : Int32)), .val (.int sk), .val (.int (3 : Int32)), .val (.int (3 : Int32)), .val (.int (2 : Int32)), .val (.int f2)] [])) _
    refine XS.goto X0.here hx rfl (pc0 := 42) (pc' := 63) rfl (hb hby d8_42) (by decide) (by decide) ?_
    show Steps p.tables e below (s₁.setTop (mkF m 63 #[.val (.ref a1), .val (.int (0 : Int32)), .val (.int (4 : Int32)), .val (.int sk), .val (.int (3 : Int32)), .val (.int (3 : Int32)), .val (.int (2 : Int32)), .val (.int f2)] [])) _
    refine XS.goto X0.here hx rfl (pc0 := 63) (pc' := 8) rfl (hb hby d8_63) (by decide) (by decide) ?_
    show Steps p.tables e below (s₁.setTop (mkF m 8 #[.val (.ref a1), .val (.int (0 : Int32)), .val (.int (4 : Int32)), .val (.int sk), .val (.int (3 : Int32)), .val (.int (3 : Int32)), .val (.int (2 : Int32)), .val (.int f2)] [])) _
    refine XS.iload X0.here hx rfl (hb hby d8_8) rfl ?_
    show Steps p.tables e below (s₁.setTop (mkF m 10 #[.val (.ref a1), .val (.int (0 : Int32)), .val (.int (4 : Int32)), .val (.int sk), .val (.int (3 : Int32)), .val (.int (3 : Int32)), .val (.int (2 : Int32)), .val (.int f2)] [(.int (3 : Int32))])) _
    refine XS.iload X0.here hx rfl (hb hby d8_10) rfl ?_
    show Steps p.tables e below (s₁.setTop (mkF m 12 #[.val (.ref a1), .val (.int (0 : Int32)), .val (.int (4 : Int32)), .val (.int sk), .val (.int (3 : Int32)), .val (.int (3 : Int32)), .val (.int (2 : Int32)), .val (.int f2)] [(.int (3 : Int32)), (.int (3 : Int32))])) _
    refine XS.icmpNo X0.here hx rfl (hb hby d8_12) rfl (flt hc12_3).2.2.1 ?_
    show Steps p.tables e below (s₁.setTop (mkF m 15 #[.val (.ref a1), .val (.int (0 : Int32)), .val (.int (4 : Int32)), .val (.int sk), .val (.int (3 : Int32)), .val (.int (3 : Int32)), .val (.int (2 : Int32)), .val (.int f2)] [])) _
    refine XS.iload X0.here hx rfl (hb hby d8_15) rfl ?_
    show Steps p.tables e below (s₁.setTop (mkF m 17 #[.val (.ref a1), .val (.int (0 : Int32)), .val (.int (4 : Int32)), .val (.int sk), .val (.int (3 : Int32)), .val (.int (3 : Int32)), .val (.int (2 : Int32)), .val (.int f2)] [(.int (3 : Int32))])) _
    refine XS.iload X0.here hx rfl (hb hby d8_17) rfl ?_
    show Steps p.tables e below (s₁.setTop (mkF m 19 #[.val (.ref a1), .val (.int (0 : Int32)), .val (.int (4 : Int32)), .val (.int sk), .val (.int (3 : Int32)), .val (.int (3 : Int32)), .val (.int (2 : Int32)), .val (.int f2)] [(.int (3 : Int32)), (.int (3 : Int32))])) _
    refine XS.iadd X0.here hx rfl (hb hby d8_19) rfl ?_
    show Steps p.tables e below (s₁.setTop (mkF m 20 #[.val (.ref a1), .val (.int (0 : Int32)), .val (.int (4 : Int32)), .val (.int sk), .val (.int (3 : Int32)), .val (.int (3 : Int32)), .val (.int (2 : Int32)), .val (.int f2)] [(.int (6 : Int32))])) _
    refine XS.iconst X0.here hx rfl (hb hby d8_20) ?_
    show Steps p.tables e below (s₁.setTop (mkF m 21 #[.val (.ref a1), .val (.int (0 : Int32)), .val (.int (4 : Int32)), .val (.int sk), .val (.int (3 : Int32)), .val (.int (3 : Int32)), .val (.int (2 : Int32)), .val (.int f2)] [(.int (1 : Int32)), (.int (6 : Int32))])) _
    refine XS.iushr X0.here hx rfl (hb hby d8_21) rfl ?_
    show Steps p.tables e below (s₁.setTop (mkF m 22 #[.val (.ref a1), .val (.int (0 : Int32)), .val (.int (4 : Int32)), .val (.int sk), .val (.int (3 : Int32)), .val (.int (3 : Int32)), .val (.int (2 : Int32)), .val (.int f2)] [(.int (3 : Int32))])) _
    refine XS.istore X0.here hx rfl (hb hby d8_22) rfl (l' := #[.val (.ref a1), .val (.int (0 : Int32)), .val (.int (4 : Int32)), .val (.int sk), .val (.int (3 : Int32)), .val (.int (3 : Int32)), .val (.int (3 : Int32)), .val (.int f2)]) rfl ?_
    show Steps p.tables e below (s₁.setTop (mkF m 24 #[.val (.ref a1), .val (.int (0 : Int32)), .val (.int (4 : Int32)), .val (.int sk), .val (.int (3 : Int32)), .val (.int (3 : Int32)), .val (.int (3 : Int32)), .val (.int f2)] [])) _
    refine XS.aloadN X0.here hx rfl (hb hby d8_24) rfl rfl ?_
    show Steps p.tables e below (s₁.setTop (mkF m 25 #[.val (.ref a1), .val (.int (0 : Int32)), .val (.int (4 : Int32)), .val (.int sk), .val (.int (3 : Int32)), .val (.int (3 : Int32)), .val (.int (3 : Int32)), .val (.int f2)] [(.ref a1)])) _
    refine XS.iload X0.here hx rfl (hb hby d8_25) rfl ?_
    show Steps p.tables e below (s₁.setTop (mkF m 27 #[.val (.ref a1), .val (.int (0 : Int32)), .val (.int (4 : Int32)), .val (.int sk), .val (.int (3 : Int32)), .val (.int (3 : Int32)), .val (.int (3 : Int32)), .val (.int f2)] [(.int (3 : Int32)), (.ref a1)])) _
    refine X0.iaload hx (j := (3 : Int32)) (v := (.int f3)) (by rw [e0]; exact Ar_a1.1) (State.isArrayOf_alike hZ.alike Ar_a1.2.1) Ar_a1.2.2 hin27_3 hat27_3 (g := (mkF m 27 #[.val (.ref a1), .val (.int (0 : Int32)), .val (.int (4 : Int32)), .val (.int sk), .val (.int (3 : Int32)), .val (.int (3 : Int32)), .val (.int (3 : Int32)), .val (.int f2)] [(.int (3 : Int32)), (.ref a1)])) rfl rfl (hb hby d8_27) _ ?_
    show Steps p.tables e below (s₁.setTop (mkF m 28 #[.val (.ref a1), .val (.int (0 : Int32)), .val (.int (4 : Int32)), .val (.int sk), .val (.int (3 : Int32)), .val (.int (3 : Int32)), .val (.int (3 : Int32)), .val (.int f2)] [(.int f3)])) _
    refine XS.istore X0.here hx rfl (hb hby d8_28) rfl (l' := #[.val (.ref a1), .val (.int (0 : Int32)), .val (.int (4 : Int32)), .val (.int sk), .val (.int (3 : Int32)), .val (.int (3 : Int32)), .val (.int (3 : Int32)), .val (.int f3)]) rfl ?_
    show Steps p.tables e below (s₁.setTop (mkF m 30 #[.val (.ref a1), .val (.int (0 : Int32)), .val (.int (4 : Int32)), .val (.int sk), .val (.int (3 : Int32)), .val (.int (3 : Int32)), .val (.int (3 : Int32)), .val (.int f3)] [])) _
    refine XS.iload X0.here hx rfl (hb hby d8_30) rfl ?_
    show Steps p.tables e below (s₁.setTop (mkF m 32 #[.val (.ref a1), .val (.int (0 : Int32)), .val (.int (4 : Int32)), .val (.int sk), .val (.int (3 : Int32)), .val (.int (3 : Int32)), .val (.int (3 : Int32)), .val (.int f3)] [(.int f3)])) _
    refine XS.iloadN X0.here hx rfl (hb hby d8_32) rfl ?_
    show Steps p.tables e below (s₁.setTop (mkF m 33 #[.val (.ref a1), .val (.int (0 : Int32)), .val (.int (4 : Int32)), .val (.int sk), .val (.int (3 : Int32)), .val (.int (3 : Int32)), .val (.int (3 : Int32)), .val (.int f3)] [(.int sk), (.int f3)])) _
    refine XS.icmpYes X0.here hx rfl (pc0 := 33) (pc' := 45) rfl (hb hby d8_33) rfl (flt hc33_3).2.1 (by decide) (by decide) ?_
    show Steps p.tables e below (s₁.setTop (mkF m 45 #[.val (.ref a1), .val (.int (0 : Int32)), .val (.int (4 : Int32)), .val (.int sk), .val (.int (3 : Int32)), .val (.int (3 : Int32)), .val (.int (3 : Int32)), .val (.int f3)] [])) _
    refine XS.iload X0.here hx rfl (hb hby d8_45) rfl ?_
    show Steps p.tables e below (s₁.setTop (mkF m 47 #[.val (.ref a1), .val (.int (0 : Int32)), .val (.int (4 : Int32)), .val (.int sk), .val (.int (3 : Int32)), .val (.int (3 : Int32)), .val (.int (3 : Int32)), .val (.int f3)] [(.int f3)])) _
    refine XS.iloadN X0.here hx rfl (hb hby d8_47) rfl ?_
    show Steps p.tables e below (s₁.setTop (mkF m 48 #[.val (.ref a1), .val (.int (0 : Int32)), .val (.int (4 : Int32)), .val (.int sk), .val (.int (3 : Int32)), .val (.int (3 : Int32)), .val (.int (3 : Int32)), .val (.int f3)] [(.int sk), (.int f3)])) _
    refine XS.icmpNo X0.here hx rfl (hb hby d8_48) rfl (tlt hc48_1).2.2.2 ?_
    show Steps p.tables e below (s₁.setTop (mkF m 51 #[.val (.ref a1), .val (.int (0 : Int32)), .val (.int (4 : Int32)), .val (.int sk), .val (.int (3 : Int32)), .val (.int (3 : Int32)), .val (.int (3 : Int32)), .val (.int f3)] [])) _
    refine XS.iload X0.here hx rfl (hb hby d8_51) rfl ?_
    show Steps p.tables e below (s₁.setTop (mkF m 53 #[.val (.ref a1), .val (.int (0 : Int32)), .val (.int (4 : Int32)), .val (.int sk), .val (.int (3 : Int32)), .val (.int (3 : Int32)), .val (.int (3 : Int32)), .val (.int f3)] [(.int (3 : Int32))])) _
    refine XS.iconst X0.here hx rfl (hb hby d8_53) ?_
    show Steps p.tables e below (s₁.setTop (mkF m 54 #[.val (.ref a1), .val (.int (0 : Int32)), .val (.int (4 : Int32)), .val (.int sk), .val (.int (3 : Int32)), .val (.int (3 : Int32)), .val (.int (3 : Int32)), .val (.int f3)] [(.int (1 : Int32)), (.int (3 : Int32))])) _
    refine XS.isub X0.here hx rfl (hb hby d8_54) rfl ?_
    show Steps p.tables e below (s₁.setTop (mkF m 55 #[.val (.ref a1), .val (.int (0 : Int32)), .val (.int (4 : Int32)), .val (.int sk), .val (.int (3 : Int32)), .val (.int (3 : Int32)), .val (.int (3 : Int32)), .val (.int f3)] [(.int (2 : Int32))])) _
    refine XS.istore X0.here hx rfl (hb hby d8_55) rfl (l' := #[.val (.ref a1), .val (.int (0 : Int32)), .val (.int (4 : Int32)), .val (.int sk), .val (.int (3 : Int32)), .val (.int (2 : Int32)), .val (.int (3 : Int32)), .val (.int f3)]) rfl ?_
    show Steps p.tables e below (s₁.setTop (mkF m 57 #[.val (.ref a1), .val (.int (0 : Int32)), .val (.int (4 : Int32)), .val (.int sk), .val (.int (3 : Int32)), .val (.int (2 : Int32)), .val (.int (3 : Int32)), .val (.int f3)] [])) _
    refine XS.goto X0.here hx rfl (pc0 := 57) (pc' := 63) rfl (hb hby d8_57) (by decide) (by decide) ?_
    show Steps p.tables e below (s₁.setTop (mkF m 63 #[.val (.ref a1), .val (.int (0 : Int32)), .val (.int (4 : Int32)), .val (.int sk), .val (.int (3 : Int32)), .val (.int (2 : Int32)), .val (.int (3 : Int32)), .val (.int f3)] [])) _
    refine XS.goto X0.here hx rfl (pc0 := 63) (pc' := 8) rfl (hb hby d8_63) (by decide) (by decide) ?_
    show Steps p.tables e below (s₁.setTop (mkF m 8 #[.val (.ref a1), .val (.int (0 : Int32)), .val (.int (4 : Int32)), .val (.int sk), .val (.int (3 : Int32)), .val (.int (2 : Int32)), .val (.int (3 : Int32)), .val (.int f3)] [])) _
    refine XS.iload X0.here hx rfl (hb hby d8_8) rfl ?_
    show Steps p.tables e below (s₁.setTop (mkF m 10 #[.val (.ref a1), .val (.int (0 : Int32)), .val (.int (4 : Int32)), .val (.int sk), .val (.int (3 : Int32)), .val (.int (2 : Int32)), .val (.int (3 : Int32)), .val (.int f3)] [(.int (3 : Int32))])) _
    refine XS.iload X0.here hx rfl (hb hby d8_10) rfl ?_
    show Steps p.tables e below (s₁.setTop (mkF m 12 #[.val (.ref a1), .val (.int (0 : Int32)), .val (.int (4 : Int32)), .val (.int sk), .val (.int (3 : Int32)), .val (.int (2 : Int32)), .val (.int (3 : Int32)), .val (.int f3)] [(.int (2 : Int32)), (.int (3 : Int32))])) _
    refine XS.icmpYes X0.here hx rfl (pc0 := 12) (pc' := 66) rfl (hb hby d8_12) rfl (tlt hc12_4).2.2.1 (by decide) (by decide) ?_
    show Steps p.tables e below (s₁.setTop (mkF m 66 #[.val (.ref a1), .val (.int (0 : Int32)), .val (.int (4 : Int32)), .val (.int sk), .val (.int (3 : Int32)), .val (.int (2 : Int32)), .val (.int (3 : Int32)), .val (.int f3)] [])) _
    refine XS.iload X0.here hx rfl (hb hby d8_66) rfl ?_
    show Steps p.tables e below (s₁.setTop (mkF m 68 #[.val (.ref a1), .val (.int (0 : Int32)), .val (.int (4 : Int32)), .val (.int sk), .val (.int (3 : Int32)), .val (.int (2 : Int32)), .val (.int (3 : Int32)), .val (.int f3)] [(.int (3 : Int32))])) _
    refine XS.iconst X0.here hx rfl (hb hby d8_68) ?_
    show Steps p.tables e below (s₁.setTop (mkF m 69 #[.val (.ref a1), .val (.int (0 : Int32)), .val (.int (4 : Int32)), .val (.int sk), .val (.int (3 : Int32)), .val (.int (2 : Int32)), .val (.int (3 : Int32)), .val (.int f3)] [(.int (1 : Int32)), (.int (3 : Int32))])) _
    refine XS.iadd X0.here hx rfl (hb hby d8_69) rfl ?_
    show Steps p.tables e below (s₁.setTop (mkF m 70 #[.val (.ref a1), .val (.int (0 : Int32)), .val (.int (4 : Int32)), .val (.int sk), .val (.int (3 : Int32)), .val (.int (2 : Int32)), .val (.int (3 : Int32)), .val (.int f3)] [(.int (4 : Int32))])) _
    refine XS.ineg X0.here hx rfl (hb hby d8_70) rfl ?_
    show Steps p.tables e below (s₁.setTop (mkF m 71 #[.val (.ref a1), .val (.int (0 : Int32)), .val (.int (4 : Int32)), .val (.int sk), .val (.int (3 : Int32)), .val (.int (2 : Int32)), .val (.int (3 : Int32)), .val (.int f3)] [(.int (-(4 : Int32)))])) _
    exact retI X0 hx Bd.returns (hb hby d8_71) hr      -- retI stands in the head ('lawwalk <made dir>' prints it)
  · show Q8 (-(4 : Int32)) h0 n0 _ s₁.heap _
    rw [e0]
    exact ⟨rfl, N0, rfl⟩
set_option maxRecDepth 65536 in
set_option maxHeartbeats 40000000 in
theorem rm8_e2 (l : Launch) (Z : State) (a0 : Array Value) (hw : ∀ d ∈ tables_1, d.before a0 Z = true) (ws : List Jvm.Cond) (a1 : Addr) (sk : Int32) (k : ClassId) (f0 f1 f2 f3 : Int32) (h0 : Heap) (n0 : Nat) (Z0 : n0 ≤ h0.size) (V : Arv Z h0 a1 k .int 4 [.int f0, .int f1, .int f2, .int f3] (.int 0)) (hf1 : f1 < sk) (hf2 : f2 = sk) :
    MetFree l (⟨"java/util/Arrays", "binarySearch0", "([IIII)I"⟩ : MethodName) (head1 (Jvm.Cond.code (⟨"java/util/Arrays", "binarySearch0", "([IIII)I"⟩ : MethodName) jdk_65_method_59_code 8 (some .int) :: ws) ({ frames := 0, cells := 0, slots := 0, locals := 0 } : Room)) (fun a U => a = #[(.ref a1), (.int (0 : Int32)), (.int (4 : Int32)), (.int sk)] ∧ Z.Warmed39 U.vm ∧ U.heap = h0) (fun _ _ _ _ _ => True) (fun _ U o U' => ∃ v L, o = .returned v ∧ Q8 (2 : Int32) h0 n0 v U'.heap L ∧ FrameEnd U o U' L ({ frames := 0, cells := 0, slots := 0, locals := 0 } : Room).cells ({ frames := 0, cells := 0, slots := 0, locals := 0 } : Room).slots) := by
  refine MetFree.of_bodySF (plainFor_of_name pn_8) hisR ?_
  intro p e s m args below meth c s₁ Bd hml0 hP hK
  obtain ⟨rfl, hZ, hh⟩ := hP
  obtain ⟨cl_a1, Ar_a1, q_a1, S_a1, N_a1, H_a1, G_a1⟩ := V
  have hc12_1 : ¬ ((3 : Int32) < (0 : Int32)) := by decide
  have hin27_1 : ¬ ((1 : Int32) < 0 ∨ cl_a1.slots.size ≤ ((1 : Int32)).toNatClampNeg) := inb_of S_a1 ⟨by decide, by decide⟩
  have hat27_1 : cl_a1.slots[((1 : Int32)).toNatClampNeg]? = some (.int f1) := Has.at H_a1 hin27_1 rfl
  have hc33_1 : f1 < sk := hf1
  have hc12_2 : ¬ ((3 : Int32) < (2 : Int32)) := by decide
  have hin27_2 : ¬ ((2 : Int32) < 0 ∨ cl_a1.slots.size ≤ ((2 : Int32)).toNatClampNeg) := inb_of S_a1 ⟨by decide, by decide⟩
  have hat27_2 : cl_a1.slots[((2 : Int32)).toNatClampNeg]? = some (.int f2) := Has.at H_a1 hin27_2 rfl
  have hc33_2 : ¬ (f2 < sk) := fun q => Int32.lt_irrefl (hf2 ▸ q)
  have hc48_1 : ¬ (sk < f2) := fun q => Int32.lt_irrefl (hf2 ▸ q)
  have hx := Bd.exec
  have hby := Bd.bytes
  have hml : c.maxLocals = 8 := hml0
  have hown : s.vm.findClass "java/util/Arrays" = some m.cls := findClass_of_methodNamed Bd.named
  have hnm := (name_of_methodNamed Bd.named Bd.method).1
  have X0 : Stand p l e ({ frames := 0, cells := 0, slots := 0, locals := 0 } : Room) s m #[(.ref a1), (.int (0 : Int32)), (.int (4 : Int32)), (.int sk)] below meth c s₁ [] 0 0 := Stand.of_body Bd
  have e0 : s₁.heap = h0 := by rw [← hh, Bd.state]; rfl
  have N0 := Fr.nil n0
  have pre0 : ∀ t, Steps p.tables e below (s₁.setTop (mkF m 0 #[.val (.ref a1), .val (.int (0 : Int32)), .val (.int (4 : Int32)), .val (.int sk), .unset, .unset, .unset, .unset] [])) t → Steps p.tables e below (s₁.setTop (entryFrame m #[(.ref a1), (.int (0 : Int32)), (.int (4 : Int32)), (.int sk)] 8)) t := fun t k => castTop (ef_8 m a1 (0 : Int32) (4 : Int32) sk) k
  -- 3. LAWS

  obtain ⟨fs, hr, hrun, hended, hW, hsame⟩ := X0.leave (v := some (.int (2 : Int32))) (fun h => by rw [Bd.returns] at h; cases h)
  refine ⟨_, _, pre0 _ ?_, hrun, hended, _, _, rfl, ?_, ⟨_, rfl⟩, hW, hsame.mono (by decide) (by decide)⟩
  -- 4. STEPS
  · show Steps p.tables e below (s₁.setTop (mkF m 0 #[.val (.ref a1), .val (.int (0 : Int32)), .val (.int (4 : Int32)), .val (.int sk), .unset, .unset, .unset, .unset] [])) _
    refine XS.iloadN X0.here hx rfl (hb hby d8_0) rfl ?_
    show Steps p.tables e below (s₁.setTop (mkF m 1 #[.val (.ref a1), .val (.int (0 : Int32)), .val (.int (4 : Int32)), .val (.int sk), .unset, .unset, .unset, .unset] [(.int (0 : Int32))])) _
    refine XS.istore X0.here hx rfl (hb hby d8_1) rfl (l' := #[.val (.ref a1), .val (.int (0 : Int32)), .val (.int (4 : Int32)), .val (.int sk), .val (.int (0 : Int32)), .unset, .unset, .unset]) rfl ?_
    show Steps p.tables e below (s₁.setTop (mkF m 3 #[.val (.ref a1), .val (.int (0 : Int32)), .val (.int (4 : Int32)), .val (.int sk), .val (.int (0 : Int32)), .unset, .unset, .unset] [])) _
    refine XS.iloadN X0.here hx rfl (hb hby d8_3) rfl ?_
    show Steps p.tables e below (s₁.setTop (mkF m 4 #[.val (.ref a1), .val (.int (0 : Int32)), .val (.int (4 : Int32)), .val (.int sk), .val (.int (0 : Int32)), .unset, .unset, .unset] [(.int (4 : Int32))])) _
    refine XS.iconst X0.here hx rfl (hb hby d8_4) ?_
    show Steps p.tables e below (s₁.setTop (mkF m 5 #[.val (.ref a1), .val (.int (0 : Int32)), .val (.int (4 : Int32)), .val (.int sk), .val (.int (0 : Int32)), .unset, .unset, .unset] [(.int (1 : Int32)), (.int (4 : Int32))])) _
    refine XS.isub X0.here hx rfl (hb hby d8_5) rfl ?_
    show Steps p.tables e below (s₁.setTop (mkF m 6 #[.val (.ref a1), .val (.int (0 : Int32)), .val (.int (4 : Int32)), .val (.int sk), .val (.int (0 : Int32)), .unset, .unset, .unset] [(.int (3 : Int32))])) _
    refine XS.istore X0.here hx rfl (hb hby d8_6) rfl (l' := #[.val (.ref a1), .val (.int (0 : Int32)), .val (.int (4 : Int32)), .val (.int sk), .val (.int (0 : Int32)), .val (.int (3 : Int32)), .unset, .unset]) rfl ?_
    show Steps p.tables e below (s₁.setTop (mkF m 8 #[.val (.ref a1), .val (.int (0 : Int32)), .val (.int (4 : Int32)), .val (.int sk), .val (.int (0 : Int32)), .val (.int (3 : Int32)), .unset, .unset] [])) _
    refine XS.iload X0.here hx rfl (hb hby d8_8) rfl ?_
    show Steps p.tables e below (s₁.setTop (mkF m 10 #[.val (.ref a1), .val (.int (0 : Int32)), .val (.int (4 : Int32)), .val (.int sk), .val (.int (0 : Int32)), .val (.int (3 : Int32)), .unset, .unset] [(.int (0 : Int32))])) _
    refine XS.iload X0.here hx rfl (hb hby d8_10) rfl ?_
    show Steps p.tables e below (s₁.setTop (mkF m 12 #[.val (.ref a1), .val (.int (0 : Int32)), .val (.int (4 : Int32)), .val (.int sk), .val (.int (0 : Int32)), .val (.int (3 : Int32)), .unset, .unset] [(.int (3 : Int32)), (.int (0 : Int32))])) _
    refine XS.icmpNo X0.here hx rfl (hb hby d8_12) rfl (flt hc12_1).2.2.1 ?_
    show Steps p.tables e below (s₁.setTop (mkF m 15 #[.val (.ref a1), .val (.int (0 : Int32)), .val (.int (4 : Int32)), .val (.int sk), .val (.int (0 : Int32)), .val (.int (3 : Int32)), .unset, .unset] [])) _
    refine XS.iload X0.here hx rfl (hb hby d8_15) rfl ?_
    show Steps p.tables e below (s₁.setTop (mkF m 17 #[.val (.ref a1), .val (.int (0 : Int32)), .val (.int (4 : Int32)), .val (.int sk), .val (.int (0 : Int32)), .val (.int (3 : Int32)), .unset, .unset] [(.int (0 : Int32))])) _
    refine XS.iload X0.here hx rfl (hb hby d8_17) rfl ?_
    show Steps p.tables e below (s₁.setTop (mkF m 19 #[.val (.ref a1), .val (.int (0 : Int32)), .val (.int (4 : Int32)), .val (.int sk), .val (.int (0 : Int32)), .val (.int (3 : Int32)), .unset, .unset] [(.int (3 : Int32)), (.int (0 : Int32))])) _
    refine XS.iadd X0.here hx rfl (hb hby d8_19) rfl ?_
    show Steps p.tables e below (s₁.setTop (mkF m 20 #[.val (.ref a1), .val (.int (0 : Int32)), .val (.int (4 : Int32)), .val (.int sk), .val (.int (0 : Int32)), .val (.int (3 : Int32)), .unset, .unset] [(.int (3 : Int32))])) _
    refine XS.iconst X0.here hx rfl (hb hby d8_20) ?_
    show Steps p.tables e below (s₁.setTop (mkF m 21 #[.val (.ref a1), .val (.int (0 : Int32)), .val (.int (4 : Int32)), .val (.int sk), .val (.int (0 : Int32)), .val (.int (3 : Int32)), .unset, .unset] [(.int (1 : Int32)), (.int (3 : Int32))])) _
    refine XS.iushr X0.here hx rfl (hb hby d8_21) rfl ?_
    show Steps p.tables e below (s₁.setTop (mkF m 22 #[.val (.ref a1), .val (.int (0 : Int32)), .val (.int (4 : Int32)), .val (.int sk), .val (.int (0 : Int32)), .val (.int (3 : Int32)), .unset, .unset] [(.int (1 : Int32))])) _
    refine XS.istore X0.here hx rfl (hb hby d8_22) rfl (l' := #[.val (.ref a1), .val (.int (0 : Int32)), .val (.int (4 : Int32)), .val (.int sk), .val (.int (0 : Int32)), .val (.int (3 : Int32)), .val (.int (1 : Int32)), .unset]) rfl ?_
    show Steps p.tables e below (s₁.setTop (mkF m 24 #[.val (.ref a1), .val (.int (0 : Int32)), .val (.int (4 : Int32)), .val (.int sk), .val (.int (0 : Int32)), .val (.int (3 : Int32)), .val (.int (1 : Int32)), .unset] [])) _
    refine XS.aloadN X0.here hx rfl (hb hby d8_24) rfl rfl ?_
    show Steps p.tables e below (s₁.setTop (mkF m 25 #[.val (.ref a1), .val (.int (0 : Int32)), .val (.int (4 : Int32)), .val (.int sk), .val (.int (0 : Int32)), .val (.int (3 : Int32)), .val (.int (1 : Int32)), .unset] [(.ref a1)])) _
    refine XS.iload X0.here hx rfl (hb hby d8_25) rfl ?_
    show Steps p.tables e below (s₁.setTop (mkF m 27 #[.val (.ref a1), .val (.int (0 : Int32)), .val (.int (4 : Int32)), .val (.int sk), .val (.int (0 : Int32)), .val (.int (3 : Int32)), .val (.int (1 : Int32)), .unset] [(.int (1 : Int32)), (.ref a1)])) _
    refine X0.iaload hx (j := (1 : Int32)) (v := (.int f1)) (by rw [e0]; exact Ar_a1.1) (State.isArrayOf_alike hZ.alike Ar_a1.2.1) Ar_a1.2.2 hin27_1 hat27_1 (g := (mkF m 27 #[.val (.ref a1), .val (.int (0 : Int32)), .val (.int (4 : Int32)), .val (.int sk), .val (.int (0 : Int32)), .val (.int (3 : Int32)), .val (.int (1 : Int32)), .unset] [(.int (1 : Int32)), (.ref a1)])) rfl rfl (hb hby d8_27) _ ?_
    show Steps p.tables e below (s₁.setTop (mkF m 28 #[.val (.ref a1), .val (.int (0 : Int32)), .val (.int (4 : Int32)), .val (.int sk), .val (.int (0 : Int32)), .val (.int (3 : Int32)), .val (.int (1 : Int32)), .unset] [(.int f1)])) _
    refine XS.istore X0.here hx rfl (hb hby d8_28) rfl (l' := #[.val (.ref a1), .val (.int (0 : Int32)), .val (.int (4 : Int32)), .val (.int sk), .val (.int (0 : Int32)), .val (.int (3 : Int32)), .val (.int (1 : Int32)), .val (.int f1)]) rfl ?_
    show Steps p.tables e below (s₁.setTop (mkF m 30 #[.val (.ref a1), .val (.int (0 : Int32)), .val (.int (4 : Int32)), .val (.int sk), .val (.int (0 : Int32)), .val (.int (3 : Int32)), .val (.int (1 : Int32)), .val (.int f1)] [])) _
    refine XS.iload X0.here hx rfl (hb hby d8_30) rfl ?_
    show Steps p.tables e below (s₁.setTop (mkF m 32 #[.val (.ref a1), .val (.int (0 : Int32)), .val (.int (4 : Int32)), .val (.int sk), .val (.int (0 : Int32)), .val (.int (3 : Int32)), .val (.int (1 : Int32)), .val (.int f1)] [(.int f1)])) _
    refine XS.iloadN X0.here hx rfl (hb hby d8_32) rfl ?_
    show Steps p.tables e below (s₁.setTop (mkF m 33 #[.val (.ref a1), .val (.int (0 : Int32)), .val (.int (4 : Int32)), .val (.int sk), .val (.int (0 : Int32)), .val (.int (3 : Int32)), .val (.int (1 : Int32)), .val (.int f1)] [(.int sk), (.int f1)])) _
    refine XS.icmpNo X0.here hx rfl (hb hby d8_33) rfl (tlt hc33_1).2.1 ?_
    show Steps p.tables e below (s₁.setTop (mkF m 36 #[.val (.ref a1), .val (.int (0 : Int32)), .val (.int (4 : Int32)), .val (.int sk), .val (.int (0 : Int32)), .val (.int (3 : Int32)), .val (.int (1 : Int32)), .val (.int f1)] [])) _
    refine XS.iload X0.here hx rfl (hb hby d8_36) rfl ?_
    show Steps p.tables e below (s₁.setTop (mkF m 38 #[.val (.ref a1), .val (.int (0 : Int32)), .val (.int (4 : Int32)), .val (.int sk), .val (.int (0 : Int32)), .val (.int (3 : Int32)), .val (.int (1 : Int32)), .val (.int f1)] [(.int (1 : Int32))])) _
    refine XS.iconst X0.here hx rfl (hb hby d8_38) ?_
    show Steps p.tables e below (s₁.setTop (mkF m 39 #[.val (.ref a1), .val (.int (0 : Int32)), .val (.int (4 : Int32)), .val (.int sk), .val (.int (0 : Int32)), .val (.int (3 : Int32)), .val (.int (1 : Int32)), .val (.int f1)] [(.int (1 : Int32)), (.int (1 : Int32))])) _
    refine XS.iadd X0.here hx rfl (hb hby d8_39) rfl ?_
    show Steps p.tables e below (s₁.setTop (mkF m 40 #[.val (.ref a1), .val (.int (0 : Int32)), .val (.int (4 : Int32)), .val (.int sk), .val (.int (0 : Int32)), .val (.int (3 : Int32)), .val (.int (1 : Int32)), .val (.int f1)] [(.int (2 : Int32))])) _
    refine XS.istore X0.here hx rfl (hb hby d8_40) rfl (l' := #[.val (.ref a1), .val (.int (0 : Int32)), .val (.int (4 : Int32)), .val (.int sk), .val (.int (2 : Int32)), .val (.int (3 : Int32)), .val (.int (1 : Int32)), .val (.int f1)]) rfl ?_
    show Steps p.tables e below (s₁.setTop (mkF m 42 #[.val (.ref a1), .val (.int (0 : Int32)), .val (.int (4 : Int32)), .val (.int sk), .val (.int (2 : Int32)), .val (.int (3 : Int32)), .val (.int (1 : Int32)), .val (.int f1)] [])) _
    refine XS.goto X0.here hx rfl (pc0 := 42) (pc' := 63) rfl (hb hby d8_42) (by decide) (by decide) ?_
    show Steps p.tables e below (s₁.setTop (mkF m 63 #[.val (.ref a1), .val (.int (0 : Int32)), .val (.int (4 : Int32)), .val (.int sk), .val (.int (2 : Int32)), .val (.int (3 : Int32)), .val (.int (1 : Int32)), .val (.int f1)] [])) _
    refine XS.goto X0.here hx rfl (pc0 := 63) (pc' := 8) rfl (hb hby d8_63) (by decide) (by decide) ?_
    show Steps p.tables e below (s₁.setTop (mkF m 8 #[.val (.ref a1), .val (.int (0 : Int32)), .val (.int (4 : Int32)), .val (.int sk), .val (.int (2 : Int32)), .val (.int (3 : Int32)), .val (.int (1 : Int32)), .val (.int f1)] [])) _
    refine XS.iload X0.here hx rfl (hb hby d8_8) rfl ?_
    show Steps p.tables e below (s₁.setTop (mkF m 10 #[.val (.ref a1), .val (.int (0 : Int32)), .val (.int (4 : Int32)), .val (.int sk), .val (.int (2 : Int32)), .val (.int (3 : Int32)), .val (.int (1 : Int32)), .val (.int f1)] [(.int (2 : Int32))])) _
    refine XS.iload X0.here hx rfl (hb hby d8_10) rfl ?_
    show Steps p.tables e below (s₁.setTop (mkF m 12 #[.val (.ref a1), .val (.int (0 : Int32)), .val (.int (4 : Int32)), .val (.int sk), .val (.int (2 : Int32)), .val (.int (3 : Int32)), .val (.int (1 : Int32)), .val (.int f1)] [(.int (3 : Int32)), (.int (2 : Int32))])) _
    refine XS.icmpNo X0.here hx rfl (hb hby d8_12) rfl (flt hc12_2).2.2.1 ?_
    show Steps p.tables e below (s₁.setTop (mkF m 15 #[.val (.ref a1), .val (.int (0 : Int32)), .val (.int (4 : Int32)), .val (.int sk), .val (.int (2 : Int32)), .val (.int (3 : Int32)), .val (.int (1 : Int32)), .val (.int f1)] [])) _
    refine XS.iload X0.here hx rfl (hb hby d8_15) rfl ?_
    show Steps p.tables e below (s₁.setTop (mkF m 17 #[.val (.ref a1), .val (.int (0 : Int32)), .val (.int (4 : Int32)), .val (.int sk), .val (.int (2 : Int32)), .val (.int (3 : Int32)), .val (.int (1 : Int32)), .val (.int f1)] [(.int (2 : Int32))])) _
    refine XS.iload X0.here hx rfl (hb hby d8_17) rfl ?_
    show Steps p.tables e below (s₁.setTop (mkF m 19 #[.val (.ref a1), .val (.int (0 : Int32)), .val (.int (4 : Int32)), .val (.int sk), .val (.int (2 : Int32)), .val (.int (3 : Int32)), .val (.int (1 : Int32)), .val (.int f1)] [(.int (3 : Int32)), (.int (2 : Int32))])) _
    refine XS.iadd X0.here hx rfl (hb hby d8_19) rfl ?_
    show Steps p.tables e below (s₁.setTop (mkF m 20 #[.val (.ref a1), .val (.int (0 : Int32)), .val (.int (4 : Int32)), .val (.int sk), .val (.int (2 : Int32)), .val (.int (3 : Int32)), .val (.int (1 : Int32)), .val (.int f1)] [(.int (5 : Int32))])) _
    refine XS.iconst X0.here hx rfl (hb hby d8_20) ?_
    show Steps p.tables e below (s₁.setTop (mkF m 21 #[.val (.ref a1), .val (.int (0 : Int32)), .val (.int (4 : Int32)), .val (.int sk), .val (.int (2 : Int32)), .val (.int (3 : Int32)), .val (.int (1 : Int32)), .val (.int f1)] [(.int (1 : Int32)), (.int (5 : Int32))])) _
    refine XS.iushr X0.here hx rfl (hb hby d8_21) rfl ?_
    show Steps p.tables e below (s₁.setTop (mkF m 22 #[.val (.ref a1), .val (.int (0 : Int32)), .val (.int (4 : Int32)), .val (.int sk), .val (.int (2 : Int32)), .val (.int (3 : Int32)), .val (.int (1 : Int32)), .val (.int f1)] [(.int (2 : Int32))])) _
    refine XS.istore X0.here hx rfl (hb hby d8_22) rfl (l' := #[.val (.ref a1), .val (.int (0 : Int32)), .val (.int (4 : Int32)), .val (.int sk), .val (.int (2 : Int32)), .val (.int (3 : Int32)), .val (.int (2 : Int32)), .val (.int f1)]) rfl ?_
    show Steps p.tables e below (s₁.setTop (mkF m 24 #[.val (.ref a1), .val (.int (0 : Int32)), .val (.int (4 : Int32)), .val (.int sk), .val (.int (2 : Int32)), .val (.int (3 : Int32)), .val (.int (2 : Int32)), .val (.int f1)] [])) _
    refine XS.aloadN X0.here hx rfl (hb hby d8_24) rfl rfl ?_
    show Steps p.tables e below (s₁.setTop (mkF m 25 #[.val (.ref a1), .val (.int (0 : Int32)), .val (.int (4 : Int32)), .val (.int sk), .val (.int (2 : Int32)), .val (.int (3 : Int32)), .val (.int (2 : Int32)), .val (.int f1)] [(.ref a1)])) _
    refine XS.iload X0.here hx rfl (hb hby d8_25) rfl ?_
    show Steps p.tables e below (s₁.setTop (mkF m 27 #[.val (.ref a1), .val (.int (0 : Int32)), .val (.int (4 : Int32)), .val (.int sk), .val (.int (2 : Int32)), .val (.int (3 : Int32)), .val (.int (2 : Int32)), .val (.int f1)] [(.int (2 : Int32)), (.ref a1)])) _
    refine X0.iaload hx (j := (2 : Int32)) (v := (.int f2)) (by rw [e0]; exact Ar_a1.1) (State.isArrayOf_alike hZ.alike Ar_a1.2.1) Ar_a1.2.2 hin27_2 hat27_2 (g := (mkF m 27 #[.val (.ref a1), .val (.int (0 : Int32)), .val (.int (4 : Int32)), .val (.int sk), .val (.int (2 : Int32)), .val (.int (3 : Int32)), .val (.int (2 : Int32)), .val (.int f1)] [(.int (2 : Int32)), (.ref a1)])) rfl rfl (hb hby d8_27) _ ?_
    show Steps p.tables e below (s₁.setTop (mkF m 28 #[.val (.ref a1), .val (.int (0 : Int32)), .val (.int (4 : Int32)), .val (.int sk), .val (.int (2 : Int32)), .val (.int (3 : Int32)), .val (.int (2 : Int32)), .val (.int f1)] [(.int f2)])) _
    refine XS.istore X0.here hx rfl (hb hby d8_28) rfl (l' := #[.val (.ref a1), .val (.int (0 : Int32)), .val (.int (4 : Int32)), .val (.int sk), .val (.int (2 : Int32)), .val (.int (3 : Int32)), .val (.int (2 : Int32)), .val (.int f2)]) rfl ?_
    show Steps p.tables e below (s₁.setTop (mkF m 30 #[.val (.ref a1), .val (.int (0 : Int32)), .val (.int (4 : Int32)), .val (.int sk), .val (.int (2 : Int32)), .val (.int (3 : Int32)), .val (.int (2 : Int32)), .val (.int f2)] [])) _
    refine XS.iload X0.here hx rfl (hb hby d8_30) rfl ?_
    show Steps p.tables e below (s₁.setTop (mkF m 32 #[.val (.ref a1), .val (.int (0 : Int32)), .val (.int (4 : Int32)), .val (.int sk), .val (.int (2 : Int32)), .val (.int (3 : Int32)), .val (.int (2 : Int32)), .val (.int f2)] [(.int f2)])) _
    refine XS.iloadN X0.here hx rfl (hb hby d8_32) rfl ?_
    show Steps p.tables e below (s₁.setTop (mkF m 33 #[.val (.ref a1), .val (.int (0 : Int32)), .val (.int (4 : Int32)), .val (.int sk), .val (.int (2 : Int32)), .val (.int (3 : Int32)), .val (.int (2 : Int32)), .val (.int f2)] [(.int sk), (.int f2)])) _
    refine XS.icmpYes X0.here hx rfl (pc0 := 33) (pc' := 45) rfl (hb hby d8_33) rfl (flt hc33_2).2.1 (by decide) (by decide) ?_
    show Steps p.tables e below (s₁.setTop (mkF m 45 #[.val (.ref a1), .val (.int (0 : Int32)), .val (.int (4 : Int32)), .val (.int sk), .val (.int (2 : Int32)), .val (.int (3 : Int32)), .val (.int (2 : Int32)), .val (.int f2)] [])) _
    refine XS.iload X0.here hx rfl (hb hby d8_45) rfl ?_
    show Steps p.tables e below (s₁.setTop (mkF m 47 #[.val (.ref a1), .val (.int (0 : Int32)), .val (.int (4 : Int32)), .val (.int sk), .val (.int (2 : Int32)), .val (.int (3 : Int32)), .val (.int (2 : Int32)), .val (.int f2)] [(.int f2)])) _
    refine XS.iloadN X0.here hx rfl (hb hby d8_47) rfl ?_
    show Steps p.tables e below (s₁.setTop (mkF m 48 #[.val (.ref a1), .val (.int (0 : Int32)), .val (.int (4 : Int32)), .val (.int sk), .val (.int (2 : Int32)), .val (.int (3 : Int32)), .val (.int (2 : Int32)), .val (.int f2)] [(.int sk), (.int f2)])) _
    refine XS.icmpYes X0.here hx rfl (pc0 := 48) (pc' := 60) rfl (hb hby d8_48) rfl (flt hc48_1).2.2.2 (by decide) (by decide) ?_
    show Steps p.tables e below (s₁.setTop (mkF m 60 #[.val (.ref a1), .val (.int (0 : Int32)), .val (.int (4 : Int32)), .val (.int sk), .val (.int (2 : Int32)), .val (.int (3 : Int32)), .val (.int (2 : Int32)), .val (.int f2)] [])) _
    refine XS.iload X0.here hx rfl (hb hby d8_60) rfl ?_
    show Steps p.tables e below (s₁.setTop (mkF m 62 #[.val (.ref a1), .val (.int (0 : Int32)), .val (.int (4 : Int32)), .val (.int sk), .val (.int (2 : Int32)), .val (.int (3 : Int32)), .val (.int (2 : Int32)), .val (.int f2)] [(.int (2 : Int32))])) _
    exact retI X0 hx Bd.returns (hb hby d8_62) hr      -- retI stands in the head ('lawwalk <made dir>' prints it)
  · show Q8 (2 : Int32) h0 n0 _ s₁.heap _
    rw [e0]
    exact ⟨rfl, N0, rfl⟩
set_option maxRecDepth 65536 in
set_option maxHeartbeats 40000000 in
theorem rm8_n3 (l : Launch) (Z : State) (a0 : Array Value) (hw : ∀ d ∈ tables_1, d.before a0 Z = true) (ws : List Jvm.Cond) (a1 : Addr) (sk : Int32) (k : ClassId) (f0 f1 f2 f3 : Int32) (h0 : Heap) (n0 : Nat) (Z0 : n0 ≤ h0.size) (V : Arv Z h0 a1 k .int 4 [.int f0, .int f1, .int f2, .int f3] (.int 0)) (hf1 : f1 < sk) (hf2 : sk < f2) :
    MetFree l (⟨"java/util/Arrays", "binarySearch0", "([IIII)I"⟩ : MethodName) (head1 (Jvm.Cond.code (⟨"java/util/Arrays", "binarySearch0", "([IIII)I"⟩ : MethodName) jdk_65_method_59_code 8 (some .int) :: ws) ({ frames := 0, cells := 0, slots := 0, locals := 0 } : Room)) (fun a U => a = #[(.ref a1), (.int (0 : Int32)), (.int (4 : Int32)), (.int sk)] ∧ Z.Warmed39 U.vm ∧ U.heap = h0) (fun _ _ _ _ _ => True) (fun _ U o U' => ∃ v L, o = .returned v ∧ Q8 (-(3 : Int32)) h0 n0 v U'.heap L ∧ FrameEnd U o U' L ({ frames := 0, cells := 0, slots := 0, locals := 0 } : Room).cells ({ frames := 0, cells := 0, slots := 0, locals := 0 } : Room).slots) := by
  refine MetFree.of_bodySF (plainFor_of_name pn_8) hisR ?_
  intro p e s m args below meth c s₁ Bd hml0 hP hK
  obtain ⟨rfl, hZ, hh⟩ := hP
  obtain ⟨cl_a1, Ar_a1, q_a1, S_a1, N_a1, H_a1, G_a1⟩ := V
  have hc12_1 : ¬ ((3 : Int32) < (0 : Int32)) := by decide
  have hin27_1 : ¬ ((1 : Int32) < 0 ∨ cl_a1.slots.size ≤ ((1 : Int32)).toNatClampNeg) := inb_of S_a1 ⟨by decide, by decide⟩
  have hat27_1 : cl_a1.slots[((1 : Int32)).toNatClampNeg]? = some (.int f1) := Has.at H_a1 hin27_1 rfl
  have hc33_1 : f1 < sk := hf1
  have hc12_2 : ¬ ((3 : Int32) < (2 : Int32)) := by decide
  have hin27_2 : ¬ ((2 : Int32) < 0 ∨ cl_a1.slots.size ≤ ((2 : Int32)).toNatClampNeg) := inb_of S_a1 ⟨by decide, by decide⟩
  have hat27_2 : cl_a1.slots[((2 : Int32)).toNatClampNeg]? = some (.int f2) := Has.at H_a1 hin27_2 rfl
  have hc33_2 : ¬ (f2 < sk) := own_nlt hf2
  have hc48_1 : sk < f2 := hf2
  have hc12_3 : (1 : Int32) < (2 : Int32) := by decide
  have hx := Bd.exec
  have hby := Bd.bytes
  have hml : c.maxLocals = 8 := hml0
  have hown : s.vm.findClass "java/util/Arrays" = some m.cls := findClass_of_methodNamed Bd.named
  have hnm := (name_of_methodNamed Bd.named Bd.method).1
  have X0 : Stand p l e ({ frames := 0, cells := 0, slots := 0, locals := 0 } : Room) s m #[(.ref a1), (.int (0 : Int32)), (.int (4 : Int32)), (.int sk)] below meth c s₁ [] 0 0 := Stand.of_body Bd
  have e0 : s₁.heap = h0 := by rw [← hh, Bd.state]; rfl
  have N0 := Fr.nil n0
  have pre0 : ∀ t, Steps p.tables e below (s₁.setTop (mkF m 0 #[.val (.ref a1), .val (.int (0 : Int32)), .val (.int (4 : Int32)), .val (.int sk), .unset, .unset, .unset, .unset] [])) t → Steps p.tables e below (s₁.setTop (entryFrame m #[(.ref a1), (.int (0 : Int32)), (.int (4 : Int32)), (.int sk)] 8)) t := fun t k => castTop (ef_8 m a1 (0 : Int32) (4 : Int32) sk) k
  -- 3. LAWS

  obtain ⟨fs, hr, hrun, hended, hW, hsame⟩ := X0.leave (v := some (.int (-(3 : Int32)))) (fun h => by rw [Bd.returns] at h; cases h)
  refine ⟨_, _, pre0 _ ?_, hrun, hended, _, _, rfl, ?_, ⟨_, rfl⟩, hW, hsame.mono (by decide) (by decide)⟩
  -- 4. STEPS
  · show Steps p.tables e below (s₁.setTop (mkF m 0 #[.val (.ref a1), .val (.int (0 : Int32)), .val (.int (4 : Int32)), .val (.int sk), .unset, .unset, .unset, .unset] [])) _
    refine XS.iloadN X0.here hx rfl (hb hby d8_0) rfl ?_
    show Steps p.tables e below (s₁.setTop (mkF m 1 #[.val (.ref a1), .val (.int (0 : Int32)), .val (.int (4 : Int32)), .val (.int sk), .unset, .unset, .unset, .unset] [(.int (0 : Int32))])) _
    refine XS.istore X0.here hx rfl (hb hby d8_1) rfl (l' := #[.val (.ref a1), .val (.int (0 : Int32)), .val (.int (4 : Int32)), .val (.int sk), .val (.int (0 : Int32)), .unset, .unset, .unset]) rfl ?_
    show Steps p.tables e below (s₁.setTop (mkF m 3 #[.val (.ref a1), .val (.int (0 : Int32)), .val (.int (4 : Int32)), .val (.int sk), .val (.int (0 : Int32)), .unset, .unset, .unset] [])) _
    refine XS.iloadN X0.here hx rfl (hb hby d8_3) rfl ?_
    show Steps p.tables e below (s₁.setTop (mkF m 4 #[.val (.ref a1), .val (.int (0 : Int32)), .val (.int (4 : Int32)), .val (.int sk), .val (.int (0 : Int32)), .unset, .unset, .unset] [(.int (4 : Int32))])) _
    refine XS.iconst X0.here hx rfl (hb hby d8_4) ?_
    show Steps p.tables e below (s₁.setTop (mkF m 5 #[.val (.ref a1), .val (.int (0 : Int32)), .val (.int (4 : Int32)), .val (.int sk), .val (.int (0 : Int32)), .unset, .unset, .unset] [(.int (1 : Int32)), (.int (4 : Int32))])) _
    refine XS.isub X0.here hx rfl (hb hby d8_5) rfl ?_
    show Steps p.tables e below (s₁.setTop (mkF m 6 #[.val (.ref a1), .val (.int (0 : Int32)), .val (.int (4 : Int32)), .val (.int sk), .val (.int (0 : Int32)), .unset, .unset, .unset] [(.int (3 : Int32))])) _
    refine XS.istore X0.here hx rfl (hb hby d8_6) rfl (l' := #[.val (.ref a1), .val (.int (0 : Int32)), .val (.int (4 : Int32)), .val (.int sk), .val (.int (0 : Int32)), .val (.int (3 : Int32)), .unset, .unset]) rfl ?_
    show Steps p.tables e below (s₁.setTop (mkF m 8 #[.val (.ref a1), .val (.int (0 : Int32)), .val (.int (4 : Int32)), .val (.int sk), .val (.int (0 : Int32)), .val (.int (3 : Int32)), .unset, .unset] [])) _
    refine XS.iload X0.here hx rfl (hb hby d8_8) rfl ?_
    show Steps p.tables e below (s₁.setTop (mkF m 10 #[.val (.ref a1), .val (.int (0 : Int32)), .val (.int (4 : Int32)), .val (.int sk), .val (.int (0 : Int32)), .val (.int (3 : Int32)), .unset, .unset] [(.int (0 : Int32))])) _
    refine XS.iload X0.here hx rfl (hb hby d8_10) rfl ?_
    show Steps p.tables e below (s₁.setTop (mkF m 12 #[.val (.ref a1), .val (.int (0 : Int32)), .val (.int (4 : Int32)), .val (.int sk), .val (.int (0 : Int32)), .val (.int (3 : Int32)), .unset, .unset] [(.int (3 : Int32)), (.int (0 : Int32))])) _
    refine XS.icmpNo X0.here hx rfl (hb hby d8_12) rfl (flt hc12_1).2.2.1 ?_
    show Steps p.tables e below (s₁.setTop (mkF m 15 #[.val (.ref a1), .val (.int (0 : Int32)), .val (.int (4 : Int32)), .val (.int sk), .val (.int (0 : Int32)), .val (.int (3 : Int32)), .unset, .unset] [])) _
    refine XS.iload X0.here hx rfl (hb hby d8_15) rfl ?_
    show Steps p.tables e below (s₁.setTop (mkF m 17 #[.val (.ref a1), .val (.int (0 : Int32)), .val (.int (4 : Int32)), .val (.int sk), .val (.int (0 : Int32)), .val (.int (3 : Int32)), .unset, .unset] [(.int (0 : Int32))])) _
    refine XS.iload X0.here hx rfl (hb hby d8_17) rfl ?_
    show Steps p.tables e below (s₁.setTop (mkF m 19 #[.val (.ref a1), .val (.int (0 : Int32)), .val (.int (4 : Int32)), .val (.int sk), .val (.int (0 : Int32)), .val (.int (3 : Int32)), .unset, .unset] [(.int (3 : Int32)), (.int (0 : Int32))])) _
    refine XS.iadd X0.here hx rfl (hb hby d8_19) rfl ?_
    show Steps p.tables e below (s₁.setTop (mkF m 20 #[.val (.ref a1), .val (.int (0 : Int32)), .val (.int (4 : Int32)), .val (.int sk), .val (.int (0 : Int32)), .val (.int (3 : Int32)), .unset, .unset] [(.int (3 : Int32))])) _
    refine XS.iconst X0.here hx rfl (hb hby d8_20) ?_
    show Steps p.tables e below (s₁.setTop (mkF m 21 #[.val (.ref a1), .val (.int (0 : Int32)), .val (.int (4 : Int32)), .val (.int sk), .val (.int (0 : Int32)), .val (.int (3 : Int32)), .unset, .unset] [(.int (1 : Int32)), (.int (3 : Int32))])) _
    refine XS.iushr X0.here hx rfl (hb hby d8_21) rfl ?_
    show Steps p.tables e below (s₁.setTop (mkF m 22 #[.val (.ref a1), .val (.int (0 : Int32)), .val (.int (4 : Int32)), .val (.int sk), .val (.int (0 : Int32)), .val (.int (3 : Int32)), .unset, .unset] [(.int (1 : Int32))])) _
    refine XS.istore X0.here hx rfl (hb hby d8_22) rfl (l' := #[.val (.ref a1), .val (.int (0 : Int32)), .val (.int (4 : Int32)), .val (.int sk), .val (.int (0 : Int32)), .val (.int (3 : Int32)), .val (.int (1 : Int32)), .unset]) rfl ?_
    show Steps p.tables e below (s₁.setTop (mkF m 24 #[.val (.ref a1), .val (.int (0 : Int32)), .val (.int (4 : Int32)), .val (.int sk), .val (.int (0 : Int32)), .val (.int (3 : Int32)), .val (.int (1 : Int32)), .unset] [])) _
    refine XS.aloadN X0.here hx rfl (hb hby d8_24) rfl rfl ?_
    show Steps p.tables e below (s₁.setTop (mkF m 25 #[.val (.ref a1), .val (.int (0 : Int32)), .val (.int (4 : Int32)), .val (.int sk), .val (.int (0 : Int32)), .val (.int (3 : Int32)), .val (.int (1 : Int32)), .unset] [(.ref a1)])) _
    refine XS.iload X0.here hx rfl (hb hby d8_25) rfl ?_
    show Steps p.tables e below (s₁.setTop (mkF m 27 #[.val (.ref a1), .val (.int (0 : Int32)), .val (.int (4 : Int32)), .val (.int sk), .val (.int (0 : Int32)), .val (.int (3 : Int32)), .val (.int (1 : Int32)), .unset] [(.int (1 : Int32)), (.ref a1)])) _
    refine X0.iaload hx (j := (1 : Int32)) (v := (.int f1)) (by rw [e0]; exact Ar_a1.1) (State.isArrayOf_alike hZ.alike Ar_a1.2.1) Ar_a1.2.2 hin27_1 hat27_1 (g := (mkF m 27 #[.val (.ref a1), .val (.int (0 : Int32)), .val (.int (4 : Int32)), .val (.int sk), .val (.int (0 : Int32)), .val (.int (3 : Int32)), .val (.int (1 : Int32)), .unset] [(.int (1 : Int32)), (.ref a1)])) rfl rfl (hb hby d8_27) _ ?_
    show Steps p.tables e below (s₁.setTop (mkF m 28 #[.val (.ref a1), .val (.int (0 : Int32)), .val (.int (4 : Int32)), .val (.int sk), .val (.int (0 : Int32)), .val (.int (3 : Int32)), .val (.int (1 : Int32)), .unset] [(.int f1)])) _
    refine XS.istore X0.here hx rfl (hb hby d8_28) rfl (l' := #[.val (.ref a1), .val (.int (0 : Int32)), .val (.int (4 : Int32)), .val (.int sk), .val (.int (0 : Int32)), .val (.int (3 : Int32)), .val (.int (1 : Int32)), .val (.int f1)]) rfl ?_
    show Steps p.tables e below (s₁.setTop (mkF m 30 #[.val (.ref a1), .val (.int (0 : Int32)), .val (.int (4 : Int32)), .val (.int sk), .val (.int (0 : Int32)), .val (.int (3 : Int32)), .val (.int (1 : Int32)), .val (.int f1)] [])) _
    refine XS.iload X0.here hx rfl (hb hby d8_30) rfl ?_
    show Steps p.tables e below (s₁.setTop (mkF m 32 #[.val (.ref a1), .val (.int (0 : Int32)), .val (.int (4 : Int32)), .val (.int sk), .val (.int (0 : Int32)), .val (.int (3 : Int32)), .val (.int (1 : Int32)), .val (.int f1)] [(.int f1)])) _
    refine XS.iloadN X0.here hx rfl (hb hby d8_32) rfl ?_
    show Steps p.tables e below (s₁.setTop (mkF m 33 #[.val (.ref a1), .val (.int (0 : Int32)), .val (.int (4 : Int32)), .val (.int sk), .val (.int (0 : Int32)), .val (.int (3 : Int32)), .val (.int (1 : Int32)), .val (.int f1)] [(.int sk), (.int f1)])) _
    refine XS.icmpNo X0.here hx rfl (hb hby d8_33) rfl (tlt hc33_1).2.1 ?_
    show Steps p.tables e below (s₁.setTop (mkF m 36 #[.val (.ref a1), .val (.int (0 : Int32)), .val (.int (4 : Int32)), .val (.int sk), .val (.int (0 : Int32)), .val (.int (3 : Int32)), .val (.int (1 : Int32)), .val (.int f1)] [])) _
    refine XS.iload X0.here hx rfl (hb hby d8_36) rfl ?_
    show Steps p.tables e below (s₁.setTop (mkF m 38 #[.val (.ref a1), .val (.int (0 : Int32)), .val (.int (4 : Int32)), .val (.int sk), .val (.int (0 : Int32)), .val (.int (3 : Int32)), .val (.int (1 : Int32)), .val (.int f1)] [(.int (1 : Int32))])) _
    refine XS.iconst X0.here hx rfl (hb hby d8_38) ?_
    show Steps p.tables e below (s₁.setTop (mkF m 39 #[.val (.ref a1), .val (.int (0 : Int32)), .val (.int (4 : Int32)), .val (.int sk), .val (.int (0 : Int32)), .val (.int (3 : Int32)), .val (.int (1 : Int32)), .val (.int f1)] [(.int (1 : Int32)), (.int (1 : Int32))])) _
    refine XS.iadd X0.here hx rfl (hb hby d8_39) rfl ?_
    show Steps p.tables e below (s₁.setTop (mkF m 40 #[.val (.ref a1), .val (.int (0 : Int32)), .val (.int (4 : Int32)), .val (.int sk), .val (.int (0 : Int32)), .val (.int (3 : Int32)), .val (.int (1 : Int32)), .val (.int f1)] [(.int (2 : Int32))])) _
    refine XS.istore X0.here hx rfl (hb hby d8_40) rfl (l' := #[.val (.ref a1), .val (.int (0 : Int32)), .val (.int (4 : Int32)), .val (.int sk), .val (.int (2 : Int32)), .val (.int (3 : Int32)), .val (.int (1 : Int32)), .val (.int f1)]) rfl ?_
    show Steps p.tables e below (s₁.setTop (mkF m 42 #[.val (.ref a1), .val (.int (0 : Int32)), .val (.int (4 : Int32)), .val (.int sk), .val (.int (2 : Int32)), .val (.int (3 : Int32)), .val (.int (1 : Int32)), .val (.int f1)] [])) _
    refine XS.goto X0.here hx rfl (pc0 := 42) (pc' := 63) rfl (hb hby d8_42) (by decide) (by decide) ?_
    show Steps p.tables e below (s₁.setTop (mkF m 63 #[.val (.ref a1), .val (.int (0 : Int32)), .val (.int (4 : Int32)), .val (.int sk), .val (.int (2 : Int32)), .val (.int (3 : Int32)), .val (.int (1 : Int32)), .val (.int f1)] [])) _
    refine XS.goto X0.here hx rfl (pc0 := 63) (pc' := 8) rfl (hb hby d8_63) (by decide) (by decide) ?_
    show Steps p.tables e below (s₁.setTop (mkF m 8 #[.val (.ref a1), .val (.int (0 : Int32)), .val (.int (4 : Int32)), .val (.int sk), .val (.int (2 : Int32)), .val (.int (3 : Int32)), .val (.int (1 : Int32)), .val (.int f1)] [])) _
    refine XS.iload X0.here hx rfl (hb hby d8_8) rfl ?_
    show Steps p.tables e below (s₁.setTop (mkF m 10 #[.val (.ref a1), .val (.int (0 : Int32)), .val (.int (4 : Int32)), .val (.int sk), .val (.int (2 : Int32)), .val (.int (3 : Int32)), .val (.int (1 : Int32)), .val (.int f1)] [(.int (2 : Int32))])) _
    refine XS.iload X0.here hx rfl (hb hby d8_10) rfl ?_
    show Steps p.tables e below (s₁.setTop (mkF m 12 #[.val (.ref a1), .val (.int (0 : Int32)), .val (.int (4 : Int32)), .val (.int sk), .val (.int (2 : Int32)), .val (.int (3 : Int32)), .val (.int (1 : Int32)), .val (.int f1)] [(.int (3 : Int32)), (.int (2 : Int32))])) _
    refine XS.icmpNo X0.here hx rfl (hb hby d8_12) rfl (flt hc12_2).2.2.1 ?_
    show Steps p.tables e below (s₁.setTop (mkF m 15 #[.val (.ref a1), .val (.int (0 : Int32)), .val (.int (4 : Int32)), .val (.int sk), .val (.int (2 : Int32)), .val (.int (3 : Int32)), .val (.int (1 : Int32)), .val (.int f1)] [])) _
    refine XS.iload X0.here hx rfl (hb hby d8_15) rfl ?_
    show Steps p.tables e below (s₁.setTop (mkF m 17 #[.val (.ref a1), .val (.int (0 : Int32)), .val (.int (4 : Int32)), .val (.int sk), .val (.int (2 : Int32)), .val (.int (3 : Int32)), .val (.int (1 : Int32)), .val (.int f1)] [(.int (2 : Int32))])) _
    refine XS.iload X0.here hx rfl (hb hby d8_17) rfl ?_
    show Steps p.tables e below (s₁.setTop (mkF m 19 #[.val (.ref a1), .val (.int (0 : Int32)), .val (.int (4 : Int32)), .val (.int sk), .val (.int (2 : Int32)), .val (.int (3 : Int32)), .val (.int (1 : Int32)), .val (.int f1)] [(.int (3 : Int32)), (.int (2 : Int32))])) _
    refine XS.iadd X0.here hx rfl (hb hby d8_19) rfl ?_
    show Steps p.tables e below (s₁.setTop (mkF m 20 #[.val (.ref a1), .val (.int (0 : Int32)), .val (.int (4 : Int32)), .val (.int sk), .val (.int (2 : Int32)), .val (.int (3 : Int32)), .val (.int (1 : Int32)), .val (.int f1)] [(.int (5 : Int32))])) _
    refine XS.iconst X0.here hx rfl (hb hby d8_20) ?_
    show Steps p.tables e below (s₁.setTop (mkF m 21 #[.val (.ref a1), .val (.int (0 : Int32)), .val (.int (4 : Int32)), .val (.int sk), .val (.int (2 : Int32)), .val (.int (3 : Int32)), .val (.int (1 : Int32)), .val (.int f1)] [(.int (1 : Int32)), (.int (5 : Int32))])) _
    refine XS.iushr X0.here hx rfl (hb hby d8_21) rfl ?_
    show Steps p.tables e below (s₁.setTop (mkF m 22 #[.val (.ref a1), .val (.int (0 : Int32)), .val (.int (4 : Int32)), .val (.int sk), .val (.int (2 : Int32)), .val (.int (3 : Int32)), .val (.int (1 : Int32)), .val (.int f1)] [(.int (2 : Int32))])) _
    refine XS.istore X0.here hx rfl (hb hby d8_22) rfl (l' := #[.val (.ref a1), .val (.int (0 : Int32)), .val (.int (4 : Int32)), .val (.int sk), .val (.int (2 : Int32)), .val (.int (3 : Int32)), .val (.int (2 : Int32)), .val (.int f1)]) rfl ?_
    show Steps p.tables e below (s₁.setTop (mkF m 24 #[.val (.ref a1), .val (.int (0 : Int32)), .val (.int (4 : Int32)), .val (.int sk), .val (.int (2 : Int32)), .val (.int (3 : Int32)), .val (.int (2 : Int32)), .val (.int f1)] [])) _
    refine XS.aloadN X0.here hx rfl (hb hby d8_24) rfl rfl ?_
    show Steps p.tables e below (s₁.setTop (mkF m 25 #[.val (.ref a1), .val (.int (0 : Int32)), .val (.int (4 : Int32)), .val (.int sk), .val (.int (2 : Int32)), .val (.int (3 : Int32)), .val (.int (2 : Int32)), .val (.int f1)] [(.ref a1)])) _
    refine XS.iload X0.here hx rfl (hb hby d8_25) rfl ?_
    show Steps p.tables e below (s₁.setTop (mkF m 27 #[.val (.ref a1), .val (.int (0 : Int32)), .val (.int (4 : Int32)), .val (.int sk), .val (.int (2 : Int32)), .val (.int (3 : Int32)), .val (.int (2 : Int32)), .val (.int f1)] [(.int (2 : Int32)), (.ref a1)])) _
    refine X0.iaload hx (j := (2 : Int32)) (v := (.int f2)) (by rw [e0]; exact Ar_a1.1) (State.isArrayOf_alike hZ.alike Ar_a1.2.1) Ar_a1.2.2 hin27_2 hat27_2 (g := (mkF m 27 #[.val (.ref a1), .val (.int (0 : Int32)), .val (.int (4 : Int32)), .val (.int sk), .val (.int (2 : Int32)), .val (.int (3 : Int32)), .val (.int (2 : Int32)), .val (.int f1)] [(.int (2 : Int32)), (.ref a1)])) rfl rfl (hb hby d8_27) _ ?_
    show Steps p.tables e below (s₁.setTop (mkF m 28 #[.val (.ref a1), .val (.int (0 : Int32)), .val (.int (4 : Int32)), .val (.int sk), .val (.int (2 : Int32)), .val (.int (3 : Int32)), .val (.int (2 : Int32)), .val (.int f1)] [(.int f2)])) _
    refine XS.istore X0.here hx rfl (hb hby d8_28) rfl (l' := #[.val (.ref a1), .val (.int (0 : Int32)), .val (.int (4 : Int32)), .val (.int sk), .val (.int (2 : Int32)), .val (.int (3 : Int32)), .val (.int (2 : Int32)), .val (.int f2)]) rfl ?_
    show Steps p.tables e below (s₁.setTop (mkF m 30 #[.val (.ref a1), .val (.int (0 : Int32)), .val (.int (4 : Int32)), .val (.int sk), .val (.int (2 : Int32)), .val (.int (3 : Int32)), .val (.int (2 : Int32)), .val (.int f2)] [])) _
    refine XS.iload X0.here hx rfl (hb hby d8_30) rfl ?_
    show Steps p.tables e below (s₁.setTop (mkF m 32 #[.val (.ref a1), .val (.int (0 : Int32)), .val (.int (4 : Int32)), .val (.int sk), .val (.int (2 : Int32)), .val (.int (3 : Int32)), .val (.int (2 : Int32)), .val (.int f2)] [(.int f2)])) _
    refine XS.iloadN X0.here hx rfl (hb hby d8_32) rfl ?_
    show Steps p.tables e below (s₁.setTop (mkF m 33 #[.val (.ref a1), .val (.int (0 : Int32)), .val (.int (4 : Int32)), .val (.int sk), .val (.int (2 : Int32)), .val (.int (3 : Int32)), .val (.int (2 : Int32)), .val (.int f2)] [(.int sk), (.int f2)])) _
    refine XS.icmpYes X0.here hx rfl (pc0 := 33) (pc' := 45) rfl (hb hby d8_33) rfl (flt hc33_2).2.1 (by decide) (by decide) ?_
    show Steps p.tables e below (s₁.setTop (mkF m 45 #[.val (.ref a1), .val (.int (0 : Int32)), .val (.int (4 : Int32)), .val (.int sk), .val (.int (2 : Int32)), .val (.int (3 : Int32)), .val (.int (2 : Int32)), .val (.int f2)] [])) _
    refine XS.iload X0.here hx rfl (hb hby d8_45) rfl ?_
    show Steps p.tables e below (s₁.setTop (mkF m 47 #[.val (.ref a1), .val (.int (0 : Int32)), .val (.int (4 : Int32)), .val (.int sk), .val (.int (2 : Int32)), .val (.int (3 : Int32)), .val (.int (2 : Int32)), .val (.int f2)] [(.int f2)])) _
    refine XS.iloadN X0.here hx rfl (hb hby d8_47) rfl ?_
    show Steps p.tables e below (s₁.setTop (mkF m 48 #[.val (.ref a1), .val (.int (0 : Int32)), .val (.int (4 : Int32)), .val (.int sk), .val (.int (2 : Int32)), .val (.int (3 : Int32)), .val (.int (2 : Int32)), .val (.int f2)] [(.int sk), (.int f2)])) _
    refine XS.icmpNo X0.here hx rfl (hb hby d8_48) rfl (tlt hc48_1).2.2.2 ?_
    show Steps p.tables e below (s₁.setTop (mkF m 51 #[.val (.ref a1), .val (.int (0 : Int32)), .val (.int (4 : Int32)), .val (.int sk), .val (.int (2 : Int32)), .val (.int (3 : Int32)), .val (.int (2 : Int32)), .val (.int f2)] [])) _
    refine XS.iload X0.here hx rfl (hb hby d8_51) rfl ?_
    show Steps p.tables e below (s₁.setTop (mkF m 53 #[.val (.ref a1), .val (.int (0 : Int32)), .val (.int (4 : Int32)), .val (.int sk), .val (.int (2 : Int32)), .val (.int (3 : Int32)), .val (.int (2 : Int32)), .val (.int f2)] [(.int (2 : Int32))])) _
    refine XS.iconst X0.here hx rfl (hb hby d8_53) ?_
    show Steps p.tables e below (s₁.setTop (mkF m 54 #[.val (.ref a1), .val (.int (0 : Int32)), .val (.int (4 : Int32)), .val (.int sk), .val (.int (2 : Int32)), .val (.int (3 : Int32)), .val (.int (2 : Int32)), .val (.int f2)] [(.int (1 : Int32)), (.int (2 : Int32))])) _
    refine XS.isub X0.here hx rfl (hb hby d8_54) rfl ?_
    show Steps p.tables e below (s₁.setTop (mkF m 55 #[.val (.ref a1), .val (.int (0 : Int32)), .val (.int (4 : Int32)), .val (.int sk), .val (.int (2 : Int32)), .val (.int (3 : Int32)), .val (.int (2 : Int32)), .val (.int f2)] [(.int (1 : Int32))])) _
    refine XS.istore X0.here hx rfl (hb hby d8_55) rfl (l' := #[.val (.ref a1), .val (.int (0 : Int32)), .val (.int (4 : Int32)), .val (.int sk), .val (.int (2 : Int32)), .val (.int (1 : Int32)), .val (.int (2 : Int32)), .val (.int f2)]) rfl ?_
    show Steps p.tables e below (s₁.setTop (mkF m 57 #[.val (.ref a1), .val (.int (0 : Int32)), .val (.int (4 : Int32)), .val (.int sk), .val (.int (2 : Int32)), .val (.int (1 : Int32)), .val (.int (2 : Int32)), .val (.int f2)] [])) _
    refine XS.goto X0.here hx rfl (pc0 := 57) (pc' := 63) rfl (hb hby d8_57) (by decide) (by decide) ?_
    show Steps p.tables e below (s₁.setTop (mkF m 63 #[.val (.ref a1), .val (.int (0 : Int32)), .val (.int (4 : Int32)), .val (.int sk), .val (.int (2 : Int32)), .val (.int (1 : Int32)), .val (.int (2 : Int32)), .val (.int f2)] [])) _
    refine XS.goto X0.here hx rfl (pc0 := 63) (pc' := 8) rfl (hb hby d8_63) (by decide) (by decide) ?_
    show Steps p.tables e below (s₁.setTop (mkF m 8 #[.val (.ref a1), .val (.int (0 : Int32)), .val (.int (4 : Int32)), .val (.int sk), .val (.int (2 : Int32)), .val (.int (1 : Int32)), .val (.int (2 : Int32)), .val (.int f2)] [])) _
    refine XS.iload X0.here hx rfl (hb hby d8_8) rfl ?_
    show Steps p.tables e below (s₁.setTop (mkF m 10 #[.val (.ref a1), .val (.int (0 : Int32)), .val (.int (4 : Int32)), .val (.int sk), .val (.int (2 : Int32)), .val (.int (1 : Int32)), .val (.int (2 : Int32)), .val (.int f2)] [(.int (2 : Int32))])) _
    refine XS.iload X0.here hx rfl (hb hby d8_10) rfl ?_
    show Steps p.tables e below (s₁.setTop (mkF m 12 #[.val (.ref a1), .val (.int (0 : Int32)), .val (.int (4 : Int32)), .val (.int sk), .val (.int (2 : Int32)), .val (.int (1 : Int32)), .val (.int (2 : Int32)), .val (.int f2)] [(.int (1 : Int32)), (.int (2 : Int32))])) _
    refine XS.icmpYes X0.here hx rfl (pc0 := 12) (pc' := 66) rfl (hb hby d8_12) rfl (tlt hc12_3).2.2.1 (by decide) (by decide) ?_
    show Steps p.tables e below (s₁.setTop (mkF m 66 #[.val (.ref a1), .val (.int (0 : Int32)), .val (.int (4 : Int32)), .val (.int sk), .val (.int (2 : Int32)), .val (.int (1 : Int32)), .val (.int (2 : Int32)), .val (.int f2)] [])) _
    refine XS.iload X0.here hx rfl (hb hby d8_66) rfl ?_
    show Steps p.tables e below (s₁.setTop (mkF m 68 #[.val (.ref a1), .val (.int (0 : Int32)), .val (.int (4 : Int32)), .val (.int sk), .val (.int (2 : Int32)), .val (.int (1 : Int32)), .val (.int (2 : Int32)), .val (.int f2)] [(.int (2 : Int32))])) _
    refine XS.iconst X0.here hx rfl (hb hby d8_68) ?_
    show Steps p.tables e below (s₁.setTop (mkF m 69 #[.val (.ref a1), .val (.int (0 : Int32)), .val (.int (4 : Int32)), .val (.int sk), .val (.int (2 : Int32)), .val (.int (1 : Int32)), .val (.int (2 : Int32)), .val (.int f2)] [(.int (1 : Int32)), (.int (2 : Int32))])) _
    refine XS.iadd X0.here hx rfl (hb hby d8_69) rfl ?_
    show Steps p.tables e below (s₁.setTop (mkF m 70 #[.val (.ref a1), .val (.int (0 : Int32)), .val (.int (4 : Int32)), .val (.int sk), .val (.int (2 : Int32)), .val (.int (1 : Int32)), .val (.int (2 : Int32)), .val (.int f2)] [(.int (3 : Int32))])) _
    refine XS.ineg X0.here hx rfl (hb hby d8_70) rfl ?_
    show Steps p.tables e below (s₁.setTop (mkF m 71 #[.val (.ref a1), .val (.int (0 : Int32)), .val (.int (4 : Int32)), .val (.int sk), .val (.int (2 : Int32)), .val (.int (1 : Int32)), .val (.int (2 : Int32)), .val (.int f2)] [(.int (-(3 : Int32)))])) _
    exact retI X0 hx Bd.returns (hb hby d8_71) hr      -- retI stands in the head ('lawwalk <made dir>' prints it)
  · show Q8 (-(3 : Int32)) h0 n0 _ s₁.heap _
    rw [e0]
    exact ⟨rfl, N0, rfl⟩
set_option maxRecDepth 65536 in
set_option maxHeartbeats 40000000 in
theorem rm8_e1 (l : Launch) (Z : State) (a0 : Array Value) (hw : ∀ d ∈ tables_1, d.before a0 Z = true) (ws : List Jvm.Cond) (a1 : Addr) (sk : Int32) (k : ClassId) (f0 f1 f2 f3 : Int32) (h0 : Heap) (n0 : Nat) (Z0 : n0 ≤ h0.size) (V : Arv Z h0 a1 k .int 4 [.int f0, .int f1, .int f2, .int f3] (.int 0)) (hf1 : f1 = sk) :
    MetFree l (⟨"java/util/Arrays", "binarySearch0", "([IIII)I"⟩ : MethodName) (head1 (Jvm.Cond.code (⟨"java/util/Arrays", "binarySearch0", "([IIII)I"⟩ : MethodName) jdk_65_method_59_code 8 (some .int) :: ws) ({ frames := 0, cells := 0, slots := 0, locals := 0 } : Room)) (fun a U => a = #[(.ref a1), (.int (0 : Int32)), (.int (4 : Int32)), (.int sk)] ∧ Z.Warmed39 U.vm ∧ U.heap = h0) (fun _ _ _ _ _ => True) (fun _ U o U' => ∃ v L, o = .returned v ∧ Q8 (1 : Int32) h0 n0 v U'.heap L ∧ FrameEnd U o U' L ({ frames := 0, cells := 0, slots := 0, locals := 0 } : Room).cells ({ frames := 0, cells := 0, slots := 0, locals := 0 } : Room).slots) := by
  refine MetFree.of_bodySF (plainFor_of_name pn_8) hisR ?_
  intro p e s m args below meth c s₁ Bd hml0 hP hK
  obtain ⟨rfl, hZ, hh⟩ := hP
  obtain ⟨cl_a1, Ar_a1, q_a1, S_a1, N_a1, H_a1, G_a1⟩ := V
  have hc12_1 : ¬ ((3 : Int32) < (0 : Int32)) := by decide
  have hin27_1 : ¬ ((1 : Int32) < 0 ∨ cl_a1.slots.size ≤ ((1 : Int32)).toNatClampNeg) := inb_of S_a1 ⟨by decide, by decide⟩
  have hat27_1 : cl_a1.slots[((1 : Int32)).toNatClampNeg]? = some (.int f1) := Has.at H_a1 hin27_1 rfl
  have hc33_1 : ¬ (f1 < sk) := fun q => Int32.lt_irrefl (hf1 ▸ q)
  have hc48_1 : ¬ (sk < f1) := fun q => Int32.lt_irrefl (hf1 ▸ q)
  have hx := Bd.exec
  have hby := Bd.bytes
  have hml : c.maxLocals = 8 := hml0
  have hown : s.vm.findClass "java/util/Arrays" = some m.cls := findClass_of_methodNamed Bd.named
  have hnm := (name_of_methodNamed Bd.named Bd.method).1
  have X0 : Stand p l e ({ frames := 0, cells := 0, slots := 0, locals := 0 } : Room) s m #[(.ref a1), (.int (0 : Int32)), (.int (4 : Int32)), (.int sk)] below meth c s₁ [] 0 0 := Stand.of_body Bd
  have e0 : s₁.heap = h0 := by rw [← hh, Bd.state]; rfl
  have N0 := Fr.nil n0
  have pre0 : ∀ t, Steps p.tables e below (s₁.setTop (mkF m 0 #[.val (.ref a1), .val (.int (0 : Int32)), .val (.int (4 : Int32)), .val (.int sk), .unset, .unset, .unset, .unset] [])) t → Steps p.tables e below (s₁.setTop (entryFrame m #[(.ref a1), (.int (0 : Int32)), (.int (4 : Int32)), (.int sk)] 8)) t := fun t k => castTop (ef_8 m a1 (0 : Int32) (4 : Int32) sk) k
  -- 3. LAWS

  obtain ⟨fs, hr, hrun, hended, hW, hsame⟩ := X0.leave (v := some (.int (1 : Int32))) (fun h => by rw [Bd.returns] at h; cases h)
  refine ⟨_, _, pre0 _ ?_, hrun, hended, _, _, rfl, ?_, ⟨_, rfl⟩, hW, hsame.mono (by decide) (by decide)⟩
  -- 4. STEPS
  · show Steps p.tables e below (s₁.setTop (mkF m 0 #[.val (.ref a1), .val (.int (0 : Int32)), .val (.int (4 : Int32)), .val (.int sk), .unset, .unset, .unset, .unset] [])) _
    refine XS.iloadN X0.here hx rfl (hb hby d8_0) rfl ?_
    show Steps p.tables e below (s₁.setTop (mkF m 1 #[.val (.ref a1), .val (.int (0 : Int32)), .val (.int (4 : Int32)), .val (.int sk), .unset, .unset, .unset, .unset] [(.int (0 : Int32))])) _
    refine XS.istore X0.here hx rfl (hb hby d8_1) rfl (l' := #[.val (.ref a1), .val (.int (0 : Int32)), .val (.int (4 : Int32)), .val (.int sk), .val (.int (0 : Int32)), .unset, .unset, .unset]) rfl ?_
    show Steps p.tables e below (s₁.setTop (mkF m 3 #[.val (.ref a1), .val (.int (0 : Int32)), .val (.int (4 : Int32)), .val (.int sk), .val (.int (0 : Int32)), .unset, .unset, .unset] [])) _
    refine XS.iloadN X0.here hx rfl (hb hby d8_3) rfl ?_
    show Steps p.tables e below (s₁.setTop (mkF m 4 #[.val (.ref a1), .val (.int (0 : Int32)), .val (.int (4 : Int32)), .val (.int sk), .val (.int (0 : Int32)), .unset, .unset, .unset] [(.int (4 : Int32))])) _
    refine XS.iconst X0.here hx rfl (hb hby d8_4) ?_
    show Steps p.tables e below (s₁.setTop (mkF m 5 #[.val (.ref a1), .val (.int (0 : Int32)), .val (.int (4 : Int32)), .val (.int sk), .val (.int (0 : Int32)), .unset, .unset, .unset] [(.int (1 : Int32)), (.int (4 : Int32))])) _
    refine XS.isub X0.here hx rfl (hb hby d8_5) rfl ?_
    show Steps p.tables e below (s₁.setTop (mkF m 6 #[.val (.ref a1), .val (.int (0 : Int32)), .val (.int (4 : Int32)), .val (.int sk), .val (.int (0 : Int32)), .unset, .unset, .unset] [(.int (3 : Int32))])) _
    refine XS.istore X0.here hx rfl (hb hby d8_6) rfl (l' := #[.val (.ref a1), .val (.int (0 : Int32)), .val (.int (4 : Int32)), .val (.int sk), .val (.int (0 : Int32)), .val (.int (3 : Int32)), .unset, .unset]) rfl ?_
    show Steps p.tables e below (s₁.setTop (mkF m 8 #[.val (.ref a1), .val (.int (0 : Int32)), .val (.int (4 : Int32)), .val (.int sk), .val (.int (0 : Int32)), .val (.int (3 : Int32)), .unset, .unset] [])) _
    refine XS.iload X0.here hx rfl (hb hby d8_8) rfl ?_
    show Steps p.tables e below (s₁.setTop (mkF m 10 #[.val (.ref a1), .val (.int (0 : Int32)), .val (.int (4 : Int32)), .val (.int sk), .val (.int (0 : Int32)), .val (.int (3 : Int32)), .unset, .unset] [(.int (0 : Int32))])) _
    refine XS.iload X0.here hx rfl (hb hby d8_10) rfl ?_
    show Steps p.tables e below (s₁.setTop (mkF m 12 #[.val (.ref a1), .val (.int (0 : Int32)), .val (.int (4 : Int32)), .val (.int sk), .val (.int (0 : Int32)), .val (.int (3 : Int32)), .unset, .unset] [(.int (3 : Int32)), (.int (0 : Int32))])) _
    refine XS.icmpNo X0.here hx rfl (hb hby d8_12) rfl (flt hc12_1).2.2.1 ?_
    show Steps p.tables e below (s₁.setTop (mkF m 15 #[.val (.ref a1), .val (.int (0 : Int32)), .val (.int (4 : Int32)), .val (.int sk), .val (.int (0 : Int32)), .val (.int (3 : Int32)), .unset, .unset] [])) _
    refine XS.iload X0.here hx rfl (hb hby d8_15) rfl ?_
    show Steps p.tables e below (s₁.setTop (mkF m 17 #[.val (.ref a1), .val (.int (0 : Int32)), .val (.int (4 : Int32)), .val (.int sk), .val (.int (0 : Int32)), .val (.int (3 : Int32)), .unset, .unset] [(.int (0 : Int32))])) _
    refine XS.iload X0.here hx rfl (hb hby d8_17) rfl ?_
    show Steps p.tables e below (s₁.setTop (mkF m 19 #[.val (.ref a1), .val (.int (0 : Int32)), .val (.int (4 : Int32)), .val (.int sk), .val (.int (0 : Int32)), .val (.int (3 : Int32)), .unset, .unset] [(.int (3 : Int32)), (.int (0 : Int32))])) _
    refine XS.iadd X0.here hx rfl (hb hby d8_19) rfl ?_
    show Steps p.tables e below (s₁.setTop (mkF m 20 #[.val (.ref a1), .val (.int (0 : Int32)), .val (.int (4 : Int32)), .val (.int sk), .val (.int (0 : Int32)), .val (.int (3 : Int32)), .unset, .unset] [(.int (3 : Int32))])) _
    refine XS.iconst X0.here hx rfl (hb hby d8_20) ?_
    show Steps p.tables e below (s₁.setTop (mkF m 21 #[.val (.ref a1), .val (.int (0 : Int32)), .val (.int (4 : Int32)), .val (.int sk), .val (.int (0 : Int32)), .val (.int (3 : Int32)), .unset, .unset] [(.int (1 : Int32)), (.int (3 : Int32))])) _
    refine XS.iushr X0.here hx rfl (hb hby d8_21) rfl ?_
    show Steps p.tables e below (s₁.setTop (mkF m 22 #[.val (.ref a1), .val (.int (0 : Int32)), .val (.int (4 : Int32)), .val (.int sk), .val (.int (0 : Int32)), .val (.int (3 : Int32)), .unset, .unset] [(.int (1 : Int32))])) _
    refine XS.istore X0.here hx rfl (hb hby d8_22) rfl (l' := #[.val (.ref a1), .val (.int (0 : Int32)), .val (.int (4 : Int32)), .val (.int sk), .val (.int (0 : Int32)), .val (.int (3 : Int32)), .val (.int (1 : Int32)), .unset]) rfl ?_
    show Steps p.tables e below (s₁.setTop (mkF m 24 #[.val (.ref a1), .val (.int (0 : Int32)), .val (.int (4 : Int32)), .val (.int sk), .val (.int (0 : Int32)), .val (.int (3 : Int32)), .val (.int (1 : Int32)), .unset] [])) _
    refine XS.aloadN X0.here hx rfl (hb hby d8_24) rfl rfl ?_
    show Steps p.tables e below (s₁.setTop (mkF m 25 #[.val (.ref a1), .val (.int (0 : Int32)), .val (.int (4 : Int32)), .val (.int sk), .val (.int (0 : Int32)), .val (.int (3 : Int32)), .val (.int (1 : Int32)), .unset] [(.ref a1)])) _
    refine XS.iload X0.here hx rfl (hb hby d8_25) rfl ?_
    show Steps p.tables e below (s₁.setTop (mkF m 27 #[.val (.ref a1), .val (.int (0 : Int32)), .val (.int (4 : Int32)), .val (.int sk), .val (.int (0 : Int32)), .val (.int (3 : Int32)), .val (.int (1 : Int32)), .unset] [(.int (1 : Int32)), (.ref a1)])) _
    refine X0.iaload hx (j := (1 : Int32)) (v := (.int f1)) (by rw [e0]; exact Ar_a1.1) (State.isArrayOf_alike hZ.alike Ar_a1.2.1) Ar_a1.2.2 hin27_1 hat27_1 (g := (mkF m 27 #[.val (.ref a1), .val (.int (0 : Int32)), .val (.int (4 : Int32)), .val (.int sk), .val (.int (0 : Int32)), .val (.int (3 : Int32)), .val (.int (1 : Int32)), .unset] [(.int (1 : Int32)), (.ref a1)])) rfl rfl (hb hby d8_27) _ ?_
    show Steps p.tables e below (s₁.setTop (mkF m 28 #[.val (.ref a1), .val (.int (0 : Int32)), .val (.int (4 : Int32)), .val (.int sk), .val (.int (0 : Int32)), .val (.int (3 : Int32)), .val (.int (1 : Int32)), .unset] [(.int f1)])) _
    refine XS.istore X0.here hx rfl (hb hby d8_28) rfl (l' := #[.val (.ref a1), .val (.int (0 : Int32)), .val (.int (4 : Int32)), .val (.int sk), .val (.int (0 : Int32)), .val (.int (3 : Int32)), .val (.int (1 : Int32)), .val (.int f1)]) rfl ?_
    show Steps p.tables e below (s₁.setTop (mkF m 30 #[.val (.ref a1), .val (.int (0 : Int32)), .val (.int (4 : Int32)), .val (.int sk), .val (.int (0 : Int32)), .val (.int (3 : Int32)), .val (.int (1 : Int32)), .val (.int f1)] [])) _
    refine XS.iload X0.here hx rfl (hb hby d8_30) rfl ?_
    show Steps p.tables e below (s₁.setTop (mkF m 32 #[.val (.ref a1), .val (.int (0 : Int32)), .val (.int (4 : Int32)), .val (.int sk), .val (.int (0 : Int32)), .val (.int (3 : Int32)), .val (.int (1 : Int32)), .val (.int f1)] [(.int f1)])) _
    refine XS.iloadN X0.here hx rfl (hb hby d8_32) rfl ?_
    show Steps p.tables e below (s₁.setTop (mkF m 33 #[.val (.ref a1), .val (.int (0 : Int32)), .val (.int (4 : Int32)), .val (.int sk), .val (.int (0 : Int32)), .val (.int (3 : Int32)), .val (.int (1 : Int32)), .val (.int f1)] [(.int sk), (.int f1)])) _
    refine XS.icmpYes X0.here hx rfl (pc0 := 33) (pc' := 45) rfl (hb hby d8_33) rfl (flt hc33_1).2.1 (by decide) (by decide) ?_
    show Steps p.tables e below (s₁.setTop (mkF m 45 #[.val (.ref a1), .val (.int (0 : Int32)), .val (.int (4 : Int32)), .val (.int sk), .val (.int (0 : Int32)), .val (.int (3 : Int32)), .val (.int (1 : Int32)), .val (.int f1)] [])) _
    refine XS.iload X0.here hx rfl (hb hby d8_45) rfl ?_
    show Steps p.tables e below (s₁.setTop (mkF m 47 #[.val (.ref a1), .val (.int (0 : Int32)), .val (.int (4 : Int32)), .val (.int sk), .val (.int (0 : Int32)), .val (.int (3 : Int32)), .val (.int (1 : Int32)), .val (.int f1)] [(.int f1)])) _
    refine XS.iloadN X0.here hx rfl (hb hby d8_47) rfl ?_
    show Steps p.tables e below (s₁.setTop (mkF m 48 #[.val (.ref a1), .val (.int (0 : Int32)), .val (.int (4 : Int32)), .val (.int sk), .val (.int (0 : Int32)), .val (.int (3 : Int32)), .val (.int (1 : Int32)), .val (.int f1)] [(.int sk), (.int f1)])) _
    refine XS.icmpYes X0.here hx rfl (pc0 := 48) (pc' := 60) rfl (hb hby d8_48) rfl (flt hc48_1).2.2.2 (by decide) (by decide) ?_
    show Steps p.tables e below (s₁.setTop (mkF m 60 #[.val (.ref a1), .val (.int (0 : Int32)), .val (.int (4 : Int32)), .val (.int sk), .val (.int (0 : Int32)), .val (.int (3 : Int32)), .val (.int (1 : Int32)), .val (.int f1)] [])) _
    refine XS.iload X0.here hx rfl (hb hby d8_60) rfl ?_
    show Steps p.tables e below (s₁.setTop (mkF m 62 #[.val (.ref a1), .val (.int (0 : Int32)), .val (.int (4 : Int32)), .val (.int sk), .val (.int (0 : Int32)), .val (.int (3 : Int32)), .val (.int (1 : Int32)), .val (.int f1)] [(.int (1 : Int32))])) _
    exact retI X0 hx Bd.returns (hb hby d8_62) hr      -- retI stands in the head ('lawwalk <made dir>' prints it)
  · show Q8 (1 : Int32) h0 n0 _ s₁.heap _
    rw [e0]
    exact ⟨rfl, N0, rfl⟩
set_option maxRecDepth 65536 in
set_option maxHeartbeats 40000000 in
theorem rm8_n2 (l : Launch) (Z : State) (a0 : Array Value) (hw : ∀ d ∈ tables_1, d.before a0 Z = true) (ws : List Jvm.Cond) (a1 : Addr) (sk : Int32) (k : ClassId) (f0 f1 f2 f3 : Int32) (h0 : Heap) (n0 : Nat) (Z0 : n0 ≤ h0.size) (V : Arv Z h0 a1 k .int 4 [.int f0, .int f1, .int f2, .int f3] (.int 0)) (hf1 : sk < f1) (hf0 : f0 < sk) :
    MetFree l (⟨"java/util/Arrays", "binarySearch0", "([IIII)I"⟩ : MethodName) (head1 (Jvm.Cond.code (⟨"java/util/Arrays", "binarySearch0", "([IIII)I"⟩ : MethodName) jdk_65_method_59_code 8 (some .int) :: ws) ({ frames := 0, cells := 0, slots := 0, locals := 0 } : Room)) (fun a U => a = #[(.ref a1), (.int (0 : Int32)), (.int (4 : Int32)), (.int sk)] ∧ Z.Warmed39 U.vm ∧ U.heap = h0) (fun _ _ _ _ _ => True) (fun _ U o U' => ∃ v L, o = .returned v ∧ Q8 (-(2 : Int32)) h0 n0 v U'.heap L ∧ FrameEnd U o U' L ({ frames := 0, cells := 0, slots := 0, locals := 0 } : Room).cells ({ frames := 0, cells := 0, slots := 0, locals := 0 } : Room).slots) := by
  refine MetFree.of_bodySF (plainFor_of_name pn_8) hisR ?_
  intro p e s m args below meth c s₁ Bd hml0 hP hK
  obtain ⟨rfl, hZ, hh⟩ := hP
  obtain ⟨cl_a1, Ar_a1, q_a1, S_a1, N_a1, H_a1, G_a1⟩ := V
  have hc12_1 : ¬ ((3 : Int32) < (0 : Int32)) := by decide
  have hin27_1 : ¬ ((1 : Int32) < 0 ∨ cl_a1.slots.size ≤ ((1 : Int32)).toNatClampNeg) := inb_of S_a1 ⟨by decide, by decide⟩
  have hat27_1 : cl_a1.slots[((1 : Int32)).toNatClampNeg]? = some (.int f1) := Has.at H_a1 hin27_1 rfl
  have hc33_1 : ¬ (f1 < sk) := own_nlt hf1
  have hc48_1 : sk < f1 := hf1
  have hc12_2 : ¬ ((0 : Int32) < (0 : Int32)) := by decide
  have hin27_2 : ¬ ((0 : Int32) < 0 ∨ cl_a1.slots.size ≤ ((0 : Int32)).toNatClampNeg) := inb_of S_a1 ⟨by decide, by decide⟩
  have hat27_2 : cl_a1.slots[((0 : Int32)).toNatClampNeg]? = some (.int f0) := Has.at H_a1 hin27_2 rfl
  have hc33_2 : f0 < sk := hf0
  have hc12_3 : (0 : Int32) < (1 : Int32) := by decide
  have hx := Bd.exec
  have hby := Bd.bytes
  have hml : c.maxLocals = 8 := hml0
  have hown : s.vm.findClass "java/util/Arrays" = some m.cls := findClass_of_methodNamed Bd.named
  have hnm := (name_of_methodNamed Bd.named Bd.method).1
  have X0 : Stand p l e ({ frames := 0, cells := 0, slots := 0, locals := 0 } : Room) s m #[(.ref a1), (.int (0 : Int32)), (.int (4 : Int32)), (.int sk)] below meth c s₁ [] 0 0 := Stand.of_body Bd
  have e0 : s₁.heap = h0 := by rw [← hh, Bd.state]; rfl
  have N0 := Fr.nil n0
  have pre0 : ∀ t, Steps p.tables e below (s₁.setTop (mkF m 0 #[.val (.ref a1), .val (.int (0 : Int32)), .val (.int (4 : Int32)), .val (.int sk), .unset, .unset, .unset, .unset] [])) t → Steps p.tables e below (s₁.setTop (entryFrame m #[(.ref a1), (.int (0 : Int32)), (.int (4 : Int32)), (.int sk)] 8)) t := fun t k => castTop (ef_8 m a1 (0 : Int32) (4 : Int32) sk) k
  -- 3. LAWS

  obtain ⟨fs, hr, hrun, hended, hW, hsame⟩ := X0.leave (v := some (.int (-(2 : Int32)))) (fun h => by rw [Bd.returns] at h; cases h)
  refine ⟨_, _, pre0 _ ?_, hrun, hended, _, _, rfl, ?_, ⟨_, rfl⟩, hW, hsame.mono (by decide) (by decide)⟩
  -- 4. STEPS
  · show Steps p.tables e below (s₁.setTop (mkF m 0 #[.val (.ref a1), .val (.int (0 : Int32)), .val (.int (4 : Int32)), .val (.int sk), .unset, .unset, .unset, .unset] [])) _
    refine XS.iloadN X0.here hx rfl (hb hby d8_0) rfl ?_
    show Steps p.tables e below (s₁.setTop (mkF m 1 #[.val (.ref a1), .val (.int (0 : Int32)), .val (.int (4 : Int32)), .val (.int sk), .unset, .unset, .unset, .unset] [(.int (0 : Int32))])) _
    refine XS.istore X0.here hx rfl (hb hby d8_1) rfl (l' := #[.val (.ref a1), .val (.int (0 : Int32)), .val (.int (4 : Int32)), .val (.int sk), .val (.int (0 : Int32)), .unset, .unset, .unset]) rfl ?_
    show Steps p.tables e below (s₁.setTop (mkF m 3 #[.val (.ref a1), .val (.int (0 : Int32)), .val (.int (4 : Int32)), .val (.int sk), .val (.int (0 : Int32)), .unset, .unset, .unset] [])) _
    refine XS.iloadN X0.here hx rfl (hb hby d8_3) rfl ?_
    show Steps p.tables e below (s₁.setTop (mkF m 4 #[.val (.ref a1), .val (.int (0 : Int32)), .val (.int (4 : Int32)), .val (.int sk), .val (.int (0 : Int32)), .unset, .unset, .unset] [(.int (4 : Int32))])) _
    refine XS.iconst X0.here hx rfl (hb hby d8_4) ?_
    show Steps p.tables e below (s₁.setTop (mkF m 5 #[.val (.ref a1), .val (.int (0 : Int32)), .val (.int (4 : Int32)), .val (.int sk), .val (.int (0 : Int32)), .unset, .unset, .unset] [(.int (1 : Int32)), (.int (4 : Int32))])) _
    refine XS.isub X0.here hx rfl (hb hby d8_5) rfl ?_
    show Steps p.tables e below (s₁.setTop (mkF m 6 #[.val (.ref a1), .val (.int (0 : Int32)), .val (.int (4 : Int32)), .val (.int sk), .val (.int (0 : Int32)), .unset, .unset, .unset] [(.int (3 : Int32))])) _
    refine XS.istore X0.here hx rfl (hb hby d8_6) rfl (l' := #[.val (.ref a1), .val (.int (0 : Int32)), .val (.int (4 : Int32)), .val (.int sk), .val (.int (0 : Int32)), .val (.int (3 : Int32)), .unset, .unset]) rfl ?_
    show Steps p.tables e below (s₁.setTop (mkF m 8 #[.val (.ref a1), .val (.int (0 : Int32)), .val (.int (4 : Int32)), .val (.int sk), .val (.int (0 : Int32)), .val (.int (3 : Int32)), .unset, .unset] [])) _
    refine XS.iload X0.here hx rfl (hb hby d8_8) rfl ?_
    show Steps p.tables e below (s₁.setTop (mkF m 10 #[.val (.ref a1), .val (.int (0 : Int32)), .val (.int (4 : Int32)), .val (.int sk), .val (.int (0 : Int32)), .val (.int (3 : Int32)), .unset, .unset] [(.int (0 : Int32))])) _
    refine XS.iload X0.here hx rfl (hb hby d8_10) rfl ?_
    show Steps p.tables e below (s₁.setTop (mkF m 12 #[.val (.ref a1), .val (.int (0 : Int32)), .val (.int (4 : Int32)), .val (.int sk), .val (.int (0 : Int32)), .val (.int (3 : Int32)), .unset, .unset] [(.int (3 : Int32)), (.int (0 : Int32))])) _
    refine XS.icmpNo X0.here hx rfl (hb hby d8_12) rfl (flt hc12_1).2.2.1 ?_
    show Steps p.tables e below (s₁.setTop (mkF m 15 #[.val (.ref a1), .val (.int (0 : Int32)), .val (.int (4 : Int32)), .val (.int sk), .val (.int (0 : Int32)), .val (.int (3 : Int32)), .unset, .unset] [])) _
    refine XS.iload X0.here hx rfl (hb hby d8_15) rfl ?_
    show Steps p.tables e below (s₁.setTop (mkF m 17 #[.val (.ref a1), .val (.int (0 : Int32)), .val (.int (4 : Int32)), .val (.int sk), .val (.int (0 : Int32)), .val (.int (3 : Int32)), .unset, .unset] [(.int (0 : Int32))])) _
    refine XS.iload X0.here hx rfl (hb hby d8_17) rfl ?_
    show Steps p.tables e below (s₁.setTop (mkF m 19 #[.val (.ref a1), .val (.int (0 : Int32)), .val (.int (4 : Int32)), .val (.int sk), .val (.int (0 : Int32)), .val (.int (3 : Int32)), .unset, .unset] [(.int (3 : Int32)), (.int (0 : Int32))])) _
    refine XS.iadd X0.here hx rfl (hb hby d8_19) rfl ?_
    show Steps p.tables e below (s₁.setTop (mkF m 20 #[.val (.ref a1), .val (.int (0 : Int32)), .val (.int (4 : Int32)), .val (.int sk), .val (.int (0 : Int32)), .val (.int (3 : Int32)), .unset, .unset] [(.int (3 : Int32))])) _
    refine XS.iconst X0.here hx rfl (hb hby d8_20) ?_
    show Steps p.tables e below (s₁.setTop (mkF m 21 #[.val (.ref a1), .val (.int (0 : Int32)), .val (.int (4 : Int32)), .val (.int sk), .val (.int (0 : Int32)), .val (.int (3 : Int32)), .unset, .unset] [(.int (1 : Int32)), (.int (3 : Int32))])) _
    refine XS.iushr X0.here hx rfl (hb hby d8_21) rfl ?_
    show Steps p.tables e below (s₁.setTop (mkF m 22 #[.val (.ref a1), .val (.int (0 : Int32)), .val (.int (4 : Int32)), .val (.int sk), .val (.int (0 : Int32)), .val (.int (3 : Int32)), .unset, .unset] [(.int (1 : Int32))])) _
    refine XS.istore X0.here hx rfl (hb hby d8_22) rfl (l' := #[.val (.ref a1), .val (.int (0 : Int32)), .val (.int (4 : Int32)), .val (.int sk), .val (.int (0 : Int32)), .val (.int (3 : Int32)), .val (.int (1 : Int32)), .unset]) rfl ?_
    show Steps p.tables e below (s₁.setTop (mkF m 24 #[.val (.ref a1), .val (.int (0 : Int32)), .val (.int (4 : Int32)), .val (.int sk), .val (.int (0 : Int32)), .val (.int (3 : Int32)), .val (.int (1 : Int32)), .unset] [])) _
    refine XS.aloadN X0.here hx rfl (hb hby d8_24) rfl rfl ?_
    show Steps p.tables e below (s₁.setTop (mkF m 25 #[.val (.ref a1), .val (.int (0 : Int32)), .val (.int (4 : Int32)), .val (.int sk), .val (.int (0 : Int32)), .val (.int (3 : Int32)), .val (.int (1 : Int32)), .unset] [(.ref a1)])) _
    refine XS.iload X0.here hx rfl (hb hby d8_25) rfl ?_
    show Steps p.tables e below (s₁.setTop (mkF m 27 #[.val (.ref a1), .val (.int (0 : Int32)), .val (.int (4 : Int32)), .val (.int sk), .val (.int (0 : Int32)), .val (.int (3 : Int32)), .val (.int (1 : Int32)), .unset] [(.int (1 : Int32)), (.ref a1)])) _
    refine X0.iaload hx (j := (1 : Int32)) (v := (.int f1)) (by rw [e0]; exact Ar_a1.1) (State.isArrayOf_alike hZ.alike Ar_a1.2.1) Ar_a1.2.2 hin27_1 hat27_1 (g := (mkF m 27 #[.val (.ref a1), .val (.int (0 : Int32)), .val (.int (4 : Int32)), .val (.int sk), .val (.int (0 : Int32)), .val (.int (3 : Int32)), .val (.int (1 : Int32)), .unset] [(.int (1 : Int32)), (.ref a1)])) rfl rfl (hb hby d8_27) _ ?_
    show Steps p.tables e below (s₁.setTop (mkF m 28 #[.val (.ref a1), .val (.int (0 : Int32)), .val (.int (4 : Int32)), .val (.int sk), .val (.int (0 : Int32)), .val (.int (3 : Int32)), .val (.int (1 : Int32)), .unset] [(.int f1)])) _
    refine XS.istore X0.here hx rfl (hb hby d8_28) rfl (l' := #[.val (.ref a1), .val (.int (0 : Int32)), .val (.int (4 : Int32)), .val (.int sk), .val (.int (0 : Int32)), .val (.int (3 : Int32)), .val (.int (1 : Int32)), .val (.int f1)]) rfl ?_
    show Steps p.tables e below (s₁.setTop (mkF m 30 #[.val (.ref a1), .val (.int (0 : Int32)), .val (.int (4 : Int32)), .val (.int sk), .val (.int (0 : Int32)), .val (.int (3 : Int32)), .val (.int (1 : Int32)), .val (.int f1)] [])) _
    refine XS.iload X0.here hx rfl (hb hby d8_30) rfl ?_
    show Steps p.tables e below (s₁.setTop (mkF m 32 #[.val (.ref a1), .val (.int (0 : Int32)), .val (.int (4 : Int32)), .val (.int sk), .val (.int (0 : Int32)), .val (.int (3 : Int32)), .val (.int (1 : Int32)), .val (.int f1)] [(.int f1)])) _
    refine XS.iloadN X0.here hx rfl (hb hby d8_32) rfl ?_
    show Steps p.tables e below (s₁.setTop (mkF m 33 #[.val (.ref a1), .val (.int (0 : Int32)), .val (.int (4 : Int32)), .val (.int sk), .val (.int (0 : Int32)), .val (.int (3 : Int32)), .val (.int (1 : Int32)), .val (.int f1)] [(.int sk), (.int f1)])) _
    refine XS.icmpYes X0.here hx rfl (pc0 := 33) (pc' := 45) rfl (hb hby d8_33) rfl (flt hc33_1).2.1 (by decide) (by decide) ?_
    show Steps p.tables e below (s₁.setTop (mkF m 45 #[.val (.ref a1), .val (.int (0 : Int32)), .val (.int (4 : Int32)), .val (.int sk), .val (.int (0 : Int32)), .val (.int (3 : Int32)), .val (.int (1 : Int32)), .val (.int f1)] [])) _
    refine XS.iload X0.here hx rfl (hb hby d8_45) rfl ?_
    show Steps p.tables e below (s₁.setTop (mkF m 47 #[.val (.ref a1), .val (.int (0 : Int32)), .val (.int (4 : Int32)), .val (.int sk), .val (.int (0 : Int32)), .val (.int (3 : Int32)), .val (.int (1 : Int32)), .val (.int f1)] [(.int f1)])) _
    refine XS.iloadN X0.here hx rfl (hb hby d8_47) rfl ?_
    show Steps p.tables e below (s₁.setTop (mkF m 48 #[.val (.ref a1), .val (.int (0 : Int32)), .val (.int (4 : Int32)), .val (.int sk), .val (.int (0 : Int32)), .val (.int (3 : Int32)), .val (.int (1 : Int32)), .val (.int f1)] [(.int sk), (.int f1)])) _
    refine XS.icmpNo X0.here hx rfl (hb hby d8_48) rfl (tlt hc48_1).2.2.2 ?_
    show Steps p.tables e below (s₁.setTop (mkF m 51 #[.val (.ref a1), .val (.int (0 : Int32)), .val (.int (4 : Int32)), .val (.int sk), .val (.int (0 : Int32)), .val (.int (3 : Int32)), .val (.int (1 : Int32)), .val (.int f1)] [])) _
    refine XS.iload X0.here hx rfl (hb hby d8_51) rfl ?_
    show Steps p.tables e below (s₁.setTop (mkF m 53 #[.val (.ref a1), .val (.int (0 : Int32)), .val (.int (4 : Int32)), .val (.int sk), .val (.int (0 : Int32)), .val (.int (3 : Int32)), .val (.int (1 : Int32)), .val (.int f1)] [(.int (1 : Int32))])) _
    refine XS.iconst X0.here hx rfl (hb hby d8_53) ?_
    show Steps p.tables e below (s₁.setTop (mkF m 54 #[.val (.ref a1), .val (.int (0 : Int32)), .val (.int (4 : Int32)), .val (.int sk), .val (.int (0 : Int32)), .val (.int (3 : Int32)), .val (.int (1 : Int32)), .val (.int f1)] [(.int (1 : Int32)), (.int (1 : Int32))])) _
    refine XS.isub X0.here hx rfl (hb hby d8_54) rfl ?_
    show Steps p.tables e below (s₁.setTop (mkF m 55 #[.val (.ref a1), .val (.int (0 : Int32)), .val (.int (4 : Int32)), .val (.int sk), .val (.int (0 : Int32)), .val (.int (3 : Int32)), .val (.int (1 : Int32)), .val (.int f1)] [(.int (0 : Int32))])) _
    refine XS.istore X0.here hx rfl (hb hby d8_55) rfl (l' := #[.val (.ref a1), .val (.int (0 : Int32)), .val (.int (4 : Int32)), .val (.int sk), .val (.int (0 : Int32)), .val (.int (0 : Int32)), .val (.int (1 : Int32)), .val (.int f1)]) rfl ?_
    show Steps p.tables e below (s₁.setTop (mkF m 57 #[.val (.ref a1), .val (.int (0 : Int32)), .val (.int (4 : Int32)), .val (.int sk), .val (.int (0 : Int32)), .val (.int (0 : Int32)), .val (.int (1 : Int32)), .val (.int f1)] [])) _
    refine XS.goto X0.here hx rfl (pc0 := 57) (pc' := 63) rfl (hb hby d8_57) (by decide) (by decide) ?_
    show Steps p.tables e below (s₁.setTop (mkF m 63 #[.val (.ref a1), .val (.int (0 : Int32)), .val (.int (4 : Int32)), .val (.int sk), .val (.int (0 : Int32)), .val (.int (0 : Int32)), .val (.int (1 : Int32)), .val (.int f1)] [])) _
    refine XS.goto X0.here hx rfl (pc0 := 63) (pc' := 8) rfl (hb hby d8_63) (by decide) (by decide) ?_
    show Steps p.tables e below (s₁.setTop (mkF m 8 #[.val (.ref a1), .val (.int (0 : Int32)), .val (.int (4 : Int32)), .val (.int sk), .val (.int (0 : Int32)), .val (.int (0 : Int32)), .val (.int (1 : Int32)), .val (.int f1)] [])) _
    refine XS.iload X0.here hx rfl (hb hby d8_8) rfl ?_
    show Steps p.tables e below (s₁.setTop (mkF m 10 #[.val (.ref a1), .val (.int (0 : Int32)), .val (.int (4 : Int32)), .val (.int sk), .val (.int (0 : Int32)), .val (.int (0 : Int32)), .val (.int (1 : Int32)), .val (.int f1)] [(.int (0 : Int32))])) _
    refine XS.iload X0.here hx rfl (hb hby d8_10) rfl ?_
    show Steps p.tables e below (s₁.setTop (mkF m 12 #[.val (.ref a1), .val (.int (0 : Int32)), .val (.int (4 : Int32)), .val (.int sk), .val (.int (0 : Int32)), .val (.int (0 : Int32)), .val (.int (1 : Int32)), .val (.int f1)] [(.int (0 : Int32)), (.int (0 : Int32))])) _
    refine XS.icmpNo X0.here hx rfl (hb hby d8_12) rfl (flt hc12_2).2.2.1 ?_
    show Steps p.tables e below (s₁.setTop (mkF m 15 #[.val (.ref a1), .val (.int (0 : Int32)), .val (.int (4 : Int32)), .val (.int sk), .val (.int (0 : Int32)), .val (.int (0 : Int32)), .val (.int (1 : Int32)), .val (.int f1)] [])) _
    refine XS.iload X0.here hx rfl (hb hby d8_15) rfl ?_
    show Steps p.tables e below (s₁.setTop (mkF m 17 #[.val (.ref a1), .val (.int (0 : Int32)), .val (.int (4 : Int32)), .val (.int sk), .val (.int (0 : Int32)), .val (.int (0 : Int32)), .val (.int (1 : Int32)), .val (.int f1)] [(.int (0 : Int32))])) _
    refine XS.iload X0.here hx rfl (hb hby d8_17) rfl ?_
    show Steps p.tables e below (s₁.setTop (mkF m 19 #[.val (.ref a1), .val (.int (0 : Int32)), .val (.int (4 : Int32)), .val (.int sk), .val (.int (0 : Int32)), .val (.int (0 : Int32)), .val (.int (1 : Int32)), .val (.int f1)] [(.int (0 : Int32)), (.int (0 : Int32))])) _
    refine XS.iadd X0.here hx rfl (hb hby d8_19) rfl ?_
    show Steps p.tables e below (s₁.setTop (mkF m 20 #[.val (.ref a1), .val (.int (0 : Int32)), .val (.int (4 : Int32)), .val (.int sk), .val (.int (0 : Int32)), .val (.int (0 : Int32)), .val (.int (1 : Int32)), .val (.int f1)] [(.int (0 : Int32))])) _
    refine XS.iconst X0.here hx rfl (hb hby d8_20) ?_
    show Steps p.tables e below (s₁.setTop (mkF m 21 #[.val (.ref a1), .val (.int (0 : Int32)), .val (.int (4 : Int32)), .val (.int sk), .val (.int (0 : Int32)), .val (.int (0 : Int32)), .val (.int (1 : Int32)), .val (.int f1)] [(.int (1 : Int32)), (.int (0 : Int32))])) _
    refine XS.iushr X0.here hx rfl (hb hby d8_21) rfl ?_
    show Steps p.tables e below (s₁.setTop (mkF m 22 #[.val (.ref a1), .val (.int (0 : Int32)), .val (.int (4 : Int32)), .val (.int sk), .val (.int (0 : Int32)), .val (.int (0 : Int32)), .val (.int (1 : Int32)), .val (.int f1)] [(.int (0 : Int32))])) _
    refine XS.istore X0.here hx rfl (hb hby d8_22) rfl (l' := #[.val (.ref a1), .val (.int (0 : Int32)), .val (.int (4 : Int32)), .val (.int sk), .val (.int (0 : Int32)), .val (.int (0 : Int32)), .val (.int (0 : Int32)), .val (.int f1)]) rfl ?_
    show Steps p.tables e below (s₁.setTop (mkF m 24 #[.val (.ref a1), .val (.int (0 : Int32)), .val (.int (4 : Int32)), .val (.int sk), .val (.int (0 : Int32)), .val (.int (0 : Int32)), .val (.int (0 : Int32)), .val (.int f1)] [])) _
    refine XS.aloadN X0.here hx rfl (hb hby d8_24) rfl rfl ?_
    show Steps p.tables e below (s₁.setTop (mkF m 25 #[.val (.ref a1), .val (.int (0 : Int32)), .val (.int (4 : Int32)), .val (.int sk), .val (.int (0 : Int32)), .val (.int (0 : Int32)), .val (.int (0 : Int32)), .val (.int f1)] [(.ref a1)])) _
    refine XS.iload X0.here hx rfl (hb hby d8_25) rfl ?_
    show Steps p.tables e below (s₁.setTop (mkF m 27 #[.val (.ref a1), .val (.int (0 : Int32)), .val (.int (4 : Int32)), .val (.int sk), .val (.int (0 : Int32)), .val (.int (0 : Int32)), .val (.int (0 : Int32)), .val (.int f1)] [(.int (0 : Int32)), (.ref a1)])) _
    refine X0.iaload hx (j := (0 : Int32)) (v := (.int f0)) (by rw [e0]; exact Ar_a1.1) (State.isArrayOf_alike hZ.alike Ar_a1.2.1) Ar_a1.2.2 hin27_2 hat27_2 (g := (mkF m 27 #[.val (.ref a1), .val (.int (0 : Int32)), .val (.int (4 : Int32)), .val (.int sk), .val (.int (0 : Int32)), .val (.int (0 : Int32)), .val (.int (0 : Int32)), .val (.int f1)] [(.int (0 : Int32)), (.ref a1)])) rfl rfl (hb hby d8_27) _ ?_
    show Steps p.tables e below (s₁.setTop (mkF m 28 #[.val (.ref a1), .val (.int (0 : Int32)), .val (.int (4 : Int32)), .val (.int sk), .val (.int (0 : Int32)), .val (.int (0 : Int32)), .val (.int (0 : Int32)), .val (.int f1)] [(.int f0)])) _
    refine XS.istore X0.here hx rfl (hb hby d8_28) rfl (l' := #[.val (.ref a1), .val (.int (0 : Int32)), .val (.int (4 : Int32)), .val (.int sk), .val (.int (0 : Int32)), .val (.int (0 : Int32)), .val (.int (0 : Int32)), .val (.int f0)]) rfl ?_
    show Steps p.tables e below (s₁.setTop (mkF m 30 #[.val (.ref a1), .val (.int (0 : Int32)), .val (.int (4 : Int32)), .val (.int sk), .val (.int (0 : Int32)), .val (.int (0 : Int32)), .val (.int (0 : Int32)), .val (.int f0)] [])) _
    refine XS.iload X0.here hx rfl (hb hby d8_30) rfl ?_
    show Steps p.tables e below (s₁.setTop (mkF m 32 #[.val (.ref a1), .val (.int (0 : Int32)), .val (.int (4 : Int32)), .val (.int sk), .val (.int (0 : Int32)), .val (.int (0 : Int32)), .val (.int (0 : Int32)), .val (.int f0)] [(.int f0)])) _
    refine XS.iloadN X0.here hx rfl (hb hby d8_32) rfl ?_
    show Steps p.tables e below (s₁.setTop (mkF m 33 #[.val (.ref a1), .val (.int (0 : Int32)), .val (.int (4 : Int32)), .val (.int sk), .val (.int (0 : Int32)), .val (.int (0 : Int32)), .val (.int (0 : Int32)), .val (.int f0)] [(.int sk), (.int f0)])) _
    refine XS.icmpNo X0.here hx rfl (hb hby d8_33) rfl (tlt hc33_2).2.1 ?_
    show Steps p.tables e below (s₁.setTop (mkF m 36 #[.val (.ref a1), .val (.int (0 : Int32)), .val (.int (4 : Int32)), .val (.int sk), .val (.int (0 : Int32)), .val (.int (0 : Int32)), .val (.int (0 : Int32)), .val (.int f0)] [])) _
    refine XS.iload X0.here hx rfl (hb hby d8_36) rfl ?_
    show Steps p.tables e below (s₁.setTop (mkF m 38 #[.val (.ref a1), .val (.int (0 : Int32)), .val (.int (4 : Int32)), .val (.int sk), .val (.int (0 : Int32)), .val (.int (0 : Int32)), .val (.int (0 : Int32)), .val (.int f0)] [(.int (0 : Int32))])) _
    refine XS.iconst X0.here hx rfl (hb hby d8_38) ?_
    show Steps p.tables e below (s₁.setTop (mkF m 39 #[.val (.ref a1), .val (.int (0 : Int32)), .val (.int (4 : Int32)), .val (.int sk), .val (.int (0 : Int32)), .val (.int (0 : Int32)), .val (.int (0 : Int32)), .val (.int f0)] [(.int (1 : Int32)), (.int (0 : Int32))])) _
    refine XS.iadd X0.here hx rfl (hb hby d8_39) rfl ?_
    show Steps p.tables e below (s₁.setTop (mkF m 40 #[.val (.ref a1), .val (.int (0 : Int32)), .val (.int (4 : Int32)), .val (.int sk), .val (.int (0 : Int32)), .val (.int (0 : Int32)), .val (.int (0 : Int32)), .val (.int f0)] [(.int (1 : Int32))])) _
    refine XS.istore X0.here hx rfl (hb hby d8_40) rfl (l' := #[.val (.ref a1), .val (.int (0 : Int32)), .val (.int (4 : Int32)), .val (.int sk), .val (.int (1 : Int32)), .val (.int (0 : Int32)), .val (.int (0 : Int32)), .val (.int f0)]) rfl ?_
    show Steps p.tables e below (s₁.setTop (mkF m 42 #[.val (.ref a1), .val (.int (0 : Int32)), .val (.int (4 : Int32)), .val (.int sk), .val (.int (1 : Int32)), .val (.int (0 : Int32)), .val (.int (0 : Int32)), .val (.int f0)] [])) _
    refine XS.goto X0.here hx rfl (pc0 := 42) (pc' := 63) rfl (hb hby d8_42) (by decide) (by decide) ?_
    show Steps p.tables e below (s₁.setTop (mkF m 63 #[.val (.ref a1), .val (.int (0 : Int32)), .val (.int (4 : Int32)), .val (.int sk), .val (.int (1 : Int32)), .val (.int (0 : Int32)), .val (.int (0 : Int32)), .val (.int f0)] [])) _
    refine XS.goto X0.here hx rfl (pc0 := 63) (pc' := 8) rfl (hb hby d8_63) (by decide) (by decide) ?_
    show Steps p.tables e below (s₁.setTop (mkF m 8 #[.val (.ref a1), .val (.int (0 : Int32)), .val (.int (4 : Int32)), .val (.int sk), .val (.int (1 : Int32)), .val (.int (0 : Int32)), .val (.int (0 : Int32)), .val (.int f0)] [])) _
    refine XS.iload X0.here hx rfl (hb hby d8_8) rfl ?_
    show Steps p.tables e below (s₁.setTop (mkF m 10 #[.val (.ref a1), .val (.int (0 : Int32)), .val (.int (4 : Int32)), .val (.int sk), .val (.int (1 : Int32)), .val (.int (0 : Int32)), .val (.int (0 : Int32)), .val (.int f0)] [(.int (1 : Int32))])) _
    refine XS.iload X0.here hx rfl (hb hby d8_10) rfl ?_
    show Steps p.tables e below (s₁.setTop (mkF m 12 #[.val (.ref a1), .val (.int (0 : Int32)), .val (.int (4 : Int32)), .val (.int sk), .val (.int (1 : Int32)), .val (.int (0 : Int32)), .val (.int (0 : Int32)), .val (.int f0)] [(.int (0 : Int32)), (.int (1 : Int32))])) _
    refine XS.icmpYes X0.here hx rfl (pc0 := 12) (pc' := 66) rfl (hb hby d8_12) rfl (tlt hc12_3).2.2.1 (by decide) (by decide) ?_
    show Steps p.tables e below (s₁.setTop (mkF m 66 #[.val (.ref a1), .val (.int (0 : Int32)), .val (.int (4 : Int32)), .val (.int sk), .val (.int (1 : Int32)), .val (.int (0 : Int32)), .val (.int (0 : Int32)), .val (.int f0)] [])) _
    refine XS.iload X0.here hx rfl (hb hby d8_66) rfl ?_
    show Steps p.tables e below (s₁.setTop (mkF m 68 #[.val (.ref a1), .val (.int (0 : Int32)), .val (.int (4 : Int32)), .val (.int sk), .val (.int (1 : Int32)), .val (.int (0 : Int32)), .val (.int (0 : Int32)), .val (.int f0)] [(.int (1 : Int32))])) _
    refine XS.iconst X0.here hx rfl (hb hby d8_68) ?_
    show Steps p.tables e below (s₁.setTop (mkF m 69 #[.val (.ref a1), .val (.int (0 : Int32)), .val (.int (4 : Int32)), .val (.int sk), .val (.int (1 : Int32)), .val (.int (0 : Int32)), .val (.int (0 : Int32)), .val (.int f0)] [(.int (1 : Int32)), (.int (1 : Int32))])) _
    refine XS.iadd X0.here hx rfl (hb hby d8_69) rfl ?_
    show Steps p.tables e below (s₁.setTop (mkF m 70 #[.val (.ref a1), .val (.int (0 : Int32)), .val (.int (4 : Int32)), .val (.int sk), .val (.int (1 : Int32)), .val (.int (0 : Int32)), .val (.int (0 : Int32)), .val (.int f0)] [(.int (2 : Int32))])) _
    refine XS.ineg X0.here hx rfl (hb hby d8_70) rfl ?_
    show Steps p.tables e below (s₁.setTop (mkF m 71 #[.val (.ref a1), .val (.int (0 : Int32)), .val (.int (4 : Int32)), .val (.int sk), .val (.int (1 : Int32)), .val (.int (0 : Int32)), .val (.int (0 : Int32)), .val (.int f0)] [(.int (-(2 : Int32)))])) _
    exact retI X0 hx Bd.returns (hb hby d8_71) hr      -- retI stands in the head ('lawwalk <made dir>' prints it)
  · show Q8 (-(2 : Int32)) h0 n0 _ s₁.heap _
    rw [e0]
    exact ⟨rfl, N0, rfl⟩
set_option maxRecDepth 65536 in
set_option maxHeartbeats 40000000 in
theorem rm8_e0 (l : Launch) (Z : State) (a0 : Array Value) (hw : ∀ d ∈ tables_1, d.before a0 Z = true) (ws : List Jvm.Cond) (a1 : Addr) (sk : Int32) (k : ClassId) (f0 f1 f2 f3 : Int32) (h0 : Heap) (n0 : Nat) (Z0 : n0 ≤ h0.size) (V : Arv Z h0 a1 k .int 4 [.int f0, .int f1, .int f2, .int f3] (.int 0)) (hf1 : sk < f1) (hf0 : f0 = sk) :
    MetFree l (⟨"java/util/Arrays", "binarySearch0", "([IIII)I"⟩ : MethodName) (head1 (Jvm.Cond.code (⟨"java/util/Arrays", "binarySearch0", "([IIII)I"⟩ : MethodName) jdk_65_method_59_code 8 (some .int) :: ws) ({ frames := 0, cells := 0, slots := 0, locals := 0 } : Room)) (fun a U => a = #[(.ref a1), (.int (0 : Int32)), (.int (4 : Int32)), (.int sk)] ∧ Z.Warmed39 U.vm ∧ U.heap = h0) (fun _ _ _ _ _ => True) (fun _ U o U' => ∃ v L, o = .returned v ∧ Q8 (0 : Int32) h0 n0 v U'.heap L ∧ FrameEnd U o U' L ({ frames := 0, cells := 0, slots := 0, locals := 0 } : Room).cells ({ frames := 0, cells := 0, slots := 0, locals := 0 } : Room).slots) := by
  refine MetFree.of_bodySF (plainFor_of_name pn_8) hisR ?_
  intro p e s m args below meth c s₁ Bd hml0 hP hK
  obtain ⟨rfl, hZ, hh⟩ := hP
  obtain ⟨cl_a1, Ar_a1, q_a1, S_a1, N_a1, H_a1, G_a1⟩ := V
  have hc12_1 : ¬ ((3 : Int32) < (0 : Int32)) := by decide
  have hin27_1 : ¬ ((1 : Int32) < 0 ∨ cl_a1.slots.size ≤ ((1 : Int32)).toNatClampNeg) := inb_of S_a1 ⟨by decide, by decide⟩
  have hat27_1 : cl_a1.slots[((1 : Int32)).toNatClampNeg]? = some (.int f1) := Has.at H_a1 hin27_1 rfl
  have hc33_1 : ¬ (f1 < sk) := own_nlt hf1
  have hc48_1 : sk < f1 := hf1
  have hc12_2 : ¬ ((0 : Int32) < (0 : Int32)) := by decide
  have hin27_2 : ¬ ((0 : Int32) < 0 ∨ cl_a1.slots.size ≤ ((0 : Int32)).toNatClampNeg) := inb_of S_a1 ⟨by decide, by decide⟩
  have hat27_2 : cl_a1.slots[((0 : Int32)).toNatClampNeg]? = some (.int f0) := Has.at H_a1 hin27_2 rfl
  have hc33_2 : ¬ (f0 < sk) := fun q => Int32.lt_irrefl (hf0 ▸ q)
  have hc48_2 : ¬ (sk < f0) := fun q => Int32.lt_irrefl (hf0 ▸ q)
  have hx := Bd.exec
  have hby := Bd.bytes
  have hml : c.maxLocals = 8 := hml0
  have hown : s.vm.findClass "java/util/Arrays" = some m.cls := findClass_of_methodNamed Bd.named
  have hnm := (name_of_methodNamed Bd.named Bd.method).1
  have X0 : Stand p l e ({ frames := 0, cells := 0, slots := 0, locals := 0 } : Room) s m #[(.ref a1), (.int (0 : Int32)), (.int (4 : Int32)), (.int sk)] below meth c s₁ [] 0 0 := Stand.of_body Bd
  have e0 : s₁.heap = h0 := by rw [← hh, Bd.state]; rfl
  have N0 := Fr.nil n0
  have pre0 : ∀ t, Steps p.tables e below (s₁.setTop (mkF m 0 #[.val (.ref a1), .val (.int (0 : Int32)), .val (.int (4 : Int32)), .val (.int sk), .unset, .unset, .unset, .unset] [])) t → Steps p.tables e below (s₁.setTop (entryFrame m #[(.ref a1), (.int (0 : Int32)), (.int (4 : Int32)), (.int sk)] 8)) t := fun t k => castTop (ef_8 m a1 (0 : Int32) (4 : Int32) sk) k
  -- 3. LAWS

  obtain ⟨fs, hr, hrun, hended, hW, hsame⟩ := X0.leave (v := some (.int (0 : Int32))) (fun h => by rw [Bd.returns] at h; cases h)
  refine ⟨_, _, pre0 _ ?_, hrun, hended, _, _, rfl, ?_, ⟨_, rfl⟩, hW, hsame.mono (by decide) (by decide)⟩
  -- 4. STEPS
  · show Steps p.tables e below (s₁.setTop (mkF m 0 #[.val (.ref a1), .val (.int (0 : Int32)), .val (.int (4 : Int32)), .val (.int sk), .unset, .unset, .unset, .unset] [])) _
    refine XS.iloadN X0.here hx rfl (hb hby d8_0) rfl ?_
    show Steps p.tables e below (s₁.setTop (mkF m 1 #[.val (.ref a1), .val (.int (0 : Int32)), .val (.int (4 : Int32)), .val (.int sk), .unset, .unset, .unset, .unset] [(.int (0 : Int32))])) _
    refine XS.istore X0.here hx rfl (hb hby d8_1) rfl (l' := #[.val (.ref a1), .val (.int (0 : Int32)), .val (.int (4 : Int32)), .val (.int sk), .val (.int (0 : Int32)), .unset, .unset, .unset]) rfl ?_
    show Steps p.tables e below (s₁.setTop (mkF m 3 #[.val (.ref a1), .val (.int (0 : Int32)), .val (.int (4 : Int32)), .val (.int sk), .val (.int (0 : Int32)), .unset, .unset, .unset] [])) _
    refine XS.iloadN X0.here hx rfl (hb hby d8_3) rfl ?_
    show Steps p.tables e below (s₁.setTop (mkF m 4 #[.val (.ref a1), .val (.int (0 : Int32)), .val (.int (4 : Int32)), .val (.int sk), .val (.int (0 : Int32)), .unset, .unset, .unset] [(.int (4 : Int32))])) _
    refine XS.iconst X0.here hx rfl (hb hby d8_4) ?_
    show Steps p.tables e below (s₁.setTop (mkF m 5 #[.val (.ref a1), .val (.int (0 : Int32)), .val (.int (4 : Int32)), .val (.int sk), .val (.int (0 : Int32)), .unset, .unset, .unset] [(.int (1 : Int32)), (.int (4 : Int32))])) _
    refine XS.isub X0.here hx rfl (hb hby d8_5) rfl ?_
    show Steps p.tables e below (s₁.setTop (mkF m 6 #[.val (.ref a1), .val (.int (0 : Int32)), .val (.int (4 : Int32)), .val (.int sk), .val (.int (0 : Int32)), .unset, .unset, .unset] [(.int (3 : Int32))])) _
    refine XS.istore X0.here hx rfl (hb hby d8_6) rfl (l' := #[.val (.ref a1), .val (.int (0 : Int32)), .val (.int (4 : Int32)), .val (.int sk), .val (.int (0 : Int32)), .val (.int (3 : Int32)), .unset, .unset]) rfl ?_
    show Steps p.tables e below (s₁.setTop (mkF m 8 #[.val (.ref a1), .val (.int (0 : Int32)), .val (.int (4 : Int32)), .val (.int sk), .val (.int (0 : Int32)), .val (.int (3 : Int32)), .unset, .unset] [])) _
    refine XS.iload X0.here hx rfl (hb hby d8_8) rfl ?_
    show Steps p.tables e below (s₁.setTop (mkF m 10 #[.val (.ref a1), .val (.int (0 : Int32)), .val (.int (4 : Int32)), .val (.int sk), .val (.int (0 : Int32)), .val (.int (3 : Int32)), .unset, .unset] [(.int (0 : Int32))])) _
    refine XS.iload X0.here hx rfl (hb hby d8_10) rfl ?_
    show Steps p.tables e below (s₁.setTop (mkF m 12 #[.val (.ref a1), .val (.int (0 : Int32)), .val (.int (4 : Int32)), .val (.int sk), .val (.int (0 : Int32)), .val (.int (3 : Int32)), .unset, .unset] [(.int (3 : Int32)), (.int (0 : Int32))])) _
    refine XS.icmpNo X0.here hx rfl (hb hby d8_12) rfl (flt hc12_1).2.2.1 ?_
    show Steps p.tables e below (s₁.setTop (mkF m 15 #[.val (.ref a1), .val (.int (0 : Int32)), .val (.int (4 : Int32)), .val (.int sk), .val (.int (0 : Int32)), .val (.int (3 : Int32)), .unset, .unset] [])) _
    refine XS.iload X0.here hx rfl (hb hby d8_15) rfl ?_
    show Steps p.tables e below (s₁.setTop (mkF m 17 #[.val (.ref a1), .val (.int (0 : Int32)), .val (.int (4 : Int32)), .val (.int sk), .val (.int (0 : Int32)), .val (.int (3 : Int32)), .unset, .unset] [(.int (0 : Int32))])) _
    refine XS.iload X0.here hx rfl (hb hby d8_17) rfl ?_
    show Steps p.tables e below (s₁.setTop (mkF m 19 #[.val (.ref a1), .val (.int (0 : Int32)), .val (.int (4 : Int32)), .val (.int sk), .val (.int (0 : Int32)), .val (.int (3 : Int32)), .unset, .unset] [(.int (3 : Int32)), (.int (0 : Int32))])) _
    refine XS.iadd X0.here hx rfl (hb hby d8_19) rfl ?_
    show Steps p.tables e below (s₁.setTop (mkF m 20 #[.val (.ref a1), .val (.int (0 : Int32)), .val (.int (4 : Int32)), .val (.int sk), .val (.int (0 : Int32)), .val (.int (3 : Int32)), .unset, .unset] [(.int (3 : Int32))])) _
    refine XS.iconst X0.here hx rfl (hb hby d8_20) ?_
    show Steps p.tables e below (s₁.setTop (mkF m 21 #[.val (.ref a1), .val (.int (0 : Int32)), .val (.int (4 : Int32)), .val (.int sk), .val (.int (0 : Int32)), .val (.int (3 : Int32)), .unset, .unset] [(.int (1 : Int32)), (.int (3 : Int32))])) _
    refine XS.iushr X0.here hx rfl (hb hby d8_21) rfl ?_
    show Steps p.tables e below (s₁.setTop (mkF m 22 #[.val (.ref a1), .val (.int (0 : Int32)), .val (.int (4 : Int32)), .val (.int sk), .val (.int (0 : Int32)), .val (.int (3 : Int32)), .unset, .unset] [(.int (1 : Int32))])) _
    refine XS.istore X0.here hx rfl (hb hby d8_22) rfl (l' := #[.val (.ref a1), .val (.int (0 : Int32)), .val (.int (4 : Int32)), .val (.int sk), .val (.int (0 : Int32)), .val (.int (3 : Int32)), .val (.int (1 : Int32)), .unset]) rfl ?_
    show Steps p.tables e below (s₁.setTop (mkF m 24 #[.val (.ref a1), .val (.int (0 : Int32)), .val (.int (4 : Int32)), .val (.int sk), .val (.int (0 : Int32)), .val (.int (3 : Int32)), .val (.int (1 : Int32)), .unset] [])) _
    refine XS.aloadN X0.here hx rfl (hb hby d8_24) rfl rfl ?_
    show Steps p.tables e below (s₁.setTop (mkF m 25 #[.val (.ref a1), .val (.int (0 : Int32)), .val (.int (4 : Int32)), .val (.int sk), .val (.int (0 : Int32)), .val (.int (3 : Int32)), .val (.int (1 : Int32)), .unset] [(.ref a1)])) _
    refine XS.iload X0.here hx rfl (hb hby d8_25) rfl ?_
    show Steps p.tables e below (s₁.setTop (mkF m 27 #[.val (.ref a1), .val (.int (0 : Int32)), .val (.int (4 : Int32)), .val (.int sk), .val (.int (0 : Int32)), .val (.int (3 : Int32)), .val (.int (1 : Int32)), .unset] [(.int (1 : Int32)), (.ref a1)])) _
    refine X0.iaload hx (j := (1 : Int32)) (v := (.int f1)) (by rw [e0]; exact Ar_a1.1) (State.isArrayOf_alike hZ.alike Ar_a1.2.1) Ar_a1.2.2 hin27_1 hat27_1 (g := (mkF m 27 #[.val (.ref a1), .val (.int (0 : Int32)), .val (.int (4 : Int32)), .val (.int sk), .val (.int (0 : Int32)), .val (.int (3 : Int32)), .val (.int (1 : Int32)), .unset] [(.int (1 : Int32)), (.ref a1)])) rfl rfl (hb hby d8_27) _ ?_
    show Steps p.tables e below (s₁.setTop (mkF m 28 #[.val (.ref a1), .val (.int (0 : Int32)), .val (.int (4 : Int32)), .val (.int sk), .val (.int (0 : Int32)), .val (.int (3 : Int32)), .val (.int (1 : Int32)), .unset] [(.int f1)])) _
    refine XS.istore X0.here hx rfl (hb hby d8_28) rfl (l' := #[.val (.ref a1), .val (.int (0 : Int32)), .val (.int (4 : Int32)), .val (.int sk), .val (.int (0 : Int32)), .val (.int (3 : Int32)), .val (.int (1 : Int32)), .val (.int f1)]) rfl ?_
    show Steps p.tables e below (s₁.setTop (mkF m 30 #[.val (.ref a1), .val (.int (0 : Int32)), .val (.int (4 : Int32)), .val (.int sk), .val (.int (0 : Int32)), .val (.int (3 : Int32)), .val (.int (1 : Int32)), .val (.int f1)] [])) _
    refine XS.iload X0.here hx rfl (hb hby d8_30) rfl ?_
    show Steps p.tables e below (s₁.setTop (mkF m 32 #[.val (.ref a1), .val (.int (0 : Int32)), .val (.int (4 : Int32)), .val (.int sk), .val (.int (0 : Int32)), .val (.int (3 : Int32)), .val (.int (1 : Int32)), .val (.int f1)] [(.int f1)])) _
    refine XS.iloadN X0.here hx rfl (hb hby d8_32) rfl ?_
    show Steps p.tables e below (s₁.setTop (mkF m 33 #[.val (.ref a1), .val (.int (0 : Int32)), .val (.int (4 : Int32)), .val (.int sk), .val (.int (0 : Int32)), .val (.int (3 : Int32)), .val (.int (1 : Int32)), .val (.int f1)] [(.int sk), (.int f1)])) _
    refine XS.icmpYes X0.here hx rfl (pc0 := 33) (pc' := 45) rfl (hb hby d8_33) rfl (flt hc33_1).2.1 (by decide) (by decide) ?_
    show Steps p.tables e below (s₁.setTop (mkF m 45 #[.val (.ref a1), .val (.int (0 : Int32)), .val (.int (4 : Int32)), .val (.int sk), .val (.int (0 : Int32)), .val (.int (3 : Int32)), .val (.int (1 : Int32)), .val (.int f1)] [])) _
    refine XS.iload X0.here hx rfl (hb hby d8_45) rfl ?_
    show Steps p.tables e below (s₁.setTop (mkF m 47 #[.val (.ref a1), .val (.int (0 : Int32)), .val (.int (4 : Int32)), .val (.int sk), .val (.int (0 : Int32)), .val (.int (3 : Int32)), .val (.int (1 : Int32)), .val (.int f1)] [(.int f1)])) _
    refine XS.iloadN X0.here hx rfl (hb hby d8_47) rfl ?_
    show Steps p.tables e below (s₁.setTop (mkF m 48 #[.val (.ref a1), .val (.int (0 : Int32)), .val (.int (4 : Int32)), .val (.int sk), .val (.int (0 : Int32)), .val (.int (3 : Int32)), .val (.int (1 : Int32)), .val (.int f1)] [(.int sk), (.int f1)])) _
    refine XS.icmpNo X0.here hx rfl (hb hby d8_48) rfl (tlt hc48_1).2.2.2 ?_
    show Steps p.tables e below (s₁.setTop (mkF m 51 #[.val (.ref a1), .val (.int (0 : Int32)), .val (.int (4 : Int32)), .val (.int sk), .val (.int (0 : Int32)), .val (.int (3 : Int32)), .val (.int (1 : Int32)), .val (.int f1)] [])) _
    refine XS.iload X0.here hx rfl (hb hby d8_51) rfl ?_
    show Steps p.tables e below (s₁.setTop (mkF m 53 #[.val (.ref a1), .val (.int (0 : Int32)), .val (.int (4 : Int32)), .val (.int sk), .val (.int (0 : Int32)), .val (.int (3 : Int32)), .val (.int (1 : Int32)), .val (.int f1)] [(.int (1 : Int32))])) _
    refine XS.iconst X0.here hx rfl (hb hby d8_53) ?_
    show Steps p.tables e below (s₁.setTop (mkF m 54 #[.val (.ref a1), .val (.int (0 : Int32)), .val (.int (4 : Int32)), .val (.int sk), .val (.int (0 : Int32)), .val (.int (3 : Int32)), .val (.int (1 : Int32)), .val (.int f1)] [(.int (1 : Int32)), (.int (1 : Int32))])) _
    refine XS.isub X0.here hx rfl (hb hby d8_54) rfl ?_
    show Steps p.tables e below (s₁.setTop (mkF m 55 #[.val (.ref a1), .val (.int (0 : Int32)), .val (.int (4 : Int32)), .val (.int sk), .val (.int (0 : Int32)), .val (.int (3 : Int32)), .val (.int (1 : Int32)), .val (.int f1)] [(.int (0 : Int32))])) _
    refine XS.istore X0.here hx rfl (hb hby d8_55) rfl (l' := #[.val (.ref a1), .val (.int (0 : Int32)), .val (.int (4 : Int32)), .val (.int sk), .val (.int (0 : Int32)), .val (.int (0 : Int32)), .val (.int (1 : Int32)), .val (.int f1)]) rfl ?_
    show Steps p.tables e below (s₁.setTop (mkF m 57 #[.val (.ref a1), .val (.int (0 : Int32)), .val (.int (4 : Int32)), .val (.int sk), .val (.int (0 : Int32)), .val (.int (0 : Int32)), .val (.int (1 : Int32)), .val (.int f1)] [])) _
    refine XS.goto X0.here hx rfl (pc0 := 57) (pc' := 63) rfl (hb hby d8_57) (by decide) (by decide) ?_
    show Steps p.tables e below (s₁.setTop (mkF m 63 #[.val (.ref a1), .val (.int (0 : Int32)), .val (.int (4 : Int32)), .val (.int sk), .val (.int (0 : Int32)), .val (.int (0 : Int32)), .val (.int (1 : Int32)), .val (.int f1)] [])) _
    refine XS.goto X0.here hx rfl (pc0 := 63) (pc' := 8) rfl (hb hby d8_63) (by decide) (by decide) ?_
    show Steps p.tables e below (s₁.setTop (mkF m 8 #[.val (.ref a1), .val (.int (0 : Int32)), .val (.int (4 : Int32)), .val (.int sk), .val (.int (0 : Int32)), .val (.int (0 : Int32)), .val (.int (1 : Int32)), .val (.int f1)] [])) _
    refine XS.iload X0.here hx rfl (hb hby d8_8) rfl ?_
    show Steps p.tables e below (s₁.setTop (mkF m 10 #[.val (.ref a1), .val (.int (0 : Int32)), .val (.int (4 : Int32)), .val (.int sk), .val (.int (0 : Int32)), .val (.int (0 : Int32)), .val (.int (1 : Int32)), .val (.int f1)] [(.int (0 : Int32))])) _
    refine XS.iload X0.here hx rfl (hb hby d8_10) rfl ?_
    show Steps p.tables e below (s₁.setTop (mkF m 12 #[.val (.ref a1), .val (.int (0 : Int32)), .val (.int (4 : Int32)), .val (.int sk), .val (.int (0 : Int32)), .val (.int (0 : Int32)), .val (.int (1 : Int32)), .val (.int f1)] [(.int (0 : Int32)), (.int (0 : Int32))])) _
    refine XS.icmpNo X0.here hx rfl (hb hby d8_12) rfl (flt hc12_2).2.2.1 ?_
    show Steps p.tables e below (s₁.setTop (mkF m 15 #[.val (.ref a1), .val (.int (0 : Int32)), .val (.int (4 : Int32)), .val (.int sk), .val (.int (0 : Int32)), .val (.int (0 : Int32)), .val (.int (1 : Int32)), .val (.int f1)] [])) _
    refine XS.iload X0.here hx rfl (hb hby d8_15) rfl ?_
    show Steps p.tables e below (s₁.setTop (mkF m 17 #[.val (.ref a1), .val (.int (0 : Int32)), .val (.int (4 : Int32)), .val (.int sk), .val (.int (0 : Int32)), .val (.int (0 : Int32)), .val (.int (1 : Int32)), .val (.int f1)] [(.int (0 : Int32))])) _
    refine XS.iload X0.here hx rfl (hb hby d8_17) rfl ?_
    show Steps p.tables e below (s₁.setTop (mkF m 19 #[.val (.ref a1), .val (.int (0 : Int32)), .val (.int (4 : Int32)), .val (.int sk), .val (.int (0 : Int32)), .val (.int (0 : Int32)), .val (.int (1 : Int32)), .val (.int f1)] [(.int (0 : Int32)), (.int (0 : Int32))])) _
    refine XS.iadd X0.here hx rfl (hb hby d8_19) rfl ?_
    show Steps p.tables e below (s₁.setTop (mkF m 20 #[.val (.ref a1), .val (.int (0 : Int32)), .val (.int (4 : Int32)), .val (.int sk), .val (.int (0 : Int32)), .val (.int (0 : Int32)), .val (.int (1 : Int32)), .val (.int f1)] [(.int (0 : Int32))])) _
    refine XS.iconst X0.here hx rfl (hb hby d8_20) ?_
    show Steps p.tables e below (s₁.setTop (mkF m 21 #[.val (.ref a1), .val (.int (0 : Int32)), .val (.int (4 : Int32)), .val (.int sk), .val (.int (0 : Int32)), .val (.int (0 : Int32)), .val (.int (1 : Int32)), .val (.int f1)] [(.int (1 : Int32)), (.int (0 : Int32))])) _
    refine XS.iushr X0.here hx rfl (hb hby d8_21) rfl ?_
    show Steps p.tables e below (s₁.setTop (mkF m 22 #[.val (.ref a1), .val (.int (0 : Int32)), .val (.int (4 : Int32)), .val (.int sk), .val (.int (0 : Int32)), .val (.int (0 : Int32)), .val (.int (1 : Int32)), .val (.int f1)] [(.int (0 : Int32))])) _
    refine XS.istore X0.here hx rfl (hb hby d8_22) rfl (l' := #[.val (.ref a1), .val (.int (0 : Int32)), .val (.int (4 : Int32)), .val (.int sk), .val (.int (0 : Int32)), .val (.int (0 : Int32)), .val (.int (0 : Int32)), .val (.int f1)]) rfl ?_
    show Steps p.tables e below (s₁.setTop (mkF m 24 #[.val (.ref a1), .val (.int (0 : Int32)), .val (.int (4 : Int32)), .val (.int sk), .val (.int (0 : Int32)), .val (.int (0 : Int32)), .val (.int (0 : Int32)), .val (.int f1)] [])) _
    refine XS.aloadN X0.here hx rfl (hb hby d8_24) rfl rfl ?_
    show Steps p.tables e below (s₁.setTop (mkF m 25 #[.val (.ref a1), .val (.int (0 : Int32)), .val (.int (4 : Int32)), .val (.int sk), .val (.int (0 : Int32)), .val (.int (0 : Int32)), .val (.int (0 : Int32)), .val (.int f1)] [(.ref a1)])) _
    refine XS.iload X0.here hx rfl (hb hby d8_25) rfl ?_
    show Steps p.tables e below (s₁.setTop (mkF m 27 #[.val (.ref a1), .val (.int (0 : Int32)), .val (.int (4 : Int32)), .val (.int sk), .val (.int (0 : Int32)), .val (.int (0 : Int32)), .val (.int (0 : Int32)), .val (.int f1)] [(.int (0 : Int32)), (.ref a1)])) _
    refine X0.iaload hx (j := (0 : Int32)) (v := (.int f0)) (by rw [e0]; exact Ar_a1.1) (State.isArrayOf_alike hZ.alike Ar_a1.2.1) Ar_a1.2.2 hin27_2 hat27_2 (g := (mkF m 27 #[.val (.ref a1), .val (.int (0 : Int32)), .val (.int (4 : Int32)), .val (.int sk), .val (.int (0 : Int32)), .val (.int (0 : Int32)), .val (.int (0 : Int32)), .val (.int f1)] [(.int (0 : Int32)), (.ref a1)])) rfl rfl (hb hby d8_27) _ ?_
    show Steps p.tables e below (s₁.setTop (mkF m 28 #[.val (.ref a1), .val (.int (0 : Int32)), .val (.int (4 : Int32)), .val (.int sk), .val (.int (0 : Int32)), .val (.int (0 : Int32)), .val (.int (0 : Int32)), .val (.int f1)] [(.int f0)])) _
    refine XS.istore X0.here hx rfl (hb hby d8_28) rfl (l' := #[.val (.ref a1), .val (.int (0 : Int32)), .val (.int (4 : Int32)), .val (.int sk), .val (.int (0 : Int32)), .val (.int (0 : Int32)), .val (.int (0 : Int32)), .val (.int f0)]) rfl ?_
    show Steps p.tables e below (s₁.setTop (mkF m 30 #[.val (.ref a1), .val (.int (0 : Int32)), .val (.int (4 : Int32)), .val (.int sk), .val (.int (0 : Int32)), .val (.int (0 : Int32)), .val (.int (0 : Int32)), .val (.int f0)] [])) _
    refine XS.iload X0.here hx rfl (hb hby d8_30) rfl ?_
    show Steps p.tables e below (s₁.setTop (mkF m 32 #[.val (.ref a1), .val (.int (0 : Int32)), .val (.int (4 : Int32)), .val (.int sk), .val (.int (0 : Int32)), .val (.int (0 : Int32)), .val (.int (0 : Int32)), .val (.int f0)] [(.int f0)])) _
    refine XS.iloadN X0.here hx rfl (hb hby d8_32) rfl ?_
    show Steps p.tables e below (s₁.setTop (mkF m 33 #[.val (.ref a1), .val (.int (0 : Int32)), .val (.int (4 : Int32)), .val (.int sk), .val (.int (0 : Int32)), .val (.int (0 : Int32)), .val (.int (0 : Int32)), .val (.int f0)] [(.int sk), (.int f0)])) _
    refine XS.icmpYes X0.here hx rfl (pc0 := 33) (pc' := 45) rfl (hb hby d8_33) rfl (flt hc33_2).2.1 (by decide) (by decide) ?_
    show Steps p.tables e below (s₁.setTop (mkF m 45 #[.val (.ref a1), .val (.int (0 : Int32)), .val (.int (4 : Int32)), .val (.int sk), .val (.int (0 : Int32)), .val (.int (0 : Int32)), .val (.int (0 : Int32)), .val (.int f0)] [])) _
    refine XS.iload X0.here hx rfl (hb hby d8_45) rfl ?_
    show Steps p.tables e below (s₁.setTop (mkF m 47 #[.val (.ref a1), .val (.int (0 : Int32)), .val (.int (4 : Int32)), .val (.int sk), .val (.int (0 : Int32)), .val (.int (0 : Int32)), .val (.int (0 : Int32)), .val (.int f0)] [(.int f0)])) _
    refine XS.iloadN X0.here hx rfl (hb hby d8_47) rfl ?_
    show Steps p.tables e below (s₁.setTop (mkF m 48 #[.val (.ref a1), .val (.int (0 : Int32)), .val (.int (4 : Int32)), .val (.int sk), .val (.int (0 : Int32)), .val (.int (0 : Int32)), .val (.int (0 : Int32)), .val (.int f0)] [(.int sk), (.int f0)])) _
    refine XS.icmpYes X0.here hx rfl (pc0 := 48) (pc' := 60) rfl (hb hby d8_48) rfl (flt hc48_2).2.2.2 (by decide) (by decide) ?_
    show Steps p.tables e below (s₁.setTop (mkF m 60 #[.val (.ref a1), .val (.int (0 : Int32)), .val (.int (4 : Int32)), .val (.int sk), .val (.int (0 : Int32)), .val (.int (0 : Int32)), .val (.int (0 : Int32)), .val (.int f0)] [])) _
    refine XS.iload X0.here hx rfl (hb hby d8_60) rfl ?_
    show Steps p.tables e below (s₁.setTop (mkF m 62 #[.val (.ref a1), .val (.int (0 : Int32)), .val (.int (4 : Int32)), .val (.int sk), .val (.int (0 : Int32)), .val (.int (0 : Int32)), .val (.int (0 : Int32)), .val (.int f0)] [(.int (0 : Int32))])) _
    exact retI X0 hx Bd.returns (hb hby d8_62) hr      -- retI stands in the head ('lawwalk <made dir>' prints it)
  · show Q8 (0 : Int32) h0 n0 _ s₁.heap _
    rw [e0]
    exact ⟨rfl, N0, rfl⟩
set_option maxRecDepth 65536 in
set_option maxHeartbeats 40000000 in
theorem rm8_n1 (l : Launch) (Z : State) (a0 : Array Value) (hw : ∀ d ∈ tables_1, d.before a0 Z = true) (ws : List Jvm.Cond) (a1 : Addr) (sk : Int32) (k : ClassId) (f0 f1 f2 f3 : Int32) (h0 : Heap) (n0 : Nat) (Z0 : n0 ≤ h0.size) (V : Arv Z h0 a1 k .int 4 [.int f0, .int f1, .int f2, .int f3] (.int 0)) (hf1 : sk < f1) (hf0 : sk < f0) :
    MetFree l (⟨"java/util/Arrays", "binarySearch0", "([IIII)I"⟩ : MethodName) (head1 (Jvm.Cond.code (⟨"java/util/Arrays", "binarySearch0", "([IIII)I"⟩ : MethodName) jdk_65_method_59_code 8 (some .int) :: ws) ({ frames := 0, cells := 0, slots := 0, locals := 0 } : Room)) (fun a U => a = #[(.ref a1), (.int (0 : Int32)), (.int (4 : Int32)), (.int sk)] ∧ Z.Warmed39 U.vm ∧ U.heap = h0) (fun _ _ _ _ _ => True) (fun _ U o U' => ∃ v L, o = .returned v ∧ Q8 (-(1 : Int32)) h0 n0 v U'.heap L ∧ FrameEnd U o U' L ({ frames := 0, cells := 0, slots := 0, locals := 0 } : Room).cells ({ frames := 0, cells := 0, slots := 0, locals := 0 } : Room).slots) := by
  refine MetFree.of_bodySF (plainFor_of_name pn_8) hisR ?_
  intro p e s m args below meth c s₁ Bd hml0 hP hK
  obtain ⟨rfl, hZ, hh⟩ := hP
  obtain ⟨cl_a1, Ar_a1, q_a1, S_a1, N_a1, H_a1, G_a1⟩ := V
  have hc12_1 : ¬ ((3 : Int32) < (0 : Int32)) := by decide
  have hin27_1 : ¬ ((1 : Int32) < 0 ∨ cl_a1.slots.size ≤ ((1 : Int32)).toNatClampNeg) := inb_of S_a1 ⟨by decide, by decide⟩
  have hat27_1 : cl_a1.slots[((1 : Int32)).toNatClampNeg]? = some (.int f1) := Has.at H_a1 hin27_1 rfl
  have hc33_1 : ¬ (f1 < sk) := own_nlt hf1
  have hc48_1 : sk < f1 := hf1
  have hc12_2 : ¬ ((0 : Int32) < (0 : Int32)) := by decide
  have hin27_2 : ¬ ((0 : Int32) < 0 ∨ cl_a1.slots.size ≤ ((0 : Int32)).toNatClampNeg) := inb_of S_a1 ⟨by decide, by decide⟩
  have hat27_2 : cl_a1.slots[((0 : Int32)).toNatClampNeg]? = some (.int f0) := Has.at H_a1 hin27_2 rfl
  have hc33_2 : ¬ (f0 < sk) := own_nlt hf0
  have hc48_2 : sk < f0 := hf0
  have hc12_3 : (-1 : Int32) < (0 : Int32) := by decide
  have hx := Bd.exec
  have hby := Bd.bytes
  have hml : c.maxLocals = 8 := hml0
  have hown : s.vm.findClass "java/util/Arrays" = some m.cls := findClass_of_methodNamed Bd.named
  have hnm := (name_of_methodNamed Bd.named Bd.method).1
  have X0 : Stand p l e ({ frames := 0, cells := 0, slots := 0, locals := 0 } : Room) s m #[(.ref a1), (.int (0 : Int32)), (.int (4 : Int32)), (.int sk)] below meth c s₁ [] 0 0 := Stand.of_body Bd
  have e0 : s₁.heap = h0 := by rw [← hh, Bd.state]; rfl
  have N0 := Fr.nil n0
  have pre0 : ∀ t, Steps p.tables e below (s₁.setTop (mkF m 0 #[.val (.ref a1), .val (.int (0 : Int32)), .val (.int (4 : Int32)), .val (.int sk), .unset, .unset, .unset, .unset] [])) t → Steps p.tables e below (s₁.setTop (entryFrame m #[(.ref a1), (.int (0 : Int32)), (.int (4 : Int32)), (.int sk)] 8)) t := fun t k => castTop (ef_8 m a1 (0 : Int32) (4 : Int32) sk) k
  -- 3. LAWS

  obtain ⟨fs, hr, hrun, hended, hW, hsame⟩ := X0.leave (v := some (.int (-(1 : Int32)))) (fun h => by rw [Bd.returns] at h; cases h)
  refine ⟨_, _, pre0 _ ?_, hrun, hended, _, _, rfl, ?_, ⟨_, rfl⟩, hW, hsame.mono (by decide) (by decide)⟩
  -- 4. STEPS
  · show Steps p.tables e below (s₁.setTop (mkF m 0 #[.val (.ref a1), .val (.int (0 : Int32)), .val (.int (4 : Int32)), .val (.int sk), .unset, .unset, .unset, .unset] [])) _
    refine XS.iloadN X0.here hx rfl (hb hby d8_0) rfl ?_
    show Steps p.tables e below (s₁.setTop (mkF m 1 #[.val (.ref a1), .val (.int (0 : Int32)), .val (.int (4 : Int32)), .val (.int sk), .unset, .unset, .unset, .unset] [(.int (0 : Int32))])) _
    refine XS.istore X0.here hx rfl (hb hby d8_1) rfl (l' := #[.val (.ref a1), .val (.int (0 : Int32)), .val (.int (4 : Int32)), .val (.int sk), .val (.int (0 : Int32)), .unset, .unset, .unset]) rfl ?_
    show Steps p.tables e below (s₁.setTop (mkF m 3 #[.val (.ref a1), .val (.int (0 : Int32)), .val (.int (4 : Int32)), .val (.int sk), .val (.int (0 : Int32)), .unset, .unset, .unset] [])) _
    refine XS.iloadN X0.here hx rfl (hb hby d8_3) rfl ?_
    show Steps p.tables e below (s₁.setTop (mkF m 4 #[.val (.ref a1), .val (.int (0 : Int32)), .val (.int (4 : Int32)), .val (.int sk), .val (.int (0 : Int32)), .unset, .unset, .unset] [(.int (4 : Int32))])) _
    refine XS.iconst X0.here hx rfl (hb hby d8_4) ?_
    show Steps p.tables e below (s₁.setTop (mkF m 5 #[.val (.ref a1), .val (.int (0 : Int32)), .val (.int (4 : Int32)), .val (.int sk), .val (.int (0 : Int32)), .unset, .unset, .unset] [(.int (1 : Int32)), (.int (4 : Int32))])) _
    refine XS.isub X0.here hx rfl (hb hby d8_5) rfl ?_
    show Steps p.tables e below (s₁.setTop (mkF m 6 #[.val (.ref a1), .val (.int (0 : Int32)), .val (.int (4 : Int32)), .val (.int sk), .val (.int (0 : Int32)), .unset, .unset, .unset] [(.int (3 : Int32))])) _
    refine XS.istore X0.here hx rfl (hb hby d8_6) rfl (l' := #[.val (.ref a1), .val (.int (0 : Int32)), .val (.int (4 : Int32)), .val (.int sk), .val (.int (0 : Int32)), .val (.int (3 : Int32)), .unset, .unset]) rfl ?_
    show Steps p.tables e below (s₁.setTop (mkF m 8 #[.val (.ref a1), .val (.int (0 : Int32)), .val (.int (4 : Int32)), .val (.int sk), .val (.int (0 : Int32)), .val (.int (3 : Int32)), .unset, .unset] [])) _
    refine XS.iload X0.here hx rfl (hb hby d8_8) rfl ?_
    show Steps p.tables e below (s₁.setTop (mkF m 10 #[.val (.ref a1), .val (.int (0 : Int32)), .val (.int (4 : Int32)), .val (.int sk), .val (.int (0 : Int32)), .val (.int (3 : Int32)), .unset, .unset] [(.int (0 : Int32))])) _
    refine XS.iload X0.here hx rfl (hb hby d8_10) rfl ?_
    show Steps p.tables e below (s₁.setTop (mkF m 12 #[.val (.ref a1), .val (.int (0 : Int32)), .val (.int (4 : Int32)), .val (.int sk), .val (.int (0 : Int32)), .val (.int (3 : Int32)), .unset, .unset] [(.int (3 : Int32)), (.int (0 : Int32))])) _
    refine XS.icmpNo X0.here hx rfl (hb hby d8_12) rfl (flt hc12_1).2.2.1 ?_
    show Steps p.tables e below (s₁.setTop (mkF m 15 #[.val (.ref a1), .val (.int (0 : Int32)), .val (.int (4 : Int32)), .val (.int sk), .val (.int (0 : Int32)), .val (.int (3 : Int32)), .unset, .unset] [])) _
    refine XS.iload X0.here hx rfl (hb hby d8_15) rfl ?_
    show Steps p.tables e below (s₁.setTop (mkF m 17 #[.val (.ref a1), .val (.int (0 : Int32)), .val (.int (4 : Int32)), .val (.int sk), .val (.int (0 : Int32)), .val (.int (3 : Int32)), .unset, .unset] [(.int (0 : Int32))])) _
    refine XS.iload X0.here hx rfl (hb hby d8_17) rfl ?_
    show Steps p.tables e below (s₁.setTop (mkF m 19 #[.val (.ref a1), .val (.int (0 : Int32)), .val (.int (4 : Int32)), .val (.int sk), .val (.int (0 : Int32)), .val (.int (3 : Int32)), .unset, .unset] [(.int (3 : Int32)), (.int (0 : Int32))])) _
    refine XS.iadd X0.here hx rfl (hb hby d8_19) rfl ?_
    show Steps p.tables e below (s₁.setTop (mkF m 20 #[.val (.ref a1), .val (.int (0 : Int32)), .val (.int (4 : Int32)), .val (.int sk), .val (.int (0 : Int32)), .val (.int (3 : Int32)), .unset, .unset] [(.int (3 : Int32))])) _
    refine XS.iconst X0.here hx rfl (hb hby d8_20) ?_
    show Steps p.tables e below (s₁.setTop (mkF m 21 #[.val (.ref a1), .val (.int (0 : Int32)), .val (.int (4 : Int32)), .val (.int sk), .val (.int (0 : Int32)), .val (.int (3 : Int32)), .unset, .unset] [(.int (1 : Int32)), (.int (3 : Int32))])) _
    refine XS.iushr X0.here hx rfl (hb hby d8_21) rfl ?_
    show Steps p.tables e below (s₁.setTop (mkF m 22 #[.val (.ref a1), .val (.int (0 : Int32)), .val (.int (4 : Int32)), .val (.int sk), .val (.int (0 : Int32)), .val (.int (3 : Int32)), .unset, .unset] [(.int (1 : Int32))])) _
    refine XS.istore X0.here hx rfl (hb hby d8_22) rfl (l' := #[.val (.ref a1), .val (.int (0 : Int32)), .val (.int (4 : Int32)), .val (.int sk), .val (.int (0 : Int32)), .val (.int (3 : Int32)), .val (.int (1 : Int32)), .unset]) rfl ?_
    show Steps p.tables e below (s₁.setTop (mkF m 24 #[.val (.ref a1), .val (.int (0 : Int32)), .val (.int (4 : Int32)), .val (.int sk), .val (.int (0 : Int32)), .val (.int (3 : Int32)), .val (.int (1 : Int32)), .unset] [])) _
    refine XS.aloadN X0.here hx rfl (hb hby d8_24) rfl rfl ?_
    show Steps p.tables e below (s₁.setTop (mkF m 25 #[.val (.ref a1), .val (.int (0 : Int32)), .val (.int (4 : Int32)), .val (.int sk), .val (.int (0 : Int32)), .val (.int (3 : Int32)), .val (.int (1 : Int32)), .unset] [(.ref a1)])) _
    refine XS.iload X0.here hx rfl (hb hby d8_25) rfl ?_
    show Steps p.tables e below (s₁.setTop (mkF m 27 #[.val (.ref a1), .val (.int (0 : Int32)), .val (.int (4 : Int32)), .val (.int sk), .val (.int (0 : Int32)), .val (.int (3 : Int32)), .val (.int (1 : Int32)), .unset] [(.int (1 : Int32)), (.ref a1)])) _
    refine X0.iaload hx (j := (1 : Int32)) (v := (.int f1)) (by rw [e0]; exact Ar_a1.1) (State.isArrayOf_alike hZ.alike Ar_a1.2.1) Ar_a1.2.2 hin27_1 hat27_1 (g := (mkF m 27 #[.val (.ref a1), .val (.int (0 : Int32)), .val (.int (4 : Int32)), .val (.int sk), .val (.int (0 : Int32)), .val (.int (3 : Int32)), .val (.int (1 : Int32)), .unset] [(.int (1 : Int32)), (.ref a1)])) rfl rfl (hb hby d8_27) _ ?_
    show Steps p.tables e below (s₁.setTop (mkF m 28 #[.val (.ref a1), .val (.int (0 : Int32)), .val (.int (4 : Int32)), .val (.int sk), .val (.int (0 : Int32)), .val (.int (3 : Int32)), .val (.int (1 : Int32)), .unset] [(.int f1)])) _
    refine XS.istore X0.here hx rfl (hb hby d8_28) rfl (l' := #[.val (.ref a1), .val (.int (0 : Int32)), .val (.int (4 : Int32)), .val (.int sk), .val (.int (0 : Int32)), .val (.int (3 : Int32)), .val (.int (1 : Int32)), .val (.int f1)]) rfl ?_
    show Steps p.tables e below (s₁.setTop (mkF m 30 #[.val (.ref a1), .val (.int (0 : Int32)), .val (.int (4 : Int32)), .val (.int sk), .val (.int (0 : Int32)), .val (.int (3 : Int32)), .val (.int (1 : Int32)), .val (.int f1)] [])) _
    refine XS.iload X0.here hx rfl (hb hby d8_30) rfl ?_
    show Steps p.tables e below (s₁.setTop (mkF m 32 #[.val (.ref a1), .val (.int (0 : Int32)), .val (.int (4 : Int32)), .val (.int sk), .val (.int (0 : Int32)), .val (.int (3 : Int32)), .val (.int (1 : Int32)), .val (.int f1)] [(.int f1)])) _
    refine XS.iloadN X0.here hx rfl (hb hby d8_32) rfl ?_
    show Steps p.tables e below (s₁.setTop (mkF m 33 #[.val (.ref a1), .val (.int (0 : Int32)), .val (.int (4 : Int32)), .val (.int sk), .val (.int (0 : Int32)), .val (.int (3 : Int32)), .val (.int (1 : Int32)), .val (.int f1)] [(.int sk), (.int f1)])) _
    refine XS.icmpYes X0.here hx rfl (pc0 := 33) (pc' := 45) rfl (hb hby d8_33) rfl (flt hc33_1).2.1 (by decide) (by decide) ?_
    show Steps p.tables e below (s₁.setTop (mkF m 45 #[.val (.ref a1), .val (.int (0 : Int32)), .val (.int (4 : Int32)), .val (.int sk), .val (.int (0 : Int32)), .val (.int (3 : Int32)), .val (.int (1 : Int32)), .val (.int f1)] [])) _
    refine XS.iload X0.here hx rfl (hb hby d8_45) rfl ?_
    show Steps p.tables e below (s₁.setTop (mkF m 47 #[.val (.ref a1), .val (.int (0 : Int32)), .val (.int (4 : Int32)), .val (.int sk), .val (.int (0 : Int32)), .val (.int (3 : Int32)), .val (.int (1 : Int32)), .val (.int f1)] [(.int f1)])) _
    refine XS.iloadN X0.here hx rfl (hb hby d8_47) rfl ?_
    show Steps p.tables e below (s₁.setTop (mkF m 48 #[.val (.ref a1), .val (.int (0 : Int32)), .val (.int (4 : Int32)), .val (.int sk), .val (.int (0 : Int32)), .val (.int (3 : Int32)), .val (.int (1 : Int32)), .val (.int f1)] [(.int sk), (.int f1)])) _
    refine XS.icmpNo X0.here hx rfl (hb hby d8_48) rfl (tlt hc48_1).2.2.2 ?_
    show Steps p.tables e below (s₁.setTop (mkF m 51 #[.val (.ref a1), .val (.int (0 : Int32)), .val (.int (4 : Int32)), .val (.int sk), .val (.int (0 : Int32)), .val (.int (3 : Int32)), .val (.int (1 : Int32)), .val (.int f1)] [])) _
    refine XS.iload X0.here hx rfl (hb hby d8_51) rfl ?_
    show Steps p.tables e below (s₁.setTop (mkF m 53 #[.val (.ref a1), .val (.int (0 : Int32)), .val (.int (4 : Int32)), .val (.int sk), .val (.int (0 : Int32)), .val (.int (3 : Int32)), .val (.int (1 : Int32)), .val (.int f1)] [(.int (1 : Int32))])) _
    refine XS.iconst X0.here hx rfl (hb hby d8_53) ?_
    show Steps p.tables e below (s₁.setTop (mkF m 54 #[.val (.ref a1), .val (.int (0 : Int32)), .val (.int (4 : Int32)), .val (.int sk), .val (.int (0 : Int32)), .val (.int (3 : Int32)), .val (.int (1 : Int32)), .val (.int f1)] [(.int (1 : Int32)), (.int (1 : Int32))])) _
    refine XS.isub X0.here hx rfl (hb hby d8_54) rfl ?_
    show Steps p.tables e below (s₁.setTop (mkF m 55 #[.val (.ref a1), .val (.int (0 : Int32)), .val (.int (4 : Int32)), .val (.int sk), .val (.int (0 : Int32)), .val (.int (3 : Int32)), .val (.int (1 : Int32)), .val (.int f1)] [(.int (0 : Int32))])) _
    refine XS.istore X0.here hx rfl (hb hby d8_55) rfl (l' := #[.val (.ref a1), .val (.int (0 : Int32)), .val (.int (4 : Int32)), .val (.int sk), .val (.int (0 : Int32)), .val (.int (0 : Int32)), .val (.int (1 : Int32)), .val (.int f1)]) rfl ?_
    show Steps p.tables e below (s₁.setTop (mkF m 57 #[.val (.ref a1), .val (.int (0 : Int32)), .val (.int (4 : Int32)), .val (.int sk), .val (.int (0 : Int32)), .val (.int (0 : Int32)), .val (.int (1 : Int32)), .val (.int f1)] [])) _
    refine XS.goto X0.here hx rfl (pc0 := 57) (pc' := 63) rfl (hb hby d8_57) (by decide) (by decide) ?_
    show Steps p.tables e below (s₁.setTop (mkF m 63 #[.val (.ref a1), .val (.int (0 : Int32)), .val (.int (4 : Int32)), .val (.int sk), .val (.int (0 : Int32)), .val (.int (0 : Int32)), .val (.int (1 : Int32)), .val (.int f1)] [])) _
    refine XS.goto X0.here hx rfl (pc0 := 63) (pc' := 8) rfl (hb hby d8_63) (by decide) (by decide) ?_
    show Steps p.tables e below (s₁.setTop (mkF m 8 #[.val (.ref a1), .val (.int (0 : Int32)), .val (.int (4 : Int32)), .val (.int sk), .val (.int (0 : Int32)), .val (.int (0 : Int32)), .val (.int (1 : Int32)), .val (.int f1)] [])) _
    refine XS.iload X0.here hx rfl (hb hby d8_8) rfl ?_
    show Steps p.tables e below (s₁.setTop (mkF m 10 #[.val (.ref a1), .val (.int (0 : Int32)), .val (.int (4 : Int32)), .val (.int sk), .val (.int (0 : Int32)), .val (.int (0 : Int32)), .val (.int (1 : Int32)), .val (.int f1)] [(.int (0 : Int32))])) _
    refine XS.iload X0.here hx rfl (hb hby d8_10) rfl ?_
    show Steps p.tables e below (s₁.setTop (mkF m 12 #[.val (.ref a1), .val (.int (0 : Int32)), .val (.int (4 : Int32)), .val (.int sk), .val (.int (0 : Int32)), .val (.int (0 : Int32)), .val (.int (1 : Int32)), .val (.int f1)] [(.int (0 : Int32)), (.int (0 : Int32))])) _
    refine XS.icmpNo X0.here hx rfl (hb hby d8_12) rfl (flt hc12_2).2.2.1 ?_
    show Steps p.tables e below (s₁.setTop (mkF m 15 #[.val (.ref a1), .val (.int (0 : Int32)), .val (.int (4 : Int32)), .val (.int sk), .val (.int (0 : Int32)), .val (.int (0 : Int32)), .val (.int (1 : Int32)), .val (.int f1)] [])) _
    refine XS.iload X0.here hx rfl (hb hby d8_15) rfl ?_
    show Steps p.tables e below (s₁.setTop (mkF m 17 #[.val (.ref a1), .val (.int (0 : Int32)), .val (.int (4 : Int32)), .val (.int sk), .val (.int (0 : Int32)), .val (.int (0 : Int32)), .val (.int (1 : Int32)), .val (.int f1)] [(.int (0 : Int32))])) _
    refine XS.iload X0.here hx rfl (hb hby d8_17) rfl ?_
    show Steps p.tables e below (s₁.setTop (mkF m 19 #[.val (.ref a1), .val (.int (0 : Int32)), .val (.int (4 : Int32)), .val (.int sk), .val (.int (0 : Int32)), .val (.int (0 : Int32)), .val (.int (1 : Int32)), .val (.int f1)] [(.int (0 : Int32)), (.int (0 : Int32))])) _
    refine XS.iadd X0.here hx rfl (hb hby d8_19) rfl ?_
    show Steps p.tables e below (s₁.setTop (mkF m 20 #[.val (.ref a1), .val (.int (0 : Int32)), .val (.int (4 : Int32)), .val (.int sk), .val (.int (0 : Int32)), .val (.int (0 : Int32)), .val (.int (1 : Int32)), .val (.int f1)] [(.int (0 : Int32))])) _
    refine XS.iconst X0.here hx rfl (hb hby d8_20) ?_
    show Steps p.tables e below (s₁.setTop (mkF m 21 #[.val (.ref a1), .val (.int (0 : Int32)), .val (.int (4 : Int32)), .val (.int sk), .val (.int (0 : Int32)), .val (.int (0 : Int32)), .val (.int (1 : Int32)), .val (.int f1)] [(.int (1 : Int32)), (.int (0 : Int32))])) _
    refine XS.iushr X0.here hx rfl (hb hby d8_21) rfl ?_
    show Steps p.tables e below (s₁.setTop (mkF m 22 #[.val (.ref a1), .val (.int (0 : Int32)), .val (.int (4 : Int32)), .val (.int sk), .val (.int (0 : Int32)), .val (.int (0 : Int32)), .val (.int (1 : Int32)), .val (.int f1)] [(.int (0 : Int32))])) _
    refine XS.istore X0.here hx rfl (hb hby d8_22) rfl (l' := #[.val (.ref a1), .val (.int (0 : Int32)), .val (.int (4 : Int32)), .val (.int sk), .val (.int (0 : Int32)), .val (.int (0 : Int32)), .val (.int (0 : Int32)), .val (.int f1)]) rfl ?_
    show Steps p.tables e below (s₁.setTop (mkF m 24 #[.val (.ref a1), .val (.int (0 : Int32)), .val (.int (4 : Int32)), .val (.int sk), .val (.int (0 : Int32)), .val (.int (0 : Int32)), .val (.int (0 : Int32)), .val (.int f1)] [])) _
    refine XS.aloadN X0.here hx rfl (hb hby d8_24) rfl rfl ?_
    show Steps p.tables e below (s₁.setTop (mkF m 25 #[.val (.ref a1), .val (.int (0 : Int32)), .val (.int (4 : Int32)), .val (.int sk), .val (.int (0 : Int32)), .val (.int (0 : Int32)), .val (.int (0 : Int32)), .val (.int f1)] [(.ref a1)])) _
    refine XS.iload X0.here hx rfl (hb hby d8_25) rfl ?_
    show Steps p.tables e below (s₁.setTop (mkF m 27 #[.val (.ref a1), .val (.int (0 : Int32)), .val (.int (4 : Int32)), .val (.int sk), .val (.int (0 : Int32)), .val (.int (0 : Int32)), .val (.int (0 : Int32)), .val (.int f1)] [(.int (0 : Int32)), (.ref a1)])) _
    refine X0.iaload hx (j := (0 : Int32)) (v := (.int f0)) (by rw [e0]; exact Ar_a1.1) (State.isArrayOf_alike hZ.alike Ar_a1.2.1) Ar_a1.2.2 hin27_2 hat27_2 (g := (mkF m 27 #[.val (.ref a1), .val (.int (0 : Int32)), .val (.int (4 : Int32)), .val (.int sk), .val (.int (0 : Int32)), .val (.int (0 : Int32)), .val (.int (0 : Int32)), .val (.int f1)] [(.int (0 : Int32)), (.ref a1)])) rfl rfl (hb hby d8_27) _ ?_
    show Steps p.tables e below (s₁.setTop (mkF m 28 #[.val (.ref a1), .val (.int (0 : Int32)), .val (.int (4 : Int32)), .val (.int sk), .val (.int (0 : Int32)), .val (.int (0 : Int32)), .val (.int (0 : Int32)), .val (.int f1)] [(.int f0)])) _
    refine XS.istore X0.here hx rfl (hb hby d8_28) rfl (l' := #[.val (.ref a1), .val (.int (0 : Int32)), .val (.int (4 : Int32)), .val (.int sk), .val (.int (0 : Int32)), .val (.int (0 : Int32)), .val (.int (0 : Int32)), .val (.int f0)]) rfl ?_
    show Steps p.tables e below (s₁.setTop (mkF m 30 #[.val (.ref a1), .val (.int (0 : Int32)), .val (.int (4 : Int32)), .val (.int sk), .val (.int (0 : Int32)), .val (.int (0 : Int32)), .val (.int (0 : Int32)), .val (.int f0)] [])) _
    refine XS.iload X0.here hx rfl (hb hby d8_30) rfl ?_
    show Steps p.tables e below (s₁.setTop (mkF m 32 #[.val (.ref a1), .val (.int (0 : Int32)), .val (.int (4 : Int32)), .val (.int sk), .val (.int (0 : Int32)), .val (.int (0 : Int32)), .val (.int (0 : Int32)), .val (.int f0)] [(.int f0)])) _
    refine XS.iloadN X0.here hx rfl (hb hby d8_32) rfl ?_
    show Steps p.tables e below (s₁.setTop (mkF m 33 #[.val (.ref a1), .val (.int (0 : Int32)), .val (.int (4 : Int32)), .val (.int sk), .val (.int (0 : Int32)), .val (.int (0 : Int32)), .val (.int (0 : Int32)), .val (.int f0)] [(.int sk), (.int f0)])) _
    refine XS.icmpYes X0.here hx rfl (pc0 := 33) (pc' := 45) rfl (hb hby d8_33) rfl (flt hc33_2).2.1 (by decide) (by decide) ?_
    show Steps p.tables e below (s₁.setTop (mkF m 45 #[.val (.ref a1), .val (.int (0 : Int32)), .val (.int (4 : Int32)), .val (.int sk), .val (.int (0 : Int32)), .val (.int (0 : Int32)), .val (.int (0 : Int32)), .val (.int f0)] [])) _
    refine XS.iload X0.here hx rfl (hb hby d8_45) rfl ?_
    show Steps p.tables e below (s₁.setTop (mkF m 47 #[.val (.ref a1), .val (.int (0 : Int32)), .val (.int (4 : Int32)), .val (.int sk), .val (.int (0 : Int32)), .val (.int (0 : Int32)), .val (.int (0 : Int32)), .val (.int f0)] [(.int f0)])) _
    refine XS.iloadN X0.here hx rfl (hb hby d8_47) rfl ?_
    show Steps p.tables e below (s₁.setTop (mkF m 48 #[.val (.ref a1), .val (.int (0 : Int32)), .val (.int (4 : Int32)), .val (.int sk), .val (.int (0 : Int32)), .val (.int (0 : Int32)), .val (.int (0 : Int32)), .val (.int f0)] [(.int sk), (.int f0)])) _
    refine XS.icmpNo X0.here hx rfl (hb hby d8_48) rfl (tlt hc48_2).2.2.2 ?_
    show Steps p.tables e below (s₁.setTop (mkF m 51 #[.val (.ref a1), .val (.int (0 : Int32)), .val (.int (4 : Int32)), .val (.int sk), .val (.int (0 : Int32)), .val (.int (0 : Int32)), .val (.int (0 : Int32)), .val (.int f0)] [])) _
    refine XS.iload X0.here hx rfl (hb hby d8_51) rfl ?_
    show Steps p.tables e below (s₁.setTop (mkF m 53 #[.val (.ref a1), .val (.int (0 : Int32)), .val (.int (4 : Int32)), .val (.int sk), .val (.int (0 : Int32)), .val (.int (0 : Int32)), .val (.int (0 : Int32)), .val (.int f0)] [(.int (0 : Int32))])) _
    refine XS.iconst X0.here hx rfl (hb hby d8_53) ?_
    show Steps p.tables e below (s₁.setTop (mkF m 54 #[.val (.ref a1), .val (.int (0 : Int32)), .val (.int (4 : Int32)), .val (.int sk), .val (.int (0 : Int32)), .val (.int (0 : Int32)), .val (.int (0 : Int32)), .val (.int f0)] [(.int (1 : Int32)), (.int (0 : Int32))])) _
    refine XS.isub X0.here hx rfl (hb hby d8_54) rfl ?_
    show Steps p.tables e below (s₁.setTop (mkF m 55 #[.val (.ref a1), .val (.int (0 : Int32)), .val (.int (4 : Int32)), .val (.int sk), .val (.int (0 : Int32)), .val (.int (0 : Int32)), .val (.int (0 : Int32)), .val (.int f0)] [(.int (-1 : Int32))])) _
    refine XS.istore X0.here hx rfl (hb hby d8_55) rfl (l' := #[.val (.ref a1), .val (.int (0 : Int32)), .val (.int (4 : Int32)), .val (.int sk), .val (.int (0 : Int32)), .val (.int (-1 : Int32)), .val (.int (0 : Int32)), .val (.int f0)]) rfl ?_
    show Steps p.tables e below (s₁.setTop (mkF m 57 #[.val (.ref a1), .val (.int (0 : Int32)), .val (.int (4 : Int32)), .val (.int sk), .val (.int (0 : Int32)), .val (.int (-1 : Int32)), .val (.int (0 : Int32)), .val (.int f0)] [])) _
    refine XS.goto X0.here hx rfl (pc0 := 57) (pc' := 63) rfl (hb hby d8_57) (by decide) (by decide) ?_
    show Steps p.tables e below (s₁.setTop (mkF m 63 #[.val (.ref a1), .val (.int (0 : Int32)), .val (.int (4 : Int32)), .val (.int sk), .val (.int (0 : Int32)), .val (.int (-1 : Int32)), .val (.int (0 : Int32)), .val (.int f0)] [])) _
    refine XS.goto X0.here hx rfl (pc0 := 63) (pc' := 8) rfl (hb hby d8_63) (by decide) (by decide) ?_
    show Steps p.tables e below (s₁.setTop (mkF m 8 #[.val (.ref a1), .val (.int (0 : Int32)), .val (.int (4 : Int32)), .val (.int sk), .val (.int (0 : Int32)), .val (.int (-1 : Int32)), .val (.int (0 : Int32)), .val (.int f0)] [])) _
    refine XS.iload X0.here hx rfl (hb hby d8_8) rfl ?_
    show Steps p.tables e below (s₁.setTop (mkF m 10 #[.val (.ref a1), .val (.int (0 : Int32)), .val (.int (4 : Int32)), .val (.int sk), .val (.int (0 : Int32)), .val (.int (-1 : Int32)), .val (.int (0 : Int32)), .val (.int f0)] [(.int (0 : Int32))])) _
    refine XS.iload X0.here hx rfl (hb hby d8_10) rfl ?_
    show Steps p.tables e below (s₁.setTop (mkF m 12 #[.val (.ref a1), .val (.int (0 : Int32)), .val (.int (4 : Int32)), .val (.int sk), .val (.int (0 : Int32)), .val (.int (-1 : Int32)), .val (.int (0 : Int32)), .val (.int f0)] [(.int (-1 : Int32)), (.int (0 : Int32))])) _
    refine XS.icmpYes X0.here hx rfl (pc0 := 12) (pc' := 66) rfl (hb hby d8_12) rfl (tlt hc12_3).2.2.1 (by decide) (by decide) ?_
    show Steps p.tables e below (s₁.setTop (mkF m 66 #[.val (.ref a1), .val (.int (0 : Int32)), .val (.int (4 : Int32)), .val (.int sk), .val (.int (0 : Int32)), .val (.int (-1 : Int32)), .val (.int (0 : Int32)), .val (.int f0)] [])) _
    refine XS.iload X0.here hx rfl (hb hby d8_66) rfl ?_
    show Steps p.tables e below (s₁.setTop (mkF m 68 #[.val (.ref a1), .val (.int (0 : Int32)), .val (.int (4 : Int32)), .val (.int sk), .val (.int (0 : Int32)), .val (.int (-1 : Int32)), .val (.int (0 : Int32)), .val (.int f0)] [(.int (0 : Int32))])) _
    refine XS.iconst X0.here hx rfl (hb hby d8_68) ?_
    show Steps p.tables e below (s₁.setTop (mkF m 69 #[.val (.ref a1), .val (.int (0 : Int32)), .val (.int (4 : Int32)), .val (.int sk), .val (.int (0 : Int32)), .val (.int (-1 : Int32)), .val (.int (0 : Int32)), .val (.int f0)] [(.int (1 : Int32)), (.int (0 : Int32))])) _
    refine XS.iadd X0.here hx rfl (hb hby d8_69) rfl ?_
    show Steps p.tables e below (s₁.setTop (mkF m 70 #[.val (.ref a1), .val (.int (0 : Int32)), .val (.int (4 : Int32)), .val (.int sk), .val (.int (0 : Int32)), .val (.int (-1 : Int32)), .val (.int (0 : Int32)), .val (.int f0)] [(.int (1 : Int32))])) _
    refine XS.ineg X0.here hx rfl (hb hby d8_70) rfl ?_
    show Steps p.tables e below (s₁.setTop (mkF m 71 #[.val (.ref a1), .val (.int (0 : Int32)), .val (.int (4 : Int32)), .val (.int sk), .val (.int (0 : Int32)), .val (.int (-1 : Int32)), .val (.int (0 : Int32)), .val (.int f0)] [(.int (-(1 : Int32)))])) _
    exact retI X0 hx Bd.returns (hb hby d8_71) hr      -- retI stands in the head ('lawwalk <made dir>' prints it)
  · show Q8 (-(1 : Int32)) h0 n0 _ s₁.heap _
    rw [e0]
    exact ⟨rfl, N0, rfl⟩
def own_bs (f0 f1 f2 f3 sk : Int32) : Int32 := if f1 < sk then (if f2 < sk then (if f3 < sk then (-(5 : Int32)) else if f3 = sk then (3 : Int32) else (-(4 : Int32))) else if f2 = sk then (2 : Int32) else (-(3 : Int32))) else if f1 = sk then (1 : Int32) else (if f0 < sk then (-(2 : Int32)) else if f0 = sk then (0 : Int32) else (-(1 : Int32)))
theorem own_tri {a b : Int32} (h : ¬ a < b) (e : ¬ a = b) : b < a := by
  rw [Int32.lt_iff_toInt_lt] at h ⊢
  have : ¬ a.toInt = b.toInt := fun q => e (Int32.toInt_inj.mp q)
  omega
theorem rm8 (l : Launch) (Z : State) (a0 : Array Value) (hw : ∀ d ∈ tables_1, d.before a0 Z = true) (ws : List Jvm.Cond) (a1 : Addr) (sk : Int32) (k : ClassId) (f0 f1 f2 f3 : Int32) (h0 : Heap) (n0 : Nat) (Z0 : n0 ≤ h0.size) (V : Arv Z h0 a1 k .int 4 [.int f0, .int f1, .int f2, .int f3] (.int 0)) :
    MetFree l (⟨"java/util/Arrays", "binarySearch0", "([IIII)I"⟩ : MethodName) (head1 (Jvm.Cond.code (⟨"java/util/Arrays", "binarySearch0", "([IIII)I"⟩ : MethodName) jdk_65_method_59_code 8 (some .int) :: ws) ({ frames := 0, cells := 0, slots := 0, locals := 0 } : Room)) (fun a U => a = #[(.ref a1), (.int (0 : Int32)), (.int (4 : Int32)), (.int sk)] ∧ Z.Warmed39 U.vm ∧ U.heap = h0) (fun _ _ _ _ _ => True) (fun _ U o U' => ∃ v L, o = .returned v ∧ Q8 (own_bs f0 f1 f2 f3 sk) h0 n0 v U'.heap L ∧ FrameEnd U o U' L ({ frames := 0, cells := 0, slots := 0, locals := 0 } : Room).cells ({ frames := 0, cells := 0, slots := 0, locals := 0 } : Room).slots) := by
  by_cases l1 : f1 < sk
  · by_cases l2 : f2 < sk
    · by_cases l3 : f3 < sk
      · rw [show own_bs f0 f1 f2 f3 sk = (-(5 : Int32)) from by unfold own_bs; rw [if_pos l1, if_pos l2, if_pos l3]]; exact rm8_n5 l Z a0 hw ws a1 sk k f0 f1 f2 f3 h0 n0 Z0 V l1 l2 l3
      · by_cases e3 : f3 = sk
        · rw [show own_bs f0 f1 f2 f3 sk = (3 : Int32) from by unfold own_bs; rw [if_pos l1, if_pos l2, if_neg l3, if_pos e3]]; exact rm8_e3 l Z a0 hw ws a1 sk k f0 f1 f2 f3 h0 n0 Z0 V l1 l2 e3
        · rw [show own_bs f0 f1 f2 f3 sk = (-(4 : Int32)) from by unfold own_bs; rw [if_pos l1, if_pos l2, if_neg l3, if_neg e3]]; exact rm8_n4 l Z a0 hw ws a1 sk k f0 f1 f2 f3 h0 n0 Z0 V l1 l2 (own_tri l3 e3)
    · by_cases e2 : f2 = sk
      · rw [show own_bs f0 f1 f2 f3 sk = (2 : Int32) from by unfold own_bs; rw [if_pos l1, if_neg l2, if_pos e2]]; exact rm8_e2 l Z a0 hw ws a1 sk k f0 f1 f2 f3 h0 n0 Z0 V l1 e2
      · rw [show own_bs f0 f1 f2 f3 sk = (-(3 : Int32)) from by unfold own_bs; rw [if_pos l1, if_neg l2, if_neg e2]]; exact rm8_n3 l Z a0 hw ws a1 sk k f0 f1 f2 f3 h0 n0 Z0 V l1 (own_tri l2 e2)
  · by_cases e1 : f1 = sk
    · rw [show own_bs f0 f1 f2 f3 sk = (1 : Int32) from by unfold own_bs; rw [if_neg l1, if_pos e1]]; exact rm8_e1 l Z a0 hw ws a1 sk k f0 f1 f2 f3 h0 n0 Z0 V e1
    · by_cases l0 : f0 < sk
      · rw [show own_bs f0 f1 f2 f3 sk = (-(2 : Int32)) from by unfold own_bs; rw [if_neg l1, if_neg e1, if_pos l0]]; exact rm8_n2 l Z a0 hw ws a1 sk k f0 f1 f2 f3 h0 n0 Z0 V (own_tri l1 e1) l0
      · by_cases e0 : f0 = sk
        · rw [show own_bs f0 f1 f2 f3 sk = (0 : Int32) from by unfold own_bs; rw [if_neg l1, if_neg e1, if_neg l0, if_pos e0]]; exact rm8_e0 l Z a0 hw ws a1 sk k f0 f1 f2 f3 h0 n0 Z0 V (own_tri l1 e1) e0
        · rw [show own_bs f0 f1 f2 f3 sk = (-(1 : Int32)) from by unfold own_bs; rw [if_neg l1, if_neg e1, if_neg l0, if_neg e0]]; exact rm8_n1 l Z a0 hw ws a1 sk k f0 f1 f2 f3 h0 n0 Z0 V (own_tri l1 e1) (own_tri l0 e0)
theorem d7_0 : decode jdk_65_method_57_code 0 = .ok (.aload_n 0, 1) := by decide +kernel
theorem d7_1 : decode jdk_65_method_57_code 1 = .ok (.iconst 0, 1) := by decide +kernel
theorem d7_2 : decode jdk_65_method_57_code 2 = .ok (.aload_n 0, 1) := by decide +kernel
theorem d7_3 : decode jdk_65_method_57_code 3 = .ok (.arraylength, 1) := by decide +kernel
theorem d7_4 : decode jdk_65_method_57_code 4 = .ok (.iload_n 1, 1) := by decide +kernel
theorem d7_5 : decode jdk_65_method_57_code 5 = .ok (.invokestatic 209, 3) := by decide +kernel
theorem d7_8 : decode jdk_65_method_57_code 8 = .ok (.ireturn, 1) := by decide +kernel
theorem pn_7 : plainName "java/util/Arrays" = true := by first | (simp [plainName, overriddenIn]; done) | decide +kernel
theorem pdw_0 : parseMethodDescriptor "([IIII)I" = some ⟨[(.array .int), .int, .int, .int], some .int⟩ := by decide +kernel
theorem ef_7 (m : MethodId) (x0 : Addr) (x1 : Int32) : entryFrame m #[(.ref x0), (.int x1)] 2 = mkF m 0 #[.val (.ref x0), .val (.int x1)] [] := by first | (simp [entryFrame, mkF, argsToLocals, Value.category]; done) | rfl
set_option maxRecDepth 65536 in
set_option maxHeartbeats 40000000 in
theorem rm7 (l : Launch) (Z : State) (a0 : Array Value) (hw : ∀ d ∈ tables_1, d.before a0 Z = true) (ws : List Jvm.Cond) (a1 : Addr) (p2 : Int32) (k : ClassId) (f0 f1 f2 f3 : Int32) (h0 : Heap) (n0 : Nat) (Z0 : n0 ≤ h0.size) (V : Arv Z h0 a1 k .int 4 [.int f0, .int f1, .int f2, .int f3] (.int 0)) :
    MetFree l (⟨"java/util/Arrays", "binarySearch", "([II)I"⟩ : MethodName) (head1 (Jvm.Cond.code (⟨"java/util/Arrays", "binarySearch", "([II)I"⟩ : MethodName) jdk_65_method_57_code 2 (some .int) :: ws) ({ frames := 1, cells := 0, slots := 0, locals := 30 } : Room)) (fun a U => a = #[(.ref a1), (.int p2)] ∧ Z.Warmed39 U.vm ∧ U.heap = h0) (fun _ _ _ _ _ => True) (fun _ U o U' => ∃ v L, o = .returned v ∧ Q8 (own_bs f0 f1 f2 f3 p2) h0 n0 v U'.heap L ∧ FrameEnd U o U' L ({ frames := 1, cells := 0, slots := 0, locals := 30 } : Room).cells ({ frames := 1, cells := 0, slots := 0, locals := 30 } : Room).slots) := by
  refine MetFree.of_bodySF (plainFor_of_name pn_7) hisR ?_
  intro p e s m args below meth c s₁ Bd hml0 hP hK
  obtain ⟨rfl, hZ, hh⟩ := hP
  have V0 := V
  obtain ⟨cl_a1, Ar_a1, q_a1, S_a1, N_a1, H_a1, G_a1⟩ := V0
  have hx := Bd.exec
  have hby := Bd.bytes
  have hml : c.maxLocals = 2 := hml0
  have hown : s.vm.findClass "java/util/Arrays" = some m.cls := findClass_of_methodNamed Bd.named
  have hnm := (name_of_methodNamed Bd.named Bd.method).1
  have X0 : Stand p l e ({ frames := 1, cells := 0, slots := 0, locals := 30 } : Room) s m #[(.ref a1), (.int p2)] below meth c s₁ [] 0 0 := Stand.of_body Bd
  have e0 : s₁.heap = h0 := by rw [← hh, Bd.state]; rfl
  have N0 := Fr.nil n0
  have pre0 : ∀ t, Steps p.tables e below (s₁.setTop (mkF m 0 #[.val (.ref a1), .val (.int p2)] [])) t → Steps p.tables e below (s₁.setTop (entryFrame m #[(.ref a1), (.int p2)] 2)) t := fun t k => castTop (ef_7 m a1 p2) k
  -- 3. LAWS
  -- pc 5: java/util/Arrays.binarySearch0 by its contract rm8
  obtain ⟨_, _, ⟨T3, L3, k3, n3⟩, -, X3, ⟨Lc3, hQ3, l3, y3, z3⟩, st3⟩ := Jvm.LawKit.callS X0 hx (y := (⟨"java/util/Arrays", "binarySearch0", "([IIII)I"⟩ : MethodName)) hown (mvT hZ (hw _ (List.mem_of_getElem? (i := 43) rfl))) (mvT hZ (hw _ (List.mem_of_getElem? (i := 44) rfl))) (mvT hZ (hw _ (List.mem_of_getElem? (i := 41) rfl))) (mvT hZ (hw _ (List.mem_of_getElem? (i := 45) rfl))) (by decide) (backOf (W := 0) (rm8 l Z a0 hw [] a1 p2 k f0 f1 f2 f3 h0 n0 Z0 V) hZ (hw _ (List.mem_of_getElem? (i := 45) rfl)) (hw _ (List.mem_of_getElem? (i := 41) rfl)) (by decide) (by decide)) (g := (mkF m 5 #[.val (.ref a1), .val (.int p2)] [(.int p2), (.int (4 : Int32)), (.int (0 : Int32)), (.ref a1)])) rfl (by rw [hml]; rfl) (argsL := [(.ref a1), (.int (0 : Int32)), (.int (4 : Int32)), (.int p2)]) (rest := []) (lenOf pdw_0 rfl) rfl (by show 2 * 0 + _ ≤ _; exact Nat.le_of_eq rfl) (hb hby d7_5) (fun _ _ => ⟨rfl, e0, (by decide : 0 + 0 ≤ _), (by decide : 0 + 0 ≤ _)⟩)
  dsimp only [Pt.U, Pt.locs, Pt.cells, Pt.slots] at X3 l3 y3 z3 st3 hQ3
  subst l3 y3 z3
  obtain ⟨rfl, N3q, hh3⟩ := hQ3
  have N3 := Fr.app N0 N3q
  obtain ⟨fs, hr, hrun, hended, hW, hsame⟩ := X3.leave (v := some (.int (own_bs f0 f1 f2 f3 p2))) (fun h => by rw [Bd.returns] at h; cases h)
  refine ⟨_, _, pre0 _ ?_, hrun, hended, _, _, rfl, ?_, ⟨_, rfl⟩, hW, hsame.mono (by decide) (by decide)⟩
  -- 4. STEPS
  · show Steps p.tables e below (s₁.setTop (mkF m 0 #[.val (.ref a1), .val (.int p2)] [])) _
    refine XS.aloadN X0.here hx rfl (hb hby d7_0) rfl rfl ?_
    show Steps p.tables e below (s₁.setTop (mkF m 1 #[.val (.ref a1), .val (.int p2)] [(.ref a1)])) _
    refine XS.iconst X0.here hx rfl (hb hby d7_1) ?_
    show Steps p.tables e below (s₁.setTop (mkF m 2 #[.val (.ref a1), .val (.int p2)] [(.int (0 : Int32)), (.ref a1)])) _
    refine XS.aloadN X0.here hx rfl (hb hby d7_2) rfl rfl ?_
    show Steps p.tables e below (s₁.setTop (mkF m 3 #[.val (.ref a1), .val (.int p2)] [(.ref a1), (.int (0 : Int32)), (.ref a1)])) _
    refine X0.arraylength hx (by rw [e0]; exact Ar_a1.1) (State.isArrayOf_alike hZ.alike Ar_a1.2.1) (g := (mkF m 3 #[.val (.ref a1), .val (.int p2)] [(.ref a1), (.int (0 : Int32)), (.ref a1)])) rfl rfl (hb hby d7_3) _ ?_
    rw [len_of S_a1 N_a1]
    show Steps p.tables e below (s₁.setTop (mkF m 4 #[.val (.ref a1), .val (.int p2)] [(.int (4 : Int32)), (.int (0 : Int32)), (.ref a1)])) _
    refine XS.iloadN X0.here hx rfl (hb hby d7_4) rfl ?_
    show Steps p.tables e below (s₁.setTop (mkF m 5 #[.val (.ref a1), .val (.int p2)] [(.int p2), (.int (4 : Int32)), (.int (0 : Int32)), (.ref a1)])) _
    refine st3 _ ?_
    show Steps p.tables e below (T3.setTop (mkF m 8 #[.val (.ref a1), .val (.int p2)] [(.int (own_bs f0 f1 f2 f3 p2))])) _
    exact retI X3 hx Bd.returns (hb hby d7_8) hr      -- retI stands in the head ('lawwalk <made dir>' prints it)
  · show Q8 (own_bs f0 f1 f2 f3 p2) h0 n0 _ T3.heap _
    exact ⟨rfl, N3, hh3⟩
theorem d6_0 : decode prog_62_method_7_code 0 = .ok (.aload_n 0, 1) := by decide +kernel
theorem d6_1 : decode prog_62_method_7_code 1 = .ok (.getfield 7, 3) := by decide +kernel
theorem d6_4 : decode prog_62_method_7_code 4 = .ok (.iload_n 1, 1) := by decide +kernel
theorem d6_5 : decode prog_62_method_7_code 5 = .ok (.invokestatic 36, 3) := by decide +kernel
theorem d6_8 : decode prog_62_method_7_code 8 = .ok (.istore_n 2, 1) := by decide +kernel
theorem d6_9 : decode prog_62_method_7_code 9 = .ok (.iload_n 2, 1) := by decide +kernel
theorem d6_10 : decode prog_62_method_7_code 10 = .ok (.ifCond .ge 8, 3) := by decide +kernel
theorem d6_13 : decode prog_62_method_7_code 13 = .ok (.iload_n 2, 1) := by decide +kernel
theorem d6_14 : decode prog_62_method_7_code 14 = .ok (.ineg, 1) := by decide +kernel
theorem d6_15 : decode prog_62_method_7_code 15 = .ok (.iconst 2, 1) := by decide +kernel
theorem d6_16 : decode prog_62_method_7_code 16 = .ok (.isub, 1) := by decide +kernel
theorem d6_17 : decode prog_62_method_7_code 17 = .ok (.istore_n 2, 1) := by decide +kernel
theorem d6_18 : decode prog_62_method_7_code 18 = .ok (.iload_n 2, 1) := by decide +kernel
theorem d6_19 : decode prog_62_method_7_code 19 = .ok (.ifCond .lt 23, 3) := by decide +kernel
theorem d6_42 : decode prog_62_method_7_code 42 = .ok (.iload_n 2, 1) := by decide +kernel
theorem d6_43 : decode prog_62_method_7_code 43 = .ok (.ireturn, 1) := by decide +kernel
theorem pn_6 : plainName "com/example/nested_path/nestedpath/pattern/StringPattern$Loops" = true := by first | (simp [plainName, overriddenIn]; done) | decide +kernel
theorem pdw_1 : parseMethodDescriptor "([II)I" = some ⟨[(.array .int), .int], some .int⟩ := by decide +kernel
theorem ef_6 (m : MethodId) (x0 : Addr) (x1 : Int32) : entryFrame m #[(.ref x0), (.int x1)] 3 = mkF m 0 #[.val (.ref x0), .val (.int x1), .unset] [] := by first | (simp [entryFrame, mkF, argsToLocals, Value.category]; done) | rfl
set_option maxRecDepth 65536 in
set_option maxHeartbeats 40000000 in
theorem rm6_f1 (l : Launch) (Z : State) (a0 : Array Value) (hw : ∀ d ∈ tables_1, d.before a0 Z = true) (ws : List Jvm.Cond) (a1 : Addr) (p2 : Int32) (f0 f1 f2 f3 l0 l1 l2 l3 : Int32) (op cnt : Int32) (h0 : Heap) (n0 : Nat) (Z0 : n0 ≤ h0.size) (B : LP Z h0 n0 a1 [.int f0, .int f1, .int f2, .int f3] [.int l0, .int l1, .int l2, .int l3] [.int (-(1 : Int32)), .int (0 : Int32), .int (0 : Int32), .int (0 : Int32)] op cnt) (R : Int32) (hR : own_bs f0 f1 f2 f3 p2 = R) (hq1 : (R < (0 : Int32))) (hq2 : ((-R) - (2 : Int32)) < (0 : Int32)) :
    MetFree l (⟨"com/example/nested_path/nestedpath/pattern/StringPattern$Loops", "around", "(I)I"⟩ : MethodName) (head1 (Jvm.Cond.code (⟨"com/example/nested_path/nestedpath/pattern/StringPattern$Loops", "around", "(I)I"⟩ : MethodName) prog_62_method_7_code 3 (some .int) :: ws) ({ frames := 2, cells := 0, slots := 0, locals := 60 } : Room)) (fun a U => a = #[(.ref a1), (.int p2)] ∧ Z.Warmed39 U.vm ∧ U.heap = h0) (fun _ _ _ _ _ => True) (fun _ U o U' => ∃ v L, o = .returned v ∧ Q8 ((-R) - (2 : Int32)) h0 n0 v U'.heap L ∧ FrameEnd U o U' L ({ frames := 2, cells := 0, slots := 0, locals := 60 } : Room).cells ({ frames := 2, cells := 0, slots := 0, locals := 60 } : Room).slots) := by
  refine MetFree.of_bodySF (plainFor_of_name pn_6) hisR ?_
  intro p e s m args below meth c s₁ Bd hml0 hP hK
  obtain ⟨rfl, hZ, hh⟩ := hP
  obtain ⟨f5, l5, o5, kf, kl, ko, E_a1, F_firsts_a1, F_lasts_a1, F_outers_a1, F_open_a1, F_count_a1, Vf, Vl, Vo, g_a1, g_f5, g_l5, g_o5, naf, nal, nao, nfl, nfo, nlo, lf, ll, lo⟩ := B
  have hx := Bd.exec
  have hby := Bd.bytes
  have hml : c.maxLocals = 3 := hml0
  have hown : s.vm.findClass "com/example/nested_path/nestedpath/pattern/StringPattern$Loops" = some m.cls := findClass_of_methodNamed Bd.named
  have hnm := (name_of_methodNamed Bd.named Bd.method).1
  have X0 : Stand p l e ({ frames := 2, cells := 0, slots := 0, locals := 60 } : Room) s m #[(.ref a1), (.int p2)] below meth c s₁ [] 0 0 := Stand.of_body Bd
  have e0 : s₁.heap = h0 := by rw [← hh, Bd.state]; rfl
  have N0 := Fr.nil n0
  have pre0 : ∀ t, Steps p.tables e below (s₁.setTop (mkF m 0 #[.val (.ref a1), .val (.int p2), .unset] [])) t → Steps p.tables e below (s₁.setTop (entryFrame m #[(.ref a1), (.int p2)] 3)) t := fun t k => castTop (ef_6 m a1 p2) k
  -- 3. LAWS
  obtain ⟨T4, X4, e4, st4⟩ := getF X0 hx hZ hown (host := "") (Or.inl (hw _ (List.mem_of_getElem? (i := 10) rfl))) Via.refl e0 F_firsts_a1 (g := (mkF m 1 #[.val (.ref a1), .val (.int p2), .unset] [(.ref a1)])) rfl rfl (hb hby d6_1)
  -- pc 5: java/util/Arrays.binarySearch by its contract rm7
  obtain ⟨_, _, ⟨T5, L5, k5, n5⟩, -, X5, ⟨Lc5, hQ5, l5, y5, z5⟩, st5⟩ := Jvm.LawKit.callS X4 hx (y := (⟨"java/util/Arrays", "binarySearch", "([II)I"⟩ : MethodName)) hown (mvT hZ (hw _ (List.mem_of_getElem? (i := 39) rfl))) (mvT hZ (hw _ (List.mem_of_getElem? (i := 40) rfl))) (mvT hZ (hw _ (List.mem_of_getElem? (i := 41) rfl))) (mvT hZ (hw _ (List.mem_of_getElem? (i := 42) rfl))) (by decide) (backOf (W := 0) (rm7 l Z a0 hw [] f5 p2 kf f0 f1 f2 f3 h0 n0 Z0 Vf) hZ (hw _ (List.mem_of_getElem? (i := 42) rfl)) (hw _ (List.mem_of_getElem? (i := 41) rfl)) (by decide) (by decide)) (g := (mkF m 5 #[.val (.ref a1), .val (.int p2), .unset] [(.int p2), (.ref f5)])) rfl (by rw [hml]; rfl) (argsL := [(.ref f5), (.int p2)]) (rest := []) (lenOf pdw_1 rfl) rfl (by show 2 * 0 + _ ≤ _; exact Nat.le_of_eq rfl) (hb hby d6_5) (fun _ _ => ⟨rfl, e4, (by decide : 0 + 0 ≤ _), (by decide : 0 + 0 ≤ _)⟩)
  dsimp only [Pt.U, Pt.locs, Pt.cells, Pt.slots] at X5 l5 y5 z5 st5 hQ5
  subst l5 y5 z5
  rw [hR] at hQ5
  obtain ⟨rfl, N5q, hh5⟩ := hQ5
  have N5 := Fr.app N0 N5q
  obtain ⟨fs, hr, hrun, hended, hW, hsame⟩ := X5.leave (v := some (.int ((-R) - (2 : Int32)))) (fun h => by rw [Bd.returns] at h; cases h)
  refine ⟨_, _, pre0 _ ?_, hrun, hended, _, _, rfl, ?_, ⟨_, rfl⟩, hW, hsame.mono (by decide) (by decide)⟩
  -- 4. STEPS
  · show Steps p.tables e below (s₁.setTop (mkF m 0 #[.val (.ref a1), .val (.int p2), .unset] [])) _
    refine XS.aloadN X0.here hx rfl (hb hby d6_0) rfl rfl ?_
    show Steps p.tables e below (s₁.setTop (mkF m 1 #[.val (.ref a1), .val (.int p2), .unset] [(.ref a1)])) _
    refine st4 _ ?_
    show Steps p.tables e below (T4.setTop (mkF m 4 #[.val (.ref a1), .val (.int p2), .unset] [(.ref f5)])) _
    refine XS.iloadN X4.here hx rfl (hb hby d6_4) rfl ?_
    show Steps p.tables e below (T4.setTop (mkF m 5 #[.val (.ref a1), .val (.int p2), .unset] [(.int p2), (.ref f5)])) _
    refine st5 _ ?_
    show Steps p.tables e below (T5.setTop (mkF m 8 #[.val (.ref a1), .val (.int p2), .unset] [(.int R)])) _
    refine XS.istoreN X5.here hx rfl (hb hby d6_8) rfl (l' := #[.val (.ref a1), .val (.int p2), .val (.int R)]) rfl ?_
    show Steps p.tables e below (T5.setTop (mkF m 9 #[.val (.ref a1), .val (.int p2), .val (.int R)] [])) _
    refine XS.iloadN X5.here hx rfl (hb hby d6_9) rfl ?_
    show Steps p.tables e below (T5.setTop (mkF m 10 #[.val (.ref a1), .val (.int p2), .val (.int R)] [(.int R)])) _
    refine XS.ifNo X5.here hx rfl (hb hby d6_10) rfl ((if0 _ _).trans (tlt hq1).2.1) ?_
    show Steps p.tables e below (T5.setTop (mkF m 13 #[.val (.ref a1), .val (.int p2), .val (.int R)] [])) _
    refine XS.iloadN X5.here hx rfl (hb hby d6_13) rfl ?_
    show Steps p.tables e below (T5.setTop (mkF m 14 #[.val (.ref a1), .val (.int p2), .val (.int R)] [(.int R)])) _
    refine XS.ineg X5.here hx rfl (hb hby d6_14) rfl ?_
    show Steps p.tables e below (T5.setTop (mkF m 15 #[.val (.ref a1), .val (.int p2), .val (.int R)] [(.int (-R))])) _
    refine XS.iconst X5.here hx rfl (hb hby d6_15) ?_
    show Steps p.tables e below (T5.setTop (mkF m 16 #[.val (.ref a1), .val (.int p2), .val (.int R)] [(.int (2 : Int32)), (.int (-R))])) _
    refine XS.isub X5.here hx rfl (hb hby d6_16) rfl ?_
    show Steps p.tables e below (T5.setTop (mkF m 17 #[.val (.ref a1), .val (.int p2), .val (.int R)] [(.int ((-R) - (2 : Int32)))])) _
    refine XS.istoreN X5.here hx rfl (hb hby d6_17) rfl (l' := #[.val (.ref a1), .val (.int p2), .val (.int ((-R) - (2 : Int32)))]) rfl ?_
    show Steps p.tables e below (T5.setTop (mkF m 18 #[.val (.ref a1), .val (.int p2), .val (.int ((-R) - (2 : Int32)))] [])) _
    refine XS.iloadN X5.here hx rfl (hb hby d6_18) rfl ?_
    show Steps p.tables e below (T5.setTop (mkF m 19 #[.val (.ref a1), .val (.int p2), .val (.int ((-R) - (2 : Int32)))] [(.int ((-R) - (2 : Int32)))])) _
    refine XS.ifYes X5.here hx rfl (pc0 := 19) (pc' := 42) rfl (hb hby d6_19) rfl ((if0 _ _).trans (tlt hq2).1) (by decide) (by decide) ?_
    show Steps p.tables e below (T5.setTop (mkF m 42 #[.val (.ref a1), .val (.int p2), .val (.int ((-R) - (2 : Int32)))] [])) _
    refine XS.iloadN X5.here hx rfl (hb hby d6_42) rfl ?_
    show Steps p.tables e below (T5.setTop (mkF m 43 #[.val (.ref a1), .val (.int p2), .val (.int ((-R) - (2 : Int32)))] [(.int ((-R) - (2 : Int32)))])) _
    exact retI X5 hx Bd.returns (hb hby d6_43) hr      -- retI stands in the head ('lawwalk <made dir>' prints it)
  · show Q8 ((-R) - (2 : Int32)) h0 n0 _ T5.heap _
    exact ⟨rfl, N5, by first | rfl | assumption⟩
theorem d6_22 : decode prog_62_method_7_code 22 = .ok (.aload_n 0, 1) := by decide +kernel
theorem d6_23 : decode prog_62_method_7_code 23 = .ok (.getfield 13, 3) := by decide +kernel
theorem d6_26 : decode prog_62_method_7_code 26 = .ok (.iload_n 2, 1) := by decide +kernel
theorem d6_27 : decode prog_62_method_7_code 27 = .ok (.iaload, 1) := by decide +kernel
theorem d6_28 : decode prog_62_method_7_code 28 = .ok (.iload_n 1, 1) := by decide +kernel
theorem d6_29 : decode prog_62_method_7_code 29 = .ok (.if_icmp .ge 13, 3) := by decide +kernel
set_option maxRecDepth 65536 in
set_option maxHeartbeats 40000000 in
theorem rm6_f2 (l : Launch) (Z : State) (a0 : Array Value) (hw : ∀ d ∈ tables_1, d.before a0 Z = true) (ws : List Jvm.Cond) (a1 : Addr) (p2 : Int32) (f0 f1 f2 f3 l0 l1 l2 l3 : Int32) (op cnt : Int32) (h0 : Heap) (n0 : Nat) (Z0 : n0 ≤ h0.size) (B : LP Z h0 n0 a1 [.int f0, .int f1, .int f2, .int f3] [.int l0, .int l1, .int l2, .int l3] [.int (-(1 : Int32)), .int (0 : Int32), .int (0 : Int32), .int (0 : Int32)] op cnt) (R : Int32) (hR : own_bs f0 f1 f2 f3 p2 = R) (hq1 : (R < (0 : Int32))) (hq2 : ¬ (((-R) - (2 : Int32)) < (0 : Int32))) (ni : Nat) (hI : ((-R) - (2 : Int32)) = Int32.ofNat ni) (hni : ni < 4) (lv : Int32) (xl : ([.int l0, .int l1, .int l2, .int l3] : List Value).getD ni (.int 0) = .int lv) (hc29_1 : ¬ (lv < p2)) :
    MetFree l (⟨"com/example/nested_path/nestedpath/pattern/StringPattern$Loops", "around", "(I)I"⟩ : MethodName) (head1 (Jvm.Cond.code (⟨"com/example/nested_path/nestedpath/pattern/StringPattern$Loops", "around", "(I)I"⟩ : MethodName) prog_62_method_7_code 3 (some .int) :: ws) ({ frames := 2, cells := 0, slots := 0, locals := 60 } : Room)) (fun a U => a = #[(.ref a1), (.int p2)] ∧ Z.Warmed39 U.vm ∧ U.heap = h0) (fun _ _ _ _ _ => True) (fun _ U o U' => ∃ v L, o = .returned v ∧ Q8 ((-R) - (2 : Int32)) h0 n0 v U'.heap L ∧ FrameEnd U o U' L ({ frames := 2, cells := 0, slots := 0, locals := 60 } : Room).cells ({ frames := 2, cells := 0, slots := 0, locals := 60 } : Room).slots) := by
  refine MetFree.of_bodySF (plainFor_of_name pn_6) hisR ?_
  intro p e s m args below meth c s₁ Bd hml0 hP hK
  obtain ⟨rfl, hZ, hh⟩ := hP
  obtain ⟨f5, l5, o5, kf, kl, ko, E_a1, F_firsts_a1, F_lasts_a1, F_outers_a1, F_open_a1, F_count_a1, Vf, Vl, Vo, g_a1, g_f5, g_l5, g_o5, naf, nal, nao, nfl, nfo, nlo, lf, ll, lo⟩ := B
  obtain ⟨cl_l5, Ar_l5, q_l5, S_l5, N_l5, H_l5, G_l5⟩ := Vl
  obtain ⟨cl_o5, Ar_o5, q_o5, S_o5, N_o5, H_o5, G_o5⟩ := Vo
  have hin27_1 := inb_of S_l5 (j := ((-R) - (2 : Int32))) (by rw [hI]; exact own_inb hni)
  have hat27_1 : cl_l5.slots[(((-R) - (2 : Int32))).toNatClampNeg]? = some (.int lv) := Has.at H_l5 hin27_1 (by rw [hI, own_clamp (by omega)]; exact xl)
  have hx := Bd.exec
  have hby := Bd.bytes
  have hml : c.maxLocals = 3 := hml0
  have hown : s.vm.findClass "com/example/nested_path/nestedpath/pattern/StringPattern$Loops" = some m.cls := findClass_of_methodNamed Bd.named
  have hnm := (name_of_methodNamed Bd.named Bd.method).1
  have X0 : Stand p l e ({ frames := 2, cells := 0, slots := 0, locals := 60 } : Room) s m #[(.ref a1), (.int p2)] below meth c s₁ [] 0 0 := Stand.of_body Bd
  have e0 : s₁.heap = h0 := by rw [← hh, Bd.state]; rfl
  have N0 := Fr.nil n0
  have pre0 : ∀ t, Steps p.tables e below (s₁.setTop (mkF m 0 #[.val (.ref a1), .val (.int p2), .unset] [])) t → Steps p.tables e below (s₁.setTop (entryFrame m #[(.ref a1), (.int p2)] 3)) t := fun t k => castTop (ef_6 m a1 p2) k
  -- 3. LAWS
  obtain ⟨T4, X4, e4, st4⟩ := getF X0 hx hZ hown (host := "") (Or.inl (hw _ (List.mem_of_getElem? (i := 10) rfl))) Via.refl e0 F_firsts_a1 (g := (mkF m 1 #[.val (.ref a1), .val (.int p2), .unset] [(.ref a1)])) rfl rfl (hb hby d6_1)
  -- pc 5: java/util/Arrays.binarySearch by its contract rm7
  obtain ⟨_, _, ⟨T5, L5, k5, n5⟩, -, X5, ⟨Lc5, hQ5, l5, y5, z5⟩, st5⟩ := Jvm.LawKit.callS X4 hx (y := (⟨"java/util/Arrays", "binarySearch", "([II)I"⟩ : MethodName)) hown (mvT hZ (hw _ (List.mem_of_getElem? (i := 39) rfl))) (mvT hZ (hw _ (List.mem_of_getElem? (i := 40) rfl))) (mvT hZ (hw _ (List.mem_of_getElem? (i := 41) rfl))) (mvT hZ (hw _ (List.mem_of_getElem? (i := 42) rfl))) (by decide) (backOf (W := 0) (rm7 l Z a0 hw [] f5 p2 kf f0 f1 f2 f3 h0 n0 Z0 Vf) hZ (hw _ (List.mem_of_getElem? (i := 42) rfl)) (hw _ (List.mem_of_getElem? (i := 41) rfl)) (by decide) (by decide)) (g := (mkF m 5 #[.val (.ref a1), .val (.int p2), .unset] [(.int p2), (.ref f5)])) rfl (by rw [hml]; rfl) (argsL := [(.ref f5), (.int p2)]) (rest := []) (lenOf pdw_1 rfl) rfl (by show 2 * 0 + _ ≤ _; exact Nat.le_of_eq rfl) (hb hby d6_5) (fun _ _ => ⟨rfl, e4, (by decide : 0 + 0 ≤ _), (by decide : 0 + 0 ≤ _)⟩)
  dsimp only [Pt.U, Pt.locs, Pt.cells, Pt.slots] at X5 l5 y5 z5 st5 hQ5
  subst l5 y5 z5
  rw [hR] at hQ5
  obtain ⟨rfl, N5q, hh5⟩ := hQ5
  have N5 := Fr.app N0 N5q
  obtain ⟨T7, X7, e7, st7⟩ := getF X5 hx hZ hown (host := "") (Or.inl (hw _ (List.mem_of_getElem? (i := 12) rfl))) Via.refl hh5 (F_lasts_a1) (g := (mkF m 23 #[.val (.ref a1), .val (.int p2), .val (.int ((-R) - (2 : Int32)))] [(.ref a1)])) rfl rfl (hb hby d6_23)
  -- ✋ yours, out of the call's Q: hin27 : ¬ (((-R) - (2 : Int32)) < 0 ∨ cl_l5.slots.size ≤ (((-R) - (2 : Int32))).toNatClampNeg)
  -- ✋ yours, out of the call's Q: hat27 : cl_l5.slots[(((-R) - (2 : Int32))).toNatClampNeg]? = some (.int lv)
  -- ✋ yours: Ar_l5 must speak of h0 here (carried over the writes ahead of it)
  obtain ⟨fs, hr, hrun, hended, hW, hsame⟩ := X7.leave (v := some (.int ((-R) - (2 : Int32)))) (fun h => by rw [Bd.returns] at h; cases h)
  refine ⟨_, _, pre0 _ ?_, hrun, hended, _, _, rfl, ?_, ⟨_, rfl⟩, hW, hsame.mono (by decide) (by decide)⟩
  -- 4. STEPS
  · show Steps p.tables e below (s₁.setTop (mkF m 0 #[.val (.ref a1), .val (.int p2), .unset] [])) _
    refine XS.aloadN X0.here hx rfl (hb hby d6_0) rfl rfl ?_
    show Steps p.tables e below (s₁.setTop (mkF m 1 #[.val (.ref a1), .val (.int p2), .unset] [(.ref a1)])) _
    refine st4 _ ?_
    show Steps p.tables e below (T4.setTop (mkF m 4 #[.val (.ref a1), .val (.int p2), .unset] [(.ref f5)])) _
    refine XS.iloadN X4.here hx rfl (hb hby d6_4) rfl ?_
    show Steps p.tables e below (T4.setTop (mkF m 5 #[.val (.ref a1), .val (.int p2), .unset] [(.int p2), (.ref f5)])) _
    refine st5 _ ?_
    show Steps p.tables e below (T5.setTop (mkF m 8 #[.val (.ref a1), .val (.int p2), .unset] [(.int R)])) _
    refine XS.istoreN X5.here hx rfl (hb hby d6_8) rfl (l' := #[.val (.ref a1), .val (.int p2), .val (.int R)]) rfl ?_
    show Steps p.tables e below (T5.setTop (mkF m 9 #[.val (.ref a1), .val (.int p2), .val (.int R)] [])) _
    refine XS.iloadN X5.here hx rfl (hb hby d6_9) rfl ?_
    show Steps p.tables e below (T5.setTop (mkF m 10 #[.val (.ref a1), .val (.int p2), .val (.int R)] [(.int R)])) _
    refine XS.ifNo X5.here hx rfl (hb hby d6_10) rfl ((if0 _ _).trans (tlt hq1).2.1) ?_
    show Steps p.tables e below (T5.setTop (mkF m 13 #[.val (.ref a1), .val (.int p2), .val (.int R)] [])) _
    refine XS.iloadN X5.here hx rfl (hb hby d6_13) rfl ?_
    show Steps p.tables e below (T5.setTop (mkF m 14 #[.val (.ref a1), .val (.int p2), .val (.int R)] [(.int R)])) _
    refine XS.ineg X5.here hx rfl (hb hby d6_14) rfl ?_
    show Steps p.tables e below (T5.setTop (mkF m 15 #[.val (.ref a1), .val (.int p2), .val (.int R)] [(.int (-R))])) _
    refine XS.iconst X5.here hx rfl (hb hby d6_15) ?_
    show Steps p.tables e below (T5.setTop (mkF m 16 #[.val (.ref a1), .val (.int p2), .val (.int R)] [(.int (2 : Int32)), (.int (-R))])) _
    refine XS.isub X5.here hx rfl (hb hby d6_16) rfl ?_
    show Steps p.tables e below (T5.setTop (mkF m 17 #[.val (.ref a1), .val (.int p2), .val (.int R)] [(.int ((-R) - (2 : Int32)))])) _
    refine XS.istoreN X5.here hx rfl (hb hby d6_17) rfl (l' := #[.val (.ref a1), .val (.int p2), .val (.int ((-R) - (2 : Int32)))]) rfl ?_
    show Steps p.tables e below (T5.setTop (mkF m 18 #[.val (.ref a1), .val (.int p2), .val (.int ((-R) - (2 : Int32)))] [])) _
    refine XS.iloadN X5.here hx rfl (hb hby d6_18) rfl ?_
    show Steps p.tables e below (T5.setTop (mkF m 19 #[.val (.ref a1), .val (.int p2), .val (.int ((-R) - (2 : Int32)))] [(.int ((-R) - (2 : Int32)))])) _
    refine XS.ifNo X5.here hx rfl (hb hby d6_19) rfl ((if0 _ _).trans (flt hq2).1) ?_
    show Steps p.tables e below (T5.setTop (mkF m 22 #[.val (.ref a1), .val (.int p2), .val (.int ((-R) - (2 : Int32)))] [])) _
    refine XS.aloadN X5.here hx rfl (hb hby d6_22) rfl rfl ?_
    show Steps p.tables e below (T5.setTop (mkF m 23 #[.val (.ref a1), .val (.int p2), .val (.int ((-R) - (2 : Int32)))] [(.ref a1)])) _
    refine st7 _ ?_
    show Steps p.tables e below (T7.setTop (mkF m 26 #[.val (.ref a1), .val (.int p2), .val (.int ((-R) - (2 : Int32)))] [(.ref l5)])) _
    refine XS.iloadN X7.here hx rfl (hb hby d6_26) rfl ?_
    show Steps p.tables e below (T7.setTop (mkF m 27 #[.val (.ref a1), .val (.int p2), .val (.int ((-R) - (2 : Int32)))] [(.int ((-R) - (2 : Int32))), (.ref l5)])) _
    refine X7.iaload hx (j := ((-R) - (2 : Int32))) (v := (.int lv)) (by rw [e7]; exact Ar_l5.1) (State.isArrayOf_alike hZ.alike Ar_l5.2.1) Ar_l5.2.2 hin27_1 hat27_1 (g := (mkF m 27 #[.val (.ref a1), .val (.int p2), .val (.int ((-R) - (2 : Int32)))] [(.int ((-R) - (2 : Int32))), (.ref l5)])) rfl rfl (hb hby d6_27) _ ?_
    show Steps p.tables e below (T7.setTop (mkF m 28 #[.val (.ref a1), .val (.int p2), .val (.int ((-R) - (2 : Int32)))] [(.int lv)])) _
    refine XS.iloadN X7.here hx rfl (hb hby d6_28) rfl ?_
    show Steps p.tables e below (T7.setTop (mkF m 29 #[.val (.ref a1), .val (.int p2), .val (.int ((-R) - (2 : Int32)))] [(.int p2), (.int lv)])) _
    refine XS.icmpYes X7.here hx rfl (pc0 := 29) (pc' := 42) rfl (hb hby d6_29) rfl (flt hc29_1).2.1 (by decide) (by decide) ?_
    show Steps p.tables e below (T7.setTop (mkF m 42 #[.val (.ref a1), .val (.int p2), .val (.int ((-R) - (2 : Int32)))] [])) _
    refine XS.iloadN X7.here hx rfl (hb hby d6_42) rfl ?_
    show Steps p.tables e below (T7.setTop (mkF m 43 #[.val (.ref a1), .val (.int p2), .val (.int ((-R) - (2 : Int32)))] [(.int ((-R) - (2 : Int32)))])) _
    exact retI X7 hx Bd.returns (hb hby d6_43) hr      -- retI stands in the head ('lawwalk <made dir>' prints it)
  · show Q8 ((-R) - (2 : Int32)) h0 n0 _ T7.heap _
    rw [e7]
    exact ⟨rfl, N5, by first | rfl | assumption⟩
theorem d6_32 : decode prog_62_method_7_code 32 = .ok (.aload_n 0, 1) := by decide +kernel
theorem d6_33 : decode prog_62_method_7_code 33 = .ok (.getfield 16, 3) := by decide +kernel
theorem d6_36 : decode prog_62_method_7_code 36 = .ok (.iload_n 2, 1) := by decide +kernel
theorem d6_37 : decode prog_62_method_7_code 37 = .ok (.iaload, 1) := by decide +kernel
theorem d6_38 : decode prog_62_method_7_code 38 = .ok (.istore_n 2, 1) := by decide +kernel
theorem d6_39 : decode prog_62_method_7_code 39 = .ok (.goto (-21), 3) := by decide +kernel
set_option maxRecDepth 65536 in
set_option maxHeartbeats 40000000 in
theorem rm6_f3 (l : Launch) (Z : State) (a0 : Array Value) (hw : ∀ d ∈ tables_1, d.before a0 Z = true) (ws : List Jvm.Cond) (a1 : Addr) (p2 : Int32) (f0 f1 f2 f3 l0 l1 l2 l3 : Int32) (op cnt : Int32) (h0 : Heap) (n0 : Nat) (Z0 : n0 ≤ h0.size) (B : LP Z h0 n0 a1 [.int f0, .int f1, .int f2, .int f3] [.int l0, .int l1, .int l2, .int l3] [.int (-(1 : Int32)), .int (0 : Int32), .int (0 : Int32), .int (0 : Int32)] op cnt) (R : Int32) (hR : own_bs f0 f1 f2 f3 p2 = R) (hq1 : (R < (0 : Int32))) (hq2 : ¬ (((-R) - (2 : Int32)) < (0 : Int32))) (ni : Nat) (hI : ((-R) - (2 : Int32)) = Int32.ofNat ni) (hni : ni < 4) (lv : Int32) (xl : ([.int l0, .int l1, .int l2, .int l3] : List Value).getD ni (.int 0) = .int lv) (hc29_1 : lv < p2) (ov : Int32) (xo : ([.int (-(1 : Int32)), .int (0 : Int32), .int (0 : Int32), .int (0 : Int32)] : List Value).getD ni (.int 0) = .int ov) (hc19_1 : ov < (0 : Int32)) :
    MetFree l (⟨"com/example/nested_path/nestedpath/pattern/StringPattern$Loops", "around", "(I)I"⟩ : MethodName) (head1 (Jvm.Cond.code (⟨"com/example/nested_path/nestedpath/pattern/StringPattern$Loops", "around", "(I)I"⟩ : MethodName) prog_62_method_7_code 3 (some .int) :: ws) ({ frames := 2, cells := 0, slots := 0, locals := 60 } : Room)) (fun a U => a = #[(.ref a1), (.int p2)] ∧ Z.Warmed39 U.vm ∧ U.heap = h0) (fun _ _ _ _ _ => True) (fun _ U o U' => ∃ v L, o = .returned v ∧ Q8 ov h0 n0 v U'.heap L ∧ FrameEnd U o U' L ({ frames := 2, cells := 0, slots := 0, locals := 60 } : Room).cells ({ frames := 2, cells := 0, slots := 0, locals := 60 } : Room).slots) := by
  refine MetFree.of_bodySF (plainFor_of_name pn_6) hisR ?_
  intro p e s m args below meth c s₁ Bd hml0 hP hK
  obtain ⟨rfl, hZ, hh⟩ := hP
  obtain ⟨f5, l5, o5, kf, kl, ko, E_a1, F_firsts_a1, F_lasts_a1, F_outers_a1, F_open_a1, F_count_a1, Vf, Vl, Vo, g_a1, g_f5, g_l5, g_o5, naf, nal, nao, nfl, nfo, nlo, lf, ll, lo⟩ := B
  obtain ⟨cl_l5, Ar_l5, q_l5, S_l5, N_l5, H_l5, G_l5⟩ := Vl
  obtain ⟨cl_o5, Ar_o5, q_o5, S_o5, N_o5, H_o5, G_o5⟩ := Vo
  have hin27_1 := inb_of S_l5 (j := ((-R) - (2 : Int32))) (by rw [hI]; exact own_inb hni)
  have hat27_1 : cl_l5.slots[(((-R) - (2 : Int32))).toNatClampNeg]? = some (.int lv) := Has.at H_l5 hin27_1 (by rw [hI, own_clamp (by omega)]; exact xl)
  have hin37_1 := inb_of S_o5 (j := ((-R) - (2 : Int32))) (by rw [hI]; exact own_inb hni)
  have hat37_1 : cl_o5.slots[(((-R) - (2 : Int32))).toNatClampNeg]? = some (.int ov) := Has.at H_o5 hin37_1 (by rw [hI, own_clamp (by omega)]; exact xo)
  have hx := Bd.exec
  have hby := Bd.bytes
  have hml : c.maxLocals = 3 := hml0
  have hown : s.vm.findClass "com/example/nested_path/nestedpath/pattern/StringPattern$Loops" = some m.cls := findClass_of_methodNamed Bd.named
  have hnm := (name_of_methodNamed Bd.named Bd.method).1
  have X0 : Stand p l e ({ frames := 2, cells := 0, slots := 0, locals := 60 } : Room) s m #[(.ref a1), (.int p2)] below meth c s₁ [] 0 0 := Stand.of_body Bd
  have e0 : s₁.heap = h0 := by rw [← hh, Bd.state]; rfl
  have N0 := Fr.nil n0
  have pre0 : ∀ t, Steps p.tables e below (s₁.setTop (mkF m 0 #[.val (.ref a1), .val (.int p2), .unset] [])) t → Steps p.tables e below (s₁.setTop (entryFrame m #[(.ref a1), (.int p2)] 3)) t := fun t k => castTop (ef_6 m a1 p2) k
  -- 3. LAWS
  obtain ⟨T4, X4, e4, st4⟩ := getF X0 hx hZ hown (host := "") (Or.inl (hw _ (List.mem_of_getElem? (i := 10) rfl))) Via.refl e0 F_firsts_a1 (g := (mkF m 1 #[.val (.ref a1), .val (.int p2), .unset] [(.ref a1)])) rfl rfl (hb hby d6_1)
  -- pc 5: java/util/Arrays.binarySearch by its contract rm7
  obtain ⟨_, _, ⟨T5, L5, k5, n5⟩, -, X5, ⟨Lc5, hQ5, l5, y5, z5⟩, st5⟩ := Jvm.LawKit.callS X4 hx (y := (⟨"java/util/Arrays", "binarySearch", "([II)I"⟩ : MethodName)) hown (mvT hZ (hw _ (List.mem_of_getElem? (i := 39) rfl))) (mvT hZ (hw _ (List.mem_of_getElem? (i := 40) rfl))) (mvT hZ (hw _ (List.mem_of_getElem? (i := 41) rfl))) (mvT hZ (hw _ (List.mem_of_getElem? (i := 42) rfl))) (by decide) (backOf (W := 0) (rm7 l Z a0 hw [] f5 p2 kf f0 f1 f2 f3 h0 n0 Z0 Vf) hZ (hw _ (List.mem_of_getElem? (i := 42) rfl)) (hw _ (List.mem_of_getElem? (i := 41) rfl)) (by decide) (by decide)) (g := (mkF m 5 #[.val (.ref a1), .val (.int p2), .unset] [(.int p2), (.ref f5)])) rfl (by rw [hml]; rfl) (argsL := [(.ref f5), (.int p2)]) (rest := []) (lenOf pdw_1 rfl) rfl (by show 2 * 0 + _ ≤ _; exact Nat.le_of_eq rfl) (hb hby d6_5) (fun _ _ => ⟨rfl, e4, (by decide : 0 + 0 ≤ _), (by decide : 0 + 0 ≤ _)⟩)
  dsimp only [Pt.U, Pt.locs, Pt.cells, Pt.slots] at X5 l5 y5 z5 st5 hQ5
  subst l5 y5 z5
  rw [hR] at hQ5
  obtain ⟨rfl, N5q, hh5⟩ := hQ5
  have N5 := Fr.app N0 N5q
  obtain ⟨T7, X7, e7, st7⟩ := getF X5 hx hZ hown (host := "") (Or.inl (hw _ (List.mem_of_getElem? (i := 12) rfl))) Via.refl hh5 (F_lasts_a1) (g := (mkF m 23 #[.val (.ref a1), .val (.int p2), .val (.int ((-R) - (2 : Int32)))] [(.ref a1)])) rfl rfl (hb hby d6_23)
  -- ✋ yours, out of the call's Q: hin27 : ¬ (((-R) - (2 : Int32)) < 0 ∨ cl_l5.slots.size ≤ (((-R) - (2 : Int32))).toNatClampNeg)
  -- ✋ yours, out of the call's Q: hat27 : cl_l5.slots[(((-R) - (2 : Int32))).toNatClampNeg]? = some (.int lv)
  -- ✋ yours: Ar_l5 must speak of h0 here (carried over the writes ahead of it)
  obtain ⟨T10, X10, e10, st10⟩ := getF X7 hx hZ hown (host := "") (Or.inl (hw _ (List.mem_of_getElem? (i := 14) rfl))) Via.refl e7 (F_outers_a1) (g := (mkF m 33 #[.val (.ref a1), .val (.int p2), .val (.int ((-R) - (2 : Int32)))] [(.ref a1)])) rfl rfl (hb hby d6_33)
  -- ✋ yours, out of the call's Q: hin37 : ¬ (((-R) - (2 : Int32)) < 0 ∨ cl_o5.slots.size ≤ (((-R) - (2 : Int32))).toNatClampNeg)
  -- ✋ yours, out of the call's Q: hat37 : cl_o5.slots[(((-R) - (2 : Int32))).toNatClampNeg]? = some (.int ov)
  -- ✋ yours: Ar_o5 must speak of h0 here (carried over the writes ahead of it)
  obtain ⟨fs, hr, hrun, hended, hW, hsame⟩ := X10.leave (v := some (.int ov)) (fun h => by rw [Bd.returns] at h; cases h)
  refine ⟨_, _, pre0 _ ?_, hrun, hended, _, _, rfl, ?_, ⟨_, rfl⟩, hW, hsame.mono (by decide) (by decide)⟩
  -- 4. STEPS
  · show Steps p.tables e below (s₁.setTop (mkF m 0 #[.val (.ref a1), .val (.int p2), .unset] [])) _
    refine XS.aloadN X0.here hx rfl (hb hby d6_0) rfl rfl ?_
    show Steps p.tables e below (s₁.setTop (mkF m 1 #[.val (.ref a1), .val (.int p2), .unset] [(.ref a1)])) _
    refine st4 _ ?_
    show Steps p.tables e below (T4.setTop (mkF m 4 #[.val (.ref a1), .val (.int p2), .unset] [(.ref f5)])) _
    refine XS.iloadN X4.here hx rfl (hb hby d6_4) rfl ?_
    show Steps p.tables e below (T4.setTop (mkF m 5 #[.val (.ref a1), .val (.int p2), .unset] [(.int p2), (.ref f5)])) _
    refine st5 _ ?_
    show Steps p.tables e below (T5.setTop (mkF m 8 #[.val (.ref a1), .val (.int p2), .unset] [(.int R)])) _
    refine XS.istoreN X5.here hx rfl (hb hby d6_8) rfl (l' := #[.val (.ref a1), .val (.int p2), .val (.int R)]) rfl ?_
    show Steps p.tables e below (T5.setTop (mkF m 9 #[.val (.ref a1), .val (.int p2), .val (.int R)] [])) _
    refine XS.iloadN X5.here hx rfl (hb hby d6_9) rfl ?_
    show Steps p.tables e below (T5.setTop (mkF m 10 #[.val (.ref a1), .val (.int p2), .val (.int R)] [(.int R)])) _
    refine XS.ifNo X5.here hx rfl (hb hby d6_10) rfl ((if0 _ _).trans (tlt hq1).2.1) ?_
    show Steps p.tables e below (T5.setTop (mkF m 13 #[.val (.ref a1), .val (.int p2), .val (.int R)] [])) _
    refine XS.iloadN X5.here hx rfl (hb hby d6_13) rfl ?_
    show Steps p.tables e below (T5.setTop (mkF m 14 #[.val (.ref a1), .val (.int p2), .val (.int R)] [(.int R)])) _
    refine XS.ineg X5.here hx rfl (hb hby d6_14) rfl ?_
    show Steps p.tables e below (T5.setTop (mkF m 15 #[.val (.ref a1), .val (.int p2), .val (.int R)] [(.int (-R))])) _
    refine XS.iconst X5.here hx rfl (hb hby d6_15) ?_
    show Steps p.tables e below (T5.setTop (mkF m 16 #[.val (.ref a1), .val (.int p2), .val (.int R)] [(.int (2 : Int32)), (.int (-R))])) _
    refine XS.isub X5.here hx rfl (hb hby d6_16) rfl ?_
    show Steps p.tables e below (T5.setTop (mkF m 17 #[.val (.ref a1), .val (.int p2), .val (.int R)] [(.int ((-R) - (2 : Int32)))])) _
    refine XS.istoreN X5.here hx rfl (hb hby d6_17) rfl (l' := #[.val (.ref a1), .val (.int p2), .val (.int ((-R) - (2 : Int32)))]) rfl ?_
    show Steps p.tables e below (T5.setTop (mkF m 18 #[.val (.ref a1), .val (.int p2), .val (.int ((-R) - (2 : Int32)))] [])) _
    refine XS.iloadN X5.here hx rfl (hb hby d6_18) rfl ?_
    show Steps p.tables e below (T5.setTop (mkF m 19 #[.val (.ref a1), .val (.int p2), .val (.int ((-R) - (2 : Int32)))] [(.int ((-R) - (2 : Int32)))])) _
    refine XS.ifNo X5.here hx rfl (hb hby d6_19) rfl ((if0 _ _).trans (flt hq2).1) ?_
    show Steps p.tables e below (T5.setTop (mkF m 22 #[.val (.ref a1), .val (.int p2), .val (.int ((-R) - (2 : Int32)))] [])) _
    refine XS.aloadN X5.here hx rfl (hb hby d6_22) rfl rfl ?_
    show Steps p.tables e below (T5.setTop (mkF m 23 #[.val (.ref a1), .val (.int p2), .val (.int ((-R) - (2 : Int32)))] [(.ref a1)])) _
    refine st7 _ ?_
    show Steps p.tables e below (T7.setTop (mkF m 26 #[.val (.ref a1), .val (.int p2), .val (.int ((-R) - (2 : Int32)))] [(.ref l5)])) _
    refine XS.iloadN X7.here hx rfl (hb hby d6_26) rfl ?_
    show Steps p.tables e below (T7.setTop (mkF m 27 #[.val (.ref a1), .val (.int p2), .val (.int ((-R) - (2 : Int32)))] [(.int ((-R) - (2 : Int32))), (.ref l5)])) _
    refine X7.iaload hx (j := ((-R) - (2 : Int32))) (v := (.int lv)) (by rw [e7]; exact Ar_l5.1) (State.isArrayOf_alike hZ.alike Ar_l5.2.1) Ar_l5.2.2 hin27_1 hat27_1 (g := (mkF m 27 #[.val (.ref a1), .val (.int p2), .val (.int ((-R) - (2 : Int32)))] [(.int ((-R) - (2 : Int32))), (.ref l5)])) rfl rfl (hb hby d6_27) _ ?_
    show Steps p.tables e below (T7.setTop (mkF m 28 #[.val (.ref a1), .val (.int p2), .val (.int ((-R) - (2 : Int32)))] [(.int lv)])) _
    refine XS.iloadN X7.here hx rfl (hb hby d6_28) rfl ?_
    show Steps p.tables e below (T7.setTop (mkF m 29 #[.val (.ref a1), .val (.int p2), .val (.int ((-R) - (2 : Int32)))] [(.int p2), (.int lv)])) _
    refine XS.icmpNo X7.here hx rfl (hb hby d6_29) rfl (tlt hc29_1).2.1 ?_
    show Steps p.tables e below (T7.setTop (mkF m 32 #[.val (.ref a1), .val (.int p2), .val (.int ((-R) - (2 : Int32)))] [])) _
    refine XS.aloadN X7.here hx rfl (hb hby d6_32) rfl rfl ?_
    show Steps p.tables e below (T7.setTop (mkF m 33 #[.val (.ref a1), .val (.int p2), .val (.int ((-R) - (2 : Int32)))] [(.ref a1)])) _
    refine st10 _ ?_
    show Steps p.tables e below (T10.setTop (mkF m 36 #[.val (.ref a1), .val (.int p2), .val (.int ((-R) - (2 : Int32)))] [(.ref o5)])) _
    refine XS.iloadN X10.here hx rfl (hb hby d6_36) rfl ?_
    show Steps p.tables e below (T10.setTop (mkF m 37 #[.val (.ref a1), .val (.int p2), .val (.int ((-R) - (2 : Int32)))] [(.int ((-R) - (2 : Int32))), (.ref o5)])) _
    refine X10.iaload hx (j := ((-R) - (2 : Int32))) (v := (.int ov)) (by rw [e10]; exact Ar_o5.1) (State.isArrayOf_alike hZ.alike Ar_o5.2.1) Ar_o5.2.2 hin37_1 hat37_1 (g := (mkF m 37 #[.val (.ref a1), .val (.int p2), .val (.int ((-R) - (2 : Int32)))] [(.int ((-R) - (2 : Int32))), (.ref o5)])) rfl rfl (hb hby d6_37) _ ?_
    show Steps p.tables e below (T10.setTop (mkF m 38 #[.val (.ref a1), .val (.int p2), .val (.int ((-R) - (2 : Int32)))] [(.int ov)])) _
    refine XS.istoreN X10.here hx rfl (hb hby d6_38) rfl (l' := #[.val (.ref a1), .val (.int p2), .val (.int ov)]) rfl ?_
    show Steps p.tables e below (T10.setTop (mkF m 39 #[.val (.ref a1), .val (.int p2), .val (.int ov)] [])) _
    refine XS.goto X10.here hx rfl (pc0 := 39) (pc' := 18) rfl (hb hby d6_39) (by decide) (by decide) ?_
    show Steps p.tables e below (T10.setTop (mkF m 18 #[.val (.ref a1), .val (.int p2), .val (.int ov)] [])) _
    refine XS.iloadN X10.here hx rfl (hb hby d6_18) rfl ?_
    show Steps p.tables e below (T10.setTop (mkF m 19 #[.val (.ref a1), .val (.int p2), .val (.int ov)] [(.int ov)])) _
    refine XS.ifYes X10.here hx rfl (pc0 := 19) (pc' := 42) rfl (hb hby d6_19) rfl ((if0 _ _).trans (tlt hc19_1).1) (by decide) (by decide) ?_
    show Steps p.tables e below (T10.setTop (mkF m 42 #[.val (.ref a1), .val (.int p2), .val (.int ov)] [])) _
    refine XS.iloadN X10.here hx rfl (hb hby d6_42) rfl ?_
    show Steps p.tables e below (T10.setTop (mkF m 43 #[.val (.ref a1), .val (.int p2), .val (.int ov)] [(.int ov)])) _
    exact retI X10 hx Bd.returns (hb hby d6_43) hr      -- retI stands in the head ('lawwalk <made dir>' prints it)
  · show Q8 ov h0 n0 _ T10.heap _
    rw [e10]
    exact ⟨rfl, N5, by first | rfl | assumption⟩
set_option maxRecDepth 65536 in
set_option maxHeartbeats 40000000 in
theorem rm6_f4 (l : Launch) (Z : State) (a0 : Array Value) (hw : ∀ d ∈ tables_1, d.before a0 Z = true) (ws : List Jvm.Cond) (a1 : Addr) (p2 : Int32) (f0 f1 f2 f3 l0 l1 l2 l3 : Int32) (op cnt : Int32) (h0 : Heap) (n0 : Nat) (Z0 : n0 ≤ h0.size) (B : LP Z h0 n0 a1 [.int f0, .int f1, .int f2, .int f3] [.int l0, .int l1, .int l2, .int l3] [.int (-(1 : Int32)), .int (0 : Int32), .int (0 : Int32), .int (0 : Int32)] op cnt) (R : Int32) (hR : own_bs f0 f1 f2 f3 p2 = R) (hq1 : (R < (0 : Int32))) (hq2 : ¬ (((-R) - (2 : Int32)) < (0 : Int32))) (ni : Nat) (hI : ((-R) - (2 : Int32)) = Int32.ofNat ni) (hni : ni < 4) (lv : Int32) (xl : ([.int l0, .int l1, .int l2, .int l3] : List Value).getD ni (.int 0) = .int lv) (hc29_1 : lv < p2) (ov : Int32) (xo : ([.int (-(1 : Int32)), .int (0 : Int32), .int (0 : Int32), .int (0 : Int32)] : List Value).getD ni (.int 0) = .int ov) (hc19_1 : ¬ (ov < (0 : Int32))) (no : Nat) (hO : ov = Int32.ofNat no) (hno : no < 4) (lw : Int32) (yl : ([.int l0, .int l1, .int l2, .int l3] : List Value).getD no (.int 0) = .int lw) (hc29_2 : ¬ (lw < p2)) :
    MetFree l (⟨"com/example/nested_path/nestedpath/pattern/StringPattern$Loops", "around", "(I)I"⟩ : MethodName) (head1 (Jvm.Cond.code (⟨"com/example/nested_path/nestedpath/pattern/StringPattern$Loops", "around", "(I)I"⟩ : MethodName) prog_62_method_7_code 3 (some .int) :: ws) ({ frames := 2, cells := 0, slots := 0, locals := 60 } : Room)) (fun a U => a = #[(.ref a1), (.int p2)] ∧ Z.Warmed39 U.vm ∧ U.heap = h0) (fun _ _ _ _ _ => True) (fun _ U o U' => ∃ v L, o = .returned v ∧ Q8 ov h0 n0 v U'.heap L ∧ FrameEnd U o U' L ({ frames := 2, cells := 0, slots := 0, locals := 60 } : Room).cells ({ frames := 2, cells := 0, slots := 0, locals := 60 } : Room).slots) := by
  refine MetFree.of_bodySF (plainFor_of_name pn_6) hisR ?_
  intro p e s m args below meth c s₁ Bd hml0 hP hK
  obtain ⟨rfl, hZ, hh⟩ := hP
  obtain ⟨f5, l5, o5, kf, kl, ko, E_a1, F_firsts_a1, F_lasts_a1, F_outers_a1, F_open_a1, F_count_a1, Vf, Vl, Vo, g_a1, g_f5, g_l5, g_o5, naf, nal, nao, nfl, nfo, nlo, lf, ll, lo⟩ := B
  obtain ⟨cl_l5, Ar_l5, q_l5, S_l5, N_l5, H_l5, G_l5⟩ := Vl
  obtain ⟨cl_o5, Ar_o5, q_o5, S_o5, N_o5, H_o5, G_o5⟩ := Vo
  have hin27_1 := inb_of S_l5 (j := ((-R) - (2 : Int32))) (by rw [hI]; exact own_inb hni)
  have hat27_1 : cl_l5.slots[(((-R) - (2 : Int32))).toNatClampNeg]? = some (.int lv) := Has.at H_l5 hin27_1 (by rw [hI, own_clamp (by omega)]; exact xl)
  have hin37_1 := inb_of S_o5 (j := ((-R) - (2 : Int32))) (by rw [hI]; exact own_inb hni)
  have hat37_1 : cl_o5.slots[(((-R) - (2 : Int32))).toNatClampNeg]? = some (.int ov) := Has.at H_o5 hin37_1 (by rw [hI, own_clamp (by omega)]; exact xo)
  have hin27_2 := inb_of S_l5 (j := ov) (by rw [hO]; exact own_inb hno)
  have hat27_2 : cl_l5.slots[(ov).toNatClampNeg]? = some (.int lw) := Has.at H_l5 hin27_2 (by rw [hO, own_clamp (by omega)]; exact yl)
  have hx := Bd.exec
  have hby := Bd.bytes
  have hml : c.maxLocals = 3 := hml0
  have hown : s.vm.findClass "com/example/nested_path/nestedpath/pattern/StringPattern$Loops" = some m.cls := findClass_of_methodNamed Bd.named
  have hnm := (name_of_methodNamed Bd.named Bd.method).1
  have X0 : Stand p l e ({ frames := 2, cells := 0, slots := 0, locals := 60 } : Room) s m #[(.ref a1), (.int p2)] below meth c s₁ [] 0 0 := Stand.of_body Bd
  have e0 : s₁.heap = h0 := by rw [← hh, Bd.state]; rfl
  have N0 := Fr.nil n0
  have pre0 : ∀ t, Steps p.tables e below (s₁.setTop (mkF m 0 #[.val (.ref a1), .val (.int p2), .unset] [])) t → Steps p.tables e below (s₁.setTop (entryFrame m #[(.ref a1), (.int p2)] 3)) t := fun t k => castTop (ef_6 m a1 p2) k
  -- 3. LAWS
  obtain ⟨T4, X4, e4, st4⟩ := getF X0 hx hZ hown (host := "") (Or.inl (hw _ (List.mem_of_getElem? (i := 10) rfl))) Via.refl e0 F_firsts_a1 (g := (mkF m 1 #[.val (.ref a1), .val (.int p2), .unset] [(.ref a1)])) rfl rfl (hb hby d6_1)
  -- pc 5: java/util/Arrays.binarySearch by its contract rm7
  obtain ⟨_, _, ⟨T5, L5, k5, n5⟩, -, X5, ⟨Lc5, hQ5, l5, y5, z5⟩, st5⟩ := Jvm.LawKit.callS X4 hx (y := (⟨"java/util/Arrays", "binarySearch", "([II)I"⟩ : MethodName)) hown (mvT hZ (hw _ (List.mem_of_getElem? (i := 39) rfl))) (mvT hZ (hw _ (List.mem_of_getElem? (i := 40) rfl))) (mvT hZ (hw _ (List.mem_of_getElem? (i := 41) rfl))) (mvT hZ (hw _ (List.mem_of_getElem? (i := 42) rfl))) (by decide) (backOf (W := 0) (rm7 l Z a0 hw [] f5 p2 kf f0 f1 f2 f3 h0 n0 Z0 Vf) hZ (hw _ (List.mem_of_getElem? (i := 42) rfl)) (hw _ (List.mem_of_getElem? (i := 41) rfl)) (by decide) (by decide)) (g := (mkF m 5 #[.val (.ref a1), .val (.int p2), .unset] [(.int p2), (.ref f5)])) rfl (by rw [hml]; rfl) (argsL := [(.ref f5), (.int p2)]) (rest := []) (lenOf pdw_1 rfl) rfl (by show 2 * 0 + _ ≤ _; exact Nat.le_of_eq rfl) (hb hby d6_5) (fun _ _ => ⟨rfl, e4, (by decide : 0 + 0 ≤ _), (by decide : 0 + 0 ≤ _)⟩)
  dsimp only [Pt.U, Pt.locs, Pt.cells, Pt.slots] at X5 l5 y5 z5 st5 hQ5
  subst l5 y5 z5
  rw [hR] at hQ5
  obtain ⟨rfl, N5q, hh5⟩ := hQ5
  have N5 := Fr.app N0 N5q
  obtain ⟨T7, X7, e7, st7⟩ := getF X5 hx hZ hown (host := "") (Or.inl (hw _ (List.mem_of_getElem? (i := 12) rfl))) Via.refl hh5 (F_lasts_a1) (g := (mkF m 23 #[.val (.ref a1), .val (.int p2), .val (.int ((-R) - (2 : Int32)))] [(.ref a1)])) rfl rfl (hb hby d6_23)
  -- ✋ yours, out of the call's Q: hin27 : ¬ (((-R) - (2 : Int32)) < 0 ∨ cl_l5.slots.size ≤ (((-R) - (2 : Int32))).toNatClampNeg)
  -- ✋ yours, out of the call's Q: hat27 : cl_l5.slots[(((-R) - (2 : Int32))).toNatClampNeg]? = some (.int lv)
  -- ✋ yours: Ar_l5 must speak of h0 here (carried over the writes ahead of it)
  obtain ⟨T10, X10, e10, st10⟩ := getF X7 hx hZ hown (host := "") (Or.inl (hw _ (List.mem_of_getElem? (i := 14) rfl))) Via.refl e7 (F_outers_a1) (g := (mkF m 33 #[.val (.ref a1), .val (.int p2), .val (.int ((-R) - (2 : Int32)))] [(.ref a1)])) rfl rfl (hb hby d6_33)
  -- ✋ yours, out of the call's Q: hin37 : ¬ (((-R) - (2 : Int32)) < 0 ∨ cl_o5.slots.size ≤ (((-R) - (2 : Int32))).toNatClampNeg)
  -- ✋ yours, out of the call's Q: hat37 : cl_o5.slots[(((-R) - (2 : Int32))).toNatClampNeg]? = some (.int ov)
  -- ✋ yours: Ar_o5 must speak of h0 here (carried over the writes ahead of it)
  obtain ⟨T12, X12, e12, st12⟩ := getF X10 hx hZ hown (host := "") (Or.inl (hw _ (List.mem_of_getElem? (i := 12) rfl))) Via.refl e10 (F_lasts_a1) (g := (mkF m 23 #[.val (.ref a1), .val (.int p2), .val (.int ov)] [(.ref a1)])) rfl rfl (hb hby d6_23)
  -- ✋ yours: Ar_l5 must speak of h0 here (carried over the writes ahead of it)
  obtain ⟨fs, hr, hrun, hended, hW, hsame⟩ := X12.leave (v := some (.int ov)) (fun h => by rw [Bd.returns] at h; cases h)
  refine ⟨_, _, pre0 _ ?_, hrun, hended, _, _, rfl, ?_, ⟨_, rfl⟩, hW, hsame.mono (by decide) (by decide)⟩
  -- 4. STEPS
  · show Steps p.tables e below (s₁.setTop (mkF m 0 #[.val (.ref a1), .val (.int p2), .unset] [])) _
    refine XS.aloadN X0.here hx rfl (hb hby d6_0) rfl rfl ?_
    show Steps p.tables e below (s₁.setTop (mkF m 1 #[.val (.ref a1), .val (.int p2), .unset] [(.ref a1)])) _
    refine st4 _ ?_
    show Steps p.tables e below (T4.setTop (mkF m 4 #[.val (.ref a1), .val (.int p2), .unset] [(.ref f5)])) _
    refine XS.iloadN X4.here hx rfl (hb hby d6_4) rfl ?_
    show Steps p.tables e below (T4.setTop (mkF m 5 #[.val (.ref a1), .val (.int p2), .unset] [(.int p2), (.ref f5)])) _
    refine st5 _ ?_
    show Steps p.tables e below (T5.setTop (mkF m 8 #[.val (.ref a1), .val (.int p2), .unset] [(.int R)])) _
    refine XS.istoreN X5.here hx rfl (hb hby d6_8) rfl (l' := #[.val (.ref a1), .val (.int p2), .val (.int R)]) rfl ?_
    show Steps p.tables e below (T5.setTop (mkF m 9 #[.val (.ref a1), .val (.int p2), .val (.int R)] [])) _
    refine XS.iloadN X5.here hx rfl (hb hby d6_9) rfl ?_
    show Steps p.tables e below (T5.setTop (mkF m 10 #[.val (.ref a1), .val (.int p2), .val (.int R)] [(.int R)])) _
    refine XS.ifNo X5.here hx rfl (hb hby d6_10) rfl ((if0 _ _).trans (tlt hq1).2.1) ?_
    show Steps p.tables e below (T5.setTop (mkF m 13 #[.val (.ref a1), .val (.int p2), .val (.int R)] [])) _
    refine XS.iloadN X5.here hx rfl (hb hby d6_13) rfl ?_
    show Steps p.tables e below (T5.setTop (mkF m 14 #[.val (.ref a1), .val (.int p2), .val (.int R)] [(.int R)])) _
    refine XS.ineg X5.here hx rfl (hb hby d6_14) rfl ?_
    show Steps p.tables e below (T5.setTop (mkF m 15 #[.val (.ref a1), .val (.int p2), .val (.int R)] [(.int (-R))])) _
    refine XS.iconst X5.here hx rfl (hb hby d6_15) ?_
    show Steps p.tables e below (T5.setTop (mkF m 16 #[.val (.ref a1), .val (.int p2), .val (.int R)] [(.int (2 : Int32)), (.int (-R))])) _
    refine XS.isub X5.here hx rfl (hb hby d6_16) rfl ?_
    show Steps p.tables e below (T5.setTop (mkF m 17 #[.val (.ref a1), .val (.int p2), .val (.int R)] [(.int ((-R) - (2 : Int32)))])) _
    refine XS.istoreN X5.here hx rfl (hb hby d6_17) rfl (l' := #[.val (.ref a1), .val (.int p2), .val (.int ((-R) - (2 : Int32)))]) rfl ?_
    show Steps p.tables e below (T5.setTop (mkF m 18 #[.val (.ref a1), .val (.int p2), .val (.int ((-R) - (2 : Int32)))] [])) _
    refine XS.iloadN X5.here hx rfl (hb hby d6_18) rfl ?_
    show Steps p.tables e below (T5.setTop (mkF m 19 #[.val (.ref a1), .val (.int p2), .val (.int ((-R) - (2 : Int32)))] [(.int ((-R) - (2 : Int32)))])) _
    refine XS.ifNo X5.here hx rfl (hb hby d6_19) rfl ((if0 _ _).trans (flt hq2).1) ?_
    show Steps p.tables e below (T5.setTop (mkF m 22 #[.val (.ref a1), .val (.int p2), .val (.int ((-R) - (2 : Int32)))] [])) _
    refine XS.aloadN X5.here hx rfl (hb hby d6_22) rfl rfl ?_
    show Steps p.tables e below (T5.setTop (mkF m 23 #[.val (.ref a1), .val (.int p2), .val (.int ((-R) - (2 : Int32)))] [(.ref a1)])) _
    refine st7 _ ?_
    show Steps p.tables e below (T7.setTop (mkF m 26 #[.val (.ref a1), .val (.int p2), .val (.int ((-R) - (2 : Int32)))] [(.ref l5)])) _
    refine XS.iloadN X7.here hx rfl (hb hby d6_26) rfl ?_
    show Steps p.tables e below (T7.setTop (mkF m 27 #[.val (.ref a1), .val (.int p2), .val (.int ((-R) - (2 : Int32)))] [(.int ((-R) - (2 : Int32))), (.ref l5)])) _
    refine X7.iaload hx (j := ((-R) - (2 : Int32))) (v := (.int lv)) (by rw [e7]; exact Ar_l5.1) (State.isArrayOf_alike hZ.alike Ar_l5.2.1) Ar_l5.2.2 hin27_1 hat27_1 (g := (mkF m 27 #[.val (.ref a1), .val (.int p2), .val (.int ((-R) - (2 : Int32)))] [(.int ((-R) - (2 : Int32))), (.ref l5)])) rfl rfl (hb hby d6_27) _ ?_
    show Steps p.tables e below (T7.setTop (mkF m 28 #[.val (.ref a1), .val (.int p2), .val (.int ((-R) - (2 : Int32)))] [(.int lv)])) _
    refine XS.iloadN X7.here hx rfl (hb hby d6_28) rfl ?_
    show Steps p.tables e below (T7.setTop (mkF m 29 #[.val (.ref a1), .val (.int p2), .val (.int ((-R) - (2 : Int32)))] [(.int p2), (.int lv)])) _
    refine XS.icmpNo X7.here hx rfl (hb hby d6_29) rfl (tlt hc29_1).2.1 ?_
    show Steps p.tables e below (T7.setTop (mkF m 32 #[.val (.ref a1), .val (.int p2), .val (.int ((-R) - (2 : Int32)))] [])) _
    refine XS.aloadN X7.here hx rfl (hb hby d6_32) rfl rfl ?_
    show Steps p.tables e below (T7.setTop (mkF m 33 #[.val (.ref a1), .val (.int p2), .val (.int ((-R) - (2 : Int32)))] [(.ref a1)])) _
    refine st10 _ ?_
    show Steps p.tables e below (T10.setTop (mkF m 36 #[.val (.ref a1), .val (.int p2), .val (.int ((-R) - (2 : Int32)))] [(.ref o5)])) _
    refine XS.iloadN X10.here hx rfl (hb hby d6_36) rfl ?_
    show Steps p.tables e below (T10.setTop (mkF m 37 #[.val (.ref a1), .val (.int p2), .val (.int ((-R) - (2 : Int32)))] [(.int ((-R) - (2 : Int32))), (.ref o5)])) _
    refine X10.iaload hx (j := ((-R) - (2 : Int32))) (v := (.int ov)) (by rw [e10]; exact Ar_o5.1) (State.isArrayOf_alike hZ.alike Ar_o5.2.1) Ar_o5.2.2 hin37_1 hat37_1 (g := (mkF m 37 #[.val (.ref a1), .val (.int p2), .val (.int ((-R) - (2 : Int32)))] [(.int ((-R) - (2 : Int32))), (.ref o5)])) rfl rfl (hb hby d6_37) _ ?_
    show Steps p.tables e below (T10.setTop (mkF m 38 #[.val (.ref a1), .val (.int p2), .val (.int ((-R) - (2 : Int32)))] [(.int ov)])) _
    refine XS.istoreN X10.here hx rfl (hb hby d6_38) rfl (l' := #[.val (.ref a1), .val (.int p2), .val (.int ov)]) rfl ?_
    show Steps p.tables e below (T10.setTop (mkF m 39 #[.val (.ref a1), .val (.int p2), .val (.int ov)] [])) _
    refine XS.goto X10.here hx rfl (pc0 := 39) (pc' := 18) rfl (hb hby d6_39) (by decide) (by decide) ?_
    show Steps p.tables e below (T10.setTop (mkF m 18 #[.val (.ref a1), .val (.int p2), .val (.int ov)] [])) _
    refine XS.iloadN X10.here hx rfl (hb hby d6_18) rfl ?_
    show Steps p.tables e below (T10.setTop (mkF m 19 #[.val (.ref a1), .val (.int p2), .val (.int ov)] [(.int ov)])) _
    refine XS.ifNo X10.here hx rfl (hb hby d6_19) rfl ((if0 _ _).trans (flt hc19_1).1) ?_
    show Steps p.tables e below (T10.setTop (mkF m 22 #[.val (.ref a1), .val (.int p2), .val (.int ov)] [])) _
    refine XS.aloadN X10.here hx rfl (hb hby d6_22) rfl rfl ?_
    show Steps p.tables e below (T10.setTop (mkF m 23 #[.val (.ref a1), .val (.int p2), .val (.int ov)] [(.ref a1)])) _
    refine st12 _ ?_
    show Steps p.tables e below (T12.setTop (mkF m 26 #[.val (.ref a1), .val (.int p2), .val (.int ov)] [(.ref l5)])) _
    refine XS.iloadN X12.here hx rfl (hb hby d6_26) rfl ?_
    show Steps p.tables e below (T12.setTop (mkF m 27 #[.val (.ref a1), .val (.int p2), .val (.int ov)] [(.int ov), (.ref l5)])) _
    refine X12.iaload hx (j := ov) (v := (.int lw)) (by rw [e12]; exact Ar_l5.1) (State.isArrayOf_alike hZ.alike Ar_l5.2.1) Ar_l5.2.2 hin27_2 hat27_2 (g := (mkF m 27 #[.val (.ref a1), .val (.int p2), .val (.int ov)] [(.int ov), (.ref l5)])) rfl rfl (hb hby d6_27) _ ?_
    show Steps p.tables e below (T12.setTop (mkF m 28 #[.val (.ref a1), .val (.int p2), .val (.int ov)] [(.int lw)])) _
    refine XS.iloadN X12.here hx rfl (hb hby d6_28) rfl ?_
    show Steps p.tables e below (T12.setTop (mkF m 29 #[.val (.ref a1), .val (.int p2), .val (.int ov)] [(.int p2), (.int lw)])) _
    refine XS.icmpYes X12.here hx rfl (pc0 := 29) (pc' := 42) rfl (hb hby d6_29) rfl (flt hc29_2).2.1 (by decide) (by decide) ?_
    show Steps p.tables e below (T12.setTop (mkF m 42 #[.val (.ref a1), .val (.int p2), .val (.int ov)] [])) _
    refine XS.iloadN X12.here hx rfl (hb hby d6_42) rfl ?_
    show Steps p.tables e below (T12.setTop (mkF m 43 #[.val (.ref a1), .val (.int p2), .val (.int ov)] [(.int ov)])) _
    exact retI X12 hx Bd.returns (hb hby d6_43) hr      -- retI stands in the head ('lawwalk <made dir>' prints it)
  · show Q8 ov h0 n0 _ T12.heap _
    rw [e12]
    exact ⟨rfl, N5, by first | rfl | assumption⟩
set_option maxRecDepth 65536 in
set_option maxHeartbeats 40000000 in
theorem rm6_f5 (l : Launch) (Z : State) (a0 : Array Value) (hw : ∀ d ∈ tables_1, d.before a0 Z = true) (ws : List Jvm.Cond) (a1 : Addr) (p2 : Int32) (f0 f1 f2 f3 l0 l1 l2 l3 : Int32) (op cnt : Int32) (h0 : Heap) (n0 : Nat) (Z0 : n0 ≤ h0.size) (B : LP Z h0 n0 a1 [.int f0, .int f1, .int f2, .int f3] [.int l0, .int l1, .int l2, .int l3] [.int (-(1 : Int32)), .int (0 : Int32), .int (0 : Int32), .int (0 : Int32)] op cnt) (R : Int32) (hR : own_bs f0 f1 f2 f3 p2 = R) (hq1 : (R < (0 : Int32))) (hq2 : ¬ (((-R) - (2 : Int32)) < (0 : Int32))) (ni : Nat) (hI : ((-R) - (2 : Int32)) = Int32.ofNat ni) (hni : ni < 4) (lv : Int32) (xl : ([.int l0, .int l1, .int l2, .int l3] : List Value).getD ni (.int 0) = .int lv) (hc29_1 : lv < p2) (ov : Int32) (xo : ([.int (-(1 : Int32)), .int (0 : Int32), .int (0 : Int32), .int (0 : Int32)] : List Value).getD ni (.int 0) = .int ov) (hc19_1 : ¬ (ov < (0 : Int32))) (no : Nat) (hO : ov = Int32.ofNat no) (hno : no < 4) (lw : Int32) (yl : ([.int l0, .int l1, .int l2, .int l3] : List Value).getD no (.int 0) = .int lw) (hc29_2 : lw < p2) (ow : Int32) (yo : ([.int (-(1 : Int32)), .int (0 : Int32), .int (0 : Int32), .int (0 : Int32)] : List Value).getD no (.int 0) = .int ow) (hc19_2 : ow < (0 : Int32)) :
    MetFree l (⟨"com/example/nested_path/nestedpath/pattern/StringPattern$Loops", "around", "(I)I"⟩ : MethodName) (head1 (Jvm.Cond.code (⟨"com/example/nested_path/nestedpath/pattern/StringPattern$Loops", "around", "(I)I"⟩ : MethodName) prog_62_method_7_code 3 (some .int) :: ws) ({ frames := 2, cells := 0, slots := 0, locals := 60 } : Room)) (fun a U => a = #[(.ref a1), (.int p2)] ∧ Z.Warmed39 U.vm ∧ U.heap = h0) (fun _ _ _ _ _ => True) (fun _ U o U' => ∃ v L, o = .returned v ∧ Q8 ow h0 n0 v U'.heap L ∧ FrameEnd U o U' L ({ frames := 2, cells := 0, slots := 0, locals := 60 } : Room).cells ({ frames := 2, cells := 0, slots := 0, locals := 60 } : Room).slots) := by
  refine MetFree.of_bodySF (plainFor_of_name pn_6) hisR ?_
  intro p e s m args below meth c s₁ Bd hml0 hP hK
  obtain ⟨rfl, hZ, hh⟩ := hP
  obtain ⟨f5, l5, o5, kf, kl, ko, E_a1, F_firsts_a1, F_lasts_a1, F_outers_a1, F_open_a1, F_count_a1, Vf, Vl, Vo, g_a1, g_f5, g_l5, g_o5, naf, nal, nao, nfl, nfo, nlo, lf, ll, lo⟩ := B
  obtain ⟨cl_l5, Ar_l5, q_l5, S_l5, N_l5, H_l5, G_l5⟩ := Vl
  obtain ⟨cl_o5, Ar_o5, q_o5, S_o5, N_o5, H_o5, G_o5⟩ := Vo
  have hin27_1 := inb_of S_l5 (j := ((-R) - (2 : Int32))) (by rw [hI]; exact own_inb hni)
  have hat27_1 : cl_l5.slots[(((-R) - (2 : Int32))).toNatClampNeg]? = some (.int lv) := Has.at H_l5 hin27_1 (by rw [hI, own_clamp (by omega)]; exact xl)
  have hin37_1 := inb_of S_o5 (j := ((-R) - (2 : Int32))) (by rw [hI]; exact own_inb hni)
  have hat37_1 : cl_o5.slots[(((-R) - (2 : Int32))).toNatClampNeg]? = some (.int ov) := Has.at H_o5 hin37_1 (by rw [hI, own_clamp (by omega)]; exact xo)
  have hin27_2 := inb_of S_l5 (j := ov) (by rw [hO]; exact own_inb hno)
  have hat27_2 : cl_l5.slots[(ov).toNatClampNeg]? = some (.int lw) := Has.at H_l5 hin27_2 (by rw [hO, own_clamp (by omega)]; exact yl)
  have hin37_2 := inb_of S_o5 (j := ov) (by rw [hO]; exact own_inb hno)
  have hat37_2 : cl_o5.slots[(ov).toNatClampNeg]? = some (.int ow) := Has.at H_o5 hin37_2 (by rw [hO, own_clamp (by omega)]; exact yo)
  have hx := Bd.exec
  have hby := Bd.bytes
  have hml : c.maxLocals = 3 := hml0
  have hown : s.vm.findClass "com/example/nested_path/nestedpath/pattern/StringPattern$Loops" = some m.cls := findClass_of_methodNamed Bd.named
  have hnm := (name_of_methodNamed Bd.named Bd.method).1
  have X0 : Stand p l e ({ frames := 2, cells := 0, slots := 0, locals := 60 } : Room) s m #[(.ref a1), (.int p2)] below meth c s₁ [] 0 0 := Stand.of_body Bd
  have e0 : s₁.heap = h0 := by rw [← hh, Bd.state]; rfl
  have N0 := Fr.nil n0
  have pre0 : ∀ t, Steps p.tables e below (s₁.setTop (mkF m 0 #[.val (.ref a1), .val (.int p2), .unset] [])) t → Steps p.tables e below (s₁.setTop (entryFrame m #[(.ref a1), (.int p2)] 3)) t := fun t k => castTop (ef_6 m a1 p2) k
  -- 3. LAWS
  obtain ⟨T4, X4, e4, st4⟩ := getF X0 hx hZ hown (host := "") (Or.inl (hw _ (List.mem_of_getElem? (i := 10) rfl))) Via.refl e0 F_firsts_a1 (g := (mkF m 1 #[.val (.ref a1), .val (.int p2), .unset] [(.ref a1)])) rfl rfl (hb hby d6_1)
  -- pc 5: java/util/Arrays.binarySearch by its contract rm7
  obtain ⟨_, _, ⟨T5, L5, k5, n5⟩, -, X5, ⟨Lc5, hQ5, l5, y5, z5⟩, st5⟩ := Jvm.LawKit.callS X4 hx (y := (⟨"java/util/Arrays", "binarySearch", "([II)I"⟩ : MethodName)) hown (mvT hZ (hw _ (List.mem_of_getElem? (i := 39) rfl))) (mvT hZ (hw _ (List.mem_of_getElem? (i := 40) rfl))) (mvT hZ (hw _ (List.mem_of_getElem? (i := 41) rfl))) (mvT hZ (hw _ (List.mem_of_getElem? (i := 42) rfl))) (by decide) (backOf (W := 0) (rm7 l Z a0 hw [] f5 p2 kf f0 f1 f2 f3 h0 n0 Z0 Vf) hZ (hw _ (List.mem_of_getElem? (i := 42) rfl)) (hw _ (List.mem_of_getElem? (i := 41) rfl)) (by decide) (by decide)) (g := (mkF m 5 #[.val (.ref a1), .val (.int p2), .unset] [(.int p2), (.ref f5)])) rfl (by rw [hml]; rfl) (argsL := [(.ref f5), (.int p2)]) (rest := []) (lenOf pdw_1 rfl) rfl (by show 2 * 0 + _ ≤ _; exact Nat.le_of_eq rfl) (hb hby d6_5) (fun _ _ => ⟨rfl, e4, (by decide : 0 + 0 ≤ _), (by decide : 0 + 0 ≤ _)⟩)
  dsimp only [Pt.U, Pt.locs, Pt.cells, Pt.slots] at X5 l5 y5 z5 st5 hQ5
  subst l5 y5 z5
  rw [hR] at hQ5
  obtain ⟨rfl, N5q, hh5⟩ := hQ5
  have N5 := Fr.app N0 N5q
  obtain ⟨T7, X7, e7, st7⟩ := getF X5 hx hZ hown (host := "") (Or.inl (hw _ (List.mem_of_getElem? (i := 12) rfl))) Via.refl hh5 (F_lasts_a1) (g := (mkF m 23 #[.val (.ref a1), .val (.int p2), .val (.int ((-R) - (2 : Int32)))] [(.ref a1)])) rfl rfl (hb hby d6_23)
  -- ✋ yours, out of the call's Q: hin27 : ¬ (((-R) - (2 : Int32)) < 0 ∨ cl_l5.slots.size ≤ (((-R) - (2 : Int32))).toNatClampNeg)
  -- ✋ yours, out of the call's Q: hat27 : cl_l5.slots[(((-R) - (2 : Int32))).toNatClampNeg]? = some (.int lv)
  -- ✋ yours: Ar_l5 must speak of h0 here (carried over the writes ahead of it)
  obtain ⟨T10, X10, e10, st10⟩ := getF X7 hx hZ hown (host := "") (Or.inl (hw _ (List.mem_of_getElem? (i := 14) rfl))) Via.refl e7 (F_outers_a1) (g := (mkF m 33 #[.val (.ref a1), .val (.int p2), .val (.int ((-R) - (2 : Int32)))] [(.ref a1)])) rfl rfl (hb hby d6_33)
  -- ✋ yours, out of the call's Q: hin37 : ¬ (((-R) - (2 : Int32)) < 0 ∨ cl_o5.slots.size ≤ (((-R) - (2 : Int32))).toNatClampNeg)
  -- ✋ yours, out of the call's Q: hat37 : cl_o5.slots[(((-R) - (2 : Int32))).toNatClampNeg]? = some (.int ov)
  -- ✋ yours: Ar_o5 must speak of h0 here (carried over the writes ahead of it)
  obtain ⟨T12, X12, e12, st12⟩ := getF X10 hx hZ hown (host := "") (Or.inl (hw _ (List.mem_of_getElem? (i := 12) rfl))) Via.refl e10 (F_lasts_a1) (g := (mkF m 23 #[.val (.ref a1), .val (.int p2), .val (.int ov)] [(.ref a1)])) rfl rfl (hb hby d6_23)
  -- ✋ yours: Ar_l5 must speak of h0 here (carried over the writes ahead of it)
  obtain ⟨T14, X14, e14, st14⟩ := getF X12 hx hZ hown (host := "") (Or.inl (hw _ (List.mem_of_getElem? (i := 14) rfl))) Via.refl e12 (F_outers_a1) (g := (mkF m 33 #[.val (.ref a1), .val (.int p2), .val (.int ov)] [(.ref a1)])) rfl rfl (hb hby d6_33)
  -- ✋ yours: Ar_o5 must speak of h0 here (carried over the writes ahead of it)
  obtain ⟨fs, hr, hrun, hended, hW, hsame⟩ := X14.leave (v := some (.int ow)) (fun h => by rw [Bd.returns] at h; cases h)
  refine ⟨_, _, pre0 _ ?_, hrun, hended, _, _, rfl, ?_, ⟨_, rfl⟩, hW, hsame.mono (by decide) (by decide)⟩
  -- 4. STEPS
  · show Steps p.tables e below (s₁.setTop (mkF m 0 #[.val (.ref a1), .val (.int p2), .unset] [])) _
    refine XS.aloadN X0.here hx rfl (hb hby d6_0) rfl rfl ?_
    show Steps p.tables e below (s₁.setTop (mkF m 1 #[.val (.ref a1), .val (.int p2), .unset] [(.ref a1)])) _
    refine st4 _ ?_
    show Steps p.tables e below (T4.setTop (mkF m 4 #[.val (.ref a1), .val (.int p2), .unset] [(.ref f5)])) _
    refine XS.iloadN X4.here hx rfl (hb hby d6_4) rfl ?_
    show Steps p.tables e below (T4.setTop (mkF m 5 #[.val (.ref a1), .val (.int p2), .unset] [(.int p2), (.ref f5)])) _
    refine st5 _ ?_
    show Steps p.tables e below (T5.setTop (mkF m 8 #[.val (.ref a1), .val (.int p2), .unset] [(.int R)])) _
    refine XS.istoreN X5.here hx rfl (hb hby d6_8) rfl (l' := #[.val (.ref a1), .val (.int p2), .val (.int R)]) rfl ?_
    show Steps p.tables e below (T5.setTop (mkF m 9 #[.val (.ref a1), .val (.int p2), .val (.int R)] [])) _
    refine XS.iloadN X5.here hx rfl (hb hby d6_9) rfl ?_
    show Steps p.tables e below (T5.setTop (mkF m 10 #[.val (.ref a1), .val (.int p2), .val (.int R)] [(.int R)])) _
    refine XS.ifNo X5.here hx rfl (hb hby d6_10) rfl ((if0 _ _).trans (tlt hq1).2.1) ?_
    show Steps p.tables e below (T5.setTop (mkF m 13 #[.val (.ref a1), .val (.int p2), .val (.int R)] [])) _
    refine XS.iloadN X5.here hx rfl (hb hby d6_13) rfl ?_
    show Steps p.tables e below (T5.setTop (mkF m 14 #[.val (.ref a1), .val (.int p2), .val (.int R)] [(.int R)])) _
    refine XS.ineg X5.here hx rfl (hb hby d6_14) rfl ?_
    show Steps p.tables e below (T5.setTop (mkF m 15 #[.val (.ref a1), .val (.int p2), .val (.int R)] [(.int (-R))])) _
    refine XS.iconst X5.here hx rfl (hb hby d6_15) ?_
    show Steps p.tables e below (T5.setTop (mkF m 16 #[.val (.ref a1), .val (.int p2), .val (.int R)] [(.int (2 : Int32)), (.int (-R))])) _
    refine XS.isub X5.here hx rfl (hb hby d6_16) rfl ?_
    show Steps p.tables e below (T5.setTop (mkF m 17 #[.val (.ref a1), .val (.int p2), .val (.int R)] [(.int ((-R) - (2 : Int32)))])) _
    refine XS.istoreN X5.here hx rfl (hb hby d6_17) rfl (l' := #[.val (.ref a1), .val (.int p2), .val (.int ((-R) - (2 : Int32)))]) rfl ?_
    show Steps p.tables e below (T5.setTop (mkF m 18 #[.val (.ref a1), .val (.int p2), .val (.int ((-R) - (2 : Int32)))] [])) _
    refine XS.iloadN X5.here hx rfl (hb hby d6_18) rfl ?_
    show Steps p.tables e below (T5.setTop (mkF m 19 #[.val (.ref a1), .val (.int p2), .val (.int ((-R) - (2 : Int32)))] [(.int ((-R) - (2 : Int32)))])) _
    refine XS.ifNo X5.here hx rfl (hb hby d6_19) rfl ((if0 _ _).trans (flt hq2).1) ?_
    show Steps p.tables e below (T5.setTop (mkF m 22 #[.val (.ref a1), .val (.int p2), .val (.int ((-R) - (2 : Int32)))] [])) _
    refine XS.aloadN X5.here hx rfl (hb hby d6_22) rfl rfl ?_
    show Steps p.tables e below (T5.setTop (mkF m 23 #[.val (.ref a1), .val (.int p2), .val (.int ((-R) - (2 : Int32)))] [(.ref a1)])) _
    refine st7 _ ?_
    show Steps p.tables e below (T7.setTop (mkF m 26 #[.val (.ref a1), .val (.int p2), .val (.int ((-R) - (2 : Int32)))] [(.ref l5)])) _
    refine XS.iloadN X7.here hx rfl (hb hby d6_26) rfl ?_
    show Steps p.tables e below (T7.setTop (mkF m 27 #[.val (.ref a1), .val (.int p2), .val (.int ((-R) - (2 : Int32)))] [(.int ((-R) - (2 : Int32))), (.ref l5)])) _
    refine X7.iaload hx (j := ((-R) - (2 : Int32))) (v := (.int lv)) (by rw [e7]; exact Ar_l5.1) (State.isArrayOf_alike hZ.alike Ar_l5.2.1) Ar_l5.2.2 hin27_1 hat27_1 (g := (mkF m 27 #[.val (.ref a1), .val (.int p2), .val (.int ((-R) - (2 : Int32)))] [(.int ((-R) - (2 : Int32))), (.ref l5)])) rfl rfl (hb hby d6_27) _ ?_
    show Steps p.tables e below (T7.setTop (mkF m 28 #[.val (.ref a1), .val (.int p2), .val (.int ((-R) - (2 : Int32)))] [(.int lv)])) _
    refine XS.iloadN X7.here hx rfl (hb hby d6_28) rfl ?_
    show Steps p.tables e below (T7.setTop (mkF m 29 #[.val (.ref a1), .val (.int p2), .val (.int ((-R) - (2 : Int32)))] [(.int p2), (.int lv)])) _
    refine XS.icmpNo X7.here hx rfl (hb hby d6_29) rfl (tlt hc29_1).2.1 ?_
    show Steps p.tables e below (T7.setTop (mkF m 32 #[.val (.ref a1), .val (.int p2), .val (.int ((-R) - (2 : Int32)))] [])) _
    refine XS.aloadN X7.here hx rfl (hb hby d6_32) rfl rfl ?_
    show Steps p.tables e below (T7.setTop (mkF m 33 #[.val (.ref a1), .val (.int p2), .val (.int ((-R) - (2 : Int32)))] [(.ref a1)])) _
    refine st10 _ ?_
    show Steps p.tables e below (T10.setTop (mkF m 36 #[.val (.ref a1), .val (.int p2), .val (.int ((-R) - (2 : Int32)))] [(.ref o5)])) _
    refine XS.iloadN X10.here hx rfl (hb hby d6_36) rfl ?_
    show Steps p.tables e below (T10.setTop (mkF m 37 #[.val (.ref a1), .val (.int p2), .val (.int ((-R) - (2 : Int32)))] [(.int ((-R) - (2 : Int32))), (.ref o5)])) _
    refine X10.iaload hx (j := ((-R) - (2 : Int32))) (v := (.int ov)) (by rw [e10]; exact Ar_o5.1) (State.isArrayOf_alike hZ.alike Ar_o5.2.1) Ar_o5.2.2 hin37_1 hat37_1 (g := (mkF m 37 #[.val (.ref a1), .val (.int p2), .val (.int ((-R) - (2 : Int32)))] [(.int ((-R) - (2 : Int32))), (.ref o5)])) rfl rfl (hb hby d6_37) _ ?_
    show Steps p.tables e below (T10.setTop (mkF m 38 #[.val (.ref a1), .val (.int p2), .val (.int ((-R) - (2 : Int32)))] [(.int ov)])) _
    refine XS.istoreN X10.here hx rfl (hb hby d6_38) rfl (l' := #[.val (.ref a1), .val (.int p2), .val (.int ov)]) rfl ?_
    show Steps p.tables e below (T10.setTop (mkF m 39 #[.val (.ref a1), .val (.int p2), .val (.int ov)] [])) _
    refine XS.goto X10.here hx rfl (pc0 := 39) (pc' := 18) rfl (hb hby d6_39) (by decide) (by decide) ?_
    show Steps p.tables e below (T10.setTop (mkF m 18 #[.val (.ref a1), .val (.int p2), .val (.int ov)] [])) _
    refine XS.iloadN X10.here hx rfl (hb hby d6_18) rfl ?_
    show Steps p.tables e below (T10.setTop (mkF m 19 #[.val (.ref a1), .val (.int p2), .val (.int ov)] [(.int ov)])) _
    refine XS.ifNo X10.here hx rfl (hb hby d6_19) rfl ((if0 _ _).trans (flt hc19_1).1) ?_
    show Steps p.tables e below (T10.setTop (mkF m 22 #[.val (.ref a1), .val (.int p2), .val (.int ov)] [])) _
    refine XS.aloadN X10.here hx rfl (hb hby d6_22) rfl rfl ?_
    show Steps p.tables e below (T10.setTop (mkF m 23 #[.val (.ref a1), .val (.int p2), .val (.int ov)] [(.ref a1)])) _
    refine st12 _ ?_
    show Steps p.tables e below (T12.setTop (mkF m 26 #[.val (.ref a1), .val (.int p2), .val (.int ov)] [(.ref l5)])) _
    refine XS.iloadN X12.here hx rfl (hb hby d6_26) rfl ?_
    show Steps p.tables e below (T12.setTop (mkF m 27 #[.val (.ref a1), .val (.int p2), .val (.int ov)] [(.int ov), (.ref l5)])) _
    refine X12.iaload hx (j := ov) (v := (.int lw)) (by rw [e12]; exact Ar_l5.1) (State.isArrayOf_alike hZ.alike Ar_l5.2.1) Ar_l5.2.2 hin27_2 hat27_2 (g := (mkF m 27 #[.val (.ref a1), .val (.int p2), .val (.int ov)] [(.int ov), (.ref l5)])) rfl rfl (hb hby d6_27) _ ?_
    show Steps p.tables e below (T12.setTop (mkF m 28 #[.val (.ref a1), .val (.int p2), .val (.int ov)] [(.int lw)])) _
    refine XS.iloadN X12.here hx rfl (hb hby d6_28) rfl ?_
    show Steps p.tables e below (T12.setTop (mkF m 29 #[.val (.ref a1), .val (.int p2), .val (.int ov)] [(.int p2), (.int lw)])) _
    refine XS.icmpNo X12.here hx rfl (hb hby d6_29) rfl (tlt hc29_2).2.1 ?_
    show Steps p.tables e below (T12.setTop (mkF m 32 #[.val (.ref a1), .val (.int p2), .val (.int ov)] [])) _
    refine XS.aloadN X12.here hx rfl (hb hby d6_32) rfl rfl ?_
    show Steps p.tables e below (T12.setTop (mkF m 33 #[.val (.ref a1), .val (.int p2), .val (.int ov)] [(.ref a1)])) _
    refine st14 _ ?_
    show Steps p.tables e below (T14.setTop (mkF m 36 #[.val (.ref a1), .val (.int p2), .val (.int ov)] [(.ref o5)])) _
    refine XS.iloadN X14.here hx rfl (hb hby d6_36) rfl ?_
    show Steps p.tables e below (T14.setTop (mkF m 37 #[.val (.ref a1), .val (.int p2), .val (.int ov)] [(.int ov), (.ref o5)])) _
    refine X14.iaload hx (j := ov) (v := (.int ow)) (by rw [e14]; exact Ar_o5.1) (State.isArrayOf_alike hZ.alike Ar_o5.2.1) Ar_o5.2.2 hin37_2 hat37_2 (g := (mkF m 37 #[.val (.ref a1), .val (.int p2), .val (.int ov)] [(.int ov), (.ref o5)])) rfl rfl (hb hby d6_37) _ ?_
    show Steps p.tables e below (T14.setTop (mkF m 38 #[.val (.ref a1), .val (.int p2), .val (.int ov)] [(.int ow)])) _
    refine XS.istoreN X14.here hx rfl (hb hby d6_38) rfl (l' := #[.val (.ref a1), .val (.int p2), .val (.int ow)]) rfl ?_
    show Steps p.tables e below (T14.setTop (mkF m 39 #[.val (.ref a1), .val (.int p2), .val (.int ow)] [])) _
    refine XS.goto X14.here hx rfl (pc0 := 39) (pc' := 18) rfl (hb hby d6_39) (by decide) (by decide) ?_
    show Steps p.tables e below (T14.setTop (mkF m 18 #[.val (.ref a1), .val (.int p2), .val (.int ow)] [])) _
    refine XS.iloadN X14.here hx rfl (hb hby d6_18) rfl ?_
    show Steps p.tables e below (T14.setTop (mkF m 19 #[.val (.ref a1), .val (.int p2), .val (.int ow)] [(.int ow)])) _
    refine XS.ifYes X14.here hx rfl (pc0 := 19) (pc' := 42) rfl (hb hby d6_19) rfl ((if0 _ _).trans (tlt hc19_2).1) (by decide) (by decide) ?_
    show Steps p.tables e below (T14.setTop (mkF m 42 #[.val (.ref a1), .val (.int p2), .val (.int ow)] [])) _
    refine XS.iloadN X14.here hx rfl (hb hby d6_42) rfl ?_
    show Steps p.tables e below (T14.setTop (mkF m 43 #[.val (.ref a1), .val (.int p2), .val (.int ow)] [(.int ow)])) _
    exact retI X14 hx Bd.returns (hb hby d6_43) hr      -- retI stands in the head ('lawwalk <made dir>' prints it)
  · show Q8 ow h0 n0 _ T14.heap _
    rw [e14]
    exact ⟨rfl, N5, by first | rfl | assumption⟩
set_option maxRecDepth 65536 in
set_option maxHeartbeats 40000000 in
theorem rm6_t2 (l : Launch) (Z : State) (a0 : Array Value) (hw : ∀ d ∈ tables_1, d.before a0 Z = true) (ws : List Jvm.Cond) (a1 : Addr) (p2 : Int32) (f0 f1 f2 f3 l0 l1 l2 l3 : Int32) (op cnt : Int32) (h0 : Heap) (n0 : Nat) (Z0 : n0 ≤ h0.size) (B : LP Z h0 n0 a1 [.int f0, .int f1, .int f2, .int f3] [.int l0, .int l1, .int l2, .int l3] [.int (-(1 : Int32)), .int (0 : Int32), .int (0 : Int32), .int (0 : Int32)] op cnt) (R : Int32) (hR : own_bs f0 f1 f2 f3 p2 = R) (hq1 : ¬ (R < (0 : Int32))) (hq2 : ¬ (R < (0 : Int32))) (ni : Nat) (hI : R = Int32.ofNat ni) (hni : ni < 4) (lv : Int32) (xl : ([.int l0, .int l1, .int l2, .int l3] : List Value).getD ni (.int 0) = .int lv) (hc29_1 : ¬ (lv < p2)) :
    MetFree l (⟨"com/example/nested_path/nestedpath/pattern/StringPattern$Loops", "around", "(I)I"⟩ : MethodName) (head1 (Jvm.Cond.code (⟨"com/example/nested_path/nestedpath/pattern/StringPattern$Loops", "around", "(I)I"⟩ : MethodName) prog_62_method_7_code 3 (some .int) :: ws) ({ frames := 2, cells := 0, slots := 0, locals := 60 } : Room)) (fun a U => a = #[(.ref a1), (.int p2)] ∧ Z.Warmed39 U.vm ∧ U.heap = h0) (fun _ _ _ _ _ => True) (fun _ U o U' => ∃ v L, o = .returned v ∧ Q8 R h0 n0 v U'.heap L ∧ FrameEnd U o U' L ({ frames := 2, cells := 0, slots := 0, locals := 60 } : Room).cells ({ frames := 2, cells := 0, slots := 0, locals := 60 } : Room).slots) := by
  refine MetFree.of_bodySF (plainFor_of_name pn_6) hisR ?_
  intro p e s m args below meth c s₁ Bd hml0 hP hK
  obtain ⟨rfl, hZ, hh⟩ := hP
  obtain ⟨f5, l5, o5, kf, kl, ko, E_a1, F_firsts_a1, F_lasts_a1, F_outers_a1, F_open_a1, F_count_a1, Vf, Vl, Vo, g_a1, g_f5, g_l5, g_o5, naf, nal, nao, nfl, nfo, nlo, lf, ll, lo⟩ := B
  obtain ⟨cl_l5, Ar_l5, q_l5, S_l5, N_l5, H_l5, G_l5⟩ := Vl
  obtain ⟨cl_o5, Ar_o5, q_o5, S_o5, N_o5, H_o5, G_o5⟩ := Vo
  have hin27_1 := inb_of S_l5 (j := R) (by rw [hI]; exact own_inb hni)
  have hat27_1 : cl_l5.slots[(R).toNatClampNeg]? = some (.int lv) := Has.at H_l5 hin27_1 (by rw [hI, own_clamp (by omega)]; exact xl)
  have hx := Bd.exec
  have hby := Bd.bytes
  have hml : c.maxLocals = 3 := hml0
  have hown : s.vm.findClass "com/example/nested_path/nestedpath/pattern/StringPattern$Loops" = some m.cls := findClass_of_methodNamed Bd.named
  have hnm := (name_of_methodNamed Bd.named Bd.method).1
  have X0 : Stand p l e ({ frames := 2, cells := 0, slots := 0, locals := 60 } : Room) s m #[(.ref a1), (.int p2)] below meth c s₁ [] 0 0 := Stand.of_body Bd
  have e0 : s₁.heap = h0 := by rw [← hh, Bd.state]; rfl
  have N0 := Fr.nil n0
  have pre0 : ∀ t, Steps p.tables e below (s₁.setTop (mkF m 0 #[.val (.ref a1), .val (.int p2), .unset] [])) t → Steps p.tables e below (s₁.setTop (entryFrame m #[(.ref a1), (.int p2)] 3)) t := fun t k => castTop (ef_6 m a1 p2) k
  -- 3. LAWS
  obtain ⟨T4, X4, e4, st4⟩ := getF X0 hx hZ hown (host := "") (Or.inl (hw _ (List.mem_of_getElem? (i := 10) rfl))) Via.refl e0 F_firsts_a1 (g := (mkF m 1 #[.val (.ref a1), .val (.int p2), .unset] [(.ref a1)])) rfl rfl (hb hby d6_1)
  -- pc 5: java/util/Arrays.binarySearch by its contract rm7
  obtain ⟨_, _, ⟨T5, L5, k5, n5⟩, -, X5, ⟨Lc5, hQ5, l5, y5, z5⟩, st5⟩ := Jvm.LawKit.callS X4 hx (y := (⟨"java/util/Arrays", "binarySearch", "([II)I"⟩ : MethodName)) hown (mvT hZ (hw _ (List.mem_of_getElem? (i := 39) rfl))) (mvT hZ (hw _ (List.mem_of_getElem? (i := 40) rfl))) (mvT hZ (hw _ (List.mem_of_getElem? (i := 41) rfl))) (mvT hZ (hw _ (List.mem_of_getElem? (i := 42) rfl))) (by decide) (backOf (W := 0) (rm7 l Z a0 hw [] f5 p2 kf f0 f1 f2 f3 h0 n0 Z0 Vf) hZ (hw _ (List.mem_of_getElem? (i := 42) rfl)) (hw _ (List.mem_of_getElem? (i := 41) rfl)) (by decide) (by decide)) (g := (mkF m 5 #[.val (.ref a1), .val (.int p2), .unset] [(.int p2), (.ref f5)])) rfl (by rw [hml]; rfl) (argsL := [(.ref f5), (.int p2)]) (rest := []) (lenOf pdw_1 rfl) rfl (by show 2 * 0 + _ ≤ _; exact Nat.le_of_eq rfl) (hb hby d6_5) (fun _ _ => ⟨rfl, e4, (by decide : 0 + 0 ≤ _), (by decide : 0 + 0 ≤ _)⟩)
  dsimp only [Pt.U, Pt.locs, Pt.cells, Pt.slots] at X5 l5 y5 z5 st5 hQ5
  subst l5 y5 z5
  rw [hR] at hQ5
  obtain ⟨rfl, N5q, hh5⟩ := hQ5
  have N5 := Fr.app N0 N5q
  obtain ⟨T7, X7, e7, st7⟩ := getF X5 hx hZ hown (host := "") (Or.inl (hw _ (List.mem_of_getElem? (i := 12) rfl))) Via.refl hh5 (F_lasts_a1) (g := (mkF m 23 #[.val (.ref a1), .val (.int p2), .val (.int R)] [(.ref a1)])) rfl rfl (hb hby d6_23)
  -- ✋ yours, out of the call's Q: hin27 : ¬ (R < 0 ∨ cl_l5.slots.size ≤ (R).toNatClampNeg)
  -- ✋ yours, out of the call's Q: hat27 : cl_l5.slots[(R).toNatClampNeg]? = some (.int lv)
  -- ✋ yours: Ar_l5 must speak of h0 here (carried over the writes ahead of it)
  obtain ⟨fs, hr, hrun, hended, hW, hsame⟩ := X7.leave (v := some (.int R)) (fun h => by rw [Bd.returns] at h; cases h)
  refine ⟨_, _, pre0 _ ?_, hrun, hended, _, _, rfl, ?_, ⟨_, rfl⟩, hW, hsame.mono (by decide) (by decide)⟩
  -- 4. STEPS
  · show Steps p.tables e below (s₁.setTop (mkF m 0 #[.val (.ref a1), .val (.int p2), .unset] [])) _
    refine XS.aloadN X0.here hx rfl (hb hby d6_0) rfl rfl ?_
    show Steps p.tables e below (s₁.setTop (mkF m 1 #[.val (.ref a1), .val (.int p2), .unset] [(.ref a1)])) _
    refine st4 _ ?_
    show Steps p.tables e below (T4.setTop (mkF m 4 #[.val (.ref a1), .val (.int p2), .unset] [(.ref f5)])) _
    refine XS.iloadN X4.here hx rfl (hb hby d6_4) rfl ?_
    show Steps p.tables e below (T4.setTop (mkF m 5 #[.val (.ref a1), .val (.int p2), .unset] [(.int p2), (.ref f5)])) _
    refine st5 _ ?_
    show Steps p.tables e below (T5.setTop (mkF m 8 #[.val (.ref a1), .val (.int p2), .unset] [(.int R)])) _
    refine XS.istoreN X5.here hx rfl (hb hby d6_8) rfl (l' := #[.val (.ref a1), .val (.int p2), .val (.int R)]) rfl ?_
    show Steps p.tables e below (T5.setTop (mkF m 9 #[.val (.ref a1), .val (.int p2), .val (.int R)] [])) _
    refine XS.iloadN X5.here hx rfl (hb hby d6_9) rfl ?_
    show Steps p.tables e below (T5.setTop (mkF m 10 #[.val (.ref a1), .val (.int p2), .val (.int R)] [(.int R)])) _
    refine XS.ifYes X5.here hx rfl (pc0 := 10) (pc' := 18) rfl (hb hby d6_10) rfl ((if0 _ _).trans (flt hq1).2.1) (by decide) (by decide) ?_
    show Steps p.tables e below (T5.setTop (mkF m 18 #[.val (.ref a1), .val (.int p2), .val (.int R)] [])) _
    refine XS.iloadN X5.here hx rfl (hb hby d6_18) rfl ?_
    show Steps p.tables e below (T5.setTop (mkF m 19 #[.val (.ref a1), .val (.int p2), .val (.int R)] [(.int R)])) _
    refine XS.ifNo X5.here hx rfl (hb hby d6_19) rfl ((if0 _ _).trans (flt hq2).1) ?_
    show Steps p.tables e below (T5.setTop (mkF m 22 #[.val (.ref a1), .val (.int p2), .val (.int R)] [])) _
    refine XS.aloadN X5.here hx rfl (hb hby d6_22) rfl rfl ?_
    show Steps p.tables e below (T5.setTop (mkF m 23 #[.val (.ref a1), .val (.int p2), .val (.int R)] [(.ref a1)])) _
    refine st7 _ ?_
    show Steps p.tables e below (T7.setTop (mkF m 26 #[.val (.ref a1), .val (.int p2), .val (.int R)] [(.ref l5)])) _
    refine XS.iloadN X7.here hx rfl (hb hby d6_26) rfl ?_
    show Steps p.tables e below (T7.setTop (mkF m 27 #[.val (.ref a1), .val (.int p2), .val (.int R)] [(.int R), (.ref l5)])) _
    refine X7.iaload hx (j := R) (v := (.int lv)) (by rw [e7]; exact Ar_l5.1) (State.isArrayOf_alike hZ.alike Ar_l5.2.1) Ar_l5.2.2 hin27_1 hat27_1 (g := (mkF m 27 #[.val (.ref a1), .val (.int p2), .val (.int R)] [(.int R), (.ref l5)])) rfl rfl (hb hby d6_27) _ ?_
    show Steps p.tables e below (T7.setTop (mkF m 28 #[.val (.ref a1), .val (.int p2), .val (.int R)] [(.int lv)])) _
    refine XS.iloadN X7.here hx rfl (hb hby d6_28) rfl ?_
    show Steps p.tables e below (T7.setTop (mkF m 29 #[.val (.ref a1), .val (.int p2), .val (.int R)] [(.int p2), (.int lv)])) _
    refine XS.icmpYes X7.here hx rfl (pc0 := 29) (pc' := 42) rfl (hb hby d6_29) rfl (flt hc29_1).2.1 (by decide) (by decide) ?_
    show Steps p.tables e below (T7.setTop (mkF m 42 #[.val (.ref a1), .val (.int p2), .val (.int R)] [])) _
    refine XS.iloadN X7.here hx rfl (hb hby d6_42) rfl ?_
    show Steps p.tables e below (T7.setTop (mkF m 43 #[.val (.ref a1), .val (.int p2), .val (.int R)] [(.int R)])) _
    exact retI X7 hx Bd.returns (hb hby d6_43) hr      -- retI stands in the head ('lawwalk <made dir>' prints it)
  · show Q8 R h0 n0 _ T7.heap _
    rw [e7]
    exact ⟨rfl, N5, by first | rfl | assumption⟩
set_option maxRecDepth 65536 in
set_option maxHeartbeats 40000000 in
theorem rm6_t3 (l : Launch) (Z : State) (a0 : Array Value) (hw : ∀ d ∈ tables_1, d.before a0 Z = true) (ws : List Jvm.Cond) (a1 : Addr) (p2 : Int32) (f0 f1 f2 f3 l0 l1 l2 l3 : Int32) (op cnt : Int32) (h0 : Heap) (n0 : Nat) (Z0 : n0 ≤ h0.size) (B : LP Z h0 n0 a1 [.int f0, .int f1, .int f2, .int f3] [.int l0, .int l1, .int l2, .int l3] [.int (-(1 : Int32)), .int (0 : Int32), .int (0 : Int32), .int (0 : Int32)] op cnt) (R : Int32) (hR : own_bs f0 f1 f2 f3 p2 = R) (hq1 : ¬ (R < (0 : Int32))) (hq2 : ¬ (R < (0 : Int32))) (ni : Nat) (hI : R = Int32.ofNat ni) (hni : ni < 4) (lv : Int32) (xl : ([.int l0, .int l1, .int l2, .int l3] : List Value).getD ni (.int 0) = .int lv) (hc29_1 : lv < p2) (ov : Int32) (xo : ([.int (-(1 : Int32)), .int (0 : Int32), .int (0 : Int32), .int (0 : Int32)] : List Value).getD ni (.int 0) = .int ov) (hc19_1 : ov < (0 : Int32)) :
    MetFree l (⟨"com/example/nested_path/nestedpath/pattern/StringPattern$Loops", "around", "(I)I"⟩ : MethodName) (head1 (Jvm.Cond.code (⟨"com/example/nested_path/nestedpath/pattern/StringPattern$Loops", "around", "(I)I"⟩ : MethodName) prog_62_method_7_code 3 (some .int) :: ws) ({ frames := 2, cells := 0, slots := 0, locals := 60 } : Room)) (fun a U => a = #[(.ref a1), (.int p2)] ∧ Z.Warmed39 U.vm ∧ U.heap = h0) (fun _ _ _ _ _ => True) (fun _ U o U' => ∃ v L, o = .returned v ∧ Q8 ov h0 n0 v U'.heap L ∧ FrameEnd U o U' L ({ frames := 2, cells := 0, slots := 0, locals := 60 } : Room).cells ({ frames := 2, cells := 0, slots := 0, locals := 60 } : Room).slots) := by
  refine MetFree.of_bodySF (plainFor_of_name pn_6) hisR ?_
  intro p e s m args below meth c s₁ Bd hml0 hP hK
  obtain ⟨rfl, hZ, hh⟩ := hP
  obtain ⟨f5, l5, o5, kf, kl, ko, E_a1, F_firsts_a1, F_lasts_a1, F_outers_a1, F_open_a1, F_count_a1, Vf, Vl, Vo, g_a1, g_f5, g_l5, g_o5, naf, nal, nao, nfl, nfo, nlo, lf, ll, lo⟩ := B
  obtain ⟨cl_l5, Ar_l5, q_l5, S_l5, N_l5, H_l5, G_l5⟩ := Vl
  obtain ⟨cl_o5, Ar_o5, q_o5, S_o5, N_o5, H_o5, G_o5⟩ := Vo
  have hin27_1 := inb_of S_l5 (j := R) (by rw [hI]; exact own_inb hni)
  have hat27_1 : cl_l5.slots[(R).toNatClampNeg]? = some (.int lv) := Has.at H_l5 hin27_1 (by rw [hI, own_clamp (by omega)]; exact xl)
  have hin37_1 := inb_of S_o5 (j := R) (by rw [hI]; exact own_inb hni)
  have hat37_1 : cl_o5.slots[(R).toNatClampNeg]? = some (.int ov) := Has.at H_o5 hin37_1 (by rw [hI, own_clamp (by omega)]; exact xo)
  have hx := Bd.exec
  have hby := Bd.bytes
  have hml : c.maxLocals = 3 := hml0
  have hown : s.vm.findClass "com/example/nested_path/nestedpath/pattern/StringPattern$Loops" = some m.cls := findClass_of_methodNamed Bd.named
  have hnm := (name_of_methodNamed Bd.named Bd.method).1
  have X0 : Stand p l e ({ frames := 2, cells := 0, slots := 0, locals := 60 } : Room) s m #[(.ref a1), (.int p2)] below meth c s₁ [] 0 0 := Stand.of_body Bd
  have e0 : s₁.heap = h0 := by rw [← hh, Bd.state]; rfl
  have N0 := Fr.nil n0
  have pre0 : ∀ t, Steps p.tables e below (s₁.setTop (mkF m 0 #[.val (.ref a1), .val (.int p2), .unset] [])) t → Steps p.tables e below (s₁.setTop (entryFrame m #[(.ref a1), (.int p2)] 3)) t := fun t k => castTop (ef_6 m a1 p2) k
  -- 3. LAWS
  obtain ⟨T4, X4, e4, st4⟩ := getF X0 hx hZ hown (host := "") (Or.inl (hw _ (List.mem_of_getElem? (i := 10) rfl))) Via.refl e0 F_firsts_a1 (g := (mkF m 1 #[.val (.ref a1), .val (.int p2), .unset] [(.ref a1)])) rfl rfl (hb hby d6_1)
  -- pc 5: java/util/Arrays.binarySearch by its contract rm7
  obtain ⟨_, _, ⟨T5, L5, k5, n5⟩, -, X5, ⟨Lc5, hQ5, l5, y5, z5⟩, st5⟩ := Jvm.LawKit.callS X4 hx (y := (⟨"java/util/Arrays", "binarySearch", "([II)I"⟩ : MethodName)) hown (mvT hZ (hw _ (List.mem_of_getElem? (i := 39) rfl))) (mvT hZ (hw _ (List.mem_of_getElem? (i := 40) rfl))) (mvT hZ (hw _ (List.mem_of_getElem? (i := 41) rfl))) (mvT hZ (hw _ (List.mem_of_getElem? (i := 42) rfl))) (by decide) (backOf (W := 0) (rm7 l Z a0 hw [] f5 p2 kf f0 f1 f2 f3 h0 n0 Z0 Vf) hZ (hw _ (List.mem_of_getElem? (i := 42) rfl)) (hw _ (List.mem_of_getElem? (i := 41) rfl)) (by decide) (by decide)) (g := (mkF m 5 #[.val (.ref a1), .val (.int p2), .unset] [(.int p2), (.ref f5)])) rfl (by rw [hml]; rfl) (argsL := [(.ref f5), (.int p2)]) (rest := []) (lenOf pdw_1 rfl) rfl (by show 2 * 0 + _ ≤ _; exact Nat.le_of_eq rfl) (hb hby d6_5) (fun _ _ => ⟨rfl, e4, (by decide : 0 + 0 ≤ _), (by decide : 0 + 0 ≤ _)⟩)
  dsimp only [Pt.U, Pt.locs, Pt.cells, Pt.slots] at X5 l5 y5 z5 st5 hQ5
  subst l5 y5 z5
  rw [hR] at hQ5
  obtain ⟨rfl, N5q, hh5⟩ := hQ5
  have N5 := Fr.app N0 N5q
  obtain ⟨T7, X7, e7, st7⟩ := getF X5 hx hZ hown (host := "") (Or.inl (hw _ (List.mem_of_getElem? (i := 12) rfl))) Via.refl hh5 (F_lasts_a1) (g := (mkF m 23 #[.val (.ref a1), .val (.int p2), .val (.int R)] [(.ref a1)])) rfl rfl (hb hby d6_23)
  -- ✋ yours, out of the call's Q: hin27 : ¬ (R < 0 ∨ cl_l5.slots.size ≤ (R).toNatClampNeg)
  -- ✋ yours, out of the call's Q: hat27 : cl_l5.slots[(R).toNatClampNeg]? = some (.int lv)
  -- ✋ yours: Ar_l5 must speak of h0 here (carried over the writes ahead of it)
  obtain ⟨T10, X10, e10, st10⟩ := getF X7 hx hZ hown (host := "") (Or.inl (hw _ (List.mem_of_getElem? (i := 14) rfl))) Via.refl e7 (F_outers_a1) (g := (mkF m 33 #[.val (.ref a1), .val (.int p2), .val (.int R)] [(.ref a1)])) rfl rfl (hb hby d6_33)
  -- ✋ yours, out of the call's Q: hin37 : ¬ (R < 0 ∨ cl_o5.slots.size ≤ (R).toNatClampNeg)
  -- ✋ yours, out of the call's Q: hat37 : cl_o5.slots[(R).toNatClampNeg]? = some (.int ov)
  -- ✋ yours: Ar_o5 must speak of h0 here (carried over the writes ahead of it)
  obtain ⟨fs, hr, hrun, hended, hW, hsame⟩ := X10.leave (v := some (.int ov)) (fun h => by rw [Bd.returns] at h; cases h)
  refine ⟨_, _, pre0 _ ?_, hrun, hended, _, _, rfl, ?_, ⟨_, rfl⟩, hW, hsame.mono (by decide) (by decide)⟩
  -- 4. STEPS
  · show Steps p.tables e below (s₁.setTop (mkF m 0 #[.val (.ref a1), .val (.int p2), .unset] [])) _
    refine XS.aloadN X0.here hx rfl (hb hby d6_0) rfl rfl ?_
    show Steps p.tables e below (s₁.setTop (mkF m 1 #[.val (.ref a1), .val (.int p2), .unset] [(.ref a1)])) _
    refine st4 _ ?_
    show Steps p.tables e below (T4.setTop (mkF m 4 #[.val (.ref a1), .val (.int p2), .unset] [(.ref f5)])) _
    refine XS.iloadN X4.here hx rfl (hb hby d6_4) rfl ?_
    show Steps p.tables e below (T4.setTop (mkF m 5 #[.val (.ref a1), .val (.int p2), .unset] [(.int p2), (.ref f5)])) _
    refine st5 _ ?_
    show Steps p.tables e below (T5.setTop (mkF m 8 #[.val (.ref a1), .val (.int p2), .unset] [(.int R)])) _
    refine XS.istoreN X5.here hx rfl (hb hby d6_8) rfl (l' := #[.val (.ref a1), .val (.int p2), .val (.int R)]) rfl ?_
    show Steps p.tables e below (T5.setTop (mkF m 9 #[.val (.ref a1), .val (.int p2), .val (.int R)] [])) _
    refine XS.iloadN X5.here hx rfl (hb hby d6_9) rfl ?_
    show Steps p.tables e below (T5.setTop (mkF m 10 #[.val (.ref a1), .val (.int p2), .val (.int R)] [(.int R)])) _
    refine XS.ifYes X5.here hx rfl (pc0 := 10) (pc' := 18) rfl (hb hby d6_10) rfl ((if0 _ _).trans (flt hq1).2.1) (by decide) (by decide) ?_
    show Steps p.tables e below (T5.setTop (mkF m 18 #[.val (.ref a1), .val (.int p2), .val (.int R)] [])) _
    refine XS.iloadN X5.here hx rfl (hb hby d6_18) rfl ?_
    show Steps p.tables e below (T5.setTop (mkF m 19 #[.val (.ref a1), .val (.int p2), .val (.int R)] [(.int R)])) _
    refine XS.ifNo X5.here hx rfl (hb hby d6_19) rfl ((if0 _ _).trans (flt hq2).1) ?_
    show Steps p.tables e below (T5.setTop (mkF m 22 #[.val (.ref a1), .val (.int p2), .val (.int R)] [])) _
    refine XS.aloadN X5.here hx rfl (hb hby d6_22) rfl rfl ?_
    show Steps p.tables e below (T5.setTop (mkF m 23 #[.val (.ref a1), .val (.int p2), .val (.int R)] [(.ref a1)])) _
    refine st7 _ ?_
    show Steps p.tables e below (T7.setTop (mkF m 26 #[.val (.ref a1), .val (.int p2), .val (.int R)] [(.ref l5)])) _
    refine XS.iloadN X7.here hx rfl (hb hby d6_26) rfl ?_
    show Steps p.tables e below (T7.setTop (mkF m 27 #[.val (.ref a1), .val (.int p2), .val (.int R)] [(.int R), (.ref l5)])) _
    refine X7.iaload hx (j := R) (v := (.int lv)) (by rw [e7]; exact Ar_l5.1) (State.isArrayOf_alike hZ.alike Ar_l5.2.1) Ar_l5.2.2 hin27_1 hat27_1 (g := (mkF m 27 #[.val (.ref a1), .val (.int p2), .val (.int R)] [(.int R), (.ref l5)])) rfl rfl (hb hby d6_27) _ ?_
    show Steps p.tables e below (T7.setTop (mkF m 28 #[.val (.ref a1), .val (.int p2), .val (.int R)] [(.int lv)])) _
    refine XS.iloadN X7.here hx rfl (hb hby d6_28) rfl ?_
    show Steps p.tables e below (T7.setTop (mkF m 29 #[.val (.ref a1), .val (.int p2), .val (.int R)] [(.int p2), (.int lv)])) _
    refine XS.icmpNo X7.here hx rfl (hb hby d6_29) rfl (tlt hc29_1).2.1 ?_
    show Steps p.tables e below (T7.setTop (mkF m 32 #[.val (.ref a1), .val (.int p2), .val (.int R)] [])) _
    refine XS.aloadN X7.here hx rfl (hb hby d6_32) rfl rfl ?_
    show Steps p.tables e below (T7.setTop (mkF m 33 #[.val (.ref a1), .val (.int p2), .val (.int R)] [(.ref a1)])) _
    refine st10 _ ?_
    show Steps p.tables e below (T10.setTop (mkF m 36 #[.val (.ref a1), .val (.int p2), .val (.int R)] [(.ref o5)])) _
    refine XS.iloadN X10.here hx rfl (hb hby d6_36) rfl ?_
    show Steps p.tables e below (T10.setTop (mkF m 37 #[.val (.ref a1), .val (.int p2), .val (.int R)] [(.int R), (.ref o5)])) _
    refine X10.iaload hx (j := R) (v := (.int ov)) (by rw [e10]; exact Ar_o5.1) (State.isArrayOf_alike hZ.alike Ar_o5.2.1) Ar_o5.2.2 hin37_1 hat37_1 (g := (mkF m 37 #[.val (.ref a1), .val (.int p2), .val (.int R)] [(.int R), (.ref o5)])) rfl rfl (hb hby d6_37) _ ?_
    show Steps p.tables e below (T10.setTop (mkF m 38 #[.val (.ref a1), .val (.int p2), .val (.int R)] [(.int ov)])) _
    refine XS.istoreN X10.here hx rfl (hb hby d6_38) rfl (l' := #[.val (.ref a1), .val (.int p2), .val (.int ov)]) rfl ?_
    show Steps p.tables e below (T10.setTop (mkF m 39 #[.val (.ref a1), .val (.int p2), .val (.int ov)] [])) _
    refine XS.goto X10.here hx rfl (pc0 := 39) (pc' := 18) rfl (hb hby d6_39) (by decide) (by decide) ?_
    show Steps p.tables e below (T10.setTop (mkF m 18 #[.val (.ref a1), .val (.int p2), .val (.int ov)] [])) _
    refine XS.iloadN X10.here hx rfl (hb hby d6_18) rfl ?_
    show Steps p.tables e below (T10.setTop (mkF m 19 #[.val (.ref a1), .val (.int p2), .val (.int ov)] [(.int ov)])) _
    refine XS.ifYes X10.here hx rfl (pc0 := 19) (pc' := 42) rfl (hb hby d6_19) rfl ((if0 _ _).trans (tlt hc19_1).1) (by decide) (by decide) ?_
    show Steps p.tables e below (T10.setTop (mkF m 42 #[.val (.ref a1), .val (.int p2), .val (.int ov)] [])) _
    refine XS.iloadN X10.here hx rfl (hb hby d6_42) rfl ?_
    show Steps p.tables e below (T10.setTop (mkF m 43 #[.val (.ref a1), .val (.int p2), .val (.int ov)] [(.int ov)])) _
    exact retI X10 hx Bd.returns (hb hby d6_43) hr      -- retI stands in the head ('lawwalk <made dir>' prints it)
  · show Q8 ov h0 n0 _ T10.heap _
    rw [e10]
    exact ⟨rfl, N5, by first | rfl | assumption⟩
set_option maxRecDepth 65536 in
set_option maxHeartbeats 40000000 in
theorem rm6_t4 (l : Launch) (Z : State) (a0 : Array Value) (hw : ∀ d ∈ tables_1, d.before a0 Z = true) (ws : List Jvm.Cond) (a1 : Addr) (p2 : Int32) (f0 f1 f2 f3 l0 l1 l2 l3 : Int32) (op cnt : Int32) (h0 : Heap) (n0 : Nat) (Z0 : n0 ≤ h0.size) (B : LP Z h0 n0 a1 [.int f0, .int f1, .int f2, .int f3] [.int l0, .int l1, .int l2, .int l3] [.int (-(1 : Int32)), .int (0 : Int32), .int (0 : Int32), .int (0 : Int32)] op cnt) (R : Int32) (hR : own_bs f0 f1 f2 f3 p2 = R) (hq1 : ¬ (R < (0 : Int32))) (hq2 : ¬ (R < (0 : Int32))) (ni : Nat) (hI : R = Int32.ofNat ni) (hni : ni < 4) (lv : Int32) (xl : ([.int l0, .int l1, .int l2, .int l3] : List Value).getD ni (.int 0) = .int lv) (hc29_1 : lv < p2) (ov : Int32) (xo : ([.int (-(1 : Int32)), .int (0 : Int32), .int (0 : Int32), .int (0 : Int32)] : List Value).getD ni (.int 0) = .int ov) (hc19_1 : ¬ (ov < (0 : Int32))) (no : Nat) (hO : ov = Int32.ofNat no) (hno : no < 4) (lw : Int32) (yl : ([.int l0, .int l1, .int l2, .int l3] : List Value).getD no (.int 0) = .int lw) (hc29_2 : ¬ (lw < p2)) :
    MetFree l (⟨"com/example/nested_path/nestedpath/pattern/StringPattern$Loops", "around", "(I)I"⟩ : MethodName) (head1 (Jvm.Cond.code (⟨"com/example/nested_path/nestedpath/pattern/StringPattern$Loops", "around", "(I)I"⟩ : MethodName) prog_62_method_7_code 3 (some .int) :: ws) ({ frames := 2, cells := 0, slots := 0, locals := 60 } : Room)) (fun a U => a = #[(.ref a1), (.int p2)] ∧ Z.Warmed39 U.vm ∧ U.heap = h0) (fun _ _ _ _ _ => True) (fun _ U o U' => ∃ v L, o = .returned v ∧ Q8 ov h0 n0 v U'.heap L ∧ FrameEnd U o U' L ({ frames := 2, cells := 0, slots := 0, locals := 60 } : Room).cells ({ frames := 2, cells := 0, slots := 0, locals := 60 } : Room).slots) := by
  refine MetFree.of_bodySF (plainFor_of_name pn_6) hisR ?_
  intro p e s m args below meth c s₁ Bd hml0 hP hK
  obtain ⟨rfl, hZ, hh⟩ := hP
  obtain ⟨f5, l5, o5, kf, kl, ko, E_a1, F_firsts_a1, F_lasts_a1, F_outers_a1, F_open_a1, F_count_a1, Vf, Vl, Vo, g_a1, g_f5, g_l5, g_o5, naf, nal, nao, nfl, nfo, nlo, lf, ll, lo⟩ := B
  obtain ⟨cl_l5, Ar_l5, q_l5, S_l5, N_l5, H_l5, G_l5⟩ := Vl
  obtain ⟨cl_o5, Ar_o5, q_o5, S_o5, N_o5, H_o5, G_o5⟩ := Vo
  have hin27_1 := inb_of S_l5 (j := R) (by rw [hI]; exact own_inb hni)
  have hat27_1 : cl_l5.slots[(R).toNatClampNeg]? = some (.int lv) := Has.at H_l5 hin27_1 (by rw [hI, own_clamp (by omega)]; exact xl)
  have hin37_1 := inb_of S_o5 (j := R) (by rw [hI]; exact own_inb hni)
  have hat37_1 : cl_o5.slots[(R).toNatClampNeg]? = some (.int ov) := Has.at H_o5 hin37_1 (by rw [hI, own_clamp (by omega)]; exact xo)
  have hin27_2 := inb_of S_l5 (j := ov) (by rw [hO]; exact own_inb hno)
  have hat27_2 : cl_l5.slots[(ov).toNatClampNeg]? = some (.int lw) := Has.at H_l5 hin27_2 (by rw [hO, own_clamp (by omega)]; exact yl)
  have hx := Bd.exec
  have hby := Bd.bytes
  have hml : c.maxLocals = 3 := hml0
  have hown : s.vm.findClass "com/example/nested_path/nestedpath/pattern/StringPattern$Loops" = some m.cls := findClass_of_methodNamed Bd.named
  have hnm := (name_of_methodNamed Bd.named Bd.method).1
  have X0 : Stand p l e ({ frames := 2, cells := 0, slots := 0, locals := 60 } : Room) s m #[(.ref a1), (.int p2)] below meth c s₁ [] 0 0 := Stand.of_body Bd
  have e0 : s₁.heap = h0 := by rw [← hh, Bd.state]; rfl
  have N0 := Fr.nil n0
  have pre0 : ∀ t, Steps p.tables e below (s₁.setTop (mkF m 0 #[.val (.ref a1), .val (.int p2), .unset] [])) t → Steps p.tables e below (s₁.setTop (entryFrame m #[(.ref a1), (.int p2)] 3)) t := fun t k => castTop (ef_6 m a1 p2) k
  -- 3. LAWS
  obtain ⟨T4, X4, e4, st4⟩ := getF X0 hx hZ hown (host := "") (Or.inl (hw _ (List.mem_of_getElem? (i := 10) rfl))) Via.refl e0 F_firsts_a1 (g := (mkF m 1 #[.val (.ref a1), .val (.int p2), .unset] [(.ref a1)])) rfl rfl (hb hby d6_1)
  -- pc 5: java/util/Arrays.binarySearch by its contract rm7
  obtain ⟨_, _, ⟨T5, L5, k5, n5⟩, -, X5, ⟨Lc5, hQ5, l5, y5, z5⟩, st5⟩ := Jvm.LawKit.callS X4 hx (y := (⟨"java/util/Arrays", "binarySearch", "([II)I"⟩ : MethodName)) hown (mvT hZ (hw _ (List.mem_of_getElem? (i := 39) rfl))) (mvT hZ (hw _ (List.mem_of_getElem? (i := 40) rfl))) (mvT hZ (hw _ (List.mem_of_getElem? (i := 41) rfl))) (mvT hZ (hw _ (List.mem_of_getElem? (i := 42) rfl))) (by decide) (backOf (W := 0) (rm7 l Z a0 hw [] f5 p2 kf f0 f1 f2 f3 h0 n0 Z0 Vf) hZ (hw _ (List.mem_of_getElem? (i := 42) rfl)) (hw _ (List.mem_of_getElem? (i := 41) rfl)) (by decide) (by decide)) (g := (mkF m 5 #[.val (.ref a1), .val (.int p2), .unset] [(.int p2), (.ref f5)])) rfl (by rw [hml]; rfl) (argsL := [(.ref f5), (.int p2)]) (rest := []) (lenOf pdw_1 rfl) rfl (by show 2 * 0 + _ ≤ _; exact Nat.le_of_eq rfl) (hb hby d6_5) (fun _ _ => ⟨rfl, e4, (by decide : 0 + 0 ≤ _), (by decide : 0 + 0 ≤ _)⟩)
  dsimp only [Pt.U, Pt.locs, Pt.cells, Pt.slots] at X5 l5 y5 z5 st5 hQ5
  subst l5 y5 z5
  rw [hR] at hQ5
  obtain ⟨rfl, N5q, hh5⟩ := hQ5
  have N5 := Fr.app N0 N5q
  obtain ⟨T7, X7, e7, st7⟩ := getF X5 hx hZ hown (host := "") (Or.inl (hw _ (List.mem_of_getElem? (i := 12) rfl))) Via.refl hh5 (F_lasts_a1) (g := (mkF m 23 #[.val (.ref a1), .val (.int p2), .val (.int R)] [(.ref a1)])) rfl rfl (hb hby d6_23)
  -- ✋ yours, out of the call's Q: hin27 : ¬ (R < 0 ∨ cl_l5.slots.size ≤ (R).toNatClampNeg)
  -- ✋ yours, out of the call's Q: hat27 : cl_l5.slots[(R).toNatClampNeg]? = some (.int lv)
  -- ✋ yours: Ar_l5 must speak of h0 here (carried over the writes ahead of it)
  obtain ⟨T10, X10, e10, st10⟩ := getF X7 hx hZ hown (host := "") (Or.inl (hw _ (List.mem_of_getElem? (i := 14) rfl))) Via.refl e7 (F_outers_a1) (g := (mkF m 33 #[.val (.ref a1), .val (.int p2), .val (.int R)] [(.ref a1)])) rfl rfl (hb hby d6_33)
  -- ✋ yours, out of the call's Q: hin37 : ¬ (R < 0 ∨ cl_o5.slots.size ≤ (R).toNatClampNeg)
  -- ✋ yours, out of the call's Q: hat37 : cl_o5.slots[(R).toNatClampNeg]? = some (.int ov)
  -- ✋ yours: Ar_o5 must speak of h0 here (carried over the writes ahead of it)
  obtain ⟨T12, X12, e12, st12⟩ := getF X10 hx hZ hown (host := "") (Or.inl (hw _ (List.mem_of_getElem? (i := 12) rfl))) Via.refl e10 (F_lasts_a1) (g := (mkF m 23 #[.val (.ref a1), .val (.int p2), .val (.int ov)] [(.ref a1)])) rfl rfl (hb hby d6_23)
  -- ✋ yours: Ar_l5 must speak of h0 here (carried over the writes ahead of it)
  obtain ⟨fs, hr, hrun, hended, hW, hsame⟩ := X12.leave (v := some (.int ov)) (fun h => by rw [Bd.returns] at h; cases h)
  refine ⟨_, _, pre0 _ ?_, hrun, hended, _, _, rfl, ?_, ⟨_, rfl⟩, hW, hsame.mono (by decide) (by decide)⟩
  -- 4. STEPS
  · show Steps p.tables e below (s₁.setTop (mkF m 0 #[.val (.ref a1), .val (.int p2), .unset] [])) _
    refine XS.aloadN X0.here hx rfl (hb hby d6_0) rfl rfl ?_
    show Steps p.tables e below (s₁.setTop (mkF m 1 #[.val (.ref a1), .val (.int p2), .unset] [(.ref a1)])) _
    refine st4 _ ?_
    show Steps p.tables e below (T4.setTop (mkF m 4 #[.val (.ref a1), .val (.int p2), .unset] [(.ref f5)])) _
    refine XS.iloadN X4.here hx rfl (hb hby d6_4) rfl ?_
    show Steps p.tables e below (T4.setTop (mkF m 5 #[.val (.ref a1), .val (.int p2), .unset] [(.int p2), (.ref f5)])) _
    refine st5 _ ?_
    show Steps p.tables e below (T5.setTop (mkF m 8 #[.val (.ref a1), .val (.int p2), .unset] [(.int R)])) _
    refine XS.istoreN X5.here hx rfl (hb hby d6_8) rfl (l' := #[.val (.ref a1), .val (.int p2), .val (.int R)]) rfl ?_
    show Steps p.tables e below (T5.setTop (mkF m 9 #[.val (.ref a1), .val (.int p2), .val (.int R)] [])) _
    refine XS.iloadN X5.here hx rfl (hb hby d6_9) rfl ?_
    show Steps p.tables e below (T5.setTop (mkF m 10 #[.val (.ref a1), .val (.int p2), .val (.int R)] [(.int R)])) _
    refine XS.ifYes X5.here hx rfl (pc0 := 10) (pc' := 18) rfl (hb hby d6_10) rfl ((if0 _ _).trans (flt hq1).2.1) (by decide) (by decide) ?_
    show Steps p.tables e below (T5.setTop (mkF m 18 #[.val (.ref a1), .val (.int p2), .val (.int R)] [])) _
    refine XS.iloadN X5.here hx rfl (hb hby d6_18) rfl ?_
    show Steps p.tables e below (T5.setTop (mkF m 19 #[.val (.ref a1), .val (.int p2), .val (.int R)] [(.int R)])) _
    refine XS.ifNo X5.here hx rfl (hb hby d6_19) rfl ((if0 _ _).trans (flt hq2).1) ?_
    show Steps p.tables e below (T5.setTop (mkF m 22 #[.val (.ref a1), .val (.int p2), .val (.int R)] [])) _
    refine XS.aloadN X5.here hx rfl (hb hby d6_22) rfl rfl ?_
    show Steps p.tables e below (T5.setTop (mkF m 23 #[.val (.ref a1), .val (.int p2), .val (.int R)] [(.ref a1)])) _
    refine st7 _ ?_
    show Steps p.tables e below (T7.setTop (mkF m 26 #[.val (.ref a1), .val (.int p2), .val (.int R)] [(.ref l5)])) _
    refine XS.iloadN X7.here hx rfl (hb hby d6_26) rfl ?_
    show Steps p.tables e below (T7.setTop (mkF m 27 #[.val (.ref a1), .val (.int p2), .val (.int R)] [(.int R), (.ref l5)])) _
    refine X7.iaload hx (j := R) (v := (.int lv)) (by rw [e7]; exact Ar_l5.1) (State.isArrayOf_alike hZ.alike Ar_l5.2.1) Ar_l5.2.2 hin27_1 hat27_1 (g := (mkF m 27 #[.val (.ref a1), .val (.int p2), .val (.int R)] [(.int R), (.ref l5)])) rfl rfl (hb hby d6_27) _ ?_
    show Steps p.tables e below (T7.setTop (mkF m 28 #[.val (.ref a1), .val (.int p2), .val (.int R)] [(.int lv)])) _
    refine XS.iloadN X7.here hx rfl (hb hby d6_28) rfl ?_
    show Steps p.tables e below (T7.setTop (mkF m 29 #[.val (.ref a1), .val (.int p2), .val (.int R)] [(.int p2), (.int lv)])) _
    refine XS.icmpNo X7.here hx rfl (hb hby d6_29) rfl (tlt hc29_1).2.1 ?_
    show Steps p.tables e below (T7.setTop (mkF m 32 #[.val (.ref a1), .val (.int p2), .val (.int R)] [])) _
    refine XS.aloadN X7.here hx rfl (hb hby d6_32) rfl rfl ?_
    show Steps p.tables e below (T7.setTop (mkF m 33 #[.val (.ref a1), .val (.int p2), .val (.int R)] [(.ref a1)])) _
    refine st10 _ ?_
    show Steps p.tables e below (T10.setTop (mkF m 36 #[.val (.ref a1), .val (.int p2), .val (.int R)] [(.ref o5)])) _
    refine XS.iloadN X10.here hx rfl (hb hby d6_36) rfl ?_
    show Steps p.tables e below (T10.setTop (mkF m 37 #[.val (.ref a1), .val (.int p2), .val (.int R)] [(.int R), (.ref o5)])) _
    refine X10.iaload hx (j := R) (v := (.int ov)) (by rw [e10]; exact Ar_o5.1) (State.isArrayOf_alike hZ.alike Ar_o5.2.1) Ar_o5.2.2 hin37_1 hat37_1 (g := (mkF m 37 #[.val (.ref a1), .val (.int p2), .val (.int R)] [(.int R), (.ref o5)])) rfl rfl (hb hby d6_37) _ ?_
    show Steps p.tables e below (T10.setTop (mkF m 38 #[.val (.ref a1), .val (.int p2), .val (.int R)] [(.int ov)])) _
    refine XS.istoreN X10.here hx rfl (hb hby d6_38) rfl (l' := #[.val (.ref a1), .val (.int p2), .val (.int ov)]) rfl ?_
    show Steps p.tables e below (T10.setTop (mkF m 39 #[.val (.ref a1), .val (.int p2), .val (.int ov)] [])) _
    refine XS.goto X10.here hx rfl (pc0 := 39) (pc' := 18) rfl (hb hby d6_39) (by decide) (by decide) ?_
    show Steps p.tables e below (T10.setTop (mkF m 18 #[.val (.ref a1), .val (.int p2), .val (.int ov)] [])) _
    refine XS.iloadN X10.here hx rfl (hb hby d6_18) rfl ?_
    show Steps p.tables e below (T10.setTop (mkF m 19 #[.val (.ref a1), .val (.int p2), .val (.int ov)] [(.int ov)])) _
    refine XS.ifNo X10.here hx rfl (hb hby d6_19) rfl ((if0 _ _).trans (flt hc19_1).1) ?_
    show Steps p.tables e below (T10.setTop (mkF m 22 #[.val (.ref a1), .val (.int p2), .val (.int ov)] [])) _
    refine XS.aloadN X10.here hx rfl (hb hby d6_22) rfl rfl ?_
    show Steps p.tables e below (T10.setTop (mkF m 23 #[.val (.ref a1), .val (.int p2), .val (.int ov)] [(.ref a1)])) _
    refine st12 _ ?_
    show Steps p.tables e below (T12.setTop (mkF m 26 #[.val (.ref a1), .val (.int p2), .val (.int ov)] [(.ref l5)])) _
    refine XS.iloadN X12.here hx rfl (hb hby d6_26) rfl ?_
    show Steps p.tables e below (T12.setTop (mkF m 27 #[.val (.ref a1), .val (.int p2), .val (.int ov)] [(.int ov), (.ref l5)])) _
    refine X12.iaload hx (j := ov) (v := (.int lw)) (by rw [e12]; exact Ar_l5.1) (State.isArrayOf_alike hZ.alike Ar_l5.2.1) Ar_l5.2.2 hin27_2 hat27_2 (g := (mkF m 27 #[.val (.ref a1), .val (.int p2), .val (.int ov)] [(.int ov), (.ref l5)])) rfl rfl (hb hby d6_27) _ ?_
    show Steps p.tables e below (T12.setTop (mkF m 28 #[.val (.ref a1), .val (.int p2), .val (.int ov)] [(.int lw)])) _
    refine XS.iloadN X12.here hx rfl (hb hby d6_28) rfl ?_
    show Steps p.tables e below (T12.setTop (mkF m 29 #[.val (.ref a1), .val (.int p2), .val (.int ov)] [(.int p2), (.int lw)])) _
    refine XS.icmpYes X12.here hx rfl (pc0 := 29) (pc' := 42) rfl (hb hby d6_29) rfl (flt hc29_2).2.1 (by decide) (by decide) ?_
    show Steps p.tables e below (T12.setTop (mkF m 42 #[.val (.ref a1), .val (.int p2), .val (.int ov)] [])) _
    refine XS.iloadN X12.here hx rfl (hb hby d6_42) rfl ?_
    show Steps p.tables e below (T12.setTop (mkF m 43 #[.val (.ref a1), .val (.int p2), .val (.int ov)] [(.int ov)])) _
    exact retI X12 hx Bd.returns (hb hby d6_43) hr      -- retI stands in the head ('lawwalk <made dir>' prints it)
  · show Q8 ov h0 n0 _ T12.heap _
    rw [e12]
    exact ⟨rfl, N5, by first | rfl | assumption⟩
set_option maxRecDepth 65536 in
set_option maxHeartbeats 40000000 in
theorem rm6_t5 (l : Launch) (Z : State) (a0 : Array Value) (hw : ∀ d ∈ tables_1, d.before a0 Z = true) (ws : List Jvm.Cond) (a1 : Addr) (p2 : Int32) (f0 f1 f2 f3 l0 l1 l2 l3 : Int32) (op cnt : Int32) (h0 : Heap) (n0 : Nat) (Z0 : n0 ≤ h0.size) (B : LP Z h0 n0 a1 [.int f0, .int f1, .int f2, .int f3] [.int l0, .int l1, .int l2, .int l3] [.int (-(1 : Int32)), .int (0 : Int32), .int (0 : Int32), .int (0 : Int32)] op cnt) (R : Int32) (hR : own_bs f0 f1 f2 f3 p2 = R) (hq1 : ¬ (R < (0 : Int32))) (hq2 : ¬ (R < (0 : Int32))) (ni : Nat) (hI : R = Int32.ofNat ni) (hni : ni < 4) (lv : Int32) (xl : ([.int l0, .int l1, .int l2, .int l3] : List Value).getD ni (.int 0) = .int lv) (hc29_1 : lv < p2) (ov : Int32) (xo : ([.int (-(1 : Int32)), .int (0 : Int32), .int (0 : Int32), .int (0 : Int32)] : List Value).getD ni (.int 0) = .int ov) (hc19_1 : ¬ (ov < (0 : Int32))) (no : Nat) (hO : ov = Int32.ofNat no) (hno : no < 4) (lw : Int32) (yl : ([.int l0, .int l1, .int l2, .int l3] : List Value).getD no (.int 0) = .int lw) (hc29_2 : lw < p2) (ow : Int32) (yo : ([.int (-(1 : Int32)), .int (0 : Int32), .int (0 : Int32), .int (0 : Int32)] : List Value).getD no (.int 0) = .int ow) (hc19_2 : ow < (0 : Int32)) :
    MetFree l (⟨"com/example/nested_path/nestedpath/pattern/StringPattern$Loops", "around", "(I)I"⟩ : MethodName) (head1 (Jvm.Cond.code (⟨"com/example/nested_path/nestedpath/pattern/StringPattern$Loops", "around", "(I)I"⟩ : MethodName) prog_62_method_7_code 3 (some .int) :: ws) ({ frames := 2, cells := 0, slots := 0, locals := 60 } : Room)) (fun a U => a = #[(.ref a1), (.int p2)] ∧ Z.Warmed39 U.vm ∧ U.heap = h0) (fun _ _ _ _ _ => True) (fun _ U o U' => ∃ v L, o = .returned v ∧ Q8 ow h0 n0 v U'.heap L ∧ FrameEnd U o U' L ({ frames := 2, cells := 0, slots := 0, locals := 60 } : Room).cells ({ frames := 2, cells := 0, slots := 0, locals := 60 } : Room).slots) := by
  refine MetFree.of_bodySF (plainFor_of_name pn_6) hisR ?_
  intro p e s m args below meth c s₁ Bd hml0 hP hK
  obtain ⟨rfl, hZ, hh⟩ := hP
  obtain ⟨f5, l5, o5, kf, kl, ko, E_a1, F_firsts_a1, F_lasts_a1, F_outers_a1, F_open_a1, F_count_a1, Vf, Vl, Vo, g_a1, g_f5, g_l5, g_o5, naf, nal, nao, nfl, nfo, nlo, lf, ll, lo⟩ := B
  obtain ⟨cl_l5, Ar_l5, q_l5, S_l5, N_l5, H_l5, G_l5⟩ := Vl
  obtain ⟨cl_o5, Ar_o5, q_o5, S_o5, N_o5, H_o5, G_o5⟩ := Vo
  have hin27_1 := inb_of S_l5 (j := R) (by rw [hI]; exact own_inb hni)
  have hat27_1 : cl_l5.slots[(R).toNatClampNeg]? = some (.int lv) := Has.at H_l5 hin27_1 (by rw [hI, own_clamp (by omega)]; exact xl)
  have hin37_1 := inb_of S_o5 (j := R) (by rw [hI]; exact own_inb hni)
  have hat37_1 : cl_o5.slots[(R).toNatClampNeg]? = some (.int ov) := Has.at H_o5 hin37_1 (by rw [hI, own_clamp (by omega)]; exact xo)
  have hin27_2 := inb_of S_l5 (j := ov) (by rw [hO]; exact own_inb hno)
  have hat27_2 : cl_l5.slots[(ov).toNatClampNeg]? = some (.int lw) := Has.at H_l5 hin27_2 (by rw [hO, own_clamp (by omega)]; exact yl)
  have hin37_2 := inb_of S_o5 (j := ov) (by rw [hO]; exact own_inb hno)
  have hat37_2 : cl_o5.slots[(ov).toNatClampNeg]? = some (.int ow) := Has.at H_o5 hin37_2 (by rw [hO, own_clamp (by omega)]; exact yo)
  have hx := Bd.exec
  have hby := Bd.bytes
  have hml : c.maxLocals = 3 := hml0
  have hown : s.vm.findClass "com/example/nested_path/nestedpath/pattern/StringPattern$Loops" = some m.cls := findClass_of_methodNamed Bd.named
  have hnm := (name_of_methodNamed Bd.named Bd.method).1
  have X0 : Stand p l e ({ frames := 2, cells := 0, slots := 0, locals := 60 } : Room) s m #[(.ref a1), (.int p2)] below meth c s₁ [] 0 0 := Stand.of_body Bd
  have e0 : s₁.heap = h0 := by rw [← hh, Bd.state]; rfl
  have N0 := Fr.nil n0
  have pre0 : ∀ t, Steps p.tables e below (s₁.setTop (mkF m 0 #[.val (.ref a1), .val (.int p2), .unset] [])) t → Steps p.tables e below (s₁.setTop (entryFrame m #[(.ref a1), (.int p2)] 3)) t := fun t k => castTop (ef_6 m a1 p2) k
  -- 3. LAWS
  obtain ⟨T4, X4, e4, st4⟩ := getF X0 hx hZ hown (host := "") (Or.inl (hw _ (List.mem_of_getElem? (i := 10) rfl))) Via.refl e0 F_firsts_a1 (g := (mkF m 1 #[.val (.ref a1), .val (.int p2), .unset] [(.ref a1)])) rfl rfl (hb hby d6_1)
  -- pc 5: java/util/Arrays.binarySearch by its contract rm7
  obtain ⟨_, _, ⟨T5, L5, k5, n5⟩, -, X5, ⟨Lc5, hQ5, l5, y5, z5⟩, st5⟩ := Jvm.LawKit.callS X4 hx (y := (⟨"java/util/Arrays", "binarySearch", "([II)I"⟩ : MethodName)) hown (mvT hZ (hw _ (List.mem_of_getElem? (i := 39) rfl))) (mvT hZ (hw _ (List.mem_of_getElem? (i := 40) rfl))) (mvT hZ (hw _ (List.mem_of_getElem? (i := 41) rfl))) (mvT hZ (hw _ (List.mem_of_getElem? (i := 42) rfl))) (by decide) (backOf (W := 0) (rm7 l Z a0 hw [] f5 p2 kf f0 f1 f2 f3 h0 n0 Z0 Vf) hZ (hw _ (List.mem_of_getElem? (i := 42) rfl)) (hw _ (List.mem_of_getElem? (i := 41) rfl)) (by decide) (by decide)) (g := (mkF m 5 #[.val (.ref a1), .val (.int p2), .unset] [(.int p2), (.ref f5)])) rfl (by rw [hml]; rfl) (argsL := [(.ref f5), (.int p2)]) (rest := []) (lenOf pdw_1 rfl) rfl (by show 2 * 0 + _ ≤ _; exact Nat.le_of_eq rfl) (hb hby d6_5) (fun _ _ => ⟨rfl, e4, (by decide : 0 + 0 ≤ _), (by decide : 0 + 0 ≤ _)⟩)
  dsimp only [Pt.U, Pt.locs, Pt.cells, Pt.slots] at X5 l5 y5 z5 st5 hQ5
  subst l5 y5 z5
  rw [hR] at hQ5
  obtain ⟨rfl, N5q, hh5⟩ := hQ5
  have N5 := Fr.app N0 N5q
  obtain ⟨T7, X7, e7, st7⟩ := getF X5 hx hZ hown (host := "") (Or.inl (hw _ (List.mem_of_getElem? (i := 12) rfl))) Via.refl hh5 (F_lasts_a1) (g := (mkF m 23 #[.val (.ref a1), .val (.int p2), .val (.int R)] [(.ref a1)])) rfl rfl (hb hby d6_23)
  -- ✋ yours, out of the call's Q: hin27 : ¬ (R < 0 ∨ cl_l5.slots.size ≤ (R).toNatClampNeg)
  -- ✋ yours, out of the call's Q: hat27 : cl_l5.slots[(R).toNatClampNeg]? = some (.int lv)
  -- ✋ yours: Ar_l5 must speak of h0 here (carried over the writes ahead of it)
  obtain ⟨T10, X10, e10, st10⟩ := getF X7 hx hZ hown (host := "") (Or.inl (hw _ (List.mem_of_getElem? (i := 14) rfl))) Via.refl e7 (F_outers_a1) (g := (mkF m 33 #[.val (.ref a1), .val (.int p2), .val (.int R)] [(.ref a1)])) rfl rfl (hb hby d6_33)
  -- ✋ yours, out of the call's Q: hin37 : ¬ (R < 0 ∨ cl_o5.slots.size ≤ (R).toNatClampNeg)
  -- ✋ yours, out of the call's Q: hat37 : cl_o5.slots[(R).toNatClampNeg]? = some (.int ov)
  -- ✋ yours: Ar_o5 must speak of h0 here (carried over the writes ahead of it)
  obtain ⟨T12, X12, e12, st12⟩ := getF X10 hx hZ hown (host := "") (Or.inl (hw _ (List.mem_of_getElem? (i := 12) rfl))) Via.refl e10 (F_lasts_a1) (g := (mkF m 23 #[.val (.ref a1), .val (.int p2), .val (.int ov)] [(.ref a1)])) rfl rfl (hb hby d6_23)
  -- ✋ yours: Ar_l5 must speak of h0 here (carried over the writes ahead of it)
  obtain ⟨T14, X14, e14, st14⟩ := getF X12 hx hZ hown (host := "") (Or.inl (hw _ (List.mem_of_getElem? (i := 14) rfl))) Via.refl e12 (F_outers_a1) (g := (mkF m 33 #[.val (.ref a1), .val (.int p2), .val (.int ov)] [(.ref a1)])) rfl rfl (hb hby d6_33)
  -- ✋ yours: Ar_o5 must speak of h0 here (carried over the writes ahead of it)
  obtain ⟨fs, hr, hrun, hended, hW, hsame⟩ := X14.leave (v := some (.int ow)) (fun h => by rw [Bd.returns] at h; cases h)
  refine ⟨_, _, pre0 _ ?_, hrun, hended, _, _, rfl, ?_, ⟨_, rfl⟩, hW, hsame.mono (by decide) (by decide)⟩
  -- 4. STEPS
  · show Steps p.tables e below (s₁.setTop (mkF m 0 #[.val (.ref a1), .val (.int p2), .unset] [])) _
    refine XS.aloadN X0.here hx rfl (hb hby d6_0) rfl rfl ?_
    show Steps p.tables e below (s₁.setTop (mkF m 1 #[.val (.ref a1), .val (.int p2), .unset] [(.ref a1)])) _
    refine st4 _ ?_
    show Steps p.tables e below (T4.setTop (mkF m 4 #[.val (.ref a1), .val (.int p2), .unset] [(.ref f5)])) _
    refine XS.iloadN X4.here hx rfl (hb hby d6_4) rfl ?_
    show Steps p.tables e below (T4.setTop (mkF m 5 #[.val (.ref a1), .val (.int p2), .unset] [(.int p2), (.ref f5)])) _
    refine st5 _ ?_
    show Steps p.tables e below (T5.setTop (mkF m 8 #[.val (.ref a1), .val (.int p2), .unset] [(.int R)])) _
    refine XS.istoreN X5.here hx rfl (hb hby d6_8) rfl (l' := #[.val (.ref a1), .val (.int p2), .val (.int R)]) rfl ?_
    show Steps p.tables e below (T5.setTop (mkF m 9 #[.val (.ref a1), .val (.int p2), .val (.int R)] [])) _
    refine XS.iloadN X5.here hx rfl (hb hby d6_9) rfl ?_
    show Steps p.tables e below (T5.setTop (mkF m 10 #[.val (.ref a1), .val (.int p2), .val (.int R)] [(.int R)])) _
    refine XS.ifYes X5.here hx rfl (pc0 := 10) (pc' := 18) rfl (hb hby d6_10) rfl ((if0 _ _).trans (flt hq1).2.1) (by decide) (by decide) ?_
    show Steps p.tables e below (T5.setTop (mkF m 18 #[.val (.ref a1), .val (.int p2), .val (.int R)] [])) _
    refine XS.iloadN X5.here hx rfl (hb hby d6_18) rfl ?_
    show Steps p.tables e below (T5.setTop (mkF m 19 #[.val (.ref a1), .val (.int p2), .val (.int R)] [(.int R)])) _
    refine XS.ifNo X5.here hx rfl (hb hby d6_19) rfl ((if0 _ _).trans (flt hq2).1) ?_
    show Steps p.tables e below (T5.setTop (mkF m 22 #[.val (.ref a1), .val (.int p2), .val (.int R)] [])) _
    refine XS.aloadN X5.here hx rfl (hb hby d6_22) rfl rfl ?_
    show Steps p.tables e below (T5.setTop (mkF m 23 #[.val (.ref a1), .val (.int p2), .val (.int R)] [(.ref a1)])) _
    refine st7 _ ?_
    show Steps p.tables e below (T7.setTop (mkF m 26 #[.val (.ref a1), .val (.int p2), .val (.int R)] [(.ref l5)])) _
    refine XS.iloadN X7.here hx rfl (hb hby d6_26) rfl ?_
    show Steps p.tables e below (T7.setTop (mkF m 27 #[.val (.ref a1), .val (.int p2), .val (.int R)] [(.int R), (.ref l5)])) _
    refine X7.iaload hx (j := R) (v := (.int lv)) (by rw [e7]; exact Ar_l5.1) (State.isArrayOf_alike hZ.alike Ar_l5.2.1) Ar_l5.2.2 hin27_1 hat27_1 (g := (mkF m 27 #[.val (.ref a1), .val (.int p2), .val (.int R)] [(.int R), (.ref l5)])) rfl rfl (hb hby d6_27) _ ?_
    show Steps p.tables e below (T7.setTop (mkF m 28 #[.val (.ref a1), .val (.int p2), .val (.int R)] [(.int lv)])) _
    refine XS.iloadN X7.here hx rfl (hb hby d6_28) rfl ?_
    show Steps p.tables e below (T7.setTop (mkF m 29 #[.val (.ref a1), .val (.int p2), .val (.int R)] [(.int p2), (.int lv)])) _
    refine XS.icmpNo X7.here hx rfl (hb hby d6_29) rfl (tlt hc29_1).2.1 ?_
    show Steps p.tables e below (T7.setTop (mkF m 32 #[.val (.ref a1), .val (.int p2), .val (.int R)] [])) _
    refine XS.aloadN X7.here hx rfl (hb hby d6_32) rfl rfl ?_
    show Steps p.tables e below (T7.setTop (mkF m 33 #[.val (.ref a1), .val (.int p2), .val (.int R)] [(.ref a1)])) _
    refine st10 _ ?_
    show Steps p.tables e below (T10.setTop (mkF m 36 #[.val (.ref a1), .val (.int p2), .val (.int R)] [(.ref o5)])) _
    refine XS.iloadN X10.here hx rfl (hb hby d6_36) rfl ?_
    show Steps p.tables e below (T10.setTop (mkF m 37 #[.val (.ref a1), .val (.int p2), .val (.int R)] [(.int R), (.ref o5)])) _
    refine X10.iaload hx (j := R) (v := (.int ov)) (by rw [e10]; exact Ar_o5.1) (State.isArrayOf_alike hZ.alike Ar_o5.2.1) Ar_o5.2.2 hin37_1 hat37_1 (g := (mkF m 37 #[.val (.ref a1), .val (.int p2), .val (.int R)] [(.int R), (.ref o5)])) rfl rfl (hb hby d6_37) _ ?_
    show Steps p.tables e below (T10.setTop (mkF m 38 #[.val (.ref a1), .val (.int p2), .val (.int R)] [(.int ov)])) _
    refine XS.istoreN X10.here hx rfl (hb hby d6_38) rfl (l' := #[.val (.ref a1), .val (.int p2), .val (.int ov)]) rfl ?_
    show Steps p.tables e below (T10.setTop (mkF m 39 #[.val (.ref a1), .val (.int p2), .val (.int ov)] [])) _
    refine XS.goto X10.here hx rfl (pc0 := 39) (pc' := 18) rfl (hb hby d6_39) (by decide) (by decide) ?_
    show Steps p.tables e below (T10.setTop (mkF m 18 #[.val (.ref a1), .val (.int p2), .val (.int ov)] [])) _
    refine XS.iloadN X10.here hx rfl (hb hby d6_18) rfl ?_
    show Steps p.tables e below (T10.setTop (mkF m 19 #[.val (.ref a1), .val (.int p2), .val (.int ov)] [(.int ov)])) _
    refine XS.ifNo X10.here hx rfl (hb hby d6_19) rfl ((if0 _ _).trans (flt hc19_1).1) ?_
    show Steps p.tables e below (T10.setTop (mkF m 22 #[.val (.ref a1), .val (.int p2), .val (.int ov)] [])) _
    refine XS.aloadN X10.here hx rfl (hb hby d6_22) rfl rfl ?_
    show Steps p.tables e below (T10.setTop (mkF m 23 #[.val (.ref a1), .val (.int p2), .val (.int ov)] [(.ref a1)])) _
    refine st12 _ ?_
    show Steps p.tables e below (T12.setTop (mkF m 26 #[.val (.ref a1), .val (.int p2), .val (.int ov)] [(.ref l5)])) _
    refine XS.iloadN X12.here hx rfl (hb hby d6_26) rfl ?_
    show Steps p.tables e below (T12.setTop (mkF m 27 #[.val (.ref a1), .val (.int p2), .val (.int ov)] [(.int ov), (.ref l5)])) _
    refine X12.iaload hx (j := ov) (v := (.int lw)) (by rw [e12]; exact Ar_l5.1) (State.isArrayOf_alike hZ.alike Ar_l5.2.1) Ar_l5.2.2 hin27_2 hat27_2 (g := (mkF m 27 #[.val (.ref a1), .val (.int p2), .val (.int ov)] [(.int ov), (.ref l5)])) rfl rfl (hb hby d6_27) _ ?_
    show Steps p.tables e below (T12.setTop (mkF m 28 #[.val (.ref a1), .val (.int p2), .val (.int ov)] [(.int lw)])) _
    refine XS.iloadN X12.here hx rfl (hb hby d6_28) rfl ?_
    show Steps p.tables e below (T12.setTop (mkF m 29 #[.val (.ref a1), .val (.int p2), .val (.int ov)] [(.int p2), (.int lw)])) _
    refine XS.icmpNo X12.here hx rfl (hb hby d6_29) rfl (tlt hc29_2).2.1 ?_
    show Steps p.tables e below (T12.setTop (mkF m 32 #[.val (.ref a1), .val (.int p2), .val (.int ov)] [])) _
    refine XS.aloadN X12.here hx rfl (hb hby d6_32) rfl rfl ?_
    show Steps p.tables e below (T12.setTop (mkF m 33 #[.val (.ref a1), .val (.int p2), .val (.int ov)] [(.ref a1)])) _
    refine st14 _ ?_
    show Steps p.tables e below (T14.setTop (mkF m 36 #[.val (.ref a1), .val (.int p2), .val (.int ov)] [(.ref o5)])) _
    refine XS.iloadN X14.here hx rfl (hb hby d6_36) rfl ?_
    show Steps p.tables e below (T14.setTop (mkF m 37 #[.val (.ref a1), .val (.int p2), .val (.int ov)] [(.int ov), (.ref o5)])) _
    refine X14.iaload hx (j := ov) (v := (.int ow)) (by rw [e14]; exact Ar_o5.1) (State.isArrayOf_alike hZ.alike Ar_o5.2.1) Ar_o5.2.2 hin37_2 hat37_2 (g := (mkF m 37 #[.val (.ref a1), .val (.int p2), .val (.int ov)] [(.int ov), (.ref o5)])) rfl rfl (hb hby d6_37) _ ?_
    show Steps p.tables e below (T14.setTop (mkF m 38 #[.val (.ref a1), .val (.int p2), .val (.int ov)] [(.int ow)])) _
    refine XS.istoreN X14.here hx rfl (hb hby d6_38) rfl (l' := #[.val (.ref a1), .val (.int p2), .val (.int ow)]) rfl ?_
    show Steps p.tables e below (T14.setTop (mkF m 39 #[.val (.ref a1), .val (.int p2), .val (.int ow)] [])) _
    refine XS.goto X14.here hx rfl (pc0 := 39) (pc' := 18) rfl (hb hby d6_39) (by decide) (by decide) ?_
    show Steps p.tables e below (T14.setTop (mkF m 18 #[.val (.ref a1), .val (.int p2), .val (.int ow)] [])) _
    refine XS.iloadN X14.here hx rfl (hb hby d6_18) rfl ?_
    show Steps p.tables e below (T14.setTop (mkF m 19 #[.val (.ref a1), .val (.int p2), .val (.int ow)] [(.int ow)])) _
    refine XS.ifYes X14.here hx rfl (pc0 := 19) (pc' := 42) rfl (hb hby d6_19) rfl ((if0 _ _).trans (tlt hc19_2).1) (by decide) (by decide) ?_
    show Steps p.tables e below (T14.setTop (mkF m 42 #[.val (.ref a1), .val (.int p2), .val (.int ow)] [])) _
    refine XS.iloadN X14.here hx rfl (hb hby d6_42) rfl ?_
    show Steps p.tables e below (T14.setTop (mkF m 43 #[.val (.ref a1), .val (.int p2), .val (.int ow)] [(.int ow)])) _
    exact retI X14 hx Bd.returns (hb hby d6_43) hr      -- retI stands in the head ('lawwalk <made dir>' prints it)
  · show Q8 ow h0 n0 _ T14.heap _
    rw [e14]
    exact ⟨rfl, N5, by first | rfl | assumption⟩
def own_ar (R l0 l1 l2 l3 s : Int32) : Int32 := if R = (-(1 : Int32)) then (-(1 : Int32)) else if R = 0 ∨ R = (-(2 : Int32)) then (if l0 < s then (-(1 : Int32)) else 0) else if R = 1 ∨ R = (-(3 : Int32)) then (if l1 < s then (if l0 < s then (-(1 : Int32)) else 0) else 1) else if R = 2 ∨ R = (-(4 : Int32)) then (if l2 < s then (if l0 < s then (-(1 : Int32)) else 0) else 2) else (if l3 < s then (if l0 < s then (-(1 : Int32)) else 0) else 3)
theorem own_bs9 (f0 f1 f2 f3 s : Int32) : (own_bs f0 f1 f2 f3 s = (-(5 : Int32)) ∨ own_bs f0 f1 f2 f3 s = (-(4 : Int32)) ∨ own_bs f0 f1 f2 f3 s = (-(3 : Int32)) ∨ own_bs f0 f1 f2 f3 s = (-(2 : Int32)) ∨ own_bs f0 f1 f2 f3 s = (-(1 : Int32))) ∨ own_bs f0 f1 f2 f3 s = (0 : Int32) ∨ own_bs f0 f1 f2 f3 s = (1 : Int32) ∨ own_bs f0 f1 f2 f3 s = (2 : Int32) ∨ own_bs f0 f1 f2 f3 s = (3 : Int32) := by
  unfold own_bs; repeat' split
  all_goals simp
theorem own_ar_m5 (l0 l1 l2 l3 s : Int32) : own_ar (-(5 : Int32)) l0 l1 l2 l3 s = (if l3 < s then (if l0 < s then (-(1 : Int32)) else 0) else 3) := by
  unfold own_ar; rw [if_neg (by decide), if_neg (by decide), if_neg (by decide), if_neg (by decide)]
theorem own_ar_m4 (l0 l1 l2 l3 s : Int32) : own_ar (-(4 : Int32)) l0 l1 l2 l3 s = (if l2 < s then (if l0 < s then (-(1 : Int32)) else 0) else 2) := by
  unfold own_ar; rw [if_neg (by decide), if_neg (by decide), if_neg (by decide), if_pos (by decide)]
theorem own_ar_m3 (l0 l1 l2 l3 s : Int32) : own_ar (-(3 : Int32)) l0 l1 l2 l3 s = (if l1 < s then (if l0 < s then (-(1 : Int32)) else 0) else 1) := by
  unfold own_ar; rw [if_neg (by decide), if_neg (by decide), if_pos (by decide)]
theorem own_ar_m2 (l0 l1 l2 l3 s : Int32) : own_ar (-(2 : Int32)) l0 l1 l2 l3 s = (if l0 < s then (-(1 : Int32)) else 0) := by
  unfold own_ar; rw [if_neg (by decide), if_pos (by decide)]
theorem own_ar_m1 (l0 l1 l2 l3 s : Int32) : own_ar (-(1 : Int32)) l0 l1 l2 l3 s = (-(1 : Int32)) := by
  unfold own_ar; rw [if_pos (by decide)]
theorem own_ar_p0 (l0 l1 l2 l3 s : Int32) : own_ar (0 : Int32) l0 l1 l2 l3 s = (if l0 < s then (-(1 : Int32)) else 0) := by
  unfold own_ar; rw [if_neg (by decide), if_pos (by decide)]
theorem own_ar_p1 (l0 l1 l2 l3 s : Int32) : own_ar (1 : Int32) l0 l1 l2 l3 s = (if l1 < s then (if l0 < s then (-(1 : Int32)) else 0) else 1) := by
  unfold own_ar; rw [if_neg (by decide), if_neg (by decide), if_pos (by decide)]
theorem own_ar_p2 (l0 l1 l2 l3 s : Int32) : own_ar (2 : Int32) l0 l1 l2 l3 s = (if l2 < s then (if l0 < s then (-(1 : Int32)) else 0) else 2) := by
  unfold own_ar; rw [if_neg (by decide), if_neg (by decide), if_neg (by decide), if_pos (by decide)]
theorem own_ar_p3 (l0 l1 l2 l3 s : Int32) : own_ar (3 : Int32) l0 l1 l2 l3 s = (if l3 < s then (if l0 < s then (-(1 : Int32)) else 0) else 3) := by
  unfold own_ar; rw [if_neg (by decide), if_neg (by decide), if_neg (by decide), if_neg (by decide)]
theorem rm6 (l : Launch) (Z : State) (a0 : Array Value) (hw : ∀ d ∈ tables_1, d.before a0 Z = true) (ws : List Jvm.Cond) (a1 : Addr) (p2 : Int32) (f0 f1 f2 f3 l0 l1 l2 l3 : Int32) (op cnt : Int32) (h0 : Heap) (n0 : Nat) (Z0 : n0 ≤ h0.size) (B : LP Z h0 n0 a1 [.int f0, .int f1, .int f2, .int f3] [.int l0, .int l1, .int l2, .int l3] [.int (-(1 : Int32)), .int (0 : Int32), .int (0 : Int32), .int (0 : Int32)] op cnt) :
    MetFree l (⟨"com/example/nested_path/nestedpath/pattern/StringPattern$Loops", "around", "(I)I"⟩ : MethodName) (head1 (Jvm.Cond.code (⟨"com/example/nested_path/nestedpath/pattern/StringPattern$Loops", "around", "(I)I"⟩ : MethodName) prog_62_method_7_code 3 (some .int) :: ws) ({ frames := 2, cells := 0, slots := 0, locals := 60 } : Room)) (fun a U => a = #[(.ref a1), (.int p2)] ∧ Z.Warmed39 U.vm ∧ U.heap = h0) (fun _ _ _ _ _ => True) (fun _ U o U' => ∃ v L, o = .returned v ∧ Q8 (own_ar (own_bs f0 f1 f2 f3 p2) l0 l1 l2 l3 p2) h0 n0 v U'.heap L ∧ FrameEnd U o U' L ({ frames := 2, cells := 0, slots := 0, locals := 60 } : Room).cells ({ frames := 2, cells := 0, slots := 0, locals := 60 } : Room).slots) := by
  rcases own_bs9 f0 f1 f2 f3 p2 with (hR | hR | hR | hR | hR) | hR | hR | hR | hR
  · by_cases c1 : l3 < p2
    · by_cases c2 : l0 < p2
      · rw [hR, own_ar_m5, if_pos c1, if_pos c2]; exact rm6_f5 l Z a0 hw ws a1 p2 f0 f1 f2 f3 l0 l1 l2 l3 op cnt h0 n0 Z0 B (-(5 : Int32)) hR (by decide) (by decide) 3 (by decide) (by decide) l3 rfl c1 (0 : Int32) rfl (by decide) 0 (by decide) (by decide) l0 rfl c2 (-(1 : Int32)) rfl (by decide)
      · rw [hR, own_ar_m5, if_pos c1, if_neg c2]; exact rm6_f4 l Z a0 hw ws a1 p2 f0 f1 f2 f3 l0 l1 l2 l3 op cnt h0 n0 Z0 B (-(5 : Int32)) hR (by decide) (by decide) 3 (by decide) (by decide) l3 rfl c1 (0 : Int32) rfl (by decide) 0 (by decide) (by decide) l0 rfl c2
    · rw [hR, own_ar_m5, if_neg c1]; have e := rm6_f2 l Z a0 hw ws a1 p2 f0 f1 f2 f3 l0 l1 l2 l3 op cnt h0 n0 Z0 B (-(5 : Int32)) hR (by decide) (by decide) 3 (by decide) (by decide) l3 rfl c1; rw [show ((-(-(5 : Int32))) - (2 : Int32)) = (3 : Int32) from by decide] at e; exact e
  · by_cases c1 : l2 < p2
    · by_cases c2 : l0 < p2
      · rw [hR, own_ar_m4, if_pos c1, if_pos c2]; exact rm6_f5 l Z a0 hw ws a1 p2 f0 f1 f2 f3 l0 l1 l2 l3 op cnt h0 n0 Z0 B (-(4 : Int32)) hR (by decide) (by decide) 2 (by decide) (by decide) l2 rfl c1 (0 : Int32) rfl (by decide) 0 (by decide) (by decide) l0 rfl c2 (-(1 : Int32)) rfl (by decide)
      · rw [hR, own_ar_m4, if_pos c1, if_neg c2]; exact rm6_f4 l Z a0 hw ws a1 p2 f0 f1 f2 f3 l0 l1 l2 l3 op cnt h0 n0 Z0 B (-(4 : Int32)) hR (by decide) (by decide) 2 (by decide) (by decide) l2 rfl c1 (0 : Int32) rfl (by decide) 0 (by decide) (by decide) l0 rfl c2
    · rw [hR, own_ar_m4, if_neg c1]; have e := rm6_f2 l Z a0 hw ws a1 p2 f0 f1 f2 f3 l0 l1 l2 l3 op cnt h0 n0 Z0 B (-(4 : Int32)) hR (by decide) (by decide) 2 (by decide) (by decide) l2 rfl c1; rw [show ((-(-(4 : Int32))) - (2 : Int32)) = (2 : Int32) from by decide] at e; exact e
  · by_cases c1 : l1 < p2
    · by_cases c2 : l0 < p2
      · rw [hR, own_ar_m3, if_pos c1, if_pos c2]; exact rm6_f5 l Z a0 hw ws a1 p2 f0 f1 f2 f3 l0 l1 l2 l3 op cnt h0 n0 Z0 B (-(3 : Int32)) hR (by decide) (by decide) 1 (by decide) (by decide) l1 rfl c1 (0 : Int32) rfl (by decide) 0 (by decide) (by decide) l0 rfl c2 (-(1 : Int32)) rfl (by decide)
      · rw [hR, own_ar_m3, if_pos c1, if_neg c2]; exact rm6_f4 l Z a0 hw ws a1 p2 f0 f1 f2 f3 l0 l1 l2 l3 op cnt h0 n0 Z0 B (-(3 : Int32)) hR (by decide) (by decide) 1 (by decide) (by decide) l1 rfl c1 (0 : Int32) rfl (by decide) 0 (by decide) (by decide) l0 rfl c2
    · rw [hR, own_ar_m3, if_neg c1]; have e := rm6_f2 l Z a0 hw ws a1 p2 f0 f1 f2 f3 l0 l1 l2 l3 op cnt h0 n0 Z0 B (-(3 : Int32)) hR (by decide) (by decide) 1 (by decide) (by decide) l1 rfl c1; rw [show ((-(-(3 : Int32))) - (2 : Int32)) = (1 : Int32) from by decide] at e; exact e
  · by_cases c1 : l0 < p2
    · rw [hR, own_ar_m2, if_pos c1]; exact rm6_f3 l Z a0 hw ws a1 p2 f0 f1 f2 f3 l0 l1 l2 l3 op cnt h0 n0 Z0 B (-(2 : Int32)) hR (by decide) (by decide) 0 (by decide) (by decide) l0 rfl c1 (-(1 : Int32)) rfl (by decide)
    · rw [hR, own_ar_m2, if_neg c1]; have e := rm6_f2 l Z a0 hw ws a1 p2 f0 f1 f2 f3 l0 l1 l2 l3 op cnt h0 n0 Z0 B (-(2 : Int32)) hR (by decide) (by decide) 0 (by decide) (by decide) l0 rfl c1; rw [show ((-(-(2 : Int32))) - (2 : Int32)) = (0 : Int32) from by decide] at e; exact e
  · rw [hR, own_ar_m1]; have e := rm6_f1 l Z a0 hw ws a1 p2 f0 f1 f2 f3 l0 l1 l2 l3 op cnt h0 n0 Z0 B (-(1 : Int32)) hR (by decide) (by decide); rw [show ((-(-(1 : Int32))) - (2 : Int32)) = (-(1 : Int32)) from by decide] at e; exact e
  · by_cases c1 : l0 < p2
    · rw [hR, own_ar_p0, if_pos c1]; exact rm6_t3 l Z a0 hw ws a1 p2 f0 f1 f2 f3 l0 l1 l2 l3 op cnt h0 n0 Z0 B (0 : Int32) hR (by decide) (by decide) 0 (by decide) (by decide) l0 rfl c1 (-(1 : Int32)) rfl (by decide)
    · rw [hR, own_ar_p0, if_neg c1]; exact rm6_t2 l Z a0 hw ws a1 p2 f0 f1 f2 f3 l0 l1 l2 l3 op cnt h0 n0 Z0 B (0 : Int32) hR (by decide) (by decide) 0 (by decide) (by decide) l0 rfl c1
  · by_cases c1 : l1 < p2
    · by_cases c2 : l0 < p2
      · rw [hR, own_ar_p1, if_pos c1, if_pos c2]; exact rm6_t5 l Z a0 hw ws a1 p2 f0 f1 f2 f3 l0 l1 l2 l3 op cnt h0 n0 Z0 B (1 : Int32) hR (by decide) (by decide) 1 (by decide) (by decide) l1 rfl c1 (0 : Int32) rfl (by decide) 0 (by decide) (by decide) l0 rfl c2 (-(1 : Int32)) rfl (by decide)
      · rw [hR, own_ar_p1, if_pos c1, if_neg c2]; exact rm6_t4 l Z a0 hw ws a1 p2 f0 f1 f2 f3 l0 l1 l2 l3 op cnt h0 n0 Z0 B (1 : Int32) hR (by decide) (by decide) 1 (by decide) (by decide) l1 rfl c1 (0 : Int32) rfl (by decide) 0 (by decide) (by decide) l0 rfl c2
    · rw [hR, own_ar_p1, if_neg c1]; exact rm6_t2 l Z a0 hw ws a1 p2 f0 f1 f2 f3 l0 l1 l2 l3 op cnt h0 n0 Z0 B (1 : Int32) hR (by decide) (by decide) 1 (by decide) (by decide) l1 rfl c1
  · by_cases c1 : l2 < p2
    · by_cases c2 : l0 < p2
      · rw [hR, own_ar_p2, if_pos c1, if_pos c2]; exact rm6_t5 l Z a0 hw ws a1 p2 f0 f1 f2 f3 l0 l1 l2 l3 op cnt h0 n0 Z0 B (2 : Int32) hR (by decide) (by decide) 2 (by decide) (by decide) l2 rfl c1 (0 : Int32) rfl (by decide) 0 (by decide) (by decide) l0 rfl c2 (-(1 : Int32)) rfl (by decide)
      · rw [hR, own_ar_p2, if_pos c1, if_neg c2]; exact rm6_t4 l Z a0 hw ws a1 p2 f0 f1 f2 f3 l0 l1 l2 l3 op cnt h0 n0 Z0 B (2 : Int32) hR (by decide) (by decide) 2 (by decide) (by decide) l2 rfl c1 (0 : Int32) rfl (by decide) 0 (by decide) (by decide) l0 rfl c2
    · rw [hR, own_ar_p2, if_neg c1]; exact rm6_t2 l Z a0 hw ws a1 p2 f0 f1 f2 f3 l0 l1 l2 l3 op cnt h0 n0 Z0 B (2 : Int32) hR (by decide) (by decide) 2 (by decide) (by decide) l2 rfl c1
  · by_cases c1 : l3 < p2
    · by_cases c2 : l0 < p2
      · rw [hR, own_ar_p3, if_pos c1, if_pos c2]; exact rm6_t5 l Z a0 hw ws a1 p2 f0 f1 f2 f3 l0 l1 l2 l3 op cnt h0 n0 Z0 B (3 : Int32) hR (by decide) (by decide) 3 (by decide) (by decide) l3 rfl c1 (0 : Int32) rfl (by decide) 0 (by decide) (by decide) l0 rfl c2 (-(1 : Int32)) rfl (by decide)
      · rw [hR, own_ar_p3, if_pos c1, if_neg c2]; exact rm6_t4 l Z a0 hw ws a1 p2 f0 f1 f2 f3 l0 l1 l2 l3 op cnt h0 n0 Z0 B (3 : Int32) hR (by decide) (by decide) 3 (by decide) (by decide) l3 rfl c1 (0 : Int32) rfl (by decide) 0 (by decide) (by decide) l0 rfl c2
    · rw [hR, own_ar_p3, if_neg c1]; exact rm6_t2 l Z a0 hw ws a1 p2 f0 f1 f2 f3 l0 l1 l2 l3 op cnt h0 n0 Z0 B (3 : Int32) hR (by decide) (by decide) 3 (by decide) (by decide) l3 rfl c1
theorem own_sel {a0 : Array Value} {Z : State} {C n d n' d' : String} (hs : (Jvm.Cond.selects C ⟨C, n, d⟩ ⟨C, n, d⟩).before a0 Z = true) (hp : (Jvm.Cond.privateMethod ⟨C, n', d'⟩).before a0 Z = true) (hi : (Jvm.Cond.instanceMethod ⟨C, n', d'⟩).before a0 Z = true) (hy : C ≠ "java/lang/invoke/MethodHandle" ∧ C ≠ "java/lang/invoke/VarHandle" := by decide) : (Jvm.Cond.selects C ⟨C, n', d'⟩ ⟨C, n', d'⟩).before a0 Z = true := by
  obtain ⟨c2, r2, m2, q1, q2, q3, q4, kP, hkP, hkPi⟩ := Cond.selects_spec hs
  have hc : Z.vm.findClass C = some m2.cls := findClass_of_methodNamed q3
  exact selects_self_of_private (y := ⟨C, n', d'⟩) hc hkP hkPi (Cond.privateMethod_at hp) hi hy
theorem d5_0 : decode prog_62_method_6_code 0 = .ok (.iconst 0, 1) := by decide +kernel
theorem d5_1 : decode prog_62_method_6_code 1 = .ok (.istore 4, 2) := by decide +kernel
theorem d5_3 : decode prog_62_method_6_code 3 = .ok (.aload_n 0, 1) := by decide +kernel
theorem d5_4 : decode prog_62_method_6_code 4 = .ok (.iload_n 1, 1) := by decide +kernel
theorem d5_5 : decode prog_62_method_6_code 5 = .ok (.invokevirtual 32, 3) := by decide +kernel
theorem d5_8 : decode prog_62_method_6_code 8 = .ok (.istore 5, 2) := by decide +kernel
theorem d5_10 : decode prog_62_method_6_code 10 = .ok (.iload 5, 2) := by decide +kernel
theorem d5_12 : decode prog_62_method_6_code 12 = .ok (.ifCond .lt 26, 3) := by decide +kernel
theorem d5_38 : decode prog_62_method_6_code 38 = .ok (.iload 4, 2) := by decide +kernel
theorem d5_40 : decode prog_62_method_6_code 40 = .ok (.ireturn, 1) := by decide +kernel
theorem pn_5 : plainName "com/example/nested_path/nestedpath/pattern/StringPattern$Loops" = true := by first | (simp [plainName, overriddenIn]; done) | decide +kernel
theorem pdw_2 : parseMethodDescriptor "(I)I" = some ⟨[.int], some .int⟩ := by decide +kernel
theorem ef_5 (m : MethodId) (x0 : Addr) (x1 : Int32) (x2 : Int32) (x3 : Addr) : entryFrame m #[(.ref x0), (.int x1), (.int x2), (.ref x3)] 6 = mkF m 0 #[.val (.ref x0), .val (.int x1), .val (.int x2), .val (.ref x3), .unset, .unset] [] := by first | (simp [entryFrame, mkF, argsToLocals, Value.category]; done) | rfl
set_option maxRecDepth 65536 in
set_option maxHeartbeats 40000000 in
theorem rm5_1 (l : Launch) (Z : State) (a0 : Array Value) (hw : ∀ d ∈ tables_1, d.before a0 Z = true) (ws : List Jvm.Cond) (a1 : Addr) (p2 : Int32) (p3 : Int32) (a4 : Addr) (f0 f1 f2 f3 l0 l1 l2 l3 t0 t1 t2 t3 : Int32) (op cnt : Int32) (kt : ClassId) (h0 : Heap) (n0 : Nat) (Z0 : n0 ≤ h0.size) (B : LP Z h0 n0 a1 [.int f0, .int f1, .int f2, .int f3] [.int l0, .int l1, .int l2, .int l3] [.int (-(1 : Int32)), .int (0 : Int32), .int (0 : Int32), .int (0 : Int32)] op cnt) (V : Arv Z h0 a4 kt .int 4 [.int t0, .int t1, .int t2, .int t3] (.int 0)) (R : Int32) (hR : own_ar (own_bs f0 f1 f2 f3 p2) l0 l1 l2 l3 p2 = R) (hq1 : R < (0 : Int32)) :
    MetFree l (⟨"com/example/nested_path/nestedpath/pattern/StringPattern$Loops", "emptyTurns", "(II[I)I"⟩ : MethodName) (head1 (Jvm.Cond.code (⟨"com/example/nested_path/nestedpath/pattern/StringPattern$Loops", "emptyTurns", "(II[I)I"⟩ : MethodName) prog_62_method_6_code 6 (some .int) :: ws) ({ frames := 3, cells := 0, slots := 0, locals := 100 } : Room)) (fun a U => a = #[(.ref a1), (.int p2), (.int p3), (.ref a4)] ∧ Z.Warmed39 U.vm ∧ U.heap = h0) (fun _ _ _ _ _ => True) (fun _ U o U' => ∃ v L, o = .returned v ∧ Q8 (0 : Int32) h0 n0 v U'.heap L ∧ FrameEnd U o U' L ({ frames := 3, cells := 0, slots := 0, locals := 100 } : Room).cells ({ frames := 3, cells := 0, slots := 0, locals := 100 } : Room).slots) := by
  refine MetFree.of_bodySF (plainFor_of_name pn_5) hisR ?_
  intro p e s m args below meth c s₁ Bd hml0 hP hK
  obtain ⟨rfl, hZ, hh⟩ := hP
  have B0 := B
  have V0 := V
  obtain ⟨f5, l5, o5, kf, kl, ko, E_a1, F_firsts_a1, F_lasts_a1, F_outers_a1, F_open_a1, F_count_a1, Vf, Vl, Vo, g_a1, g_f5, g_l5, g_o5, naf, nal, nao, nfl, nfo, nlo, lf, ll, lo⟩ := B0
  obtain ⟨cl_a4, Ar_a4, q_a4, S_a4, N_a4, H_a4, G_a4⟩ := V0
  obtain ⟨cl_o5, Ar_o5, q_o5, S_o5, N_o5, H_o5, G_o5⟩ := Vo
  have hx := Bd.exec
  have hby := Bd.bytes
  have hml : c.maxLocals = 6 := hml0
  have hown : s.vm.findClass "com/example/nested_path/nestedpath/pattern/StringPattern$Loops" = some m.cls := findClass_of_methodNamed Bd.named
  have hnm := (name_of_methodNamed Bd.named Bd.method).1
  have X0 : Stand p l e ({ frames := 3, cells := 0, slots := 0, locals := 100 } : Room) s m #[(.ref a1), (.int p2), (.int p3), (.ref a4)] below meth c s₁ [] 0 0 := Stand.of_body Bd
  have e0 : s₁.heap = h0 := by rw [← hh, Bd.state]; rfl
  have N0 := Fr.nil n0
  have pre0 : ∀ t, Steps p.tables e below (s₁.setTop (mkF m 0 #[.val (.ref a1), .val (.int p2), .val (.int p3), .val (.ref a4), .unset, .unset] [])) t → Steps p.tables e below (s₁.setTop (entryFrame m #[(.ref a1), (.int p2), (.int p3), (.ref a4)] 6)) t := fun t k => castTop (ef_5 m a1 p2 p3 a4) k
  -- 3. LAWS
  -- pc 5: a private method: rm6
  obtain ⟨cq5, q5, q5'⟩ := E_a1.cell
  obtain ⟨_, _, ⟨T5, L5, k5, n5⟩, -, X5, ⟨Lc5, hQ5, l5, y5, z5⟩, st5⟩ := X0.privateBack hx (y := (⟨"com/example/nested_path/nestedpath/pattern/StringPattern$Loops", "around", "(I)I"⟩ : MethodName)) hown (mvT hZ (hw _ (List.mem_of_getElem? (i := 35) rfl))) (mvT hZ (hw _ (List.mem_of_getElem? (i := 36) rfl))) (mvT hZ (own_sel (hw _ (List.mem_of_getElem? (i := 21) rfl)) (hw _ (List.mem_of_getElem? (i := 37) rfl)) (hw _ (List.mem_of_getElem? (i := 36) rfl)))) (Cond.privateMethod_at (mvP hZ (hw _ (List.mem_of_getElem? (i := 37) rfl)) (args := #[]))) (mvT hZ (hw _ (List.mem_of_getElem? (i := 38) rfl))) (by decide) (backOf (W := 0) (rm6 l Z a0 hw [] a1 p2 f0 f1 f2 f3 l0 l1 l2 l3 op cnt h0 n0 Z0 B) hZ (hw _ (List.mem_of_getElem? (i := 38) rfl)) (hw _ (List.mem_of_getElem? (i := 2) rfl)) (by decide) (by decide)) (g := (mkF m 5 #[.val (.ref a1), .val (.int p2), .val (.int p3), .val (.ref a4), .val (.int (0 : Int32)), .unset] [(.int p2), (.ref a1)])) rfl (by rw [hml]; rfl) (Steps.refl _) (a := a1) (by rw [e0]; exact q5) q5' (argsL := [(.int p2)]) (rest := []) (lenOf pdw_2 rfl) rfl (by show 2 * 0 + _ ≤ _; exact Nat.le_of_eq rfl) (hb hby d5_5) (fun _ _ => ⟨rfl, e0, (by decide : 0 + 0 ≤ _), (by decide : 0 + 0 ≤ _)⟩)
  dsimp only [Pt.U, Pt.locs, Pt.cells, Pt.slots] at X5 l5 y5 z5 st5 hQ5
  subst l5 y5 z5
  rw [hR] at hQ5
  obtain ⟨rfl, N5q, hh5⟩ := hQ5
  have N5 := Fr.app N0 N5q
  obtain ⟨fs, hr, hrun, hended, hW, hsame⟩ := X5.leave (v := some (.int (0 : Int32))) (fun h => by rw [Bd.returns] at h; cases h)
  refine ⟨_, _, pre0 _ ?_, hrun, hended, _, _, rfl, ?_, ⟨_, rfl⟩, hW, hsame.mono (by decide) (by decide)⟩
  -- 4. STEPS
  · show Steps p.tables e below (s₁.setTop (mkF m 0 #[.val (.ref a1), .val (.int p2), .val (.int p3), .val (.ref a4), .unset, .unset] [])) _
    refine XS.iconst X0.here hx rfl (hb hby d5_0) ?_
    show Steps p.tables e below (s₁.setTop (mkF m 1 #[.val (.ref a1), .val (.int p2), .val (.int p3), .val (.ref a4), .unset, .unset] [(.int (0 : Int32))])) _
    refine XS.istore X0.here hx rfl (hb hby d5_1) rfl (l' := #[.val (.ref a1), .val (.int p2), .val (.int p3), .val (.ref a4), .val (.int (0 : Int32)), .unset]) rfl ?_
    show Steps p.tables e below (s₁.setTop (mkF m 3 #[.val (.ref a1), .val (.int p2), .val (.int p3), .val (.ref a4), .val (.int (0 : Int32)), .unset] [])) _
    refine XS.aloadN X0.here hx rfl (hb hby d5_3) rfl rfl ?_
    show Steps p.tables e below (s₁.setTop (mkF m 4 #[.val (.ref a1), .val (.int p2), .val (.int p3), .val (.ref a4), .val (.int (0 : Int32)), .unset] [(.ref a1)])) _
    refine XS.iloadN X0.here hx rfl (hb hby d5_4) rfl ?_
    show Steps p.tables e below (s₁.setTop (mkF m 5 #[.val (.ref a1), .val (.int p2), .val (.int p3), .val (.ref a4), .val (.int (0 : Int32)), .unset] [(.int p2), (.ref a1)])) _
    refine st5.trans ?_
    show Steps p.tables e below (T5.setTop (mkF m 8 #[.val (.ref a1), .val (.int p2), .val (.int p3), .val (.ref a4), .val (.int (0 : Int32)), .unset] [(.int R)])) _
    refine XS.istore X5.here hx rfl (hb hby d5_8) rfl (l' := #[.val (.ref a1), .val (.int p2), .val (.int p3), .val (.ref a4), .val (.int (0 : Int32)), .val (.int R)]) rfl ?_
    show Steps p.tables e below (T5.setTop (mkF m 10 #[.val (.ref a1), .val (.int p2), .val (.int p3), .val (.ref a4), .val (.int (0 : Int32)), .val (.int R)] [])) _
    refine XS.iload X5.here hx rfl (hb hby d5_10) rfl ?_
    show Steps p.tables e below (T5.setTop (mkF m 12 #[.val (.ref a1), .val (.int p2), .val (.int p3), .val (.ref a4), .val (.int (0 : Int32)), .val (.int R)] [(.int R)])) _
    refine XS.ifYes X5.here hx rfl (pc0 := 12) (pc' := 38) rfl (hb hby d5_12) rfl ((if0 _ _).trans (tlt hq1).1) (by decide) (by decide) ?_
    show Steps p.tables e below (T5.setTop (mkF m 38 #[.val (.ref a1), .val (.int p2), .val (.int p3), .val (.ref a4), .val (.int (0 : Int32)), .val (.int R)] [])) _
    refine XS.iload X5.here hx rfl (hb hby d5_38) rfl ?_
    show Steps p.tables e below (T5.setTop (mkF m 40 #[.val (.ref a1), .val (.int p2), .val (.int p3), .val (.ref a4), .val (.int (0 : Int32)), .val (.int R)] [(.int (0 : Int32))])) _
    exact retI X5 hx Bd.returns (hb hby d5_40) hr      -- retI stands in the head ('lawwalk <made dir>' prints it)
  · show Q8 (0 : Int32) h0 n0 _ T5.heap _
    exact ⟨rfl, N5, by first | rfl | assumption⟩
theorem d5_15 : decode prog_62_method_6_code 15 = .ok (.aload_n 3, 1) := by decide +kernel
theorem d5_16 : decode prog_62_method_6_code 16 = .ok (.iload 5, 2) := by decide +kernel
theorem d5_18 : decode prog_62_method_6_code 18 = .ok (.iaload, 1) := by decide +kernel
theorem d5_19 : decode prog_62_method_6_code 19 = .ok (.iload_n 2, 1) := by decide +kernel
theorem d5_20 : decode prog_62_method_6_code 20 = .ok (.if_icmp .ne 18, 3) := by decide +kernel
set_option maxRecDepth 65536 in
set_option maxHeartbeats 40000000 in
theorem rm5_2 (l : Launch) (Z : State) (a0 : Array Value) (hw : ∀ d ∈ tables_1, d.before a0 Z = true) (ws : List Jvm.Cond) (a1 : Addr) (p2 : Int32) (p3 : Int32) (a4 : Addr) (f0 f1 f2 f3 l0 l1 l2 l3 t0 t1 t2 t3 : Int32) (op cnt : Int32) (kt : ClassId) (h0 : Heap) (n0 : Nat) (Z0 : n0 ≤ h0.size) (B : LP Z h0 n0 a1 [.int f0, .int f1, .int f2, .int f3] [.int l0, .int l1, .int l2, .int l3] [.int (-(1 : Int32)), .int (0 : Int32), .int (0 : Int32), .int (0 : Int32)] op cnt) (V : Arv Z h0 a4 kt .int 4 [.int t0, .int t1, .int t2, .int t3] (.int 0)) (R : Int32) (hR : own_ar (own_bs f0 f1 f2 f3 p2) l0 l1 l2 l3 p2 = R) (hq1 : ¬ (R < (0 : Int32))) (ni : Nat) (hI : R = Int32.ofNat ni) (hni : ni < 4) (tv : Int32) (xt : ([.int t0, .int t1, .int t2, .int t3] : List Value).getD ni (.int 0) = .int tv) (hc20_1 : ¬ (tv = p3)) :
    MetFree l (⟨"com/example/nested_path/nestedpath/pattern/StringPattern$Loops", "emptyTurns", "(II[I)I"⟩ : MethodName) (head1 (Jvm.Cond.code (⟨"com/example/nested_path/nestedpath/pattern/StringPattern$Loops", "emptyTurns", "(II[I)I"⟩ : MethodName) prog_62_method_6_code 6 (some .int) :: ws) ({ frames := 3, cells := 0, slots := 0, locals := 100 } : Room)) (fun a U => a = #[(.ref a1), (.int p2), (.int p3), (.ref a4)] ∧ Z.Warmed39 U.vm ∧ U.heap = h0) (fun _ _ _ _ _ => True) (fun _ U o U' => ∃ v L, o = .returned v ∧ Q8 (0 : Int32) h0 n0 v U'.heap L ∧ FrameEnd U o U' L ({ frames := 3, cells := 0, slots := 0, locals := 100 } : Room).cells ({ frames := 3, cells := 0, slots := 0, locals := 100 } : Room).slots) := by
  refine MetFree.of_bodySF (plainFor_of_name pn_5) hisR ?_
  intro p e s m args below meth c s₁ Bd hml0 hP hK
  obtain ⟨rfl, hZ, hh⟩ := hP
  have B0 := B
  have V0 := V
  obtain ⟨f5, l5, o5, kf, kl, ko, E_a1, F_firsts_a1, F_lasts_a1, F_outers_a1, F_open_a1, F_count_a1, Vf, Vl, Vo, g_a1, g_f5, g_l5, g_o5, naf, nal, nao, nfl, nfo, nlo, lf, ll, lo⟩ := B0
  obtain ⟨cl_a4, Ar_a4, q_a4, S_a4, N_a4, H_a4, G_a4⟩ := V0
  obtain ⟨cl_o5, Ar_o5, q_o5, S_o5, N_o5, H_o5, G_o5⟩ := Vo
  have hin18_1 := inb_of S_a4 (j := R) (by rw [hI]; exact own_inb hni)
  have hat18_1 : cl_a4.slots[(R).toNatClampNeg]? = some (.int tv) := Has.at H_a4 hin18_1 (by rw [hI, own_clamp (by omega)]; exact xt)
  have hx := Bd.exec
  have hby := Bd.bytes
  have hml : c.maxLocals = 6 := hml0
  have hown : s.vm.findClass "com/example/nested_path/nestedpath/pattern/StringPattern$Loops" = some m.cls := findClass_of_methodNamed Bd.named
  have hnm := (name_of_methodNamed Bd.named Bd.method).1
  have X0 : Stand p l e ({ frames := 3, cells := 0, slots := 0, locals := 100 } : Room) s m #[(.ref a1), (.int p2), (.int p3), (.ref a4)] below meth c s₁ [] 0 0 := Stand.of_body Bd
  have e0 : s₁.heap = h0 := by rw [← hh, Bd.state]; rfl
  have N0 := Fr.nil n0
  have pre0 : ∀ t, Steps p.tables e below (s₁.setTop (mkF m 0 #[.val (.ref a1), .val (.int p2), .val (.int p3), .val (.ref a4), .unset, .unset] [])) t → Steps p.tables e below (s₁.setTop (entryFrame m #[(.ref a1), (.int p2), (.int p3), (.ref a4)] 6)) t := fun t k => castTop (ef_5 m a1 p2 p3 a4) k
  -- 3. LAWS
  -- pc 5: a private method: rm6
  obtain ⟨cq5, q5, q5'⟩ := E_a1.cell
  obtain ⟨_, _, ⟨T5, L5, k5, n5⟩, -, X5, ⟨Lc5, hQ5, l5, y5, z5⟩, st5⟩ := X0.privateBack hx (y := (⟨"com/example/nested_path/nestedpath/pattern/StringPattern$Loops", "around", "(I)I"⟩ : MethodName)) hown (mvT hZ (hw _ (List.mem_of_getElem? (i := 35) rfl))) (mvT hZ (hw _ (List.mem_of_getElem? (i := 36) rfl))) (mvT hZ (own_sel (hw _ (List.mem_of_getElem? (i := 21) rfl)) (hw _ (List.mem_of_getElem? (i := 37) rfl)) (hw _ (List.mem_of_getElem? (i := 36) rfl)))) (Cond.privateMethod_at (mvP hZ (hw _ (List.mem_of_getElem? (i := 37) rfl)) (args := #[]))) (mvT hZ (hw _ (List.mem_of_getElem? (i := 38) rfl))) (by decide) (backOf (W := 0) (rm6 l Z a0 hw [] a1 p2 f0 f1 f2 f3 l0 l1 l2 l3 op cnt h0 n0 Z0 B) hZ (hw _ (List.mem_of_getElem? (i := 38) rfl)) (hw _ (List.mem_of_getElem? (i := 2) rfl)) (by decide) (by decide)) (g := (mkF m 5 #[.val (.ref a1), .val (.int p2), .val (.int p3), .val (.ref a4), .val (.int (0 : Int32)), .unset] [(.int p2), (.ref a1)])) rfl (by rw [hml]; rfl) (Steps.refl _) (a := a1) (by rw [e0]; exact q5) q5' (argsL := [(.int p2)]) (rest := []) (lenOf pdw_2 rfl) rfl (by show 2 * 0 + _ ≤ _; exact Nat.le_of_eq rfl) (hb hby d5_5) (fun _ _ => ⟨rfl, e0, (by decide : 0 + 0 ≤ _), (by decide : 0 + 0 ≤ _)⟩)
  dsimp only [Pt.U, Pt.locs, Pt.cells, Pt.slots] at X5 l5 y5 z5 st5 hQ5
  subst l5 y5 z5
  rw [hR] at hQ5
  obtain ⟨rfl, N5q, hh5⟩ := hQ5
  have N5 := Fr.app N0 N5q
  -- ✋ yours, out of the call's Q: hin18 : ¬ (R < 0 ∨ cl_a4.slots.size ≤ (R).toNatClampNeg)
  -- ✋ yours, out of the call's Q: hat18 : cl_a4.slots[(R).toNatClampNeg]? = some (.int tv)
  -- ✋ yours: Ar_a4 must speak of h0 here (carried over the writes ahead of it)
  obtain ⟨fs, hr, hrun, hended, hW, hsame⟩ := X5.leave (v := some (.int (0 : Int32))) (fun h => by rw [Bd.returns] at h; cases h)
  refine ⟨_, _, pre0 _ ?_, hrun, hended, _, _, rfl, ?_, ⟨_, rfl⟩, hW, hsame.mono (by decide) (by decide)⟩
  -- 4. STEPS
  · show Steps p.tables e below (s₁.setTop (mkF m 0 #[.val (.ref a1), .val (.int p2), .val (.int p3), .val (.ref a4), .unset, .unset] [])) _
    refine XS.iconst X0.here hx rfl (hb hby d5_0) ?_
    show Steps p.tables e below (s₁.setTop (mkF m 1 #[.val (.ref a1), .val (.int p2), .val (.int p3), .val (.ref a4), .unset, .unset] [(.int (0 : Int32))])) _
    refine XS.istore X0.here hx rfl (hb hby d5_1) rfl (l' := #[.val (.ref a1), .val (.int p2), .val (.int p3), .val (.ref a4), .val (.int (0 : Int32)), .unset]) rfl ?_
    show Steps p.tables e below (s₁.setTop (mkF m 3 #[.val (.ref a1), .val (.int p2), .val (.int p3), .val (.ref a4), .val (.int (0 : Int32)), .unset] [])) _
    refine XS.aloadN X0.here hx rfl (hb hby d5_3) rfl rfl ?_
    show Steps p.tables e below (s₁.setTop (mkF m 4 #[.val (.ref a1), .val (.int p2), .val (.int p3), .val (.ref a4), .val (.int (0 : Int32)), .unset] [(.ref a1)])) _
    refine XS.iloadN X0.here hx rfl (hb hby d5_4) rfl ?_
    show Steps p.tables e below (s₁.setTop (mkF m 5 #[.val (.ref a1), .val (.int p2), .val (.int p3), .val (.ref a4), .val (.int (0 : Int32)), .unset] [(.int p2), (.ref a1)])) _
    refine st5.trans ?_
    show Steps p.tables e below (T5.setTop (mkF m 8 #[.val (.ref a1), .val (.int p2), .val (.int p3), .val (.ref a4), .val (.int (0 : Int32)), .unset] [(.int R)])) _
    refine XS.istore X5.here hx rfl (hb hby d5_8) rfl (l' := #[.val (.ref a1), .val (.int p2), .val (.int p3), .val (.ref a4), .val (.int (0 : Int32)), .val (.int R)]) rfl ?_
    show Steps p.tables e below (T5.setTop (mkF m 10 #[.val (.ref a1), .val (.int p2), .val (.int p3), .val (.ref a4), .val (.int (0 : Int32)), .val (.int R)] [])) _
    refine XS.iload X5.here hx rfl (hb hby d5_10) rfl ?_
    show Steps p.tables e below (T5.setTop (mkF m 12 #[.val (.ref a1), .val (.int p2), .val (.int p3), .val (.ref a4), .val (.int (0 : Int32)), .val (.int R)] [(.int R)])) _
    refine XS.ifNo X5.here hx rfl (hb hby d5_12) rfl ((if0 _ _).trans (flt hq1).1) ?_
    show Steps p.tables e below (T5.setTop (mkF m 15 #[.val (.ref a1), .val (.int p2), .val (.int p3), .val (.ref a4), .val (.int (0 : Int32)), .val (.int R)] [])) _
    refine XS.aloadN X5.here hx rfl (hb hby d5_15) rfl rfl ?_
    show Steps p.tables e below (T5.setTop (mkF m 16 #[.val (.ref a1), .val (.int p2), .val (.int p3), .val (.ref a4), .val (.int (0 : Int32)), .val (.int R)] [(.ref a4)])) _
    refine XS.iload X5.here hx rfl (hb hby d5_16) rfl ?_
    show Steps p.tables e below (T5.setTop (mkF m 18 #[.val (.ref a1), .val (.int p2), .val (.int p3), .val (.ref a4), .val (.int (0 : Int32)), .val (.int R)] [(.int R), (.ref a4)])) _
    refine X5.iaload hx (j := R) (v := (.int tv)) (by rw [hh5]; exact Ar_a4.1) (State.isArrayOf_alike hZ.alike Ar_a4.2.1) Ar_a4.2.2 hin18_1 hat18_1 (g := (mkF m 18 #[.val (.ref a1), .val (.int p2), .val (.int p3), .val (.ref a4), .val (.int (0 : Int32)), .val (.int R)] [(.int R), (.ref a4)])) rfl rfl (hb hby d5_18) _ ?_
    show Steps p.tables e below (T5.setTop (mkF m 19 #[.val (.ref a1), .val (.int p2), .val (.int p3), .val (.ref a4), .val (.int (0 : Int32)), .val (.int R)] [(.int tv)])) _
    refine XS.iloadN X5.here hx rfl (hb hby d5_19) rfl ?_
    show Steps p.tables e below (T5.setTop (mkF m 20 #[.val (.ref a1), .val (.int p2), .val (.int p3), .val (.ref a4), .val (.int (0 : Int32)), .val (.int R)] [(.int p3), (.int tv)])) _
    refine XS.icmpYes X5.here hx rfl (pc0 := 20) (pc' := 38) rfl (hb hby d5_20) rfl (feq hc20_1).2 (by decide) (by decide) ?_
    show Steps p.tables e below (T5.setTop (mkF m 38 #[.val (.ref a1), .val (.int p2), .val (.int p3), .val (.ref a4), .val (.int (0 : Int32)), .val (.int R)] [])) _
    refine XS.iload X5.here hx rfl (hb hby d5_38) rfl ?_
    show Steps p.tables e below (T5.setTop (mkF m 40 #[.val (.ref a1), .val (.int p2), .val (.int p3), .val (.ref a4), .val (.int (0 : Int32)), .val (.int R)] [(.int (0 : Int32))])) _
    exact retI X5 hx Bd.returns (hb hby d5_40) hr      -- retI stands in the head ('lawwalk <made dir>' prints it)
  · show Q8 (0 : Int32) h0 n0 _ T5.heap _
    exact ⟨rfl, N5, by first | rfl | assumption⟩
theorem d5_23 : decode prog_62_method_6_code 23 = .ok (.iinc 4 1, 3) := by decide +kernel
theorem d5_26 : decode prog_62_method_6_code 26 = .ok (.aload_n 0, 1) := by decide +kernel
theorem d5_27 : decode prog_62_method_6_code 27 = .ok (.getfield 16, 3) := by decide +kernel
theorem d5_30 : decode prog_62_method_6_code 30 = .ok (.iload 5, 2) := by decide +kernel
theorem d5_32 : decode prog_62_method_6_code 32 = .ok (.iaload, 1) := by decide +kernel
theorem d5_33 : decode prog_62_method_6_code 33 = .ok (.istore 5, 2) := by decide +kernel
theorem d5_35 : decode prog_62_method_6_code 35 = .ok (.goto (-25), 3) := by decide +kernel
set_option maxRecDepth 65536 in
set_option maxHeartbeats 40000000 in
theorem rm5_3 (l : Launch) (Z : State) (a0 : Array Value) (hw : ∀ d ∈ tables_1, d.before a0 Z = true) (ws : List Jvm.Cond) (a1 : Addr) (p2 : Int32) (p3 : Int32) (a4 : Addr) (f0 f1 f2 f3 l0 l1 l2 l3 t0 t1 t2 t3 : Int32) (op cnt : Int32) (kt : ClassId) (h0 : Heap) (n0 : Nat) (Z0 : n0 ≤ h0.size) (B : LP Z h0 n0 a1 [.int f0, .int f1, .int f2, .int f3] [.int l0, .int l1, .int l2, .int l3] [.int (-(1 : Int32)), .int (0 : Int32), .int (0 : Int32), .int (0 : Int32)] op cnt) (V : Arv Z h0 a4 kt .int 4 [.int t0, .int t1, .int t2, .int t3] (.int 0)) (R : Int32) (hR : own_ar (own_bs f0 f1 f2 f3 p2) l0 l1 l2 l3 p2 = R) (hq1 : ¬ (R < (0 : Int32))) (ni : Nat) (hI : R = Int32.ofNat ni) (hni : ni < 4) (tv : Int32) (xt : ([.int t0, .int t1, .int t2, .int t3] : List Value).getD ni (.int 0) = .int tv) (hc20_1 : tv = p3) (ov : Int32) (xo : ([.int (-(1 : Int32)), .int (0 : Int32), .int (0 : Int32), .int (0 : Int32)] : List Value).getD ni (.int 0) = .int ov) (hc12_1 : ov < (0 : Int32)) :
    MetFree l (⟨"com/example/nested_path/nestedpath/pattern/StringPattern$Loops", "emptyTurns", "(II[I)I"⟩ : MethodName) (head1 (Jvm.Cond.code (⟨"com/example/nested_path/nestedpath/pattern/StringPattern$Loops", "emptyTurns", "(II[I)I"⟩ : MethodName) prog_62_method_6_code 6 (some .int) :: ws) ({ frames := 3, cells := 0, slots := 0, locals := 100 } : Room)) (fun a U => a = #[(.ref a1), (.int p2), (.int p3), (.ref a4)] ∧ Z.Warmed39 U.vm ∧ U.heap = h0) (fun _ _ _ _ _ => True) (fun _ U o U' => ∃ v L, o = .returned v ∧ Q8 (1 : Int32) h0 n0 v U'.heap L ∧ FrameEnd U o U' L ({ frames := 3, cells := 0, slots := 0, locals := 100 } : Room).cells ({ frames := 3, cells := 0, slots := 0, locals := 100 } : Room).slots) := by
  refine MetFree.of_bodySF (plainFor_of_name pn_5) hisR ?_
  intro p e s m args below meth c s₁ Bd hml0 hP hK
  obtain ⟨rfl, hZ, hh⟩ := hP
  have B0 := B
  have V0 := V
  obtain ⟨f5, l5, o5, kf, kl, ko, E_a1, F_firsts_a1, F_lasts_a1, F_outers_a1, F_open_a1, F_count_a1, Vf, Vl, Vo, g_a1, g_f5, g_l5, g_o5, naf, nal, nao, nfl, nfo, nlo, lf, ll, lo⟩ := B0
  obtain ⟨cl_a4, Ar_a4, q_a4, S_a4, N_a4, H_a4, G_a4⟩ := V0
  obtain ⟨cl_o5, Ar_o5, q_o5, S_o5, N_o5, H_o5, G_o5⟩ := Vo
  have hin18_1 := inb_of S_a4 (j := R) (by rw [hI]; exact own_inb hni)
  have hat18_1 : cl_a4.slots[(R).toNatClampNeg]? = some (.int tv) := Has.at H_a4 hin18_1 (by rw [hI, own_clamp (by omega)]; exact xt)
  have hin32_1 := inb_of S_o5 (j := R) (by rw [hI]; exact own_inb hni)
  have hat32_1 : cl_o5.slots[(R).toNatClampNeg]? = some (.int ov) := Has.at H_o5 hin32_1 (by rw [hI, own_clamp (by omega)]; exact xo)
  have hx := Bd.exec
  have hby := Bd.bytes
  have hml : c.maxLocals = 6 := hml0
  have hown : s.vm.findClass "com/example/nested_path/nestedpath/pattern/StringPattern$Loops" = some m.cls := findClass_of_methodNamed Bd.named
  have hnm := (name_of_methodNamed Bd.named Bd.method).1
  have X0 : Stand p l e ({ frames := 3, cells := 0, slots := 0, locals := 100 } : Room) s m #[(.ref a1), (.int p2), (.int p3), (.ref a4)] below meth c s₁ [] 0 0 := Stand.of_body Bd
  have e0 : s₁.heap = h0 := by rw [← hh, Bd.state]; rfl
  have N0 := Fr.nil n0
  have pre0 : ∀ t, Steps p.tables e below (s₁.setTop (mkF m 0 #[.val (.ref a1), .val (.int p2), .val (.int p3), .val (.ref a4), .unset, .unset] [])) t → Steps p.tables e below (s₁.setTop (entryFrame m #[(.ref a1), (.int p2), (.int p3), (.ref a4)] 6)) t := fun t k => castTop (ef_5 m a1 p2 p3 a4) k
  -- 3. LAWS
  -- pc 5: a private method: rm6
  obtain ⟨cq5, q5, q5'⟩ := E_a1.cell
  obtain ⟨_, _, ⟨T5, L5, k5, n5⟩, -, X5, ⟨Lc5, hQ5, l5, y5, z5⟩, st5⟩ := X0.privateBack hx (y := (⟨"com/example/nested_path/nestedpath/pattern/StringPattern$Loops", "around", "(I)I"⟩ : MethodName)) hown (mvT hZ (hw _ (List.mem_of_getElem? (i := 35) rfl))) (mvT hZ (hw _ (List.mem_of_getElem? (i := 36) rfl))) (mvT hZ (own_sel (hw _ (List.mem_of_getElem? (i := 21) rfl)) (hw _ (List.mem_of_getElem? (i := 37) rfl)) (hw _ (List.mem_of_getElem? (i := 36) rfl)))) (Cond.privateMethod_at (mvP hZ (hw _ (List.mem_of_getElem? (i := 37) rfl)) (args := #[]))) (mvT hZ (hw _ (List.mem_of_getElem? (i := 38) rfl))) (by decide) (backOf (W := 0) (rm6 l Z a0 hw [] a1 p2 f0 f1 f2 f3 l0 l1 l2 l3 op cnt h0 n0 Z0 B) hZ (hw _ (List.mem_of_getElem? (i := 38) rfl)) (hw _ (List.mem_of_getElem? (i := 2) rfl)) (by decide) (by decide)) (g := (mkF m 5 #[.val (.ref a1), .val (.int p2), .val (.int p3), .val (.ref a4), .val (.int (0 : Int32)), .unset] [(.int p2), (.ref a1)])) rfl (by rw [hml]; rfl) (Steps.refl _) (a := a1) (by rw [e0]; exact q5) q5' (argsL := [(.int p2)]) (rest := []) (lenOf pdw_2 rfl) rfl (by show 2 * 0 + _ ≤ _; exact Nat.le_of_eq rfl) (hb hby d5_5) (fun _ _ => ⟨rfl, e0, (by decide : 0 + 0 ≤ _), (by decide : 0 + 0 ≤ _)⟩)
  dsimp only [Pt.U, Pt.locs, Pt.cells, Pt.slots] at X5 l5 y5 z5 st5 hQ5
  subst l5 y5 z5
  rw [hR] at hQ5
  obtain ⟨rfl, N5q, hh5⟩ := hQ5
  have N5 := Fr.app N0 N5q
  -- ✋ yours, out of the call's Q: hin18 : ¬ (R < 0 ∨ cl_a4.slots.size ≤ (R).toNatClampNeg)
  -- ✋ yours, out of the call's Q: hat18 : cl_a4.slots[(R).toNatClampNeg]? = some (.int tv)
  -- ✋ yours: Ar_a4 must speak of h0 here (carried over the writes ahead of it)
  obtain ⟨T8, X8, e8, st8⟩ := getF X5 hx hZ hown (host := "") (Or.inl (hw _ (List.mem_of_getElem? (i := 14) rfl))) Via.refl hh5 (F_outers_a1) (g := (mkF m 27 #[.val (.ref a1), .val (.int p2), .val (.int p3), .val (.ref a4), .val (.int (1 : Int32)), .val (.int R)] [(.ref a1)])) rfl rfl (hb hby d5_27)
  -- ✋ yours, out of the call's Q: hin32 : ¬ (R < 0 ∨ cl_o5.slots.size ≤ (R).toNatClampNeg)
  -- ✋ yours, out of the call's Q: hat32 : cl_o5.slots[(R).toNatClampNeg]? = some (.int ov)
  -- ✋ yours: Ar_o5 must speak of h0 here (carried over the writes ahead of it)
  obtain ⟨fs, hr, hrun, hended, hW, hsame⟩ := X8.leave (v := some (.int (1 : Int32))) (fun h => by rw [Bd.returns] at h; cases h)
  refine ⟨_, _, pre0 _ ?_, hrun, hended, _, _, rfl, ?_, ⟨_, rfl⟩, hW, hsame.mono (by decide) (by decide)⟩
  -- 4. STEPS
  · show Steps p.tables e below (s₁.setTop (mkF m 0 #[.val (.ref a1), .val (.int p2), .val (.int p3), .val (.ref a4), .unset, .unset] [])) _
    refine XS.iconst X0.here hx rfl (hb hby d5_0) ?_
    show Steps p.tables e below (s₁.setTop (mkF m 1 #[.val (.ref a1), .val (.int p2), .val (.int p3), .val (.ref a4), .unset, .unset] [(.int (0 : Int32))])) _
    refine XS.istore X0.here hx rfl (hb hby d5_1) rfl (l' := #[.val (.ref a1), .val (.int p2), .val (.int p3), .val (.ref a4), .val (.int (0 : Int32)), .unset]) rfl ?_
    show Steps p.tables e below (s₁.setTop (mkF m 3 #[.val (.ref a1), .val (.int p2), .val (.int p3), .val (.ref a4), .val (.int (0 : Int32)), .unset] [])) _
    refine XS.aloadN X0.here hx rfl (hb hby d5_3) rfl rfl ?_
    show Steps p.tables e below (s₁.setTop (mkF m 4 #[.val (.ref a1), .val (.int p2), .val (.int p3), .val (.ref a4), .val (.int (0 : Int32)), .unset] [(.ref a1)])) _
    refine XS.iloadN X0.here hx rfl (hb hby d5_4) rfl ?_
    show Steps p.tables e below (s₁.setTop (mkF m 5 #[.val (.ref a1), .val (.int p2), .val (.int p3), .val (.ref a4), .val (.int (0 : Int32)), .unset] [(.int p2), (.ref a1)])) _
    refine st5.trans ?_
    show Steps p.tables e below (T5.setTop (mkF m 8 #[.val (.ref a1), .val (.int p2), .val (.int p3), .val (.ref a4), .val (.int (0 : Int32)), .unset] [(.int R)])) _
    refine XS.istore X5.here hx rfl (hb hby d5_8) rfl (l' := #[.val (.ref a1), .val (.int p2), .val (.int p3), .val (.ref a4), .val (.int (0 : Int32)), .val (.int R)]) rfl ?_
    show Steps p.tables e below (T5.setTop (mkF m 10 #[.val (.ref a1), .val (.int p2), .val (.int p3), .val (.ref a4), .val (.int (0 : Int32)), .val (.int R)] [])) _
    refine XS.iload X5.here hx rfl (hb hby d5_10) rfl ?_
    show Steps p.tables e below (T5.setTop (mkF m 12 #[.val (.ref a1), .val (.int p2), .val (.int p3), .val (.ref a4), .val (.int (0 : Int32)), .val (.int R)] [(.int R)])) _
    refine XS.ifNo X5.here hx rfl (hb hby d5_12) rfl ((if0 _ _).trans (flt hq1).1) ?_
    show Steps p.tables e below (T5.setTop (mkF m 15 #[.val (.ref a1), .val (.int p2), .val (.int p3), .val (.ref a4), .val (.int (0 : Int32)), .val (.int R)] [])) _
    refine XS.aloadN X5.here hx rfl (hb hby d5_15) rfl rfl ?_
    show Steps p.tables e below (T5.setTop (mkF m 16 #[.val (.ref a1), .val (.int p2), .val (.int p3), .val (.ref a4), .val (.int (0 : Int32)), .val (.int R)] [(.ref a4)])) _
    refine XS.iload X5.here hx rfl (hb hby d5_16) rfl ?_
    show Steps p.tables e below (T5.setTop (mkF m 18 #[.val (.ref a1), .val (.int p2), .val (.int p3), .val (.ref a4), .val (.int (0 : Int32)), .val (.int R)] [(.int R), (.ref a4)])) _
    refine X5.iaload hx (j := R) (v := (.int tv)) (by rw [hh5]; exact Ar_a4.1) (State.isArrayOf_alike hZ.alike Ar_a4.2.1) Ar_a4.2.2 hin18_1 hat18_1 (g := (mkF m 18 #[.val (.ref a1), .val (.int p2), .val (.int p3), .val (.ref a4), .val (.int (0 : Int32)), .val (.int R)] [(.int R), (.ref a4)])) rfl rfl (hb hby d5_18) _ ?_
    show Steps p.tables e below (T5.setTop (mkF m 19 #[.val (.ref a1), .val (.int p2), .val (.int p3), .val (.ref a4), .val (.int (0 : Int32)), .val (.int R)] [(.int tv)])) _
    refine XS.iloadN X5.here hx rfl (hb hby d5_19) rfl ?_
    show Steps p.tables e below (T5.setTop (mkF m 20 #[.val (.ref a1), .val (.int p2), .val (.int p3), .val (.ref a4), .val (.int (0 : Int32)), .val (.int R)] [(.int p3), (.int tv)])) _
    refine XS.icmpNo X5.here hx rfl (hb hby d5_20) rfl (teq hc20_1).2 ?_
    show Steps p.tables e below (T5.setTop (mkF m 23 #[.val (.ref a1), .val (.int p2), .val (.int p3), .val (.ref a4), .val (.int (0 : Int32)), .val (.int R)] [])) _
    refine XS.iinc X5.here hx rfl (hb hby d5_23) rfl (l' := #[.val (.ref a1), .val (.int p2), .val (.int p3), .val (.ref a4), .val (.int (1 : Int32)), .val (.int R)]) rfl ?_
    show Steps p.tables e below (T5.setTop (mkF m 26 #[.val (.ref a1), .val (.int p2), .val (.int p3), .val (.ref a4), .val (.int (1 : Int32)), .val (.int R)] [])) _
    refine XS.aloadN X5.here hx rfl (hb hby d5_26) rfl rfl ?_
    show Steps p.tables e below (T5.setTop (mkF m 27 #[.val (.ref a1), .val (.int p2), .val (.int p3), .val (.ref a4), .val (.int (1 : Int32)), .val (.int R)] [(.ref a1)])) _
    refine st8 _ ?_
    show Steps p.tables e below (T8.setTop (mkF m 30 #[.val (.ref a1), .val (.int p2), .val (.int p3), .val (.ref a4), .val (.int (1 : Int32)), .val (.int R)] [(.ref o5)])) _
    refine XS.iload X8.here hx rfl (hb hby d5_30) rfl ?_
    show Steps p.tables e below (T8.setTop (mkF m 32 #[.val (.ref a1), .val (.int p2), .val (.int p3), .val (.ref a4), .val (.int (1 : Int32)), .val (.int R)] [(.int R), (.ref o5)])) _
    refine X8.iaload hx (j := R) (v := (.int ov)) (by rw [e8]; exact Ar_o5.1) (State.isArrayOf_alike hZ.alike Ar_o5.2.1) Ar_o5.2.2 hin32_1 hat32_1 (g := (mkF m 32 #[.val (.ref a1), .val (.int p2), .val (.int p3), .val (.ref a4), .val (.int (1 : Int32)), .val (.int R)] [(.int R), (.ref o5)])) rfl rfl (hb hby d5_32) _ ?_
    show Steps p.tables e below (T8.setTop (mkF m 33 #[.val (.ref a1), .val (.int p2), .val (.int p3), .val (.ref a4), .val (.int (1 : Int32)), .val (.int R)] [(.int ov)])) _
    refine XS.istore X8.here hx rfl (hb hby d5_33) rfl (l' := #[.val (.ref a1), .val (.int p2), .val (.int p3), .val (.ref a4), .val (.int (1 : Int32)), .val (.int ov)]) rfl ?_
    show Steps p.tables e below (T8.setTop (mkF m 35 #[.val (.ref a1), .val (.int p2), .val (.int p3), .val (.ref a4), .val (.int (1 : Int32)), .val (.int ov)] [])) _
    refine XS.goto X8.here hx rfl (pc0 := 35) (pc' := 10) rfl (hb hby d5_35) (by decide) (by decide) ?_
    show Steps p.tables e below (T8.setTop (mkF m 10 #[.val (.ref a1), .val (.int p2), .val (.int p3), .val (.ref a4), .val (.int (1 : Int32)), .val (.int ov)] [])) _
    refine XS.iload X8.here hx rfl (hb hby d5_10) rfl ?_
    show Steps p.tables e below (T8.setTop (mkF m 12 #[.val (.ref a1), .val (.int p2), .val (.int p3), .val (.ref a4), .val (.int (1 : Int32)), .val (.int ov)] [(.int ov)])) _
    refine XS.ifYes X8.here hx rfl (pc0 := 12) (pc' := 38) rfl (hb hby d5_12) rfl ((if0 _ _).trans (tlt hc12_1).1) (by decide) (by decide) ?_
    show Steps p.tables e below (T8.setTop (mkF m 38 #[.val (.ref a1), .val (.int p2), .val (.int p3), .val (.ref a4), .val (.int (1 : Int32)), .val (.int ov)] [])) _
    refine XS.iload X8.here hx rfl (hb hby d5_38) rfl ?_
    show Steps p.tables e below (T8.setTop (mkF m 40 #[.val (.ref a1), .val (.int p2), .val (.int p3), .val (.ref a4), .val (.int (1 : Int32)), .val (.int ov)] [(.int (1 : Int32))])) _
    exact retI X8 hx Bd.returns (hb hby d5_40) hr      -- retI stands in the head ('lawwalk <made dir>' prints it)
  · show Q8 (1 : Int32) h0 n0 _ T8.heap _
    rw [e8]
    exact ⟨rfl, N5, by first | rfl | assumption⟩
set_option maxRecDepth 65536 in
set_option maxHeartbeats 40000000 in
theorem rm5_4 (l : Launch) (Z : State) (a0 : Array Value) (hw : ∀ d ∈ tables_1, d.before a0 Z = true) (ws : List Jvm.Cond) (a1 : Addr) (p2 : Int32) (p3 : Int32) (a4 : Addr) (f0 f1 f2 f3 l0 l1 l2 l3 t0 t1 t2 t3 : Int32) (op cnt : Int32) (kt : ClassId) (h0 : Heap) (n0 : Nat) (Z0 : n0 ≤ h0.size) (B : LP Z h0 n0 a1 [.int f0, .int f1, .int f2, .int f3] [.int l0, .int l1, .int l2, .int l3] [.int (-(1 : Int32)), .int (0 : Int32), .int (0 : Int32), .int (0 : Int32)] op cnt) (V : Arv Z h0 a4 kt .int 4 [.int t0, .int t1, .int t2, .int t3] (.int 0)) (R : Int32) (hR : own_ar (own_bs f0 f1 f2 f3 p2) l0 l1 l2 l3 p2 = R) (hq1 : ¬ (R < (0 : Int32))) (ni : Nat) (hI : R = Int32.ofNat ni) (hni : ni < 4) (tv : Int32) (xt : ([.int t0, .int t1, .int t2, .int t3] : List Value).getD ni (.int 0) = .int tv) (hc20_1 : tv = p3) (ov : Int32) (xo : ([.int (-(1 : Int32)), .int (0 : Int32), .int (0 : Int32), .int (0 : Int32)] : List Value).getD ni (.int 0) = .int ov) (hc12_1 : ¬ (ov < (0 : Int32))) (no : Nat) (hO : ov = Int32.ofNat no) (hno : no < 4) (tw : Int32) (yt : ([.int t0, .int t1, .int t2, .int t3] : List Value).getD no (.int 0) = .int tw) (hc20_2 : ¬ (tw = p3)) :
    MetFree l (⟨"com/example/nested_path/nestedpath/pattern/StringPattern$Loops", "emptyTurns", "(II[I)I"⟩ : MethodName) (head1 (Jvm.Cond.code (⟨"com/example/nested_path/nestedpath/pattern/StringPattern$Loops", "emptyTurns", "(II[I)I"⟩ : MethodName) prog_62_method_6_code 6 (some .int) :: ws) ({ frames := 3, cells := 0, slots := 0, locals := 100 } : Room)) (fun a U => a = #[(.ref a1), (.int p2), (.int p3), (.ref a4)] ∧ Z.Warmed39 U.vm ∧ U.heap = h0) (fun _ _ _ _ _ => True) (fun _ U o U' => ∃ v L, o = .returned v ∧ Q8 (1 : Int32) h0 n0 v U'.heap L ∧ FrameEnd U o U' L ({ frames := 3, cells := 0, slots := 0, locals := 100 } : Room).cells ({ frames := 3, cells := 0, slots := 0, locals := 100 } : Room).slots) := by
  refine MetFree.of_bodySF (plainFor_of_name pn_5) hisR ?_
  intro p e s m args below meth c s₁ Bd hml0 hP hK
  obtain ⟨rfl, hZ, hh⟩ := hP
  have B0 := B
  have V0 := V
  obtain ⟨f5, l5, o5, kf, kl, ko, E_a1, F_firsts_a1, F_lasts_a1, F_outers_a1, F_open_a1, F_count_a1, Vf, Vl, Vo, g_a1, g_f5, g_l5, g_o5, naf, nal, nao, nfl, nfo, nlo, lf, ll, lo⟩ := B0
  obtain ⟨cl_a4, Ar_a4, q_a4, S_a4, N_a4, H_a4, G_a4⟩ := V0
  obtain ⟨cl_o5, Ar_o5, q_o5, S_o5, N_o5, H_o5, G_o5⟩ := Vo
  have hin18_1 := inb_of S_a4 (j := R) (by rw [hI]; exact own_inb hni)
  have hat18_1 : cl_a4.slots[(R).toNatClampNeg]? = some (.int tv) := Has.at H_a4 hin18_1 (by rw [hI, own_clamp (by omega)]; exact xt)
  have hin32_1 := inb_of S_o5 (j := R) (by rw [hI]; exact own_inb hni)
  have hat32_1 : cl_o5.slots[(R).toNatClampNeg]? = some (.int ov) := Has.at H_o5 hin32_1 (by rw [hI, own_clamp (by omega)]; exact xo)
  have hin18_2 := inb_of S_a4 (j := ov) (by rw [hO]; exact own_inb hno)
  have hat18_2 : cl_a4.slots[(ov).toNatClampNeg]? = some (.int tw) := Has.at H_a4 hin18_2 (by rw [hO, own_clamp (by omega)]; exact yt)
  have hx := Bd.exec
  have hby := Bd.bytes
  have hml : c.maxLocals = 6 := hml0
  have hown : s.vm.findClass "com/example/nested_path/nestedpath/pattern/StringPattern$Loops" = some m.cls := findClass_of_methodNamed Bd.named
  have hnm := (name_of_methodNamed Bd.named Bd.method).1
  have X0 : Stand p l e ({ frames := 3, cells := 0, slots := 0, locals := 100 } : Room) s m #[(.ref a1), (.int p2), (.int p3), (.ref a4)] below meth c s₁ [] 0 0 := Stand.of_body Bd
  have e0 : s₁.heap = h0 := by rw [← hh, Bd.state]; rfl
  have N0 := Fr.nil n0
  have pre0 : ∀ t, Steps p.tables e below (s₁.setTop (mkF m 0 #[.val (.ref a1), .val (.int p2), .val (.int p3), .val (.ref a4), .unset, .unset] [])) t → Steps p.tables e below (s₁.setTop (entryFrame m #[(.ref a1), (.int p2), (.int p3), (.ref a4)] 6)) t := fun t k => castTop (ef_5 m a1 p2 p3 a4) k
  -- 3. LAWS
  -- pc 5: a private method: rm6
  obtain ⟨cq5, q5, q5'⟩ := E_a1.cell
  obtain ⟨_, _, ⟨T5, L5, k5, n5⟩, -, X5, ⟨Lc5, hQ5, l5, y5, z5⟩, st5⟩ := X0.privateBack hx (y := (⟨"com/example/nested_path/nestedpath/pattern/StringPattern$Loops", "around", "(I)I"⟩ : MethodName)) hown (mvT hZ (hw _ (List.mem_of_getElem? (i := 35) rfl))) (mvT hZ (hw _ (List.mem_of_getElem? (i := 36) rfl))) (mvT hZ (own_sel (hw _ (List.mem_of_getElem? (i := 21) rfl)) (hw _ (List.mem_of_getElem? (i := 37) rfl)) (hw _ (List.mem_of_getElem? (i := 36) rfl)))) (Cond.privateMethod_at (mvP hZ (hw _ (List.mem_of_getElem? (i := 37) rfl)) (args := #[]))) (mvT hZ (hw _ (List.mem_of_getElem? (i := 38) rfl))) (by decide) (backOf (W := 0) (rm6 l Z a0 hw [] a1 p2 f0 f1 f2 f3 l0 l1 l2 l3 op cnt h0 n0 Z0 B) hZ (hw _ (List.mem_of_getElem? (i := 38) rfl)) (hw _ (List.mem_of_getElem? (i := 2) rfl)) (by decide) (by decide)) (g := (mkF m 5 #[.val (.ref a1), .val (.int p2), .val (.int p3), .val (.ref a4), .val (.int (0 : Int32)), .unset] [(.int p2), (.ref a1)])) rfl (by rw [hml]; rfl) (Steps.refl _) (a := a1) (by rw [e0]; exact q5) q5' (argsL := [(.int p2)]) (rest := []) (lenOf pdw_2 rfl) rfl (by show 2 * 0 + _ ≤ _; exact Nat.le_of_eq rfl) (hb hby d5_5) (fun _ _ => ⟨rfl, e0, (by decide : 0 + 0 ≤ _), (by decide : 0 + 0 ≤ _)⟩)
  dsimp only [Pt.U, Pt.locs, Pt.cells, Pt.slots] at X5 l5 y5 z5 st5 hQ5
  subst l5 y5 z5
  rw [hR] at hQ5
  obtain ⟨rfl, N5q, hh5⟩ := hQ5
  have N5 := Fr.app N0 N5q
  -- ✋ yours, out of the call's Q: hin18 : ¬ (R < 0 ∨ cl_a4.slots.size ≤ (R).toNatClampNeg)
  -- ✋ yours, out of the call's Q: hat18 : cl_a4.slots[(R).toNatClampNeg]? = some (.int tv)
  -- ✋ yours: Ar_a4 must speak of h0 here (carried over the writes ahead of it)
  obtain ⟨T8, X8, e8, st8⟩ := getF X5 hx hZ hown (host := "") (Or.inl (hw _ (List.mem_of_getElem? (i := 14) rfl))) Via.refl hh5 (F_outers_a1) (g := (mkF m 27 #[.val (.ref a1), .val (.int p2), .val (.int p3), .val (.ref a4), .val (.int (1 : Int32)), .val (.int R)] [(.ref a1)])) rfl rfl (hb hby d5_27)
  -- ✋ yours, out of the call's Q: hin32 : ¬ (R < 0 ∨ cl_o5.slots.size ≤ (R).toNatClampNeg)
  -- ✋ yours, out of the call's Q: hat32 : cl_o5.slots[(R).toNatClampNeg]? = some (.int ov)
  -- ✋ yours: Ar_o5 must speak of h0 here (carried over the writes ahead of it)
  -- ✋ yours: Ar_a4 must speak of h0 here (carried over the writes ahead of it)
  obtain ⟨fs, hr, hrun, hended, hW, hsame⟩ := X8.leave (v := some (.int (1 : Int32))) (fun h => by rw [Bd.returns] at h; cases h)
  refine ⟨_, _, pre0 _ ?_, hrun, hended, _, _, rfl, ?_, ⟨_, rfl⟩, hW, hsame.mono (by decide) (by decide)⟩
  -- 4. STEPS
  · show Steps p.tables e below (s₁.setTop (mkF m 0 #[.val (.ref a1), .val (.int p2), .val (.int p3), .val (.ref a4), .unset, .unset] [])) _
    refine XS.iconst X0.here hx rfl (hb hby d5_0) ?_
    show Steps p.tables e below (s₁.setTop (mkF m 1 #[.val (.ref a1), .val (.int p2), .val (.int p3), .val (.ref a4), .unset, .unset] [(.int (0 : Int32))])) _
    refine XS.istore X0.here hx rfl (hb hby d5_1) rfl (l' := #[.val (.ref a1), .val (.int p2), .val (.int p3), .val (.ref a4), .val (.int (0 : Int32)), .unset]) rfl ?_
    show Steps p.tables e below (s₁.setTop (mkF m 3 #[.val (.ref a1), .val (.int p2), .val (.int p3), .val (.ref a4), .val (.int (0 : Int32)), .unset] [])) _
    refine XS.aloadN X0.here hx rfl (hb hby d5_3) rfl rfl ?_
    show Steps p.tables e below (s₁.setTop (mkF m 4 #[.val (.ref a1), .val (.int p2), .val (.int p3), .val (.ref a4), .val (.int (0 : Int32)), .unset] [(.ref a1)])) _
    refine XS.iloadN X0.here hx rfl (hb hby d5_4) rfl ?_
    show Steps p.tables e below (s₁.setTop (mkF m 5 #[.val (.ref a1), .val (.int p2), .val (.int p3), .val (.ref a4), .val (.int (0 : Int32)), .unset] [(.int p2), (.ref a1)])) _
    refine st5.trans ?_
    show Steps p.tables e below (T5.setTop (mkF m 8 #[.val (.ref a1), .val (.int p2), .val (.int p3), .val (.ref a4), .val (.int (0 : Int32)), .unset] [(.int R)])) _
    refine XS.istore X5.here hx rfl (hb hby d5_8) rfl (l' := #[.val (.ref a1), .val (.int p2), .val (.int p3), .val (.ref a4), .val (.int (0 : Int32)), .val (.int R)]) rfl ?_
    show Steps p.tables e below (T5.setTop (mkF m 10 #[.val (.ref a1), .val (.int p2), .val (.int p3), .val (.ref a4), .val (.int (0 : Int32)), .val (.int R)] [])) _
    refine XS.iload X5.here hx rfl (hb hby d5_10) rfl ?_
    show Steps p.tables e below (T5.setTop (mkF m 12 #[.val (.ref a1), .val (.int p2), .val (.int p3), .val (.ref a4), .val (.int (0 : Int32)), .val (.int R)] [(.int R)])) _
    refine XS.ifNo X5.here hx rfl (hb hby d5_12) rfl ((if0 _ _).trans (flt hq1).1) ?_
    show Steps p.tables e below (T5.setTop (mkF m 15 #[.val (.ref a1), .val (.int p2), .val (.int p3), .val (.ref a4), .val (.int (0 : Int32)), .val (.int R)] [])) _
    refine XS.aloadN X5.here hx rfl (hb hby d5_15) rfl rfl ?_
    show Steps p.tables e below (T5.setTop (mkF m 16 #[.val (.ref a1), .val (.int p2), .val (.int p3), .val (.ref a4), .val (.int (0 : Int32)), .val (.int R)] [(.ref a4)])) _
    refine XS.iload X5.here hx rfl (hb hby d5_16) rfl ?_
    show Steps p.tables e below (T5.setTop (mkF m 18 #[.val (.ref a1), .val (.int p2), .val (.int p3), .val (.ref a4), .val (.int (0 : Int32)), .val (.int R)] [(.int R), (.ref a4)])) _
    refine X5.iaload hx (j := R) (v := (.int tv)) (by rw [hh5]; exact Ar_a4.1) (State.isArrayOf_alike hZ.alike Ar_a4.2.1) Ar_a4.2.2 hin18_1 hat18_1 (g := (mkF m 18 #[.val (.ref a1), .val (.int p2), .val (.int p3), .val (.ref a4), .val (.int (0 : Int32)), .val (.int R)] [(.int R), (.ref a4)])) rfl rfl (hb hby d5_18) _ ?_
    show Steps p.tables e below (T5.setTop (mkF m 19 #[.val (.ref a1), .val (.int p2), .val (.int p3), .val (.ref a4), .val (.int (0 : Int32)), .val (.int R)] [(.int tv)])) _
    refine XS.iloadN X5.here hx rfl (hb hby d5_19) rfl ?_
    show Steps p.tables e below (T5.setTop (mkF m 20 #[.val (.ref a1), .val (.int p2), .val (.int p3), .val (.ref a4), .val (.int (0 : Int32)), .val (.int R)] [(.int p3), (.int tv)])) _
    refine XS.icmpNo X5.here hx rfl (hb hby d5_20) rfl (teq hc20_1).2 ?_
    show Steps p.tables e below (T5.setTop (mkF m 23 #[.val (.ref a1), .val (.int p2), .val (.int p3), .val (.ref a4), .val (.int (0 : Int32)), .val (.int R)] [])) _
    refine XS.iinc X5.here hx rfl (hb hby d5_23) rfl (l' := #[.val (.ref a1), .val (.int p2), .val (.int p3), .val (.ref a4), .val (.int (1 : Int32)), .val (.int R)]) rfl ?_
    show Steps p.tables e below (T5.setTop (mkF m 26 #[.val (.ref a1), .val (.int p2), .val (.int p3), .val (.ref a4), .val (.int (1 : Int32)), .val (.int R)] [])) _
    refine XS.aloadN X5.here hx rfl (hb hby d5_26) rfl rfl ?_
    show Steps p.tables e below (T5.setTop (mkF m 27 #[.val (.ref a1), .val (.int p2), .val (.int p3), .val (.ref a4), .val (.int (1 : Int32)), .val (.int R)] [(.ref a1)])) _
    refine st8 _ ?_
    show Steps p.tables e below (T8.setTop (mkF m 30 #[.val (.ref a1), .val (.int p2), .val (.int p3), .val (.ref a4), .val (.int (1 : Int32)), .val (.int R)] [(.ref o5)])) _
    refine XS.iload X8.here hx rfl (hb hby d5_30) rfl ?_
    show Steps p.tables e below (T8.setTop (mkF m 32 #[.val (.ref a1), .val (.int p2), .val (.int p3), .val (.ref a4), .val (.int (1 : Int32)), .val (.int R)] [(.int R), (.ref o5)])) _
    refine X8.iaload hx (j := R) (v := (.int ov)) (by rw [e8]; exact Ar_o5.1) (State.isArrayOf_alike hZ.alike Ar_o5.2.1) Ar_o5.2.2 hin32_1 hat32_1 (g := (mkF m 32 #[.val (.ref a1), .val (.int p2), .val (.int p3), .val (.ref a4), .val (.int (1 : Int32)), .val (.int R)] [(.int R), (.ref o5)])) rfl rfl (hb hby d5_32) _ ?_
    show Steps p.tables e below (T8.setTop (mkF m 33 #[.val (.ref a1), .val (.int p2), .val (.int p3), .val (.ref a4), .val (.int (1 : Int32)), .val (.int R)] [(.int ov)])) _
    refine XS.istore X8.here hx rfl (hb hby d5_33) rfl (l' := #[.val (.ref a1), .val (.int p2), .val (.int p3), .val (.ref a4), .val (.int (1 : Int32)), .val (.int ov)]) rfl ?_
    show Steps p.tables e below (T8.setTop (mkF m 35 #[.val (.ref a1), .val (.int p2), .val (.int p3), .val (.ref a4), .val (.int (1 : Int32)), .val (.int ov)] [])) _
    refine XS.goto X8.here hx rfl (pc0 := 35) (pc' := 10) rfl (hb hby d5_35) (by decide) (by decide) ?_
    show Steps p.tables e below (T8.setTop (mkF m 10 #[.val (.ref a1), .val (.int p2), .val (.int p3), .val (.ref a4), .val (.int (1 : Int32)), .val (.int ov)] [])) _
    refine XS.iload X8.here hx rfl (hb hby d5_10) rfl ?_
    show Steps p.tables e below (T8.setTop (mkF m 12 #[.val (.ref a1), .val (.int p2), .val (.int p3), .val (.ref a4), .val (.int (1 : Int32)), .val (.int ov)] [(.int ov)])) _
    refine XS.ifNo X8.here hx rfl (hb hby d5_12) rfl ((if0 _ _).trans (flt hc12_1).1) ?_
    show Steps p.tables e below (T8.setTop (mkF m 15 #[.val (.ref a1), .val (.int p2), .val (.int p3), .val (.ref a4), .val (.int (1 : Int32)), .val (.int ov)] [])) _
    refine XS.aloadN X8.here hx rfl (hb hby d5_15) rfl rfl ?_
    show Steps p.tables e below (T8.setTop (mkF m 16 #[.val (.ref a1), .val (.int p2), .val (.int p3), .val (.ref a4), .val (.int (1 : Int32)), .val (.int ov)] [(.ref a4)])) _
    refine XS.iload X8.here hx rfl (hb hby d5_16) rfl ?_
    show Steps p.tables e below (T8.setTop (mkF m 18 #[.val (.ref a1), .val (.int p2), .val (.int p3), .val (.ref a4), .val (.int (1 : Int32)), .val (.int ov)] [(.int ov), (.ref a4)])) _
    refine X8.iaload hx (j := ov) (v := (.int tw)) (by rw [e8]; exact Ar_a4.1) (State.isArrayOf_alike hZ.alike Ar_a4.2.1) Ar_a4.2.2 hin18_2 hat18_2 (g := (mkF m 18 #[.val (.ref a1), .val (.int p2), .val (.int p3), .val (.ref a4), .val (.int (1 : Int32)), .val (.int ov)] [(.int ov), (.ref a4)])) rfl rfl (hb hby d5_18) _ ?_
    show Steps p.tables e below (T8.setTop (mkF m 19 #[.val (.ref a1), .val (.int p2), .val (.int p3), .val (.ref a4), .val (.int (1 : Int32)), .val (.int ov)] [(.int tw)])) _
    refine XS.iloadN X8.here hx rfl (hb hby d5_19) rfl ?_
    show Steps p.tables e below (T8.setTop (mkF m 20 #[.val (.ref a1), .val (.int p2), .val (.int p3), .val (.ref a4), .val (.int (1 : Int32)), .val (.int ov)] [(.int p3), (.int tw)])) _
    refine XS.icmpYes X8.here hx rfl (pc0 := 20) (pc' := 38) rfl (hb hby d5_20) rfl (feq hc20_2).2 (by decide) (by decide) ?_
    show Steps p.tables e below (T8.setTop (mkF m 38 #[.val (.ref a1), .val (.int p2), .val (.int p3), .val (.ref a4), .val (.int (1 : Int32)), .val (.int ov)] [])) _
    refine XS.iload X8.here hx rfl (hb hby d5_38) rfl ?_
    show Steps p.tables e below (T8.setTop (mkF m 40 #[.val (.ref a1), .val (.int p2), .val (.int p3), .val (.ref a4), .val (.int (1 : Int32)), .val (.int ov)] [(.int (1 : Int32))])) _
    exact retI X8 hx Bd.returns (hb hby d5_40) hr      -- retI stands in the head ('lawwalk <made dir>' prints it)
  · show Q8 (1 : Int32) h0 n0 _ T8.heap _
    rw [e8]
    exact ⟨rfl, N5, by first | rfl | assumption⟩
set_option maxRecDepth 65536 in
set_option maxHeartbeats 40000000 in
theorem rm5_5 (l : Launch) (Z : State) (a0 : Array Value) (hw : ∀ d ∈ tables_1, d.before a0 Z = true) (ws : List Jvm.Cond) (a1 : Addr) (p2 : Int32) (p3 : Int32) (a4 : Addr) (f0 f1 f2 f3 l0 l1 l2 l3 t0 t1 t2 t3 : Int32) (op cnt : Int32) (kt : ClassId) (h0 : Heap) (n0 : Nat) (Z0 : n0 ≤ h0.size) (B : LP Z h0 n0 a1 [.int f0, .int f1, .int f2, .int f3] [.int l0, .int l1, .int l2, .int l3] [.int (-(1 : Int32)), .int (0 : Int32), .int (0 : Int32), .int (0 : Int32)] op cnt) (V : Arv Z h0 a4 kt .int 4 [.int t0, .int t1, .int t2, .int t3] (.int 0)) (R : Int32) (hR : own_ar (own_bs f0 f1 f2 f3 p2) l0 l1 l2 l3 p2 = R) (hq1 : ¬ (R < (0 : Int32))) (ni : Nat) (hI : R = Int32.ofNat ni) (hni : ni < 4) (tv : Int32) (xt : ([.int t0, .int t1, .int t2, .int t3] : List Value).getD ni (.int 0) = .int tv) (hc20_1 : tv = p3) (ov : Int32) (xo : ([.int (-(1 : Int32)), .int (0 : Int32), .int (0 : Int32), .int (0 : Int32)] : List Value).getD ni (.int 0) = .int ov) (hc12_1 : ¬ (ov < (0 : Int32))) (no : Nat) (hO : ov = Int32.ofNat no) (hno : no < 4) (tw : Int32) (yt : ([.int t0, .int t1, .int t2, .int t3] : List Value).getD no (.int 0) = .int tw) (hc20_2 : tw = p3) (ow : Int32) (yo : ([.int (-(1 : Int32)), .int (0 : Int32), .int (0 : Int32), .int (0 : Int32)] : List Value).getD no (.int 0) = .int ow) (hc12_2 : ow < (0 : Int32)) :
    MetFree l (⟨"com/example/nested_path/nestedpath/pattern/StringPattern$Loops", "emptyTurns", "(II[I)I"⟩ : MethodName) (head1 (Jvm.Cond.code (⟨"com/example/nested_path/nestedpath/pattern/StringPattern$Loops", "emptyTurns", "(II[I)I"⟩ : MethodName) prog_62_method_6_code 6 (some .int) :: ws) ({ frames := 3, cells := 0, slots := 0, locals := 100 } : Room)) (fun a U => a = #[(.ref a1), (.int p2), (.int p3), (.ref a4)] ∧ Z.Warmed39 U.vm ∧ U.heap = h0) (fun _ _ _ _ _ => True) (fun _ U o U' => ∃ v L, o = .returned v ∧ Q8 (2 : Int32) h0 n0 v U'.heap L ∧ FrameEnd U o U' L ({ frames := 3, cells := 0, slots := 0, locals := 100 } : Room).cells ({ frames := 3, cells := 0, slots := 0, locals := 100 } : Room).slots) := by
  refine MetFree.of_bodySF (plainFor_of_name pn_5) hisR ?_
  intro p e s m args below meth c s₁ Bd hml0 hP hK
  obtain ⟨rfl, hZ, hh⟩ := hP
  have B0 := B
  have V0 := V
  obtain ⟨f5, l5, o5, kf, kl, ko, E_a1, F_firsts_a1, F_lasts_a1, F_outers_a1, F_open_a1, F_count_a1, Vf, Vl, Vo, g_a1, g_f5, g_l5, g_o5, naf, nal, nao, nfl, nfo, nlo, lf, ll, lo⟩ := B0
  obtain ⟨cl_a4, Ar_a4, q_a4, S_a4, N_a4, H_a4, G_a4⟩ := V0
  obtain ⟨cl_o5, Ar_o5, q_o5, S_o5, N_o5, H_o5, G_o5⟩ := Vo
  have hin18_1 := inb_of S_a4 (j := R) (by rw [hI]; exact own_inb hni)
  have hat18_1 : cl_a4.slots[(R).toNatClampNeg]? = some (.int tv) := Has.at H_a4 hin18_1 (by rw [hI, own_clamp (by omega)]; exact xt)
  have hin32_1 := inb_of S_o5 (j := R) (by rw [hI]; exact own_inb hni)
  have hat32_1 : cl_o5.slots[(R).toNatClampNeg]? = some (.int ov) := Has.at H_o5 hin32_1 (by rw [hI, own_clamp (by omega)]; exact xo)
  have hin18_2 := inb_of S_a4 (j := ov) (by rw [hO]; exact own_inb hno)
  have hat18_2 : cl_a4.slots[(ov).toNatClampNeg]? = some (.int tw) := Has.at H_a4 hin18_2 (by rw [hO, own_clamp (by omega)]; exact yt)
  have hin32_2 := inb_of S_o5 (j := ov) (by rw [hO]; exact own_inb hno)
  have hat32_2 : cl_o5.slots[(ov).toNatClampNeg]? = some (.int ow) := Has.at H_o5 hin32_2 (by rw [hO, own_clamp (by omega)]; exact yo)
  have hx := Bd.exec
  have hby := Bd.bytes
  have hml : c.maxLocals = 6 := hml0
  have hown : s.vm.findClass "com/example/nested_path/nestedpath/pattern/StringPattern$Loops" = some m.cls := findClass_of_methodNamed Bd.named
  have hnm := (name_of_methodNamed Bd.named Bd.method).1
  have X0 : Stand p l e ({ frames := 3, cells := 0, slots := 0, locals := 100 } : Room) s m #[(.ref a1), (.int p2), (.int p3), (.ref a4)] below meth c s₁ [] 0 0 := Stand.of_body Bd
  have e0 : s₁.heap = h0 := by rw [← hh, Bd.state]; rfl
  have N0 := Fr.nil n0
  have pre0 : ∀ t, Steps p.tables e below (s₁.setTop (mkF m 0 #[.val (.ref a1), .val (.int p2), .val (.int p3), .val (.ref a4), .unset, .unset] [])) t → Steps p.tables e below (s₁.setTop (entryFrame m #[(.ref a1), (.int p2), (.int p3), (.ref a4)] 6)) t := fun t k => castTop (ef_5 m a1 p2 p3 a4) k
  -- 3. LAWS
  -- pc 5: a private method: rm6
  obtain ⟨cq5, q5, q5'⟩ := E_a1.cell
  obtain ⟨_, _, ⟨T5, L5, k5, n5⟩, -, X5, ⟨Lc5, hQ5, l5, y5, z5⟩, st5⟩ := X0.privateBack hx (y := (⟨"com/example/nested_path/nestedpath/pattern/StringPattern$Loops", "around", "(I)I"⟩ : MethodName)) hown (mvT hZ (hw _ (List.mem_of_getElem? (i := 35) rfl))) (mvT hZ (hw _ (List.mem_of_getElem? (i := 36) rfl))) (mvT hZ (own_sel (hw _ (List.mem_of_getElem? (i := 21) rfl)) (hw _ (List.mem_of_getElem? (i := 37) rfl)) (hw _ (List.mem_of_getElem? (i := 36) rfl)))) (Cond.privateMethod_at (mvP hZ (hw _ (List.mem_of_getElem? (i := 37) rfl)) (args := #[]))) (mvT hZ (hw _ (List.mem_of_getElem? (i := 38) rfl))) (by decide) (backOf (W := 0) (rm6 l Z a0 hw [] a1 p2 f0 f1 f2 f3 l0 l1 l2 l3 op cnt h0 n0 Z0 B) hZ (hw _ (List.mem_of_getElem? (i := 38) rfl)) (hw _ (List.mem_of_getElem? (i := 2) rfl)) (by decide) (by decide)) (g := (mkF m 5 #[.val (.ref a1), .val (.int p2), .val (.int p3), .val (.ref a4), .val (.int (0 : Int32)), .unset] [(.int p2), (.ref a1)])) rfl (by rw [hml]; rfl) (Steps.refl _) (a := a1) (by rw [e0]; exact q5) q5' (argsL := [(.int p2)]) (rest := []) (lenOf pdw_2 rfl) rfl (by show 2 * 0 + _ ≤ _; exact Nat.le_of_eq rfl) (hb hby d5_5) (fun _ _ => ⟨rfl, e0, (by decide : 0 + 0 ≤ _), (by decide : 0 + 0 ≤ _)⟩)
  dsimp only [Pt.U, Pt.locs, Pt.cells, Pt.slots] at X5 l5 y5 z5 st5 hQ5
  subst l5 y5 z5
  rw [hR] at hQ5
  obtain ⟨rfl, N5q, hh5⟩ := hQ5
  have N5 := Fr.app N0 N5q
  -- ✋ yours, out of the call's Q: hin18 : ¬ (R < 0 ∨ cl_a4.slots.size ≤ (R).toNatClampNeg)
  -- ✋ yours, out of the call's Q: hat18 : cl_a4.slots[(R).toNatClampNeg]? = some (.int tv)
  -- ✋ yours: Ar_a4 must speak of h0 here (carried over the writes ahead of it)
  obtain ⟨T8, X8, e8, st8⟩ := getF X5 hx hZ hown (host := "") (Or.inl (hw _ (List.mem_of_getElem? (i := 14) rfl))) Via.refl hh5 (F_outers_a1) (g := (mkF m 27 #[.val (.ref a1), .val (.int p2), .val (.int p3), .val (.ref a4), .val (.int (1 : Int32)), .val (.int R)] [(.ref a1)])) rfl rfl (hb hby d5_27)
  -- ✋ yours, out of the call's Q: hin32 : ¬ (R < 0 ∨ cl_o5.slots.size ≤ (R).toNatClampNeg)
  -- ✋ yours, out of the call's Q: hat32 : cl_o5.slots[(R).toNatClampNeg]? = some (.int ov)
  -- ✋ yours: Ar_o5 must speak of h0 here (carried over the writes ahead of it)
  -- ✋ yours: Ar_a4 must speak of h0 here (carried over the writes ahead of it)
  obtain ⟨T11, X11, e11, st11⟩ := getF X8 hx hZ hown (host := "") (Or.inl (hw _ (List.mem_of_getElem? (i := 14) rfl))) Via.refl e8 (F_outers_a1) (g := (mkF m 27 #[.val (.ref a1), .val (.int p2), .val (.int p3), .val (.ref a4), .val (.int (2 : Int32)), .val (.int ov)] [(.ref a1)])) rfl rfl (hb hby d5_27)
  -- ✋ yours: Ar_o5 must speak of h0 here (carried over the writes ahead of it)
  obtain ⟨fs, hr, hrun, hended, hW, hsame⟩ := X11.leave (v := some (.int (2 : Int32))) (fun h => by rw [Bd.returns] at h; cases h)
  refine ⟨_, _, pre0 _ ?_, hrun, hended, _, _, rfl, ?_, ⟨_, rfl⟩, hW, hsame.mono (by decide) (by decide)⟩
  -- 4. STEPS
  · show Steps p.tables e below (s₁.setTop (mkF m 0 #[.val (.ref a1), .val (.int p2), .val (.int p3), .val (.ref a4), .unset, .unset] [])) _
    refine XS.iconst X0.here hx rfl (hb hby d5_0) ?_
    show Steps p.tables e below (s₁.setTop (mkF m 1 #[.val (.ref a1), .val (.int p2), .val (.int p3), .val (.ref a4), .unset, .unset] [(.int (0 : Int32))])) _
    refine XS.istore X0.here hx rfl (hb hby d5_1) rfl (l' := #[.val (.ref a1), .val (.int p2), .val (.int p3), .val (.ref a4), .val (.int (0 : Int32)), .unset]) rfl ?_
    show Steps p.tables e below (s₁.setTop (mkF m 3 #[.val (.ref a1), .val (.int p2), .val (.int p3), .val (.ref a4), .val (.int (0 : Int32)), .unset] [])) _
    refine XS.aloadN X0.here hx rfl (hb hby d5_3) rfl rfl ?_
    show Steps p.tables e below (s₁.setTop (mkF m 4 #[.val (.ref a1), .val (.int p2), .val (.int p3), .val (.ref a4), .val (.int (0 : Int32)), .unset] [(.ref a1)])) _
    refine XS.iloadN X0.here hx rfl (hb hby d5_4) rfl ?_
    show Steps p.tables e below (s₁.setTop (mkF m 5 #[.val (.ref a1), .val (.int p2), .val (.int p3), .val (.ref a4), .val (.int (0 : Int32)), .unset] [(.int p2), (.ref a1)])) _
    refine st5.trans ?_
    show Steps p.tables e below (T5.setTop (mkF m 8 #[.val (.ref a1), .val (.int p2), .val (.int p3), .val (.ref a4), .val (.int (0 : Int32)), .unset] [(.int R)])) _
    refine XS.istore X5.here hx rfl (hb hby d5_8) rfl (l' := #[.val (.ref a1), .val (.int p2), .val (.int p3), .val (.ref a4), .val (.int (0 : Int32)), .val (.int R)]) rfl ?_
    show Steps p.tables e below (T5.setTop (mkF m 10 #[.val (.ref a1), .val (.int p2), .val (.int p3), .val (.ref a4), .val (.int (0 : Int32)), .val (.int R)] [])) _
    refine XS.iload X5.here hx rfl (hb hby d5_10) rfl ?_
    show Steps p.tables e below (T5.setTop (mkF m 12 #[.val (.ref a1), .val (.int p2), .val (.int p3), .val (.ref a4), .val (.int (0 : Int32)), .val (.int R)] [(.int R)])) _
    refine XS.ifNo X5.here hx rfl (hb hby d5_12) rfl ((if0 _ _).trans (flt hq1).1) ?_
    show Steps p.tables e below (T5.setTop (mkF m 15 #[.val (.ref a1), .val (.int p2), .val (.int p3), .val (.ref a4), .val (.int (0 : Int32)), .val (.int R)] [])) _
    refine XS.aloadN X5.here hx rfl (hb hby d5_15) rfl rfl ?_
    show Steps p.tables e below (T5.setTop (mkF m 16 #[.val (.ref a1), .val (.int p2), .val (.int p3), .val (.ref a4), .val (.int (0 : Int32)), .val (.int R)] [(.ref a4)])) _
    refine XS.iload X5.here hx rfl (hb hby d5_16) rfl ?_
    show Steps p.tables e below (T5.setTop (mkF m 18 #[.val (.ref a1), .val (.int p2), .val (.int p3), .val (.ref a4), .val (.int (0 : Int32)), .val (.int R)] [(.int R), (.ref a4)])) _
    refine X5.iaload hx (j := R) (v := (.int tv)) (by rw [hh5]; exact Ar_a4.1) (State.isArrayOf_alike hZ.alike Ar_a4.2.1) Ar_a4.2.2 hin18_1 hat18_1 (g := (mkF m 18 #[.val (.ref a1), .val (.int p2), .val (.int p3), .val (.ref a4), .val (.int (0 : Int32)), .val (.int R)] [(.int R), (.ref a4)])) rfl rfl (hb hby d5_18) _ ?_
    show Steps p.tables e below (T5.setTop (mkF m 19 #[.val (.ref a1), .val (.int p2), .val (.int p3), .val (.ref a4), .val (.int (0 : Int32)), .val (.int R)] [(.int tv)])) _
    refine XS.iloadN X5.here hx rfl (hb hby d5_19) rfl ?_
    show Steps p.tables e below (T5.setTop (mkF m 20 #[.val (.ref a1), .val (.int p2), .val (.int p3), .val (.ref a4), .val (.int (0 : Int32)), .val (.int R)] [(.int p3), (.int tv)])) _
    refine XS.icmpNo X5.here hx rfl (hb hby d5_20) rfl (teq hc20_1).2 ?_
    show Steps p.tables e below (T5.setTop (mkF m 23 #[.val (.ref a1), .val (.int p2), .val (.int p3), .val (.ref a4), .val (.int (0 : Int32)), .val (.int R)] [])) _
    refine XS.iinc X5.here hx rfl (hb hby d5_23) rfl (l' := #[.val (.ref a1), .val (.int p2), .val (.int p3), .val (.ref a4), .val (.int (1 : Int32)), .val (.int R)]) rfl ?_
    show Steps p.tables e below (T5.setTop (mkF m 26 #[.val (.ref a1), .val (.int p2), .val (.int p3), .val (.ref a4), .val (.int (1 : Int32)), .val (.int R)] [])) _
    refine XS.aloadN X5.here hx rfl (hb hby d5_26) rfl rfl ?_
    show Steps p.tables e below (T5.setTop (mkF m 27 #[.val (.ref a1), .val (.int p2), .val (.int p3), .val (.ref a4), .val (.int (1 : Int32)), .val (.int R)] [(.ref a1)])) _
    refine st8 _ ?_
    show Steps p.tables e below (T8.setTop (mkF m 30 #[.val (.ref a1), .val (.int p2), .val (.int p3), .val (.ref a4), .val (.int (1 : Int32)), .val (.int R)] [(.ref o5)])) _
    refine XS.iload X8.here hx rfl (hb hby d5_30) rfl ?_
    show Steps p.tables e below (T8.setTop (mkF m 32 #[.val (.ref a1), .val (.int p2), .val (.int p3), .val (.ref a4), .val (.int (1 : Int32)), .val (.int R)] [(.int R), (.ref o5)])) _
    refine X8.iaload hx (j := R) (v := (.int ov)) (by rw [e8]; exact Ar_o5.1) (State.isArrayOf_alike hZ.alike Ar_o5.2.1) Ar_o5.2.2 hin32_1 hat32_1 (g := (mkF m 32 #[.val (.ref a1), .val (.int p2), .val (.int p3), .val (.ref a4), .val (.int (1 : Int32)), .val (.int R)] [(.int R), (.ref o5)])) rfl rfl (hb hby d5_32) _ ?_
    show Steps p.tables e below (T8.setTop (mkF m 33 #[.val (.ref a1), .val (.int p2), .val (.int p3), .val (.ref a4), .val (.int (1 : Int32)), .val (.int R)] [(.int ov)])) _
    refine XS.istore X8.here hx rfl (hb hby d5_33) rfl (l' := #[.val (.ref a1), .val (.int p2), .val (.int p3), .val (.ref a4), .val (.int (1 : Int32)), .val (.int ov)]) rfl ?_
    show Steps p.tables e below (T8.setTop (mkF m 35 #[.val (.ref a1), .val (.int p2), .val (.int p3), .val (.ref a4), .val (.int (1 : Int32)), .val (.int ov)] [])) _
    refine XS.goto X8.here hx rfl (pc0 := 35) (pc' := 10) rfl (hb hby d5_35) (by decide) (by decide) ?_
    show Steps p.tables e below (T8.setTop (mkF m 10 #[.val (.ref a1), .val (.int p2), .val (.int p3), .val (.ref a4), .val (.int (1 : Int32)), .val (.int ov)] [])) _
    refine XS.iload X8.here hx rfl (hb hby d5_10) rfl ?_
    show Steps p.tables e below (T8.setTop (mkF m 12 #[.val (.ref a1), .val (.int p2), .val (.int p3), .val (.ref a4), .val (.int (1 : Int32)), .val (.int ov)] [(.int ov)])) _
    refine XS.ifNo X8.here hx rfl (hb hby d5_12) rfl ((if0 _ _).trans (flt hc12_1).1) ?_
    show Steps p.tables e below (T8.setTop (mkF m 15 #[.val (.ref a1), .val (.int p2), .val (.int p3), .val (.ref a4), .val (.int (1 : Int32)), .val (.int ov)] [])) _
    refine XS.aloadN X8.here hx rfl (hb hby d5_15) rfl rfl ?_
    show Steps p.tables e below (T8.setTop (mkF m 16 #[.val (.ref a1), .val (.int p2), .val (.int p3), .val (.ref a4), .val (.int (1 : Int32)), .val (.int ov)] [(.ref a4)])) _
    refine XS.iload X8.here hx rfl (hb hby d5_16) rfl ?_
    show Steps p.tables e below (T8.setTop (mkF m 18 #[.val (.ref a1), .val (.int p2), .val (.int p3), .val (.ref a4), .val (.int (1 : Int32)), .val (.int ov)] [(.int ov), (.ref a4)])) _
    refine X8.iaload hx (j := ov) (v := (.int tw)) (by rw [e8]; exact Ar_a4.1) (State.isArrayOf_alike hZ.alike Ar_a4.2.1) Ar_a4.2.2 hin18_2 hat18_2 (g := (mkF m 18 #[.val (.ref a1), .val (.int p2), .val (.int p3), .val (.ref a4), .val (.int (1 : Int32)), .val (.int ov)] [(.int ov), (.ref a4)])) rfl rfl (hb hby d5_18) _ ?_
    show Steps p.tables e below (T8.setTop (mkF m 19 #[.val (.ref a1), .val (.int p2), .val (.int p3), .val (.ref a4), .val (.int (1 : Int32)), .val (.int ov)] [(.int tw)])) _
    refine XS.iloadN X8.here hx rfl (hb hby d5_19) rfl ?_
    show Steps p.tables e below (T8.setTop (mkF m 20 #[.val (.ref a1), .val (.int p2), .val (.int p3), .val (.ref a4), .val (.int (1 : Int32)), .val (.int ov)] [(.int p3), (.int tw)])) _
    refine XS.icmpNo X8.here hx rfl (hb hby d5_20) rfl (teq hc20_2).2 ?_
    show Steps p.tables e below (T8.setTop (mkF m 23 #[.val (.ref a1), .val (.int p2), .val (.int p3), .val (.ref a4), .val (.int (1 : Int32)), .val (.int ov)] [])) _
    refine XS.iinc X8.here hx rfl (hb hby d5_23) rfl (l' := #[.val (.ref a1), .val (.int p2), .val (.int p3), .val (.ref a4), .val (.int (2 : Int32)), .val (.int ov)]) rfl ?_
    show Steps p.tables e below (T8.setTop (mkF m 26 #[.val (.ref a1), .val (.int p2), .val (.int p3), .val (.ref a4), .val (.int (2 : Int32)), .val (.int ov)] [])) _
    refine XS.aloadN X8.here hx rfl (hb hby d5_26) rfl rfl ?_
    show Steps p.tables e below (T8.setTop (mkF m 27 #[.val (.ref a1), .val (.int p2), .val (.int p3), .val (.ref a4), .val (.int (2 : Int32)), .val (.int ov)] [(.ref a1)])) _
    refine st11 _ ?_
    show Steps p.tables e below (T11.setTop (mkF m 30 #[.val (.ref a1), .val (.int p2), .val (.int p3), .val (.ref a4), .val (.int (2 : Int32)), .val (.int ov)] [(.ref o5)])) _
    refine XS.iload X11.here hx rfl (hb hby d5_30) rfl ?_
    show Steps p.tables e below (T11.setTop (mkF m 32 #[.val (.ref a1), .val (.int p2), .val (.int p3), .val (.ref a4), .val (.int (2 : Int32)), .val (.int ov)] [(.int ov), (.ref o5)])) _
    refine X11.iaload hx (j := ov) (v := (.int ow)) (by rw [e11]; exact Ar_o5.1) (State.isArrayOf_alike hZ.alike Ar_o5.2.1) Ar_o5.2.2 hin32_2 hat32_2 (g := (mkF m 32 #[.val (.ref a1), .val (.int p2), .val (.int p3), .val (.ref a4), .val (.int (2 : Int32)), .val (.int ov)] [(.int ov), (.ref o5)])) rfl rfl (hb hby d5_32) _ ?_
    show Steps p.tables e below (T11.setTop (mkF m 33 #[.val (.ref a1), .val (.int p2), .val (.int p3), .val (.ref a4), .val (.int (2 : Int32)), .val (.int ov)] [(.int ow)])) _
    refine XS.istore X11.here hx rfl (hb hby d5_33) rfl (l' := #[.val (.ref a1), .val (.int p2), .val (.int p3), .val (.ref a4), .val (.int (2 : Int32)), .val (.int ow)]) rfl ?_
    show Steps p.tables e below (T11.setTop (mkF m 35 #[.val (.ref a1), .val (.int p2), .val (.int p3), .val (.ref a4), .val (.int (2 : Int32)), .val (.int ow)] [])) _
    refine XS.goto X11.here hx rfl (pc0 := 35) (pc' := 10) rfl (hb hby d5_35) (by decide) (by decide) ?_
    show Steps p.tables e below (T11.setTop (mkF m 10 #[.val (.ref a1), .val (.int p2), .val (.int p3), .val (.ref a4), .val (.int (2 : Int32)), .val (.int ow)] [])) _
    refine XS.iload X11.here hx rfl (hb hby d5_10) rfl ?_
    show Steps p.tables e below (T11.setTop (mkF m 12 #[.val (.ref a1), .val (.int p2), .val (.int p3), .val (.ref a4), .val (.int (2 : Int32)), .val (.int ow)] [(.int ow)])) _
    refine XS.ifYes X11.here hx rfl (pc0 := 12) (pc' := 38) rfl (hb hby d5_12) rfl ((if0 _ _).trans (tlt hc12_2).1) (by decide) (by decide) ?_
    show Steps p.tables e below (T11.setTop (mkF m 38 #[.val (.ref a1), .val (.int p2), .val (.int p3), .val (.ref a4), .val (.int (2 : Int32)), .val (.int ow)] [])) _
    refine XS.iload X11.here hx rfl (hb hby d5_38) rfl ?_
    show Steps p.tables e below (T11.setTop (mkF m 40 #[.val (.ref a1), .val (.int p2), .val (.int p3), .val (.ref a4), .val (.int (2 : Int32)), .val (.int ow)] [(.int (2 : Int32))])) _
    exact retI X11 hx Bd.returns (hb hby d5_40) hr      -- retI stands in the head ('lawwalk <made dir>' prints it)
  · show Q8 (2 : Int32) h0 n0 _ T11.heap _
    rw [e11]
    exact ⟨rfl, N5, by first | rfl | assumption⟩
def own_et (I p3 t0 t1 t2 t3 : Int32) : Int32 := if I = (-(1 : Int32)) then 0 else if I = 0 then (if t0 = p3 then 1 else 0) else if I = 1 then (if t1 = p3 then (if t0 = p3 then 2 else 1) else 0) else if I = 2 then (if t2 = p3 then (if t0 = p3 then 2 else 1) else 0) else (if t3 = p3 then (if t0 = p3 then 2 else 1) else 0)
theorem own_ar5 (R l0 l1 l2 l3 s : Int32) : own_ar R l0 l1 l2 l3 s = (-(1 : Int32)) ∨ own_ar R l0 l1 l2 l3 s = (0 : Int32) ∨ own_ar R l0 l1 l2 l3 s = (1 : Int32) ∨ own_ar R l0 l1 l2 l3 s = (2 : Int32) ∨ own_ar R l0 l1 l2 l3 s = (3 : Int32) := by
  unfold own_ar; repeat' split
  all_goals simp
theorem own_et_m (p3 t0 t1 t2 t3 : Int32) : own_et (-(1 : Int32)) p3 t0 t1 t2 t3 = 0 := by
  unfold own_et; rw [if_pos (by decide)]
theorem own_et_0 (p3 t0 t1 t2 t3 : Int32) : own_et (0 : Int32) p3 t0 t1 t2 t3 = (if t0 = p3 then 1 else 0) := by
  unfold own_et; rw [if_neg (by decide), if_pos (by decide)]
theorem own_et_1 (p3 t0 t1 t2 t3 : Int32) : own_et (1 : Int32) p3 t0 t1 t2 t3 = (if t1 = p3 then (if t0 = p3 then 2 else 1) else 0) := by
  unfold own_et; rw [if_neg (by decide), if_neg (by decide), if_pos (by decide)]
theorem own_et_2 (p3 t0 t1 t2 t3 : Int32) : own_et (2 : Int32) p3 t0 t1 t2 t3 = (if t2 = p3 then (if t0 = p3 then 2 else 1) else 0) := by
  unfold own_et; rw [if_neg (by decide), if_neg (by decide), if_neg (by decide), if_pos (by decide)]
theorem own_et_3 (p3 t0 t1 t2 t3 : Int32) : own_et (3 : Int32) p3 t0 t1 t2 t3 = (if t3 = p3 then (if t0 = p3 then 2 else 1) else 0) := by
  unfold own_et; rw [if_neg (by decide), if_neg (by decide), if_neg (by decide), if_neg (by decide)]
theorem rm5 (l : Launch) (Z : State) (a0 : Array Value) (hw : ∀ d ∈ tables_1, d.before a0 Z = true) (ws : List Jvm.Cond) (a1 : Addr) (p2 : Int32) (p3 : Int32) (a4 : Addr) (f0 f1 f2 f3 l0 l1 l2 l3 t0 t1 t2 t3 : Int32) (op cnt : Int32) (kt : ClassId) (h0 : Heap) (n0 : Nat) (Z0 : n0 ≤ h0.size) (B : LP Z h0 n0 a1 [.int f0, .int f1, .int f2, .int f3] [.int l0, .int l1, .int l2, .int l3] [.int (-(1 : Int32)), .int (0 : Int32), .int (0 : Int32), .int (0 : Int32)] op cnt) (V : Arv Z h0 a4 kt .int 4 [.int t0, .int t1, .int t2, .int t3] (.int 0)) :
    MetFree l (⟨"com/example/nested_path/nestedpath/pattern/StringPattern$Loops", "emptyTurns", "(II[I)I"⟩ : MethodName) (head1 (Jvm.Cond.code (⟨"com/example/nested_path/nestedpath/pattern/StringPattern$Loops", "emptyTurns", "(II[I)I"⟩ : MethodName) prog_62_method_6_code 6 (some .int) :: ws) ({ frames := 3, cells := 0, slots := 0, locals := 100 } : Room)) (fun a U => a = #[(.ref a1), (.int p2), (.int p3), (.ref a4)] ∧ Z.Warmed39 U.vm ∧ U.heap = h0) (fun _ _ _ _ _ => True) (fun _ U o U' => ∃ v L, o = .returned v ∧ Q8 (own_et (own_ar (own_bs f0 f1 f2 f3 p2) l0 l1 l2 l3 p2) p3 t0 t1 t2 t3) h0 n0 v U'.heap L ∧ FrameEnd U o U' L ({ frames := 3, cells := 0, slots := 0, locals := 100 } : Room).cells ({ frames := 3, cells := 0, slots := 0, locals := 100 } : Room).slots) := by
  rcases own_ar5 (own_bs f0 f1 f2 f3 p2) l0 l1 l2 l3 p2 with hR | hR | hR | hR | hR
  · rw [hR, own_et_m]; exact rm5_1 l Z a0 hw ws a1 p2 p3 a4 f0 f1 f2 f3 l0 l1 l2 l3 t0 t1 t2 t3 op cnt kt h0 n0 Z0 B V (-(1 : Int32)) hR (by decide)
  · by_cases c1 : t0 = p3
    · rw [hR, own_et_0, if_pos c1]; exact rm5_3 l Z a0 hw ws a1 p2 p3 a4 f0 f1 f2 f3 l0 l1 l2 l3 t0 t1 t2 t3 op cnt kt h0 n0 Z0 B V (0 : Int32) hR (by decide) 0 (by decide) (by decide) t0 rfl c1 (-(1 : Int32)) rfl (by decide)
    · rw [hR, own_et_0, if_neg c1]; exact rm5_2 l Z a0 hw ws a1 p2 p3 a4 f0 f1 f2 f3 l0 l1 l2 l3 t0 t1 t2 t3 op cnt kt h0 n0 Z0 B V (0 : Int32) hR (by decide) 0 (by decide) (by decide) t0 rfl c1
  · by_cases c1 : t1 = p3
    · by_cases c2 : t0 = p3
      · rw [hR, own_et_1, if_pos c1, if_pos c2]; exact rm5_5 l Z a0 hw ws a1 p2 p3 a4 f0 f1 f2 f3 l0 l1 l2 l3 t0 t1 t2 t3 op cnt kt h0 n0 Z0 B V (1 : Int32) hR (by decide) 1 (by decide) (by decide) t1 rfl c1 (0 : Int32) rfl (by decide) 0 (by decide) (by decide) t0 rfl c2 (-(1 : Int32)) rfl (by decide)
      · rw [hR, own_et_1, if_pos c1, if_neg c2]; exact rm5_4 l Z a0 hw ws a1 p2 p3 a4 f0 f1 f2 f3 l0 l1 l2 l3 t0 t1 t2 t3 op cnt kt h0 n0 Z0 B V (1 : Int32) hR (by decide) 1 (by decide) (by decide) t1 rfl c1 (0 : Int32) rfl (by decide) 0 (by decide) (by decide) t0 rfl c2
    · rw [hR, own_et_1, if_neg c1]; exact rm5_2 l Z a0 hw ws a1 p2 p3 a4 f0 f1 f2 f3 l0 l1 l2 l3 t0 t1 t2 t3 op cnt kt h0 n0 Z0 B V (1 : Int32) hR (by decide) 1 (by decide) (by decide) t1 rfl c1
  · by_cases c1 : t2 = p3
    · by_cases c2 : t0 = p3
      · rw [hR, own_et_2, if_pos c1, if_pos c2]; exact rm5_5 l Z a0 hw ws a1 p2 p3 a4 f0 f1 f2 f3 l0 l1 l2 l3 t0 t1 t2 t3 op cnt kt h0 n0 Z0 B V (2 : Int32) hR (by decide) 2 (by decide) (by decide) t2 rfl c1 (0 : Int32) rfl (by decide) 0 (by decide) (by decide) t0 rfl c2 (-(1 : Int32)) rfl (by decide)
      · rw [hR, own_et_2, if_pos c1, if_neg c2]; exact rm5_4 l Z a0 hw ws a1 p2 p3 a4 f0 f1 f2 f3 l0 l1 l2 l3 t0 t1 t2 t3 op cnt kt h0 n0 Z0 B V (2 : Int32) hR (by decide) 2 (by decide) (by decide) t2 rfl c1 (0 : Int32) rfl (by decide) 0 (by decide) (by decide) t0 rfl c2
    · rw [hR, own_et_2, if_neg c1]; exact rm5_2 l Z a0 hw ws a1 p2 p3 a4 f0 f1 f2 f3 l0 l1 l2 l3 t0 t1 t2 t3 op cnt kt h0 n0 Z0 B V (2 : Int32) hR (by decide) 2 (by decide) (by decide) t2 rfl c1
  · by_cases c1 : t3 = p3
    · by_cases c2 : t0 = p3
      · rw [hR, own_et_3, if_pos c1, if_pos c2]; exact rm5_5 l Z a0 hw ws a1 p2 p3 a4 f0 f1 f2 f3 l0 l1 l2 l3 t0 t1 t2 t3 op cnt kt h0 n0 Z0 B V (3 : Int32) hR (by decide) 3 (by decide) (by decide) t3 rfl c1 (0 : Int32) rfl (by decide) 0 (by decide) (by decide) t0 rfl c2 (-(1 : Int32)) rfl (by decide)
      · rw [hR, own_et_3, if_pos c1, if_neg c2]; exact rm5_4 l Z a0 hw ws a1 p2 p3 a4 f0 f1 f2 f3 l0 l1 l2 l3 t0 t1 t2 t3 op cnt kt h0 n0 Z0 B V (3 : Int32) hR (by decide) 3 (by decide) (by decide) t3 rfl c1 (0 : Int32) rfl (by decide) 0 (by decide) (by decide) t0 rfl c2
    · rw [hR, own_et_3, if_neg c1]; exact rm5_2 l Z a0 hw ws a1 p2 p3 a4 f0 f1 f2 f3 l0 l1 l2 l3 t0 t1 t2 t3 op cnt kt h0 n0 Z0 B V (3 : Int32) hR (by decide) 3 (by decide) (by decide) t3 rfl c1
theorem LP.new4 {Z : State} {h h1 h2 h3 h4 h5 : Heap} {n0 : Nat} {a b : Addr} {fs ls os : List Value} {op cnt : Int32} {s1 s2 s3 s4 : Nat} {v1 v2 v3 v4 : Value} (B : LP Z h n0 a fs ls os op cnt) (E : Ext h h1) (hb : b = h.size) (W1 : Wr h1 h2 b s1 v1) (W2 : Wr h2 h3 b s2 v2) (W3 : Wr h3 h4 b s3 v3) (W4 : Wr h4 h5 b s4 v4) : LP Z h5 n0 a fs ls os op cnt := by
  obtain ⟨f, l, o, kf, kl, ko, b1, b2, b3, b4, b5, b6, Vf, Vl, Vo, rest⟩ := B
  have na : a ≠ b := Nat.ne_of_lt (by rw [hb]; exact b1.lt)
  have nf : f ≠ b := Nat.ne_of_lt (by rw [hb]; exact Vf.lt)
  have nl : l ≠ b := Nat.ne_of_lt (by rw [hb]; exact Vl.lt)
  have no : o ≠ b := Nat.ne_of_lt (by rw [hb]; exact Vo.lt)
  have fld : ∀ {C n d : String} {w : Value}, Fld Z h a C n d w → Fld Z h5 a C n d w := fun F => ((((F.ext E).other W1 (Or.inl na)).other W2 (Or.inl na)).other W3 (Or.inl na)).other W4 (Or.inl na)
  exact ⟨f, l, o, kf, kl, ko, ((((b1.ext E).wr W1).wr W2).wr W3).wr W4, fld b2, fld b3, fld b4, fld b5, fld b6, ((((Vf.ext E).other W1 nf).other W2 nf).other W3 nf).other W4 nf, ((((Vl.ext E).other W1 nl).other W2 nl).other W3 nl).other W4 nl, ((((Vo.ext E).other W1 no).other W2 no).other W3 no).other W4 no, rest⟩
theorem own_dia {tb : Tables} {e : Env} {below : List Frame} {T tgt : State} {m : MethodId} {J : Nat} {L : Array Slot} {S : List Value} {q : Prop} [Decidable q] {v A B : Int32} (hv : v = if q then A else B) {g : JFrame} (hA : q → ∀ t, Steps tb e below (T.setTop (mkF m J L (.int A :: S))) t → Steps tb e below (T.setTop g) t) (hB : ¬ q → ∀ t, Steps tb e below (T.setTop (mkF m J L (.int B :: S))) t → Steps tb e below (T.setTop g) t) (k : Steps tb e below (T.setTop (mkF m J L (.int v :: S))) tgt) : Steps tb e below (T.setTop g) tgt := by
  by_cases c : q
  · rw [hv, if_pos c] at k; exact hA c _ k
  · rw [hv, if_neg c] at k; exact hB c _ k
def own_inn (a0 b0 c0 d0 a1 b1 c1 d1 s : Int32) : Int32 := if ¬ (s < d0) ∧ ¬ (d1 < s) then 3 else if ¬ (s < c0) ∧ ¬ (c1 < s) then 2 else if ¬ (s < b0) ∧ ¬ (b1 < s) then 1 else if ¬ (s < a0) ∧ ¬ (a1 < s) then 0 else (-(1 : Int32))
def own_exp (K e0 e1 e2 e3 : Int32) : Int32 := if K = (-(1 : Int32)) then 0 else if K = 0 then (if e0 = 0 then 0 else 1) else if K = 1 then (if e1 = 0 then 0 else if e0 = 0 then 1 else 2) else if K = 2 then (if e2 = 0 then 0 else if e0 = 0 then 1 else 2) else (if e3 = 0 then 0 else if e0 = 0 then 1 else 2)
theorem own_exp_m (e0 e1 e2 e3 : Int32) : own_exp (-(1 : Int32)) e0 e1 e2 e3 = 0 := by unfold own_exp; rw [if_pos (by decide)]
theorem own_exp_0 (e0 e1 e2 e3 : Int32) : own_exp (0 : Int32) e0 e1 e2 e3 = (if e0 = 0 then 0 else 1) := by unfold own_exp; rw [if_neg (by decide), if_pos (by decide)]
theorem own_exp_1 (e0 e1 e2 e3 : Int32) : own_exp (1 : Int32) e0 e1 e2 e3 = (if e1 = 0 then 0 else if e0 = 0 then 1 else 2) := by unfold own_exp; rw [if_neg (by decide), if_neg (by decide), if_pos (by decide)]
theorem own_exp_2 (e0 e1 e2 e3 : Int32) : own_exp (2 : Int32) e0 e1 e2 e3 = (if e2 = 0 then 0 else if e0 = 0 then 1 else 2) := by unfold own_exp; rw [if_neg (by decide), if_neg (by decide), if_neg (by decide), if_pos (by decide)]
theorem own_exp_3 (e0 e1 e2 e3 : Int32) : own_exp (3 : Int32) e0 e1 e2 e3 = (if e3 = 0 then 0 else if e0 = 0 then 1 else 2) := by unfold own_exp; rw [if_neg (by decide), if_neg (by decide), if_neg (by decide), if_neg (by decide)]
theorem own_key (a0 b0 c0 d0 a1 b1 c1 d1 s : Int32) (h1 : a0.toInt < b0.toInt) (h2 : b0.toInt ≤ b1.toInt) (h3 : b1.toInt < c0.toInt) (h4 : c0.toInt ≤ c1.toInt) (h5 : c1.toInt < d0.toInt) (h6 : d0.toInt ≤ d1.toInt) (h7 : d1.toInt ≤ a1.toInt) : own_ar (own_bs a0 b0 c0 d0 s) a1 b1 c1 d1 s = own_inn a0 b0 c0 d0 a1 b1 c1 d1 s := by
  unfold own_bs own_inn
  simp only [Int32.lt_iff_toInt_lt]
  split
  · split
    · split
      · rw [own_ar_m5]; simp only [Int32.lt_iff_toInt_lt]; repeat' split
        all_goals first | rfl | (exfalso; omega)
      · split
        · rename_i e; replace e := congrArg Int32.toInt e; rw [own_ar_p3]; simp only [Int32.lt_iff_toInt_lt]; repeat' split
          all_goals first | rfl | (exfalso; omega)
        · rename_i e; replace e := mt Int32.toInt_inj.mp e; rw [own_ar_m4]; simp only [Int32.lt_iff_toInt_lt]; repeat' split
          all_goals first | rfl | (exfalso; omega)
    · split
      · rename_i e; replace e := congrArg Int32.toInt e; rw [own_ar_p2]; simp only [Int32.lt_iff_toInt_lt]; repeat' split
        all_goals first | rfl | (exfalso; omega)
      · rename_i e; replace e := mt Int32.toInt_inj.mp e; rw [own_ar_m3]; simp only [Int32.lt_iff_toInt_lt]; repeat' split
        all_goals first | rfl | (exfalso; omega)
  · split
    · rename_i e; replace e := congrArg Int32.toInt e; rw [own_ar_p1]; simp only [Int32.lt_iff_toInt_lt]; repeat' split
      all_goals first | rfl | (exfalso; omega)
    · rename_i e; replace e := mt Int32.toInt_inj.mp e
      split
      · rw [own_ar_m2]; simp only [Int32.lt_iff_toInt_lt]; repeat' split
        all_goals first | rfl | (exfalso; omega)
      · split
        · rename_i e; replace e := congrArg Int32.toInt e; rw [own_ar_p0]; simp only [Int32.lt_iff_toInt_lt]; repeat' split
          all_goals first | rfl | (exfalso; omega)
        · rename_i e; replace e := mt Int32.toInt_inj.mp e; rw [own_ar_m1]; repeat' split
          all_goals first | rfl | (exfalso; omega)
theorem own_key2 (I p3 t0 t1 t2 t3 : Int32) (hI : I = (-(1 : Int32)) ∨ I = (0 : Int32) ∨ I = (1 : Int32) ∨ I = (2 : Int32) ∨ I = (3 : Int32)) : own_et I p3 t0 t1 t2 t3 = own_exp I (if t0 = p3 then 1 else 0) (if t1 = p3 then 1 else 0) (if t2 = p3 then 1 else 0) (if t3 = p3 then 1 else 0) := by
  rcases hI with rfl | rfl | rfl | rfl | rfl
  · rw [own_et_m, own_exp_m]
  · rw [own_et_0, own_exp_0]; repeat' split
    all_goals first | rfl | contradiction | simp_all
  · rw [own_et_1, own_exp_1]; repeat' split
    all_goals first | rfl | contradiction | simp_all
  · rw [own_et_2, own_exp_2]; repeat' split
    all_goals first | rfl | contradiction | simp_all
  · rw [own_et_3, own_exp_3]; repeat' split
    all_goals first | rfl | contradiction | simp_all
theorem own_add {x y : Int32} (hx : 0 ≤ x.toInt ∧ x.toInt ≤ 1000) (hy : 0 ≤ y.toInt ∧ y.toInt ≤ 1000) : (x + y).toInt = x.toInt + y.toInt := by
  rw [Int32.toInt_add]; apply Int.bmod_eq_of_le <;> omega
theorem own_ord {a b m : Int32} (N : Int) (ha : 0 ≤ a.toInt ∧ a.toInt ≤ N) (hN : N ≤ 900) (hm : 0 ≤ m.toInt ∧ m.toInt ≤ 15) (e : b = a + m) : 0 ≤ b.toInt ∧ b.toInt ≤ N + 15 ∧ a.toInt ≤ b.toInt := by
  rw [e, own_add ⟨ha.1, by omega⟩ ⟨hm.1, by omega⟩]; omega
theorem own_ord1 {a b m : Int32} (N : Int) (ha : 0 ≤ a.toInt ∧ a.toInt ≤ N) (hN : N ≤ 900) (hm : 0 ≤ m.toInt ∧ m.toInt ≤ 15) (e : b = (a + 1) + m) : 0 ≤ b.toInt ∧ b.toInt ≤ N + 16 ∧ a.toInt < b.toInt := by
  have h1 : (1 : Int32).toInt = 1 := rfl
  have e1 : (a + 1).toInt = a.toInt + 1 := by rw [own_add ⟨ha.1, by omega⟩ ⟨by omega, by omega⟩, h1]
  rw [e, own_add ⟨by omega, by omega⟩ ⟨hm.1, by omega⟩]; omega
theorem own_m15 (x : Int32) : 0 ≤ (x &&& (15 : Int32)).toInt ∧ (x &&& (15 : Int32)).toInt ≤ 15 := by
  have e := Jvm.Kit.i32_mask x 15 (k := 4) (by decide) (by decide)
  rw [e]; omega
theorem own_law {p3 y6 y7 y8 y9 y10 y11 y12 x0 x5 x6 x7 x8 x9 x10 x11 x12 x13 t0 t1 t2 t3 e0 e1 e2 e3 : Int32} (h5 : x5 = x0 &&& (15 : Int32)) (h6 : x6 = (x5 + (1 : Int32)) + (y6 &&& (15 : Int32))) (h7 : x7 = x6 + (y7 &&& (15 : Int32))) (h8 : x8 = (x7 + (1 : Int32)) + (y8 &&& (15 : Int32))) (h9 : x9 = x8 + (y9 &&& (15 : Int32))) (h10 : x10 = (x9 + (1 : Int32)) + (y10 &&& (15 : Int32))) (h11 : x11 = x10 + (y11 &&& (15 : Int32))) (h12 : x12 = x11 + (y12 &&& (15 : Int32))) (he0 : e0 = if t0 = p3 then 1 else 0) (he1 : e1 = if t1 = p3 then 1 else 0) (he2 : e2 = if t2 = p3 then 1 else 0) (he3 : e3 = if t3 = p3 then 1 else 0) :
    own_et (own_ar (own_bs x5 x6 x8 x10 x13) x12 x7 x9 x11 x13) p3 t0 t1 t2 t3 = own_exp (own_inn x5 x6 x8 x10 x12 x7 x9 x11 x13) e0 e1 e2 e3 := by
  have o5 : 0 ≤ x5.toInt ∧ x5.toInt ≤ 15 := h5 ▸ own_m15 x0
  have o6 := own_ord1 15 o5 (by decide) (own_m15 y6) h6
  have o7 := own_ord 31 ⟨o6.1, o6.2.1⟩ (by decide) (own_m15 y7) h7
  have o8 := own_ord1 46 ⟨o7.1, o7.2.1⟩ (by decide) (own_m15 y8) h8
  have o9 := own_ord 62 ⟨o8.1, o8.2.1⟩ (by decide) (own_m15 y9) h9
  have o10 := own_ord1 77 ⟨o9.1, o9.2.1⟩ (by decide) (own_m15 y10) h10
  have o11 := own_ord 93 ⟨o10.1, o10.2.1⟩ (by decide) (own_m15 y11) h11
  have o12 := own_ord 108 ⟨o11.1, o11.2.1⟩ (by decide) (own_m15 y12) h12
  rw [own_key2 _ p3 t0 t1 t2 t3 (own_ar5 _ x12 x7 x9 x11 x13), own_key x5 x6 x8 x10 x12 x7 x9 x11 x13 o6.2.2 o7.2.2 o8.2.2 o9.2.2 o10.2.2 o11.2.2 o12.2.2, he0, he1, he2, he3]
theorem pn_0 : plainName "com/example/nested_path/nestedpath/pattern/LoopsLeavePinLaw" = true := by first | (simp [plainName, overriddenIn]; done) | decide +kernel
theorem pdw_3 : parseMethodDescriptor "()V" = some ⟨[], none⟩ := by decide +kernel
theorem pdw_4 : parseMethodDescriptor "(II)V" = some ⟨[.int, .int], none⟩ := by decide +kernel
theorem pdw_5 : parseMethodDescriptor "(II[I)I" = some ⟨[.int, .int, (.array .int)], some .int⟩ := by decide +kernel
theorem ef_0 (m : MethodId) (x0 : Int32) (x1 : Int32) (x2 : Int32) (x3 : Int32) (x4 : Int32) : entryFrame m #[(.int x0), (.int x1), (.int x2), (.int x3), (.int x4)] maxLocals = mkF m 0 #[.val (.int x0), .val (.int x1), .val (.int x2), .val (.int x3), .val (.int x4), .unset, .unset, .unset, .unset, .unset, .unset, .unset, .unset, .unset, .unset, .unset, .unset, .unset, .unset, .unset, .unset, .unset, .unset, .unset, .unset, .unset, .unset, .unset] [] := by first | (simp [entryFrame, mkF, argsToLocals, Value.category, maxLocals]; done) | rfl
def Q0 (h0 : Heap) (n0 : Nat) (v : Option Value) (h : Heap) (L : List Loc) : Prop := v = some (.int (1 : Int32)) ∧ Fr n0 L
set_option maxRecDepth 65536 in
set_option maxHeartbeats 40000000 in
theorem rm0_L (l : Launch) (Z : State) (a0 : Array Value) (hw : ∀ d ∈ tables_1, d.before a0 Z = true) (ws : List Jvm.Cond) (p1 p2 p3 p4 p5 : Int32) (x5 x6 x7 x8 x9 x10 x11 x12 x13 v210 v223 v236 v250 v270 v285 v300 v315 v330 v345 v360 v375 : Int32) (got inn : Int32) (h0 : Heap) (n0 : Nat) (Z0 : n0 ≤ h0.size) (hx5 : True → x5 = (p1 &&& (15 : Int32))) (hx6 : True → x6 = ((x5 + (1 : Int32)) + (((p1.toUInt32 >>> ((4 : Int32) &&& 31).toUInt32).toInt32) &&& (15 : Int32)))) (hx7 : True → x7 = (x6 + (((p1.toUInt32 >>> ((8 : Int32) &&& 31).toUInt32).toInt32) &&& (15 : Int32)))) (hx8 : True → x8 = ((x7 + (1 : Int32)) + (((p1.toUInt32 >>> ((12 : Int32) &&& 31).toUInt32).toInt32) &&& (15 : Int32)))) (hx9 : True → x9 = (x8 + (((p1.toUInt32 >>> ((16 : Int32) &&& 31).toUInt32).toInt32) &&& (15 : Int32)))) (hx10 : True → x10 = ((x9 + (1 : Int32)) + (((p1.toUInt32 >>> ((20 : Int32) &&& 31).toUInt32).toInt32) &&& (15 : Int32)))) (hx11 : True → x11 = (x10 + (((p1.toUInt32 >>> ((24 : Int32) &&& 31).toUInt32).toInt32) &&& (15 : Int32)))) (hx12 : True → x12 = (x11 + (((p1.toUInt32 >>> ((28 : Int32) &&& 31).toUInt32).toInt32) &&& (15 : Int32)))) (hx13 : True → x13 = (p2 &&& (127 : Int32))) (hv210 : True → v210 = (if ((p4 &&& (1 : Int32)) = (0 : Int32)) then (0 : Int32) else (1 : Int32))) (hv223 : True → v223 = (if ((p4 &&& (2 : Int32)) = (0 : Int32)) then (0 : Int32) else (1 : Int32))) (hv236 : True → v236 = (if ((p4 &&& (4 : Int32)) = (0 : Int32)) then (0 : Int32) else (1 : Int32))) (hv250 : True → v250 = (if ((p4 &&& (8 : Int32)) = (0 : Int32)) then (0 : Int32) else (1 : Int32))) (hv270 : True → v270 = (if (v210 = (0 : Int32)) then p5 else p3)) (hv285 : True → v285 = (if (v223 = (0 : Int32)) then p5 else p3)) (hv300 : True → v300 = (if (v236 = (0 : Int32)) then p5 else p3)) (hv315 : True → v315 = (if (v250 = (0 : Int32)) then p5 else p3)) (hv330 : True → v330 = (if (v270 = p3) then (1 : Int32) else (0 : Int32))) (hv345 : True → v345 = (if (v285 = p3) then (1 : Int32) else (0 : Int32))) (hv360 : True → v360 = (if (v300 = p3) then (1 : Int32) else (0 : Int32))) (hv375 : True → v375 = (if (v315 = p3) then (1 : Int32) else (0 : Int32))) (hgot1 : True → own_et (own_ar (own_bs x5 x6 x8 x10 x13) x12 x7 x9 x11 x13) p3 v270 v285 v300 v315 = got) (hinn : True → inn = own_inn x5 x6 x8 x10 x12 x7 x9 x11 x13) (hgot2 : True → got = own_exp inn v330 v345 v360 v375) :
    MetFree l x (head1 (Jvm.Cond.code x code maxLocals ret :: ws) room_1) (fun a U => a = #[(.int p1), (.int p2), (.int p3), (.int p4), (.int p5)] ∧ Z.Warmed39 U.vm ∧ U.heap = h0) (fun _ _ _ _ _ => True) (fun _ U o U' => ∃ v L, o = .returned v ∧ Q0 h0 n0 v U'.heap L ∧ FrameEnd U o U' L room_1.cells room_1.slots) := by
  refine MetFree.of_bodySF (plainFor_of_name pn_0) hisR ?_
  intro p e s m args below meth c s₁ Bd hml0 hP hK
  obtain ⟨rfl, hZ, hh⟩ := hP
  have hx := Bd.exec
  have hby := Bd.bytes
  have hml : c.maxLocals = 28 := hml0
  have hown : s.vm.findClass "com/example/nested_path/nestedpath/pattern/LoopsLeavePinLaw" = some m.cls := findClass_of_methodNamed Bd.named
  have hnm := (name_of_methodNamed Bd.named Bd.method).1
  have X0 : Stand p l e room_1 s m #[(.int p1), (.int p2), (.int p3), (.int p4), (.int p5)] below meth c s₁ [] 0 0 := Stand.of_body Bd
  have e0 : s₁.heap = h0 := by rw [← hh, Bd.state]; rfl
  have N0 := Fr.nil n0
  have pre0 : ∀ t, Steps p.tables e below (s₁.setTop (mkF m 0 #[.val (.int p1), .val (.int p2), .val (.int p3), .val (.int p4), .val (.int p5), .unset, .unset, .unset, .unset, .unset, .unset, .unset, .unset, .unset, .unset, .unset, .unset, .unset, .unset, .unset, .unset, .unset, .unset, .unset, .unset, .unset, .unset, .unset] [])) t → Steps p.tables e below (s₁.setTop (entryFrame m #[(.int p1), (.int p2), (.int p3), (.int p4), (.int p5)] maxLocals)) t := fun t k => castTop (ef_0 m p1 p2 p3 p4 p5) k
  -- 3. LAWS
  obtain ⟨T6, h6, X6, e6, E6, A6, D6, -, st6⟩ := newO X0 hx hZ hown (hw _ (List.mem_of_getElem? (i := 0) rfl)) (hw _ (List.mem_of_getElem? (i := 1) rfl)) (hw _ (List.mem_of_getElem? (i := 2) rfl)) e0 (g := (mkF m 101 #[.val (.int p1), .val (.int p2), .val (.int p3), .val (.int p4), .val (.int p5), .val (.int x5), .val (.int x6), .val (.int x7), .val (.int x8), .val (.int x9), .val (.int x10), .val (.int x11), .val (.int x12), .val (.int x13), .unset, .unset, .unset, .unset, .unset, .unset, .unset, .unset, .unset, .unset, .unset, .unset, .unset, .unset] [])) rfl (hb hby at_101) (by decide) (by decide)
  obtain ⟨b6, g6⟩ : ∃ z, z = h0.size := ⟨_, rfl⟩      -- the fresh object's address
  rw [← g6] at A6 D6 st6      -- A6 : Exa Z h6 b6 "com/example/nested_path/nestedpath/pattern/StringPattern$Loops"; E6 : Ext h0 h6 (carries every older fact: .ext E6)
  have F_firsts_b6 : Fld Z h6 b6 "com/example/nested_path/nestedpath/pattern/StringPattern$Loops" "firsts" "[I" .null := D6 (Or.inl (hw _ (List.mem_of_getElem? (i := 11) rfl))) (ty := (.array .int)) (by decide)
  have F_lasts_b6 : Fld Z h6 b6 "com/example/nested_path/nestedpath/pattern/StringPattern$Loops" "lasts" "[I" .null := D6 (Or.inl (hw _ (List.mem_of_getElem? (i := 13) rfl))) (ty := (.array .int)) (by decide)
  have F_outers_b6 : Fld Z h6 b6 "com/example/nested_path/nestedpath/pattern/StringPattern$Loops" "outers" "[I" .null := D6 (Or.inl (hw _ (List.mem_of_getElem? (i := 15) rfl))) (ty := (.array .int)) (by decide)
  have F_open_b6 : Fld Z h6 b6 "com/example/nested_path/nestedpath/pattern/StringPattern$Loops" "open" "I" (.int (0 : Int32)) := D6 (Or.inl (hw _ (List.mem_of_getElem? (i := 17) rfl))) (ty := .int) (by decide)
  have F_count_b6 : Fld Z h6 b6 "com/example/nested_path/nestedpath/pattern/StringPattern$Loops" "count" "I" (.int (0 : Int32)) := D6 (Or.inl (hw _ (List.mem_of_getElem? (i := 24) rfl))) (ty := .int) (by decide)
  have E_b6 := A6
  have g_b6 : n0 ≤ b6 := Nat.le_trans Z0 (Nat.le_of_eq g6.symm)
  -- pc 105: the constructor of com/example/nested_path/nestedpath/pattern/StringPattern$Loops by its contract rm1
  obtain ⟨_, _, ⟨T7, L7, k7, n7⟩, -, X7, ⟨Lc7, hQ7, l7, y7, z7⟩, st7⟩ := X6.specialBack hx (y := (⟨"com/example/nested_path/nestedpath/pattern/StringPattern$Loops", "<init>", "()V"⟩ : MethodName)) rfl hown (mvT hZ (hw _ (List.mem_of_getElem? (i := 3) rfl))) (mvT hZ (hw _ (List.mem_of_getElem? (i := 4) rfl))) (mvT hZ (hw _ (List.mem_of_getElem? (i := 5) rfl))) (by decide) (backOf (W := 1) (rm1_i l Z a0 hw [] b6 .null .null .null (.int (0 : Int32)) h6 n0 (Nat.le_trans Z0 E6.1) E_b6 F_firsts_b6 F_lasts_b6 F_outers_b6 F_open_b6 F_count_b6 g_b6) hZ (hw _ (List.mem_of_getElem? (i := 5) rfl)) (hw _ (List.mem_of_getElem? (i := 2) rfl)) (by decide) (by decide)) (g := (mkF m 105 #[.val (.int p1), .val (.int p2), .val (.int p3), .val (.int p4), .val (.int p5), .val (.int x5), .val (.int x6), .val (.int x7), .val (.int x8), .val (.int x9), .val (.int x10), .val (.int x11), .val (.int x12), .val (.int x13), .unset, .unset, .unset, .unset, .unset, .unset, .unset, .unset, .unset, .unset, .unset, .unset, .unset, .unset] [(.ref b6), (.ref b6)])) rfl (by rw [hml]; rfl) (Steps.refl _) (a := b6) (argsL := []) (rest := [(.ref b6)]) (lenOf pdw_3 rfl) rfl (by show 2 * 0 + _ ≤ _; exact Nat.le_of_eq rfl) (hb hby at_105) (fun _ _ => ⟨rfl, e6, (by decide : 1 + 3 ≤ _), (by decide : 5 + 12 ≤ _)⟩)
  dsimp only [Pt.U, Pt.locs, Pt.cells, Pt.slots] at X7 l7 y7 z7 st7 hQ7
  subst l7 y7 z7
  obtain ⟨rfl, N7q, hz7, B7⟩ := hQ7
  have Z7 := Nat.le_trans (Nat.le_trans Z0 E6.1) hz7
  have N7 := Fr.app N0 N7q
  -- pc 114: com/example/nested_path/nestedpath/pattern/StringPattern$Loops.enter by the contract of the body that the receiver's class selects, rm3
  obtain ⟨cq8, kq8, q8a, q8b, q8c⟩ := isOf hZ rfl B7.exa
  obtain ⟨_, _, ⟨T8, L8, k8, n8⟩, -, X8, ⟨Lc8, hQ8, l8, y8, z8⟩, st8⟩ := X7.virtualBack hx (y := (⟨"com/example/nested_path/nestedpath/pattern/StringPattern$Loops", "enter", "(I)I"⟩ : MethodName)) (z := (⟨"com/example/nested_path/nestedpath/pattern/StringPattern$Loops", "enter", "(I)I"⟩ : MethodName)) hown (mvT hZ (hw _ (List.mem_of_getElem? (i := 18) rfl))) (mvT hZ (hw _ (List.mem_of_getElem? (i := 19) rfl))) (notFace_of_selects (args := #[]) (mvT hZ (hw _ (List.mem_of_getElem? (i := 21) rfl)))) (mvT hZ (hw _ (List.mem_of_getElem? (i := 21) rfl))) (mvT hZ (hw _ (List.mem_of_getElem? (i := 20) rfl))) (by decide) (backOf (W := 0) (rm3_e l Z a0 hw [] b6 x5 0 [(.int (0 : Int32)), (.int (0 : Int32)), (.int (0 : Int32)), (.int (0 : Int32))] [(.int (0 : Int32)), (.int (0 : Int32)), (.int (0 : Int32)), (.int (0 : Int32))] [(.int (0 : Int32)), (.int (0 : Int32)), (.int (0 : Int32)), (.int (0 : Int32))] (-(1 : Int32)) T7.heap n0 Z7 B7 (by decide)) hZ (hw _ (List.mem_of_getElem? (i := 22) rfl)) (hw _ (List.mem_of_getElem? (i := 2) rfl)) (by decide) (by decide)) q8a q8c (g := (mkF m 114 #[.val (.int p1), .val (.int p2), .val (.int p3), .val (.int p4), .val (.int p5), .val (.int x5), .val (.int x6), .val (.int x7), .val (.int x8), .val (.int x9), .val (.int x10), .val (.int x11), .val (.int x12), .val (.int x13), .val (.ref b6), .unset, .unset, .unset, .unset, .unset, .unset, .unset, .unset, .unset, .unset, .unset, .unset, .unset] [(.int x5), (.ref b6)])) rfl (by rw [hml]; rfl) (Steps.refl _) (argsL := [(.int x5)]) (rest := []) (lenOf pdw_2 rfl) rfl (by show 2 * 0 + _ ≤ _; exact Nat.le_of_eq rfl) (hb hby at_114) (fun _ _ => ⟨rfl, rfl, (by decide : 4 + 0 ≤ _), (by decide : 17 + 0 ≤ _)⟩)
  dsimp only [Pt.U, Pt.locs, Pt.cells, Pt.slots] at X8 l8 y8 z8 st8 hQ8
  subst l8 y8 z8
  obtain ⟨rfl, N8q, hz8, B8q⟩ := hQ8
  have Z8 := Nat.le_trans Z7 hz8
  have B8 : LP Z T8.heap n0 b6 [(.int x5), (.int (0 : Int32)), (.int (0 : Int32)), (.int (0 : Int32))] [(.int (0 : Int32)), (.int (0 : Int32)), (.int (0 : Int32)), (.int (0 : Int32))] [(.int (-(1 : Int32))), (.int (0 : Int32)), (.int (0 : Int32)), (.int (0 : Int32))] (0 : Int32) (Int32.ofNat 1) := by
    rw [show (Int32.ofNat 0 + 1 : Int32) = Int32.ofNat 1 from by decide] at B8q; exact B8q
  have N8 := Fr.app N7 N8q
  -- pc 123: com/example/nested_path/nestedpath/pattern/StringPattern$Loops.enter by the contract of the body that the receiver's class selects, rm3
  obtain ⟨cq9, kq9, q9a, q9b, q9c⟩ := isOf hZ rfl B8.exa
  obtain ⟨_, _, ⟨T9, L9, k9, n9⟩, -, X9, ⟨Lc9, hQ9, l9, y9, z9⟩, st9⟩ := X8.virtualBack hx (y := (⟨"com/example/nested_path/nestedpath/pattern/StringPattern$Loops", "enter", "(I)I"⟩ : MethodName)) (z := (⟨"com/example/nested_path/nestedpath/pattern/StringPattern$Loops", "enter", "(I)I"⟩ : MethodName)) hown (mvT hZ (hw _ (List.mem_of_getElem? (i := 18) rfl))) (mvT hZ (hw _ (List.mem_of_getElem? (i := 19) rfl))) (notFace_of_selects (args := #[]) (mvT hZ (hw _ (List.mem_of_getElem? (i := 21) rfl)))) (mvT hZ (hw _ (List.mem_of_getElem? (i := 21) rfl))) (mvT hZ (hw _ (List.mem_of_getElem? (i := 20) rfl))) (by decide) (backOf (W := 0) (rm3_e l Z a0 hw [] b6 x6 1 [(.int x5), (.int (0 : Int32)), (.int (0 : Int32)), (.int (0 : Int32))] [(.int (0 : Int32)), (.int (0 : Int32)), (.int (0 : Int32)), (.int (0 : Int32))] [(.int (-(1 : Int32))), (.int (0 : Int32)), (.int (0 : Int32)), (.int (0 : Int32))] (0 : Int32) T8.heap n0 Z8 B8 (by decide)) hZ (hw _ (List.mem_of_getElem? (i := 22) rfl)) (hw _ (List.mem_of_getElem? (i := 2) rfl)) (by decide) (by decide)) q9a q9c (g := (mkF m 123 #[.val (.int p1), .val (.int p2), .val (.int p3), .val (.int p4), .val (.int p5), .val (.int x5), .val (.int x6), .val (.int x7), .val (.int x8), .val (.int x9), .val (.int x10), .val (.int x11), .val (.int x12), .val (.int x13), .val (.ref b6), .val (.int (0 : Int32)), .unset, .unset, .unset, .unset, .unset, .unset, .unset, .unset, .unset, .unset, .unset, .unset] [(.int x6), (.ref b6)])) rfl (by rw [hml]; rfl) (Steps.refl _) (argsL := [(.int x6)]) (rest := []) (lenOf pdw_2 rfl) rfl (by show 2 * 0 + _ ≤ _; exact Nat.le_of_eq rfl) (hb hby at_123) (fun _ _ => ⟨rfl, rfl, (by decide : 4 + 0 ≤ _), (by decide : 17 + 0 ≤ _)⟩)
  dsimp only [Pt.U, Pt.locs, Pt.cells, Pt.slots] at X9 l9 y9 z9 st9 hQ9
  subst l9 y9 z9
  obtain ⟨rfl, N9q, hz9, B9q⟩ := hQ9
  have Z9 := Nat.le_trans Z8 hz9
  have B9 : LP Z T9.heap n0 b6 [(.int x5), (.int x6), (.int (0 : Int32)), (.int (0 : Int32))] [(.int (0 : Int32)), (.int (0 : Int32)), (.int (0 : Int32)), (.int (0 : Int32))] [(.int (-(1 : Int32))), (.int (0 : Int32)), (.int (0 : Int32)), (.int (0 : Int32))] (1 : Int32) (Int32.ofNat 2) := by
    rw [show (Int32.ofNat 1 + 1 : Int32) = Int32.ofNat 2 from by decide] at B9q; exact B9q
  have N9 := Fr.app N8 N9q
  -- pc 134: com/example/nested_path/nestedpath/pattern/StringPattern$Loops.leave by the contract of the body that the receiver's class selects, rm4
  obtain ⟨cq10, kq10, q10a, q10b, q10c⟩ := isOf hZ rfl B9.exa
  obtain ⟨_, _, ⟨T10, L10, k10, n10⟩, -, X10, ⟨Lc10, hQ10, l10, y10, z10⟩, st10⟩ := X9.virtualBack hx (y := (⟨"com/example/nested_path/nestedpath/pattern/StringPattern$Loops", "leave", "(II)V"⟩ : MethodName)) (z := (⟨"com/example/nested_path/nestedpath/pattern/StringPattern$Loops", "leave", "(II)V"⟩ : MethodName)) hown (mvT hZ (hw _ (List.mem_of_getElem? (i := 25) rfl))) (mvT hZ (hw _ (List.mem_of_getElem? (i := 26) rfl))) (notFace_of_selects (args := #[]) (mvT hZ (hw _ (List.mem_of_getElem? (i := 28) rfl)))) (mvT hZ (hw _ (List.mem_of_getElem? (i := 28) rfl))) (mvT hZ (hw _ (List.mem_of_getElem? (i := 27) rfl))) (by decide) (backOf (W := 0) (rm4_l l Z a0 hw [] b6 (1 : Int32) x7 1 [(.int x5), (.int x6), (.int (0 : Int32)), (.int (0 : Int32))] [(.int (0 : Int32)), (.int (0 : Int32)), (.int (0 : Int32)), (.int (0 : Int32))] [(.int (-(1 : Int32))), (.int (0 : Int32)), (.int (0 : Int32)), (.int (0 : Int32))] (1 : Int32) (Int32.ofNat 2) (0 : Int32) T9.heap n0 Z9 B9 (by decide) (by decide) rfl) hZ (hw _ (List.mem_of_getElem? (i := 29) rfl)) (hw _ (List.mem_of_getElem? (i := 2) rfl)) (by decide) (by decide)) q10a q10c (g := (mkF m 134 #[.val (.int p1), .val (.int p2), .val (.int p3), .val (.int p4), .val (.int p5), .val (.int x5), .val (.int x6), .val (.int x7), .val (.int x8), .val (.int x9), .val (.int x10), .val (.int x11), .val (.int x12), .val (.int x13), .val (.ref b6), .val (.int (0 : Int32)), .val (.int (1 : Int32)), .unset, .unset, .unset, .unset, .unset, .unset, .unset, .unset, .unset, .unset, .unset] [(.int x7), (.int (1 : Int32)), (.ref b6)])) rfl (by rw [hml]; rfl) (Steps.refl _) (argsL := [(.int (1 : Int32)), (.int x7)]) (rest := []) (lenOf pdw_4 rfl) rfl (by show 2 * 0 + _ ≤ _; exact Nat.le_of_eq rfl) (hb hby at_134) (fun _ _ => ⟨rfl, rfl, (by decide : 4 + 0 ≤ _), (by decide : 17 + 0 ≤ _)⟩)
  dsimp only [Pt.U, Pt.locs, Pt.cells, Pt.slots] at X10 l10 y10 z10 st10 hQ10
  subst l10 y10 z10
  obtain ⟨rfl, N10q, hz10, B10q⟩ := hQ10
  have Z10 := Nat.le_trans Z9 hz10
  have B10 : LP Z T10.heap n0 b6 [(.int x5), (.int x6), (.int (0 : Int32)), (.int (0 : Int32))] [(.int (0 : Int32)), (.int x7), (.int (0 : Int32)), (.int (0 : Int32))] [(.int (-(1 : Int32))), (.int (0 : Int32)), (.int (0 : Int32)), (.int (0 : Int32))] (0 : Int32) (Int32.ofNat 2) := B10q
  have N10 := Fr.app N9 N10q
  -- pc 141: com/example/nested_path/nestedpath/pattern/StringPattern$Loops.enter by the contract of the body that the receiver's class selects, rm3
  obtain ⟨cq11, kq11, q11a, q11b, q11c⟩ := isOf hZ rfl B10.exa
  obtain ⟨_, _, ⟨T11, L11, k11, n11⟩, -, X11, ⟨Lc11, hQ11, l11, y11, z11⟩, st11⟩ := X10.virtualBack hx (y := (⟨"com/example/nested_path/nestedpath/pattern/StringPattern$Loops", "enter", "(I)I"⟩ : MethodName)) (z := (⟨"com/example/nested_path/nestedpath/pattern/StringPattern$Loops", "enter", "(I)I"⟩ : MethodName)) hown (mvT hZ (hw _ (List.mem_of_getElem? (i := 18) rfl))) (mvT hZ (hw _ (List.mem_of_getElem? (i := 19) rfl))) (notFace_of_selects (args := #[]) (mvT hZ (hw _ (List.mem_of_getElem? (i := 21) rfl)))) (mvT hZ (hw _ (List.mem_of_getElem? (i := 21) rfl))) (mvT hZ (hw _ (List.mem_of_getElem? (i := 20) rfl))) (by decide) (backOf (W := 0) (rm3_e l Z a0 hw [] b6 x8 2 [(.int x5), (.int x6), (.int (0 : Int32)), (.int (0 : Int32))] [(.int (0 : Int32)), (.int x7), (.int (0 : Int32)), (.int (0 : Int32))] [(.int (-(1 : Int32))), (.int (0 : Int32)), (.int (0 : Int32)), (.int (0 : Int32))] (0 : Int32) T10.heap n0 Z10 B10 (by decide)) hZ (hw _ (List.mem_of_getElem? (i := 22) rfl)) (hw _ (List.mem_of_getElem? (i := 2) rfl)) (by decide) (by decide)) q11a q11c (g := (mkF m 141 #[.val (.int p1), .val (.int p2), .val (.int p3), .val (.int p4), .val (.int p5), .val (.int x5), .val (.int x6), .val (.int x7), .val (.int x8), .val (.int x9), .val (.int x10), .val (.int x11), .val (.int x12), .val (.int x13), .val (.ref b6), .val (.int (0 : Int32)), .val (.int (1 : Int32)), .unset, .unset, .unset, .unset, .unset, .unset, .unset, .unset, .unset, .unset, .unset] [(.int x8), (.ref b6)])) rfl (by rw [hml]; rfl) (Steps.refl _) (argsL := [(.int x8)]) (rest := []) (lenOf pdw_2 rfl) rfl (by show 2 * 0 + _ ≤ _; exact Nat.le_of_eq rfl) (hb hby at_141) (fun _ _ => ⟨rfl, rfl, (by decide : 4 + 0 ≤ _), (by decide : 17 + 0 ≤ _)⟩)
  dsimp only [Pt.U, Pt.locs, Pt.cells, Pt.slots] at X11 l11 y11 z11 st11 hQ11
  subst l11 y11 z11
  obtain ⟨rfl, N11q, hz11, B11q⟩ := hQ11
  have Z11 := Nat.le_trans Z10 hz11
  have B11 : LP Z T11.heap n0 b6 [(.int x5), (.int x6), (.int x8), (.int (0 : Int32))] [(.int (0 : Int32)), (.int x7), (.int (0 : Int32)), (.int (0 : Int32))] [(.int (-(1 : Int32))), (.int (0 : Int32)), (.int (0 : Int32)), (.int (0 : Int32))] (2 : Int32) (Int32.ofNat 3) := by
    rw [show (Int32.ofNat 2 + 1 : Int32) = Int32.ofNat 3 from by decide] at B11q; exact B11q
  have N11 := Fr.app N10 N11q
  -- pc 152: com/example/nested_path/nestedpath/pattern/StringPattern$Loops.leave by the contract of the body that the receiver's class selects, rm4
  obtain ⟨cq12, kq12, q12a, q12b, q12c⟩ := isOf hZ rfl B11.exa
  obtain ⟨_, _, ⟨T12, L12, k12, n12⟩, -, X12, ⟨Lc12, hQ12, l12, y12, z12⟩, st12⟩ := X11.virtualBack hx (y := (⟨"com/example/nested_path/nestedpath/pattern/StringPattern$Loops", "leave", "(II)V"⟩ : MethodName)) (z := (⟨"com/example/nested_path/nestedpath/pattern/StringPattern$Loops", "leave", "(II)V"⟩ : MethodName)) hown (mvT hZ (hw _ (List.mem_of_getElem? (i := 25) rfl))) (mvT hZ (hw _ (List.mem_of_getElem? (i := 26) rfl))) (notFace_of_selects (args := #[]) (mvT hZ (hw _ (List.mem_of_getElem? (i := 28) rfl)))) (mvT hZ (hw _ (List.mem_of_getElem? (i := 28) rfl))) (mvT hZ (hw _ (List.mem_of_getElem? (i := 27) rfl))) (by decide) (backOf (W := 0) (rm4_l l Z a0 hw [] b6 (2 : Int32) x9 2 [(.int x5), (.int x6), (.int x8), (.int (0 : Int32))] [(.int (0 : Int32)), (.int x7), (.int (0 : Int32)), (.int (0 : Int32))] [(.int (-(1 : Int32))), (.int (0 : Int32)), (.int (0 : Int32)), (.int (0 : Int32))] (2 : Int32) (Int32.ofNat 3) (0 : Int32) T11.heap n0 Z11 B11 (by decide) (by decide) rfl) hZ (hw _ (List.mem_of_getElem? (i := 29) rfl)) (hw _ (List.mem_of_getElem? (i := 2) rfl)) (by decide) (by decide)) q12a q12c (g := (mkF m 152 #[.val (.int p1), .val (.int p2), .val (.int p3), .val (.int p4), .val (.int p5), .val (.int x5), .val (.int x6), .val (.int x7), .val (.int x8), .val (.int x9), .val (.int x10), .val (.int x11), .val (.int x12), .val (.int x13), .val (.ref b6), .val (.int (0 : Int32)), .val (.int (1 : Int32)), .val (.int (2 : Int32)), .unset, .unset, .unset, .unset, .unset, .unset, .unset, .unset, .unset, .unset] [(.int x9), (.int (2 : Int32)), (.ref b6)])) rfl (by rw [hml]; rfl) (Steps.refl _) (argsL := [(.int (2 : Int32)), (.int x9)]) (rest := []) (lenOf pdw_4 rfl) rfl (by show 2 * 0 + _ ≤ _; exact Nat.le_of_eq rfl) (hb hby at_152) (fun _ _ => ⟨rfl, rfl, (by decide : 4 + 0 ≤ _), (by decide : 17 + 0 ≤ _)⟩)
  dsimp only [Pt.U, Pt.locs, Pt.cells, Pt.slots] at X12 l12 y12 z12 st12 hQ12
  subst l12 y12 z12
  obtain ⟨rfl, N12q, hz12, B12q⟩ := hQ12
  have Z12 := Nat.le_trans Z11 hz12
  have B12 : LP Z T12.heap n0 b6 [(.int x5), (.int x6), (.int x8), (.int (0 : Int32))] [(.int (0 : Int32)), (.int x7), (.int x9), (.int (0 : Int32))] [(.int (-(1 : Int32))), (.int (0 : Int32)), (.int (0 : Int32)), (.int (0 : Int32))] (0 : Int32) (Int32.ofNat 3) := B12q
  have N12 := Fr.app N11 N12q
  -- pc 159: com/example/nested_path/nestedpath/pattern/StringPattern$Loops.enter by the contract of the body that the receiver's class selects, rm3
  obtain ⟨cq13, kq13, q13a, q13b, q13c⟩ := isOf hZ rfl B12.exa
  obtain ⟨_, _, ⟨T13, L13, k13, n13⟩, -, X13, ⟨Lc13, hQ13, l13, y13, z13⟩, st13⟩ := X12.virtualBack hx (y := (⟨"com/example/nested_path/nestedpath/pattern/StringPattern$Loops", "enter", "(I)I"⟩ : MethodName)) (z := (⟨"com/example/nested_path/nestedpath/pattern/StringPattern$Loops", "enter", "(I)I"⟩ : MethodName)) hown (mvT hZ (hw _ (List.mem_of_getElem? (i := 18) rfl))) (mvT hZ (hw _ (List.mem_of_getElem? (i := 19) rfl))) (notFace_of_selects (args := #[]) (mvT hZ (hw _ (List.mem_of_getElem? (i := 21) rfl)))) (mvT hZ (hw _ (List.mem_of_getElem? (i := 21) rfl))) (mvT hZ (hw _ (List.mem_of_getElem? (i := 20) rfl))) (by decide) (backOf (W := 0) (rm3_e l Z a0 hw [] b6 x10 3 [(.int x5), (.int x6), (.int x8), (.int (0 : Int32))] [(.int (0 : Int32)), (.int x7), (.int x9), (.int (0 : Int32))] [(.int (-(1 : Int32))), (.int (0 : Int32)), (.int (0 : Int32)), (.int (0 : Int32))] (0 : Int32) T12.heap n0 Z12 B12 (by decide)) hZ (hw _ (List.mem_of_getElem? (i := 22) rfl)) (hw _ (List.mem_of_getElem? (i := 2) rfl)) (by decide) (by decide)) q13a q13c (g := (mkF m 159 #[.val (.int p1), .val (.int p2), .val (.int p3), .val (.int p4), .val (.int p5), .val (.int x5), .val (.int x6), .val (.int x7), .val (.int x8), .val (.int x9), .val (.int x10), .val (.int x11), .val (.int x12), .val (.int x13), .val (.ref b6), .val (.int (0 : Int32)), .val (.int (1 : Int32)), .val (.int (2 : Int32)), .unset, .unset, .unset, .unset, .unset, .unset, .unset, .unset, .unset, .unset] [(.int x10), (.ref b6)])) rfl (by rw [hml]; rfl) (Steps.refl _) (argsL := [(.int x10)]) (rest := []) (lenOf pdw_2 rfl) rfl (by show 2 * 0 + _ ≤ _; exact Nat.le_of_eq rfl) (hb hby at_159) (fun _ _ => ⟨rfl, rfl, (by decide : 4 + 0 ≤ _), (by decide : 17 + 0 ≤ _)⟩)
  dsimp only [Pt.U, Pt.locs, Pt.cells, Pt.slots] at X13 l13 y13 z13 st13 hQ13
  subst l13 y13 z13
  obtain ⟨rfl, N13q, hz13, B13q⟩ := hQ13
  have Z13 := Nat.le_trans Z12 hz13
  have B13 : LP Z T13.heap n0 b6 [(.int x5), (.int x6), (.int x8), (.int x10)] [(.int (0 : Int32)), (.int x7), (.int x9), (.int (0 : Int32))] [(.int (-(1 : Int32))), (.int (0 : Int32)), (.int (0 : Int32)), (.int (0 : Int32))] (3 : Int32) (Int32.ofNat 4) := by
    rw [show (Int32.ofNat 3 + 1 : Int32) = Int32.ofNat 4 from by decide] at B13q; exact B13q
  have N13 := Fr.app N12 N13q
  -- pc 170: com/example/nested_path/nestedpath/pattern/StringPattern$Loops.leave by the contract of the body that the receiver's class selects, rm4
  obtain ⟨cq14, kq14, q14a, q14b, q14c⟩ := isOf hZ rfl B13.exa
  obtain ⟨_, _, ⟨T14, L14, k14, n14⟩, -, X14, ⟨Lc14, hQ14, l14, y14, z14⟩, st14⟩ := X13.virtualBack hx (y := (⟨"com/example/nested_path/nestedpath/pattern/StringPattern$Loops", "leave", "(II)V"⟩ : MethodName)) (z := (⟨"com/example/nested_path/nestedpath/pattern/StringPattern$Loops", "leave", "(II)V"⟩ : MethodName)) hown (mvT hZ (hw _ (List.mem_of_getElem? (i := 25) rfl))) (mvT hZ (hw _ (List.mem_of_getElem? (i := 26) rfl))) (notFace_of_selects (args := #[]) (mvT hZ (hw _ (List.mem_of_getElem? (i := 28) rfl)))) (mvT hZ (hw _ (List.mem_of_getElem? (i := 28) rfl))) (mvT hZ (hw _ (List.mem_of_getElem? (i := 27) rfl))) (by decide) (backOf (W := 0) (rm4_l l Z a0 hw [] b6 (3 : Int32) x11 3 [(.int x5), (.int x6), (.int x8), (.int x10)] [(.int (0 : Int32)), (.int x7), (.int x9), (.int (0 : Int32))] [(.int (-(1 : Int32))), (.int (0 : Int32)), (.int (0 : Int32)), (.int (0 : Int32))] (3 : Int32) (Int32.ofNat 4) (0 : Int32) T13.heap n0 Z13 B13 (by decide) (by decide) rfl) hZ (hw _ (List.mem_of_getElem? (i := 29) rfl)) (hw _ (List.mem_of_getElem? (i := 2) rfl)) (by decide) (by decide)) q14a q14c (g := (mkF m 170 #[.val (.int p1), .val (.int p2), .val (.int p3), .val (.int p4), .val (.int p5), .val (.int x5), .val (.int x6), .val (.int x7), .val (.int x8), .val (.int x9), .val (.int x10), .val (.int x11), .val (.int x12), .val (.int x13), .val (.ref b6), .val (.int (0 : Int32)), .val (.int (1 : Int32)), .val (.int (2 : Int32)), .val (.int (3 : Int32)), .unset, .unset, .unset, .unset, .unset, .unset, .unset, .unset, .unset] [(.int x11), (.int (3 : Int32)), (.ref b6)])) rfl (by rw [hml]; rfl) (Steps.refl _) (argsL := [(.int (3 : Int32)), (.int x11)]) (rest := []) (lenOf pdw_4 rfl) rfl (by show 2 * 0 + _ ≤ _; exact Nat.le_of_eq rfl) (hb hby at_170) (fun _ _ => ⟨rfl, rfl, (by decide : 4 + 0 ≤ _), (by decide : 17 + 0 ≤ _)⟩)
  dsimp only [Pt.U, Pt.locs, Pt.cells, Pt.slots] at X14 l14 y14 z14 st14 hQ14
  subst l14 y14 z14
  obtain ⟨rfl, N14q, hz14, B14q⟩ := hQ14
  have Z14 := Nat.le_trans Z13 hz14
  have B14 : LP Z T14.heap n0 b6 [(.int x5), (.int x6), (.int x8), (.int x10)] [(.int (0 : Int32)), (.int x7), (.int x9), (.int x11)] [(.int (-(1 : Int32))), (.int (0 : Int32)), (.int (0 : Int32)), (.int (0 : Int32))] (0 : Int32) (Int32.ofNat 4) := B14q
  have N14 := Fr.app N13 N14q
  -- pc 179: com/example/nested_path/nestedpath/pattern/StringPattern$Loops.leave by the contract of the body that the receiver's class selects, rm4
  obtain ⟨cq15, kq15, q15a, q15b, q15c⟩ := isOf hZ rfl B14.exa
  obtain ⟨_, _, ⟨T15, L15, k15, n15⟩, -, X15, ⟨Lc15, hQ15, l15, y15, z15⟩, st15⟩ := X14.virtualBack hx (y := (⟨"com/example/nested_path/nestedpath/pattern/StringPattern$Loops", "leave", "(II)V"⟩ : MethodName)) (z := (⟨"com/example/nested_path/nestedpath/pattern/StringPattern$Loops", "leave", "(II)V"⟩ : MethodName)) hown (mvT hZ (hw _ (List.mem_of_getElem? (i := 25) rfl))) (mvT hZ (hw _ (List.mem_of_getElem? (i := 26) rfl))) (notFace_of_selects (args := #[]) (mvT hZ (hw _ (List.mem_of_getElem? (i := 28) rfl)))) (mvT hZ (hw _ (List.mem_of_getElem? (i := 28) rfl))) (mvT hZ (hw _ (List.mem_of_getElem? (i := 27) rfl))) (by decide) (backOf (W := 0) (rm4_l l Z a0 hw [] b6 (0 : Int32) x12 0 [(.int x5), (.int x6), (.int x8), (.int x10)] [(.int (0 : Int32)), (.int x7), (.int x9), (.int x11)] [(.int (-(1 : Int32))), (.int (0 : Int32)), (.int (0 : Int32)), (.int (0 : Int32))] (0 : Int32) (Int32.ofNat 4) (-(1 : Int32)) T14.heap n0 Z14 B14 (by decide) (by decide) rfl) hZ (hw _ (List.mem_of_getElem? (i := 29) rfl)) (hw _ (List.mem_of_getElem? (i := 2) rfl)) (by decide) (by decide)) q15a q15c (g := (mkF m 179 #[.val (.int p1), .val (.int p2), .val (.int p3), .val (.int p4), .val (.int p5), .val (.int x5), .val (.int x6), .val (.int x7), .val (.int x8), .val (.int x9), .val (.int x10), .val (.int x11), .val (.int x12), .val (.int x13), .val (.ref b6), .val (.int (0 : Int32)), .val (.int (1 : Int32)), .val (.int (2 : Int32)), .val (.int (3 : Int32)), .unset, .unset, .unset, .unset, .unset, .unset, .unset, .unset, .unset] [(.int x12), (.int (0 : Int32)), (.ref b6)])) rfl (by rw [hml]; rfl) (Steps.refl _) (argsL := [(.int (0 : Int32)), (.int x12)]) (rest := []) (lenOf pdw_4 rfl) rfl (by show 2 * 0 + _ ≤ _; exact Nat.le_of_eq rfl) (hb hby at_179) (fun _ _ => ⟨rfl, rfl, (by decide : 4 + 0 ≤ _), (by decide : 17 + 0 ≤ _)⟩)
  dsimp only [Pt.U, Pt.locs, Pt.cells, Pt.slots] at X15 l15 y15 z15 st15 hQ15
  subst l15 y15 z15
  obtain ⟨rfl, N15q, hz15, B15q⟩ := hQ15
  have Z15 := Nat.le_trans Z14 hz15
  have B15 : LP Z T15.heap n0 b6 [(.int x5), (.int x6), (.int x8), (.int x10)] [(.int x12), (.int x7), (.int x9), (.int x11)] [(.int (-(1 : Int32))), (.int (0 : Int32)), (.int (0 : Int32)), (.int (0 : Int32))] (-(1 : Int32)) (Int32.ofNat 4) := B15q
  have N15 := Fr.app N14 N15q
  obtain ⟨T16, h16, k16, X16, e16, E16, A16, st16⟩ := newP X15 hx hZ (hw _ (List.mem_of_getElem? (i := 9) rfl)) rfl (g := (mkF m 261 #[.val (.int p1), .val (.int p2), .val (.int p3), .val (.int p4), .val (.int p5), .val (.int x5), .val (.int x6), .val (.int x7), .val (.int x8), .val (.int x9), .val (.int x10), .val (.int x11), .val (.int x12), .val (.int x13), .val (.ref b6), .val (.int (0 : Int32)), .val (.int (1 : Int32)), .val (.int (2 : Int32)), .val (.int (3 : Int32)), .val (.int v210), .val (.int v223), .val (.int v236), .val (.int v250), .unset, .unset, .unset, .unset, .unset] [(.int (4 : Int32))])) rfl (hb hby at_261) rfl (by decide) (cap := 4) (by decide) (by decide) (by decide) (by decide)
  obtain ⟨b16, g16⟩ : ∃ z, z = T15.heap.size := ⟨_, rfl⟩      -- the fresh array's address
  rw [← g16] at A16 st16
  have V_b16 : Arv Z h16 b16 k16 .int (4 : Int32) [(.int (0 : Int32)), (.int (0 : Int32)), (.int (0 : Int32)), (.int (0 : Int32))] (.int (0 : Int32)) := (Arv.new A16 (by decide)).pad (pad_rep [] (.int (0 : Int32)) 4)
  have g_b16 : n0 ≤ b16 := Nat.le_trans Z15 (Nat.le_of_eq g16.symm)
  obtain ⟨cl_b16_279, Ar_b16, q_b16, S_b16, N_b16, H_b16, G_b16⟩ := V_b16      -- open the array's fact as it stands now (its cell, kind, length, elements)
  have hin279 : ¬ ((0 : Int32) < 0 ∨ cl_b16_279.slots.size ≤ ((0 : Int32)).toNatClampNeg) := inb_of S_b16 ⟨by decide, by decide⟩
  obtain ⟨T17, h17, X17, e17, W17, st17⟩ := stI X16 hx hZ e16 Ar_b16 (j := (0 : Int32)) hin279 (g := (mkF m 279 #[.val (.int p1), .val (.int p2), .val (.int p3), .val (.int p4), .val (.int p5), .val (.int x5), .val (.int x6), .val (.int x7), .val (.int x8), .val (.int x9), .val (.int x10), .val (.int x11), .val (.int x12), .val (.int x13), .val (.ref b6), .val (.int (0 : Int32)), .val (.int (1 : Int32)), .val (.int (2 : Int32)), .val (.int (3 : Int32)), .val (.int v210), .val (.int v223), .val (.int v236), .val (.int v250), .val (.ref b16), .unset, .unset, .unset, .unset] [(.int v270), (.int (0 : Int32)), (.ref b16)])) rfl rfl (hb hby at_279)
  have V_b16_17 := Arv.set Ar_b16 q_b16 S_b16 N_b16 H_b16 G_b16 rfl W17 0 rfl (Nat.le_of_ble_eq_true rfl)      -- the array as it stands now (the place must lie among its first values: Arv.pad with pad_rep lengthens them)
  have N17 := Fr.snoc X17 N15 g_b16
  obtain ⟨cl_b16_294, Ar_b16, q_b16, S_b16, N_b16, H_b16, G_b16⟩ := V_b16_17      -- open the array's fact as it stands now (its cell, kind, length, elements)
  have hin294 : ¬ ((1 : Int32) < 0 ∨ cl_b16_294.slots.size ≤ ((1 : Int32)).toNatClampNeg) := inb_of S_b16 ⟨by decide, by decide⟩
  obtain ⟨T18, h18, X18, e18, W18, st18⟩ := stI X17 hx hZ e17 Ar_b16 (j := (1 : Int32)) hin294 (g := (mkF m 294 #[.val (.int p1), .val (.int p2), .val (.int p3), .val (.int p4), .val (.int p5), .val (.int x5), .val (.int x6), .val (.int x7), .val (.int x8), .val (.int x9), .val (.int x10), .val (.int x11), .val (.int x12), .val (.int x13), .val (.ref b6), .val (.int (0 : Int32)), .val (.int (1 : Int32)), .val (.int (2 : Int32)), .val (.int (3 : Int32)), .val (.int v210), .val (.int v223), .val (.int v236), .val (.int v250), .val (.ref b16), .unset, .unset, .unset, .unset] [(.int v285), (.int (1 : Int32)), (.ref b16)])) rfl rfl (hb hby at_294)
  have V_b16_18 := Arv.set Ar_b16 q_b16 S_b16 N_b16 H_b16 G_b16 rfl W18 1 rfl (Nat.le_of_ble_eq_true rfl)      -- the array as it stands now (the place must lie among its first values: Arv.pad with pad_rep lengthens them)
  have N18 := Fr.snoc X18 N17 g_b16
  obtain ⟨cl_b16_309, Ar_b16, q_b16, S_b16, N_b16, H_b16, G_b16⟩ := V_b16_18      -- open the array's fact as it stands now (its cell, kind, length, elements)
  have hin309 : ¬ ((2 : Int32) < 0 ∨ cl_b16_309.slots.size ≤ ((2 : Int32)).toNatClampNeg) := inb_of S_b16 ⟨by decide, by decide⟩
  obtain ⟨T19, h19, X19, e19, W19, st19⟩ := stI X18 hx hZ e18 Ar_b16 (j := (2 : Int32)) hin309 (g := (mkF m 309 #[.val (.int p1), .val (.int p2), .val (.int p3), .val (.int p4), .val (.int p5), .val (.int x5), .val (.int x6), .val (.int x7), .val (.int x8), .val (.int x9), .val (.int x10), .val (.int x11), .val (.int x12), .val (.int x13), .val (.ref b6), .val (.int (0 : Int32)), .val (.int (1 : Int32)), .val (.int (2 : Int32)), .val (.int (3 : Int32)), .val (.int v210), .val (.int v223), .val (.int v236), .val (.int v250), .val (.ref b16), .unset, .unset, .unset, .unset] [(.int v300), (.int (2 : Int32)), (.ref b16)])) rfl rfl (hb hby at_309)
  have V_b16_19 := Arv.set Ar_b16 q_b16 S_b16 N_b16 H_b16 G_b16 rfl W19 2 rfl (Nat.le_of_ble_eq_true rfl)      -- the array as it stands now (the place must lie among its first values: Arv.pad with pad_rep lengthens them)
  have N19 := Fr.snoc X19 N18 g_b16
  obtain ⟨cl_b16_324, Ar_b16, q_b16, S_b16, N_b16, H_b16, G_b16⟩ := V_b16_19      -- open the array's fact as it stands now (its cell, kind, length, elements)
  have hin324 : ¬ ((3 : Int32) < 0 ∨ cl_b16_324.slots.size ≤ ((3 : Int32)).toNatClampNeg) := inb_of S_b16 ⟨by decide, by decide⟩
  obtain ⟨T20, h20, X20, e20, W20, st20⟩ := stI X19 hx hZ e19 Ar_b16 (j := (3 : Int32)) hin324 (g := (mkF m 324 #[.val (.int p1), .val (.int p2), .val (.int p3), .val (.int p4), .val (.int p5), .val (.int x5), .val (.int x6), .val (.int x7), .val (.int x8), .val (.int x9), .val (.int x10), .val (.int x11), .val (.int x12), .val (.int x13), .val (.ref b6), .val (.int (0 : Int32)), .val (.int (1 : Int32)), .val (.int (2 : Int32)), .val (.int (3 : Int32)), .val (.int v210), .val (.int v223), .val (.int v236), .val (.int v250), .val (.ref b16), .unset, .unset, .unset, .unset] [(.int v315), (.int (3 : Int32)), (.ref b16)])) rfl rfl (hb hby at_324)
  have V_b16_20 := Arv.set Ar_b16 q_b16 S_b16 N_b16 H_b16 G_b16 rfl W20 3 rfl (Nat.le_of_ble_eq_true rfl)      -- the array as it stands now (the place must lie among its first values: Arv.pad with pad_rep lengthens them)
  have N20 := Fr.snoc X20 N19 g_b16
  -- pc 328: the array at b16: open its fact V_b16 (as at a store): Ar : Arr Z h20 b16 cl <kind>; hin328 : the place is inside; hat328 : cl.slots[place]? = some (.int v270)
  -- pc 343: the array at b16: open its fact V_b16 (as at a store): Ar : Arr Z h20 b16 cl <kind>; hin343 : the place is inside; hat343 : cl.slots[place]? = some (.int v285)
  -- pc 358: the array at b16: open its fact V_b16 (as at a store): Ar : Arr Z h20 b16 cl <kind>; hin358 : the place is inside; hat358 : cl.slots[place]? = some (.int v300)
  -- pc 373: the array at b16: open its fact V_b16 (as at a store): Ar : Arr Z h20 b16 cl <kind>; hin373 : the place is inside; hat373 : cl.slots[place]? = some (.int v315)
  have B20 := B15.new4 E16 g16 W17 W18 W19 W20
  have Z20 : n0 ≤ h20.size := Nat.le_of_lt (Nat.lt_of_le_of_lt g_b6 B20.exa.lt)
  have V20 : Arv Z h20 b16 k16 .int 4 [.int v270, .int v285, .int v300, .int v315] (.int 0) := V_b16_20
  obtain ⟨cl_b16, Ar_b16, q_b16, S_b16, N_b16, H_b16, G_b16⟩ := V_b16_20
  have hin328 : ¬ ((0 : Int32) < 0 ∨ cl_b16.slots.size ≤ ((0 : Int32)).toNatClampNeg) := inb_of S_b16 ⟨by decide, by decide⟩
  have hat328 : cl_b16.slots[((0 : Int32)).toNatClampNeg]? = some (.int v270) := Has.at H_b16 hin328 rfl
  have hin343 : ¬ ((1 : Int32) < 0 ∨ cl_b16.slots.size ≤ ((1 : Int32)).toNatClampNeg) := inb_of S_b16 ⟨by decide, by decide⟩
  have hat343 : cl_b16.slots[((1 : Int32)).toNatClampNeg]? = some (.int v285) := Has.at H_b16 hin343 rfl
  have hin358 : ¬ ((2 : Int32) < 0 ∨ cl_b16.slots.size ≤ ((2 : Int32)).toNatClampNeg) := inb_of S_b16 ⟨by decide, by decide⟩
  have hat358 : cl_b16.slots[((2 : Int32)).toNatClampNeg]? = some (.int v300) := Has.at H_b16 hin358 rfl
  have hin373 : ¬ ((3 : Int32) < 0 ∨ cl_b16.slots.size ≤ ((3 : Int32)).toNatClampNeg) := inb_of S_b16 ⟨by decide, by decide⟩
  have hat373 : cl_b16.slots[((3 : Int32)).toNatClampNeg]? = some (.int v315) := Has.at H_b16 hin373 rfl
  -- pc 392: com/example/nested_path/nestedpath/pattern/StringPattern$Loops.emptyTurns by the contract of the body that the receiver's class selects, rm5
  obtain ⟨cq25, kq25, q25a, q25b, q25c⟩ := isOf hZ e20 B20.exa
  obtain ⟨_, _, ⟨T25, L25, k25, n25⟩, -, X25, ⟨Lc25, hQ25, l25, y25, z25⟩, st25⟩ := X20.virtualBack hx (y := (⟨"com/example/nested_path/nestedpath/pattern/StringPattern$Loops", "emptyTurns", "(II[I)I"⟩ : MethodName)) (z := (⟨"com/example/nested_path/nestedpath/pattern/StringPattern$Loops", "emptyTurns", "(II[I)I"⟩ : MethodName)) hown (mvT hZ (hw _ (List.mem_of_getElem? (i := 30) rfl))) (mvT hZ (hw _ (List.mem_of_getElem? (i := 31) rfl))) (notFace_of_selects (args := #[]) (mvT hZ (hw _ (List.mem_of_getElem? (i := 33) rfl)))) (mvT hZ (hw _ (List.mem_of_getElem? (i := 33) rfl))) (mvT hZ (hw _ (List.mem_of_getElem? (i := 32) rfl))) (by decide) (backOf (W := 0) (rm5 l Z a0 hw [] b6 x13 p3 b16 x5 x6 x8 x10 x12 x7 x9 x11 v270 v285 v300 v315 (-(1 : Int32)) (Int32.ofNat 4) k16 h20 n0 Z20 B20 V20) hZ (hw _ (List.mem_of_getElem? (i := 34) rfl)) (hw _ (List.mem_of_getElem? (i := 2) rfl)) (by decide) (by decide)) q25a q25c (g := (mkF m 392 #[.val (.int p1), .val (.int p2), .val (.int p3), .val (.int p4), .val (.int p5), .val (.int x5), .val (.int x6), .val (.int x7), .val (.int x8), .val (.int x9), .val (.int x10), .val (.int x11), .val (.int x12), .val (.int x13), .val (.ref b6), .val (.int (0 : Int32)), .val (.int (1 : Int32)), .val (.int (2 : Int32)), .val (.int (3 : Int32)), .val (.int v330), .val (.int v345), .val (.int v360), .val (.int v375), .val (.ref b16), .unset, .unset, .unset, .unset] [(.ref b16), (.int p3), (.int x13), (.ref b6)])) rfl (by rw [hml]; rfl) (Steps.refl _) (argsL := [(.int x13), (.int p3), (.ref b16)]) (rest := []) (lenOf pdw_5 rfl) rfl (by show 2 * 0 + _ ≤ _; exact Nat.le_of_eq rfl) (hb hby at_392) (fun _ _ => ⟨rfl, e20, (by decide : 5 + 0 ≤ _), (by decide : 21 + 0 ≤ _)⟩)
  dsimp only [Pt.U, Pt.locs, Pt.cells, Pt.slots] at X25 l25 y25 z25 st25 hQ25
  subst l25 y25 z25
  rw [hgot1 trivial] at hQ25
  obtain ⟨rfl, N25q, hh25⟩ := hQ25
  have N25 := Fr.app N20 N25q
  obtain ⟨fs, hr, hrun, hended, hW, hsame⟩ := X25.leave (v := some (.int (1 : Int32))) (fun h => by rw [Bd.returns] at h; cases h)
  refine ⟨_, _, pre0 _ ?_, hrun, hended, _, _, rfl, ?_, ⟨_, rfl⟩, hW, hsame.mono (by decide) (by decide)⟩
  -- 4. STEPS
  · show Steps p.tables e below (s₁.setTop (mkF m 0 #[.val (.int p1), .val (.int p2), .val (.int p3), .val (.int p4), .val (.int p5), .unset, .unset, .unset, .unset, .unset, .unset, .unset, .unset, .unset, .unset, .unset, .unset, .unset, .unset, .unset, .unset, .unset, .unset, .unset, .unset, .unset, .unset, .unset] [])) _
    refine XS.iloadN X0.here hx rfl (hb hby at_0) rfl ?_
    show Steps p.tables e below (s₁.setTop (mkF m 1 #[.val (.int p1), .val (.int p2), .val (.int p3), .val (.int p4), .val (.int p5), .unset, .unset, .unset, .unset, .unset, .unset, .unset, .unset, .unset, .unset, .unset, .unset, .unset, .unset, .unset, .unset, .unset, .unset, .unset, .unset, .unset, .unset, .unset] [(.int p1)])) _
    refine XS.bipush X0.here hx rfl (hb hby at_1) ?_
    show Steps p.tables e below (s₁.setTop (mkF m 3 #[.val (.int p1), .val (.int p2), .val (.int p3), .val (.int p4), .val (.int p5), .unset, .unset, .unset, .unset, .unset, .unset, .unset, .unset, .unset, .unset, .unset, .unset, .unset, .unset, .unset, .unset, .unset, .unset, .unset, .unset, .unset, .unset, .unset] [(.int (15 : Int32)), (.int p1)])) _
    refine XS.iand X0.here hx rfl (hb hby at_3) rfl ?_
    show Steps p.tables e below (s₁.setTop (mkF m 4 #[.val (.int p1), .val (.int p2), .val (.int p3), .val (.int p4), .val (.int p5), .unset, .unset, .unset, .unset, .unset, .unset, .unset, .unset, .unset, .unset, .unset, .unset, .unset, .unset, .unset, .unset, .unset, .unset, .unset, .unset, .unset, .unset, .unset] [(.int (p1 &&& (15 : Int32)))])) _
    rw [← hx5 trivial]
    refine XS.istore X0.here hx rfl (hb hby at_4) rfl (l' := #[.val (.int p1), .val (.int p2), .val (.int p3), .val (.int p4), .val (.int p5), .val (.int x5), .unset, .unset, .unset, .unset, .unset, .unset, .unset, .unset, .unset, .unset, .unset, .unset, .unset, .unset, .unset, .unset, .unset, .unset, .unset, .unset, .unset, .unset]) rfl ?_
    show Steps p.tables e below (s₁.setTop (mkF m 6 #[.val (.int p1), .val (.int p2), .val (.int p3), .val (.int p4), .val (.int p5), .val (.int x5), .unset, .unset, .unset, .unset, .unset, .unset, .unset, .unset, .unset, .unset, .unset, .unset, .unset, .unset, .unset, .unset, .unset, .unset, .unset, .unset, .unset, .unset] [])) _
    refine XS.iload X0.here hx rfl (hb hby at_6) rfl ?_
    show Steps p.tables e below (s₁.setTop (mkF m 8 #[.val (.int p1), .val (.int p2), .val (.int p3), .val (.int p4), .val (.int p5), .val (.int x5), .unset, .unset, .unset, .unset, .unset, .unset, .unset, .unset, .unset, .unset, .unset, .unset, .unset, .unset, .unset, .unset, .unset, .unset, .unset, .unset, .unset, .unset] [(.int x5)])) _
    refine XS.iconst X0.here hx rfl (hb hby at_8) ?_
    show Steps p.tables e below (s₁.setTop (mkF m 9 #[.val (.int p1), .val (.int p2), .val (.int p3), .val (.int p4), .val (.int p5), .val (.int x5), .unset, .unset, .unset, .unset, .unset, .unset, .unset, .unset, .unset, .unset, .unset, .unset, .unset, .unset, .unset, .unset, .unset, .unset, .unset, .unset, .unset, .unset] [(.int (1 : Int32)), (.int x5)])) _
    refine XS.iadd X0.here hx rfl (hb hby at_9) rfl ?_
    show Steps p.tables e below (s₁.setTop (mkF m 10 #[.val (.int p1), .val (.int p2), .val (.int p3), .val (.int p4), .val (.int p5), .val (.int x5), .unset, .unset, .unset, .unset, .unset, .unset, .unset, .unset, .unset, .unset, .unset, .unset, .unset, .unset, .unset, .unset, .unset, .unset, .unset, .unset, .unset, .unset] [(.int (x5 + (1 : Int32)))])) _
    refine XS.iloadN X0.here hx rfl (hb hby at_10) rfl ?_
    show Steps p.tables e below (s₁.setTop (mkF m 11 #[.val (.int p1), .val (.int p2), .val (.int p3), .val (.int p4), .val (.int p5), .val (.int x5), .unset, .unset, .unset, .unset, .unset, .unset, .unset, .unset, .unset, .unset, .unset, .unset, .unset, .unset, .unset, .unset, .unset, .unset, .unset, .unset, .unset, .unset] [(.int p1), (.int (x5 + (1 : Int32)))])) _
    refine XS.iconst X0.here hx rfl (hb hby at_11) ?_
    show Steps p.tables e below (s₁.setTop (mkF m 12 #[.val (.int p1), .val (.int p2), .val (.int p3), .val (.int p4), .val (.int p5), .val (.int x5), .unset, .unset, .unset, .unset, .unset, .unset, .unset, .unset, .unset, .unset, .unset, .unset, .unset, .unset, .unset, .unset, .unset, .unset, .unset, .unset, .unset, .unset] [(.int (4 : Int32)), (.int p1), (.int (x5 + (1 : Int32)))])) _
    refine XS.iushr X0.here hx rfl (hb hby at_12) rfl ?_
    show Steps p.tables e below (s₁.setTop (mkF m 13 #[.val (.int p1), .val (.int p2), .val (.int p3), .val (.int p4), .val (.int p5), .val (.int x5), .unset, .unset, .unset, .unset, .unset, .unset, .unset, .unset, .unset, .unset, .unset, .unset, .unset, .unset, .unset, .unset, .unset, .unset, .unset, .unset, .unset, .unset] [(.int ((p1.toUInt32 >>> ((4 : Int32) &&& 31).toUInt32).toInt32)), (.int (x5 + (1 : Int32)))])) _
    refine XS.bipush X0.here hx rfl (hb hby at_13) ?_
    show Steps p.tables e below (s₁.setTop (mkF m 15 #[.val (.int p1), .val (.int p2), .val (.int p3), .val (.int p4), .val (.int p5), .val (.int x5), .unset, .unset, .unset, .unset, .unset, .unset, .unset, .unset, .unset, .unset, .unset, .unset, .unset, .unset, .unset, .unset, .unset, .unset, .unset, .unset, .unset, .unset] [(.int (15 : Int32)), (.int ((p1.toUInt32 >>> ((4 : Int32) &&& 31).toUInt32).toInt32)), (.int (x5 + (1 : Int32)))])) _
    refine XS.iand X0.here hx rfl (hb hby at_15) rfl ?_
    show Steps p.tables e below (s₁.setTop (mkF m 16 #[.val (.int p1), .val (.int p2), .val (.int p3), .val (.int p4), .val (.int p5), .val (.int x5), .unset, .unset, .unset, .unset, .unset, .unset, .unset, .unset, .unset, .unset, .unset, .unset, .unset, .unset, .unset, .unset, .unset, .unset, .unset, .unset, .unset, .unset] [(.int (((p1.toUInt32 >>> ((4 : Int32) &&& 31).toUInt32).toInt32) &&& (15 : Int32))), (.int (x5 + (1 : Int32)))])) _
    refine XS.iadd X0.here hx rfl (hb hby at_16) rfl ?_
    show Steps p.tables e below (s₁.setTop (mkF m 17 #[.val (.int p1), .val (.int p2), .val (.int p3), .val (.int p4), .val (.int p5), .val (.int x5), .unset, .unset, .unset, .unset, .unset, .unset, .unset, .unset, .unset, .unset, .unset, .unset, .unset, .unset, .unset, .unset, .unset, .unset, .unset, .unset, .unset, .unset] [(.int ((x5 + (1 : Int32)) + (((p1.toUInt32 >>> ((4 : Int32) &&& 31).toUInt32).toInt32) &&& (15 : Int32))))])) _
    rw [← hx6 trivial]
    refine XS.istore X0.here hx rfl (hb hby at_17) rfl (l' := #[.val (.int p1), .val (.int p2), .val (.int p3), .val (.int p4), .val (.int p5), .val (.int x5), .val (.int x6), .unset, .unset, .unset, .unset, .unset, .unset, .unset, .unset, .unset, .unset, .unset, .unset, .unset, .unset, .unset, .unset, .unset, .unset, .unset, .unset, .unset]) rfl ?_
    show Steps p.tables e below (s₁.setTop (mkF m 19 #[.val (.int p1), .val (.int p2), .val (.int p3), .val (.int p4), .val (.int p5), .val (.int x5), .val (.int x6), .unset, .unset, .unset, .unset, .unset, .unset, .unset, .unset, .unset, .unset, .unset, .unset, .unset, .unset, .unset, .unset, .unset, .unset, .unset, .unset, .unset] [])) _
    refine XS.iload X0.here hx rfl (hb hby at_19) rfl ?_
    show Steps p.tables e below (s₁.setTop (mkF m 21 #[.val (.int p1), .val (.int p2), .val (.int p3), .val (.int p4), .val (.int p5), .val (.int x5), .val (.int x6), .unset, .unset, .unset, .unset, .unset, .unset, .unset, .unset, .unset, .unset, .unset, .unset, .unset, .unset, .unset, .unset, .unset, .unset, .unset, .unset, .unset] [(.int x6)])) _
    refine XS.iloadN X0.here hx rfl (hb hby at_21) rfl ?_
    show Steps p.tables e below (s₁.setTop (mkF m 22 #[.val (.int p1), .val (.int p2), .val (.int p3), .val (.int p4), .val (.int p5), .val (.int x5), .val (.int x6), .unset, .unset, .unset, .unset, .unset, .unset, .unset, .unset, .unset, .unset, .unset, .unset, .unset, .unset, .unset, .unset, .unset, .unset, .unset, .unset, .unset] [(.int p1), (.int x6)])) _
    refine XS.bipush X0.here hx rfl (hb hby at_22) ?_
    show Steps p.tables e below (s₁.setTop (mkF m 24 #[.val (.int p1), .val (.int p2), .val (.int p3), .val (.int p4), .val (.int p5), .val (.int x5), .val (.int x6), .unset, .unset, .unset, .unset, .unset, .unset, .unset, .unset, .unset, .unset, .unset, .unset, .unset, .unset, .unset, .unset, .unset, .unset, .unset, .unset, .unset] [(.int (8 : Int32)), (.int p1), (.int x6)])) _
    refine XS.iushr X0.here hx rfl (hb hby at_24) rfl ?_
    show Steps p.tables e below (s₁.setTop (mkF m 25 #[.val (.int p1), .val (.int p2), .val (.int p3), .val (.int p4), .val (.int p5), .val (.int x5), .val (.int x6), .unset, .unset, .unset, .unset, .unset, .unset, .unset, .unset, .unset, .unset, .unset, .unset, .unset, .unset, .unset, .unset, .unset, .unset, .unset, .unset, .unset] [(.int ((p1.toUInt32 >>> ((8 : Int32) &&& 31).toUInt32).toInt32)), (.int x6)])) _
    refine XS.bipush X0.here hx rfl (hb hby at_25) ?_
    show Steps p.tables e below (s₁.setTop (mkF m 27 #[.val (.int p1), .val (.int p2), .val (.int p3), .val (.int p4), .val (.int p5), .val (.int x5), .val (.int x6), .unset, .unset, .unset, .unset, .unset, .unset, .unset, .unset, .unset, .unset, .unset, .unset, .unset, .unset, .unset, .unset, .unset, .unset, .unset, .unset, .unset] [(.int (15 : Int32)), (.int ((p1.toUInt32 >>> ((8 : Int32) &&& 31).toUInt32).toInt32)), (.int x6)])) _
    refine XS.iand X0.here hx rfl (hb hby at_27) rfl ?_
    show Steps p.tables e below (s₁.setTop (mkF m 28 #[.val (.int p1), .val (.int p2), .val (.int p3), .val (.int p4), .val (.int p5), .val (.int x5), .val (.int x6), .unset, .unset, .unset, .unset, .unset, .unset, .unset, .unset, .unset, .unset, .unset, .unset, .unset, .unset, .unset, .unset, .unset, .unset, .unset, .unset, .unset] [(.int (((p1.toUInt32 >>> ((8 : Int32) &&& 31).toUInt32).toInt32) &&& (15 : Int32))), (.int x6)])) _
    refine XS.iadd X0.here hx rfl (hb hby at_28) rfl ?_
    show Steps p.tables e below (s₁.setTop (mkF m 29 #[.val (.int p1), .val (.int p2), .val (.int p3), .val (.int p4), .val (.int p5), .val (.int x5), .val (.int x6), .unset, .unset, .unset, .unset, .unset, .unset, .unset, .unset, .unset, .unset, .unset, .unset, .unset, .unset, .unset, .unset, .unset, .unset, .unset, .unset, .unset] [(.int (x6 + (((p1.toUInt32 >>> ((8 : Int32) &&& 31).toUInt32).toInt32) &&& (15 : Int32))))])) _
    rw [← hx7 trivial]
    refine XS.istore X0.here hx rfl (hb hby at_29) rfl (l' := #[.val (.int p1), .val (.int p2), .val (.int p3), .val (.int p4), .val (.int p5), .val (.int x5), .val (.int x6), .val (.int x7), .unset, .unset, .unset, .unset, .unset, .unset, .unset, .unset, .unset, .unset, .unset, .unset, .unset, .unset, .unset, .unset, .unset, .unset, .unset, .unset]) rfl ?_
    show Steps p.tables e below (s₁.setTop (mkF m 31 #[.val (.int p1), .val (.int p2), .val (.int p3), .val (.int p4), .val (.int p5), .val (.int x5), .val (.int x6), .val (.int x7), .unset, .unset, .unset, .unset, .unset, .unset, .unset, .unset, .unset, .unset, .unset, .unset, .unset, .unset, .unset, .unset, .unset, .unset, .unset, .unset] [])) _
    refine XS.iload X0.here hx rfl (hb hby at_31) rfl ?_
    show Steps p.tables e below (s₁.setTop (mkF m 33 #[.val (.int p1), .val (.int p2), .val (.int p3), .val (.int p4), .val (.int p5), .val (.int x5), .val (.int x6), .val (.int x7), .unset, .unset, .unset, .unset, .unset, .unset, .unset, .unset, .unset, .unset, .unset, .unset, .unset, .unset, .unset, .unset, .unset, .unset, .unset, .unset] [(.int x7)])) _
    refine XS.iconst X0.here hx rfl (hb hby at_33) ?_
    show Steps p.tables e below (s₁.setTop (mkF m 34 #[.val (.int p1), .val (.int p2), .val (.int p3), .val (.int p4), .val (.int p5), .val (.int x5), .val (.int x6), .val (.int x7), .unset, .unset, .unset, .unset, .unset, .unset, .unset, .unset, .unset, .unset, .unset, .unset, .unset, .unset, .unset, .unset, .unset, .unset, .unset, .unset] [(.int (1 : Int32)), (.int x7)])) _
    refine XS.iadd X0.here hx rfl (hb hby at_34) rfl ?_
    show Steps p.tables e below (s₁.setTop (mkF m 35 #[.val (.int p1), .val (.int p2), .val (.int p3), .val (.int p4), .val (.int p5), .val (.int x5), .val (.int x6), .val (.int x7), .unset, .unset, .unset, .unset, .unset, .unset, .unset, .unset, .unset, .unset, .unset, .unset, .unset, .unset, .unset, .unset, .unset, .unset, .unset, .unset] [(.int (x7 + (1 : Int32)))])) _
    refine XS.iloadN X0.here hx rfl (hb hby at_35) rfl ?_
    show Steps p.tables e below (s₁.setTop (mkF m 36 #[.val (.int p1), .val (.int p2), .val (.int p3), .val (.int p4), .val (.int p5), .val (.int x5), .val (.int x6), .val (.int x7), .unset, .unset, .unset, .unset, .unset, .unset, .unset, .unset, .unset, .unset, .unset, .unset, .unset, .unset, .unset, .unset, .unset, .unset, .unset, .unset] [(.int p1), (.int (x7 + (1 : Int32)))])) _
    refine XS.bipush X0.here hx rfl (hb hby at_36) ?_
    show Steps p.tables e below (s₁.setTop (mkF m 38 #[.val (.int p1), .val (.int p2), .val (.int p3), .val (.int p4), .val (.int p5), .val (.int x5), .val (.int x6), .val (.int x7), .unset, .unset, .unset, .unset, .unset, .unset, .unset, .unset, .unset, .unset, .unset, .unset, .unset, .unset, .unset, .unset, .unset, .unset, .unset, .unset] [(.int (12 : Int32)), (.int p1), (.int (x7 + (1 : Int32)))])) _
    refine XS.iushr X0.here hx rfl (hb hby at_38) rfl ?_
    show Steps p.tables e below (s₁.setTop (mkF m 39 #[.val (.int p1), .val (.int p2), .val (.int p3), .val (.int p4), .val (.int p5), .val (.int x5), .val (.int x6), .val (.int x7), .unset, .unset, .unset, .unset, .unset, .unset, .unset, .unset, .unset, .unset, .unset, .unset, .unset, .unset, .unset, .unset, .unset, .unset, .unset, .unset] [(.int ((p1.toUInt32 >>> ((12 : Int32) &&& 31).toUInt32).toInt32)), (.int (x7 + (1 : Int32)))])) _
    refine XS.bipush X0.here hx rfl (hb hby at_39) ?_
    show Steps p.tables e below (s₁.setTop (mkF m 41 #[.val (.int p1), .val (.int p2), .val (.int p3), .val (.int p4), .val (.int p5), .val (.int x5), .val (.int x6), .val (.int x7), .unset, .unset, .unset, .unset, .unset, .unset, .unset, .unset, .unset, .unset, .unset, .unset, .unset, .unset, .unset, .unset, .unset, .unset, .unset, .unset] [(.int (15 : Int32)), (.int ((p1.toUInt32 >>> ((12 : Int32) &&& 31).toUInt32).toInt32)), (.int (x7 + (1 : Int32)))])) _
    refine XS.iand X0.here hx rfl (hb hby at_41) rfl ?_
    show Steps p.tables e below (s₁.setTop (mkF m 42 #[.val (.int p1), .val (.int p2), .val (.int p3), .val (.int p4), .val (.int p5), .val (.int x5), .val (.int x6), .val (.int x7), .unset, .unset, .unset, .unset, .unset, .unset, .unset, .unset, .unset, .unset, .unset, .unset, .unset, .unset, .unset, .unset, .unset, .unset, .unset, .unset] [(.int (((p1.toUInt32 >>> ((12 : Int32) &&& 31).toUInt32).toInt32) &&& (15 : Int32))), (.int (x7 + (1 : Int32)))])) _
    refine XS.iadd X0.here hx rfl (hb hby at_42) rfl ?_
    show Steps p.tables e below (s₁.setTop (mkF m 43 #[.val (.int p1), .val (.int p2), .val (.int p3), .val (.int p4), .val (.int p5), .val (.int x5), .val (.int x6), .val (.int x7), .unset, .unset, .unset, .unset, .unset, .unset, .unset, .unset, .unset, .unset, .unset, .unset, .unset, .unset, .unset, .unset, .unset, .unset, .unset, .unset] [(.int ((x7 + (1 : Int32)) + (((p1.toUInt32 >>> ((12 : Int32) &&& 31).toUInt32).toInt32) &&& (15 : Int32))))])) _
    rw [← hx8 trivial]
    refine XS.istore X0.here hx rfl (hb hby at_43) rfl (l' := #[.val (.int p1), .val (.int p2), .val (.int p3), .val (.int p4), .val (.int p5), .val (.int x5), .val (.int x6), .val (.int x7), .val (.int x8), .unset, .unset, .unset, .unset, .unset, .unset, .unset, .unset, .unset, .unset, .unset, .unset, .unset, .unset, .unset, .unset, .unset, .unset, .unset]) rfl ?_
    show Steps p.tables e below (s₁.setTop (mkF m 45 #[.val (.int p1), .val (.int p2), .val (.int p3), .val (.int p4), .val (.int p5), .val (.int x5), .val (.int x6), .val (.int x7), .val (.int x8), .unset, .unset, .unset, .unset, .unset, .unset, .unset, .unset, .unset, .unset, .unset, .unset, .unset, .unset, .unset, .unset, .unset, .unset, .unset] [])) _
    refine XS.iload X0.here hx rfl (hb hby at_45) rfl ?_
    show Steps p.tables e below (s₁.setTop (mkF m 47 #[.val (.int p1), .val (.int p2), .val (.int p3), .val (.int p4), .val (.int p5), .val (.int x5), .val (.int x6), .val (.int x7), .val (.int x8), .unset, .unset, .unset, .unset, .unset, .unset, .unset, .unset, .unset, .unset, .unset, .unset, .unset, .unset, .unset, .unset, .unset, .unset, .unset] [(.int x8)])) _
    refine XS.iloadN X0.here hx rfl (hb hby at_47) rfl ?_
    show Steps p.tables e below (s₁.setTop (mkF m 48 #[.val (.int p1), .val (.int p2), .val (.int p3), .val (.int p4), .val (.int p5), .val (.int x5), .val (.int x6), .val (.int x7), .val (.int x8), .unset, .unset, .unset, .unset, .unset, .unset, .unset, .unset, .unset, .unset, .unset, .unset, .unset, .unset, .unset, .unset, .unset, .unset, .unset] [(.int p1), (.int x8)])) _
    refine XS.bipush X0.here hx rfl (hb hby at_48) ?_
    show Steps p.tables e below (s₁.setTop (mkF m 50 #[.val (.int p1), .val (.int p2), .val (.int p3), .val (.int p4), .val (.int p5), .val (.int x5), .val (.int x6), .val (.int x7), .val (.int x8), .unset, .unset, .unset, .unset, .unset, .unset, .unset, .unset, .unset, .unset, .unset, .unset, .unset, .unset, .unset, .unset, .unset, .unset, .unset] [(.int (16 : Int32)), (.int p1), (.int x8)])) _
    refine XS.iushr X0.here hx rfl (hb hby at_50) rfl ?_
    show Steps p.tables e below (s₁.setTop (mkF m 51 #[.val (.int p1), .val (.int p2), .val (.int p3), .val (.int p4), .val (.int p5), .val (.int x5), .val (.int x6), .val (.int x7), .val (.int x8), .unset, .unset, .unset, .unset, .unset, .unset, .unset, .unset, .unset, .unset, .unset, .unset, .unset, .unset, .unset, .unset, .unset, .unset, .unset] [(.int ((p1.toUInt32 >>> ((16 : Int32) &&& 31).toUInt32).toInt32)), (.int x8)])) _
    refine XS.bipush X0.here hx rfl (hb hby at_51) ?_
    show Steps p.tables e below (s₁.setTop (mkF m 53 #[.val (.int p1), .val (.int p2), .val (.int p3), .val (.int p4), .val (.int p5), .val (.int x5), .val (.int x6), .val (.int x7), .val (.int x8), .unset, .unset, .unset, .unset, .unset, .unset, .unset, .unset, .unset, .unset, .unset, .unset, .unset, .unset, .unset, .unset, .unset, .unset, .unset] [(.int (15 : Int32)), (.int ((p1.toUInt32 >>> ((16 : Int32) &&& 31).toUInt32).toInt32)), (.int x8)])) _
    refine XS.iand X0.here hx rfl (hb hby at_53) rfl ?_
    show Steps p.tables e below (s₁.setTop (mkF m 54 #[.val (.int p1), .val (.int p2), .val (.int p3), .val (.int p4), .val (.int p5), .val (.int x5), .val (.int x6), .val (.int x7), .val (.int x8), .unset, .unset, .unset, .unset, .unset, .unset, .unset, .unset, .unset, .unset, .unset, .unset, .unset, .unset, .unset, .unset, .unset, .unset, .unset] [(.int (((p1.toUInt32 >>> ((16 : Int32) &&& 31).toUInt32).toInt32) &&& (15 : Int32))), (.int x8)])) _
    refine XS.iadd X0.here hx rfl (hb hby at_54) rfl ?_
    show Steps p.tables e below (s₁.setTop (mkF m 55 #[.val (.int p1), .val (.int p2), .val (.int p3), .val (.int p4), .val (.int p5), .val (.int x5), .val (.int x6), .val (.int x7), .val (.int x8), .unset, .unset, .unset, .unset, .unset, .unset, .unset, .unset, .unset, .unset, .unset, .unset, .unset, .unset, .unset, .unset, .unset, .unset, .unset] [(.int (x8 + (((p1.toUInt32 >>> ((16 : Int32) &&& 31).toUInt32).toInt32) &&& (15 : Int32))))])) _
    rw [← hx9 trivial]
    refine XS.istore X0.here hx rfl (hb hby at_55) rfl (l' := #[.val (.int p1), .val (.int p2), .val (.int p3), .val (.int p4), .val (.int p5), .val (.int x5), .val (.int x6), .val (.int x7), .val (.int x8), .val (.int x9), .unset, .unset, .unset, .unset, .unset, .unset, .unset, .unset, .unset, .unset, .unset, .unset, .unset, .unset, .unset, .unset, .unset, .unset]) rfl ?_
    show Steps p.tables e below (s₁.setTop (mkF m 57 #[.val (.int p1), .val (.int p2), .val (.int p3), .val (.int p4), .val (.int p5), .val (.int x5), .val (.int x6), .val (.int x7), .val (.int x8), .val (.int x9), .unset, .unset, .unset, .unset, .unset, .unset, .unset, .unset, .unset, .unset, .unset, .unset, .unset, .unset, .unset, .unset, .unset, .unset] [])) _
    refine XS.iload X0.here hx rfl (hb hby at_57) rfl ?_
    show Steps p.tables e below (s₁.setTop (mkF m 59 #[.val (.int p1), .val (.int p2), .val (.int p3), .val (.int p4), .val (.int p5), .val (.int x5), .val (.int x6), .val (.int x7), .val (.int x8), .val (.int x9), .unset, .unset, .unset, .unset, .unset, .unset, .unset, .unset, .unset, .unset, .unset, .unset, .unset, .unset, .unset, .unset, .unset, .unset] [(.int x9)])) _
    refine XS.iconst X0.here hx rfl (hb hby at_59) ?_
    show Steps p.tables e below (s₁.setTop (mkF m 60 #[.val (.int p1), .val (.int p2), .val (.int p3), .val (.int p4), .val (.int p5), .val (.int x5), .val (.int x6), .val (.int x7), .val (.int x8), .val (.int x9), .unset, .unset, .unset, .unset, .unset, .unset, .unset, .unset, .unset, .unset, .unset, .unset, .unset, .unset, .unset, .unset, .unset, .unset] [(.int (1 : Int32)), (.int x9)])) _
    refine XS.iadd X0.here hx rfl (hb hby at_60) rfl ?_
    show Steps p.tables e below (s₁.setTop (mkF m 61 #[.val (.int p1), .val (.int p2), .val (.int p3), .val (.int p4), .val (.int p5), .val (.int x5), .val (.int x6), .val (.int x7), .val (.int x8), .val (.int x9), .unset, .unset, .unset, .unset, .unset, .unset, .unset, .unset, .unset, .unset, .unset, .unset, .unset, .unset, .unset, .unset, .unset, .unset] [(.int (x9 + (1 : Int32)))])) _
    refine XS.iloadN X0.here hx rfl (hb hby at_61) rfl ?_
    show Steps p.tables e below (s₁.setTop (mkF m 62 #[.val (.int p1), .val (.int p2), .val (.int p3), .val (.int p4), .val (.int p5), .val (.int x5), .val (.int x6), .val (.int x7), .val (.int x8), .val (.int x9), .unset, .unset, .unset, .unset, .unset, .unset, .unset, .unset, .unset, .unset, .unset, .unset, .unset, .unset, .unset, .unset, .unset, .unset] [(.int p1), (.int (x9 + (1 : Int32)))])) _
    refine XS.bipush X0.here hx rfl (hb hby at_62) ?_
    show Steps p.tables e below (s₁.setTop (mkF m 64 #[.val (.int p1), .val (.int p2), .val (.int p3), .val (.int p4), .val (.int p5), .val (.int x5), .val (.int x6), .val (.int x7), .val (.int x8), .val (.int x9), .unset, .unset, .unset, .unset, .unset, .unset, .unset, .unset, .unset, .unset, .unset, .unset, .unset, .unset, .unset, .unset, .unset, .unset] [(.int (20 : Int32)), (.int p1), (.int (x9 + (1 : Int32)))])) _
    refine XS.iushr X0.here hx rfl (hb hby at_64) rfl ?_
    show Steps p.tables e below (s₁.setTop (mkF m 65 #[.val (.int p1), .val (.int p2), .val (.int p3), .val (.int p4), .val (.int p5), .val (.int x5), .val (.int x6), .val (.int x7), .val (.int x8), .val (.int x9), .unset, .unset, .unset, .unset, .unset, .unset, .unset, .unset, .unset, .unset, .unset, .unset, .unset, .unset, .unset, .unset, .unset, .unset] [(.int ((p1.toUInt32 >>> ((20 : Int32) &&& 31).toUInt32).toInt32)), (.int (x9 + (1 : Int32)))])) _
    refine XS.bipush X0.here hx rfl (hb hby at_65) ?_
    show Steps p.tables e below (s₁.setTop (mkF m 67 #[.val (.int p1), .val (.int p2), .val (.int p3), .val (.int p4), .val (.int p5), .val (.int x5), .val (.int x6), .val (.int x7), .val (.int x8), .val (.int x9), .unset, .unset, .unset, .unset, .unset, .unset, .unset, .unset, .unset, .unset, .unset, .unset, .unset, .unset, .unset, .unset, .unset, .unset] [(.int (15 : Int32)), (.int ((p1.toUInt32 >>> ((20 : Int32) &&& 31).toUInt32).toInt32)), (.int (x9 + (1 : Int32)))])) _
    refine XS.iand X0.here hx rfl (hb hby at_67) rfl ?_
    show Steps p.tables e below (s₁.setTop (mkF m 68 #[.val (.int p1), .val (.int p2), .val (.int p3), .val (.int p4), .val (.int p5), .val (.int x5), .val (.int x6), .val (.int x7), .val (.int x8), .val (.int x9), .unset, .unset, .unset, .unset, .unset, .unset, .unset, .unset, .unset, .unset, .unset, .unset, .unset, .unset, .unset, .unset, .unset, .unset] [(.int (((p1.toUInt32 >>> ((20 : Int32) &&& 31).toUInt32).toInt32) &&& (15 : Int32))), (.int (x9 + (1 : Int32)))])) _
    refine XS.iadd X0.here hx rfl (hb hby at_68) rfl ?_
    show Steps p.tables e below (s₁.setTop (mkF m 69 #[.val (.int p1), .val (.int p2), .val (.int p3), .val (.int p4), .val (.int p5), .val (.int x5), .val (.int x6), .val (.int x7), .val (.int x8), .val (.int x9), .unset, .unset, .unset, .unset, .unset, .unset, .unset, .unset, .unset, .unset, .unset, .unset, .unset, .unset, .unset, .unset, .unset, .unset] [(.int ((x9 + (1 : Int32)) + (((p1.toUInt32 >>> ((20 : Int32) &&& 31).toUInt32).toInt32) &&& (15 : Int32))))])) _
    rw [← hx10 trivial]
    refine XS.istore X0.here hx rfl (hb hby at_69) rfl (l' := #[.val (.int p1), .val (.int p2), .val (.int p3), .val (.int p4), .val (.int p5), .val (.int x5), .val (.int x6), .val (.int x7), .val (.int x8), .val (.int x9), .val (.int x10), .unset, .unset, .unset, .unset, .unset, .unset, .unset, .unset, .unset, .unset, .unset, .unset, .unset, .unset, .unset, .unset, .unset]) rfl ?_
    show Steps p.tables e below (s₁.setTop (mkF m 71 #[.val (.int p1), .val (.int p2), .val (.int p3), .val (.int p4), .val (.int p5), .val (.int x5), .val (.int x6), .val (.int x7), .val (.int x8), .val (.int x9), .val (.int x10), .unset, .unset, .unset, .unset, .unset, .unset, .unset, .unset, .unset, .unset, .unset, .unset, .unset, .unset, .unset, .unset, .unset] [])) _
    refine XS.iload X0.here hx rfl (hb hby at_71) rfl ?_
    show Steps p.tables e below (s₁.setTop (mkF m 73 #[.val (.int p1), .val (.int p2), .val (.int p3), .val (.int p4), .val (.int p5), .val (.int x5), .val (.int x6), .val (.int x7), .val (.int x8), .val (.int x9), .val (.int x10), .unset, .unset, .unset, .unset, .unset, .unset, .unset, .unset, .unset, .unset, .unset, .unset, .unset, .unset, .unset, .unset, .unset] [(.int x10)])) _
    refine XS.iloadN X0.here hx rfl (hb hby at_73) rfl ?_
    show Steps p.tables e below (s₁.setTop (mkF m 74 #[.val (.int p1), .val (.int p2), .val (.int p3), .val (.int p4), .val (.int p5), .val (.int x5), .val (.int x6), .val (.int x7), .val (.int x8), .val (.int x9), .val (.int x10), .unset, .unset, .unset, .unset, .unset, .unset, .unset, .unset, .unset, .unset, .unset, .unset, .unset, .unset, .unset, .unset, .unset] [(.int p1), (.int x10)])) _
    refine XS.bipush X0.here hx rfl (hb hby at_74) ?_
    show Steps p.tables e below (s₁.setTop (mkF m 76 #[.val (.int p1), .val (.int p2), .val (.int p3), .val (.int p4), .val (.int p5), .val (.int x5), .val (.int x6), .val (.int x7), .val (.int x8), .val (.int x9), .val (.int x10), .unset, .unset, .unset, .unset, .unset, .unset, .unset, .unset, .unset, .unset, .unset, .unset, .unset, .unset, .unset, .unset, .unset] [(.int (24 : Int32)), (.int p1), (.int x10)])) _
    refine XS.iushr X0.here hx rfl (hb hby at_76) rfl ?_
    show Steps p.tables e below (s₁.setTop (mkF m 77 #[.val (.int p1), .val (.int p2), .val (.int p3), .val (.int p4), .val (.int p5), .val (.int x5), .val (.int x6), .val (.int x7), .val (.int x8), .val (.int x9), .val (.int x10), .unset, .unset, .unset, .unset, .unset, .unset, .unset, .unset, .unset, .unset, .unset, .unset, .unset, .unset, .unset, .unset, .unset] [(.int ((p1.toUInt32 >>> ((24 : Int32) &&& 31).toUInt32).toInt32)), (.int x10)])) _
    refine XS.bipush X0.here hx rfl (hb hby at_77) ?_
    show Steps p.tables e below (s₁.setTop (mkF m 79 #[.val (.int p1), .val (.int p2), .val (.int p3), .val (.int p4), .val (.int p5), .val (.int x5), .val (.int x6), .val (.int x7), .val (.int x8), .val (.int x9), .val (.int x10), .unset, .unset, .unset, .unset, .unset, .unset, .unset, .unset, .unset, .unset, .unset, .unset, .unset, .unset, .unset, .unset, .unset] [(.int (15 : Int32)), (.int ((p1.toUInt32 >>> ((24 : Int32) &&& 31).toUInt32).toInt32)), (.int x10)])) _
    refine XS.iand X0.here hx rfl (hb hby at_79) rfl ?_
    show Steps p.tables e below (s₁.setTop (mkF m 80 #[.val (.int p1), .val (.int p2), .val (.int p3), .val (.int p4), .val (.int p5), .val (.int x5), .val (.int x6), .val (.int x7), .val (.int x8), .val (.int x9), .val (.int x10), .unset, .unset, .unset, .unset, .unset, .unset, .unset, .unset, .unset, .unset, .unset, .unset, .unset, .unset, .unset, .unset, .unset] [(.int (((p1.toUInt32 >>> ((24 : Int32) &&& 31).toUInt32).toInt32) &&& (15 : Int32))), (.int x10)])) _
    refine XS.iadd X0.here hx rfl (hb hby at_80) rfl ?_
    show Steps p.tables e below (s₁.setTop (mkF m 81 #[.val (.int p1), .val (.int p2), .val (.int p3), .val (.int p4), .val (.int p5), .val (.int x5), .val (.int x6), .val (.int x7), .val (.int x8), .val (.int x9), .val (.int x10), .unset, .unset, .unset, .unset, .unset, .unset, .unset, .unset, .unset, .unset, .unset, .unset, .unset, .unset, .unset, .unset, .unset] [(.int (x10 + (((p1.toUInt32 >>> ((24 : Int32) &&& 31).toUInt32).toInt32) &&& (15 : Int32))))])) _
    rw [← hx11 trivial]
    refine XS.istore X0.here hx rfl (hb hby at_81) rfl (l' := #[.val (.int p1), .val (.int p2), .val (.int p3), .val (.int p4), .val (.int p5), .val (.int x5), .val (.int x6), .val (.int x7), .val (.int x8), .val (.int x9), .val (.int x10), .val (.int x11), .unset, .unset, .unset, .unset, .unset, .unset, .unset, .unset, .unset, .unset, .unset, .unset, .unset, .unset, .unset, .unset]) rfl ?_
    show Steps p.tables e below (s₁.setTop (mkF m 83 #[.val (.int p1), .val (.int p2), .val (.int p3), .val (.int p4), .val (.int p5), .val (.int x5), .val (.int x6), .val (.int x7), .val (.int x8), .val (.int x9), .val (.int x10), .val (.int x11), .unset, .unset, .unset, .unset, .unset, .unset, .unset, .unset, .unset, .unset, .unset, .unset, .unset, .unset, .unset, .unset] [])) _
    refine XS.iload X0.here hx rfl (hb hby at_83) rfl ?_
    show Steps p.tables e below (s₁.setTop (mkF m 85 #[.val (.int p1), .val (.int p2), .val (.int p3), .val (.int p4), .val (.int p5), .val (.int x5), .val (.int x6), .val (.int x7), .val (.int x8), .val (.int x9), .val (.int x10), .val (.int x11), .unset, .unset, .unset, .unset, .unset, .unset, .unset, .unset, .unset, .unset, .unset, .unset, .unset, .unset, .unset, .unset] [(.int x11)])) _
    refine XS.iloadN X0.here hx rfl (hb hby at_85) rfl ?_
    show Steps p.tables e below (s₁.setTop (mkF m 86 #[.val (.int p1), .val (.int p2), .val (.int p3), .val (.int p4), .val (.int p5), .val (.int x5), .val (.int x6), .val (.int x7), .val (.int x8), .val (.int x9), .val (.int x10), .val (.int x11), .unset, .unset, .unset, .unset, .unset, .unset, .unset, .unset, .unset, .unset, .unset, .unset, .unset, .unset, .unset, .unset] [(.int p1), (.int x11)])) _
    refine XS.bipush X0.here hx rfl (hb hby at_86) ?_
    show Steps p.tables e below (s₁.setTop (mkF m 88 #[.val (.int p1), .val (.int p2), .val (.int p3), .val (.int p4), .val (.int p5), .val (.int x5), .val (.int x6), .val (.int x7), .val (.int x8), .val (.int x9), .val (.int x10), .val (.int x11), .unset, .unset, .unset, .unset, .unset, .unset, .unset, .unset, .unset, .unset, .unset, .unset, .unset, .unset, .unset, .unset] [(.int (28 : Int32)), (.int p1), (.int x11)])) _
    refine XS.iushr X0.here hx rfl (hb hby at_88) rfl ?_
    show Steps p.tables e below (s₁.setTop (mkF m 89 #[.val (.int p1), .val (.int p2), .val (.int p3), .val (.int p4), .val (.int p5), .val (.int x5), .val (.int x6), .val (.int x7), .val (.int x8), .val (.int x9), .val (.int x10), .val (.int x11), .unset, .unset, .unset, .unset, .unset, .unset, .unset, .unset, .unset, .unset, .unset, .unset, .unset, .unset, .unset, .unset] [(.int ((p1.toUInt32 >>> ((28 : Int32) &&& 31).toUInt32).toInt32)), (.int x11)])) _
    refine XS.bipush X0.here hx rfl (hb hby at_89) ?_
    show Steps p.tables e below (s₁.setTop (mkF m 91 #[.val (.int p1), .val (.int p2), .val (.int p3), .val (.int p4), .val (.int p5), .val (.int x5), .val (.int x6), .val (.int x7), .val (.int x8), .val (.int x9), .val (.int x10), .val (.int x11), .unset, .unset, .unset, .unset, .unset, .unset, .unset, .unset, .unset, .unset, .unset, .unset, .unset, .unset, .unset, .unset] [(.int (15 : Int32)), (.int ((p1.toUInt32 >>> ((28 : Int32) &&& 31).toUInt32).toInt32)), (.int x11)])) _
    refine XS.iand X0.here hx rfl (hb hby at_91) rfl ?_
    show Steps p.tables e below (s₁.setTop (mkF m 92 #[.val (.int p1), .val (.int p2), .val (.int p3), .val (.int p4), .val (.int p5), .val (.int x5), .val (.int x6), .val (.int x7), .val (.int x8), .val (.int x9), .val (.int x10), .val (.int x11), .unset, .unset, .unset, .unset, .unset, .unset, .unset, .unset, .unset, .unset, .unset, .unset, .unset, .unset, .unset, .unset] [(.int (((p1.toUInt32 >>> ((28 : Int32) &&& 31).toUInt32).toInt32) &&& (15 : Int32))), (.int x11)])) _
    refine XS.iadd X0.here hx rfl (hb hby at_92) rfl ?_
    show Steps p.tables e below (s₁.setTop (mkF m 93 #[.val (.int p1), .val (.int p2), .val (.int p3), .val (.int p4), .val (.int p5), .val (.int x5), .val (.int x6), .val (.int x7), .val (.int x8), .val (.int x9), .val (.int x10), .val (.int x11), .unset, .unset, .unset, .unset, .unset, .unset, .unset, .unset, .unset, .unset, .unset, .unset, .unset, .unset, .unset, .unset] [(.int (x11 + (((p1.toUInt32 >>> ((28 : Int32) &&& 31).toUInt32).toInt32) &&& (15 : Int32))))])) _
    rw [← hx12 trivial]
    refine XS.istore X0.here hx rfl (hb hby at_93) rfl (l' := #[.val (.int p1), .val (.int p2), .val (.int p3), .val (.int p4), .val (.int p5), .val (.int x5), .val (.int x6), .val (.int x7), .val (.int x8), .val (.int x9), .val (.int x10), .val (.int x11), .val (.int x12), .unset, .unset, .unset, .unset, .unset, .unset, .unset, .unset, .unset, .unset, .unset, .unset, .unset, .unset, .unset]) rfl ?_
    show Steps p.tables e below (s₁.setTop (mkF m 95 #[.val (.int p1), .val (.int p2), .val (.int p3), .val (.int p4), .val (.int p5), .val (.int x5), .val (.int x6), .val (.int x7), .val (.int x8), .val (.int x9), .val (.int x10), .val (.int x11), .val (.int x12), .unset, .unset, .unset, .unset, .unset, .unset, .unset, .unset, .unset, .unset, .unset, .unset, .unset, .unset, .unset] [])) _
    refine XS.iloadN X0.here hx rfl (hb hby at_95) rfl ?_
    show Steps p.tables e below (s₁.setTop (mkF m 96 #[.val (.int p1), .val (.int p2), .val (.int p3), .val (.int p4), .val (.int p5), .val (.int x5), .val (.int x6), .val (.int x7), .val (.int x8), .val (.int x9), .val (.int x10), .val (.int x11), .val (.int x12), .unset, .unset, .unset, .unset, .unset, .unset, .unset, .unset, .unset, .unset, .unset, .unset, .unset, .unset, .unset] [(.int p2)])) _
    refine XS.bipush X0.here hx rfl (hb hby at_96) ?_
    show Steps p.tables e below (s₁.setTop (mkF m 98 #[.val (.int p1), .val (.int p2), .val (.int p3), .val (.int p4), .val (.int p5), .val (.int x5), .val (.int x6), .val (.int x7), .val (.int x8), .val (.int x9), .val (.int x10), .val (.int x11), .val (.int x12), .unset, .unset, .unset, .unset, .unset, .unset, .unset, .unset, .unset, .unset, .unset, .unset, .unset, .unset, .unset] [(.int (127 : Int32)), (.int p2)])) _
    refine XS.iand X0.here hx rfl (hb hby at_98) rfl ?_
    show Steps p.tables e below (s₁.setTop (mkF m 99 #[.val (.int p1), .val (.int p2), .val (.int p3), .val (.int p4), .val (.int p5), .val (.int x5), .val (.int x6), .val (.int x7), .val (.int x8), .val (.int x9), .val (.int x10), .val (.int x11), .val (.int x12), .unset, .unset, .unset, .unset, .unset, .unset, .unset, .unset, .unset, .unset, .unset, .unset, .unset, .unset, .unset] [(.int (p2 &&& (127 : Int32)))])) _
    rw [← hx13 trivial]
    refine XS.istore X0.here hx rfl (hb hby at_99) rfl (l' := #[.val (.int p1), .val (.int p2), .val (.int p3), .val (.int p4), .val (.int p5), .val (.int x5), .val (.int x6), .val (.int x7), .val (.int x8), .val (.int x9), .val (.int x10), .val (.int x11), .val (.int x12), .val (.int x13), .unset, .unset, .unset, .unset, .unset, .unset, .unset, .unset, .unset, .unset, .unset, .unset, .unset, .unset]) rfl ?_
    show Steps p.tables e below (s₁.setTop (mkF m 101 #[.val (.int p1), .val (.int p2), .val (.int p3), .val (.int p4), .val (.int p5), .val (.int x5), .val (.int x6), .val (.int x7), .val (.int x8), .val (.int x9), .val (.int x10), .val (.int x11), .val (.int x12), .val (.int x13), .unset, .unset, .unset, .unset, .unset, .unset, .unset, .unset, .unset, .unset, .unset, .unset, .unset, .unset] [])) _
    refine st6 _ ?_
    show Steps p.tables e below (T6.setTop (mkF m 104 #[.val (.int p1), .val (.int p2), .val (.int p3), .val (.int p4), .val (.int p5), .val (.int x5), .val (.int x6), .val (.int x7), .val (.int x8), .val (.int x9), .val (.int x10), .val (.int x11), .val (.int x12), .val (.int x13), .unset, .unset, .unset, .unset, .unset, .unset, .unset, .unset, .unset, .unset, .unset, .unset, .unset, .unset] [(.ref b6)])) _
    refine XS.dup X6.here hx rfl (hb hby at_104) rfl rfl ?_
    show Steps p.tables e below (T6.setTop (mkF m 105 #[.val (.int p1), .val (.int p2), .val (.int p3), .val (.int p4), .val (.int p5), .val (.int x5), .val (.int x6), .val (.int x7), .val (.int x8), .val (.int x9), .val (.int x10), .val (.int x11), .val (.int x12), .val (.int x13), .unset, .unset, .unset, .unset, .unset, .unset, .unset, .unset, .unset, .unset, .unset, .unset, .unset, .unset] [(.ref b6), (.ref b6)])) _
    refine st7.trans ?_
    show Steps p.tables e below (T7.setTop (mkF m 108 #[.val (.int p1), .val (.int p2), .val (.int p3), .val (.int p4), .val (.int p5), .val (.int x5), .val (.int x6), .val (.int x7), .val (.int x8), .val (.int x9), .val (.int x10), .val (.int x11), .val (.int x12), .val (.int x13), .unset, .unset, .unset, .unset, .unset, .unset, .unset, .unset, .unset, .unset, .unset, .unset, .unset, .unset] [(.ref b6)])) _
    refine XS.astore X7.here hx rfl (hb hby at_108) rfl rfl (l' := #[.val (.int p1), .val (.int p2), .val (.int p3), .val (.int p4), .val (.int p5), .val (.int x5), .val (.int x6), .val (.int x7), .val (.int x8), .val (.int x9), .val (.int x10), .val (.int x11), .val (.int x12), .val (.int x13), .val (.ref b6), .unset, .unset, .unset, .unset, .unset, .unset, .unset, .unset, .unset, .unset, .unset, .unset, .unset]) rfl ?_
    show Steps p.tables e below (T7.setTop (mkF m 110 #[.val (.int p1), .val (.int p2), .val (.int p3), .val (.int p4), .val (.int p5), .val (.int x5), .val (.int x6), .val (.int x7), .val (.int x8), .val (.int x9), .val (.int x10), .val (.int x11), .val (.int x12), .val (.int x13), .val (.ref b6), .unset, .unset, .unset, .unset, .unset, .unset, .unset, .unset, .unset, .unset, .unset, .unset, .unset] [])) _
    refine XS.aload X7.here hx rfl (hb hby at_110) rfl rfl ?_
    show Steps p.tables e below (T7.setTop (mkF m 112 #[.val (.int p1), .val (.int p2), .val (.int p3), .val (.int p4), .val (.int p5), .val (.int x5), .val (.int x6), .val (.int x7), .val (.int x8), .val (.int x9), .val (.int x10), .val (.int x11), .val (.int x12), .val (.int x13), .val (.ref b6), .unset, .unset, .unset, .unset, .unset, .unset, .unset, .unset, .unset, .unset, .unset, .unset, .unset] [(.ref b6)])) _
    refine XS.iload X7.here hx rfl (hb hby at_112) rfl ?_
    show Steps p.tables e below (T7.setTop (mkF m 114 #[.val (.int p1), .val (.int p2), .val (.int p3), .val (.int p4), .val (.int p5), .val (.int x5), .val (.int x6), .val (.int x7), .val (.int x8), .val (.int x9), .val (.int x10), .val (.int x11), .val (.int x12), .val (.int x13), .val (.ref b6), .unset, .unset, .unset, .unset, .unset, .unset, .unset, .unset, .unset, .unset, .unset, .unset, .unset] [(.int x5), (.ref b6)])) _
    refine st8.trans ?_
    show Steps p.tables e below (T8.setTop (mkF m 117 #[.val (.int p1), .val (.int p2), .val (.int p3), .val (.int p4), .val (.int p5), .val (.int x5), .val (.int x6), .val (.int x7), .val (.int x8), .val (.int x9), .val (.int x10), .val (.int x11), .val (.int x12), .val (.int x13), .val (.ref b6), .unset, .unset, .unset, .unset, .unset, .unset, .unset, .unset, .unset, .unset, .unset, .unset, .unset] [(.int (0 : Int32))])) _
    refine XS.istore X8.here hx rfl (hb hby at_117) rfl (l' := #[.val (.int p1), .val (.int p2), .val (.int p3), .val (.int p4), .val (.int p5), .val (.int x5), .val (.int x6), .val (.int x7), .val (.int x8), .val (.int x9), .val (.int x10), .val (.int x11), .val (.int x12), .val (.int x13), .val (.ref b6), .val (.int (0 : Int32)), .unset, .unset, .unset, .unset, .unset, .unset, .unset, .unset, .unset, .unset, .unset, .unset]) rfl ?_
    show Steps p.tables e below (T8.setTop (mkF m 119 #[.val (.int p1), .val (.int p2), .val (.int p3), .val (.int p4), .val (.int p5), .val (.int x5), .val (.int x6), .val (.int x7), .val (.int x8), .val (.int x9), .val (.int x10), .val (.int x11), .val (.int x12), .val (.int x13), .val (.ref b6), .val (.int (0 : Int32)), .unset, .unset, .unset, .unset, .unset, .unset, .unset, .unset, .unset, .unset, .unset, .unset] [])) _
    refine XS.aload X8.here hx rfl (hb hby at_119) rfl rfl ?_
    show Steps p.tables e below (T8.setTop (mkF m 121 #[.val (.int p1), .val (.int p2), .val (.int p3), .val (.int p4), .val (.int p5), .val (.int x5), .val (.int x6), .val (.int x7), .val (.int x8), .val (.int x9), .val (.int x10), .val (.int x11), .val (.int x12), .val (.int x13), .val (.ref b6), .val (.int (0 : Int32)), .unset, .unset, .unset, .unset, .unset, .unset, .unset, .unset, .unset, .unset, .unset, .unset] [(.ref b6)])) _
    refine XS.iload X8.here hx rfl (hb hby at_121) rfl ?_
    show Steps p.tables e below (T8.setTop (mkF m 123 #[.val (.int p1), .val (.int p2), .val (.int p3), .val (.int p4), .val (.int p5), .val (.int x5), .val (.int x6), .val (.int x7), .val (.int x8), .val (.int x9), .val (.int x10), .val (.int x11), .val (.int x12), .val (.int x13), .val (.ref b6), .val (.int (0 : Int32)), .unset, .unset, .unset, .unset, .unset, .unset, .unset, .unset, .unset, .unset, .unset, .unset] [(.int x6), (.ref b6)])) _
    refine st9.trans ?_
    show Steps p.tables e below (T9.setTop (mkF m 126 #[.val (.int p1), .val (.int p2), .val (.int p3), .val (.int p4), .val (.int p5), .val (.int x5), .val (.int x6), .val (.int x7), .val (.int x8), .val (.int x9), .val (.int x10), .val (.int x11), .val (.int x12), .val (.int x13), .val (.ref b6), .val (.int (0 : Int32)), .unset, .unset, .unset, .unset, .unset, .unset, .unset, .unset, .unset, .unset, .unset, .unset] [(.int (1 : Int32))])) _
    refine XS.istore X9.here hx rfl (hb hby at_126) rfl (l' := #[.val (.int p1), .val (.int p2), .val (.int p3), .val (.int p4), .val (.int p5), .val (.int x5), .val (.int x6), .val (.int x7), .val (.int x8), .val (.int x9), .val (.int x10), .val (.int x11), .val (.int x12), .val (.int x13), .val (.ref b6), .val (.int (0 : Int32)), .val (.int (1 : Int32)), .unset, .unset, .unset, .unset, .unset, .unset, .unset, .unset, .unset, .unset, .unset]) rfl ?_
    show Steps p.tables e below (T9.setTop (mkF m 128 #[.val (.int p1), .val (.int p2), .val (.int p3), .val (.int p4), .val (.int p5), .val (.int x5), .val (.int x6), .val (.int x7), .val (.int x8), .val (.int x9), .val (.int x10), .val (.int x11), .val (.int x12), .val (.int x13), .val (.ref b6), .val (.int (0 : Int32)), .val (.int (1 : Int32)), .unset, .unset, .unset, .unset, .unset, .unset, .unset, .unset, .unset, .unset, .unset] [])) _
    refine XS.aload X9.here hx rfl (hb hby at_128) rfl rfl ?_
    show Steps p.tables e below (T9.setTop (mkF m 130 #[.val (.int p1), .val (.int p2), .val (.int p3), .val (.int p4), .val (.int p5), .val (.int x5), .val (.int x6), .val (.int x7), .val (.int x8), .val (.int x9), .val (.int x10), .val (.int x11), .val (.int x12), .val (.int x13), .val (.ref b6), .val (.int (0 : Int32)), .val (.int (1 : Int32)), .unset, .unset, .unset, .unset, .unset, .unset, .unset, .unset, .unset, .unset, .unset] [(.ref b6)])) _
    refine XS.iload X9.here hx rfl (hb hby at_130) rfl ?_
    show Steps p.tables e below (T9.setTop (mkF m 132 #[.val (.int p1), .val (.int p2), .val (.int p3), .val (.int p4), .val (.int p5), .val (.int x5), .val (.int x6), .val (.int x7), .val (.int x8), .val (.int x9), .val (.int x10), .val (.int x11), .val (.int x12), .val (.int x13), .val (.ref b6), .val (.int (0 : Int32)), .val (.int (1 : Int32)), .unset, .unset, .unset, .unset, .unset, .unset, .unset, .unset, .unset, .unset, .unset] [(.int (1 : Int32)), (.ref b6)])) _
    refine XS.iload X9.here hx rfl (hb hby at_132) rfl ?_
    show Steps p.tables e below (T9.setTop (mkF m 134 #[.val (.int p1), .val (.int p2), .val (.int p3), .val (.int p4), .val (.int p5), .val (.int x5), .val (.int x6), .val (.int x7), .val (.int x8), .val (.int x9), .val (.int x10), .val (.int x11), .val (.int x12), .val (.int x13), .val (.ref b6), .val (.int (0 : Int32)), .val (.int (1 : Int32)), .unset, .unset, .unset, .unset, .unset, .unset, .unset, .unset, .unset, .unset, .unset] [(.int x7), (.int (1 : Int32)), (.ref b6)])) _
    refine st10.trans ?_
    show Steps p.tables e below (T10.setTop (mkF m 137 #[.val (.int p1), .val (.int p2), .val (.int p3), .val (.int p4), .val (.int p5), .val (.int x5), .val (.int x6), .val (.int x7), .val (.int x8), .val (.int x9), .val (.int x10), .val (.int x11), .val (.int x12), .val (.int x13), .val (.ref b6), .val (.int (0 : Int32)), .val (.int (1 : Int32)), .unset, .unset, .unset, .unset, .unset, .unset, .unset, .unset, .unset, .unset, .unset] [])) _
    refine XS.aload X10.here hx rfl (hb hby at_137) rfl rfl ?_
    show Steps p.tables e below (T10.setTop (mkF m 139 #[.val (.int p1), .val (.int p2), .val (.int p3), .val (.int p4), .val (.int p5), .val (.int x5), .val (.int x6), .val (.int x7), .val (.int x8), .val (.int x9), .val (.int x10), .val (.int x11), .val (.int x12), .val (.int x13), .val (.ref b6), .val (.int (0 : Int32)), .val (.int (1 : Int32)), .unset, .unset, .unset, .unset, .unset, .unset, .unset, .unset, .unset, .unset, .unset] [(.ref b6)])) _
    refine XS.iload X10.here hx rfl (hb hby at_139) rfl ?_
    show Steps p.tables e below (T10.setTop (mkF m 141 #[.val (.int p1), .val (.int p2), .val (.int p3), .val (.int p4), .val (.int p5), .val (.int x5), .val (.int x6), .val (.int x7), .val (.int x8), .val (.int x9), .val (.int x10), .val (.int x11), .val (.int x12), .val (.int x13), .val (.ref b6), .val (.int (0 : Int32)), .val (.int (1 : Int32)), .unset, .unset, .unset, .unset, .unset, .unset, .unset, .unset, .unset, .unset, .unset] [(.int x8), (.ref b6)])) _
    refine st11.trans ?_
    show Steps p.tables e below (T11.setTop (mkF m 144 #[.val (.int p1), .val (.int p2), .val (.int p3), .val (.int p4), .val (.int p5), .val (.int x5), .val (.int x6), .val (.int x7), .val (.int x8), .val (.int x9), .val (.int x10), .val (.int x11), .val (.int x12), .val (.int x13), .val (.ref b6), .val (.int (0 : Int32)), .val (.int (1 : Int32)), .unset, .unset, .unset, .unset, .unset, .unset, .unset, .unset, .unset, .unset, .unset] [(.int (2 : Int32))])) _
    refine XS.istore X11.here hx rfl (hb hby at_144) rfl (l' := #[.val (.int p1), .val (.int p2), .val (.int p3), .val (.int p4), .val (.int p5), .val (.int x5), .val (.int x6), .val (.int x7), .val (.int x8), .val (.int x9), .val (.int x10), .val (.int x11), .val (.int x12), .val (.int x13), .val (.ref b6), .val (.int (0 : Int32)), .val (.int (1 : Int32)), .val (.int (2 : Int32)), .unset, .unset, .unset, .unset, .unset, .unset, .unset, .unset, .unset, .unset]) rfl ?_
    show Steps p.tables e below (T11.setTop (mkF m 146 #[.val (.int p1), .val (.int p2), .val (.int p3), .val (.int p4), .val (.int p5), .val (.int x5), .val (.int x6), .val (.int x7), .val (.int x8), .val (.int x9), .val (.int x10), .val (.int x11), .val (.int x12), .val (.int x13), .val (.ref b6), .val (.int (0 : Int32)), .val (.int (1 : Int32)), .val (.int (2 : Int32)), .unset, .unset, .unset, .unset, .unset, .unset, .unset, .unset, .unset, .unset] [])) _
    refine XS.aload X11.here hx rfl (hb hby at_146) rfl rfl ?_
    show Steps p.tables e below (T11.setTop (mkF m 148 #[.val (.int p1), .val (.int p2), .val (.int p3), .val (.int p4), .val (.int p5), .val (.int x5), .val (.int x6), .val (.int x7), .val (.int x8), .val (.int x9), .val (.int x10), .val (.int x11), .val (.int x12), .val (.int x13), .val (.ref b6), .val (.int (0 : Int32)), .val (.int (1 : Int32)), .val (.int (2 : Int32)), .unset, .unset, .unset, .unset, .unset, .unset, .unset, .unset, .unset, .unset] [(.ref b6)])) _
    refine XS.iload X11.here hx rfl (hb hby at_148) rfl ?_
    show Steps p.tables e below (T11.setTop (mkF m 150 #[.val (.int p1), .val (.int p2), .val (.int p3), .val (.int p4), .val (.int p5), .val (.int x5), .val (.int x6), .val (.int x7), .val (.int x8), .val (.int x9), .val (.int x10), .val (.int x11), .val (.int x12), .val (.int x13), .val (.ref b6), .val (.int (0 : Int32)), .val (.int (1 : Int32)), .val (.int (2 : Int32)), .unset, .unset, .unset, .unset, .unset, .unset, .unset, .unset, .unset, .unset] [(.int (2 : Int32)), (.ref b6)])) _
    refine XS.iload X11.here hx rfl (hb hby at_150) rfl ?_
    show Steps p.tables e below (T11.setTop (mkF m 152 #[.val (.int p1), .val (.int p2), .val (.int p3), .val (.int p4), .val (.int p5), .val (.int x5), .val (.int x6), .val (.int x7), .val (.int x8), .val (.int x9), .val (.int x10), .val (.int x11), .val (.int x12), .val (.int x13), .val (.ref b6), .val (.int (0 : Int32)), .val (.int (1 : Int32)), .val (.int (2 : Int32)), .unset, .unset, .unset, .unset, .unset, .unset, .unset, .unset, .unset, .unset] [(.int x9), (.int (2 : Int32)), (.ref b6)])) _
    refine st12.trans ?_
    show Steps p.tables e below (T12.setTop (mkF m 155 #[.val (.int p1), .val (.int p2), .val (.int p3), .val (.int p4), .val (.int p5), .val (.int x5), .val (.int x6), .val (.int x7), .val (.int x8), .val (.int x9), .val (.int x10), .val (.int x11), .val (.int x12), .val (.int x13), .val (.ref b6), .val (.int (0 : Int32)), .val (.int (1 : Int32)), .val (.int (2 : Int32)), .unset, .unset, .unset, .unset, .unset, .unset, .unset, .unset, .unset, .unset] [])) _
    refine XS.aload X12.here hx rfl (hb hby at_155) rfl rfl ?_
    show Steps p.tables e below (T12.setTop (mkF m 157 #[.val (.int p1), .val (.int p2), .val (.int p3), .val (.int p4), .val (.int p5), .val (.int x5), .val (.int x6), .val (.int x7), .val (.int x8), .val (.int x9), .val (.int x10), .val (.int x11), .val (.int x12), .val (.int x13), .val (.ref b6), .val (.int (0 : Int32)), .val (.int (1 : Int32)), .val (.int (2 : Int32)), .unset, .unset, .unset, .unset, .unset, .unset, .unset, .unset, .unset, .unset] [(.ref b6)])) _
    refine XS.iload X12.here hx rfl (hb hby at_157) rfl ?_
    show Steps p.tables e below (T12.setTop (mkF m 159 #[.val (.int p1), .val (.int p2), .val (.int p3), .val (.int p4), .val (.int p5), .val (.int x5), .val (.int x6), .val (.int x7), .val (.int x8), .val (.int x9), .val (.int x10), .val (.int x11), .val (.int x12), .val (.int x13), .val (.ref b6), .val (.int (0 : Int32)), .val (.int (1 : Int32)), .val (.int (2 : Int32)), .unset, .unset, .unset, .unset, .unset, .unset, .unset, .unset, .unset, .unset] [(.int x10), (.ref b6)])) _
    refine st13.trans ?_
    show Steps p.tables e below (T13.setTop (mkF m 162 #[.val (.int p1), .val (.int p2), .val (.int p3), .val (.int p4), .val (.int p5), .val (.int x5), .val (.int x6), .val (.int x7), .val (.int x8), .val (.int x9), .val (.int x10), .val (.int x11), .val (.int x12), .val (.int x13), .val (.ref b6), .val (.int (0 : Int32)), .val (.int (1 : Int32)), .val (.int (2 : Int32)), .unset, .unset, .unset, .unset, .unset, .unset, .unset, .unset, .unset, .unset] [(.int (3 : Int32))])) _
    refine XS.istore X13.here hx rfl (hb hby at_162) rfl (l' := #[.val (.int p1), .val (.int p2), .val (.int p3), .val (.int p4), .val (.int p5), .val (.int x5), .val (.int x6), .val (.int x7), .val (.int x8), .val (.int x9), .val (.int x10), .val (.int x11), .val (.int x12), .val (.int x13), .val (.ref b6), .val (.int (0 : Int32)), .val (.int (1 : Int32)), .val (.int (2 : Int32)), .val (.int (3 : Int32)), .unset, .unset, .unset, .unset, .unset, .unset, .unset, .unset, .unset]) rfl ?_
    show Steps p.tables e below (T13.setTop (mkF m 164 #[.val (.int p1), .val (.int p2), .val (.int p3), .val (.int p4), .val (.int p5), .val (.int x5), .val (.int x6), .val (.int x7), .val (.int x8), .val (.int x9), .val (.int x10), .val (.int x11), .val (.int x12), .val (.int x13), .val (.ref b6), .val (.int (0 : Int32)), .val (.int (1 : Int32)), .val (.int (2 : Int32)), .val (.int (3 : Int32)), .unset, .unset, .unset, .unset, .unset, .unset, .unset, .unset, .unset] [])) _
    refine XS.aload X13.here hx rfl (hb hby at_164) rfl rfl ?_
    show Steps p.tables e below (T13.setTop (mkF m 166 #[.val (.int p1), .val (.int p2), .val (.int p3), .val (.int p4), .val (.int p5), .val (.int x5), .val (.int x6), .val (.int x7), .val (.int x8), .val (.int x9), .val (.int x10), .val (.int x11), .val (.int x12), .val (.int x13), .val (.ref b6), .val (.int (0 : Int32)), .val (.int (1 : Int32)), .val (.int (2 : Int32)), .val (.int (3 : Int32)), .unset, .unset, .unset, .unset, .unset, .unset, .unset, .unset, .unset] [(.ref b6)])) _
    refine XS.iload X13.here hx rfl (hb hby at_166) rfl ?_
    show Steps p.tables e below (T13.setTop (mkF m 168 #[.val (.int p1), .val (.int p2), .val (.int p3), .val (.int p4), .val (.int p5), .val (.int x5), .val (.int x6), .val (.int x7), .val (.int x8), .val (.int x9), .val (.int x10), .val (.int x11), .val (.int x12), .val (.int x13), .val (.ref b6), .val (.int (0 : Int32)), .val (.int (1 : Int32)), .val (.int (2 : Int32)), .val (.int (3 : Int32)), .unset, .unset, .unset, .unset, .unset, .unset, .unset, .unset, .unset] [(.int (3 : Int32)), (.ref b6)])) _
    refine XS.iload X13.here hx rfl (hb hby at_168) rfl ?_
    show Steps p.tables e below (T13.setTop (mkF m 170 #[.val (.int p1), .val (.int p2), .val (.int p3), .val (.int p4), .val (.int p5), .val (.int x5), .val (.int x6), .val (.int x7), .val (.int x8), .val (.int x9), .val (.int x10), .val (.int x11), .val (.int x12), .val (.int x13), .val (.ref b6), .val (.int (0 : Int32)), .val (.int (1 : Int32)), .val (.int (2 : Int32)), .val (.int (3 : Int32)), .unset, .unset, .unset, .unset, .unset, .unset, .unset, .unset, .unset] [(.int x11), (.int (3 : Int32)), (.ref b6)])) _
    refine st14.trans ?_
    show Steps p.tables e below (T14.setTop (mkF m 173 #[.val (.int p1), .val (.int p2), .val (.int p3), .val (.int p4), .val (.int p5), .val (.int x5), .val (.int x6), .val (.int x7), .val (.int x8), .val (.int x9), .val (.int x10), .val (.int x11), .val (.int x12), .val (.int x13), .val (.ref b6), .val (.int (0 : Int32)), .val (.int (1 : Int32)), .val (.int (2 : Int32)), .val (.int (3 : Int32)), .unset, .unset, .unset, .unset, .unset, .unset, .unset, .unset, .unset] [])) _
    refine XS.aload X14.here hx rfl (hb hby at_173) rfl rfl ?_
    show Steps p.tables e below (T14.setTop (mkF m 175 #[.val (.int p1), .val (.int p2), .val (.int p3), .val (.int p4), .val (.int p5), .val (.int x5), .val (.int x6), .val (.int x7), .val (.int x8), .val (.int x9), .val (.int x10), .val (.int x11), .val (.int x12), .val (.int x13), .val (.ref b6), .val (.int (0 : Int32)), .val (.int (1 : Int32)), .val (.int (2 : Int32)), .val (.int (3 : Int32)), .unset, .unset, .unset, .unset, .unset, .unset, .unset, .unset, .unset] [(.ref b6)])) _
    refine XS.iload X14.here hx rfl (hb hby at_175) rfl ?_
    show Steps p.tables e below (T14.setTop (mkF m 177 #[.val (.int p1), .val (.int p2), .val (.int p3), .val (.int p4), .val (.int p5), .val (.int x5), .val (.int x6), .val (.int x7), .val (.int x8), .val (.int x9), .val (.int x10), .val (.int x11), .val (.int x12), .val (.int x13), .val (.ref b6), .val (.int (0 : Int32)), .val (.int (1 : Int32)), .val (.int (2 : Int32)), .val (.int (3 : Int32)), .unset, .unset, .unset, .unset, .unset, .unset, .unset, .unset, .unset] [(.int (0 : Int32)), (.ref b6)])) _
    refine XS.iload X14.here hx rfl (hb hby at_177) rfl ?_
    show Steps p.tables e below (T14.setTop (mkF m 179 #[.val (.int p1), .val (.int p2), .val (.int p3), .val (.int p4), .val (.int p5), .val (.int x5), .val (.int x6), .val (.int x7), .val (.int x8), .val (.int x9), .val (.int x10), .val (.int x11), .val (.int x12), .val (.int x13), .val (.ref b6), .val (.int (0 : Int32)), .val (.int (1 : Int32)), .val (.int (2 : Int32)), .val (.int (3 : Int32)), .unset, .unset, .unset, .unset, .unset, .unset, .unset, .unset, .unset] [(.int x12), (.int (0 : Int32)), (.ref b6)])) _
    refine st15.trans ?_
    show Steps p.tables e below (T15.setTop (mkF m 182 #[.val (.int p1), .val (.int p2), .val (.int p3), .val (.int p4), .val (.int p5), .val (.int x5), .val (.int x6), .val (.int x7), .val (.int x8), .val (.int x9), .val (.int x10), .val (.int x11), .val (.int x12), .val (.int x13), .val (.ref b6), .val (.int (0 : Int32)), .val (.int (1 : Int32)), .val (.int (2 : Int32)), .val (.int (3 : Int32)), .unset, .unset, .unset, .unset, .unset, .unset, .unset, .unset, .unset] [])) _
    refine XS.iload X15.here hx rfl (hb hby at_182) rfl ?_
    show Steps p.tables e below (T15.setTop (mkF m 184 #[.val (.int p1), .val (.int p2), .val (.int p3), .val (.int p4), .val (.int p5), .val (.int x5), .val (.int x6), .val (.int x7), .val (.int x8), .val (.int x9), .val (.int x10), .val (.int x11), .val (.int x12), .val (.int x13), .val (.ref b6), .val (.int (0 : Int32)), .val (.int (1 : Int32)), .val (.int (2 : Int32)), .val (.int (3 : Int32)), .unset, .unset, .unset, .unset, .unset, .unset, .unset, .unset, .unset] [(.int (0 : Int32))])) _
    refine XS.ifNo X15.here hx rfl (hb hby at_184) rfl ((if0 _ _).trans (teq (by decide : (0 : Int32) = (0 : Int32))).2) ?_
    show Steps p.tables e below (T15.setTop (mkF m 187 #[.val (.int p1), .val (.int p2), .val (.int p3), .val (.int p4), .val (.int p5), .val (.int x5), .val (.int x6), .val (.int x7), .val (.int x8), .val (.int x9), .val (.int x10), .val (.int x11), .val (.int x12), .val (.int x13), .val (.ref b6), .val (.int (0 : Int32)), .val (.int (1 : Int32)), .val (.int (2 : Int32)), .val (.int (3 : Int32)), .unset, .unset, .unset, .unset, .unset, .unset, .unset, .unset, .unset] [])) _
    refine XS.iload X15.here hx rfl (hb hby at_187) rfl ?_
    show Steps p.tables e below (T15.setTop (mkF m 189 #[.val (.int p1), .val (.int p2), .val (.int p3), .val (.int p4), .val (.int p5), .val (.int x5), .val (.int x6), .val (.int x7), .val (.int x8), .val (.int x9), .val (.int x10), .val (.int x11), .val (.int x12), .val (.int x13), .val (.ref b6), .val (.int (0 : Int32)), .val (.int (1 : Int32)), .val (.int (2 : Int32)), .val (.int (3 : Int32)), .unset, .unset, .unset, .unset, .unset, .unset, .unset, .unset, .unset] [(.int (1 : Int32))])) _
    refine XS.iconst X15.here hx rfl (hb hby at_189) ?_
    show Steps p.tables e below (T15.setTop (mkF m 190 #[.val (.int p1), .val (.int p2), .val (.int p3), .val (.int p4), .val (.int p5), .val (.int x5), .val (.int x6), .val (.int x7), .val (.int x8), .val (.int x9), .val (.int x10), .val (.int x11), .val (.int x12), .val (.int x13), .val (.ref b6), .val (.int (0 : Int32)), .val (.int (1 : Int32)), .val (.int (2 : Int32)), .val (.int (3 : Int32)), .unset, .unset, .unset, .unset, .unset, .unset, .unset, .unset, .unset] [(.int (1 : Int32)), (.int (1 : Int32))])) _
    refine XS.icmpNo X15.here hx rfl (hb hby at_190) rfl (teq (by decide : (1 : Int32) = (1 : Int32))).2 ?_
    show Steps p.tables e below (T15.setTop (mkF m 193 #[.val (.int p1), .val (.int p2), .val (.int p3), .val (.int p4), .val (.int p5), .val (.int x5), .val (.int x6), .val (.int x7), .val (.int x8), .val (.int x9), .val (.int x10), .val (.int x11), .val (.int x12), .val (.int x13), .val (.ref b6), .val (.int (0 : Int32)), .val (.int (1 : Int32)), .val (.int (2 : Int32)), .val (.int (3 : Int32)), .unset, .unset, .unset, .unset, .unset, .unset, .unset, .unset, .unset] [])) _
    refine XS.iload X15.here hx rfl (hb hby at_193) rfl ?_
    show Steps p.tables e below (T15.setTop (mkF m 195 #[.val (.int p1), .val (.int p2), .val (.int p3), .val (.int p4), .val (.int p5), .val (.int x5), .val (.int x6), .val (.int x7), .val (.int x8), .val (.int x9), .val (.int x10), .val (.int x11), .val (.int x12), .val (.int x13), .val (.ref b6), .val (.int (0 : Int32)), .val (.int (1 : Int32)), .val (.int (2 : Int32)), .val (.int (3 : Int32)), .unset, .unset, .unset, .unset, .unset, .unset, .unset, .unset, .unset] [(.int (2 : Int32))])) _
    refine XS.iconst X15.here hx rfl (hb hby at_195) ?_
    show Steps p.tables e below (T15.setTop (mkF m 196 #[.val (.int p1), .val (.int p2), .val (.int p3), .val (.int p4), .val (.int p5), .val (.int x5), .val (.int x6), .val (.int x7), .val (.int x8), .val (.int x9), .val (.int x10), .val (.int x11), .val (.int x12), .val (.int x13), .val (.ref b6), .val (.int (0 : Int32)), .val (.int (1 : Int32)), .val (.int (2 : Int32)), .val (.int (3 : Int32)), .unset, .unset, .unset, .unset, .unset, .unset, .unset, .unset, .unset] [(.int (2 : Int32)), (.int (2 : Int32))])) _
    refine XS.icmpNo X15.here hx rfl (hb hby at_196) rfl (teq (by decide : (2 : Int32) = (2 : Int32))).2 ?_
    show Steps p.tables e below (T15.setTop (mkF m 199 #[.val (.int p1), .val (.int p2), .val (.int p3), .val (.int p4), .val (.int p5), .val (.int x5), .val (.int x6), .val (.int x7), .val (.int x8), .val (.int x9), .val (.int x10), .val (.int x11), .val (.int x12), .val (.int x13), .val (.ref b6), .val (.int (0 : Int32)), .val (.int (1 : Int32)), .val (.int (2 : Int32)), .val (.int (3 : Int32)), .unset, .unset, .unset, .unset, .unset, .unset, .unset, .unset, .unset] [])) _
    refine XS.iload X15.here hx rfl (hb hby at_199) rfl ?_
    show Steps p.tables e below (T15.setTop (mkF m 201 #[.val (.int p1), .val (.int p2), .val (.int p3), .val (.int p4), .val (.int p5), .val (.int x5), .val (.int x6), .val (.int x7), .val (.int x8), .val (.int x9), .val (.int x10), .val (.int x11), .val (.int x12), .val (.int x13), .val (.ref b6), .val (.int (0 : Int32)), .val (.int (1 : Int32)), .val (.int (2 : Int32)), .val (.int (3 : Int32)), .unset, .unset, .unset, .unset, .unset, .unset, .unset, .unset, .unset] [(.int (3 : Int32))])) _
    refine XS.iconst X15.here hx rfl (hb hby at_201) ?_
    show Steps p.tables e below (T15.setTop (mkF m 202 #[.val (.int p1), .val (.int p2), .val (.int p3), .val (.int p4), .val (.int p5), .val (.int x5), .val (.int x6), .val (.int x7), .val (.int x8), .val (.int x9), .val (.int x10), .val (.int x11), .val (.int x12), .val (.int x13), .val (.ref b6), .val (.int (0 : Int32)), .val (.int (1 : Int32)), .val (.int (2 : Int32)), .val (.int (3 : Int32)), .unset, .unset, .unset, .unset, .unset, .unset, .unset, .unset, .unset] [(.int (3 : Int32)), (.int (3 : Int32))])) _
    refine XS.icmpYes X15.here hx rfl (pc0 := 202) (pc' := 207) rfl (hb hby at_202) rfl (teq (by decide : (3 : Int32) = (3 : Int32))).1 (by decide) (by decide) ?_
    show Steps p.tables e below (T15.setTop (mkF m 207 #[.val (.int p1), .val (.int p2), .val (.int p3), .val (.int p4), .val (.int p5), .val (.int x5), .val (.int x6), .val (.int x7), .val (.int x8), .val (.int x9), .val (.int x10), .val (.int x11), .val (.int x12), .val (.int x13), .val (.ref b6), .val (.int (0 : Int32)), .val (.int (1 : Int32)), .val (.int (2 : Int32)), .val (.int (3 : Int32)), .unset, .unset, .unset, .unset, .unset, .unset, .unset, .unset, .unset] [])) _
    refine XS.iloadN X15.here hx rfl (hb hby at_207) rfl ?_
    show Steps p.tables e below (T15.setTop (mkF m 208 #[.val (.int p1), .val (.int p2), .val (.int p3), .val (.int p4), .val (.int p5), .val (.int x5), .val (.int x6), .val (.int x7), .val (.int x8), .val (.int x9), .val (.int x10), .val (.int x11), .val (.int x12), .val (.int x13), .val (.ref b6), .val (.int (0 : Int32)), .val (.int (1 : Int32)), .val (.int (2 : Int32)), .val (.int (3 : Int32)), .unset, .unset, .unset, .unset, .unset, .unset, .unset, .unset, .unset] [(.int p4)])) _
    refine XS.iconst X15.here hx rfl (hb hby at_208) ?_
    show Steps p.tables e below (T15.setTop (mkF m 209 #[.val (.int p1), .val (.int p2), .val (.int p3), .val (.int p4), .val (.int p5), .val (.int x5), .val (.int x6), .val (.int x7), .val (.int x8), .val (.int x9), .val (.int x10), .val (.int x11), .val (.int x12), .val (.int x13), .val (.ref b6), .val (.int (0 : Int32)), .val (.int (1 : Int32)), .val (.int (2 : Int32)), .val (.int (3 : Int32)), .unset, .unset, .unset, .unset, .unset, .unset, .unset, .unset, .unset] [(.int (1 : Int32)), (.int p4)])) _
    refine XS.iand X15.here hx rfl (hb hby at_209) rfl ?_
    show Steps p.tables e below (T15.setTop (mkF m 210 #[.val (.int p1), .val (.int p2), .val (.int p3), .val (.int p4), .val (.int p5), .val (.int x5), .val (.int x6), .val (.int x7), .val (.int x8), .val (.int x9), .val (.int x10), .val (.int x11), .val (.int x12), .val (.int x13), .val (.ref b6), .val (.int (0 : Int32)), .val (.int (1 : Int32)), .val (.int (2 : Int32)), .val (.int (3 : Int32)), .unset, .unset, .unset, .unset, .unset, .unset, .unset, .unset, .unset] [(.int (p4 &&& (1 : Int32)))])) _
    refine own_dia (hv210 trivial) (J := 218) (L := #[.val (.int p1), .val (.int p2), .val (.int p3), .val (.int p4), .val (.int p5), .val (.int x5), .val (.int x6), .val (.int x7), .val (.int x8), .val (.int x9), .val (.int x10), .val (.int x11), .val (.int x12), .val (.int x13), .val (.ref b6), .val (.int (0 : Int32)), .val (.int (1 : Int32)), .val (.int (2 : Int32)), .val (.int (3 : Int32)), .unset, .unset, .unset, .unset, .unset, .unset, .unset, .unset, .unset]) (S := []) (fun c t k => by refine XS.ifYes X15.here hx rfl (pc0 := 210) (pc' := 217) rfl (hb hby at_210) rfl ((if0 _ _).trans (teq c).1) (by decide) (by decide) ?_; refine XS.iconst X15.here hx rfl (hb hby at_217) ?_; exact k) (fun c t k => by refine XS.ifNo X15.here hx rfl (hb hby at_210) rfl ((if0 _ _).trans (feq c).1) ?_; refine XS.iconst X15.here hx rfl (hb hby at_213) ?_; refine XS.goto X15.here hx rfl (pc0 := 214) (pc' := 218) rfl (hb hby at_214) (by decide) (by decide) ?_; exact k) ?_
    show Steps p.tables e below (T15.setTop (mkF m 218 #[.val (.int p1), .val (.int p2), .val (.int p3), .val (.int p4), .val (.int p5), .val (.int x5), .val (.int x6), .val (.int x7), .val (.int x8), .val (.int x9), .val (.int x10), .val (.int x11), .val (.int x12), .val (.int x13), .val (.ref b6), .val (.int (0 : Int32)), .val (.int (1 : Int32)), .val (.int (2 : Int32)), .val (.int (3 : Int32)), .unset, .unset, .unset, .unset, .unset, .unset, .unset, .unset, .unset] [(.int v210)])) _
    refine XS.istore X15.here hx rfl (hb hby at_218) rfl (l' := #[.val (.int p1), .val (.int p2), .val (.int p3), .val (.int p4), .val (.int p5), .val (.int x5), .val (.int x6), .val (.int x7), .val (.int x8), .val (.int x9), .val (.int x10), .val (.int x11), .val (.int x12), .val (.int x13), .val (.ref b6), .val (.int (0 : Int32)), .val (.int (1 : Int32)), .val (.int (2 : Int32)), .val (.int (3 : Int32)), .val (.int v210), .unset, .unset, .unset, .unset, .unset, .unset, .unset, .unset]) rfl ?_
    show Steps p.tables e below (T15.setTop (mkF m 220 #[.val (.int p1), .val (.int p2), .val (.int p3), .val (.int p4), .val (.int p5), .val (.int x5), .val (.int x6), .val (.int x7), .val (.int x8), .val (.int x9), .val (.int x10), .val (.int x11), .val (.int x12), .val (.int x13), .val (.ref b6), .val (.int (0 : Int32)), .val (.int (1 : Int32)), .val (.int (2 : Int32)), .val (.int (3 : Int32)), .val (.int v210), .unset, .unset, .unset, .unset, .unset, .unset, .unset, .unset] [])) _
    refine XS.iloadN X15.here hx rfl (hb hby at_220) rfl ?_
    show Steps p.tables e below (T15.setTop (mkF m 221 #[.val (.int p1), .val (.int p2), .val (.int p3), .val (.int p4), .val (.int p5), .val (.int x5), .val (.int x6), .val (.int x7), .val (.int x8), .val (.int x9), .val (.int x10), .val (.int x11), .val (.int x12), .val (.int x13), .val (.ref b6), .val (.int (0 : Int32)), .val (.int (1 : Int32)), .val (.int (2 : Int32)), .val (.int (3 : Int32)), .val (.int v210), .unset, .unset, .unset, .unset, .unset, .unset, .unset, .unset] [(.int p4)])) _
    refine XS.iconst X15.here hx rfl (hb hby at_221) ?_
    show Steps p.tables e below (T15.setTop (mkF m 222 #[.val (.int p1), .val (.int p2), .val (.int p3), .val (.int p4), .val (.int p5), .val (.int x5), .val (.int x6), .val (.int x7), .val (.int x8), .val (.int x9), .val (.int x10), .val (.int x11), .val (.int x12), .val (.int x13), .val (.ref b6), .val (.int (0 : Int32)), .val (.int (1 : Int32)), .val (.int (2 : Int32)), .val (.int (3 : Int32)), .val (.int v210), .unset, .unset, .unset, .unset, .unset, .unset, .unset, .unset] [(.int (2 : Int32)), (.int p4)])) _
    refine XS.iand X15.here hx rfl (hb hby at_222) rfl ?_
    show Steps p.tables e below (T15.setTop (mkF m 223 #[.val (.int p1), .val (.int p2), .val (.int p3), .val (.int p4), .val (.int p5), .val (.int x5), .val (.int x6), .val (.int x7), .val (.int x8), .val (.int x9), .val (.int x10), .val (.int x11), .val (.int x12), .val (.int x13), .val (.ref b6), .val (.int (0 : Int32)), .val (.int (1 : Int32)), .val (.int (2 : Int32)), .val (.int (3 : Int32)), .val (.int v210), .unset, .unset, .unset, .unset, .unset, .unset, .unset, .unset] [(.int (p4 &&& (2 : Int32)))])) _
    refine own_dia (hv223 trivial) (J := 231) (L := #[.val (.int p1), .val (.int p2), .val (.int p3), .val (.int p4), .val (.int p5), .val (.int x5), .val (.int x6), .val (.int x7), .val (.int x8), .val (.int x9), .val (.int x10), .val (.int x11), .val (.int x12), .val (.int x13), .val (.ref b6), .val (.int (0 : Int32)), .val (.int (1 : Int32)), .val (.int (2 : Int32)), .val (.int (3 : Int32)), .val (.int v210), .unset, .unset, .unset, .unset, .unset, .unset, .unset, .unset]) (S := []) (fun c t k => by refine XS.ifYes X15.here hx rfl (pc0 := 223) (pc' := 230) rfl (hb hby at_223) rfl ((if0 _ _).trans (teq c).1) (by decide) (by decide) ?_; refine XS.iconst X15.here hx rfl (hb hby at_230) ?_; exact k) (fun c t k => by refine XS.ifNo X15.here hx rfl (hb hby at_223) rfl ((if0 _ _).trans (feq c).1) ?_; refine XS.iconst X15.here hx rfl (hb hby at_226) ?_; refine XS.goto X15.here hx rfl (pc0 := 227) (pc' := 231) rfl (hb hby at_227) (by decide) (by decide) ?_; exact k) ?_
    show Steps p.tables e below (T15.setTop (mkF m 231 #[.val (.int p1), .val (.int p2), .val (.int p3), .val (.int p4), .val (.int p5), .val (.int x5), .val (.int x6), .val (.int x7), .val (.int x8), .val (.int x9), .val (.int x10), .val (.int x11), .val (.int x12), .val (.int x13), .val (.ref b6), .val (.int (0 : Int32)), .val (.int (1 : Int32)), .val (.int (2 : Int32)), .val (.int (3 : Int32)), .val (.int v210), .unset, .unset, .unset, .unset, .unset, .unset, .unset, .unset] [(.int v223)])) _
    refine XS.istore X15.here hx rfl (hb hby at_231) rfl (l' := #[.val (.int p1), .val (.int p2), .val (.int p3), .val (.int p4), .val (.int p5), .val (.int x5), .val (.int x6), .val (.int x7), .val (.int x8), .val (.int x9), .val (.int x10), .val (.int x11), .val (.int x12), .val (.int x13), .val (.ref b6), .val (.int (0 : Int32)), .val (.int (1 : Int32)), .val (.int (2 : Int32)), .val (.int (3 : Int32)), .val (.int v210), .val (.int v223), .unset, .unset, .unset, .unset, .unset, .unset, .unset]) rfl ?_
    show Steps p.tables e below (T15.setTop (mkF m 233 #[.val (.int p1), .val (.int p2), .val (.int p3), .val (.int p4), .val (.int p5), .val (.int x5), .val (.int x6), .val (.int x7), .val (.int x8), .val (.int x9), .val (.int x10), .val (.int x11), .val (.int x12), .val (.int x13), .val (.ref b6), .val (.int (0 : Int32)), .val (.int (1 : Int32)), .val (.int (2 : Int32)), .val (.int (3 : Int32)), .val (.int v210), .val (.int v223), .unset, .unset, .unset, .unset, .unset, .unset, .unset] [])) _
    refine XS.iloadN X15.here hx rfl (hb hby at_233) rfl ?_
    show Steps p.tables e below (T15.setTop (mkF m 234 #[.val (.int p1), .val (.int p2), .val (.int p3), .val (.int p4), .val (.int p5), .val (.int x5), .val (.int x6), .val (.int x7), .val (.int x8), .val (.int x9), .val (.int x10), .val (.int x11), .val (.int x12), .val (.int x13), .val (.ref b6), .val (.int (0 : Int32)), .val (.int (1 : Int32)), .val (.int (2 : Int32)), .val (.int (3 : Int32)), .val (.int v210), .val (.int v223), .unset, .unset, .unset, .unset, .unset, .unset, .unset] [(.int p4)])) _
    refine XS.iconst X15.here hx rfl (hb hby at_234) ?_
    show Steps p.tables e below (T15.setTop (mkF m 235 #[.val (.int p1), .val (.int p2), .val (.int p3), .val (.int p4), .val (.int p5), .val (.int x5), .val (.int x6), .val (.int x7), .val (.int x8), .val (.int x9), .val (.int x10), .val (.int x11), .val (.int x12), .val (.int x13), .val (.ref b6), .val (.int (0 : Int32)), .val (.int (1 : Int32)), .val (.int (2 : Int32)), .val (.int (3 : Int32)), .val (.int v210), .val (.int v223), .unset, .unset, .unset, .unset, .unset, .unset, .unset] [(.int (4 : Int32)), (.int p4)])) _
    refine XS.iand X15.here hx rfl (hb hby at_235) rfl ?_
    show Steps p.tables e below (T15.setTop (mkF m 236 #[.val (.int p1), .val (.int p2), .val (.int p3), .val (.int p4), .val (.int p5), .val (.int x5), .val (.int x6), .val (.int x7), .val (.int x8), .val (.int x9), .val (.int x10), .val (.int x11), .val (.int x12), .val (.int x13), .val (.ref b6), .val (.int (0 : Int32)), .val (.int (1 : Int32)), .val (.int (2 : Int32)), .val (.int (3 : Int32)), .val (.int v210), .val (.int v223), .unset, .unset, .unset, .unset, .unset, .unset, .unset] [(.int (p4 &&& (4 : Int32)))])) _
    refine own_dia (hv236 trivial) (J := 244) (L := #[.val (.int p1), .val (.int p2), .val (.int p3), .val (.int p4), .val (.int p5), .val (.int x5), .val (.int x6), .val (.int x7), .val (.int x8), .val (.int x9), .val (.int x10), .val (.int x11), .val (.int x12), .val (.int x13), .val (.ref b6), .val (.int (0 : Int32)), .val (.int (1 : Int32)), .val (.int (2 : Int32)), .val (.int (3 : Int32)), .val (.int v210), .val (.int v223), .unset, .unset, .unset, .unset, .unset, .unset, .unset]) (S := []) (fun c t k => by refine XS.ifYes X15.here hx rfl (pc0 := 236) (pc' := 243) rfl (hb hby at_236) rfl ((if0 _ _).trans (teq c).1) (by decide) (by decide) ?_; refine XS.iconst X15.here hx rfl (hb hby at_243) ?_; exact k) (fun c t k => by refine XS.ifNo X15.here hx rfl (hb hby at_236) rfl ((if0 _ _).trans (feq c).1) ?_; refine XS.iconst X15.here hx rfl (hb hby at_239) ?_; refine XS.goto X15.here hx rfl (pc0 := 240) (pc' := 244) rfl (hb hby at_240) (by decide) (by decide) ?_; exact k) ?_
    show Steps p.tables e below (T15.setTop (mkF m 244 #[.val (.int p1), .val (.int p2), .val (.int p3), .val (.int p4), .val (.int p5), .val (.int x5), .val (.int x6), .val (.int x7), .val (.int x8), .val (.int x9), .val (.int x10), .val (.int x11), .val (.int x12), .val (.int x13), .val (.ref b6), .val (.int (0 : Int32)), .val (.int (1 : Int32)), .val (.int (2 : Int32)), .val (.int (3 : Int32)), .val (.int v210), .val (.int v223), .unset, .unset, .unset, .unset, .unset, .unset, .unset] [(.int v236)])) _
    refine XS.istore X15.here hx rfl (hb hby at_244) rfl (l' := #[.val (.int p1), .val (.int p2), .val (.int p3), .val (.int p4), .val (.int p5), .val (.int x5), .val (.int x6), .val (.int x7), .val (.int x8), .val (.int x9), .val (.int x10), .val (.int x11), .val (.int x12), .val (.int x13), .val (.ref b6), .val (.int (0 : Int32)), .val (.int (1 : Int32)), .val (.int (2 : Int32)), .val (.int (3 : Int32)), .val (.int v210), .val (.int v223), .val (.int v236), .unset, .unset, .unset, .unset, .unset, .unset]) rfl ?_
    show Steps p.tables e below (T15.setTop (mkF m 246 #[.val (.int p1), .val (.int p2), .val (.int p3), .val (.int p4), .val (.int p5), .val (.int x5), .val (.int x6), .val (.int x7), .val (.int x8), .val (.int x9), .val (.int x10), .val (.int x11), .val (.int x12), .val (.int x13), .val (.ref b6), .val (.int (0 : Int32)), .val (.int (1 : Int32)), .val (.int (2 : Int32)), .val (.int (3 : Int32)), .val (.int v210), .val (.int v223), .val (.int v236), .unset, .unset, .unset, .unset, .unset, .unset] [])) _
    refine XS.iloadN X15.here hx rfl (hb hby at_246) rfl ?_
    show Steps p.tables e below (T15.setTop (mkF m 247 #[.val (.int p1), .val (.int p2), .val (.int p3), .val (.int p4), .val (.int p5), .val (.int x5), .val (.int x6), .val (.int x7), .val (.int x8), .val (.int x9), .val (.int x10), .val (.int x11), .val (.int x12), .val (.int x13), .val (.ref b6), .val (.int (0 : Int32)), .val (.int (1 : Int32)), .val (.int (2 : Int32)), .val (.int (3 : Int32)), .val (.int v210), .val (.int v223), .val (.int v236), .unset, .unset, .unset, .unset, .unset, .unset] [(.int p4)])) _
    refine XS.bipush X15.here hx rfl (hb hby at_247) ?_
    show Steps p.tables e below (T15.setTop (mkF m 249 #[.val (.int p1), .val (.int p2), .val (.int p3), .val (.int p4), .val (.int p5), .val (.int x5), .val (.int x6), .val (.int x7), .val (.int x8), .val (.int x9), .val (.int x10), .val (.int x11), .val (.int x12), .val (.int x13), .val (.ref b6), .val (.int (0 : Int32)), .val (.int (1 : Int32)), .val (.int (2 : Int32)), .val (.int (3 : Int32)), .val (.int v210), .val (.int v223), .val (.int v236), .unset, .unset, .unset, .unset, .unset, .unset] [(.int (8 : Int32)), (.int p4)])) _
    refine XS.iand X15.here hx rfl (hb hby at_249) rfl ?_
    show Steps p.tables e below (T15.setTop (mkF m 250 #[.val (.int p1), .val (.int p2), .val (.int p3), .val (.int p4), .val (.int p5), .val (.int x5), .val (.int x6), .val (.int x7), .val (.int x8), .val (.int x9), .val (.int x10), .val (.int x11), .val (.int x12), .val (.int x13), .val (.ref b6), .val (.int (0 : Int32)), .val (.int (1 : Int32)), .val (.int (2 : Int32)), .val (.int (3 : Int32)), .val (.int v210), .val (.int v223), .val (.int v236), .unset, .unset, .unset, .unset, .unset, .unset] [(.int (p4 &&& (8 : Int32)))])) _
    refine own_dia (hv250 trivial) (J := 258) (L := #[.val (.int p1), .val (.int p2), .val (.int p3), .val (.int p4), .val (.int p5), .val (.int x5), .val (.int x6), .val (.int x7), .val (.int x8), .val (.int x9), .val (.int x10), .val (.int x11), .val (.int x12), .val (.int x13), .val (.ref b6), .val (.int (0 : Int32)), .val (.int (1 : Int32)), .val (.int (2 : Int32)), .val (.int (3 : Int32)), .val (.int v210), .val (.int v223), .val (.int v236), .unset, .unset, .unset, .unset, .unset, .unset]) (S := []) (fun c t k => by refine XS.ifYes X15.here hx rfl (pc0 := 250) (pc' := 257) rfl (hb hby at_250) rfl ((if0 _ _).trans (teq c).1) (by decide) (by decide) ?_; refine XS.iconst X15.here hx rfl (hb hby at_257) ?_; exact k) (fun c t k => by refine XS.ifNo X15.here hx rfl (hb hby at_250) rfl ((if0 _ _).trans (feq c).1) ?_; refine XS.iconst X15.here hx rfl (hb hby at_253) ?_; refine XS.goto X15.here hx rfl (pc0 := 254) (pc' := 258) rfl (hb hby at_254) (by decide) (by decide) ?_; exact k) ?_
    show Steps p.tables e below (T15.setTop (mkF m 258 #[.val (.int p1), .val (.int p2), .val (.int p3), .val (.int p4), .val (.int p5), .val (.int x5), .val (.int x6), .val (.int x7), .val (.int x8), .val (.int x9), .val (.int x10), .val (.int x11), .val (.int x12), .val (.int x13), .val (.ref b6), .val (.int (0 : Int32)), .val (.int (1 : Int32)), .val (.int (2 : Int32)), .val (.int (3 : Int32)), .val (.int v210), .val (.int v223), .val (.int v236), .unset, .unset, .unset, .unset, .unset, .unset] [(.int v250)])) _
    refine XS.istore X15.here hx rfl (hb hby at_258) rfl (l' := #[.val (.int p1), .val (.int p2), .val (.int p3), .val (.int p4), .val (.int p5), .val (.int x5), .val (.int x6), .val (.int x7), .val (.int x8), .val (.int x9), .val (.int x10), .val (.int x11), .val (.int x12), .val (.int x13), .val (.ref b6), .val (.int (0 : Int32)), .val (.int (1 : Int32)), .val (.int (2 : Int32)), .val (.int (3 : Int32)), .val (.int v210), .val (.int v223), .val (.int v236), .val (.int v250), .unset, .unset, .unset, .unset, .unset]) rfl ?_
    show Steps p.tables e below (T15.setTop (mkF m 260 #[.val (.int p1), .val (.int p2), .val (.int p3), .val (.int p4), .val (.int p5), .val (.int x5), .val (.int x6), .val (.int x7), .val (.int x8), .val (.int x9), .val (.int x10), .val (.int x11), .val (.int x12), .val (.int x13), .val (.ref b6), .val (.int (0 : Int32)), .val (.int (1 : Int32)), .val (.int (2 : Int32)), .val (.int (3 : Int32)), .val (.int v210), .val (.int v223), .val (.int v236), .val (.int v250), .unset, .unset, .unset, .unset, .unset] [])) _
    refine XS.iconst X15.here hx rfl (hb hby at_260) ?_
    show Steps p.tables e below (T15.setTop (mkF m 261 #[.val (.int p1), .val (.int p2), .val (.int p3), .val (.int p4), .val (.int p5), .val (.int x5), .val (.int x6), .val (.int x7), .val (.int x8), .val (.int x9), .val (.int x10), .val (.int x11), .val (.int x12), .val (.int x13), .val (.ref b6), .val (.int (0 : Int32)), .val (.int (1 : Int32)), .val (.int (2 : Int32)), .val (.int (3 : Int32)), .val (.int v210), .val (.int v223), .val (.int v236), .val (.int v250), .unset, .unset, .unset, .unset, .unset] [(.int (4 : Int32))])) _
    refine st16 _ ?_
    show Steps p.tables e below (T16.setTop (mkF m 263 #[.val (.int p1), .val (.int p2), .val (.int p3), .val (.int p4), .val (.int p5), .val (.int x5), .val (.int x6), .val (.int x7), .val (.int x8), .val (.int x9), .val (.int x10), .val (.int x11), .val (.int x12), .val (.int x13), .val (.ref b6), .val (.int (0 : Int32)), .val (.int (1 : Int32)), .val (.int (2 : Int32)), .val (.int (3 : Int32)), .val (.int v210), .val (.int v223), .val (.int v236), .val (.int v250), .unset, .unset, .unset, .unset, .unset] [(.ref b16)])) _
    refine XS.astore X16.here hx rfl (hb hby at_263) rfl rfl (l' := #[.val (.int p1), .val (.int p2), .val (.int p3), .val (.int p4), .val (.int p5), .val (.int x5), .val (.int x6), .val (.int x7), .val (.int x8), .val (.int x9), .val (.int x10), .val (.int x11), .val (.int x12), .val (.int x13), .val (.ref b6), .val (.int (0 : Int32)), .val (.int (1 : Int32)), .val (.int (2 : Int32)), .val (.int (3 : Int32)), .val (.int v210), .val (.int v223), .val (.int v236), .val (.int v250), .val (.ref b16), .unset, .unset, .unset, .unset]) rfl ?_
    show Steps p.tables e below (T16.setTop (mkF m 265 #[.val (.int p1), .val (.int p2), .val (.int p3), .val (.int p4), .val (.int p5), .val (.int x5), .val (.int x6), .val (.int x7), .val (.int x8), .val (.int x9), .val (.int x10), .val (.int x11), .val (.int x12), .val (.int x13), .val (.ref b6), .val (.int (0 : Int32)), .val (.int (1 : Int32)), .val (.int (2 : Int32)), .val (.int (3 : Int32)), .val (.int v210), .val (.int v223), .val (.int v236), .val (.int v250), .val (.ref b16), .unset, .unset, .unset, .unset] [])) _
    refine XS.aload X16.here hx rfl (hb hby at_265) rfl rfl ?_
    show Steps p.tables e below (T16.setTop (mkF m 267 #[.val (.int p1), .val (.int p2), .val (.int p3), .val (.int p4), .val (.int p5), .val (.int x5), .val (.int x6), .val (.int x7), .val (.int x8), .val (.int x9), .val (.int x10), .val (.int x11), .val (.int x12), .val (.int x13), .val (.ref b6), .val (.int (0 : Int32)), .val (.int (1 : Int32)), .val (.int (2 : Int32)), .val (.int (3 : Int32)), .val (.int v210), .val (.int v223), .val (.int v236), .val (.int v250), .val (.ref b16), .unset, .unset, .unset, .unset] [(.ref b16)])) _
    refine XS.iconst X16.here hx rfl (hb hby at_267) ?_
    show Steps p.tables e below (T16.setTop (mkF m 268 #[.val (.int p1), .val (.int p2), .val (.int p3), .val (.int p4), .val (.int p5), .val (.int x5), .val (.int x6), .val (.int x7), .val (.int x8), .val (.int x9), .val (.int x10), .val (.int x11), .val (.int x12), .val (.int x13), .val (.ref b6), .val (.int (0 : Int32)), .val (.int (1 : Int32)), .val (.int (2 : Int32)), .val (.int (3 : Int32)), .val (.int v210), .val (.int v223), .val (.int v236), .val (.int v250), .val (.ref b16), .unset, .unset, .unset, .unset] [(.int (0 : Int32)), (.ref b16)])) _
    refine XS.iload X16.here hx rfl (hb hby at_268) rfl ?_
    show Steps p.tables e below (T16.setTop (mkF m 270 #[.val (.int p1), .val (.int p2), .val (.int p3), .val (.int p4), .val (.int p5), .val (.int x5), .val (.int x6), .val (.int x7), .val (.int x8), .val (.int x9), .val (.int x10), .val (.int x11), .val (.int x12), .val (.int x13), .val (.ref b6), .val (.int (0 : Int32)), .val (.int (1 : Int32)), .val (.int (2 : Int32)), .val (.int (3 : Int32)), .val (.int v210), .val (.int v223), .val (.int v236), .val (.int v250), .val (.ref b16), .unset, .unset, .unset, .unset] [(.int v210), (.int (0 : Int32)), (.ref b16)])) _
    refine own_dia (hv270 trivial) (J := 279) (L := #[.val (.int p1), .val (.int p2), .val (.int p3), .val (.int p4), .val (.int p5), .val (.int x5), .val (.int x6), .val (.int x7), .val (.int x8), .val (.int x9), .val (.int x10), .val (.int x11), .val (.int x12), .val (.int x13), .val (.ref b6), .val (.int (0 : Int32)), .val (.int (1 : Int32)), .val (.int (2 : Int32)), .val (.int (3 : Int32)), .val (.int v210), .val (.int v223), .val (.int v236), .val (.int v250), .val (.ref b16), .unset, .unset, .unset, .unset]) (S := [(.int (0 : Int32)), (.ref b16)]) (fun c t k => by refine XS.ifYes X16.here hx rfl (pc0 := 270) (pc' := 277) rfl (hb hby at_270) rfl ((if0 _ _).trans (teq c).1) (by decide) (by decide) ?_; refine XS.iload X16.here hx rfl (hb hby at_277) rfl ?_; exact k) (fun c t k => by refine XS.ifNo X16.here hx rfl (hb hby at_270) rfl ((if0 _ _).trans (feq c).1) ?_; refine XS.iloadN X16.here hx rfl (hb hby at_273) rfl ?_; refine XS.goto X16.here hx rfl (pc0 := 274) (pc' := 279) rfl (hb hby at_274) (by decide) (by decide) ?_; exact k) ?_
    show Steps p.tables e below (T16.setTop (mkF m 279 #[.val (.int p1), .val (.int p2), .val (.int p3), .val (.int p4), .val (.int p5), .val (.int x5), .val (.int x6), .val (.int x7), .val (.int x8), .val (.int x9), .val (.int x10), .val (.int x11), .val (.int x12), .val (.int x13), .val (.ref b6), .val (.int (0 : Int32)), .val (.int (1 : Int32)), .val (.int (2 : Int32)), .val (.int (3 : Int32)), .val (.int v210), .val (.int v223), .val (.int v236), .val (.int v250), .val (.ref b16), .unset, .unset, .unset, .unset] [(.int v270), (.int (0 : Int32)), (.ref b16)])) _
    refine st17 _ ?_
    show Steps p.tables e below (T17.setTop (mkF m 280 #[.val (.int p1), .val (.int p2), .val (.int p3), .val (.int p4), .val (.int p5), .val (.int x5), .val (.int x6), .val (.int x7), .val (.int x8), .val (.int x9), .val (.int x10), .val (.int x11), .val (.int x12), .val (.int x13), .val (.ref b6), .val (.int (0 : Int32)), .val (.int (1 : Int32)), .val (.int (2 : Int32)), .val (.int (3 : Int32)), .val (.int v210), .val (.int v223), .val (.int v236), .val (.int v250), .val (.ref b16), .unset, .unset, .unset, .unset] [])) _
    refine XS.aload X17.here hx rfl (hb hby at_280) rfl rfl ?_
    show Steps p.tables e below (T17.setTop (mkF m 282 #[.val (.int p1), .val (.int p2), .val (.int p3), .val (.int p4), .val (.int p5), .val (.int x5), .val (.int x6), .val (.int x7), .val (.int x8), .val (.int x9), .val (.int x10), .val (.int x11), .val (.int x12), .val (.int x13), .val (.ref b6), .val (.int (0 : Int32)), .val (.int (1 : Int32)), .val (.int (2 : Int32)), .val (.int (3 : Int32)), .val (.int v210), .val (.int v223), .val (.int v236), .val (.int v250), .val (.ref b16), .unset, .unset, .unset, .unset] [(.ref b16)])) _
    refine XS.iconst X17.here hx rfl (hb hby at_282) ?_
    show Steps p.tables e below (T17.setTop (mkF m 283 #[.val (.int p1), .val (.int p2), .val (.int p3), .val (.int p4), .val (.int p5), .val (.int x5), .val (.int x6), .val (.int x7), .val (.int x8), .val (.int x9), .val (.int x10), .val (.int x11), .val (.int x12), .val (.int x13), .val (.ref b6), .val (.int (0 : Int32)), .val (.int (1 : Int32)), .val (.int (2 : Int32)), .val (.int (3 : Int32)), .val (.int v210), .val (.int v223), .val (.int v236), .val (.int v250), .val (.ref b16), .unset, .unset, .unset, .unset] [(.int (1 : Int32)), (.ref b16)])) _
    refine XS.iload X17.here hx rfl (hb hby at_283) rfl ?_
    show Steps p.tables e below (T17.setTop (mkF m 285 #[.val (.int p1), .val (.int p2), .val (.int p3), .val (.int p4), .val (.int p5), .val (.int x5), .val (.int x6), .val (.int x7), .val (.int x8), .val (.int x9), .val (.int x10), .val (.int x11), .val (.int x12), .val (.int x13), .val (.ref b6), .val (.int (0 : Int32)), .val (.int (1 : Int32)), .val (.int (2 : Int32)), .val (.int (3 : Int32)), .val (.int v210), .val (.int v223), .val (.int v236), .val (.int v250), .val (.ref b16), .unset, .unset, .unset, .unset] [(.int v223), (.int (1 : Int32)), (.ref b16)])) _
    refine own_dia (hv285 trivial) (J := 294) (L := #[.val (.int p1), .val (.int p2), .val (.int p3), .val (.int p4), .val (.int p5), .val (.int x5), .val (.int x6), .val (.int x7), .val (.int x8), .val (.int x9), .val (.int x10), .val (.int x11), .val (.int x12), .val (.int x13), .val (.ref b6), .val (.int (0 : Int32)), .val (.int (1 : Int32)), .val (.int (2 : Int32)), .val (.int (3 : Int32)), .val (.int v210), .val (.int v223), .val (.int v236), .val (.int v250), .val (.ref b16), .unset, .unset, .unset, .unset]) (S := [(.int (1 : Int32)), (.ref b16)]) (fun c t k => by refine XS.ifYes X17.here hx rfl (pc0 := 285) (pc' := 292) rfl (hb hby at_285) rfl ((if0 _ _).trans (teq c).1) (by decide) (by decide) ?_; refine XS.iload X17.here hx rfl (hb hby at_292) rfl ?_; exact k) (fun c t k => by refine XS.ifNo X17.here hx rfl (hb hby at_285) rfl ((if0 _ _).trans (feq c).1) ?_; refine XS.iloadN X17.here hx rfl (hb hby at_288) rfl ?_; refine XS.goto X17.here hx rfl (pc0 := 289) (pc' := 294) rfl (hb hby at_289) (by decide) (by decide) ?_; exact k) ?_
    show Steps p.tables e below (T17.setTop (mkF m 294 #[.val (.int p1), .val (.int p2), .val (.int p3), .val (.int p4), .val (.int p5), .val (.int x5), .val (.int x6), .val (.int x7), .val (.int x8), .val (.int x9), .val (.int x10), .val (.int x11), .val (.int x12), .val (.int x13), .val (.ref b6), .val (.int (0 : Int32)), .val (.int (1 : Int32)), .val (.int (2 : Int32)), .val (.int (3 : Int32)), .val (.int v210), .val (.int v223), .val (.int v236), .val (.int v250), .val (.ref b16), .unset, .unset, .unset, .unset] [(.int v285), (.int (1 : Int32)), (.ref b16)])) _
    refine st18 _ ?_
    show Steps p.tables e below (T18.setTop (mkF m 295 #[.val (.int p1), .val (.int p2), .val (.int p3), .val (.int p4), .val (.int p5), .val (.int x5), .val (.int x6), .val (.int x7), .val (.int x8), .val (.int x9), .val (.int x10), .val (.int x11), .val (.int x12), .val (.int x13), .val (.ref b6), .val (.int (0 : Int32)), .val (.int (1 : Int32)), .val (.int (2 : Int32)), .val (.int (3 : Int32)), .val (.int v210), .val (.int v223), .val (.int v236), .val (.int v250), .val (.ref b16), .unset, .unset, .unset, .unset] [])) _
    refine XS.aload X18.here hx rfl (hb hby at_295) rfl rfl ?_
    show Steps p.tables e below (T18.setTop (mkF m 297 #[.val (.int p1), .val (.int p2), .val (.int p3), .val (.int p4), .val (.int p5), .val (.int x5), .val (.int x6), .val (.int x7), .val (.int x8), .val (.int x9), .val (.int x10), .val (.int x11), .val (.int x12), .val (.int x13), .val (.ref b6), .val (.int (0 : Int32)), .val (.int (1 : Int32)), .val (.int (2 : Int32)), .val (.int (3 : Int32)), .val (.int v210), .val (.int v223), .val (.int v236), .val (.int v250), .val (.ref b16), .unset, .unset, .unset, .unset] [(.ref b16)])) _
    refine XS.iconst X18.here hx rfl (hb hby at_297) ?_
    show Steps p.tables e below (T18.setTop (mkF m 298 #[.val (.int p1), .val (.int p2), .val (.int p3), .val (.int p4), .val (.int p5), .val (.int x5), .val (.int x6), .val (.int x7), .val (.int x8), .val (.int x9), .val (.int x10), .val (.int x11), .val (.int x12), .val (.int x13), .val (.ref b6), .val (.int (0 : Int32)), .val (.int (1 : Int32)), .val (.int (2 : Int32)), .val (.int (3 : Int32)), .val (.int v210), .val (.int v223), .val (.int v236), .val (.int v250), .val (.ref b16), .unset, .unset, .unset, .unset] [(.int (2 : Int32)), (.ref b16)])) _
    refine XS.iload X18.here hx rfl (hb hby at_298) rfl ?_
    show Steps p.tables e below (T18.setTop (mkF m 300 #[.val (.int p1), .val (.int p2), .val (.int p3), .val (.int p4), .val (.int p5), .val (.int x5), .val (.int x6), .val (.int x7), .val (.int x8), .val (.int x9), .val (.int x10), .val (.int x11), .val (.int x12), .val (.int x13), .val (.ref b6), .val (.int (0 : Int32)), .val (.int (1 : Int32)), .val (.int (2 : Int32)), .val (.int (3 : Int32)), .val (.int v210), .val (.int v223), .val (.int v236), .val (.int v250), .val (.ref b16), .unset, .unset, .unset, .unset] [(.int v236), (.int (2 : Int32)), (.ref b16)])) _
    refine own_dia (hv300 trivial) (J := 309) (L := #[.val (.int p1), .val (.int p2), .val (.int p3), .val (.int p4), .val (.int p5), .val (.int x5), .val (.int x6), .val (.int x7), .val (.int x8), .val (.int x9), .val (.int x10), .val (.int x11), .val (.int x12), .val (.int x13), .val (.ref b6), .val (.int (0 : Int32)), .val (.int (1 : Int32)), .val (.int (2 : Int32)), .val (.int (3 : Int32)), .val (.int v210), .val (.int v223), .val (.int v236), .val (.int v250), .val (.ref b16), .unset, .unset, .unset, .unset]) (S := [(.int (2 : Int32)), (.ref b16)]) (fun c t k => by refine XS.ifYes X18.here hx rfl (pc0 := 300) (pc' := 307) rfl (hb hby at_300) rfl ((if0 _ _).trans (teq c).1) (by decide) (by decide) ?_; refine XS.iload X18.here hx rfl (hb hby at_307) rfl ?_; exact k) (fun c t k => by refine XS.ifNo X18.here hx rfl (hb hby at_300) rfl ((if0 _ _).trans (feq c).1) ?_; refine XS.iloadN X18.here hx rfl (hb hby at_303) rfl ?_; refine XS.goto X18.here hx rfl (pc0 := 304) (pc' := 309) rfl (hb hby at_304) (by decide) (by decide) ?_; exact k) ?_
    show Steps p.tables e below (T18.setTop (mkF m 309 #[.val (.int p1), .val (.int p2), .val (.int p3), .val (.int p4), .val (.int p5), .val (.int x5), .val (.int x6), .val (.int x7), .val (.int x8), .val (.int x9), .val (.int x10), .val (.int x11), .val (.int x12), .val (.int x13), .val (.ref b6), .val (.int (0 : Int32)), .val (.int (1 : Int32)), .val (.int (2 : Int32)), .val (.int (3 : Int32)), .val (.int v210), .val (.int v223), .val (.int v236), .val (.int v250), .val (.ref b16), .unset, .unset, .unset, .unset] [(.int v300), (.int (2 : Int32)), (.ref b16)])) _
    refine st19 _ ?_
    show Steps p.tables e below (T19.setTop (mkF m 310 #[.val (.int p1), .val (.int p2), .val (.int p3), .val (.int p4), .val (.int p5), .val (.int x5), .val (.int x6), .val (.int x7), .val (.int x8), .val (.int x9), .val (.int x10), .val (.int x11), .val (.int x12), .val (.int x13), .val (.ref b6), .val (.int (0 : Int32)), .val (.int (1 : Int32)), .val (.int (2 : Int32)), .val (.int (3 : Int32)), .val (.int v210), .val (.int v223), .val (.int v236), .val (.int v250), .val (.ref b16), .unset, .unset, .unset, .unset] [])) _
    refine XS.aload X19.here hx rfl (hb hby at_310) rfl rfl ?_
    show Steps p.tables e below (T19.setTop (mkF m 312 #[.val (.int p1), .val (.int p2), .val (.int p3), .val (.int p4), .val (.int p5), .val (.int x5), .val (.int x6), .val (.int x7), .val (.int x8), .val (.int x9), .val (.int x10), .val (.int x11), .val (.int x12), .val (.int x13), .val (.ref b6), .val (.int (0 : Int32)), .val (.int (1 : Int32)), .val (.int (2 : Int32)), .val (.int (3 : Int32)), .val (.int v210), .val (.int v223), .val (.int v236), .val (.int v250), .val (.ref b16), .unset, .unset, .unset, .unset] [(.ref b16)])) _
    refine XS.iconst X19.here hx rfl (hb hby at_312) ?_
    show Steps p.tables e below (T19.setTop (mkF m 313 #[.val (.int p1), .val (.int p2), .val (.int p3), .val (.int p4), .val (.int p5), .val (.int x5), .val (.int x6), .val (.int x7), .val (.int x8), .val (.int x9), .val (.int x10), .val (.int x11), .val (.int x12), .val (.int x13), .val (.ref b6), .val (.int (0 : Int32)), .val (.int (1 : Int32)), .val (.int (2 : Int32)), .val (.int (3 : Int32)), .val (.int v210), .val (.int v223), .val (.int v236), .val (.int v250), .val (.ref b16), .unset, .unset, .unset, .unset] [(.int (3 : Int32)), (.ref b16)])) _
    refine XS.iload X19.here hx rfl (hb hby at_313) rfl ?_
    show Steps p.tables e below (T19.setTop (mkF m 315 #[.val (.int p1), .val (.int p2), .val (.int p3), .val (.int p4), .val (.int p5), .val (.int x5), .val (.int x6), .val (.int x7), .val (.int x8), .val (.int x9), .val (.int x10), .val (.int x11), .val (.int x12), .val (.int x13), .val (.ref b6), .val (.int (0 : Int32)), .val (.int (1 : Int32)), .val (.int (2 : Int32)), .val (.int (3 : Int32)), .val (.int v210), .val (.int v223), .val (.int v236), .val (.int v250), .val (.ref b16), .unset, .unset, .unset, .unset] [(.int v250), (.int (3 : Int32)), (.ref b16)])) _
    refine own_dia (hv315 trivial) (J := 324) (L := #[.val (.int p1), .val (.int p2), .val (.int p3), .val (.int p4), .val (.int p5), .val (.int x5), .val (.int x6), .val (.int x7), .val (.int x8), .val (.int x9), .val (.int x10), .val (.int x11), .val (.int x12), .val (.int x13), .val (.ref b6), .val (.int (0 : Int32)), .val (.int (1 : Int32)), .val (.int (2 : Int32)), .val (.int (3 : Int32)), .val (.int v210), .val (.int v223), .val (.int v236), .val (.int v250), .val (.ref b16), .unset, .unset, .unset, .unset]) (S := [(.int (3 : Int32)), (.ref b16)]) (fun c t k => by refine XS.ifYes X19.here hx rfl (pc0 := 315) (pc' := 322) rfl (hb hby at_315) rfl ((if0 _ _).trans (teq c).1) (by decide) (by decide) ?_; refine XS.iload X19.here hx rfl (hb hby at_322) rfl ?_; exact k) (fun c t k => by refine XS.ifNo X19.here hx rfl (hb hby at_315) rfl ((if0 _ _).trans (feq c).1) ?_; refine XS.iloadN X19.here hx rfl (hb hby at_318) rfl ?_; refine XS.goto X19.here hx rfl (pc0 := 319) (pc' := 324) rfl (hb hby at_319) (by decide) (by decide) ?_; exact k) ?_
    show Steps p.tables e below (T19.setTop (mkF m 324 #[.val (.int p1), .val (.int p2), .val (.int p3), .val (.int p4), .val (.int p5), .val (.int x5), .val (.int x6), .val (.int x7), .val (.int x8), .val (.int x9), .val (.int x10), .val (.int x11), .val (.int x12), .val (.int x13), .val (.ref b6), .val (.int (0 : Int32)), .val (.int (1 : Int32)), .val (.int (2 : Int32)), .val (.int (3 : Int32)), .val (.int v210), .val (.int v223), .val (.int v236), .val (.int v250), .val (.ref b16), .unset, .unset, .unset, .unset] [(.int v315), (.int (3 : Int32)), (.ref b16)])) _
    refine st20 _ ?_
    show Steps p.tables e below (T20.setTop (mkF m 325 #[.val (.int p1), .val (.int p2), .val (.int p3), .val (.int p4), .val (.int p5), .val (.int x5), .val (.int x6), .val (.int x7), .val (.int x8), .val (.int x9), .val (.int x10), .val (.int x11), .val (.int x12), .val (.int x13), .val (.ref b6), .val (.int (0 : Int32)), .val (.int (1 : Int32)), .val (.int (2 : Int32)), .val (.int (3 : Int32)), .val (.int v210), .val (.int v223), .val (.int v236), .val (.int v250), .val (.ref b16), .unset, .unset, .unset, .unset] [])) _
    refine XS.aload X20.here hx rfl (hb hby at_325) rfl rfl ?_
    show Steps p.tables e below (T20.setTop (mkF m 327 #[.val (.int p1), .val (.int p2), .val (.int p3), .val (.int p4), .val (.int p5), .val (.int x5), .val (.int x6), .val (.int x7), .val (.int x8), .val (.int x9), .val (.int x10), .val (.int x11), .val (.int x12), .val (.int x13), .val (.ref b6), .val (.int (0 : Int32)), .val (.int (1 : Int32)), .val (.int (2 : Int32)), .val (.int (3 : Int32)), .val (.int v210), .val (.int v223), .val (.int v236), .val (.int v250), .val (.ref b16), .unset, .unset, .unset, .unset] [(.ref b16)])) _
    refine XS.iconst X20.here hx rfl (hb hby at_327) ?_
    show Steps p.tables e below (T20.setTop (mkF m 328 #[.val (.int p1), .val (.int p2), .val (.int p3), .val (.int p4), .val (.int p5), .val (.int x5), .val (.int x6), .val (.int x7), .val (.int x8), .val (.int x9), .val (.int x10), .val (.int x11), .val (.int x12), .val (.int x13), .val (.ref b6), .val (.int (0 : Int32)), .val (.int (1 : Int32)), .val (.int (2 : Int32)), .val (.int (3 : Int32)), .val (.int v210), .val (.int v223), .val (.int v236), .val (.int v250), .val (.ref b16), .unset, .unset, .unset, .unset] [(.int (0 : Int32)), (.ref b16)])) _
    refine X20.iaload hx (j := (0 : Int32)) (v := (.int v270)) (by rw [e20]; exact Ar_b16.1) (State.isArrayOf_alike hZ.alike Ar_b16.2.1) Ar_b16.2.2 hin328 hat328 (g := (mkF m 328 #[.val (.int p1), .val (.int p2), .val (.int p3), .val (.int p4), .val (.int p5), .val (.int x5), .val (.int x6), .val (.int x7), .val (.int x8), .val (.int x9), .val (.int x10), .val (.int x11), .val (.int x12), .val (.int x13), .val (.ref b6), .val (.int (0 : Int32)), .val (.int (1 : Int32)), .val (.int (2 : Int32)), .val (.int (3 : Int32)), .val (.int v210), .val (.int v223), .val (.int v236), .val (.int v250), .val (.ref b16), .unset, .unset, .unset, .unset] [(.int (0 : Int32)), (.ref b16)])) rfl rfl (hb hby at_328) _ ?_
    show Steps p.tables e below (T20.setTop (mkF m 329 #[.val (.int p1), .val (.int p2), .val (.int p3), .val (.int p4), .val (.int p5), .val (.int x5), .val (.int x6), .val (.int x7), .val (.int x8), .val (.int x9), .val (.int x10), .val (.int x11), .val (.int x12), .val (.int x13), .val (.ref b6), .val (.int (0 : Int32)), .val (.int (1 : Int32)), .val (.int (2 : Int32)), .val (.int (3 : Int32)), .val (.int v210), .val (.int v223), .val (.int v236), .val (.int v250), .val (.ref b16), .unset, .unset, .unset, .unset] [(.int v270)])) _
    refine XS.iloadN X20.here hx rfl (hb hby at_329) rfl ?_
    show Steps p.tables e below (T20.setTop (mkF m 330 #[.val (.int p1), .val (.int p2), .val (.int p3), .val (.int p4), .val (.int p5), .val (.int x5), .val (.int x6), .val (.int x7), .val (.int x8), .val (.int x9), .val (.int x10), .val (.int x11), .val (.int x12), .val (.int x13), .val (.ref b6), .val (.int (0 : Int32)), .val (.int (1 : Int32)), .val (.int (2 : Int32)), .val (.int (3 : Int32)), .val (.int v210), .val (.int v223), .val (.int v236), .val (.int v250), .val (.ref b16), .unset, .unset, .unset, .unset] [(.int p3), (.int v270)])) _
    refine own_dia (hv330 trivial) (J := 338) (L := #[.val (.int p1), .val (.int p2), .val (.int p3), .val (.int p4), .val (.int p5), .val (.int x5), .val (.int x6), .val (.int x7), .val (.int x8), .val (.int x9), .val (.int x10), .val (.int x11), .val (.int x12), .val (.int x13), .val (.ref b6), .val (.int (0 : Int32)), .val (.int (1 : Int32)), .val (.int (2 : Int32)), .val (.int (3 : Int32)), .val (.int v210), .val (.int v223), .val (.int v236), .val (.int v250), .val (.ref b16), .unset, .unset, .unset, .unset]) (S := []) (fun c t k => by refine XS.icmpNo X20.here hx rfl (hb hby at_330) rfl (teq c).2 ?_; refine XS.iconst X20.here hx rfl (hb hby at_333) ?_; refine XS.goto X20.here hx rfl (pc0 := 334) (pc' := 338) rfl (hb hby at_334) (by decide) (by decide) ?_; exact k) (fun c t k => by refine XS.icmpYes X20.here hx rfl (pc0 := 330) (pc' := 337) rfl (hb hby at_330) rfl (feq c).2 (by decide) (by decide) ?_; refine XS.iconst X20.here hx rfl (hb hby at_337) ?_; exact k) ?_
    show Steps p.tables e below (T20.setTop (mkF m 338 #[.val (.int p1), .val (.int p2), .val (.int p3), .val (.int p4), .val (.int p5), .val (.int x5), .val (.int x6), .val (.int x7), .val (.int x8), .val (.int x9), .val (.int x10), .val (.int x11), .val (.int x12), .val (.int x13), .val (.ref b6), .val (.int (0 : Int32)), .val (.int (1 : Int32)), .val (.int (2 : Int32)), .val (.int (3 : Int32)), .val (.int v210), .val (.int v223), .val (.int v236), .val (.int v250), .val (.ref b16), .unset, .unset, .unset, .unset] [(.int v330)])) _
    refine XS.istore X20.here hx rfl (hb hby at_338) rfl (l' := #[.val (.int p1), .val (.int p2), .val (.int p3), .val (.int p4), .val (.int p5), .val (.int x5), .val (.int x6), .val (.int x7), .val (.int x8), .val (.int x9), .val (.int x10), .val (.int x11), .val (.int x12), .val (.int x13), .val (.ref b6), .val (.int (0 : Int32)), .val (.int (1 : Int32)), .val (.int (2 : Int32)), .val (.int (3 : Int32)), .val (.int v330), .val (.int v223), .val (.int v236), .val (.int v250), .val (.ref b16), .unset, .unset, .unset, .unset]) rfl ?_
    show Steps p.tables e below (T20.setTop (mkF m 340 #[.val (.int p1), .val (.int p2), .val (.int p3), .val (.int p4), .val (.int p5), .val (.int x5), .val (.int x6), .val (.int x7), .val (.int x8), .val (.int x9), .val (.int x10), .val (.int x11), .val (.int x12), .val (.int x13), .val (.ref b6), .val (.int (0 : Int32)), .val (.int (1 : Int32)), .val (.int (2 : Int32)), .val (.int (3 : Int32)), .val (.int v330), .val (.int v223), .val (.int v236), .val (.int v250), .val (.ref b16), .unset, .unset, .unset, .unset] [])) _
    refine XS.aload X20.here hx rfl (hb hby at_340) rfl rfl ?_
    show Steps p.tables e below (T20.setTop (mkF m 342 #[.val (.int p1), .val (.int p2), .val (.int p3), .val (.int p4), .val (.int p5), .val (.int x5), .val (.int x6), .val (.int x7), .val (.int x8), .val (.int x9), .val (.int x10), .val (.int x11), .val (.int x12), .val (.int x13), .val (.ref b6), .val (.int (0 : Int32)), .val (.int (1 : Int32)), .val (.int (2 : Int32)), .val (.int (3 : Int32)), .val (.int v330), .val (.int v223), .val (.int v236), .val (.int v250), .val (.ref b16), .unset, .unset, .unset, .unset] [(.ref b16)])) _
    refine XS.iconst X20.here hx rfl (hb hby at_342) ?_
    show Steps p.tables e below (T20.setTop (mkF m 343 #[.val (.int p1), .val (.int p2), .val (.int p3), .val (.int p4), .val (.int p5), .val (.int x5), .val (.int x6), .val (.int x7), .val (.int x8), .val (.int x9), .val (.int x10), .val (.int x11), .val (.int x12), .val (.int x13), .val (.ref b6), .val (.int (0 : Int32)), .val (.int (1 : Int32)), .val (.int (2 : Int32)), .val (.int (3 : Int32)), .val (.int v330), .val (.int v223), .val (.int v236), .val (.int v250), .val (.ref b16), .unset, .unset, .unset, .unset] [(.int (1 : Int32)), (.ref b16)])) _
    refine X20.iaload hx (j := (1 : Int32)) (v := (.int v285)) (by rw [e20]; exact Ar_b16.1) (State.isArrayOf_alike hZ.alike Ar_b16.2.1) Ar_b16.2.2 hin343 hat343 (g := (mkF m 343 #[.val (.int p1), .val (.int p2), .val (.int p3), .val (.int p4), .val (.int p5), .val (.int x5), .val (.int x6), .val (.int x7), .val (.int x8), .val (.int x9), .val (.int x10), .val (.int x11), .val (.int x12), .val (.int x13), .val (.ref b6), .val (.int (0 : Int32)), .val (.int (1 : Int32)), .val (.int (2 : Int32)), .val (.int (3 : Int32)), .val (.int v330), .val (.int v223), .val (.int v236), .val (.int v250), .val (.ref b16), .unset, .unset, .unset, .unset] [(.int (1 : Int32)), (.ref b16)])) rfl rfl (hb hby at_343) _ ?_
    show Steps p.tables e below (T20.setTop (mkF m 344 #[.val (.int p1), .val (.int p2), .val (.int p3), .val (.int p4), .val (.int p5), .val (.int x5), .val (.int x6), .val (.int x7), .val (.int x8), .val (.int x9), .val (.int x10), .val (.int x11), .val (.int x12), .val (.int x13), .val (.ref b6), .val (.int (0 : Int32)), .val (.int (1 : Int32)), .val (.int (2 : Int32)), .val (.int (3 : Int32)), .val (.int v330), .val (.int v223), .val (.int v236), .val (.int v250), .val (.ref b16), .unset, .unset, .unset, .unset] [(.int v285)])) _
    refine XS.iloadN X20.here hx rfl (hb hby at_344) rfl ?_
    show Steps p.tables e below (T20.setTop (mkF m 345 #[.val (.int p1), .val (.int p2), .val (.int p3), .val (.int p4), .val (.int p5), .val (.int x5), .val (.int x6), .val (.int x7), .val (.int x8), .val (.int x9), .val (.int x10), .val (.int x11), .val (.int x12), .val (.int x13), .val (.ref b6), .val (.int (0 : Int32)), .val (.int (1 : Int32)), .val (.int (2 : Int32)), .val (.int (3 : Int32)), .val (.int v330), .val (.int v223), .val (.int v236), .val (.int v250), .val (.ref b16), .unset, .unset, .unset, .unset] [(.int p3), (.int v285)])) _
    refine own_dia (hv345 trivial) (J := 353) (L := #[.val (.int p1), .val (.int p2), .val (.int p3), .val (.int p4), .val (.int p5), .val (.int x5), .val (.int x6), .val (.int x7), .val (.int x8), .val (.int x9), .val (.int x10), .val (.int x11), .val (.int x12), .val (.int x13), .val (.ref b6), .val (.int (0 : Int32)), .val (.int (1 : Int32)), .val (.int (2 : Int32)), .val (.int (3 : Int32)), .val (.int v330), .val (.int v223), .val (.int v236), .val (.int v250), .val (.ref b16), .unset, .unset, .unset, .unset]) (S := []) (fun c t k => by refine XS.icmpNo X20.here hx rfl (hb hby at_345) rfl (teq c).2 ?_; refine XS.iconst X20.here hx rfl (hb hby at_348) ?_; refine XS.goto X20.here hx rfl (pc0 := 349) (pc' := 353) rfl (hb hby at_349) (by decide) (by decide) ?_; exact k) (fun c t k => by refine XS.icmpYes X20.here hx rfl (pc0 := 345) (pc' := 352) rfl (hb hby at_345) rfl (feq c).2 (by decide) (by decide) ?_; refine XS.iconst X20.here hx rfl (hb hby at_352) ?_; exact k) ?_
    show Steps p.tables e below (T20.setTop (mkF m 353 #[.val (.int p1), .val (.int p2), .val (.int p3), .val (.int p4), .val (.int p5), .val (.int x5), .val (.int x6), .val (.int x7), .val (.int x8), .val (.int x9), .val (.int x10), .val (.int x11), .val (.int x12), .val (.int x13), .val (.ref b6), .val (.int (0 : Int32)), .val (.int (1 : Int32)), .val (.int (2 : Int32)), .val (.int (3 : Int32)), .val (.int v330), .val (.int v223), .val (.int v236), .val (.int v250), .val (.ref b16), .unset, .unset, .unset, .unset] [(.int v345)])) _
    refine XS.istore X20.here hx rfl (hb hby at_353) rfl (l' := #[.val (.int p1), .val (.int p2), .val (.int p3), .val (.int p4), .val (.int p5), .val (.int x5), .val (.int x6), .val (.int x7), .val (.int x8), .val (.int x9), .val (.int x10), .val (.int x11), .val (.int x12), .val (.int x13), .val (.ref b6), .val (.int (0 : Int32)), .val (.int (1 : Int32)), .val (.int (2 : Int32)), .val (.int (3 : Int32)), .val (.int v330), .val (.int v345), .val (.int v236), .val (.int v250), .val (.ref b16), .unset, .unset, .unset, .unset]) rfl ?_
    show Steps p.tables e below (T20.setTop (mkF m 355 #[.val (.int p1), .val (.int p2), .val (.int p3), .val (.int p4), .val (.int p5), .val (.int x5), .val (.int x6), .val (.int x7), .val (.int x8), .val (.int x9), .val (.int x10), .val (.int x11), .val (.int x12), .val (.int x13), .val (.ref b6), .val (.int (0 : Int32)), .val (.int (1 : Int32)), .val (.int (2 : Int32)), .val (.int (3 : Int32)), .val (.int v330), .val (.int v345), .val (.int v236), .val (.int v250), .val (.ref b16), .unset, .unset, .unset, .unset] [])) _
    refine XS.aload X20.here hx rfl (hb hby at_355) rfl rfl ?_
    show Steps p.tables e below (T20.setTop (mkF m 357 #[.val (.int p1), .val (.int p2), .val (.int p3), .val (.int p4), .val (.int p5), .val (.int x5), .val (.int x6), .val (.int x7), .val (.int x8), .val (.int x9), .val (.int x10), .val (.int x11), .val (.int x12), .val (.int x13), .val (.ref b6), .val (.int (0 : Int32)), .val (.int (1 : Int32)), .val (.int (2 : Int32)), .val (.int (3 : Int32)), .val (.int v330), .val (.int v345), .val (.int v236), .val (.int v250), .val (.ref b16), .unset, .unset, .unset, .unset] [(.ref b16)])) _
    refine XS.iconst X20.here hx rfl (hb hby at_357) ?_
    show Steps p.tables e below (T20.setTop (mkF m 358 #[.val (.int p1), .val (.int p2), .val (.int p3), .val (.int p4), .val (.int p5), .val (.int x5), .val (.int x6), .val (.int x7), .val (.int x8), .val (.int x9), .val (.int x10), .val (.int x11), .val (.int x12), .val (.int x13), .val (.ref b6), .val (.int (0 : Int32)), .val (.int (1 : Int32)), .val (.int (2 : Int32)), .val (.int (3 : Int32)), .val (.int v330), .val (.int v345), .val (.int v236), .val (.int v250), .val (.ref b16), .unset, .unset, .unset, .unset] [(.int (2 : Int32)), (.ref b16)])) _
    refine X20.iaload hx (j := (2 : Int32)) (v := (.int v300)) (by rw [e20]; exact Ar_b16.1) (State.isArrayOf_alike hZ.alike Ar_b16.2.1) Ar_b16.2.2 hin358 hat358 (g := (mkF m 358 #[.val (.int p1), .val (.int p2), .val (.int p3), .val (.int p4), .val (.int p5), .val (.int x5), .val (.int x6), .val (.int x7), .val (.int x8), .val (.int x9), .val (.int x10), .val (.int x11), .val (.int x12), .val (.int x13), .val (.ref b6), .val (.int (0 : Int32)), .val (.int (1 : Int32)), .val (.int (2 : Int32)), .val (.int (3 : Int32)), .val (.int v330), .val (.int v345), .val (.int v236), .val (.int v250), .val (.ref b16), .unset, .unset, .unset, .unset] [(.int (2 : Int32)), (.ref b16)])) rfl rfl (hb hby at_358) _ ?_
    show Steps p.tables e below (T20.setTop (mkF m 359 #[.val (.int p1), .val (.int p2), .val (.int p3), .val (.int p4), .val (.int p5), .val (.int x5), .val (.int x6), .val (.int x7), .val (.int x8), .val (.int x9), .val (.int x10), .val (.int x11), .val (.int x12), .val (.int x13), .val (.ref b6), .val (.int (0 : Int32)), .val (.int (1 : Int32)), .val (.int (2 : Int32)), .val (.int (3 : Int32)), .val (.int v330), .val (.int v345), .val (.int v236), .val (.int v250), .val (.ref b16), .unset, .unset, .unset, .unset] [(.int v300)])) _
    refine XS.iloadN X20.here hx rfl (hb hby at_359) rfl ?_
    show Steps p.tables e below (T20.setTop (mkF m 360 #[.val (.int p1), .val (.int p2), .val (.int p3), .val (.int p4), .val (.int p5), .val (.int x5), .val (.int x6), .val (.int x7), .val (.int x8), .val (.int x9), .val (.int x10), .val (.int x11), .val (.int x12), .val (.int x13), .val (.ref b6), .val (.int (0 : Int32)), .val (.int (1 : Int32)), .val (.int (2 : Int32)), .val (.int (3 : Int32)), .val (.int v330), .val (.int v345), .val (.int v236), .val (.int v250), .val (.ref b16), .unset, .unset, .unset, .unset] [(.int p3), (.int v300)])) _
    refine own_dia (hv360 trivial) (J := 368) (L := #[.val (.int p1), .val (.int p2), .val (.int p3), .val (.int p4), .val (.int p5), .val (.int x5), .val (.int x6), .val (.int x7), .val (.int x8), .val (.int x9), .val (.int x10), .val (.int x11), .val (.int x12), .val (.int x13), .val (.ref b6), .val (.int (0 : Int32)), .val (.int (1 : Int32)), .val (.int (2 : Int32)), .val (.int (3 : Int32)), .val (.int v330), .val (.int v345), .val (.int v236), .val (.int v250), .val (.ref b16), .unset, .unset, .unset, .unset]) (S := []) (fun c t k => by refine XS.icmpNo X20.here hx rfl (hb hby at_360) rfl (teq c).2 ?_; refine XS.iconst X20.here hx rfl (hb hby at_363) ?_; refine XS.goto X20.here hx rfl (pc0 := 364) (pc' := 368) rfl (hb hby at_364) (by decide) (by decide) ?_; exact k) (fun c t k => by refine XS.icmpYes X20.here hx rfl (pc0 := 360) (pc' := 367) rfl (hb hby at_360) rfl (feq c).2 (by decide) (by decide) ?_; refine XS.iconst X20.here hx rfl (hb hby at_367) ?_; exact k) ?_
    show Steps p.tables e below (T20.setTop (mkF m 368 #[.val (.int p1), .val (.int p2), .val (.int p3), .val (.int p4), .val (.int p5), .val (.int x5), .val (.int x6), .val (.int x7), .val (.int x8), .val (.int x9), .val (.int x10), .val (.int x11), .val (.int x12), .val (.int x13), .val (.ref b6), .val (.int (0 : Int32)), .val (.int (1 : Int32)), .val (.int (2 : Int32)), .val (.int (3 : Int32)), .val (.int v330), .val (.int v345), .val (.int v236), .val (.int v250), .val (.ref b16), .unset, .unset, .unset, .unset] [(.int v360)])) _
    refine XS.istore X20.here hx rfl (hb hby at_368) rfl (l' := #[.val (.int p1), .val (.int p2), .val (.int p3), .val (.int p4), .val (.int p5), .val (.int x5), .val (.int x6), .val (.int x7), .val (.int x8), .val (.int x9), .val (.int x10), .val (.int x11), .val (.int x12), .val (.int x13), .val (.ref b6), .val (.int (0 : Int32)), .val (.int (1 : Int32)), .val (.int (2 : Int32)), .val (.int (3 : Int32)), .val (.int v330), .val (.int v345), .val (.int v360), .val (.int v250), .val (.ref b16), .unset, .unset, .unset, .unset]) rfl ?_
    show Steps p.tables e below (T20.setTop (mkF m 370 #[.val (.int p1), .val (.int p2), .val (.int p3), .val (.int p4), .val (.int p5), .val (.int x5), .val (.int x6), .val (.int x7), .val (.int x8), .val (.int x9), .val (.int x10), .val (.int x11), .val (.int x12), .val (.int x13), .val (.ref b6), .val (.int (0 : Int32)), .val (.int (1 : Int32)), .val (.int (2 : Int32)), .val (.int (3 : Int32)), .val (.int v330), .val (.int v345), .val (.int v360), .val (.int v250), .val (.ref b16), .unset, .unset, .unset, .unset] [])) _
    refine XS.aload X20.here hx rfl (hb hby at_370) rfl rfl ?_
    show Steps p.tables e below (T20.setTop (mkF m 372 #[.val (.int p1), .val (.int p2), .val (.int p3), .val (.int p4), .val (.int p5), .val (.int x5), .val (.int x6), .val (.int x7), .val (.int x8), .val (.int x9), .val (.int x10), .val (.int x11), .val (.int x12), .val (.int x13), .val (.ref b6), .val (.int (0 : Int32)), .val (.int (1 : Int32)), .val (.int (2 : Int32)), .val (.int (3 : Int32)), .val (.int v330), .val (.int v345), .val (.int v360), .val (.int v250), .val (.ref b16), .unset, .unset, .unset, .unset] [(.ref b16)])) _
    refine XS.iconst X20.here hx rfl (hb hby at_372) ?_
    show Steps p.tables e below (T20.setTop (mkF m 373 #[.val (.int p1), .val (.int p2), .val (.int p3), .val (.int p4), .val (.int p5), .val (.int x5), .val (.int x6), .val (.int x7), .val (.int x8), .val (.int x9), .val (.int x10), .val (.int x11), .val (.int x12), .val (.int x13), .val (.ref b6), .val (.int (0 : Int32)), .val (.int (1 : Int32)), .val (.int (2 : Int32)), .val (.int (3 : Int32)), .val (.int v330), .val (.int v345), .val (.int v360), .val (.int v250), .val (.ref b16), .unset, .unset, .unset, .unset] [(.int (3 : Int32)), (.ref b16)])) _
    refine X20.iaload hx (j := (3 : Int32)) (v := (.int v315)) (by rw [e20]; exact Ar_b16.1) (State.isArrayOf_alike hZ.alike Ar_b16.2.1) Ar_b16.2.2 hin373 hat373 (g := (mkF m 373 #[.val (.int p1), .val (.int p2), .val (.int p3), .val (.int p4), .val (.int p5), .val (.int x5), .val (.int x6), .val (.int x7), .val (.int x8), .val (.int x9), .val (.int x10), .val (.int x11), .val (.int x12), .val (.int x13), .val (.ref b6), .val (.int (0 : Int32)), .val (.int (1 : Int32)), .val (.int (2 : Int32)), .val (.int (3 : Int32)), .val (.int v330), .val (.int v345), .val (.int v360), .val (.int v250), .val (.ref b16), .unset, .unset, .unset, .unset] [(.int (3 : Int32)), (.ref b16)])) rfl rfl (hb hby at_373) _ ?_
    show Steps p.tables e below (T20.setTop (mkF m 374 #[.val (.int p1), .val (.int p2), .val (.int p3), .val (.int p4), .val (.int p5), .val (.int x5), .val (.int x6), .val (.int x7), .val (.int x8), .val (.int x9), .val (.int x10), .val (.int x11), .val (.int x12), .val (.int x13), .val (.ref b6), .val (.int (0 : Int32)), .val (.int (1 : Int32)), .val (.int (2 : Int32)), .val (.int (3 : Int32)), .val (.int v330), .val (.int v345), .val (.int v360), .val (.int v250), .val (.ref b16), .unset, .unset, .unset, .unset] [(.int v315)])) _
    refine XS.iloadN X20.here hx rfl (hb hby at_374) rfl ?_
    show Steps p.tables e below (T20.setTop (mkF m 375 #[.val (.int p1), .val (.int p2), .val (.int p3), .val (.int p4), .val (.int p5), .val (.int x5), .val (.int x6), .val (.int x7), .val (.int x8), .val (.int x9), .val (.int x10), .val (.int x11), .val (.int x12), .val (.int x13), .val (.ref b6), .val (.int (0 : Int32)), .val (.int (1 : Int32)), .val (.int (2 : Int32)), .val (.int (3 : Int32)), .val (.int v330), .val (.int v345), .val (.int v360), .val (.int v250), .val (.ref b16), .unset, .unset, .unset, .unset] [(.int p3), (.int v315)])) _
    refine own_dia (hv375 trivial) (J := 383) (L := #[.val (.int p1), .val (.int p2), .val (.int p3), .val (.int p4), .val (.int p5), .val (.int x5), .val (.int x6), .val (.int x7), .val (.int x8), .val (.int x9), .val (.int x10), .val (.int x11), .val (.int x12), .val (.int x13), .val (.ref b6), .val (.int (0 : Int32)), .val (.int (1 : Int32)), .val (.int (2 : Int32)), .val (.int (3 : Int32)), .val (.int v330), .val (.int v345), .val (.int v360), .val (.int v250), .val (.ref b16), .unset, .unset, .unset, .unset]) (S := []) (fun c t k => by refine XS.icmpNo X20.here hx rfl (hb hby at_375) rfl (teq c).2 ?_; refine XS.iconst X20.here hx rfl (hb hby at_378) ?_; refine XS.goto X20.here hx rfl (pc0 := 379) (pc' := 383) rfl (hb hby at_379) (by decide) (by decide) ?_; exact k) (fun c t k => by refine XS.icmpYes X20.here hx rfl (pc0 := 375) (pc' := 382) rfl (hb hby at_375) rfl (feq c).2 (by decide) (by decide) ?_; refine XS.iconst X20.here hx rfl (hb hby at_382) ?_; exact k) ?_
    show Steps p.tables e below (T20.setTop (mkF m 383 #[.val (.int p1), .val (.int p2), .val (.int p3), .val (.int p4), .val (.int p5), .val (.int x5), .val (.int x6), .val (.int x7), .val (.int x8), .val (.int x9), .val (.int x10), .val (.int x11), .val (.int x12), .val (.int x13), .val (.ref b6), .val (.int (0 : Int32)), .val (.int (1 : Int32)), .val (.int (2 : Int32)), .val (.int (3 : Int32)), .val (.int v330), .val (.int v345), .val (.int v360), .val (.int v250), .val (.ref b16), .unset, .unset, .unset, .unset] [(.int v375)])) _
    refine XS.istore X20.here hx rfl (hb hby at_383) rfl (l' := #[.val (.int p1), .val (.int p2), .val (.int p3), .val (.int p4), .val (.int p5), .val (.int x5), .val (.int x6), .val (.int x7), .val (.int x8), .val (.int x9), .val (.int x10), .val (.int x11), .val (.int x12), .val (.int x13), .val (.ref b6), .val (.int (0 : Int32)), .val (.int (1 : Int32)), .val (.int (2 : Int32)), .val (.int (3 : Int32)), .val (.int v330), .val (.int v345), .val (.int v360), .val (.int v375), .val (.ref b16), .unset, .unset, .unset, .unset]) rfl ?_
    show Steps p.tables e below (T20.setTop (mkF m 385 #[.val (.int p1), .val (.int p2), .val (.int p3), .val (.int p4), .val (.int p5), .val (.int x5), .val (.int x6), .val (.int x7), .val (.int x8), .val (.int x9), .val (.int x10), .val (.int x11), .val (.int x12), .val (.int x13), .val (.ref b6), .val (.int (0 : Int32)), .val (.int (1 : Int32)), .val (.int (2 : Int32)), .val (.int (3 : Int32)), .val (.int v330), .val (.int v345), .val (.int v360), .val (.int v375), .val (.ref b16), .unset, .unset, .unset, .unset] [])) _
    refine XS.aload X20.here hx rfl (hb hby at_385) rfl rfl ?_
    show Steps p.tables e below (T20.setTop (mkF m 387 #[.val (.int p1), .val (.int p2), .val (.int p3), .val (.int p4), .val (.int p5), .val (.int x5), .val (.int x6), .val (.int x7), .val (.int x8), .val (.int x9), .val (.int x10), .val (.int x11), .val (.int x12), .val (.int x13), .val (.ref b6), .val (.int (0 : Int32)), .val (.int (1 : Int32)), .val (.int (2 : Int32)), .val (.int (3 : Int32)), .val (.int v330), .val (.int v345), .val (.int v360), .val (.int v375), .val (.ref b16), .unset, .unset, .unset, .unset] [(.ref b6)])) _
    refine XS.iload X20.here hx rfl (hb hby at_387) rfl ?_
    show Steps p.tables e below (T20.setTop (mkF m 389 #[.val (.int p1), .val (.int p2), .val (.int p3), .val (.int p4), .val (.int p5), .val (.int x5), .val (.int x6), .val (.int x7), .val (.int x8), .val (.int x9), .val (.int x10), .val (.int x11), .val (.int x12), .val (.int x13), .val (.ref b6), .val (.int (0 : Int32)), .val (.int (1 : Int32)), .val (.int (2 : Int32)), .val (.int (3 : Int32)), .val (.int v330), .val (.int v345), .val (.int v360), .val (.int v375), .val (.ref b16), .unset, .unset, .unset, .unset] [(.int x13), (.ref b6)])) _
    refine XS.iloadN X20.here hx rfl (hb hby at_389) rfl ?_
    show Steps p.tables e below (T20.setTop (mkF m 390 #[.val (.int p1), .val (.int p2), .val (.int p3), .val (.int p4), .val (.int p5), .val (.int x5), .val (.int x6), .val (.int x7), .val (.int x8), .val (.int x9), .val (.int x10), .val (.int x11), .val (.int x12), .val (.int x13), .val (.ref b6), .val (.int (0 : Int32)), .val (.int (1 : Int32)), .val (.int (2 : Int32)), .val (.int (3 : Int32)), .val (.int v330), .val (.int v345), .val (.int v360), .val (.int v375), .val (.ref b16), .unset, .unset, .unset, .unset] [(.int p3), (.int x13), (.ref b6)])) _
    refine XS.aload X20.here hx rfl (hb hby at_390) rfl rfl ?_
    show Steps p.tables e below (T20.setTop (mkF m 392 #[.val (.int p1), .val (.int p2), .val (.int p3), .val (.int p4), .val (.int p5), .val (.int x5), .val (.int x6), .val (.int x7), .val (.int x8), .val (.int x9), .val (.int x10), .val (.int x11), .val (.int x12), .val (.int x13), .val (.ref b6), .val (.int (0 : Int32)), .val (.int (1 : Int32)), .val (.int (2 : Int32)), .val (.int (3 : Int32)), .val (.int v330), .val (.int v345), .val (.int v360), .val (.int v375), .val (.ref b16), .unset, .unset, .unset, .unset] [(.ref b16), (.int p3), (.int x13), (.ref b6)])) _
    refine st25.trans ?_
    show Steps p.tables e below (T25.setTop (mkF m 395 #[.val (.int p1), .val (.int p2), .val (.int p3), .val (.int p4), .val (.int p5), .val (.int x5), .val (.int x6), .val (.int x7), .val (.int x8), .val (.int x9), .val (.int x10), .val (.int x11), .val (.int x12), .val (.int x13), .val (.ref b6), .val (.int (0 : Int32)), .val (.int (1 : Int32)), .val (.int (2 : Int32)), .val (.int (3 : Int32)), .val (.int v330), .val (.int v345), .val (.int v360), .val (.int v375), .val (.ref b16), .unset, .unset, .unset, .unset] [(.int got)])) _
    refine XS.istore X25.here hx rfl (hb hby at_395) rfl (l' := #[.val (.int p1), .val (.int p2), .val (.int p3), .val (.int p4), .val (.int p5), .val (.int x5), .val (.int x6), .val (.int x7), .val (.int x8), .val (.int x9), .val (.int x10), .val (.int x11), .val (.int x12), .val (.int x13), .val (.ref b6), .val (.int (0 : Int32)), .val (.int (1 : Int32)), .val (.int (2 : Int32)), .val (.int (3 : Int32)), .val (.int v330), .val (.int v345), .val (.int v360), .val (.int v375), .val (.ref b16), .val (.int got), .unset, .unset, .unset]) rfl ?_
    show Steps p.tables e below (T25.setTop (mkF m 397 #[.val (.int p1), .val (.int p2), .val (.int p3), .val (.int p4), .val (.int p5), .val (.int x5), .val (.int x6), .val (.int x7), .val (.int x8), .val (.int x9), .val (.int x10), .val (.int x11), .val (.int x12), .val (.int x13), .val (.ref b6), .val (.int (0 : Int32)), .val (.int (1 : Int32)), .val (.int (2 : Int32)), .val (.int (3 : Int32)), .val (.int v330), .val (.int v345), .val (.int v360), .val (.int v375), .val (.ref b16), .val (.int got), .unset, .unset, .unset] [])) _
    have fin : ∀ (i y : Int32) (z : Slot), got = y → Steps p.tables e below (T25.setTop (mkF m 561 #[.val (.int p1), .val (.int p2), .val (.int p3), .val (.int p4), .val (.int p5), .val (.int x5), .val (.int x6), .val (.int x7), .val (.int x8), .val (.int x9), .val (.int x10), .val (.int x11), .val (.int x12), .val (.int x13), .val (.ref b6), .val (.int (0 : Int32)), .val (.int (1 : Int32)), .val (.int (2 : Int32)), .val (.int (3 : Int32)), .val (.int v330), .val (.int v345), .val (.int v360), .val (.int v375), .val (.ref b16), .val (.int got), .val (.int i), .val (.int y), z] [])) (T25.setFrames fs) := by
      intro i y z hy
      show Steps p.tables e below (T25.setTop (mkF m 561 #[.val (.int p1), .val (.int p2), .val (.int p3), .val (.int p4), .val (.int p5), .val (.int x5), .val (.int x6), .val (.int x7), .val (.int x8), .val (.int x9), .val (.int x10), .val (.int x11), .val (.int x12), .val (.int x13), .val (.ref b6), .val (.int (0 : Int32)), .val (.int (1 : Int32)), .val (.int (2 : Int32)), .val (.int (3 : Int32)), .val (.int v330), .val (.int v345), .val (.int v360), .val (.int v375), .val (.ref b16), .val (.int got), .val (.int i), .val (.int y), z] [])) _
      refine XS.iload X25.here hx rfl (hb hby at_561) rfl ?_
      show Steps p.tables e below (T25.setTop (mkF m 563 #[.val (.int p1), .val (.int p2), .val (.int p3), .val (.int p4), .val (.int p5), .val (.int x5), .val (.int x6), .val (.int x7), .val (.int x8), .val (.int x9), .val (.int x10), .val (.int x11), .val (.int x12), .val (.int x13), .val (.ref b6), .val (.int (0 : Int32)), .val (.int (1 : Int32)), .val (.int (2 : Int32)), .val (.int (3 : Int32)), .val (.int v330), .val (.int v345), .val (.int v360), .val (.int v375), .val (.ref b16), .val (.int got), .val (.int i), .val (.int y), z] [(.int got)])) _
      refine XS.iload X25.here hx rfl (hb hby at_563) rfl ?_
      show Steps p.tables e below (T25.setTop (mkF m 565 #[.val (.int p1), .val (.int p2), .val (.int p3), .val (.int p4), .val (.int p5), .val (.int x5), .val (.int x6), .val (.int x7), .val (.int x8), .val (.int x9), .val (.int x10), .val (.int x11), .val (.int x12), .val (.int x13), .val (.ref b6), .val (.int (0 : Int32)), .val (.int (1 : Int32)), .val (.int (2 : Int32)), .val (.int (3 : Int32)), .val (.int v330), .val (.int v345), .val (.int v360), .val (.int v375), .val (.ref b16), .val (.int got), .val (.int i), .val (.int y), z] [(.int y), (.int got)])) _
      refine XS.icmpNo X25.here hx rfl (hb hby at_565) rfl (teq hy).2 ?_
      show Steps p.tables e below (T25.setTop (mkF m 568 #[.val (.int p1), .val (.int p2), .val (.int p3), .val (.int p4), .val (.int p5), .val (.int x5), .val (.int x6), .val (.int x7), .val (.int x8), .val (.int x9), .val (.int x10), .val (.int x11), .val (.int x12), .val (.int x13), .val (.ref b6), .val (.int (0 : Int32)), .val (.int (1 : Int32)), .val (.int (2 : Int32)), .val (.int (3 : Int32)), .val (.int v330), .val (.int v345), .val (.int v360), .val (.int v375), .val (.ref b16), .val (.int got), .val (.int i), .val (.int y), z] [])) _
      refine XS.iconst X25.here hx rfl (hb hby at_568) ?_
      show Steps p.tables e below (T25.setTop (mkF m 569 #[.val (.int p1), .val (.int p2), .val (.int p3), .val (.int p4), .val (.int p5), .val (.int x5), .val (.int x6), .val (.int x7), .val (.int x8), .val (.int x9), .val (.int x10), .val (.int x11), .val (.int x12), .val (.int x13), .val (.ref b6), .val (.int (0 : Int32)), .val (.int (1 : Int32)), .val (.int (2 : Int32)), .val (.int (3 : Int32)), .val (.int v330), .val (.int v345), .val (.int v360), .val (.int v375), .val (.ref b16), .val (.int got), .val (.int i), .val (.int y), z] [(.int (1 : Int32))])) _
      refine XS.goto X25.here hx rfl (pc0 := 569) (pc' := 573) rfl (hb hby at_569) (by decide) (by decide) ?_
      show Steps p.tables e below (T25.setTop (mkF m 573 #[.val (.int p1), .val (.int p2), .val (.int p3), .val (.int p4), .val (.int p5), .val (.int x5), .val (.int x6), .val (.int x7), .val (.int x8), .val (.int x9), .val (.int x10), .val (.int x11), .val (.int x12), .val (.int x13), .val (.ref b6), .val (.int (0 : Int32)), .val (.int (1 : Int32)), .val (.int (2 : Int32)), .val (.int (3 : Int32)), .val (.int v330), .val (.int v345), .val (.int v360), .val (.int v375), .val (.ref b16), .val (.int got), .val (.int i), .val (.int y), z] [(.int (1 : Int32))])) _
      exact retN X25 hx (t := .boolean) Bd.returns (by simp) (hb hby at_573) hr
    have a480_m : inn = (-(1 : Int32)) → Steps p.tables e below (T25.setTop (mkF m 480 #[.val (.int p1), .val (.int p2), .val (.int p3), .val (.int p4), .val (.int p5), .val (.int x5), .val (.int x6), .val (.int x7), .val (.int x8), .val (.int x9), .val (.int x10), .val (.int x11), .val (.int x12), .val (.int x13), .val (.ref b6), .val (.int (0 : Int32)), .val (.int (1 : Int32)), .val (.int (2 : Int32)), .val (.int (3 : Int32)), .val (.int v330), .val (.int v345), .val (.int v360), .val (.int v375), .val (.ref b16), .val (.int got), .val (.int (-(1 : Int32))), .unset, .unset] [])) (T25.setFrames fs) := by
      intro hK
      have hg : got = own_exp (-(1 : Int32)) v330 v345 v360 v375 := by rw [hgot2 trivial, hK]
      show Steps p.tables e below (T25.setTop (mkF m 480 #[.val (.int p1), .val (.int p2), .val (.int p3), .val (.int p4), .val (.int p5), .val (.int x5), .val (.int x6), .val (.int x7), .val (.int x8), .val (.int x9), .val (.int x10), .val (.int x11), .val (.int x12), .val (.int x13), .val (.ref b6), .val (.int (0 : Int32)), .val (.int (1 : Int32)), .val (.int (2 : Int32)), .val (.int (3 : Int32)), .val (.int v330), .val (.int v345), .val (.int v360), .val (.int v375), .val (.ref b16), .val (.int got), .val (.int (-(1 : Int32))), .unset, .unset] [])) _
      refine XS.iload X25.here hx rfl (hb hby at_480) rfl ?_
      show Steps p.tables e below (T25.setTop (mkF m 482 #[.val (.int p1), .val (.int p2), .val (.int p3), .val (.int p4), .val (.int p5), .val (.int x5), .val (.int x6), .val (.int x7), .val (.int x8), .val (.int x9), .val (.int x10), .val (.int x11), .val (.int x12), .val (.int x13), .val (.ref b6), .val (.int (0 : Int32)), .val (.int (1 : Int32)), .val (.int (2 : Int32)), .val (.int (3 : Int32)), .val (.int v330), .val (.int v345), .val (.int v360), .val (.int v375), .val (.ref b16), .val (.int got), .val (.int (-(1 : Int32))), .unset, .unset] [(.int (-(1 : Int32)))])) _
      refine XS.iconst X25.here hx rfl (hb hby at_482) ?_
      show Steps p.tables e below (T25.setTop (mkF m 483 #[.val (.int p1), .val (.int p2), .val (.int p3), .val (.int p4), .val (.int p5), .val (.int x5), .val (.int x6), .val (.int x7), .val (.int x8), .val (.int x9), .val (.int x10), .val (.int x11), .val (.int x12), .val (.int x13), .val (.ref b6), .val (.int (0 : Int32)), .val (.int (1 : Int32)), .val (.int (2 : Int32)), .val (.int (3 : Int32)), .val (.int v330), .val (.int v345), .val (.int v360), .val (.int v375), .val (.ref b16), .val (.int got), .val (.int (-(1 : Int32))), .unset, .unset] [(.int (-(1 : Int32))), (.int (-(1 : Int32)))])) _
      refine XS.icmpNo X25.here hx rfl (hb hby at_483) rfl (teq (by decide : ((-(1 : Int32)) = (-(1 : Int32))))).2 ?_
      show Steps p.tables e below (T25.setTop (mkF m 486 #[.val (.int p1), .val (.int p2), .val (.int p3), .val (.int p4), .val (.int p5), .val (.int x5), .val (.int x6), .val (.int x7), .val (.int x8), .val (.int x9), .val (.int x10), .val (.int x11), .val (.int x12), .val (.int x13), .val (.ref b6), .val (.int (0 : Int32)), .val (.int (1 : Int32)), .val (.int (2 : Int32)), .val (.int (3 : Int32)), .val (.int v330), .val (.int v345), .val (.int v360), .val (.int v375), .val (.ref b16), .val (.int got), .val (.int (-(1 : Int32))), .unset, .unset] [])) _
      refine XS.iconst X25.here hx rfl (hb hby at_486) ?_
      show Steps p.tables e below (T25.setTop (mkF m 487 #[.val (.int p1), .val (.int p2), .val (.int p3), .val (.int p4), .val (.int p5), .val (.int x5), .val (.int x6), .val (.int x7), .val (.int x8), .val (.int x9), .val (.int x10), .val (.int x11), .val (.int x12), .val (.int x13), .val (.ref b6), .val (.int (0 : Int32)), .val (.int (1 : Int32)), .val (.int (2 : Int32)), .val (.int (3 : Int32)), .val (.int v330), .val (.int v345), .val (.int v360), .val (.int v375), .val (.ref b16), .val (.int got), .val (.int (-(1 : Int32))), .unset, .unset] [(.int (0 : Int32))])) _
      refine XS.istore X25.here hx rfl (hb hby at_487) rfl (l' := #[.val (.int p1), .val (.int p2), .val (.int p3), .val (.int p4), .val (.int p5), .val (.int x5), .val (.int x6), .val (.int x7), .val (.int x8), .val (.int x9), .val (.int x10), .val (.int x11), .val (.int x12), .val (.int x13), .val (.ref b6), .val (.int (0 : Int32)), .val (.int (1 : Int32)), .val (.int (2 : Int32)), .val (.int (3 : Int32)), .val (.int v330), .val (.int v345), .val (.int v360), .val (.int v375), .val (.ref b16), .val (.int got), .val (.int (-(1 : Int32))), .val (.int (0 : Int32)), .unset]) rfl ?_
      show Steps p.tables e below (T25.setTop (mkF m 489 #[.val (.int p1), .val (.int p2), .val (.int p3), .val (.int p4), .val (.int p5), .val (.int x5), .val (.int x6), .val (.int x7), .val (.int x8), .val (.int x9), .val (.int x10), .val (.int x11), .val (.int x12), .val (.int x13), .val (.ref b6), .val (.int (0 : Int32)), .val (.int (1 : Int32)), .val (.int (2 : Int32)), .val (.int (3 : Int32)), .val (.int v330), .val (.int v345), .val (.int v360), .val (.int v375), .val (.ref b16), .val (.int got), .val (.int (-(1 : Int32))), .val (.int (0 : Int32)), .unset] [])) _
      refine XS.goto X25.here hx rfl (pc0 := 489) (pc' := 561) rfl (hb hby at_489) (by decide) (by decide) ?_
      show Steps p.tables e below (T25.setTop (mkF m 561 #[.val (.int p1), .val (.int p2), .val (.int p3), .val (.int p4), .val (.int p5), .val (.int x5), .val (.int x6), .val (.int x7), .val (.int x8), .val (.int x9), .val (.int x10), .val (.int x11), .val (.int x12), .val (.int x13), .val (.ref b6), .val (.int (0 : Int32)), .val (.int (1 : Int32)), .val (.int (2 : Int32)), .val (.int (3 : Int32)), .val (.int v330), .val (.int v345), .val (.int v360), .val (.int v375), .val (.ref b16), .val (.int got), .val (.int (-(1 : Int32))), .val (.int (0 : Int32)), .unset] [])) _
      exact fin _ _ _ (by rw [hg, own_exp_m])
    have a480_0 : inn = (0 : Int32) → Steps p.tables e below (T25.setTop (mkF m 480 #[.val (.int p1), .val (.int p2), .val (.int p3), .val (.int p4), .val (.int p5), .val (.int x5), .val (.int x6), .val (.int x7), .val (.int x8), .val (.int x9), .val (.int x10), .val (.int x11), .val (.int x12), .val (.int x13), .val (.ref b6), .val (.int (0 : Int32)), .val (.int (1 : Int32)), .val (.int (2 : Int32)), .val (.int (3 : Int32)), .val (.int v330), .val (.int v345), .val (.int v360), .val (.int v375), .val (.ref b16), .val (.int got), .val (.int (0 : Int32)), .unset, .unset] [])) (T25.setFrames fs) := by
      intro hK
      have hg : got = own_exp (0 : Int32) v330 v345 v360 v375 := by rw [hgot2 trivial, hK]
      show Steps p.tables e below (T25.setTop (mkF m 480 #[.val (.int p1), .val (.int p2), .val (.int p3), .val (.int p4), .val (.int p5), .val (.int x5), .val (.int x6), .val (.int x7), .val (.int x8), .val (.int x9), .val (.int x10), .val (.int x11), .val (.int x12), .val (.int x13), .val (.ref b6), .val (.int (0 : Int32)), .val (.int (1 : Int32)), .val (.int (2 : Int32)), .val (.int (3 : Int32)), .val (.int v330), .val (.int v345), .val (.int v360), .val (.int v375), .val (.ref b16), .val (.int got), .val (.int (0 : Int32)), .unset, .unset] [])) _
      refine XS.iload X25.here hx rfl (hb hby at_480) rfl ?_
      show Steps p.tables e below (T25.setTop (mkF m 482 #[.val (.int p1), .val (.int p2), .val (.int p3), .val (.int p4), .val (.int p5), .val (.int x5), .val (.int x6), .val (.int x7), .val (.int x8), .val (.int x9), .val (.int x10), .val (.int x11), .val (.int x12), .val (.int x13), .val (.ref b6), .val (.int (0 : Int32)), .val (.int (1 : Int32)), .val (.int (2 : Int32)), .val (.int (3 : Int32)), .val (.int v330), .val (.int v345), .val (.int v360), .val (.int v375), .val (.ref b16), .val (.int got), .val (.int (0 : Int32)), .unset, .unset] [(.int (0 : Int32))])) _
      refine XS.iconst X25.here hx rfl (hb hby at_482) ?_
      show Steps p.tables e below (T25.setTop (mkF m 483 #[.val (.int p1), .val (.int p2), .val (.int p3), .val (.int p4), .val (.int p5), .val (.int x5), .val (.int x6), .val (.int x7), .val (.int x8), .val (.int x9), .val (.int x10), .val (.int x11), .val (.int x12), .val (.int x13), .val (.ref b6), .val (.int (0 : Int32)), .val (.int (1 : Int32)), .val (.int (2 : Int32)), .val (.int (3 : Int32)), .val (.int v330), .val (.int v345), .val (.int v360), .val (.int v375), .val (.ref b16), .val (.int got), .val (.int (0 : Int32)), .unset, .unset] [(.int (-(1 : Int32))), (.int (0 : Int32))])) _
      refine XS.icmpYes X25.here hx rfl (pc0 := 483) (pc' := 492) rfl (hb hby at_483) rfl (feq (by decide : ¬ ((0 : Int32) = (-(1 : Int32))))).2 (by decide) (by decide) ?_
      show Steps p.tables e below (T25.setTop (mkF m 492 #[.val (.int p1), .val (.int p2), .val (.int p3), .val (.int p4), .val (.int p5), .val (.int x5), .val (.int x6), .val (.int x7), .val (.int x8), .val (.int x9), .val (.int x10), .val (.int x11), .val (.int x12), .val (.int x13), .val (.ref b6), .val (.int (0 : Int32)), .val (.int (1 : Int32)), .val (.int (2 : Int32)), .val (.int (3 : Int32)), .val (.int v330), .val (.int v345), .val (.int v360), .val (.int v375), .val (.ref b16), .val (.int got), .val (.int (0 : Int32)), .unset, .unset] [])) _
      refine XS.iload X25.here hx rfl (hb hby at_492) rfl ?_
      show Steps p.tables e below (T25.setTop (mkF m 494 #[.val (.int p1), .val (.int p2), .val (.int p3), .val (.int p4), .val (.int p5), .val (.int x5), .val (.int x6), .val (.int x7), .val (.int x8), .val (.int x9), .val (.int x10), .val (.int x11), .val (.int x12), .val (.int x13), .val (.ref b6), .val (.int (0 : Int32)), .val (.int (1 : Int32)), .val (.int (2 : Int32)), .val (.int (3 : Int32)), .val (.int v330), .val (.int v345), .val (.int v360), .val (.int v375), .val (.ref b16), .val (.int got), .val (.int (0 : Int32)), .unset, .unset] [(.int (0 : Int32))])) _
      refine XS.ifNo X25.here hx rfl (hb hby at_494) rfl ((if0 _ _).trans (teq (by decide : ((0 : Int32) = (0 : Int32)))).2) ?_
      show Steps p.tables e below (T25.setTop (mkF m 497 #[.val (.int p1), .val (.int p2), .val (.int p3), .val (.int p4), .val (.int p5), .val (.int x5), .val (.int x6), .val (.int x7), .val (.int x8), .val (.int x9), .val (.int x10), .val (.int x11), .val (.int x12), .val (.int x13), .val (.ref b6), .val (.int (0 : Int32)), .val (.int (1 : Int32)), .val (.int (2 : Int32)), .val (.int (3 : Int32)), .val (.int v330), .val (.int v345), .val (.int v360), .val (.int v375), .val (.ref b16), .val (.int got), .val (.int (0 : Int32)), .unset, .unset] [])) _
      refine XS.iload X25.here hx rfl (hb hby at_497) rfl ?_
      show Steps p.tables e below (T25.setTop (mkF m 499 #[.val (.int p1), .val (.int p2), .val (.int p3), .val (.int p4), .val (.int p5), .val (.int x5), .val (.int x6), .val (.int x7), .val (.int x8), .val (.int x9), .val (.int x10), .val (.int x11), .val (.int x12), .val (.int x13), .val (.ref b6), .val (.int (0 : Int32)), .val (.int (1 : Int32)), .val (.int (2 : Int32)), .val (.int (3 : Int32)), .val (.int v330), .val (.int v345), .val (.int v360), .val (.int v375), .val (.ref b16), .val (.int got), .val (.int (0 : Int32)), .unset, .unset] [(.int v330)])) _
      by_cases c499 : v330 = (0 : Int32)
      · refine XS.ifYes X25.here hx rfl (pc0 := 499) (pc' := 506) rfl (hb hby at_499) rfl ((if0 _ _).trans (teq c499).1) (by decide) (by decide) ?_
        show Steps p.tables e below (T25.setTop (mkF m 506 #[.val (.int p1), .val (.int p2), .val (.int p3), .val (.int p4), .val (.int p5), .val (.int x5), .val (.int x6), .val (.int x7), .val (.int x8), .val (.int x9), .val (.int x10), .val (.int x11), .val (.int x12), .val (.int x13), .val (.ref b6), .val (.int (0 : Int32)), .val (.int (1 : Int32)), .val (.int (2 : Int32)), .val (.int (3 : Int32)), .val (.int v330), .val (.int v345), .val (.int v360), .val (.int v375), .val (.ref b16), .val (.int got), .val (.int (0 : Int32)), .unset, .unset] [])) _
        refine XS.iconst X25.here hx rfl (hb hby at_506) ?_
        show Steps p.tables e below (T25.setTop (mkF m 507 #[.val (.int p1), .val (.int p2), .val (.int p3), .val (.int p4), .val (.int p5), .val (.int x5), .val (.int x6), .val (.int x7), .val (.int x8), .val (.int x9), .val (.int x10), .val (.int x11), .val (.int x12), .val (.int x13), .val (.ref b6), .val (.int (0 : Int32)), .val (.int (1 : Int32)), .val (.int (2 : Int32)), .val (.int (3 : Int32)), .val (.int v330), .val (.int v345), .val (.int v360), .val (.int v375), .val (.ref b16), .val (.int got), .val (.int (0 : Int32)), .unset, .unset] [(.int (0 : Int32))])) _
        refine XS.istore X25.here hx rfl (hb hby at_507) rfl (l' := #[.val (.int p1), .val (.int p2), .val (.int p3), .val (.int p4), .val (.int p5), .val (.int x5), .val (.int x6), .val (.int x7), .val (.int x8), .val (.int x9), .val (.int x10), .val (.int x11), .val (.int x12), .val (.int x13), .val (.ref b6), .val (.int (0 : Int32)), .val (.int (1 : Int32)), .val (.int (2 : Int32)), .val (.int (3 : Int32)), .val (.int v330), .val (.int v345), .val (.int v360), .val (.int v375), .val (.ref b16), .val (.int got), .val (.int (0 : Int32)), .val (.int (0 : Int32)), .unset]) rfl ?_
        show Steps p.tables e below (T25.setTop (mkF m 509 #[.val (.int p1), .val (.int p2), .val (.int p3), .val (.int p4), .val (.int p5), .val (.int x5), .val (.int x6), .val (.int x7), .val (.int x8), .val (.int x9), .val (.int x10), .val (.int x11), .val (.int x12), .val (.int x13), .val (.ref b6), .val (.int (0 : Int32)), .val (.int (1 : Int32)), .val (.int (2 : Int32)), .val (.int (3 : Int32)), .val (.int v330), .val (.int v345), .val (.int v360), .val (.int v375), .val (.ref b16), .val (.int got), .val (.int (0 : Int32)), .val (.int (0 : Int32)), .unset] [])) _
        refine XS.goto X25.here hx rfl (pc0 := 509) (pc' := 561) rfl (hb hby at_509) (by decide) (by decide) ?_
        show Steps p.tables e below (T25.setTop (mkF m 561 #[.val (.int p1), .val (.int p2), .val (.int p3), .val (.int p4), .val (.int p5), .val (.int x5), .val (.int x6), .val (.int x7), .val (.int x8), .val (.int x9), .val (.int x10), .val (.int x11), .val (.int x12), .val (.int x13), .val (.ref b6), .val (.int (0 : Int32)), .val (.int (1 : Int32)), .val (.int (2 : Int32)), .val (.int (3 : Int32)), .val (.int v330), .val (.int v345), .val (.int v360), .val (.int v375), .val (.ref b16), .val (.int got), .val (.int (0 : Int32)), .val (.int (0 : Int32)), .unset] [])) _
        exact fin _ _ _ (by rw [hg, own_exp_0, if_pos c499])
      · refine XS.ifNo X25.here hx rfl (hb hby at_499) rfl ((if0 _ _).trans (feq c499).1) ?_
        show Steps p.tables e below (T25.setTop (mkF m 502 #[.val (.int p1), .val (.int p2), .val (.int p3), .val (.int p4), .val (.int p5), .val (.int x5), .val (.int x6), .val (.int x7), .val (.int x8), .val (.int x9), .val (.int x10), .val (.int x11), .val (.int x12), .val (.int x13), .val (.ref b6), .val (.int (0 : Int32)), .val (.int (1 : Int32)), .val (.int (2 : Int32)), .val (.int (3 : Int32)), .val (.int v330), .val (.int v345), .val (.int v360), .val (.int v375), .val (.ref b16), .val (.int got), .val (.int (0 : Int32)), .unset, .unset] [])) _
        refine XS.iconst X25.here hx rfl (hb hby at_502) ?_
        show Steps p.tables e below (T25.setTop (mkF m 503 #[.val (.int p1), .val (.int p2), .val (.int p3), .val (.int p4), .val (.int p5), .val (.int x5), .val (.int x6), .val (.int x7), .val (.int x8), .val (.int x9), .val (.int x10), .val (.int x11), .val (.int x12), .val (.int x13), .val (.ref b6), .val (.int (0 : Int32)), .val (.int (1 : Int32)), .val (.int (2 : Int32)), .val (.int (3 : Int32)), .val (.int v330), .val (.int v345), .val (.int v360), .val (.int v375), .val (.ref b16), .val (.int got), .val (.int (0 : Int32)), .unset, .unset] [(.int (1 : Int32))])) _
        refine XS.goto X25.here hx rfl (pc0 := 503) (pc' := 507) rfl (hb hby at_503) (by decide) (by decide) ?_
        show Steps p.tables e below (T25.setTop (mkF m 507 #[.val (.int p1), .val (.int p2), .val (.int p3), .val (.int p4), .val (.int p5), .val (.int x5), .val (.int x6), .val (.int x7), .val (.int x8), .val (.int x9), .val (.int x10), .val (.int x11), .val (.int x12), .val (.int x13), .val (.ref b6), .val (.int (0 : Int32)), .val (.int (1 : Int32)), .val (.int (2 : Int32)), .val (.int (3 : Int32)), .val (.int v330), .val (.int v345), .val (.int v360), .val (.int v375), .val (.ref b16), .val (.int got), .val (.int (0 : Int32)), .unset, .unset] [(.int (1 : Int32))])) _
        refine XS.istore X25.here hx rfl (hb hby at_507) rfl (l' := #[.val (.int p1), .val (.int p2), .val (.int p3), .val (.int p4), .val (.int p5), .val (.int x5), .val (.int x6), .val (.int x7), .val (.int x8), .val (.int x9), .val (.int x10), .val (.int x11), .val (.int x12), .val (.int x13), .val (.ref b6), .val (.int (0 : Int32)), .val (.int (1 : Int32)), .val (.int (2 : Int32)), .val (.int (3 : Int32)), .val (.int v330), .val (.int v345), .val (.int v360), .val (.int v375), .val (.ref b16), .val (.int got), .val (.int (0 : Int32)), .val (.int (1 : Int32)), .unset]) rfl ?_
        show Steps p.tables e below (T25.setTop (mkF m 509 #[.val (.int p1), .val (.int p2), .val (.int p3), .val (.int p4), .val (.int p5), .val (.int x5), .val (.int x6), .val (.int x7), .val (.int x8), .val (.int x9), .val (.int x10), .val (.int x11), .val (.int x12), .val (.int x13), .val (.ref b6), .val (.int (0 : Int32)), .val (.int (1 : Int32)), .val (.int (2 : Int32)), .val (.int (3 : Int32)), .val (.int v330), .val (.int v345), .val (.int v360), .val (.int v375), .val (.ref b16), .val (.int got), .val (.int (0 : Int32)), .val (.int (1 : Int32)), .unset] [])) _
        refine XS.goto X25.here hx rfl (pc0 := 509) (pc' := 561) rfl (hb hby at_509) (by decide) (by decide) ?_
        show Steps p.tables e below (T25.setTop (mkF m 561 #[.val (.int p1), .val (.int p2), .val (.int p3), .val (.int p4), .val (.int p5), .val (.int x5), .val (.int x6), .val (.int x7), .val (.int x8), .val (.int x9), .val (.int x10), .val (.int x11), .val (.int x12), .val (.int x13), .val (.ref b6), .val (.int (0 : Int32)), .val (.int (1 : Int32)), .val (.int (2 : Int32)), .val (.int (3 : Int32)), .val (.int v330), .val (.int v345), .val (.int v360), .val (.int v375), .val (.ref b16), .val (.int got), .val (.int (0 : Int32)), .val (.int (1 : Int32)), .unset] [])) _
        exact fin _ _ _ (by rw [hg, own_exp_0, if_neg c499])
    have a480_1 : inn = (1 : Int32) → Steps p.tables e below (T25.setTop (mkF m 480 #[.val (.int p1), .val (.int p2), .val (.int p3), .val (.int p4), .val (.int p5), .val (.int x5), .val (.int x6), .val (.int x7), .val (.int x8), .val (.int x9), .val (.int x10), .val (.int x11), .val (.int x12), .val (.int x13), .val (.ref b6), .val (.int (0 : Int32)), .val (.int (1 : Int32)), .val (.int (2 : Int32)), .val (.int (3 : Int32)), .val (.int v330), .val (.int v345), .val (.int v360), .val (.int v375), .val (.ref b16), .val (.int got), .val (.int (1 : Int32)), .unset, .unset] [])) (T25.setFrames fs) := by
      intro hK
      have hg : got = own_exp (1 : Int32) v330 v345 v360 v375 := by rw [hgot2 trivial, hK]
      show Steps p.tables e below (T25.setTop (mkF m 480 #[.val (.int p1), .val (.int p2), .val (.int p3), .val (.int p4), .val (.int p5), .val (.int x5), .val (.int x6), .val (.int x7), .val (.int x8), .val (.int x9), .val (.int x10), .val (.int x11), .val (.int x12), .val (.int x13), .val (.ref b6), .val (.int (0 : Int32)), .val (.int (1 : Int32)), .val (.int (2 : Int32)), .val (.int (3 : Int32)), .val (.int v330), .val (.int v345), .val (.int v360), .val (.int v375), .val (.ref b16), .val (.int got), .val (.int (1 : Int32)), .unset, .unset] [])) _
      refine XS.iload X25.here hx rfl (hb hby at_480) rfl ?_
      show Steps p.tables e below (T25.setTop (mkF m 482 #[.val (.int p1), .val (.int p2), .val (.int p3), .val (.int p4), .val (.int p5), .val (.int x5), .val (.int x6), .val (.int x7), .val (.int x8), .val (.int x9), .val (.int x10), .val (.int x11), .val (.int x12), .val (.int x13), .val (.ref b6), .val (.int (0 : Int32)), .val (.int (1 : Int32)), .val (.int (2 : Int32)), .val (.int (3 : Int32)), .val (.int v330), .val (.int v345), .val (.int v360), .val (.int v375), .val (.ref b16), .val (.int got), .val (.int (1 : Int32)), .unset, .unset] [(.int (1 : Int32))])) _
      refine XS.iconst X25.here hx rfl (hb hby at_482) ?_
      show Steps p.tables e below (T25.setTop (mkF m 483 #[.val (.int p1), .val (.int p2), .val (.int p3), .val (.int p4), .val (.int p5), .val (.int x5), .val (.int x6), .val (.int x7), .val (.int x8), .val (.int x9), .val (.int x10), .val (.int x11), .val (.int x12), .val (.int x13), .val (.ref b6), .val (.int (0 : Int32)), .val (.int (1 : Int32)), .val (.int (2 : Int32)), .val (.int (3 : Int32)), .val (.int v330), .val (.int v345), .val (.int v360), .val (.int v375), .val (.ref b16), .val (.int got), .val (.int (1 : Int32)), .unset, .unset] [(.int (-(1 : Int32))), (.int (1 : Int32))])) _
      refine XS.icmpYes X25.here hx rfl (pc0 := 483) (pc' := 492) rfl (hb hby at_483) rfl (feq (by decide : ¬ ((1 : Int32) = (-(1 : Int32))))).2 (by decide) (by decide) ?_
      show Steps p.tables e below (T25.setTop (mkF m 492 #[.val (.int p1), .val (.int p2), .val (.int p3), .val (.int p4), .val (.int p5), .val (.int x5), .val (.int x6), .val (.int x7), .val (.int x8), .val (.int x9), .val (.int x10), .val (.int x11), .val (.int x12), .val (.int x13), .val (.ref b6), .val (.int (0 : Int32)), .val (.int (1 : Int32)), .val (.int (2 : Int32)), .val (.int (3 : Int32)), .val (.int v330), .val (.int v345), .val (.int v360), .val (.int v375), .val (.ref b16), .val (.int got), .val (.int (1 : Int32)), .unset, .unset] [])) _
      refine XS.iload X25.here hx rfl (hb hby at_492) rfl ?_
      show Steps p.tables e below (T25.setTop (mkF m 494 #[.val (.int p1), .val (.int p2), .val (.int p3), .val (.int p4), .val (.int p5), .val (.int x5), .val (.int x6), .val (.int x7), .val (.int x8), .val (.int x9), .val (.int x10), .val (.int x11), .val (.int x12), .val (.int x13), .val (.ref b6), .val (.int (0 : Int32)), .val (.int (1 : Int32)), .val (.int (2 : Int32)), .val (.int (3 : Int32)), .val (.int v330), .val (.int v345), .val (.int v360), .val (.int v375), .val (.ref b16), .val (.int got), .val (.int (1 : Int32)), .unset, .unset] [(.int (1 : Int32))])) _
      refine XS.ifYes X25.here hx rfl (pc0 := 494) (pc' := 512) rfl (hb hby at_494) rfl ((if0 _ _).trans (feq (by decide : ¬ ((1 : Int32) = (0 : Int32)))).2) (by decide) (by decide) ?_
      show Steps p.tables e below (T25.setTop (mkF m 512 #[.val (.int p1), .val (.int p2), .val (.int p3), .val (.int p4), .val (.int p5), .val (.int x5), .val (.int x6), .val (.int x7), .val (.int x8), .val (.int x9), .val (.int x10), .val (.int x11), .val (.int x12), .val (.int x13), .val (.ref b6), .val (.int (0 : Int32)), .val (.int (1 : Int32)), .val (.int (2 : Int32)), .val (.int (3 : Int32)), .val (.int v330), .val (.int v345), .val (.int v360), .val (.int v375), .val (.ref b16), .val (.int got), .val (.int (1 : Int32)), .unset, .unset] [])) _
      refine XS.iload X25.here hx rfl (hb hby at_512) rfl ?_
      show Steps p.tables e below (T25.setTop (mkF m 514 #[.val (.int p1), .val (.int p2), .val (.int p3), .val (.int p4), .val (.int p5), .val (.int x5), .val (.int x6), .val (.int x7), .val (.int x8), .val (.int x9), .val (.int x10), .val (.int x11), .val (.int x12), .val (.int x13), .val (.ref b6), .val (.int (0 : Int32)), .val (.int (1 : Int32)), .val (.int (2 : Int32)), .val (.int (3 : Int32)), .val (.int v330), .val (.int v345), .val (.int v360), .val (.int v375), .val (.ref b16), .val (.int got), .val (.int (1 : Int32)), .unset, .unset] [(.int (1 : Int32))])) _
      refine XS.iconst X25.here hx rfl (hb hby at_514) ?_
      show Steps p.tables e below (T25.setTop (mkF m 515 #[.val (.int p1), .val (.int p2), .val (.int p3), .val (.int p4), .val (.int p5), .val (.int x5), .val (.int x6), .val (.int x7), .val (.int x8), .val (.int x9), .val (.int x10), .val (.int x11), .val (.int x12), .val (.int x13), .val (.ref b6), .val (.int (0 : Int32)), .val (.int (1 : Int32)), .val (.int (2 : Int32)), .val (.int (3 : Int32)), .val (.int v330), .val (.int v345), .val (.int v360), .val (.int v375), .val (.ref b16), .val (.int got), .val (.int (1 : Int32)), .unset, .unset] [(.int (1 : Int32)), (.int (1 : Int32))])) _
      refine XS.icmpNo X25.here hx rfl (hb hby at_515) rfl (teq (by decide : ((1 : Int32) = (1 : Int32)))).2 ?_
      show Steps p.tables e below (T25.setTop (mkF m 518 #[.val (.int p1), .val (.int p2), .val (.int p3), .val (.int p4), .val (.int p5), .val (.int x5), .val (.int x6), .val (.int x7), .val (.int x8), .val (.int x9), .val (.int x10), .val (.int x11), .val (.int x12), .val (.int x13), .val (.ref b6), .val (.int (0 : Int32)), .val (.int (1 : Int32)), .val (.int (2 : Int32)), .val (.int (3 : Int32)), .val (.int v330), .val (.int v345), .val (.int v360), .val (.int v375), .val (.ref b16), .val (.int got), .val (.int (1 : Int32)), .unset, .unset] [])) _
      refine XS.iload X25.here hx rfl (hb hby at_518) rfl ?_
      show Steps p.tables e below (T25.setTop (mkF m 520 #[.val (.int p1), .val (.int p2), .val (.int p3), .val (.int p4), .val (.int p5), .val (.int x5), .val (.int x6), .val (.int x7), .val (.int x8), .val (.int x9), .val (.int x10), .val (.int x11), .val (.int x12), .val (.int x13), .val (.ref b6), .val (.int (0 : Int32)), .val (.int (1 : Int32)), .val (.int (2 : Int32)), .val (.int (3 : Int32)), .val (.int v330), .val (.int v345), .val (.int v360), .val (.int v375), .val (.ref b16), .val (.int got), .val (.int (1 : Int32)), .unset, .unset] [(.int v345)])) _
      refine XS.goto X25.here hx rfl (pc0 := 520) (pc' := 536) rfl (hb hby at_520) (by decide) (by decide) ?_
      show Steps p.tables e below (T25.setTop (mkF m 536 #[.val (.int p1), .val (.int p2), .val (.int p3), .val (.int p4), .val (.int p5), .val (.int x5), .val (.int x6), .val (.int x7), .val (.int x8), .val (.int x9), .val (.int x10), .val (.int x11), .val (.int x12), .val (.int x13), .val (.ref b6), .val (.int (0 : Int32)), .val (.int (1 : Int32)), .val (.int (2 : Int32)), .val (.int (3 : Int32)), .val (.int v330), .val (.int v345), .val (.int v360), .val (.int v375), .val (.ref b16), .val (.int got), .val (.int (1 : Int32)), .unset, .unset] [(.int v345)])) _
      refine XS.istore X25.here hx rfl (hb hby at_536) rfl (l' := #[.val (.int p1), .val (.int p2), .val (.int p3), .val (.int p4), .val (.int p5), .val (.int x5), .val (.int x6), .val (.int x7), .val (.int x8), .val (.int x9), .val (.int x10), .val (.int x11), .val (.int x12), .val (.int x13), .val (.ref b6), .val (.int (0 : Int32)), .val (.int (1 : Int32)), .val (.int (2 : Int32)), .val (.int (3 : Int32)), .val (.int v330), .val (.int v345), .val (.int v360), .val (.int v375), .val (.ref b16), .val (.int got), .val (.int (1 : Int32)), .unset, .val (.int v345)]) rfl ?_
      show Steps p.tables e below (T25.setTop (mkF m 538 #[.val (.int p1), .val (.int p2), .val (.int p3), .val (.int p4), .val (.int p5), .val (.int x5), .val (.int x6), .val (.int x7), .val (.int x8), .val (.int x9), .val (.int x10), .val (.int x11), .val (.int x12), .val (.int x13), .val (.ref b6), .val (.int (0 : Int32)), .val (.int (1 : Int32)), .val (.int (2 : Int32)), .val (.int (3 : Int32)), .val (.int v330), .val (.int v345), .val (.int v360), .val (.int v375), .val (.ref b16), .val (.int got), .val (.int (1 : Int32)), .unset, .val (.int v345)] [])) _
      refine XS.iload X25.here hx rfl (hb hby at_538) rfl ?_
      show Steps p.tables e below (T25.setTop (mkF m 540 #[.val (.int p1), .val (.int p2), .val (.int p3), .val (.int p4), .val (.int p5), .val (.int x5), .val (.int x6), .val (.int x7), .val (.int x8), .val (.int x9), .val (.int x10), .val (.int x11), .val (.int x12), .val (.int x13), .val (.ref b6), .val (.int (0 : Int32)), .val (.int (1 : Int32)), .val (.int (2 : Int32)), .val (.int (3 : Int32)), .val (.int v330), .val (.int v345), .val (.int v360), .val (.int v375), .val (.ref b16), .val (.int got), .val (.int (1 : Int32)), .unset, .val (.int v345)] [(.int v345)])) _
      by_cases c540 : v345 = (0 : Int32)
      · refine XS.ifNo X25.here hx rfl (hb hby at_540) rfl ((if0 _ _).trans (teq c540).2) ?_
        show Steps p.tables e below (T25.setTop (mkF m 543 #[.val (.int p1), .val (.int p2), .val (.int p3), .val (.int p4), .val (.int p5), .val (.int x5), .val (.int x6), .val (.int x7), .val (.int x8), .val (.int x9), .val (.int x10), .val (.int x11), .val (.int x12), .val (.int x13), .val (.ref b6), .val (.int (0 : Int32)), .val (.int (1 : Int32)), .val (.int (2 : Int32)), .val (.int (3 : Int32)), .val (.int v330), .val (.int v345), .val (.int v360), .val (.int v375), .val (.ref b16), .val (.int got), .val (.int (1 : Int32)), .unset, .val (.int v345)] [])) _
        refine XS.iconst X25.here hx rfl (hb hby at_543) ?_
        show Steps p.tables e below (T25.setTop (mkF m 544 #[.val (.int p1), .val (.int p2), .val (.int p3), .val (.int p4), .val (.int p5), .val (.int x5), .val (.int x6), .val (.int x7), .val (.int x8), .val (.int x9), .val (.int x10), .val (.int x11), .val (.int x12), .val (.int x13), .val (.ref b6), .val (.int (0 : Int32)), .val (.int (1 : Int32)), .val (.int (2 : Int32)), .val (.int (3 : Int32)), .val (.int v330), .val (.int v345), .val (.int v360), .val (.int v375), .val (.ref b16), .val (.int got), .val (.int (1 : Int32)), .unset, .val (.int v345)] [(.int (0 : Int32))])) _
        refine XS.istore X25.here hx rfl (hb hby at_544) rfl (l' := #[.val (.int p1), .val (.int p2), .val (.int p3), .val (.int p4), .val (.int p5), .val (.int x5), .val (.int x6), .val (.int x7), .val (.int x8), .val (.int x9), .val (.int x10), .val (.int x11), .val (.int x12), .val (.int x13), .val (.ref b6), .val (.int (0 : Int32)), .val (.int (1 : Int32)), .val (.int (2 : Int32)), .val (.int (3 : Int32)), .val (.int v330), .val (.int v345), .val (.int v360), .val (.int v375), .val (.ref b16), .val (.int got), .val (.int (1 : Int32)), .val (.int (0 : Int32)), .val (.int v345)]) rfl ?_
        show Steps p.tables e below (T25.setTop (mkF m 546 #[.val (.int p1), .val (.int p2), .val (.int p3), .val (.int p4), .val (.int p5), .val (.int x5), .val (.int x6), .val (.int x7), .val (.int x8), .val (.int x9), .val (.int x10), .val (.int x11), .val (.int x12), .val (.int x13), .val (.ref b6), .val (.int (0 : Int32)), .val (.int (1 : Int32)), .val (.int (2 : Int32)), .val (.int (3 : Int32)), .val (.int v330), .val (.int v345), .val (.int v360), .val (.int v375), .val (.ref b16), .val (.int got), .val (.int (1 : Int32)), .val (.int (0 : Int32)), .val (.int v345)] [])) _
        refine XS.goto X25.here hx rfl (pc0 := 546) (pc' := 561) rfl (hb hby at_546) (by decide) (by decide) ?_
        show Steps p.tables e below (T25.setTop (mkF m 561 #[.val (.int p1), .val (.int p2), .val (.int p3), .val (.int p4), .val (.int p5), .val (.int x5), .val (.int x6), .val (.int x7), .val (.int x8), .val (.int x9), .val (.int x10), .val (.int x11), .val (.int x12), .val (.int x13), .val (.ref b6), .val (.int (0 : Int32)), .val (.int (1 : Int32)), .val (.int (2 : Int32)), .val (.int (3 : Int32)), .val (.int v330), .val (.int v345), .val (.int v360), .val (.int v375), .val (.ref b16), .val (.int got), .val (.int (1 : Int32)), .val (.int (0 : Int32)), .val (.int v345)] [])) _
        exact fin _ _ _ (by rw [hg, own_exp_1, if_pos c540])
      · refine XS.ifYes X25.here hx rfl (pc0 := 540) (pc' := 549) rfl (hb hby at_540) rfl ((if0 _ _).trans (feq c540).2) (by decide) (by decide) ?_
        show Steps p.tables e below (T25.setTop (mkF m 549 #[.val (.int p1), .val (.int p2), .val (.int p3), .val (.int p4), .val (.int p5), .val (.int x5), .val (.int x6), .val (.int x7), .val (.int x8), .val (.int x9), .val (.int x10), .val (.int x11), .val (.int x12), .val (.int x13), .val (.ref b6), .val (.int (0 : Int32)), .val (.int (1 : Int32)), .val (.int (2 : Int32)), .val (.int (3 : Int32)), .val (.int v330), .val (.int v345), .val (.int v360), .val (.int v375), .val (.ref b16), .val (.int got), .val (.int (1 : Int32)), .unset, .val (.int v345)] [])) _
        refine XS.iload X25.here hx rfl (hb hby at_549) rfl ?_
        show Steps p.tables e below (T25.setTop (mkF m 551 #[.val (.int p1), .val (.int p2), .val (.int p3), .val (.int p4), .val (.int p5), .val (.int x5), .val (.int x6), .val (.int x7), .val (.int x8), .val (.int x9), .val (.int x10), .val (.int x11), .val (.int x12), .val (.int x13), .val (.ref b6), .val (.int (0 : Int32)), .val (.int (1 : Int32)), .val (.int (2 : Int32)), .val (.int (3 : Int32)), .val (.int v330), .val (.int v345), .val (.int v360), .val (.int v375), .val (.ref b16), .val (.int got), .val (.int (1 : Int32)), .unset, .val (.int v345)] [(.int v330)])) _
        by_cases c551 : v330 = (0 : Int32)
        · refine XS.ifYes X25.here hx rfl (pc0 := 551) (pc' := 558) rfl (hb hby at_551) rfl ((if0 _ _).trans (teq c551).1) (by decide) (by decide) ?_
          show Steps p.tables e below (T25.setTop (mkF m 558 #[.val (.int p1), .val (.int p2), .val (.int p3), .val (.int p4), .val (.int p5), .val (.int x5), .val (.int x6), .val (.int x7), .val (.int x8), .val (.int x9), .val (.int x10), .val (.int x11), .val (.int x12), .val (.int x13), .val (.ref b6), .val (.int (0 : Int32)), .val (.int (1 : Int32)), .val (.int (2 : Int32)), .val (.int (3 : Int32)), .val (.int v330), .val (.int v345), .val (.int v360), .val (.int v375), .val (.ref b16), .val (.int got), .val (.int (1 : Int32)), .unset, .val (.int v345)] [])) _
          refine XS.iconst X25.here hx rfl (hb hby at_558) ?_
          show Steps p.tables e below (T25.setTop (mkF m 559 #[.val (.int p1), .val (.int p2), .val (.int p3), .val (.int p4), .val (.int p5), .val (.int x5), .val (.int x6), .val (.int x7), .val (.int x8), .val (.int x9), .val (.int x10), .val (.int x11), .val (.int x12), .val (.int x13), .val (.ref b6), .val (.int (0 : Int32)), .val (.int (1 : Int32)), .val (.int (2 : Int32)), .val (.int (3 : Int32)), .val (.int v330), .val (.int v345), .val (.int v360), .val (.int v375), .val (.ref b16), .val (.int got), .val (.int (1 : Int32)), .unset, .val (.int v345)] [(.int (1 : Int32))])) _
          refine XS.istore X25.here hx rfl (hb hby at_559) rfl (l' := #[.val (.int p1), .val (.int p2), .val (.int p3), .val (.int p4), .val (.int p5), .val (.int x5), .val (.int x6), .val (.int x7), .val (.int x8), .val (.int x9), .val (.int x10), .val (.int x11), .val (.int x12), .val (.int x13), .val (.ref b6), .val (.int (0 : Int32)), .val (.int (1 : Int32)), .val (.int (2 : Int32)), .val (.int (3 : Int32)), .val (.int v330), .val (.int v345), .val (.int v360), .val (.int v375), .val (.ref b16), .val (.int got), .val (.int (1 : Int32)), .val (.int (1 : Int32)), .val (.int v345)]) rfl ?_
          show Steps p.tables e below (T25.setTop (mkF m 561 #[.val (.int p1), .val (.int p2), .val (.int p3), .val (.int p4), .val (.int p5), .val (.int x5), .val (.int x6), .val (.int x7), .val (.int x8), .val (.int x9), .val (.int x10), .val (.int x11), .val (.int x12), .val (.int x13), .val (.ref b6), .val (.int (0 : Int32)), .val (.int (1 : Int32)), .val (.int (2 : Int32)), .val (.int (3 : Int32)), .val (.int v330), .val (.int v345), .val (.int v360), .val (.int v375), .val (.ref b16), .val (.int got), .val (.int (1 : Int32)), .val (.int (1 : Int32)), .val (.int v345)] [])) _
          exact fin _ _ _ (by rw [hg, own_exp_1, if_neg c540, if_pos c551])
        · refine XS.ifNo X25.here hx rfl (hb hby at_551) rfl ((if0 _ _).trans (feq c551).1) ?_
          show Steps p.tables e below (T25.setTop (mkF m 554 #[.val (.int p1), .val (.int p2), .val (.int p3), .val (.int p4), .val (.int p5), .val (.int x5), .val (.int x6), .val (.int x7), .val (.int x8), .val (.int x9), .val (.int x10), .val (.int x11), .val (.int x12), .val (.int x13), .val (.ref b6), .val (.int (0 : Int32)), .val (.int (1 : Int32)), .val (.int (2 : Int32)), .val (.int (3 : Int32)), .val (.int v330), .val (.int v345), .val (.int v360), .val (.int v375), .val (.ref b16), .val (.int got), .val (.int (1 : Int32)), .unset, .val (.int v345)] [])) _
          refine XS.iconst X25.here hx rfl (hb hby at_554) ?_
          show Steps p.tables e below (T25.setTop (mkF m 555 #[.val (.int p1), .val (.int p2), .val (.int p3), .val (.int p4), .val (.int p5), .val (.int x5), .val (.int x6), .val (.int x7), .val (.int x8), .val (.int x9), .val (.int x10), .val (.int x11), .val (.int x12), .val (.int x13), .val (.ref b6), .val (.int (0 : Int32)), .val (.int (1 : Int32)), .val (.int (2 : Int32)), .val (.int (3 : Int32)), .val (.int v330), .val (.int v345), .val (.int v360), .val (.int v375), .val (.ref b16), .val (.int got), .val (.int (1 : Int32)), .unset, .val (.int v345)] [(.int (2 : Int32))])) _
          refine XS.goto X25.here hx rfl (pc0 := 555) (pc' := 559) rfl (hb hby at_555) (by decide) (by decide) ?_
          show Steps p.tables e below (T25.setTop (mkF m 559 #[.val (.int p1), .val (.int p2), .val (.int p3), .val (.int p4), .val (.int p5), .val (.int x5), .val (.int x6), .val (.int x7), .val (.int x8), .val (.int x9), .val (.int x10), .val (.int x11), .val (.int x12), .val (.int x13), .val (.ref b6), .val (.int (0 : Int32)), .val (.int (1 : Int32)), .val (.int (2 : Int32)), .val (.int (3 : Int32)), .val (.int v330), .val (.int v345), .val (.int v360), .val (.int v375), .val (.ref b16), .val (.int got), .val (.int (1 : Int32)), .unset, .val (.int v345)] [(.int (2 : Int32))])) _
          refine XS.istore X25.here hx rfl (hb hby at_559) rfl (l' := #[.val (.int p1), .val (.int p2), .val (.int p3), .val (.int p4), .val (.int p5), .val (.int x5), .val (.int x6), .val (.int x7), .val (.int x8), .val (.int x9), .val (.int x10), .val (.int x11), .val (.int x12), .val (.int x13), .val (.ref b6), .val (.int (0 : Int32)), .val (.int (1 : Int32)), .val (.int (2 : Int32)), .val (.int (3 : Int32)), .val (.int v330), .val (.int v345), .val (.int v360), .val (.int v375), .val (.ref b16), .val (.int got), .val (.int (1 : Int32)), .val (.int (2 : Int32)), .val (.int v345)]) rfl ?_
          show Steps p.tables e below (T25.setTop (mkF m 561 #[.val (.int p1), .val (.int p2), .val (.int p3), .val (.int p4), .val (.int p5), .val (.int x5), .val (.int x6), .val (.int x7), .val (.int x8), .val (.int x9), .val (.int x10), .val (.int x11), .val (.int x12), .val (.int x13), .val (.ref b6), .val (.int (0 : Int32)), .val (.int (1 : Int32)), .val (.int (2 : Int32)), .val (.int (3 : Int32)), .val (.int v330), .val (.int v345), .val (.int v360), .val (.int v375), .val (.ref b16), .val (.int got), .val (.int (1 : Int32)), .val (.int (2 : Int32)), .val (.int v345)] [])) _
          exact fin _ _ _ (by rw [hg, own_exp_1, if_neg c540, if_neg c551])
    have a480_2 : inn = (2 : Int32) → Steps p.tables e below (T25.setTop (mkF m 480 #[.val (.int p1), .val (.int p2), .val (.int p3), .val (.int p4), .val (.int p5), .val (.int x5), .val (.int x6), .val (.int x7), .val (.int x8), .val (.int x9), .val (.int x10), .val (.int x11), .val (.int x12), .val (.int x13), .val (.ref b6), .val (.int (0 : Int32)), .val (.int (1 : Int32)), .val (.int (2 : Int32)), .val (.int (3 : Int32)), .val (.int v330), .val (.int v345), .val (.int v360), .val (.int v375), .val (.ref b16), .val (.int got), .val (.int (2 : Int32)), .unset, .unset] [])) (T25.setFrames fs) := by
      intro hK
      have hg : got = own_exp (2 : Int32) v330 v345 v360 v375 := by rw [hgot2 trivial, hK]
      show Steps p.tables e below (T25.setTop (mkF m 480 #[.val (.int p1), .val (.int p2), .val (.int p3), .val (.int p4), .val (.int p5), .val (.int x5), .val (.int x6), .val (.int x7), .val (.int x8), .val (.int x9), .val (.int x10), .val (.int x11), .val (.int x12), .val (.int x13), .val (.ref b6), .val (.int (0 : Int32)), .val (.int (1 : Int32)), .val (.int (2 : Int32)), .val (.int (3 : Int32)), .val (.int v330), .val (.int v345), .val (.int v360), .val (.int v375), .val (.ref b16), .val (.int got), .val (.int (2 : Int32)), .unset, .unset] [])) _
      refine XS.iload X25.here hx rfl (hb hby at_480) rfl ?_
      show Steps p.tables e below (T25.setTop (mkF m 482 #[.val (.int p1), .val (.int p2), .val (.int p3), .val (.int p4), .val (.int p5), .val (.int x5), .val (.int x6), .val (.int x7), .val (.int x8), .val (.int x9), .val (.int x10), .val (.int x11), .val (.int x12), .val (.int x13), .val (.ref b6), .val (.int (0 : Int32)), .val (.int (1 : Int32)), .val (.int (2 : Int32)), .val (.int (3 : Int32)), .val (.int v330), .val (.int v345), .val (.int v360), .val (.int v375), .val (.ref b16), .val (.int got), .val (.int (2 : Int32)), .unset, .unset] [(.int (2 : Int32))])) _
      refine XS.iconst X25.here hx rfl (hb hby at_482) ?_
      show Steps p.tables e below (T25.setTop (mkF m 483 #[.val (.int p1), .val (.int p2), .val (.int p3), .val (.int p4), .val (.int p5), .val (.int x5), .val (.int x6), .val (.int x7), .val (.int x8), .val (.int x9), .val (.int x10), .val (.int x11), .val (.int x12), .val (.int x13), .val (.ref b6), .val (.int (0 : Int32)), .val (.int (1 : Int32)), .val (.int (2 : Int32)), .val (.int (3 : Int32)), .val (.int v330), .val (.int v345), .val (.int v360), .val (.int v375), .val (.ref b16), .val (.int got), .val (.int (2 : Int32)), .unset, .unset] [(.int (-(1 : Int32))), (.int (2 : Int32))])) _
      refine XS.icmpYes X25.here hx rfl (pc0 := 483) (pc' := 492) rfl (hb hby at_483) rfl (feq (by decide : ¬ ((2 : Int32) = (-(1 : Int32))))).2 (by decide) (by decide) ?_
      show Steps p.tables e below (T25.setTop (mkF m 492 #[.val (.int p1), .val (.int p2), .val (.int p3), .val (.int p4), .val (.int p5), .val (.int x5), .val (.int x6), .val (.int x7), .val (.int x8), .val (.int x9), .val (.int x10), .val (.int x11), .val (.int x12), .val (.int x13), .val (.ref b6), .val (.int (0 : Int32)), .val (.int (1 : Int32)), .val (.int (2 : Int32)), .val (.int (3 : Int32)), .val (.int v330), .val (.int v345), .val (.int v360), .val (.int v375), .val (.ref b16), .val (.int got), .val (.int (2 : Int32)), .unset, .unset] [])) _
      refine XS.iload X25.here hx rfl (hb hby at_492) rfl ?_
      show Steps p.tables e below (T25.setTop (mkF m 494 #[.val (.int p1), .val (.int p2), .val (.int p3), .val (.int p4), .val (.int p5), .val (.int x5), .val (.int x6), .val (.int x7), .val (.int x8), .val (.int x9), .val (.int x10), .val (.int x11), .val (.int x12), .val (.int x13), .val (.ref b6), .val (.int (0 : Int32)), .val (.int (1 : Int32)), .val (.int (2 : Int32)), .val (.int (3 : Int32)), .val (.int v330), .val (.int v345), .val (.int v360), .val (.int v375), .val (.ref b16), .val (.int got), .val (.int (2 : Int32)), .unset, .unset] [(.int (2 : Int32))])) _
      refine XS.ifYes X25.here hx rfl (pc0 := 494) (pc' := 512) rfl (hb hby at_494) rfl ((if0 _ _).trans (feq (by decide : ¬ ((2 : Int32) = (0 : Int32)))).2) (by decide) (by decide) ?_
      show Steps p.tables e below (T25.setTop (mkF m 512 #[.val (.int p1), .val (.int p2), .val (.int p3), .val (.int p4), .val (.int p5), .val (.int x5), .val (.int x6), .val (.int x7), .val (.int x8), .val (.int x9), .val (.int x10), .val (.int x11), .val (.int x12), .val (.int x13), .val (.ref b6), .val (.int (0 : Int32)), .val (.int (1 : Int32)), .val (.int (2 : Int32)), .val (.int (3 : Int32)), .val (.int v330), .val (.int v345), .val (.int v360), .val (.int v375), .val (.ref b16), .val (.int got), .val (.int (2 : Int32)), .unset, .unset] [])) _
      refine XS.iload X25.here hx rfl (hb hby at_512) rfl ?_
      show Steps p.tables e below (T25.setTop (mkF m 514 #[.val (.int p1), .val (.int p2), .val (.int p3), .val (.int p4), .val (.int p5), .val (.int x5), .val (.int x6), .val (.int x7), .val (.int x8), .val (.int x9), .val (.int x10), .val (.int x11), .val (.int x12), .val (.int x13), .val (.ref b6), .val (.int (0 : Int32)), .val (.int (1 : Int32)), .val (.int (2 : Int32)), .val (.int (3 : Int32)), .val (.int v330), .val (.int v345), .val (.int v360), .val (.int v375), .val (.ref b16), .val (.int got), .val (.int (2 : Int32)), .unset, .unset] [(.int (2 : Int32))])) _
      refine XS.iconst X25.here hx rfl (hb hby at_514) ?_
      show Steps p.tables e below (T25.setTop (mkF m 515 #[.val (.int p1), .val (.int p2), .val (.int p3), .val (.int p4), .val (.int p5), .val (.int x5), .val (.int x6), .val (.int x7), .val (.int x8), .val (.int x9), .val (.int x10), .val (.int x11), .val (.int x12), .val (.int x13), .val (.ref b6), .val (.int (0 : Int32)), .val (.int (1 : Int32)), .val (.int (2 : Int32)), .val (.int (3 : Int32)), .val (.int v330), .val (.int v345), .val (.int v360), .val (.int v375), .val (.ref b16), .val (.int got), .val (.int (2 : Int32)), .unset, .unset] [(.int (1 : Int32)), (.int (2 : Int32))])) _
      refine XS.icmpYes X25.here hx rfl (pc0 := 515) (pc' := 523) rfl (hb hby at_515) rfl (feq (by decide : ¬ ((2 : Int32) = (1 : Int32)))).2 (by decide) (by decide) ?_
      show Steps p.tables e below (T25.setTop (mkF m 523 #[.val (.int p1), .val (.int p2), .val (.int p3), .val (.int p4), .val (.int p5), .val (.int x5), .val (.int x6), .val (.int x7), .val (.int x8), .val (.int x9), .val (.int x10), .val (.int x11), .val (.int x12), .val (.int x13), .val (.ref b6), .val (.int (0 : Int32)), .val (.int (1 : Int32)), .val (.int (2 : Int32)), .val (.int (3 : Int32)), .val (.int v330), .val (.int v345), .val (.int v360), .val (.int v375), .val (.ref b16), .val (.int got), .val (.int (2 : Int32)), .unset, .unset] [])) _
      refine XS.iload X25.here hx rfl (hb hby at_523) rfl ?_
      show Steps p.tables e below (T25.setTop (mkF m 525 #[.val (.int p1), .val (.int p2), .val (.int p3), .val (.int p4), .val (.int p5), .val (.int x5), .val (.int x6), .val (.int x7), .val (.int x8), .val (.int x9), .val (.int x10), .val (.int x11), .val (.int x12), .val (.int x13), .val (.ref b6), .val (.int (0 : Int32)), .val (.int (1 : Int32)), .val (.int (2 : Int32)), .val (.int (3 : Int32)), .val (.int v330), .val (.int v345), .val (.int v360), .val (.int v375), .val (.ref b16), .val (.int got), .val (.int (2 : Int32)), .unset, .unset] [(.int (2 : Int32))])) _
      refine XS.iconst X25.here hx rfl (hb hby at_525) ?_
      show Steps p.tables e below (T25.setTop (mkF m 526 #[.val (.int p1), .val (.int p2), .val (.int p3), .val (.int p4), .val (.int p5), .val (.int x5), .val (.int x6), .val (.int x7), .val (.int x8), .val (.int x9), .val (.int x10), .val (.int x11), .val (.int x12), .val (.int x13), .val (.ref b6), .val (.int (0 : Int32)), .val (.int (1 : Int32)), .val (.int (2 : Int32)), .val (.int (3 : Int32)), .val (.int v330), .val (.int v345), .val (.int v360), .val (.int v375), .val (.ref b16), .val (.int got), .val (.int (2 : Int32)), .unset, .unset] [(.int (2 : Int32)), (.int (2 : Int32))])) _
      refine XS.icmpNo X25.here hx rfl (hb hby at_526) rfl (teq (by decide : ((2 : Int32) = (2 : Int32)))).2 ?_
      show Steps p.tables e below (T25.setTop (mkF m 529 #[.val (.int p1), .val (.int p2), .val (.int p3), .val (.int p4), .val (.int p5), .val (.int x5), .val (.int x6), .val (.int x7), .val (.int x8), .val (.int x9), .val (.int x10), .val (.int x11), .val (.int x12), .val (.int x13), .val (.ref b6), .val (.int (0 : Int32)), .val (.int (1 : Int32)), .val (.int (2 : Int32)), .val (.int (3 : Int32)), .val (.int v330), .val (.int v345), .val (.int v360), .val (.int v375), .val (.ref b16), .val (.int got), .val (.int (2 : Int32)), .unset, .unset] [])) _
      refine XS.iload X25.here hx rfl (hb hby at_529) rfl ?_
      show Steps p.tables e below (T25.setTop (mkF m 531 #[.val (.int p1), .val (.int p2), .val (.int p3), .val (.int p4), .val (.int p5), .val (.int x5), .val (.int x6), .val (.int x7), .val (.int x8), .val (.int x9), .val (.int x10), .val (.int x11), .val (.int x12), .val (.int x13), .val (.ref b6), .val (.int (0 : Int32)), .val (.int (1 : Int32)), .val (.int (2 : Int32)), .val (.int (3 : Int32)), .val (.int v330), .val (.int v345), .val (.int v360), .val (.int v375), .val (.ref b16), .val (.int got), .val (.int (2 : Int32)), .unset, .unset] [(.int v360)])) _
      refine XS.goto X25.here hx rfl (pc0 := 531) (pc' := 536) rfl (hb hby at_531) (by decide) (by decide) ?_
      show Steps p.tables e below (T25.setTop (mkF m 536 #[.val (.int p1), .val (.int p2), .val (.int p3), .val (.int p4), .val (.int p5), .val (.int x5), .val (.int x6), .val (.int x7), .val (.int x8), .val (.int x9), .val (.int x10), .val (.int x11), .val (.int x12), .val (.int x13), .val (.ref b6), .val (.int (0 : Int32)), .val (.int (1 : Int32)), .val (.int (2 : Int32)), .val (.int (3 : Int32)), .val (.int v330), .val (.int v345), .val (.int v360), .val (.int v375), .val (.ref b16), .val (.int got), .val (.int (2 : Int32)), .unset, .unset] [(.int v360)])) _
      refine XS.istore X25.here hx rfl (hb hby at_536) rfl (l' := #[.val (.int p1), .val (.int p2), .val (.int p3), .val (.int p4), .val (.int p5), .val (.int x5), .val (.int x6), .val (.int x7), .val (.int x8), .val (.int x9), .val (.int x10), .val (.int x11), .val (.int x12), .val (.int x13), .val (.ref b6), .val (.int (0 : Int32)), .val (.int (1 : Int32)), .val (.int (2 : Int32)), .val (.int (3 : Int32)), .val (.int v330), .val (.int v345), .val (.int v360), .val (.int v375), .val (.ref b16), .val (.int got), .val (.int (2 : Int32)), .unset, .val (.int v360)]) rfl ?_
      show Steps p.tables e below (T25.setTop (mkF m 538 #[.val (.int p1), .val (.int p2), .val (.int p3), .val (.int p4), .val (.int p5), .val (.int x5), .val (.int x6), .val (.int x7), .val (.int x8), .val (.int x9), .val (.int x10), .val (.int x11), .val (.int x12), .val (.int x13), .val (.ref b6), .val (.int (0 : Int32)), .val (.int (1 : Int32)), .val (.int (2 : Int32)), .val (.int (3 : Int32)), .val (.int v330), .val (.int v345), .val (.int v360), .val (.int v375), .val (.ref b16), .val (.int got), .val (.int (2 : Int32)), .unset, .val (.int v360)] [])) _
      refine XS.iload X25.here hx rfl (hb hby at_538) rfl ?_
      show Steps p.tables e below (T25.setTop (mkF m 540 #[.val (.int p1), .val (.int p2), .val (.int p3), .val (.int p4), .val (.int p5), .val (.int x5), .val (.int x6), .val (.int x7), .val (.int x8), .val (.int x9), .val (.int x10), .val (.int x11), .val (.int x12), .val (.int x13), .val (.ref b6), .val (.int (0 : Int32)), .val (.int (1 : Int32)), .val (.int (2 : Int32)), .val (.int (3 : Int32)), .val (.int v330), .val (.int v345), .val (.int v360), .val (.int v375), .val (.ref b16), .val (.int got), .val (.int (2 : Int32)), .unset, .val (.int v360)] [(.int v360)])) _
      by_cases c540 : v360 = (0 : Int32)
      · refine XS.ifNo X25.here hx rfl (hb hby at_540) rfl ((if0 _ _).trans (teq c540).2) ?_
        show Steps p.tables e below (T25.setTop (mkF m 543 #[.val (.int p1), .val (.int p2), .val (.int p3), .val (.int p4), .val (.int p5), .val (.int x5), .val (.int x6), .val (.int x7), .val (.int x8), .val (.int x9), .val (.int x10), .val (.int x11), .val (.int x12), .val (.int x13), .val (.ref b6), .val (.int (0 : Int32)), .val (.int (1 : Int32)), .val (.int (2 : Int32)), .val (.int (3 : Int32)), .val (.int v330), .val (.int v345), .val (.int v360), .val (.int v375), .val (.ref b16), .val (.int got), .val (.int (2 : Int32)), .unset, .val (.int v360)] [])) _
        refine XS.iconst X25.here hx rfl (hb hby at_543) ?_
        show Steps p.tables e below (T25.setTop (mkF m 544 #[.val (.int p1), .val (.int p2), .val (.int p3), .val (.int p4), .val (.int p5), .val (.int x5), .val (.int x6), .val (.int x7), .val (.int x8), .val (.int x9), .val (.int x10), .val (.int x11), .val (.int x12), .val (.int x13), .val (.ref b6), .val (.int (0 : Int32)), .val (.int (1 : Int32)), .val (.int (2 : Int32)), .val (.int (3 : Int32)), .val (.int v330), .val (.int v345), .val (.int v360), .val (.int v375), .val (.ref b16), .val (.int got), .val (.int (2 : Int32)), .unset, .val (.int v360)] [(.int (0 : Int32))])) _
        refine XS.istore X25.here hx rfl (hb hby at_544) rfl (l' := #[.val (.int p1), .val (.int p2), .val (.int p3), .val (.int p4), .val (.int p5), .val (.int x5), .val (.int x6), .val (.int x7), .val (.int x8), .val (.int x9), .val (.int x10), .val (.int x11), .val (.int x12), .val (.int x13), .val (.ref b6), .val (.int (0 : Int32)), .val (.int (1 : Int32)), .val (.int (2 : Int32)), .val (.int (3 : Int32)), .val (.int v330), .val (.int v345), .val (.int v360), .val (.int v375), .val (.ref b16), .val (.int got), .val (.int (2 : Int32)), .val (.int (0 : Int32)), .val (.int v360)]) rfl ?_
        show Steps p.tables e below (T25.setTop (mkF m 546 #[.val (.int p1), .val (.int p2), .val (.int p3), .val (.int p4), .val (.int p5), .val (.int x5), .val (.int x6), .val (.int x7), .val (.int x8), .val (.int x9), .val (.int x10), .val (.int x11), .val (.int x12), .val (.int x13), .val (.ref b6), .val (.int (0 : Int32)), .val (.int (1 : Int32)), .val (.int (2 : Int32)), .val (.int (3 : Int32)), .val (.int v330), .val (.int v345), .val (.int v360), .val (.int v375), .val (.ref b16), .val (.int got), .val (.int (2 : Int32)), .val (.int (0 : Int32)), .val (.int v360)] [])) _
        refine XS.goto X25.here hx rfl (pc0 := 546) (pc' := 561) rfl (hb hby at_546) (by decide) (by decide) ?_
        show Steps p.tables e below (T25.setTop (mkF m 561 #[.val (.int p1), .val (.int p2), .val (.int p3), .val (.int p4), .val (.int p5), .val (.int x5), .val (.int x6), .val (.int x7), .val (.int x8), .val (.int x9), .val (.int x10), .val (.int x11), .val (.int x12), .val (.int x13), .val (.ref b6), .val (.int (0 : Int32)), .val (.int (1 : Int32)), .val (.int (2 : Int32)), .val (.int (3 : Int32)), .val (.int v330), .val (.int v345), .val (.int v360), .val (.int v375), .val (.ref b16), .val (.int got), .val (.int (2 : Int32)), .val (.int (0 : Int32)), .val (.int v360)] [])) _
        exact fin _ _ _ (by rw [hg, own_exp_2, if_pos c540])
      · refine XS.ifYes X25.here hx rfl (pc0 := 540) (pc' := 549) rfl (hb hby at_540) rfl ((if0 _ _).trans (feq c540).2) (by decide) (by decide) ?_
        show Steps p.tables e below (T25.setTop (mkF m 549 #[.val (.int p1), .val (.int p2), .val (.int p3), .val (.int p4), .val (.int p5), .val (.int x5), .val (.int x6), .val (.int x7), .val (.int x8), .val (.int x9), .val (.int x10), .val (.int x11), .val (.int x12), .val (.int x13), .val (.ref b6), .val (.int (0 : Int32)), .val (.int (1 : Int32)), .val (.int (2 : Int32)), .val (.int (3 : Int32)), .val (.int v330), .val (.int v345), .val (.int v360), .val (.int v375), .val (.ref b16), .val (.int got), .val (.int (2 : Int32)), .unset, .val (.int v360)] [])) _
        refine XS.iload X25.here hx rfl (hb hby at_549) rfl ?_
        show Steps p.tables e below (T25.setTop (mkF m 551 #[.val (.int p1), .val (.int p2), .val (.int p3), .val (.int p4), .val (.int p5), .val (.int x5), .val (.int x6), .val (.int x7), .val (.int x8), .val (.int x9), .val (.int x10), .val (.int x11), .val (.int x12), .val (.int x13), .val (.ref b6), .val (.int (0 : Int32)), .val (.int (1 : Int32)), .val (.int (2 : Int32)), .val (.int (3 : Int32)), .val (.int v330), .val (.int v345), .val (.int v360), .val (.int v375), .val (.ref b16), .val (.int got), .val (.int (2 : Int32)), .unset, .val (.int v360)] [(.int v330)])) _
        by_cases c551 : v330 = (0 : Int32)
        · refine XS.ifYes X25.here hx rfl (pc0 := 551) (pc' := 558) rfl (hb hby at_551) rfl ((if0 _ _).trans (teq c551).1) (by decide) (by decide) ?_
          show Steps p.tables e below (T25.setTop (mkF m 558 #[.val (.int p1), .val (.int p2), .val (.int p3), .val (.int p4), .val (.int p5), .val (.int x5), .val (.int x6), .val (.int x7), .val (.int x8), .val (.int x9), .val (.int x10), .val (.int x11), .val (.int x12), .val (.int x13), .val (.ref b6), .val (.int (0 : Int32)), .val (.int (1 : Int32)), .val (.int (2 : Int32)), .val (.int (3 : Int32)), .val (.int v330), .val (.int v345), .val (.int v360), .val (.int v375), .val (.ref b16), .val (.int got), .val (.int (2 : Int32)), .unset, .val (.int v360)] [])) _
          refine XS.iconst X25.here hx rfl (hb hby at_558) ?_
          show Steps p.tables e below (T25.setTop (mkF m 559 #[.val (.int p1), .val (.int p2), .val (.int p3), .val (.int p4), .val (.int p5), .val (.int x5), .val (.int x6), .val (.int x7), .val (.int x8), .val (.int x9), .val (.int x10), .val (.int x11), .val (.int x12), .val (.int x13), .val (.ref b6), .val (.int (0 : Int32)), .val (.int (1 : Int32)), .val (.int (2 : Int32)), .val (.int (3 : Int32)), .val (.int v330), .val (.int v345), .val (.int v360), .val (.int v375), .val (.ref b16), .val (.int got), .val (.int (2 : Int32)), .unset, .val (.int v360)] [(.int (1 : Int32))])) _
          refine XS.istore X25.here hx rfl (hb hby at_559) rfl (l' := #[.val (.int p1), .val (.int p2), .val (.int p3), .val (.int p4), .val (.int p5), .val (.int x5), .val (.int x6), .val (.int x7), .val (.int x8), .val (.int x9), .val (.int x10), .val (.int x11), .val (.int x12), .val (.int x13), .val (.ref b6), .val (.int (0 : Int32)), .val (.int (1 : Int32)), .val (.int (2 : Int32)), .val (.int (3 : Int32)), .val (.int v330), .val (.int v345), .val (.int v360), .val (.int v375), .val (.ref b16), .val (.int got), .val (.int (2 : Int32)), .val (.int (1 : Int32)), .val (.int v360)]) rfl ?_
          show Steps p.tables e below (T25.setTop (mkF m 561 #[.val (.int p1), .val (.int p2), .val (.int p3), .val (.int p4), .val (.int p5), .val (.int x5), .val (.int x6), .val (.int x7), .val (.int x8), .val (.int x9), .val (.int x10), .val (.int x11), .val (.int x12), .val (.int x13), .val (.ref b6), .val (.int (0 : Int32)), .val (.int (1 : Int32)), .val (.int (2 : Int32)), .val (.int (3 : Int32)), .val (.int v330), .val (.int v345), .val (.int v360), .val (.int v375), .val (.ref b16), .val (.int got), .val (.int (2 : Int32)), .val (.int (1 : Int32)), .val (.int v360)] [])) _
          exact fin _ _ _ (by rw [hg, own_exp_2, if_neg c540, if_pos c551])
        · refine XS.ifNo X25.here hx rfl (hb hby at_551) rfl ((if0 _ _).trans (feq c551).1) ?_
          show Steps p.tables e below (T25.setTop (mkF m 554 #[.val (.int p1), .val (.int p2), .val (.int p3), .val (.int p4), .val (.int p5), .val (.int x5), .val (.int x6), .val (.int x7), .val (.int x8), .val (.int x9), .val (.int x10), .val (.int x11), .val (.int x12), .val (.int x13), .val (.ref b6), .val (.int (0 : Int32)), .val (.int (1 : Int32)), .val (.int (2 : Int32)), .val (.int (3 : Int32)), .val (.int v330), .val (.int v345), .val (.int v360), .val (.int v375), .val (.ref b16), .val (.int got), .val (.int (2 : Int32)), .unset, .val (.int v360)] [])) _
          refine XS.iconst X25.here hx rfl (hb hby at_554) ?_
          show Steps p.tables e below (T25.setTop (mkF m 555 #[.val (.int p1), .val (.int p2), .val (.int p3), .val (.int p4), .val (.int p5), .val (.int x5), .val (.int x6), .val (.int x7), .val (.int x8), .val (.int x9), .val (.int x10), .val (.int x11), .val (.int x12), .val (.int x13), .val (.ref b6), .val (.int (0 : Int32)), .val (.int (1 : Int32)), .val (.int (2 : Int32)), .val (.int (3 : Int32)), .val (.int v330), .val (.int v345), .val (.int v360), .val (.int v375), .val (.ref b16), .val (.int got), .val (.int (2 : Int32)), .unset, .val (.int v360)] [(.int (2 : Int32))])) _
          refine XS.goto X25.here hx rfl (pc0 := 555) (pc' := 559) rfl (hb hby at_555) (by decide) (by decide) ?_
          show Steps p.tables e below (T25.setTop (mkF m 559 #[.val (.int p1), .val (.int p2), .val (.int p3), .val (.int p4), .val (.int p5), .val (.int x5), .val (.int x6), .val (.int x7), .val (.int x8), .val (.int x9), .val (.int x10), .val (.int x11), .val (.int x12), .val (.int x13), .val (.ref b6), .val (.int (0 : Int32)), .val (.int (1 : Int32)), .val (.int (2 : Int32)), .val (.int (3 : Int32)), .val (.int v330), .val (.int v345), .val (.int v360), .val (.int v375), .val (.ref b16), .val (.int got), .val (.int (2 : Int32)), .unset, .val (.int v360)] [(.int (2 : Int32))])) _
          refine XS.istore X25.here hx rfl (hb hby at_559) rfl (l' := #[.val (.int p1), .val (.int p2), .val (.int p3), .val (.int p4), .val (.int p5), .val (.int x5), .val (.int x6), .val (.int x7), .val (.int x8), .val (.int x9), .val (.int x10), .val (.int x11), .val (.int x12), .val (.int x13), .val (.ref b6), .val (.int (0 : Int32)), .val (.int (1 : Int32)), .val (.int (2 : Int32)), .val (.int (3 : Int32)), .val (.int v330), .val (.int v345), .val (.int v360), .val (.int v375), .val (.ref b16), .val (.int got), .val (.int (2 : Int32)), .val (.int (2 : Int32)), .val (.int v360)]) rfl ?_
          show Steps p.tables e below (T25.setTop (mkF m 561 #[.val (.int p1), .val (.int p2), .val (.int p3), .val (.int p4), .val (.int p5), .val (.int x5), .val (.int x6), .val (.int x7), .val (.int x8), .val (.int x9), .val (.int x10), .val (.int x11), .val (.int x12), .val (.int x13), .val (.ref b6), .val (.int (0 : Int32)), .val (.int (1 : Int32)), .val (.int (2 : Int32)), .val (.int (3 : Int32)), .val (.int v330), .val (.int v345), .val (.int v360), .val (.int v375), .val (.ref b16), .val (.int got), .val (.int (2 : Int32)), .val (.int (2 : Int32)), .val (.int v360)] [])) _
          exact fin _ _ _ (by rw [hg, own_exp_2, if_neg c540, if_neg c551])
    have a480_3 : inn = (3 : Int32) → Steps p.tables e below (T25.setTop (mkF m 480 #[.val (.int p1), .val (.int p2), .val (.int p3), .val (.int p4), .val (.int p5), .val (.int x5), .val (.int x6), .val (.int x7), .val (.int x8), .val (.int x9), .val (.int x10), .val (.int x11), .val (.int x12), .val (.int x13), .val (.ref b6), .val (.int (0 : Int32)), .val (.int (1 : Int32)), .val (.int (2 : Int32)), .val (.int (3 : Int32)), .val (.int v330), .val (.int v345), .val (.int v360), .val (.int v375), .val (.ref b16), .val (.int got), .val (.int (3 : Int32)), .unset, .unset] [])) (T25.setFrames fs) := by
      intro hK
      have hg : got = own_exp (3 : Int32) v330 v345 v360 v375 := by rw [hgot2 trivial, hK]
      show Steps p.tables e below (T25.setTop (mkF m 480 #[.val (.int p1), .val (.int p2), .val (.int p3), .val (.int p4), .val (.int p5), .val (.int x5), .val (.int x6), .val (.int x7), .val (.int x8), .val (.int x9), .val (.int x10), .val (.int x11), .val (.int x12), .val (.int x13), .val (.ref b6), .val (.int (0 : Int32)), .val (.int (1 : Int32)), .val (.int (2 : Int32)), .val (.int (3 : Int32)), .val (.int v330), .val (.int v345), .val (.int v360), .val (.int v375), .val (.ref b16), .val (.int got), .val (.int (3 : Int32)), .unset, .unset] [])) _
      refine XS.iload X25.here hx rfl (hb hby at_480) rfl ?_
      show Steps p.tables e below (T25.setTop (mkF m 482 #[.val (.int p1), .val (.int p2), .val (.int p3), .val (.int p4), .val (.int p5), .val (.int x5), .val (.int x6), .val (.int x7), .val (.int x8), .val (.int x9), .val (.int x10), .val (.int x11), .val (.int x12), .val (.int x13), .val (.ref b6), .val (.int (0 : Int32)), .val (.int (1 : Int32)), .val (.int (2 : Int32)), .val (.int (3 : Int32)), .val (.int v330), .val (.int v345), .val (.int v360), .val (.int v375), .val (.ref b16), .val (.int got), .val (.int (3 : Int32)), .unset, .unset] [(.int (3 : Int32))])) _
      refine XS.iconst X25.here hx rfl (hb hby at_482) ?_
      show Steps p.tables e below (T25.setTop (mkF m 483 #[.val (.int p1), .val (.int p2), .val (.int p3), .val (.int p4), .val (.int p5), .val (.int x5), .val (.int x6), .val (.int x7), .val (.int x8), .val (.int x9), .val (.int x10), .val (.int x11), .val (.int x12), .val (.int x13), .val (.ref b6), .val (.int (0 : Int32)), .val (.int (1 : Int32)), .val (.int (2 : Int32)), .val (.int (3 : Int32)), .val (.int v330), .val (.int v345), .val (.int v360), .val (.int v375), .val (.ref b16), .val (.int got), .val (.int (3 : Int32)), .unset, .unset] [(.int (-(1 : Int32))), (.int (3 : Int32))])) _
      refine XS.icmpYes X25.here hx rfl (pc0 := 483) (pc' := 492) rfl (hb hby at_483) rfl (feq (by decide : ¬ ((3 : Int32) = (-(1 : Int32))))).2 (by decide) (by decide) ?_
      show Steps p.tables e below (T25.setTop (mkF m 492 #[.val (.int p1), .val (.int p2), .val (.int p3), .val (.int p4), .val (.int p5), .val (.int x5), .val (.int x6), .val (.int x7), .val (.int x8), .val (.int x9), .val (.int x10), .val (.int x11), .val (.int x12), .val (.int x13), .val (.ref b6), .val (.int (0 : Int32)), .val (.int (1 : Int32)), .val (.int (2 : Int32)), .val (.int (3 : Int32)), .val (.int v330), .val (.int v345), .val (.int v360), .val (.int v375), .val (.ref b16), .val (.int got), .val (.int (3 : Int32)), .unset, .unset] [])) _
      refine XS.iload X25.here hx rfl (hb hby at_492) rfl ?_
      show Steps p.tables e below (T25.setTop (mkF m 494 #[.val (.int p1), .val (.int p2), .val (.int p3), .val (.int p4), .val (.int p5), .val (.int x5), .val (.int x6), .val (.int x7), .val (.int x8), .val (.int x9), .val (.int x10), .val (.int x11), .val (.int x12), .val (.int x13), .val (.ref b6), .val (.int (0 : Int32)), .val (.int (1 : Int32)), .val (.int (2 : Int32)), .val (.int (3 : Int32)), .val (.int v330), .val (.int v345), .val (.int v360), .val (.int v375), .val (.ref b16), .val (.int got), .val (.int (3 : Int32)), .unset, .unset] [(.int (3 : Int32))])) _
      refine XS.ifYes X25.here hx rfl (pc0 := 494) (pc' := 512) rfl (hb hby at_494) rfl ((if0 _ _).trans (feq (by decide : ¬ ((3 : Int32) = (0 : Int32)))).2) (by decide) (by decide) ?_
      show Steps p.tables e below (T25.setTop (mkF m 512 #[.val (.int p1), .val (.int p2), .val (.int p3), .val (.int p4), .val (.int p5), .val (.int x5), .val (.int x6), .val (.int x7), .val (.int x8), .val (.int x9), .val (.int x10), .val (.int x11), .val (.int x12), .val (.int x13), .val (.ref b6), .val (.int (0 : Int32)), .val (.int (1 : Int32)), .val (.int (2 : Int32)), .val (.int (3 : Int32)), .val (.int v330), .val (.int v345), .val (.int v360), .val (.int v375), .val (.ref b16), .val (.int got), .val (.int (3 : Int32)), .unset, .unset] [])) _
      refine XS.iload X25.here hx rfl (hb hby at_512) rfl ?_
      show Steps p.tables e below (T25.setTop (mkF m 514 #[.val (.int p1), .val (.int p2), .val (.int p3), .val (.int p4), .val (.int p5), .val (.int x5), .val (.int x6), .val (.int x7), .val (.int x8), .val (.int x9), .val (.int x10), .val (.int x11), .val (.int x12), .val (.int x13), .val (.ref b6), .val (.int (0 : Int32)), .val (.int (1 : Int32)), .val (.int (2 : Int32)), .val (.int (3 : Int32)), .val (.int v330), .val (.int v345), .val (.int v360), .val (.int v375), .val (.ref b16), .val (.int got), .val (.int (3 : Int32)), .unset, .unset] [(.int (3 : Int32))])) _
      refine XS.iconst X25.here hx rfl (hb hby at_514) ?_
      show Steps p.tables e below (T25.setTop (mkF m 515 #[.val (.int p1), .val (.int p2), .val (.int p3), .val (.int p4), .val (.int p5), .val (.int x5), .val (.int x6), .val (.int x7), .val (.int x8), .val (.int x9), .val (.int x10), .val (.int x11), .val (.int x12), .val (.int x13), .val (.ref b6), .val (.int (0 : Int32)), .val (.int (1 : Int32)), .val (.int (2 : Int32)), .val (.int (3 : Int32)), .val (.int v330), .val (.int v345), .val (.int v360), .val (.int v375), .val (.ref b16), .val (.int got), .val (.int (3 : Int32)), .unset, .unset] [(.int (1 : Int32)), (.int (3 : Int32))])) _
      refine XS.icmpYes X25.here hx rfl (pc0 := 515) (pc' := 523) rfl (hb hby at_515) rfl (feq (by decide : ¬ ((3 : Int32) = (1 : Int32)))).2 (by decide) (by decide) ?_
      show Steps p.tables e below (T25.setTop (mkF m 523 #[.val (.int p1), .val (.int p2), .val (.int p3), .val (.int p4), .val (.int p5), .val (.int x5), .val (.int x6), .val (.int x7), .val (.int x8), .val (.int x9), .val (.int x10), .val (.int x11), .val (.int x12), .val (.int x13), .val (.ref b6), .val (.int (0 : Int32)), .val (.int (1 : Int32)), .val (.int (2 : Int32)), .val (.int (3 : Int32)), .val (.int v330), .val (.int v345), .val (.int v360), .val (.int v375), .val (.ref b16), .val (.int got), .val (.int (3 : Int32)), .unset, .unset] [])) _
      refine XS.iload X25.here hx rfl (hb hby at_523) rfl ?_
      show Steps p.tables e below (T25.setTop (mkF m 525 #[.val (.int p1), .val (.int p2), .val (.int p3), .val (.int p4), .val (.int p5), .val (.int x5), .val (.int x6), .val (.int x7), .val (.int x8), .val (.int x9), .val (.int x10), .val (.int x11), .val (.int x12), .val (.int x13), .val (.ref b6), .val (.int (0 : Int32)), .val (.int (1 : Int32)), .val (.int (2 : Int32)), .val (.int (3 : Int32)), .val (.int v330), .val (.int v345), .val (.int v360), .val (.int v375), .val (.ref b16), .val (.int got), .val (.int (3 : Int32)), .unset, .unset] [(.int (3 : Int32))])) _
      refine XS.iconst X25.here hx rfl (hb hby at_525) ?_
      show Steps p.tables e below (T25.setTop (mkF m 526 #[.val (.int p1), .val (.int p2), .val (.int p3), .val (.int p4), .val (.int p5), .val (.int x5), .val (.int x6), .val (.int x7), .val (.int x8), .val (.int x9), .val (.int x10), .val (.int x11), .val (.int x12), .val (.int x13), .val (.ref b6), .val (.int (0 : Int32)), .val (.int (1 : Int32)), .val (.int (2 : Int32)), .val (.int (3 : Int32)), .val (.int v330), .val (.int v345), .val (.int v360), .val (.int v375), .val (.ref b16), .val (.int got), .val (.int (3 : Int32)), .unset, .unset] [(.int (2 : Int32)), (.int (3 : Int32))])) _
      refine XS.icmpYes X25.here hx rfl (pc0 := 526) (pc' := 534) rfl (hb hby at_526) rfl (feq (by decide : ¬ ((3 : Int32) = (2 : Int32)))).2 (by decide) (by decide) ?_
      show Steps p.tables e below (T25.setTop (mkF m 534 #[.val (.int p1), .val (.int p2), .val (.int p3), .val (.int p4), .val (.int p5), .val (.int x5), .val (.int x6), .val (.int x7), .val (.int x8), .val (.int x9), .val (.int x10), .val (.int x11), .val (.int x12), .val (.int x13), .val (.ref b6), .val (.int (0 : Int32)), .val (.int (1 : Int32)), .val (.int (2 : Int32)), .val (.int (3 : Int32)), .val (.int v330), .val (.int v345), .val (.int v360), .val (.int v375), .val (.ref b16), .val (.int got), .val (.int (3 : Int32)), .unset, .unset] [])) _
      refine XS.iload X25.here hx rfl (hb hby at_534) rfl ?_
      show Steps p.tables e below (T25.setTop (mkF m 536 #[.val (.int p1), .val (.int p2), .val (.int p3), .val (.int p4), .val (.int p5), .val (.int x5), .val (.int x6), .val (.int x7), .val (.int x8), .val (.int x9), .val (.int x10), .val (.int x11), .val (.int x12), .val (.int x13), .val (.ref b6), .val (.int (0 : Int32)), .val (.int (1 : Int32)), .val (.int (2 : Int32)), .val (.int (3 : Int32)), .val (.int v330), .val (.int v345), .val (.int v360), .val (.int v375), .val (.ref b16), .val (.int got), .val (.int (3 : Int32)), .unset, .unset] [(.int v375)])) _
      refine XS.istore X25.here hx rfl (hb hby at_536) rfl (l' := #[.val (.int p1), .val (.int p2), .val (.int p3), .val (.int p4), .val (.int p5), .val (.int x5), .val (.int x6), .val (.int x7), .val (.int x8), .val (.int x9), .val (.int x10), .val (.int x11), .val (.int x12), .val (.int x13), .val (.ref b6), .val (.int (0 : Int32)), .val (.int (1 : Int32)), .val (.int (2 : Int32)), .val (.int (3 : Int32)), .val (.int v330), .val (.int v345), .val (.int v360), .val (.int v375), .val (.ref b16), .val (.int got), .val (.int (3 : Int32)), .unset, .val (.int v375)]) rfl ?_
      show Steps p.tables e below (T25.setTop (mkF m 538 #[.val (.int p1), .val (.int p2), .val (.int p3), .val (.int p4), .val (.int p5), .val (.int x5), .val (.int x6), .val (.int x7), .val (.int x8), .val (.int x9), .val (.int x10), .val (.int x11), .val (.int x12), .val (.int x13), .val (.ref b6), .val (.int (0 : Int32)), .val (.int (1 : Int32)), .val (.int (2 : Int32)), .val (.int (3 : Int32)), .val (.int v330), .val (.int v345), .val (.int v360), .val (.int v375), .val (.ref b16), .val (.int got), .val (.int (3 : Int32)), .unset, .val (.int v375)] [])) _
      refine XS.iload X25.here hx rfl (hb hby at_538) rfl ?_
      show Steps p.tables e below (T25.setTop (mkF m 540 #[.val (.int p1), .val (.int p2), .val (.int p3), .val (.int p4), .val (.int p5), .val (.int x5), .val (.int x6), .val (.int x7), .val (.int x8), .val (.int x9), .val (.int x10), .val (.int x11), .val (.int x12), .val (.int x13), .val (.ref b6), .val (.int (0 : Int32)), .val (.int (1 : Int32)), .val (.int (2 : Int32)), .val (.int (3 : Int32)), .val (.int v330), .val (.int v345), .val (.int v360), .val (.int v375), .val (.ref b16), .val (.int got), .val (.int (3 : Int32)), .unset, .val (.int v375)] [(.int v375)])) _
      by_cases c540 : v375 = (0 : Int32)
      · refine XS.ifNo X25.here hx rfl (hb hby at_540) rfl ((if0 _ _).trans (teq c540).2) ?_
        show Steps p.tables e below (T25.setTop (mkF m 543 #[.val (.int p1), .val (.int p2), .val (.int p3), .val (.int p4), .val (.int p5), .val (.int x5), .val (.int x6), .val (.int x7), .val (.int x8), .val (.int x9), .val (.int x10), .val (.int x11), .val (.int x12), .val (.int x13), .val (.ref b6), .val (.int (0 : Int32)), .val (.int (1 : Int32)), .val (.int (2 : Int32)), .val (.int (3 : Int32)), .val (.int v330), .val (.int v345), .val (.int v360), .val (.int v375), .val (.ref b16), .val (.int got), .val (.int (3 : Int32)), .unset, .val (.int v375)] [])) _
        refine XS.iconst X25.here hx rfl (hb hby at_543) ?_
        show Steps p.tables e below (T25.setTop (mkF m 544 #[.val (.int p1), .val (.int p2), .val (.int p3), .val (.int p4), .val (.int p5), .val (.int x5), .val (.int x6), .val (.int x7), .val (.int x8), .val (.int x9), .val (.int x10), .val (.int x11), .val (.int x12), .val (.int x13), .val (.ref b6), .val (.int (0 : Int32)), .val (.int (1 : Int32)), .val (.int (2 : Int32)), .val (.int (3 : Int32)), .val (.int v330), .val (.int v345), .val (.int v360), .val (.int v375), .val (.ref b16), .val (.int got), .val (.int (3 : Int32)), .unset, .val (.int v375)] [(.int (0 : Int32))])) _
        refine XS.istore X25.here hx rfl (hb hby at_544) rfl (l' := #[.val (.int p1), .val (.int p2), .val (.int p3), .val (.int p4), .val (.int p5), .val (.int x5), .val (.int x6), .val (.int x7), .val (.int x8), .val (.int x9), .val (.int x10), .val (.int x11), .val (.int x12), .val (.int x13), .val (.ref b6), .val (.int (0 : Int32)), .val (.int (1 : Int32)), .val (.int (2 : Int32)), .val (.int (3 : Int32)), .val (.int v330), .val (.int v345), .val (.int v360), .val (.int v375), .val (.ref b16), .val (.int got), .val (.int (3 : Int32)), .val (.int (0 : Int32)), .val (.int v375)]) rfl ?_
        show Steps p.tables e below (T25.setTop (mkF m 546 #[.val (.int p1), .val (.int p2), .val (.int p3), .val (.int p4), .val (.int p5), .val (.int x5), .val (.int x6), .val (.int x7), .val (.int x8), .val (.int x9), .val (.int x10), .val (.int x11), .val (.int x12), .val (.int x13), .val (.ref b6), .val (.int (0 : Int32)), .val (.int (1 : Int32)), .val (.int (2 : Int32)), .val (.int (3 : Int32)), .val (.int v330), .val (.int v345), .val (.int v360), .val (.int v375), .val (.ref b16), .val (.int got), .val (.int (3 : Int32)), .val (.int (0 : Int32)), .val (.int v375)] [])) _
        refine XS.goto X25.here hx rfl (pc0 := 546) (pc' := 561) rfl (hb hby at_546) (by decide) (by decide) ?_
        show Steps p.tables e below (T25.setTop (mkF m 561 #[.val (.int p1), .val (.int p2), .val (.int p3), .val (.int p4), .val (.int p5), .val (.int x5), .val (.int x6), .val (.int x7), .val (.int x8), .val (.int x9), .val (.int x10), .val (.int x11), .val (.int x12), .val (.int x13), .val (.ref b6), .val (.int (0 : Int32)), .val (.int (1 : Int32)), .val (.int (2 : Int32)), .val (.int (3 : Int32)), .val (.int v330), .val (.int v345), .val (.int v360), .val (.int v375), .val (.ref b16), .val (.int got), .val (.int (3 : Int32)), .val (.int (0 : Int32)), .val (.int v375)] [])) _
        exact fin _ _ _ (by rw [hg, own_exp_3, if_pos c540])
      · refine XS.ifYes X25.here hx rfl (pc0 := 540) (pc' := 549) rfl (hb hby at_540) rfl ((if0 _ _).trans (feq c540).2) (by decide) (by decide) ?_
        show Steps p.tables e below (T25.setTop (mkF m 549 #[.val (.int p1), .val (.int p2), .val (.int p3), .val (.int p4), .val (.int p5), .val (.int x5), .val (.int x6), .val (.int x7), .val (.int x8), .val (.int x9), .val (.int x10), .val (.int x11), .val (.int x12), .val (.int x13), .val (.ref b6), .val (.int (0 : Int32)), .val (.int (1 : Int32)), .val (.int (2 : Int32)), .val (.int (3 : Int32)), .val (.int v330), .val (.int v345), .val (.int v360), .val (.int v375), .val (.ref b16), .val (.int got), .val (.int (3 : Int32)), .unset, .val (.int v375)] [])) _
        refine XS.iload X25.here hx rfl (hb hby at_549) rfl ?_
        show Steps p.tables e below (T25.setTop (mkF m 551 #[.val (.int p1), .val (.int p2), .val (.int p3), .val (.int p4), .val (.int p5), .val (.int x5), .val (.int x6), .val (.int x7), .val (.int x8), .val (.int x9), .val (.int x10), .val (.int x11), .val (.int x12), .val (.int x13), .val (.ref b6), .val (.int (0 : Int32)), .val (.int (1 : Int32)), .val (.int (2 : Int32)), .val (.int (3 : Int32)), .val (.int v330), .val (.int v345), .val (.int v360), .val (.int v375), .val (.ref b16), .val (.int got), .val (.int (3 : Int32)), .unset, .val (.int v375)] [(.int v330)])) _
        by_cases c551 : v330 = (0 : Int32)
        · refine XS.ifYes X25.here hx rfl (pc0 := 551) (pc' := 558) rfl (hb hby at_551) rfl ((if0 _ _).trans (teq c551).1) (by decide) (by decide) ?_
          show Steps p.tables e below (T25.setTop (mkF m 558 #[.val (.int p1), .val (.int p2), .val (.int p3), .val (.int p4), .val (.int p5), .val (.int x5), .val (.int x6), .val (.int x7), .val (.int x8), .val (.int x9), .val (.int x10), .val (.int x11), .val (.int x12), .val (.int x13), .val (.ref b6), .val (.int (0 : Int32)), .val (.int (1 : Int32)), .val (.int (2 : Int32)), .val (.int (3 : Int32)), .val (.int v330), .val (.int v345), .val (.int v360), .val (.int v375), .val (.ref b16), .val (.int got), .val (.int (3 : Int32)), .unset, .val (.int v375)] [])) _
          refine XS.iconst X25.here hx rfl (hb hby at_558) ?_
          show Steps p.tables e below (T25.setTop (mkF m 559 #[.val (.int p1), .val (.int p2), .val (.int p3), .val (.int p4), .val (.int p5), .val (.int x5), .val (.int x6), .val (.int x7), .val (.int x8), .val (.int x9), .val (.int x10), .val (.int x11), .val (.int x12), .val (.int x13), .val (.ref b6), .val (.int (0 : Int32)), .val (.int (1 : Int32)), .val (.int (2 : Int32)), .val (.int (3 : Int32)), .val (.int v330), .val (.int v345), .val (.int v360), .val (.int v375), .val (.ref b16), .val (.int got), .val (.int (3 : Int32)), .unset, .val (.int v375)] [(.int (1 : Int32))])) _
          refine XS.istore X25.here hx rfl (hb hby at_559) rfl (l' := #[.val (.int p1), .val (.int p2), .val (.int p3), .val (.int p4), .val (.int p5), .val (.int x5), .val (.int x6), .val (.int x7), .val (.int x8), .val (.int x9), .val (.int x10), .val (.int x11), .val (.int x12), .val (.int x13), .val (.ref b6), .val (.int (0 : Int32)), .val (.int (1 : Int32)), .val (.int (2 : Int32)), .val (.int (3 : Int32)), .val (.int v330), .val (.int v345), .val (.int v360), .val (.int v375), .val (.ref b16), .val (.int got), .val (.int (3 : Int32)), .val (.int (1 : Int32)), .val (.int v375)]) rfl ?_
          show Steps p.tables e below (T25.setTop (mkF m 561 #[.val (.int p1), .val (.int p2), .val (.int p3), .val (.int p4), .val (.int p5), .val (.int x5), .val (.int x6), .val (.int x7), .val (.int x8), .val (.int x9), .val (.int x10), .val (.int x11), .val (.int x12), .val (.int x13), .val (.ref b6), .val (.int (0 : Int32)), .val (.int (1 : Int32)), .val (.int (2 : Int32)), .val (.int (3 : Int32)), .val (.int v330), .val (.int v345), .val (.int v360), .val (.int v375), .val (.ref b16), .val (.int got), .val (.int (3 : Int32)), .val (.int (1 : Int32)), .val (.int v375)] [])) _
          exact fin _ _ _ (by rw [hg, own_exp_3, if_neg c540, if_pos c551])
        · refine XS.ifNo X25.here hx rfl (hb hby at_551) rfl ((if0 _ _).trans (feq c551).1) ?_
          show Steps p.tables e below (T25.setTop (mkF m 554 #[.val (.int p1), .val (.int p2), .val (.int p3), .val (.int p4), .val (.int p5), .val (.int x5), .val (.int x6), .val (.int x7), .val (.int x8), .val (.int x9), .val (.int x10), .val (.int x11), .val (.int x12), .val (.int x13), .val (.ref b6), .val (.int (0 : Int32)), .val (.int (1 : Int32)), .val (.int (2 : Int32)), .val (.int (3 : Int32)), .val (.int v330), .val (.int v345), .val (.int v360), .val (.int v375), .val (.ref b16), .val (.int got), .val (.int (3 : Int32)), .unset, .val (.int v375)] [])) _
          refine XS.iconst X25.here hx rfl (hb hby at_554) ?_
          show Steps p.tables e below (T25.setTop (mkF m 555 #[.val (.int p1), .val (.int p2), .val (.int p3), .val (.int p4), .val (.int p5), .val (.int x5), .val (.int x6), .val (.int x7), .val (.int x8), .val (.int x9), .val (.int x10), .val (.int x11), .val (.int x12), .val (.int x13), .val (.ref b6), .val (.int (0 : Int32)), .val (.int (1 : Int32)), .val (.int (2 : Int32)), .val (.int (3 : Int32)), .val (.int v330), .val (.int v345), .val (.int v360), .val (.int v375), .val (.ref b16), .val (.int got), .val (.int (3 : Int32)), .unset, .val (.int v375)] [(.int (2 : Int32))])) _
          refine XS.goto X25.here hx rfl (pc0 := 555) (pc' := 559) rfl (hb hby at_555) (by decide) (by decide) ?_
          show Steps p.tables e below (T25.setTop (mkF m 559 #[.val (.int p1), .val (.int p2), .val (.int p3), .val (.int p4), .val (.int p5), .val (.int x5), .val (.int x6), .val (.int x7), .val (.int x8), .val (.int x9), .val (.int x10), .val (.int x11), .val (.int x12), .val (.int x13), .val (.ref b6), .val (.int (0 : Int32)), .val (.int (1 : Int32)), .val (.int (2 : Int32)), .val (.int (3 : Int32)), .val (.int v330), .val (.int v345), .val (.int v360), .val (.int v375), .val (.ref b16), .val (.int got), .val (.int (3 : Int32)), .unset, .val (.int v375)] [(.int (2 : Int32))])) _
          refine XS.istore X25.here hx rfl (hb hby at_559) rfl (l' := #[.val (.int p1), .val (.int p2), .val (.int p3), .val (.int p4), .val (.int p5), .val (.int x5), .val (.int x6), .val (.int x7), .val (.int x8), .val (.int x9), .val (.int x10), .val (.int x11), .val (.int x12), .val (.int x13), .val (.ref b6), .val (.int (0 : Int32)), .val (.int (1 : Int32)), .val (.int (2 : Int32)), .val (.int (3 : Int32)), .val (.int v330), .val (.int v345), .val (.int v360), .val (.int v375), .val (.ref b16), .val (.int got), .val (.int (3 : Int32)), .val (.int (2 : Int32)), .val (.int v375)]) rfl ?_
          show Steps p.tables e below (T25.setTop (mkF m 561 #[.val (.int p1), .val (.int p2), .val (.int p3), .val (.int p4), .val (.int p5), .val (.int x5), .val (.int x6), .val (.int x7), .val (.int x8), .val (.int x9), .val (.int x10), .val (.int x11), .val (.int x12), .val (.int x13), .val (.ref b6), .val (.int (0 : Int32)), .val (.int (1 : Int32)), .val (.int (2 : Int32)), .val (.int (3 : Int32)), .val (.int v330), .val (.int v345), .val (.int v360), .val (.int v375), .val (.ref b16), .val (.int got), .val (.int (3 : Int32)), .val (.int (2 : Int32)), .val (.int v375)] [])) _
          exact fin _ _ _ (by rw [hg, own_exp_3, if_neg c540, if_neg c551])
    have b477 : inn = (-(1 : Int32)) → Steps p.tables e below (T25.setTop (mkF m 477 #[.val (.int p1), .val (.int p2), .val (.int p3), .val (.int p4), .val (.int p5), .val (.int x5), .val (.int x6), .val (.int x7), .val (.int x8), .val (.int x9), .val (.int x10), .val (.int x11), .val (.int x12), .val (.int x13), .val (.ref b6), .val (.int (0 : Int32)), .val (.int (1 : Int32)), .val (.int (2 : Int32)), .val (.int (3 : Int32)), .val (.int v330), .val (.int v345), .val (.int v360), .val (.int v375), .val (.ref b16), .val (.int got), .unset, .unset, .unset] [])) (T25.setFrames fs) := by
      intro hi
      show Steps p.tables e below (T25.setTop (mkF m 477 #[.val (.int p1), .val (.int p2), .val (.int p3), .val (.int p4), .val (.int p5), .val (.int x5), .val (.int x6), .val (.int x7), .val (.int x8), .val (.int x9), .val (.int x10), .val (.int x11), .val (.int x12), .val (.int x13), .val (.ref b6), .val (.int (0 : Int32)), .val (.int (1 : Int32)), .val (.int (2 : Int32)), .val (.int (3 : Int32)), .val (.int v330), .val (.int v345), .val (.int v360), .val (.int v375), .val (.ref b16), .val (.int got), .unset, .unset, .unset] [])) _
      refine XS.iconst X25.here hx rfl (hb hby at_477) ?_
      show Steps p.tables e below (T25.setTop (mkF m 478 #[.val (.int p1), .val (.int p2), .val (.int p3), .val (.int p4), .val (.int p5), .val (.int x5), .val (.int x6), .val (.int x7), .val (.int x8), .val (.int x9), .val (.int x10), .val (.int x11), .val (.int x12), .val (.int x13), .val (.ref b6), .val (.int (0 : Int32)), .val (.int (1 : Int32)), .val (.int (2 : Int32)), .val (.int (3 : Int32)), .val (.int v330), .val (.int v345), .val (.int v360), .val (.int v375), .val (.ref b16), .val (.int got), .unset, .unset, .unset] [(.int (-(1 : Int32)))])) _
      refine XS.istore X25.here hx rfl (hb hby at_478) rfl (l' := #[.val (.int p1), .val (.int p2), .val (.int p3), .val (.int p4), .val (.int p5), .val (.int x5), .val (.int x6), .val (.int x7), .val (.int x8), .val (.int x9), .val (.int x10), .val (.int x11), .val (.int x12), .val (.int x13), .val (.ref b6), .val (.int (0 : Int32)), .val (.int (1 : Int32)), .val (.int (2 : Int32)), .val (.int (3 : Int32)), .val (.int v330), .val (.int v345), .val (.int v360), .val (.int v375), .val (.ref b16), .val (.int got), .val (.int (-(1 : Int32))), .unset, .unset]) rfl ?_
      show Steps p.tables e below (T25.setTop (mkF m 480 #[.val (.int p1), .val (.int p2), .val (.int p3), .val (.int p4), .val (.int p5), .val (.int x5), .val (.int x6), .val (.int x7), .val (.int x8), .val (.int x9), .val (.int x10), .val (.int x11), .val (.int x12), .val (.int x13), .val (.ref b6), .val (.int (0 : Int32)), .val (.int (1 : Int32)), .val (.int (2 : Int32)), .val (.int (3 : Int32)), .val (.int v330), .val (.int v345), .val (.int v360), .val (.int v375), .val (.ref b16), .val (.int got), .val (.int (-(1 : Int32))), .unset, .unset] [])) _
      exact a480_m hi
    have b457 : inn = (if ¬ (x13 < x5) ∧ ¬ (x12 < x13) then (0 : Int32) else (-(1 : Int32))) → Steps p.tables e below (T25.setTop (mkF m 457 #[.val (.int p1), .val (.int p2), .val (.int p3), .val (.int p4), .val (.int p5), .val (.int x5), .val (.int x6), .val (.int x7), .val (.int x8), .val (.int x9), .val (.int x10), .val (.int x11), .val (.int x12), .val (.int x13), .val (.ref b6), .val (.int (0 : Int32)), .val (.int (1 : Int32)), .val (.int (2 : Int32)), .val (.int (3 : Int32)), .val (.int v330), .val (.int v345), .val (.int v360), .val (.int v375), .val (.ref b16), .val (.int got), .unset, .unset, .unset] [])) (T25.setFrames fs) := by
      intro hi
      show Steps p.tables e below (T25.setTop (mkF m 457 #[.val (.int p1), .val (.int p2), .val (.int p3), .val (.int p4), .val (.int p5), .val (.int x5), .val (.int x6), .val (.int x7), .val (.int x8), .val (.int x9), .val (.int x10), .val (.int x11), .val (.int x12), .val (.int x13), .val (.ref b6), .val (.int (0 : Int32)), .val (.int (1 : Int32)), .val (.int (2 : Int32)), .val (.int (3 : Int32)), .val (.int v330), .val (.int v345), .val (.int v360), .val (.int v375), .val (.ref b16), .val (.int got), .unset, .unset, .unset] [])) _
      refine XS.iload X25.here hx rfl (hb hby at_457) rfl ?_
      show Steps p.tables e below (T25.setTop (mkF m 459 #[.val (.int p1), .val (.int p2), .val (.int p3), .val (.int p4), .val (.int p5), .val (.int x5), .val (.int x6), .val (.int x7), .val (.int x8), .val (.int x9), .val (.int x10), .val (.int x11), .val (.int x12), .val (.int x13), .val (.ref b6), .val (.int (0 : Int32)), .val (.int (1 : Int32)), .val (.int (2 : Int32)), .val (.int (3 : Int32)), .val (.int v330), .val (.int v345), .val (.int v360), .val (.int v375), .val (.ref b16), .val (.int got), .unset, .unset, .unset] [(.int x5)])) _
      refine XS.iload X25.here hx rfl (hb hby at_459) rfl ?_
      show Steps p.tables e below (T25.setTop (mkF m 461 #[.val (.int p1), .val (.int p2), .val (.int p3), .val (.int p4), .val (.int p5), .val (.int x5), .val (.int x6), .val (.int x7), .val (.int x8), .val (.int x9), .val (.int x10), .val (.int x11), .val (.int x12), .val (.int x13), .val (.ref b6), .val (.int (0 : Int32)), .val (.int (1 : Int32)), .val (.int (2 : Int32)), .val (.int (3 : Int32)), .val (.int v330), .val (.int v345), .val (.int v360), .val (.int v375), .val (.ref b16), .val (.int got), .unset, .unset, .unset] [(.int x13), (.int x5)])) _
      by_cases c461 : x13 < x5
      · refine XS.icmpYes X25.here hx rfl (pc0 := 461) (pc' := 477) rfl (hb hby at_461) rfl (tlt c461).2.2.1 (by decide) (by decide) ?_
        show Steps p.tables e below (T25.setTop (mkF m 477 #[.val (.int p1), .val (.int p2), .val (.int p3), .val (.int p4), .val (.int p5), .val (.int x5), .val (.int x6), .val (.int x7), .val (.int x8), .val (.int x9), .val (.int x10), .val (.int x11), .val (.int x12), .val (.int x13), .val (.ref b6), .val (.int (0 : Int32)), .val (.int (1 : Int32)), .val (.int (2 : Int32)), .val (.int (3 : Int32)), .val (.int v330), .val (.int v345), .val (.int v360), .val (.int v375), .val (.ref b16), .val (.int got), .unset, .unset, .unset] [])) _
        exact b477 (hi.trans (if_neg (fun q => q.1 c461)))
      · refine XS.icmpNo X25.here hx rfl (hb hby at_461) rfl (flt c461).2.2.1 ?_
        show Steps p.tables e below (T25.setTop (mkF m 464 #[.val (.int p1), .val (.int p2), .val (.int p3), .val (.int p4), .val (.int p5), .val (.int x5), .val (.int x6), .val (.int x7), .val (.int x8), .val (.int x9), .val (.int x10), .val (.int x11), .val (.int x12), .val (.int x13), .val (.ref b6), .val (.int (0 : Int32)), .val (.int (1 : Int32)), .val (.int (2 : Int32)), .val (.int (3 : Int32)), .val (.int v330), .val (.int v345), .val (.int v360), .val (.int v375), .val (.ref b16), .val (.int got), .unset, .unset, .unset] [])) _
        refine XS.iload X25.here hx rfl (hb hby at_464) rfl ?_
        show Steps p.tables e below (T25.setTop (mkF m 466 #[.val (.int p1), .val (.int p2), .val (.int p3), .val (.int p4), .val (.int p5), .val (.int x5), .val (.int x6), .val (.int x7), .val (.int x8), .val (.int x9), .val (.int x10), .val (.int x11), .val (.int x12), .val (.int x13), .val (.ref b6), .val (.int (0 : Int32)), .val (.int (1 : Int32)), .val (.int (2 : Int32)), .val (.int (3 : Int32)), .val (.int v330), .val (.int v345), .val (.int v360), .val (.int v375), .val (.ref b16), .val (.int got), .unset, .unset, .unset] [(.int x13)])) _
        refine XS.iload X25.here hx rfl (hb hby at_466) rfl ?_
        show Steps p.tables e below (T25.setTop (mkF m 468 #[.val (.int p1), .val (.int p2), .val (.int p3), .val (.int p4), .val (.int p5), .val (.int x5), .val (.int x6), .val (.int x7), .val (.int x8), .val (.int x9), .val (.int x10), .val (.int x11), .val (.int x12), .val (.int x13), .val (.ref b6), .val (.int (0 : Int32)), .val (.int (1 : Int32)), .val (.int (2 : Int32)), .val (.int (3 : Int32)), .val (.int v330), .val (.int v345), .val (.int v360), .val (.int v375), .val (.ref b16), .val (.int got), .unset, .unset, .unset] [(.int x12), (.int x13)])) _
        by_cases c468 : x12 < x13
        · refine XS.icmpYes X25.here hx rfl (pc0 := 468) (pc' := 477) rfl (hb hby at_468) rfl (tlt c468).2.2.1 (by decide) (by decide) ?_
          show Steps p.tables e below (T25.setTop (mkF m 477 #[.val (.int p1), .val (.int p2), .val (.int p3), .val (.int p4), .val (.int p5), .val (.int x5), .val (.int x6), .val (.int x7), .val (.int x8), .val (.int x9), .val (.int x10), .val (.int x11), .val (.int x12), .val (.int x13), .val (.ref b6), .val (.int (0 : Int32)), .val (.int (1 : Int32)), .val (.int (2 : Int32)), .val (.int (3 : Int32)), .val (.int v330), .val (.int v345), .val (.int v360), .val (.int v375), .val (.ref b16), .val (.int got), .unset, .unset, .unset] [])) _
          exact b477 (hi.trans (if_neg (fun q => q.2 c468)))
        · refine XS.icmpNo X25.here hx rfl (hb hby at_468) rfl (flt c468).2.2.1 ?_
          show Steps p.tables e below (T25.setTop (mkF m 471 #[.val (.int p1), .val (.int p2), .val (.int p3), .val (.int p4), .val (.int p5), .val (.int x5), .val (.int x6), .val (.int x7), .val (.int x8), .val (.int x9), .val (.int x10), .val (.int x11), .val (.int x12), .val (.int x13), .val (.ref b6), .val (.int (0 : Int32)), .val (.int (1 : Int32)), .val (.int (2 : Int32)), .val (.int (3 : Int32)), .val (.int v330), .val (.int v345), .val (.int v360), .val (.int v375), .val (.ref b16), .val (.int got), .unset, .unset, .unset] [])) _
          refine XS.iconst X25.here hx rfl (hb hby at_471) ?_
          show Steps p.tables e below (T25.setTop (mkF m 472 #[.val (.int p1), .val (.int p2), .val (.int p3), .val (.int p4), .val (.int p5), .val (.int x5), .val (.int x6), .val (.int x7), .val (.int x8), .val (.int x9), .val (.int x10), .val (.int x11), .val (.int x12), .val (.int x13), .val (.ref b6), .val (.int (0 : Int32)), .val (.int (1 : Int32)), .val (.int (2 : Int32)), .val (.int (3 : Int32)), .val (.int v330), .val (.int v345), .val (.int v360), .val (.int v375), .val (.ref b16), .val (.int got), .unset, .unset, .unset] [(.int (0 : Int32))])) _
          refine XS.istore X25.here hx rfl (hb hby at_472) rfl (l' := #[.val (.int p1), .val (.int p2), .val (.int p3), .val (.int p4), .val (.int p5), .val (.int x5), .val (.int x6), .val (.int x7), .val (.int x8), .val (.int x9), .val (.int x10), .val (.int x11), .val (.int x12), .val (.int x13), .val (.ref b6), .val (.int (0 : Int32)), .val (.int (1 : Int32)), .val (.int (2 : Int32)), .val (.int (3 : Int32)), .val (.int v330), .val (.int v345), .val (.int v360), .val (.int v375), .val (.ref b16), .val (.int got), .val (.int (0 : Int32)), .unset, .unset]) rfl ?_
          show Steps p.tables e below (T25.setTop (mkF m 474 #[.val (.int p1), .val (.int p2), .val (.int p3), .val (.int p4), .val (.int p5), .val (.int x5), .val (.int x6), .val (.int x7), .val (.int x8), .val (.int x9), .val (.int x10), .val (.int x11), .val (.int x12), .val (.int x13), .val (.ref b6), .val (.int (0 : Int32)), .val (.int (1 : Int32)), .val (.int (2 : Int32)), .val (.int (3 : Int32)), .val (.int v330), .val (.int v345), .val (.int v360), .val (.int v375), .val (.ref b16), .val (.int got), .val (.int (0 : Int32)), .unset, .unset] [])) _
          refine XS.goto X25.here hx rfl (pc0 := 474) (pc' := 480) rfl (hb hby at_474) (by decide) (by decide) ?_
          show Steps p.tables e below (T25.setTop (mkF m 480 #[.val (.int p1), .val (.int p2), .val (.int p3), .val (.int p4), .val (.int p5), .val (.int x5), .val (.int x6), .val (.int x7), .val (.int x8), .val (.int x9), .val (.int x10), .val (.int x11), .val (.int x12), .val (.int x13), .val (.ref b6), .val (.int (0 : Int32)), .val (.int (1 : Int32)), .val (.int (2 : Int32)), .val (.int (3 : Int32)), .val (.int v330), .val (.int v345), .val (.int v360), .val (.int v375), .val (.ref b16), .val (.int got), .val (.int (0 : Int32)), .unset, .unset] [])) _
          exact a480_0 (hi.trans (if_pos ⟨c461, c468⟩))
    have b437 : inn = (if ¬ (x13 < x6) ∧ ¬ (x7 < x13) then (1 : Int32) else (if ¬ (x13 < x5) ∧ ¬ (x12 < x13) then (0 : Int32) else (-(1 : Int32)))) → Steps p.tables e below (T25.setTop (mkF m 437 #[.val (.int p1), .val (.int p2), .val (.int p3), .val (.int p4), .val (.int p5), .val (.int x5), .val (.int x6), .val (.int x7), .val (.int x8), .val (.int x9), .val (.int x10), .val (.int x11), .val (.int x12), .val (.int x13), .val (.ref b6), .val (.int (0 : Int32)), .val (.int (1 : Int32)), .val (.int (2 : Int32)), .val (.int (3 : Int32)), .val (.int v330), .val (.int v345), .val (.int v360), .val (.int v375), .val (.ref b16), .val (.int got), .unset, .unset, .unset] [])) (T25.setFrames fs) := by
      intro hi
      show Steps p.tables e below (T25.setTop (mkF m 437 #[.val (.int p1), .val (.int p2), .val (.int p3), .val (.int p4), .val (.int p5), .val (.int x5), .val (.int x6), .val (.int x7), .val (.int x8), .val (.int x9), .val (.int x10), .val (.int x11), .val (.int x12), .val (.int x13), .val (.ref b6), .val (.int (0 : Int32)), .val (.int (1 : Int32)), .val (.int (2 : Int32)), .val (.int (3 : Int32)), .val (.int v330), .val (.int v345), .val (.int v360), .val (.int v375), .val (.ref b16), .val (.int got), .unset, .unset, .unset] [])) _
      refine XS.iload X25.here hx rfl (hb hby at_437) rfl ?_
      show Steps p.tables e below (T25.setTop (mkF m 439 #[.val (.int p1), .val (.int p2), .val (.int p3), .val (.int p4), .val (.int p5), .val (.int x5), .val (.int x6), .val (.int x7), .val (.int x8), .val (.int x9), .val (.int x10), .val (.int x11), .val (.int x12), .val (.int x13), .val (.ref b6), .val (.int (0 : Int32)), .val (.int (1 : Int32)), .val (.int (2 : Int32)), .val (.int (3 : Int32)), .val (.int v330), .val (.int v345), .val (.int v360), .val (.int v375), .val (.ref b16), .val (.int got), .unset, .unset, .unset] [(.int x6)])) _
      refine XS.iload X25.here hx rfl (hb hby at_439) rfl ?_
      show Steps p.tables e below (T25.setTop (mkF m 441 #[.val (.int p1), .val (.int p2), .val (.int p3), .val (.int p4), .val (.int p5), .val (.int x5), .val (.int x6), .val (.int x7), .val (.int x8), .val (.int x9), .val (.int x10), .val (.int x11), .val (.int x12), .val (.int x13), .val (.ref b6), .val (.int (0 : Int32)), .val (.int (1 : Int32)), .val (.int (2 : Int32)), .val (.int (3 : Int32)), .val (.int v330), .val (.int v345), .val (.int v360), .val (.int v375), .val (.ref b16), .val (.int got), .unset, .unset, .unset] [(.int x13), (.int x6)])) _
      by_cases c441 : x13 < x6
      · refine XS.icmpYes X25.here hx rfl (pc0 := 441) (pc' := 457) rfl (hb hby at_441) rfl (tlt c441).2.2.1 (by decide) (by decide) ?_
        show Steps p.tables e below (T25.setTop (mkF m 457 #[.val (.int p1), .val (.int p2), .val (.int p3), .val (.int p4), .val (.int p5), .val (.int x5), .val (.int x6), .val (.int x7), .val (.int x8), .val (.int x9), .val (.int x10), .val (.int x11), .val (.int x12), .val (.int x13), .val (.ref b6), .val (.int (0 : Int32)), .val (.int (1 : Int32)), .val (.int (2 : Int32)), .val (.int (3 : Int32)), .val (.int v330), .val (.int v345), .val (.int v360), .val (.int v375), .val (.ref b16), .val (.int got), .unset, .unset, .unset] [])) _
        exact b457 (hi.trans (if_neg (fun q => q.1 c441)))
      · refine XS.icmpNo X25.here hx rfl (hb hby at_441) rfl (flt c441).2.2.1 ?_
        show Steps p.tables e below (T25.setTop (mkF m 444 #[.val (.int p1), .val (.int p2), .val (.int p3), .val (.int p4), .val (.int p5), .val (.int x5), .val (.int x6), .val (.int x7), .val (.int x8), .val (.int x9), .val (.int x10), .val (.int x11), .val (.int x12), .val (.int x13), .val (.ref b6), .val (.int (0 : Int32)), .val (.int (1 : Int32)), .val (.int (2 : Int32)), .val (.int (3 : Int32)), .val (.int v330), .val (.int v345), .val (.int v360), .val (.int v375), .val (.ref b16), .val (.int got), .unset, .unset, .unset] [])) _
        refine XS.iload X25.here hx rfl (hb hby at_444) rfl ?_
        show Steps p.tables e below (T25.setTop (mkF m 446 #[.val (.int p1), .val (.int p2), .val (.int p3), .val (.int p4), .val (.int p5), .val (.int x5), .val (.int x6), .val (.int x7), .val (.int x8), .val (.int x9), .val (.int x10), .val (.int x11), .val (.int x12), .val (.int x13), .val (.ref b6), .val (.int (0 : Int32)), .val (.int (1 : Int32)), .val (.int (2 : Int32)), .val (.int (3 : Int32)), .val (.int v330), .val (.int v345), .val (.int v360), .val (.int v375), .val (.ref b16), .val (.int got), .unset, .unset, .unset] [(.int x13)])) _
        refine XS.iload X25.here hx rfl (hb hby at_446) rfl ?_
        show Steps p.tables e below (T25.setTop (mkF m 448 #[.val (.int p1), .val (.int p2), .val (.int p3), .val (.int p4), .val (.int p5), .val (.int x5), .val (.int x6), .val (.int x7), .val (.int x8), .val (.int x9), .val (.int x10), .val (.int x11), .val (.int x12), .val (.int x13), .val (.ref b6), .val (.int (0 : Int32)), .val (.int (1 : Int32)), .val (.int (2 : Int32)), .val (.int (3 : Int32)), .val (.int v330), .val (.int v345), .val (.int v360), .val (.int v375), .val (.ref b16), .val (.int got), .unset, .unset, .unset] [(.int x7), (.int x13)])) _
        by_cases c448 : x7 < x13
        · refine XS.icmpYes X25.here hx rfl (pc0 := 448) (pc' := 457) rfl (hb hby at_448) rfl (tlt c448).2.2.1 (by decide) (by decide) ?_
          show Steps p.tables e below (T25.setTop (mkF m 457 #[.val (.int p1), .val (.int p2), .val (.int p3), .val (.int p4), .val (.int p5), .val (.int x5), .val (.int x6), .val (.int x7), .val (.int x8), .val (.int x9), .val (.int x10), .val (.int x11), .val (.int x12), .val (.int x13), .val (.ref b6), .val (.int (0 : Int32)), .val (.int (1 : Int32)), .val (.int (2 : Int32)), .val (.int (3 : Int32)), .val (.int v330), .val (.int v345), .val (.int v360), .val (.int v375), .val (.ref b16), .val (.int got), .unset, .unset, .unset] [])) _
          exact b457 (hi.trans (if_neg (fun q => q.2 c448)))
        · refine XS.icmpNo X25.here hx rfl (hb hby at_448) rfl (flt c448).2.2.1 ?_
          show Steps p.tables e below (T25.setTop (mkF m 451 #[.val (.int p1), .val (.int p2), .val (.int p3), .val (.int p4), .val (.int p5), .val (.int x5), .val (.int x6), .val (.int x7), .val (.int x8), .val (.int x9), .val (.int x10), .val (.int x11), .val (.int x12), .val (.int x13), .val (.ref b6), .val (.int (0 : Int32)), .val (.int (1 : Int32)), .val (.int (2 : Int32)), .val (.int (3 : Int32)), .val (.int v330), .val (.int v345), .val (.int v360), .val (.int v375), .val (.ref b16), .val (.int got), .unset, .unset, .unset] [])) _
          refine XS.iconst X25.here hx rfl (hb hby at_451) ?_
          show Steps p.tables e below (T25.setTop (mkF m 452 #[.val (.int p1), .val (.int p2), .val (.int p3), .val (.int p4), .val (.int p5), .val (.int x5), .val (.int x6), .val (.int x7), .val (.int x8), .val (.int x9), .val (.int x10), .val (.int x11), .val (.int x12), .val (.int x13), .val (.ref b6), .val (.int (0 : Int32)), .val (.int (1 : Int32)), .val (.int (2 : Int32)), .val (.int (3 : Int32)), .val (.int v330), .val (.int v345), .val (.int v360), .val (.int v375), .val (.ref b16), .val (.int got), .unset, .unset, .unset] [(.int (1 : Int32))])) _
          refine XS.istore X25.here hx rfl (hb hby at_452) rfl (l' := #[.val (.int p1), .val (.int p2), .val (.int p3), .val (.int p4), .val (.int p5), .val (.int x5), .val (.int x6), .val (.int x7), .val (.int x8), .val (.int x9), .val (.int x10), .val (.int x11), .val (.int x12), .val (.int x13), .val (.ref b6), .val (.int (0 : Int32)), .val (.int (1 : Int32)), .val (.int (2 : Int32)), .val (.int (3 : Int32)), .val (.int v330), .val (.int v345), .val (.int v360), .val (.int v375), .val (.ref b16), .val (.int got), .val (.int (1 : Int32)), .unset, .unset]) rfl ?_
          show Steps p.tables e below (T25.setTop (mkF m 454 #[.val (.int p1), .val (.int p2), .val (.int p3), .val (.int p4), .val (.int p5), .val (.int x5), .val (.int x6), .val (.int x7), .val (.int x8), .val (.int x9), .val (.int x10), .val (.int x11), .val (.int x12), .val (.int x13), .val (.ref b6), .val (.int (0 : Int32)), .val (.int (1 : Int32)), .val (.int (2 : Int32)), .val (.int (3 : Int32)), .val (.int v330), .val (.int v345), .val (.int v360), .val (.int v375), .val (.ref b16), .val (.int got), .val (.int (1 : Int32)), .unset, .unset] [])) _
          refine XS.goto X25.here hx rfl (pc0 := 454) (pc' := 480) rfl (hb hby at_454) (by decide) (by decide) ?_
          show Steps p.tables e below (T25.setTop (mkF m 480 #[.val (.int p1), .val (.int p2), .val (.int p3), .val (.int p4), .val (.int p5), .val (.int x5), .val (.int x6), .val (.int x7), .val (.int x8), .val (.int x9), .val (.int x10), .val (.int x11), .val (.int x12), .val (.int x13), .val (.ref b6), .val (.int (0 : Int32)), .val (.int (1 : Int32)), .val (.int (2 : Int32)), .val (.int (3 : Int32)), .val (.int v330), .val (.int v345), .val (.int v360), .val (.int v375), .val (.ref b16), .val (.int got), .val (.int (1 : Int32)), .unset, .unset] [])) _
          exact a480_1 (hi.trans (if_pos ⟨c441, c448⟩))
    have b417 : inn = (if ¬ (x13 < x8) ∧ ¬ (x9 < x13) then (2 : Int32) else (if ¬ (x13 < x6) ∧ ¬ (x7 < x13) then (1 : Int32) else (if ¬ (x13 < x5) ∧ ¬ (x12 < x13) then (0 : Int32) else (-(1 : Int32))))) → Steps p.tables e below (T25.setTop (mkF m 417 #[.val (.int p1), .val (.int p2), .val (.int p3), .val (.int p4), .val (.int p5), .val (.int x5), .val (.int x6), .val (.int x7), .val (.int x8), .val (.int x9), .val (.int x10), .val (.int x11), .val (.int x12), .val (.int x13), .val (.ref b6), .val (.int (0 : Int32)), .val (.int (1 : Int32)), .val (.int (2 : Int32)), .val (.int (3 : Int32)), .val (.int v330), .val (.int v345), .val (.int v360), .val (.int v375), .val (.ref b16), .val (.int got), .unset, .unset, .unset] [])) (T25.setFrames fs) := by
      intro hi
      show Steps p.tables e below (T25.setTop (mkF m 417 #[.val (.int p1), .val (.int p2), .val (.int p3), .val (.int p4), .val (.int p5), .val (.int x5), .val (.int x6), .val (.int x7), .val (.int x8), .val (.int x9), .val (.int x10), .val (.int x11), .val (.int x12), .val (.int x13), .val (.ref b6), .val (.int (0 : Int32)), .val (.int (1 : Int32)), .val (.int (2 : Int32)), .val (.int (3 : Int32)), .val (.int v330), .val (.int v345), .val (.int v360), .val (.int v375), .val (.ref b16), .val (.int got), .unset, .unset, .unset] [])) _
      refine XS.iload X25.here hx rfl (hb hby at_417) rfl ?_
      show Steps p.tables e below (T25.setTop (mkF m 419 #[.val (.int p1), .val (.int p2), .val (.int p3), .val (.int p4), .val (.int p5), .val (.int x5), .val (.int x6), .val (.int x7), .val (.int x8), .val (.int x9), .val (.int x10), .val (.int x11), .val (.int x12), .val (.int x13), .val (.ref b6), .val (.int (0 : Int32)), .val (.int (1 : Int32)), .val (.int (2 : Int32)), .val (.int (3 : Int32)), .val (.int v330), .val (.int v345), .val (.int v360), .val (.int v375), .val (.ref b16), .val (.int got), .unset, .unset, .unset] [(.int x8)])) _
      refine XS.iload X25.here hx rfl (hb hby at_419) rfl ?_
      show Steps p.tables e below (T25.setTop (mkF m 421 #[.val (.int p1), .val (.int p2), .val (.int p3), .val (.int p4), .val (.int p5), .val (.int x5), .val (.int x6), .val (.int x7), .val (.int x8), .val (.int x9), .val (.int x10), .val (.int x11), .val (.int x12), .val (.int x13), .val (.ref b6), .val (.int (0 : Int32)), .val (.int (1 : Int32)), .val (.int (2 : Int32)), .val (.int (3 : Int32)), .val (.int v330), .val (.int v345), .val (.int v360), .val (.int v375), .val (.ref b16), .val (.int got), .unset, .unset, .unset] [(.int x13), (.int x8)])) _
      by_cases c421 : x13 < x8
      · refine XS.icmpYes X25.here hx rfl (pc0 := 421) (pc' := 437) rfl (hb hby at_421) rfl (tlt c421).2.2.1 (by decide) (by decide) ?_
        show Steps p.tables e below (T25.setTop (mkF m 437 #[.val (.int p1), .val (.int p2), .val (.int p3), .val (.int p4), .val (.int p5), .val (.int x5), .val (.int x6), .val (.int x7), .val (.int x8), .val (.int x9), .val (.int x10), .val (.int x11), .val (.int x12), .val (.int x13), .val (.ref b6), .val (.int (0 : Int32)), .val (.int (1 : Int32)), .val (.int (2 : Int32)), .val (.int (3 : Int32)), .val (.int v330), .val (.int v345), .val (.int v360), .val (.int v375), .val (.ref b16), .val (.int got), .unset, .unset, .unset] [])) _
        exact b437 (hi.trans (if_neg (fun q => q.1 c421)))
      · refine XS.icmpNo X25.here hx rfl (hb hby at_421) rfl (flt c421).2.2.1 ?_
        show Steps p.tables e below (T25.setTop (mkF m 424 #[.val (.int p1), .val (.int p2), .val (.int p3), .val (.int p4), .val (.int p5), .val (.int x5), .val (.int x6), .val (.int x7), .val (.int x8), .val (.int x9), .val (.int x10), .val (.int x11), .val (.int x12), .val (.int x13), .val (.ref b6), .val (.int (0 : Int32)), .val (.int (1 : Int32)), .val (.int (2 : Int32)), .val (.int (3 : Int32)), .val (.int v330), .val (.int v345), .val (.int v360), .val (.int v375), .val (.ref b16), .val (.int got), .unset, .unset, .unset] [])) _
        refine XS.iload X25.here hx rfl (hb hby at_424) rfl ?_
        show Steps p.tables e below (T25.setTop (mkF m 426 #[.val (.int p1), .val (.int p2), .val (.int p3), .val (.int p4), .val (.int p5), .val (.int x5), .val (.int x6), .val (.int x7), .val (.int x8), .val (.int x9), .val (.int x10), .val (.int x11), .val (.int x12), .val (.int x13), .val (.ref b6), .val (.int (0 : Int32)), .val (.int (1 : Int32)), .val (.int (2 : Int32)), .val (.int (3 : Int32)), .val (.int v330), .val (.int v345), .val (.int v360), .val (.int v375), .val (.ref b16), .val (.int got), .unset, .unset, .unset] [(.int x13)])) _
        refine XS.iload X25.here hx rfl (hb hby at_426) rfl ?_
        show Steps p.tables e below (T25.setTop (mkF m 428 #[.val (.int p1), .val (.int p2), .val (.int p3), .val (.int p4), .val (.int p5), .val (.int x5), .val (.int x6), .val (.int x7), .val (.int x8), .val (.int x9), .val (.int x10), .val (.int x11), .val (.int x12), .val (.int x13), .val (.ref b6), .val (.int (0 : Int32)), .val (.int (1 : Int32)), .val (.int (2 : Int32)), .val (.int (3 : Int32)), .val (.int v330), .val (.int v345), .val (.int v360), .val (.int v375), .val (.ref b16), .val (.int got), .unset, .unset, .unset] [(.int x9), (.int x13)])) _
        by_cases c428 : x9 < x13
        · refine XS.icmpYes X25.here hx rfl (pc0 := 428) (pc' := 437) rfl (hb hby at_428) rfl (tlt c428).2.2.1 (by decide) (by decide) ?_
          show Steps p.tables e below (T25.setTop (mkF m 437 #[.val (.int p1), .val (.int p2), .val (.int p3), .val (.int p4), .val (.int p5), .val (.int x5), .val (.int x6), .val (.int x7), .val (.int x8), .val (.int x9), .val (.int x10), .val (.int x11), .val (.int x12), .val (.int x13), .val (.ref b6), .val (.int (0 : Int32)), .val (.int (1 : Int32)), .val (.int (2 : Int32)), .val (.int (3 : Int32)), .val (.int v330), .val (.int v345), .val (.int v360), .val (.int v375), .val (.ref b16), .val (.int got), .unset, .unset, .unset] [])) _
          exact b437 (hi.trans (if_neg (fun q => q.2 c428)))
        · refine XS.icmpNo X25.here hx rfl (hb hby at_428) rfl (flt c428).2.2.1 ?_
          show Steps p.tables e below (T25.setTop (mkF m 431 #[.val (.int p1), .val (.int p2), .val (.int p3), .val (.int p4), .val (.int p5), .val (.int x5), .val (.int x6), .val (.int x7), .val (.int x8), .val (.int x9), .val (.int x10), .val (.int x11), .val (.int x12), .val (.int x13), .val (.ref b6), .val (.int (0 : Int32)), .val (.int (1 : Int32)), .val (.int (2 : Int32)), .val (.int (3 : Int32)), .val (.int v330), .val (.int v345), .val (.int v360), .val (.int v375), .val (.ref b16), .val (.int got), .unset, .unset, .unset] [])) _
          refine XS.iconst X25.here hx rfl (hb hby at_431) ?_
          show Steps p.tables e below (T25.setTop (mkF m 432 #[.val (.int p1), .val (.int p2), .val (.int p3), .val (.int p4), .val (.int p5), .val (.int x5), .val (.int x6), .val (.int x7), .val (.int x8), .val (.int x9), .val (.int x10), .val (.int x11), .val (.int x12), .val (.int x13), .val (.ref b6), .val (.int (0 : Int32)), .val (.int (1 : Int32)), .val (.int (2 : Int32)), .val (.int (3 : Int32)), .val (.int v330), .val (.int v345), .val (.int v360), .val (.int v375), .val (.ref b16), .val (.int got), .unset, .unset, .unset] [(.int (2 : Int32))])) _
          refine XS.istore X25.here hx rfl (hb hby at_432) rfl (l' := #[.val (.int p1), .val (.int p2), .val (.int p3), .val (.int p4), .val (.int p5), .val (.int x5), .val (.int x6), .val (.int x7), .val (.int x8), .val (.int x9), .val (.int x10), .val (.int x11), .val (.int x12), .val (.int x13), .val (.ref b6), .val (.int (0 : Int32)), .val (.int (1 : Int32)), .val (.int (2 : Int32)), .val (.int (3 : Int32)), .val (.int v330), .val (.int v345), .val (.int v360), .val (.int v375), .val (.ref b16), .val (.int got), .val (.int (2 : Int32)), .unset, .unset]) rfl ?_
          show Steps p.tables e below (T25.setTop (mkF m 434 #[.val (.int p1), .val (.int p2), .val (.int p3), .val (.int p4), .val (.int p5), .val (.int x5), .val (.int x6), .val (.int x7), .val (.int x8), .val (.int x9), .val (.int x10), .val (.int x11), .val (.int x12), .val (.int x13), .val (.ref b6), .val (.int (0 : Int32)), .val (.int (1 : Int32)), .val (.int (2 : Int32)), .val (.int (3 : Int32)), .val (.int v330), .val (.int v345), .val (.int v360), .val (.int v375), .val (.ref b16), .val (.int got), .val (.int (2 : Int32)), .unset, .unset] [])) _
          refine XS.goto X25.here hx rfl (pc0 := 434) (pc' := 480) rfl (hb hby at_434) (by decide) (by decide) ?_
          show Steps p.tables e below (T25.setTop (mkF m 480 #[.val (.int p1), .val (.int p2), .val (.int p3), .val (.int p4), .val (.int p5), .val (.int x5), .val (.int x6), .val (.int x7), .val (.int x8), .val (.int x9), .val (.int x10), .val (.int x11), .val (.int x12), .val (.int x13), .val (.ref b6), .val (.int (0 : Int32)), .val (.int (1 : Int32)), .val (.int (2 : Int32)), .val (.int (3 : Int32)), .val (.int v330), .val (.int v345), .val (.int v360), .val (.int v375), .val (.ref b16), .val (.int got), .val (.int (2 : Int32)), .unset, .unset] [])) _
          exact a480_2 (hi.trans (if_pos ⟨c421, c428⟩))
    have b397 : inn = (if ¬ (x13 < x10) ∧ ¬ (x11 < x13) then (3 : Int32) else (if ¬ (x13 < x8) ∧ ¬ (x9 < x13) then (2 : Int32) else (if ¬ (x13 < x6) ∧ ¬ (x7 < x13) then (1 : Int32) else (if ¬ (x13 < x5) ∧ ¬ (x12 < x13) then (0 : Int32) else (-(1 : Int32)))))) → Steps p.tables e below (T25.setTop (mkF m 397 #[.val (.int p1), .val (.int p2), .val (.int p3), .val (.int p4), .val (.int p5), .val (.int x5), .val (.int x6), .val (.int x7), .val (.int x8), .val (.int x9), .val (.int x10), .val (.int x11), .val (.int x12), .val (.int x13), .val (.ref b6), .val (.int (0 : Int32)), .val (.int (1 : Int32)), .val (.int (2 : Int32)), .val (.int (3 : Int32)), .val (.int v330), .val (.int v345), .val (.int v360), .val (.int v375), .val (.ref b16), .val (.int got), .unset, .unset, .unset] [])) (T25.setFrames fs) := by
      intro hi
      show Steps p.tables e below (T25.setTop (mkF m 397 #[.val (.int p1), .val (.int p2), .val (.int p3), .val (.int p4), .val (.int p5), .val (.int x5), .val (.int x6), .val (.int x7), .val (.int x8), .val (.int x9), .val (.int x10), .val (.int x11), .val (.int x12), .val (.int x13), .val (.ref b6), .val (.int (0 : Int32)), .val (.int (1 : Int32)), .val (.int (2 : Int32)), .val (.int (3 : Int32)), .val (.int v330), .val (.int v345), .val (.int v360), .val (.int v375), .val (.ref b16), .val (.int got), .unset, .unset, .unset] [])) _
      refine XS.iload X25.here hx rfl (hb hby at_397) rfl ?_
      show Steps p.tables e below (T25.setTop (mkF m 399 #[.val (.int p1), .val (.int p2), .val (.int p3), .val (.int p4), .val (.int p5), .val (.int x5), .val (.int x6), .val (.int x7), .val (.int x8), .val (.int x9), .val (.int x10), .val (.int x11), .val (.int x12), .val (.int x13), .val (.ref b6), .val (.int (0 : Int32)), .val (.int (1 : Int32)), .val (.int (2 : Int32)), .val (.int (3 : Int32)), .val (.int v330), .val (.int v345), .val (.int v360), .val (.int v375), .val (.ref b16), .val (.int got), .unset, .unset, .unset] [(.int x10)])) _
      refine XS.iload X25.here hx rfl (hb hby at_399) rfl ?_
      show Steps p.tables e below (T25.setTop (mkF m 401 #[.val (.int p1), .val (.int p2), .val (.int p3), .val (.int p4), .val (.int p5), .val (.int x5), .val (.int x6), .val (.int x7), .val (.int x8), .val (.int x9), .val (.int x10), .val (.int x11), .val (.int x12), .val (.int x13), .val (.ref b6), .val (.int (0 : Int32)), .val (.int (1 : Int32)), .val (.int (2 : Int32)), .val (.int (3 : Int32)), .val (.int v330), .val (.int v345), .val (.int v360), .val (.int v375), .val (.ref b16), .val (.int got), .unset, .unset, .unset] [(.int x13), (.int x10)])) _
      by_cases c401 : x13 < x10
      · refine XS.icmpYes X25.here hx rfl (pc0 := 401) (pc' := 417) rfl (hb hby at_401) rfl (tlt c401).2.2.1 (by decide) (by decide) ?_
        show Steps p.tables e below (T25.setTop (mkF m 417 #[.val (.int p1), .val (.int p2), .val (.int p3), .val (.int p4), .val (.int p5), .val (.int x5), .val (.int x6), .val (.int x7), .val (.int x8), .val (.int x9), .val (.int x10), .val (.int x11), .val (.int x12), .val (.int x13), .val (.ref b6), .val (.int (0 : Int32)), .val (.int (1 : Int32)), .val (.int (2 : Int32)), .val (.int (3 : Int32)), .val (.int v330), .val (.int v345), .val (.int v360), .val (.int v375), .val (.ref b16), .val (.int got), .unset, .unset, .unset] [])) _
        exact b417 (hi.trans (if_neg (fun q => q.1 c401)))
      · refine XS.icmpNo X25.here hx rfl (hb hby at_401) rfl (flt c401).2.2.1 ?_
        show Steps p.tables e below (T25.setTop (mkF m 404 #[.val (.int p1), .val (.int p2), .val (.int p3), .val (.int p4), .val (.int p5), .val (.int x5), .val (.int x6), .val (.int x7), .val (.int x8), .val (.int x9), .val (.int x10), .val (.int x11), .val (.int x12), .val (.int x13), .val (.ref b6), .val (.int (0 : Int32)), .val (.int (1 : Int32)), .val (.int (2 : Int32)), .val (.int (3 : Int32)), .val (.int v330), .val (.int v345), .val (.int v360), .val (.int v375), .val (.ref b16), .val (.int got), .unset, .unset, .unset] [])) _
        refine XS.iload X25.here hx rfl (hb hby at_404) rfl ?_
        show Steps p.tables e below (T25.setTop (mkF m 406 #[.val (.int p1), .val (.int p2), .val (.int p3), .val (.int p4), .val (.int p5), .val (.int x5), .val (.int x6), .val (.int x7), .val (.int x8), .val (.int x9), .val (.int x10), .val (.int x11), .val (.int x12), .val (.int x13), .val (.ref b6), .val (.int (0 : Int32)), .val (.int (1 : Int32)), .val (.int (2 : Int32)), .val (.int (3 : Int32)), .val (.int v330), .val (.int v345), .val (.int v360), .val (.int v375), .val (.ref b16), .val (.int got), .unset, .unset, .unset] [(.int x13)])) _
        refine XS.iload X25.here hx rfl (hb hby at_406) rfl ?_
        show Steps p.tables e below (T25.setTop (mkF m 408 #[.val (.int p1), .val (.int p2), .val (.int p3), .val (.int p4), .val (.int p5), .val (.int x5), .val (.int x6), .val (.int x7), .val (.int x8), .val (.int x9), .val (.int x10), .val (.int x11), .val (.int x12), .val (.int x13), .val (.ref b6), .val (.int (0 : Int32)), .val (.int (1 : Int32)), .val (.int (2 : Int32)), .val (.int (3 : Int32)), .val (.int v330), .val (.int v345), .val (.int v360), .val (.int v375), .val (.ref b16), .val (.int got), .unset, .unset, .unset] [(.int x11), (.int x13)])) _
        by_cases c408 : x11 < x13
        · refine XS.icmpYes X25.here hx rfl (pc0 := 408) (pc' := 417) rfl (hb hby at_408) rfl (tlt c408).2.2.1 (by decide) (by decide) ?_
          show Steps p.tables e below (T25.setTop (mkF m 417 #[.val (.int p1), .val (.int p2), .val (.int p3), .val (.int p4), .val (.int p5), .val (.int x5), .val (.int x6), .val (.int x7), .val (.int x8), .val (.int x9), .val (.int x10), .val (.int x11), .val (.int x12), .val (.int x13), .val (.ref b6), .val (.int (0 : Int32)), .val (.int (1 : Int32)), .val (.int (2 : Int32)), .val (.int (3 : Int32)), .val (.int v330), .val (.int v345), .val (.int v360), .val (.int v375), .val (.ref b16), .val (.int got), .unset, .unset, .unset] [])) _
          exact b417 (hi.trans (if_neg (fun q => q.2 c408)))
        · refine XS.icmpNo X25.here hx rfl (hb hby at_408) rfl (flt c408).2.2.1 ?_
          show Steps p.tables e below (T25.setTop (mkF m 411 #[.val (.int p1), .val (.int p2), .val (.int p3), .val (.int p4), .val (.int p5), .val (.int x5), .val (.int x6), .val (.int x7), .val (.int x8), .val (.int x9), .val (.int x10), .val (.int x11), .val (.int x12), .val (.int x13), .val (.ref b6), .val (.int (0 : Int32)), .val (.int (1 : Int32)), .val (.int (2 : Int32)), .val (.int (3 : Int32)), .val (.int v330), .val (.int v345), .val (.int v360), .val (.int v375), .val (.ref b16), .val (.int got), .unset, .unset, .unset] [])) _
          refine XS.iconst X25.here hx rfl (hb hby at_411) ?_
          show Steps p.tables e below (T25.setTop (mkF m 412 #[.val (.int p1), .val (.int p2), .val (.int p3), .val (.int p4), .val (.int p5), .val (.int x5), .val (.int x6), .val (.int x7), .val (.int x8), .val (.int x9), .val (.int x10), .val (.int x11), .val (.int x12), .val (.int x13), .val (.ref b6), .val (.int (0 : Int32)), .val (.int (1 : Int32)), .val (.int (2 : Int32)), .val (.int (3 : Int32)), .val (.int v330), .val (.int v345), .val (.int v360), .val (.int v375), .val (.ref b16), .val (.int got), .unset, .unset, .unset] [(.int (3 : Int32))])) _
          refine XS.istore X25.here hx rfl (hb hby at_412) rfl (l' := #[.val (.int p1), .val (.int p2), .val (.int p3), .val (.int p4), .val (.int p5), .val (.int x5), .val (.int x6), .val (.int x7), .val (.int x8), .val (.int x9), .val (.int x10), .val (.int x11), .val (.int x12), .val (.int x13), .val (.ref b6), .val (.int (0 : Int32)), .val (.int (1 : Int32)), .val (.int (2 : Int32)), .val (.int (3 : Int32)), .val (.int v330), .val (.int v345), .val (.int v360), .val (.int v375), .val (.ref b16), .val (.int got), .val (.int (3 : Int32)), .unset, .unset]) rfl ?_
          show Steps p.tables e below (T25.setTop (mkF m 414 #[.val (.int p1), .val (.int p2), .val (.int p3), .val (.int p4), .val (.int p5), .val (.int x5), .val (.int x6), .val (.int x7), .val (.int x8), .val (.int x9), .val (.int x10), .val (.int x11), .val (.int x12), .val (.int x13), .val (.ref b6), .val (.int (0 : Int32)), .val (.int (1 : Int32)), .val (.int (2 : Int32)), .val (.int (3 : Int32)), .val (.int v330), .val (.int v345), .val (.int v360), .val (.int v375), .val (.ref b16), .val (.int got), .val (.int (3 : Int32)), .unset, .unset] [])) _
          refine XS.goto X25.here hx rfl (pc0 := 414) (pc' := 480) rfl (hb hby at_414) (by decide) (by decide) ?_
          show Steps p.tables e below (T25.setTop (mkF m 480 #[.val (.int p1), .val (.int p2), .val (.int p3), .val (.int p4), .val (.int p5), .val (.int x5), .val (.int x6), .val (.int x7), .val (.int x8), .val (.int x9), .val (.int x10), .val (.int x11), .val (.int x12), .val (.int x13), .val (.ref b6), .val (.int (0 : Int32)), .val (.int (1 : Int32)), .val (.int (2 : Int32)), .val (.int (3 : Int32)), .val (.int v330), .val (.int v345), .val (.int v360), .val (.int v375), .val (.ref b16), .val (.int got), .val (.int (3 : Int32)), .unset, .unset] [])) _
          exact a480_3 (hi.trans (if_pos ⟨c401, c408⟩))
    exact b397 (hinn trivial)
  · exact ⟨rfl, N25⟩
theorem rm0 (l : Launch) (Z : State) (a0 : Array Value) (hw : ∀ d ∈ tables_1, d.before a0 Z = true) (ws : List Jvm.Cond) (p1 p2 p3 p4 p5 : Int32) (h0 : Heap) (n0 : Nat) (Z0 : n0 ≤ h0.size) :
    MetFree l x (head1 (Jvm.Cond.code x code maxLocals ret :: ws) room_1) (fun a U => a = #[(.int p1), (.int p2), (.int p3), (.int p4), (.int p5)] ∧ Z.Warmed39 U.vm ∧ U.heap = h0) (fun _ _ _ _ _ => True) (fun _ U o U' => ∃ v L, o = .returned v ∧ Q0 h0 n0 v U'.heap L ∧ FrameEnd U o U' L room_1.cells room_1.slots) :=
  rm0_L l Z a0 hw ws p1 p2 p3 p4 p5 _ _ _ _ _ _ _ _ _ _ _ _ _ _ _ _ _ _ _ _ _ _ _ h0 n0 Z0 (fun _ => rfl) (fun _ => rfl) (fun _ => rfl) (fun _ => rfl) (fun _ => rfl) (fun _ => rfl) (fun _ => rfl) (fun _ => rfl) (fun _ => rfl) (fun _ => rfl) (fun _ => rfl) (fun _ => rfl) (fun _ => rfl) (fun _ => rfl) (fun _ => rfl) (fun _ => rfl) (fun _ => rfl) (fun _ => rfl) (fun _ => rfl) (fun _ => rfl) (fun _ => rfl) (fun _ => rfl) (fun _ => rfl) (fun _ => own_law rfl rfl rfl rfl rfl rfl rfl rfl rfl rfl rfl rfl)
-- 5. FROM THE CASE'S WORDS TO rm0, AND THE OWED THEOREMS
set_option maxRecDepth 65536 in
set_option maxHeartbeats 40000000 in
theorem comes_1 {Post : Tables → Env → Array Value → State → Outcome → State → Prop} (hpost : ∀ tb e args s v u, (limb_1_1.after args s (.returned v) u = true ∧ limb_1_2.after args s (.returned v) u = true ∧ True) → FrameEnd s (.returned v) u (Jvm.fieldLocs frame_1_writes args s ++ Jvm.arrayLocs frame_1_arrays args s ++ Jvm.staticLocs frame_1_statics s) 24 128 → Post tb e args s (.returned v) u) :
    ArmFor flags0 classFile x code maxLocals ret World_1 tables_1 room_1 Calls_1 rest_1 Pre_1 Post := by
  intro l hfl _ _ p e ha hc hk s m args below hf hA hF happ hP
  obtain ⟨hcalls, hrest, hpre⟩ := hP
  obtain ⟨-, -, -, hnamed, -, -, -, hat⟩ := (Spec.applies_iff hf).mp happ
  obtain ⟨hg, hn⟩ := and_e (Cond.before_iff.mp (show (Jvm.Cond.and given_1 narrow_1).before args s = true from hpre))
  obtain ⟨g26, g27⟩ := and_e hg
  obtain ⟨g28, g29⟩ := and_e g27
  obtain ⟨g30, g31⟩ := and_e g29
  obtain ⟨g32, g33⟩ := and_e g31
  obtain ⟨g34, g35⟩ := and_e g33
  obtain ⟨w0, w1, w2, w3, w4, rfl⟩ : ∃ w0 w1 w2 w3 w4 : Value, args = #[w0, w1, w2, w3, w4] := by
    have hs : args.size = 5 := by simpa [Cond.value, given_1] using g26
    obtain ⟨L⟩ := args
    match L, hs with
    | [w0, w1, w2, w3, w4], _ => exact ⟨w0, w1, w2, w3, w4, rfl⟩
  have hw := fun d (hd : d ∈ tables_1) => atoms_spec (ws := Jvm.Cond.code x code maxLocals ret :: tables_1) hat d (List.mem_cons_of_mem _ hd)
  have hfit : Fit s := fun {y c} hc i hi => by
    obtain ⟨ha, rfl⟩ := Array.getElem?_eq_some_iff.mp hc
    have q := List.all_eq_true.mp ((Array.all_eq_true_iff_forall_mem.mp hF) _ (Array.getElem_mem ha)) i (List.mem_range.mpr hi)
    simpa [Array.getElem?_eq_getElem hi] using q
  obtain ⟨i0, ei0⟩ := is_v g28
  obtain rfl : w0 = (.int i0) := Option.some.inj ei0
  obtain ⟨i1, ei1⟩ := is_v g30
  obtain rfl : w1 = (.int i1) := Option.some.inj ei1
  obtain ⟨i2, ei2⟩ := is_v g32
  obtain rfl : w2 = (.int i2) := Option.some.inj ei2
  obtain ⟨i3, ei3⟩ := is_v g34
  obtain rfl : w3 = (.int i3) := Option.some.inj ei3
  obtain ⟨i4, ei4⟩ := is_v g35
  obtain rfl : w4 = (.int i4) := Option.some.inj ei4
  obtain ⟨n, o, h1, h2, h3, _, L, rfl, ⟨rfl, N⟩, hq⟩ := rm0 l s _ hw tables_1 i0 i1 i2 i3 i4 s.heap s.heap.size (Nat.le_refl _)  p e ha hc hk s m _ below hf ((Spec.applies_iff_loose hf).mp happ).1 ⟨rfl, State.Warmed39.refl s, rfl⟩ trivial
  refine ⟨n, _, h1, h2, h3, hpost _ _ _ _ _ _ ⟨Cond.after_iff.mpr rfl, Cond.after_iff.mpr (eq_i res_at (Term.int_eval (1)) rfl), trivial⟩ ⟨hq.1, hq.2.1, (hq.2.2.sift fun y hy => Or.inr (N y hy)).mono (by decide) (by decide)⟩⟩
theorem main_1_1 : Claimed_1_1 := comes_1 fun _ _ _ _ _ _ h hF => ⟨h.1, hF⟩
theorem main_1_2 : Claimed_1_2 := comes_1 fun _ _ _ _ _ _ h hF => ⟨h.2.1, hF⟩
-- 6. THE WITNESS: 'witness <made dir> --arg ..' lays it behind; then: end Jvm.Pilot.@@N@@
end Jvm.Pilot.@@N@@
namespace Jvm.Pilot.@@N@@
open Jvm Jvm.ClassFile Sem Op Lib Jvm.Free Jvm.Stand Jvm.Pilot.@@N@@.Jvm.D
/-! MADE BY PROGRAM (witnessworld.py) out of the Statement's table words and the real class files: 10 classes; the members and pool entries that the words name. The judged class is class 1, her method 1. -/
namespace start1
open Jvm.ClassFile
def u (s : String) : CpInfo := .utf8 (stringToUtf16 s)
/-- a pool by its gaps: so many unusable entries, then the entry; so many at the end -/
def gap : Nat → List CpInfo → List CpInfo
  | 0, r => r
  | n + 1, r => .unusable :: gap n r
def poolList (es : List (Nat × CpInfo)) (last : Nat) : List CpInfo := es.foldr (fun e r => gap e.1 (e.2 :: r)) (gap last [])
def pool (es : List (Nat × CpInfo)) (last : Nat) : Array CpInfo := ⟨poolList es last⟩
def fileOf (pool : Array CpInfo) (this : Nat) (attrs : Array Attribute := #[]) (ms : Array MethodInfo := #[]) (fl : Nat := 33) (sup : Nat := 0) (ifs : Array Nat := #[]) (fds : Array FieldInfo := #[]) : ClassFile where
  minorVersion := 0
  majorVersion := 65
  constantPool := pool
  accessFlags := fl
  thisClass := this
  superClass := sup
  interfaces := ifs
  fields := fds
  methods := ms
  attributes := attrs
def plain (name : String) (sup : Option ClassId) : Class where
  name := name
  kind := .ordinary
  loader := none
  accessFlags := 33
  super := sup
  interfaces := #[]
  cf := none
  fields := #[]
  methods := #[]
  instanceTypes := #[]
  staticTypes := #[]
  resolved := #[]
  callSites := []
  init := .initialized
  statics := none
  mirror := none

def pool0 : Array CpInfo := pool [(5, u "<init>"), (0, u "()V"), (1, .class_ 10), (1, u "java/lang/Object")] 113

def k0c0 : Code := { maxStack := 0, maxLocals := 1, code := object_method_1_code, exceptionTable := #[], attributes := #[] }
def k0m0 : Method := { name := "<init>", desc := "()V", sig := { parameters := [], returnType := none }, accessFlags := 1, code := some k0c0 }
/-- java/lang/Object -/
def k0 : Class := { plain "java/lang/Object" none with
  accessFlags := 33
  interfaces := #[]
  cf := some (fileOf pool0 8 #[] #[{ accessFlags := 1, nameIndex := 5, descriptorIndex := 6, attributes := #[] }] 33 0 #[] #[])
  fields := #[]
  methods := #[k0m0]
  instanceTypes := #[]
  staticTypes := #[]
  resolved := Array.replicate 124 none
  statics := none }

def pool1 : Array CpInfo := pool [(2, .class_ 4), (0, .nameAndType 5 6), (0, u "java/lang/Object"), (0, u "<init>"), (0, u "()V"), (0, .class_ 8), (0, u "com/example/nested_path/nestedpath/pattern/StringPattern$Loops"), (0, .methodref 7 3), (0, .methodref 7 11), (0, .nameAndType 12 13), (0, u "enter"), (0, u "(I)I"), (0, .methodref 7 15), (0, .nameAndType 16 17), (0, u "leave"), (0, u "(II)V"), (0, .methodref 7 19), (0, .nameAndType 20 21), (0, u "emptyTurns"), (0, u "(II[I)I"), (0, .class_ 23), (0, u "com/example/nested_path/nestedpath/pattern/LoopsLeavePinLaw"), (2, u "law"), (0, u "(IIIII)Z")] 9

def k1m0 : Method := { name := "<init>", desc := "()V", sig := { parameters := [], returnType := none }, accessFlags := 1, code := none }
def k1c1 : Code := { maxStack := 4, maxLocals := 28, code := code, exceptionTable := #[], attributes := #[] }
def k1m1 : Method := { name := "law", desc := "(IIIII)Z", sig := { parameters := [.int, .int, .int, .int, .int], returnType := some .boolean }, accessFlags := 9, code := some k1c1 }
/-- com/example/nested_path/nestedpath/pattern/LoopsLeavePinLaw -/
def k1 : Class := { plain "com/example/nested_path/nestedpath/pattern/LoopsLeavePinLaw" (some 0) with
  accessFlags := 49
  interfaces := #[]
  cf := some (fileOf pool1 22 #[] #[{ accessFlags := 1, nameIndex := 5, descriptorIndex := 6, attributes := #[] }, { accessFlags := 9, nameIndex := 26, descriptorIndex := 27, attributes := #[] }] 49 2 #[] #[])
  fields := #[]
  methods := #[k1m0, k1m1]
  instanceTypes := #[]
  staticTypes := #[]
  resolved := Array.replicate 37 none
  statics := none }

def pool2 : Array CpInfo := pool [(1, .methodref 2 3), (0, .class_ 4), (0, .nameAndType 5 6), (0, u "java/lang/Object"), (0, u "<init>"), (0, u "()V"), (0, .fieldref 8 9), (0, .class_ 10), (0, .nameAndType 11 12), (0, u "com/example/nested_path/nestedpath/pattern/StringPattern$Loops"), (0, u "firsts"), (0, u "[I"), (0, .fieldref 8 14), (0, .nameAndType 15 12), (0, u "lasts"), (0, .fieldref 8 17), (0, .nameAndType 18 12), (0, u "outers"), (0, .fieldref 8 20), (0, .nameAndType 21 22), (0, u "open"), (0, u "I"), (0, .fieldref 8 24), (0, .nameAndType 25 22), (0, u "count"), (1, .class_ 29), (1, u "java/util/Arrays"), (2, .methodref 8 33), (0, .nameAndType 34 35), (0, u "around"), (0, u "(I)I"), (0, .methodref 27 37), (0, .nameAndType 38 39), (0, u "binarySearch"), (0, u "([II)I"), (2, u "enter"), (1, u "leave"), (0, u "(II)V"), (2, u "emptyTurns"), (0, u "(II[I)I"), (3, .class_ 54), (0, u "com/example/nested_path/nestedpath/pattern/StringPattern")] 2

def k2c0 : Code := { maxStack := 2, maxLocals := 1, code := prog_62_method_1_code, exceptionTable := #[], attributes := #[] }
def k2m0 : Method := { name := "<init>", desc := "()V", sig := { parameters := [], returnType := none }, accessFlags := 0, code := some k2c0 }
def k2c1 : Code := { maxStack := 4, maxLocals := 2, code := prog_62_method_2_code, exceptionTable := #[], attributes := #[] }
def k2m1 : Method := { name := "enter", desc := "(I)I", sig := { parameters := [.int], returnType := some .int }, accessFlags := 0, code := some k2c1 }
def k2c2 : Code := { maxStack := 3, maxLocals := 3, code := prog_62_method_3_code, exceptionTable := #[], attributes := #[] }
def k2m2 : Method := { name := "leave", desc := "(II)V", sig := { parameters := [.int, .int], returnType := none }, accessFlags := 0, code := some k2c2 }
def k2c3 : Code := { maxStack := 2, maxLocals := 6, code := prog_62_method_6_code, exceptionTable := #[], attributes := #[] }
def k2m3 : Method := { name := "emptyTurns", desc := "(II[I)I", sig := { parameters := [.int, .int, (.array .int)], returnType := some .int }, accessFlags := 0, code := some k2c3 }
def k2c4 : Code := { maxStack := 2, maxLocals := 3, code := prog_62_method_7_code, exceptionTable := #[], attributes := #[] }
def k2m4 : Method := { name := "around", desc := "(I)I", sig := { parameters := [.int], returnType := some .int }, accessFlags := 2, code := some k2c4 }
/-- com/example/nested_path/nestedpath/pattern/StringPattern$Loops -/
def k2 : Class := { plain "com/example/nested_path/nestedpath/pattern/StringPattern$Loops" (some 0) with
  accessFlags := 48
  interfaces := #[]
  cf := some (fileOf pool2 8 #[.nestHost 53] #[{ accessFlags := 0, nameIndex := 5, descriptorIndex := 6, attributes := #[] }, { accessFlags := 0, nameIndex := 42, descriptorIndex := 35, attributes := #[] }, { accessFlags := 0, nameIndex := 44, descriptorIndex := 45, attributes := #[] }, { accessFlags := 0, nameIndex := 48, descriptorIndex := 49, attributes := #[] }, { accessFlags := 2, nameIndex := 34, descriptorIndex := 35, attributes := #[] }] 48 2 #[] #[{ accessFlags := 2, nameIndex := 11, descriptorIndex := 12, attributes := #[] }, { accessFlags := 2, nameIndex := 15, descriptorIndex := 12, attributes := #[] }, { accessFlags := 2, nameIndex := 18, descriptorIndex := 12, attributes := #[] }, { accessFlags := 2, nameIndex := 25, descriptorIndex := 22, attributes := #[] }, { accessFlags := 2, nameIndex := 21, descriptorIndex := 22, attributes := #[] }])
  fields := #[{ name := "firsts", type := (.array .int), accessFlags := 2, slot := 0, constantValue := 0 }, { name := "lasts", type := (.array .int), accessFlags := 2, slot := 1, constantValue := 0 }, { name := "outers", type := (.array .int), accessFlags := 2, slot := 2, constantValue := 0 }, { name := "count", type := .int, accessFlags := 2, slot := 3, constantValue := 0 }, { name := "open", type := .int, accessFlags := 2, slot := 4, constantValue := 0 }]
  methods := #[k2m0, k2m1, k2m2, k2m3, k2m4]
  instanceTypes := #[(.array .int), (.array .int), (.array .int), .int, .int]
  staticTypes := #[]
  resolved := Array.replicate 57 none
  statics := none }

def pool3 : Array CpInfo := pool [(2, .class_ 4), (1, u "java/lang/Object"), (0, u "<init>"), (0, u "()V"), (7, .class_ 16), (1, u "java/util/Arrays"), (57, .class_ 76), (1, u "java/util/Arrays$NaturalOrder"), (36, .class_ 115), (1, u "java/util/Arrays$LegacyMergeSort"), (1, u "Z"), (89, u "binarySearch0"), (1, .methodref 14 210), (0, .nameAndType 207 211), (0, u "([IIII)I"), (163, .class_ 376), (0, u "java/util/Arrays$ArrayList"), (68, u "$assertionsDisabled"), (269, u "MIN_ARRAY_SORT_GRAN"), (0, u "I"), (2, u "INSERTIONSORT_THRESHOLD"), (74, u "binarySearch"), (4, u "([II)I"), (175, .class_ 976), (0, u "java/util/Arrays$ArrayItr")] 52

def k3m0 : Method := { name := "<init>", desc := "()V", sig := { parameters := [], returnType := none }, accessFlags := 2, code := none }
def k3c1 : Code := { maxStack := 4, maxLocals := 2, code := jdk_65_method_57_code, exceptionTable := #[], attributes := #[] }
def k3m1 : Method := { name := "binarySearch", desc := "([II)I", sig := { parameters := [(.array .int), .int], returnType := some .int }, accessFlags := 9, code := some k3c1 }
def k3c2 : Code := { maxStack := 2, maxLocals := 8, code := jdk_65_method_59_code, exceptionTable := #[], attributes := #[] }
def k3m2 : Method := { name := "binarySearch0", desc := "([IIII)I", sig := { parameters := [(.array .int), .int, .int, .int], returnType := some .int }, accessFlags := 10, code := some k3c2 }
/-- java/util/Arrays -/
def k3 : Class := { plain "java/util/Arrays" (some 0) with
  accessFlags := 49
  interfaces := #[]
  cf := some (fileOf pool3 14 #[.nestMembers #[975, 375, 113, 74]] #[{ accessFlags := 2, nameIndex := 5, descriptorIndex := 6, attributes := #[] }, { accessFlags := 9, nameIndex := 794, descriptorIndex := 799, attributes := #[] }, { accessFlags := 10, nameIndex := 207, descriptorIndex := 211, attributes := #[] }] 49 2 #[] #[{ accessFlags := 26, nameIndex := 715, descriptorIndex := 716, attributes := #[] }, { accessFlags := 26, nameIndex := 719, descriptorIndex := 716, attributes := #[] }, { accessFlags := 4120, nameIndex := 445, descriptorIndex := 117, attributes := #[] }])
  fields := #[{ name := "MIN_ARRAY_SORT_GRAN", type := .int, accessFlags := 26, slot := 0, constantValue := 0 }, { name := "INSERTIONSORT_THRESHOLD", type := .int, accessFlags := 26, slot := 1, constantValue := 0 }, { name := "$assertionsDisabled", type := .boolean, accessFlags := 4120, slot := 2, constantValue := 0 }]
  methods := #[k3m0, k3m1, k3m2]
  instanceTypes := #[]
  staticTypes := #[.int, .int, .boolean]
  resolved := Array.replicate 1029 none
  statics := none }

def pool4 : Array CpInfo := pool [(1, u "java/lang/Cloneable"), (0, .class_ 1), (0, u "java/lang/Object"), (0, .class_ 3)] 3

/-- java/lang/Cloneable -/
def k4 : Class := { plain "java/lang/Cloneable" (some 0) with
  accessFlags := 1537
  interfaces := #[]
  cf := some (fileOf pool4 2 #[] #[] 1537 4 #[] #[])
  fields := #[]
  methods := #[]
  instanceTypes := #[]
  staticTypes := #[]
  resolved := Array.replicate 8 none
  statics := none }

def pool5 : Array CpInfo := pool [(1, u "java/io/Serializable"), (0, .class_ 1), (0, u "java/lang/Object"), (0, .class_ 3)] 3

/-- java/io/Serializable -/
def k5 : Class := { plain "java/io/Serializable" (some 0) with
  accessFlags := 1537
  interfaces := #[]
  cf := some (fileOf pool5 2 #[] #[] 1537 4 #[] #[])
  fields := #[]
  methods := #[]
  instanceTypes := #[]
  staticTypes := #[]
  resolved := Array.replicate 8 none
  statics := none }

/-- the primitive byte -/
def k6 : Class := { plain "byte" none with kind := .primitive 'B', accessFlags := 0x411 }
/-- [B -/
def k7 : Class := { plain "[B" (some 0) with kind := .array 6 .byte, interfaces := #[4, 5], accessFlags := 1041 }

/-- the primitive int -/
def k8 : Class := { plain "int" none with kind := .primitive 'I', accessFlags := 0x411 }
/-- [I -/
def k9 : Class := { plain "[I" (some 0) with kind := .array 8 .int, interfaces := #[4, 5], accessFlags := 1041 }

def heap : Heap := #[]
def classes : Array Class := #[k0, k1, k2, k3, k4, k5, k6, k7, k8, k9]
def interned : List (Array UInt16 × Addr) := []
def slotsUsed : Nat := 0
def theMethod : MethodId := ⟨1, 1⟩
def args0 : Array Value := #[.int 5, .int 6, .int 7, .int 3, .int 4]
def aboutOver (below : List Frame) : State where
  vm := { classes := classes, interned := interned.toArray }
  heap := heap
  slotsUsed := slotsUsed
  threads := #[{ frames := .invoking theMethod args0 :: below }]
def below0 : List Frame := [.native { method := ⟨0, 0⟩, args := #[] }]
def about1 : State := aboutOver below0
def p0 : Program := .bare "" "" ""
def e0 : Env := launch0.env 0 0 0
theorem w_frames : about1.frames = Frame.invoking theMethod args0 :: below0 := rfl
set_option maxRecDepth 65536 in
theorem w_args : argsFit about1.vm theMethod args0 = true := by decide +kernel
set_option maxRecDepth 65536 in
theorem w_heap : heapFits about1 = true := by decide +kernel
set_option maxRecDepth 65536 in
theorem w_runnable : about1.curStatus? = some .runnable := by decide +kernel
set_option maxRecDepth 65536 in
theorem w_alone : about1.alone = true := by decide +kernel
set_option maxRecDepth 65536 in
theorem w_named : about1.methodNamed? x = some theMethod := by decide +kernel
set_option maxRecDepth 65536 in
theorem w_hears : about1.hears theMethod below0 = true := by decide +kernel
set_option maxRecDepth 65536 in
theorem w_ripe : about1.ripe theMethod args0 below0 = true := by decide +kernel
theorem w_running : about1.status = .running := rfl
set_option maxRecDepth 65536 in
theorem w_room : about1.hasRoom e0.platform room_1 = true :=
  launch0.hasRoom_least _ room_1 (by decide +kernel) (by decide +kernel) (by decide +kernel) (by decide +kernel) (by decide +kernel) (by decide +kernel)
theorem allAtoms_all (ts : List Jvm.Cond) (a : Array Jvm.Value) (st : Jvm.State) : (allAtoms ts).before a st = ts.all (fun c => c.before a st) := by
  induction ts with
  | nil => rfl
  | cons c t ih =>
    show (Jvm.Cond.and c (allAtoms t)).before a st = _
    rw [Jvm.Cond.before_and, ih, List.all_cons]
def words1 : List Jvm.Cond := Jvm.Cond.code x code maxLocals ret :: tables_1
/-- a 'code' word, met by the world's own term for the bytes: nothing is compared byte by byte -/
theorem code_word {y : MethodName} {bytes : ByteArray} {mx : Nat} {rt : Option FieldType} {a : Array Value} {s : State} {m : MethodId} {meth : Method} {c : Code} (h1 : s.methodNamed? y = some m) (h2 : s.vm.method? m = some meth) (h3 : meth.code = some c) (h4 : c.code = bytes)
    (h5 : (c.maxLocals == mx && c.exceptionTable.isEmpty && decide (c.maxStack ≤ mostOperands) && decide (meth.sig.returnType = rt) && !meth.locks && decide (parseMethodDescriptor y.desc = some meth.sig)) = true) : (Jvm.Cond.code y bytes mx rt).before a s = true := by
  simp only [Bool.and_eq_true, beq_iff_eq, Bool.not_eq_true', decide_eq_true_eq] at h5
  obtain ⟨⟨⟨⟨⟨g1, g2⟩, g3⟩, g4⟩, g5⟩, g6⟩ := h5
  simp [Cond.before, Cond.holds, Cond.value, h1, h2, h3, h4, g1, g2, g3, g4, g5, g6]
def isCode : Jvm.Cond → Bool
  | .code _ _ _ _ => true
  | _ => false
theorem all_split {L : List Jvm.Cond} {P : Jvm.Cond → Bool} (h1 : L.all (fun c => isCode c || P c) = true) (h2 : ∀ c ∈ L.filter isCode, P c = true) : L.all P = true := by
  refine List.all_eq_true.mpr fun c hc => ?_
  have h := List.all_eq_true.mp h1 c hc
  rcases Bool.eq_false_or_eq_true (isCode c) with hi | hi
  · exact h2 c (List.mem_filter.mpr ⟨hc, hi⟩)
  · simpa [hi] using h
set_option maxRecDepth 65536 in
theorem w_c0 : (Jvm.Cond.code x code maxLocals ret).before args0 about1 = true := code_word (m := ⟨1, 1⟩) (meth := k1m1) (c := k1c1) (by decide +kernel) rfl rfl rfl (by decide +kernel)
set_option maxRecDepth 65536 in
theorem w_c1 : (Jvm.Cond.code ({ cls := "com/example/nested_path/nestedpath/pattern/StringPattern$Loops", name := "<init>", desc := "()V" } : Jvm.MethodName) prog_62_method_1_code (1 : Nat) (Option.none : Option Jvm.ClassFile.FieldType)).before args0 about1 = true := code_word (m := ⟨2, 0⟩) (meth := k2m0) (c := k2c0) (by decide +kernel) rfl rfl rfl (by decide +kernel)
set_option maxRecDepth 65536 in
theorem w_c2 : (Jvm.Cond.code ({ cls := "java/lang/Object", name := "<init>", desc := "()V" } : Jvm.MethodName) object_method_1_code (1 : Nat) (Option.none : Option Jvm.ClassFile.FieldType)).before args0 about1 = true := code_word (m := ⟨0, 0⟩) (meth := k0m0) (c := k0c0) (by decide +kernel) rfl rfl rfl (by decide +kernel)
set_option maxRecDepth 65536 in
theorem w_c3 : (Jvm.Cond.code ({ cls := "com/example/nested_path/nestedpath/pattern/StringPattern$Loops", name := "enter", desc := "(I)I" } : Jvm.MethodName) prog_62_method_2_code (2 : Nat) (Option.some Jvm.ClassFile.FieldType.int)).before args0 about1 = true := code_word (m := ⟨2, 1⟩) (meth := k2m1) (c := k2c1) (by decide +kernel) rfl rfl rfl (by decide +kernel)
set_option maxRecDepth 65536 in
theorem w_c4 : (Jvm.Cond.code ({ cls := "com/example/nested_path/nestedpath/pattern/StringPattern$Loops", name := "leave", desc := "(II)V" } : Jvm.MethodName) prog_62_method_3_code (3 : Nat) (Option.none : Option Jvm.ClassFile.FieldType)).before args0 about1 = true := code_word (m := ⟨2, 2⟩) (meth := k2m2) (c := k2c2) (by decide +kernel) rfl rfl rfl (by decide +kernel)
set_option maxRecDepth 65536 in
theorem w_c5 : (Jvm.Cond.code ({ cls := "com/example/nested_path/nestedpath/pattern/StringPattern$Loops", name := "emptyTurns", desc := "(II[I)I" } : Jvm.MethodName) prog_62_method_6_code (6 : Nat) (Option.some Jvm.ClassFile.FieldType.int)).before args0 about1 = true := code_word (m := ⟨2, 3⟩) (meth := k2m3) (c := k2c3) (by decide +kernel) rfl rfl rfl (by decide +kernel)
set_option maxRecDepth 65536 in
theorem w_c6 : (Jvm.Cond.code ({ cls := "com/example/nested_path/nestedpath/pattern/StringPattern$Loops", name := "around", desc := "(I)I" } : Jvm.MethodName) prog_62_method_7_code (3 : Nat) (Option.some Jvm.ClassFile.FieldType.int)).before args0 about1 = true := code_word (m := ⟨2, 4⟩) (meth := k2m4) (c := k2c4) (by decide +kernel) rfl rfl rfl (by decide +kernel)
set_option maxRecDepth 65536 in
theorem w_c7 : (Jvm.Cond.code ({ cls := "java/util/Arrays", name := "binarySearch", desc := "([II)I" } : Jvm.MethodName) jdk_65_method_57_code (2 : Nat) (Option.some Jvm.ClassFile.FieldType.int)).before args0 about1 = true := code_word (m := ⟨3, 1⟩) (meth := k3m1) (c := k3c1) (by decide +kernel) rfl rfl rfl (by decide +kernel)
set_option maxRecDepth 65536 in
theorem w_c8 : (Jvm.Cond.code ({ cls := "java/util/Arrays", name := "binarySearch0", desc := "([IIII)I" } : Jvm.MethodName) jdk_65_method_59_code (8 : Nat) (Option.some Jvm.ClassFile.FieldType.int)).before args0 about1 = true := code_word (m := ⟨3, 2⟩) (meth := k3m2) (c := k3c2) (by decide +kernel) rfl rfl rfl (by decide +kernel)
def codes1 : List Jvm.Cond := [Jvm.Cond.code x code maxLocals ret, Jvm.Cond.code ({ cls := "com/example/nested_path/nestedpath/pattern/StringPattern$Loops", name := "<init>", desc := "()V" } : Jvm.MethodName) prog_62_method_1_code (1 : Nat) (Option.none : Option Jvm.ClassFile.FieldType), Jvm.Cond.code ({ cls := "java/lang/Object", name := "<init>", desc := "()V" } : Jvm.MethodName) object_method_1_code (1 : Nat) (Option.none : Option Jvm.ClassFile.FieldType), Jvm.Cond.code ({ cls := "com/example/nested_path/nestedpath/pattern/StringPattern$Loops", name := "enter", desc := "(I)I" } : Jvm.MethodName) prog_62_method_2_code (2 : Nat) (Option.some Jvm.ClassFile.FieldType.int), Jvm.Cond.code ({ cls := "com/example/nested_path/nestedpath/pattern/StringPattern$Loops", name := "leave", desc := "(II)V" } : Jvm.MethodName) prog_62_method_3_code (3 : Nat) (Option.none : Option Jvm.ClassFile.FieldType), Jvm.Cond.code ({ cls := "com/example/nested_path/nestedpath/pattern/StringPattern$Loops", name := "emptyTurns", desc := "(II[I)I" } : Jvm.MethodName) prog_62_method_6_code (6 : Nat) (Option.some Jvm.ClassFile.FieldType.int), Jvm.Cond.code ({ cls := "com/example/nested_path/nestedpath/pattern/StringPattern$Loops", name := "around", desc := "(I)I" } : Jvm.MethodName) prog_62_method_7_code (3 : Nat) (Option.some Jvm.ClassFile.FieldType.int), Jvm.Cond.code ({ cls := "java/util/Arrays", name := "binarySearch", desc := "([II)I" } : Jvm.MethodName) jdk_65_method_57_code (2 : Nat) (Option.some Jvm.ClassFile.FieldType.int), Jvm.Cond.code ({ cls := "java/util/Arrays", name := "binarySearch0", desc := "([IIII)I" } : Jvm.MethodName) jdk_65_method_59_code (8 : Nat) (Option.some Jvm.ClassFile.FieldType.int)]
set_option maxRecDepth 65536 in
theorem codes_eq : words1.filter isCode = codes1 := rfl
theorem w_codes : ∀ c ∈ words1.filter isCode, c.before args0 about1 = true := by
  rw [codes_eq]
  intro c hc
  simp only [codes1, List.mem_cons, List.not_mem_nil, or_false] at hc
  rcases hc with rfl | rfl | rfl | rfl | rfl | rfl | rfl | rfl | rfl
  · exact w_c0
  · exact w_c1
  · exact w_c2
  · exact w_c3
  · exact w_c4
  · exact w_c5
  · exact w_c6
  · exact w_c7
  · exact w_c8
set_option maxRecDepth 65536 in
theorem w_t1 : (words1.take 24).all (fun c => isCode c || c.before args0 about1) = true := by decide +kernel
set_option maxRecDepth 65536 in
theorem w_t2 : (words1.drop 24).all (fun c => isCode c || c.before args0 about1) = true := by decide +kernel
theorem w_tables : (allAtoms (Jvm.Cond.code x code maxLocals ret :: tables_1)).before args0 about1 = true := by
  rw [allAtoms_all]
  show words1.all (fun c => c.before args0 about1) = true
  refine all_split ?_ w_codes
  rw [← List.take_append_drop 24 words1, List.all_append, w_t1, w_t2]
  rfl
set_option maxRecDepth 65536 in
theorem w_case : (Jvm.Cond.and given_1 narrow_1).before args0 about1 = true := by decide +kernel
theorem w_applies : (headSpec (Jvm.Cond.code x code maxLocals ret :: tables_1) room_1).applies x e0.platform about1 = true :=
  (Spec.applies_iff w_frames).mpr ⟨w_running, w_runnable, w_alone, w_named, w_hears, w_ripe, w_room, w_tables⟩
theorem atStart : AtStart classFile x code maxLocals ret World_1 tables_1 room_1 Calls_1 rest_1 Pre_1 launch0 p0 e0 about1 theMethod args0 below0 :=
  ⟨lists_1, trivial, launch0.admits_env _ _ _, launch0.least_env, fairChoices_fair.cas, fairChoices_fair.clock, w_frames, w_args, w_heap, w_applies, trivial, trivial, w_case⟩
end start1
theorem witness_1 : WitnessClaimed_1 := ⟨start1.p0, start1.e0, start1.about1, start1.theMethod, start1.args0, start1.below0, start1.atStart⟩
end Jvm.Pilot.@@N@@
