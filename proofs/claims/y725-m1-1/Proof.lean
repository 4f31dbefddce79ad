import JvmDerived
import JvmDerived.Pilot.@@N@@Statement
import JvmDerived.Pilot.@@N@@Code
set_option linter.unusedVariables false
set_option linter.unusedSimpArgs false

namespace Jvm.Pilot.@@N@@
open Jvm Jvm.ClassFile Sem Op Lib Jvm.Free Jvm.Stand Jvm.LawKit Jvm.RoadKit Bundle Jvm.Pilot.@@N@@.Jvm.D
/-- the run from U comes to an end of which P holds -/
def own_Go (tb : Tables) (e : Env) (below : List Frame) (P : Outcome → State → Prop) (U : State) : Prop :=
  ∃ s₂ o, Steps tb e below U s₂ ∧ s₂.status = .running ∧ Ended s₂ below o ∧ P o s₂
theorem own_go {tb : Tables} {e : Env} {below : List Frame} {P : Outcome → State → Prop} {U U' : State} (k : ∀ t, Steps tb e below U' t → Steps tb e below U t) (h : own_Go tb e below P U') : own_Go tb e below P U := by
  obtain ⟨t, o, h1, h2⟩ := h
  exact ⟨t, o, k t h1, h2⟩
section Own
variable {p : Program} {l : Launch} {e : Env} {R : Room} {s : State} {m : MethodId} {args : Array Value} {below : List Frame} {meth : Method} {c : Code} {T : State} {locs : List Loc} {cells slots : Nat}
theorem own_retI (X : Stand p l e R s m args below meth c T locs cells slots) (hx : p.tables.exec = Jvm.exec) {pc : Nat} {Ls : Array Slot} {z : Int32} {rest : List Value} (hret : meth.sig.returnType = some .int) (hd : decode c.code pc = .ok (.ireturn, 1)) {fs : List Frame}
    (hl : ∀ (f : JFrame) (acts : List Action), f.method = m → f.locked = none → f.entered = [] → (doReturn e (T.setTop f) acts (some (.int z))).1 = T.setFrames fs) : Steps p.tables e below (T.setTop (mkF m pc Ls (.int z :: rest))) (T.setFrames fs) := by
  have hm' : T.vm.method? m = some meth := X.method'
  have hn : narrow .int (.int z) = .int z := rfl
  show Steps p.tables e below (T.setTop { method := m, pc := pc, locals := Ls, stack := _ :: rest, locked := none }) _
  jvm_step X.here [X.here.top, hx, hd, hm', hret, hn]
  first | (intro acts; rw [hl _ acts rfl rfl rfl]) | rw [hl _ _ rfl rfl rfl]
  exact Steps.refl _
theorem own_retJ (X : Stand p l e R s m args below meth c T locs cells slots) (hx : p.tables.exec = Jvm.exec) {pc : Nat} {Ls : Array Slot} {z : Int64} {rest : List Value} (hret : meth.sig.returnType = some .long) (hd : decode c.code pc = .ok (.lreturn, 1)) {fs : List Frame}
    (hl : ∀ (f : JFrame) (acts : List Action), f.method = m → f.locked = none → f.entered = [] → (doReturn e (T.setTop f) acts (some (.long z))).1 = T.setFrames fs) : Steps p.tables e below (T.setTop (mkF m pc Ls (.long z :: rest))) (T.setFrames fs) := by
  have hm' : T.vm.method? m = some meth := X.method'
  show Steps p.tables e below (T.setTop { method := m, pc := pc, locals := Ls, stack := _ :: rest, locked := none }) _
  jvm_step X.here [X.here.top, hx, hd, hm', hret, narrow]
  first | (intro acts; rw [hl _ acts rfl rfl rfl]) | rw [hl _ _ rfl rfl rfl]
  exact Steps.refl _
theorem own_mapI (xs : List Int32) (i : Nat) : (xs.map Value.int).getD i (.int 0) = .int (xs.getD i 0) := by
  simp only [List.getD_eq_getElem?_getD, List.getElem?_map]; cases xs[i]? <;> rfl
theorem own_mapJ (xs : List Int64) (i : Nat) : (xs.map Value.long).getD i (.long 0) = .long (xs.getD i 0) := by
  simp only [List.getD_eq_getElem?_getD, List.getElem?_map]; cases xs[i]? <;> rfl
theorem own_kx {h h' : Heap} (K : Keep h h' []) : Ext h h' := ⟨K.1, fun a c q => K.2.1 a c q (by simp)⟩
theorem own_retA (X : Stand p l e R s m args below meth c T locs cells slots) (hx : p.tables.exec = Jvm.exec) {pc : Nat} {Ls : Array Slot} {z : Addr} {rest : List Value} {C : String} (hret : meth.sig.returnType = some (.object C)) (hd : decode c.code pc = .ok (.areturn, 1)) {fs : List Frame}
    (hl : ∀ (f : JFrame) (acts : List Action), f.method = m → f.locked = none → f.entered = [] → (doReturn e (T.setTop f) acts (some (.ref z))).1 = T.setFrames fs) : Steps p.tables e below (T.setTop (mkF m pc Ls (.ref z :: rest))) (T.setFrames fs) := by
  have hm' : T.vm.method? m = some meth := X.method'
  show Steps p.tables e below (T.setTop { method := m, pc := pc, locals := Ls, stack := _ :: rest, locked := none }) _
  jvm_step X.here [X.here.top, hx, hd, hm', hret, Value.isRef, FieldType.isReference]
  first | (intro acts; rw [hl _ acts rfl rfl rfl]) | rw [hl _ _ rfl rfl rfl]
  exact Steps.refl _
theorem own_endH {Q : Option Value → Heap → List Loc → Prop} {kc ks n : Nat} {vm₁ : Vm} {Z : State} {EL : List (String × Nat)} (X : Stand p l e R (s.setVm vm₁) m args below meth c T locs cells slots) (hC : CHr Z EL s.vm s.heap T.vm T.heap) (hS : s.Since vm₁ n) (hn : n ≤ T.heap.size) (hlocks : meth.locks = false) {g : JFrame} {v : Option Value}
    (hv : meth.sig.returnType = none → v = none)
    (hs : ∀ fs, (∀ (f : JFrame) (acts : List Action), f.method = m → f.locked = none → f.entered = [] → (doReturn e (T.setTop f) acts v).1 = T.setFrames fs) → Steps p.tables e below (T.setTop g) (T.setFrames fs))
    (hQ : Q v T.heap locs) (h1 : cells ≤ kc) (h2 : slots ≤ ks) :
    own_Go p.tables e below (fun o U' => ∃ v L, o = .returned v ∧ Q v U'.heap L ∧ CHr Z EL s.vm s.heap U'.vm U'.heap ∧ ReturnedEndW s o U' L kc ks) (T.setTop g) := by
  obtain ⟨fs, hr, hrun, hended, h3, h4, h5, h6⟩ := X.leaveW hS hn (v := v) hv hlocks
  exact ⟨_, _, hs fs hr, hrun, hended, _, _, rfl, hQ, hC, h3, h4, h5, h6.mono h1 h2⟩
theorem own_endW {Q : Option Value → Heap → List Loc → Prop} {kc ks n : Nat} {vm₁ : Vm} (X : Stand p l e R (s.setVm vm₁) m args below meth c T locs cells slots) (hS : s.Since vm₁ n) (hn : n ≤ T.heap.size) (hlocks : meth.locks = false) {g : JFrame} {v : Option Value}
    (hv : meth.sig.returnType = none → v = none)
    (hs : ∀ fs, (∀ (f : JFrame) (acts : List Action), f.method = m → f.locked = none → f.entered = [] → (doReturn e (T.setTop f) acts v).1 = T.setFrames fs) → Steps p.tables e below (T.setTop g) (T.setFrames fs))
    (hQ : Q v T.heap locs) (h1 : cells ≤ kc) (h2 : slots ≤ ks) :
    own_Go p.tables e below (fun o U' => ∃ v L, o = .returned v ∧ Q v U'.heap L ∧ ReturnedEndW s o U' L kc ks) (T.setTop g) := by
  obtain ⟨fs, hr, hrun, hended, h3, h4, h5, h6⟩ := X.leaveW hS hn (v := v) hv hlocks
  exact ⟨_, _, hs fs hr, hrun, hended, _, _, rfl, hQ, h3, h4, h5, h6.mono h1 h2⟩
theorem own_end {Q : Option Value → Heap → List Loc → Prop} {kc ks : Nat} (X : Stand p l e R s m args below meth c T locs cells slots) (hlocks : meth.locks = false) {g : JFrame} {v : Option Value}
    (hv : meth.sig.returnType = none → v = none)
    (hs : ∀ fs, (∀ (f : JFrame) (acts : List Action), f.method = m → f.locked = none → f.entered = [] → (doReturn e (T.setTop f) acts v).1 = T.setFrames fs) → Steps p.tables e below (T.setTop g) (T.setFrames fs))
    (hQ : Q v T.heap locs) (h1 : cells ≤ kc) (h2 : slots ≤ ks) :
    own_Go p.tables e below (fun o U' => ∃ v L, o = .returned v ∧ Q v U'.heap L ∧ FrameEnd s o U' L kc ks) (T.setTop g) := by
  obtain ⟨fs, hr, hrun, hended, hW, hsame⟩ := X.leave (v := v) hv hlocks
  exact ⟨_, _, hs fs hr, hrun, hended, _, _, rfl, hQ, ⟨_, rfl⟩, hW, hsame.mono h1 h2⟩
end Own
theorem own_wS {Z : State} {a0 : Array Value} (hw : ∀ d ∈ tables_1, d.before a0 Z = true) : ∀ a ∈ Bundle.stringAtoms, a.before a0 Z = true := fun c hc =>
  hw c (by simpa using (List.all_eq_true.mp (by decide +kernel : (Bundle.stringAtoms.all fun c => tables_1.contains c) = true)) c hc)

theorem d1_0 : decode jdk_30_method_1_code 0 = .ok (.aload_n 0, 1) := by decide +kernel
theorem d1_1 : decode jdk_30_method_1_code 1 = .ok (.invokespecial 1, 3) := by decide +kernel
theorem d1_4 : decode jdk_30_method_1_code 4 = .ok (.return_, 1) := by decide +kernel
theorem pn1 : plainName "java/lang/Record" = true := by first | (simp [plainName, overriddenIn]; done) | decide +kernel
theorem ef1 (m : MethodId) (a0 : Addr) : entryFrame m #[(.ref a0)] 1 = mkF m 0 #[.val (.ref a0)] [] := by first | (simp [entryFrame, mkF, argsToLocals, Value.category]; done) | rfl
def own_Q1 (Z : State) (a0 : Addr) (h0 : Heap) (n0 : Nat) (v : Option Value) (h : Heap) (L : List Loc) : Prop := v = none ∧ Fr n0 L ∧ h = h0
set_option maxRecDepth 65536 in
set_option maxHeartbeats 40000000 in
theorem rm1 (l : Launch) (Z : State) (az : Array Value) (hw : ∀ d ∈ tables_1, d.before az Z = true) (ws : List Jvm.Cond) (a0 : Addr) (h0 : Heap) (n0 : Nat) (Z0 : n0 ≤ h0.size) :
    MetFree l (⟨"java/lang/Record", "<init>", "()V"⟩ : MethodName) (head1 (Jvm.Cond.code (⟨"java/lang/Record", "<init>", "()V"⟩ : MethodName) jdk_30_method_1_code 1 none :: ws) ({ frames := 1, cells := 0, slots := 0, locals := 12 } : Room)) (fun a U => a = #[(.ref a0)] ∧ Z.Warmed39 U.vm ∧ U.heap = h0) (fun _ _ _ _ _ => True) (fun _ U o U' => ∃ v L, o = .returned v ∧ own_Q1 Z a0 h0 n0 v U'.heap L ∧ FrameEnd U o U' L ({ frames := 1, cells := 0, slots := 0, locals := 12 } : Room).cells ({ frames := 1, cells := 0, slots := 0, locals := 12 } : Room).slots) := by
  refine MetFree.of_bodySF (plainFor_of_name pn1) hisR ?_
  intro p e s m args below meth c s₁ Bd hml0 hP hK
  obtain ⟨rfl, hZ, hh⟩ := hP
  have hx := Bd.exec
  have hby := Bd.bytes
  have hml : c.maxLocals = 1 := hml0
  have hown : s.vm.findClass "java/lang/Record" = some m.cls := findClass_of_methodNamed Bd.named
  have hnm := (name_of_methodNamed Bd.named Bd.method).1
  have X0 : Stand p l e ({ frames := 1, cells := 0, slots := 0, locals := 12 } : Room) s m #[(.ref a0)] below meth c s₁ [] 0 0 := Stand.of_body Bd
  have e0 : s₁.heap = h0 := by rw [← hh, Bd.state]; rfl
  have N0 := Fr.nil n0
  show own_Go p.tables e below (fun o U' => ∃ v L, o = .returned v ∧ own_Q1 Z a0 h0 n0 v U'.heap L ∧ FrameEnd s o U' L ({ frames := 1, cells := 0, slots := 0, locals := 12 } : Room).cells ({ frames := 1, cells := 0, slots := 0, locals := 12 } : Room).slots) (s₁.setTop (entryFrame m #[(.ref a0)] 1))
  refine own_go (fun _ k => castTop (ef1 m a0) k) ?_
  show own_Go p.tables e below _ (s₁.setTop (mkF m 0 #[.val (.ref a0)] []))
  refine own_go (fun _ k => XS.aloadN X0.here hx rfl (hb hby d1_0) rfl rfl k) ?_
  show own_Go p.tables e below _ (s₁.setTop (mkF m 1 #[.val (.ref a0)] [(.ref a0)]))
  obtain ⟨T1, X1, e1, st1⟩ := initO X0 hx hZ hown (hw _ (List.mem_of_getElem? (i := 27) rfl)) (hw _ (List.mem_of_getElem? (i := 28) rfl)) (hw _ (List.mem_of_getElem? (i := 29) rfl)) e0 (g := (mkF m 1 #[.val (.ref a0)] [(.ref a0)])) rfl (by rw [hml]; rfl) rfl (hb hby d1_1) (by decide) (W := 0) (by show 2 * 0 + _ ≤ _; exact Nat.le_of_eq rfl) (by decide)
  refine own_go st1 ?_
  show own_Go p.tables e below _ (T1.setTop (mkF m 4 #[.val (.ref a0)] []))
  refine own_end X1 Bd.notSynchronized (v := none) (fun _ => rfl) (fun fs hr => X1.returnOut hx Bd.returns (hb hby d1_4) hr) ?_ (by decide) (by decide)
  exact ⟨rfl, N0, e1⟩
theorem d2_0 : decode jdk_31_method_11_code 0 = .ok (.aload_n 0, 1) := by decide +kernel
theorem d2_1 : decode jdk_31_method_11_code 1 = .ok (.ifnonnull 12, 3) := by decide +kernel
theorem d2_13 : decode jdk_31_method_11_code 13 = .ok (.aload_n 0, 1) := by decide +kernel
theorem d2_14 : decode jdk_31_method_11_code 14 = .ok (.areturn, 1) := by decide +kernel
theorem pn2 : plainName "java/util/Objects" = true := by first | (simp [plainName, overriddenIn]; done) | decide +kernel
theorem ef2 (m : MethodId) (a0 : Addr) (a1 : Addr) : entryFrame m #[(.ref a0), (.ref a1)] 2 = mkF m 0 #[.val (.ref a0), .val (.ref a1)] [] := by first | (simp [entryFrame, mkF, argsToLocals, Value.category]; done) | rfl
def own_Q2 (Z : State) (a0 : Addr) (a1 : Addr) (h0 : Heap) (n0 : Nat) (v : Option Value) (h : Heap) (L : List Loc) : Prop := v = some (.ref a0) ∧ Fr n0 L ∧ h = h0
set_option maxRecDepth 65536 in
set_option maxHeartbeats 40000000 in
theorem rm2 (l : Launch) (Z : State) (az : Array Value) (hw : ∀ d ∈ tables_1, d.before az Z = true) (ws : List Jvm.Cond) (a0 : Addr) (a1 : Addr) (h0 : Heap) (n0 : Nat) (Z0 : n0 ≤ h0.size) :
    MetFree l (⟨"java/util/Objects", "requireNonNull", "(Ljava/lang/Object;Ljava/lang/String;)Ljava/lang/Object;"⟩ : MethodName) (head1 (Jvm.Cond.code (⟨"java/util/Objects", "requireNonNull", "(Ljava/lang/Object;Ljava/lang/String;)Ljava/lang/Object;"⟩ : MethodName) jdk_31_method_11_code 2 (some (.object "java/lang/Object")) :: ws) ({ frames := 0, cells := 0, slots := 0, locals := 0 } : Room)) (fun a U => a = #[(.ref a0), (.ref a1)] ∧ Z.Warmed39 U.vm ∧ U.heap = h0) (fun _ _ _ _ _ => True) (fun _ U o U' => ∃ v L, o = .returned v ∧ own_Q2 Z a0 a1 h0 n0 v U'.heap L ∧ FrameEnd U o U' L ({ frames := 0, cells := 0, slots := 0, locals := 0 } : Room).cells ({ frames := 0, cells := 0, slots := 0, locals := 0 } : Room).slots) := by
  refine MetFree.of_bodySF (plainFor_of_name pn2) hisR ?_
  intro p e s m args below meth c s₁ Bd hml0 hP hK
  obtain ⟨rfl, hZ, hh⟩ := hP
  have hx := Bd.exec
  have hby := Bd.bytes
  have hml : c.maxLocals = 2 := hml0
  have hown : s.vm.findClass "java/util/Objects" = some m.cls := findClass_of_methodNamed Bd.named
  have hnm := (name_of_methodNamed Bd.named Bd.method).1
  have X0 : Stand p l e ({ frames := 0, cells := 0, slots := 0, locals := 0 } : Room) s m #[(.ref a0), (.ref a1)] below meth c s₁ [] 0 0 := Stand.of_body Bd
  have e0 : s₁.heap = h0 := by rw [← hh, Bd.state]; rfl
  have N0 := Fr.nil n0
  show own_Go p.tables e below (fun o U' => ∃ v L, o = .returned v ∧ own_Q2 Z a0 a1 h0 n0 v U'.heap L ∧ FrameEnd s o U' L ({ frames := 0, cells := 0, slots := 0, locals := 0 } : Room).cells ({ frames := 0, cells := 0, slots := 0, locals := 0 } : Room).slots) (s₁.setTop (entryFrame m #[(.ref a0), (.ref a1)] 2))
  refine own_go (fun _ k => castTop (ef2 m a0 a1) k) ?_
  show own_Go p.tables e below _ (s₁.setTop (mkF m 0 #[.val (.ref a0), .val (.ref a1)] []))
  refine own_go (fun _ k => XS.aloadN X0.here hx rfl (hb hby d2_0) rfl rfl k) ?_
  show own_Go p.tables e below _ (s₁.setTop (mkF m 1 #[.val (.ref a0), .val (.ref a1)] [(.ref a0)]))
  refine own_go (fun _ k => XS.ifnonnullYes X0.here hx rfl (pc0 := 1) (pc' := 13) rfl (hb hby d2_1) rfl (by decide) (by decide) k) ?_
  show own_Go p.tables e below _ (s₁.setTop (mkF m 13 #[.val (.ref a0), .val (.ref a1)] []))
  refine own_go (fun _ k => XS.aloadN X0.here hx rfl (hb hby d2_13) rfl rfl k) ?_
  show own_Go p.tables e below _ (s₁.setTop (mkF m 14 #[.val (.ref a0), .val (.ref a1)] [(.ref a0)]))
  refine own_end X0 Bd.notSynchronized (v := some (.ref a0)) (fun h => by rw [Bd.returns] at h; cases h) (fun fs hr => own_retA X0 hx Bd.returns (hb hby d2_14) hr) ?_ (by decide) (by decide)
  exact ⟨rfl, N0, e0⟩
theorem d3_0 : decode prog_5_method_1_code 0 = .ok (.aload_n 0, 1) := by decide +kernel
theorem d3_1 : decode prog_5_method_1_code 1 = .ok (.invokespecial 1, 3) := by decide +kernel
theorem d3_4 : decode prog_5_method_1_code 4 = .ok (.aload_n 1, 1) := by decide +kernel
theorem d3_5 : decode prog_5_method_1_code 5 = .ok (.ldc 7, 2) := by decide +kernel
theorem d3_7 : decode prog_5_method_1_code 7 = .ok (.invokestatic 9, 3) := by decide +kernel
theorem d3_10 : decode prog_5_method_1_code 10 = .ok (.pop, 1) := by decide +kernel
theorem d3_11 : decode prog_5_method_1_code 11 = .ok (.iload_n 2, 1) := by decide +kernel
theorem d3_12 : decode prog_5_method_1_code 12 = .ok (.ifCond .lt 37, 3) := by decide +kernel
theorem d3_15 : decode prog_5_method_1_code 15 = .ok (.iload_n 3, 1) := by decide +kernel
theorem d3_16 : decode prog_5_method_1_code 16 = .ok (.ifCond .lt 33, 3) := by decide +kernel
theorem d3_19 : decode prog_5_method_1_code 19 = .ok (.iload 4, 2) := by decide +kernel
theorem d3_21 : decode prog_5_method_1_code 21 = .ok (.iconst 1, 1) := by decide +kernel
theorem d3_22 : decode prog_5_method_1_code 22 = .ok (.if_icmp .lt 27, 3) := by decide +kernel
theorem d3_25 : decode prog_5_method_1_code 25 = .ok (.iload 5, 2) := by decide +kernel
theorem d3_27 : decode prog_5_method_1_code 27 = .ok (.iconst 1, 1) := by decide +kernel
theorem d3_28 : decode prog_5_method_1_code 28 = .ok (.if_icmp .lt 21, 3) := by decide +kernel
theorem d3_31 : decode prog_5_method_1_code 31 = .ok (.iload 4, 2) := by decide +kernel
theorem d3_33 : decode prog_5_method_1_code 33 = .ok (.ldc 17, 2) := by decide +kernel
theorem d3_35 : decode prog_5_method_1_code 35 = .ok (.iload_n 2, 1) := by decide +kernel
theorem d3_36 : decode prog_5_method_1_code 36 = .ok (.isub, 1) := by decide +kernel
theorem d3_37 : decode prog_5_method_1_code 37 = .ok (.if_icmp .gt 12, 3) := by decide +kernel
theorem d3_40 : decode prog_5_method_1_code 40 = .ok (.iload 5, 2) := by decide +kernel
theorem d3_42 : decode prog_5_method_1_code 42 = .ok (.ldc 17, 2) := by decide +kernel
theorem d3_44 : decode prog_5_method_1_code 44 = .ok (.iload_n 3, 1) := by decide +kernel
theorem d3_45 : decode prog_5_method_1_code 45 = .ok (.isub, 1) := by decide +kernel
theorem d3_46 : decode prog_5_method_1_code 46 = .ok (.if_icmp .le 23, 3) := by decide +kernel
theorem d3_69 : decode prog_5_method_1_code 69 = .ok (.aload_n 0, 1) := by decide +kernel
theorem d3_70 : decode prog_5_method_1_code 70 = .ok (.aload_n 1, 1) := by decide +kernel
theorem d3_71 : decode prog_5_method_1_code 71 = .ok (.putfield 27, 3) := by decide +kernel
theorem d3_74 : decode prog_5_method_1_code 74 = .ok (.aload_n 0, 1) := by decide +kernel
theorem d3_75 : decode prog_5_method_1_code 75 = .ok (.iload_n 2, 1) := by decide +kernel
theorem d3_76 : decode prog_5_method_1_code 76 = .ok (.putfield 33, 3) := by decide +kernel
theorem d3_79 : decode prog_5_method_1_code 79 = .ok (.aload_n 0, 1) := by decide +kernel
theorem d3_80 : decode prog_5_method_1_code 80 = .ok (.iload_n 3, 1) := by decide +kernel
theorem d3_81 : decode prog_5_method_1_code 81 = .ok (.putfield 37, 3) := by decide +kernel
theorem d3_84 : decode prog_5_method_1_code 84 = .ok (.aload_n 0, 1) := by decide +kernel
theorem d3_85 : decode prog_5_method_1_code 85 = .ok (.iload 4, 2) := by decide +kernel
theorem d3_87 : decode prog_5_method_1_code 87 = .ok (.putfield 40, 3) := by decide +kernel
theorem d3_90 : decode prog_5_method_1_code 90 = .ok (.aload_n 0, 1) := by decide +kernel
theorem d3_91 : decode prog_5_method_1_code 91 = .ok (.iload 5, 2) := by decide +kernel
theorem d3_93 : decode prog_5_method_1_code 93 = .ok (.putfield 43, 3) := by decide +kernel
theorem d3_96 : decode prog_5_method_1_code 96 = .ok (.return_, 1) := by decide +kernel
theorem pn3 : plainName "com/example/dialplane/dialplane/engine/Area" = true := by first | (simp [plainName, overriddenIn]; done) | decide +kernel
theorem pd3_0 : parseMethodDescriptor "()V" = some ⟨[], none⟩ := by decide +kernel
theorem pd3_1 : parseMethodDescriptor "(Ljava/lang/Object;Ljava/lang/String;)Ljava/lang/Object;" = some ⟨[(.object "java/lang/Object"), (.object "java/lang/String")], some (.object "java/lang/Object")⟩ := by decide +kernel
theorem ef3 (m : MethodId) (a0 : Addr) (a1 : Addr) (p2 : Int32) (p3 : Int32) (p4 : Int32) (p5 : Int32) : entryFrame m #[(.ref a0), (.ref a1), (.int p2), (.int p3), (.int p4), (.int p5)] 6 = mkF m 0 #[.val (.ref a0), .val (.ref a1), .val (.int p2), .val (.int p3), .val (.int p4), .val (.int p5)] [] := by first | (simp [entryFrame, mkF, argsToLocals, Value.category]; done) | rfl
def own_Q3 (Z : State) (a0 : Addr) (a1 : Addr) (p2 : Int32) (p3 : Int32) (p4 : Int32) (p5 : Int32) (h0 : Heap) (n0 : Nat) (v : Option Value) (h : Heap) (L : List Loc) : Prop := v = none ∧ Fr n0 L ∧ Keep h0 h [a0] ∧ Exa Z h a0 "com/example/dialplane/dialplane/engine/Area" ∧ Fld Z h a0 "com/example/dialplane/dialplane/engine/Area" "id" "Ljava/lang/String;" (.ref a1) ∧ Fld Z h a0 "com/example/dialplane/dialplane/engine/Area" "x" "I" (.int p2) ∧ Fld Z h a0 "com/example/dialplane/dialplane/engine/Area" "y" "I" (.int p3) ∧ Fld Z h a0 "com/example/dialplane/dialplane/engine/Area" "width" "I" (.int p4) ∧ Fld Z h a0 "com/example/dialplane/dialplane/engine/Area" "height" "I" (.int p5)
set_option maxRecDepth 65536 in
set_option maxHeartbeats 40000000 in
theorem rm3 (l : Launch) (Z : State) (az : Array Value) (hw : ∀ d ∈ tables_1, d.before az Z = true) (ws : List Jvm.Cond) (a0 : Addr) (a1 : Addr) (p2 : Int32) (p3 : Int32) (p4 : Int32) (p5 : Int32) (h0 : Heap) (n0 : Nat) (Z0 : n0 ≤ h0.size) (F_a0_id : Fld Z h0 a0 "com/example/dialplane/dialplane/engine/Area" "id" "Ljava/lang/String;" .null) (F_a0_x : Fld Z h0 a0 "com/example/dialplane/dialplane/engine/Area" "x" "I" (.int (0 : Int32))) (F_a0_y : Fld Z h0 a0 "com/example/dialplane/dialplane/engine/Area" "y" "I" (.int (0 : Int32))) (F_a0_width : Fld Z h0 a0 "com/example/dialplane/dialplane/engine/Area" "width" "I" (.int (0 : Int32))) (F_a0_height : Fld Z h0 a0 "com/example/dialplane/dialplane/engine/Area" "height" "I" (.int (0 : Int32))) (E_a0 : Exa Z h0 a0 "com/example/dialplane/dialplane/engine/Area") (g_a0 : n0 ≤ a0) (hg1 : ¬ (p2 < (0 : Int32))) (hg2 : ¬ (p3 < (0 : Int32))) (hg3 : ¬ (p4 < (1 : Int32))) (hg4 : ¬ (p5 < (1 : Int32))) (hg5 : ¬ (((2147483647 : Int32) - p2) < p4)) (hg6 : ¬ (((2147483647 : Int32) - p3) < p5)) :
    MetFree l (⟨"com/example/dialplane/dialplane/engine/Area", "<init>", "(Ljava/lang/String;IIII)V"⟩ : MethodName) (head1 (Jvm.Cond.code (⟨"com/example/dialplane/dialplane/engine/Area", "<init>", "(Ljava/lang/String;IIII)V"⟩ : MethodName) prog_5_method_1_code 6 none :: ws) ({ frames := 2, cells := 2, slots := 44, locals := 24 } : Room)) (fun a U => a = #[(.ref a0), (.ref a1), (.int p2), (.int p3), (.int p4), (.int p5)] ∧ Z.Warmed39 U.vm ∧ U.heap = h0) (fun _ _ _ _ _ => True) (fun _ U o U' => ∃ v L, o = .returned v ∧ own_Q3 Z a0 a1 p2 p3 p4 p5 h0 n0 v U'.heap L ∧ ReturnedEndW U o U' L ({ frames := 2, cells := 2, slots := 44, locals := 24 } : Room).cells ({ frames := 2, cells := 2, slots := 44, locals := 24 } : Room).slots) := by
  refine MetFree.of_bodySF (plainFor_of_name pn3) hisR ?_
  intro p e s m args below meth c s₁ Bd hml0 hP hK
  obtain ⟨rfl, hZ, hh⟩ := hP
  have hx := Bd.exec
  have hby := Bd.bytes
  have hml : c.maxLocals = 6 := hml0
  have hZ : Z.Warmed39 (s.setVm s.vm).vm := hZ
  have hown : (s.setVm s.vm).vm.findClass "com/example/dialplane/dialplane/engine/Area" = some m.cls := findClass_of_methodNamed Bd.named
  have hnm := (name_of_methodNamed Bd.named Bd.method).1
  have X0 : Stand p l e ({ frames := 2, cells := 2, slots := 44, locals := 24 } : Room) (s.setVm s.vm) m #[(.ref a0), (.ref a1), (.int p2), (.int p3), (.int p4), (.int p5)] below meth c s₁ [] 0 0 := by rw [State.setVm_self]; exact Stand.of_body Bd
  have e0 : s₁.heap = h0 := by rw [← hh, Bd.state]; rfl
  have N0 := Fr.nil n0
  have hS : s.Since s.vm h0.size := (State.WarmedH.refl s).since _
  have hk : h0.size ≤ h0.size := Nat.le_refl _
  show own_Go p.tables e below (fun o U' => ∃ v L, o = .returned v ∧ own_Q3 Z a0 a1 p2 p3 p4 p5 h0 n0 v U'.heap L ∧ ReturnedEndW s o U' L ({ frames := 2, cells := 2, slots := 44, locals := 24 } : Room).cells ({ frames := 2, cells := 2, slots := 44, locals := 24 } : Room).slots) (s₁.setTop (entryFrame m #[(.ref a0), (.ref a1), (.int p2), (.int p3), (.int p4), (.int p5)] 6))
  refine own_go (fun _ k => castTop (ef3 m a0 a1 p2 p3 p4 p5) k) ?_
  show own_Go p.tables e below _ (s₁.setTop (mkF m 0 #[.val (.ref a0), .val (.ref a1), .val (.int p2), .val (.int p3), .val (.int p4), .val (.int p5)] []))
  refine own_go (fun _ k => XS.aloadN X0.here hx rfl (hb hby d3_0) rfl rfl k) ?_
  show own_Go p.tables e below _ (s₁.setTop (mkF m 1 #[.val (.ref a0), .val (.ref a1), .val (.int p2), .val (.int p3), .val (.int p4), .val (.int p5)] [(.ref a0)]))
  obtain ⟨_, _, ⟨T1, L1, k1, n1⟩, -, X1, ⟨Lc1, hQ1, l1, y1, z1⟩, st1⟩ := X0.specialBack hx (y := (⟨"java/lang/Record", "<init>", "()V"⟩ : MethodName)) rfl hown (mvT hZ (hw _ (List.mem_of_getElem? (i := 22) rfl))) (mvT hZ (hw _ (List.mem_of_getElem? (i := 23) rfl))) (mvT hZ (hw _ (List.mem_of_getElem? (i := 26) rfl))) (by decide) (backOf (W := 0) (rm1 l Z az hw [] a0 h0 n0 Z0) hZ (hw _ (List.mem_of_getElem? (i := 26) rfl)) (hw _ (List.mem_of_getElem? (i := 25) rfl)) (by decide) (by decide)) (g := (mkF m 1 #[.val (.ref a0), .val (.ref a1), .val (.int p2), .val (.int p3), .val (.int p4), .val (.int p5)] [(.ref a0)])) rfl (by rw [hml]; rfl) (Steps.refl _) (a := a0) (argsL := []) (rest := []) (lenOf pd3_0 rfl) rfl (by show 2 * 0 + _ ≤ _; exact Nat.le_of_eq rfl) (hb hby d3_1) (fun _ _ => ⟨rfl, e0, (by decide : 0 + 0 ≤ _), (by decide : 0 + 0 ≤ _)⟩)
  dsimp only [Pt.U, Pt.locs, Pt.cells, Pt.slots] at X1 l1 y1 z1 st1 hQ1
  subst l1 y1 z1
  refine own_go (fun _ k => st1.trans k) ?_
  obtain ⟨rfl, N1q, e1⟩ := hQ1
  have N1 := Fr.app N0 N1q
  show own_Go p.tables e below _ (T1.setTop (mkF m 4 #[.val (.ref a0), .val (.ref a1), .val (.int p2), .val (.int p3), .val (.int p4), .val (.int p5)] []))
  refine own_go (fun _ k => XS.aloadN X1.here hx rfl (hb hby d3_4) rfl rfl k) ?_
  show own_Go p.tables e below _ (T1.setTop (mkF m 5 #[.val (.ref a0), .val (.ref a1), .val (.int p2), .val (.int p3), .val (.int p4), .val (.int p5)] [(.ref a1)]))
  obtain ⟨a2, T2, h2, k2, X2, e2, E2, hS, hk, hZ, hown, st2⟩ := ldcS X1 hx hZ hown (hw _ (List.mem_of_getElem? (i := 30) rfl)) (own_wS hw) (e1 : T1.heap = h0) hS hk (g := (mkF m 5 #[.val (.ref a0), .val (.ref a1), .val (.int p2), .val (.int p3), .val (.int p4), .val (.int p5)] [(.ref a1)])) rfl (hb hby d3_5) (n := 40) (by decide +kernel) (by decide) (by decide) (by decide)
  have c2_0 := F_a0_id.ext E2
  have c2_1 := F_a0_x.ext E2
  have c2_2 := F_a0_y.ext E2
  have c2_3 := F_a0_width.ext E2
  have c2_4 := F_a0_height.ext E2
  have c2_5 := E_a0.ext E2
  have Z2 : n0 ≤ h2.size := Nat.le_trans Z0 E2.1
  have K2 : Keep h0 h2 [a0] := (Keep.refl _ _).ext E2
  refine own_go st2 ?_
  show own_Go p.tables e below _ (T2.setTop (mkF m 7 #[.val (.ref a0), .val (.ref a1), .val (.int p2), .val (.int p3), .val (.int p4), .val (.int p5)] [(.ref a2), (.ref a1)]))
  obtain ⟨_, _, ⟨T3, L3, k3, n3⟩, -, X3, ⟨Lc3, hQ3, l3, y3, z3⟩, st3⟩ := Jvm.LawKit.callS X2 hx (y := (⟨"java/util/Objects", "requireNonNull", "(Ljava/lang/Object;Ljava/lang/String;)Ljava/lang/Object;"⟩ : MethodName)) hown (mvT hZ (hw _ (List.mem_of_getElem? (i := 31) rfl))) (mvT hZ (hw _ (List.mem_of_getElem? (i := 32) rfl))) (mvT hZ (hw _ (List.mem_of_getElem? (i := 33) rfl))) (mvT hZ (hw _ (List.mem_of_getElem? (i := 34) rfl))) (by decide) (backOf (W := 0) (rm2 l Z az hw [] a1 a2 h2 n0 Z2) hZ (hw _ (List.mem_of_getElem? (i := 34) rfl)) (hw _ (List.mem_of_getElem? (i := 33) rfl)) (by decide) (by decide)) (g := (mkF m 7 #[.val (.ref a0), .val (.ref a1), .val (.int p2), .val (.int p3), .val (.int p4), .val (.int p5)] [(.ref a2), (.ref a1)])) rfl (by rw [hml]; rfl) (argsL := [(.ref a1), (.ref a2)]) (rest := []) (lenOf pd3_1 rfl) rfl (by show 2 * 0 + _ ≤ _; exact Nat.le_of_eq rfl) (hb hby d3_7) (fun _ _ => ⟨rfl, e2, (by decide : 2 + 0 ≤ _), (by decide : 44 + 0 ≤ _)⟩)
  dsimp only [Pt.U, Pt.locs, Pt.cells, Pt.slots] at X3 l3 y3 z3 st3 hQ3
  subst l3 y3 z3
  refine own_go st3 ?_
  obtain ⟨rfl, N3q, e3⟩ := hQ3
  have N3 := Fr.app N1 N3q
  show own_Go p.tables e below _ (T3.setTop (mkF m 10 #[.val (.ref a0), .val (.ref a1), .val (.int p2), .val (.int p3), .val (.int p4), .val (.int p5)] [(.ref a1)]))
  refine own_go (fun _ k => XS.pop X3.here hx rfl (hb hby d3_10) rfl rfl k) ?_
  show own_Go p.tables e below _ (T3.setTop (mkF m 11 #[.val (.ref a0), .val (.ref a1), .val (.int p2), .val (.int p3), .val (.int p4), .val (.int p5)] []))
  refine own_go (fun _ k => XS.iloadN X3.here hx rfl (hb hby d3_11) rfl k) ?_
  show own_Go p.tables e below _ (T3.setTop (mkF m 12 #[.val (.ref a0), .val (.ref a1), .val (.int p2), .val (.int p3), .val (.int p4), .val (.int p5)] [(.int p2)]))
  have hf12 : ¬ (p2 < (0 : Int32)) := hg1
  refine own_go (fun _ k => XS.ifNo X3.here hx rfl (hb hby d3_12) rfl ((if0 _ _).trans (flt hf12).1) k) ?_
  show own_Go p.tables e below _ (T3.setTop (mkF m 15 #[.val (.ref a0), .val (.ref a1), .val (.int p2), .val (.int p3), .val (.int p4), .val (.int p5)] []))
  refine own_go (fun _ k => XS.iloadN X3.here hx rfl (hb hby d3_15) rfl k) ?_
  show own_Go p.tables e below _ (T3.setTop (mkF m 16 #[.val (.ref a0), .val (.ref a1), .val (.int p2), .val (.int p3), .val (.int p4), .val (.int p5)] [(.int p3)]))
  have hf16 : ¬ (p3 < (0 : Int32)) := hg2
  refine own_go (fun _ k => XS.ifNo X3.here hx rfl (hb hby d3_16) rfl ((if0 _ _).trans (flt hf16).1) k) ?_
  show own_Go p.tables e below _ (T3.setTop (mkF m 19 #[.val (.ref a0), .val (.ref a1), .val (.int p2), .val (.int p3), .val (.int p4), .val (.int p5)] []))
  refine own_go (fun _ k => XS.iload X3.here hx rfl (hb hby d3_19) rfl k) ?_
  show own_Go p.tables e below _ (T3.setTop (mkF m 21 #[.val (.ref a0), .val (.ref a1), .val (.int p2), .val (.int p3), .val (.int p4), .val (.int p5)] [(.int p4)]))
  refine own_go (fun _ k => XS.iconst X3.here hx rfl (hb hby d3_21) k) ?_
  show own_Go p.tables e below _ (T3.setTop (mkF m 22 #[.val (.ref a0), .val (.ref a1), .val (.int p2), .val (.int p3), .val (.int p4), .val (.int p5)] [(.int (1 : Int32)), (.int p4)]))
  have hf22 : ¬ (p4 < (1 : Int32)) := hg3
  refine own_go (fun _ k => XS.icmpNo X3.here hx rfl (hb hby d3_22) rfl (flt hf22).1 k) ?_
  show own_Go p.tables e below _ (T3.setTop (mkF m 25 #[.val (.ref a0), .val (.ref a1), .val (.int p2), .val (.int p3), .val (.int p4), .val (.int p5)] []))
  refine own_go (fun _ k => XS.iload X3.here hx rfl (hb hby d3_25) rfl k) ?_
  show own_Go p.tables e below _ (T3.setTop (mkF m 27 #[.val (.ref a0), .val (.ref a1), .val (.int p2), .val (.int p3), .val (.int p4), .val (.int p5)] [(.int p5)]))
  refine own_go (fun _ k => XS.iconst X3.here hx rfl (hb hby d3_27) k) ?_
  show own_Go p.tables e below _ (T3.setTop (mkF m 28 #[.val (.ref a0), .val (.ref a1), .val (.int p2), .val (.int p3), .val (.int p4), .val (.int p5)] [(.int (1 : Int32)), (.int p5)]))
  have hf28 : ¬ (p5 < (1 : Int32)) := hg4
  refine own_go (fun _ k => XS.icmpNo X3.here hx rfl (hb hby d3_28) rfl (flt hf28).1 k) ?_
  show own_Go p.tables e below _ (T3.setTop (mkF m 31 #[.val (.ref a0), .val (.ref a1), .val (.int p2), .val (.int p3), .val (.int p4), .val (.int p5)] []))
  refine own_go (fun _ k => XS.iload X3.here hx rfl (hb hby d3_31) rfl k) ?_
  show own_Go p.tables e below _ (T3.setTop (mkF m 33 #[.val (.ref a0), .val (.ref a1), .val (.int p2), .val (.int p3), .val (.int p4), .val (.int p5)] [(.int p4)]))
  refine own_go (fun _ k => X3.ldcInt hx hown (mvT hZ (hw _ (List.mem_of_getElem? (i := 35) rfl))) (g := (mkF m 33 #[.val (.ref a0), .val (.ref a1), .val (.int p2), .val (.int p3), .val (.int p4), .val (.int p5)] [(.int p4)])) rfl (hb hby d3_33) _ k) ?_
  show own_Go p.tables e below _ (T3.setTop (mkF m 35 #[.val (.ref a0), .val (.ref a1), .val (.int p2), .val (.int p3), .val (.int p4), .val (.int p5)] [(.int (2147483647 : Int32)), (.int p4)]))
  refine own_go (fun _ k => XS.iloadN X3.here hx rfl (hb hby d3_35) rfl k) ?_
  show own_Go p.tables e below _ (T3.setTop (mkF m 36 #[.val (.ref a0), .val (.ref a1), .val (.int p2), .val (.int p3), .val (.int p4), .val (.int p5)] [(.int p2), (.int (2147483647 : Int32)), (.int p4)]))
  refine own_go (fun _ k => XS.isub X3.here hx rfl (hb hby d3_36) rfl k) ?_
  show own_Go p.tables e below _ (T3.setTop (mkF m 37 #[.val (.ref a0), .val (.ref a1), .val (.int p2), .val (.int p3), .val (.int p4), .val (.int p5)] [(.int ((2147483647 : Int32) - p2)), (.int p4)]))
  have hf37 : ¬ (((2147483647 : Int32) - p2) < p4) := hg5
  refine own_go (fun _ k => XS.icmpNo X3.here hx rfl (hb hby d3_37) rfl (flt hf37).2.2.1 k) ?_
  show own_Go p.tables e below _ (T3.setTop (mkF m 40 #[.val (.ref a0), .val (.ref a1), .val (.int p2), .val (.int p3), .val (.int p4), .val (.int p5)] []))
  refine own_go (fun _ k => XS.iload X3.here hx rfl (hb hby d3_40) rfl k) ?_
  show own_Go p.tables e below _ (T3.setTop (mkF m 42 #[.val (.ref a0), .val (.ref a1), .val (.int p2), .val (.int p3), .val (.int p4), .val (.int p5)] [(.int p5)]))
  refine own_go (fun _ k => X3.ldcInt hx hown (mvT hZ (hw _ (List.mem_of_getElem? (i := 35) rfl))) (g := (mkF m 42 #[.val (.ref a0), .val (.ref a1), .val (.int p2), .val (.int p3), .val (.int p4), .val (.int p5)] [(.int p5)])) rfl (hb hby d3_42) _ k) ?_
  show own_Go p.tables e below _ (T3.setTop (mkF m 44 #[.val (.ref a0), .val (.ref a1), .val (.int p2), .val (.int p3), .val (.int p4), .val (.int p5)] [(.int (2147483647 : Int32)), (.int p5)]))
  refine own_go (fun _ k => XS.iloadN X3.here hx rfl (hb hby d3_44) rfl k) ?_
  show own_Go p.tables e below _ (T3.setTop (mkF m 45 #[.val (.ref a0), .val (.ref a1), .val (.int p2), .val (.int p3), .val (.int p4), .val (.int p5)] [(.int p3), (.int (2147483647 : Int32)), (.int p5)]))
  refine own_go (fun _ k => XS.isub X3.here hx rfl (hb hby d3_45) rfl k) ?_
  show own_Go p.tables e below _ (T3.setTop (mkF m 46 #[.val (.ref a0), .val (.ref a1), .val (.int p2), .val (.int p3), .val (.int p4), .val (.int p5)] [(.int ((2147483647 : Int32) - p3)), (.int p5)]))
  have hf46 : ¬ (((2147483647 : Int32) - p3) < p5) := hg6
  refine own_go (fun _ k => XS.icmpYes X3.here hx rfl (pc0 := 46) (pc' := 69) rfl (hb hby d3_46) rfl (flt hf46).2.2.2 (by decide) (by decide) k) ?_
  show own_Go p.tables e below _ (T3.setTop (mkF m 69 #[.val (.ref a0), .val (.ref a1), .val (.int p2), .val (.int p3), .val (.int p4), .val (.int p5)] []))
  refine own_go (fun _ k => XS.aloadN X3.here hx rfl (hb hby d3_69) rfl rfl k) ?_
  show own_Go p.tables e below _ (T3.setTop (mkF m 70 #[.val (.ref a0), .val (.ref a1), .val (.int p2), .val (.int p3), .val (.int p4), .val (.int p5)] [(.ref a0)]))
  refine own_go (fun _ k => XS.aloadN X3.here hx rfl (hb hby d3_70) rfl rfl k) ?_
  show own_Go p.tables e below _ (T3.setTop (mkF m 71 #[.val (.ref a0), .val (.ref a1), .val (.int p2), .val (.int p3), .val (.int p4), .val (.int p5)] [(.ref a1), (.ref a0)]))
  obtain ⟨T4, h4, X4, e4, W4, st4⟩ := putF X3 hx hZ hown (host := "") (Or.inl (hw _ (List.mem_of_getElem? (i := 36) rfl))) Via.refl (e3 : T3.heap = h2) c2_0 c2_5 (Or.inr ⟨(hw _ (List.mem_of_getElem? (i := 37) rfl)), rfl, hnm⟩) (hw _ (List.mem_of_getElem? (i := 9) rfl)) (ty := (.object "java/lang/String")) (by decide) rfl rfl (g := (mkF m 71 #[.val (.ref a0), .val (.ref a1), .val (.int p2), .val (.int p3), .val (.int p4), .val (.int p5)] [(.ref a1), (.ref a0)])) rfl rfl (hb hby d3_71)
  have N4 := Fr.snoc X4 N3 g_a0
  have c4_0 := c2_0.same W4
  have c4_1 := c2_1.other W4 (Or.inr (slot_ne (Or.inr (hw _ (List.mem_of_getElem? (i := 39) rfl))) (Or.inr (hw _ (List.mem_of_getElem? (i := 37) rfl))) (by decide) (t := .int) (t' := (.object "java/lang/String")) (by decide) (by decide)))
  have c4_2 := c2_2.other W4 (Or.inr (slot_ne (Or.inr (hw _ (List.mem_of_getElem? (i := 41) rfl))) (Or.inr (hw _ (List.mem_of_getElem? (i := 37) rfl))) (by decide) (t := .int) (t' := (.object "java/lang/String")) (by decide) (by decide)))
  have c4_3 := c2_3.other W4 (Or.inr (slot_ne (Or.inr (hw _ (List.mem_of_getElem? (i := 43) rfl))) (Or.inr (hw _ (List.mem_of_getElem? (i := 37) rfl))) (by decide) (t := .int) (t' := (.object "java/lang/String")) (by decide) (by decide)))
  have c4_4 := c2_4.other W4 (Or.inr (slot_ne (Or.inr (hw _ (List.mem_of_getElem? (i := 45) rfl))) (Or.inr (hw _ (List.mem_of_getElem? (i := 37) rfl))) (by decide) (t := .int) (t' := (.object "java/lang/String")) (by decide) (by decide)))
  have c4_5 := c2_5.wr W4
  have Z4 : n0 ≤ h4.size := Nat.le_trans Z2 (Keep.of_wr W4).1
  have hk := Nat.le_trans hk (Keep.of_wr W4).1
  have K4 : Keep h0 h4 [a0] := K2.wr W4 (Or.inl (List.mem_of_getElem? (i := 0) rfl))
  refine own_go st4 ?_
  show own_Go p.tables e below _ (T4.setTop (mkF m 74 #[.val (.ref a0), .val (.ref a1), .val (.int p2), .val (.int p3), .val (.int p4), .val (.int p5)] []))
  refine own_go (fun _ k => XS.aloadN X4.here hx rfl (hb hby d3_74) rfl rfl k) ?_
  show own_Go p.tables e below _ (T4.setTop (mkF m 75 #[.val (.ref a0), .val (.ref a1), .val (.int p2), .val (.int p3), .val (.int p4), .val (.int p5)] [(.ref a0)]))
  refine own_go (fun _ k => XS.iloadN X4.here hx rfl (hb hby d3_75) rfl k) ?_
  show own_Go p.tables e below _ (T4.setTop (mkF m 76 #[.val (.ref a0), .val (.ref a1), .val (.int p2), .val (.int p3), .val (.int p4), .val (.int p5)] [(.int p2), (.ref a0)]))
  obtain ⟨T5, h5, X5, e5, W5, st5⟩ := putF X4 hx hZ hown (host := "") (Or.inl (hw _ (List.mem_of_getElem? (i := 38) rfl))) Via.refl e4 c4_1 c4_5 (Or.inr ⟨(hw _ (List.mem_of_getElem? (i := 39) rfl)), rfl, hnm⟩) (hw _ (List.mem_of_getElem? (i := 9) rfl)) (ty := .int) (by decide) rfl rfl (g := (mkF m 76 #[.val (.ref a0), .val (.ref a1), .val (.int p2), .val (.int p3), .val (.int p4), .val (.int p5)] [(.int p2), (.ref a0)])) rfl rfl (hb hby d3_76)
  have N5 := Fr.snoc X5 N4 g_a0
  have c5_0 := c4_0.other W5 (Or.inr (slot_ne (Or.inr (hw _ (List.mem_of_getElem? (i := 37) rfl))) (Or.inr (hw _ (List.mem_of_getElem? (i := 39) rfl))) (by decide) (t := (.object "java/lang/String")) (t' := .int) (by decide) (by decide)))
  have c5_1 := c4_1.same W5
  have c5_2 := c4_2.other W5 (Or.inr (slot_ne (Or.inr (hw _ (List.mem_of_getElem? (i := 41) rfl))) (Or.inr (hw _ (List.mem_of_getElem? (i := 39) rfl))) (by decide) (t := .int) (t' := .int) (by decide) (by decide)))
  have c5_3 := c4_3.other W5 (Or.inr (slot_ne (Or.inr (hw _ (List.mem_of_getElem? (i := 43) rfl))) (Or.inr (hw _ (List.mem_of_getElem? (i := 39) rfl))) (by decide) (t := .int) (t' := .int) (by decide) (by decide)))
  have c5_4 := c4_4.other W5 (Or.inr (slot_ne (Or.inr (hw _ (List.mem_of_getElem? (i := 45) rfl))) (Or.inr (hw _ (List.mem_of_getElem? (i := 39) rfl))) (by decide) (t := .int) (t' := .int) (by decide) (by decide)))
  have c5_5 := c4_5.wr W5
  have Z5 : n0 ≤ h5.size := Nat.le_trans Z4 (Keep.of_wr W5).1
  have hk := Nat.le_trans hk (Keep.of_wr W5).1
  have K5 : Keep h0 h5 [a0] := K4.wr W5 (Or.inl (List.mem_of_getElem? (i := 0) rfl))
  refine own_go st5 ?_
  show own_Go p.tables e below _ (T5.setTop (mkF m 79 #[.val (.ref a0), .val (.ref a1), .val (.int p2), .val (.int p3), .val (.int p4), .val (.int p5)] []))
  refine own_go (fun _ k => XS.aloadN X5.here hx rfl (hb hby d3_79) rfl rfl k) ?_
  show own_Go p.tables e below _ (T5.setTop (mkF m 80 #[.val (.ref a0), .val (.ref a1), .val (.int p2), .val (.int p3), .val (.int p4), .val (.int p5)] [(.ref a0)]))
  refine own_go (fun _ k => XS.iloadN X5.here hx rfl (hb hby d3_80) rfl k) ?_
  show own_Go p.tables e below _ (T5.setTop (mkF m 81 #[.val (.ref a0), .val (.ref a1), .val (.int p2), .val (.int p3), .val (.int p4), .val (.int p5)] [(.int p3), (.ref a0)]))
  obtain ⟨T6, h6, X6, e6, W6, st6⟩ := putF X5 hx hZ hown (host := "") (Or.inl (hw _ (List.mem_of_getElem? (i := 40) rfl))) Via.refl e5 c5_2 c5_5 (Or.inr ⟨(hw _ (List.mem_of_getElem? (i := 41) rfl)), rfl, hnm⟩) (hw _ (List.mem_of_getElem? (i := 9) rfl)) (ty := .int) (by decide) rfl rfl (g := (mkF m 81 #[.val (.ref a0), .val (.ref a1), .val (.int p2), .val (.int p3), .val (.int p4), .val (.int p5)] [(.int p3), (.ref a0)])) rfl rfl (hb hby d3_81)
  have N6 := Fr.snoc X6 N5 g_a0
  have c6_0 := c5_0.other W6 (Or.inr (slot_ne (Or.inr (hw _ (List.mem_of_getElem? (i := 37) rfl))) (Or.inr (hw _ (List.mem_of_getElem? (i := 41) rfl))) (by decide) (t := (.object "java/lang/String")) (t' := .int) (by decide) (by decide)))
  have c6_1 := c5_1.other W6 (Or.inr (slot_ne (Or.inr (hw _ (List.mem_of_getElem? (i := 39) rfl))) (Or.inr (hw _ (List.mem_of_getElem? (i := 41) rfl))) (by decide) (t := .int) (t' := .int) (by decide) (by decide)))
  have c6_2 := c5_2.same W6
  have c6_3 := c5_3.other W6 (Or.inr (slot_ne (Or.inr (hw _ (List.mem_of_getElem? (i := 43) rfl))) (Or.inr (hw _ (List.mem_of_getElem? (i := 41) rfl))) (by decide) (t := .int) (t' := .int) (by decide) (by decide)))
  have c6_4 := c5_4.other W6 (Or.inr (slot_ne (Or.inr (hw _ (List.mem_of_getElem? (i := 45) rfl))) (Or.inr (hw _ (List.mem_of_getElem? (i := 41) rfl))) (by decide) (t := .int) (t' := .int) (by decide) (by decide)))
  have c6_5 := c5_5.wr W6
  have Z6 : n0 ≤ h6.size := Nat.le_trans Z5 (Keep.of_wr W6).1
  have hk := Nat.le_trans hk (Keep.of_wr W6).1
  have K6 : Keep h0 h6 [a0] := K5.wr W6 (Or.inl (List.mem_of_getElem? (i := 0) rfl))
  refine own_go st6 ?_
  show own_Go p.tables e below _ (T6.setTop (mkF m 84 #[.val (.ref a0), .val (.ref a1), .val (.int p2), .val (.int p3), .val (.int p4), .val (.int p5)] []))
  refine own_go (fun _ k => XS.aloadN X6.here hx rfl (hb hby d3_84) rfl rfl k) ?_
  show own_Go p.tables e below _ (T6.setTop (mkF m 85 #[.val (.ref a0), .val (.ref a1), .val (.int p2), .val (.int p3), .val (.int p4), .val (.int p5)] [(.ref a0)]))
  refine own_go (fun _ k => XS.iload X6.here hx rfl (hb hby d3_85) rfl k) ?_
  show own_Go p.tables e below _ (T6.setTop (mkF m 87 #[.val (.ref a0), .val (.ref a1), .val (.int p2), .val (.int p3), .val (.int p4), .val (.int p5)] [(.int p4), (.ref a0)]))
  obtain ⟨T7, h7, X7, e7, W7, st7⟩ := putF X6 hx hZ hown (host := "") (Or.inl (hw _ (List.mem_of_getElem? (i := 42) rfl))) Via.refl e6 c6_3 c6_5 (Or.inr ⟨(hw _ (List.mem_of_getElem? (i := 43) rfl)), rfl, hnm⟩) (hw _ (List.mem_of_getElem? (i := 9) rfl)) (ty := .int) (by decide) rfl rfl (g := (mkF m 87 #[.val (.ref a0), .val (.ref a1), .val (.int p2), .val (.int p3), .val (.int p4), .val (.int p5)] [(.int p4), (.ref a0)])) rfl rfl (hb hby d3_87)
  have N7 := Fr.snoc X7 N6 g_a0
  have c7_0 := c6_0.other W7 (Or.inr (slot_ne (Or.inr (hw _ (List.mem_of_getElem? (i := 37) rfl))) (Or.inr (hw _ (List.mem_of_getElem? (i := 43) rfl))) (by decide) (t := (.object "java/lang/String")) (t' := .int) (by decide) (by decide)))
  have c7_1 := c6_1.other W7 (Or.inr (slot_ne (Or.inr (hw _ (List.mem_of_getElem? (i := 39) rfl))) (Or.inr (hw _ (List.mem_of_getElem? (i := 43) rfl))) (by decide) (t := .int) (t' := .int) (by decide) (by decide)))
  have c7_2 := c6_2.other W7 (Or.inr (slot_ne (Or.inr (hw _ (List.mem_of_getElem? (i := 41) rfl))) (Or.inr (hw _ (List.mem_of_getElem? (i := 43) rfl))) (by decide) (t := .int) (t' := .int) (by decide) (by decide)))
  have c7_3 := c6_3.same W7
  have c7_4 := c6_4.other W7 (Or.inr (slot_ne (Or.inr (hw _ (List.mem_of_getElem? (i := 45) rfl))) (Or.inr (hw _ (List.mem_of_getElem? (i := 43) rfl))) (by decide) (t := .int) (t' := .int) (by decide) (by decide)))
  have c7_5 := c6_5.wr W7
  have Z7 : n0 ≤ h7.size := Nat.le_trans Z6 (Keep.of_wr W7).1
  have hk := Nat.le_trans hk (Keep.of_wr W7).1
  have K7 : Keep h0 h7 [a0] := K6.wr W7 (Or.inl (List.mem_of_getElem? (i := 0) rfl))
  refine own_go st7 ?_
  show own_Go p.tables e below _ (T7.setTop (mkF m 90 #[.val (.ref a0), .val (.ref a1), .val (.int p2), .val (.int p3), .val (.int p4), .val (.int p5)] []))
  refine own_go (fun _ k => XS.aloadN X7.here hx rfl (hb hby d3_90) rfl rfl k) ?_
  show own_Go p.tables e below _ (T7.setTop (mkF m 91 #[.val (.ref a0), .val (.ref a1), .val (.int p2), .val (.int p3), .val (.int p4), .val (.int p5)] [(.ref a0)]))
  refine own_go (fun _ k => XS.iload X7.here hx rfl (hb hby d3_91) rfl k) ?_
  show own_Go p.tables e below _ (T7.setTop (mkF m 93 #[.val (.ref a0), .val (.ref a1), .val (.int p2), .val (.int p3), .val (.int p4), .val (.int p5)] [(.int p5), (.ref a0)]))
  obtain ⟨T8, h8, X8, e8, W8, st8⟩ := putF X7 hx hZ hown (host := "") (Or.inl (hw _ (List.mem_of_getElem? (i := 44) rfl))) Via.refl e7 c7_4 c7_5 (Or.inr ⟨(hw _ (List.mem_of_getElem? (i := 45) rfl)), rfl, hnm⟩) (hw _ (List.mem_of_getElem? (i := 9) rfl)) (ty := .int) (by decide) rfl rfl (g := (mkF m 93 #[.val (.ref a0), .val (.ref a1), .val (.int p2), .val (.int p3), .val (.int p4), .val (.int p5)] [(.int p5), (.ref a0)])) rfl rfl (hb hby d3_93)
  have N8 := Fr.snoc X8 N7 g_a0
  have c8_0 := c7_0.other W8 (Or.inr (slot_ne (Or.inr (hw _ (List.mem_of_getElem? (i := 37) rfl))) (Or.inr (hw _ (List.mem_of_getElem? (i := 45) rfl))) (by decide) (t := (.object "java/lang/String")) (t' := .int) (by decide) (by decide)))
  have c8_1 := c7_1.other W8 (Or.inr (slot_ne (Or.inr (hw _ (List.mem_of_getElem? (i := 39) rfl))) (Or.inr (hw _ (List.mem_of_getElem? (i := 45) rfl))) (by decide) (t := .int) (t' := .int) (by decide) (by decide)))
  have c8_2 := c7_2.other W8 (Or.inr (slot_ne (Or.inr (hw _ (List.mem_of_getElem? (i := 41) rfl))) (Or.inr (hw _ (List.mem_of_getElem? (i := 45) rfl))) (by decide) (t := .int) (t' := .int) (by decide) (by decide)))
  have c8_3 := c7_3.other W8 (Or.inr (slot_ne (Or.inr (hw _ (List.mem_of_getElem? (i := 43) rfl))) (Or.inr (hw _ (List.mem_of_getElem? (i := 45) rfl))) (by decide) (t := .int) (t' := .int) (by decide) (by decide)))
  have c8_4 := c7_4.same W8
  have c8_5 := c7_5.wr W8
  have Z8 : n0 ≤ h8.size := Nat.le_trans Z7 (Keep.of_wr W8).1
  have hk := Nat.le_trans hk (Keep.of_wr W8).1
  have K8 : Keep h0 h8 [a0] := K7.wr W8 (Or.inl (List.mem_of_getElem? (i := 0) rfl))
  refine own_go st8 ?_
  show own_Go p.tables e below _ (T8.setTop (mkF m 96 #[.val (.ref a0), .val (.ref a1), .val (.int p2), .val (.int p3), .val (.int p4), .val (.int p5)] []))
  refine own_endW X8 hS (by rw [e8]; exact hk) Bd.notSynchronized (v := none) (fun _ => rfl) (fun fs hr => X8.returnOut hx Bd.returns (hb hby d3_96) hr) ?_ (by decide) (by decide)
  show own_Q3 Z a0 a1 p2 p3 p4 p5 h0 n0 _ T8.heap _
  rw [e8]
  exact ⟨rfl, N8, K8, c8_5, c8_0, c8_1, c8_2, c8_3, c8_4⟩
def own_f4 (p0 : Int32) : Int32 :=
  ((p0 &&& (2147483647 : Int32)) - ((p0 &&& (2147483647 : Int32)) / (2147483647 : Int32)) * (2147483647 : Int32))
theorem d4_0 : decode method_2_code 0 = .ok (.iload_n 0, 1) := by decide +kernel
theorem d4_1 : decode method_2_code 1 = .ok (.ldc 7, 2) := by decide +kernel
theorem d4_3 : decode method_2_code 3 = .ok (.iand, 1) := by decide +kernel
theorem d4_4 : decode method_2_code 4 = .ok (.ldc 7, 2) := by decide +kernel
theorem d4_6 : decode method_2_code 6 = .ok (.irem, 1) := by decide +kernel
theorem d4_7 : decode method_2_code 7 = .ok (.ireturn, 1) := by decide +kernel
theorem pn4 : plainName "com/example/dialplane/dialplane/engine/AreaTouchesPinLaw" = true := by first | (simp [plainName, overriddenIn]; done) | decide +kernel
theorem ef4 (m : MethodId) (p0 : Int32) : entryFrame m #[(.int p0)] 1 = mkF m 0 #[.val (.int p0)] [] := by first | (simp [entryFrame, mkF, argsToLocals, Value.category]; done) | rfl
def own_Q4 (Z : State) (p0 : Int32) (h0 : Heap) (n0 : Nat) (v : Option Value) (h : Heap) (L : List Loc) : Prop := v = some (.int (own_f4 p0)) ∧ Fr n0 L ∧ h = h0
set_option maxRecDepth 65536 in
set_option maxHeartbeats 40000000 in
theorem rm4 (l : Launch) (Z : State) (az : Array Value) (hw : ∀ d ∈ tables_1, d.before az Z = true) (ws : List Jvm.Cond) (p0 : Int32) (h0 : Heap) (n0 : Nat) (Z0 : n0 ≤ h0.size) :
    MetFree l (⟨"com/example/dialplane/dialplane/engine/AreaTouchesPinLaw", "pos", "(I)I"⟩ : MethodName) (head1 (Jvm.Cond.code (⟨"com/example/dialplane/dialplane/engine/AreaTouchesPinLaw", "pos", "(I)I"⟩ : MethodName) method_2_code 1 (some .int) :: ws) ({ frames := 0, cells := 0, slots := 0, locals := 0 } : Room)) (fun a U => a = #[(.int p0)] ∧ Z.Warmed39 U.vm ∧ U.heap = h0) (fun _ _ _ _ _ => True) (fun _ U o U' => ∃ v L, o = .returned v ∧ own_Q4 Z p0 h0 n0 v U'.heap L ∧ FrameEnd U o U' L ({ frames := 0, cells := 0, slots := 0, locals := 0 } : Room).cells ({ frames := 0, cells := 0, slots := 0, locals := 0 } : Room).slots) := by
  refine MetFree.of_bodySF (plainFor_of_name pn4) hisR ?_
  intro p e s m args below meth c s₁ Bd hml0 hP hK
  obtain ⟨rfl, hZ, hh⟩ := hP
  have hx := Bd.exec
  have hby := Bd.bytes
  have hml : c.maxLocals = 1 := hml0
  have hown : s.vm.findClass "com/example/dialplane/dialplane/engine/AreaTouchesPinLaw" = some m.cls := findClass_of_methodNamed Bd.named
  have hnm := (name_of_methodNamed Bd.named Bd.method).1
  have X0 : Stand p l e ({ frames := 0, cells := 0, slots := 0, locals := 0 } : Room) s m #[(.int p0)] below meth c s₁ [] 0 0 := Stand.of_body Bd
  have e0 : s₁.heap = h0 := by rw [← hh, Bd.state]; rfl
  have N0 := Fr.nil n0
  show own_Go p.tables e below (fun o U' => ∃ v L, o = .returned v ∧ own_Q4 Z p0 h0 n0 v U'.heap L ∧ FrameEnd s o U' L ({ frames := 0, cells := 0, slots := 0, locals := 0 } : Room).cells ({ frames := 0, cells := 0, slots := 0, locals := 0 } : Room).slots) (s₁.setTop (entryFrame m #[(.int p0)] 1))
  refine own_go (fun _ k => castTop (ef4 m p0) k) ?_
  show own_Go p.tables e below _ (s₁.setTop (mkF m 0 #[.val (.int p0)] []))
  refine own_go (fun _ k => XS.iloadN X0.here hx rfl (hb hby d4_0) rfl k) ?_
  show own_Go p.tables e below _ (s₁.setTop (mkF m 1 #[.val (.int p0)] [(.int p0)]))
  refine own_go (fun _ k => X0.ldcInt hx hown (mvT hZ (hw _ (List.mem_of_getElem? (i := 4) rfl))) (g := (mkF m 1 #[.val (.int p0)] [(.int p0)])) rfl (hb hby d4_1) _ k) ?_
  show own_Go p.tables e below _ (s₁.setTop (mkF m 3 #[.val (.int p0)] [(.int (2147483647 : Int32)), (.int p0)]))
  refine own_go (fun _ k => XS.iand X0.here hx rfl (hb hby d4_3) rfl k) ?_
  show own_Go p.tables e below _ (s₁.setTop (mkF m 4 #[.val (.int p0)] [(.int (p0 &&& (2147483647 : Int32)))]))
  refine own_go (fun _ k => X0.ldcInt hx hown (mvT hZ (hw _ (List.mem_of_getElem? (i := 4) rfl))) (g := (mkF m 4 #[.val (.int p0)] [(.int (p0 &&& (2147483647 : Int32)))])) rfl (hb hby d4_4) _ k) ?_
  show own_Go p.tables e below _ (s₁.setTop (mkF m 6 #[.val (.int p0)] [(.int (2147483647 : Int32)), (.int (p0 &&& (2147483647 : Int32)))]))
  refine own_go (fun _ k => XS.irem X0.here hx rfl (hb hby d4_6) rfl (by decide) k) ?_
  show own_Go p.tables e below _ (s₁.setTop (mkF m 7 #[.val (.int p0)] [(.int ((p0 &&& (2147483647 : Int32)) - ((p0 &&& (2147483647 : Int32)) / (2147483647 : Int32)) * (2147483647 : Int32)))]))
  refine own_end X0 Bd.notSynchronized (v := some (.int ((p0 &&& (2147483647 : Int32)) - ((p0 &&& (2147483647 : Int32)) / (2147483647 : Int32)) * (2147483647 : Int32)))) (fun h => by rw [Bd.returns] at h; cases h) (fun fs hr => own_retI X0 hx Bd.returns (hb hby d4_7) hr) ?_ (by decide) (by decide)
  exact ⟨by rw [own_f4], N0, e0⟩
def own_f5 (p0 : Int32) (p1 : Int32) : Int32 :=
  ((1 : Int32) + ((p1 &&& (2147483647 : Int32)) - ((p1 &&& (2147483647 : Int32)) / ((2147483647 : Int32) - p0)) * ((2147483647 : Int32) - p0)))
theorem d5_0 : decode method_3_code 0 = .ok (.iconst 1, 1) := by decide +kernel
theorem d5_1 : decode method_3_code 1 = .ok (.iload_n 1, 1) := by decide +kernel
theorem d5_2 : decode method_3_code 2 = .ok (.ldc 7, 2) := by decide +kernel
theorem d5_4 : decode method_3_code 4 = .ok (.iand, 1) := by decide +kernel
theorem d5_5 : decode method_3_code 5 = .ok (.ldc 7, 2) := by decide +kernel
theorem d5_7 : decode method_3_code 7 = .ok (.iload_n 0, 1) := by decide +kernel
theorem d5_8 : decode method_3_code 8 = .ok (.isub, 1) := by decide +kernel
theorem d5_9 : decode method_3_code 9 = .ok (.irem, 1) := by decide +kernel
theorem d5_10 : decode method_3_code 10 = .ok (.iadd, 1) := by decide +kernel
theorem d5_11 : decode method_3_code 11 = .ok (.ireturn, 1) := by decide +kernel
theorem pn5 : plainName "com/example/dialplane/dialplane/engine/AreaTouchesPinLaw" = true := by first | (simp [plainName, overriddenIn]; done) | decide +kernel
theorem ef5 (m : MethodId) (p0 : Int32) (p1 : Int32) : entryFrame m #[(.int p0), (.int p1)] 2 = mkF m 0 #[.val (.int p0), .val (.int p1)] [] := by first | (simp [entryFrame, mkF, argsToLocals, Value.category]; done) | rfl
def own_Q5 (Z : State) (p0 : Int32) (p1 : Int32) (h0 : Heap) (n0 : Nat) (v : Option Value) (h : Heap) (L : List Loc) : Prop := v = some (.int (own_f5 p0 p1)) ∧ Fr n0 L ∧ h = h0
set_option maxRecDepth 65536 in
set_option maxHeartbeats 40000000 in
theorem rm5 (l : Launch) (Z : State) (az : Array Value) (hw : ∀ d ∈ tables_1, d.before az Z = true) (ws : List Jvm.Cond) (p0 : Int32) (p1 : Int32) (h0 : Heap) (n0 : Nat) (Z0 : n0 ≤ h0.size) (hnz : ((2147483647 : Int32) - p0) ≠ 0) :
    MetFree l (⟨"com/example/dialplane/dialplane/engine/AreaTouchesPinLaw", "len", "(II)I"⟩ : MethodName) (head1 (Jvm.Cond.code (⟨"com/example/dialplane/dialplane/engine/AreaTouchesPinLaw", "len", "(II)I"⟩ : MethodName) method_3_code 2 (some .int) :: ws) ({ frames := 0, cells := 0, slots := 0, locals := 0 } : Room)) (fun a U => a = #[(.int p0), (.int p1)] ∧ Z.Warmed39 U.vm ∧ U.heap = h0) (fun _ _ _ _ _ => True) (fun _ U o U' => ∃ v L, o = .returned v ∧ own_Q5 Z p0 p1 h0 n0 v U'.heap L ∧ FrameEnd U o U' L ({ frames := 0, cells := 0, slots := 0, locals := 0 } : Room).cells ({ frames := 0, cells := 0, slots := 0, locals := 0 } : Room).slots) := by
  refine MetFree.of_bodySF (plainFor_of_name pn5) hisR ?_
  intro p e s m args below meth c s₁ Bd hml0 hP hK
  obtain ⟨rfl, hZ, hh⟩ := hP
  have hx := Bd.exec
  have hby := Bd.bytes
  have hml : c.maxLocals = 2 := hml0
  have hown : s.vm.findClass "com/example/dialplane/dialplane/engine/AreaTouchesPinLaw" = some m.cls := findClass_of_methodNamed Bd.named
  have hnm := (name_of_methodNamed Bd.named Bd.method).1
  have X0 : Stand p l e ({ frames := 0, cells := 0, slots := 0, locals := 0 } : Room) s m #[(.int p0), (.int p1)] below meth c s₁ [] 0 0 := Stand.of_body Bd
  have e0 : s₁.heap = h0 := by rw [← hh, Bd.state]; rfl
  have N0 := Fr.nil n0
  show own_Go p.tables e below (fun o U' => ∃ v L, o = .returned v ∧ own_Q5 Z p0 p1 h0 n0 v U'.heap L ∧ FrameEnd s o U' L ({ frames := 0, cells := 0, slots := 0, locals := 0 } : Room).cells ({ frames := 0, cells := 0, slots := 0, locals := 0 } : Room).slots) (s₁.setTop (entryFrame m #[(.int p0), (.int p1)] 2))
  refine own_go (fun _ k => castTop (ef5 m p0 p1) k) ?_
  show own_Go p.tables e below _ (s₁.setTop (mkF m 0 #[.val (.int p0), .val (.int p1)] []))
  refine own_go (fun _ k => XS.iconst X0.here hx rfl (hb hby d5_0) k) ?_
  show own_Go p.tables e below _ (s₁.setTop (mkF m 1 #[.val (.int p0), .val (.int p1)] [(.int (1 : Int32))]))
  refine own_go (fun _ k => XS.iloadN X0.here hx rfl (hb hby d5_1) rfl k) ?_
  show own_Go p.tables e below _ (s₁.setTop (mkF m 2 #[.val (.int p0), .val (.int p1)] [(.int p1), (.int (1 : Int32))]))
  refine own_go (fun _ k => X0.ldcInt hx hown (mvT hZ (hw _ (List.mem_of_getElem? (i := 4) rfl))) (g := (mkF m 2 #[.val (.int p0), .val (.int p1)] [(.int p1), (.int (1 : Int32))])) rfl (hb hby d5_2) _ k) ?_
  show own_Go p.tables e below _ (s₁.setTop (mkF m 4 #[.val (.int p0), .val (.int p1)] [(.int (2147483647 : Int32)), (.int p1), (.int (1 : Int32))]))
  refine own_go (fun _ k => XS.iand X0.here hx rfl (hb hby d5_4) rfl k) ?_
  show own_Go p.tables e below _ (s₁.setTop (mkF m 5 #[.val (.int p0), .val (.int p1)] [(.int (p1 &&& (2147483647 : Int32))), (.int (1 : Int32))]))
  refine own_go (fun _ k => X0.ldcInt hx hown (mvT hZ (hw _ (List.mem_of_getElem? (i := 4) rfl))) (g := (mkF m 5 #[.val (.int p0), .val (.int p1)] [(.int (p1 &&& (2147483647 : Int32))), (.int (1 : Int32))])) rfl (hb hby d5_5) _ k) ?_
  show own_Go p.tables e below _ (s₁.setTop (mkF m 7 #[.val (.int p0), .val (.int p1)] [(.int (2147483647 : Int32)), (.int (p1 &&& (2147483647 : Int32))), (.int (1 : Int32))]))
  refine own_go (fun _ k => XS.iloadN X0.here hx rfl (hb hby d5_7) rfl k) ?_
  show own_Go p.tables e below _ (s₁.setTop (mkF m 8 #[.val (.int p0), .val (.int p1)] [(.int p0), (.int (2147483647 : Int32)), (.int (p1 &&& (2147483647 : Int32))), (.int (1 : Int32))]))
  refine own_go (fun _ k => XS.isub X0.here hx rfl (hb hby d5_8) rfl k) ?_
  show own_Go p.tables e below _ (s₁.setTop (mkF m 9 #[.val (.int p0), .val (.int p1)] [(.int ((2147483647 : Int32) - p0)), (.int (p1 &&& (2147483647 : Int32))), (.int (1 : Int32))]))
  refine own_go (fun _ k => XS.irem X0.here hx rfl (hb hby d5_9) rfl hnz k) ?_
  show own_Go p.tables e below _ (s₁.setTop (mkF m 10 #[.val (.int p0), .val (.int p1)] [(.int ((p1 &&& (2147483647 : Int32)) - ((p1 &&& (2147483647 : Int32)) / ((2147483647 : Int32) - p0)) * ((2147483647 : Int32) - p0))), (.int (1 : Int32))]))
  refine own_go (fun _ k => XS.iadd X0.here hx rfl (hb hby d5_10) rfl k) ?_
  show own_Go p.tables e below _ (s₁.setTop (mkF m 11 #[.val (.int p0), .val (.int p1)] [(.int ((1 : Int32) + ((p1 &&& (2147483647 : Int32)) - ((p1 &&& (2147483647 : Int32)) / ((2147483647 : Int32) - p0)) * ((2147483647 : Int32) - p0))))]))
  refine own_end X0 Bd.notSynchronized (v := some (.int ((1 : Int32) + ((p1 &&& (2147483647 : Int32)) - ((p1 &&& (2147483647 : Int32)) / ((2147483647 : Int32) - p0)) * ((2147483647 : Int32) - p0))))) (fun h => by rw [Bd.returns] at h; cases h) (fun fs hr => own_retI X0 hx Bd.returns (hb hby d5_11) hr) ?_ (by decide) (by decide)
  exact ⟨by rw [own_f5], N0, e0⟩
def own_f6 (q0 : Int64) (q1 : Int64) : Int64 :=
  (if q0 < q1 then q1 else q0)
theorem d6_0 : decode jdk_29_method_66_code 0 = .ok (.lload_n 0, 1) := by decide +kernel
theorem d6_1 : decode jdk_29_method_66_code 1 = .ok (.lload_n 2, 1) := by decide +kernel
theorem d6_2 : decode jdk_29_method_66_code 2 = .ok (.lcmp, 1) := by decide +kernel
theorem d6_3 : decode jdk_29_method_66_code 3 = .ok (.ifCond .lt 7, 3) := by decide +kernel
theorem d6_6 : decode jdk_29_method_66_code 6 = .ok (.lload_n 0, 1) := by decide +kernel
theorem d6_7 : decode jdk_29_method_66_code 7 = .ok (.goto 4, 3) := by decide +kernel
theorem d6_10 : decode jdk_29_method_66_code 10 = .ok (.lload_n 2, 1) := by decide +kernel
theorem d6_11 : decode jdk_29_method_66_code 11 = .ok (.lreturn, 1) := by decide +kernel
theorem ef6 (m : MethodId) (q0 : Int64) (q1 : Int64) : entryFrame m #[(.long q0), (.long q1)] 4 = mkF m 0 #[.val (.long q0), .second, .val (.long q1), .second] [] := by first | (simp [entryFrame, mkF, argsToLocals, Value.category]; done) | rfl
def own_Q6 (Z : State) (q0 : Int64) (q1 : Int64) (h0 : Heap) (n0 : Nat) (v : Option Value) (h : Heap) (L : List Loc) : Prop := v = some (.long (own_f6 q0 q1)) ∧ Fr n0 L ∧ h = h0
set_option maxRecDepth 65536 in
set_option maxHeartbeats 40000000 in
theorem rm6 (l : Launch) (Z : State) (az : Array Value) (hw : ∀ d ∈ tables_1, d.before az Z = true) (ws : List Jvm.Cond) (q0 : Int64) (q1 : Int64) (h0 : Heap) (n0 : Nat) (Z0 : n0 ≤ h0.size) :
    MetFree l (⟨"java/lang/Math", "max", "(JJ)J"⟩ : MethodName) (head1 (Jvm.Cond.code (⟨"java/lang/Math", "max", "(JJ)J"⟩ : MethodName) jdk_29_method_66_code 4 (some .long) :: ws) ({ frames := 0, cells := 0, slots := 0, locals := 0 } : Room)) (fun a U => a = #[(.long q0), (.long q1)] ∧ Z.Warmed39 U.vm ∧ U.heap = h0) (fun _ _ _ _ _ => True) (fun _ U o U' => ∃ v L, o = .returned v ∧ own_Q6 Z q0 q1 h0 n0 v U'.heap L ∧ FrameEnd U o U' L ({ frames := 0, cells := 0, slots := 0, locals := 0 } : Room).cells ({ frames := 0, cells := 0, slots := 0, locals := 0 } : Room).slots) := by
  refine MetFree.of_bodySF (Jvm.Free.JP.mathPlain rfl (by decide +kernel)) hisR ?_
  intro p e s m args below meth c s₁ Bd hml0 hP hK
  obtain ⟨rfl, hZ, hh⟩ := hP
  have hx := Bd.exec
  have hby := Bd.bytes
  have hml : c.maxLocals = 4 := hml0
  have hown : s.vm.findClass "java/lang/Math" = some m.cls := findClass_of_methodNamed Bd.named
  have hnm := (name_of_methodNamed Bd.named Bd.method).1
  have X0 : Stand p l e ({ frames := 0, cells := 0, slots := 0, locals := 0 } : Room) s m #[(.long q0), (.long q1)] below meth c s₁ [] 0 0 := Stand.of_body Bd
  have e0 : s₁.heap = h0 := by rw [← hh, Bd.state]; rfl
  have N0 := Fr.nil n0
  show own_Go p.tables e below (fun o U' => ∃ v L, o = .returned v ∧ own_Q6 Z q0 q1 h0 n0 v U'.heap L ∧ FrameEnd s o U' L ({ frames := 0, cells := 0, slots := 0, locals := 0 } : Room).cells ({ frames := 0, cells := 0, slots := 0, locals := 0 } : Room).slots) (s₁.setTop (entryFrame m #[(.long q0), (.long q1)] 4))
  refine own_go (fun _ k => castTop (ef6 m q0 q1) k) ?_
  show own_Go p.tables e below _ (s₁.setTop (mkF m 0 #[.val (.long q0), .second, .val (.long q1), .second] []))
  refine own_go (fun _ k => XS.lloadN X0.here hx rfl (hb hby d6_0) rfl k) ?_
  show own_Go p.tables e below _ (s₁.setTop (mkF m 1 #[.val (.long q0), .second, .val (.long q1), .second] [(.long q0)]))
  refine own_go (fun _ k => XS.lloadN X0.here hx rfl (hb hby d6_1) rfl k) ?_
  show own_Go p.tables e below _ (s₁.setTop (mkF m 2 #[.val (.long q0), .second, .val (.long q1), .second] [(.long q1), (.long q0)]))
  refine own_go (fun _ k => XS.lcmp X0.here hx rfl (hb hby d6_2) rfl k) ?_
  show own_Go p.tables e below _ (s₁.setTop (mkF m 3 #[.val (.long q0), .second, .val (.long q1), .second] [(.int (lcmpW q0 q1))]))
  by_cases hc3 : q0 < q1
  · refine own_go (fun _ k => XS.ifYes X0.here hx rfl (pc0 := 3) (pc' := 10) rfl (hb hby d6_3) rfl ((if0 _ _).trans (tlt ((lw_lt q0 q1).mpr hc3)).1) (by decide) (by decide) k) ?_
    show own_Go p.tables e below _ (s₁.setTop (mkF m 10 #[.val (.long q0), .second, .val (.long q1), .second] []))
    refine own_go (fun _ k => XS.lloadN X0.here hx rfl (hb hby d6_10) rfl k) ?_
    show own_Go p.tables e below _ (s₁.setTop (mkF m 11 #[.val (.long q0), .second, .val (.long q1), .second] [(.long q1)]))
    refine own_end X0 Bd.notSynchronized (v := some (.long q1)) (fun h => by rw [Bd.returns] at h; cases h) (fun fs hr => own_retJ X0 hx Bd.returns (hb hby d6_11) hr) ?_ (by decide) (by decide)
    exact ⟨by rw [own_f6, if_pos hc3], N0, e0⟩
  · refine own_go (fun _ k => XS.ifNo X0.here hx rfl (hb hby d6_3) rfl ((if0 _ _).trans (flt (mt (lw_lt q0 q1).mp hc3)).1) k) ?_
    show own_Go p.tables e below _ (s₁.setTop (mkF m 6 #[.val (.long q0), .second, .val (.long q1), .second] []))
    refine own_go (fun _ k => XS.lloadN X0.here hx rfl (hb hby d6_6) rfl k) ?_
    show own_Go p.tables e below _ (s₁.setTop (mkF m 7 #[.val (.long q0), .second, .val (.long q1), .second] [(.long q0)]))
    refine own_go (fun _ k => XS.goto X0.here hx rfl (pc0 := 7) (pc' := 11) rfl (hb hby d6_7) (by decide) (by decide) k) ?_
    show own_Go p.tables e below _ (s₁.setTop (mkF m 11 #[.val (.long q0), .second, .val (.long q1), .second] [(.long q0)]))
    refine own_end X0 Bd.notSynchronized (v := some (.long q0)) (fun h => by rw [Bd.returns] at h; cases h) (fun fs hr => own_retJ X0 hx Bd.returns (hb hby d6_11) hr) ?_ (by decide) (by decide)
    exact ⟨by rw [own_f6, if_neg hc3], N0, e0⟩
def own_f7 (q0 : Int64) (q1 : Int64) : Int64 :=
  (if q1 < q0 then q1 else q0)
theorem d7_0 : decode jdk_29_method_70_code 0 = .ok (.lload_n 0, 1) := by decide +kernel
theorem d7_1 : decode jdk_29_method_70_code 1 = .ok (.lload_n 2, 1) := by decide +kernel
theorem d7_2 : decode jdk_29_method_70_code 2 = .ok (.lcmp, 1) := by decide +kernel
theorem d7_3 : decode jdk_29_method_70_code 3 = .ok (.ifCond .gt 7, 3) := by decide +kernel
theorem d7_6 : decode jdk_29_method_70_code 6 = .ok (.lload_n 0, 1) := by decide +kernel
theorem d7_7 : decode jdk_29_method_70_code 7 = .ok (.goto 4, 3) := by decide +kernel
theorem d7_10 : decode jdk_29_method_70_code 10 = .ok (.lload_n 2, 1) := by decide +kernel
theorem d7_11 : decode jdk_29_method_70_code 11 = .ok (.lreturn, 1) := by decide +kernel
theorem ef7 (m : MethodId) (q0 : Int64) (q1 : Int64) : entryFrame m #[(.long q0), (.long q1)] 4 = mkF m 0 #[.val (.long q0), .second, .val (.long q1), .second] [] := by first | (simp [entryFrame, mkF, argsToLocals, Value.category]; done) | rfl
def own_Q7 (Z : State) (q0 : Int64) (q1 : Int64) (h0 : Heap) (n0 : Nat) (v : Option Value) (h : Heap) (L : List Loc) : Prop := v = some (.long (own_f7 q0 q1)) ∧ Fr n0 L ∧ h = h0
set_option maxRecDepth 65536 in
set_option maxHeartbeats 40000000 in
theorem rm7 (l : Launch) (Z : State) (az : Array Value) (hw : ∀ d ∈ tables_1, d.before az Z = true) (ws : List Jvm.Cond) (q0 : Int64) (q1 : Int64) (h0 : Heap) (n0 : Nat) (Z0 : n0 ≤ h0.size) :
    MetFree l (⟨"java/lang/Math", "min", "(JJ)J"⟩ : MethodName) (head1 (Jvm.Cond.code (⟨"java/lang/Math", "min", "(JJ)J"⟩ : MethodName) jdk_29_method_70_code 4 (some .long) :: ws) ({ frames := 0, cells := 0, slots := 0, locals := 0 } : Room)) (fun a U => a = #[(.long q0), (.long q1)] ∧ Z.Warmed39 U.vm ∧ U.heap = h0) (fun _ _ _ _ _ => True) (fun _ U o U' => ∃ v L, o = .returned v ∧ own_Q7 Z q0 q1 h0 n0 v U'.heap L ∧ FrameEnd U o U' L ({ frames := 0, cells := 0, slots := 0, locals := 0 } : Room).cells ({ frames := 0, cells := 0, slots := 0, locals := 0 } : Room).slots) := by
  refine MetFree.of_bodySF (Jvm.Free.JP.mathPlain rfl (by decide +kernel)) hisR ?_
  intro p e s m args below meth c s₁ Bd hml0 hP hK
  obtain ⟨rfl, hZ, hh⟩ := hP
  have hx := Bd.exec
  have hby := Bd.bytes
  have hml : c.maxLocals = 4 := hml0
  have hown : s.vm.findClass "java/lang/Math" = some m.cls := findClass_of_methodNamed Bd.named
  have hnm := (name_of_methodNamed Bd.named Bd.method).1
  have X0 : Stand p l e ({ frames := 0, cells := 0, slots := 0, locals := 0 } : Room) s m #[(.long q0), (.long q1)] below meth c s₁ [] 0 0 := Stand.of_body Bd
  have e0 : s₁.heap = h0 := by rw [← hh, Bd.state]; rfl
  have N0 := Fr.nil n0
  show own_Go p.tables e below (fun o U' => ∃ v L, o = .returned v ∧ own_Q7 Z q0 q1 h0 n0 v U'.heap L ∧ FrameEnd s o U' L ({ frames := 0, cells := 0, slots := 0, locals := 0 } : Room).cells ({ frames := 0, cells := 0, slots := 0, locals := 0 } : Room).slots) (s₁.setTop (entryFrame m #[(.long q0), (.long q1)] 4))
  refine own_go (fun _ k => castTop (ef7 m q0 q1) k) ?_
  show own_Go p.tables e below _ (s₁.setTop (mkF m 0 #[.val (.long q0), .second, .val (.long q1), .second] []))
  refine own_go (fun _ k => XS.lloadN X0.here hx rfl (hb hby d7_0) rfl k) ?_
  show own_Go p.tables e below _ (s₁.setTop (mkF m 1 #[.val (.long q0), .second, .val (.long q1), .second] [(.long q0)]))
  refine own_go (fun _ k => XS.lloadN X0.here hx rfl (hb hby d7_1) rfl k) ?_
  show own_Go p.tables e below _ (s₁.setTop (mkF m 2 #[.val (.long q0), .second, .val (.long q1), .second] [(.long q1), (.long q0)]))
  refine own_go (fun _ k => XS.lcmp X0.here hx rfl (hb hby d7_2) rfl k) ?_
  show own_Go p.tables e below _ (s₁.setTop (mkF m 3 #[.val (.long q0), .second, .val (.long q1), .second] [(.int (lcmpW q0 q1))]))
  by_cases hc3 : q1 < q0
  · refine own_go (fun _ k => XS.ifYes X0.here hx rfl (pc0 := 3) (pc' := 10) rfl (hb hby d7_3) rfl ((if0 _ _).trans (tlt ((lw_gt q0 q1).mpr hc3)).2.2.1) (by decide) (by decide) k) ?_
    show own_Go p.tables e below _ (s₁.setTop (mkF m 10 #[.val (.long q0), .second, .val (.long q1), .second] []))
    refine own_go (fun _ k => XS.lloadN X0.here hx rfl (hb hby d7_10) rfl k) ?_
    show own_Go p.tables e below _ (s₁.setTop (mkF m 11 #[.val (.long q0), .second, .val (.long q1), .second] [(.long q1)]))
    refine own_end X0 Bd.notSynchronized (v := some (.long q1)) (fun h => by rw [Bd.returns] at h; cases h) (fun fs hr => own_retJ X0 hx Bd.returns (hb hby d7_11) hr) ?_ (by decide) (by decide)
    exact ⟨by rw [own_f7, if_pos hc3], N0, e0⟩
  · refine own_go (fun _ k => XS.ifNo X0.here hx rfl (hb hby d7_3) rfl ((if0 _ _).trans (flt (mt (lw_gt q0 q1).mp hc3)).2.2.1) k) ?_
    show own_Go p.tables e below _ (s₁.setTop (mkF m 6 #[.val (.long q0), .second, .val (.long q1), .second] []))
    refine own_go (fun _ k => XS.lloadN X0.here hx rfl (hb hby d7_6) rfl k) ?_
    show own_Go p.tables e below _ (s₁.setTop (mkF m 7 #[.val (.long q0), .second, .val (.long q1), .second] [(.long q0)]))
    refine own_go (fun _ k => XS.goto X0.here hx rfl (pc0 := 7) (pc' := 11) rfl (hb hby d7_7) (by decide) (by decide) k) ?_
    show own_Go p.tables e below _ (s₁.setTop (mkF m 11 #[.val (.long q0), .second, .val (.long q1), .second] [(.long q0)]))
    refine own_end X0 Bd.notSynchronized (v := some (.long q0)) (fun h => by rw [Bd.returns] at h; cases h) (fun fs hr => own_retJ X0 hx Bd.returns (hb hby d7_11) hr) ?_ (by decide) (by decide)
    exact ⟨by rw [own_f7, if_neg hc3], N0, e0⟩
def own_f8 (p0 : Int32) (p1 : Int32) (p2 : Int32) (p3 : Int32) : Int32 :=
  (if (own_f7 ((p0.toInt64) + (p1.toInt64)) ((p2.toInt64) + (p3.toInt64))) < (own_f6 (p0.toInt64) (p2.toInt64)) then (0 : Int32) else (1 : Int32))
theorem d8_0 : decode method_4_code 0 = .ok (.iload_n 0, 1) := by decide +kernel
theorem d8_1 : decode method_4_code 1 = .ok (.i2l, 1) := by decide +kernel
theorem d8_2 : decode method_4_code 2 = .ok (.iload_n 2, 1) := by decide +kernel
theorem d8_3 : decode method_4_code 3 = .ok (.i2l, 1) := by decide +kernel
theorem d8_4 : decode method_4_code 4 = .ok (.invokestatic 10, 3) := by decide +kernel
theorem d8_7 : decode method_4_code 7 = .ok (.lstore 4, 2) := by decide +kernel
theorem d8_9 : decode method_4_code 9 = .ok (.iload_n 0, 1) := by decide +kernel
theorem d8_10 : decode method_4_code 10 = .ok (.i2l, 1) := by decide +kernel
theorem d8_11 : decode method_4_code 11 = .ok (.iload_n 1, 1) := by decide +kernel
theorem d8_12 : decode method_4_code 12 = .ok (.i2l, 1) := by decide +kernel
theorem d8_13 : decode method_4_code 13 = .ok (.ladd, 1) := by decide +kernel
theorem d8_14 : decode method_4_code 14 = .ok (.iload_n 2, 1) := by decide +kernel
theorem d8_15 : decode method_4_code 15 = .ok (.i2l, 1) := by decide +kernel
theorem d8_16 : decode method_4_code 16 = .ok (.iload_n 3, 1) := by decide +kernel
theorem d8_17 : decode method_4_code 17 = .ok (.i2l, 1) := by decide +kernel
theorem d8_18 : decode method_4_code 18 = .ok (.ladd, 1) := by decide +kernel
theorem d8_19 : decode method_4_code 19 = .ok (.invokestatic 16, 3) := by decide +kernel
theorem d8_22 : decode method_4_code 22 = .ok (.lstore 6, 2) := by decide +kernel
theorem d8_24 : decode method_4_code 24 = .ok (.lload 4, 2) := by decide +kernel
theorem d8_26 : decode method_4_code 26 = .ok (.lload 6, 2) := by decide +kernel
theorem d8_28 : decode method_4_code 28 = .ok (.lcmp, 1) := by decide +kernel
theorem d8_29 : decode method_4_code 29 = .ok (.ifCond .gt 7, 3) := by decide +kernel
theorem d8_32 : decode method_4_code 32 = .ok (.iconst 1, 1) := by decide +kernel
theorem d8_33 : decode method_4_code 33 = .ok (.goto 4, 3) := by decide +kernel
theorem d8_36 : decode method_4_code 36 = .ok (.iconst 0, 1) := by decide +kernel
theorem d8_37 : decode method_4_code 37 = .ok (.ireturn, 1) := by decide +kernel
theorem pn8 : plainName "com/example/dialplane/dialplane/engine/AreaTouchesPinLaw" = true := by first | (simp [plainName, overriddenIn]; done) | decide +kernel
theorem pd8_0 : parseMethodDescriptor "(JJ)J" = some ⟨[.long, .long], some .long⟩ := by decide +kernel
theorem ef8 (m : MethodId) (p0 : Int32) (p1 : Int32) (p2 : Int32) (p3 : Int32) : entryFrame m #[(.int p0), (.int p1), (.int p2), (.int p3)] 8 = mkF m 0 #[.val (.int p0), .val (.int p1), .val (.int p2), .val (.int p3), .unset, .unset, .unset, .unset] [] := by first | (simp [entryFrame, mkF, argsToLocals, Value.category]; done) | rfl
def own_Q8 (Z : State) (p0 : Int32) (p1 : Int32) (p2 : Int32) (p3 : Int32) (h0 : Heap) (n0 : Nat) (v : Option Value) (h : Heap) (L : List Loc) : Prop := v = some (.int (own_f8 p0 p1 p2 p3)) ∧ Fr n0 L ∧ h = h0
set_option maxRecDepth 65536 in
set_option maxHeartbeats 40000000 in
theorem rm8 (l : Launch) (Z : State) (az : Array Value) (hw : ∀ d ∈ tables_1, d.before az Z = true) (ws : List Jvm.Cond) (p0 : Int32) (p1 : Int32) (p2 : Int32) (p3 : Int32) (h0 : Heap) (n0 : Nat) (Z0 : n0 ≤ h0.size) :
    MetFree l (⟨"com/example/dialplane/dialplane/engine/AreaTouchesPinLaw", "meet", "(IIII)Z"⟩ : MethodName) (head1 (Jvm.Cond.code (⟨"com/example/dialplane/dialplane/engine/AreaTouchesPinLaw", "meet", "(IIII)Z"⟩ : MethodName) method_4_code 8 (some .boolean) :: ws) ({ frames := 1, cells := 0, slots := 0, locals := 15 } : Room)) (fun a U => a = #[(.int p0), (.int p1), (.int p2), (.int p3)] ∧ Z.Warmed39 U.vm ∧ U.heap = h0) (fun _ _ _ _ _ => True) (fun _ U o U' => ∃ v L, o = .returned v ∧ own_Q8 Z p0 p1 p2 p3 h0 n0 v U'.heap L ∧ FrameEnd U o U' L ({ frames := 1, cells := 0, slots := 0, locals := 15 } : Room).cells ({ frames := 1, cells := 0, slots := 0, locals := 15 } : Room).slots) := by
  refine MetFree.of_bodySF (plainFor_of_name pn8) hisR ?_
  intro p e s m args below meth c s₁ Bd hml0 hP hK
  obtain ⟨rfl, hZ, hh⟩ := hP
  have hx := Bd.exec
  have hby := Bd.bytes
  have hml : c.maxLocals = 8 := hml0
  have hown : s.vm.findClass "com/example/dialplane/dialplane/engine/AreaTouchesPinLaw" = some m.cls := findClass_of_methodNamed Bd.named
  have hnm := (name_of_methodNamed Bd.named Bd.method).1
  have X0 : Stand p l e ({ frames := 1, cells := 0, slots := 0, locals := 15 } : Room) s m #[(.int p0), (.int p1), (.int p2), (.int p3)] below meth c s₁ [] 0 0 := Stand.of_body Bd
  have e0 : s₁.heap = h0 := by rw [← hh, Bd.state]; rfl
  have N0 := Fr.nil n0
  show own_Go p.tables e below (fun o U' => ∃ v L, o = .returned v ∧ own_Q8 Z p0 p1 p2 p3 h0 n0 v U'.heap L ∧ FrameEnd s o U' L ({ frames := 1, cells := 0, slots := 0, locals := 15 } : Room).cells ({ frames := 1, cells := 0, slots := 0, locals := 15 } : Room).slots) (s₁.setTop (entryFrame m #[(.int p0), (.int p1), (.int p2), (.int p3)] 8))
  refine own_go (fun _ k => castTop (ef8 m p0 p1 p2 p3) k) ?_
  show own_Go p.tables e below _ (s₁.setTop (mkF m 0 #[.val (.int p0), .val (.int p1), .val (.int p2), .val (.int p3), .unset, .unset, .unset, .unset] []))
  refine own_go (fun _ k => XS.iloadN X0.here hx rfl (hb hby d8_0) rfl k) ?_
  show own_Go p.tables e below _ (s₁.setTop (mkF m 1 #[.val (.int p0), .val (.int p1), .val (.int p2), .val (.int p3), .unset, .unset, .unset, .unset] [(.int p0)]))
  refine own_go (fun _ k => XS.i2l X0.here hx rfl (hb hby d8_1) rfl k) ?_
  show own_Go p.tables e below _ (s₁.setTop (mkF m 2 #[.val (.int p0), .val (.int p1), .val (.int p2), .val (.int p3), .unset, .unset, .unset, .unset] [(.long (p0.toInt64))]))
  refine own_go (fun _ k => XS.iloadN X0.here hx rfl (hb hby d8_2) rfl k) ?_
  show own_Go p.tables e below _ (s₁.setTop (mkF m 3 #[.val (.int p0), .val (.int p1), .val (.int p2), .val (.int p3), .unset, .unset, .unset, .unset] [(.int p2), (.long (p0.toInt64))]))
  refine own_go (fun _ k => XS.i2l X0.here hx rfl (hb hby d8_3) rfl k) ?_
  show own_Go p.tables e below _ (s₁.setTop (mkF m 4 #[.val (.int p0), .val (.int p1), .val (.int p2), .val (.int p3), .unset, .unset, .unset, .unset] [(.long (p2.toInt64)), (.long (p0.toInt64))]))
  obtain ⟨_, _, ⟨T1, L1, k1, n1⟩, -, X1, ⟨Lc1, hQ1, l1, y1, z1⟩, st1⟩ := Jvm.LawKit.callS X0 hx (y := (⟨"java/lang/Math", "max", "(JJ)J"⟩ : MethodName)) hown (mvT hZ (hw _ (List.mem_of_getElem? (i := 50) rfl))) (mvT hZ (hw _ (List.mem_of_getElem? (i := 51) rfl))) (mvT hZ (hw _ (List.mem_of_getElem? (i := 52) rfl))) (mvT hZ (hw _ (List.mem_of_getElem? (i := 53) rfl))) (by decide) (backOf (W := 0) (rm6 l Z az hw [] (p0.toInt64) (p2.toInt64) h0 n0 Z0) hZ (hw _ (List.mem_of_getElem? (i := 53) rfl)) (hw _ (List.mem_of_getElem? (i := 52) rfl)) (by decide) (by decide)) (g := (mkF m 4 #[.val (.int p0), .val (.int p1), .val (.int p2), .val (.int p3), .unset, .unset, .unset, .unset] [(.long (p2.toInt64)), (.long (p0.toInt64))])) rfl (by rw [hml]; rfl) (argsL := [(.long (p0.toInt64)), (.long (p2.toInt64))]) (rest := []) (lenOf pd8_0 rfl) rfl (by show 2 * 0 + _ ≤ _; exact Nat.le_of_eq rfl) (hb hby d8_4) (fun _ _ => ⟨rfl, e0, (by decide : 0 + 0 ≤ _), (by decide : 0 + 0 ≤ _)⟩)
  dsimp only [Pt.U, Pt.locs, Pt.cells, Pt.slots] at X1 l1 y1 z1 st1 hQ1
  subst l1 y1 z1
  refine own_go st1 ?_
  obtain ⟨rfl, N1q, e1⟩ := hQ1
  have N1 := Fr.app N0 N1q
  show own_Go p.tables e below _ (T1.setTop (mkF m 7 #[.val (.int p0), .val (.int p1), .val (.int p2), .val (.int p3), .unset, .unset, .unset, .unset] [(.long (own_f6 (p0.toInt64) (p2.toInt64)))]))
  refine own_go (fun _ k => XS.lstore X1.here hx rfl (hb hby d8_7) rfl (l' := #[.val (.int p0), .val (.int p1), .val (.int p2), .val (.int p3), .val (.long (own_f6 (p0.toInt64) (p2.toInt64))), .second, .unset, .unset]) rfl k) ?_
  show own_Go p.tables e below _ (T1.setTop (mkF m 9 #[.val (.int p0), .val (.int p1), .val (.int p2), .val (.int p3), .val (.long (own_f6 (p0.toInt64) (p2.toInt64))), .second, .unset, .unset] []))
  refine own_go (fun _ k => XS.iloadN X1.here hx rfl (hb hby d8_9) rfl k) ?_
  show own_Go p.tables e below _ (T1.setTop (mkF m 10 #[.val (.int p0), .val (.int p1), .val (.int p2), .val (.int p3), .val (.long (own_f6 (p0.toInt64) (p2.toInt64))), .second, .unset, .unset] [(.int p0)]))
  refine own_go (fun _ k => XS.i2l X1.here hx rfl (hb hby d8_10) rfl k) ?_
  show own_Go p.tables e below _ (T1.setTop (mkF m 11 #[.val (.int p0), .val (.int p1), .val (.int p2), .val (.int p3), .val (.long (own_f6 (p0.toInt64) (p2.toInt64))), .second, .unset, .unset] [(.long (p0.toInt64))]))
  refine own_go (fun _ k => XS.iloadN X1.here hx rfl (hb hby d8_11) rfl k) ?_
  show own_Go p.tables e below _ (T1.setTop (mkF m 12 #[.val (.int p0), .val (.int p1), .val (.int p2), .val (.int p3), .val (.long (own_f6 (p0.toInt64) (p2.toInt64))), .second, .unset, .unset] [(.int p1), (.long (p0.toInt64))]))
  refine own_go (fun _ k => XS.i2l X1.here hx rfl (hb hby d8_12) rfl k) ?_
  show own_Go p.tables e below _ (T1.setTop (mkF m 13 #[.val (.int p0), .val (.int p1), .val (.int p2), .val (.int p3), .val (.long (own_f6 (p0.toInt64) (p2.toInt64))), .second, .unset, .unset] [(.long (p1.toInt64)), (.long (p0.toInt64))]))
  refine own_go (fun _ k => XS.ladd X1.here hx rfl (hb hby d8_13) rfl k) ?_
  show own_Go p.tables e below _ (T1.setTop (mkF m 14 #[.val (.int p0), .val (.int p1), .val (.int p2), .val (.int p3), .val (.long (own_f6 (p0.toInt64) (p2.toInt64))), .second, .unset, .unset] [(.long ((p0.toInt64) + (p1.toInt64)))]))
  refine own_go (fun _ k => XS.iloadN X1.here hx rfl (hb hby d8_14) rfl k) ?_
  show own_Go p.tables e below _ (T1.setTop (mkF m 15 #[.val (.int p0), .val (.int p1), .val (.int p2), .val (.int p3), .val (.long (own_f6 (p0.toInt64) (p2.toInt64))), .second, .unset, .unset] [(.int p2), (.long ((p0.toInt64) + (p1.toInt64)))]))
  refine own_go (fun _ k => XS.i2l X1.here hx rfl (hb hby d8_15) rfl k) ?_
  show own_Go p.tables e below _ (T1.setTop (mkF m 16 #[.val (.int p0), .val (.int p1), .val (.int p2), .val (.int p3), .val (.long (own_f6 (p0.toInt64) (p2.toInt64))), .second, .unset, .unset] [(.long (p2.toInt64)), (.long ((p0.toInt64) + (p1.toInt64)))]))
  refine own_go (fun _ k => XS.iloadN X1.here hx rfl (hb hby d8_16) rfl k) ?_
  show own_Go p.tables e below _ (T1.setTop (mkF m 17 #[.val (.int p0), .val (.int p1), .val (.int p2), .val (.int p3), .val (.long (own_f6 (p0.toInt64) (p2.toInt64))), .second, .unset, .unset] [(.int p3), (.long (p2.toInt64)), (.long ((p0.toInt64) + (p1.toInt64)))]))
  refine own_go (fun _ k => XS.i2l X1.here hx rfl (hb hby d8_17) rfl k) ?_
  show own_Go p.tables e below _ (T1.setTop (mkF m 18 #[.val (.int p0), .val (.int p1), .val (.int p2), .val (.int p3), .val (.long (own_f6 (p0.toInt64) (p2.toInt64))), .second, .unset, .unset] [(.long (p3.toInt64)), (.long (p2.toInt64)), (.long ((p0.toInt64) + (p1.toInt64)))]))
  refine own_go (fun _ k => XS.ladd X1.here hx rfl (hb hby d8_18) rfl k) ?_
  show own_Go p.tables e below _ (T1.setTop (mkF m 19 #[.val (.int p0), .val (.int p1), .val (.int p2), .val (.int p3), .val (.long (own_f6 (p0.toInt64) (p2.toInt64))), .second, .unset, .unset] [(.long ((p2.toInt64) + (p3.toInt64))), (.long ((p0.toInt64) + (p1.toInt64)))]))
  obtain ⟨_, _, ⟨T2, L2, k2, n2⟩, -, X2, ⟨Lc2, hQ2, l2, y2, z2⟩, st2⟩ := Jvm.LawKit.callS X1 hx (y := (⟨"java/lang/Math", "min", "(JJ)J"⟩ : MethodName)) hown (mvT hZ (hw _ (List.mem_of_getElem? (i := 54) rfl))) (mvT hZ (hw _ (List.mem_of_getElem? (i := 55) rfl))) (mvT hZ (hw _ (List.mem_of_getElem? (i := 52) rfl))) (mvT hZ (hw _ (List.mem_of_getElem? (i := 56) rfl))) (by decide) (backOf (W := 0) (rm7 l Z az hw [] ((p0.toInt64) + (p1.toInt64)) ((p2.toInt64) + (p3.toInt64)) h0 n0 Z0) hZ (hw _ (List.mem_of_getElem? (i := 56) rfl)) (hw _ (List.mem_of_getElem? (i := 52) rfl)) (by decide) (by decide)) (g := (mkF m 19 #[.val (.int p0), .val (.int p1), .val (.int p2), .val (.int p3), .val (.long (own_f6 (p0.toInt64) (p2.toInt64))), .second, .unset, .unset] [(.long ((p2.toInt64) + (p3.toInt64))), (.long ((p0.toInt64) + (p1.toInt64)))])) rfl (by rw [hml]; rfl) (argsL := [(.long ((p0.toInt64) + (p1.toInt64))), (.long ((p2.toInt64) + (p3.toInt64)))]) (rest := []) (lenOf pd8_0 rfl) rfl (by show 2 * 0 + _ ≤ _; exact Nat.le_of_eq rfl) (hb hby d8_19) (fun _ _ => ⟨rfl, (e1 : T1.heap = h0), (by decide : 0 + 0 ≤ _), (by decide : 0 + 0 ≤ _)⟩)
  dsimp only [Pt.U, Pt.locs, Pt.cells, Pt.slots] at X2 l2 y2 z2 st2 hQ2
  subst l2 y2 z2
  refine own_go st2 ?_
  obtain ⟨rfl, N2q, e2⟩ := hQ2
  have N2 := Fr.app N1 N2q
  show own_Go p.tables e below _ (T2.setTop (mkF m 22 #[.val (.int p0), .val (.int p1), .val (.int p2), .val (.int p3), .val (.long (own_f6 (p0.toInt64) (p2.toInt64))), .second, .unset, .unset] [(.long (own_f7 ((p0.toInt64) + (p1.toInt64)) ((p2.toInt64) + (p3.toInt64))))]))
  refine own_go (fun _ k => XS.lstore X2.here hx rfl (hb hby d8_22) rfl (l' := #[.val (.int p0), .val (.int p1), .val (.int p2), .val (.int p3), .val (.long (own_f6 (p0.toInt64) (p2.toInt64))), .second, .val (.long (own_f7 ((p0.toInt64) + (p1.toInt64)) ((p2.toInt64) + (p3.toInt64)))), .second]) rfl k) ?_
  show own_Go p.tables e below _ (T2.setTop (mkF m 24 #[.val (.int p0), .val (.int p1), .val (.int p2), .val (.int p3), .val (.long (own_f6 (p0.toInt64) (p2.toInt64))), .second, .val (.long (own_f7 ((p0.toInt64) + (p1.toInt64)) ((p2.toInt64) + (p3.toInt64)))), .second] []))
  refine own_go (fun _ k => XS.lload X2.here hx rfl (hb hby d8_24) rfl k) ?_
  show own_Go p.tables e below _ (T2.setTop (mkF m 26 #[.val (.int p0), .val (.int p1), .val (.int p2), .val (.int p3), .val (.long (own_f6 (p0.toInt64) (p2.toInt64))), .second, .val (.long (own_f7 ((p0.toInt64) + (p1.toInt64)) ((p2.toInt64) + (p3.toInt64)))), .second] [(.long (own_f6 (p0.toInt64) (p2.toInt64)))]))
  refine own_go (fun _ k => XS.lload X2.here hx rfl (hb hby d8_26) rfl k) ?_
  show own_Go p.tables e below _ (T2.setTop (mkF m 28 #[.val (.int p0), .val (.int p1), .val (.int p2), .val (.int p3), .val (.long (own_f6 (p0.toInt64) (p2.toInt64))), .second, .val (.long (own_f7 ((p0.toInt64) + (p1.toInt64)) ((p2.toInt64) + (p3.toInt64)))), .second] [(.long (own_f7 ((p0.toInt64) + (p1.toInt64)) ((p2.toInt64) + (p3.toInt64)))), (.long (own_f6 (p0.toInt64) (p2.toInt64)))]))
  refine own_go (fun _ k => XS.lcmp X2.here hx rfl (hb hby d8_28) rfl k) ?_
  show own_Go p.tables e below _ (T2.setTop (mkF m 29 #[.val (.int p0), .val (.int p1), .val (.int p2), .val (.int p3), .val (.long (own_f6 (p0.toInt64) (p2.toInt64))), .second, .val (.long (own_f7 ((p0.toInt64) + (p1.toInt64)) ((p2.toInt64) + (p3.toInt64)))), .second] [(.int (lcmpW (own_f6 (p0.toInt64) (p2.toInt64)) (own_f7 ((p0.toInt64) + (p1.toInt64)) ((p2.toInt64) + (p3.toInt64)))))]))
  by_cases hc29 : (own_f7 ((p0.toInt64) + (p1.toInt64)) ((p2.toInt64) + (p3.toInt64))) < (own_f6 (p0.toInt64) (p2.toInt64))
  · refine own_go (fun _ k => XS.ifYes X2.here hx rfl (pc0 := 29) (pc' := 36) rfl (hb hby d8_29) rfl ((if0 _ _).trans (tlt ((lw_gt (own_f6 (p0.toInt64) (p2.toInt64)) (own_f7 ((p0.toInt64) + (p1.toInt64)) ((p2.toInt64) + (p3.toInt64)))).mpr hc29)).2.2.1) (by decide) (by decide) k) ?_
    show own_Go p.tables e below _ (T2.setTop (mkF m 36 #[.val (.int p0), .val (.int p1), .val (.int p2), .val (.int p3), .val (.long (own_f6 (p0.toInt64) (p2.toInt64))), .second, .val (.long (own_f7 ((p0.toInt64) + (p1.toInt64)) ((p2.toInt64) + (p3.toInt64)))), .second] []))
    refine own_go (fun _ k => XS.iconst X2.here hx rfl (hb hby d8_36) k) ?_
    show own_Go p.tables e below _ (T2.setTop (mkF m 37 #[.val (.int p0), .val (.int p1), .val (.int p2), .val (.int p3), .val (.long (own_f6 (p0.toInt64) (p2.toInt64))), .second, .val (.long (own_f7 ((p0.toInt64) + (p1.toInt64)) ((p2.toInt64) + (p3.toInt64)))), .second] [(.int (0 : Int32))]))
    refine own_end X2 Bd.notSynchronized (v := some (.int (0 : Int32))) (fun h => by rw [Bd.returns] at h; cases h) (fun fs hr => retN X2 hx (t := .boolean) Bd.returns (by simp) (hb hby d8_37) hr) ?_ (by decide) (by decide)
    exact ⟨by rw [own_f8, if_pos hc29], N2, (e2 : T2.heap = h0)⟩
  · refine own_go (fun _ k => XS.ifNo X2.here hx rfl (hb hby d8_29) rfl ((if0 _ _).trans (flt (mt (lw_gt (own_f6 (p0.toInt64) (p2.toInt64)) (own_f7 ((p0.toInt64) + (p1.toInt64)) ((p2.toInt64) + (p3.toInt64)))).mp hc29)).2.2.1) k) ?_
    show own_Go p.tables e below _ (T2.setTop (mkF m 32 #[.val (.int p0), .val (.int p1), .val (.int p2), .val (.int p3), .val (.long (own_f6 (p0.toInt64) (p2.toInt64))), .second, .val (.long (own_f7 ((p0.toInt64) + (p1.toInt64)) ((p2.toInt64) + (p3.toInt64)))), .second] []))
    refine own_go (fun _ k => XS.iconst X2.here hx rfl (hb hby d8_32) k) ?_
    show own_Go p.tables e below _ (T2.setTop (mkF m 33 #[.val (.int p0), .val (.int p1), .val (.int p2), .val (.int p3), .val (.long (own_f6 (p0.toInt64) (p2.toInt64))), .second, .val (.long (own_f7 ((p0.toInt64) + (p1.toInt64)) ((p2.toInt64) + (p3.toInt64)))), .second] [(.int (1 : Int32))]))
    refine own_go (fun _ k => XS.goto X2.here hx rfl (pc0 := 33) (pc' := 37) rfl (hb hby d8_33) (by decide) (by decide) k) ?_
    show own_Go p.tables e below _ (T2.setTop (mkF m 37 #[.val (.int p0), .val (.int p1), .val (.int p2), .val (.int p3), .val (.long (own_f6 (p0.toInt64) (p2.toInt64))), .second, .val (.long (own_f7 ((p0.toInt64) + (p1.toInt64)) ((p2.toInt64) + (p3.toInt64)))), .second] [(.int (1 : Int32))]))
    refine own_end X2 Bd.notSynchronized (v := some (.int (1 : Int32))) (fun h => by rw [Bd.returns] at h; cases h) (fun fs hr => retN X2 hx (t := .boolean) Bd.returns (by simp) (hb hby d8_37) hr) ?_ (by decide) (by decide)
    exact ⟨by rw [own_f8, if_neg hc29], N2, (e2 : T2.heap = h0)⟩
def own_f9 (wx : Int32) (wy : Int32) (ww : Int32) (wh : Int32) (ux : Int32) (uy : Int32) (uw : Int32) (uh : Int32) : Int32 :=
  (if (ux + uw) < wx then (0 : Int32) else (if (wx + ww) < ux then (0 : Int32) else (if (uy + uh) < wy then (0 : Int32) else (if (wy + wh) < uy then (0 : Int32) else (1 : Int32)))))
theorem d9_0 : decode prog_5_method_3_code 0 = .ok (.aload_n 0, 1) := by decide +kernel
theorem d9_1 : decode prog_5_method_3_code 1 = .ok (.getfield 33, 3) := by decide +kernel
theorem d9_4 : decode prog_5_method_3_code 4 = .ok (.aload_n 1, 1) := by decide +kernel
theorem d9_5 : decode prog_5_method_3_code 5 = .ok (.getfield 33, 3) := by decide +kernel
theorem d9_8 : decode prog_5_method_3_code 8 = .ok (.aload_n 1, 1) := by decide +kernel
theorem d9_9 : decode prog_5_method_3_code 9 = .ok (.getfield 40, 3) := by decide +kernel
theorem d9_12 : decode prog_5_method_3_code 12 = .ok (.iadd, 1) := by decide +kernel
theorem d9_13 : decode prog_5_method_3_code 13 = .ok (.if_icmp .gt 55, 3) := by decide +kernel
theorem d9_16 : decode prog_5_method_3_code 16 = .ok (.aload_n 1, 1) := by decide +kernel
theorem d9_17 : decode prog_5_method_3_code 17 = .ok (.getfield 33, 3) := by decide +kernel
theorem d9_20 : decode prog_5_method_3_code 20 = .ok (.aload_n 0, 1) := by decide +kernel
theorem d9_21 : decode prog_5_method_3_code 21 = .ok (.getfield 33, 3) := by decide +kernel
theorem d9_24 : decode prog_5_method_3_code 24 = .ok (.aload_n 0, 1) := by decide +kernel
theorem d9_25 : decode prog_5_method_3_code 25 = .ok (.getfield 40, 3) := by decide +kernel
theorem d9_28 : decode prog_5_method_3_code 28 = .ok (.iadd, 1) := by decide +kernel
theorem d9_29 : decode prog_5_method_3_code 29 = .ok (.if_icmp .gt 39, 3) := by decide +kernel
theorem d9_32 : decode prog_5_method_3_code 32 = .ok (.aload_n 0, 1) := by decide +kernel
theorem d9_33 : decode prog_5_method_3_code 33 = .ok (.getfield 37, 3) := by decide +kernel
theorem d9_36 : decode prog_5_method_3_code 36 = .ok (.aload_n 1, 1) := by decide +kernel
theorem d9_37 : decode prog_5_method_3_code 37 = .ok (.getfield 37, 3) := by decide +kernel
theorem d9_40 : decode prog_5_method_3_code 40 = .ok (.aload_n 1, 1) := by decide +kernel
theorem d9_41 : decode prog_5_method_3_code 41 = .ok (.getfield 43, 3) := by decide +kernel
theorem d9_44 : decode prog_5_method_3_code 44 = .ok (.iadd, 1) := by decide +kernel
theorem d9_45 : decode prog_5_method_3_code 45 = .ok (.if_icmp .gt 23, 3) := by decide +kernel
theorem d9_48 : decode prog_5_method_3_code 48 = .ok (.aload_n 1, 1) := by decide +kernel
theorem d9_49 : decode prog_5_method_3_code 49 = .ok (.getfield 37, 3) := by decide +kernel
theorem d9_52 : decode prog_5_method_3_code 52 = .ok (.aload_n 0, 1) := by decide +kernel
theorem d9_53 : decode prog_5_method_3_code 53 = .ok (.getfield 37, 3) := by decide +kernel
theorem d9_56 : decode prog_5_method_3_code 56 = .ok (.aload_n 0, 1) := by decide +kernel
theorem d9_57 : decode prog_5_method_3_code 57 = .ok (.getfield 43, 3) := by decide +kernel
theorem d9_60 : decode prog_5_method_3_code 60 = .ok (.iadd, 1) := by decide +kernel
theorem d9_61 : decode prog_5_method_3_code 61 = .ok (.if_icmp .gt 7, 3) := by decide +kernel
theorem d9_64 : decode prog_5_method_3_code 64 = .ok (.iconst 1, 1) := by decide +kernel
theorem d9_65 : decode prog_5_method_3_code 65 = .ok (.goto 4, 3) := by decide +kernel
theorem d9_68 : decode prog_5_method_3_code 68 = .ok (.iconst 0, 1) := by decide +kernel
theorem d9_69 : decode prog_5_method_3_code 69 = .ok (.ireturn, 1) := by decide +kernel
theorem pn9 : plainName "com/example/dialplane/dialplane/engine/Area" = true := by first | (simp [plainName, overriddenIn]; done) | decide +kernel
theorem ef9 (m : MethodId) (a0 : Addr) (a1 : Addr) : entryFrame m #[(.ref a0), (.ref a1)] 2 = mkF m 0 #[.val (.ref a0), .val (.ref a1)] [] := by first | (simp [entryFrame, mkF, argsToLocals, Value.category]; done) | rfl
def own_Q9 (Z : State) (a0 : Addr) (a1 : Addr) (wx : Int32) (wy : Int32) (ww : Int32) (wh : Int32) (ux : Int32) (uy : Int32) (uw : Int32) (uh : Int32) (h0 : Heap) (n0 : Nat) (v : Option Value) (h : Heap) (L : List Loc) : Prop := v = some (.int (own_f9 wx wy ww wh ux uy uw uh)) ∧ Fr n0 L ∧ h = h0
set_option maxRecDepth 65536 in
set_option maxHeartbeats 40000000 in
theorem rm9 (l : Launch) (Z : State) (az : Array Value) (hw : ∀ d ∈ tables_1, d.before az Z = true) (ws : List Jvm.Cond) (a0 : Addr) (a1 : Addr) (wx : Int32) (wy : Int32) (ww : Int32) (wh : Int32) (ux : Int32) (uy : Int32) (uw : Int32) (uh : Int32) (h0 : Heap) (n0 : Nat) (Z0 : n0 ≤ h0.size) (F_a0_x : Fld Z h0 a0 "com/example/dialplane/dialplane/engine/Area" "x" "I" (.int wx)) (F_a0_y : Fld Z h0 a0 "com/example/dialplane/dialplane/engine/Area" "y" "I" (.int wy)) (F_a0_width : Fld Z h0 a0 "com/example/dialplane/dialplane/engine/Area" "width" "I" (.int ww)) (F_a0_height : Fld Z h0 a0 "com/example/dialplane/dialplane/engine/Area" "height" "I" (.int wh)) (F_a1_x : Fld Z h0 a1 "com/example/dialplane/dialplane/engine/Area" "x" "I" (.int ux)) (F_a1_y : Fld Z h0 a1 "com/example/dialplane/dialplane/engine/Area" "y" "I" (.int uy)) (F_a1_width : Fld Z h0 a1 "com/example/dialplane/dialplane/engine/Area" "width" "I" (.int uw)) (F_a1_height : Fld Z h0 a1 "com/example/dialplane/dialplane/engine/Area" "height" "I" (.int uh)) :
    MetFree l (⟨"com/example/dialplane/dialplane/engine/Area", "touches", "(Lcom/example/dialplane/dialplane/engine/Area;)Z"⟩ : MethodName) (head1 (Jvm.Cond.code (⟨"com/example/dialplane/dialplane/engine/Area", "touches", "(Lcom/example/dialplane/dialplane/engine/Area;)Z"⟩ : MethodName) prog_5_method_3_code 2 (some .boolean) :: ws) ({ frames := 0, cells := 0, slots := 0, locals := 0 } : Room)) (fun a U => a = #[(.ref a0), (.ref a1)] ∧ Z.Warmed39 U.vm ∧ U.heap = h0) (fun _ _ _ _ _ => True) (fun _ U o U' => ∃ v L, o = .returned v ∧ own_Q9 Z a0 a1 wx wy ww wh ux uy uw uh h0 n0 v U'.heap L ∧ FrameEnd U o U' L ({ frames := 0, cells := 0, slots := 0, locals := 0 } : Room).cells ({ frames := 0, cells := 0, slots := 0, locals := 0 } : Room).slots) := by
  refine MetFree.of_bodySF (plainFor_of_name pn9) hisR ?_
  intro p e s m args below meth c s₁ Bd hml0 hP hK
  obtain ⟨rfl, hZ, hh⟩ := hP
  have hx := Bd.exec
  have hby := Bd.bytes
  have hml : c.maxLocals = 2 := hml0
  have hown : s.vm.findClass "com/example/dialplane/dialplane/engine/Area" = some m.cls := findClass_of_methodNamed Bd.named
  have hnm := (name_of_methodNamed Bd.named Bd.method).1
  have X0 : Stand p l e ({ frames := 0, cells := 0, slots := 0, locals := 0 } : Room) s m #[(.ref a0), (.ref a1)] below meth c s₁ [] 0 0 := Stand.of_body Bd
  have e0 : s₁.heap = h0 := by rw [← hh, Bd.state]; rfl
  have N0 := Fr.nil n0
  show own_Go p.tables e below (fun o U' => ∃ v L, o = .returned v ∧ own_Q9 Z a0 a1 wx wy ww wh ux uy uw uh h0 n0 v U'.heap L ∧ FrameEnd s o U' L ({ frames := 0, cells := 0, slots := 0, locals := 0 } : Room).cells ({ frames := 0, cells := 0, slots := 0, locals := 0 } : Room).slots) (s₁.setTop (entryFrame m #[(.ref a0), (.ref a1)] 2))
  refine own_go (fun _ k => castTop (ef9 m a0 a1) k) ?_
  show own_Go p.tables e below _ (s₁.setTop (mkF m 0 #[.val (.ref a0), .val (.ref a1)] []))
  refine own_go (fun _ k => XS.aloadN X0.here hx rfl (hb hby d9_0) rfl rfl k) ?_
  show own_Go p.tables e below _ (s₁.setTop (mkF m 1 #[.val (.ref a0), .val (.ref a1)] [(.ref a0)]))
  obtain ⟨T1, X1, e1, st1⟩ := getF X0 hx hZ hown (host := "") (Or.inl (hw _ (List.mem_of_getElem? (i := 38) rfl))) Via.refl e0 F_a0_x (g := (mkF m 1 #[.val (.ref a0), .val (.ref a1)] [(.ref a0)])) rfl rfl (hb hby d9_1)
  refine own_go st1 ?_
  show own_Go p.tables e below _ (T1.setTop (mkF m 4 #[.val (.ref a0), .val (.ref a1)] [(.int wx)]))
  refine own_go (fun _ k => XS.aloadN X1.here hx rfl (hb hby d9_4) rfl rfl k) ?_
  show own_Go p.tables e below _ (T1.setTop (mkF m 5 #[.val (.ref a0), .val (.ref a1)] [(.ref a1), (.int wx)]))
  obtain ⟨T2, X2, e2, st2⟩ := getF X1 hx hZ hown (host := "") (Or.inl (hw _ (List.mem_of_getElem? (i := 38) rfl))) Via.refl e1 F_a1_x (g := (mkF m 5 #[.val (.ref a0), .val (.ref a1)] [(.ref a1), (.int wx)])) rfl rfl (hb hby d9_5)
  refine own_go st2 ?_
  show own_Go p.tables e below _ (T2.setTop (mkF m 8 #[.val (.ref a0), .val (.ref a1)] [(.int ux), (.int wx)]))
  refine own_go (fun _ k => XS.aloadN X2.here hx rfl (hb hby d9_8) rfl rfl k) ?_
  show own_Go p.tables e below _ (T2.setTop (mkF m 9 #[.val (.ref a0), .val (.ref a1)] [(.ref a1), (.int ux), (.int wx)]))
  obtain ⟨T3, X3, e3, st3⟩ := getF X2 hx hZ hown (host := "") (Or.inl (hw _ (List.mem_of_getElem? (i := 42) rfl))) Via.refl e2 F_a1_width (g := (mkF m 9 #[.val (.ref a0), .val (.ref a1)] [(.ref a1), (.int ux), (.int wx)])) rfl rfl (hb hby d9_9)
  refine own_go st3 ?_
  show own_Go p.tables e below _ (T3.setTop (mkF m 12 #[.val (.ref a0), .val (.ref a1)] [(.int uw), (.int ux), (.int wx)]))
  refine own_go (fun _ k => XS.iadd X3.here hx rfl (hb hby d9_12) rfl k) ?_
  show own_Go p.tables e below _ (T3.setTop (mkF m 13 #[.val (.ref a0), .val (.ref a1)] [(.int (ux + uw)), (.int wx)]))
  by_cases hc13 : (ux + uw) < wx
  · refine own_go (fun _ k => XS.icmpYes X3.here hx rfl (pc0 := 13) (pc' := 68) rfl (hb hby d9_13) rfl (tlt hc13).2.2.1 (by decide) (by decide) k) ?_
    show own_Go p.tables e below _ (T3.setTop (mkF m 68 #[.val (.ref a0), .val (.ref a1)] []))
    refine own_go (fun _ k => XS.iconst X3.here hx rfl (hb hby d9_68) k) ?_
    show own_Go p.tables e below _ (T3.setTop (mkF m 69 #[.val (.ref a0), .val (.ref a1)] [(.int (0 : Int32))]))
    refine own_end X3 Bd.notSynchronized (v := some (.int (0 : Int32))) (fun h => by rw [Bd.returns] at h; cases h) (fun fs hr => retN X3 hx (t := .boolean) Bd.returns (by simp) (hb hby d9_69) hr) ?_ (by decide) (by decide)
    exact ⟨by rw [own_f9, if_pos hc13], N0, e3⟩
  · refine own_go (fun _ k => XS.icmpNo X3.here hx rfl (hb hby d9_13) rfl (flt hc13).2.2.1 k) ?_
    show own_Go p.tables e below _ (T3.setTop (mkF m 16 #[.val (.ref a0), .val (.ref a1)] []))
    refine own_go (fun _ k => XS.aloadN X3.here hx rfl (hb hby d9_16) rfl rfl k) ?_
    show own_Go p.tables e below _ (T3.setTop (mkF m 17 #[.val (.ref a0), .val (.ref a1)] [(.ref a1)]))
    obtain ⟨T4, X4, e4, st4⟩ := getF X3 hx hZ hown (host := "") (Or.inl (hw _ (List.mem_of_getElem? (i := 38) rfl))) Via.refl e3 F_a1_x (g := (mkF m 17 #[.val (.ref a0), .val (.ref a1)] [(.ref a1)])) rfl rfl (hb hby d9_17)
    refine own_go st4 ?_
    show own_Go p.tables e below _ (T4.setTop (mkF m 20 #[.val (.ref a0), .val (.ref a1)] [(.int ux)]))
    refine own_go (fun _ k => XS.aloadN X4.here hx rfl (hb hby d9_20) rfl rfl k) ?_
    show own_Go p.tables e below _ (T4.setTop (mkF m 21 #[.val (.ref a0), .val (.ref a1)] [(.ref a0), (.int ux)]))
    obtain ⟨T5, X5, e5, st5⟩ := getF X4 hx hZ hown (host := "") (Or.inl (hw _ (List.mem_of_getElem? (i := 38) rfl))) Via.refl e4 F_a0_x (g := (mkF m 21 #[.val (.ref a0), .val (.ref a1)] [(.ref a0), (.int ux)])) rfl rfl (hb hby d9_21)
    refine own_go st5 ?_
    show own_Go p.tables e below _ (T5.setTop (mkF m 24 #[.val (.ref a0), .val (.ref a1)] [(.int wx), (.int ux)]))
    refine own_go (fun _ k => XS.aloadN X5.here hx rfl (hb hby d9_24) rfl rfl k) ?_
    show own_Go p.tables e below _ (T5.setTop (mkF m 25 #[.val (.ref a0), .val (.ref a1)] [(.ref a0), (.int wx), (.int ux)]))
    obtain ⟨T6, X6, e6, st6⟩ := getF X5 hx hZ hown (host := "") (Or.inl (hw _ (List.mem_of_getElem? (i := 42) rfl))) Via.refl e5 F_a0_width (g := (mkF m 25 #[.val (.ref a0), .val (.ref a1)] [(.ref a0), (.int wx), (.int ux)])) rfl rfl (hb hby d9_25)
    refine own_go st6 ?_
    show own_Go p.tables e below _ (T6.setTop (mkF m 28 #[.val (.ref a0), .val (.ref a1)] [(.int ww), (.int wx), (.int ux)]))
    refine own_go (fun _ k => XS.iadd X6.here hx rfl (hb hby d9_28) rfl k) ?_
    show own_Go p.tables e below _ (T6.setTop (mkF m 29 #[.val (.ref a0), .val (.ref a1)] [(.int (wx + ww)), (.int ux)]))
    by_cases hc29 : (wx + ww) < ux
    · refine own_go (fun _ k => XS.icmpYes X6.here hx rfl (pc0 := 29) (pc' := 68) rfl (hb hby d9_29) rfl (tlt hc29).2.2.1 (by decide) (by decide) k) ?_
      show own_Go p.tables e below _ (T6.setTop (mkF m 68 #[.val (.ref a0), .val (.ref a1)] []))
      refine own_go (fun _ k => XS.iconst X6.here hx rfl (hb hby d9_68) k) ?_
      show own_Go p.tables e below _ (T6.setTop (mkF m 69 #[.val (.ref a0), .val (.ref a1)] [(.int (0 : Int32))]))
      refine own_end X6 Bd.notSynchronized (v := some (.int (0 : Int32))) (fun h => by rw [Bd.returns] at h; cases h) (fun fs hr => retN X6 hx (t := .boolean) Bd.returns (by simp) (hb hby d9_69) hr) ?_ (by decide) (by decide)
      exact ⟨by rw [own_f9, if_neg hc13, if_pos hc29], N0, e6⟩
    · refine own_go (fun _ k => XS.icmpNo X6.here hx rfl (hb hby d9_29) rfl (flt hc29).2.2.1 k) ?_
      show own_Go p.tables e below _ (T6.setTop (mkF m 32 #[.val (.ref a0), .val (.ref a1)] []))
      refine own_go (fun _ k => XS.aloadN X6.here hx rfl (hb hby d9_32) rfl rfl k) ?_
      show own_Go p.tables e below _ (T6.setTop (mkF m 33 #[.val (.ref a0), .val (.ref a1)] [(.ref a0)]))
      obtain ⟨T7, X7, e7, st7⟩ := getF X6 hx hZ hown (host := "") (Or.inl (hw _ (List.mem_of_getElem? (i := 40) rfl))) Via.refl e6 F_a0_y (g := (mkF m 33 #[.val (.ref a0), .val (.ref a1)] [(.ref a0)])) rfl rfl (hb hby d9_33)
      refine own_go st7 ?_
      show own_Go p.tables e below _ (T7.setTop (mkF m 36 #[.val (.ref a0), .val (.ref a1)] [(.int wy)]))
      refine own_go (fun _ k => XS.aloadN X7.here hx rfl (hb hby d9_36) rfl rfl k) ?_
      show own_Go p.tables e below _ (T7.setTop (mkF m 37 #[.val (.ref a0), .val (.ref a1)] [(.ref a1), (.int wy)]))
      obtain ⟨T8, X8, e8, st8⟩ := getF X7 hx hZ hown (host := "") (Or.inl (hw _ (List.mem_of_getElem? (i := 40) rfl))) Via.refl e7 F_a1_y (g := (mkF m 37 #[.val (.ref a0), .val (.ref a1)] [(.ref a1), (.int wy)])) rfl rfl (hb hby d9_37)
      refine own_go st8 ?_
      show own_Go p.tables e below _ (T8.setTop (mkF m 40 #[.val (.ref a0), .val (.ref a1)] [(.int uy), (.int wy)]))
      refine own_go (fun _ k => XS.aloadN X8.here hx rfl (hb hby d9_40) rfl rfl k) ?_
      show own_Go p.tables e below _ (T8.setTop (mkF m 41 #[.val (.ref a0), .val (.ref a1)] [(.ref a1), (.int uy), (.int wy)]))
      obtain ⟨T9, X9, e9, st9⟩ := getF X8 hx hZ hown (host := "") (Or.inl (hw _ (List.mem_of_getElem? (i := 44) rfl))) Via.refl e8 F_a1_height (g := (mkF m 41 #[.val (.ref a0), .val (.ref a1)] [(.ref a1), (.int uy), (.int wy)])) rfl rfl (hb hby d9_41)
      refine own_go st9 ?_
      show own_Go p.tables e below _ (T9.setTop (mkF m 44 #[.val (.ref a0), .val (.ref a1)] [(.int uh), (.int uy), (.int wy)]))
      refine own_go (fun _ k => XS.iadd X9.here hx rfl (hb hby d9_44) rfl k) ?_
      show own_Go p.tables e below _ (T9.setTop (mkF m 45 #[.val (.ref a0), .val (.ref a1)] [(.int (uy + uh)), (.int wy)]))
      by_cases hc45 : (uy + uh) < wy
      · refine own_go (fun _ k => XS.icmpYes X9.here hx rfl (pc0 := 45) (pc' := 68) rfl (hb hby d9_45) rfl (tlt hc45).2.2.1 (by decide) (by decide) k) ?_
        show own_Go p.tables e below _ (T9.setTop (mkF m 68 #[.val (.ref a0), .val (.ref a1)] []))
        refine own_go (fun _ k => XS.iconst X9.here hx rfl (hb hby d9_68) k) ?_
        show own_Go p.tables e below _ (T9.setTop (mkF m 69 #[.val (.ref a0), .val (.ref a1)] [(.int (0 : Int32))]))
        refine own_end X9 Bd.notSynchronized (v := some (.int (0 : Int32))) (fun h => by rw [Bd.returns] at h; cases h) (fun fs hr => retN X9 hx (t := .boolean) Bd.returns (by simp) (hb hby d9_69) hr) ?_ (by decide) (by decide)
        exact ⟨by rw [own_f9, if_neg hc13, if_neg hc29, if_pos hc45], N0, e9⟩
      · refine own_go (fun _ k => XS.icmpNo X9.here hx rfl (hb hby d9_45) rfl (flt hc45).2.2.1 k) ?_
        show own_Go p.tables e below _ (T9.setTop (mkF m 48 #[.val (.ref a0), .val (.ref a1)] []))
        refine own_go (fun _ k => XS.aloadN X9.here hx rfl (hb hby d9_48) rfl rfl k) ?_
        show own_Go p.tables e below _ (T9.setTop (mkF m 49 #[.val (.ref a0), .val (.ref a1)] [(.ref a1)]))
        obtain ⟨T10, X10, e10, st10⟩ := getF X9 hx hZ hown (host := "") (Or.inl (hw _ (List.mem_of_getElem? (i := 40) rfl))) Via.refl e9 F_a1_y (g := (mkF m 49 #[.val (.ref a0), .val (.ref a1)] [(.ref a1)])) rfl rfl (hb hby d9_49)
        refine own_go st10 ?_
        show own_Go p.tables e below _ (T10.setTop (mkF m 52 #[.val (.ref a0), .val (.ref a1)] [(.int uy)]))
        refine own_go (fun _ k => XS.aloadN X10.here hx rfl (hb hby d9_52) rfl rfl k) ?_
        show own_Go p.tables e below _ (T10.setTop (mkF m 53 #[.val (.ref a0), .val (.ref a1)] [(.ref a0), (.int uy)]))
        obtain ⟨T11, X11, e11, st11⟩ := getF X10 hx hZ hown (host := "") (Or.inl (hw _ (List.mem_of_getElem? (i := 40) rfl))) Via.refl e10 F_a0_y (g := (mkF m 53 #[.val (.ref a0), .val (.ref a1)] [(.ref a0), (.int uy)])) rfl rfl (hb hby d9_53)
        refine own_go st11 ?_
        show own_Go p.tables e below _ (T11.setTop (mkF m 56 #[.val (.ref a0), .val (.ref a1)] [(.int wy), (.int uy)]))
        refine own_go (fun _ k => XS.aloadN X11.here hx rfl (hb hby d9_56) rfl rfl k) ?_
        show own_Go p.tables e below _ (T11.setTop (mkF m 57 #[.val (.ref a0), .val (.ref a1)] [(.ref a0), (.int wy), (.int uy)]))
        obtain ⟨T12, X12, e12, st12⟩ := getF X11 hx hZ hown (host := "") (Or.inl (hw _ (List.mem_of_getElem? (i := 44) rfl))) Via.refl e11 F_a0_height (g := (mkF m 57 #[.val (.ref a0), .val (.ref a1)] [(.ref a0), (.int wy), (.int uy)])) rfl rfl (hb hby d9_57)
        refine own_go st12 ?_
        show own_Go p.tables e below _ (T12.setTop (mkF m 60 #[.val (.ref a0), .val (.ref a1)] [(.int wh), (.int wy), (.int uy)]))
        refine own_go (fun _ k => XS.iadd X12.here hx rfl (hb hby d9_60) rfl k) ?_
        show own_Go p.tables e below _ (T12.setTop (mkF m 61 #[.val (.ref a0), .val (.ref a1)] [(.int (wy + wh)), (.int uy)]))
        by_cases hc61 : (wy + wh) < uy
        · refine own_go (fun _ k => XS.icmpYes X12.here hx rfl (pc0 := 61) (pc' := 68) rfl (hb hby d9_61) rfl (tlt hc61).2.2.1 (by decide) (by decide) k) ?_
          show own_Go p.tables e below _ (T12.setTop (mkF m 68 #[.val (.ref a0), .val (.ref a1)] []))
          refine own_go (fun _ k => XS.iconst X12.here hx rfl (hb hby d9_68) k) ?_
          show own_Go p.tables e below _ (T12.setTop (mkF m 69 #[.val (.ref a0), .val (.ref a1)] [(.int (0 : Int32))]))
          refine own_end X12 Bd.notSynchronized (v := some (.int (0 : Int32))) (fun h => by rw [Bd.returns] at h; cases h) (fun fs hr => retN X12 hx (t := .boolean) Bd.returns (by simp) (hb hby d9_69) hr) ?_ (by decide) (by decide)
          exact ⟨by rw [own_f9, if_neg hc13, if_neg hc29, if_neg hc45, if_pos hc61], N0, e12⟩
        · refine own_go (fun _ k => XS.icmpNo X12.here hx rfl (hb hby d9_61) rfl (flt hc61).2.2.1 k) ?_
          show own_Go p.tables e below _ (T12.setTop (mkF m 64 #[.val (.ref a0), .val (.ref a1)] []))
          refine own_go (fun _ k => XS.iconst X12.here hx rfl (hb hby d9_64) k) ?_
          show own_Go p.tables e below _ (T12.setTop (mkF m 65 #[.val (.ref a0), .val (.ref a1)] [(.int (1 : Int32))]))
          refine own_go (fun _ k => XS.goto X12.here hx rfl (pc0 := 65) (pc' := 69) rfl (hb hby d9_65) (by decide) (by decide) k) ?_
          show own_Go p.tables e below _ (T12.setTop (mkF m 69 #[.val (.ref a0), .val (.ref a1)] [(.int (1 : Int32))]))
          refine own_end X12 Bd.notSynchronized (v := some (.int (1 : Int32))) (fun h => by rw [Bd.returns] at h; cases h) (fun fs hr => retN X12 hx (t := .boolean) Bd.returns (by simp) (hb hby d9_69) hr) ?_ (by decide) (by decide)
          exact ⟨by rw [own_f9, if_neg hc13, if_neg hc29, if_neg hc45, if_neg hc61], N0, e12⟩
theorem own_k : (0 : Int32).toInt = 0 ∧ (1 : Int32).toInt = 1 ∧ (2147483647 : Int32).toInt = 2147483647 ∧ (0 : Int64).toInt = 0 := by decide
theorem own_x {p x : Int32} (h : x = own_f4 p) : 0 ≤ x.toInt ∧ x.toInt < 2147483647 := by
  rw [own_f4] at h
  have e1 := c_mask p 2147483647 31 (by decide) (by decide)
  have e2 := c_irem (p &&& 2147483647) 2147483647 2147483647 (by decide)
  rw [← irem_eq_mod, ← h] at e2
  have r := rng32 p
  omega
theorem own_nz {x : Int32} (h : 0 ≤ x.toInt ∧ x.toInt < 2147483647) : ((2147483647 : Int32) - x).toInt = 2147483647 - x.toInt ∧ ((2147483647 : Int32) - x) ≠ 0 := by
  obtain ⟨k0, k1, k2, -⟩ := own_k
  have e := c_isub 2147483647 x
  have r := rng32 (2147483647 - x)
  have q : ((2147483647 : Int32) - x).toInt = 2147483647 - x.toInt := by omega
  refine ⟨q, fun z => ?_⟩
  rw [z, k0] at q; omega
theorem own_w {p x w : Int32} (hx : 0 ≤ x.toInt ∧ x.toInt < 2147483647) (h : w = own_f5 x p) : 1 ≤ w.toInt ∧ w.toInt ≤ 2147483647 - x.toInt := by
  rw [own_f5] at h
  obtain ⟨k0, k1, k2, -⟩ := own_k
  have e0 := own_nz hx
  have e1 := c_mask p 2147483647 31 (by decide) (by decide)
  have e2 := c_iremV (p &&& 2147483647) ((2147483647 : Int32) - x)
  rw [← irem_eq_mod] at e2
  obtain ⟨z, hz⟩ : ∃ z, z = ((p &&& 2147483647) - ((p &&& 2147483647) / ((2147483647 : Int32) - x)) * ((2147483647 : Int32) - x)) := ⟨_, rfl⟩
  rw [← hz] at e2 h
  have e3 := c_iadd 1 z
  rw [← h] at e3
  have r := rng32 w
  have r2 := rng32 p
  have e4 := e2.1 (by omega) (by omega)
  omega
theorem own_g {x w : Int32} (hx : 0 ≤ x.toInt ∧ x.toInt < 2147483647) (hw : 1 ≤ w.toInt ∧ w.toInt ≤ 2147483647 - x.toInt) : ¬ (x < (0 : Int32)) ∧ ¬ (w < (1 : Int32)) ∧ ¬ (((2147483647 : Int32) - x) < w) := by
  obtain ⟨k0, k1, k2, -⟩ := own_k
  have e0 := own_nz hx
  simp only [Int32.lt_iff_toInt_lt, k0, k1]
  omega
theorem own_max (a b : Int64) : (own_f6 a b).toInt = if a.toInt < b.toInt then b.toInt else a.toInt := by
  rw [own_f6]; simp only [Int64.lt_iff_toInt_lt]; split <;> rfl
theorem own_min (a b : Int64) : (own_f7 a b).toInt = if b.toInt < a.toInt then b.toInt else a.toInt := by
  rw [own_f7]; simp only [Int64.lt_iff_toInt_lt]; split <;> rfl
theorem own_f {a w b v : Int32} (ha : 0 ≤ a.toInt ∧ a.toInt < 2147483647) (hw : 1 ≤ w.toInt ∧ w.toInt ≤ 2147483647 - a.toInt) (hb : 0 ≤ b.toInt ∧ b.toInt < 2147483647) (hv : 1 ≤ v.toInt ∧ v.toInt ≤ 2147483647 - b.toInt) :
    (own_f8 a w b v = 0 ↔ (b + v < a ∨ a + w < b)) := by
  have e1 := c_i2l a
  have e2 := c_i2l w
  have e3 := c_i2l b
  have e4 := c_i2l v
  have e5 := c_ladd a.toInt64 w.toInt64
  have e6 := c_ladd b.toInt64 v.toInt64
  have r5 := rng64 (a.toInt64 + w.toInt64)
  have r6 := rng64 (b.toInt64 + v.toInt64)
  have e7 := c_iadd b v
  have r7 := rng32 (b + v)
  have e8 := c_iadd a w
  have r8 := rng32 (a + w)
  have q5 : (a.toInt64 + w.toInt64).toInt = a.toInt + w.toInt := by omega
  have q6 : (b.toInt64 + v.toInt64).toInt = b.toInt + v.toInt := by omega
  have q7 : (b + v).toInt = b.toInt + v.toInt := by omega
  have q8 : (a + w).toInt = a.toInt + w.toInt := by omega
  simp only [own_f8, Int64.lt_iff_toInt_lt, Int32.lt_iff_toInt_lt, own_max, own_min, q5, q6, q7, q8, e1, e3]
  clear e1 e2 e3 e4 e5 e6 e7 e8 r5 r6 r7 r8 q5 q6 q7 q8
  by_cases h1 : a.toInt < b.toInt <;> by_cases h2 : b.toInt + v.toInt < a.toInt + w.toInt <;> simp only [h1, h2, if_true, if_false]
  · by_cases h3 : b.toInt + v.toInt < b.toInt
    · rw [if_pos h3]; exact ⟨fun _ => by omega, fun _ => rfl⟩
    · rw [if_neg h3]; exact ⟨fun z => absurd z (by decide), fun z => by omega⟩
  · by_cases h3 : a.toInt + w.toInt < b.toInt
    · rw [if_pos h3]; exact ⟨fun _ => by omega, fun _ => rfl⟩
    · rw [if_neg h3]; exact ⟨fun z => absurd z (by decide), fun z => by omega⟩
  · by_cases h3 : b.toInt + v.toInt < a.toInt
    · rw [if_pos h3]; exact ⟨fun _ => by omega, fun _ => rfl⟩
    · rw [if_neg h3]; exact ⟨fun z => absurd z (by decide), fun z => by omega⟩
  · by_cases h3 : a.toInt + w.toInt < a.toInt
    · rw [if_pos h3]; exact ⟨fun _ => by omega, fun _ => rfl⟩
    · rw [if_neg h3]; exact ⟨fun z => absurd z (by decide), fun z => by omega⟩
theorem own_val {x y w h a b v k : Int32} (hx : 0 ≤ x.toInt ∧ x.toInt < 2147483647) (hw : 1 ≤ w.toInt ∧ w.toInt ≤ 2147483647 - x.toInt) (hy : 0 ≤ y.toInt ∧ y.toInt < 2147483647) (hh : 1 ≤ h.toInt ∧ h.toInt ≤ 2147483647 - y.toInt)
    (ha : 0 ≤ a.toInt ∧ a.toInt < 2147483647) (hv : 1 ≤ v.toInt ∧ v.toInt ≤ 2147483647 - a.toInt) (hb : 0 ≤ b.toInt ∧ b.toInt < 2147483647) (hk : 1 ≤ k.toInt ∧ k.toInt ≤ 2147483647 - b.toInt) :
    own_f9 x y w h a b v k = (if own_f8 x w a v = 0 then 0 else if own_f8 y h b k = 0 then 0 else 1) ∧ own_f9 a b v k x y w h = (if own_f8 x w a v = 0 then 0 else if own_f8 y h b k = 0 then 0 else 1) := by
  simp only [own_f hx hw ha hv, own_f hy hh hb hk, own_f9]
  by_cases h1 : a + v < x <;> by_cases h2 : x + w < a <;> by_cases h3 : b + k < y <;> by_cases h4 : y + h < b <;> simp [h1, h2, h3, h4]
theorem pn0 : plainName "com/example/dialplane/dialplane/engine/AreaTouchesPinLaw" = true := by first | (simp [plainName, overriddenIn]; done) | decide +kernel
theorem pd0_0 : parseMethodDescriptor "(I)I" = some ⟨[.int], some .int⟩ := by decide +kernel
theorem pd0_1 : parseMethodDescriptor "(II)I" = some ⟨[.int, .int], some .int⟩ := by decide +kernel
theorem pd0_2 : parseMethodDescriptor "(Ljava/lang/String;IIII)V" = some ⟨[(.object "java/lang/String"), .int, .int, .int, .int], none⟩ := by decide +kernel
theorem pd0_3 : parseMethodDescriptor "(IIII)Z" = some ⟨[.int, .int, .int, .int], some .boolean⟩ := by decide +kernel
theorem pd0_4 : parseMethodDescriptor "(Lcom/example/dialplane/dialplane/engine/Area;)Z" = some ⟨[(.object "com/example/dialplane/dialplane/engine/Area")], some .boolean⟩ := by decide +kernel
theorem ef0 (m : MethodId) (q0 : Int64) (q1 : Int64) (q2 : Int64) (q3 : Int64) : entryFrame m #[(.long q0), (.long q1), (.long q2), (.long q3)] maxLocals = mkF m 0 #[.val (.long q0), .second, .val (.long q1), .second, .val (.long q2), .second, .val (.long q3), .second, .unset, .unset, .unset, .unset, .unset, .unset, .unset, .unset, .unset, .unset, .unset, .unset, .unset] [] := by first | (simp [entryFrame, mkF, argsToLocals, Value.category, maxLocals]; done) | rfl
def own_Q0 (Z : State) (q0 : Int64) (q1 : Int64) (q2 : Int64) (q3 : Int64) (h0 : Heap) (n0 : Nat) (v : Option Value) (h : Heap) (L : List Loc) : Prop := v = some (.int 1) ∧ Fr n0 L
set_option maxRecDepth 65536 in
set_option maxHeartbeats 40000000 in
theorem rm0 (l : Launch) (Z : State) (az : Array Value) (hw : ∀ d ∈ tables_1, d.before az Z = true) (ws : List Jvm.Cond) (q0 : Int64) (q1 : Int64) (q2 : Int64) (q3 : Int64) (h0 : Heap) (n0 : Nat) (Z0 : n0 ≤ h0.size) :
    MetFree l x (head1 (Jvm.Cond.code x code maxLocals ret :: ws) room_1) (fun a U => a = #[(.long q0), (.long q1), (.long q2), (.long q3)] ∧ Z.Warmed39 U.vm ∧ U.heap = h0) (fun _ _ _ _ _ => True) (fun _ U o U' => ∃ v L, o = .returned v ∧ own_Q0 Z q0 q1 q2 q3 h0 n0 v U'.heap L ∧ ReturnedEndW U o U' L 24 3200) := by
  refine MetFree.of_bodySF (plainFor_of_name pn0) hisR ?_
  intro p e s m args below meth c s₁ Bd hml0 hP hK
  obtain ⟨rfl, hZ, hh⟩ := hP
  have hx := Bd.exec
  have hby := Bd.bytes
  have hml : c.maxLocals = 21 := hml0
  have hZ : Z.Warmed39 (s.setVm s.vm).vm := hZ
  have hown : (s.setVm s.vm).vm.findClass "com/example/dialplane/dialplane/engine/AreaTouchesPinLaw" = some m.cls := findClass_of_methodNamed Bd.named
  have hnm := (name_of_methodNamed Bd.named Bd.method).1
  have X0 : Stand p l e room_1 (s.setVm s.vm) m #[(.long q0), (.long q1), (.long q2), (.long q3)] below meth c s₁ [] 0 0 := by rw [State.setVm_self]; exact Stand.of_body Bd
  have e0 : s₁.heap = h0 := by rw [← hh, Bd.state]; rfl
  have N0 := Fr.nil n0
  have hS : s.Since s.vm h0.size := (State.WarmedH.refl s).since _
  have hk : h0.size ≤ h0.size := Nat.le_refl _
  show own_Go p.tables e below (fun o U' => ∃ v L, o = .returned v ∧ own_Q0 Z q0 q1 q2 q3 h0 n0 v U'.heap L ∧ ReturnedEndW s o U' L 24 3200) (s₁.setTop (entryFrame m #[(.long q0), (.long q1), (.long q2), (.long q3)] maxLocals))
  refine own_go (fun _ k => castTop (ef0 m q0 q1 q2 q3) k) ?_
  show own_Go p.tables e below _ (s₁.setTop (mkF m 0 #[.val (.long q0), .second, .val (.long q1), .second, .val (.long q2), .second, .val (.long q3), .second, .unset, .unset, .unset, .unset, .unset, .unset, .unset, .unset, .unset, .unset, .unset, .unset, .unset] []))
  refine own_go (fun _ k => XS.lloadN X0.here hx rfl (hb hby at_0) rfl k) ?_
  show own_Go p.tables e below _ (s₁.setTop (mkF m 1 #[.val (.long q0), .second, .val (.long q1), .second, .val (.long q2), .second, .val (.long q3), .second, .unset, .unset, .unset, .unset, .unset, .unset, .unset, .unset, .unset, .unset, .unset, .unset, .unset] [(.long q0)]))
  refine own_go (fun _ k => XS.l2i X0.here hx rfl (hb hby at_1) rfl k) ?_
  show own_Go p.tables e below _ (s₁.setTop (mkF m 2 #[.val (.long q0), .second, .val (.long q1), .second, .val (.long q2), .second, .val (.long q3), .second, .unset, .unset, .unset, .unset, .unset, .unset, .unset, .unset, .unset, .unset, .unset, .unset, .unset] [(.int (q0.toInt32))]))
  obtain ⟨_, _, ⟨T1, L1, k1, n1⟩, -, X1, ⟨Lc1, hQ1, l1, y1, z1⟩, st1⟩ := Jvm.LawKit.callS X0 hx (y := (⟨"com/example/dialplane/dialplane/engine/AreaTouchesPinLaw", "pos", "(I)I"⟩ : MethodName)) hown (mvT hZ (hw _ (List.mem_of_getElem? (i := 0) rfl))) (mvT hZ (hw _ (List.mem_of_getElem? (i := 1) rfl))) (mvT hZ (hw _ (List.mem_of_getElem? (i := 2) rfl))) (mvT hZ (hw _ (List.mem_of_getElem? (i := 3) rfl))) (by decide) (backOf (W := 0) (rm4 l Z az hw [] (q0.toInt32) h0 n0 Z0) hZ (hw _ (List.mem_of_getElem? (i := 3) rfl)) (hw _ (List.mem_of_getElem? (i := 2) rfl)) (by decide) (by decide)) (g := (mkF m 2 #[.val (.long q0), .second, .val (.long q1), .second, .val (.long q2), .second, .val (.long q3), .second, .unset, .unset, .unset, .unset, .unset, .unset, .unset, .unset, .unset, .unset, .unset, .unset, .unset] [(.int (q0.toInt32))])) rfl (by rw [hml]; rfl) (argsL := [(.int (q0.toInt32))]) (rest := []) (lenOf pd0_0 rfl) rfl (by show 2 * 0 + _ ≤ _; exact Nat.le_of_eq rfl) (hb hby at_2) (fun _ _ => ⟨rfl, e0, (by decide : 0 + 0 ≤ _), (by decide : 0 + 0 ≤ _)⟩)
  dsimp only [Pt.U, Pt.locs, Pt.cells, Pt.slots] at X1 l1 y1 z1 st1 hQ1
  subst l1 y1 z1
  refine own_go st1 ?_
  obtain ⟨rfl, N1q, e1⟩ := hQ1
  have N1 := Fr.app N0 N1q
  show own_Go p.tables e below _ (T1.setTop (mkF m 5 #[.val (.long q0), .second, .val (.long q1), .second, .val (.long q2), .second, .val (.long q3), .second, .unset, .unset, .unset, .unset, .unset, .unset, .unset, .unset, .unset, .unset, .unset, .unset, .unset] [(.int (own_f4 (q0.toInt32)))]))
  refine own_go (fun _ k => XS.istore X1.here hx rfl (hb hby at_5) rfl (l' := #[.val (.long q0), .second, .val (.long q1), .second, .val (.long q2), .second, .val (.long q3), .second, .val (.int (own_f4 (q0.toInt32))), .unset, .unset, .unset, .unset, .unset, .unset, .unset, .unset, .unset, .unset, .unset, .unset]) rfl k) ?_
  show own_Go p.tables e below _ (T1.setTop (mkF m 7 #[.val (.long q0), .second, .val (.long q1), .second, .val (.long q2), .second, .val (.long q3), .second, .val (.int (own_f4 (q0.toInt32))), .unset, .unset, .unset, .unset, .unset, .unset, .unset, .unset, .unset, .unset, .unset, .unset] []))
  obtain ⟨vx1, hvx1⟩ : ∃ z : Int32, z = (own_f4 (q0.toInt32)) := ⟨_, rfl⟩
  rw [← hvx1]
  show own_Go p.tables e below _ (T1.setTop (mkF m 7 #[.val (.long q0), .second, .val (.long q1), .second, .val (.long q2), .second, .val (.long q3), .second, .val (.int vx1), .unset, .unset, .unset, .unset, .unset, .unset, .unset, .unset, .unset, .unset, .unset, .unset] []))
  refine own_go (fun _ k => XS.iload X1.here hx rfl (hb hby at_7) rfl k) ?_
  show own_Go p.tables e below _ (T1.setTop (mkF m 9 #[.val (.long q0), .second, .val (.long q1), .second, .val (.long q2), .second, .val (.long q3), .second, .val (.int vx1), .unset, .unset, .unset, .unset, .unset, .unset, .unset, .unset, .unset, .unset, .unset, .unset] [(.int vx1)]))
  refine own_go (fun _ k => XS.lloadN X1.here hx rfl (hb hby at_9) rfl k) ?_
  show own_Go p.tables e below _ (T1.setTop (mkF m 10 #[.val (.long q0), .second, .val (.long q1), .second, .val (.long q2), .second, .val (.long q3), .second, .val (.int vx1), .unset, .unset, .unset, .unset, .unset, .unset, .unset, .unset, .unset, .unset, .unset, .unset] [(.long q0), (.int vx1)]))
  refine own_go (fun _ k => XS.bipush X1.here hx rfl (hb hby at_10) k) ?_
  show own_Go p.tables e below _ (T1.setTop (mkF m 12 #[.val (.long q0), .second, .val (.long q1), .second, .val (.long q2), .second, .val (.long q3), .second, .val (.int vx1), .unset, .unset, .unset, .unset, .unset, .unset, .unset, .unset, .unset, .unset, .unset, .unset] [(.int (32 : Int32)), (.long q0), (.int vx1)]))
  refine own_go (fun _ k => XS.lushr X1.here hx rfl (hb hby at_12) rfl k) ?_
  show own_Go p.tables e below _ (T1.setTop (mkF m 13 #[.val (.long q0), .second, .val (.long q1), .second, .val (.long q2), .second, .val (.long q3), .second, .val (.int vx1), .unset, .unset, .unset, .unset, .unset, .unset, .unset, .unset, .unset, .unset, .unset, .unset] [(.long ((q0.toUInt64 >>> ((32 : Int32) &&& 0x3f).toInt64.toUInt64).toInt64)), (.int vx1)]))
  refine own_go (fun _ k => XS.l2i X1.here hx rfl (hb hby at_13) rfl k) ?_
  show own_Go p.tables e below _ (T1.setTop (mkF m 14 #[.val (.long q0), .second, .val (.long q1), .second, .val (.long q2), .second, .val (.long q3), .second, .val (.int vx1), .unset, .unset, .unset, .unset, .unset, .unset, .unset, .unset, .unset, .unset, .unset, .unset] [(.int (((q0.toUInt64 >>> ((32 : Int32) &&& 0x3f).toInt64.toUInt64).toInt64).toInt32)), (.int vx1)]))
  obtain ⟨_, _, ⟨T2, L2, k2, n2⟩, -, X2, ⟨Lc2, hQ2, l2, y2, z2⟩, st2⟩ := Jvm.LawKit.callS X1 hx (y := (⟨"com/example/dialplane/dialplane/engine/AreaTouchesPinLaw", "len", "(II)I"⟩ : MethodName)) hown (mvT hZ (hw _ (List.mem_of_getElem? (i := 5) rfl))) (mvT hZ (hw _ (List.mem_of_getElem? (i := 6) rfl))) (mvT hZ (hw _ (List.mem_of_getElem? (i := 2) rfl))) (mvT hZ (hw _ (List.mem_of_getElem? (i := 7) rfl))) (by decide) (backOf (W := 0) (rm5 l Z az hw [] vx1 (((q0.toUInt64 >>> ((32 : Int32) &&& 0x3f).toInt64.toUInt64).toInt64).toInt32) h0 n0 Z0 (own_nz (own_x hvx1)).2) hZ (hw _ (List.mem_of_getElem? (i := 7) rfl)) (hw _ (List.mem_of_getElem? (i := 2) rfl)) (by decide) (by decide)) (g := (mkF m 14 #[.val (.long q0), .second, .val (.long q1), .second, .val (.long q2), .second, .val (.long q3), .second, .val (.int vx1), .unset, .unset, .unset, .unset, .unset, .unset, .unset, .unset, .unset, .unset, .unset, .unset] [(.int (((q0.toUInt64 >>> ((32 : Int32) &&& 0x3f).toInt64.toUInt64).toInt64).toInt32)), (.int vx1)])) rfl (by rw [hml]; rfl) (argsL := [(.int vx1), (.int (((q0.toUInt64 >>> ((32 : Int32) &&& 0x3f).toInt64.toUInt64).toInt64).toInt32))]) (rest := []) (lenOf pd0_1 rfl) rfl (by show 2 * 0 + _ ≤ _; exact Nat.le_of_eq rfl) (hb hby at_14) (fun _ _ => ⟨rfl, (e1 : T1.heap = h0), (by decide : 0 + 0 ≤ _), (by decide : 0 + 0 ≤ _)⟩)
  dsimp only [Pt.U, Pt.locs, Pt.cells, Pt.slots] at X2 l2 y2 z2 st2 hQ2
  subst l2 y2 z2
  refine own_go st2 ?_
  obtain ⟨rfl, N2q, e2⟩ := hQ2
  have N2 := Fr.app N1 N2q
  show own_Go p.tables e below _ (T2.setTop (mkF m 17 #[.val (.long q0), .second, .val (.long q1), .second, .val (.long q2), .second, .val (.long q3), .second, .val (.int vx1), .unset, .unset, .unset, .unset, .unset, .unset, .unset, .unset, .unset, .unset, .unset, .unset] [(.int (own_f5 vx1 (((q0.toUInt64 >>> ((32 : Int32) &&& 0x3f).toInt64.toUInt64).toInt64).toInt32)))]))
  refine own_go (fun _ k => XS.istore X2.here hx rfl (hb hby at_17) rfl (l' := #[.val (.long q0), .second, .val (.long q1), .second, .val (.long q2), .second, .val (.long q3), .second, .val (.int vx1), .val (.int (own_f5 vx1 (((q0.toUInt64 >>> ((32 : Int32) &&& 0x3f).toInt64.toUInt64).toInt64).toInt32))), .unset, .unset, .unset, .unset, .unset, .unset, .unset, .unset, .unset, .unset, .unset]) rfl k) ?_
  show own_Go p.tables e below _ (T2.setTop (mkF m 19 #[.val (.long q0), .second, .val (.long q1), .second, .val (.long q2), .second, .val (.long q3), .second, .val (.int vx1), .val (.int (own_f5 vx1 (((q0.toUInt64 >>> ((32 : Int32) &&& 0x3f).toInt64.toUInt64).toInt64).toInt32))), .unset, .unset, .unset, .unset, .unset, .unset, .unset, .unset, .unset, .unset, .unset] []))
  obtain ⟨vw1, hvw1⟩ : ∃ z : Int32, z = (own_f5 vx1 (((q0.toUInt64 >>> ((32 : Int32) &&& 0x3f).toInt64.toUInt64).toInt64).toInt32)) := ⟨_, rfl⟩
  rw [← hvw1]
  show own_Go p.tables e below _ (T2.setTop (mkF m 19 #[.val (.long q0), .second, .val (.long q1), .second, .val (.long q2), .second, .val (.long q3), .second, .val (.int vx1), .val (.int vw1), .unset, .unset, .unset, .unset, .unset, .unset, .unset, .unset, .unset, .unset, .unset] []))
  refine own_go (fun _ k => XS.lloadN X2.here hx rfl (hb hby at_19) rfl k) ?_
  show own_Go p.tables e below _ (T2.setTop (mkF m 20 #[.val (.long q0), .second, .val (.long q1), .second, .val (.long q2), .second, .val (.long q3), .second, .val (.int vx1), .val (.int vw1), .unset, .unset, .unset, .unset, .unset, .unset, .unset, .unset, .unset, .unset, .unset] [(.long q1)]))
  refine own_go (fun _ k => XS.l2i X2.here hx rfl (hb hby at_20) rfl k) ?_
  show own_Go p.tables e below _ (T2.setTop (mkF m 21 #[.val (.long q0), .second, .val (.long q1), .second, .val (.long q2), .second, .val (.long q3), .second, .val (.int vx1), .val (.int vw1), .unset, .unset, .unset, .unset, .unset, .unset, .unset, .unset, .unset, .unset, .unset] [(.int (q1.toInt32))]))
  obtain ⟨_, _, ⟨T3, L3, k3, n3⟩, -, X3, ⟨Lc3, hQ3, l3, y3, z3⟩, st3⟩ := Jvm.LawKit.callS X2 hx (y := (⟨"com/example/dialplane/dialplane/engine/AreaTouchesPinLaw", "pos", "(I)I"⟩ : MethodName)) hown (mvT hZ (hw _ (List.mem_of_getElem? (i := 0) rfl))) (mvT hZ (hw _ (List.mem_of_getElem? (i := 1) rfl))) (mvT hZ (hw _ (List.mem_of_getElem? (i := 2) rfl))) (mvT hZ (hw _ (List.mem_of_getElem? (i := 3) rfl))) (by decide) (backOf (W := 0) (rm4 l Z az hw [] (q1.toInt32) h0 n0 Z0) hZ (hw _ (List.mem_of_getElem? (i := 3) rfl)) (hw _ (List.mem_of_getElem? (i := 2) rfl)) (by decide) (by decide)) (g := (mkF m 21 #[.val (.long q0), .second, .val (.long q1), .second, .val (.long q2), .second, .val (.long q3), .second, .val (.int vx1), .val (.int vw1), .unset, .unset, .unset, .unset, .unset, .unset, .unset, .unset, .unset, .unset, .unset] [(.int (q1.toInt32))])) rfl (by rw [hml]; rfl) (argsL := [(.int (q1.toInt32))]) (rest := []) (lenOf pd0_0 rfl) rfl (by show 2 * 0 + _ ≤ _; exact Nat.le_of_eq rfl) (hb hby at_21) (fun _ _ => ⟨rfl, (e2 : T2.heap = h0), (by decide : 0 + 0 ≤ _), (by decide : 0 + 0 ≤ _)⟩)
  dsimp only [Pt.U, Pt.locs, Pt.cells, Pt.slots] at X3 l3 y3 z3 st3 hQ3
  subst l3 y3 z3
  refine own_go st3 ?_
  obtain ⟨rfl, N3q, e3⟩ := hQ3
  have N3 := Fr.app N2 N3q
  show own_Go p.tables e below _ (T3.setTop (mkF m 24 #[.val (.long q0), .second, .val (.long q1), .second, .val (.long q2), .second, .val (.long q3), .second, .val (.int vx1), .val (.int vw1), .unset, .unset, .unset, .unset, .unset, .unset, .unset, .unset, .unset, .unset, .unset] [(.int (own_f4 (q1.toInt32)))]))
  refine own_go (fun _ k => XS.istore X3.here hx rfl (hb hby at_24) rfl (l' := #[.val (.long q0), .second, .val (.long q1), .second, .val (.long q2), .second, .val (.long q3), .second, .val (.int vx1), .val (.int vw1), .val (.int (own_f4 (q1.toInt32))), .unset, .unset, .unset, .unset, .unset, .unset, .unset, .unset, .unset, .unset]) rfl k) ?_
  show own_Go p.tables e below _ (T3.setTop (mkF m 26 #[.val (.long q0), .second, .val (.long q1), .second, .val (.long q2), .second, .val (.long q3), .second, .val (.int vx1), .val (.int vw1), .val (.int (own_f4 (q1.toInt32))), .unset, .unset, .unset, .unset, .unset, .unset, .unset, .unset, .unset, .unset] []))
  obtain ⟨vy1, hvy1⟩ : ∃ z : Int32, z = (own_f4 (q1.toInt32)) := ⟨_, rfl⟩
  rw [← hvy1]
  show own_Go p.tables e below _ (T3.setTop (mkF m 26 #[.val (.long q0), .second, .val (.long q1), .second, .val (.long q2), .second, .val (.long q3), .second, .val (.int vx1), .val (.int vw1), .val (.int vy1), .unset, .unset, .unset, .unset, .unset, .unset, .unset, .unset, .unset, .unset] []))
  refine own_go (fun _ k => XS.iload X3.here hx rfl (hb hby at_26) rfl k) ?_
  show own_Go p.tables e below _ (T3.setTop (mkF m 28 #[.val (.long q0), .second, .val (.long q1), .second, .val (.long q2), .second, .val (.long q3), .second, .val (.int vx1), .val (.int vw1), .val (.int vy1), .unset, .unset, .unset, .unset, .unset, .unset, .unset, .unset, .unset, .unset] [(.int vy1)]))
  refine own_go (fun _ k => XS.lloadN X3.here hx rfl (hb hby at_28) rfl k) ?_
  show own_Go p.tables e below _ (T3.setTop (mkF m 29 #[.val (.long q0), .second, .val (.long q1), .second, .val (.long q2), .second, .val (.long q3), .second, .val (.int vx1), .val (.int vw1), .val (.int vy1), .unset, .unset, .unset, .unset, .unset, .unset, .unset, .unset, .unset, .unset] [(.long q1), (.int vy1)]))
  refine own_go (fun _ k => XS.bipush X3.here hx rfl (hb hby at_29) k) ?_
  show own_Go p.tables e below _ (T3.setTop (mkF m 31 #[.val (.long q0), .second, .val (.long q1), .second, .val (.long q2), .second, .val (.long q3), .second, .val (.int vx1), .val (.int vw1), .val (.int vy1), .unset, .unset, .unset, .unset, .unset, .unset, .unset, .unset, .unset, .unset] [(.int (32 : Int32)), (.long q1), (.int vy1)]))
  refine own_go (fun _ k => XS.lushr X3.here hx rfl (hb hby at_31) rfl k) ?_
  show own_Go p.tables e below _ (T3.setTop (mkF m 32 #[.val (.long q0), .second, .val (.long q1), .second, .val (.long q2), .second, .val (.long q3), .second, .val (.int vx1), .val (.int vw1), .val (.int vy1), .unset, .unset, .unset, .unset, .unset, .unset, .unset, .unset, .unset, .unset] [(.long ((q1.toUInt64 >>> ((32 : Int32) &&& 0x3f).toInt64.toUInt64).toInt64)), (.int vy1)]))
  refine own_go (fun _ k => XS.l2i X3.here hx rfl (hb hby at_32) rfl k) ?_
  show own_Go p.tables e below _ (T3.setTop (mkF m 33 #[.val (.long q0), .second, .val (.long q1), .second, .val (.long q2), .second, .val (.long q3), .second, .val (.int vx1), .val (.int vw1), .val (.int vy1), .unset, .unset, .unset, .unset, .unset, .unset, .unset, .unset, .unset, .unset] [(.int (((q1.toUInt64 >>> ((32 : Int32) &&& 0x3f).toInt64.toUInt64).toInt64).toInt32)), (.int vy1)]))
  obtain ⟨_, _, ⟨T4, L4, k4, n4⟩, -, X4, ⟨Lc4, hQ4, l4, y4, z4⟩, st4⟩ := Jvm.LawKit.callS X3 hx (y := (⟨"com/example/dialplane/dialplane/engine/AreaTouchesPinLaw", "len", "(II)I"⟩ : MethodName)) hown (mvT hZ (hw _ (List.mem_of_getElem? (i := 5) rfl))) (mvT hZ (hw _ (List.mem_of_getElem? (i := 6) rfl))) (mvT hZ (hw _ (List.mem_of_getElem? (i := 2) rfl))) (mvT hZ (hw _ (List.mem_of_getElem? (i := 7) rfl))) (by decide) (backOf (W := 0) (rm5 l Z az hw [] vy1 (((q1.toUInt64 >>> ((32 : Int32) &&& 0x3f).toInt64.toUInt64).toInt64).toInt32) h0 n0 Z0 (own_nz (own_x hvy1)).2) hZ (hw _ (List.mem_of_getElem? (i := 7) rfl)) (hw _ (List.mem_of_getElem? (i := 2) rfl)) (by decide) (by decide)) (g := (mkF m 33 #[.val (.long q0), .second, .val (.long q1), .second, .val (.long q2), .second, .val (.long q3), .second, .val (.int vx1), .val (.int vw1), .val (.int vy1), .unset, .unset, .unset, .unset, .unset, .unset, .unset, .unset, .unset, .unset] [(.int (((q1.toUInt64 >>> ((32 : Int32) &&& 0x3f).toInt64.toUInt64).toInt64).toInt32)), (.int vy1)])) rfl (by rw [hml]; rfl) (argsL := [(.int vy1), (.int (((q1.toUInt64 >>> ((32 : Int32) &&& 0x3f).toInt64.toUInt64).toInt64).toInt32))]) (rest := []) (lenOf pd0_1 rfl) rfl (by show 2 * 0 + _ ≤ _; exact Nat.le_of_eq rfl) (hb hby at_33) (fun _ _ => ⟨rfl, (e3 : T3.heap = h0), (by decide : 0 + 0 ≤ _), (by decide : 0 + 0 ≤ _)⟩)
  dsimp only [Pt.U, Pt.locs, Pt.cells, Pt.slots] at X4 l4 y4 z4 st4 hQ4
  subst l4 y4 z4
  refine own_go st4 ?_
  obtain ⟨rfl, N4q, e4⟩ := hQ4
  have N4 := Fr.app N3 N4q
  show own_Go p.tables e below _ (T4.setTop (mkF m 36 #[.val (.long q0), .second, .val (.long q1), .second, .val (.long q2), .second, .val (.long q3), .second, .val (.int vx1), .val (.int vw1), .val (.int vy1), .unset, .unset, .unset, .unset, .unset, .unset, .unset, .unset, .unset, .unset] [(.int (own_f5 vy1 (((q1.toUInt64 >>> ((32 : Int32) &&& 0x3f).toInt64.toUInt64).toInt64).toInt32)))]))
  refine own_go (fun _ k => XS.istore X4.here hx rfl (hb hby at_36) rfl (l' := #[.val (.long q0), .second, .val (.long q1), .second, .val (.long q2), .second, .val (.long q3), .second, .val (.int vx1), .val (.int vw1), .val (.int vy1), .val (.int (own_f5 vy1 (((q1.toUInt64 >>> ((32 : Int32) &&& 0x3f).toInt64.toUInt64).toInt64).toInt32))), .unset, .unset, .unset, .unset, .unset, .unset, .unset, .unset, .unset]) rfl k) ?_
  show own_Go p.tables e below _ (T4.setTop (mkF m 38 #[.val (.long q0), .second, .val (.long q1), .second, .val (.long q2), .second, .val (.long q3), .second, .val (.int vx1), .val (.int vw1), .val (.int vy1), .val (.int (own_f5 vy1 (((q1.toUInt64 >>> ((32 : Int32) &&& 0x3f).toInt64.toUInt64).toInt64).toInt32))), .unset, .unset, .unset, .unset, .unset, .unset, .unset, .unset, .unset] []))
  obtain ⟨vh1, hvh1⟩ : ∃ z : Int32, z = (own_f5 vy1 (((q1.toUInt64 >>> ((32 : Int32) &&& 0x3f).toInt64.toUInt64).toInt64).toInt32)) := ⟨_, rfl⟩
  rw [← hvh1]
  show own_Go p.tables e below _ (T4.setTop (mkF m 38 #[.val (.long q0), .second, .val (.long q1), .second, .val (.long q2), .second, .val (.long q3), .second, .val (.int vx1), .val (.int vw1), .val (.int vy1), .val (.int vh1), .unset, .unset, .unset, .unset, .unset, .unset, .unset, .unset, .unset] []))
  refine own_go (fun _ k => XS.lload X4.here hx rfl (hb hby at_38) rfl k) ?_
  show own_Go p.tables e below _ (T4.setTop (mkF m 40 #[.val (.long q0), .second, .val (.long q1), .second, .val (.long q2), .second, .val (.long q3), .second, .val (.int vx1), .val (.int vw1), .val (.int vy1), .val (.int vh1), .unset, .unset, .unset, .unset, .unset, .unset, .unset, .unset, .unset] [(.long q2)]))
  refine own_go (fun _ k => XS.l2i X4.here hx rfl (hb hby at_40) rfl k) ?_
  show own_Go p.tables e below _ (T4.setTop (mkF m 41 #[.val (.long q0), .second, .val (.long q1), .second, .val (.long q2), .second, .val (.long q3), .second, .val (.int vx1), .val (.int vw1), .val (.int vy1), .val (.int vh1), .unset, .unset, .unset, .unset, .unset, .unset, .unset, .unset, .unset] [(.int (q2.toInt32))]))
  obtain ⟨_, _, ⟨T5, L5, k5, n5⟩, -, X5, ⟨Lc5, hQ5, l5, y5, z5⟩, st5⟩ := Jvm.LawKit.callS X4 hx (y := (⟨"com/example/dialplane/dialplane/engine/AreaTouchesPinLaw", "pos", "(I)I"⟩ : MethodName)) hown (mvT hZ (hw _ (List.mem_of_getElem? (i := 0) rfl))) (mvT hZ (hw _ (List.mem_of_getElem? (i := 1) rfl))) (mvT hZ (hw _ (List.mem_of_getElem? (i := 2) rfl))) (mvT hZ (hw _ (List.mem_of_getElem? (i := 3) rfl))) (by decide) (backOf (W := 0) (rm4 l Z az hw [] (q2.toInt32) h0 n0 Z0) hZ (hw _ (List.mem_of_getElem? (i := 3) rfl)) (hw _ (List.mem_of_getElem? (i := 2) rfl)) (by decide) (by decide)) (g := (mkF m 41 #[.val (.long q0), .second, .val (.long q1), .second, .val (.long q2), .second, .val (.long q3), .second, .val (.int vx1), .val (.int vw1), .val (.int vy1), .val (.int vh1), .unset, .unset, .unset, .unset, .unset, .unset, .unset, .unset, .unset] [(.int (q2.toInt32))])) rfl (by rw [hml]; rfl) (argsL := [(.int (q2.toInt32))]) (rest := []) (lenOf pd0_0 rfl) rfl (by show 2 * 0 + _ ≤ _; exact Nat.le_of_eq rfl) (hb hby at_41) (fun _ _ => ⟨rfl, (e4 : T4.heap = h0), (by decide : 0 + 0 ≤ _), (by decide : 0 + 0 ≤ _)⟩)
  dsimp only [Pt.U, Pt.locs, Pt.cells, Pt.slots] at X5 l5 y5 z5 st5 hQ5
  subst l5 y5 z5
  refine own_go st5 ?_
  obtain ⟨rfl, N5q, e5⟩ := hQ5
  have N5 := Fr.app N4 N5q
  show own_Go p.tables e below _ (T5.setTop (mkF m 44 #[.val (.long q0), .second, .val (.long q1), .second, .val (.long q2), .second, .val (.long q3), .second, .val (.int vx1), .val (.int vw1), .val (.int vy1), .val (.int vh1), .unset, .unset, .unset, .unset, .unset, .unset, .unset, .unset, .unset] [(.int (own_f4 (q2.toInt32)))]))
  refine own_go (fun _ k => XS.istore X5.here hx rfl (hb hby at_44) rfl (l' := #[.val (.long q0), .second, .val (.long q1), .second, .val (.long q2), .second, .val (.long q3), .second, .val (.int vx1), .val (.int vw1), .val (.int vy1), .val (.int vh1), .val (.int (own_f4 (q2.toInt32))), .unset, .unset, .unset, .unset, .unset, .unset, .unset, .unset]) rfl k) ?_
  show own_Go p.tables e below _ (T5.setTop (mkF m 46 #[.val (.long q0), .second, .val (.long q1), .second, .val (.long q2), .second, .val (.long q3), .second, .val (.int vx1), .val (.int vw1), .val (.int vy1), .val (.int vh1), .val (.int (own_f4 (q2.toInt32))), .unset, .unset, .unset, .unset, .unset, .unset, .unset, .unset] []))
  obtain ⟨vx2, hvx2⟩ : ∃ z : Int32, z = (own_f4 (q2.toInt32)) := ⟨_, rfl⟩
  rw [← hvx2]
  show own_Go p.tables e below _ (T5.setTop (mkF m 46 #[.val (.long q0), .second, .val (.long q1), .second, .val (.long q2), .second, .val (.long q3), .second, .val (.int vx1), .val (.int vw1), .val (.int vy1), .val (.int vh1), .val (.int vx2), .unset, .unset, .unset, .unset, .unset, .unset, .unset, .unset] []))
  refine own_go (fun _ k => XS.iload X5.here hx rfl (hb hby at_46) rfl k) ?_
  show own_Go p.tables e below _ (T5.setTop (mkF m 48 #[.val (.long q0), .second, .val (.long q1), .second, .val (.long q2), .second, .val (.long q3), .second, .val (.int vx1), .val (.int vw1), .val (.int vy1), .val (.int vh1), .val (.int vx2), .unset, .unset, .unset, .unset, .unset, .unset, .unset, .unset] [(.int vx2)]))
  refine own_go (fun _ k => XS.lload X5.here hx rfl (hb hby at_48) rfl k) ?_
  show own_Go p.tables e below _ (T5.setTop (mkF m 50 #[.val (.long q0), .second, .val (.long q1), .second, .val (.long q2), .second, .val (.long q3), .second, .val (.int vx1), .val (.int vw1), .val (.int vy1), .val (.int vh1), .val (.int vx2), .unset, .unset, .unset, .unset, .unset, .unset, .unset, .unset] [(.long q2), (.int vx2)]))
  refine own_go (fun _ k => XS.bipush X5.here hx rfl (hb hby at_50) k) ?_
  show own_Go p.tables e below _ (T5.setTop (mkF m 52 #[.val (.long q0), .second, .val (.long q1), .second, .val (.long q2), .second, .val (.long q3), .second, .val (.int vx1), .val (.int vw1), .val (.int vy1), .val (.int vh1), .val (.int vx2), .unset, .unset, .unset, .unset, .unset, .unset, .unset, .unset] [(.int (32 : Int32)), (.long q2), (.int vx2)]))
  refine own_go (fun _ k => XS.lushr X5.here hx rfl (hb hby at_52) rfl k) ?_
  show own_Go p.tables e below _ (T5.setTop (mkF m 53 #[.val (.long q0), .second, .val (.long q1), .second, .val (.long q2), .second, .val (.long q3), .second, .val (.int vx1), .val (.int vw1), .val (.int vy1), .val (.int vh1), .val (.int vx2), .unset, .unset, .unset, .unset, .unset, .unset, .unset, .unset] [(.long ((q2.toUInt64 >>> ((32 : Int32) &&& 0x3f).toInt64.toUInt64).toInt64)), (.int vx2)]))
  refine own_go (fun _ k => XS.l2i X5.here hx rfl (hb hby at_53) rfl k) ?_
  show own_Go p.tables e below _ (T5.setTop (mkF m 54 #[.val (.long q0), .second, .val (.long q1), .second, .val (.long q2), .second, .val (.long q3), .second, .val (.int vx1), .val (.int vw1), .val (.int vy1), .val (.int vh1), .val (.int vx2), .unset, .unset, .unset, .unset, .unset, .unset, .unset, .unset] [(.int (((q2.toUInt64 >>> ((32 : Int32) &&& 0x3f).toInt64.toUInt64).toInt64).toInt32)), (.int vx2)]))
  obtain ⟨_, _, ⟨T6, L6, k6, n6⟩, -, X6, ⟨Lc6, hQ6, l6, y6, z6⟩, st6⟩ := Jvm.LawKit.callS X5 hx (y := (⟨"com/example/dialplane/dialplane/engine/AreaTouchesPinLaw", "len", "(II)I"⟩ : MethodName)) hown (mvT hZ (hw _ (List.mem_of_getElem? (i := 5) rfl))) (mvT hZ (hw _ (List.mem_of_getElem? (i := 6) rfl))) (mvT hZ (hw _ (List.mem_of_getElem? (i := 2) rfl))) (mvT hZ (hw _ (List.mem_of_getElem? (i := 7) rfl))) (by decide) (backOf (W := 0) (rm5 l Z az hw [] vx2 (((q2.toUInt64 >>> ((32 : Int32) &&& 0x3f).toInt64.toUInt64).toInt64).toInt32) h0 n0 Z0 (own_nz (own_x hvx2)).2) hZ (hw _ (List.mem_of_getElem? (i := 7) rfl)) (hw _ (List.mem_of_getElem? (i := 2) rfl)) (by decide) (by decide)) (g := (mkF m 54 #[.val (.long q0), .second, .val (.long q1), .second, .val (.long q2), .second, .val (.long q3), .second, .val (.int vx1), .val (.int vw1), .val (.int vy1), .val (.int vh1), .val (.int vx2), .unset, .unset, .unset, .unset, .unset, .unset, .unset, .unset] [(.int (((q2.toUInt64 >>> ((32 : Int32) &&& 0x3f).toInt64.toUInt64).toInt64).toInt32)), (.int vx2)])) rfl (by rw [hml]; rfl) (argsL := [(.int vx2), (.int (((q2.toUInt64 >>> ((32 : Int32) &&& 0x3f).toInt64.toUInt64).toInt64).toInt32))]) (rest := []) (lenOf pd0_1 rfl) rfl (by show 2 * 0 + _ ≤ _; exact Nat.le_of_eq rfl) (hb hby at_54) (fun _ _ => ⟨rfl, (e5 : T5.heap = h0), (by decide : 0 + 0 ≤ _), (by decide : 0 + 0 ≤ _)⟩)
  dsimp only [Pt.U, Pt.locs, Pt.cells, Pt.slots] at X6 l6 y6 z6 st6 hQ6
  subst l6 y6 z6
  refine own_go st6 ?_
  obtain ⟨rfl, N6q, e6⟩ := hQ6
  have N6 := Fr.app N5 N6q
  show own_Go p.tables e below _ (T6.setTop (mkF m 57 #[.val (.long q0), .second, .val (.long q1), .second, .val (.long q2), .second, .val (.long q3), .second, .val (.int vx1), .val (.int vw1), .val (.int vy1), .val (.int vh1), .val (.int vx2), .unset, .unset, .unset, .unset, .unset, .unset, .unset, .unset] [(.int (own_f5 vx2 (((q2.toUInt64 >>> ((32 : Int32) &&& 0x3f).toInt64.toUInt64).toInt64).toInt32)))]))
  refine own_go (fun _ k => XS.istore X6.here hx rfl (hb hby at_57) rfl (l' := #[.val (.long q0), .second, .val (.long q1), .second, .val (.long q2), .second, .val (.long q3), .second, .val (.int vx1), .val (.int vw1), .val (.int vy1), .val (.int vh1), .val (.int vx2), .val (.int (own_f5 vx2 (((q2.toUInt64 >>> ((32 : Int32) &&& 0x3f).toInt64.toUInt64).toInt64).toInt32))), .unset, .unset, .unset, .unset, .unset, .unset, .unset]) rfl k) ?_
  show own_Go p.tables e below _ (T6.setTop (mkF m 59 #[.val (.long q0), .second, .val (.long q1), .second, .val (.long q2), .second, .val (.long q3), .second, .val (.int vx1), .val (.int vw1), .val (.int vy1), .val (.int vh1), .val (.int vx2), .val (.int (own_f5 vx2 (((q2.toUInt64 >>> ((32 : Int32) &&& 0x3f).toInt64.toUInt64).toInt64).toInt32))), .unset, .unset, .unset, .unset, .unset, .unset, .unset] []))
  obtain ⟨vw2, hvw2⟩ : ∃ z : Int32, z = (own_f5 vx2 (((q2.toUInt64 >>> ((32 : Int32) &&& 0x3f).toInt64.toUInt64).toInt64).toInt32)) := ⟨_, rfl⟩
  rw [← hvw2]
  show own_Go p.tables e below _ (T6.setTop (mkF m 59 #[.val (.long q0), .second, .val (.long q1), .second, .val (.long q2), .second, .val (.long q3), .second, .val (.int vx1), .val (.int vw1), .val (.int vy1), .val (.int vh1), .val (.int vx2), .val (.int vw2), .unset, .unset, .unset, .unset, .unset, .unset, .unset] []))
  refine own_go (fun _ k => XS.lload X6.here hx rfl (hb hby at_59) rfl k) ?_
  show own_Go p.tables e below _ (T6.setTop (mkF m 61 #[.val (.long q0), .second, .val (.long q1), .second, .val (.long q2), .second, .val (.long q3), .second, .val (.int vx1), .val (.int vw1), .val (.int vy1), .val (.int vh1), .val (.int vx2), .val (.int vw2), .unset, .unset, .unset, .unset, .unset, .unset, .unset] [(.long q3)]))
  refine own_go (fun _ k => XS.l2i X6.here hx rfl (hb hby at_61) rfl k) ?_
  show own_Go p.tables e below _ (T6.setTop (mkF m 62 #[.val (.long q0), .second, .val (.long q1), .second, .val (.long q2), .second, .val (.long q3), .second, .val (.int vx1), .val (.int vw1), .val (.int vy1), .val (.int vh1), .val (.int vx2), .val (.int vw2), .unset, .unset, .unset, .unset, .unset, .unset, .unset] [(.int (q3.toInt32))]))
  obtain ⟨_, _, ⟨T7, L7, k7, n7⟩, -, X7, ⟨Lc7, hQ7, l7, y7, z7⟩, st7⟩ := Jvm.LawKit.callS X6 hx (y := (⟨"com/example/dialplane/dialplane/engine/AreaTouchesPinLaw", "pos", "(I)I"⟩ : MethodName)) hown (mvT hZ (hw _ (List.mem_of_getElem? (i := 0) rfl))) (mvT hZ (hw _ (List.mem_of_getElem? (i := 1) rfl))) (mvT hZ (hw _ (List.mem_of_getElem? (i := 2) rfl))) (mvT hZ (hw _ (List.mem_of_getElem? (i := 3) rfl))) (by decide) (backOf (W := 0) (rm4 l Z az hw [] (q3.toInt32) h0 n0 Z0) hZ (hw _ (List.mem_of_getElem? (i := 3) rfl)) (hw _ (List.mem_of_getElem? (i := 2) rfl)) (by decide) (by decide)) (g := (mkF m 62 #[.val (.long q0), .second, .val (.long q1), .second, .val (.long q2), .second, .val (.long q3), .second, .val (.int vx1), .val (.int vw1), .val (.int vy1), .val (.int vh1), .val (.int vx2), .val (.int vw2), .unset, .unset, .unset, .unset, .unset, .unset, .unset] [(.int (q3.toInt32))])) rfl (by rw [hml]; rfl) (argsL := [(.int (q3.toInt32))]) (rest := []) (lenOf pd0_0 rfl) rfl (by show 2 * 0 + _ ≤ _; exact Nat.le_of_eq rfl) (hb hby at_62) (fun _ _ => ⟨rfl, (e6 : T6.heap = h0), (by decide : 0 + 0 ≤ _), (by decide : 0 + 0 ≤ _)⟩)
  dsimp only [Pt.U, Pt.locs, Pt.cells, Pt.slots] at X7 l7 y7 z7 st7 hQ7
  subst l7 y7 z7
  refine own_go st7 ?_
  obtain ⟨rfl, N7q, e7⟩ := hQ7
  have N7 := Fr.app N6 N7q
  show own_Go p.tables e below _ (T7.setTop (mkF m 65 #[.val (.long q0), .second, .val (.long q1), .second, .val (.long q2), .second, .val (.long q3), .second, .val (.int vx1), .val (.int vw1), .val (.int vy1), .val (.int vh1), .val (.int vx2), .val (.int vw2), .unset, .unset, .unset, .unset, .unset, .unset, .unset] [(.int (own_f4 (q3.toInt32)))]))
  refine own_go (fun _ k => XS.istore X7.here hx rfl (hb hby at_65) rfl (l' := #[.val (.long q0), .second, .val (.long q1), .second, .val (.long q2), .second, .val (.long q3), .second, .val (.int vx1), .val (.int vw1), .val (.int vy1), .val (.int vh1), .val (.int vx2), .val (.int vw2), .val (.int (own_f4 (q3.toInt32))), .unset, .unset, .unset, .unset, .unset, .unset]) rfl k) ?_
  show own_Go p.tables e below _ (T7.setTop (mkF m 67 #[.val (.long q0), .second, .val (.long q1), .second, .val (.long q2), .second, .val (.long q3), .second, .val (.int vx1), .val (.int vw1), .val (.int vy1), .val (.int vh1), .val (.int vx2), .val (.int vw2), .val (.int (own_f4 (q3.toInt32))), .unset, .unset, .unset, .unset, .unset, .unset] []))
  obtain ⟨vy2, hvy2⟩ : ∃ z : Int32, z = (own_f4 (q3.toInt32)) := ⟨_, rfl⟩
  rw [← hvy2]
  show own_Go p.tables e below _ (T7.setTop (mkF m 67 #[.val (.long q0), .second, .val (.long q1), .second, .val (.long q2), .second, .val (.long q3), .second, .val (.int vx1), .val (.int vw1), .val (.int vy1), .val (.int vh1), .val (.int vx2), .val (.int vw2), .val (.int vy2), .unset, .unset, .unset, .unset, .unset, .unset] []))
  refine own_go (fun _ k => XS.iload X7.here hx rfl (hb hby at_67) rfl k) ?_
  show own_Go p.tables e below _ (T7.setTop (mkF m 69 #[.val (.long q0), .second, .val (.long q1), .second, .val (.long q2), .second, .val (.long q3), .second, .val (.int vx1), .val (.int vw1), .val (.int vy1), .val (.int vh1), .val (.int vx2), .val (.int vw2), .val (.int vy2), .unset, .unset, .unset, .unset, .unset, .unset] [(.int vy2)]))
  refine own_go (fun _ k => XS.lload X7.here hx rfl (hb hby at_69) rfl k) ?_
  show own_Go p.tables e below _ (T7.setTop (mkF m 71 #[.val (.long q0), .second, .val (.long q1), .second, .val (.long q2), .second, .val (.long q3), .second, .val (.int vx1), .val (.int vw1), .val (.int vy1), .val (.int vh1), .val (.int vx2), .val (.int vw2), .val (.int vy2), .unset, .unset, .unset, .unset, .unset, .unset] [(.long q3), (.int vy2)]))
  refine own_go (fun _ k => XS.bipush X7.here hx rfl (hb hby at_71) k) ?_
  show own_Go p.tables e below _ (T7.setTop (mkF m 73 #[.val (.long q0), .second, .val (.long q1), .second, .val (.long q2), .second, .val (.long q3), .second, .val (.int vx1), .val (.int vw1), .val (.int vy1), .val (.int vh1), .val (.int vx2), .val (.int vw2), .val (.int vy2), .unset, .unset, .unset, .unset, .unset, .unset] [(.int (32 : Int32)), (.long q3), (.int vy2)]))
  refine own_go (fun _ k => XS.lushr X7.here hx rfl (hb hby at_73) rfl k) ?_
  show own_Go p.tables e below _ (T7.setTop (mkF m 74 #[.val (.long q0), .second, .val (.long q1), .second, .val (.long q2), .second, .val (.long q3), .second, .val (.int vx1), .val (.int vw1), .val (.int vy1), .val (.int vh1), .val (.int vx2), .val (.int vw2), .val (.int vy2), .unset, .unset, .unset, .unset, .unset, .unset] [(.long ((q3.toUInt64 >>> ((32 : Int32) &&& 0x3f).toInt64.toUInt64).toInt64)), (.int vy2)]))
  refine own_go (fun _ k => XS.l2i X7.here hx rfl (hb hby at_74) rfl k) ?_
  show own_Go p.tables e below _ (T7.setTop (mkF m 75 #[.val (.long q0), .second, .val (.long q1), .second, .val (.long q2), .second, .val (.long q3), .second, .val (.int vx1), .val (.int vw1), .val (.int vy1), .val (.int vh1), .val (.int vx2), .val (.int vw2), .val (.int vy2), .unset, .unset, .unset, .unset, .unset, .unset] [(.int (((q3.toUInt64 >>> ((32 : Int32) &&& 0x3f).toInt64.toUInt64).toInt64).toInt32)), (.int vy2)]))
  obtain ⟨_, _, ⟨T8, L8, k8, n8⟩, -, X8, ⟨Lc8, hQ8, l8, y8, z8⟩, st8⟩ := Jvm.LawKit.callS X7 hx (y := (⟨"com/example/dialplane/dialplane/engine/AreaTouchesPinLaw", "len", "(II)I"⟩ : MethodName)) hown (mvT hZ (hw _ (List.mem_of_getElem? (i := 5) rfl))) (mvT hZ (hw _ (List.mem_of_getElem? (i := 6) rfl))) (mvT hZ (hw _ (List.mem_of_getElem? (i := 2) rfl))) (mvT hZ (hw _ (List.mem_of_getElem? (i := 7) rfl))) (by decide) (backOf (W := 0) (rm5 l Z az hw [] vy2 (((q3.toUInt64 >>> ((32 : Int32) &&& 0x3f).toInt64.toUInt64).toInt64).toInt32) h0 n0 Z0 (own_nz (own_x hvy2)).2) hZ (hw _ (List.mem_of_getElem? (i := 7) rfl)) (hw _ (List.mem_of_getElem? (i := 2) rfl)) (by decide) (by decide)) (g := (mkF m 75 #[.val (.long q0), .second, .val (.long q1), .second, .val (.long q2), .second, .val (.long q3), .second, .val (.int vx1), .val (.int vw1), .val (.int vy1), .val (.int vh1), .val (.int vx2), .val (.int vw2), .val (.int vy2), .unset, .unset, .unset, .unset, .unset, .unset] [(.int (((q3.toUInt64 >>> ((32 : Int32) &&& 0x3f).toInt64.toUInt64).toInt64).toInt32)), (.int vy2)])) rfl (by rw [hml]; rfl) (argsL := [(.int vy2), (.int (((q3.toUInt64 >>> ((32 : Int32) &&& 0x3f).toInt64.toUInt64).toInt64).toInt32))]) (rest := []) (lenOf pd0_1 rfl) rfl (by show 2 * 0 + _ ≤ _; exact Nat.le_of_eq rfl) (hb hby at_75) (fun _ _ => ⟨rfl, (e7 : T7.heap = h0), (by decide : 0 + 0 ≤ _), (by decide : 0 + 0 ≤ _)⟩)
  dsimp only [Pt.U, Pt.locs, Pt.cells, Pt.slots] at X8 l8 y8 z8 st8 hQ8
  subst l8 y8 z8
  refine own_go st8 ?_
  obtain ⟨rfl, N8q, e8⟩ := hQ8
  have N8 := Fr.app N7 N8q
  show own_Go p.tables e below _ (T8.setTop (mkF m 78 #[.val (.long q0), .second, .val (.long q1), .second, .val (.long q2), .second, .val (.long q3), .second, .val (.int vx1), .val (.int vw1), .val (.int vy1), .val (.int vh1), .val (.int vx2), .val (.int vw2), .val (.int vy2), .unset, .unset, .unset, .unset, .unset, .unset] [(.int (own_f5 vy2 (((q3.toUInt64 >>> ((32 : Int32) &&& 0x3f).toInt64.toUInt64).toInt64).toInt32)))]))
  refine own_go (fun _ k => XS.istore X8.here hx rfl (hb hby at_78) rfl (l' := #[.val (.long q0), .second, .val (.long q1), .second, .val (.long q2), .second, .val (.long q3), .second, .val (.int vx1), .val (.int vw1), .val (.int vy1), .val (.int vh1), .val (.int vx2), .val (.int vw2), .val (.int vy2), .val (.int (own_f5 vy2 (((q3.toUInt64 >>> ((32 : Int32) &&& 0x3f).toInt64.toUInt64).toInt64).toInt32))), .unset, .unset, .unset, .unset, .unset]) rfl k) ?_
  show own_Go p.tables e below _ (T8.setTop (mkF m 80 #[.val (.long q0), .second, .val (.long q1), .second, .val (.long q2), .second, .val (.long q3), .second, .val (.int vx1), .val (.int vw1), .val (.int vy1), .val (.int vh1), .val (.int vx2), .val (.int vw2), .val (.int vy2), .val (.int (own_f5 vy2 (((q3.toUInt64 >>> ((32 : Int32) &&& 0x3f).toInt64.toUInt64).toInt64).toInt32))), .unset, .unset, .unset, .unset, .unset] []))
  obtain ⟨vh2, hvh2⟩ : ∃ z : Int32, z = (own_f5 vy2 (((q3.toUInt64 >>> ((32 : Int32) &&& 0x3f).toInt64.toUInt64).toInt64).toInt32)) := ⟨_, rfl⟩
  rw [← hvh2]
  show own_Go p.tables e below _ (T8.setTop (mkF m 80 #[.val (.long q0), .second, .val (.long q1), .second, .val (.long q2), .second, .val (.long q3), .second, .val (.int vx1), .val (.int vw1), .val (.int vy1), .val (.int vh1), .val (.int vx2), .val (.int vw2), .val (.int vy2), .val (.int vh2), .unset, .unset, .unset, .unset, .unset] []))
  obtain ⟨T9, h9, X9, e9, E9, A9, D9, -, st9⟩ := newO X8 hx hZ hown (hw _ (List.mem_of_getElem? (i := 8) rfl)) (hw _ (List.mem_of_getElem? (i := 9) rfl)) (hw _ (List.mem_of_getElem? (i := 10) rfl)) (e8 : T8.heap = h0) (g := (mkF m 80 #[.val (.long q0), .second, .val (.long q1), .second, .val (.long q2), .second, .val (.long q3), .second, .val (.int vx1), .val (.int vw1), .val (.int vy1), .val (.int vh1), .val (.int vx2), .val (.int vw2), .val (.int vy2), .val (.int vh2), .unset, .unset, .unset, .unset, .unset] [])) rfl (hb hby at_80) (by decide) (by decide)
  obtain ⟨b9, g9⟩ : ∃ z, z = h0.size := ⟨_, rfl⟩
  rw [← g9] at A9 D9 st9
  have g_b9 : n0 ≤ b9 := Nat.le_trans Z0 (Nat.le_of_eq g9.symm)
  have Z9 : n0 ≤ h9.size := Nat.le_trans Z0 E9.1
  have hk := Nat.le_trans hk E9.1
  have F9_37 : Fld Z h9 b9 "com/example/dialplane/dialplane/engine/Area" "id" "Ljava/lang/String;" .null := D9 (Or.inr (hw _ (List.mem_of_getElem? (i := 37) rfl))) (ty := (.object "java/lang/String")) (by decide)
  have F9_39 : Fld Z h9 b9 "com/example/dialplane/dialplane/engine/Area" "x" "I" (.int (0 : Int32)) := D9 (Or.inr (hw _ (List.mem_of_getElem? (i := 39) rfl))) (ty := .int) (by decide)
  have F9_41 : Fld Z h9 b9 "com/example/dialplane/dialplane/engine/Area" "y" "I" (.int (0 : Int32)) := D9 (Or.inr (hw _ (List.mem_of_getElem? (i := 41) rfl))) (ty := .int) (by decide)
  have F9_43 : Fld Z h9 b9 "com/example/dialplane/dialplane/engine/Area" "width" "I" (.int (0 : Int32)) := D9 (Or.inr (hw _ (List.mem_of_getElem? (i := 43) rfl))) (ty := .int) (by decide)
  have F9_45 : Fld Z h9 b9 "com/example/dialplane/dialplane/engine/Area" "height" "I" (.int (0 : Int32)) := D9 (Or.inr (hw _ (List.mem_of_getElem? (i := 45) rfl))) (ty := .int) (by decide)
  refine own_go st9 ?_
  show own_Go p.tables e below _ (T9.setTop (mkF m 83 #[.val (.long q0), .second, .val (.long q1), .second, .val (.long q2), .second, .val (.long q3), .second, .val (.int vx1), .val (.int vw1), .val (.int vy1), .val (.int vh1), .val (.int vx2), .val (.int vw2), .val (.int vy2), .val (.int vh2), .unset, .unset, .unset, .unset, .unset] [(.ref b9)]))
  refine own_go (fun _ k => XS.dup X9.here hx rfl (hb hby at_83) rfl rfl k) ?_
  show own_Go p.tables e below _ (T9.setTop (mkF m 84 #[.val (.long q0), .second, .val (.long q1), .second, .val (.long q2), .second, .val (.long q3), .second, .val (.int vx1), .val (.int vw1), .val (.int vy1), .val (.int vh1), .val (.int vx2), .val (.int vw2), .val (.int vy2), .val (.int vh2), .unset, .unset, .unset, .unset, .unset] [(.ref b9), (.ref b9)]))
  obtain ⟨a10, T10, h10, k10, X10, e10, E10, hS, hk, hZ, hown, st10⟩ := ldcS X9 hx hZ hown (hw _ (List.mem_of_getElem? (i := 11) rfl)) (own_wS hw) e9 hS hk (g := (mkF m 84 #[.val (.long q0), .second, .val (.long q1), .second, .val (.long q2), .second, .val (.long q3), .second, .val (.int vx1), .val (.int vw1), .val (.int vy1), .val (.int vh1), .val (.int vx2), .val (.int vw2), .val (.int vy2), .val (.int vh2), .unset, .unset, .unset, .unset, .unset] [(.ref b9), (.ref b9)])) rfl (hb hby at_84) (n := 4) (by decide +kernel) (by decide) (by decide) (by decide)
  have c10_1 := A9.ext E10
  have c10_2 := F9_37.ext E10
  have c10_3 := F9_39.ext E10
  have c10_4 := F9_41.ext E10
  have c10_5 := F9_43.ext E10
  have c10_6 := F9_45.ext E10
  have Z10 : n0 ≤ h10.size := Nat.le_trans Z9 E10.1
  refine own_go st10 ?_
  show own_Go p.tables e below _ (T10.setTop (mkF m 86 #[.val (.long q0), .second, .val (.long q1), .second, .val (.long q2), .second, .val (.long q3), .second, .val (.int vx1), .val (.int vw1), .val (.int vy1), .val (.int vh1), .val (.int vx2), .val (.int vw2), .val (.int vy2), .val (.int vh2), .unset, .unset, .unset, .unset, .unset] [(.ref a10), (.ref b9), (.ref b9)]))
  refine own_go (fun _ k => XS.iload X10.here hx rfl (hb hby at_86) rfl k) ?_
  show own_Go p.tables e below _ (T10.setTop (mkF m 88 #[.val (.long q0), .second, .val (.long q1), .second, .val (.long q2), .second, .val (.long q3), .second, .val (.int vx1), .val (.int vw1), .val (.int vy1), .val (.int vh1), .val (.int vx2), .val (.int vw2), .val (.int vy2), .val (.int vh2), .unset, .unset, .unset, .unset, .unset] [(.int vx1), (.ref a10), (.ref b9), (.ref b9)]))
  refine own_go (fun _ k => XS.iload X10.here hx rfl (hb hby at_88) rfl k) ?_
  show own_Go p.tables e below _ (T10.setTop (mkF m 90 #[.val (.long q0), .second, .val (.long q1), .second, .val (.long q2), .second, .val (.long q3), .second, .val (.int vx1), .val (.int vw1), .val (.int vy1), .val (.int vh1), .val (.int vx2), .val (.int vw2), .val (.int vy2), .val (.int vh2), .unset, .unset, .unset, .unset, .unset] [(.int vy1), (.int vx1), (.ref a10), (.ref b9), (.ref b9)]))
  refine own_go (fun _ k => XS.iload X10.here hx rfl (hb hby at_90) rfl k) ?_
  show own_Go p.tables e below _ (T10.setTop (mkF m 92 #[.val (.long q0), .second, .val (.long q1), .second, .val (.long q2), .second, .val (.long q3), .second, .val (.int vx1), .val (.int vw1), .val (.int vy1), .val (.int vh1), .val (.int vx2), .val (.int vw2), .val (.int vy2), .val (.int vh2), .unset, .unset, .unset, .unset, .unset] [(.int vw1), (.int vy1), (.int vx1), (.ref a10), (.ref b9), (.ref b9)]))
  refine own_go (fun _ k => XS.iload X10.here hx rfl (hb hby at_92) rfl k) ?_
  show own_Go p.tables e below _ (T10.setTop (mkF m 94 #[.val (.long q0), .second, .val (.long q1), .second, .val (.long q2), .second, .val (.long q3), .second, .val (.int vx1), .val (.int vw1), .val (.int vy1), .val (.int vh1), .val (.int vx2), .val (.int vw2), .val (.int vy2), .val (.int vh2), .unset, .unset, .unset, .unset, .unset] [(.int vh1), (.int vw1), (.int vy1), (.int vx1), (.ref a10), (.ref b9), (.ref b9)]))
  obtain ⟨_, _, ⟨T11, L11, k11, n11⟩, -, X11, hS11, hg11, ⟨Lc11, hQ11, l11, y11, z11⟩, st11⟩ := X10.specialBackS hx (y := (⟨"com/example/dialplane/dialplane/engine/Area", "<init>", "(Ljava/lang/String;IIII)V"⟩ : MethodName)) rfl hown (mvT hZ (hw _ (List.mem_of_getElem? (i := 19) rfl))) (mvT hZ (hw _ (List.mem_of_getElem? (i := 20) rfl))) (mvT hZ (hw _ (List.mem_of_getElem? (i := 21) rfl))) (by decide) (backOfS (W := 1) (rm3 l Z az hw [] b9 a10 vx1 vy1 vw1 vh1 h10 n0 Z10 c10_2 c10_3 c10_4 c10_5 c10_6 c10_1 g_b9 (own_g (own_x hvx1) (own_w (own_x hvx1) hvw1)).1 (own_g (own_x hvy1) (own_w (own_x hvy1) hvh1)).1 (own_g (own_x hvx1) (own_w (own_x hvx1) hvw1)).2.1 (own_g (own_x hvy1) (own_w (own_x hvy1) hvh1)).2.1 (own_g (own_x hvx1) (own_w (own_x hvx1) hvw1)).2.2 (own_g (own_x hvy1) (own_w (own_x hvy1) hvh1)).2.2) hZ (hw _ (List.mem_of_getElem? (i := 21) rfl)) (hw _ (List.mem_of_getElem? (i := 10) rfl)) (by decide) (by decide)) (g := (mkF m 94 #[.val (.long q0), .second, .val (.long q1), .second, .val (.long q2), .second, .val (.long q3), .second, .val (.int vx1), .val (.int vw1), .val (.int vy1), .val (.int vh1), .val (.int vx2), .val (.int vw2), .val (.int vy2), .val (.int vh2), .unset, .unset, .unset, .unset, .unset] [(.int vh1), (.int vw1), (.int vy1), (.int vx1), (.ref a10), (.ref b9), (.ref b9)])) rfl (by rw [hml]; rfl) (Steps.refl _) (a := b9) (argsL := [(.ref a10), (.int vx1), (.int vy1), (.int vw1), (.int vh1)]) (rest := [(.ref b9)]) (lenOf pd0_2 rfl) rfl (by show 2 * 0 + _ ≤ _; exact Nat.le_of_eq rfl) (hb hby at_94) (fun _ _ => ⟨rfl, e10, (by decide : 3 + 2 ≤ _), (by decide : 13 + 44 ≤ _)⟩)
  dsimp only [Pt.U, Pt.locs, Pt.cells, Pt.slots] at X11 hS11 hg11 l11 y11 z11 st11 hQ11
  subst l11 y11 z11
  obtain ⟨X11, hS, hZ, hown⟩ := rebS hS (by rw [e10]; exact hk) X11 hS11 hg11 hZ hown
  refine own_go (fun _ k => st11.trans k) ?_
  obtain ⟨rfl, N11q, K11, E11_, F11_0, F11_1, F11_2, F11_3, F11_4⟩ := hQ11
  have N11 := Fr.app N8 N11q
  have Z11 : n0 ≤ T11.heap.size := Nat.le_trans Z10 K11.1
  have hk := Nat.le_refl T11.heap.size
  show own_Go p.tables e below _ (T11.setTop (mkF m 97 #[.val (.long q0), .second, .val (.long q1), .second, .val (.long q2), .second, .val (.long q3), .second, .val (.int vx1), .val (.int vw1), .val (.int vy1), .val (.int vh1), .val (.int vx2), .val (.int vw2), .val (.int vy2), .val (.int vh2), .unset, .unset, .unset, .unset, .unset] [(.ref b9)]))
  refine own_go (fun _ k => XS.astore X11.here hx rfl (hb hby at_97) rfl rfl (l' := #[.val (.long q0), .second, .val (.long q1), .second, .val (.long q2), .second, .val (.long q3), .second, .val (.int vx1), .val (.int vw1), .val (.int vy1), .val (.int vh1), .val (.int vx2), .val (.int vw2), .val (.int vy2), .val (.int vh2), .val (.ref b9), .unset, .unset, .unset, .unset]) rfl k) ?_
  show own_Go p.tables e below _ (T11.setTop (mkF m 99 #[.val (.long q0), .second, .val (.long q1), .second, .val (.long q2), .second, .val (.long q3), .second, .val (.int vx1), .val (.int vw1), .val (.int vy1), .val (.int vh1), .val (.int vx2), .val (.int vw2), .val (.int vy2), .val (.int vh2), .val (.ref b9), .unset, .unset, .unset, .unset] []))
  obtain ⟨T12, h12, X12, e12, E12, A12, D12, -, st12⟩ := newO X11 hx hZ hown (hw _ (List.mem_of_getElem? (i := 8) rfl)) (hw _ (List.mem_of_getElem? (i := 9) rfl)) (hw _ (List.mem_of_getElem? (i := 10) rfl)) rfl (g := (mkF m 99 #[.val (.long q0), .second, .val (.long q1), .second, .val (.long q2), .second, .val (.long q3), .second, .val (.int vx1), .val (.int vw1), .val (.int vy1), .val (.int vh1), .val (.int vx2), .val (.int vw2), .val (.int vy2), .val (.int vh2), .val (.ref b9), .unset, .unset, .unset, .unset] [])) rfl (hb hby at_99) (by decide) (by decide)
  obtain ⟨b12, g12⟩ : ∃ z, z = T11.heap.size := ⟨_, rfl⟩
  rw [← g12] at A12 D12 st12
  have g_b12 : n0 ≤ b12 := Nat.le_trans Z11 (Nat.le_of_eq g12.symm)
  have ne_b9_b12 : b9 ≠ b12 := Nat.ne_of_lt (Nat.lt_of_lt_of_le E11_.lt (Nat.le_of_eq g12.symm))
  have c12_1 := E11_.ext E12
  have c12_2 := F11_0.ext E12
  have c12_3 := F11_1.ext E12
  have c12_4 := F11_2.ext E12
  have c12_5 := F11_3.ext E12
  have c12_6 := F11_4.ext E12
  have Z12 : n0 ≤ h12.size := Nat.le_trans Z11 E12.1
  have hk := Nat.le_trans hk E12.1
  have F12_37 : Fld Z h12 b12 "com/example/dialplane/dialplane/engine/Area" "id" "Ljava/lang/String;" .null := D12 (Or.inr (hw _ (List.mem_of_getElem? (i := 37) rfl))) (ty := (.object "java/lang/String")) (by decide)
  have F12_39 : Fld Z h12 b12 "com/example/dialplane/dialplane/engine/Area" "x" "I" (.int (0 : Int32)) := D12 (Or.inr (hw _ (List.mem_of_getElem? (i := 39) rfl))) (ty := .int) (by decide)
  have F12_41 : Fld Z h12 b12 "com/example/dialplane/dialplane/engine/Area" "y" "I" (.int (0 : Int32)) := D12 (Or.inr (hw _ (List.mem_of_getElem? (i := 41) rfl))) (ty := .int) (by decide)
  have F12_43 : Fld Z h12 b12 "com/example/dialplane/dialplane/engine/Area" "width" "I" (.int (0 : Int32)) := D12 (Or.inr (hw _ (List.mem_of_getElem? (i := 43) rfl))) (ty := .int) (by decide)
  have F12_45 : Fld Z h12 b12 "com/example/dialplane/dialplane/engine/Area" "height" "I" (.int (0 : Int32)) := D12 (Or.inr (hw _ (List.mem_of_getElem? (i := 45) rfl))) (ty := .int) (by decide)
  refine own_go st12 ?_
  show own_Go p.tables e below _ (T12.setTop (mkF m 102 #[.val (.long q0), .second, .val (.long q1), .second, .val (.long q2), .second, .val (.long q3), .second, .val (.int vx1), .val (.int vw1), .val (.int vy1), .val (.int vh1), .val (.int vx2), .val (.int vw2), .val (.int vy2), .val (.int vh2), .val (.ref b9), .unset, .unset, .unset, .unset] [(.ref b12)]))
  refine own_go (fun _ k => XS.dup X12.here hx rfl (hb hby at_102) rfl rfl k) ?_
  show own_Go p.tables e below _ (T12.setTop (mkF m 103 #[.val (.long q0), .second, .val (.long q1), .second, .val (.long q2), .second, .val (.long q3), .second, .val (.int vx1), .val (.int vw1), .val (.int vy1), .val (.int vh1), .val (.int vx2), .val (.int vw2), .val (.int vy2), .val (.int vh2), .val (.ref b9), .unset, .unset, .unset, .unset] [(.ref b12), (.ref b12)]))
  obtain ⟨a13, T13, h13, k13, X13, e13, E13, hS, hk, hZ, hown, st13⟩ := ldcS X12 hx hZ hown (hw _ (List.mem_of_getElem? (i := 46) rfl)) (own_wS hw) e12 hS hk (g := (mkF m 103 #[.val (.long q0), .second, .val (.long q1), .second, .val (.long q2), .second, .val (.long q3), .second, .val (.int vx1), .val (.int vw1), .val (.int vy1), .val (.int vh1), .val (.int vx2), .val (.int vw2), .val (.int vy2), .val (.int vh2), .val (.ref b9), .unset, .unset, .unset, .unset] [(.ref b12), (.ref b12)])) rfl (hb hby at_103) (n := 4) (by decide +kernel) (by decide) (by decide) (by decide)
  have c13_1 := c12_1.ext E13
  have c13_2 := c12_2.ext E13
  have c13_3 := c12_3.ext E13
  have c13_4 := c12_4.ext E13
  have c13_5 := c12_5.ext E13
  have c13_6 := c12_6.ext E13
  have c13_9 := A12.ext E13
  have c13_10 := F12_37.ext E13
  have c13_11 := F12_39.ext E13
  have c13_12 := F12_41.ext E13
  have c13_13 := F12_43.ext E13
  have c13_14 := F12_45.ext E13
  have Z13 : n0 ≤ h13.size := Nat.le_trans Z12 E13.1
  refine own_go st13 ?_
  show own_Go p.tables e below _ (T13.setTop (mkF m 105 #[.val (.long q0), .second, .val (.long q1), .second, .val (.long q2), .second, .val (.long q3), .second, .val (.int vx1), .val (.int vw1), .val (.int vy1), .val (.int vh1), .val (.int vx2), .val (.int vw2), .val (.int vy2), .val (.int vh2), .val (.ref b9), .unset, .unset, .unset, .unset] [(.ref a13), (.ref b12), (.ref b12)]))
  refine own_go (fun _ k => XS.iload X13.here hx rfl (hb hby at_105) rfl k) ?_
  show own_Go p.tables e below _ (T13.setTop (mkF m 107 #[.val (.long q0), .second, .val (.long q1), .second, .val (.long q2), .second, .val (.long q3), .second, .val (.int vx1), .val (.int vw1), .val (.int vy1), .val (.int vh1), .val (.int vx2), .val (.int vw2), .val (.int vy2), .val (.int vh2), .val (.ref b9), .unset, .unset, .unset, .unset] [(.int vx2), (.ref a13), (.ref b12), (.ref b12)]))
  refine own_go (fun _ k => XS.iload X13.here hx rfl (hb hby at_107) rfl k) ?_
  show own_Go p.tables e below _ (T13.setTop (mkF m 109 #[.val (.long q0), .second, .val (.long q1), .second, .val (.long q2), .second, .val (.long q3), .second, .val (.int vx1), .val (.int vw1), .val (.int vy1), .val (.int vh1), .val (.int vx2), .val (.int vw2), .val (.int vy2), .val (.int vh2), .val (.ref b9), .unset, .unset, .unset, .unset] [(.int vy2), (.int vx2), (.ref a13), (.ref b12), (.ref b12)]))
  refine own_go (fun _ k => XS.iload X13.here hx rfl (hb hby at_109) rfl k) ?_
  show own_Go p.tables e below _ (T13.setTop (mkF m 111 #[.val (.long q0), .second, .val (.long q1), .second, .val (.long q2), .second, .val (.long q3), .second, .val (.int vx1), .val (.int vw1), .val (.int vy1), .val (.int vh1), .val (.int vx2), .val (.int vw2), .val (.int vy2), .val (.int vh2), .val (.ref b9), .unset, .unset, .unset, .unset] [(.int vw2), (.int vy2), (.int vx2), (.ref a13), (.ref b12), (.ref b12)]))
  refine own_go (fun _ k => XS.iload X13.here hx rfl (hb hby at_111) rfl k) ?_
  show own_Go p.tables e below _ (T13.setTop (mkF m 113 #[.val (.long q0), .second, .val (.long q1), .second, .val (.long q2), .second, .val (.long q3), .second, .val (.int vx1), .val (.int vw1), .val (.int vy1), .val (.int vh1), .val (.int vx2), .val (.int vw2), .val (.int vy2), .val (.int vh2), .val (.ref b9), .unset, .unset, .unset, .unset] [(.int vh2), (.int vw2), (.int vy2), (.int vx2), (.ref a13), (.ref b12), (.ref b12)]))
  obtain ⟨_, _, ⟨T14, L14, k14, n14⟩, -, X14, hS14, hg14, ⟨Lc14, hQ14, l14, y14, z14⟩, st14⟩ := X13.specialBackS hx (y := (⟨"com/example/dialplane/dialplane/engine/Area", "<init>", "(Ljava/lang/String;IIII)V"⟩ : MethodName)) rfl hown (mvT hZ (hw _ (List.mem_of_getElem? (i := 19) rfl))) (mvT hZ (hw _ (List.mem_of_getElem? (i := 20) rfl))) (mvT hZ (hw _ (List.mem_of_getElem? (i := 21) rfl))) (by decide) (backOfS (W := 1) (rm3 l Z az hw [] b12 a13 vx2 vy2 vw2 vh2 h13 n0 Z13 c13_10 c13_11 c13_12 c13_13 c13_14 c13_9 g_b12 (own_g (own_x hvx2) (own_w (own_x hvx2) hvw2)).1 (own_g (own_x hvy2) (own_w (own_x hvy2) hvh2)).1 (own_g (own_x hvx2) (own_w (own_x hvx2) hvw2)).2.1 (own_g (own_x hvy2) (own_w (own_x hvy2) hvh2)).2.1 (own_g (own_x hvx2) (own_w (own_x hvx2) hvw2)).2.2 (own_g (own_x hvy2) (own_w (own_x hvy2) hvh2)).2.2) hZ (hw _ (List.mem_of_getElem? (i := 21) rfl)) (hw _ (List.mem_of_getElem? (i := 10) rfl)) (by decide) (by decide)) (g := (mkF m 113 #[.val (.long q0), .second, .val (.long q1), .second, .val (.long q2), .second, .val (.long q3), .second, .val (.int vx1), .val (.int vw1), .val (.int vy1), .val (.int vh1), .val (.int vx2), .val (.int vw2), .val (.int vy2), .val (.int vh2), .val (.ref b9), .unset, .unset, .unset, .unset] [(.int vh2), (.int vw2), (.int vy2), (.int vx2), (.ref a13), (.ref b12), (.ref b12)])) rfl (by rw [hml]; rfl) (Steps.refl _) (a := b12) (argsL := [(.ref a13), (.int vx2), (.int vy2), (.int vw2), (.int vh2)]) (rest := [(.ref b12)]) (lenOf pd0_2 rfl) rfl (by show 2 * 0 + _ ≤ _; exact Nat.le_of_eq rfl) (hb hby at_113) (fun _ _ => ⟨rfl, e13, (by decide : 8 + 2 ≤ _), (by decide : 70 + 44 ≤ _)⟩)
  dsimp only [Pt.U, Pt.locs, Pt.cells, Pt.slots] at X14 hS14 hg14 l14 y14 z14 st14 hQ14
  subst l14 y14 z14
  obtain ⟨X14, hS, hZ, hown⟩ := rebS hS (by rw [e13]; exact hk) X14 hS14 hg14 hZ hown
  refine own_go (fun _ k => st14.trans k) ?_
  obtain ⟨rfl, N14q, K14, E14_, F14_0, F14_1, F14_2, F14_3, F14_4⟩ := hQ14
  have N14 := Fr.app N11 N14q
  have c14_1 := c13_1.keep K14
  have c14_2 := c13_2.keep K14 (fun q => by simp only [List.mem_cons, List.not_mem_nil, or_false] at q; exact ne_b9_b12 q)
  have c14_3 := c13_3.keep K14 (fun q => by simp only [List.mem_cons, List.not_mem_nil, or_false] at q; exact ne_b9_b12 q)
  have c14_4 := c13_4.keep K14 (fun q => by simp only [List.mem_cons, List.not_mem_nil, or_false] at q; exact ne_b9_b12 q)
  have c14_5 := c13_5.keep K14 (fun q => by simp only [List.mem_cons, List.not_mem_nil, or_false] at q; exact ne_b9_b12 q)
  have c14_6 := c13_6.keep K14 (fun q => by simp only [List.mem_cons, List.not_mem_nil, or_false] at q; exact ne_b9_b12 q)
  have Z14 : n0 ≤ T14.heap.size := Nat.le_trans Z13 K14.1
  have hk := Nat.le_refl T14.heap.size
  show own_Go p.tables e below _ (T14.setTop (mkF m 116 #[.val (.long q0), .second, .val (.long q1), .second, .val (.long q2), .second, .val (.long q3), .second, .val (.int vx1), .val (.int vw1), .val (.int vy1), .val (.int vh1), .val (.int vx2), .val (.int vw2), .val (.int vy2), .val (.int vh2), .val (.ref b9), .unset, .unset, .unset, .unset] [(.ref b12)]))
  refine own_go (fun _ k => XS.astore X14.here hx rfl (hb hby at_116) rfl rfl (l' := #[.val (.long q0), .second, .val (.long q1), .second, .val (.long q2), .second, .val (.long q3), .second, .val (.int vx1), .val (.int vw1), .val (.int vy1), .val (.int vh1), .val (.int vx2), .val (.int vw2), .val (.int vy2), .val (.int vh2), .val (.ref b9), .val (.ref b12), .unset, .unset, .unset]) rfl k) ?_
  show own_Go p.tables e below _ (T14.setTop (mkF m 118 #[.val (.long q0), .second, .val (.long q1), .second, .val (.long q2), .second, .val (.long q3), .second, .val (.int vx1), .val (.int vw1), .val (.int vy1), .val (.int vh1), .val (.int vx2), .val (.int vw2), .val (.int vy2), .val (.int vh2), .val (.ref b9), .val (.ref b12), .unset, .unset, .unset] []))
  refine own_go (fun _ k => XS.iload X14.here hx rfl (hb hby at_118) rfl k) ?_
  show own_Go p.tables e below _ (T14.setTop (mkF m 120 #[.val (.long q0), .second, .val (.long q1), .second, .val (.long q2), .second, .val (.long q3), .second, .val (.int vx1), .val (.int vw1), .val (.int vy1), .val (.int vh1), .val (.int vx2), .val (.int vw2), .val (.int vy2), .val (.int vh2), .val (.ref b9), .val (.ref b12), .unset, .unset, .unset] [(.int vx1)]))
  refine own_go (fun _ k => XS.iload X14.here hx rfl (hb hby at_120) rfl k) ?_
  show own_Go p.tables e below _ (T14.setTop (mkF m 122 #[.val (.long q0), .second, .val (.long q1), .second, .val (.long q2), .second, .val (.long q3), .second, .val (.int vx1), .val (.int vw1), .val (.int vy1), .val (.int vh1), .val (.int vx2), .val (.int vw2), .val (.int vy2), .val (.int vh2), .val (.ref b9), .val (.ref b12), .unset, .unset, .unset] [(.int vw1), (.int vx1)]))
  refine own_go (fun _ k => XS.iload X14.here hx rfl (hb hby at_122) rfl k) ?_
  show own_Go p.tables e below _ (T14.setTop (mkF m 124 #[.val (.long q0), .second, .val (.long q1), .second, .val (.long q2), .second, .val (.long q3), .second, .val (.int vx1), .val (.int vw1), .val (.int vy1), .val (.int vh1), .val (.int vx2), .val (.int vw2), .val (.int vy2), .val (.int vh2), .val (.ref b9), .val (.ref b12), .unset, .unset, .unset] [(.int vx2), (.int vw1), (.int vx1)]))
  refine own_go (fun _ k => XS.iload X14.here hx rfl (hb hby at_124) rfl k) ?_
  show own_Go p.tables e below _ (T14.setTop (mkF m 126 #[.val (.long q0), .second, .val (.long q1), .second, .val (.long q2), .second, .val (.long q3), .second, .val (.int vx1), .val (.int vw1), .val (.int vy1), .val (.int vh1), .val (.int vx2), .val (.int vw2), .val (.int vy2), .val (.int vh2), .val (.ref b9), .val (.ref b12), .unset, .unset, .unset] [(.int vw2), (.int vx2), (.int vw1), (.int vx1)]))
  obtain ⟨_, _, ⟨T15, L15, k15, n15⟩, -, X15, ⟨Lc15, hQ15, l15, y15, z15⟩, st15⟩ := Jvm.LawKit.callS X14 hx (y := (⟨"com/example/dialplane/dialplane/engine/AreaTouchesPinLaw", "meet", "(IIII)Z"⟩ : MethodName)) hown (mvT hZ (hw _ (List.mem_of_getElem? (i := 47) rfl))) (mvT hZ (hw _ (List.mem_of_getElem? (i := 48) rfl))) (mvT hZ (hw _ (List.mem_of_getElem? (i := 2) rfl))) (mvT hZ (hw _ (List.mem_of_getElem? (i := 49) rfl))) (by decide) (backOf (W := 0) (rm8 l Z az hw [] vx1 vw1 vx2 vw2 T14.heap n0 Z14) hZ (hw _ (List.mem_of_getElem? (i := 49) rfl)) (hw _ (List.mem_of_getElem? (i := 2) rfl)) (by decide) (by decide)) (g := (mkF m 126 #[.val (.long q0), .second, .val (.long q1), .second, .val (.long q2), .second, .val (.long q3), .second, .val (.int vx1), .val (.int vw1), .val (.int vy1), .val (.int vh1), .val (.int vx2), .val (.int vw2), .val (.int vy2), .val (.int vh2), .val (.ref b9), .val (.ref b12), .unset, .unset, .unset] [(.int vw2), (.int vx2), (.int vw1), (.int vx1)])) rfl (by rw [hml]; rfl) (argsL := [(.int vx1), (.int vw1), (.int vx2), (.int vw2)]) (rest := []) (lenOf pd0_3 rfl) rfl (by show 2 * 0 + _ ≤ _; exact Nat.le_of_eq rfl) (hb hby at_126) (fun _ _ => ⟨rfl, rfl, (by decide : 10 + 0 ≤ _), (by decide : 114 + 0 ≤ _)⟩)
  dsimp only [Pt.U, Pt.locs, Pt.cells, Pt.slots] at X15 l15 y15 z15 st15 hQ15
  subst l15 y15 z15
  refine own_go st15 ?_
  obtain ⟨rfl, N15q, e15⟩ := hQ15
  have N15 := Fr.app N14 N15q
  show own_Go p.tables e below _ (T15.setTop (mkF m 129 #[.val (.long q0), .second, .val (.long q1), .second, .val (.long q2), .second, .val (.long q3), .second, .val (.int vx1), .val (.int vw1), .val (.int vy1), .val (.int vh1), .val (.int vx2), .val (.int vw2), .val (.int vy2), .val (.int vh2), .val (.ref b9), .val (.ref b12), .unset, .unset, .unset] [(.int (own_f8 vx1 vw1 vx2 vw2))]))
  by_cases hc129 : (own_f8 vx1 vw1 vx2 vw2) = (0 : Int32)
  · refine own_go (fun _ k => XS.ifYes X15.here hx rfl (pc0 := 129) (pc' := 150) rfl (hb hby at_129) rfl ((if0 _ _).trans (teq hc129).1) (by decide) (by decide) k) ?_
    show own_Go p.tables e below _ (T15.setTop (mkF m 150 #[.val (.long q0), .second, .val (.long q1), .second, .val (.long q2), .second, .val (.long q3), .second, .val (.int vx1), .val (.int vw1), .val (.int vy1), .val (.int vh1), .val (.int vx2), .val (.int vw2), .val (.int vy2), .val (.int vh2), .val (.ref b9), .val (.ref b12), .unset, .unset, .unset] []))
    refine own_go (fun _ k => XS.iconst X15.here hx rfl (hb hby at_150) k) ?_
    show own_Go p.tables e below _ (T15.setTop (mkF m 151 #[.val (.long q0), .second, .val (.long q1), .second, .val (.long q2), .second, .val (.long q3), .second, .val (.int vx1), .val (.int vw1), .val (.int vy1), .val (.int vh1), .val (.int vx2), .val (.int vw2), .val (.int vy2), .val (.int vh2), .val (.ref b9), .val (.ref b12), .unset, .unset, .unset] [(.int (0 : Int32))]))
    refine own_go (fun _ k => XS.istore X15.here hx rfl (hb hby at_151) rfl (l' := #[.val (.long q0), .second, .val (.long q1), .second, .val (.long q2), .second, .val (.long q3), .second, .val (.int vx1), .val (.int vw1), .val (.int vy1), .val (.int vh1), .val (.int vx2), .val (.int vw2), .val (.int vy2), .val (.int vh2), .val (.ref b9), .val (.ref b12), .val (.int (0 : Int32)), .unset, .unset]) rfl k) ?_
    show own_Go p.tables e below _ (T15.setTop (mkF m 153 #[.val (.long q0), .second, .val (.long q1), .second, .val (.long q2), .second, .val (.long q3), .second, .val (.int vx1), .val (.int vw1), .val (.int vy1), .val (.int vh1), .val (.int vx2), .val (.int vw2), .val (.int vy2), .val (.int vh2), .val (.ref b9), .val (.ref b12), .val (.int (0 : Int32)), .unset, .unset] []))
    refine own_go (fun _ k => XS.aload X15.here hx rfl (hb hby at_153) rfl rfl k) ?_
    show own_Go p.tables e below _ (T15.setTop (mkF m 155 #[.val (.long q0), .second, .val (.long q1), .second, .val (.long q2), .second, .val (.long q3), .second, .val (.int vx1), .val (.int vw1), .val (.int vy1), .val (.int vh1), .val (.int vx2), .val (.int vw2), .val (.int vy2), .val (.int vh2), .val (.ref b9), .val (.ref b12), .val (.int (0 : Int32)), .unset, .unset] [(.ref b9)]))
    refine own_go (fun _ k => XS.aload X15.here hx rfl (hb hby at_155) rfl rfl k) ?_
    show own_Go p.tables e below _ (T15.setTop (mkF m 157 #[.val (.long q0), .second, .val (.long q1), .second, .val (.long q2), .second, .val (.long q3), .second, .val (.int vx1), .val (.int vw1), .val (.int vy1), .val (.int vh1), .val (.int vx2), .val (.int vw2), .val (.int vy2), .val (.int vh2), .val (.ref b9), .val (.ref b12), .val (.int (0 : Int32)), .unset, .unset] [(.ref b12), (.ref b9)]))
    obtain ⟨cq16, kq16, q16a, q16b, q16c⟩ := isOf hZ (e15 : T15.heap = T14.heap) c14_1
    obtain ⟨_, _, ⟨T16, L16, k16, n16⟩, -, X16, ⟨Lc16, hQ16, l16, y16, z16⟩, st16⟩ := X15.virtualBack hx (y := (⟨"com/example/dialplane/dialplane/engine/Area", "touches", "(Lcom/example/dialplane/dialplane/engine/Area;)Z"⟩ : MethodName)) (z := (⟨"com/example/dialplane/dialplane/engine/Area", "touches", "(Lcom/example/dialplane/dialplane/engine/Area;)Z"⟩ : MethodName)) hown (mvT hZ (hw _ (List.mem_of_getElem? (i := 57) rfl))) (mvT hZ (hw _ (List.mem_of_getElem? (i := 58) rfl))) (notFace_of_selects (args := #[]) (mvT hZ (hw _ (List.mem_of_getElem? (i := 60) rfl)))) (mvT hZ (hw _ (List.mem_of_getElem? (i := 60) rfl))) (mvT hZ (hw _ (List.mem_of_getElem? (i := 59) rfl))) (by decide) (backOf (W := 0) (rm9 l Z az hw [] b9 b12 vx1 vy1 vw1 vh1 vx2 vy2 vw2 vh2 T14.heap n0 Z14 c14_3 c14_4 c14_5 c14_6 F14_1 F14_2 F14_3 F14_4) hZ (hw _ (List.mem_of_getElem? (i := 61) rfl)) (hw _ (List.mem_of_getElem? (i := 10) rfl)) (by decide) (by decide)) q16a q16c (g := (mkF m 157 #[.val (.long q0), .second, .val (.long q1), .second, .val (.long q2), .second, .val (.long q3), .second, .val (.int vx1), .val (.int vw1), .val (.int vy1), .val (.int vh1), .val (.int vx2), .val (.int vw2), .val (.int vy2), .val (.int vh2), .val (.ref b9), .val (.ref b12), .val (.int (0 : Int32)), .unset, .unset] [(.ref b12), (.ref b9)])) rfl (by rw [hml]; rfl) (Steps.refl _) (argsL := [(.ref b12)]) (rest := []) (lenOf pd0_4 rfl) rfl (by show 2 * 0 + _ ≤ _; exact Nat.le_of_eq rfl) (hb hby at_157) (fun _ _ => ⟨rfl, (e15 : T15.heap = T14.heap), (by decide : 10 + 0 ≤ _), (by decide : 114 + 0 ≤ _)⟩)
    dsimp only [Pt.U, Pt.locs, Pt.cells, Pt.slots] at X16 l16 y16 z16 st16 hQ16
    subst l16 y16 z16
    refine own_go (fun _ k => st16.trans k) ?_
    obtain ⟨rfl, N16q, e16⟩ := hQ16
    have N16 := Fr.app N15 N16q
    show own_Go p.tables e below _ (T16.setTop (mkF m 160 #[.val (.long q0), .second, .val (.long q1), .second, .val (.long q2), .second, .val (.long q3), .second, .val (.int vx1), .val (.int vw1), .val (.int vy1), .val (.int vh1), .val (.int vx2), .val (.int vw2), .val (.int vy2), .val (.int vh2), .val (.ref b9), .val (.ref b12), .val (.int (0 : Int32)), .unset, .unset] [(.int (own_f9 vx1 vy1 vw1 vh1 vx2 vy2 vw2 vh2))]))
    refine own_go (fun _ k => XS.istore X16.here hx rfl (hb hby at_160) rfl (l' := #[.val (.long q0), .second, .val (.long q1), .second, .val (.long q2), .second, .val (.long q3), .second, .val (.int vx1), .val (.int vw1), .val (.int vy1), .val (.int vh1), .val (.int vx2), .val (.int vw2), .val (.int vy2), .val (.int vh2), .val (.ref b9), .val (.ref b12), .val (.int (0 : Int32)), .val (.int (own_f9 vx1 vy1 vw1 vh1 vx2 vy2 vw2 vh2)), .unset]) rfl k) ?_
    show own_Go p.tables e below _ (T16.setTop (mkF m 162 #[.val (.long q0), .second, .val (.long q1), .second, .val (.long q2), .second, .val (.long q3), .second, .val (.int vx1), .val (.int vw1), .val (.int vy1), .val (.int vh1), .val (.int vx2), .val (.int vw2), .val (.int vy2), .val (.int vh2), .val (.ref b9), .val (.ref b12), .val (.int (0 : Int32)), .val (.int (own_f9 vx1 vy1 vw1 vh1 vx2 vy2 vw2 vh2)), .unset] []))
    refine own_go (fun _ k => XS.aload X16.here hx rfl (hb hby at_162) rfl rfl k) ?_
    show own_Go p.tables e below _ (T16.setTop (mkF m 164 #[.val (.long q0), .second, .val (.long q1), .second, .val (.long q2), .second, .val (.long q3), .second, .val (.int vx1), .val (.int vw1), .val (.int vy1), .val (.int vh1), .val (.int vx2), .val (.int vw2), .val (.int vy2), .val (.int vh2), .val (.ref b9), .val (.ref b12), .val (.int (0 : Int32)), .val (.int (own_f9 vx1 vy1 vw1 vh1 vx2 vy2 vw2 vh2)), .unset] [(.ref b12)]))
    refine own_go (fun _ k => XS.aload X16.here hx rfl (hb hby at_164) rfl rfl k) ?_
    show own_Go p.tables e below _ (T16.setTop (mkF m 166 #[.val (.long q0), .second, .val (.long q1), .second, .val (.long q2), .second, .val (.long q3), .second, .val (.int vx1), .val (.int vw1), .val (.int vy1), .val (.int vh1), .val (.int vx2), .val (.int vw2), .val (.int vy2), .val (.int vh2), .val (.ref b9), .val (.ref b12), .val (.int (0 : Int32)), .val (.int (own_f9 vx1 vy1 vw1 vh1 vx2 vy2 vw2 vh2)), .unset] [(.ref b9), (.ref b12)]))
    obtain ⟨cq17, kq17, q17a, q17b, q17c⟩ := isOf hZ (e16 : T16.heap = T14.heap) E14_
    obtain ⟨_, _, ⟨T17, L17, k17, n17⟩, -, X17, ⟨Lc17, hQ17, l17, y17, z17⟩, st17⟩ := X16.virtualBack hx (y := (⟨"com/example/dialplane/dialplane/engine/Area", "touches", "(Lcom/example/dialplane/dialplane/engine/Area;)Z"⟩ : MethodName)) (z := (⟨"com/example/dialplane/dialplane/engine/Area", "touches", "(Lcom/example/dialplane/dialplane/engine/Area;)Z"⟩ : MethodName)) hown (mvT hZ (hw _ (List.mem_of_getElem? (i := 57) rfl))) (mvT hZ (hw _ (List.mem_of_getElem? (i := 58) rfl))) (notFace_of_selects (args := #[]) (mvT hZ (hw _ (List.mem_of_getElem? (i := 60) rfl)))) (mvT hZ (hw _ (List.mem_of_getElem? (i := 60) rfl))) (mvT hZ (hw _ (List.mem_of_getElem? (i := 59) rfl))) (by decide) (backOf (W := 0) (rm9 l Z az hw [] b12 b9 vx2 vy2 vw2 vh2 vx1 vy1 vw1 vh1 T14.heap n0 Z14 F14_1 F14_2 F14_3 F14_4 c14_3 c14_4 c14_5 c14_6) hZ (hw _ (List.mem_of_getElem? (i := 61) rfl)) (hw _ (List.mem_of_getElem? (i := 10) rfl)) (by decide) (by decide)) q17a q17c (g := (mkF m 166 #[.val (.long q0), .second, .val (.long q1), .second, .val (.long q2), .second, .val (.long q3), .second, .val (.int vx1), .val (.int vw1), .val (.int vy1), .val (.int vh1), .val (.int vx2), .val (.int vw2), .val (.int vy2), .val (.int vh2), .val (.ref b9), .val (.ref b12), .val (.int (0 : Int32)), .val (.int (own_f9 vx1 vy1 vw1 vh1 vx2 vy2 vw2 vh2)), .unset] [(.ref b9), (.ref b12)])) rfl (by rw [hml]; rfl) (Steps.refl _) (argsL := [(.ref b9)]) (rest := []) (lenOf pd0_4 rfl) rfl (by show 2 * 0 + _ ≤ _; exact Nat.le_of_eq rfl) (hb hby at_166) (fun _ _ => ⟨rfl, (e16 : T16.heap = T14.heap), (by decide : 10 + 0 ≤ _), (by decide : 114 + 0 ≤ _)⟩)
    dsimp only [Pt.U, Pt.locs, Pt.cells, Pt.slots] at X17 l17 y17 z17 st17 hQ17
    subst l17 y17 z17
    refine own_go (fun _ k => st17.trans k) ?_
    obtain ⟨rfl, N17q, e17⟩ := hQ17
    have N17 := Fr.app N16 N17q
    show own_Go p.tables e below _ (T17.setTop (mkF m 169 #[.val (.long q0), .second, .val (.long q1), .second, .val (.long q2), .second, .val (.long q3), .second, .val (.int vx1), .val (.int vw1), .val (.int vy1), .val (.int vh1), .val (.int vx2), .val (.int vw2), .val (.int vy2), .val (.int vh2), .val (.ref b9), .val (.ref b12), .val (.int (0 : Int32)), .val (.int (own_f9 vx1 vy1 vw1 vh1 vx2 vy2 vw2 vh2)), .unset] [(.int (own_f9 vx2 vy2 vw2 vh2 vx1 vy1 vw1 vh1))]))
    refine own_go (fun _ k => XS.istore X17.here hx rfl (hb hby at_169) rfl (l' := #[.val (.long q0), .second, .val (.long q1), .second, .val (.long q2), .second, .val (.long q3), .second, .val (.int vx1), .val (.int vw1), .val (.int vy1), .val (.int vh1), .val (.int vx2), .val (.int vw2), .val (.int vy2), .val (.int vh2), .val (.ref b9), .val (.ref b12), .val (.int (0 : Int32)), .val (.int (own_f9 vx1 vy1 vw1 vh1 vx2 vy2 vw2 vh2)), .val (.int (own_f9 vx2 vy2 vw2 vh2 vx1 vy1 vw1 vh1))]) rfl k) ?_
    show own_Go p.tables e below _ (T17.setTop (mkF m 171 #[.val (.long q0), .second, .val (.long q1), .second, .val (.long q2), .second, .val (.long q3), .second, .val (.int vx1), .val (.int vw1), .val (.int vy1), .val (.int vh1), .val (.int vx2), .val (.int vw2), .val (.int vy2), .val (.int vh2), .val (.ref b9), .val (.ref b12), .val (.int (0 : Int32)), .val (.int (own_f9 vx1 vy1 vw1 vh1 vx2 vy2 vw2 vh2)), .val (.int (own_f9 vx2 vy2 vw2 vh2 vx1 vy1 vw1 vh1))] []))
    refine own_go (fun _ k => XS.iload X17.here hx rfl (hb hby at_171) rfl k) ?_
    show own_Go p.tables e below _ (T17.setTop (mkF m 173 #[.val (.long q0), .second, .val (.long q1), .second, .val (.long q2), .second, .val (.long q3), .second, .val (.int vx1), .val (.int vw1), .val (.int vy1), .val (.int vh1), .val (.int vx2), .val (.int vw2), .val (.int vy2), .val (.int vh2), .val (.ref b9), .val (.ref b12), .val (.int (0 : Int32)), .val (.int (own_f9 vx1 vy1 vw1 vh1 vx2 vy2 vw2 vh2)), .val (.int (own_f9 vx2 vy2 vw2 vh2 vx1 vy1 vw1 vh1))] [(.int (own_f9 vx1 vy1 vw1 vh1 vx2 vy2 vw2 vh2))]))
    refine own_go (fun _ k => XS.iload X17.here hx rfl (hb hby at_173) rfl k) ?_
    show own_Go p.tables e below _ (T17.setTop (mkF m 175 #[.val (.long q0), .second, .val (.long q1), .second, .val (.long q2), .second, .val (.long q3), .second, .val (.int vx1), .val (.int vw1), .val (.int vy1), .val (.int vh1), .val (.int vx2), .val (.int vw2), .val (.int vy2), .val (.int vh2), .val (.ref b9), .val (.ref b12), .val (.int (0 : Int32)), .val (.int (own_f9 vx1 vy1 vw1 vh1 vx2 vy2 vw2 vh2)), .val (.int (own_f9 vx2 vy2 vw2 vh2 vx1 vy1 vw1 vh1))] [(.int (0 : Int32)), (.int (own_f9 vx1 vy1 vw1 vh1 vx2 vy2 vw2 vh2))]))
    have hf175 : (own_f9 vx1 vy1 vw1 vh1 vx2 vy2 vw2 vh2) = (0 : Int32) := by rw [(own_val (own_x hvx1) (own_w (own_x hvx1) hvw1) (own_x hvy1) (own_w (own_x hvy1) hvh1) (own_x hvx2) (own_w (own_x hvx2) hvw2) (own_x hvy2) (own_w (own_x hvy2) hvh2)).1, if_pos hc129]
    refine own_go (fun _ k => XS.icmpNo X17.here hx rfl (hb hby at_175) rfl (teq hf175).2 k) ?_
    show own_Go p.tables e below _ (T17.setTop (mkF m 178 #[.val (.long q0), .second, .val (.long q1), .second, .val (.long q2), .second, .val (.long q3), .second, .val (.int vx1), .val (.int vw1), .val (.int vy1), .val (.int vh1), .val (.int vx2), .val (.int vw2), .val (.int vy2), .val (.int vh2), .val (.ref b9), .val (.ref b12), .val (.int (0 : Int32)), .val (.int (own_f9 vx1 vy1 vw1 vh1 vx2 vy2 vw2 vh2)), .val (.int (own_f9 vx2 vy2 vw2 vh2 vx1 vy1 vw1 vh1))] []))
    refine own_go (fun _ k => XS.iload X17.here hx rfl (hb hby at_178) rfl k) ?_
    show own_Go p.tables e below _ (T17.setTop (mkF m 180 #[.val (.long q0), .second, .val (.long q1), .second, .val (.long q2), .second, .val (.long q3), .second, .val (.int vx1), .val (.int vw1), .val (.int vy1), .val (.int vh1), .val (.int vx2), .val (.int vw2), .val (.int vy2), .val (.int vh2), .val (.ref b9), .val (.ref b12), .val (.int (0 : Int32)), .val (.int (own_f9 vx1 vy1 vw1 vh1 vx2 vy2 vw2 vh2)), .val (.int (own_f9 vx2 vy2 vw2 vh2 vx1 vy1 vw1 vh1))] [(.int (own_f9 vx2 vy2 vw2 vh2 vx1 vy1 vw1 vh1))]))
    refine own_go (fun _ k => XS.iload X17.here hx rfl (hb hby at_180) rfl k) ?_
    show own_Go p.tables e below _ (T17.setTop (mkF m 182 #[.val (.long q0), .second, .val (.long q1), .second, .val (.long q2), .second, .val (.long q3), .second, .val (.int vx1), .val (.int vw1), .val (.int vy1), .val (.int vh1), .val (.int vx2), .val (.int vw2), .val (.int vy2), .val (.int vh2), .val (.ref b9), .val (.ref b12), .val (.int (0 : Int32)), .val (.int (own_f9 vx1 vy1 vw1 vh1 vx2 vy2 vw2 vh2)), .val (.int (own_f9 vx2 vy2 vw2 vh2 vx1 vy1 vw1 vh1))] [(.int (0 : Int32)), (.int (own_f9 vx2 vy2 vw2 vh2 vx1 vy1 vw1 vh1))]))
    have hf182 : (own_f9 vx2 vy2 vw2 vh2 vx1 vy1 vw1 vh1) = (0 : Int32) := by rw [(own_val (own_x hvx1) (own_w (own_x hvx1) hvw1) (own_x hvy1) (own_w (own_x hvy1) hvh1) (own_x hvx2) (own_w (own_x hvx2) hvw2) (own_x hvy2) (own_w (own_x hvy2) hvh2)).2, if_pos hc129]
    refine own_go (fun _ k => XS.icmpNo X17.here hx rfl (hb hby at_182) rfl (teq hf182).2 k) ?_
    show own_Go p.tables e below _ (T17.setTop (mkF m 185 #[.val (.long q0), .second, .val (.long q1), .second, .val (.long q2), .second, .val (.long q3), .second, .val (.int vx1), .val (.int vw1), .val (.int vy1), .val (.int vh1), .val (.int vx2), .val (.int vw2), .val (.int vy2), .val (.int vh2), .val (.ref b9), .val (.ref b12), .val (.int (0 : Int32)), .val (.int (own_f9 vx1 vy1 vw1 vh1 vx2 vy2 vw2 vh2)), .val (.int (own_f9 vx2 vy2 vw2 vh2 vx1 vy1 vw1 vh1))] []))
    refine own_go (fun _ k => XS.iconst X17.here hx rfl (hb hby at_185) k) ?_
    show own_Go p.tables e below _ (T17.setTop (mkF m 186 #[.val (.long q0), .second, .val (.long q1), .second, .val (.long q2), .second, .val (.long q3), .second, .val (.int vx1), .val (.int vw1), .val (.int vy1), .val (.int vh1), .val (.int vx2), .val (.int vw2), .val (.int vy2), .val (.int vh2), .val (.ref b9), .val (.ref b12), .val (.int (0 : Int32)), .val (.int (own_f9 vx1 vy1 vw1 vh1 vx2 vy2 vw2 vh2)), .val (.int (own_f9 vx2 vy2 vw2 vh2 vx1 vy1 vw1 vh1))] [(.int (1 : Int32))]))
    refine own_go (fun _ k => XS.goto X17.here hx rfl (pc0 := 186) (pc' := 190) rfl (hb hby at_186) (by decide) (by decide) k) ?_
    show own_Go p.tables e below _ (T17.setTop (mkF m 190 #[.val (.long q0), .second, .val (.long q1), .second, .val (.long q2), .second, .val (.long q3), .second, .val (.int vx1), .val (.int vw1), .val (.int vy1), .val (.int vh1), .val (.int vx2), .val (.int vw2), .val (.int vy2), .val (.int vh2), .val (.ref b9), .val (.ref b12), .val (.int (0 : Int32)), .val (.int (own_f9 vx1 vy1 vw1 vh1 vx2 vy2 vw2 vh2)), .val (.int (own_f9 vx2 vy2 vw2 vh2 vx1 vy1 vw1 vh1))] [(.int (1 : Int32))]))
    refine own_endW X17 hS (by rw [(e17 : T17.heap = T14.heap)]; exact hk) Bd.notSynchronized (v := some (.int (1 : Int32))) (fun h => by rw [Bd.returns] at h; cases h) (fun fs hr => retN X17 hx (t := .boolean) Bd.returns (by simp) (hb hby at_190) hr) ?_ (by decide) (by decide)
    exact ⟨rfl, N17⟩
  · refine own_go (fun _ k => XS.ifNo X15.here hx rfl (hb hby at_129) rfl ((if0 _ _).trans (feq hc129).1) k) ?_
    show own_Go p.tables e below _ (T15.setTop (mkF m 132 #[.val (.long q0), .second, .val (.long q1), .second, .val (.long q2), .second, .val (.long q3), .second, .val (.int vx1), .val (.int vw1), .val (.int vy1), .val (.int vh1), .val (.int vx2), .val (.int vw2), .val (.int vy2), .val (.int vh2), .val (.ref b9), .val (.ref b12), .unset, .unset, .unset] []))
    refine own_go (fun _ k => XS.iload X15.here hx rfl (hb hby at_132) rfl k) ?_
    show own_Go p.tables e below _ (T15.setTop (mkF m 134 #[.val (.long q0), .second, .val (.long q1), .second, .val (.long q2), .second, .val (.long q3), .second, .val (.int vx1), .val (.int vw1), .val (.int vy1), .val (.int vh1), .val (.int vx2), .val (.int vw2), .val (.int vy2), .val (.int vh2), .val (.ref b9), .val (.ref b12), .unset, .unset, .unset] [(.int vy1)]))
    refine own_go (fun _ k => XS.iload X15.here hx rfl (hb hby at_134) rfl k) ?_
    show own_Go p.tables e below _ (T15.setTop (mkF m 136 #[.val (.long q0), .second, .val (.long q1), .second, .val (.long q2), .second, .val (.long q3), .second, .val (.int vx1), .val (.int vw1), .val (.int vy1), .val (.int vh1), .val (.int vx2), .val (.int vw2), .val (.int vy2), .val (.int vh2), .val (.ref b9), .val (.ref b12), .unset, .unset, .unset] [(.int vh1), (.int vy1)]))
    refine own_go (fun _ k => XS.iload X15.here hx rfl (hb hby at_136) rfl k) ?_
    show own_Go p.tables e below _ (T15.setTop (mkF m 138 #[.val (.long q0), .second, .val (.long q1), .second, .val (.long q2), .second, .val (.long q3), .second, .val (.int vx1), .val (.int vw1), .val (.int vy1), .val (.int vh1), .val (.int vx2), .val (.int vw2), .val (.int vy2), .val (.int vh2), .val (.ref b9), .val (.ref b12), .unset, .unset, .unset] [(.int vy2), (.int vh1), (.int vy1)]))
    refine own_go (fun _ k => XS.iload X15.here hx rfl (hb hby at_138) rfl k) ?_
    show own_Go p.tables e below _ (T15.setTop (mkF m 140 #[.val (.long q0), .second, .val (.long q1), .second, .val (.long q2), .second, .val (.long q3), .second, .val (.int vx1), .val (.int vw1), .val (.int vy1), .val (.int vh1), .val (.int vx2), .val (.int vw2), .val (.int vy2), .val (.int vh2), .val (.ref b9), .val (.ref b12), .unset, .unset, .unset] [(.int vh2), (.int vy2), (.int vh1), (.int vy1)]))
    obtain ⟨_, _, ⟨T18, L18, k18, n18⟩, -, X18, ⟨Lc18, hQ18, l18, y18, z18⟩, st18⟩ := Jvm.LawKit.callS X15 hx (y := (⟨"com/example/dialplane/dialplane/engine/AreaTouchesPinLaw", "meet", "(IIII)Z"⟩ : MethodName)) hown (mvT hZ (hw _ (List.mem_of_getElem? (i := 47) rfl))) (mvT hZ (hw _ (List.mem_of_getElem? (i := 48) rfl))) (mvT hZ (hw _ (List.mem_of_getElem? (i := 2) rfl))) (mvT hZ (hw _ (List.mem_of_getElem? (i := 49) rfl))) (by decide) (backOf (W := 0) (rm8 l Z az hw [] vy1 vh1 vy2 vh2 T14.heap n0 Z14) hZ (hw _ (List.mem_of_getElem? (i := 49) rfl)) (hw _ (List.mem_of_getElem? (i := 2) rfl)) (by decide) (by decide)) (g := (mkF m 140 #[.val (.long q0), .second, .val (.long q1), .second, .val (.long q2), .second, .val (.long q3), .second, .val (.int vx1), .val (.int vw1), .val (.int vy1), .val (.int vh1), .val (.int vx2), .val (.int vw2), .val (.int vy2), .val (.int vh2), .val (.ref b9), .val (.ref b12), .unset, .unset, .unset] [(.int vh2), (.int vy2), (.int vh1), (.int vy1)])) rfl (by rw [hml]; rfl) (argsL := [(.int vy1), (.int vh1), (.int vy2), (.int vh2)]) (rest := []) (lenOf pd0_3 rfl) rfl (by show 2 * 0 + _ ≤ _; exact Nat.le_of_eq rfl) (hb hby at_140) (fun _ _ => ⟨rfl, (e15 : T15.heap = T14.heap), (by decide : 10 + 0 ≤ _), (by decide : 114 + 0 ≤ _)⟩)
    dsimp only [Pt.U, Pt.locs, Pt.cells, Pt.slots] at X18 l18 y18 z18 st18 hQ18
    subst l18 y18 z18
    refine own_go st18 ?_
    obtain ⟨rfl, N18q, e18⟩ := hQ18
    have N18 := Fr.app N15 N18q
    show own_Go p.tables e below _ (T18.setTop (mkF m 143 #[.val (.long q0), .second, .val (.long q1), .second, .val (.long q2), .second, .val (.long q3), .second, .val (.int vx1), .val (.int vw1), .val (.int vy1), .val (.int vh1), .val (.int vx2), .val (.int vw2), .val (.int vy2), .val (.int vh2), .val (.ref b9), .val (.ref b12), .unset, .unset, .unset] [(.int (own_f8 vy1 vh1 vy2 vh2))]))
    have sg19 : ∀ t, Steps p.tables e below (T18.setTop (mkF m 151 #[.val (.long q0), .second, .val (.long q1), .second, .val (.long q2), .second, .val (.long q3), .second, .val (.int vx1), .val (.int vw1), .val (.int vy1), .val (.int vh1), .val (.int vx2), .val (.int vw2), .val (.int vy2), .val (.int vh2), .val (.ref b9), .val (.ref b12), .unset, .unset, .unset] [(.int (if (own_f8 vy1 vh1 vy2 vh2) = (0 : Int32) then (0 : Int32) else (1 : Int32)))])) t → Steps p.tables e below (T18.setTop (mkF m 143 #[.val (.long q0), .second, .val (.long q1), .second, .val (.long q2), .second, .val (.long q3), .second, .val (.int vx1), .val (.int vw1), .val (.int vy1), .val (.int vh1), .val (.int vx2), .val (.int vw2), .val (.int vy2), .val (.int vh2), .val (.ref b9), .val (.ref b12), .unset, .unset, .unset] [(.int (own_f8 vy1 vh1 vy2 vh2))])) t := by
      intro t k
      by_cases hc143 : (own_f8 vy1 vh1 vy2 vh2) = (0 : Int32)
      · try simp only [if_pos hc143] at k
        refine XS.ifYes X18.here hx rfl (pc0 := 143) (pc' := 150) rfl (hb hby at_143) rfl ((if0 _ _).trans (teq hc143).1) (by decide) (by decide) ?_
        show Steps p.tables e below (T18.setTop (mkF m 150 #[.val (.long q0), .second, .val (.long q1), .second, .val (.long q2), .second, .val (.long q3), .second, .val (.int vx1), .val (.int vw1), .val (.int vy1), .val (.int vh1), .val (.int vx2), .val (.int vw2), .val (.int vy2), .val (.int vh2), .val (.ref b9), .val (.ref b12), .unset, .unset, .unset] [])) _
        refine XS.iconst X18.here hx rfl (hb hby at_150) ?_
        show Steps p.tables e below (T18.setTop (mkF m 151 #[.val (.long q0), .second, .val (.long q1), .second, .val (.long q2), .second, .val (.long q3), .second, .val (.int vx1), .val (.int vw1), .val (.int vy1), .val (.int vh1), .val (.int vx2), .val (.int vw2), .val (.int vy2), .val (.int vh2), .val (.ref b9), .val (.ref b12), .unset, .unset, .unset] [(.int (0 : Int32))])) _
        exact k
      · try simp only [if_neg hc143] at k
        refine XS.ifNo X18.here hx rfl (hb hby at_143) rfl ((if0 _ _).trans (feq hc143).1) ?_
        show Steps p.tables e below (T18.setTop (mkF m 146 #[.val (.long q0), .second, .val (.long q1), .second, .val (.long q2), .second, .val (.long q3), .second, .val (.int vx1), .val (.int vw1), .val (.int vy1), .val (.int vh1), .val (.int vx2), .val (.int vw2), .val (.int vy2), .val (.int vh2), .val (.ref b9), .val (.ref b12), .unset, .unset, .unset] [])) _
        refine XS.iconst X18.here hx rfl (hb hby at_146) ?_
        show Steps p.tables e below (T18.setTop (mkF m 147 #[.val (.long q0), .second, .val (.long q1), .second, .val (.long q2), .second, .val (.long q3), .second, .val (.int vx1), .val (.int vw1), .val (.int vy1), .val (.int vh1), .val (.int vx2), .val (.int vw2), .val (.int vy2), .val (.int vh2), .val (.ref b9), .val (.ref b12), .unset, .unset, .unset] [(.int (1 : Int32))])) _
        refine XS.goto X18.here hx rfl (pc0 := 147) (pc' := 151) rfl (hb hby at_147) (by decide) (by decide) ?_
        show Steps p.tables e below (T18.setTop (mkF m 151 #[.val (.long q0), .second, .val (.long q1), .second, .val (.long q2), .second, .val (.long q3), .second, .val (.int vx1), .val (.int vw1), .val (.int vy1), .val (.int vh1), .val (.int vx2), .val (.int vw2), .val (.int vy2), .val (.int vh2), .val (.ref b9), .val (.ref b12), .unset, .unset, .unset] [(.int (1 : Int32))])) _
        exact k
    refine own_go sg19 ?_
    show own_Go p.tables e below _ (T18.setTop (mkF m 151 #[.val (.long q0), .second, .val (.long q1), .second, .val (.long q2), .second, .val (.long q3), .second, .val (.int vx1), .val (.int vw1), .val (.int vy1), .val (.int vh1), .val (.int vx2), .val (.int vw2), .val (.int vy2), .val (.int vh2), .val (.ref b9), .val (.ref b12), .unset, .unset, .unset] [(.int (if (own_f8 vy1 vh1 vy2 vh2) = (0 : Int32) then (0 : Int32) else (1 : Int32)))]))
    refine own_go (fun _ k => XS.istore X18.here hx rfl (hb hby at_151) rfl (l' := #[.val (.long q0), .second, .val (.long q1), .second, .val (.long q2), .second, .val (.long q3), .second, .val (.int vx1), .val (.int vw1), .val (.int vy1), .val (.int vh1), .val (.int vx2), .val (.int vw2), .val (.int vy2), .val (.int vh2), .val (.ref b9), .val (.ref b12), .val (.int (if (own_f8 vy1 vh1 vy2 vh2) = (0 : Int32) then (0 : Int32) else (1 : Int32))), .unset, .unset]) rfl k) ?_
    show own_Go p.tables e below _ (T18.setTop (mkF m 153 #[.val (.long q0), .second, .val (.long q1), .second, .val (.long q2), .second, .val (.long q3), .second, .val (.int vx1), .val (.int vw1), .val (.int vy1), .val (.int vh1), .val (.int vx2), .val (.int vw2), .val (.int vy2), .val (.int vh2), .val (.ref b9), .val (.ref b12), .val (.int (if (own_f8 vy1 vh1 vy2 vh2) = (0 : Int32) then (0 : Int32) else (1 : Int32))), .unset, .unset] []))
    refine own_go (fun _ k => XS.aload X18.here hx rfl (hb hby at_153) rfl rfl k) ?_
    show own_Go p.tables e below _ (T18.setTop (mkF m 155 #[.val (.long q0), .second, .val (.long q1), .second, .val (.long q2), .second, .val (.long q3), .second, .val (.int vx1), .val (.int vw1), .val (.int vy1), .val (.int vh1), .val (.int vx2), .val (.int vw2), .val (.int vy2), .val (.int vh2), .val (.ref b9), .val (.ref b12), .val (.int (if (own_f8 vy1 vh1 vy2 vh2) = (0 : Int32) then (0 : Int32) else (1 : Int32))), .unset, .unset] [(.ref b9)]))
    refine own_go (fun _ k => XS.aload X18.here hx rfl (hb hby at_155) rfl rfl k) ?_
    show own_Go p.tables e below _ (T18.setTop (mkF m 157 #[.val (.long q0), .second, .val (.long q1), .second, .val (.long q2), .second, .val (.long q3), .second, .val (.int vx1), .val (.int vw1), .val (.int vy1), .val (.int vh1), .val (.int vx2), .val (.int vw2), .val (.int vy2), .val (.int vh2), .val (.ref b9), .val (.ref b12), .val (.int (if (own_f8 vy1 vh1 vy2 vh2) = (0 : Int32) then (0 : Int32) else (1 : Int32))), .unset, .unset] [(.ref b12), (.ref b9)]))
    obtain ⟨cq20, kq20, q20a, q20b, q20c⟩ := isOf hZ (e18 : T18.heap = T14.heap) c14_1
    obtain ⟨_, _, ⟨T20, L20, k20, n20⟩, -, X20, ⟨Lc20, hQ20, l20, y20, z20⟩, st20⟩ := X18.virtualBack hx (y := (⟨"com/example/dialplane/dialplane/engine/Area", "touches", "(Lcom/example/dialplane/dialplane/engine/Area;)Z"⟩ : MethodName)) (z := (⟨"com/example/dialplane/dialplane/engine/Area", "touches", "(Lcom/example/dialplane/dialplane/engine/Area;)Z"⟩ : MethodName)) hown (mvT hZ (hw _ (List.mem_of_getElem? (i := 57) rfl))) (mvT hZ (hw _ (List.mem_of_getElem? (i := 58) rfl))) (notFace_of_selects (args := #[]) (mvT hZ (hw _ (List.mem_of_getElem? (i := 60) rfl)))) (mvT hZ (hw _ (List.mem_of_getElem? (i := 60) rfl))) (mvT hZ (hw _ (List.mem_of_getElem? (i := 59) rfl))) (by decide) (backOf (W := 0) (rm9 l Z az hw [] b9 b12 vx1 vy1 vw1 vh1 vx2 vy2 vw2 vh2 T14.heap n0 Z14 c14_3 c14_4 c14_5 c14_6 F14_1 F14_2 F14_3 F14_4) hZ (hw _ (List.mem_of_getElem? (i := 61) rfl)) (hw _ (List.mem_of_getElem? (i := 10) rfl)) (by decide) (by decide)) q20a q20c (g := (mkF m 157 #[.val (.long q0), .second, .val (.long q1), .second, .val (.long q2), .second, .val (.long q3), .second, .val (.int vx1), .val (.int vw1), .val (.int vy1), .val (.int vh1), .val (.int vx2), .val (.int vw2), .val (.int vy2), .val (.int vh2), .val (.ref b9), .val (.ref b12), .val (.int (if (own_f8 vy1 vh1 vy2 vh2) = (0 : Int32) then (0 : Int32) else (1 : Int32))), .unset, .unset] [(.ref b12), (.ref b9)])) rfl (by rw [hml]; rfl) (Steps.refl _) (argsL := [(.ref b12)]) (rest := []) (lenOf pd0_4 rfl) rfl (by show 2 * 0 + _ ≤ _; exact Nat.le_of_eq rfl) (hb hby at_157) (fun _ _ => ⟨rfl, (e18 : T18.heap = T14.heap), (by decide : 10 + 0 ≤ _), (by decide : 114 + 0 ≤ _)⟩)
    dsimp only [Pt.U, Pt.locs, Pt.cells, Pt.slots] at X20 l20 y20 z20 st20 hQ20
    subst l20 y20 z20
    refine own_go (fun _ k => st20.trans k) ?_
    obtain ⟨rfl, N20q, e20⟩ := hQ20
    have N20 := Fr.app N18 N20q
    show own_Go p.tables e below _ (T20.setTop (mkF m 160 #[.val (.long q0), .second, .val (.long q1), .second, .val (.long q2), .second, .val (.long q3), .second, .val (.int vx1), .val (.int vw1), .val (.int vy1), .val (.int vh1), .val (.int vx2), .val (.int vw2), .val (.int vy2), .val (.int vh2), .val (.ref b9), .val (.ref b12), .val (.int (if (own_f8 vy1 vh1 vy2 vh2) = (0 : Int32) then (0 : Int32) else (1 : Int32))), .unset, .unset] [(.int (own_f9 vx1 vy1 vw1 vh1 vx2 vy2 vw2 vh2))]))
    refine own_go (fun _ k => XS.istore X20.here hx rfl (hb hby at_160) rfl (l' := #[.val (.long q0), .second, .val (.long q1), .second, .val (.long q2), .second, .val (.long q3), .second, .val (.int vx1), .val (.int vw1), .val (.int vy1), .val (.int vh1), .val (.int vx2), .val (.int vw2), .val (.int vy2), .val (.int vh2), .val (.ref b9), .val (.ref b12), .val (.int (if (own_f8 vy1 vh1 vy2 vh2) = (0 : Int32) then (0 : Int32) else (1 : Int32))), .val (.int (own_f9 vx1 vy1 vw1 vh1 vx2 vy2 vw2 vh2)), .unset]) rfl k) ?_
    show own_Go p.tables e below _ (T20.setTop (mkF m 162 #[.val (.long q0), .second, .val (.long q1), .second, .val (.long q2), .second, .val (.long q3), .second, .val (.int vx1), .val (.int vw1), .val (.int vy1), .val (.int vh1), .val (.int vx2), .val (.int vw2), .val (.int vy2), .val (.int vh2), .val (.ref b9), .val (.ref b12), .val (.int (if (own_f8 vy1 vh1 vy2 vh2) = (0 : Int32) then (0 : Int32) else (1 : Int32))), .val (.int (own_f9 vx1 vy1 vw1 vh1 vx2 vy2 vw2 vh2)), .unset] []))
    refine own_go (fun _ k => XS.aload X20.here hx rfl (hb hby at_162) rfl rfl k) ?_
    show own_Go p.tables e below _ (T20.setTop (mkF m 164 #[.val (.long q0), .second, .val (.long q1), .second, .val (.long q2), .second, .val (.long q3), .second, .val (.int vx1), .val (.int vw1), .val (.int vy1), .val (.int vh1), .val (.int vx2), .val (.int vw2), .val (.int vy2), .val (.int vh2), .val (.ref b9), .val (.ref b12), .val (.int (if (own_f8 vy1 vh1 vy2 vh2) = (0 : Int32) then (0 : Int32) else (1 : Int32))), .val (.int (own_f9 vx1 vy1 vw1 vh1 vx2 vy2 vw2 vh2)), .unset] [(.ref b12)]))
    refine own_go (fun _ k => XS.aload X20.here hx rfl (hb hby at_164) rfl rfl k) ?_
    show own_Go p.tables e below _ (T20.setTop (mkF m 166 #[.val (.long q0), .second, .val (.long q1), .second, .val (.long q2), .second, .val (.long q3), .second, .val (.int vx1), .val (.int vw1), .val (.int vy1), .val (.int vh1), .val (.int vx2), .val (.int vw2), .val (.int vy2), .val (.int vh2), .val (.ref b9), .val (.ref b12), .val (.int (if (own_f8 vy1 vh1 vy2 vh2) = (0 : Int32) then (0 : Int32) else (1 : Int32))), .val (.int (own_f9 vx1 vy1 vw1 vh1 vx2 vy2 vw2 vh2)), .unset] [(.ref b9), (.ref b12)]))
    obtain ⟨cq21, kq21, q21a, q21b, q21c⟩ := isOf hZ (e20 : T20.heap = T14.heap) E14_
    obtain ⟨_, _, ⟨T21, L21, k21, n21⟩, -, X21, ⟨Lc21, hQ21, l21, y21, z21⟩, st21⟩ := X20.virtualBack hx (y := (⟨"com/example/dialplane/dialplane/engine/Area", "touches", "(Lcom/example/dialplane/dialplane/engine/Area;)Z"⟩ : MethodName)) (z := (⟨"com/example/dialplane/dialplane/engine/Area", "touches", "(Lcom/example/dialplane/dialplane/engine/Area;)Z"⟩ : MethodName)) hown (mvT hZ (hw _ (List.mem_of_getElem? (i := 57) rfl))) (mvT hZ (hw _ (List.mem_of_getElem? (i := 58) rfl))) (notFace_of_selects (args := #[]) (mvT hZ (hw _ (List.mem_of_getElem? (i := 60) rfl)))) (mvT hZ (hw _ (List.mem_of_getElem? (i := 60) rfl))) (mvT hZ (hw _ (List.mem_of_getElem? (i := 59) rfl))) (by decide) (backOf (W := 0) (rm9 l Z az hw [] b12 b9 vx2 vy2 vw2 vh2 vx1 vy1 vw1 vh1 T14.heap n0 Z14 F14_1 F14_2 F14_3 F14_4 c14_3 c14_4 c14_5 c14_6) hZ (hw _ (List.mem_of_getElem? (i := 61) rfl)) (hw _ (List.mem_of_getElem? (i := 10) rfl)) (by decide) (by decide)) q21a q21c (g := (mkF m 166 #[.val (.long q0), .second, .val (.long q1), .second, .val (.long q2), .second, .val (.long q3), .second, .val (.int vx1), .val (.int vw1), .val (.int vy1), .val (.int vh1), .val (.int vx2), .val (.int vw2), .val (.int vy2), .val (.int vh2), .val (.ref b9), .val (.ref b12), .val (.int (if (own_f8 vy1 vh1 vy2 vh2) = (0 : Int32) then (0 : Int32) else (1 : Int32))), .val (.int (own_f9 vx1 vy1 vw1 vh1 vx2 vy2 vw2 vh2)), .unset] [(.ref b9), (.ref b12)])) rfl (by rw [hml]; rfl) (Steps.refl _) (argsL := [(.ref b9)]) (rest := []) (lenOf pd0_4 rfl) rfl (by show 2 * 0 + _ ≤ _; exact Nat.le_of_eq rfl) (hb hby at_166) (fun _ _ => ⟨rfl, (e20 : T20.heap = T14.heap), (by decide : 10 + 0 ≤ _), (by decide : 114 + 0 ≤ _)⟩)
    dsimp only [Pt.U, Pt.locs, Pt.cells, Pt.slots] at X21 l21 y21 z21 st21 hQ21
    subst l21 y21 z21
    refine own_go (fun _ k => st21.trans k) ?_
    obtain ⟨rfl, N21q, e21⟩ := hQ21
    have N21 := Fr.app N20 N21q
    show own_Go p.tables e below _ (T21.setTop (mkF m 169 #[.val (.long q0), .second, .val (.long q1), .second, .val (.long q2), .second, .val (.long q3), .second, .val (.int vx1), .val (.int vw1), .val (.int vy1), .val (.int vh1), .val (.int vx2), .val (.int vw2), .val (.int vy2), .val (.int vh2), .val (.ref b9), .val (.ref b12), .val (.int (if (own_f8 vy1 vh1 vy2 vh2) = (0 : Int32) then (0 : Int32) else (1 : Int32))), .val (.int (own_f9 vx1 vy1 vw1 vh1 vx2 vy2 vw2 vh2)), .unset] [(.int (own_f9 vx2 vy2 vw2 vh2 vx1 vy1 vw1 vh1))]))
    refine own_go (fun _ k => XS.istore X21.here hx rfl (hb hby at_169) rfl (l' := #[.val (.long q0), .second, .val (.long q1), .second, .val (.long q2), .second, .val (.long q3), .second, .val (.int vx1), .val (.int vw1), .val (.int vy1), .val (.int vh1), .val (.int vx2), .val (.int vw2), .val (.int vy2), .val (.int vh2), .val (.ref b9), .val (.ref b12), .val (.int (if (own_f8 vy1 vh1 vy2 vh2) = (0 : Int32) then (0 : Int32) else (1 : Int32))), .val (.int (own_f9 vx1 vy1 vw1 vh1 vx2 vy2 vw2 vh2)), .val (.int (own_f9 vx2 vy2 vw2 vh2 vx1 vy1 vw1 vh1))]) rfl k) ?_
    show own_Go p.tables e below _ (T21.setTop (mkF m 171 #[.val (.long q0), .second, .val (.long q1), .second, .val (.long q2), .second, .val (.long q3), .second, .val (.int vx1), .val (.int vw1), .val (.int vy1), .val (.int vh1), .val (.int vx2), .val (.int vw2), .val (.int vy2), .val (.int vh2), .val (.ref b9), .val (.ref b12), .val (.int (if (own_f8 vy1 vh1 vy2 vh2) = (0 : Int32) then (0 : Int32) else (1 : Int32))), .val (.int (own_f9 vx1 vy1 vw1 vh1 vx2 vy2 vw2 vh2)), .val (.int (own_f9 vx2 vy2 vw2 vh2 vx1 vy1 vw1 vh1))] []))
    refine own_go (fun _ k => XS.iload X21.here hx rfl (hb hby at_171) rfl k) ?_
    show own_Go p.tables e below _ (T21.setTop (mkF m 173 #[.val (.long q0), .second, .val (.long q1), .second, .val (.long q2), .second, .val (.long q3), .second, .val (.int vx1), .val (.int vw1), .val (.int vy1), .val (.int vh1), .val (.int vx2), .val (.int vw2), .val (.int vy2), .val (.int vh2), .val (.ref b9), .val (.ref b12), .val (.int (if (own_f8 vy1 vh1 vy2 vh2) = (0 : Int32) then (0 : Int32) else (1 : Int32))), .val (.int (own_f9 vx1 vy1 vw1 vh1 vx2 vy2 vw2 vh2)), .val (.int (own_f9 vx2 vy2 vw2 vh2 vx1 vy1 vw1 vh1))] [(.int (own_f9 vx1 vy1 vw1 vh1 vx2 vy2 vw2 vh2))]))
    refine own_go (fun _ k => XS.iload X21.here hx rfl (hb hby at_173) rfl k) ?_
    show own_Go p.tables e below _ (T21.setTop (mkF m 175 #[.val (.long q0), .second, .val (.long q1), .second, .val (.long q2), .second, .val (.long q3), .second, .val (.int vx1), .val (.int vw1), .val (.int vy1), .val (.int vh1), .val (.int vx2), .val (.int vw2), .val (.int vy2), .val (.int vh2), .val (.ref b9), .val (.ref b12), .val (.int (if (own_f8 vy1 vh1 vy2 vh2) = (0 : Int32) then (0 : Int32) else (1 : Int32))), .val (.int (own_f9 vx1 vy1 vw1 vh1 vx2 vy2 vw2 vh2)), .val (.int (own_f9 vx2 vy2 vw2 vh2 vx1 vy1 vw1 vh1))] [(.int (if (own_f8 vy1 vh1 vy2 vh2) = (0 : Int32) then (0 : Int32) else (1 : Int32))), (.int (own_f9 vx1 vy1 vw1 vh1 vx2 vy2 vw2 vh2))]))
    have hf175 : (own_f9 vx1 vy1 vw1 vh1 vx2 vy2 vw2 vh2) = (if (own_f8 vy1 vh1 vy2 vh2) = (0 : Int32) then (0 : Int32) else (1 : Int32)) := by rw [(own_val (own_x hvx1) (own_w (own_x hvx1) hvw1) (own_x hvy1) (own_w (own_x hvy1) hvh1) (own_x hvx2) (own_w (own_x hvx2) hvw2) (own_x hvy2) (own_w (own_x hvy2) hvh2)).1, if_neg hc129]
    refine own_go (fun _ k => XS.icmpNo X21.here hx rfl (hb hby at_175) rfl (teq hf175).2 k) ?_
    show own_Go p.tables e below _ (T21.setTop (mkF m 178 #[.val (.long q0), .second, .val (.long q1), .second, .val (.long q2), .second, .val (.long q3), .second, .val (.int vx1), .val (.int vw1), .val (.int vy1), .val (.int vh1), .val (.int vx2), .val (.int vw2), .val (.int vy2), .val (.int vh2), .val (.ref b9), .val (.ref b12), .val (.int (if (own_f8 vy1 vh1 vy2 vh2) = (0 : Int32) then (0 : Int32) else (1 : Int32))), .val (.int (own_f9 vx1 vy1 vw1 vh1 vx2 vy2 vw2 vh2)), .val (.int (own_f9 vx2 vy2 vw2 vh2 vx1 vy1 vw1 vh1))] []))
    refine own_go (fun _ k => XS.iload X21.here hx rfl (hb hby at_178) rfl k) ?_
    show own_Go p.tables e below _ (T21.setTop (mkF m 180 #[.val (.long q0), .second, .val (.long q1), .second, .val (.long q2), .second, .val (.long q3), .second, .val (.int vx1), .val (.int vw1), .val (.int vy1), .val (.int vh1), .val (.int vx2), .val (.int vw2), .val (.int vy2), .val (.int vh2), .val (.ref b9), .val (.ref b12), .val (.int (if (own_f8 vy1 vh1 vy2 vh2) = (0 : Int32) then (0 : Int32) else (1 : Int32))), .val (.int (own_f9 vx1 vy1 vw1 vh1 vx2 vy2 vw2 vh2)), .val (.int (own_f9 vx2 vy2 vw2 vh2 vx1 vy1 vw1 vh1))] [(.int (own_f9 vx2 vy2 vw2 vh2 vx1 vy1 vw1 vh1))]))
    refine own_go (fun _ k => XS.iload X21.here hx rfl (hb hby at_180) rfl k) ?_
    show own_Go p.tables e below _ (T21.setTop (mkF m 182 #[.val (.long q0), .second, .val (.long q1), .second, .val (.long q2), .second, .val (.long q3), .second, .val (.int vx1), .val (.int vw1), .val (.int vy1), .val (.int vh1), .val (.int vx2), .val (.int vw2), .val (.int vy2), .val (.int vh2), .val (.ref b9), .val (.ref b12), .val (.int (if (own_f8 vy1 vh1 vy2 vh2) = (0 : Int32) then (0 : Int32) else (1 : Int32))), .val (.int (own_f9 vx1 vy1 vw1 vh1 vx2 vy2 vw2 vh2)), .val (.int (own_f9 vx2 vy2 vw2 vh2 vx1 vy1 vw1 vh1))] [(.int (if (own_f8 vy1 vh1 vy2 vh2) = (0 : Int32) then (0 : Int32) else (1 : Int32))), (.int (own_f9 vx2 vy2 vw2 vh2 vx1 vy1 vw1 vh1))]))
    have hf182 : (own_f9 vx2 vy2 vw2 vh2 vx1 vy1 vw1 vh1) = (if (own_f8 vy1 vh1 vy2 vh2) = (0 : Int32) then (0 : Int32) else (1 : Int32)) := by rw [(own_val (own_x hvx1) (own_w (own_x hvx1) hvw1) (own_x hvy1) (own_w (own_x hvy1) hvh1) (own_x hvx2) (own_w (own_x hvx2) hvw2) (own_x hvy2) (own_w (own_x hvy2) hvh2)).2, if_neg hc129]
    refine own_go (fun _ k => XS.icmpNo X21.here hx rfl (hb hby at_182) rfl (teq hf182).2 k) ?_
    show own_Go p.tables e below _ (T21.setTop (mkF m 185 #[.val (.long q0), .second, .val (.long q1), .second, .val (.long q2), .second, .val (.long q3), .second, .val (.int vx1), .val (.int vw1), .val (.int vy1), .val (.int vh1), .val (.int vx2), .val (.int vw2), .val (.int vy2), .val (.int vh2), .val (.ref b9), .val (.ref b12), .val (.int (if (own_f8 vy1 vh1 vy2 vh2) = (0 : Int32) then (0 : Int32) else (1 : Int32))), .val (.int (own_f9 vx1 vy1 vw1 vh1 vx2 vy2 vw2 vh2)), .val (.int (own_f9 vx2 vy2 vw2 vh2 vx1 vy1 vw1 vh1))] []))
    refine own_go (fun _ k => XS.iconst X21.here hx rfl (hb hby at_185) k) ?_
    show own_Go p.tables e below _ (T21.setTop (mkF m 186 #[.val (.long q0), .second, .val (.long q1), .second, .val (.long q2), .second, .val (.long q3), .second, .val (.int vx1), .val (.int vw1), .val (.int vy1), .val (.int vh1), .val (.int vx2), .val (.int vw2), .val (.int vy2), .val (.int vh2), .val (.ref b9), .val (.ref b12), .val (.int (if (own_f8 vy1 vh1 vy2 vh2) = (0 : Int32) then (0 : Int32) else (1 : Int32))), .val (.int (own_f9 vx1 vy1 vw1 vh1 vx2 vy2 vw2 vh2)), .val (.int (own_f9 vx2 vy2 vw2 vh2 vx1 vy1 vw1 vh1))] [(.int (1 : Int32))]))
    refine own_go (fun _ k => XS.goto X21.here hx rfl (pc0 := 186) (pc' := 190) rfl (hb hby at_186) (by decide) (by decide) k) ?_
    show own_Go p.tables e below _ (T21.setTop (mkF m 190 #[.val (.long q0), .second, .val (.long q1), .second, .val (.long q2), .second, .val (.long q3), .second, .val (.int vx1), .val (.int vw1), .val (.int vy1), .val (.int vh1), .val (.int vx2), .val (.int vw2), .val (.int vy2), .val (.int vh2), .val (.ref b9), .val (.ref b12), .val (.int (if (own_f8 vy1 vh1 vy2 vh2) = (0 : Int32) then (0 : Int32) else (1 : Int32))), .val (.int (own_f9 vx1 vy1 vw1 vh1 vx2 vy2 vw2 vh2)), .val (.int (own_f9 vx2 vy2 vw2 vh2 vx1 vy1 vw1 vh1))] [(.int (1 : Int32))]))
    refine own_endW X21 hS (by rw [(e21 : T21.heap = T14.heap)]; exact hk) Bd.notSynchronized (v := some (.int (1 : Int32))) (fun h => by rw [Bd.returns] at h; cases h) (fun fs hr => retN X21 hx (t := .boolean) Bd.returns (by simp) (hb hby at_190) hr) ?_ (by decide) (by decide)
    exact ⟨rfl, N21⟩
set_option maxRecDepth 65536 in
set_option maxHeartbeats 40000000 in
theorem comes_1 {Post : Tables → Env → Array Value → State → Outcome → State → Prop} (hpost : ∀ tb e args s v u, (limb_1_1.after args s (.returned v) u = true ∧ limb_1_2.after args s (.returned v) u = true ∧ True) → ReturnedEndW s (.returned v) u (Jvm.fieldLocs frame_1_writes args s ++ Jvm.arrayLocs frame_1_arrays args s ++ Jvm.staticLocs frame_1_statics s) 24 3200 → Post tb e args s (.returned v) u) :
    ArmFor flags0 classFile x code maxLocals ret World_1 tables_1 room_1 Calls_1 rest_1 Pre_1 Post := by
  intro l hfl _ _ p e ha hc hk s m args below hf hA hF happ hP
  obtain ⟨hcalls, hrest, hpre⟩ := hP
  obtain ⟨-, -, -, hnamed, -, -, -, hat⟩ := (Spec.applies_iff hf).mp happ
  obtain ⟨hg, hn⟩ := and_e (Cond.before_iff.mp (show (Jvm.Cond.and given_1 narrow_1).before args s = true from hpre))
  obtain ⟨g1, g2⟩ := and_e hg
  obtain ⟨g3, g4⟩ := and_e g2
  obtain ⟨g5, g6⟩ := and_e g4
  obtain ⟨g7, g8⟩ := and_e g6
  obtain ⟨w0, w1, w2, w3, rfl⟩ : ∃ w0 w1 w2 w3 : Value, args = #[w0, w1, w2, w3] := by
    have hs : args.size = 4 := by simpa [Cond.value, given_1] using g1
    obtain ⟨L⟩ := args
    match L, hs with
    | [w0, w1, w2, w3], _ => exact ⟨w0, w1, w2, w3, rfl⟩
  have hw := fun d (hd : d ∈ tables_1) => atoms_spec (ws := Jvm.Cond.code x code maxLocals ret :: tables_1) hat d (List.mem_cons_of_mem _ hd)
  obtain ⟨i0, ei0⟩ := isL_v g3
  obtain rfl : w0 = (.long i0) := Option.some.inj ei0
  obtain ⟨i1, ei1⟩ := isL_v g5
  obtain rfl : w1 = (.long i1) := Option.some.inj ei1
  obtain ⟨i2, ei2⟩ := isL_v g7
  obtain rfl : w2 = (.long i2) := Option.some.inj ei2
  obtain ⟨i3, ei3⟩ := isL_v g8
  obtain rfl : w3 = (.long i3) := Option.some.inj ei3
  obtain ⟨n, o, h1, h2, h3, _, L, rfl, ⟨rfl, N⟩, hq⟩ := rm0 l s _ hw tables_1 i0 i1 i2 i3 s.heap s.heap.size (Nat.le_refl _) p e ha hc hk s m _ below hf ((Spec.applies_iff_loose hf).mp happ).1 ⟨rfl, State.Warmed39.refl s, rfl⟩ trivial
  refine ⟨n, _, h1, h2, h3, hpost _ _ _ _ _ _ ⟨Cond.after_iff.mpr rfl, Cond.after_iff.mpr (eq_i res_at (Term.int_eval (1)) rfl), trivial⟩ ⟨hq.1, hq.2.1, hq.2.2.1, (hq.2.2.2.sift fun y hy => Or.inr (N y hy)).mono (by decide) (by decide)⟩⟩
theorem main_1_1 : Claimed_1_1 := comes_1 fun _ _ _ _ _ _ h hF => ⟨h.1, hF⟩
theorem main_1_2 : Claimed_1_2 := comes_1 fun _ _ _ _ _ _ h hF => ⟨h.2.1, hF⟩
end Jvm.Pilot.@@N@@
namespace Jvm.Pilot.@@N@@
open Jvm Jvm.ClassFile Sem Op Lib Jvm.Free Jvm.Stand Jvm.Pilot.@@N@@.Jvm.D
/-! MADE BY PROGRAM (witnessworld.py) out of the Statement's table words and the real class files: 17 classes; the members and pool entries that the words name. The judged class is class 1, her method 4. -/
namespace start1
open Jvm.ClassFile
def u (s : String) : CpInfo := .utf8 (stringToUtf16 s)
/-- a pool by its gaps: so many unusable entries, then the entry; so many at the end -/
def gap : Nat → List CpInfo → List CpInfo
  | 0, r => r
  | n + 1, r => .unusable :: gap n r
def poolList (es : List (Nat × CpInfo)) (last : Nat) : List CpInfo := es.foldr (fun e r => gap e.1 (e.2 :: r)) (gap last [])
def pool (es : List (Nat × CpInfo)) (last : Nat) : Array CpInfo := ⟨poolList es last⟩
def fileOf (pool : Array CpInfo) (this : Nat) (attrs : Array Attribute := #[]) (ms : Array MethodInfo := #[]) (fl : Nat := 33) (sup : Nat := 0) (ifs : Array Nat := #[]) (fds : Array FieldInfo := #[]) : ClassFile where
  minorVersion := 0
  majorVersion := 65
  constantPool := pool
  accessFlags := fl
  thisClass := this
  superClass := sup
  interfaces := ifs
  fields := fds
  methods := ms
  attributes := attrs
def plain (name : String) (sup : Option ClassId) : Class where
  name := name
  kind := .ordinary
  loader := none
  accessFlags := 33
  super := sup
  interfaces := #[]
  cf := none
  fields := #[]
  methods := #[]
  instanceTypes := #[]
  staticTypes := #[]
  resolved := #[]
  callSites := []
  init := .initialized
  statics := none
  mirror := none

def pool0 : Array CpInfo := pool [(5, u "<init>"), (0, u "()V"), (1, .class_ 10), (1, u "java/lang/Object")] 113

def k0c0 : Code := { maxStack := 0, maxLocals := 1, code := object_method_1_code, exceptionTable := #[], attributes := #[] }
def k0m0 : Method := { name := "<init>", desc := "()V", sig := { parameters := [], returnType := none }, accessFlags := 1, code := some k0c0 }
/-- java/lang/Object -/
def k0 : Class := { plain "java/lang/Object" none with
  accessFlags := 33
  interfaces := #[]
  cf := some (fileOf pool0 8 #[] #[{ accessFlags := 1, nameIndex := 5, descriptorIndex := 6, attributes := #[] }] 33 0 #[] #[])
  fields := #[]
  methods := #[k0m0]
  instanceTypes := #[]
  staticTypes := #[]
  resolved := Array.replicate 124 none
  statics := none }

def pool1 : Array CpInfo := pool [(2, .class_ 4), (1, u "java/lang/Object"), (0, u "<init>"), (0, u "()V"), (0, .integer 2147483647), (2, .methodref 11 12), (0, .class_ 13), (0, .nameAndType 14 15), (0, u "java/lang/Math"), (0, u "max"), (0, u "(JJ)J"), (0, .methodref 11 17), (0, .nameAndType 18 15), (0, u "min"), (0, .methodref 20 21), (0, .class_ 22), (0, .nameAndType 23 24), (0, u "com/example/dialplane/dialplane/engine/AreaTouchesPinLaw"), (0, u "pos"), (0, u "(I)I"), (0, .methodref 20 26), (0, .nameAndType 27 28), (0, u "len"), (0, u "(II)I"), (0, .class_ 30), (0, u "com/example/dialplane/dialplane/engine/Area"), (0, .string 32), (0, u "a"), (0, .methodref 29 34), (0, .nameAndType 5 35), (0, u "(Ljava/lang/String;IIII)V"), (0, .string 37), (0, u "b"), (0, .methodref 20 39), (0, .nameAndType 40 41), (0, u "meet"), (0, u "(IIII)Z"), (0, .methodref 29 43), (0, .nameAndType 44 45), (0, u "touches"), (0, u "(Lcom/example/dialplane/dialplane/engine/Area;)Z"), (3, u "law"), (0, u "(JJJJ)Z")] 2

def k1m0 : Method := { name := "<init>", desc := "()V", sig := { parameters := [], returnType := none }, accessFlags := 2, code := none }
def k1c1 : Code := { maxStack := 2, maxLocals := 1, code := method_2_code, exceptionTable := #[], attributes := #[] }
def k1m1 : Method := { name := "pos", desc := "(I)I", sig := { parameters := [.int], returnType := some .int }, accessFlags := 10, code := some k1c1 }
def k1c2 : Code := { maxStack := 4, maxLocals := 2, code := method_3_code, exceptionTable := #[], attributes := #[] }
def k1m2 : Method := { name := "len", desc := "(II)I", sig := { parameters := [.int, .int], returnType := some .int }, accessFlags := 10, code := some k1c2 }
def k1c3 : Code := { maxStack := 6, maxLocals := 8, code := method_4_code, exceptionTable := #[], attributes := #[] }
def k1m3 : Method := { name := "meet", desc := "(IIII)Z", sig := { parameters := [.int, .int, .int, .int], returnType := some .boolean }, accessFlags := 10, code := some k1c3 }
def k1c4 : Code := { maxStack := 7, maxLocals := 21, code := code, exceptionTable := #[], attributes := #[] }
def k1m4 : Method := { name := "law", desc := "(JJJJ)Z", sig := { parameters := [.long, .long, .long, .long], returnType := some .boolean }, accessFlags := 9, code := some k1c4 }
/-- com/example/dialplane/dialplane/engine/AreaTouchesPinLaw -/
def k1 : Class := { plain "com/example/dialplane/dialplane/engine/AreaTouchesPinLaw" (some 0) with
  accessFlags := 49
  interfaces := #[]
  cf := some (fileOf pool1 20 #[] #[{ accessFlags := 2, nameIndex := 5, descriptorIndex := 6, attributes := #[] }, { accessFlags := 10, nameIndex := 23, descriptorIndex := 24, attributes := #[] }, { accessFlags := 10, nameIndex := 27, descriptorIndex := 28, attributes := #[] }, { accessFlags := 10, nameIndex := 40, descriptorIndex := 41, attributes := #[] }, { accessFlags := 9, nameIndex := 49, descriptorIndex := 50, attributes := #[] }] 49 2 #[] #[])
  fields := #[]
  methods := #[k1m0, k1m1, k1m2, k1m3, k1m4]
  instanceTypes := #[]
  staticTypes := #[]
  resolved := Array.replicate 53 none
  statics := none }

def pool2 : Array CpInfo := pool [(1, .methodref 2 3), (0, .class_ 4), (0, .nameAndType 5 6), (0, u "java/lang/Object"), (0, u "<init>"), (0, u "()V"), (0, .class_ 8), (0, u "java/lang/Record")] 13

def k2c0 : Code := { maxStack := 1, maxLocals := 1, code := jdk_30_method_1_code, exceptionTable := #[], attributes := #[] }
def k2m0 : Method := { name := "<init>", desc := "()V", sig := { parameters := [], returnType := none }, accessFlags := 4, code := some k2c0 }
/-- java/lang/Record -/
def k2 : Class := { plain "java/lang/Record" (some 0) with
  accessFlags := 1057
  interfaces := #[]
  cf := some (fileOf pool2 7 #[] #[{ accessFlags := 4, nameIndex := 5, descriptorIndex := 6, attributes := #[] }] 1057 2 #[] #[])
  fields := #[]
  methods := #[k2m0]
  instanceTypes := #[]
  staticTypes := #[]
  resolved := Array.replicate 22 none
  statics := none }

def pool3 : Array CpInfo := pool [(1, .methodref 2 3), (0, .class_ 4), (0, .nameAndType 5 6), (0, u "java/lang/Record"), (0, u "<init>"), (0, u "()V"), (0, .string 8), (0, u "id is null"), (0, .methodref 10 11), (0, .class_ 12), (0, .nameAndType 13 14), (0, u "java/util/Objects"), (0, u "requireNonNull"), (0, u "(Ljava/lang/Object;Ljava/lang/String;)Ljava/lang/Object;"), (2, .integer 2147483647), (9, .fieldref 28 29), (0, .class_ 30), (0, .nameAndType 31 32), (0, u "com/example/dialplane/dialplane/engine/Area"), (0, u "id"), (0, u "Ljava/lang/String;"), (0, .fieldref 28 34), (0, .nameAndType 35 36), (0, u "x"), (0, u "I"), (0, .fieldref 28 38), (0, .nameAndType 39 36), (0, u "y"), (0, .fieldref 28 41), (0, .nameAndType 42 36), (0, u "width"), (0, .fieldref 28 44), (0, .nameAndType 45 36), (0, u "height"), (12, u "(Ljava/lang/String;IIII)V"), (8, u "touches"), (0, u "(Lcom/example/dialplane/dialplane/engine/Area;)Z")] 35

def k3c0 : Code := { maxStack := 7, maxLocals := 6, code := prog_5_method_1_code, exceptionTable := #[], attributes := #[] }
def k3m0 : Method := { name := "<init>", desc := "(Ljava/lang/String;IIII)V", sig := { parameters := [(.object "java/lang/String"), .int, .int, .int, .int], returnType := none }, accessFlags := 1, code := some k3c0 }
def k3c1 : Code := { maxStack := 3, maxLocals := 2, code := prog_5_method_3_code, exceptionTable := #[], attributes := #[] }
def k3m1 : Method := { name := "touches", desc := "(Lcom/example/dialplane/dialplane/engine/Area;)Z", sig := { parameters := [(.object "com/example/dialplane/dialplane/engine/Area")], returnType := some .boolean }, accessFlags := 0, code := some k3c1 }
/-- com/example/dialplane/dialplane/engine/Area -/
def k3 : Class := { plain "com/example/dialplane/dialplane/engine/Area" (some 2) with
  accessFlags := 49
  interfaces := #[]
  cf := some (fileOf pool3 28 #[] #[{ accessFlags := 1, nameIndex := 5, descriptorIndex := 58, attributes := #[] }, { accessFlags := 0, nameIndex := 67, descriptorIndex := 68, attributes := #[] }] 49 2 #[] #[{ accessFlags := 18, nameIndex := 31, descriptorIndex := 32, attributes := #[] }, { accessFlags := 18, nameIndex := 35, descriptorIndex := 36, attributes := #[] }, { accessFlags := 18, nameIndex := 39, descriptorIndex := 36, attributes := #[] }, { accessFlags := 18, nameIndex := 42, descriptorIndex := 36, attributes := #[] }, { accessFlags := 18, nameIndex := 45, descriptorIndex := 36, attributes := #[] }])
  fields := #[{ name := "id", type := (.object "java/lang/String"), accessFlags := 18, slot := 0, constantValue := 0 }, { name := "x", type := .int, accessFlags := 18, slot := 1, constantValue := 0 }, { name := "y", type := .int, accessFlags := 18, slot := 2, constantValue := 0 }, { name := "width", type := .int, accessFlags := 18, slot := 3, constantValue := 0 }, { name := "height", type := .int, accessFlags := 18, slot := 4, constantValue := 0 }]
  methods := #[k3m0, k3m1]
  instanceTypes := #[(.object "java/lang/String"), .int, .int, .int, .int]
  staticTypes := #[]
  resolved := Array.replicate 104 none
  statics := none }

def pool4 : Array CpInfo := pool [(1, .class_ 2), (0, u "java/io/Serializable"), (0, .class_ 4), (0, u "java/lang/Object")] 2

/-- java/io/Serializable -/
def k4 : Class := { plain "java/io/Serializable" (some 0) with
  accessFlags := 1537
  interfaces := #[]
  cf := some (fileOf pool4 1 #[] #[] 1537 3 #[] #[])
  fields := #[]
  methods := #[]
  instanceTypes := #[]
  staticTypes := #[]
  resolved := Array.replicate 7 none
  statics := none }

def pool5 : Array CpInfo := pool [(1, .class_ 2), (0, u "java/lang/Comparable"), (0, .class_ 4), (0, u "java/lang/Object")] 7

/-- java/lang/Comparable -/
def k5 : Class := { plain "java/lang/Comparable" (some 0) with
  accessFlags := 1537
  interfaces := #[]
  cf := some (fileOf pool5 1 #[] #[] 1537 3 #[] #[])
  fields := #[]
  methods := #[]
  instanceTypes := #[]
  staticTypes := #[]
  resolved := Array.replicate 12 none
  statics := none }

def pool6 : Array CpInfo := pool [(2, .class_ 4), (1, u "java/lang/CharSequence"), (42, .class_ 48), (0, u "java/lang/CharSequence$1CodePointIterator"), (10, .class_ 60), (0, u "java/lang/CharSequence$1CharIterator"), (5, .class_ 67), (0, u "java/lang/Object")] 63

/-- java/lang/CharSequence -/
def k6 : Class := { plain "java/lang/CharSequence" (some 0) with
  accessFlags := 1537
  interfaces := #[]
  cf := some (fileOf pool6 2 #[.nestMembers #[47, 59]] #[] 1537 66 #[] #[])
  fields := #[]
  methods := #[]
  instanceTypes := #[]
  staticTypes := #[]
  resolved := Array.replicate 131 none
  statics := none }

def pool7 : Array CpInfo := pool [(1, .class_ 2), (0, u "java/lang/constant/Constable"), (0, .class_ 4), (0, u "java/lang/Object")] 6

/-- java/lang/constant/Constable -/
def k7 : Class := { plain "java/lang/constant/Constable" (some 0) with
  accessFlags := 1537
  interfaces := #[]
  cf := some (fileOf pool7 1 #[] #[] 1537 3 #[] #[])
  fields := #[]
  methods := #[]
  instanceTypes := #[]
  staticTypes := #[]
  resolved := Array.replicate 11 none
  statics := none }

def pool8 : Array CpInfo := pool [(1, .class_ 2), (0, u "java/lang/constant/ConstantDesc"), (0, .class_ 4), (0, u "java/lang/Object")] 32

/-- java/lang/constant/ConstantDesc -/
def k8 : Class := { plain "java/lang/constant/ConstantDesc" (some 0) with
  accessFlags := 1537
  interfaces := #[]
  cf := some (fileOf pool8 1 #[] #[] 1537 3 #[] #[])
  fields := #[]
  methods := #[]
  instanceTypes := #[]
  staticTypes := #[]
  resolved := Array.replicate 37 none
  statics := none }

def pool9 : Array CpInfo := pool [(2, .class_ 4), (1, u "java/lang/Object"), (0, u "<init>"), (0, u "()V"), (3, .class_ 12), (1, u "java/lang/String"), (0, u "value"), (0, u "[B"), (2, u "coder"), (0, u "B"), (2, u "hash"), (0, u "I"), (2, u "hashIsZero"), (0, u "Z"), (13, u "COMPACT_STRINGS"), (534, .class_ 576), (0, u "java/lang/CharSequence"), (22, u "CASE_INSENSITIVE_ORDER"), (0, u "Ljava/util/Comparator;"), (500, u "serialPersistentFields"), (0, u "[Ljava/io/ObjectStreamField;"), (0, .class_ 1104), (0, u "java/lang/String$CaseInsensitiveComparator"), (1, .class_ 1107), (0, u "java/io/Serializable"), (0, .class_ 1109), (0, u "java/lang/Comparable"), (0, .class_ 1111), (0, u "java/lang/constant/Constable"), (0, .class_ 1113), (0, u "java/lang/constant/ConstantDesc"), (2, u "serialVersionUID"), (0, u "J"), (3, u "REPL"), (0, u "C"), (2, u "LATIN1"), (1, u "UTF16")] 323

def k9m0 : Method := { name := "<init>", desc := "()V", sig := { parameters := [], returnType := none }, accessFlags := 1, code := none }
/-- java/lang/String -/
def k9 : Class := { plain "java/lang/String" (some 0) with
  accessFlags := 49
  interfaces := #[4, 5, 6, 7, 8]
  cf := some (fileOf pool9 10 #[.nestMembers #[1103]] #[{ accessFlags := 1, nameIndex := 5, descriptorIndex := 6, attributes := #[] }] 49 2 #[1106, 1108, 575, 1110, 1112] #[{ accessFlags := 18, nameIndex := 13, descriptorIndex := 14, attributes := #[] }, { accessFlags := 18, nameIndex := 17, descriptorIndex := 18, attributes := #[] }, { accessFlags := 2, nameIndex := 21, descriptorIndex := 22, attributes := #[] }, { accessFlags := 2, nameIndex := 25, descriptorIndex := 26, attributes := #[] }, { accessFlags := 26, nameIndex := 1116, descriptorIndex := 1117, attributes := #[] }, { accessFlags := 24, nameIndex := 40, descriptorIndex := 26, attributes := #[] }, { accessFlags := 26, nameIndex := 1101, descriptorIndex := 1102, attributes := #[] }, { accessFlags := 26, nameIndex := 1121, descriptorIndex := 1122, attributes := #[] }, { accessFlags := 25, nameIndex := 599, descriptorIndex := 600, attributes := #[] }, { accessFlags := 24, nameIndex := 1125, descriptorIndex := 18, attributes := #[] }, { accessFlags := 24, nameIndex := 1127, descriptorIndex := 18, attributes := #[] }])
  fields := #[{ name := "value", type := (.array .byte), accessFlags := 18, slot := 0, constantValue := 0 }, { name := "coder", type := .byte, accessFlags := 18, slot := 1, constantValue := 0 }, { name := "hash", type := .int, accessFlags := 2, slot := 2, constantValue := 0 }, { name := "hashIsZero", type := .boolean, accessFlags := 2, slot := 3, constantValue := 0 }, { name := "serialVersionUID", type := .long, accessFlags := 26, slot := 0, constantValue := 0 }, { name := "COMPACT_STRINGS", type := .boolean, accessFlags := 24, slot := 1, constantValue := 0 }, { name := "serialPersistentFields", type := (.array (.object "java/io/ObjectStreamField")), accessFlags := 26, slot := 2, constantValue := 0 }, { name := "REPL", type := .char, accessFlags := 26, slot := 3, constantValue := 0 }, { name := "CASE_INSENSITIVE_ORDER", type := (.object "java/util/Comparator"), accessFlags := 25, slot := 4, constantValue := 0 }, { name := "LATIN1", type := .byte, accessFlags := 24, slot := 5, constantValue := 0 }, { name := "UTF16", type := .byte, accessFlags := 24, slot := 6, constantValue := 0 }]
  methods := #[k9m0]
  instanceTypes := #[(.array .byte), .byte, .int, .boolean]
  staticTypes := #[.long, .boolean, (.array (.object "java/io/ObjectStreamField")), .char, (.object "java/util/Comparator"), .byte, .byte]
  resolved := Array.replicate 1451 none
  statics := none }

def pool10 : Array CpInfo := pool [(2, .class_ 4), (1, u "java/lang/Object"), (0, u "<init>"), (0, u "()V"), (35, .class_ 44), (1, u "java/util/Objects"), (0, u "requireNonNull"), (48, u "(Ljava/lang/Object;Ljava/lang/String;)Ljava/lang/Object;")] 89

def k10m0 : Method := { name := "<init>", desc := "()V", sig := { parameters := [], returnType := none }, accessFlags := 2, code := none }
def k10c1 : Code := { maxStack := 3, maxLocals := 2, code := jdk_31_method_11_code, exceptionTable := #[], attributes := #[] }
def k10m1 : Method := { name := "requireNonNull", desc := "(Ljava/lang/Object;Ljava/lang/String;)Ljava/lang/Object;", sig := { parameters := [(.object "java/lang/Object"), (.object "java/lang/String")], returnType := some (.object "java/lang/Object") }, accessFlags := 9, code := some k10c1 }
/-- java/util/Objects -/
def k10 : Class := { plain "java/util/Objects" (some 0) with
  accessFlags := 49
  interfaces := #[]
  cf := some (fileOf pool10 42 #[] #[{ accessFlags := 2, nameIndex := 5, descriptorIndex := 6, attributes := #[] }, { accessFlags := 9, nameIndex := 45, descriptorIndex := 94, attributes := #[] }] 49 2 #[] #[])
  fields := #[]
  methods := #[k10m0, k10m1]
  instanceTypes := #[]
  staticTypes := #[]
  resolved := Array.replicate 184 none
  statics := none }

def pool11 : Array CpInfo := pool [(1, .class_ 2), (0, u "java/lang/Math"), (1, .class_ 6), (1, u "java/lang/Object"), (0, u "<init>"), (0, u "()V"), (89, .class_ 100), (1, u "java/lang/Math$RandomNumberGeneratorHolder"), (20, u "(JJ)J"), (50, u "negativeZeroFloatBits"), (0, u "J"), (2, u "negativeZeroDoubleBits"), (21, u "max"), (2, u "min"), (43, u "$assertionsDisabled"), (0, u "Z"), (91, u "twoToTheDoubleScaleDown"), (0, u "D"), (4, u "twoToTheDoubleScaleUp"), (9, u "E"), (3, u "PI"), (2, u "TAU"), (2, u "DEGREES_TO_RADIANS"), (0, u "RADIANS_TO_DEGREES")] 94

def k11m0 : Method := { name := "<init>", desc := "()V", sig := { parameters := [], returnType := none }, accessFlags := 2, code := none }
def k11c1 : Code := { maxStack := 4, maxLocals := 4, code := jdk_29_method_66_code, exceptionTable := #[], attributes := #[] }
def k11m1 : Method := { name := "max", desc := "(JJ)J", sig := { parameters := [.long, .long], returnType := some .long }, accessFlags := 9, code := some k11c1 }
def k11c2 : Code := { maxStack := 4, maxLocals := 4, code := jdk_29_method_70_code, exceptionTable := #[], attributes := #[] }
def k11m2 : Method := { name := "min", desc := "(JJ)J", sig := { parameters := [.long, .long], returnType := some .long }, accessFlags := 9, code := some k11c2 }
/-- java/lang/Math -/
def k11 : Class := { plain "java/lang/Math" (some 0) with
  accessFlags := 49
  interfaces := #[]
  cf := some (fileOf pool11 1 #[.nestMembers #[98]] #[{ accessFlags := 2, nameIndex := 7, descriptorIndex := 8, attributes := #[] }, { accessFlags := 9, nameIndex := 198, descriptorIndex := 121, attributes := #[] }, { accessFlags := 9, nameIndex := 201, descriptorIndex := 121, attributes := #[] }] 49 4 #[] #[{ accessFlags := 25, nameIndex := 354, descriptorIndex := 339, attributes := #[] }, { accessFlags := 25, nameIndex := 358, descriptorIndex := 339, attributes := #[] }, { accessFlags := 25, nameIndex := 361, descriptorIndex := 339, attributes := #[] }, { accessFlags := 26, nameIndex := 364, descriptorIndex := 339, attributes := #[] }, { accessFlags := 26, nameIndex := 365, descriptorIndex := 339, attributes := #[] }, { accessFlags := 26, nameIndex := 172, descriptorIndex := 173, attributes := #[] }, { accessFlags := 26, nameIndex := 176, descriptorIndex := 173, attributes := #[] }, { accessFlags := 8, nameIndex := 344, descriptorIndex := 339, attributes := #[] }, { accessFlags := 8, nameIndex := 338, descriptorIndex := 339, attributes := #[] }, { accessFlags := 4120, nameIndex := 245, descriptorIndex := 246, attributes := #[] }])
  fields := #[{ name := "E", type := .double, accessFlags := 25, slot := 0, constantValue := 0 }, { name := "PI", type := .double, accessFlags := 25, slot := 1, constantValue := 0 }, { name := "TAU", type := .double, accessFlags := 25, slot := 2, constantValue := 0 }, { name := "DEGREES_TO_RADIANS", type := .double, accessFlags := 26, slot := 3, constantValue := 0 }, { name := "RADIANS_TO_DEGREES", type := .double, accessFlags := 26, slot := 4, constantValue := 0 }, { name := "negativeZeroFloatBits", type := .long, accessFlags := 26, slot := 5, constantValue := 0 }, { name := "negativeZeroDoubleBits", type := .long, accessFlags := 26, slot := 6, constantValue := 0 }, { name := "twoToTheDoubleScaleUp", type := .double, accessFlags := 8, slot := 7, constantValue := 0 }, { name := "twoToTheDoubleScaleDown", type := .double, accessFlags := 8, slot := 8, constantValue := 0 }, { name := "$assertionsDisabled", type := .boolean, accessFlags := 4120, slot := 9, constantValue := 0 }]
  methods := #[k11m0, k11m1, k11m2]
  instanceTypes := #[]
  staticTypes := #[.double, .double, .double, .double, .double, .long, .long, .double, .double, .boolean]
  resolved := Array.replicate 460 none
  statics := none }

def pool12 : Array CpInfo := pool [(1, u "java/lang/Cloneable"), (0, .class_ 1), (0, u "java/lang/Object"), (0, .class_ 3)] 3

/-- java/lang/Cloneable -/
def k12 : Class := { plain "java/lang/Cloneable" (some 0) with
  accessFlags := 1537
  interfaces := #[]
  cf := some (fileOf pool12 2 #[] #[] 1537 4 #[] #[])
  fields := #[]
  methods := #[]
  instanceTypes := #[]
  staticTypes := #[]
  resolved := Array.replicate 8 none
  statics := none }

/-- the primitive byte -/
def k13 : Class := { plain "byte" none with kind := .primitive 'B', accessFlags := 0x411 }
/-- [B -/
def k14 : Class := { plain "[B" (some 0) with kind := .array 13 .byte, interfaces := #[12, 4], accessFlags := 1041 }

/-- the primitive int -/
def k15 : Class := { plain "int" none with kind := .primitive 'I', accessFlags := 0x411 }
/-- [I -/
def k16 : Class := { plain "[I" (some 0) with kind := .array 15 .int, interfaces := #[12, 4], accessFlags := 1041 }

def heap : Heap := #[]
def classes : Array Class := #[k0, k1, k2, k3, k4, k5, k6, k7, k8, k9, k10, k11, k12, k13, k14, k15, k16]
def interned : List (Array UInt16 × Addr) := []
def slotsUsed : Nat := 0
def theMethod : MethodId := ⟨1, 4⟩
def args0 : Array Value := #[.long 3, .long 4, .long 5, .long 6]
def aboutOver (below : List Frame) : State where
  vm := { classes := classes, interned := interned.toArray }
  heap := heap
  slotsUsed := slotsUsed
  threads := #[{ frames := .invoking theMethod args0 :: below }]
def below0 : List Frame := [.native { method := ⟨0, 0⟩, args := #[] }]
def about1 : State := aboutOver below0
def p0 : Program := .bare "" "" ""
def e0 : Env := launch0.env 0 0 0
theorem w_frames : about1.frames = Frame.invoking theMethod args0 :: below0 := rfl
set_option maxRecDepth 65536 in
theorem w_args : argsFit about1.vm theMethod args0 = true := by decide +kernel
set_option maxRecDepth 65536 in
theorem w_heap : heapFits about1 = true := by decide +kernel
set_option maxRecDepth 65536 in
theorem w_runnable : about1.curStatus? = some .runnable := by decide +kernel
set_option maxRecDepth 65536 in
theorem w_alone : about1.alone = true := by decide +kernel
set_option maxRecDepth 65536 in
theorem w_named : about1.methodNamed? x = some theMethod := by decide +kernel
set_option maxRecDepth 65536 in
theorem w_hears : about1.hears theMethod below0 = true := by decide +kernel
set_option maxRecDepth 65536 in
theorem w_ripe : about1.ripe theMethod args0 below0 = true := by decide +kernel
theorem w_running : about1.status = .running := rfl
set_option maxRecDepth 65536 in
theorem w_room : about1.hasRoom e0.platform room_1 = true :=
  launch0.hasRoom_least _ room_1 (by decide +kernel) (by decide +kernel) (by decide +kernel) (by decide +kernel) (by decide +kernel) (by decide +kernel)
theorem allAtoms_all (ts : List Jvm.Cond) (a : Array Jvm.Value) (st : Jvm.State) : (allAtoms ts).before a st = ts.all (fun c => c.before a st) := by
  induction ts with
  | nil => rfl
  | cons c t ih =>
    show (Jvm.Cond.and c (allAtoms t)).before a st = _
    rw [Jvm.Cond.before_and, ih, List.all_cons]
def words1 : List Jvm.Cond := Jvm.Cond.code x code maxLocals ret :: tables_1
/-- a 'code' word, met by the world's own term for the bytes: nothing is compared byte by byte -/
theorem code_word {y : MethodName} {bytes : ByteArray} {mx : Nat} {rt : Option FieldType} {a : Array Value} {s : State} {m : MethodId} {meth : Method} {c : Code} (h1 : s.methodNamed? y = some m) (h2 : s.vm.method? m = some meth) (h3 : meth.code = some c) (h4 : c.code = bytes)
    (h5 : (c.maxLocals == mx && c.exceptionTable.isEmpty && decide (c.maxStack ≤ mostOperands) && decide (meth.sig.returnType = rt) && !meth.locks && decide (parseMethodDescriptor y.desc = some meth.sig)) = true) : (Jvm.Cond.code y bytes mx rt).before a s = true := by
  simp only [Bool.and_eq_true, beq_iff_eq, Bool.not_eq_true', decide_eq_true_eq] at h5
  obtain ⟨⟨⟨⟨⟨g1, g2⟩, g3⟩, g4⟩, g5⟩, g6⟩ := h5
  simp [Cond.before, Cond.holds, Cond.value, h1, h2, h3, h4, g1, g2, g3, g4, g5, g6]
def isCode : Jvm.Cond → Bool
  | .code _ _ _ _ => true
  | _ => false
theorem all_split {L : List Jvm.Cond} {P : Jvm.Cond → Bool} (h1 : L.all (fun c => isCode c || P c) = true) (h2 : ∀ c ∈ L.filter isCode, P c = true) : L.all P = true := by
  refine List.all_eq_true.mpr fun c hc => ?_
  have h := List.all_eq_true.mp h1 c hc
  rcases Bool.eq_false_or_eq_true (isCode c) with hi | hi
  · exact h2 c (List.mem_filter.mpr ⟨hc, hi⟩)
  · simpa [hi] using h
set_option maxRecDepth 65536 in
theorem w_c0 : (Jvm.Cond.code x code maxLocals ret).before args0 about1 = true := code_word (m := ⟨1, 4⟩) (meth := k1m4) (c := k1c4) (by decide +kernel) rfl rfl rfl (by decide +kernel)
set_option maxRecDepth 65536 in
theorem w_c1 : (Jvm.Cond.code ({ cls := "com/example/dialplane/dialplane/engine/AreaTouchesPinLaw", name := "pos", desc := "(I)I" } : Jvm.MethodName) method_2_code (1 : Nat) (Option.some Jvm.ClassFile.FieldType.int)).before args0 about1 = true := code_word (m := ⟨1, 1⟩) (meth := k1m1) (c := k1c1) (by decide +kernel) rfl rfl rfl (by decide +kernel)
set_option maxRecDepth 65536 in
theorem w_c2 : (Jvm.Cond.code ({ cls := "com/example/dialplane/dialplane/engine/AreaTouchesPinLaw", name := "len", desc := "(II)I" } : Jvm.MethodName) method_3_code (2 : Nat) (Option.some Jvm.ClassFile.FieldType.int)).before args0 about1 = true := code_word (m := ⟨1, 2⟩) (meth := k1m2) (c := k1c2) (by decide +kernel) rfl rfl rfl (by decide +kernel)
set_option maxRecDepth 65536 in
theorem w_c3 : (Jvm.Cond.code ({ cls := "com/example/dialplane/dialplane/engine/Area", name := "<init>", desc := "(Ljava/lang/String;IIII)V" } : Jvm.MethodName) prog_5_method_1_code (6 : Nat) (Option.none : Option Jvm.ClassFile.FieldType)).before args0 about1 = true := code_word (m := ⟨3, 0⟩) (meth := k3m0) (c := k3c0) (by decide +kernel) rfl rfl rfl (by decide +kernel)
set_option maxRecDepth 65536 in
theorem w_c4 : (Jvm.Cond.code ({ cls := "java/lang/Record", name := "<init>", desc := "()V" } : Jvm.MethodName) jdk_30_method_1_code (1 : Nat) (Option.none : Option Jvm.ClassFile.FieldType)).before args0 about1 = true := code_word (m := ⟨2, 0⟩) (meth := k2m0) (c := k2c0) (by decide +kernel) rfl rfl rfl (by decide +kernel)
set_option maxRecDepth 65536 in
theorem w_c5 : (Jvm.Cond.code ({ cls := "java/lang/Object", name := "<init>", desc := "()V" } : Jvm.MethodName) object_method_1_code (1 : Nat) (Option.none : Option Jvm.ClassFile.FieldType)).before args0 about1 = true := code_word (m := ⟨0, 0⟩) (meth := k0m0) (c := k0c0) (by decide +kernel) rfl rfl rfl (by decide +kernel)
set_option maxRecDepth 65536 in
theorem w_c6 : (Jvm.Cond.code ({ cls := "java/util/Objects", name := "requireNonNull", desc := "(Ljava/lang/Object;Ljava/lang/String;)Ljava/lang/Object;" } : Jvm.MethodName) jdk_31_method_11_code (2 : Nat) (Option.some (Jvm.ClassFile.FieldType.object "java/lang/Object"))).before args0 about1 = true := code_word (m := ⟨10, 1⟩) (meth := k10m1) (c := k10c1) (by decide +kernel) rfl rfl rfl (by decide +kernel)
set_option maxRecDepth 65536 in
theorem w_c7 : (Jvm.Cond.code ({ cls := "com/example/dialplane/dialplane/engine/AreaTouchesPinLaw", name := "meet", desc := "(IIII)Z" } : Jvm.MethodName) method_4_code (8 : Nat) (Option.some Jvm.ClassFile.FieldType.boolean)).before args0 about1 = true := code_word (m := ⟨1, 3⟩) (meth := k1m3) (c := k1c3) (by decide +kernel) rfl rfl rfl (by decide +kernel)
set_option maxRecDepth 65536 in
theorem w_c8 : (Jvm.Cond.code ({ cls := "java/lang/Math", name := "max", desc := "(JJ)J" } : Jvm.MethodName) jdk_29_method_66_code (4 : Nat) (Option.some Jvm.ClassFile.FieldType.long)).before args0 about1 = true := code_word (m := ⟨11, 1⟩) (meth := k11m1) (c := k11c1) (by decide +kernel) rfl rfl rfl (by decide +kernel)
set_option maxRecDepth 65536 in
theorem w_c9 : (Jvm.Cond.code ({ cls := "java/lang/Math", name := "min", desc := "(JJ)J" } : Jvm.MethodName) jdk_29_method_70_code (4 : Nat) (Option.some Jvm.ClassFile.FieldType.long)).before args0 about1 = true := code_word (m := ⟨11, 2⟩) (meth := k11m2) (c := k11c2) (by decide +kernel) rfl rfl rfl (by decide +kernel)
set_option maxRecDepth 65536 in
theorem w_c10 : (Jvm.Cond.code ({ cls := "com/example/dialplane/dialplane/engine/Area", name := "touches", desc := "(Lcom/example/dialplane/dialplane/engine/Area;)Z" } : Jvm.MethodName) prog_5_method_3_code (2 : Nat) (Option.some Jvm.ClassFile.FieldType.boolean)).before args0 about1 = true := code_word (m := ⟨3, 1⟩) (meth := k3m1) (c := k3c1) (by decide +kernel) rfl rfl rfl (by decide +kernel)
def codes1 : List Jvm.Cond := [Jvm.Cond.code x code maxLocals ret, Jvm.Cond.code ({ cls := "com/example/dialplane/dialplane/engine/AreaTouchesPinLaw", name := "pos", desc := "(I)I" } : Jvm.MethodName) method_2_code (1 : Nat) (Option.some Jvm.ClassFile.FieldType.int), Jvm.Cond.code ({ cls := "com/example/dialplane/dialplane/engine/AreaTouchesPinLaw", name := "len", desc := "(II)I" } : Jvm.MethodName) method_3_code (2 : Nat) (Option.some Jvm.ClassFile.FieldType.int), Jvm.Cond.code ({ cls := "com/example/dialplane/dialplane/engine/Area", name := "<init>", desc := "(Ljava/lang/String;IIII)V" } : Jvm.MethodName) prog_5_method_1_code (6 : Nat) (Option.none : Option Jvm.ClassFile.FieldType), Jvm.Cond.code ({ cls := "java/lang/Record", name := "<init>", desc := "()V" } : Jvm.MethodName) jdk_30_method_1_code (1 : Nat) (Option.none : Option Jvm.ClassFile.FieldType), Jvm.Cond.code ({ cls := "java/lang/Object", name := "<init>", desc := "()V" } : Jvm.MethodName) object_method_1_code (1 : Nat) (Option.none : Option Jvm.ClassFile.FieldType), Jvm.Cond.code ({ cls := "java/util/Objects", name := "requireNonNull", desc := "(Ljava/lang/Object;Ljava/lang/String;)Ljava/lang/Object;" } : Jvm.MethodName) jdk_31_method_11_code (2 : Nat) (Option.some (Jvm.ClassFile.FieldType.object "java/lang/Object")), Jvm.Cond.code ({ cls := "com/example/dialplane/dialplane/engine/AreaTouchesPinLaw", name := "meet", desc := "(IIII)Z" } : Jvm.MethodName) method_4_code (8 : Nat) (Option.some Jvm.ClassFile.FieldType.boolean), Jvm.Cond.code ({ cls := "java/lang/Math", name := "max", desc := "(JJ)J" } : Jvm.MethodName) jdk_29_method_66_code (4 : Nat) (Option.some Jvm.ClassFile.FieldType.long), Jvm.Cond.code ({ cls := "java/lang/Math", name := "min", desc := "(JJ)J" } : Jvm.MethodName) jdk_29_method_70_code (4 : Nat) (Option.some Jvm.ClassFile.FieldType.long), Jvm.Cond.code ({ cls := "com/example/dialplane/dialplane/engine/Area", name := "touches", desc := "(Lcom/example/dialplane/dialplane/engine/Area;)Z" } : Jvm.MethodName) prog_5_method_3_code (2 : Nat) (Option.some Jvm.ClassFile.FieldType.boolean)]
set_option maxRecDepth 65536 in
theorem codes_eq : words1.filter isCode = codes1 := rfl
theorem w_codes : ∀ c ∈ words1.filter isCode, c.before args0 about1 = true := by
  rw [codes_eq]
  intro c hc
  simp only [codes1, List.mem_cons, List.not_mem_nil, or_false] at hc
  rcases hc with rfl | rfl | rfl | rfl | rfl | rfl | rfl | rfl | rfl | rfl | rfl
  · exact w_c0
  · exact w_c1
  · exact w_c2
  · exact w_c3
  · exact w_c4
  · exact w_c5
  · exact w_c6
  · exact w_c7
  · exact w_c8
  · exact w_c9
  · exact w_c10
set_option maxRecDepth 65536 in
theorem w_t1 : (words1.take 24).all (fun c => isCode c || c.before args0 about1) = true := by decide +kernel
set_option maxRecDepth 65536 in
theorem w_t2 : ((words1.drop 24).take 24).all (fun c => isCode c || c.before args0 about1) = true := by decide +kernel
set_option maxRecDepth 65536 in
theorem w_t3 : ((words1.drop 24).drop 24).all (fun c => isCode c || c.before args0 about1) = true := by decide +kernel
theorem w_tables : (allAtoms (Jvm.Cond.code x code maxLocals ret :: tables_1)).before args0 about1 = true := by
  rw [allAtoms_all]
  show words1.all (fun c => c.before args0 about1) = true
  refine all_split ?_ w_codes
  rw [← List.take_append_drop 24 words1, List.all_append, w_t1, ← List.take_append_drop 24 (words1.drop 24), List.all_append, w_t2, w_t3]
  rfl
set_option maxRecDepth 65536 in
theorem w_case : (Jvm.Cond.and given_1 narrow_1).before args0 about1 = true := by decide +kernel
theorem w_applies : (headSpec (Jvm.Cond.code x code maxLocals ret :: tables_1) room_1).applies x e0.platform about1 = true :=
  (Spec.applies_iff w_frames).mpr ⟨w_running, w_runnable, w_alone, w_named, w_hears, w_ripe, w_room, w_tables⟩
theorem atStart : AtStart classFile x code maxLocals ret World_1 tables_1 room_1 Calls_1 rest_1 Pre_1 launch0 p0 e0 about1 theMethod args0 below0 :=
  ⟨lists_1, trivial, launch0.admits_env _ _ _, launch0.least_env, fairChoices_fair.cas, fairChoices_fair.clock, w_frames, w_args, w_heap, w_applies, trivial, trivial, w_case⟩
end start1
theorem witness_1 : WitnessClaimed_1 := ⟨start1.p0, start1.e0, start1.about1, start1.theMethod, start1.args0, start1.below0, start1.atStart⟩
end Jvm.Pilot.@@N@@
