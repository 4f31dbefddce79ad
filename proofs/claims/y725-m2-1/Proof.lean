import JvmDerived
import JvmDerived.Pilot.@@N@@Statement
import JvmDerived.Pilot.@@N@@Code
set_option linter.unusedVariables false
set_option linter.unusedSimpArgs false

namespace Jvm.Pilot.@@N@@
open Jvm Jvm.ClassFile Sem Op Lib Jvm.Free Jvm.Stand Jvm.LawKit Jvm.RoadKit Bundle Jvm.Pilot.@@N@@.Jvm.D
/-- the run from U comes to an end of which P holds -/
def own_Go (tb : Tables) (e : Env) (below : List Frame) (P : Outcome → State → Prop) (U : State) : Prop :=
  ∃ s₂ o, Steps tb e below U s₂ ∧ s₂.status = .running ∧ Ended s₂ below o ∧ P o s₂
theorem own_go {tb : Tables} {e : Env} {below : List Frame} {P : Outcome → State → Prop} {U U' : State} (k : ∀ t, Steps tb e below U' t → Steps tb e below U t) (h : own_Go tb e below P U') : own_Go tb e below P U := by
  obtain ⟨t, o, h1, h2⟩ := h
  exact ⟨t, o, k t h1, h2⟩
section Own
variable {p : Program} {l : Launch} {e : Env} {R : Room} {s : State} {m : MethodId} {args : Array Value} {below : List Frame} {meth : Method} {c : Code} {T : State} {locs : List Loc} {cells slots : Nat}
theorem own_retI (X : Stand p l e R s m args below meth c T locs cells slots) (hx : p.tables.exec = Jvm.exec) {pc : Nat} {Ls : Array Slot} {z : Int32} {rest : List Value} (hret : meth.sig.returnType = some .int) (hd : decode c.code pc = .ok (.ireturn, 1)) {fs : List Frame}
    (hl : ∀ (f : JFrame) (acts : List Action), f.method = m → f.locked = none → f.entered = [] → (doReturn e (T.setTop f) acts (some (.int z))).1 = T.setFrames fs) : Steps p.tables e below (T.setTop (mkF m pc Ls (.int z :: rest))) (T.setFrames fs) := by
  have hm' : T.vm.method? m = some meth := X.method'
  have hn : narrow .int (.int z) = .int z := rfl
  show Steps p.tables e below (T.setTop { method := m, pc := pc, locals := Ls, stack := _ :: rest, locked := none }) _
  jvm_step X.here [X.here.top, hx, hd, hm', hret, hn]
  first | (intro acts; rw [hl _ acts rfl rfl rfl]) | rw [hl _ _ rfl rfl rfl]
  exact Steps.refl _
theorem own_retJ (X : Stand p l e R s m args below meth c T locs cells slots) (hx : p.tables.exec = Jvm.exec) {pc : Nat} {Ls : Array Slot} {z : Int64} {rest : List Value} (hret : meth.sig.returnType = some .long) (hd : decode c.code pc = .ok (.lreturn, 1)) {fs : List Frame}
    (hl : ∀ (f : JFrame) (acts : List Action), f.method = m → f.locked = none → f.entered = [] → (doReturn e (T.setTop f) acts (some (.long z))).1 = T.setFrames fs) : Steps p.tables e below (T.setTop (mkF m pc Ls (.long z :: rest))) (T.setFrames fs) := by
  have hm' : T.vm.method? m = some meth := X.method'
  show Steps p.tables e below (T.setTop { method := m, pc := pc, locals := Ls, stack := _ :: rest, locked := none }) _
  jvm_step X.here [X.here.top, hx, hd, hm', hret, narrow]
  first | (intro acts; rw [hl _ acts rfl rfl rfl]) | rw [hl _ _ rfl rfl rfl]
  exact Steps.refl _
theorem own_mapI (xs : List Int32) (i : Nat) : (xs.map Value.int).getD i (.int 0) = .int (xs.getD i 0) := by
  simp only [List.getD_eq_getElem?_getD, List.getElem?_map]; cases xs[i]? <;> rfl
theorem own_mapJ (xs : List Int64) (i : Nat) : (xs.map Value.long).getD i (.long 0) = .long (xs.getD i 0) := by
  simp only [List.getD_eq_getElem?_getD, List.getElem?_map]; cases xs[i]? <;> rfl
theorem own_kx {h h' : Heap} (K : Keep h h' []) : Ext h h' := ⟨K.1, fun a c q => K.2.1 a c q (by simp)⟩
theorem own_retA (X : Stand p l e R s m args below meth c T locs cells slots) (hx : p.tables.exec = Jvm.exec) {pc : Nat} {Ls : Array Slot} {z : Addr} {rest : List Value} {C : String} (hret : meth.sig.returnType = some (.object C)) (hd : decode c.code pc = .ok (.areturn, 1)) {fs : List Frame}
    (hl : ∀ (f : JFrame) (acts : List Action), f.method = m → f.locked = none → f.entered = [] → (doReturn e (T.setTop f) acts (some (.ref z))).1 = T.setFrames fs) : Steps p.tables e below (T.setTop (mkF m pc Ls (.ref z :: rest))) (T.setFrames fs) := by
  have hm' : T.vm.method? m = some meth := X.method'
  show Steps p.tables e below (T.setTop { method := m, pc := pc, locals := Ls, stack := _ :: rest, locked := none }) _
  jvm_step X.here [X.here.top, hx, hd, hm', hret, Value.isRef, FieldType.isReference]
  first | (intro acts; rw [hl _ acts rfl rfl rfl]) | rw [hl _ _ rfl rfl rfl]
  exact Steps.refl _
theorem own_endH {Q : Option Value → Heap → List Loc → Prop} {kc ks n : Nat} {vm₁ : Vm} {Z : State} {EL : List (String × Nat)} (X : Stand p l e R (s.setVm vm₁) m args below meth c T locs cells slots) (hC : CHr Z EL s.vm s.heap T.vm T.heap) (hS : s.Since vm₁ n) (hn : n ≤ T.heap.size) (hlocks : meth.locks = false) {g : JFrame} {v : Option Value}
    (hv : meth.sig.returnType = none → v = none)
    (hs : ∀ fs, (∀ (f : JFrame) (acts : List Action), f.method = m → f.locked = none → f.entered = [] → (doReturn e (T.setTop f) acts v).1 = T.setFrames fs) → Steps p.tables e below (T.setTop g) (T.setFrames fs))
    (hQ : Q v T.heap locs) (h1 : cells ≤ kc) (h2 : slots ≤ ks) :
    own_Go p.tables e below (fun o U' => ∃ v L, o = .returned v ∧ Q v U'.heap L ∧ CHr Z EL s.vm s.heap U'.vm U'.heap ∧ ReturnedEndW s o U' L kc ks) (T.setTop g) := by
  obtain ⟨fs, hr, hrun, hended, h3, h4, h5, h6⟩ := X.leaveW hS hn (v := v) hv hlocks
  exact ⟨_, _, hs fs hr, hrun, hended, _, _, rfl, hQ, hC, h3, h4, h5, h6.mono h1 h2⟩
theorem own_endW {Q : Option Value → Heap → List Loc → Prop} {kc ks n : Nat} {vm₁ : Vm} (X : Stand p l e R (s.setVm vm₁) m args below meth c T locs cells slots) (hS : s.Since vm₁ n) (hn : n ≤ T.heap.size) (hlocks : meth.locks = false) {g : JFrame} {v : Option Value}
    (hv : meth.sig.returnType = none → v = none)
    (hs : ∀ fs, (∀ (f : JFrame) (acts : List Action), f.method = m → f.locked = none → f.entered = [] → (doReturn e (T.setTop f) acts v).1 = T.setFrames fs) → Steps p.tables e below (T.setTop g) (T.setFrames fs))
    (hQ : Q v T.heap locs) (h1 : cells ≤ kc) (h2 : slots ≤ ks) :
    own_Go p.tables e below (fun o U' => ∃ v L, o = .returned v ∧ Q v U'.heap L ∧ ReturnedEndW s o U' L kc ks) (T.setTop g) := by
  obtain ⟨fs, hr, hrun, hended, h3, h4, h5, h6⟩ := X.leaveW hS hn (v := v) hv hlocks
  exact ⟨_, _, hs fs hr, hrun, hended, _, _, rfl, hQ, h3, h4, h5, h6.mono h1 h2⟩
theorem own_end {Q : Option Value → Heap → List Loc → Prop} {kc ks : Nat} (X : Stand p l e R s m args below meth c T locs cells slots) (hlocks : meth.locks = false) {g : JFrame} {v : Option Value}
    (hv : meth.sig.returnType = none → v = none)
    (hs : ∀ fs, (∀ (f : JFrame) (acts : List Action), f.method = m → f.locked = none → f.entered = [] → (doReturn e (T.setTop f) acts v).1 = T.setFrames fs) → Steps p.tables e below (T.setTop g) (T.setFrames fs))
    (hQ : Q v T.heap locs) (h1 : cells ≤ kc) (h2 : slots ≤ ks) :
    own_Go p.tables e below (fun o U' => ∃ v L, o = .returned v ∧ Q v U'.heap L ∧ FrameEnd s o U' L kc ks) (T.setTop g) := by
  obtain ⟨fs, hr, hrun, hended, hW, hsame⟩ := X.leave (v := v) hv hlocks
  exact ⟨_, _, hs fs hr, hrun, hended, _, _, rfl, hQ, ⟨_, rfl⟩, hW, hsame.mono h1 h2⟩
end Own
theorem own_wS {Z : State} {a0 : Array Value} (hw : ∀ d ∈ tables_1, d.before a0 Z = true) : ∀ a ∈ Bundle.stringAtoms, a.before a0 Z = true := fun c hc =>
  hw c (by simpa using (List.all_eq_true.mp (by decide +kernel : (Bundle.stringAtoms.all fun c => tables_1.contains c) = true)) c hc)

theorem d1_0 : decode jdk_30_method_1_code 0 = .ok (.aload_n 0, 1) := by decide +kernel
theorem d1_1 : decode jdk_30_method_1_code 1 = .ok (.invokespecial 1, 3) := by decide +kernel
theorem d1_4 : decode jdk_30_method_1_code 4 = .ok (.return_, 1) := by decide +kernel
theorem pn1 : plainName "java/lang/Record" = true := by first | (simp [plainName, overriddenIn]; done) | decide +kernel
theorem ef1 (m : MethodId) (a0 : Addr) : entryFrame m #[(.ref a0)] 1 = mkF m 0 #[.val (.ref a0)] [] := by first | (simp [entryFrame, mkF, argsToLocals, Value.category]; done) | rfl
def own_Q1 (Z : State) (a0 : Addr) (h0 : Heap) (n0 : Nat) (v : Option Value) (h : Heap) (L : List Loc) : Prop := v = none ∧ Fr n0 L ∧ h = h0
set_option maxRecDepth 65536 in
set_option maxHeartbeats 40000000 in
theorem rm1 (l : Launch) (Z : State) (az : Array Value) (hw : ∀ d ∈ tables_1, d.before az Z = true) (ws : List Jvm.Cond) (a0 : Addr) (h0 : Heap) (n0 : Nat) (Z0 : n0 ≤ h0.size) :
    MetFree l (⟨"java/lang/Record", "<init>", "()V"⟩ : MethodName) (head1 (Jvm.Cond.code (⟨"java/lang/Record", "<init>", "()V"⟩ : MethodName) jdk_30_method_1_code 1 none :: ws) ({ frames := 1, cells := 0, slots := 0, locals := 12 } : Room)) (fun a U => a = #[(.ref a0)] ∧ Z.Warmed39 U.vm ∧ U.heap = h0) (fun _ _ _ _ _ => True) (fun _ U o U' => ∃ v L, o = .returned v ∧ own_Q1 Z a0 h0 n0 v U'.heap L ∧ FrameEnd U o U' L ({ frames := 1, cells := 0, slots := 0, locals := 12 } : Room).cells ({ frames := 1, cells := 0, slots := 0, locals := 12 } : Room).slots) := by
  refine MetFree.of_bodySF (plainFor_of_name pn1) hisR ?_
  intro p e s m args below meth c s₁ Bd hml0 hP hK
  obtain ⟨rfl, hZ, hh⟩ := hP
  have hx := Bd.exec
  have hby := Bd.bytes
  have hml : c.maxLocals = 1 := hml0
  have hown : s.vm.findClass "java/lang/Record" = some m.cls := findClass_of_methodNamed Bd.named
  have hnm := (name_of_methodNamed Bd.named Bd.method).1
  have X0 : Stand p l e ({ frames := 1, cells := 0, slots := 0, locals := 12 } : Room) s m #[(.ref a0)] below meth c s₁ [] 0 0 := Stand.of_body Bd
  have e0 : s₁.heap = h0 := by rw [← hh, Bd.state]; rfl
  have N0 := Fr.nil n0
  show own_Go p.tables e below (fun o U' => ∃ v L, o = .returned v ∧ own_Q1 Z a0 h0 n0 v U'.heap L ∧ FrameEnd s o U' L ({ frames := 1, cells := 0, slots := 0, locals := 12 } : Room).cells ({ frames := 1, cells := 0, slots := 0, locals := 12 } : Room).slots) (s₁.setTop (entryFrame m #[(.ref a0)] 1))
  refine own_go (fun _ k => castTop (ef1 m a0) k) ?_
  show own_Go p.tables e below _ (s₁.setTop (mkF m 0 #[.val (.ref a0)] []))
  refine own_go (fun _ k => XS.aloadN X0.here hx rfl (hb hby d1_0) rfl rfl k) ?_
  show own_Go p.tables e below _ (s₁.setTop (mkF m 1 #[.val (.ref a0)] [(.ref a0)]))
  obtain ⟨T1, X1, e1, st1⟩ := initO X0 hx hZ hown (hw _ (List.mem_of_getElem? (i := 20) rfl)) (hw _ (List.mem_of_getElem? (i := 21) rfl)) (hw _ (List.mem_of_getElem? (i := 22) rfl)) e0 (g := (mkF m 1 #[.val (.ref a0)] [(.ref a0)])) rfl (by rw [hml]; rfl) rfl (hb hby d1_1) (by decide) (W := 0) (by show 2 * 0 + _ ≤ _; exact Nat.le_of_eq rfl) (by decide)
  refine own_go st1 ?_
  show own_Go p.tables e below _ (T1.setTop (mkF m 4 #[.val (.ref a0)] []))
  refine own_end X1 Bd.notSynchronized (v := none) (fun _ => rfl) (fun fs hr => X1.returnOut hx Bd.returns (hb hby d1_4) hr) ?_ (by decide) (by decide)
  exact ⟨rfl, N0, e1⟩
theorem d2_0 : decode jdk_31_method_11_code 0 = .ok (.aload_n 0, 1) := by decide +kernel
theorem d2_1 : decode jdk_31_method_11_code 1 = .ok (.ifnonnull 12, 3) := by decide +kernel
theorem d2_13 : decode jdk_31_method_11_code 13 = .ok (.aload_n 0, 1) := by decide +kernel
theorem d2_14 : decode jdk_31_method_11_code 14 = .ok (.areturn, 1) := by decide +kernel
theorem pn2 : plainName "java/util/Objects" = true := by first | (simp [plainName, overriddenIn]; done) | decide +kernel
theorem ef2 (m : MethodId) (a0 : Addr) (a1 : Addr) : entryFrame m #[(.ref a0), (.ref a1)] 2 = mkF m 0 #[.val (.ref a0), .val (.ref a1)] [] := by first | (simp [entryFrame, mkF, argsToLocals, Value.category]; done) | rfl
def own_Q2 (Z : State) (a0 : Addr) (a1 : Addr) (h0 : Heap) (n0 : Nat) (v : Option Value) (h : Heap) (L : List Loc) : Prop := v = some (.ref a0) ∧ Fr n0 L ∧ h = h0
set_option maxRecDepth 65536 in
set_option maxHeartbeats 40000000 in
theorem rm2 (l : Launch) (Z : State) (az : Array Value) (hw : ∀ d ∈ tables_1, d.before az Z = true) (ws : List Jvm.Cond) (a0 : Addr) (a1 : Addr) (h0 : Heap) (n0 : Nat) (Z0 : n0 ≤ h0.size) :
    MetFree l (⟨"java/util/Objects", "requireNonNull", "(Ljava/lang/Object;Ljava/lang/String;)Ljava/lang/Object;"⟩ : MethodName) (head1 (Jvm.Cond.code (⟨"java/util/Objects", "requireNonNull", "(Ljava/lang/Object;Ljava/lang/String;)Ljava/lang/Object;"⟩ : MethodName) jdk_31_method_11_code 2 (some (.object "java/lang/Object")) :: ws) ({ frames := 0, cells := 0, slots := 0, locals := 0 } : Room)) (fun a U => a = #[(.ref a0), (.ref a1)] ∧ Z.Warmed39 U.vm ∧ U.heap = h0) (fun _ _ _ _ _ => True) (fun _ U o U' => ∃ v L, o = .returned v ∧ own_Q2 Z a0 a1 h0 n0 v U'.heap L ∧ FrameEnd U o U' L ({ frames := 0, cells := 0, slots := 0, locals := 0 } : Room).cells ({ frames := 0, cells := 0, slots := 0, locals := 0 } : Room).slots) := by
  refine MetFree.of_bodySF (plainFor_of_name pn2) hisR ?_
  intro p e s m args below meth c s₁ Bd hml0 hP hK
  obtain ⟨rfl, hZ, hh⟩ := hP
  have hx := Bd.exec
  have hby := Bd.bytes
  have hml : c.maxLocals = 2 := hml0
  have hown : s.vm.findClass "java/util/Objects" = some m.cls := findClass_of_methodNamed Bd.named
  have hnm := (name_of_methodNamed Bd.named Bd.method).1
  have X0 : Stand p l e ({ frames := 0, cells := 0, slots := 0, locals := 0 } : Room) s m #[(.ref a0), (.ref a1)] below meth c s₁ [] 0 0 := Stand.of_body Bd
  have e0 : s₁.heap = h0 := by rw [← hh, Bd.state]; rfl
  have N0 := Fr.nil n0
  show own_Go p.tables e below (fun o U' => ∃ v L, o = .returned v ∧ own_Q2 Z a0 a1 h0 n0 v U'.heap L ∧ FrameEnd s o U' L ({ frames := 0, cells := 0, slots := 0, locals := 0 } : Room).cells ({ frames := 0, cells := 0, slots := 0, locals := 0 } : Room).slots) (s₁.setTop (entryFrame m #[(.ref a0), (.ref a1)] 2))
  refine own_go (fun _ k => castTop (ef2 m a0 a1) k) ?_
  show own_Go p.tables e below _ (s₁.setTop (mkF m 0 #[.val (.ref a0), .val (.ref a1)] []))
  refine own_go (fun _ k => XS.aloadN X0.here hx rfl (hb hby d2_0) rfl rfl k) ?_
  show own_Go p.tables e below _ (s₁.setTop (mkF m 1 #[.val (.ref a0), .val (.ref a1)] [(.ref a0)]))
  refine own_go (fun _ k => XS.ifnonnullYes X0.here hx rfl (pc0 := 1) (pc' := 13) rfl (hb hby d2_1) rfl (by decide) (by decide) k) ?_
  show own_Go p.tables e below _ (s₁.setTop (mkF m 13 #[.val (.ref a0), .val (.ref a1)] []))
  refine own_go (fun _ k => XS.aloadN X0.here hx rfl (hb hby d2_13) rfl rfl k) ?_
  show own_Go p.tables e below _ (s₁.setTop (mkF m 14 #[.val (.ref a0), .val (.ref a1)] [(.ref a0)]))
  refine own_end X0 Bd.notSynchronized (v := some (.ref a0)) (fun h => by rw [Bd.returns] at h; cases h) (fun fs hr => own_retA X0 hx Bd.returns (hb hby d2_14) hr) ?_ (by decide) (by decide)
  exact ⟨rfl, N0, e0⟩
theorem d3_0 : decode prog_5_method_1_code 0 = .ok (.aload_n 0, 1) := by decide +kernel
theorem d3_1 : decode prog_5_method_1_code 1 = .ok (.invokespecial 1, 3) := by decide +kernel
theorem d3_4 : decode prog_5_method_1_code 4 = .ok (.aload_n 1, 1) := by decide +kernel
theorem d3_5 : decode prog_5_method_1_code 5 = .ok (.ldc 7, 2) := by decide +kernel
theorem d3_7 : decode prog_5_method_1_code 7 = .ok (.invokestatic 9, 3) := by decide +kernel
theorem d3_10 : decode prog_5_method_1_code 10 = .ok (.pop, 1) := by decide +kernel
theorem d3_11 : decode prog_5_method_1_code 11 = .ok (.iload_n 2, 1) := by decide +kernel
theorem d3_12 : decode prog_5_method_1_code 12 = .ok (.ifCond .lt 37, 3) := by decide +kernel
theorem d3_15 : decode prog_5_method_1_code 15 = .ok (.iload_n 3, 1) := by decide +kernel
theorem d3_16 : decode prog_5_method_1_code 16 = .ok (.ifCond .lt 33, 3) := by decide +kernel
theorem d3_19 : decode prog_5_method_1_code 19 = .ok (.iload 4, 2) := by decide +kernel
theorem d3_21 : decode prog_5_method_1_code 21 = .ok (.iconst 1, 1) := by decide +kernel
theorem d3_22 : decode prog_5_method_1_code 22 = .ok (.if_icmp .lt 27, 3) := by decide +kernel
theorem d3_25 : decode prog_5_method_1_code 25 = .ok (.iload 5, 2) := by decide +kernel
theorem d3_27 : decode prog_5_method_1_code 27 = .ok (.iconst 1, 1) := by decide +kernel
theorem d3_28 : decode prog_5_method_1_code 28 = .ok (.if_icmp .lt 21, 3) := by decide +kernel
theorem d3_31 : decode prog_5_method_1_code 31 = .ok (.iload 4, 2) := by decide +kernel
theorem d3_33 : decode prog_5_method_1_code 33 = .ok (.ldc 17, 2) := by decide +kernel
theorem d3_35 : decode prog_5_method_1_code 35 = .ok (.iload_n 2, 1) := by decide +kernel
theorem d3_36 : decode prog_5_method_1_code 36 = .ok (.isub, 1) := by decide +kernel
theorem d3_37 : decode prog_5_method_1_code 37 = .ok (.if_icmp .gt 12, 3) := by decide +kernel
theorem d3_40 : decode prog_5_method_1_code 40 = .ok (.iload 5, 2) := by decide +kernel
theorem d3_42 : decode prog_5_method_1_code 42 = .ok (.ldc 17, 2) := by decide +kernel
theorem d3_44 : decode prog_5_method_1_code 44 = .ok (.iload_n 3, 1) := by decide +kernel
theorem d3_45 : decode prog_5_method_1_code 45 = .ok (.isub, 1) := by decide +kernel
theorem d3_46 : decode prog_5_method_1_code 46 = .ok (.if_icmp .le 23, 3) := by decide +kernel
theorem d3_69 : decode prog_5_method_1_code 69 = .ok (.aload_n 0, 1) := by decide +kernel
theorem d3_70 : decode prog_5_method_1_code 70 = .ok (.aload_n 1, 1) := by decide +kernel
theorem d3_71 : decode prog_5_method_1_code 71 = .ok (.putfield 27, 3) := by decide +kernel
theorem d3_74 : decode prog_5_method_1_code 74 = .ok (.aload_n 0, 1) := by decide +kernel
theorem d3_75 : decode prog_5_method_1_code 75 = .ok (.iload_n 2, 1) := by decide +kernel
theorem d3_76 : decode prog_5_method_1_code 76 = .ok (.putfield 33, 3) := by decide +kernel
theorem d3_79 : decode prog_5_method_1_code 79 = .ok (.aload_n 0, 1) := by decide +kernel
theorem d3_80 : decode prog_5_method_1_code 80 = .ok (.iload_n 3, 1) := by decide +kernel
theorem d3_81 : decode prog_5_method_1_code 81 = .ok (.putfield 37, 3) := by decide +kernel
theorem d3_84 : decode prog_5_method_1_code 84 = .ok (.aload_n 0, 1) := by decide +kernel
theorem d3_85 : decode prog_5_method_1_code 85 = .ok (.iload 4, 2) := by decide +kernel
theorem d3_87 : decode prog_5_method_1_code 87 = .ok (.putfield 40, 3) := by decide +kernel
theorem d3_90 : decode prog_5_method_1_code 90 = .ok (.aload_n 0, 1) := by decide +kernel
theorem d3_91 : decode prog_5_method_1_code 91 = .ok (.iload 5, 2) := by decide +kernel
theorem d3_93 : decode prog_5_method_1_code 93 = .ok (.putfield 43, 3) := by decide +kernel
theorem d3_96 : decode prog_5_method_1_code 96 = .ok (.return_, 1) := by decide +kernel
theorem pn3 : plainName "com/example/dialplane/dialplane/engine/Area" = true := by first | (simp [plainName, overriddenIn]; done) | decide +kernel
theorem pd3_0 : parseMethodDescriptor "()V" = some ⟨[], none⟩ := by decide +kernel
theorem pd3_1 : parseMethodDescriptor "(Ljava/lang/Object;Ljava/lang/String;)Ljava/lang/Object;" = some ⟨[(.object "java/lang/Object"), (.object "java/lang/String")], some (.object "java/lang/Object")⟩ := by decide +kernel
theorem ef3 (m : MethodId) (a0 : Addr) (a1 : Addr) (p2 : Int32) (p3 : Int32) (p4 : Int32) (p5 : Int32) : entryFrame m #[(.ref a0), (.ref a1), (.int p2), (.int p3), (.int p4), (.int p5)] 6 = mkF m 0 #[.val (.ref a0), .val (.ref a1), .val (.int p2), .val (.int p3), .val (.int p4), .val (.int p5)] [] := by first | (simp [entryFrame, mkF, argsToLocals, Value.category]; done) | rfl
def own_Q3 (Z : State) (a0 : Addr) (a1 : Addr) (p2 : Int32) (p3 : Int32) (p4 : Int32) (p5 : Int32) (h0 : Heap) (n0 : Nat) (v : Option Value) (h : Heap) (L : List Loc) : Prop := v = none ∧ Fr n0 L ∧ Keep h0 h [a0] ∧ Exa Z h a0 "com/example/dialplane/dialplane/engine/Area" ∧ Fld Z h a0 "com/example/dialplane/dialplane/engine/Area" "id" "Ljava/lang/String;" (.ref a1) ∧ Fld Z h a0 "com/example/dialplane/dialplane/engine/Area" "x" "I" (.int p2) ∧ Fld Z h a0 "com/example/dialplane/dialplane/engine/Area" "y" "I" (.int p3) ∧ Fld Z h a0 "com/example/dialplane/dialplane/engine/Area" "width" "I" (.int p4) ∧ Fld Z h a0 "com/example/dialplane/dialplane/engine/Area" "height" "I" (.int p5)
set_option maxRecDepth 65536 in
set_option maxHeartbeats 40000000 in
theorem rm3 (l : Launch) (Z : State) (az : Array Value) (hw : ∀ d ∈ tables_1, d.before az Z = true) (ws : List Jvm.Cond) (a0 : Addr) (a1 : Addr) (p2 : Int32) (p3 : Int32) (p4 : Int32) (p5 : Int32) (h0 : Heap) (n0 : Nat) (Z0 : n0 ≤ h0.size) (F_a0_id : Fld Z h0 a0 "com/example/dialplane/dialplane/engine/Area" "id" "Ljava/lang/String;" .null) (F_a0_x : Fld Z h0 a0 "com/example/dialplane/dialplane/engine/Area" "x" "I" (.int (0 : Int32))) (F_a0_y : Fld Z h0 a0 "com/example/dialplane/dialplane/engine/Area" "y" "I" (.int (0 : Int32))) (F_a0_width : Fld Z h0 a0 "com/example/dialplane/dialplane/engine/Area" "width" "I" (.int (0 : Int32))) (F_a0_height : Fld Z h0 a0 "com/example/dialplane/dialplane/engine/Area" "height" "I" (.int (0 : Int32))) (E_a0 : Exa Z h0 a0 "com/example/dialplane/dialplane/engine/Area") (g_a0 : n0 ≤ a0) (hg1 : ¬ (p2 < (0 : Int32))) (hg2 : ¬ (p3 < (0 : Int32))) (hg3 : ¬ (p4 < (1 : Int32))) (hg4 : ¬ (p5 < (1 : Int32))) (hg5 : ¬ (((2147483647 : Int32) - p2) < p4)) (hg6 : ¬ (((2147483647 : Int32) - p3) < p5)) :
    MetFree l (⟨"com/example/dialplane/dialplane/engine/Area", "<init>", "(Ljava/lang/String;IIII)V"⟩ : MethodName) (head1 (Jvm.Cond.code (⟨"com/example/dialplane/dialplane/engine/Area", "<init>", "(Ljava/lang/String;IIII)V"⟩ : MethodName) prog_5_method_1_code 6 none :: ws) ({ frames := 2, cells := 2, slots := 44, locals := 24 } : Room)) (fun a U => a = #[(.ref a0), (.ref a1), (.int p2), (.int p3), (.int p4), (.int p5)] ∧ Z.Warmed39 U.vm ∧ U.heap = h0) (fun _ _ _ _ _ => True) (fun _ U o U' => ∃ v L, o = .returned v ∧ own_Q3 Z a0 a1 p2 p3 p4 p5 h0 n0 v U'.heap L ∧ ReturnedEndW U o U' L ({ frames := 2, cells := 2, slots := 44, locals := 24 } : Room).cells ({ frames := 2, cells := 2, slots := 44, locals := 24 } : Room).slots) := by
  refine MetFree.of_bodySF (plainFor_of_name pn3) hisR ?_
  intro p e s m args below meth c s₁ Bd hml0 hP hK
  obtain ⟨rfl, hZ, hh⟩ := hP
  have hx := Bd.exec
  have hby := Bd.bytes
  have hml : c.maxLocals = 6 := hml0
  have hZ : Z.Warmed39 (s.setVm s.vm).vm := hZ
  have hown : (s.setVm s.vm).vm.findClass "com/example/dialplane/dialplane/engine/Area" = some m.cls := findClass_of_methodNamed Bd.named
  have hnm := (name_of_methodNamed Bd.named Bd.method).1
  have X0 : Stand p l e ({ frames := 2, cells := 2, slots := 44, locals := 24 } : Room) (s.setVm s.vm) m #[(.ref a0), (.ref a1), (.int p2), (.int p3), (.int p4), (.int p5)] below meth c s₁ [] 0 0 := by rw [State.setVm_self]; exact Stand.of_body Bd
  have e0 : s₁.heap = h0 := by rw [← hh, Bd.state]; rfl
  have N0 := Fr.nil n0
  have hS : s.Since s.vm h0.size := (State.WarmedH.refl s).since _
  have hk : h0.size ≤ h0.size := Nat.le_refl _
  show own_Go p.tables e below (fun o U' => ∃ v L, o = .returned v ∧ own_Q3 Z a0 a1 p2 p3 p4 p5 h0 n0 v U'.heap L ∧ ReturnedEndW s o U' L ({ frames := 2, cells := 2, slots := 44, locals := 24 } : Room).cells ({ frames := 2, cells := 2, slots := 44, locals := 24 } : Room).slots) (s₁.setTop (entryFrame m #[(.ref a0), (.ref a1), (.int p2), (.int p3), (.int p4), (.int p5)] 6))
  refine own_go (fun _ k => castTop (ef3 m a0 a1 p2 p3 p4 p5) k) ?_
  show own_Go p.tables e below _ (s₁.setTop (mkF m 0 #[.val (.ref a0), .val (.ref a1), .val (.int p2), .val (.int p3), .val (.int p4), .val (.int p5)] []))
  refine own_go (fun _ k => XS.aloadN X0.here hx rfl (hb hby d3_0) rfl rfl k) ?_
  show own_Go p.tables e below _ (s₁.setTop (mkF m 1 #[.val (.ref a0), .val (.ref a1), .val (.int p2), .val (.int p3), .val (.int p4), .val (.int p5)] [(.ref a0)]))
  obtain ⟨_, _, ⟨T1, L1, k1, n1⟩, -, X1, ⟨Lc1, hQ1, l1, y1, z1⟩, st1⟩ := X0.specialBack hx (y := (⟨"java/lang/Record", "<init>", "()V"⟩ : MethodName)) rfl hown (mvT hZ (hw _ (List.mem_of_getElem? (i := 15) rfl))) (mvT hZ (hw _ (List.mem_of_getElem? (i := 16) rfl))) (mvT hZ (hw _ (List.mem_of_getElem? (i := 19) rfl))) (by decide) (backOf (W := 0) (rm1 l Z az hw [] a0 h0 n0 Z0) hZ (hw _ (List.mem_of_getElem? (i := 19) rfl)) (hw _ (List.mem_of_getElem? (i := 18) rfl)) (by decide) (by decide)) (g := (mkF m 1 #[.val (.ref a0), .val (.ref a1), .val (.int p2), .val (.int p3), .val (.int p4), .val (.int p5)] [(.ref a0)])) rfl (by rw [hml]; rfl) (Steps.refl _) (a := a0) (argsL := []) (rest := []) (lenOf pd3_0 rfl) rfl (by show 2 * 0 + _ ≤ _; exact Nat.le_of_eq rfl) (hb hby d3_1) (fun _ _ => ⟨rfl, e0, (by decide : 0 + 0 ≤ _), (by decide : 0 + 0 ≤ _)⟩)
  dsimp only [Pt.U, Pt.locs, Pt.cells, Pt.slots] at X1 l1 y1 z1 st1 hQ1
  subst l1 y1 z1
  refine own_go (fun _ k => st1.trans k) ?_
  obtain ⟨rfl, N1q, e1⟩ := hQ1
  have N1 := Fr.app N0 N1q
  show own_Go p.tables e below _ (T1.setTop (mkF m 4 #[.val (.ref a0), .val (.ref a1), .val (.int p2), .val (.int p3), .val (.int p4), .val (.int p5)] []))
  refine own_go (fun _ k => XS.aloadN X1.here hx rfl (hb hby d3_4) rfl rfl k) ?_
  show own_Go p.tables e below _ (T1.setTop (mkF m 5 #[.val (.ref a0), .val (.ref a1), .val (.int p2), .val (.int p3), .val (.int p4), .val (.int p5)] [(.ref a1)]))
  obtain ⟨a2, T2, h2, k2, X2, e2, E2, hS, hk, hZ, hown, st2⟩ := ldcS X1 hx hZ hown (hw _ (List.mem_of_getElem? (i := 23) rfl)) (own_wS hw) (e1 : T1.heap = h0) hS hk (g := (mkF m 5 #[.val (.ref a0), .val (.ref a1), .val (.int p2), .val (.int p3), .val (.int p4), .val (.int p5)] [(.ref a1)])) rfl (hb hby d3_5) (n := 40) (by decide +kernel) (by decide) (by decide) (by decide)
  have c2_0 := F_a0_id.ext E2
  have c2_1 := F_a0_x.ext E2
  have c2_2 := F_a0_y.ext E2
  have c2_3 := F_a0_width.ext E2
  have c2_4 := F_a0_height.ext E2
  have c2_5 := E_a0.ext E2
  have Z2 : n0 ≤ h2.size := Nat.le_trans Z0 E2.1
  have K2 : Keep h0 h2 [a0] := (Keep.refl _ _).ext E2
  refine own_go st2 ?_
  show own_Go p.tables e below _ (T2.setTop (mkF m 7 #[.val (.ref a0), .val (.ref a1), .val (.int p2), .val (.int p3), .val (.int p4), .val (.int p5)] [(.ref a2), (.ref a1)]))
  obtain ⟨_, _, ⟨T3, L3, k3, n3⟩, -, X3, ⟨Lc3, hQ3, l3, y3, z3⟩, st3⟩ := Jvm.LawKit.callS X2 hx (y := (⟨"java/util/Objects", "requireNonNull", "(Ljava/lang/Object;Ljava/lang/String;)Ljava/lang/Object;"⟩ : MethodName)) hown (mvT hZ (hw _ (List.mem_of_getElem? (i := 24) rfl))) (mvT hZ (hw _ (List.mem_of_getElem? (i := 25) rfl))) (mvT hZ (hw _ (List.mem_of_getElem? (i := 26) rfl))) (mvT hZ (hw _ (List.mem_of_getElem? (i := 27) rfl))) (by decide) (backOf (W := 0) (rm2 l Z az hw [] a1 a2 h2 n0 Z2) hZ (hw _ (List.mem_of_getElem? (i := 27) rfl)) (hw _ (List.mem_of_getElem? (i := 26) rfl)) (by decide) (by decide)) (g := (mkF m 7 #[.val (.ref a0), .val (.ref a1), .val (.int p2), .val (.int p3), .val (.int p4), .val (.int p5)] [(.ref a2), (.ref a1)])) rfl (by rw [hml]; rfl) (argsL := [(.ref a1), (.ref a2)]) (rest := []) (lenOf pd3_1 rfl) rfl (by show 2 * 0 + _ ≤ _; exact Nat.le_of_eq rfl) (hb hby d3_7) (fun _ _ => ⟨rfl, e2, (by decide : 2 + 0 ≤ _), (by decide : 44 + 0 ≤ _)⟩)
  dsimp only [Pt.U, Pt.locs, Pt.cells, Pt.slots] at X3 l3 y3 z3 st3 hQ3
  subst l3 y3 z3
  refine own_go st3 ?_
  obtain ⟨rfl, N3q, e3⟩ := hQ3
  have N3 := Fr.app N1 N3q
  show own_Go p.tables e below _ (T3.setTop (mkF m 10 #[.val (.ref a0), .val (.ref a1), .val (.int p2), .val (.int p3), .val (.int p4), .val (.int p5)] [(.ref a1)]))
  refine own_go (fun _ k => XS.pop X3.here hx rfl (hb hby d3_10) rfl rfl k) ?_
  show own_Go p.tables e below _ (T3.setTop (mkF m 11 #[.val (.ref a0), .val (.ref a1), .val (.int p2), .val (.int p3), .val (.int p4), .val (.int p5)] []))
  refine own_go (fun _ k => XS.iloadN X3.here hx rfl (hb hby d3_11) rfl k) ?_
  show own_Go p.tables e below _ (T3.setTop (mkF m 12 #[.val (.ref a0), .val (.ref a1), .val (.int p2), .val (.int p3), .val (.int p4), .val (.int p5)] [(.int p2)]))
  have hf12 : ¬ (p2 < (0 : Int32)) := hg1
  refine own_go (fun _ k => XS.ifNo X3.here hx rfl (hb hby d3_12) rfl ((if0 _ _).trans (flt hf12).1) k) ?_
  show own_Go p.tables e below _ (T3.setTop (mkF m 15 #[.val (.ref a0), .val (.ref a1), .val (.int p2), .val (.int p3), .val (.int p4), .val (.int p5)] []))
  refine own_go (fun _ k => XS.iloadN X3.here hx rfl (hb hby d3_15) rfl k) ?_
  show own_Go p.tables e below _ (T3.setTop (mkF m 16 #[.val (.ref a0), .val (.ref a1), .val (.int p2), .val (.int p3), .val (.int p4), .val (.int p5)] [(.int p3)]))
  have hf16 : ¬ (p3 < (0 : Int32)) := hg2
  refine own_go (fun _ k => XS.ifNo X3.here hx rfl (hb hby d3_16) rfl ((if0 _ _).trans (flt hf16).1) k) ?_
  show own_Go p.tables e below _ (T3.setTop (mkF m 19 #[.val (.ref a0), .val (.ref a1), .val (.int p2), .val (.int p3), .val (.int p4), .val (.int p5)] []))
  refine own_go (fun _ k => XS.iload X3.here hx rfl (hb hby d3_19) rfl k) ?_
  show own_Go p.tables e below _ (T3.setTop (mkF m 21 #[.val (.ref a0), .val (.ref a1), .val (.int p2), .val (.int p3), .val (.int p4), .val (.int p5)] [(.int p4)]))
  refine own_go (fun _ k => XS.iconst X3.here hx rfl (hb hby d3_21) k) ?_
  show own_Go p.tables e below _ (T3.setTop (mkF m 22 #[.val (.ref a0), .val (.ref a1), .val (.int p2), .val (.int p3), .val (.int p4), .val (.int p5)] [(.int (1 : Int32)), (.int p4)]))
  have hf22 : ¬ (p4 < (1 : Int32)) := hg3
  refine own_go (fun _ k => XS.icmpNo X3.here hx rfl (hb hby d3_22) rfl (flt hf22).1 k) ?_
  show own_Go p.tables e below _ (T3.setTop (mkF m 25 #[.val (.ref a0), .val (.ref a1), .val (.int p2), .val (.int p3), .val (.int p4), .val (.int p5)] []))
  refine own_go (fun _ k => XS.iload X3.here hx rfl (hb hby d3_25) rfl k) ?_
  show own_Go p.tables e below _ (T3.setTop (mkF m 27 #[.val (.ref a0), .val (.ref a1), .val (.int p2), .val (.int p3), .val (.int p4), .val (.int p5)] [(.int p5)]))
  refine own_go (fun _ k => XS.iconst X3.here hx rfl (hb hby d3_27) k) ?_
  show own_Go p.tables e below _ (T3.setTop (mkF m 28 #[.val (.ref a0), .val (.ref a1), .val (.int p2), .val (.int p3), .val (.int p4), .val (.int p5)] [(.int (1 : Int32)), (.int p5)]))
  have hf28 : ¬ (p5 < (1 : Int32)) := hg4
  refine own_go (fun _ k => XS.icmpNo X3.here hx rfl (hb hby d3_28) rfl (flt hf28).1 k) ?_
  show own_Go p.tables e below _ (T3.setTop (mkF m 31 #[.val (.ref a0), .val (.ref a1), .val (.int p2), .val (.int p3), .val (.int p4), .val (.int p5)] []))
  refine own_go (fun _ k => XS.iload X3.here hx rfl (hb hby d3_31) rfl k) ?_
  show own_Go p.tables e below _ (T3.setTop (mkF m 33 #[.val (.ref a0), .val (.ref a1), .val (.int p2), .val (.int p3), .val (.int p4), .val (.int p5)] [(.int p4)]))
  refine own_go (fun _ k => X3.ldcInt hx hown (mvT hZ (hw _ (List.mem_of_getElem? (i := 28) rfl))) (g := (mkF m 33 #[.val (.ref a0), .val (.ref a1), .val (.int p2), .val (.int p3), .val (.int p4), .val (.int p5)] [(.int p4)])) rfl (hb hby d3_33) _ k) ?_
  show own_Go p.tables e below _ (T3.setTop (mkF m 35 #[.val (.ref a0), .val (.ref a1), .val (.int p2), .val (.int p3), .val (.int p4), .val (.int p5)] [(.int (2147483647 : Int32)), (.int p4)]))
  refine own_go (fun _ k => XS.iloadN X3.here hx rfl (hb hby d3_35) rfl k) ?_
  show own_Go p.tables e below _ (T3.setTop (mkF m 36 #[.val (.ref a0), .val (.ref a1), .val (.int p2), .val (.int p3), .val (.int p4), .val (.int p5)] [(.int p2), (.int (2147483647 : Int32)), (.int p4)]))
  refine own_go (fun _ k => XS.isub X3.here hx rfl (hb hby d3_36) rfl k) ?_
  show own_Go p.tables e below _ (T3.setTop (mkF m 37 #[.val (.ref a0), .val (.ref a1), .val (.int p2), .val (.int p3), .val (.int p4), .val (.int p5)] [(.int ((2147483647 : Int32) - p2)), (.int p4)]))
  have hf37 : ¬ (((2147483647 : Int32) - p2) < p4) := hg5
  refine own_go (fun _ k => XS.icmpNo X3.here hx rfl (hb hby d3_37) rfl (flt hf37).2.2.1 k) ?_
  show own_Go p.tables e below _ (T3.setTop (mkF m 40 #[.val (.ref a0), .val (.ref a1), .val (.int p2), .val (.int p3), .val (.int p4), .val (.int p5)] []))
  refine own_go (fun _ k => XS.iload X3.here hx rfl (hb hby d3_40) rfl k) ?_
  show own_Go p.tables e below _ (T3.setTop (mkF m 42 #[.val (.ref a0), .val (.ref a1), .val (.int p2), .val (.int p3), .val (.int p4), .val (.int p5)] [(.int p5)]))
  refine own_go (fun _ k => X3.ldcInt hx hown (mvT hZ (hw _ (List.mem_of_getElem? (i := 28) rfl))) (g := (mkF m 42 #[.val (.ref a0), .val (.ref a1), .val (.int p2), .val (.int p3), .val (.int p4), .val (.int p5)] [(.int p5)])) rfl (hb hby d3_42) _ k) ?_
  show own_Go p.tables e below _ (T3.setTop (mkF m 44 #[.val (.ref a0), .val (.ref a1), .val (.int p2), .val (.int p3), .val (.int p4), .val (.int p5)] [(.int (2147483647 : Int32)), (.int p5)]))
  refine own_go (fun _ k => XS.iloadN X3.here hx rfl (hb hby d3_44) rfl k) ?_
  show own_Go p.tables e below _ (T3.setTop (mkF m 45 #[.val (.ref a0), .val (.ref a1), .val (.int p2), .val (.int p3), .val (.int p4), .val (.int p5)] [(.int p3), (.int (2147483647 : Int32)), (.int p5)]))
  refine own_go (fun _ k => XS.isub X3.here hx rfl (hb hby d3_45) rfl k) ?_
  show own_Go p.tables e below _ (T3.setTop (mkF m 46 #[.val (.ref a0), .val (.ref a1), .val (.int p2), .val (.int p3), .val (.int p4), .val (.int p5)] [(.int ((2147483647 : Int32) - p3)), (.int p5)]))
  have hf46 : ¬ (((2147483647 : Int32) - p3) < p5) := hg6
  refine own_go (fun _ k => XS.icmpYes X3.here hx rfl (pc0 := 46) (pc' := 69) rfl (hb hby d3_46) rfl (flt hf46).2.2.2 (by decide) (by decide) k) ?_
  show own_Go p.tables e below _ (T3.setTop (mkF m 69 #[.val (.ref a0), .val (.ref a1), .val (.int p2), .val (.int p3), .val (.int p4), .val (.int p5)] []))
  refine own_go (fun _ k => XS.aloadN X3.here hx rfl (hb hby d3_69) rfl rfl k) ?_
  show own_Go p.tables e below _ (T3.setTop (mkF m 70 #[.val (.ref a0), .val (.ref a1), .val (.int p2), .val (.int p3), .val (.int p4), .val (.int p5)] [(.ref a0)]))
  refine own_go (fun _ k => XS.aloadN X3.here hx rfl (hb hby d3_70) rfl rfl k) ?_
  show own_Go p.tables e below _ (T3.setTop (mkF m 71 #[.val (.ref a0), .val (.ref a1), .val (.int p2), .val (.int p3), .val (.int p4), .val (.int p5)] [(.ref a1), (.ref a0)]))
  obtain ⟨T4, h4, X4, e4, W4, st4⟩ := putF X3 hx hZ hown (host := "") (Or.inl (hw _ (List.mem_of_getElem? (i := 29) rfl))) Via.refl (e3 : T3.heap = h2) c2_0 c2_5 (Or.inr ⟨(hw _ (List.mem_of_getElem? (i := 30) rfl)), rfl, hnm⟩) (hw _ (List.mem_of_getElem? (i := 2) rfl)) (ty := (.object "java/lang/String")) (by decide) rfl rfl (g := (mkF m 71 #[.val (.ref a0), .val (.ref a1), .val (.int p2), .val (.int p3), .val (.int p4), .val (.int p5)] [(.ref a1), (.ref a0)])) rfl rfl (hb hby d3_71)
  have N4 := Fr.snoc X4 N3 g_a0
  have c4_0 := c2_0.same W4
  have c4_1 := c2_1.other W4 (Or.inr (slot_ne (Or.inr (hw _ (List.mem_of_getElem? (i := 32) rfl))) (Or.inr (hw _ (List.mem_of_getElem? (i := 30) rfl))) (by decide) (t := .int) (t' := (.object "java/lang/String")) (by decide) (by decide)))
  have c4_2 := c2_2.other W4 (Or.inr (slot_ne (Or.inr (hw _ (List.mem_of_getElem? (i := 34) rfl))) (Or.inr (hw _ (List.mem_of_getElem? (i := 30) rfl))) (by decide) (t := .int) (t' := (.object "java/lang/String")) (by decide) (by decide)))
  have c4_3 := c2_3.other W4 (Or.inr (slot_ne (Or.inr (hw _ (List.mem_of_getElem? (i := 36) rfl))) (Or.inr (hw _ (List.mem_of_getElem? (i := 30) rfl))) (by decide) (t := .int) (t' := (.object "java/lang/String")) (by decide) (by decide)))
  have c4_4 := c2_4.other W4 (Or.inr (slot_ne (Or.inr (hw _ (List.mem_of_getElem? (i := 38) rfl))) (Or.inr (hw _ (List.mem_of_getElem? (i := 30) rfl))) (by decide) (t := .int) (t' := (.object "java/lang/String")) (by decide) (by decide)))
  have c4_5 := c2_5.wr W4
  have Z4 : n0 ≤ h4.size := Nat.le_trans Z2 (Keep.of_wr W4).1
  have hk := Nat.le_trans hk (Keep.of_wr W4).1
  have K4 : Keep h0 h4 [a0] := K2.wr W4 (Or.inl (List.mem_of_getElem? (i := 0) rfl))
  refine own_go st4 ?_
  show own_Go p.tables e below _ (T4.setTop (mkF m 74 #[.val (.ref a0), .val (.ref a1), .val (.int p2), .val (.int p3), .val (.int p4), .val (.int p5)] []))
  refine own_go (fun _ k => XS.aloadN X4.here hx rfl (hb hby d3_74) rfl rfl k) ?_
  show own_Go p.tables e below _ (T4.setTop (mkF m 75 #[.val (.ref a0), .val (.ref a1), .val (.int p2), .val (.int p3), .val (.int p4), .val (.int p5)] [(.ref a0)]))
  refine own_go (fun _ k => XS.iloadN X4.here hx rfl (hb hby d3_75) rfl k) ?_
  show own_Go p.tables e below _ (T4.setTop (mkF m 76 #[.val (.ref a0), .val (.ref a1), .val (.int p2), .val (.int p3), .val (.int p4), .val (.int p5)] [(.int p2), (.ref a0)]))
  obtain ⟨T5, h5, X5, e5, W5, st5⟩ := putF X4 hx hZ hown (host := "") (Or.inl (hw _ (List.mem_of_getElem? (i := 31) rfl))) Via.refl e4 c4_1 c4_5 (Or.inr ⟨(hw _ (List.mem_of_getElem? (i := 32) rfl)), rfl, hnm⟩) (hw _ (List.mem_of_getElem? (i := 2) rfl)) (ty := .int) (by decide) rfl rfl (g := (mkF m 76 #[.val (.ref a0), .val (.ref a1), .val (.int p2), .val (.int p3), .val (.int p4), .val (.int p5)] [(.int p2), (.ref a0)])) rfl rfl (hb hby d3_76)
  have N5 := Fr.snoc X5 N4 g_a0
  have c5_0 := c4_0.other W5 (Or.inr (slot_ne (Or.inr (hw _ (List.mem_of_getElem? (i := 30) rfl))) (Or.inr (hw _ (List.mem_of_getElem? (i := 32) rfl))) (by decide) (t := (.object "java/lang/String")) (t' := .int) (by decide) (by decide)))
  have c5_1 := c4_1.same W5
  have c5_2 := c4_2.other W5 (Or.inr (slot_ne (Or.inr (hw _ (List.mem_of_getElem? (i := 34) rfl))) (Or.inr (hw _ (List.mem_of_getElem? (i := 32) rfl))) (by decide) (t := .int) (t' := .int) (by decide) (by decide)))
  have c5_3 := c4_3.other W5 (Or.inr (slot_ne (Or.inr (hw _ (List.mem_of_getElem? (i := 36) rfl))) (Or.inr (hw _ (List.mem_of_getElem? (i := 32) rfl))) (by decide) (t := .int) (t' := .int) (by decide) (by decide)))
  have c5_4 := c4_4.other W5 (Or.inr (slot_ne (Or.inr (hw _ (List.mem_of_getElem? (i := 38) rfl))) (Or.inr (hw _ (List.mem_of_getElem? (i := 32) rfl))) (by decide) (t := .int) (t' := .int) (by decide) (by decide)))
  have c5_5 := c4_5.wr W5
  have Z5 : n0 ≤ h5.size := Nat.le_trans Z4 (Keep.of_wr W5).1
  have hk := Nat.le_trans hk (Keep.of_wr W5).1
  have K5 : Keep h0 h5 [a0] := K4.wr W5 (Or.inl (List.mem_of_getElem? (i := 0) rfl))
  refine own_go st5 ?_
  show own_Go p.tables e below _ (T5.setTop (mkF m 79 #[.val (.ref a0), .val (.ref a1), .val (.int p2), .val (.int p3), .val (.int p4), .val (.int p5)] []))
  refine own_go (fun _ k => XS.aloadN X5.here hx rfl (hb hby d3_79) rfl rfl k) ?_
  show own_Go p.tables e below _ (T5.setTop (mkF m 80 #[.val (.ref a0), .val (.ref a1), .val (.int p2), .val (.int p3), .val (.int p4), .val (.int p5)] [(.ref a0)]))
  refine own_go (fun _ k => XS.iloadN X5.here hx rfl (hb hby d3_80) rfl k) ?_
  show own_Go p.tables e below _ (T5.setTop (mkF m 81 #[.val (.ref a0), .val (.ref a1), .val (.int p2), .val (.int p3), .val (.int p4), .val (.int p5)] [(.int p3), (.ref a0)]))
  obtain ⟨T6, h6, X6, e6, W6, st6⟩ := putF X5 hx hZ hown (host := "") (Or.inl (hw _ (List.mem_of_getElem? (i := 33) rfl))) Via.refl e5 c5_2 c5_5 (Or.inr ⟨(hw _ (List.mem_of_getElem? (i := 34) rfl)), rfl, hnm⟩) (hw _ (List.mem_of_getElem? (i := 2) rfl)) (ty := .int) (by decide) rfl rfl (g := (mkF m 81 #[.val (.ref a0), .val (.ref a1), .val (.int p2), .val (.int p3), .val (.int p4), .val (.int p5)] [(.int p3), (.ref a0)])) rfl rfl (hb hby d3_81)
  have N6 := Fr.snoc X6 N5 g_a0
  have c6_0 := c5_0.other W6 (Or.inr (slot_ne (Or.inr (hw _ (List.mem_of_getElem? (i := 30) rfl))) (Or.inr (hw _ (List.mem_of_getElem? (i := 34) rfl))) (by decide) (t := (.object "java/lang/String")) (t' := .int) (by decide) (by decide)))
  have c6_1 := c5_1.other W6 (Or.inr (slot_ne (Or.inr (hw _ (List.mem_of_getElem? (i := 32) rfl))) (Or.inr (hw _ (List.mem_of_getElem? (i := 34) rfl))) (by decide) (t := .int) (t' := .int) (by decide) (by decide)))
  have c6_2 := c5_2.same W6
  have c6_3 := c5_3.other W6 (Or.inr (slot_ne (Or.inr (hw _ (List.mem_of_getElem? (i := 36) rfl))) (Or.inr (hw _ (List.mem_of_getElem? (i := 34) rfl))) (by decide) (t := .int) (t' := .int) (by decide) (by decide)))
  have c6_4 := c5_4.other W6 (Or.inr (slot_ne (Or.inr (hw _ (List.mem_of_getElem? (i := 38) rfl))) (Or.inr (hw _ (List.mem_of_getElem? (i := 34) rfl))) (by decide) (t := .int) (t' := .int) (by decide) (by decide)))
  have c6_5 := c5_5.wr W6
  have Z6 : n0 ≤ h6.size := Nat.le_trans Z5 (Keep.of_wr W6).1
  have hk := Nat.le_trans hk (Keep.of_wr W6).1
  have K6 : Keep h0 h6 [a0] := K5.wr W6 (Or.inl (List.mem_of_getElem? (i := 0) rfl))
  refine own_go st6 ?_
  show own_Go p.tables e below _ (T6.setTop (mkF m 84 #[.val (.ref a0), .val (.ref a1), .val (.int p2), .val (.int p3), .val (.int p4), .val (.int p5)] []))
  refine own_go (fun _ k => XS.aloadN X6.here hx rfl (hb hby d3_84) rfl rfl k) ?_
  show own_Go p.tables e below _ (T6.setTop (mkF m 85 #[.val (.ref a0), .val (.ref a1), .val (.int p2), .val (.int p3), .val (.int p4), .val (.int p5)] [(.ref a0)]))
  refine own_go (fun _ k => XS.iload X6.here hx rfl (hb hby d3_85) rfl k) ?_
  show own_Go p.tables e below _ (T6.setTop (mkF m 87 #[.val (.ref a0), .val (.ref a1), .val (.int p2), .val (.int p3), .val (.int p4), .val (.int p5)] [(.int p4), (.ref a0)]))
  obtain ⟨T7, h7, X7, e7, W7, st7⟩ := putF X6 hx hZ hown (host := "") (Or.inl (hw _ (List.mem_of_getElem? (i := 35) rfl))) Via.refl e6 c6_3 c6_5 (Or.inr ⟨(hw _ (List.mem_of_getElem? (i := 36) rfl)), rfl, hnm⟩) (hw _ (List.mem_of_getElem? (i := 2) rfl)) (ty := .int) (by decide) rfl rfl (g := (mkF m 87 #[.val (.ref a0), .val (.ref a1), .val (.int p2), .val (.int p3), .val (.int p4), .val (.int p5)] [(.int p4), (.ref a0)])) rfl rfl (hb hby d3_87)
  have N7 := Fr.snoc X7 N6 g_a0
  have c7_0 := c6_0.other W7 (Or.inr (slot_ne (Or.inr (hw _ (List.mem_of_getElem? (i := 30) rfl))) (Or.inr (hw _ (List.mem_of_getElem? (i := 36) rfl))) (by decide) (t := (.object "java/lang/String")) (t' := .int) (by decide) (by decide)))
  have c7_1 := c6_1.other W7 (Or.inr (slot_ne (Or.inr (hw _ (List.mem_of_getElem? (i := 32) rfl))) (Or.inr (hw _ (List.mem_of_getElem? (i := 36) rfl))) (by decide) (t := .int) (t' := .int) (by decide) (by decide)))
  have c7_2 := c6_2.other W7 (Or.inr (slot_ne (Or.inr (hw _ (List.mem_of_getElem? (i := 34) rfl))) (Or.inr (hw _ (List.mem_of_getElem? (i := 36) rfl))) (by decide) (t := .int) (t' := .int) (by decide) (by decide)))
  have c7_3 := c6_3.same W7
  have c7_4 := c6_4.other W7 (Or.inr (slot_ne (Or.inr (hw _ (List.mem_of_getElem? (i := 38) rfl))) (Or.inr (hw _ (List.mem_of_getElem? (i := 36) rfl))) (by decide) (t := .int) (t' := .int) (by decide) (by decide)))
  have c7_5 := c6_5.wr W7
  have Z7 : n0 ≤ h7.size := Nat.le_trans Z6 (Keep.of_wr W7).1
  have hk := Nat.le_trans hk (Keep.of_wr W7).1
  have K7 : Keep h0 h7 [a0] := K6.wr W7 (Or.inl (List.mem_of_getElem? (i := 0) rfl))
  refine own_go st7 ?_
  show own_Go p.tables e below _ (T7.setTop (mkF m 90 #[.val (.ref a0), .val (.ref a1), .val (.int p2), .val (.int p3), .val (.int p4), .val (.int p5)] []))
  refine own_go (fun _ k => XS.aloadN X7.here hx rfl (hb hby d3_90) rfl rfl k) ?_
  show own_Go p.tables e below _ (T7.setTop (mkF m 91 #[.val (.ref a0), .val (.ref a1), .val (.int p2), .val (.int p3), .val (.int p4), .val (.int p5)] [(.ref a0)]))
  refine own_go (fun _ k => XS.iload X7.here hx rfl (hb hby d3_91) rfl k) ?_
  show own_Go p.tables e below _ (T7.setTop (mkF m 93 #[.val (.ref a0), .val (.ref a1), .val (.int p2), .val (.int p3), .val (.int p4), .val (.int p5)] [(.int p5), (.ref a0)]))
  obtain ⟨T8, h8, X8, e8, W8, st8⟩ := putF X7 hx hZ hown (host := "") (Or.inl (hw _ (List.mem_of_getElem? (i := 37) rfl))) Via.refl e7 c7_4 c7_5 (Or.inr ⟨(hw _ (List.mem_of_getElem? (i := 38) rfl)), rfl, hnm⟩) (hw _ (List.mem_of_getElem? (i := 2) rfl)) (ty := .int) (by decide) rfl rfl (g := (mkF m 93 #[.val (.ref a0), .val (.ref a1), .val (.int p2), .val (.int p3), .val (.int p4), .val (.int p5)] [(.int p5), (.ref a0)])) rfl rfl (hb hby d3_93)
  have N8 := Fr.snoc X8 N7 g_a0
  have c8_0 := c7_0.other W8 (Or.inr (slot_ne (Or.inr (hw _ (List.mem_of_getElem? (i := 30) rfl))) (Or.inr (hw _ (List.mem_of_getElem? (i := 38) rfl))) (by decide) (t := (.object "java/lang/String")) (t' := .int) (by decide) (by decide)))
  have c8_1 := c7_1.other W8 (Or.inr (slot_ne (Or.inr (hw _ (List.mem_of_getElem? (i := 32) rfl))) (Or.inr (hw _ (List.mem_of_getElem? (i := 38) rfl))) (by decide) (t := .int) (t' := .int) (by decide) (by decide)))
  have c8_2 := c7_2.other W8 (Or.inr (slot_ne (Or.inr (hw _ (List.mem_of_getElem? (i := 34) rfl))) (Or.inr (hw _ (List.mem_of_getElem? (i := 38) rfl))) (by decide) (t := .int) (t' := .int) (by decide) (by decide)))
  have c8_3 := c7_3.other W8 (Or.inr (slot_ne (Or.inr (hw _ (List.mem_of_getElem? (i := 36) rfl))) (Or.inr (hw _ (List.mem_of_getElem? (i := 38) rfl))) (by decide) (t := .int) (t' := .int) (by decide) (by decide)))
  have c8_4 := c7_4.same W8
  have c8_5 := c7_5.wr W8
  have Z8 : n0 ≤ h8.size := Nat.le_trans Z7 (Keep.of_wr W8).1
  have hk := Nat.le_trans hk (Keep.of_wr W8).1
  have K8 : Keep h0 h8 [a0] := K7.wr W8 (Or.inl (List.mem_of_getElem? (i := 0) rfl))
  refine own_go st8 ?_
  show own_Go p.tables e below _ (T8.setTop (mkF m 96 #[.val (.ref a0), .val (.ref a1), .val (.int p2), .val (.int p3), .val (.int p4), .val (.int p5)] []))
  refine own_endW X8 hS (by rw [e8]; exact hk) Bd.notSynchronized (v := none) (fun _ => rfl) (fun fs hr => X8.returnOut hx Bd.returns (hb hby d3_96) hr) ?_ (by decide) (by decide)
  show own_Q3 Z a0 a1 p2 p3 p4 p5 h0 n0 _ T8.heap _
  rw [e8]
  exact ⟨rfl, N8, K8, c8_5, c8_0, c8_1, c8_2, c8_3, c8_4⟩
def own_f4 (p0 : Int32) (p1 : Int32) (p2 : Int32) : Int32 :=
  (if ((p0.toInt64) - (p1.toInt64)) < (0 : Int64) then (0 : Int32) else (if ((p0.toInt64) - (p1.toInt64)) < (p2.toInt64) then (1 : Int32) else (0 : Int32)))
theorem d4_0 : decode method_2_code 0 = .ok (.iload_n 0, 1) := by decide +kernel
theorem d4_1 : decode method_2_code 1 = .ok (.i2l, 1) := by decide +kernel
theorem d4_2 : decode method_2_code 2 = .ok (.iload_n 1, 1) := by decide +kernel
theorem d4_3 : decode method_2_code 3 = .ok (.i2l, 1) := by decide +kernel
theorem d4_4 : decode method_2_code 4 = .ok (.lsub, 1) := by decide +kernel
theorem d4_5 : decode method_2_code 5 = .ok (.lstore_n 3, 1) := by decide +kernel
theorem d4_6 : decode method_2_code 6 = .ok (.lload_n 3, 1) := by decide +kernel
theorem d4_7 : decode method_2_code 7 = .ok (.lconst 0, 1) := by decide +kernel
theorem d4_8 : decode method_2_code 8 = .ok (.lcmp, 1) := by decide +kernel
theorem d4_9 : decode method_2_code 9 = .ok (.ifCond .lt 14, 3) := by decide +kernel
theorem d4_12 : decode method_2_code 12 = .ok (.lload_n 3, 1) := by decide +kernel
theorem d4_13 : decode method_2_code 13 = .ok (.iload_n 2, 1) := by decide +kernel
theorem d4_14 : decode method_2_code 14 = .ok (.i2l, 1) := by decide +kernel
theorem d4_15 : decode method_2_code 15 = .ok (.lcmp, 1) := by decide +kernel
theorem d4_16 : decode method_2_code 16 = .ok (.ifCond .ge 7, 3) := by decide +kernel
theorem d4_19 : decode method_2_code 19 = .ok (.iconst 1, 1) := by decide +kernel
theorem d4_20 : decode method_2_code 20 = .ok (.goto 4, 3) := by decide +kernel
theorem d4_23 : decode method_2_code 23 = .ok (.iconst 0, 1) := by decide +kernel
theorem d4_24 : decode method_2_code 24 = .ok (.ireturn, 1) := by decide +kernel
theorem pn4 : plainName "com/example/dialplane/dialplane/engine/AreaContainsPinLaw" = true := by first | (simp [plainName, overriddenIn]; done) | decide +kernel
theorem ef4 (m : MethodId) (p0 : Int32) (p1 : Int32) (p2 : Int32) : entryFrame m #[(.int p0), (.int p1), (.int p2)] 5 = mkF m 0 #[.val (.int p0), .val (.int p1), .val (.int p2), .unset, .unset] [] := by first | (simp [entryFrame, mkF, argsToLocals, Value.category]; done) | rfl
def own_Q4 (Z : State) (p0 : Int32) (p1 : Int32) (p2 : Int32) (h0 : Heap) (n0 : Nat) (v : Option Value) (h : Heap) (L : List Loc) : Prop := v = some (.int (own_f4 p0 p1 p2)) ∧ Fr n0 L ∧ h = h0
set_option maxRecDepth 65536 in
set_option maxHeartbeats 40000000 in
theorem rm4 (l : Launch) (Z : State) (az : Array Value) (hw : ∀ d ∈ tables_1, d.before az Z = true) (ws : List Jvm.Cond) (p0 : Int32) (p1 : Int32) (p2 : Int32) (h0 : Heap) (n0 : Nat) (Z0 : n0 ≤ h0.size) :
    MetFree l (⟨"com/example/dialplane/dialplane/engine/AreaContainsPinLaw", "within", "(III)Z"⟩ : MethodName) (head1 (Jvm.Cond.code (⟨"com/example/dialplane/dialplane/engine/AreaContainsPinLaw", "within", "(III)Z"⟩ : MethodName) method_2_code 5 (some .boolean) :: ws) ({ frames := 0, cells := 0, slots := 0, locals := 0 } : Room)) (fun a U => a = #[(.int p0), (.int p1), (.int p2)] ∧ Z.Warmed39 U.vm ∧ U.heap = h0) (fun _ _ _ _ _ => True) (fun _ U o U' => ∃ v L, o = .returned v ∧ own_Q4 Z p0 p1 p2 h0 n0 v U'.heap L ∧ FrameEnd U o U' L ({ frames := 0, cells := 0, slots := 0, locals := 0 } : Room).cells ({ frames := 0, cells := 0, slots := 0, locals := 0 } : Room).slots) := by
  refine MetFree.of_bodySF (plainFor_of_name pn4) hisR ?_
  intro p e s m args below meth c s₁ Bd hml0 hP hK
  obtain ⟨rfl, hZ, hh⟩ := hP
  have hx := Bd.exec
  have hby := Bd.bytes
  have hml : c.maxLocals = 5 := hml0
  have hown : s.vm.findClass "com/example/dialplane/dialplane/engine/AreaContainsPinLaw" = some m.cls := findClass_of_methodNamed Bd.named
  have hnm := (name_of_methodNamed Bd.named Bd.method).1
  have X0 : Stand p l e ({ frames := 0, cells := 0, slots := 0, locals := 0 } : Room) s m #[(.int p0), (.int p1), (.int p2)] below meth c s₁ [] 0 0 := Stand.of_body Bd
  have e0 : s₁.heap = h0 := by rw [← hh, Bd.state]; rfl
  have N0 := Fr.nil n0
  show own_Go p.tables e below (fun o U' => ∃ v L, o = .returned v ∧ own_Q4 Z p0 p1 p2 h0 n0 v U'.heap L ∧ FrameEnd s o U' L ({ frames := 0, cells := 0, slots := 0, locals := 0 } : Room).cells ({ frames := 0, cells := 0, slots := 0, locals := 0 } : Room).slots) (s₁.setTop (entryFrame m #[(.int p0), (.int p1), (.int p2)] 5))
  refine own_go (fun _ k => castTop (ef4 m p0 p1 p2) k) ?_
  show own_Go p.tables e below _ (s₁.setTop (mkF m 0 #[.val (.int p0), .val (.int p1), .val (.int p2), .unset, .unset] []))
  refine own_go (fun _ k => XS.iloadN X0.here hx rfl (hb hby d4_0) rfl k) ?_
  show own_Go p.tables e below _ (s₁.setTop (mkF m 1 #[.val (.int p0), .val (.int p1), .val (.int p2), .unset, .unset] [(.int p0)]))
  refine own_go (fun _ k => XS.i2l X0.here hx rfl (hb hby d4_1) rfl k) ?_
  show own_Go p.tables e below _ (s₁.setTop (mkF m 2 #[.val (.int p0), .val (.int p1), .val (.int p2), .unset, .unset] [(.long (p0.toInt64))]))
  refine own_go (fun _ k => XS.iloadN X0.here hx rfl (hb hby d4_2) rfl k) ?_
  show own_Go p.tables e below _ (s₁.setTop (mkF m 3 #[.val (.int p0), .val (.int p1), .val (.int p2), .unset, .unset] [(.int p1), (.long (p0.toInt64))]))
  refine own_go (fun _ k => XS.i2l X0.here hx rfl (hb hby d4_3) rfl k) ?_
  show own_Go p.tables e below _ (s₁.setTop (mkF m 4 #[.val (.int p0), .val (.int p1), .val (.int p2), .unset, .unset] [(.long (p1.toInt64)), (.long (p0.toInt64))]))
  refine own_go (fun _ k => XS.lsub X0.here hx rfl (hb hby d4_4) rfl k) ?_
  show own_Go p.tables e below _ (s₁.setTop (mkF m 5 #[.val (.int p0), .val (.int p1), .val (.int p2), .unset, .unset] [(.long ((p0.toInt64) - (p1.toInt64)))]))
  refine own_go (fun _ k => XS.lstoreN X0.here hx rfl (hb hby d4_5) rfl (l' := #[.val (.int p0), .val (.int p1), .val (.int p2), .val (.long ((p0.toInt64) - (p1.toInt64))), .second]) rfl k) ?_
  show own_Go p.tables e below _ (s₁.setTop (mkF m 6 #[.val (.int p0), .val (.int p1), .val (.int p2), .val (.long ((p0.toInt64) - (p1.toInt64))), .second] []))
  refine own_go (fun _ k => XS.lloadN X0.here hx rfl (hb hby d4_6) rfl k) ?_
  show own_Go p.tables e below _ (s₁.setTop (mkF m 7 #[.val (.int p0), .val (.int p1), .val (.int p2), .val (.long ((p0.toInt64) - (p1.toInt64))), .second] [(.long ((p0.toInt64) - (p1.toInt64)))]))
  refine own_go (fun _ k => XS.lconst X0.here hx rfl (hb hby d4_7) k) ?_
  show own_Go p.tables e below _ (s₁.setTop (mkF m 8 #[.val (.int p0), .val (.int p1), .val (.int p2), .val (.long ((p0.toInt64) - (p1.toInt64))), .second] [(.long (0 : Int64)), (.long ((p0.toInt64) - (p1.toInt64)))]))
  refine own_go (fun _ k => XS.lcmp X0.here hx rfl (hb hby d4_8) rfl k) ?_
  show own_Go p.tables e below _ (s₁.setTop (mkF m 9 #[.val (.int p0), .val (.int p1), .val (.int p2), .val (.long ((p0.toInt64) - (p1.toInt64))), .second] [(.int (lcmpW ((p0.toInt64) - (p1.toInt64)) (0 : Int64)))]))
  by_cases hc9 : ((p0.toInt64) - (p1.toInt64)) < (0 : Int64)
  · refine own_go (fun _ k => XS.ifYes X0.here hx rfl (pc0 := 9) (pc' := 23) rfl (hb hby d4_9) rfl ((if0 _ _).trans (tlt ((lw_lt ((p0.toInt64) - (p1.toInt64)) (0 : Int64)).mpr hc9)).1) (by decide) (by decide) k) ?_
    show own_Go p.tables e below _ (s₁.setTop (mkF m 23 #[.val (.int p0), .val (.int p1), .val (.int p2), .val (.long ((p0.toInt64) - (p1.toInt64))), .second] []))
    refine own_go (fun _ k => XS.iconst X0.here hx rfl (hb hby d4_23) k) ?_
    show own_Go p.tables e below _ (s₁.setTop (mkF m 24 #[.val (.int p0), .val (.int p1), .val (.int p2), .val (.long ((p0.toInt64) - (p1.toInt64))), .second] [(.int (0 : Int32))]))
    refine own_end X0 Bd.notSynchronized (v := some (.int (0 : Int32))) (fun h => by rw [Bd.returns] at h; cases h) (fun fs hr => retN X0 hx (t := .boolean) Bd.returns (by simp) (hb hby d4_24) hr) ?_ (by decide) (by decide)
    exact ⟨by rw [own_f4, if_pos hc9], N0, e0⟩
  · refine own_go (fun _ k => XS.ifNo X0.here hx rfl (hb hby d4_9) rfl ((if0 _ _).trans (flt (mt (lw_lt ((p0.toInt64) - (p1.toInt64)) (0 : Int64)).mp hc9)).1) k) ?_
    show own_Go p.tables e below _ (s₁.setTop (mkF m 12 #[.val (.int p0), .val (.int p1), .val (.int p2), .val (.long ((p0.toInt64) - (p1.toInt64))), .second] []))
    refine own_go (fun _ k => XS.lloadN X0.here hx rfl (hb hby d4_12) rfl k) ?_
    show own_Go p.tables e below _ (s₁.setTop (mkF m 13 #[.val (.int p0), .val (.int p1), .val (.int p2), .val (.long ((p0.toInt64) - (p1.toInt64))), .second] [(.long ((p0.toInt64) - (p1.toInt64)))]))
    refine own_go (fun _ k => XS.iloadN X0.here hx rfl (hb hby d4_13) rfl k) ?_
    show own_Go p.tables e below _ (s₁.setTop (mkF m 14 #[.val (.int p0), .val (.int p1), .val (.int p2), .val (.long ((p0.toInt64) - (p1.toInt64))), .second] [(.int p2), (.long ((p0.toInt64) - (p1.toInt64)))]))
    refine own_go (fun _ k => XS.i2l X0.here hx rfl (hb hby d4_14) rfl k) ?_
    show own_Go p.tables e below _ (s₁.setTop (mkF m 15 #[.val (.int p0), .val (.int p1), .val (.int p2), .val (.long ((p0.toInt64) - (p1.toInt64))), .second] [(.long (p2.toInt64)), (.long ((p0.toInt64) - (p1.toInt64)))]))
    refine own_go (fun _ k => XS.lcmp X0.here hx rfl (hb hby d4_15) rfl k) ?_
    show own_Go p.tables e below _ (s₁.setTop (mkF m 16 #[.val (.int p0), .val (.int p1), .val (.int p2), .val (.long ((p0.toInt64) - (p1.toInt64))), .second] [(.int (lcmpW ((p0.toInt64) - (p1.toInt64)) (p2.toInt64)))]))
    by_cases hc16 : ((p0.toInt64) - (p1.toInt64)) < (p2.toInt64)
    · refine own_go (fun _ k => XS.ifNo X0.here hx rfl (hb hby d4_16) rfl ((if0 _ _).trans (tlt ((lw_lt ((p0.toInt64) - (p1.toInt64)) (p2.toInt64)).mpr hc16)).2.1) k) ?_
      show own_Go p.tables e below _ (s₁.setTop (mkF m 19 #[.val (.int p0), .val (.int p1), .val (.int p2), .val (.long ((p0.toInt64) - (p1.toInt64))), .second] []))
      refine own_go (fun _ k => XS.iconst X0.here hx rfl (hb hby d4_19) k) ?_
      show own_Go p.tables e below _ (s₁.setTop (mkF m 20 #[.val (.int p0), .val (.int p1), .val (.int p2), .val (.long ((p0.toInt64) - (p1.toInt64))), .second] [(.int (1 : Int32))]))
      refine own_go (fun _ k => XS.goto X0.here hx rfl (pc0 := 20) (pc' := 24) rfl (hb hby d4_20) (by decide) (by decide) k) ?_
      show own_Go p.tables e below _ (s₁.setTop (mkF m 24 #[.val (.int p0), .val (.int p1), .val (.int p2), .val (.long ((p0.toInt64) - (p1.toInt64))), .second] [(.int (1 : Int32))]))
      refine own_end X0 Bd.notSynchronized (v := some (.int (1 : Int32))) (fun h => by rw [Bd.returns] at h; cases h) (fun fs hr => retN X0 hx (t := .boolean) Bd.returns (by simp) (hb hby d4_24) hr) ?_ (by decide) (by decide)
      exact ⟨by rw [own_f4, if_neg hc9, if_pos hc16], N0, e0⟩
    · refine own_go (fun _ k => XS.ifYes X0.here hx rfl (pc0 := 16) (pc' := 23) rfl (hb hby d4_16) rfl ((if0 _ _).trans (flt (mt (lw_lt ((p0.toInt64) - (p1.toInt64)) (p2.toInt64)).mp hc16)).2.1) (by decide) (by decide) k) ?_
      show own_Go p.tables e below _ (s₁.setTop (mkF m 23 #[.val (.int p0), .val (.int p1), .val (.int p2), .val (.long ((p0.toInt64) - (p1.toInt64))), .second] []))
      refine own_go (fun _ k => XS.iconst X0.here hx rfl (hb hby d4_23) k) ?_
      show own_Go p.tables e below _ (s₁.setTop (mkF m 24 #[.val (.int p0), .val (.int p1), .val (.int p2), .val (.long ((p0.toInt64) - (p1.toInt64))), .second] [(.int (0 : Int32))]))
      refine own_end X0 Bd.notSynchronized (v := some (.int (0 : Int32))) (fun h => by rw [Bd.returns] at h; cases h) (fun fs hr => retN X0 hx (t := .boolean) Bd.returns (by simp) (hb hby d4_24) hr) ?_ (by decide) (by decide)
      exact ⟨by rw [own_f4, if_neg hc9, if_neg hc16], N0, e0⟩
def own_f5 (p1 : Int32) (p2 : Int32) (wx : Int32) (wy : Int32) (ww : Int32) (wh : Int32) : Int32 :=
  (if p1 < wx then (0 : Int32) else (if p1 < (wx + ww) then (if p2 < wy then (0 : Int32) else (if p2 < (wy + wh) then (1 : Int32) else (0 : Int32))) else (0 : Int32)))
theorem d5_0 : decode prog_5_method_2_code 0 = .ok (.iload_n 1, 1) := by decide +kernel
theorem d5_1 : decode prog_5_method_2_code 1 = .ok (.aload_n 0, 1) := by decide +kernel
theorem d5_2 : decode prog_5_method_2_code 2 = .ok (.getfield 33, 3) := by decide +kernel
theorem d5_5 : decode prog_5_method_2_code 5 = .ok (.if_icmp .lt 41, 3) := by decide +kernel
theorem d5_8 : decode prog_5_method_2_code 8 = .ok (.iload_n 1, 1) := by decide +kernel
theorem d5_9 : decode prog_5_method_2_code 9 = .ok (.aload_n 0, 1) := by decide +kernel
theorem d5_10 : decode prog_5_method_2_code 10 = .ok (.getfield 33, 3) := by decide +kernel
theorem d5_13 : decode prog_5_method_2_code 13 = .ok (.aload_n 0, 1) := by decide +kernel
theorem d5_14 : decode prog_5_method_2_code 14 = .ok (.getfield 40, 3) := by decide +kernel
theorem d5_17 : decode prog_5_method_2_code 17 = .ok (.iadd, 1) := by decide +kernel
theorem d5_18 : decode prog_5_method_2_code 18 = .ok (.if_icmp .ge 28, 3) := by decide +kernel
theorem d5_21 : decode prog_5_method_2_code 21 = .ok (.iload_n 2, 1) := by decide +kernel
theorem d5_22 : decode prog_5_method_2_code 22 = .ok (.aload_n 0, 1) := by decide +kernel
theorem d5_23 : decode prog_5_method_2_code 23 = .ok (.getfield 37, 3) := by decide +kernel
theorem d5_26 : decode prog_5_method_2_code 26 = .ok (.if_icmp .lt 20, 3) := by decide +kernel
theorem d5_29 : decode prog_5_method_2_code 29 = .ok (.iload_n 2, 1) := by decide +kernel
theorem d5_30 : decode prog_5_method_2_code 30 = .ok (.aload_n 0, 1) := by decide +kernel
theorem d5_31 : decode prog_5_method_2_code 31 = .ok (.getfield 37, 3) := by decide +kernel
theorem d5_34 : decode prog_5_method_2_code 34 = .ok (.aload_n 0, 1) := by decide +kernel
theorem d5_35 : decode prog_5_method_2_code 35 = .ok (.getfield 43, 3) := by decide +kernel
theorem d5_38 : decode prog_5_method_2_code 38 = .ok (.iadd, 1) := by decide +kernel
theorem d5_39 : decode prog_5_method_2_code 39 = .ok (.if_icmp .ge 7, 3) := by decide +kernel
theorem d5_42 : decode prog_5_method_2_code 42 = .ok (.iconst 1, 1) := by decide +kernel
theorem d5_43 : decode prog_5_method_2_code 43 = .ok (.goto 4, 3) := by decide +kernel
theorem d5_46 : decode prog_5_method_2_code 46 = .ok (.iconst 0, 1) := by decide +kernel
theorem d5_47 : decode prog_5_method_2_code 47 = .ok (.ireturn, 1) := by decide +kernel
theorem pn5 : plainName "com/example/dialplane/dialplane/engine/Area" = true := by first | (simp [plainName, overriddenIn]; done) | decide +kernel
theorem ef5 (m : MethodId) (a0 : Addr) (p1 : Int32) (p2 : Int32) : entryFrame m #[(.ref a0), (.int p1), (.int p2)] 3 = mkF m 0 #[.val (.ref a0), .val (.int p1), .val (.int p2)] [] := by first | (simp [entryFrame, mkF, argsToLocals, Value.category]; done) | rfl
def own_Q5 (Z : State) (a0 : Addr) (p1 : Int32) (p2 : Int32) (wx : Int32) (wy : Int32) (ww : Int32) (wh : Int32) (h0 : Heap) (n0 : Nat) (v : Option Value) (h : Heap) (L : List Loc) : Prop := v = some (.int (own_f5 p1 p2 wx wy ww wh)) ∧ Fr n0 L ∧ h = h0
set_option maxRecDepth 65536 in
set_option maxHeartbeats 40000000 in
theorem rm5 (l : Launch) (Z : State) (az : Array Value) (hw : ∀ d ∈ tables_1, d.before az Z = true) (ws : List Jvm.Cond) (a0 : Addr) (p1 : Int32) (p2 : Int32) (wx : Int32) (wy : Int32) (ww : Int32) (wh : Int32) (h0 : Heap) (n0 : Nat) (Z0 : n0 ≤ h0.size) (F_a0_x : Fld Z h0 a0 "com/example/dialplane/dialplane/engine/Area" "x" "I" (.int wx)) (F_a0_y : Fld Z h0 a0 "com/example/dialplane/dialplane/engine/Area" "y" "I" (.int wy)) (F_a0_width : Fld Z h0 a0 "com/example/dialplane/dialplane/engine/Area" "width" "I" (.int ww)) (F_a0_height : Fld Z h0 a0 "com/example/dialplane/dialplane/engine/Area" "height" "I" (.int wh)) :
    MetFree l (⟨"com/example/dialplane/dialplane/engine/Area", "contains", "(II)Z"⟩ : MethodName) (head1 (Jvm.Cond.code (⟨"com/example/dialplane/dialplane/engine/Area", "contains", "(II)Z"⟩ : MethodName) prog_5_method_2_code 3 (some .boolean) :: ws) ({ frames := 0, cells := 0, slots := 0, locals := 0 } : Room)) (fun a U => a = #[(.ref a0), (.int p1), (.int p2)] ∧ Z.Warmed39 U.vm ∧ U.heap = h0) (fun _ _ _ _ _ => True) (fun _ U o U' => ∃ v L, o = .returned v ∧ own_Q5 Z a0 p1 p2 wx wy ww wh h0 n0 v U'.heap L ∧ FrameEnd U o U' L ({ frames := 0, cells := 0, slots := 0, locals := 0 } : Room).cells ({ frames := 0, cells := 0, slots := 0, locals := 0 } : Room).slots) := by
  refine MetFree.of_bodySF (plainFor_of_name pn5) hisR ?_
  intro p e s m args below meth c s₁ Bd hml0 hP hK
  obtain ⟨rfl, hZ, hh⟩ := hP
  have hx := Bd.exec
  have hby := Bd.bytes
  have hml : c.maxLocals = 3 := hml0
  have hown : s.vm.findClass "com/example/dialplane/dialplane/engine/Area" = some m.cls := findClass_of_methodNamed Bd.named
  have hnm := (name_of_methodNamed Bd.named Bd.method).1
  have X0 : Stand p l e ({ frames := 0, cells := 0, slots := 0, locals := 0 } : Room) s m #[(.ref a0), (.int p1), (.int p2)] below meth c s₁ [] 0 0 := Stand.of_body Bd
  have e0 : s₁.heap = h0 := by rw [← hh, Bd.state]; rfl
  have N0 := Fr.nil n0
  show own_Go p.tables e below (fun o U' => ∃ v L, o = .returned v ∧ own_Q5 Z a0 p1 p2 wx wy ww wh h0 n0 v U'.heap L ∧ FrameEnd s o U' L ({ frames := 0, cells := 0, slots := 0, locals := 0 } : Room).cells ({ frames := 0, cells := 0, slots := 0, locals := 0 } : Room).slots) (s₁.setTop (entryFrame m #[(.ref a0), (.int p1), (.int p2)] 3))
  refine own_go (fun _ k => castTop (ef5 m a0 p1 p2) k) ?_
  show own_Go p.tables e below _ (s₁.setTop (mkF m 0 #[.val (.ref a0), .val (.int p1), .val (.int p2)] []))
  refine own_go (fun _ k => XS.iloadN X0.here hx rfl (hb hby d5_0) rfl k) ?_
  show own_Go p.tables e below _ (s₁.setTop (mkF m 1 #[.val (.ref a0), .val (.int p1), .val (.int p2)] [(.int p1)]))
  refine own_go (fun _ k => XS.aloadN X0.here hx rfl (hb hby d5_1) rfl rfl k) ?_
  show own_Go p.tables e below _ (s₁.setTop (mkF m 2 #[.val (.ref a0), .val (.int p1), .val (.int p2)] [(.ref a0), (.int p1)]))
  obtain ⟨T1, X1, e1, st1⟩ := getF X0 hx hZ hown (host := "") (Or.inl (hw _ (List.mem_of_getElem? (i := 31) rfl))) Via.refl e0 F_a0_x (g := (mkF m 2 #[.val (.ref a0), .val (.int p1), .val (.int p2)] [(.ref a0), (.int p1)])) rfl rfl (hb hby d5_2)
  refine own_go st1 ?_
  show own_Go p.tables e below _ (T1.setTop (mkF m 5 #[.val (.ref a0), .val (.int p1), .val (.int p2)] [(.int wx), (.int p1)]))
  by_cases hc5 : p1 < wx
  · refine own_go (fun _ k => XS.icmpYes X1.here hx rfl (pc0 := 5) (pc' := 46) rfl (hb hby d5_5) rfl (tlt hc5).1 (by decide) (by decide) k) ?_
    show own_Go p.tables e below _ (T1.setTop (mkF m 46 #[.val (.ref a0), .val (.int p1), .val (.int p2)] []))
    refine own_go (fun _ k => XS.iconst X1.here hx rfl (hb hby d5_46) k) ?_
    show own_Go p.tables e below _ (T1.setTop (mkF m 47 #[.val (.ref a0), .val (.int p1), .val (.int p2)] [(.int (0 : Int32))]))
    refine own_end X1 Bd.notSynchronized (v := some (.int (0 : Int32))) (fun h => by rw [Bd.returns] at h; cases h) (fun fs hr => retN X1 hx (t := .boolean) Bd.returns (by simp) (hb hby d5_47) hr) ?_ (by decide) (by decide)
    exact ⟨by rw [own_f5, if_pos hc5], N0, e1⟩
  · refine own_go (fun _ k => XS.icmpNo X1.here hx rfl (hb hby d5_5) rfl (flt hc5).1 k) ?_
    show own_Go p.tables e below _ (T1.setTop (mkF m 8 #[.val (.ref a0), .val (.int p1), .val (.int p2)] []))
    refine own_go (fun _ k => XS.iloadN X1.here hx rfl (hb hby d5_8) rfl k) ?_
    show own_Go p.tables e below _ (T1.setTop (mkF m 9 #[.val (.ref a0), .val (.int p1), .val (.int p2)] [(.int p1)]))
    refine own_go (fun _ k => XS.aloadN X1.here hx rfl (hb hby d5_9) rfl rfl k) ?_
    show own_Go p.tables e below _ (T1.setTop (mkF m 10 #[.val (.ref a0), .val (.int p1), .val (.int p2)] [(.ref a0), (.int p1)]))
    obtain ⟨T2, X2, e2, st2⟩ := getF X1 hx hZ hown (host := "") (Or.inl (hw _ (List.mem_of_getElem? (i := 31) rfl))) Via.refl e1 F_a0_x (g := (mkF m 10 #[.val (.ref a0), .val (.int p1), .val (.int p2)] [(.ref a0), (.int p1)])) rfl rfl (hb hby d5_10)
    refine own_go st2 ?_
    show own_Go p.tables e below _ (T2.setTop (mkF m 13 #[.val (.ref a0), .val (.int p1), .val (.int p2)] [(.int wx), (.int p1)]))
    refine own_go (fun _ k => XS.aloadN X2.here hx rfl (hb hby d5_13) rfl rfl k) ?_
    show own_Go p.tables e below _ (T2.setTop (mkF m 14 #[.val (.ref a0), .val (.int p1), .val (.int p2)] [(.ref a0), (.int wx), (.int p1)]))
    obtain ⟨T3, X3, e3, st3⟩ := getF X2 hx hZ hown (host := "") (Or.inl (hw _ (List.mem_of_getElem? (i := 35) rfl))) Via.refl e2 F_a0_width (g := (mkF m 14 #[.val (.ref a0), .val (.int p1), .val (.int p2)] [(.ref a0), (.int wx), (.int p1)])) rfl rfl (hb hby d5_14)
    refine own_go st3 ?_
    show own_Go p.tables e below _ (T3.setTop (mkF m 17 #[.val (.ref a0), .val (.int p1), .val (.int p2)] [(.int ww), (.int wx), (.int p1)]))
    refine own_go (fun _ k => XS.iadd X3.here hx rfl (hb hby d5_17) rfl k) ?_
    show own_Go p.tables e below _ (T3.setTop (mkF m 18 #[.val (.ref a0), .val (.int p1), .val (.int p2)] [(.int (wx + ww)), (.int p1)]))
    by_cases hc18 : p1 < (wx + ww)
    · refine own_go (fun _ k => XS.icmpNo X3.here hx rfl (hb hby d5_18) rfl (tlt hc18).2.1 k) ?_
      show own_Go p.tables e below _ (T3.setTop (mkF m 21 #[.val (.ref a0), .val (.int p1), .val (.int p2)] []))
      refine own_go (fun _ k => XS.iloadN X3.here hx rfl (hb hby d5_21) rfl k) ?_
      show own_Go p.tables e below _ (T3.setTop (mkF m 22 #[.val (.ref a0), .val (.int p1), .val (.int p2)] [(.int p2)]))
      refine own_go (fun _ k => XS.aloadN X3.here hx rfl (hb hby d5_22) rfl rfl k) ?_
      show own_Go p.tables e below _ (T3.setTop (mkF m 23 #[.val (.ref a0), .val (.int p1), .val (.int p2)] [(.ref a0), (.int p2)]))
      obtain ⟨T4, X4, e4, st4⟩ := getF X3 hx hZ hown (host := "") (Or.inl (hw _ (List.mem_of_getElem? (i := 33) rfl))) Via.refl e3 F_a0_y (g := (mkF m 23 #[.val (.ref a0), .val (.int p1), .val (.int p2)] [(.ref a0), (.int p2)])) rfl rfl (hb hby d5_23)
      refine own_go st4 ?_
      show own_Go p.tables e below _ (T4.setTop (mkF m 26 #[.val (.ref a0), .val (.int p1), .val (.int p2)] [(.int wy), (.int p2)]))
      by_cases hc26 : p2 < wy
      · refine own_go (fun _ k => XS.icmpYes X4.here hx rfl (pc0 := 26) (pc' := 46) rfl (hb hby d5_26) rfl (tlt hc26).1 (by decide) (by decide) k) ?_
        show own_Go p.tables e below _ (T4.setTop (mkF m 46 #[.val (.ref a0), .val (.int p1), .val (.int p2)] []))
        refine own_go (fun _ k => XS.iconst X4.here hx rfl (hb hby d5_46) k) ?_
        show own_Go p.tables e below _ (T4.setTop (mkF m 47 #[.val (.ref a0), .val (.int p1), .val (.int p2)] [(.int (0 : Int32))]))
        refine own_end X4 Bd.notSynchronized (v := some (.int (0 : Int32))) (fun h => by rw [Bd.returns] at h; cases h) (fun fs hr => retN X4 hx (t := .boolean) Bd.returns (by simp) (hb hby d5_47) hr) ?_ (by decide) (by decide)
        exact ⟨by rw [own_f5, if_neg hc5, if_pos hc18, if_pos hc26], N0, e4⟩
      · refine own_go (fun _ k => XS.icmpNo X4.here hx rfl (hb hby d5_26) rfl (flt hc26).1 k) ?_
        show own_Go p.tables e below _ (T4.setTop (mkF m 29 #[.val (.ref a0), .val (.int p1), .val (.int p2)] []))
        refine own_go (fun _ k => XS.iloadN X4.here hx rfl (hb hby d5_29) rfl k) ?_
        show own_Go p.tables e below _ (T4.setTop (mkF m 30 #[.val (.ref a0), .val (.int p1), .val (.int p2)] [(.int p2)]))
        refine own_go (fun _ k => XS.aloadN X4.here hx rfl (hb hby d5_30) rfl rfl k) ?_
        show own_Go p.tables e below _ (T4.setTop (mkF m 31 #[.val (.ref a0), .val (.int p1), .val (.int p2)] [(.ref a0), (.int p2)]))
        obtain ⟨T5, X5, e5, st5⟩ := getF X4 hx hZ hown (host := "") (Or.inl (hw _ (List.mem_of_getElem? (i := 33) rfl))) Via.refl e4 F_a0_y (g := (mkF m 31 #[.val (.ref a0), .val (.int p1), .val (.int p2)] [(.ref a0), (.int p2)])) rfl rfl (hb hby d5_31)
        refine own_go st5 ?_
        show own_Go p.tables e below _ (T5.setTop (mkF m 34 #[.val (.ref a0), .val (.int p1), .val (.int p2)] [(.int wy), (.int p2)]))
        refine own_go (fun _ k => XS.aloadN X5.here hx rfl (hb hby d5_34) rfl rfl k) ?_
        show own_Go p.tables e below _ (T5.setTop (mkF m 35 #[.val (.ref a0), .val (.int p1), .val (.int p2)] [(.ref a0), (.int wy), (.int p2)]))
        obtain ⟨T6, X6, e6, st6⟩ := getF X5 hx hZ hown (host := "") (Or.inl (hw _ (List.mem_of_getElem? (i := 37) rfl))) Via.refl e5 F_a0_height (g := (mkF m 35 #[.val (.ref a0), .val (.int p1), .val (.int p2)] [(.ref a0), (.int wy), (.int p2)])) rfl rfl (hb hby d5_35)
        refine own_go st6 ?_
        show own_Go p.tables e below _ (T6.setTop (mkF m 38 #[.val (.ref a0), .val (.int p1), .val (.int p2)] [(.int wh), (.int wy), (.int p2)]))
        refine own_go (fun _ k => XS.iadd X6.here hx rfl (hb hby d5_38) rfl k) ?_
        show own_Go p.tables e below _ (T6.setTop (mkF m 39 #[.val (.ref a0), .val (.int p1), .val (.int p2)] [(.int (wy + wh)), (.int p2)]))
        by_cases hc39 : p2 < (wy + wh)
        · refine own_go (fun _ k => XS.icmpNo X6.here hx rfl (hb hby d5_39) rfl (tlt hc39).2.1 k) ?_
          show own_Go p.tables e below _ (T6.setTop (mkF m 42 #[.val (.ref a0), .val (.int p1), .val (.int p2)] []))
          refine own_go (fun _ k => XS.iconst X6.here hx rfl (hb hby d5_42) k) ?_
          show own_Go p.tables e below _ (T6.setTop (mkF m 43 #[.val (.ref a0), .val (.int p1), .val (.int p2)] [(.int (1 : Int32))]))
          refine own_go (fun _ k => XS.goto X6.here hx rfl (pc0 := 43) (pc' := 47) rfl (hb hby d5_43) (by decide) (by decide) k) ?_
          show own_Go p.tables e below _ (T6.setTop (mkF m 47 #[.val (.ref a0), .val (.int p1), .val (.int p2)] [(.int (1 : Int32))]))
          refine own_end X6 Bd.notSynchronized (v := some (.int (1 : Int32))) (fun h => by rw [Bd.returns] at h; cases h) (fun fs hr => retN X6 hx (t := .boolean) Bd.returns (by simp) (hb hby d5_47) hr) ?_ (by decide) (by decide)
          exact ⟨by rw [own_f5, if_neg hc5, if_pos hc18, if_neg hc26, if_pos hc39], N0, e6⟩
        · refine own_go (fun _ k => XS.icmpYes X6.here hx rfl (pc0 := 39) (pc' := 46) rfl (hb hby d5_39) rfl (flt hc39).2.1 (by decide) (by decide) k) ?_
          show own_Go p.tables e below _ (T6.setTop (mkF m 46 #[.val (.ref a0), .val (.int p1), .val (.int p2)] []))
          refine own_go (fun _ k => XS.iconst X6.here hx rfl (hb hby d5_46) k) ?_
          show own_Go p.tables e below _ (T6.setTop (mkF m 47 #[.val (.ref a0), .val (.int p1), .val (.int p2)] [(.int (0 : Int32))]))
          refine own_end X6 Bd.notSynchronized (v := some (.int (0 : Int32))) (fun h => by rw [Bd.returns] at h; cases h) (fun fs hr => retN X6 hx (t := .boolean) Bd.returns (by simp) (hb hby d5_47) hr) ?_ (by decide) (by decide)
          exact ⟨by rw [own_f5, if_neg hc5, if_pos hc18, if_neg hc26, if_neg hc39], N0, e6⟩
    · refine own_go (fun _ k => XS.icmpYes X3.here hx rfl (pc0 := 18) (pc' := 46) rfl (hb hby d5_18) rfl (flt hc18).2.1 (by decide) (by decide) k) ?_
      show own_Go p.tables e below _ (T3.setTop (mkF m 46 #[.val (.ref a0), .val (.int p1), .val (.int p2)] []))
      refine own_go (fun _ k => XS.iconst X3.here hx rfl (hb hby d5_46) k) ?_
      show own_Go p.tables e below _ (T3.setTop (mkF m 47 #[.val (.ref a0), .val (.int p1), .val (.int p2)] [(.int (0 : Int32))]))
      refine own_end X3 Bd.notSynchronized (v := some (.int (0 : Int32))) (fun h => by rw [Bd.returns] at h; cases h) (fun fs hr => retN X3 hx (t := .boolean) Bd.returns (by simp) (hb hby d5_47) hr) ?_ (by decide) (by decide)
      exact ⟨by rw [own_f5, if_neg hc5, if_neg hc18], N0, e3⟩
theorem own_k : (0 : Int32).toInt = 0 ∧ (1 : Int32).toInt = 1 ∧ (2147483647 : Int32).toInt = 2147483647 ∧ (0 : Int64).toInt = 0 := by decide
theorem own_x {p x : Int32} (h : x = ((p &&& 2147483647) - ((p &&& 2147483647) / 2147483647) * 2147483647)) : 0 ≤ x.toInt ∧ x.toInt < 2147483647 := by
  have e1 := c_mask p 2147483647 31 (by decide) (by decide)
  have e2 := c_irem (p &&& 2147483647) 2147483647 2147483647 (by decide)
  rw [← irem_eq_mod, ← h] at e2
  have r := rng32 p
  omega
theorem own_nz {x : Int32} (h : 0 ≤ x.toInt ∧ x.toInt < 2147483647) : ((2147483647 : Int32) - x).toInt = 2147483647 - x.toInt ∧ ((2147483647 : Int32) - x) ≠ 0 := by
  obtain ⟨k0, k1, k2, -⟩ := own_k
  have e := c_isub 2147483647 x
  have r := rng32 (2147483647 - x)
  have q : ((2147483647 : Int32) - x).toInt = 2147483647 - x.toInt := by omega
  refine ⟨q, fun z => ?_⟩
  rw [z, k0] at q; omega
theorem own_w {p x w : Int32} (hx : 0 ≤ x.toInt ∧ x.toInt < 2147483647) (h : w = ((p &&& 2147483647) - ((p &&& 2147483647) / ((2147483647 : Int32) - x)) * ((2147483647 : Int32) - x)) + 1) : 1 ≤ w.toInt ∧ w.toInt ≤ 2147483647 - x.toInt := by
  obtain ⟨k0, k1, k2, -⟩ := own_k
  have e0 := own_nz hx
  have e1 := c_mask p 2147483647 31 (by decide) (by decide)
  have e2 := c_iremV (p &&& 2147483647) ((2147483647 : Int32) - x)
  rw [← irem_eq_mod] at e2
  obtain ⟨z, hz⟩ : ∃ z, z = ((p &&& 2147483647) - ((p &&& 2147483647) / ((2147483647 : Int32) - x)) * ((2147483647 : Int32) - x)) := ⟨_, rfl⟩
  rw [← hz] at e2 h
  have e3 := c_iadd z 1
  rw [← h] at e3
  have r := rng32 w
  have r2 := rng32 p
  have e4 := e2.1 (by omega) (by omega)
  omega
theorem own_g {x w : Int32} (hx : 0 ≤ x.toInt ∧ x.toInt < 2147483647) (hw : 1 ≤ w.toInt ∧ w.toInt ≤ 2147483647 - x.toInt) : ¬ (x < (0 : Int32)) ∧ ¬ (w < (1 : Int32)) ∧ ¬ (((2147483647 : Int32) - x) < w) := by
  obtain ⟨k0, k1, k2, -⟩ := own_k
  have e0 := own_nz hx
  simp only [Int32.lt_iff_toInt_lt, k0, k1]
  omega
theorem own_f {p x w : Int32} (hx : 0 ≤ x.toInt ∧ x.toInt < 2147483647) (hw : 1 ≤ w.toInt ∧ w.toInt ≤ 2147483647 - x.toInt) : (own_f4 p x w = 0 ↔ (p < x ∨ ¬ (p < x + w))) := by
  obtain ⟨k0, k1, k2, k3⟩ := own_k
  have e1 := c_i2l p
  have e2 := c_i2l x
  have e3 := c_i2l w
  have e4 := c_lsub p.toInt64 x.toInt64
  have r4 := rng64 (p.toInt64 - x.toInt64)
  have r1 := rng32 p
  have e5 := c_iadd x w
  have r5 := rng32 (x + w)
  simp only [own_f4, Int64.lt_iff_toInt_lt, Int32.lt_iff_toInt_lt, k3]
  have q : (p.toInt64 - x.toInt64).toInt = p.toInt - x.toInt := by omega
  rw [q, e3]
  by_cases h1 : p.toInt - x.toInt < 0
  · rw [if_pos h1]; exact ⟨fun _ => by omega, fun _ => rfl⟩
  · rw [if_neg h1]
    by_cases h2 : p.toInt - x.toInt < w.toInt
    · rw [if_pos h2]; exact ⟨fun z => absurd z (by decide), fun z => by omega⟩
    · rw [if_neg h2]; exact ⟨fun _ => by omega, fun _ => rfl⟩
theorem own_val {p q x y w h : Int32} (hx : 0 ≤ x.toInt ∧ x.toInt < 2147483647) (hw : 1 ≤ w.toInt ∧ w.toInt ≤ 2147483647 - x.toInt) (hy : 0 ≤ y.toInt ∧ y.toInt < 2147483647) (hh : 1 ≤ h.toInt ∧ h.toInt ≤ 2147483647 - y.toInt) :
    own_f5 p q x y w h = if own_f4 p x w = 0 then 0 else if own_f4 q y h = 0 then 0 else 1 := by
  simp only [own_f hx hw, own_f hy hh, own_f5]
  by_cases h1 : p < x <;> by_cases h2 : p < x + w <;> by_cases h3 : q < y <;> by_cases h4 : q < y + h <;> simp [h1, h2, h3, h4]
theorem pn0 : plainName "com/example/dialplane/dialplane/engine/AreaContainsPinLaw" = true := by first | (simp [plainName, overriddenIn]; done) | decide +kernel
theorem pd0_0 : parseMethodDescriptor "(Ljava/lang/String;IIII)V" = some ⟨[(.object "java/lang/String"), .int, .int, .int, .int], none⟩ := by decide +kernel
theorem pd0_1 : parseMethodDescriptor "(III)Z" = some ⟨[.int, .int, .int], some .boolean⟩ := by decide +kernel
theorem pd0_2 : parseMethodDescriptor "(II)Z" = some ⟨[.int, .int], some .boolean⟩ := by decide +kernel
theorem ef0 (m : MethodId) (p0 : Int32) (p1 : Int32) (p2 : Int32) (p3 : Int32) (p4 : Int32) (p5 : Int32) : entryFrame m #[(.int p0), (.int p1), (.int p2), (.int p3), (.int p4), (.int p5)] maxLocals = mkF m 0 #[.val (.int p0), .val (.int p1), .val (.int p2), .val (.int p3), .val (.int p4), .val (.int p5), .unset, .unset, .unset, .unset, .unset, .unset] [] := by first | (simp [entryFrame, mkF, argsToLocals, Value.category, maxLocals]; done) | rfl
def own_Q0 (Z : State) (p0 : Int32) (p1 : Int32) (p2 : Int32) (p3 : Int32) (p4 : Int32) (p5 : Int32) (h0 : Heap) (n0 : Nat) (v : Option Value) (h : Heap) (L : List Loc) : Prop := v = some (.int 1) ∧ Fr n0 L
set_option maxRecDepth 65536 in
set_option maxHeartbeats 40000000 in
theorem rm0 (l : Launch) (Z : State) (az : Array Value) (hw : ∀ d ∈ tables_1, d.before az Z = true) (ws : List Jvm.Cond) (p0 : Int32) (p1 : Int32) (p2 : Int32) (p3 : Int32) (p4 : Int32) (p5 : Int32) (h0 : Heap) (n0 : Nat) (Z0 : n0 ≤ h0.size) :
    MetFree l x (head1 (Jvm.Cond.code x code maxLocals ret :: ws) room_1) (fun a U => a = #[(.int p0), (.int p1), (.int p2), (.int p3), (.int p4), (.int p5)] ∧ Z.Warmed39 U.vm ∧ U.heap = h0) (fun _ _ _ _ _ => True) (fun _ U o U' => ∃ v L, o = .returned v ∧ own_Q0 Z p0 p1 p2 p3 p4 p5 h0 n0 v U'.heap L ∧ ReturnedEndW U o U' L 16 2176) := by
  refine MetFree.of_bodySF (plainFor_of_name pn0) hisR ?_
  intro p e s m args below meth c s₁ Bd hml0 hP hK
  obtain ⟨rfl, hZ, hh⟩ := hP
  have hx := Bd.exec
  have hby := Bd.bytes
  have hml : c.maxLocals = 12 := hml0
  have hZ : Z.Warmed39 (s.setVm s.vm).vm := hZ
  have hown : (s.setVm s.vm).vm.findClass "com/example/dialplane/dialplane/engine/AreaContainsPinLaw" = some m.cls := findClass_of_methodNamed Bd.named
  have hnm := (name_of_methodNamed Bd.named Bd.method).1
  have X0 : Stand p l e room_1 (s.setVm s.vm) m #[(.int p0), (.int p1), (.int p2), (.int p3), (.int p4), (.int p5)] below meth c s₁ [] 0 0 := by rw [State.setVm_self]; exact Stand.of_body Bd
  have e0 : s₁.heap = h0 := by rw [← hh, Bd.state]; rfl
  have N0 := Fr.nil n0
  have hS : s.Since s.vm h0.size := (State.WarmedH.refl s).since _
  have hk : h0.size ≤ h0.size := Nat.le_refl _
  show own_Go p.tables e below (fun o U' => ∃ v L, o = .returned v ∧ own_Q0 Z p0 p1 p2 p3 p4 p5 h0 n0 v U'.heap L ∧ ReturnedEndW s o U' L 16 2176) (s₁.setTop (entryFrame m #[(.int p0), (.int p1), (.int p2), (.int p3), (.int p4), (.int p5)] maxLocals))
  refine own_go (fun _ k => castTop (ef0 m p0 p1 p2 p3 p4 p5) k) ?_
  show own_Go p.tables e below _ (s₁.setTop (mkF m 0 #[.val (.int p0), .val (.int p1), .val (.int p2), .val (.int p3), .val (.int p4), .val (.int p5), .unset, .unset, .unset, .unset, .unset, .unset] []))
  refine own_go (fun _ k => XS.iloadN X0.here hx rfl (hb hby at_0) rfl k) ?_
  show own_Go p.tables e below _ (s₁.setTop (mkF m 1 #[.val (.int p0), .val (.int p1), .val (.int p2), .val (.int p3), .val (.int p4), .val (.int p5), .unset, .unset, .unset, .unset, .unset, .unset] [(.int p0)]))
  refine own_go (fun _ k => X0.ldcInt hx hown (mvT hZ (hw _ (List.mem_of_getElem? (i := 0) rfl))) (g := (mkF m 1 #[.val (.int p0), .val (.int p1), .val (.int p2), .val (.int p3), .val (.int p4), .val (.int p5), .unset, .unset, .unset, .unset, .unset, .unset] [(.int p0)])) rfl (hb hby at_1) _ k) ?_
  show own_Go p.tables e below _ (s₁.setTop (mkF m 3 #[.val (.int p0), .val (.int p1), .val (.int p2), .val (.int p3), .val (.int p4), .val (.int p5), .unset, .unset, .unset, .unset, .unset, .unset] [(.int (2147483647 : Int32)), (.int p0)]))
  refine own_go (fun _ k => XS.iand X0.here hx rfl (hb hby at_3) rfl k) ?_
  show own_Go p.tables e below _ (s₁.setTop (mkF m 4 #[.val (.int p0), .val (.int p1), .val (.int p2), .val (.int p3), .val (.int p4), .val (.int p5), .unset, .unset, .unset, .unset, .unset, .unset] [(.int (p0 &&& (2147483647 : Int32)))]))
  refine own_go (fun _ k => X0.ldcInt hx hown (mvT hZ (hw _ (List.mem_of_getElem? (i := 0) rfl))) (g := (mkF m 4 #[.val (.int p0), .val (.int p1), .val (.int p2), .val (.int p3), .val (.int p4), .val (.int p5), .unset, .unset, .unset, .unset, .unset, .unset] [(.int (p0 &&& (2147483647 : Int32)))])) rfl (hb hby at_4) _ k) ?_
  show own_Go p.tables e below _ (s₁.setTop (mkF m 6 #[.val (.int p0), .val (.int p1), .val (.int p2), .val (.int p3), .val (.int p4), .val (.int p5), .unset, .unset, .unset, .unset, .unset, .unset] [(.int (2147483647 : Int32)), (.int (p0 &&& (2147483647 : Int32)))]))
  refine own_go (fun _ k => XS.irem X0.here hx rfl (hb hby at_6) rfl (by decide) k) ?_
  show own_Go p.tables e below _ (s₁.setTop (mkF m 7 #[.val (.int p0), .val (.int p1), .val (.int p2), .val (.int p3), .val (.int p4), .val (.int p5), .unset, .unset, .unset, .unset, .unset, .unset] [(.int ((p0 &&& (2147483647 : Int32)) - ((p0 &&& (2147483647 : Int32)) / (2147483647 : Int32)) * (2147483647 : Int32)))]))
  refine own_go (fun _ k => XS.istore X0.here hx rfl (hb hby at_7) rfl (l' := #[.val (.int p0), .val (.int p1), .val (.int p2), .val (.int p3), .val (.int p4), .val (.int p5), .val (.int ((p0 &&& (2147483647 : Int32)) - ((p0 &&& (2147483647 : Int32)) / (2147483647 : Int32)) * (2147483647 : Int32))), .unset, .unset, .unset, .unset, .unset]) rfl k) ?_
  show own_Go p.tables e below _ (s₁.setTop (mkF m 9 #[.val (.int p0), .val (.int p1), .val (.int p2), .val (.int p3), .val (.int p4), .val (.int p5), .val (.int ((p0 &&& (2147483647 : Int32)) - ((p0 &&& (2147483647 : Int32)) / (2147483647 : Int32)) * (2147483647 : Int32))), .unset, .unset, .unset, .unset, .unset] []))
  obtain ⟨vx, hvx⟩ : ∃ z : Int32, z = ((p0 &&& (2147483647 : Int32)) - ((p0 &&& (2147483647 : Int32)) / (2147483647 : Int32)) * (2147483647 : Int32)) := ⟨_, rfl⟩
  rw [← hvx]
  show own_Go p.tables e below _ (s₁.setTop (mkF m 9 #[.val (.int p0), .val (.int p1), .val (.int p2), .val (.int p3), .val (.int p4), .val (.int p5), .val (.int vx), .unset, .unset, .unset, .unset, .unset] []))
  refine own_go (fun _ k => XS.iloadN X0.here hx rfl (hb hby at_9) rfl k) ?_
  show own_Go p.tables e below _ (s₁.setTop (mkF m 10 #[.val (.int p0), .val (.int p1), .val (.int p2), .val (.int p3), .val (.int p4), .val (.int p5), .val (.int vx), .unset, .unset, .unset, .unset, .unset] [(.int p1)]))
  refine own_go (fun _ k => X0.ldcInt hx hown (mvT hZ (hw _ (List.mem_of_getElem? (i := 0) rfl))) (g := (mkF m 10 #[.val (.int p0), .val (.int p1), .val (.int p2), .val (.int p3), .val (.int p4), .val (.int p5), .val (.int vx), .unset, .unset, .unset, .unset, .unset] [(.int p1)])) rfl (hb hby at_10) _ k) ?_
  show own_Go p.tables e below _ (s₁.setTop (mkF m 12 #[.val (.int p0), .val (.int p1), .val (.int p2), .val (.int p3), .val (.int p4), .val (.int p5), .val (.int vx), .unset, .unset, .unset, .unset, .unset] [(.int (2147483647 : Int32)), (.int p1)]))
  refine own_go (fun _ k => XS.iand X0.here hx rfl (hb hby at_12) rfl k) ?_
  show own_Go p.tables e below _ (s₁.setTop (mkF m 13 #[.val (.int p0), .val (.int p1), .val (.int p2), .val (.int p3), .val (.int p4), .val (.int p5), .val (.int vx), .unset, .unset, .unset, .unset, .unset] [(.int (p1 &&& (2147483647 : Int32)))]))
  refine own_go (fun _ k => X0.ldcInt hx hown (mvT hZ (hw _ (List.mem_of_getElem? (i := 0) rfl))) (g := (mkF m 13 #[.val (.int p0), .val (.int p1), .val (.int p2), .val (.int p3), .val (.int p4), .val (.int p5), .val (.int vx), .unset, .unset, .unset, .unset, .unset] [(.int (p1 &&& (2147483647 : Int32)))])) rfl (hb hby at_13) _ k) ?_
  show own_Go p.tables e below _ (s₁.setTop (mkF m 15 #[.val (.int p0), .val (.int p1), .val (.int p2), .val (.int p3), .val (.int p4), .val (.int p5), .val (.int vx), .unset, .unset, .unset, .unset, .unset] [(.int (2147483647 : Int32)), (.int (p1 &&& (2147483647 : Int32)))]))
  refine own_go (fun _ k => XS.iload X0.here hx rfl (hb hby at_15) rfl k) ?_
  show own_Go p.tables e below _ (s₁.setTop (mkF m 17 #[.val (.int p0), .val (.int p1), .val (.int p2), .val (.int p3), .val (.int p4), .val (.int p5), .val (.int vx), .unset, .unset, .unset, .unset, .unset] [(.int vx), (.int (2147483647 : Int32)), (.int (p1 &&& (2147483647 : Int32)))]))
  refine own_go (fun _ k => XS.isub X0.here hx rfl (hb hby at_17) rfl k) ?_
  show own_Go p.tables e below _ (s₁.setTop (mkF m 18 #[.val (.int p0), .val (.int p1), .val (.int p2), .val (.int p3), .val (.int p4), .val (.int p5), .val (.int vx), .unset, .unset, .unset, .unset, .unset] [(.int ((2147483647 : Int32) - vx)), (.int (p1 &&& (2147483647 : Int32)))]))
  refine own_go (fun _ k => XS.irem X0.here hx rfl (hb hby at_18) rfl (own_nz (own_x hvx)).2 k) ?_
  show own_Go p.tables e below _ (s₁.setTop (mkF m 19 #[.val (.int p0), .val (.int p1), .val (.int p2), .val (.int p3), .val (.int p4), .val (.int p5), .val (.int vx), .unset, .unset, .unset, .unset, .unset] [(.int ((p1 &&& (2147483647 : Int32)) - ((p1 &&& (2147483647 : Int32)) / ((2147483647 : Int32) - vx)) * ((2147483647 : Int32) - vx)))]))
  refine own_go (fun _ k => XS.iconst X0.here hx rfl (hb hby at_19) k) ?_
  show own_Go p.tables e below _ (s₁.setTop (mkF m 20 #[.val (.int p0), .val (.int p1), .val (.int p2), .val (.int p3), .val (.int p4), .val (.int p5), .val (.int vx), .unset, .unset, .unset, .unset, .unset] [(.int (1 : Int32)), (.int ((p1 &&& (2147483647 : Int32)) - ((p1 &&& (2147483647 : Int32)) / ((2147483647 : Int32) - vx)) * ((2147483647 : Int32) - vx)))]))
  refine own_go (fun _ k => XS.iadd X0.here hx rfl (hb hby at_20) rfl k) ?_
  show own_Go p.tables e below _ (s₁.setTop (mkF m 21 #[.val (.int p0), .val (.int p1), .val (.int p2), .val (.int p3), .val (.int p4), .val (.int p5), .val (.int vx), .unset, .unset, .unset, .unset, .unset] [(.int (((p1 &&& (2147483647 : Int32)) - ((p1 &&& (2147483647 : Int32)) / ((2147483647 : Int32) - vx)) * ((2147483647 : Int32) - vx)) + (1 : Int32)))]))
  refine own_go (fun _ k => XS.istore X0.here hx rfl (hb hby at_21) rfl (l' := #[.val (.int p0), .val (.int p1), .val (.int p2), .val (.int p3), .val (.int p4), .val (.int p5), .val (.int vx), .val (.int (((p1 &&& (2147483647 : Int32)) - ((p1 &&& (2147483647 : Int32)) / ((2147483647 : Int32) - vx)) * ((2147483647 : Int32) - vx)) + (1 : Int32))), .unset, .unset, .unset, .unset]) rfl k) ?_
  show own_Go p.tables e below _ (s₁.setTop (mkF m 23 #[.val (.int p0), .val (.int p1), .val (.int p2), .val (.int p3), .val (.int p4), .val (.int p5), .val (.int vx), .val (.int (((p1 &&& (2147483647 : Int32)) - ((p1 &&& (2147483647 : Int32)) / ((2147483647 : Int32) - vx)) * ((2147483647 : Int32) - vx)) + (1 : Int32))), .unset, .unset, .unset, .unset] []))
  obtain ⟨vw, hvw⟩ : ∃ z : Int32, z = (((p1 &&& (2147483647 : Int32)) - ((p1 &&& (2147483647 : Int32)) / ((2147483647 : Int32) - vx)) * ((2147483647 : Int32) - vx)) + (1 : Int32)) := ⟨_, rfl⟩
  rw [← hvw]
  show own_Go p.tables e below _ (s₁.setTop (mkF m 23 #[.val (.int p0), .val (.int p1), .val (.int p2), .val (.int p3), .val (.int p4), .val (.int p5), .val (.int vx), .val (.int vw), .unset, .unset, .unset, .unset] []))
  refine own_go (fun _ k => XS.iloadN X0.here hx rfl (hb hby at_23) rfl k) ?_
  show own_Go p.tables e below _ (s₁.setTop (mkF m 24 #[.val (.int p0), .val (.int p1), .val (.int p2), .val (.int p3), .val (.int p4), .val (.int p5), .val (.int vx), .val (.int vw), .unset, .unset, .unset, .unset] [(.int p2)]))
  refine own_go (fun _ k => X0.ldcInt hx hown (mvT hZ (hw _ (List.mem_of_getElem? (i := 0) rfl))) (g := (mkF m 24 #[.val (.int p0), .val (.int p1), .val (.int p2), .val (.int p3), .val (.int p4), .val (.int p5), .val (.int vx), .val (.int vw), .unset, .unset, .unset, .unset] [(.int p2)])) rfl (hb hby at_24) _ k) ?_
  show own_Go p.tables e below _ (s₁.setTop (mkF m 26 #[.val (.int p0), .val (.int p1), .val (.int p2), .val (.int p3), .val (.int p4), .val (.int p5), .val (.int vx), .val (.int vw), .unset, .unset, .unset, .unset] [(.int (2147483647 : Int32)), (.int p2)]))
  refine own_go (fun _ k => XS.iand X0.here hx rfl (hb hby at_26) rfl k) ?_
  show own_Go p.tables e below _ (s₁.setTop (mkF m 27 #[.val (.int p0), .val (.int p1), .val (.int p2), .val (.int p3), .val (.int p4), .val (.int p5), .val (.int vx), .val (.int vw), .unset, .unset, .unset, .unset] [(.int (p2 &&& (2147483647 : Int32)))]))
  refine own_go (fun _ k => X0.ldcInt hx hown (mvT hZ (hw _ (List.mem_of_getElem? (i := 0) rfl))) (g := (mkF m 27 #[.val (.int p0), .val (.int p1), .val (.int p2), .val (.int p3), .val (.int p4), .val (.int p5), .val (.int vx), .val (.int vw), .unset, .unset, .unset, .unset] [(.int (p2 &&& (2147483647 : Int32)))])) rfl (hb hby at_27) _ k) ?_
  show own_Go p.tables e below _ (s₁.setTop (mkF m 29 #[.val (.int p0), .val (.int p1), .val (.int p2), .val (.int p3), .val (.int p4), .val (.int p5), .val (.int vx), .val (.int vw), .unset, .unset, .unset, .unset] [(.int (2147483647 : Int32)), (.int (p2 &&& (2147483647 : Int32)))]))
  refine own_go (fun _ k => XS.irem X0.here hx rfl (hb hby at_29) rfl (by decide) k) ?_
  show own_Go p.tables e below _ (s₁.setTop (mkF m 30 #[.val (.int p0), .val (.int p1), .val (.int p2), .val (.int p3), .val (.int p4), .val (.int p5), .val (.int vx), .val (.int vw), .unset, .unset, .unset, .unset] [(.int ((p2 &&& (2147483647 : Int32)) - ((p2 &&& (2147483647 : Int32)) / (2147483647 : Int32)) * (2147483647 : Int32)))]))
  refine own_go (fun _ k => XS.istore X0.here hx rfl (hb hby at_30) rfl (l' := #[.val (.int p0), .val (.int p1), .val (.int p2), .val (.int p3), .val (.int p4), .val (.int p5), .val (.int vx), .val (.int vw), .val (.int ((p2 &&& (2147483647 : Int32)) - ((p2 &&& (2147483647 : Int32)) / (2147483647 : Int32)) * (2147483647 : Int32))), .unset, .unset, .unset]) rfl k) ?_
  show own_Go p.tables e below _ (s₁.setTop (mkF m 32 #[.val (.int p0), .val (.int p1), .val (.int p2), .val (.int p3), .val (.int p4), .val (.int p5), .val (.int vx), .val (.int vw), .val (.int ((p2 &&& (2147483647 : Int32)) - ((p2 &&& (2147483647 : Int32)) / (2147483647 : Int32)) * (2147483647 : Int32))), .unset, .unset, .unset] []))
  obtain ⟨vy, hvy⟩ : ∃ z : Int32, z = ((p2 &&& (2147483647 : Int32)) - ((p2 &&& (2147483647 : Int32)) / (2147483647 : Int32)) * (2147483647 : Int32)) := ⟨_, rfl⟩
  rw [← hvy]
  show own_Go p.tables e below _ (s₁.setTop (mkF m 32 #[.val (.int p0), .val (.int p1), .val (.int p2), .val (.int p3), .val (.int p4), .val (.int p5), .val (.int vx), .val (.int vw), .val (.int vy), .unset, .unset, .unset] []))
  refine own_go (fun _ k => XS.iloadN X0.here hx rfl (hb hby at_32) rfl k) ?_
  show own_Go p.tables e below _ (s₁.setTop (mkF m 33 #[.val (.int p0), .val (.int p1), .val (.int p2), .val (.int p3), .val (.int p4), .val (.int p5), .val (.int vx), .val (.int vw), .val (.int vy), .unset, .unset, .unset] [(.int p3)]))
  refine own_go (fun _ k => X0.ldcInt hx hown (mvT hZ (hw _ (List.mem_of_getElem? (i := 0) rfl))) (g := (mkF m 33 #[.val (.int p0), .val (.int p1), .val (.int p2), .val (.int p3), .val (.int p4), .val (.int p5), .val (.int vx), .val (.int vw), .val (.int vy), .unset, .unset, .unset] [(.int p3)])) rfl (hb hby at_33) _ k) ?_
  show own_Go p.tables e below _ (s₁.setTop (mkF m 35 #[.val (.int p0), .val (.int p1), .val (.int p2), .val (.int p3), .val (.int p4), .val (.int p5), .val (.int vx), .val (.int vw), .val (.int vy), .unset, .unset, .unset] [(.int (2147483647 : Int32)), (.int p3)]))
  refine own_go (fun _ k => XS.iand X0.here hx rfl (hb hby at_35) rfl k) ?_
  show own_Go p.tables e below _ (s₁.setTop (mkF m 36 #[.val (.int p0), .val (.int p1), .val (.int p2), .val (.int p3), .val (.int p4), .val (.int p5), .val (.int vx), .val (.int vw), .val (.int vy), .unset, .unset, .unset] [(.int (p3 &&& (2147483647 : Int32)))]))
  refine own_go (fun _ k => X0.ldcInt hx hown (mvT hZ (hw _ (List.mem_of_getElem? (i := 0) rfl))) (g := (mkF m 36 #[.val (.int p0), .val (.int p1), .val (.int p2), .val (.int p3), .val (.int p4), .val (.int p5), .val (.int vx), .val (.int vw), .val (.int vy), .unset, .unset, .unset] [(.int (p3 &&& (2147483647 : Int32)))])) rfl (hb hby at_36) _ k) ?_
  show own_Go p.tables e below _ (s₁.setTop (mkF m 38 #[.val (.int p0), .val (.int p1), .val (.int p2), .val (.int p3), .val (.int p4), .val (.int p5), .val (.int vx), .val (.int vw), .val (.int vy), .unset, .unset, .unset] [(.int (2147483647 : Int32)), (.int (p3 &&& (2147483647 : Int32)))]))
  refine own_go (fun _ k => XS.iload X0.here hx rfl (hb hby at_38) rfl k) ?_
  show own_Go p.tables e below _ (s₁.setTop (mkF m 40 #[.val (.int p0), .val (.int p1), .val (.int p2), .val (.int p3), .val (.int p4), .val (.int p5), .val (.int vx), .val (.int vw), .val (.int vy), .unset, .unset, .unset] [(.int vy), (.int (2147483647 : Int32)), (.int (p3 &&& (2147483647 : Int32)))]))
  refine own_go (fun _ k => XS.isub X0.here hx rfl (hb hby at_40) rfl k) ?_
  show own_Go p.tables e below _ (s₁.setTop (mkF m 41 #[.val (.int p0), .val (.int p1), .val (.int p2), .val (.int p3), .val (.int p4), .val (.int p5), .val (.int vx), .val (.int vw), .val (.int vy), .unset, .unset, .unset] [(.int ((2147483647 : Int32) - vy)), (.int (p3 &&& (2147483647 : Int32)))]))
  refine own_go (fun _ k => XS.irem X0.here hx rfl (hb hby at_41) rfl (own_nz (own_x hvy)).2 k) ?_
  show own_Go p.tables e below _ (s₁.setTop (mkF m 42 #[.val (.int p0), .val (.int p1), .val (.int p2), .val (.int p3), .val (.int p4), .val (.int p5), .val (.int vx), .val (.int vw), .val (.int vy), .unset, .unset, .unset] [(.int ((p3 &&& (2147483647 : Int32)) - ((p3 &&& (2147483647 : Int32)) / ((2147483647 : Int32) - vy)) * ((2147483647 : Int32) - vy)))]))
  refine own_go (fun _ k => XS.iconst X0.here hx rfl (hb hby at_42) k) ?_
  show own_Go p.tables e below _ (s₁.setTop (mkF m 43 #[.val (.int p0), .val (.int p1), .val (.int p2), .val (.int p3), .val (.int p4), .val (.int p5), .val (.int vx), .val (.int vw), .val (.int vy), .unset, .unset, .unset] [(.int (1 : Int32)), (.int ((p3 &&& (2147483647 : Int32)) - ((p3 &&& (2147483647 : Int32)) / ((2147483647 : Int32) - vy)) * ((2147483647 : Int32) - vy)))]))
  refine own_go (fun _ k => XS.iadd X0.here hx rfl (hb hby at_43) rfl k) ?_
  show own_Go p.tables e below _ (s₁.setTop (mkF m 44 #[.val (.int p0), .val (.int p1), .val (.int p2), .val (.int p3), .val (.int p4), .val (.int p5), .val (.int vx), .val (.int vw), .val (.int vy), .unset, .unset, .unset] [(.int (((p3 &&& (2147483647 : Int32)) - ((p3 &&& (2147483647 : Int32)) / ((2147483647 : Int32) - vy)) * ((2147483647 : Int32) - vy)) + (1 : Int32)))]))
  refine own_go (fun _ k => XS.istore X0.here hx rfl (hb hby at_44) rfl (l' := #[.val (.int p0), .val (.int p1), .val (.int p2), .val (.int p3), .val (.int p4), .val (.int p5), .val (.int vx), .val (.int vw), .val (.int vy), .val (.int (((p3 &&& (2147483647 : Int32)) - ((p3 &&& (2147483647 : Int32)) / ((2147483647 : Int32) - vy)) * ((2147483647 : Int32) - vy)) + (1 : Int32))), .unset, .unset]) rfl k) ?_
  show own_Go p.tables e below _ (s₁.setTop (mkF m 46 #[.val (.int p0), .val (.int p1), .val (.int p2), .val (.int p3), .val (.int p4), .val (.int p5), .val (.int vx), .val (.int vw), .val (.int vy), .val (.int (((p3 &&& (2147483647 : Int32)) - ((p3 &&& (2147483647 : Int32)) / ((2147483647 : Int32) - vy)) * ((2147483647 : Int32) - vy)) + (1 : Int32))), .unset, .unset] []))
  obtain ⟨vh, hvh⟩ : ∃ z : Int32, z = (((p3 &&& (2147483647 : Int32)) - ((p3 &&& (2147483647 : Int32)) / ((2147483647 : Int32) - vy)) * ((2147483647 : Int32) - vy)) + (1 : Int32)) := ⟨_, rfl⟩
  rw [← hvh]
  show own_Go p.tables e below _ (s₁.setTop (mkF m 46 #[.val (.int p0), .val (.int p1), .val (.int p2), .val (.int p3), .val (.int p4), .val (.int p5), .val (.int vx), .val (.int vw), .val (.int vy), .val (.int vh), .unset, .unset] []))
  obtain ⟨T1, h1, X1, e1, E1, A1, D1, -, st1⟩ := newO X0 hx hZ hown (hw _ (List.mem_of_getElem? (i := 1) rfl)) (hw _ (List.mem_of_getElem? (i := 2) rfl)) (hw _ (List.mem_of_getElem? (i := 3) rfl)) e0 (g := (mkF m 46 #[.val (.int p0), .val (.int p1), .val (.int p2), .val (.int p3), .val (.int p4), .val (.int p5), .val (.int vx), .val (.int vw), .val (.int vy), .val (.int vh), .unset, .unset] [])) rfl (hb hby at_46) (by decide) (by decide)
  obtain ⟨b1, g1⟩ : ∃ z, z = h0.size := ⟨_, rfl⟩
  rw [← g1] at A1 D1 st1
  have g_b1 : n0 ≤ b1 := Nat.le_trans Z0 (Nat.le_of_eq g1.symm)
  have Z1 : n0 ≤ h1.size := Nat.le_trans Z0 E1.1
  have hk := Nat.le_trans hk E1.1
  have F1_30 : Fld Z h1 b1 "com/example/dialplane/dialplane/engine/Area" "id" "Ljava/lang/String;" .null := D1 (Or.inr (hw _ (List.mem_of_getElem? (i := 30) rfl))) (ty := (.object "java/lang/String")) (by decide)
  have F1_32 : Fld Z h1 b1 "com/example/dialplane/dialplane/engine/Area" "x" "I" (.int (0 : Int32)) := D1 (Or.inr (hw _ (List.mem_of_getElem? (i := 32) rfl))) (ty := .int) (by decide)
  have F1_34 : Fld Z h1 b1 "com/example/dialplane/dialplane/engine/Area" "y" "I" (.int (0 : Int32)) := D1 (Or.inr (hw _ (List.mem_of_getElem? (i := 34) rfl))) (ty := .int) (by decide)
  have F1_36 : Fld Z h1 b1 "com/example/dialplane/dialplane/engine/Area" "width" "I" (.int (0 : Int32)) := D1 (Or.inr (hw _ (List.mem_of_getElem? (i := 36) rfl))) (ty := .int) (by decide)
  have F1_38 : Fld Z h1 b1 "com/example/dialplane/dialplane/engine/Area" "height" "I" (.int (0 : Int32)) := D1 (Or.inr (hw _ (List.mem_of_getElem? (i := 38) rfl))) (ty := .int) (by decide)
  refine own_go st1 ?_
  show own_Go p.tables e below _ (T1.setTop (mkF m 49 #[.val (.int p0), .val (.int p1), .val (.int p2), .val (.int p3), .val (.int p4), .val (.int p5), .val (.int vx), .val (.int vw), .val (.int vy), .val (.int vh), .unset, .unset] [(.ref b1)]))
  refine own_go (fun _ k => XS.dup X1.here hx rfl (hb hby at_49) rfl rfl k) ?_
  show own_Go p.tables e below _ (T1.setTop (mkF m 50 #[.val (.int p0), .val (.int p1), .val (.int p2), .val (.int p3), .val (.int p4), .val (.int p5), .val (.int vx), .val (.int vw), .val (.int vy), .val (.int vh), .unset, .unset] [(.ref b1), (.ref b1)]))
  obtain ⟨a2, T2, h2, k2, X2, e2, E2, hS, hk, hZ, hown, st2⟩ := ldcS X1 hx hZ hown (hw _ (List.mem_of_getElem? (i := 4) rfl)) (own_wS hw) e1 hS hk (g := (mkF m 50 #[.val (.int p0), .val (.int p1), .val (.int p2), .val (.int p3), .val (.int p4), .val (.int p5), .val (.int vx), .val (.int vw), .val (.int vy), .val (.int vh), .unset, .unset] [(.ref b1), (.ref b1)])) rfl (hb hby at_50) (n := 4) (by decide +kernel) (by decide) (by decide) (by decide)
  have c2_1 := A1.ext E2
  have c2_2 := F1_30.ext E2
  have c2_3 := F1_32.ext E2
  have c2_4 := F1_34.ext E2
  have c2_5 := F1_36.ext E2
  have c2_6 := F1_38.ext E2
  have Z2 : n0 ≤ h2.size := Nat.le_trans Z1 E2.1
  refine own_go st2 ?_
  show own_Go p.tables e below _ (T2.setTop (mkF m 52 #[.val (.int p0), .val (.int p1), .val (.int p2), .val (.int p3), .val (.int p4), .val (.int p5), .val (.int vx), .val (.int vw), .val (.int vy), .val (.int vh), .unset, .unset] [(.ref a2), (.ref b1), (.ref b1)]))
  refine own_go (fun _ k => XS.iload X2.here hx rfl (hb hby at_52) rfl k) ?_
  show own_Go p.tables e below _ (T2.setTop (mkF m 54 #[.val (.int p0), .val (.int p1), .val (.int p2), .val (.int p3), .val (.int p4), .val (.int p5), .val (.int vx), .val (.int vw), .val (.int vy), .val (.int vh), .unset, .unset] [(.int vx), (.ref a2), (.ref b1), (.ref b1)]))
  refine own_go (fun _ k => XS.iload X2.here hx rfl (hb hby at_54) rfl k) ?_
  show own_Go p.tables e below _ (T2.setTop (mkF m 56 #[.val (.int p0), .val (.int p1), .val (.int p2), .val (.int p3), .val (.int p4), .val (.int p5), .val (.int vx), .val (.int vw), .val (.int vy), .val (.int vh), .unset, .unset] [(.int vy), (.int vx), (.ref a2), (.ref b1), (.ref b1)]))
  refine own_go (fun _ k => XS.iload X2.here hx rfl (hb hby at_56) rfl k) ?_
  show own_Go p.tables e below _ (T2.setTop (mkF m 58 #[.val (.int p0), .val (.int p1), .val (.int p2), .val (.int p3), .val (.int p4), .val (.int p5), .val (.int vx), .val (.int vw), .val (.int vy), .val (.int vh), .unset, .unset] [(.int vw), (.int vy), (.int vx), (.ref a2), (.ref b1), (.ref b1)]))
  refine own_go (fun _ k => XS.iload X2.here hx rfl (hb hby at_58) rfl k) ?_
  show own_Go p.tables e below _ (T2.setTop (mkF m 60 #[.val (.int p0), .val (.int p1), .val (.int p2), .val (.int p3), .val (.int p4), .val (.int p5), .val (.int vx), .val (.int vw), .val (.int vy), .val (.int vh), .unset, .unset] [(.int vh), (.int vw), (.int vy), (.int vx), (.ref a2), (.ref b1), (.ref b1)]))
  obtain ⟨_, _, ⟨T3, L3, k3, n3⟩, -, X3, hS3, hg3, ⟨Lc3, hQ3, l3, y3, z3⟩, st3⟩ := X2.specialBackS hx (y := (⟨"com/example/dialplane/dialplane/engine/Area", "<init>", "(Ljava/lang/String;IIII)V"⟩ : MethodName)) rfl hown (mvT hZ (hw _ (List.mem_of_getElem? (i := 12) rfl))) (mvT hZ (hw _ (List.mem_of_getElem? (i := 13) rfl))) (mvT hZ (hw _ (List.mem_of_getElem? (i := 14) rfl))) (by decide) (backOfS (W := 1) (rm3 l Z az hw [] b1 a2 vx vy vw vh h2 n0 Z2 c2_2 c2_3 c2_4 c2_5 c2_6 c2_1 g_b1 (own_g (own_x hvx) (own_w (own_x hvx) hvw)).1 (own_g (own_x hvy) (own_w (own_x hvy) hvh)).1 (own_g (own_x hvx) (own_w (own_x hvx) hvw)).2.1 (own_g (own_x hvy) (own_w (own_x hvy) hvh)).2.1 (own_g (own_x hvx) (own_w (own_x hvx) hvw)).2.2 (own_g (own_x hvy) (own_w (own_x hvy) hvh)).2.2) hZ (hw _ (List.mem_of_getElem? (i := 14) rfl)) (hw _ (List.mem_of_getElem? (i := 3) rfl)) (by decide) (by decide)) (g := (mkF m 60 #[.val (.int p0), .val (.int p1), .val (.int p2), .val (.int p3), .val (.int p4), .val (.int p5), .val (.int vx), .val (.int vw), .val (.int vy), .val (.int vh), .unset, .unset] [(.int vh), (.int vw), (.int vy), (.int vx), (.ref a2), (.ref b1), (.ref b1)])) rfl (by rw [hml]; rfl) (Steps.refl _) (a := b1) (argsL := [(.ref a2), (.int vx), (.int vy), (.int vw), (.int vh)]) (rest := [(.ref b1)]) (lenOf pd0_0 rfl) rfl (by show 2 * 0 + _ ≤ _; exact Nat.le_of_eq rfl) (hb hby at_60) (fun _ _ => ⟨rfl, e2, (by decide : 3 + 2 ≤ _), (by decide : 13 + 44 ≤ _)⟩)
  dsimp only [Pt.U, Pt.locs, Pt.cells, Pt.slots] at X3 hS3 hg3 l3 y3 z3 st3 hQ3
  subst l3 y3 z3
  obtain ⟨X3, hS, hZ, hown⟩ := rebS hS (by rw [e2]; exact hk) X3 hS3 hg3 hZ hown
  refine own_go (fun _ k => st3.trans k) ?_
  obtain ⟨rfl, N3q, K3, E3_, F3_0, F3_1, F3_2, F3_3, F3_4⟩ := hQ3
  have N3 := Fr.app N0 N3q
  have Z3 : n0 ≤ T3.heap.size := Nat.le_trans Z2 K3.1
  have hk := Nat.le_refl T3.heap.size
  show own_Go p.tables e below _ (T3.setTop (mkF m 63 #[.val (.int p0), .val (.int p1), .val (.int p2), .val (.int p3), .val (.int p4), .val (.int p5), .val (.int vx), .val (.int vw), .val (.int vy), .val (.int vh), .unset, .unset] [(.ref b1)]))
  refine own_go (fun _ k => XS.astore X3.here hx rfl (hb hby at_63) rfl rfl (l' := #[.val (.int p0), .val (.int p1), .val (.int p2), .val (.int p3), .val (.int p4), .val (.int p5), .val (.int vx), .val (.int vw), .val (.int vy), .val (.int vh), .val (.ref b1), .unset]) rfl k) ?_
  show own_Go p.tables e below _ (T3.setTop (mkF m 65 #[.val (.int p0), .val (.int p1), .val (.int p2), .val (.int p3), .val (.int p4), .val (.int p5), .val (.int vx), .val (.int vw), .val (.int vy), .val (.int vh), .val (.ref b1), .unset] []))
  refine own_go (fun _ k => XS.iload X3.here hx rfl (hb hby at_65) rfl k) ?_
  show own_Go p.tables e below _ (T3.setTop (mkF m 67 #[.val (.int p0), .val (.int p1), .val (.int p2), .val (.int p3), .val (.int p4), .val (.int p5), .val (.int vx), .val (.int vw), .val (.int vy), .val (.int vh), .val (.ref b1), .unset] [(.int p4)]))
  refine own_go (fun _ k => XS.iload X3.here hx rfl (hb hby at_67) rfl k) ?_
  show own_Go p.tables e below _ (T3.setTop (mkF m 69 #[.val (.int p0), .val (.int p1), .val (.int p2), .val (.int p3), .val (.int p4), .val (.int p5), .val (.int vx), .val (.int vw), .val (.int vy), .val (.int vh), .val (.ref b1), .unset] [(.int vx), (.int p4)]))
  refine own_go (fun _ k => XS.iload X3.here hx rfl (hb hby at_69) rfl k) ?_
  show own_Go p.tables e below _ (T3.setTop (mkF m 71 #[.val (.int p0), .val (.int p1), .val (.int p2), .val (.int p3), .val (.int p4), .val (.int p5), .val (.int vx), .val (.int vw), .val (.int vy), .val (.int vh), .val (.ref b1), .unset] [(.int vw), (.int vx), (.int p4)]))
  obtain ⟨_, _, ⟨T4, L4, k4, n4⟩, -, X4, ⟨Lc4, hQ4, l4, y4, z4⟩, st4⟩ := Jvm.LawKit.callS X3 hx (y := (⟨"com/example/dialplane/dialplane/engine/AreaContainsPinLaw", "within", "(III)Z"⟩ : MethodName)) hown (mvT hZ (hw _ (List.mem_of_getElem? (i := 39) rfl))) (mvT hZ (hw _ (List.mem_of_getElem? (i := 40) rfl))) (mvT hZ (hw _ (List.mem_of_getElem? (i := 41) rfl))) (mvT hZ (hw _ (List.mem_of_getElem? (i := 42) rfl))) (by decide) (backOf (W := 0) (rm4 l Z az hw [] p4 vx vw T3.heap n0 Z3) hZ (hw _ (List.mem_of_getElem? (i := 42) rfl)) (hw _ (List.mem_of_getElem? (i := 41) rfl)) (by decide) (by decide)) (g := (mkF m 71 #[.val (.int p0), .val (.int p1), .val (.int p2), .val (.int p3), .val (.int p4), .val (.int p5), .val (.int vx), .val (.int vw), .val (.int vy), .val (.int vh), .val (.ref b1), .unset] [(.int vw), (.int vx), (.int p4)])) rfl (by rw [hml]; rfl) (argsL := [(.int p4), (.int vx), (.int vw)]) (rest := []) (lenOf pd0_1 rfl) rfl (by show 2 * 0 + _ ≤ _; exact Nat.le_of_eq rfl) (hb hby at_71) (fun _ _ => ⟨rfl, rfl, (by decide : 5 + 0 ≤ _), (by decide : 57 + 0 ≤ _)⟩)
  dsimp only [Pt.U, Pt.locs, Pt.cells, Pt.slots] at X4 l4 y4 z4 st4 hQ4
  subst l4 y4 z4
  refine own_go st4 ?_
  obtain ⟨rfl, N4q, e4⟩ := hQ4
  have N4 := Fr.app N3 N4q
  show own_Go p.tables e below _ (T4.setTop (mkF m 74 #[.val (.int p0), .val (.int p1), .val (.int p2), .val (.int p3), .val (.int p4), .val (.int p5), .val (.int vx), .val (.int vw), .val (.int vy), .val (.int vh), .val (.ref b1), .unset] [(.int (own_f4 p4 vx vw))]))
  by_cases hc74 : (own_f4 p4 vx vw) = (0 : Int32)
  · refine own_go (fun _ k => XS.ifYes X4.here hx rfl (pc0 := 74) (pc' := 93) rfl (hb hby at_74) rfl ((if0 _ _).trans (teq hc74).1) (by decide) (by decide) k) ?_
    show own_Go p.tables e below _ (T4.setTop (mkF m 93 #[.val (.int p0), .val (.int p1), .val (.int p2), .val (.int p3), .val (.int p4), .val (.int p5), .val (.int vx), .val (.int vw), .val (.int vy), .val (.int vh), .val (.ref b1), .unset] []))
    refine own_go (fun _ k => XS.iconst X4.here hx rfl (hb hby at_93) k) ?_
    show own_Go p.tables e below _ (T4.setTop (mkF m 94 #[.val (.int p0), .val (.int p1), .val (.int p2), .val (.int p3), .val (.int p4), .val (.int p5), .val (.int vx), .val (.int vw), .val (.int vy), .val (.int vh), .val (.ref b1), .unset] [(.int (0 : Int32))]))
    refine own_go (fun _ k => XS.istore X4.here hx rfl (hb hby at_94) rfl (l' := #[.val (.int p0), .val (.int p1), .val (.int p2), .val (.int p3), .val (.int p4), .val (.int p5), .val (.int vx), .val (.int vw), .val (.int vy), .val (.int vh), .val (.ref b1), .val (.int (0 : Int32))]) rfl k) ?_
    show own_Go p.tables e below _ (T4.setTop (mkF m 96 #[.val (.int p0), .val (.int p1), .val (.int p2), .val (.int p3), .val (.int p4), .val (.int p5), .val (.int vx), .val (.int vw), .val (.int vy), .val (.int vh), .val (.ref b1), .val (.int (0 : Int32))] []))
    refine own_go (fun _ k => XS.aload X4.here hx rfl (hb hby at_96) rfl rfl k) ?_
    show own_Go p.tables e below _ (T4.setTop (mkF m 98 #[.val (.int p0), .val (.int p1), .val (.int p2), .val (.int p3), .val (.int p4), .val (.int p5), .val (.int vx), .val (.int vw), .val (.int vy), .val (.int vh), .val (.ref b1), .val (.int (0 : Int32))] [(.ref b1)]))
    refine own_go (fun _ k => XS.iload X4.here hx rfl (hb hby at_98) rfl k) ?_
    show own_Go p.tables e below _ (T4.setTop (mkF m 100 #[.val (.int p0), .val (.int p1), .val (.int p2), .val (.int p3), .val (.int p4), .val (.int p5), .val (.int vx), .val (.int vw), .val (.int vy), .val (.int vh), .val (.ref b1), .val (.int (0 : Int32))] [(.int p4), (.ref b1)]))
    refine own_go (fun _ k => XS.iload X4.here hx rfl (hb hby at_100) rfl k) ?_
    show own_Go p.tables e below _ (T4.setTop (mkF m 102 #[.val (.int p0), .val (.int p1), .val (.int p2), .val (.int p3), .val (.int p4), .val (.int p5), .val (.int vx), .val (.int vw), .val (.int vy), .val (.int vh), .val (.ref b1), .val (.int (0 : Int32))] [(.int p5), (.int p4), (.ref b1)]))
    obtain ⟨cq5, kq5, q5a, q5b, q5c⟩ := isOf hZ (e4 : T4.heap = T3.heap) E3_
    obtain ⟨_, _, ⟨T5, L5, k5, n5⟩, -, X5, ⟨Lc5, hQ5, l5, y5, z5⟩, st5⟩ := X4.virtualBack hx (y := (⟨"com/example/dialplane/dialplane/engine/Area", "contains", "(II)Z"⟩ : MethodName)) (z := (⟨"com/example/dialplane/dialplane/engine/Area", "contains", "(II)Z"⟩ : MethodName)) hown (mvT hZ (hw _ (List.mem_of_getElem? (i := 43) rfl))) (mvT hZ (hw _ (List.mem_of_getElem? (i := 44) rfl))) (notFace_of_selects (args := #[]) (mvT hZ (hw _ (List.mem_of_getElem? (i := 46) rfl)))) (mvT hZ (hw _ (List.mem_of_getElem? (i := 46) rfl))) (mvT hZ (hw _ (List.mem_of_getElem? (i := 45) rfl))) (by decide) (backOf (W := 0) (rm5 l Z az hw [] b1 p4 p5 vx vy vw vh T3.heap n0 Z3 F3_1 F3_2 F3_3 F3_4) hZ (hw _ (List.mem_of_getElem? (i := 47) rfl)) (hw _ (List.mem_of_getElem? (i := 3) rfl)) (by decide) (by decide)) q5a q5c (g := (mkF m 102 #[.val (.int p0), .val (.int p1), .val (.int p2), .val (.int p3), .val (.int p4), .val (.int p5), .val (.int vx), .val (.int vw), .val (.int vy), .val (.int vh), .val (.ref b1), .val (.int (0 : Int32))] [(.int p5), (.int p4), (.ref b1)])) rfl (by rw [hml]; rfl) (Steps.refl _) (argsL := [(.int p4), (.int p5)]) (rest := []) (lenOf pd0_2 rfl) rfl (by show 2 * 0 + _ ≤ _; exact Nat.le_of_eq rfl) (hb hby at_102) (fun _ _ => ⟨rfl, (e4 : T4.heap = T3.heap), (by decide : 5 + 0 ≤ _), (by decide : 57 + 0 ≤ _)⟩)
    dsimp only [Pt.U, Pt.locs, Pt.cells, Pt.slots] at X5 l5 y5 z5 st5 hQ5
    subst l5 y5 z5
    refine own_go (fun _ k => st5.trans k) ?_
    obtain ⟨rfl, N5q, e5⟩ := hQ5
    have N5 := Fr.app N4 N5q
    show own_Go p.tables e below _ (T5.setTop (mkF m 105 #[.val (.int p0), .val (.int p1), .val (.int p2), .val (.int p3), .val (.int p4), .val (.int p5), .val (.int vx), .val (.int vw), .val (.int vy), .val (.int vh), .val (.ref b1), .val (.int (0 : Int32))] [(.int (own_f5 p4 p5 vx vy vw vh))]))
    refine own_go (fun _ k => XS.iload X5.here hx rfl (hb hby at_105) rfl k) ?_
    show own_Go p.tables e below _ (T5.setTop (mkF m 107 #[.val (.int p0), .val (.int p1), .val (.int p2), .val (.int p3), .val (.int p4), .val (.int p5), .val (.int vx), .val (.int vw), .val (.int vy), .val (.int vh), .val (.ref b1), .val (.int (0 : Int32))] [(.int (0 : Int32)), (.int (own_f5 p4 p5 vx vy vw vh))]))
    have hf107 : (own_f5 p4 p5 vx vy vw vh) = (0 : Int32) := by rw [own_val (own_x hvx) (own_w (own_x hvx) hvw) (own_x hvy) (own_w (own_x hvy) hvh), if_pos hc74]
    refine own_go (fun _ k => XS.icmpNo X5.here hx rfl (hb hby at_107) rfl (teq hf107).2 k) ?_
    show own_Go p.tables e below _ (T5.setTop (mkF m 110 #[.val (.int p0), .val (.int p1), .val (.int p2), .val (.int p3), .val (.int p4), .val (.int p5), .val (.int vx), .val (.int vw), .val (.int vy), .val (.int vh), .val (.ref b1), .val (.int (0 : Int32))] []))
    refine own_go (fun _ k => XS.iconst X5.here hx rfl (hb hby at_110) k) ?_
    show own_Go p.tables e below _ (T5.setTop (mkF m 111 #[.val (.int p0), .val (.int p1), .val (.int p2), .val (.int p3), .val (.int p4), .val (.int p5), .val (.int vx), .val (.int vw), .val (.int vy), .val (.int vh), .val (.ref b1), .val (.int (0 : Int32))] [(.int (1 : Int32))]))
    refine own_go (fun _ k => XS.goto X5.here hx rfl (pc0 := 111) (pc' := 115) rfl (hb hby at_111) (by decide) (by decide) k) ?_
    show own_Go p.tables e below _ (T5.setTop (mkF m 115 #[.val (.int p0), .val (.int p1), .val (.int p2), .val (.int p3), .val (.int p4), .val (.int p5), .val (.int vx), .val (.int vw), .val (.int vy), .val (.int vh), .val (.ref b1), .val (.int (0 : Int32))] [(.int (1 : Int32))]))
    refine own_endW X5 hS (by rw [(e5 : T5.heap = T3.heap)]; exact hk) Bd.notSynchronized (v := some (.int (1 : Int32))) (fun h => by rw [Bd.returns] at h; cases h) (fun fs hr => retN X5 hx (t := .boolean) Bd.returns (by simp) (hb hby at_115) hr) ?_ (by decide) (by decide)
    exact ⟨rfl, N5⟩
  · refine own_go (fun _ k => XS.ifNo X4.here hx rfl (hb hby at_74) rfl ((if0 _ _).trans (feq hc74).1) k) ?_
    show own_Go p.tables e below _ (T4.setTop (mkF m 77 #[.val (.int p0), .val (.int p1), .val (.int p2), .val (.int p3), .val (.int p4), .val (.int p5), .val (.int vx), .val (.int vw), .val (.int vy), .val (.int vh), .val (.ref b1), .unset] []))
    refine own_go (fun _ k => XS.iload X4.here hx rfl (hb hby at_77) rfl k) ?_
    show own_Go p.tables e below _ (T4.setTop (mkF m 79 #[.val (.int p0), .val (.int p1), .val (.int p2), .val (.int p3), .val (.int p4), .val (.int p5), .val (.int vx), .val (.int vw), .val (.int vy), .val (.int vh), .val (.ref b1), .unset] [(.int p5)]))
    refine own_go (fun _ k => XS.iload X4.here hx rfl (hb hby at_79) rfl k) ?_
    show own_Go p.tables e below _ (T4.setTop (mkF m 81 #[.val (.int p0), .val (.int p1), .val (.int p2), .val (.int p3), .val (.int p4), .val (.int p5), .val (.int vx), .val (.int vw), .val (.int vy), .val (.int vh), .val (.ref b1), .unset] [(.int vy), (.int p5)]))
    refine own_go (fun _ k => XS.iload X4.here hx rfl (hb hby at_81) rfl k) ?_
    show own_Go p.tables e below _ (T4.setTop (mkF m 83 #[.val (.int p0), .val (.int p1), .val (.int p2), .val (.int p3), .val (.int p4), .val (.int p5), .val (.int vx), .val (.int vw), .val (.int vy), .val (.int vh), .val (.ref b1), .unset] [(.int vh), (.int vy), (.int p5)]))
    obtain ⟨_, _, ⟨T6, L6, k6, n6⟩, -, X6, ⟨Lc6, hQ6, l6, y6, z6⟩, st6⟩ := Jvm.LawKit.callS X4 hx (y := (⟨"com/example/dialplane/dialplane/engine/AreaContainsPinLaw", "within", "(III)Z"⟩ : MethodName)) hown (mvT hZ (hw _ (List.mem_of_getElem? (i := 39) rfl))) (mvT hZ (hw _ (List.mem_of_getElem? (i := 40) rfl))) (mvT hZ (hw _ (List.mem_of_getElem? (i := 41) rfl))) (mvT hZ (hw _ (List.mem_of_getElem? (i := 42) rfl))) (by decide) (backOf (W := 0) (rm4 l Z az hw [] p5 vy vh T3.heap n0 Z3) hZ (hw _ (List.mem_of_getElem? (i := 42) rfl)) (hw _ (List.mem_of_getElem? (i := 41) rfl)) (by decide) (by decide)) (g := (mkF m 83 #[.val (.int p0), .val (.int p1), .val (.int p2), .val (.int p3), .val (.int p4), .val (.int p5), .val (.int vx), .val (.int vw), .val (.int vy), .val (.int vh), .val (.ref b1), .unset] [(.int vh), (.int vy), (.int p5)])) rfl (by rw [hml]; rfl) (argsL := [(.int p5), (.int vy), (.int vh)]) (rest := []) (lenOf pd0_1 rfl) rfl (by show 2 * 0 + _ ≤ _; exact Nat.le_of_eq rfl) (hb hby at_83) (fun _ _ => ⟨rfl, (e4 : T4.heap = T3.heap), (by decide : 5 + 0 ≤ _), (by decide : 57 + 0 ≤ _)⟩)
    dsimp only [Pt.U, Pt.locs, Pt.cells, Pt.slots] at X6 l6 y6 z6 st6 hQ6
    subst l6 y6 z6
    refine own_go st6 ?_
    obtain ⟨rfl, N6q, e6⟩ := hQ6
    have N6 := Fr.app N4 N6q
    show own_Go p.tables e below _ (T6.setTop (mkF m 86 #[.val (.int p0), .val (.int p1), .val (.int p2), .val (.int p3), .val (.int p4), .val (.int p5), .val (.int vx), .val (.int vw), .val (.int vy), .val (.int vh), .val (.ref b1), .unset] [(.int (own_f4 p5 vy vh))]))
    have sg7 : ∀ t, Steps p.tables e below (T6.setTop (mkF m 94 #[.val (.int p0), .val (.int p1), .val (.int p2), .val (.int p3), .val (.int p4), .val (.int p5), .val (.int vx), .val (.int vw), .val (.int vy), .val (.int vh), .val (.ref b1), .unset] [(.int (if (own_f4 p5 vy vh) = (0 : Int32) then (0 : Int32) else (1 : Int32)))])) t → Steps p.tables e below (T6.setTop (mkF m 86 #[.val (.int p0), .val (.int p1), .val (.int p2), .val (.int p3), .val (.int p4), .val (.int p5), .val (.int vx), .val (.int vw), .val (.int vy), .val (.int vh), .val (.ref b1), .unset] [(.int (own_f4 p5 vy vh))])) t := by
      intro t k
      by_cases hc86 : (own_f4 p5 vy vh) = (0 : Int32)
      · try simp only [if_pos hc86] at k
        refine XS.ifYes X6.here hx rfl (pc0 := 86) (pc' := 93) rfl (hb hby at_86) rfl ((if0 _ _).trans (teq hc86).1) (by decide) (by decide) ?_
        show Steps p.tables e below (T6.setTop (mkF m 93 #[.val (.int p0), .val (.int p1), .val (.int p2), .val (.int p3), .val (.int p4), .val (.int p5), .val (.int vx), .val (.int vw), .val (.int vy), .val (.int vh), .val (.ref b1), .unset] [])) _
        refine XS.iconst X6.here hx rfl (hb hby at_93) ?_
        show Steps p.tables e below (T6.setTop (mkF m 94 #[.val (.int p0), .val (.int p1), .val (.int p2), .val (.int p3), .val (.int p4), .val (.int p5), .val (.int vx), .val (.int vw), .val (.int vy), .val (.int vh), .val (.ref b1), .unset] [(.int (0 : Int32))])) _
        exact k
      · try simp only [if_neg hc86] at k
        refine XS.ifNo X6.here hx rfl (hb hby at_86) rfl ((if0 _ _).trans (feq hc86).1) ?_
        show Steps p.tables e below (T6.setTop (mkF m 89 #[.val (.int p0), .val (.int p1), .val (.int p2), .val (.int p3), .val (.int p4), .val (.int p5), .val (.int vx), .val (.int vw), .val (.int vy), .val (.int vh), .val (.ref b1), .unset] [])) _
        refine XS.iconst X6.here hx rfl (hb hby at_89) ?_
        show Steps p.tables e below (T6.setTop (mkF m 90 #[.val (.int p0), .val (.int p1), .val (.int p2), .val (.int p3), .val (.int p4), .val (.int p5), .val (.int vx), .val (.int vw), .val (.int vy), .val (.int vh), .val (.ref b1), .unset] [(.int (1 : Int32))])) _
        refine XS.goto X6.here hx rfl (pc0 := 90) (pc' := 94) rfl (hb hby at_90) (by decide) (by decide) ?_
        show Steps p.tables e below (T6.setTop (mkF m 94 #[.val (.int p0), .val (.int p1), .val (.int p2), .val (.int p3), .val (.int p4), .val (.int p5), .val (.int vx), .val (.int vw), .val (.int vy), .val (.int vh), .val (.ref b1), .unset] [(.int (1 : Int32))])) _
        exact k
    refine own_go sg7 ?_
    show own_Go p.tables e below _ (T6.setTop (mkF m 94 #[.val (.int p0), .val (.int p1), .val (.int p2), .val (.int p3), .val (.int p4), .val (.int p5), .val (.int vx), .val (.int vw), .val (.int vy), .val (.int vh), .val (.ref b1), .unset] [(.int (if (own_f4 p5 vy vh) = (0 : Int32) then (0 : Int32) else (1 : Int32)))]))
    refine own_go (fun _ k => XS.istore X6.here hx rfl (hb hby at_94) rfl (l' := #[.val (.int p0), .val (.int p1), .val (.int p2), .val (.int p3), .val (.int p4), .val (.int p5), .val (.int vx), .val (.int vw), .val (.int vy), .val (.int vh), .val (.ref b1), .val (.int (if (own_f4 p5 vy vh) = (0 : Int32) then (0 : Int32) else (1 : Int32)))]) rfl k) ?_
    show own_Go p.tables e below _ (T6.setTop (mkF m 96 #[.val (.int p0), .val (.int p1), .val (.int p2), .val (.int p3), .val (.int p4), .val (.int p5), .val (.int vx), .val (.int vw), .val (.int vy), .val (.int vh), .val (.ref b1), .val (.int (if (own_f4 p5 vy vh) = (0 : Int32) then (0 : Int32) else (1 : Int32)))] []))
    refine own_go (fun _ k => XS.aload X6.here hx rfl (hb hby at_96) rfl rfl k) ?_
    show own_Go p.tables e below _ (T6.setTop (mkF m 98 #[.val (.int p0), .val (.int p1), .val (.int p2), .val (.int p3), .val (.int p4), .val (.int p5), .val (.int vx), .val (.int vw), .val (.int vy), .val (.int vh), .val (.ref b1), .val (.int (if (own_f4 p5 vy vh) = (0 : Int32) then (0 : Int32) else (1 : Int32)))] [(.ref b1)]))
    refine own_go (fun _ k => XS.iload X6.here hx rfl (hb hby at_98) rfl k) ?_
    show own_Go p.tables e below _ (T6.setTop (mkF m 100 #[.val (.int p0), .val (.int p1), .val (.int p2), .val (.int p3), .val (.int p4), .val (.int p5), .val (.int vx), .val (.int vw), .val (.int vy), .val (.int vh), .val (.ref b1), .val (.int (if (own_f4 p5 vy vh) = (0 : Int32) then (0 : Int32) else (1 : Int32)))] [(.int p4), (.ref b1)]))
    refine own_go (fun _ k => XS.iload X6.here hx rfl (hb hby at_100) rfl k) ?_
    show own_Go p.tables e below _ (T6.setTop (mkF m 102 #[.val (.int p0), .val (.int p1), .val (.int p2), .val (.int p3), .val (.int p4), .val (.int p5), .val (.int vx), .val (.int vw), .val (.int vy), .val (.int vh), .val (.ref b1), .val (.int (if (own_f4 p5 vy vh) = (0 : Int32) then (0 : Int32) else (1 : Int32)))] [(.int p5), (.int p4), (.ref b1)]))
    obtain ⟨cq8, kq8, q8a, q8b, q8c⟩ := isOf hZ (e6 : T6.heap = T3.heap) E3_
    obtain ⟨_, _, ⟨T8, L8, k8, n8⟩, -, X8, ⟨Lc8, hQ8, l8, y8, z8⟩, st8⟩ := X6.virtualBack hx (y := (⟨"com/example/dialplane/dialplane/engine/Area", "contains", "(II)Z"⟩ : MethodName)) (z := (⟨"com/example/dialplane/dialplane/engine/Area", "contains", "(II)Z"⟩ : MethodName)) hown (mvT hZ (hw _ (List.mem_of_getElem? (i := 43) rfl))) (mvT hZ (hw _ (List.mem_of_getElem? (i := 44) rfl))) (notFace_of_selects (args := #[]) (mvT hZ (hw _ (List.mem_of_getElem? (i := 46) rfl)))) (mvT hZ (hw _ (List.mem_of_getElem? (i := 46) rfl))) (mvT hZ (hw _ (List.mem_of_getElem? (i := 45) rfl))) (by decide) (backOf (W := 0) (rm5 l Z az hw [] b1 p4 p5 vx vy vw vh T3.heap n0 Z3 F3_1 F3_2 F3_3 F3_4) hZ (hw _ (List.mem_of_getElem? (i := 47) rfl)) (hw _ (List.mem_of_getElem? (i := 3) rfl)) (by decide) (by decide)) q8a q8c (g := (mkF m 102 #[.val (.int p0), .val (.int p1), .val (.int p2), .val (.int p3), .val (.int p4), .val (.int p5), .val (.int vx), .val (.int vw), .val (.int vy), .val (.int vh), .val (.ref b1), .val (.int (if (own_f4 p5 vy vh) = (0 : Int32) then (0 : Int32) else (1 : Int32)))] [(.int p5), (.int p4), (.ref b1)])) rfl (by rw [hml]; rfl) (Steps.refl _) (argsL := [(.int p4), (.int p5)]) (rest := []) (lenOf pd0_2 rfl) rfl (by show 2 * 0 + _ ≤ _; exact Nat.le_of_eq rfl) (hb hby at_102) (fun _ _ => ⟨rfl, (e6 : T6.heap = T3.heap), (by decide : 5 + 0 ≤ _), (by decide : 57 + 0 ≤ _)⟩)
    dsimp only [Pt.U, Pt.locs, Pt.cells, Pt.slots] at X8 l8 y8 z8 st8 hQ8
    subst l8 y8 z8
    refine own_go (fun _ k => st8.trans k) ?_
    obtain ⟨rfl, N8q, e8⟩ := hQ8
    have N8 := Fr.app N6 N8q
    show own_Go p.tables e below _ (T8.setTop (mkF m 105 #[.val (.int p0), .val (.int p1), .val (.int p2), .val (.int p3), .val (.int p4), .val (.int p5), .val (.int vx), .val (.int vw), .val (.int vy), .val (.int vh), .val (.ref b1), .val (.int (if (own_f4 p5 vy vh) = (0 : Int32) then (0 : Int32) else (1 : Int32)))] [(.int (own_f5 p4 p5 vx vy vw vh))]))
    refine own_go (fun _ k => XS.iload X8.here hx rfl (hb hby at_105) rfl k) ?_
    show own_Go p.tables e below _ (T8.setTop (mkF m 107 #[.val (.int p0), .val (.int p1), .val (.int p2), .val (.int p3), .val (.int p4), .val (.int p5), .val (.int vx), .val (.int vw), .val (.int vy), .val (.int vh), .val (.ref b1), .val (.int (if (own_f4 p5 vy vh) = (0 : Int32) then (0 : Int32) else (1 : Int32)))] [(.int (if (own_f4 p5 vy vh) = (0 : Int32) then (0 : Int32) else (1 : Int32))), (.int (own_f5 p4 p5 vx vy vw vh))]))
    have hf107 : (own_f5 p4 p5 vx vy vw vh) = (if (own_f4 p5 vy vh) = (0 : Int32) then (0 : Int32) else (1 : Int32)) := by rw [own_val (own_x hvx) (own_w (own_x hvx) hvw) (own_x hvy) (own_w (own_x hvy) hvh), if_neg hc74]
    refine own_go (fun _ k => XS.icmpNo X8.here hx rfl (hb hby at_107) rfl (teq hf107).2 k) ?_
    show own_Go p.tables e below _ (T8.setTop (mkF m 110 #[.val (.int p0), .val (.int p1), .val (.int p2), .val (.int p3), .val (.int p4), .val (.int p5), .val (.int vx), .val (.int vw), .val (.int vy), .val (.int vh), .val (.ref b1), .val (.int (if (own_f4 p5 vy vh) = (0 : Int32) then (0 : Int32) else (1 : Int32)))] []))
    refine own_go (fun _ k => XS.iconst X8.here hx rfl (hb hby at_110) k) ?_
    show own_Go p.tables e below _ (T8.setTop (mkF m 111 #[.val (.int p0), .val (.int p1), .val (.int p2), .val (.int p3), .val (.int p4), .val (.int p5), .val (.int vx), .val (.int vw), .val (.int vy), .val (.int vh), .val (.ref b1), .val (.int (if (own_f4 p5 vy vh) = (0 : Int32) then (0 : Int32) else (1 : Int32)))] [(.int (1 : Int32))]))
    refine own_go (fun _ k => XS.goto X8.here hx rfl (pc0 := 111) (pc' := 115) rfl (hb hby at_111) (by decide) (by decide) k) ?_
    show own_Go p.tables e below _ (T8.setTop (mkF m 115 #[.val (.int p0), .val (.int p1), .val (.int p2), .val (.int p3), .val (.int p4), .val (.int p5), .val (.int vx), .val (.int vw), .val (.int vy), .val (.int vh), .val (.ref b1), .val (.int (if (own_f4 p5 vy vh) = (0 : Int32) then (0 : Int32) else (1 : Int32)))] [(.int (1 : Int32))]))
    refine own_endW X8 hS (by rw [(e8 : T8.heap = T3.heap)]; exact hk) Bd.notSynchronized (v := some (.int (1 : Int32))) (fun h => by rw [Bd.returns] at h; cases h) (fun fs hr => retN X8 hx (t := .boolean) Bd.returns (by simp) (hb hby at_115) hr) ?_ (by decide) (by decide)
    exact ⟨rfl, N8⟩
set_option maxRecDepth 65536 in
set_option maxHeartbeats 40000000 in
theorem comes_1 {Post : Tables → Env → Array Value → State → Outcome → State → Prop} (hpost : ∀ tb e args s v u, (limb_1_1.after args s (.returned v) u = true ∧ limb_1_2.after args s (.returned v) u = true ∧ True) → ReturnedEndW s (.returned v) u (Jvm.fieldLocs frame_1_writes args s ++ Jvm.arrayLocs frame_1_arrays args s ++ Jvm.staticLocs frame_1_statics s) 16 2176 → Post tb e args s (.returned v) u) :
    ArmFor flags0 classFile x code maxLocals ret World_1 tables_1 room_1 Calls_1 rest_1 Pre_1 Post := by
  intro l hfl _ _ p e ha hc hk s m args below hf hA hF happ hP
  obtain ⟨hcalls, hrest, hpre⟩ := hP
  obtain ⟨-, -, -, hnamed, -, -, -, hat⟩ := (Spec.applies_iff hf).mp happ
  obtain ⟨hg, hn⟩ := and_e (Cond.before_iff.mp (show (Jvm.Cond.and given_1 narrow_1).before args s = true from hpre))
  obtain ⟨g1, g2⟩ := and_e hg
  obtain ⟨g3, g4⟩ := and_e g2
  obtain ⟨g5, g6⟩ := and_e g4
  obtain ⟨g7, g8⟩ := and_e g6
  obtain ⟨g9, g10⟩ := and_e g8
  obtain ⟨g11, g12⟩ := and_e g10
  obtain ⟨w0, w1, w2, w3, w4, w5, rfl⟩ : ∃ w0 w1 w2 w3 w4 w5 : Value, args = #[w0, w1, w2, w3, w4, w5] := by
    have hs : args.size = 6 := by simpa [Cond.value, given_1] using g1
    obtain ⟨L⟩ := args
    match L, hs with
    | [w0, w1, w2, w3, w4, w5], _ => exact ⟨w0, w1, w2, w3, w4, w5, rfl⟩
  have hw := fun d (hd : d ∈ tables_1) => atoms_spec (ws := Jvm.Cond.code x code maxLocals ret :: tables_1) hat d (List.mem_cons_of_mem _ hd)
  obtain ⟨i0, ei0⟩ := is_v g3
  obtain rfl : w0 = (.int i0) := Option.some.inj ei0
  obtain ⟨i1, ei1⟩ := is_v g5
  obtain rfl : w1 = (.int i1) := Option.some.inj ei1
  obtain ⟨i2, ei2⟩ := is_v g7
  obtain rfl : w2 = (.int i2) := Option.some.inj ei2
  obtain ⟨i3, ei3⟩ := is_v g9
  obtain rfl : w3 = (.int i3) := Option.some.inj ei3
  obtain ⟨i4, ei4⟩ := is_v g11
  obtain rfl : w4 = (.int i4) := Option.some.inj ei4
  obtain ⟨i5, ei5⟩ := is_v g12
  obtain rfl : w5 = (.int i5) := Option.some.inj ei5
  obtain ⟨n, o, h1, h2, h3, _, L, rfl, ⟨rfl, N⟩, hq⟩ := rm0 l s _ hw tables_1 i0 i1 i2 i3 i4 i5 s.heap s.heap.size (Nat.le_refl _) p e ha hc hk s m _ below hf ((Spec.applies_iff_loose hf).mp happ).1 ⟨rfl, State.Warmed39.refl s, rfl⟩ trivial
  refine ⟨n, _, h1, h2, h3, hpost _ _ _ _ _ _ ⟨Cond.after_iff.mpr rfl, Cond.after_iff.mpr (eq_i res_at (Term.int_eval (1)) rfl), trivial⟩ ⟨hq.1, hq.2.1, hq.2.2.1, (hq.2.2.2.sift fun y hy => Or.inr (N y hy)).mono (by decide) (by decide)⟩⟩
theorem main_1_1 : Claimed_1_1 := comes_1 fun _ _ _ _ _ _ h hF => ⟨h.1, hF⟩
theorem main_1_2 : Claimed_1_2 := comes_1 fun _ _ _ _ _ _ h hF => ⟨h.2.1, hF⟩
end Jvm.Pilot.@@N@@
namespace Jvm.Pilot.@@N@@
open Jvm Jvm.ClassFile Sem Op Lib Jvm.Free Jvm.Stand Jvm.Pilot.@@N@@.Jvm.D
/-! MADE BY PROGRAM (witnessworld.py) out of the Statement's table words and the real class files: 16 classes; the members and pool entries that the words name. The judged class is class 1, her method 2. -/
namespace start1
open Jvm.ClassFile
def u (s : String) : CpInfo := .utf8 (stringToUtf16 s)
/-- a pool by its gaps: so many unusable entries, then the entry; so many at the end -/
def gap : Nat → List CpInfo → List CpInfo
  | 0, r => r
  | n + 1, r => .unusable :: gap n r
def poolList (es : List (Nat × CpInfo)) (last : Nat) : List CpInfo := es.foldr (fun e r => gap e.1 (e.2 :: r)) (gap last [])
def pool (es : List (Nat × CpInfo)) (last : Nat) : Array CpInfo := ⟨poolList es last⟩
def fileOf (pool : Array CpInfo) (this : Nat) (attrs : Array Attribute := #[]) (ms : Array MethodInfo := #[]) (fl : Nat := 33) (sup : Nat := 0) (ifs : Array Nat := #[]) (fds : Array FieldInfo := #[]) : ClassFile where
  minorVersion := 0
  majorVersion := 65
  constantPool := pool
  accessFlags := fl
  thisClass := this
  superClass := sup
  interfaces := ifs
  fields := fds
  methods := ms
  attributes := attrs
def plain (name : String) (sup : Option ClassId) : Class where
  name := name
  kind := .ordinary
  loader := none
  accessFlags := 33
  super := sup
  interfaces := #[]
  cf := none
  fields := #[]
  methods := #[]
  instanceTypes := #[]
  staticTypes := #[]
  resolved := #[]
  callSites := []
  init := .initialized
  statics := none
  mirror := none

def pool0 : Array CpInfo := pool [(5, u "<init>"), (0, u "()V"), (1, .class_ 10), (1, u "java/lang/Object")] 113

def k0c0 : Code := { maxStack := 0, maxLocals := 1, code := object_method_1_code, exceptionTable := #[], attributes := #[] }
def k0m0 : Method := { name := "<init>", desc := "()V", sig := { parameters := [], returnType := none }, accessFlags := 1, code := some k0c0 }
/-- java/lang/Object -/
def k0 : Class := { plain "java/lang/Object" none with
  accessFlags := 33
  interfaces := #[]
  cf := some (fileOf pool0 8 #[] #[{ accessFlags := 1, nameIndex := 5, descriptorIndex := 6, attributes := #[] }] 33 0 #[] #[])
  fields := #[]
  methods := #[k0m0]
  instanceTypes := #[]
  staticTypes := #[]
  resolved := Array.replicate 124 none
  statics := none }

def pool1 : Array CpInfo := pool [(2, .class_ 4), (1, u "java/lang/Object"), (0, u "<init>"), (0, u "()V"), (0, .integer 2147483647), (2, .class_ 11), (0, u "com/example/dialplane/dialplane/engine/Area"), (0, .string 13), (0, u "a"), (0, .methodref 10 15), (0, .nameAndType 5 16), (0, u "(Ljava/lang/String;IIII)V"), (0, .methodref 18 19), (0, .class_ 20), (0, .nameAndType 21 22), (0, u "com/example/dialplane/dialplane/engine/AreaContainsPinLaw"), (0, u "within"), (0, u "(III)Z"), (0, .methodref 10 24), (0, .nameAndType 25 26), (0, u "contains"), (0, u "(II)Z"), (3, u "law"), (0, u "(IIIIII)Z")] 2

def k1m0 : Method := { name := "<init>", desc := "()V", sig := { parameters := [], returnType := none }, accessFlags := 1, code := none }
def k1c1 : Code := { maxStack := 4, maxLocals := 5, code := method_2_code, exceptionTable := #[], attributes := #[] }
def k1m1 : Method := { name := "within", desc := "(III)Z", sig := { parameters := [.int, .int, .int], returnType := some .boolean }, accessFlags := 10, code := some k1c1 }
def k1c2 : Code := { maxStack := 7, maxLocals := 12, code := code, exceptionTable := #[], attributes := #[] }
def k1m2 : Method := { name := "law", desc := "(IIIIII)Z", sig := { parameters := [.int, .int, .int, .int, .int, .int], returnType := some .boolean }, accessFlags := 9, code := some k1c2 }
/-- com/example/dialplane/dialplane/engine/AreaContainsPinLaw -/
def k1 : Class := { plain "com/example/dialplane/dialplane/engine/AreaContainsPinLaw" (some 0) with
  accessFlags := 49
  interfaces := #[]
  cf := some (fileOf pool1 18 #[] #[{ accessFlags := 1, nameIndex := 5, descriptorIndex := 6, attributes := #[] }, { accessFlags := 10, nameIndex := 21, descriptorIndex := 22, attributes := #[] }, { accessFlags := 9, nameIndex := 30, descriptorIndex := 31, attributes := #[] }] 49 2 #[] #[])
  fields := #[]
  methods := #[k1m0, k1m1, k1m2]
  instanceTypes := #[]
  staticTypes := #[]
  resolved := Array.replicate 34 none
  statics := none }

def pool2 : Array CpInfo := pool [(1, .methodref 2 3), (0, .class_ 4), (0, .nameAndType 5 6), (0, u "java/lang/Object"), (0, u "<init>"), (0, u "()V"), (0, .class_ 8), (0, u "java/lang/Record")] 13

def k2c0 : Code := { maxStack := 1, maxLocals := 1, code := jdk_30_method_1_code, exceptionTable := #[], attributes := #[] }
def k2m0 : Method := { name := "<init>", desc := "()V", sig := { parameters := [], returnType := none }, accessFlags := 4, code := some k2c0 }
/-- java/lang/Record -/
def k2 : Class := { plain "java/lang/Record" (some 0) with
  accessFlags := 1057
  interfaces := #[]
  cf := some (fileOf pool2 7 #[] #[{ accessFlags := 4, nameIndex := 5, descriptorIndex := 6, attributes := #[] }] 1057 2 #[] #[])
  fields := #[]
  methods := #[k2m0]
  instanceTypes := #[]
  staticTypes := #[]
  resolved := Array.replicate 22 none
  statics := none }

def pool3 : Array CpInfo := pool [(1, .methodref 2 3), (0, .class_ 4), (0, .nameAndType 5 6), (0, u "java/lang/Record"), (0, u "<init>"), (0, u "()V"), (0, .string 8), (0, u "id is null"), (0, .methodref 10 11), (0, .class_ 12), (0, .nameAndType 13 14), (0, u "java/util/Objects"), (0, u "requireNonNull"), (0, u "(Ljava/lang/Object;Ljava/lang/String;)Ljava/lang/Object;"), (2, .integer 2147483647), (9, .fieldref 28 29), (0, .class_ 30), (0, .nameAndType 31 32), (0, u "com/example/dialplane/dialplane/engine/Area"), (0, u "id"), (0, u "Ljava/lang/String;"), (0, .fieldref 28 34), (0, .nameAndType 35 36), (0, u "x"), (0, u "I"), (0, .fieldref 28 38), (0, .nameAndType 39 36), (0, u "y"), (0, .fieldref 28 41), (0, .nameAndType 42 36), (0, u "width"), (0, .fieldref 28 44), (0, .nameAndType 45 36), (0, u "height"), (12, u "(Ljava/lang/String;IIII)V"), (6, u "contains"), (0, u "(II)Z")] 37

def k3c0 : Code := { maxStack := 7, maxLocals := 6, code := prog_5_method_1_code, exceptionTable := #[], attributes := #[] }
def k3m0 : Method := { name := "<init>", desc := "(Ljava/lang/String;IIII)V", sig := { parameters := [(.object "java/lang/String"), .int, .int, .int, .int], returnType := none }, accessFlags := 1, code := some k3c0 }
def k3c1 : Code := { maxStack := 3, maxLocals := 3, code := prog_5_method_2_code, exceptionTable := #[], attributes := #[] }
def k3m1 : Method := { name := "contains", desc := "(II)Z", sig := { parameters := [.int, .int], returnType := some .boolean }, accessFlags := 0, code := some k3c1 }
/-- com/example/dialplane/dialplane/engine/Area -/
def k3 : Class := { plain "com/example/dialplane/dialplane/engine/Area" (some 2) with
  accessFlags := 49
  interfaces := #[]
  cf := some (fileOf pool3 28 #[] #[{ accessFlags := 1, nameIndex := 5, descriptorIndex := 58, attributes := #[] }, { accessFlags := 0, nameIndex := 65, descriptorIndex := 66, attributes := #[] }] 49 2 #[] #[{ accessFlags := 18, nameIndex := 31, descriptorIndex := 32, attributes := #[] }, { accessFlags := 18, nameIndex := 35, descriptorIndex := 36, attributes := #[] }, { accessFlags := 18, nameIndex := 39, descriptorIndex := 36, attributes := #[] }, { accessFlags := 18, nameIndex := 42, descriptorIndex := 36, attributes := #[] }, { accessFlags := 18, nameIndex := 45, descriptorIndex := 36, attributes := #[] }])
  fields := #[{ name := "id", type := (.object "java/lang/String"), accessFlags := 18, slot := 0, constantValue := 0 }, { name := "x", type := .int, accessFlags := 18, slot := 1, constantValue := 0 }, { name := "y", type := .int, accessFlags := 18, slot := 2, constantValue := 0 }, { name := "width", type := .int, accessFlags := 18, slot := 3, constantValue := 0 }, { name := "height", type := .int, accessFlags := 18, slot := 4, constantValue := 0 }]
  methods := #[k3m0, k3m1]
  instanceTypes := #[(.object "java/lang/String"), .int, .int, .int, .int]
  staticTypes := #[]
  resolved := Array.replicate 104 none
  statics := none }

def pool4 : Array CpInfo := pool [(1, .class_ 2), (0, u "java/io/Serializable"), (0, .class_ 4), (0, u "java/lang/Object")] 2

/-- java/io/Serializable -/
def k4 : Class := { plain "java/io/Serializable" (some 0) with
  accessFlags := 1537
  interfaces := #[]
  cf := some (fileOf pool4 1 #[] #[] 1537 3 #[] #[])
  fields := #[]
  methods := #[]
  instanceTypes := #[]
  staticTypes := #[]
  resolved := Array.replicate 7 none
  statics := none }

def pool5 : Array CpInfo := pool [(1, .class_ 2), (0, u "java/lang/Comparable"), (0, .class_ 4), (0, u "java/lang/Object")] 7

/-- java/lang/Comparable -/
def k5 : Class := { plain "java/lang/Comparable" (some 0) with
  accessFlags := 1537
  interfaces := #[]
  cf := some (fileOf pool5 1 #[] #[] 1537 3 #[] #[])
  fields := #[]
  methods := #[]
  instanceTypes := #[]
  staticTypes := #[]
  resolved := Array.replicate 12 none
  statics := none }

def pool6 : Array CpInfo := pool [(2, .class_ 4), (1, u "java/lang/CharSequence"), (42, .class_ 48), (0, u "java/lang/CharSequence$1CodePointIterator"), (10, .class_ 60), (0, u "java/lang/CharSequence$1CharIterator"), (5, .class_ 67), (0, u "java/lang/Object")] 63

/-- java/lang/CharSequence -/
def k6 : Class := { plain "java/lang/CharSequence" (some 0) with
  accessFlags := 1537
  interfaces := #[]
  cf := some (fileOf pool6 2 #[.nestMembers #[47, 59]] #[] 1537 66 #[] #[])
  fields := #[]
  methods := #[]
  instanceTypes := #[]
  staticTypes := #[]
  resolved := Array.replicate 131 none
  statics := none }

def pool7 : Array CpInfo := pool [(1, .class_ 2), (0, u "java/lang/constant/Constable"), (0, .class_ 4), (0, u "java/lang/Object")] 6

/-- java/lang/constant/Constable -/
def k7 : Class := { plain "java/lang/constant/Constable" (some 0) with
  accessFlags := 1537
  interfaces := #[]
  cf := some (fileOf pool7 1 #[] #[] 1537 3 #[] #[])
  fields := #[]
  methods := #[]
  instanceTypes := #[]
  staticTypes := #[]
  resolved := Array.replicate 11 none
  statics := none }

def pool8 : Array CpInfo := pool [(1, .class_ 2), (0, u "java/lang/constant/ConstantDesc"), (0, .class_ 4), (0, u "java/lang/Object")] 32

/-- java/lang/constant/ConstantDesc -/
def k8 : Class := { plain "java/lang/constant/ConstantDesc" (some 0) with
  accessFlags := 1537
  interfaces := #[]
  cf := some (fileOf pool8 1 #[] #[] 1537 3 #[] #[])
  fields := #[]
  methods := #[]
  instanceTypes := #[]
  staticTypes := #[]
  resolved := Array.replicate 37 none
  statics := none }

def pool9 : Array CpInfo := pool [(2, .class_ 4), (1, u "java/lang/Object"), (0, u "<init>"), (0, u "()V"), (3, .class_ 12), (1, u "java/lang/String"), (0, u "value"), (0, u "[B"), (2, u "coder"), (0, u "B"), (2, u "hash"), (0, u "I"), (2, u "hashIsZero"), (0, u "Z"), (13, u "COMPACT_STRINGS"), (534, .class_ 576), (0, u "java/lang/CharSequence"), (22, u "CASE_INSENSITIVE_ORDER"), (0, u "Ljava/util/Comparator;"), (500, u "serialPersistentFields"), (0, u "[Ljava/io/ObjectStreamField;"), (0, .class_ 1104), (0, u "java/lang/String$CaseInsensitiveComparator"), (1, .class_ 1107), (0, u "java/io/Serializable"), (0, .class_ 1109), (0, u "java/lang/Comparable"), (0, .class_ 1111), (0, u "java/lang/constant/Constable"), (0, .class_ 1113), (0, u "java/lang/constant/ConstantDesc"), (2, u "serialVersionUID"), (0, u "J"), (3, u "REPL"), (0, u "C"), (2, u "LATIN1"), (1, u "UTF16")] 323

def k9m0 : Method := { name := "<init>", desc := "()V", sig := { parameters := [], returnType := none }, accessFlags := 1, code := none }
/-- java/lang/String -/
def k9 : Class := { plain "java/lang/String" (some 0) with
  accessFlags := 49
  interfaces := #[4, 5, 6, 7, 8]
  cf := some (fileOf pool9 10 #[.nestMembers #[1103]] #[{ accessFlags := 1, nameIndex := 5, descriptorIndex := 6, attributes := #[] }] 49 2 #[1106, 1108, 575, 1110, 1112] #[{ accessFlags := 18, nameIndex := 13, descriptorIndex := 14, attributes := #[] }, { accessFlags := 18, nameIndex := 17, descriptorIndex := 18, attributes := #[] }, { accessFlags := 2, nameIndex := 21, descriptorIndex := 22, attributes := #[] }, { accessFlags := 2, nameIndex := 25, descriptorIndex := 26, attributes := #[] }, { accessFlags := 26, nameIndex := 1116, descriptorIndex := 1117, attributes := #[] }, { accessFlags := 24, nameIndex := 40, descriptorIndex := 26, attributes := #[] }, { accessFlags := 26, nameIndex := 1101, descriptorIndex := 1102, attributes := #[] }, { accessFlags := 26, nameIndex := 1121, descriptorIndex := 1122, attributes := #[] }, { accessFlags := 25, nameIndex := 599, descriptorIndex := 600, attributes := #[] }, { accessFlags := 24, nameIndex := 1125, descriptorIndex := 18, attributes := #[] }, { accessFlags := 24, nameIndex := 1127, descriptorIndex := 18, attributes := #[] }])
  fields := #[{ name := "value", type := (.array .byte), accessFlags := 18, slot := 0, constantValue := 0 }, { name := "coder", type := .byte, accessFlags := 18, slot := 1, constantValue := 0 }, { name := "hash", type := .int, accessFlags := 2, slot := 2, constantValue := 0 }, { name := "hashIsZero", type := .boolean, accessFlags := 2, slot := 3, constantValue := 0 }, { name := "serialVersionUID", type := .long, accessFlags := 26, slot := 0, constantValue := 0 }, { name := "COMPACT_STRINGS", type := .boolean, accessFlags := 24, slot := 1, constantValue := 0 }, { name := "serialPersistentFields", type := (.array (.object "java/io/ObjectStreamField")), accessFlags := 26, slot := 2, constantValue := 0 }, { name := "REPL", type := .char, accessFlags := 26, slot := 3, constantValue := 0 }, { name := "CASE_INSENSITIVE_ORDER", type := (.object "java/util/Comparator"), accessFlags := 25, slot := 4, constantValue := 0 }, { name := "LATIN1", type := .byte, accessFlags := 24, slot := 5, constantValue := 0 }, { name := "UTF16", type := .byte, accessFlags := 24, slot := 6, constantValue := 0 }]
  methods := #[k9m0]
  instanceTypes := #[(.array .byte), .byte, .int, .boolean]
  staticTypes := #[.long, .boolean, (.array (.object "java/io/ObjectStreamField")), .char, (.object "java/util/Comparator"), .byte, .byte]
  resolved := Array.replicate 1451 none
  statics := none }

def pool10 : Array CpInfo := pool [(2, .class_ 4), (1, u "java/lang/Object"), (0, u "<init>"), (0, u "()V"), (35, .class_ 44), (1, u "java/util/Objects"), (0, u "requireNonNull"), (48, u "(Ljava/lang/Object;Ljava/lang/String;)Ljava/lang/Object;")] 89

def k10m0 : Method := { name := "<init>", desc := "()V", sig := { parameters := [], returnType := none }, accessFlags := 2, code := none }
def k10c1 : Code := { maxStack := 3, maxLocals := 2, code := jdk_31_method_11_code, exceptionTable := #[], attributes := #[] }
def k10m1 : Method := { name := "requireNonNull", desc := "(Ljava/lang/Object;Ljava/lang/String;)Ljava/lang/Object;", sig := { parameters := [(.object "java/lang/Object"), (.object "java/lang/String")], returnType := some (.object "java/lang/Object") }, accessFlags := 9, code := some k10c1 }
/-- java/util/Objects -/
def k10 : Class := { plain "java/util/Objects" (some 0) with
  accessFlags := 49
  interfaces := #[]
  cf := some (fileOf pool10 42 #[] #[{ accessFlags := 2, nameIndex := 5, descriptorIndex := 6, attributes := #[] }, { accessFlags := 9, nameIndex := 45, descriptorIndex := 94, attributes := #[] }] 49 2 #[] #[])
  fields := #[]
  methods := #[k10m0, k10m1]
  instanceTypes := #[]
  staticTypes := #[]
  resolved := Array.replicate 184 none
  statics := none }

def pool11 : Array CpInfo := pool [(1, u "java/lang/Cloneable"), (0, .class_ 1), (0, u "java/lang/Object"), (0, .class_ 3)] 3

/-- java/lang/Cloneable -/
def k11 : Class := { plain "java/lang/Cloneable" (some 0) with
  accessFlags := 1537
  interfaces := #[]
  cf := some (fileOf pool11 2 #[] #[] 1537 4 #[] #[])
  fields := #[]
  methods := #[]
  instanceTypes := #[]
  staticTypes := #[]
  resolved := Array.replicate 8 none
  statics := none }

/-- the primitive byte -/
def k12 : Class := { plain "byte" none with kind := .primitive 'B', accessFlags := 0x411 }
/-- [B -/
def k13 : Class := { plain "[B" (some 0) with kind := .array 12 .byte, interfaces := #[11, 4], accessFlags := 1041 }

/-- the primitive int -/
def k14 : Class := { plain "int" none with kind := .primitive 'I', accessFlags := 0x411 }
/-- [I -/
def k15 : Class := { plain "[I" (some 0) with kind := .array 14 .int, interfaces := #[11, 4], accessFlags := 1041 }

def heap : Heap := #[]
def classes : Array Class := #[k0, k1, k2, k3, k4, k5, k6, k7, k8, k9, k10, k11, k12, k13, k14, k15]
def interned : List (Array UInt16 × Addr) := []
def slotsUsed : Nat := 0
def theMethod : MethodId := ⟨1, 2⟩
def args0 : Array Value := #[.int 3, .int 4, .int 5, .int 6, .int 4, .int 6]
def aboutOver (below : List Frame) : State where
  vm := { classes := classes, interned := interned.toArray }
  heap := heap
  slotsUsed := slotsUsed
  threads := #[{ frames := .invoking theMethod args0 :: below }]
def below0 : List Frame := [.native { method := ⟨0, 0⟩, args := #[] }]
def about1 : State := aboutOver below0
def p0 : Program := .bare "" "" ""
def e0 : Env := launch0.env 0 0 0
theorem w_frames : about1.frames = Frame.invoking theMethod args0 :: below0 := rfl
set_option maxRecDepth 65536 in
theorem w_args : argsFit about1.vm theMethod args0 = true := by decide +kernel
set_option maxRecDepth 65536 in
theorem w_heap : heapFits about1 = true := by decide +kernel
set_option maxRecDepth 65536 in
theorem w_runnable : about1.curStatus? = some .runnable := by decide +kernel
set_option maxRecDepth 65536 in
theorem w_alone : about1.alone = true := by decide +kernel
set_option maxRecDepth 65536 in
theorem w_named : about1.methodNamed? x = some theMethod := by decide +kernel
set_option maxRecDepth 65536 in
theorem w_hears : about1.hears theMethod below0 = true := by decide +kernel
set_option maxRecDepth 65536 in
theorem w_ripe : about1.ripe theMethod args0 below0 = true := by decide +kernel
theorem w_running : about1.status = .running := rfl
set_option maxRecDepth 65536 in
theorem w_room : about1.hasRoom e0.platform room_1 = true :=
  launch0.hasRoom_least _ room_1 (by decide +kernel) (by decide +kernel) (by decide +kernel) (by decide +kernel) (by decide +kernel) (by decide +kernel)
theorem allAtoms_all (ts : List Jvm.Cond) (a : Array Jvm.Value) (st : Jvm.State) : (allAtoms ts).before a st = ts.all (fun c => c.before a st) := by
  induction ts with
  | nil => rfl
  | cons c t ih =>
    show (Jvm.Cond.and c (allAtoms t)).before a st = _
    rw [Jvm.Cond.before_and, ih, List.all_cons]
def words1 : List Jvm.Cond := Jvm.Cond.code x code maxLocals ret :: tables_1
/-- a 'code' word, met by the world's own term for the bytes: nothing is compared byte by byte -/
theorem code_word {y : MethodName} {bytes : ByteArray} {mx : Nat} {rt : Option FieldType} {a : Array Value} {s : State} {m : MethodId} {meth : Method} {c : Code} (h1 : s.methodNamed? y = some m) (h2 : s.vm.method? m = some meth) (h3 : meth.code = some c) (h4 : c.code = bytes)
    (h5 : (c.maxLocals == mx && c.exceptionTable.isEmpty && decide (c.maxStack ≤ mostOperands) && decide (meth.sig.returnType = rt) && !meth.locks && decide (parseMethodDescriptor y.desc = some meth.sig)) = true) : (Jvm.Cond.code y bytes mx rt).before a s = true := by
  simp only [Bool.and_eq_true, beq_iff_eq, Bool.not_eq_true', decide_eq_true_eq] at h5
  obtain ⟨⟨⟨⟨⟨g1, g2⟩, g3⟩, g4⟩, g5⟩, g6⟩ := h5
  simp [Cond.before, Cond.holds, Cond.value, h1, h2, h3, h4, g1, g2, g3, g4, g5, g6]
def isCode : Jvm.Cond → Bool
  | .code _ _ _ _ => true
  | _ => false
theorem all_split {L : List Jvm.Cond} {P : Jvm.Cond → Bool} (h1 : L.all (fun c => isCode c || P c) = true) (h2 : ∀ c ∈ L.filter isCode, P c = true) : L.all P = true := by
  refine List.all_eq_true.mpr fun c hc => ?_
  have h := List.all_eq_true.mp h1 c hc
  rcases Bool.eq_false_or_eq_true (isCode c) with hi | hi
  · exact h2 c (List.mem_filter.mpr ⟨hc, hi⟩)
  · simpa [hi] using h
set_option maxRecDepth 65536 in
theorem w_c0 : (Jvm.Cond.code x code maxLocals ret).before args0 about1 = true := code_word (m := ⟨1, 2⟩) (meth := k1m2) (c := k1c2) (by decide +kernel) rfl rfl rfl (by decide +kernel)
set_option maxRecDepth 65536 in
theorem w_c1 : (Jvm.Cond.code ({ cls := "com/example/dialplane/dialplane/engine/Area", name := "<init>", desc := "(Ljava/lang/String;IIII)V" } : Jvm.MethodName) prog_5_method_1_code (6 : Nat) (Option.none : Option Jvm.ClassFile.FieldType)).before args0 about1 = true := code_word (m := ⟨3, 0⟩) (meth := k3m0) (c := k3c0) (by decide +kernel) rfl rfl rfl (by decide +kernel)
set_option maxRecDepth 65536 in
theorem w_c2 : (Jvm.Cond.code ({ cls := "java/lang/Record", name := "<init>", desc := "()V" } : Jvm.MethodName) jdk_30_method_1_code (1 : Nat) (Option.none : Option Jvm.ClassFile.FieldType)).before args0 about1 = true := code_word (m := ⟨2, 0⟩) (meth := k2m0) (c := k2c0) (by decide +kernel) rfl rfl rfl (by decide +kernel)
set_option maxRecDepth 65536 in
theorem w_c3 : (Jvm.Cond.code ({ cls := "java/lang/Object", name := "<init>", desc := "()V" } : Jvm.MethodName) object_method_1_code (1 : Nat) (Option.none : Option Jvm.ClassFile.FieldType)).before args0 about1 = true := code_word (m := ⟨0, 0⟩) (meth := k0m0) (c := k0c0) (by decide +kernel) rfl rfl rfl (by decide +kernel)
set_option maxRecDepth 65536 in
theorem w_c4 : (Jvm.Cond.code ({ cls := "java/util/Objects", name := "requireNonNull", desc := "(Ljava/lang/Object;Ljava/lang/String;)Ljava/lang/Object;" } : Jvm.MethodName) jdk_31_method_11_code (2 : Nat) (Option.some (Jvm.ClassFile.FieldType.object "java/lang/Object"))).before args0 about1 = true := code_word (m := ⟨10, 1⟩) (meth := k10m1) (c := k10c1) (by decide +kernel) rfl rfl rfl (by decide +kernel)
set_option maxRecDepth 65536 in
theorem w_c5 : (Jvm.Cond.code ({ cls := "com/example/dialplane/dialplane/engine/AreaContainsPinLaw", name := "within", desc := "(III)Z" } : Jvm.MethodName) method_2_code (5 : Nat) (Option.some Jvm.ClassFile.FieldType.boolean)).before args0 about1 = true := code_word (m := ⟨1, 1⟩) (meth := k1m1) (c := k1c1) (by decide +kernel) rfl rfl rfl (by decide +kernel)
set_option maxRecDepth 65536 in
theorem w_c6 : (Jvm.Cond.code ({ cls := "com/example/dialplane/dialplane/engine/Area", name := "contains", desc := "(II)Z" } : Jvm.MethodName) prog_5_method_2_code (3 : Nat) (Option.some Jvm.ClassFile.FieldType.boolean)).before args0 about1 = true := code_word (m := ⟨3, 1⟩) (meth := k3m1) (c := k3c1) (by decide +kernel) rfl rfl rfl (by decide +kernel)
def codes1 : List Jvm.Cond := [Jvm.Cond.code x code maxLocals ret, Jvm.Cond.code ({ cls := "com/example/dialplane/dialplane/engine/Area", name := "<init>", desc := "(Ljava/lang/String;IIII)V" } : Jvm.MethodName) prog_5_method_1_code (6 : Nat) (Option.none : Option Jvm.ClassFile.FieldType), Jvm.Cond.code ({ cls := "java/lang/Record", name := "<init>", desc := "()V" } : Jvm.MethodName) jdk_30_method_1_code (1 : Nat) (Option.none : Option Jvm.ClassFile.FieldType), Jvm.Cond.code ({ cls := "java/lang/Object", name := "<init>", desc := "()V" } : Jvm.MethodName) object_method_1_code (1 : Nat) (Option.none : Option Jvm.ClassFile.FieldType), Jvm.Cond.code ({ cls := "java/util/Objects", name := "requireNonNull", desc := "(Ljava/lang/Object;Ljava/lang/String;)Ljava/lang/Object;" } : Jvm.MethodName) jdk_31_method_11_code (2 : Nat) (Option.some (Jvm.ClassFile.FieldType.object "java/lang/Object")), Jvm.Cond.code ({ cls := "com/example/dialplane/dialplane/engine/AreaContainsPinLaw", name := "within", desc := "(III)Z" } : Jvm.MethodName) method_2_code (5 : Nat) (Option.some Jvm.ClassFile.FieldType.boolean), Jvm.Cond.code ({ cls := "com/example/dialplane/dialplane/engine/Area", name := "contains", desc := "(II)Z" } : Jvm.MethodName) prog_5_method_2_code (3 : Nat) (Option.some Jvm.ClassFile.FieldType.boolean)]
set_option maxRecDepth 65536 in
theorem codes_eq : words1.filter isCode = codes1 := rfl
theorem w_codes : ∀ c ∈ words1.filter isCode, c.before args0 about1 = true := by
  rw [codes_eq]
  intro c hc
  simp only [codes1, List.mem_cons, List.not_mem_nil, or_false] at hc
  rcases hc with rfl | rfl | rfl | rfl | rfl | rfl | rfl
  · exact w_c0
  · exact w_c1
  · exact w_c2
  · exact w_c3
  · exact w_c4
  · exact w_c5
  · exact w_c6
set_option maxRecDepth 65536 in
theorem w_t1 : (words1.take 24).all (fun c => isCode c || c.before args0 about1) = true := by decide +kernel
set_option maxRecDepth 65536 in
theorem w_t2 : ((words1.drop 24).take 24).all (fun c => isCode c || c.before args0 about1) = true := by decide +kernel
set_option maxRecDepth 65536 in
theorem w_t3 : ((words1.drop 24).drop 24).all (fun c => isCode c || c.before args0 about1) = true := by decide +kernel
theorem w_tables : (allAtoms (Jvm.Cond.code x code maxLocals ret :: tables_1)).before args0 about1 = true := by
  rw [allAtoms_all]
  show words1.all (fun c => c.before args0 about1) = true
  refine all_split ?_ w_codes
  rw [← List.take_append_drop 24 words1, List.all_append, w_t1, ← List.take_append_drop 24 (words1.drop 24), List.all_append, w_t2, w_t3]
  rfl
set_option maxRecDepth 65536 in
theorem w_case : (Jvm.Cond.and given_1 narrow_1).before args0 about1 = true := by decide +kernel
theorem w_applies : (headSpec (Jvm.Cond.code x code maxLocals ret :: tables_1) room_1).applies x e0.platform about1 = true :=
  (Spec.applies_iff w_frames).mpr ⟨w_running, w_runnable, w_alone, w_named, w_hears, w_ripe, w_room, w_tables⟩
theorem atStart : AtStart classFile x code maxLocals ret World_1 tables_1 room_1 Calls_1 rest_1 Pre_1 launch0 p0 e0 about1 theMethod args0 below0 :=
  ⟨lists_1, trivial, launch0.admits_env _ _ _, launch0.least_env, fairChoices_fair.cas, fairChoices_fair.clock, w_frames, w_args, w_heap, w_applies, trivial, trivial, w_case⟩
end start1
theorem witness_1 : WitnessClaimed_1 := ⟨start1.p0, start1.e0, start1.about1, start1.theMethod, start1.args0, start1.below0, start1.atStart⟩
end Jvm.Pilot.@@N@@
