import JvmDerived
import JvmDerived.Pilot.@@N@@Statement
import JvmDerived.Pilot.@@N@@Code
set_option linter.unusedVariables false
set_option linter.unusedSimpArgs false

namespace Jvm.Pilot.@@N@@
open Jvm Jvm.ClassFile Sem Op Lib Jvm.Free Jvm.Stand Jvm.LawKit Jvm.RoadKit Bundle Jvm.Pilot.@@N@@.Jvm.D
/-- the run from U comes to an end of which P holds -/
def own_Go (tb : Tables) (e : Env) (below : List Frame) (P : Outcome → State → Prop) (U : State) : Prop :=
  ∃ s₂ o, Steps tb e below U s₂ ∧ s₂.status = .running ∧ Ended s₂ below o ∧ P o s₂
theorem own_go {tb : Tables} {e : Env} {below : List Frame} {P : Outcome → State → Prop} {U U' : State} (k : ∀ t, Steps tb e below U' t → Steps tb e below U t) (h : own_Go tb e below P U') : own_Go tb e below P U := by
  obtain ⟨t, o, h1, h2⟩ := h
  exact ⟨t, o, k t h1, h2⟩
section Own
variable {p : Program} {l : Launch} {e : Env} {R : Room} {s : State} {m : MethodId} {args : Array Value} {below : List Frame} {meth : Method} {c : Code} {T : State} {locs : List Loc} {cells slots : Nat}
theorem own_retI (X : Stand p l e R s m args below meth c T locs cells slots) (hx : p.tables.exec = Jvm.exec) {pc : Nat} {Ls : Array Slot} {z : Int32} {rest : List Value} (hret : meth.sig.returnType = some .int) (hd : decode c.code pc = .ok (.ireturn, 1)) {fs : List Frame}
    (hl : ∀ (f : JFrame) (acts : List Action), f.method = m → f.locked = none → f.entered = [] → (doReturn e (T.setTop f) acts (some (.int z))).1 = T.setFrames fs) : Steps p.tables e below (T.setTop (mkF m pc Ls (.int z :: rest))) (T.setFrames fs) := by
  have hm' : T.vm.method? m = some meth := X.method'
  have hn : narrow .int (.int z) = .int z := rfl
  show Steps p.tables e below (T.setTop { method := m, pc := pc, locals := Ls, stack := _ :: rest, locked := none }) _
  jvm_step X.here [X.here.top, hx, hd, hm', hret, hn]
  first | (intro acts; rw [hl _ acts rfl rfl rfl]) | rw [hl _ _ rfl rfl rfl]
  exact Steps.refl _
theorem own_retJ (X : Stand p l e R s m args below meth c T locs cells slots) (hx : p.tables.exec = Jvm.exec) {pc : Nat} {Ls : Array Slot} {z : Int64} {rest : List Value} (hret : meth.sig.returnType = some .long) (hd : decode c.code pc = .ok (.lreturn, 1)) {fs : List Frame}
    (hl : ∀ (f : JFrame) (acts : List Action), f.method = m → f.locked = none → f.entered = [] → (doReturn e (T.setTop f) acts (some (.long z))).1 = T.setFrames fs) : Steps p.tables e below (T.setTop (mkF m pc Ls (.long z :: rest))) (T.setFrames fs) := by
  have hm' : T.vm.method? m = some meth := X.method'
  show Steps p.tables e below (T.setTop { method := m, pc := pc, locals := Ls, stack := _ :: rest, locked := none }) _
  jvm_step X.here [X.here.top, hx, hd, hm', hret, narrow]
  first | (intro acts; rw [hl _ acts rfl rfl rfl]) | rw [hl _ _ rfl rfl rfl]
  exact Steps.refl _
theorem own_mapI (xs : List Int32) (i : Nat) : (xs.map Value.int).getD i (.int 0) = .int (xs.getD i 0) := by
  simp only [List.getD_eq_getElem?_getD, List.getElem?_map]; cases xs[i]? <;> rfl
theorem own_mapJ (xs : List Int64) (i : Nat) : (xs.map Value.long).getD i (.long 0) = .long (xs.getD i 0) := by
  simp only [List.getD_eq_getElem?_getD, List.getElem?_map]; cases xs[i]? <;> rfl
theorem own_kx {h h' : Heap} (K : Keep h h' []) : Ext h h' := ⟨K.1, fun a c q => K.2.1 a c q (by simp)⟩
theorem own_retA (X : Stand p l e R s m args below meth c T locs cells slots) (hx : p.tables.exec = Jvm.exec) {pc : Nat} {Ls : Array Slot} {z : Addr} {rest : List Value} {C : String} (hret : meth.sig.returnType = some (.object C)) (hd : decode c.code pc = .ok (.areturn, 1)) {fs : List Frame}
    (hl : ∀ (f : JFrame) (acts : List Action), f.method = m → f.locked = none → f.entered = [] → (doReturn e (T.setTop f) acts (some (.ref z))).1 = T.setFrames fs) : Steps p.tables e below (T.setTop (mkF m pc Ls (.ref z :: rest))) (T.setFrames fs) := by
  have hm' : T.vm.method? m = some meth := X.method'
  show Steps p.tables e below (T.setTop { method := m, pc := pc, locals := Ls, stack := _ :: rest, locked := none }) _
  jvm_step X.here [X.here.top, hx, hd, hm', hret, Value.isRef, FieldType.isReference]
  first | (intro acts; rw [hl _ acts rfl rfl rfl]) | rw [hl _ _ rfl rfl rfl]
  exact Steps.refl _
theorem own_endH {Q : Option Value → Heap → List Loc → Prop} {kc ks n : Nat} {vm₁ : Vm} {Z : State} {EL : List (String × Nat)} (X : Stand p l e R (s.setVm vm₁) m args below meth c T locs cells slots) (hC : CHr Z EL s.vm s.heap T.vm T.heap) (hS : s.Since vm₁ n) (hn : n ≤ T.heap.size) (hlocks : meth.locks = false) {g : JFrame} {v : Option Value}
    (hv : meth.sig.returnType = none → v = none)
    (hs : ∀ fs, (∀ (f : JFrame) (acts : List Action), f.method = m → f.locked = none → f.entered = [] → (doReturn e (T.setTop f) acts v).1 = T.setFrames fs) → Steps p.tables e below (T.setTop g) (T.setFrames fs))
    (hQ : Q v T.heap locs) (h1 : cells ≤ kc) (h2 : slots ≤ ks) :
    own_Go p.tables e below (fun o U' => ∃ v L, o = .returned v ∧ Q v U'.heap L ∧ CHr Z EL s.vm s.heap U'.vm U'.heap ∧ ReturnedEndW s o U' L kc ks) (T.setTop g) := by
  obtain ⟨fs, hr, hrun, hended, h3, h4, h5, h6⟩ := X.leaveW hS hn (v := v) hv hlocks
  exact ⟨_, _, hs fs hr, hrun, hended, _, _, rfl, hQ, hC, h3, h4, h5, h6.mono h1 h2⟩
theorem own_endW {Q : Option Value → Heap → List Loc → Prop} {kc ks n : Nat} {vm₁ : Vm} (X : Stand p l e R (s.setVm vm₁) m args below meth c T locs cells slots) (hS : s.Since vm₁ n) (hn : n ≤ T.heap.size) (hlocks : meth.locks = false) {g : JFrame} {v : Option Value}
    (hv : meth.sig.returnType = none → v = none)
    (hs : ∀ fs, (∀ (f : JFrame) (acts : List Action), f.method = m → f.locked = none → f.entered = [] → (doReturn e (T.setTop f) acts v).1 = T.setFrames fs) → Steps p.tables e below (T.setTop g) (T.setFrames fs))
    (hQ : Q v T.heap locs) (h1 : cells ≤ kc) (h2 : slots ≤ ks) :
    own_Go p.tables e below (fun o U' => ∃ v L, o = .returned v ∧ Q v U'.heap L ∧ ReturnedEndW s o U' L kc ks) (T.setTop g) := by
  obtain ⟨fs, hr, hrun, hended, h3, h4, h5, h6⟩ := X.leaveW hS hn (v := v) hv hlocks
  exact ⟨_, _, hs fs hr, hrun, hended, _, _, rfl, hQ, h3, h4, h5, h6.mono h1 h2⟩
theorem own_end {Q : Option Value → Heap → List Loc → Prop} {kc ks : Nat} (X : Stand p l e R s m args below meth c T locs cells slots) (hlocks : meth.locks = false) {g : JFrame} {v : Option Value}
    (hv : meth.sig.returnType = none → v = none)
    (hs : ∀ fs, (∀ (f : JFrame) (acts : List Action), f.method = m → f.locked = none → f.entered = [] → (doReturn e (T.setTop f) acts v).1 = T.setFrames fs) → Steps p.tables e below (T.setTop g) (T.setFrames fs))
    (hQ : Q v T.heap locs) (h1 : cells ≤ kc) (h2 : slots ≤ ks) :
    own_Go p.tables e below (fun o U' => ∃ v L, o = .returned v ∧ Q v U'.heap L ∧ FrameEnd s o U' L kc ks) (T.setTop g) := by
  obtain ⟨fs, hr, hrun, hended, hW, hsame⟩ := X.leave (v := v) hv hlocks
  exact ⟨_, _, hs fs hr, hrun, hended, _, _, rfl, hQ, ⟨_, rfl⟩, hW, hsame.mono h1 h2⟩
end Own
theorem d1_0 : decode jdk_30_method_1_code 0 = .ok (.aload_n 0, 1) := by decide +kernel
theorem d1_1 : decode jdk_30_method_1_code 1 = .ok (.invokespecial 1, 3) := by decide +kernel
theorem d1_4 : decode jdk_30_method_1_code 4 = .ok (.return_, 1) := by decide +kernel
theorem pn1 : plainName "java/lang/Record" = true := by first | (simp [plainName, overriddenIn]; done) | decide +kernel
theorem ef1 (m : MethodId) (a0 : Addr) : entryFrame m #[(.ref a0)] 1 = mkF m 0 #[.val (.ref a0)] [] := by first | (simp [entryFrame, mkF, argsToLocals, Value.category]; done) | rfl
def own_Q1 (Z : State) (a0 : Addr) (h0 : Heap) (n0 : Nat) (v : Option Value) (h : Heap) (L : List Loc) : Prop := v = none ∧ Fr n0 L ∧ h = h0
set_option maxRecDepth 65536 in
set_option maxHeartbeats 40000000 in
theorem rm1 (l : Launch) (Z : State) (az : Array Value) (hw : ∀ d ∈ tables_1, d.before az Z = true) (ws : List Jvm.Cond) (a0 : Addr) (h0 : Heap) (n0 : Nat) (Z0 : n0 ≤ h0.size) :
    MetFree l (⟨"java/lang/Record", "<init>", "()V"⟩ : MethodName) (head1 (Jvm.Cond.code (⟨"java/lang/Record", "<init>", "()V"⟩ : MethodName) jdk_30_method_1_code 1 none :: ws) ({ frames := 1, cells := 0, slots := 0, locals := 12 } : Room)) (fun a U => a = #[(.ref a0)] ∧ Z.Warmed39 U.vm ∧ U.heap = h0) (fun _ _ _ _ _ => True) (fun _ U o U' => ∃ v L, o = .returned v ∧ own_Q1 Z a0 h0 n0 v U'.heap L ∧ FrameEnd U o U' L ({ frames := 1, cells := 0, slots := 0, locals := 12 } : Room).cells ({ frames := 1, cells := 0, slots := 0, locals := 12 } : Room).slots) := by
  refine MetFree.of_bodySF (plainFor_of_name pn1) hisR ?_
  intro p e s m args below meth c s₁ Bd hml0 hP hK
  obtain ⟨rfl, hZ, hh⟩ := hP
  have hx := Bd.exec
  have hby := Bd.bytes
  have hml : c.maxLocals = 1 := hml0
  have hown : s.vm.findClass "java/lang/Record" = some m.cls := findClass_of_methodNamed Bd.named
  have hnm := (name_of_methodNamed Bd.named Bd.method).1
  have X0 : Stand p l e ({ frames := 1, cells := 0, slots := 0, locals := 12 } : Room) s m #[(.ref a0)] below meth c s₁ [] 0 0 := Stand.of_body Bd
  have e0 : s₁.heap = h0 := by rw [← hh, Bd.state]; rfl
  have N0 := Fr.nil n0
  show own_Go p.tables e below (fun o U' => ∃ v L, o = .returned v ∧ own_Q1 Z a0 h0 n0 v U'.heap L ∧ FrameEnd s o U' L ({ frames := 1, cells := 0, slots := 0, locals := 12 } : Room).cells ({ frames := 1, cells := 0, slots := 0, locals := 12 } : Room).slots) (s₁.setTop (entryFrame m #[(.ref a0)] 1))
  refine own_go (fun _ k => castTop (ef1 m a0) k) ?_
  show own_Go p.tables e below _ (s₁.setTop (mkF m 0 #[.val (.ref a0)] []))
  refine own_go (fun _ k => XS.aloadN X0.here hx rfl (hb hby d1_0) rfl rfl k) ?_
  show own_Go p.tables e below _ (s₁.setTop (mkF m 1 #[.val (.ref a0)] [(.ref a0)]))
  obtain ⟨T1, X1, e1, st1⟩ := initO X0 hx hZ hown (hw _ (List.mem_of_getElem? (i := 11) rfl)) (hw _ (List.mem_of_getElem? (i := 12) rfl)) (hw _ (List.mem_of_getElem? (i := 13) rfl)) e0 (g := (mkF m 1 #[.val (.ref a0)] [(.ref a0)])) rfl (by rw [hml]; rfl) rfl (hb hby d1_1) (by decide) (W := 0) (by show 2 * 0 + _ ≤ _; exact Nat.le_of_eq rfl) (by decide)
  refine own_go st1 ?_
  show own_Go p.tables e below _ (T1.setTop (mkF m 4 #[.val (.ref a0)] []))
  refine own_end X1 Bd.notSynchronized (v := none) (fun _ => rfl) (fun fs hr => X1.returnOut hx Bd.returns (hb hby d1_4) hr) ?_ (by decide) (by decide)
  exact ⟨rfl, N0, e1⟩
theorem d2_0 : decode prog_25_method_1_code 0 = .ok (.aload_n 0, 1) := by decide +kernel
theorem d2_1 : decode prog_25_method_1_code 1 = .ok (.invokespecial 1, 3) := by decide +kernel
theorem d2_4 : decode prog_25_method_1_code 4 = .ok (.aload_n 0, 1) := by decide +kernel
theorem d2_5 : decode prog_25_method_1_code 5 = .ok (.aload_n 1, 1) := by decide +kernel
theorem d2_6 : decode prog_25_method_1_code 6 = .ok (.putfield 7, 3) := by decide +kernel
theorem d2_9 : decode prog_25_method_1_code 9 = .ok (.aload_n 0, 1) := by decide +kernel
theorem d2_10 : decode prog_25_method_1_code 10 = .ok (.aload_n 2, 1) := by decide +kernel
theorem d2_11 : decode prog_25_method_1_code 11 = .ok (.putfield 13, 3) := by decide +kernel
theorem d2_14 : decode prog_25_method_1_code 14 = .ok (.aload_n 0, 1) := by decide +kernel
theorem d2_15 : decode prog_25_method_1_code 15 = .ok (.aload_n 3, 1) := by decide +kernel
theorem d2_16 : decode prog_25_method_1_code 16 = .ok (.putfield 16, 3) := by decide +kernel
theorem d2_19 : decode prog_25_method_1_code 19 = .ok (.aload_n 0, 1) := by decide +kernel
theorem d2_20 : decode prog_25_method_1_code 20 = .ok (.aload 4, 2) := by decide +kernel
theorem d2_22 : decode prog_25_method_1_code 22 = .ok (.putfield 19, 3) := by decide +kernel
theorem d2_25 : decode prog_25_method_1_code 25 = .ok (.aload_n 0, 1) := by decide +kernel
theorem d2_26 : decode prog_25_method_1_code 26 = .ok (.aload 5, 2) := by decide +kernel
theorem d2_28 : decode prog_25_method_1_code 28 = .ok (.putfield 22, 3) := by decide +kernel
theorem d2_31 : decode prog_25_method_1_code 31 = .ok (.aload_n 0, 1) := by decide +kernel
theorem d2_32 : decode prog_25_method_1_code 32 = .ok (.aload 6, 2) := by decide +kernel
theorem d2_34 : decode prog_25_method_1_code 34 = .ok (.putfield 25, 3) := by decide +kernel
theorem d2_37 : decode prog_25_method_1_code 37 = .ok (.aload_n 0, 1) := by decide +kernel
theorem d2_38 : decode prog_25_method_1_code 38 = .ok (.aload 7, 2) := by decide +kernel
theorem d2_40 : decode prog_25_method_1_code 40 = .ok (.putfield 28, 3) := by decide +kernel
theorem d2_43 : decode prog_25_method_1_code 43 = .ok (.aload_n 0, 1) := by decide +kernel
theorem d2_44 : decode prog_25_method_1_code 44 = .ok (.lload 8, 2) := by decide +kernel
theorem d2_46 : decode prog_25_method_1_code 46 = .ok (.putfield 32, 3) := by decide +kernel
theorem d2_49 : decode prog_25_method_1_code 49 = .ok (.aload_n 0, 1) := by decide +kernel
theorem d2_50 : decode prog_25_method_1_code 50 = .ok (.iload 10, 2) := by decide +kernel
theorem d2_52 : decode prog_25_method_1_code 52 = .ok (.putfield 36, 3) := by decide +kernel
theorem d2_55 : decode prog_25_method_1_code 55 = .ok (.aload_n 0, 1) := by decide +kernel
theorem d2_56 : decode prog_25_method_1_code 56 = .ok (.iload 11, 2) := by decide +kernel
theorem d2_58 : decode prog_25_method_1_code 58 = .ok (.putfield 40, 3) := by decide +kernel
theorem d2_61 : decode prog_25_method_1_code 61 = .ok (.return_, 1) := by decide +kernel
theorem pn2 : plainName "com/example/vestibule/vestibule/http/RequestHead" = true := by first | (simp [plainName, overriddenIn]; done) | decide +kernel
theorem pd2_0 : parseMethodDescriptor "()V" = some ⟨[], none⟩ := by decide +kernel
theorem ef2 (m : MethodId) (a0 : Addr) (q8 : Int64) (p9 : Int32) (p10 : Int32) : entryFrame m #[(.ref a0), .null, .null, .null, .null, .null, .null, .null, (.long q8), (.int p9), (.int p10)] 12 = mkF m 0 #[.val (.ref a0), .val .null, .val .null, .val .null, .val .null, .val .null, .val .null, .val .null, .val (.long q8), .second, .val (.int p9), .val (.int p10)] [] := by first | (simp [entryFrame, mkF, argsToLocals, Value.category]; done) | rfl
def own_Q2 (Z : State) (a0 : Addr) (q8 : Int64) (p9 : Int32) (p10 : Int32) (h0 : Heap) (n0 : Nat) (v : Option Value) (h : Heap) (L : List Loc) : Prop := v = none ∧ Fr n0 L ∧ Keep h0 h [a0] ∧ Exa Z h a0 "com/example/vestibule/vestibule/http/RequestHead" ∧ Fld Z h a0 "com/example/vestibule/vestibule/http/RequestHead" "method" "Ljava/lang/String;" .null ∧ Fld Z h a0 "com/example/vestibule/vestibule/http/RequestHead" "target" "Ljava/lang/String;" .null ∧ Fld Z h a0 "com/example/vestibule/vestibule/http/RequestHead" "path" "Ljava/lang/String;" .null ∧ Fld Z h a0 "com/example/vestibule/vestibule/http/RequestHead" "query" "Ljava/lang/String;" .null ∧ Fld Z h a0 "com/example/vestibule/vestibule/http/RequestHead" "protocol" "Ljava/lang/String;" .null ∧ Fld Z h a0 "com/example/vestibule/vestibule/http/RequestHead" "authority" "Ljava/lang/String;" .null ∧ Fld Z h a0 "com/example/vestibule/vestibule/http/RequestHead" "headers" "Lcom/example/vestibule/vestibule/http/HttpFields;" .null ∧ Fld Z h a0 "com/example/vestibule/vestibule/http/RequestHead" "contentLength" "J" (.long q8) ∧ Fld Z h a0 "com/example/vestibule/vestibule/http/RequestHead" "keepAlive" "Z" (.int (nar .boolean p9)) ∧ Fld Z h a0 "com/example/vestibule/vestibule/http/RequestHead" "expectContinue" "Z" (.int (nar .boolean p10))
set_option maxRecDepth 65536 in
set_option maxHeartbeats 40000000 in
theorem rm2 (l : Launch) (Z : State) (az : Array Value) (hw : ∀ d ∈ tables_1, d.before az Z = true) (ws : List Jvm.Cond) (a0 : Addr) (q8 : Int64) (p9 : Int32) (p10 : Int32) (h0 : Heap) (n0 : Nat) (Z0 : n0 ≤ h0.size) (F_a0_method : Fld Z h0 a0 "com/example/vestibule/vestibule/http/RequestHead" "method" "Ljava/lang/String;" .null) (F_a0_target : Fld Z h0 a0 "com/example/vestibule/vestibule/http/RequestHead" "target" "Ljava/lang/String;" .null) (F_a0_path : Fld Z h0 a0 "com/example/vestibule/vestibule/http/RequestHead" "path" "Ljava/lang/String;" .null) (F_a0_query : Fld Z h0 a0 "com/example/vestibule/vestibule/http/RequestHead" "query" "Ljava/lang/String;" .null) (F_a0_protocol : Fld Z h0 a0 "com/example/vestibule/vestibule/http/RequestHead" "protocol" "Ljava/lang/String;" .null) (F_a0_authority : Fld Z h0 a0 "com/example/vestibule/vestibule/http/RequestHead" "authority" "Ljava/lang/String;" .null) (F_a0_headers : Fld Z h0 a0 "com/example/vestibule/vestibule/http/RequestHead" "headers" "Lcom/example/vestibule/vestibule/http/HttpFields;" .null) (F_a0_contentLength : Fld Z h0 a0 "com/example/vestibule/vestibule/http/RequestHead" "contentLength" "J" (.long (0 : Int64))) (F_a0_keepAlive : Fld Z h0 a0 "com/example/vestibule/vestibule/http/RequestHead" "keepAlive" "Z" (.int (0 : Int32))) (F_a0_expectContinue : Fld Z h0 a0 "com/example/vestibule/vestibule/http/RequestHead" "expectContinue" "Z" (.int (0 : Int32))) (E_a0 : Exa Z h0 a0 "com/example/vestibule/vestibule/http/RequestHead") (g_a0 : n0 ≤ a0) :
    MetFree l (⟨"com/example/vestibule/vestibule/http/RequestHead", "<init>", "(Ljava/lang/String;Ljava/lang/String;Ljava/lang/String;Ljava/lang/String;Ljava/lang/String;Ljava/lang/String;Lcom/example/vestibule/vestibule/http/HttpFields;JZZ)V"⟩ : MethodName) (head1 (Jvm.Cond.code (⟨"com/example/vestibule/vestibule/http/RequestHead", "<init>", "(Ljava/lang/String;Ljava/lang/String;Ljava/lang/String;Ljava/lang/String;Ljava/lang/String;Ljava/lang/String;Lcom/example/vestibule/vestibule/http/HttpFields;JZZ)V"⟩ : MethodName) prog_25_method_1_code 12 none :: ws) ({ frames := 2, cells := 0, slots := 0, locals := 24 } : Room)) (fun a U => a = #[(.ref a0), .null, .null, .null, .null, .null, .null, .null, (.long q8), (.int p9), (.int p10)] ∧ Z.Warmed39 U.vm ∧ U.heap = h0) (fun _ _ _ _ _ => True) (fun _ U o U' => ∃ v L, o = .returned v ∧ own_Q2 Z a0 q8 p9 p10 h0 n0 v U'.heap L ∧ FrameEnd U o U' L ({ frames := 2, cells := 0, slots := 0, locals := 24 } : Room).cells ({ frames := 2, cells := 0, slots := 0, locals := 24 } : Room).slots) := by
  refine MetFree.of_bodySF (plainFor_of_name pn2) hisR ?_
  intro p e s m args below meth c s₁ Bd hml0 hP hK
  obtain ⟨rfl, hZ, hh⟩ := hP
  have hx := Bd.exec
  have hby := Bd.bytes
  have hml : c.maxLocals = 12 := hml0
  have hown : s.vm.findClass "com/example/vestibule/vestibule/http/RequestHead" = some m.cls := findClass_of_methodNamed Bd.named
  have hnm := (name_of_methodNamed Bd.named Bd.method).1
  have X0 : Stand p l e ({ frames := 2, cells := 0, slots := 0, locals := 24 } : Room) s m #[(.ref a0), .null, .null, .null, .null, .null, .null, .null, (.long q8), (.int p9), (.int p10)] below meth c s₁ [] 0 0 := Stand.of_body Bd
  have e0 : s₁.heap = h0 := by rw [← hh, Bd.state]; rfl
  have N0 := Fr.nil n0
  show own_Go p.tables e below (fun o U' => ∃ v L, o = .returned v ∧ own_Q2 Z a0 q8 p9 p10 h0 n0 v U'.heap L ∧ FrameEnd s o U' L ({ frames := 2, cells := 0, slots := 0, locals := 24 } : Room).cells ({ frames := 2, cells := 0, slots := 0, locals := 24 } : Room).slots) (s₁.setTop (entryFrame m #[(.ref a0), .null, .null, .null, .null, .null, .null, .null, (.long q8), (.int p9), (.int p10)] 12))
  refine own_go (fun _ k => castTop (ef2 m a0 q8 p9 p10) k) ?_
  show own_Go p.tables e below _ (s₁.setTop (mkF m 0 #[.val (.ref a0), .val .null, .val .null, .val .null, .val .null, .val .null, .val .null, .val .null, .val (.long q8), .second, .val (.int p9), .val (.int p10)] []))
  refine own_go (fun _ k => XS.aloadN X0.here hx rfl (hb hby d2_0) rfl rfl k) ?_
  show own_Go p.tables e below _ (s₁.setTop (mkF m 1 #[.val (.ref a0), .val .null, .val .null, .val .null, .val .null, .val .null, .val .null, .val .null, .val (.long q8), .second, .val (.int p9), .val (.int p10)] [(.ref a0)]))
  obtain ⟨_, _, ⟨T1, L1, k1, n1⟩, -, X1, ⟨Lc1, hQ1, l1, y1, z1⟩, st1⟩ := X0.specialBack hx (y := (⟨"java/lang/Record", "<init>", "()V"⟩ : MethodName)) rfl hown (mvT hZ (hw _ (List.mem_of_getElem? (i := 6) rfl))) (mvT hZ (hw _ (List.mem_of_getElem? (i := 7) rfl))) (mvT hZ (hw _ (List.mem_of_getElem? (i := 10) rfl))) (by decide) (backOf (W := 0) (rm1 l Z az hw [] a0 h0 n0 Z0) hZ (hw _ (List.mem_of_getElem? (i := 10) rfl)) (hw _ (List.mem_of_getElem? (i := 9) rfl)) (by decide) (by decide)) (g := (mkF m 1 #[.val (.ref a0), .val .null, .val .null, .val .null, .val .null, .val .null, .val .null, .val .null, .val (.long q8), .second, .val (.int p9), .val (.int p10)] [(.ref a0)])) rfl (by rw [hml]; rfl) (Steps.refl _) (a := a0) (argsL := []) (rest := []) (lenOf pd2_0 rfl) rfl (by show 2 * 0 + _ ≤ _; exact Nat.le_of_eq rfl) (hb hby d2_1) (fun _ _ => ⟨rfl, e0, (by decide : 0 + 0 ≤ _), (by decide : 0 + 0 ≤ _)⟩)
  dsimp only [Pt.U, Pt.locs, Pt.cells, Pt.slots] at X1 l1 y1 z1 st1 hQ1
  subst l1 y1 z1
  refine own_go (fun _ k => st1.trans k) ?_
  obtain ⟨rfl, N1q, e1⟩ := hQ1
  have N1 := Fr.app N0 N1q
  show own_Go p.tables e below _ (T1.setTop (mkF m 4 #[.val (.ref a0), .val .null, .val .null, .val .null, .val .null, .val .null, .val .null, .val .null, .val (.long q8), .second, .val (.int p9), .val (.int p10)] []))
  refine own_go (fun _ k => XS.aloadN X1.here hx rfl (hb hby d2_4) rfl rfl k) ?_
  show own_Go p.tables e below _ (T1.setTop (mkF m 5 #[.val (.ref a0), .val .null, .val .null, .val .null, .val .null, .val .null, .val .null, .val .null, .val (.long q8), .second, .val (.int p9), .val (.int p10)] [(.ref a0)]))
  refine own_go (fun _ k => XS.aloadN X1.here hx rfl (hb hby d2_5) rfl rfl k) ?_
  show own_Go p.tables e below _ (T1.setTop (mkF m 6 #[.val (.ref a0), .val .null, .val .null, .val .null, .val .null, .val .null, .val .null, .val .null, .val (.long q8), .second, .val (.int p9), .val (.int p10)] [.null, (.ref a0)]))
  obtain ⟨T2, h2, X2, e2, W2, st2⟩ := putF X1 hx hZ hown (host := "") (Or.inl (hw _ (List.mem_of_getElem? (i := 14) rfl))) Via.refl (e1 : T1.heap = h0) F_a0_method E_a0 (Or.inr ⟨(hw _ (List.mem_of_getElem? (i := 15) rfl)), rfl, hnm⟩) (hw _ (List.mem_of_getElem? (i := 1) rfl)) (ty := (.object "java/lang/String")) (by decide) rfl rfl (g := (mkF m 6 #[.val (.ref a0), .val .null, .val .null, .val .null, .val .null, .val .null, .val .null, .val .null, .val (.long q8), .second, .val (.int p9), .val (.int p10)] [.null, (.ref a0)])) rfl rfl (hb hby d2_6)
  have N2 := Fr.snoc X2 N1 g_a0
  have c2_0 := F_a0_method.same W2
  have c2_1 := F_a0_target.other W2 (Or.inr (slot_ne (Or.inr (hw _ (List.mem_of_getElem? (i := 17) rfl))) (Or.inr (hw _ (List.mem_of_getElem? (i := 15) rfl))) (by decide) (t := (.object "java/lang/String")) (t' := (.object "java/lang/String")) (by decide) (by decide)))
  have c2_2 := F_a0_path.other W2 (Or.inr (slot_ne (Or.inr (hw _ (List.mem_of_getElem? (i := 19) rfl))) (Or.inr (hw _ (List.mem_of_getElem? (i := 15) rfl))) (by decide) (t := (.object "java/lang/String")) (t' := (.object "java/lang/String")) (by decide) (by decide)))
  have c2_3 := F_a0_query.other W2 (Or.inr (slot_ne (Or.inr (hw _ (List.mem_of_getElem? (i := 21) rfl))) (Or.inr (hw _ (List.mem_of_getElem? (i := 15) rfl))) (by decide) (t := (.object "java/lang/String")) (t' := (.object "java/lang/String")) (by decide) (by decide)))
  have c2_4 := F_a0_protocol.other W2 (Or.inr (slot_ne (Or.inr (hw _ (List.mem_of_getElem? (i := 23) rfl))) (Or.inr (hw _ (List.mem_of_getElem? (i := 15) rfl))) (by decide) (t := (.object "java/lang/String")) (t' := (.object "java/lang/String")) (by decide) (by decide)))
  have c2_5 := F_a0_authority.other W2 (Or.inr (slot_ne (Or.inr (hw _ (List.mem_of_getElem? (i := 25) rfl))) (Or.inr (hw _ (List.mem_of_getElem? (i := 15) rfl))) (by decide) (t := (.object "java/lang/String")) (t' := (.object "java/lang/String")) (by decide) (by decide)))
  have c2_6 := F_a0_headers.other W2 (Or.inr (slot_ne (Or.inr (hw _ (List.mem_of_getElem? (i := 27) rfl))) (Or.inr (hw _ (List.mem_of_getElem? (i := 15) rfl))) (by decide) (t := (.object "com/example/vestibule/vestibule/http/HttpFields")) (t' := (.object "java/lang/String")) (by decide) (by decide)))
  have c2_7 := F_a0_contentLength.other W2 (Or.inr (slot_ne (Or.inr (hw _ (List.mem_of_getElem? (i := 29) rfl))) (Or.inr (hw _ (List.mem_of_getElem? (i := 15) rfl))) (by decide) (t := .long) (t' := (.object "java/lang/String")) (by decide) (by decide)))
  have c2_8 := F_a0_keepAlive.other W2 (Or.inr (slot_ne (Or.inr (hw _ (List.mem_of_getElem? (i := 31) rfl))) (Or.inr (hw _ (List.mem_of_getElem? (i := 15) rfl))) (by decide) (t := .boolean) (t' := (.object "java/lang/String")) (by decide) (by decide)))
  have c2_9 := F_a0_expectContinue.other W2 (Or.inr (slot_ne (Or.inr (hw _ (List.mem_of_getElem? (i := 33) rfl))) (Or.inr (hw _ (List.mem_of_getElem? (i := 15) rfl))) (by decide) (t := .boolean) (t' := (.object "java/lang/String")) (by decide) (by decide)))
  have c2_10 := E_a0.wr W2
  have Z2 : n0 ≤ h2.size := Nat.le_trans Z0 (Keep.of_wr W2).1
  have K2 : Keep h0 h2 [a0] := (Keep.refl _ _).wr W2 (Or.inl (List.mem_of_getElem? (i := 0) rfl))
  refine own_go st2 ?_
  show own_Go p.tables e below _ (T2.setTop (mkF m 9 #[.val (.ref a0), .val .null, .val .null, .val .null, .val .null, .val .null, .val .null, .val .null, .val (.long q8), .second, .val (.int p9), .val (.int p10)] []))
  refine own_go (fun _ k => XS.aloadN X2.here hx rfl (hb hby d2_9) rfl rfl k) ?_
  show own_Go p.tables e below _ (T2.setTop (mkF m 10 #[.val (.ref a0), .val .null, .val .null, .val .null, .val .null, .val .null, .val .null, .val .null, .val (.long q8), .second, .val (.int p9), .val (.int p10)] [(.ref a0)]))
  refine own_go (fun _ k => XS.aloadN X2.here hx rfl (hb hby d2_10) rfl rfl k) ?_
  show own_Go p.tables e below _ (T2.setTop (mkF m 11 #[.val (.ref a0), .val .null, .val .null, .val .null, .val .null, .val .null, .val .null, .val .null, .val (.long q8), .second, .val (.int p9), .val (.int p10)] [.null, (.ref a0)]))
  obtain ⟨T3, h3, X3, e3, W3, st3⟩ := putF X2 hx hZ hown (host := "") (Or.inl (hw _ (List.mem_of_getElem? (i := 16) rfl))) Via.refl e2 c2_1 c2_10 (Or.inr ⟨(hw _ (List.mem_of_getElem? (i := 17) rfl)), rfl, hnm⟩) (hw _ (List.mem_of_getElem? (i := 1) rfl)) (ty := (.object "java/lang/String")) (by decide) rfl rfl (g := (mkF m 11 #[.val (.ref a0), .val .null, .val .null, .val .null, .val .null, .val .null, .val .null, .val .null, .val (.long q8), .second, .val (.int p9), .val (.int p10)] [.null, (.ref a0)])) rfl rfl (hb hby d2_11)
  have N3 := Fr.snoc X3 N2 g_a0
  have c3_0 := c2_0.other W3 (Or.inr (slot_ne (Or.inr (hw _ (List.mem_of_getElem? (i := 15) rfl))) (Or.inr (hw _ (List.mem_of_getElem? (i := 17) rfl))) (by decide) (t := (.object "java/lang/String")) (t' := (.object "java/lang/String")) (by decide) (by decide)))
  have c3_1 := c2_1.same W3
  have c3_2 := c2_2.other W3 (Or.inr (slot_ne (Or.inr (hw _ (List.mem_of_getElem? (i := 19) rfl))) (Or.inr (hw _ (List.mem_of_getElem? (i := 17) rfl))) (by decide) (t := (.object "java/lang/String")) (t' := (.object "java/lang/String")) (by decide) (by decide)))
  have c3_3 := c2_3.other W3 (Or.inr (slot_ne (Or.inr (hw _ (List.mem_of_getElem? (i := 21) rfl))) (Or.inr (hw _ (List.mem_of_getElem? (i := 17) rfl))) (by decide) (t := (.object "java/lang/String")) (t' := (.object "java/lang/String")) (by decide) (by decide)))
  have c3_4 := c2_4.other W3 (Or.inr (slot_ne (Or.inr (hw _ (List.mem_of_getElem? (i := 23) rfl))) (Or.inr (hw _ (List.mem_of_getElem? (i := 17) rfl))) (by decide) (t := (.object "java/lang/String")) (t' := (.object "java/lang/String")) (by decide) (by decide)))
  have c3_5 := c2_5.other W3 (Or.inr (slot_ne (Or.inr (hw _ (List.mem_of_getElem? (i := 25) rfl))) (Or.inr (hw _ (List.mem_of_getElem? (i := 17) rfl))) (by decide) (t := (.object "java/lang/String")) (t' := (.object "java/lang/String")) (by decide) (by decide)))
  have c3_6 := c2_6.other W3 (Or.inr (slot_ne (Or.inr (hw _ (List.mem_of_getElem? (i := 27) rfl))) (Or.inr (hw _ (List.mem_of_getElem? (i := 17) rfl))) (by decide) (t := (.object "com/example/vestibule/vestibule/http/HttpFields")) (t' := (.object "java/lang/String")) (by decide) (by decide)))
  have c3_7 := c2_7.other W3 (Or.inr (slot_ne (Or.inr (hw _ (List.mem_of_getElem? (i := 29) rfl))) (Or.inr (hw _ (List.mem_of_getElem? (i := 17) rfl))) (by decide) (t := .long) (t' := (.object "java/lang/String")) (by decide) (by decide)))
  have c3_8 := c2_8.other W3 (Or.inr (slot_ne (Or.inr (hw _ (List.mem_of_getElem? (i := 31) rfl))) (Or.inr (hw _ (List.mem_of_getElem? (i := 17) rfl))) (by decide) (t := .boolean) (t' := (.object "java/lang/String")) (by decide) (by decide)))
  have c3_9 := c2_9.other W3 (Or.inr (slot_ne (Or.inr (hw _ (List.mem_of_getElem? (i := 33) rfl))) (Or.inr (hw _ (List.mem_of_getElem? (i := 17) rfl))) (by decide) (t := .boolean) (t' := (.object "java/lang/String")) (by decide) (by decide)))
  have c3_10 := c2_10.wr W3
  have Z3 : n0 ≤ h3.size := Nat.le_trans Z2 (Keep.of_wr W3).1
  have K3 : Keep h0 h3 [a0] := K2.wr W3 (Or.inl (List.mem_of_getElem? (i := 0) rfl))
  refine own_go st3 ?_
  show own_Go p.tables e below _ (T3.setTop (mkF m 14 #[.val (.ref a0), .val .null, .val .null, .val .null, .val .null, .val .null, .val .null, .val .null, .val (.long q8), .second, .val (.int p9), .val (.int p10)] []))
  refine own_go (fun _ k => XS.aloadN X3.here hx rfl (hb hby d2_14) rfl rfl k) ?_
  show own_Go p.tables e below _ (T3.setTop (mkF m 15 #[.val (.ref a0), .val .null, .val .null, .val .null, .val .null, .val .null, .val .null, .val .null, .val (.long q8), .second, .val (.int p9), .val (.int p10)] [(.ref a0)]))
  refine own_go (fun _ k => XS.aloadN X3.here hx rfl (hb hby d2_15) rfl rfl k) ?_
  show own_Go p.tables e below _ (T3.setTop (mkF m 16 #[.val (.ref a0), .val .null, .val .null, .val .null, .val .null, .val .null, .val .null, .val .null, .val (.long q8), .second, .val (.int p9), .val (.int p10)] [.null, (.ref a0)]))
  obtain ⟨T4, h4, X4, e4, W4, st4⟩ := putF X3 hx hZ hown (host := "") (Or.inl (hw _ (List.mem_of_getElem? (i := 18) rfl))) Via.refl e3 c3_2 c3_10 (Or.inr ⟨(hw _ (List.mem_of_getElem? (i := 19) rfl)), rfl, hnm⟩) (hw _ (List.mem_of_getElem? (i := 1) rfl)) (ty := (.object "java/lang/String")) (by decide) rfl rfl (g := (mkF m 16 #[.val (.ref a0), .val .null, .val .null, .val .null, .val .null, .val .null, .val .null, .val .null, .val (.long q8), .second, .val (.int p9), .val (.int p10)] [.null, (.ref a0)])) rfl rfl (hb hby d2_16)
  have N4 := Fr.snoc X4 N3 g_a0
  have c4_0 := c3_0.other W4 (Or.inr (slot_ne (Or.inr (hw _ (List.mem_of_getElem? (i := 15) rfl))) (Or.inr (hw _ (List.mem_of_getElem? (i := 19) rfl))) (by decide) (t := (.object "java/lang/String")) (t' := (.object "java/lang/String")) (by decide) (by decide)))
  have c4_1 := c3_1.other W4 (Or.inr (slot_ne (Or.inr (hw _ (List.mem_of_getElem? (i := 17) rfl))) (Or.inr (hw _ (List.mem_of_getElem? (i := 19) rfl))) (by decide) (t := (.object "java/lang/String")) (t' := (.object "java/lang/String")) (by decide) (by decide)))
  have c4_2 := c3_2.same W4
  have c4_3 := c3_3.other W4 (Or.inr (slot_ne (Or.inr (hw _ (List.mem_of_getElem? (i := 21) rfl))) (Or.inr (hw _ (List.mem_of_getElem? (i := 19) rfl))) (by decide) (t := (.object "java/lang/String")) (t' := (.object "java/lang/String")) (by decide) (by decide)))
  have c4_4 := c3_4.other W4 (Or.inr (slot_ne (Or.inr (hw _ (List.mem_of_getElem? (i := 23) rfl))) (Or.inr (hw _ (List.mem_of_getElem? (i := 19) rfl))) (by decide) (t := (.object "java/lang/String")) (t' := (.object "java/lang/String")) (by decide) (by decide)))
  have c4_5 := c3_5.other W4 (Or.inr (slot_ne (Or.inr (hw _ (List.mem_of_getElem? (i := 25) rfl))) (Or.inr (hw _ (List.mem_of_getElem? (i := 19) rfl))) (by decide) (t := (.object "java/lang/String")) (t' := (.object "java/lang/String")) (by decide) (by decide)))
  have c4_6 := c3_6.other W4 (Or.inr (slot_ne (Or.inr (hw _ (List.mem_of_getElem? (i := 27) rfl))) (Or.inr (hw _ (List.mem_of_getElem? (i := 19) rfl))) (by decide) (t := (.object "com/example/vestibule/vestibule/http/HttpFields")) (t' := (.object "java/lang/String")) (by decide) (by decide)))
  have c4_7 := c3_7.other W4 (Or.inr (slot_ne (Or.inr (hw _ (List.mem_of_getElem? (i := 29) rfl))) (Or.inr (hw _ (List.mem_of_getElem? (i := 19) rfl))) (by decide) (t := .long) (t' := (.object "java/lang/String")) (by decide) (by decide)))
  have c4_8 := c3_8.other W4 (Or.inr (slot_ne (Or.inr (hw _ (List.mem_of_getElem? (i := 31) rfl))) (Or.inr (hw _ (List.mem_of_getElem? (i := 19) rfl))) (by decide) (t := .boolean) (t' := (.object "java/lang/String")) (by decide) (by decide)))
  have c4_9 := c3_9.other W4 (Or.inr (slot_ne (Or.inr (hw _ (List.mem_of_getElem? (i := 33) rfl))) (Or.inr (hw _ (List.mem_of_getElem? (i := 19) rfl))) (by decide) (t := .boolean) (t' := (.object "java/lang/String")) (by decide) (by decide)))
  have c4_10 := c3_10.wr W4
  have Z4 : n0 ≤ h4.size := Nat.le_trans Z3 (Keep.of_wr W4).1
  have K4 : Keep h0 h4 [a0] := K3.wr W4 (Or.inl (List.mem_of_getElem? (i := 0) rfl))
  refine own_go st4 ?_
  show own_Go p.tables e below _ (T4.setTop (mkF m 19 #[.val (.ref a0), .val .null, .val .null, .val .null, .val .null, .val .null, .val .null, .val .null, .val (.long q8), .second, .val (.int p9), .val (.int p10)] []))
  refine own_go (fun _ k => XS.aloadN X4.here hx rfl (hb hby d2_19) rfl rfl k) ?_
  show own_Go p.tables e below _ (T4.setTop (mkF m 20 #[.val (.ref a0), .val .null, .val .null, .val .null, .val .null, .val .null, .val .null, .val .null, .val (.long q8), .second, .val (.int p9), .val (.int p10)] [(.ref a0)]))
  refine own_go (fun _ k => XS.aload X4.here hx rfl (hb hby d2_20) rfl rfl k) ?_
  show own_Go p.tables e below _ (T4.setTop (mkF m 22 #[.val (.ref a0), .val .null, .val .null, .val .null, .val .null, .val .null, .val .null, .val .null, .val (.long q8), .second, .val (.int p9), .val (.int p10)] [.null, (.ref a0)]))
  obtain ⟨T5, h5, X5, e5, W5, st5⟩ := putF X4 hx hZ hown (host := "") (Or.inl (hw _ (List.mem_of_getElem? (i := 20) rfl))) Via.refl e4 c4_3 c4_10 (Or.inr ⟨(hw _ (List.mem_of_getElem? (i := 21) rfl)), rfl, hnm⟩) (hw _ (List.mem_of_getElem? (i := 1) rfl)) (ty := (.object "java/lang/String")) (by decide) rfl rfl (g := (mkF m 22 #[.val (.ref a0), .val .null, .val .null, .val .null, .val .null, .val .null, .val .null, .val .null, .val (.long q8), .second, .val (.int p9), .val (.int p10)] [.null, (.ref a0)])) rfl rfl (hb hby d2_22)
  have N5 := Fr.snoc X5 N4 g_a0
  have c5_0 := c4_0.other W5 (Or.inr (slot_ne (Or.inr (hw _ (List.mem_of_getElem? (i := 15) rfl))) (Or.inr (hw _ (List.mem_of_getElem? (i := 21) rfl))) (by decide) (t := (.object "java/lang/String")) (t' := (.object "java/lang/String")) (by decide) (by decide)))
  have c5_1 := c4_1.other W5 (Or.inr (slot_ne (Or.inr (hw _ (List.mem_of_getElem? (i := 17) rfl))) (Or.inr (hw _ (List.mem_of_getElem? (i := 21) rfl))) (by decide) (t := (.object "java/lang/String")) (t' := (.object "java/lang/String")) (by decide) (by decide)))
  have c5_2 := c4_2.other W5 (Or.inr (slot_ne (Or.inr (hw _ (List.mem_of_getElem? (i := 19) rfl))) (Or.inr (hw _ (List.mem_of_getElem? (i := 21) rfl))) (by decide) (t := (.object "java/lang/String")) (t' := (.object "java/lang/String")) (by decide) (by decide)))
  have c5_3 := c4_3.same W5
  have c5_4 := c4_4.other W5 (Or.inr (slot_ne (Or.inr (hw _ (List.mem_of_getElem? (i := 23) rfl))) (Or.inr (hw _ (List.mem_of_getElem? (i := 21) rfl))) (by decide) (t := (.object "java/lang/String")) (t' := (.object "java/lang/String")) (by decide) (by decide)))
  have c5_5 := c4_5.other W5 (Or.inr (slot_ne (Or.inr (hw _ (List.mem_of_getElem? (i := 25) rfl))) (Or.inr (hw _ (List.mem_of_getElem? (i := 21) rfl))) (by decide) (t := (.object "java/lang/String")) (t' := (.object "java/lang/String")) (by decide) (by decide)))
  have c5_6 := c4_6.other W5 (Or.inr (slot_ne (Or.inr (hw _ (List.mem_of_getElem? (i := 27) rfl))) (Or.inr (hw _ (List.mem_of_getElem? (i := 21) rfl))) (by decide) (t := (.object "com/example/vestibule/vestibule/http/HttpFields")) (t' := (.object "java/lang/String")) (by decide) (by decide)))
  have c5_7 := c4_7.other W5 (Or.inr (slot_ne (Or.inr (hw _ (List.mem_of_getElem? (i := 29) rfl))) (Or.inr (hw _ (List.mem_of_getElem? (i := 21) rfl))) (by decide) (t := .long) (t' := (.object "java/lang/String")) (by decide) (by decide)))
  have c5_8 := c4_8.other W5 (Or.inr (slot_ne (Or.inr (hw _ (List.mem_of_getElem? (i := 31) rfl))) (Or.inr (hw _ (List.mem_of_getElem? (i := 21) rfl))) (by decide) (t := .boolean) (t' := (.object "java/lang/String")) (by decide) (by decide)))
  have c5_9 := c4_9.other W5 (Or.inr (slot_ne (Or.inr (hw _ (List.mem_of_getElem? (i := 33) rfl))) (Or.inr (hw _ (List.mem_of_getElem? (i := 21) rfl))) (by decide) (t := .boolean) (t' := (.object "java/lang/String")) (by decide) (by decide)))
  have c5_10 := c4_10.wr W5
  have Z5 : n0 ≤ h5.size := Nat.le_trans Z4 (Keep.of_wr W5).1
  have K5 : Keep h0 h5 [a0] := K4.wr W5 (Or.inl (List.mem_of_getElem? (i := 0) rfl))
  refine own_go st5 ?_
  show own_Go p.tables e below _ (T5.setTop (mkF m 25 #[.val (.ref a0), .val .null, .val .null, .val .null, .val .null, .val .null, .val .null, .val .null, .val (.long q8), .second, .val (.int p9), .val (.int p10)] []))
  refine own_go (fun _ k => XS.aloadN X5.here hx rfl (hb hby d2_25) rfl rfl k) ?_
  show own_Go p.tables e below _ (T5.setTop (mkF m 26 #[.val (.ref a0), .val .null, .val .null, .val .null, .val .null, .val .null, .val .null, .val .null, .val (.long q8), .second, .val (.int p9), .val (.int p10)] [(.ref a0)]))
  refine own_go (fun _ k => XS.aload X5.here hx rfl (hb hby d2_26) rfl rfl k) ?_
  show own_Go p.tables e below _ (T5.setTop (mkF m 28 #[.val (.ref a0), .val .null, .val .null, .val .null, .val .null, .val .null, .val .null, .val .null, .val (.long q8), .second, .val (.int p9), .val (.int p10)] [.null, (.ref a0)]))
  obtain ⟨T6, h6, X6, e6, W6, st6⟩ := putF X5 hx hZ hown (host := "") (Or.inl (hw _ (List.mem_of_getElem? (i := 22) rfl))) Via.refl e5 c5_4 c5_10 (Or.inr ⟨(hw _ (List.mem_of_getElem? (i := 23) rfl)), rfl, hnm⟩) (hw _ (List.mem_of_getElem? (i := 1) rfl)) (ty := (.object "java/lang/String")) (by decide) rfl rfl (g := (mkF m 28 #[.val (.ref a0), .val .null, .val .null, .val .null, .val .null, .val .null, .val .null, .val .null, .val (.long q8), .second, .val (.int p9), .val (.int p10)] [.null, (.ref a0)])) rfl rfl (hb hby d2_28)
  have N6 := Fr.snoc X6 N5 g_a0
  have c6_0 := c5_0.other W6 (Or.inr (slot_ne (Or.inr (hw _ (List.mem_of_getElem? (i := 15) rfl))) (Or.inr (hw _ (List.mem_of_getElem? (i := 23) rfl))) (by decide) (t := (.object "java/lang/String")) (t' := (.object "java/lang/String")) (by decide) (by decide)))
  have c6_1 := c5_1.other W6 (Or.inr (slot_ne (Or.inr (hw _ (List.mem_of_getElem? (i := 17) rfl))) (Or.inr (hw _ (List.mem_of_getElem? (i := 23) rfl))) (by decide) (t := (.object "java/lang/String")) (t' := (.object "java/lang/String")) (by decide) (by decide)))
  have c6_2 := c5_2.other W6 (Or.inr (slot_ne (Or.inr (hw _ (List.mem_of_getElem? (i := 19) rfl))) (Or.inr (hw _ (List.mem_of_getElem? (i := 23) rfl))) (by decide) (t := (.object "java/lang/String")) (t' := (.object "java/lang/String")) (by decide) (by decide)))
  have c6_3 := c5_3.other W6 (Or.inr (slot_ne (Or.inr (hw _ (List.mem_of_getElem? (i := 21) rfl))) (Or.inr (hw _ (List.mem_of_getElem? (i := 23) rfl))) (by decide) (t := (.object "java/lang/String")) (t' := (.object "java/lang/String")) (by decide) (by decide)))
  have c6_4 := c5_4.same W6
  have c6_5 := c5_5.other W6 (Or.inr (slot_ne (Or.inr (hw _ (List.mem_of_getElem? (i := 25) rfl))) (Or.inr (hw _ (List.mem_of_getElem? (i := 23) rfl))) (by decide) (t := (.object "java/lang/String")) (t' := (.object "java/lang/String")) (by decide) (by decide)))
  have c6_6 := c5_6.other W6 (Or.inr (slot_ne (Or.inr (hw _ (List.mem_of_getElem? (i := 27) rfl))) (Or.inr (hw _ (List.mem_of_getElem? (i := 23) rfl))) (by decide) (t := (.object "com/example/vestibule/vestibule/http/HttpFields")) (t' := (.object "java/lang/String")) (by decide) (by decide)))
  have c6_7 := c5_7.other W6 (Or.inr (slot_ne (Or.inr (hw _ (List.mem_of_getElem? (i := 29) rfl))) (Or.inr (hw _ (List.mem_of_getElem? (i := 23) rfl))) (by decide) (t := .long) (t' := (.object "java/lang/String")) (by decide) (by decide)))
  have c6_8 := c5_8.other W6 (Or.inr (slot_ne (Or.inr (hw _ (List.mem_of_getElem? (i := 31) rfl))) (Or.inr (hw _ (List.mem_of_getElem? (i := 23) rfl))) (by decide) (t := .boolean) (t' := (.object "java/lang/String")) (by decide) (by decide)))
  have c6_9 := c5_9.other W6 (Or.inr (slot_ne (Or.inr (hw _ (List.mem_of_getElem? (i := 33) rfl))) (Or.inr (hw _ (List.mem_of_getElem? (i := 23) rfl))) (by decide) (t := .boolean) (t' := (.object "java/lang/String")) (by decide) (by decide)))
  have c6_10 := c5_10.wr W6
  have Z6 : n0 ≤ h6.size := Nat.le_trans Z5 (Keep.of_wr W6).1
  have K6 : Keep h0 h6 [a0] := K5.wr W6 (Or.inl (List.mem_of_getElem? (i := 0) rfl))
  refine own_go st6 ?_
  show own_Go p.tables e below _ (T6.setTop (mkF m 31 #[.val (.ref a0), .val .null, .val .null, .val .null, .val .null, .val .null, .val .null, .val .null, .val (.long q8), .second, .val (.int p9), .val (.int p10)] []))
  refine own_go (fun _ k => XS.aloadN X6.here hx rfl (hb hby d2_31) rfl rfl k) ?_
  show own_Go p.tables e below _ (T6.setTop (mkF m 32 #[.val (.ref a0), .val .null, .val .null, .val .null, .val .null, .val .null, .val .null, .val .null, .val (.long q8), .second, .val (.int p9), .val (.int p10)] [(.ref a0)]))
  refine own_go (fun _ k => XS.aload X6.here hx rfl (hb hby d2_32) rfl rfl k) ?_
  show own_Go p.tables e below _ (T6.setTop (mkF m 34 #[.val (.ref a0), .val .null, .val .null, .val .null, .val .null, .val .null, .val .null, .val .null, .val (.long q8), .second, .val (.int p9), .val (.int p10)] [.null, (.ref a0)]))
  obtain ⟨T7, h7, X7, e7, W7, st7⟩ := putF X6 hx hZ hown (host := "") (Or.inl (hw _ (List.mem_of_getElem? (i := 24) rfl))) Via.refl e6 c6_5 c6_10 (Or.inr ⟨(hw _ (List.mem_of_getElem? (i := 25) rfl)), rfl, hnm⟩) (hw _ (List.mem_of_getElem? (i := 1) rfl)) (ty := (.object "java/lang/String")) (by decide) rfl rfl (g := (mkF m 34 #[.val (.ref a0), .val .null, .val .null, .val .null, .val .null, .val .null, .val .null, .val .null, .val (.long q8), .second, .val (.int p9), .val (.int p10)] [.null, (.ref a0)])) rfl rfl (hb hby d2_34)
  have N7 := Fr.snoc X7 N6 g_a0
  have c7_0 := c6_0.other W7 (Or.inr (slot_ne (Or.inr (hw _ (List.mem_of_getElem? (i := 15) rfl))) (Or.inr (hw _ (List.mem_of_getElem? (i := 25) rfl))) (by decide) (t := (.object "java/lang/String")) (t' := (.object "java/lang/String")) (by decide) (by decide)))
  have c7_1 := c6_1.other W7 (Or.inr (slot_ne (Or.inr (hw _ (List.mem_of_getElem? (i := 17) rfl))) (Or.inr (hw _ (List.mem_of_getElem? (i := 25) rfl))) (by decide) (t := (.object "java/lang/String")) (t' := (.object "java/lang/String")) (by decide) (by decide)))
  have c7_2 := c6_2.other W7 (Or.inr (slot_ne (Or.inr (hw _ (List.mem_of_getElem? (i := 19) rfl))) (Or.inr (hw _ (List.mem_of_getElem? (i := 25) rfl))) (by decide) (t := (.object "java/lang/String")) (t' := (.object "java/lang/String")) (by decide) (by decide)))
  have c7_3 := c6_3.other W7 (Or.inr (slot_ne (Or.inr (hw _ (List.mem_of_getElem? (i := 21) rfl))) (Or.inr (hw _ (List.mem_of_getElem? (i := 25) rfl))) (by decide) (t := (.object "java/lang/String")) (t' := (.object "java/lang/String")) (by decide) (by decide)))
  have c7_4 := c6_4.other W7 (Or.inr (slot_ne (Or.inr (hw _ (List.mem_of_getElem? (i := 23) rfl))) (Or.inr (hw _ (List.mem_of_getElem? (i := 25) rfl))) (by decide) (t := (.object "java/lang/String")) (t' := (.object "java/lang/String")) (by decide) (by decide)))
  have c7_5 := c6_5.same W7
  have c7_6 := c6_6.other W7 (Or.inr (slot_ne (Or.inr (hw _ (List.mem_of_getElem? (i := 27) rfl))) (Or.inr (hw _ (List.mem_of_getElem? (i := 25) rfl))) (by decide) (t := (.object "com/example/vestibule/vestibule/http/HttpFields")) (t' := (.object "java/lang/String")) (by decide) (by decide)))
  have c7_7 := c6_7.other W7 (Or.inr (slot_ne (Or.inr (hw _ (List.mem_of_getElem? (i := 29) rfl))) (Or.inr (hw _ (List.mem_of_getElem? (i := 25) rfl))) (by decide) (t := .long) (t' := (.object "java/lang/String")) (by decide) (by decide)))
  have c7_8 := c6_8.other W7 (Or.inr (slot_ne (Or.inr (hw _ (List.mem_of_getElem? (i := 31) rfl))) (Or.inr (hw _ (List.mem_of_getElem? (i := 25) rfl))) (by decide) (t := .boolean) (t' := (.object "java/lang/String")) (by decide) (by decide)))
  have c7_9 := c6_9.other W7 (Or.inr (slot_ne (Or.inr (hw _ (List.mem_of_getElem? (i := 33) rfl))) (Or.inr (hw _ (List.mem_of_getElem? (i := 25) rfl))) (by decide) (t := .boolean) (t' := (.object "java/lang/String")) (by decide) (by decide)))
  have c7_10 := c6_10.wr W7
  have Z7 : n0 ≤ h7.size := Nat.le_trans Z6 (Keep.of_wr W7).1
  have K7 : Keep h0 h7 [a0] := K6.wr W7 (Or.inl (List.mem_of_getElem? (i := 0) rfl))
  refine own_go st7 ?_
  show own_Go p.tables e below _ (T7.setTop (mkF m 37 #[.val (.ref a0), .val .null, .val .null, .val .null, .val .null, .val .null, .val .null, .val .null, .val (.long q8), .second, .val (.int p9), .val (.int p10)] []))
  refine own_go (fun _ k => XS.aloadN X7.here hx rfl (hb hby d2_37) rfl rfl k) ?_
  show own_Go p.tables e below _ (T7.setTop (mkF m 38 #[.val (.ref a0), .val .null, .val .null, .val .null, .val .null, .val .null, .val .null, .val .null, .val (.long q8), .second, .val (.int p9), .val (.int p10)] [(.ref a0)]))
  refine own_go (fun _ k => XS.aload X7.here hx rfl (hb hby d2_38) rfl rfl k) ?_
  show own_Go p.tables e below _ (T7.setTop (mkF m 40 #[.val (.ref a0), .val .null, .val .null, .val .null, .val .null, .val .null, .val .null, .val .null, .val (.long q8), .second, .val (.int p9), .val (.int p10)] [.null, (.ref a0)]))
  obtain ⟨T8, h8, X8, e8, W8, st8⟩ := putF X7 hx hZ hown (host := "") (Or.inl (hw _ (List.mem_of_getElem? (i := 26) rfl))) Via.refl e7 c7_6 c7_10 (Or.inr ⟨(hw _ (List.mem_of_getElem? (i := 27) rfl)), rfl, hnm⟩) (hw _ (List.mem_of_getElem? (i := 1) rfl)) (ty := (.object "com/example/vestibule/vestibule/http/HttpFields")) (by decide) rfl rfl (g := (mkF m 40 #[.val (.ref a0), .val .null, .val .null, .val .null, .val .null, .val .null, .val .null, .val .null, .val (.long q8), .second, .val (.int p9), .val (.int p10)] [.null, (.ref a0)])) rfl rfl (hb hby d2_40)
  have N8 := Fr.snoc X8 N7 g_a0
  have c8_0 := c7_0.other W8 (Or.inr (slot_ne (Or.inr (hw _ (List.mem_of_getElem? (i := 15) rfl))) (Or.inr (hw _ (List.mem_of_getElem? (i := 27) rfl))) (by decide) (t := (.object "java/lang/String")) (t' := (.object "com/example/vestibule/vestibule/http/HttpFields")) (by decide) (by decide)))
  have c8_1 := c7_1.other W8 (Or.inr (slot_ne (Or.inr (hw _ (List.mem_of_getElem? (i := 17) rfl))) (Or.inr (hw _ (List.mem_of_getElem? (i := 27) rfl))) (by decide) (t := (.object "java/lang/String")) (t' := (.object "com/example/vestibule/vestibule/http/HttpFields")) (by decide) (by decide)))
  have c8_2 := c7_2.other W8 (Or.inr (slot_ne (Or.inr (hw _ (List.mem_of_getElem? (i := 19) rfl))) (Or.inr (hw _ (List.mem_of_getElem? (i := 27) rfl))) (by decide) (t := (.object "java/lang/String")) (t' := (.object "com/example/vestibule/vestibule/http/HttpFields")) (by decide) (by decide)))
  have c8_3 := c7_3.other W8 (Or.inr (slot_ne (Or.inr (hw _ (List.mem_of_getElem? (i := 21) rfl))) (Or.inr (hw _ (List.mem_of_getElem? (i := 27) rfl))) (by decide) (t := (.object "java/lang/String")) (t' := (.object "com/example/vestibule/vestibule/http/HttpFields")) (by decide) (by decide)))
  have c8_4 := c7_4.other W8 (Or.inr (slot_ne (Or.inr (hw _ (List.mem_of_getElem? (i := 23) rfl))) (Or.inr (hw _ (List.mem_of_getElem? (i := 27) rfl))) (by decide) (t := (.object "java/lang/String")) (t' := (.object "com/example/vestibule/vestibule/http/HttpFields")) (by decide) (by decide)))
  have c8_5 := c7_5.other W8 (Or.inr (slot_ne (Or.inr (hw _ (List.mem_of_getElem? (i := 25) rfl))) (Or.inr (hw _ (List.mem_of_getElem? (i := 27) rfl))) (by decide) (t := (.object "java/lang/String")) (t' := (.object "com/example/vestibule/vestibule/http/HttpFields")) (by decide) (by decide)))
  have c8_6 := c7_6.same W8
  have c8_7 := c7_7.other W8 (Or.inr (slot_ne (Or.inr (hw _ (List.mem_of_getElem? (i := 29) rfl))) (Or.inr (hw _ (List.mem_of_getElem? (i := 27) rfl))) (by decide) (t := .long) (t' := (.object "com/example/vestibule/vestibule/http/HttpFields")) (by decide) (by decide)))
  have c8_8 := c7_8.other W8 (Or.inr (slot_ne (Or.inr (hw _ (List.mem_of_getElem? (i := 31) rfl))) (Or.inr (hw _ (List.mem_of_getElem? (i := 27) rfl))) (by decide) (t := .boolean) (t' := (.object "com/example/vestibule/vestibule/http/HttpFields")) (by decide) (by decide)))
  have c8_9 := c7_9.other W8 (Or.inr (slot_ne (Or.inr (hw _ (List.mem_of_getElem? (i := 33) rfl))) (Or.inr (hw _ (List.mem_of_getElem? (i := 27) rfl))) (by decide) (t := .boolean) (t' := (.object "com/example/vestibule/vestibule/http/HttpFields")) (by decide) (by decide)))
  have c8_10 := c7_10.wr W8
  have Z8 : n0 ≤ h8.size := Nat.le_trans Z7 (Keep.of_wr W8).1
  have K8 : Keep h0 h8 [a0] := K7.wr W8 (Or.inl (List.mem_of_getElem? (i := 0) rfl))
  refine own_go st8 ?_
  show own_Go p.tables e below _ (T8.setTop (mkF m 43 #[.val (.ref a0), .val .null, .val .null, .val .null, .val .null, .val .null, .val .null, .val .null, .val (.long q8), .second, .val (.int p9), .val (.int p10)] []))
  refine own_go (fun _ k => XS.aloadN X8.here hx rfl (hb hby d2_43) rfl rfl k) ?_
  show own_Go p.tables e below _ (T8.setTop (mkF m 44 #[.val (.ref a0), .val .null, .val .null, .val .null, .val .null, .val .null, .val .null, .val .null, .val (.long q8), .second, .val (.int p9), .val (.int p10)] [(.ref a0)]))
  refine own_go (fun _ k => XS.lload X8.here hx rfl (hb hby d2_44) rfl k) ?_
  show own_Go p.tables e below _ (T8.setTop (mkF m 46 #[.val (.ref a0), .val .null, .val .null, .val .null, .val .null, .val .null, .val .null, .val .null, .val (.long q8), .second, .val (.int p9), .val (.int p10)] [(.long q8), (.ref a0)]))
  obtain ⟨T9, h9, X9, e9, W9, st9⟩ := putF X8 hx hZ hown (host := "") (Or.inl (hw _ (List.mem_of_getElem? (i := 28) rfl))) Via.refl e8 c8_7 c8_10 (Or.inr ⟨(hw _ (List.mem_of_getElem? (i := 29) rfl)), rfl, hnm⟩) (hw _ (List.mem_of_getElem? (i := 1) rfl)) (ty := .long) (by decide) rfl rfl (g := (mkF m 46 #[.val (.ref a0), .val .null, .val .null, .val .null, .val .null, .val .null, .val .null, .val .null, .val (.long q8), .second, .val (.int p9), .val (.int p10)] [(.long q8), (.ref a0)])) rfl rfl (hb hby d2_46)
  have N9 := Fr.snoc X9 N8 g_a0
  have c9_0 := c8_0.other W9 (Or.inr (slot_ne (Or.inr (hw _ (List.mem_of_getElem? (i := 15) rfl))) (Or.inr (hw _ (List.mem_of_getElem? (i := 29) rfl))) (by decide) (t := (.object "java/lang/String")) (t' := .long) (by decide) (by decide)))
  have c9_1 := c8_1.other W9 (Or.inr (slot_ne (Or.inr (hw _ (List.mem_of_getElem? (i := 17) rfl))) (Or.inr (hw _ (List.mem_of_getElem? (i := 29) rfl))) (by decide) (t := (.object "java/lang/String")) (t' := .long) (by decide) (by decide)))
  have c9_2 := c8_2.other W9 (Or.inr (slot_ne (Or.inr (hw _ (List.mem_of_getElem? (i := 19) rfl))) (Or.inr (hw _ (List.mem_of_getElem? (i := 29) rfl))) (by decide) (t := (.object "java/lang/String")) (t' := .long) (by decide) (by decide)))
  have c9_3 := c8_3.other W9 (Or.inr (slot_ne (Or.inr (hw _ (List.mem_of_getElem? (i := 21) rfl))) (Or.inr (hw _ (List.mem_of_getElem? (i := 29) rfl))) (by decide) (t := (.object "java/lang/String")) (t' := .long) (by decide) (by decide)))
  have c9_4 := c8_4.other W9 (Or.inr (slot_ne (Or.inr (hw _ (List.mem_of_getElem? (i := 23) rfl))) (Or.inr (hw _ (List.mem_of_getElem? (i := 29) rfl))) (by decide) (t := (.object "java/lang/String")) (t' := .long) (by decide) (by decide)))
  have c9_5 := c8_5.other W9 (Or.inr (slot_ne (Or.inr (hw _ (List.mem_of_getElem? (i := 25) rfl))) (Or.inr (hw _ (List.mem_of_getElem? (i := 29) rfl))) (by decide) (t := (.object "java/lang/String")) (t' := .long) (by decide) (by decide)))
  have c9_6 := c8_6.other W9 (Or.inr (slot_ne (Or.inr (hw _ (List.mem_of_getElem? (i := 27) rfl))) (Or.inr (hw _ (List.mem_of_getElem? (i := 29) rfl))) (by decide) (t := (.object "com/example/vestibule/vestibule/http/HttpFields")) (t' := .long) (by decide) (by decide)))
  have c9_7 := c8_7.same W9
  have c9_8 := c8_8.other W9 (Or.inr (slot_ne (Or.inr (hw _ (List.mem_of_getElem? (i := 31) rfl))) (Or.inr (hw _ (List.mem_of_getElem? (i := 29) rfl))) (by decide) (t := .boolean) (t' := .long) (by decide) (by decide)))
  have c9_9 := c8_9.other W9 (Or.inr (slot_ne (Or.inr (hw _ (List.mem_of_getElem? (i := 33) rfl))) (Or.inr (hw _ (List.mem_of_getElem? (i := 29) rfl))) (by decide) (t := .boolean) (t' := .long) (by decide) (by decide)))
  have c9_10 := c8_10.wr W9
  have Z9 : n0 ≤ h9.size := Nat.le_trans Z8 (Keep.of_wr W9).1
  have K9 : Keep h0 h9 [a0] := K8.wr W9 (Or.inl (List.mem_of_getElem? (i := 0) rfl))
  refine own_go st9 ?_
  show own_Go p.tables e below _ (T9.setTop (mkF m 49 #[.val (.ref a0), .val .null, .val .null, .val .null, .val .null, .val .null, .val .null, .val .null, .val (.long q8), .second, .val (.int p9), .val (.int p10)] []))
  refine own_go (fun _ k => XS.aloadN X9.here hx rfl (hb hby d2_49) rfl rfl k) ?_
  show own_Go p.tables e below _ (T9.setTop (mkF m 50 #[.val (.ref a0), .val .null, .val .null, .val .null, .val .null, .val .null, .val .null, .val .null, .val (.long q8), .second, .val (.int p9), .val (.int p10)] [(.ref a0)]))
  refine own_go (fun _ k => XS.iload X9.here hx rfl (hb hby d2_50) rfl k) ?_
  show own_Go p.tables e below _ (T9.setTop (mkF m 52 #[.val (.ref a0), .val .null, .val .null, .val .null, .val .null, .val .null, .val .null, .val .null, .val (.long q8), .second, .val (.int p9), .val (.int p10)] [(.int p9), (.ref a0)]))
  obtain ⟨T10, h10, X10, e10, W10, st10⟩ := putFN X9 hx hZ hown (hw _ (List.mem_of_getElem? (i := 30) rfl)) Via.refl e9 c9_8 c9_10 (Or.inr ⟨(hw _ (List.mem_of_getElem? (i := 31) rfl)), rfl, hnm⟩) (hw _ (List.mem_of_getElem? (i := 1) rfl)) (ty := .boolean) (v' := (.int (nar .boolean p9))) (by decide) rfl (fits_nar_bool _) (g := (mkF m 52 #[.val (.ref a0), .val .null, .val .null, .val .null, .val .null, .val .null, .val .null, .val .null, .val (.long q8), .second, .val (.int p9), .val (.int p10)] [(.int p9), (.ref a0)])) rfl rfl (hb hby d2_52)
  have N10 := Fr.snoc X10 N9 g_a0
  have c10_0 := c9_0.other W10 (Or.inr (slot_ne (Or.inr (hw _ (List.mem_of_getElem? (i := 15) rfl))) (Or.inr (hw _ (List.mem_of_getElem? (i := 31) rfl))) (by decide) (t := (.object "java/lang/String")) (t' := .boolean) (by decide) (by decide)))
  have c10_1 := c9_1.other W10 (Or.inr (slot_ne (Or.inr (hw _ (List.mem_of_getElem? (i := 17) rfl))) (Or.inr (hw _ (List.mem_of_getElem? (i := 31) rfl))) (by decide) (t := (.object "java/lang/String")) (t' := .boolean) (by decide) (by decide)))
  have c10_2 := c9_2.other W10 (Or.inr (slot_ne (Or.inr (hw _ (List.mem_of_getElem? (i := 19) rfl))) (Or.inr (hw _ (List.mem_of_getElem? (i := 31) rfl))) (by decide) (t := (.object "java/lang/String")) (t' := .boolean) (by decide) (by decide)))
  have c10_3 := c9_3.other W10 (Or.inr (slot_ne (Or.inr (hw _ (List.mem_of_getElem? (i := 21) rfl))) (Or.inr (hw _ (List.mem_of_getElem? (i := 31) rfl))) (by decide) (t := (.object "java/lang/String")) (t' := .boolean) (by decide) (by decide)))
  have c10_4 := c9_4.other W10 (Or.inr (slot_ne (Or.inr (hw _ (List.mem_of_getElem? (i := 23) rfl))) (Or.inr (hw _ (List.mem_of_getElem? (i := 31) rfl))) (by decide) (t := (.object "java/lang/String")) (t' := .boolean) (by decide) (by decide)))
  have c10_5 := c9_5.other W10 (Or.inr (slot_ne (Or.inr (hw _ (List.mem_of_getElem? (i := 25) rfl))) (Or.inr (hw _ (List.mem_of_getElem? (i := 31) rfl))) (by decide) (t := (.object "java/lang/String")) (t' := .boolean) (by decide) (by decide)))
  have c10_6 := c9_6.other W10 (Or.inr (slot_ne (Or.inr (hw _ (List.mem_of_getElem? (i := 27) rfl))) (Or.inr (hw _ (List.mem_of_getElem? (i := 31) rfl))) (by decide) (t := (.object "com/example/vestibule/vestibule/http/HttpFields")) (t' := .boolean) (by decide) (by decide)))
  have c10_7 := c9_7.other W10 (Or.inr (slot_ne (Or.inr (hw _ (List.mem_of_getElem? (i := 29) rfl))) (Or.inr (hw _ (List.mem_of_getElem? (i := 31) rfl))) (by decide) (t := .long) (t' := .boolean) (by decide) (by decide)))
  have c10_8 := c9_8.same W10
  have c10_9 := c9_9.other W10 (Or.inr (slot_ne (Or.inr (hw _ (List.mem_of_getElem? (i := 33) rfl))) (Or.inr (hw _ (List.mem_of_getElem? (i := 31) rfl))) (by decide) (t := .boolean) (t' := .boolean) (by decide) (by decide)))
  have c10_10 := c9_10.wr W10
  have Z10 : n0 ≤ h10.size := Nat.le_trans Z9 (Keep.of_wr W10).1
  have K10 : Keep h0 h10 [a0] := K9.wr W10 (Or.inl (List.mem_of_getElem? (i := 0) rfl))
  refine own_go st10 ?_
  show own_Go p.tables e below _ (T10.setTop (mkF m 55 #[.val (.ref a0), .val .null, .val .null, .val .null, .val .null, .val .null, .val .null, .val .null, .val (.long q8), .second, .val (.int p9), .val (.int p10)] []))
  refine own_go (fun _ k => XS.aloadN X10.here hx rfl (hb hby d2_55) rfl rfl k) ?_
  show own_Go p.tables e below _ (T10.setTop (mkF m 56 #[.val (.ref a0), .val .null, .val .null, .val .null, .val .null, .val .null, .val .null, .val .null, .val (.long q8), .second, .val (.int p9), .val (.int p10)] [(.ref a0)]))
  refine own_go (fun _ k => XS.iload X10.here hx rfl (hb hby d2_56) rfl k) ?_
  show own_Go p.tables e below _ (T10.setTop (mkF m 58 #[.val (.ref a0), .val .null, .val .null, .val .null, .val .null, .val .null, .val .null, .val .null, .val (.long q8), .second, .val (.int p9), .val (.int p10)] [(.int p10), (.ref a0)]))
  obtain ⟨T11, h11, X11, e11, W11, st11⟩ := putFN X10 hx hZ hown (hw _ (List.mem_of_getElem? (i := 32) rfl)) Via.refl e10 c10_9 c10_10 (Or.inr ⟨(hw _ (List.mem_of_getElem? (i := 33) rfl)), rfl, hnm⟩) (hw _ (List.mem_of_getElem? (i := 1) rfl)) (ty := .boolean) (v' := (.int (nar .boolean p10))) (by decide) rfl (fits_nar_bool _) (g := (mkF m 58 #[.val (.ref a0), .val .null, .val .null, .val .null, .val .null, .val .null, .val .null, .val .null, .val (.long q8), .second, .val (.int p9), .val (.int p10)] [(.int p10), (.ref a0)])) rfl rfl (hb hby d2_58)
  have N11 := Fr.snoc X11 N10 g_a0
  have c11_0 := c10_0.other W11 (Or.inr (slot_ne (Or.inr (hw _ (List.mem_of_getElem? (i := 15) rfl))) (Or.inr (hw _ (List.mem_of_getElem? (i := 33) rfl))) (by decide) (t := (.object "java/lang/String")) (t' := .boolean) (by decide) (by decide)))
  have c11_1 := c10_1.other W11 (Or.inr (slot_ne (Or.inr (hw _ (List.mem_of_getElem? (i := 17) rfl))) (Or.inr (hw _ (List.mem_of_getElem? (i := 33) rfl))) (by decide) (t := (.object "java/lang/String")) (t' := .boolean) (by decide) (by decide)))
  have c11_2 := c10_2.other W11 (Or.inr (slot_ne (Or.inr (hw _ (List.mem_of_getElem? (i := 19) rfl))) (Or.inr (hw _ (List.mem_of_getElem? (i := 33) rfl))) (by decide) (t := (.object "java/lang/String")) (t' := .boolean) (by decide) (by decide)))
  have c11_3 := c10_3.other W11 (Or.inr (slot_ne (Or.inr (hw _ (List.mem_of_getElem? (i := 21) rfl))) (Or.inr (hw _ (List.mem_of_getElem? (i := 33) rfl))) (by decide) (t := (.object "java/lang/String")) (t' := .boolean) (by decide) (by decide)))
  have c11_4 := c10_4.other W11 (Or.inr (slot_ne (Or.inr (hw _ (List.mem_of_getElem? (i := 23) rfl))) (Or.inr (hw _ (List.mem_of_getElem? (i := 33) rfl))) (by decide) (t := (.object "java/lang/String")) (t' := .boolean) (by decide) (by decide)))
  have c11_5 := c10_5.other W11 (Or.inr (slot_ne (Or.inr (hw _ (List.mem_of_getElem? (i := 25) rfl))) (Or.inr (hw _ (List.mem_of_getElem? (i := 33) rfl))) (by decide) (t := (.object "java/lang/String")) (t' := .boolean) (by decide) (by decide)))
  have c11_6 := c10_6.other W11 (Or.inr (slot_ne (Or.inr (hw _ (List.mem_of_getElem? (i := 27) rfl))) (Or.inr (hw _ (List.mem_of_getElem? (i := 33) rfl))) (by decide) (t := (.object "com/example/vestibule/vestibule/http/HttpFields")) (t' := .boolean) (by decide) (by decide)))
  have c11_7 := c10_7.other W11 (Or.inr (slot_ne (Or.inr (hw _ (List.mem_of_getElem? (i := 29) rfl))) (Or.inr (hw _ (List.mem_of_getElem? (i := 33) rfl))) (by decide) (t := .long) (t' := .boolean) (by decide) (by decide)))
  have c11_8 := c10_8.other W11 (Or.inr (slot_ne (Or.inr (hw _ (List.mem_of_getElem? (i := 31) rfl))) (Or.inr (hw _ (List.mem_of_getElem? (i := 33) rfl))) (by decide) (t := .boolean) (t' := .boolean) (by decide) (by decide)))
  have c11_9 := c10_9.same W11
  have c11_10 := c10_10.wr W11
  have Z11 : n0 ≤ h11.size := Nat.le_trans Z10 (Keep.of_wr W11).1
  have K11 : Keep h0 h11 [a0] := K10.wr W11 (Or.inl (List.mem_of_getElem? (i := 0) rfl))
  refine own_go st11 ?_
  show own_Go p.tables e below _ (T11.setTop (mkF m 61 #[.val (.ref a0), .val .null, .val .null, .val .null, .val .null, .val .null, .val .null, .val .null, .val (.long q8), .second, .val (.int p9), .val (.int p10)] []))
  refine own_end X11 Bd.notSynchronized (v := none) (fun _ => rfl) (fun fs hr => X11.returnOut hx Bd.returns (hb hby d2_61) hr) ?_ (by decide) (by decide)
  show own_Q2 Z a0 q8 p9 p10 h0 n0 _ T11.heap _
  rw [e11]
  exact ⟨rfl, N11, K11, c11_10, c11_0, c11_1, c11_2, c11_3, c11_4, c11_5, c11_6, c11_7, c11_8, c11_9⟩
def own_f3 (wl : Int64) : Int32 :=
  (if wl = (-1 : Int64) then (1 : Int32) else (0 : Int32))
theorem d3_0 : decode prog_25_method_3_code 0 = .ok (.aload_n 0, 1) := by decide +kernel
theorem d3_1 : decode prog_25_method_3_code 1 = .ok (.getfield 32, 3) := by decide +kernel
theorem d3_4 : decode prog_25_method_3_code 4 = .ok (.ldc2_w 220, 3) := by decide +kernel
theorem d3_7 : decode prog_25_method_3_code 7 = .ok (.lcmp, 1) := by decide +kernel
theorem d3_8 : decode prog_25_method_3_code 8 = .ok (.ifCond .ne 7, 3) := by decide +kernel
theorem d3_11 : decode prog_25_method_3_code 11 = .ok (.iconst 1, 1) := by decide +kernel
theorem d3_12 : decode prog_25_method_3_code 12 = .ok (.goto 4, 3) := by decide +kernel
theorem d3_15 : decode prog_25_method_3_code 15 = .ok (.iconst 0, 1) := by decide +kernel
theorem d3_16 : decode prog_25_method_3_code 16 = .ok (.ireturn, 1) := by decide +kernel
theorem pn3 : plainName "com/example/vestibule/vestibule/http/RequestHead" = true := by first | (simp [plainName, overriddenIn]; done) | decide +kernel
theorem ef3 (m : MethodId) (a0 : Addr) : entryFrame m #[(.ref a0)] 1 = mkF m 0 #[.val (.ref a0)] [] := by first | (simp [entryFrame, mkF, argsToLocals, Value.category]; done) | rfl
def own_Q3 (Z : State) (a0 : Addr) (wl : Int64) (h0 : Heap) (n0 : Nat) (v : Option Value) (h : Heap) (L : List Loc) : Prop := v = some (.int (own_f3 wl)) ∧ Fr n0 L ∧ h = h0
set_option maxRecDepth 65536 in
set_option maxHeartbeats 40000000 in
theorem rm3 (l : Launch) (Z : State) (az : Array Value) (hw : ∀ d ∈ tables_1, d.before az Z = true) (ws : List Jvm.Cond) (a0 : Addr) (wl : Int64) (h0 : Heap) (n0 : Nat) (Z0 : n0 ≤ h0.size) (F_a0_contentLength : Fld Z h0 a0 "com/example/vestibule/vestibule/http/RequestHead" "contentLength" "J" (.long wl)) :
    MetFree l (⟨"com/example/vestibule/vestibule/http/RequestHead", "chunked", "()Z"⟩ : MethodName) (head1 (Jvm.Cond.code (⟨"com/example/vestibule/vestibule/http/RequestHead", "chunked", "()Z"⟩ : MethodName) prog_25_method_3_code 1 (some .boolean) :: ws) ({ frames := 0, cells := 0, slots := 0, locals := 0 } : Room)) (fun a U => a = #[(.ref a0)] ∧ Z.Warmed39 U.vm ∧ U.heap = h0) (fun _ _ _ _ _ => True) (fun _ U o U' => ∃ v L, o = .returned v ∧ own_Q3 Z a0 wl h0 n0 v U'.heap L ∧ FrameEnd U o U' L ({ frames := 0, cells := 0, slots := 0, locals := 0 } : Room).cells ({ frames := 0, cells := 0, slots := 0, locals := 0 } : Room).slots) := by
  refine MetFree.of_bodySF (plainFor_of_name pn3) hisR ?_
  intro p e s m args below meth c s₁ Bd hml0 hP hK
  obtain ⟨rfl, hZ, hh⟩ := hP
  have hx := Bd.exec
  have hby := Bd.bytes
  have hml : c.maxLocals = 1 := hml0
  have hown : s.vm.findClass "com/example/vestibule/vestibule/http/RequestHead" = some m.cls := findClass_of_methodNamed Bd.named
  have hnm := (name_of_methodNamed Bd.named Bd.method).1
  have X0 : Stand p l e ({ frames := 0, cells := 0, slots := 0, locals := 0 } : Room) s m #[(.ref a0)] below meth c s₁ [] 0 0 := Stand.of_body Bd
  have e0 : s₁.heap = h0 := by rw [← hh, Bd.state]; rfl
  have N0 := Fr.nil n0
  show own_Go p.tables e below (fun o U' => ∃ v L, o = .returned v ∧ own_Q3 Z a0 wl h0 n0 v U'.heap L ∧ FrameEnd s o U' L ({ frames := 0, cells := 0, slots := 0, locals := 0 } : Room).cells ({ frames := 0, cells := 0, slots := 0, locals := 0 } : Room).slots) (s₁.setTop (entryFrame m #[(.ref a0)] 1))
  refine own_go (fun _ k => castTop (ef3 m a0) k) ?_
  show own_Go p.tables e below _ (s₁.setTop (mkF m 0 #[.val (.ref a0)] []))
  refine own_go (fun _ k => XS.aloadN X0.here hx rfl (hb hby d3_0) rfl rfl k) ?_
  show own_Go p.tables e below _ (s₁.setTop (mkF m 1 #[.val (.ref a0)] [(.ref a0)]))
  obtain ⟨T1, X1, e1, st1⟩ := getF X0 hx hZ hown (host := "") (Or.inl (hw _ (List.mem_of_getElem? (i := 28) rfl))) Via.refl e0 F_a0_contentLength (g := (mkF m 1 #[.val (.ref a0)] [(.ref a0)])) rfl rfl (hb hby d3_1)
  refine own_go st1 ?_
  show own_Go p.tables e below _ (T1.setTop (mkF m 4 #[.val (.ref a0)] [(.long wl)]))
  refine own_go (fun _ k => X1.ldc2Long hx hown (mvT hZ (hw _ (List.mem_of_getElem? (i := 40) rfl))) (g := (mkF m 4 #[.val (.ref a0)] [(.long wl)])) rfl (hb hby d3_4) _ k) ?_
  show own_Go p.tables e below _ (T1.setTop (mkF m 7 #[.val (.ref a0)] [(.long (-1 : Int64)), (.long wl)]))
  refine own_go (fun _ k => XS.lcmp X1.here hx rfl (hb hby d3_7) rfl k) ?_
  show own_Go p.tables e below _ (T1.setTop (mkF m 8 #[.val (.ref a0)] [(.int (lcmpW wl (-1 : Int64)))]))
  by_cases hc8 : wl = (-1 : Int64)
  · refine own_go (fun _ k => XS.ifNo X1.here hx rfl (hb hby d3_8) rfl ((if0 _ _).trans (teq ((lw_eq wl (-1 : Int64)).mpr hc8)).2) k) ?_
    show own_Go p.tables e below _ (T1.setTop (mkF m 11 #[.val (.ref a0)] []))
    refine own_go (fun _ k => XS.iconst X1.here hx rfl (hb hby d3_11) k) ?_
    show own_Go p.tables e below _ (T1.setTop (mkF m 12 #[.val (.ref a0)] [(.int (1 : Int32))]))
    refine own_go (fun _ k => XS.goto X1.here hx rfl (pc0 := 12) (pc' := 16) rfl (hb hby d3_12) (by decide) (by decide) k) ?_
    show own_Go p.tables e below _ (T1.setTop (mkF m 16 #[.val (.ref a0)] [(.int (1 : Int32))]))
    refine own_end X1 Bd.notSynchronized (v := some (.int (1 : Int32))) (fun h => by rw [Bd.returns] at h; cases h) (fun fs hr => retN X1 hx (t := .boolean) Bd.returns (by simp) (hb hby d3_16) hr) ?_ (by decide) (by decide)
    exact ⟨by rw [own_f3, if_pos hc8], N0, e1⟩
  · refine own_go (fun _ k => XS.ifYes X1.here hx rfl (pc0 := 8) (pc' := 15) rfl (hb hby d3_8) rfl ((if0 _ _).trans (feq (mt (lw_eq wl (-1 : Int64)).mp hc8)).2) (by decide) (by decide) k) ?_
    show own_Go p.tables e below _ (T1.setTop (mkF m 15 #[.val (.ref a0)] []))
    refine own_go (fun _ k => XS.iconst X1.here hx rfl (hb hby d3_15) k) ?_
    show own_Go p.tables e below _ (T1.setTop (mkF m 16 #[.val (.ref a0)] [(.int (0 : Int32))]))
    refine own_end X1 Bd.notSynchronized (v := some (.int (0 : Int32))) (fun h => by rw [Bd.returns] at h; cases h) (fun fs hr => retN X1 hx (t := .boolean) Bd.returns (by simp) (hb hby d3_16) hr) ?_ (by decide) (by decide)
    exact ⟨by rw [own_f3, if_neg hc8], N0, e1⟩
def own_f4 (wl : Int64) : Int64 :=
  wl
theorem d4_0 : decode prog_25_method_20_code 0 = .ok (.aload_n 0, 1) := by decide +kernel
theorem d4_1 : decode prog_25_method_20_code 1 = .ok (.getfield 32, 3) := by decide +kernel
theorem d4_4 : decode prog_25_method_20_code 4 = .ok (.lreturn, 1) := by decide +kernel
theorem pn4 : plainName "com/example/vestibule/vestibule/http/RequestHead" = true := by first | (simp [plainName, overriddenIn]; done) | decide +kernel
theorem ef4 (m : MethodId) (a0 : Addr) : entryFrame m #[(.ref a0)] 1 = mkF m 0 #[.val (.ref a0)] [] := by first | (simp [entryFrame, mkF, argsToLocals, Value.category]; done) | rfl
def own_Q4 (Z : State) (a0 : Addr) (wl : Int64) (h0 : Heap) (n0 : Nat) (v : Option Value) (h : Heap) (L : List Loc) : Prop := v = some (.long (own_f4 wl)) ∧ Fr n0 L ∧ h = h0
set_option maxRecDepth 65536 in
set_option maxHeartbeats 40000000 in
theorem rm4 (l : Launch) (Z : State) (az : Array Value) (hw : ∀ d ∈ tables_1, d.before az Z = true) (ws : List Jvm.Cond) (a0 : Addr) (wl : Int64) (h0 : Heap) (n0 : Nat) (Z0 : n0 ≤ h0.size) (F_a0_contentLength : Fld Z h0 a0 "com/example/vestibule/vestibule/http/RequestHead" "contentLength" "J" (.long wl)) :
    MetFree l (⟨"com/example/vestibule/vestibule/http/RequestHead", "contentLength", "()J"⟩ : MethodName) (head1 (Jvm.Cond.code (⟨"com/example/vestibule/vestibule/http/RequestHead", "contentLength", "()J"⟩ : MethodName) prog_25_method_20_code 1 (some .long) :: ws) ({ frames := 0, cells := 0, slots := 0, locals := 0 } : Room)) (fun a U => a = #[(.ref a0)] ∧ Z.Warmed39 U.vm ∧ U.heap = h0) (fun _ _ _ _ _ => True) (fun _ U o U' => ∃ v L, o = .returned v ∧ own_Q4 Z a0 wl h0 n0 v U'.heap L ∧ FrameEnd U o U' L ({ frames := 0, cells := 0, slots := 0, locals := 0 } : Room).cells ({ frames := 0, cells := 0, slots := 0, locals := 0 } : Room).slots) := by
  refine MetFree.of_bodySF (plainFor_of_name pn4) hisR ?_
  intro p e s m args below meth c s₁ Bd hml0 hP hK
  obtain ⟨rfl, hZ, hh⟩ := hP
  have hx := Bd.exec
  have hby := Bd.bytes
  have hml : c.maxLocals = 1 := hml0
  have hown : s.vm.findClass "com/example/vestibule/vestibule/http/RequestHead" = some m.cls := findClass_of_methodNamed Bd.named
  have hnm := (name_of_methodNamed Bd.named Bd.method).1
  have X0 : Stand p l e ({ frames := 0, cells := 0, slots := 0, locals := 0 } : Room) s m #[(.ref a0)] below meth c s₁ [] 0 0 := Stand.of_body Bd
  have e0 : s₁.heap = h0 := by rw [← hh, Bd.state]; rfl
  have N0 := Fr.nil n0
  show own_Go p.tables e below (fun o U' => ∃ v L, o = .returned v ∧ own_Q4 Z a0 wl h0 n0 v U'.heap L ∧ FrameEnd s o U' L ({ frames := 0, cells := 0, slots := 0, locals := 0 } : Room).cells ({ frames := 0, cells := 0, slots := 0, locals := 0 } : Room).slots) (s₁.setTop (entryFrame m #[(.ref a0)] 1))
  refine own_go (fun _ k => castTop (ef4 m a0) k) ?_
  show own_Go p.tables e below _ (s₁.setTop (mkF m 0 #[.val (.ref a0)] []))
  refine own_go (fun _ k => XS.aloadN X0.here hx rfl (hb hby d4_0) rfl rfl k) ?_
  show own_Go p.tables e below _ (s₁.setTop (mkF m 1 #[.val (.ref a0)] [(.ref a0)]))
  obtain ⟨T1, X1, e1, st1⟩ := getF X0 hx hZ hown (host := "") (Or.inl (hw _ (List.mem_of_getElem? (i := 28) rfl))) Via.refl e0 F_a0_contentLength (g := (mkF m 1 #[.val (.ref a0)] [(.ref a0)])) rfl rfl (hb hby d4_1)
  refine own_go st1 ?_
  show own_Go p.tables e below _ (T1.setTop (mkF m 4 #[.val (.ref a0)] [(.long wl)]))
  refine own_end X1 Bd.notSynchronized (v := some (.long wl)) (fun h => by rw [Bd.returns] at h; cases h) (fun fs hr => own_retJ X1 hx Bd.returns (hb hby d4_4) hr) ?_ (by decide) (by decide)
  exact ⟨by rw [own_f4], N0, e1⟩
theorem pn0 : plainName "com/example/vestibule/vestibule/http/RequestHeadChunkedPinLaw" = true := by first | (simp [plainName, overriddenIn]; done) | decide +kernel
theorem pd0_0 : parseMethodDescriptor "(Ljava/lang/String;Ljava/lang/String;Ljava/lang/String;Ljava/lang/String;Ljava/lang/String;Ljava/lang/String;Lcom/example/vestibule/vestibule/http/HttpFields;JZZ)V" = some ⟨[(.object "java/lang/String"), (.object "java/lang/String"), (.object "java/lang/String"), (.object "java/lang/String"), (.object "java/lang/String"), (.object "java/lang/String"), (.object "com/example/vestibule/vestibule/http/HttpFields"), .long, .boolean, .boolean], none⟩ := by decide +kernel
theorem pd0_1 : parseMethodDescriptor "()Z" = some ⟨[], some .boolean⟩ := by decide +kernel
theorem pd0_2 : parseMethodDescriptor "()J" = some ⟨[], some .long⟩ := by decide +kernel
theorem ef0 (m : MethodId) (q0 : Int64) (p1 : Int32) : entryFrame m #[(.long q0), (.int p1)] maxLocals = mkF m 0 #[.val (.long q0), .second, .val (.int p1), .unset, .unset, .unset, .unset, .unset, .unset] [] := by first | (simp [entryFrame, mkF, argsToLocals, Value.category, maxLocals]; done) | rfl
def own_Q0 (Z : State) (q0 : Int64) (p1 : Int32) (h0 : Heap) (n0 : Nat) (v : Option Value) (h : Heap) (L : List Loc) : Prop := v = some (.int 1) ∧ Fr n0 L
set_option maxRecDepth 65536 in
set_option maxHeartbeats 40000000 in
theorem rm0 (l : Launch) (Z : State) (az : Array Value) (hw : ∀ d ∈ tables_1, d.before az Z = true) (ws : List Jvm.Cond) (q0 : Int64) (p1 : Int32) (h0 : Heap) (n0 : Nat) (Z0 : n0 ≤ h0.size) :
    MetFree l x (head1 (Jvm.Cond.code x code maxLocals ret :: ws) room_1) (fun a U => a = #[(.long q0), (.int p1)] ∧ Z.Warmed39 U.vm ∧ U.heap = h0) (fun _ _ _ _ _ => True) (fun _ U o U' => ∃ v L, o = .returned v ∧ own_Q0 Z q0 p1 h0 n0 v U'.heap L ∧ FrameEnd U o U' L 16 128) := by
  refine MetFree.of_bodySF (plainFor_of_name pn0) hisR ?_
  intro p e s m args below meth c s₁ Bd hml0 hP hK
  obtain ⟨rfl, hZ, hh⟩ := hP
  have hx := Bd.exec
  have hby := Bd.bytes
  have hml : c.maxLocals = 9 := hml0
  have hown : s.vm.findClass "com/example/vestibule/vestibule/http/RequestHeadChunkedPinLaw" = some m.cls := findClass_of_methodNamed Bd.named
  have hnm := (name_of_methodNamed Bd.named Bd.method).1
  have X0 : Stand p l e room_1 s m #[(.long q0), (.int p1)] below meth c s₁ [] 0 0 := Stand.of_body Bd
  have e0 : s₁.heap = h0 := by rw [← hh, Bd.state]; rfl
  have N0 := Fr.nil n0
  show own_Go p.tables e below (fun o U' => ∃ v L, o = .returned v ∧ own_Q0 Z q0 p1 h0 n0 v U'.heap L ∧ FrameEnd s o U' L 16 128) (s₁.setTop (entryFrame m #[(.long q0), (.int p1)] maxLocals))
  refine own_go (fun _ k => castTop (ef0 m q0 p1) k) ?_
  show own_Go p.tables e below _ (s₁.setTop (mkF m 0 #[.val (.long q0), .second, .val (.int p1), .unset, .unset, .unset, .unset, .unset, .unset] []))
  refine own_go (fun _ k => XS.iloadN X0.here hx rfl (hb hby at_0) rfl k) ?_
  show own_Go p.tables e below _ (s₁.setTop (mkF m 1 #[.val (.long q0), .second, .val (.int p1), .unset, .unset, .unset, .unset, .unset, .unset] [(.int p1)]))
  refine own_go (fun _ k => XS.iconst X0.here hx rfl (hb hby at_1) k) ?_
  show own_Go p.tables e below _ (s₁.setTop (mkF m 2 #[.val (.long q0), .second, .val (.int p1), .unset, .unset, .unset, .unset, .unset, .unset] [(.int (1 : Int32)), (.int p1)]))
  refine own_go (fun _ k => XS.iand X0.here hx rfl (hb hby at_2) rfl k) ?_
  show own_Go p.tables e below _ (s₁.setTop (mkF m 3 #[.val (.long q0), .second, .val (.int p1), .unset, .unset, .unset, .unset, .unset, .unset] [(.int (p1 &&& (1 : Int32)))]))
  have sg1 : ∀ t, Steps p.tables e below (s₁.setTop (mkF m 13 #[.val (.long q0), .second, .val (.int p1), .unset, .unset, .unset, .unset, .unset, .unset] [(.long (if (p1 &&& (1 : Int32)) = (0 : Int32) then q0 else (-1 : Int64)))])) t → Steps p.tables e below (s₁.setTop (mkF m 3 #[.val (.long q0), .second, .val (.int p1), .unset, .unset, .unset, .unset, .unset, .unset] [(.int (p1 &&& (1 : Int32)))])) t := by
    intro t k
    by_cases hc3 : (p1 &&& (1 : Int32)) = (0 : Int32)
    · try simp only [if_pos hc3] at k
      refine XS.ifYes X0.here hx rfl (pc0 := 3) (pc' := 12) rfl (hb hby at_3) rfl ((if0 _ _).trans (teq hc3).1) (by decide) (by decide) ?_
      show Steps p.tables e below (s₁.setTop (mkF m 12 #[.val (.long q0), .second, .val (.int p1), .unset, .unset, .unset, .unset, .unset, .unset] [])) _
      refine XS.lloadN X0.here hx rfl (hb hby at_12) rfl ?_
      show Steps p.tables e below (s₁.setTop (mkF m 13 #[.val (.long q0), .second, .val (.int p1), .unset, .unset, .unset, .unset, .unset, .unset] [(.long q0)])) _
      exact k
    · try simp only [if_neg hc3] at k
      refine XS.ifNo X0.here hx rfl (hb hby at_3) rfl ((if0 _ _).trans (feq hc3).1) ?_
      show Steps p.tables e below (s₁.setTop (mkF m 6 #[.val (.long q0), .second, .val (.int p1), .unset, .unset, .unset, .unset, .unset, .unset] [])) _
      refine X0.ldc2Long hx hown (mvT hZ (hw _ (List.mem_of_getElem? (i := 34) rfl))) (g := (mkF m 6 #[.val (.long q0), .second, .val (.int p1), .unset, .unset, .unset, .unset, .unset, .unset] [])) rfl (hb hby at_6) _ ?_
      show Steps p.tables e below (s₁.setTop (mkF m 9 #[.val (.long q0), .second, .val (.int p1), .unset, .unset, .unset, .unset, .unset, .unset] [(.long (-1 : Int64))])) _
      refine XS.goto X0.here hx rfl (pc0 := 9) (pc' := 13) rfl (hb hby at_9) (by decide) (by decide) ?_
      show Steps p.tables e below (s₁.setTop (mkF m 13 #[.val (.long q0), .second, .val (.int p1), .unset, .unset, .unset, .unset, .unset, .unset] [(.long (-1 : Int64))])) _
      exact k
  refine own_go sg1 ?_
  show own_Go p.tables e below _ (s₁.setTop (mkF m 13 #[.val (.long q0), .second, .val (.int p1), .unset, .unset, .unset, .unset, .unset, .unset] [(.long (if (p1 &&& (1 : Int32)) = (0 : Int32) then q0 else (-1 : Int64)))]))
  refine own_go (fun _ k => XS.lstoreN X0.here hx rfl (hb hby at_13) rfl (l' := #[.val (.long q0), .second, .val (.int p1), .val (.long (if (p1 &&& (1 : Int32)) = (0 : Int32) then q0 else (-1 : Int64))), .second, .unset, .unset, .unset, .unset]) rfl k) ?_
  show own_Go p.tables e below _ (s₁.setTop (mkF m 14 #[.val (.long q0), .second, .val (.int p1), .val (.long (if (p1 &&& (1 : Int32)) = (0 : Int32) then q0 else (-1 : Int64))), .second, .unset, .unset, .unset, .unset] []))
  obtain ⟨vl, hvl⟩ : ∃ z : Int64, z = (if (p1 &&& (1 : Int32)) = (0 : Int32) then q0 else (-1 : Int64)) := ⟨_, rfl⟩
  rw [← hvl]
  show own_Go p.tables e below _ (s₁.setTop (mkF m 14 #[.val (.long q0), .second, .val (.int p1), .val (.long vl), .second, .unset, .unset, .unset, .unset] []))
  refine own_go (fun _ k => XS.iloadN X0.here hx rfl (hb hby at_14) rfl k) ?_
  show own_Go p.tables e below _ (s₁.setTop (mkF m 15 #[.val (.long q0), .second, .val (.int p1), .val (.long vl), .second, .unset, .unset, .unset, .unset] [(.int p1)]))
  refine own_go (fun _ k => XS.iconst X0.here hx rfl (hb hby at_15) k) ?_
  show own_Go p.tables e below _ (s₁.setTop (mkF m 16 #[.val (.long q0), .second, .val (.int p1), .val (.long vl), .second, .unset, .unset, .unset, .unset] [(.int (2 : Int32)), (.int p1)]))
  refine own_go (fun _ k => XS.iand X0.here hx rfl (hb hby at_16) rfl k) ?_
  show own_Go p.tables e below _ (s₁.setTop (mkF m 17 #[.val (.long q0), .second, .val (.int p1), .val (.long vl), .second, .unset, .unset, .unset, .unset] [(.int (p1 &&& (2 : Int32)))]))
  have sg2 : ∀ t, Steps p.tables e below (s₁.setTop (mkF m 25 #[.val (.long q0), .second, .val (.int p1), .val (.long vl), .second, .unset, .unset, .unset, .unset] [(.int (if (p1 &&& (2 : Int32)) = (0 : Int32) then (0 : Int32) else (1 : Int32)))])) t → Steps p.tables e below (s₁.setTop (mkF m 17 #[.val (.long q0), .second, .val (.int p1), .val (.long vl), .second, .unset, .unset, .unset, .unset] [(.int (p1 &&& (2 : Int32)))])) t := by
    intro t k
    by_cases hc17 : (p1 &&& (2 : Int32)) = (0 : Int32)
    · try simp only [if_pos hc17] at k
      refine XS.ifYes X0.here hx rfl (pc0 := 17) (pc' := 24) rfl (hb hby at_17) rfl ((if0 _ _).trans (teq hc17).1) (by decide) (by decide) ?_
      show Steps p.tables e below (s₁.setTop (mkF m 24 #[.val (.long q0), .second, .val (.int p1), .val (.long vl), .second, .unset, .unset, .unset, .unset] [])) _
      refine XS.iconst X0.here hx rfl (hb hby at_24) ?_
      show Steps p.tables e below (s₁.setTop (mkF m 25 #[.val (.long q0), .second, .val (.int p1), .val (.long vl), .second, .unset, .unset, .unset, .unset] [(.int (0 : Int32))])) _
      exact k
    · try simp only [if_neg hc17] at k
      refine XS.ifNo X0.here hx rfl (hb hby at_17) rfl ((if0 _ _).trans (feq hc17).1) ?_
      show Steps p.tables e below (s₁.setTop (mkF m 20 #[.val (.long q0), .second, .val (.int p1), .val (.long vl), .second, .unset, .unset, .unset, .unset] [])) _
      refine XS.iconst X0.here hx rfl (hb hby at_20) ?_
      show Steps p.tables e below (s₁.setTop (mkF m 21 #[.val (.long q0), .second, .val (.int p1), .val (.long vl), .second, .unset, .unset, .unset, .unset] [(.int (1 : Int32))])) _
      refine XS.goto X0.here hx rfl (pc0 := 21) (pc' := 25) rfl (hb hby at_21) (by decide) (by decide) ?_
      show Steps p.tables e below (s₁.setTop (mkF m 25 #[.val (.long q0), .second, .val (.int p1), .val (.long vl), .second, .unset, .unset, .unset, .unset] [(.int (1 : Int32))])) _
      exact k
  refine own_go sg2 ?_
  show own_Go p.tables e below _ (s₁.setTop (mkF m 25 #[.val (.long q0), .second, .val (.int p1), .val (.long vl), .second, .unset, .unset, .unset, .unset] [(.int (if (p1 &&& (2 : Int32)) = (0 : Int32) then (0 : Int32) else (1 : Int32)))]))
  refine own_go (fun _ k => XS.istore X0.here hx rfl (hb hby at_25) rfl (l' := #[.val (.long q0), .second, .val (.int p1), .val (.long vl), .second, .val (.int (if (p1 &&& (2 : Int32)) = (0 : Int32) then (0 : Int32) else (1 : Int32))), .unset, .unset, .unset]) rfl k) ?_
  show own_Go p.tables e below _ (s₁.setTop (mkF m 27 #[.val (.long q0), .second, .val (.int p1), .val (.long vl), .second, .val (.int (if (p1 &&& (2 : Int32)) = (0 : Int32) then (0 : Int32) else (1 : Int32))), .unset, .unset, .unset] []))
  obtain ⟨vk, hvk⟩ : ∃ z : Int32, z = (if (p1 &&& (2 : Int32)) = (0 : Int32) then (0 : Int32) else (1 : Int32)) := ⟨_, rfl⟩
  rw [← hvk]
  show own_Go p.tables e below _ (s₁.setTop (mkF m 27 #[.val (.long q0), .second, .val (.int p1), .val (.long vl), .second, .val (.int vk), .unset, .unset, .unset] []))
  refine own_go (fun _ k => XS.iloadN X0.here hx rfl (hb hby at_27) rfl k) ?_
  show own_Go p.tables e below _ (s₁.setTop (mkF m 28 #[.val (.long q0), .second, .val (.int p1), .val (.long vl), .second, .val (.int vk), .unset, .unset, .unset] [(.int p1)]))
  refine own_go (fun _ k => XS.iconst X0.here hx rfl (hb hby at_28) k) ?_
  show own_Go p.tables e below _ (s₁.setTop (mkF m 29 #[.val (.long q0), .second, .val (.int p1), .val (.long vl), .second, .val (.int vk), .unset, .unset, .unset] [(.int (4 : Int32)), (.int p1)]))
  refine own_go (fun _ k => XS.iand X0.here hx rfl (hb hby at_29) rfl k) ?_
  show own_Go p.tables e below _ (s₁.setTop (mkF m 30 #[.val (.long q0), .second, .val (.int p1), .val (.long vl), .second, .val (.int vk), .unset, .unset, .unset] [(.int (p1 &&& (4 : Int32)))]))
  have sg3 : ∀ t, Steps p.tables e below (s₁.setTop (mkF m 38 #[.val (.long q0), .second, .val (.int p1), .val (.long vl), .second, .val (.int vk), .unset, .unset, .unset] [(.int (if (p1 &&& (4 : Int32)) = (0 : Int32) then (0 : Int32) else (1 : Int32)))])) t → Steps p.tables e below (s₁.setTop (mkF m 30 #[.val (.long q0), .second, .val (.int p1), .val (.long vl), .second, .val (.int vk), .unset, .unset, .unset] [(.int (p1 &&& (4 : Int32)))])) t := by
    intro t k
    by_cases hc30 : (p1 &&& (4 : Int32)) = (0 : Int32)
    · try simp only [if_pos hc30] at k
      refine XS.ifYes X0.here hx rfl (pc0 := 30) (pc' := 37) rfl (hb hby at_30) rfl ((if0 _ _).trans (teq hc30).1) (by decide) (by decide) ?_
      show Steps p.tables e below (s₁.setTop (mkF m 37 #[.val (.long q0), .second, .val (.int p1), .val (.long vl), .second, .val (.int vk), .unset, .unset, .unset] [])) _
      refine XS.iconst X0.here hx rfl (hb hby at_37) ?_
      show Steps p.tables e below (s₁.setTop (mkF m 38 #[.val (.long q0), .second, .val (.int p1), .val (.long vl), .second, .val (.int vk), .unset, .unset, .unset] [(.int (0 : Int32))])) _
      exact k
    · try simp only [if_neg hc30] at k
      refine XS.ifNo X0.here hx rfl (hb hby at_30) rfl ((if0 _ _).trans (feq hc30).1) ?_
      show Steps p.tables e below (s₁.setTop (mkF m 33 #[.val (.long q0), .second, .val (.int p1), .val (.long vl), .second, .val (.int vk), .unset, .unset, .unset] [])) _
      refine XS.iconst X0.here hx rfl (hb hby at_33) ?_
      show Steps p.tables e below (s₁.setTop (mkF m 34 #[.val (.long q0), .second, .val (.int p1), .val (.long vl), .second, .val (.int vk), .unset, .unset, .unset] [(.int (1 : Int32))])) _
      refine XS.goto X0.here hx rfl (pc0 := 34) (pc' := 38) rfl (hb hby at_34) (by decide) (by decide) ?_
      show Steps p.tables e below (s₁.setTop (mkF m 38 #[.val (.long q0), .second, .val (.int p1), .val (.long vl), .second, .val (.int vk), .unset, .unset, .unset] [(.int (1 : Int32))])) _
      exact k
  refine own_go sg3 ?_
  show own_Go p.tables e below _ (s₁.setTop (mkF m 38 #[.val (.long q0), .second, .val (.int p1), .val (.long vl), .second, .val (.int vk), .unset, .unset, .unset] [(.int (if (p1 &&& (4 : Int32)) = (0 : Int32) then (0 : Int32) else (1 : Int32)))]))
  refine own_go (fun _ k => XS.istore X0.here hx rfl (hb hby at_38) rfl (l' := #[.val (.long q0), .second, .val (.int p1), .val (.long vl), .second, .val (.int vk), .val (.int (if (p1 &&& (4 : Int32)) = (0 : Int32) then (0 : Int32) else (1 : Int32))), .unset, .unset]) rfl k) ?_
  show own_Go p.tables e below _ (s₁.setTop (mkF m 40 #[.val (.long q0), .second, .val (.int p1), .val (.long vl), .second, .val (.int vk), .val (.int (if (p1 &&& (4 : Int32)) = (0 : Int32) then (0 : Int32) else (1 : Int32))), .unset, .unset] []))
  obtain ⟨vx, hvx⟩ : ∃ z : Int32, z = (if (p1 &&& (4 : Int32)) = (0 : Int32) then (0 : Int32) else (1 : Int32)) := ⟨_, rfl⟩
  rw [← hvx]
  show own_Go p.tables e below _ (s₁.setTop (mkF m 40 #[.val (.long q0), .second, .val (.int p1), .val (.long vl), .second, .val (.int vk), .val (.int vx), .unset, .unset] []))
  obtain ⟨T4, h4, X4, e4, E4, A4, D4, -, st4⟩ := newO X0 hx hZ hown (hw _ (List.mem_of_getElem? (i := 0) rfl)) (hw _ (List.mem_of_getElem? (i := 1) rfl)) (hw _ (List.mem_of_getElem? (i := 2) rfl)) e0 (g := (mkF m 40 #[.val (.long q0), .second, .val (.int p1), .val (.long vl), .second, .val (.int vk), .val (.int vx), .unset, .unset] [])) rfl (hb hby at_40) (by decide) (by decide)
  obtain ⟨b4, g4⟩ : ∃ z, z = h0.size := ⟨_, rfl⟩
  rw [← g4] at A4 D4 st4
  have g_b4 : n0 ≤ b4 := Nat.le_trans Z0 (Nat.le_of_eq g4.symm)
  have Z4 : n0 ≤ h4.size := Nat.le_trans Z0 E4.1
  have F4_15 : Fld Z h4 b4 "com/example/vestibule/vestibule/http/RequestHead" "method" "Ljava/lang/String;" .null := D4 (Or.inr (hw _ (List.mem_of_getElem? (i := 15) rfl))) (ty := (.object "java/lang/String")) (by decide)
  have F4_17 : Fld Z h4 b4 "com/example/vestibule/vestibule/http/RequestHead" "target" "Ljava/lang/String;" .null := D4 (Or.inr (hw _ (List.mem_of_getElem? (i := 17) rfl))) (ty := (.object "java/lang/String")) (by decide)
  have F4_19 : Fld Z h4 b4 "com/example/vestibule/vestibule/http/RequestHead" "path" "Ljava/lang/String;" .null := D4 (Or.inr (hw _ (List.mem_of_getElem? (i := 19) rfl))) (ty := (.object "java/lang/String")) (by decide)
  have F4_21 : Fld Z h4 b4 "com/example/vestibule/vestibule/http/RequestHead" "query" "Ljava/lang/String;" .null := D4 (Or.inr (hw _ (List.mem_of_getElem? (i := 21) rfl))) (ty := (.object "java/lang/String")) (by decide)
  have F4_23 : Fld Z h4 b4 "com/example/vestibule/vestibule/http/RequestHead" "protocol" "Ljava/lang/String;" .null := D4 (Or.inr (hw _ (List.mem_of_getElem? (i := 23) rfl))) (ty := (.object "java/lang/String")) (by decide)
  have F4_25 : Fld Z h4 b4 "com/example/vestibule/vestibule/http/RequestHead" "authority" "Ljava/lang/String;" .null := D4 (Or.inr (hw _ (List.mem_of_getElem? (i := 25) rfl))) (ty := (.object "java/lang/String")) (by decide)
  have F4_27 : Fld Z h4 b4 "com/example/vestibule/vestibule/http/RequestHead" "headers" "Lcom/example/vestibule/vestibule/http/HttpFields;" .null := D4 (Or.inr (hw _ (List.mem_of_getElem? (i := 27) rfl))) (ty := (.object "com/example/vestibule/vestibule/http/HttpFields")) (by decide)
  have F4_29 : Fld Z h4 b4 "com/example/vestibule/vestibule/http/RequestHead" "contentLength" "J" (.long (0 : Int64)) := D4 (Or.inr (hw _ (List.mem_of_getElem? (i := 29) rfl))) (ty := .long) (by decide)
  have F4_31 : Fld Z h4 b4 "com/example/vestibule/vestibule/http/RequestHead" "keepAlive" "Z" (.int (0 : Int32)) := D4 (Or.inr (hw _ (List.mem_of_getElem? (i := 31) rfl))) (ty := .boolean) (by decide)
  have F4_33 : Fld Z h4 b4 "com/example/vestibule/vestibule/http/RequestHead" "expectContinue" "Z" (.int (0 : Int32)) := D4 (Or.inr (hw _ (List.mem_of_getElem? (i := 33) rfl))) (ty := .boolean) (by decide)
  refine own_go st4 ?_
  show own_Go p.tables e below _ (T4.setTop (mkF m 43 #[.val (.long q0), .second, .val (.int p1), .val (.long vl), .second, .val (.int vk), .val (.int vx), .unset, .unset] [(.ref b4)]))
  refine own_go (fun _ k => XS.dup X4.here hx rfl (hb hby at_43) rfl rfl k) ?_
  show own_Go p.tables e below _ (T4.setTop (mkF m 44 #[.val (.long q0), .second, .val (.int p1), .val (.long vl), .second, .val (.int vk), .val (.int vx), .unset, .unset] [(.ref b4), (.ref b4)]))
  refine own_go (fun _ k => XS.aconstNull X4.here hx rfl (hb hby at_44) k) ?_
  show own_Go p.tables e below _ (T4.setTop (mkF m 45 #[.val (.long q0), .second, .val (.int p1), .val (.long vl), .second, .val (.int vk), .val (.int vx), .unset, .unset] [.null, (.ref b4), (.ref b4)]))
  refine own_go (fun _ k => XS.aconstNull X4.here hx rfl (hb hby at_45) k) ?_
  show own_Go p.tables e below _ (T4.setTop (mkF m 46 #[.val (.long q0), .second, .val (.int p1), .val (.long vl), .second, .val (.int vk), .val (.int vx), .unset, .unset] [.null, .null, (.ref b4), (.ref b4)]))
  refine own_go (fun _ k => XS.aconstNull X4.here hx rfl (hb hby at_46) k) ?_
  show own_Go p.tables e below _ (T4.setTop (mkF m 47 #[.val (.long q0), .second, .val (.int p1), .val (.long vl), .second, .val (.int vk), .val (.int vx), .unset, .unset] [.null, .null, .null, (.ref b4), (.ref b4)]))
  refine own_go (fun _ k => XS.aconstNull X4.here hx rfl (hb hby at_47) k) ?_
  show own_Go p.tables e below _ (T4.setTop (mkF m 48 #[.val (.long q0), .second, .val (.int p1), .val (.long vl), .second, .val (.int vk), .val (.int vx), .unset, .unset] [.null, .null, .null, .null, (.ref b4), (.ref b4)]))
  refine own_go (fun _ k => XS.aconstNull X4.here hx rfl (hb hby at_48) k) ?_
  show own_Go p.tables e below _ (T4.setTop (mkF m 49 #[.val (.long q0), .second, .val (.int p1), .val (.long vl), .second, .val (.int vk), .val (.int vx), .unset, .unset] [.null, .null, .null, .null, .null, (.ref b4), (.ref b4)]))
  refine own_go (fun _ k => XS.aconstNull X4.here hx rfl (hb hby at_49) k) ?_
  show own_Go p.tables e below _ (T4.setTop (mkF m 50 #[.val (.long q0), .second, .val (.int p1), .val (.long vl), .second, .val (.int vk), .val (.int vx), .unset, .unset] [.null, .null, .null, .null, .null, .null, (.ref b4), (.ref b4)]))
  refine own_go (fun _ k => XS.aconstNull X4.here hx rfl (hb hby at_50) k) ?_
  show own_Go p.tables e below _ (T4.setTop (mkF m 51 #[.val (.long q0), .second, .val (.int p1), .val (.long vl), .second, .val (.int vk), .val (.int vx), .unset, .unset] [.null, .null, .null, .null, .null, .null, .null, (.ref b4), (.ref b4)]))
  refine own_go (fun _ k => XS.lloadN X4.here hx rfl (hb hby at_51) rfl k) ?_
  show own_Go p.tables e below _ (T4.setTop (mkF m 52 #[.val (.long q0), .second, .val (.int p1), .val (.long vl), .second, .val (.int vk), .val (.int vx), .unset, .unset] [(.long vl), .null, .null, .null, .null, .null, .null, .null, (.ref b4), (.ref b4)]))
  refine own_go (fun _ k => XS.iload X4.here hx rfl (hb hby at_52) rfl k) ?_
  show own_Go p.tables e below _ (T4.setTop (mkF m 54 #[.val (.long q0), .second, .val (.int p1), .val (.long vl), .second, .val (.int vk), .val (.int vx), .unset, .unset] [(.int vk), (.long vl), .null, .null, .null, .null, .null, .null, .null, (.ref b4), (.ref b4)]))
  refine own_go (fun _ k => XS.iload X4.here hx rfl (hb hby at_54) rfl k) ?_
  show own_Go p.tables e below _ (T4.setTop (mkF m 56 #[.val (.long q0), .second, .val (.int p1), .val (.long vl), .second, .val (.int vk), .val (.int vx), .unset, .unset] [(.int vx), (.int vk), (.long vl), .null, .null, .null, .null, .null, .null, .null, (.ref b4), (.ref b4)]))
  obtain ⟨_, _, ⟨T5, L5, k5, n5⟩, -, X5, ⟨Lc5, hQ5, l5, y5, z5⟩, st5⟩ := X4.specialBack hx (y := (⟨"com/example/vestibule/vestibule/http/RequestHead", "<init>", "(Ljava/lang/String;Ljava/lang/String;Ljava/lang/String;Ljava/lang/String;Ljava/lang/String;Ljava/lang/String;Lcom/example/vestibule/vestibule/http/HttpFields;JZZ)V"⟩ : MethodName)) rfl hown (mvT hZ (hw _ (List.mem_of_getElem? (i := 3) rfl))) (mvT hZ (hw _ (List.mem_of_getElem? (i := 4) rfl))) (mvT hZ (hw _ (List.mem_of_getElem? (i := 5) rfl))) (by decide) (backOf (W := 1) (rm2 l Z az hw [] b4 vl vk vx h4 n0 Z4 F4_15 F4_17 F4_19 F4_21 F4_23 F4_25 F4_27 F4_29 F4_31 F4_33 A4 g_b4) hZ (hw _ (List.mem_of_getElem? (i := 5) rfl)) (hw _ (List.mem_of_getElem? (i := 2) rfl)) (by decide) (by decide)) (g := (mkF m 56 #[.val (.long q0), .second, .val (.int p1), .val (.long vl), .second, .val (.int vk), .val (.int vx), .unset, .unset] [(.int vx), (.int vk), (.long vl), .null, .null, .null, .null, .null, .null, .null, (.ref b4), (.ref b4)])) rfl (by rw [hml]; rfl) (Steps.refl _) (a := b4) (argsL := [.null, .null, .null, .null, .null, .null, .null, (.long vl), (.int vk), (.int vx)]) (rest := [(.ref b4)]) (lenOf pd0_0 rfl) rfl (by show 2 * 0 + _ ≤ _; exact Nat.le_of_eq rfl) (hb hby at_56) (fun _ _ => ⟨rfl, e4, (by decide : 1 + 0 ≤ _), (by decide : 10 + 0 ≤ _)⟩)
  dsimp only [Pt.U, Pt.locs, Pt.cells, Pt.slots] at X5 l5 y5 z5 st5 hQ5
  subst l5 y5 z5
  refine own_go (fun _ k => st5.trans k) ?_
  obtain ⟨rfl, N5q, K5, E5_, F5_0, F5_1, F5_2, F5_3, F5_4, F5_5, F5_6, F5_7, F5_8, F5_9⟩ := hQ5
  have N5 := Fr.app N0 N5q
  have Z5 : n0 ≤ T5.heap.size := Nat.le_trans Z4 K5.1
  show own_Go p.tables e below _ (T5.setTop (mkF m 59 #[.val (.long q0), .second, .val (.int p1), .val (.long vl), .second, .val (.int vk), .val (.int vx), .unset, .unset] [(.ref b4)]))
  refine own_go (fun _ k => XS.astore X5.here hx rfl (hb hby at_59) rfl rfl (l' := #[.val (.long q0), .second, .val (.int p1), .val (.long vl), .second, .val (.int vk), .val (.int vx), .val (.ref b4), .unset]) rfl k) ?_
  show own_Go p.tables e below _ (T5.setTop (mkF m 61 #[.val (.long q0), .second, .val (.int p1), .val (.long vl), .second, .val (.int vk), .val (.int vx), .val (.ref b4), .unset] []))
  refine own_go (fun _ k => XS.lloadN X5.here hx rfl (hb hby at_61) rfl k) ?_
  show own_Go p.tables e below _ (T5.setTop (mkF m 62 #[.val (.long q0), .second, .val (.int p1), .val (.long vl), .second, .val (.int vk), .val (.int vx), .val (.ref b4), .unset] [(.long vl)]))
  refine own_go (fun _ k => X5.ldc2Long hx hown (mvT hZ (hw _ (List.mem_of_getElem? (i := 34) rfl))) (g := (mkF m 62 #[.val (.long q0), .second, .val (.int p1), .val (.long vl), .second, .val (.int vk), .val (.int vx), .val (.ref b4), .unset] [(.long vl)])) rfl (hb hby at_62) _ k) ?_
  show own_Go p.tables e below _ (T5.setTop (mkF m 65 #[.val (.long q0), .second, .val (.int p1), .val (.long vl), .second, .val (.int vk), .val (.int vx), .val (.ref b4), .unset] [(.long (-1 : Int64)), (.long vl)]))
  refine own_go (fun _ k => XS.lcmp X5.here hx rfl (hb hby at_65) rfl k) ?_
  show own_Go p.tables e below _ (T5.setTop (mkF m 66 #[.val (.long q0), .second, .val (.int p1), .val (.long vl), .second, .val (.int vk), .val (.int vx), .val (.ref b4), .unset] [(.int (lcmpW vl (-1 : Int64)))]))
  have sg6 : ∀ t, Steps p.tables e below (T5.setTop (mkF m 78 #[.val (.long q0), .second, .val (.int p1), .val (.long vl), .second, .val (.int vk), .val (.int vx), .val (.ref b4), .val (.int (if vl = (-1 : Int64) then (1 : Int32) else (0 : Int32)))] [])) t → Steps p.tables e below (T5.setTop (mkF m 66 #[.val (.long q0), .second, .val (.int p1), .val (.long vl), .second, .val (.int vk), .val (.int vx), .val (.ref b4), .unset] [(.int (lcmpW vl (-1 : Int64)))])) t := by
    intro t k
    by_cases hc66 : vl = (-1 : Int64)
    · try simp only [if_pos hc66] at k
      refine XS.ifNo X5.here hx rfl (hb hby at_66) rfl ((if0 _ _).trans (teq ((lw_eq vl (-1 : Int64)).mpr hc66)).2) ?_
      show Steps p.tables e below (T5.setTop (mkF m 69 #[.val (.long q0), .second, .val (.int p1), .val (.long vl), .second, .val (.int vk), .val (.int vx), .val (.ref b4), .unset] [])) _
      refine XS.iconst X5.here hx rfl (hb hby at_69) ?_
      show Steps p.tables e below (T5.setTop (mkF m 70 #[.val (.long q0), .second, .val (.int p1), .val (.long vl), .second, .val (.int vk), .val (.int vx), .val (.ref b4), .unset] [(.int (1 : Int32))])) _
      refine XS.istore X5.here hx rfl (hb hby at_70) rfl (l' := #[.val (.long q0), .second, .val (.int p1), .val (.long vl), .second, .val (.int vk), .val (.int vx), .val (.ref b4), .val (.int (1 : Int32))]) rfl ?_
      show Steps p.tables e below (T5.setTop (mkF m 72 #[.val (.long q0), .second, .val (.int p1), .val (.long vl), .second, .val (.int vk), .val (.int vx), .val (.ref b4), .val (.int (1 : Int32))] [])) _
      refine XS.goto X5.here hx rfl (pc0 := 72) (pc' := 78) rfl (hb hby at_72) (by decide) (by decide) ?_
      show Steps p.tables e below (T5.setTop (mkF m 78 #[.val (.long q0), .second, .val (.int p1), .val (.long vl), .second, .val (.int vk), .val (.int vx), .val (.ref b4), .val (.int (1 : Int32))] [])) _
      exact k
    · try simp only [if_neg hc66] at k
      refine XS.ifYes X5.here hx rfl (pc0 := 66) (pc' := 75) rfl (hb hby at_66) rfl ((if0 _ _).trans (feq (mt (lw_eq vl (-1 : Int64)).mp hc66)).2) (by decide) (by decide) ?_
      show Steps p.tables e below (T5.setTop (mkF m 75 #[.val (.long q0), .second, .val (.int p1), .val (.long vl), .second, .val (.int vk), .val (.int vx), .val (.ref b4), .unset] [])) _
      refine XS.iconst X5.here hx rfl (hb hby at_75) ?_
      show Steps p.tables e below (T5.setTop (mkF m 76 #[.val (.long q0), .second, .val (.int p1), .val (.long vl), .second, .val (.int vk), .val (.int vx), .val (.ref b4), .unset] [(.int (0 : Int32))])) _
      refine XS.istore X5.here hx rfl (hb hby at_76) rfl (l' := #[.val (.long q0), .second, .val (.int p1), .val (.long vl), .second, .val (.int vk), .val (.int vx), .val (.ref b4), .val (.int (0 : Int32))]) rfl ?_
      show Steps p.tables e below (T5.setTop (mkF m 78 #[.val (.long q0), .second, .val (.int p1), .val (.long vl), .second, .val (.int vk), .val (.int vx), .val (.ref b4), .val (.int (0 : Int32))] [])) _
      exact k
  refine own_go sg6 ?_
  show own_Go p.tables e below _ (T5.setTop (mkF m 78 #[.val (.long q0), .second, .val (.int p1), .val (.long vl), .second, .val (.int vk), .val (.int vx), .val (.ref b4), .val (.int (if vl = (-1 : Int64) then (1 : Int32) else (0 : Int32)))] []))
  refine own_go (fun _ k => XS.aload X5.here hx rfl (hb hby at_78) rfl rfl k) ?_
  show own_Go p.tables e below _ (T5.setTop (mkF m 80 #[.val (.long q0), .second, .val (.int p1), .val (.long vl), .second, .val (.int vk), .val (.int vx), .val (.ref b4), .val (.int (if vl = (-1 : Int64) then (1 : Int32) else (0 : Int32)))] [(.ref b4)]))
  obtain ⟨cq7, kq7, q7a, q7b, q7c⟩ := isOf hZ rfl E5_
  obtain ⟨_, _, ⟨T7, L7, k7, n7⟩, -, X7, ⟨Lc7, hQ7, l7, y7, z7⟩, st7⟩ := X5.virtualBack hx (y := (⟨"com/example/vestibule/vestibule/http/RequestHead", "chunked", "()Z"⟩ : MethodName)) (z := (⟨"com/example/vestibule/vestibule/http/RequestHead", "chunked", "()Z"⟩ : MethodName)) hown (mvT hZ (hw _ (List.mem_of_getElem? (i := 35) rfl))) (mvT hZ (hw _ (List.mem_of_getElem? (i := 36) rfl))) (notFace_of_selects (args := #[]) (mvT hZ (hw _ (List.mem_of_getElem? (i := 38) rfl)))) (mvT hZ (hw _ (List.mem_of_getElem? (i := 38) rfl))) (mvT hZ (hw _ (List.mem_of_getElem? (i := 37) rfl))) (by decide) (backOf (W := 0) (rm3 l Z az hw [] b4 vl T5.heap n0 Z5 F5_7) hZ (hw _ (List.mem_of_getElem? (i := 39) rfl)) (hw _ (List.mem_of_getElem? (i := 2) rfl)) (by decide) (by decide)) q7a q7c (g := (mkF m 80 #[.val (.long q0), .second, .val (.int p1), .val (.long vl), .second, .val (.int vk), .val (.int vx), .val (.ref b4), .val (.int (if vl = (-1 : Int64) then (1 : Int32) else (0 : Int32)))] [(.ref b4)])) rfl (by rw [hml]; rfl) (Steps.refl _) (argsL := []) (rest := []) (lenOf pd0_1 rfl) rfl (by show 2 * 0 + _ ≤ _; exact Nat.le_of_eq rfl) (hb hby at_80) (fun _ _ => ⟨rfl, rfl, (by decide : 1 + 0 ≤ _), (by decide : 10 + 0 ≤ _)⟩)
  dsimp only [Pt.U, Pt.locs, Pt.cells, Pt.slots] at X7 l7 y7 z7 st7 hQ7
  subst l7 y7 z7
  refine own_go (fun _ k => st7.trans k) ?_
  obtain ⟨rfl, N7q, e7⟩ := hQ7
  have N7 := Fr.app N5 N7q
  show own_Go p.tables e below _ (T7.setTop (mkF m 83 #[.val (.long q0), .second, .val (.int p1), .val (.long vl), .second, .val (.int vk), .val (.int vx), .val (.ref b4), .val (.int (if vl = (-1 : Int64) then (1 : Int32) else (0 : Int32)))] [(.int (own_f3 vl))]))
  refine own_go (fun _ k => XS.iload X7.here hx rfl (hb hby at_83) rfl k) ?_
  show own_Go p.tables e below _ (T7.setTop (mkF m 85 #[.val (.long q0), .second, .val (.int p1), .val (.long vl), .second, .val (.int vk), .val (.int vx), .val (.ref b4), .val (.int (if vl = (-1 : Int64) then (1 : Int32) else (0 : Int32)))] [(.int (if vl = (-1 : Int64) then (1 : Int32) else (0 : Int32))), (.int (own_f3 vl))]))
  have hf85 : (own_f3 vl) = (if vl = (-1 : Int64) then (1 : Int32) else (0 : Int32)) := rfl
  refine own_go (fun _ k => XS.icmpNo X7.here hx rfl (hb hby at_85) rfl (teq hf85).2 k) ?_
  show own_Go p.tables e below _ (T7.setTop (mkF m 88 #[.val (.long q0), .second, .val (.int p1), .val (.long vl), .second, .val (.int vk), .val (.int vx), .val (.ref b4), .val (.int (if vl = (-1 : Int64) then (1 : Int32) else (0 : Int32)))] []))
  refine own_go (fun _ k => XS.aload X7.here hx rfl (hb hby at_88) rfl rfl k) ?_
  show own_Go p.tables e below _ (T7.setTop (mkF m 90 #[.val (.long q0), .second, .val (.int p1), .val (.long vl), .second, .val (.int vk), .val (.int vx), .val (.ref b4), .val (.int (if vl = (-1 : Int64) then (1 : Int32) else (0 : Int32)))] [(.ref b4)]))
  obtain ⟨cq8, kq8, q8a, q8b, q8c⟩ := isOf hZ (e7 : T7.heap = T5.heap) E5_
  obtain ⟨_, _, ⟨T8, L8, k8, n8⟩, -, X8, ⟨Lc8, hQ8, l8, y8, z8⟩, st8⟩ := X7.virtualBack hx (y := (⟨"com/example/vestibule/vestibule/http/RequestHead", "contentLength", "()J"⟩ : MethodName)) (z := (⟨"com/example/vestibule/vestibule/http/RequestHead", "contentLength", "()J"⟩ : MethodName)) hown (mvT hZ (hw _ (List.mem_of_getElem? (i := 41) rfl))) (mvT hZ (hw _ (List.mem_of_getElem? (i := 42) rfl))) (notFace_of_selects (args := #[]) (mvT hZ (hw _ (List.mem_of_getElem? (i := 44) rfl)))) (mvT hZ (hw _ (List.mem_of_getElem? (i := 44) rfl))) (mvT hZ (hw _ (List.mem_of_getElem? (i := 43) rfl))) (by decide) (backOf (W := 0) (rm4 l Z az hw [] b4 vl T5.heap n0 Z5 F5_7) hZ (hw _ (List.mem_of_getElem? (i := 45) rfl)) (hw _ (List.mem_of_getElem? (i := 2) rfl)) (by decide) (by decide)) q8a q8c (g := (mkF m 90 #[.val (.long q0), .second, .val (.int p1), .val (.long vl), .second, .val (.int vk), .val (.int vx), .val (.ref b4), .val (.int (if vl = (-1 : Int64) then (1 : Int32) else (0 : Int32)))] [(.ref b4)])) rfl (by rw [hml]; rfl) (Steps.refl _) (argsL := []) (rest := []) (lenOf pd0_2 rfl) rfl (by show 2 * 0 + _ ≤ _; exact Nat.le_of_eq rfl) (hb hby at_90) (fun _ _ => ⟨rfl, (e7 : T7.heap = T5.heap), (by decide : 1 + 0 ≤ _), (by decide : 10 + 0 ≤ _)⟩)
  dsimp only [Pt.U, Pt.locs, Pt.cells, Pt.slots] at X8 l8 y8 z8 st8 hQ8
  subst l8 y8 z8
  refine own_go (fun _ k => st8.trans k) ?_
  obtain ⟨rfl, N8q, e8⟩ := hQ8
  have N8 := Fr.app N7 N8q
  show own_Go p.tables e below _ (T8.setTop (mkF m 93 #[.val (.long q0), .second, .val (.int p1), .val (.long vl), .second, .val (.int vk), .val (.int vx), .val (.ref b4), .val (.int (if vl = (-1 : Int64) then (1 : Int32) else (0 : Int32)))] [(.long (own_f4 vl))]))
  refine own_go (fun _ k => XS.lloadN X8.here hx rfl (hb hby at_93) rfl k) ?_
  show own_Go p.tables e below _ (T8.setTop (mkF m 94 #[.val (.long q0), .second, .val (.int p1), .val (.long vl), .second, .val (.int vk), .val (.int vx), .val (.ref b4), .val (.int (if vl = (-1 : Int64) then (1 : Int32) else (0 : Int32)))] [(.long vl), (.long (own_f4 vl))]))
  refine own_go (fun _ k => XS.lcmp X8.here hx rfl (hb hby at_94) rfl k) ?_
  show own_Go p.tables e below _ (T8.setTop (mkF m 95 #[.val (.long q0), .second, .val (.int p1), .val (.long vl), .second, .val (.int vk), .val (.int vx), .val (.ref b4), .val (.int (if vl = (-1 : Int64) then (1 : Int32) else (0 : Int32)))] [(.int (lcmpW (own_f4 vl) vl))]))
  have hf95 : (own_f4 vl) = vl := rfl
  refine own_go (fun _ k => XS.ifNo X8.here hx rfl (hb hby at_95) rfl ((if0 _ _).trans (teq ((lw_eq (own_f4 vl) vl).mpr hf95)).2) k) ?_
  show own_Go p.tables e below _ (T8.setTop (mkF m 98 #[.val (.long q0), .second, .val (.int p1), .val (.long vl), .second, .val (.int vk), .val (.int vx), .val (.ref b4), .val (.int (if vl = (-1 : Int64) then (1 : Int32) else (0 : Int32)))] []))
  refine own_go (fun _ k => XS.iconst X8.here hx rfl (hb hby at_98) k) ?_
  show own_Go p.tables e below _ (T8.setTop (mkF m 99 #[.val (.long q0), .second, .val (.int p1), .val (.long vl), .second, .val (.int vk), .val (.int vx), .val (.ref b4), .val (.int (if vl = (-1 : Int64) then (1 : Int32) else (0 : Int32)))] [(.int (1 : Int32))]))
  refine own_go (fun _ k => XS.goto X8.here hx rfl (pc0 := 99) (pc' := 103) rfl (hb hby at_99) (by decide) (by decide) k) ?_
  show own_Go p.tables e below _ (T8.setTop (mkF m 103 #[.val (.long q0), .second, .val (.int p1), .val (.long vl), .second, .val (.int vk), .val (.int vx), .val (.ref b4), .val (.int (if vl = (-1 : Int64) then (1 : Int32) else (0 : Int32)))] [(.int (1 : Int32))]))
  refine own_end X8 Bd.notSynchronized (v := some (.int (1 : Int32))) (fun h => by rw [Bd.returns] at h; cases h) (fun fs hr => retN X8 hx (t := .boolean) Bd.returns (by simp) (hb hby at_103) hr) ?_ (by decide) (by decide)
  exact ⟨rfl, N8⟩
set_option maxRecDepth 65536 in
set_option maxHeartbeats 40000000 in
theorem comes_1 {Post : Tables → Env → Array Value → State → Outcome → State → Prop} (hpost : ∀ tb e args s v u, (limb_1_1.after args s (.returned v) u = true ∧ limb_1_2.after args s (.returned v) u = true ∧ True) → FrameEnd s (.returned v) u (Jvm.fieldLocs frame_1_writes args s ++ Jvm.arrayLocs frame_1_arrays args s ++ Jvm.staticLocs frame_1_statics s) 16 128 → Post tb e args s (.returned v) u) :
    ArmFor flags0 classFile x code maxLocals ret World_1 tables_1 room_1 Calls_1 rest_1 Pre_1 Post := by
  intro l hfl _ _ p e ha hc hk s m args below hf hA hF happ hP
  obtain ⟨hcalls, hrest, hpre⟩ := hP
  obtain ⟨-, -, -, hnamed, -, -, -, hat⟩ := (Spec.applies_iff hf).mp happ
  obtain ⟨hg, hn⟩ := and_e (Cond.before_iff.mp (show (Jvm.Cond.and given_1 narrow_1).before args s = true from hpre))
  obtain ⟨g1, g2⟩ := and_e hg
  obtain ⟨g3, g4⟩ := and_e g2
  obtain ⟨w0, w1, rfl⟩ : ∃ w0 w1 : Value, args = #[w0, w1] := by
    have hs : args.size = 2 := by simpa [Cond.value, given_1] using g1
    obtain ⟨L⟩ := args
    match L, hs with
    | [w0, w1], _ => exact ⟨w0, w1, rfl⟩
  have hw := fun d (hd : d ∈ tables_1) => atoms_spec (ws := Jvm.Cond.code x code maxLocals ret :: tables_1) hat d (List.mem_cons_of_mem _ hd)
  obtain ⟨i0, ei0⟩ := isL_v g3
  obtain rfl : w0 = (.long i0) := Option.some.inj ei0
  obtain ⟨i1, ei1⟩ := is_v g4
  obtain rfl : w1 = (.int i1) := Option.some.inj ei1
  obtain ⟨n, o, h1, h2, h3, _, L, rfl, ⟨rfl, N⟩, hq⟩ := rm0 l s _ hw tables_1 i0 i1 s.heap s.heap.size (Nat.le_refl _) p e ha hc hk s m _ below hf ((Spec.applies_iff_loose hf).mp happ).1 ⟨rfl, State.Warmed39.refl s, rfl⟩ trivial
  refine ⟨n, _, h1, h2, h3, hpost _ _ _ _ _ _ ⟨Cond.after_iff.mpr rfl, Cond.after_iff.mpr (eq_i res_at (Term.int_eval (1)) rfl), trivial⟩ ⟨hq.1, hq.2.1, (hq.2.2.sift fun y hy => Or.inr (N y hy)).mono (by decide) (by decide)⟩⟩
theorem main_1_1 : Claimed_1_1 := comes_1 fun _ _ _ _ _ _ h hF => ⟨h.1, hF⟩
theorem main_1_2 : Claimed_1_2 := comes_1 fun _ _ _ _ _ _ h hF => ⟨h.2.1, hF⟩
end Jvm.Pilot.@@N@@
namespace Jvm.Pilot.@@N@@
open Jvm Jvm.ClassFile Sem Op Lib Jvm.Free Jvm.Stand Jvm.Pilot.@@N@@.Jvm.D
/-! MADE BY PROGRAM (witnessworld.py) out of the Statement's table words and the real class files: 10 classes; the members and pool entries that the words name. The judged class is class 1, her method 1. -/
namespace start1
open Jvm.ClassFile
def u (s : String) : CpInfo := .utf8 (stringToUtf16 s)
/-- a pool by its gaps: so many unusable entries, then the entry; so many at the end -/
def gap : Nat → List CpInfo → List CpInfo
  | 0, r => r
  | n + 1, r => .unusable :: gap n r
def poolList (es : List (Nat × CpInfo)) (last : Nat) : List CpInfo := es.foldr (fun e r => gap e.1 (e.2 :: r)) (gap last [])
def pool (es : List (Nat × CpInfo)) (last : Nat) : Array CpInfo := ⟨poolList es last⟩
def fileOf (pool : Array CpInfo) (this : Nat) (attrs : Array Attribute := #[]) (ms : Array MethodInfo := #[]) (fl : Nat := 33) (sup : Nat := 0) (ifs : Array Nat := #[]) (fds : Array FieldInfo := #[]) : ClassFile where
  minorVersion := 0
  majorVersion := 65
  constantPool := pool
  accessFlags := fl
  thisClass := this
  superClass := sup
  interfaces := ifs
  fields := fds
  methods := ms
  attributes := attrs
def plain (name : String) (sup : Option ClassId) : Class where
  name := name
  kind := .ordinary
  loader := none
  accessFlags := 33
  super := sup
  interfaces := #[]
  cf := none
  fields := #[]
  methods := #[]
  instanceTypes := #[]
  staticTypes := #[]
  resolved := #[]
  callSites := []
  init := .initialized
  statics := none
  mirror := none

def pool0 : Array CpInfo := pool [(5, u "<init>"), (0, u "()V"), (1, .class_ 10), (1, u "java/lang/Object")] 113

def k0c0 : Code := { maxStack := 0, maxLocals := 1, code := object_method_1_code, exceptionTable := #[], attributes := #[] }
def k0m0 : Method := { name := "<init>", desc := "()V", sig := { parameters := [], returnType := none }, accessFlags := 1, code := some k0c0 }
/-- java/lang/Object -/
def k0 : Class := { plain "java/lang/Object" none with
  accessFlags := 33
  interfaces := #[]
  cf := some (fileOf pool0 8 #[] #[{ accessFlags := 1, nameIndex := 5, descriptorIndex := 6, attributes := #[] }] 33 0 #[] #[])
  fields := #[]
  methods := #[k0m0]
  instanceTypes := #[]
  staticTypes := #[]
  resolved := Array.replicate 124 none
  statics := none }

def pool1 : Array CpInfo := pool [(2, .class_ 4), (1, u "java/lang/Object"), (0, u "<init>"), (0, u "()V"), (0, .long 18446744073709551615), (1, .class_ 10), (0, u "com/example/vestibule/vestibule/http/RequestHead"), (0, .methodref 9 12), (0, .nameAndType 5 13), (0, u "(Ljava/lang/String;Ljava/lang/String;Ljava/lang/String;Ljava/lang/String;Ljava/lang/String;Ljava/lang/String;Lcom/example/vestibule/vestibule/http/HttpFields;JZZ)V"), (0, .methodref 9 15), (0, .nameAndType 16 17), (0, u "chunked"), (0, u "()Z"), (0, .methodref 9 19), (0, .nameAndType 20 21), (0, u "contentLength"), (0, u "()J"), (0, .class_ 23), (0, u "com/example/vestibule/vestibule/http/RequestHeadChunkedPinLaw"), (2, u "law"), (0, u "(JI)Z")] 3

def k1m0 : Method := { name := "<init>", desc := "()V", sig := { parameters := [], returnType := none }, accessFlags := 1, code := none }
def k1c1 : Code := { maxStack := 13, maxLocals := 9, code := code, exceptionTable := #[], attributes := #[] }
def k1m1 : Method := { name := "law", desc := "(JI)Z", sig := { parameters := [.long, .int], returnType := some .boolean }, accessFlags := 9, code := some k1c1 }
/-- com/example/vestibule/vestibule/http/RequestHeadChunkedPinLaw -/
def k1 : Class := { plain "com/example/vestibule/vestibule/http/RequestHeadChunkedPinLaw" (some 0) with
  accessFlags := 49
  interfaces := #[]
  cf := some (fileOf pool1 22 #[] #[{ accessFlags := 1, nameIndex := 5, descriptorIndex := 6, attributes := #[] }, { accessFlags := 9, nameIndex := 26, descriptorIndex := 27, attributes := #[] }] 49 2 #[] #[])
  fields := #[]
  methods := #[k1m0, k1m1]
  instanceTypes := #[]
  staticTypes := #[]
  resolved := Array.replicate 31 none
  statics := none }

def pool2 : Array CpInfo := pool [(1, .methodref 2 3), (0, .class_ 4), (0, .nameAndType 5 6), (0, u "java/lang/Object"), (0, u "<init>"), (0, u "()V"), (0, .class_ 8), (0, u "java/lang/Record")] 13

def k2c0 : Code := { maxStack := 1, maxLocals := 1, code := jdk_30_method_1_code, exceptionTable := #[], attributes := #[] }
def k2m0 : Method := { name := "<init>", desc := "()V", sig := { parameters := [], returnType := none }, accessFlags := 4, code := some k2c0 }
/-- java/lang/Record -/
def k2 : Class := { plain "java/lang/Record" (some 0) with
  accessFlags := 1057
  interfaces := #[]
  cf := some (fileOf pool2 7 #[] #[{ accessFlags := 4, nameIndex := 5, descriptorIndex := 6, attributes := #[] }] 1057 2 #[] #[])
  fields := #[]
  methods := #[k2m0]
  instanceTypes := #[]
  staticTypes := #[]
  resolved := Array.replicate 22 none
  statics := none }

def pool3 : Array CpInfo := pool [(1, .methodref 2 3), (0, .class_ 4), (0, .nameAndType 5 6), (0, u "java/lang/Record"), (0, u "<init>"), (0, u "()V"), (0, .fieldref 8 9), (0, .class_ 10), (0, .nameAndType 11 12), (0, u "com/example/vestibule/vestibule/http/RequestHead"), (0, u "method"), (0, u "Ljava/lang/String;"), (0, .fieldref 8 14), (0, .nameAndType 15 12), (0, u "target"), (0, .fieldref 8 17), (0, .nameAndType 18 12), (0, u "path"), (0, .fieldref 8 20), (0, .nameAndType 21 12), (0, u "query"), (0, .fieldref 8 23), (0, .nameAndType 24 12), (0, u "protocol"), (0, .fieldref 8 26), (0, .nameAndType 27 12), (0, u "authority"), (0, .fieldref 8 29), (0, .nameAndType 30 31), (0, u "headers"), (0, u "Lcom/example/vestibule/vestibule/http/HttpFields;"), (0, .fieldref 8 33), (0, .nameAndType 34 35), (0, u "contentLength"), (0, u "J"), (0, .fieldref 8 37), (0, .nameAndType 38 39), (0, u "keepAlive"), (0, u "Z"), (0, .fieldref 8 41), (0, .nameAndType 42 39), (0, u "expectContinue"), (11, u "()Z"), (164, u "(Ljava/lang/String;Ljava/lang/String;Ljava/lang/String;Ljava/lang/String;Ljava/lang/String;Ljava/lang/String;Lcom/example/vestibule/vestibule/http/HttpFields;JZZ)V"), (0, .long 18446744073709551615), (32, u "chunked"), (69, u "REQUEST_LINE_LIMIT"), (0, u "I"), (2, u "HEADER_SECTION_LIMIT"), (0, u "HTTP_1_1"), (0, u "HTTP_1_0"), (14, u "()J")] 56

def k3c0 : Code := { maxStack := 3, maxLocals := 12, code := prog_25_method_1_code, exceptionTable := #[], attributes := #[] }
def k3m0 : Method := { name := "<init>", desc := "(Ljava/lang/String;Ljava/lang/String;Ljava/lang/String;Ljava/lang/String;Ljava/lang/String;Ljava/lang/String;Lcom/example/vestibule/vestibule/http/HttpFields;JZZ)V", sig := { parameters := [(.object "java/lang/String"), (.object "java/lang/String"), (.object "java/lang/String"), (.object "java/lang/String"), (.object "java/lang/String"), (.object "java/lang/String"), (.object "com/example/vestibule/vestibule/http/HttpFields"), .long, .boolean, .boolean], returnType := none }, accessFlags := 0, code := some k3c0 }
def k3c1 : Code := { maxStack := 4, maxLocals := 1, code := prog_25_method_3_code, exceptionTable := #[], attributes := #[] }
def k3m1 : Method := { name := "chunked", desc := "()Z", sig := { parameters := [], returnType := some .boolean }, accessFlags := 0, code := some k3c1 }
def k3c2 : Code := { maxStack := 2, maxLocals := 1, code := prog_25_method_20_code, exceptionTable := #[], attributes := #[] }
def k3m2 : Method := { name := "contentLength", desc := "()J", sig := { parameters := [], returnType := some .long }, accessFlags := 1, code := some k3c2 }
/-- com/example/vestibule/vestibule/http/RequestHead -/
def k3 : Class := { plain "com/example/vestibule/vestibule/http/RequestHead" (some 2) with
  accessFlags := 48
  interfaces := #[]
  cf := some (fileOf pool3 8 #[] #[{ accessFlags := 0, nameIndex := 5, descriptorIndex := 219, attributes := #[] }, { accessFlags := 0, nameIndex := 253, descriptorIndex := 54, attributes := #[] }, { accessFlags := 1, nameIndex := 34, descriptorIndex := 344, attributes := #[] }] 48 2 #[] #[{ accessFlags := 18, nameIndex := 11, descriptorIndex := 12, attributes := #[] }, { accessFlags := 18, nameIndex := 15, descriptorIndex := 12, attributes := #[] }, { accessFlags := 18, nameIndex := 18, descriptorIndex := 12, attributes := #[] }, { accessFlags := 18, nameIndex := 21, descriptorIndex := 12, attributes := #[] }, { accessFlags := 18, nameIndex := 24, descriptorIndex := 12, attributes := #[] }, { accessFlags := 18, nameIndex := 27, descriptorIndex := 12, attributes := #[] }, { accessFlags := 18, nameIndex := 30, descriptorIndex := 31, attributes := #[] }, { accessFlags := 18, nameIndex := 34, descriptorIndex := 35, attributes := #[] }, { accessFlags := 18, nameIndex := 38, descriptorIndex := 39, attributes := #[] }, { accessFlags := 18, nameIndex := 42, descriptorIndex := 39, attributes := #[] }, { accessFlags := 24, nameIndex := 323, descriptorIndex := 324, attributes := #[] }, { accessFlags := 24, nameIndex := 327, descriptorIndex := 324, attributes := #[] }, { accessFlags := 26, nameIndex := 328, descriptorIndex := 12, attributes := #[] }, { accessFlags := 26, nameIndex := 329, descriptorIndex := 12, attributes := #[] }])
  fields := #[{ name := "method", type := (.object "java/lang/String"), accessFlags := 18, slot := 0, constantValue := 0 }, { name := "target", type := (.object "java/lang/String"), accessFlags := 18, slot := 1, constantValue := 0 }, { name := "path", type := (.object "java/lang/String"), accessFlags := 18, slot := 2, constantValue := 0 }, { name := "query", type := (.object "java/lang/String"), accessFlags := 18, slot := 3, constantValue := 0 }, { name := "protocol", type := (.object "java/lang/String"), accessFlags := 18, slot := 4, constantValue := 0 }, { name := "authority", type := (.object "java/lang/String"), accessFlags := 18, slot := 5, constantValue := 0 }, { name := "headers", type := (.object "com/example/vestibule/vestibule/http/HttpFields"), accessFlags := 18, slot := 6, constantValue := 0 }, { name := "contentLength", type := .long, accessFlags := 18, slot := 7, constantValue := 0 }, { name := "keepAlive", type := .boolean, accessFlags := 18, slot := 8, constantValue := 0 }, { name := "expectContinue", type := .boolean, accessFlags := 18, slot := 9, constantValue := 0 }, { name := "REQUEST_LINE_LIMIT", type := .int, accessFlags := 24, slot := 0, constantValue := 0 }, { name := "HEADER_SECTION_LIMIT", type := .int, accessFlags := 24, slot := 1, constantValue := 0 }, { name := "HTTP_1_1", type := (.object "java/lang/String"), accessFlags := 26, slot := 2, constantValue := 0 }, { name := "HTTP_1_0", type := (.object "java/lang/String"), accessFlags := 26, slot := 3, constantValue := 0 }]
  methods := #[k3m0, k3m1, k3m2]
  instanceTypes := #[(.object "java/lang/String"), (.object "java/lang/String"), (.object "java/lang/String"), (.object "java/lang/String"), (.object "java/lang/String"), (.object "java/lang/String"), (.object "com/example/vestibule/vestibule/http/HttpFields"), .long, .boolean, .boolean]
  staticTypes := #[.int, .int, (.object "java/lang/String"), (.object "java/lang/String")]
  resolved := Array.replicate 401 none
  statics := none }

def pool4 : Array CpInfo := pool [(1, u "java/lang/Cloneable"), (0, .class_ 1), (0, u "java/lang/Object"), (0, .class_ 3)] 3

/-- java/lang/Cloneable -/
def k4 : Class := { plain "java/lang/Cloneable" (some 0) with
  accessFlags := 1537
  interfaces := #[]
  cf := some (fileOf pool4 2 #[] #[] 1537 4 #[] #[])
  fields := #[]
  methods := #[]
  instanceTypes := #[]
  staticTypes := #[]
  resolved := Array.replicate 8 none
  statics := none }

def pool5 : Array CpInfo := pool [(1, u "java/io/Serializable"), (0, .class_ 1), (0, u "java/lang/Object"), (0, .class_ 3)] 3

/-- java/io/Serializable -/
def k5 : Class := { plain "java/io/Serializable" (some 0) with
  accessFlags := 1537
  interfaces := #[]
  cf := some (fileOf pool5 2 #[] #[] 1537 4 #[] #[])
  fields := #[]
  methods := #[]
  instanceTypes := #[]
  staticTypes := #[]
  resolved := Array.replicate 8 none
  statics := none }

/-- the primitive byte -/
def k6 : Class := { plain "byte" none with kind := .primitive 'B', accessFlags := 0x411 }
/-- [B -/
def k7 : Class := { plain "[B" (some 0) with kind := .array 6 .byte, interfaces := #[4, 5], accessFlags := 1041 }

/-- the primitive int -/
def k8 : Class := { plain "int" none with kind := .primitive 'I', accessFlags := 0x411 }
/-- [I -/
def k9 : Class := { plain "[I" (some 0) with kind := .array 8 .int, interfaces := #[4, 5], accessFlags := 1041 }

def heap : Heap := #[]
def classes : Array Class := #[k0, k1, k2, k3, k4, k5, k6, k7, k8, k9]
def interned : List (Array UInt16 × Addr) := []
def slotsUsed : Nat := 0
def theMethod : MethodId := ⟨1, 1⟩
def args0 : Array Value := #[.long 100000, .int 3]
def aboutOver (below : List Frame) : State where
  vm := { classes := classes, interned := interned.toArray }
  heap := heap
  slotsUsed := slotsUsed
  threads := #[{ frames := .invoking theMethod args0 :: below }]
def below0 : List Frame := [.native { method := ⟨0, 0⟩, args := #[] }]
def about1 : State := aboutOver below0
def p0 : Program := .bare "" "" ""
def e0 : Env := launch0.env 0 0 0
theorem w_frames : about1.frames = Frame.invoking theMethod args0 :: below0 := rfl
set_option maxRecDepth 65536 in
theorem w_args : argsFit about1.vm theMethod args0 = true := by decide +kernel
set_option maxRecDepth 65536 in
theorem w_heap : heapFits about1 = true := by decide +kernel
set_option maxRecDepth 65536 in
theorem w_runnable : about1.curStatus? = some .runnable := by decide +kernel
set_option maxRecDepth 65536 in
theorem w_alone : about1.alone = true := by decide +kernel
set_option maxRecDepth 65536 in
theorem w_named : about1.methodNamed? x = some theMethod := by decide +kernel
set_option maxRecDepth 65536 in
theorem w_hears : about1.hears theMethod below0 = true := by decide +kernel
set_option maxRecDepth 65536 in
theorem w_ripe : about1.ripe theMethod args0 below0 = true := by decide +kernel
theorem w_running : about1.status = .running := rfl
set_option maxRecDepth 65536 in
theorem w_room : about1.hasRoom e0.platform room_1 = true :=
  launch0.hasRoom_least _ room_1 (by decide +kernel) (by decide +kernel) (by decide +kernel) (by decide +kernel) (by decide +kernel) (by decide +kernel)
theorem allAtoms_all (ts : List Jvm.Cond) (a : Array Jvm.Value) (st : Jvm.State) : (allAtoms ts).before a st = ts.all (fun c => c.before a st) := by
  induction ts with
  | nil => rfl
  | cons c t ih =>
    show (Jvm.Cond.and c (allAtoms t)).before a st = _
    rw [Jvm.Cond.before_and, ih, List.all_cons]
def words1 : List Jvm.Cond := Jvm.Cond.code x code maxLocals ret :: tables_1
/-- a 'code' word, met by the world's own term for the bytes: nothing is compared byte by byte -/
theorem code_word {y : MethodName} {bytes : ByteArray} {mx : Nat} {rt : Option FieldType} {a : Array Value} {s : State} {m : MethodId} {meth : Method} {c : Code} (h1 : s.methodNamed? y = some m) (h2 : s.vm.method? m = some meth) (h3 : meth.code = some c) (h4 : c.code = bytes)
    (h5 : (c.maxLocals == mx && c.exceptionTable.isEmpty && decide (c.maxStack ≤ mostOperands) && decide (meth.sig.returnType = rt) && !meth.locks && decide (parseMethodDescriptor y.desc = some meth.sig)) = true) : (Jvm.Cond.code y bytes mx rt).before a s = true := by
  simp only [Bool.and_eq_true, beq_iff_eq, Bool.not_eq_true', decide_eq_true_eq] at h5
  obtain ⟨⟨⟨⟨⟨g1, g2⟩, g3⟩, g4⟩, g5⟩, g6⟩ := h5
  simp [Cond.before, Cond.holds, Cond.value, h1, h2, h3, h4, g1, g2, g3, g4, g5, g6]
def isCode : Jvm.Cond → Bool
  | .code _ _ _ _ => true
  | _ => false
theorem all_split {L : List Jvm.Cond} {P : Jvm.Cond → Bool} (h1 : L.all (fun c => isCode c || P c) = true) (h2 : ∀ c ∈ L.filter isCode, P c = true) : L.all P = true := by
  refine List.all_eq_true.mpr fun c hc => ?_
  have h := List.all_eq_true.mp h1 c hc
  rcases Bool.eq_false_or_eq_true (isCode c) with hi | hi
  · exact h2 c (List.mem_filter.mpr ⟨hc, hi⟩)
  · simpa [hi] using h
set_option maxRecDepth 65536 in
theorem w_c0 : (Jvm.Cond.code x code maxLocals ret).before args0 about1 = true := code_word (m := ⟨1, 1⟩) (meth := k1m1) (c := k1c1) (by decide +kernel) rfl rfl rfl (by decide +kernel)
set_option maxRecDepth 65536 in
theorem w_c1 : (Jvm.Cond.code ({ cls := "com/example/vestibule/vestibule/http/RequestHead", name := "<init>", desc := "(Ljava/lang/String;Ljava/lang/String;Ljava/lang/String;Ljava/lang/String;Ljava/lang/String;Ljava/lang/String;Lcom/example/vestibule/vestibule/http/HttpFields;JZZ)V" } : Jvm.MethodName) prog_25_method_1_code (12 : Nat) (Option.none : Option Jvm.ClassFile.FieldType)).before args0 about1 = true := code_word (m := ⟨3, 0⟩) (meth := k3m0) (c := k3c0) (by decide +kernel) rfl rfl rfl (by decide +kernel)
set_option maxRecDepth 65536 in
theorem w_c2 : (Jvm.Cond.code ({ cls := "java/lang/Record", name := "<init>", desc := "()V" } : Jvm.MethodName) jdk_30_method_1_code (1 : Nat) (Option.none : Option Jvm.ClassFile.FieldType)).before args0 about1 = true := code_word (m := ⟨2, 0⟩) (meth := k2m0) (c := k2c0) (by decide +kernel) rfl rfl rfl (by decide +kernel)
set_option maxRecDepth 65536 in
theorem w_c3 : (Jvm.Cond.code ({ cls := "java/lang/Object", name := "<init>", desc := "()V" } : Jvm.MethodName) object_method_1_code (1 : Nat) (Option.none : Option Jvm.ClassFile.FieldType)).before args0 about1 = true := code_word (m := ⟨0, 0⟩) (meth := k0m0) (c := k0c0) (by decide +kernel) rfl rfl rfl (by decide +kernel)
set_option maxRecDepth 65536 in
theorem w_c4 : (Jvm.Cond.code ({ cls := "com/example/vestibule/vestibule/http/RequestHead", name := "chunked", desc := "()Z" } : Jvm.MethodName) prog_25_method_3_code (1 : Nat) (Option.some Jvm.ClassFile.FieldType.boolean)).before args0 about1 = true := code_word (m := ⟨3, 1⟩) (meth := k3m1) (c := k3c1) (by decide +kernel) rfl rfl rfl (by decide +kernel)
set_option maxRecDepth 65536 in
theorem w_c5 : (Jvm.Cond.code ({ cls := "com/example/vestibule/vestibule/http/RequestHead", name := "contentLength", desc := "()J" } : Jvm.MethodName) prog_25_method_20_code (1 : Nat) (Option.some Jvm.ClassFile.FieldType.long)).before args0 about1 = true := code_word (m := ⟨3, 2⟩) (meth := k3m2) (c := k3c2) (by decide +kernel) rfl rfl rfl (by decide +kernel)
def codes1 : List Jvm.Cond := [Jvm.Cond.code x code maxLocals ret, Jvm.Cond.code ({ cls := "com/example/vestibule/vestibule/http/RequestHead", name := "<init>", desc := "(Ljava/lang/String;Ljava/lang/String;Ljava/lang/String;Ljava/lang/String;Ljava/lang/String;Ljava/lang/String;Lcom/example/vestibule/vestibule/http/HttpFields;JZZ)V" } : Jvm.MethodName) prog_25_method_1_code (12 : Nat) (Option.none : Option Jvm.ClassFile.FieldType), Jvm.Cond.code ({ cls := "java/lang/Record", name := "<init>", desc := "()V" } : Jvm.MethodName) jdk_30_method_1_code (1 : Nat) (Option.none : Option Jvm.ClassFile.FieldType), Jvm.Cond.code ({ cls := "java/lang/Object", name := "<init>", desc := "()V" } : Jvm.MethodName) object_method_1_code (1 : Nat) (Option.none : Option Jvm.ClassFile.FieldType), Jvm.Cond.code ({ cls := "com/example/vestibule/vestibule/http/RequestHead", name := "chunked", desc := "()Z" } : Jvm.MethodName) prog_25_method_3_code (1 : Nat) (Option.some Jvm.ClassFile.FieldType.boolean), Jvm.Cond.code ({ cls := "com/example/vestibule/vestibule/http/RequestHead", name := "contentLength", desc := "()J" } : Jvm.MethodName) prog_25_method_20_code (1 : Nat) (Option.some Jvm.ClassFile.FieldType.long)]
set_option maxRecDepth 65536 in
theorem codes_eq : words1.filter isCode = codes1 := rfl
theorem w_codes : ∀ c ∈ words1.filter isCode, c.before args0 about1 = true := by
  rw [codes_eq]
  intro c hc
  simp only [codes1, List.mem_cons, List.not_mem_nil, or_false] at hc
  rcases hc with rfl | rfl | rfl | rfl | rfl | rfl
  · exact w_c0
  · exact w_c1
  · exact w_c2
  · exact w_c3
  · exact w_c4
  · exact w_c5
set_option maxRecDepth 65536 in
theorem w_t1 : (words1.take 24).all (fun c => isCode c || c.before args0 about1) = true := by decide +kernel
set_option maxRecDepth 65536 in
theorem w_t2 : (words1.drop 24).all (fun c => isCode c || c.before args0 about1) = true := by decide +kernel
theorem w_tables : (allAtoms (Jvm.Cond.code x code maxLocals ret :: tables_1)).before args0 about1 = true := by
  rw [allAtoms_all]
  show words1.all (fun c => c.before args0 about1) = true
  refine all_split ?_ w_codes
  rw [← List.take_append_drop 24 words1, List.all_append, w_t1, w_t2]
  rfl
set_option maxRecDepth 65536 in
theorem w_case : (Jvm.Cond.and given_1 narrow_1).before args0 about1 = true := by decide +kernel
theorem w_applies : (headSpec (Jvm.Cond.code x code maxLocals ret :: tables_1) room_1).applies x e0.platform about1 = true :=
  (Spec.applies_iff w_frames).mpr ⟨w_running, w_runnable, w_alone, w_named, w_hears, w_ripe, w_room, w_tables⟩
theorem atStart : AtStart classFile x code maxLocals ret World_1 tables_1 room_1 Calls_1 rest_1 Pre_1 launch0 p0 e0 about1 theMethod args0 below0 :=
  ⟨lists_1, trivial, launch0.admits_env _ _ _, launch0.least_env, fairChoices_fair.cas, fairChoices_fair.clock, w_frames, w_args, w_heap, w_applies, trivial, trivial, w_case⟩
end start1
theorem witness_1 : WitnessClaimed_1 := ⟨start1.p0, start1.e0, start1.about1, start1.theMethod, start1.args0, start1.below0, start1.atStart⟩
end Jvm.Pilot.@@N@@
