import JvmDerived
import JvmDerived.Pilot.@@N@@Statement
import JvmDerived.Pilot.@@N@@Code
set_option linter.unusedVariables false
set_option linter.unusedSimpArgs false
@@BLOCK:NumsL.lean.txt@@
namespace Jvm.Pilot.@@N@@
open Jvm Jvm.ClassFile Sem Op Lib Jvm.Free Jvm.Stand Jvm.LawKit Jvm.RoadKit Bundle Jvm.Pilot.@@N@@.Jvm.D
/-- the run from U comes to an end of which P holds -/
def own_Go (tb : Tables) (e : Env) (below : List Frame) (P : Outcome → State → Prop) (U : State) : Prop :=
  ∃ s₂ o, Steps tb e below U s₂ ∧ s₂.status = .running ∧ Ended s₂ below o ∧ P o s₂
theorem own_go {tb : Tables} {e : Env} {below : List Frame} {P : Outcome → State → Prop} {U U' : State} (k : ∀ t, Steps tb e below U' t → Steps tb e below U t) (h : own_Go tb e below P U') : own_Go tb e below P U := by
  obtain ⟨t, o, h1, h2⟩ := h
  exact ⟨t, o, k t h1, h2⟩
section Own
variable {p : Program} {l : Launch} {e : Env} {R : Room} {s : State} {m : MethodId} {args : Array Value} {below : List Frame} {meth : Method} {c : Code} {T : State} {locs : List Loc} {cells slots : Nat}
theorem own_retI (X : Stand p l e R s m args below meth c T locs cells slots) (hx : p.tables.exec = Jvm.exec) {pc : Nat} {Ls : Array Slot} {z : Int32} {rest : List Value} (hret : meth.sig.returnType = some .int) (hd : decode c.code pc = .ok (.ireturn, 1)) {fs : List Frame}
    (hl : ∀ (f : JFrame) (acts : List Action), f.method = m → f.locked = none → f.entered = [] → (doReturn e (T.setTop f) acts (some (.int z))).1 = T.setFrames fs) : Steps p.tables e below (T.setTop (mkF m pc Ls (.int z :: rest))) (T.setFrames fs) := by
  have hm' : T.vm.method? m = some meth := X.method'
  have hn : narrow .int (.int z) = .int z := rfl
  show Steps p.tables e below (T.setTop { method := m, pc := pc, locals := Ls, stack := _ :: rest, locked := none }) _
  jvm_step X.here [X.here.top, hx, hd, hm', hret, hn]
  first | (intro acts; rw [hl _ acts rfl rfl rfl]) | rw [hl _ _ rfl rfl rfl]
  exact Steps.refl _
theorem own_retJ (X : Stand p l e R s m args below meth c T locs cells slots) (hx : p.tables.exec = Jvm.exec) {pc : Nat} {Ls : Array Slot} {z : Int64} {rest : List Value} (hret : meth.sig.returnType = some .long) (hd : decode c.code pc = .ok (.lreturn, 1)) {fs : List Frame}
    (hl : ∀ (f : JFrame) (acts : List Action), f.method = m → f.locked = none → f.entered = [] → (doReturn e (T.setTop f) acts (some (.long z))).1 = T.setFrames fs) : Steps p.tables e below (T.setTop (mkF m pc Ls (.long z :: rest))) (T.setFrames fs) := by
  have hm' : T.vm.method? m = some meth := X.method'
  show Steps p.tables e below (T.setTop { method := m, pc := pc, locals := Ls, stack := _ :: rest, locked := none }) _
  jvm_step X.here [X.here.top, hx, hd, hm', hret, narrow]
  first | (intro acts; rw [hl _ acts rfl rfl rfl]) | rw [hl _ _ rfl rfl rfl]
  exact Steps.refl _
theorem own_mapI (xs : List Int32) (i : Nat) : (xs.map Value.int).getD i (.int 0) = .int (xs.getD i 0) := by
  simp only [List.getD_eq_getElem?_getD, List.getElem?_map]; cases xs[i]? <;> rfl
theorem own_mapJ (xs : List Int64) (i : Nat) : (xs.map Value.long).getD i (.long 0) = .long (xs.getD i 0) := by
  simp only [List.getD_eq_getElem?_getD, List.getElem?_map]; cases xs[i]? <;> rfl
theorem own_kx {h h' : Heap} (K : Keep h h' []) : Ext h h' := ⟨K.1, fun a c q => K.2.1 a c q (by simp)⟩
theorem own_retA (X : Stand p l e R s m args below meth c T locs cells slots) (hx : p.tables.exec = Jvm.exec) {pc : Nat} {Ls : Array Slot} {z : Addr} {rest : List Value} {C : String} (hret : meth.sig.returnType = some (.object C)) (hd : decode c.code pc = .ok (.areturn, 1)) {fs : List Frame}
    (hl : ∀ (f : JFrame) (acts : List Action), f.method = m → f.locked = none → f.entered = [] → (doReturn e (T.setTop f) acts (some (.ref z))).1 = T.setFrames fs) : Steps p.tables e below (T.setTop (mkF m pc Ls (.ref z :: rest))) (T.setFrames fs) := by
  have hm' : T.vm.method? m = some meth := X.method'
  show Steps p.tables e below (T.setTop { method := m, pc := pc, locals := Ls, stack := _ :: rest, locked := none }) _
  jvm_step X.here [X.here.top, hx, hd, hm', hret, Value.isRef, FieldType.isReference]
  first | (intro acts; rw [hl _ acts rfl rfl rfl]) | rw [hl _ _ rfl rfl rfl]
  exact Steps.refl _
theorem own_endH {Q : Option Value → Heap → List Loc → Prop} {kc ks n : Nat} {vm₁ : Vm} {Z : State} {EL : List (String × Nat)} (X : Stand p l e R (s.setVm vm₁) m args below meth c T locs cells slots) (hC : CHr Z EL s.vm s.heap T.vm T.heap) (hS : s.Since vm₁ n) (hn : n ≤ T.heap.size) (hlocks : meth.locks = false) {g : JFrame} {v : Option Value}
    (hv : meth.sig.returnType = none → v = none)
    (hs : ∀ fs, (∀ (f : JFrame) (acts : List Action), f.method = m → f.locked = none → f.entered = [] → (doReturn e (T.setTop f) acts v).1 = T.setFrames fs) → Steps p.tables e below (T.setTop g) (T.setFrames fs))
    (hQ : Q v T.heap locs) (h1 : cells ≤ kc) (h2 : slots ≤ ks) :
    own_Go p.tables e below (fun o U' => ∃ v L, o = .returned v ∧ Q v U'.heap L ∧ CHr Z EL s.vm s.heap U'.vm U'.heap ∧ ReturnedEndW s o U' L kc ks) (T.setTop g) := by
  obtain ⟨fs, hr, hrun, hended, h3, h4, h5, h6⟩ := X.leaveW hS hn (v := v) hv hlocks
  exact ⟨_, _, hs fs hr, hrun, hended, _, _, rfl, hQ, hC, h3, h4, h5, h6.mono h1 h2⟩
theorem own_endW {Q : Option Value → Heap → List Loc → Prop} {kc ks n : Nat} {vm₁ : Vm} (X : Stand p l e R (s.setVm vm₁) m args below meth c T locs cells slots) (hS : s.Since vm₁ n) (hn : n ≤ T.heap.size) (hlocks : meth.locks = false) {g : JFrame} {v : Option Value}
    (hv : meth.sig.returnType = none → v = none)
    (hs : ∀ fs, (∀ (f : JFrame) (acts : List Action), f.method = m → f.locked = none → f.entered = [] → (doReturn e (T.setTop f) acts v).1 = T.setFrames fs) → Steps p.tables e below (T.setTop g) (T.setFrames fs))
    (hQ : Q v T.heap locs) (h1 : cells ≤ kc) (h2 : slots ≤ ks) :
    own_Go p.tables e below (fun o U' => ∃ v L, o = .returned v ∧ Q v U'.heap L ∧ ReturnedEndW s o U' L kc ks) (T.setTop g) := by
  obtain ⟨fs, hr, hrun, hended, h3, h4, h5, h6⟩ := X.leaveW hS hn (v := v) hv hlocks
  exact ⟨_, _, hs fs hr, hrun, hended, _, _, rfl, hQ, h3, h4, h5, h6.mono h1 h2⟩
theorem own_end {Q : Option Value → Heap → List Loc → Prop} {kc ks : Nat} (X : Stand p l e R s m args below meth c T locs cells slots) (hlocks : meth.locks = false) {g : JFrame} {v : Option Value}
    (hv : meth.sig.returnType = none → v = none)
    (hs : ∀ fs, (∀ (f : JFrame) (acts : List Action), f.method = m → f.locked = none → f.entered = [] → (doReturn e (T.setTop f) acts v).1 = T.setFrames fs) → Steps p.tables e below (T.setTop g) (T.setFrames fs))
    (hQ : Q v T.heap locs) (h1 : cells ≤ kc) (h2 : slots ≤ ks) :
    own_Go p.tables e below (fun o U' => ∃ v L, o = .returned v ∧ Q v U'.heap L ∧ FrameEnd s o U' L kc ks) (T.setTop g) := by
  obtain ⟨fs, hr, hrun, hended, hW, hsame⟩ := X.leave (v := v) hv hlocks
  exact ⟨_, _, hs fs hr, hrun, hended, _, _, rfl, hQ, ⟨_, rfl⟩, hW, hsame.mono h1 h2⟩
end Own
theorem own_wS {Z : State} {a0 : Array Value} (hw : ∀ d ∈ tables_1, d.before a0 Z = true) : ∀ a ∈ Bundle.stringAtoms, a.before a0 Z = true := fun c hc =>
  hw c (by simpa using (List.all_eq_true.mp (by decide +kernel : (Bundle.stringAtoms.all fun c => tables_1.contains c) = true)) c hc)

theorem d1_0 : decode jdk_30_method_1_code 0 = .ok (.aload_n 0, 1) := by decide +kernel
theorem d1_1 : decode jdk_30_method_1_code 1 = .ok (.invokespecial 1, 3) := by decide +kernel
theorem d1_4 : decode jdk_30_method_1_code 4 = .ok (.return_, 1) := by decide +kernel
theorem pn1 : plainName "java/lang/Record" = true := by first | (simp [plainName, overriddenIn]; done) | decide +kernel
theorem ef1 (m : MethodId) (a0 : Addr) : entryFrame m #[(.ref a0)] 1 = mkF m 0 #[.val (.ref a0)] [] := by first | (simp [entryFrame, mkF, argsToLocals, Value.category]; done) | rfl
def own_Q1 (Z : State) (a0 : Addr) (h0 : Heap) (n0 : Nat) (v : Option Value) (h : Heap) (L : List Loc) : Prop := v = none ∧ Fr n0 L ∧ h = h0
set_option maxRecDepth 65536 in
set_option maxHeartbeats 40000000 in
theorem rm1 (l : Launch) (Z : State) (az : Array Value) (hw : ∀ d ∈ tables_1, d.before az Z = true) (ws : List Jvm.Cond) (a0 : Addr) (h0 : Heap) (n0 : Nat) (Z0 : n0 ≤ h0.size) :
    MetFree l (⟨"java/lang/Record", "<init>", "()V"⟩ : MethodName) (head1 (Jvm.Cond.code (⟨"java/lang/Record", "<init>", "()V"⟩ : MethodName) jdk_30_method_1_code 1 none :: ws) ({ frames := 1, cells := 0, slots := 0, locals := 12 } : Room)) (fun a U => a = #[(.ref a0)] ∧ Z.Warmed39 U.vm ∧ U.heap = h0) (fun _ _ _ _ _ => True) (fun _ U o U' => ∃ v L, o = .returned v ∧ own_Q1 Z a0 h0 n0 v U'.heap L ∧ FrameEnd U o U' L ({ frames := 1, cells := 0, slots := 0, locals := 12 } : Room).cells ({ frames := 1, cells := 0, slots := 0, locals := 12 } : Room).slots) := by
  refine MetFree.of_bodySF (plainFor_of_name pn1) hisR ?_
  intro p e s m args below meth c s₁ Bd hml0 hP hK
  obtain ⟨rfl, hZ, hh⟩ := hP
  have hx := Bd.exec
  have hby := Bd.bytes
  have hml : c.maxLocals = 1 := hml0
  have hown : s.vm.findClass "java/lang/Record" = some m.cls := findClass_of_methodNamed Bd.named
  have hnm := (name_of_methodNamed Bd.named Bd.method).1
  have X0 : Stand p l e ({ frames := 1, cells := 0, slots := 0, locals := 12 } : Room) s m #[(.ref a0)] below meth c s₁ [] 0 0 := Stand.of_body Bd
  have e0 : s₁.heap = h0 := by rw [← hh, Bd.state]; rfl
  have N0 := Fr.nil n0
  show own_Go p.tables e below (fun o U' => ∃ v L, o = .returned v ∧ own_Q1 Z a0 h0 n0 v U'.heap L ∧ FrameEnd s o U' L ({ frames := 1, cells := 0, slots := 0, locals := 12 } : Room).cells ({ frames := 1, cells := 0, slots := 0, locals := 12 } : Room).slots) (s₁.setTop (entryFrame m #[(.ref a0)] 1))
  refine own_go (fun _ k => castTop (ef1 m a0) k) ?_
  show own_Go p.tables e below _ (s₁.setTop (mkF m 0 #[.val (.ref a0)] []))
  refine own_go (fun _ k => XS.aloadN X0.here hx rfl (hb hby d1_0) rfl rfl k) ?_
  show own_Go p.tables e below _ (s₁.setTop (mkF m 1 #[.val (.ref a0)] [(.ref a0)]))
  obtain ⟨T1, X1, e1, st1⟩ := initO X0 hx hZ hown (hw _ (List.mem_of_getElem? (i := 12) rfl)) (hw _ (List.mem_of_getElem? (i := 13) rfl)) (hw _ (List.mem_of_getElem? (i := 14) rfl)) e0 (g := (mkF m 1 #[.val (.ref a0)] [(.ref a0)])) rfl (by rw [hml]; rfl) rfl (hb hby d1_1) (by decide) (W := 0) (by show 2 * 0 + _ ≤ _; exact Nat.le_of_eq rfl) (by decide)
  refine own_go st1 ?_
  show own_Go p.tables e below _ (T1.setTop (mkF m 4 #[.val (.ref a0)] []))
  refine own_end X1 Bd.notSynchronized (v := none) (fun _ => rfl) (fun fs hr => X1.returnOut hx Bd.returns (hb hby d1_4) hr) ?_ (by decide) (by decide)
  exact ⟨rfl, N0, e1⟩
def own_f2 (p0 : Int32) : Int32 :=
  p0
theorem d2_0 : decode prog_110_method_3_code 0 = .ok (.iload_n 0, 1) := by decide +kernel
theorem d2_1 : decode prog_110_method_3_code 1 = .ok (.ifCond .lt 9, 3) := by decide +kernel
theorem d2_4 : decode prog_110_method_3_code 4 = .ok (.iload_n 0, 1) := by decide +kernel
theorem d2_5 : decode prog_110_method_3_code 5 = .ok (.ldc 18, 2) := by decide +kernel
theorem d2_7 : decode prog_110_method_3_code 7 = .ok (.if_icmp .le 18, 3) := by decide +kernel
theorem d2_25 : decode prog_110_method_3_code 25 = .ok (.iload_n 0, 1) := by decide +kernel
theorem d2_26 : decode prog_110_method_3_code 26 = .ok (.ireturn, 1) := by decide +kernel
theorem pn2 : plainName "com/example/dialplane/dialplane/model/Unsigned" = true := by first | (simp [plainName, overriddenIn]; done) | decide +kernel
theorem ef2 (m : MethodId) (p0 : Int32) (a1 : Addr) : entryFrame m #[(.int p0), (.ref a1)] 2 = mkF m 0 #[.val (.int p0), .val (.ref a1)] [] := by first | (simp [entryFrame, mkF, argsToLocals, Value.category]; done) | rfl
def own_Q2 (Z : State) (p0 : Int32) (a1 : Addr) (h0 : Heap) (n0 : Nat) (v : Option Value) (h : Heap) (L : List Loc) : Prop := v = some (.int (own_f2 p0)) ∧ Fr n0 L ∧ h = h0
set_option maxRecDepth 65536 in
set_option maxHeartbeats 40000000 in
theorem rm2 (l : Launch) (Z : State) (az : Array Value) (hw : ∀ d ∈ tables_1, d.before az Z = true) (ws : List Jvm.Cond) (p0 : Int32) (a1 : Addr) (h0 : Heap) (n0 : Nat) (Z0 : n0 ≤ h0.size) (hf1 : ¬ (p0 < (0 : Int32))) (hf7 : ¬ ((65535 : Int32) < p0)) :
    MetFree l (⟨"com/example/dialplane/dialplane/model/Unsigned", "u16", "(ILjava/lang/String;)I"⟩ : MethodName) (head1 (Jvm.Cond.code (⟨"com/example/dialplane/dialplane/model/Unsigned", "u16", "(ILjava/lang/String;)I"⟩ : MethodName) prog_110_method_3_code 2 (some .int) :: ws) ({ frames := 0, cells := 0, slots := 0, locals := 0 } : Room)) (fun a U => a = #[(.int p0), (.ref a1)] ∧ Z.Warmed39 U.vm ∧ U.heap = h0) (fun _ _ _ _ _ => True) (fun _ U o U' => ∃ v L, o = .returned v ∧ own_Q2 Z p0 a1 h0 n0 v U'.heap L ∧ FrameEnd U o U' L ({ frames := 0, cells := 0, slots := 0, locals := 0 } : Room).cells ({ frames := 0, cells := 0, slots := 0, locals := 0 } : Room).slots) := by
  refine MetFree.of_bodySF (plainFor_of_name pn2) hisR ?_
  intro p e s m args below meth c s₁ Bd hml0 hP hK
  obtain ⟨rfl, hZ, hh⟩ := hP
  have hx := Bd.exec
  have hby := Bd.bytes
  have hml : c.maxLocals = 2 := hml0
  have hown : s.vm.findClass "com/example/dialplane/dialplane/model/Unsigned" = some m.cls := findClass_of_methodNamed Bd.named
  have hnm := (name_of_methodNamed Bd.named Bd.method).1
  have X0 : Stand p l e ({ frames := 0, cells := 0, slots := 0, locals := 0 } : Room) s m #[(.int p0), (.ref a1)] below meth c s₁ [] 0 0 := Stand.of_body Bd
  have e0 : s₁.heap = h0 := by rw [← hh, Bd.state]; rfl
  have N0 := Fr.nil n0
  show own_Go p.tables e below (fun o U' => ∃ v L, o = .returned v ∧ own_Q2 Z p0 a1 h0 n0 v U'.heap L ∧ FrameEnd s o U' L ({ frames := 0, cells := 0, slots := 0, locals := 0 } : Room).cells ({ frames := 0, cells := 0, slots := 0, locals := 0 } : Room).slots) (s₁.setTop (entryFrame m #[(.int p0), (.ref a1)] 2))
  refine own_go (fun _ k => castTop (ef2 m p0 a1) k) ?_
  show own_Go p.tables e below _ (s₁.setTop (mkF m 0 #[.val (.int p0), .val (.ref a1)] []))
  refine own_go (fun _ k => XS.iloadN X0.here hx rfl (hb hby d2_0) rfl k) ?_
  show own_Go p.tables e below _ (s₁.setTop (mkF m 1 #[.val (.int p0), .val (.ref a1)] [(.int p0)]))
  refine own_go (fun _ k => XS.ifNo X0.here hx rfl (hb hby d2_1) rfl ((if0 _ _).trans (flt hf1).1) k) ?_
  show own_Go p.tables e below _ (s₁.setTop (mkF m 4 #[.val (.int p0), .val (.ref a1)] []))
  refine own_go (fun _ k => XS.iloadN X0.here hx rfl (hb hby d2_4) rfl k) ?_
  show own_Go p.tables e below _ (s₁.setTop (mkF m 5 #[.val (.int p0), .val (.ref a1)] [(.int p0)]))
  refine own_go (fun _ k => X0.ldcInt hx hown (mvT hZ (hw _ (List.mem_of_getElem? (i := 27) rfl))) (g := (mkF m 5 #[.val (.int p0), .val (.ref a1)] [(.int p0)])) rfl (hb hby d2_5) _ k) ?_
  show own_Go p.tables e below _ (s₁.setTop (mkF m 7 #[.val (.int p0), .val (.ref a1)] [(.int (65535 : Int32)), (.int p0)]))
  refine own_go (fun _ k => XS.icmpYes X0.here hx rfl (pc0 := 7) (pc' := 25) rfl (hb hby d2_7) rfl (flt hf7).2.2.2 (by decide) (by decide) k) ?_
  show own_Go p.tables e below _ (s₁.setTop (mkF m 25 #[.val (.int p0), .val (.ref a1)] []))
  refine own_go (fun _ k => XS.iloadN X0.here hx rfl (hb hby d2_25) rfl k) ?_
  show own_Go p.tables e below _ (s₁.setTop (mkF m 26 #[.val (.int p0), .val (.ref a1)] [(.int p0)]))
  refine own_end X0 Bd.notSynchronized (v := some (.int p0)) (fun h => by rw [Bd.returns] at h; cases h) (fun fs hr => own_retI X0 hx Bd.returns (hb hby d2_26) hr) ?_ (by decide) (by decide)
  exact ⟨by rw [own_f2], N0, e0⟩
def own_f3 (p0 : Int32) : Int32 :=
  p0
theorem d3_0 : decode prog_110_method_2_code 0 = .ok (.iload_n 0, 1) := by decide +kernel
theorem d3_1 : decode prog_110_method_2_code 1 = .ok (.ifCond .lt 10, 3) := by decide +kernel
theorem d3_4 : decode prog_110_method_2_code 4 = .ok (.iload_n 0, 1) := by decide +kernel
theorem d3_5 : decode prog_110_method_2_code 5 = .ok (.sipush 255, 3) := by decide +kernel
theorem d3_8 : decode prog_110_method_2_code 8 = .ok (.if_icmp .le 18, 3) := by decide +kernel
theorem d3_26 : decode prog_110_method_2_code 26 = .ok (.iload_n 0, 1) := by decide +kernel
theorem d3_27 : decode prog_110_method_2_code 27 = .ok (.ireturn, 1) := by decide +kernel
theorem pn3 : plainName "com/example/dialplane/dialplane/model/Unsigned" = true := by first | (simp [plainName, overriddenIn]; done) | decide +kernel
theorem ef3 (m : MethodId) (p0 : Int32) (a1 : Addr) : entryFrame m #[(.int p0), (.ref a1)] 2 = mkF m 0 #[.val (.int p0), .val (.ref a1)] [] := by first | (simp [entryFrame, mkF, argsToLocals, Value.category]; done) | rfl
def own_Q3 (Z : State) (p0 : Int32) (a1 : Addr) (h0 : Heap) (n0 : Nat) (v : Option Value) (h : Heap) (L : List Loc) : Prop := v = some (.int (own_f3 p0)) ∧ Fr n0 L ∧ h = h0
set_option maxRecDepth 65536 in
set_option maxHeartbeats 40000000 in
theorem rm3 (l : Launch) (Z : State) (az : Array Value) (hw : ∀ d ∈ tables_1, d.before az Z = true) (ws : List Jvm.Cond) (p0 : Int32) (a1 : Addr) (h0 : Heap) (n0 : Nat) (Z0 : n0 ≤ h0.size) (hf1 : ¬ (p0 < (0 : Int32))) (hf8 : ¬ ((255 : Int32) < p0)) :
    MetFree l (⟨"com/example/dialplane/dialplane/model/Unsigned", "u8", "(ILjava/lang/String;)I"⟩ : MethodName) (head1 (Jvm.Cond.code (⟨"com/example/dialplane/dialplane/model/Unsigned", "u8", "(ILjava/lang/String;)I"⟩ : MethodName) prog_110_method_2_code 2 (some .int) :: ws) ({ frames := 0, cells := 0, slots := 0, locals := 0 } : Room)) (fun a U => a = #[(.int p0), (.ref a1)] ∧ Z.Warmed39 U.vm ∧ U.heap = h0) (fun _ _ _ _ _ => True) (fun _ U o U' => ∃ v L, o = .returned v ∧ own_Q3 Z p0 a1 h0 n0 v U'.heap L ∧ FrameEnd U o U' L ({ frames := 0, cells := 0, slots := 0, locals := 0 } : Room).cells ({ frames := 0, cells := 0, slots := 0, locals := 0 } : Room).slots) := by
  refine MetFree.of_bodySF (plainFor_of_name pn3) hisR ?_
  intro p e s m args below meth c s₁ Bd hml0 hP hK
  obtain ⟨rfl, hZ, hh⟩ := hP
  have hx := Bd.exec
  have hby := Bd.bytes
  have hml : c.maxLocals = 2 := hml0
  have hown : s.vm.findClass "com/example/dialplane/dialplane/model/Unsigned" = some m.cls := findClass_of_methodNamed Bd.named
  have hnm := (name_of_methodNamed Bd.named Bd.method).1
  have X0 : Stand p l e ({ frames := 0, cells := 0, slots := 0, locals := 0 } : Room) s m #[(.int p0), (.ref a1)] below meth c s₁ [] 0 0 := Stand.of_body Bd
  have e0 : s₁.heap = h0 := by rw [← hh, Bd.state]; rfl
  have N0 := Fr.nil n0
  show own_Go p.tables e below (fun o U' => ∃ v L, o = .returned v ∧ own_Q3 Z p0 a1 h0 n0 v U'.heap L ∧ FrameEnd s o U' L ({ frames := 0, cells := 0, slots := 0, locals := 0 } : Room).cells ({ frames := 0, cells := 0, slots := 0, locals := 0 } : Room).slots) (s₁.setTop (entryFrame m #[(.int p0), (.ref a1)] 2))
  refine own_go (fun _ k => castTop (ef3 m p0 a1) k) ?_
  show own_Go p.tables e below _ (s₁.setTop (mkF m 0 #[.val (.int p0), .val (.ref a1)] []))
  refine own_go (fun _ k => XS.iloadN X0.here hx rfl (hb hby d3_0) rfl k) ?_
  show own_Go p.tables e below _ (s₁.setTop (mkF m 1 #[.val (.int p0), .val (.ref a1)] [(.int p0)]))
  refine own_go (fun _ k => XS.ifNo X0.here hx rfl (hb hby d3_1) rfl ((if0 _ _).trans (flt hf1).1) k) ?_
  show own_Go p.tables e below _ (s₁.setTop (mkF m 4 #[.val (.int p0), .val (.ref a1)] []))
  refine own_go (fun _ k => XS.iloadN X0.here hx rfl (hb hby d3_4) rfl k) ?_
  show own_Go p.tables e below _ (s₁.setTop (mkF m 5 #[.val (.int p0), .val (.ref a1)] [(.int p0)]))
  refine own_go (fun _ k => XS.sipush X0.here hx rfl (hb hby d3_5) k) ?_
  show own_Go p.tables e below _ (s₁.setTop (mkF m 8 #[.val (.int p0), .val (.ref a1)] [(.int (255 : Int32)), (.int p0)]))
  refine own_go (fun _ k => XS.icmpYes X0.here hx rfl (pc0 := 8) (pc' := 26) rfl (hb hby d3_8) rfl (flt hf8).2.2.2 (by decide) (by decide) k) ?_
  show own_Go p.tables e below _ (s₁.setTop (mkF m 26 #[.val (.int p0), .val (.ref a1)] []))
  refine own_go (fun _ k => XS.iloadN X0.here hx rfl (hb hby d3_26) rfl k) ?_
  show own_Go p.tables e below _ (s₁.setTop (mkF m 27 #[.val (.int p0), .val (.ref a1)] [(.int p0)]))
  refine own_end X0 Bd.notSynchronized (v := some (.int p0)) (fun h => by rw [Bd.returns] at h; cases h) (fun fs hr => own_retI X0 hx Bd.returns (hb hby d3_27) hr) ?_ (by decide) (by decide)
  exact ⟨by rw [own_f3], N0, e0⟩
theorem d4_0 : decode prog_74_method_1_code 0 = .ok (.aload_n 0, 1) := by decide +kernel
theorem d4_1 : decode prog_74_method_1_code 1 = .ok (.invokespecial 1, 3) := by decide +kernel
theorem d4_4 : decode prog_74_method_1_code 4 = .ok (.iload_n 1, 1) := by decide +kernel
theorem d4_5 : decode prog_74_method_1_code 5 = .ok (.ldc 7, 2) := by decide +kernel
theorem d4_7 : decode prog_74_method_1_code 7 = .ok (.invokestatic 9, 3) := by decide +kernel
theorem d4_10 : decode prog_74_method_1_code 10 = .ok (.pop, 1) := by decide +kernel
theorem d4_11 : decode prog_74_method_1_code 11 = .ok (.iload_n 2, 1) := by decide +kernel
theorem d4_12 : decode prog_74_method_1_code 12 = .ok (.ldc 15, 2) := by decide +kernel
theorem d4_14 : decode prog_74_method_1_code 14 = .ok (.invokestatic 17, 3) := by decide +kernel
theorem d4_17 : decode prog_74_method_1_code 17 = .ok (.pop, 1) := by decide +kernel
theorem d4_18 : decode prog_74_method_1_code 18 = .ok (.iload_n 3, 1) := by decide +kernel
theorem d4_19 : decode prog_74_method_1_code 19 = .ok (.ldc 20, 2) := by decide +kernel
theorem d4_21 : decode prog_74_method_1_code 21 = .ok (.invokestatic 17, 3) := by decide +kernel
theorem d4_24 : decode prog_74_method_1_code 24 = .ok (.pop, 1) := by decide +kernel
theorem d4_25 : decode prog_74_method_1_code 25 = .ok (.aload_n 0, 1) := by decide +kernel
theorem d4_26 : decode prog_74_method_1_code 26 = .ok (.iload_n 1, 1) := by decide +kernel
theorem d4_27 : decode prog_74_method_1_code 27 = .ok (.putfield 22, 3) := by decide +kernel
theorem d4_30 : decode prog_74_method_1_code 30 = .ok (.aload_n 0, 1) := by decide +kernel
theorem d4_31 : decode prog_74_method_1_code 31 = .ok (.iload_n 2, 1) := by decide +kernel
theorem d4_32 : decode prog_74_method_1_code 32 = .ok (.putfield 28, 3) := by decide +kernel
theorem d4_35 : decode prog_74_method_1_code 35 = .ok (.aload_n 0, 1) := by decide +kernel
theorem d4_36 : decode prog_74_method_1_code 36 = .ok (.iload_n 3, 1) := by decide +kernel
theorem d4_37 : decode prog_74_method_1_code 37 = .ok (.putfield 31, 3) := by decide +kernel
theorem d4_40 : decode prog_74_method_1_code 40 = .ok (.aload_n 0, 1) := by decide +kernel
theorem d4_41 : decode prog_74_method_1_code 41 = .ok (.iload 4, 2) := by decide +kernel
theorem d4_43 : decode prog_74_method_1_code 43 = .ok (.putfield 34, 3) := by decide +kernel
theorem d4_46 : decode prog_74_method_1_code 46 = .ok (.return_, 1) := by decide +kernel
theorem pn4 : plainName "com/example/dialplane/dialplane/io/Edns" = true := by first | (simp [plainName, overriddenIn]; done) | decide +kernel
theorem pd4_0 : parseMethodDescriptor "()V" = some ⟨[], none⟩ := by decide +kernel
theorem pd4_1 : parseMethodDescriptor "(ILjava/lang/String;)I" = some ⟨[.int, (.object "java/lang/String")], some .int⟩ := by decide +kernel
theorem ef4 (m : MethodId) (a0 : Addr) (p1 : Int32) (p2 : Int32) (p3 : Int32) (p4 : Int32) : entryFrame m #[(.ref a0), (.int p1), (.int p2), (.int p3), (.int p4)] 5 = mkF m 0 #[.val (.ref a0), .val (.int p1), .val (.int p2), .val (.int p3), .val (.int p4)] [] := by first | (simp [entryFrame, mkF, argsToLocals, Value.category]; done) | rfl
def own_Q4 (Z : State) (a0 : Addr) (p1 : Int32) (p2 : Int32) (p3 : Int32) (p4 : Int32) (h0 : Heap) (n0 : Nat) (v : Option Value) (h : Heap) (L : List Loc) : Prop := v = none ∧ Fr n0 L ∧ Keep h0 h [a0] ∧ Exa Z h a0 "com/example/dialplane/dialplane/io/Edns" ∧ Fld Z h a0 "com/example/dialplane/dialplane/io/Edns" "udpPayloadSize" "I" (.int p1) ∧ Fld Z h a0 "com/example/dialplane/dialplane/io/Edns" "extendedRcode" "I" (.int p2) ∧ Fld Z h a0 "com/example/dialplane/dialplane/io/Edns" "version" "I" (.int p3) ∧ Fld Z h a0 "com/example/dialplane/dialplane/io/Edns" "dnssecOk" "Z" (.int (nar .boolean p4))
set_option maxRecDepth 65536 in
set_option maxHeartbeats 40000000 in
theorem rm4 (l : Launch) (Z : State) (az : Array Value) (hw : ∀ d ∈ tables_1, d.before az Z = true) (ws : List Jvm.Cond) (a0 : Addr) (p1 : Int32) (p2 : Int32) (p3 : Int32) (p4 : Int32) (h0 : Heap) (n0 : Nat) (Z0 : n0 ≤ h0.size) (F_a0_udpPayloadSize : Fld Z h0 a0 "com/example/dialplane/dialplane/io/Edns" "udpPayloadSize" "I" (.int (0 : Int32))) (F_a0_extendedRcode : Fld Z h0 a0 "com/example/dialplane/dialplane/io/Edns" "extendedRcode" "I" (.int (0 : Int32))) (F_a0_version : Fld Z h0 a0 "com/example/dialplane/dialplane/io/Edns" "version" "I" (.int (0 : Int32))) (F_a0_dnssecOk : Fld Z h0 a0 "com/example/dialplane/dialplane/io/Edns" "dnssecOk" "Z" (.int (0 : Int32))) (E_a0 : Exa Z h0 a0 "com/example/dialplane/dialplane/io/Edns") (g_a0 : n0 ≤ a0) (hg1 : ¬ (p1 < (0 : Int32))) (hg2 : ¬ ((65535 : Int32) < p1)) (hg3 : ¬ (p2 < (0 : Int32))) (hg4 : ¬ ((255 : Int32) < p2)) (hg5 : ¬ (p3 < (0 : Int32))) (hg6 : ¬ ((255 : Int32) < p3)) :
    MetFree l (⟨"com/example/dialplane/dialplane/io/Edns", "<init>", "(IIIZ)V"⟩ : MethodName) (head1 (Jvm.Cond.code (⟨"com/example/dialplane/dialplane/io/Edns", "<init>", "(IIIZ)V"⟩ : MethodName) prog_74_method_1_code 5 none :: ws) ({ frames := 2, cells := 6, slots := 180, locals := 24 } : Room)) (fun a U => a = #[(.ref a0), (.int p1), (.int p2), (.int p3), (.int p4)] ∧ Z.Warmed39 U.vm ∧ U.heap = h0) (fun _ _ _ _ _ => True) (fun _ U o U' => ∃ v L, o = .returned v ∧ own_Q4 Z a0 p1 p2 p3 p4 h0 n0 v U'.heap L ∧ ReturnedEndW U o U' L ({ frames := 2, cells := 6, slots := 180, locals := 24 } : Room).cells ({ frames := 2, cells := 6, slots := 180, locals := 24 } : Room).slots) := by
  refine MetFree.of_bodySF (plainFor_of_name pn4) hisR ?_
  intro p e s m args below meth c s₁ Bd hml0 hP hK
  obtain ⟨rfl, hZ, hh⟩ := hP
  have hx := Bd.exec
  have hby := Bd.bytes
  have hml : c.maxLocals = 5 := hml0
  have hZ : Z.Warmed39 (s.setVm s.vm).vm := hZ
  have hown : (s.setVm s.vm).vm.findClass "com/example/dialplane/dialplane/io/Edns" = some m.cls := findClass_of_methodNamed Bd.named
  have hnm := (name_of_methodNamed Bd.named Bd.method).1
  have X0 : Stand p l e ({ frames := 2, cells := 6, slots := 180, locals := 24 } : Room) (s.setVm s.vm) m #[(.ref a0), (.int p1), (.int p2), (.int p3), (.int p4)] below meth c s₁ [] 0 0 := by rw [State.setVm_self]; exact Stand.of_body Bd
  have e0 : s₁.heap = h0 := by rw [← hh, Bd.state]; rfl
  have N0 := Fr.nil n0
  have hS : s.Since s.vm h0.size := (State.WarmedH.refl s).since _
  have hk : h0.size ≤ h0.size := Nat.le_refl _
  show own_Go p.tables e below (fun o U' => ∃ v L, o = .returned v ∧ own_Q4 Z a0 p1 p2 p3 p4 h0 n0 v U'.heap L ∧ ReturnedEndW s o U' L ({ frames := 2, cells := 6, slots := 180, locals := 24 } : Room).cells ({ frames := 2, cells := 6, slots := 180, locals := 24 } : Room).slots) (s₁.setTop (entryFrame m #[(.ref a0), (.int p1), (.int p2), (.int p3), (.int p4)] 5))
  refine own_go (fun _ k => castTop (ef4 m a0 p1 p2 p3 p4) k) ?_
  show own_Go p.tables e below _ (s₁.setTop (mkF m 0 #[.val (.ref a0), .val (.int p1), .val (.int p2), .val (.int p3), .val (.int p4)] []))
  refine own_go (fun _ k => XS.aloadN X0.here hx rfl (hb hby d4_0) rfl rfl k) ?_
  show own_Go p.tables e below _ (s₁.setTop (mkF m 1 #[.val (.ref a0), .val (.int p1), .val (.int p2), .val (.int p3), .val (.int p4)] [(.ref a0)]))
  obtain ⟨_, _, ⟨T1, L1, k1, n1⟩, -, X1, ⟨Lc1, hQ1, l1, y1, z1⟩, st1⟩ := X0.specialBack hx (y := (⟨"java/lang/Record", "<init>", "()V"⟩ : MethodName)) rfl hown (mvT hZ (hw _ (List.mem_of_getElem? (i := 7) rfl))) (mvT hZ (hw _ (List.mem_of_getElem? (i := 8) rfl))) (mvT hZ (hw _ (List.mem_of_getElem? (i := 11) rfl))) (by decide) (backOf (W := 0) (rm1 l Z az hw [] a0 h0 n0 Z0) hZ (hw _ (List.mem_of_getElem? (i := 11) rfl)) (hw _ (List.mem_of_getElem? (i := 10) rfl)) (by decide) (by decide)) (g := (mkF m 1 #[.val (.ref a0), .val (.int p1), .val (.int p2), .val (.int p3), .val (.int p4)] [(.ref a0)])) rfl (by rw [hml]; rfl) (Steps.refl _) (a := a0) (argsL := []) (rest := []) (lenOf pd4_0 rfl) rfl (by show 2 * 0 + _ ≤ _; exact Nat.le_of_eq rfl) (hb hby d4_1) (fun _ _ => ⟨rfl, e0, (by decide : 0 + 0 ≤ _), (by decide : 0 + 0 ≤ _)⟩)
  dsimp only [Pt.U, Pt.locs, Pt.cells, Pt.slots] at X1 l1 y1 z1 st1 hQ1
  subst l1 y1 z1
  refine own_go (fun _ k => st1.trans k) ?_
  obtain ⟨rfl, N1q, e1⟩ := hQ1
  have N1 := Fr.app N0 N1q
  show own_Go p.tables e below _ (T1.setTop (mkF m 4 #[.val (.ref a0), .val (.int p1), .val (.int p2), .val (.int p3), .val (.int p4)] []))
  refine own_go (fun _ k => XS.iloadN X1.here hx rfl (hb hby d4_4) rfl k) ?_
  show own_Go p.tables e below _ (T1.setTop (mkF m 5 #[.val (.ref a0), .val (.int p1), .val (.int p2), .val (.int p3), .val (.int p4)] [(.int p1)]))
  obtain ⟨a2, T2, h2, k2, X2, e2, E2, hS, hk, hZ, hown, st2⟩ := ldcS X1 hx hZ hown (hw _ (List.mem_of_getElem? (i := 15) rfl)) (own_wS hw) (e1 : T1.heap = h0) hS hk (g := (mkF m 5 #[.val (.ref a0), .val (.int p1), .val (.int p2), .val (.int p3), .val (.int p4)] [(.int p1)])) rfl (hb hby d4_5) (n := 64) (by decide +kernel) (by decide) (by decide) (by decide)
  have c2_0 := F_a0_udpPayloadSize.ext E2
  have c2_1 := F_a0_extendedRcode.ext E2
  have c2_2 := F_a0_version.ext E2
  have c2_3 := F_a0_dnssecOk.ext E2
  have c2_4 := E_a0.ext E2
  have Z2 : n0 ≤ h2.size := Nat.le_trans Z0 E2.1
  have K2 : Keep h0 h2 [a0] := (Keep.refl _ _).ext E2
  refine own_go st2 ?_
  show own_Go p.tables e below _ (T2.setTop (mkF m 7 #[.val (.ref a0), .val (.int p1), .val (.int p2), .val (.int p3), .val (.int p4)] [(.ref a2), (.int p1)]))
  obtain ⟨_, _, ⟨T3, L3, k3, n3⟩, -, X3, ⟨Lc3, hQ3, l3, y3, z3⟩, st3⟩ := Jvm.LawKit.callS X2 hx (y := (⟨"com/example/dialplane/dialplane/model/Unsigned", "u16", "(ILjava/lang/String;)I"⟩ : MethodName)) hown (mvT hZ (hw _ (List.mem_of_getElem? (i := 23) rfl))) (mvT hZ (hw _ (List.mem_of_getElem? (i := 24) rfl))) (mvT hZ (hw _ (List.mem_of_getElem? (i := 25) rfl))) (mvT hZ (hw _ (List.mem_of_getElem? (i := 26) rfl))) (by decide) (backOf (W := 0) (rm2 l Z az hw [] p1 a2 h2 n0 Z2 hg1 hg2) hZ (hw _ (List.mem_of_getElem? (i := 26) rfl)) (hw _ (List.mem_of_getElem? (i := 25) rfl)) (by decide) (by decide)) (g := (mkF m 7 #[.val (.ref a0), .val (.int p1), .val (.int p2), .val (.int p3), .val (.int p4)] [(.ref a2), (.int p1)])) rfl (by rw [hml]; rfl) (argsL := [(.int p1), (.ref a2)]) (rest := []) (lenOf pd4_1 rfl) rfl (by show 2 * 0 + _ ≤ _; exact Nat.le_of_eq rfl) (hb hby d4_7) (fun _ _ => ⟨rfl, e2, (by decide : 2 + 0 ≤ _), (by decide : 68 + 0 ≤ _)⟩)
  dsimp only [Pt.U, Pt.locs, Pt.cells, Pt.slots] at X3 l3 y3 z3 st3 hQ3
  subst l3 y3 z3
  refine own_go st3 ?_
  obtain ⟨rfl, N3q, e3⟩ := hQ3
  have N3 := Fr.app N1 N3q
  show own_Go p.tables e below _ (T3.setTop (mkF m 10 #[.val (.ref a0), .val (.int p1), .val (.int p2), .val (.int p3), .val (.int p4)] [(.int (own_f2 p1))]))
  refine own_go (fun _ k => XS.pop X3.here hx rfl (hb hby d4_10) rfl rfl k) ?_
  show own_Go p.tables e below _ (T3.setTop (mkF m 11 #[.val (.ref a0), .val (.int p1), .val (.int p2), .val (.int p3), .val (.int p4)] []))
  refine own_go (fun _ k => XS.iloadN X3.here hx rfl (hb hby d4_11) rfl k) ?_
  show own_Go p.tables e below _ (T3.setTop (mkF m 12 #[.val (.ref a0), .val (.int p1), .val (.int p2), .val (.int p3), .val (.int p4)] [(.int p2)]))
  obtain ⟨a4, T4, h4, k4, X4, e4, E4, hS, hk, hZ, hown, st4⟩ := ldcS X3 hx hZ hown (hw _ (List.mem_of_getElem? (i := 28) rfl)) (own_wS hw) (e3 : T3.heap = h2) hS hk (g := (mkF m 12 #[.val (.ref a0), .val (.int p1), .val (.int p2), .val (.int p3), .val (.int p4)] [(.int p2)])) rfl (hb hby d4_12) (n := 56) (by decide +kernel) (by decide) (by decide) (by decide)
  have c4_0 := c2_0.ext E4
  have c4_1 := c2_1.ext E4
  have c4_2 := c2_2.ext E4
  have c4_3 := c2_3.ext E4
  have c4_4 := c2_4.ext E4
  have Z4 : n0 ≤ h4.size := Nat.le_trans Z2 E4.1
  have K4 : Keep h0 h4 [a0] := K2.ext E4
  refine own_go st4 ?_
  show own_Go p.tables e below _ (T4.setTop (mkF m 14 #[.val (.ref a0), .val (.int p1), .val (.int p2), .val (.int p3), .val (.int p4)] [(.ref a4), (.int p2)]))
  obtain ⟨_, _, ⟨T5, L5, k5, n5⟩, -, X5, ⟨Lc5, hQ5, l5, y5, z5⟩, st5⟩ := Jvm.LawKit.callS X4 hx (y := (⟨"com/example/dialplane/dialplane/model/Unsigned", "u8", "(ILjava/lang/String;)I"⟩ : MethodName)) hown (mvT hZ (hw _ (List.mem_of_getElem? (i := 29) rfl))) (mvT hZ (hw _ (List.mem_of_getElem? (i := 30) rfl))) (mvT hZ (hw _ (List.mem_of_getElem? (i := 25) rfl))) (mvT hZ (hw _ (List.mem_of_getElem? (i := 31) rfl))) (by decide) (backOf (W := 0) (rm3 l Z az hw [] p2 a4 h4 n0 Z4 hg3 hg4) hZ (hw _ (List.mem_of_getElem? (i := 31) rfl)) (hw _ (List.mem_of_getElem? (i := 25) rfl)) (by decide) (by decide)) (g := (mkF m 14 #[.val (.ref a0), .val (.int p1), .val (.int p2), .val (.int p3), .val (.int p4)] [(.ref a4), (.int p2)])) rfl (by rw [hml]; rfl) (argsL := [(.int p2), (.ref a4)]) (rest := []) (lenOf pd4_1 rfl) rfl (by show 2 * 0 + _ ≤ _; exact Nat.le_of_eq rfl) (hb hby d4_14) (fun _ _ => ⟨rfl, e4, (by decide : 4 + 0 ≤ _), (by decide : 128 + 0 ≤ _)⟩)
  dsimp only [Pt.U, Pt.locs, Pt.cells, Pt.slots] at X5 l5 y5 z5 st5 hQ5
  subst l5 y5 z5
  refine own_go st5 ?_
  obtain ⟨rfl, N5q, e5⟩ := hQ5
  have N5 := Fr.app N3 N5q
  show own_Go p.tables e below _ (T5.setTop (mkF m 17 #[.val (.ref a0), .val (.int p1), .val (.int p2), .val (.int p3), .val (.int p4)] [(.int (own_f3 p2))]))
  refine own_go (fun _ k => XS.pop X5.here hx rfl (hb hby d4_17) rfl rfl k) ?_
  show own_Go p.tables e below _ (T5.setTop (mkF m 18 #[.val (.ref a0), .val (.int p1), .val (.int p2), .val (.int p3), .val (.int p4)] []))
  refine own_go (fun _ k => XS.iloadN X5.here hx rfl (hb hby d4_18) rfl k) ?_
  show own_Go p.tables e below _ (T5.setTop (mkF m 19 #[.val (.ref a0), .val (.int p1), .val (.int p2), .val (.int p3), .val (.int p4)] [(.int p3)]))
  obtain ⟨a6, T6, h6, k6, X6, e6, E6, hS, hk, hZ, hown, st6⟩ := ldcS X5 hx hZ hown (hw _ (List.mem_of_getElem? (i := 32) rfl)) (own_wS hw) (e5 : T5.heap = h4) hS hk (g := (mkF m 19 #[.val (.ref a0), .val (.int p1), .val (.int p2), .val (.int p3), .val (.int p4)] [(.int p3)])) rfl (hb hby d4_19) (n := 48) (by decide +kernel) (by decide) (by decide) (by decide)
  have c6_0 := c4_0.ext E6
  have c6_1 := c4_1.ext E6
  have c6_2 := c4_2.ext E6
  have c6_3 := c4_3.ext E6
  have c6_4 := c4_4.ext E6
  have Z6 : n0 ≤ h6.size := Nat.le_trans Z4 E6.1
  have K6 : Keep h0 h6 [a0] := K4.ext E6
  refine own_go st6 ?_
  show own_Go p.tables e below _ (T6.setTop (mkF m 21 #[.val (.ref a0), .val (.int p1), .val (.int p2), .val (.int p3), .val (.int p4)] [(.ref a6), (.int p3)]))
  obtain ⟨_, _, ⟨T7, L7, k7, n7⟩, -, X7, ⟨Lc7, hQ7, l7, y7, z7⟩, st7⟩ := Jvm.LawKit.callS X6 hx (y := (⟨"com/example/dialplane/dialplane/model/Unsigned", "u8", "(ILjava/lang/String;)I"⟩ : MethodName)) hown (mvT hZ (hw _ (List.mem_of_getElem? (i := 29) rfl))) (mvT hZ (hw _ (List.mem_of_getElem? (i := 30) rfl))) (mvT hZ (hw _ (List.mem_of_getElem? (i := 25) rfl))) (mvT hZ (hw _ (List.mem_of_getElem? (i := 31) rfl))) (by decide) (backOf (W := 0) (rm3 l Z az hw [] p3 a6 h6 n0 Z6 hg5 hg6) hZ (hw _ (List.mem_of_getElem? (i := 31) rfl)) (hw _ (List.mem_of_getElem? (i := 25) rfl)) (by decide) (by decide)) (g := (mkF m 21 #[.val (.ref a0), .val (.int p1), .val (.int p2), .val (.int p3), .val (.int p4)] [(.ref a6), (.int p3)])) rfl (by rw [hml]; rfl) (argsL := [(.int p3), (.ref a6)]) (rest := []) (lenOf pd4_1 rfl) rfl (by show 2 * 0 + _ ≤ _; exact Nat.le_of_eq rfl) (hb hby d4_21) (fun _ _ => ⟨rfl, e6, (by decide : 6 + 0 ≤ _), (by decide : 180 + 0 ≤ _)⟩)
  dsimp only [Pt.U, Pt.locs, Pt.cells, Pt.slots] at X7 l7 y7 z7 st7 hQ7
  subst l7 y7 z7
  refine own_go st7 ?_
  obtain ⟨rfl, N7q, e7⟩ := hQ7
  have N7 := Fr.app N5 N7q
  show own_Go p.tables e below _ (T7.setTop (mkF m 24 #[.val (.ref a0), .val (.int p1), .val (.int p2), .val (.int p3), .val (.int p4)] [(.int (own_f3 p3))]))
  refine own_go (fun _ k => XS.pop X7.here hx rfl (hb hby d4_24) rfl rfl k) ?_
  show own_Go p.tables e below _ (T7.setTop (mkF m 25 #[.val (.ref a0), .val (.int p1), .val (.int p2), .val (.int p3), .val (.int p4)] []))
  refine own_go (fun _ k => XS.aloadN X7.here hx rfl (hb hby d4_25) rfl rfl k) ?_
  show own_Go p.tables e below _ (T7.setTop (mkF m 26 #[.val (.ref a0), .val (.int p1), .val (.int p2), .val (.int p3), .val (.int p4)] [(.ref a0)]))
  refine own_go (fun _ k => XS.iloadN X7.here hx rfl (hb hby d4_26) rfl k) ?_
  show own_Go p.tables e below _ (T7.setTop (mkF m 27 #[.val (.ref a0), .val (.int p1), .val (.int p2), .val (.int p3), .val (.int p4)] [(.int p1), (.ref a0)]))
  obtain ⟨T8, h8, X8, e8, W8, st8⟩ := putF X7 hx hZ hown (host := "") (Or.inl (hw _ (List.mem_of_getElem? (i := 33) rfl))) Via.refl (e7 : T7.heap = h6) c6_0 c6_4 (Or.inr ⟨(hw _ (List.mem_of_getElem? (i := 34) rfl)), rfl, hnm⟩) (hw _ (List.mem_of_getElem? (i := 2) rfl)) (ty := .int) (by decide) rfl rfl (g := (mkF m 27 #[.val (.ref a0), .val (.int p1), .val (.int p2), .val (.int p3), .val (.int p4)] [(.int p1), (.ref a0)])) rfl rfl (hb hby d4_27)
  have N8 := Fr.snoc X8 N7 g_a0
  have c8_0 := c6_0.same W8
  have c8_1 := c6_1.other W8 (Or.inr (slot_ne (Or.inr (hw _ (List.mem_of_getElem? (i := 36) rfl))) (Or.inr (hw _ (List.mem_of_getElem? (i := 34) rfl))) (by decide) (t := .int) (t' := .int) (by decide) (by decide)))
  have c8_2 := c6_2.other W8 (Or.inr (slot_ne (Or.inr (hw _ (List.mem_of_getElem? (i := 38) rfl))) (Or.inr (hw _ (List.mem_of_getElem? (i := 34) rfl))) (by decide) (t := .int) (t' := .int) (by decide) (by decide)))
  have c8_3 := c6_3.other W8 (Or.inr (slot_ne (Or.inr (hw _ (List.mem_of_getElem? (i := 40) rfl))) (Or.inr (hw _ (List.mem_of_getElem? (i := 34) rfl))) (by decide) (t := .boolean) (t' := .int) (by decide) (by decide)))
  have c8_4 := c6_4.wr W8
  have Z8 : n0 ≤ h8.size := Nat.le_trans Z6 (Keep.of_wr W8).1
  have hk := Nat.le_trans hk (Keep.of_wr W8).1
  have K8 : Keep h0 h8 [a0] := K6.wr W8 (Or.inl (List.mem_of_getElem? (i := 0) rfl))
  refine own_go st8 ?_
  show own_Go p.tables e below _ (T8.setTop (mkF m 30 #[.val (.ref a0), .val (.int p1), .val (.int p2), .val (.int p3), .val (.int p4)] []))
  refine own_go (fun _ k => XS.aloadN X8.here hx rfl (hb hby d4_30) rfl rfl k) ?_
  show own_Go p.tables e below _ (T8.setTop (mkF m 31 #[.val (.ref a0), .val (.int p1), .val (.int p2), .val (.int p3), .val (.int p4)] [(.ref a0)]))
  refine own_go (fun _ k => XS.iloadN X8.here hx rfl (hb hby d4_31) rfl k) ?_
  show own_Go p.tables e below _ (T8.setTop (mkF m 32 #[.val (.ref a0), .val (.int p1), .val (.int p2), .val (.int p3), .val (.int p4)] [(.int p2), (.ref a0)]))
  obtain ⟨T9, h9, X9, e9, W9, st9⟩ := putF X8 hx hZ hown (host := "") (Or.inl (hw _ (List.mem_of_getElem? (i := 35) rfl))) Via.refl e8 c8_1 c8_4 (Or.inr ⟨(hw _ (List.mem_of_getElem? (i := 36) rfl)), rfl, hnm⟩) (hw _ (List.mem_of_getElem? (i := 2) rfl)) (ty := .int) (by decide) rfl rfl (g := (mkF m 32 #[.val (.ref a0), .val (.int p1), .val (.int p2), .val (.int p3), .val (.int p4)] [(.int p2), (.ref a0)])) rfl rfl (hb hby d4_32)
  have N9 := Fr.snoc X9 N8 g_a0
  have c9_0 := c8_0.other W9 (Or.inr (slot_ne (Or.inr (hw _ (List.mem_of_getElem? (i := 34) rfl))) (Or.inr (hw _ (List.mem_of_getElem? (i := 36) rfl))) (by decide) (t := .int) (t' := .int) (by decide) (by decide)))
  have c9_1 := c8_1.same W9
  have c9_2 := c8_2.other W9 (Or.inr (slot_ne (Or.inr (hw _ (List.mem_of_getElem? (i := 38) rfl))) (Or.inr (hw _ (List.mem_of_getElem? (i := 36) rfl))) (by decide) (t := .int) (t' := .int) (by decide) (by decide)))
  have c9_3 := c8_3.other W9 (Or.inr (slot_ne (Or.inr (hw _ (List.mem_of_getElem? (i := 40) rfl))) (Or.inr (hw _ (List.mem_of_getElem? (i := 36) rfl))) (by decide) (t := .boolean) (t' := .int) (by decide) (by decide)))
  have c9_4 := c8_4.wr W9
  have Z9 : n0 ≤ h9.size := Nat.le_trans Z8 (Keep.of_wr W9).1
  have hk := Nat.le_trans hk (Keep.of_wr W9).1
  have K9 : Keep h0 h9 [a0] := K8.wr W9 (Or.inl (List.mem_of_getElem? (i := 0) rfl))
  refine own_go st9 ?_
  show own_Go p.tables e below _ (T9.setTop (mkF m 35 #[.val (.ref a0), .val (.int p1), .val (.int p2), .val (.int p3), .val (.int p4)] []))
  refine own_go (fun _ k => XS.aloadN X9.here hx rfl (hb hby d4_35) rfl rfl k) ?_
  show own_Go p.tables e below _ (T9.setTop (mkF m 36 #[.val (.ref a0), .val (.int p1), .val (.int p2), .val (.int p3), .val (.int p4)] [(.ref a0)]))
  refine own_go (fun _ k => XS.iloadN X9.here hx rfl (hb hby d4_36) rfl k) ?_
  show own_Go p.tables e below _ (T9.setTop (mkF m 37 #[.val (.ref a0), .val (.int p1), .val (.int p2), .val (.int p3), .val (.int p4)] [(.int p3), (.ref a0)]))
  obtain ⟨T10, h10, X10, e10, W10, st10⟩ := putF X9 hx hZ hown (host := "") (Or.inl (hw _ (List.mem_of_getElem? (i := 37) rfl))) Via.refl e9 c9_2 c9_4 (Or.inr ⟨(hw _ (List.mem_of_getElem? (i := 38) rfl)), rfl, hnm⟩) (hw _ (List.mem_of_getElem? (i := 2) rfl)) (ty := .int) (by decide) rfl rfl (g := (mkF m 37 #[.val (.ref a0), .val (.int p1), .val (.int p2), .val (.int p3), .val (.int p4)] [(.int p3), (.ref a0)])) rfl rfl (hb hby d4_37)
  have N10 := Fr.snoc X10 N9 g_a0
  have c10_0 := c9_0.other W10 (Or.inr (slot_ne (Or.inr (hw _ (List.mem_of_getElem? (i := 34) rfl))) (Or.inr (hw _ (List.mem_of_getElem? (i := 38) rfl))) (by decide) (t := .int) (t' := .int) (by decide) (by decide)))
  have c10_1 := c9_1.other W10 (Or.inr (slot_ne (Or.inr (hw _ (List.mem_of_getElem? (i := 36) rfl))) (Or.inr (hw _ (List.mem_of_getElem? (i := 38) rfl))) (by decide) (t := .int) (t' := .int) (by decide) (by decide)))
  have c10_2 := c9_2.same W10
  have c10_3 := c9_3.other W10 (Or.inr (slot_ne (Or.inr (hw _ (List.mem_of_getElem? (i := 40) rfl))) (Or.inr (hw _ (List.mem_of_getElem? (i := 38) rfl))) (by decide) (t := .boolean) (t' := .int) (by decide) (by decide)))
  have c10_4 := c9_4.wr W10
  have Z10 : n0 ≤ h10.size := Nat.le_trans Z9 (Keep.of_wr W10).1
  have hk := Nat.le_trans hk (Keep.of_wr W10).1
  have K10 : Keep h0 h10 [a0] := K9.wr W10 (Or.inl (List.mem_of_getElem? (i := 0) rfl))
  refine own_go st10 ?_
  show own_Go p.tables e below _ (T10.setTop (mkF m 40 #[.val (.ref a0), .val (.int p1), .val (.int p2), .val (.int p3), .val (.int p4)] []))
  refine own_go (fun _ k => XS.aloadN X10.here hx rfl (hb hby d4_40) rfl rfl k) ?_
  show own_Go p.tables e below _ (T10.setTop (mkF m 41 #[.val (.ref a0), .val (.int p1), .val (.int p2), .val (.int p3), .val (.int p4)] [(.ref a0)]))
  refine own_go (fun _ k => XS.iload X10.here hx rfl (hb hby d4_41) rfl k) ?_
  show own_Go p.tables e below _ (T10.setTop (mkF m 43 #[.val (.ref a0), .val (.int p1), .val (.int p2), .val (.int p3), .val (.int p4)] [(.int p4), (.ref a0)]))
  obtain ⟨T11, h11, X11, e11, W11, st11⟩ := putFN X10 hx hZ hown (hw _ (List.mem_of_getElem? (i := 39) rfl)) Via.refl e10 c10_3 c10_4 (Or.inr ⟨(hw _ (List.mem_of_getElem? (i := 40) rfl)), rfl, hnm⟩) (hw _ (List.mem_of_getElem? (i := 2) rfl)) (ty := .boolean) (v' := (.int (nar .boolean p4))) (by decide) rfl (fits_nar_bool _) (g := (mkF m 43 #[.val (.ref a0), .val (.int p1), .val (.int p2), .val (.int p3), .val (.int p4)] [(.int p4), (.ref a0)])) rfl rfl (hb hby d4_43)
  have N11 := Fr.snoc X11 N10 g_a0
  have c11_0 := c10_0.other W11 (Or.inr (slot_ne (Or.inr (hw _ (List.mem_of_getElem? (i := 34) rfl))) (Or.inr (hw _ (List.mem_of_getElem? (i := 40) rfl))) (by decide) (t := .int) (t' := .boolean) (by decide) (by decide)))
  have c11_1 := c10_1.other W11 (Or.inr (slot_ne (Or.inr (hw _ (List.mem_of_getElem? (i := 36) rfl))) (Or.inr (hw _ (List.mem_of_getElem? (i := 40) rfl))) (by decide) (t := .int) (t' := .boolean) (by decide) (by decide)))
  have c11_2 := c10_2.other W11 (Or.inr (slot_ne (Or.inr (hw _ (List.mem_of_getElem? (i := 38) rfl))) (Or.inr (hw _ (List.mem_of_getElem? (i := 40) rfl))) (by decide) (t := .int) (t' := .boolean) (by decide) (by decide)))
  have c11_3 := c10_3.same W11
  have c11_4 := c10_4.wr W11
  have Z11 : n0 ≤ h11.size := Nat.le_trans Z10 (Keep.of_wr W11).1
  have hk := Nat.le_trans hk (Keep.of_wr W11).1
  have K11 : Keep h0 h11 [a0] := K10.wr W11 (Or.inl (List.mem_of_getElem? (i := 0) rfl))
  refine own_go st11 ?_
  show own_Go p.tables e below _ (T11.setTop (mkF m 46 #[.val (.ref a0), .val (.int p1), .val (.int p2), .val (.int p3), .val (.int p4)] []))
  refine own_endW X11 hS (by rw [e11]; exact hk) Bd.notSynchronized (v := none) (fun _ => rfl) (fun fs hr => X11.returnOut hx Bd.returns (hb hby d4_46) hr) ?_ (by decide) (by decide)
  show own_Q4 Z a0 p1 p2 p3 p4 h0 n0 _ T11.heap _
  rw [e11]
  exact ⟨rfl, N11, K11, c11_4, c11_0, c11_1, c11_2, c11_3⟩
def own_f5 (wr : Int32) (wv : Int32) (wd : Int32) : Int64 :=
  ((((wr.toInt64) <<< ((24 : Int32) &&& 0x3f).toInt64) ||| ((wv.toInt64) <<< ((16 : Int32) &&& 0x3f).toInt64)) ||| (if wd = (0 : Int32) then (0 : Int64) else (32768 : Int64)))
theorem d5_0 : decode prog_74_method_4_code 0 = .ok (.aload_n 0, 1) := by decide +kernel
theorem d5_1 : decode prog_74_method_4_code 1 = .ok (.getfield 28, 3) := by decide +kernel
theorem d5_4 : decode prog_74_method_4_code 4 = .ok (.i2l, 1) := by decide +kernel
theorem d5_5 : decode prog_74_method_4_code 5 = .ok (.bipush 24, 2) := by decide +kernel
theorem d5_7 : decode prog_74_method_4_code 7 = .ok (.lshl, 1) := by decide +kernel
theorem d5_8 : decode prog_74_method_4_code 8 = .ok (.aload_n 0, 1) := by decide +kernel
theorem d5_9 : decode prog_74_method_4_code 9 = .ok (.getfield 31, 3) := by decide +kernel
theorem d5_12 : decode prog_74_method_4_code 12 = .ok (.i2l, 1) := by decide +kernel
theorem d5_13 : decode prog_74_method_4_code 13 = .ok (.bipush 16, 2) := by decide +kernel
theorem d5_15 : decode prog_74_method_4_code 15 = .ok (.lshl, 1) := by decide +kernel
theorem d5_16 : decode prog_74_method_4_code 16 = .ok (.lor, 1) := by decide +kernel
theorem d5_17 : decode prog_74_method_4_code 17 = .ok (.aload_n 0, 1) := by decide +kernel
theorem d5_18 : decode prog_74_method_4_code 18 = .ok (.getfield 34, 3) := by decide +kernel
theorem d5_21 : decode prog_74_method_4_code 21 = .ok (.ifCond .eq 9, 3) := by decide +kernel
theorem d5_24 : decode prog_74_method_4_code 24 = .ok (.ldc2_w 83, 3) := by decide +kernel
theorem d5_27 : decode prog_74_method_4_code 27 = .ok (.goto 4, 3) := by decide +kernel
theorem d5_30 : decode prog_74_method_4_code 30 = .ok (.lconst 0, 1) := by decide +kernel
theorem d5_31 : decode prog_74_method_4_code 31 = .ok (.lor, 1) := by decide +kernel
theorem d5_32 : decode prog_74_method_4_code 32 = .ok (.lreturn, 1) := by decide +kernel
theorem pn5 : plainName "com/example/dialplane/dialplane/io/Edns" = true := by first | (simp [plainName, overriddenIn]; done) | decide +kernel
theorem ef5 (m : MethodId) (a0 : Addr) : entryFrame m #[(.ref a0)] 1 = mkF m 0 #[.val (.ref a0)] [] := by first | (simp [entryFrame, mkF, argsToLocals, Value.category]; done) | rfl
def own_Q5 (Z : State) (a0 : Addr) (wr : Int32) (wv : Int32) (wd : Int32) (h0 : Heap) (n0 : Nat) (v : Option Value) (h : Heap) (L : List Loc) : Prop := v = some (.long (own_f5 wr wv wd)) ∧ Fr n0 L ∧ h = h0
set_option maxRecDepth 65536 in
set_option maxHeartbeats 40000000 in
theorem rm5 (l : Launch) (Z : State) (az : Array Value) (hw : ∀ d ∈ tables_1, d.before az Z = true) (ws : List Jvm.Cond) (a0 : Addr) (wr : Int32) (wv : Int32) (wd : Int32) (h0 : Heap) (n0 : Nat) (Z0 : n0 ≤ h0.size) (F_a0_extendedRcode : Fld Z h0 a0 "com/example/dialplane/dialplane/io/Edns" "extendedRcode" "I" (.int wr)) (F_a0_version : Fld Z h0 a0 "com/example/dialplane/dialplane/io/Edns" "version" "I" (.int wv)) (F_a0_dnssecOk : Fld Z h0 a0 "com/example/dialplane/dialplane/io/Edns" "dnssecOk" "Z" (.int wd)) :
    MetFree l (⟨"com/example/dialplane/dialplane/io/Edns", "ttlField", "()J"⟩ : MethodName) (head1 (Jvm.Cond.code (⟨"com/example/dialplane/dialplane/io/Edns", "ttlField", "()J"⟩ : MethodName) prog_74_method_4_code 1 (some .long) :: ws) ({ frames := 0, cells := 0, slots := 0, locals := 0 } : Room)) (fun a U => a = #[(.ref a0)] ∧ Z.Warmed39 U.vm ∧ U.heap = h0) (fun _ _ _ _ _ => True) (fun _ U o U' => ∃ v L, o = .returned v ∧ own_Q5 Z a0 wr wv wd h0 n0 v U'.heap L ∧ FrameEnd U o U' L ({ frames := 0, cells := 0, slots := 0, locals := 0 } : Room).cells ({ frames := 0, cells := 0, slots := 0, locals := 0 } : Room).slots) := by
  refine MetFree.of_bodySF (plainFor_of_name pn5) hisR ?_
  intro p e s m args below meth c s₁ Bd hml0 hP hK
  obtain ⟨rfl, hZ, hh⟩ := hP
  have hx := Bd.exec
  have hby := Bd.bytes
  have hml : c.maxLocals = 1 := hml0
  have hown : s.vm.findClass "com/example/dialplane/dialplane/io/Edns" = some m.cls := findClass_of_methodNamed Bd.named
  have hnm := (name_of_methodNamed Bd.named Bd.method).1
  have X0 : Stand p l e ({ frames := 0, cells := 0, slots := 0, locals := 0 } : Room) s m #[(.ref a0)] below meth c s₁ [] 0 0 := Stand.of_body Bd
  have e0 : s₁.heap = h0 := by rw [← hh, Bd.state]; rfl
  have N0 := Fr.nil n0
  show own_Go p.tables e below (fun o U' => ∃ v L, o = .returned v ∧ own_Q5 Z a0 wr wv wd h0 n0 v U'.heap L ∧ FrameEnd s o U' L ({ frames := 0, cells := 0, slots := 0, locals := 0 } : Room).cells ({ frames := 0, cells := 0, slots := 0, locals := 0 } : Room).slots) (s₁.setTop (entryFrame m #[(.ref a0)] 1))
  refine own_go (fun _ k => castTop (ef5 m a0) k) ?_
  show own_Go p.tables e below _ (s₁.setTop (mkF m 0 #[.val (.ref a0)] []))
  refine own_go (fun _ k => XS.aloadN X0.here hx rfl (hb hby d5_0) rfl rfl k) ?_
  show own_Go p.tables e below _ (s₁.setTop (mkF m 1 #[.val (.ref a0)] [(.ref a0)]))
  obtain ⟨T1, X1, e1, st1⟩ := getF X0 hx hZ hown (host := "") (Or.inl (hw _ (List.mem_of_getElem? (i := 35) rfl))) Via.refl e0 F_a0_extendedRcode (g := (mkF m 1 #[.val (.ref a0)] [(.ref a0)])) rfl rfl (hb hby d5_1)
  refine own_go st1 ?_
  show own_Go p.tables e below _ (T1.setTop (mkF m 4 #[.val (.ref a0)] [(.int wr)]))
  refine own_go (fun _ k => XS.i2l X1.here hx rfl (hb hby d5_4) rfl k) ?_
  show own_Go p.tables e below _ (T1.setTop (mkF m 5 #[.val (.ref a0)] [(.long (wr.toInt64))]))
  refine own_go (fun _ k => XS.bipush X1.here hx rfl (hb hby d5_5) k) ?_
  show own_Go p.tables e below _ (T1.setTop (mkF m 7 #[.val (.ref a0)] [(.int (24 : Int32)), (.long (wr.toInt64))]))
  refine own_go (fun _ k => XS.lshl X1.here hx rfl (hb hby d5_7) rfl k) ?_
  show own_Go p.tables e below _ (T1.setTop (mkF m 8 #[.val (.ref a0)] [(.long ((wr.toInt64) <<< ((24 : Int32) &&& 0x3f).toInt64))]))
  refine own_go (fun _ k => XS.aloadN X1.here hx rfl (hb hby d5_8) rfl rfl k) ?_
  show own_Go p.tables e below _ (T1.setTop (mkF m 9 #[.val (.ref a0)] [(.ref a0), (.long ((wr.toInt64) <<< ((24 : Int32) &&& 0x3f).toInt64))]))
  obtain ⟨T2, X2, e2, st2⟩ := getF X1 hx hZ hown (host := "") (Or.inl (hw _ (List.mem_of_getElem? (i := 37) rfl))) Via.refl e1 F_a0_version (g := (mkF m 9 #[.val (.ref a0)] [(.ref a0), (.long ((wr.toInt64) <<< ((24 : Int32) &&& 0x3f).toInt64))])) rfl rfl (hb hby d5_9)
  refine own_go st2 ?_
  show own_Go p.tables e below _ (T2.setTop (mkF m 12 #[.val (.ref a0)] [(.int wv), (.long ((wr.toInt64) <<< ((24 : Int32) &&& 0x3f).toInt64))]))
  refine own_go (fun _ k => XS.i2l X2.here hx rfl (hb hby d5_12) rfl k) ?_
  show own_Go p.tables e below _ (T2.setTop (mkF m 13 #[.val (.ref a0)] [(.long (wv.toInt64)), (.long ((wr.toInt64) <<< ((24 : Int32) &&& 0x3f).toInt64))]))
  refine own_go (fun _ k => XS.bipush X2.here hx rfl (hb hby d5_13) k) ?_
  show own_Go p.tables e below _ (T2.setTop (mkF m 15 #[.val (.ref a0)] [(.int (16 : Int32)), (.long (wv.toInt64)), (.long ((wr.toInt64) <<< ((24 : Int32) &&& 0x3f).toInt64))]))
  refine own_go (fun _ k => XS.lshl X2.here hx rfl (hb hby d5_15) rfl k) ?_
  show own_Go p.tables e below _ (T2.setTop (mkF m 16 #[.val (.ref a0)] [(.long ((wv.toInt64) <<< ((16 : Int32) &&& 0x3f).toInt64)), (.long ((wr.toInt64) <<< ((24 : Int32) &&& 0x3f).toInt64))]))
  refine own_go (fun _ k => XS.lor X2.here hx rfl (hb hby d5_16) rfl k) ?_
  show own_Go p.tables e below _ (T2.setTop (mkF m 17 #[.val (.ref a0)] [(.long (((wr.toInt64) <<< ((24 : Int32) &&& 0x3f).toInt64) ||| ((wv.toInt64) <<< ((16 : Int32) &&& 0x3f).toInt64)))]))
  refine own_go (fun _ k => XS.aloadN X2.here hx rfl (hb hby d5_17) rfl rfl k) ?_
  show own_Go p.tables e below _ (T2.setTop (mkF m 18 #[.val (.ref a0)] [(.ref a0), (.long (((wr.toInt64) <<< ((24 : Int32) &&& 0x3f).toInt64) ||| ((wv.toInt64) <<< ((16 : Int32) &&& 0x3f).toInt64)))]))
  obtain ⟨T3, X3, e3, st3⟩ := getF X2 hx hZ hown (host := "") (Or.inl (hw _ (List.mem_of_getElem? (i := 39) rfl))) Via.refl e2 F_a0_dnssecOk (g := (mkF m 18 #[.val (.ref a0)] [(.ref a0), (.long (((wr.toInt64) <<< ((24 : Int32) &&& 0x3f).toInt64) ||| ((wv.toInt64) <<< ((16 : Int32) &&& 0x3f).toInt64)))])) rfl rfl (hb hby d5_18)
  refine own_go st3 ?_
  show own_Go p.tables e below _ (T3.setTop (mkF m 21 #[.val (.ref a0)] [(.int wd), (.long (((wr.toInt64) <<< ((24 : Int32) &&& 0x3f).toInt64) ||| ((wv.toInt64) <<< ((16 : Int32) &&& 0x3f).toInt64)))]))
  have sg4 : ∀ t, Steps p.tables e below (T3.setTop (mkF m 31 #[.val (.ref a0)] [(.long (if wd = (0 : Int32) then (0 : Int64) else (32768 : Int64))), (.long (((wr.toInt64) <<< ((24 : Int32) &&& 0x3f).toInt64) ||| ((wv.toInt64) <<< ((16 : Int32) &&& 0x3f).toInt64)))])) t → Steps p.tables e below (T3.setTop (mkF m 21 #[.val (.ref a0)] [(.int wd), (.long (((wr.toInt64) <<< ((24 : Int32) &&& 0x3f).toInt64) ||| ((wv.toInt64) <<< ((16 : Int32) &&& 0x3f).toInt64)))])) t := by
    intro t k
    by_cases hc21 : wd = (0 : Int32)
    · try simp only [if_pos hc21] at k
      refine XS.ifYes X3.here hx rfl (pc0 := 21) (pc' := 30) rfl (hb hby d5_21) rfl ((if0 _ _).trans (teq hc21).1) (by decide) (by decide) ?_
      show Steps p.tables e below (T3.setTop (mkF m 30 #[.val (.ref a0)] [(.long (((wr.toInt64) <<< ((24 : Int32) &&& 0x3f).toInt64) ||| ((wv.toInt64) <<< ((16 : Int32) &&& 0x3f).toInt64)))])) _
      refine XS.lconst X3.here hx rfl (hb hby d5_30) ?_
      show Steps p.tables e below (T3.setTop (mkF m 31 #[.val (.ref a0)] [(.long (0 : Int64)), (.long (((wr.toInt64) <<< ((24 : Int32) &&& 0x3f).toInt64) ||| ((wv.toInt64) <<< ((16 : Int32) &&& 0x3f).toInt64)))])) _
      exact k
    · try simp only [if_neg hc21] at k
      refine XS.ifNo X3.here hx rfl (hb hby d5_21) rfl ((if0 _ _).trans (feq hc21).1) ?_
      show Steps p.tables e below (T3.setTop (mkF m 24 #[.val (.ref a0)] [(.long (((wr.toInt64) <<< ((24 : Int32) &&& 0x3f).toInt64) ||| ((wv.toInt64) <<< ((16 : Int32) &&& 0x3f).toInt64)))])) _
      refine X3.ldc2Long hx hown (mvT hZ (hw _ (List.mem_of_getElem? (i := 46) rfl))) (g := (mkF m 24 #[.val (.ref a0)] [(.long (((wr.toInt64) <<< ((24 : Int32) &&& 0x3f).toInt64) ||| ((wv.toInt64) <<< ((16 : Int32) &&& 0x3f).toInt64)))])) rfl (hb hby d5_24) _ ?_
      show Steps p.tables e below (T3.setTop (mkF m 27 #[.val (.ref a0)] [(.long (32768 : Int64)), (.long (((wr.toInt64) <<< ((24 : Int32) &&& 0x3f).toInt64) ||| ((wv.toInt64) <<< ((16 : Int32) &&& 0x3f).toInt64)))])) _
      refine XS.goto X3.here hx rfl (pc0 := 27) (pc' := 31) rfl (hb hby d5_27) (by decide) (by decide) ?_
      show Steps p.tables e below (T3.setTop (mkF m 31 #[.val (.ref a0)] [(.long (32768 : Int64)), (.long (((wr.toInt64) <<< ((24 : Int32) &&& 0x3f).toInt64) ||| ((wv.toInt64) <<< ((16 : Int32) &&& 0x3f).toInt64)))])) _
      exact k
  refine own_go sg4 ?_
  show own_Go p.tables e below _ (T3.setTop (mkF m 31 #[.val (.ref a0)] [(.long (if wd = (0 : Int32) then (0 : Int64) else (32768 : Int64))), (.long (((wr.toInt64) <<< ((24 : Int32) &&& 0x3f).toInt64) ||| ((wv.toInt64) <<< ((16 : Int32) &&& 0x3f).toInt64)))]))
  refine own_go (fun _ k => XS.lor X3.here hx rfl (hb hby d5_31) rfl k) ?_
  show own_Go p.tables e below _ (T3.setTop (mkF m 32 #[.val (.ref a0)] [(.long ((((wr.toInt64) <<< ((24 : Int32) &&& 0x3f).toInt64) ||| ((wv.toInt64) <<< ((16 : Int32) &&& 0x3f).toInt64)) ||| (if wd = (0 : Int32) then (0 : Int64) else (32768 : Int64))))]))
  refine own_end X3 Bd.notSynchronized (v := some (.long ((((wr.toInt64) <<< ((24 : Int32) &&& 0x3f).toInt64) ||| ((wv.toInt64) <<< ((16 : Int32) &&& 0x3f).toInt64)) ||| (if wd = (0 : Int32) then (0 : Int64) else (32768 : Int64))))) (fun h => by rw [Bd.returns] at h; cases h) (fun fs hr => own_retJ X3 hx Bd.returns (hb hby d5_32) hr) ?_ (by decide) (by decide)
  exact ⟨by rw [own_f5], N0, e3⟩
theorem own_m16 {p v : Int32} (h : v = p &&& 65535) : ¬ (v < (0 : Int32)) ∧ ¬ ((65535 : Int32) < v) := by
  have e := c_mask p 65535 16 (by decide) (by decide)
  rw [← h] at e
  have k0 : (0 : Int32).toInt = 0 := by decide
  have k1 : (65535 : Int32).toInt = 65535 := by decide
  simp only [Int32.lt_iff_toInt_lt, k0, k1]
  omega
theorem own_m8 {p v : Int32} (h : v = p &&& 255) : ¬ (v < (0 : Int32)) ∧ ¬ ((255 : Int32) < v) := by
  have e := c_mask p 255 8 (by decide) (by decide)
  rw [← h] at e
  have k0 : (0 : Int32).toInt = 0 := by decide
  have k1 : (255 : Int32).toInt = 255 := by decide
  simp only [Int32.lt_iff_toInt_lt, k0, k1]
  omega
theorem own_r8 {p v : Int32} (h : v = p &&& 255) : 0 ≤ v.toInt ∧ v.toInt ≤ 255 := by
  have e := c_mask p 255 8 (by decide) (by decide)
  rw [← h] at e
  omega
theorem own_bv {y : Int64} {k : Nat} (h : y.toInt = k) : y.toBitVec.toNat = k := by
  have e0 : y.toInt = y.toBitVec.toInt := rfl
  rw [e0, BitVec.toInt_eq_toNat_cond] at h
  have := y.toBitVec.isLt
  split at h <;> omega
theorem own_vb {y : Int64} {k : Nat} (h : y.toBitVec.toNat = k) (hk : k < 2 ^ 63) : y.toInt = k := by
  have e0 : y.toInt = y.toBitVec.toInt := rfl
  rw [e0, BitVec.toInt_eq_toNat_cond, h]
  split <;> omega
theorem own_sh {r : Int32} {n : Int64} {i : Nat} (hr : 0 ≤ r.toInt ∧ r.toInt ≤ 255) (hn : (n.toBitVec.smod 64).toNat = i) (hi : i ≤ 24) : (r.toInt64 <<< n).toBitVec.toNat = r.toInt.toNat <<< i := by
  have e := c_i2l r
  have p : (2 : Int) ^ i ≤ 2 ^ 24 := by
    have q : (2 : Nat) ^ i ≤ 2 ^ 24 := Nat.pow_le_pow_right (by decide) hi
    exact_mod_cast q
  have p0 : (0 : Int) < 2 ^ i := Int.pow_pos (by decide)
  have b1 : r.toInt64.toInt * 2 ^ i ≤ 255 * 2 ^ 24 := by rw [e]; exact Int.mul_le_mul hr.2 p (Int.le_of_lt p0) (by decide)
  have b0 : 0 ≤ r.toInt64.toInt * 2 ^ i := by rw [e]; exact Int.mul_nonneg hr.1 (Int.le_of_lt p0)
  have f := Jvm.Kit.i64_shl r.toInt64 n hn (by omega) (by omega)
  apply own_bv
  rw [f, e, Nat.shiftLeft_eq]
  have : r.toInt = (r.toInt.toNat : Int) := by omega
  rw [this]; simp
theorem own_t {r v : Int32} {x : Int64} {k : Nat} (hr : 0 ≤ r.toInt ∧ r.toInt ≤ 255) (hv : 0 ≤ v.toInt ∧ v.toInt ≤ 255) (hx : x.toBitVec.toNat = 32768 * k) (hk : k ≤ 1) :
    ((r.toInt64 <<< ((24 : Int32) &&& 0x3f).toInt64 ||| v.toInt64 <<< ((16 : Int32) &&& 0x3f).toInt64) ||| x).toBitVec.toNat = r.toInt.toNat * 16777216 + v.toInt.toNat * 65536 + 32768 * k := by
  rw [Int64.toBitVec_or, Int64.toBitVec_or, BitVec.toNat_or, BitVec.toNat_or, hx, own_sh (i := 24) hr (by decide) (by decide), own_sh (i := 16) hv (by decide) (by decide)]
  have h1 : v.toInt.toNat <<< 16 < 2 ^ 24 := by rw [Nat.shiftLeft_eq]; omega
  rw [← Nat.shiftLeft_add_eq_or_of_lt h1]
  have h2 : r.toInt.toNat <<< 24 + v.toInt.toNat <<< 16 = (r.toInt.toNat * 256 + v.toInt.toNat) <<< 16 := by simp only [Nat.shiftLeft_eq]; omega
  have h3 : 32768 * k < 2 ^ 16 := by omega
  rw [h2, ← Nat.shiftLeft_add_eq_or_of_lt h3, Nat.shiftLeft_eq]
  omega
theorem own_b15 {m k : Nat} (hm : m % 2 = k) : (m <<< 15) &&& (32768 : Int64).toBitVec.toNat = 32768 * k := by
  have q2 : (32768 : Int64).toBitVec.toNat = 1 <<< 15 := by decide
  rw [q2, ← Nat.shiftLeft_and_distrib, Nat.and_one_is_mod, hm, Nat.shiftLeft_eq]
  omega
theorem own_val {r v d : Int32} {t : Int64} {k : Nat} (hr : 0 ≤ r.toInt ∧ r.toInt ≤ 255) (hv : 0 ≤ v.toInt ∧ v.toInt ≤ 255) (hd : d.toInt = k) (hk : k ≤ 1) (ht : t = own_f5 r v (nar .boolean d)) :
    ¬ (t < (0 : Int64)) ∧ ¬ ((4294967295 : Int64) < t) ∧ ((t.toUInt64 >>> ((24 : Int32) &&& 0x3f).toInt64.toUInt64).toInt64) = r.toInt64 ∧ (((t.toUInt64 >>> ((16 : Int32) &&& 0x3f).toInt64.toUInt64).toInt64) &&& (255 : Int64)) = v.toInt64
    ∧ (if (t &&& (32768 : Int64)) = (0 : Int64) then (0 : Int32) else (1 : Int32)) = d ∧ (t &&& (32767 : Int64)) = (0 : Int64) := by
  have hn : nar .boolean d = d := by
    have hd' : d = 0 ∨ d = 1 := by
      have k0 : (0 : Int32).toInt = 0 := by decide
      have k1 : (1 : Int32).toInt = 1 := by decide
      simp only [← Int32.toInt_inj, k0, k1]; omega
    rcases hd' with rfl | rfl <;> rfl
  have hN : t.toBitVec.toNat = r.toInt.toNat * 16777216 + v.toInt.toNat * 65536 + 32768 * k := by
    rw [ht, hn, own_f5]
    apply own_t hr hv _ hk
    have k0 : (0 : Int32).toInt = 0 := by decide
    simp only [← Int32.toInt_inj, k0, hd]
    by_cases hz : ((k : Nat) : Int) = 0
    · rw [if_pos hz]; have : k = 0 := by omega
      subst this; rfl
    · rw [if_neg hz]; have : k = 1 := by omega
      subst this; rfl
  have hT := own_vb hN (by omega)
  have k0 : (0 : Int64).toInt = 0 := by decide
  have k1 : (4294967295 : Int64).toInt = 4294967295 := by decide
  have p0 : 0 ≤ t := by rw [Int64.le_iff_toInt_le, k0]; omega
  have e1 := Jvm.Kit.i64_lushr p0 (n := ((24 : Int32) &&& 0x3f).toInt64.toUInt64) (k := 24) (by decide) (by decide)
  have e2 := Jvm.Kit.i64_lushr p0 (n := ((16 : Int32) &&& 0x3f).toInt64.toUInt64) (k := 16) (by decide) (by decide)
  have e3 := c_maskL ((t.toUInt64 >>> ((16 : Int32) &&& 0x3f).toInt64.toUInt64).toInt64) 255 8 (by decide) (by decide)
  have e4 := c_maskL t 32767 15 (by decide) (by decide)
  have e5 := c_i2l r
  have e6 := c_i2l v
  refine ⟨?_, ?_, ?_, ?_, ?_, ?_⟩
  · rw [Int64.lt_iff_toInt_lt, k0]; omega
  · rw [Int64.lt_iff_toInt_lt, k1]; omega
  · rw [← Int64.toInt_inj, e1, e5, hT]; omega
  · rw [← Int64.toInt_inj, e3, e2, e6, hT]; omega
  · have e7 : (t &&& 32768).toBitVec.toNat = 32768 * k := by
      rw [Int64.toBitVec_and, BitVec.toNat_and, hN]
      have q : r.toInt.toNat * 16777216 + v.toInt.toNat * 65536 + 32768 * k = (r.toInt.toNat * 512 + v.toInt.toNat * 2 + k) <<< 15 := by rw [Nat.shiftLeft_eq]; omega
      rw [q]
      exact own_b15 (by omega)
    have e8 := own_vb e7 (by omega)
    simp only [← Int64.toInt_inj, ← Int32.toInt_inj, k0, e8, hd]
    have : k = 0 ∨ k = 1 := by omega
    rcases this with rfl | rfl <;> rfl
  · rw [← Int64.toInt_inj, e4, k0, hT]; omega
theorem own_d {p d : Int32} (h : d = if (p &&& 1) = (0 : Int32) then (0 : Int32) else (1 : Int32)) : ∃ k : Nat, d.toInt = k ∧ k ≤ 1 := by
  split at h
  · exact ⟨0, by subst h; decide, by decide⟩
  · exact ⟨1, by subst h; decide, by decide⟩
theorem pn0 : plainName "com/example/dialplane/dialplane/io/EdnsTtlFieldPinLaw" = true := by first | (simp [plainName, overriddenIn]; done) | decide +kernel
theorem pd0_0 : parseMethodDescriptor "(IIIZ)V" = some ⟨[.int, .int, .int, .boolean], none⟩ := by decide +kernel
theorem pd0_1 : parseMethodDescriptor "()J" = some ⟨[], some .long⟩ := by decide +kernel
theorem ef0 (m : MethodId) (p0 : Int32) (p1 : Int32) (p2 : Int32) (p3 : Int32) : entryFrame m #[(.int p0), (.int p1), (.int p2), (.int p3)] maxLocals = mkF m 0 #[.val (.int p0), .val (.int p1), .val (.int p2), .val (.int p3), .unset, .unset, .unset, .unset, .unset, .unset, .unset] [] := by first | (simp [entryFrame, mkF, argsToLocals, Value.category, maxLocals]; done) | rfl
def own_Q0 (Z : State) (p0 : Int32) (p1 : Int32) (p2 : Int32) (p3 : Int32) (h0 : Heap) (n0 : Nat) (v : Option Value) (h : Heap) (L : List Loc) : Prop := v = some (.int 1) ∧ Fr n0 L
set_option maxRecDepth 65536 in
set_option maxHeartbeats 40000000 in
theorem rm0 (l : Launch) (Z : State) (az : Array Value) (hw : ∀ d ∈ tables_1, d.before az Z = true) (ws : List Jvm.Cond) (p0 : Int32) (p1 : Int32) (p2 : Int32) (p3 : Int32) (h0 : Heap) (n0 : Nat) (Z0 : n0 ≤ h0.size) :
    MetFree l x (head1 (Jvm.Cond.code x code maxLocals ret :: ws) room_1) (fun a U => a = #[(.int p0), (.int p1), (.int p2), (.int p3)] ∧ Z.Warmed39 U.vm ∧ U.heap = h0) (fun _ _ _ _ _ => True) (fun _ U o U' => ∃ v L, o = .returned v ∧ own_Q0 Z p0 p1 p2 p3 h0 n0 v U'.heap L ∧ ReturnedEndW U o U' L 16 3200) := by
  refine MetFree.of_bodySF (plainFor_of_name pn0) hisR ?_
  intro p e s m args below meth c s₁ Bd hml0 hP hK
  obtain ⟨rfl, hZ, hh⟩ := hP
  have hx := Bd.exec
  have hby := Bd.bytes
  have hml : c.maxLocals = 11 := hml0
  have hZ : Z.Warmed39 (s.setVm s.vm).vm := hZ
  have hown : (s.setVm s.vm).vm.findClass "com/example/dialplane/dialplane/io/EdnsTtlFieldPinLaw" = some m.cls := findClass_of_methodNamed Bd.named
  have hnm := (name_of_methodNamed Bd.named Bd.method).1
  have X0 : Stand p l e room_1 (s.setVm s.vm) m #[(.int p0), (.int p1), (.int p2), (.int p3)] below meth c s₁ [] 0 0 := by rw [State.setVm_self]; exact Stand.of_body Bd
  have e0 : s₁.heap = h0 := by rw [← hh, Bd.state]; rfl
  have N0 := Fr.nil n0
  have hS : s.Since s.vm h0.size := (State.WarmedH.refl s).since _
  have hk : h0.size ≤ h0.size := Nat.le_refl _
  show own_Go p.tables e below (fun o U' => ∃ v L, o = .returned v ∧ own_Q0 Z p0 p1 p2 p3 h0 n0 v U'.heap L ∧ ReturnedEndW s o U' L 16 3200) (s₁.setTop (entryFrame m #[(.int p0), (.int p1), (.int p2), (.int p3)] maxLocals))
  refine own_go (fun _ k => castTop (ef0 m p0 p1 p2 p3) k) ?_
  show own_Go p.tables e below _ (s₁.setTop (mkF m 0 #[.val (.int p0), .val (.int p1), .val (.int p2), .val (.int p3), .unset, .unset, .unset, .unset, .unset, .unset, .unset] []))
  refine own_go (fun _ k => XS.iloadN X0.here hx rfl (hb hby at_0) rfl k) ?_
  show own_Go p.tables e below _ (s₁.setTop (mkF m 1 #[.val (.int p0), .val (.int p1), .val (.int p2), .val (.int p3), .unset, .unset, .unset, .unset, .unset, .unset, .unset] [(.int p0)]))
  refine own_go (fun _ k => X0.ldcInt hx hown (mvT hZ (hw _ (List.mem_of_getElem? (i := 0) rfl))) (g := (mkF m 1 #[.val (.int p0), .val (.int p1), .val (.int p2), .val (.int p3), .unset, .unset, .unset, .unset, .unset, .unset, .unset] [(.int p0)])) rfl (hb hby at_1) _ k) ?_
  show own_Go p.tables e below _ (s₁.setTop (mkF m 3 #[.val (.int p0), .val (.int p1), .val (.int p2), .val (.int p3), .unset, .unset, .unset, .unset, .unset, .unset, .unset] [(.int (65535 : Int32)), (.int p0)]))
  refine own_go (fun _ k => XS.iand X0.here hx rfl (hb hby at_3) rfl k) ?_
  show own_Go p.tables e below _ (s₁.setTop (mkF m 4 #[.val (.int p0), .val (.int p1), .val (.int p2), .val (.int p3), .unset, .unset, .unset, .unset, .unset, .unset, .unset] [(.int (p0 &&& (65535 : Int32)))]))
  refine own_go (fun _ k => XS.istore X0.here hx rfl (hb hby at_4) rfl (l' := #[.val (.int p0), .val (.int p1), .val (.int p2), .val (.int p3), .val (.int (p0 &&& (65535 : Int32))), .unset, .unset, .unset, .unset, .unset, .unset]) rfl k) ?_
  show own_Go p.tables e below _ (s₁.setTop (mkF m 6 #[.val (.int p0), .val (.int p1), .val (.int p2), .val (.int p3), .val (.int (p0 &&& (65535 : Int32))), .unset, .unset, .unset, .unset, .unset, .unset] []))
  obtain ⟨vp, hvp⟩ : ∃ z : Int32, z = (p0 &&& (65535 : Int32)) := ⟨_, rfl⟩
  rw [← hvp]
  show own_Go p.tables e below _ (s₁.setTop (mkF m 6 #[.val (.int p0), .val (.int p1), .val (.int p2), .val (.int p3), .val (.int vp), .unset, .unset, .unset, .unset, .unset, .unset] []))
  refine own_go (fun _ k => XS.iloadN X0.here hx rfl (hb hby at_6) rfl k) ?_
  show own_Go p.tables e below _ (s₁.setTop (mkF m 7 #[.val (.int p0), .val (.int p1), .val (.int p2), .val (.int p3), .val (.int vp), .unset, .unset, .unset, .unset, .unset, .unset] [(.int p1)]))
  refine own_go (fun _ k => XS.sipush X0.here hx rfl (hb hby at_7) k) ?_
  show own_Go p.tables e below _ (s₁.setTop (mkF m 10 #[.val (.int p0), .val (.int p1), .val (.int p2), .val (.int p3), .val (.int vp), .unset, .unset, .unset, .unset, .unset, .unset] [(.int (255 : Int32)), (.int p1)]))
  refine own_go (fun _ k => XS.iand X0.here hx rfl (hb hby at_10) rfl k) ?_
  show own_Go p.tables e below _ (s₁.setTop (mkF m 11 #[.val (.int p0), .val (.int p1), .val (.int p2), .val (.int p3), .val (.int vp), .unset, .unset, .unset, .unset, .unset, .unset] [(.int (p1 &&& (255 : Int32)))]))
  refine own_go (fun _ k => XS.istore X0.here hx rfl (hb hby at_11) rfl (l' := #[.val (.int p0), .val (.int p1), .val (.int p2), .val (.int p3), .val (.int vp), .val (.int (p1 &&& (255 : Int32))), .unset, .unset, .unset, .unset, .unset]) rfl k) ?_
  show own_Go p.tables e below _ (s₁.setTop (mkF m 13 #[.val (.int p0), .val (.int p1), .val (.int p2), .val (.int p3), .val (.int vp), .val (.int (p1 &&& (255 : Int32))), .unset, .unset, .unset, .unset, .unset] []))
  obtain ⟨vr, hvr⟩ : ∃ z : Int32, z = (p1 &&& (255 : Int32)) := ⟨_, rfl⟩
  rw [← hvr]
  show own_Go p.tables e below _ (s₁.setTop (mkF m 13 #[.val (.int p0), .val (.int p1), .val (.int p2), .val (.int p3), .val (.int vp), .val (.int vr), .unset, .unset, .unset, .unset, .unset] []))
  refine own_go (fun _ k => XS.iloadN X0.here hx rfl (hb hby at_13) rfl k) ?_
  show own_Go p.tables e below _ (s₁.setTop (mkF m 14 #[.val (.int p0), .val (.int p1), .val (.int p2), .val (.int p3), .val (.int vp), .val (.int vr), .unset, .unset, .unset, .unset, .unset] [(.int p2)]))
  refine own_go (fun _ k => XS.sipush X0.here hx rfl (hb hby at_14) k) ?_
  show own_Go p.tables e below _ (s₁.setTop (mkF m 17 #[.val (.int p0), .val (.int p1), .val (.int p2), .val (.int p3), .val (.int vp), .val (.int vr), .unset, .unset, .unset, .unset, .unset] [(.int (255 : Int32)), (.int p2)]))
  refine own_go (fun _ k => XS.iand X0.here hx rfl (hb hby at_17) rfl k) ?_
  show own_Go p.tables e below _ (s₁.setTop (mkF m 18 #[.val (.int p0), .val (.int p1), .val (.int p2), .val (.int p3), .val (.int vp), .val (.int vr), .unset, .unset, .unset, .unset, .unset] [(.int (p2 &&& (255 : Int32)))]))
  refine own_go (fun _ k => XS.istore X0.here hx rfl (hb hby at_18) rfl (l' := #[.val (.int p0), .val (.int p1), .val (.int p2), .val (.int p3), .val (.int vp), .val (.int vr), .val (.int (p2 &&& (255 : Int32))), .unset, .unset, .unset, .unset]) rfl k) ?_
  show own_Go p.tables e below _ (s₁.setTop (mkF m 20 #[.val (.int p0), .val (.int p1), .val (.int p2), .val (.int p3), .val (.int vp), .val (.int vr), .val (.int (p2 &&& (255 : Int32))), .unset, .unset, .unset, .unset] []))
  obtain ⟨vv, hvv⟩ : ∃ z : Int32, z = (p2 &&& (255 : Int32)) := ⟨_, rfl⟩
  rw [← hvv]
  show own_Go p.tables e below _ (s₁.setTop (mkF m 20 #[.val (.int p0), .val (.int p1), .val (.int p2), .val (.int p3), .val (.int vp), .val (.int vr), .val (.int vv), .unset, .unset, .unset, .unset] []))
  refine own_go (fun _ k => XS.iloadN X0.here hx rfl (hb hby at_20) rfl k) ?_
  show own_Go p.tables e below _ (s₁.setTop (mkF m 21 #[.val (.int p0), .val (.int p1), .val (.int p2), .val (.int p3), .val (.int vp), .val (.int vr), .val (.int vv), .unset, .unset, .unset, .unset] [(.int p3)]))
  refine own_go (fun _ k => XS.iconst X0.here hx rfl (hb hby at_21) k) ?_
  show own_Go p.tables e below _ (s₁.setTop (mkF m 22 #[.val (.int p0), .val (.int p1), .val (.int p2), .val (.int p3), .val (.int vp), .val (.int vr), .val (.int vv), .unset, .unset, .unset, .unset] [(.int (1 : Int32)), (.int p3)]))
  refine own_go (fun _ k => XS.iand X0.here hx rfl (hb hby at_22) rfl k) ?_
  show own_Go p.tables e below _ (s₁.setTop (mkF m 23 #[.val (.int p0), .val (.int p1), .val (.int p2), .val (.int p3), .val (.int vp), .val (.int vr), .val (.int vv), .unset, .unset, .unset, .unset] [(.int (p3 &&& (1 : Int32)))]))
  have sg1 : ∀ t, Steps p.tables e below (s₁.setTop (mkF m 31 #[.val (.int p0), .val (.int p1), .val (.int p2), .val (.int p3), .val (.int vp), .val (.int vr), .val (.int vv), .unset, .unset, .unset, .unset] [(.int (if (p3 &&& (1 : Int32)) = (0 : Int32) then (0 : Int32) else (1 : Int32)))])) t → Steps p.tables e below (s₁.setTop (mkF m 23 #[.val (.int p0), .val (.int p1), .val (.int p2), .val (.int p3), .val (.int vp), .val (.int vr), .val (.int vv), .unset, .unset, .unset, .unset] [(.int (p3 &&& (1 : Int32)))])) t := by
    intro t k
    by_cases hc23 : (p3 &&& (1 : Int32)) = (0 : Int32)
    · try simp only [if_pos hc23] at k
      refine XS.ifYes X0.here hx rfl (pc0 := 23) (pc' := 30) rfl (hb hby at_23) rfl ((if0 _ _).trans (teq hc23).1) (by decide) (by decide) ?_
      show Steps p.tables e below (s₁.setTop (mkF m 30 #[.val (.int p0), .val (.int p1), .val (.int p2), .val (.int p3), .val (.int vp), .val (.int vr), .val (.int vv), .unset, .unset, .unset, .unset] [])) _
      refine XS.iconst X0.here hx rfl (hb hby at_30) ?_
      show Steps p.tables e below (s₁.setTop (mkF m 31 #[.val (.int p0), .val (.int p1), .val (.int p2), .val (.int p3), .val (.int vp), .val (.int vr), .val (.int vv), .unset, .unset, .unset, .unset] [(.int (0 : Int32))])) _
      exact k
    · try simp only [if_neg hc23] at k
      refine XS.ifNo X0.here hx rfl (hb hby at_23) rfl ((if0 _ _).trans (feq hc23).1) ?_
      show Steps p.tables e below (s₁.setTop (mkF m 26 #[.val (.int p0), .val (.int p1), .val (.int p2), .val (.int p3), .val (.int vp), .val (.int vr), .val (.int vv), .unset, .unset, .unset, .unset] [])) _
      refine XS.iconst X0.here hx rfl (hb hby at_26) ?_
      show Steps p.tables e below (s₁.setTop (mkF m 27 #[.val (.int p0), .val (.int p1), .val (.int p2), .val (.int p3), .val (.int vp), .val (.int vr), .val (.int vv), .unset, .unset, .unset, .unset] [(.int (1 : Int32))])) _
      refine XS.goto X0.here hx rfl (pc0 := 27) (pc' := 31) rfl (hb hby at_27) (by decide) (by decide) ?_
      show Steps p.tables e below (s₁.setTop (mkF m 31 #[.val (.int p0), .val (.int p1), .val (.int p2), .val (.int p3), .val (.int vp), .val (.int vr), .val (.int vv), .unset, .unset, .unset, .unset] [(.int (1 : Int32))])) _
      exact k
  refine own_go sg1 ?_
  show own_Go p.tables e below _ (s₁.setTop (mkF m 31 #[.val (.int p0), .val (.int p1), .val (.int p2), .val (.int p3), .val (.int vp), .val (.int vr), .val (.int vv), .unset, .unset, .unset, .unset] [(.int (if (p3 &&& (1 : Int32)) = (0 : Int32) then (0 : Int32) else (1 : Int32)))]))
  refine own_go (fun _ k => XS.istore X0.here hx rfl (hb hby at_31) rfl (l' := #[.val (.int p0), .val (.int p1), .val (.int p2), .val (.int p3), .val (.int vp), .val (.int vr), .val (.int vv), .val (.int (if (p3 &&& (1 : Int32)) = (0 : Int32) then (0 : Int32) else (1 : Int32))), .unset, .unset, .unset]) rfl k) ?_
  show own_Go p.tables e below _ (s₁.setTop (mkF m 33 #[.val (.int p0), .val (.int p1), .val (.int p2), .val (.int p3), .val (.int vp), .val (.int vr), .val (.int vv), .val (.int (if (p3 &&& (1 : Int32)) = (0 : Int32) then (0 : Int32) else (1 : Int32))), .unset, .unset, .unset] []))
  obtain ⟨vd, hvd⟩ : ∃ z : Int32, z = (if (p3 &&& (1 : Int32)) = (0 : Int32) then (0 : Int32) else (1 : Int32)) := ⟨_, rfl⟩
  rw [← hvd]
  show own_Go p.tables e below _ (s₁.setTop (mkF m 33 #[.val (.int p0), .val (.int p1), .val (.int p2), .val (.int p3), .val (.int vp), .val (.int vr), .val (.int vv), .val (.int vd), .unset, .unset, .unset] []))
  obtain ⟨T2, h2, X2, e2, E2, A2, D2, -, st2⟩ := newO X0 hx hZ hown (hw _ (List.mem_of_getElem? (i := 1) rfl)) (hw _ (List.mem_of_getElem? (i := 2) rfl)) (hw _ (List.mem_of_getElem? (i := 3) rfl)) e0 (g := (mkF m 33 #[.val (.int p0), .val (.int p1), .val (.int p2), .val (.int p3), .val (.int vp), .val (.int vr), .val (.int vv), .val (.int vd), .unset, .unset, .unset] [])) rfl (hb hby at_33) (by decide) (by decide)
  obtain ⟨b2, g2⟩ : ∃ z, z = h0.size := ⟨_, rfl⟩
  rw [← g2] at A2 D2 st2
  have g_b2 : n0 ≤ b2 := Nat.le_trans Z0 (Nat.le_of_eq g2.symm)
  have Z2 : n0 ≤ h2.size := Nat.le_trans Z0 E2.1
  have hk := Nat.le_trans hk E2.1
  have F2_34 : Fld Z h2 b2 "com/example/dialplane/dialplane/io/Edns" "udpPayloadSize" "I" (.int (0 : Int32)) := D2 (Or.inr (hw _ (List.mem_of_getElem? (i := 34) rfl))) (ty := .int) (by decide)
  have F2_36 : Fld Z h2 b2 "com/example/dialplane/dialplane/io/Edns" "extendedRcode" "I" (.int (0 : Int32)) := D2 (Or.inr (hw _ (List.mem_of_getElem? (i := 36) rfl))) (ty := .int) (by decide)
  have F2_38 : Fld Z h2 b2 "com/example/dialplane/dialplane/io/Edns" "version" "I" (.int (0 : Int32)) := D2 (Or.inr (hw _ (List.mem_of_getElem? (i := 38) rfl))) (ty := .int) (by decide)
  have F2_40 : Fld Z h2 b2 "com/example/dialplane/dialplane/io/Edns" "dnssecOk" "Z" (.int (0 : Int32)) := D2 (Or.inr (hw _ (List.mem_of_getElem? (i := 40) rfl))) (ty := .boolean) (by decide)
  refine own_go st2 ?_
  show own_Go p.tables e below _ (T2.setTop (mkF m 36 #[.val (.int p0), .val (.int p1), .val (.int p2), .val (.int p3), .val (.int vp), .val (.int vr), .val (.int vv), .val (.int vd), .unset, .unset, .unset] [(.ref b2)]))
  refine own_go (fun _ k => XS.dup X2.here hx rfl (hb hby at_36) rfl rfl k) ?_
  show own_Go p.tables e below _ (T2.setTop (mkF m 37 #[.val (.int p0), .val (.int p1), .val (.int p2), .val (.int p3), .val (.int vp), .val (.int vr), .val (.int vv), .val (.int vd), .unset, .unset, .unset] [(.ref b2), (.ref b2)]))
  refine own_go (fun _ k => XS.iload X2.here hx rfl (hb hby at_37) rfl k) ?_
  show own_Go p.tables e below _ (T2.setTop (mkF m 39 #[.val (.int p0), .val (.int p1), .val (.int p2), .val (.int p3), .val (.int vp), .val (.int vr), .val (.int vv), .val (.int vd), .unset, .unset, .unset] [(.int vp), (.ref b2), (.ref b2)]))
  refine own_go (fun _ k => XS.iload X2.here hx rfl (hb hby at_39) rfl k) ?_
  show own_Go p.tables e below _ (T2.setTop (mkF m 41 #[.val (.int p0), .val (.int p1), .val (.int p2), .val (.int p3), .val (.int vp), .val (.int vr), .val (.int vv), .val (.int vd), .unset, .unset, .unset] [(.int vr), (.int vp), (.ref b2), (.ref b2)]))
  refine own_go (fun _ k => XS.iload X2.here hx rfl (hb hby at_41) rfl k) ?_
  show own_Go p.tables e below _ (T2.setTop (mkF m 43 #[.val (.int p0), .val (.int p1), .val (.int p2), .val (.int p3), .val (.int vp), .val (.int vr), .val (.int vv), .val (.int vd), .unset, .unset, .unset] [(.int vv), (.int vr), (.int vp), (.ref b2), (.ref b2)]))
  refine own_go (fun _ k => XS.iload X2.here hx rfl (hb hby at_43) rfl k) ?_
  show own_Go p.tables e below _ (T2.setTop (mkF m 45 #[.val (.int p0), .val (.int p1), .val (.int p2), .val (.int p3), .val (.int vp), .val (.int vr), .val (.int vv), .val (.int vd), .unset, .unset, .unset] [(.int vd), (.int vv), (.int vr), (.int vp), (.ref b2), (.ref b2)]))
  obtain ⟨_, _, ⟨T3, L3, k3, n3⟩, -, X3, hS3, hg3, ⟨Lc3, hQ3, l3, y3, z3⟩, st3⟩ := X2.specialBackS hx (y := (⟨"com/example/dialplane/dialplane/io/Edns", "<init>", "(IIIZ)V"⟩ : MethodName)) rfl hown (mvT hZ (hw _ (List.mem_of_getElem? (i := 4) rfl))) (mvT hZ (hw _ (List.mem_of_getElem? (i := 5) rfl))) (mvT hZ (hw _ (List.mem_of_getElem? (i := 6) rfl))) (by decide) (backOfS (W := 1) (rm4 l Z az hw [] b2 vp vr vv vd h2 n0 Z2 F2_34 F2_36 F2_38 F2_40 A2 g_b2 (own_m16 hvp).1 (own_m16 hvp).2 (own_m8 hvr).1 (own_m8 hvr).2 (own_m8 hvv).1 (own_m8 hvv).2) hZ (hw _ (List.mem_of_getElem? (i := 6) rfl)) (hw _ (List.mem_of_getElem? (i := 3) rfl)) (by decide) (by decide)) (g := (mkF m 45 #[.val (.int p0), .val (.int p1), .val (.int p2), .val (.int p3), .val (.int vp), .val (.int vr), .val (.int vv), .val (.int vd), .unset, .unset, .unset] [(.int vd), (.int vv), (.int vr), (.int vp), (.ref b2), (.ref b2)])) rfl (by rw [hml]; rfl) (Steps.refl _) (a := b2) (argsL := [(.int vp), (.int vr), (.int vv), (.int vd)]) (rest := [(.ref b2)]) (lenOf pd0_0 rfl) rfl (by show 2 * 0 + _ ≤ _; exact Nat.le_of_eq rfl) (hb hby at_45) (fun _ _ => ⟨rfl, e2, (by decide : 1 + 6 ≤ _), (by decide : 4 + 180 ≤ _)⟩)
  dsimp only [Pt.U, Pt.locs, Pt.cells, Pt.slots] at X3 hS3 hg3 l3 y3 z3 st3 hQ3
  subst l3 y3 z3
  obtain ⟨X3, hS, hZ, hown⟩ := rebS hS (by rw [e2]; exact hk) X3 hS3 hg3 hZ hown
  refine own_go (fun _ k => st3.trans k) ?_
  obtain ⟨rfl, N3q, K3, E3_, F3_0, F3_1, F3_2, F3_3⟩ := hQ3
  have N3 := Fr.app N0 N3q
  have Z3 : n0 ≤ T3.heap.size := Nat.le_trans Z2 K3.1
  have hk := Nat.le_refl T3.heap.size
  show own_Go p.tables e below _ (T3.setTop (mkF m 48 #[.val (.int p0), .val (.int p1), .val (.int p2), .val (.int p3), .val (.int vp), .val (.int vr), .val (.int vv), .val (.int vd), .unset, .unset, .unset] [(.ref b2)]))
  refine own_go (fun _ k => XS.astore X3.here hx rfl (hb hby at_48) rfl rfl (l' := #[.val (.int p0), .val (.int p1), .val (.int p2), .val (.int p3), .val (.int vp), .val (.int vr), .val (.int vv), .val (.int vd), .val (.ref b2), .unset, .unset]) rfl k) ?_
  show own_Go p.tables e below _ (T3.setTop (mkF m 50 #[.val (.int p0), .val (.int p1), .val (.int p2), .val (.int p3), .val (.int vp), .val (.int vr), .val (.int vv), .val (.int vd), .val (.ref b2), .unset, .unset] []))
  refine own_go (fun _ k => XS.aload X3.here hx rfl (hb hby at_50) rfl rfl k) ?_
  show own_Go p.tables e below _ (T3.setTop (mkF m 52 #[.val (.int p0), .val (.int p1), .val (.int p2), .val (.int p3), .val (.int vp), .val (.int vr), .val (.int vv), .val (.int vd), .val (.ref b2), .unset, .unset] [(.ref b2)]))
  obtain ⟨cq4, kq4, q4a, q4b, q4c⟩ := isOf hZ rfl E3_
  obtain ⟨_, _, ⟨T4, L4, k4, n4⟩, -, X4, ⟨Lc4, hQ4, l4, y4, z4⟩, st4⟩ := X3.virtualBack hx (y := (⟨"com/example/dialplane/dialplane/io/Edns", "ttlField", "()J"⟩ : MethodName)) (z := (⟨"com/example/dialplane/dialplane/io/Edns", "ttlField", "()J"⟩ : MethodName)) hown (mvT hZ (hw _ (List.mem_of_getElem? (i := 41) rfl))) (mvT hZ (hw _ (List.mem_of_getElem? (i := 42) rfl))) (notFace_of_selects (args := #[]) (mvT hZ (hw _ (List.mem_of_getElem? (i := 44) rfl)))) (mvT hZ (hw _ (List.mem_of_getElem? (i := 44) rfl))) (mvT hZ (hw _ (List.mem_of_getElem? (i := 43) rfl))) (by decide) (backOf (W := 0) (rm5 l Z az hw [] b2 vr vv (nar .boolean vd) T3.heap n0 Z3 F3_1 F3_2 F3_3) hZ (hw _ (List.mem_of_getElem? (i := 45) rfl)) (hw _ (List.mem_of_getElem? (i := 3) rfl)) (by decide) (by decide)) q4a q4c (g := (mkF m 52 #[.val (.int p0), .val (.int p1), .val (.int p2), .val (.int p3), .val (.int vp), .val (.int vr), .val (.int vv), .val (.int vd), .val (.ref b2), .unset, .unset] [(.ref b2)])) rfl (by rw [hml]; rfl) (Steps.refl _) (argsL := []) (rest := []) (lenOf pd0_1 rfl) rfl (by show 2 * 0 + _ ≤ _; exact Nat.le_of_eq rfl) (hb hby at_52) (fun _ _ => ⟨rfl, rfl, (by decide : 7 + 0 ≤ _), (by decide : 184 + 0 ≤ _)⟩)
  dsimp only [Pt.U, Pt.locs, Pt.cells, Pt.slots] at X4 l4 y4 z4 st4 hQ4
  subst l4 y4 z4
  refine own_go (fun _ k => st4.trans k) ?_
  obtain ⟨rfl, N4q, e4⟩ := hQ4
  have N4 := Fr.app N3 N4q
  show own_Go p.tables e below _ (T4.setTop (mkF m 55 #[.val (.int p0), .val (.int p1), .val (.int p2), .val (.int p3), .val (.int vp), .val (.int vr), .val (.int vv), .val (.int vd), .val (.ref b2), .unset, .unset] [(.long (own_f5 vr vv (nar .boolean vd)))]))
  refine own_go (fun _ k => XS.lstore X4.here hx rfl (hb hby at_55) rfl (l' := #[.val (.int p0), .val (.int p1), .val (.int p2), .val (.int p3), .val (.int vp), .val (.int vr), .val (.int vv), .val (.int vd), .val (.ref b2), .val (.long (own_f5 vr vv (nar .boolean vd))), .second]) rfl k) ?_
  show own_Go p.tables e below _ (T4.setTop (mkF m 57 #[.val (.int p0), .val (.int p1), .val (.int p2), .val (.int p3), .val (.int vp), .val (.int vr), .val (.int vv), .val (.int vd), .val (.ref b2), .val (.long (own_f5 vr vv (nar .boolean vd))), .second] []))
  obtain ⟨vt, hvt⟩ : ∃ z : Int64, z = (own_f5 vr vv (nar .boolean vd)) := ⟨_, rfl⟩
  rw [← hvt]
  show own_Go p.tables e below _ (T4.setTop (mkF m 57 #[.val (.int p0), .val (.int p1), .val (.int p2), .val (.int p3), .val (.int vp), .val (.int vr), .val (.int vv), .val (.int vd), .val (.ref b2), .val (.long vt), .second] []))
  obtain ⟨vk, hvk1, hvk2⟩ := own_d hvd
  have OV := own_val (own_r8 hvr) (own_r8 hvv) hvk1 hvk2 hvt
  refine own_go (fun _ k => XS.lload X4.here hx rfl (hb hby at_57) rfl k) ?_
  show own_Go p.tables e below _ (T4.setTop (mkF m 59 #[.val (.int p0), .val (.int p1), .val (.int p2), .val (.int p3), .val (.int vp), .val (.int vr), .val (.int vv), .val (.int vd), .val (.ref b2), .val (.long vt), .second] [(.long vt)]))
  refine own_go (fun _ k => XS.lconst X4.here hx rfl (hb hby at_59) k) ?_
  show own_Go p.tables e below _ (T4.setTop (mkF m 60 #[.val (.int p0), .val (.int p1), .val (.int p2), .val (.int p3), .val (.int vp), .val (.int vr), .val (.int vv), .val (.int vd), .val (.ref b2), .val (.long vt), .second] [(.long (0 : Int64)), (.long vt)]))
  refine own_go (fun _ k => XS.lcmp X4.here hx rfl (hb hby at_60) rfl k) ?_
  show own_Go p.tables e below _ (T4.setTop (mkF m 61 #[.val (.int p0), .val (.int p1), .val (.int p2), .val (.int p3), .val (.int vp), .val (.int vr), .val (.int vv), .val (.int vd), .val (.ref b2), .val (.long vt), .second] [(.int (lcmpW vt (0 : Int64)))]))
  have hf61 : ¬ (vt < (0 : Int64)) := OV.1
  refine own_go (fun _ k => XS.ifNo X4.here hx rfl (hb hby at_61) rfl ((if0 _ _).trans (flt (mt (lw_lt vt (0 : Int64)).mp hf61)).1) k) ?_
  show own_Go p.tables e below _ (T4.setTop (mkF m 64 #[.val (.int p0), .val (.int p1), .val (.int p2), .val (.int p3), .val (.int vp), .val (.int vr), .val (.int vv), .val (.int vd), .val (.ref b2), .val (.long vt), .second] []))
  refine own_go (fun _ k => XS.lload X4.here hx rfl (hb hby at_64) rfl k) ?_
  show own_Go p.tables e below _ (T4.setTop (mkF m 66 #[.val (.int p0), .val (.int p1), .val (.int p2), .val (.int p3), .val (.int vp), .val (.int vr), .val (.int vv), .val (.int vd), .val (.ref b2), .val (.long vt), .second] [(.long vt)]))
  refine own_go (fun _ k => X4.ldc2Long hx hown (mvT hZ (hw _ (List.mem_of_getElem? (i := 47) rfl))) (g := (mkF m 66 #[.val (.int p0), .val (.int p1), .val (.int p2), .val (.int p3), .val (.int vp), .val (.int vr), .val (.int vv), .val (.int vd), .val (.ref b2), .val (.long vt), .second] [(.long vt)])) rfl (hb hby at_66) _ k) ?_
  show own_Go p.tables e below _ (T4.setTop (mkF m 69 #[.val (.int p0), .val (.int p1), .val (.int p2), .val (.int p3), .val (.int vp), .val (.int vr), .val (.int vv), .val (.int vd), .val (.ref b2), .val (.long vt), .second] [(.long (4294967295 : Int64)), (.long vt)]))
  refine own_go (fun _ k => XS.lcmp X4.here hx rfl (hb hby at_69) rfl k) ?_
  show own_Go p.tables e below _ (T4.setTop (mkF m 70 #[.val (.int p0), .val (.int p1), .val (.int p2), .val (.int p3), .val (.int vp), .val (.int vr), .val (.int vv), .val (.int vd), .val (.ref b2), .val (.long vt), .second] [(.int (lcmpW vt (4294967295 : Int64)))]))
  have hf70 : ¬ ((4294967295 : Int64) < vt) := OV.2.1
  refine own_go (fun _ k => XS.ifNo X4.here hx rfl (hb hby at_70) rfl ((if0 _ _).trans (flt (mt (lw_gt vt (4294967295 : Int64)).mp hf70)).2.2.1) k) ?_
  show own_Go p.tables e below _ (T4.setTop (mkF m 73 #[.val (.int p0), .val (.int p1), .val (.int p2), .val (.int p3), .val (.int vp), .val (.int vr), .val (.int vv), .val (.int vd), .val (.ref b2), .val (.long vt), .second] []))
  refine own_go (fun _ k => XS.lload X4.here hx rfl (hb hby at_73) rfl k) ?_
  show own_Go p.tables e below _ (T4.setTop (mkF m 75 #[.val (.int p0), .val (.int p1), .val (.int p2), .val (.int p3), .val (.int vp), .val (.int vr), .val (.int vv), .val (.int vd), .val (.ref b2), .val (.long vt), .second] [(.long vt)]))
  refine own_go (fun _ k => XS.bipush X4.here hx rfl (hb hby at_75) k) ?_
  show own_Go p.tables e below _ (T4.setTop (mkF m 77 #[.val (.int p0), .val (.int p1), .val (.int p2), .val (.int p3), .val (.int vp), .val (.int vr), .val (.int vv), .val (.int vd), .val (.ref b2), .val (.long vt), .second] [(.int (24 : Int32)), (.long vt)]))
  refine own_go (fun _ k => XS.lushr X4.here hx rfl (hb hby at_77) rfl k) ?_
  show own_Go p.tables e below _ (T4.setTop (mkF m 78 #[.val (.int p0), .val (.int p1), .val (.int p2), .val (.int p3), .val (.int vp), .val (.int vr), .val (.int vv), .val (.int vd), .val (.ref b2), .val (.long vt), .second] [(.long ((vt.toUInt64 >>> ((24 : Int32) &&& 0x3f).toInt64.toUInt64).toInt64))]))
  refine own_go (fun _ k => XS.iload X4.here hx rfl (hb hby at_78) rfl k) ?_
  show own_Go p.tables e below _ (T4.setTop (mkF m 80 #[.val (.int p0), .val (.int p1), .val (.int p2), .val (.int p3), .val (.int vp), .val (.int vr), .val (.int vv), .val (.int vd), .val (.ref b2), .val (.long vt), .second] [(.int vr), (.long ((vt.toUInt64 >>> ((24 : Int32) &&& 0x3f).toInt64.toUInt64).toInt64))]))
  refine own_go (fun _ k => XS.i2l X4.here hx rfl (hb hby at_80) rfl k) ?_
  show own_Go p.tables e below _ (T4.setTop (mkF m 81 #[.val (.int p0), .val (.int p1), .val (.int p2), .val (.int p3), .val (.int vp), .val (.int vr), .val (.int vv), .val (.int vd), .val (.ref b2), .val (.long vt), .second] [(.long (vr.toInt64)), (.long ((vt.toUInt64 >>> ((24 : Int32) &&& 0x3f).toInt64.toUInt64).toInt64))]))
  refine own_go (fun _ k => XS.lcmp X4.here hx rfl (hb hby at_81) rfl k) ?_
  show own_Go p.tables e below _ (T4.setTop (mkF m 82 #[.val (.int p0), .val (.int p1), .val (.int p2), .val (.int p3), .val (.int vp), .val (.int vr), .val (.int vv), .val (.int vd), .val (.ref b2), .val (.long vt), .second] [(.int (lcmpW ((vt.toUInt64 >>> ((24 : Int32) &&& 0x3f).toInt64.toUInt64).toInt64) (vr.toInt64)))]))
  have hf82 : ((vt.toUInt64 >>> ((24 : Int32) &&& 0x3f).toInt64.toUInt64).toInt64) = (vr.toInt64) := OV.2.2.1
  refine own_go (fun _ k => XS.ifNo X4.here hx rfl (hb hby at_82) rfl ((if0 _ _).trans (teq ((lw_eq ((vt.toUInt64 >>> ((24 : Int32) &&& 0x3f).toInt64.toUInt64).toInt64) (vr.toInt64)).mpr hf82)).2) k) ?_
  show own_Go p.tables e below _ (T4.setTop (mkF m 85 #[.val (.int p0), .val (.int p1), .val (.int p2), .val (.int p3), .val (.int vp), .val (.int vr), .val (.int vv), .val (.int vd), .val (.ref b2), .val (.long vt), .second] []))
  refine own_go (fun _ k => XS.lload X4.here hx rfl (hb hby at_85) rfl k) ?_
  show own_Go p.tables e below _ (T4.setTop (mkF m 87 #[.val (.int p0), .val (.int p1), .val (.int p2), .val (.int p3), .val (.int vp), .val (.int vr), .val (.int vv), .val (.int vd), .val (.ref b2), .val (.long vt), .second] [(.long vt)]))
  refine own_go (fun _ k => XS.bipush X4.here hx rfl (hb hby at_87) k) ?_
  show own_Go p.tables e below _ (T4.setTop (mkF m 89 #[.val (.int p0), .val (.int p1), .val (.int p2), .val (.int p3), .val (.int vp), .val (.int vr), .val (.int vv), .val (.int vd), .val (.ref b2), .val (.long vt), .second] [(.int (16 : Int32)), (.long vt)]))
  refine own_go (fun _ k => XS.lushr X4.here hx rfl (hb hby at_89) rfl k) ?_
  show own_Go p.tables e below _ (T4.setTop (mkF m 90 #[.val (.int p0), .val (.int p1), .val (.int p2), .val (.int p3), .val (.int vp), .val (.int vr), .val (.int vv), .val (.int vd), .val (.ref b2), .val (.long vt), .second] [(.long ((vt.toUInt64 >>> ((16 : Int32) &&& 0x3f).toInt64.toUInt64).toInt64))]))
  refine own_go (fun _ k => X4.ldc2Long hx hown (mvT hZ (hw _ (List.mem_of_getElem? (i := 48) rfl))) (g := (mkF m 90 #[.val (.int p0), .val (.int p1), .val (.int p2), .val (.int p3), .val (.int vp), .val (.int vr), .val (.int vv), .val (.int vd), .val (.ref b2), .val (.long vt), .second] [(.long ((vt.toUInt64 >>> ((16 : Int32) &&& 0x3f).toInt64.toUInt64).toInt64))])) rfl (hb hby at_90) _ k) ?_
  show own_Go p.tables e below _ (T4.setTop (mkF m 93 #[.val (.int p0), .val (.int p1), .val (.int p2), .val (.int p3), .val (.int vp), .val (.int vr), .val (.int vv), .val (.int vd), .val (.ref b2), .val (.long vt), .second] [(.long (255 : Int64)), (.long ((vt.toUInt64 >>> ((16 : Int32) &&& 0x3f).toInt64.toUInt64).toInt64))]))
  refine own_go (fun _ k => XS.land X4.here hx rfl (hb hby at_93) rfl k) ?_
  show own_Go p.tables e below _ (T4.setTop (mkF m 94 #[.val (.int p0), .val (.int p1), .val (.int p2), .val (.int p3), .val (.int vp), .val (.int vr), .val (.int vv), .val (.int vd), .val (.ref b2), .val (.long vt), .second] [(.long (((vt.toUInt64 >>> ((16 : Int32) &&& 0x3f).toInt64.toUInt64).toInt64) &&& (255 : Int64)))]))
  refine own_go (fun _ k => XS.iload X4.here hx rfl (hb hby at_94) rfl k) ?_
  show own_Go p.tables e below _ (T4.setTop (mkF m 96 #[.val (.int p0), .val (.int p1), .val (.int p2), .val (.int p3), .val (.int vp), .val (.int vr), .val (.int vv), .val (.int vd), .val (.ref b2), .val (.long vt), .second] [(.int vv), (.long (((vt.toUInt64 >>> ((16 : Int32) &&& 0x3f).toInt64.toUInt64).toInt64) &&& (255 : Int64)))]))
  refine own_go (fun _ k => XS.i2l X4.here hx rfl (hb hby at_96) rfl k) ?_
  show own_Go p.tables e below _ (T4.setTop (mkF m 97 #[.val (.int p0), .val (.int p1), .val (.int p2), .val (.int p3), .val (.int vp), .val (.int vr), .val (.int vv), .val (.int vd), .val (.ref b2), .val (.long vt), .second] [(.long (vv.toInt64)), (.long (((vt.toUInt64 >>> ((16 : Int32) &&& 0x3f).toInt64.toUInt64).toInt64) &&& (255 : Int64)))]))
  refine own_go (fun _ k => XS.lcmp X4.here hx rfl (hb hby at_97) rfl k) ?_
  show own_Go p.tables e below _ (T4.setTop (mkF m 98 #[.val (.int p0), .val (.int p1), .val (.int p2), .val (.int p3), .val (.int vp), .val (.int vr), .val (.int vv), .val (.int vd), .val (.ref b2), .val (.long vt), .second] [(.int (lcmpW (((vt.toUInt64 >>> ((16 : Int32) &&& 0x3f).toInt64.toUInt64).toInt64) &&& (255 : Int64)) (vv.toInt64)))]))
  have hf98 : (((vt.toUInt64 >>> ((16 : Int32) &&& 0x3f).toInt64.toUInt64).toInt64) &&& (255 : Int64)) = (vv.toInt64) := OV.2.2.2.1
  refine own_go (fun _ k => XS.ifNo X4.here hx rfl (hb hby at_98) rfl ((if0 _ _).trans (teq ((lw_eq (((vt.toUInt64 >>> ((16 : Int32) &&& 0x3f).toInt64.toUInt64).toInt64) &&& (255 : Int64)) (vv.toInt64)).mpr hf98)).2) k) ?_
  show own_Go p.tables e below _ (T4.setTop (mkF m 101 #[.val (.int p0), .val (.int p1), .val (.int p2), .val (.int p3), .val (.int vp), .val (.int vr), .val (.int vv), .val (.int vd), .val (.ref b2), .val (.long vt), .second] []))
  refine own_go (fun _ k => XS.lload X4.here hx rfl (hb hby at_101) rfl k) ?_
  show own_Go p.tables e below _ (T4.setTop (mkF m 103 #[.val (.int p0), .val (.int p1), .val (.int p2), .val (.int p3), .val (.int vp), .val (.int vr), .val (.int vv), .val (.int vd), .val (.ref b2), .val (.long vt), .second] [(.long vt)]))
  refine own_go (fun _ k => X4.ldc2Long hx hown (mvT hZ (hw _ (List.mem_of_getElem? (i := 49) rfl))) (g := (mkF m 103 #[.val (.int p0), .val (.int p1), .val (.int p2), .val (.int p3), .val (.int vp), .val (.int vr), .val (.int vv), .val (.int vd), .val (.ref b2), .val (.long vt), .second] [(.long vt)])) rfl (hb hby at_103) _ k) ?_
  show own_Go p.tables e below _ (T4.setTop (mkF m 106 #[.val (.int p0), .val (.int p1), .val (.int p2), .val (.int p3), .val (.int vp), .val (.int vr), .val (.int vv), .val (.int vd), .val (.ref b2), .val (.long vt), .second] [(.long (32768 : Int64)), (.long vt)]))
  refine own_go (fun _ k => XS.land X4.here hx rfl (hb hby at_106) rfl k) ?_
  show own_Go p.tables e below _ (T4.setTop (mkF m 107 #[.val (.int p0), .val (.int p1), .val (.int p2), .val (.int p3), .val (.int vp), .val (.int vr), .val (.int vv), .val (.int vd), .val (.ref b2), .val (.long vt), .second] [(.long (vt &&& (32768 : Int64)))]))
  refine own_go (fun _ k => XS.lconst X4.here hx rfl (hb hby at_107) k) ?_
  show own_Go p.tables e below _ (T4.setTop (mkF m 108 #[.val (.int p0), .val (.int p1), .val (.int p2), .val (.int p3), .val (.int vp), .val (.int vr), .val (.int vv), .val (.int vd), .val (.ref b2), .val (.long vt), .second] [(.long (0 : Int64)), (.long (vt &&& (32768 : Int64)))]))
  refine own_go (fun _ k => XS.lcmp X4.here hx rfl (hb hby at_108) rfl k) ?_
  show own_Go p.tables e below _ (T4.setTop (mkF m 109 #[.val (.int p0), .val (.int p1), .val (.int p2), .val (.int p3), .val (.int vp), .val (.int vr), .val (.int vv), .val (.int vd), .val (.ref b2), .val (.long vt), .second] [(.int (lcmpW (vt &&& (32768 : Int64)) (0 : Int64)))]))
  have sg5 : ∀ t, Steps p.tables e below (T4.setTop (mkF m 117 #[.val (.int p0), .val (.int p1), .val (.int p2), .val (.int p3), .val (.int vp), .val (.int vr), .val (.int vv), .val (.int vd), .val (.ref b2), .val (.long vt), .second] [(.int (if (vt &&& (32768 : Int64)) = (0 : Int64) then (0 : Int32) else (1 : Int32)))])) t → Steps p.tables e below (T4.setTop (mkF m 109 #[.val (.int p0), .val (.int p1), .val (.int p2), .val (.int p3), .val (.int vp), .val (.int vr), .val (.int vv), .val (.int vd), .val (.ref b2), .val (.long vt), .second] [(.int (lcmpW (vt &&& (32768 : Int64)) (0 : Int64)))])) t := by
    intro t k
    by_cases hc109 : (vt &&& (32768 : Int64)) = (0 : Int64)
    · try simp only [if_pos hc109] at k
      refine XS.ifYes X4.here hx rfl (pc0 := 109) (pc' := 116) rfl (hb hby at_109) rfl ((if0 _ _).trans (teq ((lw_eq (vt &&& (32768 : Int64)) (0 : Int64)).mpr hc109)).1) (by decide) (by decide) ?_
      show Steps p.tables e below (T4.setTop (mkF m 116 #[.val (.int p0), .val (.int p1), .val (.int p2), .val (.int p3), .val (.int vp), .val (.int vr), .val (.int vv), .val (.int vd), .val (.ref b2), .val (.long vt), .second] [])) _
      refine XS.iconst X4.here hx rfl (hb hby at_116) ?_
      show Steps p.tables e below (T4.setTop (mkF m 117 #[.val (.int p0), .val (.int p1), .val (.int p2), .val (.int p3), .val (.int vp), .val (.int vr), .val (.int vv), .val (.int vd), .val (.ref b2), .val (.long vt), .second] [(.int (0 : Int32))])) _
      exact k
    · try simp only [if_neg hc109] at k
      refine XS.ifNo X4.here hx rfl (hb hby at_109) rfl ((if0 _ _).trans (feq (mt (lw_eq (vt &&& (32768 : Int64)) (0 : Int64)).mp hc109)).1) ?_
      show Steps p.tables e below (T4.setTop (mkF m 112 #[.val (.int p0), .val (.int p1), .val (.int p2), .val (.int p3), .val (.int vp), .val (.int vr), .val (.int vv), .val (.int vd), .val (.ref b2), .val (.long vt), .second] [])) _
      refine XS.iconst X4.here hx rfl (hb hby at_112) ?_
      show Steps p.tables e below (T4.setTop (mkF m 113 #[.val (.int p0), .val (.int p1), .val (.int p2), .val (.int p3), .val (.int vp), .val (.int vr), .val (.int vv), .val (.int vd), .val (.ref b2), .val (.long vt), .second] [(.int (1 : Int32))])) _
      refine XS.goto X4.here hx rfl (pc0 := 113) (pc' := 117) rfl (hb hby at_113) (by decide) (by decide) ?_
      show Steps p.tables e below (T4.setTop (mkF m 117 #[.val (.int p0), .val (.int p1), .val (.int p2), .val (.int p3), .val (.int vp), .val (.int vr), .val (.int vv), .val (.int vd), .val (.ref b2), .val (.long vt), .second] [(.int (1 : Int32))])) _
      exact k
  refine own_go sg5 ?_
  show own_Go p.tables e below _ (T4.setTop (mkF m 117 #[.val (.int p0), .val (.int p1), .val (.int p2), .val (.int p3), .val (.int vp), .val (.int vr), .val (.int vv), .val (.int vd), .val (.ref b2), .val (.long vt), .second] [(.int (if (vt &&& (32768 : Int64)) = (0 : Int64) then (0 : Int32) else (1 : Int32)))]))
  refine own_go (fun _ k => XS.iload X4.here hx rfl (hb hby at_117) rfl k) ?_
  show own_Go p.tables e below _ (T4.setTop (mkF m 119 #[.val (.int p0), .val (.int p1), .val (.int p2), .val (.int p3), .val (.int vp), .val (.int vr), .val (.int vv), .val (.int vd), .val (.ref b2), .val (.long vt), .second] [(.int vd), (.int (if (vt &&& (32768 : Int64)) = (0 : Int64) then (0 : Int32) else (1 : Int32)))]))
  have hf119 : (if (vt &&& (32768 : Int64)) = (0 : Int64) then (0 : Int32) else (1 : Int32)) = vd := OV.2.2.2.2.1
  refine own_go (fun _ k => XS.icmpNo X4.here hx rfl (hb hby at_119) rfl (teq hf119).2 k) ?_
  show own_Go p.tables e below _ (T4.setTop (mkF m 122 #[.val (.int p0), .val (.int p1), .val (.int p2), .val (.int p3), .val (.int vp), .val (.int vr), .val (.int vv), .val (.int vd), .val (.ref b2), .val (.long vt), .second] []))
  refine own_go (fun _ k => XS.lload X4.here hx rfl (hb hby at_122) rfl k) ?_
  show own_Go p.tables e below _ (T4.setTop (mkF m 124 #[.val (.int p0), .val (.int p1), .val (.int p2), .val (.int p3), .val (.int vp), .val (.int vr), .val (.int vv), .val (.int vd), .val (.ref b2), .val (.long vt), .second] [(.long vt)]))
  refine own_go (fun _ k => X4.ldc2Long hx hown (mvT hZ (hw _ (List.mem_of_getElem? (i := 50) rfl))) (g := (mkF m 124 #[.val (.int p0), .val (.int p1), .val (.int p2), .val (.int p3), .val (.int vp), .val (.int vr), .val (.int vv), .val (.int vd), .val (.ref b2), .val (.long vt), .second] [(.long vt)])) rfl (hb hby at_124) _ k) ?_
  show own_Go p.tables e below _ (T4.setTop (mkF m 127 #[.val (.int p0), .val (.int p1), .val (.int p2), .val (.int p3), .val (.int vp), .val (.int vr), .val (.int vv), .val (.int vd), .val (.ref b2), .val (.long vt), .second] [(.long (32767 : Int64)), (.long vt)]))
  refine own_go (fun _ k => XS.land X4.here hx rfl (hb hby at_127) rfl k) ?_
  show own_Go p.tables e below _ (T4.setTop (mkF m 128 #[.val (.int p0), .val (.int p1), .val (.int p2), .val (.int p3), .val (.int vp), .val (.int vr), .val (.int vv), .val (.int vd), .val (.ref b2), .val (.long vt), .second] [(.long (vt &&& (32767 : Int64)))]))
  refine own_go (fun _ k => XS.lconst X4.here hx rfl (hb hby at_128) k) ?_
  show own_Go p.tables e below _ (T4.setTop (mkF m 129 #[.val (.int p0), .val (.int p1), .val (.int p2), .val (.int p3), .val (.int vp), .val (.int vr), .val (.int vv), .val (.int vd), .val (.ref b2), .val (.long vt), .second] [(.long (0 : Int64)), (.long (vt &&& (32767 : Int64)))]))
  refine own_go (fun _ k => XS.lcmp X4.here hx rfl (hb hby at_129) rfl k) ?_
  show own_Go p.tables e below _ (T4.setTop (mkF m 130 #[.val (.int p0), .val (.int p1), .val (.int p2), .val (.int p3), .val (.int vp), .val (.int vr), .val (.int vv), .val (.int vd), .val (.ref b2), .val (.long vt), .second] [(.int (lcmpW (vt &&& (32767 : Int64)) (0 : Int64)))]))
  have hf130 : (vt &&& (32767 : Int64)) = (0 : Int64) := OV.2.2.2.2.2
  refine own_go (fun _ k => XS.ifNo X4.here hx rfl (hb hby at_130) rfl ((if0 _ _).trans (teq ((lw_eq (vt &&& (32767 : Int64)) (0 : Int64)).mpr hf130)).2) k) ?_
  show own_Go p.tables e below _ (T4.setTop (mkF m 133 #[.val (.int p0), .val (.int p1), .val (.int p2), .val (.int p3), .val (.int vp), .val (.int vr), .val (.int vv), .val (.int vd), .val (.ref b2), .val (.long vt), .second] []))
  refine own_go (fun _ k => XS.iconst X4.here hx rfl (hb hby at_133) k) ?_
  show own_Go p.tables e below _ (T4.setTop (mkF m 134 #[.val (.int p0), .val (.int p1), .val (.int p2), .val (.int p3), .val (.int vp), .val (.int vr), .val (.int vv), .val (.int vd), .val (.ref b2), .val (.long vt), .second] [(.int (1 : Int32))]))
  refine own_go (fun _ k => XS.goto X4.here hx rfl (pc0 := 134) (pc' := 138) rfl (hb hby at_134) (by decide) (by decide) k) ?_
  show own_Go p.tables e below _ (T4.setTop (mkF m 138 #[.val (.int p0), .val (.int p1), .val (.int p2), .val (.int p3), .val (.int vp), .val (.int vr), .val (.int vv), .val (.int vd), .val (.ref b2), .val (.long vt), .second] [(.int (1 : Int32))]))
  refine own_endW X4 hS (by rw [(e4 : T4.heap = T3.heap)]; exact hk) Bd.notSynchronized (v := some (.int (1 : Int32))) (fun h => by rw [Bd.returns] at h; cases h) (fun fs hr => retN X4 hx (t := .boolean) Bd.returns (by simp) (hb hby at_138) hr) ?_ (by decide) (by decide)
  exact ⟨rfl, N4⟩
set_option maxRecDepth 65536 in
set_option maxHeartbeats 40000000 in
theorem comes_1 {Post : Tables → Env → Array Value → State → Outcome → State → Prop} (hpost : ∀ tb e args s v u, (limb_1_1.after args s (.returned v) u = true ∧ limb_1_2.after args s (.returned v) u = true ∧ True) → ReturnedEndW s (.returned v) u (Jvm.fieldLocs frame_1_writes args s ++ Jvm.arrayLocs frame_1_arrays args s ++ Jvm.staticLocs frame_1_statics s) 16 3200 → Post tb e args s (.returned v) u) :
    ArmFor flags0 classFile x code maxLocals ret World_1 tables_1 room_1 Calls_1 rest_1 Pre_1 Post := by
  intro l hfl _ _ p e ha hc hk s m args below hf hA hF happ hP
  obtain ⟨hcalls, hrest, hpre⟩ := hP
  obtain ⟨-, -, -, hnamed, -, -, -, hat⟩ := (Spec.applies_iff hf).mp happ
  obtain ⟨hg, hn⟩ := and_e (Cond.before_iff.mp (show (Jvm.Cond.and given_1 narrow_1).before args s = true from hpre))
  obtain ⟨g1, g2⟩ := and_e hg
  obtain ⟨g3, g4⟩ := and_e g2
  obtain ⟨g5, g6⟩ := and_e g4
  obtain ⟨g7, g8⟩ := and_e g6
  obtain ⟨w0, w1, w2, w3, rfl⟩ : ∃ w0 w1 w2 w3 : Value, args = #[w0, w1, w2, w3] := by
    have hs : args.size = 4 := by simpa [Cond.value, given_1] using g1
    obtain ⟨L⟩ := args
    match L, hs with
    | [w0, w1, w2, w3], _ => exact ⟨w0, w1, w2, w3, rfl⟩
  have hw := fun d (hd : d ∈ tables_1) => atoms_spec (ws := Jvm.Cond.code x code maxLocals ret :: tables_1) hat d (List.mem_cons_of_mem _ hd)
  obtain ⟨i0, ei0⟩ := is_v g3
  obtain rfl : w0 = (.int i0) := Option.some.inj ei0
  obtain ⟨i1, ei1⟩ := is_v g5
  obtain rfl : w1 = (.int i1) := Option.some.inj ei1
  obtain ⟨i2, ei2⟩ := is_v g7
  obtain rfl : w2 = (.int i2) := Option.some.inj ei2
  obtain ⟨i3, ei3⟩ := is_v g8
  obtain rfl : w3 = (.int i3) := Option.some.inj ei3
  obtain ⟨n, o, h1, h2, h3, _, L, rfl, ⟨rfl, N⟩, hq⟩ := rm0 l s _ hw tables_1 i0 i1 i2 i3 s.heap s.heap.size (Nat.le_refl _) p e ha hc hk s m _ below hf ((Spec.applies_iff_loose hf).mp happ).1 ⟨rfl, State.Warmed39.refl s, rfl⟩ trivial
  refine ⟨n, _, h1, h2, h3, hpost _ _ _ _ _ _ ⟨Cond.after_iff.mpr rfl, Cond.after_iff.mpr (eq_i res_at (Term.int_eval (1)) rfl), trivial⟩ ⟨hq.1, hq.2.1, hq.2.2.1, (hq.2.2.2.sift fun y hy => Or.inr (N y hy)).mono (by decide) (by decide)⟩⟩
theorem main_1_1 : Claimed_1_1 := comes_1 fun _ _ _ _ _ _ h hF => ⟨h.1, hF⟩
theorem main_1_2 : Claimed_1_2 := comes_1 fun _ _ _ _ _ _ h hF => ⟨h.2.1, hF⟩
end Jvm.Pilot.@@N@@
namespace Jvm.Pilot.@@N@@
open Jvm Jvm.ClassFile Sem Op Lib Jvm.Free Jvm.Stand Jvm.Pilot.@@N@@.Jvm.D
/-! MADE BY PROGRAM (witnessworld.py) out of the Statement's table words and the real class files: 16 classes; the members and pool entries that the words name. The judged class is class 1, her method 1. -/
namespace start1
open Jvm.ClassFile
def u (s : String) : CpInfo := .utf8 (stringToUtf16 s)
/-- a pool by its gaps: so many unusable entries, then the entry; so many at the end -/
def gap : Nat → List CpInfo → List CpInfo
  | 0, r => r
  | n + 1, r => .unusable :: gap n r
def poolList (es : List (Nat × CpInfo)) (last : Nat) : List CpInfo := es.foldr (fun e r => gap e.1 (e.2 :: r)) (gap last [])
def pool (es : List (Nat × CpInfo)) (last : Nat) : Array CpInfo := ⟨poolList es last⟩
def fileOf (pool : Array CpInfo) (this : Nat) (attrs : Array Attribute := #[]) (ms : Array MethodInfo := #[]) (fl : Nat := 33) (sup : Nat := 0) (ifs : Array Nat := #[]) (fds : Array FieldInfo := #[]) : ClassFile where
  minorVersion := 0
  majorVersion := 65
  constantPool := pool
  accessFlags := fl
  thisClass := this
  superClass := sup
  interfaces := ifs
  fields := fds
  methods := ms
  attributes := attrs
def plain (name : String) (sup : Option ClassId) : Class where
  name := name
  kind := .ordinary
  loader := none
  accessFlags := 33
  super := sup
  interfaces := #[]
  cf := none
  fields := #[]
  methods := #[]
  instanceTypes := #[]
  staticTypes := #[]
  resolved := #[]
  callSites := []
  init := .initialized
  statics := none
  mirror := none

def pool0 : Array CpInfo := pool [(5, u "<init>"), (0, u "()V"), (1, .class_ 10), (1, u "java/lang/Object")] 113

def k0c0 : Code := { maxStack := 0, maxLocals := 1, code := object_method_1_code, exceptionTable := #[], attributes := #[] }
def k0m0 : Method := { name := "<init>", desc := "()V", sig := { parameters := [], returnType := none }, accessFlags := 1, code := some k0c0 }
/-- java/lang/Object -/
def k0 : Class := { plain "java/lang/Object" none with
  accessFlags := 33
  interfaces := #[]
  cf := some (fileOf pool0 8 #[] #[{ accessFlags := 1, nameIndex := 5, descriptorIndex := 6, attributes := #[] }] 33 0 #[] #[])
  fields := #[]
  methods := #[k0m0]
  instanceTypes := #[]
  staticTypes := #[]
  resolved := Array.replicate 124 none
  statics := none }

def pool1 : Array CpInfo := pool [(2, .class_ 4), (1, u "java/lang/Object"), (0, u "<init>"), (0, u "()V"), (0, .integer 65535), (0, .class_ 9), (0, u "com/example/dialplane/dialplane/io/Edns"), (0, .methodref 8 11), (0, .nameAndType 5 12), (0, u "(IIIZ)V"), (0, .methodref 8 14), (0, .nameAndType 15 16), (0, u "ttlField"), (0, u "()J"), (0, .long 4294967295), (1, .long 255), (1, .long 32768), (1, .long 32767), (1, .class_ 26), (0, u "com/example/dialplane/dialplane/io/EdnsTtlFieldPinLaw"), (2, u "law"), (0, u "(IIII)Z")] 3

def k1m0 : Method := { name := "<init>", desc := "()V", sig := { parameters := [], returnType := none }, accessFlags := 2, code := none }
def k1c1 : Code := { maxStack := 6, maxLocals := 11, code := code, exceptionTable := #[], attributes := #[] }
def k1m1 : Method := { name := "law", desc := "(IIII)Z", sig := { parameters := [.int, .int, .int, .int], returnType := some .boolean }, accessFlags := 9, code := some k1c1 }
/-- com/example/dialplane/dialplane/io/EdnsTtlFieldPinLaw -/
def k1 : Class := { plain "com/example/dialplane/dialplane/io/EdnsTtlFieldPinLaw" (some 0) with
  accessFlags := 49
  interfaces := #[]
  cf := some (fileOf pool1 25 #[] #[{ accessFlags := 2, nameIndex := 5, descriptorIndex := 6, attributes := #[] }, { accessFlags := 9, nameIndex := 29, descriptorIndex := 30, attributes := #[] }] 49 2 #[] #[])
  fields := #[]
  methods := #[k1m0, k1m1]
  instanceTypes := #[]
  staticTypes := #[]
  resolved := Array.replicate 34 none
  statics := none }

def pool2 : Array CpInfo := pool [(1, .methodref 2 3), (0, .class_ 4), (0, .nameAndType 5 6), (0, u "java/lang/Object"), (0, u "<init>"), (0, u "()V"), (0, .class_ 8), (0, u "java/lang/Record")] 13

def k2c0 : Code := { maxStack := 1, maxLocals := 1, code := jdk_30_method_1_code, exceptionTable := #[], attributes := #[] }
def k2m0 : Method := { name := "<init>", desc := "()V", sig := { parameters := [], returnType := none }, accessFlags := 4, code := some k2c0 }
/-- java/lang/Record -/
def k2 : Class := { plain "java/lang/Record" (some 0) with
  accessFlags := 1057
  interfaces := #[]
  cf := some (fileOf pool2 7 #[] #[{ accessFlags := 4, nameIndex := 5, descriptorIndex := 6, attributes := #[] }] 1057 2 #[] #[])
  fields := #[]
  methods := #[k2m0]
  instanceTypes := #[]
  staticTypes := #[]
  resolved := Array.replicate 22 none
  statics := none }

def pool3 : Array CpInfo := pool [(1, .methodref 2 3), (0, .class_ 4), (0, .nameAndType 5 6), (0, u "java/lang/Record"), (0, u "<init>"), (0, u "()V"), (0, .string 8), (0, u "UDP payload size"), (0, .methodref 10 11), (0, .class_ 12), (0, .nameAndType 13 14), (0, u "com/example/dialplane/dialplane/model/Unsigned"), (0, u "u16"), (0, u "(ILjava/lang/String;)I"), (0, .string 16), (0, u "extended RCODE"), (0, .methodref 10 18), (0, .nameAndType 19 14), (0, u "u8"), (0, .string 21), (0, u "EDNS version"), (0, .fieldref 23 24), (0, .class_ 25), (0, .nameAndType 26 27), (0, u "com/example/dialplane/dialplane/io/Edns"), (0, u "udpPayloadSize"), (0, u "I"), (0, .fieldref 23 29), (0, .nameAndType 30 27), (0, u "extendedRcode"), (0, .fieldref 23 32), (0, .nameAndType 33 27), (0, u "version"), (0, .fieldref 23 35), (0, .nameAndType 36 37), (0, u "dnssecOk"), (0, u "Z"), (33, u "()J"), (11, .long 32768), (3, u "(IIIZ)V"), (19, u "TYPE"), (2, u "DO"), (0, u "J"), (9, u "ttlField")] 26

def k3c0 : Code := { maxStack := 2, maxLocals := 5, code := prog_74_method_1_code, exceptionTable := #[], attributes := #[] }
def k3m0 : Method := { name := "<init>", desc := "(IIIZ)V", sig := { parameters := [.int, .int, .int, .boolean], returnType := none }, accessFlags := 1, code := some k3c0 }
def k3c1 : Code := { maxStack := 5, maxLocals := 1, code := prog_74_method_4_code, exceptionTable := #[], attributes := #[] }
def k3m1 : Method := { name := "ttlField", desc := "()J", sig := { parameters := [], returnType := some .long }, accessFlags := 0, code := some k3c1 }
/-- com/example/dialplane/dialplane/io/Edns -/
def k3 : Class := { plain "com/example/dialplane/dialplane/io/Edns" (some 2) with
  accessFlags := 49
  interfaces := #[]
  cf := some (fileOf pool3 23 #[] #[{ accessFlags := 1, nameIndex := 5, descriptorIndex := 87, attributes := #[] }, { accessFlags := 0, nameIndex := 121, descriptorIndex := 71, attributes := #[] }] 49 2 #[] #[{ accessFlags := 18, nameIndex := 26, descriptorIndex := 27, attributes := #[] }, { accessFlags := 18, nameIndex := 30, descriptorIndex := 27, attributes := #[] }, { accessFlags := 18, nameIndex := 33, descriptorIndex := 27, attributes := #[] }, { accessFlags := 18, nameIndex := 36, descriptorIndex := 37, attributes := #[] }, { accessFlags := 25, nameIndex := 107, descriptorIndex := 27, attributes := #[] }, { accessFlags := 26, nameIndex := 110, descriptorIndex := 111, attributes := #[] }])
  fields := #[{ name := "udpPayloadSize", type := .int, accessFlags := 18, slot := 0, constantValue := 0 }, { name := "extendedRcode", type := .int, accessFlags := 18, slot := 1, constantValue := 0 }, { name := "version", type := .int, accessFlags := 18, slot := 2, constantValue := 0 }, { name := "dnssecOk", type := .boolean, accessFlags := 18, slot := 3, constantValue := 0 }, { name := "TYPE", type := .int, accessFlags := 25, slot := 0, constantValue := 0 }, { name := "DO", type := .long, accessFlags := 26, slot := 1, constantValue := 0 }]
  methods := #[k3m0, k3m1]
  instanceTypes := #[.int, .int, .int, .boolean]
  staticTypes := #[.int, .long]
  resolved := Array.replicate 148 none
  statics := none }

def pool4 : Array CpInfo := pool [(1, .class_ 2), (0, u "java/io/Serializable"), (0, .class_ 4), (0, u "java/lang/Object")] 2

/-- java/io/Serializable -/
def k4 : Class := { plain "java/io/Serializable" (some 0) with
  accessFlags := 1537
  interfaces := #[]
  cf := some (fileOf pool4 1 #[] #[] 1537 3 #[] #[])
  fields := #[]
  methods := #[]
  instanceTypes := #[]
  staticTypes := #[]
  resolved := Array.replicate 7 none
  statics := none }

def pool5 : Array CpInfo := pool [(1, .class_ 2), (0, u "java/lang/Comparable"), (0, .class_ 4), (0, u "java/lang/Object")] 7

/-- java/lang/Comparable -/
def k5 : Class := { plain "java/lang/Comparable" (some 0) with
  accessFlags := 1537
  interfaces := #[]
  cf := some (fileOf pool5 1 #[] #[] 1537 3 #[] #[])
  fields := #[]
  methods := #[]
  instanceTypes := #[]
  staticTypes := #[]
  resolved := Array.replicate 12 none
  statics := none }

def pool6 : Array CpInfo := pool [(2, .class_ 4), (1, u "java/lang/CharSequence"), (42, .class_ 48), (0, u "java/lang/CharSequence$1CodePointIterator"), (10, .class_ 60), (0, u "java/lang/CharSequence$1CharIterator"), (5, .class_ 67), (0, u "java/lang/Object")] 63

/-- java/lang/CharSequence -/
def k6 : Class := { plain "java/lang/CharSequence" (some 0) with
  accessFlags := 1537
  interfaces := #[]
  cf := some (fileOf pool6 2 #[.nestMembers #[47, 59]] #[] 1537 66 #[] #[])
  fields := #[]
  methods := #[]
  instanceTypes := #[]
  staticTypes := #[]
  resolved := Array.replicate 131 none
  statics := none }

def pool7 : Array CpInfo := pool [(1, .class_ 2), (0, u "java/lang/constant/Constable"), (0, .class_ 4), (0, u "java/lang/Object")] 6

/-- java/lang/constant/Constable -/
def k7 : Class := { plain "java/lang/constant/Constable" (some 0) with
  accessFlags := 1537
  interfaces := #[]
  cf := some (fileOf pool7 1 #[] #[] 1537 3 #[] #[])
  fields := #[]
  methods := #[]
  instanceTypes := #[]
  staticTypes := #[]
  resolved := Array.replicate 11 none
  statics := none }

def pool8 : Array CpInfo := pool [(1, .class_ 2), (0, u "java/lang/constant/ConstantDesc"), (0, .class_ 4), (0, u "java/lang/Object")] 32

/-- java/lang/constant/ConstantDesc -/
def k8 : Class := { plain "java/lang/constant/ConstantDesc" (some 0) with
  accessFlags := 1537
  interfaces := #[]
  cf := some (fileOf pool8 1 #[] #[] 1537 3 #[] #[])
  fields := #[]
  methods := #[]
  instanceTypes := #[]
  staticTypes := #[]
  resolved := Array.replicate 37 none
  statics := none }

def pool9 : Array CpInfo := pool [(2, .class_ 4), (1, u "java/lang/Object"), (0, u "<init>"), (0, u "()V"), (3, .class_ 12), (1, u "java/lang/String"), (0, u "value"), (0, u "[B"), (2, u "coder"), (0, u "B"), (2, u "hash"), (0, u "I"), (2, u "hashIsZero"), (0, u "Z"), (13, u "COMPACT_STRINGS"), (534, .class_ 576), (0, u "java/lang/CharSequence"), (22, u "CASE_INSENSITIVE_ORDER"), (0, u "Ljava/util/Comparator;"), (500, u "serialPersistentFields"), (0, u "[Ljava/io/ObjectStreamField;"), (0, .class_ 1104), (0, u "java/lang/String$CaseInsensitiveComparator"), (1, .class_ 1107), (0, u "java/io/Serializable"), (0, .class_ 1109), (0, u "java/lang/Comparable"), (0, .class_ 1111), (0, u "java/lang/constant/Constable"), (0, .class_ 1113), (0, u "java/lang/constant/ConstantDesc"), (2, u "serialVersionUID"), (0, u "J"), (3, u "REPL"), (0, u "C"), (2, u "LATIN1"), (1, u "UTF16")] 323

def k9m0 : Method := { name := "<init>", desc := "()V", sig := { parameters := [], returnType := none }, accessFlags := 1, code := none }
/-- java/lang/String -/
def k9 : Class := { plain "java/lang/String" (some 0) with
  accessFlags := 49
  interfaces := #[4, 5, 6, 7, 8]
  cf := some (fileOf pool9 10 #[.nestMembers #[1103]] #[{ accessFlags := 1, nameIndex := 5, descriptorIndex := 6, attributes := #[] }] 49 2 #[1106, 1108, 575, 1110, 1112] #[{ accessFlags := 18, nameIndex := 13, descriptorIndex := 14, attributes := #[] }, { accessFlags := 18, nameIndex := 17, descriptorIndex := 18, attributes := #[] }, { accessFlags := 2, nameIndex := 21, descriptorIndex := 22, attributes := #[] }, { accessFlags := 2, nameIndex := 25, descriptorIndex := 26, attributes := #[] }, { accessFlags := 26, nameIndex := 1116, descriptorIndex := 1117, attributes := #[] }, { accessFlags := 24, nameIndex := 40, descriptorIndex := 26, attributes := #[] }, { accessFlags := 26, nameIndex := 1101, descriptorIndex := 1102, attributes := #[] }, { accessFlags := 26, nameIndex := 1121, descriptorIndex := 1122, attributes := #[] }, { accessFlags := 25, nameIndex := 599, descriptorIndex := 600, attributes := #[] }, { accessFlags := 24, nameIndex := 1125, descriptorIndex := 18, attributes := #[] }, { accessFlags := 24, nameIndex := 1127, descriptorIndex := 18, attributes := #[] }])
  fields := #[{ name := "value", type := (.array .byte), accessFlags := 18, slot := 0, constantValue := 0 }, { name := "coder", type := .byte, accessFlags := 18, slot := 1, constantValue := 0 }, { name := "hash", type := .int, accessFlags := 2, slot := 2, constantValue := 0 }, { name := "hashIsZero", type := .boolean, accessFlags := 2, slot := 3, constantValue := 0 }, { name := "serialVersionUID", type := .long, accessFlags := 26, slot := 0, constantValue := 0 }, { name := "COMPACT_STRINGS", type := .boolean, accessFlags := 24, slot := 1, constantValue := 0 }, { name := "serialPersistentFields", type := (.array (.object "java/io/ObjectStreamField")), accessFlags := 26, slot := 2, constantValue := 0 }, { name := "REPL", type := .char, accessFlags := 26, slot := 3, constantValue := 0 }, { name := "CASE_INSENSITIVE_ORDER", type := (.object "java/util/Comparator"), accessFlags := 25, slot := 4, constantValue := 0 }, { name := "LATIN1", type := .byte, accessFlags := 24, slot := 5, constantValue := 0 }, { name := "UTF16", type := .byte, accessFlags := 24, slot := 6, constantValue := 0 }]
  methods := #[k9m0]
  instanceTypes := #[(.array .byte), .byte, .int, .boolean]
  staticTypes := #[.long, .boolean, (.array (.object "java/io/ObjectStreamField")), .char, (.object "java/util/Comparator"), .byte, .byte]
  resolved := Array.replicate 1451 none
  statics := none }

def pool10 : Array CpInfo := pool [(2, .class_ 4), (1, u "java/lang/Object"), (0, u "<init>"), (0, u "()V"), (0, .class_ 8), (0, u "com/example/dialplane/dialplane/model/Unsigned"), (9, .integer 65535), (6, u "MAX_U8"), (0, u "I"), (2, u "MAX_U16"), (0, u "MAX_U32"), (0, u "J"), (2, u "u8"), (0, u "(ILjava/lang/String;)I"), (1, u "u16")] 23

def k10m0 : Method := { name := "<init>", desc := "()V", sig := { parameters := [], returnType := none }, accessFlags := 2, code := none }
def k10c1 : Code := { maxStack := 4, maxLocals := 2, code := prog_110_method_2_code, exceptionTable := #[], attributes := #[] }
def k10m1 : Method := { name := "u8", desc := "(ILjava/lang/String;)I", sig := { parameters := [.int, (.object "java/lang/String")], returnType := some .int }, accessFlags := 9, code := some k10c1 }
def k10c2 : Code := { maxStack := 4, maxLocals := 2, code := prog_110_method_3_code, exceptionTable := #[], attributes := #[] }
def k10m2 : Method := { name := "u16", desc := "(ILjava/lang/String;)I", sig := { parameters := [.int, (.object "java/lang/String")], returnType := some .int }, accessFlags := 9, code := some k10c2 }
/-- com/example/dialplane/dialplane/model/Unsigned -/
def k10 : Class := { plain "com/example/dialplane/dialplane/model/Unsigned" (some 0) with
  accessFlags := 49
  interfaces := #[]
  cf := some (fileOf pool10 7 #[] #[{ accessFlags := 2, nameIndex := 5, descriptorIndex := 6, attributes := #[] }, { accessFlags := 9, nameIndex := 34, descriptorIndex := 35, attributes := #[] }, { accessFlags := 9, nameIndex := 37, descriptorIndex := 35, attributes := #[] }] 49 2 #[] #[{ accessFlags := 25, nameIndex := 25, descriptorIndex := 26, attributes := #[] }, { accessFlags := 25, nameIndex := 29, descriptorIndex := 26, attributes := #[] }, { accessFlags := 25, nameIndex := 30, descriptorIndex := 31, attributes := #[] }])
  fields := #[{ name := "MAX_U8", type := .int, accessFlags := 25, slot := 0, constantValue := 0 }, { name := "MAX_U16", type := .int, accessFlags := 25, slot := 1, constantValue := 0 }, { name := "MAX_U32", type := .long, accessFlags := 25, slot := 2, constantValue := 0 }]
  methods := #[k10m0, k10m1, k10m2]
  instanceTypes := #[]
  staticTypes := #[.int, .int, .long]
  resolved := Array.replicate 61 none
  statics := none }

def pool11 : Array CpInfo := pool [(1, u "java/lang/Cloneable"), (0, .class_ 1), (0, u "java/lang/Object"), (0, .class_ 3)] 3

/-- java/lang/Cloneable -/
def k11 : Class := { plain "java/lang/Cloneable" (some 0) with
  accessFlags := 1537
  interfaces := #[]
  cf := some (fileOf pool11 2 #[] #[] 1537 4 #[] #[])
  fields := #[]
  methods := #[]
  instanceTypes := #[]
  staticTypes := #[]
  resolved := Array.replicate 8 none
  statics := none }

/-- the primitive byte -/
def k12 : Class := { plain "byte" none with kind := .primitive 'B', accessFlags := 0x411 }
/-- [B -/
def k13 : Class := { plain "[B" (some 0) with kind := .array 12 .byte, interfaces := #[11, 4], accessFlags := 1041 }

/-- the primitive int -/
def k14 : Class := { plain "int" none with kind := .primitive 'I', accessFlags := 0x411 }
/-- [I -/
def k15 : Class := { plain "[I" (some 0) with kind := .array 14 .int, interfaces := #[11, 4], accessFlags := 1041 }

def heap : Heap := #[]
def classes : Array Class := #[k0, k1, k2, k3, k4, k5, k6, k7, k8, k9, k10, k11, k12, k13, k14, k15]
def interned : List (Array UInt16 × Addr) := []
def slotsUsed : Nat := 0
def theMethod : MethodId := ⟨1, 1⟩
def args0 : Array Value := #[.int 3, .int 4, .int 5, .int 1]
def aboutOver (below : List Frame) : State where
  vm := { classes := classes, interned := interned.toArray }
  heap := heap
  slotsUsed := slotsUsed
  threads := #[{ frames := .invoking theMethod args0 :: below }]
def below0 : List Frame := [.native { method := ⟨0, 0⟩, args := #[] }]
def about1 : State := aboutOver below0
def p0 : Program := .bare "" "" ""
def e0 : Env := launch0.env 0 0 0
theorem w_frames : about1.frames = Frame.invoking theMethod args0 :: below0 := rfl
set_option maxRecDepth 65536 in
theorem w_args : argsFit about1.vm theMethod args0 = true := by decide +kernel
set_option maxRecDepth 65536 in
theorem w_heap : heapFits about1 = true := by decide +kernel
set_option maxRecDepth 65536 in
theorem w_runnable : about1.curStatus? = some .runnable := by decide +kernel
set_option maxRecDepth 65536 in
theorem w_alone : about1.alone = true := by decide +kernel
set_option maxRecDepth 65536 in
theorem w_named : about1.methodNamed? x = some theMethod := by decide +kernel
set_option maxRecDepth 65536 in
theorem w_hears : about1.hears theMethod below0 = true := by decide +kernel
set_option maxRecDepth 65536 in
theorem w_ripe : about1.ripe theMethod args0 below0 = true := by decide +kernel
theorem w_running : about1.status = .running := rfl
set_option maxRecDepth 65536 in
theorem w_room : about1.hasRoom e0.platform room_1 = true :=
  launch0.hasRoom_least _ room_1 (by decide +kernel) (by decide +kernel) (by decide +kernel) (by decide +kernel) (by decide +kernel) (by decide +kernel)
theorem allAtoms_all (ts : List Jvm.Cond) (a : Array Jvm.Value) (st : Jvm.State) : (allAtoms ts).before a st = ts.all (fun c => c.before a st) := by
  induction ts with
  | nil => rfl
  | cons c t ih =>
    show (Jvm.Cond.and c (allAtoms t)).before a st = _
    rw [Jvm.Cond.before_and, ih, List.all_cons]
def words1 : List Jvm.Cond := Jvm.Cond.code x code maxLocals ret :: tables_1
/-- a 'code' word, met by the world's own term for the bytes: nothing is compared byte by byte -/
theorem code_word {y : MethodName} {bytes : ByteArray} {mx : Nat} {rt : Option FieldType} {a : Array Value} {s : State} {m : MethodId} {meth : Method} {c : Code} (h1 : s.methodNamed? y = some m) (h2 : s.vm.method? m = some meth) (h3 : meth.code = some c) (h4 : c.code = bytes)
    (h5 : (c.maxLocals == mx && c.exceptionTable.isEmpty && decide (c.maxStack ≤ mostOperands) && decide (meth.sig.returnType = rt) && !meth.locks && decide (parseMethodDescriptor y.desc = some meth.sig)) = true) : (Jvm.Cond.code y bytes mx rt).before a s = true := by
  simp only [Bool.and_eq_true, beq_iff_eq, Bool.not_eq_true', decide_eq_true_eq] at h5
  obtain ⟨⟨⟨⟨⟨g1, g2⟩, g3⟩, g4⟩, g5⟩, g6⟩ := h5
  simp [Cond.before, Cond.holds, Cond.value, h1, h2, h3, h4, g1, g2, g3, g4, g5, g6]
def isCode : Jvm.Cond → Bool
  | .code _ _ _ _ => true
  | _ => false
theorem all_split {L : List Jvm.Cond} {P : Jvm.Cond → Bool} (h1 : L.all (fun c => isCode c || P c) = true) (h2 : ∀ c ∈ L.filter isCode, P c = true) : L.all P = true := by
  refine List.all_eq_true.mpr fun c hc => ?_
  have h := List.all_eq_true.mp h1 c hc
  rcases Bool.eq_false_or_eq_true (isCode c) with hi | hi
  · exact h2 c (List.mem_filter.mpr ⟨hc, hi⟩)
  · simpa [hi] using h
set_option maxRecDepth 65536 in
theorem w_c0 : (Jvm.Cond.code x code maxLocals ret).before args0 about1 = true := code_word (m := ⟨1, 1⟩) (meth := k1m1) (c := k1c1) (by decide +kernel) rfl rfl rfl (by decide +kernel)
set_option maxRecDepth 65536 in
theorem w_c1 : (Jvm.Cond.code ({ cls := "com/example/dialplane/dialplane/io/Edns", name := "<init>", desc := "(IIIZ)V" } : Jvm.MethodName) prog_74_method_1_code (5 : Nat) (Option.none : Option Jvm.ClassFile.FieldType)).before args0 about1 = true := code_word (m := ⟨3, 0⟩) (meth := k3m0) (c := k3c0) (by decide +kernel) rfl rfl rfl (by decide +kernel)
set_option maxRecDepth 65536 in
theorem w_c2 : (Jvm.Cond.code ({ cls := "java/lang/Record", name := "<init>", desc := "()V" } : Jvm.MethodName) jdk_30_method_1_code (1 : Nat) (Option.none : Option Jvm.ClassFile.FieldType)).before args0 about1 = true := code_word (m := ⟨2, 0⟩) (meth := k2m0) (c := k2c0) (by decide +kernel) rfl rfl rfl (by decide +kernel)
set_option maxRecDepth 65536 in
theorem w_c3 : (Jvm.Cond.code ({ cls := "java/lang/Object", name := "<init>", desc := "()V" } : Jvm.MethodName) object_method_1_code (1 : Nat) (Option.none : Option Jvm.ClassFile.FieldType)).before args0 about1 = true := code_word (m := ⟨0, 0⟩) (meth := k0m0) (c := k0c0) (by decide +kernel) rfl rfl rfl (by decide +kernel)
set_option maxRecDepth 65536 in
theorem w_c4 : (Jvm.Cond.code ({ cls := "com/example/dialplane/dialplane/model/Unsigned", name := "u16", desc := "(ILjava/lang/String;)I" } : Jvm.MethodName) prog_110_method_3_code (2 : Nat) (Option.some Jvm.ClassFile.FieldType.int)).before args0 about1 = true := code_word (m := ⟨10, 2⟩) (meth := k10m2) (c := k10c2) (by decide +kernel) rfl rfl rfl (by decide +kernel)
set_option maxRecDepth 65536 in
theorem w_c5 : (Jvm.Cond.code ({ cls := "com/example/dialplane/dialplane/model/Unsigned", name := "u8", desc := "(ILjava/lang/String;)I" } : Jvm.MethodName) prog_110_method_2_code (2 : Nat) (Option.some Jvm.ClassFile.FieldType.int)).before args0 about1 = true := code_word (m := ⟨10, 1⟩) (meth := k10m1) (c := k10c1) (by decide +kernel) rfl rfl rfl (by decide +kernel)
set_option maxRecDepth 65536 in
theorem w_c6 : (Jvm.Cond.code ({ cls := "com/example/dialplane/dialplane/io/Edns", name := "ttlField", desc := "()J" } : Jvm.MethodName) prog_74_method_4_code (1 : Nat) (Option.some Jvm.ClassFile.FieldType.long)).before args0 about1 = true := code_word (m := ⟨3, 1⟩) (meth := k3m1) (c := k3c1) (by decide +kernel) rfl rfl rfl (by decide +kernel)
def codes1 : List Jvm.Cond := [Jvm.Cond.code x code maxLocals ret, Jvm.Cond.code ({ cls := "com/example/dialplane/dialplane/io/Edns", name := "<init>", desc := "(IIIZ)V" } : Jvm.MethodName) prog_74_method_1_code (5 : Nat) (Option.none : Option Jvm.ClassFile.FieldType), Jvm.Cond.code ({ cls := "java/lang/Record", name := "<init>", desc := "()V" } : Jvm.MethodName) jdk_30_method_1_code (1 : Nat) (Option.none : Option Jvm.ClassFile.FieldType), Jvm.Cond.code ({ cls := "java/lang/Object", name := "<init>", desc := "()V" } : Jvm.MethodName) object_method_1_code (1 : Nat) (Option.none : Option Jvm.ClassFile.FieldType), Jvm.Cond.code ({ cls := "com/example/dialplane/dialplane/model/Unsigned", name := "u16", desc := "(ILjava/lang/String;)I" } : Jvm.MethodName) prog_110_method_3_code (2 : Nat) (Option.some Jvm.ClassFile.FieldType.int), Jvm.Cond.code ({ cls := "com/example/dialplane/dialplane/model/Unsigned", name := "u8", desc := "(ILjava/lang/String;)I" } : Jvm.MethodName) prog_110_method_2_code (2 : Nat) (Option.some Jvm.ClassFile.FieldType.int), Jvm.Cond.code ({ cls := "com/example/dialplane/dialplane/io/Edns", name := "ttlField", desc := "()J" } : Jvm.MethodName) prog_74_method_4_code (1 : Nat) (Option.some Jvm.ClassFile.FieldType.long)]
set_option maxRecDepth 65536 in
theorem codes_eq : words1.filter isCode = codes1 := rfl
theorem w_codes : ∀ c ∈ words1.filter isCode, c.before args0 about1 = true := by
  rw [codes_eq]
  intro c hc
  simp only [codes1, List.mem_cons, List.not_mem_nil, or_false] at hc
  rcases hc with rfl | rfl | rfl | rfl | rfl | rfl | rfl
  · exact w_c0
  · exact w_c1
  · exact w_c2
  · exact w_c3
  · exact w_c4
  · exact w_c5
  · exact w_c6
set_option maxRecDepth 65536 in
theorem w_t1 : (words1.take 24).all (fun c => isCode c || c.before args0 about1) = true := by decide +kernel
set_option maxRecDepth 65536 in
theorem w_t2 : ((words1.drop 24).take 24).all (fun c => isCode c || c.before args0 about1) = true := by decide +kernel
set_option maxRecDepth 65536 in
theorem w_t3 : ((words1.drop 24).drop 24).all (fun c => isCode c || c.before args0 about1) = true := by decide +kernel
theorem w_tables : (allAtoms (Jvm.Cond.code x code maxLocals ret :: tables_1)).before args0 about1 = true := by
  rw [allAtoms_all]
  show words1.all (fun c => c.before args0 about1) = true
  refine all_split ?_ w_codes
  rw [← List.take_append_drop 24 words1, List.all_append, w_t1, ← List.take_append_drop 24 (words1.drop 24), List.all_append, w_t2, w_t3]
  rfl
set_option maxRecDepth 65536 in
theorem w_case : (Jvm.Cond.and given_1 narrow_1).before args0 about1 = true := by decide +kernel
theorem w_applies : (headSpec (Jvm.Cond.code x code maxLocals ret :: tables_1) room_1).applies x e0.platform about1 = true :=
  (Spec.applies_iff w_frames).mpr ⟨w_running, w_runnable, w_alone, w_named, w_hears, w_ripe, w_room, w_tables⟩
theorem atStart : AtStart classFile x code maxLocals ret World_1 tables_1 room_1 Calls_1 rest_1 Pre_1 launch0 p0 e0 about1 theMethod args0 below0 :=
  ⟨lists_1, trivial, launch0.admits_env _ _ _, launch0.least_env, fairChoices_fair.cas, fairChoices_fair.clock, w_frames, w_args, w_heap, w_applies, trivial, trivial, w_case⟩
end start1
theorem witness_1 : WitnessClaimed_1 := ⟨start1.p0, start1.e0, start1.about1, start1.theMethod, start1.args0, start1.below0, start1.atStart⟩
end Jvm.Pilot.@@N@@
