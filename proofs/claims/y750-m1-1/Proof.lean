import JvmDerived
import JvmDerived.Pilot.@@N@@Statement
import JvmDerived.Pilot.@@N@@Code
set_option linter.unusedVariables false
set_option linter.unusedSimpArgs false

namespace Jvm.Pilot.@@N@@
open Jvm Jvm.ClassFile Sem Op Lib Jvm.Free Jvm.Stand Jvm.LawKit Jvm.RoadKit Bundle Jvm.Pilot.@@N@@.Jvm.D
/-- the run from U comes to an end of which P holds -/
def own_Go (tb : Tables) (e : Env) (below : List Frame) (P : Outcome → State → Prop) (U : State) : Prop :=
  ∃ s₂ o, Steps tb e below U s₂ ∧ s₂.status = .running ∧ Ended s₂ below o ∧ P o s₂
theorem own_go {tb : Tables} {e : Env} {below : List Frame} {P : Outcome → State → Prop} {U U' : State} (k : ∀ t, Steps tb e below U' t → Steps tb e below U t) (h : own_Go tb e below P U') : own_Go tb e below P U := by
  obtain ⟨t, o, h1, h2⟩ := h
  exact ⟨t, o, k t h1, h2⟩
section Own
variable {p : Program} {l : Launch} {e : Env} {R : Room} {s : State} {m : MethodId} {args : Array Value} {below : List Frame} {meth : Method} {c : Code} {T : State} {locs : List Loc} {cells slots : Nat}
theorem own_retI (X : Stand p l e R s m args below meth c T locs cells slots) (hx : p.tables.exec = Jvm.exec) {pc : Nat} {Ls : Array Slot} {z : Int32} {rest : List Value} (hret : meth.sig.returnType = some .int) (hd : decode c.code pc = .ok (.ireturn, 1)) {fs : List Frame}
    (hl : ∀ (f : JFrame) (acts : List Action), f.method = m → f.locked = none → f.entered = [] → (doReturn e (T.setTop f) acts (some (.int z))).1 = T.setFrames fs) : Steps p.tables e below (T.setTop (mkF m pc Ls (.int z :: rest))) (T.setFrames fs) := by
  have hm' : T.vm.method? m = some meth := X.method'
  have hn : narrow .int (.int z) = .int z := rfl
  show Steps p.tables e below (T.setTop { method := m, pc := pc, locals := Ls, stack := _ :: rest, locked := none }) _
  jvm_step X.here [X.here.top, hx, hd, hm', hret, hn]
  first | (intro acts; rw [hl _ acts rfl rfl rfl]) | rw [hl _ _ rfl rfl rfl]
  exact Steps.refl _
theorem own_retJ (X : Stand p l e R s m args below meth c T locs cells slots) (hx : p.tables.exec = Jvm.exec) {pc : Nat} {Ls : Array Slot} {z : Int64} {rest : List Value} (hret : meth.sig.returnType = some .long) (hd : decode c.code pc = .ok (.lreturn, 1)) {fs : List Frame}
    (hl : ∀ (f : JFrame) (acts : List Action), f.method = m → f.locked = none → f.entered = [] → (doReturn e (T.setTop f) acts (some (.long z))).1 = T.setFrames fs) : Steps p.tables e below (T.setTop (mkF m pc Ls (.long z :: rest))) (T.setFrames fs) := by
  have hm' : T.vm.method? m = some meth := X.method'
  show Steps p.tables e below (T.setTop { method := m, pc := pc, locals := Ls, stack := _ :: rest, locked := none }) _
  jvm_step X.here [X.here.top, hx, hd, hm', hret, narrow]
  first | (intro acts; rw [hl _ acts rfl rfl rfl]) | rw [hl _ _ rfl rfl rfl]
  exact Steps.refl _
theorem own_mapI (xs : List Int32) (i : Nat) : (xs.map Value.int).getD i (.int 0) = .int (xs.getD i 0) := by
  simp only [List.getD_eq_getElem?_getD, List.getElem?_map]; cases xs[i]? <;> rfl
theorem own_mapJ (xs : List Int64) (i : Nat) : (xs.map Value.long).getD i (.long 0) = .long (xs.getD i 0) := by
  simp only [List.getD_eq_getElem?_getD, List.getElem?_map]; cases xs[i]? <;> rfl
theorem own_kx {h h' : Heap} (K : Keep h h' []) : Ext h h' := ⟨K.1, fun a c q => K.2.1 a c q (by simp)⟩
theorem own_retA (X : Stand p l e R s m args below meth c T locs cells slots) (hx : p.tables.exec = Jvm.exec) {pc : Nat} {Ls : Array Slot} {z : Addr} {rest : List Value} {C : String} (hret : meth.sig.returnType = some (.object C)) (hd : decode c.code pc = .ok (.areturn, 1)) {fs : List Frame}
    (hl : ∀ (f : JFrame) (acts : List Action), f.method = m → f.locked = none → f.entered = [] → (doReturn e (T.setTop f) acts (some (.ref z))).1 = T.setFrames fs) : Steps p.tables e below (T.setTop (mkF m pc Ls (.ref z :: rest))) (T.setFrames fs) := by
  have hm' : T.vm.method? m = some meth := X.method'
  show Steps p.tables e below (T.setTop { method := m, pc := pc, locals := Ls, stack := _ :: rest, locked := none }) _
  jvm_step X.here [X.here.top, hx, hd, hm', hret, Value.isRef, FieldType.isReference]
  first | (intro acts; rw [hl _ acts rfl rfl rfl]) | rw [hl _ _ rfl rfl rfl]
  exact Steps.refl _
theorem own_endH {Q : Option Value → Heap → List Loc → Prop} {kc ks n : Nat} {vm₁ : Vm} {Z : State} {EL : List (String × Nat)} (X : Stand p l e R (s.setVm vm₁) m args below meth c T locs cells slots) (hC : CHr Z EL s.vm s.heap T.vm T.heap) (hS : s.Since vm₁ n) (hn : n ≤ T.heap.size) (hlocks : meth.locks = false) {g : JFrame} {v : Option Value}
    (hv : meth.sig.returnType = none → v = none)
    (hs : ∀ fs, (∀ (f : JFrame) (acts : List Action), f.method = m → f.locked = none → f.entered = [] → (doReturn e (T.setTop f) acts v).1 = T.setFrames fs) → Steps p.tables e below (T.setTop g) (T.setFrames fs))
    (hQ : Q v T.heap locs) (h1 : cells ≤ kc) (h2 : slots ≤ ks) :
    own_Go p.tables e below (fun o U' => ∃ v L, o = .returned v ∧ Q v U'.heap L ∧ CHr Z EL s.vm s.heap U'.vm U'.heap ∧ ReturnedEndW s o U' L kc ks) (T.setTop g) := by
  obtain ⟨fs, hr, hrun, hended, h3, h4, h5, h6⟩ := X.leaveW hS hn (v := v) hv hlocks
  exact ⟨_, _, hs fs hr, hrun, hended, _, _, rfl, hQ, hC, h3, h4, h5, h6.mono h1 h2⟩
theorem own_endW {Q : Option Value → Heap → List Loc → Prop} {kc ks n : Nat} {vm₁ : Vm} (X : Stand p l e R (s.setVm vm₁) m args below meth c T locs cells slots) (hS : s.Since vm₁ n) (hn : n ≤ T.heap.size) (hlocks : meth.locks = false) {g : JFrame} {v : Option Value}
    (hv : meth.sig.returnType = none → v = none)
    (hs : ∀ fs, (∀ (f : JFrame) (acts : List Action), f.method = m → f.locked = none → f.entered = [] → (doReturn e (T.setTop f) acts v).1 = T.setFrames fs) → Steps p.tables e below (T.setTop g) (T.setFrames fs))
    (hQ : Q v T.heap locs) (h1 : cells ≤ kc) (h2 : slots ≤ ks) :
    own_Go p.tables e below (fun o U' => ∃ v L, o = .returned v ∧ Q v U'.heap L ∧ ReturnedEndW s o U' L kc ks) (T.setTop g) := by
  obtain ⟨fs, hr, hrun, hended, h3, h4, h5, h6⟩ := X.leaveW hS hn (v := v) hv hlocks
  exact ⟨_, _, hs fs hr, hrun, hended, _, _, rfl, hQ, h3, h4, h5, h6.mono h1 h2⟩
theorem own_end {Q : Option Value → Heap → List Loc → Prop} {kc ks : Nat} (X : Stand p l e R s m args below meth c T locs cells slots) (hlocks : meth.locks = false) {g : JFrame} {v : Option Value}
    (hv : meth.sig.returnType = none → v = none)
    (hs : ∀ fs, (∀ (f : JFrame) (acts : List Action), f.method = m → f.locked = none → f.entered = [] → (doReturn e (T.setTop f) acts v).1 = T.setFrames fs) → Steps p.tables e below (T.setTop g) (T.setFrames fs))
    (hQ : Q v T.heap locs) (h1 : cells ≤ kc) (h2 : slots ≤ ks) :
    own_Go p.tables e below (fun o U' => ∃ v L, o = .returned v ∧ Q v U'.heap L ∧ FrameEnd s o U' L kc ks) (T.setTop g) := by
  obtain ⟨fs, hr, hrun, hended, hW, hsame⟩ := X.leave (v := v) hv hlocks
  exact ⟨_, _, hs fs hr, hrun, hended, _, _, rfl, hQ, ⟨_, rfl⟩, hW, hsame.mono h1 h2⟩
end Own
def own_f1_0  : Int32 :=
  (1 : Int32)
theorem d1_0_0 : decode prog_47_method_5_code 0 = .ok (.iconst 1, 1) := by decide +kernel
theorem d1_0_1 : decode prog_47_method_5_code 1 = .ok (.istore_n 1, 1) := by decide +kernel
theorem d1_0_2 : decode prog_47_method_5_code 2 = .ok (.iconst 0, 1) := by decide +kernel
theorem d1_0_3 : decode prog_47_method_5_code 3 = .ok (.istore_n 2, 1) := by decide +kernel
theorem d1_0_4 : decode prog_47_method_5_code 4 = .ok (.iload_n 2, 1) := by decide +kernel
theorem d1_0_5 : decode prog_47_method_5_code 5 = .ok (.aload_n 0, 1) := by decide +kernel
theorem d1_0_6 : decode prog_47_method_5_code 6 = .ok (.arraylength, 1) := by decide +kernel
theorem d1_0_7 : decode prog_47_method_5_code 7 = .ok (.if_icmp .ge 27, 3) := by decide +kernel
theorem d1_0_34 : decode prog_47_method_5_code 34 = .ok (.iload_n 1, 1) := by decide +kernel
theorem d1_0_35 : decode prog_47_method_5_code 35 = .ok (.ireturn, 1) := by decide +kernel
theorem pn1_0 : plainName "com/example/meshwright/meshwright/plan/PathCrossings" = true := by first | (simp [plainName, overriddenIn]; done) | decide +kernel
theorem ef1_0 (m : MethodId) (a0 : Addr) : entryFrame m #[(.ref a0)] 3 = mkF m 0 #[.val (.ref a0), .unset, .unset] [] := by first | (simp [entryFrame, mkF, argsToLocals, Value.category]; done) | rfl
def own_Q1_0 (Z : State) (a0 : Addr) (ka : ClassId) (h0 : Heap) (n0 : Nat) (v : Option Value) (h : Heap) (L : List Loc) : Prop := v = some (.int (own_f1_0 )) ∧ Fr n0 L ∧ h = h0
set_option maxRecDepth 65536 in
set_option maxHeartbeats 40000000 in
theorem rm1_0 (l : Launch) (Z : State) (az : Array Value) (hw : ∀ d ∈ tables_1, d.before az Z = true) (ws : List Jvm.Cond) (a0 : Addr) (ka : ClassId) (h0 : Heap) (n0 : Nat) (Z0 : n0 ≤ h0.size) (V_a0 : Arv Z h0 a0 ka .long (0 : Int32) [] (.long (0 : Int64))) :
    MetFree l (⟨"com/example/meshwright/meshwright/plan/PathCrossings", "empty", "([J)Z"⟩ : MethodName) (head1 (Jvm.Cond.code (⟨"com/example/meshwright/meshwright/plan/PathCrossings", "empty", "([J)Z"⟩ : MethodName) prog_47_method_5_code 3 (some .boolean) :: ws) ({ frames := 0, cells := 0, slots := 0, locals := 0 } : Room)) (fun a U => a = #[(.ref a0)] ∧ Z.Warmed39 U.vm ∧ U.heap = h0) (fun _ _ _ _ _ => True) (fun _ U o U' => ∃ v L, o = .returned v ∧ own_Q1_0 Z a0 ka h0 n0 v U'.heap L ∧ FrameEnd U o U' L ({ frames := 0, cells := 0, slots := 0, locals := 0 } : Room).cells ({ frames := 0, cells := 0, slots := 0, locals := 0 } : Room).slots) := by
  refine MetFree.of_bodySF (plainFor_of_name pn1_0) hisR ?_
  intro p e s m args below meth c s₁ Bd hml0 hP hK
  obtain ⟨rfl, hZ, hh⟩ := hP
  have hx := Bd.exec
  have hby := Bd.bytes
  have hml : c.maxLocals = 3 := hml0
  have hown : s.vm.findClass "com/example/meshwright/meshwright/plan/PathCrossings" = some m.cls := findClass_of_methodNamed Bd.named
  have hnm := (name_of_methodNamed Bd.named Bd.method).1
  have X0 : Stand p l e ({ frames := 0, cells := 0, slots := 0, locals := 0 } : Room) s m #[(.ref a0)] below meth c s₁ [] 0 0 := Stand.of_body Bd
  have e0 : s₁.heap = h0 := by rw [← hh, Bd.state]; rfl
  have N0 := Fr.nil n0
  show own_Go p.tables e below (fun o U' => ∃ v L, o = .returned v ∧ own_Q1_0 Z a0 ka h0 n0 v U'.heap L ∧ FrameEnd s o U' L ({ frames := 0, cells := 0, slots := 0, locals := 0 } : Room).cells ({ frames := 0, cells := 0, slots := 0, locals := 0 } : Room).slots) (s₁.setTop (entryFrame m #[(.ref a0)] 3))
  refine own_go (fun _ k => castTop (ef1_0 m a0) k) ?_
  show own_Go p.tables e below _ (s₁.setTop (mkF m 0 #[.val (.ref a0), .unset, .unset] []))
  refine own_go (fun _ k => XS.iconst X0.here hx rfl (hb hby d1_0_0) k) ?_
  show own_Go p.tables e below _ (s₁.setTop (mkF m 1 #[.val (.ref a0), .unset, .unset] [(.int (1 : Int32))]))
  refine own_go (fun _ k => XS.istoreN X0.here hx rfl (hb hby d1_0_1) rfl (l' := #[.val (.ref a0), .val (.int (1 : Int32)), .unset]) rfl k) ?_
  show own_Go p.tables e below _ (s₁.setTop (mkF m 2 #[.val (.ref a0), .val (.int (1 : Int32)), .unset] []))
  refine own_go (fun _ k => XS.iconst X0.here hx rfl (hb hby d1_0_2) k) ?_
  show own_Go p.tables e below _ (s₁.setTop (mkF m 3 #[.val (.ref a0), .val (.int (1 : Int32)), .unset] [(.int (0 : Int32))]))
  refine own_go (fun _ k => XS.istoreN X0.here hx rfl (hb hby d1_0_3) rfl (l' := #[.val (.ref a0), .val (.int (1 : Int32)), .val (.int (0 : Int32))]) rfl k) ?_
  show own_Go p.tables e below _ (s₁.setTop (mkF m 4 #[.val (.ref a0), .val (.int (1 : Int32)), .val (.int (0 : Int32))] []))
  refine own_go (fun _ k => XS.iloadN X0.here hx rfl (hb hby d1_0_4) rfl k) ?_
  show own_Go p.tables e below _ (s₁.setTop (mkF m 5 #[.val (.ref a0), .val (.int (1 : Int32)), .val (.int (0 : Int32))] [(.int (0 : Int32))]))
  refine own_go (fun _ k => XS.aloadN X0.here hx rfl (hb hby d1_0_5) rfl rfl k) ?_
  show own_Go p.tables e below _ (s₁.setTop (mkF m 6 #[.val (.ref a0), .val (.int (1 : Int32)), .val (.int (0 : Int32))] [(.ref a0), (.int (0 : Int32))]))
  have vo1 := V_a0
  obtain ⟨cl1, Ar1, Aq1, AS1, AN1, AH1, AG1⟩ := vo1
  refine own_go (fun _ k => X0.arraylength hx (by rw [e0]; exact Ar1.1) (State.isArrayOf_alike hZ.alike Ar1.2.1) (g := (mkF m 6 #[.val (.ref a0), .val (.int (1 : Int32)), .val (.int (0 : Int32))] [(.ref a0), (.int (0 : Int32))])) rfl rfl (hb hby d1_0_6) _ k) ?_
  rw [len_of AS1 AN1]
  show own_Go p.tables e below _ (s₁.setTop (mkF m 7 #[.val (.ref a0), .val (.int (1 : Int32)), .val (.int (0 : Int32))] [(.int (0 : Int32)), (.int (0 : Int32))]))
  have hf7 : ¬ ((0 : Int32) < (0 : Int32)) := by decide
  refine own_go (fun _ k => XS.icmpYes X0.here hx rfl (pc0 := 7) (pc' := 34) rfl (hb hby d1_0_7) rfl (flt hf7).2.1 (by decide) (by decide) k) ?_
  show own_Go p.tables e below _ (s₁.setTop (mkF m 34 #[.val (.ref a0), .val (.int (1 : Int32)), .val (.int (0 : Int32))] []))
  refine own_go (fun _ k => XS.iloadN X0.here hx rfl (hb hby d1_0_34) rfl k) ?_
  show own_Go p.tables e below _ (s₁.setTop (mkF m 35 #[.val (.ref a0), .val (.int (1 : Int32)), .val (.int (0 : Int32))] [(.int (1 : Int32))]))
  refine own_end X0 Bd.notSynchronized (v := some (.int (1 : Int32))) (fun h => by rw [Bd.returns] at h; cases h) (fun fs hr => retN X0 hx (t := .boolean) Bd.returns (by simp) (hb hby d1_0_35) hr) ?_ (by decide) (by decide)
  exact ⟨by rw [own_f1_0], N0, e0⟩
def own_f1_1 (w0 : Int64) : Int32 :=
  (nar .boolean (if w0 = (0 : Int64) then (1 : Int32) else (0 : Int32)))
theorem d1_1_0 : decode prog_47_method_5_code 0 = .ok (.iconst 1, 1) := by decide +kernel
theorem d1_1_1 : decode prog_47_method_5_code 1 = .ok (.istore_n 1, 1) := by decide +kernel
theorem d1_1_2 : decode prog_47_method_5_code 2 = .ok (.iconst 0, 1) := by decide +kernel
theorem d1_1_3 : decode prog_47_method_5_code 3 = .ok (.istore_n 2, 1) := by decide +kernel
theorem d1_1_4 : decode prog_47_method_5_code 4 = .ok (.iload_n 2, 1) := by decide +kernel
theorem d1_1_5 : decode prog_47_method_5_code 5 = .ok (.aload_n 0, 1) := by decide +kernel
theorem d1_1_6 : decode prog_47_method_5_code 6 = .ok (.arraylength, 1) := by decide +kernel
theorem d1_1_7 : decode prog_47_method_5_code 7 = .ok (.if_icmp .ge 27, 3) := by decide +kernel
theorem d1_1_10 : decode prog_47_method_5_code 10 = .ok (.iload_n 1, 1) := by decide +kernel
theorem d1_1_11 : decode prog_47_method_5_code 11 = .ok (.ifCond .eq 23, 3) := by decide +kernel
theorem d1_1_14 : decode prog_47_method_5_code 14 = .ok (.aload_n 0, 1) := by decide +kernel
theorem d1_1_15 : decode prog_47_method_5_code 15 = .ok (.iload_n 2, 1) := by decide +kernel
theorem d1_1_16 : decode prog_47_method_5_code 16 = .ok (.laload, 1) := by decide +kernel
theorem d1_1_17 : decode prog_47_method_5_code 17 = .ok (.lconst 0, 1) := by decide +kernel
theorem d1_1_18 : decode prog_47_method_5_code 18 = .ok (.lcmp, 1) := by decide +kernel
theorem d1_1_19 : decode prog_47_method_5_code 19 = .ok (.ifCond .ne 7, 3) := by decide +kernel
theorem d1_1_22 : decode prog_47_method_5_code 22 = .ok (.iconst 1, 1) := by decide +kernel
theorem d1_1_23 : decode prog_47_method_5_code 23 = .ok (.goto 4, 3) := by decide +kernel
theorem d1_1_26 : decode prog_47_method_5_code 26 = .ok (.iconst 0, 1) := by decide +kernel
theorem d1_1_27 : decode prog_47_method_5_code 27 = .ok (.istore_n 1, 1) := by decide +kernel
theorem d1_1_28 : decode prog_47_method_5_code 28 = .ok (.iinc 2 1, 3) := by decide +kernel
theorem d1_1_31 : decode prog_47_method_5_code 31 = .ok (.goto (-27), 3) := by decide +kernel
theorem d1_1_34 : decode prog_47_method_5_code 34 = .ok (.iload_n 1, 1) := by decide +kernel
theorem d1_1_35 : decode prog_47_method_5_code 35 = .ok (.ireturn, 1) := by decide +kernel
theorem pn1_1 : plainName "com/example/meshwright/meshwright/plan/PathCrossings" = true := by first | (simp [plainName, overriddenIn]; done) | decide +kernel
theorem ef1_1 (m : MethodId) (a0 : Addr) : entryFrame m #[(.ref a0)] 3 = mkF m 0 #[.val (.ref a0), .unset, .unset] [] := by first | (simp [entryFrame, mkF, argsToLocals, Value.category]; done) | rfl
def own_Q1_1 (Z : State) (a0 : Addr) (ka : ClassId) (w0 : Int64) (h0 : Heap) (n0 : Nat) (v : Option Value) (h : Heap) (L : List Loc) : Prop := v = some (.int (own_f1_1 w0)) ∧ Fr n0 L ∧ h = h0
set_option maxRecDepth 65536 in
set_option maxHeartbeats 40000000 in
theorem rm1_1 (l : Launch) (Z : State) (az : Array Value) (hw : ∀ d ∈ tables_1, d.before az Z = true) (ws : List Jvm.Cond) (a0 : Addr) (ka : ClassId) (w0 : Int64) (h0 : Heap) (n0 : Nat) (Z0 : n0 ≤ h0.size) (V_a0 : Arv Z h0 a0 ka .long (1 : Int32) [(.long w0)] (.long (0 : Int64))) :
    MetFree l (⟨"com/example/meshwright/meshwright/plan/PathCrossings", "empty", "([J)Z"⟩ : MethodName) (head1 (Jvm.Cond.code (⟨"com/example/meshwright/meshwright/plan/PathCrossings", "empty", "([J)Z"⟩ : MethodName) prog_47_method_5_code 3 (some .boolean) :: ws) ({ frames := 0, cells := 0, slots := 0, locals := 0 } : Room)) (fun a U => a = #[(.ref a0)] ∧ Z.Warmed39 U.vm ∧ U.heap = h0) (fun _ _ _ _ _ => True) (fun _ U o U' => ∃ v L, o = .returned v ∧ own_Q1_1 Z a0 ka w0 h0 n0 v U'.heap L ∧ FrameEnd U o U' L ({ frames := 0, cells := 0, slots := 0, locals := 0 } : Room).cells ({ frames := 0, cells := 0, slots := 0, locals := 0 } : Room).slots) := by
  refine MetFree.of_bodySF (plainFor_of_name pn1_1) hisR ?_
  intro p e s m args below meth c s₁ Bd hml0 hP hK
  obtain ⟨rfl, hZ, hh⟩ := hP
  have hx := Bd.exec
  have hby := Bd.bytes
  have hml : c.maxLocals = 3 := hml0
  have hown : s.vm.findClass "com/example/meshwright/meshwright/plan/PathCrossings" = some m.cls := findClass_of_methodNamed Bd.named
  have hnm := (name_of_methodNamed Bd.named Bd.method).1
  have X0 : Stand p l e ({ frames := 0, cells := 0, slots := 0, locals := 0 } : Room) s m #[(.ref a0)] below meth c s₁ [] 0 0 := Stand.of_body Bd
  have e0 : s₁.heap = h0 := by rw [← hh, Bd.state]; rfl
  have N0 := Fr.nil n0
  show own_Go p.tables e below (fun o U' => ∃ v L, o = .returned v ∧ own_Q1_1 Z a0 ka w0 h0 n0 v U'.heap L ∧ FrameEnd s o U' L ({ frames := 0, cells := 0, slots := 0, locals := 0 } : Room).cells ({ frames := 0, cells := 0, slots := 0, locals := 0 } : Room).slots) (s₁.setTop (entryFrame m #[(.ref a0)] 3))
  refine own_go (fun _ k => castTop (ef1_1 m a0) k) ?_
  show own_Go p.tables e below _ (s₁.setTop (mkF m 0 #[.val (.ref a0), .unset, .unset] []))
  refine own_go (fun _ k => XS.iconst X0.here hx rfl (hb hby d1_1_0) k) ?_
  show own_Go p.tables e below _ (s₁.setTop (mkF m 1 #[.val (.ref a0), .unset, .unset] [(.int (1 : Int32))]))
  refine own_go (fun _ k => XS.istoreN X0.here hx rfl (hb hby d1_1_1) rfl (l' := #[.val (.ref a0), .val (.int (1 : Int32)), .unset]) rfl k) ?_
  show own_Go p.tables e below _ (s₁.setTop (mkF m 2 #[.val (.ref a0), .val (.int (1 : Int32)), .unset] []))
  refine own_go (fun _ k => XS.iconst X0.here hx rfl (hb hby d1_1_2) k) ?_
  show own_Go p.tables e below _ (s₁.setTop (mkF m 3 #[.val (.ref a0), .val (.int (1 : Int32)), .unset] [(.int (0 : Int32))]))
  refine own_go (fun _ k => XS.istoreN X0.here hx rfl (hb hby d1_1_3) rfl (l' := #[.val (.ref a0), .val (.int (1 : Int32)), .val (.int (0 : Int32))]) rfl k) ?_
  show own_Go p.tables e below _ (s₁.setTop (mkF m 4 #[.val (.ref a0), .val (.int (1 : Int32)), .val (.int (0 : Int32))] []))
  refine own_go (fun _ k => XS.iloadN X0.here hx rfl (hb hby d1_1_4) rfl k) ?_
  show own_Go p.tables e below _ (s₁.setTop (mkF m 5 #[.val (.ref a0), .val (.int (1 : Int32)), .val (.int (0 : Int32))] [(.int (0 : Int32))]))
  refine own_go (fun _ k => XS.aloadN X0.here hx rfl (hb hby d1_1_5) rfl rfl k) ?_
  show own_Go p.tables e below _ (s₁.setTop (mkF m 6 #[.val (.ref a0), .val (.int (1 : Int32)), .val (.int (0 : Int32))] [(.ref a0), (.int (0 : Int32))]))
  have vo1 := V_a0
  obtain ⟨cl1, Ar1, Aq1, AS1, AN1, AH1, AG1⟩ := vo1
  refine own_go (fun _ k => X0.arraylength hx (by rw [e0]; exact Ar1.1) (State.isArrayOf_alike hZ.alike Ar1.2.1) (g := (mkF m 6 #[.val (.ref a0), .val (.int (1 : Int32)), .val (.int (0 : Int32))] [(.ref a0), (.int (0 : Int32))])) rfl rfl (hb hby d1_1_6) _ k) ?_
  rw [len_of AS1 AN1]
  show own_Go p.tables e below _ (s₁.setTop (mkF m 7 #[.val (.ref a0), .val (.int (1 : Int32)), .val (.int (0 : Int32))] [(.int (1 : Int32)), (.int (0 : Int32))]))
  have hf7 : (0 : Int32) < (1 : Int32) := by decide
  refine own_go (fun _ k => XS.icmpNo X0.here hx rfl (hb hby d1_1_7) rfl (tlt hf7).2.1 k) ?_
  show own_Go p.tables e below _ (s₁.setTop (mkF m 10 #[.val (.ref a0), .val (.int (1 : Int32)), .val (.int (0 : Int32))] []))
  refine own_go (fun _ k => XS.iloadN X0.here hx rfl (hb hby d1_1_10) rfl k) ?_
  show own_Go p.tables e below _ (s₁.setTop (mkF m 11 #[.val (.ref a0), .val (.int (1 : Int32)), .val (.int (0 : Int32))] [(.int (1 : Int32))]))
  have hf11 : ¬ ((1 : Int32) = (0 : Int32)) := by decide
  refine own_go (fun _ k => XS.ifNo X0.here hx rfl (hb hby d1_1_11) rfl ((if0 _ _).trans (feq hf11).1) k) ?_
  show own_Go p.tables e below _ (s₁.setTop (mkF m 14 #[.val (.ref a0), .val (.int (1 : Int32)), .val (.int (0 : Int32))] []))
  refine own_go (fun _ k => XS.aloadN X0.here hx rfl (hb hby d1_1_14) rfl rfl k) ?_
  show own_Go p.tables e below _ (s₁.setTop (mkF m 15 #[.val (.ref a0), .val (.int (1 : Int32)), .val (.int (0 : Int32))] [(.ref a0)]))
  refine own_go (fun _ k => XS.iloadN X0.here hx rfl (hb hby d1_1_15) rfl k) ?_
  show own_Go p.tables e below _ (s₁.setTop (mkF m 16 #[.val (.ref a0), .val (.int (1 : Int32)), .val (.int (0 : Int32))] [(.int (0 : Int32)), (.ref a0)]))
  have vo2 := V_a0
  obtain ⟨cl2, Ar2, Aq2, AS2, AN2, AH2, AG2⟩ := vo2
  have hin2 : ¬ ((0 : Int32) < 0 ∨ cl2.slots.size ≤ ((0 : Int32)).toNatClampNeg) := inb_of AS2 ⟨by decide, by decide⟩
  have hat2 : cl2.slots[((0 : Int32)).toNatClampNeg]? = some (.long w0) := Has.at AH2 hin2 rfl
  refine own_go (fun _ k => X0.laload hx (j := (0 : Int32)) (v := (.long w0)) (by rw [e0]; exact Ar2.1) (State.isArrayOf_alike hZ.alike Ar2.2.1) Ar2.2.2 hin2 hat2 (g := (mkF m 16 #[.val (.ref a0), .val (.int (1 : Int32)), .val (.int (0 : Int32))] [(.int (0 : Int32)), (.ref a0)])) rfl rfl (hb hby d1_1_16) _ k) ?_
  show own_Go p.tables e below _ (s₁.setTop (mkF m 17 #[.val (.ref a0), .val (.int (1 : Int32)), .val (.int (0 : Int32))] [(.long w0)]))
  refine own_go (fun _ k => XS.lconst X0.here hx rfl (hb hby d1_1_17) k) ?_
  show own_Go p.tables e below _ (s₁.setTop (mkF m 18 #[.val (.ref a0), .val (.int (1 : Int32)), .val (.int (0 : Int32))] [(.long (0 : Int64)), (.long w0)]))
  refine own_go (fun _ k => XS.lcmp X0.here hx rfl (hb hby d1_1_18) rfl k) ?_
  show own_Go p.tables e below _ (s₁.setTop (mkF m 19 #[.val (.ref a0), .val (.int (1 : Int32)), .val (.int (0 : Int32))] [(.int (lcmpW w0 (0 : Int64)))]))
  have sg3 : ∀ t, Steps p.tables e below (s₁.setTop (mkF m 27 #[.val (.ref a0), .val (.int (1 : Int32)), .val (.int (0 : Int32))] [(.int (if w0 = (0 : Int64) then (1 : Int32) else (0 : Int32)))])) t → Steps p.tables e below (s₁.setTop (mkF m 19 #[.val (.ref a0), .val (.int (1 : Int32)), .val (.int (0 : Int32))] [(.int (lcmpW w0 (0 : Int64)))])) t := by
    intro t k
    by_cases hc19 : w0 = (0 : Int64)
    · try simp only [if_pos hc19] at k
      refine XS.ifNo X0.here hx rfl (hb hby d1_1_19) rfl ((if0 _ _).trans (teq ((lw_eq w0 (0 : Int64)).mpr hc19)).2) ?_
      show Steps p.tables e below (s₁.setTop (mkF m 22 #[.val (.ref a0), .val (.int (1 : Int32)), .val (.int (0 : Int32))] [])) _
      refine XS.iconst X0.here hx rfl (hb hby d1_1_22) ?_
      show Steps p.tables e below (s₁.setTop (mkF m 23 #[.val (.ref a0), .val (.int (1 : Int32)), .val (.int (0 : Int32))] [(.int (1 : Int32))])) _
      refine XS.goto X0.here hx rfl (pc0 := 23) (pc' := 27) rfl (hb hby d1_1_23) (by decide) (by decide) ?_
      show Steps p.tables e below (s₁.setTop (mkF m 27 #[.val (.ref a0), .val (.int (1 : Int32)), .val (.int (0 : Int32))] [(.int (1 : Int32))])) _
      exact k
    · try simp only [if_neg hc19] at k
      refine XS.ifYes X0.here hx rfl (pc0 := 19) (pc' := 26) rfl (hb hby d1_1_19) rfl ((if0 _ _).trans (feq (mt (lw_eq w0 (0 : Int64)).mp hc19)).2) (by decide) (by decide) ?_
      show Steps p.tables e below (s₁.setTop (mkF m 26 #[.val (.ref a0), .val (.int (1 : Int32)), .val (.int (0 : Int32))] [])) _
      refine XS.iconst X0.here hx rfl (hb hby d1_1_26) ?_
      show Steps p.tables e below (s₁.setTop (mkF m 27 #[.val (.ref a0), .val (.int (1 : Int32)), .val (.int (0 : Int32))] [(.int (0 : Int32))])) _
      exact k
  refine own_go sg3 ?_
  show own_Go p.tables e below _ (s₁.setTop (mkF m 27 #[.val (.ref a0), .val (.int (1 : Int32)), .val (.int (0 : Int32))] [(.int (if w0 = (0 : Int64) then (1 : Int32) else (0 : Int32)))]))
  refine own_go (fun _ k => XS.istoreN X0.here hx rfl (hb hby d1_1_27) rfl (l' := #[.val (.ref a0), .val (.int (if w0 = (0 : Int64) then (1 : Int32) else (0 : Int32))), .val (.int (0 : Int32))]) rfl k) ?_
  show own_Go p.tables e below _ (s₁.setTop (mkF m 28 #[.val (.ref a0), .val (.int (if w0 = (0 : Int64) then (1 : Int32) else (0 : Int32))), .val (.int (0 : Int32))] []))
  refine own_go (fun _ k => XS.iinc X0.here hx rfl (hb hby d1_1_28) rfl (l' := #[.val (.ref a0), .val (.int (if w0 = (0 : Int64) then (1 : Int32) else (0 : Int32))), .val (.int (1 : Int32))]) rfl k) ?_
  show own_Go p.tables e below _ (s₁.setTop (mkF m 31 #[.val (.ref a0), .val (.int (if w0 = (0 : Int64) then (1 : Int32) else (0 : Int32))), .val (.int (1 : Int32))] []))
  refine own_go (fun _ k => XS.goto X0.here hx rfl (pc0 := 31) (pc' := 4) rfl (hb hby d1_1_31) (by decide) (by decide) k) ?_
  show own_Go p.tables e below _ (s₁.setTop (mkF m 4 #[.val (.ref a0), .val (.int (if w0 = (0 : Int64) then (1 : Int32) else (0 : Int32))), .val (.int (1 : Int32))] []))
  refine own_go (fun _ k => XS.iloadN X0.here hx rfl (hb hby d1_1_4) rfl k) ?_
  show own_Go p.tables e below _ (s₁.setTop (mkF m 5 #[.val (.ref a0), .val (.int (if w0 = (0 : Int64) then (1 : Int32) else (0 : Int32))), .val (.int (1 : Int32))] [(.int (1 : Int32))]))
  refine own_go (fun _ k => XS.aloadN X0.here hx rfl (hb hby d1_1_5) rfl rfl k) ?_
  show own_Go p.tables e below _ (s₁.setTop (mkF m 6 #[.val (.ref a0), .val (.int (if w0 = (0 : Int64) then (1 : Int32) else (0 : Int32))), .val (.int (1 : Int32))] [(.ref a0), (.int (1 : Int32))]))
  have vo4 := V_a0
  obtain ⟨cl4, Ar4, Aq4, AS4, AN4, AH4, AG4⟩ := vo4
  refine own_go (fun _ k => X0.arraylength hx (by rw [e0]; exact Ar4.1) (State.isArrayOf_alike hZ.alike Ar4.2.1) (g := (mkF m 6 #[.val (.ref a0), .val (.int (if w0 = (0 : Int64) then (1 : Int32) else (0 : Int32))), .val (.int (1 : Int32))] [(.ref a0), (.int (1 : Int32))])) rfl rfl (hb hby d1_1_6) _ k) ?_
  rw [len_of AS4 AN4]
  show own_Go p.tables e below _ (s₁.setTop (mkF m 7 #[.val (.ref a0), .val (.int (if w0 = (0 : Int64) then (1 : Int32) else (0 : Int32))), .val (.int (1 : Int32))] [(.int (1 : Int32)), (.int (1 : Int32))]))
  have hf7 : ¬ ((1 : Int32) < (1 : Int32)) := by decide
  refine own_go (fun _ k => XS.icmpYes X0.here hx rfl (pc0 := 7) (pc' := 34) rfl (hb hby d1_1_7) rfl (flt hf7).2.1 (by decide) (by decide) k) ?_
  show own_Go p.tables e below _ (s₁.setTop (mkF m 34 #[.val (.ref a0), .val (.int (if w0 = (0 : Int64) then (1 : Int32) else (0 : Int32))), .val (.int (1 : Int32))] []))
  refine own_go (fun _ k => XS.iloadN X0.here hx rfl (hb hby d1_1_34) rfl k) ?_
  show own_Go p.tables e below _ (s₁.setTop (mkF m 35 #[.val (.ref a0), .val (.int (if w0 = (0 : Int64) then (1 : Int32) else (0 : Int32))), .val (.int (1 : Int32))] [(.int (if w0 = (0 : Int64) then (1 : Int32) else (0 : Int32)))]))
  refine own_end X0 Bd.notSynchronized (v := some (.int (nar .boolean (if w0 = (0 : Int64) then (1 : Int32) else (0 : Int32))))) (fun h => by rw [Bd.returns] at h; cases h) (fun fs hr => retN X0 hx (t := .boolean) Bd.returns (by simp) (hb hby d1_1_35) hr) ?_ (by decide) (by decide)
  exact ⟨by rw [own_f1_1], N0, e0⟩
def own_f1_2 (w0 : Int64) (w1 : Int64) : Int32 :=
  (if (if w0 = (0 : Int64) then (1 : Int32) else (0 : Int32)) = (0 : Int32) then (nar .boolean (if w0 = (0 : Int64) then (1 : Int32) else (0 : Int32))) else (nar .boolean (if w1 = (0 : Int64) then (1 : Int32) else (0 : Int32))))
theorem d1_2_0 : decode prog_47_method_5_code 0 = .ok (.iconst 1, 1) := by decide +kernel
theorem d1_2_1 : decode prog_47_method_5_code 1 = .ok (.istore_n 1, 1) := by decide +kernel
theorem d1_2_2 : decode prog_47_method_5_code 2 = .ok (.iconst 0, 1) := by decide +kernel
theorem d1_2_3 : decode prog_47_method_5_code 3 = .ok (.istore_n 2, 1) := by decide +kernel
theorem d1_2_4 : decode prog_47_method_5_code 4 = .ok (.iload_n 2, 1) := by decide +kernel
theorem d1_2_5 : decode prog_47_method_5_code 5 = .ok (.aload_n 0, 1) := by decide +kernel
theorem d1_2_6 : decode prog_47_method_5_code 6 = .ok (.arraylength, 1) := by decide +kernel
theorem d1_2_7 : decode prog_47_method_5_code 7 = .ok (.if_icmp .ge 27, 3) := by decide +kernel
theorem d1_2_10 : decode prog_47_method_5_code 10 = .ok (.iload_n 1, 1) := by decide +kernel
theorem d1_2_11 : decode prog_47_method_5_code 11 = .ok (.ifCond .eq 23, 3) := by decide +kernel
theorem d1_2_14 : decode prog_47_method_5_code 14 = .ok (.aload_n 0, 1) := by decide +kernel
theorem d1_2_15 : decode prog_47_method_5_code 15 = .ok (.iload_n 2, 1) := by decide +kernel
theorem d1_2_16 : decode prog_47_method_5_code 16 = .ok (.laload, 1) := by decide +kernel
theorem d1_2_17 : decode prog_47_method_5_code 17 = .ok (.lconst 0, 1) := by decide +kernel
theorem d1_2_18 : decode prog_47_method_5_code 18 = .ok (.lcmp, 1) := by decide +kernel
theorem d1_2_19 : decode prog_47_method_5_code 19 = .ok (.ifCond .ne 7, 3) := by decide +kernel
theorem d1_2_22 : decode prog_47_method_5_code 22 = .ok (.iconst 1, 1) := by decide +kernel
theorem d1_2_23 : decode prog_47_method_5_code 23 = .ok (.goto 4, 3) := by decide +kernel
theorem d1_2_26 : decode prog_47_method_5_code 26 = .ok (.iconst 0, 1) := by decide +kernel
theorem d1_2_27 : decode prog_47_method_5_code 27 = .ok (.istore_n 1, 1) := by decide +kernel
theorem d1_2_28 : decode prog_47_method_5_code 28 = .ok (.iinc 2 1, 3) := by decide +kernel
theorem d1_2_31 : decode prog_47_method_5_code 31 = .ok (.goto (-27), 3) := by decide +kernel
theorem d1_2_34 : decode prog_47_method_5_code 34 = .ok (.iload_n 1, 1) := by decide +kernel
theorem d1_2_35 : decode prog_47_method_5_code 35 = .ok (.ireturn, 1) := by decide +kernel
theorem pn1_2 : plainName "com/example/meshwright/meshwright/plan/PathCrossings" = true := by first | (simp [plainName, overriddenIn]; done) | decide +kernel
theorem ef1_2 (m : MethodId) (a0 : Addr) : entryFrame m #[(.ref a0)] 3 = mkF m 0 #[.val (.ref a0), .unset, .unset] [] := by first | (simp [entryFrame, mkF, argsToLocals, Value.category]; done) | rfl
def own_Q1_2 (Z : State) (a0 : Addr) (ka : ClassId) (w0 : Int64) (w1 : Int64) (h0 : Heap) (n0 : Nat) (v : Option Value) (h : Heap) (L : List Loc) : Prop := v = some (.int (own_f1_2 w0 w1)) ∧ Fr n0 L ∧ h = h0
set_option maxRecDepth 65536 in
set_option maxHeartbeats 40000000 in
theorem rm1_2 (l : Launch) (Z : State) (az : Array Value) (hw : ∀ d ∈ tables_1, d.before az Z = true) (ws : List Jvm.Cond) (a0 : Addr) (ka : ClassId) (w0 : Int64) (w1 : Int64) (h0 : Heap) (n0 : Nat) (Z0 : n0 ≤ h0.size) (V_a0 : Arv Z h0 a0 ka .long (2 : Int32) [(.long w0), (.long w1)] (.long (0 : Int64))) :
    MetFree l (⟨"com/example/meshwright/meshwright/plan/PathCrossings", "empty", "([J)Z"⟩ : MethodName) (head1 (Jvm.Cond.code (⟨"com/example/meshwright/meshwright/plan/PathCrossings", "empty", "([J)Z"⟩ : MethodName) prog_47_method_5_code 3 (some .boolean) :: ws) ({ frames := 0, cells := 0, slots := 0, locals := 0 } : Room)) (fun a U => a = #[(.ref a0)] ∧ Z.Warmed39 U.vm ∧ U.heap = h0) (fun _ _ _ _ _ => True) (fun _ U o U' => ∃ v L, o = .returned v ∧ own_Q1_2 Z a0 ka w0 w1 h0 n0 v U'.heap L ∧ FrameEnd U o U' L ({ frames := 0, cells := 0, slots := 0, locals := 0 } : Room).cells ({ frames := 0, cells := 0, slots := 0, locals := 0 } : Room).slots) := by
  refine MetFree.of_bodySF (plainFor_of_name pn1_2) hisR ?_
  intro p e s m args below meth c s₁ Bd hml0 hP hK
  obtain ⟨rfl, hZ, hh⟩ := hP
  have hx := Bd.exec
  have hby := Bd.bytes
  have hml : c.maxLocals = 3 := hml0
  have hown : s.vm.findClass "com/example/meshwright/meshwright/plan/PathCrossings" = some m.cls := findClass_of_methodNamed Bd.named
  have hnm := (name_of_methodNamed Bd.named Bd.method).1
  have X0 : Stand p l e ({ frames := 0, cells := 0, slots := 0, locals := 0 } : Room) s m #[(.ref a0)] below meth c s₁ [] 0 0 := Stand.of_body Bd
  have e0 : s₁.heap = h0 := by rw [← hh, Bd.state]; rfl
  have N0 := Fr.nil n0
  show own_Go p.tables e below (fun o U' => ∃ v L, o = .returned v ∧ own_Q1_2 Z a0 ka w0 w1 h0 n0 v U'.heap L ∧ FrameEnd s o U' L ({ frames := 0, cells := 0, slots := 0, locals := 0 } : Room).cells ({ frames := 0, cells := 0, slots := 0, locals := 0 } : Room).slots) (s₁.setTop (entryFrame m #[(.ref a0)] 3))
  refine own_go (fun _ k => castTop (ef1_2 m a0) k) ?_
  show own_Go p.tables e below _ (s₁.setTop (mkF m 0 #[.val (.ref a0), .unset, .unset] []))
  refine own_go (fun _ k => XS.iconst X0.here hx rfl (hb hby d1_2_0) k) ?_
  show own_Go p.tables e below _ (s₁.setTop (mkF m 1 #[.val (.ref a0), .unset, .unset] [(.int (1 : Int32))]))
  refine own_go (fun _ k => XS.istoreN X0.here hx rfl (hb hby d1_2_1) rfl (l' := #[.val (.ref a0), .val (.int (1 : Int32)), .unset]) rfl k) ?_
  show own_Go p.tables e below _ (s₁.setTop (mkF m 2 #[.val (.ref a0), .val (.int (1 : Int32)), .unset] []))
  refine own_go (fun _ k => XS.iconst X0.here hx rfl (hb hby d1_2_2) k) ?_
  show own_Go p.tables e below _ (s₁.setTop (mkF m 3 #[.val (.ref a0), .val (.int (1 : Int32)), .unset] [(.int (0 : Int32))]))
  refine own_go (fun _ k => XS.istoreN X0.here hx rfl (hb hby d1_2_3) rfl (l' := #[.val (.ref a0), .val (.int (1 : Int32)), .val (.int (0 : Int32))]) rfl k) ?_
  show own_Go p.tables e below _ (s₁.setTop (mkF m 4 #[.val (.ref a0), .val (.int (1 : Int32)), .val (.int (0 : Int32))] []))
  refine own_go (fun _ k => XS.iloadN X0.here hx rfl (hb hby d1_2_4) rfl k) ?_
  show own_Go p.tables e below _ (s₁.setTop (mkF m 5 #[.val (.ref a0), .val (.int (1 : Int32)), .val (.int (0 : Int32))] [(.int (0 : Int32))]))
  refine own_go (fun _ k => XS.aloadN X0.here hx rfl (hb hby d1_2_5) rfl rfl k) ?_
  show own_Go p.tables e below _ (s₁.setTop (mkF m 6 #[.val (.ref a0), .val (.int (1 : Int32)), .val (.int (0 : Int32))] [(.ref a0), (.int (0 : Int32))]))
  have vo1 := V_a0
  obtain ⟨cl1, Ar1, Aq1, AS1, AN1, AH1, AG1⟩ := vo1
  refine own_go (fun _ k => X0.arraylength hx (by rw [e0]; exact Ar1.1) (State.isArrayOf_alike hZ.alike Ar1.2.1) (g := (mkF m 6 #[.val (.ref a0), .val (.int (1 : Int32)), .val (.int (0 : Int32))] [(.ref a0), (.int (0 : Int32))])) rfl rfl (hb hby d1_2_6) _ k) ?_
  rw [len_of AS1 AN1]
  show own_Go p.tables e below _ (s₁.setTop (mkF m 7 #[.val (.ref a0), .val (.int (1 : Int32)), .val (.int (0 : Int32))] [(.int (2 : Int32)), (.int (0 : Int32))]))
  have hf7 : (0 : Int32) < (2 : Int32) := by decide
  refine own_go (fun _ k => XS.icmpNo X0.here hx rfl (hb hby d1_2_7) rfl (tlt hf7).2.1 k) ?_
  show own_Go p.tables e below _ (s₁.setTop (mkF m 10 #[.val (.ref a0), .val (.int (1 : Int32)), .val (.int (0 : Int32))] []))
  refine own_go (fun _ k => XS.iloadN X0.here hx rfl (hb hby d1_2_10) rfl k) ?_
  show own_Go p.tables e below _ (s₁.setTop (mkF m 11 #[.val (.ref a0), .val (.int (1 : Int32)), .val (.int (0 : Int32))] [(.int (1 : Int32))]))
  have hf11 : ¬ ((1 : Int32) = (0 : Int32)) := by decide
  refine own_go (fun _ k => XS.ifNo X0.here hx rfl (hb hby d1_2_11) rfl ((if0 _ _).trans (feq hf11).1) k) ?_
  show own_Go p.tables e below _ (s₁.setTop (mkF m 14 #[.val (.ref a0), .val (.int (1 : Int32)), .val (.int (0 : Int32))] []))
  refine own_go (fun _ k => XS.aloadN X0.here hx rfl (hb hby d1_2_14) rfl rfl k) ?_
  show own_Go p.tables e below _ (s₁.setTop (mkF m 15 #[.val (.ref a0), .val (.int (1 : Int32)), .val (.int (0 : Int32))] [(.ref a0)]))
  refine own_go (fun _ k => XS.iloadN X0.here hx rfl (hb hby d1_2_15) rfl k) ?_
  show own_Go p.tables e below _ (s₁.setTop (mkF m 16 #[.val (.ref a0), .val (.int (1 : Int32)), .val (.int (0 : Int32))] [(.int (0 : Int32)), (.ref a0)]))
  have vo2 := V_a0
  obtain ⟨cl2, Ar2, Aq2, AS2, AN2, AH2, AG2⟩ := vo2
  have hin2 : ¬ ((0 : Int32) < 0 ∨ cl2.slots.size ≤ ((0 : Int32)).toNatClampNeg) := inb_of AS2 ⟨by decide, by decide⟩
  have hat2 : cl2.slots[((0 : Int32)).toNatClampNeg]? = some (.long w0) := Has.at AH2 hin2 rfl
  refine own_go (fun _ k => X0.laload hx (j := (0 : Int32)) (v := (.long w0)) (by rw [e0]; exact Ar2.1) (State.isArrayOf_alike hZ.alike Ar2.2.1) Ar2.2.2 hin2 hat2 (g := (mkF m 16 #[.val (.ref a0), .val (.int (1 : Int32)), .val (.int (0 : Int32))] [(.int (0 : Int32)), (.ref a0)])) rfl rfl (hb hby d1_2_16) _ k) ?_
  show own_Go p.tables e below _ (s₁.setTop (mkF m 17 #[.val (.ref a0), .val (.int (1 : Int32)), .val (.int (0 : Int32))] [(.long w0)]))
  refine own_go (fun _ k => XS.lconst X0.here hx rfl (hb hby d1_2_17) k) ?_
  show own_Go p.tables e below _ (s₁.setTop (mkF m 18 #[.val (.ref a0), .val (.int (1 : Int32)), .val (.int (0 : Int32))] [(.long (0 : Int64)), (.long w0)]))
  refine own_go (fun _ k => XS.lcmp X0.here hx rfl (hb hby d1_2_18) rfl k) ?_
  show own_Go p.tables e below _ (s₁.setTop (mkF m 19 #[.val (.ref a0), .val (.int (1 : Int32)), .val (.int (0 : Int32))] [(.int (lcmpW w0 (0 : Int64)))]))
  have sg3 : ∀ t, Steps p.tables e below (s₁.setTop (mkF m 27 #[.val (.ref a0), .val (.int (1 : Int32)), .val (.int (0 : Int32))] [(.int (if w0 = (0 : Int64) then (1 : Int32) else (0 : Int32)))])) t → Steps p.tables e below (s₁.setTop (mkF m 19 #[.val (.ref a0), .val (.int (1 : Int32)), .val (.int (0 : Int32))] [(.int (lcmpW w0 (0 : Int64)))])) t := by
    intro t k
    by_cases hc19 : w0 = (0 : Int64)
    · try simp only [if_pos hc19] at k
      refine XS.ifNo X0.here hx rfl (hb hby d1_2_19) rfl ((if0 _ _).trans (teq ((lw_eq w0 (0 : Int64)).mpr hc19)).2) ?_
      show Steps p.tables e below (s₁.setTop (mkF m 22 #[.val (.ref a0), .val (.int (1 : Int32)), .val (.int (0 : Int32))] [])) _
      refine XS.iconst X0.here hx rfl (hb hby d1_2_22) ?_
      show Steps p.tables e below (s₁.setTop (mkF m 23 #[.val (.ref a0), .val (.int (1 : Int32)), .val (.int (0 : Int32))] [(.int (1 : Int32))])) _
      refine XS.goto X0.here hx rfl (pc0 := 23) (pc' := 27) rfl (hb hby d1_2_23) (by decide) (by decide) ?_
      show Steps p.tables e below (s₁.setTop (mkF m 27 #[.val (.ref a0), .val (.int (1 : Int32)), .val (.int (0 : Int32))] [(.int (1 : Int32))])) _
      exact k
    · try simp only [if_neg hc19] at k
      refine XS.ifYes X0.here hx rfl (pc0 := 19) (pc' := 26) rfl (hb hby d1_2_19) rfl ((if0 _ _).trans (feq (mt (lw_eq w0 (0 : Int64)).mp hc19)).2) (by decide) (by decide) ?_
      show Steps p.tables e below (s₁.setTop (mkF m 26 #[.val (.ref a0), .val (.int (1 : Int32)), .val (.int (0 : Int32))] [])) _
      refine XS.iconst X0.here hx rfl (hb hby d1_2_26) ?_
      show Steps p.tables e below (s₁.setTop (mkF m 27 #[.val (.ref a0), .val (.int (1 : Int32)), .val (.int (0 : Int32))] [(.int (0 : Int32))])) _
      exact k
  refine own_go sg3 ?_
  show own_Go p.tables e below _ (s₁.setTop (mkF m 27 #[.val (.ref a0), .val (.int (1 : Int32)), .val (.int (0 : Int32))] [(.int (if w0 = (0 : Int64) then (1 : Int32) else (0 : Int32)))]))
  refine own_go (fun _ k => XS.istoreN X0.here hx rfl (hb hby d1_2_27) rfl (l' := #[.val (.ref a0), .val (.int (if w0 = (0 : Int64) then (1 : Int32) else (0 : Int32))), .val (.int (0 : Int32))]) rfl k) ?_
  show own_Go p.tables e below _ (s₁.setTop (mkF m 28 #[.val (.ref a0), .val (.int (if w0 = (0 : Int64) then (1 : Int32) else (0 : Int32))), .val (.int (0 : Int32))] []))
  refine own_go (fun _ k => XS.iinc X0.here hx rfl (hb hby d1_2_28) rfl (l' := #[.val (.ref a0), .val (.int (if w0 = (0 : Int64) then (1 : Int32) else (0 : Int32))), .val (.int (1 : Int32))]) rfl k) ?_
  show own_Go p.tables e below _ (s₁.setTop (mkF m 31 #[.val (.ref a0), .val (.int (if w0 = (0 : Int64) then (1 : Int32) else (0 : Int32))), .val (.int (1 : Int32))] []))
  refine own_go (fun _ k => XS.goto X0.here hx rfl (pc0 := 31) (pc' := 4) rfl (hb hby d1_2_31) (by decide) (by decide) k) ?_
  show own_Go p.tables e below _ (s₁.setTop (mkF m 4 #[.val (.ref a0), .val (.int (if w0 = (0 : Int64) then (1 : Int32) else (0 : Int32))), .val (.int (1 : Int32))] []))
  refine own_go (fun _ k => XS.iloadN X0.here hx rfl (hb hby d1_2_4) rfl k) ?_
  show own_Go p.tables e below _ (s₁.setTop (mkF m 5 #[.val (.ref a0), .val (.int (if w0 = (0 : Int64) then (1 : Int32) else (0 : Int32))), .val (.int (1 : Int32))] [(.int (1 : Int32))]))
  refine own_go (fun _ k => XS.aloadN X0.here hx rfl (hb hby d1_2_5) rfl rfl k) ?_
  show own_Go p.tables e below _ (s₁.setTop (mkF m 6 #[.val (.ref a0), .val (.int (if w0 = (0 : Int64) then (1 : Int32) else (0 : Int32))), .val (.int (1 : Int32))] [(.ref a0), (.int (1 : Int32))]))
  have vo4 := V_a0
  obtain ⟨cl4, Ar4, Aq4, AS4, AN4, AH4, AG4⟩ := vo4
  refine own_go (fun _ k => X0.arraylength hx (by rw [e0]; exact Ar4.1) (State.isArrayOf_alike hZ.alike Ar4.2.1) (g := (mkF m 6 #[.val (.ref a0), .val (.int (if w0 = (0 : Int64) then (1 : Int32) else (0 : Int32))), .val (.int (1 : Int32))] [(.ref a0), (.int (1 : Int32))])) rfl rfl (hb hby d1_2_6) _ k) ?_
  rw [len_of AS4 AN4]
  show own_Go p.tables e below _ (s₁.setTop (mkF m 7 #[.val (.ref a0), .val (.int (if w0 = (0 : Int64) then (1 : Int32) else (0 : Int32))), .val (.int (1 : Int32))] [(.int (2 : Int32)), (.int (1 : Int32))]))
  have hf7 : (1 : Int32) < (2 : Int32) := by decide
  refine own_go (fun _ k => XS.icmpNo X0.here hx rfl (hb hby d1_2_7) rfl (tlt hf7).2.1 k) ?_
  show own_Go p.tables e below _ (s₁.setTop (mkF m 10 #[.val (.ref a0), .val (.int (if w0 = (0 : Int64) then (1 : Int32) else (0 : Int32))), .val (.int (1 : Int32))] []))
  refine own_go (fun _ k => XS.iloadN X0.here hx rfl (hb hby d1_2_10) rfl k) ?_
  show own_Go p.tables e below _ (s₁.setTop (mkF m 11 #[.val (.ref a0), .val (.int (if w0 = (0 : Int64) then (1 : Int32) else (0 : Int32))), .val (.int (1 : Int32))] [(.int (if w0 = (0 : Int64) then (1 : Int32) else (0 : Int32)))]))
  by_cases hc11 : (if w0 = (0 : Int64) then (1 : Int32) else (0 : Int32)) = (0 : Int32)
  · refine own_go (fun _ k => XS.ifYes X0.here hx rfl (pc0 := 11) (pc' := 34) rfl (hb hby d1_2_11) rfl ((if0 _ _).trans (teq hc11).1) (by decide) (by decide) k) ?_
    show own_Go p.tables e below _ (s₁.setTop (mkF m 34 #[.val (.ref a0), .val (.int (if w0 = (0 : Int64) then (1 : Int32) else (0 : Int32))), .val (.int (1 : Int32))] []))
    refine own_go (fun _ k => XS.iloadN X0.here hx rfl (hb hby d1_2_34) rfl k) ?_
    show own_Go p.tables e below _ (s₁.setTop (mkF m 35 #[.val (.ref a0), .val (.int (if w0 = (0 : Int64) then (1 : Int32) else (0 : Int32))), .val (.int (1 : Int32))] [(.int (if w0 = (0 : Int64) then (1 : Int32) else (0 : Int32)))]))
    refine own_end X0 Bd.notSynchronized (v := some (.int (nar .boolean (if w0 = (0 : Int64) then (1 : Int32) else (0 : Int32))))) (fun h => by rw [Bd.returns] at h; cases h) (fun fs hr => retN X0 hx (t := .boolean) Bd.returns (by simp) (hb hby d1_2_35) hr) ?_ (by decide) (by decide)
    exact ⟨by rw [own_f1_2, if_pos hc11], N0, e0⟩
  · refine own_go (fun _ k => XS.ifNo X0.here hx rfl (hb hby d1_2_11) rfl ((if0 _ _).trans (feq hc11).1) k) ?_
    show own_Go p.tables e below _ (s₁.setTop (mkF m 14 #[.val (.ref a0), .val (.int (if w0 = (0 : Int64) then (1 : Int32) else (0 : Int32))), .val (.int (1 : Int32))] []))
    refine own_go (fun _ k => XS.aloadN X0.here hx rfl (hb hby d1_2_14) rfl rfl k) ?_
    show own_Go p.tables e below _ (s₁.setTop (mkF m 15 #[.val (.ref a0), .val (.int (if w0 = (0 : Int64) then (1 : Int32) else (0 : Int32))), .val (.int (1 : Int32))] [(.ref a0)]))
    refine own_go (fun _ k => XS.iloadN X0.here hx rfl (hb hby d1_2_15) rfl k) ?_
    show own_Go p.tables e below _ (s₁.setTop (mkF m 16 #[.val (.ref a0), .val (.int (if w0 = (0 : Int64) then (1 : Int32) else (0 : Int32))), .val (.int (1 : Int32))] [(.int (1 : Int32)), (.ref a0)]))
    have vo5 := V_a0
    obtain ⟨cl5, Ar5, Aq5, AS5, AN5, AH5, AG5⟩ := vo5
    have hin5 : ¬ ((1 : Int32) < 0 ∨ cl5.slots.size ≤ ((1 : Int32)).toNatClampNeg) := inb_of AS5 ⟨by decide, by decide⟩
    have hat5 : cl5.slots[((1 : Int32)).toNatClampNeg]? = some (.long w1) := Has.at AH5 hin5 rfl
    refine own_go (fun _ k => X0.laload hx (j := (1 : Int32)) (v := (.long w1)) (by rw [e0]; exact Ar5.1) (State.isArrayOf_alike hZ.alike Ar5.2.1) Ar5.2.2 hin5 hat5 (g := (mkF m 16 #[.val (.ref a0), .val (.int (if w0 = (0 : Int64) then (1 : Int32) else (0 : Int32))), .val (.int (1 : Int32))] [(.int (1 : Int32)), (.ref a0)])) rfl rfl (hb hby d1_2_16) _ k) ?_
    show own_Go p.tables e below _ (s₁.setTop (mkF m 17 #[.val (.ref a0), .val (.int (if w0 = (0 : Int64) then (1 : Int32) else (0 : Int32))), .val (.int (1 : Int32))] [(.long w1)]))
    refine own_go (fun _ k => XS.lconst X0.here hx rfl (hb hby d1_2_17) k) ?_
    show own_Go p.tables e below _ (s₁.setTop (mkF m 18 #[.val (.ref a0), .val (.int (if w0 = (0 : Int64) then (1 : Int32) else (0 : Int32))), .val (.int (1 : Int32))] [(.long (0 : Int64)), (.long w1)]))
    refine own_go (fun _ k => XS.lcmp X0.here hx rfl (hb hby d1_2_18) rfl k) ?_
    show own_Go p.tables e below _ (s₁.setTop (mkF m 19 #[.val (.ref a0), .val (.int (if w0 = (0 : Int64) then (1 : Int32) else (0 : Int32))), .val (.int (1 : Int32))] [(.int (lcmpW w1 (0 : Int64)))]))
    have sg6 : ∀ t, Steps p.tables e below (s₁.setTop (mkF m 27 #[.val (.ref a0), .val (.int (if w0 = (0 : Int64) then (1 : Int32) else (0 : Int32))), .val (.int (1 : Int32))] [(.int (if w1 = (0 : Int64) then (1 : Int32) else (0 : Int32)))])) t → Steps p.tables e below (s₁.setTop (mkF m 19 #[.val (.ref a0), .val (.int (if w0 = (0 : Int64) then (1 : Int32) else (0 : Int32))), .val (.int (1 : Int32))] [(.int (lcmpW w1 (0 : Int64)))])) t := by
      intro t k
      by_cases hc19 : w1 = (0 : Int64)
      · try simp only [if_pos hc19] at k
        refine XS.ifNo X0.here hx rfl (hb hby d1_2_19) rfl ((if0 _ _).trans (teq ((lw_eq w1 (0 : Int64)).mpr hc19)).2) ?_
        show Steps p.tables e below (s₁.setTop (mkF m 22 #[.val (.ref a0), .val (.int (if w0 = (0 : Int64) then (1 : Int32) else (0 : Int32))), .val (.int (1 : Int32))] [])) _
        refine XS.iconst X0.here hx rfl (hb hby d1_2_22) ?_
        show Steps p.tables e below (s₁.setTop (mkF m 23 #[.val (.ref a0), .val (.int (if w0 = (0 : Int64) then (1 : Int32) else (0 : Int32))), .val (.int (1 : Int32))] [(.int (1 : Int32))])) _
        refine XS.goto X0.here hx rfl (pc0 := 23) (pc' := 27) rfl (hb hby d1_2_23) (by decide) (by decide) ?_
        show Steps p.tables e below (s₁.setTop (mkF m 27 #[.val (.ref a0), .val (.int (if w0 = (0 : Int64) then (1 : Int32) else (0 : Int32))), .val (.int (1 : Int32))] [(.int (1 : Int32))])) _
        exact k
      · try simp only [if_neg hc19] at k
        refine XS.ifYes X0.here hx rfl (pc0 := 19) (pc' := 26) rfl (hb hby d1_2_19) rfl ((if0 _ _).trans (feq (mt (lw_eq w1 (0 : Int64)).mp hc19)).2) (by decide) (by decide) ?_
        show Steps p.tables e below (s₁.setTop (mkF m 26 #[.val (.ref a0), .val (.int (if w0 = (0 : Int64) then (1 : Int32) else (0 : Int32))), .val (.int (1 : Int32))] [])) _
        refine XS.iconst X0.here hx rfl (hb hby d1_2_26) ?_
        show Steps p.tables e below (s₁.setTop (mkF m 27 #[.val (.ref a0), .val (.int (if w0 = (0 : Int64) then (1 : Int32) else (0 : Int32))), .val (.int (1 : Int32))] [(.int (0 : Int32))])) _
        exact k
    refine own_go sg6 ?_
    show own_Go p.tables e below _ (s₁.setTop (mkF m 27 #[.val (.ref a0), .val (.int (if w0 = (0 : Int64) then (1 : Int32) else (0 : Int32))), .val (.int (1 : Int32))] [(.int (if w1 = (0 : Int64) then (1 : Int32) else (0 : Int32)))]))
    refine own_go (fun _ k => XS.istoreN X0.here hx rfl (hb hby d1_2_27) rfl (l' := #[.val (.ref a0), .val (.int (if w1 = (0 : Int64) then (1 : Int32) else (0 : Int32))), .val (.int (1 : Int32))]) rfl k) ?_
    show own_Go p.tables e below _ (s₁.setTop (mkF m 28 #[.val (.ref a0), .val (.int (if w1 = (0 : Int64) then (1 : Int32) else (0 : Int32))), .val (.int (1 : Int32))] []))
    refine own_go (fun _ k => XS.iinc X0.here hx rfl (hb hby d1_2_28) rfl (l' := #[.val (.ref a0), .val (.int (if w1 = (0 : Int64) then (1 : Int32) else (0 : Int32))), .val (.int (2 : Int32))]) rfl k) ?_
    show own_Go p.tables e below _ (s₁.setTop (mkF m 31 #[.val (.ref a0), .val (.int (if w1 = (0 : Int64) then (1 : Int32) else (0 : Int32))), .val (.int (2 : Int32))] []))
    refine own_go (fun _ k => XS.goto X0.here hx rfl (pc0 := 31) (pc' := 4) rfl (hb hby d1_2_31) (by decide) (by decide) k) ?_
    show own_Go p.tables e below _ (s₁.setTop (mkF m 4 #[.val (.ref a0), .val (.int (if w1 = (0 : Int64) then (1 : Int32) else (0 : Int32))), .val (.int (2 : Int32))] []))
    refine own_go (fun _ k => XS.iloadN X0.here hx rfl (hb hby d1_2_4) rfl k) ?_
    show own_Go p.tables e below _ (s₁.setTop (mkF m 5 #[.val (.ref a0), .val (.int (if w1 = (0 : Int64) then (1 : Int32) else (0 : Int32))), .val (.int (2 : Int32))] [(.int (2 : Int32))]))
    refine own_go (fun _ k => XS.aloadN X0.here hx rfl (hb hby d1_2_5) rfl rfl k) ?_
    show own_Go p.tables e below _ (s₁.setTop (mkF m 6 #[.val (.ref a0), .val (.int (if w1 = (0 : Int64) then (1 : Int32) else (0 : Int32))), .val (.int (2 : Int32))] [(.ref a0), (.int (2 : Int32))]))
    have vo7 := V_a0
    obtain ⟨cl7, Ar7, Aq7, AS7, AN7, AH7, AG7⟩ := vo7
    refine own_go (fun _ k => X0.arraylength hx (by rw [e0]; exact Ar7.1) (State.isArrayOf_alike hZ.alike Ar7.2.1) (g := (mkF m 6 #[.val (.ref a0), .val (.int (if w1 = (0 : Int64) then (1 : Int32) else (0 : Int32))), .val (.int (2 : Int32))] [(.ref a0), (.int (2 : Int32))])) rfl rfl (hb hby d1_2_6) _ k) ?_
    rw [len_of AS7 AN7]
    show own_Go p.tables e below _ (s₁.setTop (mkF m 7 #[.val (.ref a0), .val (.int (if w1 = (0 : Int64) then (1 : Int32) else (0 : Int32))), .val (.int (2 : Int32))] [(.int (2 : Int32)), (.int (2 : Int32))]))
    have hf7 : ¬ ((2 : Int32) < (2 : Int32)) := by decide
    refine own_go (fun _ k => XS.icmpYes X0.here hx rfl (pc0 := 7) (pc' := 34) rfl (hb hby d1_2_7) rfl (flt hf7).2.1 (by decide) (by decide) k) ?_
    show own_Go p.tables e below _ (s₁.setTop (mkF m 34 #[.val (.ref a0), .val (.int (if w1 = (0 : Int64) then (1 : Int32) else (0 : Int32))), .val (.int (2 : Int32))] []))
    refine own_go (fun _ k => XS.iloadN X0.here hx rfl (hb hby d1_2_34) rfl k) ?_
    show own_Go p.tables e below _ (s₁.setTop (mkF m 35 #[.val (.ref a0), .val (.int (if w1 = (0 : Int64) then (1 : Int32) else (0 : Int32))), .val (.int (2 : Int32))] [(.int (if w1 = (0 : Int64) then (1 : Int32) else (0 : Int32)))]))
    refine own_end X0 Bd.notSynchronized (v := some (.int (nar .boolean (if w1 = (0 : Int64) then (1 : Int32) else (0 : Int32))))) (fun h => by rw [Bd.returns] at h; cases h) (fun fs hr => retN X0 hx (t := .boolean) Bd.returns (by simp) (hb hby d1_2_35) hr) ?_ (by decide) (by decide)
    exact ⟨by rw [own_f1_2, if_neg hc11], N0, e0⟩
def own_f1_3 (w0 : Int64) (w1 : Int64) (w2 : Int64) : Int32 :=
  (if (if w0 = (0 : Int64) then (1 : Int32) else (0 : Int32)) = (0 : Int32) then (nar .boolean (if w0 = (0 : Int64) then (1 : Int32) else (0 : Int32))) else (if (if w1 = (0 : Int64) then (1 : Int32) else (0 : Int32)) = (0 : Int32) then (nar .boolean (if w1 = (0 : Int64) then (1 : Int32) else (0 : Int32))) else (nar .boolean (if w2 = (0 : Int64) then (1 : Int32) else (0 : Int32)))))
theorem d1_3_0 : decode prog_47_method_5_code 0 = .ok (.iconst 1, 1) := by decide +kernel
theorem d1_3_1 : decode prog_47_method_5_code 1 = .ok (.istore_n 1, 1) := by decide +kernel
theorem d1_3_2 : decode prog_47_method_5_code 2 = .ok (.iconst 0, 1) := by decide +kernel
theorem d1_3_3 : decode prog_47_method_5_code 3 = .ok (.istore_n 2, 1) := by decide +kernel
theorem d1_3_4 : decode prog_47_method_5_code 4 = .ok (.iload_n 2, 1) := by decide +kernel
theorem d1_3_5 : decode prog_47_method_5_code 5 = .ok (.aload_n 0, 1) := by decide +kernel
theorem d1_3_6 : decode prog_47_method_5_code 6 = .ok (.arraylength, 1) := by decide +kernel
theorem d1_3_7 : decode prog_47_method_5_code 7 = .ok (.if_icmp .ge 27, 3) := by decide +kernel
theorem d1_3_10 : decode prog_47_method_5_code 10 = .ok (.iload_n 1, 1) := by decide +kernel
theorem d1_3_11 : decode prog_47_method_5_code 11 = .ok (.ifCond .eq 23, 3) := by decide +kernel
theorem d1_3_14 : decode prog_47_method_5_code 14 = .ok (.aload_n 0, 1) := by decide +kernel
theorem d1_3_15 : decode prog_47_method_5_code 15 = .ok (.iload_n 2, 1) := by decide +kernel
theorem d1_3_16 : decode prog_47_method_5_code 16 = .ok (.laload, 1) := by decide +kernel
theorem d1_3_17 : decode prog_47_method_5_code 17 = .ok (.lconst 0, 1) := by decide +kernel
theorem d1_3_18 : decode prog_47_method_5_code 18 = .ok (.lcmp, 1) := by decide +kernel
theorem d1_3_19 : decode prog_47_method_5_code 19 = .ok (.ifCond .ne 7, 3) := by decide +kernel
theorem d1_3_22 : decode prog_47_method_5_code 22 = .ok (.iconst 1, 1) := by decide +kernel
theorem d1_3_23 : decode prog_47_method_5_code 23 = .ok (.goto 4, 3) := by decide +kernel
theorem d1_3_26 : decode prog_47_method_5_code 26 = .ok (.iconst 0, 1) := by decide +kernel
theorem d1_3_27 : decode prog_47_method_5_code 27 = .ok (.istore_n 1, 1) := by decide +kernel
theorem d1_3_28 : decode prog_47_method_5_code 28 = .ok (.iinc 2 1, 3) := by decide +kernel
theorem d1_3_31 : decode prog_47_method_5_code 31 = .ok (.goto (-27), 3) := by decide +kernel
theorem d1_3_34 : decode prog_47_method_5_code 34 = .ok (.iload_n 1, 1) := by decide +kernel
theorem d1_3_35 : decode prog_47_method_5_code 35 = .ok (.ireturn, 1) := by decide +kernel
theorem pn1_3 : plainName "com/example/meshwright/meshwright/plan/PathCrossings" = true := by first | (simp [plainName, overriddenIn]; done) | decide +kernel
theorem ef1_3 (m : MethodId) (a0 : Addr) : entryFrame m #[(.ref a0)] 3 = mkF m 0 #[.val (.ref a0), .unset, .unset] [] := by first | (simp [entryFrame, mkF, argsToLocals, Value.category]; done) | rfl
def own_Q1_3 (Z : State) (a0 : Addr) (ka : ClassId) (w0 : Int64) (w1 : Int64) (w2 : Int64) (h0 : Heap) (n0 : Nat) (v : Option Value) (h : Heap) (L : List Loc) : Prop := v = some (.int (own_f1_3 w0 w1 w2)) ∧ Fr n0 L ∧ h = h0
set_option maxRecDepth 65536 in
set_option maxHeartbeats 40000000 in
theorem rm1_3 (l : Launch) (Z : State) (az : Array Value) (hw : ∀ d ∈ tables_1, d.before az Z = true) (ws : List Jvm.Cond) (a0 : Addr) (ka : ClassId) (w0 : Int64) (w1 : Int64) (w2 : Int64) (h0 : Heap) (n0 : Nat) (Z0 : n0 ≤ h0.size) (V_a0 : Arv Z h0 a0 ka .long (3 : Int32) [(.long w0), (.long w1), (.long w2)] (.long (0 : Int64))) :
    MetFree l (⟨"com/example/meshwright/meshwright/plan/PathCrossings", "empty", "([J)Z"⟩ : MethodName) (head1 (Jvm.Cond.code (⟨"com/example/meshwright/meshwright/plan/PathCrossings", "empty", "([J)Z"⟩ : MethodName) prog_47_method_5_code 3 (some .boolean) :: ws) ({ frames := 0, cells := 0, slots := 0, locals := 0 } : Room)) (fun a U => a = #[(.ref a0)] ∧ Z.Warmed39 U.vm ∧ U.heap = h0) (fun _ _ _ _ _ => True) (fun _ U o U' => ∃ v L, o = .returned v ∧ own_Q1_3 Z a0 ka w0 w1 w2 h0 n0 v U'.heap L ∧ FrameEnd U o U' L ({ frames := 0, cells := 0, slots := 0, locals := 0 } : Room).cells ({ frames := 0, cells := 0, slots := 0, locals := 0 } : Room).slots) := by
  refine MetFree.of_bodySF (plainFor_of_name pn1_3) hisR ?_
  intro p e s m args below meth c s₁ Bd hml0 hP hK
  obtain ⟨rfl, hZ, hh⟩ := hP
  have hx := Bd.exec
  have hby := Bd.bytes
  have hml : c.maxLocals = 3 := hml0
  have hown : s.vm.findClass "com/example/meshwright/meshwright/plan/PathCrossings" = some m.cls := findClass_of_methodNamed Bd.named
  have hnm := (name_of_methodNamed Bd.named Bd.method).1
  have X0 : Stand p l e ({ frames := 0, cells := 0, slots := 0, locals := 0 } : Room) s m #[(.ref a0)] below meth c s₁ [] 0 0 := Stand.of_body Bd
  have e0 : s₁.heap = h0 := by rw [← hh, Bd.state]; rfl
  have N0 := Fr.nil n0
  show own_Go p.tables e below (fun o U' => ∃ v L, o = .returned v ∧ own_Q1_3 Z a0 ka w0 w1 w2 h0 n0 v U'.heap L ∧ FrameEnd s o U' L ({ frames := 0, cells := 0, slots := 0, locals := 0 } : Room).cells ({ frames := 0, cells := 0, slots := 0, locals := 0 } : Room).slots) (s₁.setTop (entryFrame m #[(.ref a0)] 3))
  refine own_go (fun _ k => castTop (ef1_3 m a0) k) ?_
  show own_Go p.tables e below _ (s₁.setTop (mkF m 0 #[.val (.ref a0), .unset, .unset] []))
  refine own_go (fun _ k => XS.iconst X0.here hx rfl (hb hby d1_3_0) k) ?_
  show own_Go p.tables e below _ (s₁.setTop (mkF m 1 #[.val (.ref a0), .unset, .unset] [(.int (1 : Int32))]))
  refine own_go (fun _ k => XS.istoreN X0.here hx rfl (hb hby d1_3_1) rfl (l' := #[.val (.ref a0), .val (.int (1 : Int32)), .unset]) rfl k) ?_
  show own_Go p.tables e below _ (s₁.setTop (mkF m 2 #[.val (.ref a0), .val (.int (1 : Int32)), .unset] []))
  refine own_go (fun _ k => XS.iconst X0.here hx rfl (hb hby d1_3_2) k) ?_
  show own_Go p.tables e below _ (s₁.setTop (mkF m 3 #[.val (.ref a0), .val (.int (1 : Int32)), .unset] [(.int (0 : Int32))]))
  refine own_go (fun _ k => XS.istoreN X0.here hx rfl (hb hby d1_3_3) rfl (l' := #[.val (.ref a0), .val (.int (1 : Int32)), .val (.int (0 : Int32))]) rfl k) ?_
  show own_Go p.tables e below _ (s₁.setTop (mkF m 4 #[.val (.ref a0), .val (.int (1 : Int32)), .val (.int (0 : Int32))] []))
  refine own_go (fun _ k => XS.iloadN X0.here hx rfl (hb hby d1_3_4) rfl k) ?_
  show own_Go p.tables e below _ (s₁.setTop (mkF m 5 #[.val (.ref a0), .val (.int (1 : Int32)), .val (.int (0 : Int32))] [(.int (0 : Int32))]))
  refine own_go (fun _ k => XS.aloadN X0.here hx rfl (hb hby d1_3_5) rfl rfl k) ?_
  show own_Go p.tables e below _ (s₁.setTop (mkF m 6 #[.val (.ref a0), .val (.int (1 : Int32)), .val (.int (0 : Int32))] [(.ref a0), (.int (0 : Int32))]))
  have vo1 := V_a0
  obtain ⟨cl1, Ar1, Aq1, AS1, AN1, AH1, AG1⟩ := vo1
  refine own_go (fun _ k => X0.arraylength hx (by rw [e0]; exact Ar1.1) (State.isArrayOf_alike hZ.alike Ar1.2.1) (g := (mkF m 6 #[.val (.ref a0), .val (.int (1 : Int32)), .val (.int (0 : Int32))] [(.ref a0), (.int (0 : Int32))])) rfl rfl (hb hby d1_3_6) _ k) ?_
  rw [len_of AS1 AN1]
  show own_Go p.tables e below _ (s₁.setTop (mkF m 7 #[.val (.ref a0), .val (.int (1 : Int32)), .val (.int (0 : Int32))] [(.int (3 : Int32)), (.int (0 : Int32))]))
  have hf7 : (0 : Int32) < (3 : Int32) := by decide
  refine own_go (fun _ k => XS.icmpNo X0.here hx rfl (hb hby d1_3_7) rfl (tlt hf7).2.1 k) ?_
  show own_Go p.tables e below _ (s₁.setTop (mkF m 10 #[.val (.ref a0), .val (.int (1 : Int32)), .val (.int (0 : Int32))] []))
  refine own_go (fun _ k => XS.iloadN X0.here hx rfl (hb hby d1_3_10) rfl k) ?_
  show own_Go p.tables e below _ (s₁.setTop (mkF m 11 #[.val (.ref a0), .val (.int (1 : Int32)), .val (.int (0 : Int32))] [(.int (1 : Int32))]))
  have hf11 : ¬ ((1 : Int32) = (0 : Int32)) := by decide
  refine own_go (fun _ k => XS.ifNo X0.here hx rfl (hb hby d1_3_11) rfl ((if0 _ _).trans (feq hf11).1) k) ?_
  show own_Go p.tables e below _ (s₁.setTop (mkF m 14 #[.val (.ref a0), .val (.int (1 : Int32)), .val (.int (0 : Int32))] []))
  refine own_go (fun _ k => XS.aloadN X0.here hx rfl (hb hby d1_3_14) rfl rfl k) ?_
  show own_Go p.tables e below _ (s₁.setTop (mkF m 15 #[.val (.ref a0), .val (.int (1 : Int32)), .val (.int (0 : Int32))] [(.ref a0)]))
  refine own_go (fun _ k => XS.iloadN X0.here hx rfl (hb hby d1_3_15) rfl k) ?_
  show own_Go p.tables e below _ (s₁.setTop (mkF m 16 #[.val (.ref a0), .val (.int (1 : Int32)), .val (.int (0 : Int32))] [(.int (0 : Int32)), (.ref a0)]))
  have vo2 := V_a0
  obtain ⟨cl2, Ar2, Aq2, AS2, AN2, AH2, AG2⟩ := vo2
  have hin2 : ¬ ((0 : Int32) < 0 ∨ cl2.slots.size ≤ ((0 : Int32)).toNatClampNeg) := inb_of AS2 ⟨by decide, by decide⟩
  have hat2 : cl2.slots[((0 : Int32)).toNatClampNeg]? = some (.long w0) := Has.at AH2 hin2 rfl
  refine own_go (fun _ k => X0.laload hx (j := (0 : Int32)) (v := (.long w0)) (by rw [e0]; exact Ar2.1) (State.isArrayOf_alike hZ.alike Ar2.2.1) Ar2.2.2 hin2 hat2 (g := (mkF m 16 #[.val (.ref a0), .val (.int (1 : Int32)), .val (.int (0 : Int32))] [(.int (0 : Int32)), (.ref a0)])) rfl rfl (hb hby d1_3_16) _ k) ?_
  show own_Go p.tables e below _ (s₁.setTop (mkF m 17 #[.val (.ref a0), .val (.int (1 : Int32)), .val (.int (0 : Int32))] [(.long w0)]))
  refine own_go (fun _ k => XS.lconst X0.here hx rfl (hb hby d1_3_17) k) ?_
  show own_Go p.tables e below _ (s₁.setTop (mkF m 18 #[.val (.ref a0), .val (.int (1 : Int32)), .val (.int (0 : Int32))] [(.long (0 : Int64)), (.long w0)]))
  refine own_go (fun _ k => XS.lcmp X0.here hx rfl (hb hby d1_3_18) rfl k) ?_
  show own_Go p.tables e below _ (s₁.setTop (mkF m 19 #[.val (.ref a0), .val (.int (1 : Int32)), .val (.int (0 : Int32))] [(.int (lcmpW w0 (0 : Int64)))]))
  have sg3 : ∀ t, Steps p.tables e below (s₁.setTop (mkF m 27 #[.val (.ref a0), .val (.int (1 : Int32)), .val (.int (0 : Int32))] [(.int (if w0 = (0 : Int64) then (1 : Int32) else (0 : Int32)))])) t → Steps p.tables e below (s₁.setTop (mkF m 19 #[.val (.ref a0), .val (.int (1 : Int32)), .val (.int (0 : Int32))] [(.int (lcmpW w0 (0 : Int64)))])) t := by
    intro t k
    by_cases hc19 : w0 = (0 : Int64)
    · try simp only [if_pos hc19] at k
      refine XS.ifNo X0.here hx rfl (hb hby d1_3_19) rfl ((if0 _ _).trans (teq ((lw_eq w0 (0 : Int64)).mpr hc19)).2) ?_
      show Steps p.tables e below (s₁.setTop (mkF m 22 #[.val (.ref a0), .val (.int (1 : Int32)), .val (.int (0 : Int32))] [])) _
      refine XS.iconst X0.here hx rfl (hb hby d1_3_22) ?_
      show Steps p.tables e below (s₁.setTop (mkF m 23 #[.val (.ref a0), .val (.int (1 : Int32)), .val (.int (0 : Int32))] [(.int (1 : Int32))])) _
      refine XS.goto X0.here hx rfl (pc0 := 23) (pc' := 27) rfl (hb hby d1_3_23) (by decide) (by decide) ?_
      show Steps p.tables e below (s₁.setTop (mkF m 27 #[.val (.ref a0), .val (.int (1 : Int32)), .val (.int (0 : Int32))] [(.int (1 : Int32))])) _
      exact k
    · try simp only [if_neg hc19] at k
      refine XS.ifYes X0.here hx rfl (pc0 := 19) (pc' := 26) rfl (hb hby d1_3_19) rfl ((if0 _ _).trans (feq (mt (lw_eq w0 (0 : Int64)).mp hc19)).2) (by decide) (by decide) ?_
      show Steps p.tables e below (s₁.setTop (mkF m 26 #[.val (.ref a0), .val (.int (1 : Int32)), .val (.int (0 : Int32))] [])) _
      refine XS.iconst X0.here hx rfl (hb hby d1_3_26) ?_
      show Steps p.tables e below (s₁.setTop (mkF m 27 #[.val (.ref a0), .val (.int (1 : Int32)), .val (.int (0 : Int32))] [(.int (0 : Int32))])) _
      exact k
  refine own_go sg3 ?_
  show own_Go p.tables e below _ (s₁.setTop (mkF m 27 #[.val (.ref a0), .val (.int (1 : Int32)), .val (.int (0 : Int32))] [(.int (if w0 = (0 : Int64) then (1 : Int32) else (0 : Int32)))]))
  refine own_go (fun _ k => XS.istoreN X0.here hx rfl (hb hby d1_3_27) rfl (l' := #[.val (.ref a0), .val (.int (if w0 = (0 : Int64) then (1 : Int32) else (0 : Int32))), .val (.int (0 : Int32))]) rfl k) ?_
  show own_Go p.tables e below _ (s₁.setTop (mkF m 28 #[.val (.ref a0), .val (.int (if w0 = (0 : Int64) then (1 : Int32) else (0 : Int32))), .val (.int (0 : Int32))] []))
  refine own_go (fun _ k => XS.iinc X0.here hx rfl (hb hby d1_3_28) rfl (l' := #[.val (.ref a0), .val (.int (if w0 = (0 : Int64) then (1 : Int32) else (0 : Int32))), .val (.int (1 : Int32))]) rfl k) ?_
  show own_Go p.tables e below _ (s₁.setTop (mkF m 31 #[.val (.ref a0), .val (.int (if w0 = (0 : Int64) then (1 : Int32) else (0 : Int32))), .val (.int (1 : Int32))] []))
  refine own_go (fun _ k => XS.goto X0.here hx rfl (pc0 := 31) (pc' := 4) rfl (hb hby d1_3_31) (by decide) (by decide) k) ?_
  show own_Go p.tables e below _ (s₁.setTop (mkF m 4 #[.val (.ref a0), .val (.int (if w0 = (0 : Int64) then (1 : Int32) else (0 : Int32))), .val (.int (1 : Int32))] []))
  refine own_go (fun _ k => XS.iloadN X0.here hx rfl (hb hby d1_3_4) rfl k) ?_
  show own_Go p.tables e below _ (s₁.setTop (mkF m 5 #[.val (.ref a0), .val (.int (if w0 = (0 : Int64) then (1 : Int32) else (0 : Int32))), .val (.int (1 : Int32))] [(.int (1 : Int32))]))
  refine own_go (fun _ k => XS.aloadN X0.here hx rfl (hb hby d1_3_5) rfl rfl k) ?_
  show own_Go p.tables e below _ (s₁.setTop (mkF m 6 #[.val (.ref a0), .val (.int (if w0 = (0 : Int64) then (1 : Int32) else (0 : Int32))), .val (.int (1 : Int32))] [(.ref a0), (.int (1 : Int32))]))
  have vo4 := V_a0
  obtain ⟨cl4, Ar4, Aq4, AS4, AN4, AH4, AG4⟩ := vo4
  refine own_go (fun _ k => X0.arraylength hx (by rw [e0]; exact Ar4.1) (State.isArrayOf_alike hZ.alike Ar4.2.1) (g := (mkF m 6 #[.val (.ref a0), .val (.int (if w0 = (0 : Int64) then (1 : Int32) else (0 : Int32))), .val (.int (1 : Int32))] [(.ref a0), (.int (1 : Int32))])) rfl rfl (hb hby d1_3_6) _ k) ?_
  rw [len_of AS4 AN4]
  show own_Go p.tables e below _ (s₁.setTop (mkF m 7 #[.val (.ref a0), .val (.int (if w0 = (0 : Int64) then (1 : Int32) else (0 : Int32))), .val (.int (1 : Int32))] [(.int (3 : Int32)), (.int (1 : Int32))]))
  have hf7 : (1 : Int32) < (3 : Int32) := by decide
  refine own_go (fun _ k => XS.icmpNo X0.here hx rfl (hb hby d1_3_7) rfl (tlt hf7).2.1 k) ?_
  show own_Go p.tables e below _ (s₁.setTop (mkF m 10 #[.val (.ref a0), .val (.int (if w0 = (0 : Int64) then (1 : Int32) else (0 : Int32))), .val (.int (1 : Int32))] []))
  refine own_go (fun _ k => XS.iloadN X0.here hx rfl (hb hby d1_3_10) rfl k) ?_
  show own_Go p.tables e below _ (s₁.setTop (mkF m 11 #[.val (.ref a0), .val (.int (if w0 = (0 : Int64) then (1 : Int32) else (0 : Int32))), .val (.int (1 : Int32))] [(.int (if w0 = (0 : Int64) then (1 : Int32) else (0 : Int32)))]))
  by_cases hc11 : (if w0 = (0 : Int64) then (1 : Int32) else (0 : Int32)) = (0 : Int32)
  · refine own_go (fun _ k => XS.ifYes X0.here hx rfl (pc0 := 11) (pc' := 34) rfl (hb hby d1_3_11) rfl ((if0 _ _).trans (teq hc11).1) (by decide) (by decide) k) ?_
    show own_Go p.tables e below _ (s₁.setTop (mkF m 34 #[.val (.ref a0), .val (.int (if w0 = (0 : Int64) then (1 : Int32) else (0 : Int32))), .val (.int (1 : Int32))] []))
    refine own_go (fun _ k => XS.iloadN X0.here hx rfl (hb hby d1_3_34) rfl k) ?_
    show own_Go p.tables e below _ (s₁.setTop (mkF m 35 #[.val (.ref a0), .val (.int (if w0 = (0 : Int64) then (1 : Int32) else (0 : Int32))), .val (.int (1 : Int32))] [(.int (if w0 = (0 : Int64) then (1 : Int32) else (0 : Int32)))]))
    refine own_end X0 Bd.notSynchronized (v := some (.int (nar .boolean (if w0 = (0 : Int64) then (1 : Int32) else (0 : Int32))))) (fun h => by rw [Bd.returns] at h; cases h) (fun fs hr => retN X0 hx (t := .boolean) Bd.returns (by simp) (hb hby d1_3_35) hr) ?_ (by decide) (by decide)
    exact ⟨by rw [own_f1_3, if_pos hc11], N0, e0⟩
  · refine own_go (fun _ k => XS.ifNo X0.here hx rfl (hb hby d1_3_11) rfl ((if0 _ _).trans (feq hc11).1) k) ?_
    show own_Go p.tables e below _ (s₁.setTop (mkF m 14 #[.val (.ref a0), .val (.int (if w0 = (0 : Int64) then (1 : Int32) else (0 : Int32))), .val (.int (1 : Int32))] []))
    refine own_go (fun _ k => XS.aloadN X0.here hx rfl (hb hby d1_3_14) rfl rfl k) ?_
    show own_Go p.tables e below _ (s₁.setTop (mkF m 15 #[.val (.ref a0), .val (.int (if w0 = (0 : Int64) then (1 : Int32) else (0 : Int32))), .val (.int (1 : Int32))] [(.ref a0)]))
    refine own_go (fun _ k => XS.iloadN X0.here hx rfl (hb hby d1_3_15) rfl k) ?_
    show own_Go p.tables e below _ (s₁.setTop (mkF m 16 #[.val (.ref a0), .val (.int (if w0 = (0 : Int64) then (1 : Int32) else (0 : Int32))), .val (.int (1 : Int32))] [(.int (1 : Int32)), (.ref a0)]))
    have vo5 := V_a0
    obtain ⟨cl5, Ar5, Aq5, AS5, AN5, AH5, AG5⟩ := vo5
    have hin5 : ¬ ((1 : Int32) < 0 ∨ cl5.slots.size ≤ ((1 : Int32)).toNatClampNeg) := inb_of AS5 ⟨by decide, by decide⟩
    have hat5 : cl5.slots[((1 : Int32)).toNatClampNeg]? = some (.long w1) := Has.at AH5 hin5 rfl
    refine own_go (fun _ k => X0.laload hx (j := (1 : Int32)) (v := (.long w1)) (by rw [e0]; exact Ar5.1) (State.isArrayOf_alike hZ.alike Ar5.2.1) Ar5.2.2 hin5 hat5 (g := (mkF m 16 #[.val (.ref a0), .val (.int (if w0 = (0 : Int64) then (1 : Int32) else (0 : Int32))), .val (.int (1 : Int32))] [(.int (1 : Int32)), (.ref a0)])) rfl rfl (hb hby d1_3_16) _ k) ?_
    show own_Go p.tables e below _ (s₁.setTop (mkF m 17 #[.val (.ref a0), .val (.int (if w0 = (0 : Int64) then (1 : Int32) else (0 : Int32))), .val (.int (1 : Int32))] [(.long w1)]))
    refine own_go (fun _ k => XS.lconst X0.here hx rfl (hb hby d1_3_17) k) ?_
    show own_Go p.tables e below _ (s₁.setTop (mkF m 18 #[.val (.ref a0), .val (.int (if w0 = (0 : Int64) then (1 : Int32) else (0 : Int32))), .val (.int (1 : Int32))] [(.long (0 : Int64)), (.long w1)]))
    refine own_go (fun _ k => XS.lcmp X0.here hx rfl (hb hby d1_3_18) rfl k) ?_
    show own_Go p.tables e below _ (s₁.setTop (mkF m 19 #[.val (.ref a0), .val (.int (if w0 = (0 : Int64) then (1 : Int32) else (0 : Int32))), .val (.int (1 : Int32))] [(.int (lcmpW w1 (0 : Int64)))]))
    have sg6 : ∀ t, Steps p.tables e below (s₁.setTop (mkF m 27 #[.val (.ref a0), .val (.int (if w0 = (0 : Int64) then (1 : Int32) else (0 : Int32))), .val (.int (1 : Int32))] [(.int (if w1 = (0 : Int64) then (1 : Int32) else (0 : Int32)))])) t → Steps p.tables e below (s₁.setTop (mkF m 19 #[.val (.ref a0), .val (.int (if w0 = (0 : Int64) then (1 : Int32) else (0 : Int32))), .val (.int (1 : Int32))] [(.int (lcmpW w1 (0 : Int64)))])) t := by
      intro t k
      by_cases hc19 : w1 = (0 : Int64)
      · try simp only [if_pos hc19] at k
        refine XS.ifNo X0.here hx rfl (hb hby d1_3_19) rfl ((if0 _ _).trans (teq ((lw_eq w1 (0 : Int64)).mpr hc19)).2) ?_
        show Steps p.tables e below (s₁.setTop (mkF m 22 #[.val (.ref a0), .val (.int (if w0 = (0 : Int64) then (1 : Int32) else (0 : Int32))), .val (.int (1 : Int32))] [])) _
        refine XS.iconst X0.here hx rfl (hb hby d1_3_22) ?_
        show Steps p.tables e below (s₁.setTop (mkF m 23 #[.val (.ref a0), .val (.int (if w0 = (0 : Int64) then (1 : Int32) else (0 : Int32))), .val (.int (1 : Int32))] [(.int (1 : Int32))])) _
        refine XS.goto X0.here hx rfl (pc0 := 23) (pc' := 27) rfl (hb hby d1_3_23) (by decide) (by decide) ?_
        show Steps p.tables e below (s₁.setTop (mkF m 27 #[.val (.ref a0), .val (.int (if w0 = (0 : Int64) then (1 : Int32) else (0 : Int32))), .val (.int (1 : Int32))] [(.int (1 : Int32))])) _
        exact k
      · try simp only [if_neg hc19] at k
        refine XS.ifYes X0.here hx rfl (pc0 := 19) (pc' := 26) rfl (hb hby d1_3_19) rfl ((if0 _ _).trans (feq (mt (lw_eq w1 (0 : Int64)).mp hc19)).2) (by decide) (by decide) ?_
        show Steps p.tables e below (s₁.setTop (mkF m 26 #[.val (.ref a0), .val (.int (if w0 = (0 : Int64) then (1 : Int32) else (0 : Int32))), .val (.int (1 : Int32))] [])) _
        refine XS.iconst X0.here hx rfl (hb hby d1_3_26) ?_
        show Steps p.tables e below (s₁.setTop (mkF m 27 #[.val (.ref a0), .val (.int (if w0 = (0 : Int64) then (1 : Int32) else (0 : Int32))), .val (.int (1 : Int32))] [(.int (0 : Int32))])) _
        exact k
    refine own_go sg6 ?_
    show own_Go p.tables e below _ (s₁.setTop (mkF m 27 #[.val (.ref a0), .val (.int (if w0 = (0 : Int64) then (1 : Int32) else (0 : Int32))), .val (.int (1 : Int32))] [(.int (if w1 = (0 : Int64) then (1 : Int32) else (0 : Int32)))]))
    refine own_go (fun _ k => XS.istoreN X0.here hx rfl (hb hby d1_3_27) rfl (l' := #[.val (.ref a0), .val (.int (if w1 = (0 : Int64) then (1 : Int32) else (0 : Int32))), .val (.int (1 : Int32))]) rfl k) ?_
    show own_Go p.tables e below _ (s₁.setTop (mkF m 28 #[.val (.ref a0), .val (.int (if w1 = (0 : Int64) then (1 : Int32) else (0 : Int32))), .val (.int (1 : Int32))] []))
    refine own_go (fun _ k => XS.iinc X0.here hx rfl (hb hby d1_3_28) rfl (l' := #[.val (.ref a0), .val (.int (if w1 = (0 : Int64) then (1 : Int32) else (0 : Int32))), .val (.int (2 : Int32))]) rfl k) ?_
    show own_Go p.tables e below _ (s₁.setTop (mkF m 31 #[.val (.ref a0), .val (.int (if w1 = (0 : Int64) then (1 : Int32) else (0 : Int32))), .val (.int (2 : Int32))] []))
    refine own_go (fun _ k => XS.goto X0.here hx rfl (pc0 := 31) (pc' := 4) rfl (hb hby d1_3_31) (by decide) (by decide) k) ?_
    show own_Go p.tables e below _ (s₁.setTop (mkF m 4 #[.val (.ref a0), .val (.int (if w1 = (0 : Int64) then (1 : Int32) else (0 : Int32))), .val (.int (2 : Int32))] []))
    refine own_go (fun _ k => XS.iloadN X0.here hx rfl (hb hby d1_3_4) rfl k) ?_
    show own_Go p.tables e below _ (s₁.setTop (mkF m 5 #[.val (.ref a0), .val (.int (if w1 = (0 : Int64) then (1 : Int32) else (0 : Int32))), .val (.int (2 : Int32))] [(.int (2 : Int32))]))
    refine own_go (fun _ k => XS.aloadN X0.here hx rfl (hb hby d1_3_5) rfl rfl k) ?_
    show own_Go p.tables e below _ (s₁.setTop (mkF m 6 #[.val (.ref a0), .val (.int (if w1 = (0 : Int64) then (1 : Int32) else (0 : Int32))), .val (.int (2 : Int32))] [(.ref a0), (.int (2 : Int32))]))
    have vo7 := V_a0
    obtain ⟨cl7, Ar7, Aq7, AS7, AN7, AH7, AG7⟩ := vo7
    refine own_go (fun _ k => X0.arraylength hx (by rw [e0]; exact Ar7.1) (State.isArrayOf_alike hZ.alike Ar7.2.1) (g := (mkF m 6 #[.val (.ref a0), .val (.int (if w1 = (0 : Int64) then (1 : Int32) else (0 : Int32))), .val (.int (2 : Int32))] [(.ref a0), (.int (2 : Int32))])) rfl rfl (hb hby d1_3_6) _ k) ?_
    rw [len_of AS7 AN7]
    show own_Go p.tables e below _ (s₁.setTop (mkF m 7 #[.val (.ref a0), .val (.int (if w1 = (0 : Int64) then (1 : Int32) else (0 : Int32))), .val (.int (2 : Int32))] [(.int (3 : Int32)), (.int (2 : Int32))]))
    have hf7 : (2 : Int32) < (3 : Int32) := by decide
    refine own_go (fun _ k => XS.icmpNo X0.here hx rfl (hb hby d1_3_7) rfl (tlt hf7).2.1 k) ?_
    show own_Go p.tables e below _ (s₁.setTop (mkF m 10 #[.val (.ref a0), .val (.int (if w1 = (0 : Int64) then (1 : Int32) else (0 : Int32))), .val (.int (2 : Int32))] []))
    refine own_go (fun _ k => XS.iloadN X0.here hx rfl (hb hby d1_3_10) rfl k) ?_
    show own_Go p.tables e below _ (s₁.setTop (mkF m 11 #[.val (.ref a0), .val (.int (if w1 = (0 : Int64) then (1 : Int32) else (0 : Int32))), .val (.int (2 : Int32))] [(.int (if w1 = (0 : Int64) then (1 : Int32) else (0 : Int32)))]))
    by_cases hc11_2 : (if w1 = (0 : Int64) then (1 : Int32) else (0 : Int32)) = (0 : Int32)
    · refine own_go (fun _ k => XS.ifYes X0.here hx rfl (pc0 := 11) (pc' := 34) rfl (hb hby d1_3_11) rfl ((if0 _ _).trans (teq hc11_2).1) (by decide) (by decide) k) ?_
      show own_Go p.tables e below _ (s₁.setTop (mkF m 34 #[.val (.ref a0), .val (.int (if w1 = (0 : Int64) then (1 : Int32) else (0 : Int32))), .val (.int (2 : Int32))] []))
      refine own_go (fun _ k => XS.iloadN X0.here hx rfl (hb hby d1_3_34) rfl k) ?_
      show own_Go p.tables e below _ (s₁.setTop (mkF m 35 #[.val (.ref a0), .val (.int (if w1 = (0 : Int64) then (1 : Int32) else (0 : Int32))), .val (.int (2 : Int32))] [(.int (if w1 = (0 : Int64) then (1 : Int32) else (0 : Int32)))]))
      refine own_end X0 Bd.notSynchronized (v := some (.int (nar .boolean (if w1 = (0 : Int64) then (1 : Int32) else (0 : Int32))))) (fun h => by rw [Bd.returns] at h; cases h) (fun fs hr => retN X0 hx (t := .boolean) Bd.returns (by simp) (hb hby d1_3_35) hr) ?_ (by decide) (by decide)
      exact ⟨by rw [own_f1_3, if_neg hc11, if_pos hc11_2], N0, e0⟩
    · refine own_go (fun _ k => XS.ifNo X0.here hx rfl (hb hby d1_3_11) rfl ((if0 _ _).trans (feq hc11_2).1) k) ?_
      show own_Go p.tables e below _ (s₁.setTop (mkF m 14 #[.val (.ref a0), .val (.int (if w1 = (0 : Int64) then (1 : Int32) else (0 : Int32))), .val (.int (2 : Int32))] []))
      refine own_go (fun _ k => XS.aloadN X0.here hx rfl (hb hby d1_3_14) rfl rfl k) ?_
      show own_Go p.tables e below _ (s₁.setTop (mkF m 15 #[.val (.ref a0), .val (.int (if w1 = (0 : Int64) then (1 : Int32) else (0 : Int32))), .val (.int (2 : Int32))] [(.ref a0)]))
      refine own_go (fun _ k => XS.iloadN X0.here hx rfl (hb hby d1_3_15) rfl k) ?_
      show own_Go p.tables e below _ (s₁.setTop (mkF m 16 #[.val (.ref a0), .val (.int (if w1 = (0 : Int64) then (1 : Int32) else (0 : Int32))), .val (.int (2 : Int32))] [(.int (2 : Int32)), (.ref a0)]))
      have vo8 := V_a0
      obtain ⟨cl8, Ar8, Aq8, AS8, AN8, AH8, AG8⟩ := vo8
      have hin8 : ¬ ((2 : Int32) < 0 ∨ cl8.slots.size ≤ ((2 : Int32)).toNatClampNeg) := inb_of AS8 ⟨by decide, by decide⟩
      have hat8 : cl8.slots[((2 : Int32)).toNatClampNeg]? = some (.long w2) := Has.at AH8 hin8 rfl
      refine own_go (fun _ k => X0.laload hx (j := (2 : Int32)) (v := (.long w2)) (by rw [e0]; exact Ar8.1) (State.isArrayOf_alike hZ.alike Ar8.2.1) Ar8.2.2 hin8 hat8 (g := (mkF m 16 #[.val (.ref a0), .val (.int (if w1 = (0 : Int64) then (1 : Int32) else (0 : Int32))), .val (.int (2 : Int32))] [(.int (2 : Int32)), (.ref a0)])) rfl rfl (hb hby d1_3_16) _ k) ?_
      show own_Go p.tables e below _ (s₁.setTop (mkF m 17 #[.val (.ref a0), .val (.int (if w1 = (0 : Int64) then (1 : Int32) else (0 : Int32))), .val (.int (2 : Int32))] [(.long w2)]))
      refine own_go (fun _ k => XS.lconst X0.here hx rfl (hb hby d1_3_17) k) ?_
      show own_Go p.tables e below _ (s₁.setTop (mkF m 18 #[.val (.ref a0), .val (.int (if w1 = (0 : Int64) then (1 : Int32) else (0 : Int32))), .val (.int (2 : Int32))] [(.long (0 : Int64)), (.long w2)]))
      refine own_go (fun _ k => XS.lcmp X0.here hx rfl (hb hby d1_3_18) rfl k) ?_
      show own_Go p.tables e below _ (s₁.setTop (mkF m 19 #[.val (.ref a0), .val (.int (if w1 = (0 : Int64) then (1 : Int32) else (0 : Int32))), .val (.int (2 : Int32))] [(.int (lcmpW w2 (0 : Int64)))]))
      have sg9 : ∀ t, Steps p.tables e below (s₁.setTop (mkF m 27 #[.val (.ref a0), .val (.int (if w1 = (0 : Int64) then (1 : Int32) else (0 : Int32))), .val (.int (2 : Int32))] [(.int (if w2 = (0 : Int64) then (1 : Int32) else (0 : Int32)))])) t → Steps p.tables e below (s₁.setTop (mkF m 19 #[.val (.ref a0), .val (.int (if w1 = (0 : Int64) then (1 : Int32) else (0 : Int32))), .val (.int (2 : Int32))] [(.int (lcmpW w2 (0 : Int64)))])) t := by
        intro t k
        by_cases hc19 : w2 = (0 : Int64)
        · try simp only [if_pos hc19] at k
          refine XS.ifNo X0.here hx rfl (hb hby d1_3_19) rfl ((if0 _ _).trans (teq ((lw_eq w2 (0 : Int64)).mpr hc19)).2) ?_
          show Steps p.tables e below (s₁.setTop (mkF m 22 #[.val (.ref a0), .val (.int (if w1 = (0 : Int64) then (1 : Int32) else (0 : Int32))), .val (.int (2 : Int32))] [])) _
          refine XS.iconst X0.here hx rfl (hb hby d1_3_22) ?_
          show Steps p.tables e below (s₁.setTop (mkF m 23 #[.val (.ref a0), .val (.int (if w1 = (0 : Int64) then (1 : Int32) else (0 : Int32))), .val (.int (2 : Int32))] [(.int (1 : Int32))])) _
          refine XS.goto X0.here hx rfl (pc0 := 23) (pc' := 27) rfl (hb hby d1_3_23) (by decide) (by decide) ?_
          show Steps p.tables e below (s₁.setTop (mkF m 27 #[.val (.ref a0), .val (.int (if w1 = (0 : Int64) then (1 : Int32) else (0 : Int32))), .val (.int (2 : Int32))] [(.int (1 : Int32))])) _
          exact k
        · try simp only [if_neg hc19] at k
          refine XS.ifYes X0.here hx rfl (pc0 := 19) (pc' := 26) rfl (hb hby d1_3_19) rfl ((if0 _ _).trans (feq (mt (lw_eq w2 (0 : Int64)).mp hc19)).2) (by decide) (by decide) ?_
          show Steps p.tables e below (s₁.setTop (mkF m 26 #[.val (.ref a0), .val (.int (if w1 = (0 : Int64) then (1 : Int32) else (0 : Int32))), .val (.int (2 : Int32))] [])) _
          refine XS.iconst X0.here hx rfl (hb hby d1_3_26) ?_
          show Steps p.tables e below (s₁.setTop (mkF m 27 #[.val (.ref a0), .val (.int (if w1 = (0 : Int64) then (1 : Int32) else (0 : Int32))), .val (.int (2 : Int32))] [(.int (0 : Int32))])) _
          exact k
      refine own_go sg9 ?_
      show own_Go p.tables e below _ (s₁.setTop (mkF m 27 #[.val (.ref a0), .val (.int (if w1 = (0 : Int64) then (1 : Int32) else (0 : Int32))), .val (.int (2 : Int32))] [(.int (if w2 = (0 : Int64) then (1 : Int32) else (0 : Int32)))]))
      refine own_go (fun _ k => XS.istoreN X0.here hx rfl (hb hby d1_3_27) rfl (l' := #[.val (.ref a0), .val (.int (if w2 = (0 : Int64) then (1 : Int32) else (0 : Int32))), .val (.int (2 : Int32))]) rfl k) ?_
      show own_Go p.tables e below _ (s₁.setTop (mkF m 28 #[.val (.ref a0), .val (.int (if w2 = (0 : Int64) then (1 : Int32) else (0 : Int32))), .val (.int (2 : Int32))] []))
      refine own_go (fun _ k => XS.iinc X0.here hx rfl (hb hby d1_3_28) rfl (l' := #[.val (.ref a0), .val (.int (if w2 = (0 : Int64) then (1 : Int32) else (0 : Int32))), .val (.int (3 : Int32))]) rfl k) ?_
      show own_Go p.tables e below _ (s₁.setTop (mkF m 31 #[.val (.ref a0), .val (.int (if w2 = (0 : Int64) then (1 : Int32) else (0 : Int32))), .val (.int (3 : Int32))] []))
      refine own_go (fun _ k => XS.goto X0.here hx rfl (pc0 := 31) (pc' := 4) rfl (hb hby d1_3_31) (by decide) (by decide) k) ?_
      show own_Go p.tables e below _ (s₁.setTop (mkF m 4 #[.val (.ref a0), .val (.int (if w2 = (0 : Int64) then (1 : Int32) else (0 : Int32))), .val (.int (3 : Int32))] []))
      refine own_go (fun _ k => XS.iloadN X0.here hx rfl (hb hby d1_3_4) rfl k) ?_
      show own_Go p.tables e below _ (s₁.setTop (mkF m 5 #[.val (.ref a0), .val (.int (if w2 = (0 : Int64) then (1 : Int32) else (0 : Int32))), .val (.int (3 : Int32))] [(.int (3 : Int32))]))
      refine own_go (fun _ k => XS.aloadN X0.here hx rfl (hb hby d1_3_5) rfl rfl k) ?_
      show own_Go p.tables e below _ (s₁.setTop (mkF m 6 #[.val (.ref a0), .val (.int (if w2 = (0 : Int64) then (1 : Int32) else (0 : Int32))), .val (.int (3 : Int32))] [(.ref a0), (.int (3 : Int32))]))
      have vo10 := V_a0
      obtain ⟨cl10, Ar10, Aq10, AS10, AN10, AH10, AG10⟩ := vo10
      refine own_go (fun _ k => X0.arraylength hx (by rw [e0]; exact Ar10.1) (State.isArrayOf_alike hZ.alike Ar10.2.1) (g := (mkF m 6 #[.val (.ref a0), .val (.int (if w2 = (0 : Int64) then (1 : Int32) else (0 : Int32))), .val (.int (3 : Int32))] [(.ref a0), (.int (3 : Int32))])) rfl rfl (hb hby d1_3_6) _ k) ?_
      rw [len_of AS10 AN10]
      show own_Go p.tables e below _ (s₁.setTop (mkF m 7 #[.val (.ref a0), .val (.int (if w2 = (0 : Int64) then (1 : Int32) else (0 : Int32))), .val (.int (3 : Int32))] [(.int (3 : Int32)), (.int (3 : Int32))]))
      have hf7 : ¬ ((3 : Int32) < (3 : Int32)) := by decide
      refine own_go (fun _ k => XS.icmpYes X0.here hx rfl (pc0 := 7) (pc' := 34) rfl (hb hby d1_3_7) rfl (flt hf7).2.1 (by decide) (by decide) k) ?_
      show own_Go p.tables e below _ (s₁.setTop (mkF m 34 #[.val (.ref a0), .val (.int (if w2 = (0 : Int64) then (1 : Int32) else (0 : Int32))), .val (.int (3 : Int32))] []))
      refine own_go (fun _ k => XS.iloadN X0.here hx rfl (hb hby d1_3_34) rfl k) ?_
      show own_Go p.tables e below _ (s₁.setTop (mkF m 35 #[.val (.ref a0), .val (.int (if w2 = (0 : Int64) then (1 : Int32) else (0 : Int32))), .val (.int (3 : Int32))] [(.int (if w2 = (0 : Int64) then (1 : Int32) else (0 : Int32)))]))
      refine own_end X0 Bd.notSynchronized (v := some (.int (nar .boolean (if w2 = (0 : Int64) then (1 : Int32) else (0 : Int32))))) (fun h => by rw [Bd.returns] at h; cases h) (fun fs hr => retN X0 hx (t := .boolean) Bd.returns (by simp) (hb hby d1_3_35) hr) ?_ (by decide) (by decide)
      exact ⟨by rw [own_f1_3, if_neg hc11, if_neg hc11_2], N0, e0⟩
def own_f1_4 (w0 : Int64) (w1 : Int64) (w2 : Int64) (w3 : Int64) : Int32 :=
  (if (if w0 = (0 : Int64) then (1 : Int32) else (0 : Int32)) = (0 : Int32) then (nar .boolean (if w0 = (0 : Int64) then (1 : Int32) else (0 : Int32))) else (if (if w1 = (0 : Int64) then (1 : Int32) else (0 : Int32)) = (0 : Int32) then (nar .boolean (if w1 = (0 : Int64) then (1 : Int32) else (0 : Int32))) else (if (if w2 = (0 : Int64) then (1 : Int32) else (0 : Int32)) = (0 : Int32) then (nar .boolean (if w2 = (0 : Int64) then (1 : Int32) else (0 : Int32))) else (nar .boolean (if w3 = (0 : Int64) then (1 : Int32) else (0 : Int32))))))
theorem d1_4_0 : decode prog_47_method_5_code 0 = .ok (.iconst 1, 1) := by decide +kernel
theorem d1_4_1 : decode prog_47_method_5_code 1 = .ok (.istore_n 1, 1) := by decide +kernel
theorem d1_4_2 : decode prog_47_method_5_code 2 = .ok (.iconst 0, 1) := by decide +kernel
theorem d1_4_3 : decode prog_47_method_5_code 3 = .ok (.istore_n 2, 1) := by decide +kernel
theorem d1_4_4 : decode prog_47_method_5_code 4 = .ok (.iload_n 2, 1) := by decide +kernel
theorem d1_4_5 : decode prog_47_method_5_code 5 = .ok (.aload_n 0, 1) := by decide +kernel
theorem d1_4_6 : decode prog_47_method_5_code 6 = .ok (.arraylength, 1) := by decide +kernel
theorem d1_4_7 : decode prog_47_method_5_code 7 = .ok (.if_icmp .ge 27, 3) := by decide +kernel
theorem d1_4_10 : decode prog_47_method_5_code 10 = .ok (.iload_n 1, 1) := by decide +kernel
theorem d1_4_11 : decode prog_47_method_5_code 11 = .ok (.ifCond .eq 23, 3) := by decide +kernel
theorem d1_4_14 : decode prog_47_method_5_code 14 = .ok (.aload_n 0, 1) := by decide +kernel
theorem d1_4_15 : decode prog_47_method_5_code 15 = .ok (.iload_n 2, 1) := by decide +kernel
theorem d1_4_16 : decode prog_47_method_5_code 16 = .ok (.laload, 1) := by decide +kernel
theorem d1_4_17 : decode prog_47_method_5_code 17 = .ok (.lconst 0, 1) := by decide +kernel
theorem d1_4_18 : decode prog_47_method_5_code 18 = .ok (.lcmp, 1) := by decide +kernel
theorem d1_4_19 : decode prog_47_method_5_code 19 = .ok (.ifCond .ne 7, 3) := by decide +kernel
theorem d1_4_22 : decode prog_47_method_5_code 22 = .ok (.iconst 1, 1) := by decide +kernel
theorem d1_4_23 : decode prog_47_method_5_code 23 = .ok (.goto 4, 3) := by decide +kernel
theorem d1_4_26 : decode prog_47_method_5_code 26 = .ok (.iconst 0, 1) := by decide +kernel
theorem d1_4_27 : decode prog_47_method_5_code 27 = .ok (.istore_n 1, 1) := by decide +kernel
theorem d1_4_28 : decode prog_47_method_5_code 28 = .ok (.iinc 2 1, 3) := by decide +kernel
theorem d1_4_31 : decode prog_47_method_5_code 31 = .ok (.goto (-27), 3) := by decide +kernel
theorem d1_4_34 : decode prog_47_method_5_code 34 = .ok (.iload_n 1, 1) := by decide +kernel
theorem d1_4_35 : decode prog_47_method_5_code 35 = .ok (.ireturn, 1) := by decide +kernel
theorem pn1_4 : plainName "com/example/meshwright/meshwright/plan/PathCrossings" = true := by first | (simp [plainName, overriddenIn]; done) | decide +kernel
theorem ef1_4 (m : MethodId) (a0 : Addr) : entryFrame m #[(.ref a0)] 3 = mkF m 0 #[.val (.ref a0), .unset, .unset] [] := by first | (simp [entryFrame, mkF, argsToLocals, Value.category]; done) | rfl
def own_Q1_4 (Z : State) (a0 : Addr) (ka : ClassId) (w0 : Int64) (w1 : Int64) (w2 : Int64) (w3 : Int64) (h0 : Heap) (n0 : Nat) (v : Option Value) (h : Heap) (L : List Loc) : Prop := v = some (.int (own_f1_4 w0 w1 w2 w3)) ∧ Fr n0 L ∧ h = h0
set_option maxRecDepth 65536 in
set_option maxHeartbeats 40000000 in
theorem rm1_4 (l : Launch) (Z : State) (az : Array Value) (hw : ∀ d ∈ tables_1, d.before az Z = true) (ws : List Jvm.Cond) (a0 : Addr) (ka : ClassId) (w0 : Int64) (w1 : Int64) (w2 : Int64) (w3 : Int64) (h0 : Heap) (n0 : Nat) (Z0 : n0 ≤ h0.size) (V_a0 : Arv Z h0 a0 ka .long (4 : Int32) [(.long w0), (.long w1), (.long w2), (.long w3)] (.long (0 : Int64))) :
    MetFree l (⟨"com/example/meshwright/meshwright/plan/PathCrossings", "empty", "([J)Z"⟩ : MethodName) (head1 (Jvm.Cond.code (⟨"com/example/meshwright/meshwright/plan/PathCrossings", "empty", "([J)Z"⟩ : MethodName) prog_47_method_5_code 3 (some .boolean) :: ws) ({ frames := 0, cells := 0, slots := 0, locals := 0 } : Room)) (fun a U => a = #[(.ref a0)] ∧ Z.Warmed39 U.vm ∧ U.heap = h0) (fun _ _ _ _ _ => True) (fun _ U o U' => ∃ v L, o = .returned v ∧ own_Q1_4 Z a0 ka w0 w1 w2 w3 h0 n0 v U'.heap L ∧ FrameEnd U o U' L ({ frames := 0, cells := 0, slots := 0, locals := 0 } : Room).cells ({ frames := 0, cells := 0, slots := 0, locals := 0 } : Room).slots) := by
  refine MetFree.of_bodySF (plainFor_of_name pn1_4) hisR ?_
  intro p e s m args below meth c s₁ Bd hml0 hP hK
  obtain ⟨rfl, hZ, hh⟩ := hP
  have hx := Bd.exec
  have hby := Bd.bytes
  have hml : c.maxLocals = 3 := hml0
  have hown : s.vm.findClass "com/example/meshwright/meshwright/plan/PathCrossings" = some m.cls := findClass_of_methodNamed Bd.named
  have hnm := (name_of_methodNamed Bd.named Bd.method).1
  have X0 : Stand p l e ({ frames := 0, cells := 0, slots := 0, locals := 0 } : Room) s m #[(.ref a0)] below meth c s₁ [] 0 0 := Stand.of_body Bd
  have e0 : s₁.heap = h0 := by rw [← hh, Bd.state]; rfl
  have N0 := Fr.nil n0
  show own_Go p.tables e below (fun o U' => ∃ v L, o = .returned v ∧ own_Q1_4 Z a0 ka w0 w1 w2 w3 h0 n0 v U'.heap L ∧ FrameEnd s o U' L ({ frames := 0, cells := 0, slots := 0, locals := 0 } : Room).cells ({ frames := 0, cells := 0, slots := 0, locals := 0 } : Room).slots) (s₁.setTop (entryFrame m #[(.ref a0)] 3))
  refine own_go (fun _ k => castTop (ef1_4 m a0) k) ?_
  show own_Go p.tables e below _ (s₁.setTop (mkF m 0 #[.val (.ref a0), .unset, .unset] []))
  refine own_go (fun _ k => XS.iconst X0.here hx rfl (hb hby d1_4_0) k) ?_
  show own_Go p.tables e below _ (s₁.setTop (mkF m 1 #[.val (.ref a0), .unset, .unset] [(.int (1 : Int32))]))
  refine own_go (fun _ k => XS.istoreN X0.here hx rfl (hb hby d1_4_1) rfl (l' := #[.val (.ref a0), .val (.int (1 : Int32)), .unset]) rfl k) ?_
  show own_Go p.tables e below _ (s₁.setTop (mkF m 2 #[.val (.ref a0), .val (.int (1 : Int32)), .unset] []))
  refine own_go (fun _ k => XS.iconst X0.here hx rfl (hb hby d1_4_2) k) ?_
  show own_Go p.tables e below _ (s₁.setTop (mkF m 3 #[.val (.ref a0), .val (.int (1 : Int32)), .unset] [(.int (0 : Int32))]))
  refine own_go (fun _ k => XS.istoreN X0.here hx rfl (hb hby d1_4_3) rfl (l' := #[.val (.ref a0), .val (.int (1 : Int32)), .val (.int (0 : Int32))]) rfl k) ?_
  show own_Go p.tables e below _ (s₁.setTop (mkF m 4 #[.val (.ref a0), .val (.int (1 : Int32)), .val (.int (0 : Int32))] []))
  refine own_go (fun _ k => XS.iloadN X0.here hx rfl (hb hby d1_4_4) rfl k) ?_
  show own_Go p.tables e below _ (s₁.setTop (mkF m 5 #[.val (.ref a0), .val (.int (1 : Int32)), .val (.int (0 : Int32))] [(.int (0 : Int32))]))
  refine own_go (fun _ k => XS.aloadN X0.here hx rfl (hb hby d1_4_5) rfl rfl k) ?_
  show own_Go p.tables e below _ (s₁.setTop (mkF m 6 #[.val (.ref a0), .val (.int (1 : Int32)), .val (.int (0 : Int32))] [(.ref a0), (.int (0 : Int32))]))
  have vo1 := V_a0
  obtain ⟨cl1, Ar1, Aq1, AS1, AN1, AH1, AG1⟩ := vo1
  refine own_go (fun _ k => X0.arraylength hx (by rw [e0]; exact Ar1.1) (State.isArrayOf_alike hZ.alike Ar1.2.1) (g := (mkF m 6 #[.val (.ref a0), .val (.int (1 : Int32)), .val (.int (0 : Int32))] [(.ref a0), (.int (0 : Int32))])) rfl rfl (hb hby d1_4_6) _ k) ?_
  rw [len_of AS1 AN1]
  show own_Go p.tables e below _ (s₁.setTop (mkF m 7 #[.val (.ref a0), .val (.int (1 : Int32)), .val (.int (0 : Int32))] [(.int (4 : Int32)), (.int (0 : Int32))]))
  have hf7 : (0 : Int32) < (4 : Int32) := by decide
  refine own_go (fun _ k => XS.icmpNo X0.here hx rfl (hb hby d1_4_7) rfl (tlt hf7).2.1 k) ?_
  show own_Go p.tables e below _ (s₁.setTop (mkF m 10 #[.val (.ref a0), .val (.int (1 : Int32)), .val (.int (0 : Int32))] []))
  refine own_go (fun _ k => XS.iloadN X0.here hx rfl (hb hby d1_4_10) rfl k) ?_
  show own_Go p.tables e below _ (s₁.setTop (mkF m 11 #[.val (.ref a0), .val (.int (1 : Int32)), .val (.int (0 : Int32))] [(.int (1 : Int32))]))
  have hf11 : ¬ ((1 : Int32) = (0 : Int32)) := by decide
  refine own_go (fun _ k => XS.ifNo X0.here hx rfl (hb hby d1_4_11) rfl ((if0 _ _).trans (feq hf11).1) k) ?_
  show own_Go p.tables e below _ (s₁.setTop (mkF m 14 #[.val (.ref a0), .val (.int (1 : Int32)), .val (.int (0 : Int32))] []))
  refine own_go (fun _ k => XS.aloadN X0.here hx rfl (hb hby d1_4_14) rfl rfl k) ?_
  show own_Go p.tables e below _ (s₁.setTop (mkF m 15 #[.val (.ref a0), .val (.int (1 : Int32)), .val (.int (0 : Int32))] [(.ref a0)]))
  refine own_go (fun _ k => XS.iloadN X0.here hx rfl (hb hby d1_4_15) rfl k) ?_
  show own_Go p.tables e below _ (s₁.setTop (mkF m 16 #[.val (.ref a0), .val (.int (1 : Int32)), .val (.int (0 : Int32))] [(.int (0 : Int32)), (.ref a0)]))
  have vo2 := V_a0
  obtain ⟨cl2, Ar2, Aq2, AS2, AN2, AH2, AG2⟩ := vo2
  have hin2 : ¬ ((0 : Int32) < 0 ∨ cl2.slots.size ≤ ((0 : Int32)).toNatClampNeg) := inb_of AS2 ⟨by decide, by decide⟩
  have hat2 : cl2.slots[((0 : Int32)).toNatClampNeg]? = some (.long w0) := Has.at AH2 hin2 rfl
  refine own_go (fun _ k => X0.laload hx (j := (0 : Int32)) (v := (.long w0)) (by rw [e0]; exact Ar2.1) (State.isArrayOf_alike hZ.alike Ar2.2.1) Ar2.2.2 hin2 hat2 (g := (mkF m 16 #[.val (.ref a0), .val (.int (1 : Int32)), .val (.int (0 : Int32))] [(.int (0 : Int32)), (.ref a0)])) rfl rfl (hb hby d1_4_16) _ k) ?_
  show own_Go p.tables e below _ (s₁.setTop (mkF m 17 #[.val (.ref a0), .val (.int (1 : Int32)), .val (.int (0 : Int32))] [(.long w0)]))
  refine own_go (fun _ k => XS.lconst X0.here hx rfl (hb hby d1_4_17) k) ?_
  show own_Go p.tables e below _ (s₁.setTop (mkF m 18 #[.val (.ref a0), .val (.int (1 : Int32)), .val (.int (0 : Int32))] [(.long (0 : Int64)), (.long w0)]))
  refine own_go (fun _ k => XS.lcmp X0.here hx rfl (hb hby d1_4_18) rfl k) ?_
  show own_Go p.tables e below _ (s₁.setTop (mkF m 19 #[.val (.ref a0), .val (.int (1 : Int32)), .val (.int (0 : Int32))] [(.int (lcmpW w0 (0 : Int64)))]))
  have sg3 : ∀ t, Steps p.tables e below (s₁.setTop (mkF m 27 #[.val (.ref a0), .val (.int (1 : Int32)), .val (.int (0 : Int32))] [(.int (if w0 = (0 : Int64) then (1 : Int32) else (0 : Int32)))])) t → Steps p.tables e below (s₁.setTop (mkF m 19 #[.val (.ref a0), .val (.int (1 : Int32)), .val (.int (0 : Int32))] [(.int (lcmpW w0 (0 : Int64)))])) t := by
    intro t k
    by_cases hc19 : w0 = (0 : Int64)
    · try simp only [if_pos hc19] at k
      refine XS.ifNo X0.here hx rfl (hb hby d1_4_19) rfl ((if0 _ _).trans (teq ((lw_eq w0 (0 : Int64)).mpr hc19)).2) ?_
      show Steps p.tables e below (s₁.setTop (mkF m 22 #[.val (.ref a0), .val (.int (1 : Int32)), .val (.int (0 : Int32))] [])) _
      refine XS.iconst X0.here hx rfl (hb hby d1_4_22) ?_
      show Steps p.tables e below (s₁.setTop (mkF m 23 #[.val (.ref a0), .val (.int (1 : Int32)), .val (.int (0 : Int32))] [(.int (1 : Int32))])) _
      refine XS.goto X0.here hx rfl (pc0 := 23) (pc' := 27) rfl (hb hby d1_4_23) (by decide) (by decide) ?_
      show Steps p.tables e below (s₁.setTop (mkF m 27 #[.val (.ref a0), .val (.int (1 : Int32)), .val (.int (0 : Int32))] [(.int (1 : Int32))])) _
      exact k
    · try simp only [if_neg hc19] at k
      refine XS.ifYes X0.here hx rfl (pc0 := 19) (pc' := 26) rfl (hb hby d1_4_19) rfl ((if0 _ _).trans (feq (mt (lw_eq w0 (0 : Int64)).mp hc19)).2) (by decide) (by decide) ?_
      show Steps p.tables e below (s₁.setTop (mkF m 26 #[.val (.ref a0), .val (.int (1 : Int32)), .val (.int (0 : Int32))] [])) _
      refine XS.iconst X0.here hx rfl (hb hby d1_4_26) ?_
      show Steps p.tables e below (s₁.setTop (mkF m 27 #[.val (.ref a0), .val (.int (1 : Int32)), .val (.int (0 : Int32))] [(.int (0 : Int32))])) _
      exact k
  refine own_go sg3 ?_
  show own_Go p.tables e below _ (s₁.setTop (mkF m 27 #[.val (.ref a0), .val (.int (1 : Int32)), .val (.int (0 : Int32))] [(.int (if w0 = (0 : Int64) then (1 : Int32) else (0 : Int32)))]))
  refine own_go (fun _ k => XS.istoreN X0.here hx rfl (hb hby d1_4_27) rfl (l' := #[.val (.ref a0), .val (.int (if w0 = (0 : Int64) then (1 : Int32) else (0 : Int32))), .val (.int (0 : Int32))]) rfl k) ?_
  show own_Go p.tables e below _ (s₁.setTop (mkF m 28 #[.val (.ref a0), .val (.int (if w0 = (0 : Int64) then (1 : Int32) else (0 : Int32))), .val (.int (0 : Int32))] []))
  refine own_go (fun _ k => XS.iinc X0.here hx rfl (hb hby d1_4_28) rfl (l' := #[.val (.ref a0), .val (.int (if w0 = (0 : Int64) then (1 : Int32) else (0 : Int32))), .val (.int (1 : Int32))]) rfl k) ?_
  show own_Go p.tables e below _ (s₁.setTop (mkF m 31 #[.val (.ref a0), .val (.int (if w0 = (0 : Int64) then (1 : Int32) else (0 : Int32))), .val (.int (1 : Int32))] []))
  refine own_go (fun _ k => XS.goto X0.here hx rfl (pc0 := 31) (pc' := 4) rfl (hb hby d1_4_31) (by decide) (by decide) k) ?_
  show own_Go p.tables e below _ (s₁.setTop (mkF m 4 #[.val (.ref a0), .val (.int (if w0 = (0 : Int64) then (1 : Int32) else (0 : Int32))), .val (.int (1 : Int32))] []))
  refine own_go (fun _ k => XS.iloadN X0.here hx rfl (hb hby d1_4_4) rfl k) ?_
  show own_Go p.tables e below _ (s₁.setTop (mkF m 5 #[.val (.ref a0), .val (.int (if w0 = (0 : Int64) then (1 : Int32) else (0 : Int32))), .val (.int (1 : Int32))] [(.int (1 : Int32))]))
  refine own_go (fun _ k => XS.aloadN X0.here hx rfl (hb hby d1_4_5) rfl rfl k) ?_
  show own_Go p.tables e below _ (s₁.setTop (mkF m 6 #[.val (.ref a0), .val (.int (if w0 = (0 : Int64) then (1 : Int32) else (0 : Int32))), .val (.int (1 : Int32))] [(.ref a0), (.int (1 : Int32))]))
  have vo4 := V_a0
  obtain ⟨cl4, Ar4, Aq4, AS4, AN4, AH4, AG4⟩ := vo4
  refine own_go (fun _ k => X0.arraylength hx (by rw [e0]; exact Ar4.1) (State.isArrayOf_alike hZ.alike Ar4.2.1) (g := (mkF m 6 #[.val (.ref a0), .val (.int (if w0 = (0 : Int64) then (1 : Int32) else (0 : Int32))), .val (.int (1 : Int32))] [(.ref a0), (.int (1 : Int32))])) rfl rfl (hb hby d1_4_6) _ k) ?_
  rw [len_of AS4 AN4]
  show own_Go p.tables e below _ (s₁.setTop (mkF m 7 #[.val (.ref a0), .val (.int (if w0 = (0 : Int64) then (1 : Int32) else (0 : Int32))), .val (.int (1 : Int32))] [(.int (4 : Int32)), (.int (1 : Int32))]))
  have hf7 : (1 : Int32) < (4 : Int32) := by decide
  refine own_go (fun _ k => XS.icmpNo X0.here hx rfl (hb hby d1_4_7) rfl (tlt hf7).2.1 k) ?_
  show own_Go p.tables e below _ (s₁.setTop (mkF m 10 #[.val (.ref a0), .val (.int (if w0 = (0 : Int64) then (1 : Int32) else (0 : Int32))), .val (.int (1 : Int32))] []))
  refine own_go (fun _ k => XS.iloadN X0.here hx rfl (hb hby d1_4_10) rfl k) ?_
  show own_Go p.tables e below _ (s₁.setTop (mkF m 11 #[.val (.ref a0), .val (.int (if w0 = (0 : Int64) then (1 : Int32) else (0 : Int32))), .val (.int (1 : Int32))] [(.int (if w0 = (0 : Int64) then (1 : Int32) else (0 : Int32)))]))
  by_cases hc11 : (if w0 = (0 : Int64) then (1 : Int32) else (0 : Int32)) = (0 : Int32)
  · refine own_go (fun _ k => XS.ifYes X0.here hx rfl (pc0 := 11) (pc' := 34) rfl (hb hby d1_4_11) rfl ((if0 _ _).trans (teq hc11).1) (by decide) (by decide) k) ?_
    show own_Go p.tables e below _ (s₁.setTop (mkF m 34 #[.val (.ref a0), .val (.int (if w0 = (0 : Int64) then (1 : Int32) else (0 : Int32))), .val (.int (1 : Int32))] []))
    refine own_go (fun _ k => XS.iloadN X0.here hx rfl (hb hby d1_4_34) rfl k) ?_
    show own_Go p.tables e below _ (s₁.setTop (mkF m 35 #[.val (.ref a0), .val (.int (if w0 = (0 : Int64) then (1 : Int32) else (0 : Int32))), .val (.int (1 : Int32))] [(.int (if w0 = (0 : Int64) then (1 : Int32) else (0 : Int32)))]))
    refine own_end X0 Bd.notSynchronized (v := some (.int (nar .boolean (if w0 = (0 : Int64) then (1 : Int32) else (0 : Int32))))) (fun h => by rw [Bd.returns] at h; cases h) (fun fs hr => retN X0 hx (t := .boolean) Bd.returns (by simp) (hb hby d1_4_35) hr) ?_ (by decide) (by decide)
    exact ⟨by rw [own_f1_4, if_pos hc11], N0, e0⟩
  · refine own_go (fun _ k => XS.ifNo X0.here hx rfl (hb hby d1_4_11) rfl ((if0 _ _).trans (feq hc11).1) k) ?_
    show own_Go p.tables e below _ (s₁.setTop (mkF m 14 #[.val (.ref a0), .val (.int (if w0 = (0 : Int64) then (1 : Int32) else (0 : Int32))), .val (.int (1 : Int32))] []))
    refine own_go (fun _ k => XS.aloadN X0.here hx rfl (hb hby d1_4_14) rfl rfl k) ?_
    show own_Go p.tables e below _ (s₁.setTop (mkF m 15 #[.val (.ref a0), .val (.int (if w0 = (0 : Int64) then (1 : Int32) else (0 : Int32))), .val (.int (1 : Int32))] [(.ref a0)]))
    refine own_go (fun _ k => XS.iloadN X0.here hx rfl (hb hby d1_4_15) rfl k) ?_
    show own_Go p.tables e below _ (s₁.setTop (mkF m 16 #[.val (.ref a0), .val (.int (if w0 = (0 : Int64) then (1 : Int32) else (0 : Int32))), .val (.int (1 : Int32))] [(.int (1 : Int32)), (.ref a0)]))
    have vo5 := V_a0
    obtain ⟨cl5, Ar5, Aq5, AS5, AN5, AH5, AG5⟩ := vo5
    have hin5 : ¬ ((1 : Int32) < 0 ∨ cl5.slots.size ≤ ((1 : Int32)).toNatClampNeg) := inb_of AS5 ⟨by decide, by decide⟩
    have hat5 : cl5.slots[((1 : Int32)).toNatClampNeg]? = some (.long w1) := Has.at AH5 hin5 rfl
    refine own_go (fun _ k => X0.laload hx (j := (1 : Int32)) (v := (.long w1)) (by rw [e0]; exact Ar5.1) (State.isArrayOf_alike hZ.alike Ar5.2.1) Ar5.2.2 hin5 hat5 (g := (mkF m 16 #[.val (.ref a0), .val (.int (if w0 = (0 : Int64) then (1 : Int32) else (0 : Int32))), .val (.int (1 : Int32))] [(.int (1 : Int32)), (.ref a0)])) rfl rfl (hb hby d1_4_16) _ k) ?_
    show own_Go p.tables e below _ (s₁.setTop (mkF m 17 #[.val (.ref a0), .val (.int (if w0 = (0 : Int64) then (1 : Int32) else (0 : Int32))), .val (.int (1 : Int32))] [(.long w1)]))
    refine own_go (fun _ k => XS.lconst X0.here hx rfl (hb hby d1_4_17) k) ?_
    show own_Go p.tables e below _ (s₁.setTop (mkF m 18 #[.val (.ref a0), .val (.int (if w0 = (0 : Int64) then (1 : Int32) else (0 : Int32))), .val (.int (1 : Int32))] [(.long (0 : Int64)), (.long w1)]))
    refine own_go (fun _ k => XS.lcmp X0.here hx rfl (hb hby d1_4_18) rfl k) ?_
    show own_Go p.tables e below _ (s₁.setTop (mkF m 19 #[.val (.ref a0), .val (.int (if w0 = (0 : Int64) then (1 : Int32) else (0 : Int32))), .val (.int (1 : Int32))] [(.int (lcmpW w1 (0 : Int64)))]))
    have sg6 : ∀ t, Steps p.tables e below (s₁.setTop (mkF m 27 #[.val (.ref a0), .val (.int (if w0 = (0 : Int64) then (1 : Int32) else (0 : Int32))), .val (.int (1 : Int32))] [(.int (if w1 = (0 : Int64) then (1 : Int32) else (0 : Int32)))])) t → Steps p.tables e below (s₁.setTop (mkF m 19 #[.val (.ref a0), .val (.int (if w0 = (0 : Int64) then (1 : Int32) else (0 : Int32))), .val (.int (1 : Int32))] [(.int (lcmpW w1 (0 : Int64)))])) t := by
      intro t k
      by_cases hc19 : w1 = (0 : Int64)
      · try simp only [if_pos hc19] at k
        refine XS.ifNo X0.here hx rfl (hb hby d1_4_19) rfl ((if0 _ _).trans (teq ((lw_eq w1 (0 : Int64)).mpr hc19)).2) ?_
        show Steps p.tables e below (s₁.setTop (mkF m 22 #[.val (.ref a0), .val (.int (if w0 = (0 : Int64) then (1 : Int32) else (0 : Int32))), .val (.int (1 : Int32))] [])) _
        refine XS.iconst X0.here hx rfl (hb hby d1_4_22) ?_
        show Steps p.tables e below (s₁.setTop (mkF m 23 #[.val (.ref a0), .val (.int (if w0 = (0 : Int64) then (1 : Int32) else (0 : Int32))), .val (.int (1 : Int32))] [(.int (1 : Int32))])) _
        refine XS.goto X0.here hx rfl (pc0 := 23) (pc' := 27) rfl (hb hby d1_4_23) (by decide) (by decide) ?_
        show Steps p.tables e below (s₁.setTop (mkF m 27 #[.val (.ref a0), .val (.int (if w0 = (0 : Int64) then (1 : Int32) else (0 : Int32))), .val (.int (1 : Int32))] [(.int (1 : Int32))])) _
        exact k
      · try simp only [if_neg hc19] at k
        refine XS.ifYes X0.here hx rfl (pc0 := 19) (pc' := 26) rfl (hb hby d1_4_19) rfl ((if0 _ _).trans (feq (mt (lw_eq w1 (0 : Int64)).mp hc19)).2) (by decide) (by decide) ?_
        show Steps p.tables e below (s₁.setTop (mkF m 26 #[.val (.ref a0), .val (.int (if w0 = (0 : Int64) then (1 : Int32) else (0 : Int32))), .val (.int (1 : Int32))] [])) _
        refine XS.iconst X0.here hx rfl (hb hby d1_4_26) ?_
        show Steps p.tables e below (s₁.setTop (mkF m 27 #[.val (.ref a0), .val (.int (if w0 = (0 : Int64) then (1 : Int32) else (0 : Int32))), .val (.int (1 : Int32))] [(.int (0 : Int32))])) _
        exact k
    refine own_go sg6 ?_
    show own_Go p.tables e below _ (s₁.setTop (mkF m 27 #[.val (.ref a0), .val (.int (if w0 = (0 : Int64) then (1 : Int32) else (0 : Int32))), .val (.int (1 : Int32))] [(.int (if w1 = (0 : Int64) then (1 : Int32) else (0 : Int32)))]))
    refine own_go (fun _ k => XS.istoreN X0.here hx rfl (hb hby d1_4_27) rfl (l' := #[.val (.ref a0), .val (.int (if w1 = (0 : Int64) then (1 : Int32) else (0 : Int32))), .val (.int (1 : Int32))]) rfl k) ?_
    show own_Go p.tables e below _ (s₁.setTop (mkF m 28 #[.val (.ref a0), .val (.int (if w1 = (0 : Int64) then (1 : Int32) else (0 : Int32))), .val (.int (1 : Int32))] []))
    refine own_go (fun _ k => XS.iinc X0.here hx rfl (hb hby d1_4_28) rfl (l' := #[.val (.ref a0), .val (.int (if w1 = (0 : Int64) then (1 : Int32) else (0 : Int32))), .val (.int (2 : Int32))]) rfl k) ?_
    show own_Go p.tables e below _ (s₁.setTop (mkF m 31 #[.val (.ref a0), .val (.int (if w1 = (0 : Int64) then (1 : Int32) else (0 : Int32))), .val (.int (2 : Int32))] []))
    refine own_go (fun _ k => XS.goto X0.here hx rfl (pc0 := 31) (pc' := 4) rfl (hb hby d1_4_31) (by decide) (by decide) k) ?_
    show own_Go p.tables e below _ (s₁.setTop (mkF m 4 #[.val (.ref a0), .val (.int (if w1 = (0 : Int64) then (1 : Int32) else (0 : Int32))), .val (.int (2 : Int32))] []))
    refine own_go (fun _ k => XS.iloadN X0.here hx rfl (hb hby d1_4_4) rfl k) ?_
    show own_Go p.tables e below _ (s₁.setTop (mkF m 5 #[.val (.ref a0), .val (.int (if w1 = (0 : Int64) then (1 : Int32) else (0 : Int32))), .val (.int (2 : Int32))] [(.int (2 : Int32))]))
    refine own_go (fun _ k => XS.aloadN X0.here hx rfl (hb hby d1_4_5) rfl rfl k) ?_
    show own_Go p.tables e below _ (s₁.setTop (mkF m 6 #[.val (.ref a0), .val (.int (if w1 = (0 : Int64) then (1 : Int32) else (0 : Int32))), .val (.int (2 : Int32))] [(.ref a0), (.int (2 : Int32))]))
    have vo7 := V_a0
    obtain ⟨cl7, Ar7, Aq7, AS7, AN7, AH7, AG7⟩ := vo7
    refine own_go (fun _ k => X0.arraylength hx (by rw [e0]; exact Ar7.1) (State.isArrayOf_alike hZ.alike Ar7.2.1) (g := (mkF m 6 #[.val (.ref a0), .val (.int (if w1 = (0 : Int64) then (1 : Int32) else (0 : Int32))), .val (.int (2 : Int32))] [(.ref a0), (.int (2 : Int32))])) rfl rfl (hb hby d1_4_6) _ k) ?_
    rw [len_of AS7 AN7]
    show own_Go p.tables e below _ (s₁.setTop (mkF m 7 #[.val (.ref a0), .val (.int (if w1 = (0 : Int64) then (1 : Int32) else (0 : Int32))), .val (.int (2 : Int32))] [(.int (4 : Int32)), (.int (2 : Int32))]))
    have hf7 : (2 : Int32) < (4 : Int32) := by decide
    refine own_go (fun _ k => XS.icmpNo X0.here hx rfl (hb hby d1_4_7) rfl (tlt hf7).2.1 k) ?_
    show own_Go p.tables e below _ (s₁.setTop (mkF m 10 #[.val (.ref a0), .val (.int (if w1 = (0 : Int64) then (1 : Int32) else (0 : Int32))), .val (.int (2 : Int32))] []))
    refine own_go (fun _ k => XS.iloadN X0.here hx rfl (hb hby d1_4_10) rfl k) ?_
    show own_Go p.tables e below _ (s₁.setTop (mkF m 11 #[.val (.ref a0), .val (.int (if w1 = (0 : Int64) then (1 : Int32) else (0 : Int32))), .val (.int (2 : Int32))] [(.int (if w1 = (0 : Int64) then (1 : Int32) else (0 : Int32)))]))
    by_cases hc11_2 : (if w1 = (0 : Int64) then (1 : Int32) else (0 : Int32)) = (0 : Int32)
    · refine own_go (fun _ k => XS.ifYes X0.here hx rfl (pc0 := 11) (pc' := 34) rfl (hb hby d1_4_11) rfl ((if0 _ _).trans (teq hc11_2).1) (by decide) (by decide) k) ?_
      show own_Go p.tables e below _ (s₁.setTop (mkF m 34 #[.val (.ref a0), .val (.int (if w1 = (0 : Int64) then (1 : Int32) else (0 : Int32))), .val (.int (2 : Int32))] []))
      refine own_go (fun _ k => XS.iloadN X0.here hx rfl (hb hby d1_4_34) rfl k) ?_
      show own_Go p.tables e below _ (s₁.setTop (mkF m 35 #[.val (.ref a0), .val (.int (if w1 = (0 : Int64) then (1 : Int32) else (0 : Int32))), .val (.int (2 : Int32))] [(.int (if w1 = (0 : Int64) then (1 : Int32) else (0 : Int32)))]))
      refine own_end X0 Bd.notSynchronized (v := some (.int (nar .boolean (if w1 = (0 : Int64) then (1 : Int32) else (0 : Int32))))) (fun h => by rw [Bd.returns] at h; cases h) (fun fs hr => retN X0 hx (t := .boolean) Bd.returns (by simp) (hb hby d1_4_35) hr) ?_ (by decide) (by decide)
      exact ⟨by rw [own_f1_4, if_neg hc11, if_pos hc11_2], N0, e0⟩
    · refine own_go (fun _ k => XS.ifNo X0.here hx rfl (hb hby d1_4_11) rfl ((if0 _ _).trans (feq hc11_2).1) k) ?_
      show own_Go p.tables e below _ (s₁.setTop (mkF m 14 #[.val (.ref a0), .val (.int (if w1 = (0 : Int64) then (1 : Int32) else (0 : Int32))), .val (.int (2 : Int32))] []))
      refine own_go (fun _ k => XS.aloadN X0.here hx rfl (hb hby d1_4_14) rfl rfl k) ?_
      show own_Go p.tables e below _ (s₁.setTop (mkF m 15 #[.val (.ref a0), .val (.int (if w1 = (0 : Int64) then (1 : Int32) else (0 : Int32))), .val (.int (2 : Int32))] [(.ref a0)]))
      refine own_go (fun _ k => XS.iloadN X0.here hx rfl (hb hby d1_4_15) rfl k) ?_
      show own_Go p.tables e below _ (s₁.setTop (mkF m 16 #[.val (.ref a0), .val (.int (if w1 = (0 : Int64) then (1 : Int32) else (0 : Int32))), .val (.int (2 : Int32))] [(.int (2 : Int32)), (.ref a0)]))
      have vo8 := V_a0
      obtain ⟨cl8, Ar8, Aq8, AS8, AN8, AH8, AG8⟩ := vo8
      have hin8 : ¬ ((2 : Int32) < 0 ∨ cl8.slots.size ≤ ((2 : Int32)).toNatClampNeg) := inb_of AS8 ⟨by decide, by decide⟩
      have hat8 : cl8.slots[((2 : Int32)).toNatClampNeg]? = some (.long w2) := Has.at AH8 hin8 rfl
      refine own_go (fun _ k => X0.laload hx (j := (2 : Int32)) (v := (.long w2)) (by rw [e0]; exact Ar8.1) (State.isArrayOf_alike hZ.alike Ar8.2.1) Ar8.2.2 hin8 hat8 (g := (mkF m 16 #[.val (.ref a0), .val (.int (if w1 = (0 : Int64) then (1 : Int32) else (0 : Int32))), .val (.int (2 : Int32))] [(.int (2 : Int32)), (.ref a0)])) rfl rfl (hb hby d1_4_16) _ k) ?_
      show own_Go p.tables e below _ (s₁.setTop (mkF m 17 #[.val (.ref a0), .val (.int (if w1 = (0 : Int64) then (1 : Int32) else (0 : Int32))), .val (.int (2 : Int32))] [(.long w2)]))
      refine own_go (fun _ k => XS.lconst X0.here hx rfl (hb hby d1_4_17) k) ?_
      show own_Go p.tables e below _ (s₁.setTop (mkF m 18 #[.val (.ref a0), .val (.int (if w1 = (0 : Int64) then (1 : Int32) else (0 : Int32))), .val (.int (2 : Int32))] [(.long (0 : Int64)), (.long w2)]))
      refine own_go (fun _ k => XS.lcmp X0.here hx rfl (hb hby d1_4_18) rfl k) ?_
      show own_Go p.tables e below _ (s₁.setTop (mkF m 19 #[.val (.ref a0), .val (.int (if w1 = (0 : Int64) then (1 : Int32) else (0 : Int32))), .val (.int (2 : Int32))] [(.int (lcmpW w2 (0 : Int64)))]))
      have sg9 : ∀ t, Steps p.tables e below (s₁.setTop (mkF m 27 #[.val (.ref a0), .val (.int (if w1 = (0 : Int64) then (1 : Int32) else (0 : Int32))), .val (.int (2 : Int32))] [(.int (if w2 = (0 : Int64) then (1 : Int32) else (0 : Int32)))])) t → Steps p.tables e below (s₁.setTop (mkF m 19 #[.val (.ref a0), .val (.int (if w1 = (0 : Int64) then (1 : Int32) else (0 : Int32))), .val (.int (2 : Int32))] [(.int (lcmpW w2 (0 : Int64)))])) t := by
        intro t k
        by_cases hc19 : w2 = (0 : Int64)
        · try simp only [if_pos hc19] at k
          refine XS.ifNo X0.here hx rfl (hb hby d1_4_19) rfl ((if0 _ _).trans (teq ((lw_eq w2 (0 : Int64)).mpr hc19)).2) ?_
          show Steps p.tables e below (s₁.setTop (mkF m 22 #[.val (.ref a0), .val (.int (if w1 = (0 : Int64) then (1 : Int32) else (0 : Int32))), .val (.int (2 : Int32))] [])) _
          refine XS.iconst X0.here hx rfl (hb hby d1_4_22) ?_
          show Steps p.tables e below (s₁.setTop (mkF m 23 #[.val (.ref a0), .val (.int (if w1 = (0 : Int64) then (1 : Int32) else (0 : Int32))), .val (.int (2 : Int32))] [(.int (1 : Int32))])) _
          refine XS.goto X0.here hx rfl (pc0 := 23) (pc' := 27) rfl (hb hby d1_4_23) (by decide) (by decide) ?_
          show Steps p.tables e below (s₁.setTop (mkF m 27 #[.val (.ref a0), .val (.int (if w1 = (0 : Int64) then (1 : Int32) else (0 : Int32))), .val (.int (2 : Int32))] [(.int (1 : Int32))])) _
          exact k
        · try simp only [if_neg hc19] at k
          refine XS.ifYes X0.here hx rfl (pc0 := 19) (pc' := 26) rfl (hb hby d1_4_19) rfl ((if0 _ _).trans (feq (mt (lw_eq w2 (0 : Int64)).mp hc19)).2) (by decide) (by decide) ?_
          show Steps p.tables e below (s₁.setTop (mkF m 26 #[.val (.ref a0), .val (.int (if w1 = (0 : Int64) then (1 : Int32) else (0 : Int32))), .val (.int (2 : Int32))] [])) _
          refine XS.iconst X0.here hx rfl (hb hby d1_4_26) ?_
          show Steps p.tables e below (s₁.setTop (mkF m 27 #[.val (.ref a0), .val (.int (if w1 = (0 : Int64) then (1 : Int32) else (0 : Int32))), .val (.int (2 : Int32))] [(.int (0 : Int32))])) _
          exact k
      refine own_go sg9 ?_
      show own_Go p.tables e below _ (s₁.setTop (mkF m 27 #[.val (.ref a0), .val (.int (if w1 = (0 : Int64) then (1 : Int32) else (0 : Int32))), .val (.int (2 : Int32))] [(.int (if w2 = (0 : Int64) then (1 : Int32) else (0 : Int32)))]))
      refine own_go (fun _ k => XS.istoreN X0.here hx rfl (hb hby d1_4_27) rfl (l' := #[.val (.ref a0), .val (.int (if w2 = (0 : Int64) then (1 : Int32) else (0 : Int32))), .val (.int (2 : Int32))]) rfl k) ?_
      show own_Go p.tables e below _ (s₁.setTop (mkF m 28 #[.val (.ref a0), .val (.int (if w2 = (0 : Int64) then (1 : Int32) else (0 : Int32))), .val (.int (2 : Int32))] []))
      refine own_go (fun _ k => XS.iinc X0.here hx rfl (hb hby d1_4_28) rfl (l' := #[.val (.ref a0), .val (.int (if w2 = (0 : Int64) then (1 : Int32) else (0 : Int32))), .val (.int (3 : Int32))]) rfl k) ?_
      show own_Go p.tables e below _ (s₁.setTop (mkF m 31 #[.val (.ref a0), .val (.int (if w2 = (0 : Int64) then (1 : Int32) else (0 : Int32))), .val (.int (3 : Int32))] []))
      refine own_go (fun _ k => XS.goto X0.here hx rfl (pc0 := 31) (pc' := 4) rfl (hb hby d1_4_31) (by decide) (by decide) k) ?_
      show own_Go p.tables e below _ (s₁.setTop (mkF m 4 #[.val (.ref a0), .val (.int (if w2 = (0 : Int64) then (1 : Int32) else (0 : Int32))), .val (.int (3 : Int32))] []))
      refine own_go (fun _ k => XS.iloadN X0.here hx rfl (hb hby d1_4_4) rfl k) ?_
      show own_Go p.tables e below _ (s₁.setTop (mkF m 5 #[.val (.ref a0), .val (.int (if w2 = (0 : Int64) then (1 : Int32) else (0 : Int32))), .val (.int (3 : Int32))] [(.int (3 : Int32))]))
      refine own_go (fun _ k => XS.aloadN X0.here hx rfl (hb hby d1_4_5) rfl rfl k) ?_
      show own_Go p.tables e below _ (s₁.setTop (mkF m 6 #[.val (.ref a0), .val (.int (if w2 = (0 : Int64) then (1 : Int32) else (0 : Int32))), .val (.int (3 : Int32))] [(.ref a0), (.int (3 : Int32))]))
      have vo10 := V_a0
      obtain ⟨cl10, Ar10, Aq10, AS10, AN10, AH10, AG10⟩ := vo10
      refine own_go (fun _ k => X0.arraylength hx (by rw [e0]; exact Ar10.1) (State.isArrayOf_alike hZ.alike Ar10.2.1) (g := (mkF m 6 #[.val (.ref a0), .val (.int (if w2 = (0 : Int64) then (1 : Int32) else (0 : Int32))), .val (.int (3 : Int32))] [(.ref a0), (.int (3 : Int32))])) rfl rfl (hb hby d1_4_6) _ k) ?_
      rw [len_of AS10 AN10]
      show own_Go p.tables e below _ (s₁.setTop (mkF m 7 #[.val (.ref a0), .val (.int (if w2 = (0 : Int64) then (1 : Int32) else (0 : Int32))), .val (.int (3 : Int32))] [(.int (4 : Int32)), (.int (3 : Int32))]))
      have hf7 : (3 : Int32) < (4 : Int32) := by decide
      refine own_go (fun _ k => XS.icmpNo X0.here hx rfl (hb hby d1_4_7) rfl (tlt hf7).2.1 k) ?_
      show own_Go p.tables e below _ (s₁.setTop (mkF m 10 #[.val (.ref a0), .val (.int (if w2 = (0 : Int64) then (1 : Int32) else (0 : Int32))), .val (.int (3 : Int32))] []))
      refine own_go (fun _ k => XS.iloadN X0.here hx rfl (hb hby d1_4_10) rfl k) ?_
      show own_Go p.tables e below _ (s₁.setTop (mkF m 11 #[.val (.ref a0), .val (.int (if w2 = (0 : Int64) then (1 : Int32) else (0 : Int32))), .val (.int (3 : Int32))] [(.int (if w2 = (0 : Int64) then (1 : Int32) else (0 : Int32)))]))
      by_cases hc11_3 : (if w2 = (0 : Int64) then (1 : Int32) else (0 : Int32)) = (0 : Int32)
      · refine own_go (fun _ k => XS.ifYes X0.here hx rfl (pc0 := 11) (pc' := 34) rfl (hb hby d1_4_11) rfl ((if0 _ _).trans (teq hc11_3).1) (by decide) (by decide) k) ?_
        show own_Go p.tables e below _ (s₁.setTop (mkF m 34 #[.val (.ref a0), .val (.int (if w2 = (0 : Int64) then (1 : Int32) else (0 : Int32))), .val (.int (3 : Int32))] []))
        refine own_go (fun _ k => XS.iloadN X0.here hx rfl (hb hby d1_4_34) rfl k) ?_
        show own_Go p.tables e below _ (s₁.setTop (mkF m 35 #[.val (.ref a0), .val (.int (if w2 = (0 : Int64) then (1 : Int32) else (0 : Int32))), .val (.int (3 : Int32))] [(.int (if w2 = (0 : Int64) then (1 : Int32) else (0 : Int32)))]))
        refine own_end X0 Bd.notSynchronized (v := some (.int (nar .boolean (if w2 = (0 : Int64) then (1 : Int32) else (0 : Int32))))) (fun h => by rw [Bd.returns] at h; cases h) (fun fs hr => retN X0 hx (t := .boolean) Bd.returns (by simp) (hb hby d1_4_35) hr) ?_ (by decide) (by decide)
        exact ⟨by rw [own_f1_4, if_neg hc11, if_neg hc11_2, if_pos hc11_3], N0, e0⟩
      · refine own_go (fun _ k => XS.ifNo X0.here hx rfl (hb hby d1_4_11) rfl ((if0 _ _).trans (feq hc11_3).1) k) ?_
        show own_Go p.tables e below _ (s₁.setTop (mkF m 14 #[.val (.ref a0), .val (.int (if w2 = (0 : Int64) then (1 : Int32) else (0 : Int32))), .val (.int (3 : Int32))] []))
        refine own_go (fun _ k => XS.aloadN X0.here hx rfl (hb hby d1_4_14) rfl rfl k) ?_
        show own_Go p.tables e below _ (s₁.setTop (mkF m 15 #[.val (.ref a0), .val (.int (if w2 = (0 : Int64) then (1 : Int32) else (0 : Int32))), .val (.int (3 : Int32))] [(.ref a0)]))
        refine own_go (fun _ k => XS.iloadN X0.here hx rfl (hb hby d1_4_15) rfl k) ?_
        show own_Go p.tables e below _ (s₁.setTop (mkF m 16 #[.val (.ref a0), .val (.int (if w2 = (0 : Int64) then (1 : Int32) else (0 : Int32))), .val (.int (3 : Int32))] [(.int (3 : Int32)), (.ref a0)]))
        have vo11 := V_a0
        obtain ⟨cl11, Ar11, Aq11, AS11, AN11, AH11, AG11⟩ := vo11
        have hin11 : ¬ ((3 : Int32) < 0 ∨ cl11.slots.size ≤ ((3 : Int32)).toNatClampNeg) := inb_of AS11 ⟨by decide, by decide⟩
        have hat11 : cl11.slots[((3 : Int32)).toNatClampNeg]? = some (.long w3) := Has.at AH11 hin11 rfl
        refine own_go (fun _ k => X0.laload hx (j := (3 : Int32)) (v := (.long w3)) (by rw [e0]; exact Ar11.1) (State.isArrayOf_alike hZ.alike Ar11.2.1) Ar11.2.2 hin11 hat11 (g := (mkF m 16 #[.val (.ref a0), .val (.int (if w2 = (0 : Int64) then (1 : Int32) else (0 : Int32))), .val (.int (3 : Int32))] [(.int (3 : Int32)), (.ref a0)])) rfl rfl (hb hby d1_4_16) _ k) ?_
        show own_Go p.tables e below _ (s₁.setTop (mkF m 17 #[.val (.ref a0), .val (.int (if w2 = (0 : Int64) then (1 : Int32) else (0 : Int32))), .val (.int (3 : Int32))] [(.long w3)]))
        refine own_go (fun _ k => XS.lconst X0.here hx rfl (hb hby d1_4_17) k) ?_
        show own_Go p.tables e below _ (s₁.setTop (mkF m 18 #[.val (.ref a0), .val (.int (if w2 = (0 : Int64) then (1 : Int32) else (0 : Int32))), .val (.int (3 : Int32))] [(.long (0 : Int64)), (.long w3)]))
        refine own_go (fun _ k => XS.lcmp X0.here hx rfl (hb hby d1_4_18) rfl k) ?_
        show own_Go p.tables e below _ (s₁.setTop (mkF m 19 #[.val (.ref a0), .val (.int (if w2 = (0 : Int64) then (1 : Int32) else (0 : Int32))), .val (.int (3 : Int32))] [(.int (lcmpW w3 (0 : Int64)))]))
        have sg12 : ∀ t, Steps p.tables e below (s₁.setTop (mkF m 27 #[.val (.ref a0), .val (.int (if w2 = (0 : Int64) then (1 : Int32) else (0 : Int32))), .val (.int (3 : Int32))] [(.int (if w3 = (0 : Int64) then (1 : Int32) else (0 : Int32)))])) t → Steps p.tables e below (s₁.setTop (mkF m 19 #[.val (.ref a0), .val (.int (if w2 = (0 : Int64) then (1 : Int32) else (0 : Int32))), .val (.int (3 : Int32))] [(.int (lcmpW w3 (0 : Int64)))])) t := by
          intro t k
          by_cases hc19 : w3 = (0 : Int64)
          · try simp only [if_pos hc19] at k
            refine XS.ifNo X0.here hx rfl (hb hby d1_4_19) rfl ((if0 _ _).trans (teq ((lw_eq w3 (0 : Int64)).mpr hc19)).2) ?_
            show Steps p.tables e below (s₁.setTop (mkF m 22 #[.val (.ref a0), .val (.int (if w2 = (0 : Int64) then (1 : Int32) else (0 : Int32))), .val (.int (3 : Int32))] [])) _
            refine XS.iconst X0.here hx rfl (hb hby d1_4_22) ?_
            show Steps p.tables e below (s₁.setTop (mkF m 23 #[.val (.ref a0), .val (.int (if w2 = (0 : Int64) then (1 : Int32) else (0 : Int32))), .val (.int (3 : Int32))] [(.int (1 : Int32))])) _
            refine XS.goto X0.here hx rfl (pc0 := 23) (pc' := 27) rfl (hb hby d1_4_23) (by decide) (by decide) ?_
            show Steps p.tables e below (s₁.setTop (mkF m 27 #[.val (.ref a0), .val (.int (if w2 = (0 : Int64) then (1 : Int32) else (0 : Int32))), .val (.int (3 : Int32))] [(.int (1 : Int32))])) _
            exact k
          · try simp only [if_neg hc19] at k
            refine XS.ifYes X0.here hx rfl (pc0 := 19) (pc' := 26) rfl (hb hby d1_4_19) rfl ((if0 _ _).trans (feq (mt (lw_eq w3 (0 : Int64)).mp hc19)).2) (by decide) (by decide) ?_
            show Steps p.tables e below (s₁.setTop (mkF m 26 #[.val (.ref a0), .val (.int (if w2 = (0 : Int64) then (1 : Int32) else (0 : Int32))), .val (.int (3 : Int32))] [])) _
            refine XS.iconst X0.here hx rfl (hb hby d1_4_26) ?_
            show Steps p.tables e below (s₁.setTop (mkF m 27 #[.val (.ref a0), .val (.int (if w2 = (0 : Int64) then (1 : Int32) else (0 : Int32))), .val (.int (3 : Int32))] [(.int (0 : Int32))])) _
            exact k
        refine own_go sg12 ?_
        show own_Go p.tables e below _ (s₁.setTop (mkF m 27 #[.val (.ref a0), .val (.int (if w2 = (0 : Int64) then (1 : Int32) else (0 : Int32))), .val (.int (3 : Int32))] [(.int (if w3 = (0 : Int64) then (1 : Int32) else (0 : Int32)))]))
        refine own_go (fun _ k => XS.istoreN X0.here hx rfl (hb hby d1_4_27) rfl (l' := #[.val (.ref a0), .val (.int (if w3 = (0 : Int64) then (1 : Int32) else (0 : Int32))), .val (.int (3 : Int32))]) rfl k) ?_
        show own_Go p.tables e below _ (s₁.setTop (mkF m 28 #[.val (.ref a0), .val (.int (if w3 = (0 : Int64) then (1 : Int32) else (0 : Int32))), .val (.int (3 : Int32))] []))
        refine own_go (fun _ k => XS.iinc X0.here hx rfl (hb hby d1_4_28) rfl (l' := #[.val (.ref a0), .val (.int (if w3 = (0 : Int64) then (1 : Int32) else (0 : Int32))), .val (.int (4 : Int32))]) rfl k) ?_
        show own_Go p.tables e below _ (s₁.setTop (mkF m 31 #[.val (.ref a0), .val (.int (if w3 = (0 : Int64) then (1 : Int32) else (0 : Int32))), .val (.int (4 : Int32))] []))
        refine own_go (fun _ k => XS.goto X0.here hx rfl (pc0 := 31) (pc' := 4) rfl (hb hby d1_4_31) (by decide) (by decide) k) ?_
        show own_Go p.tables e below _ (s₁.setTop (mkF m 4 #[.val (.ref a0), .val (.int (if w3 = (0 : Int64) then (1 : Int32) else (0 : Int32))), .val (.int (4 : Int32))] []))
        refine own_go (fun _ k => XS.iloadN X0.here hx rfl (hb hby d1_4_4) rfl k) ?_
        show own_Go p.tables e below _ (s₁.setTop (mkF m 5 #[.val (.ref a0), .val (.int (if w3 = (0 : Int64) then (1 : Int32) else (0 : Int32))), .val (.int (4 : Int32))] [(.int (4 : Int32))]))
        refine own_go (fun _ k => XS.aloadN X0.here hx rfl (hb hby d1_4_5) rfl rfl k) ?_
        show own_Go p.tables e below _ (s₁.setTop (mkF m 6 #[.val (.ref a0), .val (.int (if w3 = (0 : Int64) then (1 : Int32) else (0 : Int32))), .val (.int (4 : Int32))] [(.ref a0), (.int (4 : Int32))]))
        have vo13 := V_a0
        obtain ⟨cl13, Ar13, Aq13, AS13, AN13, AH13, AG13⟩ := vo13
        refine own_go (fun _ k => X0.arraylength hx (by rw [e0]; exact Ar13.1) (State.isArrayOf_alike hZ.alike Ar13.2.1) (g := (mkF m 6 #[.val (.ref a0), .val (.int (if w3 = (0 : Int64) then (1 : Int32) else (0 : Int32))), .val (.int (4 : Int32))] [(.ref a0), (.int (4 : Int32))])) rfl rfl (hb hby d1_4_6) _ k) ?_
        rw [len_of AS13 AN13]
        show own_Go p.tables e below _ (s₁.setTop (mkF m 7 #[.val (.ref a0), .val (.int (if w3 = (0 : Int64) then (1 : Int32) else (0 : Int32))), .val (.int (4 : Int32))] [(.int (4 : Int32)), (.int (4 : Int32))]))
        have hf7 : ¬ ((4 : Int32) < (4 : Int32)) := by decide
        refine own_go (fun _ k => XS.icmpYes X0.here hx rfl (pc0 := 7) (pc' := 34) rfl (hb hby d1_4_7) rfl (flt hf7).2.1 (by decide) (by decide) k) ?_
        show own_Go p.tables e below _ (s₁.setTop (mkF m 34 #[.val (.ref a0), .val (.int (if w3 = (0 : Int64) then (1 : Int32) else (0 : Int32))), .val (.int (4 : Int32))] []))
        refine own_go (fun _ k => XS.iloadN X0.here hx rfl (hb hby d1_4_34) rfl k) ?_
        show own_Go p.tables e below _ (s₁.setTop (mkF m 35 #[.val (.ref a0), .val (.int (if w3 = (0 : Int64) then (1 : Int32) else (0 : Int32))), .val (.int (4 : Int32))] [(.int (if w3 = (0 : Int64) then (1 : Int32) else (0 : Int32)))]))
        refine own_end X0 Bd.notSynchronized (v := some (.int (nar .boolean (if w3 = (0 : Int64) then (1 : Int32) else (0 : Int32))))) (fun h => by rw [Bd.returns] at h; cases h) (fun fs hr => retN X0 hx (t := .boolean) Bd.returns (by simp) (hb hby d1_4_35) hr) ?_ (by decide) (by decide)
        exact ⟨by rw [own_f1_4, if_neg hc11, if_neg hc11_2, if_neg hc11_3], N0, e0⟩
theorem own_five {p v : Int32} (h : v = ((p &&& 2147483647) - ((p &&& 2147483647) / 5) * 5)) : v = 0 ∨ v = 1 ∨ v = 2 ∨ v = 3 ∨ v = 4 := by
  have e1 := c_mask p 2147483647 31 (by decide) (by decide)
  have e2 := c_irem (p &&& 2147483647) 5 5 (by decide)
  rw [← irem_eq_mod, ← h] at e2
  have r := rng32 p
  have k : (0 : Int32).toInt = 0 ∧ (1 : Int32).toInt = 1 ∧ (2 : Int32).toInt = 2 ∧ (3 : Int32).toInt = 3 ∧ (4 : Int32).toInt = 4 := by decide
  simp only [← Int32.toInt_inj, k.1, k.2.1, k.2.2.1, k.2.2.2.1, k.2.2.2.2]
  omega
theorem own_n0 : nar .boolean 0 = 0 := rfl
theorem own_n1 : nar .boolean 1 = 1 := rfl
theorem own_e1 (w0 : Int64) : own_f1_1 w0 = (if w0 = (0 : Int64) then (1 : Int32) else (0 : Int32)) := by
  rw [own_f1_1]
  by_cases hw0 : w0 = 0 <;> simp [hw0, own_n0, own_n1]
theorem own_e2 (w0 w1 : Int64) : own_f1_2 w0 w1 = (if w0 = (0 : Int64) then (if w1 = (0 : Int64) then (1 : Int32) else (0 : Int32)) else (0 : Int32)) := by
  rw [own_f1_2]
  by_cases hw0 : w0 = 0 <;> by_cases hw1 : w1 = 0 <;> simp [hw0, hw1, own_n0, own_n1]
theorem own_e3 (w0 w1 w2 : Int64) : own_f1_3 w0 w1 w2 = (if w0 = (0 : Int64) then (if w1 = (0 : Int64) then (if w2 = (0 : Int64) then (1 : Int32) else (0 : Int32)) else (0 : Int32)) else (0 : Int32)) := by
  rw [own_f1_3]
  by_cases hw0 : w0 = 0 <;> by_cases hw1 : w1 = 0 <;> by_cases hw2 : w2 = 0 <;> simp [hw0, hw1, hw2, own_n0, own_n1]
theorem own_e4 (w0 w1 w2 w3 : Int64) : own_f1_4 w0 w1 w2 w3 = (if w0 = (0 : Int64) then (if w1 = (0 : Int64) then (if w2 = (0 : Int64) then (if w3 = (0 : Int64) then (1 : Int32) else (0 : Int32)) else (0 : Int32)) else (0 : Int32)) else (0 : Int32)) := by
  rw [own_f1_4]
  by_cases hw0 : w0 = 0 <;> by_cases hw1 : w1 = 0 <;> by_cases hw2 : w2 = 0 <;> by_cases hw3 : w3 = 0 <;> simp [hw0, hw1, hw2, hw3, own_n0, own_n1]
theorem pn0 : plainName "com/example/meshwright/meshwright/plan/PathCrossingsEmptyPinLaw" = true := by first | (simp [plainName, overriddenIn]; done) | decide +kernel
theorem pd0_0 : parseMethodDescriptor "([J)Z" = some ⟨[(.array .long)], some .boolean⟩ := by decide +kernel
theorem ef0 (m : MethodId) (p0 : Int32) (q1 : Int64) (q2 : Int64) (q3 : Int64) (q4 : Int64) : entryFrame m #[(.int p0), (.long q1), (.long q2), (.long q3), (.long q4)] maxLocals = mkF m 0 #[.val (.int p0), .val (.long q1), .second, .val (.long q2), .second, .val (.long q3), .second, .val (.long q4), .second, .unset, .unset, .unset, .unset, .unset] [] := by first | (simp [entryFrame, mkF, argsToLocals, Value.category, maxLocals]; done) | rfl
def own_Q0 (Z : State) (p0 : Int32) (q1 : Int64) (q2 : Int64) (q3 : Int64) (q4 : Int64) (h0 : Heap) (n0 : Nat) (v : Option Value) (h : Heap) (L : List Loc) : Prop := v = some (.int 1) ∧ Fr n0 L
set_option maxRecDepth 65536 in
set_option maxHeartbeats 40000000 in
theorem rm0 (l : Launch) (Z : State) (az : Array Value) (hw : ∀ d ∈ tables_1, d.before az Z = true) (ws : List Jvm.Cond) (p0 : Int32) (q1 : Int64) (q2 : Int64) (q3 : Int64) (q4 : Int64) (h0 : Heap) (n0 : Nat) (Z0 : n0 ≤ h0.size) :
    MetFree l x (head1 (Jvm.Cond.code x code maxLocals ret :: ws) room_1) (fun a U => a = #[(.int p0), (.long q1), (.long q2), (.long q3), (.long q4)] ∧ Z.Warmed39 U.vm ∧ U.heap = h0) (fun _ _ _ _ _ => True) (fun _ U o U' => ∃ v L, o = .returned v ∧ own_Q0 Z p0 q1 q2 q3 q4 h0 n0 v U'.heap L ∧ FrameEnd U o U' L 16 128) := by
  refine MetFree.of_bodySF (plainFor_of_name pn0) hisR ?_
  intro p e s m args below meth c s₁ Bd hml0 hP hK
  obtain ⟨rfl, hZ, hh⟩ := hP
  have hx := Bd.exec
  have hby := Bd.bytes
  have hml : c.maxLocals = 14 := hml0
  have hown : s.vm.findClass "com/example/meshwright/meshwright/plan/PathCrossingsEmptyPinLaw" = some m.cls := findClass_of_methodNamed Bd.named
  have hnm := (name_of_methodNamed Bd.named Bd.method).1
  have X0 : Stand p l e room_1 s m #[(.int p0), (.long q1), (.long q2), (.long q3), (.long q4)] below meth c s₁ [] 0 0 := Stand.of_body Bd
  have e0 : s₁.heap = h0 := by rw [← hh, Bd.state]; rfl
  have N0 := Fr.nil n0
  show own_Go p.tables e below (fun o U' => ∃ v L, o = .returned v ∧ own_Q0 Z p0 q1 q2 q3 q4 h0 n0 v U'.heap L ∧ FrameEnd s o U' L 16 128) (s₁.setTop (entryFrame m #[(.int p0), (.long q1), (.long q2), (.long q3), (.long q4)] maxLocals))
  refine own_go (fun _ k => castTop (ef0 m p0 q1 q2 q3 q4) k) ?_
  show own_Go p.tables e below _ (s₁.setTop (mkF m 0 #[.val (.int p0), .val (.long q1), .second, .val (.long q2), .second, .val (.long q3), .second, .val (.long q4), .second, .unset, .unset, .unset, .unset, .unset] []))
  refine own_go (fun _ k => XS.iloadN X0.here hx rfl (hb hby at_0) rfl k) ?_
  show own_Go p.tables e below _ (s₁.setTop (mkF m 1 #[.val (.int p0), .val (.long q1), .second, .val (.long q2), .second, .val (.long q3), .second, .val (.long q4), .second, .unset, .unset, .unset, .unset, .unset] [(.int p0)]))
  refine own_go (fun _ k => X0.ldcInt hx hown (mvT hZ (hw _ (List.mem_of_getElem? (i := 0) rfl))) (g := (mkF m 1 #[.val (.int p0), .val (.long q1), .second, .val (.long q2), .second, .val (.long q3), .second, .val (.long q4), .second, .unset, .unset, .unset, .unset, .unset] [(.int p0)])) rfl (hb hby at_1) _ k) ?_
  show own_Go p.tables e below _ (s₁.setTop (mkF m 3 #[.val (.int p0), .val (.long q1), .second, .val (.long q2), .second, .val (.long q3), .second, .val (.long q4), .second, .unset, .unset, .unset, .unset, .unset] [(.int (2147483647 : Int32)), (.int p0)]))
  refine own_go (fun _ k => XS.iand X0.here hx rfl (hb hby at_3) rfl k) ?_
  show own_Go p.tables e below _ (s₁.setTop (mkF m 4 #[.val (.int p0), .val (.long q1), .second, .val (.long q2), .second, .val (.long q3), .second, .val (.long q4), .second, .unset, .unset, .unset, .unset, .unset] [(.int (p0 &&& (2147483647 : Int32)))]))
  refine own_go (fun _ k => XS.iconst X0.here hx rfl (hb hby at_4) k) ?_
  show own_Go p.tables e below _ (s₁.setTop (mkF m 5 #[.val (.int p0), .val (.long q1), .second, .val (.long q2), .second, .val (.long q3), .second, .val (.long q4), .second, .unset, .unset, .unset, .unset, .unset] [(.int (5 : Int32)), (.int (p0 &&& (2147483647 : Int32)))]))
  refine own_go (fun _ k => XS.irem X0.here hx rfl (hb hby at_5) rfl (by decide) k) ?_
  show own_Go p.tables e below _ (s₁.setTop (mkF m 6 #[.val (.int p0), .val (.long q1), .second, .val (.long q2), .second, .val (.long q3), .second, .val (.long q4), .second, .unset, .unset, .unset, .unset, .unset] [(.int ((p0 &&& (2147483647 : Int32)) - ((p0 &&& (2147483647 : Int32)) / (5 : Int32)) * (5 : Int32)))]))
  refine own_go (fun _ k => XS.istore X0.here hx rfl (hb hby at_6) rfl (l' := #[.val (.int p0), .val (.long q1), .second, .val (.long q2), .second, .val (.long q3), .second, .val (.long q4), .second, .val (.int ((p0 &&& (2147483647 : Int32)) - ((p0 &&& (2147483647 : Int32)) / (5 : Int32)) * (5 : Int32))), .unset, .unset, .unset, .unset]) rfl k) ?_
  show own_Go p.tables e below _ (s₁.setTop (mkF m 8 #[.val (.int p0), .val (.long q1), .second, .val (.long q2), .second, .val (.long q3), .second, .val (.long q4), .second, .val (.int ((p0 &&& (2147483647 : Int32)) - ((p0 &&& (2147483647 : Int32)) / (5 : Int32)) * (5 : Int32))), .unset, .unset, .unset, .unset] []))
  obtain ⟨vn, hvn⟩ : ∃ z : Int32, z = ((p0 &&& (2147483647 : Int32)) - ((p0 &&& (2147483647 : Int32)) / (5 : Int32)) * (5 : Int32)) := ⟨_, rfl⟩
  rw [← hvn]
  show own_Go p.tables e below _ (s₁.setTop (mkF m 8 #[.val (.int p0), .val (.long q1), .second, .val (.long q2), .second, .val (.long q3), .second, .val (.long q4), .second, .val (.int vn), .unset, .unset, .unset, .unset] []))
  rcases own_five hvn with h5 | h5 | h5 | h5 | h5
  · subst h5
    show own_Go p.tables e below _ (s₁.setTop (mkF m 8 #[.val (.int p0), .val (.long q1), .second, .val (.long q2), .second, .val (.long q3), .second, .val (.long q4), .second, .val (.int (0 : Int32)), .unset, .unset, .unset, .unset] []))
    refine own_go (fun _ k => XS.iload X0.here hx rfl (hb hby at_8) rfl k) ?_
    show own_Go p.tables e below _ (s₁.setTop (mkF m 10 #[.val (.int p0), .val (.long q1), .second, .val (.long q2), .second, .val (.long q3), .second, .val (.long q4), .second, .val (.int (0 : Int32)), .unset, .unset, .unset, .unset] [(.int (0 : Int32))]))
    obtain ⟨T1, h1, k1, X1, e1, E1, A1, st1⟩ := newP X0 hx hZ (hw _ (List.mem_of_getElem? (i := 1) rfl)) e0 (g := (mkF m 10 #[.val (.int p0), .val (.long q1), .second, .val (.long q2), .second, .val (.long q3), .second, .val (.long q4), .second, .val (.int (0 : Int32)), .unset, .unset, .unset, .unset] [(.int (0 : Int32))])) rfl (hb hby at_10) rfl (by decide) (cap := 0) (by decide) (by decide) (by decide) (by decide)
    obtain ⟨b1, g1⟩ : ∃ z, z = h0.size := ⟨_, rfl⟩
    rw [← g1] at A1 st1
    have g_b1 : n0 ≤ b1 := Nat.le_trans Z0 (Nat.le_of_eq g1.symm)
    have Z1 : n0 ≤ h1.size := Nat.le_trans Z0 E1.1
    have V1 : Arv Z h1 b1 k1 .long (0 : Int32) [] (.long (0 : Int64)) := (Arv.new A1 (by decide)).pad (pad_rep [] (.long (0 : Int64)) 0)
    refine own_go st1 ?_
    show own_Go p.tables e below _ (T1.setTop (mkF m 12 #[.val (.int p0), .val (.long q1), .second, .val (.long q2), .second, .val (.long q3), .second, .val (.long q4), .second, .val (.int (0 : Int32)), .unset, .unset, .unset, .unset] [(.ref b1)]))
    refine own_go (fun _ k => XS.astore X1.here hx rfl (hb hby at_12) rfl rfl (l' := #[.val (.int p0), .val (.long q1), .second, .val (.long q2), .second, .val (.long q3), .second, .val (.long q4), .second, .val (.int (0 : Int32)), .val (.ref b1), .unset, .unset, .unset]) rfl k) ?_
    show own_Go p.tables e below _ (T1.setTop (mkF m 14 #[.val (.int p0), .val (.long q1), .second, .val (.long q2), .second, .val (.long q3), .second, .val (.long q4), .second, .val (.int (0 : Int32)), .val (.ref b1), .unset, .unset, .unset] []))
    refine own_go (fun _ k => XS.iload X1.here hx rfl (hb hby at_14) rfl k) ?_
    show own_Go p.tables e below _ (T1.setTop (mkF m 16 #[.val (.int p0), .val (.long q1), .second, .val (.long q2), .second, .val (.long q3), .second, .val (.long q4), .second, .val (.int (0 : Int32)), .val (.ref b1), .unset, .unset, .unset] [(.int (0 : Int32))]))
    have hf16 : ¬ ((0 : Int32) < (0 : Int32)) := by decide
    refine own_go (fun _ k => XS.ifYes X1.here hx rfl (pc0 := 16) (pc' := 24) rfl (hb hby at_16) rfl ((if0 _ _).trans (flt hf16).2.2.2) (by decide) (by decide) k) ?_
    show own_Go p.tables e below _ (T1.setTop (mkF m 24 #[.val (.int p0), .val (.long q1), .second, .val (.long q2), .second, .val (.long q3), .second, .val (.long q4), .second, .val (.int (0 : Int32)), .val (.ref b1), .unset, .unset, .unset] []))
    refine own_go (fun _ k => XS.iload X1.here hx rfl (hb hby at_24) rfl k) ?_
    show own_Go p.tables e below _ (T1.setTop (mkF m 26 #[.val (.int p0), .val (.long q1), .second, .val (.long q2), .second, .val (.long q3), .second, .val (.long q4), .second, .val (.int (0 : Int32)), .val (.ref b1), .unset, .unset, .unset] [(.int (0 : Int32))]))
    refine own_go (fun _ k => XS.iconst X1.here hx rfl (hb hby at_26) k) ?_
    show own_Go p.tables e below _ (T1.setTop (mkF m 27 #[.val (.int p0), .val (.long q1), .second, .val (.long q2), .second, .val (.long q3), .second, .val (.long q4), .second, .val (.int (0 : Int32)), .val (.ref b1), .unset, .unset, .unset] [(.int (1 : Int32)), (.int (0 : Int32))]))
    have hf27 : ¬ ((1 : Int32) < (0 : Int32)) := by decide
    refine own_go (fun _ k => XS.icmpYes X1.here hx rfl (pc0 := 27) (pc' := 35) rfl (hb hby at_27) rfl (flt hf27).2.2.2 (by decide) (by decide) k) ?_
    show own_Go p.tables e below _ (T1.setTop (mkF m 35 #[.val (.int p0), .val (.long q1), .second, .val (.long q2), .second, .val (.long q3), .second, .val (.long q4), .second, .val (.int (0 : Int32)), .val (.ref b1), .unset, .unset, .unset] []))
    refine own_go (fun _ k => XS.iload X1.here hx rfl (hb hby at_35) rfl k) ?_
    show own_Go p.tables e below _ (T1.setTop (mkF m 37 #[.val (.int p0), .val (.long q1), .second, .val (.long q2), .second, .val (.long q3), .second, .val (.long q4), .second, .val (.int (0 : Int32)), .val (.ref b1), .unset, .unset, .unset] [(.int (0 : Int32))]))
    refine own_go (fun _ k => XS.iconst X1.here hx rfl (hb hby at_37) k) ?_
    show own_Go p.tables e below _ (T1.setTop (mkF m 38 #[.val (.int p0), .val (.long q1), .second, .val (.long q2), .second, .val (.long q3), .second, .val (.long q4), .second, .val (.int (0 : Int32)), .val (.ref b1), .unset, .unset, .unset] [(.int (2 : Int32)), (.int (0 : Int32))]))
    have hf38 : ¬ ((2 : Int32) < (0 : Int32)) := by decide
    refine own_go (fun _ k => XS.icmpYes X1.here hx rfl (pc0 := 38) (pc' := 47) rfl (hb hby at_38) rfl (flt hf38).2.2.2 (by decide) (by decide) k) ?_
    show own_Go p.tables e below _ (T1.setTop (mkF m 47 #[.val (.int p0), .val (.long q1), .second, .val (.long q2), .second, .val (.long q3), .second, .val (.long q4), .second, .val (.int (0 : Int32)), .val (.ref b1), .unset, .unset, .unset] []))
    refine own_go (fun _ k => XS.iload X1.here hx rfl (hb hby at_47) rfl k) ?_
    show own_Go p.tables e below _ (T1.setTop (mkF m 49 #[.val (.int p0), .val (.long q1), .second, .val (.long q2), .second, .val (.long q3), .second, .val (.long q4), .second, .val (.int (0 : Int32)), .val (.ref b1), .unset, .unset, .unset] [(.int (0 : Int32))]))
    refine own_go (fun _ k => XS.iconst X1.here hx rfl (hb hby at_49) k) ?_
    show own_Go p.tables e below _ (T1.setTop (mkF m 50 #[.val (.int p0), .val (.long q1), .second, .val (.long q2), .second, .val (.long q3), .second, .val (.long q4), .second, .val (.int (0 : Int32)), .val (.ref b1), .unset, .unset, .unset] [(.int (3 : Int32)), (.int (0 : Int32))]))
    have hf50 : ¬ ((3 : Int32) < (0 : Int32)) := by decide
    refine own_go (fun _ k => XS.icmpYes X1.here hx rfl (pc0 := 50) (pc' := 59) rfl (hb hby at_50) rfl (flt hf50).2.2.2 (by decide) (by decide) k) ?_
    show own_Go p.tables e below _ (T1.setTop (mkF m 59 #[.val (.int p0), .val (.long q1), .second, .val (.long q2), .second, .val (.long q3), .second, .val (.long q4), .second, .val (.int (0 : Int32)), .val (.ref b1), .unset, .unset, .unset] []))
    refine own_go (fun _ k => XS.iload X1.here hx rfl (hb hby at_59) rfl k) ?_
    show own_Go p.tables e below _ (T1.setTop (mkF m 61 #[.val (.int p0), .val (.long q1), .second, .val (.long q2), .second, .val (.long q3), .second, .val (.long q4), .second, .val (.int (0 : Int32)), .val (.ref b1), .unset, .unset, .unset] [(.int (0 : Int32))]))
    refine own_go (fun _ k => XS.iconst X1.here hx rfl (hb hby at_61) k) ?_
    show own_Go p.tables e below _ (T1.setTop (mkF m 62 #[.val (.int p0), .val (.long q1), .second, .val (.long q2), .second, .val (.long q3), .second, .val (.long q4), .second, .val (.int (0 : Int32)), .val (.ref b1), .unset, .unset, .unset] [(.int (1 : Int32)), (.int (0 : Int32))]))
    have hf62 : (0 : Int32) < (1 : Int32) := by decide
    refine own_go (fun _ k => XS.icmpYes X1.here hx rfl (pc0 := 62) (pc' := 71) rfl (hb hby at_62) rfl (tlt hf62).1 (by decide) (by decide) k) ?_
    show own_Go p.tables e below _ (T1.setTop (mkF m 71 #[.val (.int p0), .val (.long q1), .second, .val (.long q2), .second, .val (.long q3), .second, .val (.long q4), .second, .val (.int (0 : Int32)), .val (.ref b1), .unset, .unset, .unset] []))
    refine own_go (fun _ k => XS.iload X1.here hx rfl (hb hby at_71) rfl k) ?_
    show own_Go p.tables e below _ (T1.setTop (mkF m 73 #[.val (.int p0), .val (.long q1), .second, .val (.long q2), .second, .val (.long q3), .second, .val (.long q4), .second, .val (.int (0 : Int32)), .val (.ref b1), .unset, .unset, .unset] [(.int (0 : Int32))]))
    refine own_go (fun _ k => XS.iconst X1.here hx rfl (hb hby at_73) k) ?_
    show own_Go p.tables e below _ (T1.setTop (mkF m 74 #[.val (.int p0), .val (.long q1), .second, .val (.long q2), .second, .val (.long q3), .second, .val (.long q4), .second, .val (.int (0 : Int32)), .val (.ref b1), .unset, .unset, .unset] [(.int (2 : Int32)), (.int (0 : Int32))]))
    have hf74 : (0 : Int32) < (2 : Int32) := by decide
    refine own_go (fun _ k => XS.icmpYes X1.here hx rfl (pc0 := 74) (pc' := 83) rfl (hb hby at_74) rfl (tlt hf74).1 (by decide) (by decide) k) ?_
    show own_Go p.tables e below _ (T1.setTop (mkF m 83 #[.val (.int p0), .val (.long q1), .second, .val (.long q2), .second, .val (.long q3), .second, .val (.long q4), .second, .val (.int (0 : Int32)), .val (.ref b1), .unset, .unset, .unset] []))
    refine own_go (fun _ k => XS.iload X1.here hx rfl (hb hby at_83) rfl k) ?_
    show own_Go p.tables e below _ (T1.setTop (mkF m 85 #[.val (.int p0), .val (.long q1), .second, .val (.long q2), .second, .val (.long q3), .second, .val (.long q4), .second, .val (.int (0 : Int32)), .val (.ref b1), .unset, .unset, .unset] [(.int (0 : Int32))]))
    refine own_go (fun _ k => XS.iconst X1.here hx rfl (hb hby at_85) k) ?_
    show own_Go p.tables e below _ (T1.setTop (mkF m 86 #[.val (.int p0), .val (.long q1), .second, .val (.long q2), .second, .val (.long q3), .second, .val (.long q4), .second, .val (.int (0 : Int32)), .val (.ref b1), .unset, .unset, .unset] [(.int (3 : Int32)), (.int (0 : Int32))]))
    have hf86 : (0 : Int32) < (3 : Int32) := by decide
    refine own_go (fun _ k => XS.icmpYes X1.here hx rfl (pc0 := 86) (pc' := 96) rfl (hb hby at_86) rfl (tlt hf86).1 (by decide) (by decide) k) ?_
    show own_Go p.tables e below _ (T1.setTop (mkF m 96 #[.val (.int p0), .val (.long q1), .second, .val (.long q2), .second, .val (.long q3), .second, .val (.long q4), .second, .val (.int (0 : Int32)), .val (.ref b1), .unset, .unset, .unset] []))
    refine own_go (fun _ k => XS.iload X1.here hx rfl (hb hby at_96) rfl k) ?_
    show own_Go p.tables e below _ (T1.setTop (mkF m 98 #[.val (.int p0), .val (.long q1), .second, .val (.long q2), .second, .val (.long q3), .second, .val (.long q4), .second, .val (.int (0 : Int32)), .val (.ref b1), .unset, .unset, .unset] [(.int (0 : Int32))]))
    refine own_go (fun _ k => XS.iconst X1.here hx rfl (hb hby at_98) k) ?_
    show own_Go p.tables e below _ (T1.setTop (mkF m 99 #[.val (.int p0), .val (.long q1), .second, .val (.long q2), .second, .val (.long q3), .second, .val (.long q4), .second, .val (.int (0 : Int32)), .val (.ref b1), .unset, .unset, .unset] [(.int (4 : Int32)), (.int (0 : Int32))]))
    have hf99 : (0 : Int32) < (4 : Int32) := by decide
    refine own_go (fun _ k => XS.icmpYes X1.here hx rfl (pc0 := 99) (pc' := 109) rfl (hb hby at_99) rfl (tlt hf99).1 (by decide) (by decide) k) ?_
    show own_Go p.tables e below _ (T1.setTop (mkF m 109 #[.val (.int p0), .val (.long q1), .second, .val (.long q2), .second, .val (.long q3), .second, .val (.long q4), .second, .val (.int (0 : Int32)), .val (.ref b1), .unset, .unset, .unset] []))
    refine own_go (fun _ k => XS.iconst X1.here hx rfl (hb hby at_109) k) ?_
    show own_Go p.tables e below _ (T1.setTop (mkF m 110 #[.val (.int p0), .val (.long q1), .second, .val (.long q2), .second, .val (.long q3), .second, .val (.long q4), .second, .val (.int (0 : Int32)), .val (.ref b1), .unset, .unset, .unset] [(.int (1 : Int32))]))
    refine own_go (fun _ k => XS.goto X1.here hx rfl (pc0 := 110) (pc' := 114) rfl (hb hby at_110) (by decide) (by decide) k) ?_
    show own_Go p.tables e below _ (T1.setTop (mkF m 114 #[.val (.int p0), .val (.long q1), .second, .val (.long q2), .second, .val (.long q3), .second, .val (.long q4), .second, .val (.int (0 : Int32)), .val (.ref b1), .unset, .unset, .unset] [(.int (1 : Int32))]))
    refine own_go (fun _ k => XS.istore X1.here hx rfl (hb hby at_114) rfl (l' := #[.val (.int p0), .val (.long q1), .second, .val (.long q2), .second, .val (.long q3), .second, .val (.long q4), .second, .val (.int (0 : Int32)), .val (.ref b1), .val (.int (1 : Int32)), .unset, .unset]) rfl k) ?_
    show own_Go p.tables e below _ (T1.setTop (mkF m 116 #[.val (.int p0), .val (.long q1), .second, .val (.long q2), .second, .val (.long q3), .second, .val (.long q4), .second, .val (.int (0 : Int32)), .val (.ref b1), .val (.int (1 : Int32)), .unset, .unset] []))
    refine own_go (fun _ k => XS.aload X1.here hx rfl (hb hby at_116) rfl rfl k) ?_
    show own_Go p.tables e below _ (T1.setTop (mkF m 118 #[.val (.int p0), .val (.long q1), .second, .val (.long q2), .second, .val (.long q3), .second, .val (.long q4), .second, .val (.int (0 : Int32)), .val (.ref b1), .val (.int (1 : Int32)), .unset, .unset] [(.ref b1)]))
    obtain ⟨_, _, ⟨T2, L2, k2, n2⟩, -, X2, ⟨Lc2, hQ2, l2, y2, z2⟩, st2⟩ := Jvm.LawKit.callS X1 hx (y := (⟨"com/example/meshwright/meshwright/plan/PathCrossings", "empty", "([J)Z"⟩ : MethodName)) hown (mvT hZ (hw _ (List.mem_of_getElem? (i := 2) rfl))) (mvT hZ (hw _ (List.mem_of_getElem? (i := 3) rfl))) (mvT hZ (hw _ (List.mem_of_getElem? (i := 4) rfl))) (mvT hZ (hw _ (List.mem_of_getElem? (i := 5) rfl))) (by decide) (backOf (W := 0) (rm1_0 l Z az hw [] b1 k1 h1 n0 Z1 V1) hZ (hw _ (List.mem_of_getElem? (i := 5) rfl)) (hw _ (List.mem_of_getElem? (i := 4) rfl)) (by decide) (by decide)) (g := (mkF m 118 #[.val (.int p0), .val (.long q1), .second, .val (.long q2), .second, .val (.long q3), .second, .val (.long q4), .second, .val (.int (0 : Int32)), .val (.ref b1), .val (.int (1 : Int32)), .unset, .unset] [(.ref b1)])) rfl (by rw [hml]; rfl) (argsL := [(.ref b1)]) (rest := []) (lenOf pd0_0 rfl) rfl (by show 2 * 0 + _ ≤ _; exact Nat.le_of_eq rfl) (hb hby at_118) (fun _ _ => ⟨rfl, e1, (by decide : 1 + 0 ≤ _), (by decide : 0 + 0 ≤ _)⟩)
    dsimp only [Pt.U, Pt.locs, Pt.cells, Pt.slots] at X2 l2 y2 z2 st2 hQ2
    subst l2 y2 z2
    refine own_go st2 ?_
    obtain ⟨rfl, N2q, e2⟩ := hQ2
    have N2 := Fr.app N0 N2q
    show own_Go p.tables e below _ (T2.setTop (mkF m 121 #[.val (.int p0), .val (.long q1), .second, .val (.long q2), .second, .val (.long q3), .second, .val (.long q4), .second, .val (.int (0 : Int32)), .val (.ref b1), .val (.int (1 : Int32)), .unset, .unset] [(.int (own_f1_0 ))]))
    refine own_go (fun _ k => XS.istore X2.here hx rfl (hb hby at_121) rfl (l' := #[.val (.int p0), .val (.long q1), .second, .val (.long q2), .second, .val (.long q3), .second, .val (.long q4), .second, .val (.int (0 : Int32)), .val (.ref b1), .val (.int (1 : Int32)), .val (.int (own_f1_0 )), .unset]) rfl k) ?_
    show own_Go p.tables e below _ (T2.setTop (mkF m 123 #[.val (.int p0), .val (.long q1), .second, .val (.long q2), .second, .val (.long q3), .second, .val (.long q4), .second, .val (.int (0 : Int32)), .val (.ref b1), .val (.int (1 : Int32)), .val (.int (own_f1_0 )), .unset] []))
    refine own_go (fun _ k => XS.iload X2.here hx rfl (hb hby at_123) rfl k) ?_
    show own_Go p.tables e below _ (T2.setTop (mkF m 125 #[.val (.int p0), .val (.long q1), .second, .val (.long q2), .second, .val (.long q3), .second, .val (.long q4), .second, .val (.int (0 : Int32)), .val (.ref b1), .val (.int (1 : Int32)), .val (.int (own_f1_0 )), .unset] [(.int (0 : Int32))]))
    refine own_go (fun _ k => XS.iconst X2.here hx rfl (hb hby at_125) k) ?_
    show own_Go p.tables e below _ (T2.setTop (mkF m 126 #[.val (.int p0), .val (.long q1), .second, .val (.long q2), .second, .val (.long q3), .second, .val (.long q4), .second, .val (.int (0 : Int32)), .val (.ref b1), .val (.int (1 : Int32)), .val (.int (own_f1_0 )), .unset] [(.int (1 : Int32)), (.int (0 : Int32))]))
    have hf126 : (0 : Int32) < (1 : Int32) := by decide
    refine own_go (fun _ k => XS.icmpYes X2.here hx rfl (pc0 := 126) (pc' := 138) rfl (hb hby at_126) rfl (tlt hf126).1 (by decide) (by decide) k) ?_
    show own_Go p.tables e below _ (T2.setTop (mkF m 138 #[.val (.int p0), .val (.long q1), .second, .val (.long q2), .second, .val (.long q3), .second, .val (.long q4), .second, .val (.int (0 : Int32)), .val (.ref b1), .val (.int (1 : Int32)), .val (.int (own_f1_0 )), .unset] []))
    refine own_go (fun _ k => XS.iload X2.here hx rfl (hb hby at_138) rfl k) ?_
    show own_Go p.tables e below _ (T2.setTop (mkF m 140 #[.val (.int p0), .val (.long q1), .second, .val (.long q2), .second, .val (.long q3), .second, .val (.long q4), .second, .val (.int (0 : Int32)), .val (.ref b1), .val (.int (1 : Int32)), .val (.int (own_f1_0 )), .unset] [(.int (0 : Int32))]))
    refine own_go (fun _ k => XS.iconst X2.here hx rfl (hb hby at_140) k) ?_
    show own_Go p.tables e below _ (T2.setTop (mkF m 141 #[.val (.int p0), .val (.long q1), .second, .val (.long q2), .second, .val (.long q3), .second, .val (.long q4), .second, .val (.int (0 : Int32)), .val (.ref b1), .val (.int (1 : Int32)), .val (.int (own_f1_0 )), .unset] [(.int (2 : Int32)), (.int (0 : Int32))]))
    have hf141 : (0 : Int32) < (2 : Int32) := by decide
    refine own_go (fun _ k => XS.icmpYes X2.here hx rfl (pc0 := 141) (pc' := 153) rfl (hb hby at_141) rfl (tlt hf141).1 (by decide) (by decide) k) ?_
    show own_Go p.tables e below _ (T2.setTop (mkF m 153 #[.val (.int p0), .val (.long q1), .second, .val (.long q2), .second, .val (.long q3), .second, .val (.long q4), .second, .val (.int (0 : Int32)), .val (.ref b1), .val (.int (1 : Int32)), .val (.int (own_f1_0 )), .unset] []))
    refine own_go (fun _ k => XS.iload X2.here hx rfl (hb hby at_153) rfl k) ?_
    show own_Go p.tables e below _ (T2.setTop (mkF m 155 #[.val (.int p0), .val (.long q1), .second, .val (.long q2), .second, .val (.long q3), .second, .val (.long q4), .second, .val (.int (0 : Int32)), .val (.ref b1), .val (.int (1 : Int32)), .val (.int (own_f1_0 )), .unset] [(.int (0 : Int32))]))
    refine own_go (fun _ k => XS.iconst X2.here hx rfl (hb hby at_155) k) ?_
    show own_Go p.tables e below _ (T2.setTop (mkF m 156 #[.val (.int p0), .val (.long q1), .second, .val (.long q2), .second, .val (.long q3), .second, .val (.long q4), .second, .val (.int (0 : Int32)), .val (.ref b1), .val (.int (1 : Int32)), .val (.int (own_f1_0 )), .unset] [(.int (3 : Int32)), (.int (0 : Int32))]))
    have hf156 : (0 : Int32) < (3 : Int32) := by decide
    refine own_go (fun _ k => XS.icmpYes X2.here hx rfl (pc0 := 156) (pc' := 169) rfl (hb hby at_156) rfl (tlt hf156).1 (by decide) (by decide) k) ?_
    show own_Go p.tables e below _ (T2.setTop (mkF m 169 #[.val (.int p0), .val (.long q1), .second, .val (.long q2), .second, .val (.long q3), .second, .val (.long q4), .second, .val (.int (0 : Int32)), .val (.ref b1), .val (.int (1 : Int32)), .val (.int (own_f1_0 )), .unset] []))
    refine own_go (fun _ k => XS.iload X2.here hx rfl (hb hby at_169) rfl k) ?_
    show own_Go p.tables e below _ (T2.setTop (mkF m 171 #[.val (.int p0), .val (.long q1), .second, .val (.long q2), .second, .val (.long q3), .second, .val (.long q4), .second, .val (.int (0 : Int32)), .val (.ref b1), .val (.int (1 : Int32)), .val (.int (own_f1_0 )), .unset] [(.int (0 : Int32))]))
    refine own_go (fun _ k => XS.iconst X2.here hx rfl (hb hby at_171) k) ?_
    show own_Go p.tables e below _ (T2.setTop (mkF m 172 #[.val (.int p0), .val (.long q1), .second, .val (.long q2), .second, .val (.long q3), .second, .val (.long q4), .second, .val (.int (0 : Int32)), .val (.ref b1), .val (.int (1 : Int32)), .val (.int (own_f1_0 )), .unset] [(.int (4 : Int32)), (.int (0 : Int32))]))
    have hf172 : (0 : Int32) < (4 : Int32) := by decide
    refine own_go (fun _ k => XS.icmpYes X2.here hx rfl (pc0 := 172) (pc' := 185) rfl (hb hby at_172) rfl (tlt hf172).1 (by decide) (by decide) k) ?_
    show own_Go p.tables e below _ (T2.setTop (mkF m 185 #[.val (.int p0), .val (.long q1), .second, .val (.long q2), .second, .val (.long q3), .second, .val (.long q4), .second, .val (.int (0 : Int32)), .val (.ref b1), .val (.int (1 : Int32)), .val (.int (own_f1_0 )), .unset] []))
    refine own_go (fun _ k => XS.iconst X2.here hx rfl (hb hby at_185) k) ?_
    show own_Go p.tables e below _ (T2.setTop (mkF m 186 #[.val (.int p0), .val (.long q1), .second, .val (.long q2), .second, .val (.long q3), .second, .val (.long q4), .second, .val (.int (0 : Int32)), .val (.ref b1), .val (.int (1 : Int32)), .val (.int (own_f1_0 )), .unset] [(.int (1 : Int32))]))
    refine own_go (fun _ k => XS.goto X2.here hx rfl (pc0 := 186) (pc' := 190) rfl (hb hby at_186) (by decide) (by decide) k) ?_
    show own_Go p.tables e below _ (T2.setTop (mkF m 190 #[.val (.int p0), .val (.long q1), .second, .val (.long q2), .second, .val (.long q3), .second, .val (.long q4), .second, .val (.int (0 : Int32)), .val (.ref b1), .val (.int (1 : Int32)), .val (.int (own_f1_0 )), .unset] [(.int (1 : Int32))]))
    refine own_go (fun _ k => XS.istore X2.here hx rfl (hb hby at_190) rfl (l' := #[.val (.int p0), .val (.long q1), .second, .val (.long q2), .second, .val (.long q3), .second, .val (.long q4), .second, .val (.int (0 : Int32)), .val (.ref b1), .val (.int (1 : Int32)), .val (.int (own_f1_0 )), .val (.int (1 : Int32))]) rfl k) ?_
    show own_Go p.tables e below _ (T2.setTop (mkF m 192 #[.val (.int p0), .val (.long q1), .second, .val (.long q2), .second, .val (.long q3), .second, .val (.long q4), .second, .val (.int (0 : Int32)), .val (.ref b1), .val (.int (1 : Int32)), .val (.int (own_f1_0 )), .val (.int (1 : Int32))] []))
    refine own_go (fun _ k => XS.iload X2.here hx rfl (hb hby at_192) rfl k) ?_
    show own_Go p.tables e below _ (T2.setTop (mkF m 194 #[.val (.int p0), .val (.long q1), .second, .val (.long q2), .second, .val (.long q3), .second, .val (.long q4), .second, .val (.int (0 : Int32)), .val (.ref b1), .val (.int (1 : Int32)), .val (.int (own_f1_0 )), .val (.int (1 : Int32))] [(.int (own_f1_0 ))]))
    refine own_go (fun _ k => XS.iload X2.here hx rfl (hb hby at_194) rfl k) ?_
    show own_Go p.tables e below _ (T2.setTop (mkF m 196 #[.val (.int p0), .val (.long q1), .second, .val (.long q2), .second, .val (.long q3), .second, .val (.long q4), .second, .val (.int (0 : Int32)), .val (.ref b1), .val (.int (1 : Int32)), .val (.int (own_f1_0 )), .val (.int (1 : Int32))] [(.int (1 : Int32)), (.int (own_f1_0 ))]))
    have hf196 : (own_f1_0 ) = (1 : Int32) := rfl
    refine own_go (fun _ k => XS.icmpNo X2.here hx rfl (hb hby at_196) rfl (teq hf196).2 k) ?_
    show own_Go p.tables e below _ (T2.setTop (mkF m 199 #[.val (.int p0), .val (.long q1), .second, .val (.long q2), .second, .val (.long q3), .second, .val (.long q4), .second, .val (.int (0 : Int32)), .val (.ref b1), .val (.int (1 : Int32)), .val (.int (own_f1_0 )), .val (.int (1 : Int32))] []))
    refine own_go (fun _ k => XS.iload X2.here hx rfl (hb hby at_199) rfl k) ?_
    show own_Go p.tables e below _ (T2.setTop (mkF m 201 #[.val (.int p0), .val (.long q1), .second, .val (.long q2), .second, .val (.long q3), .second, .val (.long q4), .second, .val (.int (0 : Int32)), .val (.ref b1), .val (.int (1 : Int32)), .val (.int (own_f1_0 )), .val (.int (1 : Int32))] [(.int (1 : Int32))]))
    have hf201 : ¬ ((1 : Int32) = (0 : Int32)) := by decide
    refine own_go (fun _ k => XS.ifNo X2.here hx rfl (hb hby at_201) rfl ((if0 _ _).trans (feq hf201).1) k) ?_
    show own_Go p.tables e below _ (T2.setTop (mkF m 204 #[.val (.int p0), .val (.long q1), .second, .val (.long q2), .second, .val (.long q3), .second, .val (.long q4), .second, .val (.int (0 : Int32)), .val (.ref b1), .val (.int (1 : Int32)), .val (.int (own_f1_0 )), .val (.int (1 : Int32))] []))
    refine own_go (fun _ k => XS.iconst X2.here hx rfl (hb hby at_204) k) ?_
    show own_Go p.tables e below _ (T2.setTop (mkF m 205 #[.val (.int p0), .val (.long q1), .second, .val (.long q2), .second, .val (.long q3), .second, .val (.long q4), .second, .val (.int (0 : Int32)), .val (.ref b1), .val (.int (1 : Int32)), .val (.int (own_f1_0 )), .val (.int (1 : Int32))] [(.int (1 : Int32))]))
    refine own_go (fun _ k => XS.goto X2.here hx rfl (pc0 := 205) (pc' := 209) rfl (hb hby at_205) (by decide) (by decide) k) ?_
    show own_Go p.tables e below _ (T2.setTop (mkF m 209 #[.val (.int p0), .val (.long q1), .second, .val (.long q2), .second, .val (.long q3), .second, .val (.long q4), .second, .val (.int (0 : Int32)), .val (.ref b1), .val (.int (1 : Int32)), .val (.int (own_f1_0 )), .val (.int (1 : Int32))] [(.int (1 : Int32))]))
    refine own_end X2 Bd.notSynchronized (v := some (.int (1 : Int32))) (fun h => by rw [Bd.returns] at h; cases h) (fun fs hr => retN X2 hx (t := .boolean) Bd.returns (by simp) (hb hby at_209) hr) ?_ (by decide) (by decide)
    exact ⟨rfl, N2⟩
  · subst h5
    show own_Go p.tables e below _ (s₁.setTop (mkF m 8 #[.val (.int p0), .val (.long q1), .second, .val (.long q2), .second, .val (.long q3), .second, .val (.long q4), .second, .val (.int (1 : Int32)), .unset, .unset, .unset, .unset] []))
    refine own_go (fun _ k => XS.iload X0.here hx rfl (hb hby at_8) rfl k) ?_
    show own_Go p.tables e below _ (s₁.setTop (mkF m 10 #[.val (.int p0), .val (.long q1), .second, .val (.long q2), .second, .val (.long q3), .second, .val (.long q4), .second, .val (.int (1 : Int32)), .unset, .unset, .unset, .unset] [(.int (1 : Int32))]))
    obtain ⟨T3, h3, k3, X3, e3, E3, A3, st3⟩ := newP X0 hx hZ (hw _ (List.mem_of_getElem? (i := 1) rfl)) e0 (g := (mkF m 10 #[.val (.int p0), .val (.long q1), .second, .val (.long q2), .second, .val (.long q3), .second, .val (.long q4), .second, .val (.int (1 : Int32)), .unset, .unset, .unset, .unset] [(.int (1 : Int32))])) rfl (hb hby at_10) rfl (by decide) (cap := 1) (by decide) (by decide) (by decide) (by decide)
    obtain ⟨b3, g3⟩ : ∃ z, z = h0.size := ⟨_, rfl⟩
    rw [← g3] at A3 st3
    have g_b3 : n0 ≤ b3 := Nat.le_trans Z0 (Nat.le_of_eq g3.symm)
    have Z3 : n0 ≤ h3.size := Nat.le_trans Z0 E3.1
    have V3 : Arv Z h3 b3 k3 .long (1 : Int32) [(.long (0 : Int64))] (.long (0 : Int64)) := (Arv.new A3 (by decide)).pad (pad_rep [] (.long (0 : Int64)) 1)
    refine own_go st3 ?_
    show own_Go p.tables e below _ (T3.setTop (mkF m 12 #[.val (.int p0), .val (.long q1), .second, .val (.long q2), .second, .val (.long q3), .second, .val (.long q4), .second, .val (.int (1 : Int32)), .unset, .unset, .unset, .unset] [(.ref b3)]))
    refine own_go (fun _ k => XS.astore X3.here hx rfl (hb hby at_12) rfl rfl (l' := #[.val (.int p0), .val (.long q1), .second, .val (.long q2), .second, .val (.long q3), .second, .val (.long q4), .second, .val (.int (1 : Int32)), .val (.ref b3), .unset, .unset, .unset]) rfl k) ?_
    show own_Go p.tables e below _ (T3.setTop (mkF m 14 #[.val (.int p0), .val (.long q1), .second, .val (.long q2), .second, .val (.long q3), .second, .val (.long q4), .second, .val (.int (1 : Int32)), .val (.ref b3), .unset, .unset, .unset] []))
    refine own_go (fun _ k => XS.iload X3.here hx rfl (hb hby at_14) rfl k) ?_
    show own_Go p.tables e below _ (T3.setTop (mkF m 16 #[.val (.int p0), .val (.long q1), .second, .val (.long q2), .second, .val (.long q3), .second, .val (.long q4), .second, .val (.int (1 : Int32)), .val (.ref b3), .unset, .unset, .unset] [(.int (1 : Int32))]))
    have hf16 : (0 : Int32) < (1 : Int32) := by decide
    refine own_go (fun _ k => XS.ifNo X3.here hx rfl (hb hby at_16) rfl ((if0 _ _).trans (tlt hf16).2.2.2) k) ?_
    show own_Go p.tables e below _ (T3.setTop (mkF m 19 #[.val (.int p0), .val (.long q1), .second, .val (.long q2), .second, .val (.long q3), .second, .val (.long q4), .second, .val (.int (1 : Int32)), .val (.ref b3), .unset, .unset, .unset] []))
    refine own_go (fun _ k => XS.aload X3.here hx rfl (hb hby at_19) rfl rfl k) ?_
    show own_Go p.tables e below _ (T3.setTop (mkF m 21 #[.val (.int p0), .val (.long q1), .second, .val (.long q2), .second, .val (.long q3), .second, .val (.long q4), .second, .val (.int (1 : Int32)), .val (.ref b3), .unset, .unset, .unset] [(.ref b3)]))
    refine own_go (fun _ k => XS.iconst X3.here hx rfl (hb hby at_21) k) ?_
    show own_Go p.tables e below _ (T3.setTop (mkF m 22 #[.val (.int p0), .val (.long q1), .second, .val (.long q2), .second, .val (.long q3), .second, .val (.long q4), .second, .val (.int (1 : Int32)), .val (.ref b3), .unset, .unset, .unset] [(.int (0 : Int32)), (.ref b3)]))
    refine own_go (fun _ k => XS.lloadN X3.here hx rfl (hb hby at_22) rfl k) ?_
    show own_Go p.tables e below _ (T3.setTop (mkF m 23 #[.val (.int p0), .val (.long q1), .second, .val (.long q2), .second, .val (.long q3), .second, .val (.long q4), .second, .val (.int (1 : Int32)), .val (.ref b3), .unset, .unset, .unset] [(.long q1), (.int (0 : Int32)), (.ref b3)]))
    have vo4 := V3
    obtain ⟨cl4, Ar4, Aq4, AS4, AN4, AH4, AG4⟩ := vo4
    have hin5 : ¬ ((0 : Int32) < 0 ∨ cl4.slots.size ≤ ((0 : Int32)).toNatClampNeg) := inb_of AS4 ⟨by decide, by decide⟩
    obtain ⟨T5, h5, X5, e5, W5, st5⟩ := stJ X3 hx hZ e3 Ar4 (j := (0 : Int32)) hin5 (g := (mkF m 23 #[.val (.int p0), .val (.long q1), .second, .val (.long q2), .second, .val (.long q3), .second, .val (.long q4), .second, .val (.int (1 : Int32)), .val (.ref b3), .unset, .unset, .unset] [(.long q1), (.int (0 : Int32)), (.ref b3)])) rfl rfl (hb hby at_23)
    have V5 : Arv Z h5 b3 k3 .long (1 : Int32) [(.long q1)] (.long (0 : Int64)) := Arv.set Ar4 Aq4 AS4 AN4 AH4 AG4 rfl W5 0 rfl (Nat.le_of_ble_eq_true rfl)
    have N5 := Fr.snoc X5 N0 g_b3
    have Z5 : n0 ≤ h5.size := Nat.le_trans Z3 (Keep.of_wr W5).1
    refine own_go st5 ?_
    show own_Go p.tables e below _ (T5.setTop (mkF m 24 #[.val (.int p0), .val (.long q1), .second, .val (.long q2), .second, .val (.long q3), .second, .val (.long q4), .second, .val (.int (1 : Int32)), .val (.ref b3), .unset, .unset, .unset] []))
    refine own_go (fun _ k => XS.iload X5.here hx rfl (hb hby at_24) rfl k) ?_
    show own_Go p.tables e below _ (T5.setTop (mkF m 26 #[.val (.int p0), .val (.long q1), .second, .val (.long q2), .second, .val (.long q3), .second, .val (.long q4), .second, .val (.int (1 : Int32)), .val (.ref b3), .unset, .unset, .unset] [(.int (1 : Int32))]))
    refine own_go (fun _ k => XS.iconst X5.here hx rfl (hb hby at_26) k) ?_
    show own_Go p.tables e below _ (T5.setTop (mkF m 27 #[.val (.int p0), .val (.long q1), .second, .val (.long q2), .second, .val (.long q3), .second, .val (.long q4), .second, .val (.int (1 : Int32)), .val (.ref b3), .unset, .unset, .unset] [(.int (1 : Int32)), (.int (1 : Int32))]))
    have hf27 : ¬ ((1 : Int32) < (1 : Int32)) := by decide
    refine own_go (fun _ k => XS.icmpYes X5.here hx rfl (pc0 := 27) (pc' := 35) rfl (hb hby at_27) rfl (flt hf27).2.2.2 (by decide) (by decide) k) ?_
    show own_Go p.tables e below _ (T5.setTop (mkF m 35 #[.val (.int p0), .val (.long q1), .second, .val (.long q2), .second, .val (.long q3), .second, .val (.long q4), .second, .val (.int (1 : Int32)), .val (.ref b3), .unset, .unset, .unset] []))
    refine own_go (fun _ k => XS.iload X5.here hx rfl (hb hby at_35) rfl k) ?_
    show own_Go p.tables e below _ (T5.setTop (mkF m 37 #[.val (.int p0), .val (.long q1), .second, .val (.long q2), .second, .val (.long q3), .second, .val (.long q4), .second, .val (.int (1 : Int32)), .val (.ref b3), .unset, .unset, .unset] [(.int (1 : Int32))]))
    refine own_go (fun _ k => XS.iconst X5.here hx rfl (hb hby at_37) k) ?_
    show own_Go p.tables e below _ (T5.setTop (mkF m 38 #[.val (.int p0), .val (.long q1), .second, .val (.long q2), .second, .val (.long q3), .second, .val (.long q4), .second, .val (.int (1 : Int32)), .val (.ref b3), .unset, .unset, .unset] [(.int (2 : Int32)), (.int (1 : Int32))]))
    have hf38 : ¬ ((2 : Int32) < (1 : Int32)) := by decide
    refine own_go (fun _ k => XS.icmpYes X5.here hx rfl (pc0 := 38) (pc' := 47) rfl (hb hby at_38) rfl (flt hf38).2.2.2 (by decide) (by decide) k) ?_
    show own_Go p.tables e below _ (T5.setTop (mkF m 47 #[.val (.int p0), .val (.long q1), .second, .val (.long q2), .second, .val (.long q3), .second, .val (.long q4), .second, .val (.int (1 : Int32)), .val (.ref b3), .unset, .unset, .unset] []))
    refine own_go (fun _ k => XS.iload X5.here hx rfl (hb hby at_47) rfl k) ?_
    show own_Go p.tables e below _ (T5.setTop (mkF m 49 #[.val (.int p0), .val (.long q1), .second, .val (.long q2), .second, .val (.long q3), .second, .val (.long q4), .second, .val (.int (1 : Int32)), .val (.ref b3), .unset, .unset, .unset] [(.int (1 : Int32))]))
    refine own_go (fun _ k => XS.iconst X5.here hx rfl (hb hby at_49) k) ?_
    show own_Go p.tables e below _ (T5.setTop (mkF m 50 #[.val (.int p0), .val (.long q1), .second, .val (.long q2), .second, .val (.long q3), .second, .val (.long q4), .second, .val (.int (1 : Int32)), .val (.ref b3), .unset, .unset, .unset] [(.int (3 : Int32)), (.int (1 : Int32))]))
    have hf50 : ¬ ((3 : Int32) < (1 : Int32)) := by decide
    refine own_go (fun _ k => XS.icmpYes X5.here hx rfl (pc0 := 50) (pc' := 59) rfl (hb hby at_50) rfl (flt hf50).2.2.2 (by decide) (by decide) k) ?_
    show own_Go p.tables e below _ (T5.setTop (mkF m 59 #[.val (.int p0), .val (.long q1), .second, .val (.long q2), .second, .val (.long q3), .second, .val (.long q4), .second, .val (.int (1 : Int32)), .val (.ref b3), .unset, .unset, .unset] []))
    refine own_go (fun _ k => XS.iload X5.here hx rfl (hb hby at_59) rfl k) ?_
    show own_Go p.tables e below _ (T5.setTop (mkF m 61 #[.val (.int p0), .val (.long q1), .second, .val (.long q2), .second, .val (.long q3), .second, .val (.long q4), .second, .val (.int (1 : Int32)), .val (.ref b3), .unset, .unset, .unset] [(.int (1 : Int32))]))
    refine own_go (fun _ k => XS.iconst X5.here hx rfl (hb hby at_61) k) ?_
    show own_Go p.tables e below _ (T5.setTop (mkF m 62 #[.val (.int p0), .val (.long q1), .second, .val (.long q2), .second, .val (.long q3), .second, .val (.long q4), .second, .val (.int (1 : Int32)), .val (.ref b3), .unset, .unset, .unset] [(.int (1 : Int32)), (.int (1 : Int32))]))
    have hf62 : ¬ ((1 : Int32) < (1 : Int32)) := by decide
    refine own_go (fun _ k => XS.icmpNo X5.here hx rfl (hb hby at_62) rfl (flt hf62).1 k) ?_
    show own_Go p.tables e below _ (T5.setTop (mkF m 65 #[.val (.int p0), .val (.long q1), .second, .val (.long q2), .second, .val (.long q3), .second, .val (.long q4), .second, .val (.int (1 : Int32)), .val (.ref b3), .unset, .unset, .unset] []))
    refine own_go (fun _ k => XS.lloadN X5.here hx rfl (hb hby at_65) rfl k) ?_
    show own_Go p.tables e below _ (T5.setTop (mkF m 66 #[.val (.int p0), .val (.long q1), .second, .val (.long q2), .second, .val (.long q3), .second, .val (.long q4), .second, .val (.int (1 : Int32)), .val (.ref b3), .unset, .unset, .unset] [(.long q1)]))
    refine own_go (fun _ k => XS.lconst X5.here hx rfl (hb hby at_66) k) ?_
    show own_Go p.tables e below _ (T5.setTop (mkF m 67 #[.val (.int p0), .val (.long q1), .second, .val (.long q2), .second, .val (.long q3), .second, .val (.long q4), .second, .val (.int (1 : Int32)), .val (.ref b3), .unset, .unset, .unset] [(.long (0 : Int64)), (.long q1)]))
    refine own_go (fun _ k => XS.lcmp X5.here hx rfl (hb hby at_67) rfl k) ?_
    show own_Go p.tables e below _ (T5.setTop (mkF m 68 #[.val (.int p0), .val (.long q1), .second, .val (.long q2), .second, .val (.long q3), .second, .val (.long q4), .second, .val (.int (1 : Int32)), .val (.ref b3), .unset, .unset, .unset] [(.int (lcmpW q1 (0 : Int64)))]))
    have sg6 : ∀ t, Steps p.tables e below (T5.setTop (mkF m 114 #[.val (.int p0), .val (.long q1), .second, .val (.long q2), .second, .val (.long q3), .second, .val (.long q4), .second, .val (.int (1 : Int32)), .val (.ref b3), .unset, .unset, .unset] [(.int (if q1 = (0 : Int64) then (1 : Int32) else (0 : Int32)))])) t → Steps p.tables e below (T5.setTop (mkF m 68 #[.val (.int p0), .val (.long q1), .second, .val (.long q2), .second, .val (.long q3), .second, .val (.long q4), .second, .val (.int (1 : Int32)), .val (.ref b3), .unset, .unset, .unset] [(.int (lcmpW q1 (0 : Int64)))])) t := by
      intro t k
      by_cases hc68 : q1 = (0 : Int64)
      · try simp only [if_pos hc68] at k
        refine XS.ifNo X5.here hx rfl (hb hby at_68) rfl ((if0 _ _).trans (teq ((lw_eq q1 (0 : Int64)).mpr hc68)).2) ?_
        show Steps p.tables e below (T5.setTop (mkF m 71 #[.val (.int p0), .val (.long q1), .second, .val (.long q2), .second, .val (.long q3), .second, .val (.long q4), .second, .val (.int (1 : Int32)), .val (.ref b3), .unset, .unset, .unset] [])) _
        refine XS.iload X5.here hx rfl (hb hby at_71) rfl ?_
        show Steps p.tables e below (T5.setTop (mkF m 73 #[.val (.int p0), .val (.long q1), .second, .val (.long q2), .second, .val (.long q3), .second, .val (.long q4), .second, .val (.int (1 : Int32)), .val (.ref b3), .unset, .unset, .unset] [(.int (1 : Int32))])) _
        refine XS.iconst X5.here hx rfl (hb hby at_73) ?_
        show Steps p.tables e below (T5.setTop (mkF m 74 #[.val (.int p0), .val (.long q1), .second, .val (.long q2), .second, .val (.long q3), .second, .val (.long q4), .second, .val (.int (1 : Int32)), .val (.ref b3), .unset, .unset, .unset] [(.int (2 : Int32)), (.int (1 : Int32))])) _
        have hf74 : (1 : Int32) < (2 : Int32) := by decide
        refine XS.icmpYes X5.here hx rfl (pc0 := 74) (pc' := 83) rfl (hb hby at_74) rfl (tlt hf74).1 (by decide) (by decide) ?_
        show Steps p.tables e below (T5.setTop (mkF m 83 #[.val (.int p0), .val (.long q1), .second, .val (.long q2), .second, .val (.long q3), .second, .val (.long q4), .second, .val (.int (1 : Int32)), .val (.ref b3), .unset, .unset, .unset] [])) _
        refine XS.iload X5.here hx rfl (hb hby at_83) rfl ?_
        show Steps p.tables e below (T5.setTop (mkF m 85 #[.val (.int p0), .val (.long q1), .second, .val (.long q2), .second, .val (.long q3), .second, .val (.long q4), .second, .val (.int (1 : Int32)), .val (.ref b3), .unset, .unset, .unset] [(.int (1 : Int32))])) _
        refine XS.iconst X5.here hx rfl (hb hby at_85) ?_
        show Steps p.tables e below (T5.setTop (mkF m 86 #[.val (.int p0), .val (.long q1), .second, .val (.long q2), .second, .val (.long q3), .second, .val (.long q4), .second, .val (.int (1 : Int32)), .val (.ref b3), .unset, .unset, .unset] [(.int (3 : Int32)), (.int (1 : Int32))])) _
        have hf86 : (1 : Int32) < (3 : Int32) := by decide
        refine XS.icmpYes X5.here hx rfl (pc0 := 86) (pc' := 96) rfl (hb hby at_86) rfl (tlt hf86).1 (by decide) (by decide) ?_
        show Steps p.tables e below (T5.setTop (mkF m 96 #[.val (.int p0), .val (.long q1), .second, .val (.long q2), .second, .val (.long q3), .second, .val (.long q4), .second, .val (.int (1 : Int32)), .val (.ref b3), .unset, .unset, .unset] [])) _
        refine XS.iload X5.here hx rfl (hb hby at_96) rfl ?_
        show Steps p.tables e below (T5.setTop (mkF m 98 #[.val (.int p0), .val (.long q1), .second, .val (.long q2), .second, .val (.long q3), .second, .val (.long q4), .second, .val (.int (1 : Int32)), .val (.ref b3), .unset, .unset, .unset] [(.int (1 : Int32))])) _
        refine XS.iconst X5.here hx rfl (hb hby at_98) ?_
        show Steps p.tables e below (T5.setTop (mkF m 99 #[.val (.int p0), .val (.long q1), .second, .val (.long q2), .second, .val (.long q3), .second, .val (.long q4), .second, .val (.int (1 : Int32)), .val (.ref b3), .unset, .unset, .unset] [(.int (4 : Int32)), (.int (1 : Int32))])) _
        have hf99 : (1 : Int32) < (4 : Int32) := by decide
        refine XS.icmpYes X5.here hx rfl (pc0 := 99) (pc' := 109) rfl (hb hby at_99) rfl (tlt hf99).1 (by decide) (by decide) ?_
        show Steps p.tables e below (T5.setTop (mkF m 109 #[.val (.int p0), .val (.long q1), .second, .val (.long q2), .second, .val (.long q3), .second, .val (.long q4), .second, .val (.int (1 : Int32)), .val (.ref b3), .unset, .unset, .unset] [])) _
        refine XS.iconst X5.here hx rfl (hb hby at_109) ?_
        show Steps p.tables e below (T5.setTop (mkF m 110 #[.val (.int p0), .val (.long q1), .second, .val (.long q2), .second, .val (.long q3), .second, .val (.long q4), .second, .val (.int (1 : Int32)), .val (.ref b3), .unset, .unset, .unset] [(.int (1 : Int32))])) _
        refine XS.goto X5.here hx rfl (pc0 := 110) (pc' := 114) rfl (hb hby at_110) (by decide) (by decide) ?_
        show Steps p.tables e below (T5.setTop (mkF m 114 #[.val (.int p0), .val (.long q1), .second, .val (.long q2), .second, .val (.long q3), .second, .val (.long q4), .second, .val (.int (1 : Int32)), .val (.ref b3), .unset, .unset, .unset] [(.int (1 : Int32))])) _
        exact k
      · try simp only [if_neg hc68] at k
        refine XS.ifYes X5.here hx rfl (pc0 := 68) (pc' := 113) rfl (hb hby at_68) rfl ((if0 _ _).trans (feq (mt (lw_eq q1 (0 : Int64)).mp hc68)).2) (by decide) (by decide) ?_
        show Steps p.tables e below (T5.setTop (mkF m 113 #[.val (.int p0), .val (.long q1), .second, .val (.long q2), .second, .val (.long q3), .second, .val (.long q4), .second, .val (.int (1 : Int32)), .val (.ref b3), .unset, .unset, .unset] [])) _
        refine XS.iconst X5.here hx rfl (hb hby at_113) ?_
        show Steps p.tables e below (T5.setTop (mkF m 114 #[.val (.int p0), .val (.long q1), .second, .val (.long q2), .second, .val (.long q3), .second, .val (.long q4), .second, .val (.int (1 : Int32)), .val (.ref b3), .unset, .unset, .unset] [(.int (0 : Int32))])) _
        exact k
    refine own_go sg6 ?_
    show own_Go p.tables e below _ (T5.setTop (mkF m 114 #[.val (.int p0), .val (.long q1), .second, .val (.long q2), .second, .val (.long q3), .second, .val (.long q4), .second, .val (.int (1 : Int32)), .val (.ref b3), .unset, .unset, .unset] [(.int (if q1 = (0 : Int64) then (1 : Int32) else (0 : Int32)))]))
    refine own_go (fun _ k => XS.istore X5.here hx rfl (hb hby at_114) rfl (l' := #[.val (.int p0), .val (.long q1), .second, .val (.long q2), .second, .val (.long q3), .second, .val (.long q4), .second, .val (.int (1 : Int32)), .val (.ref b3), .val (.int (if q1 = (0 : Int64) then (1 : Int32) else (0 : Int32))), .unset, .unset]) rfl k) ?_
    show own_Go p.tables e below _ (T5.setTop (mkF m 116 #[.val (.int p0), .val (.long q1), .second, .val (.long q2), .second, .val (.long q3), .second, .val (.long q4), .second, .val (.int (1 : Int32)), .val (.ref b3), .val (.int (if q1 = (0 : Int64) then (1 : Int32) else (0 : Int32))), .unset, .unset] []))
    refine own_go (fun _ k => XS.aload X5.here hx rfl (hb hby at_116) rfl rfl k) ?_
    show own_Go p.tables e below _ (T5.setTop (mkF m 118 #[.val (.int p0), .val (.long q1), .second, .val (.long q2), .second, .val (.long q3), .second, .val (.long q4), .second, .val (.int (1 : Int32)), .val (.ref b3), .val (.int (if q1 = (0 : Int64) then (1 : Int32) else (0 : Int32))), .unset, .unset] [(.ref b3)]))
    obtain ⟨_, _, ⟨T7, L7, k7, n7⟩, -, X7, ⟨Lc7, hQ7, l7, y7, z7⟩, st7⟩ := Jvm.LawKit.callS X5 hx (y := (⟨"com/example/meshwright/meshwright/plan/PathCrossings", "empty", "([J)Z"⟩ : MethodName)) hown (mvT hZ (hw _ (List.mem_of_getElem? (i := 2) rfl))) (mvT hZ (hw _ (List.mem_of_getElem? (i := 3) rfl))) (mvT hZ (hw _ (List.mem_of_getElem? (i := 4) rfl))) (mvT hZ (hw _ (List.mem_of_getElem? (i := 5) rfl))) (by decide) (backOf (W := 0) (rm1_1 l Z az hw [] b3 k3 q1 h5 n0 Z5 V5) hZ (hw _ (List.mem_of_getElem? (i := 5) rfl)) (hw _ (List.mem_of_getElem? (i := 4) rfl)) (by decide) (by decide)) (g := (mkF m 118 #[.val (.int p0), .val (.long q1), .second, .val (.long q2), .second, .val (.long q3), .second, .val (.long q4), .second, .val (.int (1 : Int32)), .val (.ref b3), .val (.int (if q1 = (0 : Int64) then (1 : Int32) else (0 : Int32))), .unset, .unset] [(.ref b3)])) rfl (by rw [hml]; rfl) (argsL := [(.ref b3)]) (rest := []) (lenOf pd0_0 rfl) rfl (by show 2 * 0 + _ ≤ _; exact Nat.le_of_eq rfl) (hb hby at_118) (fun _ _ => ⟨rfl, e5, (by decide : 1 + 0 ≤ _), (by decide : 1 + 0 ≤ _)⟩)
    dsimp only [Pt.U, Pt.locs, Pt.cells, Pt.slots] at X7 l7 y7 z7 st7 hQ7
    subst l7 y7 z7
    refine own_go st7 ?_
    obtain ⟨rfl, N7q, e7⟩ := hQ7
    have N7 := Fr.app N5 N7q
    show own_Go p.tables e below _ (T7.setTop (mkF m 121 #[.val (.int p0), .val (.long q1), .second, .val (.long q2), .second, .val (.long q3), .second, .val (.long q4), .second, .val (.int (1 : Int32)), .val (.ref b3), .val (.int (if q1 = (0 : Int64) then (1 : Int32) else (0 : Int32))), .unset, .unset] [(.int (own_f1_1 q1))]))
    refine own_go (fun _ k => XS.istore X7.here hx rfl (hb hby at_121) rfl (l' := #[.val (.int p0), .val (.long q1), .second, .val (.long q2), .second, .val (.long q3), .second, .val (.long q4), .second, .val (.int (1 : Int32)), .val (.ref b3), .val (.int (if q1 = (0 : Int64) then (1 : Int32) else (0 : Int32))), .val (.int (own_f1_1 q1)), .unset]) rfl k) ?_
    show own_Go p.tables e below _ (T7.setTop (mkF m 123 #[.val (.int p0), .val (.long q1), .second, .val (.long q2), .second, .val (.long q3), .second, .val (.long q4), .second, .val (.int (1 : Int32)), .val (.ref b3), .val (.int (if q1 = (0 : Int64) then (1 : Int32) else (0 : Int32))), .val (.int (own_f1_1 q1)), .unset] []))
    refine own_go (fun _ k => XS.iload X7.here hx rfl (hb hby at_123) rfl k) ?_
    show own_Go p.tables e below _ (T7.setTop (mkF m 125 #[.val (.int p0), .val (.long q1), .second, .val (.long q2), .second, .val (.long q3), .second, .val (.long q4), .second, .val (.int (1 : Int32)), .val (.ref b3), .val (.int (if q1 = (0 : Int64) then (1 : Int32) else (0 : Int32))), .val (.int (own_f1_1 q1)), .unset] [(.int (1 : Int32))]))
    refine own_go (fun _ k => XS.iconst X7.here hx rfl (hb hby at_125) k) ?_
    show own_Go p.tables e below _ (T7.setTop (mkF m 126 #[.val (.int p0), .val (.long q1), .second, .val (.long q2), .second, .val (.long q3), .second, .val (.long q4), .second, .val (.int (1 : Int32)), .val (.ref b3), .val (.int (if q1 = (0 : Int64) then (1 : Int32) else (0 : Int32))), .val (.int (own_f1_1 q1)), .unset] [(.int (1 : Int32)), (.int (1 : Int32))]))
    have hf126 : ¬ ((1 : Int32) < (1 : Int32)) := by decide
    refine own_go (fun _ k => XS.icmpNo X7.here hx rfl (hb hby at_126) rfl (flt hf126).1 k) ?_
    show own_Go p.tables e below _ (T7.setTop (mkF m 129 #[.val (.int p0), .val (.long q1), .second, .val (.long q2), .second, .val (.long q3), .second, .val (.long q4), .second, .val (.int (1 : Int32)), .val (.ref b3), .val (.int (if q1 = (0 : Int64) then (1 : Int32) else (0 : Int32))), .val (.int (own_f1_1 q1)), .unset] []))
    refine own_go (fun _ k => XS.aload X7.here hx rfl (hb hby at_129) rfl rfl k) ?_
    show own_Go p.tables e below _ (T7.setTop (mkF m 131 #[.val (.int p0), .val (.long q1), .second, .val (.long q2), .second, .val (.long q3), .second, .val (.long q4), .second, .val (.int (1 : Int32)), .val (.ref b3), .val (.int (if q1 = (0 : Int64) then (1 : Int32) else (0 : Int32))), .val (.int (own_f1_1 q1)), .unset] [(.ref b3)]))
    refine own_go (fun _ k => XS.iconst X7.here hx rfl (hb hby at_131) k) ?_
    show own_Go p.tables e below _ (T7.setTop (mkF m 132 #[.val (.int p0), .val (.long q1), .second, .val (.long q2), .second, .val (.long q3), .second, .val (.long q4), .second, .val (.int (1 : Int32)), .val (.ref b3), .val (.int (if q1 = (0 : Int64) then (1 : Int32) else (0 : Int32))), .val (.int (own_f1_1 q1)), .unset] [(.int (0 : Int32)), (.ref b3)]))
    have vo8 := V5
    obtain ⟨cl8, Ar8, Aq8, AS8, AN8, AH8, AG8⟩ := vo8
    have hin8 : ¬ ((0 : Int32) < 0 ∨ cl8.slots.size ≤ ((0 : Int32)).toNatClampNeg) := inb_of AS8 ⟨by decide, by decide⟩
    have hat8 : cl8.slots[((0 : Int32)).toNatClampNeg]? = some (.long q1) := Has.at AH8 hin8 rfl
    refine own_go (fun _ k => X7.laload hx (j := (0 : Int32)) (v := (.long q1)) (by rw [(e7 : T7.heap = h5)]; exact Ar8.1) (State.isArrayOf_alike hZ.alike Ar8.2.1) Ar8.2.2 hin8 hat8 (g := (mkF m 132 #[.val (.int p0), .val (.long q1), .second, .val (.long q2), .second, .val (.long q3), .second, .val (.long q4), .second, .val (.int (1 : Int32)), .val (.ref b3), .val (.int (if q1 = (0 : Int64) then (1 : Int32) else (0 : Int32))), .val (.int (own_f1_1 q1)), .unset] [(.int (0 : Int32)), (.ref b3)])) rfl rfl (hb hby at_132) _ k) ?_
    show own_Go p.tables e below _ (T7.setTop (mkF m 133 #[.val (.int p0), .val (.long q1), .second, .val (.long q2), .second, .val (.long q3), .second, .val (.long q4), .second, .val (.int (1 : Int32)), .val (.ref b3), .val (.int (if q1 = (0 : Int64) then (1 : Int32) else (0 : Int32))), .val (.int (own_f1_1 q1)), .unset] [(.long q1)]))
    refine own_go (fun _ k => XS.lloadN X7.here hx rfl (hb hby at_133) rfl k) ?_
    show own_Go p.tables e below _ (T7.setTop (mkF m 134 #[.val (.int p0), .val (.long q1), .second, .val (.long q2), .second, .val (.long q3), .second, .val (.long q4), .second, .val (.int (1 : Int32)), .val (.ref b3), .val (.int (if q1 = (0 : Int64) then (1 : Int32) else (0 : Int32))), .val (.int (own_f1_1 q1)), .unset] [(.long q1), (.long q1)]))
    refine own_go (fun _ k => XS.lcmp X7.here hx rfl (hb hby at_134) rfl k) ?_
    show own_Go p.tables e below _ (T7.setTop (mkF m 135 #[.val (.int p0), .val (.long q1), .second, .val (.long q2), .second, .val (.long q3), .second, .val (.long q4), .second, .val (.int (1 : Int32)), .val (.ref b3), .val (.int (if q1 = (0 : Int64) then (1 : Int32) else (0 : Int32))), .val (.int (own_f1_1 q1)), .unset] [(.int (lcmpW q1 q1))]))
    have hf135 : q1 = q1 := rfl
    refine own_go (fun _ k => XS.ifNo X7.here hx rfl (hb hby at_135) rfl ((if0 _ _).trans (teq ((lw_eq q1 q1).mpr hf135)).2) k) ?_
    show own_Go p.tables e below _ (T7.setTop (mkF m 138 #[.val (.int p0), .val (.long q1), .second, .val (.long q2), .second, .val (.long q3), .second, .val (.long q4), .second, .val (.int (1 : Int32)), .val (.ref b3), .val (.int (if q1 = (0 : Int64) then (1 : Int32) else (0 : Int32))), .val (.int (own_f1_1 q1)), .unset] []))
    refine own_go (fun _ k => XS.iload X7.here hx rfl (hb hby at_138) rfl k) ?_
    show own_Go p.tables e below _ (T7.setTop (mkF m 140 #[.val (.int p0), .val (.long q1), .second, .val (.long q2), .second, .val (.long q3), .second, .val (.long q4), .second, .val (.int (1 : Int32)), .val (.ref b3), .val (.int (if q1 = (0 : Int64) then (1 : Int32) else (0 : Int32))), .val (.int (own_f1_1 q1)), .unset] [(.int (1 : Int32))]))
    refine own_go (fun _ k => XS.iconst X7.here hx rfl (hb hby at_140) k) ?_
    show own_Go p.tables e below _ (T7.setTop (mkF m 141 #[.val (.int p0), .val (.long q1), .second, .val (.long q2), .second, .val (.long q3), .second, .val (.long q4), .second, .val (.int (1 : Int32)), .val (.ref b3), .val (.int (if q1 = (0 : Int64) then (1 : Int32) else (0 : Int32))), .val (.int (own_f1_1 q1)), .unset] [(.int (2 : Int32)), (.int (1 : Int32))]))
    have hf141 : (1 : Int32) < (2 : Int32) := by decide
    refine own_go (fun _ k => XS.icmpYes X7.here hx rfl (pc0 := 141) (pc' := 153) rfl (hb hby at_141) rfl (tlt hf141).1 (by decide) (by decide) k) ?_
    show own_Go p.tables e below _ (T7.setTop (mkF m 153 #[.val (.int p0), .val (.long q1), .second, .val (.long q2), .second, .val (.long q3), .second, .val (.long q4), .second, .val (.int (1 : Int32)), .val (.ref b3), .val (.int (if q1 = (0 : Int64) then (1 : Int32) else (0 : Int32))), .val (.int (own_f1_1 q1)), .unset] []))
    refine own_go (fun _ k => XS.iload X7.here hx rfl (hb hby at_153) rfl k) ?_
    show own_Go p.tables e below _ (T7.setTop (mkF m 155 #[.val (.int p0), .val (.long q1), .second, .val (.long q2), .second, .val (.long q3), .second, .val (.long q4), .second, .val (.int (1 : Int32)), .val (.ref b3), .val (.int (if q1 = (0 : Int64) then (1 : Int32) else (0 : Int32))), .val (.int (own_f1_1 q1)), .unset] [(.int (1 : Int32))]))
    refine own_go (fun _ k => XS.iconst X7.here hx rfl (hb hby at_155) k) ?_
    show own_Go p.tables e below _ (T7.setTop (mkF m 156 #[.val (.int p0), .val (.long q1), .second, .val (.long q2), .second, .val (.long q3), .second, .val (.long q4), .second, .val (.int (1 : Int32)), .val (.ref b3), .val (.int (if q1 = (0 : Int64) then (1 : Int32) else (0 : Int32))), .val (.int (own_f1_1 q1)), .unset] [(.int (3 : Int32)), (.int (1 : Int32))]))
    have hf156 : (1 : Int32) < (3 : Int32) := by decide
    refine own_go (fun _ k => XS.icmpYes X7.here hx rfl (pc0 := 156) (pc' := 169) rfl (hb hby at_156) rfl (tlt hf156).1 (by decide) (by decide) k) ?_
    show own_Go p.tables e below _ (T7.setTop (mkF m 169 #[.val (.int p0), .val (.long q1), .second, .val (.long q2), .second, .val (.long q3), .second, .val (.long q4), .second, .val (.int (1 : Int32)), .val (.ref b3), .val (.int (if q1 = (0 : Int64) then (1 : Int32) else (0 : Int32))), .val (.int (own_f1_1 q1)), .unset] []))
    refine own_go (fun _ k => XS.iload X7.here hx rfl (hb hby at_169) rfl k) ?_
    show own_Go p.tables e below _ (T7.setTop (mkF m 171 #[.val (.int p0), .val (.long q1), .second, .val (.long q2), .second, .val (.long q3), .second, .val (.long q4), .second, .val (.int (1 : Int32)), .val (.ref b3), .val (.int (if q1 = (0 : Int64) then (1 : Int32) else (0 : Int32))), .val (.int (own_f1_1 q1)), .unset] [(.int (1 : Int32))]))
    refine own_go (fun _ k => XS.iconst X7.here hx rfl (hb hby at_171) k) ?_
    show own_Go p.tables e below _ (T7.setTop (mkF m 172 #[.val (.int p0), .val (.long q1), .second, .val (.long q2), .second, .val (.long q3), .second, .val (.long q4), .second, .val (.int (1 : Int32)), .val (.ref b3), .val (.int (if q1 = (0 : Int64) then (1 : Int32) else (0 : Int32))), .val (.int (own_f1_1 q1)), .unset] [(.int (4 : Int32)), (.int (1 : Int32))]))
    have hf172 : (1 : Int32) < (4 : Int32) := by decide
    refine own_go (fun _ k => XS.icmpYes X7.here hx rfl (pc0 := 172) (pc' := 185) rfl (hb hby at_172) rfl (tlt hf172).1 (by decide) (by decide) k) ?_
    show own_Go p.tables e below _ (T7.setTop (mkF m 185 #[.val (.int p0), .val (.long q1), .second, .val (.long q2), .second, .val (.long q3), .second, .val (.long q4), .second, .val (.int (1 : Int32)), .val (.ref b3), .val (.int (if q1 = (0 : Int64) then (1 : Int32) else (0 : Int32))), .val (.int (own_f1_1 q1)), .unset] []))
    refine own_go (fun _ k => XS.iconst X7.here hx rfl (hb hby at_185) k) ?_
    show own_Go p.tables e below _ (T7.setTop (mkF m 186 #[.val (.int p0), .val (.long q1), .second, .val (.long q2), .second, .val (.long q3), .second, .val (.long q4), .second, .val (.int (1 : Int32)), .val (.ref b3), .val (.int (if q1 = (0 : Int64) then (1 : Int32) else (0 : Int32))), .val (.int (own_f1_1 q1)), .unset] [(.int (1 : Int32))]))
    refine own_go (fun _ k => XS.goto X7.here hx rfl (pc0 := 186) (pc' := 190) rfl (hb hby at_186) (by decide) (by decide) k) ?_
    show own_Go p.tables e below _ (T7.setTop (mkF m 190 #[.val (.int p0), .val (.long q1), .second, .val (.long q2), .second, .val (.long q3), .second, .val (.long q4), .second, .val (.int (1 : Int32)), .val (.ref b3), .val (.int (if q1 = (0 : Int64) then (1 : Int32) else (0 : Int32))), .val (.int (own_f1_1 q1)), .unset] [(.int (1 : Int32))]))
    refine own_go (fun _ k => XS.istore X7.here hx rfl (hb hby at_190) rfl (l' := #[.val (.int p0), .val (.long q1), .second, .val (.long q2), .second, .val (.long q3), .second, .val (.long q4), .second, .val (.int (1 : Int32)), .val (.ref b3), .val (.int (if q1 = (0 : Int64) then (1 : Int32) else (0 : Int32))), .val (.int (own_f1_1 q1)), .val (.int (1 : Int32))]) rfl k) ?_
    show own_Go p.tables e below _ (T7.setTop (mkF m 192 #[.val (.int p0), .val (.long q1), .second, .val (.long q2), .second, .val (.long q3), .second, .val (.long q4), .second, .val (.int (1 : Int32)), .val (.ref b3), .val (.int (if q1 = (0 : Int64) then (1 : Int32) else (0 : Int32))), .val (.int (own_f1_1 q1)), .val (.int (1 : Int32))] []))
    refine own_go (fun _ k => XS.iload X7.here hx rfl (hb hby at_192) rfl k) ?_
    show own_Go p.tables e below _ (T7.setTop (mkF m 194 #[.val (.int p0), .val (.long q1), .second, .val (.long q2), .second, .val (.long q3), .second, .val (.long q4), .second, .val (.int (1 : Int32)), .val (.ref b3), .val (.int (if q1 = (0 : Int64) then (1 : Int32) else (0 : Int32))), .val (.int (own_f1_1 q1)), .val (.int (1 : Int32))] [(.int (own_f1_1 q1))]))
    refine own_go (fun _ k => XS.iload X7.here hx rfl (hb hby at_194) rfl k) ?_
    show own_Go p.tables e below _ (T7.setTop (mkF m 196 #[.val (.int p0), .val (.long q1), .second, .val (.long q2), .second, .val (.long q3), .second, .val (.long q4), .second, .val (.int (1 : Int32)), .val (.ref b3), .val (.int (if q1 = (0 : Int64) then (1 : Int32) else (0 : Int32))), .val (.int (own_f1_1 q1)), .val (.int (1 : Int32))] [(.int (if q1 = (0 : Int64) then (1 : Int32) else (0 : Int32))), (.int (own_f1_1 q1))]))
    have hf196 : (own_f1_1 q1) = (if q1 = (0 : Int64) then (1 : Int32) else (0 : Int32)) := own_e1 _
    refine own_go (fun _ k => XS.icmpNo X7.here hx rfl (hb hby at_196) rfl (teq hf196).2 k) ?_
    show own_Go p.tables e below _ (T7.setTop (mkF m 199 #[.val (.int p0), .val (.long q1), .second, .val (.long q2), .second, .val (.long q3), .second, .val (.long q4), .second, .val (.int (1 : Int32)), .val (.ref b3), .val (.int (if q1 = (0 : Int64) then (1 : Int32) else (0 : Int32))), .val (.int (own_f1_1 q1)), .val (.int (1 : Int32))] []))
    refine own_go (fun _ k => XS.iload X7.here hx rfl (hb hby at_199) rfl k) ?_
    show own_Go p.tables e below _ (T7.setTop (mkF m 201 #[.val (.int p0), .val (.long q1), .second, .val (.long q2), .second, .val (.long q3), .second, .val (.long q4), .second, .val (.int (1 : Int32)), .val (.ref b3), .val (.int (if q1 = (0 : Int64) then (1 : Int32) else (0 : Int32))), .val (.int (own_f1_1 q1)), .val (.int (1 : Int32))] [(.int (1 : Int32))]))
    have hf201 : ¬ ((1 : Int32) = (0 : Int32)) := by decide
    refine own_go (fun _ k => XS.ifNo X7.here hx rfl (hb hby at_201) rfl ((if0 _ _).trans (feq hf201).1) k) ?_
    show own_Go p.tables e below _ (T7.setTop (mkF m 204 #[.val (.int p0), .val (.long q1), .second, .val (.long q2), .second, .val (.long q3), .second, .val (.long q4), .second, .val (.int (1 : Int32)), .val (.ref b3), .val (.int (if q1 = (0 : Int64) then (1 : Int32) else (0 : Int32))), .val (.int (own_f1_1 q1)), .val (.int (1 : Int32))] []))
    refine own_go (fun _ k => XS.iconst X7.here hx rfl (hb hby at_204) k) ?_
    show own_Go p.tables e below _ (T7.setTop (mkF m 205 #[.val (.int p0), .val (.long q1), .second, .val (.long q2), .second, .val (.long q3), .second, .val (.long q4), .second, .val (.int (1 : Int32)), .val (.ref b3), .val (.int (if q1 = (0 : Int64) then (1 : Int32) else (0 : Int32))), .val (.int (own_f1_1 q1)), .val (.int (1 : Int32))] [(.int (1 : Int32))]))
    refine own_go (fun _ k => XS.goto X7.here hx rfl (pc0 := 205) (pc' := 209) rfl (hb hby at_205) (by decide) (by decide) k) ?_
    show own_Go p.tables e below _ (T7.setTop (mkF m 209 #[.val (.int p0), .val (.long q1), .second, .val (.long q2), .second, .val (.long q3), .second, .val (.long q4), .second, .val (.int (1 : Int32)), .val (.ref b3), .val (.int (if q1 = (0 : Int64) then (1 : Int32) else (0 : Int32))), .val (.int (own_f1_1 q1)), .val (.int (1 : Int32))] [(.int (1 : Int32))]))
    refine own_end X7 Bd.notSynchronized (v := some (.int (1 : Int32))) (fun h => by rw [Bd.returns] at h; cases h) (fun fs hr => retN X7 hx (t := .boolean) Bd.returns (by simp) (hb hby at_209) hr) ?_ (by decide) (by decide)
    exact ⟨rfl, N7⟩
  · subst h5
    show own_Go p.tables e below _ (s₁.setTop (mkF m 8 #[.val (.int p0), .val (.long q1), .second, .val (.long q2), .second, .val (.long q3), .second, .val (.long q4), .second, .val (.int (2 : Int32)), .unset, .unset, .unset, .unset] []))
    refine own_go (fun _ k => XS.iload X0.here hx rfl (hb hby at_8) rfl k) ?_
    show own_Go p.tables e below _ (s₁.setTop (mkF m 10 #[.val (.int p0), .val (.long q1), .second, .val (.long q2), .second, .val (.long q3), .second, .val (.long q4), .second, .val (.int (2 : Int32)), .unset, .unset, .unset, .unset] [(.int (2 : Int32))]))
    obtain ⟨T9, h9, k9, X9, e9, E9, A9, st9⟩ := newP X0 hx hZ (hw _ (List.mem_of_getElem? (i := 1) rfl)) e0 (g := (mkF m 10 #[.val (.int p0), .val (.long q1), .second, .val (.long q2), .second, .val (.long q3), .second, .val (.long q4), .second, .val (.int (2 : Int32)), .unset, .unset, .unset, .unset] [(.int (2 : Int32))])) rfl (hb hby at_10) rfl (by decide) (cap := 2) (by decide) (by decide) (by decide) (by decide)
    obtain ⟨b9, g9⟩ : ∃ z, z = h0.size := ⟨_, rfl⟩
    rw [← g9] at A9 st9
    have g_b9 : n0 ≤ b9 := Nat.le_trans Z0 (Nat.le_of_eq g9.symm)
    have Z9 : n0 ≤ h9.size := Nat.le_trans Z0 E9.1
    have V9 : Arv Z h9 b9 k9 .long (2 : Int32) [(.long (0 : Int64)), (.long (0 : Int64))] (.long (0 : Int64)) := (Arv.new A9 (by decide)).pad (pad_rep [] (.long (0 : Int64)) 2)
    refine own_go st9 ?_
    show own_Go p.tables e below _ (T9.setTop (mkF m 12 #[.val (.int p0), .val (.long q1), .second, .val (.long q2), .second, .val (.long q3), .second, .val (.long q4), .second, .val (.int (2 : Int32)), .unset, .unset, .unset, .unset] [(.ref b9)]))
    refine own_go (fun _ k => XS.astore X9.here hx rfl (hb hby at_12) rfl rfl (l' := #[.val (.int p0), .val (.long q1), .second, .val (.long q2), .second, .val (.long q3), .second, .val (.long q4), .second, .val (.int (2 : Int32)), .val (.ref b9), .unset, .unset, .unset]) rfl k) ?_
    show own_Go p.tables e below _ (T9.setTop (mkF m 14 #[.val (.int p0), .val (.long q1), .second, .val (.long q2), .second, .val (.long q3), .second, .val (.long q4), .second, .val (.int (2 : Int32)), .val (.ref b9), .unset, .unset, .unset] []))
    refine own_go (fun _ k => XS.iload X9.here hx rfl (hb hby at_14) rfl k) ?_
    show own_Go p.tables e below _ (T9.setTop (mkF m 16 #[.val (.int p0), .val (.long q1), .second, .val (.long q2), .second, .val (.long q3), .second, .val (.long q4), .second, .val (.int (2 : Int32)), .val (.ref b9), .unset, .unset, .unset] [(.int (2 : Int32))]))
    have hf16 : (0 : Int32) < (2 : Int32) := by decide
    refine own_go (fun _ k => XS.ifNo X9.here hx rfl (hb hby at_16) rfl ((if0 _ _).trans (tlt hf16).2.2.2) k) ?_
    show own_Go p.tables e below _ (T9.setTop (mkF m 19 #[.val (.int p0), .val (.long q1), .second, .val (.long q2), .second, .val (.long q3), .second, .val (.long q4), .second, .val (.int (2 : Int32)), .val (.ref b9), .unset, .unset, .unset] []))
    refine own_go (fun _ k => XS.aload X9.here hx rfl (hb hby at_19) rfl rfl k) ?_
    show own_Go p.tables e below _ (T9.setTop (mkF m 21 #[.val (.int p0), .val (.long q1), .second, .val (.long q2), .second, .val (.long q3), .second, .val (.long q4), .second, .val (.int (2 : Int32)), .val (.ref b9), .unset, .unset, .unset] [(.ref b9)]))
    refine own_go (fun _ k => XS.iconst X9.here hx rfl (hb hby at_21) k) ?_
    show own_Go p.tables e below _ (T9.setTop (mkF m 22 #[.val (.int p0), .val (.long q1), .second, .val (.long q2), .second, .val (.long q3), .second, .val (.long q4), .second, .val (.int (2 : Int32)), .val (.ref b9), .unset, .unset, .unset] [(.int (0 : Int32)), (.ref b9)]))
    refine own_go (fun _ k => XS.lloadN X9.here hx rfl (hb hby at_22) rfl k) ?_
    show own_Go p.tables e below _ (T9.setTop (mkF m 23 #[.val (.int p0), .val (.long q1), .second, .val (.long q2), .second, .val (.long q3), .second, .val (.long q4), .second, .val (.int (2 : Int32)), .val (.ref b9), .unset, .unset, .unset] [(.long q1), (.int (0 : Int32)), (.ref b9)]))
    have vo10 := V9
    obtain ⟨cl10, Ar10, Aq10, AS10, AN10, AH10, AG10⟩ := vo10
    have hin11 : ¬ ((0 : Int32) < 0 ∨ cl10.slots.size ≤ ((0 : Int32)).toNatClampNeg) := inb_of AS10 ⟨by decide, by decide⟩
    obtain ⟨T11, h11, X11, e11, W11, st11⟩ := stJ X9 hx hZ e9 Ar10 (j := (0 : Int32)) hin11 (g := (mkF m 23 #[.val (.int p0), .val (.long q1), .second, .val (.long q2), .second, .val (.long q3), .second, .val (.long q4), .second, .val (.int (2 : Int32)), .val (.ref b9), .unset, .unset, .unset] [(.long q1), (.int (0 : Int32)), (.ref b9)])) rfl rfl (hb hby at_23)
    have V11 : Arv Z h11 b9 k9 .long (2 : Int32) [(.long q1), (.long (0 : Int64))] (.long (0 : Int64)) := Arv.set Ar10 Aq10 AS10 AN10 AH10 AG10 rfl W11 0 rfl (Nat.le_of_ble_eq_true rfl)
    have N11 := Fr.snoc X11 N0 g_b9
    have Z11 : n0 ≤ h11.size := Nat.le_trans Z9 (Keep.of_wr W11).1
    refine own_go st11 ?_
    show own_Go p.tables e below _ (T11.setTop (mkF m 24 #[.val (.int p0), .val (.long q1), .second, .val (.long q2), .second, .val (.long q3), .second, .val (.long q4), .second, .val (.int (2 : Int32)), .val (.ref b9), .unset, .unset, .unset] []))
    refine own_go (fun _ k => XS.iload X11.here hx rfl (hb hby at_24) rfl k) ?_
    show own_Go p.tables e below _ (T11.setTop (mkF m 26 #[.val (.int p0), .val (.long q1), .second, .val (.long q2), .second, .val (.long q3), .second, .val (.long q4), .second, .val (.int (2 : Int32)), .val (.ref b9), .unset, .unset, .unset] [(.int (2 : Int32))]))
    refine own_go (fun _ k => XS.iconst X11.here hx rfl (hb hby at_26) k) ?_
    show own_Go p.tables e below _ (T11.setTop (mkF m 27 #[.val (.int p0), .val (.long q1), .second, .val (.long q2), .second, .val (.long q3), .second, .val (.long q4), .second, .val (.int (2 : Int32)), .val (.ref b9), .unset, .unset, .unset] [(.int (1 : Int32)), (.int (2 : Int32))]))
    have hf27 : (1 : Int32) < (2 : Int32) := by decide
    refine own_go (fun _ k => XS.icmpNo X11.here hx rfl (hb hby at_27) rfl (tlt hf27).2.2.2 k) ?_
    show own_Go p.tables e below _ (T11.setTop (mkF m 30 #[.val (.int p0), .val (.long q1), .second, .val (.long q2), .second, .val (.long q3), .second, .val (.long q4), .second, .val (.int (2 : Int32)), .val (.ref b9), .unset, .unset, .unset] []))
    refine own_go (fun _ k => XS.aload X11.here hx rfl (hb hby at_30) rfl rfl k) ?_
    show own_Go p.tables e below _ (T11.setTop (mkF m 32 #[.val (.int p0), .val (.long q1), .second, .val (.long q2), .second, .val (.long q3), .second, .val (.long q4), .second, .val (.int (2 : Int32)), .val (.ref b9), .unset, .unset, .unset] [(.ref b9)]))
    refine own_go (fun _ k => XS.iconst X11.here hx rfl (hb hby at_32) k) ?_
    show own_Go p.tables e below _ (T11.setTop (mkF m 33 #[.val (.int p0), .val (.long q1), .second, .val (.long q2), .second, .val (.long q3), .second, .val (.long q4), .second, .val (.int (2 : Int32)), .val (.ref b9), .unset, .unset, .unset] [(.int (1 : Int32)), (.ref b9)]))
    refine own_go (fun _ k => XS.lloadN X11.here hx rfl (hb hby at_33) rfl k) ?_
    show own_Go p.tables e below _ (T11.setTop (mkF m 34 #[.val (.int p0), .val (.long q1), .second, .val (.long q2), .second, .val (.long q3), .second, .val (.long q4), .second, .val (.int (2 : Int32)), .val (.ref b9), .unset, .unset, .unset] [(.long q2), (.int (1 : Int32)), (.ref b9)]))
    have vo12 := V11
    obtain ⟨cl12, Ar12, Aq12, AS12, AN12, AH12, AG12⟩ := vo12
    have hin13 : ¬ ((1 : Int32) < 0 ∨ cl12.slots.size ≤ ((1 : Int32)).toNatClampNeg) := inb_of AS12 ⟨by decide, by decide⟩
    obtain ⟨T13, h13, X13, e13, W13, st13⟩ := stJ X11 hx hZ e11 Ar12 (j := (1 : Int32)) hin13 (g := (mkF m 34 #[.val (.int p0), .val (.long q1), .second, .val (.long q2), .second, .val (.long q3), .second, .val (.long q4), .second, .val (.int (2 : Int32)), .val (.ref b9), .unset, .unset, .unset] [(.long q2), (.int (1 : Int32)), (.ref b9)])) rfl rfl (hb hby at_34)
    have V13 : Arv Z h13 b9 k9 .long (2 : Int32) [(.long q1), (.long q2)] (.long (0 : Int64)) := Arv.set Ar12 Aq12 AS12 AN12 AH12 AG12 rfl W13 1 rfl (Nat.le_of_ble_eq_true rfl)
    have N13 := Fr.snoc X13 N11 g_b9
    have Z13 : n0 ≤ h13.size := Nat.le_trans Z11 (Keep.of_wr W13).1
    refine own_go st13 ?_
    show own_Go p.tables e below _ (T13.setTop (mkF m 35 #[.val (.int p0), .val (.long q1), .second, .val (.long q2), .second, .val (.long q3), .second, .val (.long q4), .second, .val (.int (2 : Int32)), .val (.ref b9), .unset, .unset, .unset] []))
    refine own_go (fun _ k => XS.iload X13.here hx rfl (hb hby at_35) rfl k) ?_
    show own_Go p.tables e below _ (T13.setTop (mkF m 37 #[.val (.int p0), .val (.long q1), .second, .val (.long q2), .second, .val (.long q3), .second, .val (.long q4), .second, .val (.int (2 : Int32)), .val (.ref b9), .unset, .unset, .unset] [(.int (2 : Int32))]))
    refine own_go (fun _ k => XS.iconst X13.here hx rfl (hb hby at_37) k) ?_
    show own_Go p.tables e below _ (T13.setTop (mkF m 38 #[.val (.int p0), .val (.long q1), .second, .val (.long q2), .second, .val (.long q3), .second, .val (.long q4), .second, .val (.int (2 : Int32)), .val (.ref b9), .unset, .unset, .unset] [(.int (2 : Int32)), (.int (2 : Int32))]))
    have hf38 : ¬ ((2 : Int32) < (2 : Int32)) := by decide
    refine own_go (fun _ k => XS.icmpYes X13.here hx rfl (pc0 := 38) (pc' := 47) rfl (hb hby at_38) rfl (flt hf38).2.2.2 (by decide) (by decide) k) ?_
    show own_Go p.tables e below _ (T13.setTop (mkF m 47 #[.val (.int p0), .val (.long q1), .second, .val (.long q2), .second, .val (.long q3), .second, .val (.long q4), .second, .val (.int (2 : Int32)), .val (.ref b9), .unset, .unset, .unset] []))
    refine own_go (fun _ k => XS.iload X13.here hx rfl (hb hby at_47) rfl k) ?_
    show own_Go p.tables e below _ (T13.setTop (mkF m 49 #[.val (.int p0), .val (.long q1), .second, .val (.long q2), .second, .val (.long q3), .second, .val (.long q4), .second, .val (.int (2 : Int32)), .val (.ref b9), .unset, .unset, .unset] [(.int (2 : Int32))]))
    refine own_go (fun _ k => XS.iconst X13.here hx rfl (hb hby at_49) k) ?_
    show own_Go p.tables e below _ (T13.setTop (mkF m 50 #[.val (.int p0), .val (.long q1), .second, .val (.long q2), .second, .val (.long q3), .second, .val (.long q4), .second, .val (.int (2 : Int32)), .val (.ref b9), .unset, .unset, .unset] [(.int (3 : Int32)), (.int (2 : Int32))]))
    have hf50 : ¬ ((3 : Int32) < (2 : Int32)) := by decide
    refine own_go (fun _ k => XS.icmpYes X13.here hx rfl (pc0 := 50) (pc' := 59) rfl (hb hby at_50) rfl (flt hf50).2.2.2 (by decide) (by decide) k) ?_
    show own_Go p.tables e below _ (T13.setTop (mkF m 59 #[.val (.int p0), .val (.long q1), .second, .val (.long q2), .second, .val (.long q3), .second, .val (.long q4), .second, .val (.int (2 : Int32)), .val (.ref b9), .unset, .unset, .unset] []))
    refine own_go (fun _ k => XS.iload X13.here hx rfl (hb hby at_59) rfl k) ?_
    show own_Go p.tables e below _ (T13.setTop (mkF m 61 #[.val (.int p0), .val (.long q1), .second, .val (.long q2), .second, .val (.long q3), .second, .val (.long q4), .second, .val (.int (2 : Int32)), .val (.ref b9), .unset, .unset, .unset] [(.int (2 : Int32))]))
    refine own_go (fun _ k => XS.iconst X13.here hx rfl (hb hby at_61) k) ?_
    show own_Go p.tables e below _ (T13.setTop (mkF m 62 #[.val (.int p0), .val (.long q1), .second, .val (.long q2), .second, .val (.long q3), .second, .val (.long q4), .second, .val (.int (2 : Int32)), .val (.ref b9), .unset, .unset, .unset] [(.int (1 : Int32)), (.int (2 : Int32))]))
    have hf62 : ¬ ((2 : Int32) < (1 : Int32)) := by decide
    refine own_go (fun _ k => XS.icmpNo X13.here hx rfl (hb hby at_62) rfl (flt hf62).1 k) ?_
    show own_Go p.tables e below _ (T13.setTop (mkF m 65 #[.val (.int p0), .val (.long q1), .second, .val (.long q2), .second, .val (.long q3), .second, .val (.long q4), .second, .val (.int (2 : Int32)), .val (.ref b9), .unset, .unset, .unset] []))
    refine own_go (fun _ k => XS.lloadN X13.here hx rfl (hb hby at_65) rfl k) ?_
    show own_Go p.tables e below _ (T13.setTop (mkF m 66 #[.val (.int p0), .val (.long q1), .second, .val (.long q2), .second, .val (.long q3), .second, .val (.long q4), .second, .val (.int (2 : Int32)), .val (.ref b9), .unset, .unset, .unset] [(.long q1)]))
    refine own_go (fun _ k => XS.lconst X13.here hx rfl (hb hby at_66) k) ?_
    show own_Go p.tables e below _ (T13.setTop (mkF m 67 #[.val (.int p0), .val (.long q1), .second, .val (.long q2), .second, .val (.long q3), .second, .val (.long q4), .second, .val (.int (2 : Int32)), .val (.ref b9), .unset, .unset, .unset] [(.long (0 : Int64)), (.long q1)]))
    refine own_go (fun _ k => XS.lcmp X13.here hx rfl (hb hby at_67) rfl k) ?_
    show own_Go p.tables e below _ (T13.setTop (mkF m 68 #[.val (.int p0), .val (.long q1), .second, .val (.long q2), .second, .val (.long q3), .second, .val (.long q4), .second, .val (.int (2 : Int32)), .val (.ref b9), .unset, .unset, .unset] [(.int (lcmpW q1 (0 : Int64)))]))
    have sg14 : ∀ t, Steps p.tables e below (T13.setTop (mkF m 114 #[.val (.int p0), .val (.long q1), .second, .val (.long q2), .second, .val (.long q3), .second, .val (.long q4), .second, .val (.int (2 : Int32)), .val (.ref b9), .unset, .unset, .unset] [(.int (if q1 = (0 : Int64) then (if q2 = (0 : Int64) then (1 : Int32) else (0 : Int32)) else (0 : Int32)))])) t → Steps p.tables e below (T13.setTop (mkF m 68 #[.val (.int p0), .val (.long q1), .second, .val (.long q2), .second, .val (.long q3), .second, .val (.long q4), .second, .val (.int (2 : Int32)), .val (.ref b9), .unset, .unset, .unset] [(.int (lcmpW q1 (0 : Int64)))])) t := by
      intro t k
      by_cases hc68 : q1 = (0 : Int64)
      · try simp only [if_pos hc68] at k
        refine XS.ifNo X13.here hx rfl (hb hby at_68) rfl ((if0 _ _).trans (teq ((lw_eq q1 (0 : Int64)).mpr hc68)).2) ?_
        show Steps p.tables e below (T13.setTop (mkF m 71 #[.val (.int p0), .val (.long q1), .second, .val (.long q2), .second, .val (.long q3), .second, .val (.long q4), .second, .val (.int (2 : Int32)), .val (.ref b9), .unset, .unset, .unset] [])) _
        refine XS.iload X13.here hx rfl (hb hby at_71) rfl ?_
        show Steps p.tables e below (T13.setTop (mkF m 73 #[.val (.int p0), .val (.long q1), .second, .val (.long q2), .second, .val (.long q3), .second, .val (.long q4), .second, .val (.int (2 : Int32)), .val (.ref b9), .unset, .unset, .unset] [(.int (2 : Int32))])) _
        refine XS.iconst X13.here hx rfl (hb hby at_73) ?_
        show Steps p.tables e below (T13.setTop (mkF m 74 #[.val (.int p0), .val (.long q1), .second, .val (.long q2), .second, .val (.long q3), .second, .val (.long q4), .second, .val (.int (2 : Int32)), .val (.ref b9), .unset, .unset, .unset] [(.int (2 : Int32)), (.int (2 : Int32))])) _
        have hf74 : ¬ ((2 : Int32) < (2 : Int32)) := by decide
        refine XS.icmpNo X13.here hx rfl (hb hby at_74) rfl (flt hf74).1 ?_
        show Steps p.tables e below (T13.setTop (mkF m 77 #[.val (.int p0), .val (.long q1), .second, .val (.long q2), .second, .val (.long q3), .second, .val (.long q4), .second, .val (.int (2 : Int32)), .val (.ref b9), .unset, .unset, .unset] [])) _
        refine XS.lloadN X13.here hx rfl (hb hby at_77) rfl ?_
        show Steps p.tables e below (T13.setTop (mkF m 78 #[.val (.int p0), .val (.long q1), .second, .val (.long q2), .second, .val (.long q3), .second, .val (.long q4), .second, .val (.int (2 : Int32)), .val (.ref b9), .unset, .unset, .unset] [(.long q2)])) _
        refine XS.lconst X13.here hx rfl (hb hby at_78) ?_
        show Steps p.tables e below (T13.setTop (mkF m 79 #[.val (.int p0), .val (.long q1), .second, .val (.long q2), .second, .val (.long q3), .second, .val (.long q4), .second, .val (.int (2 : Int32)), .val (.ref b9), .unset, .unset, .unset] [(.long (0 : Int64)), (.long q2)])) _
        refine XS.lcmp X13.here hx rfl (hb hby at_79) rfl ?_
        show Steps p.tables e below (T13.setTop (mkF m 80 #[.val (.int p0), .val (.long q1), .second, .val (.long q2), .second, .val (.long q3), .second, .val (.long q4), .second, .val (.int (2 : Int32)), .val (.ref b9), .unset, .unset, .unset] [(.int (lcmpW q2 (0 : Int64)))])) _
        by_cases hc80 : q2 = (0 : Int64)
        · try simp only [if_pos hc80] at k
          refine XS.ifNo X13.here hx rfl (hb hby at_80) rfl ((if0 _ _).trans (teq ((lw_eq q2 (0 : Int64)).mpr hc80)).2) ?_
          show Steps p.tables e below (T13.setTop (mkF m 83 #[.val (.int p0), .val (.long q1), .second, .val (.long q2), .second, .val (.long q3), .second, .val (.long q4), .second, .val (.int (2 : Int32)), .val (.ref b9), .unset, .unset, .unset] [])) _
          refine XS.iload X13.here hx rfl (hb hby at_83) rfl ?_
          show Steps p.tables e below (T13.setTop (mkF m 85 #[.val (.int p0), .val (.long q1), .second, .val (.long q2), .second, .val (.long q3), .second, .val (.long q4), .second, .val (.int (2 : Int32)), .val (.ref b9), .unset, .unset, .unset] [(.int (2 : Int32))])) _
          refine XS.iconst X13.here hx rfl (hb hby at_85) ?_
          show Steps p.tables e below (T13.setTop (mkF m 86 #[.val (.int p0), .val (.long q1), .second, .val (.long q2), .second, .val (.long q3), .second, .val (.long q4), .second, .val (.int (2 : Int32)), .val (.ref b9), .unset, .unset, .unset] [(.int (3 : Int32)), (.int (2 : Int32))])) _
          have hf86 : (2 : Int32) < (3 : Int32) := by decide
          refine XS.icmpYes X13.here hx rfl (pc0 := 86) (pc' := 96) rfl (hb hby at_86) rfl (tlt hf86).1 (by decide) (by decide) ?_
          show Steps p.tables e below (T13.setTop (mkF m 96 #[.val (.int p0), .val (.long q1), .second, .val (.long q2), .second, .val (.long q3), .second, .val (.long q4), .second, .val (.int (2 : Int32)), .val (.ref b9), .unset, .unset, .unset] [])) _
          refine XS.iload X13.here hx rfl (hb hby at_96) rfl ?_
          show Steps p.tables e below (T13.setTop (mkF m 98 #[.val (.int p0), .val (.long q1), .second, .val (.long q2), .second, .val (.long q3), .second, .val (.long q4), .second, .val (.int (2 : Int32)), .val (.ref b9), .unset, .unset, .unset] [(.int (2 : Int32))])) _
          refine XS.iconst X13.here hx rfl (hb hby at_98) ?_
          show Steps p.tables e below (T13.setTop (mkF m 99 #[.val (.int p0), .val (.long q1), .second, .val (.long q2), .second, .val (.long q3), .second, .val (.long q4), .second, .val (.int (2 : Int32)), .val (.ref b9), .unset, .unset, .unset] [(.int (4 : Int32)), (.int (2 : Int32))])) _
          have hf99 : (2 : Int32) < (4 : Int32) := by decide
          refine XS.icmpYes X13.here hx rfl (pc0 := 99) (pc' := 109) rfl (hb hby at_99) rfl (tlt hf99).1 (by decide) (by decide) ?_
          show Steps p.tables e below (T13.setTop (mkF m 109 #[.val (.int p0), .val (.long q1), .second, .val (.long q2), .second, .val (.long q3), .second, .val (.long q4), .second, .val (.int (2 : Int32)), .val (.ref b9), .unset, .unset, .unset] [])) _
          refine XS.iconst X13.here hx rfl (hb hby at_109) ?_
          show Steps p.tables e below (T13.setTop (mkF m 110 #[.val (.int p0), .val (.long q1), .second, .val (.long q2), .second, .val (.long q3), .second, .val (.long q4), .second, .val (.int (2 : Int32)), .val (.ref b9), .unset, .unset, .unset] [(.int (1 : Int32))])) _
          refine XS.goto X13.here hx rfl (pc0 := 110) (pc' := 114) rfl (hb hby at_110) (by decide) (by decide) ?_
          show Steps p.tables e below (T13.setTop (mkF m 114 #[.val (.int p0), .val (.long q1), .second, .val (.long q2), .second, .val (.long q3), .second, .val (.long q4), .second, .val (.int (2 : Int32)), .val (.ref b9), .unset, .unset, .unset] [(.int (1 : Int32))])) _
          exact k
        · try simp only [if_neg hc80] at k
          refine XS.ifYes X13.here hx rfl (pc0 := 80) (pc' := 113) rfl (hb hby at_80) rfl ((if0 _ _).trans (feq (mt (lw_eq q2 (0 : Int64)).mp hc80)).2) (by decide) (by decide) ?_
          show Steps p.tables e below (T13.setTop (mkF m 113 #[.val (.int p0), .val (.long q1), .second, .val (.long q2), .second, .val (.long q3), .second, .val (.long q4), .second, .val (.int (2 : Int32)), .val (.ref b9), .unset, .unset, .unset] [])) _
          refine XS.iconst X13.here hx rfl (hb hby at_113) ?_
          show Steps p.tables e below (T13.setTop (mkF m 114 #[.val (.int p0), .val (.long q1), .second, .val (.long q2), .second, .val (.long q3), .second, .val (.long q4), .second, .val (.int (2 : Int32)), .val (.ref b9), .unset, .unset, .unset] [(.int (0 : Int32))])) _
          exact k
      · try simp only [if_neg hc68] at k
        refine XS.ifYes X13.here hx rfl (pc0 := 68) (pc' := 113) rfl (hb hby at_68) rfl ((if0 _ _).trans (feq (mt (lw_eq q1 (0 : Int64)).mp hc68)).2) (by decide) (by decide) ?_
        show Steps p.tables e below (T13.setTop (mkF m 113 #[.val (.int p0), .val (.long q1), .second, .val (.long q2), .second, .val (.long q3), .second, .val (.long q4), .second, .val (.int (2 : Int32)), .val (.ref b9), .unset, .unset, .unset] [])) _
        refine XS.iconst X13.here hx rfl (hb hby at_113) ?_
        show Steps p.tables e below (T13.setTop (mkF m 114 #[.val (.int p0), .val (.long q1), .second, .val (.long q2), .second, .val (.long q3), .second, .val (.long q4), .second, .val (.int (2 : Int32)), .val (.ref b9), .unset, .unset, .unset] [(.int (0 : Int32))])) _
        exact k
    refine own_go sg14 ?_
    show own_Go p.tables e below _ (T13.setTop (mkF m 114 #[.val (.int p0), .val (.long q1), .second, .val (.long q2), .second, .val (.long q3), .second, .val (.long q4), .second, .val (.int (2 : Int32)), .val (.ref b9), .unset, .unset, .unset] [(.int (if q1 = (0 : Int64) then (if q2 = (0 : Int64) then (1 : Int32) else (0 : Int32)) else (0 : Int32)))]))
    refine own_go (fun _ k => XS.istore X13.here hx rfl (hb hby at_114) rfl (l' := #[.val (.int p0), .val (.long q1), .second, .val (.long q2), .second, .val (.long q3), .second, .val (.long q4), .second, .val (.int (2 : Int32)), .val (.ref b9), .val (.int (if q1 = (0 : Int64) then (if q2 = (0 : Int64) then (1 : Int32) else (0 : Int32)) else (0 : Int32))), .unset, .unset]) rfl k) ?_
    show own_Go p.tables e below _ (T13.setTop (mkF m 116 #[.val (.int p0), .val (.long q1), .second, .val (.long q2), .second, .val (.long q3), .second, .val (.long q4), .second, .val (.int (2 : Int32)), .val (.ref b9), .val (.int (if q1 = (0 : Int64) then (if q2 = (0 : Int64) then (1 : Int32) else (0 : Int32)) else (0 : Int32))), .unset, .unset] []))
    refine own_go (fun _ k => XS.aload X13.here hx rfl (hb hby at_116) rfl rfl k) ?_
    show own_Go p.tables e below _ (T13.setTop (mkF m 118 #[.val (.int p0), .val (.long q1), .second, .val (.long q2), .second, .val (.long q3), .second, .val (.long q4), .second, .val (.int (2 : Int32)), .val (.ref b9), .val (.int (if q1 = (0 : Int64) then (if q2 = (0 : Int64) then (1 : Int32) else (0 : Int32)) else (0 : Int32))), .unset, .unset] [(.ref b9)]))
    obtain ⟨_, _, ⟨T15, L15, k15, n15⟩, -, X15, ⟨Lc15, hQ15, l15, y15, z15⟩, st15⟩ := Jvm.LawKit.callS X13 hx (y := (⟨"com/example/meshwright/meshwright/plan/PathCrossings", "empty", "([J)Z"⟩ : MethodName)) hown (mvT hZ (hw _ (List.mem_of_getElem? (i := 2) rfl))) (mvT hZ (hw _ (List.mem_of_getElem? (i := 3) rfl))) (mvT hZ (hw _ (List.mem_of_getElem? (i := 4) rfl))) (mvT hZ (hw _ (List.mem_of_getElem? (i := 5) rfl))) (by decide) (backOf (W := 0) (rm1_2 l Z az hw [] b9 k9 q1 q2 h13 n0 Z13 V13) hZ (hw _ (List.mem_of_getElem? (i := 5) rfl)) (hw _ (List.mem_of_getElem? (i := 4) rfl)) (by decide) (by decide)) (g := (mkF m 118 #[.val (.int p0), .val (.long q1), .second, .val (.long q2), .second, .val (.long q3), .second, .val (.long q4), .second, .val (.int (2 : Int32)), .val (.ref b9), .val (.int (if q1 = (0 : Int64) then (if q2 = (0 : Int64) then (1 : Int32) else (0 : Int32)) else (0 : Int32))), .unset, .unset] [(.ref b9)])) rfl (by rw [hml]; rfl) (argsL := [(.ref b9)]) (rest := []) (lenOf pd0_0 rfl) rfl (by show 2 * 0 + _ ≤ _; exact Nat.le_of_eq rfl) (hb hby at_118) (fun _ _ => ⟨rfl, e13, (by decide : 1 + 0 ≤ _), (by decide : 2 + 0 ≤ _)⟩)
    dsimp only [Pt.U, Pt.locs, Pt.cells, Pt.slots] at X15 l15 y15 z15 st15 hQ15
    subst l15 y15 z15
    refine own_go st15 ?_
    obtain ⟨rfl, N15q, e15⟩ := hQ15
    have N15 := Fr.app N13 N15q
    show own_Go p.tables e below _ (T15.setTop (mkF m 121 #[.val (.int p0), .val (.long q1), .second, .val (.long q2), .second, .val (.long q3), .second, .val (.long q4), .second, .val (.int (2 : Int32)), .val (.ref b9), .val (.int (if q1 = (0 : Int64) then (if q2 = (0 : Int64) then (1 : Int32) else (0 : Int32)) else (0 : Int32))), .unset, .unset] [(.int (own_f1_2 q1 q2))]))
    refine own_go (fun _ k => XS.istore X15.here hx rfl (hb hby at_121) rfl (l' := #[.val (.int p0), .val (.long q1), .second, .val (.long q2), .second, .val (.long q3), .second, .val (.long q4), .second, .val (.int (2 : Int32)), .val (.ref b9), .val (.int (if q1 = (0 : Int64) then (if q2 = (0 : Int64) then (1 : Int32) else (0 : Int32)) else (0 : Int32))), .val (.int (own_f1_2 q1 q2)), .unset]) rfl k) ?_
    show own_Go p.tables e below _ (T15.setTop (mkF m 123 #[.val (.int p0), .val (.long q1), .second, .val (.long q2), .second, .val (.long q3), .second, .val (.long q4), .second, .val (.int (2 : Int32)), .val (.ref b9), .val (.int (if q1 = (0 : Int64) then (if q2 = (0 : Int64) then (1 : Int32) else (0 : Int32)) else (0 : Int32))), .val (.int (own_f1_2 q1 q2)), .unset] []))
    refine own_go (fun _ k => XS.iload X15.here hx rfl (hb hby at_123) rfl k) ?_
    show own_Go p.tables e below _ (T15.setTop (mkF m 125 #[.val (.int p0), .val (.long q1), .second, .val (.long q2), .second, .val (.long q3), .second, .val (.long q4), .second, .val (.int (2 : Int32)), .val (.ref b9), .val (.int (if q1 = (0 : Int64) then (if q2 = (0 : Int64) then (1 : Int32) else (0 : Int32)) else (0 : Int32))), .val (.int (own_f1_2 q1 q2)), .unset] [(.int (2 : Int32))]))
    refine own_go (fun _ k => XS.iconst X15.here hx rfl (hb hby at_125) k) ?_
    show own_Go p.tables e below _ (T15.setTop (mkF m 126 #[.val (.int p0), .val (.long q1), .second, .val (.long q2), .second, .val (.long q3), .second, .val (.long q4), .second, .val (.int (2 : Int32)), .val (.ref b9), .val (.int (if q1 = (0 : Int64) then (if q2 = (0 : Int64) then (1 : Int32) else (0 : Int32)) else (0 : Int32))), .val (.int (own_f1_2 q1 q2)), .unset] [(.int (1 : Int32)), (.int (2 : Int32))]))
    have hf126 : ¬ ((2 : Int32) < (1 : Int32)) := by decide
    refine own_go (fun _ k => XS.icmpNo X15.here hx rfl (hb hby at_126) rfl (flt hf126).1 k) ?_
    show own_Go p.tables e below _ (T15.setTop (mkF m 129 #[.val (.int p0), .val (.long q1), .second, .val (.long q2), .second, .val (.long q3), .second, .val (.long q4), .second, .val (.int (2 : Int32)), .val (.ref b9), .val (.int (if q1 = (0 : Int64) then (if q2 = (0 : Int64) then (1 : Int32) else (0 : Int32)) else (0 : Int32))), .val (.int (own_f1_2 q1 q2)), .unset] []))
    refine own_go (fun _ k => XS.aload X15.here hx rfl (hb hby at_129) rfl rfl k) ?_
    show own_Go p.tables e below _ (T15.setTop (mkF m 131 #[.val (.int p0), .val (.long q1), .second, .val (.long q2), .second, .val (.long q3), .second, .val (.long q4), .second, .val (.int (2 : Int32)), .val (.ref b9), .val (.int (if q1 = (0 : Int64) then (if q2 = (0 : Int64) then (1 : Int32) else (0 : Int32)) else (0 : Int32))), .val (.int (own_f1_2 q1 q2)), .unset] [(.ref b9)]))
    refine own_go (fun _ k => XS.iconst X15.here hx rfl (hb hby at_131) k) ?_
    show own_Go p.tables e below _ (T15.setTop (mkF m 132 #[.val (.int p0), .val (.long q1), .second, .val (.long q2), .second, .val (.long q3), .second, .val (.long q4), .second, .val (.int (2 : Int32)), .val (.ref b9), .val (.int (if q1 = (0 : Int64) then (if q2 = (0 : Int64) then (1 : Int32) else (0 : Int32)) else (0 : Int32))), .val (.int (own_f1_2 q1 q2)), .unset] [(.int (0 : Int32)), (.ref b9)]))
    have vo16 := V13
    obtain ⟨cl16, Ar16, Aq16, AS16, AN16, AH16, AG16⟩ := vo16
    have hin16 : ¬ ((0 : Int32) < 0 ∨ cl16.slots.size ≤ ((0 : Int32)).toNatClampNeg) := inb_of AS16 ⟨by decide, by decide⟩
    have hat16 : cl16.slots[((0 : Int32)).toNatClampNeg]? = some (.long q1) := Has.at AH16 hin16 rfl
    refine own_go (fun _ k => X15.laload hx (j := (0 : Int32)) (v := (.long q1)) (by rw [(e15 : T15.heap = h13)]; exact Ar16.1) (State.isArrayOf_alike hZ.alike Ar16.2.1) Ar16.2.2 hin16 hat16 (g := (mkF m 132 #[.val (.int p0), .val (.long q1), .second, .val (.long q2), .second, .val (.long q3), .second, .val (.long q4), .second, .val (.int (2 : Int32)), .val (.ref b9), .val (.int (if q1 = (0 : Int64) then (if q2 = (0 : Int64) then (1 : Int32) else (0 : Int32)) else (0 : Int32))), .val (.int (own_f1_2 q1 q2)), .unset] [(.int (0 : Int32)), (.ref b9)])) rfl rfl (hb hby at_132) _ k) ?_
    show own_Go p.tables e below _ (T15.setTop (mkF m 133 #[.val (.int p0), .val (.long q1), .second, .val (.long q2), .second, .val (.long q3), .second, .val (.long q4), .second, .val (.int (2 : Int32)), .val (.ref b9), .val (.int (if q1 = (0 : Int64) then (if q2 = (0 : Int64) then (1 : Int32) else (0 : Int32)) else (0 : Int32))), .val (.int (own_f1_2 q1 q2)), .unset] [(.long q1)]))
    refine own_go (fun _ k => XS.lloadN X15.here hx rfl (hb hby at_133) rfl k) ?_
    show own_Go p.tables e below _ (T15.setTop (mkF m 134 #[.val (.int p0), .val (.long q1), .second, .val (.long q2), .second, .val (.long q3), .second, .val (.long q4), .second, .val (.int (2 : Int32)), .val (.ref b9), .val (.int (if q1 = (0 : Int64) then (if q2 = (0 : Int64) then (1 : Int32) else (0 : Int32)) else (0 : Int32))), .val (.int (own_f1_2 q1 q2)), .unset] [(.long q1), (.long q1)]))
    refine own_go (fun _ k => XS.lcmp X15.here hx rfl (hb hby at_134) rfl k) ?_
    show own_Go p.tables e below _ (T15.setTop (mkF m 135 #[.val (.int p0), .val (.long q1), .second, .val (.long q2), .second, .val (.long q3), .second, .val (.long q4), .second, .val (.int (2 : Int32)), .val (.ref b9), .val (.int (if q1 = (0 : Int64) then (if q2 = (0 : Int64) then (1 : Int32) else (0 : Int32)) else (0 : Int32))), .val (.int (own_f1_2 q1 q2)), .unset] [(.int (lcmpW q1 q1))]))
    have hf135 : q1 = q1 := rfl
    refine own_go (fun _ k => XS.ifNo X15.here hx rfl (hb hby at_135) rfl ((if0 _ _).trans (teq ((lw_eq q1 q1).mpr hf135)).2) k) ?_
    show own_Go p.tables e below _ (T15.setTop (mkF m 138 #[.val (.int p0), .val (.long q1), .second, .val (.long q2), .second, .val (.long q3), .second, .val (.long q4), .second, .val (.int (2 : Int32)), .val (.ref b9), .val (.int (if q1 = (0 : Int64) then (if q2 = (0 : Int64) then (1 : Int32) else (0 : Int32)) else (0 : Int32))), .val (.int (own_f1_2 q1 q2)), .unset] []))
    refine own_go (fun _ k => XS.iload X15.here hx rfl (hb hby at_138) rfl k) ?_
    show own_Go p.tables e below _ (T15.setTop (mkF m 140 #[.val (.int p0), .val (.long q1), .second, .val (.long q2), .second, .val (.long q3), .second, .val (.long q4), .second, .val (.int (2 : Int32)), .val (.ref b9), .val (.int (if q1 = (0 : Int64) then (if q2 = (0 : Int64) then (1 : Int32) else (0 : Int32)) else (0 : Int32))), .val (.int (own_f1_2 q1 q2)), .unset] [(.int (2 : Int32))]))
    refine own_go (fun _ k => XS.iconst X15.here hx rfl (hb hby at_140) k) ?_
    show own_Go p.tables e below _ (T15.setTop (mkF m 141 #[.val (.int p0), .val (.long q1), .second, .val (.long q2), .second, .val (.long q3), .second, .val (.long q4), .second, .val (.int (2 : Int32)), .val (.ref b9), .val (.int (if q1 = (0 : Int64) then (if q2 = (0 : Int64) then (1 : Int32) else (0 : Int32)) else (0 : Int32))), .val (.int (own_f1_2 q1 q2)), .unset] [(.int (2 : Int32)), (.int (2 : Int32))]))
    have hf141 : ¬ ((2 : Int32) < (2 : Int32)) := by decide
    refine own_go (fun _ k => XS.icmpNo X15.here hx rfl (hb hby at_141) rfl (flt hf141).1 k) ?_
    show own_Go p.tables e below _ (T15.setTop (mkF m 144 #[.val (.int p0), .val (.long q1), .second, .val (.long q2), .second, .val (.long q3), .second, .val (.long q4), .second, .val (.int (2 : Int32)), .val (.ref b9), .val (.int (if q1 = (0 : Int64) then (if q2 = (0 : Int64) then (1 : Int32) else (0 : Int32)) else (0 : Int32))), .val (.int (own_f1_2 q1 q2)), .unset] []))
    refine own_go (fun _ k => XS.aload X15.here hx rfl (hb hby at_144) rfl rfl k) ?_
    show own_Go p.tables e below _ (T15.setTop (mkF m 146 #[.val (.int p0), .val (.long q1), .second, .val (.long q2), .second, .val (.long q3), .second, .val (.long q4), .second, .val (.int (2 : Int32)), .val (.ref b9), .val (.int (if q1 = (0 : Int64) then (if q2 = (0 : Int64) then (1 : Int32) else (0 : Int32)) else (0 : Int32))), .val (.int (own_f1_2 q1 q2)), .unset] [(.ref b9)]))
    refine own_go (fun _ k => XS.iconst X15.here hx rfl (hb hby at_146) k) ?_
    show own_Go p.tables e below _ (T15.setTop (mkF m 147 #[.val (.int p0), .val (.long q1), .second, .val (.long q2), .second, .val (.long q3), .second, .val (.long q4), .second, .val (.int (2 : Int32)), .val (.ref b9), .val (.int (if q1 = (0 : Int64) then (if q2 = (0 : Int64) then (1 : Int32) else (0 : Int32)) else (0 : Int32))), .val (.int (own_f1_2 q1 q2)), .unset] [(.int (1 : Int32)), (.ref b9)]))
    have vo17 := V13
    obtain ⟨cl17, Ar17, Aq17, AS17, AN17, AH17, AG17⟩ := vo17
    have hin17 : ¬ ((1 : Int32) < 0 ∨ cl17.slots.size ≤ ((1 : Int32)).toNatClampNeg) := inb_of AS17 ⟨by decide, by decide⟩
    have hat17 : cl17.slots[((1 : Int32)).toNatClampNeg]? = some (.long q2) := Has.at AH17 hin17 rfl
    refine own_go (fun _ k => X15.laload hx (j := (1 : Int32)) (v := (.long q2)) (by rw [(e15 : T15.heap = h13)]; exact Ar17.1) (State.isArrayOf_alike hZ.alike Ar17.2.1) Ar17.2.2 hin17 hat17 (g := (mkF m 147 #[.val (.int p0), .val (.long q1), .second, .val (.long q2), .second, .val (.long q3), .second, .val (.long q4), .second, .val (.int (2 : Int32)), .val (.ref b9), .val (.int (if q1 = (0 : Int64) then (if q2 = (0 : Int64) then (1 : Int32) else (0 : Int32)) else (0 : Int32))), .val (.int (own_f1_2 q1 q2)), .unset] [(.int (1 : Int32)), (.ref b9)])) rfl rfl (hb hby at_147) _ k) ?_
    show own_Go p.tables e below _ (T15.setTop (mkF m 148 #[.val (.int p0), .val (.long q1), .second, .val (.long q2), .second, .val (.long q3), .second, .val (.long q4), .second, .val (.int (2 : Int32)), .val (.ref b9), .val (.int (if q1 = (0 : Int64) then (if q2 = (0 : Int64) then (1 : Int32) else (0 : Int32)) else (0 : Int32))), .val (.int (own_f1_2 q1 q2)), .unset] [(.long q2)]))
    refine own_go (fun _ k => XS.lloadN X15.here hx rfl (hb hby at_148) rfl k) ?_
    show own_Go p.tables e below _ (T15.setTop (mkF m 149 #[.val (.int p0), .val (.long q1), .second, .val (.long q2), .second, .val (.long q3), .second, .val (.long q4), .second, .val (.int (2 : Int32)), .val (.ref b9), .val (.int (if q1 = (0 : Int64) then (if q2 = (0 : Int64) then (1 : Int32) else (0 : Int32)) else (0 : Int32))), .val (.int (own_f1_2 q1 q2)), .unset] [(.long q2), (.long q2)]))
    refine own_go (fun _ k => XS.lcmp X15.here hx rfl (hb hby at_149) rfl k) ?_
    show own_Go p.tables e below _ (T15.setTop (mkF m 150 #[.val (.int p0), .val (.long q1), .second, .val (.long q2), .second, .val (.long q3), .second, .val (.long q4), .second, .val (.int (2 : Int32)), .val (.ref b9), .val (.int (if q1 = (0 : Int64) then (if q2 = (0 : Int64) then (1 : Int32) else (0 : Int32)) else (0 : Int32))), .val (.int (own_f1_2 q1 q2)), .unset] [(.int (lcmpW q2 q2))]))
    have hf150 : q2 = q2 := rfl
    refine own_go (fun _ k => XS.ifNo X15.here hx rfl (hb hby at_150) rfl ((if0 _ _).trans (teq ((lw_eq q2 q2).mpr hf150)).2) k) ?_
    show own_Go p.tables e below _ (T15.setTop (mkF m 153 #[.val (.int p0), .val (.long q1), .second, .val (.long q2), .second, .val (.long q3), .second, .val (.long q4), .second, .val (.int (2 : Int32)), .val (.ref b9), .val (.int (if q1 = (0 : Int64) then (if q2 = (0 : Int64) then (1 : Int32) else (0 : Int32)) else (0 : Int32))), .val (.int (own_f1_2 q1 q2)), .unset] []))
    refine own_go (fun _ k => XS.iload X15.here hx rfl (hb hby at_153) rfl k) ?_
    show own_Go p.tables e below _ (T15.setTop (mkF m 155 #[.val (.int p0), .val (.long q1), .second, .val (.long q2), .second, .val (.long q3), .second, .val (.long q4), .second, .val (.int (2 : Int32)), .val (.ref b9), .val (.int (if q1 = (0 : Int64) then (if q2 = (0 : Int64) then (1 : Int32) else (0 : Int32)) else (0 : Int32))), .val (.int (own_f1_2 q1 q2)), .unset] [(.int (2 : Int32))]))
    refine own_go (fun _ k => XS.iconst X15.here hx rfl (hb hby at_155) k) ?_
    show own_Go p.tables e below _ (T15.setTop (mkF m 156 #[.val (.int p0), .val (.long q1), .second, .val (.long q2), .second, .val (.long q3), .second, .val (.long q4), .second, .val (.int (2 : Int32)), .val (.ref b9), .val (.int (if q1 = (0 : Int64) then (if q2 = (0 : Int64) then (1 : Int32) else (0 : Int32)) else (0 : Int32))), .val (.int (own_f1_2 q1 q2)), .unset] [(.int (3 : Int32)), (.int (2 : Int32))]))
    have hf156 : (2 : Int32) < (3 : Int32) := by decide
    refine own_go (fun _ k => XS.icmpYes X15.here hx rfl (pc0 := 156) (pc' := 169) rfl (hb hby at_156) rfl (tlt hf156).1 (by decide) (by decide) k) ?_
    show own_Go p.tables e below _ (T15.setTop (mkF m 169 #[.val (.int p0), .val (.long q1), .second, .val (.long q2), .second, .val (.long q3), .second, .val (.long q4), .second, .val (.int (2 : Int32)), .val (.ref b9), .val (.int (if q1 = (0 : Int64) then (if q2 = (0 : Int64) then (1 : Int32) else (0 : Int32)) else (0 : Int32))), .val (.int (own_f1_2 q1 q2)), .unset] []))
    refine own_go (fun _ k => XS.iload X15.here hx rfl (hb hby at_169) rfl k) ?_
    show own_Go p.tables e below _ (T15.setTop (mkF m 171 #[.val (.int p0), .val (.long q1), .second, .val (.long q2), .second, .val (.long q3), .second, .val (.long q4), .second, .val (.int (2 : Int32)), .val (.ref b9), .val (.int (if q1 = (0 : Int64) then (if q2 = (0 : Int64) then (1 : Int32) else (0 : Int32)) else (0 : Int32))), .val (.int (own_f1_2 q1 q2)), .unset] [(.int (2 : Int32))]))
    refine own_go (fun _ k => XS.iconst X15.here hx rfl (hb hby at_171) k) ?_
    show own_Go p.tables e below _ (T15.setTop (mkF m 172 #[.val (.int p0), .val (.long q1), .second, .val (.long q2), .second, .val (.long q3), .second, .val (.long q4), .second, .val (.int (2 : Int32)), .val (.ref b9), .val (.int (if q1 = (0 : Int64) then (if q2 = (0 : Int64) then (1 : Int32) else (0 : Int32)) else (0 : Int32))), .val (.int (own_f1_2 q1 q2)), .unset] [(.int (4 : Int32)), (.int (2 : Int32))]))
    have hf172 : (2 : Int32) < (4 : Int32) := by decide
    refine own_go (fun _ k => XS.icmpYes X15.here hx rfl (pc0 := 172) (pc' := 185) rfl (hb hby at_172) rfl (tlt hf172).1 (by decide) (by decide) k) ?_
    show own_Go p.tables e below _ (T15.setTop (mkF m 185 #[.val (.int p0), .val (.long q1), .second, .val (.long q2), .second, .val (.long q3), .second, .val (.long q4), .second, .val (.int (2 : Int32)), .val (.ref b9), .val (.int (if q1 = (0 : Int64) then (if q2 = (0 : Int64) then (1 : Int32) else (0 : Int32)) else (0 : Int32))), .val (.int (own_f1_2 q1 q2)), .unset] []))
    refine own_go (fun _ k => XS.iconst X15.here hx rfl (hb hby at_185) k) ?_
    show own_Go p.tables e below _ (T15.setTop (mkF m 186 #[.val (.int p0), .val (.long q1), .second, .val (.long q2), .second, .val (.long q3), .second, .val (.long q4), .second, .val (.int (2 : Int32)), .val (.ref b9), .val (.int (if q1 = (0 : Int64) then (if q2 = (0 : Int64) then (1 : Int32) else (0 : Int32)) else (0 : Int32))), .val (.int (own_f1_2 q1 q2)), .unset] [(.int (1 : Int32))]))
    refine own_go (fun _ k => XS.goto X15.here hx rfl (pc0 := 186) (pc' := 190) rfl (hb hby at_186) (by decide) (by decide) k) ?_
    show own_Go p.tables e below _ (T15.setTop (mkF m 190 #[.val (.int p0), .val (.long q1), .second, .val (.long q2), .second, .val (.long q3), .second, .val (.long q4), .second, .val (.int (2 : Int32)), .val (.ref b9), .val (.int (if q1 = (0 : Int64) then (if q2 = (0 : Int64) then (1 : Int32) else (0 : Int32)) else (0 : Int32))), .val (.int (own_f1_2 q1 q2)), .unset] [(.int (1 : Int32))]))
    refine own_go (fun _ k => XS.istore X15.here hx rfl (hb hby at_190) rfl (l' := #[.val (.int p0), .val (.long q1), .second, .val (.long q2), .second, .val (.long q3), .second, .val (.long q4), .second, .val (.int (2 : Int32)), .val (.ref b9), .val (.int (if q1 = (0 : Int64) then (if q2 = (0 : Int64) then (1 : Int32) else (0 : Int32)) else (0 : Int32))), .val (.int (own_f1_2 q1 q2)), .val (.int (1 : Int32))]) rfl k) ?_
    show own_Go p.tables e below _ (T15.setTop (mkF m 192 #[.val (.int p0), .val (.long q1), .second, .val (.long q2), .second, .val (.long q3), .second, .val (.long q4), .second, .val (.int (2 : Int32)), .val (.ref b9), .val (.int (if q1 = (0 : Int64) then (if q2 = (0 : Int64) then (1 : Int32) else (0 : Int32)) else (0 : Int32))), .val (.int (own_f1_2 q1 q2)), .val (.int (1 : Int32))] []))
    refine own_go (fun _ k => XS.iload X15.here hx rfl (hb hby at_192) rfl k) ?_
    show own_Go p.tables e below _ (T15.setTop (mkF m 194 #[.val (.int p0), .val (.long q1), .second, .val (.long q2), .second, .val (.long q3), .second, .val (.long q4), .second, .val (.int (2 : Int32)), .val (.ref b9), .val (.int (if q1 = (0 : Int64) then (if q2 = (0 : Int64) then (1 : Int32) else (0 : Int32)) else (0 : Int32))), .val (.int (own_f1_2 q1 q2)), .val (.int (1 : Int32))] [(.int (own_f1_2 q1 q2))]))
    refine own_go (fun _ k => XS.iload X15.here hx rfl (hb hby at_194) rfl k) ?_
    show own_Go p.tables e below _ (T15.setTop (mkF m 196 #[.val (.int p0), .val (.long q1), .second, .val (.long q2), .second, .val (.long q3), .second, .val (.long q4), .second, .val (.int (2 : Int32)), .val (.ref b9), .val (.int (if q1 = (0 : Int64) then (if q2 = (0 : Int64) then (1 : Int32) else (0 : Int32)) else (0 : Int32))), .val (.int (own_f1_2 q1 q2)), .val (.int (1 : Int32))] [(.int (if q1 = (0 : Int64) then (if q2 = (0 : Int64) then (1 : Int32) else (0 : Int32)) else (0 : Int32))), (.int (own_f1_2 q1 q2))]))
    have hf196 : (own_f1_2 q1 q2) = (if q1 = (0 : Int64) then (if q2 = (0 : Int64) then (1 : Int32) else (0 : Int32)) else (0 : Int32)) := own_e2 _ _
    refine own_go (fun _ k => XS.icmpNo X15.here hx rfl (hb hby at_196) rfl (teq hf196).2 k) ?_
    show own_Go p.tables e below _ (T15.setTop (mkF m 199 #[.val (.int p0), .val (.long q1), .second, .val (.long q2), .second, .val (.long q3), .second, .val (.long q4), .second, .val (.int (2 : Int32)), .val (.ref b9), .val (.int (if q1 = (0 : Int64) then (if q2 = (0 : Int64) then (1 : Int32) else (0 : Int32)) else (0 : Int32))), .val (.int (own_f1_2 q1 q2)), .val (.int (1 : Int32))] []))
    refine own_go (fun _ k => XS.iload X15.here hx rfl (hb hby at_199) rfl k) ?_
    show own_Go p.tables e below _ (T15.setTop (mkF m 201 #[.val (.int p0), .val (.long q1), .second, .val (.long q2), .second, .val (.long q3), .second, .val (.long q4), .second, .val (.int (2 : Int32)), .val (.ref b9), .val (.int (if q1 = (0 : Int64) then (if q2 = (0 : Int64) then (1 : Int32) else (0 : Int32)) else (0 : Int32))), .val (.int (own_f1_2 q1 q2)), .val (.int (1 : Int32))] [(.int (1 : Int32))]))
    have hf201 : ¬ ((1 : Int32) = (0 : Int32)) := by decide
    refine own_go (fun _ k => XS.ifNo X15.here hx rfl (hb hby at_201) rfl ((if0 _ _).trans (feq hf201).1) k) ?_
    show own_Go p.tables e below _ (T15.setTop (mkF m 204 #[.val (.int p0), .val (.long q1), .second, .val (.long q2), .second, .val (.long q3), .second, .val (.long q4), .second, .val (.int (2 : Int32)), .val (.ref b9), .val (.int (if q1 = (0 : Int64) then (if q2 = (0 : Int64) then (1 : Int32) else (0 : Int32)) else (0 : Int32))), .val (.int (own_f1_2 q1 q2)), .val (.int (1 : Int32))] []))
    refine own_go (fun _ k => XS.iconst X15.here hx rfl (hb hby at_204) k) ?_
    show own_Go p.tables e below _ (T15.setTop (mkF m 205 #[.val (.int p0), .val (.long q1), .second, .val (.long q2), .second, .val (.long q3), .second, .val (.long q4), .second, .val (.int (2 : Int32)), .val (.ref b9), .val (.int (if q1 = (0 : Int64) then (if q2 = (0 : Int64) then (1 : Int32) else (0 : Int32)) else (0 : Int32))), .val (.int (own_f1_2 q1 q2)), .val (.int (1 : Int32))] [(.int (1 : Int32))]))
    refine own_go (fun _ k => XS.goto X15.here hx rfl (pc0 := 205) (pc' := 209) rfl (hb hby at_205) (by decide) (by decide) k) ?_
    show own_Go p.tables e below _ (T15.setTop (mkF m 209 #[.val (.int p0), .val (.long q1), .second, .val (.long q2), .second, .val (.long q3), .second, .val (.long q4), .second, .val (.int (2 : Int32)), .val (.ref b9), .val (.int (if q1 = (0 : Int64) then (if q2 = (0 : Int64) then (1 : Int32) else (0 : Int32)) else (0 : Int32))), .val (.int (own_f1_2 q1 q2)), .val (.int (1 : Int32))] [(.int (1 : Int32))]))
    refine own_end X15 Bd.notSynchronized (v := some (.int (1 : Int32))) (fun h => by rw [Bd.returns] at h; cases h) (fun fs hr => retN X15 hx (t := .boolean) Bd.returns (by simp) (hb hby at_209) hr) ?_ (by decide) (by decide)
    exact ⟨rfl, N15⟩
  · subst h5
    show own_Go p.tables e below _ (s₁.setTop (mkF m 8 #[.val (.int p0), .val (.long q1), .second, .val (.long q2), .second, .val (.long q3), .second, .val (.long q4), .second, .val (.int (3 : Int32)), .unset, .unset, .unset, .unset] []))
    refine own_go (fun _ k => XS.iload X0.here hx rfl (hb hby at_8) rfl k) ?_
    show own_Go p.tables e below _ (s₁.setTop (mkF m 10 #[.val (.int p0), .val (.long q1), .second, .val (.long q2), .second, .val (.long q3), .second, .val (.long q4), .second, .val (.int (3 : Int32)), .unset, .unset, .unset, .unset] [(.int (3 : Int32))]))
    obtain ⟨T18, h18, k18, X18, e18, E18, A18, st18⟩ := newP X0 hx hZ (hw _ (List.mem_of_getElem? (i := 1) rfl)) e0 (g := (mkF m 10 #[.val (.int p0), .val (.long q1), .second, .val (.long q2), .second, .val (.long q3), .second, .val (.long q4), .second, .val (.int (3 : Int32)), .unset, .unset, .unset, .unset] [(.int (3 : Int32))])) rfl (hb hby at_10) rfl (by decide) (cap := 3) (by decide) (by decide) (by decide) (by decide)
    obtain ⟨b18, g18⟩ : ∃ z, z = h0.size := ⟨_, rfl⟩
    rw [← g18] at A18 st18
    have g_b18 : n0 ≤ b18 := Nat.le_trans Z0 (Nat.le_of_eq g18.symm)
    have Z18 : n0 ≤ h18.size := Nat.le_trans Z0 E18.1
    have V18 : Arv Z h18 b18 k18 .long (3 : Int32) [(.long (0 : Int64)), (.long (0 : Int64)), (.long (0 : Int64))] (.long (0 : Int64)) := (Arv.new A18 (by decide)).pad (pad_rep [] (.long (0 : Int64)) 3)
    refine own_go st18 ?_
    show own_Go p.tables e below _ (T18.setTop (mkF m 12 #[.val (.int p0), .val (.long q1), .second, .val (.long q2), .second, .val (.long q3), .second, .val (.long q4), .second, .val (.int (3 : Int32)), .unset, .unset, .unset, .unset] [(.ref b18)]))
    refine own_go (fun _ k => XS.astore X18.here hx rfl (hb hby at_12) rfl rfl (l' := #[.val (.int p0), .val (.long q1), .second, .val (.long q2), .second, .val (.long q3), .second, .val (.long q4), .second, .val (.int (3 : Int32)), .val (.ref b18), .unset, .unset, .unset]) rfl k) ?_
    show own_Go p.tables e below _ (T18.setTop (mkF m 14 #[.val (.int p0), .val (.long q1), .second, .val (.long q2), .second, .val (.long q3), .second, .val (.long q4), .second, .val (.int (3 : Int32)), .val (.ref b18), .unset, .unset, .unset] []))
    refine own_go (fun _ k => XS.iload X18.here hx rfl (hb hby at_14) rfl k) ?_
    show own_Go p.tables e below _ (T18.setTop (mkF m 16 #[.val (.int p0), .val (.long q1), .second, .val (.long q2), .second, .val (.long q3), .second, .val (.long q4), .second, .val (.int (3 : Int32)), .val (.ref b18), .unset, .unset, .unset] [(.int (3 : Int32))]))
    have hf16 : (0 : Int32) < (3 : Int32) := by decide
    refine own_go (fun _ k => XS.ifNo X18.here hx rfl (hb hby at_16) rfl ((if0 _ _).trans (tlt hf16).2.2.2) k) ?_
    show own_Go p.tables e below _ (T18.setTop (mkF m 19 #[.val (.int p0), .val (.long q1), .second, .val (.long q2), .second, .val (.long q3), .second, .val (.long q4), .second, .val (.int (3 : Int32)), .val (.ref b18), .unset, .unset, .unset] []))
    refine own_go (fun _ k => XS.aload X18.here hx rfl (hb hby at_19) rfl rfl k) ?_
    show own_Go p.tables e below _ (T18.setTop (mkF m 21 #[.val (.int p0), .val (.long q1), .second, .val (.long q2), .second, .val (.long q3), .second, .val (.long q4), .second, .val (.int (3 : Int32)), .val (.ref b18), .unset, .unset, .unset] [(.ref b18)]))
    refine own_go (fun _ k => XS.iconst X18.here hx rfl (hb hby at_21) k) ?_
    show own_Go p.tables e below _ (T18.setTop (mkF m 22 #[.val (.int p0), .val (.long q1), .second, .val (.long q2), .second, .val (.long q3), .second, .val (.long q4), .second, .val (.int (3 : Int32)), .val (.ref b18), .unset, .unset, .unset] [(.int (0 : Int32)), (.ref b18)]))
    refine own_go (fun _ k => XS.lloadN X18.here hx rfl (hb hby at_22) rfl k) ?_
    show own_Go p.tables e below _ (T18.setTop (mkF m 23 #[.val (.int p0), .val (.long q1), .second, .val (.long q2), .second, .val (.long q3), .second, .val (.long q4), .second, .val (.int (3 : Int32)), .val (.ref b18), .unset, .unset, .unset] [(.long q1), (.int (0 : Int32)), (.ref b18)]))
    have vo19 := V18
    obtain ⟨cl19, Ar19, Aq19, AS19, AN19, AH19, AG19⟩ := vo19
    have hin20 : ¬ ((0 : Int32) < 0 ∨ cl19.slots.size ≤ ((0 : Int32)).toNatClampNeg) := inb_of AS19 ⟨by decide, by decide⟩
    obtain ⟨T20, h20, X20, e20, W20, st20⟩ := stJ X18 hx hZ e18 Ar19 (j := (0 : Int32)) hin20 (g := (mkF m 23 #[.val (.int p0), .val (.long q1), .second, .val (.long q2), .second, .val (.long q3), .second, .val (.long q4), .second, .val (.int (3 : Int32)), .val (.ref b18), .unset, .unset, .unset] [(.long q1), (.int (0 : Int32)), (.ref b18)])) rfl rfl (hb hby at_23)
    have V20 : Arv Z h20 b18 k18 .long (3 : Int32) [(.long q1), (.long (0 : Int64)), (.long (0 : Int64))] (.long (0 : Int64)) := Arv.set Ar19 Aq19 AS19 AN19 AH19 AG19 rfl W20 0 rfl (Nat.le_of_ble_eq_true rfl)
    have N20 := Fr.snoc X20 N0 g_b18
    have Z20 : n0 ≤ h20.size := Nat.le_trans Z18 (Keep.of_wr W20).1
    refine own_go st20 ?_
    show own_Go p.tables e below _ (T20.setTop (mkF m 24 #[.val (.int p0), .val (.long q1), .second, .val (.long q2), .second, .val (.long q3), .second, .val (.long q4), .second, .val (.int (3 : Int32)), .val (.ref b18), .unset, .unset, .unset] []))
    refine own_go (fun _ k => XS.iload X20.here hx rfl (hb hby at_24) rfl k) ?_
    show own_Go p.tables e below _ (T20.setTop (mkF m 26 #[.val (.int p0), .val (.long q1), .second, .val (.long q2), .second, .val (.long q3), .second, .val (.long q4), .second, .val (.int (3 : Int32)), .val (.ref b18), .unset, .unset, .unset] [(.int (3 : Int32))]))
    refine own_go (fun _ k => XS.iconst X20.here hx rfl (hb hby at_26) k) ?_
    show own_Go p.tables e below _ (T20.setTop (mkF m 27 #[.val (.int p0), .val (.long q1), .second, .val (.long q2), .second, .val (.long q3), .second, .val (.long q4), .second, .val (.int (3 : Int32)), .val (.ref b18), .unset, .unset, .unset] [(.int (1 : Int32)), (.int (3 : Int32))]))
    have hf27 : (1 : Int32) < (3 : Int32) := by decide
    refine own_go (fun _ k => XS.icmpNo X20.here hx rfl (hb hby at_27) rfl (tlt hf27).2.2.2 k) ?_
    show own_Go p.tables e below _ (T20.setTop (mkF m 30 #[.val (.int p0), .val (.long q1), .second, .val (.long q2), .second, .val (.long q3), .second, .val (.long q4), .second, .val (.int (3 : Int32)), .val (.ref b18), .unset, .unset, .unset] []))
    refine own_go (fun _ k => XS.aload X20.here hx rfl (hb hby at_30) rfl rfl k) ?_
    show own_Go p.tables e below _ (T20.setTop (mkF m 32 #[.val (.int p0), .val (.long q1), .second, .val (.long q2), .second, .val (.long q3), .second, .val (.long q4), .second, .val (.int (3 : Int32)), .val (.ref b18), .unset, .unset, .unset] [(.ref b18)]))
    refine own_go (fun _ k => XS.iconst X20.here hx rfl (hb hby at_32) k) ?_
    show own_Go p.tables e below _ (T20.setTop (mkF m 33 #[.val (.int p0), .val (.long q1), .second, .val (.long q2), .second, .val (.long q3), .second, .val (.long q4), .second, .val (.int (3 : Int32)), .val (.ref b18), .unset, .unset, .unset] [(.int (1 : Int32)), (.ref b18)]))
    refine own_go (fun _ k => XS.lloadN X20.here hx rfl (hb hby at_33) rfl k) ?_
    show own_Go p.tables e below _ (T20.setTop (mkF m 34 #[.val (.int p0), .val (.long q1), .second, .val (.long q2), .second, .val (.long q3), .second, .val (.long q4), .second, .val (.int (3 : Int32)), .val (.ref b18), .unset, .unset, .unset] [(.long q2), (.int (1 : Int32)), (.ref b18)]))
    have vo21 := V20
    obtain ⟨cl21, Ar21, Aq21, AS21, AN21, AH21, AG21⟩ := vo21
    have hin22 : ¬ ((1 : Int32) < 0 ∨ cl21.slots.size ≤ ((1 : Int32)).toNatClampNeg) := inb_of AS21 ⟨by decide, by decide⟩
    obtain ⟨T22, h22, X22, e22, W22, st22⟩ := stJ X20 hx hZ e20 Ar21 (j := (1 : Int32)) hin22 (g := (mkF m 34 #[.val (.int p0), .val (.long q1), .second, .val (.long q2), .second, .val (.long q3), .second, .val (.long q4), .second, .val (.int (3 : Int32)), .val (.ref b18), .unset, .unset, .unset] [(.long q2), (.int (1 : Int32)), (.ref b18)])) rfl rfl (hb hby at_34)
    have V22 : Arv Z h22 b18 k18 .long (3 : Int32) [(.long q1), (.long q2), (.long (0 : Int64))] (.long (0 : Int64)) := Arv.set Ar21 Aq21 AS21 AN21 AH21 AG21 rfl W22 1 rfl (Nat.le_of_ble_eq_true rfl)
    have N22 := Fr.snoc X22 N20 g_b18
    have Z22 : n0 ≤ h22.size := Nat.le_trans Z20 (Keep.of_wr W22).1
    refine own_go st22 ?_
    show own_Go p.tables e below _ (T22.setTop (mkF m 35 #[.val (.int p0), .val (.long q1), .second, .val (.long q2), .second, .val (.long q3), .second, .val (.long q4), .second, .val (.int (3 : Int32)), .val (.ref b18), .unset, .unset, .unset] []))
    refine own_go (fun _ k => XS.iload X22.here hx rfl (hb hby at_35) rfl k) ?_
    show own_Go p.tables e below _ (T22.setTop (mkF m 37 #[.val (.int p0), .val (.long q1), .second, .val (.long q2), .second, .val (.long q3), .second, .val (.long q4), .second, .val (.int (3 : Int32)), .val (.ref b18), .unset, .unset, .unset] [(.int (3 : Int32))]))
    refine own_go (fun _ k => XS.iconst X22.here hx rfl (hb hby at_37) k) ?_
    show own_Go p.tables e below _ (T22.setTop (mkF m 38 #[.val (.int p0), .val (.long q1), .second, .val (.long q2), .second, .val (.long q3), .second, .val (.long q4), .second, .val (.int (3 : Int32)), .val (.ref b18), .unset, .unset, .unset] [(.int (2 : Int32)), (.int (3 : Int32))]))
    have hf38 : (2 : Int32) < (3 : Int32) := by decide
    refine own_go (fun _ k => XS.icmpNo X22.here hx rfl (hb hby at_38) rfl (tlt hf38).2.2.2 k) ?_
    show own_Go p.tables e below _ (T22.setTop (mkF m 41 #[.val (.int p0), .val (.long q1), .second, .val (.long q2), .second, .val (.long q3), .second, .val (.long q4), .second, .val (.int (3 : Int32)), .val (.ref b18), .unset, .unset, .unset] []))
    refine own_go (fun _ k => XS.aload X22.here hx rfl (hb hby at_41) rfl rfl k) ?_
    show own_Go p.tables e below _ (T22.setTop (mkF m 43 #[.val (.int p0), .val (.long q1), .second, .val (.long q2), .second, .val (.long q3), .second, .val (.long q4), .second, .val (.int (3 : Int32)), .val (.ref b18), .unset, .unset, .unset] [(.ref b18)]))
    refine own_go (fun _ k => XS.iconst X22.here hx rfl (hb hby at_43) k) ?_
    show own_Go p.tables e below _ (T22.setTop (mkF m 44 #[.val (.int p0), .val (.long q1), .second, .val (.long q2), .second, .val (.long q3), .second, .val (.long q4), .second, .val (.int (3 : Int32)), .val (.ref b18), .unset, .unset, .unset] [(.int (2 : Int32)), (.ref b18)]))
    refine own_go (fun _ k => XS.lload X22.here hx rfl (hb hby at_44) rfl k) ?_
    show own_Go p.tables e below _ (T22.setTop (mkF m 46 #[.val (.int p0), .val (.long q1), .second, .val (.long q2), .second, .val (.long q3), .second, .val (.long q4), .second, .val (.int (3 : Int32)), .val (.ref b18), .unset, .unset, .unset] [(.long q3), (.int (2 : Int32)), (.ref b18)]))
    have vo23 := V22
    obtain ⟨cl23, Ar23, Aq23, AS23, AN23, AH23, AG23⟩ := vo23
    have hin24 : ¬ ((2 : Int32) < 0 ∨ cl23.slots.size ≤ ((2 : Int32)).toNatClampNeg) := inb_of AS23 ⟨by decide, by decide⟩
    obtain ⟨T24, h24, X24, e24, W24, st24⟩ := stJ X22 hx hZ e22 Ar23 (j := (2 : Int32)) hin24 (g := (mkF m 46 #[.val (.int p0), .val (.long q1), .second, .val (.long q2), .second, .val (.long q3), .second, .val (.long q4), .second, .val (.int (3 : Int32)), .val (.ref b18), .unset, .unset, .unset] [(.long q3), (.int (2 : Int32)), (.ref b18)])) rfl rfl (hb hby at_46)
    have V24 : Arv Z h24 b18 k18 .long (3 : Int32) [(.long q1), (.long q2), (.long q3)] (.long (0 : Int64)) := Arv.set Ar23 Aq23 AS23 AN23 AH23 AG23 rfl W24 2 rfl (Nat.le_of_ble_eq_true rfl)
    have N24 := Fr.snoc X24 N22 g_b18
    have Z24 : n0 ≤ h24.size := Nat.le_trans Z22 (Keep.of_wr W24).1
    refine own_go st24 ?_
    show own_Go p.tables e below _ (T24.setTop (mkF m 47 #[.val (.int p0), .val (.long q1), .second, .val (.long q2), .second, .val (.long q3), .second, .val (.long q4), .second, .val (.int (3 : Int32)), .val (.ref b18), .unset, .unset, .unset] []))
    refine own_go (fun _ k => XS.iload X24.here hx rfl (hb hby at_47) rfl k) ?_
    show own_Go p.tables e below _ (T24.setTop (mkF m 49 #[.val (.int p0), .val (.long q1), .second, .val (.long q2), .second, .val (.long q3), .second, .val (.long q4), .second, .val (.int (3 : Int32)), .val (.ref b18), .unset, .unset, .unset] [(.int (3 : Int32))]))
    refine own_go (fun _ k => XS.iconst X24.here hx rfl (hb hby at_49) k) ?_
    show own_Go p.tables e below _ (T24.setTop (mkF m 50 #[.val (.int p0), .val (.long q1), .second, .val (.long q2), .second, .val (.long q3), .second, .val (.long q4), .second, .val (.int (3 : Int32)), .val (.ref b18), .unset, .unset, .unset] [(.int (3 : Int32)), (.int (3 : Int32))]))
    have hf50 : ¬ ((3 : Int32) < (3 : Int32)) := by decide
    refine own_go (fun _ k => XS.icmpYes X24.here hx rfl (pc0 := 50) (pc' := 59) rfl (hb hby at_50) rfl (flt hf50).2.2.2 (by decide) (by decide) k) ?_
    show own_Go p.tables e below _ (T24.setTop (mkF m 59 #[.val (.int p0), .val (.long q1), .second, .val (.long q2), .second, .val (.long q3), .second, .val (.long q4), .second, .val (.int (3 : Int32)), .val (.ref b18), .unset, .unset, .unset] []))
    refine own_go (fun _ k => XS.iload X24.here hx rfl (hb hby at_59) rfl k) ?_
    show own_Go p.tables e below _ (T24.setTop (mkF m 61 #[.val (.int p0), .val (.long q1), .second, .val (.long q2), .second, .val (.long q3), .second, .val (.long q4), .second, .val (.int (3 : Int32)), .val (.ref b18), .unset, .unset, .unset] [(.int (3 : Int32))]))
    refine own_go (fun _ k => XS.iconst X24.here hx rfl (hb hby at_61) k) ?_
    show own_Go p.tables e below _ (T24.setTop (mkF m 62 #[.val (.int p0), .val (.long q1), .second, .val (.long q2), .second, .val (.long q3), .second, .val (.long q4), .second, .val (.int (3 : Int32)), .val (.ref b18), .unset, .unset, .unset] [(.int (1 : Int32)), (.int (3 : Int32))]))
    have hf62 : ¬ ((3 : Int32) < (1 : Int32)) := by decide
    refine own_go (fun _ k => XS.icmpNo X24.here hx rfl (hb hby at_62) rfl (flt hf62).1 k) ?_
    show own_Go p.tables e below _ (T24.setTop (mkF m 65 #[.val (.int p0), .val (.long q1), .second, .val (.long q2), .second, .val (.long q3), .second, .val (.long q4), .second, .val (.int (3 : Int32)), .val (.ref b18), .unset, .unset, .unset] []))
    refine own_go (fun _ k => XS.lloadN X24.here hx rfl (hb hby at_65) rfl k) ?_
    show own_Go p.tables e below _ (T24.setTop (mkF m 66 #[.val (.int p0), .val (.long q1), .second, .val (.long q2), .second, .val (.long q3), .second, .val (.long q4), .second, .val (.int (3 : Int32)), .val (.ref b18), .unset, .unset, .unset] [(.long q1)]))
    refine own_go (fun _ k => XS.lconst X24.here hx rfl (hb hby at_66) k) ?_
    show own_Go p.tables e below _ (T24.setTop (mkF m 67 #[.val (.int p0), .val (.long q1), .second, .val (.long q2), .second, .val (.long q3), .second, .val (.long q4), .second, .val (.int (3 : Int32)), .val (.ref b18), .unset, .unset, .unset] [(.long (0 : Int64)), (.long q1)]))
    refine own_go (fun _ k => XS.lcmp X24.here hx rfl (hb hby at_67) rfl k) ?_
    show own_Go p.tables e below _ (T24.setTop (mkF m 68 #[.val (.int p0), .val (.long q1), .second, .val (.long q2), .second, .val (.long q3), .second, .val (.long q4), .second, .val (.int (3 : Int32)), .val (.ref b18), .unset, .unset, .unset] [(.int (lcmpW q1 (0 : Int64)))]))
    have sg25 : ∀ t, Steps p.tables e below (T24.setTop (mkF m 114 #[.val (.int p0), .val (.long q1), .second, .val (.long q2), .second, .val (.long q3), .second, .val (.long q4), .second, .val (.int (3 : Int32)), .val (.ref b18), .unset, .unset, .unset] [(.int (if q1 = (0 : Int64) then (if q2 = (0 : Int64) then (if q3 = (0 : Int64) then (1 : Int32) else (0 : Int32)) else (0 : Int32)) else (0 : Int32)))])) t → Steps p.tables e below (T24.setTop (mkF m 68 #[.val (.int p0), .val (.long q1), .second, .val (.long q2), .second, .val (.long q3), .second, .val (.long q4), .second, .val (.int (3 : Int32)), .val (.ref b18), .unset, .unset, .unset] [(.int (lcmpW q1 (0 : Int64)))])) t := by
      intro t k
      by_cases hc68 : q1 = (0 : Int64)
      · try simp only [if_pos hc68] at k
        refine XS.ifNo X24.here hx rfl (hb hby at_68) rfl ((if0 _ _).trans (teq ((lw_eq q1 (0 : Int64)).mpr hc68)).2) ?_
        show Steps p.tables e below (T24.setTop (mkF m 71 #[.val (.int p0), .val (.long q1), .second, .val (.long q2), .second, .val (.long q3), .second, .val (.long q4), .second, .val (.int (3 : Int32)), .val (.ref b18), .unset, .unset, .unset] [])) _
        refine XS.iload X24.here hx rfl (hb hby at_71) rfl ?_
        show Steps p.tables e below (T24.setTop (mkF m 73 #[.val (.int p0), .val (.long q1), .second, .val (.long q2), .second, .val (.long q3), .second, .val (.long q4), .second, .val (.int (3 : Int32)), .val (.ref b18), .unset, .unset, .unset] [(.int (3 : Int32))])) _
        refine XS.iconst X24.here hx rfl (hb hby at_73) ?_
        show Steps p.tables e below (T24.setTop (mkF m 74 #[.val (.int p0), .val (.long q1), .second, .val (.long q2), .second, .val (.long q3), .second, .val (.long q4), .second, .val (.int (3 : Int32)), .val (.ref b18), .unset, .unset, .unset] [(.int (2 : Int32)), (.int (3 : Int32))])) _
        have hf74 : ¬ ((3 : Int32) < (2 : Int32)) := by decide
        refine XS.icmpNo X24.here hx rfl (hb hby at_74) rfl (flt hf74).1 ?_
        show Steps p.tables e below (T24.setTop (mkF m 77 #[.val (.int p0), .val (.long q1), .second, .val (.long q2), .second, .val (.long q3), .second, .val (.long q4), .second, .val (.int (3 : Int32)), .val (.ref b18), .unset, .unset, .unset] [])) _
        refine XS.lloadN X24.here hx rfl (hb hby at_77) rfl ?_
        show Steps p.tables e below (T24.setTop (mkF m 78 #[.val (.int p0), .val (.long q1), .second, .val (.long q2), .second, .val (.long q3), .second, .val (.long q4), .second, .val (.int (3 : Int32)), .val (.ref b18), .unset, .unset, .unset] [(.long q2)])) _
        refine XS.lconst X24.here hx rfl (hb hby at_78) ?_
        show Steps p.tables e below (T24.setTop (mkF m 79 #[.val (.int p0), .val (.long q1), .second, .val (.long q2), .second, .val (.long q3), .second, .val (.long q4), .second, .val (.int (3 : Int32)), .val (.ref b18), .unset, .unset, .unset] [(.long (0 : Int64)), (.long q2)])) _
        refine XS.lcmp X24.here hx rfl (hb hby at_79) rfl ?_
        show Steps p.tables e below (T24.setTop (mkF m 80 #[.val (.int p0), .val (.long q1), .second, .val (.long q2), .second, .val (.long q3), .second, .val (.long q4), .second, .val (.int (3 : Int32)), .val (.ref b18), .unset, .unset, .unset] [(.int (lcmpW q2 (0 : Int64)))])) _
        by_cases hc80 : q2 = (0 : Int64)
        · try simp only [if_pos hc80] at k
          refine XS.ifNo X24.here hx rfl (hb hby at_80) rfl ((if0 _ _).trans (teq ((lw_eq q2 (0 : Int64)).mpr hc80)).2) ?_
          show Steps p.tables e below (T24.setTop (mkF m 83 #[.val (.int p0), .val (.long q1), .second, .val (.long q2), .second, .val (.long q3), .second, .val (.long q4), .second, .val (.int (3 : Int32)), .val (.ref b18), .unset, .unset, .unset] [])) _
          refine XS.iload X24.here hx rfl (hb hby at_83) rfl ?_
          show Steps p.tables e below (T24.setTop (mkF m 85 #[.val (.int p0), .val (.long q1), .second, .val (.long q2), .second, .val (.long q3), .second, .val (.long q4), .second, .val (.int (3 : Int32)), .val (.ref b18), .unset, .unset, .unset] [(.int (3 : Int32))])) _
          refine XS.iconst X24.here hx rfl (hb hby at_85) ?_
          show Steps p.tables e below (T24.setTop (mkF m 86 #[.val (.int p0), .val (.long q1), .second, .val (.long q2), .second, .val (.long q3), .second, .val (.long q4), .second, .val (.int (3 : Int32)), .val (.ref b18), .unset, .unset, .unset] [(.int (3 : Int32)), (.int (3 : Int32))])) _
          have hf86 : ¬ ((3 : Int32) < (3 : Int32)) := by decide
          refine XS.icmpNo X24.here hx rfl (hb hby at_86) rfl (flt hf86).1 ?_
          show Steps p.tables e below (T24.setTop (mkF m 89 #[.val (.int p0), .val (.long q1), .second, .val (.long q2), .second, .val (.long q3), .second, .val (.long q4), .second, .val (.int (3 : Int32)), .val (.ref b18), .unset, .unset, .unset] [])) _
          refine XS.lload X24.here hx rfl (hb hby at_89) rfl ?_
          show Steps p.tables e below (T24.setTop (mkF m 91 #[.val (.int p0), .val (.long q1), .second, .val (.long q2), .second, .val (.long q3), .second, .val (.long q4), .second, .val (.int (3 : Int32)), .val (.ref b18), .unset, .unset, .unset] [(.long q3)])) _
          refine XS.lconst X24.here hx rfl (hb hby at_91) ?_
          show Steps p.tables e below (T24.setTop (mkF m 92 #[.val (.int p0), .val (.long q1), .second, .val (.long q2), .second, .val (.long q3), .second, .val (.long q4), .second, .val (.int (3 : Int32)), .val (.ref b18), .unset, .unset, .unset] [(.long (0 : Int64)), (.long q3)])) _
          refine XS.lcmp X24.here hx rfl (hb hby at_92) rfl ?_
          show Steps p.tables e below (T24.setTop (mkF m 93 #[.val (.int p0), .val (.long q1), .second, .val (.long q2), .second, .val (.long q3), .second, .val (.long q4), .second, .val (.int (3 : Int32)), .val (.ref b18), .unset, .unset, .unset] [(.int (lcmpW q3 (0 : Int64)))])) _
          by_cases hc93 : q3 = (0 : Int64)
          · try simp only [if_pos hc93] at k
            refine XS.ifNo X24.here hx rfl (hb hby at_93) rfl ((if0 _ _).trans (teq ((lw_eq q3 (0 : Int64)).mpr hc93)).2) ?_
            show Steps p.tables e below (T24.setTop (mkF m 96 #[.val (.int p0), .val (.long q1), .second, .val (.long q2), .second, .val (.long q3), .second, .val (.long q4), .second, .val (.int (3 : Int32)), .val (.ref b18), .unset, .unset, .unset] [])) _
            refine XS.iload X24.here hx rfl (hb hby at_96) rfl ?_
            show Steps p.tables e below (T24.setTop (mkF m 98 #[.val (.int p0), .val (.long q1), .second, .val (.long q2), .second, .val (.long q3), .second, .val (.long q4), .second, .val (.int (3 : Int32)), .val (.ref b18), .unset, .unset, .unset] [(.int (3 : Int32))])) _
            refine XS.iconst X24.here hx rfl (hb hby at_98) ?_
            show Steps p.tables e below (T24.setTop (mkF m 99 #[.val (.int p0), .val (.long q1), .second, .val (.long q2), .second, .val (.long q3), .second, .val (.long q4), .second, .val (.int (3 : Int32)), .val (.ref b18), .unset, .unset, .unset] [(.int (4 : Int32)), (.int (3 : Int32))])) _
            have hf99 : (3 : Int32) < (4 : Int32) := by decide
            refine XS.icmpYes X24.here hx rfl (pc0 := 99) (pc' := 109) rfl (hb hby at_99) rfl (tlt hf99).1 (by decide) (by decide) ?_
            show Steps p.tables e below (T24.setTop (mkF m 109 #[.val (.int p0), .val (.long q1), .second, .val (.long q2), .second, .val (.long q3), .second, .val (.long q4), .second, .val (.int (3 : Int32)), .val (.ref b18), .unset, .unset, .unset] [])) _
            refine XS.iconst X24.here hx rfl (hb hby at_109) ?_
            show Steps p.tables e below (T24.setTop (mkF m 110 #[.val (.int p0), .val (.long q1), .second, .val (.long q2), .second, .val (.long q3), .second, .val (.long q4), .second, .val (.int (3 : Int32)), .val (.ref b18), .unset, .unset, .unset] [(.int (1 : Int32))])) _
            refine XS.goto X24.here hx rfl (pc0 := 110) (pc' := 114) rfl (hb hby at_110) (by decide) (by decide) ?_
            show Steps p.tables e below (T24.setTop (mkF m 114 #[.val (.int p0), .val (.long q1), .second, .val (.long q2), .second, .val (.long q3), .second, .val (.long q4), .second, .val (.int (3 : Int32)), .val (.ref b18), .unset, .unset, .unset] [(.int (1 : Int32))])) _
            exact k
          · try simp only [if_neg hc93] at k
            refine XS.ifYes X24.here hx rfl (pc0 := 93) (pc' := 113) rfl (hb hby at_93) rfl ((if0 _ _).trans (feq (mt (lw_eq q3 (0 : Int64)).mp hc93)).2) (by decide) (by decide) ?_
            show Steps p.tables e below (T24.setTop (mkF m 113 #[.val (.int p0), .val (.long q1), .second, .val (.long q2), .second, .val (.long q3), .second, .val (.long q4), .second, .val (.int (3 : Int32)), .val (.ref b18), .unset, .unset, .unset] [])) _
            refine XS.iconst X24.here hx rfl (hb hby at_113) ?_
            show Steps p.tables e below (T24.setTop (mkF m 114 #[.val (.int p0), .val (.long q1), .second, .val (.long q2), .second, .val (.long q3), .second, .val (.long q4), .second, .val (.int (3 : Int32)), .val (.ref b18), .unset, .unset, .unset] [(.int (0 : Int32))])) _
            exact k
        · try simp only [if_neg hc80] at k
          refine XS.ifYes X24.here hx rfl (pc0 := 80) (pc' := 113) rfl (hb hby at_80) rfl ((if0 _ _).trans (feq (mt (lw_eq q2 (0 : Int64)).mp hc80)).2) (by decide) (by decide) ?_
          show Steps p.tables e below (T24.setTop (mkF m 113 #[.val (.int p0), .val (.long q1), .second, .val (.long q2), .second, .val (.long q3), .second, .val (.long q4), .second, .val (.int (3 : Int32)), .val (.ref b18), .unset, .unset, .unset] [])) _
          refine XS.iconst X24.here hx rfl (hb hby at_113) ?_
          show Steps p.tables e below (T24.setTop (mkF m 114 #[.val (.int p0), .val (.long q1), .second, .val (.long q2), .second, .val (.long q3), .second, .val (.long q4), .second, .val (.int (3 : Int32)), .val (.ref b18), .unset, .unset, .unset] [(.int (0 : Int32))])) _
          exact k
      · try simp only [if_neg hc68] at k
        refine XS.ifYes X24.here hx rfl (pc0 := 68) (pc' := 113) rfl (hb hby at_68) rfl ((if0 _ _).trans (feq (mt (lw_eq q1 (0 : Int64)).mp hc68)).2) (by decide) (by decide) ?_
        show Steps p.tables e below (T24.setTop (mkF m 113 #[.val (.int p0), .val (.long q1), .second, .val (.long q2), .second, .val (.long q3), .second, .val (.long q4), .second, .val (.int (3 : Int32)), .val (.ref b18), .unset, .unset, .unset] [])) _
        refine XS.iconst X24.here hx rfl (hb hby at_113) ?_
        show Steps p.tables e below (T24.setTop (mkF m 114 #[.val (.int p0), .val (.long q1), .second, .val (.long q2), .second, .val (.long q3), .second, .val (.long q4), .second, .val (.int (3 : Int32)), .val (.ref b18), .unset, .unset, .unset] [(.int (0 : Int32))])) _
        exact k
    refine own_go sg25 ?_
    show own_Go p.tables e below _ (T24.setTop (mkF m 114 #[.val (.int p0), .val (.long q1), .second, .val (.long q2), .second, .val (.long q3), .second, .val (.long q4), .second, .val (.int (3 : Int32)), .val (.ref b18), .unset, .unset, .unset] [(.int (if q1 = (0 : Int64) then (if q2 = (0 : Int64) then (if q3 = (0 : Int64) then (1 : Int32) else (0 : Int32)) else (0 : Int32)) else (0 : Int32)))]))
    refine own_go (fun _ k => XS.istore X24.here hx rfl (hb hby at_114) rfl (l' := #[.val (.int p0), .val (.long q1), .second, .val (.long q2), .second, .val (.long q3), .second, .val (.long q4), .second, .val (.int (3 : Int32)), .val (.ref b18), .val (.int (if q1 = (0 : Int64) then (if q2 = (0 : Int64) then (if q3 = (0 : Int64) then (1 : Int32) else (0 : Int32)) else (0 : Int32)) else (0 : Int32))), .unset, .unset]) rfl k) ?_
    show own_Go p.tables e below _ (T24.setTop (mkF m 116 #[.val (.int p0), .val (.long q1), .second, .val (.long q2), .second, .val (.long q3), .second, .val (.long q4), .second, .val (.int (3 : Int32)), .val (.ref b18), .val (.int (if q1 = (0 : Int64) then (if q2 = (0 : Int64) then (if q3 = (0 : Int64) then (1 : Int32) else (0 : Int32)) else (0 : Int32)) else (0 : Int32))), .unset, .unset] []))
    refine own_go (fun _ k => XS.aload X24.here hx rfl (hb hby at_116) rfl rfl k) ?_
    show own_Go p.tables e below _ (T24.setTop (mkF m 118 #[.val (.int p0), .val (.long q1), .second, .val (.long q2), .second, .val (.long q3), .second, .val (.long q4), .second, .val (.int (3 : Int32)), .val (.ref b18), .val (.int (if q1 = (0 : Int64) then (if q2 = (0 : Int64) then (if q3 = (0 : Int64) then (1 : Int32) else (0 : Int32)) else (0 : Int32)) else (0 : Int32))), .unset, .unset] [(.ref b18)]))
    obtain ⟨_, _, ⟨T26, L26, k26, n26⟩, -, X26, ⟨Lc26, hQ26, l26, y26, z26⟩, st26⟩ := Jvm.LawKit.callS X24 hx (y := (⟨"com/example/meshwright/meshwright/plan/PathCrossings", "empty", "([J)Z"⟩ : MethodName)) hown (mvT hZ (hw _ (List.mem_of_getElem? (i := 2) rfl))) (mvT hZ (hw _ (List.mem_of_getElem? (i := 3) rfl))) (mvT hZ (hw _ (List.mem_of_getElem? (i := 4) rfl))) (mvT hZ (hw _ (List.mem_of_getElem? (i := 5) rfl))) (by decide) (backOf (W := 0) (rm1_3 l Z az hw [] b18 k18 q1 q2 q3 h24 n0 Z24 V24) hZ (hw _ (List.mem_of_getElem? (i := 5) rfl)) (hw _ (List.mem_of_getElem? (i := 4) rfl)) (by decide) (by decide)) (g := (mkF m 118 #[.val (.int p0), .val (.long q1), .second, .val (.long q2), .second, .val (.long q3), .second, .val (.long q4), .second, .val (.int (3 : Int32)), .val (.ref b18), .val (.int (if q1 = (0 : Int64) then (if q2 = (0 : Int64) then (if q3 = (0 : Int64) then (1 : Int32) else (0 : Int32)) else (0 : Int32)) else (0 : Int32))), .unset, .unset] [(.ref b18)])) rfl (by rw [hml]; rfl) (argsL := [(.ref b18)]) (rest := []) (lenOf pd0_0 rfl) rfl (by show 2 * 0 + _ ≤ _; exact Nat.le_of_eq rfl) (hb hby at_118) (fun _ _ => ⟨rfl, e24, (by decide : 1 + 0 ≤ _), (by decide : 3 + 0 ≤ _)⟩)
    dsimp only [Pt.U, Pt.locs, Pt.cells, Pt.slots] at X26 l26 y26 z26 st26 hQ26
    subst l26 y26 z26
    refine own_go st26 ?_
    obtain ⟨rfl, N26q, e26⟩ := hQ26
    have N26 := Fr.app N24 N26q
    show own_Go p.tables e below _ (T26.setTop (mkF m 121 #[.val (.int p0), .val (.long q1), .second, .val (.long q2), .second, .val (.long q3), .second, .val (.long q4), .second, .val (.int (3 : Int32)), .val (.ref b18), .val (.int (if q1 = (0 : Int64) then (if q2 = (0 : Int64) then (if q3 = (0 : Int64) then (1 : Int32) else (0 : Int32)) else (0 : Int32)) else (0 : Int32))), .unset, .unset] [(.int (own_f1_3 q1 q2 q3))]))
    refine own_go (fun _ k => XS.istore X26.here hx rfl (hb hby at_121) rfl (l' := #[.val (.int p0), .val (.long q1), .second, .val (.long q2), .second, .val (.long q3), .second, .val (.long q4), .second, .val (.int (3 : Int32)), .val (.ref b18), .val (.int (if q1 = (0 : Int64) then (if q2 = (0 : Int64) then (if q3 = (0 : Int64) then (1 : Int32) else (0 : Int32)) else (0 : Int32)) else (0 : Int32))), .val (.int (own_f1_3 q1 q2 q3)), .unset]) rfl k) ?_
    show own_Go p.tables e below _ (T26.setTop (mkF m 123 #[.val (.int p0), .val (.long q1), .second, .val (.long q2), .second, .val (.long q3), .second, .val (.long q4), .second, .val (.int (3 : Int32)), .val (.ref b18), .val (.int (if q1 = (0 : Int64) then (if q2 = (0 : Int64) then (if q3 = (0 : Int64) then (1 : Int32) else (0 : Int32)) else (0 : Int32)) else (0 : Int32))), .val (.int (own_f1_3 q1 q2 q3)), .unset] []))
    refine own_go (fun _ k => XS.iload X26.here hx rfl (hb hby at_123) rfl k) ?_
    show own_Go p.tables e below _ (T26.setTop (mkF m 125 #[.val (.int p0), .val (.long q1), .second, .val (.long q2), .second, .val (.long q3), .second, .val (.long q4), .second, .val (.int (3 : Int32)), .val (.ref b18), .val (.int (if q1 = (0 : Int64) then (if q2 = (0 : Int64) then (if q3 = (0 : Int64) then (1 : Int32) else (0 : Int32)) else (0 : Int32)) else (0 : Int32))), .val (.int (own_f1_3 q1 q2 q3)), .unset] [(.int (3 : Int32))]))
    refine own_go (fun _ k => XS.iconst X26.here hx rfl (hb hby at_125) k) ?_
    show own_Go p.tables e below _ (T26.setTop (mkF m 126 #[.val (.int p0), .val (.long q1), .second, .val (.long q2), .second, .val (.long q3), .second, .val (.long q4), .second, .val (.int (3 : Int32)), .val (.ref b18), .val (.int (if q1 = (0 : Int64) then (if q2 = (0 : Int64) then (if q3 = (0 : Int64) then (1 : Int32) else (0 : Int32)) else (0 : Int32)) else (0 : Int32))), .val (.int (own_f1_3 q1 q2 q3)), .unset] [(.int (1 : Int32)), (.int (3 : Int32))]))
    have hf126 : ¬ ((3 : Int32) < (1 : Int32)) := by decide
    refine own_go (fun _ k => XS.icmpNo X26.here hx rfl (hb hby at_126) rfl (flt hf126).1 k) ?_
    show own_Go p.tables e below _ (T26.setTop (mkF m 129 #[.val (.int p0), .val (.long q1), .second, .val (.long q2), .second, .val (.long q3), .second, .val (.long q4), .second, .val (.int (3 : Int32)), .val (.ref b18), .val (.int (if q1 = (0 : Int64) then (if q2 = (0 : Int64) then (if q3 = (0 : Int64) then (1 : Int32) else (0 : Int32)) else (0 : Int32)) else (0 : Int32))), .val (.int (own_f1_3 q1 q2 q3)), .unset] []))
    refine own_go (fun _ k => XS.aload X26.here hx rfl (hb hby at_129) rfl rfl k) ?_
    show own_Go p.tables e below _ (T26.setTop (mkF m 131 #[.val (.int p0), .val (.long q1), .second, .val (.long q2), .second, .val (.long q3), .second, .val (.long q4), .second, .val (.int (3 : Int32)), .val (.ref b18), .val (.int (if q1 = (0 : Int64) then (if q2 = (0 : Int64) then (if q3 = (0 : Int64) then (1 : Int32) else (0 : Int32)) else (0 : Int32)) else (0 : Int32))), .val (.int (own_f1_3 q1 q2 q3)), .unset] [(.ref b18)]))
    refine own_go (fun _ k => XS.iconst X26.here hx rfl (hb hby at_131) k) ?_
    show own_Go p.tables e below _ (T26.setTop (mkF m 132 #[.val (.int p0), .val (.long q1), .second, .val (.long q2), .second, .val (.long q3), .second, .val (.long q4), .second, .val (.int (3 : Int32)), .val (.ref b18), .val (.int (if q1 = (0 : Int64) then (if q2 = (0 : Int64) then (if q3 = (0 : Int64) then (1 : Int32) else (0 : Int32)) else (0 : Int32)) else (0 : Int32))), .val (.int (own_f1_3 q1 q2 q3)), .unset] [(.int (0 : Int32)), (.ref b18)]))
    have vo27 := V24
    obtain ⟨cl27, Ar27, Aq27, AS27, AN27, AH27, AG27⟩ := vo27
    have hin27 : ¬ ((0 : Int32) < 0 ∨ cl27.slots.size ≤ ((0 : Int32)).toNatClampNeg) := inb_of AS27 ⟨by decide, by decide⟩
    have hat27 : cl27.slots[((0 : Int32)).toNatClampNeg]? = some (.long q1) := Has.at AH27 hin27 rfl
    refine own_go (fun _ k => X26.laload hx (j := (0 : Int32)) (v := (.long q1)) (by rw [(e26 : T26.heap = h24)]; exact Ar27.1) (State.isArrayOf_alike hZ.alike Ar27.2.1) Ar27.2.2 hin27 hat27 (g := (mkF m 132 #[.val (.int p0), .val (.long q1), .second, .val (.long q2), .second, .val (.long q3), .second, .val (.long q4), .second, .val (.int (3 : Int32)), .val (.ref b18), .val (.int (if q1 = (0 : Int64) then (if q2 = (0 : Int64) then (if q3 = (0 : Int64) then (1 : Int32) else (0 : Int32)) else (0 : Int32)) else (0 : Int32))), .val (.int (own_f1_3 q1 q2 q3)), .unset] [(.int (0 : Int32)), (.ref b18)])) rfl rfl (hb hby at_132) _ k) ?_
    show own_Go p.tables e below _ (T26.setTop (mkF m 133 #[.val (.int p0), .val (.long q1), .second, .val (.long q2), .second, .val (.long q3), .second, .val (.long q4), .second, .val (.int (3 : Int32)), .val (.ref b18), .val (.int (if q1 = (0 : Int64) then (if q2 = (0 : Int64) then (if q3 = (0 : Int64) then (1 : Int32) else (0 : Int32)) else (0 : Int32)) else (0 : Int32))), .val (.int (own_f1_3 q1 q2 q3)), .unset] [(.long q1)]))
    refine own_go (fun _ k => XS.lloadN X26.here hx rfl (hb hby at_133) rfl k) ?_
    show own_Go p.tables e below _ (T26.setTop (mkF m 134 #[.val (.int p0), .val (.long q1), .second, .val (.long q2), .second, .val (.long q3), .second, .val (.long q4), .second, .val (.int (3 : Int32)), .val (.ref b18), .val (.int (if q1 = (0 : Int64) then (if q2 = (0 : Int64) then (if q3 = (0 : Int64) then (1 : Int32) else (0 : Int32)) else (0 : Int32)) else (0 : Int32))), .val (.int (own_f1_3 q1 q2 q3)), .unset] [(.long q1), (.long q1)]))
    refine own_go (fun _ k => XS.lcmp X26.here hx rfl (hb hby at_134) rfl k) ?_
    show own_Go p.tables e below _ (T26.setTop (mkF m 135 #[.val (.int p0), .val (.long q1), .second, .val (.long q2), .second, .val (.long q3), .second, .val (.long q4), .second, .val (.int (3 : Int32)), .val (.ref b18), .val (.int (if q1 = (0 : Int64) then (if q2 = (0 : Int64) then (if q3 = (0 : Int64) then (1 : Int32) else (0 : Int32)) else (0 : Int32)) else (0 : Int32))), .val (.int (own_f1_3 q1 q2 q3)), .unset] [(.int (lcmpW q1 q1))]))
    have hf135 : q1 = q1 := rfl
    refine own_go (fun _ k => XS.ifNo X26.here hx rfl (hb hby at_135) rfl ((if0 _ _).trans (teq ((lw_eq q1 q1).mpr hf135)).2) k) ?_
    show own_Go p.tables e below _ (T26.setTop (mkF m 138 #[.val (.int p0), .val (.long q1), .second, .val (.long q2), .second, .val (.long q3), .second, .val (.long q4), .second, .val (.int (3 : Int32)), .val (.ref b18), .val (.int (if q1 = (0 : Int64) then (if q2 = (0 : Int64) then (if q3 = (0 : Int64) then (1 : Int32) else (0 : Int32)) else (0 : Int32)) else (0 : Int32))), .val (.int (own_f1_3 q1 q2 q3)), .unset] []))
    refine own_go (fun _ k => XS.iload X26.here hx rfl (hb hby at_138) rfl k) ?_
    show own_Go p.tables e below _ (T26.setTop (mkF m 140 #[.val (.int p0), .val (.long q1), .second, .val (.long q2), .second, .val (.long q3), .second, .val (.long q4), .second, .val (.int (3 : Int32)), .val (.ref b18), .val (.int (if q1 = (0 : Int64) then (if q2 = (0 : Int64) then (if q3 = (0 : Int64) then (1 : Int32) else (0 : Int32)) else (0 : Int32)) else (0 : Int32))), .val (.int (own_f1_3 q1 q2 q3)), .unset] [(.int (3 : Int32))]))
    refine own_go (fun _ k => XS.iconst X26.here hx rfl (hb hby at_140) k) ?_
    show own_Go p.tables e below _ (T26.setTop (mkF m 141 #[.val (.int p0), .val (.long q1), .second, .val (.long q2), .second, .val (.long q3), .second, .val (.long q4), .second, .val (.int (3 : Int32)), .val (.ref b18), .val (.int (if q1 = (0 : Int64) then (if q2 = (0 : Int64) then (if q3 = (0 : Int64) then (1 : Int32) else (0 : Int32)) else (0 : Int32)) else (0 : Int32))), .val (.int (own_f1_3 q1 q2 q3)), .unset] [(.int (2 : Int32)), (.int (3 : Int32))]))
    have hf141 : ¬ ((3 : Int32) < (2 : Int32)) := by decide
    refine own_go (fun _ k => XS.icmpNo X26.here hx rfl (hb hby at_141) rfl (flt hf141).1 k) ?_
    show own_Go p.tables e below _ (T26.setTop (mkF m 144 #[.val (.int p0), .val (.long q1), .second, .val (.long q2), .second, .val (.long q3), .second, .val (.long q4), .second, .val (.int (3 : Int32)), .val (.ref b18), .val (.int (if q1 = (0 : Int64) then (if q2 = (0 : Int64) then (if q3 = (0 : Int64) then (1 : Int32) else (0 : Int32)) else (0 : Int32)) else (0 : Int32))), .val (.int (own_f1_3 q1 q2 q3)), .unset] []))
    refine own_go (fun _ k => XS.aload X26.here hx rfl (hb hby at_144) rfl rfl k) ?_
    show own_Go p.tables e below _ (T26.setTop (mkF m 146 #[.val (.int p0), .val (.long q1), .second, .val (.long q2), .second, .val (.long q3), .second, .val (.long q4), .second, .val (.int (3 : Int32)), .val (.ref b18), .val (.int (if q1 = (0 : Int64) then (if q2 = (0 : Int64) then (if q3 = (0 : Int64) then (1 : Int32) else (0 : Int32)) else (0 : Int32)) else (0 : Int32))), .val (.int (own_f1_3 q1 q2 q3)), .unset] [(.ref b18)]))
    refine own_go (fun _ k => XS.iconst X26.here hx rfl (hb hby at_146) k) ?_
    show own_Go p.tables e below _ (T26.setTop (mkF m 147 #[.val (.int p0), .val (.long q1), .second, .val (.long q2), .second, .val (.long q3), .second, .val (.long q4), .second, .val (.int (3 : Int32)), .val (.ref b18), .val (.int (if q1 = (0 : Int64) then (if q2 = (0 : Int64) then (if q3 = (0 : Int64) then (1 : Int32) else (0 : Int32)) else (0 : Int32)) else (0 : Int32))), .val (.int (own_f1_3 q1 q2 q3)), .unset] [(.int (1 : Int32)), (.ref b18)]))
    have vo28 := V24
    obtain ⟨cl28, Ar28, Aq28, AS28, AN28, AH28, AG28⟩ := vo28
    have hin28 : ¬ ((1 : Int32) < 0 ∨ cl28.slots.size ≤ ((1 : Int32)).toNatClampNeg) := inb_of AS28 ⟨by decide, by decide⟩
    have hat28 : cl28.slots[((1 : Int32)).toNatClampNeg]? = some (.long q2) := Has.at AH28 hin28 rfl
    refine own_go (fun _ k => X26.laload hx (j := (1 : Int32)) (v := (.long q2)) (by rw [(e26 : T26.heap = h24)]; exact Ar28.1) (State.isArrayOf_alike hZ.alike Ar28.2.1) Ar28.2.2 hin28 hat28 (g := (mkF m 147 #[.val (.int p0), .val (.long q1), .second, .val (.long q2), .second, .val (.long q3), .second, .val (.long q4), .second, .val (.int (3 : Int32)), .val (.ref b18), .val (.int (if q1 = (0 : Int64) then (if q2 = (0 : Int64) then (if q3 = (0 : Int64) then (1 : Int32) else (0 : Int32)) else (0 : Int32)) else (0 : Int32))), .val (.int (own_f1_3 q1 q2 q3)), .unset] [(.int (1 : Int32)), (.ref b18)])) rfl rfl (hb hby at_147) _ k) ?_
    show own_Go p.tables e below _ (T26.setTop (mkF m 148 #[.val (.int p0), .val (.long q1), .second, .val (.long q2), .second, .val (.long q3), .second, .val (.long q4), .second, .val (.int (3 : Int32)), .val (.ref b18), .val (.int (if q1 = (0 : Int64) then (if q2 = (0 : Int64) then (if q3 = (0 : Int64) then (1 : Int32) else (0 : Int32)) else (0 : Int32)) else (0 : Int32))), .val (.int (own_f1_3 q1 q2 q3)), .unset] [(.long q2)]))
    refine own_go (fun _ k => XS.lloadN X26.here hx rfl (hb hby at_148) rfl k) ?_
    show own_Go p.tables e below _ (T26.setTop (mkF m 149 #[.val (.int p0), .val (.long q1), .second, .val (.long q2), .second, .val (.long q3), .second, .val (.long q4), .second, .val (.int (3 : Int32)), .val (.ref b18), .val (.int (if q1 = (0 : Int64) then (if q2 = (0 : Int64) then (if q3 = (0 : Int64) then (1 : Int32) else (0 : Int32)) else (0 : Int32)) else (0 : Int32))), .val (.int (own_f1_3 q1 q2 q3)), .unset] [(.long q2), (.long q2)]))
    refine own_go (fun _ k => XS.lcmp X26.here hx rfl (hb hby at_149) rfl k) ?_
    show own_Go p.tables e below _ (T26.setTop (mkF m 150 #[.val (.int p0), .val (.long q1), .second, .val (.long q2), .second, .val (.long q3), .second, .val (.long q4), .second, .val (.int (3 : Int32)), .val (.ref b18), .val (.int (if q1 = (0 : Int64) then (if q2 = (0 : Int64) then (if q3 = (0 : Int64) then (1 : Int32) else (0 : Int32)) else (0 : Int32)) else (0 : Int32))), .val (.int (own_f1_3 q1 q2 q3)), .unset] [(.int (lcmpW q2 q2))]))
    have hf150 : q2 = q2 := rfl
    refine own_go (fun _ k => XS.ifNo X26.here hx rfl (hb hby at_150) rfl ((if0 _ _).trans (teq ((lw_eq q2 q2).mpr hf150)).2) k) ?_
    show own_Go p.tables e below _ (T26.setTop (mkF m 153 #[.val (.int p0), .val (.long q1), .second, .val (.long q2), .second, .val (.long q3), .second, .val (.long q4), .second, .val (.int (3 : Int32)), .val (.ref b18), .val (.int (if q1 = (0 : Int64) then (if q2 = (0 : Int64) then (if q3 = (0 : Int64) then (1 : Int32) else (0 : Int32)) else (0 : Int32)) else (0 : Int32))), .val (.int (own_f1_3 q1 q2 q3)), .unset] []))
    refine own_go (fun _ k => XS.iload X26.here hx rfl (hb hby at_153) rfl k) ?_
    show own_Go p.tables e below _ (T26.setTop (mkF m 155 #[.val (.int p0), .val (.long q1), .second, .val (.long q2), .second, .val (.long q3), .second, .val (.long q4), .second, .val (.int (3 : Int32)), .val (.ref b18), .val (.int (if q1 = (0 : Int64) then (if q2 = (0 : Int64) then (if q3 = (0 : Int64) then (1 : Int32) else (0 : Int32)) else (0 : Int32)) else (0 : Int32))), .val (.int (own_f1_3 q1 q2 q3)), .unset] [(.int (3 : Int32))]))
    refine own_go (fun _ k => XS.iconst X26.here hx rfl (hb hby at_155) k) ?_
    show own_Go p.tables e below _ (T26.setTop (mkF m 156 #[.val (.int p0), .val (.long q1), .second, .val (.long q2), .second, .val (.long q3), .second, .val (.long q4), .second, .val (.int (3 : Int32)), .val (.ref b18), .val (.int (if q1 = (0 : Int64) then (if q2 = (0 : Int64) then (if q3 = (0 : Int64) then (1 : Int32) else (0 : Int32)) else (0 : Int32)) else (0 : Int32))), .val (.int (own_f1_3 q1 q2 q3)), .unset] [(.int (3 : Int32)), (.int (3 : Int32))]))
    have hf156 : ¬ ((3 : Int32) < (3 : Int32)) := by decide
    refine own_go (fun _ k => XS.icmpNo X26.here hx rfl (hb hby at_156) rfl (flt hf156).1 k) ?_
    show own_Go p.tables e below _ (T26.setTop (mkF m 159 #[.val (.int p0), .val (.long q1), .second, .val (.long q2), .second, .val (.long q3), .second, .val (.long q4), .second, .val (.int (3 : Int32)), .val (.ref b18), .val (.int (if q1 = (0 : Int64) then (if q2 = (0 : Int64) then (if q3 = (0 : Int64) then (1 : Int32) else (0 : Int32)) else (0 : Int32)) else (0 : Int32))), .val (.int (own_f1_3 q1 q2 q3)), .unset] []))
    refine own_go (fun _ k => XS.aload X26.here hx rfl (hb hby at_159) rfl rfl k) ?_
    show own_Go p.tables e below _ (T26.setTop (mkF m 161 #[.val (.int p0), .val (.long q1), .second, .val (.long q2), .second, .val (.long q3), .second, .val (.long q4), .second, .val (.int (3 : Int32)), .val (.ref b18), .val (.int (if q1 = (0 : Int64) then (if q2 = (0 : Int64) then (if q3 = (0 : Int64) then (1 : Int32) else (0 : Int32)) else (0 : Int32)) else (0 : Int32))), .val (.int (own_f1_3 q1 q2 q3)), .unset] [(.ref b18)]))
    refine own_go (fun _ k => XS.iconst X26.here hx rfl (hb hby at_161) k) ?_
    show own_Go p.tables e below _ (T26.setTop (mkF m 162 #[.val (.int p0), .val (.long q1), .second, .val (.long q2), .second, .val (.long q3), .second, .val (.long q4), .second, .val (.int (3 : Int32)), .val (.ref b18), .val (.int (if q1 = (0 : Int64) then (if q2 = (0 : Int64) then (if q3 = (0 : Int64) then (1 : Int32) else (0 : Int32)) else (0 : Int32)) else (0 : Int32))), .val (.int (own_f1_3 q1 q2 q3)), .unset] [(.int (2 : Int32)), (.ref b18)]))
    have vo29 := V24
    obtain ⟨cl29, Ar29, Aq29, AS29, AN29, AH29, AG29⟩ := vo29
    have hin29 : ¬ ((2 : Int32) < 0 ∨ cl29.slots.size ≤ ((2 : Int32)).toNatClampNeg) := inb_of AS29 ⟨by decide, by decide⟩
    have hat29 : cl29.slots[((2 : Int32)).toNatClampNeg]? = some (.long q3) := Has.at AH29 hin29 rfl
    refine own_go (fun _ k => X26.laload hx (j := (2 : Int32)) (v := (.long q3)) (by rw [(e26 : T26.heap = h24)]; exact Ar29.1) (State.isArrayOf_alike hZ.alike Ar29.2.1) Ar29.2.2 hin29 hat29 (g := (mkF m 162 #[.val (.int p0), .val (.long q1), .second, .val (.long q2), .second, .val (.long q3), .second, .val (.long q4), .second, .val (.int (3 : Int32)), .val (.ref b18), .val (.int (if q1 = (0 : Int64) then (if q2 = (0 : Int64) then (if q3 = (0 : Int64) then (1 : Int32) else (0 : Int32)) else (0 : Int32)) else (0 : Int32))), .val (.int (own_f1_3 q1 q2 q3)), .unset] [(.int (2 : Int32)), (.ref b18)])) rfl rfl (hb hby at_162) _ k) ?_
    show own_Go p.tables e below _ (T26.setTop (mkF m 163 #[.val (.int p0), .val (.long q1), .second, .val (.long q2), .second, .val (.long q3), .second, .val (.long q4), .second, .val (.int (3 : Int32)), .val (.ref b18), .val (.int (if q1 = (0 : Int64) then (if q2 = (0 : Int64) then (if q3 = (0 : Int64) then (1 : Int32) else (0 : Int32)) else (0 : Int32)) else (0 : Int32))), .val (.int (own_f1_3 q1 q2 q3)), .unset] [(.long q3)]))
    refine own_go (fun _ k => XS.lload X26.here hx rfl (hb hby at_163) rfl k) ?_
    show own_Go p.tables e below _ (T26.setTop (mkF m 165 #[.val (.int p0), .val (.long q1), .second, .val (.long q2), .second, .val (.long q3), .second, .val (.long q4), .second, .val (.int (3 : Int32)), .val (.ref b18), .val (.int (if q1 = (0 : Int64) then (if q2 = (0 : Int64) then (if q3 = (0 : Int64) then (1 : Int32) else (0 : Int32)) else (0 : Int32)) else (0 : Int32))), .val (.int (own_f1_3 q1 q2 q3)), .unset] [(.long q3), (.long q3)]))
    refine own_go (fun _ k => XS.lcmp X26.here hx rfl (hb hby at_165) rfl k) ?_
    show own_Go p.tables e below _ (T26.setTop (mkF m 166 #[.val (.int p0), .val (.long q1), .second, .val (.long q2), .second, .val (.long q3), .second, .val (.long q4), .second, .val (.int (3 : Int32)), .val (.ref b18), .val (.int (if q1 = (0 : Int64) then (if q2 = (0 : Int64) then (if q3 = (0 : Int64) then (1 : Int32) else (0 : Int32)) else (0 : Int32)) else (0 : Int32))), .val (.int (own_f1_3 q1 q2 q3)), .unset] [(.int (lcmpW q3 q3))]))
    have hf166 : q3 = q3 := rfl
    refine own_go (fun _ k => XS.ifNo X26.here hx rfl (hb hby at_166) rfl ((if0 _ _).trans (teq ((lw_eq q3 q3).mpr hf166)).2) k) ?_
    show own_Go p.tables e below _ (T26.setTop (mkF m 169 #[.val (.int p0), .val (.long q1), .second, .val (.long q2), .second, .val (.long q3), .second, .val (.long q4), .second, .val (.int (3 : Int32)), .val (.ref b18), .val (.int (if q1 = (0 : Int64) then (if q2 = (0 : Int64) then (if q3 = (0 : Int64) then (1 : Int32) else (0 : Int32)) else (0 : Int32)) else (0 : Int32))), .val (.int (own_f1_3 q1 q2 q3)), .unset] []))
    refine own_go (fun _ k => XS.iload X26.here hx rfl (hb hby at_169) rfl k) ?_
    show own_Go p.tables e below _ (T26.setTop (mkF m 171 #[.val (.int p0), .val (.long q1), .second, .val (.long q2), .second, .val (.long q3), .second, .val (.long q4), .second, .val (.int (3 : Int32)), .val (.ref b18), .val (.int (if q1 = (0 : Int64) then (if q2 = (0 : Int64) then (if q3 = (0 : Int64) then (1 : Int32) else (0 : Int32)) else (0 : Int32)) else (0 : Int32))), .val (.int (own_f1_3 q1 q2 q3)), .unset] [(.int (3 : Int32))]))
    refine own_go (fun _ k => XS.iconst X26.here hx rfl (hb hby at_171) k) ?_
    show own_Go p.tables e below _ (T26.setTop (mkF m 172 #[.val (.int p0), .val (.long q1), .second, .val (.long q2), .second, .val (.long q3), .second, .val (.long q4), .second, .val (.int (3 : Int32)), .val (.ref b18), .val (.int (if q1 = (0 : Int64) then (if q2 = (0 : Int64) then (if q3 = (0 : Int64) then (1 : Int32) else (0 : Int32)) else (0 : Int32)) else (0 : Int32))), .val (.int (own_f1_3 q1 q2 q3)), .unset] [(.int (4 : Int32)), (.int (3 : Int32))]))
    have hf172 : (3 : Int32) < (4 : Int32) := by decide
    refine own_go (fun _ k => XS.icmpYes X26.here hx rfl (pc0 := 172) (pc' := 185) rfl (hb hby at_172) rfl (tlt hf172).1 (by decide) (by decide) k) ?_
    show own_Go p.tables e below _ (T26.setTop (mkF m 185 #[.val (.int p0), .val (.long q1), .second, .val (.long q2), .second, .val (.long q3), .second, .val (.long q4), .second, .val (.int (3 : Int32)), .val (.ref b18), .val (.int (if q1 = (0 : Int64) then (if q2 = (0 : Int64) then (if q3 = (0 : Int64) then (1 : Int32) else (0 : Int32)) else (0 : Int32)) else (0 : Int32))), .val (.int (own_f1_3 q1 q2 q3)), .unset] []))
    refine own_go (fun _ k => XS.iconst X26.here hx rfl (hb hby at_185) k) ?_
    show own_Go p.tables e below _ (T26.setTop (mkF m 186 #[.val (.int p0), .val (.long q1), .second, .val (.long q2), .second, .val (.long q3), .second, .val (.long q4), .second, .val (.int (3 : Int32)), .val (.ref b18), .val (.int (if q1 = (0 : Int64) then (if q2 = (0 : Int64) then (if q3 = (0 : Int64) then (1 : Int32) else (0 : Int32)) else (0 : Int32)) else (0 : Int32))), .val (.int (own_f1_3 q1 q2 q3)), .unset] [(.int (1 : Int32))]))
    refine own_go (fun _ k => XS.goto X26.here hx rfl (pc0 := 186) (pc' := 190) rfl (hb hby at_186) (by decide) (by decide) k) ?_
    show own_Go p.tables e below _ (T26.setTop (mkF m 190 #[.val (.int p0), .val (.long q1), .second, .val (.long q2), .second, .val (.long q3), .second, .val (.long q4), .second, .val (.int (3 : Int32)), .val (.ref b18), .val (.int (if q1 = (0 : Int64) then (if q2 = (0 : Int64) then (if q3 = (0 : Int64) then (1 : Int32) else (0 : Int32)) else (0 : Int32)) else (0 : Int32))), .val (.int (own_f1_3 q1 q2 q3)), .unset] [(.int (1 : Int32))]))
    refine own_go (fun _ k => XS.istore X26.here hx rfl (hb hby at_190) rfl (l' := #[.val (.int p0), .val (.long q1), .second, .val (.long q2), .second, .val (.long q3), .second, .val (.long q4), .second, .val (.int (3 : Int32)), .val (.ref b18), .val (.int (if q1 = (0 : Int64) then (if q2 = (0 : Int64) then (if q3 = (0 : Int64) then (1 : Int32) else (0 : Int32)) else (0 : Int32)) else (0 : Int32))), .val (.int (own_f1_3 q1 q2 q3)), .val (.int (1 : Int32))]) rfl k) ?_
    show own_Go p.tables e below _ (T26.setTop (mkF m 192 #[.val (.int p0), .val (.long q1), .second, .val (.long q2), .second, .val (.long q3), .second, .val (.long q4), .second, .val (.int (3 : Int32)), .val (.ref b18), .val (.int (if q1 = (0 : Int64) then (if q2 = (0 : Int64) then (if q3 = (0 : Int64) then (1 : Int32) else (0 : Int32)) else (0 : Int32)) else (0 : Int32))), .val (.int (own_f1_3 q1 q2 q3)), .val (.int (1 : Int32))] []))
    refine own_go (fun _ k => XS.iload X26.here hx rfl (hb hby at_192) rfl k) ?_
    show own_Go p.tables e below _ (T26.setTop (mkF m 194 #[.val (.int p0), .val (.long q1), .second, .val (.long q2), .second, .val (.long q3), .second, .val (.long q4), .second, .val (.int (3 : Int32)), .val (.ref b18), .val (.int (if q1 = (0 : Int64) then (if q2 = (0 : Int64) then (if q3 = (0 : Int64) then (1 : Int32) else (0 : Int32)) else (0 : Int32)) else (0 : Int32))), .val (.int (own_f1_3 q1 q2 q3)), .val (.int (1 : Int32))] [(.int (own_f1_3 q1 q2 q3))]))
    refine own_go (fun _ k => XS.iload X26.here hx rfl (hb hby at_194) rfl k) ?_
    show own_Go p.tables e below _ (T26.setTop (mkF m 196 #[.val (.int p0), .val (.long q1), .second, .val (.long q2), .second, .val (.long q3), .second, .val (.long q4), .second, .val (.int (3 : Int32)), .val (.ref b18), .val (.int (if q1 = (0 : Int64) then (if q2 = (0 : Int64) then (if q3 = (0 : Int64) then (1 : Int32) else (0 : Int32)) else (0 : Int32)) else (0 : Int32))), .val (.int (own_f1_3 q1 q2 q3)), .val (.int (1 : Int32))] [(.int (if q1 = (0 : Int64) then (if q2 = (0 : Int64) then (if q3 = (0 : Int64) then (1 : Int32) else (0 : Int32)) else (0 : Int32)) else (0 : Int32))), (.int (own_f1_3 q1 q2 q3))]))
    have hf196 : (own_f1_3 q1 q2 q3) = (if q1 = (0 : Int64) then (if q2 = (0 : Int64) then (if q3 = (0 : Int64) then (1 : Int32) else (0 : Int32)) else (0 : Int32)) else (0 : Int32)) := own_e3 _ _ _
    refine own_go (fun _ k => XS.icmpNo X26.here hx rfl (hb hby at_196) rfl (teq hf196).2 k) ?_
    show own_Go p.tables e below _ (T26.setTop (mkF m 199 #[.val (.int p0), .val (.long q1), .second, .val (.long q2), .second, .val (.long q3), .second, .val (.long q4), .second, .val (.int (3 : Int32)), .val (.ref b18), .val (.int (if q1 = (0 : Int64) then (if q2 = (0 : Int64) then (if q3 = (0 : Int64) then (1 : Int32) else (0 : Int32)) else (0 : Int32)) else (0 : Int32))), .val (.int (own_f1_3 q1 q2 q3)), .val (.int (1 : Int32))] []))
    refine own_go (fun _ k => XS.iload X26.here hx rfl (hb hby at_199) rfl k) ?_
    show own_Go p.tables e below _ (T26.setTop (mkF m 201 #[.val (.int p0), .val (.long q1), .second, .val (.long q2), .second, .val (.long q3), .second, .val (.long q4), .second, .val (.int (3 : Int32)), .val (.ref b18), .val (.int (if q1 = (0 : Int64) then (if q2 = (0 : Int64) then (if q3 = (0 : Int64) then (1 : Int32) else (0 : Int32)) else (0 : Int32)) else (0 : Int32))), .val (.int (own_f1_3 q1 q2 q3)), .val (.int (1 : Int32))] [(.int (1 : Int32))]))
    have hf201 : ¬ ((1 : Int32) = (0 : Int32)) := by decide
    refine own_go (fun _ k => XS.ifNo X26.here hx rfl (hb hby at_201) rfl ((if0 _ _).trans (feq hf201).1) k) ?_
    show own_Go p.tables e below _ (T26.setTop (mkF m 204 #[.val (.int p0), .val (.long q1), .second, .val (.long q2), .second, .val (.long q3), .second, .val (.long q4), .second, .val (.int (3 : Int32)), .val (.ref b18), .val (.int (if q1 = (0 : Int64) then (if q2 = (0 : Int64) then (if q3 = (0 : Int64) then (1 : Int32) else (0 : Int32)) else (0 : Int32)) else (0 : Int32))), .val (.int (own_f1_3 q1 q2 q3)), .val (.int (1 : Int32))] []))
    refine own_go (fun _ k => XS.iconst X26.here hx rfl (hb hby at_204) k) ?_
    show own_Go p.tables e below _ (T26.setTop (mkF m 205 #[.val (.int p0), .val (.long q1), .second, .val (.long q2), .second, .val (.long q3), .second, .val (.long q4), .second, .val (.int (3 : Int32)), .val (.ref b18), .val (.int (if q1 = (0 : Int64) then (if q2 = (0 : Int64) then (if q3 = (0 : Int64) then (1 : Int32) else (0 : Int32)) else (0 : Int32)) else (0 : Int32))), .val (.int (own_f1_3 q1 q2 q3)), .val (.int (1 : Int32))] [(.int (1 : Int32))]))
    refine own_go (fun _ k => XS.goto X26.here hx rfl (pc0 := 205) (pc' := 209) rfl (hb hby at_205) (by decide) (by decide) k) ?_
    show own_Go p.tables e below _ (T26.setTop (mkF m 209 #[.val (.int p0), .val (.long q1), .second, .val (.long q2), .second, .val (.long q3), .second, .val (.long q4), .second, .val (.int (3 : Int32)), .val (.ref b18), .val (.int (if q1 = (0 : Int64) then (if q2 = (0 : Int64) then (if q3 = (0 : Int64) then (1 : Int32) else (0 : Int32)) else (0 : Int32)) else (0 : Int32))), .val (.int (own_f1_3 q1 q2 q3)), .val (.int (1 : Int32))] [(.int (1 : Int32))]))
    refine own_end X26 Bd.notSynchronized (v := some (.int (1 : Int32))) (fun h => by rw [Bd.returns] at h; cases h) (fun fs hr => retN X26 hx (t := .boolean) Bd.returns (by simp) (hb hby at_209) hr) ?_ (by decide) (by decide)
    exact ⟨rfl, N26⟩
  · subst h5
    show own_Go p.tables e below _ (s₁.setTop (mkF m 8 #[.val (.int p0), .val (.long q1), .second, .val (.long q2), .second, .val (.long q3), .second, .val (.long q4), .second, .val (.int (4 : Int32)), .unset, .unset, .unset, .unset] []))
    refine own_go (fun _ k => XS.iload X0.here hx rfl (hb hby at_8) rfl k) ?_
    show own_Go p.tables e below _ (s₁.setTop (mkF m 10 #[.val (.int p0), .val (.long q1), .second, .val (.long q2), .second, .val (.long q3), .second, .val (.long q4), .second, .val (.int (4 : Int32)), .unset, .unset, .unset, .unset] [(.int (4 : Int32))]))
    obtain ⟨T30, h30, k30, X30, e30, E30, A30, st30⟩ := newP X0 hx hZ (hw _ (List.mem_of_getElem? (i := 1) rfl)) e0 (g := (mkF m 10 #[.val (.int p0), .val (.long q1), .second, .val (.long q2), .second, .val (.long q3), .second, .val (.long q4), .second, .val (.int (4 : Int32)), .unset, .unset, .unset, .unset] [(.int (4 : Int32))])) rfl (hb hby at_10) rfl (by decide) (cap := 4) (by decide) (by decide) (by decide) (by decide)
    obtain ⟨b30, g30⟩ : ∃ z, z = h0.size := ⟨_, rfl⟩
    rw [← g30] at A30 st30
    have g_b30 : n0 ≤ b30 := Nat.le_trans Z0 (Nat.le_of_eq g30.symm)
    have Z30 : n0 ≤ h30.size := Nat.le_trans Z0 E30.1
    have V30 : Arv Z h30 b30 k30 .long (4 : Int32) [(.long (0 : Int64)), (.long (0 : Int64)), (.long (0 : Int64)), (.long (0 : Int64))] (.long (0 : Int64)) := (Arv.new A30 (by decide)).pad (pad_rep [] (.long (0 : Int64)) 4)
    refine own_go st30 ?_
    show own_Go p.tables e below _ (T30.setTop (mkF m 12 #[.val (.int p0), .val (.long q1), .second, .val (.long q2), .second, .val (.long q3), .second, .val (.long q4), .second, .val (.int (4 : Int32)), .unset, .unset, .unset, .unset] [(.ref b30)]))
    refine own_go (fun _ k => XS.astore X30.here hx rfl (hb hby at_12) rfl rfl (l' := #[.val (.int p0), .val (.long q1), .second, .val (.long q2), .second, .val (.long q3), .second, .val (.long q4), .second, .val (.int (4 : Int32)), .val (.ref b30), .unset, .unset, .unset]) rfl k) ?_
    show own_Go p.tables e below _ (T30.setTop (mkF m 14 #[.val (.int p0), .val (.long q1), .second, .val (.long q2), .second, .val (.long q3), .second, .val (.long q4), .second, .val (.int (4 : Int32)), .val (.ref b30), .unset, .unset, .unset] []))
    refine own_go (fun _ k => XS.iload X30.here hx rfl (hb hby at_14) rfl k) ?_
    show own_Go p.tables e below _ (T30.setTop (mkF m 16 #[.val (.int p0), .val (.long q1), .second, .val (.long q2), .second, .val (.long q3), .second, .val (.long q4), .second, .val (.int (4 : Int32)), .val (.ref b30), .unset, .unset, .unset] [(.int (4 : Int32))]))
    have hf16 : (0 : Int32) < (4 : Int32) := by decide
    refine own_go (fun _ k => XS.ifNo X30.here hx rfl (hb hby at_16) rfl ((if0 _ _).trans (tlt hf16).2.2.2) k) ?_
    show own_Go p.tables e below _ (T30.setTop (mkF m 19 #[.val (.int p0), .val (.long q1), .second, .val (.long q2), .second, .val (.long q3), .second, .val (.long q4), .second, .val (.int (4 : Int32)), .val (.ref b30), .unset, .unset, .unset] []))
    refine own_go (fun _ k => XS.aload X30.here hx rfl (hb hby at_19) rfl rfl k) ?_
    show own_Go p.tables e below _ (T30.setTop (mkF m 21 #[.val (.int p0), .val (.long q1), .second, .val (.long q2), .second, .val (.long q3), .second, .val (.long q4), .second, .val (.int (4 : Int32)), .val (.ref b30), .unset, .unset, .unset] [(.ref b30)]))
    refine own_go (fun _ k => XS.iconst X30.here hx rfl (hb hby at_21) k) ?_
    show own_Go p.tables e below _ (T30.setTop (mkF m 22 #[.val (.int p0), .val (.long q1), .second, .val (.long q2), .second, .val (.long q3), .second, .val (.long q4), .second, .val (.int (4 : Int32)), .val (.ref b30), .unset, .unset, .unset] [(.int (0 : Int32)), (.ref b30)]))
    refine own_go (fun _ k => XS.lloadN X30.here hx rfl (hb hby at_22) rfl k) ?_
    show own_Go p.tables e below _ (T30.setTop (mkF m 23 #[.val (.int p0), .val (.long q1), .second, .val (.long q2), .second, .val (.long q3), .second, .val (.long q4), .second, .val (.int (4 : Int32)), .val (.ref b30), .unset, .unset, .unset] [(.long q1), (.int (0 : Int32)), (.ref b30)]))
    have vo31 := V30
    obtain ⟨cl31, Ar31, Aq31, AS31, AN31, AH31, AG31⟩ := vo31
    have hin32 : ¬ ((0 : Int32) < 0 ∨ cl31.slots.size ≤ ((0 : Int32)).toNatClampNeg) := inb_of AS31 ⟨by decide, by decide⟩
    obtain ⟨T32, h32, X32, e32, W32, st32⟩ := stJ X30 hx hZ e30 Ar31 (j := (0 : Int32)) hin32 (g := (mkF m 23 #[.val (.int p0), .val (.long q1), .second, .val (.long q2), .second, .val (.long q3), .second, .val (.long q4), .second, .val (.int (4 : Int32)), .val (.ref b30), .unset, .unset, .unset] [(.long q1), (.int (0 : Int32)), (.ref b30)])) rfl rfl (hb hby at_23)
    have V32 : Arv Z h32 b30 k30 .long (4 : Int32) [(.long q1), (.long (0 : Int64)), (.long (0 : Int64)), (.long (0 : Int64))] (.long (0 : Int64)) := Arv.set Ar31 Aq31 AS31 AN31 AH31 AG31 rfl W32 0 rfl (Nat.le_of_ble_eq_true rfl)
    have N32 := Fr.snoc X32 N0 g_b30
    have Z32 : n0 ≤ h32.size := Nat.le_trans Z30 (Keep.of_wr W32).1
    refine own_go st32 ?_
    show own_Go p.tables e below _ (T32.setTop (mkF m 24 #[.val (.int p0), .val (.long q1), .second, .val (.long q2), .second, .val (.long q3), .second, .val (.long q4), .second, .val (.int (4 : Int32)), .val (.ref b30), .unset, .unset, .unset] []))
    refine own_go (fun _ k => XS.iload X32.here hx rfl (hb hby at_24) rfl k) ?_
    show own_Go p.tables e below _ (T32.setTop (mkF m 26 #[.val (.int p0), .val (.long q1), .second, .val (.long q2), .second, .val (.long q3), .second, .val (.long q4), .second, .val (.int (4 : Int32)), .val (.ref b30), .unset, .unset, .unset] [(.int (4 : Int32))]))
    refine own_go (fun _ k => XS.iconst X32.here hx rfl (hb hby at_26) k) ?_
    show own_Go p.tables e below _ (T32.setTop (mkF m 27 #[.val (.int p0), .val (.long q1), .second, .val (.long q2), .second, .val (.long q3), .second, .val (.long q4), .second, .val (.int (4 : Int32)), .val (.ref b30), .unset, .unset, .unset] [(.int (1 : Int32)), (.int (4 : Int32))]))
    have hf27 : (1 : Int32) < (4 : Int32) := by decide
    refine own_go (fun _ k => XS.icmpNo X32.here hx rfl (hb hby at_27) rfl (tlt hf27).2.2.2 k) ?_
    show own_Go p.tables e below _ (T32.setTop (mkF m 30 #[.val (.int p0), .val (.long q1), .second, .val (.long q2), .second, .val (.long q3), .second, .val (.long q4), .second, .val (.int (4 : Int32)), .val (.ref b30), .unset, .unset, .unset] []))
    refine own_go (fun _ k => XS.aload X32.here hx rfl (hb hby at_30) rfl rfl k) ?_
    show own_Go p.tables e below _ (T32.setTop (mkF m 32 #[.val (.int p0), .val (.long q1), .second, .val (.long q2), .second, .val (.long q3), .second, .val (.long q4), .second, .val (.int (4 : Int32)), .val (.ref b30), .unset, .unset, .unset] [(.ref b30)]))
    refine own_go (fun _ k => XS.iconst X32.here hx rfl (hb hby at_32) k) ?_
    show own_Go p.tables e below _ (T32.setTop (mkF m 33 #[.val (.int p0), .val (.long q1), .second, .val (.long q2), .second, .val (.long q3), .second, .val (.long q4), .second, .val (.int (4 : Int32)), .val (.ref b30), .unset, .unset, .unset] [(.int (1 : Int32)), (.ref b30)]))
    refine own_go (fun _ k => XS.lloadN X32.here hx rfl (hb hby at_33) rfl k) ?_
    show own_Go p.tables e below _ (T32.setTop (mkF m 34 #[.val (.int p0), .val (.long q1), .second, .val (.long q2), .second, .val (.long q3), .second, .val (.long q4), .second, .val (.int (4 : Int32)), .val (.ref b30), .unset, .unset, .unset] [(.long q2), (.int (1 : Int32)), (.ref b30)]))
    have vo33 := V32
    obtain ⟨cl33, Ar33, Aq33, AS33, AN33, AH33, AG33⟩ := vo33
    have hin34 : ¬ ((1 : Int32) < 0 ∨ cl33.slots.size ≤ ((1 : Int32)).toNatClampNeg) := inb_of AS33 ⟨by decide, by decide⟩
    obtain ⟨T34, h34, X34, e34, W34, st34⟩ := stJ X32 hx hZ e32 Ar33 (j := (1 : Int32)) hin34 (g := (mkF m 34 #[.val (.int p0), .val (.long q1), .second, .val (.long q2), .second, .val (.long q3), .second, .val (.long q4), .second, .val (.int (4 : Int32)), .val (.ref b30), .unset, .unset, .unset] [(.long q2), (.int (1 : Int32)), (.ref b30)])) rfl rfl (hb hby at_34)
    have V34 : Arv Z h34 b30 k30 .long (4 : Int32) [(.long q1), (.long q2), (.long (0 : Int64)), (.long (0 : Int64))] (.long (0 : Int64)) := Arv.set Ar33 Aq33 AS33 AN33 AH33 AG33 rfl W34 1 rfl (Nat.le_of_ble_eq_true rfl)
    have N34 := Fr.snoc X34 N32 g_b30
    have Z34 : n0 ≤ h34.size := Nat.le_trans Z32 (Keep.of_wr W34).1
    refine own_go st34 ?_
    show own_Go p.tables e below _ (T34.setTop (mkF m 35 #[.val (.int p0), .val (.long q1), .second, .val (.long q2), .second, .val (.long q3), .second, .val (.long q4), .second, .val (.int (4 : Int32)), .val (.ref b30), .unset, .unset, .unset] []))
    refine own_go (fun _ k => XS.iload X34.here hx rfl (hb hby at_35) rfl k) ?_
    show own_Go p.tables e below _ (T34.setTop (mkF m 37 #[.val (.int p0), .val (.long q1), .second, .val (.long q2), .second, .val (.long q3), .second, .val (.long q4), .second, .val (.int (4 : Int32)), .val (.ref b30), .unset, .unset, .unset] [(.int (4 : Int32))]))
    refine own_go (fun _ k => XS.iconst X34.here hx rfl (hb hby at_37) k) ?_
    show own_Go p.tables e below _ (T34.setTop (mkF m 38 #[.val (.int p0), .val (.long q1), .second, .val (.long q2), .second, .val (.long q3), .second, .val (.long q4), .second, .val (.int (4 : Int32)), .val (.ref b30), .unset, .unset, .unset] [(.int (2 : Int32)), (.int (4 : Int32))]))
    have hf38 : (2 : Int32) < (4 : Int32) := by decide
    refine own_go (fun _ k => XS.icmpNo X34.here hx rfl (hb hby at_38) rfl (tlt hf38).2.2.2 k) ?_
    show own_Go p.tables e below _ (T34.setTop (mkF m 41 #[.val (.int p0), .val (.long q1), .second, .val (.long q2), .second, .val (.long q3), .second, .val (.long q4), .second, .val (.int (4 : Int32)), .val (.ref b30), .unset, .unset, .unset] []))
    refine own_go (fun _ k => XS.aload X34.here hx rfl (hb hby at_41) rfl rfl k) ?_
    show own_Go p.tables e below _ (T34.setTop (mkF m 43 #[.val (.int p0), .val (.long q1), .second, .val (.long q2), .second, .val (.long q3), .second, .val (.long q4), .second, .val (.int (4 : Int32)), .val (.ref b30), .unset, .unset, .unset] [(.ref b30)]))
    refine own_go (fun _ k => XS.iconst X34.here hx rfl (hb hby at_43) k) ?_
    show own_Go p.tables e below _ (T34.setTop (mkF m 44 #[.val (.int p0), .val (.long q1), .second, .val (.long q2), .second, .val (.long q3), .second, .val (.long q4), .second, .val (.int (4 : Int32)), .val (.ref b30), .unset, .unset, .unset] [(.int (2 : Int32)), (.ref b30)]))
    refine own_go (fun _ k => XS.lload X34.here hx rfl (hb hby at_44) rfl k) ?_
    show own_Go p.tables e below _ (T34.setTop (mkF m 46 #[.val (.int p0), .val (.long q1), .second, .val (.long q2), .second, .val (.long q3), .second, .val (.long q4), .second, .val (.int (4 : Int32)), .val (.ref b30), .unset, .unset, .unset] [(.long q3), (.int (2 : Int32)), (.ref b30)]))
    have vo35 := V34
    obtain ⟨cl35, Ar35, Aq35, AS35, AN35, AH35, AG35⟩ := vo35
    have hin36 : ¬ ((2 : Int32) < 0 ∨ cl35.slots.size ≤ ((2 : Int32)).toNatClampNeg) := inb_of AS35 ⟨by decide, by decide⟩
    obtain ⟨T36, h36, X36, e36, W36, st36⟩ := stJ X34 hx hZ e34 Ar35 (j := (2 : Int32)) hin36 (g := (mkF m 46 #[.val (.int p0), .val (.long q1), .second, .val (.long q2), .second, .val (.long q3), .second, .val (.long q4), .second, .val (.int (4 : Int32)), .val (.ref b30), .unset, .unset, .unset] [(.long q3), (.int (2 : Int32)), (.ref b30)])) rfl rfl (hb hby at_46)
    have V36 : Arv Z h36 b30 k30 .long (4 : Int32) [(.long q1), (.long q2), (.long q3), (.long (0 : Int64))] (.long (0 : Int64)) := Arv.set Ar35 Aq35 AS35 AN35 AH35 AG35 rfl W36 2 rfl (Nat.le_of_ble_eq_true rfl)
    have N36 := Fr.snoc X36 N34 g_b30
    have Z36 : n0 ≤ h36.size := Nat.le_trans Z34 (Keep.of_wr W36).1
    refine own_go st36 ?_
    show own_Go p.tables e below _ (T36.setTop (mkF m 47 #[.val (.int p0), .val (.long q1), .second, .val (.long q2), .second, .val (.long q3), .second, .val (.long q4), .second, .val (.int (4 : Int32)), .val (.ref b30), .unset, .unset, .unset] []))
    refine own_go (fun _ k => XS.iload X36.here hx rfl (hb hby at_47) rfl k) ?_
    show own_Go p.tables e below _ (T36.setTop (mkF m 49 #[.val (.int p0), .val (.long q1), .second, .val (.long q2), .second, .val (.long q3), .second, .val (.long q4), .second, .val (.int (4 : Int32)), .val (.ref b30), .unset, .unset, .unset] [(.int (4 : Int32))]))
    refine own_go (fun _ k => XS.iconst X36.here hx rfl (hb hby at_49) k) ?_
    show own_Go p.tables e below _ (T36.setTop (mkF m 50 #[.val (.int p0), .val (.long q1), .second, .val (.long q2), .second, .val (.long q3), .second, .val (.long q4), .second, .val (.int (4 : Int32)), .val (.ref b30), .unset, .unset, .unset] [(.int (3 : Int32)), (.int (4 : Int32))]))
    have hf50 : (3 : Int32) < (4 : Int32) := by decide
    refine own_go (fun _ k => XS.icmpNo X36.here hx rfl (hb hby at_50) rfl (tlt hf50).2.2.2 k) ?_
    show own_Go p.tables e below _ (T36.setTop (mkF m 53 #[.val (.int p0), .val (.long q1), .second, .val (.long q2), .second, .val (.long q3), .second, .val (.long q4), .second, .val (.int (4 : Int32)), .val (.ref b30), .unset, .unset, .unset] []))
    refine own_go (fun _ k => XS.aload X36.here hx rfl (hb hby at_53) rfl rfl k) ?_
    show own_Go p.tables e below _ (T36.setTop (mkF m 55 #[.val (.int p0), .val (.long q1), .second, .val (.long q2), .second, .val (.long q3), .second, .val (.long q4), .second, .val (.int (4 : Int32)), .val (.ref b30), .unset, .unset, .unset] [(.ref b30)]))
    refine own_go (fun _ k => XS.iconst X36.here hx rfl (hb hby at_55) k) ?_
    show own_Go p.tables e below _ (T36.setTop (mkF m 56 #[.val (.int p0), .val (.long q1), .second, .val (.long q2), .second, .val (.long q3), .second, .val (.long q4), .second, .val (.int (4 : Int32)), .val (.ref b30), .unset, .unset, .unset] [(.int (3 : Int32)), (.ref b30)]))
    refine own_go (fun _ k => XS.lload X36.here hx rfl (hb hby at_56) rfl k) ?_
    show own_Go p.tables e below _ (T36.setTop (mkF m 58 #[.val (.int p0), .val (.long q1), .second, .val (.long q2), .second, .val (.long q3), .second, .val (.long q4), .second, .val (.int (4 : Int32)), .val (.ref b30), .unset, .unset, .unset] [(.long q4), (.int (3 : Int32)), (.ref b30)]))
    have vo37 := V36
    obtain ⟨cl37, Ar37, Aq37, AS37, AN37, AH37, AG37⟩ := vo37
    have hin38 : ¬ ((3 : Int32) < 0 ∨ cl37.slots.size ≤ ((3 : Int32)).toNatClampNeg) := inb_of AS37 ⟨by decide, by decide⟩
    obtain ⟨T38, h38, X38, e38, W38, st38⟩ := stJ X36 hx hZ e36 Ar37 (j := (3 : Int32)) hin38 (g := (mkF m 58 #[.val (.int p0), .val (.long q1), .second, .val (.long q2), .second, .val (.long q3), .second, .val (.long q4), .second, .val (.int (4 : Int32)), .val (.ref b30), .unset, .unset, .unset] [(.long q4), (.int (3 : Int32)), (.ref b30)])) rfl rfl (hb hby at_58)
    have V38 : Arv Z h38 b30 k30 .long (4 : Int32) [(.long q1), (.long q2), (.long q3), (.long q4)] (.long (0 : Int64)) := Arv.set Ar37 Aq37 AS37 AN37 AH37 AG37 rfl W38 3 rfl (Nat.le_of_ble_eq_true rfl)
    have N38 := Fr.snoc X38 N36 g_b30
    have Z38 : n0 ≤ h38.size := Nat.le_trans Z36 (Keep.of_wr W38).1
    refine own_go st38 ?_
    show own_Go p.tables e below _ (T38.setTop (mkF m 59 #[.val (.int p0), .val (.long q1), .second, .val (.long q2), .second, .val (.long q3), .second, .val (.long q4), .second, .val (.int (4 : Int32)), .val (.ref b30), .unset, .unset, .unset] []))
    refine own_go (fun _ k => XS.iload X38.here hx rfl (hb hby at_59) rfl k) ?_
    show own_Go p.tables e below _ (T38.setTop (mkF m 61 #[.val (.int p0), .val (.long q1), .second, .val (.long q2), .second, .val (.long q3), .second, .val (.long q4), .second, .val (.int (4 : Int32)), .val (.ref b30), .unset, .unset, .unset] [(.int (4 : Int32))]))
    refine own_go (fun _ k => XS.iconst X38.here hx rfl (hb hby at_61) k) ?_
    show own_Go p.tables e below _ (T38.setTop (mkF m 62 #[.val (.int p0), .val (.long q1), .second, .val (.long q2), .second, .val (.long q3), .second, .val (.long q4), .second, .val (.int (4 : Int32)), .val (.ref b30), .unset, .unset, .unset] [(.int (1 : Int32)), (.int (4 : Int32))]))
    have hf62 : ¬ ((4 : Int32) < (1 : Int32)) := by decide
    refine own_go (fun _ k => XS.icmpNo X38.here hx rfl (hb hby at_62) rfl (flt hf62).1 k) ?_
    show own_Go p.tables e below _ (T38.setTop (mkF m 65 #[.val (.int p0), .val (.long q1), .second, .val (.long q2), .second, .val (.long q3), .second, .val (.long q4), .second, .val (.int (4 : Int32)), .val (.ref b30), .unset, .unset, .unset] []))
    refine own_go (fun _ k => XS.lloadN X38.here hx rfl (hb hby at_65) rfl k) ?_
    show own_Go p.tables e below _ (T38.setTop (mkF m 66 #[.val (.int p0), .val (.long q1), .second, .val (.long q2), .second, .val (.long q3), .second, .val (.long q4), .second, .val (.int (4 : Int32)), .val (.ref b30), .unset, .unset, .unset] [(.long q1)]))
    refine own_go (fun _ k => XS.lconst X38.here hx rfl (hb hby at_66) k) ?_
    show own_Go p.tables e below _ (T38.setTop (mkF m 67 #[.val (.int p0), .val (.long q1), .second, .val (.long q2), .second, .val (.long q3), .second, .val (.long q4), .second, .val (.int (4 : Int32)), .val (.ref b30), .unset, .unset, .unset] [(.long (0 : Int64)), (.long q1)]))
    refine own_go (fun _ k => XS.lcmp X38.here hx rfl (hb hby at_67) rfl k) ?_
    show own_Go p.tables e below _ (T38.setTop (mkF m 68 #[.val (.int p0), .val (.long q1), .second, .val (.long q2), .second, .val (.long q3), .second, .val (.long q4), .second, .val (.int (4 : Int32)), .val (.ref b30), .unset, .unset, .unset] [(.int (lcmpW q1 (0 : Int64)))]))
    have sg39 : ∀ t, Steps p.tables e below (T38.setTop (mkF m 114 #[.val (.int p0), .val (.long q1), .second, .val (.long q2), .second, .val (.long q3), .second, .val (.long q4), .second, .val (.int (4 : Int32)), .val (.ref b30), .unset, .unset, .unset] [(.int (if q1 = (0 : Int64) then (if q2 = (0 : Int64) then (if q3 = (0 : Int64) then (if q4 = (0 : Int64) then (1 : Int32) else (0 : Int32)) else (0 : Int32)) else (0 : Int32)) else (0 : Int32)))])) t → Steps p.tables e below (T38.setTop (mkF m 68 #[.val (.int p0), .val (.long q1), .second, .val (.long q2), .second, .val (.long q3), .second, .val (.long q4), .second, .val (.int (4 : Int32)), .val (.ref b30), .unset, .unset, .unset] [(.int (lcmpW q1 (0 : Int64)))])) t := by
      intro t k
      by_cases hc68 : q1 = (0 : Int64)
      · try simp only [if_pos hc68] at k
        refine XS.ifNo X38.here hx rfl (hb hby at_68) rfl ((if0 _ _).trans (teq ((lw_eq q1 (0 : Int64)).mpr hc68)).2) ?_
        show Steps p.tables e below (T38.setTop (mkF m 71 #[.val (.int p0), .val (.long q1), .second, .val (.long q2), .second, .val (.long q3), .second, .val (.long q4), .second, .val (.int (4 : Int32)), .val (.ref b30), .unset, .unset, .unset] [])) _
        refine XS.iload X38.here hx rfl (hb hby at_71) rfl ?_
        show Steps p.tables e below (T38.setTop (mkF m 73 #[.val (.int p0), .val (.long q1), .second, .val (.long q2), .second, .val (.long q3), .second, .val (.long q4), .second, .val (.int (4 : Int32)), .val (.ref b30), .unset, .unset, .unset] [(.int (4 : Int32))])) _
        refine XS.iconst X38.here hx rfl (hb hby at_73) ?_
        show Steps p.tables e below (T38.setTop (mkF m 74 #[.val (.int p0), .val (.long q1), .second, .val (.long q2), .second, .val (.long q3), .second, .val (.long q4), .second, .val (.int (4 : Int32)), .val (.ref b30), .unset, .unset, .unset] [(.int (2 : Int32)), (.int (4 : Int32))])) _
        have hf74 : ¬ ((4 : Int32) < (2 : Int32)) := by decide
        refine XS.icmpNo X38.here hx rfl (hb hby at_74) rfl (flt hf74).1 ?_
        show Steps p.tables e below (T38.setTop (mkF m 77 #[.val (.int p0), .val (.long q1), .second, .val (.long q2), .second, .val (.long q3), .second, .val (.long q4), .second, .val (.int (4 : Int32)), .val (.ref b30), .unset, .unset, .unset] [])) _
        refine XS.lloadN X38.here hx rfl (hb hby at_77) rfl ?_
        show Steps p.tables e below (T38.setTop (mkF m 78 #[.val (.int p0), .val (.long q1), .second, .val (.long q2), .second, .val (.long q3), .second, .val (.long q4), .second, .val (.int (4 : Int32)), .val (.ref b30), .unset, .unset, .unset] [(.long q2)])) _
        refine XS.lconst X38.here hx rfl (hb hby at_78) ?_
        show Steps p.tables e below (T38.setTop (mkF m 79 #[.val (.int p0), .val (.long q1), .second, .val (.long q2), .second, .val (.long q3), .second, .val (.long q4), .second, .val (.int (4 : Int32)), .val (.ref b30), .unset, .unset, .unset] [(.long (0 : Int64)), (.long q2)])) _
        refine XS.lcmp X38.here hx rfl (hb hby at_79) rfl ?_
        show Steps p.tables e below (T38.setTop (mkF m 80 #[.val (.int p0), .val (.long q1), .second, .val (.long q2), .second, .val (.long q3), .second, .val (.long q4), .second, .val (.int (4 : Int32)), .val (.ref b30), .unset, .unset, .unset] [(.int (lcmpW q2 (0 : Int64)))])) _
        by_cases hc80 : q2 = (0 : Int64)
        · try simp only [if_pos hc80] at k
          refine XS.ifNo X38.here hx rfl (hb hby at_80) rfl ((if0 _ _).trans (teq ((lw_eq q2 (0 : Int64)).mpr hc80)).2) ?_
          show Steps p.tables e below (T38.setTop (mkF m 83 #[.val (.int p0), .val (.long q1), .second, .val (.long q2), .second, .val (.long q3), .second, .val (.long q4), .second, .val (.int (4 : Int32)), .val (.ref b30), .unset, .unset, .unset] [])) _
          refine XS.iload X38.here hx rfl (hb hby at_83) rfl ?_
          show Steps p.tables e below (T38.setTop (mkF m 85 #[.val (.int p0), .val (.long q1), .second, .val (.long q2), .second, .val (.long q3), .second, .val (.long q4), .second, .val (.int (4 : Int32)), .val (.ref b30), .unset, .unset, .unset] [(.int (4 : Int32))])) _
          refine XS.iconst X38.here hx rfl (hb hby at_85) ?_
          show Steps p.tables e below (T38.setTop (mkF m 86 #[.val (.int p0), .val (.long q1), .second, .val (.long q2), .second, .val (.long q3), .second, .val (.long q4), .second, .val (.int (4 : Int32)), .val (.ref b30), .unset, .unset, .unset] [(.int (3 : Int32)), (.int (4 : Int32))])) _
          have hf86 : ¬ ((4 : Int32) < (3 : Int32)) := by decide
          refine XS.icmpNo X38.here hx rfl (hb hby at_86) rfl (flt hf86).1 ?_
          show Steps p.tables e below (T38.setTop (mkF m 89 #[.val (.int p0), .val (.long q1), .second, .val (.long q2), .second, .val (.long q3), .second, .val (.long q4), .second, .val (.int (4 : Int32)), .val (.ref b30), .unset, .unset, .unset] [])) _
          refine XS.lload X38.here hx rfl (hb hby at_89) rfl ?_
          show Steps p.tables e below (T38.setTop (mkF m 91 #[.val (.int p0), .val (.long q1), .second, .val (.long q2), .second, .val (.long q3), .second, .val (.long q4), .second, .val (.int (4 : Int32)), .val (.ref b30), .unset, .unset, .unset] [(.long q3)])) _
          refine XS.lconst X38.here hx rfl (hb hby at_91) ?_
          show Steps p.tables e below (T38.setTop (mkF m 92 #[.val (.int p0), .val (.long q1), .second, .val (.long q2), .second, .val (.long q3), .second, .val (.long q4), .second, .val (.int (4 : Int32)), .val (.ref b30), .unset, .unset, .unset] [(.long (0 : Int64)), (.long q3)])) _
          refine XS.lcmp X38.here hx rfl (hb hby at_92) rfl ?_
          show Steps p.tables e below (T38.setTop (mkF m 93 #[.val (.int p0), .val (.long q1), .second, .val (.long q2), .second, .val (.long q3), .second, .val (.long q4), .second, .val (.int (4 : Int32)), .val (.ref b30), .unset, .unset, .unset] [(.int (lcmpW q3 (0 : Int64)))])) _
          by_cases hc93 : q3 = (0 : Int64)
          · try simp only [if_pos hc93] at k
            refine XS.ifNo X38.here hx rfl (hb hby at_93) rfl ((if0 _ _).trans (teq ((lw_eq q3 (0 : Int64)).mpr hc93)).2) ?_
            show Steps p.tables e below (T38.setTop (mkF m 96 #[.val (.int p0), .val (.long q1), .second, .val (.long q2), .second, .val (.long q3), .second, .val (.long q4), .second, .val (.int (4 : Int32)), .val (.ref b30), .unset, .unset, .unset] [])) _
            refine XS.iload X38.here hx rfl (hb hby at_96) rfl ?_
            show Steps p.tables e below (T38.setTop (mkF m 98 #[.val (.int p0), .val (.long q1), .second, .val (.long q2), .second, .val (.long q3), .second, .val (.long q4), .second, .val (.int (4 : Int32)), .val (.ref b30), .unset, .unset, .unset] [(.int (4 : Int32))])) _
            refine XS.iconst X38.here hx rfl (hb hby at_98) ?_
            show Steps p.tables e below (T38.setTop (mkF m 99 #[.val (.int p0), .val (.long q1), .second, .val (.long q2), .second, .val (.long q3), .second, .val (.long q4), .second, .val (.int (4 : Int32)), .val (.ref b30), .unset, .unset, .unset] [(.int (4 : Int32)), (.int (4 : Int32))])) _
            have hf99 : ¬ ((4 : Int32) < (4 : Int32)) := by decide
            refine XS.icmpNo X38.here hx rfl (hb hby at_99) rfl (flt hf99).1 ?_
            show Steps p.tables e below (T38.setTop (mkF m 102 #[.val (.int p0), .val (.long q1), .second, .val (.long q2), .second, .val (.long q3), .second, .val (.long q4), .second, .val (.int (4 : Int32)), .val (.ref b30), .unset, .unset, .unset] [])) _
            refine XS.lload X38.here hx rfl (hb hby at_102) rfl ?_
            show Steps p.tables e below (T38.setTop (mkF m 104 #[.val (.int p0), .val (.long q1), .second, .val (.long q2), .second, .val (.long q3), .second, .val (.long q4), .second, .val (.int (4 : Int32)), .val (.ref b30), .unset, .unset, .unset] [(.long q4)])) _
            refine XS.lconst X38.here hx rfl (hb hby at_104) ?_
            show Steps p.tables e below (T38.setTop (mkF m 105 #[.val (.int p0), .val (.long q1), .second, .val (.long q2), .second, .val (.long q3), .second, .val (.long q4), .second, .val (.int (4 : Int32)), .val (.ref b30), .unset, .unset, .unset] [(.long (0 : Int64)), (.long q4)])) _
            refine XS.lcmp X38.here hx rfl (hb hby at_105) rfl ?_
            show Steps p.tables e below (T38.setTop (mkF m 106 #[.val (.int p0), .val (.long q1), .second, .val (.long q2), .second, .val (.long q3), .second, .val (.long q4), .second, .val (.int (4 : Int32)), .val (.ref b30), .unset, .unset, .unset] [(.int (lcmpW q4 (0 : Int64)))])) _
            by_cases hc106 : q4 = (0 : Int64)
            · try simp only [if_pos hc106] at k
              refine XS.ifNo X38.here hx rfl (hb hby at_106) rfl ((if0 _ _).trans (teq ((lw_eq q4 (0 : Int64)).mpr hc106)).2) ?_
              show Steps p.tables e below (T38.setTop (mkF m 109 #[.val (.int p0), .val (.long q1), .second, .val (.long q2), .second, .val (.long q3), .second, .val (.long q4), .second, .val (.int (4 : Int32)), .val (.ref b30), .unset, .unset, .unset] [])) _
              refine XS.iconst X38.here hx rfl (hb hby at_109) ?_
              show Steps p.tables e below (T38.setTop (mkF m 110 #[.val (.int p0), .val (.long q1), .second, .val (.long q2), .second, .val (.long q3), .second, .val (.long q4), .second, .val (.int (4 : Int32)), .val (.ref b30), .unset, .unset, .unset] [(.int (1 : Int32))])) _
              refine XS.goto X38.here hx rfl (pc0 := 110) (pc' := 114) rfl (hb hby at_110) (by decide) (by decide) ?_
              show Steps p.tables e below (T38.setTop (mkF m 114 #[.val (.int p0), .val (.long q1), .second, .val (.long q2), .second, .val (.long q3), .second, .val (.long q4), .second, .val (.int (4 : Int32)), .val (.ref b30), .unset, .unset, .unset] [(.int (1 : Int32))])) _
              exact k
            · try simp only [if_neg hc106] at k
              refine XS.ifYes X38.here hx rfl (pc0 := 106) (pc' := 113) rfl (hb hby at_106) rfl ((if0 _ _).trans (feq (mt (lw_eq q4 (0 : Int64)).mp hc106)).2) (by decide) (by decide) ?_
              show Steps p.tables e below (T38.setTop (mkF m 113 #[.val (.int p0), .val (.long q1), .second, .val (.long q2), .second, .val (.long q3), .second, .val (.long q4), .second, .val (.int (4 : Int32)), .val (.ref b30), .unset, .unset, .unset] [])) _
              refine XS.iconst X38.here hx rfl (hb hby at_113) ?_
              show Steps p.tables e below (T38.setTop (mkF m 114 #[.val (.int p0), .val (.long q1), .second, .val (.long q2), .second, .val (.long q3), .second, .val (.long q4), .second, .val (.int (4 : Int32)), .val (.ref b30), .unset, .unset, .unset] [(.int (0 : Int32))])) _
              exact k
          · try simp only [if_neg hc93] at k
            refine XS.ifYes X38.here hx rfl (pc0 := 93) (pc' := 113) rfl (hb hby at_93) rfl ((if0 _ _).trans (feq (mt (lw_eq q3 (0 : Int64)).mp hc93)).2) (by decide) (by decide) ?_
            show Steps p.tables e below (T38.setTop (mkF m 113 #[.val (.int p0), .val (.long q1), .second, .val (.long q2), .second, .val (.long q3), .second, .val (.long q4), .second, .val (.int (4 : Int32)), .val (.ref b30), .unset, .unset, .unset] [])) _
            refine XS.iconst X38.here hx rfl (hb hby at_113) ?_
            show Steps p.tables e below (T38.setTop (mkF m 114 #[.val (.int p0), .val (.long q1), .second, .val (.long q2), .second, .val (.long q3), .second, .val (.long q4), .second, .val (.int (4 : Int32)), .val (.ref b30), .unset, .unset, .unset] [(.int (0 : Int32))])) _
            exact k
        · try simp only [if_neg hc80] at k
          refine XS.ifYes X38.here hx rfl (pc0 := 80) (pc' := 113) rfl (hb hby at_80) rfl ((if0 _ _).trans (feq (mt (lw_eq q2 (0 : Int64)).mp hc80)).2) (by decide) (by decide) ?_
          show Steps p.tables e below (T38.setTop (mkF m 113 #[.val (.int p0), .val (.long q1), .second, .val (.long q2), .second, .val (.long q3), .second, .val (.long q4), .second, .val (.int (4 : Int32)), .val (.ref b30), .unset, .unset, .unset] [])) _
          refine XS.iconst X38.here hx rfl (hb hby at_113) ?_
          show Steps p.tables e below (T38.setTop (mkF m 114 #[.val (.int p0), .val (.long q1), .second, .val (.long q2), .second, .val (.long q3), .second, .val (.long q4), .second, .val (.int (4 : Int32)), .val (.ref b30), .unset, .unset, .unset] [(.int (0 : Int32))])) _
          exact k
      · try simp only [if_neg hc68] at k
        refine XS.ifYes X38.here hx rfl (pc0 := 68) (pc' := 113) rfl (hb hby at_68) rfl ((if0 _ _).trans (feq (mt (lw_eq q1 (0 : Int64)).mp hc68)).2) (by decide) (by decide) ?_
        show Steps p.tables e below (T38.setTop (mkF m 113 #[.val (.int p0), .val (.long q1), .second, .val (.long q2), .second, .val (.long q3), .second, .val (.long q4), .second, .val (.int (4 : Int32)), .val (.ref b30), .unset, .unset, .unset] [])) _
        refine XS.iconst X38.here hx rfl (hb hby at_113) ?_
        show Steps p.tables e below (T38.setTop (mkF m 114 #[.val (.int p0), .val (.long q1), .second, .val (.long q2), .second, .val (.long q3), .second, .val (.long q4), .second, .val (.int (4 : Int32)), .val (.ref b30), .unset, .unset, .unset] [(.int (0 : Int32))])) _
        exact k
    refine own_go sg39 ?_
    show own_Go p.tables e below _ (T38.setTop (mkF m 114 #[.val (.int p0), .val (.long q1), .second, .val (.long q2), .second, .val (.long q3), .second, .val (.long q4), .second, .val (.int (4 : Int32)), .val (.ref b30), .unset, .unset, .unset] [(.int (if q1 = (0 : Int64) then (if q2 = (0 : Int64) then (if q3 = (0 : Int64) then (if q4 = (0 : Int64) then (1 : Int32) else (0 : Int32)) else (0 : Int32)) else (0 : Int32)) else (0 : Int32)))]))
    refine own_go (fun _ k => XS.istore X38.here hx rfl (hb hby at_114) rfl (l' := #[.val (.int p0), .val (.long q1), .second, .val (.long q2), .second, .val (.long q3), .second, .val (.long q4), .second, .val (.int (4 : Int32)), .val (.ref b30), .val (.int (if q1 = (0 : Int64) then (if q2 = (0 : Int64) then (if q3 = (0 : Int64) then (if q4 = (0 : Int64) then (1 : Int32) else (0 : Int32)) else (0 : Int32)) else (0 : Int32)) else (0 : Int32))), .unset, .unset]) rfl k) ?_
    show own_Go p.tables e below _ (T38.setTop (mkF m 116 #[.val (.int p0), .val (.long q1), .second, .val (.long q2), .second, .val (.long q3), .second, .val (.long q4), .second, .val (.int (4 : Int32)), .val (.ref b30), .val (.int (if q1 = (0 : Int64) then (if q2 = (0 : Int64) then (if q3 = (0 : Int64) then (if q4 = (0 : Int64) then (1 : Int32) else (0 : Int32)) else (0 : Int32)) else (0 : Int32)) else (0 : Int32))), .unset, .unset] []))
    refine own_go (fun _ k => XS.aload X38.here hx rfl (hb hby at_116) rfl rfl k) ?_
    show own_Go p.tables e below _ (T38.setTop (mkF m 118 #[.val (.int p0), .val (.long q1), .second, .val (.long q2), .second, .val (.long q3), .second, .val (.long q4), .second, .val (.int (4 : Int32)), .val (.ref b30), .val (.int (if q1 = (0 : Int64) then (if q2 = (0 : Int64) then (if q3 = (0 : Int64) then (if q4 = (0 : Int64) then (1 : Int32) else (0 : Int32)) else (0 : Int32)) else (0 : Int32)) else (0 : Int32))), .unset, .unset] [(.ref b30)]))
    obtain ⟨_, _, ⟨T40, L40, k40, n40⟩, -, X40, ⟨Lc40, hQ40, l40, y40, z40⟩, st40⟩ := Jvm.LawKit.callS X38 hx (y := (⟨"com/example/meshwright/meshwright/plan/PathCrossings", "empty", "([J)Z"⟩ : MethodName)) hown (mvT hZ (hw _ (List.mem_of_getElem? (i := 2) rfl))) (mvT hZ (hw _ (List.mem_of_getElem? (i := 3) rfl))) (mvT hZ (hw _ (List.mem_of_getElem? (i := 4) rfl))) (mvT hZ (hw _ (List.mem_of_getElem? (i := 5) rfl))) (by decide) (backOf (W := 0) (rm1_4 l Z az hw [] b30 k30 q1 q2 q3 q4 h38 n0 Z38 V38) hZ (hw _ (List.mem_of_getElem? (i := 5) rfl)) (hw _ (List.mem_of_getElem? (i := 4) rfl)) (by decide) (by decide)) (g := (mkF m 118 #[.val (.int p0), .val (.long q1), .second, .val (.long q2), .second, .val (.long q3), .second, .val (.long q4), .second, .val (.int (4 : Int32)), .val (.ref b30), .val (.int (if q1 = (0 : Int64) then (if q2 = (0 : Int64) then (if q3 = (0 : Int64) then (if q4 = (0 : Int64) then (1 : Int32) else (0 : Int32)) else (0 : Int32)) else (0 : Int32)) else (0 : Int32))), .unset, .unset] [(.ref b30)])) rfl (by rw [hml]; rfl) (argsL := [(.ref b30)]) (rest := []) (lenOf pd0_0 rfl) rfl (by show 2 * 0 + _ ≤ _; exact Nat.le_of_eq rfl) (hb hby at_118) (fun _ _ => ⟨rfl, e38, (by decide : 1 + 0 ≤ _), (by decide : 4 + 0 ≤ _)⟩)
    dsimp only [Pt.U, Pt.locs, Pt.cells, Pt.slots] at X40 l40 y40 z40 st40 hQ40
    subst l40 y40 z40
    refine own_go st40 ?_
    obtain ⟨rfl, N40q, e40⟩ := hQ40
    have N40 := Fr.app N38 N40q
    show own_Go p.tables e below _ (T40.setTop (mkF m 121 #[.val (.int p0), .val (.long q1), .second, .val (.long q2), .second, .val (.long q3), .second, .val (.long q4), .second, .val (.int (4 : Int32)), .val (.ref b30), .val (.int (if q1 = (0 : Int64) then (if q2 = (0 : Int64) then (if q3 = (0 : Int64) then (if q4 = (0 : Int64) then (1 : Int32) else (0 : Int32)) else (0 : Int32)) else (0 : Int32)) else (0 : Int32))), .unset, .unset] [(.int (own_f1_4 q1 q2 q3 q4))]))
    refine own_go (fun _ k => XS.istore X40.here hx rfl (hb hby at_121) rfl (l' := #[.val (.int p0), .val (.long q1), .second, .val (.long q2), .second, .val (.long q3), .second, .val (.long q4), .second, .val (.int (4 : Int32)), .val (.ref b30), .val (.int (if q1 = (0 : Int64) then (if q2 = (0 : Int64) then (if q3 = (0 : Int64) then (if q4 = (0 : Int64) then (1 : Int32) else (0 : Int32)) else (0 : Int32)) else (0 : Int32)) else (0 : Int32))), .val (.int (own_f1_4 q1 q2 q3 q4)), .unset]) rfl k) ?_
    show own_Go p.tables e below _ (T40.setTop (mkF m 123 #[.val (.int p0), .val (.long q1), .second, .val (.long q2), .second, .val (.long q3), .second, .val (.long q4), .second, .val (.int (4 : Int32)), .val (.ref b30), .val (.int (if q1 = (0 : Int64) then (if q2 = (0 : Int64) then (if q3 = (0 : Int64) then (if q4 = (0 : Int64) then (1 : Int32) else (0 : Int32)) else (0 : Int32)) else (0 : Int32)) else (0 : Int32))), .val (.int (own_f1_4 q1 q2 q3 q4)), .unset] []))
    refine own_go (fun _ k => XS.iload X40.here hx rfl (hb hby at_123) rfl k) ?_
    show own_Go p.tables e below _ (T40.setTop (mkF m 125 #[.val (.int p0), .val (.long q1), .second, .val (.long q2), .second, .val (.long q3), .second, .val (.long q4), .second, .val (.int (4 : Int32)), .val (.ref b30), .val (.int (if q1 = (0 : Int64) then (if q2 = (0 : Int64) then (if q3 = (0 : Int64) then (if q4 = (0 : Int64) then (1 : Int32) else (0 : Int32)) else (0 : Int32)) else (0 : Int32)) else (0 : Int32))), .val (.int (own_f1_4 q1 q2 q3 q4)), .unset] [(.int (4 : Int32))]))
    refine own_go (fun _ k => XS.iconst X40.here hx rfl (hb hby at_125) k) ?_
    show own_Go p.tables e below _ (T40.setTop (mkF m 126 #[.val (.int p0), .val (.long q1), .second, .val (.long q2), .second, .val (.long q3), .second, .val (.long q4), .second, .val (.int (4 : Int32)), .val (.ref b30), .val (.int (if q1 = (0 : Int64) then (if q2 = (0 : Int64) then (if q3 = (0 : Int64) then (if q4 = (0 : Int64) then (1 : Int32) else (0 : Int32)) else (0 : Int32)) else (0 : Int32)) else (0 : Int32))), .val (.int (own_f1_4 q1 q2 q3 q4)), .unset] [(.int (1 : Int32)), (.int (4 : Int32))]))
    have hf126 : ¬ ((4 : Int32) < (1 : Int32)) := by decide
    refine own_go (fun _ k => XS.icmpNo X40.here hx rfl (hb hby at_126) rfl (flt hf126).1 k) ?_
    show own_Go p.tables e below _ (T40.setTop (mkF m 129 #[.val (.int p0), .val (.long q1), .second, .val (.long q2), .second, .val (.long q3), .second, .val (.long q4), .second, .val (.int (4 : Int32)), .val (.ref b30), .val (.int (if q1 = (0 : Int64) then (if q2 = (0 : Int64) then (if q3 = (0 : Int64) then (if q4 = (0 : Int64) then (1 : Int32) else (0 : Int32)) else (0 : Int32)) else (0 : Int32)) else (0 : Int32))), .val (.int (own_f1_4 q1 q2 q3 q4)), .unset] []))
    refine own_go (fun _ k => XS.aload X40.here hx rfl (hb hby at_129) rfl rfl k) ?_
    show own_Go p.tables e below _ (T40.setTop (mkF m 131 #[.val (.int p0), .val (.long q1), .second, .val (.long q2), .second, .val (.long q3), .second, .val (.long q4), .second, .val (.int (4 : Int32)), .val (.ref b30), .val (.int (if q1 = (0 : Int64) then (if q2 = (0 : Int64) then (if q3 = (0 : Int64) then (if q4 = (0 : Int64) then (1 : Int32) else (0 : Int32)) else (0 : Int32)) else (0 : Int32)) else (0 : Int32))), .val (.int (own_f1_4 q1 q2 q3 q4)), .unset] [(.ref b30)]))
    refine own_go (fun _ k => XS.iconst X40.here hx rfl (hb hby at_131) k) ?_
    show own_Go p.tables e below _ (T40.setTop (mkF m 132 #[.val (.int p0), .val (.long q1), .second, .val (.long q2), .second, .val (.long q3), .second, .val (.long q4), .second, .val (.int (4 : Int32)), .val (.ref b30), .val (.int (if q1 = (0 : Int64) then (if q2 = (0 : Int64) then (if q3 = (0 : Int64) then (if q4 = (0 : Int64) then (1 : Int32) else (0 : Int32)) else (0 : Int32)) else (0 : Int32)) else (0 : Int32))), .val (.int (own_f1_4 q1 q2 q3 q4)), .unset] [(.int (0 : Int32)), (.ref b30)]))
    have vo41 := V38
    obtain ⟨cl41, Ar41, Aq41, AS41, AN41, AH41, AG41⟩ := vo41
    have hin41 : ¬ ((0 : Int32) < 0 ∨ cl41.slots.size ≤ ((0 : Int32)).toNatClampNeg) := inb_of AS41 ⟨by decide, by decide⟩
    have hat41 : cl41.slots[((0 : Int32)).toNatClampNeg]? = some (.long q1) := Has.at AH41 hin41 rfl
    refine own_go (fun _ k => X40.laload hx (j := (0 : Int32)) (v := (.long q1)) (by rw [(e40 : T40.heap = h38)]; exact Ar41.1) (State.isArrayOf_alike hZ.alike Ar41.2.1) Ar41.2.2 hin41 hat41 (g := (mkF m 132 #[.val (.int p0), .val (.long q1), .second, .val (.long q2), .second, .val (.long q3), .second, .val (.long q4), .second, .val (.int (4 : Int32)), .val (.ref b30), .val (.int (if q1 = (0 : Int64) then (if q2 = (0 : Int64) then (if q3 = (0 : Int64) then (if q4 = (0 : Int64) then (1 : Int32) else (0 : Int32)) else (0 : Int32)) else (0 : Int32)) else (0 : Int32))), .val (.int (own_f1_4 q1 q2 q3 q4)), .unset] [(.int (0 : Int32)), (.ref b30)])) rfl rfl (hb hby at_132) _ k) ?_
    show own_Go p.tables e below _ (T40.setTop (mkF m 133 #[.val (.int p0), .val (.long q1), .second, .val (.long q2), .second, .val (.long q3), .second, .val (.long q4), .second, .val (.int (4 : Int32)), .val (.ref b30), .val (.int (if q1 = (0 : Int64) then (if q2 = (0 : Int64) then (if q3 = (0 : Int64) then (if q4 = (0 : Int64) then (1 : Int32) else (0 : Int32)) else (0 : Int32)) else (0 : Int32)) else (0 : Int32))), .val (.int (own_f1_4 q1 q2 q3 q4)), .unset] [(.long q1)]))
    refine own_go (fun _ k => XS.lloadN X40.here hx rfl (hb hby at_133) rfl k) ?_
    show own_Go p.tables e below _ (T40.setTop (mkF m 134 #[.val (.int p0), .val (.long q1), .second, .val (.long q2), .second, .val (.long q3), .second, .val (.long q4), .second, .val (.int (4 : Int32)), .val (.ref b30), .val (.int (if q1 = (0 : Int64) then (if q2 = (0 : Int64) then (if q3 = (0 : Int64) then (if q4 = (0 : Int64) then (1 : Int32) else (0 : Int32)) else (0 : Int32)) else (0 : Int32)) else (0 : Int32))), .val (.int (own_f1_4 q1 q2 q3 q4)), .unset] [(.long q1), (.long q1)]))
    refine own_go (fun _ k => XS.lcmp X40.here hx rfl (hb hby at_134) rfl k) ?_
    show own_Go p.tables e below _ (T40.setTop (mkF m 135 #[.val (.int p0), .val (.long q1), .second, .val (.long q2), .second, .val (.long q3), .second, .val (.long q4), .second, .val (.int (4 : Int32)), .val (.ref b30), .val (.int (if q1 = (0 : Int64) then (if q2 = (0 : Int64) then (if q3 = (0 : Int64) then (if q4 = (0 : Int64) then (1 : Int32) else (0 : Int32)) else (0 : Int32)) else (0 : Int32)) else (0 : Int32))), .val (.int (own_f1_4 q1 q2 q3 q4)), .unset] [(.int (lcmpW q1 q1))]))
    have hf135 : q1 = q1 := rfl
    refine own_go (fun _ k => XS.ifNo X40.here hx rfl (hb hby at_135) rfl ((if0 _ _).trans (teq ((lw_eq q1 q1).mpr hf135)).2) k) ?_
    show own_Go p.tables e below _ (T40.setTop (mkF m 138 #[.val (.int p0), .val (.long q1), .second, .val (.long q2), .second, .val (.long q3), .second, .val (.long q4), .second, .val (.int (4 : Int32)), .val (.ref b30), .val (.int (if q1 = (0 : Int64) then (if q2 = (0 : Int64) then (if q3 = (0 : Int64) then (if q4 = (0 : Int64) then (1 : Int32) else (0 : Int32)) else (0 : Int32)) else (0 : Int32)) else (0 : Int32))), .val (.int (own_f1_4 q1 q2 q3 q4)), .unset] []))
    refine own_go (fun _ k => XS.iload X40.here hx rfl (hb hby at_138) rfl k) ?_
    show own_Go p.tables e below _ (T40.setTop (mkF m 140 #[.val (.int p0), .val (.long q1), .second, .val (.long q2), .second, .val (.long q3), .second, .val (.long q4), .second, .val (.int (4 : Int32)), .val (.ref b30), .val (.int (if q1 = (0 : Int64) then (if q2 = (0 : Int64) then (if q3 = (0 : Int64) then (if q4 = (0 : Int64) then (1 : Int32) else (0 : Int32)) else (0 : Int32)) else (0 : Int32)) else (0 : Int32))), .val (.int (own_f1_4 q1 q2 q3 q4)), .unset] [(.int (4 : Int32))]))
    refine own_go (fun _ k => XS.iconst X40.here hx rfl (hb hby at_140) k) ?_
    show own_Go p.tables e below _ (T40.setTop (mkF m 141 #[.val (.int p0), .val (.long q1), .second, .val (.long q2), .second, .val (.long q3), .second, .val (.long q4), .second, .val (.int (4 : Int32)), .val (.ref b30), .val (.int (if q1 = (0 : Int64) then (if q2 = (0 : Int64) then (if q3 = (0 : Int64) then (if q4 = (0 : Int64) then (1 : Int32) else (0 : Int32)) else (0 : Int32)) else (0 : Int32)) else (0 : Int32))), .val (.int (own_f1_4 q1 q2 q3 q4)), .unset] [(.int (2 : Int32)), (.int (4 : Int32))]))
    have hf141 : ¬ ((4 : Int32) < (2 : Int32)) := by decide
    refine own_go (fun _ k => XS.icmpNo X40.here hx rfl (hb hby at_141) rfl (flt hf141).1 k) ?_
    show own_Go p.tables e below _ (T40.setTop (mkF m 144 #[.val (.int p0), .val (.long q1), .second, .val (.long q2), .second, .val (.long q3), .second, .val (.long q4), .second, .val (.int (4 : Int32)), .val (.ref b30), .val (.int (if q1 = (0 : Int64) then (if q2 = (0 : Int64) then (if q3 = (0 : Int64) then (if q4 = (0 : Int64) then (1 : Int32) else (0 : Int32)) else (0 : Int32)) else (0 : Int32)) else (0 : Int32))), .val (.int (own_f1_4 q1 q2 q3 q4)), .unset] []))
    refine own_go (fun _ k => XS.aload X40.here hx rfl (hb hby at_144) rfl rfl k) ?_
    show own_Go p.tables e below _ (T40.setTop (mkF m 146 #[.val (.int p0), .val (.long q1), .second, .val (.long q2), .second, .val (.long q3), .second, .val (.long q4), .second, .val (.int (4 : Int32)), .val (.ref b30), .val (.int (if q1 = (0 : Int64) then (if q2 = (0 : Int64) then (if q3 = (0 : Int64) then (if q4 = (0 : Int64) then (1 : Int32) else (0 : Int32)) else (0 : Int32)) else (0 : Int32)) else (0 : Int32))), .val (.int (own_f1_4 q1 q2 q3 q4)), .unset] [(.ref b30)]))
    refine own_go (fun _ k => XS.iconst X40.here hx rfl (hb hby at_146) k) ?_
    show own_Go p.tables e below _ (T40.setTop (mkF m 147 #[.val (.int p0), .val (.long q1), .second, .val (.long q2), .second, .val (.long q3), .second, .val (.long q4), .second, .val (.int (4 : Int32)), .val (.ref b30), .val (.int (if q1 = (0 : Int64) then (if q2 = (0 : Int64) then (if q3 = (0 : Int64) then (if q4 = (0 : Int64) then (1 : Int32) else (0 : Int32)) else (0 : Int32)) else (0 : Int32)) else (0 : Int32))), .val (.int (own_f1_4 q1 q2 q3 q4)), .unset] [(.int (1 : Int32)), (.ref b30)]))
    have vo42 := V38
    obtain ⟨cl42, Ar42, Aq42, AS42, AN42, AH42, AG42⟩ := vo42
    have hin42 : ¬ ((1 : Int32) < 0 ∨ cl42.slots.size ≤ ((1 : Int32)).toNatClampNeg) := inb_of AS42 ⟨by decide, by decide⟩
    have hat42 : cl42.slots[((1 : Int32)).toNatClampNeg]? = some (.long q2) := Has.at AH42 hin42 rfl
    refine own_go (fun _ k => X40.laload hx (j := (1 : Int32)) (v := (.long q2)) (by rw [(e40 : T40.heap = h38)]; exact Ar42.1) (State.isArrayOf_alike hZ.alike Ar42.2.1) Ar42.2.2 hin42 hat42 (g := (mkF m 147 #[.val (.int p0), .val (.long q1), .second, .val (.long q2), .second, .val (.long q3), .second, .val (.long q4), .second, .val (.int (4 : Int32)), .val (.ref b30), .val (.int (if q1 = (0 : Int64) then (if q2 = (0 : Int64) then (if q3 = (0 : Int64) then (if q4 = (0 : Int64) then (1 : Int32) else (0 : Int32)) else (0 : Int32)) else (0 : Int32)) else (0 : Int32))), .val (.int (own_f1_4 q1 q2 q3 q4)), .unset] [(.int (1 : Int32)), (.ref b30)])) rfl rfl (hb hby at_147) _ k) ?_
    show own_Go p.tables e below _ (T40.setTop (mkF m 148 #[.val (.int p0), .val (.long q1), .second, .val (.long q2), .second, .val (.long q3), .second, .val (.long q4), .second, .val (.int (4 : Int32)), .val (.ref b30), .val (.int (if q1 = (0 : Int64) then (if q2 = (0 : Int64) then (if q3 = (0 : Int64) then (if q4 = (0 : Int64) then (1 : Int32) else (0 : Int32)) else (0 : Int32)) else (0 : Int32)) else (0 : Int32))), .val (.int (own_f1_4 q1 q2 q3 q4)), .unset] [(.long q2)]))
    refine own_go (fun _ k => XS.lloadN X40.here hx rfl (hb hby at_148) rfl k) ?_
    show own_Go p.tables e below _ (T40.setTop (mkF m 149 #[.val (.int p0), .val (.long q1), .second, .val (.long q2), .second, .val (.long q3), .second, .val (.long q4), .second, .val (.int (4 : Int32)), .val (.ref b30), .val (.int (if q1 = (0 : Int64) then (if q2 = (0 : Int64) then (if q3 = (0 : Int64) then (if q4 = (0 : Int64) then (1 : Int32) else (0 : Int32)) else (0 : Int32)) else (0 : Int32)) else (0 : Int32))), .val (.int (own_f1_4 q1 q2 q3 q4)), .unset] [(.long q2), (.long q2)]))
    refine own_go (fun _ k => XS.lcmp X40.here hx rfl (hb hby at_149) rfl k) ?_
    show own_Go p.tables e below _ (T40.setTop (mkF m 150 #[.val (.int p0), .val (.long q1), .second, .val (.long q2), .second, .val (.long q3), .second, .val (.long q4), .second, .val (.int (4 : Int32)), .val (.ref b30), .val (.int (if q1 = (0 : Int64) then (if q2 = (0 : Int64) then (if q3 = (0 : Int64) then (if q4 = (0 : Int64) then (1 : Int32) else (0 : Int32)) else (0 : Int32)) else (0 : Int32)) else (0 : Int32))), .val (.int (own_f1_4 q1 q2 q3 q4)), .unset] [(.int (lcmpW q2 q2))]))
    have hf150 : q2 = q2 := rfl
    refine own_go (fun _ k => XS.ifNo X40.here hx rfl (hb hby at_150) rfl ((if0 _ _).trans (teq ((lw_eq q2 q2).mpr hf150)).2) k) ?_
    show own_Go p.tables e below _ (T40.setTop (mkF m 153 #[.val (.int p0), .val (.long q1), .second, .val (.long q2), .second, .val (.long q3), .second, .val (.long q4), .second, .val (.int (4 : Int32)), .val (.ref b30), .val (.int (if q1 = (0 : Int64) then (if q2 = (0 : Int64) then (if q3 = (0 : Int64) then (if q4 = (0 : Int64) then (1 : Int32) else (0 : Int32)) else (0 : Int32)) else (0 : Int32)) else (0 : Int32))), .val (.int (own_f1_4 q1 q2 q3 q4)), .unset] []))
    refine own_go (fun _ k => XS.iload X40.here hx rfl (hb hby at_153) rfl k) ?_
    show own_Go p.tables e below _ (T40.setTop (mkF m 155 #[.val (.int p0), .val (.long q1), .second, .val (.long q2), .second, .val (.long q3), .second, .val (.long q4), .second, .val (.int (4 : Int32)), .val (.ref b30), .val (.int (if q1 = (0 : Int64) then (if q2 = (0 : Int64) then (if q3 = (0 : Int64) then (if q4 = (0 : Int64) then (1 : Int32) else (0 : Int32)) else (0 : Int32)) else (0 : Int32)) else (0 : Int32))), .val (.int (own_f1_4 q1 q2 q3 q4)), .unset] [(.int (4 : Int32))]))
    refine own_go (fun _ k => XS.iconst X40.here hx rfl (hb hby at_155) k) ?_
    show own_Go p.tables e below _ (T40.setTop (mkF m 156 #[.val (.int p0), .val (.long q1), .second, .val (.long q2), .second, .val (.long q3), .second, .val (.long q4), .second, .val (.int (4 : Int32)), .val (.ref b30), .val (.int (if q1 = (0 : Int64) then (if q2 = (0 : Int64) then (if q3 = (0 : Int64) then (if q4 = (0 : Int64) then (1 : Int32) else (0 : Int32)) else (0 : Int32)) else (0 : Int32)) else (0 : Int32))), .val (.int (own_f1_4 q1 q2 q3 q4)), .unset] [(.int (3 : Int32)), (.int (4 : Int32))]))
    have hf156 : ¬ ((4 : Int32) < (3 : Int32)) := by decide
    refine own_go (fun _ k => XS.icmpNo X40.here hx rfl (hb hby at_156) rfl (flt hf156).1 k) ?_
    show own_Go p.tables e below _ (T40.setTop (mkF m 159 #[.val (.int p0), .val (.long q1), .second, .val (.long q2), .second, .val (.long q3), .second, .val (.long q4), .second, .val (.int (4 : Int32)), .val (.ref b30), .val (.int (if q1 = (0 : Int64) then (if q2 = (0 : Int64) then (if q3 = (0 : Int64) then (if q4 = (0 : Int64) then (1 : Int32) else (0 : Int32)) else (0 : Int32)) else (0 : Int32)) else (0 : Int32))), .val (.int (own_f1_4 q1 q2 q3 q4)), .unset] []))
    refine own_go (fun _ k => XS.aload X40.here hx rfl (hb hby at_159) rfl rfl k) ?_
    show own_Go p.tables e below _ (T40.setTop (mkF m 161 #[.val (.int p0), .val (.long q1), .second, .val (.long q2), .second, .val (.long q3), .second, .val (.long q4), .second, .val (.int (4 : Int32)), .val (.ref b30), .val (.int (if q1 = (0 : Int64) then (if q2 = (0 : Int64) then (if q3 = (0 : Int64) then (if q4 = (0 : Int64) then (1 : Int32) else (0 : Int32)) else (0 : Int32)) else (0 : Int32)) else (0 : Int32))), .val (.int (own_f1_4 q1 q2 q3 q4)), .unset] [(.ref b30)]))
    refine own_go (fun _ k => XS.iconst X40.here hx rfl (hb hby at_161) k) ?_
    show own_Go p.tables e below _ (T40.setTop (mkF m 162 #[.val (.int p0), .val (.long q1), .second, .val (.long q2), .second, .val (.long q3), .second, .val (.long q4), .second, .val (.int (4 : Int32)), .val (.ref b30), .val (.int (if q1 = (0 : Int64) then (if q2 = (0 : Int64) then (if q3 = (0 : Int64) then (if q4 = (0 : Int64) then (1 : Int32) else (0 : Int32)) else (0 : Int32)) else (0 : Int32)) else (0 : Int32))), .val (.int (own_f1_4 q1 q2 q3 q4)), .unset] [(.int (2 : Int32)), (.ref b30)]))
    have vo43 := V38
    obtain ⟨cl43, Ar43, Aq43, AS43, AN43, AH43, AG43⟩ := vo43
    have hin43 : ¬ ((2 : Int32) < 0 ∨ cl43.slots.size ≤ ((2 : Int32)).toNatClampNeg) := inb_of AS43 ⟨by decide, by decide⟩
    have hat43 : cl43.slots[((2 : Int32)).toNatClampNeg]? = some (.long q3) := Has.at AH43 hin43 rfl
    refine own_go (fun _ k => X40.laload hx (j := (2 : Int32)) (v := (.long q3)) (by rw [(e40 : T40.heap = h38)]; exact Ar43.1) (State.isArrayOf_alike hZ.alike Ar43.2.1) Ar43.2.2 hin43 hat43 (g := (mkF m 162 #[.val (.int p0), .val (.long q1), .second, .val (.long q2), .second, .val (.long q3), .second, .val (.long q4), .second, .val (.int (4 : Int32)), .val (.ref b30), .val (.int (if q1 = (0 : Int64) then (if q2 = (0 : Int64) then (if q3 = (0 : Int64) then (if q4 = (0 : Int64) then (1 : Int32) else (0 : Int32)) else (0 : Int32)) else (0 : Int32)) else (0 : Int32))), .val (.int (own_f1_4 q1 q2 q3 q4)), .unset] [(.int (2 : Int32)), (.ref b30)])) rfl rfl (hb hby at_162) _ k) ?_
    show own_Go p.tables e below _ (T40.setTop (mkF m 163 #[.val (.int p0), .val (.long q1), .second, .val (.long q2), .second, .val (.long q3), .second, .val (.long q4), .second, .val (.int (4 : Int32)), .val (.ref b30), .val (.int (if q1 = (0 : Int64) then (if q2 = (0 : Int64) then (if q3 = (0 : Int64) then (if q4 = (0 : Int64) then (1 : Int32) else (0 : Int32)) else (0 : Int32)) else (0 : Int32)) else (0 : Int32))), .val (.int (own_f1_4 q1 q2 q3 q4)), .unset] [(.long q3)]))
    refine own_go (fun _ k => XS.lload X40.here hx rfl (hb hby at_163) rfl k) ?_
    show own_Go p.tables e below _ (T40.setTop (mkF m 165 #[.val (.int p0), .val (.long q1), .second, .val (.long q2), .second, .val (.long q3), .second, .val (.long q4), .second, .val (.int (4 : Int32)), .val (.ref b30), .val (.int (if q1 = (0 : Int64) then (if q2 = (0 : Int64) then (if q3 = (0 : Int64) then (if q4 = (0 : Int64) then (1 : Int32) else (0 : Int32)) else (0 : Int32)) else (0 : Int32)) else (0 : Int32))), .val (.int (own_f1_4 q1 q2 q3 q4)), .unset] [(.long q3), (.long q3)]))
    refine own_go (fun _ k => XS.lcmp X40.here hx rfl (hb hby at_165) rfl k) ?_
    show own_Go p.tables e below _ (T40.setTop (mkF m 166 #[.val (.int p0), .val (.long q1), .second, .val (.long q2), .second, .val (.long q3), .second, .val (.long q4), .second, .val (.int (4 : Int32)), .val (.ref b30), .val (.int (if q1 = (0 : Int64) then (if q2 = (0 : Int64) then (if q3 = (0 : Int64) then (if q4 = (0 : Int64) then (1 : Int32) else (0 : Int32)) else (0 : Int32)) else (0 : Int32)) else (0 : Int32))), .val (.int (own_f1_4 q1 q2 q3 q4)), .unset] [(.int (lcmpW q3 q3))]))
    have hf166 : q3 = q3 := rfl
    refine own_go (fun _ k => XS.ifNo X40.here hx rfl (hb hby at_166) rfl ((if0 _ _).trans (teq ((lw_eq q3 q3).mpr hf166)).2) k) ?_
    show own_Go p.tables e below _ (T40.setTop (mkF m 169 #[.val (.int p0), .val (.long q1), .second, .val (.long q2), .second, .val (.long q3), .second, .val (.long q4), .second, .val (.int (4 : Int32)), .val (.ref b30), .val (.int (if q1 = (0 : Int64) then (if q2 = (0 : Int64) then (if q3 = (0 : Int64) then (if q4 = (0 : Int64) then (1 : Int32) else (0 : Int32)) else (0 : Int32)) else (0 : Int32)) else (0 : Int32))), .val (.int (own_f1_4 q1 q2 q3 q4)), .unset] []))
    refine own_go (fun _ k => XS.iload X40.here hx rfl (hb hby at_169) rfl k) ?_
    show own_Go p.tables e below _ (T40.setTop (mkF m 171 #[.val (.int p0), .val (.long q1), .second, .val (.long q2), .second, .val (.long q3), .second, .val (.long q4), .second, .val (.int (4 : Int32)), .val (.ref b30), .val (.int (if q1 = (0 : Int64) then (if q2 = (0 : Int64) then (if q3 = (0 : Int64) then (if q4 = (0 : Int64) then (1 : Int32) else (0 : Int32)) else (0 : Int32)) else (0 : Int32)) else (0 : Int32))), .val (.int (own_f1_4 q1 q2 q3 q4)), .unset] [(.int (4 : Int32))]))
    refine own_go (fun _ k => XS.iconst X40.here hx rfl (hb hby at_171) k) ?_
    show own_Go p.tables e below _ (T40.setTop (mkF m 172 #[.val (.int p0), .val (.long q1), .second, .val (.long q2), .second, .val (.long q3), .second, .val (.long q4), .second, .val (.int (4 : Int32)), .val (.ref b30), .val (.int (if q1 = (0 : Int64) then (if q2 = (0 : Int64) then (if q3 = (0 : Int64) then (if q4 = (0 : Int64) then (1 : Int32) else (0 : Int32)) else (0 : Int32)) else (0 : Int32)) else (0 : Int32))), .val (.int (own_f1_4 q1 q2 q3 q4)), .unset] [(.int (4 : Int32)), (.int (4 : Int32))]))
    have hf172 : ¬ ((4 : Int32) < (4 : Int32)) := by decide
    refine own_go (fun _ k => XS.icmpNo X40.here hx rfl (hb hby at_172) rfl (flt hf172).1 k) ?_
    show own_Go p.tables e below _ (T40.setTop (mkF m 175 #[.val (.int p0), .val (.long q1), .second, .val (.long q2), .second, .val (.long q3), .second, .val (.long q4), .second, .val (.int (4 : Int32)), .val (.ref b30), .val (.int (if q1 = (0 : Int64) then (if q2 = (0 : Int64) then (if q3 = (0 : Int64) then (if q4 = (0 : Int64) then (1 : Int32) else (0 : Int32)) else (0 : Int32)) else (0 : Int32)) else (0 : Int32))), .val (.int (own_f1_4 q1 q2 q3 q4)), .unset] []))
    refine own_go (fun _ k => XS.aload X40.here hx rfl (hb hby at_175) rfl rfl k) ?_
    show own_Go p.tables e below _ (T40.setTop (mkF m 177 #[.val (.int p0), .val (.long q1), .second, .val (.long q2), .second, .val (.long q3), .second, .val (.long q4), .second, .val (.int (4 : Int32)), .val (.ref b30), .val (.int (if q1 = (0 : Int64) then (if q2 = (0 : Int64) then (if q3 = (0 : Int64) then (if q4 = (0 : Int64) then (1 : Int32) else (0 : Int32)) else (0 : Int32)) else (0 : Int32)) else (0 : Int32))), .val (.int (own_f1_4 q1 q2 q3 q4)), .unset] [(.ref b30)]))
    refine own_go (fun _ k => XS.iconst X40.here hx rfl (hb hby at_177) k) ?_
    show own_Go p.tables e below _ (T40.setTop (mkF m 178 #[.val (.int p0), .val (.long q1), .second, .val (.long q2), .second, .val (.long q3), .second, .val (.long q4), .second, .val (.int (4 : Int32)), .val (.ref b30), .val (.int (if q1 = (0 : Int64) then (if q2 = (0 : Int64) then (if q3 = (0 : Int64) then (if q4 = (0 : Int64) then (1 : Int32) else (0 : Int32)) else (0 : Int32)) else (0 : Int32)) else (0 : Int32))), .val (.int (own_f1_4 q1 q2 q3 q4)), .unset] [(.int (3 : Int32)), (.ref b30)]))
    have vo44 := V38
    obtain ⟨cl44, Ar44, Aq44, AS44, AN44, AH44, AG44⟩ := vo44
    have hin44 : ¬ ((3 : Int32) < 0 ∨ cl44.slots.size ≤ ((3 : Int32)).toNatClampNeg) := inb_of AS44 ⟨by decide, by decide⟩
    have hat44 : cl44.slots[((3 : Int32)).toNatClampNeg]? = some (.long q4) := Has.at AH44 hin44 rfl
    refine own_go (fun _ k => X40.laload hx (j := (3 : Int32)) (v := (.long q4)) (by rw [(e40 : T40.heap = h38)]; exact Ar44.1) (State.isArrayOf_alike hZ.alike Ar44.2.1) Ar44.2.2 hin44 hat44 (g := (mkF m 178 #[.val (.int p0), .val (.long q1), .second, .val (.long q2), .second, .val (.long q3), .second, .val (.long q4), .second, .val (.int (4 : Int32)), .val (.ref b30), .val (.int (if q1 = (0 : Int64) then (if q2 = (0 : Int64) then (if q3 = (0 : Int64) then (if q4 = (0 : Int64) then (1 : Int32) else (0 : Int32)) else (0 : Int32)) else (0 : Int32)) else (0 : Int32))), .val (.int (own_f1_4 q1 q2 q3 q4)), .unset] [(.int (3 : Int32)), (.ref b30)])) rfl rfl (hb hby at_178) _ k) ?_
    show own_Go p.tables e below _ (T40.setTop (mkF m 179 #[.val (.int p0), .val (.long q1), .second, .val (.long q2), .second, .val (.long q3), .second, .val (.long q4), .second, .val (.int (4 : Int32)), .val (.ref b30), .val (.int (if q1 = (0 : Int64) then (if q2 = (0 : Int64) then (if q3 = (0 : Int64) then (if q4 = (0 : Int64) then (1 : Int32) else (0 : Int32)) else (0 : Int32)) else (0 : Int32)) else (0 : Int32))), .val (.int (own_f1_4 q1 q2 q3 q4)), .unset] [(.long q4)]))
    refine own_go (fun _ k => XS.lload X40.here hx rfl (hb hby at_179) rfl k) ?_
    show own_Go p.tables e below _ (T40.setTop (mkF m 181 #[.val (.int p0), .val (.long q1), .second, .val (.long q2), .second, .val (.long q3), .second, .val (.long q4), .second, .val (.int (4 : Int32)), .val (.ref b30), .val (.int (if q1 = (0 : Int64) then (if q2 = (0 : Int64) then (if q3 = (0 : Int64) then (if q4 = (0 : Int64) then (1 : Int32) else (0 : Int32)) else (0 : Int32)) else (0 : Int32)) else (0 : Int32))), .val (.int (own_f1_4 q1 q2 q3 q4)), .unset] [(.long q4), (.long q4)]))
    refine own_go (fun _ k => XS.lcmp X40.here hx rfl (hb hby at_181) rfl k) ?_
    show own_Go p.tables e below _ (T40.setTop (mkF m 182 #[.val (.int p0), .val (.long q1), .second, .val (.long q2), .second, .val (.long q3), .second, .val (.long q4), .second, .val (.int (4 : Int32)), .val (.ref b30), .val (.int (if q1 = (0 : Int64) then (if q2 = (0 : Int64) then (if q3 = (0 : Int64) then (if q4 = (0 : Int64) then (1 : Int32) else (0 : Int32)) else (0 : Int32)) else (0 : Int32)) else (0 : Int32))), .val (.int (own_f1_4 q1 q2 q3 q4)), .unset] [(.int (lcmpW q4 q4))]))
    have hf182 : q4 = q4 := rfl
    refine own_go (fun _ k => XS.ifNo X40.here hx rfl (hb hby at_182) rfl ((if0 _ _).trans (teq ((lw_eq q4 q4).mpr hf182)).2) k) ?_
    show own_Go p.tables e below _ (T40.setTop (mkF m 185 #[.val (.int p0), .val (.long q1), .second, .val (.long q2), .second, .val (.long q3), .second, .val (.long q4), .second, .val (.int (4 : Int32)), .val (.ref b30), .val (.int (if q1 = (0 : Int64) then (if q2 = (0 : Int64) then (if q3 = (0 : Int64) then (if q4 = (0 : Int64) then (1 : Int32) else (0 : Int32)) else (0 : Int32)) else (0 : Int32)) else (0 : Int32))), .val (.int (own_f1_4 q1 q2 q3 q4)), .unset] []))
    refine own_go (fun _ k => XS.iconst X40.here hx rfl (hb hby at_185) k) ?_
    show own_Go p.tables e below _ (T40.setTop (mkF m 186 #[.val (.int p0), .val (.long q1), .second, .val (.long q2), .second, .val (.long q3), .second, .val (.long q4), .second, .val (.int (4 : Int32)), .val (.ref b30), .val (.int (if q1 = (0 : Int64) then (if q2 = (0 : Int64) then (if q3 = (0 : Int64) then (if q4 = (0 : Int64) then (1 : Int32) else (0 : Int32)) else (0 : Int32)) else (0 : Int32)) else (0 : Int32))), .val (.int (own_f1_4 q1 q2 q3 q4)), .unset] [(.int (1 : Int32))]))
    refine own_go (fun _ k => XS.goto X40.here hx rfl (pc0 := 186) (pc' := 190) rfl (hb hby at_186) (by decide) (by decide) k) ?_
    show own_Go p.tables e below _ (T40.setTop (mkF m 190 #[.val (.int p0), .val (.long q1), .second, .val (.long q2), .second, .val (.long q3), .second, .val (.long q4), .second, .val (.int (4 : Int32)), .val (.ref b30), .val (.int (if q1 = (0 : Int64) then (if q2 = (0 : Int64) then (if q3 = (0 : Int64) then (if q4 = (0 : Int64) then (1 : Int32) else (0 : Int32)) else (0 : Int32)) else (0 : Int32)) else (0 : Int32))), .val (.int (own_f1_4 q1 q2 q3 q4)), .unset] [(.int (1 : Int32))]))
    refine own_go (fun _ k => XS.istore X40.here hx rfl (hb hby at_190) rfl (l' := #[.val (.int p0), .val (.long q1), .second, .val (.long q2), .second, .val (.long q3), .second, .val (.long q4), .second, .val (.int (4 : Int32)), .val (.ref b30), .val (.int (if q1 = (0 : Int64) then (if q2 = (0 : Int64) then (if q3 = (0 : Int64) then (if q4 = (0 : Int64) then (1 : Int32) else (0 : Int32)) else (0 : Int32)) else (0 : Int32)) else (0 : Int32))), .val (.int (own_f1_4 q1 q2 q3 q4)), .val (.int (1 : Int32))]) rfl k) ?_
    show own_Go p.tables e below _ (T40.setTop (mkF m 192 #[.val (.int p0), .val (.long q1), .second, .val (.long q2), .second, .val (.long q3), .second, .val (.long q4), .second, .val (.int (4 : Int32)), .val (.ref b30), .val (.int (if q1 = (0 : Int64) then (if q2 = (0 : Int64) then (if q3 = (0 : Int64) then (if q4 = (0 : Int64) then (1 : Int32) else (0 : Int32)) else (0 : Int32)) else (0 : Int32)) else (0 : Int32))), .val (.int (own_f1_4 q1 q2 q3 q4)), .val (.int (1 : Int32))] []))
    refine own_go (fun _ k => XS.iload X40.here hx rfl (hb hby at_192) rfl k) ?_
    show own_Go p.tables e below _ (T40.setTop (mkF m 194 #[.val (.int p0), .val (.long q1), .second, .val (.long q2), .second, .val (.long q3), .second, .val (.long q4), .second, .val (.int (4 : Int32)), .val (.ref b30), .val (.int (if q1 = (0 : Int64) then (if q2 = (0 : Int64) then (if q3 = (0 : Int64) then (if q4 = (0 : Int64) then (1 : Int32) else (0 : Int32)) else (0 : Int32)) else (0 : Int32)) else (0 : Int32))), .val (.int (own_f1_4 q1 q2 q3 q4)), .val (.int (1 : Int32))] [(.int (own_f1_4 q1 q2 q3 q4))]))
    refine own_go (fun _ k => XS.iload X40.here hx rfl (hb hby at_194) rfl k) ?_
    show own_Go p.tables e below _ (T40.setTop (mkF m 196 #[.val (.int p0), .val (.long q1), .second, .val (.long q2), .second, .val (.long q3), .second, .val (.long q4), .second, .val (.int (4 : Int32)), .val (.ref b30), .val (.int (if q1 = (0 : Int64) then (if q2 = (0 : Int64) then (if q3 = (0 : Int64) then (if q4 = (0 : Int64) then (1 : Int32) else (0 : Int32)) else (0 : Int32)) else (0 : Int32)) else (0 : Int32))), .val (.int (own_f1_4 q1 q2 q3 q4)), .val (.int (1 : Int32))] [(.int (if q1 = (0 : Int64) then (if q2 = (0 : Int64) then (if q3 = (0 : Int64) then (if q4 = (0 : Int64) then (1 : Int32) else (0 : Int32)) else (0 : Int32)) else (0 : Int32)) else (0 : Int32))), (.int (own_f1_4 q1 q2 q3 q4))]))
    have hf196 : (own_f1_4 q1 q2 q3 q4) = (if q1 = (0 : Int64) then (if q2 = (0 : Int64) then (if q3 = (0 : Int64) then (if q4 = (0 : Int64) then (1 : Int32) else (0 : Int32)) else (0 : Int32)) else (0 : Int32)) else (0 : Int32)) := own_e4 _ _ _ _
    refine own_go (fun _ k => XS.icmpNo X40.here hx rfl (hb hby at_196) rfl (teq hf196).2 k) ?_
    show own_Go p.tables e below _ (T40.setTop (mkF m 199 #[.val (.int p0), .val (.long q1), .second, .val (.long q2), .second, .val (.long q3), .second, .val (.long q4), .second, .val (.int (4 : Int32)), .val (.ref b30), .val (.int (if q1 = (0 : Int64) then (if q2 = (0 : Int64) then (if q3 = (0 : Int64) then (if q4 = (0 : Int64) then (1 : Int32) else (0 : Int32)) else (0 : Int32)) else (0 : Int32)) else (0 : Int32))), .val (.int (own_f1_4 q1 q2 q3 q4)), .val (.int (1 : Int32))] []))
    refine own_go (fun _ k => XS.iload X40.here hx rfl (hb hby at_199) rfl k) ?_
    show own_Go p.tables e below _ (T40.setTop (mkF m 201 #[.val (.int p0), .val (.long q1), .second, .val (.long q2), .second, .val (.long q3), .second, .val (.long q4), .second, .val (.int (4 : Int32)), .val (.ref b30), .val (.int (if q1 = (0 : Int64) then (if q2 = (0 : Int64) then (if q3 = (0 : Int64) then (if q4 = (0 : Int64) then (1 : Int32) else (0 : Int32)) else (0 : Int32)) else (0 : Int32)) else (0 : Int32))), .val (.int (own_f1_4 q1 q2 q3 q4)), .val (.int (1 : Int32))] [(.int (1 : Int32))]))
    have hf201 : ¬ ((1 : Int32) = (0 : Int32)) := by decide
    refine own_go (fun _ k => XS.ifNo X40.here hx rfl (hb hby at_201) rfl ((if0 _ _).trans (feq hf201).1) k) ?_
    show own_Go p.tables e below _ (T40.setTop (mkF m 204 #[.val (.int p0), .val (.long q1), .second, .val (.long q2), .second, .val (.long q3), .second, .val (.long q4), .second, .val (.int (4 : Int32)), .val (.ref b30), .val (.int (if q1 = (0 : Int64) then (if q2 = (0 : Int64) then (if q3 = (0 : Int64) then (if q4 = (0 : Int64) then (1 : Int32) else (0 : Int32)) else (0 : Int32)) else (0 : Int32)) else (0 : Int32))), .val (.int (own_f1_4 q1 q2 q3 q4)), .val (.int (1 : Int32))] []))
    refine own_go (fun _ k => XS.iconst X40.here hx rfl (hb hby at_204) k) ?_
    show own_Go p.tables e below _ (T40.setTop (mkF m 205 #[.val (.int p0), .val (.long q1), .second, .val (.long q2), .second, .val (.long q3), .second, .val (.long q4), .second, .val (.int (4 : Int32)), .val (.ref b30), .val (.int (if q1 = (0 : Int64) then (if q2 = (0 : Int64) then (if q3 = (0 : Int64) then (if q4 = (0 : Int64) then (1 : Int32) else (0 : Int32)) else (0 : Int32)) else (0 : Int32)) else (0 : Int32))), .val (.int (own_f1_4 q1 q2 q3 q4)), .val (.int (1 : Int32))] [(.int (1 : Int32))]))
    refine own_go (fun _ k => XS.goto X40.here hx rfl (pc0 := 205) (pc' := 209) rfl (hb hby at_205) (by decide) (by decide) k) ?_
    show own_Go p.tables e below _ (T40.setTop (mkF m 209 #[.val (.int p0), .val (.long q1), .second, .val (.long q2), .second, .val (.long q3), .second, .val (.long q4), .second, .val (.int (4 : Int32)), .val (.ref b30), .val (.int (if q1 = (0 : Int64) then (if q2 = (0 : Int64) then (if q3 = (0 : Int64) then (if q4 = (0 : Int64) then (1 : Int32) else (0 : Int32)) else (0 : Int32)) else (0 : Int32)) else (0 : Int32))), .val (.int (own_f1_4 q1 q2 q3 q4)), .val (.int (1 : Int32))] [(.int (1 : Int32))]))
    refine own_end X40 Bd.notSynchronized (v := some (.int (1 : Int32))) (fun h => by rw [Bd.returns] at h; cases h) (fun fs hr => retN X40 hx (t := .boolean) Bd.returns (by simp) (hb hby at_209) hr) ?_ (by decide) (by decide)
    exact ⟨rfl, N40⟩
set_option maxRecDepth 65536 in
set_option maxHeartbeats 40000000 in
theorem comes_1 {Post : Tables → Env → Array Value → State → Outcome → State → Prop} (hpost : ∀ tb e args s v u, (limb_1_1.after args s (.returned v) u = true ∧ limb_1_2.after args s (.returned v) u = true ∧ True) → FrameEnd s (.returned v) u (Jvm.fieldLocs frame_1_writes args s ++ Jvm.arrayLocs frame_1_arrays args s ++ Jvm.staticLocs frame_1_statics s) 16 128 → Post tb e args s (.returned v) u) :
    ArmFor flags0 classFile x code maxLocals ret World_1 tables_1 room_1 Calls_1 rest_1 Pre_1 Post := by
  intro l hfl _ _ p e ha hc hk s m args below hf hA hF happ hP
  obtain ⟨hcalls, hrest, hpre⟩ := hP
  obtain ⟨-, -, -, hnamed, -, -, -, hat⟩ := (Spec.applies_iff hf).mp happ
  obtain ⟨hg, hn⟩ := and_e (Cond.before_iff.mp (show (Jvm.Cond.and given_1 narrow_1).before args s = true from hpre))
  obtain ⟨g1, g2⟩ := and_e hg
  obtain ⟨g3, g4⟩ := and_e g2
  obtain ⟨g5, g6⟩ := and_e g4
  obtain ⟨g7, g8⟩ := and_e g6
  obtain ⟨g9, g10⟩ := and_e g8
  obtain ⟨w0, w1, w2, w3, w4, rfl⟩ : ∃ w0 w1 w2 w3 w4 : Value, args = #[w0, w1, w2, w3, w4] := by
    have hs : args.size = 5 := by simpa [Cond.value, given_1] using g1
    obtain ⟨L⟩ := args
    match L, hs with
    | [w0, w1, w2, w3, w4], _ => exact ⟨w0, w1, w2, w3, w4, rfl⟩
  have hw := fun d (hd : d ∈ tables_1) => atoms_spec (ws := Jvm.Cond.code x code maxLocals ret :: tables_1) hat d (List.mem_cons_of_mem _ hd)
  obtain ⟨i0, ei0⟩ := is_v g3
  obtain rfl : w0 = (.int i0) := Option.some.inj ei0
  obtain ⟨i1, ei1⟩ := isL_v g5
  obtain rfl : w1 = (.long i1) := Option.some.inj ei1
  obtain ⟨i2, ei2⟩ := isL_v g7
  obtain rfl : w2 = (.long i2) := Option.some.inj ei2
  obtain ⟨i3, ei3⟩ := isL_v g9
  obtain rfl : w3 = (.long i3) := Option.some.inj ei3
  obtain ⟨i4, ei4⟩ := isL_v g10
  obtain rfl : w4 = (.long i4) := Option.some.inj ei4
  obtain ⟨n, o, h1, h2, h3, _, L, rfl, ⟨rfl, N⟩, hq⟩ := rm0 l s _ hw tables_1 i0 i1 i2 i3 i4 s.heap s.heap.size (Nat.le_refl _) p e ha hc hk s m _ below hf ((Spec.applies_iff_loose hf).mp happ).1 ⟨rfl, State.Warmed39.refl s, rfl⟩ trivial
  refine ⟨n, _, h1, h2, h3, hpost _ _ _ _ _ _ ⟨Cond.after_iff.mpr rfl, Cond.after_iff.mpr (eq_i res_at (Term.int_eval (1)) rfl), trivial⟩ ⟨hq.1, hq.2.1, (hq.2.2.sift fun y hy => Or.inr (N y hy)).mono (by decide) (by decide)⟩⟩
theorem main_1_1 : Claimed_1_1 := comes_1 fun _ _ _ _ _ _ h hF => ⟨h.1, hF⟩
theorem main_1_2 : Claimed_1_2 := comes_1 fun _ _ _ _ _ _ h hF => ⟨h.2.1, hF⟩
end Jvm.Pilot.@@N@@
namespace Jvm.Pilot.@@N@@
open Jvm Jvm.ClassFile Sem Op Lib Jvm.Free Jvm.Stand Jvm.Pilot.@@N@@.Jvm.D
/-! MADE BY PROGRAM (witnessworld.py) out of the Statement's table words and the real class files: 11 classes; the members and pool entries that the words name. The judged class is class 1, her method 1. -/
namespace start1
open Jvm.ClassFile
def u (s : String) : CpInfo := .utf8 (stringToUtf16 s)
/-- a pool by its gaps: so many unusable entries, then the entry; so many at the end -/
def gap : Nat → List CpInfo → List CpInfo
  | 0, r => r
  | n + 1, r => .unusable :: gap n r
def poolList (es : List (Nat × CpInfo)) (last : Nat) : List CpInfo := es.foldr (fun e r => gap e.1 (e.2 :: r)) (gap last [])
def pool (es : List (Nat × CpInfo)) (last : Nat) : Array CpInfo := ⟨poolList es last⟩
def fileOf (pool : Array CpInfo) (this : Nat) (attrs : Array Attribute := #[]) (ms : Array MethodInfo := #[]) (fl : Nat := 33) (sup : Nat := 0) (ifs : Array Nat := #[]) (fds : Array FieldInfo := #[]) : ClassFile where
  minorVersion := 0
  majorVersion := 65
  constantPool := pool
  accessFlags := fl
  thisClass := this
  superClass := sup
  interfaces := ifs
  fields := fds
  methods := ms
  attributes := attrs
def plain (name : String) (sup : Option ClassId) : Class where
  name := name
  kind := .ordinary
  loader := none
  accessFlags := 33
  super := sup
  interfaces := #[]
  cf := none
  fields := #[]
  methods := #[]
  instanceTypes := #[]
  staticTypes := #[]
  resolved := #[]
  callSites := []
  init := .initialized
  statics := none
  mirror := none

def pool0 : Array CpInfo := pool [(5, u "<init>"), (0, u "()V"), (1, .class_ 10), (1, u "java/lang/Object")] 113

def k0m0 : Method := { name := "<init>", desc := "()V", sig := { parameters := [], returnType := none }, accessFlags := 1, code := none }
/-- java/lang/Object -/
def k0 : Class := { plain "java/lang/Object" none with
  accessFlags := 33
  interfaces := #[]
  cf := some (fileOf pool0 8 #[] #[{ accessFlags := 1, nameIndex := 5, descriptorIndex := 6, attributes := #[] }] 33 0 #[] #[])
  fields := #[]
  methods := #[k0m0]
  instanceTypes := #[]
  staticTypes := #[]
  resolved := Array.replicate 124 none
  statics := none }

def pool1 : Array CpInfo := pool [(2, .class_ 4), (1, u "java/lang/Object"), (0, u "<init>"), (0, u "()V"), (0, .integer 2147483647), (0, .methodref 9 10), (0, .class_ 11), (0, .nameAndType 12 13), (0, u "com/example/meshwright/meshwright/plan/PathCrossings"), (0, u "empty"), (0, u "([J)Z"), (0, .class_ 15), (0, u "com/example/meshwright/meshwright/plan/PathCrossingsEmptyPinLaw"), (2, u "law"), (0, u "(IJJJJ)Z")] 5

def k1m0 : Method := { name := "<init>", desc := "()V", sig := { parameters := [], returnType := none }, accessFlags := 1, code := none }
def k1c1 : Code := { maxStack := 4, maxLocals := 14, code := code, exceptionTable := #[], attributes := #[] }
def k1m1 : Method := { name := "law", desc := "(IJJJJ)Z", sig := { parameters := [.int, .long, .long, .long, .long], returnType := some .boolean }, accessFlags := 9, code := some k1c1 }
/-- com/example/meshwright/meshwright/plan/PathCrossingsEmptyPinLaw -/
def k1 : Class := { plain "com/example/meshwright/meshwright/plan/PathCrossingsEmptyPinLaw" (some 0) with
  accessFlags := 49
  interfaces := #[]
  cf := some (fileOf pool1 14 #[] #[{ accessFlags := 1, nameIndex := 5, descriptorIndex := 6, attributes := #[] }, { accessFlags := 9, nameIndex := 18, descriptorIndex := 19, attributes := #[] }] 49 2 #[] #[])
  fields := #[]
  methods := #[k1m0, k1m1]
  instanceTypes := #[]
  staticTypes := #[]
  resolved := Array.replicate 25 none
  statics := none }

def pool2 : Array CpInfo := pool [(2, .class_ 4), (1, u "java/lang/Object"), (3, .class_ 10), (1, u "com/example/meshwright/meshwright/plan/PathCrossings"), (0, u "words"), (3, u "I"), (2, u "length"), (2, u "partOf"), (0, u "[I"), (6, u "[[J"), (2, u "parts"), (6, u "reach"), (0, u "[[[J"), (2, u "crossed"), (0, u "[J"), (2, u "seen"), (2, u "firstSeen"), (2, u "touched"), (46, u "empty"), (0, u "([J)Z")] 25

def k2c0 : Code := { maxStack := 4, maxLocals := 3, code := prog_47_method_5_code, exceptionTable := #[], attributes := #[] }
def k2m0 : Method := { name := "empty", desc := "([J)Z", sig := { parameters := [(.array .long)], returnType := some .boolean }, accessFlags := 8, code := some k2c0 }
/-- com/example/meshwright/meshwright/plan/PathCrossings -/
def k2 : Class := { plain "com/example/meshwright/meshwright/plan/PathCrossings" (some 0) with
  accessFlags := 48
  interfaces := #[]
  cf := some (fileOf pool2 8 #[] #[{ accessFlags := 8, nameIndex := 100, descriptorIndex := 101, attributes := #[] }] 48 2 #[] #[{ accessFlags := 18, nameIndex := 11, descriptorIndex := 15, attributes := #[] }, { accessFlags := 18, nameIndex := 18, descriptorIndex := 15, attributes := #[] }, { accessFlags := 18, nameIndex := 21, descriptorIndex := 22, attributes := #[] }, { accessFlags := 18, nameIndex := 32, descriptorIndex := 29, attributes := #[] }, { accessFlags := 18, nameIndex := 39, descriptorIndex := 40, attributes := #[] }, { accessFlags := 18, nameIndex := 43, descriptorIndex := 44, attributes := #[] }, { accessFlags := 18, nameIndex := 47, descriptorIndex := 22, attributes := #[] }, { accessFlags := 18, nameIndex := 50, descriptorIndex := 22, attributes := #[] }, { accessFlags := 18, nameIndex := 53, descriptorIndex := 22, attributes := #[] }])
  fields := #[{ name := "words", type := .int, accessFlags := 18, slot := 0, constantValue := 0 }, { name := "length", type := .int, accessFlags := 18, slot := 1, constantValue := 0 }, { name := "partOf", type := (.array .int), accessFlags := 18, slot := 2, constantValue := 0 }, { name := "parts", type := (.array (.array .long)), accessFlags := 18, slot := 3, constantValue := 0 }, { name := "reach", type := (.array (.array (.array .long))), accessFlags := 18, slot := 4, constantValue := 0 }, { name := "crossed", type := (.array .long), accessFlags := 18, slot := 5, constantValue := 0 }, { name := "seen", type := (.array .int), accessFlags := 18, slot := 6, constantValue := 0 }, { name := "firstSeen", type := (.array .int), accessFlags := 18, slot := 7, constantValue := 0 }, { name := "touched", type := (.array .int), accessFlags := 18, slot := 8, constantValue := 0 }]
  methods := #[k2m0]
  instanceTypes := #[.int, .int, (.array .int), (.array (.array .long)), (.array (.array (.array .long))), (.array .long), (.array .int), (.array .int), (.array .int)]
  staticTypes := #[]
  resolved := Array.replicate 127 none
  statics := none }

def pool3 : Array CpInfo := pool [(1, u "java/lang/Cloneable"), (0, .class_ 1), (0, u "java/lang/Object"), (0, .class_ 3)] 3

/-- java/lang/Cloneable -/
def k3 : Class := { plain "java/lang/Cloneable" (some 0) with
  accessFlags := 1537
  interfaces := #[]
  cf := some (fileOf pool3 2 #[] #[] 1537 4 #[] #[])
  fields := #[]
  methods := #[]
  instanceTypes := #[]
  staticTypes := #[]
  resolved := Array.replicate 8 none
  statics := none }

def pool4 : Array CpInfo := pool [(1, u "java/io/Serializable"), (0, .class_ 1), (0, u "java/lang/Object"), (0, .class_ 3)] 3

/-- java/io/Serializable -/
def k4 : Class := { plain "java/io/Serializable" (some 0) with
  accessFlags := 1537
  interfaces := #[]
  cf := some (fileOf pool4 2 #[] #[] 1537 4 #[] #[])
  fields := #[]
  methods := #[]
  instanceTypes := #[]
  staticTypes := #[]
  resolved := Array.replicate 8 none
  statics := none }

/-- the primitive byte -/
def k5 : Class := { plain "byte" none with kind := .primitive 'B', accessFlags := 0x411 }
/-- [B -/
def k6 : Class := { plain "[B" (some 0) with kind := .array 5 .byte, interfaces := #[3, 4], accessFlags := 1041 }

/-- the primitive int -/
def k7 : Class := { plain "int" none with kind := .primitive 'I', accessFlags := 0x411 }
/-- [I -/
def k8 : Class := { plain "[I" (some 0) with kind := .array 7 .int, interfaces := #[3, 4], accessFlags := 1041 }

/-- the primitive long -/
def k9 : Class := { plain "long" none with kind := .primitive 'J', accessFlags := 0x411 }
/-- [J -/
def k10 : Class := { plain "[J" (some 0) with kind := .array 9 .long, interfaces := #[3, 4], accessFlags := 1041 }

def heap : Heap := #[]
def classes : Array Class := #[k0, k1, k2, k3, k4, k5, k6, k7, k8, k9, k10]
def interned : List (Array UInt16 × Addr) := []
def slotsUsed : Nat := 0
def theMethod : MethodId := ⟨1, 1⟩
def args0 : Array Value := #[.int 3, .long 5, .long 0, .long 6, .long 7]
def aboutOver (below : List Frame) : State where
  vm := { classes := classes, interned := interned.toArray }
  heap := heap
  slotsUsed := slotsUsed
  threads := #[{ frames := .invoking theMethod args0 :: below }]
def below0 : List Frame := [.native { method := ⟨0, 0⟩, args := #[] }]
def about1 : State := aboutOver below0
def p0 : Program := .bare "" "" ""
def e0 : Env := launch0.env 0 0 0
theorem w_frames : about1.frames = Frame.invoking theMethod args0 :: below0 := rfl
set_option maxRecDepth 65536 in
theorem w_args : argsFit about1.vm theMethod args0 = true := by decide +kernel
set_option maxRecDepth 65536 in
theorem w_heap : heapFits about1 = true := by decide +kernel
set_option maxRecDepth 65536 in
theorem w_runnable : about1.curStatus? = some .runnable := by decide +kernel
set_option maxRecDepth 65536 in
theorem w_alone : about1.alone = true := by decide +kernel
set_option maxRecDepth 65536 in
theorem w_named : about1.methodNamed? x = some theMethod := by decide +kernel
set_option maxRecDepth 65536 in
theorem w_hears : about1.hears theMethod below0 = true := by decide +kernel
set_option maxRecDepth 65536 in
theorem w_ripe : about1.ripe theMethod args0 below0 = true := by decide +kernel
theorem w_running : about1.status = .running := rfl
set_option maxRecDepth 65536 in
theorem w_room : about1.hasRoom e0.platform room_1 = true :=
  launch0.hasRoom_least _ room_1 (by decide +kernel) (by decide +kernel) (by decide +kernel) (by decide +kernel) (by decide +kernel) (by decide +kernel)
theorem allAtoms_all (ts : List Jvm.Cond) (a : Array Jvm.Value) (st : Jvm.State) : (allAtoms ts).before a st = ts.all (fun c => c.before a st) := by
  induction ts with
  | nil => rfl
  | cons c t ih =>
    show (Jvm.Cond.and c (allAtoms t)).before a st = _
    rw [Jvm.Cond.before_and, ih, List.all_cons]
def words1 : List Jvm.Cond := Jvm.Cond.code x code maxLocals ret :: tables_1
/-- a 'code' word, met by the world's own term for the bytes: nothing is compared byte by byte -/
theorem code_word {y : MethodName} {bytes : ByteArray} {mx : Nat} {rt : Option FieldType} {a : Array Value} {s : State} {m : MethodId} {meth : Method} {c : Code} (h1 : s.methodNamed? y = some m) (h2 : s.vm.method? m = some meth) (h3 : meth.code = some c) (h4 : c.code = bytes)
    (h5 : (c.maxLocals == mx && c.exceptionTable.isEmpty && decide (c.maxStack ≤ mostOperands) && decide (meth.sig.returnType = rt) && !meth.locks && decide (parseMethodDescriptor y.desc = some meth.sig)) = true) : (Jvm.Cond.code y bytes mx rt).before a s = true := by
  simp only [Bool.and_eq_true, beq_iff_eq, Bool.not_eq_true', decide_eq_true_eq] at h5
  obtain ⟨⟨⟨⟨⟨g1, g2⟩, g3⟩, g4⟩, g5⟩, g6⟩ := h5
  simp [Cond.before, Cond.holds, Cond.value, h1, h2, h3, h4, g1, g2, g3, g4, g5, g6]
def isCode : Jvm.Cond → Bool
  | .code _ _ _ _ => true
  | _ => false
theorem all_split {L : List Jvm.Cond} {P : Jvm.Cond → Bool} (h1 : L.all (fun c => isCode c || P c) = true) (h2 : ∀ c ∈ L.filter isCode, P c = true) : L.all P = true := by
  refine List.all_eq_true.mpr fun c hc => ?_
  have h := List.all_eq_true.mp h1 c hc
  rcases Bool.eq_false_or_eq_true (isCode c) with hi | hi
  · exact h2 c (List.mem_filter.mpr ⟨hc, hi⟩)
  · simpa [hi] using h
set_option maxRecDepth 65536 in
theorem w_c0 : (Jvm.Cond.code x code maxLocals ret).before args0 about1 = true := code_word (m := ⟨1, 1⟩) (meth := k1m1) (c := k1c1) (by decide +kernel) rfl rfl rfl (by decide +kernel)
set_option maxRecDepth 65536 in
theorem w_c1 : (Jvm.Cond.code ({ cls := "com/example/meshwright/meshwright/plan/PathCrossings", name := "empty", desc := "([J)Z" } : Jvm.MethodName) prog_47_method_5_code (3 : Nat) (Option.some Jvm.ClassFile.FieldType.boolean)).before args0 about1 = true := code_word (m := ⟨2, 0⟩) (meth := k2m0) (c := k2c0) (by decide +kernel) rfl rfl rfl (by decide +kernel)
def codes1 : List Jvm.Cond := [Jvm.Cond.code x code maxLocals ret, Jvm.Cond.code ({ cls := "com/example/meshwright/meshwright/plan/PathCrossings", name := "empty", desc := "([J)Z" } : Jvm.MethodName) prog_47_method_5_code (3 : Nat) (Option.some Jvm.ClassFile.FieldType.boolean)]
set_option maxRecDepth 65536 in
theorem codes_eq : words1.filter isCode = codes1 := rfl
theorem w_codes : ∀ c ∈ words1.filter isCode, c.before args0 about1 = true := by
  rw [codes_eq]
  intro c hc
  simp only [codes1, List.mem_cons, List.not_mem_nil, or_false] at hc
  rcases hc with rfl | rfl
  · exact w_c0
  · exact w_c1
set_option maxRecDepth 65536 in
theorem w_t1 : words1.all (fun c => isCode c || c.before args0 about1) = true := by decide +kernel
theorem w_tables : (allAtoms (Jvm.Cond.code x code maxLocals ret :: tables_1)).before args0 about1 = true := by
  rw [allAtoms_all]
  show words1.all (fun c => c.before args0 about1) = true
  refine all_split ?_ w_codes
  rw [w_t1]
set_option maxRecDepth 65536 in
theorem w_case : (Jvm.Cond.and given_1 narrow_1).before args0 about1 = true := by decide +kernel
theorem w_applies : (headSpec (Jvm.Cond.code x code maxLocals ret :: tables_1) room_1).applies x e0.platform about1 = true :=
  (Spec.applies_iff w_frames).mpr ⟨w_running, w_runnable, w_alone, w_named, w_hears, w_ripe, w_room, w_tables⟩
theorem atStart : AtStart classFile x code maxLocals ret World_1 tables_1 room_1 Calls_1 rest_1 Pre_1 launch0 p0 e0 about1 theMethod args0 below0 :=
  ⟨lists_1, trivial, launch0.admits_env _ _ _, launch0.least_env, fairChoices_fair.cas, fairChoices_fair.clock, w_frames, w_args, w_heap, w_applies, trivial, trivial, w_case⟩
end start1
theorem witness_1 : WitnessClaimed_1 := ⟨start1.p0, start1.e0, start1.about1, start1.theMethod, start1.args0, start1.below0, start1.atStart⟩
end Jvm.Pilot.@@N@@
