import JvmDerived
import JvmDerived.Pilot.@@N@@Statement
import JvmDerived.Pilot.@@N@@Code
set_option linter.unusedVariables false
set_option linter.unusedSimpArgs false

namespace Jvm.Pilot.@@N@@
open Jvm Jvm.ClassFile Sem Op Lib Jvm.Free Jvm.Stand Jvm.LawKit Jvm.RoadKit Bundle Jvm.Pilot.@@N@@.Jvm.D
/-- the run from U comes to an end of which P holds -/
def own_Go (tb : Tables) (e : Env) (below : List Frame) (P : Outcome → State → Prop) (U : State) : Prop :=
  ∃ s₂ o, Steps tb e below U s₂ ∧ s₂.status = .running ∧ Ended s₂ below o ∧ P o s₂
theorem own_go {tb : Tables} {e : Env} {below : List Frame} {P : Outcome → State → Prop} {U U' : State} (k : ∀ t, Steps tb e below U' t → Steps tb e below U t) (h : own_Go tb e below P U') : own_Go tb e below P U := by
  obtain ⟨t, o, h1, h2⟩ := h
  exact ⟨t, o, k t h1, h2⟩
section Own
variable {p : Program} {l : Launch} {e : Env} {R : Room} {s : State} {m : MethodId} {args : Array Value} {below : List Frame} {meth : Method} {c : Code} {T : State} {locs : List Loc} {cells slots : Nat}
theorem own_retI (X : Stand p l e R s m args below meth c T locs cells slots) (hx : p.tables.exec = Jvm.exec) {pc : Nat} {Ls : Array Slot} {z : Int32} {rest : List Value} (hret : meth.sig.returnType = some .int) (hd : decode c.code pc = .ok (.ireturn, 1)) {fs : List Frame}
    (hl : ∀ (f : JFrame) (acts : List Action), f.method = m → f.locked = none → f.entered = [] → (doReturn e (T.setTop f) acts (some (.int z))).1 = T.setFrames fs) : Steps p.tables e below (T.setTop (mkF m pc Ls (.int z :: rest))) (T.setFrames fs) := by
  have hm' : T.vm.method? m = some meth := X.method'
  have hn : narrow .int (.int z) = .int z := rfl
  show Steps p.tables e below (T.setTop { method := m, pc := pc, locals := Ls, stack := _ :: rest, locked := none }) _
  jvm_step X.here [X.here.top, hx, hd, hm', hret, hn]
  first | (intro acts; rw [hl _ acts rfl rfl rfl]) | rw [hl _ _ rfl rfl rfl]
  exact Steps.refl _
theorem own_retJ (X : Stand p l e R s m args below meth c T locs cells slots) (hx : p.tables.exec = Jvm.exec) {pc : Nat} {Ls : Array Slot} {z : Int64} {rest : List Value} (hret : meth.sig.returnType = some .long) (hd : decode c.code pc = .ok (.lreturn, 1)) {fs : List Frame}
    (hl : ∀ (f : JFrame) (acts : List Action), f.method = m → f.locked = none → f.entered = [] → (doReturn e (T.setTop f) acts (some (.long z))).1 = T.setFrames fs) : Steps p.tables e below (T.setTop (mkF m pc Ls (.long z :: rest))) (T.setFrames fs) := by
  have hm' : T.vm.method? m = some meth := X.method'
  show Steps p.tables e below (T.setTop { method := m, pc := pc, locals := Ls, stack := _ :: rest, locked := none }) _
  jvm_step X.here [X.here.top, hx, hd, hm', hret, narrow]
  first | (intro acts; rw [hl _ acts rfl rfl rfl]) | rw [hl _ _ rfl rfl rfl]
  exact Steps.refl _
theorem own_mapI (xs : List Int32) (i : Nat) : (xs.map Value.int).getD i (.int 0) = .int (xs.getD i 0) := by
  simp only [List.getD_eq_getElem?_getD, List.getElem?_map]; cases xs[i]? <;> rfl
theorem own_mapJ (xs : List Int64) (i : Nat) : (xs.map Value.long).getD i (.long 0) = .long (xs.getD i 0) := by
  simp only [List.getD_eq_getElem?_getD, List.getElem?_map]; cases xs[i]? <;> rfl
theorem own_kx {h h' : Heap} (K : Keep h h' []) : Ext h h' := ⟨K.1, fun a c q => K.2.1 a c q (by simp)⟩
theorem own_retA (X : Stand p l e R s m args below meth c T locs cells slots) (hx : p.tables.exec = Jvm.exec) {pc : Nat} {Ls : Array Slot} {z : Addr} {rest : List Value} {C : String} (hret : meth.sig.returnType = some (.object C)) (hd : decode c.code pc = .ok (.areturn, 1)) {fs : List Frame}
    (hl : ∀ (f : JFrame) (acts : List Action), f.method = m → f.locked = none → f.entered = [] → (doReturn e (T.setTop f) acts (some (.ref z))).1 = T.setFrames fs) : Steps p.tables e below (T.setTop (mkF m pc Ls (.ref z :: rest))) (T.setFrames fs) := by
  have hm' : T.vm.method? m = some meth := X.method'
  show Steps p.tables e below (T.setTop { method := m, pc := pc, locals := Ls, stack := _ :: rest, locked := none }) _
  jvm_step X.here [X.here.top, hx, hd, hm', hret, Value.isRef, FieldType.isReference]
  first | (intro acts; rw [hl _ acts rfl rfl rfl]) | rw [hl _ _ rfl rfl rfl]
  exact Steps.refl _
theorem own_endH {Q : Option Value → Heap → List Loc → Prop} {kc ks n : Nat} {vm₁ : Vm} {Z : State} {EL : List (String × Nat)} (X : Stand p l e R (s.setVm vm₁) m args below meth c T locs cells slots) (hC : CHr Z EL s.vm s.heap T.vm T.heap) (hS : s.Since vm₁ n) (hn : n ≤ T.heap.size) (hlocks : meth.locks = false) {g : JFrame} {v : Option Value}
    (hv : meth.sig.returnType = none → v = none)
    (hs : ∀ fs, (∀ (f : JFrame) (acts : List Action), f.method = m → f.locked = none → f.entered = [] → (doReturn e (T.setTop f) acts v).1 = T.setFrames fs) → Steps p.tables e below (T.setTop g) (T.setFrames fs))
    (hQ : Q v T.heap locs) (h1 : cells ≤ kc) (h2 : slots ≤ ks) :
    own_Go p.tables e below (fun o U' => ∃ v L, o = .returned v ∧ Q v U'.heap L ∧ CHr Z EL s.vm s.heap U'.vm U'.heap ∧ ReturnedEndW s o U' L kc ks) (T.setTop g) := by
  obtain ⟨fs, hr, hrun, hended, h3, h4, h5, h6⟩ := X.leaveW hS hn (v := v) hv hlocks
  exact ⟨_, _, hs fs hr, hrun, hended, _, _, rfl, hQ, hC, h3, h4, h5, h6.mono h1 h2⟩
theorem own_endW {Q : Option Value → Heap → List Loc → Prop} {kc ks n : Nat} {vm₁ : Vm} (X : Stand p l e R (s.setVm vm₁) m args below meth c T locs cells slots) (hS : s.Since vm₁ n) (hn : n ≤ T.heap.size) (hlocks : meth.locks = false) {g : JFrame} {v : Option Value}
    (hv : meth.sig.returnType = none → v = none)
    (hs : ∀ fs, (∀ (f : JFrame) (acts : List Action), f.method = m → f.locked = none → f.entered = [] → (doReturn e (T.setTop f) acts v).1 = T.setFrames fs) → Steps p.tables e below (T.setTop g) (T.setFrames fs))
    (hQ : Q v T.heap locs) (h1 : cells ≤ kc) (h2 : slots ≤ ks) :
    own_Go p.tables e below (fun o U' => ∃ v L, o = .returned v ∧ Q v U'.heap L ∧ ReturnedEndW s o U' L kc ks) (T.setTop g) := by
  obtain ⟨fs, hr, hrun, hended, h3, h4, h5, h6⟩ := X.leaveW hS hn (v := v) hv hlocks
  exact ⟨_, _, hs fs hr, hrun, hended, _, _, rfl, hQ, h3, h4, h5, h6.mono h1 h2⟩
theorem own_end {Q : Option Value → Heap → List Loc → Prop} {kc ks : Nat} (X : Stand p l e R s m args below meth c T locs cells slots) (hlocks : meth.locks = false) {g : JFrame} {v : Option Value}
    (hv : meth.sig.returnType = none → v = none)
    (hs : ∀ fs, (∀ (f : JFrame) (acts : List Action), f.method = m → f.locked = none → f.entered = [] → (doReturn e (T.setTop f) acts v).1 = T.setFrames fs) → Steps p.tables e below (T.setTop g) (T.setFrames fs))
    (hQ : Q v T.heap locs) (h1 : cells ≤ kc) (h2 : slots ≤ ks) :
    own_Go p.tables e below (fun o U' => ∃ v L, o = .returned v ∧ Q v U'.heap L ∧ FrameEnd s o U' L kc ks) (T.setTop g) := by
  obtain ⟨fs, hr, hrun, hended, hW, hsame⟩ := X.leave (v := v) hv hlocks
  exact ⟨_, _, hs fs hr, hrun, hended, _, _, rfl, hQ, ⟨_, rfl⟩, hW, hsame.mono h1 h2⟩
end Own
def own_f1 (p0 : Int32) : Int32 :=
  ((p0 &&& (2147483647 : Int32)) - ((p0 &&& (2147483647 : Int32)) / (5 : Int32)) * (5 : Int32))
theorem d1_0 : decode method_2_code 0 = .ok (.iload_n 0, 1) := by decide +kernel
theorem d1_1 : decode method_2_code 1 = .ok (.ldc 7, 2) := by decide +kernel
theorem d1_3 : decode method_2_code 3 = .ok (.iand, 1) := by decide +kernel
theorem d1_4 : decode method_2_code 4 = .ok (.iconst 5, 1) := by decide +kernel
theorem d1_5 : decode method_2_code 5 = .ok (.irem, 1) := by decide +kernel
theorem d1_6 : decode method_2_code 6 = .ok (.ireturn, 1) := by decide +kernel
theorem pn1 : plainName "com/example/meshwright/meshwright/plan/LinkedGroupsRootPinLaw" = true := by first | (simp [plainName, overriddenIn]; done) | decide +kernel
theorem ef1 (m : MethodId) (p0 : Int32) : entryFrame m #[(.int p0)] 1 = mkF m 0 #[.val (.int p0)] [] := by first | (simp [entryFrame, mkF, argsToLocals, Value.category]; done) | rfl
def own_Q1 (Z : State) (p0 : Int32) (h0 : Heap) (n0 : Nat) (v : Option Value) (h : Heap) (L : List Loc) : Prop := v = some (.int (own_f1 p0)) ∧ Fr n0 L ∧ h = h0
set_option maxRecDepth 65536 in
set_option maxHeartbeats 40000000 in
theorem rm1 (l : Launch) (Z : State) (az : Array Value) (hw : ∀ d ∈ tables_1, d.before az Z = true) (ws : List Jvm.Cond) (p0 : Int32) (h0 : Heap) (n0 : Nat) (Z0 : n0 ≤ h0.size) :
    MetFree l (⟨"com/example/meshwright/meshwright/plan/LinkedGroupsRootPinLaw", "idx", "(I)I"⟩ : MethodName) (head1 (Jvm.Cond.code (⟨"com/example/meshwright/meshwright/plan/LinkedGroupsRootPinLaw", "idx", "(I)I"⟩ : MethodName) method_2_code 1 (some .int) :: ws) ({ frames := 0, cells := 0, slots := 0, locals := 0 } : Room)) (fun a U => a = #[(.int p0)] ∧ Z.Warmed39 U.vm ∧ U.heap = h0) (fun _ _ _ _ _ => True) (fun _ U o U' => ∃ v L, o = .returned v ∧ own_Q1 Z p0 h0 n0 v U'.heap L ∧ FrameEnd U o U' L ({ frames := 0, cells := 0, slots := 0, locals := 0 } : Room).cells ({ frames := 0, cells := 0, slots := 0, locals := 0 } : Room).slots) := by
  refine MetFree.of_bodySF (plainFor_of_name pn1) hisR ?_
  intro p e s m args below meth c s₁ Bd hml0 hP hK
  obtain ⟨rfl, hZ, hh⟩ := hP
  have hx := Bd.exec
  have hby := Bd.bytes
  have hml : c.maxLocals = 1 := hml0
  have hown : s.vm.findClass "com/example/meshwright/meshwright/plan/LinkedGroupsRootPinLaw" = some m.cls := findClass_of_methodNamed Bd.named
  have hnm := (name_of_methodNamed Bd.named Bd.method).1
  have X0 : Stand p l e ({ frames := 0, cells := 0, slots := 0, locals := 0 } : Room) s m #[(.int p0)] below meth c s₁ [] 0 0 := Stand.of_body Bd
  have e0 : s₁.heap = h0 := by rw [← hh, Bd.state]; rfl
  have N0 := Fr.nil n0
  show own_Go p.tables e below (fun o U' => ∃ v L, o = .returned v ∧ own_Q1 Z p0 h0 n0 v U'.heap L ∧ FrameEnd s o U' L ({ frames := 0, cells := 0, slots := 0, locals := 0 } : Room).cells ({ frames := 0, cells := 0, slots := 0, locals := 0 } : Room).slots) (s₁.setTop (entryFrame m #[(.int p0)] 1))
  refine own_go (fun _ k => castTop (ef1 m p0) k) ?_
  show own_Go p.tables e below _ (s₁.setTop (mkF m 0 #[.val (.int p0)] []))
  refine own_go (fun _ k => XS.iloadN X0.here hx rfl (hb hby d1_0) rfl k) ?_
  show own_Go p.tables e below _ (s₁.setTop (mkF m 1 #[.val (.int p0)] [(.int p0)]))
  refine own_go (fun _ k => X0.ldcInt hx hown (mvT hZ (hw _ (List.mem_of_getElem? (i := 5) rfl))) (g := (mkF m 1 #[.val (.int p0)] [(.int p0)])) rfl (hb hby d1_1) _ k) ?_
  show own_Go p.tables e below _ (s₁.setTop (mkF m 3 #[.val (.int p0)] [(.int (2147483647 : Int32)), (.int p0)]))
  refine own_go (fun _ k => XS.iand X0.here hx rfl (hb hby d1_3) rfl k) ?_
  show own_Go p.tables e below _ (s₁.setTop (mkF m 4 #[.val (.int p0)] [(.int (p0 &&& (2147483647 : Int32)))]))
  refine own_go (fun _ k => XS.iconst X0.here hx rfl (hb hby d1_4) k) ?_
  show own_Go p.tables e below _ (s₁.setTop (mkF m 5 #[.val (.int p0)] [(.int (5 : Int32)), (.int (p0 &&& (2147483647 : Int32)))]))
  refine own_go (fun _ k => XS.irem X0.here hx rfl (hb hby d1_5) rfl (by decide) k) ?_
  show own_Go p.tables e below _ (s₁.setTop (mkF m 6 #[.val (.int p0)] [(.int ((p0 &&& (2147483647 : Int32)) - ((p0 &&& (2147483647 : Int32)) / (5 : Int32)) * (5 : Int32)))]))
  refine own_end X0 Bd.notSynchronized (v := some (.int ((p0 &&& (2147483647 : Int32)) - ((p0 &&& (2147483647 : Int32)) / (5 : Int32)) * (5 : Int32)))) (fun h => by rw [Bd.returns] at h; cases h) (fun fs hr => own_retI X0 hx Bd.returns (hb hby d1_6) hr) ?_ (by decide) (by decide)
  exact ⟨by rw [own_f1], N0, e0⟩
def own_f2 (p1 : Int32) (xs : List Int32) : Int32 := (xs.getD ((xs.getD ((xs.getD ((xs.getD (p1).toNatClampNeg 0)).toNatClampNeg 0)).toNatClampNeg 0)).toNatClampNeg 0)
theorem d2_0 : decode prog_40_method_3_code 0 = .ok (.iload_n 1, 1) := by decide +kernel
theorem d2_1 : decode prog_40_method_3_code 1 = .ok (.istore_n 2, 1) := by decide +kernel
theorem d2_2 : decode prog_40_method_3_code 2 = .ok (.aload_n 0, 1) := by decide +kernel
theorem d2_3 : decode prog_40_method_3_code 3 = .ok (.iload_n 2, 1) := by decide +kernel
theorem d2_4 : decode prog_40_method_3_code 4 = .ok (.iaload, 1) := by decide +kernel
theorem d2_5 : decode prog_40_method_3_code 5 = .ok (.iload_n 2, 1) := by decide +kernel
theorem d2_6 : decode prog_40_method_3_code 6 = .ok (.if_icmp .eq 10, 3) := by decide +kernel
theorem d2_9 : decode prog_40_method_3_code 9 = .ok (.aload_n 0, 1) := by decide +kernel
theorem d2_10 : decode prog_40_method_3_code 10 = .ok (.iload_n 2, 1) := by decide +kernel
theorem d2_11 : decode prog_40_method_3_code 11 = .ok (.iaload, 1) := by decide +kernel
theorem d2_12 : decode prog_40_method_3_code 12 = .ok (.istore_n 2, 1) := by decide +kernel
theorem d2_13 : decode prog_40_method_3_code 13 = .ok (.goto (-11), 3) := by decide +kernel
theorem d2_16 : decode prog_40_method_3_code 16 = .ok (.iload_n 2, 1) := by decide +kernel
theorem d2_17 : decode prog_40_method_3_code 17 = .ok (.ireturn, 1) := by decide +kernel
theorem pn2 : plainName "com/example/meshwright/meshwright/plan/LinkedGroups" = true := by first | (simp [plainName, overriddenIn]; done) | decide +kernel
theorem ef2 (m : MethodId) (a0 : Addr) (p1 : Int32) : entryFrame m #[(.ref a0), (.int p1)] 3 = mkF m 0 #[.val (.ref a0), .val (.int p1), .unset] [] := by first | (simp [entryFrame, mkF, argsToLocals, Value.category]; done) | rfl
def own_Q2 (Z : State) (a0 : Addr) (p1 : Int32) (ka : ClassId) (xs : List Int32) (h0 : Heap) (n0 : Nat) (v : Option Value) (h : Heap) (L : List Loc) : Prop := v = some (.int (own_f2 p1 xs)) ∧ Fr n0 L ∧ h = h0
set_option maxRecDepth 65536 in
set_option maxHeartbeats 40000000 in
theorem rm2 (l : Launch) (Z : State) (az : Array Value) (hw : ∀ d ∈ tables_1, d.before az Z = true) (ws : List Jvm.Cond) (a0 : Addr) (p1 : Int32) (ka : ClassId) (xs : List Int32) (h0 : Heap) (n0 : Nat) (Z0 : n0 ≤ h0.size) (V_a0 : Arv Z h0 a0 ka .int (5 : Int32) (xs.map Value.int) (.int (0 : Int32))) (hr0 : ¬ (p1 < 0) ∧ p1 < (5 : Int32)) (hrg : ∀ j : Int32, (¬ (j < 0) ∧ j < (5 : Int32)) → (¬ ((xs.getD (j).toNatClampNeg 0) < 0) ∧ (xs.getD (j).toNatClampNeg 0) < (5 : Int32))) (hstop : (xs.getD ((xs.getD ((xs.getD ((xs.getD ((xs.getD (p1).toNatClampNeg 0)).toNatClampNeg 0)).toNatClampNeg 0)).toNatClampNeg 0)).toNatClampNeg 0) = (xs.getD ((xs.getD ((xs.getD ((xs.getD (p1).toNatClampNeg 0)).toNatClampNeg 0)).toNatClampNeg 0)).toNatClampNeg 0)) :
    MetFree l (⟨"com/example/meshwright/meshwright/plan/LinkedGroups", "root", "([II)I"⟩ : MethodName) (head1 (Jvm.Cond.code (⟨"com/example/meshwright/meshwright/plan/LinkedGroups", "root", "([II)I"⟩ : MethodName) prog_40_method_3_code 3 (some .int) :: ws) ({ frames := 0, cells := 0, slots := 0, locals := 0 } : Room)) (fun a U => a = #[(.ref a0), (.int p1)] ∧ Z.Warmed39 U.vm ∧ U.heap = h0) (fun _ _ _ _ _ => True) (fun _ U o U' => ∃ v L, o = .returned v ∧ own_Q2 Z a0 p1 ka xs h0 n0 v U'.heap L ∧ FrameEnd U o U' L ({ frames := 0, cells := 0, slots := 0, locals := 0 } : Room).cells ({ frames := 0, cells := 0, slots := 0, locals := 0 } : Room).slots) := by
  refine MetFree.of_bodySF (plainFor_of_name pn2) hisR ?_
  intro p e s m args below meth c s₁ Bd hml0 hP hK
  obtain ⟨rfl, hZ, hh⟩ := hP
  have hx := Bd.exec
  have hby := Bd.bytes
  have hml : c.maxLocals = 3 := hml0
  have hown : s.vm.findClass "com/example/meshwright/meshwright/plan/LinkedGroups" = some m.cls := findClass_of_methodNamed Bd.named
  have hnm := (name_of_methodNamed Bd.named Bd.method).1
  have X0 : Stand p l e ({ frames := 0, cells := 0, slots := 0, locals := 0 } : Room) s m #[(.ref a0), (.int p1)] below meth c s₁ [] 0 0 := Stand.of_body Bd
  have e0 : s₁.heap = h0 := by rw [← hh, Bd.state]; rfl
  have N0 := Fr.nil n0
  show own_Go p.tables e below (fun o U' => ∃ v L, o = .returned v ∧ own_Q2 Z a0 p1 ka xs h0 n0 v U'.heap L ∧ FrameEnd s o U' L ({ frames := 0, cells := 0, slots := 0, locals := 0 } : Room).cells ({ frames := 0, cells := 0, slots := 0, locals := 0 } : Room).slots) (s₁.setTop (entryFrame m #[(.ref a0), (.int p1)] 3))
  refine own_go (fun _ k => castTop (ef2 m a0 p1) k) ?_
  show own_Go p.tables e below _ (s₁.setTop (mkF m 0 #[.val (.ref a0), .val (.int p1), .unset] []))
  refine own_go (fun _ k => XS.iloadN X0.here hx rfl (hb hby d2_0) rfl k) ?_
  show own_Go p.tables e below _ (s₁.setTop (mkF m 1 #[.val (.ref a0), .val (.int p1), .unset] [(.int p1)]))
  refine own_go (fun _ k => XS.istoreN X0.here hx rfl (hb hby d2_1) rfl (l' := #[.val (.ref a0), .val (.int p1), .val (.int p1)]) rfl k) ?_
  show own_Go p.tables e below _ (s₁.setTop (mkF m 2 #[.val (.ref a0), .val (.int p1), .val (.int p1)] []))
  refine own_go (fun _ k => XS.aloadN X0.here hx rfl (hb hby d2_2) rfl rfl k) ?_
  show own_Go p.tables e below _ (s₁.setTop (mkF m 3 #[.val (.ref a0), .val (.int p1), .val (.int p1)] [(.ref a0)]))
  refine own_go (fun _ k => XS.iloadN X0.here hx rfl (hb hby d2_3) rfl k) ?_
  show own_Go p.tables e below _ (s₁.setTop (mkF m 4 #[.val (.ref a0), .val (.int p1), .val (.int p1)] [(.int p1), (.ref a0)]))
  have vo1 := V_a0
  obtain ⟨cl1, Ar1, Aq1, AS1, AN1, AH1, AG1⟩ := vo1
  have hin1 : ¬ (p1 < 0 ∨ cl1.slots.size ≤ (p1).toNatClampNeg) := inb_of AS1 hr0
  have hat1 : cl1.slots[(p1).toNatClampNeg]? = some (.int (xs.getD (p1).toNatClampNeg 0)) := Has.at AH1 hin1 (own_mapI xs _)
  refine own_go (fun _ k => X0.iaload hx (j := p1) (v := (.int (xs.getD (p1).toNatClampNeg 0))) (by rw [e0]; exact Ar1.1) (State.isArrayOf_alike hZ.alike Ar1.2.1) Ar1.2.2 hin1 hat1 (g := (mkF m 4 #[.val (.ref a0), .val (.int p1), .val (.int p1)] [(.int p1), (.ref a0)])) rfl rfl (hb hby d2_4) _ k) ?_
  show own_Go p.tables e below _ (s₁.setTop (mkF m 5 #[.val (.ref a0), .val (.int p1), .val (.int p1)] [(.int (xs.getD (p1).toNatClampNeg 0))]))
  refine own_go (fun _ k => XS.iloadN X0.here hx rfl (hb hby d2_5) rfl k) ?_
  show own_Go p.tables e below _ (s₁.setTop (mkF m 6 #[.val (.ref a0), .val (.int p1), .val (.int p1)] [(.int p1), (.int (xs.getD (p1).toNatClampNeg 0))]))
  by_cases hc6 : (xs.getD (p1).toNatClampNeg 0) = p1
  · refine own_go (fun _ k => XS.icmpYes X0.here hx rfl (pc0 := 6) (pc' := 16) rfl (hb hby d2_6) rfl (teq hc6).1 (by decide) (by decide) k) ?_
    show own_Go p.tables e below _ (s₁.setTop (mkF m 16 #[.val (.ref a0), .val (.int p1), .val (.int p1)] []))
    refine own_go (fun _ k => XS.iloadN X0.here hx rfl (hb hby d2_16) rfl k) ?_
    show own_Go p.tables e below _ (s₁.setTop (mkF m 17 #[.val (.ref a0), .val (.int p1), .val (.int p1)] [(.int p1)]))
    refine own_end X0 Bd.notSynchronized (v := some (.int p1)) (fun h => by rw [Bd.returns] at h; cases h) (fun fs hr => own_retI X0 hx Bd.returns (hb hby d2_17) hr) ?_ (by decide) (by decide)
    exact ⟨by rw [own_f2]; simp only [hc6], N0, e0⟩
  · refine own_go (fun _ k => XS.icmpNo X0.here hx rfl (hb hby d2_6) rfl (feq hc6).1 k) ?_
    show own_Go p.tables e below _ (s₁.setTop (mkF m 9 #[.val (.ref a0), .val (.int p1), .val (.int p1)] []))
    refine own_go (fun _ k => XS.aloadN X0.here hx rfl (hb hby d2_9) rfl rfl k) ?_
    show own_Go p.tables e below _ (s₁.setTop (mkF m 10 #[.val (.ref a0), .val (.int p1), .val (.int p1)] [(.ref a0)]))
    refine own_go (fun _ k => XS.iloadN X0.here hx rfl (hb hby d2_10) rfl k) ?_
    show own_Go p.tables e below _ (s₁.setTop (mkF m 11 #[.val (.ref a0), .val (.int p1), .val (.int p1)] [(.int p1), (.ref a0)]))
    have vo2 := V_a0
    obtain ⟨cl2, Ar2, Aq2, AS2, AN2, AH2, AG2⟩ := vo2
    have hin2 : ¬ (p1 < 0 ∨ cl2.slots.size ≤ (p1).toNatClampNeg) := inb_of AS2 hr0
    have hat2 : cl2.slots[(p1).toNatClampNeg]? = some (.int (xs.getD (p1).toNatClampNeg 0)) := Has.at AH2 hin2 (own_mapI xs _)
    refine own_go (fun _ k => X0.iaload hx (j := p1) (v := (.int (xs.getD (p1).toNatClampNeg 0))) (by rw [e0]; exact Ar2.1) (State.isArrayOf_alike hZ.alike Ar2.2.1) Ar2.2.2 hin2 hat2 (g := (mkF m 11 #[.val (.ref a0), .val (.int p1), .val (.int p1)] [(.int p1), (.ref a0)])) rfl rfl (hb hby d2_11) _ k) ?_
    show own_Go p.tables e below _ (s₁.setTop (mkF m 12 #[.val (.ref a0), .val (.int p1), .val (.int p1)] [(.int (xs.getD (p1).toNatClampNeg 0))]))
    refine own_go (fun _ k => XS.istoreN X0.here hx rfl (hb hby d2_12) rfl (l' := #[.val (.ref a0), .val (.int p1), .val (.int (xs.getD (p1).toNatClampNeg 0))]) rfl k) ?_
    show own_Go p.tables e below _ (s₁.setTop (mkF m 13 #[.val (.ref a0), .val (.int p1), .val (.int (xs.getD (p1).toNatClampNeg 0))] []))
    refine own_go (fun _ k => XS.goto X0.here hx rfl (pc0 := 13) (pc' := 2) rfl (hb hby d2_13) (by decide) (by decide) k) ?_
    show own_Go p.tables e below _ (s₁.setTop (mkF m 2 #[.val (.ref a0), .val (.int p1), .val (.int (xs.getD (p1).toNatClampNeg 0))] []))
    refine own_go (fun _ k => XS.aloadN X0.here hx rfl (hb hby d2_2) rfl rfl k) ?_
    show own_Go p.tables e below _ (s₁.setTop (mkF m 3 #[.val (.ref a0), .val (.int p1), .val (.int (xs.getD (p1).toNatClampNeg 0))] [(.ref a0)]))
    refine own_go (fun _ k => XS.iloadN X0.here hx rfl (hb hby d2_3) rfl k) ?_
    show own_Go p.tables e below _ (s₁.setTop (mkF m 4 #[.val (.ref a0), .val (.int p1), .val (.int (xs.getD (p1).toNatClampNeg 0))] [(.int (xs.getD (p1).toNatClampNeg 0)), (.ref a0)]))
    have vo3 := V_a0
    obtain ⟨cl3, Ar3, Aq3, AS3, AN3, AH3, AG3⟩ := vo3
    have hin3 : ¬ ((xs.getD (p1).toNatClampNeg 0) < 0 ∨ cl3.slots.size ≤ ((xs.getD (p1).toNatClampNeg 0)).toNatClampNeg) := inb_of AS3 (hrg _ hr0)
    have hat3 : cl3.slots[((xs.getD (p1).toNatClampNeg 0)).toNatClampNeg]? = some (.int (xs.getD ((xs.getD (p1).toNatClampNeg 0)).toNatClampNeg 0)) := Has.at AH3 hin3 (own_mapI xs _)
    refine own_go (fun _ k => X0.iaload hx (j := (xs.getD (p1).toNatClampNeg 0)) (v := (.int (xs.getD ((xs.getD (p1).toNatClampNeg 0)).toNatClampNeg 0))) (by rw [e0]; exact Ar3.1) (State.isArrayOf_alike hZ.alike Ar3.2.1) Ar3.2.2 hin3 hat3 (g := (mkF m 4 #[.val (.ref a0), .val (.int p1), .val (.int (xs.getD (p1).toNatClampNeg 0))] [(.int (xs.getD (p1).toNatClampNeg 0)), (.ref a0)])) rfl rfl (hb hby d2_4) _ k) ?_
    show own_Go p.tables e below _ (s₁.setTop (mkF m 5 #[.val (.ref a0), .val (.int p1), .val (.int (xs.getD (p1).toNatClampNeg 0))] [(.int (xs.getD ((xs.getD (p1).toNatClampNeg 0)).toNatClampNeg 0))]))
    refine own_go (fun _ k => XS.iloadN X0.here hx rfl (hb hby d2_5) rfl k) ?_
    show own_Go p.tables e below _ (s₁.setTop (mkF m 6 #[.val (.ref a0), .val (.int p1), .val (.int (xs.getD (p1).toNatClampNeg 0))] [(.int (xs.getD (p1).toNatClampNeg 0)), (.int (xs.getD ((xs.getD (p1).toNatClampNeg 0)).toNatClampNeg 0))]))
    by_cases hc6_2 : (xs.getD ((xs.getD (p1).toNatClampNeg 0)).toNatClampNeg 0) = (xs.getD (p1).toNatClampNeg 0)
    · refine own_go (fun _ k => XS.icmpYes X0.here hx rfl (pc0 := 6) (pc' := 16) rfl (hb hby d2_6) rfl (teq hc6_2).1 (by decide) (by decide) k) ?_
      show own_Go p.tables e below _ (s₁.setTop (mkF m 16 #[.val (.ref a0), .val (.int p1), .val (.int (xs.getD (p1).toNatClampNeg 0))] []))
      refine own_go (fun _ k => XS.iloadN X0.here hx rfl (hb hby d2_16) rfl k) ?_
      show own_Go p.tables e below _ (s₁.setTop (mkF m 17 #[.val (.ref a0), .val (.int p1), .val (.int (xs.getD (p1).toNatClampNeg 0))] [(.int (xs.getD (p1).toNatClampNeg 0))]))
      refine own_end X0 Bd.notSynchronized (v := some (.int (xs.getD (p1).toNatClampNeg 0))) (fun h => by rw [Bd.returns] at h; cases h) (fun fs hr => own_retI X0 hx Bd.returns (hb hby d2_17) hr) ?_ (by decide) (by decide)
      exact ⟨by rw [own_f2]; simp only [hc6_2], N0, e0⟩
    · refine own_go (fun _ k => XS.icmpNo X0.here hx rfl (hb hby d2_6) rfl (feq hc6_2).1 k) ?_
      show own_Go p.tables e below _ (s₁.setTop (mkF m 9 #[.val (.ref a0), .val (.int p1), .val (.int (xs.getD (p1).toNatClampNeg 0))] []))
      refine own_go (fun _ k => XS.aloadN X0.here hx rfl (hb hby d2_9) rfl rfl k) ?_
      show own_Go p.tables e below _ (s₁.setTop (mkF m 10 #[.val (.ref a0), .val (.int p1), .val (.int (xs.getD (p1).toNatClampNeg 0))] [(.ref a0)]))
      refine own_go (fun _ k => XS.iloadN X0.here hx rfl (hb hby d2_10) rfl k) ?_
      show own_Go p.tables e below _ (s₁.setTop (mkF m 11 #[.val (.ref a0), .val (.int p1), .val (.int (xs.getD (p1).toNatClampNeg 0))] [(.int (xs.getD (p1).toNatClampNeg 0)), (.ref a0)]))
      have vo4 := V_a0
      obtain ⟨cl4, Ar4, Aq4, AS4, AN4, AH4, AG4⟩ := vo4
      have hin4 : ¬ ((xs.getD (p1).toNatClampNeg 0) < 0 ∨ cl4.slots.size ≤ ((xs.getD (p1).toNatClampNeg 0)).toNatClampNeg) := inb_of AS4 (hrg _ hr0)
      have hat4 : cl4.slots[((xs.getD (p1).toNatClampNeg 0)).toNatClampNeg]? = some (.int (xs.getD ((xs.getD (p1).toNatClampNeg 0)).toNatClampNeg 0)) := Has.at AH4 hin4 (own_mapI xs _)
      refine own_go (fun _ k => X0.iaload hx (j := (xs.getD (p1).toNatClampNeg 0)) (v := (.int (xs.getD ((xs.getD (p1).toNatClampNeg 0)).toNatClampNeg 0))) (by rw [e0]; exact Ar4.1) (State.isArrayOf_alike hZ.alike Ar4.2.1) Ar4.2.2 hin4 hat4 (g := (mkF m 11 #[.val (.ref a0), .val (.int p1), .val (.int (xs.getD (p1).toNatClampNeg 0))] [(.int (xs.getD (p1).toNatClampNeg 0)), (.ref a0)])) rfl rfl (hb hby d2_11) _ k) ?_
      show own_Go p.tables e below _ (s₁.setTop (mkF m 12 #[.val (.ref a0), .val (.int p1), .val (.int (xs.getD (p1).toNatClampNeg 0))] [(.int (xs.getD ((xs.getD (p1).toNatClampNeg 0)).toNatClampNeg 0))]))
      refine own_go (fun _ k => XS.istoreN X0.here hx rfl (hb hby d2_12) rfl (l' := #[.val (.ref a0), .val (.int p1), .val (.int (xs.getD ((xs.getD (p1).toNatClampNeg 0)).toNatClampNeg 0))]) rfl k) ?_
      show own_Go p.tables e below _ (s₁.setTop (mkF m 13 #[.val (.ref a0), .val (.int p1), .val (.int (xs.getD ((xs.getD (p1).toNatClampNeg 0)).toNatClampNeg 0))] []))
      refine own_go (fun _ k => XS.goto X0.here hx rfl (pc0 := 13) (pc' := 2) rfl (hb hby d2_13) (by decide) (by decide) k) ?_
      show own_Go p.tables e below _ (s₁.setTop (mkF m 2 #[.val (.ref a0), .val (.int p1), .val (.int (xs.getD ((xs.getD (p1).toNatClampNeg 0)).toNatClampNeg 0))] []))
      refine own_go (fun _ k => XS.aloadN X0.here hx rfl (hb hby d2_2) rfl rfl k) ?_
      show own_Go p.tables e below _ (s₁.setTop (mkF m 3 #[.val (.ref a0), .val (.int p1), .val (.int (xs.getD ((xs.getD (p1).toNatClampNeg 0)).toNatClampNeg 0))] [(.ref a0)]))
      refine own_go (fun _ k => XS.iloadN X0.here hx rfl (hb hby d2_3) rfl k) ?_
      show own_Go p.tables e below _ (s₁.setTop (mkF m 4 #[.val (.ref a0), .val (.int p1), .val (.int (xs.getD ((xs.getD (p1).toNatClampNeg 0)).toNatClampNeg 0))] [(.int (xs.getD ((xs.getD (p1).toNatClampNeg 0)).toNatClampNeg 0)), (.ref a0)]))
      have vo5 := V_a0
      obtain ⟨cl5, Ar5, Aq5, AS5, AN5, AH5, AG5⟩ := vo5
      have hin5 : ¬ ((xs.getD ((xs.getD (p1).toNatClampNeg 0)).toNatClampNeg 0) < 0 ∨ cl5.slots.size ≤ ((xs.getD ((xs.getD (p1).toNatClampNeg 0)).toNatClampNeg 0)).toNatClampNeg) := inb_of AS5 (hrg _ (hrg _ hr0))
      have hat5 : cl5.slots[((xs.getD ((xs.getD (p1).toNatClampNeg 0)).toNatClampNeg 0)).toNatClampNeg]? = some (.int (xs.getD ((xs.getD ((xs.getD (p1).toNatClampNeg 0)).toNatClampNeg 0)).toNatClampNeg 0)) := Has.at AH5 hin5 (own_mapI xs _)
      refine own_go (fun _ k => X0.iaload hx (j := (xs.getD ((xs.getD (p1).toNatClampNeg 0)).toNatClampNeg 0)) (v := (.int (xs.getD ((xs.getD ((xs.getD (p1).toNatClampNeg 0)).toNatClampNeg 0)).toNatClampNeg 0))) (by rw [e0]; exact Ar5.1) (State.isArrayOf_alike hZ.alike Ar5.2.1) Ar5.2.2 hin5 hat5 (g := (mkF m 4 #[.val (.ref a0), .val (.int p1), .val (.int (xs.getD ((xs.getD (p1).toNatClampNeg 0)).toNatClampNeg 0))] [(.int (xs.getD ((xs.getD (p1).toNatClampNeg 0)).toNatClampNeg 0)), (.ref a0)])) rfl rfl (hb hby d2_4) _ k) ?_
      show own_Go p.tables e below _ (s₁.setTop (mkF m 5 #[.val (.ref a0), .val (.int p1), .val (.int (xs.getD ((xs.getD (p1).toNatClampNeg 0)).toNatClampNeg 0))] [(.int (xs.getD ((xs.getD ((xs.getD (p1).toNatClampNeg 0)).toNatClampNeg 0)).toNatClampNeg 0))]))
      refine own_go (fun _ k => XS.iloadN X0.here hx rfl (hb hby d2_5) rfl k) ?_
      show own_Go p.tables e below _ (s₁.setTop (mkF m 6 #[.val (.ref a0), .val (.int p1), .val (.int (xs.getD ((xs.getD (p1).toNatClampNeg 0)).toNatClampNeg 0))] [(.int (xs.getD ((xs.getD (p1).toNatClampNeg 0)).toNatClampNeg 0)), (.int (xs.getD ((xs.getD ((xs.getD (p1).toNatClampNeg 0)).toNatClampNeg 0)).toNatClampNeg 0))]))
      by_cases hc6_3 : (xs.getD ((xs.getD ((xs.getD (p1).toNatClampNeg 0)).toNatClampNeg 0)).toNatClampNeg 0) = (xs.getD ((xs.getD (p1).toNatClampNeg 0)).toNatClampNeg 0)
      · refine own_go (fun _ k => XS.icmpYes X0.here hx rfl (pc0 := 6) (pc' := 16) rfl (hb hby d2_6) rfl (teq hc6_3).1 (by decide) (by decide) k) ?_
        show own_Go p.tables e below _ (s₁.setTop (mkF m 16 #[.val (.ref a0), .val (.int p1), .val (.int (xs.getD ((xs.getD (p1).toNatClampNeg 0)).toNatClampNeg 0))] []))
        refine own_go (fun _ k => XS.iloadN X0.here hx rfl (hb hby d2_16) rfl k) ?_
        show own_Go p.tables e below _ (s₁.setTop (mkF m 17 #[.val (.ref a0), .val (.int p1), .val (.int (xs.getD ((xs.getD (p1).toNatClampNeg 0)).toNatClampNeg 0))] [(.int (xs.getD ((xs.getD (p1).toNatClampNeg 0)).toNatClampNeg 0))]))
        refine own_end X0 Bd.notSynchronized (v := some (.int (xs.getD ((xs.getD (p1).toNatClampNeg 0)).toNatClampNeg 0))) (fun h => by rw [Bd.returns] at h; cases h) (fun fs hr => own_retI X0 hx Bd.returns (hb hby d2_17) hr) ?_ (by decide) (by decide)
        exact ⟨by rw [own_f2]; simp only [hc6_3], N0, e0⟩
      · refine own_go (fun _ k => XS.icmpNo X0.here hx rfl (hb hby d2_6) rfl (feq hc6_3).1 k) ?_
        show own_Go p.tables e below _ (s₁.setTop (mkF m 9 #[.val (.ref a0), .val (.int p1), .val (.int (xs.getD ((xs.getD (p1).toNatClampNeg 0)).toNatClampNeg 0))] []))
        refine own_go (fun _ k => XS.aloadN X0.here hx rfl (hb hby d2_9) rfl rfl k) ?_
        show own_Go p.tables e below _ (s₁.setTop (mkF m 10 #[.val (.ref a0), .val (.int p1), .val (.int (xs.getD ((xs.getD (p1).toNatClampNeg 0)).toNatClampNeg 0))] [(.ref a0)]))
        refine own_go (fun _ k => XS.iloadN X0.here hx rfl (hb hby d2_10) rfl k) ?_
        show own_Go p.tables e below _ (s₁.setTop (mkF m 11 #[.val (.ref a0), .val (.int p1), .val (.int (xs.getD ((xs.getD (p1).toNatClampNeg 0)).toNatClampNeg 0))] [(.int (xs.getD ((xs.getD (p1).toNatClampNeg 0)).toNatClampNeg 0)), (.ref a0)]))
        have vo6 := V_a0
        obtain ⟨cl6, Ar6, Aq6, AS6, AN6, AH6, AG6⟩ := vo6
        have hin6 : ¬ ((xs.getD ((xs.getD (p1).toNatClampNeg 0)).toNatClampNeg 0) < 0 ∨ cl6.slots.size ≤ ((xs.getD ((xs.getD (p1).toNatClampNeg 0)).toNatClampNeg 0)).toNatClampNeg) := inb_of AS6 (hrg _ (hrg _ hr0))
        have hat6 : cl6.slots[((xs.getD ((xs.getD (p1).toNatClampNeg 0)).toNatClampNeg 0)).toNatClampNeg]? = some (.int (xs.getD ((xs.getD ((xs.getD (p1).toNatClampNeg 0)).toNatClampNeg 0)).toNatClampNeg 0)) := Has.at AH6 hin6 (own_mapI xs _)
        refine own_go (fun _ k => X0.iaload hx (j := (xs.getD ((xs.getD (p1).toNatClampNeg 0)).toNatClampNeg 0)) (v := (.int (xs.getD ((xs.getD ((xs.getD (p1).toNatClampNeg 0)).toNatClampNeg 0)).toNatClampNeg 0))) (by rw [e0]; exact Ar6.1) (State.isArrayOf_alike hZ.alike Ar6.2.1) Ar6.2.2 hin6 hat6 (g := (mkF m 11 #[.val (.ref a0), .val (.int p1), .val (.int (xs.getD ((xs.getD (p1).toNatClampNeg 0)).toNatClampNeg 0))] [(.int (xs.getD ((xs.getD (p1).toNatClampNeg 0)).toNatClampNeg 0)), (.ref a0)])) rfl rfl (hb hby d2_11) _ k) ?_
        show own_Go p.tables e below _ (s₁.setTop (mkF m 12 #[.val (.ref a0), .val (.int p1), .val (.int (xs.getD ((xs.getD (p1).toNatClampNeg 0)).toNatClampNeg 0))] [(.int (xs.getD ((xs.getD ((xs.getD (p1).toNatClampNeg 0)).toNatClampNeg 0)).toNatClampNeg 0))]))
        refine own_go (fun _ k => XS.istoreN X0.here hx rfl (hb hby d2_12) rfl (l' := #[.val (.ref a0), .val (.int p1), .val (.int (xs.getD ((xs.getD ((xs.getD (p1).toNatClampNeg 0)).toNatClampNeg 0)).toNatClampNeg 0))]) rfl k) ?_
        show own_Go p.tables e below _ (s₁.setTop (mkF m 13 #[.val (.ref a0), .val (.int p1), .val (.int (xs.getD ((xs.getD ((xs.getD (p1).toNatClampNeg 0)).toNatClampNeg 0)).toNatClampNeg 0))] []))
        refine own_go (fun _ k => XS.goto X0.here hx rfl (pc0 := 13) (pc' := 2) rfl (hb hby d2_13) (by decide) (by decide) k) ?_
        show own_Go p.tables e below _ (s₁.setTop (mkF m 2 #[.val (.ref a0), .val (.int p1), .val (.int (xs.getD ((xs.getD ((xs.getD (p1).toNatClampNeg 0)).toNatClampNeg 0)).toNatClampNeg 0))] []))
        refine own_go (fun _ k => XS.aloadN X0.here hx rfl (hb hby d2_2) rfl rfl k) ?_
        show own_Go p.tables e below _ (s₁.setTop (mkF m 3 #[.val (.ref a0), .val (.int p1), .val (.int (xs.getD ((xs.getD ((xs.getD (p1).toNatClampNeg 0)).toNatClampNeg 0)).toNatClampNeg 0))] [(.ref a0)]))
        refine own_go (fun _ k => XS.iloadN X0.here hx rfl (hb hby d2_3) rfl k) ?_
        show own_Go p.tables e below _ (s₁.setTop (mkF m 4 #[.val (.ref a0), .val (.int p1), .val (.int (xs.getD ((xs.getD ((xs.getD (p1).toNatClampNeg 0)).toNatClampNeg 0)).toNatClampNeg 0))] [(.int (xs.getD ((xs.getD ((xs.getD (p1).toNatClampNeg 0)).toNatClampNeg 0)).toNatClampNeg 0)), (.ref a0)]))
        have vo7 := V_a0
        obtain ⟨cl7, Ar7, Aq7, AS7, AN7, AH7, AG7⟩ := vo7
        have hin7 : ¬ ((xs.getD ((xs.getD ((xs.getD (p1).toNatClampNeg 0)).toNatClampNeg 0)).toNatClampNeg 0) < 0 ∨ cl7.slots.size ≤ ((xs.getD ((xs.getD ((xs.getD (p1).toNatClampNeg 0)).toNatClampNeg 0)).toNatClampNeg 0)).toNatClampNeg) := inb_of AS7 (hrg _ (hrg _ (hrg _ hr0)))
        have hat7 : cl7.slots[((xs.getD ((xs.getD ((xs.getD (p1).toNatClampNeg 0)).toNatClampNeg 0)).toNatClampNeg 0)).toNatClampNeg]? = some (.int (xs.getD ((xs.getD ((xs.getD ((xs.getD (p1).toNatClampNeg 0)).toNatClampNeg 0)).toNatClampNeg 0)).toNatClampNeg 0)) := Has.at AH7 hin7 (own_mapI xs _)
        refine own_go (fun _ k => X0.iaload hx (j := (xs.getD ((xs.getD ((xs.getD (p1).toNatClampNeg 0)).toNatClampNeg 0)).toNatClampNeg 0)) (v := (.int (xs.getD ((xs.getD ((xs.getD ((xs.getD (p1).toNatClampNeg 0)).toNatClampNeg 0)).toNatClampNeg 0)).toNatClampNeg 0))) (by rw [e0]; exact Ar7.1) (State.isArrayOf_alike hZ.alike Ar7.2.1) Ar7.2.2 hin7 hat7 (g := (mkF m 4 #[.val (.ref a0), .val (.int p1), .val (.int (xs.getD ((xs.getD ((xs.getD (p1).toNatClampNeg 0)).toNatClampNeg 0)).toNatClampNeg 0))] [(.int (xs.getD ((xs.getD ((xs.getD (p1).toNatClampNeg 0)).toNatClampNeg 0)).toNatClampNeg 0)), (.ref a0)])) rfl rfl (hb hby d2_4) _ k) ?_
        show own_Go p.tables e below _ (s₁.setTop (mkF m 5 #[.val (.ref a0), .val (.int p1), .val (.int (xs.getD ((xs.getD ((xs.getD (p1).toNatClampNeg 0)).toNatClampNeg 0)).toNatClampNeg 0))] [(.int (xs.getD ((xs.getD ((xs.getD ((xs.getD (p1).toNatClampNeg 0)).toNatClampNeg 0)).toNatClampNeg 0)).toNatClampNeg 0))]))
        refine own_go (fun _ k => XS.iloadN X0.here hx rfl (hb hby d2_5) rfl k) ?_
        show own_Go p.tables e below _ (s₁.setTop (mkF m 6 #[.val (.ref a0), .val (.int p1), .val (.int (xs.getD ((xs.getD ((xs.getD (p1).toNatClampNeg 0)).toNatClampNeg 0)).toNatClampNeg 0))] [(.int (xs.getD ((xs.getD ((xs.getD (p1).toNatClampNeg 0)).toNatClampNeg 0)).toNatClampNeg 0)), (.int (xs.getD ((xs.getD ((xs.getD ((xs.getD (p1).toNatClampNeg 0)).toNatClampNeg 0)).toNatClampNeg 0)).toNatClampNeg 0))]))
        by_cases hc6_4 : (xs.getD ((xs.getD ((xs.getD ((xs.getD (p1).toNatClampNeg 0)).toNatClampNeg 0)).toNatClampNeg 0)).toNatClampNeg 0) = (xs.getD ((xs.getD ((xs.getD (p1).toNatClampNeg 0)).toNatClampNeg 0)).toNatClampNeg 0)
        · refine own_go (fun _ k => XS.icmpYes X0.here hx rfl (pc0 := 6) (pc' := 16) rfl (hb hby d2_6) rfl (teq hc6_4).1 (by decide) (by decide) k) ?_
          show own_Go p.tables e below _ (s₁.setTop (mkF m 16 #[.val (.ref a0), .val (.int p1), .val (.int (xs.getD ((xs.getD ((xs.getD (p1).toNatClampNeg 0)).toNatClampNeg 0)).toNatClampNeg 0))] []))
          refine own_go (fun _ k => XS.iloadN X0.here hx rfl (hb hby d2_16) rfl k) ?_
          show own_Go p.tables e below _ (s₁.setTop (mkF m 17 #[.val (.ref a0), .val (.int p1), .val (.int (xs.getD ((xs.getD ((xs.getD (p1).toNatClampNeg 0)).toNatClampNeg 0)).toNatClampNeg 0))] [(.int (xs.getD ((xs.getD ((xs.getD (p1).toNatClampNeg 0)).toNatClampNeg 0)).toNatClampNeg 0))]))
          refine own_end X0 Bd.notSynchronized (v := some (.int (xs.getD ((xs.getD ((xs.getD (p1).toNatClampNeg 0)).toNatClampNeg 0)).toNatClampNeg 0))) (fun h => by rw [Bd.returns] at h; cases h) (fun fs hr => own_retI X0 hx Bd.returns (hb hby d2_17) hr) ?_ (by decide) (by decide)
          exact ⟨by rw [own_f2]; simp only [hc6_4], N0, e0⟩
        · refine own_go (fun _ k => XS.icmpNo X0.here hx rfl (hb hby d2_6) rfl (feq hc6_4).1 k) ?_
          show own_Go p.tables e below _ (s₁.setTop (mkF m 9 #[.val (.ref a0), .val (.int p1), .val (.int (xs.getD ((xs.getD ((xs.getD (p1).toNatClampNeg 0)).toNatClampNeg 0)).toNatClampNeg 0))] []))
          refine own_go (fun _ k => XS.aloadN X0.here hx rfl (hb hby d2_9) rfl rfl k) ?_
          show own_Go p.tables e below _ (s₁.setTop (mkF m 10 #[.val (.ref a0), .val (.int p1), .val (.int (xs.getD ((xs.getD ((xs.getD (p1).toNatClampNeg 0)).toNatClampNeg 0)).toNatClampNeg 0))] [(.ref a0)]))
          refine own_go (fun _ k => XS.iloadN X0.here hx rfl (hb hby d2_10) rfl k) ?_
          show own_Go p.tables e below _ (s₁.setTop (mkF m 11 #[.val (.ref a0), .val (.int p1), .val (.int (xs.getD ((xs.getD ((xs.getD (p1).toNatClampNeg 0)).toNatClampNeg 0)).toNatClampNeg 0))] [(.int (xs.getD ((xs.getD ((xs.getD (p1).toNatClampNeg 0)).toNatClampNeg 0)).toNatClampNeg 0)), (.ref a0)]))
          have vo8 := V_a0
          obtain ⟨cl8, Ar8, Aq8, AS8, AN8, AH8, AG8⟩ := vo8
          have hin8 : ¬ ((xs.getD ((xs.getD ((xs.getD (p1).toNatClampNeg 0)).toNatClampNeg 0)).toNatClampNeg 0) < 0 ∨ cl8.slots.size ≤ ((xs.getD ((xs.getD ((xs.getD (p1).toNatClampNeg 0)).toNatClampNeg 0)).toNatClampNeg 0)).toNatClampNeg) := inb_of AS8 (hrg _ (hrg _ (hrg _ hr0)))
          have hat8 : cl8.slots[((xs.getD ((xs.getD ((xs.getD (p1).toNatClampNeg 0)).toNatClampNeg 0)).toNatClampNeg 0)).toNatClampNeg]? = some (.int (xs.getD ((xs.getD ((xs.getD ((xs.getD (p1).toNatClampNeg 0)).toNatClampNeg 0)).toNatClampNeg 0)).toNatClampNeg 0)) := Has.at AH8 hin8 (own_mapI xs _)
          refine own_go (fun _ k => X0.iaload hx (j := (xs.getD ((xs.getD ((xs.getD (p1).toNatClampNeg 0)).toNatClampNeg 0)).toNatClampNeg 0)) (v := (.int (xs.getD ((xs.getD ((xs.getD ((xs.getD (p1).toNatClampNeg 0)).toNatClampNeg 0)).toNatClampNeg 0)).toNatClampNeg 0))) (by rw [e0]; exact Ar8.1) (State.isArrayOf_alike hZ.alike Ar8.2.1) Ar8.2.2 hin8 hat8 (g := (mkF m 11 #[.val (.ref a0), .val (.int p1), .val (.int (xs.getD ((xs.getD ((xs.getD (p1).toNatClampNeg 0)).toNatClampNeg 0)).toNatClampNeg 0))] [(.int (xs.getD ((xs.getD ((xs.getD (p1).toNatClampNeg 0)).toNatClampNeg 0)).toNatClampNeg 0)), (.ref a0)])) rfl rfl (hb hby d2_11) _ k) ?_
          show own_Go p.tables e below _ (s₁.setTop (mkF m 12 #[.val (.ref a0), .val (.int p1), .val (.int (xs.getD ((xs.getD ((xs.getD (p1).toNatClampNeg 0)).toNatClampNeg 0)).toNatClampNeg 0))] [(.int (xs.getD ((xs.getD ((xs.getD ((xs.getD (p1).toNatClampNeg 0)).toNatClampNeg 0)).toNatClampNeg 0)).toNatClampNeg 0))]))
          refine own_go (fun _ k => XS.istoreN X0.here hx rfl (hb hby d2_12) rfl (l' := #[.val (.ref a0), .val (.int p1), .val (.int (xs.getD ((xs.getD ((xs.getD ((xs.getD (p1).toNatClampNeg 0)).toNatClampNeg 0)).toNatClampNeg 0)).toNatClampNeg 0))]) rfl k) ?_
          show own_Go p.tables e below _ (s₁.setTop (mkF m 13 #[.val (.ref a0), .val (.int p1), .val (.int (xs.getD ((xs.getD ((xs.getD ((xs.getD (p1).toNatClampNeg 0)).toNatClampNeg 0)).toNatClampNeg 0)).toNatClampNeg 0))] []))
          refine own_go (fun _ k => XS.goto X0.here hx rfl (pc0 := 13) (pc' := 2) rfl (hb hby d2_13) (by decide) (by decide) k) ?_
          show own_Go p.tables e below _ (s₁.setTop (mkF m 2 #[.val (.ref a0), .val (.int p1), .val (.int (xs.getD ((xs.getD ((xs.getD ((xs.getD (p1).toNatClampNeg 0)).toNatClampNeg 0)).toNatClampNeg 0)).toNatClampNeg 0))] []))
          refine own_go (fun _ k => XS.aloadN X0.here hx rfl (hb hby d2_2) rfl rfl k) ?_
          show own_Go p.tables e below _ (s₁.setTop (mkF m 3 #[.val (.ref a0), .val (.int p1), .val (.int (xs.getD ((xs.getD ((xs.getD ((xs.getD (p1).toNatClampNeg 0)).toNatClampNeg 0)).toNatClampNeg 0)).toNatClampNeg 0))] [(.ref a0)]))
          refine own_go (fun _ k => XS.iloadN X0.here hx rfl (hb hby d2_3) rfl k) ?_
          show own_Go p.tables e below _ (s₁.setTop (mkF m 4 #[.val (.ref a0), .val (.int p1), .val (.int (xs.getD ((xs.getD ((xs.getD ((xs.getD (p1).toNatClampNeg 0)).toNatClampNeg 0)).toNatClampNeg 0)).toNatClampNeg 0))] [(.int (xs.getD ((xs.getD ((xs.getD ((xs.getD (p1).toNatClampNeg 0)).toNatClampNeg 0)).toNatClampNeg 0)).toNatClampNeg 0)), (.ref a0)]))
          have vo9 := V_a0
          obtain ⟨cl9, Ar9, Aq9, AS9, AN9, AH9, AG9⟩ := vo9
          have hin9 : ¬ ((xs.getD ((xs.getD ((xs.getD ((xs.getD (p1).toNatClampNeg 0)).toNatClampNeg 0)).toNatClampNeg 0)).toNatClampNeg 0) < 0 ∨ cl9.slots.size ≤ ((xs.getD ((xs.getD ((xs.getD ((xs.getD (p1).toNatClampNeg 0)).toNatClampNeg 0)).toNatClampNeg 0)).toNatClampNeg 0)).toNatClampNeg) := inb_of AS9 (hrg _ (hrg _ (hrg _ (hrg _ hr0))))
          have hat9 : cl9.slots[((xs.getD ((xs.getD ((xs.getD ((xs.getD (p1).toNatClampNeg 0)).toNatClampNeg 0)).toNatClampNeg 0)).toNatClampNeg 0)).toNatClampNeg]? = some (.int (xs.getD ((xs.getD ((xs.getD ((xs.getD ((xs.getD (p1).toNatClampNeg 0)).toNatClampNeg 0)).toNatClampNeg 0)).toNatClampNeg 0)).toNatClampNeg 0)) := Has.at AH9 hin9 (own_mapI xs _)
          refine own_go (fun _ k => X0.iaload hx (j := (xs.getD ((xs.getD ((xs.getD ((xs.getD (p1).toNatClampNeg 0)).toNatClampNeg 0)).toNatClampNeg 0)).toNatClampNeg 0)) (v := (.int (xs.getD ((xs.getD ((xs.getD ((xs.getD ((xs.getD (p1).toNatClampNeg 0)).toNatClampNeg 0)).toNatClampNeg 0)).toNatClampNeg 0)).toNatClampNeg 0))) (by rw [e0]; exact Ar9.1) (State.isArrayOf_alike hZ.alike Ar9.2.1) Ar9.2.2 hin9 hat9 (g := (mkF m 4 #[.val (.ref a0), .val (.int p1), .val (.int (xs.getD ((xs.getD ((xs.getD ((xs.getD (p1).toNatClampNeg 0)).toNatClampNeg 0)).toNatClampNeg 0)).toNatClampNeg 0))] [(.int (xs.getD ((xs.getD ((xs.getD ((xs.getD (p1).toNatClampNeg 0)).toNatClampNeg 0)).toNatClampNeg 0)).toNatClampNeg 0)), (.ref a0)])) rfl rfl (hb hby d2_4) _ k) ?_
          show own_Go p.tables e below _ (s₁.setTop (mkF m 5 #[.val (.ref a0), .val (.int p1), .val (.int (xs.getD ((xs.getD ((xs.getD ((xs.getD (p1).toNatClampNeg 0)).toNatClampNeg 0)).toNatClampNeg 0)).toNatClampNeg 0))] [(.int (xs.getD ((xs.getD ((xs.getD ((xs.getD ((xs.getD (p1).toNatClampNeg 0)).toNatClampNeg 0)).toNatClampNeg 0)).toNatClampNeg 0)).toNatClampNeg 0))]))
          refine own_go (fun _ k => XS.iloadN X0.here hx rfl (hb hby d2_5) rfl k) ?_
          show own_Go p.tables e below _ (s₁.setTop (mkF m 6 #[.val (.ref a0), .val (.int p1), .val (.int (xs.getD ((xs.getD ((xs.getD ((xs.getD (p1).toNatClampNeg 0)).toNatClampNeg 0)).toNatClampNeg 0)).toNatClampNeg 0))] [(.int (xs.getD ((xs.getD ((xs.getD ((xs.getD (p1).toNatClampNeg 0)).toNatClampNeg 0)).toNatClampNeg 0)).toNatClampNeg 0)), (.int (xs.getD ((xs.getD ((xs.getD ((xs.getD ((xs.getD (p1).toNatClampNeg 0)).toNatClampNeg 0)).toNatClampNeg 0)).toNatClampNeg 0)).toNatClampNeg 0))]))
          have hf6 : (xs.getD ((xs.getD ((xs.getD ((xs.getD ((xs.getD (p1).toNatClampNeg 0)).toNatClampNeg 0)).toNatClampNeg 0)).toNatClampNeg 0)).toNatClampNeg 0) = (xs.getD ((xs.getD ((xs.getD ((xs.getD (p1).toNatClampNeg 0)).toNatClampNeg 0)).toNatClampNeg 0)).toNatClampNeg 0) := hstop
          refine own_go (fun _ k => XS.icmpYes X0.here hx rfl (pc0 := 6) (pc' := 16) rfl (hb hby d2_6) rfl (teq hf6).1 (by decide) (by decide) k) ?_
          show own_Go p.tables e below _ (s₁.setTop (mkF m 16 #[.val (.ref a0), .val (.int p1), .val (.int (xs.getD ((xs.getD ((xs.getD ((xs.getD (p1).toNatClampNeg 0)).toNatClampNeg 0)).toNatClampNeg 0)).toNatClampNeg 0))] []))
          refine own_go (fun _ k => XS.iloadN X0.here hx rfl (hb hby d2_16) rfl k) ?_
          show own_Go p.tables e below _ (s₁.setTop (mkF m 17 #[.val (.ref a0), .val (.int p1), .val (.int (xs.getD ((xs.getD ((xs.getD ((xs.getD (p1).toNatClampNeg 0)).toNatClampNeg 0)).toNatClampNeg 0)).toNatClampNeg 0))] [(.int (xs.getD ((xs.getD ((xs.getD ((xs.getD (p1).toNatClampNeg 0)).toNatClampNeg 0)).toNatClampNeg 0)).toNatClampNeg 0))]))
          refine own_end X0 Bd.notSynchronized (v := some (.int (xs.getD ((xs.getD ((xs.getD ((xs.getD (p1).toNatClampNeg 0)).toNatClampNeg 0)).toNatClampNeg 0)).toNatClampNeg 0))) (fun h => by rw [Bd.returns] at h; cases h) (fun fs hr => own_retI X0 hx Bd.returns (hb hby d2_17) hr) ?_ (by decide) (by decide)
          exact ⟨rfl, N0, e0⟩
theorem own_v (p : Int32) : ¬ (own_f1 p < 0) ∧ own_f1 p < (5 : Int32) := by
  have e1 := c_mask p 2147483647 31 (by decide) (by decide)
  have e2 := c_irem (p &&& 2147483647) 5 5 (by decide)
  rw [← irem_eq_mod] at e2
  have r := rng32 p
  have k0 : (0 : Int32).toInt = 0 := by decide
  have k5 : (5 : Int32).toInt = 5 := by decide
  simp only [own_f1, Int32.lt_iff_toInt_lt, k0, k5]
  omega
theorem own_all {a b c d e : Int32} (ha : ¬ (a < 0) ∧ a < (5 : Int32)) (hb : ¬ (b < 0) ∧ b < (5 : Int32)) (hc : ¬ (c < 0) ∧ c < (5 : Int32)) (hd : ¬ (d < 0) ∧ d < (5 : Int32)) (he : ¬ (e < 0) ∧ e < (5 : Int32)) (i : Nat) :
    ¬ ([a, b, c, d, e].getD i 0 < 0) ∧ [a, b, c, d, e].getD i 0 < (5 : Int32) := by
  match i with
  | 0 => exact ha
  | 1 => exact hb
  | 2 => exact hc
  | 3 => exact hd
  | 4 => exact he
  | n + 5 => exact (by decide : ¬ ((0 : Int32) < 0) ∧ (0 : Int32) < 5)
theorem own_w (p0 p1 p2 p3 p4 : Int32) (i : Nat) : ¬ ([own_f1 p0, own_f1 p1, own_f1 p2, own_f1 p3, own_f1 p4].getD i 0 < 0) ∧ [own_f1 p0, own_f1 p1, own_f1 p2, own_f1 p3, own_f1 p4].getD i 0 < (5 : Int32) :=
  own_all (own_v p0) (own_v p1) (own_v p2) (own_v p3) (own_v p4) i
theorem pn0 : plainName "com/example/meshwright/meshwright/plan/LinkedGroupsRootPinLaw" = true := by first | (simp [plainName, overriddenIn]; done) | decide +kernel
theorem pd0_0 : parseMethodDescriptor "(I)I" = some ⟨[.int], some .int⟩ := by decide +kernel
theorem pd0_1 : parseMethodDescriptor "([II)I" = some ⟨[(.array .int), .int], some .int⟩ := by decide +kernel
theorem ef0 (m : MethodId) (p0 : Int32) (p1 : Int32) (p2 : Int32) (p3 : Int32) (p4 : Int32) (p5 : Int32) : entryFrame m #[(.int p0), (.int p1), (.int p2), (.int p3), (.int p4), (.int p5)] maxLocals = mkF m 0 #[.val (.int p0), .val (.int p1), .val (.int p2), .val (.int p3), .val (.int p4), .val (.int p5), .unset, .unset, .unset] [] := by first | (simp [entryFrame, mkF, argsToLocals, Value.category, maxLocals]; done) | rfl
def own_Q0 (Z : State) (p0 : Int32) (p1 : Int32) (p2 : Int32) (p3 : Int32) (p4 : Int32) (p5 : Int32) (h0 : Heap) (n0 : Nat) (v : Option Value) (h : Heap) (L : List Loc) : Prop := v = some (.int 1) ∧ Fr n0 L
set_option maxRecDepth 65536 in
set_option maxHeartbeats 40000000 in
theorem rm0 (l : Launch) (Z : State) (az : Array Value) (hw : ∀ d ∈ tables_1, d.before az Z = true) (ws : List Jvm.Cond) (p0 : Int32) (p1 : Int32) (p2 : Int32) (p3 : Int32) (p4 : Int32) (p5 : Int32) (h0 : Heap) (n0 : Nat) (Z0 : n0 ≤ h0.size) :
    MetFree l x (head1 (Jvm.Cond.code x code maxLocals ret :: ws) room_1) (fun a U => a = #[(.int p0), (.int p1), (.int p2), (.int p3), (.int p4), (.int p5)] ∧ Z.Warmed39 U.vm ∧ U.heap = h0) (fun _ _ _ _ _ => True) (fun _ U o U' => ∃ v L, o = .returned v ∧ own_Q0 Z p0 p1 p2 p3 p4 p5 h0 n0 v U'.heap L ∧ FrameEnd U o U' L 16 128) := by
  refine MetFree.of_bodySF (plainFor_of_name pn0) hisR ?_
  intro p e s m args below meth c s₁ Bd hml0 hP hK
  obtain ⟨rfl, hZ, hh⟩ := hP
  have hx := Bd.exec
  have hby := Bd.bytes
  have hml : c.maxLocals = 9 := hml0
  have hown : s.vm.findClass "com/example/meshwright/meshwright/plan/LinkedGroupsRootPinLaw" = some m.cls := findClass_of_methodNamed Bd.named
  have hnm := (name_of_methodNamed Bd.named Bd.method).1
  have X0 : Stand p l e room_1 s m #[(.int p0), (.int p1), (.int p2), (.int p3), (.int p4), (.int p5)] below meth c s₁ [] 0 0 := Stand.of_body Bd
  have e0 : s₁.heap = h0 := by rw [← hh, Bd.state]; rfl
  have N0 := Fr.nil n0
  show own_Go p.tables e below (fun o U' => ∃ v L, o = .returned v ∧ own_Q0 Z p0 p1 p2 p3 p4 p5 h0 n0 v U'.heap L ∧ FrameEnd s o U' L 16 128) (s₁.setTop (entryFrame m #[(.int p0), (.int p1), (.int p2), (.int p3), (.int p4), (.int p5)] maxLocals))
  refine own_go (fun _ k => castTop (ef0 m p0 p1 p2 p3 p4 p5) k) ?_
  show own_Go p.tables e below _ (s₁.setTop (mkF m 0 #[.val (.int p0), .val (.int p1), .val (.int p2), .val (.int p3), .val (.int p4), .val (.int p5), .unset, .unset, .unset] []))
  refine own_go (fun _ k => XS.iconst X0.here hx rfl (hb hby at_0) k) ?_
  show own_Go p.tables e below _ (s₁.setTop (mkF m 1 #[.val (.int p0), .val (.int p1), .val (.int p2), .val (.int p3), .val (.int p4), .val (.int p5), .unset, .unset, .unset] [(.int (5 : Int32))]))
  obtain ⟨T1, h1, k1, X1, e1, E1, A1, st1⟩ := newP X0 hx hZ (hw _ (List.mem_of_getElem? (i := 0) rfl)) e0 (g := (mkF m 1 #[.val (.int p0), .val (.int p1), .val (.int p2), .val (.int p3), .val (.int p4), .val (.int p5), .unset, .unset, .unset] [(.int (5 : Int32))])) rfl (hb hby at_1) rfl (by decide) (cap := 5) (by decide) (by decide) (by decide) (by decide)
  obtain ⟨b1, g1⟩ : ∃ z, z = h0.size := ⟨_, rfl⟩
  rw [← g1] at A1 st1
  have g_b1 : n0 ≤ b1 := Nat.le_trans Z0 (Nat.le_of_eq g1.symm)
  have Z1 : n0 ≤ h1.size := Nat.le_trans Z0 E1.1
  have V1 : Arv Z h1 b1 k1 .int (5 : Int32) [(.int (0 : Int32)), (.int (0 : Int32)), (.int (0 : Int32)), (.int (0 : Int32)), (.int (0 : Int32))] (.int (0 : Int32)) := (Arv.new A1 (by decide)).pad (pad_rep [] (.int (0 : Int32)) 5)
  refine own_go st1 ?_
  show own_Go p.tables e below _ (T1.setTop (mkF m 3 #[.val (.int p0), .val (.int p1), .val (.int p2), .val (.int p3), .val (.int p4), .val (.int p5), .unset, .unset, .unset] [(.ref b1)]))
  refine own_go (fun _ k => XS.dup X1.here hx rfl (hb hby at_3) rfl rfl k) ?_
  show own_Go p.tables e below _ (T1.setTop (mkF m 4 #[.val (.int p0), .val (.int p1), .val (.int p2), .val (.int p3), .val (.int p4), .val (.int p5), .unset, .unset, .unset] [(.ref b1), (.ref b1)]))
  refine own_go (fun _ k => XS.iconst X1.here hx rfl (hb hby at_4) k) ?_
  show own_Go p.tables e below _ (T1.setTop (mkF m 5 #[.val (.int p0), .val (.int p1), .val (.int p2), .val (.int p3), .val (.int p4), .val (.int p5), .unset, .unset, .unset] [(.int (0 : Int32)), (.ref b1), (.ref b1)]))
  refine own_go (fun _ k => XS.iloadN X1.here hx rfl (hb hby at_5) rfl k) ?_
  show own_Go p.tables e below _ (T1.setTop (mkF m 6 #[.val (.int p0), .val (.int p1), .val (.int p2), .val (.int p3), .val (.int p4), .val (.int p5), .unset, .unset, .unset] [(.int p0), (.int (0 : Int32)), (.ref b1), (.ref b1)]))
  obtain ⟨_, _, ⟨T2, L2, k2, n2⟩, -, X2, ⟨Lc2, hQ2, l2, y2, z2⟩, st2⟩ := Jvm.LawKit.callS X1 hx (y := (⟨"com/example/meshwright/meshwright/plan/LinkedGroupsRootPinLaw", "idx", "(I)I"⟩ : MethodName)) hown (mvT hZ (hw _ (List.mem_of_getElem? (i := 1) rfl))) (mvT hZ (hw _ (List.mem_of_getElem? (i := 2) rfl))) (mvT hZ (hw _ (List.mem_of_getElem? (i := 3) rfl))) (mvT hZ (hw _ (List.mem_of_getElem? (i := 4) rfl))) (by decide) (backOf (W := 3) (rm1 l Z az hw [] p0 h1 n0 Z1) hZ (hw _ (List.mem_of_getElem? (i := 4) rfl)) (hw _ (List.mem_of_getElem? (i := 3) rfl)) (by decide) (by decide)) (g := (mkF m 6 #[.val (.int p0), .val (.int p1), .val (.int p2), .val (.int p3), .val (.int p4), .val (.int p5), .unset, .unset, .unset] [(.int p0), (.int (0 : Int32)), (.ref b1), (.ref b1)])) rfl (by rw [hml]; rfl) (argsL := [(.int p0)]) (rest := [(.int (0 : Int32)), (.ref b1), (.ref b1)]) (lenOf pd0_0 rfl) rfl (by show 2 * 0 + _ ≤ _; exact Nat.le_of_eq rfl) (hb hby at_6) (fun _ _ => ⟨rfl, e1, (by decide : 1 + 0 ≤ _), (by decide : 5 + 0 ≤ _)⟩)
  dsimp only [Pt.U, Pt.locs, Pt.cells, Pt.slots] at X2 l2 y2 z2 st2 hQ2
  subst l2 y2 z2
  refine own_go st2 ?_
  obtain ⟨rfl, N2q, e2⟩ := hQ2
  have N2 := Fr.app N0 N2q
  show own_Go p.tables e below _ (T2.setTop (mkF m 9 #[.val (.int p0), .val (.int p1), .val (.int p2), .val (.int p3), .val (.int p4), .val (.int p5), .unset, .unset, .unset] [(.int (own_f1 p0)), (.int (0 : Int32)), (.ref b1), (.ref b1)]))
  have vo3 := V1
  obtain ⟨cl3, Ar3, Aq3, AS3, AN3, AH3, AG3⟩ := vo3
  have hin4 : ¬ ((0 : Int32) < 0 ∨ cl3.slots.size ≤ ((0 : Int32)).toNatClampNeg) := inb_of AS3 ⟨by decide, by decide⟩
  obtain ⟨T4, h4, X4, e4, W4, st4⟩ := stI X2 hx hZ (e2 : T2.heap = h1) Ar3 (j := (0 : Int32)) hin4 (g := (mkF m 9 #[.val (.int p0), .val (.int p1), .val (.int p2), .val (.int p3), .val (.int p4), .val (.int p5), .unset, .unset, .unset] [(.int (own_f1 p0)), (.int (0 : Int32)), (.ref b1), (.ref b1)])) rfl rfl (hb hby at_9)
  have V4 : Arv Z h4 b1 k1 .int (5 : Int32) [(.int (own_f1 p0)), (.int (0 : Int32)), (.int (0 : Int32)), (.int (0 : Int32)), (.int (0 : Int32))] (.int (0 : Int32)) := Arv.set Ar3 Aq3 AS3 AN3 AH3 AG3 rfl W4 0 rfl (Nat.le_of_ble_eq_true rfl)
  have N4 := Fr.snoc X4 N2 g_b1
  have Z4 : n0 ≤ h4.size := Nat.le_trans Z1 (Keep.of_wr W4).1
  refine own_go st4 ?_
  show own_Go p.tables e below _ (T4.setTop (mkF m 10 #[.val (.int p0), .val (.int p1), .val (.int p2), .val (.int p3), .val (.int p4), .val (.int p5), .unset, .unset, .unset] [(.ref b1)]))
  refine own_go (fun _ k => XS.dup X4.here hx rfl (hb hby at_10) rfl rfl k) ?_
  show own_Go p.tables e below _ (T4.setTop (mkF m 11 #[.val (.int p0), .val (.int p1), .val (.int p2), .val (.int p3), .val (.int p4), .val (.int p5), .unset, .unset, .unset] [(.ref b1), (.ref b1)]))
  refine own_go (fun _ k => XS.iconst X4.here hx rfl (hb hby at_11) k) ?_
  show own_Go p.tables e below _ (T4.setTop (mkF m 12 #[.val (.int p0), .val (.int p1), .val (.int p2), .val (.int p3), .val (.int p4), .val (.int p5), .unset, .unset, .unset] [(.int (1 : Int32)), (.ref b1), (.ref b1)]))
  refine own_go (fun _ k => XS.iloadN X4.here hx rfl (hb hby at_12) rfl k) ?_
  show own_Go p.tables e below _ (T4.setTop (mkF m 13 #[.val (.int p0), .val (.int p1), .val (.int p2), .val (.int p3), .val (.int p4), .val (.int p5), .unset, .unset, .unset] [(.int p1), (.int (1 : Int32)), (.ref b1), (.ref b1)]))
  obtain ⟨_, _, ⟨T5, L5, k5, n5⟩, -, X5, ⟨Lc5, hQ5, l5, y5, z5⟩, st5⟩ := Jvm.LawKit.callS X4 hx (y := (⟨"com/example/meshwright/meshwright/plan/LinkedGroupsRootPinLaw", "idx", "(I)I"⟩ : MethodName)) hown (mvT hZ (hw _ (List.mem_of_getElem? (i := 1) rfl))) (mvT hZ (hw _ (List.mem_of_getElem? (i := 2) rfl))) (mvT hZ (hw _ (List.mem_of_getElem? (i := 3) rfl))) (mvT hZ (hw _ (List.mem_of_getElem? (i := 4) rfl))) (by decide) (backOf (W := 3) (rm1 l Z az hw [] p1 h4 n0 Z4) hZ (hw _ (List.mem_of_getElem? (i := 4) rfl)) (hw _ (List.mem_of_getElem? (i := 3) rfl)) (by decide) (by decide)) (g := (mkF m 13 #[.val (.int p0), .val (.int p1), .val (.int p2), .val (.int p3), .val (.int p4), .val (.int p5), .unset, .unset, .unset] [(.int p1), (.int (1 : Int32)), (.ref b1), (.ref b1)])) rfl (by rw [hml]; rfl) (argsL := [(.int p1)]) (rest := [(.int (1 : Int32)), (.ref b1), (.ref b1)]) (lenOf pd0_0 rfl) rfl (by show 2 * 0 + _ ≤ _; exact Nat.le_of_eq rfl) (hb hby at_13) (fun _ _ => ⟨rfl, e4, (by decide : 1 + 0 ≤ _), (by decide : 5 + 0 ≤ _)⟩)
  dsimp only [Pt.U, Pt.locs, Pt.cells, Pt.slots] at X5 l5 y5 z5 st5 hQ5
  subst l5 y5 z5
  refine own_go st5 ?_
  obtain ⟨rfl, N5q, e5⟩ := hQ5
  have N5 := Fr.app N4 N5q
  show own_Go p.tables e below _ (T5.setTop (mkF m 16 #[.val (.int p0), .val (.int p1), .val (.int p2), .val (.int p3), .val (.int p4), .val (.int p5), .unset, .unset, .unset] [(.int (own_f1 p1)), (.int (1 : Int32)), (.ref b1), (.ref b1)]))
  have vo6 := V4
  obtain ⟨cl6, Ar6, Aq6, AS6, AN6, AH6, AG6⟩ := vo6
  have hin7 : ¬ ((1 : Int32) < 0 ∨ cl6.slots.size ≤ ((1 : Int32)).toNatClampNeg) := inb_of AS6 ⟨by decide, by decide⟩
  obtain ⟨T7, h7, X7, e7, W7, st7⟩ := stI X5 hx hZ (e5 : T5.heap = h4) Ar6 (j := (1 : Int32)) hin7 (g := (mkF m 16 #[.val (.int p0), .val (.int p1), .val (.int p2), .val (.int p3), .val (.int p4), .val (.int p5), .unset, .unset, .unset] [(.int (own_f1 p1)), (.int (1 : Int32)), (.ref b1), (.ref b1)])) rfl rfl (hb hby at_16)
  have V7 : Arv Z h7 b1 k1 .int (5 : Int32) [(.int (own_f1 p0)), (.int (own_f1 p1)), (.int (0 : Int32)), (.int (0 : Int32)), (.int (0 : Int32))] (.int (0 : Int32)) := Arv.set Ar6 Aq6 AS6 AN6 AH6 AG6 rfl W7 1 rfl (Nat.le_of_ble_eq_true rfl)
  have N7 := Fr.snoc X7 N5 g_b1
  have Z7 : n0 ≤ h7.size := Nat.le_trans Z4 (Keep.of_wr W7).1
  refine own_go st7 ?_
  show own_Go p.tables e below _ (T7.setTop (mkF m 17 #[.val (.int p0), .val (.int p1), .val (.int p2), .val (.int p3), .val (.int p4), .val (.int p5), .unset, .unset, .unset] [(.ref b1)]))
  refine own_go (fun _ k => XS.dup X7.here hx rfl (hb hby at_17) rfl rfl k) ?_
  show own_Go p.tables e below _ (T7.setTop (mkF m 18 #[.val (.int p0), .val (.int p1), .val (.int p2), .val (.int p3), .val (.int p4), .val (.int p5), .unset, .unset, .unset] [(.ref b1), (.ref b1)]))
  refine own_go (fun _ k => XS.iconst X7.here hx rfl (hb hby at_18) k) ?_
  show own_Go p.tables e below _ (T7.setTop (mkF m 19 #[.val (.int p0), .val (.int p1), .val (.int p2), .val (.int p3), .val (.int p4), .val (.int p5), .unset, .unset, .unset] [(.int (2 : Int32)), (.ref b1), (.ref b1)]))
  refine own_go (fun _ k => XS.iloadN X7.here hx rfl (hb hby at_19) rfl k) ?_
  show own_Go p.tables e below _ (T7.setTop (mkF m 20 #[.val (.int p0), .val (.int p1), .val (.int p2), .val (.int p3), .val (.int p4), .val (.int p5), .unset, .unset, .unset] [(.int p2), (.int (2 : Int32)), (.ref b1), (.ref b1)]))
  obtain ⟨_, _, ⟨T8, L8, k8, n8⟩, -, X8, ⟨Lc8, hQ8, l8, y8, z8⟩, st8⟩ := Jvm.LawKit.callS X7 hx (y := (⟨"com/example/meshwright/meshwright/plan/LinkedGroupsRootPinLaw", "idx", "(I)I"⟩ : MethodName)) hown (mvT hZ (hw _ (List.mem_of_getElem? (i := 1) rfl))) (mvT hZ (hw _ (List.mem_of_getElem? (i := 2) rfl))) (mvT hZ (hw _ (List.mem_of_getElem? (i := 3) rfl))) (mvT hZ (hw _ (List.mem_of_getElem? (i := 4) rfl))) (by decide) (backOf (W := 3) (rm1 l Z az hw [] p2 h7 n0 Z7) hZ (hw _ (List.mem_of_getElem? (i := 4) rfl)) (hw _ (List.mem_of_getElem? (i := 3) rfl)) (by decide) (by decide)) (g := (mkF m 20 #[.val (.int p0), .val (.int p1), .val (.int p2), .val (.int p3), .val (.int p4), .val (.int p5), .unset, .unset, .unset] [(.int p2), (.int (2 : Int32)), (.ref b1), (.ref b1)])) rfl (by rw [hml]; rfl) (argsL := [(.int p2)]) (rest := [(.int (2 : Int32)), (.ref b1), (.ref b1)]) (lenOf pd0_0 rfl) rfl (by show 2 * 0 + _ ≤ _; exact Nat.le_of_eq rfl) (hb hby at_20) (fun _ _ => ⟨rfl, e7, (by decide : 1 + 0 ≤ _), (by decide : 5 + 0 ≤ _)⟩)
  dsimp only [Pt.U, Pt.locs, Pt.cells, Pt.slots] at X8 l8 y8 z8 st8 hQ8
  subst l8 y8 z8
  refine own_go st8 ?_
  obtain ⟨rfl, N8q, e8⟩ := hQ8
  have N8 := Fr.app N7 N8q
  show own_Go p.tables e below _ (T8.setTop (mkF m 23 #[.val (.int p0), .val (.int p1), .val (.int p2), .val (.int p3), .val (.int p4), .val (.int p5), .unset, .unset, .unset] [(.int (own_f1 p2)), (.int (2 : Int32)), (.ref b1), (.ref b1)]))
  have vo9 := V7
  obtain ⟨cl9, Ar9, Aq9, AS9, AN9, AH9, AG9⟩ := vo9
  have hin10 : ¬ ((2 : Int32) < 0 ∨ cl9.slots.size ≤ ((2 : Int32)).toNatClampNeg) := inb_of AS9 ⟨by decide, by decide⟩
  obtain ⟨T10, h10, X10, e10, W10, st10⟩ := stI X8 hx hZ (e8 : T8.heap = h7) Ar9 (j := (2 : Int32)) hin10 (g := (mkF m 23 #[.val (.int p0), .val (.int p1), .val (.int p2), .val (.int p3), .val (.int p4), .val (.int p5), .unset, .unset, .unset] [(.int (own_f1 p2)), (.int (2 : Int32)), (.ref b1), (.ref b1)])) rfl rfl (hb hby at_23)
  have V10 : Arv Z h10 b1 k1 .int (5 : Int32) [(.int (own_f1 p0)), (.int (own_f1 p1)), (.int (own_f1 p2)), (.int (0 : Int32)), (.int (0 : Int32))] (.int (0 : Int32)) := Arv.set Ar9 Aq9 AS9 AN9 AH9 AG9 rfl W10 2 rfl (Nat.le_of_ble_eq_true rfl)
  have N10 := Fr.snoc X10 N8 g_b1
  have Z10 : n0 ≤ h10.size := Nat.le_trans Z7 (Keep.of_wr W10).1
  refine own_go st10 ?_
  show own_Go p.tables e below _ (T10.setTop (mkF m 24 #[.val (.int p0), .val (.int p1), .val (.int p2), .val (.int p3), .val (.int p4), .val (.int p5), .unset, .unset, .unset] [(.ref b1)]))
  refine own_go (fun _ k => XS.dup X10.here hx rfl (hb hby at_24) rfl rfl k) ?_
  show own_Go p.tables e below _ (T10.setTop (mkF m 25 #[.val (.int p0), .val (.int p1), .val (.int p2), .val (.int p3), .val (.int p4), .val (.int p5), .unset, .unset, .unset] [(.ref b1), (.ref b1)]))
  refine own_go (fun _ k => XS.iconst X10.here hx rfl (hb hby at_25) k) ?_
  show own_Go p.tables e below _ (T10.setTop (mkF m 26 #[.val (.int p0), .val (.int p1), .val (.int p2), .val (.int p3), .val (.int p4), .val (.int p5), .unset, .unset, .unset] [(.int (3 : Int32)), (.ref b1), (.ref b1)]))
  refine own_go (fun _ k => XS.iloadN X10.here hx rfl (hb hby at_26) rfl k) ?_
  show own_Go p.tables e below _ (T10.setTop (mkF m 27 #[.val (.int p0), .val (.int p1), .val (.int p2), .val (.int p3), .val (.int p4), .val (.int p5), .unset, .unset, .unset] [(.int p3), (.int (3 : Int32)), (.ref b1), (.ref b1)]))
  obtain ⟨_, _, ⟨T11, L11, k11, n11⟩, -, X11, ⟨Lc11, hQ11, l11, y11, z11⟩, st11⟩ := Jvm.LawKit.callS X10 hx (y := (⟨"com/example/meshwright/meshwright/plan/LinkedGroupsRootPinLaw", "idx", "(I)I"⟩ : MethodName)) hown (mvT hZ (hw _ (List.mem_of_getElem? (i := 1) rfl))) (mvT hZ (hw _ (List.mem_of_getElem? (i := 2) rfl))) (mvT hZ (hw _ (List.mem_of_getElem? (i := 3) rfl))) (mvT hZ (hw _ (List.mem_of_getElem? (i := 4) rfl))) (by decide) (backOf (W := 3) (rm1 l Z az hw [] p3 h10 n0 Z10) hZ (hw _ (List.mem_of_getElem? (i := 4) rfl)) (hw _ (List.mem_of_getElem? (i := 3) rfl)) (by decide) (by decide)) (g := (mkF m 27 #[.val (.int p0), .val (.int p1), .val (.int p2), .val (.int p3), .val (.int p4), .val (.int p5), .unset, .unset, .unset] [(.int p3), (.int (3 : Int32)), (.ref b1), (.ref b1)])) rfl (by rw [hml]; rfl) (argsL := [(.int p3)]) (rest := [(.int (3 : Int32)), (.ref b1), (.ref b1)]) (lenOf pd0_0 rfl) rfl (by show 2 * 0 + _ ≤ _; exact Nat.le_of_eq rfl) (hb hby at_27) (fun _ _ => ⟨rfl, e10, (by decide : 1 + 0 ≤ _), (by decide : 5 + 0 ≤ _)⟩)
  dsimp only [Pt.U, Pt.locs, Pt.cells, Pt.slots] at X11 l11 y11 z11 st11 hQ11
  subst l11 y11 z11
  refine own_go st11 ?_
  obtain ⟨rfl, N11q, e11⟩ := hQ11
  have N11 := Fr.app N10 N11q
  show own_Go p.tables e below _ (T11.setTop (mkF m 30 #[.val (.int p0), .val (.int p1), .val (.int p2), .val (.int p3), .val (.int p4), .val (.int p5), .unset, .unset, .unset] [(.int (own_f1 p3)), (.int (3 : Int32)), (.ref b1), (.ref b1)]))
  have vo12 := V10
  obtain ⟨cl12, Ar12, Aq12, AS12, AN12, AH12, AG12⟩ := vo12
  have hin13 : ¬ ((3 : Int32) < 0 ∨ cl12.slots.size ≤ ((3 : Int32)).toNatClampNeg) := inb_of AS12 ⟨by decide, by decide⟩
  obtain ⟨T13, h13, X13, e13, W13, st13⟩ := stI X11 hx hZ (e11 : T11.heap = h10) Ar12 (j := (3 : Int32)) hin13 (g := (mkF m 30 #[.val (.int p0), .val (.int p1), .val (.int p2), .val (.int p3), .val (.int p4), .val (.int p5), .unset, .unset, .unset] [(.int (own_f1 p3)), (.int (3 : Int32)), (.ref b1), (.ref b1)])) rfl rfl (hb hby at_30)
  have V13 : Arv Z h13 b1 k1 .int (5 : Int32) [(.int (own_f1 p0)), (.int (own_f1 p1)), (.int (own_f1 p2)), (.int (own_f1 p3)), (.int (0 : Int32))] (.int (0 : Int32)) := Arv.set Ar12 Aq12 AS12 AN12 AH12 AG12 rfl W13 3 rfl (Nat.le_of_ble_eq_true rfl)
  have N13 := Fr.snoc X13 N11 g_b1
  have Z13 : n0 ≤ h13.size := Nat.le_trans Z10 (Keep.of_wr W13).1
  refine own_go st13 ?_
  show own_Go p.tables e below _ (T13.setTop (mkF m 31 #[.val (.int p0), .val (.int p1), .val (.int p2), .val (.int p3), .val (.int p4), .val (.int p5), .unset, .unset, .unset] [(.ref b1)]))
  refine own_go (fun _ k => XS.dup X13.here hx rfl (hb hby at_31) rfl rfl k) ?_
  show own_Go p.tables e below _ (T13.setTop (mkF m 32 #[.val (.int p0), .val (.int p1), .val (.int p2), .val (.int p3), .val (.int p4), .val (.int p5), .unset, .unset, .unset] [(.ref b1), (.ref b1)]))
  refine own_go (fun _ k => XS.iconst X13.here hx rfl (hb hby at_32) k) ?_
  show own_Go p.tables e below _ (T13.setTop (mkF m 33 #[.val (.int p0), .val (.int p1), .val (.int p2), .val (.int p3), .val (.int p4), .val (.int p5), .unset, .unset, .unset] [(.int (4 : Int32)), (.ref b1), (.ref b1)]))
  refine own_go (fun _ k => XS.iload X13.here hx rfl (hb hby at_33) rfl k) ?_
  show own_Go p.tables e below _ (T13.setTop (mkF m 35 #[.val (.int p0), .val (.int p1), .val (.int p2), .val (.int p3), .val (.int p4), .val (.int p5), .unset, .unset, .unset] [(.int p4), (.int (4 : Int32)), (.ref b1), (.ref b1)]))
  obtain ⟨_, _, ⟨T14, L14, k14, n14⟩, -, X14, ⟨Lc14, hQ14, l14, y14, z14⟩, st14⟩ := Jvm.LawKit.callS X13 hx (y := (⟨"com/example/meshwright/meshwright/plan/LinkedGroupsRootPinLaw", "idx", "(I)I"⟩ : MethodName)) hown (mvT hZ (hw _ (List.mem_of_getElem? (i := 1) rfl))) (mvT hZ (hw _ (List.mem_of_getElem? (i := 2) rfl))) (mvT hZ (hw _ (List.mem_of_getElem? (i := 3) rfl))) (mvT hZ (hw _ (List.mem_of_getElem? (i := 4) rfl))) (by decide) (backOf (W := 3) (rm1 l Z az hw [] p4 h13 n0 Z13) hZ (hw _ (List.mem_of_getElem? (i := 4) rfl)) (hw _ (List.mem_of_getElem? (i := 3) rfl)) (by decide) (by decide)) (g := (mkF m 35 #[.val (.int p0), .val (.int p1), .val (.int p2), .val (.int p3), .val (.int p4), .val (.int p5), .unset, .unset, .unset] [(.int p4), (.int (4 : Int32)), (.ref b1), (.ref b1)])) rfl (by rw [hml]; rfl) (argsL := [(.int p4)]) (rest := [(.int (4 : Int32)), (.ref b1), (.ref b1)]) (lenOf pd0_0 rfl) rfl (by show 2 * 0 + _ ≤ _; exact Nat.le_of_eq rfl) (hb hby at_35) (fun _ _ => ⟨rfl, e13, (by decide : 1 + 0 ≤ _), (by decide : 5 + 0 ≤ _)⟩)
  dsimp only [Pt.U, Pt.locs, Pt.cells, Pt.slots] at X14 l14 y14 z14 st14 hQ14
  subst l14 y14 z14
  refine own_go st14 ?_
  obtain ⟨rfl, N14q, e14⟩ := hQ14
  have N14 := Fr.app N13 N14q
  show own_Go p.tables e below _ (T14.setTop (mkF m 38 #[.val (.int p0), .val (.int p1), .val (.int p2), .val (.int p3), .val (.int p4), .val (.int p5), .unset, .unset, .unset] [(.int (own_f1 p4)), (.int (4 : Int32)), (.ref b1), (.ref b1)]))
  have vo15 := V13
  obtain ⟨cl15, Ar15, Aq15, AS15, AN15, AH15, AG15⟩ := vo15
  have hin16 : ¬ ((4 : Int32) < 0 ∨ cl15.slots.size ≤ ((4 : Int32)).toNatClampNeg) := inb_of AS15 ⟨by decide, by decide⟩
  obtain ⟨T16, h16, X16, e16, W16, st16⟩ := stI X14 hx hZ (e14 : T14.heap = h13) Ar15 (j := (4 : Int32)) hin16 (g := (mkF m 38 #[.val (.int p0), .val (.int p1), .val (.int p2), .val (.int p3), .val (.int p4), .val (.int p5), .unset, .unset, .unset] [(.int (own_f1 p4)), (.int (4 : Int32)), (.ref b1), (.ref b1)])) rfl rfl (hb hby at_38)
  have V16 : Arv Z h16 b1 k1 .int (5 : Int32) [(.int (own_f1 p0)), (.int (own_f1 p1)), (.int (own_f1 p2)), (.int (own_f1 p3)), (.int (own_f1 p4))] (.int (0 : Int32)) := Arv.set Ar15 Aq15 AS15 AN15 AH15 AG15 rfl W16 4 rfl (Nat.le_of_ble_eq_true rfl)
  have N16 := Fr.snoc X16 N14 g_b1
  have Z16 : n0 ≤ h16.size := Nat.le_trans Z13 (Keep.of_wr W16).1
  refine own_go st16 ?_
  show own_Go p.tables e below _ (T16.setTop (mkF m 39 #[.val (.int p0), .val (.int p1), .val (.int p2), .val (.int p3), .val (.int p4), .val (.int p5), .unset, .unset, .unset] [(.ref b1)]))
  refine own_go (fun _ k => XS.astore X16.here hx rfl (hb hby at_39) rfl rfl (l' := #[.val (.int p0), .val (.int p1), .val (.int p2), .val (.int p3), .val (.int p4), .val (.int p5), .val (.ref b1), .unset, .unset]) rfl k) ?_
  show own_Go p.tables e below _ (T16.setTop (mkF m 41 #[.val (.int p0), .val (.int p1), .val (.int p2), .val (.int p3), .val (.int p4), .val (.int p5), .val (.ref b1), .unset, .unset] []))
  refine own_go (fun _ k => XS.iload X16.here hx rfl (hb hby at_41) rfl k) ?_
  show own_Go p.tables e below _ (T16.setTop (mkF m 43 #[.val (.int p0), .val (.int p1), .val (.int p2), .val (.int p3), .val (.int p4), .val (.int p5), .val (.ref b1), .unset, .unset] [(.int p5)]))
  obtain ⟨_, _, ⟨T17, L17, k17, n17⟩, -, X17, ⟨Lc17, hQ17, l17, y17, z17⟩, st17⟩ := Jvm.LawKit.callS X16 hx (y := (⟨"com/example/meshwright/meshwright/plan/LinkedGroupsRootPinLaw", "idx", "(I)I"⟩ : MethodName)) hown (mvT hZ (hw _ (List.mem_of_getElem? (i := 1) rfl))) (mvT hZ (hw _ (List.mem_of_getElem? (i := 2) rfl))) (mvT hZ (hw _ (List.mem_of_getElem? (i := 3) rfl))) (mvT hZ (hw _ (List.mem_of_getElem? (i := 4) rfl))) (by decide) (backOf (W := 0) (rm1 l Z az hw [] p5 h16 n0 Z16) hZ (hw _ (List.mem_of_getElem? (i := 4) rfl)) (hw _ (List.mem_of_getElem? (i := 3) rfl)) (by decide) (by decide)) (g := (mkF m 43 #[.val (.int p0), .val (.int p1), .val (.int p2), .val (.int p3), .val (.int p4), .val (.int p5), .val (.ref b1), .unset, .unset] [(.int p5)])) rfl (by rw [hml]; rfl) (argsL := [(.int p5)]) (rest := []) (lenOf pd0_0 rfl) rfl (by show 2 * 0 + _ ≤ _; exact Nat.le_of_eq rfl) (hb hby at_43) (fun _ _ => ⟨rfl, e16, (by decide : 1 + 0 ≤ _), (by decide : 5 + 0 ≤ _)⟩)
  dsimp only [Pt.U, Pt.locs, Pt.cells, Pt.slots] at X17 l17 y17 z17 st17 hQ17
  subst l17 y17 z17
  refine own_go st17 ?_
  obtain ⟨rfl, N17q, e17⟩ := hQ17
  have N17 := Fr.app N16 N17q
  show own_Go p.tables e below _ (T17.setTop (mkF m 46 #[.val (.int p0), .val (.int p1), .val (.int p2), .val (.int p3), .val (.int p4), .val (.int p5), .val (.ref b1), .unset, .unset] [(.int (own_f1 p5))]))
  refine own_go (fun _ k => XS.istore X17.here hx rfl (hb hby at_46) rfl (l' := #[.val (.int p0), .val (.int p1), .val (.int p2), .val (.int p3), .val (.int p4), .val (.int p5), .val (.ref b1), .val (.int (own_f1 p5)), .unset]) rfl k) ?_
  show own_Go p.tables e below _ (T17.setTop (mkF m 48 #[.val (.int p0), .val (.int p1), .val (.int p2), .val (.int p3), .val (.int p4), .val (.int p5), .val (.ref b1), .val (.int (own_f1 p5)), .unset] []))
  obtain ⟨ve, hve⟩ : ∃ z : Int32, z = (own_f1 p5) := ⟨_, rfl⟩
  rw [← hve]
  show own_Go p.tables e below _ (T17.setTop (mkF m 48 #[.val (.int p0), .val (.int p1), .val (.int p2), .val (.int p3), .val (.int p4), .val (.int p5), .val (.ref b1), .val (.int ve), .unset] []))
  refine own_go (fun _ k => XS.iload X17.here hx rfl (hb hby at_48) rfl k) ?_
  show own_Go p.tables e below _ (T17.setTop (mkF m 50 #[.val (.int p0), .val (.int p1), .val (.int p2), .val (.int p3), .val (.int p4), .val (.int p5), .val (.ref b1), .val (.int ve), .unset] [(.int ve)]))
  refine own_go (fun _ k => XS.istore X17.here hx rfl (hb hby at_50) rfl (l' := #[.val (.int p0), .val (.int p1), .val (.int p2), .val (.int p3), .val (.int p4), .val (.int p5), .val (.ref b1), .val (.int ve), .val (.int ve)]) rfl k) ?_
  show own_Go p.tables e below _ (T17.setTop (mkF m 52 #[.val (.int p0), .val (.int p1), .val (.int p2), .val (.int p3), .val (.int p4), .val (.int p5), .val (.ref b1), .val (.int ve), .val (.int ve)] []))
  refine own_go (fun _ k => XS.aload X17.here hx rfl (hb hby at_52) rfl rfl k) ?_
  show own_Go p.tables e below _ (T17.setTop (mkF m 54 #[.val (.int p0), .val (.int p1), .val (.int p2), .val (.int p3), .val (.int p4), .val (.int p5), .val (.ref b1), .val (.int ve), .val (.int ve)] [(.ref b1)]))
  refine own_go (fun _ k => XS.iload X17.here hx rfl (hb hby at_54) rfl k) ?_
  show own_Go p.tables e below _ (T17.setTop (mkF m 56 #[.val (.int p0), .val (.int p1), .val (.int p2), .val (.int p3), .val (.int p4), .val (.int p5), .val (.ref b1), .val (.int ve), .val (.int ve)] [(.int ve), (.ref b1)]))
  have vo18 := V16
  obtain ⟨cl18, Ar18, Aq18, AS18, AN18, AH18, AG18⟩ := vo18
  have hin18 : ¬ (ve < 0 ∨ cl18.slots.size ≤ (ve).toNatClampNeg) := inb_of AS18 (by rw [hve]; exact own_v p5)
  have hat18 : cl18.slots[(ve).toNatClampNeg]? = some (.int ([(own_f1 p0), (own_f1 p1), (own_f1 p2), (own_f1 p3), (own_f1 p4)].getD (ve).toNatClampNeg 0)) := Has.at AH18 hin18 (own_mapI [(own_f1 p0), (own_f1 p1), (own_f1 p2), (own_f1 p3), (own_f1 p4)] _)
  refine own_go (fun _ k => X17.iaload hx (j := ve) (v := (.int ([(own_f1 p0), (own_f1 p1), (own_f1 p2), (own_f1 p3), (own_f1 p4)].getD (ve).toNatClampNeg 0))) (by rw [(e17 : T17.heap = h16)]; exact Ar18.1) (State.isArrayOf_alike hZ.alike Ar18.2.1) Ar18.2.2 hin18 hat18 (g := (mkF m 56 #[.val (.int p0), .val (.int p1), .val (.int p2), .val (.int p3), .val (.int p4), .val (.int p5), .val (.ref b1), .val (.int ve), .val (.int ve)] [(.int ve), (.ref b1)])) rfl rfl (hb hby at_56) _ k) ?_
  show own_Go p.tables e below _ (T17.setTop (mkF m 57 #[.val (.int p0), .val (.int p1), .val (.int p2), .val (.int p3), .val (.int p4), .val (.int p5), .val (.ref b1), .val (.int ve), .val (.int ve)] [(.int ([(own_f1 p0), (own_f1 p1), (own_f1 p2), (own_f1 p3), (own_f1 p4)].getD (ve).toNatClampNeg 0))]))
  refine own_go (fun _ k => XS.istore X17.here hx rfl (hb hby at_57) rfl (l' := #[.val (.int p0), .val (.int p1), .val (.int p2), .val (.int p3), .val (.int p4), .val (.int p5), .val (.ref b1), .val (.int ve), .val (.int ([(own_f1 p0), (own_f1 p1), (own_f1 p2), (own_f1 p3), (own_f1 p4)].getD (ve).toNatClampNeg 0))]) rfl k) ?_
  show own_Go p.tables e below _ (T17.setTop (mkF m 59 #[.val (.int p0), .val (.int p1), .val (.int p2), .val (.int p3), .val (.int p4), .val (.int p5), .val (.ref b1), .val (.int ve), .val (.int ([(own_f1 p0), (own_f1 p1), (own_f1 p2), (own_f1 p3), (own_f1 p4)].getD (ve).toNatClampNeg 0))] []))
  obtain ⟨x1, hx1⟩ : ∃ z : Int32, z = ([(own_f1 p0), (own_f1 p1), (own_f1 p2), (own_f1 p3), (own_f1 p4)].getD (ve).toNatClampNeg 0) := ⟨_, rfl⟩
  rw [← hx1]
  show own_Go p.tables e below _ (T17.setTop (mkF m 59 #[.val (.int p0), .val (.int p1), .val (.int p2), .val (.int p3), .val (.int p4), .val (.int p5), .val (.ref b1), .val (.int ve), .val (.int x1)] []))
  refine own_go (fun _ k => XS.aload X17.here hx rfl (hb hby at_59) rfl rfl k) ?_
  show own_Go p.tables e below _ (T17.setTop (mkF m 61 #[.val (.int p0), .val (.int p1), .val (.int p2), .val (.int p3), .val (.int p4), .val (.int p5), .val (.ref b1), .val (.int ve), .val (.int x1)] [(.ref b1)]))
  refine own_go (fun _ k => XS.iload X17.here hx rfl (hb hby at_61) rfl k) ?_
  show own_Go p.tables e below _ (T17.setTop (mkF m 63 #[.val (.int p0), .val (.int p1), .val (.int p2), .val (.int p3), .val (.int p4), .val (.int p5), .val (.ref b1), .val (.int ve), .val (.int x1)] [(.int x1), (.ref b1)]))
  have vo19 := V16
  obtain ⟨cl19, Ar19, Aq19, AS19, AN19, AH19, AG19⟩ := vo19
  have hin19 : ¬ (x1 < 0 ∨ cl19.slots.size ≤ (x1).toNatClampNeg) := inb_of AS19 (by rw [hx1]; exact own_w p0 p1 p2 p3 p4 _)
  have hat19 : cl19.slots[(x1).toNatClampNeg]? = some (.int ([(own_f1 p0), (own_f1 p1), (own_f1 p2), (own_f1 p3), (own_f1 p4)].getD (x1).toNatClampNeg 0)) := Has.at AH19 hin19 (own_mapI [(own_f1 p0), (own_f1 p1), (own_f1 p2), (own_f1 p3), (own_f1 p4)] _)
  refine own_go (fun _ k => X17.iaload hx (j := x1) (v := (.int ([(own_f1 p0), (own_f1 p1), (own_f1 p2), (own_f1 p3), (own_f1 p4)].getD (x1).toNatClampNeg 0))) (by rw [(e17 : T17.heap = h16)]; exact Ar19.1) (State.isArrayOf_alike hZ.alike Ar19.2.1) Ar19.2.2 hin19 hat19 (g := (mkF m 63 #[.val (.int p0), .val (.int p1), .val (.int p2), .val (.int p3), .val (.int p4), .val (.int p5), .val (.ref b1), .val (.int ve), .val (.int x1)] [(.int x1), (.ref b1)])) rfl rfl (hb hby at_63) _ k) ?_
  show own_Go p.tables e below _ (T17.setTop (mkF m 64 #[.val (.int p0), .val (.int p1), .val (.int p2), .val (.int p3), .val (.int p4), .val (.int p5), .val (.ref b1), .val (.int ve), .val (.int x1)] [(.int ([(own_f1 p0), (own_f1 p1), (own_f1 p2), (own_f1 p3), (own_f1 p4)].getD (x1).toNatClampNeg 0))]))
  refine own_go (fun _ k => XS.istore X17.here hx rfl (hb hby at_64) rfl (l' := #[.val (.int p0), .val (.int p1), .val (.int p2), .val (.int p3), .val (.int p4), .val (.int p5), .val (.ref b1), .val (.int ve), .val (.int ([(own_f1 p0), (own_f1 p1), (own_f1 p2), (own_f1 p3), (own_f1 p4)].getD (x1).toNatClampNeg 0))]) rfl k) ?_
  show own_Go p.tables e below _ (T17.setTop (mkF m 66 #[.val (.int p0), .val (.int p1), .val (.int p2), .val (.int p3), .val (.int p4), .val (.int p5), .val (.ref b1), .val (.int ve), .val (.int ([(own_f1 p0), (own_f1 p1), (own_f1 p2), (own_f1 p3), (own_f1 p4)].getD (x1).toNatClampNeg 0))] []))
  obtain ⟨x2, hx2⟩ : ∃ z : Int32, z = ([(own_f1 p0), (own_f1 p1), (own_f1 p2), (own_f1 p3), (own_f1 p4)].getD (x1).toNatClampNeg 0) := ⟨_, rfl⟩
  rw [← hx2]
  show own_Go p.tables e below _ (T17.setTop (mkF m 66 #[.val (.int p0), .val (.int p1), .val (.int p2), .val (.int p3), .val (.int p4), .val (.int p5), .val (.ref b1), .val (.int ve), .val (.int x2)] []))
  refine own_go (fun _ k => XS.aload X17.here hx rfl (hb hby at_66) rfl rfl k) ?_
  show own_Go p.tables e below _ (T17.setTop (mkF m 68 #[.val (.int p0), .val (.int p1), .val (.int p2), .val (.int p3), .val (.int p4), .val (.int p5), .val (.ref b1), .val (.int ve), .val (.int x2)] [(.ref b1)]))
  refine own_go (fun _ k => XS.iload X17.here hx rfl (hb hby at_68) rfl k) ?_
  show own_Go p.tables e below _ (T17.setTop (mkF m 70 #[.val (.int p0), .val (.int p1), .val (.int p2), .val (.int p3), .val (.int p4), .val (.int p5), .val (.ref b1), .val (.int ve), .val (.int x2)] [(.int x2), (.ref b1)]))
  have vo20 := V16
  obtain ⟨cl20, Ar20, Aq20, AS20, AN20, AH20, AG20⟩ := vo20
  have hin20 : ¬ (x2 < 0 ∨ cl20.slots.size ≤ (x2).toNatClampNeg) := inb_of AS20 (by rw [hx2]; exact own_w p0 p1 p2 p3 p4 _)
  have hat20 : cl20.slots[(x2).toNatClampNeg]? = some (.int ([(own_f1 p0), (own_f1 p1), (own_f1 p2), (own_f1 p3), (own_f1 p4)].getD (x2).toNatClampNeg 0)) := Has.at AH20 hin20 (own_mapI [(own_f1 p0), (own_f1 p1), (own_f1 p2), (own_f1 p3), (own_f1 p4)] _)
  refine own_go (fun _ k => X17.iaload hx (j := x2) (v := (.int ([(own_f1 p0), (own_f1 p1), (own_f1 p2), (own_f1 p3), (own_f1 p4)].getD (x2).toNatClampNeg 0))) (by rw [(e17 : T17.heap = h16)]; exact Ar20.1) (State.isArrayOf_alike hZ.alike Ar20.2.1) Ar20.2.2 hin20 hat20 (g := (mkF m 70 #[.val (.int p0), .val (.int p1), .val (.int p2), .val (.int p3), .val (.int p4), .val (.int p5), .val (.ref b1), .val (.int ve), .val (.int x2)] [(.int x2), (.ref b1)])) rfl rfl (hb hby at_70) _ k) ?_
  show own_Go p.tables e below _ (T17.setTop (mkF m 71 #[.val (.int p0), .val (.int p1), .val (.int p2), .val (.int p3), .val (.int p4), .val (.int p5), .val (.ref b1), .val (.int ve), .val (.int x2)] [(.int ([(own_f1 p0), (own_f1 p1), (own_f1 p2), (own_f1 p3), (own_f1 p4)].getD (x2).toNatClampNeg 0))]))
  refine own_go (fun _ k => XS.istore X17.here hx rfl (hb hby at_71) rfl (l' := #[.val (.int p0), .val (.int p1), .val (.int p2), .val (.int p3), .val (.int p4), .val (.int p5), .val (.ref b1), .val (.int ve), .val (.int ([(own_f1 p0), (own_f1 p1), (own_f1 p2), (own_f1 p3), (own_f1 p4)].getD (x2).toNatClampNeg 0))]) rfl k) ?_
  show own_Go p.tables e below _ (T17.setTop (mkF m 73 #[.val (.int p0), .val (.int p1), .val (.int p2), .val (.int p3), .val (.int p4), .val (.int p5), .val (.ref b1), .val (.int ve), .val (.int ([(own_f1 p0), (own_f1 p1), (own_f1 p2), (own_f1 p3), (own_f1 p4)].getD (x2).toNatClampNeg 0))] []))
  obtain ⟨x3, hx3⟩ : ∃ z : Int32, z = ([(own_f1 p0), (own_f1 p1), (own_f1 p2), (own_f1 p3), (own_f1 p4)].getD (x2).toNatClampNeg 0) := ⟨_, rfl⟩
  rw [← hx3]
  show own_Go p.tables e below _ (T17.setTop (mkF m 73 #[.val (.int p0), .val (.int p1), .val (.int p2), .val (.int p3), .val (.int p4), .val (.int p5), .val (.ref b1), .val (.int ve), .val (.int x3)] []))
  refine own_go (fun _ k => XS.aload X17.here hx rfl (hb hby at_73) rfl rfl k) ?_
  show own_Go p.tables e below _ (T17.setTop (mkF m 75 #[.val (.int p0), .val (.int p1), .val (.int p2), .val (.int p3), .val (.int p4), .val (.int p5), .val (.ref b1), .val (.int ve), .val (.int x3)] [(.ref b1)]))
  refine own_go (fun _ k => XS.iload X17.here hx rfl (hb hby at_75) rfl k) ?_
  show own_Go p.tables e below _ (T17.setTop (mkF m 77 #[.val (.int p0), .val (.int p1), .val (.int p2), .val (.int p3), .val (.int p4), .val (.int p5), .val (.ref b1), .val (.int ve), .val (.int x3)] [(.int x3), (.ref b1)]))
  have vo21 := V16
  obtain ⟨cl21, Ar21, Aq21, AS21, AN21, AH21, AG21⟩ := vo21
  have hin21 : ¬ (x3 < 0 ∨ cl21.slots.size ≤ (x3).toNatClampNeg) := inb_of AS21 (by rw [hx3]; exact own_w p0 p1 p2 p3 p4 _)
  have hat21 : cl21.slots[(x3).toNatClampNeg]? = some (.int ([(own_f1 p0), (own_f1 p1), (own_f1 p2), (own_f1 p3), (own_f1 p4)].getD (x3).toNatClampNeg 0)) := Has.at AH21 hin21 (own_mapI [(own_f1 p0), (own_f1 p1), (own_f1 p2), (own_f1 p3), (own_f1 p4)] _)
  refine own_go (fun _ k => X17.iaload hx (j := x3) (v := (.int ([(own_f1 p0), (own_f1 p1), (own_f1 p2), (own_f1 p3), (own_f1 p4)].getD (x3).toNatClampNeg 0))) (by rw [(e17 : T17.heap = h16)]; exact Ar21.1) (State.isArrayOf_alike hZ.alike Ar21.2.1) Ar21.2.2 hin21 hat21 (g := (mkF m 77 #[.val (.int p0), .val (.int p1), .val (.int p2), .val (.int p3), .val (.int p4), .val (.int p5), .val (.ref b1), .val (.int ve), .val (.int x3)] [(.int x3), (.ref b1)])) rfl rfl (hb hby at_77) _ k) ?_
  show own_Go p.tables e below _ (T17.setTop (mkF m 78 #[.val (.int p0), .val (.int p1), .val (.int p2), .val (.int p3), .val (.int p4), .val (.int p5), .val (.ref b1), .val (.int ve), .val (.int x3)] [(.int ([(own_f1 p0), (own_f1 p1), (own_f1 p2), (own_f1 p3), (own_f1 p4)].getD (x3).toNatClampNeg 0))]))
  refine own_go (fun _ k => XS.istore X17.here hx rfl (hb hby at_78) rfl (l' := #[.val (.int p0), .val (.int p1), .val (.int p2), .val (.int p3), .val (.int p4), .val (.int p5), .val (.ref b1), .val (.int ve), .val (.int ([(own_f1 p0), (own_f1 p1), (own_f1 p2), (own_f1 p3), (own_f1 p4)].getD (x3).toNatClampNeg 0))]) rfl k) ?_
  show own_Go p.tables e below _ (T17.setTop (mkF m 80 #[.val (.int p0), .val (.int p1), .val (.int p2), .val (.int p3), .val (.int p4), .val (.int p5), .val (.ref b1), .val (.int ve), .val (.int ([(own_f1 p0), (own_f1 p1), (own_f1 p2), (own_f1 p3), (own_f1 p4)].getD (x3).toNatClampNeg 0))] []))
  obtain ⟨x4, hx4⟩ : ∃ z : Int32, z = ([(own_f1 p0), (own_f1 p1), (own_f1 p2), (own_f1 p3), (own_f1 p4)].getD (x3).toNatClampNeg 0) := ⟨_, rfl⟩
  rw [← hx4]
  show own_Go p.tables e below _ (T17.setTop (mkF m 80 #[.val (.int p0), .val (.int p1), .val (.int p2), .val (.int p3), .val (.int p4), .val (.int p5), .val (.ref b1), .val (.int ve), .val (.int x4)] []))
  refine own_go (fun _ k => XS.aload X17.here hx rfl (hb hby at_80) rfl rfl k) ?_
  show own_Go p.tables e below _ (T17.setTop (mkF m 82 #[.val (.int p0), .val (.int p1), .val (.int p2), .val (.int p3), .val (.int p4), .val (.int p5), .val (.ref b1), .val (.int ve), .val (.int x4)] [(.ref b1)]))
  refine own_go (fun _ k => XS.iload X17.here hx rfl (hb hby at_82) rfl k) ?_
  show own_Go p.tables e below _ (T17.setTop (mkF m 84 #[.val (.int p0), .val (.int p1), .val (.int p2), .val (.int p3), .val (.int p4), .val (.int p5), .val (.ref b1), .val (.int ve), .val (.int x4)] [(.int x4), (.ref b1)]))
  have vo22 := V16
  obtain ⟨cl22, Ar22, Aq22, AS22, AN22, AH22, AG22⟩ := vo22
  have hin22 : ¬ (x4 < 0 ∨ cl22.slots.size ≤ (x4).toNatClampNeg) := inb_of AS22 (by rw [hx4]; exact own_w p0 p1 p2 p3 p4 _)
  have hat22 : cl22.slots[(x4).toNatClampNeg]? = some (.int ([(own_f1 p0), (own_f1 p1), (own_f1 p2), (own_f1 p3), (own_f1 p4)].getD (x4).toNatClampNeg 0)) := Has.at AH22 hin22 (own_mapI [(own_f1 p0), (own_f1 p1), (own_f1 p2), (own_f1 p3), (own_f1 p4)] _)
  refine own_go (fun _ k => X17.iaload hx (j := x4) (v := (.int ([(own_f1 p0), (own_f1 p1), (own_f1 p2), (own_f1 p3), (own_f1 p4)].getD (x4).toNatClampNeg 0))) (by rw [(e17 : T17.heap = h16)]; exact Ar22.1) (State.isArrayOf_alike hZ.alike Ar22.2.1) Ar22.2.2 hin22 hat22 (g := (mkF m 84 #[.val (.int p0), .val (.int p1), .val (.int p2), .val (.int p3), .val (.int p4), .val (.int p5), .val (.ref b1), .val (.int ve), .val (.int x4)] [(.int x4), (.ref b1)])) rfl rfl (hb hby at_84) _ k) ?_
  show own_Go p.tables e below _ (T17.setTop (mkF m 85 #[.val (.int p0), .val (.int p1), .val (.int p2), .val (.int p3), .val (.int p4), .val (.int p5), .val (.ref b1), .val (.int ve), .val (.int x4)] [(.int ([(own_f1 p0), (own_f1 p1), (own_f1 p2), (own_f1 p3), (own_f1 p4)].getD (x4).toNatClampNeg 0))]))
  refine own_go (fun _ k => XS.iload X17.here hx rfl (hb hby at_85) rfl k) ?_
  show own_Go p.tables e below _ (T17.setTop (mkF m 87 #[.val (.int p0), .val (.int p1), .val (.int p2), .val (.int p3), .val (.int p4), .val (.int p5), .val (.ref b1), .val (.int ve), .val (.int x4)] [(.int x4), (.int ([(own_f1 p0), (own_f1 p1), (own_f1 p2), (own_f1 p3), (own_f1 p4)].getD (x4).toNatClampNeg 0))]))
  by_cases hc87 : ([(own_f1 p0), (own_f1 p1), (own_f1 p2), (own_f1 p3), (own_f1 p4)].getD (x4).toNatClampNeg 0) = x4
  · refine own_go (fun _ k => XS.icmpYes X17.here hx rfl (pc0 := 87) (pc' := 92) rfl (hb hby at_87) rfl (teq hc87).1 (by decide) (by decide) k) ?_
    show own_Go p.tables e below _ (T17.setTop (mkF m 92 #[.val (.int p0), .val (.int p1), .val (.int p2), .val (.int p3), .val (.int p4), .val (.int p5), .val (.ref b1), .val (.int ve), .val (.int x4)] []))
    refine own_go (fun _ k => XS.aload X17.here hx rfl (hb hby at_92) rfl rfl k) ?_
    show own_Go p.tables e below _ (T17.setTop (mkF m 94 #[.val (.int p0), .val (.int p1), .val (.int p2), .val (.int p3), .val (.int p4), .val (.int p5), .val (.ref b1), .val (.int ve), .val (.int x4)] [(.ref b1)]))
    refine own_go (fun _ k => XS.iload X17.here hx rfl (hb hby at_94) rfl k) ?_
    show own_Go p.tables e below _ (T17.setTop (mkF m 96 #[.val (.int p0), .val (.int p1), .val (.int p2), .val (.int p3), .val (.int p4), .val (.int p5), .val (.ref b1), .val (.int ve), .val (.int x4)] [(.int ve), (.ref b1)]))
    obtain ⟨_, _, ⟨T23, L23, k23, n23⟩, -, X23, ⟨Lc23, hQ23, l23, y23, z23⟩, st23⟩ := Jvm.LawKit.callS X17 hx (y := (⟨"com/example/meshwright/meshwright/plan/LinkedGroups", "root", "([II)I"⟩ : MethodName)) hown (mvT hZ (hw _ (List.mem_of_getElem? (i := 6) rfl))) (mvT hZ (hw _ (List.mem_of_getElem? (i := 7) rfl))) (mvT hZ (hw _ (List.mem_of_getElem? (i := 8) rfl))) (mvT hZ (hw _ (List.mem_of_getElem? (i := 9) rfl))) (by decide) (backOf (W := 0) (rm2 l Z az hw [] b1 ve k1 [(own_f1 p0), (own_f1 p1), (own_f1 p2), (own_f1 p3), (own_f1 p4)] h16 n0 Z16 V16 (by rw [hve]; exact own_v p5) (fun j _ => own_w p0 p1 p2 p3 p4 _) (by rw [← hx1, ← hx2, ← hx3, ← hx4]; exact hc87)) hZ (hw _ (List.mem_of_getElem? (i := 9) rfl)) (hw _ (List.mem_of_getElem? (i := 8) rfl)) (by decide) (by decide)) (g := (mkF m 96 #[.val (.int p0), .val (.int p1), .val (.int p2), .val (.int p3), .val (.int p4), .val (.int p5), .val (.ref b1), .val (.int ve), .val (.int x4)] [(.int ve), (.ref b1)])) rfl (by rw [hml]; rfl) (argsL := [(.ref b1), (.int ve)]) (rest := []) (lenOf pd0_1 rfl) rfl (by show 2 * 0 + _ ≤ _; exact Nat.le_of_eq rfl) (hb hby at_96) (fun _ _ => ⟨rfl, (e17 : T17.heap = h16), (by decide : 1 + 0 ≤ _), (by decide : 5 + 0 ≤ _)⟩)
    dsimp only [Pt.U, Pt.locs, Pt.cells, Pt.slots] at X23 l23 y23 z23 st23 hQ23
    subst l23 y23 z23
    refine own_go st23 ?_
    obtain ⟨rfl, N23q, e23⟩ := hQ23
    have N23 := Fr.app N17 N23q
    show own_Go p.tables e below _ (T23.setTop (mkF m 99 #[.val (.int p0), .val (.int p1), .val (.int p2), .val (.int p3), .val (.int p4), .val (.int p5), .val (.ref b1), .val (.int ve), .val (.int x4)] [(.int (own_f2 ve [(own_f1 p0), (own_f1 p1), (own_f1 p2), (own_f1 p3), (own_f1 p4)]))]))
    refine own_go (fun _ k => XS.iload X23.here hx rfl (hb hby at_99) rfl k) ?_
    show own_Go p.tables e below _ (T23.setTop (mkF m 101 #[.val (.int p0), .val (.int p1), .val (.int p2), .val (.int p3), .val (.int p4), .val (.int p5), .val (.ref b1), .val (.int ve), .val (.int x4)] [(.int x4), (.int (own_f2 ve [(own_f1 p0), (own_f1 p1), (own_f1 p2), (own_f1 p3), (own_f1 p4)]))]))
    have hf101 : (own_f2 ve [(own_f1 p0), (own_f1 p1), (own_f1 p2), (own_f1 p3), (own_f1 p4)]) = x4 := by rw [own_f2, ← hx1, ← hx2, ← hx3, ← hx4]
    refine own_go (fun _ k => XS.icmpNo X23.here hx rfl (hb hby at_101) rfl (teq hf101).2 k) ?_
    show own_Go p.tables e below _ (T23.setTop (mkF m 104 #[.val (.int p0), .val (.int p1), .val (.int p2), .val (.int p3), .val (.int p4), .val (.int p5), .val (.ref b1), .val (.int ve), .val (.int x4)] []))
    refine own_go (fun _ k => XS.iconst X23.here hx rfl (hb hby at_104) k) ?_
    show own_Go p.tables e below _ (T23.setTop (mkF m 105 #[.val (.int p0), .val (.int p1), .val (.int p2), .val (.int p3), .val (.int p4), .val (.int p5), .val (.ref b1), .val (.int ve), .val (.int x4)] [(.int (1 : Int32))]))
    refine own_go (fun _ k => XS.goto X23.here hx rfl (pc0 := 105) (pc' := 109) rfl (hb hby at_105) (by decide) (by decide) k) ?_
    show own_Go p.tables e below _ (T23.setTop (mkF m 109 #[.val (.int p0), .val (.int p1), .val (.int p2), .val (.int p3), .val (.int p4), .val (.int p5), .val (.ref b1), .val (.int ve), .val (.int x4)] [(.int (1 : Int32))]))
    refine own_end X23 Bd.notSynchronized (v := some (.int (1 : Int32))) (fun h => by rw [Bd.returns] at h; cases h) (fun fs hr => retN X23 hx (t := .boolean) Bd.returns (by simp) (hb hby at_109) hr) ?_ (by decide) (by decide)
    exact ⟨rfl, N23⟩
  · refine own_go (fun _ k => XS.icmpNo X17.here hx rfl (hb hby at_87) rfl (feq hc87).1 k) ?_
    show own_Go p.tables e below _ (T17.setTop (mkF m 90 #[.val (.int p0), .val (.int p1), .val (.int p2), .val (.int p3), .val (.int p4), .val (.int p5), .val (.ref b1), .val (.int ve), .val (.int x4)] []))
    refine own_go (fun _ k => XS.iconst X17.here hx rfl (hb hby at_90) k) ?_
    show own_Go p.tables e below _ (T17.setTop (mkF m 91 #[.val (.int p0), .val (.int p1), .val (.int p2), .val (.int p3), .val (.int p4), .val (.int p5), .val (.ref b1), .val (.int ve), .val (.int x4)] [(.int (1 : Int32))]))
    refine own_end X17 Bd.notSynchronized (v := some (.int (1 : Int32))) (fun h => by rw [Bd.returns] at h; cases h) (fun fs hr => retN X17 hx (t := .boolean) Bd.returns (by simp) (hb hby at_91) hr) ?_ (by decide) (by decide)
    exact ⟨rfl, N17⟩
set_option maxRecDepth 65536 in
set_option maxHeartbeats 40000000 in
theorem comes_1 {Post : Tables → Env → Array Value → State → Outcome → State → Prop} (hpost : ∀ tb e args s v u, (limb_1_1.after args s (.returned v) u = true ∧ limb_1_2.after args s (.returned v) u = true ∧ True) → FrameEnd s (.returned v) u (Jvm.fieldLocs frame_1_writes args s ++ Jvm.arrayLocs frame_1_arrays args s ++ Jvm.staticLocs frame_1_statics s) 16 128 → Post tb e args s (.returned v) u) :
    ArmFor flags0 classFile x code maxLocals ret World_1 tables_1 room_1 Calls_1 rest_1 Pre_1 Post := by
  intro l hfl _ _ p e ha hc hk s m args below hf hA hF happ hP
  obtain ⟨hcalls, hrest, hpre⟩ := hP
  obtain ⟨-, -, -, hnamed, -, -, -, hat⟩ := (Spec.applies_iff hf).mp happ
  obtain ⟨hg, hn⟩ := and_e (Cond.before_iff.mp (show (Jvm.Cond.and given_1 narrow_1).before args s = true from hpre))
  obtain ⟨g1, g2⟩ := and_e hg
  obtain ⟨g3, g4⟩ := and_e g2
  obtain ⟨g5, g6⟩ := and_e g4
  obtain ⟨g7, g8⟩ := and_e g6
  obtain ⟨g9, g10⟩ := and_e g8
  obtain ⟨g11, g12⟩ := and_e g10
  obtain ⟨w0, w1, w2, w3, w4, w5, rfl⟩ : ∃ w0 w1 w2 w3 w4 w5 : Value, args = #[w0, w1, w2, w3, w4, w5] := by
    have hs : args.size = 6 := by simpa [Cond.value, given_1] using g1
    obtain ⟨L⟩ := args
    match L, hs with
    | [w0, w1, w2, w3, w4, w5], _ => exact ⟨w0, w1, w2, w3, w4, w5, rfl⟩
  have hw := fun d (hd : d ∈ tables_1) => atoms_spec (ws := Jvm.Cond.code x code maxLocals ret :: tables_1) hat d (List.mem_cons_of_mem _ hd)
  obtain ⟨i0, ei0⟩ := is_v g3
  obtain rfl : w0 = (.int i0) := Option.some.inj ei0
  obtain ⟨i1, ei1⟩ := is_v g5
  obtain rfl : w1 = (.int i1) := Option.some.inj ei1
  obtain ⟨i2, ei2⟩ := is_v g7
  obtain rfl : w2 = (.int i2) := Option.some.inj ei2
  obtain ⟨i3, ei3⟩ := is_v g9
  obtain rfl : w3 = (.int i3) := Option.some.inj ei3
  obtain ⟨i4, ei4⟩ := is_v g11
  obtain rfl : w4 = (.int i4) := Option.some.inj ei4
  obtain ⟨i5, ei5⟩ := is_v g12
  obtain rfl : w5 = (.int i5) := Option.some.inj ei5
  obtain ⟨n, o, h1, h2, h3, _, L, rfl, ⟨rfl, N⟩, hq⟩ := rm0 l s _ hw tables_1 i0 i1 i2 i3 i4 i5 s.heap s.heap.size (Nat.le_refl _) p e ha hc hk s m _ below hf ((Spec.applies_iff_loose hf).mp happ).1 ⟨rfl, State.Warmed39.refl s, rfl⟩ trivial
  refine ⟨n, _, h1, h2, h3, hpost _ _ _ _ _ _ ⟨Cond.after_iff.mpr rfl, Cond.after_iff.mpr (eq_i res_at (Term.int_eval (1)) rfl), trivial⟩ ⟨hq.1, hq.2.1, (hq.2.2.sift fun y hy => Or.inr (N y hy)).mono (by decide) (by decide)⟩⟩
theorem main_1_1 : Claimed_1_1 := comes_1 fun _ _ _ _ _ _ h hF => ⟨h.1, hF⟩
theorem main_1_2 : Claimed_1_2 := comes_1 fun _ _ _ _ _ _ h hF => ⟨h.2.1, hF⟩
end Jvm.Pilot.@@N@@
namespace Jvm.Pilot.@@N@@
open Jvm Jvm.ClassFile Sem Op Lib Jvm.Free Jvm.Stand Jvm.Pilot.@@N@@.Jvm.D
/-! MADE BY PROGRAM (witnessworld.py) out of the Statement's table words and the real class files: 9 classes; the members and pool entries that the words name. The judged class is class 1, her method 2. -/
namespace start1
open Jvm.ClassFile
def u (s : String) : CpInfo := .utf8 (stringToUtf16 s)
/-- a pool by its gaps: so many unusable entries, then the entry; so many at the end -/
def gap : Nat → List CpInfo → List CpInfo
  | 0, r => r
  | n + 1, r => .unusable :: gap n r
def poolList (es : List (Nat × CpInfo)) (last : Nat) : List CpInfo := es.foldr (fun e r => gap e.1 (e.2 :: r)) (gap last [])
def pool (es : List (Nat × CpInfo)) (last : Nat) : Array CpInfo := ⟨poolList es last⟩
def fileOf (pool : Array CpInfo) (this : Nat) (attrs : Array Attribute := #[]) (ms : Array MethodInfo := #[]) (fl : Nat := 33) (sup : Nat := 0) (ifs : Array Nat := #[]) (fds : Array FieldInfo := #[]) : ClassFile where
  minorVersion := 0
  majorVersion := 65
  constantPool := pool
  accessFlags := fl
  thisClass := this
  superClass := sup
  interfaces := ifs
  fields := fds
  methods := ms
  attributes := attrs
def plain (name : String) (sup : Option ClassId) : Class where
  name := name
  kind := .ordinary
  loader := none
  accessFlags := 33
  super := sup
  interfaces := #[]
  cf := none
  fields := #[]
  methods := #[]
  instanceTypes := #[]
  staticTypes := #[]
  resolved := #[]
  callSites := []
  init := .initialized
  statics := none
  mirror := none

def pool0 : Array CpInfo := pool [(5, u "<init>"), (0, u "()V"), (1, .class_ 10), (1, u "java/lang/Object")] 113

def k0m0 : Method := { name := "<init>", desc := "()V", sig := { parameters := [], returnType := none }, accessFlags := 1, code := none }
/-- java/lang/Object -/
def k0 : Class := { plain "java/lang/Object" none with
  accessFlags := 33
  interfaces := #[]
  cf := some (fileOf pool0 8 #[] #[{ accessFlags := 1, nameIndex := 5, descriptorIndex := 6, attributes := #[] }] 33 0 #[] #[])
  fields := #[]
  methods := #[k0m0]
  instanceTypes := #[]
  staticTypes := #[]
  resolved := Array.replicate 124 none
  statics := none }

def pool1 : Array CpInfo := pool [(2, .class_ 4), (1, u "java/lang/Object"), (0, u "<init>"), (0, u "()V"), (0, .integer 2147483647), (0, .methodref 9 10), (0, .class_ 11), (0, .nameAndType 12 13), (0, u "com/example/meshwright/meshwright/plan/LinkedGroupsRootPinLaw"), (0, u "idx"), (0, u "(I)I"), (0, .methodref 15 16), (0, .class_ 17), (0, .nameAndType 18 19), (0, u "com/example/meshwright/meshwright/plan/LinkedGroups"), (0, u "root"), (0, u "([II)I"), (2, u "law"), (0, u "(IIIIII)Z")] 5

def k1m0 : Method := { name := "<init>", desc := "()V", sig := { parameters := [], returnType := none }, accessFlags := 2, code := none }
def k1c1 : Code := { maxStack := 2, maxLocals := 1, code := method_2_code, exceptionTable := #[], attributes := #[] }
def k1m1 : Method := { name := "idx", desc := "(I)I", sig := { parameters := [.int], returnType := some .int }, accessFlags := 10, code := some k1c1 }
def k1c2 : Code := { maxStack := 4, maxLocals := 9, code := code, exceptionTable := #[], attributes := #[] }
def k1m2 : Method := { name := "law", desc := "(IIIIII)Z", sig := { parameters := [.int, .int, .int, .int, .int, .int], returnType := some .boolean }, accessFlags := 9, code := some k1c2 }
/-- com/example/meshwright/meshwright/plan/LinkedGroupsRootPinLaw -/
def k1 : Class := { plain "com/example/meshwright/meshwright/plan/LinkedGroupsRootPinLaw" (some 0) with
  accessFlags := 49
  interfaces := #[]
  cf := some (fileOf pool1 9 #[] #[{ accessFlags := 2, nameIndex := 5, descriptorIndex := 6, attributes := #[] }, { accessFlags := 10, nameIndex := 12, descriptorIndex := 13, attributes := #[] }, { accessFlags := 9, nameIndex := 22, descriptorIndex := 23, attributes := #[] }] 49 2 #[] #[])
  fields := #[]
  methods := #[k1m0, k1m1, k1m2]
  instanceTypes := #[]
  staticTypes := #[]
  resolved := Array.replicate 29 none
  statics := none }

def pool2 : Array CpInfo := pool [(2, .class_ 4), (1, u "java/lang/Object"), (3, .class_ 10), (1, u "com/example/meshwright/meshwright/plan/LinkedGroups"), (0, u "application"), (0, u "Lcom/example/meshwright/meshwright/core/Application;"), (2, u "routing"), (0, u "Lcom/example/meshwright/meshwright/core/Routing;"), (2, u "placement"), (0, u "Lcom/example/meshwright/meshwright/plan/CandidateNodes;"), (4, u "taskCount"), (3, u "I"), (2, u "group"), (0, u "[I"), (6, u "members"), (0, u "[[I"), (2, u "groupPart"), (15, u "root"), (0, u "([II)I"), (167, u "NO_PART")] 62

def k2c0 : Code := { maxStack := 2, maxLocals := 3, code := prog_40_method_3_code, exceptionTable := #[], attributes := #[] }
def k2m0 : Method := { name := "root", desc := "([II)I", sig := { parameters := [(.array .int), .int], returnType := some .int }, accessFlags := 8, code := some k2c0 }
/-- com/example/meshwright/meshwright/plan/LinkedGroups -/
def k2 : Class := { plain "com/example/meshwright/meshwright/plan/LinkedGroups" (some 0) with
  accessFlags := 48
  interfaces := #[]
  cf := some (fileOf pool2 8 #[] #[{ accessFlags := 8, nameIndex := 60, descriptorIndex := 61, attributes := #[] }] 48 2 #[] #[{ accessFlags := 26, nameIndex := 229, descriptorIndex := 29, attributes := #[] }, { accessFlags := 18, nameIndex := 11, descriptorIndex := 12, attributes := #[] }, { accessFlags := 18, nameIndex := 15, descriptorIndex := 16, attributes := #[] }, { accessFlags := 18, nameIndex := 19, descriptorIndex := 20, attributes := #[] }, { accessFlags := 18, nameIndex := 25, descriptorIndex := 29, attributes := #[] }, { accessFlags := 18, nameIndex := 32, descriptorIndex := 33, attributes := #[] }, { accessFlags := 18, nameIndex := 40, descriptorIndex := 41, attributes := #[] }, { accessFlags := 18, nameIndex := 44, descriptorIndex := 33, attributes := #[] }])
  fields := #[{ name := "NO_PART", type := .int, accessFlags := 26, slot := 0, constantValue := 0 }, { name := "application", type := (.object "com/example/meshwright/meshwright/core/Application"), accessFlags := 18, slot := 0, constantValue := 0 }, { name := "routing", type := (.object "com/example/meshwright/meshwright/core/Routing"), accessFlags := 18, slot := 1, constantValue := 0 }, { name := "placement", type := (.object "com/example/meshwright/meshwright/plan/CandidateNodes"), accessFlags := 18, slot := 2, constantValue := 0 }, { name := "taskCount", type := .int, accessFlags := 18, slot := 3, constantValue := 0 }, { name := "group", type := (.array .int), accessFlags := 18, slot := 4, constantValue := 0 }, { name := "members", type := (.array (.array .int)), accessFlags := 18, slot := 5, constantValue := 0 }, { name := "groupPart", type := (.array .int), accessFlags := 18, slot := 6, constantValue := 0 }]
  methods := #[k2m0]
  instanceTypes := #[(.object "com/example/meshwright/meshwright/core/Application"), (.object "com/example/meshwright/meshwright/core/Routing"), (.object "com/example/meshwright/meshwright/plan/CandidateNodes"), .int, (.array .int), (.array (.array .int)), (.array .int)]
  staticTypes := #[.int]
  resolved := Array.replicate 292 none
  statics := none }

def pool3 : Array CpInfo := pool [(1, u "java/lang/Cloneable"), (0, .class_ 1), (0, u "java/lang/Object"), (0, .class_ 3)] 3

/-- java/lang/Cloneable -/
def k3 : Class := { plain "java/lang/Cloneable" (some 0) with
  accessFlags := 1537
  interfaces := #[]
  cf := some (fileOf pool3 2 #[] #[] 1537 4 #[] #[])
  fields := #[]
  methods := #[]
  instanceTypes := #[]
  staticTypes := #[]
  resolved := Array.replicate 8 none
  statics := none }

def pool4 : Array CpInfo := pool [(1, u "java/io/Serializable"), (0, .class_ 1), (0, u "java/lang/Object"), (0, .class_ 3)] 3

/-- java/io/Serializable -/
def k4 : Class := { plain "java/io/Serializable" (some 0) with
  accessFlags := 1537
  interfaces := #[]
  cf := some (fileOf pool4 2 #[] #[] 1537 4 #[] #[])
  fields := #[]
  methods := #[]
  instanceTypes := #[]
  staticTypes := #[]
  resolved := Array.replicate 8 none
  statics := none }

/-- the primitive byte -/
def k5 : Class := { plain "byte" none with kind := .primitive 'B', accessFlags := 0x411 }
/-- [B -/
def k6 : Class := { plain "[B" (some 0) with kind := .array 5 .byte, interfaces := #[3, 4], accessFlags := 1041 }

/-- the primitive int -/
def k7 : Class := { plain "int" none with kind := .primitive 'I', accessFlags := 0x411 }
/-- [I -/
def k8 : Class := { plain "[I" (some 0) with kind := .array 7 .int, interfaces := #[3, 4], accessFlags := 1041 }

def heap : Heap := #[]
def classes : Array Class := #[k0, k1, k2, k3, k4, k5, k6, k7, k8]
def interned : List (Array UInt16 × Addr) := []
def slotsUsed : Nat := 0
def theMethod : MethodId := ⟨1, 2⟩
def args0 : Array Value := #[.int 0, .int 0, .int 1, .int 2, .int 3, .int 4]
def aboutOver (below : List Frame) : State where
  vm := { classes := classes, interned := interned.toArray }
  heap := heap
  slotsUsed := slotsUsed
  threads := #[{ frames := .invoking theMethod args0 :: below }]
def below0 : List Frame := [.native { method := ⟨0, 0⟩, args := #[] }]
def about1 : State := aboutOver below0
def p0 : Program := .bare "" "" ""
def e0 : Env := launch0.env 0 0 0
theorem w_frames : about1.frames = Frame.invoking theMethod args0 :: below0 := rfl
set_option maxRecDepth 65536 in
theorem w_args : argsFit about1.vm theMethod args0 = true := by decide +kernel
set_option maxRecDepth 65536 in
theorem w_heap : heapFits about1 = true := by decide +kernel
set_option maxRecDepth 65536 in
theorem w_runnable : about1.curStatus? = some .runnable := by decide +kernel
set_option maxRecDepth 65536 in
theorem w_alone : about1.alone = true := by decide +kernel
set_option maxRecDepth 65536 in
theorem w_named : about1.methodNamed? x = some theMethod := by decide +kernel
set_option maxRecDepth 65536 in
theorem w_hears : about1.hears theMethod below0 = true := by decide +kernel
set_option maxRecDepth 65536 in
theorem w_ripe : about1.ripe theMethod args0 below0 = true := by decide +kernel
theorem w_running : about1.status = .running := rfl
set_option maxRecDepth 65536 in
theorem w_room : about1.hasRoom e0.platform room_1 = true :=
  launch0.hasRoom_least _ room_1 (by decide +kernel) (by decide +kernel) (by decide +kernel) (by decide +kernel) (by decide +kernel) (by decide +kernel)
theorem allAtoms_all (ts : List Jvm.Cond) (a : Array Jvm.Value) (st : Jvm.State) : (allAtoms ts).before a st = ts.all (fun c => c.before a st) := by
  induction ts with
  | nil => rfl
  | cons c t ih =>
    show (Jvm.Cond.and c (allAtoms t)).before a st = _
    rw [Jvm.Cond.before_and, ih, List.all_cons]
def words1 : List Jvm.Cond := Jvm.Cond.code x code maxLocals ret :: tables_1
/-- a 'code' word, met by the world's own term for the bytes: nothing is compared byte by byte -/
theorem code_word {y : MethodName} {bytes : ByteArray} {mx : Nat} {rt : Option FieldType} {a : Array Value} {s : State} {m : MethodId} {meth : Method} {c : Code} (h1 : s.methodNamed? y = some m) (h2 : s.vm.method? m = some meth) (h3 : meth.code = some c) (h4 : c.code = bytes)
    (h5 : (c.maxLocals == mx && c.exceptionTable.isEmpty && decide (c.maxStack ≤ mostOperands) && decide (meth.sig.returnType = rt) && !meth.locks && decide (parseMethodDescriptor y.desc = some meth.sig)) = true) : (Jvm.Cond.code y bytes mx rt).before a s = true := by
  simp only [Bool.and_eq_true, beq_iff_eq, Bool.not_eq_true', decide_eq_true_eq] at h5
  obtain ⟨⟨⟨⟨⟨g1, g2⟩, g3⟩, g4⟩, g5⟩, g6⟩ := h5
  simp [Cond.before, Cond.holds, Cond.value, h1, h2, h3, h4, g1, g2, g3, g4, g5, g6]
def isCode : Jvm.Cond → Bool
  | .code _ _ _ _ => true
  | _ => false
theorem all_split {L : List Jvm.Cond} {P : Jvm.Cond → Bool} (h1 : L.all (fun c => isCode c || P c) = true) (h2 : ∀ c ∈ L.filter isCode, P c = true) : L.all P = true := by
  refine List.all_eq_true.mpr fun c hc => ?_
  have h := List.all_eq_true.mp h1 c hc
  rcases Bool.eq_false_or_eq_true (isCode c) with hi | hi
  · exact h2 c (List.mem_filter.mpr ⟨hc, hi⟩)
  · simpa [hi] using h
set_option maxRecDepth 65536 in
theorem w_c0 : (Jvm.Cond.code x code maxLocals ret).before args0 about1 = true := code_word (m := ⟨1, 2⟩) (meth := k1m2) (c := k1c2) (by decide +kernel) rfl rfl rfl (by decide +kernel)
set_option maxRecDepth 65536 in
theorem w_c1 : (Jvm.Cond.code ({ cls := "com/example/meshwright/meshwright/plan/LinkedGroupsRootPinLaw", name := "idx", desc := "(I)I" } : Jvm.MethodName) method_2_code (1 : Nat) (Option.some Jvm.ClassFile.FieldType.int)).before args0 about1 = true := code_word (m := ⟨1, 1⟩) (meth := k1m1) (c := k1c1) (by decide +kernel) rfl rfl rfl (by decide +kernel)
set_option maxRecDepth 65536 in
theorem w_c2 : (Jvm.Cond.code ({ cls := "com/example/meshwright/meshwright/plan/LinkedGroups", name := "root", desc := "([II)I" } : Jvm.MethodName) prog_40_method_3_code (3 : Nat) (Option.some Jvm.ClassFile.FieldType.int)).before args0 about1 = true := code_word (m := ⟨2, 0⟩) (meth := k2m0) (c := k2c0) (by decide +kernel) rfl rfl rfl (by decide +kernel)
def codes1 : List Jvm.Cond := [Jvm.Cond.code x code maxLocals ret, Jvm.Cond.code ({ cls := "com/example/meshwright/meshwright/plan/LinkedGroupsRootPinLaw", name := "idx", desc := "(I)I" } : Jvm.MethodName) method_2_code (1 : Nat) (Option.some Jvm.ClassFile.FieldType.int), Jvm.Cond.code ({ cls := "com/example/meshwright/meshwright/plan/LinkedGroups", name := "root", desc := "([II)I" } : Jvm.MethodName) prog_40_method_3_code (3 : Nat) (Option.some Jvm.ClassFile.FieldType.int)]
set_option maxRecDepth 65536 in
theorem codes_eq : words1.filter isCode = codes1 := rfl
theorem w_codes : ∀ c ∈ words1.filter isCode, c.before args0 about1 = true := by
  rw [codes_eq]
  intro c hc
  simp only [codes1, List.mem_cons, List.not_mem_nil, or_false] at hc
  rcases hc with rfl | rfl | rfl
  · exact w_c0
  · exact w_c1
  · exact w_c2
set_option maxRecDepth 65536 in
theorem w_t1 : words1.all (fun c => isCode c || c.before args0 about1) = true := by decide +kernel
theorem w_tables : (allAtoms (Jvm.Cond.code x code maxLocals ret :: tables_1)).before args0 about1 = true := by
  rw [allAtoms_all]
  show words1.all (fun c => c.before args0 about1) = true
  refine all_split ?_ w_codes
  rw [w_t1]
set_option maxRecDepth 65536 in
theorem w_case : (Jvm.Cond.and given_1 narrow_1).before args0 about1 = true := by decide +kernel
theorem w_applies : (headSpec (Jvm.Cond.code x code maxLocals ret :: tables_1) room_1).applies x e0.platform about1 = true :=
  (Spec.applies_iff w_frames).mpr ⟨w_running, w_runnable, w_alone, w_named, w_hears, w_ripe, w_room, w_tables⟩
theorem atStart : AtStart classFile x code maxLocals ret World_1 tables_1 room_1 Calls_1 rest_1 Pre_1 launch0 p0 e0 about1 theMethod args0 below0 :=
  ⟨lists_1, trivial, launch0.admits_env _ _ _, launch0.least_env, fairChoices_fair.cas, fairChoices_fair.clock, w_frames, w_args, w_heap, w_applies, trivial, trivial, w_case⟩
end start1
theorem witness_1 : WitnessClaimed_1 := ⟨start1.p0, start1.e0, start1.about1, start1.theMethod, start1.args0, start1.below0, start1.atStart⟩
end Jvm.Pilot.@@N@@
