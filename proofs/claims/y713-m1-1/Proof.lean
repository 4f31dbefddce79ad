import JvmDerived
import JvmDerived.Pilot.@@N@@Statement
import JvmDerived.Pilot.@@N@@Code
set_option linter.unusedVariables false
set_option linter.unusedSimpArgs false

namespace Jvm.Pilot.@@N@@
open Jvm Jvm.ClassFile Sem Op Lib Jvm.Free Jvm.Stand Jvm.LawKit Jvm.RoadKit Bundle Jvm.Pilot.@@N@@.Jvm.D
/-- the run from U comes to an end of which P holds -/
def own_Go (tb : Tables) (e : Env) (below : List Frame) (P : Outcome → State → Prop) (U : State) : Prop :=
  ∃ s₂ o, Steps tb e below U s₂ ∧ s₂.status = .running ∧ Ended s₂ below o ∧ P o s₂
theorem own_go {tb : Tables} {e : Env} {below : List Frame} {P : Outcome → State → Prop} {U U' : State} (k : ∀ t, Steps tb e below U' t → Steps tb e below U t) (h : own_Go tb e below P U') : own_Go tb e below P U := by
  obtain ⟨t, o, h1, h2⟩ := h
  exact ⟨t, o, k t h1, h2⟩
section Own
variable {p : Program} {l : Launch} {e : Env} {R : Room} {s : State} {m : MethodId} {args : Array Value} {below : List Frame} {meth : Method} {c : Code} {T : State} {locs : List Loc} {cells slots : Nat}
theorem own_retI (X : Stand p l e R s m args below meth c T locs cells slots) (hx : p.tables.exec = Jvm.exec) {pc : Nat} {Ls : Array Slot} {z : Int32} {rest : List Value} (hret : meth.sig.returnType = some .int) (hd : decode c.code pc = .ok (.ireturn, 1)) {fs : List Frame}
    (hl : ∀ (f : JFrame) (acts : List Action), f.method = m → f.locked = none → f.entered = [] → (doReturn e (T.setTop f) acts (some (.int z))).1 = T.setFrames fs) : Steps p.tables e below (T.setTop (mkF m pc Ls (.int z :: rest))) (T.setFrames fs) := by
  have hm' : T.vm.method? m = some meth := X.method'
  have hn : narrow .int (.int z) = .int z := rfl
  show Steps p.tables e below (T.setTop { method := m, pc := pc, locals := Ls, stack := _ :: rest, locked := none }) _
  jvm_step X.here [X.here.top, hx, hd, hm', hret, hn]
  first | (intro acts; rw [hl _ acts rfl rfl rfl]) | rw [hl _ _ rfl rfl rfl]
  exact Steps.refl _
theorem own_retJ (X : Stand p l e R s m args below meth c T locs cells slots) (hx : p.tables.exec = Jvm.exec) {pc : Nat} {Ls : Array Slot} {z : Int64} {rest : List Value} (hret : meth.sig.returnType = some .long) (hd : decode c.code pc = .ok (.lreturn, 1)) {fs : List Frame}
    (hl : ∀ (f : JFrame) (acts : List Action), f.method = m → f.locked = none → f.entered = [] → (doReturn e (T.setTop f) acts (some (.long z))).1 = T.setFrames fs) : Steps p.tables e below (T.setTop (mkF m pc Ls (.long z :: rest))) (T.setFrames fs) := by
  have hm' : T.vm.method? m = some meth := X.method'
  show Steps p.tables e below (T.setTop { method := m, pc := pc, locals := Ls, stack := _ :: rest, locked := none }) _
  jvm_step X.here [X.here.top, hx, hd, hm', hret, narrow]
  first | (intro acts; rw [hl _ acts rfl rfl rfl]) | rw [hl _ _ rfl rfl rfl]
  exact Steps.refl _
theorem own_mapI (xs : List Int32) (i : Nat) : (xs.map Value.int).getD i (.int 0) = .int (xs.getD i 0) := by
  simp only [List.getD_eq_getElem?_getD, List.getElem?_map]; cases xs[i]? <;> rfl
theorem own_mapJ (xs : List Int64) (i : Nat) : (xs.map Value.long).getD i (.long 0) = .long (xs.getD i 0) := by
  simp only [List.getD_eq_getElem?_getD, List.getElem?_map]; cases xs[i]? <;> rfl
theorem own_kx {h h' : Heap} (K : Keep h h' []) : Ext h h' := ⟨K.1, fun a c q => K.2.1 a c q (by simp)⟩
theorem own_retA (X : Stand p l e R s m args below meth c T locs cells slots) (hx : p.tables.exec = Jvm.exec) {pc : Nat} {Ls : Array Slot} {z : Addr} {rest : List Value} {C : String} (hret : meth.sig.returnType = some (.object C)) (hd : decode c.code pc = .ok (.areturn, 1)) {fs : List Frame}
    (hl : ∀ (f : JFrame) (acts : List Action), f.method = m → f.locked = none → f.entered = [] → (doReturn e (T.setTop f) acts (some (.ref z))).1 = T.setFrames fs) : Steps p.tables e below (T.setTop (mkF m pc Ls (.ref z :: rest))) (T.setFrames fs) := by
  have hm' : T.vm.method? m = some meth := X.method'
  show Steps p.tables e below (T.setTop { method := m, pc := pc, locals := Ls, stack := _ :: rest, locked := none }) _
  jvm_step X.here [X.here.top, hx, hd, hm', hret, Value.isRef, FieldType.isReference]
  first | (intro acts; rw [hl _ acts rfl rfl rfl]) | rw [hl _ _ rfl rfl rfl]
  exact Steps.refl _
theorem own_endH {Q : Option Value → Heap → List Loc → Prop} {kc ks n : Nat} {vm₁ : Vm} {Z : State} {EL : List (String × Nat)} (X : Stand p l e R (s.setVm vm₁) m args below meth c T locs cells slots) (hC : CHr Z EL s.vm s.heap T.vm T.heap) (hS : s.Since vm₁ n) (hn : n ≤ T.heap.size) (hlocks : meth.locks = false) {g : JFrame} {v : Option Value}
    (hv : meth.sig.returnType = none → v = none)
    (hs : ∀ fs, (∀ (f : JFrame) (acts : List Action), f.method = m → f.locked = none → f.entered = [] → (doReturn e (T.setTop f) acts v).1 = T.setFrames fs) → Steps p.tables e below (T.setTop g) (T.setFrames fs))
    (hQ : Q v T.heap locs) (h1 : cells ≤ kc) (h2 : slots ≤ ks) :
    own_Go p.tables e below (fun o U' => ∃ v L, o = .returned v ∧ Q v U'.heap L ∧ CHr Z EL s.vm s.heap U'.vm U'.heap ∧ ReturnedEndW s o U' L kc ks) (T.setTop g) := by
  obtain ⟨fs, hr, hrun, hended, h3, h4, h5, h6⟩ := X.leaveW hS hn (v := v) hv hlocks
  exact ⟨_, _, hs fs hr, hrun, hended, _, _, rfl, hQ, hC, h3, h4, h5, h6.mono h1 h2⟩
theorem own_endW {Q : Option Value → Heap → List Loc → Prop} {kc ks n : Nat} {vm₁ : Vm} (X : Stand p l e R (s.setVm vm₁) m args below meth c T locs cells slots) (hS : s.Since vm₁ n) (hn : n ≤ T.heap.size) (hlocks : meth.locks = false) {g : JFrame} {v : Option Value}
    (hv : meth.sig.returnType = none → v = none)
    (hs : ∀ fs, (∀ (f : JFrame) (acts : List Action), f.method = m → f.locked = none → f.entered = [] → (doReturn e (T.setTop f) acts v).1 = T.setFrames fs) → Steps p.tables e below (T.setTop g) (T.setFrames fs))
    (hQ : Q v T.heap locs) (h1 : cells ≤ kc) (h2 : slots ≤ ks) :
    own_Go p.tables e below (fun o U' => ∃ v L, o = .returned v ∧ Q v U'.heap L ∧ ReturnedEndW s o U' L kc ks) (T.setTop g) := by
  obtain ⟨fs, hr, hrun, hended, h3, h4, h5, h6⟩ := X.leaveW hS hn (v := v) hv hlocks
  exact ⟨_, _, hs fs hr, hrun, hended, _, _, rfl, hQ, h3, h4, h5, h6.mono h1 h2⟩
theorem own_end {Q : Option Value → Heap → List Loc → Prop} {kc ks : Nat} (X : Stand p l e R s m args below meth c T locs cells slots) (hlocks : meth.locks = false) {g : JFrame} {v : Option Value}
    (hv : meth.sig.returnType = none → v = none)
    (hs : ∀ fs, (∀ (f : JFrame) (acts : List Action), f.method = m → f.locked = none → f.entered = [] → (doReturn e (T.setTop f) acts v).1 = T.setFrames fs) → Steps p.tables e below (T.setTop g) (T.setFrames fs))
    (hQ : Q v T.heap locs) (h1 : cells ≤ kc) (h2 : slots ≤ ks) :
    own_Go p.tables e below (fun o U' => ∃ v L, o = .returned v ∧ Q v U'.heap L ∧ FrameEnd s o U' L kc ks) (T.setTop g) := by
  obtain ⟨fs, hr, hrun, hended, hW, hsame⟩ := X.leave (v := v) hv hlocks
  exact ⟨_, _, hs fs hr, hrun, hended, _, _, rfl, hQ, ⟨_, rfl⟩, hW, hsame.mono h1 h2⟩
end Own
theorem d1_0 : decode prog_39_method_1_code 0 = .ok (.aload_n 0, 1) := by decide +kernel
theorem d1_1 : decode prog_39_method_1_code 1 = .ok (.invokespecial 1, 3) := by decide +kernel
theorem d1_4 : decode prog_39_method_1_code 4 = .ok (.aload_n 0, 1) := by decide +kernel
theorem d1_5 : decode prog_39_method_1_code 5 = .ok (.aload_n 1, 1) := by decide +kernel
theorem d1_6 : decode prog_39_method_1_code 6 = .ok (.putfield 7, 3) := by decide +kernel
theorem d1_9 : decode prog_39_method_1_code 9 = .ok (.aload_n 0, 1) := by decide +kernel
theorem d1_10 : decode prog_39_method_1_code 10 = .ok (.iload_n 2, 1) := by decide +kernel
theorem d1_11 : decode prog_39_method_1_code 11 = .ok (.putfield 13, 3) := by decide +kernel
theorem d1_14 : decode prog_39_method_1_code 14 = .ok (.aload_n 0, 1) := by decide +kernel
theorem d1_15 : decode prog_39_method_1_code 15 = .ok (.iload_n 3, 1) := by decide +kernel
theorem d1_16 : decode prog_39_method_1_code 16 = .ok (.putfield 17, 3) := by decide +kernel
theorem d1_19 : decode prog_39_method_1_code 19 = .ok (.return_, 1) := by decide +kernel
theorem pn1 : plainName "com/example/labframe/labframe/wire/Frame" = true := by first | (simp [plainName, overriddenIn]; done) | decide +kernel
theorem ef1 (m : MethodId) (a0 : Addr) (a1 : Addr) (p2 : Int32) (p3 : Int32) : entryFrame m #[(.ref a0), (.ref a1), (.int p2), (.int p3)] 4 = mkF m 0 #[.val (.ref a0), .val (.ref a1), .val (.int p2), .val (.int p3)] [] := by first | (simp [entryFrame, mkF, argsToLocals, Value.category]; done) | rfl
def own_Q1 (Z : State) (a0 : Addr) (a1 : Addr) (p2 : Int32) (p3 : Int32) (h0 : Heap) (n0 : Nat) (v : Option Value) (h : Heap) (L : List Loc) : Prop := v = none ∧ Fr n0 L ∧ Keep h0 h [a0] ∧ Exa Z h a0 "com/example/labframe/labframe/wire/Frame" ∧ Fld Z h a0 "com/example/labframe/labframe/wire/Frame" "bytes" "[B" (.ref a1) ∧ Fld Z h a0 "com/example/labframe/labframe/wire/Frame" "end" "I" (.int p2) ∧ Fld Z h a0 "com/example/labframe/labframe/wire/Frame" "endsRecord" "Z" (.int (nar .boolean p3))
set_option maxRecDepth 65536 in
set_option maxHeartbeats 40000000 in
theorem rm1 (l : Launch) (Z : State) (az : Array Value) (hw : ∀ d ∈ tables_1, d.before az Z = true) (ws : List Jvm.Cond) (a0 : Addr) (a1 : Addr) (p2 : Int32) (p3 : Int32) (h0 : Heap) (n0 : Nat) (Z0 : n0 ≤ h0.size) (F_a0_bytes : Fld Z h0 a0 "com/example/labframe/labframe/wire/Frame" "bytes" "[B" .null) (F_a0_end : Fld Z h0 a0 "com/example/labframe/labframe/wire/Frame" "end" "I" (.int (0 : Int32))) (F_a0_endsRecord : Fld Z h0 a0 "com/example/labframe/labframe/wire/Frame" "endsRecord" "Z" (.int (0 : Int32))) (E_a0 : Exa Z h0 a0 "com/example/labframe/labframe/wire/Frame") (g_a0 : n0 ≤ a0) :
    MetFree l (⟨"com/example/labframe/labframe/wire/Frame", "<init>", "([BIZ)V"⟩ : MethodName) (head1 (Jvm.Cond.code (⟨"com/example/labframe/labframe/wire/Frame", "<init>", "([BIZ)V"⟩ : MethodName) prog_39_method_1_code 4 none :: ws) ({ frames := 1, cells := 0, slots := 0, locals := 12 } : Room)) (fun a U => a = #[(.ref a0), (.ref a1), (.int p2), (.int p3)] ∧ Z.Warmed39 U.vm ∧ U.heap = h0) (fun _ _ _ _ _ => True) (fun _ U o U' => ∃ v L, o = .returned v ∧ own_Q1 Z a0 a1 p2 p3 h0 n0 v U'.heap L ∧ FrameEnd U o U' L ({ frames := 1, cells := 0, slots := 0, locals := 12 } : Room).cells ({ frames := 1, cells := 0, slots := 0, locals := 12 } : Room).slots) := by
  refine MetFree.of_bodySF (plainFor_of_name pn1) hisR ?_
  intro p e s m args below meth c s₁ Bd hml0 hP hK
  obtain ⟨rfl, hZ, hh⟩ := hP
  have hx := Bd.exec
  have hby := Bd.bytes
  have hml : c.maxLocals = 4 := hml0
  have hown : s.vm.findClass "com/example/labframe/labframe/wire/Frame" = some m.cls := findClass_of_methodNamed Bd.named
  have hnm := (name_of_methodNamed Bd.named Bd.method).1
  have X0 : Stand p l e ({ frames := 1, cells := 0, slots := 0, locals := 12 } : Room) s m #[(.ref a0), (.ref a1), (.int p2), (.int p3)] below meth c s₁ [] 0 0 := Stand.of_body Bd
  have e0 : s₁.heap = h0 := by rw [← hh, Bd.state]; rfl
  have N0 := Fr.nil n0
  show own_Go p.tables e below (fun o U' => ∃ v L, o = .returned v ∧ own_Q1 Z a0 a1 p2 p3 h0 n0 v U'.heap L ∧ FrameEnd s o U' L ({ frames := 1, cells := 0, slots := 0, locals := 12 } : Room).cells ({ frames := 1, cells := 0, slots := 0, locals := 12 } : Room).slots) (s₁.setTop (entryFrame m #[(.ref a0), (.ref a1), (.int p2), (.int p3)] 4))
  refine own_go (fun _ k => castTop (ef1 m a0 a1 p2 p3) k) ?_
  show own_Go p.tables e below _ (s₁.setTop (mkF m 0 #[.val (.ref a0), .val (.ref a1), .val (.int p2), .val (.int p3)] []))
  refine own_go (fun _ k => XS.aloadN X0.here hx rfl (hb hby d1_0) rfl rfl k) ?_
  show own_Go p.tables e below _ (s₁.setTop (mkF m 1 #[.val (.ref a0), .val (.ref a1), .val (.int p2), .val (.int p3)] [(.ref a0)]))
  obtain ⟨T1, X1, e1, st1⟩ := initO X0 hx hZ hown (hw _ (List.mem_of_getElem? (i := 7) rfl)) (hw _ (List.mem_of_getElem? (i := 8) rfl)) (hw _ (List.mem_of_getElem? (i := 9) rfl)) e0 (g := (mkF m 1 #[.val (.ref a0), .val (.ref a1), .val (.int p2), .val (.int p3)] [(.ref a0)])) rfl (by rw [hml]; rfl) rfl (hb hby d1_1) (by decide) (W := 0) (by show 2 * 0 + _ ≤ _; exact Nat.le_of_eq rfl) (by decide)
  refine own_go st1 ?_
  show own_Go p.tables e below _ (T1.setTop (mkF m 4 #[.val (.ref a0), .val (.ref a1), .val (.int p2), .val (.int p3)] []))
  refine own_go (fun _ k => XS.aloadN X1.here hx rfl (hb hby d1_4) rfl rfl k) ?_
  show own_Go p.tables e below _ (T1.setTop (mkF m 5 #[.val (.ref a0), .val (.ref a1), .val (.int p2), .val (.int p3)] [(.ref a0)]))
  refine own_go (fun _ k => XS.aloadN X1.here hx rfl (hb hby d1_5) rfl rfl k) ?_
  show own_Go p.tables e below _ (T1.setTop (mkF m 6 #[.val (.ref a0), .val (.ref a1), .val (.int p2), .val (.int p3)] [(.ref a1), (.ref a0)]))
  obtain ⟨T2, h2, X2, e2, W2, st2⟩ := putF X1 hx hZ hown (host := "") (Or.inl (hw _ (List.mem_of_getElem? (i := 10) rfl))) Via.refl e1 F_a0_bytes E_a0 (Or.inr ⟨(hw _ (List.mem_of_getElem? (i := 11) rfl)), rfl, hnm⟩) (hw _ (List.mem_of_getElem? (i := 2) rfl)) (ty := (.array .byte)) (by decide) rfl rfl (g := (mkF m 6 #[.val (.ref a0), .val (.ref a1), .val (.int p2), .val (.int p3)] [(.ref a1), (.ref a0)])) rfl rfl (hb hby d1_6)
  have N2 := Fr.snoc X2 N0 g_a0
  have c2_0 := F_a0_bytes.same W2
  have c2_1 := F_a0_end.other W2 (Or.inr (slot_ne (Or.inr (hw _ (List.mem_of_getElem? (i := 13) rfl))) (Or.inr (hw _ (List.mem_of_getElem? (i := 11) rfl))) (by decide) (t := .int) (t' := (.array .byte)) (by decide) (by decide)))
  have c2_2 := F_a0_endsRecord.other W2 (Or.inr (slot_ne (Or.inr (hw _ (List.mem_of_getElem? (i := 15) rfl))) (Or.inr (hw _ (List.mem_of_getElem? (i := 11) rfl))) (by decide) (t := .boolean) (t' := (.array .byte)) (by decide) (by decide)))
  have c2_3 := E_a0.wr W2
  have Z2 : n0 ≤ h2.size := Nat.le_trans Z0 (Keep.of_wr W2).1
  have K2 : Keep h0 h2 [a0] := (Keep.refl _ _).wr W2 (Or.inl (List.mem_of_getElem? (i := 0) rfl))
  refine own_go st2 ?_
  show own_Go p.tables e below _ (T2.setTop (mkF m 9 #[.val (.ref a0), .val (.ref a1), .val (.int p2), .val (.int p3)] []))
  refine own_go (fun _ k => XS.aloadN X2.here hx rfl (hb hby d1_9) rfl rfl k) ?_
  show own_Go p.tables e below _ (T2.setTop (mkF m 10 #[.val (.ref a0), .val (.ref a1), .val (.int p2), .val (.int p3)] [(.ref a0)]))
  refine own_go (fun _ k => XS.iloadN X2.here hx rfl (hb hby d1_10) rfl k) ?_
  show own_Go p.tables e below _ (T2.setTop (mkF m 11 #[.val (.ref a0), .val (.ref a1), .val (.int p2), .val (.int p3)] [(.int p2), (.ref a0)]))
  obtain ⟨T3, h3, X3, e3, W3, st3⟩ := putF X2 hx hZ hown (host := "") (Or.inl (hw _ (List.mem_of_getElem? (i := 12) rfl))) Via.refl e2 c2_1 c2_3 (Or.inr ⟨(hw _ (List.mem_of_getElem? (i := 13) rfl)), rfl, hnm⟩) (hw _ (List.mem_of_getElem? (i := 2) rfl)) (ty := .int) (by decide) rfl rfl (g := (mkF m 11 #[.val (.ref a0), .val (.ref a1), .val (.int p2), .val (.int p3)] [(.int p2), (.ref a0)])) rfl rfl (hb hby d1_11)
  have N3 := Fr.snoc X3 N2 g_a0
  have c3_0 := c2_0.other W3 (Or.inr (slot_ne (Or.inr (hw _ (List.mem_of_getElem? (i := 11) rfl))) (Or.inr (hw _ (List.mem_of_getElem? (i := 13) rfl))) (by decide) (t := (.array .byte)) (t' := .int) (by decide) (by decide)))
  have c3_1 := c2_1.same W3
  have c3_2 := c2_2.other W3 (Or.inr (slot_ne (Or.inr (hw _ (List.mem_of_getElem? (i := 15) rfl))) (Or.inr (hw _ (List.mem_of_getElem? (i := 13) rfl))) (by decide) (t := .boolean) (t' := .int) (by decide) (by decide)))
  have c3_3 := c2_3.wr W3
  have Z3 : n0 ≤ h3.size := Nat.le_trans Z2 (Keep.of_wr W3).1
  have K3 : Keep h0 h3 [a0] := K2.wr W3 (Or.inl (List.mem_of_getElem? (i := 0) rfl))
  refine own_go st3 ?_
  show own_Go p.tables e below _ (T3.setTop (mkF m 14 #[.val (.ref a0), .val (.ref a1), .val (.int p2), .val (.int p3)] []))
  refine own_go (fun _ k => XS.aloadN X3.here hx rfl (hb hby d1_14) rfl rfl k) ?_
  show own_Go p.tables e below _ (T3.setTop (mkF m 15 #[.val (.ref a0), .val (.ref a1), .val (.int p2), .val (.int p3)] [(.ref a0)]))
  refine own_go (fun _ k => XS.iloadN X3.here hx rfl (hb hby d1_15) rfl k) ?_
  show own_Go p.tables e below _ (T3.setTop (mkF m 16 #[.val (.ref a0), .val (.ref a1), .val (.int p2), .val (.int p3)] [(.int p3), (.ref a0)]))
  obtain ⟨T4, h4, X4, e4, W4, st4⟩ := putFN X3 hx hZ hown (hw _ (List.mem_of_getElem? (i := 14) rfl)) Via.refl e3 c3_2 c3_3 (Or.inr ⟨(hw _ (List.mem_of_getElem? (i := 15) rfl)), rfl, hnm⟩) (hw _ (List.mem_of_getElem? (i := 2) rfl)) (ty := .boolean) (v' := (.int (nar .boolean p3))) (by decide) rfl (fits_nar_bool _) (g := (mkF m 16 #[.val (.ref a0), .val (.ref a1), .val (.int p2), .val (.int p3)] [(.int p3), (.ref a0)])) rfl rfl (hb hby d1_16)
  have N4 := Fr.snoc X4 N3 g_a0
  have c4_0 := c3_0.other W4 (Or.inr (slot_ne (Or.inr (hw _ (List.mem_of_getElem? (i := 11) rfl))) (Or.inr (hw _ (List.mem_of_getElem? (i := 15) rfl))) (by decide) (t := (.array .byte)) (t' := .boolean) (by decide) (by decide)))
  have c4_1 := c3_1.other W4 (Or.inr (slot_ne (Or.inr (hw _ (List.mem_of_getElem? (i := 13) rfl))) (Or.inr (hw _ (List.mem_of_getElem? (i := 15) rfl))) (by decide) (t := .int) (t' := .boolean) (by decide) (by decide)))
  have c4_2 := c3_2.same W4
  have c4_3 := c3_3.wr W4
  have Z4 : n0 ≤ h4.size := Nat.le_trans Z3 (Keep.of_wr W4).1
  have K4 : Keep h0 h4 [a0] := K3.wr W4 (Or.inl (List.mem_of_getElem? (i := 0) rfl))
  refine own_go st4 ?_
  show own_Go p.tables e below _ (T4.setTop (mkF m 19 #[.val (.ref a0), .val (.ref a1), .val (.int p2), .val (.int p3)] []))
  refine own_end X4 Bd.notSynchronized (v := none) (fun _ => rfl) (fun fs hr => X4.returnOut hx Bd.returns (hb hby d1_19) hr) ?_ (by decide) (by decide)
  show own_Q1 Z a0 a1 p2 p3 h0 n0 _ T4.heap _
  rw [e4]
  exact ⟨rfl, N4, K4, c4_3, c4_0, c4_1, c4_2⟩
def own_f2 (p0 : Int32) (p1 : Int32) : Int32 :=
  (if p0 < (2 : Int32) then (-1 : Int32) else (if (p1 &&& (255 : Int32)) < (48 : Int32) then (-1 : Int32) else (if (p1 &&& (255 : Int32)) < (56 : Int32) then ((p1 &&& (255 : Int32)) - (48 : Int32)) else (-1 : Int32))))
theorem d2_0 : decode method_2_code 0 = .ok (.iload_n 0, 1) := by decide +kernel
theorem d2_1 : decode method_2_code 1 = .ok (.iconst 2, 1) := by decide +kernel
theorem d2_2 : decode method_2_code 2 = .ok (.if_icmp .ge 5, 3) := by decide +kernel
theorem d2_5 : decode method_2_code 5 = .ok (.iconst (-1), 1) := by decide +kernel
theorem d2_6 : decode method_2_code 6 = .ok (.ireturn, 1) := by decide +kernel
theorem d2_7 : decode method_2_code 7 = .ok (.iload_n 1, 1) := by decide +kernel
theorem d2_8 : decode method_2_code 8 = .ok (.sipush 255, 3) := by decide +kernel
theorem d2_11 : decode method_2_code 11 = .ok (.iand, 1) := by decide +kernel
theorem d2_12 : decode method_2_code 12 = .ok (.istore_n 2, 1) := by decide +kernel
theorem d2_13 : decode method_2_code 13 = .ok (.iload_n 2, 1) := by decide +kernel
theorem d2_14 : decode method_2_code 14 = .ok (.bipush 48, 2) := by decide +kernel
theorem d2_16 : decode method_2_code 16 = .ok (.if_icmp .lt 14, 3) := by decide +kernel
theorem d2_19 : decode method_2_code 19 = .ok (.iload_n 2, 1) := by decide +kernel
theorem d2_20 : decode method_2_code 20 = .ok (.bipush 56, 2) := by decide +kernel
theorem d2_22 : decode method_2_code 22 = .ok (.if_icmp .ge 8, 3) := by decide +kernel
theorem d2_25 : decode method_2_code 25 = .ok (.iload_n 2, 1) := by decide +kernel
theorem d2_26 : decode method_2_code 26 = .ok (.bipush 48, 2) := by decide +kernel
theorem d2_28 : decode method_2_code 28 = .ok (.isub, 1) := by decide +kernel
theorem d2_29 : decode method_2_code 29 = .ok (.ireturn, 1) := by decide +kernel
theorem d2_30 : decode method_2_code 30 = .ok (.iconst (-1), 1) := by decide +kernel
theorem d2_31 : decode method_2_code 31 = .ok (.ireturn, 1) := by decide +kernel
theorem pn2 : plainName "com/example/labframe/labframe/wire/FrameNumberPinLaw" = true := by first | (simp [plainName, overriddenIn]; done) | decide +kernel
theorem ef2 (m : MethodId) (p0 : Int32) (p1 : Int32) : entryFrame m #[(.int p0), (.int p1)] 3 = mkF m 0 #[.val (.int p0), .val (.int p1), .unset] [] := by first | (simp [entryFrame, mkF, argsToLocals, Value.category]; done) | rfl
def own_Q2 (Z : State) (p0 : Int32) (p1 : Int32) (h0 : Heap) (n0 : Nat) (v : Option Value) (h : Heap) (L : List Loc) : Prop := v = some (.int (own_f2 p0 p1)) ∧ Fr n0 L ∧ h = h0
set_option maxRecDepth 65536 in
set_option maxHeartbeats 40000000 in
theorem rm2 (l : Launch) (Z : State) (az : Array Value) (hw : ∀ d ∈ tables_1, d.before az Z = true) (ws : List Jvm.Cond) (p0 : Int32) (p1 : Int32) (h0 : Heap) (n0 : Nat) (Z0 : n0 ≤ h0.size) :
    MetFree l (⟨"com/example/labframe/labframe/wire/FrameNumberPinLaw", "expected", "(IB)I"⟩ : MethodName) (head1 (Jvm.Cond.code (⟨"com/example/labframe/labframe/wire/FrameNumberPinLaw", "expected", "(IB)I"⟩ : MethodName) method_2_code 3 (some .int) :: ws) ({ frames := 0, cells := 0, slots := 0, locals := 0 } : Room)) (fun a U => a = #[(.int p0), (.int p1)] ∧ Z.Warmed39 U.vm ∧ U.heap = h0) (fun _ _ _ _ _ => True) (fun _ U o U' => ∃ v L, o = .returned v ∧ own_Q2 Z p0 p1 h0 n0 v U'.heap L ∧ FrameEnd U o U' L ({ frames := 0, cells := 0, slots := 0, locals := 0 } : Room).cells ({ frames := 0, cells := 0, slots := 0, locals := 0 } : Room).slots) := by
  refine MetFree.of_bodySF (plainFor_of_name pn2) hisR ?_
  intro p e s m args below meth c s₁ Bd hml0 hP hK
  obtain ⟨rfl, hZ, hh⟩ := hP
  have hx := Bd.exec
  have hby := Bd.bytes
  have hml : c.maxLocals = 3 := hml0
  have hown : s.vm.findClass "com/example/labframe/labframe/wire/FrameNumberPinLaw" = some m.cls := findClass_of_methodNamed Bd.named
  have hnm := (name_of_methodNamed Bd.named Bd.method).1
  have X0 : Stand p l e ({ frames := 0, cells := 0, slots := 0, locals := 0 } : Room) s m #[(.int p0), (.int p1)] below meth c s₁ [] 0 0 := Stand.of_body Bd
  have e0 : s₁.heap = h0 := by rw [← hh, Bd.state]; rfl
  have N0 := Fr.nil n0
  show own_Go p.tables e below (fun o U' => ∃ v L, o = .returned v ∧ own_Q2 Z p0 p1 h0 n0 v U'.heap L ∧ FrameEnd s o U' L ({ frames := 0, cells := 0, slots := 0, locals := 0 } : Room).cells ({ frames := 0, cells := 0, slots := 0, locals := 0 } : Room).slots) (s₁.setTop (entryFrame m #[(.int p0), (.int p1)] 3))
  refine own_go (fun _ k => castTop (ef2 m p0 p1) k) ?_
  show own_Go p.tables e below _ (s₁.setTop (mkF m 0 #[.val (.int p0), .val (.int p1), .unset] []))
  refine own_go (fun _ k => XS.iloadN X0.here hx rfl (hb hby d2_0) rfl k) ?_
  show own_Go p.tables e below _ (s₁.setTop (mkF m 1 #[.val (.int p0), .val (.int p1), .unset] [(.int p0)]))
  refine own_go (fun _ k => XS.iconst X0.here hx rfl (hb hby d2_1) k) ?_
  show own_Go p.tables e below _ (s₁.setTop (mkF m 2 #[.val (.int p0), .val (.int p1), .unset] [(.int (2 : Int32)), (.int p0)]))
  by_cases hc2 : p0 < (2 : Int32)
  · refine own_go (fun _ k => XS.icmpNo X0.here hx rfl (hb hby d2_2) rfl (tlt hc2).2.1 k) ?_
    show own_Go p.tables e below _ (s₁.setTop (mkF m 5 #[.val (.int p0), .val (.int p1), .unset] []))
    refine own_go (fun _ k => XS.iconst X0.here hx rfl (hb hby d2_5) k) ?_
    show own_Go p.tables e below _ (s₁.setTop (mkF m 6 #[.val (.int p0), .val (.int p1), .unset] [(.int (-1 : Int32))]))
    refine own_end X0 Bd.notSynchronized (v := some (.int (-1 : Int32))) (fun h => by rw [Bd.returns] at h; cases h) (fun fs hr => own_retI X0 hx Bd.returns (hb hby d2_6) hr) ?_ (by decide) (by decide)
    exact ⟨by rw [own_f2, if_pos hc2], N0, e0⟩
  · refine own_go (fun _ k => XS.icmpYes X0.here hx rfl (pc0 := 2) (pc' := 7) rfl (hb hby d2_2) rfl (flt hc2).2.1 (by decide) (by decide) k) ?_
    show own_Go p.tables e below _ (s₁.setTop (mkF m 7 #[.val (.int p0), .val (.int p1), .unset] []))
    refine own_go (fun _ k => XS.iloadN X0.here hx rfl (hb hby d2_7) rfl k) ?_
    show own_Go p.tables e below _ (s₁.setTop (mkF m 8 #[.val (.int p0), .val (.int p1), .unset] [(.int p1)]))
    refine own_go (fun _ k => XS.sipush X0.here hx rfl (hb hby d2_8) k) ?_
    show own_Go p.tables e below _ (s₁.setTop (mkF m 11 #[.val (.int p0), .val (.int p1), .unset] [(.int (255 : Int32)), (.int p1)]))
    refine own_go (fun _ k => XS.iand X0.here hx rfl (hb hby d2_11) rfl k) ?_
    show own_Go p.tables e below _ (s₁.setTop (mkF m 12 #[.val (.int p0), .val (.int p1), .unset] [(.int (p1 &&& (255 : Int32)))]))
    refine own_go (fun _ k => XS.istoreN X0.here hx rfl (hb hby d2_12) rfl (l' := #[.val (.int p0), .val (.int p1), .val (.int (p1 &&& (255 : Int32)))]) rfl k) ?_
    show own_Go p.tables e below _ (s₁.setTop (mkF m 13 #[.val (.int p0), .val (.int p1), .val (.int (p1 &&& (255 : Int32)))] []))
    refine own_go (fun _ k => XS.iloadN X0.here hx rfl (hb hby d2_13) rfl k) ?_
    show own_Go p.tables e below _ (s₁.setTop (mkF m 14 #[.val (.int p0), .val (.int p1), .val (.int (p1 &&& (255 : Int32)))] [(.int (p1 &&& (255 : Int32)))]))
    refine own_go (fun _ k => XS.bipush X0.here hx rfl (hb hby d2_14) k) ?_
    show own_Go p.tables e below _ (s₁.setTop (mkF m 16 #[.val (.int p0), .val (.int p1), .val (.int (p1 &&& (255 : Int32)))] [(.int (48 : Int32)), (.int (p1 &&& (255 : Int32)))]))
    by_cases hc16 : (p1 &&& (255 : Int32)) < (48 : Int32)
    · refine own_go (fun _ k => XS.icmpYes X0.here hx rfl (pc0 := 16) (pc' := 30) rfl (hb hby d2_16) rfl (tlt hc16).1 (by decide) (by decide) k) ?_
      show own_Go p.tables e below _ (s₁.setTop (mkF m 30 #[.val (.int p0), .val (.int p1), .val (.int (p1 &&& (255 : Int32)))] []))
      refine own_go (fun _ k => XS.iconst X0.here hx rfl (hb hby d2_30) k) ?_
      show own_Go p.tables e below _ (s₁.setTop (mkF m 31 #[.val (.int p0), .val (.int p1), .val (.int (p1 &&& (255 : Int32)))] [(.int (-1 : Int32))]))
      refine own_end X0 Bd.notSynchronized (v := some (.int (-1 : Int32))) (fun h => by rw [Bd.returns] at h; cases h) (fun fs hr => own_retI X0 hx Bd.returns (hb hby d2_31) hr) ?_ (by decide) (by decide)
      exact ⟨by rw [own_f2, if_neg hc2, if_pos hc16], N0, e0⟩
    · refine own_go (fun _ k => XS.icmpNo X0.here hx rfl (hb hby d2_16) rfl (flt hc16).1 k) ?_
      show own_Go p.tables e below _ (s₁.setTop (mkF m 19 #[.val (.int p0), .val (.int p1), .val (.int (p1 &&& (255 : Int32)))] []))
      refine own_go (fun _ k => XS.iloadN X0.here hx rfl (hb hby d2_19) rfl k) ?_
      show own_Go p.tables e below _ (s₁.setTop (mkF m 20 #[.val (.int p0), .val (.int p1), .val (.int (p1 &&& (255 : Int32)))] [(.int (p1 &&& (255 : Int32)))]))
      refine own_go (fun _ k => XS.bipush X0.here hx rfl (hb hby d2_20) k) ?_
      show own_Go p.tables e below _ (s₁.setTop (mkF m 22 #[.val (.int p0), .val (.int p1), .val (.int (p1 &&& (255 : Int32)))] [(.int (56 : Int32)), (.int (p1 &&& (255 : Int32)))]))
      by_cases hc22 : (p1 &&& (255 : Int32)) < (56 : Int32)
      · refine own_go (fun _ k => XS.icmpNo X0.here hx rfl (hb hby d2_22) rfl (tlt hc22).2.1 k) ?_
        show own_Go p.tables e below _ (s₁.setTop (mkF m 25 #[.val (.int p0), .val (.int p1), .val (.int (p1 &&& (255 : Int32)))] []))
        refine own_go (fun _ k => XS.iloadN X0.here hx rfl (hb hby d2_25) rfl k) ?_
        show own_Go p.tables e below _ (s₁.setTop (mkF m 26 #[.val (.int p0), .val (.int p1), .val (.int (p1 &&& (255 : Int32)))] [(.int (p1 &&& (255 : Int32)))]))
        refine own_go (fun _ k => XS.bipush X0.here hx rfl (hb hby d2_26) k) ?_
        show own_Go p.tables e below _ (s₁.setTop (mkF m 28 #[.val (.int p0), .val (.int p1), .val (.int (p1 &&& (255 : Int32)))] [(.int (48 : Int32)), (.int (p1 &&& (255 : Int32)))]))
        refine own_go (fun _ k => XS.isub X0.here hx rfl (hb hby d2_28) rfl k) ?_
        show own_Go p.tables e below _ (s₁.setTop (mkF m 29 #[.val (.int p0), .val (.int p1), .val (.int (p1 &&& (255 : Int32)))] [(.int ((p1 &&& (255 : Int32)) - (48 : Int32)))]))
        refine own_end X0 Bd.notSynchronized (v := some (.int ((p1 &&& (255 : Int32)) - (48 : Int32)))) (fun h => by rw [Bd.returns] at h; cases h) (fun fs hr => own_retI X0 hx Bd.returns (hb hby d2_29) hr) ?_ (by decide) (by decide)
        exact ⟨by rw [own_f2, if_neg hc2, if_neg hc16, if_pos hc22], N0, e0⟩
      · refine own_go (fun _ k => XS.icmpYes X0.here hx rfl (pc0 := 22) (pc' := 30) rfl (hb hby d2_22) rfl (flt hc22).2.1 (by decide) (by decide) k) ?_
        show own_Go p.tables e below _ (s₁.setTop (mkF m 30 #[.val (.int p0), .val (.int p1), .val (.int (p1 &&& (255 : Int32)))] []))
        refine own_go (fun _ k => XS.iconst X0.here hx rfl (hb hby d2_30) k) ?_
        show own_Go p.tables e below _ (s₁.setTop (mkF m 31 #[.val (.int p0), .val (.int p1), .val (.int (p1 &&& (255 : Int32)))] [(.int (-1 : Int32))]))
        refine own_end X0 Bd.notSynchronized (v := some (.int (-1 : Int32))) (fun h => by rw [Bd.returns] at h; cases h) (fun fs hr => own_retI X0 hx Bd.returns (hb hby d2_31) hr) ?_ (by decide) (by decide)
        exact ⟨by rw [own_f2, if_neg hc2, if_neg hc16, if_neg hc22], N0, e0⟩
def own_f3 (za : Int32) (xs : List Int32) : Int32 :=
  (if (1 : Int32) < za then (if (xs.getD ((1 : Int32)).toNatClampNeg 0) < (48 : Int32) then (-1 : Int32) else (if (if (55 : Int32) < (xs.getD ((1 : Int32)).toNatClampNeg 0) then (0 : Int32) else (1 : Int32)) = (0 : Int32) then (-1 : Int32) else ((xs.getD ((1 : Int32)).toNatClampNeg 0) - (48 : Int32)))) else (-1 : Int32))
theorem d3_0 : decode prog_39_method_8_code 0 = .ok (.aload_n 0, 1) := by decide +kernel
theorem d3_1 : decode prog_39_method_8_code 1 = .ok (.getfield 7, 3) := by decide +kernel
theorem d3_4 : decode prog_39_method_8_code 4 = .ok (.arraylength, 1) := by decide +kernel
theorem d3_5 : decode prog_39_method_8_code 5 = .ok (.iconst 1, 1) := by decide +kernel
theorem d3_6 : decode prog_39_method_8_code 6 = .ok (.if_icmp .le 29, 3) := by decide +kernel
theorem d3_9 : decode prog_39_method_8_code 9 = .ok (.aload_n 0, 1) := by decide +kernel
theorem d3_10 : decode prog_39_method_8_code 10 = .ok (.getfield 7, 3) := by decide +kernel
theorem d3_13 : decode prog_39_method_8_code 13 = .ok (.iconst 1, 1) := by decide +kernel
theorem d3_14 : decode prog_39_method_8_code 14 = .ok (.baload, 1) := by decide +kernel
theorem d3_15 : decode prog_39_method_8_code 15 = .ok (.bipush 48, 2) := by decide +kernel
theorem d3_17 : decode prog_39_method_8_code 17 = .ok (.if_icmp .lt 18, 3) := by decide +kernel
theorem d3_20 : decode prog_39_method_8_code 20 = .ok (.aload_n 0, 1) := by decide +kernel
theorem d3_21 : decode prog_39_method_8_code 21 = .ok (.getfield 7, 3) := by decide +kernel
theorem d3_24 : decode prog_39_method_8_code 24 = .ok (.iconst 1, 1) := by decide +kernel
theorem d3_25 : decode prog_39_method_8_code 25 = .ok (.baload, 1) := by decide +kernel
theorem d3_26 : decode prog_39_method_8_code 26 = .ok (.bipush 55, 2) := by decide +kernel
theorem d3_28 : decode prog_39_method_8_code 28 = .ok (.if_icmp .gt 7, 3) := by decide +kernel
theorem d3_31 : decode prog_39_method_8_code 31 = .ok (.iconst 1, 1) := by decide +kernel
theorem d3_32 : decode prog_39_method_8_code 32 = .ok (.goto 4, 3) := by decide +kernel
theorem d3_35 : decode prog_39_method_8_code 35 = .ok (.iconst 0, 1) := by decide +kernel
theorem d3_36 : decode prog_39_method_8_code 36 = .ok (.istore_n 1, 1) := by decide +kernel
theorem d3_37 : decode prog_39_method_8_code 37 = .ok (.iload_n 1, 1) := by decide +kernel
theorem d3_38 : decode prog_39_method_8_code 38 = .ok (.ifCond .eq 15, 3) := by decide +kernel
theorem d3_41 : decode prog_39_method_8_code 41 = .ok (.aload_n 0, 1) := by decide +kernel
theorem d3_42 : decode prog_39_method_8_code 42 = .ok (.getfield 7, 3) := by decide +kernel
theorem d3_45 : decode prog_39_method_8_code 45 = .ok (.iconst 1, 1) := by decide +kernel
theorem d3_46 : decode prog_39_method_8_code 46 = .ok (.baload, 1) := by decide +kernel
theorem d3_47 : decode prog_39_method_8_code 47 = .ok (.bipush 48, 2) := by decide +kernel
theorem d3_49 : decode prog_39_method_8_code 49 = .ok (.isub, 1) := by decide +kernel
theorem d3_50 : decode prog_39_method_8_code 50 = .ok (.goto 4, 3) := by decide +kernel
theorem d3_53 : decode prog_39_method_8_code 53 = .ok (.iconst (-1), 1) := by decide +kernel
theorem d3_54 : decode prog_39_method_8_code 54 = .ok (.ireturn, 1) := by decide +kernel
theorem pn3 : plainName "com/example/labframe/labframe/wire/Frame" = true := by first | (simp [plainName, overriddenIn]; done) | decide +kernel
theorem ef3 (m : MethodId) (a0 : Addr) : entryFrame m #[(.ref a0)] 2 = mkF m 0 #[.val (.ref a0), .unset] [] := by first | (simp [entryFrame, mkF, argsToLocals, Value.category]; done) | rfl
def own_Q3 (Z : State) (a0 : Addr) (ab : Addr) (ka : ClassId) (za : Int32) (xs : List Int32) (h0 : Heap) (n0 : Nat) (v : Option Value) (h : Heap) (L : List Loc) : Prop := v = some (.int (own_f3 za xs)) ∧ Fr n0 L ∧ h = h0
set_option maxRecDepth 65536 in
set_option maxHeartbeats 40000000 in
theorem rm3 (l : Launch) (Z : State) (az : Array Value) (hw : ∀ d ∈ tables_1, d.before az Z = true) (ws : List Jvm.Cond) (a0 : Addr) (ab : Addr) (ka : ClassId) (za : Int32) (xs : List Int32) (h0 : Heap) (n0 : Nat) (Z0 : n0 ≤ h0.size) (F_a0_bytes : Fld Z h0 a0 "com/example/labframe/labframe/wire/Frame" "bytes" "[B" (.ref ab)) (V_ab : Arv Z h0 ab ka .byte za (xs.map Value.int) (.int (0 : Int32))) :
    MetFree l (⟨"com/example/labframe/labframe/wire/Frame", "number", "()I"⟩ : MethodName) (head1 (Jvm.Cond.code (⟨"com/example/labframe/labframe/wire/Frame", "number", "()I"⟩ : MethodName) prog_39_method_8_code 2 (some .int) :: ws) ({ frames := 0, cells := 0, slots := 0, locals := 0 } : Room)) (fun a U => a = #[(.ref a0)] ∧ Z.Warmed39 U.vm ∧ U.heap = h0) (fun _ _ _ _ _ => True) (fun _ U o U' => ∃ v L, o = .returned v ∧ own_Q3 Z a0 ab ka za xs h0 n0 v U'.heap L ∧ FrameEnd U o U' L ({ frames := 0, cells := 0, slots := 0, locals := 0 } : Room).cells ({ frames := 0, cells := 0, slots := 0, locals := 0 } : Room).slots) := by
  refine MetFree.of_bodySF (plainFor_of_name pn3) hisR ?_
  intro p e s m args below meth c s₁ Bd hml0 hP hK
  obtain ⟨rfl, hZ, hh⟩ := hP
  have hx := Bd.exec
  have hby := Bd.bytes
  have hml : c.maxLocals = 2 := hml0
  have hown : s.vm.findClass "com/example/labframe/labframe/wire/Frame" = some m.cls := findClass_of_methodNamed Bd.named
  have hnm := (name_of_methodNamed Bd.named Bd.method).1
  have X0 : Stand p l e ({ frames := 0, cells := 0, slots := 0, locals := 0 } : Room) s m #[(.ref a0)] below meth c s₁ [] 0 0 := Stand.of_body Bd
  have e0 : s₁.heap = h0 := by rw [← hh, Bd.state]; rfl
  have N0 := Fr.nil n0
  show own_Go p.tables e below (fun o U' => ∃ v L, o = .returned v ∧ own_Q3 Z a0 ab ka za xs h0 n0 v U'.heap L ∧ FrameEnd s o U' L ({ frames := 0, cells := 0, slots := 0, locals := 0 } : Room).cells ({ frames := 0, cells := 0, slots := 0, locals := 0 } : Room).slots) (s₁.setTop (entryFrame m #[(.ref a0)] 2))
  refine own_go (fun _ k => castTop (ef3 m a0) k) ?_
  show own_Go p.tables e below _ (s₁.setTop (mkF m 0 #[.val (.ref a0), .unset] []))
  refine own_go (fun _ k => XS.aloadN X0.here hx rfl (hb hby d3_0) rfl rfl k) ?_
  show own_Go p.tables e below _ (s₁.setTop (mkF m 1 #[.val (.ref a0), .unset] [(.ref a0)]))
  obtain ⟨T1, X1, e1, st1⟩ := getF X0 hx hZ hown (host := "") (Or.inl (hw _ (List.mem_of_getElem? (i := 10) rfl))) Via.refl e0 F_a0_bytes (g := (mkF m 1 #[.val (.ref a0), .unset] [(.ref a0)])) rfl rfl (hb hby d3_1)
  refine own_go st1 ?_
  show own_Go p.tables e below _ (T1.setTop (mkF m 4 #[.val (.ref a0), .unset] [(.ref ab)]))
  have vo2 := V_ab
  obtain ⟨cl2, Ar2, Aq2, AS2, AN2, AH2, AG2⟩ := vo2
  refine own_go (fun _ k => X1.arraylength hx (by rw [e1]; exact Ar2.1) (State.isArrayOf_alike hZ.alike Ar2.2.1) (g := (mkF m 4 #[.val (.ref a0), .unset] [(.ref ab)])) rfl rfl (hb hby d3_4) _ k) ?_
  rw [len_of AS2 AN2]
  show own_Go p.tables e below _ (T1.setTop (mkF m 5 #[.val (.ref a0), .unset] [(.int za)]))
  refine own_go (fun _ k => XS.iconst X1.here hx rfl (hb hby d3_5) k) ?_
  show own_Go p.tables e below _ (T1.setTop (mkF m 6 #[.val (.ref a0), .unset] [(.int (1 : Int32)), (.int za)]))
  by_cases hc6 : (1 : Int32) < za
  · refine own_go (fun _ k => XS.icmpNo X1.here hx rfl (hb hby d3_6) rfl (tlt hc6).2.2.2 k) ?_
    show own_Go p.tables e below _ (T1.setTop (mkF m 9 #[.val (.ref a0), .unset] []))
    refine own_go (fun _ k => XS.aloadN X1.here hx rfl (hb hby d3_9) rfl rfl k) ?_
    show own_Go p.tables e below _ (T1.setTop (mkF m 10 #[.val (.ref a0), .unset] [(.ref a0)]))
    obtain ⟨T3, X3, e3, st3⟩ := getF X1 hx hZ hown (host := "") (Or.inl (hw _ (List.mem_of_getElem? (i := 10) rfl))) Via.refl e1 F_a0_bytes (g := (mkF m 10 #[.val (.ref a0), .unset] [(.ref a0)])) rfl rfl (hb hby d3_10)
    refine own_go st3 ?_
    show own_Go p.tables e below _ (T3.setTop (mkF m 13 #[.val (.ref a0), .unset] [(.ref ab)]))
    refine own_go (fun _ k => XS.iconst X3.here hx rfl (hb hby d3_13) k) ?_
    show own_Go p.tables e below _ (T3.setTop (mkF m 14 #[.val (.ref a0), .unset] [(.int (1 : Int32)), (.ref ab)]))
    have vo4 := V_ab
    obtain ⟨cl4, Ar4, Aq4, AS4, AN4, AH4, AG4⟩ := vo4
    have hin4 : ¬ ((1 : Int32) < 0 ∨ cl4.slots.size ≤ ((1 : Int32)).toNatClampNeg) := inb_of AS4 ⟨by decide, hc6⟩
    have hat4 : cl4.slots[((1 : Int32)).toNatClampNeg]? = some (.int (xs.getD ((1 : Int32)).toNatClampNeg 0)) := Has.at AH4 hin4 (own_mapI xs _)
    refine own_go (fun _ k => X3.baloadBytes hx (j := (1 : Int32)) (v := (.int (xs.getD ((1 : Int32)).toNatClampNeg 0))) (by rw [e3]; exact Ar4.1) (State.isArrayOf_alike hZ.alike Ar4.2.1) Ar4.2.2 hin4 hat4 (g := (mkF m 14 #[.val (.ref a0), .unset] [(.int (1 : Int32)), (.ref ab)])) rfl rfl (hb hby d3_14) _ k) ?_
    show own_Go p.tables e below _ (T3.setTop (mkF m 15 #[.val (.ref a0), .unset] [(.int (xs.getD ((1 : Int32)).toNatClampNeg 0))]))
    refine own_go (fun _ k => XS.bipush X3.here hx rfl (hb hby d3_15) k) ?_
    show own_Go p.tables e below _ (T3.setTop (mkF m 17 #[.val (.ref a0), .unset] [(.int (48 : Int32)), (.int (xs.getD ((1 : Int32)).toNatClampNeg 0))]))
    by_cases hc17 : (xs.getD ((1 : Int32)).toNatClampNeg 0) < (48 : Int32)
    · refine own_go (fun _ k => XS.icmpYes X3.here hx rfl (pc0 := 17) (pc' := 35) rfl (hb hby d3_17) rfl (tlt hc17).1 (by decide) (by decide) k) ?_
      show own_Go p.tables e below _ (T3.setTop (mkF m 35 #[.val (.ref a0), .unset] []))
      refine own_go (fun _ k => XS.iconst X3.here hx rfl (hb hby d3_35) k) ?_
      show own_Go p.tables e below _ (T3.setTop (mkF m 36 #[.val (.ref a0), .unset] [(.int (0 : Int32))]))
      refine own_go (fun _ k => XS.istoreN X3.here hx rfl (hb hby d3_36) rfl (l' := #[.val (.ref a0), .val (.int (0 : Int32))]) rfl k) ?_
      show own_Go p.tables e below _ (T3.setTop (mkF m 37 #[.val (.ref a0), .val (.int (0 : Int32))] []))
      refine own_go (fun _ k => XS.iloadN X3.here hx rfl (hb hby d3_37) rfl k) ?_
      show own_Go p.tables e below _ (T3.setTop (mkF m 38 #[.val (.ref a0), .val (.int (0 : Int32))] [(.int (0 : Int32))]))
      have hf38 : (0 : Int32) = (0 : Int32) := by decide
      refine own_go (fun _ k => XS.ifYes X3.here hx rfl (pc0 := 38) (pc' := 53) rfl (hb hby d3_38) rfl ((if0 _ _).trans (teq hf38).1) (by decide) (by decide) k) ?_
      show own_Go p.tables e below _ (T3.setTop (mkF m 53 #[.val (.ref a0), .val (.int (0 : Int32))] []))
      refine own_go (fun _ k => XS.iconst X3.here hx rfl (hb hby d3_53) k) ?_
      show own_Go p.tables e below _ (T3.setTop (mkF m 54 #[.val (.ref a0), .val (.int (0 : Int32))] [(.int (-1 : Int32))]))
      refine own_end X3 Bd.notSynchronized (v := some (.int (-1 : Int32))) (fun h => by rw [Bd.returns] at h; cases h) (fun fs hr => own_retI X3 hx Bd.returns (hb hby d3_54) hr) ?_ (by decide) (by decide)
      exact ⟨by rw [own_f3, if_pos hc6, if_pos hc17], N0, e3⟩
    · refine own_go (fun _ k => XS.icmpNo X3.here hx rfl (hb hby d3_17) rfl (flt hc17).1 k) ?_
      show own_Go p.tables e below _ (T3.setTop (mkF m 20 #[.val (.ref a0), .unset] []))
      refine own_go (fun _ k => XS.aloadN X3.here hx rfl (hb hby d3_20) rfl rfl k) ?_
      show own_Go p.tables e below _ (T3.setTop (mkF m 21 #[.val (.ref a0), .unset] [(.ref a0)]))
      obtain ⟨T5, X5, e5, st5⟩ := getF X3 hx hZ hown (host := "") (Or.inl (hw _ (List.mem_of_getElem? (i := 10) rfl))) Via.refl e3 F_a0_bytes (g := (mkF m 21 #[.val (.ref a0), .unset] [(.ref a0)])) rfl rfl (hb hby d3_21)
      refine own_go st5 ?_
      show own_Go p.tables e below _ (T5.setTop (mkF m 24 #[.val (.ref a0), .unset] [(.ref ab)]))
      refine own_go (fun _ k => XS.iconst X5.here hx rfl (hb hby d3_24) k) ?_
      show own_Go p.tables e below _ (T5.setTop (mkF m 25 #[.val (.ref a0), .unset] [(.int (1 : Int32)), (.ref ab)]))
      have vo6 := V_ab
      obtain ⟨cl6, Ar6, Aq6, AS6, AN6, AH6, AG6⟩ := vo6
      have hin6 : ¬ ((1 : Int32) < 0 ∨ cl6.slots.size ≤ ((1 : Int32)).toNatClampNeg) := inb_of AS6 ⟨by decide, hc6⟩
      have hat6 : cl6.slots[((1 : Int32)).toNatClampNeg]? = some (.int (xs.getD ((1 : Int32)).toNatClampNeg 0)) := Has.at AH6 hin6 (own_mapI xs _)
      refine own_go (fun _ k => X5.baloadBytes hx (j := (1 : Int32)) (v := (.int (xs.getD ((1 : Int32)).toNatClampNeg 0))) (by rw [e5]; exact Ar6.1) (State.isArrayOf_alike hZ.alike Ar6.2.1) Ar6.2.2 hin6 hat6 (g := (mkF m 25 #[.val (.ref a0), .unset] [(.int (1 : Int32)), (.ref ab)])) rfl rfl (hb hby d3_25) _ k) ?_
      show own_Go p.tables e below _ (T5.setTop (mkF m 26 #[.val (.ref a0), .unset] [(.int (xs.getD ((1 : Int32)).toNatClampNeg 0))]))
      refine own_go (fun _ k => XS.bipush X5.here hx rfl (hb hby d3_26) k) ?_
      show own_Go p.tables e below _ (T5.setTop (mkF m 28 #[.val (.ref a0), .unset] [(.int (55 : Int32)), (.int (xs.getD ((1 : Int32)).toNatClampNeg 0))]))
      have sg7 : ∀ t, Steps p.tables e below (T5.setTop (mkF m 36 #[.val (.ref a0), .unset] [(.int (if (55 : Int32) < (xs.getD ((1 : Int32)).toNatClampNeg 0) then (0 : Int32) else (1 : Int32)))])) t → Steps p.tables e below (T5.setTop (mkF m 28 #[.val (.ref a0), .unset] [(.int (55 : Int32)), (.int (xs.getD ((1 : Int32)).toNatClampNeg 0))])) t := by
        intro t k
        by_cases hc28 : (55 : Int32) < (xs.getD ((1 : Int32)).toNatClampNeg 0)
        · try simp only [if_pos hc28] at k
          refine XS.icmpYes X5.here hx rfl (pc0 := 28) (pc' := 35) rfl (hb hby d3_28) rfl (tlt hc28).2.2.1 (by decide) (by decide) ?_
          show Steps p.tables e below (T5.setTop (mkF m 35 #[.val (.ref a0), .unset] [])) _
          refine XS.iconst X5.here hx rfl (hb hby d3_35) ?_
          show Steps p.tables e below (T5.setTop (mkF m 36 #[.val (.ref a0), .unset] [(.int (0 : Int32))])) _
          exact k
        · try simp only [if_neg hc28] at k
          refine XS.icmpNo X5.here hx rfl (hb hby d3_28) rfl (flt hc28).2.2.1 ?_
          show Steps p.tables e below (T5.setTop (mkF m 31 #[.val (.ref a0), .unset] [])) _
          refine XS.iconst X5.here hx rfl (hb hby d3_31) ?_
          show Steps p.tables e below (T5.setTop (mkF m 32 #[.val (.ref a0), .unset] [(.int (1 : Int32))])) _
          refine XS.goto X5.here hx rfl (pc0 := 32) (pc' := 36) rfl (hb hby d3_32) (by decide) (by decide) ?_
          show Steps p.tables e below (T5.setTop (mkF m 36 #[.val (.ref a0), .unset] [(.int (1 : Int32))])) _
          exact k
      refine own_go sg7 ?_
      show own_Go p.tables e below _ (T5.setTop (mkF m 36 #[.val (.ref a0), .unset] [(.int (if (55 : Int32) < (xs.getD ((1 : Int32)).toNatClampNeg 0) then (0 : Int32) else (1 : Int32)))]))
      refine own_go (fun _ k => XS.istoreN X5.here hx rfl (hb hby d3_36) rfl (l' := #[.val (.ref a0), .val (.int (if (55 : Int32) < (xs.getD ((1 : Int32)).toNatClampNeg 0) then (0 : Int32) else (1 : Int32)))]) rfl k) ?_
      show own_Go p.tables e below _ (T5.setTop (mkF m 37 #[.val (.ref a0), .val (.int (if (55 : Int32) < (xs.getD ((1 : Int32)).toNatClampNeg 0) then (0 : Int32) else (1 : Int32)))] []))
      refine own_go (fun _ k => XS.iloadN X5.here hx rfl (hb hby d3_37) rfl k) ?_
      show own_Go p.tables e below _ (T5.setTop (mkF m 38 #[.val (.ref a0), .val (.int (if (55 : Int32) < (xs.getD ((1 : Int32)).toNatClampNeg 0) then (0 : Int32) else (1 : Int32)))] [(.int (if (55 : Int32) < (xs.getD ((1 : Int32)).toNatClampNeg 0) then (0 : Int32) else (1 : Int32)))]))
      by_cases hc38 : (if (55 : Int32) < (xs.getD ((1 : Int32)).toNatClampNeg 0) then (0 : Int32) else (1 : Int32)) = (0 : Int32)
      · refine own_go (fun _ k => XS.ifYes X5.here hx rfl (pc0 := 38) (pc' := 53) rfl (hb hby d3_38) rfl ((if0 _ _).trans (teq hc38).1) (by decide) (by decide) k) ?_
        show own_Go p.tables e below _ (T5.setTop (mkF m 53 #[.val (.ref a0), .val (.int (if (55 : Int32) < (xs.getD ((1 : Int32)).toNatClampNeg 0) then (0 : Int32) else (1 : Int32)))] []))
        refine own_go (fun _ k => XS.iconst X5.here hx rfl (hb hby d3_53) k) ?_
        show own_Go p.tables e below _ (T5.setTop (mkF m 54 #[.val (.ref a0), .val (.int (if (55 : Int32) < (xs.getD ((1 : Int32)).toNatClampNeg 0) then (0 : Int32) else (1 : Int32)))] [(.int (-1 : Int32))]))
        refine own_end X5 Bd.notSynchronized (v := some (.int (-1 : Int32))) (fun h => by rw [Bd.returns] at h; cases h) (fun fs hr => own_retI X5 hx Bd.returns (hb hby d3_54) hr) ?_ (by decide) (by decide)
        exact ⟨by rw [own_f3, if_pos hc6, if_neg hc17, if_pos hc38], N0, e5⟩
      · refine own_go (fun _ k => XS.ifNo X5.here hx rfl (hb hby d3_38) rfl ((if0 _ _).trans (feq hc38).1) k) ?_
        show own_Go p.tables e below _ (T5.setTop (mkF m 41 #[.val (.ref a0), .val (.int (if (55 : Int32) < (xs.getD ((1 : Int32)).toNatClampNeg 0) then (0 : Int32) else (1 : Int32)))] []))
        refine own_go (fun _ k => XS.aloadN X5.here hx rfl (hb hby d3_41) rfl rfl k) ?_
        show own_Go p.tables e below _ (T5.setTop (mkF m 42 #[.val (.ref a0), .val (.int (if (55 : Int32) < (xs.getD ((1 : Int32)).toNatClampNeg 0) then (0 : Int32) else (1 : Int32)))] [(.ref a0)]))
        obtain ⟨T8, X8, e8, st8⟩ := getF X5 hx hZ hown (host := "") (Or.inl (hw _ (List.mem_of_getElem? (i := 10) rfl))) Via.refl e5 F_a0_bytes (g := (mkF m 42 #[.val (.ref a0), .val (.int (if (55 : Int32) < (xs.getD ((1 : Int32)).toNatClampNeg 0) then (0 : Int32) else (1 : Int32)))] [(.ref a0)])) rfl rfl (hb hby d3_42)
        refine own_go st8 ?_
        show own_Go p.tables e below _ (T8.setTop (mkF m 45 #[.val (.ref a0), .val (.int (if (55 : Int32) < (xs.getD ((1 : Int32)).toNatClampNeg 0) then (0 : Int32) else (1 : Int32)))] [(.ref ab)]))
        refine own_go (fun _ k => XS.iconst X8.here hx rfl (hb hby d3_45) k) ?_
        show own_Go p.tables e below _ (T8.setTop (mkF m 46 #[.val (.ref a0), .val (.int (if (55 : Int32) < (xs.getD ((1 : Int32)).toNatClampNeg 0) then (0 : Int32) else (1 : Int32)))] [(.int (1 : Int32)), (.ref ab)]))
        have vo9 := V_ab
        obtain ⟨cl9, Ar9, Aq9, AS9, AN9, AH9, AG9⟩ := vo9
        have hin9 : ¬ ((1 : Int32) < 0 ∨ cl9.slots.size ≤ ((1 : Int32)).toNatClampNeg) := inb_of AS9 ⟨by decide, hc6⟩
        have hat9 : cl9.slots[((1 : Int32)).toNatClampNeg]? = some (.int (xs.getD ((1 : Int32)).toNatClampNeg 0)) := Has.at AH9 hin9 (own_mapI xs _)
        refine own_go (fun _ k => X8.baloadBytes hx (j := (1 : Int32)) (v := (.int (xs.getD ((1 : Int32)).toNatClampNeg 0))) (by rw [e8]; exact Ar9.1) (State.isArrayOf_alike hZ.alike Ar9.2.1) Ar9.2.2 hin9 hat9 (g := (mkF m 46 #[.val (.ref a0), .val (.int (if (55 : Int32) < (xs.getD ((1 : Int32)).toNatClampNeg 0) then (0 : Int32) else (1 : Int32)))] [(.int (1 : Int32)), (.ref ab)])) rfl rfl (hb hby d3_46) _ k) ?_
        show own_Go p.tables e below _ (T8.setTop (mkF m 47 #[.val (.ref a0), .val (.int (if (55 : Int32) < (xs.getD ((1 : Int32)).toNatClampNeg 0) then (0 : Int32) else (1 : Int32)))] [(.int (xs.getD ((1 : Int32)).toNatClampNeg 0))]))
        refine own_go (fun _ k => XS.bipush X8.here hx rfl (hb hby d3_47) k) ?_
        show own_Go p.tables e below _ (T8.setTop (mkF m 49 #[.val (.ref a0), .val (.int (if (55 : Int32) < (xs.getD ((1 : Int32)).toNatClampNeg 0) then (0 : Int32) else (1 : Int32)))] [(.int (48 : Int32)), (.int (xs.getD ((1 : Int32)).toNatClampNeg 0))]))
        refine own_go (fun _ k => XS.isub X8.here hx rfl (hb hby d3_49) rfl k) ?_
        show own_Go p.tables e below _ (T8.setTop (mkF m 50 #[.val (.ref a0), .val (.int (if (55 : Int32) < (xs.getD ((1 : Int32)).toNatClampNeg 0) then (0 : Int32) else (1 : Int32)))] [(.int ((xs.getD ((1 : Int32)).toNatClampNeg 0) - (48 : Int32)))]))
        refine own_go (fun _ k => XS.goto X8.here hx rfl (pc0 := 50) (pc' := 54) rfl (hb hby d3_50) (by decide) (by decide) k) ?_
        show own_Go p.tables e below _ (T8.setTop (mkF m 54 #[.val (.ref a0), .val (.int (if (55 : Int32) < (xs.getD ((1 : Int32)).toNatClampNeg 0) then (0 : Int32) else (1 : Int32)))] [(.int ((xs.getD ((1 : Int32)).toNatClampNeg 0) - (48 : Int32)))]))
        refine own_end X8 Bd.notSynchronized (v := some (.int ((xs.getD ((1 : Int32)).toNatClampNeg 0) - (48 : Int32)))) (fun h => by rw [Bd.returns] at h; cases h) (fun fs hr => own_retI X8 hx Bd.returns (hb hby d3_54) hr) ?_ (by decide) (by decide)
        exact ⟨by rw [own_f3, if_pos hc6, if_neg hc17, if_neg hc38], N0, e8⟩
  · refine own_go (fun _ k => XS.icmpYes X1.here hx rfl (pc0 := 6) (pc' := 35) rfl (hb hby d3_6) rfl (flt hc6).2.2.2 (by decide) (by decide) k) ?_
    show own_Go p.tables e below _ (T1.setTop (mkF m 35 #[.val (.ref a0), .unset] []))
    refine own_go (fun _ k => XS.iconst X1.here hx rfl (hb hby d3_35) k) ?_
    show own_Go p.tables e below _ (T1.setTop (mkF m 36 #[.val (.ref a0), .unset] [(.int (0 : Int32))]))
    refine own_go (fun _ k => XS.istoreN X1.here hx rfl (hb hby d3_36) rfl (l' := #[.val (.ref a0), .val (.int (0 : Int32))]) rfl k) ?_
    show own_Go p.tables e below _ (T1.setTop (mkF m 37 #[.val (.ref a0), .val (.int (0 : Int32))] []))
    refine own_go (fun _ k => XS.iloadN X1.here hx rfl (hb hby d3_37) rfl k) ?_
    show own_Go p.tables e below _ (T1.setTop (mkF m 38 #[.val (.ref a0), .val (.int (0 : Int32))] [(.int (0 : Int32))]))
    have hf38 : (0 : Int32) = (0 : Int32) := by decide
    refine own_go (fun _ k => XS.ifYes X1.here hx rfl (pc0 := 38) (pc' := 53) rfl (hb hby d3_38) rfl ((if0 _ _).trans (teq hf38).1) (by decide) (by decide) k) ?_
    show own_Go p.tables e below _ (T1.setTop (mkF m 53 #[.val (.ref a0), .val (.int (0 : Int32))] []))
    refine own_go (fun _ k => XS.iconst X1.here hx rfl (hb hby d3_53) k) ?_
    show own_Go p.tables e below _ (T1.setTop (mkF m 54 #[.val (.ref a0), .val (.int (0 : Int32))] [(.int (-1 : Int32))]))
    refine own_end X1 Bd.notSynchronized (v := some (.int (-1 : Int32))) (fun h => by rw [Bd.returns] at h; cases h) (fun fs hr => own_retI X1 hx Bd.returns (hb hby d3_54) hr) ?_ (by decide) (by decide)
    exact ⟨by rw [own_f3, if_neg hc6], N0, e1⟩
theorem own_k : (0 : Int32).toInt = 0 ∧ (1 : Int32).toInt = 1 ∧ (2 : Int32).toInt = 2 ∧ (48 : Int32).toInt = 48 ∧ (55 : Int32).toInt = 55 ∧ (56 : Int32).toInt = 56 ∧ (7 : Int32).toInt = 7 ∧ (-1 : Int32).toInt = -1 := by decide
theorem own_four {p v : Int32} (h : v = p &&& 3) : v = 0 ∨ v = 1 ∨ v = 2 ∨ v = 3 := by
  have e := c_mask p 3 2 (by decide) (by decide)
  rw [← h] at e
  have k : (0 : Int32).toInt = 0 ∧ (1 : Int32).toInt = 1 ∧ (2 : Int32).toInt = 2 ∧ (3 : Int32).toInt = 3 := by decide
  simp only [← Int32.toInt_inj, k.1, k.2.1, k.2.2.1, k.2.2.2]
  omega
theorem own_v {z p : Int32} {xs : List Int32} (h : (1 : Int32) < z → xs.getD ((1 : Int32)).toNatClampNeg 0 = (p.toInt8.toInt32).toInt8.toInt32) :
    own_f3 z xs = own_f2 z (p.toInt8.toInt32) ∧ ¬ (own_f3 z xs < -1) ∧ ¬ (7 < own_f3 z xs) := by
  obtain ⟨k0, k1, k2, k3, k4, k5, k6, k7⟩ := own_k
  have e1 := c_i2b p
  have e2 := c_i2b (p.toInt8.toInt32)
  generalize p.toInt8.toInt32 = b at *
  by_cases h1 : (1 : Int32) < z
  · have h2 : ¬ (z < 2) := by rw [Int32.lt_iff_toInt_lt] at h1 ⊢; omega
    have q := h h1
    have e3 : b.toInt8.toInt32 = b := by rw [← Int32.toInt_inj]; omega
    rw [e3] at q
    have m := c_mask b 255 8 (by decide) (by decide)
    have s1 := c_isub b 48
    have s2 := c_isub (b &&& 255) 48
    have r1 := rng32 (b - 48)
    have r2 := rng32 ((b &&& 255) - 48)
    simp only [own_f3, own_f2, if_pos h1, if_neg h2, q]
    simp only [Int32.lt_iff_toInt_lt, k3, k4, k5]
    rw [k3] at s1 s2
    clear h q e3
    by_cases g1 : b.toInt < 48
    · have g2 : (b &&& 255).toInt < 48 ∨ ¬ ((b &&& 255).toInt < 56) := by omega
      rw [if_pos g1]
      rcases g2 with g2 | g2
      · rw [if_pos g2]; decide
      · have g3 : ¬ ((b &&& 255).toInt < 48) := by omega
        rw [if_neg g3, if_neg g2]; decide
    · by_cases g4 : 55 < b.toInt
      · have g3 : ¬ ((b &&& 255).toInt < 48) := by omega
        have g2 : ¬ ((b &&& 255).toInt < 56) := by omega
        rw [if_neg g1, if_pos g4, if_neg g3, if_neg g2, if_pos (rfl : (0 : Int32) = 0)]; decide
      · have g3 : ¬ ((b &&& 255).toInt < 48) := by omega
        have g2 : ((b &&& 255).toInt < 56) := by omega
        rw [if_neg g1, if_neg g4, if_neg g3, if_pos g2, if_neg (by decide : ¬ ((1 : Int32) = 0))]
        refine ⟨by rw [← Int32.toInt_inj]; omega, by omega, by omega⟩
  · have h2 : z < 2 := by rw [Int32.lt_iff_toInt_lt] at h1 ⊢; omega
    simp only [own_f3, own_f2, if_neg h1, if_pos h2]
    decide
theorem pn0 : plainName "com/example/labframe/labframe/wire/FrameNumberPinLaw" = true := by first | (simp [plainName, overriddenIn]; done) | decide +kernel
theorem pd0_0 : parseMethodDescriptor "([BIZ)V" = some ⟨[(.array .byte), .int, .boolean], none⟩ := by decide +kernel
theorem pd0_1 : parseMethodDescriptor "(IB)I" = some ⟨[.int, .byte], some .int⟩ := by decide +kernel
theorem pd0_2 : parseMethodDescriptor "()I" = some ⟨[], some .int⟩ := by decide +kernel
theorem ef0 (m : MethodId) (p0 : Int32) (p1 : Int32) (p2 : Int32) (p3 : Int32) (p4 : Int32) (p5 : Int32) : entryFrame m #[(.int p0), (.int p1), (.int p2), (.int p3), (.int p4), (.int p5)] maxLocals = mkF m 0 #[.val (.int p0), .val (.int p1), .val (.int p2), .val (.int p3), .val (.int p4), .val (.int p5), .unset, .unset, .unset, .unset, .unset, .unset, .unset] [] := by first | (simp [entryFrame, mkF, argsToLocals, Value.category, maxLocals]; done) | rfl
def own_Q0 (Z : State) (p0 : Int32) (p1 : Int32) (p2 : Int32) (p3 : Int32) (p4 : Int32) (p5 : Int32) (h0 : Heap) (n0 : Nat) (v : Option Value) (h : Heap) (L : List Loc) : Prop := v = some (.int 1) ∧ Fr n0 L
set_option maxRecDepth 65536 in
set_option maxHeartbeats 40000000 in
theorem rm0 (l : Launch) (Z : State) (az : Array Value) (hw : ∀ d ∈ tables_1, d.before az Z = true) (ws : List Jvm.Cond) (p0 : Int32) (p1 : Int32) (p2 : Int32) (p3 : Int32) (p4 : Int32) (p5 : Int32) (h0 : Heap) (n0 : Nat) (Z0 : n0 ≤ h0.size) :
    MetFree l x (head1 (Jvm.Cond.code x code maxLocals ret :: ws) room_1) (fun a U => a = #[(.int p0), (.int p1), (.int p2), (.int p3), (.int p4), (.int p5)] ∧ Z.Warmed39 U.vm ∧ U.heap = h0) (fun _ _ _ _ _ => True) (fun _ U o U' => ∃ v L, o = .returned v ∧ own_Q0 Z p0 p1 p2 p3 p4 p5 h0 n0 v U'.heap L ∧ FrameEnd U o U' L 16 128) := by
  refine MetFree.of_bodySF (plainFor_of_name pn0) hisR ?_
  intro p e s m args below meth c s₁ Bd hml0 hP hK
  obtain ⟨rfl, hZ, hh⟩ := hP
  have hx := Bd.exec
  have hby := Bd.bytes
  have hml : c.maxLocals = 13 := hml0
  have hown : s.vm.findClass "com/example/labframe/labframe/wire/FrameNumberPinLaw" = some m.cls := findClass_of_methodNamed Bd.named
  have hnm := (name_of_methodNamed Bd.named Bd.method).1
  have X0 : Stand p l e room_1 s m #[(.int p0), (.int p1), (.int p2), (.int p3), (.int p4), (.int p5)] below meth c s₁ [] 0 0 := Stand.of_body Bd
  have e0 : s₁.heap = h0 := by rw [← hh, Bd.state]; rfl
  have N0 := Fr.nil n0
  show own_Go p.tables e below (fun o U' => ∃ v L, o = .returned v ∧ own_Q0 Z p0 p1 p2 p3 p4 p5 h0 n0 v U'.heap L ∧ FrameEnd s o U' L 16 128) (s₁.setTop (entryFrame m #[(.int p0), (.int p1), (.int p2), (.int p3), (.int p4), (.int p5)] maxLocals))
  refine own_go (fun _ k => castTop (ef0 m p0 p1 p2 p3 p4 p5) k) ?_
  show own_Go p.tables e below _ (s₁.setTop (mkF m 0 #[.val (.int p0), .val (.int p1), .val (.int p2), .val (.int p3), .val (.int p4), .val (.int p5), .unset, .unset, .unset, .unset, .unset, .unset, .unset] []))
  refine own_go (fun _ k => XS.iloadN X0.here hx rfl (hb hby at_0) rfl k) ?_
  show own_Go p.tables e below _ (s₁.setTop (mkF m 1 #[.val (.int p0), .val (.int p1), .val (.int p2), .val (.int p3), .val (.int p4), .val (.int p5), .unset, .unset, .unset, .unset, .unset, .unset, .unset] [(.int p0)]))
  refine own_go (fun _ k => XS.iconst X0.here hx rfl (hb hby at_1) k) ?_
  show own_Go p.tables e below _ (s₁.setTop (mkF m 2 #[.val (.int p0), .val (.int p1), .val (.int p2), .val (.int p3), .val (.int p4), .val (.int p5), .unset, .unset, .unset, .unset, .unset, .unset, .unset] [(.int (3 : Int32)), (.int p0)]))
  refine own_go (fun _ k => XS.iand X0.here hx rfl (hb hby at_2) rfl k) ?_
  show own_Go p.tables e below _ (s₁.setTop (mkF m 3 #[.val (.int p0), .val (.int p1), .val (.int p2), .val (.int p3), .val (.int p4), .val (.int p5), .unset, .unset, .unset, .unset, .unset, .unset, .unset] [(.int (p0 &&& (3 : Int32)))]))
  refine own_go (fun _ k => XS.istore X0.here hx rfl (hb hby at_3) rfl (l' := #[.val (.int p0), .val (.int p1), .val (.int p2), .val (.int p3), .val (.int p4), .val (.int p5), .val (.int (p0 &&& (3 : Int32))), .unset, .unset, .unset, .unset, .unset, .unset]) rfl k) ?_
  show own_Go p.tables e below _ (s₁.setTop (mkF m 5 #[.val (.int p0), .val (.int p1), .val (.int p2), .val (.int p3), .val (.int p4), .val (.int p5), .val (.int (p0 &&& (3 : Int32))), .unset, .unset, .unset, .unset, .unset, .unset] []))
  obtain ⟨vn, hvn⟩ : ∃ z : Int32, z = (p0 &&& (3 : Int32)) := ⟨_, rfl⟩
  rw [← hvn]
  show own_Go p.tables e below _ (s₁.setTop (mkF m 5 #[.val (.int p0), .val (.int p1), .val (.int p2), .val (.int p3), .val (.int p4), .val (.int p5), .val (.int vn), .unset, .unset, .unset, .unset, .unset, .unset] []))
  rcases own_four hvn with h4 | h4 | h4 | h4
  · subst h4
    show own_Go p.tables e below _ (s₁.setTop (mkF m 5 #[.val (.int p0), .val (.int p1), .val (.int p2), .val (.int p3), .val (.int p4), .val (.int p5), .val (.int (0 : Int32)), .unset, .unset, .unset, .unset, .unset, .unset] []))
    refine own_go (fun _ k => XS.iload X0.here hx rfl (hb hby at_5) rfl k) ?_
    show own_Go p.tables e below _ (s₁.setTop (mkF m 7 #[.val (.int p0), .val (.int p1), .val (.int p2), .val (.int p3), .val (.int p4), .val (.int p5), .val (.int (0 : Int32)), .unset, .unset, .unset, .unset, .unset, .unset] [(.int (0 : Int32))]))
    obtain ⟨T1, h1, k1, X1, e1, E1, A1, st1⟩ := newP X0 hx hZ (hw _ (List.mem_of_getElem? (i := 0) rfl)) e0 (g := (mkF m 7 #[.val (.int p0), .val (.int p1), .val (.int p2), .val (.int p3), .val (.int p4), .val (.int p5), .val (.int (0 : Int32)), .unset, .unset, .unset, .unset, .unset, .unset] [(.int (0 : Int32))])) rfl (hb hby at_7) rfl (by decide) (cap := 0) (by decide) (by decide) (by decide) (by decide)
    obtain ⟨b1, g1⟩ : ∃ z, z = h0.size := ⟨_, rfl⟩
    rw [← g1] at A1 st1
    have g_b1 : n0 ≤ b1 := Nat.le_trans Z0 (Nat.le_of_eq g1.symm)
    have Z1 : n0 ≤ h1.size := Nat.le_trans Z0 E1.1
    have V1 : Arv Z h1 b1 k1 .byte (0 : Int32) [] (.int (0 : Int32)) := (Arv.new A1 (by decide)).pad (pad_rep [] (.int (0 : Int32)) 0)
    refine own_go st1 ?_
    show own_Go p.tables e below _ (T1.setTop (mkF m 9 #[.val (.int p0), .val (.int p1), .val (.int p2), .val (.int p3), .val (.int p4), .val (.int p5), .val (.int (0 : Int32)), .unset, .unset, .unset, .unset, .unset, .unset] [(.ref b1)]))
    refine own_go (fun _ k => XS.astore X1.here hx rfl (hb hby at_9) rfl rfl (l' := #[.val (.int p0), .val (.int p1), .val (.int p2), .val (.int p3), .val (.int p4), .val (.int p5), .val (.int (0 : Int32)), .val (.ref b1), .unset, .unset, .unset, .unset, .unset]) rfl k) ?_
    show own_Go p.tables e below _ (T1.setTop (mkF m 11 #[.val (.int p0), .val (.int p1), .val (.int p2), .val (.int p3), .val (.int p4), .val (.int p5), .val (.int (0 : Int32)), .val (.ref b1), .unset, .unset, .unset, .unset, .unset] []))
    refine own_go (fun _ k => XS.iload X1.here hx rfl (hb hby at_11) rfl k) ?_
    show own_Go p.tables e below _ (T1.setTop (mkF m 13 #[.val (.int p0), .val (.int p1), .val (.int p2), .val (.int p3), .val (.int p4), .val (.int p5), .val (.int (0 : Int32)), .val (.ref b1), .unset, .unset, .unset, .unset, .unset] [(.int (0 : Int32))]))
    have hf13 : ¬ ((0 : Int32) < (0 : Int32)) := by decide
    refine own_go (fun _ k => XS.ifYes X1.here hx rfl (pc0 := 13) (pc' := 22) rfl (hb hby at_13) rfl ((if0 _ _).trans (flt hf13).2.2.2) (by decide) (by decide) k) ?_
    show own_Go p.tables e below _ (T1.setTop (mkF m 22 #[.val (.int p0), .val (.int p1), .val (.int p2), .val (.int p3), .val (.int p4), .val (.int p5), .val (.int (0 : Int32)), .val (.ref b1), .unset, .unset, .unset, .unset, .unset] []))
    refine own_go (fun _ k => XS.iload X1.here hx rfl (hb hby at_22) rfl k) ?_
    show own_Go p.tables e below _ (T1.setTop (mkF m 24 #[.val (.int p0), .val (.int p1), .val (.int p2), .val (.int p3), .val (.int p4), .val (.int p5), .val (.int (0 : Int32)), .val (.ref b1), .unset, .unset, .unset, .unset, .unset] [(.int (0 : Int32))]))
    refine own_go (fun _ k => XS.iconst X1.here hx rfl (hb hby at_24) k) ?_
    show own_Go p.tables e below _ (T1.setTop (mkF m 25 #[.val (.int p0), .val (.int p1), .val (.int p2), .val (.int p3), .val (.int p4), .val (.int p5), .val (.int (0 : Int32)), .val (.ref b1), .unset, .unset, .unset, .unset, .unset] [(.int (1 : Int32)), (.int (0 : Int32))]))
    have hf25 : ¬ ((1 : Int32) < (0 : Int32)) := by decide
    refine own_go (fun _ k => XS.icmpYes X1.here hx rfl (pc0 := 25) (pc' := 34) rfl (hb hby at_25) rfl (flt hf25).2.2.2 (by decide) (by decide) k) ?_
    show own_Go p.tables e below _ (T1.setTop (mkF m 34 #[.val (.int p0), .val (.int p1), .val (.int p2), .val (.int p3), .val (.int p4), .val (.int p5), .val (.int (0 : Int32)), .val (.ref b1), .unset, .unset, .unset, .unset, .unset] []))
    refine own_go (fun _ k => XS.iload X1.here hx rfl (hb hby at_34) rfl k) ?_
    show own_Go p.tables e below _ (T1.setTop (mkF m 36 #[.val (.int p0), .val (.int p1), .val (.int p2), .val (.int p3), .val (.int p4), .val (.int p5), .val (.int (0 : Int32)), .val (.ref b1), .unset, .unset, .unset, .unset, .unset] [(.int (0 : Int32))]))
    refine own_go (fun _ k => XS.iconst X1.here hx rfl (hb hby at_36) k) ?_
    show own_Go p.tables e below _ (T1.setTop (mkF m 37 #[.val (.int p0), .val (.int p1), .val (.int p2), .val (.int p3), .val (.int p4), .val (.int p5), .val (.int (0 : Int32)), .val (.ref b1), .unset, .unset, .unset, .unset, .unset] [(.int (2 : Int32)), (.int (0 : Int32))]))
    have hf37 : ¬ ((2 : Int32) < (0 : Int32)) := by decide
    refine own_go (fun _ k => XS.icmpYes X1.here hx rfl (pc0 := 37) (pc' := 46) rfl (hb hby at_37) rfl (flt hf37).2.2.2 (by decide) (by decide) k) ?_
    show own_Go p.tables e below _ (T1.setTop (mkF m 46 #[.val (.int p0), .val (.int p1), .val (.int p2), .val (.int p3), .val (.int p4), .val (.int p5), .val (.int (0 : Int32)), .val (.ref b1), .unset, .unset, .unset, .unset, .unset] []))
    refine own_go (fun _ k => XS.iload X1.here hx rfl (hb hby at_46) rfl k) ?_
    show own_Go p.tables e below _ (T1.setTop (mkF m 48 #[.val (.int p0), .val (.int p1), .val (.int p2), .val (.int p3), .val (.int p4), .val (.int p5), .val (.int (0 : Int32)), .val (.ref b1), .unset, .unset, .unset, .unset, .unset] [(.int p5)]))
    refine own_go (fun _ k => XS.iconst X1.here hx rfl (hb hby at_48) k) ?_
    show own_Go p.tables e below _ (T1.setTop (mkF m 49 #[.val (.int p0), .val (.int p1), .val (.int p2), .val (.int p3), .val (.int p4), .val (.int p5), .val (.int (0 : Int32)), .val (.ref b1), .unset, .unset, .unset, .unset, .unset] [(.int (1 : Int32)), (.int p5)]))
    refine own_go (fun _ k => XS.iand X1.here hx rfl (hb hby at_49) rfl k) ?_
    show own_Go p.tables e below _ (T1.setTop (mkF m 50 #[.val (.int p0), .val (.int p1), .val (.int p2), .val (.int p3), .val (.int p4), .val (.int p5), .val (.int (0 : Int32)), .val (.ref b1), .unset, .unset, .unset, .unset, .unset] [(.int (p5 &&& (1 : Int32)))]))
    have sg2 : ∀ t, Steps p.tables e below (T1.setTop (mkF m 58 #[.val (.int p0), .val (.int p1), .val (.int p2), .val (.int p3), .val (.int p4), .val (.int p5), .val (.int (0 : Int32)), .val (.ref b1), .unset, .unset, .unset, .unset, .unset] [(.int (if (p5 &&& (1 : Int32)) = (0 : Int32) then (0 : Int32) else (1 : Int32)))])) t → Steps p.tables e below (T1.setTop (mkF m 50 #[.val (.int p0), .val (.int p1), .val (.int p2), .val (.int p3), .val (.int p4), .val (.int p5), .val (.int (0 : Int32)), .val (.ref b1), .unset, .unset, .unset, .unset, .unset] [(.int (p5 &&& (1 : Int32)))])) t := by
      intro t k
      by_cases hc50 : (p5 &&& (1 : Int32)) = (0 : Int32)
      · try simp only [if_pos hc50] at k
        refine XS.ifYes X1.here hx rfl (pc0 := 50) (pc' := 57) rfl (hb hby at_50) rfl ((if0 _ _).trans (teq hc50).1) (by decide) (by decide) ?_
        show Steps p.tables e below (T1.setTop (mkF m 57 #[.val (.int p0), .val (.int p1), .val (.int p2), .val (.int p3), .val (.int p4), .val (.int p5), .val (.int (0 : Int32)), .val (.ref b1), .unset, .unset, .unset, .unset, .unset] [])) _
        refine XS.iconst X1.here hx rfl (hb hby at_57) ?_
        show Steps p.tables e below (T1.setTop (mkF m 58 #[.val (.int p0), .val (.int p1), .val (.int p2), .val (.int p3), .val (.int p4), .val (.int p5), .val (.int (0 : Int32)), .val (.ref b1), .unset, .unset, .unset, .unset, .unset] [(.int (0 : Int32))])) _
        exact k
      · try simp only [if_neg hc50] at k
        refine XS.ifNo X1.here hx rfl (hb hby at_50) rfl ((if0 _ _).trans (feq hc50).1) ?_
        show Steps p.tables e below (T1.setTop (mkF m 53 #[.val (.int p0), .val (.int p1), .val (.int p2), .val (.int p3), .val (.int p4), .val (.int p5), .val (.int (0 : Int32)), .val (.ref b1), .unset, .unset, .unset, .unset, .unset] [])) _
        refine XS.iconst X1.here hx rfl (hb hby at_53) ?_
        show Steps p.tables e below (T1.setTop (mkF m 54 #[.val (.int p0), .val (.int p1), .val (.int p2), .val (.int p3), .val (.int p4), .val (.int p5), .val (.int (0 : Int32)), .val (.ref b1), .unset, .unset, .unset, .unset, .unset] [(.int (1 : Int32))])) _
        refine XS.goto X1.here hx rfl (pc0 := 54) (pc' := 58) rfl (hb hby at_54) (by decide) (by decide) ?_
        show Steps p.tables e below (T1.setTop (mkF m 58 #[.val (.int p0), .val (.int p1), .val (.int p2), .val (.int p3), .val (.int p4), .val (.int p5), .val (.int (0 : Int32)), .val (.ref b1), .unset, .unset, .unset, .unset, .unset] [(.int (1 : Int32))])) _
        exact k
    refine own_go sg2 ?_
    show own_Go p.tables e below _ (T1.setTop (mkF m 58 #[.val (.int p0), .val (.int p1), .val (.int p2), .val (.int p3), .val (.int p4), .val (.int p5), .val (.int (0 : Int32)), .val (.ref b1), .unset, .unset, .unset, .unset, .unset] [(.int (if (p5 &&& (1 : Int32)) = (0 : Int32) then (0 : Int32) else (1 : Int32)))]))
    refine own_go (fun _ k => XS.istore X1.here hx rfl (hb hby at_58) rfl (l' := #[.val (.int p0), .val (.int p1), .val (.int p2), .val (.int p3), .val (.int p4), .val (.int p5), .val (.int (0 : Int32)), .val (.ref b1), .val (.int (if (p5 &&& (1 : Int32)) = (0 : Int32) then (0 : Int32) else (1 : Int32))), .unset, .unset, .unset, .unset]) rfl k) ?_
    show own_Go p.tables e below _ (T1.setTop (mkF m 60 #[.val (.int p0), .val (.int p1), .val (.int p2), .val (.int p3), .val (.int p4), .val (.int p5), .val (.int (0 : Int32)), .val (.ref b1), .val (.int (if (p5 &&& (1 : Int32)) = (0 : Int32) then (0 : Int32) else (1 : Int32))), .unset, .unset, .unset, .unset] []))
    obtain ⟨T3, h3, X3, e3, E3, A3, D3, -, st3⟩ := newO X1 hx hZ hown (hw _ (List.mem_of_getElem? (i := 1) rfl)) (hw _ (List.mem_of_getElem? (i := 2) rfl)) (hw _ (List.mem_of_getElem? (i := 3) rfl)) e1 (g := (mkF m 60 #[.val (.int p0), .val (.int p1), .val (.int p2), .val (.int p3), .val (.int p4), .val (.int p5), .val (.int (0 : Int32)), .val (.ref b1), .val (.int (if (p5 &&& (1 : Int32)) = (0 : Int32) then (0 : Int32) else (1 : Int32))), .unset, .unset, .unset, .unset] [])) rfl (hb hby at_60) (by decide) (by decide)
    obtain ⟨b3, g3⟩ : ∃ z, z = h1.size := ⟨_, rfl⟩
    rw [← g3] at A3 D3 st3
    have g_b3 : n0 ≤ b3 := Nat.le_trans Z1 (Nat.le_of_eq g3.symm)
    have ne_b1_b3 : b1 ≠ b3 := Nat.ne_of_lt (Nat.lt_of_lt_of_le V1.lt (Nat.le_of_eq g3.symm))
    have c3_1 := V1.ext E3
    have Z3 : n0 ≤ h3.size := Nat.le_trans Z1 E3.1
    have F3_11 : Fld Z h3 b3 "com/example/labframe/labframe/wire/Frame" "bytes" "[B" .null := D3 (Or.inr (hw _ (List.mem_of_getElem? (i := 11) rfl))) (ty := (.array .byte)) (by decide)
    have F3_13 : Fld Z h3 b3 "com/example/labframe/labframe/wire/Frame" "end" "I" (.int (0 : Int32)) := D3 (Or.inr (hw _ (List.mem_of_getElem? (i := 13) rfl))) (ty := .int) (by decide)
    have F3_15 : Fld Z h3 b3 "com/example/labframe/labframe/wire/Frame" "endsRecord" "Z" (.int (0 : Int32)) := D3 (Or.inr (hw _ (List.mem_of_getElem? (i := 15) rfl))) (ty := .boolean) (by decide)
    refine own_go st3 ?_
    show own_Go p.tables e below _ (T3.setTop (mkF m 63 #[.val (.int p0), .val (.int p1), .val (.int p2), .val (.int p3), .val (.int p4), .val (.int p5), .val (.int (0 : Int32)), .val (.ref b1), .val (.int (if (p5 &&& (1 : Int32)) = (0 : Int32) then (0 : Int32) else (1 : Int32))), .unset, .unset, .unset, .unset] [(.ref b3)]))
    refine own_go (fun _ k => XS.dup X3.here hx rfl (hb hby at_63) rfl rfl k) ?_
    show own_Go p.tables e below _ (T3.setTop (mkF m 64 #[.val (.int p0), .val (.int p1), .val (.int p2), .val (.int p3), .val (.int p4), .val (.int p5), .val (.int (0 : Int32)), .val (.ref b1), .val (.int (if (p5 &&& (1 : Int32)) = (0 : Int32) then (0 : Int32) else (1 : Int32))), .unset, .unset, .unset, .unset] [(.ref b3), (.ref b3)]))
    refine own_go (fun _ k => XS.aload X3.here hx rfl (hb hby at_64) rfl rfl k) ?_
    show own_Go p.tables e below _ (T3.setTop (mkF m 66 #[.val (.int p0), .val (.int p1), .val (.int p2), .val (.int p3), .val (.int p4), .val (.int p5), .val (.int (0 : Int32)), .val (.ref b1), .val (.int (if (p5 &&& (1 : Int32)) = (0 : Int32) then (0 : Int32) else (1 : Int32))), .unset, .unset, .unset, .unset] [(.ref b1), (.ref b3), (.ref b3)]))
    refine own_go (fun _ k => XS.iload X3.here hx rfl (hb hby at_66) rfl k) ?_
    show own_Go p.tables e below _ (T3.setTop (mkF m 68 #[.val (.int p0), .val (.int p1), .val (.int p2), .val (.int p3), .val (.int p4), .val (.int p5), .val (.int (0 : Int32)), .val (.ref b1), .val (.int (if (p5 &&& (1 : Int32)) = (0 : Int32) then (0 : Int32) else (1 : Int32))), .unset, .unset, .unset, .unset] [(.int p4), (.ref b1), (.ref b3), (.ref b3)]))
    refine own_go (fun _ k => XS.iload X3.here hx rfl (hb hby at_68) rfl k) ?_
    show own_Go p.tables e below _ (T3.setTop (mkF m 70 #[.val (.int p0), .val (.int p1), .val (.int p2), .val (.int p3), .val (.int p4), .val (.int p5), .val (.int (0 : Int32)), .val (.ref b1), .val (.int (if (p5 &&& (1 : Int32)) = (0 : Int32) then (0 : Int32) else (1 : Int32))), .unset, .unset, .unset, .unset] [(.int (if (p5 &&& (1 : Int32)) = (0 : Int32) then (0 : Int32) else (1 : Int32))), (.int p4), (.ref b1), (.ref b3), (.ref b3)]))
    obtain ⟨_, _, ⟨T4, L4, k4, n4⟩, -, X4, ⟨Lc4, hQ4, l4, y4, z4⟩, st4⟩ := X3.specialBack hx (y := (⟨"com/example/labframe/labframe/wire/Frame", "<init>", "([BIZ)V"⟩ : MethodName)) rfl hown (mvT hZ (hw _ (List.mem_of_getElem? (i := 4) rfl))) (mvT hZ (hw _ (List.mem_of_getElem? (i := 5) rfl))) (mvT hZ (hw _ (List.mem_of_getElem? (i := 6) rfl))) (by decide) (backOf (W := 1) (rm1 l Z az hw [] b3 b1 p4 (if (p5 &&& (1 : Int32)) = (0 : Int32) then (0 : Int32) else (1 : Int32)) h3 n0 Z3 F3_11 F3_13 F3_15 A3 g_b3) hZ (hw _ (List.mem_of_getElem? (i := 6) rfl)) (hw _ (List.mem_of_getElem? (i := 3) rfl)) (by decide) (by decide)) (g := (mkF m 70 #[.val (.int p0), .val (.int p1), .val (.int p2), .val (.int p3), .val (.int p4), .val (.int p5), .val (.int (0 : Int32)), .val (.ref b1), .val (.int (if (p5 &&& (1 : Int32)) = (0 : Int32) then (0 : Int32) else (1 : Int32))), .unset, .unset, .unset, .unset] [(.int (if (p5 &&& (1 : Int32)) = (0 : Int32) then (0 : Int32) else (1 : Int32))), (.int p4), (.ref b1), (.ref b3), (.ref b3)])) rfl (by rw [hml]; rfl) (Steps.refl _) (a := b3) (argsL := [(.ref b1), (.int p4), (.int (if (p5 &&& (1 : Int32)) = (0 : Int32) then (0 : Int32) else (1 : Int32)))]) (rest := [(.ref b3)]) (lenOf pd0_0 rfl) rfl (by show 2 * 0 + _ ≤ _; exact Nat.le_of_eq rfl) (hb hby at_70) (fun _ _ => ⟨rfl, e3, (by decide : 2 + 0 ≤ _), (by decide : 3 + 0 ≤ _)⟩)
    dsimp only [Pt.U, Pt.locs, Pt.cells, Pt.slots] at X4 l4 y4 z4 st4 hQ4
    subst l4 y4 z4
    refine own_go (fun _ k => st4.trans k) ?_
    obtain ⟨rfl, N4q, K4, E4_, F4_0, F4_1, F4_2⟩ := hQ4
    have N4 := Fr.app N0 N4q
    have c4_1 := c3_1.keep K4 (fun q => by simp only [List.mem_cons, List.not_mem_nil, or_false] at q; exact ne_b1_b3 q)
    have Z4 : n0 ≤ T4.heap.size := Nat.le_trans Z3 K4.1
    show own_Go p.tables e below _ (T4.setTop (mkF m 73 #[.val (.int p0), .val (.int p1), .val (.int p2), .val (.int p3), .val (.int p4), .val (.int p5), .val (.int (0 : Int32)), .val (.ref b1), .val (.int (if (p5 &&& (1 : Int32)) = (0 : Int32) then (0 : Int32) else (1 : Int32))), .unset, .unset, .unset, .unset] [(.ref b3)]))
    refine own_go (fun _ k => XS.astore X4.here hx rfl (hb hby at_73) rfl rfl (l' := #[.val (.int p0), .val (.int p1), .val (.int p2), .val (.int p3), .val (.int p4), .val (.int p5), .val (.int (0 : Int32)), .val (.ref b1), .val (.int (if (p5 &&& (1 : Int32)) = (0 : Int32) then (0 : Int32) else (1 : Int32))), .val (.ref b3), .unset, .unset, .unset]) rfl k) ?_
    show own_Go p.tables e below _ (T4.setTop (mkF m 75 #[.val (.int p0), .val (.int p1), .val (.int p2), .val (.int p3), .val (.int p4), .val (.int p5), .val (.int (0 : Int32)), .val (.ref b1), .val (.int (if (p5 &&& (1 : Int32)) = (0 : Int32) then (0 : Int32) else (1 : Int32))), .val (.ref b3), .unset, .unset, .unset] []))
    refine own_go (fun _ k => XS.iload X4.here hx rfl (hb hby at_75) rfl k) ?_
    show own_Go p.tables e below _ (T4.setTop (mkF m 77 #[.val (.int p0), .val (.int p1), .val (.int p2), .val (.int p3), .val (.int p4), .val (.int p5), .val (.int (0 : Int32)), .val (.ref b1), .val (.int (if (p5 &&& (1 : Int32)) = (0 : Int32) then (0 : Int32) else (1 : Int32))), .val (.ref b3), .unset, .unset, .unset] [(.int (0 : Int32))]))
    refine own_go (fun _ k => XS.iloadN X4.here hx rfl (hb hby at_77) rfl k) ?_
    show own_Go p.tables e below _ (T4.setTop (mkF m 78 #[.val (.int p0), .val (.int p1), .val (.int p2), .val (.int p3), .val (.int p4), .val (.int p5), .val (.int (0 : Int32)), .val (.ref b1), .val (.int (if (p5 &&& (1 : Int32)) = (0 : Int32) then (0 : Int32) else (1 : Int32))), .val (.ref b3), .unset, .unset, .unset] [(.int p2), (.int (0 : Int32))]))
    refine own_go (fun _ k => XS.i2b X4.here hx rfl (hb hby at_78) rfl k) ?_
    show own_Go p.tables e below _ (T4.setTop (mkF m 79 #[.val (.int p0), .val (.int p1), .val (.int p2), .val (.int p3), .val (.int p4), .val (.int p5), .val (.int (0 : Int32)), .val (.ref b1), .val (.int (if (p5 &&& (1 : Int32)) = (0 : Int32) then (0 : Int32) else (1 : Int32))), .val (.ref b3), .unset, .unset, .unset] [(.int (p2.toInt8.toInt32)), (.int (0 : Int32))]))
    obtain ⟨_, _, ⟨T5, L5, k5, n5⟩, -, X5, ⟨Lc5, hQ5, l5, y5, z5⟩, st5⟩ := Jvm.LawKit.callS X4 hx (y := (⟨"com/example/labframe/labframe/wire/FrameNumberPinLaw", "expected", "(IB)I"⟩ : MethodName)) hown (mvT hZ (hw _ (List.mem_of_getElem? (i := 16) rfl))) (mvT hZ (hw _ (List.mem_of_getElem? (i := 17) rfl))) (mvT hZ (hw _ (List.mem_of_getElem? (i := 18) rfl))) (mvT hZ (hw _ (List.mem_of_getElem? (i := 19) rfl))) (by decide) (backOf (W := 0) (rm2 l Z az hw [] (0 : Int32) (p2.toInt8.toInt32) T4.heap n0 Z4) hZ (hw _ (List.mem_of_getElem? (i := 19) rfl)) (hw _ (List.mem_of_getElem? (i := 18) rfl)) (by decide) (by decide)) (g := (mkF m 79 #[.val (.int p0), .val (.int p1), .val (.int p2), .val (.int p3), .val (.int p4), .val (.int p5), .val (.int (0 : Int32)), .val (.ref b1), .val (.int (if (p5 &&& (1 : Int32)) = (0 : Int32) then (0 : Int32) else (1 : Int32))), .val (.ref b3), .unset, .unset, .unset] [(.int (p2.toInt8.toInt32)), (.int (0 : Int32))])) rfl (by rw [hml]; rfl) (argsL := [(.int (0 : Int32)), (.int (p2.toInt8.toInt32))]) (rest := []) (lenOf pd0_1 rfl) rfl (by show 2 * 0 + _ ≤ _; exact Nat.le_of_eq rfl) (hb hby at_79) (fun _ _ => ⟨rfl, rfl, (by decide : 2 + 0 ≤ _), (by decide : 3 + 0 ≤ _)⟩)
    dsimp only [Pt.U, Pt.locs, Pt.cells, Pt.slots] at X5 l5 y5 z5 st5 hQ5
    subst l5 y5 z5
    refine own_go st5 ?_
    obtain ⟨rfl, N5q, e5⟩ := hQ5
    have N5 := Fr.app N4 N5q
    show own_Go p.tables e below _ (T5.setTop (mkF m 82 #[.val (.int p0), .val (.int p1), .val (.int p2), .val (.int p3), .val (.int p4), .val (.int p5), .val (.int (0 : Int32)), .val (.ref b1), .val (.int (if (p5 &&& (1 : Int32)) = (0 : Int32) then (0 : Int32) else (1 : Int32))), .val (.ref b3), .unset, .unset, .unset] [(.int (own_f2 (0 : Int32) (p2.toInt8.toInt32)))]))
    refine own_go (fun _ k => XS.istore X5.here hx rfl (hb hby at_82) rfl (l' := #[.val (.int p0), .val (.int p1), .val (.int p2), .val (.int p3), .val (.int p4), .val (.int p5), .val (.int (0 : Int32)), .val (.ref b1), .val (.int (if (p5 &&& (1 : Int32)) = (0 : Int32) then (0 : Int32) else (1 : Int32))), .val (.ref b3), .val (.int (own_f2 (0 : Int32) (p2.toInt8.toInt32))), .unset, .unset]) rfl k) ?_
    show own_Go p.tables e below _ (T5.setTop (mkF m 84 #[.val (.int p0), .val (.int p1), .val (.int p2), .val (.int p3), .val (.int p4), .val (.int p5), .val (.int (0 : Int32)), .val (.ref b1), .val (.int (if (p5 &&& (1 : Int32)) = (0 : Int32) then (0 : Int32) else (1 : Int32))), .val (.ref b3), .val (.int (own_f2 (0 : Int32) (p2.toInt8.toInt32))), .unset, .unset] []))
    refine own_go (fun _ k => XS.aload X5.here hx rfl (hb hby at_84) rfl rfl k) ?_
    show own_Go p.tables e below _ (T5.setTop (mkF m 86 #[.val (.int p0), .val (.int p1), .val (.int p2), .val (.int p3), .val (.int p4), .val (.int p5), .val (.int (0 : Int32)), .val (.ref b1), .val (.int (if (p5 &&& (1 : Int32)) = (0 : Int32) then (0 : Int32) else (1 : Int32))), .val (.ref b3), .val (.int (own_f2 (0 : Int32) (p2.toInt8.toInt32))), .unset, .unset] [(.ref b3)]))
    obtain ⟨cq6, kq6, q6a, q6b, q6c⟩ := isOf hZ (e5 : T5.heap = T4.heap) E4_
    obtain ⟨_, _, ⟨T6, L6, k6, n6⟩, -, X6, ⟨Lc6, hQ6, l6, y6, z6⟩, st6⟩ := X5.virtualBack hx (y := (⟨"com/example/labframe/labframe/wire/Frame", "number", "()I"⟩ : MethodName)) (z := (⟨"com/example/labframe/labframe/wire/Frame", "number", "()I"⟩ : MethodName)) hown (mvT hZ (hw _ (List.mem_of_getElem? (i := 20) rfl))) (mvT hZ (hw _ (List.mem_of_getElem? (i := 21) rfl))) (notFace_of_selects (args := #[]) (mvT hZ (hw _ (List.mem_of_getElem? (i := 23) rfl)))) (mvT hZ (hw _ (List.mem_of_getElem? (i := 23) rfl))) (mvT hZ (hw _ (List.mem_of_getElem? (i := 22) rfl))) (by decide) (backOf (W := 0) (rm3 l Z az hw [] b3 b1 k1 (0 : Int32) [] T4.heap n0 Z4 F4_0 c4_1) hZ (hw _ (List.mem_of_getElem? (i := 24) rfl)) (hw _ (List.mem_of_getElem? (i := 3) rfl)) (by decide) (by decide)) q6a q6c (g := (mkF m 86 #[.val (.int p0), .val (.int p1), .val (.int p2), .val (.int p3), .val (.int p4), .val (.int p5), .val (.int (0 : Int32)), .val (.ref b1), .val (.int (if (p5 &&& (1 : Int32)) = (0 : Int32) then (0 : Int32) else (1 : Int32))), .val (.ref b3), .val (.int (own_f2 (0 : Int32) (p2.toInt8.toInt32))), .unset, .unset] [(.ref b3)])) rfl (by rw [hml]; rfl) (Steps.refl _) (argsL := []) (rest := []) (lenOf pd0_2 rfl) rfl (by show 2 * 0 + _ ≤ _; exact Nat.le_of_eq rfl) (hb hby at_86) (fun _ _ => ⟨rfl, (e5 : T5.heap = T4.heap), (by decide : 2 + 0 ≤ _), (by decide : 3 + 0 ≤ _)⟩)
    dsimp only [Pt.U, Pt.locs, Pt.cells, Pt.slots] at X6 l6 y6 z6 st6 hQ6
    subst l6 y6 z6
    refine own_go (fun _ k => st6.trans k) ?_
    obtain ⟨rfl, N6q, e6⟩ := hQ6
    have N6 := Fr.app N5 N6q
    show own_Go p.tables e below _ (T6.setTop (mkF m 89 #[.val (.int p0), .val (.int p1), .val (.int p2), .val (.int p3), .val (.int p4), .val (.int p5), .val (.int (0 : Int32)), .val (.ref b1), .val (.int (if (p5 &&& (1 : Int32)) = (0 : Int32) then (0 : Int32) else (1 : Int32))), .val (.ref b3), .val (.int (own_f2 (0 : Int32) (p2.toInt8.toInt32))), .unset, .unset] [(.int (own_f3 (0 : Int32) []))]))
    refine own_go (fun _ k => XS.istore X6.here hx rfl (hb hby at_89) rfl (l' := #[.val (.int p0), .val (.int p1), .val (.int p2), .val (.int p3), .val (.int p4), .val (.int p5), .val (.int (0 : Int32)), .val (.ref b1), .val (.int (if (p5 &&& (1 : Int32)) = (0 : Int32) then (0 : Int32) else (1 : Int32))), .val (.ref b3), .val (.int (own_f2 (0 : Int32) (p2.toInt8.toInt32))), .val (.int (own_f3 (0 : Int32) [])), .unset]) rfl k) ?_
    show own_Go p.tables e below _ (T6.setTop (mkF m 91 #[.val (.int p0), .val (.int p1), .val (.int p2), .val (.int p3), .val (.int p4), .val (.int p5), .val (.int (0 : Int32)), .val (.ref b1), .val (.int (if (p5 &&& (1 : Int32)) = (0 : Int32) then (0 : Int32) else (1 : Int32))), .val (.ref b3), .val (.int (own_f2 (0 : Int32) (p2.toInt8.toInt32))), .val (.int (own_f3 (0 : Int32) [])), .unset] []))
    refine own_go (fun _ k => XS.aload X6.here hx rfl (hb hby at_91) rfl rfl k) ?_
    show own_Go p.tables e below _ (T6.setTop (mkF m 93 #[.val (.int p0), .val (.int p1), .val (.int p2), .val (.int p3), .val (.int p4), .val (.int p5), .val (.int (0 : Int32)), .val (.ref b1), .val (.int (if (p5 &&& (1 : Int32)) = (0 : Int32) then (0 : Int32) else (1 : Int32))), .val (.ref b3), .val (.int (own_f2 (0 : Int32) (p2.toInt8.toInt32))), .val (.int (own_f3 (0 : Int32) [])), .unset] [(.ref b3)]))
    obtain ⟨cq7, kq7, q7a, q7b, q7c⟩ := isOf hZ (e6 : T6.heap = T4.heap) E4_
    obtain ⟨_, _, ⟨T7, L7, k7, n7⟩, -, X7, ⟨Lc7, hQ7, l7, y7, z7⟩, st7⟩ := X6.virtualBack hx (y := (⟨"com/example/labframe/labframe/wire/Frame", "number", "()I"⟩ : MethodName)) (z := (⟨"com/example/labframe/labframe/wire/Frame", "number", "()I"⟩ : MethodName)) hown (mvT hZ (hw _ (List.mem_of_getElem? (i := 20) rfl))) (mvT hZ (hw _ (List.mem_of_getElem? (i := 21) rfl))) (notFace_of_selects (args := #[]) (mvT hZ (hw _ (List.mem_of_getElem? (i := 23) rfl)))) (mvT hZ (hw _ (List.mem_of_getElem? (i := 23) rfl))) (mvT hZ (hw _ (List.mem_of_getElem? (i := 22) rfl))) (by decide) (backOf (W := 0) (rm3 l Z az hw [] b3 b1 k1 (0 : Int32) [] T4.heap n0 Z4 F4_0 c4_1) hZ (hw _ (List.mem_of_getElem? (i := 24) rfl)) (hw _ (List.mem_of_getElem? (i := 3) rfl)) (by decide) (by decide)) q7a q7c (g := (mkF m 93 #[.val (.int p0), .val (.int p1), .val (.int p2), .val (.int p3), .val (.int p4), .val (.int p5), .val (.int (0 : Int32)), .val (.ref b1), .val (.int (if (p5 &&& (1 : Int32)) = (0 : Int32) then (0 : Int32) else (1 : Int32))), .val (.ref b3), .val (.int (own_f2 (0 : Int32) (p2.toInt8.toInt32))), .val (.int (own_f3 (0 : Int32) [])), .unset] [(.ref b3)])) rfl (by rw [hml]; rfl) (Steps.refl _) (argsL := []) (rest := []) (lenOf pd0_2 rfl) rfl (by show 2 * 0 + _ ≤ _; exact Nat.le_of_eq rfl) (hb hby at_93) (fun _ _ => ⟨rfl, (e6 : T6.heap = T4.heap), (by decide : 2 + 0 ≤ _), (by decide : 3 + 0 ≤ _)⟩)
    dsimp only [Pt.U, Pt.locs, Pt.cells, Pt.slots] at X7 l7 y7 z7 st7 hQ7
    subst l7 y7 z7
    refine own_go (fun _ k => st7.trans k) ?_
    obtain ⟨rfl, N7q, e7⟩ := hQ7
    have N7 := Fr.app N6 N7q
    show own_Go p.tables e below _ (T7.setTop (mkF m 96 #[.val (.int p0), .val (.int p1), .val (.int p2), .val (.int p3), .val (.int p4), .val (.int p5), .val (.int (0 : Int32)), .val (.ref b1), .val (.int (if (p5 &&& (1 : Int32)) = (0 : Int32) then (0 : Int32) else (1 : Int32))), .val (.ref b3), .val (.int (own_f2 (0 : Int32) (p2.toInt8.toInt32))), .val (.int (own_f3 (0 : Int32) [])), .unset] [(.int (own_f3 (0 : Int32) []))]))
    refine own_go (fun _ k => XS.istore X7.here hx rfl (hb hby at_96) rfl (l' := #[.val (.int p0), .val (.int p1), .val (.int p2), .val (.int p3), .val (.int p4), .val (.int p5), .val (.int (0 : Int32)), .val (.ref b1), .val (.int (if (p5 &&& (1 : Int32)) = (0 : Int32) then (0 : Int32) else (1 : Int32))), .val (.ref b3), .val (.int (own_f2 (0 : Int32) (p2.toInt8.toInt32))), .val (.int (own_f3 (0 : Int32) [])), .val (.int (own_f3 (0 : Int32) []))]) rfl k) ?_
    show own_Go p.tables e below _ (T7.setTop (mkF m 98 #[.val (.int p0), .val (.int p1), .val (.int p2), .val (.int p3), .val (.int p4), .val (.int p5), .val (.int (0 : Int32)), .val (.ref b1), .val (.int (if (p5 &&& (1 : Int32)) = (0 : Int32) then (0 : Int32) else (1 : Int32))), .val (.ref b3), .val (.int (own_f2 (0 : Int32) (p2.toInt8.toInt32))), .val (.int (own_f3 (0 : Int32) [])), .val (.int (own_f3 (0 : Int32) []))] []))
    refine own_go (fun _ k => XS.iload X7.here hx rfl (hb hby at_98) rfl k) ?_
    show own_Go p.tables e below _ (T7.setTop (mkF m 100 #[.val (.int p0), .val (.int p1), .val (.int p2), .val (.int p3), .val (.int p4), .val (.int p5), .val (.int (0 : Int32)), .val (.ref b1), .val (.int (if (p5 &&& (1 : Int32)) = (0 : Int32) then (0 : Int32) else (1 : Int32))), .val (.ref b3), .val (.int (own_f2 (0 : Int32) (p2.toInt8.toInt32))), .val (.int (own_f3 (0 : Int32) [])), .val (.int (own_f3 (0 : Int32) []))] [(.int (own_f3 (0 : Int32) []))]))
    refine own_go (fun _ k => XS.iload X7.here hx rfl (hb hby at_100) rfl k) ?_
    show own_Go p.tables e below _ (T7.setTop (mkF m 102 #[.val (.int p0), .val (.int p1), .val (.int p2), .val (.int p3), .val (.int p4), .val (.int p5), .val (.int (0 : Int32)), .val (.ref b1), .val (.int (if (p5 &&& (1 : Int32)) = (0 : Int32) then (0 : Int32) else (1 : Int32))), .val (.ref b3), .val (.int (own_f2 (0 : Int32) (p2.toInt8.toInt32))), .val (.int (own_f3 (0 : Int32) [])), .val (.int (own_f3 (0 : Int32) []))] [(.int (own_f2 (0 : Int32) (p2.toInt8.toInt32))), (.int (own_f3 (0 : Int32) []))]))
    have hf102 : (own_f3 (0 : Int32) []) = (own_f2 (0 : Int32) (p2.toInt8.toInt32)) := (own_v (p := p2) (fun q => absurd q (by decide))).1
    refine own_go (fun _ k => XS.icmpNo X7.here hx rfl (hb hby at_102) rfl (teq hf102).2 k) ?_
    show own_Go p.tables e below _ (T7.setTop (mkF m 105 #[.val (.int p0), .val (.int p1), .val (.int p2), .val (.int p3), .val (.int p4), .val (.int p5), .val (.int (0 : Int32)), .val (.ref b1), .val (.int (if (p5 &&& (1 : Int32)) = (0 : Int32) then (0 : Int32) else (1 : Int32))), .val (.ref b3), .val (.int (own_f2 (0 : Int32) (p2.toInt8.toInt32))), .val (.int (own_f3 (0 : Int32) [])), .val (.int (own_f3 (0 : Int32) []))] []))
    refine own_go (fun _ k => XS.iload X7.here hx rfl (hb hby at_105) rfl k) ?_
    show own_Go p.tables e below _ (T7.setTop (mkF m 107 #[.val (.int p0), .val (.int p1), .val (.int p2), .val (.int p3), .val (.int p4), .val (.int p5), .val (.int (0 : Int32)), .val (.ref b1), .val (.int (if (p5 &&& (1 : Int32)) = (0 : Int32) then (0 : Int32) else (1 : Int32))), .val (.ref b3), .val (.int (own_f2 (0 : Int32) (p2.toInt8.toInt32))), .val (.int (own_f3 (0 : Int32) [])), .val (.int (own_f3 (0 : Int32) []))] [(.int (own_f3 (0 : Int32) []))]))
    refine own_go (fun _ k => XS.iload X7.here hx rfl (hb hby at_107) rfl k) ?_
    show own_Go p.tables e below _ (T7.setTop (mkF m 109 #[.val (.int p0), .val (.int p1), .val (.int p2), .val (.int p3), .val (.int p4), .val (.int p5), .val (.int (0 : Int32)), .val (.ref b1), .val (.int (if (p5 &&& (1 : Int32)) = (0 : Int32) then (0 : Int32) else (1 : Int32))), .val (.ref b3), .val (.int (own_f2 (0 : Int32) (p2.toInt8.toInt32))), .val (.int (own_f3 (0 : Int32) [])), .val (.int (own_f3 (0 : Int32) []))] [(.int (own_f2 (0 : Int32) (p2.toInt8.toInt32))), (.int (own_f3 (0 : Int32) []))]))
    have hf109 : (own_f3 (0 : Int32) []) = (own_f2 (0 : Int32) (p2.toInt8.toInt32)) := (own_v (p := p2) (fun q => absurd q (by decide))).1
    refine own_go (fun _ k => XS.icmpNo X7.here hx rfl (hb hby at_109) rfl (teq hf109).2 k) ?_
    show own_Go p.tables e below _ (T7.setTop (mkF m 112 #[.val (.int p0), .val (.int p1), .val (.int p2), .val (.int p3), .val (.int p4), .val (.int p5), .val (.int (0 : Int32)), .val (.ref b1), .val (.int (if (p5 &&& (1 : Int32)) = (0 : Int32) then (0 : Int32) else (1 : Int32))), .val (.ref b3), .val (.int (own_f2 (0 : Int32) (p2.toInt8.toInt32))), .val (.int (own_f3 (0 : Int32) [])), .val (.int (own_f3 (0 : Int32) []))] []))
    refine own_go (fun _ k => XS.iload X7.here hx rfl (hb hby at_112) rfl k) ?_
    show own_Go p.tables e below _ (T7.setTop (mkF m 114 #[.val (.int p0), .val (.int p1), .val (.int p2), .val (.int p3), .val (.int p4), .val (.int p5), .val (.int (0 : Int32)), .val (.ref b1), .val (.int (if (p5 &&& (1 : Int32)) = (0 : Int32) then (0 : Int32) else (1 : Int32))), .val (.ref b3), .val (.int (own_f2 (0 : Int32) (p2.toInt8.toInt32))), .val (.int (own_f3 (0 : Int32) [])), .val (.int (own_f3 (0 : Int32) []))] [(.int (own_f3 (0 : Int32) []))]))
    refine own_go (fun _ k => XS.iconst X7.here hx rfl (hb hby at_114) k) ?_
    show own_Go p.tables e below _ (T7.setTop (mkF m 115 #[.val (.int p0), .val (.int p1), .val (.int p2), .val (.int p3), .val (.int p4), .val (.int p5), .val (.int (0 : Int32)), .val (.ref b1), .val (.int (if (p5 &&& (1 : Int32)) = (0 : Int32) then (0 : Int32) else (1 : Int32))), .val (.ref b3), .val (.int (own_f2 (0 : Int32) (p2.toInt8.toInt32))), .val (.int (own_f3 (0 : Int32) [])), .val (.int (own_f3 (0 : Int32) []))] [(.int (-1 : Int32)), (.int (own_f3 (0 : Int32) []))]))
    have hf115 : ¬ ((own_f3 (0 : Int32) []) < (-1 : Int32)) := (own_v (p := p2) (fun q => absurd q (by decide))).2.1
    refine own_go (fun _ k => XS.icmpNo X7.here hx rfl (hb hby at_115) rfl (flt hf115).1 k) ?_
    show own_Go p.tables e below _ (T7.setTop (mkF m 118 #[.val (.int p0), .val (.int p1), .val (.int p2), .val (.int p3), .val (.int p4), .val (.int p5), .val (.int (0 : Int32)), .val (.ref b1), .val (.int (if (p5 &&& (1 : Int32)) = (0 : Int32) then (0 : Int32) else (1 : Int32))), .val (.ref b3), .val (.int (own_f2 (0 : Int32) (p2.toInt8.toInt32))), .val (.int (own_f3 (0 : Int32) [])), .val (.int (own_f3 (0 : Int32) []))] []))
    refine own_go (fun _ k => XS.iload X7.here hx rfl (hb hby at_118) rfl k) ?_
    show own_Go p.tables e below _ (T7.setTop (mkF m 120 #[.val (.int p0), .val (.int p1), .val (.int p2), .val (.int p3), .val (.int p4), .val (.int p5), .val (.int (0 : Int32)), .val (.ref b1), .val (.int (if (p5 &&& (1 : Int32)) = (0 : Int32) then (0 : Int32) else (1 : Int32))), .val (.ref b3), .val (.int (own_f2 (0 : Int32) (p2.toInt8.toInt32))), .val (.int (own_f3 (0 : Int32) [])), .val (.int (own_f3 (0 : Int32) []))] [(.int (own_f3 (0 : Int32) []))]))
    refine own_go (fun _ k => XS.bipush X7.here hx rfl (hb hby at_120) k) ?_
    show own_Go p.tables e below _ (T7.setTop (mkF m 122 #[.val (.int p0), .val (.int p1), .val (.int p2), .val (.int p3), .val (.int p4), .val (.int p5), .val (.int (0 : Int32)), .val (.ref b1), .val (.int (if (p5 &&& (1 : Int32)) = (0 : Int32) then (0 : Int32) else (1 : Int32))), .val (.ref b3), .val (.int (own_f2 (0 : Int32) (p2.toInt8.toInt32))), .val (.int (own_f3 (0 : Int32) [])), .val (.int (own_f3 (0 : Int32) []))] [(.int (7 : Int32)), (.int (own_f3 (0 : Int32) []))]))
    have hf122 : ¬ ((7 : Int32) < (own_f3 (0 : Int32) [])) := (own_v (p := p2) (fun q => absurd q (by decide))).2.2
    refine own_go (fun _ k => XS.icmpNo X7.here hx rfl (hb hby at_122) rfl (flt hf122).2.2.1 k) ?_
    show own_Go p.tables e below _ (T7.setTop (mkF m 125 #[.val (.int p0), .val (.int p1), .val (.int p2), .val (.int p3), .val (.int p4), .val (.int p5), .val (.int (0 : Int32)), .val (.ref b1), .val (.int (if (p5 &&& (1 : Int32)) = (0 : Int32) then (0 : Int32) else (1 : Int32))), .val (.ref b3), .val (.int (own_f2 (0 : Int32) (p2.toInt8.toInt32))), .val (.int (own_f3 (0 : Int32) [])), .val (.int (own_f3 (0 : Int32) []))] []))
    refine own_go (fun _ k => XS.iconst X7.here hx rfl (hb hby at_125) k) ?_
    show own_Go p.tables e below _ (T7.setTop (mkF m 126 #[.val (.int p0), .val (.int p1), .val (.int p2), .val (.int p3), .val (.int p4), .val (.int p5), .val (.int (0 : Int32)), .val (.ref b1), .val (.int (if (p5 &&& (1 : Int32)) = (0 : Int32) then (0 : Int32) else (1 : Int32))), .val (.ref b3), .val (.int (own_f2 (0 : Int32) (p2.toInt8.toInt32))), .val (.int (own_f3 (0 : Int32) [])), .val (.int (own_f3 (0 : Int32) []))] [(.int (1 : Int32))]))
    refine own_go (fun _ k => XS.goto X7.here hx rfl (pc0 := 126) (pc' := 130) rfl (hb hby at_126) (by decide) (by decide) k) ?_
    show own_Go p.tables e below _ (T7.setTop (mkF m 130 #[.val (.int p0), .val (.int p1), .val (.int p2), .val (.int p3), .val (.int p4), .val (.int p5), .val (.int (0 : Int32)), .val (.ref b1), .val (.int (if (p5 &&& (1 : Int32)) = (0 : Int32) then (0 : Int32) else (1 : Int32))), .val (.ref b3), .val (.int (own_f2 (0 : Int32) (p2.toInt8.toInt32))), .val (.int (own_f3 (0 : Int32) [])), .val (.int (own_f3 (0 : Int32) []))] [(.int (1 : Int32))]))
    refine own_end X7 Bd.notSynchronized (v := some (.int (1 : Int32))) (fun h => by rw [Bd.returns] at h; cases h) (fun fs hr => retN X7 hx (t := .boolean) Bd.returns (by simp) (hb hby at_130) hr) ?_ (by decide) (by decide)
    exact ⟨rfl, N7⟩
  · subst h4
    show own_Go p.tables e below _ (s₁.setTop (mkF m 5 #[.val (.int p0), .val (.int p1), .val (.int p2), .val (.int p3), .val (.int p4), .val (.int p5), .val (.int (1 : Int32)), .unset, .unset, .unset, .unset, .unset, .unset] []))
    refine own_go (fun _ k => XS.iload X0.here hx rfl (hb hby at_5) rfl k) ?_
    show own_Go p.tables e below _ (s₁.setTop (mkF m 7 #[.val (.int p0), .val (.int p1), .val (.int p2), .val (.int p3), .val (.int p4), .val (.int p5), .val (.int (1 : Int32)), .unset, .unset, .unset, .unset, .unset, .unset] [(.int (1 : Int32))]))
    obtain ⟨T8, h8, k8, X8, e8, E8, A8, st8⟩ := newP X0 hx hZ (hw _ (List.mem_of_getElem? (i := 0) rfl)) e0 (g := (mkF m 7 #[.val (.int p0), .val (.int p1), .val (.int p2), .val (.int p3), .val (.int p4), .val (.int p5), .val (.int (1 : Int32)), .unset, .unset, .unset, .unset, .unset, .unset] [(.int (1 : Int32))])) rfl (hb hby at_7) rfl (by decide) (cap := 1) (by decide) (by decide) (by decide) (by decide)
    obtain ⟨b8, g8⟩ : ∃ z, z = h0.size := ⟨_, rfl⟩
    rw [← g8] at A8 st8
    have g_b8 : n0 ≤ b8 := Nat.le_trans Z0 (Nat.le_of_eq g8.symm)
    have Z8 : n0 ≤ h8.size := Nat.le_trans Z0 E8.1
    have V8 : Arv Z h8 b8 k8 .byte (1 : Int32) [(.int (0 : Int32))] (.int (0 : Int32)) := (Arv.new A8 (by decide)).pad (pad_rep [] (.int (0 : Int32)) 1)
    refine own_go st8 ?_
    show own_Go p.tables e below _ (T8.setTop (mkF m 9 #[.val (.int p0), .val (.int p1), .val (.int p2), .val (.int p3), .val (.int p4), .val (.int p5), .val (.int (1 : Int32)), .unset, .unset, .unset, .unset, .unset, .unset] [(.ref b8)]))
    refine own_go (fun _ k => XS.astore X8.here hx rfl (hb hby at_9) rfl rfl (l' := #[.val (.int p0), .val (.int p1), .val (.int p2), .val (.int p3), .val (.int p4), .val (.int p5), .val (.int (1 : Int32)), .val (.ref b8), .unset, .unset, .unset, .unset, .unset]) rfl k) ?_
    show own_Go p.tables e below _ (T8.setTop (mkF m 11 #[.val (.int p0), .val (.int p1), .val (.int p2), .val (.int p3), .val (.int p4), .val (.int p5), .val (.int (1 : Int32)), .val (.ref b8), .unset, .unset, .unset, .unset, .unset] []))
    refine own_go (fun _ k => XS.iload X8.here hx rfl (hb hby at_11) rfl k) ?_
    show own_Go p.tables e below _ (T8.setTop (mkF m 13 #[.val (.int p0), .val (.int p1), .val (.int p2), .val (.int p3), .val (.int p4), .val (.int p5), .val (.int (1 : Int32)), .val (.ref b8), .unset, .unset, .unset, .unset, .unset] [(.int (1 : Int32))]))
    have hf13 : (0 : Int32) < (1 : Int32) := by decide
    refine own_go (fun _ k => XS.ifNo X8.here hx rfl (hb hby at_13) rfl ((if0 _ _).trans (tlt hf13).2.2.2) k) ?_
    show own_Go p.tables e below _ (T8.setTop (mkF m 16 #[.val (.int p0), .val (.int p1), .val (.int p2), .val (.int p3), .val (.int p4), .val (.int p5), .val (.int (1 : Int32)), .val (.ref b8), .unset, .unset, .unset, .unset, .unset] []))
    refine own_go (fun _ k => XS.aload X8.here hx rfl (hb hby at_16) rfl rfl k) ?_
    show own_Go p.tables e below _ (T8.setTop (mkF m 18 #[.val (.int p0), .val (.int p1), .val (.int p2), .val (.int p3), .val (.int p4), .val (.int p5), .val (.int (1 : Int32)), .val (.ref b8), .unset, .unset, .unset, .unset, .unset] [(.ref b8)]))
    refine own_go (fun _ k => XS.iconst X8.here hx rfl (hb hby at_18) k) ?_
    show own_Go p.tables e below _ (T8.setTop (mkF m 19 #[.val (.int p0), .val (.int p1), .val (.int p2), .val (.int p3), .val (.int p4), .val (.int p5), .val (.int (1 : Int32)), .val (.ref b8), .unset, .unset, .unset, .unset, .unset] [(.int (0 : Int32)), (.ref b8)]))
    refine own_go (fun _ k => XS.iloadN X8.here hx rfl (hb hby at_19) rfl k) ?_
    show own_Go p.tables e below _ (T8.setTop (mkF m 20 #[.val (.int p0), .val (.int p1), .val (.int p2), .val (.int p3), .val (.int p4), .val (.int p5), .val (.int (1 : Int32)), .val (.ref b8), .unset, .unset, .unset, .unset, .unset] [(.int p1), (.int (0 : Int32)), (.ref b8)]))
    refine own_go (fun _ k => XS.i2b X8.here hx rfl (hb hby at_20) rfl k) ?_
    show own_Go p.tables e below _ (T8.setTop (mkF m 21 #[.val (.int p0), .val (.int p1), .val (.int p2), .val (.int p3), .val (.int p4), .val (.int p5), .val (.int (1 : Int32)), .val (.ref b8), .unset, .unset, .unset, .unset, .unset] [(.int (p1.toInt8.toInt32)), (.int (0 : Int32)), (.ref b8)]))
    have vo9 := V8
    obtain ⟨cl9, Ar9, Aq9, AS9, AN9, AH9, AG9⟩ := vo9
    have hin10 : ¬ ((0 : Int32) < 0 ∨ cl9.slots.size ≤ ((0 : Int32)).toNatClampNeg) := inb_of AS9 ⟨by decide, by decide⟩
    obtain ⟨T10, h10, X10, e10, W10, st10⟩ := stB X8 hx hZ e8 Ar9 (j := (0 : Int32)) hin10 (g := (mkF m 21 #[.val (.int p0), .val (.int p1), .val (.int p2), .val (.int p3), .val (.int p4), .val (.int p5), .val (.int (1 : Int32)), .val (.ref b8), .unset, .unset, .unset, .unset, .unset] [(.int (p1.toInt8.toInt32)), (.int (0 : Int32)), (.ref b8)])) rfl rfl (hb hby at_21)
    have V10 : Arv Z h10 b8 k8 .byte (1 : Int32) [(.int ((p1.toInt8.toInt32).toInt8.toInt32))] (.int (0 : Int32)) := Arv.set Ar9 Aq9 AS9 AN9 AH9 AG9 (fits_nar_byte _) W10 0 rfl (Nat.le_of_ble_eq_true rfl)
    have N10 := Fr.snoc X10 N0 g_b8
    have Z10 : n0 ≤ h10.size := Nat.le_trans Z8 (Keep.of_wr W10).1
    refine own_go st10 ?_
    show own_Go p.tables e below _ (T10.setTop (mkF m 22 #[.val (.int p0), .val (.int p1), .val (.int p2), .val (.int p3), .val (.int p4), .val (.int p5), .val (.int (1 : Int32)), .val (.ref b8), .unset, .unset, .unset, .unset, .unset] []))
    refine own_go (fun _ k => XS.iload X10.here hx rfl (hb hby at_22) rfl k) ?_
    show own_Go p.tables e below _ (T10.setTop (mkF m 24 #[.val (.int p0), .val (.int p1), .val (.int p2), .val (.int p3), .val (.int p4), .val (.int p5), .val (.int (1 : Int32)), .val (.ref b8), .unset, .unset, .unset, .unset, .unset] [(.int (1 : Int32))]))
    refine own_go (fun _ k => XS.iconst X10.here hx rfl (hb hby at_24) k) ?_
    show own_Go p.tables e below _ (T10.setTop (mkF m 25 #[.val (.int p0), .val (.int p1), .val (.int p2), .val (.int p3), .val (.int p4), .val (.int p5), .val (.int (1 : Int32)), .val (.ref b8), .unset, .unset, .unset, .unset, .unset] [(.int (1 : Int32)), (.int (1 : Int32))]))
    have hf25 : ¬ ((1 : Int32) < (1 : Int32)) := by decide
    refine own_go (fun _ k => XS.icmpYes X10.here hx rfl (pc0 := 25) (pc' := 34) rfl (hb hby at_25) rfl (flt hf25).2.2.2 (by decide) (by decide) k) ?_
    show own_Go p.tables e below _ (T10.setTop (mkF m 34 #[.val (.int p0), .val (.int p1), .val (.int p2), .val (.int p3), .val (.int p4), .val (.int p5), .val (.int (1 : Int32)), .val (.ref b8), .unset, .unset, .unset, .unset, .unset] []))
    refine own_go (fun _ k => XS.iload X10.here hx rfl (hb hby at_34) rfl k) ?_
    show own_Go p.tables e below _ (T10.setTop (mkF m 36 #[.val (.int p0), .val (.int p1), .val (.int p2), .val (.int p3), .val (.int p4), .val (.int p5), .val (.int (1 : Int32)), .val (.ref b8), .unset, .unset, .unset, .unset, .unset] [(.int (1 : Int32))]))
    refine own_go (fun _ k => XS.iconst X10.here hx rfl (hb hby at_36) k) ?_
    show own_Go p.tables e below _ (T10.setTop (mkF m 37 #[.val (.int p0), .val (.int p1), .val (.int p2), .val (.int p3), .val (.int p4), .val (.int p5), .val (.int (1 : Int32)), .val (.ref b8), .unset, .unset, .unset, .unset, .unset] [(.int (2 : Int32)), (.int (1 : Int32))]))
    have hf37 : ¬ ((2 : Int32) < (1 : Int32)) := by decide
    refine own_go (fun _ k => XS.icmpYes X10.here hx rfl (pc0 := 37) (pc' := 46) rfl (hb hby at_37) rfl (flt hf37).2.2.2 (by decide) (by decide) k) ?_
    show own_Go p.tables e below _ (T10.setTop (mkF m 46 #[.val (.int p0), .val (.int p1), .val (.int p2), .val (.int p3), .val (.int p4), .val (.int p5), .val (.int (1 : Int32)), .val (.ref b8), .unset, .unset, .unset, .unset, .unset] []))
    refine own_go (fun _ k => XS.iload X10.here hx rfl (hb hby at_46) rfl k) ?_
    show own_Go p.tables e below _ (T10.setTop (mkF m 48 #[.val (.int p0), .val (.int p1), .val (.int p2), .val (.int p3), .val (.int p4), .val (.int p5), .val (.int (1 : Int32)), .val (.ref b8), .unset, .unset, .unset, .unset, .unset] [(.int p5)]))
    refine own_go (fun _ k => XS.iconst X10.here hx rfl (hb hby at_48) k) ?_
    show own_Go p.tables e below _ (T10.setTop (mkF m 49 #[.val (.int p0), .val (.int p1), .val (.int p2), .val (.int p3), .val (.int p4), .val (.int p5), .val (.int (1 : Int32)), .val (.ref b8), .unset, .unset, .unset, .unset, .unset] [(.int (1 : Int32)), (.int p5)]))
    refine own_go (fun _ k => XS.iand X10.here hx rfl (hb hby at_49) rfl k) ?_
    show own_Go p.tables e below _ (T10.setTop (mkF m 50 #[.val (.int p0), .val (.int p1), .val (.int p2), .val (.int p3), .val (.int p4), .val (.int p5), .val (.int (1 : Int32)), .val (.ref b8), .unset, .unset, .unset, .unset, .unset] [(.int (p5 &&& (1 : Int32)))]))
    have sg11 : ∀ t, Steps p.tables e below (T10.setTop (mkF m 58 #[.val (.int p0), .val (.int p1), .val (.int p2), .val (.int p3), .val (.int p4), .val (.int p5), .val (.int (1 : Int32)), .val (.ref b8), .unset, .unset, .unset, .unset, .unset] [(.int (if (p5 &&& (1 : Int32)) = (0 : Int32) then (0 : Int32) else (1 : Int32)))])) t → Steps p.tables e below (T10.setTop (mkF m 50 #[.val (.int p0), .val (.int p1), .val (.int p2), .val (.int p3), .val (.int p4), .val (.int p5), .val (.int (1 : Int32)), .val (.ref b8), .unset, .unset, .unset, .unset, .unset] [(.int (p5 &&& (1 : Int32)))])) t := by
      intro t k
      by_cases hc50 : (p5 &&& (1 : Int32)) = (0 : Int32)
      · try simp only [if_pos hc50] at k
        refine XS.ifYes X10.here hx rfl (pc0 := 50) (pc' := 57) rfl (hb hby at_50) rfl ((if0 _ _).trans (teq hc50).1) (by decide) (by decide) ?_
        show Steps p.tables e below (T10.setTop (mkF m 57 #[.val (.int p0), .val (.int p1), .val (.int p2), .val (.int p3), .val (.int p4), .val (.int p5), .val (.int (1 : Int32)), .val (.ref b8), .unset, .unset, .unset, .unset, .unset] [])) _
        refine XS.iconst X10.here hx rfl (hb hby at_57) ?_
        show Steps p.tables e below (T10.setTop (mkF m 58 #[.val (.int p0), .val (.int p1), .val (.int p2), .val (.int p3), .val (.int p4), .val (.int p5), .val (.int (1 : Int32)), .val (.ref b8), .unset, .unset, .unset, .unset, .unset] [(.int (0 : Int32))])) _
        exact k
      · try simp only [if_neg hc50] at k
        refine XS.ifNo X10.here hx rfl (hb hby at_50) rfl ((if0 _ _).trans (feq hc50).1) ?_
        show Steps p.tables e below (T10.setTop (mkF m 53 #[.val (.int p0), .val (.int p1), .val (.int p2), .val (.int p3), .val (.int p4), .val (.int p5), .val (.int (1 : Int32)), .val (.ref b8), .unset, .unset, .unset, .unset, .unset] [])) _
        refine XS.iconst X10.here hx rfl (hb hby at_53) ?_
        show Steps p.tables e below (T10.setTop (mkF m 54 #[.val (.int p0), .val (.int p1), .val (.int p2), .val (.int p3), .val (.int p4), .val (.int p5), .val (.int (1 : Int32)), .val (.ref b8), .unset, .unset, .unset, .unset, .unset] [(.int (1 : Int32))])) _
        refine XS.goto X10.here hx rfl (pc0 := 54) (pc' := 58) rfl (hb hby at_54) (by decide) (by decide) ?_
        show Steps p.tables e below (T10.setTop (mkF m 58 #[.val (.int p0), .val (.int p1), .val (.int p2), .val (.int p3), .val (.int p4), .val (.int p5), .val (.int (1 : Int32)), .val (.ref b8), .unset, .unset, .unset, .unset, .unset] [(.int (1 : Int32))])) _
        exact k
    refine own_go sg11 ?_
    show own_Go p.tables e below _ (T10.setTop (mkF m 58 #[.val (.int p0), .val (.int p1), .val (.int p2), .val (.int p3), .val (.int p4), .val (.int p5), .val (.int (1 : Int32)), .val (.ref b8), .unset, .unset, .unset, .unset, .unset] [(.int (if (p5 &&& (1 : Int32)) = (0 : Int32) then (0 : Int32) else (1 : Int32)))]))
    refine own_go (fun _ k => XS.istore X10.here hx rfl (hb hby at_58) rfl (l' := #[.val (.int p0), .val (.int p1), .val (.int p2), .val (.int p3), .val (.int p4), .val (.int p5), .val (.int (1 : Int32)), .val (.ref b8), .val (.int (if (p5 &&& (1 : Int32)) = (0 : Int32) then (0 : Int32) else (1 : Int32))), .unset, .unset, .unset, .unset]) rfl k) ?_
    show own_Go p.tables e below _ (T10.setTop (mkF m 60 #[.val (.int p0), .val (.int p1), .val (.int p2), .val (.int p3), .val (.int p4), .val (.int p5), .val (.int (1 : Int32)), .val (.ref b8), .val (.int (if (p5 &&& (1 : Int32)) = (0 : Int32) then (0 : Int32) else (1 : Int32))), .unset, .unset, .unset, .unset] []))
    obtain ⟨T12, h12, X12, e12, E12, A12, D12, -, st12⟩ := newO X10 hx hZ hown (hw _ (List.mem_of_getElem? (i := 1) rfl)) (hw _ (List.mem_of_getElem? (i := 2) rfl)) (hw _ (List.mem_of_getElem? (i := 3) rfl)) e10 (g := (mkF m 60 #[.val (.int p0), .val (.int p1), .val (.int p2), .val (.int p3), .val (.int p4), .val (.int p5), .val (.int (1 : Int32)), .val (.ref b8), .val (.int (if (p5 &&& (1 : Int32)) = (0 : Int32) then (0 : Int32) else (1 : Int32))), .unset, .unset, .unset, .unset] [])) rfl (hb hby at_60) (by decide) (by decide)
    obtain ⟨b12, g12⟩ : ∃ z, z = h10.size := ⟨_, rfl⟩
    rw [← g12] at A12 D12 st12
    have g_b12 : n0 ≤ b12 := Nat.le_trans Z10 (Nat.le_of_eq g12.symm)
    have ne_b8_b12 : b8 ≠ b12 := Nat.ne_of_lt (Nat.lt_of_lt_of_le V10.lt (Nat.le_of_eq g12.symm))
    have c12_1 := V10.ext E12
    have Z12 : n0 ≤ h12.size := Nat.le_trans Z10 E12.1
    have F12_11 : Fld Z h12 b12 "com/example/labframe/labframe/wire/Frame" "bytes" "[B" .null := D12 (Or.inr (hw _ (List.mem_of_getElem? (i := 11) rfl))) (ty := (.array .byte)) (by decide)
    have F12_13 : Fld Z h12 b12 "com/example/labframe/labframe/wire/Frame" "end" "I" (.int (0 : Int32)) := D12 (Or.inr (hw _ (List.mem_of_getElem? (i := 13) rfl))) (ty := .int) (by decide)
    have F12_15 : Fld Z h12 b12 "com/example/labframe/labframe/wire/Frame" "endsRecord" "Z" (.int (0 : Int32)) := D12 (Or.inr (hw _ (List.mem_of_getElem? (i := 15) rfl))) (ty := .boolean) (by decide)
    refine own_go st12 ?_
    show own_Go p.tables e below _ (T12.setTop (mkF m 63 #[.val (.int p0), .val (.int p1), .val (.int p2), .val (.int p3), .val (.int p4), .val (.int p5), .val (.int (1 : Int32)), .val (.ref b8), .val (.int (if (p5 &&& (1 : Int32)) = (0 : Int32) then (0 : Int32) else (1 : Int32))), .unset, .unset, .unset, .unset] [(.ref b12)]))
    refine own_go (fun _ k => XS.dup X12.here hx rfl (hb hby at_63) rfl rfl k) ?_
    show own_Go p.tables e below _ (T12.setTop (mkF m 64 #[.val (.int p0), .val (.int p1), .val (.int p2), .val (.int p3), .val (.int p4), .val (.int p5), .val (.int (1 : Int32)), .val (.ref b8), .val (.int (if (p5 &&& (1 : Int32)) = (0 : Int32) then (0 : Int32) else (1 : Int32))), .unset, .unset, .unset, .unset] [(.ref b12), (.ref b12)]))
    refine own_go (fun _ k => XS.aload X12.here hx rfl (hb hby at_64) rfl rfl k) ?_
    show own_Go p.tables e below _ (T12.setTop (mkF m 66 #[.val (.int p0), .val (.int p1), .val (.int p2), .val (.int p3), .val (.int p4), .val (.int p5), .val (.int (1 : Int32)), .val (.ref b8), .val (.int (if (p5 &&& (1 : Int32)) = (0 : Int32) then (0 : Int32) else (1 : Int32))), .unset, .unset, .unset, .unset] [(.ref b8), (.ref b12), (.ref b12)]))
    refine own_go (fun _ k => XS.iload X12.here hx rfl (hb hby at_66) rfl k) ?_
    show own_Go p.tables e below _ (T12.setTop (mkF m 68 #[.val (.int p0), .val (.int p1), .val (.int p2), .val (.int p3), .val (.int p4), .val (.int p5), .val (.int (1 : Int32)), .val (.ref b8), .val (.int (if (p5 &&& (1 : Int32)) = (0 : Int32) then (0 : Int32) else (1 : Int32))), .unset, .unset, .unset, .unset] [(.int p4), (.ref b8), (.ref b12), (.ref b12)]))
    refine own_go (fun _ k => XS.iload X12.here hx rfl (hb hby at_68) rfl k) ?_
    show own_Go p.tables e below _ (T12.setTop (mkF m 70 #[.val (.int p0), .val (.int p1), .val (.int p2), .val (.int p3), .val (.int p4), .val (.int p5), .val (.int (1 : Int32)), .val (.ref b8), .val (.int (if (p5 &&& (1 : Int32)) = (0 : Int32) then (0 : Int32) else (1 : Int32))), .unset, .unset, .unset, .unset] [(.int (if (p5 &&& (1 : Int32)) = (0 : Int32) then (0 : Int32) else (1 : Int32))), (.int p4), (.ref b8), (.ref b12), (.ref b12)]))
    obtain ⟨_, _, ⟨T13, L13, k13, n13⟩, -, X13, ⟨Lc13, hQ13, l13, y13, z13⟩, st13⟩ := X12.specialBack hx (y := (⟨"com/example/labframe/labframe/wire/Frame", "<init>", "([BIZ)V"⟩ : MethodName)) rfl hown (mvT hZ (hw _ (List.mem_of_getElem? (i := 4) rfl))) (mvT hZ (hw _ (List.mem_of_getElem? (i := 5) rfl))) (mvT hZ (hw _ (List.mem_of_getElem? (i := 6) rfl))) (by decide) (backOf (W := 1) (rm1 l Z az hw [] b12 b8 p4 (if (p5 &&& (1 : Int32)) = (0 : Int32) then (0 : Int32) else (1 : Int32)) h12 n0 Z12 F12_11 F12_13 F12_15 A12 g_b12) hZ (hw _ (List.mem_of_getElem? (i := 6) rfl)) (hw _ (List.mem_of_getElem? (i := 3) rfl)) (by decide) (by decide)) (g := (mkF m 70 #[.val (.int p0), .val (.int p1), .val (.int p2), .val (.int p3), .val (.int p4), .val (.int p5), .val (.int (1 : Int32)), .val (.ref b8), .val (.int (if (p5 &&& (1 : Int32)) = (0 : Int32) then (0 : Int32) else (1 : Int32))), .unset, .unset, .unset, .unset] [(.int (if (p5 &&& (1 : Int32)) = (0 : Int32) then (0 : Int32) else (1 : Int32))), (.int p4), (.ref b8), (.ref b12), (.ref b12)])) rfl (by rw [hml]; rfl) (Steps.refl _) (a := b12) (argsL := [(.ref b8), (.int p4), (.int (if (p5 &&& (1 : Int32)) = (0 : Int32) then (0 : Int32) else (1 : Int32)))]) (rest := [(.ref b12)]) (lenOf pd0_0 rfl) rfl (by show 2 * 0 + _ ≤ _; exact Nat.le_of_eq rfl) (hb hby at_70) (fun _ _ => ⟨rfl, e12, (by decide : 2 + 0 ≤ _), (by decide : 4 + 0 ≤ _)⟩)
    dsimp only [Pt.U, Pt.locs, Pt.cells, Pt.slots] at X13 l13 y13 z13 st13 hQ13
    subst l13 y13 z13
    refine own_go (fun _ k => st13.trans k) ?_
    obtain ⟨rfl, N13q, K13, E13_, F13_0, F13_1, F13_2⟩ := hQ13
    have N13 := Fr.app N10 N13q
    have c13_1 := c12_1.keep K13 (fun q => by simp only [List.mem_cons, List.not_mem_nil, or_false] at q; exact ne_b8_b12 q)
    have Z13 : n0 ≤ T13.heap.size := Nat.le_trans Z12 K13.1
    show own_Go p.tables e below _ (T13.setTop (mkF m 73 #[.val (.int p0), .val (.int p1), .val (.int p2), .val (.int p3), .val (.int p4), .val (.int p5), .val (.int (1 : Int32)), .val (.ref b8), .val (.int (if (p5 &&& (1 : Int32)) = (0 : Int32) then (0 : Int32) else (1 : Int32))), .unset, .unset, .unset, .unset] [(.ref b12)]))
    refine own_go (fun _ k => XS.astore X13.here hx rfl (hb hby at_73) rfl rfl (l' := #[.val (.int p0), .val (.int p1), .val (.int p2), .val (.int p3), .val (.int p4), .val (.int p5), .val (.int (1 : Int32)), .val (.ref b8), .val (.int (if (p5 &&& (1 : Int32)) = (0 : Int32) then (0 : Int32) else (1 : Int32))), .val (.ref b12), .unset, .unset, .unset]) rfl k) ?_
    show own_Go p.tables e below _ (T13.setTop (mkF m 75 #[.val (.int p0), .val (.int p1), .val (.int p2), .val (.int p3), .val (.int p4), .val (.int p5), .val (.int (1 : Int32)), .val (.ref b8), .val (.int (if (p5 &&& (1 : Int32)) = (0 : Int32) then (0 : Int32) else (1 : Int32))), .val (.ref b12), .unset, .unset, .unset] []))
    refine own_go (fun _ k => XS.iload X13.here hx rfl (hb hby at_75) rfl k) ?_
    show own_Go p.tables e below _ (T13.setTop (mkF m 77 #[.val (.int p0), .val (.int p1), .val (.int p2), .val (.int p3), .val (.int p4), .val (.int p5), .val (.int (1 : Int32)), .val (.ref b8), .val (.int (if (p5 &&& (1 : Int32)) = (0 : Int32) then (0 : Int32) else (1 : Int32))), .val (.ref b12), .unset, .unset, .unset] [(.int (1 : Int32))]))
    refine own_go (fun _ k => XS.iloadN X13.here hx rfl (hb hby at_77) rfl k) ?_
    show own_Go p.tables e below _ (T13.setTop (mkF m 78 #[.val (.int p0), .val (.int p1), .val (.int p2), .val (.int p3), .val (.int p4), .val (.int p5), .val (.int (1 : Int32)), .val (.ref b8), .val (.int (if (p5 &&& (1 : Int32)) = (0 : Int32) then (0 : Int32) else (1 : Int32))), .val (.ref b12), .unset, .unset, .unset] [(.int p2), (.int (1 : Int32))]))
    refine own_go (fun _ k => XS.i2b X13.here hx rfl (hb hby at_78) rfl k) ?_
    show own_Go p.tables e below _ (T13.setTop (mkF m 79 #[.val (.int p0), .val (.int p1), .val (.int p2), .val (.int p3), .val (.int p4), .val (.int p5), .val (.int (1 : Int32)), .val (.ref b8), .val (.int (if (p5 &&& (1 : Int32)) = (0 : Int32) then (0 : Int32) else (1 : Int32))), .val (.ref b12), .unset, .unset, .unset] [(.int (p2.toInt8.toInt32)), (.int (1 : Int32))]))
    obtain ⟨_, _, ⟨T14, L14, k14, n14⟩, -, X14, ⟨Lc14, hQ14, l14, y14, z14⟩, st14⟩ := Jvm.LawKit.callS X13 hx (y := (⟨"com/example/labframe/labframe/wire/FrameNumberPinLaw", "expected", "(IB)I"⟩ : MethodName)) hown (mvT hZ (hw _ (List.mem_of_getElem? (i := 16) rfl))) (mvT hZ (hw _ (List.mem_of_getElem? (i := 17) rfl))) (mvT hZ (hw _ (List.mem_of_getElem? (i := 18) rfl))) (mvT hZ (hw _ (List.mem_of_getElem? (i := 19) rfl))) (by decide) (backOf (W := 0) (rm2 l Z az hw [] (1 : Int32) (p2.toInt8.toInt32) T13.heap n0 Z13) hZ (hw _ (List.mem_of_getElem? (i := 19) rfl)) (hw _ (List.mem_of_getElem? (i := 18) rfl)) (by decide) (by decide)) (g := (mkF m 79 #[.val (.int p0), .val (.int p1), .val (.int p2), .val (.int p3), .val (.int p4), .val (.int p5), .val (.int (1 : Int32)), .val (.ref b8), .val (.int (if (p5 &&& (1 : Int32)) = (0 : Int32) then (0 : Int32) else (1 : Int32))), .val (.ref b12), .unset, .unset, .unset] [(.int (p2.toInt8.toInt32)), (.int (1 : Int32))])) rfl (by rw [hml]; rfl) (argsL := [(.int (1 : Int32)), (.int (p2.toInt8.toInt32))]) (rest := []) (lenOf pd0_1 rfl) rfl (by show 2 * 0 + _ ≤ _; exact Nat.le_of_eq rfl) (hb hby at_79) (fun _ _ => ⟨rfl, rfl, (by decide : 2 + 0 ≤ _), (by decide : 4 + 0 ≤ _)⟩)
    dsimp only [Pt.U, Pt.locs, Pt.cells, Pt.slots] at X14 l14 y14 z14 st14 hQ14
    subst l14 y14 z14
    refine own_go st14 ?_
    obtain ⟨rfl, N14q, e14⟩ := hQ14
    have N14 := Fr.app N13 N14q
    show own_Go p.tables e below _ (T14.setTop (mkF m 82 #[.val (.int p0), .val (.int p1), .val (.int p2), .val (.int p3), .val (.int p4), .val (.int p5), .val (.int (1 : Int32)), .val (.ref b8), .val (.int (if (p5 &&& (1 : Int32)) = (0 : Int32) then (0 : Int32) else (1 : Int32))), .val (.ref b12), .unset, .unset, .unset] [(.int (own_f2 (1 : Int32) (p2.toInt8.toInt32)))]))
    refine own_go (fun _ k => XS.istore X14.here hx rfl (hb hby at_82) rfl (l' := #[.val (.int p0), .val (.int p1), .val (.int p2), .val (.int p3), .val (.int p4), .val (.int p5), .val (.int (1 : Int32)), .val (.ref b8), .val (.int (if (p5 &&& (1 : Int32)) = (0 : Int32) then (0 : Int32) else (1 : Int32))), .val (.ref b12), .val (.int (own_f2 (1 : Int32) (p2.toInt8.toInt32))), .unset, .unset]) rfl k) ?_
    show own_Go p.tables e below _ (T14.setTop (mkF m 84 #[.val (.int p0), .val (.int p1), .val (.int p2), .val (.int p3), .val (.int p4), .val (.int p5), .val (.int (1 : Int32)), .val (.ref b8), .val (.int (if (p5 &&& (1 : Int32)) = (0 : Int32) then (0 : Int32) else (1 : Int32))), .val (.ref b12), .val (.int (own_f2 (1 : Int32) (p2.toInt8.toInt32))), .unset, .unset] []))
    refine own_go (fun _ k => XS.aload X14.here hx rfl (hb hby at_84) rfl rfl k) ?_
    show own_Go p.tables e below _ (T14.setTop (mkF m 86 #[.val (.int p0), .val (.int p1), .val (.int p2), .val (.int p3), .val (.int p4), .val (.int p5), .val (.int (1 : Int32)), .val (.ref b8), .val (.int (if (p5 &&& (1 : Int32)) = (0 : Int32) then (0 : Int32) else (1 : Int32))), .val (.ref b12), .val (.int (own_f2 (1 : Int32) (p2.toInt8.toInt32))), .unset, .unset] [(.ref b12)]))
    obtain ⟨cq15, kq15, q15a, q15b, q15c⟩ := isOf hZ (e14 : T14.heap = T13.heap) E13_
    obtain ⟨_, _, ⟨T15, L15, k15, n15⟩, -, X15, ⟨Lc15, hQ15, l15, y15, z15⟩, st15⟩ := X14.virtualBack hx (y := (⟨"com/example/labframe/labframe/wire/Frame", "number", "()I"⟩ : MethodName)) (z := (⟨"com/example/labframe/labframe/wire/Frame", "number", "()I"⟩ : MethodName)) hown (mvT hZ (hw _ (List.mem_of_getElem? (i := 20) rfl))) (mvT hZ (hw _ (List.mem_of_getElem? (i := 21) rfl))) (notFace_of_selects (args := #[]) (mvT hZ (hw _ (List.mem_of_getElem? (i := 23) rfl)))) (mvT hZ (hw _ (List.mem_of_getElem? (i := 23) rfl))) (mvT hZ (hw _ (List.mem_of_getElem? (i := 22) rfl))) (by decide) (backOf (W := 0) (rm3 l Z az hw [] b12 b8 k8 (1 : Int32) [((p1.toInt8.toInt32).toInt8.toInt32)] T13.heap n0 Z13 F13_0 c13_1) hZ (hw _ (List.mem_of_getElem? (i := 24) rfl)) (hw _ (List.mem_of_getElem? (i := 3) rfl)) (by decide) (by decide)) q15a q15c (g := (mkF m 86 #[.val (.int p0), .val (.int p1), .val (.int p2), .val (.int p3), .val (.int p4), .val (.int p5), .val (.int (1 : Int32)), .val (.ref b8), .val (.int (if (p5 &&& (1 : Int32)) = (0 : Int32) then (0 : Int32) else (1 : Int32))), .val (.ref b12), .val (.int (own_f2 (1 : Int32) (p2.toInt8.toInt32))), .unset, .unset] [(.ref b12)])) rfl (by rw [hml]; rfl) (Steps.refl _) (argsL := []) (rest := []) (lenOf pd0_2 rfl) rfl (by show 2 * 0 + _ ≤ _; exact Nat.le_of_eq rfl) (hb hby at_86) (fun _ _ => ⟨rfl, (e14 : T14.heap = T13.heap), (by decide : 2 + 0 ≤ _), (by decide : 4 + 0 ≤ _)⟩)
    dsimp only [Pt.U, Pt.locs, Pt.cells, Pt.slots] at X15 l15 y15 z15 st15 hQ15
    subst l15 y15 z15
    refine own_go (fun _ k => st15.trans k) ?_
    obtain ⟨rfl, N15q, e15⟩ := hQ15
    have N15 := Fr.app N14 N15q
    show own_Go p.tables e below _ (T15.setTop (mkF m 89 #[.val (.int p0), .val (.int p1), .val (.int p2), .val (.int p3), .val (.int p4), .val (.int p5), .val (.int (1 : Int32)), .val (.ref b8), .val (.int (if (p5 &&& (1 : Int32)) = (0 : Int32) then (0 : Int32) else (1 : Int32))), .val (.ref b12), .val (.int (own_f2 (1 : Int32) (p2.toInt8.toInt32))), .unset, .unset] [(.int (own_f3 (1 : Int32) [((p1.toInt8.toInt32).toInt8.toInt32)]))]))
    refine own_go (fun _ k => XS.istore X15.here hx rfl (hb hby at_89) rfl (l' := #[.val (.int p0), .val (.int p1), .val (.int p2), .val (.int p3), .val (.int p4), .val (.int p5), .val (.int (1 : Int32)), .val (.ref b8), .val (.int (if (p5 &&& (1 : Int32)) = (0 : Int32) then (0 : Int32) else (1 : Int32))), .val (.ref b12), .val (.int (own_f2 (1 : Int32) (p2.toInt8.toInt32))), .val (.int (own_f3 (1 : Int32) [((p1.toInt8.toInt32).toInt8.toInt32)])), .unset]) rfl k) ?_
    show own_Go p.tables e below _ (T15.setTop (mkF m 91 #[.val (.int p0), .val (.int p1), .val (.int p2), .val (.int p3), .val (.int p4), .val (.int p5), .val (.int (1 : Int32)), .val (.ref b8), .val (.int (if (p5 &&& (1 : Int32)) = (0 : Int32) then (0 : Int32) else (1 : Int32))), .val (.ref b12), .val (.int (own_f2 (1 : Int32) (p2.toInt8.toInt32))), .val (.int (own_f3 (1 : Int32) [((p1.toInt8.toInt32).toInt8.toInt32)])), .unset] []))
    refine own_go (fun _ k => XS.aload X15.here hx rfl (hb hby at_91) rfl rfl k) ?_
    show own_Go p.tables e below _ (T15.setTop (mkF m 93 #[.val (.int p0), .val (.int p1), .val (.int p2), .val (.int p3), .val (.int p4), .val (.int p5), .val (.int (1 : Int32)), .val (.ref b8), .val (.int (if (p5 &&& (1 : Int32)) = (0 : Int32) then (0 : Int32) else (1 : Int32))), .val (.ref b12), .val (.int (own_f2 (1 : Int32) (p2.toInt8.toInt32))), .val (.int (own_f3 (1 : Int32) [((p1.toInt8.toInt32).toInt8.toInt32)])), .unset] [(.ref b12)]))
    obtain ⟨cq16, kq16, q16a, q16b, q16c⟩ := isOf hZ (e15 : T15.heap = T13.heap) E13_
    obtain ⟨_, _, ⟨T16, L16, k16, n16⟩, -, X16, ⟨Lc16, hQ16, l16, y16, z16⟩, st16⟩ := X15.virtualBack hx (y := (⟨"com/example/labframe/labframe/wire/Frame", "number", "()I"⟩ : MethodName)) (z := (⟨"com/example/labframe/labframe/wire/Frame", "number", "()I"⟩ : MethodName)) hown (mvT hZ (hw _ (List.mem_of_getElem? (i := 20) rfl))) (mvT hZ (hw _ (List.mem_of_getElem? (i := 21) rfl))) (notFace_of_selects (args := #[]) (mvT hZ (hw _ (List.mem_of_getElem? (i := 23) rfl)))) (mvT hZ (hw _ (List.mem_of_getElem? (i := 23) rfl))) (mvT hZ (hw _ (List.mem_of_getElem? (i := 22) rfl))) (by decide) (backOf (W := 0) (rm3 l Z az hw [] b12 b8 k8 (1 : Int32) [((p1.toInt8.toInt32).toInt8.toInt32)] T13.heap n0 Z13 F13_0 c13_1) hZ (hw _ (List.mem_of_getElem? (i := 24) rfl)) (hw _ (List.mem_of_getElem? (i := 3) rfl)) (by decide) (by decide)) q16a q16c (g := (mkF m 93 #[.val (.int p0), .val (.int p1), .val (.int p2), .val (.int p3), .val (.int p4), .val (.int p5), .val (.int (1 : Int32)), .val (.ref b8), .val (.int (if (p5 &&& (1 : Int32)) = (0 : Int32) then (0 : Int32) else (1 : Int32))), .val (.ref b12), .val (.int (own_f2 (1 : Int32) (p2.toInt8.toInt32))), .val (.int (own_f3 (1 : Int32) [((p1.toInt8.toInt32).toInt8.toInt32)])), .unset] [(.ref b12)])) rfl (by rw [hml]; rfl) (Steps.refl _) (argsL := []) (rest := []) (lenOf pd0_2 rfl) rfl (by show 2 * 0 + _ ≤ _; exact Nat.le_of_eq rfl) (hb hby at_93) (fun _ _ => ⟨rfl, (e15 : T15.heap = T13.heap), (by decide : 2 + 0 ≤ _), (by decide : 4 + 0 ≤ _)⟩)
    dsimp only [Pt.U, Pt.locs, Pt.cells, Pt.slots] at X16 l16 y16 z16 st16 hQ16
    subst l16 y16 z16
    refine own_go (fun _ k => st16.trans k) ?_
    obtain ⟨rfl, N16q, e16⟩ := hQ16
    have N16 := Fr.app N15 N16q
    show own_Go p.tables e below _ (T16.setTop (mkF m 96 #[.val (.int p0), .val (.int p1), .val (.int p2), .val (.int p3), .val (.int p4), .val (.int p5), .val (.int (1 : Int32)), .val (.ref b8), .val (.int (if (p5 &&& (1 : Int32)) = (0 : Int32) then (0 : Int32) else (1 : Int32))), .val (.ref b12), .val (.int (own_f2 (1 : Int32) (p2.toInt8.toInt32))), .val (.int (own_f3 (1 : Int32) [((p1.toInt8.toInt32).toInt8.toInt32)])), .unset] [(.int (own_f3 (1 : Int32) [((p1.toInt8.toInt32).toInt8.toInt32)]))]))
    refine own_go (fun _ k => XS.istore X16.here hx rfl (hb hby at_96) rfl (l' := #[.val (.int p0), .val (.int p1), .val (.int p2), .val (.int p3), .val (.int p4), .val (.int p5), .val (.int (1 : Int32)), .val (.ref b8), .val (.int (if (p5 &&& (1 : Int32)) = (0 : Int32) then (0 : Int32) else (1 : Int32))), .val (.ref b12), .val (.int (own_f2 (1 : Int32) (p2.toInt8.toInt32))), .val (.int (own_f3 (1 : Int32) [((p1.toInt8.toInt32).toInt8.toInt32)])), .val (.int (own_f3 (1 : Int32) [((p1.toInt8.toInt32).toInt8.toInt32)]))]) rfl k) ?_
    show own_Go p.tables e below _ (T16.setTop (mkF m 98 #[.val (.int p0), .val (.int p1), .val (.int p2), .val (.int p3), .val (.int p4), .val (.int p5), .val (.int (1 : Int32)), .val (.ref b8), .val (.int (if (p5 &&& (1 : Int32)) = (0 : Int32) then (0 : Int32) else (1 : Int32))), .val (.ref b12), .val (.int (own_f2 (1 : Int32) (p2.toInt8.toInt32))), .val (.int (own_f3 (1 : Int32) [((p1.toInt8.toInt32).toInt8.toInt32)])), .val (.int (own_f3 (1 : Int32) [((p1.toInt8.toInt32).toInt8.toInt32)]))] []))
    refine own_go (fun _ k => XS.iload X16.here hx rfl (hb hby at_98) rfl k) ?_
    show own_Go p.tables e below _ (T16.setTop (mkF m 100 #[.val (.int p0), .val (.int p1), .val (.int p2), .val (.int p3), .val (.int p4), .val (.int p5), .val (.int (1 : Int32)), .val (.ref b8), .val (.int (if (p5 &&& (1 : Int32)) = (0 : Int32) then (0 : Int32) else (1 : Int32))), .val (.ref b12), .val (.int (own_f2 (1 : Int32) (p2.toInt8.toInt32))), .val (.int (own_f3 (1 : Int32) [((p1.toInt8.toInt32).toInt8.toInt32)])), .val (.int (own_f3 (1 : Int32) [((p1.toInt8.toInt32).toInt8.toInt32)]))] [(.int (own_f3 (1 : Int32) [((p1.toInt8.toInt32).toInt8.toInt32)]))]))
    refine own_go (fun _ k => XS.iload X16.here hx rfl (hb hby at_100) rfl k) ?_
    show own_Go p.tables e below _ (T16.setTop (mkF m 102 #[.val (.int p0), .val (.int p1), .val (.int p2), .val (.int p3), .val (.int p4), .val (.int p5), .val (.int (1 : Int32)), .val (.ref b8), .val (.int (if (p5 &&& (1 : Int32)) = (0 : Int32) then (0 : Int32) else (1 : Int32))), .val (.ref b12), .val (.int (own_f2 (1 : Int32) (p2.toInt8.toInt32))), .val (.int (own_f3 (1 : Int32) [((p1.toInt8.toInt32).toInt8.toInt32)])), .val (.int (own_f3 (1 : Int32) [((p1.toInt8.toInt32).toInt8.toInt32)]))] [(.int (own_f2 (1 : Int32) (p2.toInt8.toInt32))), (.int (own_f3 (1 : Int32) [((p1.toInt8.toInt32).toInt8.toInt32)]))]))
    have hf102 : (own_f3 (1 : Int32) [((p1.toInt8.toInt32).toInt8.toInt32)]) = (own_f2 (1 : Int32) (p2.toInt8.toInt32)) := (own_v (p := p2) (fun q => absurd q (by decide))).1
    refine own_go (fun _ k => XS.icmpNo X16.here hx rfl (hb hby at_102) rfl (teq hf102).2 k) ?_
    show own_Go p.tables e below _ (T16.setTop (mkF m 105 #[.val (.int p0), .val (.int p1), .val (.int p2), .val (.int p3), .val (.int p4), .val (.int p5), .val (.int (1 : Int32)), .val (.ref b8), .val (.int (if (p5 &&& (1 : Int32)) = (0 : Int32) then (0 : Int32) else (1 : Int32))), .val (.ref b12), .val (.int (own_f2 (1 : Int32) (p2.toInt8.toInt32))), .val (.int (own_f3 (1 : Int32) [((p1.toInt8.toInt32).toInt8.toInt32)])), .val (.int (own_f3 (1 : Int32) [((p1.toInt8.toInt32).toInt8.toInt32)]))] []))
    refine own_go (fun _ k => XS.iload X16.here hx rfl (hb hby at_105) rfl k) ?_
    show own_Go p.tables e below _ (T16.setTop (mkF m 107 #[.val (.int p0), .val (.int p1), .val (.int p2), .val (.int p3), .val (.int p4), .val (.int p5), .val (.int (1 : Int32)), .val (.ref b8), .val (.int (if (p5 &&& (1 : Int32)) = (0 : Int32) then (0 : Int32) else (1 : Int32))), .val (.ref b12), .val (.int (own_f2 (1 : Int32) (p2.toInt8.toInt32))), .val (.int (own_f3 (1 : Int32) [((p1.toInt8.toInt32).toInt8.toInt32)])), .val (.int (own_f3 (1 : Int32) [((p1.toInt8.toInt32).toInt8.toInt32)]))] [(.int (own_f3 (1 : Int32) [((p1.toInt8.toInt32).toInt8.toInt32)]))]))
    refine own_go (fun _ k => XS.iload X16.here hx rfl (hb hby at_107) rfl k) ?_
    show own_Go p.tables e below _ (T16.setTop (mkF m 109 #[.val (.int p0), .val (.int p1), .val (.int p2), .val (.int p3), .val (.int p4), .val (.int p5), .val (.int (1 : Int32)), .val (.ref b8), .val (.int (if (p5 &&& (1 : Int32)) = (0 : Int32) then (0 : Int32) else (1 : Int32))), .val (.ref b12), .val (.int (own_f2 (1 : Int32) (p2.toInt8.toInt32))), .val (.int (own_f3 (1 : Int32) [((p1.toInt8.toInt32).toInt8.toInt32)])), .val (.int (own_f3 (1 : Int32) [((p1.toInt8.toInt32).toInt8.toInt32)]))] [(.int (own_f2 (1 : Int32) (p2.toInt8.toInt32))), (.int (own_f3 (1 : Int32) [((p1.toInt8.toInt32).toInt8.toInt32)]))]))
    have hf109 : (own_f3 (1 : Int32) [((p1.toInt8.toInt32).toInt8.toInt32)]) = (own_f2 (1 : Int32) (p2.toInt8.toInt32)) := (own_v (p := p2) (fun q => absurd q (by decide))).1
    refine own_go (fun _ k => XS.icmpNo X16.here hx rfl (hb hby at_109) rfl (teq hf109).2 k) ?_
    show own_Go p.tables e below _ (T16.setTop (mkF m 112 #[.val (.int p0), .val (.int p1), .val (.int p2), .val (.int p3), .val (.int p4), .val (.int p5), .val (.int (1 : Int32)), .val (.ref b8), .val (.int (if (p5 &&& (1 : Int32)) = (0 : Int32) then (0 : Int32) else (1 : Int32))), .val (.ref b12), .val (.int (own_f2 (1 : Int32) (p2.toInt8.toInt32))), .val (.int (own_f3 (1 : Int32) [((p1.toInt8.toInt32).toInt8.toInt32)])), .val (.int (own_f3 (1 : Int32) [((p1.toInt8.toInt32).toInt8.toInt32)]))] []))
    refine own_go (fun _ k => XS.iload X16.here hx rfl (hb hby at_112) rfl k) ?_
    show own_Go p.tables e below _ (T16.setTop (mkF m 114 #[.val (.int p0), .val (.int p1), .val (.int p2), .val (.int p3), .val (.int p4), .val (.int p5), .val (.int (1 : Int32)), .val (.ref b8), .val (.int (if (p5 &&& (1 : Int32)) = (0 : Int32) then (0 : Int32) else (1 : Int32))), .val (.ref b12), .val (.int (own_f2 (1 : Int32) (p2.toInt8.toInt32))), .val (.int (own_f3 (1 : Int32) [((p1.toInt8.toInt32).toInt8.toInt32)])), .val (.int (own_f3 (1 : Int32) [((p1.toInt8.toInt32).toInt8.toInt32)]))] [(.int (own_f3 (1 : Int32) [((p1.toInt8.toInt32).toInt8.toInt32)]))]))
    refine own_go (fun _ k => XS.iconst X16.here hx rfl (hb hby at_114) k) ?_
    show own_Go p.tables e below _ (T16.setTop (mkF m 115 #[.val (.int p0), .val (.int p1), .val (.int p2), .val (.int p3), .val (.int p4), .val (.int p5), .val (.int (1 : Int32)), .val (.ref b8), .val (.int (if (p5 &&& (1 : Int32)) = (0 : Int32) then (0 : Int32) else (1 : Int32))), .val (.ref b12), .val (.int (own_f2 (1 : Int32) (p2.toInt8.toInt32))), .val (.int (own_f3 (1 : Int32) [((p1.toInt8.toInt32).toInt8.toInt32)])), .val (.int (own_f3 (1 : Int32) [((p1.toInt8.toInt32).toInt8.toInt32)]))] [(.int (-1 : Int32)), (.int (own_f3 (1 : Int32) [((p1.toInt8.toInt32).toInt8.toInt32)]))]))
    have hf115 : ¬ ((own_f3 (1 : Int32) [((p1.toInt8.toInt32).toInt8.toInt32)]) < (-1 : Int32)) := (own_v (p := p2) (fun q => absurd q (by decide))).2.1
    refine own_go (fun _ k => XS.icmpNo X16.here hx rfl (hb hby at_115) rfl (flt hf115).1 k) ?_
    show own_Go p.tables e below _ (T16.setTop (mkF m 118 #[.val (.int p0), .val (.int p1), .val (.int p2), .val (.int p3), .val (.int p4), .val (.int p5), .val (.int (1 : Int32)), .val (.ref b8), .val (.int (if (p5 &&& (1 : Int32)) = (0 : Int32) then (0 : Int32) else (1 : Int32))), .val (.ref b12), .val (.int (own_f2 (1 : Int32) (p2.toInt8.toInt32))), .val (.int (own_f3 (1 : Int32) [((p1.toInt8.toInt32).toInt8.toInt32)])), .val (.int (own_f3 (1 : Int32) [((p1.toInt8.toInt32).toInt8.toInt32)]))] []))
    refine own_go (fun _ k => XS.iload X16.here hx rfl (hb hby at_118) rfl k) ?_
    show own_Go p.tables e below _ (T16.setTop (mkF m 120 #[.val (.int p0), .val (.int p1), .val (.int p2), .val (.int p3), .val (.int p4), .val (.int p5), .val (.int (1 : Int32)), .val (.ref b8), .val (.int (if (p5 &&& (1 : Int32)) = (0 : Int32) then (0 : Int32) else (1 : Int32))), .val (.ref b12), .val (.int (own_f2 (1 : Int32) (p2.toInt8.toInt32))), .val (.int (own_f3 (1 : Int32) [((p1.toInt8.toInt32).toInt8.toInt32)])), .val (.int (own_f3 (1 : Int32) [((p1.toInt8.toInt32).toInt8.toInt32)]))] [(.int (own_f3 (1 : Int32) [((p1.toInt8.toInt32).toInt8.toInt32)]))]))
    refine own_go (fun _ k => XS.bipush X16.here hx rfl (hb hby at_120) k) ?_
    show own_Go p.tables e below _ (T16.setTop (mkF m 122 #[.val (.int p0), .val (.int p1), .val (.int p2), .val (.int p3), .val (.int p4), .val (.int p5), .val (.int (1 : Int32)), .val (.ref b8), .val (.int (if (p5 &&& (1 : Int32)) = (0 : Int32) then (0 : Int32) else (1 : Int32))), .val (.ref b12), .val (.int (own_f2 (1 : Int32) (p2.toInt8.toInt32))), .val (.int (own_f3 (1 : Int32) [((p1.toInt8.toInt32).toInt8.toInt32)])), .val (.int (own_f3 (1 : Int32) [((p1.toInt8.toInt32).toInt8.toInt32)]))] [(.int (7 : Int32)), (.int (own_f3 (1 : Int32) [((p1.toInt8.toInt32).toInt8.toInt32)]))]))
    have hf122 : ¬ ((7 : Int32) < (own_f3 (1 : Int32) [((p1.toInt8.toInt32).toInt8.toInt32)])) := (own_v (p := p2) (fun q => absurd q (by decide))).2.2
    refine own_go (fun _ k => XS.icmpNo X16.here hx rfl (hb hby at_122) rfl (flt hf122).2.2.1 k) ?_
    show own_Go p.tables e below _ (T16.setTop (mkF m 125 #[.val (.int p0), .val (.int p1), .val (.int p2), .val (.int p3), .val (.int p4), .val (.int p5), .val (.int (1 : Int32)), .val (.ref b8), .val (.int (if (p5 &&& (1 : Int32)) = (0 : Int32) then (0 : Int32) else (1 : Int32))), .val (.ref b12), .val (.int (own_f2 (1 : Int32) (p2.toInt8.toInt32))), .val (.int (own_f3 (1 : Int32) [((p1.toInt8.toInt32).toInt8.toInt32)])), .val (.int (own_f3 (1 : Int32) [((p1.toInt8.toInt32).toInt8.toInt32)]))] []))
    refine own_go (fun _ k => XS.iconst X16.here hx rfl (hb hby at_125) k) ?_
    show own_Go p.tables e below _ (T16.setTop (mkF m 126 #[.val (.int p0), .val (.int p1), .val (.int p2), .val (.int p3), .val (.int p4), .val (.int p5), .val (.int (1 : Int32)), .val (.ref b8), .val (.int (if (p5 &&& (1 : Int32)) = (0 : Int32) then (0 : Int32) else (1 : Int32))), .val (.ref b12), .val (.int (own_f2 (1 : Int32) (p2.toInt8.toInt32))), .val (.int (own_f3 (1 : Int32) [((p1.toInt8.toInt32).toInt8.toInt32)])), .val (.int (own_f3 (1 : Int32) [((p1.toInt8.toInt32).toInt8.toInt32)]))] [(.int (1 : Int32))]))
    refine own_go (fun _ k => XS.goto X16.here hx rfl (pc0 := 126) (pc' := 130) rfl (hb hby at_126) (by decide) (by decide) k) ?_
    show own_Go p.tables e below _ (T16.setTop (mkF m 130 #[.val (.int p0), .val (.int p1), .val (.int p2), .val (.int p3), .val (.int p4), .val (.int p5), .val (.int (1 : Int32)), .val (.ref b8), .val (.int (if (p5 &&& (1 : Int32)) = (0 : Int32) then (0 : Int32) else (1 : Int32))), .val (.ref b12), .val (.int (own_f2 (1 : Int32) (p2.toInt8.toInt32))), .val (.int (own_f3 (1 : Int32) [((p1.toInt8.toInt32).toInt8.toInt32)])), .val (.int (own_f3 (1 : Int32) [((p1.toInt8.toInt32).toInt8.toInt32)]))] [(.int (1 : Int32))]))
    refine own_end X16 Bd.notSynchronized (v := some (.int (1 : Int32))) (fun h => by rw [Bd.returns] at h; cases h) (fun fs hr => retN X16 hx (t := .boolean) Bd.returns (by simp) (hb hby at_130) hr) ?_ (by decide) (by decide)
    exact ⟨rfl, N16⟩
  · subst h4
    show own_Go p.tables e below _ (s₁.setTop (mkF m 5 #[.val (.int p0), .val (.int p1), .val (.int p2), .val (.int p3), .val (.int p4), .val (.int p5), .val (.int (2 : Int32)), .unset, .unset, .unset, .unset, .unset, .unset] []))
    refine own_go (fun _ k => XS.iload X0.here hx rfl (hb hby at_5) rfl k) ?_
    show own_Go p.tables e below _ (s₁.setTop (mkF m 7 #[.val (.int p0), .val (.int p1), .val (.int p2), .val (.int p3), .val (.int p4), .val (.int p5), .val (.int (2 : Int32)), .unset, .unset, .unset, .unset, .unset, .unset] [(.int (2 : Int32))]))
    obtain ⟨T17, h17, k17, X17, e17, E17, A17, st17⟩ := newP X0 hx hZ (hw _ (List.mem_of_getElem? (i := 0) rfl)) e0 (g := (mkF m 7 #[.val (.int p0), .val (.int p1), .val (.int p2), .val (.int p3), .val (.int p4), .val (.int p5), .val (.int (2 : Int32)), .unset, .unset, .unset, .unset, .unset, .unset] [(.int (2 : Int32))])) rfl (hb hby at_7) rfl (by decide) (cap := 2) (by decide) (by decide) (by decide) (by decide)
    obtain ⟨b17, g17⟩ : ∃ z, z = h0.size := ⟨_, rfl⟩
    rw [← g17] at A17 st17
    have g_b17 : n0 ≤ b17 := Nat.le_trans Z0 (Nat.le_of_eq g17.symm)
    have Z17 : n0 ≤ h17.size := Nat.le_trans Z0 E17.1
    have V17 : Arv Z h17 b17 k17 .byte (2 : Int32) [(.int (0 : Int32)), (.int (0 : Int32))] (.int (0 : Int32)) := (Arv.new A17 (by decide)).pad (pad_rep [] (.int (0 : Int32)) 2)
    refine own_go st17 ?_
    show own_Go p.tables e below _ (T17.setTop (mkF m 9 #[.val (.int p0), .val (.int p1), .val (.int p2), .val (.int p3), .val (.int p4), .val (.int p5), .val (.int (2 : Int32)), .unset, .unset, .unset, .unset, .unset, .unset] [(.ref b17)]))
    refine own_go (fun _ k => XS.astore X17.here hx rfl (hb hby at_9) rfl rfl (l' := #[.val (.int p0), .val (.int p1), .val (.int p2), .val (.int p3), .val (.int p4), .val (.int p5), .val (.int (2 : Int32)), .val (.ref b17), .unset, .unset, .unset, .unset, .unset]) rfl k) ?_
    show own_Go p.tables e below _ (T17.setTop (mkF m 11 #[.val (.int p0), .val (.int p1), .val (.int p2), .val (.int p3), .val (.int p4), .val (.int p5), .val (.int (2 : Int32)), .val (.ref b17), .unset, .unset, .unset, .unset, .unset] []))
    refine own_go (fun _ k => XS.iload X17.here hx rfl (hb hby at_11) rfl k) ?_
    show own_Go p.tables e below _ (T17.setTop (mkF m 13 #[.val (.int p0), .val (.int p1), .val (.int p2), .val (.int p3), .val (.int p4), .val (.int p5), .val (.int (2 : Int32)), .val (.ref b17), .unset, .unset, .unset, .unset, .unset] [(.int (2 : Int32))]))
    have hf13 : (0 : Int32) < (2 : Int32) := by decide
    refine own_go (fun _ k => XS.ifNo X17.here hx rfl (hb hby at_13) rfl ((if0 _ _).trans (tlt hf13).2.2.2) k) ?_
    show own_Go p.tables e below _ (T17.setTop (mkF m 16 #[.val (.int p0), .val (.int p1), .val (.int p2), .val (.int p3), .val (.int p4), .val (.int p5), .val (.int (2 : Int32)), .val (.ref b17), .unset, .unset, .unset, .unset, .unset] []))
    refine own_go (fun _ k => XS.aload X17.here hx rfl (hb hby at_16) rfl rfl k) ?_
    show own_Go p.tables e below _ (T17.setTop (mkF m 18 #[.val (.int p0), .val (.int p1), .val (.int p2), .val (.int p3), .val (.int p4), .val (.int p5), .val (.int (2 : Int32)), .val (.ref b17), .unset, .unset, .unset, .unset, .unset] [(.ref b17)]))
    refine own_go (fun _ k => XS.iconst X17.here hx rfl (hb hby at_18) k) ?_
    show own_Go p.tables e below _ (T17.setTop (mkF m 19 #[.val (.int p0), .val (.int p1), .val (.int p2), .val (.int p3), .val (.int p4), .val (.int p5), .val (.int (2 : Int32)), .val (.ref b17), .unset, .unset, .unset, .unset, .unset] [(.int (0 : Int32)), (.ref b17)]))
    refine own_go (fun _ k => XS.iloadN X17.here hx rfl (hb hby at_19) rfl k) ?_
    show own_Go p.tables e below _ (T17.setTop (mkF m 20 #[.val (.int p0), .val (.int p1), .val (.int p2), .val (.int p3), .val (.int p4), .val (.int p5), .val (.int (2 : Int32)), .val (.ref b17), .unset, .unset, .unset, .unset, .unset] [(.int p1), (.int (0 : Int32)), (.ref b17)]))
    refine own_go (fun _ k => XS.i2b X17.here hx rfl (hb hby at_20) rfl k) ?_
    show own_Go p.tables e below _ (T17.setTop (mkF m 21 #[.val (.int p0), .val (.int p1), .val (.int p2), .val (.int p3), .val (.int p4), .val (.int p5), .val (.int (2 : Int32)), .val (.ref b17), .unset, .unset, .unset, .unset, .unset] [(.int (p1.toInt8.toInt32)), (.int (0 : Int32)), (.ref b17)]))
    have vo18 := V17
    obtain ⟨cl18, Ar18, Aq18, AS18, AN18, AH18, AG18⟩ := vo18
    have hin19 : ¬ ((0 : Int32) < 0 ∨ cl18.slots.size ≤ ((0 : Int32)).toNatClampNeg) := inb_of AS18 ⟨by decide, by decide⟩
    obtain ⟨T19, h19, X19, e19, W19, st19⟩ := stB X17 hx hZ e17 Ar18 (j := (0 : Int32)) hin19 (g := (mkF m 21 #[.val (.int p0), .val (.int p1), .val (.int p2), .val (.int p3), .val (.int p4), .val (.int p5), .val (.int (2 : Int32)), .val (.ref b17), .unset, .unset, .unset, .unset, .unset] [(.int (p1.toInt8.toInt32)), (.int (0 : Int32)), (.ref b17)])) rfl rfl (hb hby at_21)
    have V19 : Arv Z h19 b17 k17 .byte (2 : Int32) [(.int ((p1.toInt8.toInt32).toInt8.toInt32)), (.int (0 : Int32))] (.int (0 : Int32)) := Arv.set Ar18 Aq18 AS18 AN18 AH18 AG18 (fits_nar_byte _) W19 0 rfl (Nat.le_of_ble_eq_true rfl)
    have N19 := Fr.snoc X19 N0 g_b17
    have Z19 : n0 ≤ h19.size := Nat.le_trans Z17 (Keep.of_wr W19).1
    refine own_go st19 ?_
    show own_Go p.tables e below _ (T19.setTop (mkF m 22 #[.val (.int p0), .val (.int p1), .val (.int p2), .val (.int p3), .val (.int p4), .val (.int p5), .val (.int (2 : Int32)), .val (.ref b17), .unset, .unset, .unset, .unset, .unset] []))
    refine own_go (fun _ k => XS.iload X19.here hx rfl (hb hby at_22) rfl k) ?_
    show own_Go p.tables e below _ (T19.setTop (mkF m 24 #[.val (.int p0), .val (.int p1), .val (.int p2), .val (.int p3), .val (.int p4), .val (.int p5), .val (.int (2 : Int32)), .val (.ref b17), .unset, .unset, .unset, .unset, .unset] [(.int (2 : Int32))]))
    refine own_go (fun _ k => XS.iconst X19.here hx rfl (hb hby at_24) k) ?_
    show own_Go p.tables e below _ (T19.setTop (mkF m 25 #[.val (.int p0), .val (.int p1), .val (.int p2), .val (.int p3), .val (.int p4), .val (.int p5), .val (.int (2 : Int32)), .val (.ref b17), .unset, .unset, .unset, .unset, .unset] [(.int (1 : Int32)), (.int (2 : Int32))]))
    have hf25 : (1 : Int32) < (2 : Int32) := by decide
    refine own_go (fun _ k => XS.icmpNo X19.here hx rfl (hb hby at_25) rfl (tlt hf25).2.2.2 k) ?_
    show own_Go p.tables e below _ (T19.setTop (mkF m 28 #[.val (.int p0), .val (.int p1), .val (.int p2), .val (.int p3), .val (.int p4), .val (.int p5), .val (.int (2 : Int32)), .val (.ref b17), .unset, .unset, .unset, .unset, .unset] []))
    refine own_go (fun _ k => XS.aload X19.here hx rfl (hb hby at_28) rfl rfl k) ?_
    show own_Go p.tables e below _ (T19.setTop (mkF m 30 #[.val (.int p0), .val (.int p1), .val (.int p2), .val (.int p3), .val (.int p4), .val (.int p5), .val (.int (2 : Int32)), .val (.ref b17), .unset, .unset, .unset, .unset, .unset] [(.ref b17)]))
    refine own_go (fun _ k => XS.iconst X19.here hx rfl (hb hby at_30) k) ?_
    show own_Go p.tables e below _ (T19.setTop (mkF m 31 #[.val (.int p0), .val (.int p1), .val (.int p2), .val (.int p3), .val (.int p4), .val (.int p5), .val (.int (2 : Int32)), .val (.ref b17), .unset, .unset, .unset, .unset, .unset] [(.int (1 : Int32)), (.ref b17)]))
    refine own_go (fun _ k => XS.iloadN X19.here hx rfl (hb hby at_31) rfl k) ?_
    show own_Go p.tables e below _ (T19.setTop (mkF m 32 #[.val (.int p0), .val (.int p1), .val (.int p2), .val (.int p3), .val (.int p4), .val (.int p5), .val (.int (2 : Int32)), .val (.ref b17), .unset, .unset, .unset, .unset, .unset] [(.int p2), (.int (1 : Int32)), (.ref b17)]))
    refine own_go (fun _ k => XS.i2b X19.here hx rfl (hb hby at_32) rfl k) ?_
    show own_Go p.tables e below _ (T19.setTop (mkF m 33 #[.val (.int p0), .val (.int p1), .val (.int p2), .val (.int p3), .val (.int p4), .val (.int p5), .val (.int (2 : Int32)), .val (.ref b17), .unset, .unset, .unset, .unset, .unset] [(.int (p2.toInt8.toInt32)), (.int (1 : Int32)), (.ref b17)]))
    have vo20 := V19
    obtain ⟨cl20, Ar20, Aq20, AS20, AN20, AH20, AG20⟩ := vo20
    have hin21 : ¬ ((1 : Int32) < 0 ∨ cl20.slots.size ≤ ((1 : Int32)).toNatClampNeg) := inb_of AS20 ⟨by decide, by decide⟩
    obtain ⟨T21, h21, X21, e21, W21, st21⟩ := stB X19 hx hZ e19 Ar20 (j := (1 : Int32)) hin21 (g := (mkF m 33 #[.val (.int p0), .val (.int p1), .val (.int p2), .val (.int p3), .val (.int p4), .val (.int p5), .val (.int (2 : Int32)), .val (.ref b17), .unset, .unset, .unset, .unset, .unset] [(.int (p2.toInt8.toInt32)), (.int (1 : Int32)), (.ref b17)])) rfl rfl (hb hby at_33)
    have V21 : Arv Z h21 b17 k17 .byte (2 : Int32) [(.int ((p1.toInt8.toInt32).toInt8.toInt32)), (.int ((p2.toInt8.toInt32).toInt8.toInt32))] (.int (0 : Int32)) := Arv.set Ar20 Aq20 AS20 AN20 AH20 AG20 (fits_nar_byte _) W21 1 rfl (Nat.le_of_ble_eq_true rfl)
    have N21 := Fr.snoc X21 N19 g_b17
    have Z21 : n0 ≤ h21.size := Nat.le_trans Z19 (Keep.of_wr W21).1
    refine own_go st21 ?_
    show own_Go p.tables e below _ (T21.setTop (mkF m 34 #[.val (.int p0), .val (.int p1), .val (.int p2), .val (.int p3), .val (.int p4), .val (.int p5), .val (.int (2 : Int32)), .val (.ref b17), .unset, .unset, .unset, .unset, .unset] []))
    refine own_go (fun _ k => XS.iload X21.here hx rfl (hb hby at_34) rfl k) ?_
    show own_Go p.tables e below _ (T21.setTop (mkF m 36 #[.val (.int p0), .val (.int p1), .val (.int p2), .val (.int p3), .val (.int p4), .val (.int p5), .val (.int (2 : Int32)), .val (.ref b17), .unset, .unset, .unset, .unset, .unset] [(.int (2 : Int32))]))
    refine own_go (fun _ k => XS.iconst X21.here hx rfl (hb hby at_36) k) ?_
    show own_Go p.tables e below _ (T21.setTop (mkF m 37 #[.val (.int p0), .val (.int p1), .val (.int p2), .val (.int p3), .val (.int p4), .val (.int p5), .val (.int (2 : Int32)), .val (.ref b17), .unset, .unset, .unset, .unset, .unset] [(.int (2 : Int32)), (.int (2 : Int32))]))
    have hf37 : ¬ ((2 : Int32) < (2 : Int32)) := by decide
    refine own_go (fun _ k => XS.icmpYes X21.here hx rfl (pc0 := 37) (pc' := 46) rfl (hb hby at_37) rfl (flt hf37).2.2.2 (by decide) (by decide) k) ?_
    show own_Go p.tables e below _ (T21.setTop (mkF m 46 #[.val (.int p0), .val (.int p1), .val (.int p2), .val (.int p3), .val (.int p4), .val (.int p5), .val (.int (2 : Int32)), .val (.ref b17), .unset, .unset, .unset, .unset, .unset] []))
    refine own_go (fun _ k => XS.iload X21.here hx rfl (hb hby at_46) rfl k) ?_
    show own_Go p.tables e below _ (T21.setTop (mkF m 48 #[.val (.int p0), .val (.int p1), .val (.int p2), .val (.int p3), .val (.int p4), .val (.int p5), .val (.int (2 : Int32)), .val (.ref b17), .unset, .unset, .unset, .unset, .unset] [(.int p5)]))
    refine own_go (fun _ k => XS.iconst X21.here hx rfl (hb hby at_48) k) ?_
    show own_Go p.tables e below _ (T21.setTop (mkF m 49 #[.val (.int p0), .val (.int p1), .val (.int p2), .val (.int p3), .val (.int p4), .val (.int p5), .val (.int (2 : Int32)), .val (.ref b17), .unset, .unset, .unset, .unset, .unset] [(.int (1 : Int32)), (.int p5)]))
    refine own_go (fun _ k => XS.iand X21.here hx rfl (hb hby at_49) rfl k) ?_
    show own_Go p.tables e below _ (T21.setTop (mkF m 50 #[.val (.int p0), .val (.int p1), .val (.int p2), .val (.int p3), .val (.int p4), .val (.int p5), .val (.int (2 : Int32)), .val (.ref b17), .unset, .unset, .unset, .unset, .unset] [(.int (p5 &&& (1 : Int32)))]))
    have sg22 : ∀ t, Steps p.tables e below (T21.setTop (mkF m 58 #[.val (.int p0), .val (.int p1), .val (.int p2), .val (.int p3), .val (.int p4), .val (.int p5), .val (.int (2 : Int32)), .val (.ref b17), .unset, .unset, .unset, .unset, .unset] [(.int (if (p5 &&& (1 : Int32)) = (0 : Int32) then (0 : Int32) else (1 : Int32)))])) t → Steps p.tables e below (T21.setTop (mkF m 50 #[.val (.int p0), .val (.int p1), .val (.int p2), .val (.int p3), .val (.int p4), .val (.int p5), .val (.int (2 : Int32)), .val (.ref b17), .unset, .unset, .unset, .unset, .unset] [(.int (p5 &&& (1 : Int32)))])) t := by
      intro t k
      by_cases hc50 : (p5 &&& (1 : Int32)) = (0 : Int32)
      · try simp only [if_pos hc50] at k
        refine XS.ifYes X21.here hx rfl (pc0 := 50) (pc' := 57) rfl (hb hby at_50) rfl ((if0 _ _).trans (teq hc50).1) (by decide) (by decide) ?_
        show Steps p.tables e below (T21.setTop (mkF m 57 #[.val (.int p0), .val (.int p1), .val (.int p2), .val (.int p3), .val (.int p4), .val (.int p5), .val (.int (2 : Int32)), .val (.ref b17), .unset, .unset, .unset, .unset, .unset] [])) _
        refine XS.iconst X21.here hx rfl (hb hby at_57) ?_
        show Steps p.tables e below (T21.setTop (mkF m 58 #[.val (.int p0), .val (.int p1), .val (.int p2), .val (.int p3), .val (.int p4), .val (.int p5), .val (.int (2 : Int32)), .val (.ref b17), .unset, .unset, .unset, .unset, .unset] [(.int (0 : Int32))])) _
        exact k
      · try simp only [if_neg hc50] at k
        refine XS.ifNo X21.here hx rfl (hb hby at_50) rfl ((if0 _ _).trans (feq hc50).1) ?_
        show Steps p.tables e below (T21.setTop (mkF m 53 #[.val (.int p0), .val (.int p1), .val (.int p2), .val (.int p3), .val (.int p4), .val (.int p5), .val (.int (2 : Int32)), .val (.ref b17), .unset, .unset, .unset, .unset, .unset] [])) _
        refine XS.iconst X21.here hx rfl (hb hby at_53) ?_
        show Steps p.tables e below (T21.setTop (mkF m 54 #[.val (.int p0), .val (.int p1), .val (.int p2), .val (.int p3), .val (.int p4), .val (.int p5), .val (.int (2 : Int32)), .val (.ref b17), .unset, .unset, .unset, .unset, .unset] [(.int (1 : Int32))])) _
        refine XS.goto X21.here hx rfl (pc0 := 54) (pc' := 58) rfl (hb hby at_54) (by decide) (by decide) ?_
        show Steps p.tables e below (T21.setTop (mkF m 58 #[.val (.int p0), .val (.int p1), .val (.int p2), .val (.int p3), .val (.int p4), .val (.int p5), .val (.int (2 : Int32)), .val (.ref b17), .unset, .unset, .unset, .unset, .unset] [(.int (1 : Int32))])) _
        exact k
    refine own_go sg22 ?_
    show own_Go p.tables e below _ (T21.setTop (mkF m 58 #[.val (.int p0), .val (.int p1), .val (.int p2), .val (.int p3), .val (.int p4), .val (.int p5), .val (.int (2 : Int32)), .val (.ref b17), .unset, .unset, .unset, .unset, .unset] [(.int (if (p5 &&& (1 : Int32)) = (0 : Int32) then (0 : Int32) else (1 : Int32)))]))
    refine own_go (fun _ k => XS.istore X21.here hx rfl (hb hby at_58) rfl (l' := #[.val (.int p0), .val (.int p1), .val (.int p2), .val (.int p3), .val (.int p4), .val (.int p5), .val (.int (2 : Int32)), .val (.ref b17), .val (.int (if (p5 &&& (1 : Int32)) = (0 : Int32) then (0 : Int32) else (1 : Int32))), .unset, .unset, .unset, .unset]) rfl k) ?_
    show own_Go p.tables e below _ (T21.setTop (mkF m 60 #[.val (.int p0), .val (.int p1), .val (.int p2), .val (.int p3), .val (.int p4), .val (.int p5), .val (.int (2 : Int32)), .val (.ref b17), .val (.int (if (p5 &&& (1 : Int32)) = (0 : Int32) then (0 : Int32) else (1 : Int32))), .unset, .unset, .unset, .unset] []))
    obtain ⟨T23, h23, X23, e23, E23, A23, D23, -, st23⟩ := newO X21 hx hZ hown (hw _ (List.mem_of_getElem? (i := 1) rfl)) (hw _ (List.mem_of_getElem? (i := 2) rfl)) (hw _ (List.mem_of_getElem? (i := 3) rfl)) e21 (g := (mkF m 60 #[.val (.int p0), .val (.int p1), .val (.int p2), .val (.int p3), .val (.int p4), .val (.int p5), .val (.int (2 : Int32)), .val (.ref b17), .val (.int (if (p5 &&& (1 : Int32)) = (0 : Int32) then (0 : Int32) else (1 : Int32))), .unset, .unset, .unset, .unset] [])) rfl (hb hby at_60) (by decide) (by decide)
    obtain ⟨b23, g23⟩ : ∃ z, z = h21.size := ⟨_, rfl⟩
    rw [← g23] at A23 D23 st23
    have g_b23 : n0 ≤ b23 := Nat.le_trans Z21 (Nat.le_of_eq g23.symm)
    have ne_b17_b23 : b17 ≠ b23 := Nat.ne_of_lt (Nat.lt_of_lt_of_le V21.lt (Nat.le_of_eq g23.symm))
    have c23_1 := V21.ext E23
    have Z23 : n0 ≤ h23.size := Nat.le_trans Z21 E23.1
    have F23_11 : Fld Z h23 b23 "com/example/labframe/labframe/wire/Frame" "bytes" "[B" .null := D23 (Or.inr (hw _ (List.mem_of_getElem? (i := 11) rfl))) (ty := (.array .byte)) (by decide)
    have F23_13 : Fld Z h23 b23 "com/example/labframe/labframe/wire/Frame" "end" "I" (.int (0 : Int32)) := D23 (Or.inr (hw _ (List.mem_of_getElem? (i := 13) rfl))) (ty := .int) (by decide)
    have F23_15 : Fld Z h23 b23 "com/example/labframe/labframe/wire/Frame" "endsRecord" "Z" (.int (0 : Int32)) := D23 (Or.inr (hw _ (List.mem_of_getElem? (i := 15) rfl))) (ty := .boolean) (by decide)
    refine own_go st23 ?_
    show own_Go p.tables e below _ (T23.setTop (mkF m 63 #[.val (.int p0), .val (.int p1), .val (.int p2), .val (.int p3), .val (.int p4), .val (.int p5), .val (.int (2 : Int32)), .val (.ref b17), .val (.int (if (p5 &&& (1 : Int32)) = (0 : Int32) then (0 : Int32) else (1 : Int32))), .unset, .unset, .unset, .unset] [(.ref b23)]))
    refine own_go (fun _ k => XS.dup X23.here hx rfl (hb hby at_63) rfl rfl k) ?_
    show own_Go p.tables e below _ (T23.setTop (mkF m 64 #[.val (.int p0), .val (.int p1), .val (.int p2), .val (.int p3), .val (.int p4), .val (.int p5), .val (.int (2 : Int32)), .val (.ref b17), .val (.int (if (p5 &&& (1 : Int32)) = (0 : Int32) then (0 : Int32) else (1 : Int32))), .unset, .unset, .unset, .unset] [(.ref b23), (.ref b23)]))
    refine own_go (fun _ k => XS.aload X23.here hx rfl (hb hby at_64) rfl rfl k) ?_
    show own_Go p.tables e below _ (T23.setTop (mkF m 66 #[.val (.int p0), .val (.int p1), .val (.int p2), .val (.int p3), .val (.int p4), .val (.int p5), .val (.int (2 : Int32)), .val (.ref b17), .val (.int (if (p5 &&& (1 : Int32)) = (0 : Int32) then (0 : Int32) else (1 : Int32))), .unset, .unset, .unset, .unset] [(.ref b17), (.ref b23), (.ref b23)]))
    refine own_go (fun _ k => XS.iload X23.here hx rfl (hb hby at_66) rfl k) ?_
    show own_Go p.tables e below _ (T23.setTop (mkF m 68 #[.val (.int p0), .val (.int p1), .val (.int p2), .val (.int p3), .val (.int p4), .val (.int p5), .val (.int (2 : Int32)), .val (.ref b17), .val (.int (if (p5 &&& (1 : Int32)) = (0 : Int32) then (0 : Int32) else (1 : Int32))), .unset, .unset, .unset, .unset] [(.int p4), (.ref b17), (.ref b23), (.ref b23)]))
    refine own_go (fun _ k => XS.iload X23.here hx rfl (hb hby at_68) rfl k) ?_
    show own_Go p.tables e below _ (T23.setTop (mkF m 70 #[.val (.int p0), .val (.int p1), .val (.int p2), .val (.int p3), .val (.int p4), .val (.int p5), .val (.int (2 : Int32)), .val (.ref b17), .val (.int (if (p5 &&& (1 : Int32)) = (0 : Int32) then (0 : Int32) else (1 : Int32))), .unset, .unset, .unset, .unset] [(.int (if (p5 &&& (1 : Int32)) = (0 : Int32) then (0 : Int32) else (1 : Int32))), (.int p4), (.ref b17), (.ref b23), (.ref b23)]))
    obtain ⟨_, _, ⟨T24, L24, k24, n24⟩, -, X24, ⟨Lc24, hQ24, l24, y24, z24⟩, st24⟩ := X23.specialBack hx (y := (⟨"com/example/labframe/labframe/wire/Frame", "<init>", "([BIZ)V"⟩ : MethodName)) rfl hown (mvT hZ (hw _ (List.mem_of_getElem? (i := 4) rfl))) (mvT hZ (hw _ (List.mem_of_getElem? (i := 5) rfl))) (mvT hZ (hw _ (List.mem_of_getElem? (i := 6) rfl))) (by decide) (backOf (W := 1) (rm1 l Z az hw [] b23 b17 p4 (if (p5 &&& (1 : Int32)) = (0 : Int32) then (0 : Int32) else (1 : Int32)) h23 n0 Z23 F23_11 F23_13 F23_15 A23 g_b23) hZ (hw _ (List.mem_of_getElem? (i := 6) rfl)) (hw _ (List.mem_of_getElem? (i := 3) rfl)) (by decide) (by decide)) (g := (mkF m 70 #[.val (.int p0), .val (.int p1), .val (.int p2), .val (.int p3), .val (.int p4), .val (.int p5), .val (.int (2 : Int32)), .val (.ref b17), .val (.int (if (p5 &&& (1 : Int32)) = (0 : Int32) then (0 : Int32) else (1 : Int32))), .unset, .unset, .unset, .unset] [(.int (if (p5 &&& (1 : Int32)) = (0 : Int32) then (0 : Int32) else (1 : Int32))), (.int p4), (.ref b17), (.ref b23), (.ref b23)])) rfl (by rw [hml]; rfl) (Steps.refl _) (a := b23) (argsL := [(.ref b17), (.int p4), (.int (if (p5 &&& (1 : Int32)) = (0 : Int32) then (0 : Int32) else (1 : Int32)))]) (rest := [(.ref b23)]) (lenOf pd0_0 rfl) rfl (by show 2 * 0 + _ ≤ _; exact Nat.le_of_eq rfl) (hb hby at_70) (fun _ _ => ⟨rfl, e23, (by decide : 2 + 0 ≤ _), (by decide : 5 + 0 ≤ _)⟩)
    dsimp only [Pt.U, Pt.locs, Pt.cells, Pt.slots] at X24 l24 y24 z24 st24 hQ24
    subst l24 y24 z24
    refine own_go (fun _ k => st24.trans k) ?_
    obtain ⟨rfl, N24q, K24, E24_, F24_0, F24_1, F24_2⟩ := hQ24
    have N24 := Fr.app N21 N24q
    have c24_1 := c23_1.keep K24 (fun q => by simp only [List.mem_cons, List.not_mem_nil, or_false] at q; exact ne_b17_b23 q)
    have Z24 : n0 ≤ T24.heap.size := Nat.le_trans Z23 K24.1
    show own_Go p.tables e below _ (T24.setTop (mkF m 73 #[.val (.int p0), .val (.int p1), .val (.int p2), .val (.int p3), .val (.int p4), .val (.int p5), .val (.int (2 : Int32)), .val (.ref b17), .val (.int (if (p5 &&& (1 : Int32)) = (0 : Int32) then (0 : Int32) else (1 : Int32))), .unset, .unset, .unset, .unset] [(.ref b23)]))
    refine own_go (fun _ k => XS.astore X24.here hx rfl (hb hby at_73) rfl rfl (l' := #[.val (.int p0), .val (.int p1), .val (.int p2), .val (.int p3), .val (.int p4), .val (.int p5), .val (.int (2 : Int32)), .val (.ref b17), .val (.int (if (p5 &&& (1 : Int32)) = (0 : Int32) then (0 : Int32) else (1 : Int32))), .val (.ref b23), .unset, .unset, .unset]) rfl k) ?_
    show own_Go p.tables e below _ (T24.setTop (mkF m 75 #[.val (.int p0), .val (.int p1), .val (.int p2), .val (.int p3), .val (.int p4), .val (.int p5), .val (.int (2 : Int32)), .val (.ref b17), .val (.int (if (p5 &&& (1 : Int32)) = (0 : Int32) then (0 : Int32) else (1 : Int32))), .val (.ref b23), .unset, .unset, .unset] []))
    refine own_go (fun _ k => XS.iload X24.here hx rfl (hb hby at_75) rfl k) ?_
    show own_Go p.tables e below _ (T24.setTop (mkF m 77 #[.val (.int p0), .val (.int p1), .val (.int p2), .val (.int p3), .val (.int p4), .val (.int p5), .val (.int (2 : Int32)), .val (.ref b17), .val (.int (if (p5 &&& (1 : Int32)) = (0 : Int32) then (0 : Int32) else (1 : Int32))), .val (.ref b23), .unset, .unset, .unset] [(.int (2 : Int32))]))
    refine own_go (fun _ k => XS.iloadN X24.here hx rfl (hb hby at_77) rfl k) ?_
    show own_Go p.tables e below _ (T24.setTop (mkF m 78 #[.val (.int p0), .val (.int p1), .val (.int p2), .val (.int p3), .val (.int p4), .val (.int p5), .val (.int (2 : Int32)), .val (.ref b17), .val (.int (if (p5 &&& (1 : Int32)) = (0 : Int32) then (0 : Int32) else (1 : Int32))), .val (.ref b23), .unset, .unset, .unset] [(.int p2), (.int (2 : Int32))]))
    refine own_go (fun _ k => XS.i2b X24.here hx rfl (hb hby at_78) rfl k) ?_
    show own_Go p.tables e below _ (T24.setTop (mkF m 79 #[.val (.int p0), .val (.int p1), .val (.int p2), .val (.int p3), .val (.int p4), .val (.int p5), .val (.int (2 : Int32)), .val (.ref b17), .val (.int (if (p5 &&& (1 : Int32)) = (0 : Int32) then (0 : Int32) else (1 : Int32))), .val (.ref b23), .unset, .unset, .unset] [(.int (p2.toInt8.toInt32)), (.int (2 : Int32))]))
    obtain ⟨_, _, ⟨T25, L25, k25, n25⟩, -, X25, ⟨Lc25, hQ25, l25, y25, z25⟩, st25⟩ := Jvm.LawKit.callS X24 hx (y := (⟨"com/example/labframe/labframe/wire/FrameNumberPinLaw", "expected", "(IB)I"⟩ : MethodName)) hown (mvT hZ (hw _ (List.mem_of_getElem? (i := 16) rfl))) (mvT hZ (hw _ (List.mem_of_getElem? (i := 17) rfl))) (mvT hZ (hw _ (List.mem_of_getElem? (i := 18) rfl))) (mvT hZ (hw _ (List.mem_of_getElem? (i := 19) rfl))) (by decide) (backOf (W := 0) (rm2 l Z az hw [] (2 : Int32) (p2.toInt8.toInt32) T24.heap n0 Z24) hZ (hw _ (List.mem_of_getElem? (i := 19) rfl)) (hw _ (List.mem_of_getElem? (i := 18) rfl)) (by decide) (by decide)) (g := (mkF m 79 #[.val (.int p0), .val (.int p1), .val (.int p2), .val (.int p3), .val (.int p4), .val (.int p5), .val (.int (2 : Int32)), .val (.ref b17), .val (.int (if (p5 &&& (1 : Int32)) = (0 : Int32) then (0 : Int32) else (1 : Int32))), .val (.ref b23), .unset, .unset, .unset] [(.int (p2.toInt8.toInt32)), (.int (2 : Int32))])) rfl (by rw [hml]; rfl) (argsL := [(.int (2 : Int32)), (.int (p2.toInt8.toInt32))]) (rest := []) (lenOf pd0_1 rfl) rfl (by show 2 * 0 + _ ≤ _; exact Nat.le_of_eq rfl) (hb hby at_79) (fun _ _ => ⟨rfl, rfl, (by decide : 2 + 0 ≤ _), (by decide : 5 + 0 ≤ _)⟩)
    dsimp only [Pt.U, Pt.locs, Pt.cells, Pt.slots] at X25 l25 y25 z25 st25 hQ25
    subst l25 y25 z25
    refine own_go st25 ?_
    obtain ⟨rfl, N25q, e25⟩ := hQ25
    have N25 := Fr.app N24 N25q
    show own_Go p.tables e below _ (T25.setTop (mkF m 82 #[.val (.int p0), .val (.int p1), .val (.int p2), .val (.int p3), .val (.int p4), .val (.int p5), .val (.int (2 : Int32)), .val (.ref b17), .val (.int (if (p5 &&& (1 : Int32)) = (0 : Int32) then (0 : Int32) else (1 : Int32))), .val (.ref b23), .unset, .unset, .unset] [(.int (own_f2 (2 : Int32) (p2.toInt8.toInt32)))]))
    refine own_go (fun _ k => XS.istore X25.here hx rfl (hb hby at_82) rfl (l' := #[.val (.int p0), .val (.int p1), .val (.int p2), .val (.int p3), .val (.int p4), .val (.int p5), .val (.int (2 : Int32)), .val (.ref b17), .val (.int (if (p5 &&& (1 : Int32)) = (0 : Int32) then (0 : Int32) else (1 : Int32))), .val (.ref b23), .val (.int (own_f2 (2 : Int32) (p2.toInt8.toInt32))), .unset, .unset]) rfl k) ?_
    show own_Go p.tables e below _ (T25.setTop (mkF m 84 #[.val (.int p0), .val (.int p1), .val (.int p2), .val (.int p3), .val (.int p4), .val (.int p5), .val (.int (2 : Int32)), .val (.ref b17), .val (.int (if (p5 &&& (1 : Int32)) = (0 : Int32) then (0 : Int32) else (1 : Int32))), .val (.ref b23), .val (.int (own_f2 (2 : Int32) (p2.toInt8.toInt32))), .unset, .unset] []))
    refine own_go (fun _ k => XS.aload X25.here hx rfl (hb hby at_84) rfl rfl k) ?_
    show own_Go p.tables e below _ (T25.setTop (mkF m 86 #[.val (.int p0), .val (.int p1), .val (.int p2), .val (.int p3), .val (.int p4), .val (.int p5), .val (.int (2 : Int32)), .val (.ref b17), .val (.int (if (p5 &&& (1 : Int32)) = (0 : Int32) then (0 : Int32) else (1 : Int32))), .val (.ref b23), .val (.int (own_f2 (2 : Int32) (p2.toInt8.toInt32))), .unset, .unset] [(.ref b23)]))
    obtain ⟨cq26, kq26, q26a, q26b, q26c⟩ := isOf hZ (e25 : T25.heap = T24.heap) E24_
    obtain ⟨_, _, ⟨T26, L26, k26, n26⟩, -, X26, ⟨Lc26, hQ26, l26, y26, z26⟩, st26⟩ := X25.virtualBack hx (y := (⟨"com/example/labframe/labframe/wire/Frame", "number", "()I"⟩ : MethodName)) (z := (⟨"com/example/labframe/labframe/wire/Frame", "number", "()I"⟩ : MethodName)) hown (mvT hZ (hw _ (List.mem_of_getElem? (i := 20) rfl))) (mvT hZ (hw _ (List.mem_of_getElem? (i := 21) rfl))) (notFace_of_selects (args := #[]) (mvT hZ (hw _ (List.mem_of_getElem? (i := 23) rfl)))) (mvT hZ (hw _ (List.mem_of_getElem? (i := 23) rfl))) (mvT hZ (hw _ (List.mem_of_getElem? (i := 22) rfl))) (by decide) (backOf (W := 0) (rm3 l Z az hw [] b23 b17 k17 (2 : Int32) [((p1.toInt8.toInt32).toInt8.toInt32), ((p2.toInt8.toInt32).toInt8.toInt32)] T24.heap n0 Z24 F24_0 c24_1) hZ (hw _ (List.mem_of_getElem? (i := 24) rfl)) (hw _ (List.mem_of_getElem? (i := 3) rfl)) (by decide) (by decide)) q26a q26c (g := (mkF m 86 #[.val (.int p0), .val (.int p1), .val (.int p2), .val (.int p3), .val (.int p4), .val (.int p5), .val (.int (2 : Int32)), .val (.ref b17), .val (.int (if (p5 &&& (1 : Int32)) = (0 : Int32) then (0 : Int32) else (1 : Int32))), .val (.ref b23), .val (.int (own_f2 (2 : Int32) (p2.toInt8.toInt32))), .unset, .unset] [(.ref b23)])) rfl (by rw [hml]; rfl) (Steps.refl _) (argsL := []) (rest := []) (lenOf pd0_2 rfl) rfl (by show 2 * 0 + _ ≤ _; exact Nat.le_of_eq rfl) (hb hby at_86) (fun _ _ => ⟨rfl, (e25 : T25.heap = T24.heap), (by decide : 2 + 0 ≤ _), (by decide : 5 + 0 ≤ _)⟩)
    dsimp only [Pt.U, Pt.locs, Pt.cells, Pt.slots] at X26 l26 y26 z26 st26 hQ26
    subst l26 y26 z26
    refine own_go (fun _ k => st26.trans k) ?_
    obtain ⟨rfl, N26q, e26⟩ := hQ26
    have N26 := Fr.app N25 N26q
    show own_Go p.tables e below _ (T26.setTop (mkF m 89 #[.val (.int p0), .val (.int p1), .val (.int p2), .val (.int p3), .val (.int p4), .val (.int p5), .val (.int (2 : Int32)), .val (.ref b17), .val (.int (if (p5 &&& (1 : Int32)) = (0 : Int32) then (0 : Int32) else (1 : Int32))), .val (.ref b23), .val (.int (own_f2 (2 : Int32) (p2.toInt8.toInt32))), .unset, .unset] [(.int (own_f3 (2 : Int32) [((p1.toInt8.toInt32).toInt8.toInt32), ((p2.toInt8.toInt32).toInt8.toInt32)]))]))
    refine own_go (fun _ k => XS.istore X26.here hx rfl (hb hby at_89) rfl (l' := #[.val (.int p0), .val (.int p1), .val (.int p2), .val (.int p3), .val (.int p4), .val (.int p5), .val (.int (2 : Int32)), .val (.ref b17), .val (.int (if (p5 &&& (1 : Int32)) = (0 : Int32) then (0 : Int32) else (1 : Int32))), .val (.ref b23), .val (.int (own_f2 (2 : Int32) (p2.toInt8.toInt32))), .val (.int (own_f3 (2 : Int32) [((p1.toInt8.toInt32).toInt8.toInt32), ((p2.toInt8.toInt32).toInt8.toInt32)])), .unset]) rfl k) ?_
    show own_Go p.tables e below _ (T26.setTop (mkF m 91 #[.val (.int p0), .val (.int p1), .val (.int p2), .val (.int p3), .val (.int p4), .val (.int p5), .val (.int (2 : Int32)), .val (.ref b17), .val (.int (if (p5 &&& (1 : Int32)) = (0 : Int32) then (0 : Int32) else (1 : Int32))), .val (.ref b23), .val (.int (own_f2 (2 : Int32) (p2.toInt8.toInt32))), .val (.int (own_f3 (2 : Int32) [((p1.toInt8.toInt32).toInt8.toInt32), ((p2.toInt8.toInt32).toInt8.toInt32)])), .unset] []))
    refine own_go (fun _ k => XS.aload X26.here hx rfl (hb hby at_91) rfl rfl k) ?_
    show own_Go p.tables e below _ (T26.setTop (mkF m 93 #[.val (.int p0), .val (.int p1), .val (.int p2), .val (.int p3), .val (.int p4), .val (.int p5), .val (.int (2 : Int32)), .val (.ref b17), .val (.int (if (p5 &&& (1 : Int32)) = (0 : Int32) then (0 : Int32) else (1 : Int32))), .val (.ref b23), .val (.int (own_f2 (2 : Int32) (p2.toInt8.toInt32))), .val (.int (own_f3 (2 : Int32) [((p1.toInt8.toInt32).toInt8.toInt32), ((p2.toInt8.toInt32).toInt8.toInt32)])), .unset] [(.ref b23)]))
    obtain ⟨cq27, kq27, q27a, q27b, q27c⟩ := isOf hZ (e26 : T26.heap = T24.heap) E24_
    obtain ⟨_, _, ⟨T27, L27, k27, n27⟩, -, X27, ⟨Lc27, hQ27, l27, y27, z27⟩, st27⟩ := X26.virtualBack hx (y := (⟨"com/example/labframe/labframe/wire/Frame", "number", "()I"⟩ : MethodName)) (z := (⟨"com/example/labframe/labframe/wire/Frame", "number", "()I"⟩ : MethodName)) hown (mvT hZ (hw _ (List.mem_of_getElem? (i := 20) rfl))) (mvT hZ (hw _ (List.mem_of_getElem? (i := 21) rfl))) (notFace_of_selects (args := #[]) (mvT hZ (hw _ (List.mem_of_getElem? (i := 23) rfl)))) (mvT hZ (hw _ (List.mem_of_getElem? (i := 23) rfl))) (mvT hZ (hw _ (List.mem_of_getElem? (i := 22) rfl))) (by decide) (backOf (W := 0) (rm3 l Z az hw [] b23 b17 k17 (2 : Int32) [((p1.toInt8.toInt32).toInt8.toInt32), ((p2.toInt8.toInt32).toInt8.toInt32)] T24.heap n0 Z24 F24_0 c24_1) hZ (hw _ (List.mem_of_getElem? (i := 24) rfl)) (hw _ (List.mem_of_getElem? (i := 3) rfl)) (by decide) (by decide)) q27a q27c (g := (mkF m 93 #[.val (.int p0), .val (.int p1), .val (.int p2), .val (.int p3), .val (.int p4), .val (.int p5), .val (.int (2 : Int32)), .val (.ref b17), .val (.int (if (p5 &&& (1 : Int32)) = (0 : Int32) then (0 : Int32) else (1 : Int32))), .val (.ref b23), .val (.int (own_f2 (2 : Int32) (p2.toInt8.toInt32))), .val (.int (own_f3 (2 : Int32) [((p1.toInt8.toInt32).toInt8.toInt32), ((p2.toInt8.toInt32).toInt8.toInt32)])), .unset] [(.ref b23)])) rfl (by rw [hml]; rfl) (Steps.refl _) (argsL := []) (rest := []) (lenOf pd0_2 rfl) rfl (by show 2 * 0 + _ ≤ _; exact Nat.le_of_eq rfl) (hb hby at_93) (fun _ _ => ⟨rfl, (e26 : T26.heap = T24.heap), (by decide : 2 + 0 ≤ _), (by decide : 5 + 0 ≤ _)⟩)
    dsimp only [Pt.U, Pt.locs, Pt.cells, Pt.slots] at X27 l27 y27 z27 st27 hQ27
    subst l27 y27 z27
    refine own_go (fun _ k => st27.trans k) ?_
    obtain ⟨rfl, N27q, e27⟩ := hQ27
    have N27 := Fr.app N26 N27q
    show own_Go p.tables e below _ (T27.setTop (mkF m 96 #[.val (.int p0), .val (.int p1), .val (.int p2), .val (.int p3), .val (.int p4), .val (.int p5), .val (.int (2 : Int32)), .val (.ref b17), .val (.int (if (p5 &&& (1 : Int32)) = (0 : Int32) then (0 : Int32) else (1 : Int32))), .val (.ref b23), .val (.int (own_f2 (2 : Int32) (p2.toInt8.toInt32))), .val (.int (own_f3 (2 : Int32) [((p1.toInt8.toInt32).toInt8.toInt32), ((p2.toInt8.toInt32).toInt8.toInt32)])), .unset] [(.int (own_f3 (2 : Int32) [((p1.toInt8.toInt32).toInt8.toInt32), ((p2.toInt8.toInt32).toInt8.toInt32)]))]))
    refine own_go (fun _ k => XS.istore X27.here hx rfl (hb hby at_96) rfl (l' := #[.val (.int p0), .val (.int p1), .val (.int p2), .val (.int p3), .val (.int p4), .val (.int p5), .val (.int (2 : Int32)), .val (.ref b17), .val (.int (if (p5 &&& (1 : Int32)) = (0 : Int32) then (0 : Int32) else (1 : Int32))), .val (.ref b23), .val (.int (own_f2 (2 : Int32) (p2.toInt8.toInt32))), .val (.int (own_f3 (2 : Int32) [((p1.toInt8.toInt32).toInt8.toInt32), ((p2.toInt8.toInt32).toInt8.toInt32)])), .val (.int (own_f3 (2 : Int32) [((p1.toInt8.toInt32).toInt8.toInt32), ((p2.toInt8.toInt32).toInt8.toInt32)]))]) rfl k) ?_
    show own_Go p.tables e below _ (T27.setTop (mkF m 98 #[.val (.int p0), .val (.int p1), .val (.int p2), .val (.int p3), .val (.int p4), .val (.int p5), .val (.int (2 : Int32)), .val (.ref b17), .val (.int (if (p5 &&& (1 : Int32)) = (0 : Int32) then (0 : Int32) else (1 : Int32))), .val (.ref b23), .val (.int (own_f2 (2 : Int32) (p2.toInt8.toInt32))), .val (.int (own_f3 (2 : Int32) [((p1.toInt8.toInt32).toInt8.toInt32), ((p2.toInt8.toInt32).toInt8.toInt32)])), .val (.int (own_f3 (2 : Int32) [((p1.toInt8.toInt32).toInt8.toInt32), ((p2.toInt8.toInt32).toInt8.toInt32)]))] []))
    refine own_go (fun _ k => XS.iload X27.here hx rfl (hb hby at_98) rfl k) ?_
    show own_Go p.tables e below _ (T27.setTop (mkF m 100 #[.val (.int p0), .val (.int p1), .val (.int p2), .val (.int p3), .val (.int p4), .val (.int p5), .val (.int (2 : Int32)), .val (.ref b17), .val (.int (if (p5 &&& (1 : Int32)) = (0 : Int32) then (0 : Int32) else (1 : Int32))), .val (.ref b23), .val (.int (own_f2 (2 : Int32) (p2.toInt8.toInt32))), .val (.int (own_f3 (2 : Int32) [((p1.toInt8.toInt32).toInt8.toInt32), ((p2.toInt8.toInt32).toInt8.toInt32)])), .val (.int (own_f3 (2 : Int32) [((p1.toInt8.toInt32).toInt8.toInt32), ((p2.toInt8.toInt32).toInt8.toInt32)]))] [(.int (own_f3 (2 : Int32) [((p1.toInt8.toInt32).toInt8.toInt32), ((p2.toInt8.toInt32).toInt8.toInt32)]))]))
    refine own_go (fun _ k => XS.iload X27.here hx rfl (hb hby at_100) rfl k) ?_
    show own_Go p.tables e below _ (T27.setTop (mkF m 102 #[.val (.int p0), .val (.int p1), .val (.int p2), .val (.int p3), .val (.int p4), .val (.int p5), .val (.int (2 : Int32)), .val (.ref b17), .val (.int (if (p5 &&& (1 : Int32)) = (0 : Int32) then (0 : Int32) else (1 : Int32))), .val (.ref b23), .val (.int (own_f2 (2 : Int32) (p2.toInt8.toInt32))), .val (.int (own_f3 (2 : Int32) [((p1.toInt8.toInt32).toInt8.toInt32), ((p2.toInt8.toInt32).toInt8.toInt32)])), .val (.int (own_f3 (2 : Int32) [((p1.toInt8.toInt32).toInt8.toInt32), ((p2.toInt8.toInt32).toInt8.toInt32)]))] [(.int (own_f2 (2 : Int32) (p2.toInt8.toInt32))), (.int (own_f3 (2 : Int32) [((p1.toInt8.toInt32).toInt8.toInt32), ((p2.toInt8.toInt32).toInt8.toInt32)]))]))
    have hf102 : (own_f3 (2 : Int32) [((p1.toInt8.toInt32).toInt8.toInt32), ((p2.toInt8.toInt32).toInt8.toInt32)]) = (own_f2 (2 : Int32) (p2.toInt8.toInt32)) := (own_v (p := p2) (fun _ => rfl)).1
    refine own_go (fun _ k => XS.icmpNo X27.here hx rfl (hb hby at_102) rfl (teq hf102).2 k) ?_
    show own_Go p.tables e below _ (T27.setTop (mkF m 105 #[.val (.int p0), .val (.int p1), .val (.int p2), .val (.int p3), .val (.int p4), .val (.int p5), .val (.int (2 : Int32)), .val (.ref b17), .val (.int (if (p5 &&& (1 : Int32)) = (0 : Int32) then (0 : Int32) else (1 : Int32))), .val (.ref b23), .val (.int (own_f2 (2 : Int32) (p2.toInt8.toInt32))), .val (.int (own_f3 (2 : Int32) [((p1.toInt8.toInt32).toInt8.toInt32), ((p2.toInt8.toInt32).toInt8.toInt32)])), .val (.int (own_f3 (2 : Int32) [((p1.toInt8.toInt32).toInt8.toInt32), ((p2.toInt8.toInt32).toInt8.toInt32)]))] []))
    refine own_go (fun _ k => XS.iload X27.here hx rfl (hb hby at_105) rfl k) ?_
    show own_Go p.tables e below _ (T27.setTop (mkF m 107 #[.val (.int p0), .val (.int p1), .val (.int p2), .val (.int p3), .val (.int p4), .val (.int p5), .val (.int (2 : Int32)), .val (.ref b17), .val (.int (if (p5 &&& (1 : Int32)) = (0 : Int32) then (0 : Int32) else (1 : Int32))), .val (.ref b23), .val (.int (own_f2 (2 : Int32) (p2.toInt8.toInt32))), .val (.int (own_f3 (2 : Int32) [((p1.toInt8.toInt32).toInt8.toInt32), ((p2.toInt8.toInt32).toInt8.toInt32)])), .val (.int (own_f3 (2 : Int32) [((p1.toInt8.toInt32).toInt8.toInt32), ((p2.toInt8.toInt32).toInt8.toInt32)]))] [(.int (own_f3 (2 : Int32) [((p1.toInt8.toInt32).toInt8.toInt32), ((p2.toInt8.toInt32).toInt8.toInt32)]))]))
    refine own_go (fun _ k => XS.iload X27.here hx rfl (hb hby at_107) rfl k) ?_
    show own_Go p.tables e below _ (T27.setTop (mkF m 109 #[.val (.int p0), .val (.int p1), .val (.int p2), .val (.int p3), .val (.int p4), .val (.int p5), .val (.int (2 : Int32)), .val (.ref b17), .val (.int (if (p5 &&& (1 : Int32)) = (0 : Int32) then (0 : Int32) else (1 : Int32))), .val (.ref b23), .val (.int (own_f2 (2 : Int32) (p2.toInt8.toInt32))), .val (.int (own_f3 (2 : Int32) [((p1.toInt8.toInt32).toInt8.toInt32), ((p2.toInt8.toInt32).toInt8.toInt32)])), .val (.int (own_f3 (2 : Int32) [((p1.toInt8.toInt32).toInt8.toInt32), ((p2.toInt8.toInt32).toInt8.toInt32)]))] [(.int (own_f2 (2 : Int32) (p2.toInt8.toInt32))), (.int (own_f3 (2 : Int32) [((p1.toInt8.toInt32).toInt8.toInt32), ((p2.toInt8.toInt32).toInt8.toInt32)]))]))
    have hf109 : (own_f3 (2 : Int32) [((p1.toInt8.toInt32).toInt8.toInt32), ((p2.toInt8.toInt32).toInt8.toInt32)]) = (own_f2 (2 : Int32) (p2.toInt8.toInt32)) := (own_v (p := p2) (fun _ => rfl)).1
    refine own_go (fun _ k => XS.icmpNo X27.here hx rfl (hb hby at_109) rfl (teq hf109).2 k) ?_
    show own_Go p.tables e below _ (T27.setTop (mkF m 112 #[.val (.int p0), .val (.int p1), .val (.int p2), .val (.int p3), .val (.int p4), .val (.int p5), .val (.int (2 : Int32)), .val (.ref b17), .val (.int (if (p5 &&& (1 : Int32)) = (0 : Int32) then (0 : Int32) else (1 : Int32))), .val (.ref b23), .val (.int (own_f2 (2 : Int32) (p2.toInt8.toInt32))), .val (.int (own_f3 (2 : Int32) [((p1.toInt8.toInt32).toInt8.toInt32), ((p2.toInt8.toInt32).toInt8.toInt32)])), .val (.int (own_f3 (2 : Int32) [((p1.toInt8.toInt32).toInt8.toInt32), ((p2.toInt8.toInt32).toInt8.toInt32)]))] []))
    refine own_go (fun _ k => XS.iload X27.here hx rfl (hb hby at_112) rfl k) ?_
    show own_Go p.tables e below _ (T27.setTop (mkF m 114 #[.val (.int p0), .val (.int p1), .val (.int p2), .val (.int p3), .val (.int p4), .val (.int p5), .val (.int (2 : Int32)), .val (.ref b17), .val (.int (if (p5 &&& (1 : Int32)) = (0 : Int32) then (0 : Int32) else (1 : Int32))), .val (.ref b23), .val (.int (own_f2 (2 : Int32) (p2.toInt8.toInt32))), .val (.int (own_f3 (2 : Int32) [((p1.toInt8.toInt32).toInt8.toInt32), ((p2.toInt8.toInt32).toInt8.toInt32)])), .val (.int (own_f3 (2 : Int32) [((p1.toInt8.toInt32).toInt8.toInt32), ((p2.toInt8.toInt32).toInt8.toInt32)]))] [(.int (own_f3 (2 : Int32) [((p1.toInt8.toInt32).toInt8.toInt32), ((p2.toInt8.toInt32).toInt8.toInt32)]))]))
    refine own_go (fun _ k => XS.iconst X27.here hx rfl (hb hby at_114) k) ?_
    show own_Go p.tables e below _ (T27.setTop (mkF m 115 #[.val (.int p0), .val (.int p1), .val (.int p2), .val (.int p3), .val (.int p4), .val (.int p5), .val (.int (2 : Int32)), .val (.ref b17), .val (.int (if (p5 &&& (1 : Int32)) = (0 : Int32) then (0 : Int32) else (1 : Int32))), .val (.ref b23), .val (.int (own_f2 (2 : Int32) (p2.toInt8.toInt32))), .val (.int (own_f3 (2 : Int32) [((p1.toInt8.toInt32).toInt8.toInt32), ((p2.toInt8.toInt32).toInt8.toInt32)])), .val (.int (own_f3 (2 : Int32) [((p1.toInt8.toInt32).toInt8.toInt32), ((p2.toInt8.toInt32).toInt8.toInt32)]))] [(.int (-1 : Int32)), (.int (own_f3 (2 : Int32) [((p1.toInt8.toInt32).toInt8.toInt32), ((p2.toInt8.toInt32).toInt8.toInt32)]))]))
    have hf115 : ¬ ((own_f3 (2 : Int32) [((p1.toInt8.toInt32).toInt8.toInt32), ((p2.toInt8.toInt32).toInt8.toInt32)]) < (-1 : Int32)) := (own_v (p := p2) (fun _ => rfl)).2.1
    refine own_go (fun _ k => XS.icmpNo X27.here hx rfl (hb hby at_115) rfl (flt hf115).1 k) ?_
    show own_Go p.tables e below _ (T27.setTop (mkF m 118 #[.val (.int p0), .val (.int p1), .val (.int p2), .val (.int p3), .val (.int p4), .val (.int p5), .val (.int (2 : Int32)), .val (.ref b17), .val (.int (if (p5 &&& (1 : Int32)) = (0 : Int32) then (0 : Int32) else (1 : Int32))), .val (.ref b23), .val (.int (own_f2 (2 : Int32) (p2.toInt8.toInt32))), .val (.int (own_f3 (2 : Int32) [((p1.toInt8.toInt32).toInt8.toInt32), ((p2.toInt8.toInt32).toInt8.toInt32)])), .val (.int (own_f3 (2 : Int32) [((p1.toInt8.toInt32).toInt8.toInt32), ((p2.toInt8.toInt32).toInt8.toInt32)]))] []))
    refine own_go (fun _ k => XS.iload X27.here hx rfl (hb hby at_118) rfl k) ?_
    show own_Go p.tables e below _ (T27.setTop (mkF m 120 #[.val (.int p0), .val (.int p1), .val (.int p2), .val (.int p3), .val (.int p4), .val (.int p5), .val (.int (2 : Int32)), .val (.ref b17), .val (.int (if (p5 &&& (1 : Int32)) = (0 : Int32) then (0 : Int32) else (1 : Int32))), .val (.ref b23), .val (.int (own_f2 (2 : Int32) (p2.toInt8.toInt32))), .val (.int (own_f3 (2 : Int32) [((p1.toInt8.toInt32).toInt8.toInt32), ((p2.toInt8.toInt32).toInt8.toInt32)])), .val (.int (own_f3 (2 : Int32) [((p1.toInt8.toInt32).toInt8.toInt32), ((p2.toInt8.toInt32).toInt8.toInt32)]))] [(.int (own_f3 (2 : Int32) [((p1.toInt8.toInt32).toInt8.toInt32), ((p2.toInt8.toInt32).toInt8.toInt32)]))]))
    refine own_go (fun _ k => XS.bipush X27.here hx rfl (hb hby at_120) k) ?_
    show own_Go p.tables e below _ (T27.setTop (mkF m 122 #[.val (.int p0), .val (.int p1), .val (.int p2), .val (.int p3), .val (.int p4), .val (.int p5), .val (.int (2 : Int32)), .val (.ref b17), .val (.int (if (p5 &&& (1 : Int32)) = (0 : Int32) then (0 : Int32) else (1 : Int32))), .val (.ref b23), .val (.int (own_f2 (2 : Int32) (p2.toInt8.toInt32))), .val (.int (own_f3 (2 : Int32) [((p1.toInt8.toInt32).toInt8.toInt32), ((p2.toInt8.toInt32).toInt8.toInt32)])), .val (.int (own_f3 (2 : Int32) [((p1.toInt8.toInt32).toInt8.toInt32), ((p2.toInt8.toInt32).toInt8.toInt32)]))] [(.int (7 : Int32)), (.int (own_f3 (2 : Int32) [((p1.toInt8.toInt32).toInt8.toInt32), ((p2.toInt8.toInt32).toInt8.toInt32)]))]))
    have hf122 : ¬ ((7 : Int32) < (own_f3 (2 : Int32) [((p1.toInt8.toInt32).toInt8.toInt32), ((p2.toInt8.toInt32).toInt8.toInt32)])) := (own_v (p := p2) (fun _ => rfl)).2.2
    refine own_go (fun _ k => XS.icmpNo X27.here hx rfl (hb hby at_122) rfl (flt hf122).2.2.1 k) ?_
    show own_Go p.tables e below _ (T27.setTop (mkF m 125 #[.val (.int p0), .val (.int p1), .val (.int p2), .val (.int p3), .val (.int p4), .val (.int p5), .val (.int (2 : Int32)), .val (.ref b17), .val (.int (if (p5 &&& (1 : Int32)) = (0 : Int32) then (0 : Int32) else (1 : Int32))), .val (.ref b23), .val (.int (own_f2 (2 : Int32) (p2.toInt8.toInt32))), .val (.int (own_f3 (2 : Int32) [((p1.toInt8.toInt32).toInt8.toInt32), ((p2.toInt8.toInt32).toInt8.toInt32)])), .val (.int (own_f3 (2 : Int32) [((p1.toInt8.toInt32).toInt8.toInt32), ((p2.toInt8.toInt32).toInt8.toInt32)]))] []))
    refine own_go (fun _ k => XS.iconst X27.here hx rfl (hb hby at_125) k) ?_
    show own_Go p.tables e below _ (T27.setTop (mkF m 126 #[.val (.int p0), .val (.int p1), .val (.int p2), .val (.int p3), .val (.int p4), .val (.int p5), .val (.int (2 : Int32)), .val (.ref b17), .val (.int (if (p5 &&& (1 : Int32)) = (0 : Int32) then (0 : Int32) else (1 : Int32))), .val (.ref b23), .val (.int (own_f2 (2 : Int32) (p2.toInt8.toInt32))), .val (.int (own_f3 (2 : Int32) [((p1.toInt8.toInt32).toInt8.toInt32), ((p2.toInt8.toInt32).toInt8.toInt32)])), .val (.int (own_f3 (2 : Int32) [((p1.toInt8.toInt32).toInt8.toInt32), ((p2.toInt8.toInt32).toInt8.toInt32)]))] [(.int (1 : Int32))]))
    refine own_go (fun _ k => XS.goto X27.here hx rfl (pc0 := 126) (pc' := 130) rfl (hb hby at_126) (by decide) (by decide) k) ?_
    show own_Go p.tables e below _ (T27.setTop (mkF m 130 #[.val (.int p0), .val (.int p1), .val (.int p2), .val (.int p3), .val (.int p4), .val (.int p5), .val (.int (2 : Int32)), .val (.ref b17), .val (.int (if (p5 &&& (1 : Int32)) = (0 : Int32) then (0 : Int32) else (1 : Int32))), .val (.ref b23), .val (.int (own_f2 (2 : Int32) (p2.toInt8.toInt32))), .val (.int (own_f3 (2 : Int32) [((p1.toInt8.toInt32).toInt8.toInt32), ((p2.toInt8.toInt32).toInt8.toInt32)])), .val (.int (own_f3 (2 : Int32) [((p1.toInt8.toInt32).toInt8.toInt32), ((p2.toInt8.toInt32).toInt8.toInt32)]))] [(.int (1 : Int32))]))
    refine own_end X27 Bd.notSynchronized (v := some (.int (1 : Int32))) (fun h => by rw [Bd.returns] at h; cases h) (fun fs hr => retN X27 hx (t := .boolean) Bd.returns (by simp) (hb hby at_130) hr) ?_ (by decide) (by decide)
    exact ⟨rfl, N27⟩
  · subst h4
    show own_Go p.tables e below _ (s₁.setTop (mkF m 5 #[.val (.int p0), .val (.int p1), .val (.int p2), .val (.int p3), .val (.int p4), .val (.int p5), .val (.int (3 : Int32)), .unset, .unset, .unset, .unset, .unset, .unset] []))
    refine own_go (fun _ k => XS.iload X0.here hx rfl (hb hby at_5) rfl k) ?_
    show own_Go p.tables e below _ (s₁.setTop (mkF m 7 #[.val (.int p0), .val (.int p1), .val (.int p2), .val (.int p3), .val (.int p4), .val (.int p5), .val (.int (3 : Int32)), .unset, .unset, .unset, .unset, .unset, .unset] [(.int (3 : Int32))]))
    obtain ⟨T28, h28, k28, X28, e28, E28, A28, st28⟩ := newP X0 hx hZ (hw _ (List.mem_of_getElem? (i := 0) rfl)) e0 (g := (mkF m 7 #[.val (.int p0), .val (.int p1), .val (.int p2), .val (.int p3), .val (.int p4), .val (.int p5), .val (.int (3 : Int32)), .unset, .unset, .unset, .unset, .unset, .unset] [(.int (3 : Int32))])) rfl (hb hby at_7) rfl (by decide) (cap := 3) (by decide) (by decide) (by decide) (by decide)
    obtain ⟨b28, g28⟩ : ∃ z, z = h0.size := ⟨_, rfl⟩
    rw [← g28] at A28 st28
    have g_b28 : n0 ≤ b28 := Nat.le_trans Z0 (Nat.le_of_eq g28.symm)
    have Z28 : n0 ≤ h28.size := Nat.le_trans Z0 E28.1
    have V28 : Arv Z h28 b28 k28 .byte (3 : Int32) [(.int (0 : Int32)), (.int (0 : Int32)), (.int (0 : Int32))] (.int (0 : Int32)) := (Arv.new A28 (by decide)).pad (pad_rep [] (.int (0 : Int32)) 3)
    refine own_go st28 ?_
    show own_Go p.tables e below _ (T28.setTop (mkF m 9 #[.val (.int p0), .val (.int p1), .val (.int p2), .val (.int p3), .val (.int p4), .val (.int p5), .val (.int (3 : Int32)), .unset, .unset, .unset, .unset, .unset, .unset] [(.ref b28)]))
    refine own_go (fun _ k => XS.astore X28.here hx rfl (hb hby at_9) rfl rfl (l' := #[.val (.int p0), .val (.int p1), .val (.int p2), .val (.int p3), .val (.int p4), .val (.int p5), .val (.int (3 : Int32)), .val (.ref b28), .unset, .unset, .unset, .unset, .unset]) rfl k) ?_
    show own_Go p.tables e below _ (T28.setTop (mkF m 11 #[.val (.int p0), .val (.int p1), .val (.int p2), .val (.int p3), .val (.int p4), .val (.int p5), .val (.int (3 : Int32)), .val (.ref b28), .unset, .unset, .unset, .unset, .unset] []))
    refine own_go (fun _ k => XS.iload X28.here hx rfl (hb hby at_11) rfl k) ?_
    show own_Go p.tables e below _ (T28.setTop (mkF m 13 #[.val (.int p0), .val (.int p1), .val (.int p2), .val (.int p3), .val (.int p4), .val (.int p5), .val (.int (3 : Int32)), .val (.ref b28), .unset, .unset, .unset, .unset, .unset] [(.int (3 : Int32))]))
    have hf13 : (0 : Int32) < (3 : Int32) := by decide
    refine own_go (fun _ k => XS.ifNo X28.here hx rfl (hb hby at_13) rfl ((if0 _ _).trans (tlt hf13).2.2.2) k) ?_
    show own_Go p.tables e below _ (T28.setTop (mkF m 16 #[.val (.int p0), .val (.int p1), .val (.int p2), .val (.int p3), .val (.int p4), .val (.int p5), .val (.int (3 : Int32)), .val (.ref b28), .unset, .unset, .unset, .unset, .unset] []))
    refine own_go (fun _ k => XS.aload X28.here hx rfl (hb hby at_16) rfl rfl k) ?_
    show own_Go p.tables e below _ (T28.setTop (mkF m 18 #[.val (.int p0), .val (.int p1), .val (.int p2), .val (.int p3), .val (.int p4), .val (.int p5), .val (.int (3 : Int32)), .val (.ref b28), .unset, .unset, .unset, .unset, .unset] [(.ref b28)]))
    refine own_go (fun _ k => XS.iconst X28.here hx rfl (hb hby at_18) k) ?_
    show own_Go p.tables e below _ (T28.setTop (mkF m 19 #[.val (.int p0), .val (.int p1), .val (.int p2), .val (.int p3), .val (.int p4), .val (.int p5), .val (.int (3 : Int32)), .val (.ref b28), .unset, .unset, .unset, .unset, .unset] [(.int (0 : Int32)), (.ref b28)]))
    refine own_go (fun _ k => XS.iloadN X28.here hx rfl (hb hby at_19) rfl k) ?_
    show own_Go p.tables e below _ (T28.setTop (mkF m 20 #[.val (.int p0), .val (.int p1), .val (.int p2), .val (.int p3), .val (.int p4), .val (.int p5), .val (.int (3 : Int32)), .val (.ref b28), .unset, .unset, .unset, .unset, .unset] [(.int p1), (.int (0 : Int32)), (.ref b28)]))
    refine own_go (fun _ k => XS.i2b X28.here hx rfl (hb hby at_20) rfl k) ?_
    show own_Go p.tables e below _ (T28.setTop (mkF m 21 #[.val (.int p0), .val (.int p1), .val (.int p2), .val (.int p3), .val (.int p4), .val (.int p5), .val (.int (3 : Int32)), .val (.ref b28), .unset, .unset, .unset, .unset, .unset] [(.int (p1.toInt8.toInt32)), (.int (0 : Int32)), (.ref b28)]))
    have vo29 := V28
    obtain ⟨cl29, Ar29, Aq29, AS29, AN29, AH29, AG29⟩ := vo29
    have hin30 : ¬ ((0 : Int32) < 0 ∨ cl29.slots.size ≤ ((0 : Int32)).toNatClampNeg) := inb_of AS29 ⟨by decide, by decide⟩
    obtain ⟨T30, h30, X30, e30, W30, st30⟩ := stB X28 hx hZ e28 Ar29 (j := (0 : Int32)) hin30 (g := (mkF m 21 #[.val (.int p0), .val (.int p1), .val (.int p2), .val (.int p3), .val (.int p4), .val (.int p5), .val (.int (3 : Int32)), .val (.ref b28), .unset, .unset, .unset, .unset, .unset] [(.int (p1.toInt8.toInt32)), (.int (0 : Int32)), (.ref b28)])) rfl rfl (hb hby at_21)
    have V30 : Arv Z h30 b28 k28 .byte (3 : Int32) [(.int ((p1.toInt8.toInt32).toInt8.toInt32)), (.int (0 : Int32)), (.int (0 : Int32))] (.int (0 : Int32)) := Arv.set Ar29 Aq29 AS29 AN29 AH29 AG29 (fits_nar_byte _) W30 0 rfl (Nat.le_of_ble_eq_true rfl)
    have N30 := Fr.snoc X30 N0 g_b28
    have Z30 : n0 ≤ h30.size := Nat.le_trans Z28 (Keep.of_wr W30).1
    refine own_go st30 ?_
    show own_Go p.tables e below _ (T30.setTop (mkF m 22 #[.val (.int p0), .val (.int p1), .val (.int p2), .val (.int p3), .val (.int p4), .val (.int p5), .val (.int (3 : Int32)), .val (.ref b28), .unset, .unset, .unset, .unset, .unset] []))
    refine own_go (fun _ k => XS.iload X30.here hx rfl (hb hby at_22) rfl k) ?_
    show own_Go p.tables e below _ (T30.setTop (mkF m 24 #[.val (.int p0), .val (.int p1), .val (.int p2), .val (.int p3), .val (.int p4), .val (.int p5), .val (.int (3 : Int32)), .val (.ref b28), .unset, .unset, .unset, .unset, .unset] [(.int (3 : Int32))]))
    refine own_go (fun _ k => XS.iconst X30.here hx rfl (hb hby at_24) k) ?_
    show own_Go p.tables e below _ (T30.setTop (mkF m 25 #[.val (.int p0), .val (.int p1), .val (.int p2), .val (.int p3), .val (.int p4), .val (.int p5), .val (.int (3 : Int32)), .val (.ref b28), .unset, .unset, .unset, .unset, .unset] [(.int (1 : Int32)), (.int (3 : Int32))]))
    have hf25 : (1 : Int32) < (3 : Int32) := by decide
    refine own_go (fun _ k => XS.icmpNo X30.here hx rfl (hb hby at_25) rfl (tlt hf25).2.2.2 k) ?_
    show own_Go p.tables e below _ (T30.setTop (mkF m 28 #[.val (.int p0), .val (.int p1), .val (.int p2), .val (.int p3), .val (.int p4), .val (.int p5), .val (.int (3 : Int32)), .val (.ref b28), .unset, .unset, .unset, .unset, .unset] []))
    refine own_go (fun _ k => XS.aload X30.here hx rfl (hb hby at_28) rfl rfl k) ?_
    show own_Go p.tables e below _ (T30.setTop (mkF m 30 #[.val (.int p0), .val (.int p1), .val (.int p2), .val (.int p3), .val (.int p4), .val (.int p5), .val (.int (3 : Int32)), .val (.ref b28), .unset, .unset, .unset, .unset, .unset] [(.ref b28)]))
    refine own_go (fun _ k => XS.iconst X30.here hx rfl (hb hby at_30) k) ?_
    show own_Go p.tables e below _ (T30.setTop (mkF m 31 #[.val (.int p0), .val (.int p1), .val (.int p2), .val (.int p3), .val (.int p4), .val (.int p5), .val (.int (3 : Int32)), .val (.ref b28), .unset, .unset, .unset, .unset, .unset] [(.int (1 : Int32)), (.ref b28)]))
    refine own_go (fun _ k => XS.iloadN X30.here hx rfl (hb hby at_31) rfl k) ?_
    show own_Go p.tables e below _ (T30.setTop (mkF m 32 #[.val (.int p0), .val (.int p1), .val (.int p2), .val (.int p3), .val (.int p4), .val (.int p5), .val (.int (3 : Int32)), .val (.ref b28), .unset, .unset, .unset, .unset, .unset] [(.int p2), (.int (1 : Int32)), (.ref b28)]))
    refine own_go (fun _ k => XS.i2b X30.here hx rfl (hb hby at_32) rfl k) ?_
    show own_Go p.tables e below _ (T30.setTop (mkF m 33 #[.val (.int p0), .val (.int p1), .val (.int p2), .val (.int p3), .val (.int p4), .val (.int p5), .val (.int (3 : Int32)), .val (.ref b28), .unset, .unset, .unset, .unset, .unset] [(.int (p2.toInt8.toInt32)), (.int (1 : Int32)), (.ref b28)]))
    have vo31 := V30
    obtain ⟨cl31, Ar31, Aq31, AS31, AN31, AH31, AG31⟩ := vo31
    have hin32 : ¬ ((1 : Int32) < 0 ∨ cl31.slots.size ≤ ((1 : Int32)).toNatClampNeg) := inb_of AS31 ⟨by decide, by decide⟩
    obtain ⟨T32, h32, X32, e32, W32, st32⟩ := stB X30 hx hZ e30 Ar31 (j := (1 : Int32)) hin32 (g := (mkF m 33 #[.val (.int p0), .val (.int p1), .val (.int p2), .val (.int p3), .val (.int p4), .val (.int p5), .val (.int (3 : Int32)), .val (.ref b28), .unset, .unset, .unset, .unset, .unset] [(.int (p2.toInt8.toInt32)), (.int (1 : Int32)), (.ref b28)])) rfl rfl (hb hby at_33)
    have V32 : Arv Z h32 b28 k28 .byte (3 : Int32) [(.int ((p1.toInt8.toInt32).toInt8.toInt32)), (.int ((p2.toInt8.toInt32).toInt8.toInt32)), (.int (0 : Int32))] (.int (0 : Int32)) := Arv.set Ar31 Aq31 AS31 AN31 AH31 AG31 (fits_nar_byte _) W32 1 rfl (Nat.le_of_ble_eq_true rfl)
    have N32 := Fr.snoc X32 N30 g_b28
    have Z32 : n0 ≤ h32.size := Nat.le_trans Z30 (Keep.of_wr W32).1
    refine own_go st32 ?_
    show own_Go p.tables e below _ (T32.setTop (mkF m 34 #[.val (.int p0), .val (.int p1), .val (.int p2), .val (.int p3), .val (.int p4), .val (.int p5), .val (.int (3 : Int32)), .val (.ref b28), .unset, .unset, .unset, .unset, .unset] []))
    refine own_go (fun _ k => XS.iload X32.here hx rfl (hb hby at_34) rfl k) ?_
    show own_Go p.tables e below _ (T32.setTop (mkF m 36 #[.val (.int p0), .val (.int p1), .val (.int p2), .val (.int p3), .val (.int p4), .val (.int p5), .val (.int (3 : Int32)), .val (.ref b28), .unset, .unset, .unset, .unset, .unset] [(.int (3 : Int32))]))
    refine own_go (fun _ k => XS.iconst X32.here hx rfl (hb hby at_36) k) ?_
    show own_Go p.tables e below _ (T32.setTop (mkF m 37 #[.val (.int p0), .val (.int p1), .val (.int p2), .val (.int p3), .val (.int p4), .val (.int p5), .val (.int (3 : Int32)), .val (.ref b28), .unset, .unset, .unset, .unset, .unset] [(.int (2 : Int32)), (.int (3 : Int32))]))
    have hf37 : (2 : Int32) < (3 : Int32) := by decide
    refine own_go (fun _ k => XS.icmpNo X32.here hx rfl (hb hby at_37) rfl (tlt hf37).2.2.2 k) ?_
    show own_Go p.tables e below _ (T32.setTop (mkF m 40 #[.val (.int p0), .val (.int p1), .val (.int p2), .val (.int p3), .val (.int p4), .val (.int p5), .val (.int (3 : Int32)), .val (.ref b28), .unset, .unset, .unset, .unset, .unset] []))
    refine own_go (fun _ k => XS.aload X32.here hx rfl (hb hby at_40) rfl rfl k) ?_
    show own_Go p.tables e below _ (T32.setTop (mkF m 42 #[.val (.int p0), .val (.int p1), .val (.int p2), .val (.int p3), .val (.int p4), .val (.int p5), .val (.int (3 : Int32)), .val (.ref b28), .unset, .unset, .unset, .unset, .unset] [(.ref b28)]))
    refine own_go (fun _ k => XS.iconst X32.here hx rfl (hb hby at_42) k) ?_
    show own_Go p.tables e below _ (T32.setTop (mkF m 43 #[.val (.int p0), .val (.int p1), .val (.int p2), .val (.int p3), .val (.int p4), .val (.int p5), .val (.int (3 : Int32)), .val (.ref b28), .unset, .unset, .unset, .unset, .unset] [(.int (2 : Int32)), (.ref b28)]))
    refine own_go (fun _ k => XS.iloadN X32.here hx rfl (hb hby at_43) rfl k) ?_
    show own_Go p.tables e below _ (T32.setTop (mkF m 44 #[.val (.int p0), .val (.int p1), .val (.int p2), .val (.int p3), .val (.int p4), .val (.int p5), .val (.int (3 : Int32)), .val (.ref b28), .unset, .unset, .unset, .unset, .unset] [(.int p3), (.int (2 : Int32)), (.ref b28)]))
    refine own_go (fun _ k => XS.i2b X32.here hx rfl (hb hby at_44) rfl k) ?_
    show own_Go p.tables e below _ (T32.setTop (mkF m 45 #[.val (.int p0), .val (.int p1), .val (.int p2), .val (.int p3), .val (.int p4), .val (.int p5), .val (.int (3 : Int32)), .val (.ref b28), .unset, .unset, .unset, .unset, .unset] [(.int (p3.toInt8.toInt32)), (.int (2 : Int32)), (.ref b28)]))
    have vo33 := V32
    obtain ⟨cl33, Ar33, Aq33, AS33, AN33, AH33, AG33⟩ := vo33
    have hin34 : ¬ ((2 : Int32) < 0 ∨ cl33.slots.size ≤ ((2 : Int32)).toNatClampNeg) := inb_of AS33 ⟨by decide, by decide⟩
    obtain ⟨T34, h34, X34, e34, W34, st34⟩ := stB X32 hx hZ e32 Ar33 (j := (2 : Int32)) hin34 (g := (mkF m 45 #[.val (.int p0), .val (.int p1), .val (.int p2), .val (.int p3), .val (.int p4), .val (.int p5), .val (.int (3 : Int32)), .val (.ref b28), .unset, .unset, .unset, .unset, .unset] [(.int (p3.toInt8.toInt32)), (.int (2 : Int32)), (.ref b28)])) rfl rfl (hb hby at_45)
    have V34 : Arv Z h34 b28 k28 .byte (3 : Int32) [(.int ((p1.toInt8.toInt32).toInt8.toInt32)), (.int ((p2.toInt8.toInt32).toInt8.toInt32)), (.int ((p3.toInt8.toInt32).toInt8.toInt32))] (.int (0 : Int32)) := Arv.set Ar33 Aq33 AS33 AN33 AH33 AG33 (fits_nar_byte _) W34 2 rfl (Nat.le_of_ble_eq_true rfl)
    have N34 := Fr.snoc X34 N32 g_b28
    have Z34 : n0 ≤ h34.size := Nat.le_trans Z32 (Keep.of_wr W34).1
    refine own_go st34 ?_
    show own_Go p.tables e below _ (T34.setTop (mkF m 46 #[.val (.int p0), .val (.int p1), .val (.int p2), .val (.int p3), .val (.int p4), .val (.int p5), .val (.int (3 : Int32)), .val (.ref b28), .unset, .unset, .unset, .unset, .unset] []))
    refine own_go (fun _ k => XS.iload X34.here hx rfl (hb hby at_46) rfl k) ?_
    show own_Go p.tables e below _ (T34.setTop (mkF m 48 #[.val (.int p0), .val (.int p1), .val (.int p2), .val (.int p3), .val (.int p4), .val (.int p5), .val (.int (3 : Int32)), .val (.ref b28), .unset, .unset, .unset, .unset, .unset] [(.int p5)]))
    refine own_go (fun _ k => XS.iconst X34.here hx rfl (hb hby at_48) k) ?_
    show own_Go p.tables e below _ (T34.setTop (mkF m 49 #[.val (.int p0), .val (.int p1), .val (.int p2), .val (.int p3), .val (.int p4), .val (.int p5), .val (.int (3 : Int32)), .val (.ref b28), .unset, .unset, .unset, .unset, .unset] [(.int (1 : Int32)), (.int p5)]))
    refine own_go (fun _ k => XS.iand X34.here hx rfl (hb hby at_49) rfl k) ?_
    show own_Go p.tables e below _ (T34.setTop (mkF m 50 #[.val (.int p0), .val (.int p1), .val (.int p2), .val (.int p3), .val (.int p4), .val (.int p5), .val (.int (3 : Int32)), .val (.ref b28), .unset, .unset, .unset, .unset, .unset] [(.int (p5 &&& (1 : Int32)))]))
    have sg35 : ∀ t, Steps p.tables e below (T34.setTop (mkF m 58 #[.val (.int p0), .val (.int p1), .val (.int p2), .val (.int p3), .val (.int p4), .val (.int p5), .val (.int (3 : Int32)), .val (.ref b28), .unset, .unset, .unset, .unset, .unset] [(.int (if (p5 &&& (1 : Int32)) = (0 : Int32) then (0 : Int32) else (1 : Int32)))])) t → Steps p.tables e below (T34.setTop (mkF m 50 #[.val (.int p0), .val (.int p1), .val (.int p2), .val (.int p3), .val (.int p4), .val (.int p5), .val (.int (3 : Int32)), .val (.ref b28), .unset, .unset, .unset, .unset, .unset] [(.int (p5 &&& (1 : Int32)))])) t := by
      intro t k
      by_cases hc50 : (p5 &&& (1 : Int32)) = (0 : Int32)
      · try simp only [if_pos hc50] at k
        refine XS.ifYes X34.here hx rfl (pc0 := 50) (pc' := 57) rfl (hb hby at_50) rfl ((if0 _ _).trans (teq hc50).1) (by decide) (by decide) ?_
        show Steps p.tables e below (T34.setTop (mkF m 57 #[.val (.int p0), .val (.int p1), .val (.int p2), .val (.int p3), .val (.int p4), .val (.int p5), .val (.int (3 : Int32)), .val (.ref b28), .unset, .unset, .unset, .unset, .unset] [])) _
        refine XS.iconst X34.here hx rfl (hb hby at_57) ?_
        show Steps p.tables e below (T34.setTop (mkF m 58 #[.val (.int p0), .val (.int p1), .val (.int p2), .val (.int p3), .val (.int p4), .val (.int p5), .val (.int (3 : Int32)), .val (.ref b28), .unset, .unset, .unset, .unset, .unset] [(.int (0 : Int32))])) _
        exact k
      · try simp only [if_neg hc50] at k
        refine XS.ifNo X34.here hx rfl (hb hby at_50) rfl ((if0 _ _).trans (feq hc50).1) ?_
        show Steps p.tables e below (T34.setTop (mkF m 53 #[.val (.int p0), .val (.int p1), .val (.int p2), .val (.int p3), .val (.int p4), .val (.int p5), .val (.int (3 : Int32)), .val (.ref b28), .unset, .unset, .unset, .unset, .unset] [])) _
        refine XS.iconst X34.here hx rfl (hb hby at_53) ?_
        show Steps p.tables e below (T34.setTop (mkF m 54 #[.val (.int p0), .val (.int p1), .val (.int p2), .val (.int p3), .val (.int p4), .val (.int p5), .val (.int (3 : Int32)), .val (.ref b28), .unset, .unset, .unset, .unset, .unset] [(.int (1 : Int32))])) _
        refine XS.goto X34.here hx rfl (pc0 := 54) (pc' := 58) rfl (hb hby at_54) (by decide) (by decide) ?_
        show Steps p.tables e below (T34.setTop (mkF m 58 #[.val (.int p0), .val (.int p1), .val (.int p2), .val (.int p3), .val (.int p4), .val (.int p5), .val (.int (3 : Int32)), .val (.ref b28), .unset, .unset, .unset, .unset, .unset] [(.int (1 : Int32))])) _
        exact k
    refine own_go sg35 ?_
    show own_Go p.tables e below _ (T34.setTop (mkF m 58 #[.val (.int p0), .val (.int p1), .val (.int p2), .val (.int p3), .val (.int p4), .val (.int p5), .val (.int (3 : Int32)), .val (.ref b28), .unset, .unset, .unset, .unset, .unset] [(.int (if (p5 &&& (1 : Int32)) = (0 : Int32) then (0 : Int32) else (1 : Int32)))]))
    refine own_go (fun _ k => XS.istore X34.here hx rfl (hb hby at_58) rfl (l' := #[.val (.int p0), .val (.int p1), .val (.int p2), .val (.int p3), .val (.int p4), .val (.int p5), .val (.int (3 : Int32)), .val (.ref b28), .val (.int (if (p5 &&& (1 : Int32)) = (0 : Int32) then (0 : Int32) else (1 : Int32))), .unset, .unset, .unset, .unset]) rfl k) ?_
    show own_Go p.tables e below _ (T34.setTop (mkF m 60 #[.val (.int p0), .val (.int p1), .val (.int p2), .val (.int p3), .val (.int p4), .val (.int p5), .val (.int (3 : Int32)), .val (.ref b28), .val (.int (if (p5 &&& (1 : Int32)) = (0 : Int32) then (0 : Int32) else (1 : Int32))), .unset, .unset, .unset, .unset] []))
    obtain ⟨T36, h36, X36, e36, E36, A36, D36, -, st36⟩ := newO X34 hx hZ hown (hw _ (List.mem_of_getElem? (i := 1) rfl)) (hw _ (List.mem_of_getElem? (i := 2) rfl)) (hw _ (List.mem_of_getElem? (i := 3) rfl)) e34 (g := (mkF m 60 #[.val (.int p0), .val (.int p1), .val (.int p2), .val (.int p3), .val (.int p4), .val (.int p5), .val (.int (3 : Int32)), .val (.ref b28), .val (.int (if (p5 &&& (1 : Int32)) = (0 : Int32) then (0 : Int32) else (1 : Int32))), .unset, .unset, .unset, .unset] [])) rfl (hb hby at_60) (by decide) (by decide)
    obtain ⟨b36, g36⟩ : ∃ z, z = h34.size := ⟨_, rfl⟩
    rw [← g36] at A36 D36 st36
    have g_b36 : n0 ≤ b36 := Nat.le_trans Z34 (Nat.le_of_eq g36.symm)
    have ne_b28_b36 : b28 ≠ b36 := Nat.ne_of_lt (Nat.lt_of_lt_of_le V34.lt (Nat.le_of_eq g36.symm))
    have c36_1 := V34.ext E36
    have Z36 : n0 ≤ h36.size := Nat.le_trans Z34 E36.1
    have F36_11 : Fld Z h36 b36 "com/example/labframe/labframe/wire/Frame" "bytes" "[B" .null := D36 (Or.inr (hw _ (List.mem_of_getElem? (i := 11) rfl))) (ty := (.array .byte)) (by decide)
    have F36_13 : Fld Z h36 b36 "com/example/labframe/labframe/wire/Frame" "end" "I" (.int (0 : Int32)) := D36 (Or.inr (hw _ (List.mem_of_getElem? (i := 13) rfl))) (ty := .int) (by decide)
    have F36_15 : Fld Z h36 b36 "com/example/labframe/labframe/wire/Frame" "endsRecord" "Z" (.int (0 : Int32)) := D36 (Or.inr (hw _ (List.mem_of_getElem? (i := 15) rfl))) (ty := .boolean) (by decide)
    refine own_go st36 ?_
    show own_Go p.tables e below _ (T36.setTop (mkF m 63 #[.val (.int p0), .val (.int p1), .val (.int p2), .val (.int p3), .val (.int p4), .val (.int p5), .val (.int (3 : Int32)), .val (.ref b28), .val (.int (if (p5 &&& (1 : Int32)) = (0 : Int32) then (0 : Int32) else (1 : Int32))), .unset, .unset, .unset, .unset] [(.ref b36)]))
    refine own_go (fun _ k => XS.dup X36.here hx rfl (hb hby at_63) rfl rfl k) ?_
    show own_Go p.tables e below _ (T36.setTop (mkF m 64 #[.val (.int p0), .val (.int p1), .val (.int p2), .val (.int p3), .val (.int p4), .val (.int p5), .val (.int (3 : Int32)), .val (.ref b28), .val (.int (if (p5 &&& (1 : Int32)) = (0 : Int32) then (0 : Int32) else (1 : Int32))), .unset, .unset, .unset, .unset] [(.ref b36), (.ref b36)]))
    refine own_go (fun _ k => XS.aload X36.here hx rfl (hb hby at_64) rfl rfl k) ?_
    show own_Go p.tables e below _ (T36.setTop (mkF m 66 #[.val (.int p0), .val (.int p1), .val (.int p2), .val (.int p3), .val (.int p4), .val (.int p5), .val (.int (3 : Int32)), .val (.ref b28), .val (.int (if (p5 &&& (1 : Int32)) = (0 : Int32) then (0 : Int32) else (1 : Int32))), .unset, .unset, .unset, .unset] [(.ref b28), (.ref b36), (.ref b36)]))
    refine own_go (fun _ k => XS.iload X36.here hx rfl (hb hby at_66) rfl k) ?_
    show own_Go p.tables e below _ (T36.setTop (mkF m 68 #[.val (.int p0), .val (.int p1), .val (.int p2), .val (.int p3), .val (.int p4), .val (.int p5), .val (.int (3 : Int32)), .val (.ref b28), .val (.int (if (p5 &&& (1 : Int32)) = (0 : Int32) then (0 : Int32) else (1 : Int32))), .unset, .unset, .unset, .unset] [(.int p4), (.ref b28), (.ref b36), (.ref b36)]))
    refine own_go (fun _ k => XS.iload X36.here hx rfl (hb hby at_68) rfl k) ?_
    show own_Go p.tables e below _ (T36.setTop (mkF m 70 #[.val (.int p0), .val (.int p1), .val (.int p2), .val (.int p3), .val (.int p4), .val (.int p5), .val (.int (3 : Int32)), .val (.ref b28), .val (.int (if (p5 &&& (1 : Int32)) = (0 : Int32) then (0 : Int32) else (1 : Int32))), .unset, .unset, .unset, .unset] [(.int (if (p5 &&& (1 : Int32)) = (0 : Int32) then (0 : Int32) else (1 : Int32))), (.int p4), (.ref b28), (.ref b36), (.ref b36)]))
    obtain ⟨_, _, ⟨T37, L37, k37, n37⟩, -, X37, ⟨Lc37, hQ37, l37, y37, z37⟩, st37⟩ := X36.specialBack hx (y := (⟨"com/example/labframe/labframe/wire/Frame", "<init>", "([BIZ)V"⟩ : MethodName)) rfl hown (mvT hZ (hw _ (List.mem_of_getElem? (i := 4) rfl))) (mvT hZ (hw _ (List.mem_of_getElem? (i := 5) rfl))) (mvT hZ (hw _ (List.mem_of_getElem? (i := 6) rfl))) (by decide) (backOf (W := 1) (rm1 l Z az hw [] b36 b28 p4 (if (p5 &&& (1 : Int32)) = (0 : Int32) then (0 : Int32) else (1 : Int32)) h36 n0 Z36 F36_11 F36_13 F36_15 A36 g_b36) hZ (hw _ (List.mem_of_getElem? (i := 6) rfl)) (hw _ (List.mem_of_getElem? (i := 3) rfl)) (by decide) (by decide)) (g := (mkF m 70 #[.val (.int p0), .val (.int p1), .val (.int p2), .val (.int p3), .val (.int p4), .val (.int p5), .val (.int (3 : Int32)), .val (.ref b28), .val (.int (if (p5 &&& (1 : Int32)) = (0 : Int32) then (0 : Int32) else (1 : Int32))), .unset, .unset, .unset, .unset] [(.int (if (p5 &&& (1 : Int32)) = (0 : Int32) then (0 : Int32) else (1 : Int32))), (.int p4), (.ref b28), (.ref b36), (.ref b36)])) rfl (by rw [hml]; rfl) (Steps.refl _) (a := b36) (argsL := [(.ref b28), (.int p4), (.int (if (p5 &&& (1 : Int32)) = (0 : Int32) then (0 : Int32) else (1 : Int32)))]) (rest := [(.ref b36)]) (lenOf pd0_0 rfl) rfl (by show 2 * 0 + _ ≤ _; exact Nat.le_of_eq rfl) (hb hby at_70) (fun _ _ => ⟨rfl, e36, (by decide : 2 + 0 ≤ _), (by decide : 6 + 0 ≤ _)⟩)
    dsimp only [Pt.U, Pt.locs, Pt.cells, Pt.slots] at X37 l37 y37 z37 st37 hQ37
    subst l37 y37 z37
    refine own_go (fun _ k => st37.trans k) ?_
    obtain ⟨rfl, N37q, K37, E37_, F37_0, F37_1, F37_2⟩ := hQ37
    have N37 := Fr.app N34 N37q
    have c37_1 := c36_1.keep K37 (fun q => by simp only [List.mem_cons, List.not_mem_nil, or_false] at q; exact ne_b28_b36 q)
    have Z37 : n0 ≤ T37.heap.size := Nat.le_trans Z36 K37.1
    show own_Go p.tables e below _ (T37.setTop (mkF m 73 #[.val (.int p0), .val (.int p1), .val (.int p2), .val (.int p3), .val (.int p4), .val (.int p5), .val (.int (3 : Int32)), .val (.ref b28), .val (.int (if (p5 &&& (1 : Int32)) = (0 : Int32) then (0 : Int32) else (1 : Int32))), .unset, .unset, .unset, .unset] [(.ref b36)]))
    refine own_go (fun _ k => XS.astore X37.here hx rfl (hb hby at_73) rfl rfl (l' := #[.val (.int p0), .val (.int p1), .val (.int p2), .val (.int p3), .val (.int p4), .val (.int p5), .val (.int (3 : Int32)), .val (.ref b28), .val (.int (if (p5 &&& (1 : Int32)) = (0 : Int32) then (0 : Int32) else (1 : Int32))), .val (.ref b36), .unset, .unset, .unset]) rfl k) ?_
    show own_Go p.tables e below _ (T37.setTop (mkF m 75 #[.val (.int p0), .val (.int p1), .val (.int p2), .val (.int p3), .val (.int p4), .val (.int p5), .val (.int (3 : Int32)), .val (.ref b28), .val (.int (if (p5 &&& (1 : Int32)) = (0 : Int32) then (0 : Int32) else (1 : Int32))), .val (.ref b36), .unset, .unset, .unset] []))
    refine own_go (fun _ k => XS.iload X37.here hx rfl (hb hby at_75) rfl k) ?_
    show own_Go p.tables e below _ (T37.setTop (mkF m 77 #[.val (.int p0), .val (.int p1), .val (.int p2), .val (.int p3), .val (.int p4), .val (.int p5), .val (.int (3 : Int32)), .val (.ref b28), .val (.int (if (p5 &&& (1 : Int32)) = (0 : Int32) then (0 : Int32) else (1 : Int32))), .val (.ref b36), .unset, .unset, .unset] [(.int (3 : Int32))]))
    refine own_go (fun _ k => XS.iloadN X37.here hx rfl (hb hby at_77) rfl k) ?_
    show own_Go p.tables e below _ (T37.setTop (mkF m 78 #[.val (.int p0), .val (.int p1), .val (.int p2), .val (.int p3), .val (.int p4), .val (.int p5), .val (.int (3 : Int32)), .val (.ref b28), .val (.int (if (p5 &&& (1 : Int32)) = (0 : Int32) then (0 : Int32) else (1 : Int32))), .val (.ref b36), .unset, .unset, .unset] [(.int p2), (.int (3 : Int32))]))
    refine own_go (fun _ k => XS.i2b X37.here hx rfl (hb hby at_78) rfl k) ?_
    show own_Go p.tables e below _ (T37.setTop (mkF m 79 #[.val (.int p0), .val (.int p1), .val (.int p2), .val (.int p3), .val (.int p4), .val (.int p5), .val (.int (3 : Int32)), .val (.ref b28), .val (.int (if (p5 &&& (1 : Int32)) = (0 : Int32) then (0 : Int32) else (1 : Int32))), .val (.ref b36), .unset, .unset, .unset] [(.int (p2.toInt8.toInt32)), (.int (3 : Int32))]))
    obtain ⟨_, _, ⟨T38, L38, k38, n38⟩, -, X38, ⟨Lc38, hQ38, l38, y38, z38⟩, st38⟩ := Jvm.LawKit.callS X37 hx (y := (⟨"com/example/labframe/labframe/wire/FrameNumberPinLaw", "expected", "(IB)I"⟩ : MethodName)) hown (mvT hZ (hw _ (List.mem_of_getElem? (i := 16) rfl))) (mvT hZ (hw _ (List.mem_of_getElem? (i := 17) rfl))) (mvT hZ (hw _ (List.mem_of_getElem? (i := 18) rfl))) (mvT hZ (hw _ (List.mem_of_getElem? (i := 19) rfl))) (by decide) (backOf (W := 0) (rm2 l Z az hw [] (3 : Int32) (p2.toInt8.toInt32) T37.heap n0 Z37) hZ (hw _ (List.mem_of_getElem? (i := 19) rfl)) (hw _ (List.mem_of_getElem? (i := 18) rfl)) (by decide) (by decide)) (g := (mkF m 79 #[.val (.int p0), .val (.int p1), .val (.int p2), .val (.int p3), .val (.int p4), .val (.int p5), .val (.int (3 : Int32)), .val (.ref b28), .val (.int (if (p5 &&& (1 : Int32)) = (0 : Int32) then (0 : Int32) else (1 : Int32))), .val (.ref b36), .unset, .unset, .unset] [(.int (p2.toInt8.toInt32)), (.int (3 : Int32))])) rfl (by rw [hml]; rfl) (argsL := [(.int (3 : Int32)), (.int (p2.toInt8.toInt32))]) (rest := []) (lenOf pd0_1 rfl) rfl (by show 2 * 0 + _ ≤ _; exact Nat.le_of_eq rfl) (hb hby at_79) (fun _ _ => ⟨rfl, rfl, (by decide : 2 + 0 ≤ _), (by decide : 6 + 0 ≤ _)⟩)
    dsimp only [Pt.U, Pt.locs, Pt.cells, Pt.slots] at X38 l38 y38 z38 st38 hQ38
    subst l38 y38 z38
    refine own_go st38 ?_
    obtain ⟨rfl, N38q, e38⟩ := hQ38
    have N38 := Fr.app N37 N38q
    show own_Go p.tables e below _ (T38.setTop (mkF m 82 #[.val (.int p0), .val (.int p1), .val (.int p2), .val (.int p3), .val (.int p4), .val (.int p5), .val (.int (3 : Int32)), .val (.ref b28), .val (.int (if (p5 &&& (1 : Int32)) = (0 : Int32) then (0 : Int32) else (1 : Int32))), .val (.ref b36), .unset, .unset, .unset] [(.int (own_f2 (3 : Int32) (p2.toInt8.toInt32)))]))
    refine own_go (fun _ k => XS.istore X38.here hx rfl (hb hby at_82) rfl (l' := #[.val (.int p0), .val (.int p1), .val (.int p2), .val (.int p3), .val (.int p4), .val (.int p5), .val (.int (3 : Int32)), .val (.ref b28), .val (.int (if (p5 &&& (1 : Int32)) = (0 : Int32) then (0 : Int32) else (1 : Int32))), .val (.ref b36), .val (.int (own_f2 (3 : Int32) (p2.toInt8.toInt32))), .unset, .unset]) rfl k) ?_
    show own_Go p.tables e below _ (T38.setTop (mkF m 84 #[.val (.int p0), .val (.int p1), .val (.int p2), .val (.int p3), .val (.int p4), .val (.int p5), .val (.int (3 : Int32)), .val (.ref b28), .val (.int (if (p5 &&& (1 : Int32)) = (0 : Int32) then (0 : Int32) else (1 : Int32))), .val (.ref b36), .val (.int (own_f2 (3 : Int32) (p2.toInt8.toInt32))), .unset, .unset] []))
    refine own_go (fun _ k => XS.aload X38.here hx rfl (hb hby at_84) rfl rfl k) ?_
    show own_Go p.tables e below _ (T38.setTop (mkF m 86 #[.val (.int p0), .val (.int p1), .val (.int p2), .val (.int p3), .val (.int p4), .val (.int p5), .val (.int (3 : Int32)), .val (.ref b28), .val (.int (if (p5 &&& (1 : Int32)) = (0 : Int32) then (0 : Int32) else (1 : Int32))), .val (.ref b36), .val (.int (own_f2 (3 : Int32) (p2.toInt8.toInt32))), .unset, .unset] [(.ref b36)]))
    obtain ⟨cq39, kq39, q39a, q39b, q39c⟩ := isOf hZ (e38 : T38.heap = T37.heap) E37_
    obtain ⟨_, _, ⟨T39, L39, k39, n39⟩, -, X39, ⟨Lc39, hQ39, l39, y39, z39⟩, st39⟩ := X38.virtualBack hx (y := (⟨"com/example/labframe/labframe/wire/Frame", "number", "()I"⟩ : MethodName)) (z := (⟨"com/example/labframe/labframe/wire/Frame", "number", "()I"⟩ : MethodName)) hown (mvT hZ (hw _ (List.mem_of_getElem? (i := 20) rfl))) (mvT hZ (hw _ (List.mem_of_getElem? (i := 21) rfl))) (notFace_of_selects (args := #[]) (mvT hZ (hw _ (List.mem_of_getElem? (i := 23) rfl)))) (mvT hZ (hw _ (List.mem_of_getElem? (i := 23) rfl))) (mvT hZ (hw _ (List.mem_of_getElem? (i := 22) rfl))) (by decide) (backOf (W := 0) (rm3 l Z az hw [] b36 b28 k28 (3 : Int32) [((p1.toInt8.toInt32).toInt8.toInt32), ((p2.toInt8.toInt32).toInt8.toInt32), ((p3.toInt8.toInt32).toInt8.toInt32)] T37.heap n0 Z37 F37_0 c37_1) hZ (hw _ (List.mem_of_getElem? (i := 24) rfl)) (hw _ (List.mem_of_getElem? (i := 3) rfl)) (by decide) (by decide)) q39a q39c (g := (mkF m 86 #[.val (.int p0), .val (.int p1), .val (.int p2), .val (.int p3), .val (.int p4), .val (.int p5), .val (.int (3 : Int32)), .val (.ref b28), .val (.int (if (p5 &&& (1 : Int32)) = (0 : Int32) then (0 : Int32) else (1 : Int32))), .val (.ref b36), .val (.int (own_f2 (3 : Int32) (p2.toInt8.toInt32))), .unset, .unset] [(.ref b36)])) rfl (by rw [hml]; rfl) (Steps.refl _) (argsL := []) (rest := []) (lenOf pd0_2 rfl) rfl (by show 2 * 0 + _ ≤ _; exact Nat.le_of_eq rfl) (hb hby at_86) (fun _ _ => ⟨rfl, (e38 : T38.heap = T37.heap), (by decide : 2 + 0 ≤ _), (by decide : 6 + 0 ≤ _)⟩)
    dsimp only [Pt.U, Pt.locs, Pt.cells, Pt.slots] at X39 l39 y39 z39 st39 hQ39
    subst l39 y39 z39
    refine own_go (fun _ k => st39.trans k) ?_
    obtain ⟨rfl, N39q, e39⟩ := hQ39
    have N39 := Fr.app N38 N39q
    show own_Go p.tables e below _ (T39.setTop (mkF m 89 #[.val (.int p0), .val (.int p1), .val (.int p2), .val (.int p3), .val (.int p4), .val (.int p5), .val (.int (3 : Int32)), .val (.ref b28), .val (.int (if (p5 &&& (1 : Int32)) = (0 : Int32) then (0 : Int32) else (1 : Int32))), .val (.ref b36), .val (.int (own_f2 (3 : Int32) (p2.toInt8.toInt32))), .unset, .unset] [(.int (own_f3 (3 : Int32) [((p1.toInt8.toInt32).toInt8.toInt32), ((p2.toInt8.toInt32).toInt8.toInt32), ((p3.toInt8.toInt32).toInt8.toInt32)]))]))
    refine own_go (fun _ k => XS.istore X39.here hx rfl (hb hby at_89) rfl (l' := #[.val (.int p0), .val (.int p1), .val (.int p2), .val (.int p3), .val (.int p4), .val (.int p5), .val (.int (3 : Int32)), .val (.ref b28), .val (.int (if (p5 &&& (1 : Int32)) = (0 : Int32) then (0 : Int32) else (1 : Int32))), .val (.ref b36), .val (.int (own_f2 (3 : Int32) (p2.toInt8.toInt32))), .val (.int (own_f3 (3 : Int32) [((p1.toInt8.toInt32).toInt8.toInt32), ((p2.toInt8.toInt32).toInt8.toInt32), ((p3.toInt8.toInt32).toInt8.toInt32)])), .unset]) rfl k) ?_
    show own_Go p.tables e below _ (T39.setTop (mkF m 91 #[.val (.int p0), .val (.int p1), .val (.int p2), .val (.int p3), .val (.int p4), .val (.int p5), .val (.int (3 : Int32)), .val (.ref b28), .val (.int (if (p5 &&& (1 : Int32)) = (0 : Int32) then (0 : Int32) else (1 : Int32))), .val (.ref b36), .val (.int (own_f2 (3 : Int32) (p2.toInt8.toInt32))), .val (.int (own_f3 (3 : Int32) [((p1.toInt8.toInt32).toInt8.toInt32), ((p2.toInt8.toInt32).toInt8.toInt32), ((p3.toInt8.toInt32).toInt8.toInt32)])), .unset] []))
    refine own_go (fun _ k => XS.aload X39.here hx rfl (hb hby at_91) rfl rfl k) ?_
    show own_Go p.tables e below _ (T39.setTop (mkF m 93 #[.val (.int p0), .val (.int p1), .val (.int p2), .val (.int p3), .val (.int p4), .val (.int p5), .val (.int (3 : Int32)), .val (.ref b28), .val (.int (if (p5 &&& (1 : Int32)) = (0 : Int32) then (0 : Int32) else (1 : Int32))), .val (.ref b36), .val (.int (own_f2 (3 : Int32) (p2.toInt8.toInt32))), .val (.int (own_f3 (3 : Int32) [((p1.toInt8.toInt32).toInt8.toInt32), ((p2.toInt8.toInt32).toInt8.toInt32), ((p3.toInt8.toInt32).toInt8.toInt32)])), .unset] [(.ref b36)]))
    obtain ⟨cq40, kq40, q40a, q40b, q40c⟩ := isOf hZ (e39 : T39.heap = T37.heap) E37_
    obtain ⟨_, _, ⟨T40, L40, k40, n40⟩, -, X40, ⟨Lc40, hQ40, l40, y40, z40⟩, st40⟩ := X39.virtualBack hx (y := (⟨"com/example/labframe/labframe/wire/Frame", "number", "()I"⟩ : MethodName)) (z := (⟨"com/example/labframe/labframe/wire/Frame", "number", "()I"⟩ : MethodName)) hown (mvT hZ (hw _ (List.mem_of_getElem? (i := 20) rfl))) (mvT hZ (hw _ (List.mem_of_getElem? (i := 21) rfl))) (notFace_of_selects (args := #[]) (mvT hZ (hw _ (List.mem_of_getElem? (i := 23) rfl)))) (mvT hZ (hw _ (List.mem_of_getElem? (i := 23) rfl))) (mvT hZ (hw _ (List.mem_of_getElem? (i := 22) rfl))) (by decide) (backOf (W := 0) (rm3 l Z az hw [] b36 b28 k28 (3 : Int32) [((p1.toInt8.toInt32).toInt8.toInt32), ((p2.toInt8.toInt32).toInt8.toInt32), ((p3.toInt8.toInt32).toInt8.toInt32)] T37.heap n0 Z37 F37_0 c37_1) hZ (hw _ (List.mem_of_getElem? (i := 24) rfl)) (hw _ (List.mem_of_getElem? (i := 3) rfl)) (by decide) (by decide)) q40a q40c (g := (mkF m 93 #[.val (.int p0), .val (.int p1), .val (.int p2), .val (.int p3), .val (.int p4), .val (.int p5), .val (.int (3 : Int32)), .val (.ref b28), .val (.int (if (p5 &&& (1 : Int32)) = (0 : Int32) then (0 : Int32) else (1 : Int32))), .val (.ref b36), .val (.int (own_f2 (3 : Int32) (p2.toInt8.toInt32))), .val (.int (own_f3 (3 : Int32) [((p1.toInt8.toInt32).toInt8.toInt32), ((p2.toInt8.toInt32).toInt8.toInt32), ((p3.toInt8.toInt32).toInt8.toInt32)])), .unset] [(.ref b36)])) rfl (by rw [hml]; rfl) (Steps.refl _) (argsL := []) (rest := []) (lenOf pd0_2 rfl) rfl (by show 2 * 0 + _ ≤ _; exact Nat.le_of_eq rfl) (hb hby at_93) (fun _ _ => ⟨rfl, (e39 : T39.heap = T37.heap), (by decide : 2 + 0 ≤ _), (by decide : 6 + 0 ≤ _)⟩)
    dsimp only [Pt.U, Pt.locs, Pt.cells, Pt.slots] at X40 l40 y40 z40 st40 hQ40
    subst l40 y40 z40
    refine own_go (fun _ k => st40.trans k) ?_
    obtain ⟨rfl, N40q, e40⟩ := hQ40
    have N40 := Fr.app N39 N40q
    show own_Go p.tables e below _ (T40.setTop (mkF m 96 #[.val (.int p0), .val (.int p1), .val (.int p2), .val (.int p3), .val (.int p4), .val (.int p5), .val (.int (3 : Int32)), .val (.ref b28), .val (.int (if (p5 &&& (1 : Int32)) = (0 : Int32) then (0 : Int32) else (1 : Int32))), .val (.ref b36), .val (.int (own_f2 (3 : Int32) (p2.toInt8.toInt32))), .val (.int (own_f3 (3 : Int32) [((p1.toInt8.toInt32).toInt8.toInt32), ((p2.toInt8.toInt32).toInt8.toInt32), ((p3.toInt8.toInt32).toInt8.toInt32)])), .unset] [(.int (own_f3 (3 : Int32) [((p1.toInt8.toInt32).toInt8.toInt32), ((p2.toInt8.toInt32).toInt8.toInt32), ((p3.toInt8.toInt32).toInt8.toInt32)]))]))
    refine own_go (fun _ k => XS.istore X40.here hx rfl (hb hby at_96) rfl (l' := #[.val (.int p0), .val (.int p1), .val (.int p2), .val (.int p3), .val (.int p4), .val (.int p5), .val (.int (3 : Int32)), .val (.ref b28), .val (.int (if (p5 &&& (1 : Int32)) = (0 : Int32) then (0 : Int32) else (1 : Int32))), .val (.ref b36), .val (.int (own_f2 (3 : Int32) (p2.toInt8.toInt32))), .val (.int (own_f3 (3 : Int32) [((p1.toInt8.toInt32).toInt8.toInt32), ((p2.toInt8.toInt32).toInt8.toInt32), ((p3.toInt8.toInt32).toInt8.toInt32)])), .val (.int (own_f3 (3 : Int32) [((p1.toInt8.toInt32).toInt8.toInt32), ((p2.toInt8.toInt32).toInt8.toInt32), ((p3.toInt8.toInt32).toInt8.toInt32)]))]) rfl k) ?_
    show own_Go p.tables e below _ (T40.setTop (mkF m 98 #[.val (.int p0), .val (.int p1), .val (.int p2), .val (.int p3), .val (.int p4), .val (.int p5), .val (.int (3 : Int32)), .val (.ref b28), .val (.int (if (p5 &&& (1 : Int32)) = (0 : Int32) then (0 : Int32) else (1 : Int32))), .val (.ref b36), .val (.int (own_f2 (3 : Int32) (p2.toInt8.toInt32))), .val (.int (own_f3 (3 : Int32) [((p1.toInt8.toInt32).toInt8.toInt32), ((p2.toInt8.toInt32).toInt8.toInt32), ((p3.toInt8.toInt32).toInt8.toInt32)])), .val (.int (own_f3 (3 : Int32) [((p1.toInt8.toInt32).toInt8.toInt32), ((p2.toInt8.toInt32).toInt8.toInt32), ((p3.toInt8.toInt32).toInt8.toInt32)]))] []))
    refine own_go (fun _ k => XS.iload X40.here hx rfl (hb hby at_98) rfl k) ?_
    show own_Go p.tables e below _ (T40.setTop (mkF m 100 #[.val (.int p0), .val (.int p1), .val (.int p2), .val (.int p3), .val (.int p4), .val (.int p5), .val (.int (3 : Int32)), .val (.ref b28), .val (.int (if (p5 &&& (1 : Int32)) = (0 : Int32) then (0 : Int32) else (1 : Int32))), .val (.ref b36), .val (.int (own_f2 (3 : Int32) (p2.toInt8.toInt32))), .val (.int (own_f3 (3 : Int32) [((p1.toInt8.toInt32).toInt8.toInt32), ((p2.toInt8.toInt32).toInt8.toInt32), ((p3.toInt8.toInt32).toInt8.toInt32)])), .val (.int (own_f3 (3 : Int32) [((p1.toInt8.toInt32).toInt8.toInt32), ((p2.toInt8.toInt32).toInt8.toInt32), ((p3.toInt8.toInt32).toInt8.toInt32)]))] [(.int (own_f3 (3 : Int32) [((p1.toInt8.toInt32).toInt8.toInt32), ((p2.toInt8.toInt32).toInt8.toInt32), ((p3.toInt8.toInt32).toInt8.toInt32)]))]))
    refine own_go (fun _ k => XS.iload X40.here hx rfl (hb hby at_100) rfl k) ?_
    show own_Go p.tables e below _ (T40.setTop (mkF m 102 #[.val (.int p0), .val (.int p1), .val (.int p2), .val (.int p3), .val (.int p4), .val (.int p5), .val (.int (3 : Int32)), .val (.ref b28), .val (.int (if (p5 &&& (1 : Int32)) = (0 : Int32) then (0 : Int32) else (1 : Int32))), .val (.ref b36), .val (.int (own_f2 (3 : Int32) (p2.toInt8.toInt32))), .val (.int (own_f3 (3 : Int32) [((p1.toInt8.toInt32).toInt8.toInt32), ((p2.toInt8.toInt32).toInt8.toInt32), ((p3.toInt8.toInt32).toInt8.toInt32)])), .val (.int (own_f3 (3 : Int32) [((p1.toInt8.toInt32).toInt8.toInt32), ((p2.toInt8.toInt32).toInt8.toInt32), ((p3.toInt8.toInt32).toInt8.toInt32)]))] [(.int (own_f2 (3 : Int32) (p2.toInt8.toInt32))), (.int (own_f3 (3 : Int32) [((p1.toInt8.toInt32).toInt8.toInt32), ((p2.toInt8.toInt32).toInt8.toInt32), ((p3.toInt8.toInt32).toInt8.toInt32)]))]))
    have hf102 : (own_f3 (3 : Int32) [((p1.toInt8.toInt32).toInt8.toInt32), ((p2.toInt8.toInt32).toInt8.toInt32), ((p3.toInt8.toInt32).toInt8.toInt32)]) = (own_f2 (3 : Int32) (p2.toInt8.toInt32)) := (own_v (p := p2) (fun _ => rfl)).1
    refine own_go (fun _ k => XS.icmpNo X40.here hx rfl (hb hby at_102) rfl (teq hf102).2 k) ?_
    show own_Go p.tables e below _ (T40.setTop (mkF m 105 #[.val (.int p0), .val (.int p1), .val (.int p2), .val (.int p3), .val (.int p4), .val (.int p5), .val (.int (3 : Int32)), .val (.ref b28), .val (.int (if (p5 &&& (1 : Int32)) = (0 : Int32) then (0 : Int32) else (1 : Int32))), .val (.ref b36), .val (.int (own_f2 (3 : Int32) (p2.toInt8.toInt32))), .val (.int (own_f3 (3 : Int32) [((p1.toInt8.toInt32).toInt8.toInt32), ((p2.toInt8.toInt32).toInt8.toInt32), ((p3.toInt8.toInt32).toInt8.toInt32)])), .val (.int (own_f3 (3 : Int32) [((p1.toInt8.toInt32).toInt8.toInt32), ((p2.toInt8.toInt32).toInt8.toInt32), ((p3.toInt8.toInt32).toInt8.toInt32)]))] []))
    refine own_go (fun _ k => XS.iload X40.here hx rfl (hb hby at_105) rfl k) ?_
    show own_Go p.tables e below _ (T40.setTop (mkF m 107 #[.val (.int p0), .val (.int p1), .val (.int p2), .val (.int p3), .val (.int p4), .val (.int p5), .val (.int (3 : Int32)), .val (.ref b28), .val (.int (if (p5 &&& (1 : Int32)) = (0 : Int32) then (0 : Int32) else (1 : Int32))), .val (.ref b36), .val (.int (own_f2 (3 : Int32) (p2.toInt8.toInt32))), .val (.int (own_f3 (3 : Int32) [((p1.toInt8.toInt32).toInt8.toInt32), ((p2.toInt8.toInt32).toInt8.toInt32), ((p3.toInt8.toInt32).toInt8.toInt32)])), .val (.int (own_f3 (3 : Int32) [((p1.toInt8.toInt32).toInt8.toInt32), ((p2.toInt8.toInt32).toInt8.toInt32), ((p3.toInt8.toInt32).toInt8.toInt32)]))] [(.int (own_f3 (3 : Int32) [((p1.toInt8.toInt32).toInt8.toInt32), ((p2.toInt8.toInt32).toInt8.toInt32), ((p3.toInt8.toInt32).toInt8.toInt32)]))]))
    refine own_go (fun _ k => XS.iload X40.here hx rfl (hb hby at_107) rfl k) ?_
    show own_Go p.tables e below _ (T40.setTop (mkF m 109 #[.val (.int p0), .val (.int p1), .val (.int p2), .val (.int p3), .val (.int p4), .val (.int p5), .val (.int (3 : Int32)), .val (.ref b28), .val (.int (if (p5 &&& (1 : Int32)) = (0 : Int32) then (0 : Int32) else (1 : Int32))), .val (.ref b36), .val (.int (own_f2 (3 : Int32) (p2.toInt8.toInt32))), .val (.int (own_f3 (3 : Int32) [((p1.toInt8.toInt32).toInt8.toInt32), ((p2.toInt8.toInt32).toInt8.toInt32), ((p3.toInt8.toInt32).toInt8.toInt32)])), .val (.int (own_f3 (3 : Int32) [((p1.toInt8.toInt32).toInt8.toInt32), ((p2.toInt8.toInt32).toInt8.toInt32), ((p3.toInt8.toInt32).toInt8.toInt32)]))] [(.int (own_f2 (3 : Int32) (p2.toInt8.toInt32))), (.int (own_f3 (3 : Int32) [((p1.toInt8.toInt32).toInt8.toInt32), ((p2.toInt8.toInt32).toInt8.toInt32), ((p3.toInt8.toInt32).toInt8.toInt32)]))]))
    have hf109 : (own_f3 (3 : Int32) [((p1.toInt8.toInt32).toInt8.toInt32), ((p2.toInt8.toInt32).toInt8.toInt32), ((p3.toInt8.toInt32).toInt8.toInt32)]) = (own_f2 (3 : Int32) (p2.toInt8.toInt32)) := (own_v (p := p2) (fun _ => rfl)).1
    refine own_go (fun _ k => XS.icmpNo X40.here hx rfl (hb hby at_109) rfl (teq hf109).2 k) ?_
    show own_Go p.tables e below _ (T40.setTop (mkF m 112 #[.val (.int p0), .val (.int p1), .val (.int p2), .val (.int p3), .val (.int p4), .val (.int p5), .val (.int (3 : Int32)), .val (.ref b28), .val (.int (if (p5 &&& (1 : Int32)) = (0 : Int32) then (0 : Int32) else (1 : Int32))), .val (.ref b36), .val (.int (own_f2 (3 : Int32) (p2.toInt8.toInt32))), .val (.int (own_f3 (3 : Int32) [((p1.toInt8.toInt32).toInt8.toInt32), ((p2.toInt8.toInt32).toInt8.toInt32), ((p3.toInt8.toInt32).toInt8.toInt32)])), .val (.int (own_f3 (3 : Int32) [((p1.toInt8.toInt32).toInt8.toInt32), ((p2.toInt8.toInt32).toInt8.toInt32), ((p3.toInt8.toInt32).toInt8.toInt32)]))] []))
    refine own_go (fun _ k => XS.iload X40.here hx rfl (hb hby at_112) rfl k) ?_
    show own_Go p.tables e below _ (T40.setTop (mkF m 114 #[.val (.int p0), .val (.int p1), .val (.int p2), .val (.int p3), .val (.int p4), .val (.int p5), .val (.int (3 : Int32)), .val (.ref b28), .val (.int (if (p5 &&& (1 : Int32)) = (0 : Int32) then (0 : Int32) else (1 : Int32))), .val (.ref b36), .val (.int (own_f2 (3 : Int32) (p2.toInt8.toInt32))), .val (.int (own_f3 (3 : Int32) [((p1.toInt8.toInt32).toInt8.toInt32), ((p2.toInt8.toInt32).toInt8.toInt32), ((p3.toInt8.toInt32).toInt8.toInt32)])), .val (.int (own_f3 (3 : Int32) [((p1.toInt8.toInt32).toInt8.toInt32), ((p2.toInt8.toInt32).toInt8.toInt32), ((p3.toInt8.toInt32).toInt8.toInt32)]))] [(.int (own_f3 (3 : Int32) [((p1.toInt8.toInt32).toInt8.toInt32), ((p2.toInt8.toInt32).toInt8.toInt32), ((p3.toInt8.toInt32).toInt8.toInt32)]))]))
    refine own_go (fun _ k => XS.iconst X40.here hx rfl (hb hby at_114) k) ?_
    show own_Go p.tables e below _ (T40.setTop (mkF m 115 #[.val (.int p0), .val (.int p1), .val (.int p2), .val (.int p3), .val (.int p4), .val (.int p5), .val (.int (3 : Int32)), .val (.ref b28), .val (.int (if (p5 &&& (1 : Int32)) = (0 : Int32) then (0 : Int32) else (1 : Int32))), .val (.ref b36), .val (.int (own_f2 (3 : Int32) (p2.toInt8.toInt32))), .val (.int (own_f3 (3 : Int32) [((p1.toInt8.toInt32).toInt8.toInt32), ((p2.toInt8.toInt32).toInt8.toInt32), ((p3.toInt8.toInt32).toInt8.toInt32)])), .val (.int (own_f3 (3 : Int32) [((p1.toInt8.toInt32).toInt8.toInt32), ((p2.toInt8.toInt32).toInt8.toInt32), ((p3.toInt8.toInt32).toInt8.toInt32)]))] [(.int (-1 : Int32)), (.int (own_f3 (3 : Int32) [((p1.toInt8.toInt32).toInt8.toInt32), ((p2.toInt8.toInt32).toInt8.toInt32), ((p3.toInt8.toInt32).toInt8.toInt32)]))]))
    have hf115 : ¬ ((own_f3 (3 : Int32) [((p1.toInt8.toInt32).toInt8.toInt32), ((p2.toInt8.toInt32).toInt8.toInt32), ((p3.toInt8.toInt32).toInt8.toInt32)]) < (-1 : Int32)) := (own_v (p := p2) (fun _ => rfl)).2.1
    refine own_go (fun _ k => XS.icmpNo X40.here hx rfl (hb hby at_115) rfl (flt hf115).1 k) ?_
    show own_Go p.tables e below _ (T40.setTop (mkF m 118 #[.val (.int p0), .val (.int p1), .val (.int p2), .val (.int p3), .val (.int p4), .val (.int p5), .val (.int (3 : Int32)), .val (.ref b28), .val (.int (if (p5 &&& (1 : Int32)) = (0 : Int32) then (0 : Int32) else (1 : Int32))), .val (.ref b36), .val (.int (own_f2 (3 : Int32) (p2.toInt8.toInt32))), .val (.int (own_f3 (3 : Int32) [((p1.toInt8.toInt32).toInt8.toInt32), ((p2.toInt8.toInt32).toInt8.toInt32), ((p3.toInt8.toInt32).toInt8.toInt32)])), .val (.int (own_f3 (3 : Int32) [((p1.toInt8.toInt32).toInt8.toInt32), ((p2.toInt8.toInt32).toInt8.toInt32), ((p3.toInt8.toInt32).toInt8.toInt32)]))] []))
    refine own_go (fun _ k => XS.iload X40.here hx rfl (hb hby at_118) rfl k) ?_
    show own_Go p.tables e below _ (T40.setTop (mkF m 120 #[.val (.int p0), .val (.int p1), .val (.int p2), .val (.int p3), .val (.int p4), .val (.int p5), .val (.int (3 : Int32)), .val (.ref b28), .val (.int (if (p5 &&& (1 : Int32)) = (0 : Int32) then (0 : Int32) else (1 : Int32))), .val (.ref b36), .val (.int (own_f2 (3 : Int32) (p2.toInt8.toInt32))), .val (.int (own_f3 (3 : Int32) [((p1.toInt8.toInt32).toInt8.toInt32), ((p2.toInt8.toInt32).toInt8.toInt32), ((p3.toInt8.toInt32).toInt8.toInt32)])), .val (.int (own_f3 (3 : Int32) [((p1.toInt8.toInt32).toInt8.toInt32), ((p2.toInt8.toInt32).toInt8.toInt32), ((p3.toInt8.toInt32).toInt8.toInt32)]))] [(.int (own_f3 (3 : Int32) [((p1.toInt8.toInt32).toInt8.toInt32), ((p2.toInt8.toInt32).toInt8.toInt32), ((p3.toInt8.toInt32).toInt8.toInt32)]))]))
    refine own_go (fun _ k => XS.bipush X40.here hx rfl (hb hby at_120) k) ?_
    show own_Go p.tables e below _ (T40.setTop (mkF m 122 #[.val (.int p0), .val (.int p1), .val (.int p2), .val (.int p3), .val (.int p4), .val (.int p5), .val (.int (3 : Int32)), .val (.ref b28), .val (.int (if (p5 &&& (1 : Int32)) = (0 : Int32) then (0 : Int32) else (1 : Int32))), .val (.ref b36), .val (.int (own_f2 (3 : Int32) (p2.toInt8.toInt32))), .val (.int (own_f3 (3 : Int32) [((p1.toInt8.toInt32).toInt8.toInt32), ((p2.toInt8.toInt32).toInt8.toInt32), ((p3.toInt8.toInt32).toInt8.toInt32)])), .val (.int (own_f3 (3 : Int32) [((p1.toInt8.toInt32).toInt8.toInt32), ((p2.toInt8.toInt32).toInt8.toInt32), ((p3.toInt8.toInt32).toInt8.toInt32)]))] [(.int (7 : Int32)), (.int (own_f3 (3 : Int32) [((p1.toInt8.toInt32).toInt8.toInt32), ((p2.toInt8.toInt32).toInt8.toInt32), ((p3.toInt8.toInt32).toInt8.toInt32)]))]))
    have hf122 : ¬ ((7 : Int32) < (own_f3 (3 : Int32) [((p1.toInt8.toInt32).toInt8.toInt32), ((p2.toInt8.toInt32).toInt8.toInt32), ((p3.toInt8.toInt32).toInt8.toInt32)])) := (own_v (p := p2) (fun _ => rfl)).2.2
    refine own_go (fun _ k => XS.icmpNo X40.here hx rfl (hb hby at_122) rfl (flt hf122).2.2.1 k) ?_
    show own_Go p.tables e below _ (T40.setTop (mkF m 125 #[.val (.int p0), .val (.int p1), .val (.int p2), .val (.int p3), .val (.int p4), .val (.int p5), .val (.int (3 : Int32)), .val (.ref b28), .val (.int (if (p5 &&& (1 : Int32)) = (0 : Int32) then (0 : Int32) else (1 : Int32))), .val (.ref b36), .val (.int (own_f2 (3 : Int32) (p2.toInt8.toInt32))), .val (.int (own_f3 (3 : Int32) [((p1.toInt8.toInt32).toInt8.toInt32), ((p2.toInt8.toInt32).toInt8.toInt32), ((p3.toInt8.toInt32).toInt8.toInt32)])), .val (.int (own_f3 (3 : Int32) [((p1.toInt8.toInt32).toInt8.toInt32), ((p2.toInt8.toInt32).toInt8.toInt32), ((p3.toInt8.toInt32).toInt8.toInt32)]))] []))
    refine own_go (fun _ k => XS.iconst X40.here hx rfl (hb hby at_125) k) ?_
    show own_Go p.tables e below _ (T40.setTop (mkF m 126 #[.val (.int p0), .val (.int p1), .val (.int p2), .val (.int p3), .val (.int p4), .val (.int p5), .val (.int (3 : Int32)), .val (.ref b28), .val (.int (if (p5 &&& (1 : Int32)) = (0 : Int32) then (0 : Int32) else (1 : Int32))), .val (.ref b36), .val (.int (own_f2 (3 : Int32) (p2.toInt8.toInt32))), .val (.int (own_f3 (3 : Int32) [((p1.toInt8.toInt32).toInt8.toInt32), ((p2.toInt8.toInt32).toInt8.toInt32), ((p3.toInt8.toInt32).toInt8.toInt32)])), .val (.int (own_f3 (3 : Int32) [((p1.toInt8.toInt32).toInt8.toInt32), ((p2.toInt8.toInt32).toInt8.toInt32), ((p3.toInt8.toInt32).toInt8.toInt32)]))] [(.int (1 : Int32))]))
    refine own_go (fun _ k => XS.goto X40.here hx rfl (pc0 := 126) (pc' := 130) rfl (hb hby at_126) (by decide) (by decide) k) ?_
    show own_Go p.tables e below _ (T40.setTop (mkF m 130 #[.val (.int p0), .val (.int p1), .val (.int p2), .val (.int p3), .val (.int p4), .val (.int p5), .val (.int (3 : Int32)), .val (.ref b28), .val (.int (if (p5 &&& (1 : Int32)) = (0 : Int32) then (0 : Int32) else (1 : Int32))), .val (.ref b36), .val (.int (own_f2 (3 : Int32) (p2.toInt8.toInt32))), .val (.int (own_f3 (3 : Int32) [((p1.toInt8.toInt32).toInt8.toInt32), ((p2.toInt8.toInt32).toInt8.toInt32), ((p3.toInt8.toInt32).toInt8.toInt32)])), .val (.int (own_f3 (3 : Int32) [((p1.toInt8.toInt32).toInt8.toInt32), ((p2.toInt8.toInt32).toInt8.toInt32), ((p3.toInt8.toInt32).toInt8.toInt32)]))] [(.int (1 : Int32))]))
    refine own_end X40 Bd.notSynchronized (v := some (.int (1 : Int32))) (fun h => by rw [Bd.returns] at h; cases h) (fun fs hr => retN X40 hx (t := .boolean) Bd.returns (by simp) (hb hby at_130) hr) ?_ (by decide) (by decide)
    exact ⟨rfl, N40⟩
set_option maxRecDepth 65536 in
set_option maxHeartbeats 40000000 in
theorem comes_1 {Post : Tables → Env → Array Value → State → Outcome → State → Prop} (hpost : ∀ tb e args s v u, (limb_1_1.after args s (.returned v) u = true ∧ limb_1_2.after args s (.returned v) u = true ∧ True) → FrameEnd s (.returned v) u (Jvm.fieldLocs frame_1_writes args s ++ Jvm.arrayLocs frame_1_arrays args s ++ Jvm.staticLocs frame_1_statics s) 16 128 → Post tb e args s (.returned v) u) :
    ArmFor flags0 classFile x code maxLocals ret World_1 tables_1 room_1 Calls_1 rest_1 Pre_1 Post := by
  intro l hfl _ _ p e ha hc hk s m args below hf hA hF happ hP
  obtain ⟨hcalls, hrest, hpre⟩ := hP
  obtain ⟨-, -, -, hnamed, -, -, -, hat⟩ := (Spec.applies_iff hf).mp happ
  obtain ⟨hg, hn⟩ := and_e (Cond.before_iff.mp (show (Jvm.Cond.and given_1 narrow_1).before args s = true from hpre))
  obtain ⟨g1, g2⟩ := and_e hg
  obtain ⟨g3, g4⟩ := and_e g2
  obtain ⟨g5, g6⟩ := and_e g4
  obtain ⟨g7, g8⟩ := and_e g6
  obtain ⟨g9, g10⟩ := and_e g8
  obtain ⟨g11, g12⟩ := and_e g10
  obtain ⟨w0, w1, w2, w3, w4, w5, rfl⟩ : ∃ w0 w1 w2 w3 w4 w5 : Value, args = #[w0, w1, w2, w3, w4, w5] := by
    have hs : args.size = 6 := by simpa [Cond.value, given_1] using g1
    obtain ⟨L⟩ := args
    match L, hs with
    | [w0, w1, w2, w3, w4, w5], _ => exact ⟨w0, w1, w2, w3, w4, w5, rfl⟩
  have hw := fun d (hd : d ∈ tables_1) => atoms_spec (ws := Jvm.Cond.code x code maxLocals ret :: tables_1) hat d (List.mem_cons_of_mem _ hd)
  obtain ⟨i0, ei0⟩ := is_v g3
  obtain rfl : w0 = (.int i0) := Option.some.inj ei0
  obtain ⟨i1, ei1⟩ := is_v g5
  obtain rfl : w1 = (.int i1) := Option.some.inj ei1
  obtain ⟨i2, ei2⟩ := is_v g7
  obtain rfl : w2 = (.int i2) := Option.some.inj ei2
  obtain ⟨i3, ei3⟩ := is_v g9
  obtain rfl : w3 = (.int i3) := Option.some.inj ei3
  obtain ⟨i4, ei4⟩ := is_v g11
  obtain rfl : w4 = (.int i4) := Option.some.inj ei4
  obtain ⟨i5, ei5⟩ := is_v g12
  obtain rfl : w5 = (.int i5) := Option.some.inj ei5
  obtain ⟨n, o, h1, h2, h3, _, L, rfl, ⟨rfl, N⟩, hq⟩ := rm0 l s _ hw tables_1 i0 i1 i2 i3 i4 i5 s.heap s.heap.size (Nat.le_refl _) p e ha hc hk s m _ below hf ((Spec.applies_iff_loose hf).mp happ).1 ⟨rfl, State.Warmed39.refl s, rfl⟩ trivial
  refine ⟨n, _, h1, h2, h3, hpost _ _ _ _ _ _ ⟨Cond.after_iff.mpr rfl, Cond.after_iff.mpr (eq_i res_at (Term.int_eval (1)) rfl), trivial⟩ ⟨hq.1, hq.2.1, (hq.2.2.sift fun y hy => Or.inr (N y hy)).mono (by decide) (by decide)⟩⟩
theorem main_1_1 : Claimed_1_1 := comes_1 fun _ _ _ _ _ _ h hF => ⟨h.1, hF⟩
theorem main_1_2 : Claimed_1_2 := comes_1 fun _ _ _ _ _ _ h hF => ⟨h.2.1, hF⟩
end Jvm.Pilot.@@N@@
namespace Jvm.Pilot.@@N@@
open Jvm Jvm.ClassFile Sem Op Lib Jvm.Free Jvm.Stand Jvm.Pilot.@@N@@.Jvm.D
/-! MADE BY PROGRAM (witnessworld.py) out of the Statement's table words and the real class files: 9 classes; the members and pool entries that the words name. The judged class is class 1, her method 2. -/
namespace start1
open Jvm.ClassFile
def u (s : String) : CpInfo := .utf8 (stringToUtf16 s)
/-- a pool by its gaps: so many unusable entries, then the entry; so many at the end -/
def gap : Nat → List CpInfo → List CpInfo
  | 0, r => r
  | n + 1, r => .unusable :: gap n r
def poolList (es : List (Nat × CpInfo)) (last : Nat) : List CpInfo := es.foldr (fun e r => gap e.1 (e.2 :: r)) (gap last [])
def pool (es : List (Nat × CpInfo)) (last : Nat) : Array CpInfo := ⟨poolList es last⟩
def fileOf (pool : Array CpInfo) (this : Nat) (attrs : Array Attribute := #[]) (ms : Array MethodInfo := #[]) (fl : Nat := 33) (sup : Nat := 0) (ifs : Array Nat := #[]) (fds : Array FieldInfo := #[]) : ClassFile where
  minorVersion := 0
  majorVersion := 65
  constantPool := pool
  accessFlags := fl
  thisClass := this
  superClass := sup
  interfaces := ifs
  fields := fds
  methods := ms
  attributes := attrs
def plain (name : String) (sup : Option ClassId) : Class where
  name := name
  kind := .ordinary
  loader := none
  accessFlags := 33
  super := sup
  interfaces := #[]
  cf := none
  fields := #[]
  methods := #[]
  instanceTypes := #[]
  staticTypes := #[]
  resolved := #[]
  callSites := []
  init := .initialized
  statics := none
  mirror := none

def pool0 : Array CpInfo := pool [(5, u "<init>"), (0, u "()V"), (1, .class_ 10), (1, u "java/lang/Object")] 113

def k0c0 : Code := { maxStack := 0, maxLocals := 1, code := object_method_1_code, exceptionTable := #[], attributes := #[] }
def k0m0 : Method := { name := "<init>", desc := "()V", sig := { parameters := [], returnType := none }, accessFlags := 1, code := some k0c0 }
/-- java/lang/Object -/
def k0 : Class := { plain "java/lang/Object" none with
  accessFlags := 33
  interfaces := #[]
  cf := some (fileOf pool0 8 #[] #[{ accessFlags := 1, nameIndex := 5, descriptorIndex := 6, attributes := #[] }] 33 0 #[] #[])
  fields := #[]
  methods := #[k0m0]
  instanceTypes := #[]
  staticTypes := #[]
  resolved := Array.replicate 124 none
  statics := none }

def pool1 : Array CpInfo := pool [(2, .class_ 4), (1, u "java/lang/Object"), (0, u "<init>"), (0, u "()V"), (0, .class_ 8), (0, u "com/example/labframe/labframe/wire/Frame"), (0, .methodref 7 10), (0, .nameAndType 5 11), (0, u "([BIZ)V"), (0, .methodref 13 14), (0, .class_ 15), (0, .nameAndType 16 17), (0, u "com/example/labframe/labframe/wire/FrameNumberPinLaw"), (0, u "expected"), (0, u "(IB)I"), (0, .methodref 7 19), (0, .nameAndType 20 21), (0, u "number"), (0, u "()I"), (3, u "law"), (0, u "(IIIIII)Z")] 4

def k1m0 : Method := { name := "<init>", desc := "()V", sig := { parameters := [], returnType := none }, accessFlags := 2, code := none }
def k1c1 : Code := { maxStack := 2, maxLocals := 3, code := method_2_code, exceptionTable := #[], attributes := #[] }
def k1m1 : Method := { name := "expected", desc := "(IB)I", sig := { parameters := [.int, .byte], returnType := some .int }, accessFlags := 10, code := some k1c1 }
def k1c2 : Code := { maxStack := 5, maxLocals := 13, code := code, exceptionTable := #[], attributes := #[] }
def k1m2 : Method := { name := "law", desc := "(IIIIII)Z", sig := { parameters := [.int, .int, .int, .int, .int, .int], returnType := some .boolean }, accessFlags := 9, code := some k1c2 }
/-- com/example/labframe/labframe/wire/FrameNumberPinLaw -/
def k1 : Class := { plain "com/example/labframe/labframe/wire/FrameNumberPinLaw" (some 0) with
  accessFlags := 49
  interfaces := #[]
  cf := some (fileOf pool1 13 #[] #[{ accessFlags := 2, nameIndex := 5, descriptorIndex := 6, attributes := #[] }, { accessFlags := 10, nameIndex := 16, descriptorIndex := 17, attributes := #[] }, { accessFlags := 9, nameIndex := 25, descriptorIndex := 26, attributes := #[] }] 49 2 #[] #[])
  fields := #[]
  methods := #[k1m0, k1m1, k1m2]
  instanceTypes := #[]
  staticTypes := #[]
  resolved := Array.replicate 31 none
  statics := none }

def pool2 : Array CpInfo := pool [(1, .methodref 2 3), (0, .class_ 4), (0, .nameAndType 5 6), (0, u "java/lang/Object"), (0, u "<init>"), (0, u "()V"), (0, .fieldref 8 9), (0, .class_ 10), (0, .nameAndType 11 12), (0, u "com/example/labframe/labframe/wire/Frame"), (0, u "bytes"), (0, u "[B"), (0, .fieldref 8 14), (0, .nameAndType 15 16), (0, u "end"), (0, u "I"), (0, .fieldref 8 18), (0, .nameAndType 19 20), (0, u "endsRecord"), (0, u "Z"), (55, u "([BIZ)V"), (23, u "()I"), (51, u "number"), (17, u "HEX"), (0, u "Ljava/util/HexFormat;")] 54

def k2c0 : Code := { maxStack := 2, maxLocals := 4, code := prog_39_method_1_code, exceptionTable := #[], attributes := #[] }
def k2m0 : Method := { name := "<init>", desc := "([BIZ)V", sig := { parameters := [(.array .byte), .int, .boolean], returnType := none }, accessFlags := 0, code := some k2c0 }
def k2c1 : Code := { maxStack := 2, maxLocals := 2, code := prog_39_method_8_code, exceptionTable := #[], attributes := #[] }
def k2m1 : Method := { name := "number", desc := "()I", sig := { parameters := [], returnType := some .int }, accessFlags := 1, code := some k2c1 }
/-- com/example/labframe/labframe/wire/Frame -/
def k2 : Class := { plain "com/example/labframe/labframe/wire/Frame" (some 0) with
  accessFlags := 49
  interfaces := #[]
  cf := some (fileOf pool2 8 #[] #[{ accessFlags := 0, nameIndex := 5, descriptorIndex := 76, attributes := #[] }, { accessFlags := 1, nameIndex := 152, descriptorIndex := 100, attributes := #[] }] 49 2 #[] #[{ accessFlags := 26, nameIndex := 170, descriptorIndex := 171, attributes := #[] }, { accessFlags := 18, nameIndex := 11, descriptorIndex := 12, attributes := #[] }, { accessFlags := 18, nameIndex := 15, descriptorIndex := 16, attributes := #[] }, { accessFlags := 18, nameIndex := 19, descriptorIndex := 20, attributes := #[] }])
  fields := #[{ name := "HEX", type := (.object "java/util/HexFormat"), accessFlags := 26, slot := 0, constantValue := 0 }, { name := "bytes", type := (.array .byte), accessFlags := 18, slot := 0, constantValue := 0 }, { name := "end", type := .int, accessFlags := 18, slot := 1, constantValue := 0 }, { name := "endsRecord", type := .boolean, accessFlags := 18, slot := 2, constantValue := 0 }]
  methods := #[k2m0, k2m1]
  instanceTypes := #[(.array .byte), .int, .boolean]
  staticTypes := #[(.object "java/util/HexFormat")]
  resolved := Array.replicate 226 none
  statics := none }

def pool3 : Array CpInfo := pool [(1, u "java/lang/Cloneable"), (0, .class_ 1), (0, u "java/lang/Object"), (0, .class_ 3)] 3

/-- java/lang/Cloneable -/
def k3 : Class := { plain "java/lang/Cloneable" (some 0) with
  accessFlags := 1537
  interfaces := #[]
  cf := some (fileOf pool3 2 #[] #[] 1537 4 #[] #[])
  fields := #[]
  methods := #[]
  instanceTypes := #[]
  staticTypes := #[]
  resolved := Array.replicate 8 none
  statics := none }

def pool4 : Array CpInfo := pool [(1, u "java/io/Serializable"), (0, .class_ 1), (0, u "java/lang/Object"), (0, .class_ 3)] 3

/-- java/io/Serializable -/
def k4 : Class := { plain "java/io/Serializable" (some 0) with
  accessFlags := 1537
  interfaces := #[]
  cf := some (fileOf pool4 2 #[] #[] 1537 4 #[] #[])
  fields := #[]
  methods := #[]
  instanceTypes := #[]
  staticTypes := #[]
  resolved := Array.replicate 8 none
  statics := none }

/-- the primitive byte -/
def k5 : Class := { plain "byte" none with kind := .primitive 'B', accessFlags := 0x411 }
/-- [B -/
def k6 : Class := { plain "[B" (some 0) with kind := .array 5 .byte, interfaces := #[3, 4], accessFlags := 1041 }

/-- the primitive int -/
def k7 : Class := { plain "int" none with kind := .primitive 'I', accessFlags := 0x411 }
/-- [I -/
def k8 : Class := { plain "[I" (some 0) with kind := .array 7 .int, interfaces := #[3, 4], accessFlags := 1041 }

def heap : Heap := #[]
def classes : Array Class := #[k0, k1, k2, k3, k4, k5, k6, k7, k8]
def interned : List (Array UInt16 × Addr) := []
def slotsUsed : Nat := 0
def theMethod : MethodId := ⟨1, 2⟩
def args0 : Array Value := #[.int 3, .int 5, .int 49, .int 6, .int 7, .int 1]
def aboutOver (below : List Frame) : State where
  vm := { classes := classes, interned := interned.toArray }
  heap := heap
  slotsUsed := slotsUsed
  threads := #[{ frames := .invoking theMethod args0 :: below }]
def below0 : List Frame := [.native { method := ⟨0, 0⟩, args := #[] }]
def about1 : State := aboutOver below0
def p0 : Program := .bare "" "" ""
def e0 : Env := launch0.env 0 0 0
theorem w_frames : about1.frames = Frame.invoking theMethod args0 :: below0 := rfl
set_option maxRecDepth 65536 in
theorem w_args : argsFit about1.vm theMethod args0 = true := by decide +kernel
set_option maxRecDepth 65536 in
theorem w_heap : heapFits about1 = true := by decide +kernel
set_option maxRecDepth 65536 in
theorem w_runnable : about1.curStatus? = some .runnable := by decide +kernel
set_option maxRecDepth 65536 in
theorem w_alone : about1.alone = true := by decide +kernel
set_option maxRecDepth 65536 in
theorem w_named : about1.methodNamed? x = some theMethod := by decide +kernel
set_option maxRecDepth 65536 in
theorem w_hears : about1.hears theMethod below0 = true := by decide +kernel
set_option maxRecDepth 65536 in
theorem w_ripe : about1.ripe theMethod args0 below0 = true := by decide +kernel
theorem w_running : about1.status = .running := rfl
set_option maxRecDepth 65536 in
theorem w_room : about1.hasRoom e0.platform room_1 = true :=
  launch0.hasRoom_least _ room_1 (by decide +kernel) (by decide +kernel) (by decide +kernel) (by decide +kernel) (by decide +kernel) (by decide +kernel)
theorem allAtoms_all (ts : List Jvm.Cond) (a : Array Jvm.Value) (st : Jvm.State) : (allAtoms ts).before a st = ts.all (fun c => c.before a st) := by
  induction ts with
  | nil => rfl
  | cons c t ih =>
    show (Jvm.Cond.and c (allAtoms t)).before a st = _
    rw [Jvm.Cond.before_and, ih, List.all_cons]
def words1 : List Jvm.Cond := Jvm.Cond.code x code maxLocals ret :: tables_1
/-- a 'code' word, met by the world's own term for the bytes: nothing is compared byte by byte -/
theorem code_word {y : MethodName} {bytes : ByteArray} {mx : Nat} {rt : Option FieldType} {a : Array Value} {s : State} {m : MethodId} {meth : Method} {c : Code} (h1 : s.methodNamed? y = some m) (h2 : s.vm.method? m = some meth) (h3 : meth.code = some c) (h4 : c.code = bytes)
    (h5 : (c.maxLocals == mx && c.exceptionTable.isEmpty && decide (c.maxStack ≤ mostOperands) && decide (meth.sig.returnType = rt) && !meth.locks && decide (parseMethodDescriptor y.desc = some meth.sig)) = true) : (Jvm.Cond.code y bytes mx rt).before a s = true := by
  simp only [Bool.and_eq_true, beq_iff_eq, Bool.not_eq_true', decide_eq_true_eq] at h5
  obtain ⟨⟨⟨⟨⟨g1, g2⟩, g3⟩, g4⟩, g5⟩, g6⟩ := h5
  simp [Cond.before, Cond.holds, Cond.value, h1, h2, h3, h4, g1, g2, g3, g4, g5, g6]
def isCode : Jvm.Cond → Bool
  | .code _ _ _ _ => true
  | _ => false
theorem all_split {L : List Jvm.Cond} {P : Jvm.Cond → Bool} (h1 : L.all (fun c => isCode c || P c) = true) (h2 : ∀ c ∈ L.filter isCode, P c = true) : L.all P = true := by
  refine List.all_eq_true.mpr fun c hc => ?_
  have h := List.all_eq_true.mp h1 c hc
  rcases Bool.eq_false_or_eq_true (isCode c) with hi | hi
  · exact h2 c (List.mem_filter.mpr ⟨hc, hi⟩)
  · simpa [hi] using h
set_option maxRecDepth 65536 in
theorem w_c0 : (Jvm.Cond.code x code maxLocals ret).before args0 about1 = true := code_word (m := ⟨1, 2⟩) (meth := k1m2) (c := k1c2) (by decide +kernel) rfl rfl rfl (by decide +kernel)
set_option maxRecDepth 65536 in
theorem w_c1 : (Jvm.Cond.code ({ cls := "com/example/labframe/labframe/wire/Frame", name := "<init>", desc := "([BIZ)V" } : Jvm.MethodName) prog_39_method_1_code (4 : Nat) (Option.none : Option Jvm.ClassFile.FieldType)).before args0 about1 = true := code_word (m := ⟨2, 0⟩) (meth := k2m0) (c := k2c0) (by decide +kernel) rfl rfl rfl (by decide +kernel)
set_option maxRecDepth 65536 in
theorem w_c2 : (Jvm.Cond.code ({ cls := "java/lang/Object", name := "<init>", desc := "()V" } : Jvm.MethodName) object_method_1_code (1 : Nat) (Option.none : Option Jvm.ClassFile.FieldType)).before args0 about1 = true := code_word (m := ⟨0, 0⟩) (meth := k0m0) (c := k0c0) (by decide +kernel) rfl rfl rfl (by decide +kernel)
set_option maxRecDepth 65536 in
theorem w_c3 : (Jvm.Cond.code ({ cls := "com/example/labframe/labframe/wire/FrameNumberPinLaw", name := "expected", desc := "(IB)I" } : Jvm.MethodName) method_2_code (3 : Nat) (Option.some Jvm.ClassFile.FieldType.int)).before args0 about1 = true := code_word (m := ⟨1, 1⟩) (meth := k1m1) (c := k1c1) (by decide +kernel) rfl rfl rfl (by decide +kernel)
set_option maxRecDepth 65536 in
theorem w_c4 : (Jvm.Cond.code ({ cls := "com/example/labframe/labframe/wire/Frame", name := "number", desc := "()I" } : Jvm.MethodName) prog_39_method_8_code (2 : Nat) (Option.some Jvm.ClassFile.FieldType.int)).before args0 about1 = true := code_word (m := ⟨2, 1⟩) (meth := k2m1) (c := k2c1) (by decide +kernel) rfl rfl rfl (by decide +kernel)
def codes1 : List Jvm.Cond := [Jvm.Cond.code x code maxLocals ret, Jvm.Cond.code ({ cls := "com/example/labframe/labframe/wire/Frame", name := "<init>", desc := "([BIZ)V" } : Jvm.MethodName) prog_39_method_1_code (4 : Nat) (Option.none : Option Jvm.ClassFile.FieldType), Jvm.Cond.code ({ cls := "java/lang/Object", name := "<init>", desc := "()V" } : Jvm.MethodName) object_method_1_code (1 : Nat) (Option.none : Option Jvm.ClassFile.FieldType), Jvm.Cond.code ({ cls := "com/example/labframe/labframe/wire/FrameNumberPinLaw", name := "expected", desc := "(IB)I" } : Jvm.MethodName) method_2_code (3 : Nat) (Option.some Jvm.ClassFile.FieldType.int), Jvm.Cond.code ({ cls := "com/example/labframe/labframe/wire/Frame", name := "number", desc := "()I" } : Jvm.MethodName) prog_39_method_8_code (2 : Nat) (Option.some Jvm.ClassFile.FieldType.int)]
set_option maxRecDepth 65536 in
theorem codes_eq : words1.filter isCode = codes1 := rfl
theorem w_codes : ∀ c ∈ words1.filter isCode, c.before args0 about1 = true := by
  rw [codes_eq]
  intro c hc
  simp only [codes1, List.mem_cons, List.not_mem_nil, or_false] at hc
  rcases hc with rfl | rfl | rfl | rfl | rfl
  · exact w_c0
  · exact w_c1
  · exact w_c2
  · exact w_c3
  · exact w_c4
set_option maxRecDepth 65536 in
theorem w_t1 : (words1.take 24).all (fun c => isCode c || c.before args0 about1) = true := by decide +kernel
set_option maxRecDepth 65536 in
theorem w_t2 : (words1.drop 24).all (fun c => isCode c || c.before args0 about1) = true := by decide +kernel
theorem w_tables : (allAtoms (Jvm.Cond.code x code maxLocals ret :: tables_1)).before args0 about1 = true := by
  rw [allAtoms_all]
  show words1.all (fun c => c.before args0 about1) = true
  refine all_split ?_ w_codes
  rw [← List.take_append_drop 24 words1, List.all_append, w_t1, w_t2]
  rfl
set_option maxRecDepth 65536 in
theorem w_case : (Jvm.Cond.and given_1 narrow_1).before args0 about1 = true := by decide +kernel
theorem w_applies : (headSpec (Jvm.Cond.code x code maxLocals ret :: tables_1) room_1).applies x e0.platform about1 = true :=
  (Spec.applies_iff w_frames).mpr ⟨w_running, w_runnable, w_alone, w_named, w_hears, w_ripe, w_room, w_tables⟩
theorem atStart : AtStart classFile x code maxLocals ret World_1 tables_1 room_1 Calls_1 rest_1 Pre_1 launch0 p0 e0 about1 theMethod args0 below0 :=
  ⟨lists_1, trivial, launch0.admits_env _ _ _, launch0.least_env, fairChoices_fair.cas, fairChoices_fair.clock, w_frames, w_args, w_heap, w_applies, trivial, trivial, w_case⟩
end start1
theorem witness_1 : WitnessClaimed_1 := ⟨start1.p0, start1.e0, start1.about1, start1.theMethod, start1.args0, start1.below0, start1.atStart⟩
end Jvm.Pilot.@@N@@
