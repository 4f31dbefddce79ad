import JvmDerived
import JvmDerived.Pilot.@@N@@Statement
import JvmDerived.Pilot.@@N@@Code
set_option linter.unusedVariables false
set_option linter.unusedSimpArgs false

namespace Jvm.Pilot.@@N@@
open Jvm Jvm.ClassFile Sem Op Lib Jvm.Free Jvm.Stand Jvm.LawKit Jvm.RoadKit Bundle Jvm.Pilot.@@N@@.Jvm.D
/-- the run from U comes to an end of which P holds -/
def own_Go (tb : Tables) (e : Env) (below : List Frame) (P : Outcome → State → Prop) (U : State) : Prop :=
  ∃ s₂ o, Steps tb e below U s₂ ∧ s₂.status = .running ∧ Ended s₂ below o ∧ P o s₂
theorem own_go {tb : Tables} {e : Env} {below : List Frame} {P : Outcome → State → Prop} {U U' : State} (k : ∀ t, Steps tb e below U' t → Steps tb e below U t) (h : own_Go tb e below P U') : own_Go tb e below P U := by
  obtain ⟨t, o, h1, h2⟩ := h
  exact ⟨t, o, k t h1, h2⟩
section Own
variable {p : Program} {l : Launch} {e : Env} {R : Room} {s : State} {m : MethodId} {args : Array Value} {below : List Frame} {meth : Method} {c : Code} {T : State} {locs : List Loc} {cells slots : Nat}
theorem own_retI (X : Stand p l e R s m args below meth c T locs cells slots) (hx : p.tables.exec = Jvm.exec) {pc : Nat} {Ls : Array Slot} {z : Int32} {rest : List Value} (hret : meth.sig.returnType = some .int) (hd : decode c.code pc = .ok (.ireturn, 1)) {fs : List Frame}
    (hl : ∀ (f : JFrame) (acts : List Action), f.method = m → f.locked = none → f.entered = [] → (doReturn e (T.setTop f) acts (some (.int z))).1 = T.setFrames fs) : Steps p.tables e below (T.setTop (mkF m pc Ls (.int z :: rest))) (T.setFrames fs) := by
  have hm' : T.vm.method? m = some meth := X.method'
  have hn : narrow .int (.int z) = .int z := rfl
  show Steps p.tables e below (T.setTop { method := m, pc := pc, locals := Ls, stack := _ :: rest, locked := none }) _
  jvm_step X.here [X.here.top, hx, hd, hm', hret, hn]
  first | (intro acts; rw [hl _ acts rfl rfl rfl]) | rw [hl _ _ rfl rfl rfl]
  exact Steps.refl _
theorem own_retJ (X : Stand p l e R s m args below meth c T locs cells slots) (hx : p.tables.exec = Jvm.exec) {pc : Nat} {Ls : Array Slot} {z : Int64} {rest : List Value} (hret : meth.sig.returnType = some .long) (hd : decode c.code pc = .ok (.lreturn, 1)) {fs : List Frame}
    (hl : ∀ (f : JFrame) (acts : List Action), f.method = m → f.locked = none → f.entered = [] → (doReturn e (T.setTop f) acts (some (.long z))).1 = T.setFrames fs) : Steps p.tables e below (T.setTop (mkF m pc Ls (.long z :: rest))) (T.setFrames fs) := by
  have hm' : T.vm.method? m = some meth := X.method'
  show Steps p.tables e below (T.setTop { method := m, pc := pc, locals := Ls, stack := _ :: rest, locked := none }) _
  jvm_step X.here [X.here.top, hx, hd, hm', hret, narrow]
  first | (intro acts; rw [hl _ acts rfl rfl rfl]) | rw [hl _ _ rfl rfl rfl]
  exact Steps.refl _
theorem own_mapI (xs : List Int32) (i : Nat) : (xs.map Value.int).getD i (.int 0) = .int (xs.getD i 0) := by
  simp only [List.getD_eq_getElem?_getD, List.getElem?_map]; cases xs[i]? <;> rfl
theorem own_mapJ (xs : List Int64) (i : Nat) : (xs.map Value.long).getD i (.long 0) = .long (xs.getD i 0) := by
  simp only [List.getD_eq_getElem?_getD, List.getElem?_map]; cases xs[i]? <;> rfl
theorem own_kx {h h' : Heap} (K : Keep h h' []) : Ext h h' := ⟨K.1, fun a c q => K.2.1 a c q (by simp)⟩
theorem own_retA (X : Stand p l e R s m args below meth c T locs cells slots) (hx : p.tables.exec = Jvm.exec) {pc : Nat} {Ls : Array Slot} {z : Addr} {rest : List Value} {C : String} (hret : meth.sig.returnType = some (.object C)) (hd : decode c.code pc = .ok (.areturn, 1)) {fs : List Frame}
    (hl : ∀ (f : JFrame) (acts : List Action), f.method = m → f.locked = none → f.entered = [] → (doReturn e (T.setTop f) acts (some (.ref z))).1 = T.setFrames fs) : Steps p.tables e below (T.setTop (mkF m pc Ls (.ref z :: rest))) (T.setFrames fs) := by
  have hm' : T.vm.method? m = some meth := X.method'
  show Steps p.tables e below (T.setTop { method := m, pc := pc, locals := Ls, stack := _ :: rest, locked := none }) _
  jvm_step X.here [X.here.top, hx, hd, hm', hret, Value.isRef, FieldType.isReference]
  first | (intro acts; rw [hl _ acts rfl rfl rfl]) | rw [hl _ _ rfl rfl rfl]
  exact Steps.refl _
theorem own_endH {Q : Option Value → Heap → List Loc → Prop} {kc ks n : Nat} {vm₁ : Vm} {Z : State} {EL : List (String × Nat)} (X : Stand p l e R (s.setVm vm₁) m args below meth c T locs cells slots) (hC : CHr Z EL s.vm s.heap T.vm T.heap) (hS : s.Since vm₁ n) (hn : n ≤ T.heap.size) (hlocks : meth.locks = false) {g : JFrame} {v : Option Value}
    (hv : meth.sig.returnType = none → v = none)
    (hs : ∀ fs, (∀ (f : JFrame) (acts : List Action), f.method = m → f.locked = none → f.entered = [] → (doReturn e (T.setTop f) acts v).1 = T.setFrames fs) → Steps p.tables e below (T.setTop g) (T.setFrames fs))
    (hQ : Q v T.heap locs) (h1 : cells ≤ kc) (h2 : slots ≤ ks) :
    own_Go p.tables e below (fun o U' => ∃ v L, o = .returned v ∧ Q v U'.heap L ∧ CHr Z EL s.vm s.heap U'.vm U'.heap ∧ ReturnedEndW s o U' L kc ks) (T.setTop g) := by
  obtain ⟨fs, hr, hrun, hended, h3, h4, h5, h6⟩ := X.leaveW hS hn (v := v) hv hlocks
  exact ⟨_, _, hs fs hr, hrun, hended, _, _, rfl, hQ, hC, h3, h4, h5, h6.mono h1 h2⟩
theorem own_endW {Q : Option Value → Heap → List Loc → Prop} {kc ks n : Nat} {vm₁ : Vm} (X : Stand p l e R (s.setVm vm₁) m args below meth c T locs cells slots) (hS : s.Since vm₁ n) (hn : n ≤ T.heap.size) (hlocks : meth.locks = false) {g : JFrame} {v : Option Value}
    (hv : meth.sig.returnType = none → v = none)
    (hs : ∀ fs, (∀ (f : JFrame) (acts : List Action), f.method = m → f.locked = none → f.entered = [] → (doReturn e (T.setTop f) acts v).1 = T.setFrames fs) → Steps p.tables e below (T.setTop g) (T.setFrames fs))
    (hQ : Q v T.heap locs) (h1 : cells ≤ kc) (h2 : slots ≤ ks) :
    own_Go p.tables e below (fun o U' => ∃ v L, o = .returned v ∧ Q v U'.heap L ∧ ReturnedEndW s o U' L kc ks) (T.setTop g) := by
  obtain ⟨fs, hr, hrun, hended, h3, h4, h5, h6⟩ := X.leaveW hS hn (v := v) hv hlocks
  exact ⟨_, _, hs fs hr, hrun, hended, _, _, rfl, hQ, h3, h4, h5, h6.mono h1 h2⟩
theorem own_end {Q : Option Value → Heap → List Loc → Prop} {kc ks : Nat} (X : Stand p l e R s m args below meth c T locs cells slots) (hlocks : meth.locks = false) {g : JFrame} {v : Option Value}
    (hv : meth.sig.returnType = none → v = none)
    (hs : ∀ fs, (∀ (f : JFrame) (acts : List Action), f.method = m → f.locked = none → f.entered = [] → (doReturn e (T.setTop f) acts v).1 = T.setFrames fs) → Steps p.tables e below (T.setTop g) (T.setFrames fs))
    (hQ : Q v T.heap locs) (h1 : cells ≤ kc) (h2 : slots ≤ ks) :
    own_Go p.tables e below (fun o U' => ∃ v L, o = .returned v ∧ Q v U'.heap L ∧ FrameEnd s o U' L kc ks) (T.setTop g) := by
  obtain ⟨fs, hr, hrun, hended, hW, hsame⟩ := X.leave (v := v) hv hlocks
  exact ⟨_, _, hs fs hr, hrun, hended, _, _, rfl, hQ, ⟨_, rfl⟩, hW, hsame.mono h1 h2⟩
end Own
theorem own_wS {Z : State} {a0 : Array Value} (hw : ∀ d ∈ tables_1, d.before a0 Z = true) : ∀ a ∈ Bundle.stringAtoms, a.before a0 Z = true := fun c hc =>
  hw c (by simpa using (List.all_eq_true.mp (by decide +kernel : (Bundle.stringAtoms.all fun c => tables_1.contains c) = true)) c hc)

/-- the constant's text, out of the sheet's own word -/
def own_text : String := match (tables_1[4]? : Option Jvm.Cond) with
  | some (Jvm.Cond.stringLink _ _ t) => t
  | _ => ""
theorem own_litw {Z : State} {a0 : Array Value} (hw : ∀ d ∈ tables_1, d.before a0 Z = true) : (Jvm.Cond.stringLink "com/example/vestibule/vestibule/http/HttpFields" 148 own_text).before a0 Z = true := hw _ (List.mem_of_getElem? (i := 4) rfl)
theorem own_lit : (∀ c ∈ own_text.toList, c.toNat < 256) ∧ own_text.toList.map (fun c => Value.int (Jvm.Lit.byteI c.toNat.toUInt16)) = [(.int (33 : Int32)), (.int (35 : Int32)), (.int (36 : Int32)), (.int (37 : Int32)), (.int (38 : Int32)), (.int (39 : Int32)), (.int (42 : Int32)), (.int (43 : Int32)), (.int (45 : Int32)), (.int (46 : Int32)), (.int (94 : Int32)), (.int (95 : Int32)), (.int (96 : Int32)), (.int (124 : Int32)), (.int (126 : Int32))] := by decide +kernel
theorem own_EL {Z : State} {a0 : Array Value} (hw : ∀ d ∈ tables_1, d.before a0 Z = true) : EW Z a0 consts_1 := EW.cons (own_litw hw) own_lit.1 EW.nil
theorem ds1_0 : decode jdk_42_method_154_code 0 = .ok (.getstatic 38, 3) := by decide +kernel
theorem ds1_3 : decode jdk_42_method_154_code 3 = .ok (.ifCond .eq 14, 3) := by decide +kernel
theorem ds1_6 : decode jdk_42_method_154_code 6 = .ok (.aload_n 0, 1) := by decide +kernel
theorem ds1_7 : decode jdk_42_method_154_code 7 = .ok (.getfield 15, 3) := by decide +kernel
theorem ds1_10 : decode jdk_42_method_154_code 10 = .ok (.ifCond .ne 7, 3) := by decide +kernel
theorem ds1_13 : decode jdk_42_method_154_code 13 = .ok (.iconst 1, 1) := by decide +kernel
theorem ds1_14 : decode jdk_42_method_154_code 14 = .ok (.goto 4, 3) := by decide +kernel
theorem ds1_18 : decode jdk_42_method_154_code 18 = .ok (.ireturn, 1) := by decide +kernel
theorem pns1 : plainName "java/lang/String" = true := by first | (simp [plainName, overriddenIn]; done) | decide +kernel
theorem efs1 (m : MethodId) (a0 : Addr) : entryFrame m #[(.ref a0)] 1 = mkF m 0 #[.val (.ref a0)] [] := by first | (simp [entryFrame, mkF, argsToLocals, Value.category]; done) | rfl
def own_Qs1 (Z : State) (a0 : Addr) (ab : Addr) (ka : ClassId) (wc : Int32) (h0 : Heap) (n0 : Nat) (v : Option Value) (h : Heap) (L : List Loc) : Prop := v = some (.int (1 : Int32)) ∧ Fr n0 L ∧ h = h0
set_option maxRecDepth 65536 in
set_option maxHeartbeats 40000000 in
theorem rms1 (l : Launch) (Z : State) (az : Array Value) (hw : ∀ d ∈ tables_1, d.before az Z = true) (ws : List Jvm.Cond) (a0 : Addr) (ab : Addr) (ka : ClassId) (wc : Int32) (h0 : Heap) (n0 : Nat) (Z0 : n0 ≤ h0.size) (F_a0_coder : Fld Z h0 a0 "java/lang/String" "coder" "B" (.int (0 : Int32))) (F_a0_value : Fld Z h0 a0 "java/lang/String" "value" "[B" (.ref ab)) (E_a0 : Exa Z h0 a0 "java/lang/String") (V_ab : Arv Z h0 ab ka .byte (15 : Int32) [(.int (33 : Int32)), (.int (35 : Int32)), (.int (36 : Int32)), (.int (37 : Int32)), (.int (38 : Int32)), (.int (39 : Int32)), (.int (42 : Int32)), (.int (43 : Int32)), (.int (45 : Int32)), (.int (46 : Int32)), (.int (94 : Int32)), (.int (95 : Int32)), (.int (96 : Int32)), (.int (124 : Int32)), (.int (126 : Int32))] (.int (0 : Int32))) (S_COMPACT_STRINGS : Sta Z h0 "java/lang/String" "COMPACT_STRINGS" "Z" (.int wc)) (hwc : ¬ (wc = (0 : Int32))) :
    MetFree l (⟨"java/lang/String", "isLatin1", "()Z"⟩ : MethodName) (head1 (Jvm.Cond.code (⟨"java/lang/String", "isLatin1", "()Z"⟩ : MethodName) jdk_42_method_154_code 1 (some .boolean) :: ws) ({ frames := 0, cells := 0, slots := 0, locals := 0 } : Room)) (fun a U => a = #[(.ref a0)] ∧ Z.Warmed39 U.vm ∧ U.heap = h0) (fun _ _ _ _ _ => True) (fun _ U o U' => ∃ v L, o = .returned v ∧ own_Qs1 Z a0 ab ka wc h0 n0 v U'.heap L ∧ FrameEnd U o U' L ({ frames := 0, cells := 0, slots := 0, locals := 0 } : Room).cells ({ frames := 0, cells := 0, slots := 0, locals := 0 } : Room).slots) := by
  refine MetFree.of_bodySF (plainFor_of_name pns1) hisR ?_
  intro p e s m args below meth c s₁ Bd hml0 hP hK
  obtain ⟨rfl, hZ, hh⟩ := hP
  have hx := Bd.exec
  have hby := Bd.bytes
  have hml : c.maxLocals = 1 := hml0
  have hown : s.vm.findClass "java/lang/String" = some m.cls := findClass_of_methodNamed Bd.named
  have hnm := (name_of_methodNamed Bd.named Bd.method).1
  have X0 : Stand p l e ({ frames := 0, cells := 0, slots := 0, locals := 0 } : Room) s m #[(.ref a0)] below meth c s₁ [] 0 0 := Stand.of_body Bd
  have e0 : s₁.heap = h0 := by rw [← hh, Bd.state]; rfl
  have N0 := Fr.nil n0
  show own_Go p.tables e below (fun o U' => ∃ v L, o = .returned v ∧ own_Qs1 Z a0 ab ka wc h0 n0 v U'.heap L ∧ FrameEnd s o U' L ({ frames := 0, cells := 0, slots := 0, locals := 0 } : Room).cells ({ frames := 0, cells := 0, slots := 0, locals := 0 } : Room).slots) (s₁.setTop (entryFrame m #[(.ref a0)] 1))
  refine own_go (fun _ k => castTop (efs1 m a0) k) ?_
  show own_Go p.tables e below _ (s₁.setTop (mkF m 0 #[.val (.ref a0)] []))
  obtain ⟨T1, X1, e1, st1⟩ := getS2 X0 hx hZ hown (host := "") (Or.inl (hw _ (List.mem_of_getElem? (i := 27) rfl))) Via.refl e0 S_COMPACT_STRINGS (g := (mkF m 0 #[.val (.ref a0)] [])) rfl (hb hby ds1_0)
  refine own_go st1 ?_
  show own_Go p.tables e below _ (T1.setTop (mkF m 3 #[.val (.ref a0)] [(.int wc)]))
  have hf3 : ¬ (wc = (0 : Int32)) := hwc
  refine own_go (fun _ k => XS.ifNo X1.here hx rfl (hb hby ds1_3) rfl ((if0 _ _).trans (feq hf3).1) k) ?_
  show own_Go p.tables e below _ (T1.setTop (mkF m 6 #[.val (.ref a0)] []))
  refine own_go (fun _ k => XS.aloadN X1.here hx rfl (hb hby ds1_6) rfl rfl k) ?_
  show own_Go p.tables e below _ (T1.setTop (mkF m 7 #[.val (.ref a0)] [(.ref a0)]))
  obtain ⟨T2, X2, e2, st2⟩ := getF X1 hx hZ hown (host := "") (Or.inl (hw _ (List.mem_of_getElem? (i := 28) rfl))) Via.refl e1 F_a0_coder (g := (mkF m 7 #[.val (.ref a0)] [(.ref a0)])) rfl rfl (hb hby ds1_7)
  refine own_go st2 ?_
  show own_Go p.tables e below _ (T2.setTop (mkF m 10 #[.val (.ref a0)] [(.int (0 : Int32))]))
  have hf10 : (0 : Int32) = (0 : Int32) := by decide
  refine own_go (fun _ k => XS.ifNo X2.here hx rfl (hb hby ds1_10) rfl ((if0 _ _).trans (teq hf10).2) k) ?_
  show own_Go p.tables e below _ (T2.setTop (mkF m 13 #[.val (.ref a0)] []))
  refine own_go (fun _ k => XS.iconst X2.here hx rfl (hb hby ds1_13) k) ?_
  show own_Go p.tables e below _ (T2.setTop (mkF m 14 #[.val (.ref a0)] [(.int (1 : Int32))]))
  refine own_go (fun _ k => XS.goto X2.here hx rfl (pc0 := 14) (pc' := 18) rfl (hb hby ds1_14) (by decide) (by decide) k) ?_
  show own_Go p.tables e below _ (T2.setTop (mkF m 18 #[.val (.ref a0)] [(.int (1 : Int32))]))
  refine own_end X2 Bd.notSynchronized (v := some (.int (1 : Int32))) (fun h => by rw [Bd.returns] at h; cases h) (fun fs hr => retN X2 hx (t := .boolean) Bd.returns (by simp) (hb hby ds1_18) hr) ?_ (by decide) (by decide)
  exact ⟨congrArg (fun z => some (Value.int z)) (by decide : (1 : Int32) = (1 : Int32)), N0, e2⟩
theorem ds2_0 : decode jdk_42_method_152_code 0 = .ok (.getstatic 38, 3) := by decide +kernel
theorem ds2_3 : decode jdk_42_method_152_code 3 = .ok (.ifCond .eq 10, 3) := by decide +kernel
theorem ds2_6 : decode jdk_42_method_152_code 6 = .ok (.aload_n 0, 1) := by decide +kernel
theorem ds2_7 : decode jdk_42_method_152_code 7 = .ok (.getfield 15, 3) := by decide +kernel
theorem ds2_10 : decode jdk_42_method_152_code 10 = .ok (.goto 4, 3) := by decide +kernel
theorem ds2_14 : decode jdk_42_method_152_code 14 = .ok (.ireturn, 1) := by decide +kernel
theorem pns2 : plainName "java/lang/String" = true := by first | (simp [plainName, overriddenIn]; done) | decide +kernel
theorem efs2 (m : MethodId) (a0 : Addr) : entryFrame m #[(.ref a0)] 1 = mkF m 0 #[.val (.ref a0)] [] := by first | (simp [entryFrame, mkF, argsToLocals, Value.category]; done) | rfl
def own_Qs2 (Z : State) (a0 : Addr) (ab : Addr) (ka : ClassId) (wc : Int32) (h0 : Heap) (n0 : Nat) (v : Option Value) (h : Heap) (L : List Loc) : Prop := v = some (.int (0 : Int32)) ∧ Fr n0 L ∧ h = h0
set_option maxRecDepth 65536 in
set_option maxHeartbeats 40000000 in
theorem rms2 (l : Launch) (Z : State) (az : Array Value) (hw : ∀ d ∈ tables_1, d.before az Z = true) (ws : List Jvm.Cond) (a0 : Addr) (ab : Addr) (ka : ClassId) (wc : Int32) (h0 : Heap) (n0 : Nat) (Z0 : n0 ≤ h0.size) (F_a0_coder : Fld Z h0 a0 "java/lang/String" "coder" "B" (.int (0 : Int32))) (F_a0_value : Fld Z h0 a0 "java/lang/String" "value" "[B" (.ref ab)) (E_a0 : Exa Z h0 a0 "java/lang/String") (V_ab : Arv Z h0 ab ka .byte (15 : Int32) [(.int (33 : Int32)), (.int (35 : Int32)), (.int (36 : Int32)), (.int (37 : Int32)), (.int (38 : Int32)), (.int (39 : Int32)), (.int (42 : Int32)), (.int (43 : Int32)), (.int (45 : Int32)), (.int (46 : Int32)), (.int (94 : Int32)), (.int (95 : Int32)), (.int (96 : Int32)), (.int (124 : Int32)), (.int (126 : Int32))] (.int (0 : Int32))) (S_COMPACT_STRINGS : Sta Z h0 "java/lang/String" "COMPACT_STRINGS" "Z" (.int wc)) (hwc : ¬ (wc = (0 : Int32))) :
    MetFree l (⟨"java/lang/String", "coder", "()B"⟩ : MethodName) (head1 (Jvm.Cond.code (⟨"java/lang/String", "coder", "()B"⟩ : MethodName) jdk_42_method_152_code 1 (some .byte) :: ws) ({ frames := 0, cells := 0, slots := 0, locals := 0 } : Room)) (fun a U => a = #[(.ref a0)] ∧ Z.Warmed39 U.vm ∧ U.heap = h0) (fun _ _ _ _ _ => True) (fun _ U o U' => ∃ v L, o = .returned v ∧ own_Qs2 Z a0 ab ka wc h0 n0 v U'.heap L ∧ FrameEnd U o U' L ({ frames := 0, cells := 0, slots := 0, locals := 0 } : Room).cells ({ frames := 0, cells := 0, slots := 0, locals := 0 } : Room).slots) := by
  refine MetFree.of_bodySF (plainFor_of_name pns2) hisR ?_
  intro p e s m args below meth c s₁ Bd hml0 hP hK
  obtain ⟨rfl, hZ, hh⟩ := hP
  have hx := Bd.exec
  have hby := Bd.bytes
  have hml : c.maxLocals = 1 := hml0
  have hown : s.vm.findClass "java/lang/String" = some m.cls := findClass_of_methodNamed Bd.named
  have hnm := (name_of_methodNamed Bd.named Bd.method).1
  have X0 : Stand p l e ({ frames := 0, cells := 0, slots := 0, locals := 0 } : Room) s m #[(.ref a0)] below meth c s₁ [] 0 0 := Stand.of_body Bd
  have e0 : s₁.heap = h0 := by rw [← hh, Bd.state]; rfl
  have N0 := Fr.nil n0
  show own_Go p.tables e below (fun o U' => ∃ v L, o = .returned v ∧ own_Qs2 Z a0 ab ka wc h0 n0 v U'.heap L ∧ FrameEnd s o U' L ({ frames := 0, cells := 0, slots := 0, locals := 0 } : Room).cells ({ frames := 0, cells := 0, slots := 0, locals := 0 } : Room).slots) (s₁.setTop (entryFrame m #[(.ref a0)] 1))
  refine own_go (fun _ k => castTop (efs2 m a0) k) ?_
  show own_Go p.tables e below _ (s₁.setTop (mkF m 0 #[.val (.ref a0)] []))
  obtain ⟨T1, X1, e1, st1⟩ := getS2 X0 hx hZ hown (host := "") (Or.inl (hw _ (List.mem_of_getElem? (i := 27) rfl))) Via.refl e0 S_COMPACT_STRINGS (g := (mkF m 0 #[.val (.ref a0)] [])) rfl (hb hby ds2_0)
  refine own_go st1 ?_
  show own_Go p.tables e below _ (T1.setTop (mkF m 3 #[.val (.ref a0)] [(.int wc)]))
  have hf3 : ¬ (wc = (0 : Int32)) := hwc
  refine own_go (fun _ k => XS.ifNo X1.here hx rfl (hb hby ds2_3) rfl ((if0 _ _).trans (feq hf3).1) k) ?_
  show own_Go p.tables e below _ (T1.setTop (mkF m 6 #[.val (.ref a0)] []))
  refine own_go (fun _ k => XS.aloadN X1.here hx rfl (hb hby ds2_6) rfl rfl k) ?_
  show own_Go p.tables e below _ (T1.setTop (mkF m 7 #[.val (.ref a0)] [(.ref a0)]))
  obtain ⟨T2, X2, e2, st2⟩ := getF X1 hx hZ hown (host := "") (Or.inl (hw _ (List.mem_of_getElem? (i := 28) rfl))) Via.refl e1 F_a0_coder (g := (mkF m 7 #[.val (.ref a0)] [(.ref a0)])) rfl rfl (hb hby ds2_7)
  refine own_go st2 ?_
  show own_Go p.tables e below _ (T2.setTop (mkF m 10 #[.val (.ref a0)] [(.int (0 : Int32))]))
  refine own_go (fun _ k => XS.goto X2.here hx rfl (pc0 := 10) (pc' := 14) rfl (hb hby ds2_10) (by decide) (by decide) k) ?_
  show own_Go p.tables e below _ (T2.setTop (mkF m 14 #[.val (.ref a0)] [(.int (0 : Int32))]))
  refine own_end X2 Bd.notSynchronized (v := some (.int (0 : Int32))) (fun h => by rw [Bd.returns] at h; cases h) (fun fs hr => retN X2 hx (t := .byte) Bd.returns (by simp) (hb hby ds2_14) hr) ?_ (by decide) (by decide)
  exact ⟨congrArg (fun z => some (Value.int z)) (by decide : (0 : Int32) = (0 : Int32)), N0, e2⟩
theorem ds3_0 : decode jdk_42_method_54_code 0 = .ok (.aload_n 0, 1) := by decide +kernel
theorem ds3_1 : decode jdk_42_method_54_code 1 = .ok (.getfield 9, 3) := by decide +kernel
theorem ds3_4 : decode jdk_42_method_54_code 4 = .ok (.arraylength, 1) := by decide +kernel
theorem ds3_5 : decode jdk_42_method_54_code 5 = .ok (.aload_n 0, 1) := by decide +kernel
theorem ds3_6 : decode jdk_42_method_54_code 6 = .ok (.invokevirtual 335, 3) := by decide +kernel
theorem ds3_9 : decode jdk_42_method_54_code 9 = .ok (.ishr, 1) := by decide +kernel
theorem ds3_10 : decode jdk_42_method_54_code 10 = .ok (.ireturn, 1) := by decide +kernel
theorem pns3 : plainName "java/lang/String" = true := by first | (simp [plainName, overriddenIn]; done) | decide +kernel
theorem pds3_0 : parseMethodDescriptor "()B" = some ⟨[], some .byte⟩ := by decide +kernel
theorem efs3 (m : MethodId) (a0 : Addr) : entryFrame m #[(.ref a0)] 1 = mkF m 0 #[.val (.ref a0)] [] := by first | (simp [entryFrame, mkF, argsToLocals, Value.category]; done) | rfl
def own_Qs3 (Z : State) (a0 : Addr) (ab : Addr) (ka : ClassId) (wc : Int32) (h0 : Heap) (n0 : Nat) (v : Option Value) (h : Heap) (L : List Loc) : Prop := v = some (.int (15 : Int32)) ∧ Fr n0 L ∧ h = h0
set_option maxRecDepth 65536 in
set_option maxHeartbeats 40000000 in
theorem rms3 (l : Launch) (Z : State) (az : Array Value) (hw : ∀ d ∈ tables_1, d.before az Z = true) (ws : List Jvm.Cond) (a0 : Addr) (ab : Addr) (ka : ClassId) (wc : Int32) (h0 : Heap) (n0 : Nat) (Z0 : n0 ≤ h0.size) (F_a0_coder : Fld Z h0 a0 "java/lang/String" "coder" "B" (.int (0 : Int32))) (F_a0_value : Fld Z h0 a0 "java/lang/String" "value" "[B" (.ref ab)) (E_a0 : Exa Z h0 a0 "java/lang/String") (V_ab : Arv Z h0 ab ka .byte (15 : Int32) [(.int (33 : Int32)), (.int (35 : Int32)), (.int (36 : Int32)), (.int (37 : Int32)), (.int (38 : Int32)), (.int (39 : Int32)), (.int (42 : Int32)), (.int (43 : Int32)), (.int (45 : Int32)), (.int (46 : Int32)), (.int (94 : Int32)), (.int (95 : Int32)), (.int (96 : Int32)), (.int (124 : Int32)), (.int (126 : Int32))] (.int (0 : Int32))) (S_COMPACT_STRINGS : Sta Z h0 "java/lang/String" "COMPACT_STRINGS" "Z" (.int wc)) (hwc : ¬ (wc = (0 : Int32))) :
    MetFree l (⟨"java/lang/String", "length", "()I"⟩ : MethodName) (head1 (Jvm.Cond.code (⟨"java/lang/String", "length", "()I"⟩ : MethodName) jdk_42_method_54_code 1 (some .int) :: ws) ({ frames := 1, cells := 0, slots := 0, locals := 13 } : Room)) (fun a U => a = #[(.ref a0)] ∧ Z.Warmed39 U.vm ∧ U.heap = h0) (fun _ _ _ _ _ => True) (fun _ U o U' => ∃ v L, o = .returned v ∧ own_Qs3 Z a0 ab ka wc h0 n0 v U'.heap L ∧ FrameEnd U o U' L ({ frames := 1, cells := 0, slots := 0, locals := 13 } : Room).cells ({ frames := 1, cells := 0, slots := 0, locals := 13 } : Room).slots) := by
  refine MetFree.of_bodySF (plainFor_of_name pns3) hisR ?_
  intro p e s m args below meth c s₁ Bd hml0 hP hK
  obtain ⟨rfl, hZ, hh⟩ := hP
  have hx := Bd.exec
  have hby := Bd.bytes
  have hml : c.maxLocals = 1 := hml0
  have hown : s.vm.findClass "java/lang/String" = some m.cls := findClass_of_methodNamed Bd.named
  have hnm := (name_of_methodNamed Bd.named Bd.method).1
  have X0 : Stand p l e ({ frames := 1, cells := 0, slots := 0, locals := 13 } : Room) s m #[(.ref a0)] below meth c s₁ [] 0 0 := Stand.of_body Bd
  have e0 : s₁.heap = h0 := by rw [← hh, Bd.state]; rfl
  have N0 := Fr.nil n0
  show own_Go p.tables e below (fun o U' => ∃ v L, o = .returned v ∧ own_Qs3 Z a0 ab ka wc h0 n0 v U'.heap L ∧ FrameEnd s o U' L ({ frames := 1, cells := 0, slots := 0, locals := 13 } : Room).cells ({ frames := 1, cells := 0, slots := 0, locals := 13 } : Room).slots) (s₁.setTop (entryFrame m #[(.ref a0)] 1))
  refine own_go (fun _ k => castTop (efs3 m a0) k) ?_
  show own_Go p.tables e below _ (s₁.setTop (mkF m 0 #[.val (.ref a0)] []))
  refine own_go (fun _ k => XS.aloadN X0.here hx rfl (hb hby ds3_0) rfl rfl k) ?_
  show own_Go p.tables e below _ (s₁.setTop (mkF m 1 #[.val (.ref a0)] [(.ref a0)]))
  obtain ⟨T1, X1, e1, st1⟩ := getF X0 hx hZ hown (host := "") (Or.inl (hw _ (List.mem_of_getElem? (i := 29) rfl))) Via.refl e0 F_a0_value (g := (mkF m 1 #[.val (.ref a0)] [(.ref a0)])) rfl rfl (hb hby ds3_1)
  refine own_go st1 ?_
  show own_Go p.tables e below _ (T1.setTop (mkF m 4 #[.val (.ref a0)] [(.ref ab)]))
  have vo2 := V_ab
  obtain ⟨cl2, Ar2, Aq2, AS2, AN2, AH2, AG2⟩ := vo2
  refine own_go (fun _ k => X1.arraylength hx (by rw [e1]; exact Ar2.1) (State.isArrayOf_alike hZ.alike Ar2.2.1) (g := (mkF m 4 #[.val (.ref a0)] [(.ref ab)])) rfl rfl (hb hby ds3_4) _ k) ?_
  rw [len_of AS2 AN2]
  show own_Go p.tables e below _ (T1.setTop (mkF m 5 #[.val (.ref a0)] [(.int (15 : Int32))]))
  refine own_go (fun _ k => XS.aloadN X1.here hx rfl (hb hby ds3_5) rfl rfl k) ?_
  show own_Go p.tables e below _ (T1.setTop (mkF m 6 #[.val (.ref a0)] [(.ref a0), (.int (15 : Int32))]))
  obtain ⟨cq3, kq3, q3a, q3b, q3c⟩ := isOf hZ e1 E_a0
  obtain ⟨_, _, ⟨T3, L3, k3, n3⟩, -, X3, ⟨Lc3, hQ3, l3, y3, z3⟩, st3⟩ := X1.virtualBack hx (y := (⟨"java/lang/String", "coder", "()B"⟩ : MethodName)) (z := (⟨"java/lang/String", "coder", "()B"⟩ : MethodName)) hown (mvT hZ (hw _ (List.mem_of_getElem? (i := 35) rfl))) (mvT hZ (hw _ (List.mem_of_getElem? (i := 36) rfl))) (notFace_of_selects (args := #[]) (mvT hZ (hw _ (List.mem_of_getElem? (i := 38) rfl)))) (mvT hZ (hw _ (List.mem_of_getElem? (i := 38) rfl))) (mvT hZ (hw _ (List.mem_of_getElem? (i := 37) rfl))) (by decide) (backOf (W := 1) (rms2 l Z az hw [] a0 ab ka wc h0 n0 Z0 F_a0_coder F_a0_value E_a0 V_ab S_COMPACT_STRINGS hwc) hZ (hw _ (List.mem_of_getElem? (i := 39) rfl)) (hw _ (List.mem_of_getElem? (i := 5) rfl)) (by decide) (by decide)) q3a q3c (g := (mkF m 6 #[.val (.ref a0)] [(.ref a0), (.int (15 : Int32))])) rfl (by rw [hml]; rfl) (Steps.refl _) (argsL := []) (rest := [(.int (15 : Int32))]) (lenOf pds3_0 rfl) rfl (by show 2 * 0 + _ ≤ _; exact Nat.le_of_eq rfl) (hb hby ds3_6) (fun _ _ => ⟨rfl, e1, (by decide : 0 + 0 ≤ _), (by decide : 0 + 0 ≤ _)⟩)
  dsimp only [Pt.U, Pt.locs, Pt.cells, Pt.slots] at X3 l3 y3 z3 st3 hQ3
  subst l3 y3 z3
  refine own_go (fun _ k => st3.trans k) ?_
  obtain ⟨rfl, N3q, e3⟩ := hQ3
  have N3 := Fr.app N0 N3q
  show own_Go p.tables e below _ (T3.setTop (mkF m 9 #[.val (.ref a0)] [(.int (0 : Int32)), (.int (15 : Int32))]))
  refine own_go (fun _ k => XS.ishr X3.here hx rfl (hb hby ds3_9) rfl k) ?_
  show own_Go p.tables e below _ (T3.setTop (mkF m 10 #[.val (.ref a0)] [(.int ((15 : Int32) >>> ((0 : Int32) &&& 31)))]))
  refine own_end X3 Bd.notSynchronized (v := some (.int ((15 : Int32) >>> ((0 : Int32) &&& 31)))) (fun h => by rw [Bd.returns] at h; cases h) (fun fs hr => own_retI X3 hx Bd.returns (hb hby ds3_10) hr) ?_ (by decide) (by decide)
  exact ⟨congrArg (fun z => some (Value.int z)) (by decide : ((15 : Int32) >>> ((0 : Int32) &&& 31)) = (15 : Int32)), N3, (e3 : T3.heap = h0)⟩
def own_fs4 (p0 : Int32) : Int32 :=
  (if p0 < (0 : Int32) then (0 : Int32) else (if (255 : Int32) < p0 then (0 : Int32) else (1 : Int32)))
theorem ds4_0 : decode jdk_43_method_4_code 0 = .ok (.iload_n 0, 1) := by decide +kernel
theorem ds4_1 : decode jdk_43_method_4_code 1 = .ok (.ifCond .lt 14, 3) := by decide +kernel
theorem ds4_4 : decode jdk_43_method_4_code 4 = .ok (.iload_n 0, 1) := by decide +kernel
theorem ds4_5 : decode jdk_43_method_4_code 5 = .ok (.sipush 255, 3) := by decide +kernel
theorem ds4_8 : decode jdk_43_method_4_code 8 = .ok (.if_icmp .gt 7, 3) := by decide +kernel
theorem ds4_11 : decode jdk_43_method_4_code 11 = .ok (.iconst 1, 1) := by decide +kernel
theorem ds4_12 : decode jdk_43_method_4_code 12 = .ok (.goto 4, 3) := by decide +kernel
theorem ds4_15 : decode jdk_43_method_4_code 15 = .ok (.iconst 0, 1) := by decide +kernel
theorem ds4_16 : decode jdk_43_method_4_code 16 = .ok (.ireturn, 1) := by decide +kernel
theorem pns4 : plainName "java/lang/StringLatin1" = true := by first | (simp [plainName, overriddenIn]; done) | decide +kernel
theorem efs4 (m : MethodId) (p0 : Int32) : entryFrame m #[(.int p0)] 1 = mkF m 0 #[.val (.int p0)] [] := by first | (simp [entryFrame, mkF, argsToLocals, Value.category]; done) | rfl
def own_Qs4 (Z : State) (p0 : Int32) (h0 : Heap) (n0 : Nat) (v : Option Value) (h : Heap) (L : List Loc) : Prop := v = some (.int (own_fs4 p0)) ∧ Fr n0 L ∧ h = h0
set_option maxRecDepth 65536 in
set_option maxHeartbeats 40000000 in
theorem rms4 (l : Launch) (Z : State) (az : Array Value) (hw : ∀ d ∈ tables_1, d.before az Z = true) (ws : List Jvm.Cond) (p0 : Int32) (h0 : Heap) (n0 : Nat) (Z0 : n0 ≤ h0.size) :
    MetFree l (⟨"java/lang/StringLatin1", "canEncode", "(I)Z"⟩ : MethodName) (head1 (Jvm.Cond.code (⟨"java/lang/StringLatin1", "canEncode", "(I)Z"⟩ : MethodName) jdk_43_method_4_code 1 (some .boolean) :: ws) ({ frames := 0, cells := 0, slots := 0, locals := 0 } : Room)) (fun a U => a = #[(.int p0)] ∧ Z.Warmed39 U.vm ∧ U.heap = h0) (fun _ _ _ _ _ => True) (fun _ U o U' => ∃ v L, o = .returned v ∧ own_Qs4 Z p0 h0 n0 v U'.heap L ∧ FrameEnd U o U' L ({ frames := 0, cells := 0, slots := 0, locals := 0 } : Room).cells ({ frames := 0, cells := 0, slots := 0, locals := 0 } : Room).slots) := by
  refine MetFree.of_bodySF (plainFor_of_name pns4) hisR ?_
  intro p e s m args below meth c s₁ Bd hml0 hP hK
  obtain ⟨rfl, hZ, hh⟩ := hP
  have hx := Bd.exec
  have hby := Bd.bytes
  have hml : c.maxLocals = 1 := hml0
  have hown : s.vm.findClass "java/lang/StringLatin1" = some m.cls := findClass_of_methodNamed Bd.named
  have hnm := (name_of_methodNamed Bd.named Bd.method).1
  have X0 : Stand p l e ({ frames := 0, cells := 0, slots := 0, locals := 0 } : Room) s m #[(.int p0)] below meth c s₁ [] 0 0 := Stand.of_body Bd
  have e0 : s₁.heap = h0 := by rw [← hh, Bd.state]; rfl
  have N0 := Fr.nil n0
  show own_Go p.tables e below (fun o U' => ∃ v L, o = .returned v ∧ own_Qs4 Z p0 h0 n0 v U'.heap L ∧ FrameEnd s o U' L ({ frames := 0, cells := 0, slots := 0, locals := 0 } : Room).cells ({ frames := 0, cells := 0, slots := 0, locals := 0 } : Room).slots) (s₁.setTop (entryFrame m #[(.int p0)] 1))
  refine own_go (fun _ k => castTop (efs4 m p0) k) ?_
  show own_Go p.tables e below _ (s₁.setTop (mkF m 0 #[.val (.int p0)] []))
  refine own_go (fun _ k => XS.iloadN X0.here hx rfl (hb hby ds4_0) rfl k) ?_
  show own_Go p.tables e below _ (s₁.setTop (mkF m 1 #[.val (.int p0)] [(.int p0)]))
  by_cases hc1 : p0 < (0 : Int32)
  · refine own_go (fun _ k => XS.ifYes X0.here hx rfl (pc0 := 1) (pc' := 15) rfl (hb hby ds4_1) rfl ((if0 _ _).trans (tlt hc1).1) (by decide) (by decide) k) ?_
    show own_Go p.tables e below _ (s₁.setTop (mkF m 15 #[.val (.int p0)] []))
    refine own_go (fun _ k => XS.iconst X0.here hx rfl (hb hby ds4_15) k) ?_
    show own_Go p.tables e below _ (s₁.setTop (mkF m 16 #[.val (.int p0)] [(.int (0 : Int32))]))
    refine own_end X0 Bd.notSynchronized (v := some (.int (0 : Int32))) (fun h => by rw [Bd.returns] at h; cases h) (fun fs hr => retN X0 hx (t := .boolean) Bd.returns (by simp) (hb hby ds4_16) hr) ?_ (by decide) (by decide)
    exact ⟨by rw [own_fs4, if_pos hc1], N0, e0⟩
  · refine own_go (fun _ k => XS.ifNo X0.here hx rfl (hb hby ds4_1) rfl ((if0 _ _).trans (flt hc1).1) k) ?_
    show own_Go p.tables e below _ (s₁.setTop (mkF m 4 #[.val (.int p0)] []))
    refine own_go (fun _ k => XS.iloadN X0.here hx rfl (hb hby ds4_4) rfl k) ?_
    show own_Go p.tables e below _ (s₁.setTop (mkF m 5 #[.val (.int p0)] [(.int p0)]))
    refine own_go (fun _ k => XS.sipush X0.here hx rfl (hb hby ds4_5) k) ?_
    show own_Go p.tables e below _ (s₁.setTop (mkF m 8 #[.val (.int p0)] [(.int (255 : Int32)), (.int p0)]))
    by_cases hc8 : (255 : Int32) < p0
    · refine own_go (fun _ k => XS.icmpYes X0.here hx rfl (pc0 := 8) (pc' := 15) rfl (hb hby ds4_8) rfl (tlt hc8).2.2.1 (by decide) (by decide) k) ?_
      show own_Go p.tables e below _ (s₁.setTop (mkF m 15 #[.val (.int p0)] []))
      refine own_go (fun _ k => XS.iconst X0.here hx rfl (hb hby ds4_15) k) ?_
      show own_Go p.tables e below _ (s₁.setTop (mkF m 16 #[.val (.int p0)] [(.int (0 : Int32))]))
      refine own_end X0 Bd.notSynchronized (v := some (.int (0 : Int32))) (fun h => by rw [Bd.returns] at h; cases h) (fun fs hr => retN X0 hx (t := .boolean) Bd.returns (by simp) (hb hby ds4_16) hr) ?_ (by decide) (by decide)
      exact ⟨by rw [own_fs4, if_neg hc1, if_pos hc8], N0, e0⟩
    · refine own_go (fun _ k => XS.icmpNo X0.here hx rfl (hb hby ds4_8) rfl (flt hc8).2.2.1 k) ?_
      show own_Go p.tables e below _ (s₁.setTop (mkF m 11 #[.val (.int p0)] []))
      refine own_go (fun _ k => XS.iconst X0.here hx rfl (hb hby ds4_11) k) ?_
      show own_Go p.tables e below _ (s₁.setTop (mkF m 12 #[.val (.int p0)] [(.int (1 : Int32))]))
      refine own_go (fun _ k => XS.goto X0.here hx rfl (pc0 := 12) (pc' := 16) rfl (hb hby ds4_12) (by decide) (by decide) k) ?_
      show own_Go p.tables e below _ (s₁.setTop (mkF m 16 #[.val (.int p0)] [(.int (1 : Int32))]))
      refine own_end X0 Bd.notSynchronized (v := some (.int (1 : Int32))) (fun h => by rw [Bd.returns] at h; cases h) (fun fs hr => retN X0 hx (t := .boolean) Bd.returns (by simp) (hb hby ds4_16) hr) ?_ (by decide) (by decide)
      exact ⟨by rw [own_fs4, if_neg hc1, if_neg hc8], N0, e0⟩
theorem ds5_0 : decode jdk_29_method_65_code 0 = .ok (.iload_n 0, 1) := by decide +kernel
theorem ds5_1 : decode jdk_29_method_65_code 1 = .ok (.iload_n 1, 1) := by decide +kernel
theorem ds5_2 : decode jdk_29_method_65_code 2 = .ok (.if_icmp .lt 7, 3) := by decide +kernel
theorem ds5_5 : decode jdk_29_method_65_code 5 = .ok (.iload_n 0, 1) := by decide +kernel
theorem ds5_6 : decode jdk_29_method_65_code 6 = .ok (.goto 4, 3) := by decide +kernel
theorem ds5_10 : decode jdk_29_method_65_code 10 = .ok (.ireturn, 1) := by decide +kernel
theorem efs5 (m : MethodId)  : entryFrame m #[(.int (0 : Int32)), (.int (0 : Int32))] 2 = mkF m 0 #[.val (.int (0 : Int32)), .val (.int (0 : Int32))] [] := by first | (simp [entryFrame, mkF, argsToLocals, Value.category]; done) | rfl
def own_Qs5 (Z : State)  (h0 : Heap) (n0 : Nat) (v : Option Value) (h : Heap) (L : List Loc) : Prop := v = some (.int (0 : Int32)) ∧ Fr n0 L ∧ h = h0
set_option maxRecDepth 65536 in
set_option maxHeartbeats 40000000 in
theorem rms5 (l : Launch) (Z : State) (az : Array Value) (hw : ∀ d ∈ tables_1, d.before az Z = true) (ws : List Jvm.Cond)  (h0 : Heap) (n0 : Nat) (Z0 : n0 ≤ h0.size) :
    MetFree l (⟨"java/lang/Math", "max", "(II)I"⟩ : MethodName) (head1 (Jvm.Cond.code (⟨"java/lang/Math", "max", "(II)I"⟩ : MethodName) jdk_29_method_65_code 2 (some .int) :: ws) ({ frames := 0, cells := 0, slots := 0, locals := 0 } : Room)) (fun a U => a = #[(.int (0 : Int32)), (.int (0 : Int32))] ∧ Z.Warmed39 U.vm ∧ U.heap = h0) (fun _ _ _ _ _ => True) (fun _ U o U' => ∃ v L, o = .returned v ∧ own_Qs5 Z  h0 n0 v U'.heap L ∧ FrameEnd U o U' L ({ frames := 0, cells := 0, slots := 0, locals := 0 } : Room).cells ({ frames := 0, cells := 0, slots := 0, locals := 0 } : Room).slots) := by
  refine MetFree.of_bodySF (Jvm.Free.JP.mathPlain rfl (by decide +kernel)) hisR ?_
  intro p e s m args below meth c s₁ Bd hml0 hP hK
  obtain ⟨rfl, hZ, hh⟩ := hP
  have hx := Bd.exec
  have hby := Bd.bytes
  have hml : c.maxLocals = 2 := hml0
  have hown : s.vm.findClass "java/lang/Math" = some m.cls := findClass_of_methodNamed Bd.named
  have hnm := (name_of_methodNamed Bd.named Bd.method).1
  have X0 : Stand p l e ({ frames := 0, cells := 0, slots := 0, locals := 0 } : Room) s m #[(.int (0 : Int32)), (.int (0 : Int32))] below meth c s₁ [] 0 0 := Stand.of_body Bd
  have e0 : s₁.heap = h0 := by rw [← hh, Bd.state]; rfl
  have N0 := Fr.nil n0
  show own_Go p.tables e below (fun o U' => ∃ v L, o = .returned v ∧ own_Qs5 Z  h0 n0 v U'.heap L ∧ FrameEnd s o U' L ({ frames := 0, cells := 0, slots := 0, locals := 0 } : Room).cells ({ frames := 0, cells := 0, slots := 0, locals := 0 } : Room).slots) (s₁.setTop (entryFrame m #[(.int (0 : Int32)), (.int (0 : Int32))] 2))
  refine own_go (fun _ k => castTop (efs5 m ) k) ?_
  show own_Go p.tables e below _ (s₁.setTop (mkF m 0 #[.val (.int (0 : Int32)), .val (.int (0 : Int32))] []))
  refine own_go (fun _ k => XS.iloadN X0.here hx rfl (hb hby ds5_0) rfl k) ?_
  show own_Go p.tables e below _ (s₁.setTop (mkF m 1 #[.val (.int (0 : Int32)), .val (.int (0 : Int32))] [(.int (0 : Int32))]))
  refine own_go (fun _ k => XS.iloadN X0.here hx rfl (hb hby ds5_1) rfl k) ?_
  show own_Go p.tables e below _ (s₁.setTop (mkF m 2 #[.val (.int (0 : Int32)), .val (.int (0 : Int32))] [(.int (0 : Int32)), (.int (0 : Int32))]))
  have hf2 : ¬ ((0 : Int32) < (0 : Int32)) := by decide
  refine own_go (fun _ k => XS.icmpNo X0.here hx rfl (hb hby ds5_2) rfl (flt hf2).1 k) ?_
  show own_Go p.tables e below _ (s₁.setTop (mkF m 5 #[.val (.int (0 : Int32)), .val (.int (0 : Int32))] []))
  refine own_go (fun _ k => XS.iloadN X0.here hx rfl (hb hby ds5_5) rfl k) ?_
  show own_Go p.tables e below _ (s₁.setTop (mkF m 6 #[.val (.int (0 : Int32)), .val (.int (0 : Int32))] [(.int (0 : Int32))]))
  refine own_go (fun _ k => XS.goto X0.here hx rfl (pc0 := 6) (pc' := 10) rfl (hb hby ds5_6) (by decide) (by decide) k) ?_
  show own_Go p.tables e below _ (s₁.setTop (mkF m 10 #[.val (.int (0 : Int32)), .val (.int (0 : Int32))] [(.int (0 : Int32))]))
  refine own_end X0 Bd.notSynchronized (v := some (.int (0 : Int32))) (fun h => by rw [Bd.returns] at h; cases h) (fun fs hr => own_retI X0 hx Bd.returns (hb hby ds5_10) hr) ?_ (by decide) (by decide)
  exact ⟨congrArg (fun z => some (Value.int z)) (by decide : (0 : Int32) = (0 : Int32)), N0, e0⟩
theorem ds6_0 : decode jdk_29_method_69_code 0 = .ok (.iload_n 0, 1) := by decide +kernel
theorem ds6_1 : decode jdk_29_method_69_code 1 = .ok (.iload_n 1, 1) := by decide +kernel
theorem ds6_2 : decode jdk_29_method_69_code 2 = .ok (.if_icmp .gt 7, 3) := by decide +kernel
theorem ds6_5 : decode jdk_29_method_69_code 5 = .ok (.iload_n 0, 1) := by decide +kernel
theorem ds6_6 : decode jdk_29_method_69_code 6 = .ok (.goto 4, 3) := by decide +kernel
theorem ds6_10 : decode jdk_29_method_69_code 10 = .ok (.ireturn, 1) := by decide +kernel
theorem efs6 (m : MethodId)  : entryFrame m #[(.int (15 : Int32)), (.int (15 : Int32))] 2 = mkF m 0 #[.val (.int (15 : Int32)), .val (.int (15 : Int32))] [] := by first | (simp [entryFrame, mkF, argsToLocals, Value.category]; done) | rfl
def own_Qs6 (Z : State)  (h0 : Heap) (n0 : Nat) (v : Option Value) (h : Heap) (L : List Loc) : Prop := v = some (.int (15 : Int32)) ∧ Fr n0 L ∧ h = h0
set_option maxRecDepth 65536 in
set_option maxHeartbeats 40000000 in
theorem rms6 (l : Launch) (Z : State) (az : Array Value) (hw : ∀ d ∈ tables_1, d.before az Z = true) (ws : List Jvm.Cond)  (h0 : Heap) (n0 : Nat) (Z0 : n0 ≤ h0.size) :
    MetFree l (⟨"java/lang/Math", "min", "(II)I"⟩ : MethodName) (head1 (Jvm.Cond.code (⟨"java/lang/Math", "min", "(II)I"⟩ : MethodName) jdk_29_method_69_code 2 (some .int) :: ws) ({ frames := 0, cells := 0, slots := 0, locals := 0 } : Room)) (fun a U => a = #[(.int (15 : Int32)), (.int (15 : Int32))] ∧ Z.Warmed39 U.vm ∧ U.heap = h0) (fun _ _ _ _ _ => True) (fun _ U o U' => ∃ v L, o = .returned v ∧ own_Qs6 Z  h0 n0 v U'.heap L ∧ FrameEnd U o U' L ({ frames := 0, cells := 0, slots := 0, locals := 0 } : Room).cells ({ frames := 0, cells := 0, slots := 0, locals := 0 } : Room).slots) := by
  refine MetFree.of_bodySF (Jvm.Free.JP.mathPlain rfl (by decide +kernel)) hisR ?_
  intro p e s m args below meth c s₁ Bd hml0 hP hK
  obtain ⟨rfl, hZ, hh⟩ := hP
  have hx := Bd.exec
  have hby := Bd.bytes
  have hml : c.maxLocals = 2 := hml0
  have hown : s.vm.findClass "java/lang/Math" = some m.cls := findClass_of_methodNamed Bd.named
  have hnm := (name_of_methodNamed Bd.named Bd.method).1
  have X0 : Stand p l e ({ frames := 0, cells := 0, slots := 0, locals := 0 } : Room) s m #[(.int (15 : Int32)), (.int (15 : Int32))] below meth c s₁ [] 0 0 := Stand.of_body Bd
  have e0 : s₁.heap = h0 := by rw [← hh, Bd.state]; rfl
  have N0 := Fr.nil n0
  show own_Go p.tables e below (fun o U' => ∃ v L, o = .returned v ∧ own_Qs6 Z  h0 n0 v U'.heap L ∧ FrameEnd s o U' L ({ frames := 0, cells := 0, slots := 0, locals := 0 } : Room).cells ({ frames := 0, cells := 0, slots := 0, locals := 0 } : Room).slots) (s₁.setTop (entryFrame m #[(.int (15 : Int32)), (.int (15 : Int32))] 2))
  refine own_go (fun _ k => castTop (efs6 m ) k) ?_
  show own_Go p.tables e below _ (s₁.setTop (mkF m 0 #[.val (.int (15 : Int32)), .val (.int (15 : Int32))] []))
  refine own_go (fun _ k => XS.iloadN X0.here hx rfl (hb hby ds6_0) rfl k) ?_
  show own_Go p.tables e below _ (s₁.setTop (mkF m 1 #[.val (.int (15 : Int32)), .val (.int (15 : Int32))] [(.int (15 : Int32))]))
  refine own_go (fun _ k => XS.iloadN X0.here hx rfl (hb hby ds6_1) rfl k) ?_
  show own_Go p.tables e below _ (s₁.setTop (mkF m 2 #[.val (.int (15 : Int32)), .val (.int (15 : Int32))] [(.int (15 : Int32)), (.int (15 : Int32))]))
  have hf2 : ¬ ((15 : Int32) < (15 : Int32)) := by decide
  refine own_go (fun _ k => XS.icmpNo X0.here hx rfl (hb hby ds6_2) rfl (flt hf2).2.2.1 k) ?_
  show own_Go p.tables e below _ (s₁.setTop (mkF m 5 #[.val (.int (15 : Int32)), .val (.int (15 : Int32))] []))
  refine own_go (fun _ k => XS.iloadN X0.here hx rfl (hb hby ds6_5) rfl k) ?_
  show own_Go p.tables e below _ (s₁.setTop (mkF m 6 #[.val (.int (15 : Int32)), .val (.int (15 : Int32))] [(.int (15 : Int32))]))
  refine own_go (fun _ k => XS.goto X0.here hx rfl (pc0 := 6) (pc' := 10) rfl (hb hby ds6_6) (by decide) (by decide) k) ?_
  show own_Go p.tables e below _ (s₁.setTop (mkF m 10 #[.val (.int (15 : Int32)), .val (.int (15 : Int32))] [(.int (15 : Int32))]))
  refine own_end X0 Bd.notSynchronized (v := some (.int (15 : Int32))) (fun h => by rw [Bd.returns] at h; cases h) (fun fs hr => own_retI X0 hx Bd.returns (hb hby ds6_10) hr) ?_ (by decide) (by decide)
  exact ⟨congrArg (fun z => some (Value.int z)) (by decide : (15 : Int32) = (15 : Int32)), N0, e0⟩
def own_fs7 (p1 : Int32) : Int32 :=
  (if (33 : Int32) = (p1.toInt8.toInt32) then (0 : Int32) else (if (35 : Int32) = (p1.toInt8.toInt32) then (1 : Int32) else (if (36 : Int32) = (p1.toInt8.toInt32) then (2 : Int32) else (if (37 : Int32) = (p1.toInt8.toInt32) then (3 : Int32) else (if (38 : Int32) = (p1.toInt8.toInt32) then (4 : Int32) else (if (39 : Int32) = (p1.toInt8.toInt32) then (5 : Int32) else (if (42 : Int32) = (p1.toInt8.toInt32) then (6 : Int32) else (if (43 : Int32) = (p1.toInt8.toInt32) then (7 : Int32) else (if (45 : Int32) = (p1.toInt8.toInt32) then (8 : Int32) else (if (46 : Int32) = (p1.toInt8.toInt32) then (9 : Int32) else (if (94 : Int32) = (p1.toInt8.toInt32) then (10 : Int32) else (if (95 : Int32) = (p1.toInt8.toInt32) then (11 : Int32) else (if (96 : Int32) = (p1.toInt8.toInt32) then (12 : Int32) else (if (124 : Int32) = (p1.toInt8.toInt32) then (13 : Int32) else (if (126 : Int32) = (p1.toInt8.toInt32) then (14 : Int32) else (-1 : Int32))))))))))))))))
theorem ds7_0 : decode jdk_43_method_23_code 0 = .ok (.iload_n 1, 1) := by decide +kernel
theorem ds7_1 : decode jdk_43_method_23_code 1 = .ok (.i2b, 1) := by decide +kernel
theorem ds7_2 : decode jdk_43_method_23_code 2 = .ok (.istore 4, 2) := by decide +kernel
theorem ds7_4 : decode jdk_43_method_23_code 4 = .ok (.iload_n 2, 1) := by decide +kernel
theorem ds7_5 : decode jdk_43_method_23_code 5 = .ok (.istore 5, 2) := by decide +kernel
theorem ds7_7 : decode jdk_43_method_23_code 7 = .ok (.iload 5, 2) := by decide +kernel
theorem ds7_9 : decode jdk_43_method_23_code 9 = .ok (.iload_n 3, 1) := by decide +kernel
theorem ds7_10 : decode jdk_43_method_23_code 10 = .ok (.if_icmp .ge 21, 3) := by decide +kernel
theorem ds7_13 : decode jdk_43_method_23_code 13 = .ok (.aload_n 0, 1) := by decide +kernel
theorem ds7_14 : decode jdk_43_method_23_code 14 = .ok (.iload 5, 2) := by decide +kernel
theorem ds7_16 : decode jdk_43_method_23_code 16 = .ok (.baload, 1) := by decide +kernel
theorem ds7_17 : decode jdk_43_method_23_code 17 = .ok (.iload 4, 2) := by decide +kernel
theorem ds7_19 : decode jdk_43_method_23_code 19 = .ok (.if_icmp .ne 6, 3) := by decide +kernel
theorem ds7_22 : decode jdk_43_method_23_code 22 = .ok (.iload 5, 2) := by decide +kernel
theorem ds7_24 : decode jdk_43_method_23_code 24 = .ok (.ireturn, 1) := by decide +kernel
theorem ds7_25 : decode jdk_43_method_23_code 25 = .ok (.iinc 5 1, 3) := by decide +kernel
theorem ds7_28 : decode jdk_43_method_23_code 28 = .ok (.goto (-21), 3) := by decide +kernel
theorem ds7_31 : decode jdk_43_method_23_code 31 = .ok (.iconst (-1), 1) := by decide +kernel
theorem ds7_32 : decode jdk_43_method_23_code 32 = .ok (.ireturn, 1) := by decide +kernel
theorem pns7 : plainName "java/lang/StringLatin1" = true := by first | (simp [plainName, overriddenIn]; done) | decide +kernel
theorem efs7 (m : MethodId) (ab : Addr) (p1 : Int32) : entryFrame m #[(.ref ab), (.int p1), (.int (0 : Int32)), (.int (15 : Int32))] 6 = mkF m 0 #[.val (.ref ab), .val (.int p1), .val (.int (0 : Int32)), .val (.int (15 : Int32)), .unset, .unset] [] := by first | (simp [entryFrame, mkF, argsToLocals, Value.category]; done) | rfl
def own_Qs7 (Z : State) (ab : Addr) (p1 : Int32) (ka : ClassId) (h0 : Heap) (n0 : Nat) (v : Option Value) (h : Heap) (L : List Loc) : Prop := v = some (.int (own_fs7 p1)) ∧ Fr n0 L ∧ h = h0
set_option maxRecDepth 65536 in
set_option maxHeartbeats 40000000 in
theorem rms7 (l : Launch) (Z : State) (az : Array Value) (hw : ∀ d ∈ tables_1, d.before az Z = true) (ws : List Jvm.Cond) (ab : Addr) (p1 : Int32) (ka : ClassId) (h0 : Heap) (n0 : Nat) (Z0 : n0 ≤ h0.size) (V_ab : Arv Z h0 ab ka .byte (15 : Int32) [(.int (33 : Int32)), (.int (35 : Int32)), (.int (36 : Int32)), (.int (37 : Int32)), (.int (38 : Int32)), (.int (39 : Int32)), (.int (42 : Int32)), (.int (43 : Int32)), (.int (45 : Int32)), (.int (46 : Int32)), (.int (94 : Int32)), (.int (95 : Int32)), (.int (96 : Int32)), (.int (124 : Int32)), (.int (126 : Int32))] (.int (0 : Int32))) :
    MetFree l (⟨"java/lang/StringLatin1", "indexOfChar", "([BIII)I"⟩ : MethodName) (head1 (Jvm.Cond.code (⟨"java/lang/StringLatin1", "indexOfChar", "([BIII)I"⟩ : MethodName) jdk_43_method_23_code 6 (some .int) :: ws) ({ frames := 0, cells := 0, slots := 0, locals := 0 } : Room)) (fun a U => a = #[(.ref ab), (.int p1), (.int (0 : Int32)), (.int (15 : Int32))] ∧ Z.Warmed39 U.vm ∧ U.heap = h0) (fun _ _ _ _ _ => True) (fun _ U o U' => ∃ v L, o = .returned v ∧ own_Qs7 Z ab p1 ka h0 n0 v U'.heap L ∧ FrameEnd U o U' L ({ frames := 0, cells := 0, slots := 0, locals := 0 } : Room).cells ({ frames := 0, cells := 0, slots := 0, locals := 0 } : Room).slots) := by
  refine MetFree.of_bodySF (plainFor_of_name pns7) hisR ?_
  intro p e s m args below meth c s₁ Bd hml0 hP hK
  obtain ⟨rfl, hZ, hh⟩ := hP
  have hx := Bd.exec
  have hby := Bd.bytes
  have hml : c.maxLocals = 6 := hml0
  have hown : s.vm.findClass "java/lang/StringLatin1" = some m.cls := findClass_of_methodNamed Bd.named
  have hnm := (name_of_methodNamed Bd.named Bd.method).1
  have X0 : Stand p l e ({ frames := 0, cells := 0, slots := 0, locals := 0 } : Room) s m #[(.ref ab), (.int p1), (.int (0 : Int32)), (.int (15 : Int32))] below meth c s₁ [] 0 0 := Stand.of_body Bd
  have e0 : s₁.heap = h0 := by rw [← hh, Bd.state]; rfl
  have N0 := Fr.nil n0
  show own_Go p.tables e below (fun o U' => ∃ v L, o = .returned v ∧ own_Qs7 Z ab p1 ka h0 n0 v U'.heap L ∧ FrameEnd s o U' L ({ frames := 0, cells := 0, slots := 0, locals := 0 } : Room).cells ({ frames := 0, cells := 0, slots := 0, locals := 0 } : Room).slots) (s₁.setTop (entryFrame m #[(.ref ab), (.int p1), (.int (0 : Int32)), (.int (15 : Int32))] 6))
  refine own_go (fun _ k => castTop (efs7 m ab p1) k) ?_
  show own_Go p.tables e below _ (s₁.setTop (mkF m 0 #[.val (.ref ab), .val (.int p1), .val (.int (0 : Int32)), .val (.int (15 : Int32)), .unset, .unset] []))
  refine own_go (fun _ k => XS.iloadN X0.here hx rfl (hb hby ds7_0) rfl k) ?_
  show own_Go p.tables e below _ (s₁.setTop (mkF m 1 #[.val (.ref ab), .val (.int p1), .val (.int (0 : Int32)), .val (.int (15 : Int32)), .unset, .unset] [(.int p1)]))
  refine own_go (fun _ k => XS.i2b X0.here hx rfl (hb hby ds7_1) rfl k) ?_
  show own_Go p.tables e below _ (s₁.setTop (mkF m 2 #[.val (.ref ab), .val (.int p1), .val (.int (0 : Int32)), .val (.int (15 : Int32)), .unset, .unset] [(.int (p1.toInt8.toInt32))]))
  refine own_go (fun _ k => XS.istore X0.here hx rfl (hb hby ds7_2) rfl (l' := #[.val (.ref ab), .val (.int p1), .val (.int (0 : Int32)), .val (.int (15 : Int32)), .val (.int (p1.toInt8.toInt32)), .unset]) rfl k) ?_
  show own_Go p.tables e below _ (s₁.setTop (mkF m 4 #[.val (.ref ab), .val (.int p1), .val (.int (0 : Int32)), .val (.int (15 : Int32)), .val (.int (p1.toInt8.toInt32)), .unset] []))
  refine own_go (fun _ k => XS.iloadN X0.here hx rfl (hb hby ds7_4) rfl k) ?_
  show own_Go p.tables e below _ (s₁.setTop (mkF m 5 #[.val (.ref ab), .val (.int p1), .val (.int (0 : Int32)), .val (.int (15 : Int32)), .val (.int (p1.toInt8.toInt32)), .unset] [(.int (0 : Int32))]))
  refine own_go (fun _ k => XS.istore X0.here hx rfl (hb hby ds7_5) rfl (l' := #[.val (.ref ab), .val (.int p1), .val (.int (0 : Int32)), .val (.int (15 : Int32)), .val (.int (p1.toInt8.toInt32)), .val (.int (0 : Int32))]) rfl k) ?_
  show own_Go p.tables e below _ (s₁.setTop (mkF m 7 #[.val (.ref ab), .val (.int p1), .val (.int (0 : Int32)), .val (.int (15 : Int32)), .val (.int (p1.toInt8.toInt32)), .val (.int (0 : Int32))] []))
  refine own_go (fun _ k => XS.iload X0.here hx rfl (hb hby ds7_7) rfl k) ?_
  show own_Go p.tables e below _ (s₁.setTop (mkF m 9 #[.val (.ref ab), .val (.int p1), .val (.int (0 : Int32)), .val (.int (15 : Int32)), .val (.int (p1.toInt8.toInt32)), .val (.int (0 : Int32))] [(.int (0 : Int32))]))
  refine own_go (fun _ k => XS.iloadN X0.here hx rfl (hb hby ds7_9) rfl k) ?_
  show own_Go p.tables e below _ (s₁.setTop (mkF m 10 #[.val (.ref ab), .val (.int p1), .val (.int (0 : Int32)), .val (.int (15 : Int32)), .val (.int (p1.toInt8.toInt32)), .val (.int (0 : Int32))] [(.int (15 : Int32)), (.int (0 : Int32))]))
  have hf10 : (0 : Int32) < (15 : Int32) := by decide
  refine own_go (fun _ k => XS.icmpNo X0.here hx rfl (hb hby ds7_10) rfl (tlt hf10).2.1 k) ?_
  show own_Go p.tables e below _ (s₁.setTop (mkF m 13 #[.val (.ref ab), .val (.int p1), .val (.int (0 : Int32)), .val (.int (15 : Int32)), .val (.int (p1.toInt8.toInt32)), .val (.int (0 : Int32))] []))
  refine own_go (fun _ k => XS.aloadN X0.here hx rfl (hb hby ds7_13) rfl rfl k) ?_
  show own_Go p.tables e below _ (s₁.setTop (mkF m 14 #[.val (.ref ab), .val (.int p1), .val (.int (0 : Int32)), .val (.int (15 : Int32)), .val (.int (p1.toInt8.toInt32)), .val (.int (0 : Int32))] [(.ref ab)]))
  refine own_go (fun _ k => XS.iload X0.here hx rfl (hb hby ds7_14) rfl k) ?_
  show own_Go p.tables e below _ (s₁.setTop (mkF m 16 #[.val (.ref ab), .val (.int p1), .val (.int (0 : Int32)), .val (.int (15 : Int32)), .val (.int (p1.toInt8.toInt32)), .val (.int (0 : Int32))] [(.int (0 : Int32)), (.ref ab)]))
  have vo1 := V_ab
  obtain ⟨cl1, Ar1, Aq1, AS1, AN1, AH1, AG1⟩ := vo1
  have hin1 : ¬ ((0 : Int32) < 0 ∨ cl1.slots.size ≤ ((0 : Int32)).toNatClampNeg) := inb_of AS1 ⟨by decide, by decide⟩
  have hat1 : cl1.slots[((0 : Int32)).toNatClampNeg]? = some (.int (33 : Int32)) := Has.at AH1 hin1 rfl
  refine own_go (fun _ k => X0.baloadBytes hx (j := (0 : Int32)) (v := (.int (33 : Int32))) (by rw [e0]; exact Ar1.1) (State.isArrayOf_alike hZ.alike Ar1.2.1) Ar1.2.2 hin1 hat1 (g := (mkF m 16 #[.val (.ref ab), .val (.int p1), .val (.int (0 : Int32)), .val (.int (15 : Int32)), .val (.int (p1.toInt8.toInt32)), .val (.int (0 : Int32))] [(.int (0 : Int32)), (.ref ab)])) rfl rfl (hb hby ds7_16) _ k) ?_
  show own_Go p.tables e below _ (s₁.setTop (mkF m 17 #[.val (.ref ab), .val (.int p1), .val (.int (0 : Int32)), .val (.int (15 : Int32)), .val (.int (p1.toInt8.toInt32)), .val (.int (0 : Int32))] [(.int (33 : Int32))]))
  refine own_go (fun _ k => XS.iload X0.here hx rfl (hb hby ds7_17) rfl k) ?_
  show own_Go p.tables e below _ (s₁.setTop (mkF m 19 #[.val (.ref ab), .val (.int p1), .val (.int (0 : Int32)), .val (.int (15 : Int32)), .val (.int (p1.toInt8.toInt32)), .val (.int (0 : Int32))] [(.int (p1.toInt8.toInt32)), (.int (33 : Int32))]))
  by_cases hc19 : (33 : Int32) = (p1.toInt8.toInt32)
  · refine own_go (fun _ k => XS.icmpNo X0.here hx rfl (hb hby ds7_19) rfl (teq hc19).2 k) ?_
    show own_Go p.tables e below _ (s₁.setTop (mkF m 22 #[.val (.ref ab), .val (.int p1), .val (.int (0 : Int32)), .val (.int (15 : Int32)), .val (.int (p1.toInt8.toInt32)), .val (.int (0 : Int32))] []))
    refine own_go (fun _ k => XS.iload X0.here hx rfl (hb hby ds7_22) rfl k) ?_
    show own_Go p.tables e below _ (s₁.setTop (mkF m 24 #[.val (.ref ab), .val (.int p1), .val (.int (0 : Int32)), .val (.int (15 : Int32)), .val (.int (p1.toInt8.toInt32)), .val (.int (0 : Int32))] [(.int (0 : Int32))]))
    refine own_end X0 Bd.notSynchronized (v := some (.int (0 : Int32))) (fun h => by rw [Bd.returns] at h; cases h) (fun fs hr => own_retI X0 hx Bd.returns (hb hby ds7_24) hr) ?_ (by decide) (by decide)
    exact ⟨by rw [own_fs7, if_pos hc19], N0, e0⟩
  · refine own_go (fun _ k => XS.icmpYes X0.here hx rfl (pc0 := 19) (pc' := 25) rfl (hb hby ds7_19) rfl (feq hc19).2 (by decide) (by decide) k) ?_
    show own_Go p.tables e below _ (s₁.setTop (mkF m 25 #[.val (.ref ab), .val (.int p1), .val (.int (0 : Int32)), .val (.int (15 : Int32)), .val (.int (p1.toInt8.toInt32)), .val (.int (0 : Int32))] []))
    refine own_go (fun _ k => XS.iinc X0.here hx rfl (hb hby ds7_25) rfl (l' := #[.val (.ref ab), .val (.int p1), .val (.int (0 : Int32)), .val (.int (15 : Int32)), .val (.int (p1.toInt8.toInt32)), .val (.int (1 : Int32))]) rfl k) ?_
    show own_Go p.tables e below _ (s₁.setTop (mkF m 28 #[.val (.ref ab), .val (.int p1), .val (.int (0 : Int32)), .val (.int (15 : Int32)), .val (.int (p1.toInt8.toInt32)), .val (.int (1 : Int32))] []))
    refine own_go (fun _ k => XS.goto X0.here hx rfl (pc0 := 28) (pc' := 7) rfl (hb hby ds7_28) (by decide) (by decide) k) ?_
    show own_Go p.tables e below _ (s₁.setTop (mkF m 7 #[.val (.ref ab), .val (.int p1), .val (.int (0 : Int32)), .val (.int (15 : Int32)), .val (.int (p1.toInt8.toInt32)), .val (.int (1 : Int32))] []))
    refine own_go (fun _ k => XS.iload X0.here hx rfl (hb hby ds7_7) rfl k) ?_
    show own_Go p.tables e below _ (s₁.setTop (mkF m 9 #[.val (.ref ab), .val (.int p1), .val (.int (0 : Int32)), .val (.int (15 : Int32)), .val (.int (p1.toInt8.toInt32)), .val (.int (1 : Int32))] [(.int (1 : Int32))]))
    refine own_go (fun _ k => XS.iloadN X0.here hx rfl (hb hby ds7_9) rfl k) ?_
    show own_Go p.tables e below _ (s₁.setTop (mkF m 10 #[.val (.ref ab), .val (.int p1), .val (.int (0 : Int32)), .val (.int (15 : Int32)), .val (.int (p1.toInt8.toInt32)), .val (.int (1 : Int32))] [(.int (15 : Int32)), (.int (1 : Int32))]))
    have hf10 : (1 : Int32) < (15 : Int32) := by decide
    refine own_go (fun _ k => XS.icmpNo X0.here hx rfl (hb hby ds7_10) rfl (tlt hf10).2.1 k) ?_
    show own_Go p.tables e below _ (s₁.setTop (mkF m 13 #[.val (.ref ab), .val (.int p1), .val (.int (0 : Int32)), .val (.int (15 : Int32)), .val (.int (p1.toInt8.toInt32)), .val (.int (1 : Int32))] []))
    refine own_go (fun _ k => XS.aloadN X0.here hx rfl (hb hby ds7_13) rfl rfl k) ?_
    show own_Go p.tables e below _ (s₁.setTop (mkF m 14 #[.val (.ref ab), .val (.int p1), .val (.int (0 : Int32)), .val (.int (15 : Int32)), .val (.int (p1.toInt8.toInt32)), .val (.int (1 : Int32))] [(.ref ab)]))
    refine own_go (fun _ k => XS.iload X0.here hx rfl (hb hby ds7_14) rfl k) ?_
    show own_Go p.tables e below _ (s₁.setTop (mkF m 16 #[.val (.ref ab), .val (.int p1), .val (.int (0 : Int32)), .val (.int (15 : Int32)), .val (.int (p1.toInt8.toInt32)), .val (.int (1 : Int32))] [(.int (1 : Int32)), (.ref ab)]))
    have vo2 := V_ab
    obtain ⟨cl2, Ar2, Aq2, AS2, AN2, AH2, AG2⟩ := vo2
    have hin2 : ¬ ((1 : Int32) < 0 ∨ cl2.slots.size ≤ ((1 : Int32)).toNatClampNeg) := inb_of AS2 ⟨by decide, by decide⟩
    have hat2 : cl2.slots[((1 : Int32)).toNatClampNeg]? = some (.int (35 : Int32)) := Has.at AH2 hin2 rfl
    refine own_go (fun _ k => X0.baloadBytes hx (j := (1 : Int32)) (v := (.int (35 : Int32))) (by rw [e0]; exact Ar2.1) (State.isArrayOf_alike hZ.alike Ar2.2.1) Ar2.2.2 hin2 hat2 (g := (mkF m 16 #[.val (.ref ab), .val (.int p1), .val (.int (0 : Int32)), .val (.int (15 : Int32)), .val (.int (p1.toInt8.toInt32)), .val (.int (1 : Int32))] [(.int (1 : Int32)), (.ref ab)])) rfl rfl (hb hby ds7_16) _ k) ?_
    show own_Go p.tables e below _ (s₁.setTop (mkF m 17 #[.val (.ref ab), .val (.int p1), .val (.int (0 : Int32)), .val (.int (15 : Int32)), .val (.int (p1.toInt8.toInt32)), .val (.int (1 : Int32))] [(.int (35 : Int32))]))
    refine own_go (fun _ k => XS.iload X0.here hx rfl (hb hby ds7_17) rfl k) ?_
    show own_Go p.tables e below _ (s₁.setTop (mkF m 19 #[.val (.ref ab), .val (.int p1), .val (.int (0 : Int32)), .val (.int (15 : Int32)), .val (.int (p1.toInt8.toInt32)), .val (.int (1 : Int32))] [(.int (p1.toInt8.toInt32)), (.int (35 : Int32))]))
    by_cases hc19_2 : (35 : Int32) = (p1.toInt8.toInt32)
    · refine own_go (fun _ k => XS.icmpNo X0.here hx rfl (hb hby ds7_19) rfl (teq hc19_2).2 k) ?_
      show own_Go p.tables e below _ (s₁.setTop (mkF m 22 #[.val (.ref ab), .val (.int p1), .val (.int (0 : Int32)), .val (.int (15 : Int32)), .val (.int (p1.toInt8.toInt32)), .val (.int (1 : Int32))] []))
      refine own_go (fun _ k => XS.iload X0.here hx rfl (hb hby ds7_22) rfl k) ?_
      show own_Go p.tables e below _ (s₁.setTop (mkF m 24 #[.val (.ref ab), .val (.int p1), .val (.int (0 : Int32)), .val (.int (15 : Int32)), .val (.int (p1.toInt8.toInt32)), .val (.int (1 : Int32))] [(.int (1 : Int32))]))
      refine own_end X0 Bd.notSynchronized (v := some (.int (1 : Int32))) (fun h => by rw [Bd.returns] at h; cases h) (fun fs hr => own_retI X0 hx Bd.returns (hb hby ds7_24) hr) ?_ (by decide) (by decide)
      exact ⟨by rw [own_fs7, if_neg hc19, if_pos hc19_2], N0, e0⟩
    · refine own_go (fun _ k => XS.icmpYes X0.here hx rfl (pc0 := 19) (pc' := 25) rfl (hb hby ds7_19) rfl (feq hc19_2).2 (by decide) (by decide) k) ?_
      show own_Go p.tables e below _ (s₁.setTop (mkF m 25 #[.val (.ref ab), .val (.int p1), .val (.int (0 : Int32)), .val (.int (15 : Int32)), .val (.int (p1.toInt8.toInt32)), .val (.int (1 : Int32))] []))
      refine own_go (fun _ k => XS.iinc X0.here hx rfl (hb hby ds7_25) rfl (l' := #[.val (.ref ab), .val (.int p1), .val (.int (0 : Int32)), .val (.int (15 : Int32)), .val (.int (p1.toInt8.toInt32)), .val (.int (2 : Int32))]) rfl k) ?_
      show own_Go p.tables e below _ (s₁.setTop (mkF m 28 #[.val (.ref ab), .val (.int p1), .val (.int (0 : Int32)), .val (.int (15 : Int32)), .val (.int (p1.toInt8.toInt32)), .val (.int (2 : Int32))] []))
      refine own_go (fun _ k => XS.goto X0.here hx rfl (pc0 := 28) (pc' := 7) rfl (hb hby ds7_28) (by decide) (by decide) k) ?_
      show own_Go p.tables e below _ (s₁.setTop (mkF m 7 #[.val (.ref ab), .val (.int p1), .val (.int (0 : Int32)), .val (.int (15 : Int32)), .val (.int (p1.toInt8.toInt32)), .val (.int (2 : Int32))] []))
      refine own_go (fun _ k => XS.iload X0.here hx rfl (hb hby ds7_7) rfl k) ?_
      show own_Go p.tables e below _ (s₁.setTop (mkF m 9 #[.val (.ref ab), .val (.int p1), .val (.int (0 : Int32)), .val (.int (15 : Int32)), .val (.int (p1.toInt8.toInt32)), .val (.int (2 : Int32))] [(.int (2 : Int32))]))
      refine own_go (fun _ k => XS.iloadN X0.here hx rfl (hb hby ds7_9) rfl k) ?_
      show own_Go p.tables e below _ (s₁.setTop (mkF m 10 #[.val (.ref ab), .val (.int p1), .val (.int (0 : Int32)), .val (.int (15 : Int32)), .val (.int (p1.toInt8.toInt32)), .val (.int (2 : Int32))] [(.int (15 : Int32)), (.int (2 : Int32))]))
      have hf10 : (2 : Int32) < (15 : Int32) := by decide
      refine own_go (fun _ k => XS.icmpNo X0.here hx rfl (hb hby ds7_10) rfl (tlt hf10).2.1 k) ?_
      show own_Go p.tables e below _ (s₁.setTop (mkF m 13 #[.val (.ref ab), .val (.int p1), .val (.int (0 : Int32)), .val (.int (15 : Int32)), .val (.int (p1.toInt8.toInt32)), .val (.int (2 : Int32))] []))
      refine own_go (fun _ k => XS.aloadN X0.here hx rfl (hb hby ds7_13) rfl rfl k) ?_
      show own_Go p.tables e below _ (s₁.setTop (mkF m 14 #[.val (.ref ab), .val (.int p1), .val (.int (0 : Int32)), .val (.int (15 : Int32)), .val (.int (p1.toInt8.toInt32)), .val (.int (2 : Int32))] [(.ref ab)]))
      refine own_go (fun _ k => XS.iload X0.here hx rfl (hb hby ds7_14) rfl k) ?_
      show own_Go p.tables e below _ (s₁.setTop (mkF m 16 #[.val (.ref ab), .val (.int p1), .val (.int (0 : Int32)), .val (.int (15 : Int32)), .val (.int (p1.toInt8.toInt32)), .val (.int (2 : Int32))] [(.int (2 : Int32)), (.ref ab)]))
      have vo3 := V_ab
      obtain ⟨cl3, Ar3, Aq3, AS3, AN3, AH3, AG3⟩ := vo3
      have hin3 : ¬ ((2 : Int32) < 0 ∨ cl3.slots.size ≤ ((2 : Int32)).toNatClampNeg) := inb_of AS3 ⟨by decide, by decide⟩
      have hat3 : cl3.slots[((2 : Int32)).toNatClampNeg]? = some (.int (36 : Int32)) := Has.at AH3 hin3 rfl
      refine own_go (fun _ k => X0.baloadBytes hx (j := (2 : Int32)) (v := (.int (36 : Int32))) (by rw [e0]; exact Ar3.1) (State.isArrayOf_alike hZ.alike Ar3.2.1) Ar3.2.2 hin3 hat3 (g := (mkF m 16 #[.val (.ref ab), .val (.int p1), .val (.int (0 : Int32)), .val (.int (15 : Int32)), .val (.int (p1.toInt8.toInt32)), .val (.int (2 : Int32))] [(.int (2 : Int32)), (.ref ab)])) rfl rfl (hb hby ds7_16) _ k) ?_
      show own_Go p.tables e below _ (s₁.setTop (mkF m 17 #[.val (.ref ab), .val (.int p1), .val (.int (0 : Int32)), .val (.int (15 : Int32)), .val (.int (p1.toInt8.toInt32)), .val (.int (2 : Int32))] [(.int (36 : Int32))]))
      refine own_go (fun _ k => XS.iload X0.here hx rfl (hb hby ds7_17) rfl k) ?_
      show own_Go p.tables e below _ (s₁.setTop (mkF m 19 #[.val (.ref ab), .val (.int p1), .val (.int (0 : Int32)), .val (.int (15 : Int32)), .val (.int (p1.toInt8.toInt32)), .val (.int (2 : Int32))] [(.int (p1.toInt8.toInt32)), (.int (36 : Int32))]))
      by_cases hc19_3 : (36 : Int32) = (p1.toInt8.toInt32)
      · refine own_go (fun _ k => XS.icmpNo X0.here hx rfl (hb hby ds7_19) rfl (teq hc19_3).2 k) ?_
        show own_Go p.tables e below _ (s₁.setTop (mkF m 22 #[.val (.ref ab), .val (.int p1), .val (.int (0 : Int32)), .val (.int (15 : Int32)), .val (.int (p1.toInt8.toInt32)), .val (.int (2 : Int32))] []))
        refine own_go (fun _ k => XS.iload X0.here hx rfl (hb hby ds7_22) rfl k) ?_
        show own_Go p.tables e below _ (s₁.setTop (mkF m 24 #[.val (.ref ab), .val (.int p1), .val (.int (0 : Int32)), .val (.int (15 : Int32)), .val (.int (p1.toInt8.toInt32)), .val (.int (2 : Int32))] [(.int (2 : Int32))]))
        refine own_end X0 Bd.notSynchronized (v := some (.int (2 : Int32))) (fun h => by rw [Bd.returns] at h; cases h) (fun fs hr => own_retI X0 hx Bd.returns (hb hby ds7_24) hr) ?_ (by decide) (by decide)
        exact ⟨by rw [own_fs7, if_neg hc19, if_neg hc19_2, if_pos hc19_3], N0, e0⟩
      · refine own_go (fun _ k => XS.icmpYes X0.here hx rfl (pc0 := 19) (pc' := 25) rfl (hb hby ds7_19) rfl (feq hc19_3).2 (by decide) (by decide) k) ?_
        show own_Go p.tables e below _ (s₁.setTop (mkF m 25 #[.val (.ref ab), .val (.int p1), .val (.int (0 : Int32)), .val (.int (15 : Int32)), .val (.int (p1.toInt8.toInt32)), .val (.int (2 : Int32))] []))
        refine own_go (fun _ k => XS.iinc X0.here hx rfl (hb hby ds7_25) rfl (l' := #[.val (.ref ab), .val (.int p1), .val (.int (0 : Int32)), .val (.int (15 : Int32)), .val (.int (p1.toInt8.toInt32)), .val (.int (3 : Int32))]) rfl k) ?_
        show own_Go p.tables e below _ (s₁.setTop (mkF m 28 #[.val (.ref ab), .val (.int p1), .val (.int (0 : Int32)), .val (.int (15 : Int32)), .val (.int (p1.toInt8.toInt32)), .val (.int (3 : Int32))] []))
        refine own_go (fun _ k => XS.goto X0.here hx rfl (pc0 := 28) (pc' := 7) rfl (hb hby ds7_28) (by decide) (by decide) k) ?_
        show own_Go p.tables e below _ (s₁.setTop (mkF m 7 #[.val (.ref ab), .val (.int p1), .val (.int (0 : Int32)), .val (.int (15 : Int32)), .val (.int (p1.toInt8.toInt32)), .val (.int (3 : Int32))] []))
        refine own_go (fun _ k => XS.iload X0.here hx rfl (hb hby ds7_7) rfl k) ?_
        show own_Go p.tables e below _ (s₁.setTop (mkF m 9 #[.val (.ref ab), .val (.int p1), .val (.int (0 : Int32)), .val (.int (15 : Int32)), .val (.int (p1.toInt8.toInt32)), .val (.int (3 : Int32))] [(.int (3 : Int32))]))
        refine own_go (fun _ k => XS.iloadN X0.here hx rfl (hb hby ds7_9) rfl k) ?_
        show own_Go p.tables e below _ (s₁.setTop (mkF m 10 #[.val (.ref ab), .val (.int p1), .val (.int (0 : Int32)), .val (.int (15 : Int32)), .val (.int (p1.toInt8.toInt32)), .val (.int (3 : Int32))] [(.int (15 : Int32)), (.int (3 : Int32))]))
        have hf10 : (3 : Int32) < (15 : Int32) := by decide
        refine own_go (fun _ k => XS.icmpNo X0.here hx rfl (hb hby ds7_10) rfl (tlt hf10).2.1 k) ?_
        show own_Go p.tables e below _ (s₁.setTop (mkF m 13 #[.val (.ref ab), .val (.int p1), .val (.int (0 : Int32)), .val (.int (15 : Int32)), .val (.int (p1.toInt8.toInt32)), .val (.int (3 : Int32))] []))
        refine own_go (fun _ k => XS.aloadN X0.here hx rfl (hb hby ds7_13) rfl rfl k) ?_
        show own_Go p.tables e below _ (s₁.setTop (mkF m 14 #[.val (.ref ab), .val (.int p1), .val (.int (0 : Int32)), .val (.int (15 : Int32)), .val (.int (p1.toInt8.toInt32)), .val (.int (3 : Int32))] [(.ref ab)]))
        refine own_go (fun _ k => XS.iload X0.here hx rfl (hb hby ds7_14) rfl k) ?_
        show own_Go p.tables e below _ (s₁.setTop (mkF m 16 #[.val (.ref ab), .val (.int p1), .val (.int (0 : Int32)), .val (.int (15 : Int32)), .val (.int (p1.toInt8.toInt32)), .val (.int (3 : Int32))] [(.int (3 : Int32)), (.ref ab)]))
        have vo4 := V_ab
        obtain ⟨cl4, Ar4, Aq4, AS4, AN4, AH4, AG4⟩ := vo4
        have hin4 : ¬ ((3 : Int32) < 0 ∨ cl4.slots.size ≤ ((3 : Int32)).toNatClampNeg) := inb_of AS4 ⟨by decide, by decide⟩
        have hat4 : cl4.slots[((3 : Int32)).toNatClampNeg]? = some (.int (37 : Int32)) := Has.at AH4 hin4 rfl
        refine own_go (fun _ k => X0.baloadBytes hx (j := (3 : Int32)) (v := (.int (37 : Int32))) (by rw [e0]; exact Ar4.1) (State.isArrayOf_alike hZ.alike Ar4.2.1) Ar4.2.2 hin4 hat4 (g := (mkF m 16 #[.val (.ref ab), .val (.int p1), .val (.int (0 : Int32)), .val (.int (15 : Int32)), .val (.int (p1.toInt8.toInt32)), .val (.int (3 : Int32))] [(.int (3 : Int32)), (.ref ab)])) rfl rfl (hb hby ds7_16) _ k) ?_
        show own_Go p.tables e below _ (s₁.setTop (mkF m 17 #[.val (.ref ab), .val (.int p1), .val (.int (0 : Int32)), .val (.int (15 : Int32)), .val (.int (p1.toInt8.toInt32)), .val (.int (3 : Int32))] [(.int (37 : Int32))]))
        refine own_go (fun _ k => XS.iload X0.here hx rfl (hb hby ds7_17) rfl k) ?_
        show own_Go p.tables e below _ (s₁.setTop (mkF m 19 #[.val (.ref ab), .val (.int p1), .val (.int (0 : Int32)), .val (.int (15 : Int32)), .val (.int (p1.toInt8.toInt32)), .val (.int (3 : Int32))] [(.int (p1.toInt8.toInt32)), (.int (37 : Int32))]))
        by_cases hc19_4 : (37 : Int32) = (p1.toInt8.toInt32)
        · refine own_go (fun _ k => XS.icmpNo X0.here hx rfl (hb hby ds7_19) rfl (teq hc19_4).2 k) ?_
          show own_Go p.tables e below _ (s₁.setTop (mkF m 22 #[.val (.ref ab), .val (.int p1), .val (.int (0 : Int32)), .val (.int (15 : Int32)), .val (.int (p1.toInt8.toInt32)), .val (.int (3 : Int32))] []))
          refine own_go (fun _ k => XS.iload X0.here hx rfl (hb hby ds7_22) rfl k) ?_
          show own_Go p.tables e below _ (s₁.setTop (mkF m 24 #[.val (.ref ab), .val (.int p1), .val (.int (0 : Int32)), .val (.int (15 : Int32)), .val (.int (p1.toInt8.toInt32)), .val (.int (3 : Int32))] [(.int (3 : Int32))]))
          refine own_end X0 Bd.notSynchronized (v := some (.int (3 : Int32))) (fun h => by rw [Bd.returns] at h; cases h) (fun fs hr => own_retI X0 hx Bd.returns (hb hby ds7_24) hr) ?_ (by decide) (by decide)
          exact ⟨by rw [own_fs7, if_neg hc19, if_neg hc19_2, if_neg hc19_3, if_pos hc19_4], N0, e0⟩
        · refine own_go (fun _ k => XS.icmpYes X0.here hx rfl (pc0 := 19) (pc' := 25) rfl (hb hby ds7_19) rfl (feq hc19_4).2 (by decide) (by decide) k) ?_
          show own_Go p.tables e below _ (s₁.setTop (mkF m 25 #[.val (.ref ab), .val (.int p1), .val (.int (0 : Int32)), .val (.int (15 : Int32)), .val (.int (p1.toInt8.toInt32)), .val (.int (3 : Int32))] []))
          refine own_go (fun _ k => XS.iinc X0.here hx rfl (hb hby ds7_25) rfl (l' := #[.val (.ref ab), .val (.int p1), .val (.int (0 : Int32)), .val (.int (15 : Int32)), .val (.int (p1.toInt8.toInt32)), .val (.int (4 : Int32))]) rfl k) ?_
          show own_Go p.tables e below _ (s₁.setTop (mkF m 28 #[.val (.ref ab), .val (.int p1), .val (.int (0 : Int32)), .val (.int (15 : Int32)), .val (.int (p1.toInt8.toInt32)), .val (.int (4 : Int32))] []))
          refine own_go (fun _ k => XS.goto X0.here hx rfl (pc0 := 28) (pc' := 7) rfl (hb hby ds7_28) (by decide) (by decide) k) ?_
          show own_Go p.tables e below _ (s₁.setTop (mkF m 7 #[.val (.ref ab), .val (.int p1), .val (.int (0 : Int32)), .val (.int (15 : Int32)), .val (.int (p1.toInt8.toInt32)), .val (.int (4 : Int32))] []))
          refine own_go (fun _ k => XS.iload X0.here hx rfl (hb hby ds7_7) rfl k) ?_
          show own_Go p.tables e below _ (s₁.setTop (mkF m 9 #[.val (.ref ab), .val (.int p1), .val (.int (0 : Int32)), .val (.int (15 : Int32)), .val (.int (p1.toInt8.toInt32)), .val (.int (4 : Int32))] [(.int (4 : Int32))]))
          refine own_go (fun _ k => XS.iloadN X0.here hx rfl (hb hby ds7_9) rfl k) ?_
          show own_Go p.tables e below _ (s₁.setTop (mkF m 10 #[.val (.ref ab), .val (.int p1), .val (.int (0 : Int32)), .val (.int (15 : Int32)), .val (.int (p1.toInt8.toInt32)), .val (.int (4 : Int32))] [(.int (15 : Int32)), (.int (4 : Int32))]))
          have hf10 : (4 : Int32) < (15 : Int32) := by decide
          refine own_go (fun _ k => XS.icmpNo X0.here hx rfl (hb hby ds7_10) rfl (tlt hf10).2.1 k) ?_
          show own_Go p.tables e below _ (s₁.setTop (mkF m 13 #[.val (.ref ab), .val (.int p1), .val (.int (0 : Int32)), .val (.int (15 : Int32)), .val (.int (p1.toInt8.toInt32)), .val (.int (4 : Int32))] []))
          refine own_go (fun _ k => XS.aloadN X0.here hx rfl (hb hby ds7_13) rfl rfl k) ?_
          show own_Go p.tables e below _ (s₁.setTop (mkF m 14 #[.val (.ref ab), .val (.int p1), .val (.int (0 : Int32)), .val (.int (15 : Int32)), .val (.int (p1.toInt8.toInt32)), .val (.int (4 : Int32))] [(.ref ab)]))
          refine own_go (fun _ k => XS.iload X0.here hx rfl (hb hby ds7_14) rfl k) ?_
          show own_Go p.tables e below _ (s₁.setTop (mkF m 16 #[.val (.ref ab), .val (.int p1), .val (.int (0 : Int32)), .val (.int (15 : Int32)), .val (.int (p1.toInt8.toInt32)), .val (.int (4 : Int32))] [(.int (4 : Int32)), (.ref ab)]))
          have vo5 := V_ab
          obtain ⟨cl5, Ar5, Aq5, AS5, AN5, AH5, AG5⟩ := vo5
          have hin5 : ¬ ((4 : Int32) < 0 ∨ cl5.slots.size ≤ ((4 : Int32)).toNatClampNeg) := inb_of AS5 ⟨by decide, by decide⟩
          have hat5 : cl5.slots[((4 : Int32)).toNatClampNeg]? = some (.int (38 : Int32)) := Has.at AH5 hin5 rfl
          refine own_go (fun _ k => X0.baloadBytes hx (j := (4 : Int32)) (v := (.int (38 : Int32))) (by rw [e0]; exact Ar5.1) (State.isArrayOf_alike hZ.alike Ar5.2.1) Ar5.2.2 hin5 hat5 (g := (mkF m 16 #[.val (.ref ab), .val (.int p1), .val (.int (0 : Int32)), .val (.int (15 : Int32)), .val (.int (p1.toInt8.toInt32)), .val (.int (4 : Int32))] [(.int (4 : Int32)), (.ref ab)])) rfl rfl (hb hby ds7_16) _ k) ?_
          show own_Go p.tables e below _ (s₁.setTop (mkF m 17 #[.val (.ref ab), .val (.int p1), .val (.int (0 : Int32)), .val (.int (15 : Int32)), .val (.int (p1.toInt8.toInt32)), .val (.int (4 : Int32))] [(.int (38 : Int32))]))
          refine own_go (fun _ k => XS.iload X0.here hx rfl (hb hby ds7_17) rfl k) ?_
          show own_Go p.tables e below _ (s₁.setTop (mkF m 19 #[.val (.ref ab), .val (.int p1), .val (.int (0 : Int32)), .val (.int (15 : Int32)), .val (.int (p1.toInt8.toInt32)), .val (.int (4 : Int32))] [(.int (p1.toInt8.toInt32)), (.int (38 : Int32))]))
          by_cases hc19_5 : (38 : Int32) = (p1.toInt8.toInt32)
          · refine own_go (fun _ k => XS.icmpNo X0.here hx rfl (hb hby ds7_19) rfl (teq hc19_5).2 k) ?_
            show own_Go p.tables e below _ (s₁.setTop (mkF m 22 #[.val (.ref ab), .val (.int p1), .val (.int (0 : Int32)), .val (.int (15 : Int32)), .val (.int (p1.toInt8.toInt32)), .val (.int (4 : Int32))] []))
            refine own_go (fun _ k => XS.iload X0.here hx rfl (hb hby ds7_22) rfl k) ?_
            show own_Go p.tables e below _ (s₁.setTop (mkF m 24 #[.val (.ref ab), .val (.int p1), .val (.int (0 : Int32)), .val (.int (15 : Int32)), .val (.int (p1.toInt8.toInt32)), .val (.int (4 : Int32))] [(.int (4 : Int32))]))
            refine own_end X0 Bd.notSynchronized (v := some (.int (4 : Int32))) (fun h => by rw [Bd.returns] at h; cases h) (fun fs hr => own_retI X0 hx Bd.returns (hb hby ds7_24) hr) ?_ (by decide) (by decide)
            exact ⟨by rw [own_fs7, if_neg hc19, if_neg hc19_2, if_neg hc19_3, if_neg hc19_4, if_pos hc19_5], N0, e0⟩
          · refine own_go (fun _ k => XS.icmpYes X0.here hx rfl (pc0 := 19) (pc' := 25) rfl (hb hby ds7_19) rfl (feq hc19_5).2 (by decide) (by decide) k) ?_
            show own_Go p.tables e below _ (s₁.setTop (mkF m 25 #[.val (.ref ab), .val (.int p1), .val (.int (0 : Int32)), .val (.int (15 : Int32)), .val (.int (p1.toInt8.toInt32)), .val (.int (4 : Int32))] []))
            refine own_go (fun _ k => XS.iinc X0.here hx rfl (hb hby ds7_25) rfl (l' := #[.val (.ref ab), .val (.int p1), .val (.int (0 : Int32)), .val (.int (15 : Int32)), .val (.int (p1.toInt8.toInt32)), .val (.int (5 : Int32))]) rfl k) ?_
            show own_Go p.tables e below _ (s₁.setTop (mkF m 28 #[.val (.ref ab), .val (.int p1), .val (.int (0 : Int32)), .val (.int (15 : Int32)), .val (.int (p1.toInt8.toInt32)), .val (.int (5 : Int32))] []))
            refine own_go (fun _ k => XS.goto X0.here hx rfl (pc0 := 28) (pc' := 7) rfl (hb hby ds7_28) (by decide) (by decide) k) ?_
            show own_Go p.tables e below _ (s₁.setTop (mkF m 7 #[.val (.ref ab), .val (.int p1), .val (.int (0 : Int32)), .val (.int (15 : Int32)), .val (.int (p1.toInt8.toInt32)), .val (.int (5 : Int32))] []))
            refine own_go (fun _ k => XS.iload X0.here hx rfl (hb hby ds7_7) rfl k) ?_
            show own_Go p.tables e below _ (s₁.setTop (mkF m 9 #[.val (.ref ab), .val (.int p1), .val (.int (0 : Int32)), .val (.int (15 : Int32)), .val (.int (p1.toInt8.toInt32)), .val (.int (5 : Int32))] [(.int (5 : Int32))]))
            refine own_go (fun _ k => XS.iloadN X0.here hx rfl (hb hby ds7_9) rfl k) ?_
            show own_Go p.tables e below _ (s₁.setTop (mkF m 10 #[.val (.ref ab), .val (.int p1), .val (.int (0 : Int32)), .val (.int (15 : Int32)), .val (.int (p1.toInt8.toInt32)), .val (.int (5 : Int32))] [(.int (15 : Int32)), (.int (5 : Int32))]))
            have hf10 : (5 : Int32) < (15 : Int32) := by decide
            refine own_go (fun _ k => XS.icmpNo X0.here hx rfl (hb hby ds7_10) rfl (tlt hf10).2.1 k) ?_
            show own_Go p.tables e below _ (s₁.setTop (mkF m 13 #[.val (.ref ab), .val (.int p1), .val (.int (0 : Int32)), .val (.int (15 : Int32)), .val (.int (p1.toInt8.toInt32)), .val (.int (5 : Int32))] []))
            refine own_go (fun _ k => XS.aloadN X0.here hx rfl (hb hby ds7_13) rfl rfl k) ?_
            show own_Go p.tables e below _ (s₁.setTop (mkF m 14 #[.val (.ref ab), .val (.int p1), .val (.int (0 : Int32)), .val (.int (15 : Int32)), .val (.int (p1.toInt8.toInt32)), .val (.int (5 : Int32))] [(.ref ab)]))
            refine own_go (fun _ k => XS.iload X0.here hx rfl (hb hby ds7_14) rfl k) ?_
            show own_Go p.tables e below _ (s₁.setTop (mkF m 16 #[.val (.ref ab), .val (.int p1), .val (.int (0 : Int32)), .val (.int (15 : Int32)), .val (.int (p1.toInt8.toInt32)), .val (.int (5 : Int32))] [(.int (5 : Int32)), (.ref ab)]))
            have vo6 := V_ab
            obtain ⟨cl6, Ar6, Aq6, AS6, AN6, AH6, AG6⟩ := vo6
            have hin6 : ¬ ((5 : Int32) < 0 ∨ cl6.slots.size ≤ ((5 : Int32)).toNatClampNeg) := inb_of AS6 ⟨by decide, by decide⟩
            have hat6 : cl6.slots[((5 : Int32)).toNatClampNeg]? = some (.int (39 : Int32)) := Has.at AH6 hin6 rfl
            refine own_go (fun _ k => X0.baloadBytes hx (j := (5 : Int32)) (v := (.int (39 : Int32))) (by rw [e0]; exact Ar6.1) (State.isArrayOf_alike hZ.alike Ar6.2.1) Ar6.2.2 hin6 hat6 (g := (mkF m 16 #[.val (.ref ab), .val (.int p1), .val (.int (0 : Int32)), .val (.int (15 : Int32)), .val (.int (p1.toInt8.toInt32)), .val (.int (5 : Int32))] [(.int (5 : Int32)), (.ref ab)])) rfl rfl (hb hby ds7_16) _ k) ?_
            show own_Go p.tables e below _ (s₁.setTop (mkF m 17 #[.val (.ref ab), .val (.int p1), .val (.int (0 : Int32)), .val (.int (15 : Int32)), .val (.int (p1.toInt8.toInt32)), .val (.int (5 : Int32))] [(.int (39 : Int32))]))
            refine own_go (fun _ k => XS.iload X0.here hx rfl (hb hby ds7_17) rfl k) ?_
            show own_Go p.tables e below _ (s₁.setTop (mkF m 19 #[.val (.ref ab), .val (.int p1), .val (.int (0 : Int32)), .val (.int (15 : Int32)), .val (.int (p1.toInt8.toInt32)), .val (.int (5 : Int32))] [(.int (p1.toInt8.toInt32)), (.int (39 : Int32))]))
            by_cases hc19_6 : (39 : Int32) = (p1.toInt8.toInt32)
            · refine own_go (fun _ k => XS.icmpNo X0.here hx rfl (hb hby ds7_19) rfl (teq hc19_6).2 k) ?_
              show own_Go p.tables e below _ (s₁.setTop (mkF m 22 #[.val (.ref ab), .val (.int p1), .val (.int (0 : Int32)), .val (.int (15 : Int32)), .val (.int (p1.toInt8.toInt32)), .val (.int (5 : Int32))] []))
              refine own_go (fun _ k => XS.iload X0.here hx rfl (hb hby ds7_22) rfl k) ?_
              show own_Go p.tables e below _ (s₁.setTop (mkF m 24 #[.val (.ref ab), .val (.int p1), .val (.int (0 : Int32)), .val (.int (15 : Int32)), .val (.int (p1.toInt8.toInt32)), .val (.int (5 : Int32))] [(.int (5 : Int32))]))
              refine own_end X0 Bd.notSynchronized (v := some (.int (5 : Int32))) (fun h => by rw [Bd.returns] at h; cases h) (fun fs hr => own_retI X0 hx Bd.returns (hb hby ds7_24) hr) ?_ (by decide) (by decide)
              exact ⟨by rw [own_fs7, if_neg hc19, if_neg hc19_2, if_neg hc19_3, if_neg hc19_4, if_neg hc19_5, if_pos hc19_6], N0, e0⟩
            · refine own_go (fun _ k => XS.icmpYes X0.here hx rfl (pc0 := 19) (pc' := 25) rfl (hb hby ds7_19) rfl (feq hc19_6).2 (by decide) (by decide) k) ?_
              show own_Go p.tables e below _ (s₁.setTop (mkF m 25 #[.val (.ref ab), .val (.int p1), .val (.int (0 : Int32)), .val (.int (15 : Int32)), .val (.int (p1.toInt8.toInt32)), .val (.int (5 : Int32))] []))
              refine own_go (fun _ k => XS.iinc X0.here hx rfl (hb hby ds7_25) rfl (l' := #[.val (.ref ab), .val (.int p1), .val (.int (0 : Int32)), .val (.int (15 : Int32)), .val (.int (p1.toInt8.toInt32)), .val (.int (6 : Int32))]) rfl k) ?_
              show own_Go p.tables e below _ (s₁.setTop (mkF m 28 #[.val (.ref ab), .val (.int p1), .val (.int (0 : Int32)), .val (.int (15 : Int32)), .val (.int (p1.toInt8.toInt32)), .val (.int (6 : Int32))] []))
              refine own_go (fun _ k => XS.goto X0.here hx rfl (pc0 := 28) (pc' := 7) rfl (hb hby ds7_28) (by decide) (by decide) k) ?_
              show own_Go p.tables e below _ (s₁.setTop (mkF m 7 #[.val (.ref ab), .val (.int p1), .val (.int (0 : Int32)), .val (.int (15 : Int32)), .val (.int (p1.toInt8.toInt32)), .val (.int (6 : Int32))] []))
              refine own_go (fun _ k => XS.iload X0.here hx rfl (hb hby ds7_7) rfl k) ?_
              show own_Go p.tables e below _ (s₁.setTop (mkF m 9 #[.val (.ref ab), .val (.int p1), .val (.int (0 : Int32)), .val (.int (15 : Int32)), .val (.int (p1.toInt8.toInt32)), .val (.int (6 : Int32))] [(.int (6 : Int32))]))
              refine own_go (fun _ k => XS.iloadN X0.here hx rfl (hb hby ds7_9) rfl k) ?_
              show own_Go p.tables e below _ (s₁.setTop (mkF m 10 #[.val (.ref ab), .val (.int p1), .val (.int (0 : Int32)), .val (.int (15 : Int32)), .val (.int (p1.toInt8.toInt32)), .val (.int (6 : Int32))] [(.int (15 : Int32)), (.int (6 : Int32))]))
              have hf10 : (6 : Int32) < (15 : Int32) := by decide
              refine own_go (fun _ k => XS.icmpNo X0.here hx rfl (hb hby ds7_10) rfl (tlt hf10).2.1 k) ?_
              show own_Go p.tables e below _ (s₁.setTop (mkF m 13 #[.val (.ref ab), .val (.int p1), .val (.int (0 : Int32)), .val (.int (15 : Int32)), .val (.int (p1.toInt8.toInt32)), .val (.int (6 : Int32))] []))
              refine own_go (fun _ k => XS.aloadN X0.here hx rfl (hb hby ds7_13) rfl rfl k) ?_
              show own_Go p.tables e below _ (s₁.setTop (mkF m 14 #[.val (.ref ab), .val (.int p1), .val (.int (0 : Int32)), .val (.int (15 : Int32)), .val (.int (p1.toInt8.toInt32)), .val (.int (6 : Int32))] [(.ref ab)]))
              refine own_go (fun _ k => XS.iload X0.here hx rfl (hb hby ds7_14) rfl k) ?_
              show own_Go p.tables e below _ (s₁.setTop (mkF m 16 #[.val (.ref ab), .val (.int p1), .val (.int (0 : Int32)), .val (.int (15 : Int32)), .val (.int (p1.toInt8.toInt32)), .val (.int (6 : Int32))] [(.int (6 : Int32)), (.ref ab)]))
              have vo7 := V_ab
              obtain ⟨cl7, Ar7, Aq7, AS7, AN7, AH7, AG7⟩ := vo7
              have hin7 : ¬ ((6 : Int32) < 0 ∨ cl7.slots.size ≤ ((6 : Int32)).toNatClampNeg) := inb_of AS7 ⟨by decide, by decide⟩
              have hat7 : cl7.slots[((6 : Int32)).toNatClampNeg]? = some (.int (42 : Int32)) := Has.at AH7 hin7 rfl
              refine own_go (fun _ k => X0.baloadBytes hx (j := (6 : Int32)) (v := (.int (42 : Int32))) (by rw [e0]; exact Ar7.1) (State.isArrayOf_alike hZ.alike Ar7.2.1) Ar7.2.2 hin7 hat7 (g := (mkF m 16 #[.val (.ref ab), .val (.int p1), .val (.int (0 : Int32)), .val (.int (15 : Int32)), .val (.int (p1.toInt8.toInt32)), .val (.int (6 : Int32))] [(.int (6 : Int32)), (.ref ab)])) rfl rfl (hb hby ds7_16) _ k) ?_
              show own_Go p.tables e below _ (s₁.setTop (mkF m 17 #[.val (.ref ab), .val (.int p1), .val (.int (0 : Int32)), .val (.int (15 : Int32)), .val (.int (p1.toInt8.toInt32)), .val (.int (6 : Int32))] [(.int (42 : Int32))]))
              refine own_go (fun _ k => XS.iload X0.here hx rfl (hb hby ds7_17) rfl k) ?_
              show own_Go p.tables e below _ (s₁.setTop (mkF m 19 #[.val (.ref ab), .val (.int p1), .val (.int (0 : Int32)), .val (.int (15 : Int32)), .val (.int (p1.toInt8.toInt32)), .val (.int (6 : Int32))] [(.int (p1.toInt8.toInt32)), (.int (42 : Int32))]))
              by_cases hc19_7 : (42 : Int32) = (p1.toInt8.toInt32)
              · refine own_go (fun _ k => XS.icmpNo X0.here hx rfl (hb hby ds7_19) rfl (teq hc19_7).2 k) ?_
                show own_Go p.tables e below _ (s₁.setTop (mkF m 22 #[.val (.ref ab), .val (.int p1), .val (.int (0 : Int32)), .val (.int (15 : Int32)), .val (.int (p1.toInt8.toInt32)), .val (.int (6 : Int32))] []))
                refine own_go (fun _ k => XS.iload X0.here hx rfl (hb hby ds7_22) rfl k) ?_
                show own_Go p.tables e below _ (s₁.setTop (mkF m 24 #[.val (.ref ab), .val (.int p1), .val (.int (0 : Int32)), .val (.int (15 : Int32)), .val (.int (p1.toInt8.toInt32)), .val (.int (6 : Int32))] [(.int (6 : Int32))]))
                refine own_end X0 Bd.notSynchronized (v := some (.int (6 : Int32))) (fun h => by rw [Bd.returns] at h; cases h) (fun fs hr => own_retI X0 hx Bd.returns (hb hby ds7_24) hr) ?_ (by decide) (by decide)
                exact ⟨by rw [own_fs7, if_neg hc19, if_neg hc19_2, if_neg hc19_3, if_neg hc19_4, if_neg hc19_5, if_neg hc19_6, if_pos hc19_7], N0, e0⟩
              · refine own_go (fun _ k => XS.icmpYes X0.here hx rfl (pc0 := 19) (pc' := 25) rfl (hb hby ds7_19) rfl (feq hc19_7).2 (by decide) (by decide) k) ?_
                show own_Go p.tables e below _ (s₁.setTop (mkF m 25 #[.val (.ref ab), .val (.int p1), .val (.int (0 : Int32)), .val (.int (15 : Int32)), .val (.int (p1.toInt8.toInt32)), .val (.int (6 : Int32))] []))
                refine own_go (fun _ k => XS.iinc X0.here hx rfl (hb hby ds7_25) rfl (l' := #[.val (.ref ab), .val (.int p1), .val (.int (0 : Int32)), .val (.int (15 : Int32)), .val (.int (p1.toInt8.toInt32)), .val (.int (7 : Int32))]) rfl k) ?_
                show own_Go p.tables e below _ (s₁.setTop (mkF m 28 #[.val (.ref ab), .val (.int p1), .val (.int (0 : Int32)), .val (.int (15 : Int32)), .val (.int (p1.toInt8.toInt32)), .val (.int (7 : Int32))] []))
                refine own_go (fun _ k => XS.goto X0.here hx rfl (pc0 := 28) (pc' := 7) rfl (hb hby ds7_28) (by decide) (by decide) k) ?_
                show own_Go p.tables e below _ (s₁.setTop (mkF m 7 #[.val (.ref ab), .val (.int p1), .val (.int (0 : Int32)), .val (.int (15 : Int32)), .val (.int (p1.toInt8.toInt32)), .val (.int (7 : Int32))] []))
                refine own_go (fun _ k => XS.iload X0.here hx rfl (hb hby ds7_7) rfl k) ?_
                show own_Go p.tables e below _ (s₁.setTop (mkF m 9 #[.val (.ref ab), .val (.int p1), .val (.int (0 : Int32)), .val (.int (15 : Int32)), .val (.int (p1.toInt8.toInt32)), .val (.int (7 : Int32))] [(.int (7 : Int32))]))
                refine own_go (fun _ k => XS.iloadN X0.here hx rfl (hb hby ds7_9) rfl k) ?_
                show own_Go p.tables e below _ (s₁.setTop (mkF m 10 #[.val (.ref ab), .val (.int p1), .val (.int (0 : Int32)), .val (.int (15 : Int32)), .val (.int (p1.toInt8.toInt32)), .val (.int (7 : Int32))] [(.int (15 : Int32)), (.int (7 : Int32))]))
                have hf10 : (7 : Int32) < (15 : Int32) := by decide
                refine own_go (fun _ k => XS.icmpNo X0.here hx rfl (hb hby ds7_10) rfl (tlt hf10).2.1 k) ?_
                show own_Go p.tables e below _ (s₁.setTop (mkF m 13 #[.val (.ref ab), .val (.int p1), .val (.int (0 : Int32)), .val (.int (15 : Int32)), .val (.int (p1.toInt8.toInt32)), .val (.int (7 : Int32))] []))
                refine own_go (fun _ k => XS.aloadN X0.here hx rfl (hb hby ds7_13) rfl rfl k) ?_
                show own_Go p.tables e below _ (s₁.setTop (mkF m 14 #[.val (.ref ab), .val (.int p1), .val (.int (0 : Int32)), .val (.int (15 : Int32)), .val (.int (p1.toInt8.toInt32)), .val (.int (7 : Int32))] [(.ref ab)]))
                refine own_go (fun _ k => XS.iload X0.here hx rfl (hb hby ds7_14) rfl k) ?_
                show own_Go p.tables e below _ (s₁.setTop (mkF m 16 #[.val (.ref ab), .val (.int p1), .val (.int (0 : Int32)), .val (.int (15 : Int32)), .val (.int (p1.toInt8.toInt32)), .val (.int (7 : Int32))] [(.int (7 : Int32)), (.ref ab)]))
                have vo8 := V_ab
                obtain ⟨cl8, Ar8, Aq8, AS8, AN8, AH8, AG8⟩ := vo8
                have hin8 : ¬ ((7 : Int32) < 0 ∨ cl8.slots.size ≤ ((7 : Int32)).toNatClampNeg) := inb_of AS8 ⟨by decide, by decide⟩
                have hat8 : cl8.slots[((7 : Int32)).toNatClampNeg]? = some (.int (43 : Int32)) := Has.at AH8 hin8 rfl
                refine own_go (fun _ k => X0.baloadBytes hx (j := (7 : Int32)) (v := (.int (43 : Int32))) (by rw [e0]; exact Ar8.1) (State.isArrayOf_alike hZ.alike Ar8.2.1) Ar8.2.2 hin8 hat8 (g := (mkF m 16 #[.val (.ref ab), .val (.int p1), .val (.int (0 : Int32)), .val (.int (15 : Int32)), .val (.int (p1.toInt8.toInt32)), .val (.int (7 : Int32))] [(.int (7 : Int32)), (.ref ab)])) rfl rfl (hb hby ds7_16) _ k) ?_
                show own_Go p.tables e below _ (s₁.setTop (mkF m 17 #[.val (.ref ab), .val (.int p1), .val (.int (0 : Int32)), .val (.int (15 : Int32)), .val (.int (p1.toInt8.toInt32)), .val (.int (7 : Int32))] [(.int (43 : Int32))]))
                refine own_go (fun _ k => XS.iload X0.here hx rfl (hb hby ds7_17) rfl k) ?_
                show own_Go p.tables e below _ (s₁.setTop (mkF m 19 #[.val (.ref ab), .val (.int p1), .val (.int (0 : Int32)), .val (.int (15 : Int32)), .val (.int (p1.toInt8.toInt32)), .val (.int (7 : Int32))] [(.int (p1.toInt8.toInt32)), (.int (43 : Int32))]))
                by_cases hc19_8 : (43 : Int32) = (p1.toInt8.toInt32)
                · refine own_go (fun _ k => XS.icmpNo X0.here hx rfl (hb hby ds7_19) rfl (teq hc19_8).2 k) ?_
                  show own_Go p.tables e below _ (s₁.setTop (mkF m 22 #[.val (.ref ab), .val (.int p1), .val (.int (0 : Int32)), .val (.int (15 : Int32)), .val (.int (p1.toInt8.toInt32)), .val (.int (7 : Int32))] []))
                  refine own_go (fun _ k => XS.iload X0.here hx rfl (hb hby ds7_22) rfl k) ?_
                  show own_Go p.tables e below _ (s₁.setTop (mkF m 24 #[.val (.ref ab), .val (.int p1), .val (.int (0 : Int32)), .val (.int (15 : Int32)), .val (.int (p1.toInt8.toInt32)), .val (.int (7 : Int32))] [(.int (7 : Int32))]))
                  refine own_end X0 Bd.notSynchronized (v := some (.int (7 : Int32))) (fun h => by rw [Bd.returns] at h; cases h) (fun fs hr => own_retI X0 hx Bd.returns (hb hby ds7_24) hr) ?_ (by decide) (by decide)
                  exact ⟨by rw [own_fs7, if_neg hc19, if_neg hc19_2, if_neg hc19_3, if_neg hc19_4, if_neg hc19_5, if_neg hc19_6, if_neg hc19_7, if_pos hc19_8], N0, e0⟩
                · refine own_go (fun _ k => XS.icmpYes X0.here hx rfl (pc0 := 19) (pc' := 25) rfl (hb hby ds7_19) rfl (feq hc19_8).2 (by decide) (by decide) k) ?_
                  show own_Go p.tables e below _ (s₁.setTop (mkF m 25 #[.val (.ref ab), .val (.int p1), .val (.int (0 : Int32)), .val (.int (15 : Int32)), .val (.int (p1.toInt8.toInt32)), .val (.int (7 : Int32))] []))
                  refine own_go (fun _ k => XS.iinc X0.here hx rfl (hb hby ds7_25) rfl (l' := #[.val (.ref ab), .val (.int p1), .val (.int (0 : Int32)), .val (.int (15 : Int32)), .val (.int (p1.toInt8.toInt32)), .val (.int (8 : Int32))]) rfl k) ?_
                  show own_Go p.tables e below _ (s₁.setTop (mkF m 28 #[.val (.ref ab), .val (.int p1), .val (.int (0 : Int32)), .val (.int (15 : Int32)), .val (.int (p1.toInt8.toInt32)), .val (.int (8 : Int32))] []))
                  refine own_go (fun _ k => XS.goto X0.here hx rfl (pc0 := 28) (pc' := 7) rfl (hb hby ds7_28) (by decide) (by decide) k) ?_
                  show own_Go p.tables e below _ (s₁.setTop (mkF m 7 #[.val (.ref ab), .val (.int p1), .val (.int (0 : Int32)), .val (.int (15 : Int32)), .val (.int (p1.toInt8.toInt32)), .val (.int (8 : Int32))] []))
                  refine own_go (fun _ k => XS.iload X0.here hx rfl (hb hby ds7_7) rfl k) ?_
                  show own_Go p.tables e below _ (s₁.setTop (mkF m 9 #[.val (.ref ab), .val (.int p1), .val (.int (0 : Int32)), .val (.int (15 : Int32)), .val (.int (p1.toInt8.toInt32)), .val (.int (8 : Int32))] [(.int (8 : Int32))]))
                  refine own_go (fun _ k => XS.iloadN X0.here hx rfl (hb hby ds7_9) rfl k) ?_
                  show own_Go p.tables e below _ (s₁.setTop (mkF m 10 #[.val (.ref ab), .val (.int p1), .val (.int (0 : Int32)), .val (.int (15 : Int32)), .val (.int (p1.toInt8.toInt32)), .val (.int (8 : Int32))] [(.int (15 : Int32)), (.int (8 : Int32))]))
                  have hf10 : (8 : Int32) < (15 : Int32) := by decide
                  refine own_go (fun _ k => XS.icmpNo X0.here hx rfl (hb hby ds7_10) rfl (tlt hf10).2.1 k) ?_
                  show own_Go p.tables e below _ (s₁.setTop (mkF m 13 #[.val (.ref ab), .val (.int p1), .val (.int (0 : Int32)), .val (.int (15 : Int32)), .val (.int (p1.toInt8.toInt32)), .val (.int (8 : Int32))] []))
                  refine own_go (fun _ k => XS.aloadN X0.here hx rfl (hb hby ds7_13) rfl rfl k) ?_
                  show own_Go p.tables e below _ (s₁.setTop (mkF m 14 #[.val (.ref ab), .val (.int p1), .val (.int (0 : Int32)), .val (.int (15 : Int32)), .val (.int (p1.toInt8.toInt32)), .val (.int (8 : Int32))] [(.ref ab)]))
                  refine own_go (fun _ k => XS.iload X0.here hx rfl (hb hby ds7_14) rfl k) ?_
                  show own_Go p.tables e below _ (s₁.setTop (mkF m 16 #[.val (.ref ab), .val (.int p1), .val (.int (0 : Int32)), .val (.int (15 : Int32)), .val (.int (p1.toInt8.toInt32)), .val (.int (8 : Int32))] [(.int (8 : Int32)), (.ref ab)]))
                  have vo9 := V_ab
                  obtain ⟨cl9, Ar9, Aq9, AS9, AN9, AH9, AG9⟩ := vo9
                  have hin9 : ¬ ((8 : Int32) < 0 ∨ cl9.slots.size ≤ ((8 : Int32)).toNatClampNeg) := inb_of AS9 ⟨by decide, by decide⟩
                  have hat9 : cl9.slots[((8 : Int32)).toNatClampNeg]? = some (.int (45 : Int32)) := Has.at AH9 hin9 rfl
                  refine own_go (fun _ k => X0.baloadBytes hx (j := (8 : Int32)) (v := (.int (45 : Int32))) (by rw [e0]; exact Ar9.1) (State.isArrayOf_alike hZ.alike Ar9.2.1) Ar9.2.2 hin9 hat9 (g := (mkF m 16 #[.val (.ref ab), .val (.int p1), .val (.int (0 : Int32)), .val (.int (15 : Int32)), .val (.int (p1.toInt8.toInt32)), .val (.int (8 : Int32))] [(.int (8 : Int32)), (.ref ab)])) rfl rfl (hb hby ds7_16) _ k) ?_
                  show own_Go p.tables e below _ (s₁.setTop (mkF m 17 #[.val (.ref ab), .val (.int p1), .val (.int (0 : Int32)), .val (.int (15 : Int32)), .val (.int (p1.toInt8.toInt32)), .val (.int (8 : Int32))] [(.int (45 : Int32))]))
                  refine own_go (fun _ k => XS.iload X0.here hx rfl (hb hby ds7_17) rfl k) ?_
                  show own_Go p.tables e below _ (s₁.setTop (mkF m 19 #[.val (.ref ab), .val (.int p1), .val (.int (0 : Int32)), .val (.int (15 : Int32)), .val (.int (p1.toInt8.toInt32)), .val (.int (8 : Int32))] [(.int (p1.toInt8.toInt32)), (.int (45 : Int32))]))
                  by_cases hc19_9 : (45 : Int32) = (p1.toInt8.toInt32)
                  · refine own_go (fun _ k => XS.icmpNo X0.here hx rfl (hb hby ds7_19) rfl (teq hc19_9).2 k) ?_
                    show own_Go p.tables e below _ (s₁.setTop (mkF m 22 #[.val (.ref ab), .val (.int p1), .val (.int (0 : Int32)), .val (.int (15 : Int32)), .val (.int (p1.toInt8.toInt32)), .val (.int (8 : Int32))] []))
                    refine own_go (fun _ k => XS.iload X0.here hx rfl (hb hby ds7_22) rfl k) ?_
                    show own_Go p.tables e below _ (s₁.setTop (mkF m 24 #[.val (.ref ab), .val (.int p1), .val (.int (0 : Int32)), .val (.int (15 : Int32)), .val (.int (p1.toInt8.toInt32)), .val (.int (8 : Int32))] [(.int (8 : Int32))]))
                    refine own_end X0 Bd.notSynchronized (v := some (.int (8 : Int32))) (fun h => by rw [Bd.returns] at h; cases h) (fun fs hr => own_retI X0 hx Bd.returns (hb hby ds7_24) hr) ?_ (by decide) (by decide)
                    exact ⟨by rw [own_fs7, if_neg hc19, if_neg hc19_2, if_neg hc19_3, if_neg hc19_4, if_neg hc19_5, if_neg hc19_6, if_neg hc19_7, if_neg hc19_8, if_pos hc19_9], N0, e0⟩
                  · refine own_go (fun _ k => XS.icmpYes X0.here hx rfl (pc0 := 19) (pc' := 25) rfl (hb hby ds7_19) rfl (feq hc19_9).2 (by decide) (by decide) k) ?_
                    show own_Go p.tables e below _ (s₁.setTop (mkF m 25 #[.val (.ref ab), .val (.int p1), .val (.int (0 : Int32)), .val (.int (15 : Int32)), .val (.int (p1.toInt8.toInt32)), .val (.int (8 : Int32))] []))
                    refine own_go (fun _ k => XS.iinc X0.here hx rfl (hb hby ds7_25) rfl (l' := #[.val (.ref ab), .val (.int p1), .val (.int (0 : Int32)), .val (.int (15 : Int32)), .val (.int (p1.toInt8.toInt32)), .val (.int (9 : Int32))]) rfl k) ?_
                    show own_Go p.tables e below _ (s₁.setTop (mkF m 28 #[.val (.ref ab), .val (.int p1), .val (.int (0 : Int32)), .val (.int (15 : Int32)), .val (.int (p1.toInt8.toInt32)), .val (.int (9 : Int32))] []))
                    refine own_go (fun _ k => XS.goto X0.here hx rfl (pc0 := 28) (pc' := 7) rfl (hb hby ds7_28) (by decide) (by decide) k) ?_
                    show own_Go p.tables e below _ (s₁.setTop (mkF m 7 #[.val (.ref ab), .val (.int p1), .val (.int (0 : Int32)), .val (.int (15 : Int32)), .val (.int (p1.toInt8.toInt32)), .val (.int (9 : Int32))] []))
                    refine own_go (fun _ k => XS.iload X0.here hx rfl (hb hby ds7_7) rfl k) ?_
                    show own_Go p.tables e below _ (s₁.setTop (mkF m 9 #[.val (.ref ab), .val (.int p1), .val (.int (0 : Int32)), .val (.int (15 : Int32)), .val (.int (p1.toInt8.toInt32)), .val (.int (9 : Int32))] [(.int (9 : Int32))]))
                    refine own_go (fun _ k => XS.iloadN X0.here hx rfl (hb hby ds7_9) rfl k) ?_
                    show own_Go p.tables e below _ (s₁.setTop (mkF m 10 #[.val (.ref ab), .val (.int p1), .val (.int (0 : Int32)), .val (.int (15 : Int32)), .val (.int (p1.toInt8.toInt32)), .val (.int (9 : Int32))] [(.int (15 : Int32)), (.int (9 : Int32))]))
                    have hf10 : (9 : Int32) < (15 : Int32) := by decide
                    refine own_go (fun _ k => XS.icmpNo X0.here hx rfl (hb hby ds7_10) rfl (tlt hf10).2.1 k) ?_
                    show own_Go p.tables e below _ (s₁.setTop (mkF m 13 #[.val (.ref ab), .val (.int p1), .val (.int (0 : Int32)), .val (.int (15 : Int32)), .val (.int (p1.toInt8.toInt32)), .val (.int (9 : Int32))] []))
                    refine own_go (fun _ k => XS.aloadN X0.here hx rfl (hb hby ds7_13) rfl rfl k) ?_
                    show own_Go p.tables e below _ (s₁.setTop (mkF m 14 #[.val (.ref ab), .val (.int p1), .val (.int (0 : Int32)), .val (.int (15 : Int32)), .val (.int (p1.toInt8.toInt32)), .val (.int (9 : Int32))] [(.ref ab)]))
                    refine own_go (fun _ k => XS.iload X0.here hx rfl (hb hby ds7_14) rfl k) ?_
                    show own_Go p.tables e below _ (s₁.setTop (mkF m 16 #[.val (.ref ab), .val (.int p1), .val (.int (0 : Int32)), .val (.int (15 : Int32)), .val (.int (p1.toInt8.toInt32)), .val (.int (9 : Int32))] [(.int (9 : Int32)), (.ref ab)]))
                    have vo10 := V_ab
                    obtain ⟨cl10, Ar10, Aq10, AS10, AN10, AH10, AG10⟩ := vo10
                    have hin10 : ¬ ((9 : Int32) < 0 ∨ cl10.slots.size ≤ ((9 : Int32)).toNatClampNeg) := inb_of AS10 ⟨by decide, by decide⟩
                    have hat10 : cl10.slots[((9 : Int32)).toNatClampNeg]? = some (.int (46 : Int32)) := Has.at AH10 hin10 rfl
                    refine own_go (fun _ k => X0.baloadBytes hx (j := (9 : Int32)) (v := (.int (46 : Int32))) (by rw [e0]; exact Ar10.1) (State.isArrayOf_alike hZ.alike Ar10.2.1) Ar10.2.2 hin10 hat10 (g := (mkF m 16 #[.val (.ref ab), .val (.int p1), .val (.int (0 : Int32)), .val (.int (15 : Int32)), .val (.int (p1.toInt8.toInt32)), .val (.int (9 : Int32))] [(.int (9 : Int32)), (.ref ab)])) rfl rfl (hb hby ds7_16) _ k) ?_
                    show own_Go p.tables e below _ (s₁.setTop (mkF m 17 #[.val (.ref ab), .val (.int p1), .val (.int (0 : Int32)), .val (.int (15 : Int32)), .val (.int (p1.toInt8.toInt32)), .val (.int (9 : Int32))] [(.int (46 : Int32))]))
                    refine own_go (fun _ k => XS.iload X0.here hx rfl (hb hby ds7_17) rfl k) ?_
                    show own_Go p.tables e below _ (s₁.setTop (mkF m 19 #[.val (.ref ab), .val (.int p1), .val (.int (0 : Int32)), .val (.int (15 : Int32)), .val (.int (p1.toInt8.toInt32)), .val (.int (9 : Int32))] [(.int (p1.toInt8.toInt32)), (.int (46 : Int32))]))
                    by_cases hc19_10 : (46 : Int32) = (p1.toInt8.toInt32)
                    · refine own_go (fun _ k => XS.icmpNo X0.here hx rfl (hb hby ds7_19) rfl (teq hc19_10).2 k) ?_
                      show own_Go p.tables e below _ (s₁.setTop (mkF m 22 #[.val (.ref ab), .val (.int p1), .val (.int (0 : Int32)), .val (.int (15 : Int32)), .val (.int (p1.toInt8.toInt32)), .val (.int (9 : Int32))] []))
                      refine own_go (fun _ k => XS.iload X0.here hx rfl (hb hby ds7_22) rfl k) ?_
                      show own_Go p.tables e below _ (s₁.setTop (mkF m 24 #[.val (.ref ab), .val (.int p1), .val (.int (0 : Int32)), .val (.int (15 : Int32)), .val (.int (p1.toInt8.toInt32)), .val (.int (9 : Int32))] [(.int (9 : Int32))]))
                      refine own_end X0 Bd.notSynchronized (v := some (.int (9 : Int32))) (fun h => by rw [Bd.returns] at h; cases h) (fun fs hr => own_retI X0 hx Bd.returns (hb hby ds7_24) hr) ?_ (by decide) (by decide)
                      exact ⟨by rw [own_fs7, if_neg hc19, if_neg hc19_2, if_neg hc19_3, if_neg hc19_4, if_neg hc19_5, if_neg hc19_6, if_neg hc19_7, if_neg hc19_8, if_neg hc19_9, if_pos hc19_10], N0, e0⟩
                    · refine own_go (fun _ k => XS.icmpYes X0.here hx rfl (pc0 := 19) (pc' := 25) rfl (hb hby ds7_19) rfl (feq hc19_10).2 (by decide) (by decide) k) ?_
                      show own_Go p.tables e below _ (s₁.setTop (mkF m 25 #[.val (.ref ab), .val (.int p1), .val (.int (0 : Int32)), .val (.int (15 : Int32)), .val (.int (p1.toInt8.toInt32)), .val (.int (9 : Int32))] []))
                      refine own_go (fun _ k => XS.iinc X0.here hx rfl (hb hby ds7_25) rfl (l' := #[.val (.ref ab), .val (.int p1), .val (.int (0 : Int32)), .val (.int (15 : Int32)), .val (.int (p1.toInt8.toInt32)), .val (.int (10 : Int32))]) rfl k) ?_
                      show own_Go p.tables e below _ (s₁.setTop (mkF m 28 #[.val (.ref ab), .val (.int p1), .val (.int (0 : Int32)), .val (.int (15 : Int32)), .val (.int (p1.toInt8.toInt32)), .val (.int (10 : Int32))] []))
                      refine own_go (fun _ k => XS.goto X0.here hx rfl (pc0 := 28) (pc' := 7) rfl (hb hby ds7_28) (by decide) (by decide) k) ?_
                      show own_Go p.tables e below _ (s₁.setTop (mkF m 7 #[.val (.ref ab), .val (.int p1), .val (.int (0 : Int32)), .val (.int (15 : Int32)), .val (.int (p1.toInt8.toInt32)), .val (.int (10 : Int32))] []))
                      refine own_go (fun _ k => XS.iload X0.here hx rfl (hb hby ds7_7) rfl k) ?_
                      show own_Go p.tables e below _ (s₁.setTop (mkF m 9 #[.val (.ref ab), .val (.int p1), .val (.int (0 : Int32)), .val (.int (15 : Int32)), .val (.int (p1.toInt8.toInt32)), .val (.int (10 : Int32))] [(.int (10 : Int32))]))
                      refine own_go (fun _ k => XS.iloadN X0.here hx rfl (hb hby ds7_9) rfl k) ?_
                      show own_Go p.tables e below _ (s₁.setTop (mkF m 10 #[.val (.ref ab), .val (.int p1), .val (.int (0 : Int32)), .val (.int (15 : Int32)), .val (.int (p1.toInt8.toInt32)), .val (.int (10 : Int32))] [(.int (15 : Int32)), (.int (10 : Int32))]))
                      have hf10 : (10 : Int32) < (15 : Int32) := by decide
                      refine own_go (fun _ k => XS.icmpNo X0.here hx rfl (hb hby ds7_10) rfl (tlt hf10).2.1 k) ?_
                      show own_Go p.tables e below _ (s₁.setTop (mkF m 13 #[.val (.ref ab), .val (.int p1), .val (.int (0 : Int32)), .val (.int (15 : Int32)), .val (.int (p1.toInt8.toInt32)), .val (.int (10 : Int32))] []))
                      refine own_go (fun _ k => XS.aloadN X0.here hx rfl (hb hby ds7_13) rfl rfl k) ?_
                      show own_Go p.tables e below _ (s₁.setTop (mkF m 14 #[.val (.ref ab), .val (.int p1), .val (.int (0 : Int32)), .val (.int (15 : Int32)), .val (.int (p1.toInt8.toInt32)), .val (.int (10 : Int32))] [(.ref ab)]))
                      refine own_go (fun _ k => XS.iload X0.here hx rfl (hb hby ds7_14) rfl k) ?_
                      show own_Go p.tables e below _ (s₁.setTop (mkF m 16 #[.val (.ref ab), .val (.int p1), .val (.int (0 : Int32)), .val (.int (15 : Int32)), .val (.int (p1.toInt8.toInt32)), .val (.int (10 : Int32))] [(.int (10 : Int32)), (.ref ab)]))
                      have vo11 := V_ab
                      obtain ⟨cl11, Ar11, Aq11, AS11, AN11, AH11, AG11⟩ := vo11
                      have hin11 : ¬ ((10 : Int32) < 0 ∨ cl11.slots.size ≤ ((10 : Int32)).toNatClampNeg) := inb_of AS11 ⟨by decide, by decide⟩
                      have hat11 : cl11.slots[((10 : Int32)).toNatClampNeg]? = some (.int (94 : Int32)) := Has.at AH11 hin11 rfl
                      refine own_go (fun _ k => X0.baloadBytes hx (j := (10 : Int32)) (v := (.int (94 : Int32))) (by rw [e0]; exact Ar11.1) (State.isArrayOf_alike hZ.alike Ar11.2.1) Ar11.2.2 hin11 hat11 (g := (mkF m 16 #[.val (.ref ab), .val (.int p1), .val (.int (0 : Int32)), .val (.int (15 : Int32)), .val (.int (p1.toInt8.toInt32)), .val (.int (10 : Int32))] [(.int (10 : Int32)), (.ref ab)])) rfl rfl (hb hby ds7_16) _ k) ?_
                      show own_Go p.tables e below _ (s₁.setTop (mkF m 17 #[.val (.ref ab), .val (.int p1), .val (.int (0 : Int32)), .val (.int (15 : Int32)), .val (.int (p1.toInt8.toInt32)), .val (.int (10 : Int32))] [(.int (94 : Int32))]))
                      refine own_go (fun _ k => XS.iload X0.here hx rfl (hb hby ds7_17) rfl k) ?_
                      show own_Go p.tables e below _ (s₁.setTop (mkF m 19 #[.val (.ref ab), .val (.int p1), .val (.int (0 : Int32)), .val (.int (15 : Int32)), .val (.int (p1.toInt8.toInt32)), .val (.int (10 : Int32))] [(.int (p1.toInt8.toInt32)), (.int (94 : Int32))]))
                      by_cases hc19_11 : (94 : Int32) = (p1.toInt8.toInt32)
                      · refine own_go (fun _ k => XS.icmpNo X0.here hx rfl (hb hby ds7_19) rfl (teq hc19_11).2 k) ?_
                        show own_Go p.tables e below _ (s₁.setTop (mkF m 22 #[.val (.ref ab), .val (.int p1), .val (.int (0 : Int32)), .val (.int (15 : Int32)), .val (.int (p1.toInt8.toInt32)), .val (.int (10 : Int32))] []))
                        refine own_go (fun _ k => XS.iload X0.here hx rfl (hb hby ds7_22) rfl k) ?_
                        show own_Go p.tables e below _ (s₁.setTop (mkF m 24 #[.val (.ref ab), .val (.int p1), .val (.int (0 : Int32)), .val (.int (15 : Int32)), .val (.int (p1.toInt8.toInt32)), .val (.int (10 : Int32))] [(.int (10 : Int32))]))
                        refine own_end X0 Bd.notSynchronized (v := some (.int (10 : Int32))) (fun h => by rw [Bd.returns] at h; cases h) (fun fs hr => own_retI X0 hx Bd.returns (hb hby ds7_24) hr) ?_ (by decide) (by decide)
                        exact ⟨by rw [own_fs7, if_neg hc19, if_neg hc19_2, if_neg hc19_3, if_neg hc19_4, if_neg hc19_5, if_neg hc19_6, if_neg hc19_7, if_neg hc19_8, if_neg hc19_9, if_neg hc19_10, if_pos hc19_11], N0, e0⟩
                      · refine own_go (fun _ k => XS.icmpYes X0.here hx rfl (pc0 := 19) (pc' := 25) rfl (hb hby ds7_19) rfl (feq hc19_11).2 (by decide) (by decide) k) ?_
                        show own_Go p.tables e below _ (s₁.setTop (mkF m 25 #[.val (.ref ab), .val (.int p1), .val (.int (0 : Int32)), .val (.int (15 : Int32)), .val (.int (p1.toInt8.toInt32)), .val (.int (10 : Int32))] []))
                        refine own_go (fun _ k => XS.iinc X0.here hx rfl (hb hby ds7_25) rfl (l' := #[.val (.ref ab), .val (.int p1), .val (.int (0 : Int32)), .val (.int (15 : Int32)), .val (.int (p1.toInt8.toInt32)), .val (.int (11 : Int32))]) rfl k) ?_
                        show own_Go p.tables e below _ (s₁.setTop (mkF m 28 #[.val (.ref ab), .val (.int p1), .val (.int (0 : Int32)), .val (.int (15 : Int32)), .val (.int (p1.toInt8.toInt32)), .val (.int (11 : Int32))] []))
                        refine own_go (fun _ k => XS.goto X0.here hx rfl (pc0 := 28) (pc' := 7) rfl (hb hby ds7_28) (by decide) (by decide) k) ?_
                        show own_Go p.tables e below _ (s₁.setTop (mkF m 7 #[.val (.ref ab), .val (.int p1), .val (.int (0 : Int32)), .val (.int (15 : Int32)), .val (.int (p1.toInt8.toInt32)), .val (.int (11 : Int32))] []))
                        refine own_go (fun _ k => XS.iload X0.here hx rfl (hb hby ds7_7) rfl k) ?_
                        show own_Go p.tables e below _ (s₁.setTop (mkF m 9 #[.val (.ref ab), .val (.int p1), .val (.int (0 : Int32)), .val (.int (15 : Int32)), .val (.int (p1.toInt8.toInt32)), .val (.int (11 : Int32))] [(.int (11 : Int32))]))
                        refine own_go (fun _ k => XS.iloadN X0.here hx rfl (hb hby ds7_9) rfl k) ?_
                        show own_Go p.tables e below _ (s₁.setTop (mkF m 10 #[.val (.ref ab), .val (.int p1), .val (.int (0 : Int32)), .val (.int (15 : Int32)), .val (.int (p1.toInt8.toInt32)), .val (.int (11 : Int32))] [(.int (15 : Int32)), (.int (11 : Int32))]))
                        have hf10 : (11 : Int32) < (15 : Int32) := by decide
                        refine own_go (fun _ k => XS.icmpNo X0.here hx rfl (hb hby ds7_10) rfl (tlt hf10).2.1 k) ?_
                        show own_Go p.tables e below _ (s₁.setTop (mkF m 13 #[.val (.ref ab), .val (.int p1), .val (.int (0 : Int32)), .val (.int (15 : Int32)), .val (.int (p1.toInt8.toInt32)), .val (.int (11 : Int32))] []))
                        refine own_go (fun _ k => XS.aloadN X0.here hx rfl (hb hby ds7_13) rfl rfl k) ?_
                        show own_Go p.tables e below _ (s₁.setTop (mkF m 14 #[.val (.ref ab), .val (.int p1), .val (.int (0 : Int32)), .val (.int (15 : Int32)), .val (.int (p1.toInt8.toInt32)), .val (.int (11 : Int32))] [(.ref ab)]))
                        refine own_go (fun _ k => XS.iload X0.here hx rfl (hb hby ds7_14) rfl k) ?_
                        show own_Go p.tables e below _ (s₁.setTop (mkF m 16 #[.val (.ref ab), .val (.int p1), .val (.int (0 : Int32)), .val (.int (15 : Int32)), .val (.int (p1.toInt8.toInt32)), .val (.int (11 : Int32))] [(.int (11 : Int32)), (.ref ab)]))
                        have vo12 := V_ab
                        obtain ⟨cl12, Ar12, Aq12, AS12, AN12, AH12, AG12⟩ := vo12
                        have hin12 : ¬ ((11 : Int32) < 0 ∨ cl12.slots.size ≤ ((11 : Int32)).toNatClampNeg) := inb_of AS12 ⟨by decide, by decide⟩
                        have hat12 : cl12.slots[((11 : Int32)).toNatClampNeg]? = some (.int (95 : Int32)) := Has.at AH12 hin12 rfl
                        refine own_go (fun _ k => X0.baloadBytes hx (j := (11 : Int32)) (v := (.int (95 : Int32))) (by rw [e0]; exact Ar12.1) (State.isArrayOf_alike hZ.alike Ar12.2.1) Ar12.2.2 hin12 hat12 (g := (mkF m 16 #[.val (.ref ab), .val (.int p1), .val (.int (0 : Int32)), .val (.int (15 : Int32)), .val (.int (p1.toInt8.toInt32)), .val (.int (11 : Int32))] [(.int (11 : Int32)), (.ref ab)])) rfl rfl (hb hby ds7_16) _ k) ?_
                        show own_Go p.tables e below _ (s₁.setTop (mkF m 17 #[.val (.ref ab), .val (.int p1), .val (.int (0 : Int32)), .val (.int (15 : Int32)), .val (.int (p1.toInt8.toInt32)), .val (.int (11 : Int32))] [(.int (95 : Int32))]))
                        refine own_go (fun _ k => XS.iload X0.here hx rfl (hb hby ds7_17) rfl k) ?_
                        show own_Go p.tables e below _ (s₁.setTop (mkF m 19 #[.val (.ref ab), .val (.int p1), .val (.int (0 : Int32)), .val (.int (15 : Int32)), .val (.int (p1.toInt8.toInt32)), .val (.int (11 : Int32))] [(.int (p1.toInt8.toInt32)), (.int (95 : Int32))]))
                        by_cases hc19_12 : (95 : Int32) = (p1.toInt8.toInt32)
                        · refine own_go (fun _ k => XS.icmpNo X0.here hx rfl (hb hby ds7_19) rfl (teq hc19_12).2 k) ?_
                          show own_Go p.tables e below _ (s₁.setTop (mkF m 22 #[.val (.ref ab), .val (.int p1), .val (.int (0 : Int32)), .val (.int (15 : Int32)), .val (.int (p1.toInt8.toInt32)), .val (.int (11 : Int32))] []))
                          refine own_go (fun _ k => XS.iload X0.here hx rfl (hb hby ds7_22) rfl k) ?_
                          show own_Go p.tables e below _ (s₁.setTop (mkF m 24 #[.val (.ref ab), .val (.int p1), .val (.int (0 : Int32)), .val (.int (15 : Int32)), .val (.int (p1.toInt8.toInt32)), .val (.int (11 : Int32))] [(.int (11 : Int32))]))
                          refine own_end X0 Bd.notSynchronized (v := some (.int (11 : Int32))) (fun h => by rw [Bd.returns] at h; cases h) (fun fs hr => own_retI X0 hx Bd.returns (hb hby ds7_24) hr) ?_ (by decide) (by decide)
                          exact ⟨by rw [own_fs7, if_neg hc19, if_neg hc19_2, if_neg hc19_3, if_neg hc19_4, if_neg hc19_5, if_neg hc19_6, if_neg hc19_7, if_neg hc19_8, if_neg hc19_9, if_neg hc19_10, if_neg hc19_11, if_pos hc19_12], N0, e0⟩
                        · refine own_go (fun _ k => XS.icmpYes X0.here hx rfl (pc0 := 19) (pc' := 25) rfl (hb hby ds7_19) rfl (feq hc19_12).2 (by decide) (by decide) k) ?_
                          show own_Go p.tables e below _ (s₁.setTop (mkF m 25 #[.val (.ref ab), .val (.int p1), .val (.int (0 : Int32)), .val (.int (15 : Int32)), .val (.int (p1.toInt8.toInt32)), .val (.int (11 : Int32))] []))
                          refine own_go (fun _ k => XS.iinc X0.here hx rfl (hb hby ds7_25) rfl (l' := #[.val (.ref ab), .val (.int p1), .val (.int (0 : Int32)), .val (.int (15 : Int32)), .val (.int (p1.toInt8.toInt32)), .val (.int (12 : Int32))]) rfl k) ?_
                          show own_Go p.tables e below _ (s₁.setTop (mkF m 28 #[.val (.ref ab), .val (.int p1), .val (.int (0 : Int32)), .val (.int (15 : Int32)), .val (.int (p1.toInt8.toInt32)), .val (.int (12 : Int32))] []))
                          refine own_go (fun _ k => XS.goto X0.here hx rfl (pc0 := 28) (pc' := 7) rfl (hb hby ds7_28) (by decide) (by decide) k) ?_
                          show own_Go p.tables e below _ (s₁.setTop (mkF m 7 #[.val (.ref ab), .val (.int p1), .val (.int (0 : Int32)), .val (.int (15 : Int32)), .val (.int (p1.toInt8.toInt32)), .val (.int (12 : Int32))] []))
                          refine own_go (fun _ k => XS.iload X0.here hx rfl (hb hby ds7_7) rfl k) ?_
                          show own_Go p.tables e below _ (s₁.setTop (mkF m 9 #[.val (.ref ab), .val (.int p1), .val (.int (0 : Int32)), .val (.int (15 : Int32)), .val (.int (p1.toInt8.toInt32)), .val (.int (12 : Int32))] [(.int (12 : Int32))]))
                          refine own_go (fun _ k => XS.iloadN X0.here hx rfl (hb hby ds7_9) rfl k) ?_
                          show own_Go p.tables e below _ (s₁.setTop (mkF m 10 #[.val (.ref ab), .val (.int p1), .val (.int (0 : Int32)), .val (.int (15 : Int32)), .val (.int (p1.toInt8.toInt32)), .val (.int (12 : Int32))] [(.int (15 : Int32)), (.int (12 : Int32))]))
                          have hf10 : (12 : Int32) < (15 : Int32) := by decide
                          refine own_go (fun _ k => XS.icmpNo X0.here hx rfl (hb hby ds7_10) rfl (tlt hf10).2.1 k) ?_
                          show own_Go p.tables e below _ (s₁.setTop (mkF m 13 #[.val (.ref ab), .val (.int p1), .val (.int (0 : Int32)), .val (.int (15 : Int32)), .val (.int (p1.toInt8.toInt32)), .val (.int (12 : Int32))] []))
                          refine own_go (fun _ k => XS.aloadN X0.here hx rfl (hb hby ds7_13) rfl rfl k) ?_
                          show own_Go p.tables e below _ (s₁.setTop (mkF m 14 #[.val (.ref ab), .val (.int p1), .val (.int (0 : Int32)), .val (.int (15 : Int32)), .val (.int (p1.toInt8.toInt32)), .val (.int (12 : Int32))] [(.ref ab)]))
                          refine own_go (fun _ k => XS.iload X0.here hx rfl (hb hby ds7_14) rfl k) ?_
                          show own_Go p.tables e below _ (s₁.setTop (mkF m 16 #[.val (.ref ab), .val (.int p1), .val (.int (0 : Int32)), .val (.int (15 : Int32)), .val (.int (p1.toInt8.toInt32)), .val (.int (12 : Int32))] [(.int (12 : Int32)), (.ref ab)]))
                          have vo13 := V_ab
                          obtain ⟨cl13, Ar13, Aq13, AS13, AN13, AH13, AG13⟩ := vo13
                          have hin13 : ¬ ((12 : Int32) < 0 ∨ cl13.slots.size ≤ ((12 : Int32)).toNatClampNeg) := inb_of AS13 ⟨by decide, by decide⟩
                          have hat13 : cl13.slots[((12 : Int32)).toNatClampNeg]? = some (.int (96 : Int32)) := Has.at AH13 hin13 rfl
                          refine own_go (fun _ k => X0.baloadBytes hx (j := (12 : Int32)) (v := (.int (96 : Int32))) (by rw [e0]; exact Ar13.1) (State.isArrayOf_alike hZ.alike Ar13.2.1) Ar13.2.2 hin13 hat13 (g := (mkF m 16 #[.val (.ref ab), .val (.int p1), .val (.int (0 : Int32)), .val (.int (15 : Int32)), .val (.int (p1.toInt8.toInt32)), .val (.int (12 : Int32))] [(.int (12 : Int32)), (.ref ab)])) rfl rfl (hb hby ds7_16) _ k) ?_
                          show own_Go p.tables e below _ (s₁.setTop (mkF m 17 #[.val (.ref ab), .val (.int p1), .val (.int (0 : Int32)), .val (.int (15 : Int32)), .val (.int (p1.toInt8.toInt32)), .val (.int (12 : Int32))] [(.int (96 : Int32))]))
                          refine own_go (fun _ k => XS.iload X0.here hx rfl (hb hby ds7_17) rfl k) ?_
                          show own_Go p.tables e below _ (s₁.setTop (mkF m 19 #[.val (.ref ab), .val (.int p1), .val (.int (0 : Int32)), .val (.int (15 : Int32)), .val (.int (p1.toInt8.toInt32)), .val (.int (12 : Int32))] [(.int (p1.toInt8.toInt32)), (.int (96 : Int32))]))
                          by_cases hc19_13 : (96 : Int32) = (p1.toInt8.toInt32)
                          · refine own_go (fun _ k => XS.icmpNo X0.here hx rfl (hb hby ds7_19) rfl (teq hc19_13).2 k) ?_
                            show own_Go p.tables e below _ (s₁.setTop (mkF m 22 #[.val (.ref ab), .val (.int p1), .val (.int (0 : Int32)), .val (.int (15 : Int32)), .val (.int (p1.toInt8.toInt32)), .val (.int (12 : Int32))] []))
                            refine own_go (fun _ k => XS.iload X0.here hx rfl (hb hby ds7_22) rfl k) ?_
                            show own_Go p.tables e below _ (s₁.setTop (mkF m 24 #[.val (.ref ab), .val (.int p1), .val (.int (0 : Int32)), .val (.int (15 : Int32)), .val (.int (p1.toInt8.toInt32)), .val (.int (12 : Int32))] [(.int (12 : Int32))]))
                            refine own_end X0 Bd.notSynchronized (v := some (.int (12 : Int32))) (fun h => by rw [Bd.returns] at h; cases h) (fun fs hr => own_retI X0 hx Bd.returns (hb hby ds7_24) hr) ?_ (by decide) (by decide)
                            exact ⟨by rw [own_fs7, if_neg hc19, if_neg hc19_2, if_neg hc19_3, if_neg hc19_4, if_neg hc19_5, if_neg hc19_6, if_neg hc19_7, if_neg hc19_8, if_neg hc19_9, if_neg hc19_10, if_neg hc19_11, if_neg hc19_12, if_pos hc19_13], N0, e0⟩
                          · refine own_go (fun _ k => XS.icmpYes X0.here hx rfl (pc0 := 19) (pc' := 25) rfl (hb hby ds7_19) rfl (feq hc19_13).2 (by decide) (by decide) k) ?_
                            show own_Go p.tables e below _ (s₁.setTop (mkF m 25 #[.val (.ref ab), .val (.int p1), .val (.int (0 : Int32)), .val (.int (15 : Int32)), .val (.int (p1.toInt8.toInt32)), .val (.int (12 : Int32))] []))
                            refine own_go (fun _ k => XS.iinc X0.here hx rfl (hb hby ds7_25) rfl (l' := #[.val (.ref ab), .val (.int p1), .val (.int (0 : Int32)), .val (.int (15 : Int32)), .val (.int (p1.toInt8.toInt32)), .val (.int (13 : Int32))]) rfl k) ?_
                            show own_Go p.tables e below _ (s₁.setTop (mkF m 28 #[.val (.ref ab), .val (.int p1), .val (.int (0 : Int32)), .val (.int (15 : Int32)), .val (.int (p1.toInt8.toInt32)), .val (.int (13 : Int32))] []))
                            refine own_go (fun _ k => XS.goto X0.here hx rfl (pc0 := 28) (pc' := 7) rfl (hb hby ds7_28) (by decide) (by decide) k) ?_
                            show own_Go p.tables e below _ (s₁.setTop (mkF m 7 #[.val (.ref ab), .val (.int p1), .val (.int (0 : Int32)), .val (.int (15 : Int32)), .val (.int (p1.toInt8.toInt32)), .val (.int (13 : Int32))] []))
                            refine own_go (fun _ k => XS.iload X0.here hx rfl (hb hby ds7_7) rfl k) ?_
                            show own_Go p.tables e below _ (s₁.setTop (mkF m 9 #[.val (.ref ab), .val (.int p1), .val (.int (0 : Int32)), .val (.int (15 : Int32)), .val (.int (p1.toInt8.toInt32)), .val (.int (13 : Int32))] [(.int (13 : Int32))]))
                            refine own_go (fun _ k => XS.iloadN X0.here hx rfl (hb hby ds7_9) rfl k) ?_
                            show own_Go p.tables e below _ (s₁.setTop (mkF m 10 #[.val (.ref ab), .val (.int p1), .val (.int (0 : Int32)), .val (.int (15 : Int32)), .val (.int (p1.toInt8.toInt32)), .val (.int (13 : Int32))] [(.int (15 : Int32)), (.int (13 : Int32))]))
                            have hf10 : (13 : Int32) < (15 : Int32) := by decide
                            refine own_go (fun _ k => XS.icmpNo X0.here hx rfl (hb hby ds7_10) rfl (tlt hf10).2.1 k) ?_
                            show own_Go p.tables e below _ (s₁.setTop (mkF m 13 #[.val (.ref ab), .val (.int p1), .val (.int (0 : Int32)), .val (.int (15 : Int32)), .val (.int (p1.toInt8.toInt32)), .val (.int (13 : Int32))] []))
                            refine own_go (fun _ k => XS.aloadN X0.here hx rfl (hb hby ds7_13) rfl rfl k) ?_
                            show own_Go p.tables e below _ (s₁.setTop (mkF m 14 #[.val (.ref ab), .val (.int p1), .val (.int (0 : Int32)), .val (.int (15 : Int32)), .val (.int (p1.toInt8.toInt32)), .val (.int (13 : Int32))] [(.ref ab)]))
                            refine own_go (fun _ k => XS.iload X0.here hx rfl (hb hby ds7_14) rfl k) ?_
                            show own_Go p.tables e below _ (s₁.setTop (mkF m 16 #[.val (.ref ab), .val (.int p1), .val (.int (0 : Int32)), .val (.int (15 : Int32)), .val (.int (p1.toInt8.toInt32)), .val (.int (13 : Int32))] [(.int (13 : Int32)), (.ref ab)]))
                            have vo14 := V_ab
                            obtain ⟨cl14, Ar14, Aq14, AS14, AN14, AH14, AG14⟩ := vo14
                            have hin14 : ¬ ((13 : Int32) < 0 ∨ cl14.slots.size ≤ ((13 : Int32)).toNatClampNeg) := inb_of AS14 ⟨by decide, by decide⟩
                            have hat14 : cl14.slots[((13 : Int32)).toNatClampNeg]? = some (.int (124 : Int32)) := Has.at AH14 hin14 rfl
                            refine own_go (fun _ k => X0.baloadBytes hx (j := (13 : Int32)) (v := (.int (124 : Int32))) (by rw [e0]; exact Ar14.1) (State.isArrayOf_alike hZ.alike Ar14.2.1) Ar14.2.2 hin14 hat14 (g := (mkF m 16 #[.val (.ref ab), .val (.int p1), .val (.int (0 : Int32)), .val (.int (15 : Int32)), .val (.int (p1.toInt8.toInt32)), .val (.int (13 : Int32))] [(.int (13 : Int32)), (.ref ab)])) rfl rfl (hb hby ds7_16) _ k) ?_
                            show own_Go p.tables e below _ (s₁.setTop (mkF m 17 #[.val (.ref ab), .val (.int p1), .val (.int (0 : Int32)), .val (.int (15 : Int32)), .val (.int (p1.toInt8.toInt32)), .val (.int (13 : Int32))] [(.int (124 : Int32))]))
                            refine own_go (fun _ k => XS.iload X0.here hx rfl (hb hby ds7_17) rfl k) ?_
                            show own_Go p.tables e below _ (s₁.setTop (mkF m 19 #[.val (.ref ab), .val (.int p1), .val (.int (0 : Int32)), .val (.int (15 : Int32)), .val (.int (p1.toInt8.toInt32)), .val (.int (13 : Int32))] [(.int (p1.toInt8.toInt32)), (.int (124 : Int32))]))
                            by_cases hc19_14 : (124 : Int32) = (p1.toInt8.toInt32)
                            · refine own_go (fun _ k => XS.icmpNo X0.here hx rfl (hb hby ds7_19) rfl (teq hc19_14).2 k) ?_
                              show own_Go p.tables e below _ (s₁.setTop (mkF m 22 #[.val (.ref ab), .val (.int p1), .val (.int (0 : Int32)), .val (.int (15 : Int32)), .val (.int (p1.toInt8.toInt32)), .val (.int (13 : Int32))] []))
                              refine own_go (fun _ k => XS.iload X0.here hx rfl (hb hby ds7_22) rfl k) ?_
                              show own_Go p.tables e below _ (s₁.setTop (mkF m 24 #[.val (.ref ab), .val (.int p1), .val (.int (0 : Int32)), .val (.int (15 : Int32)), .val (.int (p1.toInt8.toInt32)), .val (.int (13 : Int32))] [(.int (13 : Int32))]))
                              refine own_end X0 Bd.notSynchronized (v := some (.int (13 : Int32))) (fun h => by rw [Bd.returns] at h; cases h) (fun fs hr => own_retI X0 hx Bd.returns (hb hby ds7_24) hr) ?_ (by decide) (by decide)
                              exact ⟨by rw [own_fs7, if_neg hc19, if_neg hc19_2, if_neg hc19_3, if_neg hc19_4, if_neg hc19_5, if_neg hc19_6, if_neg hc19_7, if_neg hc19_8, if_neg hc19_9, if_neg hc19_10, if_neg hc19_11, if_neg hc19_12, if_neg hc19_13, if_pos hc19_14], N0, e0⟩
                            · refine own_go (fun _ k => XS.icmpYes X0.here hx rfl (pc0 := 19) (pc' := 25) rfl (hb hby ds7_19) rfl (feq hc19_14).2 (by decide) (by decide) k) ?_
                              show own_Go p.tables e below _ (s₁.setTop (mkF m 25 #[.val (.ref ab), .val (.int p1), .val (.int (0 : Int32)), .val (.int (15 : Int32)), .val (.int (p1.toInt8.toInt32)), .val (.int (13 : Int32))] []))
                              refine own_go (fun _ k => XS.iinc X0.here hx rfl (hb hby ds7_25) rfl (l' := #[.val (.ref ab), .val (.int p1), .val (.int (0 : Int32)), .val (.int (15 : Int32)), .val (.int (p1.toInt8.toInt32)), .val (.int (14 : Int32))]) rfl k) ?_
                              show own_Go p.tables e below _ (s₁.setTop (mkF m 28 #[.val (.ref ab), .val (.int p1), .val (.int (0 : Int32)), .val (.int (15 : Int32)), .val (.int (p1.toInt8.toInt32)), .val (.int (14 : Int32))] []))
                              refine own_go (fun _ k => XS.goto X0.here hx rfl (pc0 := 28) (pc' := 7) rfl (hb hby ds7_28) (by decide) (by decide) k) ?_
                              show own_Go p.tables e below _ (s₁.setTop (mkF m 7 #[.val (.ref ab), .val (.int p1), .val (.int (0 : Int32)), .val (.int (15 : Int32)), .val (.int (p1.toInt8.toInt32)), .val (.int (14 : Int32))] []))
                              refine own_go (fun _ k => XS.iload X0.here hx rfl (hb hby ds7_7) rfl k) ?_
                              show own_Go p.tables e below _ (s₁.setTop (mkF m 9 #[.val (.ref ab), .val (.int p1), .val (.int (0 : Int32)), .val (.int (15 : Int32)), .val (.int (p1.toInt8.toInt32)), .val (.int (14 : Int32))] [(.int (14 : Int32))]))
                              refine own_go (fun _ k => XS.iloadN X0.here hx rfl (hb hby ds7_9) rfl k) ?_
                              show own_Go p.tables e below _ (s₁.setTop (mkF m 10 #[.val (.ref ab), .val (.int p1), .val (.int (0 : Int32)), .val (.int (15 : Int32)), .val (.int (p1.toInt8.toInt32)), .val (.int (14 : Int32))] [(.int (15 : Int32)), (.int (14 : Int32))]))
                              have hf10 : (14 : Int32) < (15 : Int32) := by decide
                              refine own_go (fun _ k => XS.icmpNo X0.here hx rfl (hb hby ds7_10) rfl (tlt hf10).2.1 k) ?_
                              show own_Go p.tables e below _ (s₁.setTop (mkF m 13 #[.val (.ref ab), .val (.int p1), .val (.int (0 : Int32)), .val (.int (15 : Int32)), .val (.int (p1.toInt8.toInt32)), .val (.int (14 : Int32))] []))
                              refine own_go (fun _ k => XS.aloadN X0.here hx rfl (hb hby ds7_13) rfl rfl k) ?_
                              show own_Go p.tables e below _ (s₁.setTop (mkF m 14 #[.val (.ref ab), .val (.int p1), .val (.int (0 : Int32)), .val (.int (15 : Int32)), .val (.int (p1.toInt8.toInt32)), .val (.int (14 : Int32))] [(.ref ab)]))
                              refine own_go (fun _ k => XS.iload X0.here hx rfl (hb hby ds7_14) rfl k) ?_
                              show own_Go p.tables e below _ (s₁.setTop (mkF m 16 #[.val (.ref ab), .val (.int p1), .val (.int (0 : Int32)), .val (.int (15 : Int32)), .val (.int (p1.toInt8.toInt32)), .val (.int (14 : Int32))] [(.int (14 : Int32)), (.ref ab)]))
                              have vo15 := V_ab
                              obtain ⟨cl15, Ar15, Aq15, AS15, AN15, AH15, AG15⟩ := vo15
                              have hin15 : ¬ ((14 : Int32) < 0 ∨ cl15.slots.size ≤ ((14 : Int32)).toNatClampNeg) := inb_of AS15 ⟨by decide, by decide⟩
                              have hat15 : cl15.slots[((14 : Int32)).toNatClampNeg]? = some (.int (126 : Int32)) := Has.at AH15 hin15 rfl
                              refine own_go (fun _ k => X0.baloadBytes hx (j := (14 : Int32)) (v := (.int (126 : Int32))) (by rw [e0]; exact Ar15.1) (State.isArrayOf_alike hZ.alike Ar15.2.1) Ar15.2.2 hin15 hat15 (g := (mkF m 16 #[.val (.ref ab), .val (.int p1), .val (.int (0 : Int32)), .val (.int (15 : Int32)), .val (.int (p1.toInt8.toInt32)), .val (.int (14 : Int32))] [(.int (14 : Int32)), (.ref ab)])) rfl rfl (hb hby ds7_16) _ k) ?_
                              show own_Go p.tables e below _ (s₁.setTop (mkF m 17 #[.val (.ref ab), .val (.int p1), .val (.int (0 : Int32)), .val (.int (15 : Int32)), .val (.int (p1.toInt8.toInt32)), .val (.int (14 : Int32))] [(.int (126 : Int32))]))
                              refine own_go (fun _ k => XS.iload X0.here hx rfl (hb hby ds7_17) rfl k) ?_
                              show own_Go p.tables e below _ (s₁.setTop (mkF m 19 #[.val (.ref ab), .val (.int p1), .val (.int (0 : Int32)), .val (.int (15 : Int32)), .val (.int (p1.toInt8.toInt32)), .val (.int (14 : Int32))] [(.int (p1.toInt8.toInt32)), (.int (126 : Int32))]))
                              by_cases hc19_15 : (126 : Int32) = (p1.toInt8.toInt32)
                              · refine own_go (fun _ k => XS.icmpNo X0.here hx rfl (hb hby ds7_19) rfl (teq hc19_15).2 k) ?_
                                show own_Go p.tables e below _ (s₁.setTop (mkF m 22 #[.val (.ref ab), .val (.int p1), .val (.int (0 : Int32)), .val (.int (15 : Int32)), .val (.int (p1.toInt8.toInt32)), .val (.int (14 : Int32))] []))
                                refine own_go (fun _ k => XS.iload X0.here hx rfl (hb hby ds7_22) rfl k) ?_
                                show own_Go p.tables e below _ (s₁.setTop (mkF m 24 #[.val (.ref ab), .val (.int p1), .val (.int (0 : Int32)), .val (.int (15 : Int32)), .val (.int (p1.toInt8.toInt32)), .val (.int (14 : Int32))] [(.int (14 : Int32))]))
                                refine own_end X0 Bd.notSynchronized (v := some (.int (14 : Int32))) (fun h => by rw [Bd.returns] at h; cases h) (fun fs hr => own_retI X0 hx Bd.returns (hb hby ds7_24) hr) ?_ (by decide) (by decide)
                                exact ⟨by rw [own_fs7, if_neg hc19, if_neg hc19_2, if_neg hc19_3, if_neg hc19_4, if_neg hc19_5, if_neg hc19_6, if_neg hc19_7, if_neg hc19_8, if_neg hc19_9, if_neg hc19_10, if_neg hc19_11, if_neg hc19_12, if_neg hc19_13, if_neg hc19_14, if_pos hc19_15], N0, e0⟩
                              · refine own_go (fun _ k => XS.icmpYes X0.here hx rfl (pc0 := 19) (pc' := 25) rfl (hb hby ds7_19) rfl (feq hc19_15).2 (by decide) (by decide) k) ?_
                                show own_Go p.tables e below _ (s₁.setTop (mkF m 25 #[.val (.ref ab), .val (.int p1), .val (.int (0 : Int32)), .val (.int (15 : Int32)), .val (.int (p1.toInt8.toInt32)), .val (.int (14 : Int32))] []))
                                refine own_go (fun _ k => XS.iinc X0.here hx rfl (hb hby ds7_25) rfl (l' := #[.val (.ref ab), .val (.int p1), .val (.int (0 : Int32)), .val (.int (15 : Int32)), .val (.int (p1.toInt8.toInt32)), .val (.int (15 : Int32))]) rfl k) ?_
                                show own_Go p.tables e below _ (s₁.setTop (mkF m 28 #[.val (.ref ab), .val (.int p1), .val (.int (0 : Int32)), .val (.int (15 : Int32)), .val (.int (p1.toInt8.toInt32)), .val (.int (15 : Int32))] []))
                                refine own_go (fun _ k => XS.goto X0.here hx rfl (pc0 := 28) (pc' := 7) rfl (hb hby ds7_28) (by decide) (by decide) k) ?_
                                show own_Go p.tables e below _ (s₁.setTop (mkF m 7 #[.val (.ref ab), .val (.int p1), .val (.int (0 : Int32)), .val (.int (15 : Int32)), .val (.int (p1.toInt8.toInt32)), .val (.int (15 : Int32))] []))
                                refine own_go (fun _ k => XS.iload X0.here hx rfl (hb hby ds7_7) rfl k) ?_
                                show own_Go p.tables e below _ (s₁.setTop (mkF m 9 #[.val (.ref ab), .val (.int p1), .val (.int (0 : Int32)), .val (.int (15 : Int32)), .val (.int (p1.toInt8.toInt32)), .val (.int (15 : Int32))] [(.int (15 : Int32))]))
                                refine own_go (fun _ k => XS.iloadN X0.here hx rfl (hb hby ds7_9) rfl k) ?_
                                show own_Go p.tables e below _ (s₁.setTop (mkF m 10 #[.val (.ref ab), .val (.int p1), .val (.int (0 : Int32)), .val (.int (15 : Int32)), .val (.int (p1.toInt8.toInt32)), .val (.int (15 : Int32))] [(.int (15 : Int32)), (.int (15 : Int32))]))
                                have hf10 : ¬ ((15 : Int32) < (15 : Int32)) := by decide
                                refine own_go (fun _ k => XS.icmpYes X0.here hx rfl (pc0 := 10) (pc' := 31) rfl (hb hby ds7_10) rfl (flt hf10).2.1 (by decide) (by decide) k) ?_
                                show own_Go p.tables e below _ (s₁.setTop (mkF m 31 #[.val (.ref ab), .val (.int p1), .val (.int (0 : Int32)), .val (.int (15 : Int32)), .val (.int (p1.toInt8.toInt32)), .val (.int (15 : Int32))] []))
                                refine own_go (fun _ k => XS.iconst X0.here hx rfl (hb hby ds7_31) k) ?_
                                show own_Go p.tables e below _ (s₁.setTop (mkF m 32 #[.val (.ref ab), .val (.int p1), .val (.int (0 : Int32)), .val (.int (15 : Int32)), .val (.int (p1.toInt8.toInt32)), .val (.int (15 : Int32))] [(.int (-1 : Int32))]))
                                refine own_end X0 Bd.notSynchronized (v := some (.int (-1 : Int32))) (fun h => by rw [Bd.returns] at h; cases h) (fun fs hr => own_retI X0 hx Bd.returns (hb hby ds7_32) hr) ?_ (by decide) (by decide)
                                exact ⟨by rw [own_fs7, if_neg hc19, if_neg hc19_2, if_neg hc19_3, if_neg hc19_4, if_neg hc19_5, if_neg hc19_6, if_neg hc19_7, if_neg hc19_8, if_neg hc19_9, if_neg hc19_10, if_neg hc19_11, if_neg hc19_12, if_neg hc19_13, if_neg hc19_14, if_neg hc19_15], N0, e0⟩
def own_fs8 (p1 : Int32) : Int32 :=
  (if (own_fs4 p1) = (0 : Int32) then (-1 : Int32) else (own_fs7 p1))
theorem ds8_0 : decode jdk_43_method_22_code 0 = .ok (.iload_n 1, 1) := by decide +kernel
theorem ds8_1 : decode jdk_43_method_22_code 1 = .ok (.invokestatic 88, 3) := by decide +kernel
theorem ds8_4 : decode jdk_43_method_22_code 4 = .ok (.ifCond .ne 5, 3) := by decide +kernel
theorem ds8_7 : decode jdk_43_method_22_code 7 = .ok (.iconst (-1), 1) := by decide +kernel
theorem ds8_8 : decode jdk_43_method_22_code 8 = .ok (.ireturn, 1) := by decide +kernel
theorem ds8_9 : decode jdk_43_method_22_code 9 = .ok (.iload_n 2, 1) := by decide +kernel
theorem ds8_10 : decode jdk_43_method_22_code 10 = .ok (.iconst 0, 1) := by decide +kernel
theorem ds8_11 : decode jdk_43_method_22_code 11 = .ok (.invokestatic 92, 3) := by decide +kernel
theorem ds8_14 : decode jdk_43_method_22_code 14 = .ok (.istore_n 2, 1) := by decide +kernel
theorem ds8_15 : decode jdk_43_method_22_code 15 = .ok (.iload_n 3, 1) := by decide +kernel
theorem ds8_16 : decode jdk_43_method_22_code 16 = .ok (.aload_n 0, 1) := by decide +kernel
theorem ds8_17 : decode jdk_43_method_22_code 17 = .ok (.arraylength, 1) := by decide +kernel
theorem ds8_18 : decode jdk_43_method_22_code 18 = .ok (.invokestatic 38, 3) := by decide +kernel
theorem ds8_21 : decode jdk_43_method_22_code 21 = .ok (.istore_n 3, 1) := by decide +kernel
theorem ds8_22 : decode jdk_43_method_22_code 22 = .ok (.iload_n 2, 1) := by decide +kernel
theorem ds8_23 : decode jdk_43_method_22_code 23 = .ok (.iload_n 3, 1) := by decide +kernel
theorem ds8_24 : decode jdk_43_method_22_code 24 = .ok (.if_icmp .lt 5, 3) := by decide +kernel
theorem ds8_29 : decode jdk_43_method_22_code 29 = .ok (.aload_n 0, 1) := by decide +kernel
theorem ds8_30 : decode jdk_43_method_22_code 30 = .ok (.iload_n 1, 1) := by decide +kernel
theorem ds8_31 : decode jdk_43_method_22_code 31 = .ok (.iload_n 2, 1) := by decide +kernel
theorem ds8_32 : decode jdk_43_method_22_code 32 = .ok (.iload_n 3, 1) := by decide +kernel
theorem ds8_33 : decode jdk_43_method_22_code 33 = .ok (.invokestatic 95, 3) := by decide +kernel
theorem ds8_36 : decode jdk_43_method_22_code 36 = .ok (.ireturn, 1) := by decide +kernel
theorem pns8 : plainName "java/lang/StringLatin1" = true := by first | (simp [plainName, overriddenIn]; done) | decide +kernel
theorem pds8_0 : parseMethodDescriptor "(I)Z" = some ⟨[.int], some .boolean⟩ := by decide +kernel
theorem pds8_1 : parseMethodDescriptor "(II)I" = some ⟨[.int, .int], some .int⟩ := by decide +kernel
theorem pds8_2 : parseMethodDescriptor "([BIII)I" = some ⟨[(.array .byte), .int, .int, .int], some .int⟩ := by decide +kernel
theorem efs8 (m : MethodId) (ab : Addr) (p1 : Int32) : entryFrame m #[(.ref ab), (.int p1), (.int (0 : Int32)), (.int (15 : Int32))] 4 = mkF m 0 #[.val (.ref ab), .val (.int p1), .val (.int (0 : Int32)), .val (.int (15 : Int32))] [] := by first | (simp [entryFrame, mkF, argsToLocals, Value.category]; done) | rfl
def own_Qs8 (Z : State) (ab : Addr) (p1 : Int32) (ka : ClassId) (h0 : Heap) (n0 : Nat) (v : Option Value) (h : Heap) (L : List Loc) : Prop := v = some (.int (own_fs8 p1)) ∧ Fr n0 L ∧ h = h0
set_option maxRecDepth 65536 in
set_option maxHeartbeats 40000000 in
theorem rms8 (l : Launch) (Z : State) (az : Array Value) (hw : ∀ d ∈ tables_1, d.before az Z = true) (ws : List Jvm.Cond) (ab : Addr) (p1 : Int32) (ka : ClassId) (h0 : Heap) (n0 : Nat) (Z0 : n0 ≤ h0.size) (V_ab : Arv Z h0 ab ka .byte (15 : Int32) [(.int (33 : Int32)), (.int (35 : Int32)), (.int (36 : Int32)), (.int (37 : Int32)), (.int (38 : Int32)), (.int (39 : Int32)), (.int (42 : Int32)), (.int (43 : Int32)), (.int (45 : Int32)), (.int (46 : Int32)), (.int (94 : Int32)), (.int (95 : Int32)), (.int (96 : Int32)), (.int (124 : Int32)), (.int (126 : Int32))] (.int (0 : Int32))) :
    MetFree l (⟨"java/lang/StringLatin1", "indexOf", "([BIII)I"⟩ : MethodName) (head1 (Jvm.Cond.code (⟨"java/lang/StringLatin1", "indexOf", "([BIII)I"⟩ : MethodName) jdk_43_method_22_code 4 (some .int) :: ws) ({ frames := 1, cells := 0, slots := 0, locals := 17 } : Room)) (fun a U => a = #[(.ref ab), (.int p1), (.int (0 : Int32)), (.int (15 : Int32))] ∧ Z.Warmed39 U.vm ∧ U.heap = h0) (fun _ _ _ _ _ => True) (fun _ U o U' => ∃ v L, o = .returned v ∧ own_Qs8 Z ab p1 ka h0 n0 v U'.heap L ∧ FrameEnd U o U' L ({ frames := 1, cells := 0, slots := 0, locals := 17 } : Room).cells ({ frames := 1, cells := 0, slots := 0, locals := 17 } : Room).slots) := by
  refine MetFree.of_bodySF (plainFor_of_name pns8) hisR ?_
  intro p e s m args below meth c s₁ Bd hml0 hP hK
  obtain ⟨rfl, hZ, hh⟩ := hP
  have hx := Bd.exec
  have hby := Bd.bytes
  have hml : c.maxLocals = 4 := hml0
  have hown : s.vm.findClass "java/lang/StringLatin1" = some m.cls := findClass_of_methodNamed Bd.named
  have hnm := (name_of_methodNamed Bd.named Bd.method).1
  have X0 : Stand p l e ({ frames := 1, cells := 0, slots := 0, locals := 17 } : Room) s m #[(.ref ab), (.int p1), (.int (0 : Int32)), (.int (15 : Int32))] below meth c s₁ [] 0 0 := Stand.of_body Bd
  have e0 : s₁.heap = h0 := by rw [← hh, Bd.state]; rfl
  have N0 := Fr.nil n0
  show own_Go p.tables e below (fun o U' => ∃ v L, o = .returned v ∧ own_Qs8 Z ab p1 ka h0 n0 v U'.heap L ∧ FrameEnd s o U' L ({ frames := 1, cells := 0, slots := 0, locals := 17 } : Room).cells ({ frames := 1, cells := 0, slots := 0, locals := 17 } : Room).slots) (s₁.setTop (entryFrame m #[(.ref ab), (.int p1), (.int (0 : Int32)), (.int (15 : Int32))] 4))
  refine own_go (fun _ k => castTop (efs8 m ab p1) k) ?_
  show own_Go p.tables e below _ (s₁.setTop (mkF m 0 #[.val (.ref ab), .val (.int p1), .val (.int (0 : Int32)), .val (.int (15 : Int32))] []))
  refine own_go (fun _ k => XS.iloadN X0.here hx rfl (hb hby ds8_0) rfl k) ?_
  show own_Go p.tables e below _ (s₁.setTop (mkF m 1 #[.val (.ref ab), .val (.int p1), .val (.int (0 : Int32)), .val (.int (15 : Int32))] [(.int p1)]))
  obtain ⟨_, _, ⟨T1, L1, k1, n1⟩, -, X1, ⟨Lc1, hQ1, l1, y1, z1⟩, st1⟩ := Jvm.LawKit.callS X0 hx (y := (⟨"java/lang/StringLatin1", "canEncode", "(I)Z"⟩ : MethodName)) hown (mvT hZ (hw _ (List.mem_of_getElem? (i := 44) rfl))) (mvT hZ (hw _ (List.mem_of_getElem? (i := 45) rfl))) (mvT hZ (hw _ (List.mem_of_getElem? (i := 42) rfl))) (mvT hZ (hw _ (List.mem_of_getElem? (i := 46) rfl))) (by decide) (backOf (W := 0) (rms4 l Z az hw [] p1 h0 n0 Z0) hZ (hw _ (List.mem_of_getElem? (i := 46) rfl)) (hw _ (List.mem_of_getElem? (i := 42) rfl)) (by decide) (by decide)) (g := (mkF m 1 #[.val (.ref ab), .val (.int p1), .val (.int (0 : Int32)), .val (.int (15 : Int32))] [(.int p1)])) rfl (by rw [hml]; rfl) (argsL := [(.int p1)]) (rest := []) (lenOf pds8_0 rfl) rfl (by show 2 * 0 + _ ≤ _; exact Nat.le_of_eq rfl) (hb hby ds8_1) (fun _ _ => ⟨rfl, e0, (by decide : 0 + 0 ≤ _), (by decide : 0 + 0 ≤ _)⟩)
  dsimp only [Pt.U, Pt.locs, Pt.cells, Pt.slots] at X1 l1 y1 z1 st1 hQ1
  subst l1 y1 z1
  refine own_go st1 ?_
  obtain ⟨rfl, N1q, e1⟩ := hQ1
  have N1 := Fr.app N0 N1q
  show own_Go p.tables e below _ (T1.setTop (mkF m 4 #[.val (.ref ab), .val (.int p1), .val (.int (0 : Int32)), .val (.int (15 : Int32))] [(.int (own_fs4 p1))]))
  by_cases hc4 : (own_fs4 p1) = (0 : Int32)
  · refine own_go (fun _ k => XS.ifNo X1.here hx rfl (hb hby ds8_4) rfl ((if0 _ _).trans (teq hc4).2) k) ?_
    show own_Go p.tables e below _ (T1.setTop (mkF m 7 #[.val (.ref ab), .val (.int p1), .val (.int (0 : Int32)), .val (.int (15 : Int32))] []))
    refine own_go (fun _ k => XS.iconst X1.here hx rfl (hb hby ds8_7) k) ?_
    show own_Go p.tables e below _ (T1.setTop (mkF m 8 #[.val (.ref ab), .val (.int p1), .val (.int (0 : Int32)), .val (.int (15 : Int32))] [(.int (-1 : Int32))]))
    refine own_end X1 Bd.notSynchronized (v := some (.int (-1 : Int32))) (fun h => by rw [Bd.returns] at h; cases h) (fun fs hr => own_retI X1 hx Bd.returns (hb hby ds8_8) hr) ?_ (by decide) (by decide)
    exact ⟨by rw [own_fs8, if_pos hc4], N1, (e1 : T1.heap = h0)⟩
  · refine own_go (fun _ k => XS.ifYes X1.here hx rfl (pc0 := 4) (pc' := 9) rfl (hb hby ds8_4) rfl ((if0 _ _).trans (feq hc4).2) (by decide) (by decide) k) ?_
    show own_Go p.tables e below _ (T1.setTop (mkF m 9 #[.val (.ref ab), .val (.int p1), .val (.int (0 : Int32)), .val (.int (15 : Int32))] []))
    refine own_go (fun _ k => XS.iloadN X1.here hx rfl (hb hby ds8_9) rfl k) ?_
    show own_Go p.tables e below _ (T1.setTop (mkF m 10 #[.val (.ref ab), .val (.int p1), .val (.int (0 : Int32)), .val (.int (15 : Int32))] [(.int (0 : Int32))]))
    refine own_go (fun _ k => XS.iconst X1.here hx rfl (hb hby ds8_10) k) ?_
    show own_Go p.tables e below _ (T1.setTop (mkF m 11 #[.val (.ref ab), .val (.int p1), .val (.int (0 : Int32)), .val (.int (15 : Int32))] [(.int (0 : Int32)), (.int (0 : Int32))]))
    obtain ⟨_, _, ⟨T2, L2, k2, n2⟩, -, X2, ⟨Lc2, hQ2, l2, y2, z2⟩, st2⟩ := Jvm.LawKit.callS X1 hx (y := (⟨"java/lang/Math", "max", "(II)I"⟩ : MethodName)) hown (mvT hZ (hw _ (List.mem_of_getElem? (i := 47) rfl))) (mvT hZ (hw _ (List.mem_of_getElem? (i := 48) rfl))) (mvT hZ (hw _ (List.mem_of_getElem? (i := 49) rfl))) (mvT hZ (hw _ (List.mem_of_getElem? (i := 50) rfl))) (by decide) (backOf (W := 0) (rms5 l Z az hw []  h0 n0 Z0) hZ (hw _ (List.mem_of_getElem? (i := 50) rfl)) (hw _ (List.mem_of_getElem? (i := 49) rfl)) (by decide) (by decide)) (g := (mkF m 11 #[.val (.ref ab), .val (.int p1), .val (.int (0 : Int32)), .val (.int (15 : Int32))] [(.int (0 : Int32)), (.int (0 : Int32))])) rfl (by rw [hml]; rfl) (argsL := [(.int (0 : Int32)), (.int (0 : Int32))]) (rest := []) (lenOf pds8_1 rfl) rfl (by show 2 * 0 + _ ≤ _; exact Nat.le_of_eq rfl) (hb hby ds8_11) (fun _ _ => ⟨rfl, (e1 : T1.heap = h0), (by decide : 0 + 0 ≤ _), (by decide : 0 + 0 ≤ _)⟩)
    dsimp only [Pt.U, Pt.locs, Pt.cells, Pt.slots] at X2 l2 y2 z2 st2 hQ2
    subst l2 y2 z2
    refine own_go st2 ?_
    obtain ⟨rfl, N2q, e2⟩ := hQ2
    have N2 := Fr.app N1 N2q
    show own_Go p.tables e below _ (T2.setTop (mkF m 14 #[.val (.ref ab), .val (.int p1), .val (.int (0 : Int32)), .val (.int (15 : Int32))] [(.int (0 : Int32))]))
    refine own_go (fun _ k => XS.istoreN X2.here hx rfl (hb hby ds8_14) rfl (l' := #[.val (.ref ab), .val (.int p1), .val (.int (0 : Int32)), .val (.int (15 : Int32))]) rfl k) ?_
    show own_Go p.tables e below _ (T2.setTop (mkF m 15 #[.val (.ref ab), .val (.int p1), .val (.int (0 : Int32)), .val (.int (15 : Int32))] []))
    refine own_go (fun _ k => XS.iloadN X2.here hx rfl (hb hby ds8_15) rfl k) ?_
    show own_Go p.tables e below _ (T2.setTop (mkF m 16 #[.val (.ref ab), .val (.int p1), .val (.int (0 : Int32)), .val (.int (15 : Int32))] [(.int (15 : Int32))]))
    refine own_go (fun _ k => XS.aloadN X2.here hx rfl (hb hby ds8_16) rfl rfl k) ?_
    show own_Go p.tables e below _ (T2.setTop (mkF m 17 #[.val (.ref ab), .val (.int p1), .val (.int (0 : Int32)), .val (.int (15 : Int32))] [(.ref ab), (.int (15 : Int32))]))
    have vo3 := V_ab
    obtain ⟨cl3, Ar3, Aq3, AS3, AN3, AH3, AG3⟩ := vo3
    refine own_go (fun _ k => X2.arraylength hx (by rw [(e2 : T2.heap = h0)]; exact Ar3.1) (State.isArrayOf_alike hZ.alike Ar3.2.1) (g := (mkF m 17 #[.val (.ref ab), .val (.int p1), .val (.int (0 : Int32)), .val (.int (15 : Int32))] [(.ref ab), (.int (15 : Int32))])) rfl rfl (hb hby ds8_17) _ k) ?_
    rw [len_of AS3 AN3]
    show own_Go p.tables e below _ (T2.setTop (mkF m 18 #[.val (.ref ab), .val (.int p1), .val (.int (0 : Int32)), .val (.int (15 : Int32))] [(.int (15 : Int32)), (.int (15 : Int32))]))
    obtain ⟨_, _, ⟨T4, L4, k4, n4⟩, -, X4, ⟨Lc4, hQ4, l4, y4, z4⟩, st4⟩ := Jvm.LawKit.callS X2 hx (y := (⟨"java/lang/Math", "min", "(II)I"⟩ : MethodName)) hown (mvT hZ (hw _ (List.mem_of_getElem? (i := 51) rfl))) (mvT hZ (hw _ (List.mem_of_getElem? (i := 52) rfl))) (mvT hZ (hw _ (List.mem_of_getElem? (i := 49) rfl))) (mvT hZ (hw _ (List.mem_of_getElem? (i := 53) rfl))) (by decide) (backOf (W := 0) (rms6 l Z az hw []  h0 n0 Z0) hZ (hw _ (List.mem_of_getElem? (i := 53) rfl)) (hw _ (List.mem_of_getElem? (i := 49) rfl)) (by decide) (by decide)) (g := (mkF m 18 #[.val (.ref ab), .val (.int p1), .val (.int (0 : Int32)), .val (.int (15 : Int32))] [(.int (15 : Int32)), (.int (15 : Int32))])) rfl (by rw [hml]; rfl) (argsL := [(.int (15 : Int32)), (.int (15 : Int32))]) (rest := []) (lenOf pds8_1 rfl) rfl (by show 2 * 0 + _ ≤ _; exact Nat.le_of_eq rfl) (hb hby ds8_18) (fun _ _ => ⟨rfl, (e2 : T2.heap = h0), (by decide : 0 + 0 ≤ _), (by decide : 0 + 0 ≤ _)⟩)
    dsimp only [Pt.U, Pt.locs, Pt.cells, Pt.slots] at X4 l4 y4 z4 st4 hQ4
    subst l4 y4 z4
    refine own_go st4 ?_
    obtain ⟨rfl, N4q, e4⟩ := hQ4
    have N4 := Fr.app N2 N4q
    show own_Go p.tables e below _ (T4.setTop (mkF m 21 #[.val (.ref ab), .val (.int p1), .val (.int (0 : Int32)), .val (.int (15 : Int32))] [(.int (15 : Int32))]))
    refine own_go (fun _ k => XS.istoreN X4.here hx rfl (hb hby ds8_21) rfl (l' := #[.val (.ref ab), .val (.int p1), .val (.int (0 : Int32)), .val (.int (15 : Int32))]) rfl k) ?_
    show own_Go p.tables e below _ (T4.setTop (mkF m 22 #[.val (.ref ab), .val (.int p1), .val (.int (0 : Int32)), .val (.int (15 : Int32))] []))
    refine own_go (fun _ k => XS.iloadN X4.here hx rfl (hb hby ds8_22) rfl k) ?_
    show own_Go p.tables e below _ (T4.setTop (mkF m 23 #[.val (.ref ab), .val (.int p1), .val (.int (0 : Int32)), .val (.int (15 : Int32))] [(.int (0 : Int32))]))
    refine own_go (fun _ k => XS.iloadN X4.here hx rfl (hb hby ds8_23) rfl k) ?_
    show own_Go p.tables e below _ (T4.setTop (mkF m 24 #[.val (.ref ab), .val (.int p1), .val (.int (0 : Int32)), .val (.int (15 : Int32))] [(.int (15 : Int32)), (.int (0 : Int32))]))
    have hf24 : (0 : Int32) < (15 : Int32) := by decide
    refine own_go (fun _ k => XS.icmpYes X4.here hx rfl (pc0 := 24) (pc' := 29) rfl (hb hby ds8_24) rfl (tlt hf24).1 (by decide) (by decide) k) ?_
    show own_Go p.tables e below _ (T4.setTop (mkF m 29 #[.val (.ref ab), .val (.int p1), .val (.int (0 : Int32)), .val (.int (15 : Int32))] []))
    refine own_go (fun _ k => XS.aloadN X4.here hx rfl (hb hby ds8_29) rfl rfl k) ?_
    show own_Go p.tables e below _ (T4.setTop (mkF m 30 #[.val (.ref ab), .val (.int p1), .val (.int (0 : Int32)), .val (.int (15 : Int32))] [(.ref ab)]))
    refine own_go (fun _ k => XS.iloadN X4.here hx rfl (hb hby ds8_30) rfl k) ?_
    show own_Go p.tables e below _ (T4.setTop (mkF m 31 #[.val (.ref ab), .val (.int p1), .val (.int (0 : Int32)), .val (.int (15 : Int32))] [(.int p1), (.ref ab)]))
    refine own_go (fun _ k => XS.iloadN X4.here hx rfl (hb hby ds8_31) rfl k) ?_
    show own_Go p.tables e below _ (T4.setTop (mkF m 32 #[.val (.ref ab), .val (.int p1), .val (.int (0 : Int32)), .val (.int (15 : Int32))] [(.int (0 : Int32)), (.int p1), (.ref ab)]))
    refine own_go (fun _ k => XS.iloadN X4.here hx rfl (hb hby ds8_32) rfl k) ?_
    show own_Go p.tables e below _ (T4.setTop (mkF m 33 #[.val (.ref ab), .val (.int p1), .val (.int (0 : Int32)), .val (.int (15 : Int32))] [(.int (15 : Int32)), (.int (0 : Int32)), (.int p1), (.ref ab)]))
    obtain ⟨_, _, ⟨T5, L5, k5, n5⟩, -, X5, ⟨Lc5, hQ5, l5, y5, z5⟩, st5⟩ := Jvm.LawKit.callS X4 hx (y := (⟨"java/lang/StringLatin1", "indexOfChar", "([BIII)I"⟩ : MethodName)) hown (mvT hZ (hw _ (List.mem_of_getElem? (i := 54) rfl))) (mvT hZ (hw _ (List.mem_of_getElem? (i := 55) rfl))) (mvT hZ (hw _ (List.mem_of_getElem? (i := 42) rfl))) (mvT hZ (hw _ (List.mem_of_getElem? (i := 56) rfl))) (by decide) (backOf (W := 0) (rms7 l Z az hw [] ab p1 ka h0 n0 Z0 V_ab) hZ (hw _ (List.mem_of_getElem? (i := 56) rfl)) (hw _ (List.mem_of_getElem? (i := 42) rfl)) (by decide) (by decide)) (g := (mkF m 33 #[.val (.ref ab), .val (.int p1), .val (.int (0 : Int32)), .val (.int (15 : Int32))] [(.int (15 : Int32)), (.int (0 : Int32)), (.int p1), (.ref ab)])) rfl (by rw [hml]; rfl) (argsL := [(.ref ab), (.int p1), (.int (0 : Int32)), (.int (15 : Int32))]) (rest := []) (lenOf pds8_2 rfl) rfl (by show 2 * 0 + _ ≤ _; exact Nat.le_of_eq rfl) (hb hby ds8_33) (fun _ _ => ⟨rfl, (e4 : T4.heap = h0), (by decide : 0 + 0 ≤ _), (by decide : 0 + 0 ≤ _)⟩)
    dsimp only [Pt.U, Pt.locs, Pt.cells, Pt.slots] at X5 l5 y5 z5 st5 hQ5
    subst l5 y5 z5
    refine own_go st5 ?_
    obtain ⟨rfl, N5q, e5⟩ := hQ5
    have N5 := Fr.app N4 N5q
    show own_Go p.tables e below _ (T5.setTop (mkF m 36 #[.val (.ref ab), .val (.int p1), .val (.int (0 : Int32)), .val (.int (15 : Int32))] [(.int (own_fs7 p1))]))
    refine own_end X5 Bd.notSynchronized (v := some (.int (own_fs7 p1))) (fun h => by rw [Bd.returns] at h; cases h) (fun fs hr => own_retI X5 hx Bd.returns (hb hby ds8_36) hr) ?_ (by decide) (by decide)
    exact ⟨by rw [own_fs8, if_neg hc4], N5, (e5 : T5.heap = h0)⟩
def own_fs9 (p1 : Int32) : Int32 :=
  (own_fs8 p1)
theorem ds9_0 : decode jdk_42_method_80_code 0 = .ok (.aload_n 0, 1) := by decide +kernel
theorem ds9_1 : decode jdk_42_method_80_code 1 = .ok (.invokevirtual 492, 3) := by decide +kernel
theorem ds9_4 : decode jdk_42_method_80_code 4 = .ok (.ifCond .eq 19, 3) := by decide +kernel
theorem ds9_7 : decode jdk_42_method_80_code 7 = .ok (.aload_n 0, 1) := by decide +kernel
theorem ds9_8 : decode jdk_42_method_80_code 8 = .ok (.getfield 9, 3) := by decide +kernel
theorem ds9_11 : decode jdk_42_method_80_code 11 = .ok (.iload_n 1, 1) := by decide +kernel
theorem ds9_12 : decode jdk_42_method_80_code 12 = .ok (.iload_n 2, 1) := by decide +kernel
theorem ds9_13 : decode jdk_42_method_80_code 13 = .ok (.aload_n 0, 1) := by decide +kernel
theorem ds9_14 : decode jdk_42_method_80_code 14 = .ok (.invokevirtual 505, 3) := by decide +kernel
theorem ds9_17 : decode jdk_42_method_80_code 17 = .ok (.invokestatic 637, 3) := by decide +kernel
theorem ds9_20 : decode jdk_42_method_80_code 20 = .ok (.goto 16, 3) := by decide +kernel
theorem ds9_36 : decode jdk_42_method_80_code 36 = .ok (.ireturn, 1) := by decide +kernel
theorem pns9 : plainName "java/lang/String" = true := by first | (simp [plainName, overriddenIn]; done) | decide +kernel
theorem pds9_0 : parseMethodDescriptor "()Z" = some ⟨[], some .boolean⟩ := by decide +kernel
theorem pds9_1 : parseMethodDescriptor "()I" = some ⟨[], some .int⟩ := by decide +kernel
theorem pds9_2 : parseMethodDescriptor "([BIII)I" = some ⟨[(.array .byte), .int, .int, .int], some .int⟩ := by decide +kernel
theorem efs9 (m : MethodId) (a0 : Addr) (p1 : Int32) : entryFrame m #[(.ref a0), (.int p1), (.int (0 : Int32))] 3 = mkF m 0 #[.val (.ref a0), .val (.int p1), .val (.int (0 : Int32))] [] := by first | (simp [entryFrame, mkF, argsToLocals, Value.category]; done) | rfl
def own_Qs9 (Z : State) (a0 : Addr) (p1 : Int32) (ab : Addr) (ka : ClassId) (wc : Int32) (h0 : Heap) (n0 : Nat) (v : Option Value) (h : Heap) (L : List Loc) : Prop := v = some (.int (own_fs9 p1)) ∧ Fr n0 L ∧ h = h0
set_option maxRecDepth 65536 in
set_option maxHeartbeats 40000000 in
theorem rms9 (l : Launch) (Z : State) (az : Array Value) (hw : ∀ d ∈ tables_1, d.before az Z = true) (ws : List Jvm.Cond) (a0 : Addr) (p1 : Int32) (ab : Addr) (ka : ClassId) (wc : Int32) (h0 : Heap) (n0 : Nat) (Z0 : n0 ≤ h0.size) (F_a0_coder : Fld Z h0 a0 "java/lang/String" "coder" "B" (.int (0 : Int32))) (F_a0_value : Fld Z h0 a0 "java/lang/String" "value" "[B" (.ref ab)) (E_a0 : Exa Z h0 a0 "java/lang/String") (V_ab : Arv Z h0 ab ka .byte (15 : Int32) [(.int (33 : Int32)), (.int (35 : Int32)), (.int (36 : Int32)), (.int (37 : Int32)), (.int (38 : Int32)), (.int (39 : Int32)), (.int (42 : Int32)), (.int (43 : Int32)), (.int (45 : Int32)), (.int (46 : Int32)), (.int (94 : Int32)), (.int (95 : Int32)), (.int (96 : Int32)), (.int (124 : Int32)), (.int (126 : Int32))] (.int (0 : Int32))) (S_COMPACT_STRINGS : Sta Z h0 "java/lang/String" "COMPACT_STRINGS" "Z" (.int wc)) (hwc : ¬ (wc = (0 : Int32))) :
    MetFree l (⟨"java/lang/String", "indexOf", "(II)I"⟩ : MethodName) (head1 (Jvm.Cond.code (⟨"java/lang/String", "indexOf", "(II)I"⟩ : MethodName) jdk_42_method_80_code 3 (some .int) :: ws) ({ frames := 2, cells := 0, slots := 0, locals := 32 } : Room)) (fun a U => a = #[(.ref a0), (.int p1), (.int (0 : Int32))] ∧ Z.Warmed39 U.vm ∧ U.heap = h0) (fun _ _ _ _ _ => True) (fun _ U o U' => ∃ v L, o = .returned v ∧ own_Qs9 Z a0 p1 ab ka wc h0 n0 v U'.heap L ∧ FrameEnd U o U' L ({ frames := 2, cells := 0, slots := 0, locals := 32 } : Room).cells ({ frames := 2, cells := 0, slots := 0, locals := 32 } : Room).slots) := by
  refine MetFree.of_bodySF (plainFor_of_name pns9) hisR ?_
  intro p e s m args below meth c s₁ Bd hml0 hP hK
  obtain ⟨rfl, hZ, hh⟩ := hP
  have hx := Bd.exec
  have hby := Bd.bytes
  have hml : c.maxLocals = 3 := hml0
  have hown : s.vm.findClass "java/lang/String" = some m.cls := findClass_of_methodNamed Bd.named
  have hnm := (name_of_methodNamed Bd.named Bd.method).1
  have X0 : Stand p l e ({ frames := 2, cells := 0, slots := 0, locals := 32 } : Room) s m #[(.ref a0), (.int p1), (.int (0 : Int32))] below meth c s₁ [] 0 0 := Stand.of_body Bd
  have e0 : s₁.heap = h0 := by rw [← hh, Bd.state]; rfl
  have N0 := Fr.nil n0
  show own_Go p.tables e below (fun o U' => ∃ v L, o = .returned v ∧ own_Qs9 Z a0 p1 ab ka wc h0 n0 v U'.heap L ∧ FrameEnd s o U' L ({ frames := 2, cells := 0, slots := 0, locals := 32 } : Room).cells ({ frames := 2, cells := 0, slots := 0, locals := 32 } : Room).slots) (s₁.setTop (entryFrame m #[(.ref a0), (.int p1), (.int (0 : Int32))] 3))
  refine own_go (fun _ k => castTop (efs9 m a0 p1) k) ?_
  show own_Go p.tables e below _ (s₁.setTop (mkF m 0 #[.val (.ref a0), .val (.int p1), .val (.int (0 : Int32))] []))
  refine own_go (fun _ k => XS.aloadN X0.here hx rfl (hb hby ds9_0) rfl rfl k) ?_
  show own_Go p.tables e below _ (s₁.setTop (mkF m 1 #[.val (.ref a0), .val (.int p1), .val (.int (0 : Int32))] [(.ref a0)]))
  obtain ⟨cq1, kq1, q1a, q1b, q1c⟩ := isOf hZ e0 E_a0
  obtain ⟨_, _, ⟨T1, L1, k1, n1⟩, -, X1, ⟨Lc1, hQ1, l1, y1, z1⟩, st1⟩ := X0.virtualBack hx (y := (⟨"java/lang/String", "isLatin1", "()Z"⟩ : MethodName)) (z := (⟨"java/lang/String", "isLatin1", "()Z"⟩ : MethodName)) hown (mvT hZ (hw _ (List.mem_of_getElem? (i := 22) rfl))) (mvT hZ (hw _ (List.mem_of_getElem? (i := 23) rfl))) (notFace_of_selects (args := #[]) (mvT hZ (hw _ (List.mem_of_getElem? (i := 25) rfl)))) (mvT hZ (hw _ (List.mem_of_getElem? (i := 25) rfl))) (mvT hZ (hw _ (List.mem_of_getElem? (i := 24) rfl))) (by decide) (backOf (W := 0) (rms1 l Z az hw [] a0 ab ka wc h0 n0 Z0 F_a0_coder F_a0_value E_a0 V_ab S_COMPACT_STRINGS hwc) hZ (hw _ (List.mem_of_getElem? (i := 26) rfl)) (hw _ (List.mem_of_getElem? (i := 5) rfl)) (by decide) (by decide)) q1a q1c (g := (mkF m 1 #[.val (.ref a0), .val (.int p1), .val (.int (0 : Int32))] [(.ref a0)])) rfl (by rw [hml]; rfl) (Steps.refl _) (argsL := []) (rest := []) (lenOf pds9_0 rfl) rfl (by show 2 * 0 + _ ≤ _; exact Nat.le_of_eq rfl) (hb hby ds9_1) (fun _ _ => ⟨rfl, e0, (by decide : 0 + 0 ≤ _), (by decide : 0 + 0 ≤ _)⟩)
  dsimp only [Pt.U, Pt.locs, Pt.cells, Pt.slots] at X1 l1 y1 z1 st1 hQ1
  subst l1 y1 z1
  refine own_go (fun _ k => st1.trans k) ?_
  obtain ⟨rfl, N1q, e1⟩ := hQ1
  have N1 := Fr.app N0 N1q
  show own_Go p.tables e below _ (T1.setTop (mkF m 4 #[.val (.ref a0), .val (.int p1), .val (.int (0 : Int32))] [(.int (1 : Int32))]))
  have hf4 : ¬ ((1 : Int32) = (0 : Int32)) := by decide
  refine own_go (fun _ k => XS.ifNo X1.here hx rfl (hb hby ds9_4) rfl ((if0 _ _).trans (feq hf4).1) k) ?_
  show own_Go p.tables e below _ (T1.setTop (mkF m 7 #[.val (.ref a0), .val (.int p1), .val (.int (0 : Int32))] []))
  refine own_go (fun _ k => XS.aloadN X1.here hx rfl (hb hby ds9_7) rfl rfl k) ?_
  show own_Go p.tables e below _ (T1.setTop (mkF m 8 #[.val (.ref a0), .val (.int p1), .val (.int (0 : Int32))] [(.ref a0)]))
  obtain ⟨T2, X2, e2, st2⟩ := getF X1 hx hZ hown (host := "") (Or.inl (hw _ (List.mem_of_getElem? (i := 29) rfl))) Via.refl (e1 : T1.heap = h0) F_a0_value (g := (mkF m 8 #[.val (.ref a0), .val (.int p1), .val (.int (0 : Int32))] [(.ref a0)])) rfl rfl (hb hby ds9_8)
  refine own_go st2 ?_
  show own_Go p.tables e below _ (T2.setTop (mkF m 11 #[.val (.ref a0), .val (.int p1), .val (.int (0 : Int32))] [(.ref ab)]))
  refine own_go (fun _ k => XS.iloadN X2.here hx rfl (hb hby ds9_11) rfl k) ?_
  show own_Go p.tables e below _ (T2.setTop (mkF m 12 #[.val (.ref a0), .val (.int p1), .val (.int (0 : Int32))] [(.int p1), (.ref ab)]))
  refine own_go (fun _ k => XS.iloadN X2.here hx rfl (hb hby ds9_12) rfl k) ?_
  show own_Go p.tables e below _ (T2.setTop (mkF m 13 #[.val (.ref a0), .val (.int p1), .val (.int (0 : Int32))] [(.int (0 : Int32)), (.int p1), (.ref ab)]))
  refine own_go (fun _ k => XS.aloadN X2.here hx rfl (hb hby ds9_13) rfl rfl k) ?_
  show own_Go p.tables e below _ (T2.setTop (mkF m 14 #[.val (.ref a0), .val (.int p1), .val (.int (0 : Int32))] [(.ref a0), (.int (0 : Int32)), (.int p1), (.ref ab)]))
  obtain ⟨cq3, kq3, q3a, q3b, q3c⟩ := isOf hZ e2 E_a0
  obtain ⟨_, _, ⟨T3, L3, k3, n3⟩, -, X3, ⟨Lc3, hQ3, l3, y3, z3⟩, st3⟩ := X2.virtualBack hx (y := (⟨"java/lang/String", "length", "()I"⟩ : MethodName)) (z := (⟨"java/lang/String", "length", "()I"⟩ : MethodName)) hown (mvT hZ (hw _ (List.mem_of_getElem? (i := 30) rfl))) (mvT hZ (hw _ (List.mem_of_getElem? (i := 31) rfl))) (notFace_of_selects (args := #[]) (mvT hZ (hw _ (List.mem_of_getElem? (i := 33) rfl)))) (mvT hZ (hw _ (List.mem_of_getElem? (i := 33) rfl))) (mvT hZ (hw _ (List.mem_of_getElem? (i := 32) rfl))) (by decide) (backOf (W := 3) (rms3 l Z az hw [] a0 ab ka wc h0 n0 Z0 F_a0_coder F_a0_value E_a0 V_ab S_COMPACT_STRINGS hwc) hZ (hw _ (List.mem_of_getElem? (i := 34) rfl)) (hw _ (List.mem_of_getElem? (i := 5) rfl)) (by decide) (by decide)) q3a q3c (g := (mkF m 14 #[.val (.ref a0), .val (.int p1), .val (.int (0 : Int32))] [(.ref a0), (.int (0 : Int32)), (.int p1), (.ref ab)])) rfl (by rw [hml]; rfl) (Steps.refl _) (argsL := []) (rest := [(.int (0 : Int32)), (.int p1), (.ref ab)]) (lenOf pds9_1 rfl) rfl (by show 2 * 0 + _ ≤ _; exact Nat.le_of_eq rfl) (hb hby ds9_14) (fun _ _ => ⟨rfl, e2, (by decide : 0 + 0 ≤ _), (by decide : 0 + 0 ≤ _)⟩)
  dsimp only [Pt.U, Pt.locs, Pt.cells, Pt.slots] at X3 l3 y3 z3 st3 hQ3
  subst l3 y3 z3
  refine own_go (fun _ k => st3.trans k) ?_
  obtain ⟨rfl, N3q, e3⟩ := hQ3
  have N3 := Fr.app N1 N3q
  show own_Go p.tables e below _ (T3.setTop (mkF m 17 #[.val (.ref a0), .val (.int p1), .val (.int (0 : Int32))] [(.int (15 : Int32)), (.int (0 : Int32)), (.int p1), (.ref ab)]))
  obtain ⟨_, _, ⟨T4, L4, k4, n4⟩, -, X4, ⟨Lc4, hQ4, l4, y4, z4⟩, st4⟩ := Jvm.LawKit.callS X3 hx (y := (⟨"java/lang/StringLatin1", "indexOf", "([BIII)I"⟩ : MethodName)) hown (mvT hZ (hw _ (List.mem_of_getElem? (i := 40) rfl))) (mvT hZ (hw _ (List.mem_of_getElem? (i := 41) rfl))) (mvT hZ (hw _ (List.mem_of_getElem? (i := 42) rfl))) (mvT hZ (hw _ (List.mem_of_getElem? (i := 43) rfl))) (by decide) (backOf (W := 0) (rms8 l Z az hw [] ab p1 ka h0 n0 Z0 V_ab) hZ (hw _ (List.mem_of_getElem? (i := 43) rfl)) (hw _ (List.mem_of_getElem? (i := 42) rfl)) (by decide) (by decide)) (g := (mkF m 17 #[.val (.ref a0), .val (.int p1), .val (.int (0 : Int32))] [(.int (15 : Int32)), (.int (0 : Int32)), (.int p1), (.ref ab)])) rfl (by rw [hml]; rfl) (argsL := [(.ref ab), (.int p1), (.int (0 : Int32)), (.int (15 : Int32))]) (rest := []) (lenOf pds9_2 rfl) rfl (by show 2 * 0 + _ ≤ _; exact Nat.le_of_eq rfl) (hb hby ds9_17) (fun _ _ => ⟨rfl, (e3 : T3.heap = h0), (by decide : 0 + 0 ≤ _), (by decide : 0 + 0 ≤ _)⟩)
  dsimp only [Pt.U, Pt.locs, Pt.cells, Pt.slots] at X4 l4 y4 z4 st4 hQ4
  subst l4 y4 z4
  refine own_go st4 ?_
  obtain ⟨rfl, N4q, e4⟩ := hQ4
  have N4 := Fr.app N3 N4q
  show own_Go p.tables e below _ (T4.setTop (mkF m 20 #[.val (.ref a0), .val (.int p1), .val (.int (0 : Int32))] [(.int (own_fs8 p1))]))
  refine own_go (fun _ k => XS.goto X4.here hx rfl (pc0 := 20) (pc' := 36) rfl (hb hby ds9_20) (by decide) (by decide) k) ?_
  show own_Go p.tables e below _ (T4.setTop (mkF m 36 #[.val (.ref a0), .val (.int p1), .val (.int (0 : Int32))] [(.int (own_fs8 p1))]))
  refine own_end X4 Bd.notSynchronized (v := some (.int (own_fs8 p1))) (fun h => by rw [Bd.returns] at h; cases h) (fun fs hr => own_retI X4 hx Bd.returns (hb hby ds9_36) hr) ?_ (by decide) (by decide)
  exact ⟨by rw [own_fs9], N4, (e4 : T4.heap = h0)⟩
def own_fs10 (p1 : Int32) : Int32 :=
  (own_fs9 p1)
theorem ds10_0 : decode jdk_42_method_79_code 0 = .ok (.aload_n 0, 1) := by decide +kernel
theorem ds10_1 : decode jdk_42_method_79_code 1 = .ok (.iload_n 1, 1) := by decide +kernel
theorem ds10_2 : decode jdk_42_method_79_code 2 = .ok (.iconst 0, 1) := by decide +kernel
theorem ds10_3 : decode jdk_42_method_79_code 3 = .ok (.invokevirtual 633, 3) := by decide +kernel
theorem ds10_6 : decode jdk_42_method_79_code 6 = .ok (.ireturn, 1) := by decide +kernel
theorem pns10 : plainName "java/lang/String" = true := by first | (simp [plainName, overriddenIn]; done) | decide +kernel
theorem pds10_0 : parseMethodDescriptor "(II)I" = some ⟨[.int, .int], some .int⟩ := by decide +kernel
theorem efs10 (m : MethodId) (a0 : Addr) (p1 : Int32) : entryFrame m #[(.ref a0), (.int p1)] 2 = mkF m 0 #[.val (.ref a0), .val (.int p1)] [] := by first | (simp [entryFrame, mkF, argsToLocals, Value.category]; done) | rfl
def own_Qs10 (Z : State) (a0 : Addr) (p1 : Int32) (ab : Addr) (ka : ClassId) (wc : Int32) (h0 : Heap) (n0 : Nat) (v : Option Value) (h : Heap) (L : List Loc) : Prop := v = some (.int (own_fs10 p1)) ∧ Fr n0 L ∧ h = h0
set_option maxRecDepth 65536 in
set_option maxHeartbeats 40000000 in
theorem rms10 (l : Launch) (Z : State) (az : Array Value) (hw : ∀ d ∈ tables_1, d.before az Z = true) (ws : List Jvm.Cond) (a0 : Addr) (p1 : Int32) (ab : Addr) (ka : ClassId) (wc : Int32) (h0 : Heap) (n0 : Nat) (Z0 : n0 ≤ h0.size) (F_a0_coder : Fld Z h0 a0 "java/lang/String" "coder" "B" (.int (0 : Int32))) (F_a0_value : Fld Z h0 a0 "java/lang/String" "value" "[B" (.ref ab)) (E_a0 : Exa Z h0 a0 "java/lang/String") (V_ab : Arv Z h0 ab ka .byte (15 : Int32) [(.int (33 : Int32)), (.int (35 : Int32)), (.int (36 : Int32)), (.int (37 : Int32)), (.int (38 : Int32)), (.int (39 : Int32)), (.int (42 : Int32)), (.int (43 : Int32)), (.int (45 : Int32)), (.int (46 : Int32)), (.int (94 : Int32)), (.int (95 : Int32)), (.int (96 : Int32)), (.int (124 : Int32)), (.int (126 : Int32))] (.int (0 : Int32))) (S_COMPACT_STRINGS : Sta Z h0 "java/lang/String" "COMPACT_STRINGS" "Z" (.int wc)) (hwc : ¬ (wc = (0 : Int32))) :
    MetFree l (⟨"java/lang/String", "indexOf", "(I)I"⟩ : MethodName) (head1 (Jvm.Cond.code (⟨"java/lang/String", "indexOf", "(I)I"⟩ : MethodName) jdk_42_method_79_code 2 (some .int) :: ws) ({ frames := 3, cells := 0, slots := 0, locals := 46 } : Room)) (fun a U => a = #[(.ref a0), (.int p1)] ∧ Z.Warmed39 U.vm ∧ U.heap = h0) (fun _ _ _ _ _ => True) (fun _ U o U' => ∃ v L, o = .returned v ∧ own_Qs10 Z a0 p1 ab ka wc h0 n0 v U'.heap L ∧ FrameEnd U o U' L ({ frames := 3, cells := 0, slots := 0, locals := 46 } : Room).cells ({ frames := 3, cells := 0, slots := 0, locals := 46 } : Room).slots) := by
  refine MetFree.of_bodySF (plainFor_of_name pns10) hisR ?_
  intro p e s m args below meth c s₁ Bd hml0 hP hK
  obtain ⟨rfl, hZ, hh⟩ := hP
  have hx := Bd.exec
  have hby := Bd.bytes
  have hml : c.maxLocals = 2 := hml0
  have hown : s.vm.findClass "java/lang/String" = some m.cls := findClass_of_methodNamed Bd.named
  have hnm := (name_of_methodNamed Bd.named Bd.method).1
  have X0 : Stand p l e ({ frames := 3, cells := 0, slots := 0, locals := 46 } : Room) s m #[(.ref a0), (.int p1)] below meth c s₁ [] 0 0 := Stand.of_body Bd
  have e0 : s₁.heap = h0 := by rw [← hh, Bd.state]; rfl
  have N0 := Fr.nil n0
  show own_Go p.tables e below (fun o U' => ∃ v L, o = .returned v ∧ own_Qs10 Z a0 p1 ab ka wc h0 n0 v U'.heap L ∧ FrameEnd s o U' L ({ frames := 3, cells := 0, slots := 0, locals := 46 } : Room).cells ({ frames := 3, cells := 0, slots := 0, locals := 46 } : Room).slots) (s₁.setTop (entryFrame m #[(.ref a0), (.int p1)] 2))
  refine own_go (fun _ k => castTop (efs10 m a0 p1) k) ?_
  show own_Go p.tables e below _ (s₁.setTop (mkF m 0 #[.val (.ref a0), .val (.int p1)] []))
  refine own_go (fun _ k => XS.aloadN X0.here hx rfl (hb hby ds10_0) rfl rfl k) ?_
  show own_Go p.tables e below _ (s₁.setTop (mkF m 1 #[.val (.ref a0), .val (.int p1)] [(.ref a0)]))
  refine own_go (fun _ k => XS.iloadN X0.here hx rfl (hb hby ds10_1) rfl k) ?_
  show own_Go p.tables e below _ (s₁.setTop (mkF m 2 #[.val (.ref a0), .val (.int p1)] [(.int p1), (.ref a0)]))
  refine own_go (fun _ k => XS.iconst X0.here hx rfl (hb hby ds10_2) k) ?_
  show own_Go p.tables e below _ (s₁.setTop (mkF m 3 #[.val (.ref a0), .val (.int p1)] [(.int (0 : Int32)), (.int p1), (.ref a0)]))
  obtain ⟨cq1, kq1, q1a, q1b, q1c⟩ := isOf hZ e0 E_a0
  obtain ⟨_, _, ⟨T1, L1, k1, n1⟩, -, X1, ⟨Lc1, hQ1, l1, y1, z1⟩, st1⟩ := X0.virtualBack hx (y := (⟨"java/lang/String", "indexOf", "(II)I"⟩ : MethodName)) (z := (⟨"java/lang/String", "indexOf", "(II)I"⟩ : MethodName)) hown (mvT hZ (hw _ (List.mem_of_getElem? (i := 17) rfl))) (mvT hZ (hw _ (List.mem_of_getElem? (i := 18) rfl))) (notFace_of_selects (args := #[]) (mvT hZ (hw _ (List.mem_of_getElem? (i := 20) rfl)))) (mvT hZ (hw _ (List.mem_of_getElem? (i := 20) rfl))) (mvT hZ (hw _ (List.mem_of_getElem? (i := 19) rfl))) (by decide) (backOf (W := 0) (rms9 l Z az hw [] a0 p1 ab ka wc h0 n0 Z0 F_a0_coder F_a0_value E_a0 V_ab S_COMPACT_STRINGS hwc) hZ (hw _ (List.mem_of_getElem? (i := 21) rfl)) (hw _ (List.mem_of_getElem? (i := 5) rfl)) (by decide) (by decide)) q1a q1c (g := (mkF m 3 #[.val (.ref a0), .val (.int p1)] [(.int (0 : Int32)), (.int p1), (.ref a0)])) rfl (by rw [hml]; rfl) (Steps.refl _) (argsL := [(.int p1), (.int (0 : Int32))]) (rest := []) (lenOf pds10_0 rfl) rfl (by show 2 * 0 + _ ≤ _; exact Nat.le_of_eq rfl) (hb hby ds10_3) (fun _ _ => ⟨rfl, e0, (by decide : 0 + 0 ≤ _), (by decide : 0 + 0 ≤ _)⟩)
  dsimp only [Pt.U, Pt.locs, Pt.cells, Pt.slots] at X1 l1 y1 z1 st1 hQ1
  subst l1 y1 z1
  refine own_go (fun _ k => st1.trans k) ?_
  obtain ⟨rfl, N1q, e1⟩ := hQ1
  have N1 := Fr.app N0 N1q
  show own_Go p.tables e below _ (T1.setTop (mkF m 6 #[.val (.ref a0), .val (.int p1)] [(.int (own_fs9 p1))]))
  refine own_end X1 Bd.notSynchronized (v := some (.int (own_fs9 p1))) (fun h => by rw [Bd.returns] at h; cases h) (fun fs hr => own_retI X1 hx Bd.returns (hb hby ds10_6) hr) ?_ (by decide) (by decide)
  exact ⟨by rw [own_fs10], N1, (e1 : T1.heap = h0)⟩
def own_f1 (p0 : Int32) : Int32 :=
  (if p0 < (97 : Int32) then (if p0 < (65 : Int32) then (if p0 < (48 : Int32) then (if p0 < (128 : Int32) then (if (own_fs10 p0) < (0 : Int32) then (0 : Int32) else (1 : Int32)) else (0 : Int32)) else (if (57 : Int32) < p0 then (if p0 < (128 : Int32) then (if (own_fs10 p0) < (0 : Int32) then (0 : Int32) else (1 : Int32)) else (0 : Int32)) else (1 : Int32))) else (if (90 : Int32) < p0 then (if p0 < (48 : Int32) then (if p0 < (128 : Int32) then (if (own_fs10 p0) < (0 : Int32) then (0 : Int32) else (1 : Int32)) else (0 : Int32)) else (if (57 : Int32) < p0 then (if p0 < (128 : Int32) then (if (own_fs10 p0) < (0 : Int32) then (0 : Int32) else (1 : Int32)) else (0 : Int32)) else (1 : Int32))) else (1 : Int32))) else (if (122 : Int32) < p0 then (if p0 < (65 : Int32) then (if p0 < (48 : Int32) then (if p0 < (128 : Int32) then (if (own_fs10 p0) < (0 : Int32) then (0 : Int32) else (1 : Int32)) else (0 : Int32)) else (if (57 : Int32) < p0 then (if p0 < (128 : Int32) then (if (own_fs10 p0) < (0 : Int32) then (0 : Int32) else (1 : Int32)) else (0 : Int32)) else (1 : Int32))) else (if (90 : Int32) < p0 then (if p0 < (48 : Int32) then (if p0 < (128 : Int32) then (if (own_fs10 p0) < (0 : Int32) then (0 : Int32) else (1 : Int32)) else (0 : Int32)) else (if (57 : Int32) < p0 then (if p0 < (128 : Int32) then (if (own_fs10 p0) < (0 : Int32) then (0 : Int32) else (1 : Int32)) else (0 : Int32)) else (1 : Int32))) else (1 : Int32))) else (1 : Int32)))
theorem d1_0 : decode prog_12_method_16_code 0 = .ok (.iload_n 0, 1) := by decide +kernel
theorem d1_1 : decode prog_12_method_16_code 1 = .ok (.bipush 97, 2) := by decide +kernel
theorem d1_3 : decode prog_12_method_16_code 3 = .ok (.if_icmp .lt 9, 3) := by decide +kernel
theorem d1_6 : decode prog_12_method_16_code 6 = .ok (.iload_n 0, 1) := by decide +kernel
theorem d1_7 : decode prog_12_method_16_code 7 = .ok (.bipush 122, 2) := by decide +kernel
theorem d1_9 : decode prog_12_method_16_code 9 = .ok (.if_icmp .le 43, 3) := by decide +kernel
theorem d1_12 : decode prog_12_method_16_code 12 = .ok (.iload_n 0, 1) := by decide +kernel
theorem d1_13 : decode prog_12_method_16_code 13 = .ok (.bipush 65, 2) := by decide +kernel
theorem d1_15 : decode prog_12_method_16_code 15 = .ok (.if_icmp .lt 9, 3) := by decide +kernel
theorem d1_18 : decode prog_12_method_16_code 18 = .ok (.iload_n 0, 1) := by decide +kernel
theorem d1_19 : decode prog_12_method_16_code 19 = .ok (.bipush 90, 2) := by decide +kernel
theorem d1_21 : decode prog_12_method_16_code 21 = .ok (.if_icmp .le 31, 3) := by decide +kernel
theorem d1_24 : decode prog_12_method_16_code 24 = .ok (.iload_n 0, 1) := by decide +kernel
theorem d1_25 : decode prog_12_method_16_code 25 = .ok (.bipush 48, 2) := by decide +kernel
theorem d1_27 : decode prog_12_method_16_code 27 = .ok (.if_icmp .lt 9, 3) := by decide +kernel
theorem d1_30 : decode prog_12_method_16_code 30 = .ok (.iload_n 0, 1) := by decide +kernel
theorem d1_31 : decode prog_12_method_16_code 31 = .ok (.bipush 57, 2) := by decide +kernel
theorem d1_33 : decode prog_12_method_16_code 33 = .ok (.if_icmp .le 19, 3) := by decide +kernel
theorem d1_36 : decode prog_12_method_16_code 36 = .ok (.iload_n 0, 1) := by decide +kernel
theorem d1_37 : decode prog_12_method_16_code 37 = .ok (.sipush 128, 3) := by decide +kernel
theorem d1_40 : decode prog_12_method_16_code 40 = .ok (.if_icmp .ge 16, 3) := by decide +kernel
theorem d1_43 : decode prog_12_method_16_code 43 = .ok (.ldc 148, 2) := by decide +kernel
theorem d1_45 : decode prog_12_method_16_code 45 = .ok (.iload_n 0, 1) := by decide +kernel
theorem d1_46 : decode prog_12_method_16_code 46 = .ok (.invokevirtual 99, 3) := by decide +kernel
theorem d1_49 : decode prog_12_method_16_code 49 = .ok (.ifCond .lt 7, 3) := by decide +kernel
theorem d1_52 : decode prog_12_method_16_code 52 = .ok (.iconst 1, 1) := by decide +kernel
theorem d1_53 : decode prog_12_method_16_code 53 = .ok (.goto 4, 3) := by decide +kernel
theorem d1_56 : decode prog_12_method_16_code 56 = .ok (.iconst 0, 1) := by decide +kernel
theorem d1_57 : decode prog_12_method_16_code 57 = .ok (.ireturn, 1) := by decide +kernel
theorem pn1 : plainName "com/example/vestibule/vestibule/http/HttpFields" = true := by first | (simp [plainName, overriddenIn]; done) | decide +kernel
theorem pd1_0 : parseMethodDescriptor "(I)I" = some ⟨[.int], some .int⟩ := by decide +kernel
theorem ef1 (m : MethodId) (p0 : Int32) : entryFrame m #[(.int p0)] 1 = mkF m 0 #[.val (.int p0)] [] := by first | (simp [entryFrame, mkF, argsToLocals, Value.category]; done) | rfl
def own_Q1 (Z : State) (p0 : Int32) (wc : Int32) (h0 : Heap) (n0 : Nat) (v : Option Value) (h : Heap) (L : List Loc) : Prop := v = some (.int (own_f1 p0)) ∧ Fr n0 L ∧ Keep h0 h []
set_option maxRecDepth 65536 in
set_option maxHeartbeats 40000000 in
theorem rm1 (l : Launch) (Z : State) (az : Array Value) (hw : ∀ d ∈ tables_1, d.before az Z = true) (ws : List Jvm.Cond) (p0 : Int32) (wc : Int32) (h0 : Heap) (n0 : Nat) (Z0 : n0 ≤ h0.size) (S_COMPACT_STRINGS : Sta Z h0 "java/lang/String" "COMPACT_STRINGS" "Z" (.int wc)) (hwc : ¬ (wc = (0 : Int32))) :
    MetFree l (⟨"com/example/vestibule/vestibule/http/HttpFields", "isTokenChar", "(I)Z"⟩ : MethodName) (head1 (Jvm.Cond.code (⟨"com/example/vestibule/vestibule/http/HttpFields", "isTokenChar", "(I)Z"⟩ : MethodName) prog_12_method_16_code 1 (some .boolean) :: ws) ({ frames := 4, cells := 2, slots := 64, locals := 59 } : Room)) (fun a U => a = #[(.int p0)] ∧ Z.Warmed39 U.vm ∧ U.heap = h0 ∧ CHv Z consts_1 U.vm h0) (fun _ _ _ _ _ => True) (fun _ U o U' => ∃ v L, o = .returned v ∧ own_Q1 Z p0 wc h0 n0 v U'.heap L ∧ CHr Z consts_1 U.vm U.heap U'.vm U'.heap ∧ ReturnedEndW U o U' L ({ frames := 4, cells := 2, slots := 64, locals := 59 } : Room).cells ({ frames := 4, cells := 2, slots := 64, locals := 59 } : Room).slots) := by
  refine MetFree.of_bodySF (plainFor_of_name pn1) hisR ?_
  intro p e s m args below meth c s₁ Bd hml0 hP hK
  obtain ⟨rfl, hZ, hh, HC⟩ := hP
  have hx := Bd.exec
  have hby := Bd.bytes
  have hml : c.maxLocals = 1 := hml0
  have hZ : Z.Warmed39 (s.setVm s.vm).vm := hZ
  have hown : (s.setVm s.vm).vm.findClass "com/example/vestibule/vestibule/http/HttpFields" = some m.cls := findClass_of_methodNamed Bd.named
  have hnm := (name_of_methodNamed Bd.named Bd.method).1
  have X0 : Stand p l e ({ frames := 4, cells := 2, slots := 64, locals := 59 } : Room) (s.setVm s.vm) m #[(.int p0)] below meth c s₁ [] 0 0 := by rw [State.setVm_self]; exact Stand.of_body Bd
  have e0 : s₁.heap = h0 := by rw [← hh, Bd.state]; rfl
  have N0 := Fr.nil n0
  have hS : s.Since s.vm h0.size := (State.WarmedH.refl s).since _
  have hk : h0.size ≤ h0.size := Nat.le_refl _
  have hEL := own_EL hw
  have CR := CHr.refl HC
  show own_Go p.tables e below (fun o U' => ∃ v L, o = .returned v ∧ own_Q1 Z p0 wc h0 n0 v U'.heap L ∧ CHr Z consts_1 s.vm s.heap U'.vm U'.heap ∧ ReturnedEndW s o U' L ({ frames := 4, cells := 2, slots := 64, locals := 59 } : Room).cells ({ frames := 4, cells := 2, slots := 64, locals := 59 } : Room).slots) (s₁.setTop (entryFrame m #[(.int p0)] 1))
  refine own_go (fun _ k => castTop (ef1 m p0) k) ?_
  show own_Go p.tables e below _ (s₁.setTop (mkF m 0 #[.val (.int p0)] []))
  refine own_go (fun _ k => XS.iloadN X0.here hx rfl (hb hby d1_0) rfl k) ?_
  show own_Go p.tables e below _ (s₁.setTop (mkF m 1 #[.val (.int p0)] [(.int p0)]))
  refine own_go (fun _ k => XS.bipush X0.here hx rfl (hb hby d1_1) k) ?_
  show own_Go p.tables e below _ (s₁.setTop (mkF m 3 #[.val (.int p0)] [(.int (97 : Int32)), (.int p0)]))
  by_cases hc3 : p0 < (97 : Int32)
  · refine own_go (fun _ k => XS.icmpYes X0.here hx rfl (pc0 := 3) (pc' := 12) rfl (hb hby d1_3) rfl (tlt hc3).1 (by decide) (by decide) k) ?_
    show own_Go p.tables e below _ (s₁.setTop (mkF m 12 #[.val (.int p0)] []))
    refine own_go (fun _ k => XS.iloadN X0.here hx rfl (hb hby d1_12) rfl k) ?_
    show own_Go p.tables e below _ (s₁.setTop (mkF m 13 #[.val (.int p0)] [(.int p0)]))
    refine own_go (fun _ k => XS.bipush X0.here hx rfl (hb hby d1_13) k) ?_
    show own_Go p.tables e below _ (s₁.setTop (mkF m 15 #[.val (.int p0)] [(.int (65 : Int32)), (.int p0)]))
    by_cases hc15 : p0 < (65 : Int32)
    · refine own_go (fun _ k => XS.icmpYes X0.here hx rfl (pc0 := 15) (pc' := 24) rfl (hb hby d1_15) rfl (tlt hc15).1 (by decide) (by decide) k) ?_
      show own_Go p.tables e below _ (s₁.setTop (mkF m 24 #[.val (.int p0)] []))
      refine own_go (fun _ k => XS.iloadN X0.here hx rfl (hb hby d1_24) rfl k) ?_
      show own_Go p.tables e below _ (s₁.setTop (mkF m 25 #[.val (.int p0)] [(.int p0)]))
      refine own_go (fun _ k => XS.bipush X0.here hx rfl (hb hby d1_25) k) ?_
      show own_Go p.tables e below _ (s₁.setTop (mkF m 27 #[.val (.int p0)] [(.int (48 : Int32)), (.int p0)]))
      by_cases hc27 : p0 < (48 : Int32)
      · refine own_go (fun _ k => XS.icmpYes X0.here hx rfl (pc0 := 27) (pc' := 36) rfl (hb hby d1_27) rfl (tlt hc27).1 (by decide) (by decide) k) ?_
        show own_Go p.tables e below _ (s₁.setTop (mkF m 36 #[.val (.int p0)] []))
        refine own_go (fun _ k => XS.iloadN X0.here hx rfl (hb hby d1_36) rfl k) ?_
        show own_Go p.tables e below _ (s₁.setTop (mkF m 37 #[.val (.int p0)] [(.int p0)]))
        refine own_go (fun _ k => XS.sipush X0.here hx rfl (hb hby d1_37) k) ?_
        show own_Go p.tables e below _ (s₁.setTop (mkF m 40 #[.val (.int p0)] [(.int (128 : Int32)), (.int p0)]))
        by_cases hc40 : p0 < (128 : Int32)
        · refine own_go (fun _ k => XS.icmpNo X0.here hx rfl (hb hby d1_40) rfl (tlt hc40).2.1 k) ?_
          show own_Go p.tables e below _ (s₁.setTop (mkF m 43 #[.val (.int p0)] []))
          obtain ⟨a1, T1, h1, k1, b1, kb1, X1, e1, E1, hS, hk, hZ, hown, Ex1, Fc1, Fv1, Av1, -, -, hC1, -, -, st1⟩ := ldcCH X0 hx hZ hown (hw _ (List.mem_of_getElem? (i := 4) rfl)) (own_wS hw) e0 hS hk hEL (List.mem_of_getElem? (i := 0) rfl) HC (vs := [(.int (33 : Int32)), (.int (35 : Int32)), (.int (36 : Int32)), (.int (37 : Int32)), (.int (38 : Int32)), (.int (39 : Int32)), (.int (42 : Int32)), (.int (43 : Int32)), (.int (45 : Int32)), (.int (46 : Int32)), (.int (94 : Int32)), (.int (95 : Int32)), (.int (96 : Int32)), (.int (124 : Int32)), (.int (126 : Int32))]) (z := (15 : Int32)) own_lit (by decide) (by decide) (g := (mkF m 43 #[.val (.int p0)] [])) rfl (hb hby d1_43) (n := 60) (by decide +kernel) (by decide) (by decide) (by decide)
          have CR := CR.trans hC1
          have HC := hC1.1
          have c1_0 := S_COMPACT_STRINGS.ext E1
          have Z1 : n0 ≤ h1.size := Nat.le_trans Z0 E1.1
          have K1 : Keep h0 h1 [] := (Keep.refl _ _).ext E1
          refine own_go st1 ?_
          show own_Go p.tables e below _ (T1.setTop (mkF m 45 #[.val (.int p0)] [(.ref a1)]))
          refine own_go (fun _ k => XS.iloadN X1.here hx rfl (hb hby d1_45) rfl k) ?_
          show own_Go p.tables e below _ (T1.setTop (mkF m 46 #[.val (.int p0)] [(.int p0), (.ref a1)]))
          obtain ⟨cq2, kq2, q2a, q2b, q2c⟩ := isOf hZ e1 Ex1
          obtain ⟨_, _, ⟨T2, L2, k2, n2⟩, -, X2, ⟨Lc2, hQ2, l2, y2, z2⟩, st2⟩ := X1.virtualBack hx (y := (⟨"java/lang/String", "indexOf", "(I)I"⟩ : MethodName)) (z := (⟨"java/lang/String", "indexOf", "(I)I"⟩ : MethodName)) hown (mvT hZ (hw _ (List.mem_of_getElem? (i := 12) rfl))) (mvT hZ (hw _ (List.mem_of_getElem? (i := 13) rfl))) (notFace_of_selects (args := #[]) (mvT hZ (hw _ (List.mem_of_getElem? (i := 15) rfl)))) (mvT hZ (hw _ (List.mem_of_getElem? (i := 15) rfl))) (mvT hZ (hw _ (List.mem_of_getElem? (i := 14) rfl))) (by decide) (backOf (W := 0) (rms10 l Z az hw [] a1 p0 b1 kb1 wc h1 n0 Z1 Fc1 Fv1 Ex1 Av1 c1_0 hwc) hZ (hw _ (List.mem_of_getElem? (i := 16) rfl)) (hw _ (List.mem_of_getElem? (i := 5) rfl)) (by decide) (by decide)) q2a q2c (g := (mkF m 46 #[.val (.int p0)] [(.int p0), (.ref a1)])) rfl (by rw [hml]; rfl) (Steps.refl _) (argsL := [(.int p0)]) (rest := []) (lenOf pd1_0 rfl) rfl (by show 2 * 0 + _ ≤ _; exact Nat.le_of_eq rfl) (hb hby d1_46) (fun _ _ => ⟨rfl, e1, (by decide : 2 + 0 ≤ _), (by decide : 64 + 0 ≤ _)⟩)
          dsimp only [Pt.U, Pt.locs, Pt.cells, Pt.slots] at X2 l2 y2 z2 st2 hQ2
          subst l2 y2 z2
          refine own_go (fun _ k => st2.trans k) ?_
          obtain ⟨rfl, N2q, e2⟩ := hQ2
          have N2 := Fr.app N0 N2q
          show own_Go p.tables e below _ (T2.setTop (mkF m 49 #[.val (.int p0)] [(.int (own_fs10 p0))]))
          by_cases hc49 : (own_fs10 p0) < (0 : Int32)
          · refine own_go (fun _ k => XS.ifYes X2.here hx rfl (pc0 := 49) (pc' := 56) rfl (hb hby d1_49) rfl ((if0 _ _).trans (tlt hc49).1) (by decide) (by decide) k) ?_
            show own_Go p.tables e below _ (T2.setTop (mkF m 56 #[.val (.int p0)] []))
            refine own_go (fun _ k => XS.iconst X2.here hx rfl (hb hby d1_56) k) ?_
            show own_Go p.tables e below _ (T2.setTop (mkF m 57 #[.val (.int p0)] [(.int (0 : Int32))]))
            refine own_endH X2 (by rw [hh, (e2 : T2.heap = h1)]; exact CR.trans (CHv.at X2 hZ hEL HC)) hS (by rw [(e2 : T2.heap = h1)]; exact hk) Bd.notSynchronized (v := some (.int (0 : Int32))) (fun h => by rw [Bd.returns] at h; cases h) (fun fs hr => retN X2 hx (t := .boolean) Bd.returns (by simp) (hb hby d1_57) hr) ?_ (by decide) (by decide)
            show own_Q1 Z p0 wc h0 n0 _ T2.heap _
            rw [(e2 : T2.heap = h1)]
            exact ⟨by rw [own_f1, if_pos hc3, if_pos hc15, if_pos hc27, if_pos hc40, if_pos hc49], N2, K1⟩
          · refine own_go (fun _ k => XS.ifNo X2.here hx rfl (hb hby d1_49) rfl ((if0 _ _).trans (flt hc49).1) k) ?_
            show own_Go p.tables e below _ (T2.setTop (mkF m 52 #[.val (.int p0)] []))
            refine own_go (fun _ k => XS.iconst X2.here hx rfl (hb hby d1_52) k) ?_
            show own_Go p.tables e below _ (T2.setTop (mkF m 53 #[.val (.int p0)] [(.int (1 : Int32))]))
            refine own_go (fun _ k => XS.goto X2.here hx rfl (pc0 := 53) (pc' := 57) rfl (hb hby d1_53) (by decide) (by decide) k) ?_
            show own_Go p.tables e below _ (T2.setTop (mkF m 57 #[.val (.int p0)] [(.int (1 : Int32))]))
            refine own_endH X2 (by rw [hh, (e2 : T2.heap = h1)]; exact CR.trans (CHv.at X2 hZ hEL HC)) hS (by rw [(e2 : T2.heap = h1)]; exact hk) Bd.notSynchronized (v := some (.int (1 : Int32))) (fun h => by rw [Bd.returns] at h; cases h) (fun fs hr => retN X2 hx (t := .boolean) Bd.returns (by simp) (hb hby d1_57) hr) ?_ (by decide) (by decide)
            show own_Q1 Z p0 wc h0 n0 _ T2.heap _
            rw [(e2 : T2.heap = h1)]
            exact ⟨by rw [own_f1, if_pos hc3, if_pos hc15, if_pos hc27, if_pos hc40, if_neg hc49], N2, K1⟩
        · refine own_go (fun _ k => XS.icmpYes X0.here hx rfl (pc0 := 40) (pc' := 56) rfl (hb hby d1_40) rfl (flt hc40).2.1 (by decide) (by decide) k) ?_
          show own_Go p.tables e below _ (s₁.setTop (mkF m 56 #[.val (.int p0)] []))
          refine own_go (fun _ k => XS.iconst X0.here hx rfl (hb hby d1_56) k) ?_
          show own_Go p.tables e below _ (s₁.setTop (mkF m 57 #[.val (.int p0)] [(.int (0 : Int32))]))
          refine own_endH X0 (by rw [hh, e0]; exact CR.trans (CHv.at X0 hZ hEL HC)) hS (by rw [e0]; exact hk) Bd.notSynchronized (v := some (.int (0 : Int32))) (fun h => by rw [Bd.returns] at h; cases h) (fun fs hr => retN X0 hx (t := .boolean) Bd.returns (by simp) (hb hby d1_57) hr) ?_ (by decide) (by decide)
          show own_Q1 Z p0 wc h0 n0 _ s₁.heap _
          rw [e0]
          exact ⟨by rw [own_f1, if_pos hc3, if_pos hc15, if_pos hc27, if_neg hc40], N0, (Keep.refl _ _)⟩
      · refine own_go (fun _ k => XS.icmpNo X0.here hx rfl (hb hby d1_27) rfl (flt hc27).1 k) ?_
        show own_Go p.tables e below _ (s₁.setTop (mkF m 30 #[.val (.int p0)] []))
        refine own_go (fun _ k => XS.iloadN X0.here hx rfl (hb hby d1_30) rfl k) ?_
        show own_Go p.tables e below _ (s₁.setTop (mkF m 31 #[.val (.int p0)] [(.int p0)]))
        refine own_go (fun _ k => XS.bipush X0.here hx rfl (hb hby d1_31) k) ?_
        show own_Go p.tables e below _ (s₁.setTop (mkF m 33 #[.val (.int p0)] [(.int (57 : Int32)), (.int p0)]))
        by_cases hc33 : (57 : Int32) < p0
        · refine own_go (fun _ k => XS.icmpNo X0.here hx rfl (hb hby d1_33) rfl (tlt hc33).2.2.2 k) ?_
          show own_Go p.tables e below _ (s₁.setTop (mkF m 36 #[.val (.int p0)] []))
          refine own_go (fun _ k => XS.iloadN X0.here hx rfl (hb hby d1_36) rfl k) ?_
          show own_Go p.tables e below _ (s₁.setTop (mkF m 37 #[.val (.int p0)] [(.int p0)]))
          refine own_go (fun _ k => XS.sipush X0.here hx rfl (hb hby d1_37) k) ?_
          show own_Go p.tables e below _ (s₁.setTop (mkF m 40 #[.val (.int p0)] [(.int (128 : Int32)), (.int p0)]))
          by_cases hc40 : p0 < (128 : Int32)
          · refine own_go (fun _ k => XS.icmpNo X0.here hx rfl (hb hby d1_40) rfl (tlt hc40).2.1 k) ?_
            show own_Go p.tables e below _ (s₁.setTop (mkF m 43 #[.val (.int p0)] []))
            obtain ⟨a3, T3, h3, k3, b3, kb3, X3, e3, E3, hS, hk, hZ, hown, Ex3, Fc3, Fv3, Av3, -, -, hC3, -, -, st3⟩ := ldcCH X0 hx hZ hown (hw _ (List.mem_of_getElem? (i := 4) rfl)) (own_wS hw) e0 hS hk hEL (List.mem_of_getElem? (i := 0) rfl) HC (vs := [(.int (33 : Int32)), (.int (35 : Int32)), (.int (36 : Int32)), (.int (37 : Int32)), (.int (38 : Int32)), (.int (39 : Int32)), (.int (42 : Int32)), (.int (43 : Int32)), (.int (45 : Int32)), (.int (46 : Int32)), (.int (94 : Int32)), (.int (95 : Int32)), (.int (96 : Int32)), (.int (124 : Int32)), (.int (126 : Int32))]) (z := (15 : Int32)) own_lit (by decide) (by decide) (g := (mkF m 43 #[.val (.int p0)] [])) rfl (hb hby d1_43) (n := 60) (by decide +kernel) (by decide) (by decide) (by decide)
            have CR := CR.trans hC3
            have HC := hC3.1
            have c3_0 := S_COMPACT_STRINGS.ext E3
            have Z3 : n0 ≤ h3.size := Nat.le_trans Z0 E3.1
            have K3 : Keep h0 h3 [] := (Keep.refl _ _).ext E3
            refine own_go st3 ?_
            show own_Go p.tables e below _ (T3.setTop (mkF m 45 #[.val (.int p0)] [(.ref a3)]))
            refine own_go (fun _ k => XS.iloadN X3.here hx rfl (hb hby d1_45) rfl k) ?_
            show own_Go p.tables e below _ (T3.setTop (mkF m 46 #[.val (.int p0)] [(.int p0), (.ref a3)]))
            obtain ⟨cq4, kq4, q4a, q4b, q4c⟩ := isOf hZ e3 Ex3
            obtain ⟨_, _, ⟨T4, L4, k4, n4⟩, -, X4, ⟨Lc4, hQ4, l4, y4, z4⟩, st4⟩ := X3.virtualBack hx (y := (⟨"java/lang/String", "indexOf", "(I)I"⟩ : MethodName)) (z := (⟨"java/lang/String", "indexOf", "(I)I"⟩ : MethodName)) hown (mvT hZ (hw _ (List.mem_of_getElem? (i := 12) rfl))) (mvT hZ (hw _ (List.mem_of_getElem? (i := 13) rfl))) (notFace_of_selects (args := #[]) (mvT hZ (hw _ (List.mem_of_getElem? (i := 15) rfl)))) (mvT hZ (hw _ (List.mem_of_getElem? (i := 15) rfl))) (mvT hZ (hw _ (List.mem_of_getElem? (i := 14) rfl))) (by decide) (backOf (W := 0) (rms10 l Z az hw [] a3 p0 b3 kb3 wc h3 n0 Z3 Fc3 Fv3 Ex3 Av3 c3_0 hwc) hZ (hw _ (List.mem_of_getElem? (i := 16) rfl)) (hw _ (List.mem_of_getElem? (i := 5) rfl)) (by decide) (by decide)) q4a q4c (g := (mkF m 46 #[.val (.int p0)] [(.int p0), (.ref a3)])) rfl (by rw [hml]; rfl) (Steps.refl _) (argsL := [(.int p0)]) (rest := []) (lenOf pd1_0 rfl) rfl (by show 2 * 0 + _ ≤ _; exact Nat.le_of_eq rfl) (hb hby d1_46) (fun _ _ => ⟨rfl, e3, (by decide : 2 + 0 ≤ _), (by decide : 64 + 0 ≤ _)⟩)
            dsimp only [Pt.U, Pt.locs, Pt.cells, Pt.slots] at X4 l4 y4 z4 st4 hQ4
            subst l4 y4 z4
            refine own_go (fun _ k => st4.trans k) ?_
            obtain ⟨rfl, N4q, e4⟩ := hQ4
            have N4 := Fr.app N0 N4q
            show own_Go p.tables e below _ (T4.setTop (mkF m 49 #[.val (.int p0)] [(.int (own_fs10 p0))]))
            by_cases hc49 : (own_fs10 p0) < (0 : Int32)
            · refine own_go (fun _ k => XS.ifYes X4.here hx rfl (pc0 := 49) (pc' := 56) rfl (hb hby d1_49) rfl ((if0 _ _).trans (tlt hc49).1) (by decide) (by decide) k) ?_
              show own_Go p.tables e below _ (T4.setTop (mkF m 56 #[.val (.int p0)] []))
              refine own_go (fun _ k => XS.iconst X4.here hx rfl (hb hby d1_56) k) ?_
              show own_Go p.tables e below _ (T4.setTop (mkF m 57 #[.val (.int p0)] [(.int (0 : Int32))]))
              refine own_endH X4 (by rw [hh, (e4 : T4.heap = h3)]; exact CR.trans (CHv.at X4 hZ hEL HC)) hS (by rw [(e4 : T4.heap = h3)]; exact hk) Bd.notSynchronized (v := some (.int (0 : Int32))) (fun h => by rw [Bd.returns] at h; cases h) (fun fs hr => retN X4 hx (t := .boolean) Bd.returns (by simp) (hb hby d1_57) hr) ?_ (by decide) (by decide)
              show own_Q1 Z p0 wc h0 n0 _ T4.heap _
              rw [(e4 : T4.heap = h3)]
              exact ⟨by rw [own_f1, if_pos hc3, if_pos hc15, if_neg hc27, if_pos hc33, if_pos hc40, if_pos hc49], N4, K3⟩
            · refine own_go (fun _ k => XS.ifNo X4.here hx rfl (hb hby d1_49) rfl ((if0 _ _).trans (flt hc49).1) k) ?_
              show own_Go p.tables e below _ (T4.setTop (mkF m 52 #[.val (.int p0)] []))
              refine own_go (fun _ k => XS.iconst X4.here hx rfl (hb hby d1_52) k) ?_
              show own_Go p.tables e below _ (T4.setTop (mkF m 53 #[.val (.int p0)] [(.int (1 : Int32))]))
              refine own_go (fun _ k => XS.goto X4.here hx rfl (pc0 := 53) (pc' := 57) rfl (hb hby d1_53) (by decide) (by decide) k) ?_
              show own_Go p.tables e below _ (T4.setTop (mkF m 57 #[.val (.int p0)] [(.int (1 : Int32))]))
              refine own_endH X4 (by rw [hh, (e4 : T4.heap = h3)]; exact CR.trans (CHv.at X4 hZ hEL HC)) hS (by rw [(e4 : T4.heap = h3)]; exact hk) Bd.notSynchronized (v := some (.int (1 : Int32))) (fun h => by rw [Bd.returns] at h; cases h) (fun fs hr => retN X4 hx (t := .boolean) Bd.returns (by simp) (hb hby d1_57) hr) ?_ (by decide) (by decide)
              show own_Q1 Z p0 wc h0 n0 _ T4.heap _
              rw [(e4 : T4.heap = h3)]
              exact ⟨by rw [own_f1, if_pos hc3, if_pos hc15, if_neg hc27, if_pos hc33, if_pos hc40, if_neg hc49], N4, K3⟩
          · refine own_go (fun _ k => XS.icmpYes X0.here hx rfl (pc0 := 40) (pc' := 56) rfl (hb hby d1_40) rfl (flt hc40).2.1 (by decide) (by decide) k) ?_
            show own_Go p.tables e below _ (s₁.setTop (mkF m 56 #[.val (.int p0)] []))
            refine own_go (fun _ k => XS.iconst X0.here hx rfl (hb hby d1_56) k) ?_
            show own_Go p.tables e below _ (s₁.setTop (mkF m 57 #[.val (.int p0)] [(.int (0 : Int32))]))
            refine own_endH X0 (by rw [hh, e0]; exact CR.trans (CHv.at X0 hZ hEL HC)) hS (by rw [e0]; exact hk) Bd.notSynchronized (v := some (.int (0 : Int32))) (fun h => by rw [Bd.returns] at h; cases h) (fun fs hr => retN X0 hx (t := .boolean) Bd.returns (by simp) (hb hby d1_57) hr) ?_ (by decide) (by decide)
            show own_Q1 Z p0 wc h0 n0 _ s₁.heap _
            rw [e0]
            exact ⟨by rw [own_f1, if_pos hc3, if_pos hc15, if_neg hc27, if_pos hc33, if_neg hc40], N0, (Keep.refl _ _)⟩
        · refine own_go (fun _ k => XS.icmpYes X0.here hx rfl (pc0 := 33) (pc' := 52) rfl (hb hby d1_33) rfl (flt hc33).2.2.2 (by decide) (by decide) k) ?_
          show own_Go p.tables e below _ (s₁.setTop (mkF m 52 #[.val (.int p0)] []))
          refine own_go (fun _ k => XS.iconst X0.here hx rfl (hb hby d1_52) k) ?_
          show own_Go p.tables e below _ (s₁.setTop (mkF m 53 #[.val (.int p0)] [(.int (1 : Int32))]))
          refine own_go (fun _ k => XS.goto X0.here hx rfl (pc0 := 53) (pc' := 57) rfl (hb hby d1_53) (by decide) (by decide) k) ?_
          show own_Go p.tables e below _ (s₁.setTop (mkF m 57 #[.val (.int p0)] [(.int (1 : Int32))]))
          refine own_endH X0 (by rw [hh, e0]; exact CR.trans (CHv.at X0 hZ hEL HC)) hS (by rw [e0]; exact hk) Bd.notSynchronized (v := some (.int (1 : Int32))) (fun h => by rw [Bd.returns] at h; cases h) (fun fs hr => retN X0 hx (t := .boolean) Bd.returns (by simp) (hb hby d1_57) hr) ?_ (by decide) (by decide)
          show own_Q1 Z p0 wc h0 n0 _ s₁.heap _
          rw [e0]
          exact ⟨by rw [own_f1, if_pos hc3, if_pos hc15, if_neg hc27, if_neg hc33], N0, (Keep.refl _ _)⟩
    · refine own_go (fun _ k => XS.icmpNo X0.here hx rfl (hb hby d1_15) rfl (flt hc15).1 k) ?_
      show own_Go p.tables e below _ (s₁.setTop (mkF m 18 #[.val (.int p0)] []))
      refine own_go (fun _ k => XS.iloadN X0.here hx rfl (hb hby d1_18) rfl k) ?_
      show own_Go p.tables e below _ (s₁.setTop (mkF m 19 #[.val (.int p0)] [(.int p0)]))
      refine own_go (fun _ k => XS.bipush X0.here hx rfl (hb hby d1_19) k) ?_
      show own_Go p.tables e below _ (s₁.setTop (mkF m 21 #[.val (.int p0)] [(.int (90 : Int32)), (.int p0)]))
      by_cases hc21 : (90 : Int32) < p0
      · refine own_go (fun _ k => XS.icmpNo X0.here hx rfl (hb hby d1_21) rfl (tlt hc21).2.2.2 k) ?_
        show own_Go p.tables e below _ (s₁.setTop (mkF m 24 #[.val (.int p0)] []))
        refine own_go (fun _ k => XS.iloadN X0.here hx rfl (hb hby d1_24) rfl k) ?_
        show own_Go p.tables e below _ (s₁.setTop (mkF m 25 #[.val (.int p0)] [(.int p0)]))
        refine own_go (fun _ k => XS.bipush X0.here hx rfl (hb hby d1_25) k) ?_
        show own_Go p.tables e below _ (s₁.setTop (mkF m 27 #[.val (.int p0)] [(.int (48 : Int32)), (.int p0)]))
        by_cases hc27 : p0 < (48 : Int32)
        · refine own_go (fun _ k => XS.icmpYes X0.here hx rfl (pc0 := 27) (pc' := 36) rfl (hb hby d1_27) rfl (tlt hc27).1 (by decide) (by decide) k) ?_
          show own_Go p.tables e below _ (s₁.setTop (mkF m 36 #[.val (.int p0)] []))
          refine own_go (fun _ k => XS.iloadN X0.here hx rfl (hb hby d1_36) rfl k) ?_
          show own_Go p.tables e below _ (s₁.setTop (mkF m 37 #[.val (.int p0)] [(.int p0)]))
          refine own_go (fun _ k => XS.sipush X0.here hx rfl (hb hby d1_37) k) ?_
          show own_Go p.tables e below _ (s₁.setTop (mkF m 40 #[.val (.int p0)] [(.int (128 : Int32)), (.int p0)]))
          by_cases hc40 : p0 < (128 : Int32)
          · refine own_go (fun _ k => XS.icmpNo X0.here hx rfl (hb hby d1_40) rfl (tlt hc40).2.1 k) ?_
            show own_Go p.tables e below _ (s₁.setTop (mkF m 43 #[.val (.int p0)] []))
            obtain ⟨a5, T5, h5, k5, b5, kb5, X5, e5, E5, hS, hk, hZ, hown, Ex5, Fc5, Fv5, Av5, -, -, hC5, -, -, st5⟩ := ldcCH X0 hx hZ hown (hw _ (List.mem_of_getElem? (i := 4) rfl)) (own_wS hw) e0 hS hk hEL (List.mem_of_getElem? (i := 0) rfl) HC (vs := [(.int (33 : Int32)), (.int (35 : Int32)), (.int (36 : Int32)), (.int (37 : Int32)), (.int (38 : Int32)), (.int (39 : Int32)), (.int (42 : Int32)), (.int (43 : Int32)), (.int (45 : Int32)), (.int (46 : Int32)), (.int (94 : Int32)), (.int (95 : Int32)), (.int (96 : Int32)), (.int (124 : Int32)), (.int (126 : Int32))]) (z := (15 : Int32)) own_lit (by decide) (by decide) (g := (mkF m 43 #[.val (.int p0)] [])) rfl (hb hby d1_43) (n := 60) (by decide +kernel) (by decide) (by decide) (by decide)
            have CR := CR.trans hC5
            have HC := hC5.1
            have c5_0 := S_COMPACT_STRINGS.ext E5
            have Z5 : n0 ≤ h5.size := Nat.le_trans Z0 E5.1
            have K5 : Keep h0 h5 [] := (Keep.refl _ _).ext E5
            refine own_go st5 ?_
            show own_Go p.tables e below _ (T5.setTop (mkF m 45 #[.val (.int p0)] [(.ref a5)]))
            refine own_go (fun _ k => XS.iloadN X5.here hx rfl (hb hby d1_45) rfl k) ?_
            show own_Go p.tables e below _ (T5.setTop (mkF m 46 #[.val (.int p0)] [(.int p0), (.ref a5)]))
            obtain ⟨cq6, kq6, q6a, q6b, q6c⟩ := isOf hZ e5 Ex5
            obtain ⟨_, _, ⟨T6, L6, k6, n6⟩, -, X6, ⟨Lc6, hQ6, l6, y6, z6⟩, st6⟩ := X5.virtualBack hx (y := (⟨"java/lang/String", "indexOf", "(I)I"⟩ : MethodName)) (z := (⟨"java/lang/String", "indexOf", "(I)I"⟩ : MethodName)) hown (mvT hZ (hw _ (List.mem_of_getElem? (i := 12) rfl))) (mvT hZ (hw _ (List.mem_of_getElem? (i := 13) rfl))) (notFace_of_selects (args := #[]) (mvT hZ (hw _ (List.mem_of_getElem? (i := 15) rfl)))) (mvT hZ (hw _ (List.mem_of_getElem? (i := 15) rfl))) (mvT hZ (hw _ (List.mem_of_getElem? (i := 14) rfl))) (by decide) (backOf (W := 0) (rms10 l Z az hw [] a5 p0 b5 kb5 wc h5 n0 Z5 Fc5 Fv5 Ex5 Av5 c5_0 hwc) hZ (hw _ (List.mem_of_getElem? (i := 16) rfl)) (hw _ (List.mem_of_getElem? (i := 5) rfl)) (by decide) (by decide)) q6a q6c (g := (mkF m 46 #[.val (.int p0)] [(.int p0), (.ref a5)])) rfl (by rw [hml]; rfl) (Steps.refl _) (argsL := [(.int p0)]) (rest := []) (lenOf pd1_0 rfl) rfl (by show 2 * 0 + _ ≤ _; exact Nat.le_of_eq rfl) (hb hby d1_46) (fun _ _ => ⟨rfl, e5, (by decide : 2 + 0 ≤ _), (by decide : 64 + 0 ≤ _)⟩)
            dsimp only [Pt.U, Pt.locs, Pt.cells, Pt.slots] at X6 l6 y6 z6 st6 hQ6
            subst l6 y6 z6
            refine own_go (fun _ k => st6.trans k) ?_
            obtain ⟨rfl, N6q, e6⟩ := hQ6
            have N6 := Fr.app N0 N6q
            show own_Go p.tables e below _ (T6.setTop (mkF m 49 #[.val (.int p0)] [(.int (own_fs10 p0))]))
            by_cases hc49 : (own_fs10 p0) < (0 : Int32)
            · refine own_go (fun _ k => XS.ifYes X6.here hx rfl (pc0 := 49) (pc' := 56) rfl (hb hby d1_49) rfl ((if0 _ _).trans (tlt hc49).1) (by decide) (by decide) k) ?_
              show own_Go p.tables e below _ (T6.setTop (mkF m 56 #[.val (.int p0)] []))
              refine own_go (fun _ k => XS.iconst X6.here hx rfl (hb hby d1_56) k) ?_
              show own_Go p.tables e below _ (T6.setTop (mkF m 57 #[.val (.int p0)] [(.int (0 : Int32))]))
              refine own_endH X6 (by rw [hh, (e6 : T6.heap = h5)]; exact CR.trans (CHv.at X6 hZ hEL HC)) hS (by rw [(e6 : T6.heap = h5)]; exact hk) Bd.notSynchronized (v := some (.int (0 : Int32))) (fun h => by rw [Bd.returns] at h; cases h) (fun fs hr => retN X6 hx (t := .boolean) Bd.returns (by simp) (hb hby d1_57) hr) ?_ (by decide) (by decide)
              show own_Q1 Z p0 wc h0 n0 _ T6.heap _
              rw [(e6 : T6.heap = h5)]
              exact ⟨by rw [own_f1, if_pos hc3, if_neg hc15, if_pos hc21, if_pos hc27, if_pos hc40, if_pos hc49], N6, K5⟩
            · refine own_go (fun _ k => XS.ifNo X6.here hx rfl (hb hby d1_49) rfl ((if0 _ _).trans (flt hc49).1) k) ?_
              show own_Go p.tables e below _ (T6.setTop (mkF m 52 #[.val (.int p0)] []))
              refine own_go (fun _ k => XS.iconst X6.here hx rfl (hb hby d1_52) k) ?_
              show own_Go p.tables e below _ (T6.setTop (mkF m 53 #[.val (.int p0)] [(.int (1 : Int32))]))
              refine own_go (fun _ k => XS.goto X6.here hx rfl (pc0 := 53) (pc' := 57) rfl (hb hby d1_53) (by decide) (by decide) k) ?_
              show own_Go p.tables e below _ (T6.setTop (mkF m 57 #[.val (.int p0)] [(.int (1 : Int32))]))
              refine own_endH X6 (by rw [hh, (e6 : T6.heap = h5)]; exact CR.trans (CHv.at X6 hZ hEL HC)) hS (by rw [(e6 : T6.heap = h5)]; exact hk) Bd.notSynchronized (v := some (.int (1 : Int32))) (fun h => by rw [Bd.returns] at h; cases h) (fun fs hr => retN X6 hx (t := .boolean) Bd.returns (by simp) (hb hby d1_57) hr) ?_ (by decide) (by decide)
              show own_Q1 Z p0 wc h0 n0 _ T6.heap _
              rw [(e6 : T6.heap = h5)]
              exact ⟨by rw [own_f1, if_pos hc3, if_neg hc15, if_pos hc21, if_pos hc27, if_pos hc40, if_neg hc49], N6, K5⟩
          · refine own_go (fun _ k => XS.icmpYes X0.here hx rfl (pc0 := 40) (pc' := 56) rfl (hb hby d1_40) rfl (flt hc40).2.1 (by decide) (by decide) k) ?_
            show own_Go p.tables e below _ (s₁.setTop (mkF m 56 #[.val (.int p0)] []))
            refine own_go (fun _ k => XS.iconst X0.here hx rfl (hb hby d1_56) k) ?_
            show own_Go p.tables e below _ (s₁.setTop (mkF m 57 #[.val (.int p0)] [(.int (0 : Int32))]))
            refine own_endH X0 (by rw [hh, e0]; exact CR.trans (CHv.at X0 hZ hEL HC)) hS (by rw [e0]; exact hk) Bd.notSynchronized (v := some (.int (0 : Int32))) (fun h => by rw [Bd.returns] at h; cases h) (fun fs hr => retN X0 hx (t := .boolean) Bd.returns (by simp) (hb hby d1_57) hr) ?_ (by decide) (by decide)
            show own_Q1 Z p0 wc h0 n0 _ s₁.heap _
            rw [e0]
            exact ⟨by rw [own_f1, if_pos hc3, if_neg hc15, if_pos hc21, if_pos hc27, if_neg hc40], N0, (Keep.refl _ _)⟩
        · refine own_go (fun _ k => XS.icmpNo X0.here hx rfl (hb hby d1_27) rfl (flt hc27).1 k) ?_
          show own_Go p.tables e below _ (s₁.setTop (mkF m 30 #[.val (.int p0)] []))
          refine own_go (fun _ k => XS.iloadN X0.here hx rfl (hb hby d1_30) rfl k) ?_
          show own_Go p.tables e below _ (s₁.setTop (mkF m 31 #[.val (.int p0)] [(.int p0)]))
          refine own_go (fun _ k => XS.bipush X0.here hx rfl (hb hby d1_31) k) ?_
          show own_Go p.tables e below _ (s₁.setTop (mkF m 33 #[.val (.int p0)] [(.int (57 : Int32)), (.int p0)]))
          by_cases hc33 : (57 : Int32) < p0
          · refine own_go (fun _ k => XS.icmpNo X0.here hx rfl (hb hby d1_33) rfl (tlt hc33).2.2.2 k) ?_
            show own_Go p.tables e below _ (s₁.setTop (mkF m 36 #[.val (.int p0)] []))
            refine own_go (fun _ k => XS.iloadN X0.here hx rfl (hb hby d1_36) rfl k) ?_
            show own_Go p.tables e below _ (s₁.setTop (mkF m 37 #[.val (.int p0)] [(.int p0)]))
            refine own_go (fun _ k => XS.sipush X0.here hx rfl (hb hby d1_37) k) ?_
            show own_Go p.tables e below _ (s₁.setTop (mkF m 40 #[.val (.int p0)] [(.int (128 : Int32)), (.int p0)]))
            by_cases hc40 : p0 < (128 : Int32)
            · refine own_go (fun _ k => XS.icmpNo X0.here hx rfl (hb hby d1_40) rfl (tlt hc40).2.1 k) ?_
              show own_Go p.tables e below _ (s₁.setTop (mkF m 43 #[.val (.int p0)] []))
              obtain ⟨a7, T7, h7, k7, b7, kb7, X7, e7, E7, hS, hk, hZ, hown, Ex7, Fc7, Fv7, Av7, -, -, hC7, -, -, st7⟩ := ldcCH X0 hx hZ hown (hw _ (List.mem_of_getElem? (i := 4) rfl)) (own_wS hw) e0 hS hk hEL (List.mem_of_getElem? (i := 0) rfl) HC (vs := [(.int (33 : Int32)), (.int (35 : Int32)), (.int (36 : Int32)), (.int (37 : Int32)), (.int (38 : Int32)), (.int (39 : Int32)), (.int (42 : Int32)), (.int (43 : Int32)), (.int (45 : Int32)), (.int (46 : Int32)), (.int (94 : Int32)), (.int (95 : Int32)), (.int (96 : Int32)), (.int (124 : Int32)), (.int (126 : Int32))]) (z := (15 : Int32)) own_lit (by decide) (by decide) (g := (mkF m 43 #[.val (.int p0)] [])) rfl (hb hby d1_43) (n := 60) (by decide +kernel) (by decide) (by decide) (by decide)
              have CR := CR.trans hC7
              have HC := hC7.1
              have c7_0 := S_COMPACT_STRINGS.ext E7
              have Z7 : n0 ≤ h7.size := Nat.le_trans Z0 E7.1
              have K7 : Keep h0 h7 [] := (Keep.refl _ _).ext E7
              refine own_go st7 ?_
              show own_Go p.tables e below _ (T7.setTop (mkF m 45 #[.val (.int p0)] [(.ref a7)]))
              refine own_go (fun _ k => XS.iloadN X7.here hx rfl (hb hby d1_45) rfl k) ?_
              show own_Go p.tables e below _ (T7.setTop (mkF m 46 #[.val (.int p0)] [(.int p0), (.ref a7)]))
              obtain ⟨cq8, kq8, q8a, q8b, q8c⟩ := isOf hZ e7 Ex7
              obtain ⟨_, _, ⟨T8, L8, k8, n8⟩, -, X8, ⟨Lc8, hQ8, l8, y8, z8⟩, st8⟩ := X7.virtualBack hx (y := (⟨"java/lang/String", "indexOf", "(I)I"⟩ : MethodName)) (z := (⟨"java/lang/String", "indexOf", "(I)I"⟩ : MethodName)) hown (mvT hZ (hw _ (List.mem_of_getElem? (i := 12) rfl))) (mvT hZ (hw _ (List.mem_of_getElem? (i := 13) rfl))) (notFace_of_selects (args := #[]) (mvT hZ (hw _ (List.mem_of_getElem? (i := 15) rfl)))) (mvT hZ (hw _ (List.mem_of_getElem? (i := 15) rfl))) (mvT hZ (hw _ (List.mem_of_getElem? (i := 14) rfl))) (by decide) (backOf (W := 0) (rms10 l Z az hw [] a7 p0 b7 kb7 wc h7 n0 Z7 Fc7 Fv7 Ex7 Av7 c7_0 hwc) hZ (hw _ (List.mem_of_getElem? (i := 16) rfl)) (hw _ (List.mem_of_getElem? (i := 5) rfl)) (by decide) (by decide)) q8a q8c (g := (mkF m 46 #[.val (.int p0)] [(.int p0), (.ref a7)])) rfl (by rw [hml]; rfl) (Steps.refl _) (argsL := [(.int p0)]) (rest := []) (lenOf pd1_0 rfl) rfl (by show 2 * 0 + _ ≤ _; exact Nat.le_of_eq rfl) (hb hby d1_46) (fun _ _ => ⟨rfl, e7, (by decide : 2 + 0 ≤ _), (by decide : 64 + 0 ≤ _)⟩)
              dsimp only [Pt.U, Pt.locs, Pt.cells, Pt.slots] at X8 l8 y8 z8 st8 hQ8
              subst l8 y8 z8
              refine own_go (fun _ k => st8.trans k) ?_
              obtain ⟨rfl, N8q, e8⟩ := hQ8
              have N8 := Fr.app N0 N8q
              show own_Go p.tables e below _ (T8.setTop (mkF m 49 #[.val (.int p0)] [(.int (own_fs10 p0))]))
              by_cases hc49 : (own_fs10 p0) < (0 : Int32)
              · refine own_go (fun _ k => XS.ifYes X8.here hx rfl (pc0 := 49) (pc' := 56) rfl (hb hby d1_49) rfl ((if0 _ _).trans (tlt hc49).1) (by decide) (by decide) k) ?_
                show own_Go p.tables e below _ (T8.setTop (mkF m 56 #[.val (.int p0)] []))
                refine own_go (fun _ k => XS.iconst X8.here hx rfl (hb hby d1_56) k) ?_
                show own_Go p.tables e below _ (T8.setTop (mkF m 57 #[.val (.int p0)] [(.int (0 : Int32))]))
                refine own_endH X8 (by rw [hh, (e8 : T8.heap = h7)]; exact CR.trans (CHv.at X8 hZ hEL HC)) hS (by rw [(e8 : T8.heap = h7)]; exact hk) Bd.notSynchronized (v := some (.int (0 : Int32))) (fun h => by rw [Bd.returns] at h; cases h) (fun fs hr => retN X8 hx (t := .boolean) Bd.returns (by simp) (hb hby d1_57) hr) ?_ (by decide) (by decide)
                show own_Q1 Z p0 wc h0 n0 _ T8.heap _
                rw [(e8 : T8.heap = h7)]
                exact ⟨by rw [own_f1, if_pos hc3, if_neg hc15, if_pos hc21, if_neg hc27, if_pos hc33, if_pos hc40, if_pos hc49], N8, K7⟩
              · refine own_go (fun _ k => XS.ifNo X8.here hx rfl (hb hby d1_49) rfl ((if0 _ _).trans (flt hc49).1) k) ?_
                show own_Go p.tables e below _ (T8.setTop (mkF m 52 #[.val (.int p0)] []))
                refine own_go (fun _ k => XS.iconst X8.here hx rfl (hb hby d1_52) k) ?_
                show own_Go p.tables e below _ (T8.setTop (mkF m 53 #[.val (.int p0)] [(.int (1 : Int32))]))
                refine own_go (fun _ k => XS.goto X8.here hx rfl (pc0 := 53) (pc' := 57) rfl (hb hby d1_53) (by decide) (by decide) k) ?_
                show own_Go p.tables e below _ (T8.setTop (mkF m 57 #[.val (.int p0)] [(.int (1 : Int32))]))
                refine own_endH X8 (by rw [hh, (e8 : T8.heap = h7)]; exact CR.trans (CHv.at X8 hZ hEL HC)) hS (by rw [(e8 : T8.heap = h7)]; exact hk) Bd.notSynchronized (v := some (.int (1 : Int32))) (fun h => by rw [Bd.returns] at h; cases h) (fun fs hr => retN X8 hx (t := .boolean) Bd.returns (by simp) (hb hby d1_57) hr) ?_ (by decide) (by decide)
                show own_Q1 Z p0 wc h0 n0 _ T8.heap _
                rw [(e8 : T8.heap = h7)]
                exact ⟨by rw [own_f1, if_pos hc3, if_neg hc15, if_pos hc21, if_neg hc27, if_pos hc33, if_pos hc40, if_neg hc49], N8, K7⟩
            · refine own_go (fun _ k => XS.icmpYes X0.here hx rfl (pc0 := 40) (pc' := 56) rfl (hb hby d1_40) rfl (flt hc40).2.1 (by decide) (by decide) k) ?_
              show own_Go p.tables e below _ (s₁.setTop (mkF m 56 #[.val (.int p0)] []))
              refine own_go (fun _ k => XS.iconst X0.here hx rfl (hb hby d1_56) k) ?_
              show own_Go p.tables e below _ (s₁.setTop (mkF m 57 #[.val (.int p0)] [(.int (0 : Int32))]))
              refine own_endH X0 (by rw [hh, e0]; exact CR.trans (CHv.at X0 hZ hEL HC)) hS (by rw [e0]; exact hk) Bd.notSynchronized (v := some (.int (0 : Int32))) (fun h => by rw [Bd.returns] at h; cases h) (fun fs hr => retN X0 hx (t := .boolean) Bd.returns (by simp) (hb hby d1_57) hr) ?_ (by decide) (by decide)
              show own_Q1 Z p0 wc h0 n0 _ s₁.heap _
              rw [e0]
              exact ⟨by rw [own_f1, if_pos hc3, if_neg hc15, if_pos hc21, if_neg hc27, if_pos hc33, if_neg hc40], N0, (Keep.refl _ _)⟩
          · refine own_go (fun _ k => XS.icmpYes X0.here hx rfl (pc0 := 33) (pc' := 52) rfl (hb hby d1_33) rfl (flt hc33).2.2.2 (by decide) (by decide) k) ?_
            show own_Go p.tables e below _ (s₁.setTop (mkF m 52 #[.val (.int p0)] []))
            refine own_go (fun _ k => XS.iconst X0.here hx rfl (hb hby d1_52) k) ?_
            show own_Go p.tables e below _ (s₁.setTop (mkF m 53 #[.val (.int p0)] [(.int (1 : Int32))]))
            refine own_go (fun _ k => XS.goto X0.here hx rfl (pc0 := 53) (pc' := 57) rfl (hb hby d1_53) (by decide) (by decide) k) ?_
            show own_Go p.tables e below _ (s₁.setTop (mkF m 57 #[.val (.int p0)] [(.int (1 : Int32))]))
            refine own_endH X0 (by rw [hh, e0]; exact CR.trans (CHv.at X0 hZ hEL HC)) hS (by rw [e0]; exact hk) Bd.notSynchronized (v := some (.int (1 : Int32))) (fun h => by rw [Bd.returns] at h; cases h) (fun fs hr => retN X0 hx (t := .boolean) Bd.returns (by simp) (hb hby d1_57) hr) ?_ (by decide) (by decide)
            show own_Q1 Z p0 wc h0 n0 _ s₁.heap _
            rw [e0]
            exact ⟨by rw [own_f1, if_pos hc3, if_neg hc15, if_pos hc21, if_neg hc27, if_neg hc33], N0, (Keep.refl _ _)⟩
      · refine own_go (fun _ k => XS.icmpYes X0.here hx rfl (pc0 := 21) (pc' := 52) rfl (hb hby d1_21) rfl (flt hc21).2.2.2 (by decide) (by decide) k) ?_
        show own_Go p.tables e below _ (s₁.setTop (mkF m 52 #[.val (.int p0)] []))
        refine own_go (fun _ k => XS.iconst X0.here hx rfl (hb hby d1_52) k) ?_
        show own_Go p.tables e below _ (s₁.setTop (mkF m 53 #[.val (.int p0)] [(.int (1 : Int32))]))
        refine own_go (fun _ k => XS.goto X0.here hx rfl (pc0 := 53) (pc' := 57) rfl (hb hby d1_53) (by decide) (by decide) k) ?_
        show own_Go p.tables e below _ (s₁.setTop (mkF m 57 #[.val (.int p0)] [(.int (1 : Int32))]))
        refine own_endH X0 (by rw [hh, e0]; exact CR.trans (CHv.at X0 hZ hEL HC)) hS (by rw [e0]; exact hk) Bd.notSynchronized (v := some (.int (1 : Int32))) (fun h => by rw [Bd.returns] at h; cases h) (fun fs hr => retN X0 hx (t := .boolean) Bd.returns (by simp) (hb hby d1_57) hr) ?_ (by decide) (by decide)
        show own_Q1 Z p0 wc h0 n0 _ s₁.heap _
        rw [e0]
        exact ⟨by rw [own_f1, if_pos hc3, if_neg hc15, if_neg hc21], N0, (Keep.refl _ _)⟩
  · refine own_go (fun _ k => XS.icmpNo X0.here hx rfl (hb hby d1_3) rfl (flt hc3).1 k) ?_
    show own_Go p.tables e below _ (s₁.setTop (mkF m 6 #[.val (.int p0)] []))
    refine own_go (fun _ k => XS.iloadN X0.here hx rfl (hb hby d1_6) rfl k) ?_
    show own_Go p.tables e below _ (s₁.setTop (mkF m 7 #[.val (.int p0)] [(.int p0)]))
    refine own_go (fun _ k => XS.bipush X0.here hx rfl (hb hby d1_7) k) ?_
    show own_Go p.tables e below _ (s₁.setTop (mkF m 9 #[.val (.int p0)] [(.int (122 : Int32)), (.int p0)]))
    by_cases hc9 : (122 : Int32) < p0
    · refine own_go (fun _ k => XS.icmpNo X0.here hx rfl (hb hby d1_9) rfl (tlt hc9).2.2.2 k) ?_
      show own_Go p.tables e below _ (s₁.setTop (mkF m 12 #[.val (.int p0)] []))
      refine own_go (fun _ k => XS.iloadN X0.here hx rfl (hb hby d1_12) rfl k) ?_
      show own_Go p.tables e below _ (s₁.setTop (mkF m 13 #[.val (.int p0)] [(.int p0)]))
      refine own_go (fun _ k => XS.bipush X0.here hx rfl (hb hby d1_13) k) ?_
      show own_Go p.tables e below _ (s₁.setTop (mkF m 15 #[.val (.int p0)] [(.int (65 : Int32)), (.int p0)]))
      by_cases hc15 : p0 < (65 : Int32)
      · refine own_go (fun _ k => XS.icmpYes X0.here hx rfl (pc0 := 15) (pc' := 24) rfl (hb hby d1_15) rfl (tlt hc15).1 (by decide) (by decide) k) ?_
        show own_Go p.tables e below _ (s₁.setTop (mkF m 24 #[.val (.int p0)] []))
        refine own_go (fun _ k => XS.iloadN X0.here hx rfl (hb hby d1_24) rfl k) ?_
        show own_Go p.tables e below _ (s₁.setTop (mkF m 25 #[.val (.int p0)] [(.int p0)]))
        refine own_go (fun _ k => XS.bipush X0.here hx rfl (hb hby d1_25) k) ?_
        show own_Go p.tables e below _ (s₁.setTop (mkF m 27 #[.val (.int p0)] [(.int (48 : Int32)), (.int p0)]))
        by_cases hc27 : p0 < (48 : Int32)
        · refine own_go (fun _ k => XS.icmpYes X0.here hx rfl (pc0 := 27) (pc' := 36) rfl (hb hby d1_27) rfl (tlt hc27).1 (by decide) (by decide) k) ?_
          show own_Go p.tables e below _ (s₁.setTop (mkF m 36 #[.val (.int p0)] []))
          refine own_go (fun _ k => XS.iloadN X0.here hx rfl (hb hby d1_36) rfl k) ?_
          show own_Go p.tables e below _ (s₁.setTop (mkF m 37 #[.val (.int p0)] [(.int p0)]))
          refine own_go (fun _ k => XS.sipush X0.here hx rfl (hb hby d1_37) k) ?_
          show own_Go p.tables e below _ (s₁.setTop (mkF m 40 #[.val (.int p0)] [(.int (128 : Int32)), (.int p0)]))
          by_cases hc40 : p0 < (128 : Int32)
          · refine own_go (fun _ k => XS.icmpNo X0.here hx rfl (hb hby d1_40) rfl (tlt hc40).2.1 k) ?_
            show own_Go p.tables e below _ (s₁.setTop (mkF m 43 #[.val (.int p0)] []))
            obtain ⟨a9, T9, h9, k9, b9, kb9, X9, e9, E9, hS, hk, hZ, hown, Ex9, Fc9, Fv9, Av9, -, -, hC9, -, -, st9⟩ := ldcCH X0 hx hZ hown (hw _ (List.mem_of_getElem? (i := 4) rfl)) (own_wS hw) e0 hS hk hEL (List.mem_of_getElem? (i := 0) rfl) HC (vs := [(.int (33 : Int32)), (.int (35 : Int32)), (.int (36 : Int32)), (.int (37 : Int32)), (.int (38 : Int32)), (.int (39 : Int32)), (.int (42 : Int32)), (.int (43 : Int32)), (.int (45 : Int32)), (.int (46 : Int32)), (.int (94 : Int32)), (.int (95 : Int32)), (.int (96 : Int32)), (.int (124 : Int32)), (.int (126 : Int32))]) (z := (15 : Int32)) own_lit (by decide) (by decide) (g := (mkF m 43 #[.val (.int p0)] [])) rfl (hb hby d1_43) (n := 60) (by decide +kernel) (by decide) (by decide) (by decide)
            have CR := CR.trans hC9
            have HC := hC9.1
            have c9_0 := S_COMPACT_STRINGS.ext E9
            have Z9 : n0 ≤ h9.size := Nat.le_trans Z0 E9.1
            have K9 : Keep h0 h9 [] := (Keep.refl _ _).ext E9
            refine own_go st9 ?_
            show own_Go p.tables e below _ (T9.setTop (mkF m 45 #[.val (.int p0)] [(.ref a9)]))
            refine own_go (fun _ k => XS.iloadN X9.here hx rfl (hb hby d1_45) rfl k) ?_
            show own_Go p.tables e below _ (T9.setTop (mkF m 46 #[.val (.int p0)] [(.int p0), (.ref a9)]))
            obtain ⟨cq10, kq10, q10a, q10b, q10c⟩ := isOf hZ e9 Ex9
            obtain ⟨_, _, ⟨T10, L10, k10, n10⟩, -, X10, ⟨Lc10, hQ10, l10, y10, z10⟩, st10⟩ := X9.virtualBack hx (y := (⟨"java/lang/String", "indexOf", "(I)I"⟩ : MethodName)) (z := (⟨"java/lang/String", "indexOf", "(I)I"⟩ : MethodName)) hown (mvT hZ (hw _ (List.mem_of_getElem? (i := 12) rfl))) (mvT hZ (hw _ (List.mem_of_getElem? (i := 13) rfl))) (notFace_of_selects (args := #[]) (mvT hZ (hw _ (List.mem_of_getElem? (i := 15) rfl)))) (mvT hZ (hw _ (List.mem_of_getElem? (i := 15) rfl))) (mvT hZ (hw _ (List.mem_of_getElem? (i := 14) rfl))) (by decide) (backOf (W := 0) (rms10 l Z az hw [] a9 p0 b9 kb9 wc h9 n0 Z9 Fc9 Fv9 Ex9 Av9 c9_0 hwc) hZ (hw _ (List.mem_of_getElem? (i := 16) rfl)) (hw _ (List.mem_of_getElem? (i := 5) rfl)) (by decide) (by decide)) q10a q10c (g := (mkF m 46 #[.val (.int p0)] [(.int p0), (.ref a9)])) rfl (by rw [hml]; rfl) (Steps.refl _) (argsL := [(.int p0)]) (rest := []) (lenOf pd1_0 rfl) rfl (by show 2 * 0 + _ ≤ _; exact Nat.le_of_eq rfl) (hb hby d1_46) (fun _ _ => ⟨rfl, e9, (by decide : 2 + 0 ≤ _), (by decide : 64 + 0 ≤ _)⟩)
            dsimp only [Pt.U, Pt.locs, Pt.cells, Pt.slots] at X10 l10 y10 z10 st10 hQ10
            subst l10 y10 z10
            refine own_go (fun _ k => st10.trans k) ?_
            obtain ⟨rfl, N10q, e10⟩ := hQ10
            have N10 := Fr.app N0 N10q
            show own_Go p.tables e below _ (T10.setTop (mkF m 49 #[.val (.int p0)] [(.int (own_fs10 p0))]))
            by_cases hc49 : (own_fs10 p0) < (0 : Int32)
            · refine own_go (fun _ k => XS.ifYes X10.here hx rfl (pc0 := 49) (pc' := 56) rfl (hb hby d1_49) rfl ((if0 _ _).trans (tlt hc49).1) (by decide) (by decide) k) ?_
              show own_Go p.tables e below _ (T10.setTop (mkF m 56 #[.val (.int p0)] []))
              refine own_go (fun _ k => XS.iconst X10.here hx rfl (hb hby d1_56) k) ?_
              show own_Go p.tables e below _ (T10.setTop (mkF m 57 #[.val (.int p0)] [(.int (0 : Int32))]))
              refine own_endH X10 (by rw [hh, (e10 : T10.heap = h9)]; exact CR.trans (CHv.at X10 hZ hEL HC)) hS (by rw [(e10 : T10.heap = h9)]; exact hk) Bd.notSynchronized (v := some (.int (0 : Int32))) (fun h => by rw [Bd.returns] at h; cases h) (fun fs hr => retN X10 hx (t := .boolean) Bd.returns (by simp) (hb hby d1_57) hr) ?_ (by decide) (by decide)
              show own_Q1 Z p0 wc h0 n0 _ T10.heap _
              rw [(e10 : T10.heap = h9)]
              exact ⟨by rw [own_f1, if_neg hc3, if_pos hc9, if_pos hc15, if_pos hc27, if_pos hc40, if_pos hc49], N10, K9⟩
            · refine own_go (fun _ k => XS.ifNo X10.here hx rfl (hb hby d1_49) rfl ((if0 _ _).trans (flt hc49).1) k) ?_
              show own_Go p.tables e below _ (T10.setTop (mkF m 52 #[.val (.int p0)] []))
              refine own_go (fun _ k => XS.iconst X10.here hx rfl (hb hby d1_52) k) ?_
              show own_Go p.tables e below _ (T10.setTop (mkF m 53 #[.val (.int p0)] [(.int (1 : Int32))]))
              refine own_go (fun _ k => XS.goto X10.here hx rfl (pc0 := 53) (pc' := 57) rfl (hb hby d1_53) (by decide) (by decide) k) ?_
              show own_Go p.tables e below _ (T10.setTop (mkF m 57 #[.val (.int p0)] [(.int (1 : Int32))]))
              refine own_endH X10 (by rw [hh, (e10 : T10.heap = h9)]; exact CR.trans (CHv.at X10 hZ hEL HC)) hS (by rw [(e10 : T10.heap = h9)]; exact hk) Bd.notSynchronized (v := some (.int (1 : Int32))) (fun h => by rw [Bd.returns] at h; cases h) (fun fs hr => retN X10 hx (t := .boolean) Bd.returns (by simp) (hb hby d1_57) hr) ?_ (by decide) (by decide)
              show own_Q1 Z p0 wc h0 n0 _ T10.heap _
              rw [(e10 : T10.heap = h9)]
              exact ⟨by rw [own_f1, if_neg hc3, if_pos hc9, if_pos hc15, if_pos hc27, if_pos hc40, if_neg hc49], N10, K9⟩
          · refine own_go (fun _ k => XS.icmpYes X0.here hx rfl (pc0 := 40) (pc' := 56) rfl (hb hby d1_40) rfl (flt hc40).2.1 (by decide) (by decide) k) ?_
            show own_Go p.tables e below _ (s₁.setTop (mkF m 56 #[.val (.int p0)] []))
            refine own_go (fun _ k => XS.iconst X0.here hx rfl (hb hby d1_56) k) ?_
            show own_Go p.tables e below _ (s₁.setTop (mkF m 57 #[.val (.int p0)] [(.int (0 : Int32))]))
            refine own_endH X0 (by rw [hh, e0]; exact CR.trans (CHv.at X0 hZ hEL HC)) hS (by rw [e0]; exact hk) Bd.notSynchronized (v := some (.int (0 : Int32))) (fun h => by rw [Bd.returns] at h; cases h) (fun fs hr => retN X0 hx (t := .boolean) Bd.returns (by simp) (hb hby d1_57) hr) ?_ (by decide) (by decide)
            show own_Q1 Z p0 wc h0 n0 _ s₁.heap _
            rw [e0]
            exact ⟨by rw [own_f1, if_neg hc3, if_pos hc9, if_pos hc15, if_pos hc27, if_neg hc40], N0, (Keep.refl _ _)⟩
        · refine own_go (fun _ k => XS.icmpNo X0.here hx rfl (hb hby d1_27) rfl (flt hc27).1 k) ?_
          show own_Go p.tables e below _ (s₁.setTop (mkF m 30 #[.val (.int p0)] []))
          refine own_go (fun _ k => XS.iloadN X0.here hx rfl (hb hby d1_30) rfl k) ?_
          show own_Go p.tables e below _ (s₁.setTop (mkF m 31 #[.val (.int p0)] [(.int p0)]))
          refine own_go (fun _ k => XS.bipush X0.here hx rfl (hb hby d1_31) k) ?_
          show own_Go p.tables e below _ (s₁.setTop (mkF m 33 #[.val (.int p0)] [(.int (57 : Int32)), (.int p0)]))
          by_cases hc33 : (57 : Int32) < p0
          · refine own_go (fun _ k => XS.icmpNo X0.here hx rfl (hb hby d1_33) rfl (tlt hc33).2.2.2 k) ?_
            show own_Go p.tables e below _ (s₁.setTop (mkF m 36 #[.val (.int p0)] []))
            refine own_go (fun _ k => XS.iloadN X0.here hx rfl (hb hby d1_36) rfl k) ?_
            show own_Go p.tables e below _ (s₁.setTop (mkF m 37 #[.val (.int p0)] [(.int p0)]))
            refine own_go (fun _ k => XS.sipush X0.here hx rfl (hb hby d1_37) k) ?_
            show own_Go p.tables e below _ (s₁.setTop (mkF m 40 #[.val (.int p0)] [(.int (128 : Int32)), (.int p0)]))
            by_cases hc40 : p0 < (128 : Int32)
            · refine own_go (fun _ k => XS.icmpNo X0.here hx rfl (hb hby d1_40) rfl (tlt hc40).2.1 k) ?_
              show own_Go p.tables e below _ (s₁.setTop (mkF m 43 #[.val (.int p0)] []))
              obtain ⟨a11, T11, h11, k11, b11, kb11, X11, e11, E11, hS, hk, hZ, hown, Ex11, Fc11, Fv11, Av11, -, -, hC11, -, -, st11⟩ := ldcCH X0 hx hZ hown (hw _ (List.mem_of_getElem? (i := 4) rfl)) (own_wS hw) e0 hS hk hEL (List.mem_of_getElem? (i := 0) rfl) HC (vs := [(.int (33 : Int32)), (.int (35 : Int32)), (.int (36 : Int32)), (.int (37 : Int32)), (.int (38 : Int32)), (.int (39 : Int32)), (.int (42 : Int32)), (.int (43 : Int32)), (.int (45 : Int32)), (.int (46 : Int32)), (.int (94 : Int32)), (.int (95 : Int32)), (.int (96 : Int32)), (.int (124 : Int32)), (.int (126 : Int32))]) (z := (15 : Int32)) own_lit (by decide) (by decide) (g := (mkF m 43 #[.val (.int p0)] [])) rfl (hb hby d1_43) (n := 60) (by decide +kernel) (by decide) (by decide) (by decide)
              have CR := CR.trans hC11
              have HC := hC11.1
              have c11_0 := S_COMPACT_STRINGS.ext E11
              have Z11 : n0 ≤ h11.size := Nat.le_trans Z0 E11.1
              have K11 : Keep h0 h11 [] := (Keep.refl _ _).ext E11
              refine own_go st11 ?_
              show own_Go p.tables e below _ (T11.setTop (mkF m 45 #[.val (.int p0)] [(.ref a11)]))
              refine own_go (fun _ k => XS.iloadN X11.here hx rfl (hb hby d1_45) rfl k) ?_
              show own_Go p.tables e below _ (T11.setTop (mkF m 46 #[.val (.int p0)] [(.int p0), (.ref a11)]))
              obtain ⟨cq12, kq12, q12a, q12b, q12c⟩ := isOf hZ e11 Ex11
              obtain ⟨_, _, ⟨T12, L12, k12, n12⟩, -, X12, ⟨Lc12, hQ12, l12, y12, z12⟩, st12⟩ := X11.virtualBack hx (y := (⟨"java/lang/String", "indexOf", "(I)I"⟩ : MethodName)) (z := (⟨"java/lang/String", "indexOf", "(I)I"⟩ : MethodName)) hown (mvT hZ (hw _ (List.mem_of_getElem? (i := 12) rfl))) (mvT hZ (hw _ (List.mem_of_getElem? (i := 13) rfl))) (notFace_of_selects (args := #[]) (mvT hZ (hw _ (List.mem_of_getElem? (i := 15) rfl)))) (mvT hZ (hw _ (List.mem_of_getElem? (i := 15) rfl))) (mvT hZ (hw _ (List.mem_of_getElem? (i := 14) rfl))) (by decide) (backOf (W := 0) (rms10 l Z az hw [] a11 p0 b11 kb11 wc h11 n0 Z11 Fc11 Fv11 Ex11 Av11 c11_0 hwc) hZ (hw _ (List.mem_of_getElem? (i := 16) rfl)) (hw _ (List.mem_of_getElem? (i := 5) rfl)) (by decide) (by decide)) q12a q12c (g := (mkF m 46 #[.val (.int p0)] [(.int p0), (.ref a11)])) rfl (by rw [hml]; rfl) (Steps.refl _) (argsL := [(.int p0)]) (rest := []) (lenOf pd1_0 rfl) rfl (by show 2 * 0 + _ ≤ _; exact Nat.le_of_eq rfl) (hb hby d1_46) (fun _ _ => ⟨rfl, e11, (by decide : 2 + 0 ≤ _), (by decide : 64 + 0 ≤ _)⟩)
              dsimp only [Pt.U, Pt.locs, Pt.cells, Pt.slots] at X12 l12 y12 z12 st12 hQ12
              subst l12 y12 z12
              refine own_go (fun _ k => st12.trans k) ?_
              obtain ⟨rfl, N12q, e12⟩ := hQ12
              have N12 := Fr.app N0 N12q
              show own_Go p.tables e below _ (T12.setTop (mkF m 49 #[.val (.int p0)] [(.int (own_fs10 p0))]))
              by_cases hc49 : (own_fs10 p0) < (0 : Int32)
              · refine own_go (fun _ k => XS.ifYes X12.here hx rfl (pc0 := 49) (pc' := 56) rfl (hb hby d1_49) rfl ((if0 _ _).trans (tlt hc49).1) (by decide) (by decide) k) ?_
                show own_Go p.tables e below _ (T12.setTop (mkF m 56 #[.val (.int p0)] []))
                refine own_go (fun _ k => XS.iconst X12.here hx rfl (hb hby d1_56) k) ?_
                show own_Go p.tables e below _ (T12.setTop (mkF m 57 #[.val (.int p0)] [(.int (0 : Int32))]))
                refine own_endH X12 (by rw [hh, (e12 : T12.heap = h11)]; exact CR.trans (CHv.at X12 hZ hEL HC)) hS (by rw [(e12 : T12.heap = h11)]; exact hk) Bd.notSynchronized (v := some (.int (0 : Int32))) (fun h => by rw [Bd.returns] at h; cases h) (fun fs hr => retN X12 hx (t := .boolean) Bd.returns (by simp) (hb hby d1_57) hr) ?_ (by decide) (by decide)
                show own_Q1 Z p0 wc h0 n0 _ T12.heap _
                rw [(e12 : T12.heap = h11)]
                exact ⟨by rw [own_f1, if_neg hc3, if_pos hc9, if_pos hc15, if_neg hc27, if_pos hc33, if_pos hc40, if_pos hc49], N12, K11⟩
              · refine own_go (fun _ k => XS.ifNo X12.here hx rfl (hb hby d1_49) rfl ((if0 _ _).trans (flt hc49).1) k) ?_
                show own_Go p.tables e below _ (T12.setTop (mkF m 52 #[.val (.int p0)] []))
                refine own_go (fun _ k => XS.iconst X12.here hx rfl (hb hby d1_52) k) ?_
                show own_Go p.tables e below _ (T12.setTop (mkF m 53 #[.val (.int p0)] [(.int (1 : Int32))]))
                refine own_go (fun _ k => XS.goto X12.here hx rfl (pc0 := 53) (pc' := 57) rfl (hb hby d1_53) (by decide) (by decide) k) ?_
                show own_Go p.tables e below _ (T12.setTop (mkF m 57 #[.val (.int p0)] [(.int (1 : Int32))]))
                refine own_endH X12 (by rw [hh, (e12 : T12.heap = h11)]; exact CR.trans (CHv.at X12 hZ hEL HC)) hS (by rw [(e12 : T12.heap = h11)]; exact hk) Bd.notSynchronized (v := some (.int (1 : Int32))) (fun h => by rw [Bd.returns] at h; cases h) (fun fs hr => retN X12 hx (t := .boolean) Bd.returns (by simp) (hb hby d1_57) hr) ?_ (by decide) (by decide)
                show own_Q1 Z p0 wc h0 n0 _ T12.heap _
                rw [(e12 : T12.heap = h11)]
                exact ⟨by rw [own_f1, if_neg hc3, if_pos hc9, if_pos hc15, if_neg hc27, if_pos hc33, if_pos hc40, if_neg hc49], N12, K11⟩
            · refine own_go (fun _ k => XS.icmpYes X0.here hx rfl (pc0 := 40) (pc' := 56) rfl (hb hby d1_40) rfl (flt hc40).2.1 (by decide) (by decide) k) ?_
              show own_Go p.tables e below _ (s₁.setTop (mkF m 56 #[.val (.int p0)] []))
              refine own_go (fun _ k => XS.iconst X0.here hx rfl (hb hby d1_56) k) ?_
              show own_Go p.tables e below _ (s₁.setTop (mkF m 57 #[.val (.int p0)] [(.int (0 : Int32))]))
              refine own_endH X0 (by rw [hh, e0]; exact CR.trans (CHv.at X0 hZ hEL HC)) hS (by rw [e0]; exact hk) Bd.notSynchronized (v := some (.int (0 : Int32))) (fun h => by rw [Bd.returns] at h; cases h) (fun fs hr => retN X0 hx (t := .boolean) Bd.returns (by simp) (hb hby d1_57) hr) ?_ (by decide) (by decide)
              show own_Q1 Z p0 wc h0 n0 _ s₁.heap _
              rw [e0]
              exact ⟨by rw [own_f1, if_neg hc3, if_pos hc9, if_pos hc15, if_neg hc27, if_pos hc33, if_neg hc40], N0, (Keep.refl _ _)⟩
          · refine own_go (fun _ k => XS.icmpYes X0.here hx rfl (pc0 := 33) (pc' := 52) rfl (hb hby d1_33) rfl (flt hc33).2.2.2 (by decide) (by decide) k) ?_
            show own_Go p.tables e below _ (s₁.setTop (mkF m 52 #[.val (.int p0)] []))
            refine own_go (fun _ k => XS.iconst X0.here hx rfl (hb hby d1_52) k) ?_
            show own_Go p.tables e below _ (s₁.setTop (mkF m 53 #[.val (.int p0)] [(.int (1 : Int32))]))
            refine own_go (fun _ k => XS.goto X0.here hx rfl (pc0 := 53) (pc' := 57) rfl (hb hby d1_53) (by decide) (by decide) k) ?_
            show own_Go p.tables e below _ (s₁.setTop (mkF m 57 #[.val (.int p0)] [(.int (1 : Int32))]))
            refine own_endH X0 (by rw [hh, e0]; exact CR.trans (CHv.at X0 hZ hEL HC)) hS (by rw [e0]; exact hk) Bd.notSynchronized (v := some (.int (1 : Int32))) (fun h => by rw [Bd.returns] at h; cases h) (fun fs hr => retN X0 hx (t := .boolean) Bd.returns (by simp) (hb hby d1_57) hr) ?_ (by decide) (by decide)
            show own_Q1 Z p0 wc h0 n0 _ s₁.heap _
            rw [e0]
            exact ⟨by rw [own_f1, if_neg hc3, if_pos hc9, if_pos hc15, if_neg hc27, if_neg hc33], N0, (Keep.refl _ _)⟩
      · refine own_go (fun _ k => XS.icmpNo X0.here hx rfl (hb hby d1_15) rfl (flt hc15).1 k) ?_
        show own_Go p.tables e below _ (s₁.setTop (mkF m 18 #[.val (.int p0)] []))
        refine own_go (fun _ k => XS.iloadN X0.here hx rfl (hb hby d1_18) rfl k) ?_
        show own_Go p.tables e below _ (s₁.setTop (mkF m 19 #[.val (.int p0)] [(.int p0)]))
        refine own_go (fun _ k => XS.bipush X0.here hx rfl (hb hby d1_19) k) ?_
        show own_Go p.tables e below _ (s₁.setTop (mkF m 21 #[.val (.int p0)] [(.int (90 : Int32)), (.int p0)]))
        by_cases hc21 : (90 : Int32) < p0
        · refine own_go (fun _ k => XS.icmpNo X0.here hx rfl (hb hby d1_21) rfl (tlt hc21).2.2.2 k) ?_
          show own_Go p.tables e below _ (s₁.setTop (mkF m 24 #[.val (.int p0)] []))
          refine own_go (fun _ k => XS.iloadN X0.here hx rfl (hb hby d1_24) rfl k) ?_
          show own_Go p.tables e below _ (s₁.setTop (mkF m 25 #[.val (.int p0)] [(.int p0)]))
          refine own_go (fun _ k => XS.bipush X0.here hx rfl (hb hby d1_25) k) ?_
          show own_Go p.tables e below _ (s₁.setTop (mkF m 27 #[.val (.int p0)] [(.int (48 : Int32)), (.int p0)]))
          by_cases hc27 : p0 < (48 : Int32)
          · refine own_go (fun _ k => XS.icmpYes X0.here hx rfl (pc0 := 27) (pc' := 36) rfl (hb hby d1_27) rfl (tlt hc27).1 (by decide) (by decide) k) ?_
            show own_Go p.tables e below _ (s₁.setTop (mkF m 36 #[.val (.int p0)] []))
            refine own_go (fun _ k => XS.iloadN X0.here hx rfl (hb hby d1_36) rfl k) ?_
            show own_Go p.tables e below _ (s₁.setTop (mkF m 37 #[.val (.int p0)] [(.int p0)]))
            refine own_go (fun _ k => XS.sipush X0.here hx rfl (hb hby d1_37) k) ?_
            show own_Go p.tables e below _ (s₁.setTop (mkF m 40 #[.val (.int p0)] [(.int (128 : Int32)), (.int p0)]))
            by_cases hc40 : p0 < (128 : Int32)
            · refine own_go (fun _ k => XS.icmpNo X0.here hx rfl (hb hby d1_40) rfl (tlt hc40).2.1 k) ?_
              show own_Go p.tables e below _ (s₁.setTop (mkF m 43 #[.val (.int p0)] []))
              obtain ⟨a13, T13, h13, k13, b13, kb13, X13, e13, E13, hS, hk, hZ, hown, Ex13, Fc13, Fv13, Av13, -, -, hC13, -, -, st13⟩ := ldcCH X0 hx hZ hown (hw _ (List.mem_of_getElem? (i := 4) rfl)) (own_wS hw) e0 hS hk hEL (List.mem_of_getElem? (i := 0) rfl) HC (vs := [(.int (33 : Int32)), (.int (35 : Int32)), (.int (36 : Int32)), (.int (37 : Int32)), (.int (38 : Int32)), (.int (39 : Int32)), (.int (42 : Int32)), (.int (43 : Int32)), (.int (45 : Int32)), (.int (46 : Int32)), (.int (94 : Int32)), (.int (95 : Int32)), (.int (96 : Int32)), (.int (124 : Int32)), (.int (126 : Int32))]) (z := (15 : Int32)) own_lit (by decide) (by decide) (g := (mkF m 43 #[.val (.int p0)] [])) rfl (hb hby d1_43) (n := 60) (by decide +kernel) (by decide) (by decide) (by decide)
              have CR := CR.trans hC13
              have HC := hC13.1
              have c13_0 := S_COMPACT_STRINGS.ext E13
              have Z13 : n0 ≤ h13.size := Nat.le_trans Z0 E13.1
              have K13 : Keep h0 h13 [] := (Keep.refl _ _).ext E13
              refine own_go st13 ?_
              show own_Go p.tables e below _ (T13.setTop (mkF m 45 #[.val (.int p0)] [(.ref a13)]))
              refine own_go (fun _ k => XS.iloadN X13.here hx rfl (hb hby d1_45) rfl k) ?_
              show own_Go p.tables e below _ (T13.setTop (mkF m 46 #[.val (.int p0)] [(.int p0), (.ref a13)]))
              obtain ⟨cq14, kq14, q14a, q14b, q14c⟩ := isOf hZ e13 Ex13
              obtain ⟨_, _, ⟨T14, L14, k14, n14⟩, -, X14, ⟨Lc14, hQ14, l14, y14, z14⟩, st14⟩ := X13.virtualBack hx (y := (⟨"java/lang/String", "indexOf", "(I)I"⟩ : MethodName)) (z := (⟨"java/lang/String", "indexOf", "(I)I"⟩ : MethodName)) hown (mvT hZ (hw _ (List.mem_of_getElem? (i := 12) rfl))) (mvT hZ (hw _ (List.mem_of_getElem? (i := 13) rfl))) (notFace_of_selects (args := #[]) (mvT hZ (hw _ (List.mem_of_getElem? (i := 15) rfl)))) (mvT hZ (hw _ (List.mem_of_getElem? (i := 15) rfl))) (mvT hZ (hw _ (List.mem_of_getElem? (i := 14) rfl))) (by decide) (backOf (W := 0) (rms10 l Z az hw [] a13 p0 b13 kb13 wc h13 n0 Z13 Fc13 Fv13 Ex13 Av13 c13_0 hwc) hZ (hw _ (List.mem_of_getElem? (i := 16) rfl)) (hw _ (List.mem_of_getElem? (i := 5) rfl)) (by decide) (by decide)) q14a q14c (g := (mkF m 46 #[.val (.int p0)] [(.int p0), (.ref a13)])) rfl (by rw [hml]; rfl) (Steps.refl _) (argsL := [(.int p0)]) (rest := []) (lenOf pd1_0 rfl) rfl (by show 2 * 0 + _ ≤ _; exact Nat.le_of_eq rfl) (hb hby d1_46) (fun _ _ => ⟨rfl, e13, (by decide : 2 + 0 ≤ _), (by decide : 64 + 0 ≤ _)⟩)
              dsimp only [Pt.U, Pt.locs, Pt.cells, Pt.slots] at X14 l14 y14 z14 st14 hQ14
              subst l14 y14 z14
              refine own_go (fun _ k => st14.trans k) ?_
              obtain ⟨rfl, N14q, e14⟩ := hQ14
              have N14 := Fr.app N0 N14q
              show own_Go p.tables e below _ (T14.setTop (mkF m 49 #[.val (.int p0)] [(.int (own_fs10 p0))]))
              by_cases hc49 : (own_fs10 p0) < (0 : Int32)
              · refine own_go (fun _ k => XS.ifYes X14.here hx rfl (pc0 := 49) (pc' := 56) rfl (hb hby d1_49) rfl ((if0 _ _).trans (tlt hc49).1) (by decide) (by decide) k) ?_
                show own_Go p.tables e below _ (T14.setTop (mkF m 56 #[.val (.int p0)] []))
                refine own_go (fun _ k => XS.iconst X14.here hx rfl (hb hby d1_56) k) ?_
                show own_Go p.tables e below _ (T14.setTop (mkF m 57 #[.val (.int p0)] [(.int (0 : Int32))]))
                refine own_endH X14 (by rw [hh, (e14 : T14.heap = h13)]; exact CR.trans (CHv.at X14 hZ hEL HC)) hS (by rw [(e14 : T14.heap = h13)]; exact hk) Bd.notSynchronized (v := some (.int (0 : Int32))) (fun h => by rw [Bd.returns] at h; cases h) (fun fs hr => retN X14 hx (t := .boolean) Bd.returns (by simp) (hb hby d1_57) hr) ?_ (by decide) (by decide)
                show own_Q1 Z p0 wc h0 n0 _ T14.heap _
                rw [(e14 : T14.heap = h13)]
                exact ⟨by rw [own_f1, if_neg hc3, if_pos hc9, if_neg hc15, if_pos hc21, if_pos hc27, if_pos hc40, if_pos hc49], N14, K13⟩
              · refine own_go (fun _ k => XS.ifNo X14.here hx rfl (hb hby d1_49) rfl ((if0 _ _).trans (flt hc49).1) k) ?_
                show own_Go p.tables e below _ (T14.setTop (mkF m 52 #[.val (.int p0)] []))
                refine own_go (fun _ k => XS.iconst X14.here hx rfl (hb hby d1_52) k) ?_
                show own_Go p.tables e below _ (T14.setTop (mkF m 53 #[.val (.int p0)] [(.int (1 : Int32))]))
                refine own_go (fun _ k => XS.goto X14.here hx rfl (pc0 := 53) (pc' := 57) rfl (hb hby d1_53) (by decide) (by decide) k) ?_
                show own_Go p.tables e below _ (T14.setTop (mkF m 57 #[.val (.int p0)] [(.int (1 : Int32))]))
                refine own_endH X14 (by rw [hh, (e14 : T14.heap = h13)]; exact CR.trans (CHv.at X14 hZ hEL HC)) hS (by rw [(e14 : T14.heap = h13)]; exact hk) Bd.notSynchronized (v := some (.int (1 : Int32))) (fun h => by rw [Bd.returns] at h; cases h) (fun fs hr => retN X14 hx (t := .boolean) Bd.returns (by simp) (hb hby d1_57) hr) ?_ (by decide) (by decide)
                show own_Q1 Z p0 wc h0 n0 _ T14.heap _
                rw [(e14 : T14.heap = h13)]
                exact ⟨by rw [own_f1, if_neg hc3, if_pos hc9, if_neg hc15, if_pos hc21, if_pos hc27, if_pos hc40, if_neg hc49], N14, K13⟩
            · refine own_go (fun _ k => XS.icmpYes X0.here hx rfl (pc0 := 40) (pc' := 56) rfl (hb hby d1_40) rfl (flt hc40).2.1 (by decide) (by decide) k) ?_
              show own_Go p.tables e below _ (s₁.setTop (mkF m 56 #[.val (.int p0)] []))
              refine own_go (fun _ k => XS.iconst X0.here hx rfl (hb hby d1_56) k) ?_
              show own_Go p.tables e below _ (s₁.setTop (mkF m 57 #[.val (.int p0)] [(.int (0 : Int32))]))
              refine own_endH X0 (by rw [hh, e0]; exact CR.trans (CHv.at X0 hZ hEL HC)) hS (by rw [e0]; exact hk) Bd.notSynchronized (v := some (.int (0 : Int32))) (fun h => by rw [Bd.returns] at h; cases h) (fun fs hr => retN X0 hx (t := .boolean) Bd.returns (by simp) (hb hby d1_57) hr) ?_ (by decide) (by decide)
              show own_Q1 Z p0 wc h0 n0 _ s₁.heap _
              rw [e0]
              exact ⟨by rw [own_f1, if_neg hc3, if_pos hc9, if_neg hc15, if_pos hc21, if_pos hc27, if_neg hc40], N0, (Keep.refl _ _)⟩
          · refine own_go (fun _ k => XS.icmpNo X0.here hx rfl (hb hby d1_27) rfl (flt hc27).1 k) ?_
            show own_Go p.tables e below _ (s₁.setTop (mkF m 30 #[.val (.int p0)] []))
            refine own_go (fun _ k => XS.iloadN X0.here hx rfl (hb hby d1_30) rfl k) ?_
            show own_Go p.tables e below _ (s₁.setTop (mkF m 31 #[.val (.int p0)] [(.int p0)]))
            refine own_go (fun _ k => XS.bipush X0.here hx rfl (hb hby d1_31) k) ?_
            show own_Go p.tables e below _ (s₁.setTop (mkF m 33 #[.val (.int p0)] [(.int (57 : Int32)), (.int p0)]))
            by_cases hc33 : (57 : Int32) < p0
            · refine own_go (fun _ k => XS.icmpNo X0.here hx rfl (hb hby d1_33) rfl (tlt hc33).2.2.2 k) ?_
              show own_Go p.tables e below _ (s₁.setTop (mkF m 36 #[.val (.int p0)] []))
              refine own_go (fun _ k => XS.iloadN X0.here hx rfl (hb hby d1_36) rfl k) ?_
              show own_Go p.tables e below _ (s₁.setTop (mkF m 37 #[.val (.int p0)] [(.int p0)]))
              refine own_go (fun _ k => XS.sipush X0.here hx rfl (hb hby d1_37) k) ?_
              show own_Go p.tables e below _ (s₁.setTop (mkF m 40 #[.val (.int p0)] [(.int (128 : Int32)), (.int p0)]))
              by_cases hc40 : p0 < (128 : Int32)
              · refine own_go (fun _ k => XS.icmpNo X0.here hx rfl (hb hby d1_40) rfl (tlt hc40).2.1 k) ?_
                show own_Go p.tables e below _ (s₁.setTop (mkF m 43 #[.val (.int p0)] []))
                obtain ⟨a15, T15, h15, k15, b15, kb15, X15, e15, E15, hS, hk, hZ, hown, Ex15, Fc15, Fv15, Av15, -, -, hC15, -, -, st15⟩ := ldcCH X0 hx hZ hown (hw _ (List.mem_of_getElem? (i := 4) rfl)) (own_wS hw) e0 hS hk hEL (List.mem_of_getElem? (i := 0) rfl) HC (vs := [(.int (33 : Int32)), (.int (35 : Int32)), (.int (36 : Int32)), (.int (37 : Int32)), (.int (38 : Int32)), (.int (39 : Int32)), (.int (42 : Int32)), (.int (43 : Int32)), (.int (45 : Int32)), (.int (46 : Int32)), (.int (94 : Int32)), (.int (95 : Int32)), (.int (96 : Int32)), (.int (124 : Int32)), (.int (126 : Int32))]) (z := (15 : Int32)) own_lit (by decide) (by decide) (g := (mkF m 43 #[.val (.int p0)] [])) rfl (hb hby d1_43) (n := 60) (by decide +kernel) (by decide) (by decide) (by decide)
                have CR := CR.trans hC15
                have HC := hC15.1
                have c15_0 := S_COMPACT_STRINGS.ext E15
                have Z15 : n0 ≤ h15.size := Nat.le_trans Z0 E15.1
                have K15 : Keep h0 h15 [] := (Keep.refl _ _).ext E15
                refine own_go st15 ?_
                show own_Go p.tables e below _ (T15.setTop (mkF m 45 #[.val (.int p0)] [(.ref a15)]))
                refine own_go (fun _ k => XS.iloadN X15.here hx rfl (hb hby d1_45) rfl k) ?_
                show own_Go p.tables e below _ (T15.setTop (mkF m 46 #[.val (.int p0)] [(.int p0), (.ref a15)]))
                obtain ⟨cq16, kq16, q16a, q16b, q16c⟩ := isOf hZ e15 Ex15
                obtain ⟨_, _, ⟨T16, L16, k16, n16⟩, -, X16, ⟨Lc16, hQ16, l16, y16, z16⟩, st16⟩ := X15.virtualBack hx (y := (⟨"java/lang/String", "indexOf", "(I)I"⟩ : MethodName)) (z := (⟨"java/lang/String", "indexOf", "(I)I"⟩ : MethodName)) hown (mvT hZ (hw _ (List.mem_of_getElem? (i := 12) rfl))) (mvT hZ (hw _ (List.mem_of_getElem? (i := 13) rfl))) (notFace_of_selects (args := #[]) (mvT hZ (hw _ (List.mem_of_getElem? (i := 15) rfl)))) (mvT hZ (hw _ (List.mem_of_getElem? (i := 15) rfl))) (mvT hZ (hw _ (List.mem_of_getElem? (i := 14) rfl))) (by decide) (backOf (W := 0) (rms10 l Z az hw [] a15 p0 b15 kb15 wc h15 n0 Z15 Fc15 Fv15 Ex15 Av15 c15_0 hwc) hZ (hw _ (List.mem_of_getElem? (i := 16) rfl)) (hw _ (List.mem_of_getElem? (i := 5) rfl)) (by decide) (by decide)) q16a q16c (g := (mkF m 46 #[.val (.int p0)] [(.int p0), (.ref a15)])) rfl (by rw [hml]; rfl) (Steps.refl _) (argsL := [(.int p0)]) (rest := []) (lenOf pd1_0 rfl) rfl (by show 2 * 0 + _ ≤ _; exact Nat.le_of_eq rfl) (hb hby d1_46) (fun _ _ => ⟨rfl, e15, (by decide : 2 + 0 ≤ _), (by decide : 64 + 0 ≤ _)⟩)
                dsimp only [Pt.U, Pt.locs, Pt.cells, Pt.slots] at X16 l16 y16 z16 st16 hQ16
                subst l16 y16 z16
                refine own_go (fun _ k => st16.trans k) ?_
                obtain ⟨rfl, N16q, e16⟩ := hQ16
                have N16 := Fr.app N0 N16q
                show own_Go p.tables e below _ (T16.setTop (mkF m 49 #[.val (.int p0)] [(.int (own_fs10 p0))]))
                by_cases hc49 : (own_fs10 p0) < (0 : Int32)
                · refine own_go (fun _ k => XS.ifYes X16.here hx rfl (pc0 := 49) (pc' := 56) rfl (hb hby d1_49) rfl ((if0 _ _).trans (tlt hc49).1) (by decide) (by decide) k) ?_
                  show own_Go p.tables e below _ (T16.setTop (mkF m 56 #[.val (.int p0)] []))
                  refine own_go (fun _ k => XS.iconst X16.here hx rfl (hb hby d1_56) k) ?_
                  show own_Go p.tables e below _ (T16.setTop (mkF m 57 #[.val (.int p0)] [(.int (0 : Int32))]))
                  refine own_endH X16 (by rw [hh, (e16 : T16.heap = h15)]; exact CR.trans (CHv.at X16 hZ hEL HC)) hS (by rw [(e16 : T16.heap = h15)]; exact hk) Bd.notSynchronized (v := some (.int (0 : Int32))) (fun h => by rw [Bd.returns] at h; cases h) (fun fs hr => retN X16 hx (t := .boolean) Bd.returns (by simp) (hb hby d1_57) hr) ?_ (by decide) (by decide)
                  show own_Q1 Z p0 wc h0 n0 _ T16.heap _
                  rw [(e16 : T16.heap = h15)]
                  exact ⟨by rw [own_f1, if_neg hc3, if_pos hc9, if_neg hc15, if_pos hc21, if_neg hc27, if_pos hc33, if_pos hc40, if_pos hc49], N16, K15⟩
                · refine own_go (fun _ k => XS.ifNo X16.here hx rfl (hb hby d1_49) rfl ((if0 _ _).trans (flt hc49).1) k) ?_
                  show own_Go p.tables e below _ (T16.setTop (mkF m 52 #[.val (.int p0)] []))
                  refine own_go (fun _ k => XS.iconst X16.here hx rfl (hb hby d1_52) k) ?_
                  show own_Go p.tables e below _ (T16.setTop (mkF m 53 #[.val (.int p0)] [(.int (1 : Int32))]))
                  refine own_go (fun _ k => XS.goto X16.here hx rfl (pc0 := 53) (pc' := 57) rfl (hb hby d1_53) (by decide) (by decide) k) ?_
                  show own_Go p.tables e below _ (T16.setTop (mkF m 57 #[.val (.int p0)] [(.int (1 : Int32))]))
                  refine own_endH X16 (by rw [hh, (e16 : T16.heap = h15)]; exact CR.trans (CHv.at X16 hZ hEL HC)) hS (by rw [(e16 : T16.heap = h15)]; exact hk) Bd.notSynchronized (v := some (.int (1 : Int32))) (fun h => by rw [Bd.returns] at h; cases h) (fun fs hr => retN X16 hx (t := .boolean) Bd.returns (by simp) (hb hby d1_57) hr) ?_ (by decide) (by decide)
                  show own_Q1 Z p0 wc h0 n0 _ T16.heap _
                  rw [(e16 : T16.heap = h15)]
                  exact ⟨by rw [own_f1, if_neg hc3, if_pos hc9, if_neg hc15, if_pos hc21, if_neg hc27, if_pos hc33, if_pos hc40, if_neg hc49], N16, K15⟩
              · refine own_go (fun _ k => XS.icmpYes X0.here hx rfl (pc0 := 40) (pc' := 56) rfl (hb hby d1_40) rfl (flt hc40).2.1 (by decide) (by decide) k) ?_
                show own_Go p.tables e below _ (s₁.setTop (mkF m 56 #[.val (.int p0)] []))
                refine own_go (fun _ k => XS.iconst X0.here hx rfl (hb hby d1_56) k) ?_
                show own_Go p.tables e below _ (s₁.setTop (mkF m 57 #[.val (.int p0)] [(.int (0 : Int32))]))
                refine own_endH X0 (by rw [hh, e0]; exact CR.trans (CHv.at X0 hZ hEL HC)) hS (by rw [e0]; exact hk) Bd.notSynchronized (v := some (.int (0 : Int32))) (fun h => by rw [Bd.returns] at h; cases h) (fun fs hr => retN X0 hx (t := .boolean) Bd.returns (by simp) (hb hby d1_57) hr) ?_ (by decide) (by decide)
                show own_Q1 Z p0 wc h0 n0 _ s₁.heap _
                rw [e0]
                exact ⟨by rw [own_f1, if_neg hc3, if_pos hc9, if_neg hc15, if_pos hc21, if_neg hc27, if_pos hc33, if_neg hc40], N0, (Keep.refl _ _)⟩
            · refine own_go (fun _ k => XS.icmpYes X0.here hx rfl (pc0 := 33) (pc' := 52) rfl (hb hby d1_33) rfl (flt hc33).2.2.2 (by decide) (by decide) k) ?_
              show own_Go p.tables e below _ (s₁.setTop (mkF m 52 #[.val (.int p0)] []))
              refine own_go (fun _ k => XS.iconst X0.here hx rfl (hb hby d1_52) k) ?_
              show own_Go p.tables e below _ (s₁.setTop (mkF m 53 #[.val (.int p0)] [(.int (1 : Int32))]))
              refine own_go (fun _ k => XS.goto X0.here hx rfl (pc0 := 53) (pc' := 57) rfl (hb hby d1_53) (by decide) (by decide) k) ?_
              show own_Go p.tables e below _ (s₁.setTop (mkF m 57 #[.val (.int p0)] [(.int (1 : Int32))]))
              refine own_endH X0 (by rw [hh, e0]; exact CR.trans (CHv.at X0 hZ hEL HC)) hS (by rw [e0]; exact hk) Bd.notSynchronized (v := some (.int (1 : Int32))) (fun h => by rw [Bd.returns] at h; cases h) (fun fs hr => retN X0 hx (t := .boolean) Bd.returns (by simp) (hb hby d1_57) hr) ?_ (by decide) (by decide)
              show own_Q1 Z p0 wc h0 n0 _ s₁.heap _
              rw [e0]
              exact ⟨by rw [own_f1, if_neg hc3, if_pos hc9, if_neg hc15, if_pos hc21, if_neg hc27, if_neg hc33], N0, (Keep.refl _ _)⟩
        · refine own_go (fun _ k => XS.icmpYes X0.here hx rfl (pc0 := 21) (pc' := 52) rfl (hb hby d1_21) rfl (flt hc21).2.2.2 (by decide) (by decide) k) ?_
          show own_Go p.tables e below _ (s₁.setTop (mkF m 52 #[.val (.int p0)] []))
          refine own_go (fun _ k => XS.iconst X0.here hx rfl (hb hby d1_52) k) ?_
          show own_Go p.tables e below _ (s₁.setTop (mkF m 53 #[.val (.int p0)] [(.int (1 : Int32))]))
          refine own_go (fun _ k => XS.goto X0.here hx rfl (pc0 := 53) (pc' := 57) rfl (hb hby d1_53) (by decide) (by decide) k) ?_
          show own_Go p.tables e below _ (s₁.setTop (mkF m 57 #[.val (.int p0)] [(.int (1 : Int32))]))
          refine own_endH X0 (by rw [hh, e0]; exact CR.trans (CHv.at X0 hZ hEL HC)) hS (by rw [e0]; exact hk) Bd.notSynchronized (v := some (.int (1 : Int32))) (fun h => by rw [Bd.returns] at h; cases h) (fun fs hr => retN X0 hx (t := .boolean) Bd.returns (by simp) (hb hby d1_57) hr) ?_ (by decide) (by decide)
          show own_Q1 Z p0 wc h0 n0 _ s₁.heap _
          rw [e0]
          exact ⟨by rw [own_f1, if_neg hc3, if_pos hc9, if_neg hc15, if_neg hc21], N0, (Keep.refl _ _)⟩
    · refine own_go (fun _ k => XS.icmpYes X0.here hx rfl (pc0 := 9) (pc' := 52) rfl (hb hby d1_9) rfl (flt hc9).2.2.2 (by decide) (by decide) k) ?_
      show own_Go p.tables e below _ (s₁.setTop (mkF m 52 #[.val (.int p0)] []))
      refine own_go (fun _ k => XS.iconst X0.here hx rfl (hb hby d1_52) k) ?_
      show own_Go p.tables e below _ (s₁.setTop (mkF m 53 #[.val (.int p0)] [(.int (1 : Int32))]))
      refine own_go (fun _ k => XS.goto X0.here hx rfl (pc0 := 53) (pc' := 57) rfl (hb hby d1_53) (by decide) (by decide) k) ?_
      show own_Go p.tables e below _ (s₁.setTop (mkF m 57 #[.val (.int p0)] [(.int (1 : Int32))]))
      refine own_endH X0 (by rw [hh, e0]; exact CR.trans (CHv.at X0 hZ hEL HC)) hS (by rw [e0]; exact hk) Bd.notSynchronized (v := some (.int (1 : Int32))) (fun h => by rw [Bd.returns] at h; cases h) (fun fs hr => retN X0 hx (t := .boolean) Bd.returns (by simp) (hb hby d1_57) hr) ?_ (by decide) (by decide)
      show own_Q1 Z p0 wc h0 n0 _ s₁.heap _
      rw [e0]
      exact ⟨by rw [own_f1, if_neg hc3, if_neg hc9], N0, (Keep.refl _ _)⟩
def own_f2 (p0 : Int32) : Int32 :=
  (if p0 = (34 : Int32) then (1 : Int32) else (if p0 = (40 : Int32) then (1 : Int32) else (if p0 = (41 : Int32) then (1 : Int32) else (if p0 = (44 : Int32) then (1 : Int32) else (if p0 = (47 : Int32) then (1 : Int32) else (if p0 = (58 : Int32) then (1 : Int32) else (if p0 = (59 : Int32) then (1 : Int32) else (if p0 = (60 : Int32) then (1 : Int32) else (if p0 = (61 : Int32) then (1 : Int32) else (if p0 = (62 : Int32) then (1 : Int32) else (if p0 = (63 : Int32) then (1 : Int32) else (if p0 = (64 : Int32) then (1 : Int32) else (if p0 = (91 : Int32) then (1 : Int32) else (if p0 = (92 : Int32) then (1 : Int32) else (if p0 = (93 : Int32) then (1 : Int32) else (if p0 = (123 : Int32) then (1 : Int32) else (if p0 = (125 : Int32) then (1 : Int32) else (0 : Int32))))))))))))))))))
theorem d2_0 : decode method_2_code 0 = .ok (.iload_n 0, 1) := by decide +kernel
theorem d2_1 : decode method_2_code 1 = .ok (.bipush 34, 2) := by decide +kernel
theorem d2_3 : decode method_2_code 3 = .ok (.if_icmp .eq 99, 3) := by decide +kernel
theorem d2_6 : decode method_2_code 6 = .ok (.iload_n 0, 1) := by decide +kernel
theorem d2_7 : decode method_2_code 7 = .ok (.bipush 40, 2) := by decide +kernel
theorem d2_9 : decode method_2_code 9 = .ok (.if_icmp .eq 93, 3) := by decide +kernel
theorem d2_12 : decode method_2_code 12 = .ok (.iload_n 0, 1) := by decide +kernel
theorem d2_13 : decode method_2_code 13 = .ok (.bipush 41, 2) := by decide +kernel
theorem d2_15 : decode method_2_code 15 = .ok (.if_icmp .eq 87, 3) := by decide +kernel
theorem d2_18 : decode method_2_code 18 = .ok (.iload_n 0, 1) := by decide +kernel
theorem d2_19 : decode method_2_code 19 = .ok (.bipush 44, 2) := by decide +kernel
theorem d2_21 : decode method_2_code 21 = .ok (.if_icmp .eq 81, 3) := by decide +kernel
theorem d2_24 : decode method_2_code 24 = .ok (.iload_n 0, 1) := by decide +kernel
theorem d2_25 : decode method_2_code 25 = .ok (.bipush 47, 2) := by decide +kernel
theorem d2_27 : decode method_2_code 27 = .ok (.if_icmp .eq 75, 3) := by decide +kernel
theorem d2_30 : decode method_2_code 30 = .ok (.iload_n 0, 1) := by decide +kernel
theorem d2_31 : decode method_2_code 31 = .ok (.bipush 58, 2) := by decide +kernel
theorem d2_33 : decode method_2_code 33 = .ok (.if_icmp .eq 69, 3) := by decide +kernel
theorem d2_36 : decode method_2_code 36 = .ok (.iload_n 0, 1) := by decide +kernel
theorem d2_37 : decode method_2_code 37 = .ok (.bipush 59, 2) := by decide +kernel
theorem d2_39 : decode method_2_code 39 = .ok (.if_icmp .eq 63, 3) := by decide +kernel
theorem d2_42 : decode method_2_code 42 = .ok (.iload_n 0, 1) := by decide +kernel
theorem d2_43 : decode method_2_code 43 = .ok (.bipush 60, 2) := by decide +kernel
theorem d2_45 : decode method_2_code 45 = .ok (.if_icmp .eq 57, 3) := by decide +kernel
theorem d2_48 : decode method_2_code 48 = .ok (.iload_n 0, 1) := by decide +kernel
theorem d2_49 : decode method_2_code 49 = .ok (.bipush 61, 2) := by decide +kernel
theorem d2_51 : decode method_2_code 51 = .ok (.if_icmp .eq 51, 3) := by decide +kernel
theorem d2_54 : decode method_2_code 54 = .ok (.iload_n 0, 1) := by decide +kernel
theorem d2_55 : decode method_2_code 55 = .ok (.bipush 62, 2) := by decide +kernel
theorem d2_57 : decode method_2_code 57 = .ok (.if_icmp .eq 45, 3) := by decide +kernel
theorem d2_60 : decode method_2_code 60 = .ok (.iload_n 0, 1) := by decide +kernel
theorem d2_61 : decode method_2_code 61 = .ok (.bipush 63, 2) := by decide +kernel
theorem d2_63 : decode method_2_code 63 = .ok (.if_icmp .eq 39, 3) := by decide +kernel
theorem d2_66 : decode method_2_code 66 = .ok (.iload_n 0, 1) := by decide +kernel
theorem d2_67 : decode method_2_code 67 = .ok (.bipush 64, 2) := by decide +kernel
theorem d2_69 : decode method_2_code 69 = .ok (.if_icmp .eq 33, 3) := by decide +kernel
theorem d2_72 : decode method_2_code 72 = .ok (.iload_n 0, 1) := by decide +kernel
theorem d2_73 : decode method_2_code 73 = .ok (.bipush 91, 2) := by decide +kernel
theorem d2_75 : decode method_2_code 75 = .ok (.if_icmp .eq 27, 3) := by decide +kernel
theorem d2_78 : decode method_2_code 78 = .ok (.iload_n 0, 1) := by decide +kernel
theorem d2_79 : decode method_2_code 79 = .ok (.bipush 92, 2) := by decide +kernel
theorem d2_81 : decode method_2_code 81 = .ok (.if_icmp .eq 21, 3) := by decide +kernel
theorem d2_84 : decode method_2_code 84 = .ok (.iload_n 0, 1) := by decide +kernel
theorem d2_85 : decode method_2_code 85 = .ok (.bipush 93, 2) := by decide +kernel
theorem d2_87 : decode method_2_code 87 = .ok (.if_icmp .eq 15, 3) := by decide +kernel
theorem d2_90 : decode method_2_code 90 = .ok (.iload_n 0, 1) := by decide +kernel
theorem d2_91 : decode method_2_code 91 = .ok (.bipush 123, 2) := by decide +kernel
theorem d2_93 : decode method_2_code 93 = .ok (.if_icmp .eq 9, 3) := by decide +kernel
theorem d2_96 : decode method_2_code 96 = .ok (.iload_n 0, 1) := by decide +kernel
theorem d2_97 : decode method_2_code 97 = .ok (.bipush 125, 2) := by decide +kernel
theorem d2_99 : decode method_2_code 99 = .ok (.if_icmp .ne 7, 3) := by decide +kernel
theorem d2_102 : decode method_2_code 102 = .ok (.iconst 1, 1) := by decide +kernel
theorem d2_103 : decode method_2_code 103 = .ok (.goto 4, 3) := by decide +kernel
theorem d2_106 : decode method_2_code 106 = .ok (.iconst 0, 1) := by decide +kernel
theorem d2_107 : decode method_2_code 107 = .ok (.ireturn, 1) := by decide +kernel
theorem pn2 : plainName "com/example/vestibule/vestibule/http/HttpFieldsIsTokenCharPinLaw" = true := by first | (simp [plainName, overriddenIn]; done) | decide +kernel
theorem ef2 (m : MethodId) (p0 : Int32) : entryFrame m #[(.int p0)] 1 = mkF m 0 #[.val (.int p0)] [] := by first | (simp [entryFrame, mkF, argsToLocals, Value.category]; done) | rfl
def own_Q2 (Z : State) (p0 : Int32) (h0 : Heap) (n0 : Nat) (v : Option Value) (h : Heap) (L : List Loc) : Prop := v = some (.int (own_f2 p0)) ∧ Fr n0 L ∧ h = h0
set_option maxRecDepth 65536 in
set_option maxHeartbeats 40000000 in
theorem rm2 (l : Launch) (Z : State) (az : Array Value) (hw : ∀ d ∈ tables_1, d.before az Z = true) (ws : List Jvm.Cond) (p0 : Int32) (h0 : Heap) (n0 : Nat) (Z0 : n0 ≤ h0.size) :
    MetFree l (⟨"com/example/vestibule/vestibule/http/HttpFieldsIsTokenCharPinLaw", "isDelimiter", "(I)Z"⟩ : MethodName) (head1 (Jvm.Cond.code (⟨"com/example/vestibule/vestibule/http/HttpFieldsIsTokenCharPinLaw", "isDelimiter", "(I)Z"⟩ : MethodName) method_2_code 1 (some .boolean) :: ws) ({ frames := 0, cells := 0, slots := 0, locals := 0 } : Room)) (fun a U => a = #[(.int p0)] ∧ Z.Warmed39 U.vm ∧ U.heap = h0) (fun _ _ _ _ _ => True) (fun _ U o U' => ∃ v L, o = .returned v ∧ own_Q2 Z p0 h0 n0 v U'.heap L ∧ FrameEnd U o U' L ({ frames := 0, cells := 0, slots := 0, locals := 0 } : Room).cells ({ frames := 0, cells := 0, slots := 0, locals := 0 } : Room).slots) := by
  refine MetFree.of_bodySF (plainFor_of_name pn2) hisR ?_
  intro p e s m args below meth c s₁ Bd hml0 hP hK
  obtain ⟨rfl, hZ, hh⟩ := hP
  have hx := Bd.exec
  have hby := Bd.bytes
  have hml : c.maxLocals = 1 := hml0
  have hown : s.vm.findClass "com/example/vestibule/vestibule/http/HttpFieldsIsTokenCharPinLaw" = some m.cls := findClass_of_methodNamed Bd.named
  have hnm := (name_of_methodNamed Bd.named Bd.method).1
  have X0 : Stand p l e ({ frames := 0, cells := 0, slots := 0, locals := 0 } : Room) s m #[(.int p0)] below meth c s₁ [] 0 0 := Stand.of_body Bd
  have e0 : s₁.heap = h0 := by rw [← hh, Bd.state]; rfl
  have N0 := Fr.nil n0
  show own_Go p.tables e below (fun o U' => ∃ v L, o = .returned v ∧ own_Q2 Z p0 h0 n0 v U'.heap L ∧ FrameEnd s o U' L ({ frames := 0, cells := 0, slots := 0, locals := 0 } : Room).cells ({ frames := 0, cells := 0, slots := 0, locals := 0 } : Room).slots) (s₁.setTop (entryFrame m #[(.int p0)] 1))
  refine own_go (fun _ k => castTop (ef2 m p0) k) ?_
  show own_Go p.tables e below _ (s₁.setTop (mkF m 0 #[.val (.int p0)] []))
  refine own_go (fun _ k => XS.iloadN X0.here hx rfl (hb hby d2_0) rfl k) ?_
  show own_Go p.tables e below _ (s₁.setTop (mkF m 1 #[.val (.int p0)] [(.int p0)]))
  refine own_go (fun _ k => XS.bipush X0.here hx rfl (hb hby d2_1) k) ?_
  show own_Go p.tables e below _ (s₁.setTop (mkF m 3 #[.val (.int p0)] [(.int (34 : Int32)), (.int p0)]))
  by_cases hc3 : p0 = (34 : Int32)
  · refine own_go (fun _ k => XS.icmpYes X0.here hx rfl (pc0 := 3) (pc' := 102) rfl (hb hby d2_3) rfl (teq hc3).1 (by decide) (by decide) k) ?_
    show own_Go p.tables e below _ (s₁.setTop (mkF m 102 #[.val (.int p0)] []))
    refine own_go (fun _ k => XS.iconst X0.here hx rfl (hb hby d2_102) k) ?_
    show own_Go p.tables e below _ (s₁.setTop (mkF m 103 #[.val (.int p0)] [(.int (1 : Int32))]))
    refine own_go (fun _ k => XS.goto X0.here hx rfl (pc0 := 103) (pc' := 107) rfl (hb hby d2_103) (by decide) (by decide) k) ?_
    show own_Go p.tables e below _ (s₁.setTop (mkF m 107 #[.val (.int p0)] [(.int (1 : Int32))]))
    refine own_end X0 Bd.notSynchronized (v := some (.int (1 : Int32))) (fun h => by rw [Bd.returns] at h; cases h) (fun fs hr => retN X0 hx (t := .boolean) Bd.returns (by simp) (hb hby d2_107) hr) ?_ (by decide) (by decide)
    exact ⟨by rw [own_f2, if_pos hc3], N0, e0⟩
  · refine own_go (fun _ k => XS.icmpNo X0.here hx rfl (hb hby d2_3) rfl (feq hc3).1 k) ?_
    show own_Go p.tables e below _ (s₁.setTop (mkF m 6 #[.val (.int p0)] []))
    refine own_go (fun _ k => XS.iloadN X0.here hx rfl (hb hby d2_6) rfl k) ?_
    show own_Go p.tables e below _ (s₁.setTop (mkF m 7 #[.val (.int p0)] [(.int p0)]))
    refine own_go (fun _ k => XS.bipush X0.here hx rfl (hb hby d2_7) k) ?_
    show own_Go p.tables e below _ (s₁.setTop (mkF m 9 #[.val (.int p0)] [(.int (40 : Int32)), (.int p0)]))
    by_cases hc9 : p0 = (40 : Int32)
    · refine own_go (fun _ k => XS.icmpYes X0.here hx rfl (pc0 := 9) (pc' := 102) rfl (hb hby d2_9) rfl (teq hc9).1 (by decide) (by decide) k) ?_
      show own_Go p.tables e below _ (s₁.setTop (mkF m 102 #[.val (.int p0)] []))
      refine own_go (fun _ k => XS.iconst X0.here hx rfl (hb hby d2_102) k) ?_
      show own_Go p.tables e below _ (s₁.setTop (mkF m 103 #[.val (.int p0)] [(.int (1 : Int32))]))
      refine own_go (fun _ k => XS.goto X0.here hx rfl (pc0 := 103) (pc' := 107) rfl (hb hby d2_103) (by decide) (by decide) k) ?_
      show own_Go p.tables e below _ (s₁.setTop (mkF m 107 #[.val (.int p0)] [(.int (1 : Int32))]))
      refine own_end X0 Bd.notSynchronized (v := some (.int (1 : Int32))) (fun h => by rw [Bd.returns] at h; cases h) (fun fs hr => retN X0 hx (t := .boolean) Bd.returns (by simp) (hb hby d2_107) hr) ?_ (by decide) (by decide)
      exact ⟨by rw [own_f2, if_neg hc3, if_pos hc9], N0, e0⟩
    · refine own_go (fun _ k => XS.icmpNo X0.here hx rfl (hb hby d2_9) rfl (feq hc9).1 k) ?_
      show own_Go p.tables e below _ (s₁.setTop (mkF m 12 #[.val (.int p0)] []))
      refine own_go (fun _ k => XS.iloadN X0.here hx rfl (hb hby d2_12) rfl k) ?_
      show own_Go p.tables e below _ (s₁.setTop (mkF m 13 #[.val (.int p0)] [(.int p0)]))
      refine own_go (fun _ k => XS.bipush X0.here hx rfl (hb hby d2_13) k) ?_
      show own_Go p.tables e below _ (s₁.setTop (mkF m 15 #[.val (.int p0)] [(.int (41 : Int32)), (.int p0)]))
      by_cases hc15 : p0 = (41 : Int32)
      · refine own_go (fun _ k => XS.icmpYes X0.here hx rfl (pc0 := 15) (pc' := 102) rfl (hb hby d2_15) rfl (teq hc15).1 (by decide) (by decide) k) ?_
        show own_Go p.tables e below _ (s₁.setTop (mkF m 102 #[.val (.int p0)] []))
        refine own_go (fun _ k => XS.iconst X0.here hx rfl (hb hby d2_102) k) ?_
        show own_Go p.tables e below _ (s₁.setTop (mkF m 103 #[.val (.int p0)] [(.int (1 : Int32))]))
        refine own_go (fun _ k => XS.goto X0.here hx rfl (pc0 := 103) (pc' := 107) rfl (hb hby d2_103) (by decide) (by decide) k) ?_
        show own_Go p.tables e below _ (s₁.setTop (mkF m 107 #[.val (.int p0)] [(.int (1 : Int32))]))
        refine own_end X0 Bd.notSynchronized (v := some (.int (1 : Int32))) (fun h => by rw [Bd.returns] at h; cases h) (fun fs hr => retN X0 hx (t := .boolean) Bd.returns (by simp) (hb hby d2_107) hr) ?_ (by decide) (by decide)
        exact ⟨by rw [own_f2, if_neg hc3, if_neg hc9, if_pos hc15], N0, e0⟩
      · refine own_go (fun _ k => XS.icmpNo X0.here hx rfl (hb hby d2_15) rfl (feq hc15).1 k) ?_
        show own_Go p.tables e below _ (s₁.setTop (mkF m 18 #[.val (.int p0)] []))
        refine own_go (fun _ k => XS.iloadN X0.here hx rfl (hb hby d2_18) rfl k) ?_
        show own_Go p.tables e below _ (s₁.setTop (mkF m 19 #[.val (.int p0)] [(.int p0)]))
        refine own_go (fun _ k => XS.bipush X0.here hx rfl (hb hby d2_19) k) ?_
        show own_Go p.tables e below _ (s₁.setTop (mkF m 21 #[.val (.int p0)] [(.int (44 : Int32)), (.int p0)]))
        by_cases hc21 : p0 = (44 : Int32)
        · refine own_go (fun _ k => XS.icmpYes X0.here hx rfl (pc0 := 21) (pc' := 102) rfl (hb hby d2_21) rfl (teq hc21).1 (by decide) (by decide) k) ?_
          show own_Go p.tables e below _ (s₁.setTop (mkF m 102 #[.val (.int p0)] []))
          refine own_go (fun _ k => XS.iconst X0.here hx rfl (hb hby d2_102) k) ?_
          show own_Go p.tables e below _ (s₁.setTop (mkF m 103 #[.val (.int p0)] [(.int (1 : Int32))]))
          refine own_go (fun _ k => XS.goto X0.here hx rfl (pc0 := 103) (pc' := 107) rfl (hb hby d2_103) (by decide) (by decide) k) ?_
          show own_Go p.tables e below _ (s₁.setTop (mkF m 107 #[.val (.int p0)] [(.int (1 : Int32))]))
          refine own_end X0 Bd.notSynchronized (v := some (.int (1 : Int32))) (fun h => by rw [Bd.returns] at h; cases h) (fun fs hr => retN X0 hx (t := .boolean) Bd.returns (by simp) (hb hby d2_107) hr) ?_ (by decide) (by decide)
          exact ⟨by rw [own_f2, if_neg hc3, if_neg hc9, if_neg hc15, if_pos hc21], N0, e0⟩
        · refine own_go (fun _ k => XS.icmpNo X0.here hx rfl (hb hby d2_21) rfl (feq hc21).1 k) ?_
          show own_Go p.tables e below _ (s₁.setTop (mkF m 24 #[.val (.int p0)] []))
          refine own_go (fun _ k => XS.iloadN X0.here hx rfl (hb hby d2_24) rfl k) ?_
          show own_Go p.tables e below _ (s₁.setTop (mkF m 25 #[.val (.int p0)] [(.int p0)]))
          refine own_go (fun _ k => XS.bipush X0.here hx rfl (hb hby d2_25) k) ?_
          show own_Go p.tables e below _ (s₁.setTop (mkF m 27 #[.val (.int p0)] [(.int (47 : Int32)), (.int p0)]))
          by_cases hc27 : p0 = (47 : Int32)
          · refine own_go (fun _ k => XS.icmpYes X0.here hx rfl (pc0 := 27) (pc' := 102) rfl (hb hby d2_27) rfl (teq hc27).1 (by decide) (by decide) k) ?_
            show own_Go p.tables e below _ (s₁.setTop (mkF m 102 #[.val (.int p0)] []))
            refine own_go (fun _ k => XS.iconst X0.here hx rfl (hb hby d2_102) k) ?_
            show own_Go p.tables e below _ (s₁.setTop (mkF m 103 #[.val (.int p0)] [(.int (1 : Int32))]))
            refine own_go (fun _ k => XS.goto X0.here hx rfl (pc0 := 103) (pc' := 107) rfl (hb hby d2_103) (by decide) (by decide) k) ?_
            show own_Go p.tables e below _ (s₁.setTop (mkF m 107 #[.val (.int p0)] [(.int (1 : Int32))]))
            refine own_end X0 Bd.notSynchronized (v := some (.int (1 : Int32))) (fun h => by rw [Bd.returns] at h; cases h) (fun fs hr => retN X0 hx (t := .boolean) Bd.returns (by simp) (hb hby d2_107) hr) ?_ (by decide) (by decide)
            exact ⟨by rw [own_f2, if_neg hc3, if_neg hc9, if_neg hc15, if_neg hc21, if_pos hc27], N0, e0⟩
          · refine own_go (fun _ k => XS.icmpNo X0.here hx rfl (hb hby d2_27) rfl (feq hc27).1 k) ?_
            show own_Go p.tables e below _ (s₁.setTop (mkF m 30 #[.val (.int p0)] []))
            refine own_go (fun _ k => XS.iloadN X0.here hx rfl (hb hby d2_30) rfl k) ?_
            show own_Go p.tables e below _ (s₁.setTop (mkF m 31 #[.val (.int p0)] [(.int p0)]))
            refine own_go (fun _ k => XS.bipush X0.here hx rfl (hb hby d2_31) k) ?_
            show own_Go p.tables e below _ (s₁.setTop (mkF m 33 #[.val (.int p0)] [(.int (58 : Int32)), (.int p0)]))
            by_cases hc33 : p0 = (58 : Int32)
            · refine own_go (fun _ k => XS.icmpYes X0.here hx rfl (pc0 := 33) (pc' := 102) rfl (hb hby d2_33) rfl (teq hc33).1 (by decide) (by decide) k) ?_
              show own_Go p.tables e below _ (s₁.setTop (mkF m 102 #[.val (.int p0)] []))
              refine own_go (fun _ k => XS.iconst X0.here hx rfl (hb hby d2_102) k) ?_
              show own_Go p.tables e below _ (s₁.setTop (mkF m 103 #[.val (.int p0)] [(.int (1 : Int32))]))
              refine own_go (fun _ k => XS.goto X0.here hx rfl (pc0 := 103) (pc' := 107) rfl (hb hby d2_103) (by decide) (by decide) k) ?_
              show own_Go p.tables e below _ (s₁.setTop (mkF m 107 #[.val (.int p0)] [(.int (1 : Int32))]))
              refine own_end X0 Bd.notSynchronized (v := some (.int (1 : Int32))) (fun h => by rw [Bd.returns] at h; cases h) (fun fs hr => retN X0 hx (t := .boolean) Bd.returns (by simp) (hb hby d2_107) hr) ?_ (by decide) (by decide)
              exact ⟨by rw [own_f2, if_neg hc3, if_neg hc9, if_neg hc15, if_neg hc21, if_neg hc27, if_pos hc33], N0, e0⟩
            · refine own_go (fun _ k => XS.icmpNo X0.here hx rfl (hb hby d2_33) rfl (feq hc33).1 k) ?_
              show own_Go p.tables e below _ (s₁.setTop (mkF m 36 #[.val (.int p0)] []))
              refine own_go (fun _ k => XS.iloadN X0.here hx rfl (hb hby d2_36) rfl k) ?_
              show own_Go p.tables e below _ (s₁.setTop (mkF m 37 #[.val (.int p0)] [(.int p0)]))
              refine own_go (fun _ k => XS.bipush X0.here hx rfl (hb hby d2_37) k) ?_
              show own_Go p.tables e below _ (s₁.setTop (mkF m 39 #[.val (.int p0)] [(.int (59 : Int32)), (.int p0)]))
              by_cases hc39 : p0 = (59 : Int32)
              · refine own_go (fun _ k => XS.icmpYes X0.here hx rfl (pc0 := 39) (pc' := 102) rfl (hb hby d2_39) rfl (teq hc39).1 (by decide) (by decide) k) ?_
                show own_Go p.tables e below _ (s₁.setTop (mkF m 102 #[.val (.int p0)] []))
                refine own_go (fun _ k => XS.iconst X0.here hx rfl (hb hby d2_102) k) ?_
                show own_Go p.tables e below _ (s₁.setTop (mkF m 103 #[.val (.int p0)] [(.int (1 : Int32))]))
                refine own_go (fun _ k => XS.goto X0.here hx rfl (pc0 := 103) (pc' := 107) rfl (hb hby d2_103) (by decide) (by decide) k) ?_
                show own_Go p.tables e below _ (s₁.setTop (mkF m 107 #[.val (.int p0)] [(.int (1 : Int32))]))
                refine own_end X0 Bd.notSynchronized (v := some (.int (1 : Int32))) (fun h => by rw [Bd.returns] at h; cases h) (fun fs hr => retN X0 hx (t := .boolean) Bd.returns (by simp) (hb hby d2_107) hr) ?_ (by decide) (by decide)
                exact ⟨by rw [own_f2, if_neg hc3, if_neg hc9, if_neg hc15, if_neg hc21, if_neg hc27, if_neg hc33, if_pos hc39], N0, e0⟩
              · refine own_go (fun _ k => XS.icmpNo X0.here hx rfl (hb hby d2_39) rfl (feq hc39).1 k) ?_
                show own_Go p.tables e below _ (s₁.setTop (mkF m 42 #[.val (.int p0)] []))
                refine own_go (fun _ k => XS.iloadN X0.here hx rfl (hb hby d2_42) rfl k) ?_
                show own_Go p.tables e below _ (s₁.setTop (mkF m 43 #[.val (.int p0)] [(.int p0)]))
                refine own_go (fun _ k => XS.bipush X0.here hx rfl (hb hby d2_43) k) ?_
                show own_Go p.tables e below _ (s₁.setTop (mkF m 45 #[.val (.int p0)] [(.int (60 : Int32)), (.int p0)]))
                by_cases hc45 : p0 = (60 : Int32)
                · refine own_go (fun _ k => XS.icmpYes X0.here hx rfl (pc0 := 45) (pc' := 102) rfl (hb hby d2_45) rfl (teq hc45).1 (by decide) (by decide) k) ?_
                  show own_Go p.tables e below _ (s₁.setTop (mkF m 102 #[.val (.int p0)] []))
                  refine own_go (fun _ k => XS.iconst X0.here hx rfl (hb hby d2_102) k) ?_
                  show own_Go p.tables e below _ (s₁.setTop (mkF m 103 #[.val (.int p0)] [(.int (1 : Int32))]))
                  refine own_go (fun _ k => XS.goto X0.here hx rfl (pc0 := 103) (pc' := 107) rfl (hb hby d2_103) (by decide) (by decide) k) ?_
                  show own_Go p.tables e below _ (s₁.setTop (mkF m 107 #[.val (.int p0)] [(.int (1 : Int32))]))
                  refine own_end X0 Bd.notSynchronized (v := some (.int (1 : Int32))) (fun h => by rw [Bd.returns] at h; cases h) (fun fs hr => retN X0 hx (t := .boolean) Bd.returns (by simp) (hb hby d2_107) hr) ?_ (by decide) (by decide)
                  exact ⟨by rw [own_f2, if_neg hc3, if_neg hc9, if_neg hc15, if_neg hc21, if_neg hc27, if_neg hc33, if_neg hc39, if_pos hc45], N0, e0⟩
                · refine own_go (fun _ k => XS.icmpNo X0.here hx rfl (hb hby d2_45) rfl (feq hc45).1 k) ?_
                  show own_Go p.tables e below _ (s₁.setTop (mkF m 48 #[.val (.int p0)] []))
                  refine own_go (fun _ k => XS.iloadN X0.here hx rfl (hb hby d2_48) rfl k) ?_
                  show own_Go p.tables e below _ (s₁.setTop (mkF m 49 #[.val (.int p0)] [(.int p0)]))
                  refine own_go (fun _ k => XS.bipush X0.here hx rfl (hb hby d2_49) k) ?_
                  show own_Go p.tables e below _ (s₁.setTop (mkF m 51 #[.val (.int p0)] [(.int (61 : Int32)), (.int p0)]))
                  by_cases hc51 : p0 = (61 : Int32)
                  · refine own_go (fun _ k => XS.icmpYes X0.here hx rfl (pc0 := 51) (pc' := 102) rfl (hb hby d2_51) rfl (teq hc51).1 (by decide) (by decide) k) ?_
                    show own_Go p.tables e below _ (s₁.setTop (mkF m 102 #[.val (.int p0)] []))
                    refine own_go (fun _ k => XS.iconst X0.here hx rfl (hb hby d2_102) k) ?_
                    show own_Go p.tables e below _ (s₁.setTop (mkF m 103 #[.val (.int p0)] [(.int (1 : Int32))]))
                    refine own_go (fun _ k => XS.goto X0.here hx rfl (pc0 := 103) (pc' := 107) rfl (hb hby d2_103) (by decide) (by decide) k) ?_
                    show own_Go p.tables e below _ (s₁.setTop (mkF m 107 #[.val (.int p0)] [(.int (1 : Int32))]))
                    refine own_end X0 Bd.notSynchronized (v := some (.int (1 : Int32))) (fun h => by rw [Bd.returns] at h; cases h) (fun fs hr => retN X0 hx (t := .boolean) Bd.returns (by simp) (hb hby d2_107) hr) ?_ (by decide) (by decide)
                    exact ⟨by rw [own_f2, if_neg hc3, if_neg hc9, if_neg hc15, if_neg hc21, if_neg hc27, if_neg hc33, if_neg hc39, if_neg hc45, if_pos hc51], N0, e0⟩
                  · refine own_go (fun _ k => XS.icmpNo X0.here hx rfl (hb hby d2_51) rfl (feq hc51).1 k) ?_
                    show own_Go p.tables e below _ (s₁.setTop (mkF m 54 #[.val (.int p0)] []))
                    refine own_go (fun _ k => XS.iloadN X0.here hx rfl (hb hby d2_54) rfl k) ?_
                    show own_Go p.tables e below _ (s₁.setTop (mkF m 55 #[.val (.int p0)] [(.int p0)]))
                    refine own_go (fun _ k => XS.bipush X0.here hx rfl (hb hby d2_55) k) ?_
                    show own_Go p.tables e below _ (s₁.setTop (mkF m 57 #[.val (.int p0)] [(.int (62 : Int32)), (.int p0)]))
                    by_cases hc57 : p0 = (62 : Int32)
                    · refine own_go (fun _ k => XS.icmpYes X0.here hx rfl (pc0 := 57) (pc' := 102) rfl (hb hby d2_57) rfl (teq hc57).1 (by decide) (by decide) k) ?_
                      show own_Go p.tables e below _ (s₁.setTop (mkF m 102 #[.val (.int p0)] []))
                      refine own_go (fun _ k => XS.iconst X0.here hx rfl (hb hby d2_102) k) ?_
                      show own_Go p.tables e below _ (s₁.setTop (mkF m 103 #[.val (.int p0)] [(.int (1 : Int32))]))
                      refine own_go (fun _ k => XS.goto X0.here hx rfl (pc0 := 103) (pc' := 107) rfl (hb hby d2_103) (by decide) (by decide) k) ?_
                      show own_Go p.tables e below _ (s₁.setTop (mkF m 107 #[.val (.int p0)] [(.int (1 : Int32))]))
                      refine own_end X0 Bd.notSynchronized (v := some (.int (1 : Int32))) (fun h => by rw [Bd.returns] at h; cases h) (fun fs hr => retN X0 hx (t := .boolean) Bd.returns (by simp) (hb hby d2_107) hr) ?_ (by decide) (by decide)
                      exact ⟨by rw [own_f2, if_neg hc3, if_neg hc9, if_neg hc15, if_neg hc21, if_neg hc27, if_neg hc33, if_neg hc39, if_neg hc45, if_neg hc51, if_pos hc57], N0, e0⟩
                    · refine own_go (fun _ k => XS.icmpNo X0.here hx rfl (hb hby d2_57) rfl (feq hc57).1 k) ?_
                      show own_Go p.tables e below _ (s₁.setTop (mkF m 60 #[.val (.int p0)] []))
                      refine own_go (fun _ k => XS.iloadN X0.here hx rfl (hb hby d2_60) rfl k) ?_
                      show own_Go p.tables e below _ (s₁.setTop (mkF m 61 #[.val (.int p0)] [(.int p0)]))
                      refine own_go (fun _ k => XS.bipush X0.here hx rfl (hb hby d2_61) k) ?_
                      show own_Go p.tables e below _ (s₁.setTop (mkF m 63 #[.val (.int p0)] [(.int (63 : Int32)), (.int p0)]))
                      by_cases hc63 : p0 = (63 : Int32)
                      · refine own_go (fun _ k => XS.icmpYes X0.here hx rfl (pc0 := 63) (pc' := 102) rfl (hb hby d2_63) rfl (teq hc63).1 (by decide) (by decide) k) ?_
                        show own_Go p.tables e below _ (s₁.setTop (mkF m 102 #[.val (.int p0)] []))
                        refine own_go (fun _ k => XS.iconst X0.here hx rfl (hb hby d2_102) k) ?_
                        show own_Go p.tables e below _ (s₁.setTop (mkF m 103 #[.val (.int p0)] [(.int (1 : Int32))]))
                        refine own_go (fun _ k => XS.goto X0.here hx rfl (pc0 := 103) (pc' := 107) rfl (hb hby d2_103) (by decide) (by decide) k) ?_
                        show own_Go p.tables e below _ (s₁.setTop (mkF m 107 #[.val (.int p0)] [(.int (1 : Int32))]))
                        refine own_end X0 Bd.notSynchronized (v := some (.int (1 : Int32))) (fun h => by rw [Bd.returns] at h; cases h) (fun fs hr => retN X0 hx (t := .boolean) Bd.returns (by simp) (hb hby d2_107) hr) ?_ (by decide) (by decide)
                        exact ⟨by rw [own_f2, if_neg hc3, if_neg hc9, if_neg hc15, if_neg hc21, if_neg hc27, if_neg hc33, if_neg hc39, if_neg hc45, if_neg hc51, if_neg hc57, if_pos hc63], N0, e0⟩
                      · refine own_go (fun _ k => XS.icmpNo X0.here hx rfl (hb hby d2_63) rfl (feq hc63).1 k) ?_
                        show own_Go p.tables e below _ (s₁.setTop (mkF m 66 #[.val (.int p0)] []))
                        refine own_go (fun _ k => XS.iloadN X0.here hx rfl (hb hby d2_66) rfl k) ?_
                        show own_Go p.tables e below _ (s₁.setTop (mkF m 67 #[.val (.int p0)] [(.int p0)]))
                        refine own_go (fun _ k => XS.bipush X0.here hx rfl (hb hby d2_67) k) ?_
                        show own_Go p.tables e below _ (s₁.setTop (mkF m 69 #[.val (.int p0)] [(.int (64 : Int32)), (.int p0)]))
                        by_cases hc69 : p0 = (64 : Int32)
                        · refine own_go (fun _ k => XS.icmpYes X0.here hx rfl (pc0 := 69) (pc' := 102) rfl (hb hby d2_69) rfl (teq hc69).1 (by decide) (by decide) k) ?_
                          show own_Go p.tables e below _ (s₁.setTop (mkF m 102 #[.val (.int p0)] []))
                          refine own_go (fun _ k => XS.iconst X0.here hx rfl (hb hby d2_102) k) ?_
                          show own_Go p.tables e below _ (s₁.setTop (mkF m 103 #[.val (.int p0)] [(.int (1 : Int32))]))
                          refine own_go (fun _ k => XS.goto X0.here hx rfl (pc0 := 103) (pc' := 107) rfl (hb hby d2_103) (by decide) (by decide) k) ?_
                          show own_Go p.tables e below _ (s₁.setTop (mkF m 107 #[.val (.int p0)] [(.int (1 : Int32))]))
                          refine own_end X0 Bd.notSynchronized (v := some (.int (1 : Int32))) (fun h => by rw [Bd.returns] at h; cases h) (fun fs hr => retN X0 hx (t := .boolean) Bd.returns (by simp) (hb hby d2_107) hr) ?_ (by decide) (by decide)
                          exact ⟨by rw [own_f2, if_neg hc3, if_neg hc9, if_neg hc15, if_neg hc21, if_neg hc27, if_neg hc33, if_neg hc39, if_neg hc45, if_neg hc51, if_neg hc57, if_neg hc63, if_pos hc69], N0, e0⟩
                        · refine own_go (fun _ k => XS.icmpNo X0.here hx rfl (hb hby d2_69) rfl (feq hc69).1 k) ?_
                          show own_Go p.tables e below _ (s₁.setTop (mkF m 72 #[.val (.int p0)] []))
                          refine own_go (fun _ k => XS.iloadN X0.here hx rfl (hb hby d2_72) rfl k) ?_
                          show own_Go p.tables e below _ (s₁.setTop (mkF m 73 #[.val (.int p0)] [(.int p0)]))
                          refine own_go (fun _ k => XS.bipush X0.here hx rfl (hb hby d2_73) k) ?_
                          show own_Go p.tables e below _ (s₁.setTop (mkF m 75 #[.val (.int p0)] [(.int (91 : Int32)), (.int p0)]))
                          by_cases hc75 : p0 = (91 : Int32)
                          · refine own_go (fun _ k => XS.icmpYes X0.here hx rfl (pc0 := 75) (pc' := 102) rfl (hb hby d2_75) rfl (teq hc75).1 (by decide) (by decide) k) ?_
                            show own_Go p.tables e below _ (s₁.setTop (mkF m 102 #[.val (.int p0)] []))
                            refine own_go (fun _ k => XS.iconst X0.here hx rfl (hb hby d2_102) k) ?_
                            show own_Go p.tables e below _ (s₁.setTop (mkF m 103 #[.val (.int p0)] [(.int (1 : Int32))]))
                            refine own_go (fun _ k => XS.goto X0.here hx rfl (pc0 := 103) (pc' := 107) rfl (hb hby d2_103) (by decide) (by decide) k) ?_
                            show own_Go p.tables e below _ (s₁.setTop (mkF m 107 #[.val (.int p0)] [(.int (1 : Int32))]))
                            refine own_end X0 Bd.notSynchronized (v := some (.int (1 : Int32))) (fun h => by rw [Bd.returns] at h; cases h) (fun fs hr => retN X0 hx (t := .boolean) Bd.returns (by simp) (hb hby d2_107) hr) ?_ (by decide) (by decide)
                            exact ⟨by rw [own_f2, if_neg hc3, if_neg hc9, if_neg hc15, if_neg hc21, if_neg hc27, if_neg hc33, if_neg hc39, if_neg hc45, if_neg hc51, if_neg hc57, if_neg hc63, if_neg hc69, if_pos hc75], N0, e0⟩
                          · refine own_go (fun _ k => XS.icmpNo X0.here hx rfl (hb hby d2_75) rfl (feq hc75).1 k) ?_
                            show own_Go p.tables e below _ (s₁.setTop (mkF m 78 #[.val (.int p0)] []))
                            refine own_go (fun _ k => XS.iloadN X0.here hx rfl (hb hby d2_78) rfl k) ?_
                            show own_Go p.tables e below _ (s₁.setTop (mkF m 79 #[.val (.int p0)] [(.int p0)]))
                            refine own_go (fun _ k => XS.bipush X0.here hx rfl (hb hby d2_79) k) ?_
                            show own_Go p.tables e below _ (s₁.setTop (mkF m 81 #[.val (.int p0)] [(.int (92 : Int32)), (.int p0)]))
                            by_cases hc81 : p0 = (92 : Int32)
                            · refine own_go (fun _ k => XS.icmpYes X0.here hx rfl (pc0 := 81) (pc' := 102) rfl (hb hby d2_81) rfl (teq hc81).1 (by decide) (by decide) k) ?_
                              show own_Go p.tables e below _ (s₁.setTop (mkF m 102 #[.val (.int p0)] []))
                              refine own_go (fun _ k => XS.iconst X0.here hx rfl (hb hby d2_102) k) ?_
                              show own_Go p.tables e below _ (s₁.setTop (mkF m 103 #[.val (.int p0)] [(.int (1 : Int32))]))
                              refine own_go (fun _ k => XS.goto X0.here hx rfl (pc0 := 103) (pc' := 107) rfl (hb hby d2_103) (by decide) (by decide) k) ?_
                              show own_Go p.tables e below _ (s₁.setTop (mkF m 107 #[.val (.int p0)] [(.int (1 : Int32))]))
                              refine own_end X0 Bd.notSynchronized (v := some (.int (1 : Int32))) (fun h => by rw [Bd.returns] at h; cases h) (fun fs hr => retN X0 hx (t := .boolean) Bd.returns (by simp) (hb hby d2_107) hr) ?_ (by decide) (by decide)
                              exact ⟨by rw [own_f2, if_neg hc3, if_neg hc9, if_neg hc15, if_neg hc21, if_neg hc27, if_neg hc33, if_neg hc39, if_neg hc45, if_neg hc51, if_neg hc57, if_neg hc63, if_neg hc69, if_neg hc75, if_pos hc81], N0, e0⟩
                            · refine own_go (fun _ k => XS.icmpNo X0.here hx rfl (hb hby d2_81) rfl (feq hc81).1 k) ?_
                              show own_Go p.tables e below _ (s₁.setTop (mkF m 84 #[.val (.int p0)] []))
                              refine own_go (fun _ k => XS.iloadN X0.here hx rfl (hb hby d2_84) rfl k) ?_
                              show own_Go p.tables e below _ (s₁.setTop (mkF m 85 #[.val (.int p0)] [(.int p0)]))
                              refine own_go (fun _ k => XS.bipush X0.here hx rfl (hb hby d2_85) k) ?_
                              show own_Go p.tables e below _ (s₁.setTop (mkF m 87 #[.val (.int p0)] [(.int (93 : Int32)), (.int p0)]))
                              by_cases hc87 : p0 = (93 : Int32)
                              · refine own_go (fun _ k => XS.icmpYes X0.here hx rfl (pc0 := 87) (pc' := 102) rfl (hb hby d2_87) rfl (teq hc87).1 (by decide) (by decide) k) ?_
                                show own_Go p.tables e below _ (s₁.setTop (mkF m 102 #[.val (.int p0)] []))
                                refine own_go (fun _ k => XS.iconst X0.here hx rfl (hb hby d2_102) k) ?_
                                show own_Go p.tables e below _ (s₁.setTop (mkF m 103 #[.val (.int p0)] [(.int (1 : Int32))]))
                                refine own_go (fun _ k => XS.goto X0.here hx rfl (pc0 := 103) (pc' := 107) rfl (hb hby d2_103) (by decide) (by decide) k) ?_
                                show own_Go p.tables e below _ (s₁.setTop (mkF m 107 #[.val (.int p0)] [(.int (1 : Int32))]))
                                refine own_end X0 Bd.notSynchronized (v := some (.int (1 : Int32))) (fun h => by rw [Bd.returns] at h; cases h) (fun fs hr => retN X0 hx (t := .boolean) Bd.returns (by simp) (hb hby d2_107) hr) ?_ (by decide) (by decide)
                                exact ⟨by rw [own_f2, if_neg hc3, if_neg hc9, if_neg hc15, if_neg hc21, if_neg hc27, if_neg hc33, if_neg hc39, if_neg hc45, if_neg hc51, if_neg hc57, if_neg hc63, if_neg hc69, if_neg hc75, if_neg hc81, if_pos hc87], N0, e0⟩
                              · refine own_go (fun _ k => XS.icmpNo X0.here hx rfl (hb hby d2_87) rfl (feq hc87).1 k) ?_
                                show own_Go p.tables e below _ (s₁.setTop (mkF m 90 #[.val (.int p0)] []))
                                refine own_go (fun _ k => XS.iloadN X0.here hx rfl (hb hby d2_90) rfl k) ?_
                                show own_Go p.tables e below _ (s₁.setTop (mkF m 91 #[.val (.int p0)] [(.int p0)]))
                                refine own_go (fun _ k => XS.bipush X0.here hx rfl (hb hby d2_91) k) ?_
                                show own_Go p.tables e below _ (s₁.setTop (mkF m 93 #[.val (.int p0)] [(.int (123 : Int32)), (.int p0)]))
                                by_cases hc93 : p0 = (123 : Int32)
                                · refine own_go (fun _ k => XS.icmpYes X0.here hx rfl (pc0 := 93) (pc' := 102) rfl (hb hby d2_93) rfl (teq hc93).1 (by decide) (by decide) k) ?_
                                  show own_Go p.tables e below _ (s₁.setTop (mkF m 102 #[.val (.int p0)] []))
                                  refine own_go (fun _ k => XS.iconst X0.here hx rfl (hb hby d2_102) k) ?_
                                  show own_Go p.tables e below _ (s₁.setTop (mkF m 103 #[.val (.int p0)] [(.int (1 : Int32))]))
                                  refine own_go (fun _ k => XS.goto X0.here hx rfl (pc0 := 103) (pc' := 107) rfl (hb hby d2_103) (by decide) (by decide) k) ?_
                                  show own_Go p.tables e below _ (s₁.setTop (mkF m 107 #[.val (.int p0)] [(.int (1 : Int32))]))
                                  refine own_end X0 Bd.notSynchronized (v := some (.int (1 : Int32))) (fun h => by rw [Bd.returns] at h; cases h) (fun fs hr => retN X0 hx (t := .boolean) Bd.returns (by simp) (hb hby d2_107) hr) ?_ (by decide) (by decide)
                                  exact ⟨by rw [own_f2, if_neg hc3, if_neg hc9, if_neg hc15, if_neg hc21, if_neg hc27, if_neg hc33, if_neg hc39, if_neg hc45, if_neg hc51, if_neg hc57, if_neg hc63, if_neg hc69, if_neg hc75, if_neg hc81, if_neg hc87, if_pos hc93], N0, e0⟩
                                · refine own_go (fun _ k => XS.icmpNo X0.here hx rfl (hb hby d2_93) rfl (feq hc93).1 k) ?_
                                  show own_Go p.tables e below _ (s₁.setTop (mkF m 96 #[.val (.int p0)] []))
                                  refine own_go (fun _ k => XS.iloadN X0.here hx rfl (hb hby d2_96) rfl k) ?_
                                  show own_Go p.tables e below _ (s₁.setTop (mkF m 97 #[.val (.int p0)] [(.int p0)]))
                                  refine own_go (fun _ k => XS.bipush X0.here hx rfl (hb hby d2_97) k) ?_
                                  show own_Go p.tables e below _ (s₁.setTop (mkF m 99 #[.val (.int p0)] [(.int (125 : Int32)), (.int p0)]))
                                  by_cases hc99 : p0 = (125 : Int32)
                                  · refine own_go (fun _ k => XS.icmpNo X0.here hx rfl (hb hby d2_99) rfl (teq hc99).2 k) ?_
                                    show own_Go p.tables e below _ (s₁.setTop (mkF m 102 #[.val (.int p0)] []))
                                    refine own_go (fun _ k => XS.iconst X0.here hx rfl (hb hby d2_102) k) ?_
                                    show own_Go p.tables e below _ (s₁.setTop (mkF m 103 #[.val (.int p0)] [(.int (1 : Int32))]))
                                    refine own_go (fun _ k => XS.goto X0.here hx rfl (pc0 := 103) (pc' := 107) rfl (hb hby d2_103) (by decide) (by decide) k) ?_
                                    show own_Go p.tables e below _ (s₁.setTop (mkF m 107 #[.val (.int p0)] [(.int (1 : Int32))]))
                                    refine own_end X0 Bd.notSynchronized (v := some (.int (1 : Int32))) (fun h => by rw [Bd.returns] at h; cases h) (fun fs hr => retN X0 hx (t := .boolean) Bd.returns (by simp) (hb hby d2_107) hr) ?_ (by decide) (by decide)
                                    exact ⟨by rw [own_f2, if_neg hc3, if_neg hc9, if_neg hc15, if_neg hc21, if_neg hc27, if_neg hc33, if_neg hc39, if_neg hc45, if_neg hc51, if_neg hc57, if_neg hc63, if_neg hc69, if_neg hc75, if_neg hc81, if_neg hc87, if_neg hc93, if_pos hc99], N0, e0⟩
                                  · refine own_go (fun _ k => XS.icmpYes X0.here hx rfl (pc0 := 99) (pc' := 106) rfl (hb hby d2_99) rfl (feq hc99).2 (by decide) (by decide) k) ?_
                                    show own_Go p.tables e below _ (s₁.setTop (mkF m 106 #[.val (.int p0)] []))
                                    refine own_go (fun _ k => XS.iconst X0.here hx rfl (hb hby d2_106) k) ?_
                                    show own_Go p.tables e below _ (s₁.setTop (mkF m 107 #[.val (.int p0)] [(.int (0 : Int32))]))
                                    refine own_end X0 Bd.notSynchronized (v := some (.int (0 : Int32))) (fun h => by rw [Bd.returns] at h; cases h) (fun fs hr => retN X0 hx (t := .boolean) Bd.returns (by simp) (hb hby d2_107) hr) ?_ (by decide) (by decide)
                                    exact ⟨by rw [own_f2, if_neg hc3, if_neg hc9, if_neg hc15, if_neg hc21, if_neg hc27, if_neg hc33, if_neg hc39, if_neg hc45, if_neg hc51, if_neg hc57, if_neg hc63, if_neg hc69, if_neg hc75, if_neg hc81, if_neg hc87, if_neg hc93, if_neg hc99], N0, e0⟩
def own_f3 (p0 : Int32) : Int32 :=
  (if (32 : Int32) < p0 then (if p0 < (127 : Int32) then (if (own_f2 p0) = (0 : Int32) then (1 : Int32) else (0 : Int32)) else (0 : Int32)) else (0 : Int32))
theorem d3_0 : decode method_3_code 0 = .ok (.iload_n 0, 1) := by decide +kernel
theorem d3_1 : decode method_3_code 1 = .ok (.bipush 32, 2) := by decide +kernel
theorem d3_3 : decode method_3_code 3 = .ok (.if_icmp .le 9, 3) := by decide +kernel
theorem d3_6 : decode method_3_code 6 = .ok (.iload_n 0, 1) := by decide +kernel
theorem d3_7 : decode method_3_code 7 = .ok (.bipush 127, 2) := by decide +kernel
theorem d3_9 : decode method_3_code 9 = .ok (.if_icmp .lt 5, 3) := by decide +kernel
theorem d3_12 : decode method_3_code 12 = .ok (.iconst 0, 1) := by decide +kernel
theorem d3_13 : decode method_3_code 13 = .ok (.ireturn, 1) := by decide +kernel
theorem d3_14 : decode method_3_code 14 = .ok (.iload_n 0, 1) := by decide +kernel
theorem d3_15 : decode method_3_code 15 = .ok (.invokestatic 7, 3) := by decide +kernel
theorem d3_18 : decode method_3_code 18 = .ok (.ifCond .ne 7, 3) := by decide +kernel
theorem d3_21 : decode method_3_code 21 = .ok (.iconst 1, 1) := by decide +kernel
theorem d3_22 : decode method_3_code 22 = .ok (.goto 4, 3) := by decide +kernel
theorem d3_25 : decode method_3_code 25 = .ok (.iconst 0, 1) := by decide +kernel
theorem d3_26 : decode method_3_code 26 = .ok (.ireturn, 1) := by decide +kernel
theorem pn3 : plainName "com/example/vestibule/vestibule/http/HttpFieldsIsTokenCharPinLaw" = true := by first | (simp [plainName, overriddenIn]; done) | decide +kernel
theorem pd3_0 : parseMethodDescriptor "(I)Z" = some ⟨[.int], some .boolean⟩ := by decide +kernel
theorem ef3 (m : MethodId) (p0 : Int32) : entryFrame m #[(.int p0)] 1 = mkF m 0 #[.val (.int p0)] [] := by first | (simp [entryFrame, mkF, argsToLocals, Value.category]; done) | rfl
def own_Q3 (Z : State) (p0 : Int32) (h0 : Heap) (n0 : Nat) (v : Option Value) (h : Heap) (L : List Loc) : Prop := v = some (.int (own_f3 p0)) ∧ Fr n0 L ∧ h = h0
set_option maxRecDepth 65536 in
set_option maxHeartbeats 40000000 in
theorem rm3 (l : Launch) (Z : State) (az : Array Value) (hw : ∀ d ∈ tables_1, d.before az Z = true) (ws : List Jvm.Cond) (p0 : Int32) (h0 : Heap) (n0 : Nat) (Z0 : n0 ≤ h0.size) :
    MetFree l (⟨"com/example/vestibule/vestibule/http/HttpFieldsIsTokenCharPinLaw", "expected", "(I)Z"⟩ : MethodName) (head1 (Jvm.Cond.code (⟨"com/example/vestibule/vestibule/http/HttpFieldsIsTokenCharPinLaw", "expected", "(I)Z"⟩ : MethodName) method_3_code 1 (some .boolean) :: ws) ({ frames := 1, cells := 0, slots := 0, locals := 12 } : Room)) (fun a U => a = #[(.int p0)] ∧ Z.Warmed39 U.vm ∧ U.heap = h0) (fun _ _ _ _ _ => True) (fun _ U o U' => ∃ v L, o = .returned v ∧ own_Q3 Z p0 h0 n0 v U'.heap L ∧ FrameEnd U o U' L ({ frames := 1, cells := 0, slots := 0, locals := 12 } : Room).cells ({ frames := 1, cells := 0, slots := 0, locals := 12 } : Room).slots) := by
  refine MetFree.of_bodySF (plainFor_of_name pn3) hisR ?_
  intro p e s m args below meth c s₁ Bd hml0 hP hK
  obtain ⟨rfl, hZ, hh⟩ := hP
  have hx := Bd.exec
  have hby := Bd.bytes
  have hml : c.maxLocals = 1 := hml0
  have hown : s.vm.findClass "com/example/vestibule/vestibule/http/HttpFieldsIsTokenCharPinLaw" = some m.cls := findClass_of_methodNamed Bd.named
  have hnm := (name_of_methodNamed Bd.named Bd.method).1
  have X0 : Stand p l e ({ frames := 1, cells := 0, slots := 0, locals := 12 } : Room) s m #[(.int p0)] below meth c s₁ [] 0 0 := Stand.of_body Bd
  have e0 : s₁.heap = h0 := by rw [← hh, Bd.state]; rfl
  have N0 := Fr.nil n0
  show own_Go p.tables e below (fun o U' => ∃ v L, o = .returned v ∧ own_Q3 Z p0 h0 n0 v U'.heap L ∧ FrameEnd s o U' L ({ frames := 1, cells := 0, slots := 0, locals := 12 } : Room).cells ({ frames := 1, cells := 0, slots := 0, locals := 12 } : Room).slots) (s₁.setTop (entryFrame m #[(.int p0)] 1))
  refine own_go (fun _ k => castTop (ef3 m p0) k) ?_
  show own_Go p.tables e below _ (s₁.setTop (mkF m 0 #[.val (.int p0)] []))
  refine own_go (fun _ k => XS.iloadN X0.here hx rfl (hb hby d3_0) rfl k) ?_
  show own_Go p.tables e below _ (s₁.setTop (mkF m 1 #[.val (.int p0)] [(.int p0)]))
  refine own_go (fun _ k => XS.bipush X0.here hx rfl (hb hby d3_1) k) ?_
  show own_Go p.tables e below _ (s₁.setTop (mkF m 3 #[.val (.int p0)] [(.int (32 : Int32)), (.int p0)]))
  by_cases hc3 : (32 : Int32) < p0
  · refine own_go (fun _ k => XS.icmpNo X0.here hx rfl (hb hby d3_3) rfl (tlt hc3).2.2.2 k) ?_
    show own_Go p.tables e below _ (s₁.setTop (mkF m 6 #[.val (.int p0)] []))
    refine own_go (fun _ k => XS.iloadN X0.here hx rfl (hb hby d3_6) rfl k) ?_
    show own_Go p.tables e below _ (s₁.setTop (mkF m 7 #[.val (.int p0)] [(.int p0)]))
    refine own_go (fun _ k => XS.bipush X0.here hx rfl (hb hby d3_7) k) ?_
    show own_Go p.tables e below _ (s₁.setTop (mkF m 9 #[.val (.int p0)] [(.int (127 : Int32)), (.int p0)]))
    by_cases hc9 : p0 < (127 : Int32)
    · refine own_go (fun _ k => XS.icmpYes X0.here hx rfl (pc0 := 9) (pc' := 14) rfl (hb hby d3_9) rfl (tlt hc9).1 (by decide) (by decide) k) ?_
      show own_Go p.tables e below _ (s₁.setTop (mkF m 14 #[.val (.int p0)] []))
      refine own_go (fun _ k => XS.iloadN X0.here hx rfl (hb hby d3_14) rfl k) ?_
      show own_Go p.tables e below _ (s₁.setTop (mkF m 15 #[.val (.int p0)] [(.int p0)]))
      obtain ⟨_, _, ⟨T1, L1, k1, n1⟩, -, X1, ⟨Lc1, hQ1, l1, y1, z1⟩, st1⟩ := Jvm.LawKit.callS X0 hx (y := (⟨"com/example/vestibule/vestibule/http/HttpFieldsIsTokenCharPinLaw", "isDelimiter", "(I)Z"⟩ : MethodName)) hown (mvT hZ (hw _ (List.mem_of_getElem? (i := 61) rfl))) (mvT hZ (hw _ (List.mem_of_getElem? (i := 62) rfl))) (mvT hZ (hw _ (List.mem_of_getElem? (i := 59) rfl))) (mvT hZ (hw _ (List.mem_of_getElem? (i := 63) rfl))) (by decide) (backOf (W := 0) (rm2 l Z az hw [] p0 h0 n0 Z0) hZ (hw _ (List.mem_of_getElem? (i := 63) rfl)) (hw _ (List.mem_of_getElem? (i := 59) rfl)) (by decide) (by decide)) (g := (mkF m 15 #[.val (.int p0)] [(.int p0)])) rfl (by rw [hml]; rfl) (argsL := [(.int p0)]) (rest := []) (lenOf pd3_0 rfl) rfl (by show 2 * 0 + _ ≤ _; exact Nat.le_of_eq rfl) (hb hby d3_15) (fun _ _ => ⟨rfl, e0, (by decide : 0 + 0 ≤ _), (by decide : 0 + 0 ≤ _)⟩)
      dsimp only [Pt.U, Pt.locs, Pt.cells, Pt.slots] at X1 l1 y1 z1 st1 hQ1
      subst l1 y1 z1
      refine own_go st1 ?_
      obtain ⟨rfl, N1q, e1⟩ := hQ1
      have N1 := Fr.app N0 N1q
      show own_Go p.tables e below _ (T1.setTop (mkF m 18 #[.val (.int p0)] [(.int (own_f2 p0))]))
      by_cases hc18 : (own_f2 p0) = (0 : Int32)
      · refine own_go (fun _ k => XS.ifNo X1.here hx rfl (hb hby d3_18) rfl ((if0 _ _).trans (teq hc18).2) k) ?_
        show own_Go p.tables e below _ (T1.setTop (mkF m 21 #[.val (.int p0)] []))
        refine own_go (fun _ k => XS.iconst X1.here hx rfl (hb hby d3_21) k) ?_
        show own_Go p.tables e below _ (T1.setTop (mkF m 22 #[.val (.int p0)] [(.int (1 : Int32))]))
        refine own_go (fun _ k => XS.goto X1.here hx rfl (pc0 := 22) (pc' := 26) rfl (hb hby d3_22) (by decide) (by decide) k) ?_
        show own_Go p.tables e below _ (T1.setTop (mkF m 26 #[.val (.int p0)] [(.int (1 : Int32))]))
        refine own_end X1 Bd.notSynchronized (v := some (.int (1 : Int32))) (fun h => by rw [Bd.returns] at h; cases h) (fun fs hr => retN X1 hx (t := .boolean) Bd.returns (by simp) (hb hby d3_26) hr) ?_ (by decide) (by decide)
        exact ⟨by rw [own_f3, if_pos hc3, if_pos hc9, if_pos hc18], N1, (e1 : T1.heap = h0)⟩
      · refine own_go (fun _ k => XS.ifYes X1.here hx rfl (pc0 := 18) (pc' := 25) rfl (hb hby d3_18) rfl ((if0 _ _).trans (feq hc18).2) (by decide) (by decide) k) ?_
        show own_Go p.tables e below _ (T1.setTop (mkF m 25 #[.val (.int p0)] []))
        refine own_go (fun _ k => XS.iconst X1.here hx rfl (hb hby d3_25) k) ?_
        show own_Go p.tables e below _ (T1.setTop (mkF m 26 #[.val (.int p0)] [(.int (0 : Int32))]))
        refine own_end X1 Bd.notSynchronized (v := some (.int (0 : Int32))) (fun h => by rw [Bd.returns] at h; cases h) (fun fs hr => retN X1 hx (t := .boolean) Bd.returns (by simp) (hb hby d3_26) hr) ?_ (by decide) (by decide)
        exact ⟨by rw [own_f3, if_pos hc3, if_pos hc9, if_neg hc18], N1, (e1 : T1.heap = h0)⟩
    · refine own_go (fun _ k => XS.icmpNo X0.here hx rfl (hb hby d3_9) rfl (flt hc9).1 k) ?_
      show own_Go p.tables e below _ (s₁.setTop (mkF m 12 #[.val (.int p0)] []))
      refine own_go (fun _ k => XS.iconst X0.here hx rfl (hb hby d3_12) k) ?_
      show own_Go p.tables e below _ (s₁.setTop (mkF m 13 #[.val (.int p0)] [(.int (0 : Int32))]))
      refine own_end X0 Bd.notSynchronized (v := some (.int (0 : Int32))) (fun h => by rw [Bd.returns] at h; cases h) (fun fs hr => retN X0 hx (t := .boolean) Bd.returns (by simp) (hb hby d3_13) hr) ?_ (by decide) (by decide)
      exact ⟨by rw [own_f3, if_pos hc3, if_neg hc9], N0, e0⟩
  · refine own_go (fun _ k => XS.icmpYes X0.here hx rfl (pc0 := 3) (pc' := 12) rfl (hb hby d3_3) rfl (flt hc3).2.2.2 (by decide) (by decide) k) ?_
    show own_Go p.tables e below _ (s₁.setTop (mkF m 12 #[.val (.int p0)] []))
    refine own_go (fun _ k => XS.iconst X0.here hx rfl (hb hby d3_12) k) ?_
    show own_Go p.tables e below _ (s₁.setTop (mkF m 13 #[.val (.int p0)] [(.int (0 : Int32))]))
    refine own_end X0 Bd.notSynchronized (v := some (.int (0 : Int32))) (fun h => by rw [Bd.returns] at h; cases h) (fun fs hr => retN X0 hx (t := .boolean) Bd.returns (by simp) (hb hby d3_13) hr) ?_ (by decide) (by decide)
    exact ⟨by rw [own_f3, if_neg hc3], N0, e0⟩
theorem own_fin : ∀ n : Fin 256, own_f1 (Int32.ofNat n.val) = own_f3 (Int32.ofNat n.val) := by decide +kernel
theorem own_val (c : Int32) : own_f1 c = own_f3 c := by
  have k : (0 : Int32).toInt = 0 ∧ (32 : Int32).toInt = 32 ∧ (48 : Int32).toInt = 48 ∧ (57 : Int32).toInt = 57 ∧ (65 : Int32).toInt = 65 ∧ (90 : Int32).toInt = 90 ∧ (97 : Int32).toInt = 97 ∧ (122 : Int32).toInt = 122 ∧ (127 : Int32).toInt = 127 ∧ (128 : Int32).toInt = 128 ∧ (255 : Int32).toInt = 255 ∧ (-1 : Int32).toInt = -1 := by decide
  obtain ⟨k0, k1, k2, k3, k4, k5, k6, k7, k8, k9, k10, k11⟩ := k
  have r := rng32 c
  by_cases h : 0 ≤ c.toInt ∧ c.toInt < 256
  · have e : c = Int32.ofNat c.toInt.toNat := by
      rw [← Int32.toInt_inj, Int32.toInt_ofNat_of_lt (by omega)]; omega
    have q := own_fin ⟨c.toInt.toNat, by omega⟩
    rw [e]; exact q
  · have a1 : own_fs4 c = 0 := by
      simp only [own_fs4, Int32.lt_iff_toInt_lt, k0, k10]
      repeat' split
      all_goals first | rfl | (exfalso; omega)
    have a2 : own_fs10 c = -1 := by simp [own_fs10, own_fs9, own_fs8, a1]
    simp only [own_f1, own_f3, a2, Int32.lt_iff_toInt_lt, k0, k1, k2, k3, k4, k5, k6, k7, k8, k9, k11]
    repeat' split
    all_goals first | rfl | (exfalso; omega)
theorem pn0 : plainName "com/example/vestibule/vestibule/http/HttpFieldsIsTokenCharPinLaw" = true := by first | (simp [plainName, overriddenIn]; done) | decide +kernel
theorem pd0_0 : parseMethodDescriptor "(I)Z" = some ⟨[.int], some .boolean⟩ := by decide +kernel
theorem ef0 (m : MethodId) (p0 : Int32) (p1 : Int32) : entryFrame m #[(.int p0), (.int p1)] maxLocals = mkF m 0 #[.val (.int p0), .val (.int p1), .unset] [] := by first | (simp [entryFrame, mkF, argsToLocals, Value.category, maxLocals]; done) | rfl
def own_Q0 (Z : State) (p0 : Int32) (p1 : Int32) (wc : Int32) (h0 : Heap) (n0 : Nat) (v : Option Value) (h : Heap) (L : List Loc) : Prop := v = some (.int 1) ∧ Fr n0 L
set_option maxRecDepth 65536 in
set_option maxHeartbeats 40000000 in
theorem rm0 (l : Launch) (Z : State) (az : Array Value) (hw : ∀ d ∈ tables_1, d.before az Z = true) (ws : List Jvm.Cond) (p0 : Int32) (p1 : Int32) (wc : Int32) (h0 : Heap) (n0 : Nat) (Z0 : n0 ≤ h0.size) (S_COMPACT_STRINGS : Sta Z h0 "java/lang/String" "COMPACT_STRINGS" "Z" (.int wc)) (hwc : ¬ (wc = (0 : Int32))) :
    MetFree l x (head1 (Jvm.Cond.code x code maxLocals ret :: ws) room_1) (fun a U => a = #[(.int p0), (.int p1)] ∧ Z.Warmed39 U.vm ∧ U.heap = h0 ∧ CHv Z consts_1 U.vm h0) (fun _ _ _ _ _ => True) (fun _ U o U' => ∃ v L, o = .returned v ∧ own_Q0 Z p0 p1 wc h0 n0 v U'.heap L ∧ CHr Z consts_1 U.vm U.heap U'.vm U'.heap ∧ ReturnedEndW U o U' L 8 1088) := by
  refine MetFree.of_bodySF (plainFor_of_name pn0) hisR ?_
  intro p e s m args below meth c s₁ Bd hml0 hP hK
  obtain ⟨rfl, hZ, hh, HC⟩ := hP
  have hx := Bd.exec
  have hby := Bd.bytes
  have hml : c.maxLocals = 3 := hml0
  have hZ : Z.Warmed39 (s.setVm s.vm).vm := hZ
  have hown : (s.setVm s.vm).vm.findClass "com/example/vestibule/vestibule/http/HttpFieldsIsTokenCharPinLaw" = some m.cls := findClass_of_methodNamed Bd.named
  have hnm := (name_of_methodNamed Bd.named Bd.method).1
  have X0 : Stand p l e room_1 (s.setVm s.vm) m #[(.int p0), (.int p1)] below meth c s₁ [] 0 0 := by rw [State.setVm_self]; exact Stand.of_body Bd
  have e0 : s₁.heap = h0 := by rw [← hh, Bd.state]; rfl
  have N0 := Fr.nil n0
  have hS : s.Since s.vm h0.size := (State.WarmedH.refl s).since _
  have hk : h0.size ≤ h0.size := Nat.le_refl _
  have hEL := own_EL hw
  have CR := CHr.refl HC
  show own_Go p.tables e below (fun o U' => ∃ v L, o = .returned v ∧ own_Q0 Z p0 p1 wc h0 n0 v U'.heap L ∧ CHr Z consts_1 s.vm s.heap U'.vm U'.heap ∧ ReturnedEndW s o U' L 8 1088) (s₁.setTop (entryFrame m #[(.int p0), (.int p1)] maxLocals))
  refine own_go (fun _ k => castTop (ef0 m p0 p1) k) ?_
  show own_Go p.tables e below _ (s₁.setTop (mkF m 0 #[.val (.int p0), .val (.int p1), .unset] []))
  refine own_go (fun _ k => XS.iloadN X0.here hx rfl (hb hby at_0) rfl k) ?_
  show own_Go p.tables e below _ (s₁.setTop (mkF m 1 #[.val (.int p0), .val (.int p1), .unset] [(.int p1)]))
  refine own_go (fun _ k => XS.iconst X0.here hx rfl (hb hby at_1) k) ?_
  show own_Go p.tables e below _ (s₁.setTop (mkF m 2 #[.val (.int p0), .val (.int p1), .unset] [(.int (1 : Int32)), (.int p1)]))
  refine own_go (fun _ k => XS.iand X0.here hx rfl (hb hby at_2) rfl k) ?_
  show own_Go p.tables e below _ (s₁.setTop (mkF m 3 #[.val (.int p0), .val (.int p1), .unset] [(.int (p1 &&& (1 : Int32)))]))
  have sg1 : ∀ t, Steps p.tables e below (s₁.setTop (mkF m 15 #[.val (.int p0), .val (.int p1), .unset] [(.int (if (p1 &&& (1 : Int32)) = (0 : Int32) then p0 else (p0 &&& (255 : Int32))))])) t → Steps p.tables e below (s₁.setTop (mkF m 3 #[.val (.int p0), .val (.int p1), .unset] [(.int (p1 &&& (1 : Int32)))])) t := by
    intro t k
    by_cases hc3 : (p1 &&& (1 : Int32)) = (0 : Int32)
    · try simp only [if_pos hc3] at k
      refine XS.ifYes X0.here hx rfl (pc0 := 3) (pc' := 14) rfl (hb hby at_3) rfl ((if0 _ _).trans (teq hc3).1) (by decide) (by decide) ?_
      show Steps p.tables e below (s₁.setTop (mkF m 14 #[.val (.int p0), .val (.int p1), .unset] [])) _
      refine XS.iloadN X0.here hx rfl (hb hby at_14) rfl ?_
      show Steps p.tables e below (s₁.setTop (mkF m 15 #[.val (.int p0), .val (.int p1), .unset] [(.int p0)])) _
      exact k
    · try simp only [if_neg hc3] at k
      refine XS.ifNo X0.here hx rfl (hb hby at_3) rfl ((if0 _ _).trans (feq hc3).1) ?_
      show Steps p.tables e below (s₁.setTop (mkF m 6 #[.val (.int p0), .val (.int p1), .unset] [])) _
      refine XS.iloadN X0.here hx rfl (hb hby at_6) rfl ?_
      show Steps p.tables e below (s₁.setTop (mkF m 7 #[.val (.int p0), .val (.int p1), .unset] [(.int p0)])) _
      refine XS.sipush X0.here hx rfl (hb hby at_7) ?_
      show Steps p.tables e below (s₁.setTop (mkF m 10 #[.val (.int p0), .val (.int p1), .unset] [(.int (255 : Int32)), (.int p0)])) _
      refine XS.iand X0.here hx rfl (hb hby at_10) rfl ?_
      show Steps p.tables e below (s₁.setTop (mkF m 11 #[.val (.int p0), .val (.int p1), .unset] [(.int (p0 &&& (255 : Int32)))])) _
      refine XS.goto X0.here hx rfl (pc0 := 11) (pc' := 15) rfl (hb hby at_11) (by decide) (by decide) ?_
      show Steps p.tables e below (s₁.setTop (mkF m 15 #[.val (.int p0), .val (.int p1), .unset] [(.int (p0 &&& (255 : Int32)))])) _
      exact k
  refine own_go sg1 ?_
  show own_Go p.tables e below _ (s₁.setTop (mkF m 15 #[.val (.int p0), .val (.int p1), .unset] [(.int (if (p1 &&& (1 : Int32)) = (0 : Int32) then p0 else (p0 &&& (255 : Int32))))]))
  refine own_go (fun _ k => XS.istoreN X0.here hx rfl (hb hby at_15) rfl (l' := #[.val (.int p0), .val (.int p1), .val (.int (if (p1 &&& (1 : Int32)) = (0 : Int32) then p0 else (p0 &&& (255 : Int32))))]) rfl k) ?_
  show own_Go p.tables e below _ (s₁.setTop (mkF m 16 #[.val (.int p0), .val (.int p1), .val (.int (if (p1 &&& (1 : Int32)) = (0 : Int32) then p0 else (p0 &&& (255 : Int32))))] []))
  obtain ⟨vc, hvc⟩ : ∃ z : Int32, z = (if (p1 &&& (1 : Int32)) = (0 : Int32) then p0 else (p0 &&& (255 : Int32))) := ⟨_, rfl⟩
  rw [← hvc]
  show own_Go p.tables e below _ (s₁.setTop (mkF m 16 #[.val (.int p0), .val (.int p1), .val (.int vc)] []))
  refine own_go (fun _ k => XS.iloadN X0.here hx rfl (hb hby at_16) rfl k) ?_
  show own_Go p.tables e below _ (s₁.setTop (mkF m 17 #[.val (.int p0), .val (.int p1), .val (.int vc)] [(.int vc)]))
  obtain ⟨_, _, ⟨T2, L2, k2, n2⟩, -, X2, hS2, hg2, ⟨Lc2, hQ2, l2, y2, z2, hC2⟩, st2⟩ := callSS X0 hx (y := (⟨"com/example/vestibule/vestibule/http/HttpFields", "isTokenChar", "(I)Z"⟩ : MethodName)) hown (mvT hZ (hw _ (List.mem_of_getElem? (i := 0) rfl))) (mvT hZ (hw _ (List.mem_of_getElem? (i := 1) rfl))) (mvT hZ (hw _ (List.mem_of_getElem? (i := 2) rfl))) (mvT hZ (hw _ (List.mem_of_getElem? (i := 3) rfl))) (by decide) (backOfSH (W := 0) (rm1 l Z az hw [] vc wc h0 n0 Z0 S_COMPACT_STRINGS hwc) hZ (hw _ (List.mem_of_getElem? (i := 3) rfl)) (hw _ (List.mem_of_getElem? (i := 2) rfl)) (by decide) (by decide) hEL HC) (g := (mkF m 17 #[.val (.int p0), .val (.int p1), .val (.int vc)] [(.int vc)])) rfl (by rw [hml]; rfl) (argsL := [(.int vc)]) (rest := []) (lenOf pd0_0 rfl) rfl (by show 2 * 0 + _ ≤ _; exact Nat.le_of_eq rfl) (hb hby at_17) (fun _ _ => ⟨rfl, e0, (by decide : 0 + 2 ≤ _), (by decide : 0 + 64 ≤ _)⟩)
  dsimp only [Pt.U, Pt.locs, Pt.cells, Pt.slots] at X2 hS2 hg2 l2 y2 z2 st2 hQ2 hC2
  subst l2 y2 z2
  obtain ⟨X2, hS, hZ, hown⟩ := rebS hS (by rw [e0]; exact hk) X2 hS2 hg2 hZ hown
  have CR := CR.trans hC2
  have HC := hC2.1
  refine own_go (fun _ k => st2.trans k) ?_
  obtain ⟨rfl, N2q, K2⟩ := hQ2
  have N2 := Fr.app N0 N2q
  have E2 := own_kx K2
  have c2_0 := S_COMPACT_STRINGS.ext E2
  have Z2 : n0 ≤ T2.heap.size := Nat.le_trans Z0 K2.1
  have hk := Nat.le_refl T2.heap.size
  show own_Go p.tables e below _ (T2.setTop (mkF m 20 #[.val (.int p0), .val (.int p1), .val (.int vc)] [(.int (own_f1 vc))]))
  refine own_go (fun _ k => XS.iloadN X2.here hx rfl (hb hby at_20) rfl k) ?_
  show own_Go p.tables e below _ (T2.setTop (mkF m 21 #[.val (.int p0), .val (.int p1), .val (.int vc)] [(.int vc), (.int (own_f1 vc))]))
  obtain ⟨_, _, ⟨T3, L3, k3, n3⟩, -, X3, ⟨Lc3, hQ3, l3, y3, z3⟩, st3⟩ := Jvm.LawKit.callS X2 hx (y := (⟨"com/example/vestibule/vestibule/http/HttpFieldsIsTokenCharPinLaw", "expected", "(I)Z"⟩ : MethodName)) hown (mvT hZ (hw _ (List.mem_of_getElem? (i := 57) rfl))) (mvT hZ (hw _ (List.mem_of_getElem? (i := 58) rfl))) (mvT hZ (hw _ (List.mem_of_getElem? (i := 59) rfl))) (mvT hZ (hw _ (List.mem_of_getElem? (i := 60) rfl))) (by decide) (backOf (W := 1) (rm3 l Z az hw [] vc T2.heap n0 Z2) hZ (hw _ (List.mem_of_getElem? (i := 60) rfl)) (hw _ (List.mem_of_getElem? (i := 59) rfl)) (by decide) (by decide)) (g := (mkF m 21 #[.val (.int p0), .val (.int p1), .val (.int vc)] [(.int vc), (.int (own_f1 vc))])) rfl (by rw [hml]; rfl) (argsL := [(.int vc)]) (rest := [(.int (own_f1 vc))]) (lenOf pd0_0 rfl) rfl (by show 2 * 0 + _ ≤ _; exact Nat.le_of_eq rfl) (hb hby at_21) (fun _ _ => ⟨rfl, rfl, (by decide : 2 + 0 ≤ _), (by decide : 64 + 0 ≤ _)⟩)
  dsimp only [Pt.U, Pt.locs, Pt.cells, Pt.slots] at X3 l3 y3 z3 st3 hQ3
  subst l3 y3 z3
  refine own_go st3 ?_
  obtain ⟨rfl, N3q, e3⟩ := hQ3
  have N3 := Fr.app N2 N3q
  show own_Go p.tables e below _ (T3.setTop (mkF m 24 #[.val (.int p0), .val (.int p1), .val (.int vc)] [(.int (own_f3 vc)), (.int (own_f1 vc))]))
  have hf24 : (own_f1 vc) = (own_f3 vc) := own_val vc
  refine own_go (fun _ k => XS.icmpNo X3.here hx rfl (hb hby at_24) rfl (teq hf24).2 k) ?_
  show own_Go p.tables e below _ (T3.setTop (mkF m 27 #[.val (.int p0), .val (.int p1), .val (.int vc)] []))
  refine own_go (fun _ k => XS.iconst X3.here hx rfl (hb hby at_27) k) ?_
  show own_Go p.tables e below _ (T3.setTop (mkF m 28 #[.val (.int p0), .val (.int p1), .val (.int vc)] [(.int (1 : Int32))]))
  refine own_go (fun _ k => XS.goto X3.here hx rfl (pc0 := 28) (pc' := 32) rfl (hb hby at_28) (by decide) (by decide) k) ?_
  show own_Go p.tables e below _ (T3.setTop (mkF m 32 #[.val (.int p0), .val (.int p1), .val (.int vc)] [(.int (1 : Int32))]))
  refine own_endH X3 (by rw [hh, (e3 : T3.heap = T2.heap)]; exact CR.trans (CHv.at X3 hZ hEL HC)) hS (by rw [(e3 : T3.heap = T2.heap)]; exact hk) Bd.notSynchronized (v := some (.int (1 : Int32))) (fun h => by rw [Bd.returns] at h; cases h) (fun fs hr => retN X3 hx (t := .boolean) Bd.returns (by simp) (hb hby at_32) hr) ?_ (by decide) (by decide)
  exact ⟨rfl, N3⟩
set_option maxRecDepth 65536 in
set_option maxHeartbeats 40000000 in
theorem comes_1 {Post : Tables → Env → Array Value → State → Outcome → State → Prop} (hpost : ∀ tb e args s v u, (limb_1_1.after args s (.returned v) u = true ∧ limb_1_2.after args s (.returned v) u = true ∧ True) → ReturnedEndW s (.returned v) u (Jvm.fieldLocs frame_1_writes args s ++ Jvm.arrayLocs frame_1_arrays args s ++ Jvm.staticLocs frame_1_statics s) 8 1088 → Post tb e args s (.returned v) u) :
    ArmFor flags0 classFile x code maxLocals ret World_1 tables_1 room_1 Calls_1 rest_1 Pre_1 Post := by
  intro l hfl _ _ p e ha hc hk s m args below hf hA hF happ hP
  obtain ⟨hcalls, hrest, hpre⟩ := hP
  obtain ⟨-, -, -, hnamed, -, -, -, hat⟩ := (Spec.applies_iff hf).mp happ
  obtain ⟨hg, hn⟩ := and_e (Cond.before_iff.mp (show (Jvm.Cond.and given_1 narrow_1).before args s = true from hpre))
  obtain ⟨g1, g2⟩ := and_e hg
  obtain ⟨g3, g4⟩ := and_e g2
  obtain ⟨w0, w1, rfl⟩ : ∃ w0 w1 : Value, args = #[w0, w1] := by
    have hs : args.size = 2 := by simpa [Cond.value, given_1] using g1
    obtain ⟨L⟩ := args
    match L, hs with
    | [w0, w1], _ => exact ⟨w0, w1, rfl⟩
  have hw := fun d (hd : d ∈ tables_1) => atoms_spec (ws := Jvm.Cond.code x code maxLocals ret :: tables_1) hat d (List.mem_cons_of_mem _ hd)
  obtain ⟨i0, ei0⟩ := is_v g3
  obtain rfl : w0 = (.int i0) := Option.some.inj ei0
  obtain ⟨i1, ei1⟩ := is_v g4
  obtain rfl : w1 = (.int i1) := Option.some.inj ei1
  obtain ⟨hsets, hown0⟩ := atoms_of _ (rest_1_c_eq ▸ (show rest_1_c.before _ s = true from hrest))
  have n5 := not_v (Cond.before_iff.mp (hsets _ (List.mem_of_getElem? (i := 2) rfl)))
  obtain ⟨iwc, ewc⟩ := is_v (Cond.before_iff.mp (hsets _ (List.mem_of_getElem? (i := 1) rfl)))
  have Swc : Sta s s.heap "java/lang/String" "COMPACT_STRINGS" "Z" (.int iwc) := Sta.start ewc (Or.inl (hsets _ (List.mem_of_getElem? (i := 0) rfl)))
  have hwc : ¬ (iwc = (0 : Int32)) := gotF (Cond.eq_ints ewc (Term.int_eval (0))) n5
  have HC : CHv s consts_1 s.vm s.heap := CHv.start (own_EL hw) (fun p hp => hcalls.1 p hp) (hsets _ (List.mem_of_getElem? (i := 2) rfl)) (hw _ (List.mem_of_getElem? (i := 7) rfl)) (hw _ (List.mem_of_getElem? (i := 6) rfl))
  obtain ⟨n, o, h1, h2, h3, _, L, rfl, ⟨rfl, N⟩, -, hq⟩ := rm0 l s _ hw tables_1 i0 i1 iwc s.heap s.heap.size (Nat.le_refl _) Swc hwc p e ha hc hk s m _ below hf ((Spec.applies_iff_loose hf).mp happ).1 ⟨rfl, State.Warmed39.refl s, rfl, HC⟩ trivial
  refine ⟨n, _, h1, h2, h3, hpost _ _ _ _ _ _ ⟨Cond.after_iff.mpr rfl, Cond.after_iff.mpr (eq_i res_at (Term.int_eval (1)) rfl), trivial⟩ ⟨hq.1, hq.2.1, hq.2.2.1, (hq.2.2.2.sift fun y hy => Or.inr (N y hy)).mono (by decide) (by decide)⟩⟩
theorem main_1_1 : Claimed_1_1 := comes_1 fun _ _ _ _ _ _ h hF => ⟨h.1, hF⟩
theorem main_1_2 : Claimed_1_2 := comes_1 fun _ _ _ _ _ _ h hF => ⟨h.2.1, hF⟩
end Jvm.Pilot.@@N@@
namespace Jvm.Pilot.@@N@@
open Jvm Jvm.ClassFile Sem Op Lib Jvm.Free Jvm.Stand Jvm.Pilot.@@N@@.Jvm.D
/-! MADE BY PROGRAM (witnessworld.py) out of the Statement's table words and the real class files: 18 classes; the members and pool entries that the words name. The judged class is class 1, her method 3. -/
namespace start1
open Jvm.ClassFile
def u (s : String) : CpInfo := .utf8 (stringToUtf16 s)
/-- a pool by its gaps: so many unusable entries, then the entry; so many at the end -/
def gap : Nat → List CpInfo → List CpInfo
  | 0, r => r
  | n + 1, r => .unusable :: gap n r
def poolList (es : List (Nat × CpInfo)) (last : Nat) : List CpInfo := es.foldr (fun e r => gap e.1 (e.2 :: r)) (gap last [])
def pool (es : List (Nat × CpInfo)) (last : Nat) : Array CpInfo := ⟨poolList es last⟩
def fileOf (pool : Array CpInfo) (this : Nat) (attrs : Array Attribute := #[]) (ms : Array MethodInfo := #[]) (fl : Nat := 33) (sup : Nat := 0) (ifs : Array Nat := #[]) (fds : Array FieldInfo := #[]) : ClassFile where
  minorVersion := 0
  majorVersion := 65
  constantPool := pool
  accessFlags := fl
  thisClass := this
  superClass := sup
  interfaces := ifs
  fields := fds
  methods := ms
  attributes := attrs
def plain (name : String) (sup : Option ClassId) : Class where
  name := name
  kind := .ordinary
  loader := none
  accessFlags := 33
  super := sup
  interfaces := #[]
  cf := none
  fields := #[]
  methods := #[]
  instanceTypes := #[]
  staticTypes := #[]
  resolved := #[]
  callSites := []
  init := .initialized
  statics := none
  mirror := none

def pool0 : Array CpInfo := pool [(5, u "<init>"), (0, u "()V"), (1, .class_ 10), (1, u "java/lang/Object")] 113

def k0m0 : Method := { name := "<init>", desc := "()V", sig := { parameters := [], returnType := none }, accessFlags := 1, code := none }
/-- java/lang/Object -/
def k0 : Class := { plain "java/lang/Object" none with
  accessFlags := 33
  interfaces := #[]
  cf := some (fileOf pool0 8 #[] #[{ accessFlags := 1, nameIndex := 5, descriptorIndex := 6, attributes := #[] }] 33 0 #[] #[])
  fields := #[]
  methods := #[k0m0]
  instanceTypes := #[]
  staticTypes := #[]
  resolved := Array.replicate 124 none
  statics := none }

def pool1 : Array CpInfo := pool [(2, .class_ 4), (1, u "java/lang/Object"), (0, u "<init>"), (0, u "()V"), (0, .methodref 8 9), (0, .class_ 10), (0, .nameAndType 11 12), (0, u "com/example/vestibule/vestibule/http/HttpFieldsIsTokenCharPinLaw"), (0, u "isDelimiter"), (0, u "(I)Z"), (0, .methodref 14 15), (0, .class_ 16), (0, .nameAndType 17 12), (0, u "com/example/vestibule/vestibule/http/HttpFields"), (0, u "isTokenChar"), (0, .methodref 8 19), (0, .nameAndType 20 12), (0, u "expected"), (3, u "law"), (0, u "(II)Z")] 2

def k1m0 : Method := { name := "<init>", desc := "()V", sig := { parameters := [], returnType := none }, accessFlags := 1, code := none }
def k1c1 : Code := { maxStack := 2, maxLocals := 1, code := method_2_code, exceptionTable := #[], attributes := #[] }
def k1m1 : Method := { name := "isDelimiter", desc := "(I)Z", sig := { parameters := [.int], returnType := some .boolean }, accessFlags := 10, code := some k1c1 }
def k1c2 : Code := { maxStack := 2, maxLocals := 1, code := method_3_code, exceptionTable := #[], attributes := #[] }
def k1m2 : Method := { name := "expected", desc := "(I)Z", sig := { parameters := [.int], returnType := some .boolean }, accessFlags := 10, code := some k1c2 }
def k1c3 : Code := { maxStack := 2, maxLocals := 3, code := code, exceptionTable := #[], attributes := #[] }
def k1m3 : Method := { name := "law", desc := "(II)Z", sig := { parameters := [.int, .int], returnType := some .boolean }, accessFlags := 9, code := some k1c3 }
/-- com/example/vestibule/vestibule/http/HttpFieldsIsTokenCharPinLaw -/
def k1 : Class := { plain "com/example/vestibule/vestibule/http/HttpFieldsIsTokenCharPinLaw" (some 0) with
  accessFlags := 49
  interfaces := #[]
  cf := some (fileOf pool1 8 #[] #[{ accessFlags := 1, nameIndex := 5, descriptorIndex := 6, attributes := #[] }, { accessFlags := 10, nameIndex := 11, descriptorIndex := 12, attributes := #[] }, { accessFlags := 10, nameIndex := 20, descriptorIndex := 12, attributes := #[] }, { accessFlags := 9, nameIndex := 24, descriptorIndex := 25, attributes := #[] }] 49 2 #[] #[])
  fields := #[]
  methods := #[k1m0, k1m1, k1m2, k1m3]
  instanceTypes := #[]
  staticTypes := #[]
  resolved := Array.replicate 28 none
  statics := none }

def pool2 : Array CpInfo := pool [(2, .class_ 4), (1, u "java/lang/Object"), (0, u "<init>"), (0, u "()V"), (0, .class_ 8), (0, u "java/lang/String"), (1, .class_ 12), (1, u "com/example/vestibule/vestibule/http/HttpFields"), (0, u "fields"), (0, u "[Ljava/lang/String;"), (2, u "size"), (0, u "I"), (80, .methodref 7 100), (0, .nameAndType 101 102), (0, u "indexOf"), (0, u "(I)I"), (43, u "isTokenChar"), (0, u "(I)Z"), (0, .string 149), (0, u "!#$%&'*+-.^_`|~"), (0, u "FIRST_CAPACITY")] 39

def k2m0 : Method := { name := "<init>", desc := "()V", sig := { parameters := [], returnType := none }, accessFlags := 1, code := none }
def k2c1 : Code := { maxStack := 2, maxLocals := 1, code := prog_12_method_16_code, exceptionTable := #[], attributes := #[] }
def k2m1 : Method := { name := "isTokenChar", desc := "(I)Z", sig := { parameters := [.int], returnType := some .boolean }, accessFlags := 8, code := some k2c1 }
/-- com/example/vestibule/vestibule/http/HttpFields -/
def k2 : Class := { plain "com/example/vestibule/vestibule/http/HttpFields" (some 0) with
  accessFlags := 49
  interfaces := #[]
  cf := some (fileOf pool2 10 #[] #[{ accessFlags := 1, nameIndex := 5, descriptorIndex := 6, attributes := #[] }, { accessFlags := 8, nameIndex := 146, descriptorIndex := 147, attributes := #[] }] 49 2 #[] #[{ accessFlags := 26, nameIndex := 150, descriptorIndex := 18, attributes := #[] }, { accessFlags := 2, nameIndex := 13, descriptorIndex := 14, attributes := #[] }, { accessFlags := 2, nameIndex := 17, descriptorIndex := 18, attributes := #[] }])
  fields := #[{ name := "FIRST_CAPACITY", type := .int, accessFlags := 26, slot := 0, constantValue := 0 }, { name := "fields", type := (.array (.object "java/lang/String")), accessFlags := 2, slot := 0, constantValue := 0 }, { name := "size", type := .int, accessFlags := 2, slot := 1, constantValue := 0 }]
  methods := #[k2m0, k2m1]
  instanceTypes := #[(.array (.object "java/lang/String")), .int]
  staticTypes := #[.int]
  resolved := Array.replicate 190 none
  statics := none }

def pool3 : Array CpInfo := pool [(1, .class_ 2), (0, u "java/io/Serializable"), (0, .class_ 4), (0, u "java/lang/Object")] 2

/-- java/io/Serializable -/
def k3 : Class := { plain "java/io/Serializable" (some 0) with
  accessFlags := 1537
  interfaces := #[]
  cf := some (fileOf pool3 1 #[] #[] 1537 3 #[] #[])
  fields := #[]
  methods := #[]
  instanceTypes := #[]
  staticTypes := #[]
  resolved := Array.replicate 7 none
  statics := none }

def pool4 : Array CpInfo := pool [(1, .class_ 2), (0, u "java/lang/Comparable"), (0, .class_ 4), (0, u "java/lang/Object")] 7

/-- java/lang/Comparable -/
def k4 : Class := { plain "java/lang/Comparable" (some 0) with
  accessFlags := 1537
  interfaces := #[]
  cf := some (fileOf pool4 1 #[] #[] 1537 3 #[] #[])
  fields := #[]
  methods := #[]
  instanceTypes := #[]
  staticTypes := #[]
  resolved := Array.replicate 12 none
  statics := none }

def pool5 : Array CpInfo := pool [(2, .class_ 4), (1, u "java/lang/CharSequence"), (42, .class_ 48), (0, u "java/lang/CharSequence$1CodePointIterator"), (10, .class_ 60), (0, u "java/lang/CharSequence$1CharIterator"), (5, .class_ 67), (0, u "java/lang/Object")] 63

/-- java/lang/CharSequence -/
def k5 : Class := { plain "java/lang/CharSequence" (some 0) with
  accessFlags := 1537
  interfaces := #[]
  cf := some (fileOf pool5 2 #[.nestMembers #[47, 59]] #[] 1537 66 #[] #[])
  fields := #[]
  methods := #[]
  instanceTypes := #[]
  staticTypes := #[]
  resolved := Array.replicate 131 none
  statics := none }

def pool6 : Array CpInfo := pool [(1, .class_ 2), (0, u "java/lang/constant/Constable"), (0, .class_ 4), (0, u "java/lang/Object")] 6

/-- java/lang/constant/Constable -/
def k6 : Class := { plain "java/lang/constant/Constable" (some 0) with
  accessFlags := 1537
  interfaces := #[]
  cf := some (fileOf pool6 1 #[] #[] 1537 3 #[] #[])
  fields := #[]
  methods := #[]
  instanceTypes := #[]
  staticTypes := #[]
  resolved := Array.replicate 11 none
  statics := none }

def pool7 : Array CpInfo := pool [(1, .class_ 2), (0, u "java/lang/constant/ConstantDesc"), (0, .class_ 4), (0, u "java/lang/Object")] 32

/-- java/lang/constant/ConstantDesc -/
def k7 : Class := { plain "java/lang/constant/ConstantDesc" (some 0) with
  accessFlags := 1537
  interfaces := #[]
  cf := some (fileOf pool7 1 #[] #[] 1537 3 #[] #[])
  fields := #[]
  methods := #[]
  instanceTypes := #[]
  staticTypes := #[]
  resolved := Array.replicate 37 none
  statics := none }

def pool8 : Array CpInfo := pool [(2, .class_ 4), (1, u "java/lang/Object"), (0, u "<init>"), (0, u "()V"), (2, .fieldref 10 11), (0, .class_ 12), (0, .nameAndType 13 14), (0, u "java/lang/String"), (0, u "value"), (0, u "[B"), (0, .fieldref 10 16), (0, .nameAndType 17 18), (0, u "coder"), (0, u "B"), (2, u "hash"), (0, u "I"), (2, u "hashIsZero"), (0, u "Z"), (11, .fieldref 10 39), (0, .nameAndType 40 26), (0, u "COMPACT_STRINGS"), (66, .class_ 109), (1, u "java/lang/StringLatin1"), (32, u "()Z"), (191, u "()I"), (0, .methodref 10 336), (0, .nameAndType 17 337), (0, u "()B"), (154, .methodref 10 493), (0, .nameAndType 494 142), (0, u "isLatin1"), (10, .methodref 10 506), (0, .nameAndType 507 334), (0, u "length"), (67, .class_ 576), (0, u "java/lang/CharSequence"), (22, u "CASE_INSENSITIVE_ORDER"), (0, u "Ljava/util/Comparator;"), (32, .methodref 10 634), (0, .nameAndType 635 636), (0, u "indexOf"), (0, u "(II)I"), (0, .methodref 107 638), (0, .nameAndType 635 639), (0, u "([BIII)I"), (125, u "(I)I"), (335, u "serialPersistentFields"), (0, u "[Ljava/io/ObjectStreamField;"), (0, .class_ 1104), (0, u "java/lang/String$CaseInsensitiveComparator"), (1, .class_ 1107), (0, u "java/io/Serializable"), (0, .class_ 1109), (0, u "java/lang/Comparable"), (0, .class_ 1111), (0, u "java/lang/constant/Constable"), (0, .class_ 1113), (0, u "java/lang/constant/ConstantDesc"), (2, u "serialVersionUID"), (0, u "J"), (3, u "REPL"), (0, u "C"), (2, u "LATIN1"), (1, u "UTF16")] 323

def k8m0 : Method := { name := "<init>", desc := "()V", sig := { parameters := [], returnType := none }, accessFlags := 1, code := none }
def k8c1 : Code := { maxStack := 2, maxLocals := 1, code := jdk_42_method_54_code, exceptionTable := #[], attributes := #[] }
def k8m1 : Method := { name := "length", desc := "()I", sig := { parameters := [], returnType := some .int }, accessFlags := 1, code := some k8c1 }
def k8c2 : Code := { maxStack := 3, maxLocals := 2, code := jdk_42_method_79_code, exceptionTable := #[], attributes := #[] }
def k8m2 : Method := { name := "indexOf", desc := "(I)I", sig := { parameters := [.int], returnType := some .int }, accessFlags := 1, code := some k8c2 }
def k8c3 : Code := { maxStack := 4, maxLocals := 3, code := jdk_42_method_80_code, exceptionTable := #[], attributes := #[] }
def k8m3 : Method := { name := "indexOf", desc := "(II)I", sig := { parameters := [.int, .int], returnType := some .int }, accessFlags := 1, code := some k8c3 }
def k8c4 : Code := { maxStack := 1, maxLocals := 1, code := jdk_42_method_152_code, exceptionTable := #[], attributes := #[] }
def k8m4 : Method := { name := "coder", desc := "()B", sig := { parameters := [], returnType := some .byte }, accessFlags := 0, code := some k8c4 }
def k8c5 : Code := { maxStack := 1, maxLocals := 1, code := jdk_42_method_154_code, exceptionTable := #[], attributes := #[] }
def k8m5 : Method := { name := "isLatin1", desc := "()Z", sig := { parameters := [], returnType := some .boolean }, accessFlags := 0, code := some k8c5 }
/-- java/lang/String -/
def k8 : Class := { plain "java/lang/String" (some 0) with
  accessFlags := 49
  interfaces := #[3, 4, 5, 6, 7]
  cf := some (fileOf pool8 10 #[.nestMembers #[1103]] #[{ accessFlags := 1, nameIndex := 5, descriptorIndex := 6, attributes := #[] }, { accessFlags := 1, nameIndex := 507, descriptorIndex := 334, attributes := #[] }, { accessFlags := 1, nameIndex := 635, descriptorIndex := 765, attributes := #[] }, { accessFlags := 1, nameIndex := 635, descriptorIndex := 636, attributes := #[] }, { accessFlags := 0, nameIndex := 17, descriptorIndex := 337, attributes := #[] }, { accessFlags := 0, nameIndex := 494, descriptorIndex := 142, attributes := #[] }] 49 2 #[1106, 1108, 575, 1110, 1112] #[{ accessFlags := 18, nameIndex := 13, descriptorIndex := 14, attributes := #[] }, { accessFlags := 18, nameIndex := 17, descriptorIndex := 18, attributes := #[] }, { accessFlags := 2, nameIndex := 21, descriptorIndex := 22, attributes := #[] }, { accessFlags := 2, nameIndex := 25, descriptorIndex := 26, attributes := #[] }, { accessFlags := 26, nameIndex := 1116, descriptorIndex := 1117, attributes := #[] }, { accessFlags := 24, nameIndex := 40, descriptorIndex := 26, attributes := #[] }, { accessFlags := 26, nameIndex := 1101, descriptorIndex := 1102, attributes := #[] }, { accessFlags := 26, nameIndex := 1121, descriptorIndex := 1122, attributes := #[] }, { accessFlags := 25, nameIndex := 599, descriptorIndex := 600, attributes := #[] }, { accessFlags := 24, nameIndex := 1125, descriptorIndex := 18, attributes := #[] }, { accessFlags := 24, nameIndex := 1127, descriptorIndex := 18, attributes := #[] }])
  fields := #[{ name := "value", type := (.array .byte), accessFlags := 18, slot := 0, constantValue := 0 }, { name := "coder", type := .byte, accessFlags := 18, slot := 1, constantValue := 0 }, { name := "hash", type := .int, accessFlags := 2, slot := 2, constantValue := 0 }, { name := "hashIsZero", type := .boolean, accessFlags := 2, slot := 3, constantValue := 0 }, { name := "serialVersionUID", type := .long, accessFlags := 26, slot := 0, constantValue := 0 }, { name := "COMPACT_STRINGS", type := .boolean, accessFlags := 24, slot := 1, constantValue := 0 }, { name := "serialPersistentFields", type := (.array (.object "java/io/ObjectStreamField")), accessFlags := 26, slot := 2, constantValue := 0 }, { name := "REPL", type := .char, accessFlags := 26, slot := 3, constantValue := 0 }, { name := "CASE_INSENSITIVE_ORDER", type := (.object "java/util/Comparator"), accessFlags := 25, slot := 4, constantValue := 0 }, { name := "LATIN1", type := .byte, accessFlags := 24, slot := 5, constantValue := 0 }, { name := "UTF16", type := .byte, accessFlags := 24, slot := 6, constantValue := 0 }]
  methods := #[k8m0, k8m1, k8m2, k8m3, k8m4, k8m5]
  instanceTypes := #[(.array .byte), .byte, .int, .boolean]
  staticTypes := #[.long, .boolean, (.array (.object "java/io/ObjectStreamField")), .char, (.object "java/util/Comparator"), .byte, .byte]
  resolved := Array.replicate 1451 none
  statics := some 0 }

def pool9 : Array CpInfo := pool [(4, .class_ 6), (1, u "java/lang/Object"), (0, u "<init>"), (0, u "()V"), (5, .class_ 16), (1, u "java/lang/StringLatin1"), (21, .methodref 39 40), (0, .class_ 41), (0, .nameAndType 42 43), (0, u "java/lang/Math"), (0, u "min"), (0, u "(II)I"), (44, .methodref 14 89), (0, .nameAndType 90 91), (0, u "canEncode"), (0, u "(I)Z"), (0, .methodref 39 93), (0, .nameAndType 94 43), (0, u "max"), (0, .methodref 14 96), (0, .nameAndType 97 98), (0, u "indexOfChar"), (0, u "([BIII)I"), (2, u "indexOf"), (19, u "$assertionsDisabled"), (0, u "Z"), (98, .class_ 223), (1, u "java/lang/StringLatin1$LinesSpliterator"), (166, .class_ 391), (0, u "java/lang/StringLatin1$CharsSpliterator")] 3

def k9m0 : Method := { name := "<init>", desc := "()V", sig := { parameters := [], returnType := none }, accessFlags := 0, code := none }
def k9c1 : Code := { maxStack := 2, maxLocals := 1, code := jdk_43_method_4_code, exceptionTable := #[], attributes := #[] }
def k9m1 : Method := { name := "canEncode", desc := "(I)Z", sig := { parameters := [.int], returnType := some .boolean }, accessFlags := 9, code := some k9c1 }
def k9c2 : Code := { maxStack := 4, maxLocals := 4, code := jdk_43_method_22_code, exceptionTable := #[], attributes := #[] }
def k9m2 : Method := { name := "indexOf", desc := "([BIII)I", sig := { parameters := [(.array .byte), .int, .int, .int], returnType := some .int }, accessFlags := 9, code := some k9c2 }
def k9c3 : Code := { maxStack := 2, maxLocals := 6, code := jdk_43_method_23_code, exceptionTable := #[], attributes := #[] }
def k9m3 : Method := { name := "indexOfChar", desc := "([BIII)I", sig := { parameters := [(.array .byte), .int, .int, .int], returnType := some .int }, accessFlags := 10, code := some k9c3 }
/-- java/lang/StringLatin1 -/
def k9 : Class := { plain "java/lang/StringLatin1" (some 0) with
  accessFlags := 48
  interfaces := #[]
  cf := some (fileOf pool9 14 #[.nestMembers #[390, 221]] #[{ accessFlags := 0, nameIndex := 7, descriptorIndex := 8, attributes := #[] }, { accessFlags := 9, nameIndex := 90, descriptorIndex := 91, attributes := #[] }, { accessFlags := 9, nameIndex := 101, descriptorIndex := 98, attributes := #[] }, { accessFlags := 10, nameIndex := 97, descriptorIndex := 98, attributes := #[] }] 48 4 #[] #[{ accessFlags := 4120, nameIndex := 121, descriptorIndex := 122, attributes := #[] }])
  fields := #[{ name := "$assertionsDisabled", type := .boolean, accessFlags := 4120, slot := 0, constantValue := 0 }]
  methods := #[k9m0, k9m1, k9m2, k9m3]
  instanceTypes := #[]
  staticTypes := #[.boolean]
  resolved := Array.replicate 395 none
  statics := none }

def pool10 : Array CpInfo := pool [(1, .class_ 2), (0, u "java/lang/Math"), (1, .class_ 6), (1, u "java/lang/Object"), (0, u "<init>"), (0, u "()V"), (89, .class_ 100), (1, u "java/lang/Math$RandomNumberGeneratorHolder"), (71, u "negativeZeroFloatBits"), (0, u "J"), (2, u "negativeZeroDoubleBits"), (21, u "max"), (2, u "min"), (43, u "$assertionsDisabled"), (0, u "Z"), (88, u "(II)I"), (2, u "twoToTheDoubleScaleDown"), (0, u "D"), (4, u "twoToTheDoubleScaleUp"), (9, u "E"), (3, u "PI"), (2, u "TAU"), (2, u "DEGREES_TO_RADIANS"), (0, u "RADIANS_TO_DEGREES")] 94

def k10m0 : Method := { name := "<init>", desc := "()V", sig := { parameters := [], returnType := none }, accessFlags := 2, code := none }
def k10c1 : Code := { maxStack := 2, maxLocals := 2, code := jdk_29_method_65_code, exceptionTable := #[], attributes := #[] }
def k10m1 : Method := { name := "max", desc := "(II)I", sig := { parameters := [.int, .int], returnType := some .int }, accessFlags := 9, code := some k10c1 }
def k10c2 : Code := { maxStack := 2, maxLocals := 2, code := jdk_29_method_69_code, exceptionTable := #[], attributes := #[] }
def k10m2 : Method := { name := "min", desc := "(II)I", sig := { parameters := [.int, .int], returnType := some .int }, accessFlags := 9, code := some k10c2 }
/-- java/lang/Math -/
def k10 : Class := { plain "java/lang/Math" (some 0) with
  accessFlags := 49
  interfaces := #[]
  cf := some (fileOf pool10 1 #[.nestMembers #[98]] #[{ accessFlags := 2, nameIndex := 7, descriptorIndex := 8, attributes := #[] }, { accessFlags := 9, nameIndex := 198, descriptorIndex := 335, attributes := #[] }, { accessFlags := 9, nameIndex := 201, descriptorIndex := 335, attributes := #[] }] 49 4 #[] #[{ accessFlags := 25, nameIndex := 354, descriptorIndex := 339, attributes := #[] }, { accessFlags := 25, nameIndex := 358, descriptorIndex := 339, attributes := #[] }, { accessFlags := 25, nameIndex := 361, descriptorIndex := 339, attributes := #[] }, { accessFlags := 26, nameIndex := 364, descriptorIndex := 339, attributes := #[] }, { accessFlags := 26, nameIndex := 365, descriptorIndex := 339, attributes := #[] }, { accessFlags := 26, nameIndex := 172, descriptorIndex := 173, attributes := #[] }, { accessFlags := 26, nameIndex := 176, descriptorIndex := 173, attributes := #[] }, { accessFlags := 8, nameIndex := 344, descriptorIndex := 339, attributes := #[] }, { accessFlags := 8, nameIndex := 338, descriptorIndex := 339, attributes := #[] }, { accessFlags := 4120, nameIndex := 245, descriptorIndex := 246, attributes := #[] }])
  fields := #[{ name := "E", type := .double, accessFlags := 25, slot := 0, constantValue := 0 }, { name := "PI", type := .double, accessFlags := 25, slot := 1, constantValue := 0 }, { name := "TAU", type := .double, accessFlags := 25, slot := 2, constantValue := 0 }, { name := "DEGREES_TO_RADIANS", type := .double, accessFlags := 26, slot := 3, constantValue := 0 }, { name := "RADIANS_TO_DEGREES", type := .double, accessFlags := 26, slot := 4, constantValue := 0 }, { name := "negativeZeroFloatBits", type := .long, accessFlags := 26, slot := 5, constantValue := 0 }, { name := "negativeZeroDoubleBits", type := .long, accessFlags := 26, slot := 6, constantValue := 0 }, { name := "twoToTheDoubleScaleUp", type := .double, accessFlags := 8, slot := 7, constantValue := 0 }, { name := "twoToTheDoubleScaleDown", type := .double, accessFlags := 8, slot := 8, constantValue := 0 }, { name := "$assertionsDisabled", type := .boolean, accessFlags := 4120, slot := 9, constantValue := 0 }]
  methods := #[k10m0, k10m1, k10m2]
  instanceTypes := #[]
  staticTypes := #[.double, .double, .double, .double, .double, .long, .long, .double, .double, .boolean]
  resolved := Array.replicate 460 none
  statics := none }

def pool11 : Array CpInfo := pool [(2, .class_ 4), (1, u "java/lang/Object"), (0, u "<init>"), (0, u "()V"), (17, .class_ 26), (1, u "jdk/internal/util/Preconditions"), (28, .class_ 56), (0, u "jdk/internal/util/Preconditions$4"), (57, .class_ 115), (0, u "jdk/internal/util/Preconditions$1"), (7, u "SIOOBE_FORMATTER"), (0, u "Ljava/util/function/BiFunction;"), (0, .class_ 126), (0, u "jdk/internal/util/Preconditions$2"), (3, u "AIOOBE_FORMATTER"), (0, .class_ 132), (0, u "jdk/internal/util/Preconditions$3"), (3, u "IOOBE_FORMATTER")] 57

def k11m0 : Method := { name := "<init>", desc := "()V", sig := { parameters := [], returnType := none }, accessFlags := 1, code := none }
/-- jdk/internal/util/Preconditions -/
def k11 : Class := { plain "jdk/internal/util/Preconditions" (some 0) with
  accessFlags := 33
  interfaces := #[]
  cf := some (fileOf pool11 24 #[.nestMembers #[55, 131, 125, 114]] #[{ accessFlags := 1, nameIndex := 5, descriptorIndex := 6, attributes := #[] }] 33 2 #[] #[{ accessFlags := 25, nameIndex := 123, descriptorIndex := 124, attributes := #[] }, { accessFlags := 25, nameIndex := 130, descriptorIndex := 124, attributes := #[] }, { accessFlags := 25, nameIndex := 136, descriptorIndex := 124, attributes := #[] }])
  fields := #[{ name := "SIOOBE_FORMATTER", type := (.object "java/util/function/BiFunction"), accessFlags := 25, slot := 0, constantValue := 0 }, { name := "AIOOBE_FORMATTER", type := (.object "java/util/function/BiFunction"), accessFlags := 25, slot := 1, constantValue := 0 }, { name := "IOOBE_FORMATTER", type := (.object "java/util/function/BiFunction"), accessFlags := 25, slot := 2, constantValue := 0 }]
  methods := #[k11m0]
  instanceTypes := #[]
  staticTypes := #[(.object "java/util/function/BiFunction"), (.object "java/util/function/BiFunction"), (.object "java/util/function/BiFunction")]
  resolved := Array.replicate 194 none
  statics := some 1 }

def pool12 : Array CpInfo := pool [(9, u "<init>"), (6, .class_ 18), (1, u "java/lang/Object"), (0, u "()V"), (1, .class_ 23), (1, u "jdk/internal/util/ArraysSupport"), (0, u "LOG2_ARRAY_LONG_INDEX_SCALE"), (0, u "I"), (2, u "U"), (0, u "Ljdk/internal/misc/Unsafe;"), (8, u "BIG_ENDIAN"), (0, u "Z"), (8, u "LOG2_BYTE_BIT_SIZE"), (4, u "LOG2_ARRAY_INT_INDEX_SCALE"), (54, u "JLA"), (0, u "Ljdk/internal/access/JavaLangAccess;"), (11, u "LOG2_ARRAY_BOOLEAN_INDEX_SCALE"), (9, u "LOG2_ARRAY_BYTE_INDEX_SCALE"), (5, u "LOG2_ARRAY_CHAR_INDEX_SCALE"), (5, u "LOG2_ARRAY_SHORT_INDEX_SCALE"), (18, u "LOG2_ARRAY_FLOAT_INDEX_SCALE"), (24, u "LOG2_ARRAY_DOUBLE_INDEX_SCALE"), (89, u "T_BOOLEAN"), (2, u "T_CHAR"), (1, u "T_FLOAT"), (1, u "T_DOUBLE"), (1, u "T_BYTE"), (1, u "T_SHORT"), (1, u "T_INT"), (1, u "T_LONG"), (1, u "SOFT_MAX_ARRAY_LENGTH")] 83

def k12m0 : Method := { name := "<init>", desc := "()V", sig := { parameters := [], returnType := none }, accessFlags := 2, code := none }
/-- jdk/internal/util/ArraysSupport -/
def k12 : Class := { plain "jdk/internal/util/ArraysSupport" (some 0) with
  accessFlags := 33
  interfaces := #[]
  cf := some (fileOf pool12 21 #[] #[{ accessFlags := 2, nameIndex := 9, descriptorIndex := 19, attributes := #[] }] 33 16 #[] #[{ accessFlags := 24, nameIndex := 28, descriptorIndex := 29, attributes := #[] }, { accessFlags := 26, nameIndex := 38, descriptorIndex := 39, attributes := #[] }, { accessFlags := 25, nameIndex := 121, descriptorIndex := 25, attributes := #[] }, { accessFlags := 25, nameIndex := 131, descriptorIndex := 25, attributes := #[] }, { accessFlags := 25, nameIndex := 137, descriptorIndex := 25, attributes := #[] }, { accessFlags := 25, nameIndex := 143, descriptorIndex := 25, attributes := #[] }, { accessFlags := 25, nameIndex := 53, descriptorIndex := 25, attributes := #[] }, { accessFlags := 25, nameIndex := 24, descriptorIndex := 25, attributes := #[] }, { accessFlags := 25, nameIndex := 162, descriptorIndex := 25, attributes := #[] }, { accessFlags := 25, nameIndex := 187, descriptorIndex := 25, attributes := #[] }, { accessFlags := 26, nameIndex := 48, descriptorIndex := 25, attributes := #[] }, { accessFlags := 25, nameIndex := 277, descriptorIndex := 25, attributes := #[] }, { accessFlags := 25, nameIndex := 280, descriptorIndex := 25, attributes := #[] }, { accessFlags := 25, nameIndex := 282, descriptorIndex := 25, attributes := #[] }, { accessFlags := 25, nameIndex := 284, descriptorIndex := 25, attributes := #[] }, { accessFlags := 25, nameIndex := 286, descriptorIndex := 25, attributes := #[] }, { accessFlags := 25, nameIndex := 288, descriptorIndex := 25, attributes := #[] }, { accessFlags := 25, nameIndex := 290, descriptorIndex := 25, attributes := #[] }, { accessFlags := 25, nameIndex := 292, descriptorIndex := 25, attributes := #[] }, { accessFlags := 26, nameIndex := 108, descriptorIndex := 109, attributes := #[] }, { accessFlags := 25, nameIndex := 294, descriptorIndex := 25, attributes := #[] }])
  fields := #[{ name := "U", type := (.object "jdk/internal/misc/Unsafe"), accessFlags := 24, slot := 0, constantValue := 0 }, { name := "BIG_ENDIAN", type := .boolean, accessFlags := 26, slot := 1, constantValue := 0 }, { name := "LOG2_ARRAY_BOOLEAN_INDEX_SCALE", type := .int, accessFlags := 25, slot := 2, constantValue := 0 }, { name := "LOG2_ARRAY_BYTE_INDEX_SCALE", type := .int, accessFlags := 25, slot := 3, constantValue := 0 }, { name := "LOG2_ARRAY_CHAR_INDEX_SCALE", type := .int, accessFlags := 25, slot := 4, constantValue := 0 }, { name := "LOG2_ARRAY_SHORT_INDEX_SCALE", type := .int, accessFlags := 25, slot := 5, constantValue := 0 }, { name := "LOG2_ARRAY_INT_INDEX_SCALE", type := .int, accessFlags := 25, slot := 6, constantValue := 0 }, { name := "LOG2_ARRAY_LONG_INDEX_SCALE", type := .int, accessFlags := 25, slot := 7, constantValue := 0 }, { name := "LOG2_ARRAY_FLOAT_INDEX_SCALE", type := .int, accessFlags := 25, slot := 8, constantValue := 0 }, { name := "LOG2_ARRAY_DOUBLE_INDEX_SCALE", type := .int, accessFlags := 25, slot := 9, constantValue := 0 }, { name := "LOG2_BYTE_BIT_SIZE", type := .int, accessFlags := 26, slot := 10, constantValue := 0 }, { name := "T_BOOLEAN", type := .int, accessFlags := 25, slot := 11, constantValue := 0 }, { name := "T_CHAR", type := .int, accessFlags := 25, slot := 12, constantValue := 0 }, { name := "T_FLOAT", type := .int, accessFlags := 25, slot := 13, constantValue := 0 }, { name := "T_DOUBLE", type := .int, accessFlags := 25, slot := 14, constantValue := 0 }, { name := "T_BYTE", type := .int, accessFlags := 25, slot := 15, constantValue := 0 }, { name := "T_SHORT", type := .int, accessFlags := 25, slot := 16, constantValue := 0 }, { name := "T_INT", type := .int, accessFlags := 25, slot := 17, constantValue := 0 }, { name := "T_LONG", type := .int, accessFlags := 25, slot := 18, constantValue := 0 }, { name := "JLA", type := (.object "jdk/internal/access/JavaLangAccess"), accessFlags := 26, slot := 19, constantValue := 0 }, { name := "SOFT_MAX_ARRAY_LENGTH", type := .int, accessFlags := 25, slot := 20, constantValue := 0 }]
  methods := #[k12m0]
  instanceTypes := #[]
  staticTypes := #[(.object "jdk/internal/misc/Unsafe"), .boolean, .int, .int, .int, .int, .int, .int, .int, .int, .int, .int, .int, .int, .int, .int, .int, .int, .int, (.object "jdk/internal/access/JavaLangAccess"), .int]
  resolved := Array.replicate 378 none
  statics := none }

def pool13 : Array CpInfo := pool [(1, u "java/lang/Cloneable"), (0, .class_ 1), (0, u "java/lang/Object"), (0, .class_ 3)] 3

/-- java/lang/Cloneable -/
def k13 : Class := { plain "java/lang/Cloneable" (some 0) with
  accessFlags := 1537
  interfaces := #[]
  cf := some (fileOf pool13 2 #[] #[] 1537 4 #[] #[])
  fields := #[]
  methods := #[]
  instanceTypes := #[]
  staticTypes := #[]
  resolved := Array.replicate 8 none
  statics := none }

/-- the primitive byte -/
def k14 : Class := { plain "byte" none with kind := .primitive 'B', accessFlags := 0x411 }
/-- [B -/
def k15 : Class := { plain "[B" (some 0) with kind := .array 14 .byte, interfaces := #[13, 3], accessFlags := 1041 }

/-- the primitive int -/
def k16 : Class := { plain "int" none with kind := .primitive 'I', accessFlags := 0x411 }
/-- [I -/
def k17 : Class := { plain "[I" (some 0) with kind := .array 16 .int, interfaces := #[13, 3], accessFlags := 1041 }

def heap : Heap := #[{ cls := 8, slots := #[.long 0, .int 1, .null, .int 0, .null, .int 0, .int 0], vm := .statics 8 },
  { cls := 11, slots := #[.null, .null, .null], vm := .statics 11 }]
def classes : Array Class := #[k0, k1, k2, k3, k4, k5, k6, k7, k8, k9, k10, k11, k12, k13, k14, k15, k16, k17]
def interned : List (Array UInt16 × Addr) := []
def slotsUsed : Nat := 10
def theMethod : MethodId := ⟨1, 3⟩
def args0 : Array Value := #[.int 65, .int 3]
def aboutOver (below : List Frame) : State where
  vm := { classes := classes, interned := interned.toArray }
  heap := heap
  slotsUsed := slotsUsed
  threads := #[{ frames := .invoking theMethod args0 :: below }]
def below0 : List Frame := [.native { method := ⟨0, 0⟩, args := #[] }]
def about1 : State := aboutOver below0
def p0 : Program := .bare "" "" ""
def e0 : Env := launch0.env 0 0 0
theorem w_frames : about1.frames = Frame.invoking theMethod args0 :: below0 := rfl
set_option maxRecDepth 65536 in
theorem w_args : argsFit about1.vm theMethod args0 = true := by decide +kernel
set_option maxRecDepth 65536 in
theorem w_heap : heapFits about1 = true := by decide +kernel
set_option maxRecDepth 65536 in
theorem w_runnable : about1.curStatus? = some .runnable := by decide +kernel
set_option maxRecDepth 65536 in
theorem w_alone : about1.alone = true := by decide +kernel
set_option maxRecDepth 65536 in
theorem w_named : about1.methodNamed? x = some theMethod := by decide +kernel
set_option maxRecDepth 65536 in
theorem w_hears : about1.hears theMethod below0 = true := by decide +kernel
set_option maxRecDepth 65536 in
theorem w_ripe : about1.ripe theMethod args0 below0 = true := by decide +kernel
theorem w_running : about1.status = .running := rfl
set_option maxRecDepth 65536 in
theorem w_room : about1.hasRoom e0.platform room_1 = true :=
  launch0.hasRoom_least _ room_1 (by decide +kernel) (by decide +kernel) (by decide +kernel) (by decide +kernel) (by decide +kernel) (by decide +kernel)
theorem allAtoms_all (ts : List Jvm.Cond) (a : Array Jvm.Value) (st : Jvm.State) : (allAtoms ts).before a st = ts.all (fun c => c.before a st) := by
  induction ts with
  | nil => rfl
  | cons c t ih =>
    show (Jvm.Cond.and c (allAtoms t)).before a st = _
    rw [Jvm.Cond.before_and, ih, List.all_cons]
def words1 : List Jvm.Cond := Jvm.Cond.code x code maxLocals ret :: tables_1
/-- a 'code' word, met by the world's own term for the bytes: nothing is compared byte by byte -/
theorem code_word {y : MethodName} {bytes : ByteArray} {mx : Nat} {rt : Option FieldType} {a : Array Value} {s : State} {m : MethodId} {meth : Method} {c : Code} (h1 : s.methodNamed? y = some m) (h2 : s.vm.method? m = some meth) (h3 : meth.code = some c) (h4 : c.code = bytes)
    (h5 : (c.maxLocals == mx && c.exceptionTable.isEmpty && decide (c.maxStack ≤ mostOperands) && decide (meth.sig.returnType = rt) && !meth.locks && decide (parseMethodDescriptor y.desc = some meth.sig)) = true) : (Jvm.Cond.code y bytes mx rt).before a s = true := by
  simp only [Bool.and_eq_true, beq_iff_eq, Bool.not_eq_true', decide_eq_true_eq] at h5
  obtain ⟨⟨⟨⟨⟨g1, g2⟩, g3⟩, g4⟩, g5⟩, g6⟩ := h5
  simp [Cond.before, Cond.holds, Cond.value, h1, h2, h3, h4, g1, g2, g3, g4, g5, g6]
def isCode : Jvm.Cond → Bool
  | .code _ _ _ _ => true
  | _ => false
theorem all_split {L : List Jvm.Cond} {P : Jvm.Cond → Bool} (h1 : L.all (fun c => isCode c || P c) = true) (h2 : ∀ c ∈ L.filter isCode, P c = true) : L.all P = true := by
  refine List.all_eq_true.mpr fun c hc => ?_
  have h := List.all_eq_true.mp h1 c hc
  rcases Bool.eq_false_or_eq_true (isCode c) with hi | hi
  · exact h2 c (List.mem_filter.mpr ⟨hc, hi⟩)
  · simpa [hi] using h
set_option maxRecDepth 65536 in
theorem w_c0 : (Jvm.Cond.code x code maxLocals ret).before args0 about1 = true := code_word (m := ⟨1, 3⟩) (meth := k1m3) (c := k1c3) (by decide +kernel) rfl rfl rfl (by decide +kernel)
set_option maxRecDepth 65536 in
theorem w_c1 : (Jvm.Cond.code ({ cls := "com/example/vestibule/vestibule/http/HttpFields", name := "isTokenChar", desc := "(I)Z" } : Jvm.MethodName) prog_12_method_16_code (1 : Nat) (Option.some Jvm.ClassFile.FieldType.boolean)).before args0 about1 = true := code_word (m := ⟨2, 1⟩) (meth := k2m1) (c := k2c1) (by decide +kernel) rfl rfl rfl (by decide +kernel)
set_option maxRecDepth 65536 in
theorem w_c2 : (Jvm.Cond.code ({ cls := "java/lang/String", name := "indexOf", desc := "(I)I" } : Jvm.MethodName) jdk_42_method_79_code (2 : Nat) (Option.some Jvm.ClassFile.FieldType.int)).before args0 about1 = true := code_word (m := ⟨8, 2⟩) (meth := k8m2) (c := k8c2) (by decide +kernel) rfl rfl rfl (by decide +kernel)
set_option maxRecDepth 65536 in
theorem w_c3 : (Jvm.Cond.code ({ cls := "java/lang/String", name := "indexOf", desc := "(II)I" } : Jvm.MethodName) jdk_42_method_80_code (3 : Nat) (Option.some Jvm.ClassFile.FieldType.int)).before args0 about1 = true := code_word (m := ⟨8, 3⟩) (meth := k8m3) (c := k8c3) (by decide +kernel) rfl rfl rfl (by decide +kernel)
set_option maxRecDepth 65536 in
theorem w_c4 : (Jvm.Cond.code ({ cls := "java/lang/String", name := "isLatin1", desc := "()Z" } : Jvm.MethodName) jdk_42_method_154_code (1 : Nat) (Option.some Jvm.ClassFile.FieldType.boolean)).before args0 about1 = true := code_word (m := ⟨8, 5⟩) (meth := k8m5) (c := k8c5) (by decide +kernel) rfl rfl rfl (by decide +kernel)
set_option maxRecDepth 65536 in
theorem w_c5 : (Jvm.Cond.code ({ cls := "java/lang/String", name := "length", desc := "()I" } : Jvm.MethodName) jdk_42_method_54_code (1 : Nat) (Option.some Jvm.ClassFile.FieldType.int)).before args0 about1 = true := code_word (m := ⟨8, 1⟩) (meth := k8m1) (c := k8c1) (by decide +kernel) rfl rfl rfl (by decide +kernel)
set_option maxRecDepth 65536 in
theorem w_c6 : (Jvm.Cond.code ({ cls := "java/lang/String", name := "coder", desc := "()B" } : Jvm.MethodName) jdk_42_method_152_code (1 : Nat) (Option.some Jvm.ClassFile.FieldType.byte)).before args0 about1 = true := code_word (m := ⟨8, 4⟩) (meth := k8m4) (c := k8c4) (by decide +kernel) rfl rfl rfl (by decide +kernel)
set_option maxRecDepth 65536 in
theorem w_c7 : (Jvm.Cond.code ({ cls := "java/lang/StringLatin1", name := "indexOf", desc := "([BIII)I" } : Jvm.MethodName) jdk_43_method_22_code (4 : Nat) (Option.some Jvm.ClassFile.FieldType.int)).before args0 about1 = true := code_word (m := ⟨9, 2⟩) (meth := k9m2) (c := k9c2) (by decide +kernel) rfl rfl rfl (by decide +kernel)
set_option maxRecDepth 65536 in
theorem w_c8 : (Jvm.Cond.code ({ cls := "java/lang/StringLatin1", name := "canEncode", desc := "(I)Z" } : Jvm.MethodName) jdk_43_method_4_code (1 : Nat) (Option.some Jvm.ClassFile.FieldType.boolean)).before args0 about1 = true := code_word (m := ⟨9, 1⟩) (meth := k9m1) (c := k9c1) (by decide +kernel) rfl rfl rfl (by decide +kernel)
set_option maxRecDepth 65536 in
theorem w_c9 : (Jvm.Cond.code ({ cls := "java/lang/Math", name := "max", desc := "(II)I" } : Jvm.MethodName) jdk_29_method_65_code (2 : Nat) (Option.some Jvm.ClassFile.FieldType.int)).before args0 about1 = true := code_word (m := ⟨10, 1⟩) (meth := k10m1) (c := k10c1) (by decide +kernel) rfl rfl rfl (by decide +kernel)
set_option maxRecDepth 65536 in
theorem w_c10 : (Jvm.Cond.code ({ cls := "java/lang/Math", name := "min", desc := "(II)I" } : Jvm.MethodName) jdk_29_method_69_code (2 : Nat) (Option.some Jvm.ClassFile.FieldType.int)).before args0 about1 = true := code_word (m := ⟨10, 2⟩) (meth := k10m2) (c := k10c2) (by decide +kernel) rfl rfl rfl (by decide +kernel)
set_option maxRecDepth 65536 in
theorem w_c11 : (Jvm.Cond.code ({ cls := "java/lang/StringLatin1", name := "indexOfChar", desc := "([BIII)I" } : Jvm.MethodName) jdk_43_method_23_code (6 : Nat) (Option.some Jvm.ClassFile.FieldType.int)).before args0 about1 = true := code_word (m := ⟨9, 3⟩) (meth := k9m3) (c := k9c3) (by decide +kernel) rfl rfl rfl (by decide +kernel)
set_option maxRecDepth 65536 in
theorem w_c12 : (Jvm.Cond.code ({ cls := "com/example/vestibule/vestibule/http/HttpFieldsIsTokenCharPinLaw", name := "expected", desc := "(I)Z" } : Jvm.MethodName) method_3_code (1 : Nat) (Option.some Jvm.ClassFile.FieldType.boolean)).before args0 about1 = true := code_word (m := ⟨1, 2⟩) (meth := k1m2) (c := k1c2) (by decide +kernel) rfl rfl rfl (by decide +kernel)
set_option maxRecDepth 65536 in
theorem w_c13 : (Jvm.Cond.code ({ cls := "com/example/vestibule/vestibule/http/HttpFieldsIsTokenCharPinLaw", name := "isDelimiter", desc := "(I)Z" } : Jvm.MethodName) method_2_code (1 : Nat) (Option.some Jvm.ClassFile.FieldType.boolean)).before args0 about1 = true := code_word (m := ⟨1, 1⟩) (meth := k1m1) (c := k1c1) (by decide +kernel) rfl rfl rfl (by decide +kernel)
def codes1 : List Jvm.Cond := [Jvm.Cond.code x code maxLocals ret, Jvm.Cond.code ({ cls := "com/example/vestibule/vestibule/http/HttpFields", name := "isTokenChar", desc := "(I)Z" } : Jvm.MethodName) prog_12_method_16_code (1 : Nat) (Option.some Jvm.ClassFile.FieldType.boolean), Jvm.Cond.code ({ cls := "java/lang/String", name := "indexOf", desc := "(I)I" } : Jvm.MethodName) jdk_42_method_79_code (2 : Nat) (Option.some Jvm.ClassFile.FieldType.int), Jvm.Cond.code ({ cls := "java/lang/String", name := "indexOf", desc := "(II)I" } : Jvm.MethodName) jdk_42_method_80_code (3 : Nat) (Option.some Jvm.ClassFile.FieldType.int), Jvm.Cond.code ({ cls := "java/lang/String", name := "isLatin1", desc := "()Z" } : Jvm.MethodName) jdk_42_method_154_code (1 : Nat) (Option.some Jvm.ClassFile.FieldType.boolean), Jvm.Cond.code ({ cls := "java/lang/String", name := "length", desc := "()I" } : Jvm.MethodName) jdk_42_method_54_code (1 : Nat) (Option.some Jvm.ClassFile.FieldType.int), Jvm.Cond.code ({ cls := "java/lang/String", name := "coder", desc := "()B" } : Jvm.MethodName) jdk_42_method_152_code (1 : Nat) (Option.some Jvm.ClassFile.FieldType.byte), Jvm.Cond.code ({ cls := "java/lang/StringLatin1", name := "indexOf", desc := "([BIII)I" } : Jvm.MethodName) jdk_43_method_22_code (4 : Nat) (Option.some Jvm.ClassFile.FieldType.int), Jvm.Cond.code ({ cls := "java/lang/StringLatin1", name := "canEncode", desc := "(I)Z" } : Jvm.MethodName) jdk_43_method_4_code (1 : Nat) (Option.some Jvm.ClassFile.FieldType.boolean), Jvm.Cond.code ({ cls := "java/lang/Math", name := "max", desc := "(II)I" } : Jvm.MethodName) jdk_29_method_65_code (2 : Nat) (Option.some Jvm.ClassFile.FieldType.int), Jvm.Cond.code ({ cls := "java/lang/Math", name := "min", desc := "(II)I" } : Jvm.MethodName) jdk_29_method_69_code (2 : Nat) (Option.some Jvm.ClassFile.FieldType.int), Jvm.Cond.code ({ cls := "java/lang/StringLatin1", name := "indexOfChar", desc := "([BIII)I" } : Jvm.MethodName) jdk_43_method_23_code (6 : Nat) (Option.some Jvm.ClassFile.FieldType.int), Jvm.Cond.code ({ cls := "com/example/vestibule/vestibule/http/HttpFieldsIsTokenCharPinLaw", name := "expected", desc := "(I)Z" } : Jvm.MethodName) method_3_code (1 : Nat) (Option.some Jvm.ClassFile.FieldType.boolean), Jvm.Cond.code ({ cls := "com/example/vestibule/vestibule/http/HttpFieldsIsTokenCharPinLaw", name := "isDelimiter", desc := "(I)Z" } : Jvm.MethodName) method_2_code (1 : Nat) (Option.some Jvm.ClassFile.FieldType.boolean)]
set_option maxRecDepth 65536 in
theorem codes_eq : words1.filter isCode = codes1 := rfl
theorem w_codes : ∀ c ∈ words1.filter isCode, c.before args0 about1 = true := by
  rw [codes_eq]
  intro c hc
  simp only [codes1, List.mem_cons, List.not_mem_nil, or_false] at hc
  rcases hc with rfl | rfl | rfl | rfl | rfl | rfl | rfl | rfl | rfl | rfl | rfl | rfl | rfl | rfl
  · exact w_c0
  · exact w_c1
  · exact w_c2
  · exact w_c3
  · exact w_c4
  · exact w_c5
  · exact w_c6
  · exact w_c7
  · exact w_c8
  · exact w_c9
  · exact w_c10
  · exact w_c11
  · exact w_c12
  · exact w_c13
set_option maxRecDepth 65536 in
theorem w_t1 : (words1.take 24).all (fun c => isCode c || c.before args0 about1) = true := by decide +kernel
set_option maxRecDepth 65536 in
theorem w_t2 : ((words1.drop 24).take 24).all (fun c => isCode c || c.before args0 about1) = true := by decide +kernel
set_option maxRecDepth 65536 in
theorem w_t3 : ((words1.drop 24).drop 24).all (fun c => isCode c || c.before args0 about1) = true := by decide +kernel
theorem w_tables : (allAtoms (Jvm.Cond.code x code maxLocals ret :: tables_1)).before args0 about1 = true := by
  rw [allAtoms_all]
  show words1.all (fun c => c.before args0 about1) = true
  refine all_split ?_ w_codes
  rw [← List.take_append_drop 24 words1, List.all_append, w_t1, ← List.take_append_drop 24 (words1.drop 24), List.all_append, w_t2, w_t3]
  rfl
set_option maxRecDepth 65536 in
theorem w_rest : rest_1_c.before args0 about1 = true := by decide +kernel
set_option maxRecDepth 65536 in
theorem w_case : (Jvm.Cond.and given_1 narrow_1).before args0 about1 = true := by decide +kernel
set_option maxRecDepth 65536 in
theorem w_consts : constsHeld consts_1 about1 := Jvm.Lit.constsHeldB_iff.mp (by decide +kernel)
theorem w_applies : (headSpec (Jvm.Cond.code x code maxLocals ret :: tables_1) room_1).applies x e0.platform about1 = true :=
  (Spec.applies_iff w_frames).mpr ⟨w_running, w_runnable, w_alone, w_named, w_hears, w_ripe, w_room, w_tables⟩
theorem atStart : AtStart classFile x code maxLocals ret World_1 tables_1 room_1 Calls_1 rest_1 Pre_1 launch0 p0 e0 about1 theMethod args0 below0 :=
  ⟨lists_1, trivial, launch0.admits_env _ _ _, launch0.least_env, fairChoices_fair.cas, fairChoices_fair.clock, w_frames, w_args, w_heap, w_applies, ⟨w_consts, trivial⟩, w_rest, w_case⟩
end start1
theorem witness_1 : WitnessClaimed_1 := ⟨start1.p0, start1.e0, start1.about1, start1.theMethod, start1.args0, start1.below0, start1.atStart⟩
end Jvm.Pilot.@@N@@
